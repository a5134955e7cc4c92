import JvmDerived
import JvmDerived.Pilot.@@N@@Statement
import JvmDerived.Pilot.@@N@@Code
set_option linter.unusedVariables false
set_option linter.unusedSimpArgs false
namespace Jvm.RoadKit
open Sem ClassFile Op Lib Jvm.Stand Jvm.Free Jvm.LawKit
section New
variable {p : Program} {l : Launch} {e : Env} {R : Room} {s : State} {m : MethodId} {args : Array Value} {below : List Frame} {meth : Method} {c : Code} {T : State} {locs : List Loc} {cells slots : Nat}
theorem retI (X : Stand p l e R s m args below meth c T locs cells slots) (hx : p.tables.exec = Jvm.exec) {pc : Nat} {Ls : Array Slot} {z : Int32} {rest : List Value} (hret : meth.sig.returnType = some .int) (hd : decode c.code pc = .ok (.ireturn, 1)) {fs : List Frame}
    (hl : ∀ (f : JFrame) (acts : List Action), f.method = m → f.locked = none → f.entered = [] → (doReturn e (T.setTop f) acts (some (.int z))).1 = T.setFrames fs) : Steps p.tables e below (T.setTop (mkF m pc Ls (.int z :: rest))) (T.setFrames fs) := by
  have hm' : T.vm.method? m = some meth := X.method'
  have hn : narrow .int (.int z) = .int z := rfl
  show Steps p.tables e below (T.setTop { method := m, pc := pc, locals := Ls, stack := _ :: rest, locked := none }) _
  jvm_step X.here [X.here.top, hx, hd, hm', hret, hn]
  first | (intro acts; rw [hl _ acts rfl rfl rfl]) | rw [hl _ _ rfl rfl rfl]
  exact Steps.refl _
theorem retL (X : Stand p l e R s m args below meth c T locs cells slots) (hx : p.tables.exec = Jvm.exec) {pc : Nat} {Ls : Array Slot} {z : Int64} {rest : List Value} (hret : meth.sig.returnType = some .long) (hd : decode c.code pc = .ok (.lreturn, 1)) {fs : List Frame}
    (hl : ∀ (f : JFrame) (acts : List Action), f.method = m → f.locked = none → f.entered = [] → (doReturn e (T.setTop f) acts (some (.long z))).1 = T.setFrames fs) : Steps p.tables e below (T.setTop (mkF m pc Ls (.long z :: rest))) (T.setFrames fs) := by
  have hm' : T.vm.method? m = some meth := X.method'
  have hn : narrow .long (.long z) = .long z := rfl
  show Steps p.tables e below (T.setTop { method := m, pc := pc, locals := Ls, stack := _ :: rest, locked := none }) _
  jvm_step X.here [X.here.top, hx, hd, hm', hret, hn]
  first | (intro acts; rw [hl _ acts rfl rfl rfl]) | rw [hl _ _ rfl rfl rfl]
  exact Steps.refl _
end New
end Jvm.RoadKit
namespace Jvm.Pilot.@@N@@
open Jvm Jvm.ClassFile Sem Op Lib Jvm.Free Jvm.Stand Jvm.LawKit Jvm.RoadKit Bundle Jvm.Pilot.@@N@@.Jvm.D
set_option maxRecDepth 65536
set_option maxHeartbeats 40000000
theorem ow {Z : State} {a0 : Array Value} (hw : ∀ d ∈ tables_1, d.before a0 Z = true) (i : Nat) {d : Jvm.Cond} (h : tables_1[i]? = some d) : d.before a0 Z = true := hw d (List.mem_of_getElem? h)
abbrev rmk (f c s l : Nat) : Room := { frames := f, cells := c, slots := s, locals := l }
abbrev MetB (l : Launch) (y : MethodName) (bytes : ByteArray) (maxL : Nat) (ret : Option FieldType) (ws : List Jvm.Cond) (rm : Room) (Z : State) (h0 : Heap) (as' : Array Value) (Q : Option Value → Heap → List Loc → Prop) : Prop :=
  MetFree l y (head1 (Jvm.Cond.code y bytes maxL ret :: ws) rm) (fun a U => a = as' ∧ Z.Warmed39 U.vm ∧ U.heap = h0) (fun _ _ _ _ _ => True) (fun _ U o U' => ∃ v L, o = .returned v ∧ Q v U'.heap L ∧ FrameEnd U o U' L rm.cells rm.slots)
theorem own_body {l : Launch} {y : MethodName} {bytes : ByteArray} {maxL : Nat} {ret : Option FieldType} {ws : List Jvm.Cond} {rm : Room} {Z : State} {h0 : Heap} {as' : Array Value} {Q : Option Value → Heap → List Loc → Prop} (hpl : plainFor y = true)
    (body : ∀ (p : Program) (e : Env) (s : State) (m : MethodId) (below : List Frame) (meth : Method) (c : Code) (s₁ : State), p.tables.exec = Jvm.exec → c.code = bytes → c.maxLocals = maxL → s.vm.findClass y.cls = some m.cls → meth.name = y.name → meth.sig.returnType = ret → meth.locks = false → Z.Warmed39 s.vm → Stand p l e rm s m as' below meth c s₁ [] 0 0 → s₁.heap = h0 →
      ∃ s₂ o, Steps p.tables e below (s₁.setTop (entryFrame m as' maxL)) s₂ ∧ s₂.status = .running ∧ Ended s₂ below o ∧ ∃ v L, o = .returned v ∧ Q v s₂.heap L ∧ FrameEnd s o s₂ L rm.cells rm.slots) : MetB l y bytes maxL ret ws rm Z h0 as' Q := by
  refine MetFree.of_bodySF hpl hisR ?_
  intro p e s m args below meth c s₁ Bd hml0 hP hK
  obtain ⟨rfl, hZ, hh⟩ := hP
  exact body p e s m below meth c s₁ Bd.exec Bd.bytes hml0 (findClass_of_methodNamed Bd.named) (name_of_methodNamed Bd.named Bd.method).1 Bd.returns Bd.notSynchronized hZ (Stand.of_body Bd) (by rw [← hh, Bd.state]; rfl)
abbrev MetBW (l : Launch) (y : MethodName) (bytes : ByteArray) (maxL : Nat) (ret : Option FieldType) (ws : List Jvm.Cond) (rm : Room) (Z : State) (h0 : Heap) (as' : Array Value) (Q : Option Value → Heap → List Loc → Prop) : Prop :=
  MetFree l y (head1 (Jvm.Cond.code y bytes maxL ret :: ws) rm) (fun a U => a = as' ∧ Z.Warmed39 U.vm ∧ U.heap = h0) (fun _ _ _ _ _ => True) (fun _ U o U' => ∃ v L, o = .returned v ∧ Q v U'.heap L ∧ ReturnedEndW U o U' L rm.cells rm.slots)
theorem own_bodyW {l : Launch} {y : MethodName} {bytes : ByteArray} {maxL : Nat} {ret : Option FieldType} {ws : List Jvm.Cond} {rm : Room} {Z : State} {h0 : Heap} {as' : Array Value} {Q : Option Value → Heap → List Loc → Prop} (hpl : plainFor y = true)
    (body : ∀ (p : Program) (e : Env) (s : State) (m : MethodId) (below : List Frame) (meth : Method) (c : Code) (s₁ : State), p.tables.exec = Jvm.exec → c.code = bytes → c.maxLocals = maxL → (s.setVm s.vm).vm.findClass y.cls = some m.cls → meth.name = y.name → meth.sig.returnType = ret → meth.locks = false → Z.Warmed39 (s.setVm s.vm).vm → Stand p l e rm (s.setVm s.vm) m as' below meth c s₁ [] 0 0 → s₁.heap = h0 → s.Since s.vm h0.size →
      ∃ s₂ o, Steps p.tables e below (s₁.setTop (entryFrame m as' maxL)) s₂ ∧ s₂.status = .running ∧ Ended s₂ below o ∧ ∃ v L, o = .returned v ∧ Q v s₂.heap L ∧ ReturnedEndW s o s₂ L rm.cells rm.slots) : MetBW l y bytes maxL ret ws rm Z h0 as' Q := by
  refine MetFree.of_bodySF hpl hisR ?_
  intro p e s m args below meth c s₁ Bd hml0 hP hK
  obtain ⟨rfl, hZ, hh⟩ := hP
  exact body p e s m below meth c s₁ Bd.exec Bd.bytes hml0 (findClass_of_methodNamed Bd.named) (name_of_methodNamed Bd.named Bd.method).1 Bd.returns Bd.notSynchronized hZ (Stand.of_body Bd) (by rw [← hh, Bd.state]; rfl) ((State.WarmedH.refl s).since _)
abbrev MetBI (l : Launch) (y : MethodName) (bytes : ByteArray) (maxL : Nat) (ret : Option FieldType) (ws : List Jvm.Cond) (rm : Room) (Z : State) (EL : List (String × Nat)) (h0 : Heap) (as' : Array Value) (Q : Option Value → Heap → List Loc → Prop) : Prop :=
  MetFree l y (head1 (Jvm.Cond.code y bytes maxL ret :: ws) rm) (fun a U => a = as' ∧ Z.Warmed39 U.vm ∧ U.heap = h0 ∧ CHv Z EL U.vm h0) (fun _ _ _ _ _ => True) (fun _ U o U' => ∃ v L, o = .returned v ∧ Q v U'.heap L ∧ ReturnedEndW U o U' L rm.cells rm.slots)
theorem own_bodyI {l : Launch} {y : MethodName} {bytes : ByteArray} {maxL : Nat} {ret : Option FieldType} {ws : List Jvm.Cond} {rm : Room} {Z : State} {EL : List (String × Nat)} {h0 : Heap} {as' : Array Value} {Q : Option Value → Heap → List Loc → Prop} (hpl : plainFor y = true)
    (body : ∀ (p : Program) (e : Env) (s : State) (m : MethodId) (below : List Frame) (meth : Method) (c : Code) (s₁ : State), p.tables.exec = Jvm.exec → c.code = bytes → c.maxLocals = maxL → (s.setVm s.vm).vm.findClass y.cls = some m.cls → meth.name = y.name → meth.sig.returnType = ret → meth.locks = false → Z.Warmed39 (s.setVm s.vm).vm → Stand p l e rm (s.setVm s.vm) m as' below meth c s₁ [] 0 0 → s₁.heap = h0 → s.Since s.vm h0.size → CHv Z EL s.vm h0 →
      ∃ s₂ o, Steps p.tables e below (s₁.setTop (entryFrame m as' maxL)) s₂ ∧ s₂.status = .running ∧ Ended s₂ below o ∧ ∃ v L, o = .returned v ∧ Q v s₂.heap L ∧ ReturnedEndW s o s₂ L rm.cells rm.slots) : MetBI l y bytes maxL ret ws rm Z EL h0 as' Q := by
  refine MetFree.of_bodySF hpl hisR ?_
  intro p e s m args below meth c s₁ Bd hml0 hP hK
  obtain ⟨rfl, hZ, hh, hC⟩ := hP
  exact body p e s m below meth c s₁ Bd.exec Bd.bytes hml0 (findClass_of_methodNamed Bd.named) (name_of_methodNamed Bd.named Bd.method).1 Bd.returns Bd.notSynchronized hZ (Stand.of_body Bd) (by rw [← hh, Bd.state]; rfl) ((State.WarmedH.refl s).since _) hC
theorem own_backI {p : Program} {l : Launch} {e : Env} {R : Room} {s : State} {vm0 : Vm} {args : Array Value} {below : List Frame} {Z : State} {a0 : Array Value} {EL : List (String × Nat)} {h : Heap} {y : MethodName} {bytes : ByteArray} {maxL : Nat} {ret : Option FieldType} {rm : Room} {len W : Nat} {as' : Array Value} {Q : Option Value → Heap → List Loc → Prop}
    (hM : MetBI l y bytes maxL ret [] rm Z EL h as' Q) (hZ : Z.Warmed39 vm0) (wc : (Jvm.Cond.code y bytes maxL ret).before a0 Z = true) (wz : (Jvm.Cond.initialized y.cls).before a0 Z = true) (hf : rm.frames + 1 ≤ R.frames) (hl : W + (maxL + 11) + rm.locals ≤ R.locals) (hEL : EW Z a0 EL) (H : CHv Z EL vm0 h) :
    BackS l R p e below (s.setVm vm0) args y len W (fun A a => a = as' ∧ A.U.heap = h ∧ A.cells + rm.cells ≤ R.cells ∧ A.slots + rm.slots ≤ R.slots) (fun A _ v B => ∃ L, Q v B.U.heap L ∧ B.locs = A.locs ++ L ∧ B.cells = A.cells + rm.cells ∧ B.slots = A.slots + rm.slots) := by
  refine BackS.of_freeW (bytes := bytes) (maxL := maxL) (ret := ret) (E := fun _ _ o t L k n => k = rm.cells ∧ n = rm.slots ∧ ∃ v, o = .returned v ∧ Q v t.heap L) hM hf hl ?_ ?_ ?_ ?_ ?_
  · intro m meth c A a Y hp
    have hU : Z.Warmed39 A.U.vm := wtrans (s := s.setVm vm0) hZ Y.warmed
    refine ⟨?_, mv hU wc, mv hU wz, hp.2.2.1, hp.2.2.2⟩
    show (Jvm.Cond.and _ .tt).before a A.U = true
    rw [Cond.before_and, mv hU wc]; rfl
  · intro m meth c A a g mk Y hp
    exact ⟨hp.1, wtrans (s := s.setVm vm0) hZ Y.warmed, hp.2.1, (CHv.at Y hZ hEL H).1⟩
  · intros; trivial
  · rintro _ _ _ _ ⟨v, L, h1, h2, h3⟩
    exact ⟨L, _, _, h3, rfl, rfl, v, h1, h2⟩
  · rintro m meth c A a g mk v t L k n Y hp _ _ ⟨e1, e2, v', e3, e4⟩
    cases e3; subst e1 e2; exact ⟨L, e4, rfl, rfl, rfl⟩
abbrev vr (a : Addr) : Slot := .val (.ref a)
abbrev vi (a : Int32) : Slot := .val (.int a)
abbrev vl (a : Int64) : Slot := .val (.long a)
theorem own_sz {Z : State} {n0 : Nat} {h : Heap} (O : Old Z n0 h) : n0 ≤ h.size := O.1 ▸ O.2.1
theorem own_eq_int {args : Array Value} {first s : State} {o : Option Outcome} {idx : List Nat} {t : Term} {k : Int32} (h : (Jvm.Cond.eq t (.int k)).value args first o s idx = some true) : t.eval args first o idx s = some (.int k) := by
  simp only [Jvm.Cond.value, Term.eval] at h
  cases ht : t.eval args first o idx s with
  | none => simp [ht] at h
  | some x => cases x <;> simp [ht] at h ⊢; exact h
theorem own_eq_long {args : Array Value} {first s : State} {o : Option Outcome} {idx : List Nat} {t : Term} {k : Int64} (h : (Jvm.Cond.eq t (.long k)).value args first o s idx = some true) : t.eval args first o idx s = some (.long k) := by
  simp only [Jvm.Cond.value, Term.eval] at h
  cases ht : t.eval args first o idx s with
  | none => simp [ht] at h
  | some x => cases x <;> simp [ht] at h ⊢; exact h
theorem own_selp {s : State} {args : Array Value} {y : MethodName} {n : Nat} (wi : (Jvm.Cond.instantiable y.cls n).before args s = true) (wp : (Jvm.Cond.privateMethod y).before args s = true) (wm : (Jvm.Cond.instanceMethod y).before args s = true) (hy : y.cls ≠ "java/lang/invoke/MethodHandle" ∧ y.cls ≠ "java/lang/invoke/VarHandle") : (Jvm.Cond.selects y.cls y y).before args s = true := by
  obtain ⟨c, k, hc, hk, -, hni, -, -⟩ := Cond.instantiable_spec wi
  exact selects_self_of_private hc hk (Bool.or_eq_false_iff.mp hni).1 (Cond.privateMethod_at wp) wm hy
theorem own_getR {p : Program} {l : Launch} {e : Env} {R : Room} {s : State} {m : MethodId} {args : Array Value} {below : List Frame} {meth : Method} {c : Code} {T : State} {locs : List Loc} {cells slots : Nat} {Z : State} {a0 : Array Value} {h : Heap} (X : Stand p l e R s m args below meth c T locs cells slots) (hx : p.tables.exec = Jvm.exec) (hZ : Z.Warmed39 s.vm) {own R0 n d : String} {index : Nat} (hown : s.vm.findClass own = some m.cls) (w : (Jvm.Cond.fieldRef own index R0 n d).before a0 Z = true)
    (eT : T.heap = h) {a : Addr} {v : Value} (F : Fld Z h a R0 n d v) {g : JFrame} (hg : g.method = m) {rest : List Value} (hs : g.stack = .ref a :: rest) (hd : decode c.code g.pc = .ok (.getfield index, 3)) : ∃ T', Stand p l e R s m args below meth c T' locs cells slots ∧ T'.heap = h ∧ ∀ target, Steps p.tables e below (T'.setTop { g with pc := g.pc + 3, stack := v :: rest }) target → Steps p.tables e below (T.setTop g) target := by
  obtain ⟨cell, cf, k, i, f, h1, h2, h3, h4, -, -, h7⟩ := F
  have wT := Cond.fieldRef_warmed39 (wtrans hZ X.warmed) w
  obtain ⟨c', k', i', f', q1, q2⟩ := Cond.fieldRef_spec (cur := m.cls) (by show T.vm.findClass own = some m.cls; rw [X.warmed.alike.findClass]; exact hown) wT
  obtain ⟨k'', hf', -⟩ := State.fieldFound?_setVm (s := Z) (wtrans hZ X.warmed).alike h2
  cases hf'.symm.trans q1
  exact ⟨T, X, eT, fun target k => (X.getfieldR hx hg q2 h3 hs (by rw [eT]; exact h1) h4 h7 hd (Steps.refl _)).trans k⟩
theorem own_cloneV {p : Program} {l : Launch} {e : Env} {R : Room} {s : State} {m : MethodId} {args : Array Value} {below : List Frame} {meth : Method} {c : Code} {T : State} {locs : List Loc} {cells slots : Nat} {Z : State} {h : Heap} {a : Addr} {ty : FieldType} (X : Stand p l e R s m args below meth c T locs cells slots) (hx : p.tables.exec = Jvm.exec) (hZ : Z.Warmed39 s.vm) {a0 : Array Value} {own ad : String} {index : Nat} (hown : s.vm.findClass own = some m.cls)
    (w1 : (Jvm.Cond.methodLink own index ⟨ad, "clone", "()Ljava/lang/Object;"⟩).before a0 Z = true) (w2 : (Jvm.Cond.sameMethod ad "java/lang/Object" "clone" "()Ljava/lang/Object;").before a0 Z = true) (w3 : (Jvm.Cond.native ⟨"java/lang/Object", "clone", "()Ljava/lang/Object;"⟩).before a0 Z = true)
    (w4 : (Jvm.Cond.instanceMethod ⟨"java/lang/Object", "clone", "()Ljava/lang/Object;"⟩).before a0 Z = true) (w5 : (Jvm.Cond.selects ad ⟨ad, "clone", "()Ljava/lang/Object;"⟩ ⟨"java/lang/Object", "clone", "()Ljava/lang/Object;"⟩).before a0 Z = true) (w6 : (Jvm.Cond.castable ad "java/lang/Cloneable").before a0 Z = true)
    (eT : T.heap = h) {k : ClassId} {z : Int32} {vs : List Value} {dv : Value} (F : Arv Z h a k ty z vs dv) (E : Exa Z h a ad) {g : JFrame} (hg : g.method = m) (hsize : g.locals.size = c.maxLocals) {rest : List Value} (hst : g.stack = .ref a :: rest) (hd : decode c.code g.pc = .ok (.invokevirtual index, 3))
    (hf : 1 ≤ R.frames) {W cap : Nat} (hW : 2 * g.monitorRoom + (rest.map fun v => v.category).sum ≤ W) (hl : W + 14 ≤ R.locals) (hcap : z.toNatClampNeg ≤ cap) (hc : cells + 1 ≤ R.cells) (hsl : slots + cap ≤ R.slots) :
    ∃ T' h', Stand p l e R s m args below meth c T' locs (cells + 1) (slots + cap) ∧ T'.heap = h' ∧ Ext h h' ∧ Arv Z h' h.size k ty z vs dv ∧ Exa Z h' h.size ad ∧
      ∀ target, Steps p.tables e below (T'.setTop { g with pc := g.pc + 3, stack := .ref h.size :: rest }) target → Steps p.tables e below (T.setTop g) target := by
  obtain ⟨cl, A, q1, S, q3, H, G⟩ := F
  obtain ⟨T', h', X', e', ex, A', E', st⟩ := cloneA X hx hZ hown w1 w2 w3 w4 w5 w6 eT A E (fitC_of A fun i hi v hv => by rw [H i hi] at hv; cases hv; exact G i hi) hg hsize hst hd hf hW hl (by rw [S]; exact hcap) hc hsl
  exact ⟨T', h', X', e', ex, ⟨cloneOf cl, A', q1, S, q3, H, G⟩, E', st⟩
def own_mir (Z : State) (C : String) (m : Addr) : Prop := ∃ (c : ClassId) (k : Class), Z.vm.findClass C = some c ∧ Z.vm.classes[c]? = some k ∧ k.mirror = some m
theorem own_getClass {p : Program} {l : Launch} {e : Env} {R : Room} {s : State} {m : MethodId} {args : Array Value} {below : List Frame} {meth : Method} {c : Code} {T : State} {locs : List Loc} {cells slots : Nat} {Z : State} {h : Heap} {b mir : Addr} (X : Stand p l e R s m args below meth c T locs cells slots) (hx : p.tables.exec = Jvm.exec) (hZ : Z.Warmed39 s.vm) {a0 : Array Value} {own C : String} {index : Nat} (hown : s.vm.findClass own = some m.cls)
    (w1 : (Jvm.Cond.methodLink own index Jvm.Stand.gcN).before a0 Z = true) (w2 : (Jvm.Cond.declares Jvm.Stand.gcN).before a0 Z = true) (w3 : (Jvm.Cond.selects C Jvm.Stand.gcN Jvm.Stand.gcN).before a0 Z = true) (w4 : (Jvm.Cond.instanceMethod Jvm.Stand.gcN).before a0 Z = true) (w5 : (Jvm.Cond.native Jvm.Stand.gcN).before a0 Z = true) (eT : T.heap = h) (E : Exa Z h b C) (M : own_mir Z C mir)
    {g : JFrame} (hg : g.method = m) (hsize : g.locals.size = c.maxLocals) {rest : List Value} (hst : g.stack = .ref b :: rest) (hd : decode c.code g.pc = .ok (.invokevirtual index, 3)) (hf : 1 ≤ R.frames) {W : Nat} (hW : 2 * g.monitorRoom + (rest.map fun v => v.category).sum ≤ W) (hl : W + 30 ≤ R.locals) :
    ∃ T', Stand p l e R s m args below meth c T' locs cells slots ∧ T'.heap = h ∧ ∀ target, Steps p.tables e below (T'.setTop { g with pc := g.pc + 3, stack := .ref mir :: rest }) target → Steps p.tables e below (T.setTop g) target := by
  obtain ⟨cq, kq, qa, qb, qc⟩ := isOf hZ eT E
  obtain ⟨c0, k0, m1, m2, m3⟩ := M
  obtain ⟨k1, m4, m5⟩ := hZ.alike.2.2 _ _ m2
  have e1 : cq = c0 := Option.some.inj (qa.symm.trans ((hZ.alike.findClass C _).trans m1))
  subst e1
  have e2 : kq = k1 := Option.some.inj (qb.symm.trans m4)
  have hm : kq.mirror = some mir := by rw [e2, m5]; exact m3
  obtain ⟨vm1, X1, st⟩ := X.getClassOf hx hown (mvT hZ w1) (mvT hZ w2) (notFace_of_selects (args := #[]) (mvT hZ w3)) (mvT hZ w3) (mvT hZ w4) (mvT hZ w5) qa qc qb hm hg hsize hst hd hf (by
    have q : nativeFrameWords "java/lang/Object" "getClass" 1 ≤ 19 := by decide +kernel
    omega)
  exact ⟨_, X1, eT, st⟩
theorem own_eq_ref {args : Array Value} {first s : State} {o : Option Outcome} {idx : List Nat} {t u : Term} {a : Addr} (h : (Jvm.Cond.eq t u).value args first o s idx = some true) (hu : u.eval args first o idx s = some (.ref a)) : t.eval args first o idx s = some (.ref a) := by
  simp only [Jvm.Cond.value] at h
  rw [hu] at h
  cases ht : t.eval args first o idx s with
  | none => simp [ht] at h
  | some x => cases x <;> simp [ht] at h ⊢; exact h
theorem own_cast {Z : State} {h : Heap} {a : Addr} {k : ClassId} {ty : FieldType} {z : Int32} {vs vs' : List Value} {dv : Value} (e : vs = vs') (F : Arv Z h a k ty z vs dv) : Arv Z h a k ty z vs' dv := e ▸ F
theorem own_lc (x : Int64) : lcmpW x x = 0 := (lw_eq x x).mpr rfl
theorem own_b01 {P : Prop} [Decidable P] {y a b : Int32} (h : y = if P then a else b) : y = a ∨ y = b := by rw [h]; split; exact Or.inl rfl; exact Or.inr rfl
abbrev M0 : MethodName := ⟨"java/lang/String", "<init>", "([CIILjava/lang/Void;)V"⟩
abbrev M1 : MethodName := ⟨"java/lang/String", "<init>", "([C)V"⟩
abbrev M2 : MethodName := ⟨"com/example/tuplecraft/tuplecraft/GrantUnknownPinLaw", "drawn", "(IIII)Ljava/lang/String;"⟩
abbrev M3 : MethodName := ⟨"java/lang/StringLatin1", "canEncode", "(C)Z"⟩
abbrev M4 : MethodName := ⟨"java/lang/StringLatin1", "toBytes", "(C)[B"⟩
abbrev M5 : MethodName := ⟨"java/lang/String", "<init>", "([BB)V"⟩
abbrev M6 : MethodName := ⟨"java/lang/String", "valueOf", "(C)Ljava/lang/String;"⟩
abbrev M7 : MethodName := ⟨"java/lang/Record", "<init>", "()V"⟩
abbrev M8 : MethodName := ⟨"com/example/tuplecraft/tuplecraft/Grant", "<init>", "(Lcom/example/tuplecraft/tuplecraft/Truth;Ljava/lang/String;)V"⟩
abbrev M9 : MethodName := ⟨"com/example/tuplecraft/tuplecraft/Grant", "unknown", "(Ljava/lang/String;)Lcom/example/tuplecraft/tuplecraft/Grant;"⟩
abbrev M10 : MethodName := ⟨"com/example/tuplecraft/tuplecraft/Grant", "truth", "()Lcom/example/tuplecraft/tuplecraft/Truth;"⟩
abbrev M11 : MethodName := ⟨"com/example/tuplecraft/tuplecraft/Grant", "problem", "()Ljava/lang/String;"⟩
abbrev M12 : MethodName := ⟨"java/lang/String", "equals", "(Ljava/lang/Object;)Z"⟩
abbrev M13 : MethodName := ⟨"java/lang/Enum", "compareTo", "(Ljava/lang/Enum;)I"⟩
abbrev M14 : MethodName := ⟨"com/example/tuplecraft/tuplecraft/Grant", "or", "(Lcom/example/tuplecraft/tuplecraft/Grant;)Lcom/example/tuplecraft/tuplecraft/Grant;"⟩
abbrev M15 : MethodName := ⟨"com/example/tuplecraft/tuplecraft/Truth", "compareTo", "(Ljava/lang/Enum;)I"⟩
abbrev M16 : MethodName := ⟨"java/lang/StringUTF16", "compress", "([CI[BII)I"⟩
abbrev M17 : MethodName := ⟨"java/lang/StringUTF16", "compress", "([CII)[B"⟩
abbrev M18 : MethodName := ⟨"java/lang/StringUTF16", "coderFromArrayLen", "([BI)B"⟩
abbrev s0n : String := "java/lang/String"
abbrev s1n : String := "com/example/tuplecraft/tuplecraft/Truth"
abbrev s2n : String := "Lcom/example/tuplecraft/tuplecraft/Truth;"
abbrev s3n : String := "com/example/tuplecraft/tuplecraft/Grant"
abbrev s4n : String := "java/lang/Enum"
abbrev s5n : String := "Ljava/lang/String;"
theorem own_wS {Z : State} {a0 : Array Value} (hw : ∀ d ∈ tables_1, d.before a0 Z = true) : ∀ a ∈ Bundle.stringAtoms, a.before a0 Z = true := by
  intro a ha
  simp only [Bundle.stringAtoms, List.mem_cons, List.not_mem_nil, or_false] at ha
  rcases ha with rfl | rfl | rfl | rfl | rfl | rfl | rfl
  · first | exact (ow hw 6 rfl) | exact (ow hw 5 rfl) | exact (ow hw 19 rfl) | exact (ow hw 20 rfl) | exact (ow hw 21 rfl) | exact (ow hw 22 rfl) | exact (ow hw 23 rfl)
  · first | exact (ow hw 6 rfl) | exact (ow hw 5 rfl) | exact (ow hw 19 rfl) | exact (ow hw 20 rfl) | exact (ow hw 21 rfl) | exact (ow hw 22 rfl) | exact (ow hw 23 rfl)
  · first | exact (ow hw 6 rfl) | exact (ow hw 5 rfl) | exact (ow hw 19 rfl) | exact (ow hw 20 rfl) | exact (ow hw 21 rfl) | exact (ow hw 22 rfl) | exact (ow hw 23 rfl)
  · first | exact (ow hw 6 rfl) | exact (ow hw 5 rfl) | exact (ow hw 19 rfl) | exact (ow hw 20 rfl) | exact (ow hw 21 rfl) | exact (ow hw 22 rfl) | exact (ow hw 23 rfl)
  · first | exact (ow hw 6 rfl) | exact (ow hw 5 rfl) | exact (ow hw 19 rfl) | exact (ow hw 20 rfl) | exact (ow hw 21 rfl) | exact (ow hw 22 rfl) | exact (ow hw 23 rfl)
  · first | exact (ow hw 6 rfl) | exact (ow hw 5 rfl) | exact (ow hw 19 rfl) | exact (ow hw 20 rfl) | exact (ow hw 21 rfl) | exact (ow hw 22 rfl) | exact (ow hw 23 rfl)
  · first | exact (ow hw 6 rfl) | exact (ow hw 5 rfl) | exact (ow hw 19 rfl) | exact (ow hw 20 rfl) | exact (ow hw 21 rfl) | exact (ow hw 22 rfl) | exact (ow hw 23 rfl)
theorem own_ne0 {args : Array Value} {s : State} {t : Term} {k v : Int32} (h : (Jvm.Cond.not (Jvm.Cond.eq t (.int k))).before args s = true) (e : t.eval args s none [] s = some (.int v)) : v ≠ k := by
  intro q
  subst q
  simp [Jvm.Cond.before, Jvm.Cond.holds, Jvm.Cond.value, e, Term.eval] at h
def ELs : List (String × Nat) := [(s0n, 7)]
theorem own_EW {Z : State} {a0 : Array Value} (hw : ∀ d ∈ tables_1, d.before a0 Z = true) : EW Z a0 ELs := (EW.cons (ow hw 18 rfl) (by decide) EW.nil)
abbrev inQ (x : Int32) : Prop := x = 0 ∨ x = 1 ∨ x = 2 ∨ x = 3
theorem own_Q (x : Int32) : inQ (x &&& 3) := by
  have h := c_mask x 3 2 (by decide) (by decide)
  have h3 : (x &&& 3).toInt = 0 ∨ (x &&& 3).toInt = 1 ∨ (x &&& 3).toInt = 2 ∨ (x &&& 3).toInt = 3 := by omega
  rcases h3 with h | h | h | h
  · exact Or.inl (Int32.toInt_inj.mp (h.trans (by decide)))
  · exact Or.inr (Or.inl (Int32.toInt_inj.mp (h.trans (by decide))))
  · exact Or.inr (Or.inr (Or.inl (Int32.toInt_inj.mp (h.trans (by decide)))))
  · exact Or.inr (Or.inr (Or.inr (Int32.toInt_inj.mp (h.trans (by decide)))))
theorem own_chr {x c : Int32} (h : c = ((x &&& (255 : Int32)).toUInt32.toUInt16.toUInt32.toInt32)) : ¬ (255 : Int32) < c ∧ nar .char c = c := by
  have h1 := c_mask x 255 8 (by decide) (by decide)
  have h2 := c_i2c (x &&& 255)
  have e : (255 : Int32).toInt = 255 := by decide
  have hc : c.toInt = (x &&& 255).toInt := by rw [h]; omega
  refine ⟨by rw [Int32.lt_iff_toInt_lt, e]; omega, ?_⟩
  show c.toUInt32.toUInt16.toUInt32.toInt32 = c
  have h3 := c_i2c c
  apply Int32.toInt_inj.mp
  omega
def SS (Z : State) (wUNKNOWN : Addr) (wHELD : Addr) (wTRUE : Addr) (wNOT_HELD : Addr) (wFALSE : Addr) (wMT : Addr) (wCS : Int32) : Prop := Sta Z Z.heap s1n "UNKNOWN" s2n (.ref wUNKNOWN) ∧ Exa Z Z.heap wUNKNOWN s1n ∧ Sta Z Z.heap s3n "HELD" "Lcom/example/tuplecraft/tuplecraft/Grant;" (.ref wHELD) ∧ Exa Z Z.heap wHELD s3n ∧ Sta Z Z.heap s1n "TRUE" s2n (.ref wTRUE) ∧ Exa Z Z.heap wTRUE s1n ∧ Sta Z Z.heap s3n "NOT_HELD" "Lcom/example/tuplecraft/tuplecraft/Grant;" (.ref wNOT_HELD) ∧ Exa Z Z.heap wNOT_HELD s3n ∧ Sta Z Z.heap s1n "FALSE" s2n (.ref wFALSE) ∧ Exa Z Z.heap wFALSE s1n ∧ Fld Z Z.heap wUNKNOWN s4n "ordinal" "I" (.int 1) ∧ Fld Z Z.heap wTRUE s4n "ordinal" "I" (.int 2) ∧ Fld Z Z.heap wFALSE s4n "ordinal" "I" (.int 0) ∧ Fld Z Z.heap wHELD s3n "truth" s2n (.ref wTRUE) ∧ Fld Z Z.heap wNOT_HELD s3n "truth" s2n (.ref wFALSE) ∧ own_mir Z s1n wMT ∧ Sta Z Z.heap s0n "COMPACT_STRINGS" "Z" (.int wCS) ∧ wCS ≠ (0 : Int32)
theorem ef_rm0 (m : MethodId) (x0 : Int32) (x1 : Int32) (x2 : Int32) (x3 : Int32)  : entryFrame m #[(.int x0), (.int x1), (.int x2), (.int x3)] maxLocals = mkF m 0 #[(vi x0), (vi x1), (vi x2), (vi x3), .unset, .unset, .unset, .unset] [] := by first | (simp [entryFrame, mkF, argsToLocals, Value.category, maxLocals]; done) | rfl
theorem pn_com_example_tuplecraft_tuplecraft_GrantUnknownPinLaw : plainName "com/example/tuplecraft/tuplecraft/GrantUnknownPinLaw" = true := by first | (simp [plainName, overriddenIn]; done) | decide +kernel
theorem ef_au1_0 (m : MethodId) (x0 : Int32) (x1 : Int32) (x2 : Int32) (x3 : Int32)  : entryFrame m #[(.int x0), (.int x1), (.int x2), (.int x3)] 7 = mkF m 0 #[(vi x0), (vi x1), (vi x2), (vi x3), .unset, .unset, .unset] [] := by first | (simp [entryFrame, mkF, argsToLocals, Value.category]; done) | rfl
theorem d1_0 : decode method_2_code 0 = .ok (.iload_n 1, 1) := by decide +kernel
theorem d1_1 : decode method_2_code 1 = .ok (.sipush 255, 3) := by decide +kernel
theorem d1_4 : decode method_2_code 4 = .ok (.iand, 1) := by decide +kernel
theorem d1_5 : decode method_2_code 5 = .ok (.i2c, 1) := by decide +kernel
theorem d1_6 : decode method_2_code 6 = .ok (.istore 4, 2) := by decide +kernel
theorem d1_8 : decode method_2_code 8 = .ok (.iload_n 2, 1) := by decide +kernel
theorem d1_9 : decode method_2_code 9 = .ok (.sipush 255, 3) := by decide +kernel
theorem d1_12 : decode method_2_code 12 = .ok (.iand, 1) := by decide +kernel
theorem d1_13 : decode method_2_code 13 = .ok (.i2c, 1) := by decide +kernel
theorem d1_14 : decode method_2_code 14 = .ok (.istore 5, 2) := by decide +kernel
theorem d1_16 : decode method_2_code 16 = .ok (.iload_n 3, 1) := by decide +kernel
theorem d1_17 : decode method_2_code 17 = .ok (.sipush 255, 3) := by decide +kernel
theorem d1_20 : decode method_2_code 20 = .ok (.iand, 1) := by decide +kernel
theorem d1_21 : decode method_2_code 21 = .ok (.i2c, 1) := by decide +kernel
theorem d1_22 : decode method_2_code 22 = .ok (.istore 6, 2) := by decide +kernel
theorem d1_24 : decode method_2_code 24 = .ok (.iload_n 0, 1) := by decide +kernel
theorem d1_25 : decode method_2_code 25 = .ok (.ifCond .ne 14, 3) := by decide +kernel
theorem d1_28 : decode method_2_code 28 = .ok (.new 7, 3) := by decide +kernel
theorem d1_31 : decode method_2_code 31 = .ok (.dup, 1) := by decide +kernel
theorem d1_32 : decode method_2_code 32 = .ok (.iconst 0, 1) := by decide +kernel
theorem d1_33 : decode method_2_code 33 = .ok (.newarray .char, 2) := by decide +kernel
theorem d1_35 : decode method_2_code 35 = .ok (.invokespecial 9, 3) := by decide +kernel
theorem ef_au2_0 (m : MethodId) (x0 : Addr) (x1 : Addr)  : entryFrame m #[(.ref x0), (.ref x1)] 2 = mkF m 0 #[(vr x0), (vr x1)] [] := by first | (simp [entryFrame, mkF, argsToLocals, Value.category]; done) | rfl
theorem pn_java_lang_String : plainName "java/lang/String" = true := by first | (simp [plainName, overriddenIn]; done) | decide +kernel
theorem d2_0 : decode jdk_42_method_3_code 0 = .ok (.aload_n 0, 1) := by decide +kernel
theorem d2_1 : decode jdk_42_method_3_code 1 = .ok (.aload_n 1, 1) := by decide +kernel
theorem d2_2 : decode jdk_42_method_3_code 2 = .ok (.iconst 0, 1) := by decide +kernel
theorem d2_3 : decode jdk_42_method_3_code 3 = .ok (.aload_n 1, 1) := by decide +kernel
theorem d2_4 : decode jdk_42_method_3_code 4 = .ok (.arraylength, 1) := by decide +kernel
theorem d2_5 : decode jdk_42_method_3_code 5 = .ok (.aconst_null, 1) := by decide +kernel
theorem d2_6 : decode jdk_42_method_3_code 6 = .ok (.invokespecial 27, 3) := by decide +kernel
theorem ef_au3_0 (m : MethodId) (x0 : Addr) (x1 : Addr) (x2 : Int32) (x3 : Int32)  : entryFrame m #[(.ref x0), (.ref x1), (.int x2), (.int x3), .null] 6 = mkF m 0 #[(vr x0), (vr x1), (vi x2), (vi x3), .val .null, .unset] [] := by first | (simp [entryFrame, mkF, argsToLocals, Value.category]; done) | rfl
theorem d3_0 : decode jdk_42_method_149_code 0 = .ok (.aload_n 0, 1) := by decide +kernel
theorem d3_1 : decode jdk_42_method_149_code 1 = .ok (.invokespecial 1, 3) := by decide +kernel
theorem d3_4 : decode jdk_42_method_149_code 4 = .ok (.iload_n 3, 1) := by decide +kernel
theorem d3_5 : decode jdk_42_method_149_code 5 = .ok (.ifCond .ne 22, 3) := by decide +kernel
theorem d3_8 : decode jdk_42_method_149_code 8 = .ok (.aload_n 0, 1) := by decide +kernel
theorem d3_9 : decode jdk_42_method_149_code 9 = .ok (.ldc 7, 2) := by decide +kernel
theorem d3_11 : decode jdk_42_method_149_code 11 = .ok (.getfield 9, 3) := by decide +kernel
theorem d3_14 : decode jdk_42_method_149_code 14 = .ok (.putfield 9, 3) := by decide +kernel
theorem d3_17 : decode jdk_42_method_149_code 17 = .ok (.aload_n 0, 1) := by decide +kernel
theorem d3_18 : decode jdk_42_method_149_code 18 = .ok (.ldc 7, 2) := by decide +kernel
theorem d3_20 : decode jdk_42_method_149_code 20 = .ok (.getfield 15, 3) := by decide +kernel
theorem d3_23 : decode jdk_42_method_149_code 23 = .ok (.putfield 15, 3) := by decide +kernel
theorem d3_26 : decode jdk_42_method_149_code 26 = .ok (.return_, 1) := by decide +kernel
def Q_au3_0 (Z : State) (wUNKNOWN : Addr) (wHELD : Addr) (wTRUE : Addr) (wNOT_HELD : Addr) (wFALSE : Addr) (wMT : Addr) (wCS : Int32) (pa1 : Addr) (pa2 : Addr) (h0 : Heap) (n0 : Nat) (v : Option Value) (h : Heap) (L : List Loc) : Prop := v = none ∧ Fr n0 L ∧ Keep h0 h [pa1] ∧ Exa Z h pa1 s0n
theorem au3_0 (l : Launch) (Z : State) (a0 : Array Value) (hw : ∀ d ∈ tables_1, d.before a0 Z = true) (ws : List Jvm.Cond) (wUNKNOWN : Addr) (wHELD : Addr) (wTRUE : Addr) (wNOT_HELD : Addr) (wFALSE : Addr) (wMT : Addr) (wCS : Int32) (hS : SS Z wUNKNOWN wHELD wTRUE wNOT_HELD wFALSE wMT wCS) (pa1 : Addr) (pa2 : Addr) (h0 : Heap) (n0 : Nat) (O0 : Old Z n0 h0) (P0 : Exa Z h0 pa1 s0n) (P1 : Fld Z h0 pa1 s0n "coder" "B" (.int 0)) (P2 : Fld Z h0 pa1 s0n "value" "[B" .null) (P5 : n0 ≤ pa1) :
    MetBI l M0 jdk_42_method_149_code 6 none ws (rmk 1 2 4 12) Z ELs h0 #[(.ref pa1), (.ref pa2), (.int 0), (.int 0), .null] (Q_au3_0 Z wUNKNOWN wHELD wTRUE wNOT_HELD wFALSE wMT wCS pa1 pa2 h0 n0) := by
  refine own_bodyI (plainFor_of_name pn_java_lang_String) ?_
  intro p e s m below meth c s₁ hx hby hml hown hnm hret0 hlk0 hZ X0 e0 hS1 hC0
  have N0 := Fr.nil n0
  have pre0 : ∀ t, Steps p.tables e below (s₁.setTop (mkF m 0 #[(vr pa1), (vr pa2), (vi 0), (vi 0), .val .null, .unset] [])) t → Steps p.tables e below (s₁.setTop (entryFrame m #[(.ref pa1), (.ref pa2), (.int 0), (.int 0), .null] 6)) t := fun t k => castTop (ef_au3_0 m pa1 pa2 (0 : Int32) (0 : Int32)) k
  have K0 := Keep.refl h0 [pa1]
  have hS0 := hS
  obtain ⟨S_wUNKNOWN, E_wUNKNOWN, S_wHELD, E_wHELD, S_wTRUE, E_wTRUE, S_wNOT_HELD, E_wNOT_HELD, S_wFALSE, E_wFALSE, F_ordinal_wUNKNOWN, F_ordinal_wTRUE, F_ordinal_wFALSE, F_truth_wHELD, F_truth_wNOT_HELD, M_wMT, S_wCS, N_wCS⟩ := hS0
  obtain ⟨T1, X1, e1, st1⟩ := initO X0 hx hZ hown (ow hw 15 rfl) (ow hw 16 rfl) (ow hw 17 rfl) e0 (g := (mkF m 1 #[(vr pa1), (vr pa2), (vi 0), (vi 0), .val .null, .unset] [(.ref pa1)])) rfl (by rw [hml]; rfl) rfl (hb hby d3_1) (by decide) (W := 0) (by show 2 * 0 + _ ≤ _; exact Nat.le_of_eq rfl) (by decide)
  have pre2 : ∀ t, Steps p.tables e below (T1.setTop (mkF m 9 #[(vr pa1), (vr pa2), (vi 0), (vi 0), .val .null, .unset] [(.ref pa1)])) t → Steps p.tables e below (s₁.setTop (entryFrame m #[(.ref pa1), (.ref pa2), (.int 0), (.int 0), .null] 6)) t := by
    intro t k
    refine pre0 t ?_
    show Steps p.tables e below (s₁.setTop (mkF m 0 #[(vr pa1), (vr pa2), (vi 0), (vi 0), .val .null, .unset] [])) _
    refine XS.aloadN X0.here hx rfl (hb hby d3_0) rfl rfl ?_
    refine st1 _ ?_
    refine XS.iloadN X1.here hx rfl (hb hby d3_4) rfl ?_
    refine XS.ifNo X1.here hx rfl (hb hby d3_5) rfl ((if0 _ _).trans (teq (by decide : (0 : Int32) = (0 : Int32))).2) ?_
    refine XS.aloadN X1.here hx rfl (hb hby d3_8) rfl rfl ?_
    exact k
  obtain ⟨b3, T3, h3, kk3, ba3, kb3, X3, e3, E3, hS3, hk3, hZ, hown, A3, Fc3, Fv3, -, -, -, hC3, hL3, -, st3⟩ := ldcCH X1 hx hZ hown (ow hw 18 rfl) (own_wS hw) e1 hS1 (Nat.le_refl _) (own_EW hw) (List.mem_of_getElem? (i := 0) rfl) hC0 (vs := []) (z := 0) ⟨by decide, by decide⟩ (by decide) (by decide) (g := (mkF m 9 #[(vr pa1), (vr pa2), (vi 0), (vi 0), .val .null, .unset] [(.ref pa1)])) rfl (hb hby d3_9) (n := 0) (by decide) (by decide) (by decide) (by decide)
  have O4 : Old Z n0 h3 := O0.ext E3
  have K4 : Keep h0 h3 [pa1] := K0.ext E3
  have f5 : Fld Z h3 pa1 s0n "value" "[B" .null := (P2.ext E3)
  have ne6 : pa1 ≠ b3 := Fld.ne f5 Fv3 nofun
  obtain ⟨T7, X7, e7, st7⟩ := getF X3 hx hZ hown (host := "") (Or.inl (ow hw 24 rfl)) Via.refl e3 Fv3 (g := (mkF m 11 #[(vr pa1), (vr pa2), (vi 0), (vi 0), .val .null, .unset] [(.ref b3), (.ref pa1)])) rfl rfl (hb hby d3_11)
  have f8 : Exa Z h3 pa1 s0n := (P0.ext E3)
  obtain ⟨T9, h9, X9, e9, W9, st9⟩ := putF X7 hx hZ hown (host := "") (Or.inl (ow hw 24 rfl)) Via.refl e7 f5 f8 (Or.inr ⟨(ow hw 20 rfl), rfl, hnm⟩) (ow hw 5 rfl) (ty := (.array .byte)) (by decide) rfl rfl (g := (mkF m 14 #[(vr pa1), (vr pa2), (vi 0), (vi 0), .val .null, .unset] [(.ref ba3), (.ref pa1)])) rfl rfl (hb hby d3_14)
  have N9 := Fr.snoc X9 N0 P5
  have O10 : Old Z n0 h9 := O4.wr W9 P5
  have K10 : Keep h0 h9 [pa1] := K4.wr W9 (Or.inl (List.mem_of_getElem? (i := 0) rfl))
  have Fw9 : Fld Z h9 pa1 s0n "value" "[B" (.ref ba3) := f5.same W9
  have pre11 : ∀ t, Steps p.tables e below (T9.setTop (mkF m 18 #[(vr pa1), (vr pa2), (vi 0), (vi 0), .val .null, .unset] [(.ref pa1)])) t → Steps p.tables e below (s₁.setTop (entryFrame m #[(.ref pa1), (.ref pa2), (.int 0), (.int 0), .null] 6)) t := by
    intro t k
    refine pre2 t ?_
    refine st3 _ ?_
    refine st7 _ ?_
    refine st9 _ ?_
    show Steps p.tables e below (T9.setTop (mkF m 17 #[(vr pa1), (vr pa2), (vi 0), (vi 0), .val .null, .unset] [])) _
    refine XS.aloadN X9.here hx rfl (hb hby d3_17) rfl rfl ?_
    exact k
  have f12 : Fld Z h9 b3 s0n "coder" "B" (.int 0) := (Fc3.other W9 (Or.inl (Ne.symm ne6)))
  obtain ⟨T13, X13, e13, st13⟩ := getF X9 hx hZ hown (host := "") (Or.inl (ow hw 25 rfl)) Via.refl e9 f12 (g := (mkF m 20 #[(vr pa1), (vr pa2), (vi 0), (vi 0), .val .null, .unset] [(.ref b3), (.ref pa1)])) rfl rfl (hb hby d3_20)
  have f14 : Exa Z h9 pa1 s0n := (f8.wr W9)
  have f15 : Fld Z h9 pa1 s0n "coder" "B" (.int 0) := ((P1.ext E3).other W9 (Or.inr (slot_ne (Or.inr (ow hw 21 rfl)) (Or.inr (ow hw 20 rfl)) (by decide) (t := .byte) (t' := (.array .byte)) (by decide) (by decide))))
  obtain ⟨T16, h16, X16, e16, W16, st16⟩ := putFN X13 hx hZ hown (ow hw 25 rfl) Via.refl e13 f15 f14 (Or.inr ⟨(ow hw 21 rfl), rfl, hnm⟩) (ow hw 5 rfl) (ty := .byte) (v' := (.int 0)) (by decide) rfl rfl (g := (mkF m 23 #[(vr pa1), (vr pa2), (vi 0), (vi 0), .val .null, .unset] [(.int 0), (.ref pa1)])) rfl rfl (hb hby d3_23)
  have N16 := Fr.snoc X16 N9 P5
  have O17 : Old Z n0 h16 := O10.wr W16 P5
  have K17 : Keep h0 h16 [pa1] := K10.wr W16 (Or.inl (List.mem_of_getElem? (i := 0) rfl))
  have Fw16 : Fld Z h16 pa1 s0n "coder" "B" (.int 0) := f15.same W16
  have f18 : Exa Z h16 pa1 s0n := (f14.wr W16)
  have hk19 : _ ≤ h16.size := (Nat.le_trans (Nat.le_trans hk3 (Nat.le_of_eq W9.size.symm)) (Nat.le_of_eq W16.size.symm))
  obtain ⟨fs, hr, hrun, hended, hRW⟩ := X16.leaveW hS3 (by rw [e16]; exact hk19) (v := none) (fun _ => rfl)
  refine ⟨_, _, pre11 _ ?_, hrun, hended, _, _, rfl, ?_, hRW.1, hRW.2.1, hRW.2.2.1, hRW.2.2.2.mono (by decide) (by decide)⟩
  · skip
    refine ldcAgain X9 hx hZ hown (ow hw 18 rfl) hL3 (g := (mkF m 18 #[(vr pa1), (vr pa2), (vi 0), (vi 0), .val .null, .unset] [(.ref pa1)])) rfl (hb hby d3_18) _ ?_
    refine st13 _ ?_
    refine st16 _ ?_
    exact X16.returnOut hx hret0 (hb hby d3_26) hr
  · show Q_au3_0 Z wUNKNOWN wHELD wTRUE wNOT_HELD wFALSE wMT wCS pa1 pa2 h0 n0 _ T16.heap _
    rw [e16]
    exact ⟨rfl, N16, K17, f18⟩
theorem pd_0 : parseMethodDescriptor "([CIILjava/lang/Void;)V" = some ⟨[(.array .char), .int, .int, (.object "java/lang/Void")], none⟩ := by decide +kernel
theorem d2_9 : decode jdk_42_method_3_code 9 = .ok (.return_, 1) := by decide +kernel
def Q_au2_0 (Z : State) (wUNKNOWN : Addr) (wHELD : Addr) (wTRUE : Addr) (wNOT_HELD : Addr) (wFALSE : Addr) (wMT : Addr) (wCS : Int32) (pa1 : Addr) (pa2 : Addr) (pk3 : ClassId) (h0 : Heap) (n0 : Nat) (v : Option Value) (h : Heap) (L : List Loc) : Prop := v = none ∧ Fr n0 L ∧ Keep h0 h [pa1] ∧ Exa Z h pa1 s0n
theorem au2_0 (l : Launch) (Z : State) (a0 : Array Value) (hw : ∀ d ∈ tables_1, d.before a0 Z = true) (ws : List Jvm.Cond) (wUNKNOWN : Addr) (wHELD : Addr) (wTRUE : Addr) (wNOT_HELD : Addr) (wFALSE : Addr) (wMT : Addr) (wCS : Int32) (hS : SS Z wUNKNOWN wHELD wTRUE wNOT_HELD wFALSE wMT wCS) (pa1 : Addr) (pa2 : Addr) (pk3 : ClassId) (h0 : Heap) (n0 : Nat) (O0 : Old Z n0 h0) (P0 : Exa Z h0 pa1 s0n) (P1 : Fld Z h0 pa1 s0n "coder" "B" (.int 0)) (P2 : Fld Z h0 pa1 s0n "value" "[B" .null) (P3 : Arv Z h0 pa2 pk3 .char (0 : Int32) ([]) (.int 0)) (P5 : n0 ≤ pa1) :
    MetBI l M1 jdk_42_method_3_code 2 none ws (rmk 2 2 4 29) Z ELs h0 #[(.ref pa1), (.ref pa2)] (Q_au2_0 Z wUNKNOWN wHELD wTRUE wNOT_HELD wFALSE wMT wCS pa1 pa2 pk3 h0 n0) := by
  refine own_bodyI (plainFor_of_name pn_java_lang_String) ?_
  intro p e s m below meth c s₁ hx hby hml hown hnm hret0 hlk0 hZ X0 e0 hS1 hC0
  have N0 := Fr.nil n0
  have pre0 : ∀ t, Steps p.tables e below (s₁.setTop (mkF m 0 #[(vr pa1), (vr pa2)] [])) t → Steps p.tables e below (s₁.setTop (entryFrame m #[(.ref pa1), (.ref pa2)] 2)) t := fun t k => castTop (ef_au2_0 m pa1 pa2) k
  have K0 := Keep.refl h0 [pa1]
  have hS0 := hS
  obtain ⟨S_wUNKNOWN, E_wUNKNOWN, S_wHELD, E_wHELD, S_wTRUE, E_wTRUE, S_wNOT_HELD, E_wNOT_HELD, S_wFALSE, E_wFALSE, F_ordinal_wUNKNOWN, F_ordinal_wTRUE, F_ordinal_wFALSE, F_truth_wHELD, F_truth_wNOT_HELD, M_wMT, S_wCS, N_wCS⟩ := hS0
  obtain ⟨cl1, Ar1, -, Sz1, Nn1, -, -⟩ := (id P3)
  have pre3 : ∀ t, Steps p.tables e below (s₁.setTop (mkF m 6 #[(vr pa1), (vr pa2)] [.null, (.int 0), (.int 0), (.ref pa2), (.ref pa1)])) t → Steps p.tables e below (s₁.setTop (entryFrame m #[(.ref pa1), (.ref pa2)] 2)) t := by
    intro t k
    refine pre0 t ?_
    show Steps p.tables e below (s₁.setTop (mkF m 0 #[(vr pa1), (vr pa2)] [])) _
    refine XS.aloadN X0.here hx rfl (hb hby d2_0) rfl rfl ?_
    refine XS.aloadN X0.here hx rfl (hb hby d2_1) rfl rfl ?_
    refine XS.iconst X0.here hx rfl (hb hby d2_2) ?_
    refine XS.aloadN X0.here hx rfl (hb hby d2_3) rfl rfl ?_
    refine X0.arraylength hx (by rw [e0]; exact Ar1.1) (State.isArrayOf_alike hZ.alike Ar1.2.1) (g := (mkF m 4 #[(vr pa1), (vr pa2)] [(.ref pa2), (.int 0), (.ref pa2), (.ref pa1)])) rfl rfl (hb hby d2_4) _ ?_
    rw [len_of Sz1 Nn1]
    refine XS.aconstNull X0.here hx rfl (hb hby d2_5) ?_
    exact k
  obtain ⟨_, _, ⟨T2, L2, k2, n2⟩, -, X2, hs2, hg2, ⟨Lc2, hQ2, l2, y2, z2⟩, st2⟩ := X0.specialBackS hx (y := M0) rfl hown (mvT hZ (ow hw 11 rfl)) (mvT hZ (ow hw 12 rfl)) (mvT hZ (ow hw 14 rfl)) (by decide) (own_backI (W := 0) (au3_0 l Z a0 hw [] wUNKNOWN wHELD wTRUE wNOT_HELD wFALSE wMT wCS hS pa1 pa2 h0 n0 O0 P0 P1 P2 P5) hZ (ow hw 14 rfl) (ow hw 6 rfl) (by decide) (by decide) (own_EW hw) hC0) (g := (mkF m 6 #[(vr pa1), (vr pa2)] [.null, (.int 0), (.int 0), (.ref pa2), (.ref pa1)])) rfl (by rw [hml]; rfl) (Steps.refl _) (a := pa1) (argsL := [(.ref pa2), (.int 0), (.int 0), .null]) (rest := []) (lenOf pd_0 rfl) rfl (by show 2 * 0 + _ ≤ _; exact Nat.le_of_eq rfl) (hb hby d2_6) (fun _ _ => ⟨rfl, e0, (by decide : 0 + 2 ≤ _), (by decide : 0 + 4 ≤ _)⟩)
  dsimp only [Pt.U, Pt.locs, Pt.cells, Pt.slots] at hs2 hg2
  have hS2 := foldS hS1 (by rw [e0]; exact (Nat.le_refl _)) hs2 hg2
  have hown : (s.setVm T2.vm).vm.findClass s0n = some m.cls := by rw [show (s.setVm T2.vm).vm = T2.vm from rfl, hs2.1.alike.findClass]; exact hown
  have hZ : Z.Warmed39 (s.setVm T2.vm).vm := State.Warmed39.trans (t := s.setVm _) hZ hs2.1
  dsimp only [Pt.U, Pt.locs, Pt.cells, Pt.slots] at X2 l2 y2 z2 st2 hQ2
  subst y2 z2
  have X2 : Stand p l e _ (s.setVm T2.vm) m _ below meth c T2 L2 _ _ := X2
  obtain ⟨rfl, Nq2, K2q, p2_0⟩ := hQ2
  have N2 : Fr n0 L2 := (congrArg (Fr n0) l2).mpr (Fr.app N0 Nq2)
  have O4 : Old Z n0 T2.heap := O0.keep K2q (allS P5 all0)
  have K4 : Keep h0 T2.heap [pa1] := K0.trans K2q (allS (Or.inl (List.mem_of_getElem? (i := 0) rfl)) all0)
  obtain ⟨fs, hr, hrun, hended, hRW⟩ := X2.leaveW hS2 (Nat.le_refl _) (v := none) (fun _ => rfl)
  refine ⟨_, _, pre3 _ ?_, hrun, hended, _, _, rfl, ?_, hRW.1, hRW.2.1, hRW.2.2.1, hRW.2.2.2.mono (by decide) (by decide)⟩
  · skip
    refine st2.trans ?_
    exact X2.returnOut hx hret0 (hb hby d2_9) hr
  · show Q_au2_0 Z wUNKNOWN wHELD wTRUE wNOT_HELD wFALSE wMT wCS pa1 pa2 pk3 h0 n0 _ T2.heap _
    exact ⟨rfl, N2, K4, p2_0⟩
theorem pd_1 : parseMethodDescriptor "([C)V" = some ⟨[(.array .char)], none⟩ := by decide +kernel
theorem d1_38 : decode method_2_code 38 = .ok (.areturn, 1) := by decide +kernel
def Q_au1_0 (Z : State) (wUNKNOWN : Addr) (wHELD : Addr) (wTRUE : Addr) (wNOT_HELD : Addr) (wFALSE : Addr) (wMT : Addr) (wCS : Int32) (pi1 : Int32) (pi2 : Int32) (pi3 : Int32) (h0 : Heap) (n0 : Nat) (v : Option Value) (h : Heap) (L : List Loc) : Prop := ∃ (e1 : Addr), v = some (.ref e1) ∧ Fr n0 L ∧ Keep h0 h [] ∧ h0.size ≤ e1 ∧ Exa Z h e1 s0n
theorem au1_0 (l : Launch) (Z : State) (a0 : Array Value) (hw : ∀ d ∈ tables_1, d.before a0 Z = true) (ws : List Jvm.Cond) (wUNKNOWN : Addr) (wHELD : Addr) (wTRUE : Addr) (wNOT_HELD : Addr) (wFALSE : Addr) (wMT : Addr) (wCS : Int32) (hS : SS Z wUNKNOWN wHELD wTRUE wNOT_HELD wFALSE wMT wCS) (pi1 : Int32) (pi2 : Int32) (pi3 : Int32) (h0 : Heap) (n0 : Nat) (O0 : Old Z n0 h0)  :
    MetBI l M2 method_2_code 7 (some (.object s0n)) ws (rmk 3 4 8 43) Z ELs h0 #[(.int 0), (.int pi1), (.int pi2), (.int pi3)] (Q_au1_0 Z wUNKNOWN wHELD wTRUE wNOT_HELD wFALSE wMT wCS pi1 pi2 pi3 h0 n0) := by
  refine own_bodyI (plainFor_of_name pn_com_example_tuplecraft_tuplecraft_GrantUnknownPinLaw) ?_
  intro p e s m below meth c s₁ hx hby hml hown hnm hret0 hlk0 hZ X0 e0 hS1 hC0
  have N0 := Fr.nil n0
  have pre0 : ∀ t, Steps p.tables e below (s₁.setTop (mkF m 0 #[(vi 0), (vi pi1), (vi pi2), (vi pi3), .unset, .unset, .unset] [])) t → Steps p.tables e below (s₁.setTop (entryFrame m #[(.int 0), (.int pi1), (.int pi2), (.int pi3)] 7)) t := fun t k => castTop (ef_au1_0 m (0 : Int32) pi1 pi2 pi3) k
  have K0 := Keep.refl h0 []
  have hS0 := hS
  obtain ⟨S_wUNKNOWN, E_wUNKNOWN, S_wHELD, E_wHELD, S_wTRUE, E_wTRUE, S_wNOT_HELD, E_wNOT_HELD, S_wFALSE, E_wFALSE, F_ordinal_wUNKNOWN, F_ordinal_wTRUE, F_ordinal_wFALSE, F_truth_wHELD, F_truth_wNOT_HELD, M_wMT, S_wCS, N_wCS⟩ := hS0
  obtain ⟨ca, hca⟩ : ∃ z : Int32, z = ((pi1 &&& (255 : Int32)).toUInt32.toUInt16.toUInt32.toInt32) := ⟨_, rfl⟩
  have pre1 : ∀ t, Steps p.tables e below (s₁.setTop (mkF m 8 #[(vi 0), (vi pi1), (vi pi2), (vi pi3), (vi ca), .unset, .unset] [])) t → Steps p.tables e below (s₁.setTop (entryFrame m #[(.int 0), (.int pi1), (.int pi2), (.int pi3)] 7)) t := by
    intro t k
    rw [hca] at k
    refine pre0 t ?_
    show Steps p.tables e below (s₁.setTop (mkF m 0 #[(vi 0), (vi pi1), (vi pi2), (vi pi3), .unset, .unset, .unset] [])) _
    refine XS.iloadN X0.here hx rfl (hb hby d1_0) rfl ?_
    refine XS.sipush X0.here hx rfl (hb hby d1_1) ?_
    refine XS.iand X0.here hx rfl (hb hby d1_4) rfl ?_
    refine XS.i2c X0.here hx rfl (hb hby d1_5) rfl ?_
    refine XS.istore X0.here hx rfl (hb hby d1_6) rfl (l' := #[(vi 0), (vi pi1), (vi pi2), (vi pi3), .val (.int ((pi1 &&& (255 : Int32)).toUInt32.toUInt16.toUInt32.toInt32)), .unset, .unset]) rfl ?_
    exact k
  have hnca := own_chr hca
  have h255ca : ¬ (255 : Int32) < ca := hnca.1
  obtain ⟨cb, hcb⟩ : ∃ z : Int32, z = ((pi2 &&& (255 : Int32)).toUInt32.toUInt16.toUInt32.toInt32) := ⟨_, rfl⟩
  have pre2 : ∀ t, Steps p.tables e below (s₁.setTop (mkF m 16 #[(vi 0), (vi pi1), (vi pi2), (vi pi3), (vi ca), (vi cb), .unset] [])) t → Steps p.tables e below (s₁.setTop (entryFrame m #[(.int 0), (.int pi1), (.int pi2), (.int pi3)] 7)) t := by
    intro t k
    rw [hcb] at k
    refine pre1 t ?_
    show Steps p.tables e below (s₁.setTop (mkF m 8 #[(vi 0), (vi pi1), (vi pi2), (vi pi3), (vi ca), .unset, .unset] [])) _
    refine XS.iloadN X0.here hx rfl (hb hby d1_8) rfl ?_
    refine XS.sipush X0.here hx rfl (hb hby d1_9) ?_
    refine XS.iand X0.here hx rfl (hb hby d1_12) rfl ?_
    refine XS.i2c X0.here hx rfl (hb hby d1_13) rfl ?_
    refine XS.istore X0.here hx rfl (hb hby d1_14) rfl (l' := #[(vi 0), (vi pi1), (vi pi2), (vi pi3), (vi ca), .val (.int ((pi2 &&& (255 : Int32)).toUInt32.toUInt16.toUInt32.toInt32)), .unset]) rfl ?_
    exact k
  have hncb := own_chr hcb
  have h255cb : ¬ (255 : Int32) < cb := hncb.1
  obtain ⟨cc, hcc⟩ : ∃ z : Int32, z = ((pi3 &&& (255 : Int32)).toUInt32.toUInt16.toUInt32.toInt32) := ⟨_, rfl⟩
  have pre3 : ∀ t, Steps p.tables e below (s₁.setTop (mkF m 24 #[(vi 0), (vi pi1), (vi pi2), (vi pi3), (vi ca), (vi cb), (vi cc)] [])) t → Steps p.tables e below (s₁.setTop (entryFrame m #[(.int 0), (.int pi1), (.int pi2), (.int pi3)] 7)) t := by
    intro t k
    rw [hcc] at k
    refine pre2 t ?_
    show Steps p.tables e below (s₁.setTop (mkF m 16 #[(vi 0), (vi pi1), (vi pi2), (vi pi3), (vi ca), (vi cb), .unset] [])) _
    refine XS.iloadN X0.here hx rfl (hb hby d1_16) rfl ?_
    refine XS.sipush X0.here hx rfl (hb hby d1_17) ?_
    refine XS.iand X0.here hx rfl (hb hby d1_20) rfl ?_
    refine XS.i2c X0.here hx rfl (hb hby d1_21) rfl ?_
    refine XS.istore X0.here hx rfl (hb hby d1_22) rfl (l' := #[(vi 0), (vi pi1), (vi pi2), (vi pi3), (vi ca), (vi cb), .val (.int ((pi3 &&& (255 : Int32)).toUInt32.toUInt16.toUInt32.toInt32))]) rfl ?_
    exact k
  have hncc := own_chr hcc
  have h255cc : ¬ (255 : Int32) < cc := hncc.1
  obtain ⟨T4, h4, X4, e4, E4, A4, D4, -, st4⟩ := newO X0 hx hZ hown (ow hw 4 rfl) (ow hw 5 rfl) (ow hw 6 rfl) e0 (g := (mkF m 28 #[(vi 0), (vi pi1), (vi pi2), (vi pi3), (vi ca), (vi cb), (vi cc)] [])) rfl (hb hby d1_28) (by decide) (by decide)
  obtain ⟨b4, g4⟩ : ∃ z, z = h0.size := ⟨_, rfl⟩
  rw [← g4] at A4 D4 st4
  have g5 : n0 ≤ b4 := Nat.le_trans (own_sz O0) (Nat.le_of_eq g4.symm)
  have sz6 : h0.size ≤ b4 := Nat.le_trans K0.1 (Nat.le_of_eq g4.symm)
  have O7 : Old Z n0 h4 := O0.ext E4
  have K7 : Keep h0 h4 [] := K0.ext E4
  have f8 : Fld Z h4 b4 s0n "value" "[B" .null := D4 (Or.inr (ow hw 20 rfl)) (ty := (.array .byte)) (by decide)
  have f9 : Fld Z h4 b4 s0n "coder" "B" (.int 0) := D4 (Or.inr (ow hw 21 rfl)) (ty := .byte) (by decide)
  obtain ⟨T10, h10, k10, X10, e10, E10, A10, Z10, st10⟩ := newPE X4 hx hZ (ow hw 7 rfl) e4 (g := (mkF m 33 #[(vi 0), (vi pi1), (vi pi2), (vi pi3), (vi ca), (vi cb), (vi cc)] [(.int 0), (.ref b4), (.ref b4)])) rfl (hb hby d1_33) rfl (by decide) (cap := 0) (by decide) (by decide) (by decide) (by decide) (ad := "[C") rfl
  obtain ⟨b10, g10⟩ : ∃ z, z = h4.size := ⟨_, rfl⟩
  rw [← g10] at A10 Z10 st10
  have ne11 : b4 ≠ b10 := Nat.ne_of_lt (Nat.lt_of_lt_of_le A4.lt (Nat.le_of_eq g10.symm))
  have g12 : n0 ≤ b10 := Nat.le_trans (own_sz O7) (Nat.le_of_eq g10.symm)
  have sz13 : h0.size ≤ b10 := Nat.le_trans K7.1 (Nat.le_of_eq g10.symm)
  have O14 : Old Z n0 h10 := O7.ext E10
  have K14 : Keep h0 h10 [] := K7.ext E10
  have V10 : Arv Z h10 b10 k10 .char (0 : Int32) ([]) (.int 0) := (Arv.new A10 (by decide)).pad (pad_rep [] (.int 0) 0)
  have f15 : Exa Z h10 b4 s0n := (A4.ext E10)
  have f16 : Fld Z h10 b4 s0n "coder" "B" (.int 0) := (f9.ext E10)
  have f17 : Fld Z h10 b4 s0n "value" "[B" .null := (f8.ext E10)
  have pre19 : ∀ t, Steps p.tables e below (T10.setTop (mkF m 35 #[(vi 0), (vi pi1), (vi pi2), (vi pi3), (vi ca), (vi cb), (vi cc)] [(.ref b10), (.ref b4), (.ref b4)])) t → Steps p.tables e below (s₁.setTop (entryFrame m #[(.int 0), (.int pi1), (.int pi2), (.int pi3)] 7)) t := by
    intro t k
    refine pre3 t ?_
    show Steps p.tables e below (s₁.setTop (mkF m 24 #[(vi 0), (vi pi1), (vi pi2), (vi pi3), (vi ca), (vi cb), (vi cc)] [])) _
    refine XS.iloadN X0.here hx rfl (hb hby d1_24) rfl ?_
    refine XS.ifNo X0.here hx rfl (hb hby d1_25) rfl ((if0 _ _).trans (teq (by decide : (0 : Int32) = (0 : Int32))).2) ?_
    refine st4 _ ?_
    refine XS.dup X4.here hx rfl (hb hby d1_31) rfl rfl ?_
    refine XS.iconst X4.here hx rfl (hb hby d1_32) ?_
    refine st10 _ ?_
    exact k
  have hk20 : _ ≤ h10.size := (Nat.le_trans (Nat.le_trans (Nat.le_refl _) E4.1) E10.1)
  obtain ⟨_, _, ⟨T18, L18, k18, n18⟩, -, X18, hs18, hg18, ⟨Lc18, hQ18, l18, y18, z18⟩, st18⟩ := X10.specialBackS hx (y := M1) rfl hown (mvT hZ (ow hw 8 rfl)) (mvT hZ (ow hw 9 rfl)) (mvT hZ (ow hw 10 rfl)) (by decide) (own_backI (W := 1) (au2_0 l Z a0 hw [] wUNKNOWN wHELD wTRUE wNOT_HELD wFALSE wMT wCS hS b4 b10 k10 h10 n0 O14 f15 f16 f17 V10 g5) hZ (ow hw 10 rfl) (ow hw 6 rfl) (by decide) (by decide) (own_EW hw) (CHv.ext E10 (CHv.ext E4 hC0))) (g := (mkF m 35 #[(vi 0), (vi pi1), (vi pi2), (vi pi3), (vi ca), (vi cb), (vi cc)] [(.ref b10), (.ref b4), (.ref b4)])) rfl (by rw [hml]; rfl) (Steps.refl _) (a := b4) (argsL := [(.ref b10)]) (rest := [(.ref b4)]) (lenOf pd_1 rfl) rfl (by show 2 * 0 + _ ≤ _; exact Nat.le_of_eq rfl) (hb hby d1_35) (fun _ _ => ⟨rfl, e10, (by decide : 2 + 2 ≤ _), (by decide : 4 + 4 ≤ _)⟩)
  dsimp only [Pt.U, Pt.locs, Pt.cells, Pt.slots] at hs18 hg18
  have hS18 := foldS hS1 (by rw [e10]; exact hk20) hs18 hg18
  have hown : (s.setVm T18.vm).vm.findClass "com/example/tuplecraft/tuplecraft/GrantUnknownPinLaw" = some m.cls := by rw [show (s.setVm T18.vm).vm = T18.vm from rfl, hs18.1.alike.findClass]; exact hown
  have hZ : Z.Warmed39 (s.setVm T18.vm).vm := State.Warmed39.trans (t := s.setVm _) hZ hs18.1
  dsimp only [Pt.U, Pt.locs, Pt.cells, Pt.slots] at X18 l18 y18 z18 st18 hQ18
  subst y18 z18
  have X18 : Stand p l e _ (s.setVm T18.vm) m _ below meth c T18 L18 _ _ := X18
  obtain ⟨rfl, Nq18, K18q, p18_0⟩ := hQ18
  have N18 : Fr n0 L18 := (congrArg (Fr n0) l18).mpr (Fr.app N0 Nq18)
  have O21 : Old Z n0 T18.heap := O14.keep K18q (allS g5 all0)
  have K21 : Keep h0 T18.heap [] := K14.trans K18q (allS (Or.inr sz6) all0)
  obtain ⟨fs, hr, hrun, hended, hRW⟩ := X18.leaveW hS18 (Nat.le_refl _) (v := some (.ref b4)) (fun h => by rw [hret0] at h; cases h)
  refine ⟨_, _, pre19 _ ?_, hrun, hended, _, _, rfl, ?_, hRW.1, hRW.2.1, hRW.2.2.1, hRW.2.2.2.mono (by decide) (by decide)⟩
  · skip
    refine st18.trans ?_
    jvm_step X18.here [X18.here.top, hx, (hb hby d1_38), X18.method', hret0, Value.isRef, FieldType.isReference]
    first | (intro acts; rw [hr _ acts rfl rfl rfl]) | rw [hr _ _ rfl rfl rfl]
    exact Steps.refl _
  · show Q_au1_0 Z wUNKNOWN wHELD wTRUE wNOT_HELD wFALSE wMT wCS pi1 pi2 pi3 h0 n0 _ T18.heap _
    exact ⟨b4, rfl, N18, K21, sz6, p18_0⟩
theorem pd_2 : parseMethodDescriptor "(IIII)Ljava/lang/String;" = some ⟨[.int, .int, .int, .int], some (.object "java/lang/String")⟩ := by decide +kernel
theorem ef_au5_0 (m : MethodId) (x0 : Int32)  : entryFrame m #[(.int x0)] 1 = mkF m 0 #[(vi x0)] [] := by first | (simp [entryFrame, mkF, argsToLocals, Value.category]; done) | rfl
theorem d5_0 : decode jdk_42_method_139_code 0 = .ok (.getstatic 38, 3) := by decide +kernel
theorem d5_3 : decode jdk_42_method_139_code 3 = .ok (.ifCond .eq 23, 3) := by decide +kernel
theorem d5_6 : decode jdk_42_method_139_code 6 = .ok (.iload_n 0, 1) := by decide +kernel
theorem d5_7 : decode jdk_42_method_139_code 7 = .ok (.invokestatic 1015, 3) := by decide +kernel
theorem ef_au6_0 (m : MethodId) (x0 : Int32)  : entryFrame m #[(.int x0)] 1 = mkF m 0 #[(vi x0)] [] := by first | (simp [entryFrame, mkF, argsToLocals, Value.category]; done) | rfl
theorem pn_java_lang_StringLatin1 : plainName "java/lang/StringLatin1" = true := by first | (simp [plainName, overriddenIn]; done) | decide +kernel
theorem d6_0 : decode jdk_43_method_3_code 0 = .ok (.iload_n 0, 1) := by decide +kernel
theorem d6_1 : decode jdk_43_method_3_code 1 = .ok (.sipush 255, 3) := by decide +kernel
theorem d6_4 : decode jdk_43_method_3_code 4 = .ok (.if_icmp .gt 7, 3) := by decide +kernel
theorem d6_7 : decode jdk_43_method_3_code 7 = .ok (.iconst 1, 1) := by decide +kernel
theorem d6_8 : decode jdk_43_method_3_code 8 = .ok (.goto 4, 3) := by decide +kernel
theorem d6_12 : decode jdk_43_method_3_code 12 = .ok (.ireturn, 1) := by decide +kernel
def Q_au6_0 (Z : State) (wUNKNOWN : Addr) (wHELD : Addr) (wTRUE : Addr) (wNOT_HELD : Addr) (wFALSE : Addr) (wMT : Addr) (wCS : Int32) (pi1 : Int32) (h0 : Heap) (n0 : Nat) (v : Option Value) (h : Heap) (L : List Loc) : Prop := v = some (.int 1) ∧ Fr n0 L ∧ h = h0
theorem au6_0 (l : Launch) (Z : State) (a0 : Array Value) (hw : ∀ d ∈ tables_1, d.before a0 Z = true) (ws : List Jvm.Cond) (wUNKNOWN : Addr) (wHELD : Addr) (wTRUE : Addr) (wNOT_HELD : Addr) (wFALSE : Addr) (wMT : Addr) (wCS : Int32) (hS : SS Z wUNKNOWN wHELD wTRUE wNOT_HELD wFALSE wMT wCS) (pi1 : Int32) (h0 : Heap) (n0 : Nat) (O0 : Old Z n0 h0) (P0 : ¬ (255 : Int32) < pi1) :
    MetB l M3 jdk_43_method_3_code 1 (some .boolean) ws (rmk 0 0 0 0) Z h0 #[(.int pi1)] (Q_au6_0 Z wUNKNOWN wHELD wTRUE wNOT_HELD wFALSE wMT wCS pi1 h0 n0) := by
  refine own_body (plainFor_of_name pn_java_lang_StringLatin1) ?_
  intro p e s m below meth c s₁ hx hby hml hown hnm hret0 hlk0 hZ X0 e0
  have N0 := Fr.nil n0
  have pre0 : ∀ t, Steps p.tables e below (s₁.setTop (mkF m 0 #[(vi pi1)] [])) t → Steps p.tables e below (s₁.setTop (entryFrame m #[(.int pi1)] 1)) t := fun t k => castTop (ef_au6_0 m pi1) k
  have hS0 := hS
  obtain ⟨S_wUNKNOWN, E_wUNKNOWN, S_wHELD, E_wHELD, S_wTRUE, E_wTRUE, S_wNOT_HELD, E_wNOT_HELD, S_wFALSE, E_wFALSE, F_ordinal_wUNKNOWN, F_ordinal_wTRUE, F_ordinal_wFALSE, F_truth_wHELD, F_truth_wNOT_HELD, M_wMT, S_wCS, N_wCS⟩ := hS0
  obtain ⟨fs, hr, hrun, hended, hW, hsame⟩ := X0.leave (v := some (.int 1)) (fun h => by rw [hret0] at h; cases h)
  refine ⟨_, _, pre0 _ ?_, hrun, hended, _, _, rfl, ?_, ⟨_, rfl⟩, hW, hsame.mono (by decide) (by decide)⟩
  · skip
    show Steps p.tables e below (s₁.setTop (mkF m 0 #[(vi pi1)] [])) _
    refine XS.iloadN X0.here hx rfl (hb hby d6_0) rfl ?_
    refine XS.sipush X0.here hx rfl (hb hby d6_1) ?_
    refine XS.icmpNo X0.here hx rfl (hb hby d6_4) rfl (flt (P0 : ¬ ((255 : Int32) < pi1))).2.2.1 ?_
    refine XS.iconst X0.here hx rfl (hb hby d6_7) ?_
    refine XS.goto X0.here hx rfl (pc0 := 8) (pc' := 12) rfl (hb hby d6_8) (by decide) (by decide) ?_
    exact retN X0 hx (t := .boolean) hret0 (by simp) (hb hby d6_12) hr
  · show Q_au6_0 Z wUNKNOWN wHELD wTRUE wNOT_HELD wFALSE wMT wCS pi1 h0 n0 _ s₁.heap _
    rw [e0]
    exact ⟨rfl, N0, rfl⟩
theorem pd_3 : parseMethodDescriptor "(C)Z" = some ⟨[.char], some .boolean⟩ := by decide +kernel
theorem d5_10 : decode jdk_42_method_139_code 10 = .ok (.ifCond .eq 16, 3) := by decide +kernel
theorem d5_13 : decode jdk_42_method_139_code 13 = .ok (.new 10, 3) := by decide +kernel
theorem d5_16 : decode jdk_42_method_139_code 16 = .ok (.dup, 1) := by decide +kernel
theorem d5_17 : decode jdk_42_method_139_code 17 = .ok (.iload_n 0, 1) := by decide +kernel
theorem d5_18 : decode jdk_42_method_139_code 18 = .ok (.invokestatic 1018, 3) := by decide +kernel
theorem ef_au7_0 (m : MethodId) (x0 : Int32)  : entryFrame m #[(.int x0)] 1 = mkF m 0 #[(vi x0)] [] := by first | (simp [entryFrame, mkF, argsToLocals, Value.category]; done) | rfl
theorem d7_0 : decode jdk_43_method_46_code 0 = .ok (.iconst 1, 1) := by decide +kernel
theorem d7_1 : decode jdk_43_method_46_code 1 = .ok (.newarray .byte, 2) := by decide +kernel
theorem d7_3 : decode jdk_43_method_46_code 3 = .ok (.dup, 1) := by decide +kernel
theorem d7_4 : decode jdk_43_method_46_code 4 = .ok (.iconst 0, 1) := by decide +kernel
theorem d7_5 : decode jdk_43_method_46_code 5 = .ok (.iload_n 0, 1) := by decide +kernel
theorem d7_6 : decode jdk_43_method_46_code 6 = .ok (.i2b, 1) := by decide +kernel
theorem d7_7 : decode jdk_43_method_46_code 7 = .ok (.bastore, 1) := by decide +kernel
theorem d7_8 : decode jdk_43_method_46_code 8 = .ok (.areturn, 1) := by decide +kernel
def Q_au7_0 (Z : State) (wUNKNOWN : Addr) (wHELD : Addr) (wTRUE : Addr) (wNOT_HELD : Addr) (wFALSE : Addr) (wMT : Addr) (wCS : Int32) (pi1 : Int32) (h0 : Heap) (n0 : Nat) (v : Option Value) (h : Heap) (L : List Loc) : Prop := ∃ (e1 : Addr) (e2 : ClassId), v = some (.ref e1) ∧ Fr n0 L ∧ Keep h0 h [] ∧ h0.size ≤ e1 ∧ Exa Z h e1 "[B" ∧ Arv Z h e1 e2 .byte (1 : Int32) ([(.int (nar .byte (pi1.toInt8.toInt32)))]) (.int 0)
theorem au7_0 (l : Launch) (Z : State) (a0 : Array Value) (hw : ∀ d ∈ tables_1, d.before a0 Z = true) (ws : List Jvm.Cond) (wUNKNOWN : Addr) (wHELD : Addr) (wTRUE : Addr) (wNOT_HELD : Addr) (wFALSE : Addr) (wMT : Addr) (wCS : Int32) (hS : SS Z wUNKNOWN wHELD wTRUE wNOT_HELD wFALSE wMT wCS) (pi1 : Int32) (h0 : Heap) (n0 : Nat) (O0 : Old Z n0 h0)  :
    MetB l M4 jdk_43_method_46_code 1 (some (.array .byte)) ws (rmk 0 1 1 0) Z h0 #[(.int pi1)] (Q_au7_0 Z wUNKNOWN wHELD wTRUE wNOT_HELD wFALSE wMT wCS pi1 h0 n0) := by
  refine own_body (plainFor_of_name pn_java_lang_StringLatin1) ?_
  intro p e s m below meth c s₁ hx hby hml hown hnm hret0 hlk0 hZ X0 e0
  have N0 := Fr.nil n0
  have pre0 : ∀ t, Steps p.tables e below (s₁.setTop (mkF m 0 #[(vi pi1)] [])) t → Steps p.tables e below (s₁.setTop (entryFrame m #[(.int pi1)] 1)) t := fun t k => castTop (ef_au7_0 m pi1) k
  have K0 := Keep.refl h0 []
  have hS0 := hS
  obtain ⟨S_wUNKNOWN, E_wUNKNOWN, S_wHELD, E_wHELD, S_wTRUE, E_wTRUE, S_wNOT_HELD, E_wNOT_HELD, S_wFALSE, E_wFALSE, F_ordinal_wUNKNOWN, F_ordinal_wTRUE, F_ordinal_wFALSE, F_truth_wHELD, F_truth_wNOT_HELD, M_wMT, S_wCS, N_wCS⟩ := hS0
  obtain ⟨T1, h1, k1, X1, e1, E1, A1, Z1, st1⟩ := newPE X0 hx hZ (ow hw 19 rfl) e0 (g := (mkF m 1 #[(vi pi1)] [(.int 1)])) rfl (hb hby d7_1) rfl (by decide) (cap := 1) (by decide) (by decide) (by decide) (by decide) (ad := "[B") rfl
  obtain ⟨b1, g1⟩ : ∃ z, z = h0.size := ⟨_, rfl⟩
  rw [← g1] at A1 Z1 st1
  have g2 : n0 ≤ b1 := Nat.le_trans (own_sz O0) (Nat.le_of_eq g1.symm)
  have sz3 : h0.size ≤ b1 := Nat.le_trans K0.1 (Nat.le_of_eq g1.symm)
  have O4 : Old Z n0 h1 := O0.ext E1
  have K4 : Keep h0 h1 [] := K0.ext E1
  have V1 : Arv Z h1 b1 k1 .byte (1 : Int32) ([(.int 0)]) (.int 0) := (Arv.new A1 (by decide)).pad (pad_rep [] (.int 0) 1)
  obtain ⟨cl5, Ar5, qc5, Sz5, Nn5, Ha5, Gg5⟩ := (id V1)
  have hin5 : ¬ ((0 : Int32) < 0 ∨ cl5.slots.size ≤ ((0 : Int32)).toNatClampNeg) := inb_of Sz5 ⟨by decide, by decide⟩
  obtain ⟨T5, h5, X5, e5, W5, st5⟩ := stB X1 hx hZ e1 Ar5 (j := (0 : Int32)) hin5 (g := (mkF m 7 #[(vi pi1)] [(.int (pi1.toInt8.toInt32)), (.int 0), (.ref b1), (.ref b1)])) rfl rfl (hb hby d7_7)
  have O6 : Old Z n0 h5 := O4.wr W5 g2
  have K6 : Keep h0 h5 [] := K4.wr W5 (Or.inr sz3)
  have V5 : Arv Z h5 b1 k1 .byte (1 : Int32) ([(.int (nar .byte (pi1.toInt8.toInt32)))]) (.int 0) := (Arv.set Ar5 qc5 Sz5 Nn5 Ha5 Gg5 (v := (.int (nar .byte (pi1.toInt8.toInt32)))) (fits_nar_byte _) W5 0 rfl (Nat.le_of_ble_eq_true rfl))
  have N5 := Fr.snoc X5 N0 g2
  have f7 : Exa Z h5 b1 "[B" := (Z1.wr W5)
  obtain ⟨fs, hr, hrun, hended, hW, hsame⟩ := X5.leave (v := some (.ref b1)) (fun h => by rw [hret0] at h; cases h)
  refine ⟨_, _, pre0 _ ?_, hrun, hended, _, _, rfl, ?_, ⟨_, rfl⟩, hW, hsame.mono (by decide) (by decide)⟩
  · skip
    show Steps p.tables e below (s₁.setTop (mkF m 0 #[(vi pi1)] [])) _
    refine XS.iconst X0.here hx rfl (hb hby d7_0) ?_
    refine st1 _ ?_
    refine XS.dup X1.here hx rfl (hb hby d7_3) rfl rfl ?_
    refine XS.iconst X1.here hx rfl (hb hby d7_4) ?_
    refine XS.iloadN X1.here hx rfl (hb hby d7_5) rfl ?_
    refine XS.i2b X1.here hx rfl (hb hby d7_6) rfl ?_
    refine st5 _ ?_
    jvm_step X5.here [X5.here.top, hx, (hb hby d7_8), X5.method', hret0, Value.isRef, FieldType.isReference]
    first | (intro acts; rw [hr _ acts rfl rfl rfl]) | rw [hr _ _ rfl rfl rfl]
    exact Steps.refl _
  · show Q_au7_0 Z wUNKNOWN wHELD wTRUE wNOT_HELD wFALSE wMT wCS pi1 h0 n0 _ T5.heap _
    rw [e5]
    exact ⟨b1, k1, rfl, N5, K6, sz3, f7, V5⟩
theorem pd_4 : parseMethodDescriptor "(C)[B" = some ⟨[.char], some (.array .byte)⟩ := by decide +kernel
theorem d5_21 : decode jdk_42_method_139_code 21 = .ok (.iconst 0, 1) := by decide +kernel
theorem d5_22 : decode jdk_42_method_139_code 22 = .ok (.invokespecial 209, 3) := by decide +kernel
theorem ef_au8_0 (m : MethodId) (x0 : Addr) (x1 : Addr) (x2 : Int32)  : entryFrame m #[(.ref x0), (.ref x1), (.int x2)] 3 = mkF m 0 #[(vr x0), (vr x1), (vi x2)] [] := by first | (simp [entryFrame, mkF, argsToLocals, Value.category]; done) | rfl
theorem d8_0 : decode jdk_42_method_151_code 0 = .ok (.aload_n 0, 1) := by decide +kernel
theorem d8_1 : decode jdk_42_method_151_code 1 = .ok (.invokespecial 1, 3) := by decide +kernel
theorem d8_4 : decode jdk_42_method_151_code 4 = .ok (.aload_n 0, 1) := by decide +kernel
theorem d8_5 : decode jdk_42_method_151_code 5 = .ok (.aload_n 1, 1) := by decide +kernel
theorem d8_6 : decode jdk_42_method_151_code 6 = .ok (.putfield 9, 3) := by decide +kernel
theorem d8_9 : decode jdk_42_method_151_code 9 = .ok (.aload_n 0, 1) := by decide +kernel
theorem d8_10 : decode jdk_42_method_151_code 10 = .ok (.iload_n 2, 1) := by decide +kernel
theorem d8_11 : decode jdk_42_method_151_code 11 = .ok (.putfield 15, 3) := by decide +kernel
theorem d8_14 : decode jdk_42_method_151_code 14 = .ok (.return_, 1) := by decide +kernel
def Q_au8_0 (Z : State) (wUNKNOWN : Addr) (wHELD : Addr) (wTRUE : Addr) (wNOT_HELD : Addr) (wFALSE : Addr) (wMT : Addr) (wCS : Int32) (pa1 : Addr) (pa2 : Addr) (h0 : Heap) (n0 : Nat) (v : Option Value) (h : Heap) (L : List Loc) : Prop := v = none ∧ Fr n0 L ∧ Keep h0 h [pa1] ∧ Exa Z h pa1 s0n
theorem au8_0 (l : Launch) (Z : State) (a0 : Array Value) (hw : ∀ d ∈ tables_1, d.before a0 Z = true) (ws : List Jvm.Cond) (wUNKNOWN : Addr) (wHELD : Addr) (wTRUE : Addr) (wNOT_HELD : Addr) (wFALSE : Addr) (wMT : Addr) (wCS : Int32) (hS : SS Z wUNKNOWN wHELD wTRUE wNOT_HELD wFALSE wMT wCS) (pa1 : Addr) (pa2 : Addr) (h0 : Heap) (n0 : Nat) (O0 : Old Z n0 h0) (P0 : Exa Z h0 pa1 s0n) (P1 : Fld Z h0 pa1 s0n "coder" "B" (.int 0)) (P2 : Fld Z h0 pa1 s0n "value" "[B" .null) (P5 : n0 ≤ pa1) :
    MetB l M5 jdk_42_method_151_code 3 none ws (rmk 1 0 0 12) Z h0 #[(.ref pa1), (.ref pa2), (.int 0)] (Q_au8_0 Z wUNKNOWN wHELD wTRUE wNOT_HELD wFALSE wMT wCS pa1 pa2 h0 n0) := by
  refine own_body (plainFor_of_name pn_java_lang_String) ?_
  intro p e s m below meth c s₁ hx hby hml hown hnm hret0 hlk0 hZ X0 e0
  have N0 := Fr.nil n0
  have pre0 : ∀ t, Steps p.tables e below (s₁.setTop (mkF m 0 #[(vr pa1), (vr pa2), (vi 0)] [])) t → Steps p.tables e below (s₁.setTop (entryFrame m #[(.ref pa1), (.ref pa2), (.int 0)] 3)) t := fun t k => castTop (ef_au8_0 m pa1 pa2 (0 : Int32)) k
  have K0 := Keep.refl h0 [pa1]
  have hS0 := hS
  obtain ⟨S_wUNKNOWN, E_wUNKNOWN, S_wHELD, E_wHELD, S_wTRUE, E_wTRUE, S_wNOT_HELD, E_wNOT_HELD, S_wFALSE, E_wFALSE, F_ordinal_wUNKNOWN, F_ordinal_wTRUE, F_ordinal_wFALSE, F_truth_wHELD, F_truth_wNOT_HELD, M_wMT, S_wCS, N_wCS⟩ := hS0
  obtain ⟨T1, X1, e1, st1⟩ := initO X0 hx hZ hown (ow hw 15 rfl) (ow hw 16 rfl) (ow hw 17 rfl) e0 (g := (mkF m 1 #[(vr pa1), (vr pa2), (vi 0)] [(.ref pa1)])) rfl (by rw [hml]; rfl) rfl (hb hby d8_1) (by decide) (W := 0) (by show 2 * 0 + _ ≤ _; exact Nat.le_of_eq rfl) (by decide)
  obtain ⟨T2, h2, X2, e2, W2, st2⟩ := putF X1 hx hZ hown (host := "") (Or.inl (ow hw 24 rfl)) Via.refl e1 P2 P0 (Or.inr ⟨(ow hw 20 rfl), rfl, hnm⟩) (ow hw 5 rfl) (ty := (.array .byte)) (by decide) rfl rfl (g := (mkF m 6 #[(vr pa1), (vr pa2), (vi 0)] [(.ref pa2), (.ref pa1)])) rfl rfl (hb hby d8_6)
  have N2 := Fr.snoc X2 N0 P5
  have O3 : Old Z n0 h2 := O0.wr W2 P5
  have K3 : Keep h0 h2 [pa1] := K0.wr W2 (Or.inl (List.mem_of_getElem? (i := 0) rfl))
  have Fw2 : Fld Z h2 pa1 s0n "value" "[B" (.ref pa2) := P2.same W2
  have f4 : Exa Z h2 pa1 s0n := (P0.wr W2)
  have f5 : Fld Z h2 pa1 s0n "coder" "B" (.int 0) := (P1.other W2 (Or.inr (slot_ne (Or.inr (ow hw 21 rfl)) (Or.inr (ow hw 20 rfl)) (by decide) (t := .byte) (t' := (.array .byte)) (by decide) (by decide))))
  obtain ⟨T6, h6, X6, e6, W6, st6⟩ := putFN X2 hx hZ hown (ow hw 25 rfl) Via.refl e2 f5 f4 (Or.inr ⟨(ow hw 21 rfl), rfl, hnm⟩) (ow hw 5 rfl) (ty := .byte) (v' := (.int 0)) (by decide) rfl rfl (g := (mkF m 11 #[(vr pa1), (vr pa2), (vi 0)] [(.int 0), (.ref pa1)])) rfl rfl (hb hby d8_11)
  have N6 := Fr.snoc X6 N2 P5
  have O7 : Old Z n0 h6 := O3.wr W6 P5
  have K7 : Keep h0 h6 [pa1] := K3.wr W6 (Or.inl (List.mem_of_getElem? (i := 0) rfl))
  have Fw6 : Fld Z h6 pa1 s0n "coder" "B" (.int 0) := f5.same W6
  have f8 : Exa Z h6 pa1 s0n := (f4.wr W6)
  obtain ⟨fs, hr, hrun, hended, hW, hsame⟩ := X6.leave (v := none) (fun _ => rfl)
  refine ⟨_, _, pre0 _ ?_, hrun, hended, _, _, rfl, ?_, ⟨_, rfl⟩, hW, hsame.mono (by decide) (by decide)⟩
  · skip
    show Steps p.tables e below (s₁.setTop (mkF m 0 #[(vr pa1), (vr pa2), (vi 0)] [])) _
    refine XS.aloadN X0.here hx rfl (hb hby d8_0) rfl rfl ?_
    refine st1 _ ?_
    refine XS.aloadN X1.here hx rfl (hb hby d8_4) rfl rfl ?_
    refine XS.aloadN X1.here hx rfl (hb hby d8_5) rfl rfl ?_
    refine st2 _ ?_
    refine XS.aloadN X2.here hx rfl (hb hby d8_9) rfl rfl ?_
    refine XS.iloadN X2.here hx rfl (hb hby d8_10) rfl ?_
    refine st6 _ ?_
    show Steps p.tables e below (T6.setTop (mkF m 14 #[(vr pa1), (vr pa2), (vi 0)] [])) _
    exact X6.returnOut hx hret0 (hb hby d8_14) hr
  · show Q_au8_0 Z wUNKNOWN wHELD wTRUE wNOT_HELD wFALSE wMT wCS pa1 pa2 h0 n0 _ T6.heap _
    rw [e6]
    exact ⟨rfl, N6, K7, f8⟩
theorem pd_5 : parseMethodDescriptor "([BB)V" = some ⟨[(.array .byte), .byte], none⟩ := by decide +kernel
theorem d5_25 : decode jdk_42_method_139_code 25 = .ok (.areturn, 1) := by decide +kernel
def Q_au5_0 (Z : State) (wUNKNOWN : Addr) (wHELD : Addr) (wTRUE : Addr) (wNOT_HELD : Addr) (wFALSE : Addr) (wMT : Addr) (wCS : Int32) (pi1 : Int32) (h0 : Heap) (n0 : Nat) (v : Option Value) (h : Heap) (L : List Loc) : Prop := ∃ (e1 : Addr), v = some (.ref e1) ∧ Fr n0 L ∧ Keep h0 h [] ∧ h0.size ≤ e1 ∧ Exa Z h e1 s0n
theorem au5_0 (l : Launch) (Z : State) (a0 : Array Value) (hw : ∀ d ∈ tables_1, d.before a0 Z = true) (ws : List Jvm.Cond) (wUNKNOWN : Addr) (wHELD : Addr) (wTRUE : Addr) (wNOT_HELD : Addr) (wFALSE : Addr) (wMT : Addr) (wCS : Int32) (hS : SS Z wUNKNOWN wHELD wTRUE wNOT_HELD wFALSE wMT wCS) (pi1 : Int32) (h0 : Heap) (n0 : Nat) (O0 : Old Z n0 h0) (P0 : ¬ (255 : Int32) < pi1) :
    MetB l M6 jdk_42_method_139_code 1 (some (.object s0n)) ws (rmk 2 2 5 27) Z h0 #[(.int pi1)] (Q_au5_0 Z wUNKNOWN wHELD wTRUE wNOT_HELD wFALSE wMT wCS pi1 h0 n0) := by
  refine own_body (plainFor_of_name pn_java_lang_String) ?_
  intro p e s m below meth c s₁ hx hby hml hown hnm hret0 hlk0 hZ X0 e0
  have N0 := Fr.nil n0
  have pre0 : ∀ t, Steps p.tables e below (s₁.setTop (mkF m 0 #[(vi pi1)] [])) t → Steps p.tables e below (s₁.setTop (entryFrame m #[(.int pi1)] 1)) t := fun t k => castTop (ef_au5_0 m pi1) k
  have K0 := Keep.refl h0 []
  have hS0 := hS
  obtain ⟨S_wUNKNOWN, E_wUNKNOWN, S_wHELD, E_wHELD, S_wTRUE, E_wTRUE, S_wNOT_HELD, E_wNOT_HELD, S_wFALSE, E_wFALSE, F_ordinal_wUNKNOWN, F_ordinal_wTRUE, F_ordinal_wFALSE, F_truth_wHELD, F_truth_wNOT_HELD, M_wMT, S_wCS, N_wCS⟩ := hS0
  obtain ⟨T1, X1, e1, st1⟩ := getS2 X0 hx hZ hown (host := "") (Or.inl (ow hw 29 rfl)) Via.refl e0 (S_wCS.ext O0.2) (g := (mkF m 0 #[(vi pi1)] [])) rfl (hb hby d5_0)
  obtain ⟨_, _, ⟨T2, L2, k2, n2⟩, -, X2, ⟨Lc2, hQ2, l2, y2, z2⟩, st2⟩ := Jvm.LawKit.callS X1 hx (y := M3) hown (mvT hZ (ow hw 30 rfl)) (mvT hZ (ow hw 31 rfl)) (mvT hZ (ow hw 32 rfl)) (mvT hZ (ow hw 33 rfl)) (by decide) (backOf (W := 0) (au6_0 l Z a0 hw [] wUNKNOWN wHELD wTRUE wNOT_HELD wFALSE wMT wCS hS pi1 h0 n0 O0 P0) hZ (ow hw 33 rfl) (ow hw 32 rfl) (by decide) (by decide)) (g := (mkF m 7 #[(vi pi1)] [(.int pi1)])) rfl (by rw [hml]; rfl) (argsL := [(.int pi1)]) (rest := []) (lenOf pd_3 rfl) rfl (by show 2 * 0 + _ ≤ _; exact Nat.le_of_eq rfl) (hb hby d5_7) (fun _ _ => ⟨rfl, e1, (by decide : 0 + 0 ≤ _), (by decide : 0 + 0 ≤ _)⟩)
  dsimp only [Pt.U, Pt.locs, Pt.cells, Pt.slots] at X2 l2 y2 z2 st2 hQ2
  subst y2 z2
  obtain ⟨rfl, Nq2, K2q⟩ := hQ2
  have N2 : Fr n0 L2 := (congrArg (Fr n0) l2).mpr (Fr.app N0 Nq2)
  obtain ⟨T3, h3, X3, e3, E3, A3, D3, -, st3⟩ := newO X2 hx hZ hown (ow hw 34 rfl) (ow hw 5 rfl) (ow hw 6 rfl) K2q (g := (mkF m 13 #[(vi pi1)] [])) rfl (hb hby d5_13) (by decide) (by decide)
  obtain ⟨b3, g3⟩ : ∃ z, z = h0.size := ⟨_, rfl⟩
  rw [← g3] at A3 D3 st3
  have g4 : n0 ≤ b3 := Nat.le_trans (own_sz O0) (Nat.le_of_eq g3.symm)
  have sz5 : h0.size ≤ b3 := Nat.le_trans K0.1 (Nat.le_of_eq g3.symm)
  have O6 : Old Z n0 h3 := O0.ext E3
  have K6 : Keep h0 h3 [] := K0.ext E3
  have f7 : Fld Z h3 b3 s0n "value" "[B" .null := D3 (Or.inr (ow hw 20 rfl)) (ty := (.array .byte)) (by decide)
  have f8 : Fld Z h3 b3 s0n "coder" "B" (.int 0) := D3 (Or.inr (ow hw 21 rfl)) (ty := .byte) (by decide)
  obtain ⟨_, _, ⟨T9, L9, k9, n9⟩, -, X9, ⟨Lc9, hQ9, l9, y9, z9⟩, st9⟩ := Jvm.LawKit.callS X3 hx (y := M4) hown (mvT hZ (ow hw 35 rfl)) (mvT hZ (ow hw 36 rfl)) (mvT hZ (ow hw 32 rfl)) (mvT hZ (ow hw 37 rfl)) (by decide) (backOf (W := 2) (au7_0 l Z a0 hw [] wUNKNOWN wHELD wTRUE wNOT_HELD wFALSE wMT wCS hS pi1 h3 n0 O6 ) hZ (ow hw 37 rfl) (ow hw 32 rfl) (by decide) (by decide)) (g := (mkF m 18 #[(vi pi1)] [(.int pi1), (.ref b3), (.ref b3)])) rfl (by rw [hml]; rfl) (argsL := [(.int pi1)]) (rest := [(.ref b3), (.ref b3)]) (lenOf pd_4 rfl) rfl (by show 2 * 0 + _ ≤ _; exact Nat.le_of_eq rfl) (hb hby d5_18) (fun _ _ => ⟨rfl, e3, (by decide : 1 + 1 ≤ _), (by decide : 4 + 1 ≤ _)⟩)
  dsimp only [Pt.U, Pt.locs, Pt.cells, Pt.slots] at X9 l9 y9 z9 st9 hQ9
  subst y9 z9
  obtain ⟨e1_9, e2_9, rfl, Nq9, K9q, p9_0, p9_1, p9_2⟩ := hQ9
  have N9 : Fr n0 L9 := (congrArg (Fr n0) l9).mpr (Fr.app N2 Nq9)
  have ne10 : b3 ≠ e1_9 := Nat.ne_of_lt (Nat.lt_of_lt_of_le A3.lt p9_0)
  have g11 : n0 ≤ e1_9 := Nat.le_trans (own_sz O6) p9_0
  have sz12 : h0.size ≤ e1_9 := Nat.le_trans K6.1 p9_0
  have O13 : Old Z n0 T9.heap := O6.keep K9q all0
  have K13 : Keep h0 T9.heap [] := K6.trans K9q all0
  have f14 : Exa Z T9.heap b3 s0n := (A3.keep K9q)
  have f15 : Fld Z T9.heap b3 s0n "coder" "B" (.int 0) := (f8.keep K9q nin0)
  have f16 : Fld Z T9.heap b3 s0n "value" "[B" .null := (f7.keep K9q nin0)
  obtain ⟨_, _, ⟨T17, L17, k17, n17⟩, -, X17, ⟨Lc17, hQ17, l17, y17, z17⟩, st17⟩ := X9.specialBack hx (y := M5) rfl hown (mvT hZ (ow hw 38 rfl)) (mvT hZ (ow hw 39 rfl)) (mvT hZ (ow hw 40 rfl)) (by decide) (backOf (W := 1) (au8_0 l Z a0 hw [] wUNKNOWN wHELD wTRUE wNOT_HELD wFALSE wMT wCS hS b3 e1_9 T9.heap n0 O13 f14 f15 f16 g4) hZ (ow hw 40 rfl) (ow hw 6 rfl) (by decide) (by decide)) (g := (mkF m 22 #[(vi pi1)] [(.int 0), (.ref e1_9), (.ref b3), (.ref b3)])) rfl (by rw [hml]; rfl) (Steps.refl _) (a := b3) (argsL := [(.ref e1_9), (.int 0)]) (rest := [(.ref b3)]) (lenOf pd_5 rfl) rfl (by show 2 * 0 + _ ≤ _; exact Nat.le_of_eq rfl) (hb hby d5_22) (fun _ _ => ⟨rfl, rfl, (by decide : 2 + 0 ≤ _), (by decide : 5 + 0 ≤ _)⟩)
  dsimp only [Pt.U, Pt.locs, Pt.cells, Pt.slots] at X17 l17 y17 z17 st17 hQ17
  subst y17 z17
  obtain ⟨rfl, Nq17, K17q, p17_0⟩ := hQ17
  have N17 : Fr n0 L17 := (congrArg (Fr n0) l17).mpr (Fr.app N9 Nq17)
  have O18 : Old Z n0 T17.heap := O13.keep K17q (allS g4 all0)
  have K18 : Keep h0 T17.heap [] := K13.trans K17q (allS (Or.inr sz5) all0)
  obtain ⟨fs, hr, hrun, hended, hW, hsame⟩ := X17.leave (v := some (.ref b3)) (fun h => by rw [hret0] at h; cases h)
  refine ⟨_, _, pre0 _ ?_, hrun, hended, _, _, rfl, ?_, ⟨_, rfl⟩, hW, hsame.mono (by decide) (by decide)⟩
  · skip
    show Steps p.tables e below (s₁.setTop (mkF m 0 #[(vi pi1)] [])) _
    refine st1 _ ?_
    refine XS.ifNo X1.here hx rfl (hb hby d5_3) rfl ((if0 _ _).trans (feq (N_wCS : ¬ (wCS = (0 : Int32)))).1) ?_
    refine XS.iloadN X1.here hx rfl (hb hby d5_6) rfl ?_
    refine st2 _ ?_
    refine XS.ifNo X2.here hx rfl (hb hby d5_10) rfl ((if0 _ _).trans (feq (by decide : ¬ ((1 : Int32) = (0 : Int32)))).1) ?_
    refine st3 _ ?_
    refine XS.dup X3.here hx rfl (hb hby d5_16) rfl rfl ?_
    refine XS.iloadN X3.here hx rfl (hb hby d5_17) rfl ?_
    show Steps p.tables e below (T3.setTop (mkF m 18 #[(vi pi1)] [(.int pi1), (.ref b3), (.ref b3)])) _
    refine st9 _ ?_
    refine XS.iconst X9.here hx rfl (hb hby d5_21) ?_
    refine st17.trans ?_
    jvm_step X17.here [X17.here.top, hx, (hb hby d5_25), X17.method', hret0, Value.isRef, FieldType.isReference]
    first | (intro acts; rw [hr _ acts rfl rfl rfl]) | rw [hr _ _ rfl rfl rfl]
    exact Steps.refl _
  · show Q_au5_0 Z wUNKNOWN wHELD wTRUE wNOT_HELD wFALSE wMT wCS pi1 h0 n0 _ T17.heap _
    exact ⟨b3, rfl, N17, K18, sz5, p17_0⟩
theorem pd_6 : parseMethodDescriptor "(C)Ljava/lang/String;" = some ⟨[.char], some (.object "java/lang/String")⟩ := by decide +kernel
theorem ef_au9_0 (m : MethodId) (x0 : Addr)  : entryFrame m #[(.ref x0)] 1 = mkF m 0 #[(vr x0)] [] := by first | (simp [entryFrame, mkF, argsToLocals, Value.category]; done) | rfl
theorem pn_com_example_tuplecraft_tuplecraft_Grant : plainName "com/example/tuplecraft/tuplecraft/Grant" = true := by first | (simp [plainName, overriddenIn]; done) | decide +kernel
theorem d9_0 : decode prog_2_method_2_code 0 = .ok (.new 8, 3) := by decide +kernel
theorem d9_3 : decode prog_2_method_2_code 3 = .ok (.dup, 1) := by decide +kernel
theorem d9_4 : decode prog_2_method_2_code 4 = .ok (.getstatic 17, 3) := by decide +kernel
theorem d9_7 : decode prog_2_method_2_code 7 = .ok (.aload_n 0, 1) := by decide +kernel
theorem d9_8 : decode prog_2_method_2_code 8 = .ok (.invokespecial 22, 3) := by decide +kernel
theorem ef_au10_0 (m : MethodId) (x0 : Addr) (x1 : Addr) (x2 : Addr)  : entryFrame m #[(.ref x0), (.ref x1), (.ref x2)] 3 = mkF m 0 #[(vr x0), (vr x1), (vr x2)] [] := by first | (simp [entryFrame, mkF, argsToLocals, Value.category]; done) | rfl
theorem d10_0 : decode prog_2_method_1_code 0 = .ok (.aload_n 0, 1) := by decide +kernel
theorem d10_1 : decode prog_2_method_1_code 1 = .ok (.invokespecial 1, 3) := by decide +kernel
theorem ef_au11_0 (m : MethodId) (x0 : Addr)  : entryFrame m #[(.ref x0)] 1 = mkF m 0 #[(vr x0)] [] := by first | (simp [entryFrame, mkF, argsToLocals, Value.category]; done) | rfl
theorem pn_java_lang_Record : plainName "java/lang/Record" = true := by first | (simp [plainName, overriddenIn]; done) | decide +kernel
theorem d11_0 : decode jdk_30_method_1_code 0 = .ok (.aload_n 0, 1) := by decide +kernel
theorem d11_1 : decode jdk_30_method_1_code 1 = .ok (.invokespecial 1, 3) := by decide +kernel
theorem d11_4 : decode jdk_30_method_1_code 4 = .ok (.return_, 1) := by decide +kernel
def Q_au11_0 (Z : State) (wUNKNOWN : Addr) (wHELD : Addr) (wTRUE : Addr) (wNOT_HELD : Addr) (wFALSE : Addr) (wMT : Addr) (wCS : Int32) (pa1 : Addr) (h0 : Heap) (n0 : Nat) (v : Option Value) (h : Heap) (L : List Loc) : Prop := v = none ∧ Fr n0 L ∧ h = h0
theorem au11_0 (l : Launch) (Z : State) (a0 : Array Value) (hw : ∀ d ∈ tables_1, d.before a0 Z = true) (ws : List Jvm.Cond) (wUNKNOWN : Addr) (wHELD : Addr) (wTRUE : Addr) (wNOT_HELD : Addr) (wFALSE : Addr) (wMT : Addr) (wCS : Int32) (hS : SS Z wUNKNOWN wHELD wTRUE wNOT_HELD wFALSE wMT wCS) (pa1 : Addr) (h0 : Heap) (n0 : Nat) (O0 : Old Z n0 h0)  :
    MetB l M7 jdk_30_method_1_code 1 none ws (rmk 1 0 0 12) Z h0 #[(.ref pa1)] (Q_au11_0 Z wUNKNOWN wHELD wTRUE wNOT_HELD wFALSE wMT wCS pa1 h0 n0) := by
  refine own_body (plainFor_of_name pn_java_lang_Record) ?_
  intro p e s m below meth c s₁ hx hby hml hown hnm hret0 hlk0 hZ X0 e0
  have N0 := Fr.nil n0
  have pre0 : ∀ t, Steps p.tables e below (s₁.setTop (mkF m 0 #[(vr pa1)] [])) t → Steps p.tables e below (s₁.setTop (entryFrame m #[(.ref pa1)] 1)) t := fun t k => castTop (ef_au11_0 m pa1) k
  have hS0 := hS
  obtain ⟨S_wUNKNOWN, E_wUNKNOWN, S_wHELD, E_wHELD, S_wTRUE, E_wTRUE, S_wNOT_HELD, E_wNOT_HELD, S_wFALSE, E_wFALSE, F_ordinal_wUNKNOWN, F_ordinal_wTRUE, F_ordinal_wFALSE, F_truth_wHELD, F_truth_wNOT_HELD, M_wMT, S_wCS, N_wCS⟩ := hS0
  obtain ⟨T1, X1, e1, st1⟩ := initO X0 hx hZ hown (ow hw 58 rfl) (ow hw 16 rfl) (ow hw 17 rfl) e0 (g := (mkF m 1 #[(vr pa1)] [(.ref pa1)])) rfl (by rw [hml]; rfl) rfl (hb hby d11_1) (by decide) (W := 0) (by show 2 * 0 + _ ≤ _; exact Nat.le_of_eq rfl) (by decide)
  obtain ⟨fs, hr, hrun, hended, hW, hsame⟩ := X1.leave (v := none) (fun _ => rfl)
  refine ⟨_, _, pre0 _ ?_, hrun, hended, _, _, rfl, ?_, ⟨_, rfl⟩, hW, hsame.mono (by decide) (by decide)⟩
  · skip
    show Steps p.tables e below (s₁.setTop (mkF m 0 #[(vr pa1)] [])) _
    refine XS.aloadN X0.here hx rfl (hb hby d11_0) rfl rfl ?_
    refine st1 _ ?_
    exact X1.returnOut hx hret0 (hb hby d11_4) hr
  · show Q_au11_0 Z wUNKNOWN wHELD wTRUE wNOT_HELD wFALSE wMT wCS pa1 h0 n0 _ T1.heap _
    rw [e1]
    exact ⟨rfl, N0, rfl⟩
theorem pd_7 : parseMethodDescriptor "()V" = some ⟨[], none⟩ := by decide +kernel
theorem d10_4 : decode prog_2_method_1_code 4 = .ok (.aload_n 0, 1) := by decide +kernel
theorem d10_5 : decode prog_2_method_1_code 5 = .ok (.aload_n 1, 1) := by decide +kernel
theorem d10_6 : decode prog_2_method_1_code 6 = .ok (.putfield 7, 3) := by decide +kernel
theorem d10_9 : decode prog_2_method_1_code 9 = .ok (.aload_n 0, 1) := by decide +kernel
theorem d10_10 : decode prog_2_method_1_code 10 = .ok (.aload_n 2, 1) := by decide +kernel
theorem d10_11 : decode prog_2_method_1_code 11 = .ok (.putfield 13, 3) := by decide +kernel
theorem d10_14 : decode prog_2_method_1_code 14 = .ok (.return_, 1) := by decide +kernel
def Q_au10_0 (Z : State) (wUNKNOWN : Addr) (wHELD : Addr) (wTRUE : Addr) (wNOT_HELD : Addr) (wFALSE : Addr) (wMT : Addr) (wCS : Int32) (pa1 : Addr) (pa2 : Addr) (h0 : Heap) (n0 : Nat) (v : Option Value) (h : Heap) (L : List Loc) : Prop := v = none ∧ Fr n0 L ∧ Keep h0 h [pa1] ∧ Exa Z h pa1 s3n ∧ Fld Z h pa1 s3n "problem" s5n (.ref pa2) ∧ Fld Z h pa1 s3n "truth" s2n (.ref wUNKNOWN)
theorem au10_0 (l : Launch) (Z : State) (a0 : Array Value) (hw : ∀ d ∈ tables_1, d.before a0 Z = true) (ws : List Jvm.Cond) (wUNKNOWN : Addr) (wHELD : Addr) (wTRUE : Addr) (wNOT_HELD : Addr) (wFALSE : Addr) (wMT : Addr) (wCS : Int32) (hS : SS Z wUNKNOWN wHELD wTRUE wNOT_HELD wFALSE wMT wCS) (pa1 : Addr) (pa2 : Addr) (h0 : Heap) (n0 : Nat) (O0 : Old Z n0 h0) (P0 : Exa Z h0 pa1 s3n) (P1 : Fld Z h0 pa1 s3n "problem" s5n .null) (P2 : Fld Z h0 pa1 s3n "truth" s2n .null) (P4 : n0 ≤ pa1) :
    MetB l M8 prog_2_method_1_code 3 none ws (rmk 2 0 0 24) Z h0 #[(.ref pa1), (.ref wUNKNOWN), (.ref pa2)] (Q_au10_0 Z wUNKNOWN wHELD wTRUE wNOT_HELD wFALSE wMT wCS pa1 pa2 h0 n0) := by
  refine own_body (plainFor_of_name pn_com_example_tuplecraft_tuplecraft_Grant) ?_
  intro p e s m below meth c s₁ hx hby hml hown hnm hret0 hlk0 hZ X0 e0
  have N0 := Fr.nil n0
  have pre0 : ∀ t, Steps p.tables e below (s₁.setTop (mkF m 0 #[(vr pa1), (vr wUNKNOWN), (vr pa2)] [])) t → Steps p.tables e below (s₁.setTop (entryFrame m #[(.ref pa1), (.ref wUNKNOWN), (.ref pa2)] 3)) t := fun t k => castTop (ef_au10_0 m pa1 wUNKNOWN pa2) k
  have K0 := Keep.refl h0 [pa1]
  have hS0 := hS
  obtain ⟨S_wUNKNOWN, E_wUNKNOWN, S_wHELD, E_wHELD, S_wTRUE, E_wTRUE, S_wNOT_HELD, E_wNOT_HELD, S_wFALSE, E_wFALSE, F_ordinal_wUNKNOWN, F_ordinal_wTRUE, F_ordinal_wFALSE, F_truth_wHELD, F_truth_wNOT_HELD, M_wMT, S_wCS, N_wCS⟩ := hS0
  obtain ⟨_, _, ⟨T1, L1, k1, n1⟩, -, X1, ⟨Lc1, hQ1, l1, y1, z1⟩, st1⟩ := X0.specialBack hx (y := M7) rfl hown (mvT hZ (ow hw 53 rfl)) (mvT hZ (ow hw 54 rfl)) (mvT hZ (ow hw 57 rfl)) (by decide) (backOf (W := 0) (au11_0 l Z a0 hw [] wUNKNOWN wHELD wTRUE wNOT_HELD wFALSE wMT wCS hS pa1 h0 n0 O0 ) hZ (ow hw 57 rfl) (ow hw 56 rfl) (by decide) (by decide)) (g := (mkF m 1 #[(vr pa1), (vr wUNKNOWN), (vr pa2)] [(.ref pa1)])) rfl (by rw [hml]; rfl) (Steps.refl _) (a := pa1) (argsL := []) (rest := []) (lenOf pd_7 rfl) rfl (by show 2 * 0 + _ ≤ _; exact Nat.le_of_eq rfl) (hb hby d10_1) (fun _ _ => ⟨rfl, e0, (by decide : 0 + 0 ≤ _), (by decide : 0 + 0 ≤ _)⟩)
  dsimp only [Pt.U, Pt.locs, Pt.cells, Pt.slots] at X1 l1 y1 z1 st1 hQ1
  subst y1 z1
  obtain ⟨rfl, Nq1, K1q⟩ := hQ1
  have N1 : Fr n0 L1 := (congrArg (Fr n0) l1).mpr (Fr.app N0 Nq1)
  obtain ⟨T2, h2, X2, e2, W2, st2⟩ := putF X1 hx hZ hown (host := "") (Or.inl (ow hw 59 rfl)) Via.refl K1q P2 P0 (Or.inr ⟨(ow hw 60 rfl), rfl, hnm⟩) (ow hw 46 rfl) (ty := (.object s1n)) (by decide) rfl rfl (g := (mkF m 6 #[(vr pa1), (vr wUNKNOWN), (vr pa2)] [(.ref wUNKNOWN), (.ref pa1)])) rfl rfl (hb hby d10_6)
  have N2 := Fr.snoc X2 N1 P4
  have O3 : Old Z n0 h2 := O0.wr W2 P4
  have K3 : Keep h0 h2 [pa1] := K0.wr W2 (Or.inl (List.mem_of_getElem? (i := 0) rfl))
  have Fw2 : Fld Z h2 pa1 s3n "truth" s2n (.ref wUNKNOWN) := P2.same W2
  have f4 : Exa Z h2 pa1 s3n := (P0.wr W2)
  have f5 : Fld Z h2 pa1 s3n "problem" s5n .null := (P1.other W2 (Or.inr (slot_ne (Or.inr (ow hw 62 rfl)) (Or.inr (ow hw 60 rfl)) (by decide) (t := (.object s0n)) (t' := (.object s1n)) (by decide) (by decide))))
  obtain ⟨T6, h6, X6, e6, W6, st6⟩ := putF X2 hx hZ hown (host := "") (Or.inl (ow hw 61 rfl)) Via.refl e2 f5 f4 (Or.inr ⟨(ow hw 62 rfl), rfl, hnm⟩) (ow hw 46 rfl) (ty := (.object s0n)) (by decide) rfl rfl (g := (mkF m 11 #[(vr pa1), (vr wUNKNOWN), (vr pa2)] [(.ref pa2), (.ref pa1)])) rfl rfl (hb hby d10_11)
  have N6 := Fr.snoc X6 N2 P4
  have O7 : Old Z n0 h6 := O3.wr W6 P4
  have K7 : Keep h0 h6 [pa1] := K3.wr W6 (Or.inl (List.mem_of_getElem? (i := 0) rfl))
  have Fw6 : Fld Z h6 pa1 s3n "problem" s5n (.ref pa2) := f5.same W6
  have f8 : Exa Z h6 pa1 s3n := (f4.wr W6)
  have f9 : Fld Z h6 pa1 s3n "truth" s2n (.ref wUNKNOWN) := (Fw2.other W6 (Or.inr (slot_ne (Or.inr (ow hw 60 rfl)) (Or.inr (ow hw 62 rfl)) (by decide) (t := (.object s1n)) (t' := (.object s0n)) (by decide) (by decide))))
  obtain ⟨fs, hr, hrun, hended, hW, hsame⟩ := X6.leave (v := none) (fun _ => rfl)
  refine ⟨_, _, pre0 _ ?_, hrun, hended, _, _, rfl, ?_, ⟨_, rfl⟩, hW, hsame.mono (by decide) (by decide)⟩
  · skip
    show Steps p.tables e below (s₁.setTop (mkF m 0 #[(vr pa1), (vr wUNKNOWN), (vr pa2)] [])) _
    refine XS.aloadN X0.here hx rfl (hb hby d10_0) rfl rfl ?_
    refine st1.trans ?_
    refine XS.aloadN X1.here hx rfl (hb hby d10_4) rfl rfl ?_
    refine XS.aloadN X1.here hx rfl (hb hby d10_5) rfl rfl ?_
    refine st2 _ ?_
    refine XS.aloadN X2.here hx rfl (hb hby d10_9) rfl rfl ?_
    refine XS.aloadN X2.here hx rfl (hb hby d10_10) rfl rfl ?_
    refine st6 _ ?_
    show Steps p.tables e below (T6.setTop (mkF m 14 #[(vr pa1), (vr wUNKNOWN), (vr pa2)] [])) _
    exact X6.returnOut hx hret0 (hb hby d10_14) hr
  · show Q_au10_0 Z wUNKNOWN wHELD wTRUE wNOT_HELD wFALSE wMT wCS pa1 pa2 h0 n0 _ T6.heap _
    rw [e6]
    exact ⟨rfl, N6, K7, f8, Fw6, f9⟩
theorem pd_8 : parseMethodDescriptor "(Lcom/example/tuplecraft/tuplecraft/Truth;Ljava/lang/String;)V" = some ⟨[(.object "com/example/tuplecraft/tuplecraft/Truth"), (.object "java/lang/String")], none⟩ := by decide +kernel
theorem d9_11 : decode prog_2_method_2_code 11 = .ok (.areturn, 1) := by decide +kernel
def Q_au9_0 (Z : State) (wUNKNOWN : Addr) (wHELD : Addr) (wTRUE : Addr) (wNOT_HELD : Addr) (wFALSE : Addr) (wMT : Addr) (wCS : Int32) (pa1 : Addr) (h0 : Heap) (n0 : Nat) (v : Option Value) (h : Heap) (L : List Loc) : Prop := ∃ (e1 : Addr), v = some (.ref e1) ∧ Fr n0 L ∧ Keep h0 h [] ∧ h0.size ≤ e1 ∧ Exa Z h e1 s3n ∧ Fld Z h e1 s3n "problem" s5n (.ref pa1) ∧ Fld Z h e1 s3n "truth" s2n (.ref wUNKNOWN)
theorem au9_0 (l : Launch) (Z : State) (a0 : Array Value) (hw : ∀ d ∈ tables_1, d.before a0 Z = true) (ws : List Jvm.Cond) (wUNKNOWN : Addr) (wHELD : Addr) (wTRUE : Addr) (wNOT_HELD : Addr) (wFALSE : Addr) (wMT : Addr) (wCS : Int32) (hS : SS Z wUNKNOWN wHELD wTRUE wNOT_HELD wFALSE wMT wCS) (pa1 : Addr) (h0 : Heap) (n0 : Nat) (O0 : Old Z n0 h0) (P0 : Exa Z h0 pa1 s0n) :
    MetB l M9 prog_2_method_2_code 1 (some (.object s3n)) ws (rmk 3 1 2 39) Z h0 #[(.ref pa1)] (Q_au9_0 Z wUNKNOWN wHELD wTRUE wNOT_HELD wFALSE wMT wCS pa1 h0 n0) := by
  refine own_body (plainFor_of_name pn_com_example_tuplecraft_tuplecraft_Grant) ?_
  intro p e s m below meth c s₁ hx hby hml hown hnm hret0 hlk0 hZ X0 e0
  have N0 := Fr.nil n0
  have pre0 : ∀ t, Steps p.tables e below (s₁.setTop (mkF m 0 #[(vr pa1)] [])) t → Steps p.tables e below (s₁.setTop (entryFrame m #[(.ref pa1)] 1)) t := fun t k => castTop (ef_au9_0 m pa1) k
  have K0 := Keep.refl h0 []
  have hS0 := hS
  obtain ⟨S_wUNKNOWN, E_wUNKNOWN, S_wHELD, E_wHELD, S_wTRUE, E_wTRUE, S_wNOT_HELD, E_wNOT_HELD, S_wFALSE, E_wFALSE, F_ordinal_wUNKNOWN, F_ordinal_wTRUE, F_ordinal_wFALSE, F_truth_wHELD, F_truth_wNOT_HELD, M_wMT, S_wCS, N_wCS⟩ := hS0
  obtain ⟨T1, h1, X1, e1, E1, A1, D1, -, st1⟩ := newO X0 hx hZ hown (ow hw 45 rfl) (ow hw 46 rfl) (ow hw 43 rfl) e0 (g := (mkF m 0 #[(vr pa1)] [])) rfl (hb hby d9_0) (by decide) (by decide)
  obtain ⟨b1, g1⟩ : ∃ z, z = h0.size := ⟨_, rfl⟩
  rw [← g1] at A1 D1 st1
  have ne2 : pa1 ≠ b1 := Nat.ne_of_lt (Nat.lt_of_lt_of_le P0.lt (Nat.le_of_eq g1.symm))
  have g3 : n0 ≤ b1 := Nat.le_trans (own_sz O0) (Nat.le_of_eq g1.symm)
  have sz4 : h0.size ≤ b1 := Nat.le_trans K0.1 (Nat.le_of_eq g1.symm)
  have O5 : Old Z n0 h1 := O0.ext E1
  have K5 : Keep h0 h1 [] := K0.ext E1
  have f6 : Fld Z h1 b1 s3n "truth" s2n .null := D1 (Or.inr (ow hw 60 rfl)) (ty := (.object s1n)) (by decide)
  have f7 : Fld Z h1 b1 s3n "problem" s5n .null := D1 (Or.inr (ow hw 62 rfl)) (ty := (.object s0n)) (by decide)
  obtain ⟨T8, X8, e8, st8⟩ := getS2 X1 hx hZ hown (host := "") (Or.inl (ow hw 47 rfl)) Via.refl e1 (S_wUNKNOWN.ext O5.2) (g := (mkF m 4 #[(vr pa1)] [(.ref b1), (.ref b1)])) rfl (hb hby d9_4)
  obtain ⟨_, _, ⟨T9, L9, k9, n9⟩, -, X9, ⟨Lc9, hQ9, l9, y9, z9⟩, st9⟩ := X8.specialBack hx (y := M8) rfl hown (mvT hZ (ow hw 50 rfl)) (mvT hZ (ow hw 51 rfl)) (mvT hZ (ow hw 52 rfl)) (by decide) (backOf (W := 1) (au10_0 l Z a0 hw [] wUNKNOWN wHELD wTRUE wNOT_HELD wFALSE wMT wCS hS b1 pa1 h1 n0 O5 A1 f7 f6 g3) hZ (ow hw 52 rfl) (ow hw 43 rfl) (by decide) (by decide)) (g := (mkF m 8 #[(vr pa1)] [(.ref pa1), (.ref wUNKNOWN), (.ref b1), (.ref b1)])) rfl (by rw [hml]; rfl) (Steps.refl _) (a := b1) (argsL := [(.ref wUNKNOWN), (.ref pa1)]) (rest := [(.ref b1)]) (lenOf pd_8 rfl) rfl (by show 2 * 0 + _ ≤ _; exact Nat.le_of_eq rfl) (hb hby d9_8) (fun _ _ => ⟨rfl, e8, (by decide : 1 + 0 ≤ _), (by decide : 2 + 0 ≤ _)⟩)
  dsimp only [Pt.U, Pt.locs, Pt.cells, Pt.slots] at X9 l9 y9 z9 st9 hQ9
  subst y9 z9
  obtain ⟨rfl, Nq9, K9q, p9_0, p9_1, p9_2⟩ := hQ9
  have N9 : Fr n0 L9 := (congrArg (Fr n0) l9).mpr (Fr.app N0 Nq9)
  have O10 : Old Z n0 T9.heap := O5.keep K9q (allS g3 all0)
  have K10 : Keep h0 T9.heap [] := K5.trans K9q (allS (Or.inr sz4) all0)
  obtain ⟨fs, hr, hrun, hended, hW, hsame⟩ := X9.leave (v := some (.ref b1)) (fun h => by rw [hret0] at h; cases h)
  refine ⟨_, _, pre0 _ ?_, hrun, hended, _, _, rfl, ?_, ⟨_, rfl⟩, hW, hsame.mono (by decide) (by decide)⟩
  · skip
    show Steps p.tables e below (s₁.setTop (mkF m 0 #[(vr pa1)] [])) _
    refine st1 _ ?_
    refine XS.dup X1.here hx rfl (hb hby d9_3) rfl rfl ?_
    refine st8 _ ?_
    refine XS.aloadN X8.here hx rfl (hb hby d9_7) rfl rfl ?_
    refine st9.trans ?_
    jvm_step X9.here [X9.here.top, hx, (hb hby d9_11), X9.method', hret0, Value.isRef, FieldType.isReference]
    first | (intro acts; rw [hr _ acts rfl rfl rfl]) | rw [hr _ _ rfl rfl rfl]
    exact Steps.refl _
  · show Q_au9_0 Z wUNKNOWN wHELD wTRUE wNOT_HELD wFALSE wMT wCS pa1 h0 n0 _ T9.heap _
    exact ⟨b1, rfl, N9, K10, sz4, p9_0, p9_1, p9_2⟩
theorem pd_9 : parseMethodDescriptor "(Ljava/lang/String;)Lcom/example/tuplecraft/tuplecraft/Grant;" = some ⟨[(.object "java/lang/String")], some (.object "com/example/tuplecraft/tuplecraft/Grant")⟩ := by decide +kernel
theorem ef_au12_0 (m : MethodId) (x0 : Addr)  : entryFrame m #[(.ref x0)] 1 = mkF m 0 #[(vr x0)] [] := by first | (simp [entryFrame, mkF, argsToLocals, Value.category]; done) | rfl
theorem d12_0 : decode prog_2_method_7_code 0 = .ok (.aload_n 0, 1) := by decide +kernel
theorem d12_1 : decode prog_2_method_7_code 1 = .ok (.getfield 7, 3) := by decide +kernel
theorem d12_4 : decode prog_2_method_7_code 4 = .ok (.areturn, 1) := by decide +kernel
def Q_au12_0 (Z : State) (wUNKNOWN : Addr) (wHELD : Addr) (wTRUE : Addr) (wNOT_HELD : Addr) (wFALSE : Addr) (wMT : Addr) (wCS : Int32) (pa1 : Addr) (h0 : Heap) (n0 : Nat) (v : Option Value) (h : Heap) (L : List Loc) : Prop := v = some (.ref wUNKNOWN) ∧ Fr n0 L ∧ h = h0
theorem au12_0 (l : Launch) (Z : State) (a0 : Array Value) (hw : ∀ d ∈ tables_1, d.before a0 Z = true) (ws : List Jvm.Cond) (wUNKNOWN : Addr) (wHELD : Addr) (wTRUE : Addr) (wNOT_HELD : Addr) (wFALSE : Addr) (wMT : Addr) (wCS : Int32) (hS : SS Z wUNKNOWN wHELD wTRUE wNOT_HELD wFALSE wMT wCS) (pa1 : Addr) (h0 : Heap) (n0 : Nat) (O0 : Old Z n0 h0) (P2 : Fld Z h0 pa1 s3n "truth" s2n (.ref wUNKNOWN)) :
    MetB l M10 prog_2_method_7_code 1 (some (.object s1n)) ws (rmk 0 0 0 0) Z h0 #[(.ref pa1)] (Q_au12_0 Z wUNKNOWN wHELD wTRUE wNOT_HELD wFALSE wMT wCS pa1 h0 n0) := by
  refine own_body (plainFor_of_name pn_com_example_tuplecraft_tuplecraft_Grant) ?_
  intro p e s m below meth c s₁ hx hby hml hown hnm hret0 hlk0 hZ X0 e0
  have N0 := Fr.nil n0
  have pre0 : ∀ t, Steps p.tables e below (s₁.setTop (mkF m 0 #[(vr pa1)] [])) t → Steps p.tables e below (s₁.setTop (entryFrame m #[(.ref pa1)] 1)) t := fun t k => castTop (ef_au12_0 m pa1) k
  have hS0 := hS
  obtain ⟨S_wUNKNOWN, E_wUNKNOWN, S_wHELD, E_wHELD, S_wTRUE, E_wTRUE, S_wNOT_HELD, E_wNOT_HELD, S_wFALSE, E_wFALSE, F_ordinal_wUNKNOWN, F_ordinal_wTRUE, F_ordinal_wFALSE, F_truth_wHELD, F_truth_wNOT_HELD, M_wMT, S_wCS, N_wCS⟩ := hS0
  obtain ⟨T1, X1, e1, st1⟩ := getF X0 hx hZ hown (host := "") (Or.inl (ow hw 59 rfl)) Via.refl e0 P2 (g := (mkF m 1 #[(vr pa1)] [(.ref pa1)])) rfl rfl (hb hby d12_1)
  obtain ⟨fs, hr, hrun, hended, hW, hsame⟩ := X1.leave (v := some (.ref wUNKNOWN)) (fun h => by rw [hret0] at h; cases h)
  refine ⟨_, _, pre0 _ ?_, hrun, hended, _, _, rfl, ?_, ⟨_, rfl⟩, hW, hsame.mono (by decide) (by decide)⟩
  · skip
    show Steps p.tables e below (s₁.setTop (mkF m 0 #[(vr pa1)] [])) _
    refine XS.aloadN X0.here hx rfl (hb hby d12_0) rfl rfl ?_
    refine st1 _ ?_
    jvm_step X1.here [X1.here.top, hx, (hb hby d12_4), X1.method', hret0, Value.isRef, FieldType.isReference]
    first | (intro acts; rw [hr _ acts rfl rfl rfl]) | rw [hr _ _ rfl rfl rfl]
    exact Steps.refl _
  · show Q_au12_0 Z wUNKNOWN wHELD wTRUE wNOT_HELD wFALSE wMT wCS pa1 h0 n0 _ T1.heap _
    rw [e1]
    exact ⟨rfl, N0, rfl⟩
theorem pd_10 : parseMethodDescriptor "()Lcom/example/tuplecraft/tuplecraft/Truth;" = some ⟨[], some (.object "com/example/tuplecraft/tuplecraft/Truth")⟩ := by decide +kernel
theorem ef_au13_0 (m : MethodId) (x0 : Addr)  : entryFrame m #[(.ref x0)] 1 = mkF m 0 #[(vr x0)] [] := by first | (simp [entryFrame, mkF, argsToLocals, Value.category]; done) | rfl
theorem d13_0 : decode prog_2_method_8_code 0 = .ok (.aload_n 0, 1) := by decide +kernel
theorem d13_1 : decode prog_2_method_8_code 1 = .ok (.getfield 13, 3) := by decide +kernel
theorem d13_4 : decode prog_2_method_8_code 4 = .ok (.areturn, 1) := by decide +kernel
def Q_au13_0 (Z : State) (wUNKNOWN : Addr) (wHELD : Addr) (wTRUE : Addr) (wNOT_HELD : Addr) (wFALSE : Addr) (wMT : Addr) (wCS : Int32) (pa1 : Addr) (pa2 : Addr) (h0 : Heap) (n0 : Nat) (v : Option Value) (h : Heap) (L : List Loc) : Prop := v = some (.ref pa2) ∧ Fr n0 L ∧ h = h0
theorem au13_0 (l : Launch) (Z : State) (a0 : Array Value) (hw : ∀ d ∈ tables_1, d.before a0 Z = true) (ws : List Jvm.Cond) (wUNKNOWN : Addr) (wHELD : Addr) (wTRUE : Addr) (wNOT_HELD : Addr) (wFALSE : Addr) (wMT : Addr) (wCS : Int32) (hS : SS Z wUNKNOWN wHELD wTRUE wNOT_HELD wFALSE wMT wCS) (pa1 : Addr) (pa2 : Addr) (h0 : Heap) (n0 : Nat) (O0 : Old Z n0 h0) (P1 : Fld Z h0 pa1 s3n "problem" s5n (.ref pa2)) :
    MetB l M11 prog_2_method_8_code 1 (some (.object s0n)) ws (rmk 0 0 0 0) Z h0 #[(.ref pa1)] (Q_au13_0 Z wUNKNOWN wHELD wTRUE wNOT_HELD wFALSE wMT wCS pa1 pa2 h0 n0) := by
  refine own_body (plainFor_of_name pn_com_example_tuplecraft_tuplecraft_Grant) ?_
  intro p e s m below meth c s₁ hx hby hml hown hnm hret0 hlk0 hZ X0 e0
  have N0 := Fr.nil n0
  have pre0 : ∀ t, Steps p.tables e below (s₁.setTop (mkF m 0 #[(vr pa1)] [])) t → Steps p.tables e below (s₁.setTop (entryFrame m #[(.ref pa1)] 1)) t := fun t k => castTop (ef_au13_0 m pa1) k
  have hS0 := hS
  obtain ⟨S_wUNKNOWN, E_wUNKNOWN, S_wHELD, E_wHELD, S_wTRUE, E_wTRUE, S_wNOT_HELD, E_wNOT_HELD, S_wFALSE, E_wFALSE, F_ordinal_wUNKNOWN, F_ordinal_wTRUE, F_ordinal_wFALSE, F_truth_wHELD, F_truth_wNOT_HELD, M_wMT, S_wCS, N_wCS⟩ := hS0
  obtain ⟨T1, X1, e1, st1⟩ := getF X0 hx hZ hown (host := "") (Or.inl (ow hw 61 rfl)) Via.refl e0 P1 (g := (mkF m 1 #[(vr pa1)] [(.ref pa1)])) rfl rfl (hb hby d13_1)
  obtain ⟨fs, hr, hrun, hended, hW, hsame⟩ := X1.leave (v := some (.ref pa2)) (fun h => by rw [hret0] at h; cases h)
  refine ⟨_, _, pre0 _ ?_, hrun, hended, _, _, rfl, ?_, ⟨_, rfl⟩, hW, hsame.mono (by decide) (by decide)⟩
  · skip
    show Steps p.tables e below (s₁.setTop (mkF m 0 #[(vr pa1)] [])) _
    refine XS.aloadN X0.here hx rfl (hb hby d13_0) rfl rfl ?_
    refine st1 _ ?_
    jvm_step X1.here [X1.here.top, hx, (hb hby d13_4), X1.method', hret0, Value.isRef, FieldType.isReference]
    first | (intro acts; rw [hr _ acts rfl rfl rfl]) | rw [hr _ _ rfl rfl rfl]
    exact Steps.refl _
  · show Q_au13_0 Z wUNKNOWN wHELD wTRUE wNOT_HELD wFALSE wMT wCS pa1 pa2 h0 n0 _ T1.heap _
    rw [e1]
    exact ⟨rfl, N0, rfl⟩
theorem pd_11 : parseMethodDescriptor "()Ljava/lang/String;" = some ⟨[], some (.object "java/lang/String")⟩ := by decide +kernel
theorem ef_au14_0 (m : MethodId) (x0 : Addr) (x1 : Addr)  : entryFrame m #[(.ref x0), (.ref x1)] 3 = mkF m 0 #[(vr x0), (vr x1), .unset] [] := by first | (simp [entryFrame, mkF, argsToLocals, Value.category]; done) | rfl
theorem d14_0 : decode jdk_42_method_66_code 0 = .ok (.aload_n 0, 1) := by decide +kernel
theorem d14_1 : decode jdk_42_method_66_code 1 = .ok (.aload_n 1, 1) := by decide +kernel
theorem d14_2 : decode jdk_42_method_66_code 2 = .ok (.if_acmp .ne 5, 3) := by decide +kernel
theorem d14_5 : decode jdk_42_method_66_code 5 = .ok (.iconst 1, 1) := by decide +kernel
theorem d14_6 : decode jdk_42_method_66_code 6 = .ok (.ireturn, 1) := by decide +kernel
def Q_au14_0 (Z : State) (wUNKNOWN : Addr) (wHELD : Addr) (wTRUE : Addr) (wNOT_HELD : Addr) (wFALSE : Addr) (wMT : Addr) (wCS : Int32) (pa1 : Addr) (h0 : Heap) (n0 : Nat) (v : Option Value) (h : Heap) (L : List Loc) : Prop := v = some (.int 1) ∧ Fr n0 L ∧ h = h0
theorem au14_0 (l : Launch) (Z : State) (a0 : Array Value) (hw : ∀ d ∈ tables_1, d.before a0 Z = true) (ws : List Jvm.Cond) (wUNKNOWN : Addr) (wHELD : Addr) (wTRUE : Addr) (wNOT_HELD : Addr) (wFALSE : Addr) (wMT : Addr) (wCS : Int32) (hS : SS Z wUNKNOWN wHELD wTRUE wNOT_HELD wFALSE wMT wCS) (pa1 : Addr) (h0 : Heap) (n0 : Nat) (O0 : Old Z n0 h0)  :
    MetB l M12 jdk_42_method_66_code 3 (some .boolean) ws (rmk 0 0 0 0) Z h0 #[(.ref pa1), (.ref pa1)] (Q_au14_0 Z wUNKNOWN wHELD wTRUE wNOT_HELD wFALSE wMT wCS pa1 h0 n0) := by
  refine own_body (plainFor_of_name pn_java_lang_String) ?_
  intro p e s m below meth c s₁ hx hby hml hown hnm hret0 hlk0 hZ X0 e0
  have N0 := Fr.nil n0
  have pre0 : ∀ t, Steps p.tables e below (s₁.setTop (mkF m 0 #[(vr pa1), (vr pa1), .unset] [])) t → Steps p.tables e below (s₁.setTop (entryFrame m #[(.ref pa1), (.ref pa1)] 3)) t := fun t k => castTop (ef_au14_0 m pa1 pa1) k
  have hS0 := hS
  obtain ⟨S_wUNKNOWN, E_wUNKNOWN, S_wHELD, E_wHELD, S_wTRUE, E_wTRUE, S_wNOT_HELD, E_wNOT_HELD, S_wFALSE, E_wFALSE, F_ordinal_wUNKNOWN, F_ordinal_wTRUE, F_ordinal_wFALSE, F_truth_wHELD, F_truth_wNOT_HELD, M_wMT, S_wCS, N_wCS⟩ := hS0
  obtain ⟨fs, hr, hrun, hended, hW, hsame⟩ := X0.leave (v := some (.int 1)) (fun h => by rw [hret0] at h; cases h)
  refine ⟨_, _, pre0 _ ?_, hrun, hended, _, _, rfl, ?_, ⟨_, rfl⟩, hW, hsame.mono (by decide) (by decide)⟩
  · skip
    show Steps p.tables e below (s₁.setTop (mkF m 0 #[(vr pa1), (vr pa1), .unset] [])) _
    refine XS.aloadN X0.here hx rfl (hb hby d14_0) rfl rfl ?_
    refine XS.aloadN X0.here hx rfl (hb hby d14_1) rfl rfl ?_
    refine Jvm.RoadKit.acmp (g := (mkF m 2 #[(vr pa1), (vr pa1), .unset] [(.ref pa1), (.ref pa1)])) X0 hx rfl rfl rfl (pc0 := 2) (pc' := 5) (same := true) rfl (hb hby d14_2) rfl (decide_eq_true rfl) (by decide) (by decide) ?_
    refine XS.iconst X0.here hx rfl (hb hby d14_5) ?_
    exact retN X0 hx (t := .boolean) hret0 (by simp) (hb hby d14_6) hr
  · show Q_au14_0 Z wUNKNOWN wHELD wTRUE wNOT_HELD wFALSE wMT wCS pa1 h0 n0 _ s₁.heap _
    rw [e0]
    exact ⟨rfl, N0, rfl⟩
theorem pd_12 : parseMethodDescriptor "(Ljava/lang/Object;)Z" = some ⟨[(.object "java/lang/Object")], some .boolean⟩ := by decide +kernel
theorem ef_au15_0 (m : MethodId) (x0 : Addr) (x1 : Addr)  : entryFrame m #[(.ref x0), (.ref x1)] 2 = mkF m 0 #[(vr x0), (vr x1)] [] := by first | (simp [entryFrame, mkF, argsToLocals, Value.category]; done) | rfl
theorem d15_0 : decode prog_2_method_3_code 0 = .ok (.aload_n 0, 1) := by decide +kernel
theorem d15_1 : decode prog_2_method_3_code 1 = .ok (.getfield 7, 3) := by decide +kernel
theorem d15_4 : decode prog_2_method_3_code 4 = .ok (.aload_n 1, 1) := by decide +kernel
theorem d15_5 : decode prog_2_method_3_code 5 = .ok (.getfield 7, 3) := by decide +kernel
theorem d15_8 : decode prog_2_method_3_code 8 = .ok (.invokevirtual 25, 3) := by decide +kernel
theorem ef_au16_0 (m : MethodId) (x0 : Addr) (x1 : Addr)  : entryFrame m #[(.ref x0), (.ref x1)] 4 = mkF m 0 #[(vr x0), (vr x1), .unset, .unset] [] := by first | (simp [entryFrame, mkF, argsToLocals, Value.category]; done) | rfl
theorem pn_java_lang_Enum : plainName "java/lang/Enum" = true := by first | (simp [plainName, overriddenIn]; done) | decide +kernel
theorem d16_0 : decode jdk_37_method_8_code 0 = .ok (.aload_n 1, 1) := by decide +kernel
theorem d16_1 : decode jdk_37_method_8_code 1 = .ok (.astore_n 2, 1) := by decide +kernel
theorem d16_2 : decode jdk_37_method_8_code 2 = .ok (.aload_n 0, 1) := by decide +kernel
theorem d16_3 : decode jdk_37_method_8_code 3 = .ok (.astore_n 3, 1) := by decide +kernel
theorem d16_4 : decode jdk_37_method_8_code 4 = .ok (.aload_n 3, 1) := by decide +kernel
theorem d16_5 : decode jdk_37_method_8_code 5 = .ok (.invokevirtual 29, 3) := by decide +kernel
theorem d16_8 : decode jdk_37_method_8_code 8 = .ok (.aload_n 2, 1) := by decide +kernel
theorem d16_9 : decode jdk_37_method_8_code 9 = .ok (.invokevirtual 29, 3) := by decide +kernel
theorem d16_12 : decode jdk_37_method_8_code 12 = .ok (.if_acmp .eq 22, 3) := by decide +kernel
theorem d16_34 : decode jdk_37_method_8_code 34 = .ok (.aload_n 3, 1) := by decide +kernel
theorem d16_35 : decode jdk_37_method_8_code 35 = .ok (.getfield 7, 3) := by decide +kernel
theorem d16_38 : decode jdk_37_method_8_code 38 = .ok (.aload_n 2, 1) := by decide +kernel
theorem d16_39 : decode jdk_37_method_8_code 39 = .ok (.getfield 7, 3) := by decide +kernel
theorem d16_42 : decode jdk_37_method_8_code 42 = .ok (.isub, 1) := by decide +kernel
theorem d16_43 : decode jdk_37_method_8_code 43 = .ok (.ireturn, 1) := by decide +kernel
def Q_au16_0 (Z : State) (wUNKNOWN : Addr) (wHELD : Addr) (wTRUE : Addr) (wNOT_HELD : Addr) (wFALSE : Addr) (wMT : Addr) (wCS : Int32)  (h0 : Heap) (n0 : Nat) (v : Option Value) (h : Heap) (L : List Loc) : Prop := v = some (.int (-1 : Int32)) ∧ Fr n0 L ∧ h = h0
theorem au16_0 (l : Launch) (Z : State) (a0 : Array Value) (hw : ∀ d ∈ tables_1, d.before a0 Z = true) (ws : List Jvm.Cond) (wUNKNOWN : Addr) (wHELD : Addr) (wTRUE : Addr) (wNOT_HELD : Addr) (wFALSE : Addr) (wMT : Addr) (wCS : Int32) (hS : SS Z wUNKNOWN wHELD wTRUE wNOT_HELD wFALSE wMT wCS)  (h0 : Heap) (n0 : Nat) (O0 : Old Z n0 h0)  :
    MetB l M13 jdk_37_method_8_code 4 (some .int) ws (rmk 1 0 0 31) Z h0 #[(.ref wUNKNOWN), (.ref wTRUE)] (Q_au16_0 Z wUNKNOWN wHELD wTRUE wNOT_HELD wFALSE wMT wCS  h0 n0) := by
  refine own_body (plainFor_of_name pn_java_lang_Enum) ?_
  intro p e s m below meth c s₁ hx hby hml hown hnm hret0 hlk0 hZ X0 e0
  have N0 := Fr.nil n0
  have pre0 : ∀ t, Steps p.tables e below (s₁.setTop (mkF m 0 #[(vr wUNKNOWN), (vr wTRUE), .unset, .unset] [])) t → Steps p.tables e below (s₁.setTop (entryFrame m #[(.ref wUNKNOWN), (.ref wTRUE)] 4)) t := fun t k => castTop (ef_au16_0 m wUNKNOWN wTRUE) k
  have hS0 := hS
  obtain ⟨S_wUNKNOWN, E_wUNKNOWN, S_wHELD, E_wHELD, S_wTRUE, E_wTRUE, S_wNOT_HELD, E_wNOT_HELD, S_wFALSE, E_wFALSE, F_ordinal_wUNKNOWN, F_ordinal_wTRUE, F_ordinal_wFALSE, F_truth_wHELD, F_truth_wNOT_HELD, M_wMT, S_wCS, N_wCS⟩ := hS0
  obtain ⟨T1, X1, e1, st1⟩ := own_getClass X0 hx hZ hown (ow hw 94 rfl) (ow hw 95 rfl) (ow hw 97 rfl) (ow hw 96 rfl) (ow hw 98 rfl) e0 (E_wUNKNOWN.ext O0.2) M_wMT (g := (mkF m 5 #[(vr wUNKNOWN), (vr wTRUE), (vr wTRUE), (vr wUNKNOWN)] [(.ref wUNKNOWN)])) rfl (by rw [hml]; rfl) rfl (hb hby d16_5) (by decide) (W := 0) (by show 2 * 0 + _ ≤ _; exact Nat.le_of_eq rfl) (by decide)
  obtain ⟨T2, X2, e2, st2⟩ := own_getClass X1 hx hZ hown (ow hw 94 rfl) (ow hw 95 rfl) (ow hw 97 rfl) (ow hw 96 rfl) (ow hw 98 rfl) e1 (E_wTRUE.ext O0.2) M_wMT (g := (mkF m 9 #[(vr wUNKNOWN), (vr wTRUE), (vr wTRUE), (vr wUNKNOWN)] [(.ref wTRUE), (.ref wMT)])) rfl (by rw [hml]; rfl) rfl (hb hby d16_9) (by decide) (W := 1) (by show 2 * 0 + _ ≤ _; exact Nat.le_of_eq rfl) (by decide)
  obtain ⟨T3, X3, e3, st3⟩ := getF X2 hx hZ hown (host := "") (Or.inl (ow hw 100 rfl)) Via.refl e2 (F_ordinal_wUNKNOWN.ext O0.2) (g := (mkF m 35 #[(vr wUNKNOWN), (vr wTRUE), (vr wTRUE), (vr wUNKNOWN)] [(.ref wUNKNOWN)])) rfl rfl (hb hby d16_35)
  obtain ⟨T4, X4, e4, st4⟩ := getF X3 hx hZ hown (host := "") (Or.inl (ow hw 100 rfl)) Via.refl e3 (F_ordinal_wTRUE.ext O0.2) (g := (mkF m 39 #[(vr wUNKNOWN), (vr wTRUE), (vr wTRUE), (vr wUNKNOWN)] [(.ref wTRUE), (.int 1)])) rfl rfl (hb hby d16_39)
  obtain ⟨fs, hr, hrun, hended, hW, hsame⟩ := X4.leave (v := some (.int (-1 : Int32))) (fun h => by rw [hret0] at h; cases h)
  refine ⟨_, _, pre0 _ ?_, hrun, hended, _, _, rfl, ?_, ⟨_, rfl⟩, hW, hsame.mono (by decide) (by decide)⟩
  · skip
    show Steps p.tables e below (s₁.setTop (mkF m 0 #[(vr wUNKNOWN), (vr wTRUE), .unset, .unset] [])) _
    refine XS.aloadN X0.here hx rfl (hb hby d16_0) rfl rfl ?_
    refine XS.astoreN X0.here hx rfl (hb hby d16_1) rfl rfl (l' := #[(vr wUNKNOWN), (vr wTRUE), (vr wTRUE), .unset]) rfl ?_
    refine XS.aloadN X0.here hx rfl (hb hby d16_2) rfl rfl ?_
    refine XS.astoreN X0.here hx rfl (hb hby d16_3) rfl rfl (l' := #[(vr wUNKNOWN), (vr wTRUE), (vr wTRUE), (vr wUNKNOWN)]) rfl ?_
    refine XS.aloadN X0.here hx rfl (hb hby d16_4) rfl rfl ?_
    refine st1 _ ?_
    refine XS.aloadN X1.here hx rfl (hb hby d16_8) rfl rfl ?_
    refine st2 _ ?_
    show Steps p.tables e below (T2.setTop (mkF m 12 #[(vr wUNKNOWN), (vr wTRUE), (vr wTRUE), (vr wUNKNOWN)] [(.ref wMT), (.ref wMT)])) _
    refine Jvm.RoadKit.acmp (g := (mkF m 12 #[(vr wUNKNOWN), (vr wTRUE), (vr wTRUE), (vr wUNKNOWN)] [(.ref wMT), (.ref wMT)])) X2 hx rfl rfl rfl (pc0 := 12) (pc' := 34) (same := true) rfl (hb hby d16_12) rfl (decide_eq_true rfl) (by decide) (by decide) ?_
    refine XS.aloadN X2.here hx rfl (hb hby d16_34) rfl rfl ?_
    refine st3 _ ?_
    refine XS.aloadN X3.here hx rfl (hb hby d16_38) rfl rfl ?_
    refine st4 _ ?_
    refine XS.isub X4.here hx rfl (hb hby d16_42) rfl ?_
    exact retI X4 hx hret0 (hb hby d16_43) hr
  · show Q_au16_0 Z wUNKNOWN wHELD wTRUE wNOT_HELD wFALSE wMT wCS  h0 n0 _ T4.heap _
    rw [e4]
    exact ⟨rfl, N0, rfl⟩
theorem pd_13 : parseMethodDescriptor "(Ljava/lang/Enum;)I" = some ⟨[(.object "java/lang/Enum")], some .int⟩ := by decide +kernel
theorem d15_11 : decode prog_2_method_3_code 11 = .ok (.ifCond .lt 7, 3) := by decide +kernel
theorem d15_18 : decode prog_2_method_3_code 18 = .ok (.aload_n 1, 1) := by decide +kernel
theorem d15_19 : decode prog_2_method_3_code 19 = .ok (.areturn, 1) := by decide +kernel
def Q_au15_0 (Z : State) (wUNKNOWN : Addr) (wHELD : Addr) (wTRUE : Addr) (wNOT_HELD : Addr) (wFALSE : Addr) (wMT : Addr) (wCS : Int32) (pa1 : Addr) (h0 : Heap) (n0 : Nat) (v : Option Value) (h : Heap) (L : List Loc) : Prop := v = some (.ref wHELD) ∧ Fr n0 L ∧ h = h0
theorem au15_0 (l : Launch) (Z : State) (a0 : Array Value) (hw : ∀ d ∈ tables_1, d.before a0 Z = true) (ws : List Jvm.Cond) (wUNKNOWN : Addr) (wHELD : Addr) (wTRUE : Addr) (wNOT_HELD : Addr) (wFALSE : Addr) (wMT : Addr) (wCS : Int32) (hS : SS Z wUNKNOWN wHELD wTRUE wNOT_HELD wFALSE wMT wCS) (pa1 : Addr) (h0 : Heap) (n0 : Nat) (O0 : Old Z n0 h0) (P2 : Fld Z h0 pa1 s3n "truth" s2n (.ref wUNKNOWN)) :
    MetB l M14 prog_2_method_3_code 2 (some (.object s3n)) ws (rmk 2 0 0 46) Z h0 #[(.ref pa1), (.ref wHELD)] (Q_au15_0 Z wUNKNOWN wHELD wTRUE wNOT_HELD wFALSE wMT wCS pa1 h0 n0) := by
  refine own_body (plainFor_of_name pn_com_example_tuplecraft_tuplecraft_Grant) ?_
  intro p e s m below meth c s₁ hx hby hml hown hnm hret0 hlk0 hZ X0 e0
  have N0 := Fr.nil n0
  have pre0 : ∀ t, Steps p.tables e below (s₁.setTop (mkF m 0 #[(vr pa1), (vr wHELD)] [])) t → Steps p.tables e below (s₁.setTop (entryFrame m #[(.ref pa1), (.ref wHELD)] 2)) t := fun t k => castTop (ef_au15_0 m pa1 wHELD) k
  have hS0 := hS
  obtain ⟨S_wUNKNOWN, E_wUNKNOWN, S_wHELD, E_wHELD, S_wTRUE, E_wTRUE, S_wNOT_HELD, E_wNOT_HELD, S_wFALSE, E_wFALSE, F_ordinal_wUNKNOWN, F_ordinal_wTRUE, F_ordinal_wFALSE, F_truth_wHELD, F_truth_wNOT_HELD, M_wMT, S_wCS, N_wCS⟩ := hS0
  obtain ⟨T1, X1, e1, st1⟩ := getF X0 hx hZ hown (host := "") (Or.inl (ow hw 59 rfl)) Via.refl e0 P2 (g := (mkF m 1 #[(vr pa1), (vr wHELD)] [(.ref pa1)])) rfl rfl (hb hby d15_1)
  obtain ⟨T2, X2, e2, st2⟩ := getF X1 hx hZ hown (host := "") (Or.inl (ow hw 59 rfl)) Via.refl e1 (F_truth_wHELD.ext O0.2) (g := (mkF m 5 #[(vr pa1), (vr wHELD)] [(.ref wHELD), (.ref wUNKNOWN)])) rfl rfl (hb hby d15_5)
  obtain ⟨cq3, kq3, q3a, q3b, q3c⟩ := isOf hZ e2 (E_wUNKNOWN.ext O0.2)
  obtain ⟨_, _, ⟨T3, L3, k3, n3⟩, -, X3, ⟨Lc3, hQ3, l3, y3, z3⟩, st3⟩ := X2.virtualBackUp hx (owner := s4n) (x := M15) (y := M13) hown (mvT hZ (ow hw 87 rfl)) (mvT hZ (ow hw 88 rfl)) (mvT hZ (ow hw 89 rfl)) (by decide) (mvT hZ (ow hw 91 rfl)) (mvT hZ (ow hw 90 rfl)) (backOf (W := 0) (au16_0 l Z a0 hw [] wUNKNOWN wHELD wTRUE wNOT_HELD wFALSE wMT wCS hS  h0 n0 O0 ) hZ (ow hw 93 rfl) (ow hw 92 rfl) (by decide) (by decide)) q3a q3c (g := (mkF m 8 #[(vr pa1), (vr wHELD)] [(.ref wTRUE), (.ref wUNKNOWN)])) rfl (by rw [hml]; rfl) (Steps.refl _) (argsL := [(.ref wTRUE)]) (rest := []) (lenOf pd_13 rfl) rfl (by show 2 * 0 + _ ≤ _; exact Nat.le_of_eq rfl) (hb hby d15_8) (fun _ _ => ⟨rfl, e2, (by decide : 0 + 0 ≤ _), (by decide : 0 + 0 ≤ _)⟩)
  dsimp only [Pt.U, Pt.locs, Pt.cells, Pt.slots] at X3 l3 y3 z3 st3 hQ3
  subst y3 z3
  obtain ⟨rfl, Nq3, K3q⟩ := hQ3
  have N3 : Fr n0 L3 := (congrArg (Fr n0) l3).mpr (Fr.app N0 Nq3)
  obtain ⟨fs, hr, hrun, hended, hW, hsame⟩ := X3.leave (v := some (.ref wHELD)) (fun h => by rw [hret0] at h; cases h)
  refine ⟨_, _, pre0 _ ?_, hrun, hended, _, _, rfl, ?_, ⟨_, rfl⟩, hW, hsame.mono (by decide) (by decide)⟩
  · skip
    show Steps p.tables e below (s₁.setTop (mkF m 0 #[(vr pa1), (vr wHELD)] [])) _
    refine XS.aloadN X0.here hx rfl (hb hby d15_0) rfl rfl ?_
    refine st1 _ ?_
    refine XS.aloadN X1.here hx rfl (hb hby d15_4) rfl rfl ?_
    refine st2 _ ?_
    refine st3.trans ?_
    refine XS.ifYes X3.here hx rfl (pc0 := 11) (pc' := 18) rfl (hb hby d15_11) rfl ((if0 _ _).trans (tlt (by decide : (-1 : Int32) < (0 : Int32))).1) (by decide) (by decide) ?_
    refine XS.aloadN X3.here hx rfl (hb hby d15_18) rfl rfl ?_
    jvm_step X3.here [X3.here.top, hx, (hb hby d15_19), X3.method', hret0, Value.isRef, FieldType.isReference]
    first | (intro acts; rw [hr _ acts rfl rfl rfl]) | rw [hr _ _ rfl rfl rfl]
    exact Steps.refl _
  · show Q_au15_0 Z wUNKNOWN wHELD wTRUE wNOT_HELD wFALSE wMT wCS pa1 h0 n0 _ T3.heap _
    rw [K3q]
    exact ⟨rfl, N3, rfl⟩
theorem pd_14 : parseMethodDescriptor "(Lcom/example/tuplecraft/tuplecraft/Grant;)Lcom/example/tuplecraft/tuplecraft/Grant;" = some ⟨[(.object "com/example/tuplecraft/tuplecraft/Grant")], some (.object "com/example/tuplecraft/tuplecraft/Grant")⟩ := by decide +kernel
theorem ef_au15_1 (m : MethodId) (x0 : Addr) (x1 : Addr)  : entryFrame m #[(.ref x0), (.ref x1)] 2 = mkF m 0 #[(vr x0), (vr x1)] [] := by first | (simp [entryFrame, mkF, argsToLocals, Value.category]; done) | rfl
theorem ef_au16_1 (m : MethodId) (x0 : Addr) (x1 : Addr)  : entryFrame m #[(.ref x0), (.ref x1)] 4 = mkF m 0 #[(vr x0), (vr x1), .unset, .unset] [] := by first | (simp [entryFrame, mkF, argsToLocals, Value.category]; done) | rfl
def Q_au16_1 (Z : State) (wUNKNOWN : Addr) (wHELD : Addr) (wTRUE : Addr) (wNOT_HELD : Addr) (wFALSE : Addr) (wMT : Addr) (wCS : Int32)  (h0 : Heap) (n0 : Nat) (v : Option Value) (h : Heap) (L : List Loc) : Prop := v = some (.int 1) ∧ Fr n0 L ∧ h = h0
theorem au16_1 (l : Launch) (Z : State) (a0 : Array Value) (hw : ∀ d ∈ tables_1, d.before a0 Z = true) (ws : List Jvm.Cond) (wUNKNOWN : Addr) (wHELD : Addr) (wTRUE : Addr) (wNOT_HELD : Addr) (wFALSE : Addr) (wMT : Addr) (wCS : Int32) (hS : SS Z wUNKNOWN wHELD wTRUE wNOT_HELD wFALSE wMT wCS)  (h0 : Heap) (n0 : Nat) (O0 : Old Z n0 h0)  :
    MetB l M13 jdk_37_method_8_code 4 (some .int) ws (rmk 1 0 0 31) Z h0 #[(.ref wTRUE), (.ref wUNKNOWN)] (Q_au16_1 Z wUNKNOWN wHELD wTRUE wNOT_HELD wFALSE wMT wCS  h0 n0) := by
  refine own_body (plainFor_of_name pn_java_lang_Enum) ?_
  intro p e s m below meth c s₁ hx hby hml hown hnm hret0 hlk0 hZ X0 e0
  have N0 := Fr.nil n0
  have pre0 : ∀ t, Steps p.tables e below (s₁.setTop (mkF m 0 #[(vr wTRUE), (vr wUNKNOWN), .unset, .unset] [])) t → Steps p.tables e below (s₁.setTop (entryFrame m #[(.ref wTRUE), (.ref wUNKNOWN)] 4)) t := fun t k => castTop (ef_au16_1 m wTRUE wUNKNOWN) k
  have hS0 := hS
  obtain ⟨S_wUNKNOWN, E_wUNKNOWN, S_wHELD, E_wHELD, S_wTRUE, E_wTRUE, S_wNOT_HELD, E_wNOT_HELD, S_wFALSE, E_wFALSE, F_ordinal_wUNKNOWN, F_ordinal_wTRUE, F_ordinal_wFALSE, F_truth_wHELD, F_truth_wNOT_HELD, M_wMT, S_wCS, N_wCS⟩ := hS0
  obtain ⟨T1, X1, e1, st1⟩ := own_getClass X0 hx hZ hown (ow hw 94 rfl) (ow hw 95 rfl) (ow hw 97 rfl) (ow hw 96 rfl) (ow hw 98 rfl) e0 (E_wTRUE.ext O0.2) M_wMT (g := (mkF m 5 #[(vr wTRUE), (vr wUNKNOWN), (vr wUNKNOWN), (vr wTRUE)] [(.ref wTRUE)])) rfl (by rw [hml]; rfl) rfl (hb hby d16_5) (by decide) (W := 0) (by show 2 * 0 + _ ≤ _; exact Nat.le_of_eq rfl) (by decide)
  obtain ⟨T2, X2, e2, st2⟩ := own_getClass X1 hx hZ hown (ow hw 94 rfl) (ow hw 95 rfl) (ow hw 97 rfl) (ow hw 96 rfl) (ow hw 98 rfl) e1 (E_wUNKNOWN.ext O0.2) M_wMT (g := (mkF m 9 #[(vr wTRUE), (vr wUNKNOWN), (vr wUNKNOWN), (vr wTRUE)] [(.ref wUNKNOWN), (.ref wMT)])) rfl (by rw [hml]; rfl) rfl (hb hby d16_9) (by decide) (W := 1) (by show 2 * 0 + _ ≤ _; exact Nat.le_of_eq rfl) (by decide)
  obtain ⟨T3, X3, e3, st3⟩ := getF X2 hx hZ hown (host := "") (Or.inl (ow hw 100 rfl)) Via.refl e2 (F_ordinal_wTRUE.ext O0.2) (g := (mkF m 35 #[(vr wTRUE), (vr wUNKNOWN), (vr wUNKNOWN), (vr wTRUE)] [(.ref wTRUE)])) rfl rfl (hb hby d16_35)
  obtain ⟨T4, X4, e4, st4⟩ := getF X3 hx hZ hown (host := "") (Or.inl (ow hw 100 rfl)) Via.refl e3 (F_ordinal_wUNKNOWN.ext O0.2) (g := (mkF m 39 #[(vr wTRUE), (vr wUNKNOWN), (vr wUNKNOWN), (vr wTRUE)] [(.ref wUNKNOWN), (.int 2)])) rfl rfl (hb hby d16_39)
  obtain ⟨fs, hr, hrun, hended, hW, hsame⟩ := X4.leave (v := some (.int 1)) (fun h => by rw [hret0] at h; cases h)
  refine ⟨_, _, pre0 _ ?_, hrun, hended, _, _, rfl, ?_, ⟨_, rfl⟩, hW, hsame.mono (by decide) (by decide)⟩
  · skip
    show Steps p.tables e below (s₁.setTop (mkF m 0 #[(vr wTRUE), (vr wUNKNOWN), .unset, .unset] [])) _
    refine XS.aloadN X0.here hx rfl (hb hby d16_0) rfl rfl ?_
    refine XS.astoreN X0.here hx rfl (hb hby d16_1) rfl rfl (l' := #[(vr wTRUE), (vr wUNKNOWN), (vr wUNKNOWN), .unset]) rfl ?_
    refine XS.aloadN X0.here hx rfl (hb hby d16_2) rfl rfl ?_
    refine XS.astoreN X0.here hx rfl (hb hby d16_3) rfl rfl (l' := #[(vr wTRUE), (vr wUNKNOWN), (vr wUNKNOWN), (vr wTRUE)]) rfl ?_
    refine XS.aloadN X0.here hx rfl (hb hby d16_4) rfl rfl ?_
    refine st1 _ ?_
    refine XS.aloadN X1.here hx rfl (hb hby d16_8) rfl rfl ?_
    refine st2 _ ?_
    show Steps p.tables e below (T2.setTop (mkF m 12 #[(vr wTRUE), (vr wUNKNOWN), (vr wUNKNOWN), (vr wTRUE)] [(.ref wMT), (.ref wMT)])) _
    refine Jvm.RoadKit.acmp (g := (mkF m 12 #[(vr wTRUE), (vr wUNKNOWN), (vr wUNKNOWN), (vr wTRUE)] [(.ref wMT), (.ref wMT)])) X2 hx rfl rfl rfl (pc0 := 12) (pc' := 34) (same := true) rfl (hb hby d16_12) rfl (decide_eq_true rfl) (by decide) (by decide) ?_
    refine XS.aloadN X2.here hx rfl (hb hby d16_34) rfl rfl ?_
    refine st3 _ ?_
    refine XS.aloadN X3.here hx rfl (hb hby d16_38) rfl rfl ?_
    refine st4 _ ?_
    refine XS.isub X4.here hx rfl (hb hby d16_42) rfl ?_
    exact retI X4 hx hret0 (hb hby d16_43) hr
  · show Q_au16_1 Z wUNKNOWN wHELD wTRUE wNOT_HELD wFALSE wMT wCS  h0 n0 _ T4.heap _
    rw [e4]
    exact ⟨rfl, N0, rfl⟩
theorem d15_14 : decode prog_2_method_3_code 14 = .ok (.aload_n 0, 1) := by decide +kernel
theorem d15_15 : decode prog_2_method_3_code 15 = .ok (.goto 4, 3) := by decide +kernel
def Q_au15_1 (Z : State) (wUNKNOWN : Addr) (wHELD : Addr) (wTRUE : Addr) (wNOT_HELD : Addr) (wFALSE : Addr) (wMT : Addr) (wCS : Int32) (pa1 : Addr) (h0 : Heap) (n0 : Nat) (v : Option Value) (h : Heap) (L : List Loc) : Prop := v = some (.ref wHELD) ∧ Fr n0 L ∧ h = h0
theorem au15_1 (l : Launch) (Z : State) (a0 : Array Value) (hw : ∀ d ∈ tables_1, d.before a0 Z = true) (ws : List Jvm.Cond) (wUNKNOWN : Addr) (wHELD : Addr) (wTRUE : Addr) (wNOT_HELD : Addr) (wFALSE : Addr) (wMT : Addr) (wCS : Int32) (hS : SS Z wUNKNOWN wHELD wTRUE wNOT_HELD wFALSE wMT wCS) (pa1 : Addr) (h0 : Heap) (n0 : Nat) (O0 : Old Z n0 h0) (P2 : Fld Z h0 pa1 s3n "truth" s2n (.ref wUNKNOWN)) :
    MetB l M14 prog_2_method_3_code 2 (some (.object s3n)) ws (rmk 2 0 0 46) Z h0 #[(.ref wHELD), (.ref pa1)] (Q_au15_1 Z wUNKNOWN wHELD wTRUE wNOT_HELD wFALSE wMT wCS pa1 h0 n0) := by
  refine own_body (plainFor_of_name pn_com_example_tuplecraft_tuplecraft_Grant) ?_
  intro p e s m below meth c s₁ hx hby hml hown hnm hret0 hlk0 hZ X0 e0
  have N0 := Fr.nil n0
  have pre0 : ∀ t, Steps p.tables e below (s₁.setTop (mkF m 0 #[(vr wHELD), (vr pa1)] [])) t → Steps p.tables e below (s₁.setTop (entryFrame m #[(.ref wHELD), (.ref pa1)] 2)) t := fun t k => castTop (ef_au15_1 m wHELD pa1) k
  have hS0 := hS
  obtain ⟨S_wUNKNOWN, E_wUNKNOWN, S_wHELD, E_wHELD, S_wTRUE, E_wTRUE, S_wNOT_HELD, E_wNOT_HELD, S_wFALSE, E_wFALSE, F_ordinal_wUNKNOWN, F_ordinal_wTRUE, F_ordinal_wFALSE, F_truth_wHELD, F_truth_wNOT_HELD, M_wMT, S_wCS, N_wCS⟩ := hS0
  obtain ⟨T1, X1, e1, st1⟩ := getF X0 hx hZ hown (host := "") (Or.inl (ow hw 59 rfl)) Via.refl e0 (F_truth_wHELD.ext O0.2) (g := (mkF m 1 #[(vr wHELD), (vr pa1)] [(.ref wHELD)])) rfl rfl (hb hby d15_1)
  obtain ⟨T2, X2, e2, st2⟩ := getF X1 hx hZ hown (host := "") (Or.inl (ow hw 59 rfl)) Via.refl e1 P2 (g := (mkF m 5 #[(vr wHELD), (vr pa1)] [(.ref pa1), (.ref wTRUE)])) rfl rfl (hb hby d15_5)
  obtain ⟨cq3, kq3, q3a, q3b, q3c⟩ := isOf hZ e2 (E_wTRUE.ext O0.2)
  obtain ⟨_, _, ⟨T3, L3, k3, n3⟩, -, X3, ⟨Lc3, hQ3, l3, y3, z3⟩, st3⟩ := X2.virtualBackUp hx (owner := s4n) (x := M15) (y := M13) hown (mvT hZ (ow hw 87 rfl)) (mvT hZ (ow hw 88 rfl)) (mvT hZ (ow hw 89 rfl)) (by decide) (mvT hZ (ow hw 91 rfl)) (mvT hZ (ow hw 90 rfl)) (backOf (W := 0) (au16_1 l Z a0 hw [] wUNKNOWN wHELD wTRUE wNOT_HELD wFALSE wMT wCS hS  h0 n0 O0 ) hZ (ow hw 93 rfl) (ow hw 92 rfl) (by decide) (by decide)) q3a q3c (g := (mkF m 8 #[(vr wHELD), (vr pa1)] [(.ref wUNKNOWN), (.ref wTRUE)])) rfl (by rw [hml]; rfl) (Steps.refl _) (argsL := [(.ref wUNKNOWN)]) (rest := []) (lenOf pd_13 rfl) rfl (by show 2 * 0 + _ ≤ _; exact Nat.le_of_eq rfl) (hb hby d15_8) (fun _ _ => ⟨rfl, e2, (by decide : 0 + 0 ≤ _), (by decide : 0 + 0 ≤ _)⟩)
  dsimp only [Pt.U, Pt.locs, Pt.cells, Pt.slots] at X3 l3 y3 z3 st3 hQ3
  subst y3 z3
  obtain ⟨rfl, Nq3, K3q⟩ := hQ3
  have N3 : Fr n0 L3 := (congrArg (Fr n0) l3).mpr (Fr.app N0 Nq3)
  obtain ⟨fs, hr, hrun, hended, hW, hsame⟩ := X3.leave (v := some (.ref wHELD)) (fun h => by rw [hret0] at h; cases h)
  refine ⟨_, _, pre0 _ ?_, hrun, hended, _, _, rfl, ?_, ⟨_, rfl⟩, hW, hsame.mono (by decide) (by decide)⟩
  · skip
    show Steps p.tables e below (s₁.setTop (mkF m 0 #[(vr wHELD), (vr pa1)] [])) _
    refine XS.aloadN X0.here hx rfl (hb hby d15_0) rfl rfl ?_
    refine st1 _ ?_
    refine XS.aloadN X1.here hx rfl (hb hby d15_4) rfl rfl ?_
    refine st2 _ ?_
    refine st3.trans ?_
    refine XS.ifNo X3.here hx rfl (hb hby d15_11) rfl ((if0 _ _).trans (flt (by decide : ¬ ((1 : Int32) < (0 : Int32)))).1) ?_
    refine XS.aloadN X3.here hx rfl (hb hby d15_14) rfl rfl ?_
    refine XS.goto X3.here hx rfl (pc0 := 15) (pc' := 19) rfl (hb hby d15_15) (by decide) (by decide) ?_
    show Steps p.tables e below (T3.setTop (mkF m 19 #[(vr wHELD), (vr pa1)] [(.ref wHELD)])) _
    jvm_step X3.here [X3.here.top, hx, (hb hby d15_19), X3.method', hret0, Value.isRef, FieldType.isReference]
    first | (intro acts; rw [hr _ acts rfl rfl rfl]) | rw [hr _ _ rfl rfl rfl]
    exact Steps.refl _
  · show Q_au15_1 Z wUNKNOWN wHELD wTRUE wNOT_HELD wFALSE wMT wCS pa1 h0 n0 _ T3.heap _
    rw [K3q]
    exact ⟨rfl, N3, rfl⟩
theorem ef_au15_2 (m : MethodId) (x0 : Addr) (x1 : Addr)  : entryFrame m #[(.ref x0), (.ref x1)] 2 = mkF m 0 #[(vr x0), (vr x1)] [] := by first | (simp [entryFrame, mkF, argsToLocals, Value.category]; done) | rfl
theorem ef_au16_2 (m : MethodId) (x0 : Addr) (x1 : Addr)  : entryFrame m #[(.ref x0), (.ref x1)] 4 = mkF m 0 #[(vr x0), (vr x1), .unset, .unset] [] := by first | (simp [entryFrame, mkF, argsToLocals, Value.category]; done) | rfl
def Q_au16_2 (Z : State) (wUNKNOWN : Addr) (wHELD : Addr) (wTRUE : Addr) (wNOT_HELD : Addr) (wFALSE : Addr) (wMT : Addr) (wCS : Int32)  (h0 : Heap) (n0 : Nat) (v : Option Value) (h : Heap) (L : List Loc) : Prop := v = some (.int 1) ∧ Fr n0 L ∧ h = h0
theorem au16_2 (l : Launch) (Z : State) (a0 : Array Value) (hw : ∀ d ∈ tables_1, d.before a0 Z = true) (ws : List Jvm.Cond) (wUNKNOWN : Addr) (wHELD : Addr) (wTRUE : Addr) (wNOT_HELD : Addr) (wFALSE : Addr) (wMT : Addr) (wCS : Int32) (hS : SS Z wUNKNOWN wHELD wTRUE wNOT_HELD wFALSE wMT wCS)  (h0 : Heap) (n0 : Nat) (O0 : Old Z n0 h0)  :
    MetB l M13 jdk_37_method_8_code 4 (some .int) ws (rmk 1 0 0 31) Z h0 #[(.ref wUNKNOWN), (.ref wFALSE)] (Q_au16_2 Z wUNKNOWN wHELD wTRUE wNOT_HELD wFALSE wMT wCS  h0 n0) := by
  refine own_body (plainFor_of_name pn_java_lang_Enum) ?_
  intro p e s m below meth c s₁ hx hby hml hown hnm hret0 hlk0 hZ X0 e0
  have N0 := Fr.nil n0
  have pre0 : ∀ t, Steps p.tables e below (s₁.setTop (mkF m 0 #[(vr wUNKNOWN), (vr wFALSE), .unset, .unset] [])) t → Steps p.tables e below (s₁.setTop (entryFrame m #[(.ref wUNKNOWN), (.ref wFALSE)] 4)) t := fun t k => castTop (ef_au16_2 m wUNKNOWN wFALSE) k
  have hS0 := hS
  obtain ⟨S_wUNKNOWN, E_wUNKNOWN, S_wHELD, E_wHELD, S_wTRUE, E_wTRUE, S_wNOT_HELD, E_wNOT_HELD, S_wFALSE, E_wFALSE, F_ordinal_wUNKNOWN, F_ordinal_wTRUE, F_ordinal_wFALSE, F_truth_wHELD, F_truth_wNOT_HELD, M_wMT, S_wCS, N_wCS⟩ := hS0
  obtain ⟨T1, X1, e1, st1⟩ := own_getClass X0 hx hZ hown (ow hw 94 rfl) (ow hw 95 rfl) (ow hw 97 rfl) (ow hw 96 rfl) (ow hw 98 rfl) e0 (E_wUNKNOWN.ext O0.2) M_wMT (g := (mkF m 5 #[(vr wUNKNOWN), (vr wFALSE), (vr wFALSE), (vr wUNKNOWN)] [(.ref wUNKNOWN)])) rfl (by rw [hml]; rfl) rfl (hb hby d16_5) (by decide) (W := 0) (by show 2 * 0 + _ ≤ _; exact Nat.le_of_eq rfl) (by decide)
  obtain ⟨T2, X2, e2, st2⟩ := own_getClass X1 hx hZ hown (ow hw 94 rfl) (ow hw 95 rfl) (ow hw 97 rfl) (ow hw 96 rfl) (ow hw 98 rfl) e1 (E_wFALSE.ext O0.2) M_wMT (g := (mkF m 9 #[(vr wUNKNOWN), (vr wFALSE), (vr wFALSE), (vr wUNKNOWN)] [(.ref wFALSE), (.ref wMT)])) rfl (by rw [hml]; rfl) rfl (hb hby d16_9) (by decide) (W := 1) (by show 2 * 0 + _ ≤ _; exact Nat.le_of_eq rfl) (by decide)
  obtain ⟨T3, X3, e3, st3⟩ := getF X2 hx hZ hown (host := "") (Or.inl (ow hw 100 rfl)) Via.refl e2 (F_ordinal_wUNKNOWN.ext O0.2) (g := (mkF m 35 #[(vr wUNKNOWN), (vr wFALSE), (vr wFALSE), (vr wUNKNOWN)] [(.ref wUNKNOWN)])) rfl rfl (hb hby d16_35)
  obtain ⟨T4, X4, e4, st4⟩ := getF X3 hx hZ hown (host := "") (Or.inl (ow hw 100 rfl)) Via.refl e3 (F_ordinal_wFALSE.ext O0.2) (g := (mkF m 39 #[(vr wUNKNOWN), (vr wFALSE), (vr wFALSE), (vr wUNKNOWN)] [(.ref wFALSE), (.int 1)])) rfl rfl (hb hby d16_39)
  obtain ⟨fs, hr, hrun, hended, hW, hsame⟩ := X4.leave (v := some (.int 1)) (fun h => by rw [hret0] at h; cases h)
  refine ⟨_, _, pre0 _ ?_, hrun, hended, _, _, rfl, ?_, ⟨_, rfl⟩, hW, hsame.mono (by decide) (by decide)⟩
  · skip
    show Steps p.tables e below (s₁.setTop (mkF m 0 #[(vr wUNKNOWN), (vr wFALSE), .unset, .unset] [])) _
    refine XS.aloadN X0.here hx rfl (hb hby d16_0) rfl rfl ?_
    refine XS.astoreN X0.here hx rfl (hb hby d16_1) rfl rfl (l' := #[(vr wUNKNOWN), (vr wFALSE), (vr wFALSE), .unset]) rfl ?_
    refine XS.aloadN X0.here hx rfl (hb hby d16_2) rfl rfl ?_
    refine XS.astoreN X0.here hx rfl (hb hby d16_3) rfl rfl (l' := #[(vr wUNKNOWN), (vr wFALSE), (vr wFALSE), (vr wUNKNOWN)]) rfl ?_
    refine XS.aloadN X0.here hx rfl (hb hby d16_4) rfl rfl ?_
    refine st1 _ ?_
    refine XS.aloadN X1.here hx rfl (hb hby d16_8) rfl rfl ?_
    refine st2 _ ?_
    show Steps p.tables e below (T2.setTop (mkF m 12 #[(vr wUNKNOWN), (vr wFALSE), (vr wFALSE), (vr wUNKNOWN)] [(.ref wMT), (.ref wMT)])) _
    refine Jvm.RoadKit.acmp (g := (mkF m 12 #[(vr wUNKNOWN), (vr wFALSE), (vr wFALSE), (vr wUNKNOWN)] [(.ref wMT), (.ref wMT)])) X2 hx rfl rfl rfl (pc0 := 12) (pc' := 34) (same := true) rfl (hb hby d16_12) rfl (decide_eq_true rfl) (by decide) (by decide) ?_
    refine XS.aloadN X2.here hx rfl (hb hby d16_34) rfl rfl ?_
    refine st3 _ ?_
    refine XS.aloadN X3.here hx rfl (hb hby d16_38) rfl rfl ?_
    refine st4 _ ?_
    refine XS.isub X4.here hx rfl (hb hby d16_42) rfl ?_
    exact retI X4 hx hret0 (hb hby d16_43) hr
  · show Q_au16_2 Z wUNKNOWN wHELD wTRUE wNOT_HELD wFALSE wMT wCS  h0 n0 _ T4.heap _
    rw [e4]
    exact ⟨rfl, N0, rfl⟩
def Q_au15_2 (Z : State) (wUNKNOWN : Addr) (wHELD : Addr) (wTRUE : Addr) (wNOT_HELD : Addr) (wFALSE : Addr) (wMT : Addr) (wCS : Int32) (pa1 : Addr) (h0 : Heap) (n0 : Nat) (v : Option Value) (h : Heap) (L : List Loc) : Prop := v = some (.ref pa1) ∧ Fr n0 L ∧ h = h0
theorem au15_2 (l : Launch) (Z : State) (a0 : Array Value) (hw : ∀ d ∈ tables_1, d.before a0 Z = true) (ws : List Jvm.Cond) (wUNKNOWN : Addr) (wHELD : Addr) (wTRUE : Addr) (wNOT_HELD : Addr) (wFALSE : Addr) (wMT : Addr) (wCS : Int32) (hS : SS Z wUNKNOWN wHELD wTRUE wNOT_HELD wFALSE wMT wCS) (pa1 : Addr) (h0 : Heap) (n0 : Nat) (O0 : Old Z n0 h0) (P2 : Fld Z h0 pa1 s3n "truth" s2n (.ref wUNKNOWN)) :
    MetB l M14 prog_2_method_3_code 2 (some (.object s3n)) ws (rmk 2 0 0 46) Z h0 #[(.ref pa1), (.ref wNOT_HELD)] (Q_au15_2 Z wUNKNOWN wHELD wTRUE wNOT_HELD wFALSE wMT wCS pa1 h0 n0) := by
  refine own_body (plainFor_of_name pn_com_example_tuplecraft_tuplecraft_Grant) ?_
  intro p e s m below meth c s₁ hx hby hml hown hnm hret0 hlk0 hZ X0 e0
  have N0 := Fr.nil n0
  have pre0 : ∀ t, Steps p.tables e below (s₁.setTop (mkF m 0 #[(vr pa1), (vr wNOT_HELD)] [])) t → Steps p.tables e below (s₁.setTop (entryFrame m #[(.ref pa1), (.ref wNOT_HELD)] 2)) t := fun t k => castTop (ef_au15_2 m pa1 wNOT_HELD) k
  have hS0 := hS
  obtain ⟨S_wUNKNOWN, E_wUNKNOWN, S_wHELD, E_wHELD, S_wTRUE, E_wTRUE, S_wNOT_HELD, E_wNOT_HELD, S_wFALSE, E_wFALSE, F_ordinal_wUNKNOWN, F_ordinal_wTRUE, F_ordinal_wFALSE, F_truth_wHELD, F_truth_wNOT_HELD, M_wMT, S_wCS, N_wCS⟩ := hS0
  obtain ⟨T1, X1, e1, st1⟩ := getF X0 hx hZ hown (host := "") (Or.inl (ow hw 59 rfl)) Via.refl e0 P2 (g := (mkF m 1 #[(vr pa1), (vr wNOT_HELD)] [(.ref pa1)])) rfl rfl (hb hby d15_1)
  obtain ⟨T2, X2, e2, st2⟩ := getF X1 hx hZ hown (host := "") (Or.inl (ow hw 59 rfl)) Via.refl e1 (F_truth_wNOT_HELD.ext O0.2) (g := (mkF m 5 #[(vr pa1), (vr wNOT_HELD)] [(.ref wNOT_HELD), (.ref wUNKNOWN)])) rfl rfl (hb hby d15_5)
  obtain ⟨cq3, kq3, q3a, q3b, q3c⟩ := isOf hZ e2 (E_wUNKNOWN.ext O0.2)
  obtain ⟨_, _, ⟨T3, L3, k3, n3⟩, -, X3, ⟨Lc3, hQ3, l3, y3, z3⟩, st3⟩ := X2.virtualBackUp hx (owner := s4n) (x := M15) (y := M13) hown (mvT hZ (ow hw 87 rfl)) (mvT hZ (ow hw 88 rfl)) (mvT hZ (ow hw 89 rfl)) (by decide) (mvT hZ (ow hw 91 rfl)) (mvT hZ (ow hw 90 rfl)) (backOf (W := 0) (au16_2 l Z a0 hw [] wUNKNOWN wHELD wTRUE wNOT_HELD wFALSE wMT wCS hS  h0 n0 O0 ) hZ (ow hw 93 rfl) (ow hw 92 rfl) (by decide) (by decide)) q3a q3c (g := (mkF m 8 #[(vr pa1), (vr wNOT_HELD)] [(.ref wFALSE), (.ref wUNKNOWN)])) rfl (by rw [hml]; rfl) (Steps.refl _) (argsL := [(.ref wFALSE)]) (rest := []) (lenOf pd_13 rfl) rfl (by show 2 * 0 + _ ≤ _; exact Nat.le_of_eq rfl) (hb hby d15_8) (fun _ _ => ⟨rfl, e2, (by decide : 0 + 0 ≤ _), (by decide : 0 + 0 ≤ _)⟩)
  dsimp only [Pt.U, Pt.locs, Pt.cells, Pt.slots] at X3 l3 y3 z3 st3 hQ3
  subst y3 z3
  obtain ⟨rfl, Nq3, K3q⟩ := hQ3
  have N3 : Fr n0 L3 := (congrArg (Fr n0) l3).mpr (Fr.app N0 Nq3)
  obtain ⟨fs, hr, hrun, hended, hW, hsame⟩ := X3.leave (v := some (.ref pa1)) (fun h => by rw [hret0] at h; cases h)
  refine ⟨_, _, pre0 _ ?_, hrun, hended, _, _, rfl, ?_, ⟨_, rfl⟩, hW, hsame.mono (by decide) (by decide)⟩
  · skip
    show Steps p.tables e below (s₁.setTop (mkF m 0 #[(vr pa1), (vr wNOT_HELD)] [])) _
    refine XS.aloadN X0.here hx rfl (hb hby d15_0) rfl rfl ?_
    refine st1 _ ?_
    refine XS.aloadN X1.here hx rfl (hb hby d15_4) rfl rfl ?_
    refine st2 _ ?_
    refine st3.trans ?_
    refine XS.ifNo X3.here hx rfl (hb hby d15_11) rfl ((if0 _ _).trans (flt (by decide : ¬ ((1 : Int32) < (0 : Int32)))).1) ?_
    refine XS.aloadN X3.here hx rfl (hb hby d15_14) rfl rfl ?_
    refine XS.goto X3.here hx rfl (pc0 := 15) (pc' := 19) rfl (hb hby d15_15) (by decide) (by decide) ?_
    show Steps p.tables e below (T3.setTop (mkF m 19 #[(vr pa1), (vr wNOT_HELD)] [(.ref pa1)])) _
    jvm_step X3.here [X3.here.top, hx, (hb hby d15_19), X3.method', hret0, Value.isRef, FieldType.isReference]
    first | (intro acts; rw [hr _ acts rfl rfl rfl]) | rw [hr _ _ rfl rfl rfl]
    exact Steps.refl _
  · show Q_au15_2 Z wUNKNOWN wHELD wTRUE wNOT_HELD wFALSE wMT wCS pa1 h0 n0 _ T3.heap _
    rw [K3q]
    exact ⟨rfl, N3, rfl⟩
theorem ef_au15_3 (m : MethodId) (x0 : Addr) (x1 : Addr)  : entryFrame m #[(.ref x0), (.ref x1)] 2 = mkF m 0 #[(vr x0), (vr x1)] [] := by first | (simp [entryFrame, mkF, argsToLocals, Value.category]; done) | rfl
theorem ef_au16_3 (m : MethodId) (x0 : Addr) (x1 : Addr)  : entryFrame m #[(.ref x0), (.ref x1)] 4 = mkF m 0 #[(vr x0), (vr x1), .unset, .unset] [] := by first | (simp [entryFrame, mkF, argsToLocals, Value.category]; done) | rfl
def Q_au16_3 (Z : State) (wUNKNOWN : Addr) (wHELD : Addr) (wTRUE : Addr) (wNOT_HELD : Addr) (wFALSE : Addr) (wMT : Addr) (wCS : Int32)  (h0 : Heap) (n0 : Nat) (v : Option Value) (h : Heap) (L : List Loc) : Prop := v = some (.int (-1 : Int32)) ∧ Fr n0 L ∧ h = h0
theorem au16_3 (l : Launch) (Z : State) (a0 : Array Value) (hw : ∀ d ∈ tables_1, d.before a0 Z = true) (ws : List Jvm.Cond) (wUNKNOWN : Addr) (wHELD : Addr) (wTRUE : Addr) (wNOT_HELD : Addr) (wFALSE : Addr) (wMT : Addr) (wCS : Int32) (hS : SS Z wUNKNOWN wHELD wTRUE wNOT_HELD wFALSE wMT wCS)  (h0 : Heap) (n0 : Nat) (O0 : Old Z n0 h0)  :
    MetB l M13 jdk_37_method_8_code 4 (some .int) ws (rmk 1 0 0 31) Z h0 #[(.ref wFALSE), (.ref wUNKNOWN)] (Q_au16_3 Z wUNKNOWN wHELD wTRUE wNOT_HELD wFALSE wMT wCS  h0 n0) := by
  refine own_body (plainFor_of_name pn_java_lang_Enum) ?_
  intro p e s m below meth c s₁ hx hby hml hown hnm hret0 hlk0 hZ X0 e0
  have N0 := Fr.nil n0
  have pre0 : ∀ t, Steps p.tables e below (s₁.setTop (mkF m 0 #[(vr wFALSE), (vr wUNKNOWN), .unset, .unset] [])) t → Steps p.tables e below (s₁.setTop (entryFrame m #[(.ref wFALSE), (.ref wUNKNOWN)] 4)) t := fun t k => castTop (ef_au16_3 m wFALSE wUNKNOWN) k
  have hS0 := hS
  obtain ⟨S_wUNKNOWN, E_wUNKNOWN, S_wHELD, E_wHELD, S_wTRUE, E_wTRUE, S_wNOT_HELD, E_wNOT_HELD, S_wFALSE, E_wFALSE, F_ordinal_wUNKNOWN, F_ordinal_wTRUE, F_ordinal_wFALSE, F_truth_wHELD, F_truth_wNOT_HELD, M_wMT, S_wCS, N_wCS⟩ := hS0
  obtain ⟨T1, X1, e1, st1⟩ := own_getClass X0 hx hZ hown (ow hw 94 rfl) (ow hw 95 rfl) (ow hw 97 rfl) (ow hw 96 rfl) (ow hw 98 rfl) e0 (E_wFALSE.ext O0.2) M_wMT (g := (mkF m 5 #[(vr wFALSE), (vr wUNKNOWN), (vr wUNKNOWN), (vr wFALSE)] [(.ref wFALSE)])) rfl (by rw [hml]; rfl) rfl (hb hby d16_5) (by decide) (W := 0) (by show 2 * 0 + _ ≤ _; exact Nat.le_of_eq rfl) (by decide)
  obtain ⟨T2, X2, e2, st2⟩ := own_getClass X1 hx hZ hown (ow hw 94 rfl) (ow hw 95 rfl) (ow hw 97 rfl) (ow hw 96 rfl) (ow hw 98 rfl) e1 (E_wUNKNOWN.ext O0.2) M_wMT (g := (mkF m 9 #[(vr wFALSE), (vr wUNKNOWN), (vr wUNKNOWN), (vr wFALSE)] [(.ref wUNKNOWN), (.ref wMT)])) rfl (by rw [hml]; rfl) rfl (hb hby d16_9) (by decide) (W := 1) (by show 2 * 0 + _ ≤ _; exact Nat.le_of_eq rfl) (by decide)
  obtain ⟨T3, X3, e3, st3⟩ := getF X2 hx hZ hown (host := "") (Or.inl (ow hw 100 rfl)) Via.refl e2 (F_ordinal_wFALSE.ext O0.2) (g := (mkF m 35 #[(vr wFALSE), (vr wUNKNOWN), (vr wUNKNOWN), (vr wFALSE)] [(.ref wFALSE)])) rfl rfl (hb hby d16_35)
  obtain ⟨T4, X4, e4, st4⟩ := getF X3 hx hZ hown (host := "") (Or.inl (ow hw 100 rfl)) Via.refl e3 (F_ordinal_wUNKNOWN.ext O0.2) (g := (mkF m 39 #[(vr wFALSE), (vr wUNKNOWN), (vr wUNKNOWN), (vr wFALSE)] [(.ref wUNKNOWN), (.int 0)])) rfl rfl (hb hby d16_39)
  obtain ⟨fs, hr, hrun, hended, hW, hsame⟩ := X4.leave (v := some (.int (-1 : Int32))) (fun h => by rw [hret0] at h; cases h)
  refine ⟨_, _, pre0 _ ?_, hrun, hended, _, _, rfl, ?_, ⟨_, rfl⟩, hW, hsame.mono (by decide) (by decide)⟩
  · skip
    show Steps p.tables e below (s₁.setTop (mkF m 0 #[(vr wFALSE), (vr wUNKNOWN), .unset, .unset] [])) _
    refine XS.aloadN X0.here hx rfl (hb hby d16_0) rfl rfl ?_
    refine XS.astoreN X0.here hx rfl (hb hby d16_1) rfl rfl (l' := #[(vr wFALSE), (vr wUNKNOWN), (vr wUNKNOWN), .unset]) rfl ?_
    refine XS.aloadN X0.here hx rfl (hb hby d16_2) rfl rfl ?_
    refine XS.astoreN X0.here hx rfl (hb hby d16_3) rfl rfl (l' := #[(vr wFALSE), (vr wUNKNOWN), (vr wUNKNOWN), (vr wFALSE)]) rfl ?_
    refine XS.aloadN X0.here hx rfl (hb hby d16_4) rfl rfl ?_
    refine st1 _ ?_
    refine XS.aloadN X1.here hx rfl (hb hby d16_8) rfl rfl ?_
    refine st2 _ ?_
    show Steps p.tables e below (T2.setTop (mkF m 12 #[(vr wFALSE), (vr wUNKNOWN), (vr wUNKNOWN), (vr wFALSE)] [(.ref wMT), (.ref wMT)])) _
    refine Jvm.RoadKit.acmp (g := (mkF m 12 #[(vr wFALSE), (vr wUNKNOWN), (vr wUNKNOWN), (vr wFALSE)] [(.ref wMT), (.ref wMT)])) X2 hx rfl rfl rfl (pc0 := 12) (pc' := 34) (same := true) rfl (hb hby d16_12) rfl (decide_eq_true rfl) (by decide) (by decide) ?_
    refine XS.aloadN X2.here hx rfl (hb hby d16_34) rfl rfl ?_
    refine st3 _ ?_
    refine XS.aloadN X3.here hx rfl (hb hby d16_38) rfl rfl ?_
    refine st4 _ ?_
    refine XS.isub X4.here hx rfl (hb hby d16_42) rfl ?_
    exact retI X4 hx hret0 (hb hby d16_43) hr
  · show Q_au16_3 Z wUNKNOWN wHELD wTRUE wNOT_HELD wFALSE wMT wCS  h0 n0 _ T4.heap _
    rw [e4]
    exact ⟨rfl, N0, rfl⟩
def Q_au15_3 (Z : State) (wUNKNOWN : Addr) (wHELD : Addr) (wTRUE : Addr) (wNOT_HELD : Addr) (wFALSE : Addr) (wMT : Addr) (wCS : Int32) (pa1 : Addr) (h0 : Heap) (n0 : Nat) (v : Option Value) (h : Heap) (L : List Loc) : Prop := v = some (.ref pa1) ∧ Fr n0 L ∧ h = h0
theorem au15_3 (l : Launch) (Z : State) (a0 : Array Value) (hw : ∀ d ∈ tables_1, d.before a0 Z = true) (ws : List Jvm.Cond) (wUNKNOWN : Addr) (wHELD : Addr) (wTRUE : Addr) (wNOT_HELD : Addr) (wFALSE : Addr) (wMT : Addr) (wCS : Int32) (hS : SS Z wUNKNOWN wHELD wTRUE wNOT_HELD wFALSE wMT wCS) (pa1 : Addr) (h0 : Heap) (n0 : Nat) (O0 : Old Z n0 h0) (P2 : Fld Z h0 pa1 s3n "truth" s2n (.ref wUNKNOWN)) :
    MetB l M14 prog_2_method_3_code 2 (some (.object s3n)) ws (rmk 2 0 0 46) Z h0 #[(.ref wNOT_HELD), (.ref pa1)] (Q_au15_3 Z wUNKNOWN wHELD wTRUE wNOT_HELD wFALSE wMT wCS pa1 h0 n0) := by
  refine own_body (plainFor_of_name pn_com_example_tuplecraft_tuplecraft_Grant) ?_
  intro p e s m below meth c s₁ hx hby hml hown hnm hret0 hlk0 hZ X0 e0
  have N0 := Fr.nil n0
  have pre0 : ∀ t, Steps p.tables e below (s₁.setTop (mkF m 0 #[(vr wNOT_HELD), (vr pa1)] [])) t → Steps p.tables e below (s₁.setTop (entryFrame m #[(.ref wNOT_HELD), (.ref pa1)] 2)) t := fun t k => castTop (ef_au15_3 m wNOT_HELD pa1) k
  have hS0 := hS
  obtain ⟨S_wUNKNOWN, E_wUNKNOWN, S_wHELD, E_wHELD, S_wTRUE, E_wTRUE, S_wNOT_HELD, E_wNOT_HELD, S_wFALSE, E_wFALSE, F_ordinal_wUNKNOWN, F_ordinal_wTRUE, F_ordinal_wFALSE, F_truth_wHELD, F_truth_wNOT_HELD, M_wMT, S_wCS, N_wCS⟩ := hS0
  obtain ⟨T1, X1, e1, st1⟩ := getF X0 hx hZ hown (host := "") (Or.inl (ow hw 59 rfl)) Via.refl e0 (F_truth_wNOT_HELD.ext O0.2) (g := (mkF m 1 #[(vr wNOT_HELD), (vr pa1)] [(.ref wNOT_HELD)])) rfl rfl (hb hby d15_1)
  obtain ⟨T2, X2, e2, st2⟩ := getF X1 hx hZ hown (host := "") (Or.inl (ow hw 59 rfl)) Via.refl e1 P2 (g := (mkF m 5 #[(vr wNOT_HELD), (vr pa1)] [(.ref pa1), (.ref wFALSE)])) rfl rfl (hb hby d15_5)
  obtain ⟨cq3, kq3, q3a, q3b, q3c⟩ := isOf hZ e2 (E_wFALSE.ext O0.2)
  obtain ⟨_, _, ⟨T3, L3, k3, n3⟩, -, X3, ⟨Lc3, hQ3, l3, y3, z3⟩, st3⟩ := X2.virtualBackUp hx (owner := s4n) (x := M15) (y := M13) hown (mvT hZ (ow hw 87 rfl)) (mvT hZ (ow hw 88 rfl)) (mvT hZ (ow hw 89 rfl)) (by decide) (mvT hZ (ow hw 91 rfl)) (mvT hZ (ow hw 90 rfl)) (backOf (W := 0) (au16_3 l Z a0 hw [] wUNKNOWN wHELD wTRUE wNOT_HELD wFALSE wMT wCS hS  h0 n0 O0 ) hZ (ow hw 93 rfl) (ow hw 92 rfl) (by decide) (by decide)) q3a q3c (g := (mkF m 8 #[(vr wNOT_HELD), (vr pa1)] [(.ref wUNKNOWN), (.ref wFALSE)])) rfl (by rw [hml]; rfl) (Steps.refl _) (argsL := [(.ref wUNKNOWN)]) (rest := []) (lenOf pd_13 rfl) rfl (by show 2 * 0 + _ ≤ _; exact Nat.le_of_eq rfl) (hb hby d15_8) (fun _ _ => ⟨rfl, e2, (by decide : 0 + 0 ≤ _), (by decide : 0 + 0 ≤ _)⟩)
  dsimp only [Pt.U, Pt.locs, Pt.cells, Pt.slots] at X3 l3 y3 z3 st3 hQ3
  subst y3 z3
  obtain ⟨rfl, Nq3, K3q⟩ := hQ3
  have N3 : Fr n0 L3 := (congrArg (Fr n0) l3).mpr (Fr.app N0 Nq3)
  obtain ⟨fs, hr, hrun, hended, hW, hsame⟩ := X3.leave (v := some (.ref pa1)) (fun h => by rw [hret0] at h; cases h)
  refine ⟨_, _, pre0 _ ?_, hrun, hended, _, _, rfl, ?_, ⟨_, rfl⟩, hW, hsame.mono (by decide) (by decide)⟩
  · skip
    show Steps p.tables e below (s₁.setTop (mkF m 0 #[(vr wNOT_HELD), (vr pa1)] [])) _
    refine XS.aloadN X0.here hx rfl (hb hby d15_0) rfl rfl ?_
    refine st1 _ ?_
    refine XS.aloadN X1.here hx rfl (hb hby d15_4) rfl rfl ?_
    refine st2 _ ?_
    refine st3.trans ?_
    refine XS.ifYes X3.here hx rfl (pc0 := 11) (pc' := 18) rfl (hb hby d15_11) rfl ((if0 _ _).trans (tlt (by decide : (-1 : Int32) < (0 : Int32))).1) (by decide) (by decide) ?_
    refine XS.aloadN X3.here hx rfl (hb hby d15_18) rfl rfl ?_
    jvm_step X3.here [X3.here.top, hx, (hb hby d15_19), X3.method', hret0, Value.isRef, FieldType.isReference]
    first | (intro acts; rw [hr _ acts rfl rfl rfl]) | rw [hr _ _ rfl rfl rfl]
    exact Steps.refl _
  · show Q_au15_3 Z wUNKNOWN wHELD wTRUE wNOT_HELD wFALSE wMT wCS pa1 h0 n0 _ T3.heap _
    rw [K3q]
    exact ⟨rfl, N3, rfl⟩
theorem ef_au15_4 (m : MethodId) (x0 : Addr) (x1 : Addr)  : entryFrame m #[(.ref x0), (.ref x1)] 2 = mkF m 0 #[(vr x0), (vr x1)] [] := by first | (simp [entryFrame, mkF, argsToLocals, Value.category]; done) | rfl
theorem ef_au16_4 (m : MethodId) (x0 : Addr) (x1 : Addr)  : entryFrame m #[(.ref x0), (.ref x1)] 4 = mkF m 0 #[(vr x0), (vr x1), .unset, .unset] [] := by first | (simp [entryFrame, mkF, argsToLocals, Value.category]; done) | rfl
def Q_au16_4 (Z : State) (wUNKNOWN : Addr) (wHELD : Addr) (wTRUE : Addr) (wNOT_HELD : Addr) (wFALSE : Addr) (wMT : Addr) (wCS : Int32)  (h0 : Heap) (n0 : Nat) (v : Option Value) (h : Heap) (L : List Loc) : Prop := v = some (.int 0) ∧ Fr n0 L ∧ h = h0
theorem au16_4 (l : Launch) (Z : State) (a0 : Array Value) (hw : ∀ d ∈ tables_1, d.before a0 Z = true) (ws : List Jvm.Cond) (wUNKNOWN : Addr) (wHELD : Addr) (wTRUE : Addr) (wNOT_HELD : Addr) (wFALSE : Addr) (wMT : Addr) (wCS : Int32) (hS : SS Z wUNKNOWN wHELD wTRUE wNOT_HELD wFALSE wMT wCS)  (h0 : Heap) (n0 : Nat) (O0 : Old Z n0 h0)  :
    MetB l M13 jdk_37_method_8_code 4 (some .int) ws (rmk 1 0 0 31) Z h0 #[(.ref wUNKNOWN), (.ref wUNKNOWN)] (Q_au16_4 Z wUNKNOWN wHELD wTRUE wNOT_HELD wFALSE wMT wCS  h0 n0) := by
  refine own_body (plainFor_of_name pn_java_lang_Enum) ?_
  intro p e s m below meth c s₁ hx hby hml hown hnm hret0 hlk0 hZ X0 e0
  have N0 := Fr.nil n0
  have pre0 : ∀ t, Steps p.tables e below (s₁.setTop (mkF m 0 #[(vr wUNKNOWN), (vr wUNKNOWN), .unset, .unset] [])) t → Steps p.tables e below (s₁.setTop (entryFrame m #[(.ref wUNKNOWN), (.ref wUNKNOWN)] 4)) t := fun t k => castTop (ef_au16_4 m wUNKNOWN wUNKNOWN) k
  have hS0 := hS
  obtain ⟨S_wUNKNOWN, E_wUNKNOWN, S_wHELD, E_wHELD, S_wTRUE, E_wTRUE, S_wNOT_HELD, E_wNOT_HELD, S_wFALSE, E_wFALSE, F_ordinal_wUNKNOWN, F_ordinal_wTRUE, F_ordinal_wFALSE, F_truth_wHELD, F_truth_wNOT_HELD, M_wMT, S_wCS, N_wCS⟩ := hS0
  obtain ⟨T1, X1, e1, st1⟩ := own_getClass X0 hx hZ hown (ow hw 94 rfl) (ow hw 95 rfl) (ow hw 97 rfl) (ow hw 96 rfl) (ow hw 98 rfl) e0 (E_wUNKNOWN.ext O0.2) M_wMT (g := (mkF m 5 #[(vr wUNKNOWN), (vr wUNKNOWN), (vr wUNKNOWN), (vr wUNKNOWN)] [(.ref wUNKNOWN)])) rfl (by rw [hml]; rfl) rfl (hb hby d16_5) (by decide) (W := 0) (by show 2 * 0 + _ ≤ _; exact Nat.le_of_eq rfl) (by decide)
  obtain ⟨T2, X2, e2, st2⟩ := own_getClass X1 hx hZ hown (ow hw 94 rfl) (ow hw 95 rfl) (ow hw 97 rfl) (ow hw 96 rfl) (ow hw 98 rfl) e1 (E_wUNKNOWN.ext O0.2) M_wMT (g := (mkF m 9 #[(vr wUNKNOWN), (vr wUNKNOWN), (vr wUNKNOWN), (vr wUNKNOWN)] [(.ref wUNKNOWN), (.ref wMT)])) rfl (by rw [hml]; rfl) rfl (hb hby d16_9) (by decide) (W := 1) (by show 2 * 0 + _ ≤ _; exact Nat.le_of_eq rfl) (by decide)
  obtain ⟨T3, X3, e3, st3⟩ := getF X2 hx hZ hown (host := "") (Or.inl (ow hw 100 rfl)) Via.refl e2 (F_ordinal_wUNKNOWN.ext O0.2) (g := (mkF m 35 #[(vr wUNKNOWN), (vr wUNKNOWN), (vr wUNKNOWN), (vr wUNKNOWN)] [(.ref wUNKNOWN)])) rfl rfl (hb hby d16_35)
  obtain ⟨T4, X4, e4, st4⟩ := getF X3 hx hZ hown (host := "") (Or.inl (ow hw 100 rfl)) Via.refl e3 (F_ordinal_wUNKNOWN.ext O0.2) (g := (mkF m 39 #[(vr wUNKNOWN), (vr wUNKNOWN), (vr wUNKNOWN), (vr wUNKNOWN)] [(.ref wUNKNOWN), (.int 1)])) rfl rfl (hb hby d16_39)
  obtain ⟨fs, hr, hrun, hended, hW, hsame⟩ := X4.leave (v := some (.int 0)) (fun h => by rw [hret0] at h; cases h)
  refine ⟨_, _, pre0 _ ?_, hrun, hended, _, _, rfl, ?_, ⟨_, rfl⟩, hW, hsame.mono (by decide) (by decide)⟩
  · skip
    show Steps p.tables e below (s₁.setTop (mkF m 0 #[(vr wUNKNOWN), (vr wUNKNOWN), .unset, .unset] [])) _
    refine XS.aloadN X0.here hx rfl (hb hby d16_0) rfl rfl ?_
    refine XS.astoreN X0.here hx rfl (hb hby d16_1) rfl rfl (l' := #[(vr wUNKNOWN), (vr wUNKNOWN), (vr wUNKNOWN), .unset]) rfl ?_
    refine XS.aloadN X0.here hx rfl (hb hby d16_2) rfl rfl ?_
    refine XS.astoreN X0.here hx rfl (hb hby d16_3) rfl rfl (l' := #[(vr wUNKNOWN), (vr wUNKNOWN), (vr wUNKNOWN), (vr wUNKNOWN)]) rfl ?_
    refine XS.aloadN X0.here hx rfl (hb hby d16_4) rfl rfl ?_
    refine st1 _ ?_
    refine XS.aloadN X1.here hx rfl (hb hby d16_8) rfl rfl ?_
    refine st2 _ ?_
    show Steps p.tables e below (T2.setTop (mkF m 12 #[(vr wUNKNOWN), (vr wUNKNOWN), (vr wUNKNOWN), (vr wUNKNOWN)] [(.ref wMT), (.ref wMT)])) _
    refine Jvm.RoadKit.acmp (g := (mkF m 12 #[(vr wUNKNOWN), (vr wUNKNOWN), (vr wUNKNOWN), (vr wUNKNOWN)] [(.ref wMT), (.ref wMT)])) X2 hx rfl rfl rfl (pc0 := 12) (pc' := 34) (same := true) rfl (hb hby d16_12) rfl (decide_eq_true rfl) (by decide) (by decide) ?_
    refine XS.aloadN X2.here hx rfl (hb hby d16_34) rfl rfl ?_
    refine st3 _ ?_
    refine XS.aloadN X3.here hx rfl (hb hby d16_38) rfl rfl ?_
    refine st4 _ ?_
    refine XS.isub X4.here hx rfl (hb hby d16_42) rfl ?_
    exact retI X4 hx hret0 (hb hby d16_43) hr
  · show Q_au16_4 Z wUNKNOWN wHELD wTRUE wNOT_HELD wFALSE wMT wCS  h0 n0 _ T4.heap _
    rw [e4]
    exact ⟨rfl, N0, rfl⟩
def Q_au15_4 (Z : State) (wUNKNOWN : Addr) (wHELD : Addr) (wTRUE : Addr) (wNOT_HELD : Addr) (wFALSE : Addr) (wMT : Addr) (wCS : Int32) (pa1 : Addr) (pa2 : Addr) (h0 : Heap) (n0 : Nat) (v : Option Value) (h : Heap) (L : List Loc) : Prop := v = some (.ref pa1) ∧ Fr n0 L ∧ h = h0
theorem au15_4 (l : Launch) (Z : State) (a0 : Array Value) (hw : ∀ d ∈ tables_1, d.before a0 Z = true) (ws : List Jvm.Cond) (wUNKNOWN : Addr) (wHELD : Addr) (wTRUE : Addr) (wNOT_HELD : Addr) (wFALSE : Addr) (wMT : Addr) (wCS : Int32) (hS : SS Z wUNKNOWN wHELD wTRUE wNOT_HELD wFALSE wMT wCS) (pa1 : Addr) (pa2 : Addr) (h0 : Heap) (n0 : Nat) (O0 : Old Z n0 h0) (P2 : Fld Z h0 pa1 s3n "truth" s2n (.ref wUNKNOWN)) (P5 : Fld Z h0 pa2 s3n "truth" s2n (.ref wUNKNOWN)) :
    MetB l M14 prog_2_method_3_code 2 (some (.object s3n)) ws (rmk 2 0 0 46) Z h0 #[(.ref pa1), (.ref pa2)] (Q_au15_4 Z wUNKNOWN wHELD wTRUE wNOT_HELD wFALSE wMT wCS pa1 pa2 h0 n0) := by
  refine own_body (plainFor_of_name pn_com_example_tuplecraft_tuplecraft_Grant) ?_
  intro p e s m below meth c s₁ hx hby hml hown hnm hret0 hlk0 hZ X0 e0
  have N0 := Fr.nil n0
  have pre0 : ∀ t, Steps p.tables e below (s₁.setTop (mkF m 0 #[(vr pa1), (vr pa2)] [])) t → Steps p.tables e below (s₁.setTop (entryFrame m #[(.ref pa1), (.ref pa2)] 2)) t := fun t k => castTop (ef_au15_4 m pa1 pa2) k
  have hS0 := hS
  obtain ⟨S_wUNKNOWN, E_wUNKNOWN, S_wHELD, E_wHELD, S_wTRUE, E_wTRUE, S_wNOT_HELD, E_wNOT_HELD, S_wFALSE, E_wFALSE, F_ordinal_wUNKNOWN, F_ordinal_wTRUE, F_ordinal_wFALSE, F_truth_wHELD, F_truth_wNOT_HELD, M_wMT, S_wCS, N_wCS⟩ := hS0
  obtain ⟨T1, X1, e1, st1⟩ := getF X0 hx hZ hown (host := "") (Or.inl (ow hw 59 rfl)) Via.refl e0 P2 (g := (mkF m 1 #[(vr pa1), (vr pa2)] [(.ref pa1)])) rfl rfl (hb hby d15_1)
  obtain ⟨T2, X2, e2, st2⟩ := getF X1 hx hZ hown (host := "") (Or.inl (ow hw 59 rfl)) Via.refl e1 P5 (g := (mkF m 5 #[(vr pa1), (vr pa2)] [(.ref pa2), (.ref wUNKNOWN)])) rfl rfl (hb hby d15_5)
  obtain ⟨cq3, kq3, q3a, q3b, q3c⟩ := isOf hZ e2 (E_wUNKNOWN.ext O0.2)
  obtain ⟨_, _, ⟨T3, L3, k3, n3⟩, -, X3, ⟨Lc3, hQ3, l3, y3, z3⟩, st3⟩ := X2.virtualBackUp hx (owner := s4n) (x := M15) (y := M13) hown (mvT hZ (ow hw 87 rfl)) (mvT hZ (ow hw 88 rfl)) (mvT hZ (ow hw 89 rfl)) (by decide) (mvT hZ (ow hw 91 rfl)) (mvT hZ (ow hw 90 rfl)) (backOf (W := 0) (au16_4 l Z a0 hw [] wUNKNOWN wHELD wTRUE wNOT_HELD wFALSE wMT wCS hS  h0 n0 O0 ) hZ (ow hw 93 rfl) (ow hw 92 rfl) (by decide) (by decide)) q3a q3c (g := (mkF m 8 #[(vr pa1), (vr pa2)] [(.ref wUNKNOWN), (.ref wUNKNOWN)])) rfl (by rw [hml]; rfl) (Steps.refl _) (argsL := [(.ref wUNKNOWN)]) (rest := []) (lenOf pd_13 rfl) rfl (by show 2 * 0 + _ ≤ _; exact Nat.le_of_eq rfl) (hb hby d15_8) (fun _ _ => ⟨rfl, e2, (by decide : 0 + 0 ≤ _), (by decide : 0 + 0 ≤ _)⟩)
  dsimp only [Pt.U, Pt.locs, Pt.cells, Pt.slots] at X3 l3 y3 z3 st3 hQ3
  subst y3 z3
  obtain ⟨rfl, Nq3, K3q⟩ := hQ3
  have N3 : Fr n0 L3 := (congrArg (Fr n0) l3).mpr (Fr.app N0 Nq3)
  obtain ⟨fs, hr, hrun, hended, hW, hsame⟩ := X3.leave (v := some (.ref pa1)) (fun h => by rw [hret0] at h; cases h)
  refine ⟨_, _, pre0 _ ?_, hrun, hended, _, _, rfl, ?_, ⟨_, rfl⟩, hW, hsame.mono (by decide) (by decide)⟩
  · skip
    show Steps p.tables e below (s₁.setTop (mkF m 0 #[(vr pa1), (vr pa2)] [])) _
    refine XS.aloadN X0.here hx rfl (hb hby d15_0) rfl rfl ?_
    refine st1 _ ?_
    refine XS.aloadN X1.here hx rfl (hb hby d15_4) rfl rfl ?_
    refine st2 _ ?_
    refine st3.trans ?_
    refine XS.ifNo X3.here hx rfl (hb hby d15_11) rfl ((if0 _ _).trans (flt (by decide : ¬ ((0 : Int32) < (0 : Int32)))).1) ?_
    refine XS.aloadN X3.here hx rfl (hb hby d15_14) rfl rfl ?_
    refine XS.goto X3.here hx rfl (pc0 := 15) (pc' := 19) rfl (hb hby d15_15) (by decide) (by decide) ?_
    show Steps p.tables e below (T3.setTop (mkF m 19 #[(vr pa1), (vr pa2)] [(.ref pa1)])) _
    jvm_step X3.here [X3.here.top, hx, (hb hby d15_19), X3.method', hret0, Value.isRef, FieldType.isReference]
    first | (intro acts; rw [hr _ acts rfl rfl rfl]) | rw [hr _ _ rfl rfl rfl]
    exact Steps.refl _
  · show Q_au15_4 Z wUNKNOWN wHELD wTRUE wNOT_HELD wFALSE wMT wCS pa1 pa2 h0 n0 _ T3.heap _
    rw [K3q]
    exact ⟨rfl, N3, rfl⟩
theorem ef_au1_1 (m : MethodId) (x0 : Int32) (x1 : Int32) (x2 : Int32) (x3 : Int32)  : entryFrame m #[(.int x0), (.int x1), (.int x2), (.int x3)] 7 = mkF m 0 #[(vi x0), (vi x1), (vi x2), (vi x3), .unset, .unset, .unset] [] := by first | (simp [entryFrame, mkF, argsToLocals, Value.category]; done) | rfl
theorem d1_39 : decode method_2_code 39 = .ok (.iload_n 0, 1) := by decide +kernel
theorem d1_40 : decode method_2_code 40 = .ok (.iconst 1, 1) := by decide +kernel
theorem d1_41 : decode method_2_code 41 = .ok (.if_icmp .ne 19, 3) := by decide +kernel
theorem d1_44 : decode method_2_code 44 = .ok (.new 7, 3) := by decide +kernel
theorem d1_47 : decode method_2_code 47 = .ok (.dup, 1) := by decide +kernel
theorem d1_48 : decode method_2_code 48 = .ok (.iconst 1, 1) := by decide +kernel
theorem d1_49 : decode method_2_code 49 = .ok (.newarray .char, 2) := by decide +kernel
theorem d1_51 : decode method_2_code 51 = .ok (.dup, 1) := by decide +kernel
theorem d1_52 : decode method_2_code 52 = .ok (.iconst 0, 1) := by decide +kernel
theorem d1_53 : decode method_2_code 53 = .ok (.iload 4, 2) := by decide +kernel
theorem d1_55 : decode method_2_code 55 = .ok (.castore, 1) := by decide +kernel
theorem d1_56 : decode method_2_code 56 = .ok (.invokespecial 9, 3) := by decide +kernel
theorem ef_au2_1 (m : MethodId) (x0 : Addr) (x1 : Addr)  : entryFrame m #[(.ref x0), (.ref x1)] 2 = mkF m 0 #[(vr x0), (vr x1)] [] := by first | (simp [entryFrame, mkF, argsToLocals, Value.category]; done) | rfl
theorem ef_au3_1 (m : MethodId) (x0 : Addr) (x1 : Addr) (x2 : Int32) (x3 : Int32)  : entryFrame m #[(.ref x0), (.ref x1), (.int x2), (.int x3), .null] 6 = mkF m 0 #[(vr x0), (vr x1), (vi x2), (vi x3), .val .null, .unset] [] := by first | (simp [entryFrame, mkF, argsToLocals, Value.category]; done) | rfl
theorem d3_27 : decode jdk_42_method_149_code 27 = .ok (.getstatic 38, 3) := by decide +kernel
theorem d3_30 : decode jdk_42_method_149_code 30 = .ok (.ifCond .eq 28, 3) := by decide +kernel
theorem d3_33 : decode jdk_42_method_149_code 33 = .ok (.aload_n 1, 1) := by decide +kernel
theorem d3_34 : decode jdk_42_method_149_code 34 = .ok (.iload_n 2, 1) := by decide +kernel
theorem d3_35 : decode jdk_42_method_149_code 35 = .ok (.iload_n 3, 1) := by decide +kernel
theorem d3_36 : decode jdk_42_method_149_code 36 = .ok (.invokestatic 177, 3) := by decide +kernel
theorem ef_au17_0 (m : MethodId) (x0 : Addr) (x1 : Int32) (x2 : Int32)  : entryFrame m #[(.ref x0), (.int x1), (.int x2)] 6 = mkF m 0 #[(vr x0), (vi x1), (vi x2), .unset, .unset, .unset] [] := by first | (simp [entryFrame, mkF, argsToLocals, Value.category]; done) | rfl
theorem pn_java_lang_StringUTF16 : plainName "java/lang/StringUTF16" = true := by first | (simp [plainName, overriddenIn]; done) | decide +kernel
theorem d17_0 : decode jdk_52_method_16_code 0 = .ok (.iload_n 2, 1) := by decide +kernel
theorem d17_1 : decode jdk_52_method_16_code 1 = .ok (.newarray .byte, 2) := by decide +kernel
theorem d17_3 : decode jdk_52_method_16_code 3 = .ok (.astore_n 3, 1) := by decide +kernel
theorem d17_4 : decode jdk_52_method_16_code 4 = .ok (.aload_n 0, 1) := by decide +kernel
theorem d17_5 : decode jdk_52_method_16_code 5 = .ok (.iload_n 1, 1) := by decide +kernel
theorem d17_6 : decode jdk_52_method_16_code 6 = .ok (.aload_n 3, 1) := by decide +kernel
theorem d17_7 : decode jdk_52_method_16_code 7 = .ok (.iconst 0, 1) := by decide +kernel
theorem d17_8 : decode jdk_52_method_16_code 8 = .ok (.iload_n 2, 1) := by decide +kernel
theorem d17_9 : decode jdk_52_method_16_code 9 = .ok (.invokestatic 115, 3) := by decide +kernel
theorem ef_au18_0 (m : MethodId) (x0 : Addr) (x1 : Int32) (x2 : Addr) (x3 : Int32) (x4 : Int32)  : entryFrame m #[(.ref x0), (.int x1), (.ref x2), (.int x3), (.int x4)] 7 = mkF m 0 #[(vr x0), (vi x1), (vr x2), (vi x3), (vi x4), .unset, .unset] [] := by first | (simp [entryFrame, mkF, argsToLocals, Value.category]; done) | rfl
theorem d18_0 : decode jdk_52_method_21_code 0 = .ok (.iconst 0, 1) := by decide +kernel
theorem d18_1 : decode jdk_52_method_21_code 1 = .ok (.istore 5, 2) := by decide +kernel
theorem d18_3 : decode jdk_52_method_21_code 3 = .ok (.iload 5, 2) := by decide +kernel
theorem d18_5 : decode jdk_52_method_21_code 5 = .ok (.iload 4, 2) := by decide +kernel
theorem d18_7 : decode jdk_52_method_21_code 7 = .ok (.if_icmp .ge 37, 3) := by decide +kernel
theorem d18_10 : decode jdk_52_method_21_code 10 = .ok (.aload_n 0, 1) := by decide +kernel
theorem d18_11 : decode jdk_52_method_21_code 11 = .ok (.iload_n 1, 1) := by decide +kernel
theorem d18_12 : decode jdk_52_method_21_code 12 = .ok (.caload, 1) := by decide +kernel
theorem d18_13 : decode jdk_52_method_21_code 13 = .ok (.istore 6, 2) := by decide +kernel
theorem d18_15 : decode jdk_52_method_21_code 15 = .ok (.iload 6, 2) := by decide +kernel
theorem d18_17 : decode jdk_52_method_21_code 17 = .ok (.sipush 255, 3) := by decide +kernel
theorem d18_20 : decode jdk_52_method_21_code 20 = .ok (.if_icmp .le 6, 3) := by decide +kernel
theorem d18_26 : decode jdk_52_method_21_code 26 = .ok (.aload_n 2, 1) := by decide +kernel
theorem d18_27 : decode jdk_52_method_21_code 27 = .ok (.iload_n 3, 1) := by decide +kernel
theorem d18_28 : decode jdk_52_method_21_code 28 = .ok (.iload 6, 2) := by decide +kernel
theorem d18_30 : decode jdk_52_method_21_code 30 = .ok (.i2b, 1) := by decide +kernel
theorem d18_31 : decode jdk_52_method_21_code 31 = .ok (.bastore, 1) := by decide +kernel
theorem d18_32 : decode jdk_52_method_21_code 32 = .ok (.iinc 1 1, 3) := by decide +kernel
theorem d18_35 : decode jdk_52_method_21_code 35 = .ok (.iinc 3 1, 3) := by decide +kernel
theorem d18_38 : decode jdk_52_method_21_code 38 = .ok (.iinc 5 1, 3) := by decide +kernel
theorem d18_41 : decode jdk_52_method_21_code 41 = .ok (.goto (-38), 3) := by decide +kernel
theorem d18_44 : decode jdk_52_method_21_code 44 = .ok (.iload 4, 2) := by decide +kernel
theorem d18_46 : decode jdk_52_method_21_code 46 = .ok (.ireturn, 1) := by decide +kernel
def Q_au18_0 (Z : State) (wUNKNOWN : Addr) (wHELD : Addr) (wTRUE : Addr) (wNOT_HELD : Addr) (wFALSE : Addr) (wMT : Addr) (wCS : Int32) (pa1 : Addr) (pa2 : Addr) (pk3 : ClassId) (pi4 : Int32) (pk5 : ClassId) (h0 : Heap) (n0 : Nat) (v : Option Value) (h : Heap) (L : List Loc) : Prop := v = some (.int 1) ∧ Fr n0 L ∧ Keep h0 h [pa2] ∧ Exa Z h pa2 "[B" ∧ Arv Z h pa2 pk5 .byte (1 : Int32) ([(.int (nar .byte (pi4.toInt8.toInt32)))]) (.int 0)
theorem au18_0 (l : Launch) (Z : State) (a0 : Array Value) (hw : ∀ d ∈ tables_1, d.before a0 Z = true) (ws : List Jvm.Cond) (wUNKNOWN : Addr) (wHELD : Addr) (wTRUE : Addr) (wNOT_HELD : Addr) (wFALSE : Addr) (wMT : Addr) (wCS : Int32) (hS : SS Z wUNKNOWN wHELD wTRUE wNOT_HELD wFALSE wMT wCS) (pa1 : Addr) (pa2 : Addr) (pk3 : ClassId) (pi4 : Int32) (pk5 : ClassId) (h0 : Heap) (n0 : Nat) (O0 : Old Z n0 h0) (P0 : Arv Z h0 pa1 pk3 .char (1 : Int32) ([(.int pi4)]) (.int 0)) (P2 : Arv Z h0 pa2 pk5 .byte (1 : Int32) ([(.int 0)]) (.int 0)) (P3 : Exa Z h0 pa2 "[B") (P4 : ¬ (255 : Int32) < pi4) (P6 : n0 ≤ pa2) :
    MetB l M16 jdk_52_method_21_code 7 (some .int) ws (rmk 0 0 0 0) Z h0 #[(.ref pa1), (.int 0), (.ref pa2), (.int 0), (.int 1)] (Q_au18_0 Z wUNKNOWN wHELD wTRUE wNOT_HELD wFALSE wMT wCS pa1 pa2 pk3 pi4 pk5 h0 n0) := by
  refine own_body (plainFor_of_name pn_java_lang_StringUTF16) ?_
  intro p e s m below meth c s₁ hx hby hml hown hnm hret0 hlk0 hZ X0 e0
  have N0 := Fr.nil n0
  have pre0 : ∀ t, Steps p.tables e below (s₁.setTop (mkF m 0 #[(vr pa1), (vi 0), (vr pa2), (vi 0), (vi 1), .unset, .unset] [])) t → Steps p.tables e below (s₁.setTop (entryFrame m #[(.ref pa1), (.int 0), (.ref pa2), (.int 0), (.int 1)] 7)) t := fun t k => castTop (ef_au18_0 m pa1 (0 : Int32) pa2 (0 : Int32) (1 : Int32)) k
  have K0 := Keep.refl h0 [pa2]
  have hS0 := hS
  obtain ⟨S_wUNKNOWN, E_wUNKNOWN, S_wHELD, E_wHELD, S_wTRUE, E_wTRUE, S_wNOT_HELD, E_wNOT_HELD, S_wFALSE, E_wFALSE, F_ordinal_wUNKNOWN, F_ordinal_wTRUE, F_ordinal_wFALSE, F_truth_wHELD, F_truth_wNOT_HELD, M_wMT, S_wCS, N_wCS⟩ := hS0
  obtain ⟨cl1, Ar1, qc1, Sz1, Nn1, Ha1, Gg1⟩ := (id P0)
  have hin1 : ¬ ((0 : Int32) < 0 ∨ cl1.slots.size ≤ ((0 : Int32)).toNatClampNeg) := inb_of Sz1 ⟨by decide, by decide⟩
  have hat1 : cl1.slots[((0 : Int32)).toNatClampNeg]? = some (.int pi4) := Ha1.at hin1 rfl
  obtain ⟨cl2, Ar2, qc2, Sz2, Nn2, Ha2, Gg2⟩ := (id P2)
  have hin2 : ¬ ((0 : Int32) < 0 ∨ cl2.slots.size ≤ ((0 : Int32)).toNatClampNeg) := inb_of Sz2 ⟨by decide, by decide⟩
  obtain ⟨T2, h2, X2, e2, W2, st2⟩ := stB X0 hx hZ e0 Ar2 (j := (0 : Int32)) hin2 (g := (mkF m 31 #[(vr pa1), (vi 0), (vr pa2), (vi 0), (vi 1), (vi 0), (vi pi4)] [(.int (pi4.toInt8.toInt32)), (.int 0), (.ref pa2)])) rfl rfl (hb hby d18_31)
  have O3 : Old Z n0 h2 := O0.wr W2 P6
  have K3 : Keep h0 h2 [pa2] := K0.wr W2 (Or.inl (List.mem_of_getElem? (i := 0) rfl))
  have V2 : Arv Z h2 pa2 pk5 .byte (1 : Int32) ([(.int (nar .byte (pi4.toInt8.toInt32)))]) (.int 0) := (Arv.set Ar2 qc2 Sz2 Nn2 Ha2 Gg2 (v := (.int (nar .byte (pi4.toInt8.toInt32)))) (fits_nar_byte _) W2 0 rfl (Nat.le_of_ble_eq_true rfl))
  have N2 := Fr.snoc X2 N0 P6
  have f4 : Exa Z h2 pa2 "[B" := (P3.wr W2)
  obtain ⟨fs, hr, hrun, hended, hW, hsame⟩ := X2.leave (v := some (.int 1)) (fun h => by rw [hret0] at h; cases h)
  refine ⟨_, _, pre0 _ ?_, hrun, hended, _, _, rfl, ?_, ⟨_, rfl⟩, hW, hsame.mono (by decide) (by decide)⟩
  · skip
    show Steps p.tables e below (s₁.setTop (mkF m 0 #[(vr pa1), (vi 0), (vr pa2), (vi 0), (vi 1), .unset, .unset] [])) _
    refine XS.iconst X0.here hx rfl (hb hby d18_0) ?_
    refine XS.istore X0.here hx rfl (hb hby d18_1) rfl (l' := #[(vr pa1), (vi 0), (vr pa2), (vi 0), (vi 1), (vi 0), .unset]) rfl ?_
    refine XS.iload X0.here hx rfl (hb hby d18_3) rfl ?_
    refine XS.iload X0.here hx rfl (hb hby d18_5) rfl ?_
    refine XS.icmpNo X0.here hx rfl (hb hby d18_7) rfl (tlt (by decide : (0 : Int32) < (1 : Int32))).2.1 ?_
    refine XS.aloadN X0.here hx rfl (hb hby d18_10) rfl rfl ?_
    refine XS.iloadN X0.here hx rfl (hb hby d18_11) rfl ?_
    refine X0.caload hx (j := (0 : Int32)) (v := (.int pi4)) (by rw [e0]; exact Ar1.1) (State.isArrayOf_alike hZ.alike Ar1.2.1) Ar1.2.2 hin1 hat1 (g := (mkF m 12 #[(vr pa1), (vi 0), (vr pa2), (vi 0), (vi 1), (vi 0), .unset] [(.int 0), (.ref pa1)])) rfl rfl (hb hby d18_12) _ ?_
    show Steps p.tables e below (s₁.setTop (mkF m 13 #[(vr pa1), (vi 0), (vr pa2), (vi 0), (vi 1), (vi 0), .unset] [(.int pi4)])) _
    refine XS.istore X0.here hx rfl (hb hby d18_13) rfl (l' := #[(vr pa1), (vi 0), (vr pa2), (vi 0), (vi 1), (vi 0), (vi pi4)]) rfl ?_
    refine XS.iload X0.here hx rfl (hb hby d18_15) rfl ?_
    refine XS.sipush X0.here hx rfl (hb hby d18_17) ?_
    refine XS.icmpYes X0.here hx rfl (pc0 := 20) (pc' := 26) rfl (hb hby d18_20) rfl (flt (P4 : ¬ ((255 : Int32) < pi4))).2.2.2 (by decide) (by decide) ?_
    refine XS.aloadN X0.here hx rfl (hb hby d18_26) rfl rfl ?_
    refine XS.iloadN X0.here hx rfl (hb hby d18_27) rfl ?_
    refine XS.iload X0.here hx rfl (hb hby d18_28) rfl ?_
    refine XS.i2b X0.here hx rfl (hb hby d18_30) rfl ?_
    show Steps p.tables e below (s₁.setTop (mkF m 31 #[(vr pa1), (vi 0), (vr pa2), (vi 0), (vi 1), (vi 0), (vi pi4)] [(.int (pi4.toInt8.toInt32)), (.int 0), (.ref pa2)])) _
    refine st2 _ ?_
    refine XS.iinc X2.here hx rfl (hb hby d18_32) rfl (l' := #[(vr pa1), (vi 1), (vr pa2), (vi 0), (vi 1), (vi 0), (vi pi4)]) rfl ?_
    refine XS.iinc X2.here hx rfl (hb hby d18_35) rfl (l' := #[(vr pa1), (vi 1), (vr pa2), (vi 1), (vi 1), (vi 0), (vi pi4)]) rfl ?_
    refine XS.iinc X2.here hx rfl (hb hby d18_38) rfl (l' := #[(vr pa1), (vi 1), (vr pa2), (vi 1), (vi 1), (vi 1), (vi pi4)]) rfl ?_
    refine XS.goto X2.here hx rfl (pc0 := 41) (pc' := 3) rfl (hb hby d18_41) (by decide) (by decide) ?_
    refine XS.iload X2.here hx rfl (hb hby d18_3) rfl ?_
    refine XS.iload X2.here hx rfl (hb hby d18_5) rfl ?_
    refine XS.icmpYes X2.here hx rfl (pc0 := 7) (pc' := 44) rfl (hb hby d18_7) rfl (flt (by decide : ¬ ((1 : Int32) < (1 : Int32)))).2.1 (by decide) (by decide) ?_
    show Steps p.tables e below (T2.setTop (mkF m 44 #[(vr pa1), (vi 1), (vr pa2), (vi 1), (vi 1), (vi 1), (vi pi4)] [])) _
    refine XS.iload X2.here hx rfl (hb hby d18_44) rfl ?_
    exact retI X2 hx hret0 (hb hby d18_46) hr
  · show Q_au18_0 Z wUNKNOWN wHELD wTRUE wNOT_HELD wFALSE wMT wCS pa1 pa2 pk3 pi4 pk5 h0 n0 _ T2.heap _
    rw [e2]
    exact ⟨rfl, N2, K3, f4, V2⟩
theorem pd_15 : parseMethodDescriptor "([CI[BII)I" = some ⟨[(.array .char), .int, (.array .byte), .int, .int], some .int⟩ := by decide +kernel
theorem d17_12 : decode jdk_52_method_16_code 12 = .ok (.istore 4, 2) := by decide +kernel
theorem d17_14 : decode jdk_52_method_16_code 14 = .ok (.iload 4, 2) := by decide +kernel
theorem d17_16 : decode jdk_52_method_16_code 16 = .ok (.iload_n 2, 1) := by decide +kernel
theorem d17_17 : decode jdk_52_method_16_code 17 = .ok (.if_icmp .eq 40, 3) := by decide +kernel
theorem d17_57 : decode jdk_52_method_16_code 57 = .ok (.aload_n 3, 1) := by decide +kernel
theorem d17_58 : decode jdk_52_method_16_code 58 = .ok (.areturn, 1) := by decide +kernel
def Q_au17_0 (Z : State) (wUNKNOWN : Addr) (wHELD : Addr) (wTRUE : Addr) (wNOT_HELD : Addr) (wFALSE : Addr) (wMT : Addr) (wCS : Int32) (pa1 : Addr) (pk2 : ClassId) (pi3 : Int32) (h0 : Heap) (n0 : Nat) (v : Option Value) (h : Heap) (L : List Loc) : Prop := ∃ (e1 : Addr) (e2 : ClassId), v = some (.ref e1) ∧ Fr n0 L ∧ Keep h0 h [] ∧ h0.size ≤ e1 ∧ Exa Z h e1 "[B" ∧ Arv Z h e1 e2 .byte (1 : Int32) ([(.int (nar .byte (pi3.toInt8.toInt32)))]) (.int 0)
theorem au17_0 (l : Launch) (Z : State) (a0 : Array Value) (hw : ∀ d ∈ tables_1, d.before a0 Z = true) (ws : List Jvm.Cond) (wUNKNOWN : Addr) (wHELD : Addr) (wTRUE : Addr) (wNOT_HELD : Addr) (wFALSE : Addr) (wMT : Addr) (wCS : Int32) (hS : SS Z wUNKNOWN wHELD wTRUE wNOT_HELD wFALSE wMT wCS) (pa1 : Addr) (pk2 : ClassId) (pi3 : Int32) (h0 : Heap) (n0 : Nat) (O0 : Old Z n0 h0) (P0 : Arv Z h0 pa1 pk2 .char (1 : Int32) ([(.int pi3)]) (.int 0)) (P2 : ¬ (255 : Int32) < pi3) :
    MetB l M17 jdk_52_method_16_code 6 (some (.array .byte)) ws (rmk 1 1 1 18) Z h0 #[(.ref pa1), (.int 0), (.int 1)] (Q_au17_0 Z wUNKNOWN wHELD wTRUE wNOT_HELD wFALSE wMT wCS pa1 pk2 pi3 h0 n0) := by
  refine own_body (plainFor_of_name pn_java_lang_StringUTF16) ?_
  intro p e s m below meth c s₁ hx hby hml hown hnm hret0 hlk0 hZ X0 e0
  have N0 := Fr.nil n0
  have pre0 : ∀ t, Steps p.tables e below (s₁.setTop (mkF m 0 #[(vr pa1), (vi 0), (vi 1), .unset, .unset, .unset] [])) t → Steps p.tables e below (s₁.setTop (entryFrame m #[(.ref pa1), (.int 0), (.int 1)] 6)) t := fun t k => castTop (ef_au17_0 m pa1 (0 : Int32) (1 : Int32)) k
  have K0 := Keep.refl h0 []
  have hS0 := hS
  obtain ⟨S_wUNKNOWN, E_wUNKNOWN, S_wHELD, E_wHELD, S_wTRUE, E_wTRUE, S_wNOT_HELD, E_wNOT_HELD, S_wFALSE, E_wFALSE, F_ordinal_wUNKNOWN, F_ordinal_wTRUE, F_ordinal_wFALSE, F_truth_wHELD, F_truth_wNOT_HELD, M_wMT, S_wCS, N_wCS⟩ := hS0
  obtain ⟨T1, h1, k1, X1, e1, E1, A1, Z1, st1⟩ := newPE X0 hx hZ (ow hw 19 rfl) e0 (g := (mkF m 1 #[(vr pa1), (vi 0), (vi 1), .unset, .unset, .unset] [(.int 1)])) rfl (hb hby d17_1) rfl (by decide) (cap := 1) (by decide) (by decide) (by decide) (by decide) (ad := "[B") rfl
  obtain ⟨b1, g1⟩ : ∃ z, z = h0.size := ⟨_, rfl⟩
  rw [← g1] at A1 Z1 st1
  have ne2 : pa1 ≠ b1 := Nat.ne_of_lt (Nat.lt_of_lt_of_le P0.lt (Nat.le_of_eq g1.symm))
  have g3 : n0 ≤ b1 := Nat.le_trans (own_sz O0) (Nat.le_of_eq g1.symm)
  have sz4 : h0.size ≤ b1 := Nat.le_trans K0.1 (Nat.le_of_eq g1.symm)
  have O5 : Old Z n0 h1 := O0.ext E1
  have K5 : Keep h0 h1 [] := K0.ext E1
  have V1 : Arv Z h1 b1 k1 .byte (1 : Int32) ([(.int 0)]) (.int 0) := (Arv.new A1 (by decide)).pad (pad_rep [] (.int 0) 1)
  have f6 : Arv Z h1 pa1 pk2 .char (1 : Int32) ([(.int pi3)]) (.int 0) := (P0.ext E1)
  obtain ⟨_, _, ⟨T7, L7, k7, n7⟩, -, X7, ⟨Lc7, hQ7, l7, y7, z7⟩, st7⟩ := Jvm.LawKit.callS X1 hx (y := M16) hown (mvT hZ (ow hw 109 rfl)) (mvT hZ (ow hw 110 rfl)) (mvT hZ (ow hw 107 rfl)) (mvT hZ (ow hw 111 rfl)) (by decide) (backOf (W := 0) (au18_0 l Z a0 hw [] wUNKNOWN wHELD wTRUE wNOT_HELD wFALSE wMT wCS hS pa1 b1 pk2 pi3 k1 h1 n0 O5 f6 V1 Z1 P2 g3) hZ (ow hw 111 rfl) (ow hw 107 rfl) (by decide) (by decide)) (g := (mkF m 9 #[(vr pa1), (vi 0), (vi 1), (vr b1), .unset, .unset] [(.int 1), (.int 0), (.ref b1), (.int 0), (.ref pa1)])) rfl (by rw [hml]; rfl) (argsL := [(.ref pa1), (.int 0), (.ref b1), (.int 0), (.int 1)]) (rest := []) (lenOf pd_15 rfl) rfl (by show 2 * 0 + _ ≤ _; exact Nat.le_of_eq rfl) (hb hby d17_9) (fun _ _ => ⟨rfl, e1, (by decide : 1 + 0 ≤ _), (by decide : 1 + 0 ≤ _)⟩)
  dsimp only [Pt.U, Pt.locs, Pt.cells, Pt.slots] at X7 l7 y7 z7 st7 hQ7
  subst y7 z7
  obtain ⟨rfl, Nq7, K7q, p7_0, p7_1⟩ := hQ7
  have N7 : Fr n0 L7 := (congrArg (Fr n0) l7).mpr (Fr.app N0 Nq7)
  have O8 : Old Z n0 T7.heap := O5.keep K7q (allS g3 all0)
  have K8 : Keep h0 T7.heap [] := K5.trans K7q (allS (Or.inr sz4) all0)
  obtain ⟨fs, hr, hrun, hended, hW, hsame⟩ := X7.leave (v := some (.ref b1)) (fun h => by rw [hret0] at h; cases h)
  refine ⟨_, _, pre0 _ ?_, hrun, hended, _, _, rfl, ?_, ⟨_, rfl⟩, hW, hsame.mono (by decide) (by decide)⟩
  · skip
    show Steps p.tables e below (s₁.setTop (mkF m 0 #[(vr pa1), (vi 0), (vi 1), .unset, .unset, .unset] [])) _
    refine XS.iloadN X0.here hx rfl (hb hby d17_0) rfl ?_
    refine st1 _ ?_
    refine XS.astoreN X1.here hx rfl (hb hby d17_3) rfl rfl (l' := #[(vr pa1), (vi 0), (vi 1), (vr b1), .unset, .unset]) rfl ?_
    refine XS.aloadN X1.here hx rfl (hb hby d17_4) rfl rfl ?_
    refine XS.iloadN X1.here hx rfl (hb hby d17_5) rfl ?_
    refine XS.aloadN X1.here hx rfl (hb hby d17_6) rfl rfl ?_
    refine XS.iconst X1.here hx rfl (hb hby d17_7) ?_
    refine XS.iloadN X1.here hx rfl (hb hby d17_8) rfl ?_
    show Steps p.tables e below (T1.setTop (mkF m 9 #[(vr pa1), (vi 0), (vi 1), (vr b1), .unset, .unset] [(.int 1), (.int 0), (.ref b1), (.int 0), (.ref pa1)])) _
    refine st7 _ ?_
    refine XS.istore X7.here hx rfl (hb hby d17_12) rfl (l' := #[(vr pa1), (vi 0), (vi 1), (vr b1), (vi 1), .unset]) rfl ?_
    refine XS.iload X7.here hx rfl (hb hby d17_14) rfl ?_
    refine XS.iloadN X7.here hx rfl (hb hby d17_16) rfl ?_
    refine XS.icmpYes X7.here hx rfl (pc0 := 17) (pc' := 57) rfl (hb hby d17_17) rfl (teq (by decide : (1 : Int32) = (1 : Int32))).1 (by decide) (by decide) ?_
    refine XS.aloadN X7.here hx rfl (hb hby d17_57) rfl rfl ?_
    jvm_step X7.here [X7.here.top, hx, (hb hby d17_58), X7.method', hret0, Value.isRef, FieldType.isReference]
    first | (intro acts; rw [hr _ acts rfl rfl rfl]) | rw [hr _ _ rfl rfl rfl]
    exact Steps.refl _
  · show Q_au17_0 Z wUNKNOWN wHELD wTRUE wNOT_HELD wFALSE wMT wCS pa1 pk2 pi3 h0 n0 _ T7.heap _
    exact ⟨b1, k1, rfl, N7, K8, sz4, p7_0, p7_1⟩
theorem pd_16 : parseMethodDescriptor "([CII)[B" = some ⟨[(.array .char), .int, .int], some (.array .byte)⟩ := by decide +kernel
theorem d3_39 : decode jdk_42_method_149_code 39 = .ok (.astore 5, 2) := by decide +kernel
theorem d3_41 : decode jdk_42_method_149_code 41 = .ok (.aload_n 0, 1) := by decide +kernel
theorem d3_42 : decode jdk_42_method_149_code 42 = .ok (.aload 5, 2) := by decide +kernel
theorem d3_44 : decode jdk_42_method_149_code 44 = .ok (.iload_n 3, 1) := by decide +kernel
theorem d3_45 : decode jdk_42_method_149_code 45 = .ok (.invokestatic 47, 3) := by decide +kernel
theorem ef_au19_0 (m : MethodId) (x0 : Addr) (x1 : Int32)  : entryFrame m #[(.ref x0), (.int x1)] 2 = mkF m 0 #[(vr x0), (vi x1)] [] := by first | (simp [entryFrame, mkF, argsToLocals, Value.category]; done) | rfl
theorem d19_0 : decode jdk_52_method_15_code 0 = .ok (.iload_n 1, 1) := by decide +kernel
theorem d19_1 : decode jdk_52_method_15_code 1 = .ok (.aload_n 0, 1) := by decide +kernel
theorem d19_2 : decode jdk_52_method_15_code 2 = .ok (.arraylength, 1) := by decide +kernel
theorem d19_3 : decode jdk_52_method_15_code 3 = .ok (.isub, 1) := by decide +kernel
theorem d19_4 : decode jdk_52_method_15_code 4 = .ok (.bipush 31, 2) := by decide +kernel
theorem d19_6 : decode jdk_52_method_15_code 6 = .ok (.iushr, 1) := by decide +kernel
theorem d19_7 : decode jdk_52_method_15_code 7 = .ok (.i2b, 1) := by decide +kernel
theorem d19_8 : decode jdk_52_method_15_code 8 = .ok (.ireturn, 1) := by decide +kernel
def Q_au19_0 (Z : State) (wUNKNOWN : Addr) (wHELD : Addr) (wTRUE : Addr) (wNOT_HELD : Addr) (wFALSE : Addr) (wMT : Addr) (wCS : Int32) (pa1 : Addr) (pk2 : ClassId) (pi3 : Int32) (h0 : Heap) (n0 : Nat) (v : Option Value) (h : Heap) (L : List Loc) : Prop := v = some (.int 0) ∧ Fr n0 L ∧ h = h0
theorem au19_0 (l : Launch) (Z : State) (a0 : Array Value) (hw : ∀ d ∈ tables_1, d.before a0 Z = true) (ws : List Jvm.Cond) (wUNKNOWN : Addr) (wHELD : Addr) (wTRUE : Addr) (wNOT_HELD : Addr) (wFALSE : Addr) (wMT : Addr) (wCS : Int32) (hS : SS Z wUNKNOWN wHELD wTRUE wNOT_HELD wFALSE wMT wCS) (pa1 : Addr) (pk2 : ClassId) (pi3 : Int32) (h0 : Heap) (n0 : Nat) (O0 : Old Z n0 h0) (P0 : Arv Z h0 pa1 pk2 .byte (1 : Int32) ([(.int pi3)]) (.int 0)) :
    MetB l M18 jdk_52_method_15_code 2 (some .byte) ws (rmk 0 0 0 0) Z h0 #[(.ref pa1), (.int 1)] (Q_au19_0 Z wUNKNOWN wHELD wTRUE wNOT_HELD wFALSE wMT wCS pa1 pk2 pi3 h0 n0) := by
  refine own_body (plainFor_of_name pn_java_lang_StringUTF16) ?_
  intro p e s m below meth c s₁ hx hby hml hown hnm hret0 hlk0 hZ X0 e0
  have N0 := Fr.nil n0
  have pre0 : ∀ t, Steps p.tables e below (s₁.setTop (mkF m 0 #[(vr pa1), (vi 1)] [])) t → Steps p.tables e below (s₁.setTop (entryFrame m #[(.ref pa1), (.int 1)] 2)) t := fun t k => castTop (ef_au19_0 m pa1 (1 : Int32)) k
  have hS0 := hS
  obtain ⟨S_wUNKNOWN, E_wUNKNOWN, S_wHELD, E_wHELD, S_wTRUE, E_wTRUE, S_wNOT_HELD, E_wNOT_HELD, S_wFALSE, E_wFALSE, F_ordinal_wUNKNOWN, F_ordinal_wTRUE, F_ordinal_wFALSE, F_truth_wHELD, F_truth_wNOT_HELD, M_wMT, S_wCS, N_wCS⟩ := hS0
  obtain ⟨cl1, Ar1, -, Sz1, Nn1, -, -⟩ := (id P0)
  have pre2 : ∀ t, Steps p.tables e below (s₁.setTop (mkF m 8 #[(vr pa1), (vi 1)] [(.int 0)])) t → Steps p.tables e below (s₁.setTop (entryFrame m #[(.ref pa1), (.int 1)] 2)) t := by
    intro t k
    refine pre0 t ?_
    show Steps p.tables e below (s₁.setTop (mkF m 0 #[(vr pa1), (vi 1)] [])) _
    refine XS.iloadN X0.here hx rfl (hb hby d19_0) rfl ?_
    refine XS.aloadN X0.here hx rfl (hb hby d19_1) rfl rfl ?_
    refine X0.arraylength hx (by rw [e0]; exact Ar1.1) (State.isArrayOf_alike hZ.alike Ar1.2.1) (g := (mkF m 2 #[(vr pa1), (vi 1)] [(.ref pa1), (.int 1)])) rfl rfl (hb hby d19_2) _ ?_
    rw [len_of Sz1 Nn1]
    refine XS.isub X0.here hx rfl (hb hby d19_3) rfl ?_
    refine XS.bipush X0.here hx rfl (hb hby d19_4) ?_
    refine XS.iushr X0.here hx rfl (hb hby d19_6) rfl ?_
    refine XS.i2b X0.here hx rfl (hb hby d19_7) rfl ?_
    show Steps p.tables e below (s₁.setTop (mkF m 8 #[(vr pa1), (vi 1)] [(.int ((((0 : Int32).toUInt32 >>> ((31 : Int32) &&& 31).toUInt32).toInt32).toInt8.toInt32))])) _
    rw [(by decide : ((((0 : Int32).toUInt32 >>> ((31 : Int32) &&& 31).toUInt32).toInt32).toInt8.toInt32) = (0 : Int32))]
    exact k
  obtain ⟨fs, hr, hrun, hended, hW, hsame⟩ := X0.leave (v := some (.int 0)) (fun h => by rw [hret0] at h; cases h)
  refine ⟨_, _, pre2 _ ?_, hrun, hended, _, _, rfl, ?_, ⟨_, rfl⟩, hW, hsame.mono (by decide) (by decide)⟩
  · skip
    show Steps p.tables e below (s₁.setTop (mkF m 8 #[(vr pa1), (vi 1)] [(.int 0)])) _
    exact retN X0 hx (t := .byte) hret0 (by simp) (hb hby d19_8) hr
  · show Q_au19_0 Z wUNKNOWN wHELD wTRUE wNOT_HELD wFALSE wMT wCS pa1 pk2 pi3 h0 n0 _ s₁.heap _
    rw [e0]
    exact ⟨rfl, N0, rfl⟩
theorem pd_17 : parseMethodDescriptor "([BI)B" = some ⟨[(.array .byte), .int], some .byte⟩ := by decide +kernel
theorem d3_48 : decode jdk_42_method_149_code 48 = .ok (.putfield 15, 3) := by decide +kernel
theorem d3_51 : decode jdk_42_method_149_code 51 = .ok (.aload_n 0, 1) := by decide +kernel
theorem d3_52 : decode jdk_42_method_149_code 52 = .ok (.aload 5, 2) := by decide +kernel
theorem d3_54 : decode jdk_42_method_149_code 54 = .ok (.putfield 9, 3) := by decide +kernel
theorem d3_57 : decode jdk_42_method_149_code 57 = .ok (.return_, 1) := by decide +kernel
def Q_au3_1 (Z : State) (wUNKNOWN : Addr) (wHELD : Addr) (wTRUE : Addr) (wNOT_HELD : Addr) (wFALSE : Addr) (wMT : Addr) (wCS : Int32) (pa1 : Addr) (pa2 : Addr) (pk3 : ClassId) (pi4 : Int32) (h0 : Heap) (n0 : Nat) (v : Option Value) (h : Heap) (L : List Loc) : Prop := v = none ∧ Fr n0 L ∧ Keep h0 h [pa1] ∧ Exa Z h pa1 s0n
theorem au3_1 (l : Launch) (Z : State) (a0 : Array Value) (hw : ∀ d ∈ tables_1, d.before a0 Z = true) (ws : List Jvm.Cond) (wUNKNOWN : Addr) (wHELD : Addr) (wTRUE : Addr) (wNOT_HELD : Addr) (wFALSE : Addr) (wMT : Addr) (wCS : Int32) (hS : SS Z wUNKNOWN wHELD wTRUE wNOT_HELD wFALSE wMT wCS) (pa1 : Addr) (pa2 : Addr) (pk3 : ClassId) (pi4 : Int32) (h0 : Heap) (n0 : Nat) (O0 : Old Z n0 h0) (P0 : Exa Z h0 pa1 s0n) (P1 : Fld Z h0 pa1 s0n "coder" "B" (.int 0)) (P2 : Fld Z h0 pa1 s0n "value" "[B" .null) (P3 : Arv Z h0 pa2 pk3 .char (1 : Int32) ([(.int pi4)]) (.int 0)) (P5 : ¬ (255 : Int32) < pi4) (P6 : n0 ≤ pa1) :
    MetB l M0 jdk_42_method_149_code 6 none ws (rmk 2 1 1 35) Z h0 #[(.ref pa1), (.ref pa2), (.int 0), (.int 1), .null] (Q_au3_1 Z wUNKNOWN wHELD wTRUE wNOT_HELD wFALSE wMT wCS pa1 pa2 pk3 pi4 h0 n0) := by
  refine own_body (plainFor_of_name pn_java_lang_String) ?_
  intro p e s m below meth c s₁ hx hby hml hown hnm hret0 hlk0 hZ X0 e0
  have N0 := Fr.nil n0
  have pre0 : ∀ t, Steps p.tables e below (s₁.setTop (mkF m 0 #[(vr pa1), (vr pa2), (vi 0), (vi 1), .val .null, .unset] [])) t → Steps p.tables e below (s₁.setTop (entryFrame m #[(.ref pa1), (.ref pa2), (.int 0), (.int 1), .null] 6)) t := fun t k => castTop (ef_au3_1 m pa1 pa2 (0 : Int32) (1 : Int32)) k
  have K0 := Keep.refl h0 [pa1]
  have hS0 := hS
  obtain ⟨S_wUNKNOWN, E_wUNKNOWN, S_wHELD, E_wHELD, S_wTRUE, E_wTRUE, S_wNOT_HELD, E_wNOT_HELD, S_wFALSE, E_wFALSE, F_ordinal_wUNKNOWN, F_ordinal_wTRUE, F_ordinal_wFALSE, F_truth_wHELD, F_truth_wNOT_HELD, M_wMT, S_wCS, N_wCS⟩ := hS0
  obtain ⟨T1, X1, e1, st1⟩ := initO X0 hx hZ hown (ow hw 15 rfl) (ow hw 16 rfl) (ow hw 17 rfl) e0 (g := (mkF m 1 #[(vr pa1), (vr pa2), (vi 0), (vi 1), .val .null, .unset] [(.ref pa1)])) rfl (by rw [hml]; rfl) rfl (hb hby d3_1) (by decide) (W := 0) (by show 2 * 0 + _ ≤ _; exact Nat.le_of_eq rfl) (by decide)
  obtain ⟨T2, X2, e2, st2⟩ := getS2 X1 hx hZ hown (host := "") (Or.inl (ow hw 29 rfl)) Via.refl e1 (S_wCS.ext O0.2) (g := (mkF m 27 #[(vr pa1), (vr pa2), (vi 0), (vi 1), .val .null, .unset] [])) rfl (hb hby d3_27)
  obtain ⟨_, _, ⟨T3, L3, k3, n3⟩, -, X3, ⟨Lc3, hQ3, l3, y3, z3⟩, st3⟩ := Jvm.LawKit.callS X2 hx (y := M17) hown (mvT hZ (ow hw 105 rfl)) (mvT hZ (ow hw 106 rfl)) (mvT hZ (ow hw 107 rfl)) (mvT hZ (ow hw 108 rfl)) (by decide) (backOf (W := 0) (au17_0 l Z a0 hw [] wUNKNOWN wHELD wTRUE wNOT_HELD wFALSE wMT wCS hS pa2 pk3 pi4 h0 n0 O0 P3 P5) hZ (ow hw 108 rfl) (ow hw 107 rfl) (by decide) (by decide)) (g := (mkF m 36 #[(vr pa1), (vr pa2), (vi 0), (vi 1), .val .null, .unset] [(.int 1), (.int 0), (.ref pa2)])) rfl (by rw [hml]; rfl) (argsL := [(.ref pa2), (.int 0), (.int 1)]) (rest := []) (lenOf pd_16 rfl) rfl (by show 2 * 0 + _ ≤ _; exact Nat.le_of_eq rfl) (hb hby d3_36) (fun _ _ => ⟨rfl, e2, (by decide : 0 + 1 ≤ _), (by decide : 0 + 1 ≤ _)⟩)
  dsimp only [Pt.U, Pt.locs, Pt.cells, Pt.slots] at X3 l3 y3 z3 st3 hQ3
  subst y3 z3
  obtain ⟨e1_3, e2_3, rfl, Nq3, K3q, p3_0, p3_1, p3_2⟩ := hQ3
  have N3 : Fr n0 L3 := (congrArg (Fr n0) l3).mpr (Fr.app N0 Nq3)
  have ne4 : pa1 ≠ e1_3 := Nat.ne_of_lt (Nat.lt_of_lt_of_le P0.lt p3_0)
  have ne5 : pa2 ≠ e1_3 := Nat.ne_of_lt (Nat.lt_of_lt_of_le P3.lt p3_0)
  have g6 : n0 ≤ e1_3 := Nat.le_trans (own_sz O0) p3_0
  have sz7 : h0.size ≤ e1_3 := Nat.le_trans K0.1 p3_0
  have O8 : Old Z n0 T3.heap := O0.keep K3q all0
  have K8 : Keep h0 T3.heap [pa1] := K0.trans K3q all0
  obtain ⟨_, _, ⟨T9, L9, k9, n9⟩, -, X9, ⟨Lc9, hQ9, l9, y9, z9⟩, st9⟩ := Jvm.LawKit.callS X3 hx (y := M18) hown (mvT hZ (ow hw 112 rfl)) (mvT hZ (ow hw 113 rfl)) (mvT hZ (ow hw 107 rfl)) (mvT hZ (ow hw 114 rfl)) (by decide) (backOf (W := 1) (au19_0 l Z a0 hw [] wUNKNOWN wHELD wTRUE wNOT_HELD wFALSE wMT wCS hS e1_3 e2_3 (nar .byte (pi4.toInt8.toInt32)) T3.heap n0 O8 p3_2) hZ (ow hw 114 rfl) (ow hw 107 rfl) (by decide) (by decide)) (g := (mkF m 45 #[(vr pa1), (vr pa2), (vi 0), (vi 1), .val .null, (vr e1_3)] [(.int 1), (.ref e1_3), (.ref pa1)])) rfl (by rw [hml]; rfl) (argsL := [(.ref e1_3), (.int 1)]) (rest := [(.ref pa1)]) (lenOf pd_17 rfl) rfl (by show 2 * 0 + _ ≤ _; exact Nat.le_of_eq rfl) (hb hby d3_45) (fun _ _ => ⟨rfl, rfl, (by decide : 1 + 0 ≤ _), (by decide : 1 + 0 ≤ _)⟩)
  dsimp only [Pt.U, Pt.locs, Pt.cells, Pt.slots] at X9 l9 y9 z9 st9 hQ9
  subst y9 z9
  obtain ⟨rfl, Nq9, K9q⟩ := hQ9
  have N9 : Fr n0 L9 := (congrArg (Fr n0) l9).mpr (Fr.app N3 Nq9)
  have f10 : Exa Z T3.heap pa1 s0n := (P0.keep K3q)
  have f11 : Fld Z T3.heap pa1 s0n "coder" "B" (.int 0) := (P1.keep K3q nin0)
  obtain ⟨T12, h12, X12, e12, W12, st12⟩ := putFN X9 hx hZ hown (ow hw 25 rfl) Via.refl K9q f11 f10 (Or.inr ⟨(ow hw 21 rfl), rfl, hnm⟩) (ow hw 5 rfl) (ty := .byte) (v' := (.int 0)) (by decide) rfl rfl (g := (mkF m 48 #[(vr pa1), (vr pa2), (vi 0), (vi 1), .val .null, (vr e1_3)] [(.int 0), (.ref pa1)])) rfl rfl (hb hby d3_48)
  have N12 := Fr.snoc X12 N9 P6
  have O13 : Old Z n0 h12 := O8.wr W12 P6
  have K13 : Keep h0 h12 [pa1] := K8.wr W12 (Or.inl (List.mem_of_getElem? (i := 0) rfl))
  have Fw12 : Fld Z h12 pa1 s0n "coder" "B" (.int 0) := f11.same W12
  have f14 : Exa Z h12 pa1 s0n := (f10.wr W12)
  have f15 : Fld Z h12 pa1 s0n "value" "[B" .null := ((P2.keep K3q nin0).other W12 (Or.inr (slot_ne (Or.inr (ow hw 20 rfl)) (Or.inr (ow hw 21 rfl)) (by decide) (t := (.array .byte)) (t' := .byte) (by decide) (by decide))))
  obtain ⟨T16, h16, X16, e16, W16, st16⟩ := putF X12 hx hZ hown (host := "") (Or.inl (ow hw 24 rfl)) Via.refl e12 f15 f14 (Or.inr ⟨(ow hw 20 rfl), rfl, hnm⟩) (ow hw 5 rfl) (ty := (.array .byte)) (by decide) rfl rfl (g := (mkF m 54 #[(vr pa1), (vr pa2), (vi 0), (vi 1), .val .null, (vr e1_3)] [(.ref e1_3), (.ref pa1)])) rfl rfl (hb hby d3_54)
  have N16 := Fr.snoc X16 N12 P6
  have O17 : Old Z n0 h16 := O13.wr W16 P6
  have K17 : Keep h0 h16 [pa1] := K13.wr W16 (Or.inl (List.mem_of_getElem? (i := 0) rfl))
  have Fw16 : Fld Z h16 pa1 s0n "value" "[B" (.ref e1_3) := f15.same W16
  have f18 : Exa Z h16 pa1 s0n := (f14.wr W16)
  obtain ⟨fs, hr, hrun, hended, hW, hsame⟩ := X16.leave (v := none) (fun _ => rfl)
  refine ⟨_, _, pre0 _ ?_, hrun, hended, _, _, rfl, ?_, ⟨_, rfl⟩, hW, hsame.mono (by decide) (by decide)⟩
  · skip
    show Steps p.tables e below (s₁.setTop (mkF m 0 #[(vr pa1), (vr pa2), (vi 0), (vi 1), .val .null, .unset] [])) _
    refine XS.aloadN X0.here hx rfl (hb hby d3_0) rfl rfl ?_
    refine st1 _ ?_
    refine XS.iloadN X1.here hx rfl (hb hby d3_4) rfl ?_
    refine XS.ifYes X1.here hx rfl (pc0 := 5) (pc' := 27) rfl (hb hby d3_5) rfl ((if0 _ _).trans (feq (by decide : ¬ ((1 : Int32) = (0 : Int32)))).2) (by decide) (by decide) ?_
    refine st2 _ ?_
    refine XS.ifNo X2.here hx rfl (hb hby d3_30) rfl ((if0 _ _).trans (feq (N_wCS : ¬ (wCS = (0 : Int32)))).1) ?_
    refine XS.aloadN X2.here hx rfl (hb hby d3_33) rfl rfl ?_
    refine XS.iloadN X2.here hx rfl (hb hby d3_34) rfl ?_
    show Steps p.tables e below (T2.setTop (mkF m 35 #[(vr pa1), (vr pa2), (vi 0), (vi 1), .val .null, .unset] [(.int 0), (.ref pa2)])) _
    refine XS.iloadN X2.here hx rfl (hb hby d3_35) rfl ?_
    refine st3 _ ?_
    refine XS.astore X3.here hx rfl (hb hby d3_39) rfl rfl (l' := #[(vr pa1), (vr pa2), (vi 0), (vi 1), .val .null, (vr e1_3)]) rfl ?_
    refine XS.aloadN X3.here hx rfl (hb hby d3_41) rfl rfl ?_
    refine XS.aload X3.here hx rfl (hb hby d3_42) rfl rfl ?_
    refine XS.iloadN X3.here hx rfl (hb hby d3_44) rfl ?_
    refine st9 _ ?_
    refine st12 _ ?_
    show Steps p.tables e below (T12.setTop (mkF m 51 #[(vr pa1), (vr pa2), (vi 0), (vi 1), .val .null, (vr e1_3)] [])) _
    refine XS.aloadN X12.here hx rfl (hb hby d3_51) rfl rfl ?_
    refine XS.aload X12.here hx rfl (hb hby d3_52) rfl rfl ?_
    refine st16 _ ?_
    exact X16.returnOut hx hret0 (hb hby d3_57) hr
  · show Q_au3_1 Z wUNKNOWN wHELD wTRUE wNOT_HELD wFALSE wMT wCS pa1 pa2 pk3 pi4 h0 n0 _ T16.heap _
    rw [e16]
    exact ⟨rfl, N16, K17, f18⟩
def Q_au2_1 (Z : State) (wUNKNOWN : Addr) (wHELD : Addr) (wTRUE : Addr) (wNOT_HELD : Addr) (wFALSE : Addr) (wMT : Addr) (wCS : Int32) (pa1 : Addr) (pa2 : Addr) (pk3 : ClassId) (pi4 : Int32) (h0 : Heap) (n0 : Nat) (v : Option Value) (h : Heap) (L : List Loc) : Prop := v = none ∧ Fr n0 L ∧ Keep h0 h [pa1] ∧ Exa Z h pa1 s0n
theorem au2_1 (l : Launch) (Z : State) (a0 : Array Value) (hw : ∀ d ∈ tables_1, d.before a0 Z = true) (ws : List Jvm.Cond) (wUNKNOWN : Addr) (wHELD : Addr) (wTRUE : Addr) (wNOT_HELD : Addr) (wFALSE : Addr) (wMT : Addr) (wCS : Int32) (hS : SS Z wUNKNOWN wHELD wTRUE wNOT_HELD wFALSE wMT wCS) (pa1 : Addr) (pa2 : Addr) (pk3 : ClassId) (pi4 : Int32) (h0 : Heap) (n0 : Nat) (O0 : Old Z n0 h0) (P0 : Exa Z h0 pa1 s0n) (P1 : Fld Z h0 pa1 s0n "coder" "B" (.int 0)) (P2 : Fld Z h0 pa1 s0n "value" "[B" .null) (P3 : Arv Z h0 pa2 pk3 .char (1 : Int32) ([(.int pi4)]) (.int 0)) (P5 : ¬ (255 : Int32) < pi4) (P6 : n0 ≤ pa1) :
    MetB l M1 jdk_42_method_3_code 2 none ws (rmk 3 1 1 52) Z h0 #[(.ref pa1), (.ref pa2)] (Q_au2_1 Z wUNKNOWN wHELD wTRUE wNOT_HELD wFALSE wMT wCS pa1 pa2 pk3 pi4 h0 n0) := by
  refine own_body (plainFor_of_name pn_java_lang_String) ?_
  intro p e s m below meth c s₁ hx hby hml hown hnm hret0 hlk0 hZ X0 e0
  have N0 := Fr.nil n0
  have pre0 : ∀ t, Steps p.tables e below (s₁.setTop (mkF m 0 #[(vr pa1), (vr pa2)] [])) t → Steps p.tables e below (s₁.setTop (entryFrame m #[(.ref pa1), (.ref pa2)] 2)) t := fun t k => castTop (ef_au2_1 m pa1 pa2) k
  have K0 := Keep.refl h0 [pa1]
  have hS0 := hS
  obtain ⟨S_wUNKNOWN, E_wUNKNOWN, S_wHELD, E_wHELD, S_wTRUE, E_wTRUE, S_wNOT_HELD, E_wNOT_HELD, S_wFALSE, E_wFALSE, F_ordinal_wUNKNOWN, F_ordinal_wTRUE, F_ordinal_wFALSE, F_truth_wHELD, F_truth_wNOT_HELD, M_wMT, S_wCS, N_wCS⟩ := hS0
  obtain ⟨cl1, Ar1, -, Sz1, Nn1, -, -⟩ := (id P3)
  obtain ⟨_, _, ⟨T2, L2, k2, n2⟩, -, X2, ⟨Lc2, hQ2, l2, y2, z2⟩, st2⟩ := X0.specialBack hx (y := M0) rfl hown (mvT hZ (ow hw 11 rfl)) (mvT hZ (ow hw 12 rfl)) (mvT hZ (ow hw 14 rfl)) (by decide) (backOf (W := 0) (au3_1 l Z a0 hw [] wUNKNOWN wHELD wTRUE wNOT_HELD wFALSE wMT wCS hS pa1 pa2 pk3 pi4 h0 n0 O0 P0 P1 P2 P3 P5 P6) hZ (ow hw 14 rfl) (ow hw 6 rfl) (by decide) (by decide)) (g := (mkF m 6 #[(vr pa1), (vr pa2)] [.null, (.int 1), (.int 0), (.ref pa2), (.ref pa1)])) rfl (by rw [hml]; rfl) (Steps.refl _) (a := pa1) (argsL := [(.ref pa2), (.int 0), (.int 1), .null]) (rest := []) (lenOf pd_0 rfl) rfl (by show 2 * 0 + _ ≤ _; exact Nat.le_of_eq rfl) (hb hby d2_6) (fun _ _ => ⟨rfl, e0, (by decide : 0 + 1 ≤ _), (by decide : 0 + 1 ≤ _)⟩)
  dsimp only [Pt.U, Pt.locs, Pt.cells, Pt.slots] at X2 l2 y2 z2 st2 hQ2
  subst y2 z2
  obtain ⟨rfl, Nq2, K2q, p2_0⟩ := hQ2
  have N2 : Fr n0 L2 := (congrArg (Fr n0) l2).mpr (Fr.app N0 Nq2)
  have O3 : Old Z n0 T2.heap := O0.keep K2q (allS P6 all0)
  have K3 : Keep h0 T2.heap [pa1] := K0.trans K2q (allS (Or.inl (List.mem_of_getElem? (i := 0) rfl)) all0)
  obtain ⟨fs, hr, hrun, hended, hW, hsame⟩ := X2.leave (v := none) (fun _ => rfl)
  refine ⟨_, _, pre0 _ ?_, hrun, hended, _, _, rfl, ?_, ⟨_, rfl⟩, hW, hsame.mono (by decide) (by decide)⟩
  · skip
    show Steps p.tables e below (s₁.setTop (mkF m 0 #[(vr pa1), (vr pa2)] [])) _
    refine XS.aloadN X0.here hx rfl (hb hby d2_0) rfl rfl ?_
    refine XS.aloadN X0.here hx rfl (hb hby d2_1) rfl rfl ?_
    refine XS.iconst X0.here hx rfl (hb hby d2_2) ?_
    refine XS.aloadN X0.here hx rfl (hb hby d2_3) rfl rfl ?_
    refine X0.arraylength hx (by rw [e0]; exact Ar1.1) (State.isArrayOf_alike hZ.alike Ar1.2.1) (g := (mkF m 4 #[(vr pa1), (vr pa2)] [(.ref pa2), (.int 0), (.ref pa2), (.ref pa1)])) rfl rfl (hb hby d2_4) _ ?_
    rw [len_of Sz1 Nn1]
    refine XS.aconstNull X0.here hx rfl (hb hby d2_5) ?_
    refine st2.trans ?_
    exact X2.returnOut hx hret0 (hb hby d2_9) hr
  · show Q_au2_1 Z wUNKNOWN wHELD wTRUE wNOT_HELD wFALSE wMT wCS pa1 pa2 pk3 pi4 h0 n0 _ T2.heap _
    exact ⟨rfl, N2, K3, p2_0⟩
theorem d1_59 : decode method_2_code 59 = .ok (.areturn, 1) := by decide +kernel
def Q_au1_1 (Z : State) (wUNKNOWN : Addr) (wHELD : Addr) (wTRUE : Addr) (wNOT_HELD : Addr) (wFALSE : Addr) (wMT : Addr) (wCS : Int32) (pi1 : Int32) (pi2 : Int32) (pi3 : Int32) (h0 : Heap) (n0 : Nat) (v : Option Value) (h : Heap) (L : List Loc) : Prop := ∃ (e1 : Addr), v = some (.ref e1) ∧ Fr n0 L ∧ Keep h0 h [] ∧ h0.size ≤ e1 ∧ Exa Z h e1 s0n
theorem au1_1 (l : Launch) (Z : State) (a0 : Array Value) (hw : ∀ d ∈ tables_1, d.before a0 Z = true) (ws : List Jvm.Cond) (wUNKNOWN : Addr) (wHELD : Addr) (wTRUE : Addr) (wNOT_HELD : Addr) (wFALSE : Addr) (wMT : Addr) (wCS : Int32) (hS : SS Z wUNKNOWN wHELD wTRUE wNOT_HELD wFALSE wMT wCS) (pi1 : Int32) (pi2 : Int32) (pi3 : Int32) (h0 : Heap) (n0 : Nat) (O0 : Old Z n0 h0)  :
    MetB l M2 method_2_code 7 (some (.object s0n)) ws (rmk 4 3 6 66) Z h0 #[(.int 1), (.int pi1), (.int pi2), (.int pi3)] (Q_au1_1 Z wUNKNOWN wHELD wTRUE wNOT_HELD wFALSE wMT wCS pi1 pi2 pi3 h0 n0) := by
  refine own_body (plainFor_of_name pn_com_example_tuplecraft_tuplecraft_GrantUnknownPinLaw) ?_
  intro p e s m below meth c s₁ hx hby hml hown hnm hret0 hlk0 hZ X0 e0
  have N0 := Fr.nil n0
  have pre0 : ∀ t, Steps p.tables e below (s₁.setTop (mkF m 0 #[(vi 1), (vi pi1), (vi pi2), (vi pi3), .unset, .unset, .unset] [])) t → Steps p.tables e below (s₁.setTop (entryFrame m #[(.int 1), (.int pi1), (.int pi2), (.int pi3)] 7)) t := fun t k => castTop (ef_au1_1 m (1 : Int32) pi1 pi2 pi3) k
  have K0 := Keep.refl h0 []
  have hS0 := hS
  obtain ⟨S_wUNKNOWN, E_wUNKNOWN, S_wHELD, E_wHELD, S_wTRUE, E_wTRUE, S_wNOT_HELD, E_wNOT_HELD, S_wFALSE, E_wFALSE, F_ordinal_wUNKNOWN, F_ordinal_wTRUE, F_ordinal_wFALSE, F_truth_wHELD, F_truth_wNOT_HELD, M_wMT, S_wCS, N_wCS⟩ := hS0
  obtain ⟨ca, hca⟩ : ∃ z : Int32, z = ((pi1 &&& (255 : Int32)).toUInt32.toUInt16.toUInt32.toInt32) := ⟨_, rfl⟩
  have pre1 : ∀ t, Steps p.tables e below (s₁.setTop (mkF m 8 #[(vi 1), (vi pi1), (vi pi2), (vi pi3), (vi ca), .unset, .unset] [])) t → Steps p.tables e below (s₁.setTop (entryFrame m #[(.int 1), (.int pi1), (.int pi2), (.int pi3)] 7)) t := by
    intro t k
    rw [hca] at k
    refine pre0 t ?_
    show Steps p.tables e below (s₁.setTop (mkF m 0 #[(vi 1), (vi pi1), (vi pi2), (vi pi3), .unset, .unset, .unset] [])) _
    refine XS.iloadN X0.here hx rfl (hb hby d1_0) rfl ?_
    refine XS.sipush X0.here hx rfl (hb hby d1_1) ?_
    refine XS.iand X0.here hx rfl (hb hby d1_4) rfl ?_
    refine XS.i2c X0.here hx rfl (hb hby d1_5) rfl ?_
    refine XS.istore X0.here hx rfl (hb hby d1_6) rfl (l' := #[(vi 1), (vi pi1), (vi pi2), (vi pi3), .val (.int ((pi1 &&& (255 : Int32)).toUInt32.toUInt16.toUInt32.toInt32)), .unset, .unset]) rfl ?_
    exact k
  have hnca := own_chr hca
  have h255ca : ¬ (255 : Int32) < ca := hnca.1
  obtain ⟨cb, hcb⟩ : ∃ z : Int32, z = ((pi2 &&& (255 : Int32)).toUInt32.toUInt16.toUInt32.toInt32) := ⟨_, rfl⟩
  have pre2 : ∀ t, Steps p.tables e below (s₁.setTop (mkF m 16 #[(vi 1), (vi pi1), (vi pi2), (vi pi3), (vi ca), (vi cb), .unset] [])) t → Steps p.tables e below (s₁.setTop (entryFrame m #[(.int 1), (.int pi1), (.int pi2), (.int pi3)] 7)) t := by
    intro t k
    rw [hcb] at k
    refine pre1 t ?_
    show Steps p.tables e below (s₁.setTop (mkF m 8 #[(vi 1), (vi pi1), (vi pi2), (vi pi3), (vi ca), .unset, .unset] [])) _
    refine XS.iloadN X0.here hx rfl (hb hby d1_8) rfl ?_
    refine XS.sipush X0.here hx rfl (hb hby d1_9) ?_
    refine XS.iand X0.here hx rfl (hb hby d1_12) rfl ?_
    refine XS.i2c X0.here hx rfl (hb hby d1_13) rfl ?_
    refine XS.istore X0.here hx rfl (hb hby d1_14) rfl (l' := #[(vi 1), (vi pi1), (vi pi2), (vi pi3), (vi ca), .val (.int ((pi2 &&& (255 : Int32)).toUInt32.toUInt16.toUInt32.toInt32)), .unset]) rfl ?_
    exact k
  have hncb := own_chr hcb
  have h255cb : ¬ (255 : Int32) < cb := hncb.1
  obtain ⟨cc, hcc⟩ : ∃ z : Int32, z = ((pi3 &&& (255 : Int32)).toUInt32.toUInt16.toUInt32.toInt32) := ⟨_, rfl⟩
  have pre3 : ∀ t, Steps p.tables e below (s₁.setTop (mkF m 24 #[(vi 1), (vi pi1), (vi pi2), (vi pi3), (vi ca), (vi cb), (vi cc)] [])) t → Steps p.tables e below (s₁.setTop (entryFrame m #[(.int 1), (.int pi1), (.int pi2), (.int pi3)] 7)) t := by
    intro t k
    rw [hcc] at k
    refine pre2 t ?_
    show Steps p.tables e below (s₁.setTop (mkF m 16 #[(vi 1), (vi pi1), (vi pi2), (vi pi3), (vi ca), (vi cb), .unset] [])) _
    refine XS.iloadN X0.here hx rfl (hb hby d1_16) rfl ?_
    refine XS.sipush X0.here hx rfl (hb hby d1_17) ?_
    refine XS.iand X0.here hx rfl (hb hby d1_20) rfl ?_
    refine XS.i2c X0.here hx rfl (hb hby d1_21) rfl ?_
    refine XS.istore X0.here hx rfl (hb hby d1_22) rfl (l' := #[(vi 1), (vi pi1), (vi pi2), (vi pi3), (vi ca), (vi cb), .val (.int ((pi3 &&& (255 : Int32)).toUInt32.toUInt16.toUInt32.toInt32))]) rfl ?_
    exact k
  have hncc := own_chr hcc
  have h255cc : ¬ (255 : Int32) < cc := hncc.1
  obtain ⟨T4, h4, X4, e4, E4, A4, D4, -, st4⟩ := newO X0 hx hZ hown (ow hw 4 rfl) (ow hw 5 rfl) (ow hw 6 rfl) e0 (g := (mkF m 44 #[(vi 1), (vi pi1), (vi pi2), (vi pi3), (vi ca), (vi cb), (vi cc)] [])) rfl (hb hby d1_44) (by decide) (by decide)
  obtain ⟨b4, g4⟩ : ∃ z, z = h0.size := ⟨_, rfl⟩
  rw [← g4] at A4 D4 st4
  have g5 : n0 ≤ b4 := Nat.le_trans (own_sz O0) (Nat.le_of_eq g4.symm)
  have sz6 : h0.size ≤ b4 := Nat.le_trans K0.1 (Nat.le_of_eq g4.symm)
  have O7 : Old Z n0 h4 := O0.ext E4
  have K7 : Keep h0 h4 [] := K0.ext E4
  have f8 : Fld Z h4 b4 s0n "value" "[B" .null := D4 (Or.inr (ow hw 20 rfl)) (ty := (.array .byte)) (by decide)
  have f9 : Fld Z h4 b4 s0n "coder" "B" (.int 0) := D4 (Or.inr (ow hw 21 rfl)) (ty := .byte) (by decide)
  obtain ⟨T10, h10, k10, X10, e10, E10, A10, Z10, st10⟩ := newPE X4 hx hZ (ow hw 7 rfl) e4 (g := (mkF m 49 #[(vi 1), (vi pi1), (vi pi2), (vi pi3), (vi ca), (vi cb), (vi cc)] [(.int 1), (.ref b4), (.ref b4)])) rfl (hb hby d1_49) rfl (by decide) (cap := 1) (by decide) (by decide) (by decide) (by decide) (ad := "[C") rfl
  obtain ⟨b10, g10⟩ : ∃ z, z = h4.size := ⟨_, rfl⟩
  rw [← g10] at A10 Z10 st10
  have ne11 : b4 ≠ b10 := Nat.ne_of_lt (Nat.lt_of_lt_of_le A4.lt (Nat.le_of_eq g10.symm))
  have g12 : n0 ≤ b10 := Nat.le_trans (own_sz O7) (Nat.le_of_eq g10.symm)
  have sz13 : h0.size ≤ b10 := Nat.le_trans K7.1 (Nat.le_of_eq g10.symm)
  have O14 : Old Z n0 h10 := O7.ext E10
  have K14 : Keep h0 h10 [] := K7.ext E10
  have V10 : Arv Z h10 b10 k10 .char (1 : Int32) ([(.int 0)]) (.int 0) := (Arv.new A10 (by decide)).pad (pad_rep [] (.int 0) 1)
  obtain ⟨cl15, Ar15, qc15, Sz15, Nn15, Ha15, Gg15⟩ := (id V10)
  have hin15 : ¬ ((0 : Int32) < 0 ∨ cl15.slots.size ≤ ((0 : Int32)).toNatClampNeg) := inb_of Sz15 ⟨by decide, by decide⟩
  obtain ⟨T15, h15, X15, e15, W15, st15⟩ := stC X10 hx hZ e10 Ar15 (j := (0 : Int32)) hin15 (g := (mkF m 55 #[(vi 1), (vi pi1), (vi pi2), (vi pi3), (vi ca), (vi cb), (vi cc)] [(.int ca), (.int 0), (.ref b10), (.ref b10), (.ref b4), (.ref b4)])) rfl rfl (hb hby d1_55)
  have O16 : Old Z n0 h15 := O14.wr W15 g12
  have K16 : Keep h0 h15 [] := K14.wr W15 (Or.inr sz13)
  have V15 : Arv Z h15 b10 k10 .char (1 : Int32) ([(.int ca)]) (.int 0) := own_cast (by rw [hnca.2]; rfl) (Arv.set Ar15 qc15 Sz15 Nn15 Ha15 Gg15 (v := (.int (nar .char ca))) (fits_nar_char _) W15 0 rfl (Nat.le_of_ble_eq_true rfl))
  have N15 := Fr.snoc X15 N0 g12
  have f17 : Exa Z h15 b4 s0n := ((A4.ext E10).wr W15)
  have f18 : Fld Z h15 b4 s0n "coder" "B" (.int 0) := ((f9.ext E10).other W15 (Or.inl ne11))
  have f19 : Fld Z h15 b4 s0n "value" "[B" .null := ((f8.ext E10).other W15 (Or.inl ne11))
  obtain ⟨_, _, ⟨T20, L20, k20, n20⟩, -, X20, ⟨Lc20, hQ20, l20, y20, z20⟩, st20⟩ := X15.specialBack hx (y := M1) rfl hown (mvT hZ (ow hw 8 rfl)) (mvT hZ (ow hw 9 rfl)) (mvT hZ (ow hw 10 rfl)) (by decide) (backOf (W := 1) (au2_1 l Z a0 hw [] wUNKNOWN wHELD wTRUE wNOT_HELD wFALSE wMT wCS hS b4 b10 k10 ca h15 n0 O16 f17 f18 f19 V15 h255ca g5) hZ (ow hw 10 rfl) (ow hw 6 rfl) (by decide) (by decide)) (g := (mkF m 56 #[(vi 1), (vi pi1), (vi pi2), (vi pi3), (vi ca), (vi cb), (vi cc)] [(.ref b10), (.ref b4), (.ref b4)])) rfl (by rw [hml]; rfl) (Steps.refl _) (a := b4) (argsL := [(.ref b10)]) (rest := [(.ref b4)]) (lenOf pd_1 rfl) rfl (by show 2 * 0 + _ ≤ _; exact Nat.le_of_eq rfl) (hb hby d1_56) (fun _ _ => ⟨rfl, e15, (by decide : 2 + 1 ≤ _), (by decide : 5 + 1 ≤ _)⟩)
  dsimp only [Pt.U, Pt.locs, Pt.cells, Pt.slots] at X20 l20 y20 z20 st20 hQ20
  subst y20 z20
  obtain ⟨rfl, Nq20, K20q, p20_0⟩ := hQ20
  have N20 : Fr n0 L20 := (congrArg (Fr n0) l20).mpr (Fr.app N15 Nq20)
  have O21 : Old Z n0 T20.heap := O16.keep K20q (allS g5 all0)
  have K21 : Keep h0 T20.heap [] := K16.trans K20q (allS (Or.inr sz6) all0)
  obtain ⟨fs, hr, hrun, hended, hW, hsame⟩ := X20.leave (v := some (.ref b4)) (fun h => by rw [hret0] at h; cases h)
  refine ⟨_, _, pre3 _ ?_, hrun, hended, _, _, rfl, ?_, ⟨_, rfl⟩, hW, hsame.mono (by decide) (by decide)⟩
  · skip
    show Steps p.tables e below (s₁.setTop (mkF m 24 #[(vi 1), (vi pi1), (vi pi2), (vi pi3), (vi ca), (vi cb), (vi cc)] [])) _
    refine XS.iloadN X0.here hx rfl (hb hby d1_24) rfl ?_
    refine XS.ifYes X0.here hx rfl (pc0 := 25) (pc' := 39) rfl (hb hby d1_25) rfl ((if0 _ _).trans (feq (by decide : ¬ ((1 : Int32) = (0 : Int32)))).2) (by decide) (by decide) ?_
    refine XS.iloadN X0.here hx rfl (hb hby d1_39) rfl ?_
    refine XS.iconst X0.here hx rfl (hb hby d1_40) ?_
    refine XS.icmpNo X0.here hx rfl (hb hby d1_41) rfl (teq (by decide : (1 : Int32) = (1 : Int32))).2 ?_
    refine st4 _ ?_
    refine XS.dup X4.here hx rfl (hb hby d1_47) rfl rfl ?_
    refine XS.iconst X4.here hx rfl (hb hby d1_48) ?_
    show Steps p.tables e below (T4.setTop (mkF m 49 #[(vi 1), (vi pi1), (vi pi2), (vi pi3), (vi ca), (vi cb), (vi cc)] [(.int 1), (.ref b4), (.ref b4)])) _
    refine st10 _ ?_
    refine XS.dup X10.here hx rfl (hb hby d1_51) rfl rfl ?_
    refine XS.iconst X10.here hx rfl (hb hby d1_52) ?_
    refine XS.iload X10.here hx rfl (hb hby d1_53) rfl ?_
    refine st15 _ ?_
    refine st20.trans ?_
    jvm_step X20.here [X20.here.top, hx, (hb hby d1_59), X20.method', hret0, Value.isRef, FieldType.isReference]
    first | (intro acts; rw [hr _ acts rfl rfl rfl]) | rw [hr _ _ rfl rfl rfl]
    exact Steps.refl _
  · show Q_au1_1 Z wUNKNOWN wHELD wTRUE wNOT_HELD wFALSE wMT wCS pi1 pi2 pi3 h0 n0 _ T20.heap _
    exact ⟨b4, rfl, N20, K21, sz6, p20_0⟩
theorem ef_au1_2 (m : MethodId) (x0 : Int32) (x1 : Int32) (x2 : Int32) (x3 : Int32)  : entryFrame m #[(.int x0), (.int x1), (.int x2), (.int x3)] 7 = mkF m 0 #[(vi x0), (vi x1), (vi x2), (vi x3), .unset, .unset, .unset] [] := by first | (simp [entryFrame, mkF, argsToLocals, Value.category]; done) | rfl
theorem d1_60 : decode method_2_code 60 = .ok (.iload_n 0, 1) := by decide +kernel
theorem d1_61 : decode method_2_code 61 = .ok (.iconst 2, 1) := by decide +kernel
theorem d1_62 : decode method_2_code 62 = .ok (.if_icmp .ne 24, 3) := by decide +kernel
theorem d1_65 : decode method_2_code 65 = .ok (.new 7, 3) := by decide +kernel
theorem d1_68 : decode method_2_code 68 = .ok (.dup, 1) := by decide +kernel
theorem d1_69 : decode method_2_code 69 = .ok (.iconst 2, 1) := by decide +kernel
theorem d1_70 : decode method_2_code 70 = .ok (.newarray .char, 2) := by decide +kernel
theorem d1_72 : decode method_2_code 72 = .ok (.dup, 1) := by decide +kernel
theorem d1_73 : decode method_2_code 73 = .ok (.iconst 0, 1) := by decide +kernel
theorem d1_74 : decode method_2_code 74 = .ok (.iload 4, 2) := by decide +kernel
theorem d1_76 : decode method_2_code 76 = .ok (.castore, 1) := by decide +kernel
theorem d1_77 : decode method_2_code 77 = .ok (.dup, 1) := by decide +kernel
theorem d1_78 : decode method_2_code 78 = .ok (.iconst 1, 1) := by decide +kernel
theorem d1_79 : decode method_2_code 79 = .ok (.iload 5, 2) := by decide +kernel
theorem d1_81 : decode method_2_code 81 = .ok (.castore, 1) := by decide +kernel
theorem d1_82 : decode method_2_code 82 = .ok (.invokespecial 9, 3) := by decide +kernel
theorem ef_au2_2 (m : MethodId) (x0 : Addr) (x1 : Addr)  : entryFrame m #[(.ref x0), (.ref x1)] 2 = mkF m 0 #[(vr x0), (vr x1)] [] := by first | (simp [entryFrame, mkF, argsToLocals, Value.category]; done) | rfl
theorem ef_au3_2 (m : MethodId) (x0 : Addr) (x1 : Addr) (x2 : Int32) (x3 : Int32)  : entryFrame m #[(.ref x0), (.ref x1), (.int x2), (.int x3), .null] 6 = mkF m 0 #[(vr x0), (vr x1), (vi x2), (vi x3), .val .null, .unset] [] := by first | (simp [entryFrame, mkF, argsToLocals, Value.category]; done) | rfl
theorem ef_au17_1 (m : MethodId) (x0 : Addr) (x1 : Int32) (x2 : Int32)  : entryFrame m #[(.ref x0), (.int x1), (.int x2)] 6 = mkF m 0 #[(vr x0), (vi x1), (vi x2), .unset, .unset, .unset] [] := by first | (simp [entryFrame, mkF, argsToLocals, Value.category]; done) | rfl
theorem ef_au18_1 (m : MethodId) (x0 : Addr) (x1 : Int32) (x2 : Addr) (x3 : Int32) (x4 : Int32)  : entryFrame m #[(.ref x0), (.int x1), (.ref x2), (.int x3), (.int x4)] 7 = mkF m 0 #[(vr x0), (vi x1), (vr x2), (vi x3), (vi x4), .unset, .unset] [] := by first | (simp [entryFrame, mkF, argsToLocals, Value.category]; done) | rfl
def Q_au18_1 (Z : State) (wUNKNOWN : Addr) (wHELD : Addr) (wTRUE : Addr) (wNOT_HELD : Addr) (wFALSE : Addr) (wMT : Addr) (wCS : Int32) (pa1 : Addr) (pa2 : Addr) (pk3 : ClassId) (pi4 : Int32) (pi5 : Int32) (pk6 : ClassId) (h0 : Heap) (n0 : Nat) (v : Option Value) (h : Heap) (L : List Loc) : Prop := v = some (.int 2) ∧ Fr n0 L ∧ Keep h0 h [pa2] ∧ Exa Z h pa2 "[B" ∧ Arv Z h pa2 pk6 .byte (2 : Int32) ([(.int (nar .byte (pi4.toInt8.toInt32))), (.int (nar .byte (pi5.toInt8.toInt32)))]) (.int 0)
theorem au18_1 (l : Launch) (Z : State) (a0 : Array Value) (hw : ∀ d ∈ tables_1, d.before a0 Z = true) (ws : List Jvm.Cond) (wUNKNOWN : Addr) (wHELD : Addr) (wTRUE : Addr) (wNOT_HELD : Addr) (wFALSE : Addr) (wMT : Addr) (wCS : Int32) (hS : SS Z wUNKNOWN wHELD wTRUE wNOT_HELD wFALSE wMT wCS) (pa1 : Addr) (pa2 : Addr) (pk3 : ClassId) (pi4 : Int32) (pi5 : Int32) (pk6 : ClassId) (h0 : Heap) (n0 : Nat) (O0 : Old Z n0 h0) (P0 : Arv Z h0 pa1 pk3 .char (2 : Int32) ([(.int pi4), (.int pi5)]) (.int 0)) (P2 : Arv Z h0 pa2 pk6 .byte (2 : Int32) ([(.int 0), (.int 0)]) (.int 0)) (P3 : Exa Z h0 pa2 "[B") (P4 : ¬ (255 : Int32) < pi4) (P5 : ¬ (255 : Int32) < pi5) (P7 : n0 ≤ pa2) (P8 : pa1 ≠ pa2) :
    MetB l M16 jdk_52_method_21_code 7 (some .int) ws (rmk 0 0 0 0) Z h0 #[(.ref pa1), (.int 0), (.ref pa2), (.int 0), (.int 2)] (Q_au18_1 Z wUNKNOWN wHELD wTRUE wNOT_HELD wFALSE wMT wCS pa1 pa2 pk3 pi4 pi5 pk6 h0 n0) := by
  refine own_body (plainFor_of_name pn_java_lang_StringUTF16) ?_
  intro p e s m below meth c s₁ hx hby hml hown hnm hret0 hlk0 hZ X0 e0
  have N0 := Fr.nil n0
  have pre0 : ∀ t, Steps p.tables e below (s₁.setTop (mkF m 0 #[(vr pa1), (vi 0), (vr pa2), (vi 0), (vi 2), .unset, .unset] [])) t → Steps p.tables e below (s₁.setTop (entryFrame m #[(.ref pa1), (.int 0), (.ref pa2), (.int 0), (.int 2)] 7)) t := fun t k => castTop (ef_au18_1 m pa1 (0 : Int32) pa2 (0 : Int32) (2 : Int32)) k
  have K0 := Keep.refl h0 [pa2]
  have hS0 := hS
  obtain ⟨S_wUNKNOWN, E_wUNKNOWN, S_wHELD, E_wHELD, S_wTRUE, E_wTRUE, S_wNOT_HELD, E_wNOT_HELD, S_wFALSE, E_wFALSE, F_ordinal_wUNKNOWN, F_ordinal_wTRUE, F_ordinal_wFALSE, F_truth_wHELD, F_truth_wNOT_HELD, M_wMT, S_wCS, N_wCS⟩ := hS0
  obtain ⟨cl1, Ar1, qc1, Sz1, Nn1, Ha1, Gg1⟩ := (id P0)
  have hin1 : ¬ ((0 : Int32) < 0 ∨ cl1.slots.size ≤ ((0 : Int32)).toNatClampNeg) := inb_of Sz1 ⟨by decide, by decide⟩
  have hat1 : cl1.slots[((0 : Int32)).toNatClampNeg]? = some (.int pi4) := Ha1.at hin1 rfl
  obtain ⟨cl2, Ar2, qc2, Sz2, Nn2, Ha2, Gg2⟩ := (id P2)
  have hin2 : ¬ ((0 : Int32) < 0 ∨ cl2.slots.size ≤ ((0 : Int32)).toNatClampNeg) := inb_of Sz2 ⟨by decide, by decide⟩
  obtain ⟨T2, h2, X2, e2, W2, st2⟩ := stB X0 hx hZ e0 Ar2 (j := (0 : Int32)) hin2 (g := (mkF m 31 #[(vr pa1), (vi 0), (vr pa2), (vi 0), (vi 2), (vi 0), (vi pi4)] [(.int (pi4.toInt8.toInt32)), (.int 0), (.ref pa2)])) rfl rfl (hb hby d18_31)
  have O3 : Old Z n0 h2 := O0.wr W2 P7
  have K3 : Keep h0 h2 [pa2] := K0.wr W2 (Or.inl (List.mem_of_getElem? (i := 0) rfl))
  have V2 : Arv Z h2 pa2 pk6 .byte (2 : Int32) ([(.int (nar .byte (pi4.toInt8.toInt32))), (.int 0)]) (.int 0) := (Arv.set Ar2 qc2 Sz2 Nn2 Ha2 Gg2 (v := (.int (nar .byte (pi4.toInt8.toInt32)))) (fits_nar_byte _) W2 0 rfl (Nat.le_of_ble_eq_true rfl))
  have N2 := Fr.snoc X2 N0 P7
  have f4 : Arv Z h2 pa1 pk3 .char (2 : Int32) ([(.int pi4), (.int pi5)]) (.int 0) := (P0.other W2 P8)
  obtain ⟨cl5, Ar5, qc5, Sz5, Nn5, Ha5, Gg5⟩ := (id f4)
  have hin5 : ¬ ((1 : Int32) < 0 ∨ cl5.slots.size ≤ ((1 : Int32)).toNatClampNeg) := inb_of Sz5 ⟨by decide, by decide⟩
  have hat5 : cl5.slots[((1 : Int32)).toNatClampNeg]? = some (.int pi5) := Ha5.at hin5 rfl
  obtain ⟨cl6, Ar6, qc6, Sz6, Nn6, Ha6, Gg6⟩ := (id V2)
  have hin6 : ¬ ((1 : Int32) < 0 ∨ cl6.slots.size ≤ ((1 : Int32)).toNatClampNeg) := inb_of Sz6 ⟨by decide, by decide⟩
  obtain ⟨T6, h6, X6, e6, W6, st6⟩ := stB X2 hx hZ e2 Ar6 (j := (1 : Int32)) hin6 (g := (mkF m 31 #[(vr pa1), (vi 1), (vr pa2), (vi 1), (vi 2), (vi 1), (vi pi5)] [(.int (pi5.toInt8.toInt32)), (.int 1), (.ref pa2)])) rfl rfl (hb hby d18_31)
  have O7 : Old Z n0 h6 := O3.wr W6 P7
  have K7 : Keep h0 h6 [pa2] := K3.wr W6 (Or.inl (List.mem_of_getElem? (i := 0) rfl))
  have V6 : Arv Z h6 pa2 pk6 .byte (2 : Int32) ([(.int (nar .byte (pi4.toInt8.toInt32))), (.int (nar .byte (pi5.toInt8.toInt32)))]) (.int 0) := (Arv.set Ar6 qc6 Sz6 Nn6 Ha6 Gg6 (v := (.int (nar .byte (pi5.toInt8.toInt32)))) (fits_nar_byte _) W6 1 rfl (Nat.le_of_ble_eq_true rfl))
  have N6 := Fr.snoc X6 N2 P7
  have f8 : Exa Z h6 pa2 "[B" := ((P3.wr W2).wr W6)
  obtain ⟨fs, hr, hrun, hended, hW, hsame⟩ := X6.leave (v := some (.int 2)) (fun h => by rw [hret0] at h; cases h)
  refine ⟨_, _, pre0 _ ?_, hrun, hended, _, _, rfl, ?_, ⟨_, rfl⟩, hW, hsame.mono (by decide) (by decide)⟩
  · skip
    show Steps p.tables e below (s₁.setTop (mkF m 0 #[(vr pa1), (vi 0), (vr pa2), (vi 0), (vi 2), .unset, .unset] [])) _
    refine XS.iconst X0.here hx rfl (hb hby d18_0) ?_
    refine XS.istore X0.here hx rfl (hb hby d18_1) rfl (l' := #[(vr pa1), (vi 0), (vr pa2), (vi 0), (vi 2), (vi 0), .unset]) rfl ?_
    refine XS.iload X0.here hx rfl (hb hby d18_3) rfl ?_
    refine XS.iload X0.here hx rfl (hb hby d18_5) rfl ?_
    refine XS.icmpNo X0.here hx rfl (hb hby d18_7) rfl (tlt (by decide : (0 : Int32) < (2 : Int32))).2.1 ?_
    refine XS.aloadN X0.here hx rfl (hb hby d18_10) rfl rfl ?_
    refine XS.iloadN X0.here hx rfl (hb hby d18_11) rfl ?_
    refine X0.caload hx (j := (0 : Int32)) (v := (.int pi4)) (by rw [e0]; exact Ar1.1) (State.isArrayOf_alike hZ.alike Ar1.2.1) Ar1.2.2 hin1 hat1 (g := (mkF m 12 #[(vr pa1), (vi 0), (vr pa2), (vi 0), (vi 2), (vi 0), .unset] [(.int 0), (.ref pa1)])) rfl rfl (hb hby d18_12) _ ?_
    show Steps p.tables e below (s₁.setTop (mkF m 13 #[(vr pa1), (vi 0), (vr pa2), (vi 0), (vi 2), (vi 0), .unset] [(.int pi4)])) _
    refine XS.istore X0.here hx rfl (hb hby d18_13) rfl (l' := #[(vr pa1), (vi 0), (vr pa2), (vi 0), (vi 2), (vi 0), (vi pi4)]) rfl ?_
    refine XS.iload X0.here hx rfl (hb hby d18_15) rfl ?_
    refine XS.sipush X0.here hx rfl (hb hby d18_17) ?_
    refine XS.icmpYes X0.here hx rfl (pc0 := 20) (pc' := 26) rfl (hb hby d18_20) rfl (flt (P4 : ¬ ((255 : Int32) < pi4))).2.2.2 (by decide) (by decide) ?_
    refine XS.aloadN X0.here hx rfl (hb hby d18_26) rfl rfl ?_
    refine XS.iloadN X0.here hx rfl (hb hby d18_27) rfl ?_
    refine XS.iload X0.here hx rfl (hb hby d18_28) rfl ?_
    refine XS.i2b X0.here hx rfl (hb hby d18_30) rfl ?_
    show Steps p.tables e below (s₁.setTop (mkF m 31 #[(vr pa1), (vi 0), (vr pa2), (vi 0), (vi 2), (vi 0), (vi pi4)] [(.int (pi4.toInt8.toInt32)), (.int 0), (.ref pa2)])) _
    refine st2 _ ?_
    refine XS.iinc X2.here hx rfl (hb hby d18_32) rfl (l' := #[(vr pa1), (vi 1), (vr pa2), (vi 0), (vi 2), (vi 0), (vi pi4)]) rfl ?_
    refine XS.iinc X2.here hx rfl (hb hby d18_35) rfl (l' := #[(vr pa1), (vi 1), (vr pa2), (vi 1), (vi 2), (vi 0), (vi pi4)]) rfl ?_
    refine XS.iinc X2.here hx rfl (hb hby d18_38) rfl (l' := #[(vr pa1), (vi 1), (vr pa2), (vi 1), (vi 2), (vi 1), (vi pi4)]) rfl ?_
    refine XS.goto X2.here hx rfl (pc0 := 41) (pc' := 3) rfl (hb hby d18_41) (by decide) (by decide) ?_
    refine XS.iload X2.here hx rfl (hb hby d18_3) rfl ?_
    refine XS.iload X2.here hx rfl (hb hby d18_5) rfl ?_
    refine XS.icmpNo X2.here hx rfl (hb hby d18_7) rfl (tlt (by decide : (1 : Int32) < (2 : Int32))).2.1 ?_
    show Steps p.tables e below (T2.setTop (mkF m 10 #[(vr pa1), (vi 1), (vr pa2), (vi 1), (vi 2), (vi 1), (vi pi4)] [])) _
    refine XS.aloadN X2.here hx rfl (hb hby d18_10) rfl rfl ?_
    refine XS.iloadN X2.here hx rfl (hb hby d18_11) rfl ?_
    refine X2.caload hx (j := (1 : Int32)) (v := (.int pi5)) (by rw [e2]; exact Ar5.1) (State.isArrayOf_alike hZ.alike Ar5.2.1) Ar5.2.2 hin5 hat5 (g := (mkF m 12 #[(vr pa1), (vi 1), (vr pa2), (vi 1), (vi 2), (vi 1), (vi pi4)] [(.int 1), (.ref pa1)])) rfl rfl (hb hby d18_12) _ ?_
    refine XS.istore X2.here hx rfl (hb hby d18_13) rfl (l' := #[(vr pa1), (vi 1), (vr pa2), (vi 1), (vi 2), (vi 1), (vi pi5)]) rfl ?_
    refine XS.iload X2.here hx rfl (hb hby d18_15) rfl ?_
    refine XS.sipush X2.here hx rfl (hb hby d18_17) ?_
    refine XS.icmpYes X2.here hx rfl (pc0 := 20) (pc' := 26) rfl (hb hby d18_20) rfl (flt (P5 : ¬ ((255 : Int32) < pi5))).2.2.2 (by decide) (by decide) ?_
    refine XS.aloadN X2.here hx rfl (hb hby d18_26) rfl rfl ?_
    show Steps p.tables e below (T2.setTop (mkF m 27 #[(vr pa1), (vi 1), (vr pa2), (vi 1), (vi 2), (vi 1), (vi pi5)] [(.ref pa2)])) _
    refine XS.iloadN X2.here hx rfl (hb hby d18_27) rfl ?_
    refine XS.iload X2.here hx rfl (hb hby d18_28) rfl ?_
    refine XS.i2b X2.here hx rfl (hb hby d18_30) rfl ?_
    refine st6 _ ?_
    refine XS.iinc X6.here hx rfl (hb hby d18_32) rfl (l' := #[(vr pa1), (vi 2), (vr pa2), (vi 1), (vi 2), (vi 1), (vi pi5)]) rfl ?_
    refine XS.iinc X6.here hx rfl (hb hby d18_35) rfl (l' := #[(vr pa1), (vi 2), (vr pa2), (vi 2), (vi 2), (vi 1), (vi pi5)]) rfl ?_
    refine XS.iinc X6.here hx rfl (hb hby d18_38) rfl (l' := #[(vr pa1), (vi 2), (vr pa2), (vi 2), (vi 2), (vi 2), (vi pi5)]) rfl ?_
    refine XS.goto X6.here hx rfl (pc0 := 41) (pc' := 3) rfl (hb hby d18_41) (by decide) (by decide) ?_
    show Steps p.tables e below (T6.setTop (mkF m 3 #[(vr pa1), (vi 2), (vr pa2), (vi 2), (vi 2), (vi 2), (vi pi5)] [])) _
    refine XS.iload X6.here hx rfl (hb hby d18_3) rfl ?_
    refine XS.iload X6.here hx rfl (hb hby d18_5) rfl ?_
    refine XS.icmpYes X6.here hx rfl (pc0 := 7) (pc' := 44) rfl (hb hby d18_7) rfl (flt (by decide : ¬ ((2 : Int32) < (2 : Int32)))).2.1 (by decide) (by decide) ?_
    refine XS.iload X6.here hx rfl (hb hby d18_44) rfl ?_
    exact retI X6 hx hret0 (hb hby d18_46) hr
  · show Q_au18_1 Z wUNKNOWN wHELD wTRUE wNOT_HELD wFALSE wMT wCS pa1 pa2 pk3 pi4 pi5 pk6 h0 n0 _ T6.heap _
    rw [e6]
    exact ⟨rfl, N6, K7, f8, V6⟩
def Q_au17_1 (Z : State) (wUNKNOWN : Addr) (wHELD : Addr) (wTRUE : Addr) (wNOT_HELD : Addr) (wFALSE : Addr) (wMT : Addr) (wCS : Int32) (pa1 : Addr) (pk2 : ClassId) (pi3 : Int32) (pi4 : Int32) (h0 : Heap) (n0 : Nat) (v : Option Value) (h : Heap) (L : List Loc) : Prop := ∃ (e1 : Addr) (e2 : ClassId), v = some (.ref e1) ∧ Fr n0 L ∧ Keep h0 h [] ∧ h0.size ≤ e1 ∧ Exa Z h e1 "[B" ∧ Arv Z h e1 e2 .byte (2 : Int32) ([(.int (nar .byte (pi3.toInt8.toInt32))), (.int (nar .byte (pi4.toInt8.toInt32)))]) (.int 0)
theorem au17_1 (l : Launch) (Z : State) (a0 : Array Value) (hw : ∀ d ∈ tables_1, d.before a0 Z = true) (ws : List Jvm.Cond) (wUNKNOWN : Addr) (wHELD : Addr) (wTRUE : Addr) (wNOT_HELD : Addr) (wFALSE : Addr) (wMT : Addr) (wCS : Int32) (hS : SS Z wUNKNOWN wHELD wTRUE wNOT_HELD wFALSE wMT wCS) (pa1 : Addr) (pk2 : ClassId) (pi3 : Int32) (pi4 : Int32) (h0 : Heap) (n0 : Nat) (O0 : Old Z n0 h0) (P0 : Arv Z h0 pa1 pk2 .char (2 : Int32) ([(.int pi3), (.int pi4)]) (.int 0)) (P2 : ¬ (255 : Int32) < pi3) (P3 : ¬ (255 : Int32) < pi4) :
    MetB l M17 jdk_52_method_16_code 6 (some (.array .byte)) ws (rmk 1 1 2 18) Z h0 #[(.ref pa1), (.int 0), (.int 2)] (Q_au17_1 Z wUNKNOWN wHELD wTRUE wNOT_HELD wFALSE wMT wCS pa1 pk2 pi3 pi4 h0 n0) := by
  refine own_body (plainFor_of_name pn_java_lang_StringUTF16) ?_
  intro p e s m below meth c s₁ hx hby hml hown hnm hret0 hlk0 hZ X0 e0
  have N0 := Fr.nil n0
  have pre0 : ∀ t, Steps p.tables e below (s₁.setTop (mkF m 0 #[(vr pa1), (vi 0), (vi 2), .unset, .unset, .unset] [])) t → Steps p.tables e below (s₁.setTop (entryFrame m #[(.ref pa1), (.int 0), (.int 2)] 6)) t := fun t k => castTop (ef_au17_1 m pa1 (0 : Int32) (2 : Int32)) k
  have K0 := Keep.refl h0 []
  have hS0 := hS
  obtain ⟨S_wUNKNOWN, E_wUNKNOWN, S_wHELD, E_wHELD, S_wTRUE, E_wTRUE, S_wNOT_HELD, E_wNOT_HELD, S_wFALSE, E_wFALSE, F_ordinal_wUNKNOWN, F_ordinal_wTRUE, F_ordinal_wFALSE, F_truth_wHELD, F_truth_wNOT_HELD, M_wMT, S_wCS, N_wCS⟩ := hS0
  obtain ⟨T1, h1, k1, X1, e1, E1, A1, Z1, st1⟩ := newPE X0 hx hZ (ow hw 19 rfl) e0 (g := (mkF m 1 #[(vr pa1), (vi 0), (vi 2), .unset, .unset, .unset] [(.int 2)])) rfl (hb hby d17_1) rfl (by decide) (cap := 2) (by decide) (by decide) (by decide) (by decide) (ad := "[B") rfl
  obtain ⟨b1, g1⟩ : ∃ z, z = h0.size := ⟨_, rfl⟩
  rw [← g1] at A1 Z1 st1
  have ne2 : pa1 ≠ b1 := Nat.ne_of_lt (Nat.lt_of_lt_of_le P0.lt (Nat.le_of_eq g1.symm))
  have g3 : n0 ≤ b1 := Nat.le_trans (own_sz O0) (Nat.le_of_eq g1.symm)
  have sz4 : h0.size ≤ b1 := Nat.le_trans K0.1 (Nat.le_of_eq g1.symm)
  have O5 : Old Z n0 h1 := O0.ext E1
  have K5 : Keep h0 h1 [] := K0.ext E1
  have V1 : Arv Z h1 b1 k1 .byte (2 : Int32) ([(.int 0), (.int 0)]) (.int 0) := (Arv.new A1 (by decide)).pad (pad_rep [] (.int 0) 2)
  have f6 : Arv Z h1 pa1 pk2 .char (2 : Int32) ([(.int pi3), (.int pi4)]) (.int 0) := (P0.ext E1)
  obtain ⟨_, _, ⟨T7, L7, k7, n7⟩, -, X7, ⟨Lc7, hQ7, l7, y7, z7⟩, st7⟩ := Jvm.LawKit.callS X1 hx (y := M16) hown (mvT hZ (ow hw 109 rfl)) (mvT hZ (ow hw 110 rfl)) (mvT hZ (ow hw 107 rfl)) (mvT hZ (ow hw 111 rfl)) (by decide) (backOf (W := 0) (au18_1 l Z a0 hw [] wUNKNOWN wHELD wTRUE wNOT_HELD wFALSE wMT wCS hS pa1 b1 pk2 pi3 pi4 k1 h1 n0 O5 f6 V1 Z1 P2 P3 g3 ne2) hZ (ow hw 111 rfl) (ow hw 107 rfl) (by decide) (by decide)) (g := (mkF m 9 #[(vr pa1), (vi 0), (vi 2), (vr b1), .unset, .unset] [(.int 2), (.int 0), (.ref b1), (.int 0), (.ref pa1)])) rfl (by rw [hml]; rfl) (argsL := [(.ref pa1), (.int 0), (.ref b1), (.int 0), (.int 2)]) (rest := []) (lenOf pd_15 rfl) rfl (by show 2 * 0 + _ ≤ _; exact Nat.le_of_eq rfl) (hb hby d17_9) (fun _ _ => ⟨rfl, e1, (by decide : 1 + 0 ≤ _), (by decide : 2 + 0 ≤ _)⟩)
  dsimp only [Pt.U, Pt.locs, Pt.cells, Pt.slots] at X7 l7 y7 z7 st7 hQ7
  subst y7 z7
  obtain ⟨rfl, Nq7, K7q, p7_0, p7_1⟩ := hQ7
  have N7 : Fr n0 L7 := (congrArg (Fr n0) l7).mpr (Fr.app N0 Nq7)
  have O8 : Old Z n0 T7.heap := O5.keep K7q (allS g3 all0)
  have K8 : Keep h0 T7.heap [] := K5.trans K7q (allS (Or.inr sz4) all0)
  obtain ⟨fs, hr, hrun, hended, hW, hsame⟩ := X7.leave (v := some (.ref b1)) (fun h => by rw [hret0] at h; cases h)
  refine ⟨_, _, pre0 _ ?_, hrun, hended, _, _, rfl, ?_, ⟨_, rfl⟩, hW, hsame.mono (by decide) (by decide)⟩
  · skip
    show Steps p.tables e below (s₁.setTop (mkF m 0 #[(vr pa1), (vi 0), (vi 2), .unset, .unset, .unset] [])) _
    refine XS.iloadN X0.here hx rfl (hb hby d17_0) rfl ?_
    refine st1 _ ?_
    refine XS.astoreN X1.here hx rfl (hb hby d17_3) rfl rfl (l' := #[(vr pa1), (vi 0), (vi 2), (vr b1), .unset, .unset]) rfl ?_
    refine XS.aloadN X1.here hx rfl (hb hby d17_4) rfl rfl ?_
    refine XS.iloadN X1.here hx rfl (hb hby d17_5) rfl ?_
    refine XS.aloadN X1.here hx rfl (hb hby d17_6) rfl rfl ?_
    refine XS.iconst X1.here hx rfl (hb hby d17_7) ?_
    refine XS.iloadN X1.here hx rfl (hb hby d17_8) rfl ?_
    show Steps p.tables e below (T1.setTop (mkF m 9 #[(vr pa1), (vi 0), (vi 2), (vr b1), .unset, .unset] [(.int 2), (.int 0), (.ref b1), (.int 0), (.ref pa1)])) _
    refine st7 _ ?_
    refine XS.istore X7.here hx rfl (hb hby d17_12) rfl (l' := #[(vr pa1), (vi 0), (vi 2), (vr b1), (vi 2), .unset]) rfl ?_
    refine XS.iload X7.here hx rfl (hb hby d17_14) rfl ?_
    refine XS.iloadN X7.here hx rfl (hb hby d17_16) rfl ?_
    refine XS.icmpYes X7.here hx rfl (pc0 := 17) (pc' := 57) rfl (hb hby d17_17) rfl (teq (by decide : (2 : Int32) = (2 : Int32))).1 (by decide) (by decide) ?_
    refine XS.aloadN X7.here hx rfl (hb hby d17_57) rfl rfl ?_
    jvm_step X7.here [X7.here.top, hx, (hb hby d17_58), X7.method', hret0, Value.isRef, FieldType.isReference]
    first | (intro acts; rw [hr _ acts rfl rfl rfl]) | rw [hr _ _ rfl rfl rfl]
    exact Steps.refl _
  · show Q_au17_1 Z wUNKNOWN wHELD wTRUE wNOT_HELD wFALSE wMT wCS pa1 pk2 pi3 pi4 h0 n0 _ T7.heap _
    exact ⟨b1, k1, rfl, N7, K8, sz4, p7_0, p7_1⟩
theorem ef_au19_1 (m : MethodId) (x0 : Addr) (x1 : Int32)  : entryFrame m #[(.ref x0), (.int x1)] 2 = mkF m 0 #[(vr x0), (vi x1)] [] := by first | (simp [entryFrame, mkF, argsToLocals, Value.category]; done) | rfl
def Q_au19_1 (Z : State) (wUNKNOWN : Addr) (wHELD : Addr) (wTRUE : Addr) (wNOT_HELD : Addr) (wFALSE : Addr) (wMT : Addr) (wCS : Int32) (pa1 : Addr) (pk2 : ClassId) (pi3 : Int32) (pi4 : Int32) (h0 : Heap) (n0 : Nat) (v : Option Value) (h : Heap) (L : List Loc) : Prop := v = some (.int 0) ∧ Fr n0 L ∧ h = h0
theorem au19_1 (l : Launch) (Z : State) (a0 : Array Value) (hw : ∀ d ∈ tables_1, d.before a0 Z = true) (ws : List Jvm.Cond) (wUNKNOWN : Addr) (wHELD : Addr) (wTRUE : Addr) (wNOT_HELD : Addr) (wFALSE : Addr) (wMT : Addr) (wCS : Int32) (hS : SS Z wUNKNOWN wHELD wTRUE wNOT_HELD wFALSE wMT wCS) (pa1 : Addr) (pk2 : ClassId) (pi3 : Int32) (pi4 : Int32) (h0 : Heap) (n0 : Nat) (O0 : Old Z n0 h0) (P0 : Arv Z h0 pa1 pk2 .byte (2 : Int32) ([(.int pi3), (.int pi4)]) (.int 0)) :
    MetB l M18 jdk_52_method_15_code 2 (some .byte) ws (rmk 0 0 0 0) Z h0 #[(.ref pa1), (.int 2)] (Q_au19_1 Z wUNKNOWN wHELD wTRUE wNOT_HELD wFALSE wMT wCS pa1 pk2 pi3 pi4 h0 n0) := by
  refine own_body (plainFor_of_name pn_java_lang_StringUTF16) ?_
  intro p e s m below meth c s₁ hx hby hml hown hnm hret0 hlk0 hZ X0 e0
  have N0 := Fr.nil n0
  have pre0 : ∀ t, Steps p.tables e below (s₁.setTop (mkF m 0 #[(vr pa1), (vi 2)] [])) t → Steps p.tables e below (s₁.setTop (entryFrame m #[(.ref pa1), (.int 2)] 2)) t := fun t k => castTop (ef_au19_1 m pa1 (2 : Int32)) k
  have hS0 := hS
  obtain ⟨S_wUNKNOWN, E_wUNKNOWN, S_wHELD, E_wHELD, S_wTRUE, E_wTRUE, S_wNOT_HELD, E_wNOT_HELD, S_wFALSE, E_wFALSE, F_ordinal_wUNKNOWN, F_ordinal_wTRUE, F_ordinal_wFALSE, F_truth_wHELD, F_truth_wNOT_HELD, M_wMT, S_wCS, N_wCS⟩ := hS0
  obtain ⟨cl1, Ar1, -, Sz1, Nn1, -, -⟩ := (id P0)
  have pre2 : ∀ t, Steps p.tables e below (s₁.setTop (mkF m 8 #[(vr pa1), (vi 2)] [(.int 0)])) t → Steps p.tables e below (s₁.setTop (entryFrame m #[(.ref pa1), (.int 2)] 2)) t := by
    intro t k
    refine pre0 t ?_
    show Steps p.tables e below (s₁.setTop (mkF m 0 #[(vr pa1), (vi 2)] [])) _
    refine XS.iloadN X0.here hx rfl (hb hby d19_0) rfl ?_
    refine XS.aloadN X0.here hx rfl (hb hby d19_1) rfl rfl ?_
    refine X0.arraylength hx (by rw [e0]; exact Ar1.1) (State.isArrayOf_alike hZ.alike Ar1.2.1) (g := (mkF m 2 #[(vr pa1), (vi 2)] [(.ref pa1), (.int 2)])) rfl rfl (hb hby d19_2) _ ?_
    rw [len_of Sz1 Nn1]
    refine XS.isub X0.here hx rfl (hb hby d19_3) rfl ?_
    refine XS.bipush X0.here hx rfl (hb hby d19_4) ?_
    refine XS.iushr X0.here hx rfl (hb hby d19_6) rfl ?_
    refine XS.i2b X0.here hx rfl (hb hby d19_7) rfl ?_
    show Steps p.tables e below (s₁.setTop (mkF m 8 #[(vr pa1), (vi 2)] [(.int ((((0 : Int32).toUInt32 >>> ((31 : Int32) &&& 31).toUInt32).toInt32).toInt8.toInt32))])) _
    rw [(by decide : ((((0 : Int32).toUInt32 >>> ((31 : Int32) &&& 31).toUInt32).toInt32).toInt8.toInt32) = (0 : Int32))]
    exact k
  obtain ⟨fs, hr, hrun, hended, hW, hsame⟩ := X0.leave (v := some (.int 0)) (fun h => by rw [hret0] at h; cases h)
  refine ⟨_, _, pre2 _ ?_, hrun, hended, _, _, rfl, ?_, ⟨_, rfl⟩, hW, hsame.mono (by decide) (by decide)⟩
  · skip
    show Steps p.tables e below (s₁.setTop (mkF m 8 #[(vr pa1), (vi 2)] [(.int 0)])) _
    exact retN X0 hx (t := .byte) hret0 (by simp) (hb hby d19_8) hr
  · show Q_au19_1 Z wUNKNOWN wHELD wTRUE wNOT_HELD wFALSE wMT wCS pa1 pk2 pi3 pi4 h0 n0 _ s₁.heap _
    rw [e0]
    exact ⟨rfl, N0, rfl⟩
def Q_au3_2 (Z : State) (wUNKNOWN : Addr) (wHELD : Addr) (wTRUE : Addr) (wNOT_HELD : Addr) (wFALSE : Addr) (wMT : Addr) (wCS : Int32) (pa1 : Addr) (pa2 : Addr) (pk3 : ClassId) (pi4 : Int32) (pi5 : Int32) (h0 : Heap) (n0 : Nat) (v : Option Value) (h : Heap) (L : List Loc) : Prop := v = none ∧ Fr n0 L ∧ Keep h0 h [pa1] ∧ Exa Z h pa1 s0n
theorem au3_2 (l : Launch) (Z : State) (a0 : Array Value) (hw : ∀ d ∈ tables_1, d.before a0 Z = true) (ws : List Jvm.Cond) (wUNKNOWN : Addr) (wHELD : Addr) (wTRUE : Addr) (wNOT_HELD : Addr) (wFALSE : Addr) (wMT : Addr) (wCS : Int32) (hS : SS Z wUNKNOWN wHELD wTRUE wNOT_HELD wFALSE wMT wCS) (pa1 : Addr) (pa2 : Addr) (pk3 : ClassId) (pi4 : Int32) (pi5 : Int32) (h0 : Heap) (n0 : Nat) (O0 : Old Z n0 h0) (P0 : Exa Z h0 pa1 s0n) (P1 : Fld Z h0 pa1 s0n "coder" "B" (.int 0)) (P2 : Fld Z h0 pa1 s0n "value" "[B" .null) (P3 : Arv Z h0 pa2 pk3 .char (2 : Int32) ([(.int pi4), (.int pi5)]) (.int 0)) (P5 : ¬ (255 : Int32) < pi4) (P6 : ¬ (255 : Int32) < pi5) (P7 : n0 ≤ pa1) :
    MetB l M0 jdk_42_method_149_code 6 none ws (rmk 2 1 2 35) Z h0 #[(.ref pa1), (.ref pa2), (.int 0), (.int 2), .null] (Q_au3_2 Z wUNKNOWN wHELD wTRUE wNOT_HELD wFALSE wMT wCS pa1 pa2 pk3 pi4 pi5 h0 n0) := by
  refine own_body (plainFor_of_name pn_java_lang_String) ?_
  intro p e s m below meth c s₁ hx hby hml hown hnm hret0 hlk0 hZ X0 e0
  have N0 := Fr.nil n0
  have pre0 : ∀ t, Steps p.tables e below (s₁.setTop (mkF m 0 #[(vr pa1), (vr pa2), (vi 0), (vi 2), .val .null, .unset] [])) t → Steps p.tables e below (s₁.setTop (entryFrame m #[(.ref pa1), (.ref pa2), (.int 0), (.int 2), .null] 6)) t := fun t k => castTop (ef_au3_2 m pa1 pa2 (0 : Int32) (2 : Int32)) k
  have K0 := Keep.refl h0 [pa1]
  have hS0 := hS
  obtain ⟨S_wUNKNOWN, E_wUNKNOWN, S_wHELD, E_wHELD, S_wTRUE, E_wTRUE, S_wNOT_HELD, E_wNOT_HELD, S_wFALSE, E_wFALSE, F_ordinal_wUNKNOWN, F_ordinal_wTRUE, F_ordinal_wFALSE, F_truth_wHELD, F_truth_wNOT_HELD, M_wMT, S_wCS, N_wCS⟩ := hS0
  obtain ⟨T1, X1, e1, st1⟩ := initO X0 hx hZ hown (ow hw 15 rfl) (ow hw 16 rfl) (ow hw 17 rfl) e0 (g := (mkF m 1 #[(vr pa1), (vr pa2), (vi 0), (vi 2), .val .null, .unset] [(.ref pa1)])) rfl (by rw [hml]; rfl) rfl (hb hby d3_1) (by decide) (W := 0) (by show 2 * 0 + _ ≤ _; exact Nat.le_of_eq rfl) (by decide)
  obtain ⟨T2, X2, e2, st2⟩ := getS2 X1 hx hZ hown (host := "") (Or.inl (ow hw 29 rfl)) Via.refl e1 (S_wCS.ext O0.2) (g := (mkF m 27 #[(vr pa1), (vr pa2), (vi 0), (vi 2), .val .null, .unset] [])) rfl (hb hby d3_27)
  obtain ⟨_, _, ⟨T3, L3, k3, n3⟩, -, X3, ⟨Lc3, hQ3, l3, y3, z3⟩, st3⟩ := Jvm.LawKit.callS X2 hx (y := M17) hown (mvT hZ (ow hw 105 rfl)) (mvT hZ (ow hw 106 rfl)) (mvT hZ (ow hw 107 rfl)) (mvT hZ (ow hw 108 rfl)) (by decide) (backOf (W := 0) (au17_1 l Z a0 hw [] wUNKNOWN wHELD wTRUE wNOT_HELD wFALSE wMT wCS hS pa2 pk3 pi4 pi5 h0 n0 O0 P3 P5 P6) hZ (ow hw 108 rfl) (ow hw 107 rfl) (by decide) (by decide)) (g := (mkF m 36 #[(vr pa1), (vr pa2), (vi 0), (vi 2), .val .null, .unset] [(.int 2), (.int 0), (.ref pa2)])) rfl (by rw [hml]; rfl) (argsL := [(.ref pa2), (.int 0), (.int 2)]) (rest := []) (lenOf pd_16 rfl) rfl (by show 2 * 0 + _ ≤ _; exact Nat.le_of_eq rfl) (hb hby d3_36) (fun _ _ => ⟨rfl, e2, (by decide : 0 + 1 ≤ _), (by decide : 0 + 2 ≤ _)⟩)
  dsimp only [Pt.U, Pt.locs, Pt.cells, Pt.slots] at X3 l3 y3 z3 st3 hQ3
  subst y3 z3
  obtain ⟨e1_3, e2_3, rfl, Nq3, K3q, p3_0, p3_1, p3_2⟩ := hQ3
  have N3 : Fr n0 L3 := (congrArg (Fr n0) l3).mpr (Fr.app N0 Nq3)
  have ne4 : pa1 ≠ e1_3 := Nat.ne_of_lt (Nat.lt_of_lt_of_le P0.lt p3_0)
  have ne5 : pa2 ≠ e1_3 := Nat.ne_of_lt (Nat.lt_of_lt_of_le P3.lt p3_0)
  have g6 : n0 ≤ e1_3 := Nat.le_trans (own_sz O0) p3_0
  have sz7 : h0.size ≤ e1_3 := Nat.le_trans K0.1 p3_0
  have O8 : Old Z n0 T3.heap := O0.keep K3q all0
  have K8 : Keep h0 T3.heap [pa1] := K0.trans K3q all0
  obtain ⟨_, _, ⟨T9, L9, k9, n9⟩, -, X9, ⟨Lc9, hQ9, l9, y9, z9⟩, st9⟩ := Jvm.LawKit.callS X3 hx (y := M18) hown (mvT hZ (ow hw 112 rfl)) (mvT hZ (ow hw 113 rfl)) (mvT hZ (ow hw 107 rfl)) (mvT hZ (ow hw 114 rfl)) (by decide) (backOf (W := 1) (au19_1 l Z a0 hw [] wUNKNOWN wHELD wTRUE wNOT_HELD wFALSE wMT wCS hS e1_3 e2_3 (nar .byte (pi4.toInt8.toInt32)) (nar .byte (pi5.toInt8.toInt32)) T3.heap n0 O8 p3_2) hZ (ow hw 114 rfl) (ow hw 107 rfl) (by decide) (by decide)) (g := (mkF m 45 #[(vr pa1), (vr pa2), (vi 0), (vi 2), .val .null, (vr e1_3)] [(.int 2), (.ref e1_3), (.ref pa1)])) rfl (by rw [hml]; rfl) (argsL := [(.ref e1_3), (.int 2)]) (rest := [(.ref pa1)]) (lenOf pd_17 rfl) rfl (by show 2 * 0 + _ ≤ _; exact Nat.le_of_eq rfl) (hb hby d3_45) (fun _ _ => ⟨rfl, rfl, (by decide : 1 + 0 ≤ _), (by decide : 2 + 0 ≤ _)⟩)
  dsimp only [Pt.U, Pt.locs, Pt.cells, Pt.slots] at X9 l9 y9 z9 st9 hQ9
  subst y9 z9
  obtain ⟨rfl, Nq9, K9q⟩ := hQ9
  have N9 : Fr n0 L9 := (congrArg (Fr n0) l9).mpr (Fr.app N3 Nq9)
  have f10 : Exa Z T3.heap pa1 s0n := (P0.keep K3q)
  have f11 : Fld Z T3.heap pa1 s0n "coder" "B" (.int 0) := (P1.keep K3q nin0)
  obtain ⟨T12, h12, X12, e12, W12, st12⟩ := putFN X9 hx hZ hown (ow hw 25 rfl) Via.refl K9q f11 f10 (Or.inr ⟨(ow hw 21 rfl), rfl, hnm⟩) (ow hw 5 rfl) (ty := .byte) (v' := (.int 0)) (by decide) rfl rfl (g := (mkF m 48 #[(vr pa1), (vr pa2), (vi 0), (vi 2), .val .null, (vr e1_3)] [(.int 0), (.ref pa1)])) rfl rfl (hb hby d3_48)
  have N12 := Fr.snoc X12 N9 P7
  have O13 : Old Z n0 h12 := O8.wr W12 P7
  have K13 : Keep h0 h12 [pa1] := K8.wr W12 (Or.inl (List.mem_of_getElem? (i := 0) rfl))
  have Fw12 : Fld Z h12 pa1 s0n "coder" "B" (.int 0) := f11.same W12
  have f14 : Exa Z h12 pa1 s0n := (f10.wr W12)
  have f15 : Fld Z h12 pa1 s0n "value" "[B" .null := ((P2.keep K3q nin0).other W12 (Or.inr (slot_ne (Or.inr (ow hw 20 rfl)) (Or.inr (ow hw 21 rfl)) (by decide) (t := (.array .byte)) (t' := .byte) (by decide) (by decide))))
  obtain ⟨T16, h16, X16, e16, W16, st16⟩ := putF X12 hx hZ hown (host := "") (Or.inl (ow hw 24 rfl)) Via.refl e12 f15 f14 (Or.inr ⟨(ow hw 20 rfl), rfl, hnm⟩) (ow hw 5 rfl) (ty := (.array .byte)) (by decide) rfl rfl (g := (mkF m 54 #[(vr pa1), (vr pa2), (vi 0), (vi 2), .val .null, (vr e1_3)] [(.ref e1_3), (.ref pa1)])) rfl rfl (hb hby d3_54)
  have N16 := Fr.snoc X16 N12 P7
  have O17 : Old Z n0 h16 := O13.wr W16 P7
  have K17 : Keep h0 h16 [pa1] := K13.wr W16 (Or.inl (List.mem_of_getElem? (i := 0) rfl))
  have Fw16 : Fld Z h16 pa1 s0n "value" "[B" (.ref e1_3) := f15.same W16
  have f18 : Exa Z h16 pa1 s0n := (f14.wr W16)
  obtain ⟨fs, hr, hrun, hended, hW, hsame⟩ := X16.leave (v := none) (fun _ => rfl)
  refine ⟨_, _, pre0 _ ?_, hrun, hended, _, _, rfl, ?_, ⟨_, rfl⟩, hW, hsame.mono (by decide) (by decide)⟩
  · skip
    show Steps p.tables e below (s₁.setTop (mkF m 0 #[(vr pa1), (vr pa2), (vi 0), (vi 2), .val .null, .unset] [])) _
    refine XS.aloadN X0.here hx rfl (hb hby d3_0) rfl rfl ?_
    refine st1 _ ?_
    refine XS.iloadN X1.here hx rfl (hb hby d3_4) rfl ?_
    refine XS.ifYes X1.here hx rfl (pc0 := 5) (pc' := 27) rfl (hb hby d3_5) rfl ((if0 _ _).trans (feq (by decide : ¬ ((2 : Int32) = (0 : Int32)))).2) (by decide) (by decide) ?_
    refine st2 _ ?_
    refine XS.ifNo X2.here hx rfl (hb hby d3_30) rfl ((if0 _ _).trans (feq (N_wCS : ¬ (wCS = (0 : Int32)))).1) ?_
    refine XS.aloadN X2.here hx rfl (hb hby d3_33) rfl rfl ?_
    refine XS.iloadN X2.here hx rfl (hb hby d3_34) rfl ?_
    show Steps p.tables e below (T2.setTop (mkF m 35 #[(vr pa1), (vr pa2), (vi 0), (vi 2), .val .null, .unset] [(.int 0), (.ref pa2)])) _
    refine XS.iloadN X2.here hx rfl (hb hby d3_35) rfl ?_
    refine st3 _ ?_
    refine XS.astore X3.here hx rfl (hb hby d3_39) rfl rfl (l' := #[(vr pa1), (vr pa2), (vi 0), (vi 2), .val .null, (vr e1_3)]) rfl ?_
    refine XS.aloadN X3.here hx rfl (hb hby d3_41) rfl rfl ?_
    refine XS.aload X3.here hx rfl (hb hby d3_42) rfl rfl ?_
    refine XS.iloadN X3.here hx rfl (hb hby d3_44) rfl ?_
    refine st9 _ ?_
    refine st12 _ ?_
    show Steps p.tables e below (T12.setTop (mkF m 51 #[(vr pa1), (vr pa2), (vi 0), (vi 2), .val .null, (vr e1_3)] [])) _
    refine XS.aloadN X12.here hx rfl (hb hby d3_51) rfl rfl ?_
    refine XS.aload X12.here hx rfl (hb hby d3_52) rfl rfl ?_
    refine st16 _ ?_
    exact X16.returnOut hx hret0 (hb hby d3_57) hr
  · show Q_au3_2 Z wUNKNOWN wHELD wTRUE wNOT_HELD wFALSE wMT wCS pa1 pa2 pk3 pi4 pi5 h0 n0 _ T16.heap _
    rw [e16]
    exact ⟨rfl, N16, K17, f18⟩
def Q_au2_2 (Z : State) (wUNKNOWN : Addr) (wHELD : Addr) (wTRUE : Addr) (wNOT_HELD : Addr) (wFALSE : Addr) (wMT : Addr) (wCS : Int32) (pa1 : Addr) (pa2 : Addr) (pk3 : ClassId) (pi4 : Int32) (pi5 : Int32) (h0 : Heap) (n0 : Nat) (v : Option Value) (h : Heap) (L : List Loc) : Prop := v = none ∧ Fr n0 L ∧ Keep h0 h [pa1] ∧ Exa Z h pa1 s0n
theorem au2_2 (l : Launch) (Z : State) (a0 : Array Value) (hw : ∀ d ∈ tables_1, d.before a0 Z = true) (ws : List Jvm.Cond) (wUNKNOWN : Addr) (wHELD : Addr) (wTRUE : Addr) (wNOT_HELD : Addr) (wFALSE : Addr) (wMT : Addr) (wCS : Int32) (hS : SS Z wUNKNOWN wHELD wTRUE wNOT_HELD wFALSE wMT wCS) (pa1 : Addr) (pa2 : Addr) (pk3 : ClassId) (pi4 : Int32) (pi5 : Int32) (h0 : Heap) (n0 : Nat) (O0 : Old Z n0 h0) (P0 : Exa Z h0 pa1 s0n) (P1 : Fld Z h0 pa1 s0n "coder" "B" (.int 0)) (P2 : Fld Z h0 pa1 s0n "value" "[B" .null) (P3 : Arv Z h0 pa2 pk3 .char (2 : Int32) ([(.int pi4), (.int pi5)]) (.int 0)) (P5 : ¬ (255 : Int32) < pi4) (P6 : ¬ (255 : Int32) < pi5) (P7 : n0 ≤ pa1) :
    MetB l M1 jdk_42_method_3_code 2 none ws (rmk 3 1 2 52) Z h0 #[(.ref pa1), (.ref pa2)] (Q_au2_2 Z wUNKNOWN wHELD wTRUE wNOT_HELD wFALSE wMT wCS pa1 pa2 pk3 pi4 pi5 h0 n0) := by
  refine own_body (plainFor_of_name pn_java_lang_String) ?_
  intro p e s m below meth c s₁ hx hby hml hown hnm hret0 hlk0 hZ X0 e0
  have N0 := Fr.nil n0
  have pre0 : ∀ t, Steps p.tables e below (s₁.setTop (mkF m 0 #[(vr pa1), (vr pa2)] [])) t → Steps p.tables e below (s₁.setTop (entryFrame m #[(.ref pa1), (.ref pa2)] 2)) t := fun t k => castTop (ef_au2_2 m pa1 pa2) k
  have K0 := Keep.refl h0 [pa1]
  have hS0 := hS
  obtain ⟨S_wUNKNOWN, E_wUNKNOWN, S_wHELD, E_wHELD, S_wTRUE, E_wTRUE, S_wNOT_HELD, E_wNOT_HELD, S_wFALSE, E_wFALSE, F_ordinal_wUNKNOWN, F_ordinal_wTRUE, F_ordinal_wFALSE, F_truth_wHELD, F_truth_wNOT_HELD, M_wMT, S_wCS, N_wCS⟩ := hS0
  obtain ⟨cl1, Ar1, -, Sz1, Nn1, -, -⟩ := (id P3)
  obtain ⟨_, _, ⟨T2, L2, k2, n2⟩, -, X2, ⟨Lc2, hQ2, l2, y2, z2⟩, st2⟩ := X0.specialBack hx (y := M0) rfl hown (mvT hZ (ow hw 11 rfl)) (mvT hZ (ow hw 12 rfl)) (mvT hZ (ow hw 14 rfl)) (by decide) (backOf (W := 0) (au3_2 l Z a0 hw [] wUNKNOWN wHELD wTRUE wNOT_HELD wFALSE wMT wCS hS pa1 pa2 pk3 pi4 pi5 h0 n0 O0 P0 P1 P2 P3 P5 P6 P7) hZ (ow hw 14 rfl) (ow hw 6 rfl) (by decide) (by decide)) (g := (mkF m 6 #[(vr pa1), (vr pa2)] [.null, (.int 2), (.int 0), (.ref pa2), (.ref pa1)])) rfl (by rw [hml]; rfl) (Steps.refl _) (a := pa1) (argsL := [(.ref pa2), (.int 0), (.int 2), .null]) (rest := []) (lenOf pd_0 rfl) rfl (by show 2 * 0 + _ ≤ _; exact Nat.le_of_eq rfl) (hb hby d2_6) (fun _ _ => ⟨rfl, e0, (by decide : 0 + 1 ≤ _), (by decide : 0 + 2 ≤ _)⟩)
  dsimp only [Pt.U, Pt.locs, Pt.cells, Pt.slots] at X2 l2 y2 z2 st2 hQ2
  subst y2 z2
  obtain ⟨rfl, Nq2, K2q, p2_0⟩ := hQ2
  have N2 : Fr n0 L2 := (congrArg (Fr n0) l2).mpr (Fr.app N0 Nq2)
  have O3 : Old Z n0 T2.heap := O0.keep K2q (allS P7 all0)
  have K3 : Keep h0 T2.heap [pa1] := K0.trans K2q (allS (Or.inl (List.mem_of_getElem? (i := 0) rfl)) all0)
  obtain ⟨fs, hr, hrun, hended, hW, hsame⟩ := X2.leave (v := none) (fun _ => rfl)
  refine ⟨_, _, pre0 _ ?_, hrun, hended, _, _, rfl, ?_, ⟨_, rfl⟩, hW, hsame.mono (by decide) (by decide)⟩
  · skip
    show Steps p.tables e below (s₁.setTop (mkF m 0 #[(vr pa1), (vr pa2)] [])) _
    refine XS.aloadN X0.here hx rfl (hb hby d2_0) rfl rfl ?_
    refine XS.aloadN X0.here hx rfl (hb hby d2_1) rfl rfl ?_
    refine XS.iconst X0.here hx rfl (hb hby d2_2) ?_
    refine XS.aloadN X0.here hx rfl (hb hby d2_3) rfl rfl ?_
    refine X0.arraylength hx (by rw [e0]; exact Ar1.1) (State.isArrayOf_alike hZ.alike Ar1.2.1) (g := (mkF m 4 #[(vr pa1), (vr pa2)] [(.ref pa2), (.int 0), (.ref pa2), (.ref pa1)])) rfl rfl (hb hby d2_4) _ ?_
    rw [len_of Sz1 Nn1]
    refine XS.aconstNull X0.here hx rfl (hb hby d2_5) ?_
    refine st2.trans ?_
    exact X2.returnOut hx hret0 (hb hby d2_9) hr
  · show Q_au2_2 Z wUNKNOWN wHELD wTRUE wNOT_HELD wFALSE wMT wCS pa1 pa2 pk3 pi4 pi5 h0 n0 _ T2.heap _
    exact ⟨rfl, N2, K3, p2_0⟩
theorem d1_85 : decode method_2_code 85 = .ok (.areturn, 1) := by decide +kernel
def Q_au1_2 (Z : State) (wUNKNOWN : Addr) (wHELD : Addr) (wTRUE : Addr) (wNOT_HELD : Addr) (wFALSE : Addr) (wMT : Addr) (wCS : Int32) (pi1 : Int32) (pi2 : Int32) (pi3 : Int32) (h0 : Heap) (n0 : Nat) (v : Option Value) (h : Heap) (L : List Loc) : Prop := ∃ (e1 : Addr), v = some (.ref e1) ∧ Fr n0 L ∧ Keep h0 h [] ∧ h0.size ≤ e1 ∧ Exa Z h e1 s0n
theorem au1_2 (l : Launch) (Z : State) (a0 : Array Value) (hw : ∀ d ∈ tables_1, d.before a0 Z = true) (ws : List Jvm.Cond) (wUNKNOWN : Addr) (wHELD : Addr) (wTRUE : Addr) (wNOT_HELD : Addr) (wFALSE : Addr) (wMT : Addr) (wCS : Int32) (hS : SS Z wUNKNOWN wHELD wTRUE wNOT_HELD wFALSE wMT wCS) (pi1 : Int32) (pi2 : Int32) (pi3 : Int32) (h0 : Heap) (n0 : Nat) (O0 : Old Z n0 h0)  :
    MetB l M2 method_2_code 7 (some (.object s0n)) ws (rmk 4 3 8 66) Z h0 #[(.int 2), (.int pi1), (.int pi2), (.int pi3)] (Q_au1_2 Z wUNKNOWN wHELD wTRUE wNOT_HELD wFALSE wMT wCS pi1 pi2 pi3 h0 n0) := by
  refine own_body (plainFor_of_name pn_com_example_tuplecraft_tuplecraft_GrantUnknownPinLaw) ?_
  intro p e s m below meth c s₁ hx hby hml hown hnm hret0 hlk0 hZ X0 e0
  have N0 := Fr.nil n0
  have pre0 : ∀ t, Steps p.tables e below (s₁.setTop (mkF m 0 #[(vi 2), (vi pi1), (vi pi2), (vi pi3), .unset, .unset, .unset] [])) t → Steps p.tables e below (s₁.setTop (entryFrame m #[(.int 2), (.int pi1), (.int pi2), (.int pi3)] 7)) t := fun t k => castTop (ef_au1_2 m (2 : Int32) pi1 pi2 pi3) k
  have K0 := Keep.refl h0 []
  have hS0 := hS
  obtain ⟨S_wUNKNOWN, E_wUNKNOWN, S_wHELD, E_wHELD, S_wTRUE, E_wTRUE, S_wNOT_HELD, E_wNOT_HELD, S_wFALSE, E_wFALSE, F_ordinal_wUNKNOWN, F_ordinal_wTRUE, F_ordinal_wFALSE, F_truth_wHELD, F_truth_wNOT_HELD, M_wMT, S_wCS, N_wCS⟩ := hS0
  obtain ⟨ca, hca⟩ : ∃ z : Int32, z = ((pi1 &&& (255 : Int32)).toUInt32.toUInt16.toUInt32.toInt32) := ⟨_, rfl⟩
  have pre1 : ∀ t, Steps p.tables e below (s₁.setTop (mkF m 8 #[(vi 2), (vi pi1), (vi pi2), (vi pi3), (vi ca), .unset, .unset] [])) t → Steps p.tables e below (s₁.setTop (entryFrame m #[(.int 2), (.int pi1), (.int pi2), (.int pi3)] 7)) t := by
    intro t k
    rw [hca] at k
    refine pre0 t ?_
    show Steps p.tables e below (s₁.setTop (mkF m 0 #[(vi 2), (vi pi1), (vi pi2), (vi pi3), .unset, .unset, .unset] [])) _
    refine XS.iloadN X0.here hx rfl (hb hby d1_0) rfl ?_
    refine XS.sipush X0.here hx rfl (hb hby d1_1) ?_
    refine XS.iand X0.here hx rfl (hb hby d1_4) rfl ?_
    refine XS.i2c X0.here hx rfl (hb hby d1_5) rfl ?_
    refine XS.istore X0.here hx rfl (hb hby d1_6) rfl (l' := #[(vi 2), (vi pi1), (vi pi2), (vi pi3), .val (.int ((pi1 &&& (255 : Int32)).toUInt32.toUInt16.toUInt32.toInt32)), .unset, .unset]) rfl ?_
    exact k
  have hnca := own_chr hca
  have h255ca : ¬ (255 : Int32) < ca := hnca.1
  obtain ⟨cb, hcb⟩ : ∃ z : Int32, z = ((pi2 &&& (255 : Int32)).toUInt32.toUInt16.toUInt32.toInt32) := ⟨_, rfl⟩
  have pre2 : ∀ t, Steps p.tables e below (s₁.setTop (mkF m 16 #[(vi 2), (vi pi1), (vi pi2), (vi pi3), (vi ca), (vi cb), .unset] [])) t → Steps p.tables e below (s₁.setTop (entryFrame m #[(.int 2), (.int pi1), (.int pi2), (.int pi3)] 7)) t := by
    intro t k
    rw [hcb] at k
    refine pre1 t ?_
    show Steps p.tables e below (s₁.setTop (mkF m 8 #[(vi 2), (vi pi1), (vi pi2), (vi pi3), (vi ca), .unset, .unset] [])) _
    refine XS.iloadN X0.here hx rfl (hb hby d1_8) rfl ?_
    refine XS.sipush X0.here hx rfl (hb hby d1_9) ?_
    refine XS.iand X0.here hx rfl (hb hby d1_12) rfl ?_
    refine XS.i2c X0.here hx rfl (hb hby d1_13) rfl ?_
    refine XS.istore X0.here hx rfl (hb hby d1_14) rfl (l' := #[(vi 2), (vi pi1), (vi pi2), (vi pi3), (vi ca), .val (.int ((pi2 &&& (255 : Int32)).toUInt32.toUInt16.toUInt32.toInt32)), .unset]) rfl ?_
    exact k
  have hncb := own_chr hcb
  have h255cb : ¬ (255 : Int32) < cb := hncb.1
  obtain ⟨cc, hcc⟩ : ∃ z : Int32, z = ((pi3 &&& (255 : Int32)).toUInt32.toUInt16.toUInt32.toInt32) := ⟨_, rfl⟩
  have pre3 : ∀ t, Steps p.tables e below (s₁.setTop (mkF m 24 #[(vi 2), (vi pi1), (vi pi2), (vi pi3), (vi ca), (vi cb), (vi cc)] [])) t → Steps p.tables e below (s₁.setTop (entryFrame m #[(.int 2), (.int pi1), (.int pi2), (.int pi3)] 7)) t := by
    intro t k
    rw [hcc] at k
    refine pre2 t ?_
    show Steps p.tables e below (s₁.setTop (mkF m 16 #[(vi 2), (vi pi1), (vi pi2), (vi pi3), (vi ca), (vi cb), .unset] [])) _
    refine XS.iloadN X0.here hx rfl (hb hby d1_16) rfl ?_
    refine XS.sipush X0.here hx rfl (hb hby d1_17) ?_
    refine XS.iand X0.here hx rfl (hb hby d1_20) rfl ?_
    refine XS.i2c X0.here hx rfl (hb hby d1_21) rfl ?_
    refine XS.istore X0.here hx rfl (hb hby d1_22) rfl (l' := #[(vi 2), (vi pi1), (vi pi2), (vi pi3), (vi ca), (vi cb), .val (.int ((pi3 &&& (255 : Int32)).toUInt32.toUInt16.toUInt32.toInt32))]) rfl ?_
    exact k
  have hncc := own_chr hcc
  have h255cc : ¬ (255 : Int32) < cc := hncc.1
  obtain ⟨T4, h4, X4, e4, E4, A4, D4, -, st4⟩ := newO X0 hx hZ hown (ow hw 4 rfl) (ow hw 5 rfl) (ow hw 6 rfl) e0 (g := (mkF m 65 #[(vi 2), (vi pi1), (vi pi2), (vi pi3), (vi ca), (vi cb), (vi cc)] [])) rfl (hb hby d1_65) (by decide) (by decide)
  obtain ⟨b4, g4⟩ : ∃ z, z = h0.size := ⟨_, rfl⟩
  rw [← g4] at A4 D4 st4
  have g5 : n0 ≤ b4 := Nat.le_trans (own_sz O0) (Nat.le_of_eq g4.symm)
  have sz6 : h0.size ≤ b4 := Nat.le_trans K0.1 (Nat.le_of_eq g4.symm)
  have O7 : Old Z n0 h4 := O0.ext E4
  have K7 : Keep h0 h4 [] := K0.ext E4
  have f8 : Fld Z h4 b4 s0n "value" "[B" .null := D4 (Or.inr (ow hw 20 rfl)) (ty := (.array .byte)) (by decide)
  have f9 : Fld Z h4 b4 s0n "coder" "B" (.int 0) := D4 (Or.inr (ow hw 21 rfl)) (ty := .byte) (by decide)
  obtain ⟨T10, h10, k10, X10, e10, E10, A10, Z10, st10⟩ := newPE X4 hx hZ (ow hw 7 rfl) e4 (g := (mkF m 70 #[(vi 2), (vi pi1), (vi pi2), (vi pi3), (vi ca), (vi cb), (vi cc)] [(.int 2), (.ref b4), (.ref b4)])) rfl (hb hby d1_70) rfl (by decide) (cap := 2) (by decide) (by decide) (by decide) (by decide) (ad := "[C") rfl
  obtain ⟨b10, g10⟩ : ∃ z, z = h4.size := ⟨_, rfl⟩
  rw [← g10] at A10 Z10 st10
  have ne11 : b4 ≠ b10 := Nat.ne_of_lt (Nat.lt_of_lt_of_le A4.lt (Nat.le_of_eq g10.symm))
  have g12 : n0 ≤ b10 := Nat.le_trans (own_sz O7) (Nat.le_of_eq g10.symm)
  have sz13 : h0.size ≤ b10 := Nat.le_trans K7.1 (Nat.le_of_eq g10.symm)
  have O14 : Old Z n0 h10 := O7.ext E10
  have K14 : Keep h0 h10 [] := K7.ext E10
  have V10 : Arv Z h10 b10 k10 .char (2 : Int32) ([(.int 0), (.int 0)]) (.int 0) := (Arv.new A10 (by decide)).pad (pad_rep [] (.int 0) 2)
  obtain ⟨cl15, Ar15, qc15, Sz15, Nn15, Ha15, Gg15⟩ := (id V10)
  have hin15 : ¬ ((0 : Int32) < 0 ∨ cl15.slots.size ≤ ((0 : Int32)).toNatClampNeg) := inb_of Sz15 ⟨by decide, by decide⟩
  obtain ⟨T15, h15, X15, e15, W15, st15⟩ := stC X10 hx hZ e10 Ar15 (j := (0 : Int32)) hin15 (g := (mkF m 76 #[(vi 2), (vi pi1), (vi pi2), (vi pi3), (vi ca), (vi cb), (vi cc)] [(.int ca), (.int 0), (.ref b10), (.ref b10), (.ref b4), (.ref b4)])) rfl rfl (hb hby d1_76)
  have O16 : Old Z n0 h15 := O14.wr W15 g12
  have K16 : Keep h0 h15 [] := K14.wr W15 (Or.inr sz13)
  have V15 : Arv Z h15 b10 k10 .char (2 : Int32) ([(.int ca), (.int 0)]) (.int 0) := own_cast (by rw [hnca.2]; rfl) (Arv.set Ar15 qc15 Sz15 Nn15 Ha15 Gg15 (v := (.int (nar .char ca))) (fits_nar_char _) W15 0 rfl (Nat.le_of_ble_eq_true rfl))
  have N15 := Fr.snoc X15 N0 g12
  obtain ⟨cl17, Ar17, qc17, Sz17, Nn17, Ha17, Gg17⟩ := (id V15)
  have hin17 : ¬ ((1 : Int32) < 0 ∨ cl17.slots.size ≤ ((1 : Int32)).toNatClampNeg) := inb_of Sz17 ⟨by decide, by decide⟩
  obtain ⟨T17, h17, X17, e17, W17, st17⟩ := stC X15 hx hZ e15 Ar17 (j := (1 : Int32)) hin17 (g := (mkF m 81 #[(vi 2), (vi pi1), (vi pi2), (vi pi3), (vi ca), (vi cb), (vi cc)] [(.int cb), (.int 1), (.ref b10), (.ref b10), (.ref b4), (.ref b4)])) rfl rfl (hb hby d1_81)
  have O18 : Old Z n0 h17 := O16.wr W17 g12
  have K18 : Keep h0 h17 [] := K16.wr W17 (Or.inr sz13)
  have V17 : Arv Z h17 b10 k10 .char (2 : Int32) ([(.int ca), (.int cb)]) (.int 0) := own_cast (by rw [hncb.2]; rfl) (Arv.set Ar17 qc17 Sz17 Nn17 Ha17 Gg17 (v := (.int (nar .char cb))) (fits_nar_char _) W17 1 rfl (Nat.le_of_ble_eq_true rfl))
  have N17 := Fr.snoc X17 N15 g12
  have f19 : Exa Z h17 b4 s0n := (((A4.ext E10).wr W15).wr W17)
  have f20 : Fld Z h17 b4 s0n "coder" "B" (.int 0) := (((f9.ext E10).other W15 (Or.inl ne11)).other W17 (Or.inl ne11))
  have f21 : Fld Z h17 b4 s0n "value" "[B" .null := (((f8.ext E10).other W15 (Or.inl ne11)).other W17 (Or.inl ne11))
  obtain ⟨_, _, ⟨T22, L22, k22, n22⟩, -, X22, ⟨Lc22, hQ22, l22, y22, z22⟩, st22⟩ := X17.specialBack hx (y := M1) rfl hown (mvT hZ (ow hw 8 rfl)) (mvT hZ (ow hw 9 rfl)) (mvT hZ (ow hw 10 rfl)) (by decide) (backOf (W := 1) (au2_2 l Z a0 hw [] wUNKNOWN wHELD wTRUE wNOT_HELD wFALSE wMT wCS hS b4 b10 k10 ca cb h17 n0 O18 f19 f20 f21 V17 h255ca h255cb g5) hZ (ow hw 10 rfl) (ow hw 6 rfl) (by decide) (by decide)) (g := (mkF m 82 #[(vi 2), (vi pi1), (vi pi2), (vi pi3), (vi ca), (vi cb), (vi cc)] [(.ref b10), (.ref b4), (.ref b4)])) rfl (by rw [hml]; rfl) (Steps.refl _) (a := b4) (argsL := [(.ref b10)]) (rest := [(.ref b4)]) (lenOf pd_1 rfl) rfl (by show 2 * 0 + _ ≤ _; exact Nat.le_of_eq rfl) (hb hby d1_82) (fun _ _ => ⟨rfl, e17, (by decide : 2 + 1 ≤ _), (by decide : 6 + 2 ≤ _)⟩)
  dsimp only [Pt.U, Pt.locs, Pt.cells, Pt.slots] at X22 l22 y22 z22 st22 hQ22
  subst y22 z22
  obtain ⟨rfl, Nq22, K22q, p22_0⟩ := hQ22
  have N22 : Fr n0 L22 := (congrArg (Fr n0) l22).mpr (Fr.app N17 Nq22)
  have O23 : Old Z n0 T22.heap := O18.keep K22q (allS g5 all0)
  have K23 : Keep h0 T22.heap [] := K18.trans K22q (allS (Or.inr sz6) all0)
  obtain ⟨fs, hr, hrun, hended, hW, hsame⟩ := X22.leave (v := some (.ref b4)) (fun h => by rw [hret0] at h; cases h)
  refine ⟨_, _, pre3 _ ?_, hrun, hended, _, _, rfl, ?_, ⟨_, rfl⟩, hW, hsame.mono (by decide) (by decide)⟩
  · skip
    show Steps p.tables e below (s₁.setTop (mkF m 24 #[(vi 2), (vi pi1), (vi pi2), (vi pi3), (vi ca), (vi cb), (vi cc)] [])) _
    refine XS.iloadN X0.here hx rfl (hb hby d1_24) rfl ?_
    refine XS.ifYes X0.here hx rfl (pc0 := 25) (pc' := 39) rfl (hb hby d1_25) rfl ((if0 _ _).trans (feq (by decide : ¬ ((2 : Int32) = (0 : Int32)))).2) (by decide) (by decide) ?_
    refine XS.iloadN X0.here hx rfl (hb hby d1_39) rfl ?_
    refine XS.iconst X0.here hx rfl (hb hby d1_40) ?_
    refine XS.icmpYes X0.here hx rfl (pc0 := 41) (pc' := 60) rfl (hb hby d1_41) rfl (feq (by decide : ¬ ((2 : Int32) = (1 : Int32)))).2 (by decide) (by decide) ?_
    refine XS.iloadN X0.here hx rfl (hb hby d1_60) rfl ?_
    refine XS.iconst X0.here hx rfl (hb hby d1_61) ?_
    refine XS.icmpNo X0.here hx rfl (hb hby d1_62) rfl (teq (by decide : (2 : Int32) = (2 : Int32))).2 ?_
    show Steps p.tables e below (s₁.setTop (mkF m 65 #[(vi 2), (vi pi1), (vi pi2), (vi pi3), (vi ca), (vi cb), (vi cc)] [])) _
    refine st4 _ ?_
    refine XS.dup X4.here hx rfl (hb hby d1_68) rfl rfl ?_
    refine XS.iconst X4.here hx rfl (hb hby d1_69) ?_
    refine st10 _ ?_
    refine XS.dup X10.here hx rfl (hb hby d1_72) rfl rfl ?_
    refine XS.iconst X10.here hx rfl (hb hby d1_73) ?_
    refine XS.iload X10.here hx rfl (hb hby d1_74) rfl ?_
    refine st15 _ ?_
    show Steps p.tables e below (T15.setTop (mkF m 77 #[(vi 2), (vi pi1), (vi pi2), (vi pi3), (vi ca), (vi cb), (vi cc)] [(.ref b10), (.ref b4), (.ref b4)])) _
    refine XS.dup X15.here hx rfl (hb hby d1_77) rfl rfl ?_
    refine XS.iconst X15.here hx rfl (hb hby d1_78) ?_
    refine XS.iload X15.here hx rfl (hb hby d1_79) rfl ?_
    refine st17 _ ?_
    refine st22.trans ?_
    jvm_step X22.here [X22.here.top, hx, (hb hby d1_85), X22.method', hret0, Value.isRef, FieldType.isReference]
    first | (intro acts; rw [hr _ acts rfl rfl rfl]) | rw [hr _ _ rfl rfl rfl]
    exact Steps.refl _
  · show Q_au1_2 Z wUNKNOWN wHELD wTRUE wNOT_HELD wFALSE wMT wCS pi1 pi2 pi3 h0 n0 _ T22.heap _
    exact ⟨b4, rfl, N22, K23, sz6, p22_0⟩
theorem ef_au1_3 (m : MethodId) (x0 : Int32) (x1 : Int32) (x2 : Int32) (x3 : Int32)  : entryFrame m #[(.int x0), (.int x1), (.int x2), (.int x3)] 7 = mkF m 0 #[(vi x0), (vi x1), (vi x2), (vi x3), .unset, .unset, .unset] [] := by first | (simp [entryFrame, mkF, argsToLocals, Value.category]; done) | rfl
theorem d1_86 : decode method_2_code 86 = .ok (.new 7, 3) := by decide +kernel
theorem d1_89 : decode method_2_code 89 = .ok (.dup, 1) := by decide +kernel
theorem d1_90 : decode method_2_code 90 = .ok (.iconst 3, 1) := by decide +kernel
theorem d1_91 : decode method_2_code 91 = .ok (.newarray .char, 2) := by decide +kernel
theorem d1_93 : decode method_2_code 93 = .ok (.dup, 1) := by decide +kernel
theorem d1_94 : decode method_2_code 94 = .ok (.iconst 0, 1) := by decide +kernel
theorem d1_95 : decode method_2_code 95 = .ok (.iload 4, 2) := by decide +kernel
theorem d1_97 : decode method_2_code 97 = .ok (.castore, 1) := by decide +kernel
theorem d1_98 : decode method_2_code 98 = .ok (.dup, 1) := by decide +kernel
theorem d1_99 : decode method_2_code 99 = .ok (.iconst 1, 1) := by decide +kernel
theorem d1_100 : decode method_2_code 100 = .ok (.iload 5, 2) := by decide +kernel
theorem d1_102 : decode method_2_code 102 = .ok (.castore, 1) := by decide +kernel
theorem d1_103 : decode method_2_code 103 = .ok (.dup, 1) := by decide +kernel
theorem d1_104 : decode method_2_code 104 = .ok (.iconst 2, 1) := by decide +kernel
theorem d1_105 : decode method_2_code 105 = .ok (.iload 6, 2) := by decide +kernel
theorem d1_107 : decode method_2_code 107 = .ok (.castore, 1) := by decide +kernel
theorem d1_108 : decode method_2_code 108 = .ok (.invokespecial 9, 3) := by decide +kernel
theorem ef_au2_3 (m : MethodId) (x0 : Addr) (x1 : Addr)  : entryFrame m #[(.ref x0), (.ref x1)] 2 = mkF m 0 #[(vr x0), (vr x1)] [] := by first | (simp [entryFrame, mkF, argsToLocals, Value.category]; done) | rfl
theorem ef_au3_3 (m : MethodId) (x0 : Addr) (x1 : Addr) (x2 : Int32) (x3 : Int32)  : entryFrame m #[(.ref x0), (.ref x1), (.int x2), (.int x3), .null] 6 = mkF m 0 #[(vr x0), (vr x1), (vi x2), (vi x3), .val .null, .unset] [] := by first | (simp [entryFrame, mkF, argsToLocals, Value.category]; done) | rfl
theorem ef_au17_2 (m : MethodId) (x0 : Addr) (x1 : Int32) (x2 : Int32)  : entryFrame m #[(.ref x0), (.int x1), (.int x2)] 6 = mkF m 0 #[(vr x0), (vi x1), (vi x2), .unset, .unset, .unset] [] := by first | (simp [entryFrame, mkF, argsToLocals, Value.category]; done) | rfl
theorem ef_au18_2 (m : MethodId) (x0 : Addr) (x1 : Int32) (x2 : Addr) (x3 : Int32) (x4 : Int32)  : entryFrame m #[(.ref x0), (.int x1), (.ref x2), (.int x3), (.int x4)] 7 = mkF m 0 #[(vr x0), (vi x1), (vr x2), (vi x3), (vi x4), .unset, .unset] [] := by first | (simp [entryFrame, mkF, argsToLocals, Value.category]; done) | rfl
def Q_au18_2 (Z : State) (wUNKNOWN : Addr) (wHELD : Addr) (wTRUE : Addr) (wNOT_HELD : Addr) (wFALSE : Addr) (wMT : Addr) (wCS : Int32) (pa1 : Addr) (pa2 : Addr) (pk3 : ClassId) (pi4 : Int32) (pi5 : Int32) (pi6 : Int32) (pk7 : ClassId) (h0 : Heap) (n0 : Nat) (v : Option Value) (h : Heap) (L : List Loc) : Prop := v = some (.int 3) ∧ Fr n0 L ∧ Keep h0 h [pa2] ∧ Exa Z h pa2 "[B" ∧ Arv Z h pa2 pk7 .byte (3 : Int32) ([(.int (nar .byte (pi4.toInt8.toInt32))), (.int (nar .byte (pi5.toInt8.toInt32))), (.int (nar .byte (pi6.toInt8.toInt32)))]) (.int 0)
theorem au18_2 (l : Launch) (Z : State) (a0 : Array Value) (hw : ∀ d ∈ tables_1, d.before a0 Z = true) (ws : List Jvm.Cond) (wUNKNOWN : Addr) (wHELD : Addr) (wTRUE : Addr) (wNOT_HELD : Addr) (wFALSE : Addr) (wMT : Addr) (wCS : Int32) (hS : SS Z wUNKNOWN wHELD wTRUE wNOT_HELD wFALSE wMT wCS) (pa1 : Addr) (pa2 : Addr) (pk3 : ClassId) (pi4 : Int32) (pi5 : Int32) (pi6 : Int32) (pk7 : ClassId) (h0 : Heap) (n0 : Nat) (O0 : Old Z n0 h0) (P0 : Arv Z h0 pa1 pk3 .char (3 : Int32) ([(.int pi4), (.int pi5), (.int pi6)]) (.int 0)) (P2 : Arv Z h0 pa2 pk7 .byte (3 : Int32) ([(.int 0), (.int 0), (.int 0)]) (.int 0)) (P3 : Exa Z h0 pa2 "[B") (P4 : ¬ (255 : Int32) < pi4) (P5 : ¬ (255 : Int32) < pi5) (P6 : ¬ (255 : Int32) < pi6) (P8 : n0 ≤ pa2) (P9 : pa1 ≠ pa2) :
    MetB l M16 jdk_52_method_21_code 7 (some .int) ws (rmk 0 0 0 0) Z h0 #[(.ref pa1), (.int 0), (.ref pa2), (.int 0), (.int 3)] (Q_au18_2 Z wUNKNOWN wHELD wTRUE wNOT_HELD wFALSE wMT wCS pa1 pa2 pk3 pi4 pi5 pi6 pk7 h0 n0) := by
  refine own_body (plainFor_of_name pn_java_lang_StringUTF16) ?_
  intro p e s m below meth c s₁ hx hby hml hown hnm hret0 hlk0 hZ X0 e0
  have N0 := Fr.nil n0
  have pre0 : ∀ t, Steps p.tables e below (s₁.setTop (mkF m 0 #[(vr pa1), (vi 0), (vr pa2), (vi 0), (vi 3), .unset, .unset] [])) t → Steps p.tables e below (s₁.setTop (entryFrame m #[(.ref pa1), (.int 0), (.ref pa2), (.int 0), (.int 3)] 7)) t := fun t k => castTop (ef_au18_2 m pa1 (0 : Int32) pa2 (0 : Int32) (3 : Int32)) k
  have K0 := Keep.refl h0 [pa2]
  have hS0 := hS
  obtain ⟨S_wUNKNOWN, E_wUNKNOWN, S_wHELD, E_wHELD, S_wTRUE, E_wTRUE, S_wNOT_HELD, E_wNOT_HELD, S_wFALSE, E_wFALSE, F_ordinal_wUNKNOWN, F_ordinal_wTRUE, F_ordinal_wFALSE, F_truth_wHELD, F_truth_wNOT_HELD, M_wMT, S_wCS, N_wCS⟩ := hS0
  obtain ⟨cl1, Ar1, qc1, Sz1, Nn1, Ha1, Gg1⟩ := (id P0)
  have hin1 : ¬ ((0 : Int32) < 0 ∨ cl1.slots.size ≤ ((0 : Int32)).toNatClampNeg) := inb_of Sz1 ⟨by decide, by decide⟩
  have hat1 : cl1.slots[((0 : Int32)).toNatClampNeg]? = some (.int pi4) := Ha1.at hin1 rfl
  obtain ⟨cl2, Ar2, qc2, Sz2, Nn2, Ha2, Gg2⟩ := (id P2)
  have hin2 : ¬ ((0 : Int32) < 0 ∨ cl2.slots.size ≤ ((0 : Int32)).toNatClampNeg) := inb_of Sz2 ⟨by decide, by decide⟩
  obtain ⟨T2, h2, X2, e2, W2, st2⟩ := stB X0 hx hZ e0 Ar2 (j := (0 : Int32)) hin2 (g := (mkF m 31 #[(vr pa1), (vi 0), (vr pa2), (vi 0), (vi 3), (vi 0), (vi pi4)] [(.int (pi4.toInt8.toInt32)), (.int 0), (.ref pa2)])) rfl rfl (hb hby d18_31)
  have O3 : Old Z n0 h2 := O0.wr W2 P8
  have K3 : Keep h0 h2 [pa2] := K0.wr W2 (Or.inl (List.mem_of_getElem? (i := 0) rfl))
  have V2 : Arv Z h2 pa2 pk7 .byte (3 : Int32) ([(.int (nar .byte (pi4.toInt8.toInt32))), (.int 0), (.int 0)]) (.int 0) := (Arv.set Ar2 qc2 Sz2 Nn2 Ha2 Gg2 (v := (.int (nar .byte (pi4.toInt8.toInt32)))) (fits_nar_byte _) W2 0 rfl (Nat.le_of_ble_eq_true rfl))
  have N2 := Fr.snoc X2 N0 P8
  have f4 : Arv Z h2 pa1 pk3 .char (3 : Int32) ([(.int pi4), (.int pi5), (.int pi6)]) (.int 0) := (P0.other W2 P9)
  obtain ⟨cl5, Ar5, qc5, Sz5, Nn5, Ha5, Gg5⟩ := (id f4)
  have hin5 : ¬ ((1 : Int32) < 0 ∨ cl5.slots.size ≤ ((1 : Int32)).toNatClampNeg) := inb_of Sz5 ⟨by decide, by decide⟩
  have hat5 : cl5.slots[((1 : Int32)).toNatClampNeg]? = some (.int pi5) := Ha5.at hin5 rfl
  obtain ⟨cl6, Ar6, qc6, Sz6, Nn6, Ha6, Gg6⟩ := (id V2)
  have hin6 : ¬ ((1 : Int32) < 0 ∨ cl6.slots.size ≤ ((1 : Int32)).toNatClampNeg) := inb_of Sz6 ⟨by decide, by decide⟩
  obtain ⟨T6, h6, X6, e6, W6, st6⟩ := stB X2 hx hZ e2 Ar6 (j := (1 : Int32)) hin6 (g := (mkF m 31 #[(vr pa1), (vi 1), (vr pa2), (vi 1), (vi 3), (vi 1), (vi pi5)] [(.int (pi5.toInt8.toInt32)), (.int 1), (.ref pa2)])) rfl rfl (hb hby d18_31)
  have O7 : Old Z n0 h6 := O3.wr W6 P8
  have K7 : Keep h0 h6 [pa2] := K3.wr W6 (Or.inl (List.mem_of_getElem? (i := 0) rfl))
  have V6 : Arv Z h6 pa2 pk7 .byte (3 : Int32) ([(.int (nar .byte (pi4.toInt8.toInt32))), (.int (nar .byte (pi5.toInt8.toInt32))), (.int 0)]) (.int 0) := (Arv.set Ar6 qc6 Sz6 Nn6 Ha6 Gg6 (v := (.int (nar .byte (pi5.toInt8.toInt32)))) (fits_nar_byte _) W6 1 rfl (Nat.le_of_ble_eq_true rfl))
  have N6 := Fr.snoc X6 N2 P8
  have f8 : Arv Z h6 pa1 pk3 .char (3 : Int32) ([(.int pi4), (.int pi5), (.int pi6)]) (.int 0) := (f4.other W6 P9)
  obtain ⟨cl9, Ar9, qc9, Sz9, Nn9, Ha9, Gg9⟩ := (id f8)
  have hin9 : ¬ ((2 : Int32) < 0 ∨ cl9.slots.size ≤ ((2 : Int32)).toNatClampNeg) := inb_of Sz9 ⟨by decide, by decide⟩
  have hat9 : cl9.slots[((2 : Int32)).toNatClampNeg]? = some (.int pi6) := Ha9.at hin9 rfl
  obtain ⟨cl10, Ar10, qc10, Sz10, Nn10, Ha10, Gg10⟩ := (id V6)
  have hin10 : ¬ ((2 : Int32) < 0 ∨ cl10.slots.size ≤ ((2 : Int32)).toNatClampNeg) := inb_of Sz10 ⟨by decide, by decide⟩
  obtain ⟨T10, h10, X10, e10, W10, st10⟩ := stB X6 hx hZ e6 Ar10 (j := (2 : Int32)) hin10 (g := (mkF m 31 #[(vr pa1), (vi 2), (vr pa2), (vi 2), (vi 3), (vi 2), (vi pi6)] [(.int (pi6.toInt8.toInt32)), (.int 2), (.ref pa2)])) rfl rfl (hb hby d18_31)
  have O11 : Old Z n0 h10 := O7.wr W10 P8
  have K11 : Keep h0 h10 [pa2] := K7.wr W10 (Or.inl (List.mem_of_getElem? (i := 0) rfl))
  have V10 : Arv Z h10 pa2 pk7 .byte (3 : Int32) ([(.int (nar .byte (pi4.toInt8.toInt32))), (.int (nar .byte (pi5.toInt8.toInt32))), (.int (nar .byte (pi6.toInt8.toInt32)))]) (.int 0) := (Arv.set Ar10 qc10 Sz10 Nn10 Ha10 Gg10 (v := (.int (nar .byte (pi6.toInt8.toInt32)))) (fits_nar_byte _) W10 2 rfl (Nat.le_of_ble_eq_true rfl))
  have N10 := Fr.snoc X10 N6 P8
  have f12 : Exa Z h10 pa2 "[B" := (((P3.wr W2).wr W6).wr W10)
  obtain ⟨fs, hr, hrun, hended, hW, hsame⟩ := X10.leave (v := some (.int 3)) (fun h => by rw [hret0] at h; cases h)
  refine ⟨_, _, pre0 _ ?_, hrun, hended, _, _, rfl, ?_, ⟨_, rfl⟩, hW, hsame.mono (by decide) (by decide)⟩
  · skip
    show Steps p.tables e below (s₁.setTop (mkF m 0 #[(vr pa1), (vi 0), (vr pa2), (vi 0), (vi 3), .unset, .unset] [])) _
    refine XS.iconst X0.here hx rfl (hb hby d18_0) ?_
    refine XS.istore X0.here hx rfl (hb hby d18_1) rfl (l' := #[(vr pa1), (vi 0), (vr pa2), (vi 0), (vi 3), (vi 0), .unset]) rfl ?_
    refine XS.iload X0.here hx rfl (hb hby d18_3) rfl ?_
    refine XS.iload X0.here hx rfl (hb hby d18_5) rfl ?_
    refine XS.icmpNo X0.here hx rfl (hb hby d18_7) rfl (tlt (by decide : (0 : Int32) < (3 : Int32))).2.1 ?_
    refine XS.aloadN X0.here hx rfl (hb hby d18_10) rfl rfl ?_
    refine XS.iloadN X0.here hx rfl (hb hby d18_11) rfl ?_
    refine X0.caload hx (j := (0 : Int32)) (v := (.int pi4)) (by rw [e0]; exact Ar1.1) (State.isArrayOf_alike hZ.alike Ar1.2.1) Ar1.2.2 hin1 hat1 (g := (mkF m 12 #[(vr pa1), (vi 0), (vr pa2), (vi 0), (vi 3), (vi 0), .unset] [(.int 0), (.ref pa1)])) rfl rfl (hb hby d18_12) _ ?_
    show Steps p.tables e below (s₁.setTop (mkF m 13 #[(vr pa1), (vi 0), (vr pa2), (vi 0), (vi 3), (vi 0), .unset] [(.int pi4)])) _
    refine XS.istore X0.here hx rfl (hb hby d18_13) rfl (l' := #[(vr pa1), (vi 0), (vr pa2), (vi 0), (vi 3), (vi 0), (vi pi4)]) rfl ?_
    refine XS.iload X0.here hx rfl (hb hby d18_15) rfl ?_
    refine XS.sipush X0.here hx rfl (hb hby d18_17) ?_
    refine XS.icmpYes X0.here hx rfl (pc0 := 20) (pc' := 26) rfl (hb hby d18_20) rfl (flt (P4 : ¬ ((255 : Int32) < pi4))).2.2.2 (by decide) (by decide) ?_
    refine XS.aloadN X0.here hx rfl (hb hby d18_26) rfl rfl ?_
    refine XS.iloadN X0.here hx rfl (hb hby d18_27) rfl ?_
    refine XS.iload X0.here hx rfl (hb hby d18_28) rfl ?_
    refine XS.i2b X0.here hx rfl (hb hby d18_30) rfl ?_
    show Steps p.tables e below (s₁.setTop (mkF m 31 #[(vr pa1), (vi 0), (vr pa2), (vi 0), (vi 3), (vi 0), (vi pi4)] [(.int (pi4.toInt8.toInt32)), (.int 0), (.ref pa2)])) _
    refine st2 _ ?_
    refine XS.iinc X2.here hx rfl (hb hby d18_32) rfl (l' := #[(vr pa1), (vi 1), (vr pa2), (vi 0), (vi 3), (vi 0), (vi pi4)]) rfl ?_
    refine XS.iinc X2.here hx rfl (hb hby d18_35) rfl (l' := #[(vr pa1), (vi 1), (vr pa2), (vi 1), (vi 3), (vi 0), (vi pi4)]) rfl ?_
    refine XS.iinc X2.here hx rfl (hb hby d18_38) rfl (l' := #[(vr pa1), (vi 1), (vr pa2), (vi 1), (vi 3), (vi 1), (vi pi4)]) rfl ?_
    refine XS.goto X2.here hx rfl (pc0 := 41) (pc' := 3) rfl (hb hby d18_41) (by decide) (by decide) ?_
    refine XS.iload X2.here hx rfl (hb hby d18_3) rfl ?_
    refine XS.iload X2.here hx rfl (hb hby d18_5) rfl ?_
    refine XS.icmpNo X2.here hx rfl (hb hby d18_7) rfl (tlt (by decide : (1 : Int32) < (3 : Int32))).2.1 ?_
    show Steps p.tables e below (T2.setTop (mkF m 10 #[(vr pa1), (vi 1), (vr pa2), (vi 1), (vi 3), (vi 1), (vi pi4)] [])) _
    refine XS.aloadN X2.here hx rfl (hb hby d18_10) rfl rfl ?_
    refine XS.iloadN X2.here hx rfl (hb hby d18_11) rfl ?_
    refine X2.caload hx (j := (1 : Int32)) (v := (.int pi5)) (by rw [e2]; exact Ar5.1) (State.isArrayOf_alike hZ.alike Ar5.2.1) Ar5.2.2 hin5 hat5 (g := (mkF m 12 #[(vr pa1), (vi 1), (vr pa2), (vi 1), (vi 3), (vi 1), (vi pi4)] [(.int 1), (.ref pa1)])) rfl rfl (hb hby d18_12) _ ?_
    refine XS.istore X2.here hx rfl (hb hby d18_13) rfl (l' := #[(vr pa1), (vi 1), (vr pa2), (vi 1), (vi 3), (vi 1), (vi pi5)]) rfl ?_
    refine XS.iload X2.here hx rfl (hb hby d18_15) rfl ?_
    refine XS.sipush X2.here hx rfl (hb hby d18_17) ?_
    refine XS.icmpYes X2.here hx rfl (pc0 := 20) (pc' := 26) rfl (hb hby d18_20) rfl (flt (P5 : ¬ ((255 : Int32) < pi5))).2.2.2 (by decide) (by decide) ?_
    refine XS.aloadN X2.here hx rfl (hb hby d18_26) rfl rfl ?_
    show Steps p.tables e below (T2.setTop (mkF m 27 #[(vr pa1), (vi 1), (vr pa2), (vi 1), (vi 3), (vi 1), (vi pi5)] [(.ref pa2)])) _
    refine XS.iloadN X2.here hx rfl (hb hby d18_27) rfl ?_
    refine XS.iload X2.here hx rfl (hb hby d18_28) rfl ?_
    refine XS.i2b X2.here hx rfl (hb hby d18_30) rfl ?_
    refine st6 _ ?_
    refine XS.iinc X6.here hx rfl (hb hby d18_32) rfl (l' := #[(vr pa1), (vi 2), (vr pa2), (vi 1), (vi 3), (vi 1), (vi pi5)]) rfl ?_
    refine XS.iinc X6.here hx rfl (hb hby d18_35) rfl (l' := #[(vr pa1), (vi 2), (vr pa2), (vi 2), (vi 3), (vi 1), (vi pi5)]) rfl ?_
    refine XS.iinc X6.here hx rfl (hb hby d18_38) rfl (l' := #[(vr pa1), (vi 2), (vr pa2), (vi 2), (vi 3), (vi 2), (vi pi5)]) rfl ?_
    refine XS.goto X6.here hx rfl (pc0 := 41) (pc' := 3) rfl (hb hby d18_41) (by decide) (by decide) ?_
    show Steps p.tables e below (T6.setTop (mkF m 3 #[(vr pa1), (vi 2), (vr pa2), (vi 2), (vi 3), (vi 2), (vi pi5)] [])) _
    refine XS.iload X6.here hx rfl (hb hby d18_3) rfl ?_
    refine XS.iload X6.here hx rfl (hb hby d18_5) rfl ?_
    refine XS.icmpNo X6.here hx rfl (hb hby d18_7) rfl (tlt (by decide : (2 : Int32) < (3 : Int32))).2.1 ?_
    refine XS.aloadN X6.here hx rfl (hb hby d18_10) rfl rfl ?_
    refine XS.iloadN X6.here hx rfl (hb hby d18_11) rfl ?_
    refine X6.caload hx (j := (2 : Int32)) (v := (.int pi6)) (by rw [e6]; exact Ar9.1) (State.isArrayOf_alike hZ.alike Ar9.2.1) Ar9.2.2 hin9 hat9 (g := (mkF m 12 #[(vr pa1), (vi 2), (vr pa2), (vi 2), (vi 3), (vi 2), (vi pi5)] [(.int 2), (.ref pa1)])) rfl rfl (hb hby d18_12) _ ?_
    refine XS.istore X6.here hx rfl (hb hby d18_13) rfl (l' := #[(vr pa1), (vi 2), (vr pa2), (vi 2), (vi 3), (vi 2), (vi pi6)]) rfl ?_
    refine XS.iload X6.here hx rfl (hb hby d18_15) rfl ?_
    show Steps p.tables e below (T6.setTop (mkF m 17 #[(vr pa1), (vi 2), (vr pa2), (vi 2), (vi 3), (vi 2), (vi pi6)] [(.int pi6)])) _
    refine XS.sipush X6.here hx rfl (hb hby d18_17) ?_
    refine XS.icmpYes X6.here hx rfl (pc0 := 20) (pc' := 26) rfl (hb hby d18_20) rfl (flt (P6 : ¬ ((255 : Int32) < pi6))).2.2.2 (by decide) (by decide) ?_
    refine XS.aloadN X6.here hx rfl (hb hby d18_26) rfl rfl ?_
    refine XS.iloadN X6.here hx rfl (hb hby d18_27) rfl ?_
    refine XS.iload X6.here hx rfl (hb hby d18_28) rfl ?_
    refine XS.i2b X6.here hx rfl (hb hby d18_30) rfl ?_
    refine st10 _ ?_
    refine XS.iinc X10.here hx rfl (hb hby d18_32) rfl (l' := #[(vr pa1), (vi 3), (vr pa2), (vi 2), (vi 3), (vi 2), (vi pi6)]) rfl ?_
    show Steps p.tables e below (T10.setTop (mkF m 35 #[(vr pa1), (vi 3), (vr pa2), (vi 2), (vi 3), (vi 2), (vi pi6)] [])) _
    refine XS.iinc X10.here hx rfl (hb hby d18_35) rfl (l' := #[(vr pa1), (vi 3), (vr pa2), (vi 3), (vi 3), (vi 2), (vi pi6)]) rfl ?_
    refine XS.iinc X10.here hx rfl (hb hby d18_38) rfl (l' := #[(vr pa1), (vi 3), (vr pa2), (vi 3), (vi 3), (vi 3), (vi pi6)]) rfl ?_
    refine XS.goto X10.here hx rfl (pc0 := 41) (pc' := 3) rfl (hb hby d18_41) (by decide) (by decide) ?_
    refine XS.iload X10.here hx rfl (hb hby d18_3) rfl ?_
    refine XS.iload X10.here hx rfl (hb hby d18_5) rfl ?_
    refine XS.icmpYes X10.here hx rfl (pc0 := 7) (pc' := 44) rfl (hb hby d18_7) rfl (flt (by decide : ¬ ((3 : Int32) < (3 : Int32)))).2.1 (by decide) (by decide) ?_
    refine XS.iload X10.here hx rfl (hb hby d18_44) rfl ?_
    exact retI X10 hx hret0 (hb hby d18_46) hr
  · show Q_au18_2 Z wUNKNOWN wHELD wTRUE wNOT_HELD wFALSE wMT wCS pa1 pa2 pk3 pi4 pi5 pi6 pk7 h0 n0 _ T10.heap _
    rw [e10]
    exact ⟨rfl, N10, K11, f12, V10⟩
def Q_au17_2 (Z : State) (wUNKNOWN : Addr) (wHELD : Addr) (wTRUE : Addr) (wNOT_HELD : Addr) (wFALSE : Addr) (wMT : Addr) (wCS : Int32) (pa1 : Addr) (pk2 : ClassId) (pi3 : Int32) (pi4 : Int32) (pi5 : Int32) (h0 : Heap) (n0 : Nat) (v : Option Value) (h : Heap) (L : List Loc) : Prop := ∃ (e1 : Addr) (e2 : ClassId), v = some (.ref e1) ∧ Fr n0 L ∧ Keep h0 h [] ∧ h0.size ≤ e1 ∧ Exa Z h e1 "[B" ∧ Arv Z h e1 e2 .byte (3 : Int32) ([(.int (nar .byte (pi3.toInt8.toInt32))), (.int (nar .byte (pi4.toInt8.toInt32))), (.int (nar .byte (pi5.toInt8.toInt32)))]) (.int 0)
theorem au17_2 (l : Launch) (Z : State) (a0 : Array Value) (hw : ∀ d ∈ tables_1, d.before a0 Z = true) (ws : List Jvm.Cond) (wUNKNOWN : Addr) (wHELD : Addr) (wTRUE : Addr) (wNOT_HELD : Addr) (wFALSE : Addr) (wMT : Addr) (wCS : Int32) (hS : SS Z wUNKNOWN wHELD wTRUE wNOT_HELD wFALSE wMT wCS) (pa1 : Addr) (pk2 : ClassId) (pi3 : Int32) (pi4 : Int32) (pi5 : Int32) (h0 : Heap) (n0 : Nat) (O0 : Old Z n0 h0) (P0 : Arv Z h0 pa1 pk2 .char (3 : Int32) ([(.int pi3), (.int pi4), (.int pi5)]) (.int 0)) (P2 : ¬ (255 : Int32) < pi3) (P3 : ¬ (255 : Int32) < pi4) (P4 : ¬ (255 : Int32) < pi5) :
    MetB l M17 jdk_52_method_16_code 6 (some (.array .byte)) ws (rmk 1 1 3 18) Z h0 #[(.ref pa1), (.int 0), (.int 3)] (Q_au17_2 Z wUNKNOWN wHELD wTRUE wNOT_HELD wFALSE wMT wCS pa1 pk2 pi3 pi4 pi5 h0 n0) := by
  refine own_body (plainFor_of_name pn_java_lang_StringUTF16) ?_
  intro p e s m below meth c s₁ hx hby hml hown hnm hret0 hlk0 hZ X0 e0
  have N0 := Fr.nil n0
  have pre0 : ∀ t, Steps p.tables e below (s₁.setTop (mkF m 0 #[(vr pa1), (vi 0), (vi 3), .unset, .unset, .unset] [])) t → Steps p.tables e below (s₁.setTop (entryFrame m #[(.ref pa1), (.int 0), (.int 3)] 6)) t := fun t k => castTop (ef_au17_2 m pa1 (0 : Int32) (3 : Int32)) k
  have K0 := Keep.refl h0 []
  have hS0 := hS
  obtain ⟨S_wUNKNOWN, E_wUNKNOWN, S_wHELD, E_wHELD, S_wTRUE, E_wTRUE, S_wNOT_HELD, E_wNOT_HELD, S_wFALSE, E_wFALSE, F_ordinal_wUNKNOWN, F_ordinal_wTRUE, F_ordinal_wFALSE, F_truth_wHELD, F_truth_wNOT_HELD, M_wMT, S_wCS, N_wCS⟩ := hS0
  obtain ⟨T1, h1, k1, X1, e1, E1, A1, Z1, st1⟩ := newPE X0 hx hZ (ow hw 19 rfl) e0 (g := (mkF m 1 #[(vr pa1), (vi 0), (vi 3), .unset, .unset, .unset] [(.int 3)])) rfl (hb hby d17_1) rfl (by decide) (cap := 3) (by decide) (by decide) (by decide) (by decide) (ad := "[B") rfl
  obtain ⟨b1, g1⟩ : ∃ z, z = h0.size := ⟨_, rfl⟩
  rw [← g1] at A1 Z1 st1
  have ne2 : pa1 ≠ b1 := Nat.ne_of_lt (Nat.lt_of_lt_of_le P0.lt (Nat.le_of_eq g1.symm))
  have g3 : n0 ≤ b1 := Nat.le_trans (own_sz O0) (Nat.le_of_eq g1.symm)
  have sz4 : h0.size ≤ b1 := Nat.le_trans K0.1 (Nat.le_of_eq g1.symm)
  have O5 : Old Z n0 h1 := O0.ext E1
  have K5 : Keep h0 h1 [] := K0.ext E1
  have V1 : Arv Z h1 b1 k1 .byte (3 : Int32) ([(.int 0), (.int 0), (.int 0)]) (.int 0) := (Arv.new A1 (by decide)).pad (pad_rep [] (.int 0) 3)
  have f6 : Arv Z h1 pa1 pk2 .char (3 : Int32) ([(.int pi3), (.int pi4), (.int pi5)]) (.int 0) := (P0.ext E1)
  obtain ⟨_, _, ⟨T7, L7, k7, n7⟩, -, X7, ⟨Lc7, hQ7, l7, y7, z7⟩, st7⟩ := Jvm.LawKit.callS X1 hx (y := M16) hown (mvT hZ (ow hw 109 rfl)) (mvT hZ (ow hw 110 rfl)) (mvT hZ (ow hw 107 rfl)) (mvT hZ (ow hw 111 rfl)) (by decide) (backOf (W := 0) (au18_2 l Z a0 hw [] wUNKNOWN wHELD wTRUE wNOT_HELD wFALSE wMT wCS hS pa1 b1 pk2 pi3 pi4 pi5 k1 h1 n0 O5 f6 V1 Z1 P2 P3 P4 g3 ne2) hZ (ow hw 111 rfl) (ow hw 107 rfl) (by decide) (by decide)) (g := (mkF m 9 #[(vr pa1), (vi 0), (vi 3), (vr b1), .unset, .unset] [(.int 3), (.int 0), (.ref b1), (.int 0), (.ref pa1)])) rfl (by rw [hml]; rfl) (argsL := [(.ref pa1), (.int 0), (.ref b1), (.int 0), (.int 3)]) (rest := []) (lenOf pd_15 rfl) rfl (by show 2 * 0 + _ ≤ _; exact Nat.le_of_eq rfl) (hb hby d17_9) (fun _ _ => ⟨rfl, e1, (by decide : 1 + 0 ≤ _), (by decide : 3 + 0 ≤ _)⟩)
  dsimp only [Pt.U, Pt.locs, Pt.cells, Pt.slots] at X7 l7 y7 z7 st7 hQ7
  subst y7 z7
  obtain ⟨rfl, Nq7, K7q, p7_0, p7_1⟩ := hQ7
  have N7 : Fr n0 L7 := (congrArg (Fr n0) l7).mpr (Fr.app N0 Nq7)
  have O8 : Old Z n0 T7.heap := O5.keep K7q (allS g3 all0)
  have K8 : Keep h0 T7.heap [] := K5.trans K7q (allS (Or.inr sz4) all0)
  obtain ⟨fs, hr, hrun, hended, hW, hsame⟩ := X7.leave (v := some (.ref b1)) (fun h => by rw [hret0] at h; cases h)
  refine ⟨_, _, pre0 _ ?_, hrun, hended, _, _, rfl, ?_, ⟨_, rfl⟩, hW, hsame.mono (by decide) (by decide)⟩
  · skip
    show Steps p.tables e below (s₁.setTop (mkF m 0 #[(vr pa1), (vi 0), (vi 3), .unset, .unset, .unset] [])) _
    refine XS.iloadN X0.here hx rfl (hb hby d17_0) rfl ?_
    refine st1 _ ?_
    refine XS.astoreN X1.here hx rfl (hb hby d17_3) rfl rfl (l' := #[(vr pa1), (vi 0), (vi 3), (vr b1), .unset, .unset]) rfl ?_
    refine XS.aloadN X1.here hx rfl (hb hby d17_4) rfl rfl ?_
    refine XS.iloadN X1.here hx rfl (hb hby d17_5) rfl ?_
    refine XS.aloadN X1.here hx rfl (hb hby d17_6) rfl rfl ?_
    refine XS.iconst X1.here hx rfl (hb hby d17_7) ?_
    refine XS.iloadN X1.here hx rfl (hb hby d17_8) rfl ?_
    show Steps p.tables e below (T1.setTop (mkF m 9 #[(vr pa1), (vi 0), (vi 3), (vr b1), .unset, .unset] [(.int 3), (.int 0), (.ref b1), (.int 0), (.ref pa1)])) _
    refine st7 _ ?_
    refine XS.istore X7.here hx rfl (hb hby d17_12) rfl (l' := #[(vr pa1), (vi 0), (vi 3), (vr b1), (vi 3), .unset]) rfl ?_
    refine XS.iload X7.here hx rfl (hb hby d17_14) rfl ?_
    refine XS.iloadN X7.here hx rfl (hb hby d17_16) rfl ?_
    refine XS.icmpYes X7.here hx rfl (pc0 := 17) (pc' := 57) rfl (hb hby d17_17) rfl (teq (by decide : (3 : Int32) = (3 : Int32))).1 (by decide) (by decide) ?_
    refine XS.aloadN X7.here hx rfl (hb hby d17_57) rfl rfl ?_
    jvm_step X7.here [X7.here.top, hx, (hb hby d17_58), X7.method', hret0, Value.isRef, FieldType.isReference]
    first | (intro acts; rw [hr _ acts rfl rfl rfl]) | rw [hr _ _ rfl rfl rfl]
    exact Steps.refl _
  · show Q_au17_2 Z wUNKNOWN wHELD wTRUE wNOT_HELD wFALSE wMT wCS pa1 pk2 pi3 pi4 pi5 h0 n0 _ T7.heap _
    exact ⟨b1, k1, rfl, N7, K8, sz4, p7_0, p7_1⟩
theorem ef_au19_2 (m : MethodId) (x0 : Addr) (x1 : Int32)  : entryFrame m #[(.ref x0), (.int x1)] 2 = mkF m 0 #[(vr x0), (vi x1)] [] := by first | (simp [entryFrame, mkF, argsToLocals, Value.category]; done) | rfl
def Q_au19_2 (Z : State) (wUNKNOWN : Addr) (wHELD : Addr) (wTRUE : Addr) (wNOT_HELD : Addr) (wFALSE : Addr) (wMT : Addr) (wCS : Int32) (pa1 : Addr) (pk2 : ClassId) (pi3 : Int32) (pi4 : Int32) (pi5 : Int32) (h0 : Heap) (n0 : Nat) (v : Option Value) (h : Heap) (L : List Loc) : Prop := v = some (.int 0) ∧ Fr n0 L ∧ h = h0
theorem au19_2 (l : Launch) (Z : State) (a0 : Array Value) (hw : ∀ d ∈ tables_1, d.before a0 Z = true) (ws : List Jvm.Cond) (wUNKNOWN : Addr) (wHELD : Addr) (wTRUE : Addr) (wNOT_HELD : Addr) (wFALSE : Addr) (wMT : Addr) (wCS : Int32) (hS : SS Z wUNKNOWN wHELD wTRUE wNOT_HELD wFALSE wMT wCS) (pa1 : Addr) (pk2 : ClassId) (pi3 : Int32) (pi4 : Int32) (pi5 : Int32) (h0 : Heap) (n0 : Nat) (O0 : Old Z n0 h0) (P0 : Arv Z h0 pa1 pk2 .byte (3 : Int32) ([(.int pi3), (.int pi4), (.int pi5)]) (.int 0)) :
    MetB l M18 jdk_52_method_15_code 2 (some .byte) ws (rmk 0 0 0 0) Z h0 #[(.ref pa1), (.int 3)] (Q_au19_2 Z wUNKNOWN wHELD wTRUE wNOT_HELD wFALSE wMT wCS pa1 pk2 pi3 pi4 pi5 h0 n0) := by
  refine own_body (plainFor_of_name pn_java_lang_StringUTF16) ?_
  intro p e s m below meth c s₁ hx hby hml hown hnm hret0 hlk0 hZ X0 e0
  have N0 := Fr.nil n0
  have pre0 : ∀ t, Steps p.tables e below (s₁.setTop (mkF m 0 #[(vr pa1), (vi 3)] [])) t → Steps p.tables e below (s₁.setTop (entryFrame m #[(.ref pa1), (.int 3)] 2)) t := fun t k => castTop (ef_au19_2 m pa1 (3 : Int32)) k
  have hS0 := hS
  obtain ⟨S_wUNKNOWN, E_wUNKNOWN, S_wHELD, E_wHELD, S_wTRUE, E_wTRUE, S_wNOT_HELD, E_wNOT_HELD, S_wFALSE, E_wFALSE, F_ordinal_wUNKNOWN, F_ordinal_wTRUE, F_ordinal_wFALSE, F_truth_wHELD, F_truth_wNOT_HELD, M_wMT, S_wCS, N_wCS⟩ := hS0
  obtain ⟨cl1, Ar1, -, Sz1, Nn1, -, -⟩ := (id P0)
  have pre2 : ∀ t, Steps p.tables e below (s₁.setTop (mkF m 8 #[(vr pa1), (vi 3)] [(.int 0)])) t → Steps p.tables e below (s₁.setTop (entryFrame m #[(.ref pa1), (.int 3)] 2)) t := by
    intro t k
    refine pre0 t ?_
    show Steps p.tables e below (s₁.setTop (mkF m 0 #[(vr pa1), (vi 3)] [])) _
    refine XS.iloadN X0.here hx rfl (hb hby d19_0) rfl ?_
    refine XS.aloadN X0.here hx rfl (hb hby d19_1) rfl rfl ?_
    refine X0.arraylength hx (by rw [e0]; exact Ar1.1) (State.isArrayOf_alike hZ.alike Ar1.2.1) (g := (mkF m 2 #[(vr pa1), (vi 3)] [(.ref pa1), (.int 3)])) rfl rfl (hb hby d19_2) _ ?_
    rw [len_of Sz1 Nn1]
    refine XS.isub X0.here hx rfl (hb hby d19_3) rfl ?_
    refine XS.bipush X0.here hx rfl (hb hby d19_4) ?_
    refine XS.iushr X0.here hx rfl (hb hby d19_6) rfl ?_
    refine XS.i2b X0.here hx rfl (hb hby d19_7) rfl ?_
    show Steps p.tables e below (s₁.setTop (mkF m 8 #[(vr pa1), (vi 3)] [(.int ((((0 : Int32).toUInt32 >>> ((31 : Int32) &&& 31).toUInt32).toInt32).toInt8.toInt32))])) _
    rw [(by decide : ((((0 : Int32).toUInt32 >>> ((31 : Int32) &&& 31).toUInt32).toInt32).toInt8.toInt32) = (0 : Int32))]
    exact k
  obtain ⟨fs, hr, hrun, hended, hW, hsame⟩ := X0.leave (v := some (.int 0)) (fun h => by rw [hret0] at h; cases h)
  refine ⟨_, _, pre2 _ ?_, hrun, hended, _, _, rfl, ?_, ⟨_, rfl⟩, hW, hsame.mono (by decide) (by decide)⟩
  · skip
    show Steps p.tables e below (s₁.setTop (mkF m 8 #[(vr pa1), (vi 3)] [(.int 0)])) _
    exact retN X0 hx (t := .byte) hret0 (by simp) (hb hby d19_8) hr
  · show Q_au19_2 Z wUNKNOWN wHELD wTRUE wNOT_HELD wFALSE wMT wCS pa1 pk2 pi3 pi4 pi5 h0 n0 _ s₁.heap _
    rw [e0]
    exact ⟨rfl, N0, rfl⟩
def Q_au3_3 (Z : State) (wUNKNOWN : Addr) (wHELD : Addr) (wTRUE : Addr) (wNOT_HELD : Addr) (wFALSE : Addr) (wMT : Addr) (wCS : Int32) (pa1 : Addr) (pa2 : Addr) (pk3 : ClassId) (pi4 : Int32) (pi5 : Int32) (pi6 : Int32) (h0 : Heap) (n0 : Nat) (v : Option Value) (h : Heap) (L : List Loc) : Prop := v = none ∧ Fr n0 L ∧ Keep h0 h [pa1] ∧ Exa Z h pa1 s0n
theorem au3_3 (l : Launch) (Z : State) (a0 : Array Value) (hw : ∀ d ∈ tables_1, d.before a0 Z = true) (ws : List Jvm.Cond) (wUNKNOWN : Addr) (wHELD : Addr) (wTRUE : Addr) (wNOT_HELD : Addr) (wFALSE : Addr) (wMT : Addr) (wCS : Int32) (hS : SS Z wUNKNOWN wHELD wTRUE wNOT_HELD wFALSE wMT wCS) (pa1 : Addr) (pa2 : Addr) (pk3 : ClassId) (pi4 : Int32) (pi5 : Int32) (pi6 : Int32) (h0 : Heap) (n0 : Nat) (O0 : Old Z n0 h0) (P0 : Exa Z h0 pa1 s0n) (P1 : Fld Z h0 pa1 s0n "coder" "B" (.int 0)) (P2 : Fld Z h0 pa1 s0n "value" "[B" .null) (P3 : Arv Z h0 pa2 pk3 .char (3 : Int32) ([(.int pi4), (.int pi5), (.int pi6)]) (.int 0)) (P5 : ¬ (255 : Int32) < pi4) (P6 : ¬ (255 : Int32) < pi5) (P7 : ¬ (255 : Int32) < pi6) (P8 : n0 ≤ pa1) :
    MetB l M0 jdk_42_method_149_code 6 none ws (rmk 2 1 3 35) Z h0 #[(.ref pa1), (.ref pa2), (.int 0), (.int 3), .null] (Q_au3_3 Z wUNKNOWN wHELD wTRUE wNOT_HELD wFALSE wMT wCS pa1 pa2 pk3 pi4 pi5 pi6 h0 n0) := by
  refine own_body (plainFor_of_name pn_java_lang_String) ?_
  intro p e s m below meth c s₁ hx hby hml hown hnm hret0 hlk0 hZ X0 e0
  have N0 := Fr.nil n0
  have pre0 : ∀ t, Steps p.tables e below (s₁.setTop (mkF m 0 #[(vr pa1), (vr pa2), (vi 0), (vi 3), .val .null, .unset] [])) t → Steps p.tables e below (s₁.setTop (entryFrame m #[(.ref pa1), (.ref pa2), (.int 0), (.int 3), .null] 6)) t := fun t k => castTop (ef_au3_3 m pa1 pa2 (0 : Int32) (3 : Int32)) k
  have K0 := Keep.refl h0 [pa1]
  have hS0 := hS
  obtain ⟨S_wUNKNOWN, E_wUNKNOWN, S_wHELD, E_wHELD, S_wTRUE, E_wTRUE, S_wNOT_HELD, E_wNOT_HELD, S_wFALSE, E_wFALSE, F_ordinal_wUNKNOWN, F_ordinal_wTRUE, F_ordinal_wFALSE, F_truth_wHELD, F_truth_wNOT_HELD, M_wMT, S_wCS, N_wCS⟩ := hS0
  obtain ⟨T1, X1, e1, st1⟩ := initO X0 hx hZ hown (ow hw 15 rfl) (ow hw 16 rfl) (ow hw 17 rfl) e0 (g := (mkF m 1 #[(vr pa1), (vr pa2), (vi 0), (vi 3), .val .null, .unset] [(.ref pa1)])) rfl (by rw [hml]; rfl) rfl (hb hby d3_1) (by decide) (W := 0) (by show 2 * 0 + _ ≤ _; exact Nat.le_of_eq rfl) (by decide)
  obtain ⟨T2, X2, e2, st2⟩ := getS2 X1 hx hZ hown (host := "") (Or.inl (ow hw 29 rfl)) Via.refl e1 (S_wCS.ext O0.2) (g := (mkF m 27 #[(vr pa1), (vr pa2), (vi 0), (vi 3), .val .null, .unset] [])) rfl (hb hby d3_27)
  obtain ⟨_, _, ⟨T3, L3, k3, n3⟩, -, X3, ⟨Lc3, hQ3, l3, y3, z3⟩, st3⟩ := Jvm.LawKit.callS X2 hx (y := M17) hown (mvT hZ (ow hw 105 rfl)) (mvT hZ (ow hw 106 rfl)) (mvT hZ (ow hw 107 rfl)) (mvT hZ (ow hw 108 rfl)) (by decide) (backOf (W := 0) (au17_2 l Z a0 hw [] wUNKNOWN wHELD wTRUE wNOT_HELD wFALSE wMT wCS hS pa2 pk3 pi4 pi5 pi6 h0 n0 O0 P3 P5 P6 P7) hZ (ow hw 108 rfl) (ow hw 107 rfl) (by decide) (by decide)) (g := (mkF m 36 #[(vr pa1), (vr pa2), (vi 0), (vi 3), .val .null, .unset] [(.int 3), (.int 0), (.ref pa2)])) rfl (by rw [hml]; rfl) (argsL := [(.ref pa2), (.int 0), (.int 3)]) (rest := []) (lenOf pd_16 rfl) rfl (by show 2 * 0 + _ ≤ _; exact Nat.le_of_eq rfl) (hb hby d3_36) (fun _ _ => ⟨rfl, e2, (by decide : 0 + 1 ≤ _), (by decide : 0 + 3 ≤ _)⟩)
  dsimp only [Pt.U, Pt.locs, Pt.cells, Pt.slots] at X3 l3 y3 z3 st3 hQ3
  subst y3 z3
  obtain ⟨e1_3, e2_3, rfl, Nq3, K3q, p3_0, p3_1, p3_2⟩ := hQ3
  have N3 : Fr n0 L3 := (congrArg (Fr n0) l3).mpr (Fr.app N0 Nq3)
  have ne4 : pa1 ≠ e1_3 := Nat.ne_of_lt (Nat.lt_of_lt_of_le P0.lt p3_0)
  have ne5 : pa2 ≠ e1_3 := Nat.ne_of_lt (Nat.lt_of_lt_of_le P3.lt p3_0)
  have g6 : n0 ≤ e1_3 := Nat.le_trans (own_sz O0) p3_0
  have sz7 : h0.size ≤ e1_3 := Nat.le_trans K0.1 p3_0
  have O8 : Old Z n0 T3.heap := O0.keep K3q all0
  have K8 : Keep h0 T3.heap [pa1] := K0.trans K3q all0
  obtain ⟨_, _, ⟨T9, L9, k9, n9⟩, -, X9, ⟨Lc9, hQ9, l9, y9, z9⟩, st9⟩ := Jvm.LawKit.callS X3 hx (y := M18) hown (mvT hZ (ow hw 112 rfl)) (mvT hZ (ow hw 113 rfl)) (mvT hZ (ow hw 107 rfl)) (mvT hZ (ow hw 114 rfl)) (by decide) (backOf (W := 1) (au19_2 l Z a0 hw [] wUNKNOWN wHELD wTRUE wNOT_HELD wFALSE wMT wCS hS e1_3 e2_3 (nar .byte (pi4.toInt8.toInt32)) (nar .byte (pi5.toInt8.toInt32)) (nar .byte (pi6.toInt8.toInt32)) T3.heap n0 O8 p3_2) hZ (ow hw 114 rfl) (ow hw 107 rfl) (by decide) (by decide)) (g := (mkF m 45 #[(vr pa1), (vr pa2), (vi 0), (vi 3), .val .null, (vr e1_3)] [(.int 3), (.ref e1_3), (.ref pa1)])) rfl (by rw [hml]; rfl) (argsL := [(.ref e1_3), (.int 3)]) (rest := [(.ref pa1)]) (lenOf pd_17 rfl) rfl (by show 2 * 0 + _ ≤ _; exact Nat.le_of_eq rfl) (hb hby d3_45) (fun _ _ => ⟨rfl, rfl, (by decide : 1 + 0 ≤ _), (by decide : 3 + 0 ≤ _)⟩)
  dsimp only [Pt.U, Pt.locs, Pt.cells, Pt.slots] at X9 l9 y9 z9 st9 hQ9
  subst y9 z9
  obtain ⟨rfl, Nq9, K9q⟩ := hQ9
  have N9 : Fr n0 L9 := (congrArg (Fr n0) l9).mpr (Fr.app N3 Nq9)
  have f10 : Exa Z T3.heap pa1 s0n := (P0.keep K3q)
  have f11 : Fld Z T3.heap pa1 s0n "coder" "B" (.int 0) := (P1.keep K3q nin0)
  obtain ⟨T12, h12, X12, e12, W12, st12⟩ := putFN X9 hx hZ hown (ow hw 25 rfl) Via.refl K9q f11 f10 (Or.inr ⟨(ow hw 21 rfl), rfl, hnm⟩) (ow hw 5 rfl) (ty := .byte) (v' := (.int 0)) (by decide) rfl rfl (g := (mkF m 48 #[(vr pa1), (vr pa2), (vi 0), (vi 3), .val .null, (vr e1_3)] [(.int 0), (.ref pa1)])) rfl rfl (hb hby d3_48)
  have N12 := Fr.snoc X12 N9 P8
  have O13 : Old Z n0 h12 := O8.wr W12 P8
  have K13 : Keep h0 h12 [pa1] := K8.wr W12 (Or.inl (List.mem_of_getElem? (i := 0) rfl))
  have Fw12 : Fld Z h12 pa1 s0n "coder" "B" (.int 0) := f11.same W12
  have f14 : Exa Z h12 pa1 s0n := (f10.wr W12)
  have f15 : Fld Z h12 pa1 s0n "value" "[B" .null := ((P2.keep K3q nin0).other W12 (Or.inr (slot_ne (Or.inr (ow hw 20 rfl)) (Or.inr (ow hw 21 rfl)) (by decide) (t := (.array .byte)) (t' := .byte) (by decide) (by decide))))
  obtain ⟨T16, h16, X16, e16, W16, st16⟩ := putF X12 hx hZ hown (host := "") (Or.inl (ow hw 24 rfl)) Via.refl e12 f15 f14 (Or.inr ⟨(ow hw 20 rfl), rfl, hnm⟩) (ow hw 5 rfl) (ty := (.array .byte)) (by decide) rfl rfl (g := (mkF m 54 #[(vr pa1), (vr pa2), (vi 0), (vi 3), .val .null, (vr e1_3)] [(.ref e1_3), (.ref pa1)])) rfl rfl (hb hby d3_54)
  have N16 := Fr.snoc X16 N12 P8
  have O17 : Old Z n0 h16 := O13.wr W16 P8
  have K17 : Keep h0 h16 [pa1] := K13.wr W16 (Or.inl (List.mem_of_getElem? (i := 0) rfl))
  have Fw16 : Fld Z h16 pa1 s0n "value" "[B" (.ref e1_3) := f15.same W16
  have f18 : Exa Z h16 pa1 s0n := (f14.wr W16)
  obtain ⟨fs, hr, hrun, hended, hW, hsame⟩ := X16.leave (v := none) (fun _ => rfl)
  refine ⟨_, _, pre0 _ ?_, hrun, hended, _, _, rfl, ?_, ⟨_, rfl⟩, hW, hsame.mono (by decide) (by decide)⟩
  · skip
    show Steps p.tables e below (s₁.setTop (mkF m 0 #[(vr pa1), (vr pa2), (vi 0), (vi 3), .val .null, .unset] [])) _
    refine XS.aloadN X0.here hx rfl (hb hby d3_0) rfl rfl ?_
    refine st1 _ ?_
    refine XS.iloadN X1.here hx rfl (hb hby d3_4) rfl ?_
    refine XS.ifYes X1.here hx rfl (pc0 := 5) (pc' := 27) rfl (hb hby d3_5) rfl ((if0 _ _).trans (feq (by decide : ¬ ((3 : Int32) = (0 : Int32)))).2) (by decide) (by decide) ?_
    refine st2 _ ?_
    refine XS.ifNo X2.here hx rfl (hb hby d3_30) rfl ((if0 _ _).trans (feq (N_wCS : ¬ (wCS = (0 : Int32)))).1) ?_
    refine XS.aloadN X2.here hx rfl (hb hby d3_33) rfl rfl ?_
    refine XS.iloadN X2.here hx rfl (hb hby d3_34) rfl ?_
    show Steps p.tables e below (T2.setTop (mkF m 35 #[(vr pa1), (vr pa2), (vi 0), (vi 3), .val .null, .unset] [(.int 0), (.ref pa2)])) _
    refine XS.iloadN X2.here hx rfl (hb hby d3_35) rfl ?_
    refine st3 _ ?_
    refine XS.astore X3.here hx rfl (hb hby d3_39) rfl rfl (l' := #[(vr pa1), (vr pa2), (vi 0), (vi 3), .val .null, (vr e1_3)]) rfl ?_
    refine XS.aloadN X3.here hx rfl (hb hby d3_41) rfl rfl ?_
    refine XS.aload X3.here hx rfl (hb hby d3_42) rfl rfl ?_
    refine XS.iloadN X3.here hx rfl (hb hby d3_44) rfl ?_
    refine st9 _ ?_
    refine st12 _ ?_
    show Steps p.tables e below (T12.setTop (mkF m 51 #[(vr pa1), (vr pa2), (vi 0), (vi 3), .val .null, (vr e1_3)] [])) _
    refine XS.aloadN X12.here hx rfl (hb hby d3_51) rfl rfl ?_
    refine XS.aload X12.here hx rfl (hb hby d3_52) rfl rfl ?_
    refine st16 _ ?_
    exact X16.returnOut hx hret0 (hb hby d3_57) hr
  · show Q_au3_3 Z wUNKNOWN wHELD wTRUE wNOT_HELD wFALSE wMT wCS pa1 pa2 pk3 pi4 pi5 pi6 h0 n0 _ T16.heap _
    rw [e16]
    exact ⟨rfl, N16, K17, f18⟩
def Q_au2_3 (Z : State) (wUNKNOWN : Addr) (wHELD : Addr) (wTRUE : Addr) (wNOT_HELD : Addr) (wFALSE : Addr) (wMT : Addr) (wCS : Int32) (pa1 : Addr) (pa2 : Addr) (pk3 : ClassId) (pi4 : Int32) (pi5 : Int32) (pi6 : Int32) (h0 : Heap) (n0 : Nat) (v : Option Value) (h : Heap) (L : List Loc) : Prop := v = none ∧ Fr n0 L ∧ Keep h0 h [pa1] ∧ Exa Z h pa1 s0n
theorem au2_3 (l : Launch) (Z : State) (a0 : Array Value) (hw : ∀ d ∈ tables_1, d.before a0 Z = true) (ws : List Jvm.Cond) (wUNKNOWN : Addr) (wHELD : Addr) (wTRUE : Addr) (wNOT_HELD : Addr) (wFALSE : Addr) (wMT : Addr) (wCS : Int32) (hS : SS Z wUNKNOWN wHELD wTRUE wNOT_HELD wFALSE wMT wCS) (pa1 : Addr) (pa2 : Addr) (pk3 : ClassId) (pi4 : Int32) (pi5 : Int32) (pi6 : Int32) (h0 : Heap) (n0 : Nat) (O0 : Old Z n0 h0) (P0 : Exa Z h0 pa1 s0n) (P1 : Fld Z h0 pa1 s0n "coder" "B" (.int 0)) (P2 : Fld Z h0 pa1 s0n "value" "[B" .null) (P3 : Arv Z h0 pa2 pk3 .char (3 : Int32) ([(.int pi4), (.int pi5), (.int pi6)]) (.int 0)) (P5 : ¬ (255 : Int32) < pi4) (P6 : ¬ (255 : Int32) < pi5) (P7 : ¬ (255 : Int32) < pi6) (P8 : n0 ≤ pa1) :
    MetB l M1 jdk_42_method_3_code 2 none ws (rmk 3 1 3 52) Z h0 #[(.ref pa1), (.ref pa2)] (Q_au2_3 Z wUNKNOWN wHELD wTRUE wNOT_HELD wFALSE wMT wCS pa1 pa2 pk3 pi4 pi5 pi6 h0 n0) := by
  refine own_body (plainFor_of_name pn_java_lang_String) ?_
  intro p e s m below meth c s₁ hx hby hml hown hnm hret0 hlk0 hZ X0 e0
  have N0 := Fr.nil n0
  have pre0 : ∀ t, Steps p.tables e below (s₁.setTop (mkF m 0 #[(vr pa1), (vr pa2)] [])) t → Steps p.tables e below (s₁.setTop (entryFrame m #[(.ref pa1), (.ref pa2)] 2)) t := fun t k => castTop (ef_au2_3 m pa1 pa2) k
  have K0 := Keep.refl h0 [pa1]
  have hS0 := hS
  obtain ⟨S_wUNKNOWN, E_wUNKNOWN, S_wHELD, E_wHELD, S_wTRUE, E_wTRUE, S_wNOT_HELD, E_wNOT_HELD, S_wFALSE, E_wFALSE, F_ordinal_wUNKNOWN, F_ordinal_wTRUE, F_ordinal_wFALSE, F_truth_wHELD, F_truth_wNOT_HELD, M_wMT, S_wCS, N_wCS⟩ := hS0
  obtain ⟨cl1, Ar1, -, Sz1, Nn1, -, -⟩ := (id P3)
  obtain ⟨_, _, ⟨T2, L2, k2, n2⟩, -, X2, ⟨Lc2, hQ2, l2, y2, z2⟩, st2⟩ := X0.specialBack hx (y := M0) rfl hown (mvT hZ (ow hw 11 rfl)) (mvT hZ (ow hw 12 rfl)) (mvT hZ (ow hw 14 rfl)) (by decide) (backOf (W := 0) (au3_3 l Z a0 hw [] wUNKNOWN wHELD wTRUE wNOT_HELD wFALSE wMT wCS hS pa1 pa2 pk3 pi4 pi5 pi6 h0 n0 O0 P0 P1 P2 P3 P5 P6 P7 P8) hZ (ow hw 14 rfl) (ow hw 6 rfl) (by decide) (by decide)) (g := (mkF m 6 #[(vr pa1), (vr pa2)] [.null, (.int 3), (.int 0), (.ref pa2), (.ref pa1)])) rfl (by rw [hml]; rfl) (Steps.refl _) (a := pa1) (argsL := [(.ref pa2), (.int 0), (.int 3), .null]) (rest := []) (lenOf pd_0 rfl) rfl (by show 2 * 0 + _ ≤ _; exact Nat.le_of_eq rfl) (hb hby d2_6) (fun _ _ => ⟨rfl, e0, (by decide : 0 + 1 ≤ _), (by decide : 0 + 3 ≤ _)⟩)
  dsimp only [Pt.U, Pt.locs, Pt.cells, Pt.slots] at X2 l2 y2 z2 st2 hQ2
  subst y2 z2
  obtain ⟨rfl, Nq2, K2q, p2_0⟩ := hQ2
  have N2 : Fr n0 L2 := (congrArg (Fr n0) l2).mpr (Fr.app N0 Nq2)
  have O3 : Old Z n0 T2.heap := O0.keep K2q (allS P8 all0)
  have K3 : Keep h0 T2.heap [pa1] := K0.trans K2q (allS (Or.inl (List.mem_of_getElem? (i := 0) rfl)) all0)
  obtain ⟨fs, hr, hrun, hended, hW, hsame⟩ := X2.leave (v := none) (fun _ => rfl)
  refine ⟨_, _, pre0 _ ?_, hrun, hended, _, _, rfl, ?_, ⟨_, rfl⟩, hW, hsame.mono (by decide) (by decide)⟩
  · skip
    show Steps p.tables e below (s₁.setTop (mkF m 0 #[(vr pa1), (vr pa2)] [])) _
    refine XS.aloadN X0.here hx rfl (hb hby d2_0) rfl rfl ?_
    refine XS.aloadN X0.here hx rfl (hb hby d2_1) rfl rfl ?_
    refine XS.iconst X0.here hx rfl (hb hby d2_2) ?_
    refine XS.aloadN X0.here hx rfl (hb hby d2_3) rfl rfl ?_
    refine X0.arraylength hx (by rw [e0]; exact Ar1.1) (State.isArrayOf_alike hZ.alike Ar1.2.1) (g := (mkF m 4 #[(vr pa1), (vr pa2)] [(.ref pa2), (.int 0), (.ref pa2), (.ref pa1)])) rfl rfl (hb hby d2_4) _ ?_
    rw [len_of Sz1 Nn1]
    refine XS.aconstNull X0.here hx rfl (hb hby d2_5) ?_
    refine st2.trans ?_
    exact X2.returnOut hx hret0 (hb hby d2_9) hr
  · show Q_au2_3 Z wUNKNOWN wHELD wTRUE wNOT_HELD wFALSE wMT wCS pa1 pa2 pk3 pi4 pi5 pi6 h0 n0 _ T2.heap _
    exact ⟨rfl, N2, K3, p2_0⟩
theorem d1_111 : decode method_2_code 111 = .ok (.areturn, 1) := by decide +kernel
def Q_au1_3 (Z : State) (wUNKNOWN : Addr) (wHELD : Addr) (wTRUE : Addr) (wNOT_HELD : Addr) (wFALSE : Addr) (wMT : Addr) (wCS : Int32) (pi1 : Int32) (pi2 : Int32) (pi3 : Int32) (h0 : Heap) (n0 : Nat) (v : Option Value) (h : Heap) (L : List Loc) : Prop := ∃ (e1 : Addr), v = some (.ref e1) ∧ Fr n0 L ∧ Keep h0 h [] ∧ h0.size ≤ e1 ∧ Exa Z h e1 s0n
theorem au1_3 (l : Launch) (Z : State) (a0 : Array Value) (hw : ∀ d ∈ tables_1, d.before a0 Z = true) (ws : List Jvm.Cond) (wUNKNOWN : Addr) (wHELD : Addr) (wTRUE : Addr) (wNOT_HELD : Addr) (wFALSE : Addr) (wMT : Addr) (wCS : Int32) (hS : SS Z wUNKNOWN wHELD wTRUE wNOT_HELD wFALSE wMT wCS) (pi1 : Int32) (pi2 : Int32) (pi3 : Int32) (h0 : Heap) (n0 : Nat) (O0 : Old Z n0 h0)  :
    MetB l M2 method_2_code 7 (some (.object s0n)) ws (rmk 4 3 10 66) Z h0 #[(.int 3), (.int pi1), (.int pi2), (.int pi3)] (Q_au1_3 Z wUNKNOWN wHELD wTRUE wNOT_HELD wFALSE wMT wCS pi1 pi2 pi3 h0 n0) := by
  refine own_body (plainFor_of_name pn_com_example_tuplecraft_tuplecraft_GrantUnknownPinLaw) ?_
  intro p e s m below meth c s₁ hx hby hml hown hnm hret0 hlk0 hZ X0 e0
  have N0 := Fr.nil n0
  have pre0 : ∀ t, Steps p.tables e below (s₁.setTop (mkF m 0 #[(vi 3), (vi pi1), (vi pi2), (vi pi3), .unset, .unset, .unset] [])) t → Steps p.tables e below (s₁.setTop (entryFrame m #[(.int 3), (.int pi1), (.int pi2), (.int pi3)] 7)) t := fun t k => castTop (ef_au1_3 m (3 : Int32) pi1 pi2 pi3) k
  have K0 := Keep.refl h0 []
  have hS0 := hS
  obtain ⟨S_wUNKNOWN, E_wUNKNOWN, S_wHELD, E_wHELD, S_wTRUE, E_wTRUE, S_wNOT_HELD, E_wNOT_HELD, S_wFALSE, E_wFALSE, F_ordinal_wUNKNOWN, F_ordinal_wTRUE, F_ordinal_wFALSE, F_truth_wHELD, F_truth_wNOT_HELD, M_wMT, S_wCS, N_wCS⟩ := hS0
  obtain ⟨ca, hca⟩ : ∃ z : Int32, z = ((pi1 &&& (255 : Int32)).toUInt32.toUInt16.toUInt32.toInt32) := ⟨_, rfl⟩
  have pre1 : ∀ t, Steps p.tables e below (s₁.setTop (mkF m 8 #[(vi 3), (vi pi1), (vi pi2), (vi pi3), (vi ca), .unset, .unset] [])) t → Steps p.tables e below (s₁.setTop (entryFrame m #[(.int 3), (.int pi1), (.int pi2), (.int pi3)] 7)) t := by
    intro t k
    rw [hca] at k
    refine pre0 t ?_
    show Steps p.tables e below (s₁.setTop (mkF m 0 #[(vi 3), (vi pi1), (vi pi2), (vi pi3), .unset, .unset, .unset] [])) _
    refine XS.iloadN X0.here hx rfl (hb hby d1_0) rfl ?_
    refine XS.sipush X0.here hx rfl (hb hby d1_1) ?_
    refine XS.iand X0.here hx rfl (hb hby d1_4) rfl ?_
    refine XS.i2c X0.here hx rfl (hb hby d1_5) rfl ?_
    refine XS.istore X0.here hx rfl (hb hby d1_6) rfl (l' := #[(vi 3), (vi pi1), (vi pi2), (vi pi3), .val (.int ((pi1 &&& (255 : Int32)).toUInt32.toUInt16.toUInt32.toInt32)), .unset, .unset]) rfl ?_
    exact k
  have hnca := own_chr hca
  have h255ca : ¬ (255 : Int32) < ca := hnca.1
  obtain ⟨cb, hcb⟩ : ∃ z : Int32, z = ((pi2 &&& (255 : Int32)).toUInt32.toUInt16.toUInt32.toInt32) := ⟨_, rfl⟩
  have pre2 : ∀ t, Steps p.tables e below (s₁.setTop (mkF m 16 #[(vi 3), (vi pi1), (vi pi2), (vi pi3), (vi ca), (vi cb), .unset] [])) t → Steps p.tables e below (s₁.setTop (entryFrame m #[(.int 3), (.int pi1), (.int pi2), (.int pi3)] 7)) t := by
    intro t k
    rw [hcb] at k
    refine pre1 t ?_
    show Steps p.tables e below (s₁.setTop (mkF m 8 #[(vi 3), (vi pi1), (vi pi2), (vi pi3), (vi ca), .unset, .unset] [])) _
    refine XS.iloadN X0.here hx rfl (hb hby d1_8) rfl ?_
    refine XS.sipush X0.here hx rfl (hb hby d1_9) ?_
    refine XS.iand X0.here hx rfl (hb hby d1_12) rfl ?_
    refine XS.i2c X0.here hx rfl (hb hby d1_13) rfl ?_
    refine XS.istore X0.here hx rfl (hb hby d1_14) rfl (l' := #[(vi 3), (vi pi1), (vi pi2), (vi pi3), (vi ca), .val (.int ((pi2 &&& (255 : Int32)).toUInt32.toUInt16.toUInt32.toInt32)), .unset]) rfl ?_
    exact k
  have hncb := own_chr hcb
  have h255cb : ¬ (255 : Int32) < cb := hncb.1
  obtain ⟨cc, hcc⟩ : ∃ z : Int32, z = ((pi3 &&& (255 : Int32)).toUInt32.toUInt16.toUInt32.toInt32) := ⟨_, rfl⟩
  have pre3 : ∀ t, Steps p.tables e below (s₁.setTop (mkF m 24 #[(vi 3), (vi pi1), (vi pi2), (vi pi3), (vi ca), (vi cb), (vi cc)] [])) t → Steps p.tables e below (s₁.setTop (entryFrame m #[(.int 3), (.int pi1), (.int pi2), (.int pi3)] 7)) t := by
    intro t k
    rw [hcc] at k
    refine pre2 t ?_
    show Steps p.tables e below (s₁.setTop (mkF m 16 #[(vi 3), (vi pi1), (vi pi2), (vi pi3), (vi ca), (vi cb), .unset] [])) _
    refine XS.iloadN X0.here hx rfl (hb hby d1_16) rfl ?_
    refine XS.sipush X0.here hx rfl (hb hby d1_17) ?_
    refine XS.iand X0.here hx rfl (hb hby d1_20) rfl ?_
    refine XS.i2c X0.here hx rfl (hb hby d1_21) rfl ?_
    refine XS.istore X0.here hx rfl (hb hby d1_22) rfl (l' := #[(vi 3), (vi pi1), (vi pi2), (vi pi3), (vi ca), (vi cb), .val (.int ((pi3 &&& (255 : Int32)).toUInt32.toUInt16.toUInt32.toInt32))]) rfl ?_
    exact k
  have hncc := own_chr hcc
  have h255cc : ¬ (255 : Int32) < cc := hncc.1
  obtain ⟨T4, h4, X4, e4, E4, A4, D4, -, st4⟩ := newO X0 hx hZ hown (ow hw 4 rfl) (ow hw 5 rfl) (ow hw 6 rfl) e0 (g := (mkF m 86 #[(vi 3), (vi pi1), (vi pi2), (vi pi3), (vi ca), (vi cb), (vi cc)] [])) rfl (hb hby d1_86) (by decide) (by decide)
  obtain ⟨b4, g4⟩ : ∃ z, z = h0.size := ⟨_, rfl⟩
  rw [← g4] at A4 D4 st4
  have g5 : n0 ≤ b4 := Nat.le_trans (own_sz O0) (Nat.le_of_eq g4.symm)
  have sz6 : h0.size ≤ b4 := Nat.le_trans K0.1 (Nat.le_of_eq g4.symm)
  have O7 : Old Z n0 h4 := O0.ext E4
  have K7 : Keep h0 h4 [] := K0.ext E4
  have f8 : Fld Z h4 b4 s0n "value" "[B" .null := D4 (Or.inr (ow hw 20 rfl)) (ty := (.array .byte)) (by decide)
  have f9 : Fld Z h4 b4 s0n "coder" "B" (.int 0) := D4 (Or.inr (ow hw 21 rfl)) (ty := .byte) (by decide)
  obtain ⟨T10, h10, k10, X10, e10, E10, A10, Z10, st10⟩ := newPE X4 hx hZ (ow hw 7 rfl) e4 (g := (mkF m 91 #[(vi 3), (vi pi1), (vi pi2), (vi pi3), (vi ca), (vi cb), (vi cc)] [(.int 3), (.ref b4), (.ref b4)])) rfl (hb hby d1_91) rfl (by decide) (cap := 3) (by decide) (by decide) (by decide) (by decide) (ad := "[C") rfl
  obtain ⟨b10, g10⟩ : ∃ z, z = h4.size := ⟨_, rfl⟩
  rw [← g10] at A10 Z10 st10
  have ne11 : b4 ≠ b10 := Nat.ne_of_lt (Nat.lt_of_lt_of_le A4.lt (Nat.le_of_eq g10.symm))
  have g12 : n0 ≤ b10 := Nat.le_trans (own_sz O7) (Nat.le_of_eq g10.symm)
  have sz13 : h0.size ≤ b10 := Nat.le_trans K7.1 (Nat.le_of_eq g10.symm)
  have O14 : Old Z n0 h10 := O7.ext E10
  have K14 : Keep h0 h10 [] := K7.ext E10
  have V10 : Arv Z h10 b10 k10 .char (3 : Int32) ([(.int 0), (.int 0), (.int 0)]) (.int 0) := (Arv.new A10 (by decide)).pad (pad_rep [] (.int 0) 3)
  obtain ⟨cl15, Ar15, qc15, Sz15, Nn15, Ha15, Gg15⟩ := (id V10)
  have hin15 : ¬ ((0 : Int32) < 0 ∨ cl15.slots.size ≤ ((0 : Int32)).toNatClampNeg) := inb_of Sz15 ⟨by decide, by decide⟩
  obtain ⟨T15, h15, X15, e15, W15, st15⟩ := stC X10 hx hZ e10 Ar15 (j := (0 : Int32)) hin15 (g := (mkF m 97 #[(vi 3), (vi pi1), (vi pi2), (vi pi3), (vi ca), (vi cb), (vi cc)] [(.int ca), (.int 0), (.ref b10), (.ref b10), (.ref b4), (.ref b4)])) rfl rfl (hb hby d1_97)
  have O16 : Old Z n0 h15 := O14.wr W15 g12
  have K16 : Keep h0 h15 [] := K14.wr W15 (Or.inr sz13)
  have V15 : Arv Z h15 b10 k10 .char (3 : Int32) ([(.int ca), (.int 0), (.int 0)]) (.int 0) := own_cast (by rw [hnca.2]; rfl) (Arv.set Ar15 qc15 Sz15 Nn15 Ha15 Gg15 (v := (.int (nar .char ca))) (fits_nar_char _) W15 0 rfl (Nat.le_of_ble_eq_true rfl))
  have N15 := Fr.snoc X15 N0 g12
  obtain ⟨cl17, Ar17, qc17, Sz17, Nn17, Ha17, Gg17⟩ := (id V15)
  have hin17 : ¬ ((1 : Int32) < 0 ∨ cl17.slots.size ≤ ((1 : Int32)).toNatClampNeg) := inb_of Sz17 ⟨by decide, by decide⟩
  obtain ⟨T17, h17, X17, e17, W17, st17⟩ := stC X15 hx hZ e15 Ar17 (j := (1 : Int32)) hin17 (g := (mkF m 102 #[(vi 3), (vi pi1), (vi pi2), (vi pi3), (vi ca), (vi cb), (vi cc)] [(.int cb), (.int 1), (.ref b10), (.ref b10), (.ref b4), (.ref b4)])) rfl rfl (hb hby d1_102)
  have O18 : Old Z n0 h17 := O16.wr W17 g12
  have K18 : Keep h0 h17 [] := K16.wr W17 (Or.inr sz13)
  have V17 : Arv Z h17 b10 k10 .char (3 : Int32) ([(.int ca), (.int cb), (.int 0)]) (.int 0) := own_cast (by rw [hncb.2]; rfl) (Arv.set Ar17 qc17 Sz17 Nn17 Ha17 Gg17 (v := (.int (nar .char cb))) (fits_nar_char _) W17 1 rfl (Nat.le_of_ble_eq_true rfl))
  have N17 := Fr.snoc X17 N15 g12
  obtain ⟨cl19, Ar19, qc19, Sz19, Nn19, Ha19, Gg19⟩ := (id V17)
  have hin19 : ¬ ((2 : Int32) < 0 ∨ cl19.slots.size ≤ ((2 : Int32)).toNatClampNeg) := inb_of Sz19 ⟨by decide, by decide⟩
  obtain ⟨T19, h19, X19, e19, W19, st19⟩ := stC X17 hx hZ e17 Ar19 (j := (2 : Int32)) hin19 (g := (mkF m 107 #[(vi 3), (vi pi1), (vi pi2), (vi pi3), (vi ca), (vi cb), (vi cc)] [(.int cc), (.int 2), (.ref b10), (.ref b10), (.ref b4), (.ref b4)])) rfl rfl (hb hby d1_107)
  have O20 : Old Z n0 h19 := O18.wr W19 g12
  have K20 : Keep h0 h19 [] := K18.wr W19 (Or.inr sz13)
  have V19 : Arv Z h19 b10 k10 .char (3 : Int32) ([(.int ca), (.int cb), (.int cc)]) (.int 0) := own_cast (by rw [hncc.2]; rfl) (Arv.set Ar19 qc19 Sz19 Nn19 Ha19 Gg19 (v := (.int (nar .char cc))) (fits_nar_char _) W19 2 rfl (Nat.le_of_ble_eq_true rfl))
  have N19 := Fr.snoc X19 N17 g12
  have f21 : Exa Z h19 b4 s0n := ((((A4.ext E10).wr W15).wr W17).wr W19)
  have f22 : Fld Z h19 b4 s0n "coder" "B" (.int 0) := ((((f9.ext E10).other W15 (Or.inl ne11)).other W17 (Or.inl ne11)).other W19 (Or.inl ne11))
  have f23 : Fld Z h19 b4 s0n "value" "[B" .null := ((((f8.ext E10).other W15 (Or.inl ne11)).other W17 (Or.inl ne11)).other W19 (Or.inl ne11))
  obtain ⟨_, _, ⟨T24, L24, k24, n24⟩, -, X24, ⟨Lc24, hQ24, l24, y24, z24⟩, st24⟩ := X19.specialBack hx (y := M1) rfl hown (mvT hZ (ow hw 8 rfl)) (mvT hZ (ow hw 9 rfl)) (mvT hZ (ow hw 10 rfl)) (by decide) (backOf (W := 1) (au2_3 l Z a0 hw [] wUNKNOWN wHELD wTRUE wNOT_HELD wFALSE wMT wCS hS b4 b10 k10 ca cb cc h19 n0 O20 f21 f22 f23 V19 h255ca h255cb h255cc g5) hZ (ow hw 10 rfl) (ow hw 6 rfl) (by decide) (by decide)) (g := (mkF m 108 #[(vi 3), (vi pi1), (vi pi2), (vi pi3), (vi ca), (vi cb), (vi cc)] [(.ref b10), (.ref b4), (.ref b4)])) rfl (by rw [hml]; rfl) (Steps.refl _) (a := b4) (argsL := [(.ref b10)]) (rest := [(.ref b4)]) (lenOf pd_1 rfl) rfl (by show 2 * 0 + _ ≤ _; exact Nat.le_of_eq rfl) (hb hby d1_108) (fun _ _ => ⟨rfl, e19, (by decide : 2 + 1 ≤ _), (by decide : 7 + 3 ≤ _)⟩)
  dsimp only [Pt.U, Pt.locs, Pt.cells, Pt.slots] at X24 l24 y24 z24 st24 hQ24
  subst y24 z24
  obtain ⟨rfl, Nq24, K24q, p24_0⟩ := hQ24
  have N24 : Fr n0 L24 := (congrArg (Fr n0) l24).mpr (Fr.app N19 Nq24)
  have O25 : Old Z n0 T24.heap := O20.keep K24q (allS g5 all0)
  have K25 : Keep h0 T24.heap [] := K20.trans K24q (allS (Or.inr sz6) all0)
  obtain ⟨fs, hr, hrun, hended, hW, hsame⟩ := X24.leave (v := some (.ref b4)) (fun h => by rw [hret0] at h; cases h)
  refine ⟨_, _, pre3 _ ?_, hrun, hended, _, _, rfl, ?_, ⟨_, rfl⟩, hW, hsame.mono (by decide) (by decide)⟩
  · skip
    show Steps p.tables e below (s₁.setTop (mkF m 24 #[(vi 3), (vi pi1), (vi pi2), (vi pi3), (vi ca), (vi cb), (vi cc)] [])) _
    refine XS.iloadN X0.here hx rfl (hb hby d1_24) rfl ?_
    refine XS.ifYes X0.here hx rfl (pc0 := 25) (pc' := 39) rfl (hb hby d1_25) rfl ((if0 _ _).trans (feq (by decide : ¬ ((3 : Int32) = (0 : Int32)))).2) (by decide) (by decide) ?_
    refine XS.iloadN X0.here hx rfl (hb hby d1_39) rfl ?_
    refine XS.iconst X0.here hx rfl (hb hby d1_40) ?_
    refine XS.icmpYes X0.here hx rfl (pc0 := 41) (pc' := 60) rfl (hb hby d1_41) rfl (feq (by decide : ¬ ((3 : Int32) = (1 : Int32)))).2 (by decide) (by decide) ?_
    refine XS.iloadN X0.here hx rfl (hb hby d1_60) rfl ?_
    refine XS.iconst X0.here hx rfl (hb hby d1_61) ?_
    refine XS.icmpYes X0.here hx rfl (pc0 := 62) (pc' := 86) rfl (hb hby d1_62) rfl (feq (by decide : ¬ ((3 : Int32) = (2 : Int32)))).2 (by decide) (by decide) ?_
    show Steps p.tables e below (s₁.setTop (mkF m 86 #[(vi 3), (vi pi1), (vi pi2), (vi pi3), (vi ca), (vi cb), (vi cc)] [])) _
    refine st4 _ ?_
    refine XS.dup X4.here hx rfl (hb hby d1_89) rfl rfl ?_
    refine XS.iconst X4.here hx rfl (hb hby d1_90) ?_
    refine st10 _ ?_
    refine XS.dup X10.here hx rfl (hb hby d1_93) rfl rfl ?_
    refine XS.iconst X10.here hx rfl (hb hby d1_94) ?_
    refine XS.iload X10.here hx rfl (hb hby d1_95) rfl ?_
    refine st15 _ ?_
    show Steps p.tables e below (T15.setTop (mkF m 98 #[(vi 3), (vi pi1), (vi pi2), (vi pi3), (vi ca), (vi cb), (vi cc)] [(.ref b10), (.ref b4), (.ref b4)])) _
    refine XS.dup X15.here hx rfl (hb hby d1_98) rfl rfl ?_
    refine XS.iconst X15.here hx rfl (hb hby d1_99) ?_
    refine XS.iload X15.here hx rfl (hb hby d1_100) rfl ?_
    refine st17 _ ?_
    refine XS.dup X17.here hx rfl (hb hby d1_103) rfl rfl ?_
    refine XS.iconst X17.here hx rfl (hb hby d1_104) ?_
    refine XS.iload X17.here hx rfl (hb hby d1_105) rfl ?_
    refine st19 _ ?_
    show Steps p.tables e below (T19.setTop (mkF m 108 #[(vi 3), (vi pi1), (vi pi2), (vi pi3), (vi ca), (vi cb), (vi cc)] [(.ref b10), (.ref b4), (.ref b4)])) _
    refine st24.trans ?_
    jvm_step X24.here [X24.here.top, hx, (hb hby d1_111), X24.method', hret0, Value.isRef, FieldType.isReference]
    first | (intro acts; rw [hr _ acts rfl rfl rfl]) | rw [hr _ _ rfl rfl rfl]
    exact Steps.refl _
  · show Q_au1_3 Z wUNKNOWN wHELD wTRUE wNOT_HELD wFALSE wMT wCS pi1 pi2 pi3 h0 n0 _ T24.heap _
    exact ⟨b4, rfl, N24, K25, sz6, p24_0⟩
def Q_rm0 (Z : State) (wUNKNOWN : Addr) (wHELD : Addr) (wTRUE : Addr) (wNOT_HELD : Addr) (wFALSE : Addr) (wMT : Addr) (wCS : Int32) (p0 : Int32) (p1 : Int32) (p2 : Int32) (p3 : Int32) (h0 : Heap) (n0 : Nat) (v : Option Value) (h : Heap) (L : List Loc) : Prop := v = some (.int 1) ∧ Fr n0 L
theorem rm0 (l : Launch) (Z : State) (a0 : Array Value) (hw : ∀ d ∈ tables_1, d.before a0 Z = true) (ws : List Jvm.Cond) (wUNKNOWN : Addr) (wHELD : Addr) (wTRUE : Addr) (wNOT_HELD : Addr) (wFALSE : Addr) (wMT : Addr) (wCS : Int32) (hS : SS Z wUNKNOWN wHELD wTRUE wNOT_HELD wFALSE wMT wCS) (p0 : Int32) (p1 : Int32) (p2 : Int32) (p3 : Int32) (h0 : Heap) (n0 : Nat) (O0 : Old Z n0 h0)  :
    MetBI l x code maxLocals ret ws room_1 Z ELs h0 #[(.int p0), (.int p1), (.int p2), (.int p3)] (Q_rm0 Z wUNKNOWN wHELD wTRUE wNOT_HELD wFALSE wMT wCS p0 p1 p2 p3 h0 n0) := by
  refine own_bodyI (plainFor_of_name pn_com_example_tuplecraft_tuplecraft_GrantUnknownPinLaw) ?_
  intro p e s m below meth c s₁ hx hby hml hown hnm hret0 hlk0 hZ X0 e0 hS1 hC0
  have N0 := Fr.nil n0
  have pre0 : ∀ t, Steps p.tables e below (s₁.setTop (mkF m 0 #[(vi p0), (vi p1), (vi p2), (vi p3), .unset, .unset, .unset, .unset] [])) t → Steps p.tables e below (s₁.setTop (entryFrame m #[(.int p0), (.int p1), (.int p2), (.int p3)] maxLocals)) t := fun t k => castTop (ef_rm0 m p0 p1 p2 p3) k
  have hS0 := hS
  obtain ⟨S_wUNKNOWN, E_wUNKNOWN, S_wHELD, E_wHELD, S_wTRUE, E_wTRUE, S_wNOT_HELD, E_wNOT_HELD, S_wFALSE, E_wFALSE, F_ordinal_wUNKNOWN, F_ordinal_wTRUE, F_ordinal_wFALSE, F_truth_wHELD, F_truth_wNOT_HELD, M_wMT, S_wCS, N_wCS⟩ := hS0
  have pre1 : ∀ t, Steps p.tables e below (s₁.setTop (mkF m 3 #[(vi p0), (vi p1), (vi p2), (vi p3), .unset, .unset, .unset, .unset] [(.int (p0 &&& (3 : Int32)))])) t → Steps p.tables e below (s₁.setTop (entryFrame m #[(.int p0), (.int p1), (.int p2), (.int p3)] maxLocals)) t := by
    intro t k
    refine pre0 t ?_
    show Steps p.tables e below (s₁.setTop (mkF m 0 #[(vi p0), (vi p1), (vi p2), (vi p3), .unset, .unset, .unset, .unset] [])) _
    refine XS.iloadN X0.here hx rfl (hb hby at_0) rfl ?_
    refine XS.iconst X0.here hx rfl (hb hby at_1) ?_
    refine XS.iand X0.here hx rfl (hb hby at_2) rfl ?_
    exact k
  rcases (id (own_Q p0)) with hk2 | hk2 | hk2 | hk2
  · skip
    have pre3 : ∀ t, Steps p.tables e below (s₁.setTop (mkF m 3 #[(vi p0), (vi p1), (vi p2), (vi p3), .unset, .unset, .unset, .unset] [(.int 0)])) t → Steps p.tables e below (s₁.setTop (entryFrame m #[(.int p0), (.int p1), (.int p2), (.int p3)] maxLocals)) t := by
      intro t k
      refine pre1 t ?_
      rw [hk2]
      exact k
    have pre5 : ∀ t, Steps p.tables e below (s₁.setTop (mkF m 6 #[(vi p0), (vi p1), (vi p2), (vi p3), .unset, .unset, .unset, .unset] [(.int p3), (.int p2), (.int p1), (.int 0)])) t → Steps p.tables e below (s₁.setTop (entryFrame m #[(.int p0), (.int p1), (.int p2), (.int p3)] maxLocals)) t := by
      intro t k
      refine pre3 t ?_
      show Steps p.tables e below (s₁.setTop (mkF m 3 #[(vi p0), (vi p1), (vi p2), (vi p3), .unset, .unset, .unset, .unset] [(.int 0)])) _
      refine XS.iloadN X0.here hx rfl (hb hby at_3) rfl ?_
      refine XS.iloadN X0.here hx rfl (hb hby at_4) rfl ?_
      refine XS.iloadN X0.here hx rfl (hb hby at_5) rfl ?_
      exact k
    obtain ⟨_, _, ⟨T4, L4, k4, n4⟩, -, X4, hs4, hg4, ⟨Lc4, hQ4, l4, y4, z4⟩, st4⟩ := callSS X0 hx (y := M2) hown (mvT hZ (ow hw 0 rfl)) (mvT hZ (ow hw 1 rfl)) (mvT hZ (ow hw 2 rfl)) (mvT hZ (ow hw 3 rfl)) (by decide) (own_backI (W := 0) (au1_0 l Z a0 hw [] wUNKNOWN wHELD wTRUE wNOT_HELD wFALSE wMT wCS hS p1 p2 p3 h0 n0 O0 ) hZ (ow hw 3 rfl) (ow hw 2 rfl) (by decide) (by decide) (own_EW hw) hC0) (g := (mkF m 6 #[(vi p0), (vi p1), (vi p2), (vi p3), .unset, .unset, .unset, .unset] [(.int p3), (.int p2), (.int p1), (.int 0)])) rfl (by rw [hml]; rfl) (argsL := [(.int 0), (.int p1), (.int p2), (.int p3)]) (rest := []) (lenOf pd_2 rfl) rfl (by show 2 * 0 + _ ≤ _; exact Nat.le_of_eq rfl) (hb hby at_6) (fun _ _ => ⟨rfl, e0, (by decide : 0 + 4 ≤ _), (by decide : 0 + 8 ≤ _)⟩)
    dsimp only [Pt.U, Pt.locs, Pt.cells, Pt.slots] at hs4 hg4
    have hS4 := foldS hS1 (by rw [e0]; exact (Nat.le_refl _)) hs4 hg4
    have hown : (s.setVm T4.vm).vm.findClass "com/example/tuplecraft/tuplecraft/GrantUnknownPinLaw" = some m.cls := by rw [show (s.setVm T4.vm).vm = T4.vm from rfl, hs4.1.alike.findClass]; exact hown
    have hZ : Z.Warmed39 (s.setVm T4.vm).vm := State.Warmed39.trans (t := s.setVm _) hZ hs4.1
    dsimp only [Pt.U, Pt.locs, Pt.cells, Pt.slots] at X4 l4 y4 z4 st4 hQ4
    subst y4 z4
    have X4 : Stand p l e _ (s.setVm T4.vm) m _ below meth c T4 L4 _ _ := X4
    obtain ⟨e1_4, rfl, Nq4, K4q, p4_0, p4_1⟩ := hQ4
    have N4 : Fr n0 L4 := (congrArg (Fr n0) l4).mpr (Fr.app N0 Nq4)
    have g6 : n0 ≤ e1_4 := Nat.le_trans (own_sz O0) p4_0
    have O7 : Old Z n0 T4.heap := O0.keep K4q all0
    obtain ⟨yc, hyc⟩ : ∃ z : Int32, z = ((((p0.toUInt32 >>> ((8 : Int32) &&& 31).toUInt32).toInt32) &&& (255 : Int32)).toUInt32.toUInt16.toUInt32.toInt32) := ⟨_, rfl⟩
    have pre8 : ∀ t, Steps p.tables e below (T4.setTop (mkF m 20 #[(vi p0), (vi p1), (vi p2), (vi p3), (vr e1_4), .unset, .unset, .unset] [(.int yc)])) t → Steps p.tables e below (s₁.setTop (entryFrame m #[(.int p0), (.int p1), (.int p2), (.int p3)] maxLocals)) t := by
      intro t k
      rw [hyc] at k
      refine pre5 t ?_
      refine st4.trans ?_
      refine XS.astore X4.here hx rfl (hb hby at_9) rfl rfl (l' := #[(vi p0), (vi p1), (vi p2), (vi p3), (vr e1_4), .unset, .unset, .unset]) rfl ?_
      refine XS.iloadN X4.here hx rfl (hb hby at_11) rfl ?_
      refine XS.bipush X4.here hx rfl (hb hby at_12) ?_
      refine XS.iushr X4.here hx rfl (hb hby at_14) rfl ?_
      show Steps p.tables e below (T4.setTop (mkF m 15 #[(vi p0), (vi p1), (vi p2), (vi p3), (vr e1_4), .unset, .unset, .unset] [(.int ((p0.toUInt32 >>> ((8 : Int32) &&& 31).toUInt32).toInt32))])) _
      refine XS.sipush X4.here hx rfl (hb hby at_15) ?_
      refine XS.iand X4.here hx rfl (hb hby at_18) rfl ?_
      refine XS.i2c X4.here hx rfl (hb hby at_19) rfl ?_
      exact k
    have hnyc := own_chr hyc
    have h255yc : ¬ (255 : Int32) < yc := hnyc.1
    obtain ⟨_, _, ⟨T9, L9, k9, n9⟩, -, X9, ⟨Lc9, hQ9, l9, y9, z9⟩, st9⟩ := Jvm.LawKit.callS X4 hx (y := M6) hown (mvT hZ (ow hw 26 rfl)) (mvT hZ (ow hw 27 rfl)) (mvT hZ (ow hw 6 rfl)) (mvT hZ (ow hw 28 rfl)) (by decide) (backOf (W := 0) (au5_0 l Z a0 hw [] wUNKNOWN wHELD wTRUE wNOT_HELD wFALSE wMT wCS hS yc T4.heap n0 O7 h255yc) hZ (ow hw 28 rfl) (ow hw 6 rfl) (by decide) (by decide)) (g := (mkF m 20 #[(vi p0), (vi p1), (vi p2), (vi p3), (vr e1_4), .unset, .unset, .unset] [(.int yc)])) rfl (by rw [hml]; rfl) (argsL := [(.int yc)]) (rest := []) (lenOf pd_6 rfl) rfl (by show 2 * 0 + _ ≤ _; exact Nat.le_of_eq rfl) (hb hby at_20) (fun _ _ => ⟨rfl, rfl, (by decide : 4 + 2 ≤ _), (by decide : 8 + 5 ≤ _)⟩)
    dsimp only [Pt.U, Pt.locs, Pt.cells, Pt.slots] at X9 l9 y9 z9 st9 hQ9
    subst y9 z9
    obtain ⟨e1_9, rfl, Nq9, K9q, p9_0, p9_1⟩ := hQ9
    have N9 : Fr n0 L9 := (congrArg (Fr n0) l9).mpr (Fr.app N4 Nq9)
    have ne10 : e1_4 ≠ e1_9 := Nat.ne_of_lt (Nat.lt_of_lt_of_le p4_1.lt p9_0)
    have g11 : n0 ≤ e1_9 := Nat.le_trans (own_sz O7) p9_0
    have O12 : Old Z n0 T9.heap := O7.keep K9q all0
    have f13 : Exa Z T9.heap e1_4 s0n := (p4_1.keep K9q)
    obtain ⟨_, _, ⟨T14, L14, k14, n14⟩, -, X14, ⟨Lc14, hQ14, l14, y14, z14⟩, st14⟩ := Jvm.LawKit.callS X9 hx (y := M9) hown (mvT hZ (ow hw 41 rfl)) (mvT hZ (ow hw 42 rfl)) (mvT hZ (ow hw 43 rfl)) (mvT hZ (ow hw 44 rfl)) (by decide) (backOf (W := 0) (au9_0 l Z a0 hw [] wUNKNOWN wHELD wTRUE wNOT_HELD wFALSE wMT wCS hS e1_4 T9.heap n0 O12 f13) hZ (ow hw 44 rfl) (ow hw 43 rfl) (by decide) (by decide)) (g := (mkF m 27 #[(vi p0), (vi p1), (vi p2), (vi p3), (vr e1_4), (vr e1_9), .unset, .unset] [(.ref e1_4)])) rfl (by rw [hml]; rfl) (argsL := [(.ref e1_4)]) (rest := []) (lenOf pd_9 rfl) rfl (by show 2 * 0 + _ ≤ _; exact Nat.le_of_eq rfl) (hb hby at_27) (fun _ _ => ⟨rfl, rfl, (by decide : 6 + 1 ≤ _), (by decide : 13 + 2 ≤ _)⟩)
    dsimp only [Pt.U, Pt.locs, Pt.cells, Pt.slots] at X14 l14 y14 z14 st14 hQ14
    subst y14 z14
    obtain ⟨e1_14, rfl, Nq14, K14q, p14_0, p14_1, p14_2, p14_3⟩ := hQ14
    have N14 : Fr n0 L14 := (congrArg (Fr n0) l14).mpr (Fr.app N9 Nq14)
    have ne15 : e1_4 ≠ e1_14 := Nat.ne_of_lt (Nat.lt_of_lt_of_le f13.lt p14_0)
    have ne16 : e1_9 ≠ e1_14 := Nat.ne_of_lt (Nat.lt_of_lt_of_le p9_1.lt p14_0)
    have g17 : n0 ≤ e1_14 := Nat.le_trans (own_sz O12) p14_0
    have O18 : Old Z n0 T14.heap := O12.keep K14q all0
    have f19 : Exa Z T14.heap e1_9 s0n := (p9_1.keep K14q)
    obtain ⟨_, _, ⟨T20, L20, k20, n20⟩, -, X20, ⟨Lc20, hQ20, l20, y20, z20⟩, st20⟩ := Jvm.LawKit.callS X14 hx (y := M9) hown (mvT hZ (ow hw 41 rfl)) (mvT hZ (ow hw 42 rfl)) (mvT hZ (ow hw 43 rfl)) (mvT hZ (ow hw 44 rfl)) (by decide) (backOf (W := 0) (au9_0 l Z a0 hw [] wUNKNOWN wHELD wTRUE wNOT_HELD wFALSE wMT wCS hS e1_9 T14.heap n0 O18 f19) hZ (ow hw 44 rfl) (ow hw 43 rfl) (by decide) (by decide)) (g := (mkF m 34 #[(vi p0), (vi p1), (vi p2), (vi p3), (vr e1_4), (vr e1_9), (vr e1_14), .unset] [(.ref e1_9)])) rfl (by rw [hml]; rfl) (argsL := [(.ref e1_9)]) (rest := []) (lenOf pd_9 rfl) rfl (by show 2 * 0 + _ ≤ _; exact Nat.le_of_eq rfl) (hb hby at_34) (fun _ _ => ⟨rfl, rfl, (by decide : 7 + 1 ≤ _), (by decide : 15 + 2 ≤ _)⟩)
    dsimp only [Pt.U, Pt.locs, Pt.cells, Pt.slots] at X20 l20 y20 z20 st20 hQ20
    subst y20 z20
    obtain ⟨e1_20, rfl, Nq20, K20q, p20_0, p20_1, p20_2, p20_3⟩ := hQ20
    have N20 : Fr n0 L20 := (congrArg (Fr n0) l20).mpr (Fr.app N14 Nq20)
    have f22 : Exa Z T14.heap e1_4 s0n := (f13.keep K14q)
    have ne21 : e1_4 ≠ e1_20 := Nat.ne_of_lt (Nat.lt_of_lt_of_le f22.lt p20_0)
    have ne23 : e1_9 ≠ e1_20 := Nat.ne_of_lt (Nat.lt_of_lt_of_le f19.lt p20_0)
    have ne24 : e1_14 ≠ e1_20 := Nat.ne_of_lt (Nat.lt_of_lt_of_le p14_1.lt p20_0)
    have g25 : n0 ≤ e1_20 := Nat.le_trans (own_sz O18) p20_0
    have O26 : Old Z n0 T20.heap := O18.keep K20q all0
    have f27 : Fld Z T20.heap e1_14 s3n "truth" s2n (.ref wUNKNOWN) := (p14_3.keep K20q nin0)
    have f29 : Exa Z T20.heap e1_14 s3n := (p14_1.keep K20q)
    obtain ⟨cq28, kq28, q28a, q28b, q28c⟩ := isOf hZ rfl f29
    obtain ⟨_, _, ⟨T28, L28, k28, n28⟩, -, X28, ⟨Lc28, hQ28, l28, y28, z28⟩, st28⟩ := X20.virtualBack hx (y := M10) (z := M10) hown (mvT hZ (ow hw 63 rfl)) (mvT hZ (ow hw 64 rfl)) (notFace_of_selects (args := #[]) (mvT hZ (ow hw 66 rfl))) (mvT hZ (ow hw 66 rfl)) (mvT hZ (ow hw 65 rfl)) (by decide) (backOf (W := 0) (au12_0 l Z a0 hw [] wUNKNOWN wHELD wTRUE wNOT_HELD wFALSE wMT wCS hS e1_14 T20.heap n0 O26 f27) hZ (ow hw 67 rfl) (ow hw 43 rfl) (by decide) (by decide)) q28a q28c (g := (mkF m 53 #[(vi p0), (vi p1), (vi p2), (vi p3), (vr e1_4), (vr e1_9), (vr e1_14), (vr e1_20)] [(.ref e1_14)])) rfl (by rw [hml]; rfl) (Steps.refl _) (argsL := []) (rest := []) (lenOf pd_10 rfl) rfl (by show 2 * 0 + _ ≤ _; exact Nat.le_of_eq rfl) (hb hby at_53) (fun _ _ => ⟨rfl, rfl, (by decide : 8 + 0 ≤ _), (by decide : 17 + 0 ≤ _)⟩)
    dsimp only [Pt.U, Pt.locs, Pt.cells, Pt.slots] at X28 l28 y28 z28 st28 hQ28
    subst y28 z28
    obtain ⟨rfl, Nq28, K28q⟩ := hQ28
    have N28 : Fr n0 L28 := (congrArg (Fr n0) l28).mpr (Fr.app N20 Nq28)
    obtain ⟨T30, X30, e30, st30⟩ := getS2 X28 hx hZ hown (host := "") (Or.inl (ow hw 68 rfl)) Via.refl K28q (S_wUNKNOWN.ext O26.2) (g := (mkF m 56 #[(vi p0), (vi p1), (vi p2), (vi p3), (vr e1_4), (vr e1_9), (vr e1_14), (vr e1_20)] [(.ref wUNKNOWN)])) rfl (hb hby at_56)
    have f31 : Fld Z T20.heap e1_14 s3n "problem" s5n (.ref e1_4) := (p14_2.keep K20q nin0)
    obtain ⟨cq32, kq32, q32a, q32b, q32c⟩ := isOf hZ e30 f29
    obtain ⟨_, _, ⟨T32, L32, k32, n32⟩, -, X32, ⟨Lc32, hQ32, l32, y32, z32⟩, st32⟩ := X30.virtualBack hx (y := M11) (z := M11) hown (mvT hZ (ow hw 69 rfl)) (mvT hZ (ow hw 70 rfl)) (notFace_of_selects (args := #[]) (mvT hZ (ow hw 72 rfl))) (mvT hZ (ow hw 72 rfl)) (mvT hZ (ow hw 71 rfl)) (by decide) (backOf (W := 1) (au13_0 l Z a0 hw [] wUNKNOWN wHELD wTRUE wNOT_HELD wFALSE wMT wCS hS e1_14 e1_4 T20.heap n0 O26 f31) hZ (ow hw 73 rfl) (ow hw 43 rfl) (by decide) (by decide)) q32a q32c (g := (mkF m 68 #[(vi p0), (vi p1), (vi p2), (vi p3), (vr e1_4), (vr e1_9), (vr e1_14), (vr e1_20)] [(.ref e1_14), (.ref e1_4)])) rfl (by rw [hml]; rfl) (Steps.refl _) (argsL := []) (rest := [(.ref e1_4)]) (lenOf pd_11 rfl) rfl (by show 2 * 0 + _ ≤ _; exact Nat.le_of_eq rfl) (hb hby at_68) (fun _ _ => ⟨rfl, e30, (by decide : 8 + 0 ≤ _), (by decide : 17 + 0 ≤ _)⟩)
    dsimp only [Pt.U, Pt.locs, Pt.cells, Pt.slots] at X32 l32 y32 z32 st32 hQ32
    subst y32 z32
    obtain ⟨rfl, Nq32, K32q⟩ := hQ32
    have N32 : Fr n0 L32 := (congrArg (Fr n0) l32).mpr (Fr.app N28 Nq32)
    have f34 : Exa Z T20.heap e1_4 s0n := (f22.keep K20q)
    obtain ⟨cq33, kq33, q33a, q33b, q33c⟩ := isOf hZ K32q f34
    obtain ⟨_, _, ⟨T33, L33, k33, n33⟩, -, X33, ⟨Lc33, hQ33, l33, y33, z33⟩, st33⟩ := X32.virtualBack hx (y := M12) (z := M12) hown (mvT hZ (ow hw 74 rfl)) (mvT hZ (ow hw 75 rfl)) (notFace_of_selects (args := #[]) (mvT hZ (ow hw 77 rfl))) (mvT hZ (ow hw 77 rfl)) (mvT hZ (ow hw 76 rfl)) (by decide) (backOf (W := 0) (au14_0 l Z a0 hw [] wUNKNOWN wHELD wTRUE wNOT_HELD wFALSE wMT wCS hS e1_4 T20.heap n0 O26 ) hZ (ow hw 78 rfl) (ow hw 6 rfl) (by decide) (by decide)) q33a q33c (g := (mkF m 71 #[(vi p0), (vi p1), (vi p2), (vi p3), (vr e1_4), (vr e1_9), (vr e1_14), (vr e1_20)] [(.ref e1_4), (.ref e1_4)])) rfl (by rw [hml]; rfl) (Steps.refl _) (argsL := [(.ref e1_4)]) (rest := []) (lenOf pd_12 rfl) rfl (by show 2 * 0 + _ ≤ _; exact Nat.le_of_eq rfl) (hb hby at_71) (fun _ _ => ⟨rfl, K32q, (by decide : 8 + 0 ≤ _), (by decide : 17 + 0 ≤ _)⟩)
    dsimp only [Pt.U, Pt.locs, Pt.cells, Pt.slots] at X33 l33 y33 z33 st33 hQ33
    subst y33 z33
    obtain ⟨rfl, Nq33, K33q⟩ := hQ33
    have N33 : Fr n0 L33 := (congrArg (Fr n0) l33).mpr (Fr.app N32 Nq33)
    obtain ⟨T35, X35, e35, st35⟩ := getS2 X33 hx hZ hown (host := "") (Or.inl (ow hw 79 rfl)) Via.refl K33q (S_wHELD.ext O26.2) (g := (mkF m 81 #[(vi p0), (vi p1), (vi p2), (vi p3), (vr e1_4), (vr e1_9), (vr e1_14), (vr e1_20)] [(.ref e1_14)])) rfl (hb hby at_81)
    obtain ⟨cq36, kq36, q36a, q36b, q36c⟩ := isOf hZ e35 f29
    obtain ⟨_, _, ⟨T36, L36, k36, n36⟩, -, X36, ⟨Lc36, hQ36, l36, y36, z36⟩, st36⟩ := X35.virtualBack hx (y := M14) (z := M14) hown (mvT hZ (ow hw 81 rfl)) (mvT hZ (ow hw 82 rfl)) (notFace_of_selects (args := #[]) (mvT hZ (ow hw 84 rfl))) (mvT hZ (ow hw 84 rfl)) (mvT hZ (ow hw 83 rfl)) (by decide) (backOf (W := 0) (au15_0 l Z a0 hw [] wUNKNOWN wHELD wTRUE wNOT_HELD wFALSE wMT wCS hS e1_14 T20.heap n0 O26 f27) hZ (ow hw 85 rfl) (ow hw 43 rfl) (by decide) (by decide)) q36a q36c (g := (mkF m 84 #[(vi p0), (vi p1), (vi p2), (vi p3), (vr e1_4), (vr e1_9), (vr e1_14), (vr e1_20)] [(.ref wHELD), (.ref e1_14)])) rfl (by rw [hml]; rfl) (Steps.refl _) (argsL := [(.ref wHELD)]) (rest := []) (lenOf pd_14 rfl) rfl (by show 2 * 0 + _ ≤ _; exact Nat.le_of_eq rfl) (hb hby at_84) (fun _ _ => ⟨rfl, e35, (by decide : 8 + 0 ≤ _), (by decide : 17 + 0 ≤ _)⟩)
    dsimp only [Pt.U, Pt.locs, Pt.cells, Pt.slots] at X36 l36 y36 z36 st36 hQ36
    subst y36 z36
    obtain ⟨rfl, Nq36, K36q⟩ := hQ36
    have N36 : Fr n0 L36 := (congrArg (Fr n0) l36).mpr (Fr.app N33 Nq36)
    obtain ⟨T37, X37, e37, st37⟩ := getS2 X36 hx hZ hown (host := "") (Or.inl (ow hw 79 rfl)) Via.refl K36q (S_wHELD.ext O26.2) (g := (mkF m 87 #[(vi p0), (vi p1), (vi p2), (vi p3), (vr e1_4), (vr e1_9), (vr e1_14), (vr e1_20)] [(.ref wHELD)])) rfl (hb hby at_87)
    obtain ⟨T38, X38, e38, st38⟩ := getS2 X37 hx hZ hown (host := "") (Or.inl (ow hw 79 rfl)) Via.refl e37 (S_wHELD.ext O26.2) (g := (mkF m 95 #[(vi p0), (vi p1), (vi p2), (vi p3), (vr e1_4), (vr e1_9), (vr e1_14), (vr e1_20)] [])) rfl (hb hby at_95)
    obtain ⟨cq39, kq39, q39a, q39b, q39c⟩ := isOf hZ e38 (E_wHELD.ext O26.2)
    obtain ⟨_, _, ⟨T39, L39, k39, n39⟩, -, X39, ⟨Lc39, hQ39, l39, y39, z39⟩, st39⟩ := X38.virtualBack hx (y := M14) (z := M14) hown (mvT hZ (ow hw 81 rfl)) (mvT hZ (ow hw 82 rfl)) (notFace_of_selects (args := #[]) (mvT hZ (ow hw 84 rfl))) (mvT hZ (ow hw 84 rfl)) (mvT hZ (ow hw 83 rfl)) (by decide) (backOf (W := 0) (au15_1 l Z a0 hw [] wUNKNOWN wHELD wTRUE wNOT_HELD wFALSE wMT wCS hS e1_14 T20.heap n0 O26 f27) hZ (ow hw 85 rfl) (ow hw 43 rfl) (by decide) (by decide)) q39a q39c (g := (mkF m 100 #[(vi p0), (vi p1), (vi p2), (vi p3), (vr e1_4), (vr e1_9), (vr e1_14), (vr e1_20)] [(.ref e1_14), (.ref wHELD)])) rfl (by rw [hml]; rfl) (Steps.refl _) (argsL := [(.ref e1_14)]) (rest := []) (lenOf pd_14 rfl) rfl (by show 2 * 0 + _ ≤ _; exact Nat.le_of_eq rfl) (hb hby at_100) (fun _ _ => ⟨rfl, e38, (by decide : 8 + 0 ≤ _), (by decide : 17 + 0 ≤ _)⟩)
    dsimp only [Pt.U, Pt.locs, Pt.cells, Pt.slots] at X39 l39 y39 z39 st39 hQ39
    subst y39 z39
    obtain ⟨rfl, Nq39, K39q⟩ := hQ39
    have N39 : Fr n0 L39 := (congrArg (Fr n0) l39).mpr (Fr.app N36 Nq39)
    obtain ⟨T40, X40, e40, st40⟩ := getS2 X39 hx hZ hown (host := "") (Or.inl (ow hw 79 rfl)) Via.refl K39q (S_wHELD.ext O26.2) (g := (mkF m 103 #[(vi p0), (vi p1), (vi p2), (vi p3), (vr e1_4), (vr e1_9), (vr e1_14), (vr e1_20)] [(.ref wHELD)])) rfl (hb hby at_103)
    obtain ⟨T41, X41, e41, st41⟩ := getS2 X40 hx hZ hown (host := "") (Or.inl (ow hw 102 rfl)) Via.refl e40 (S_wNOT_HELD.ext O26.2) (g := (mkF m 113 #[(vi p0), (vi p1), (vi p2), (vi p3), (vr e1_4), (vr e1_9), (vr e1_14), (vr e1_20)] [(.ref e1_14)])) rfl (hb hby at_113)
    obtain ⟨cq42, kq42, q42a, q42b, q42c⟩ := isOf hZ e41 f29
    obtain ⟨_, _, ⟨T42, L42, k42, n42⟩, -, X42, ⟨Lc42, hQ42, l42, y42, z42⟩, st42⟩ := X41.virtualBack hx (y := M14) (z := M14) hown (mvT hZ (ow hw 81 rfl)) (mvT hZ (ow hw 82 rfl)) (notFace_of_selects (args := #[]) (mvT hZ (ow hw 84 rfl))) (mvT hZ (ow hw 84 rfl)) (mvT hZ (ow hw 83 rfl)) (by decide) (backOf (W := 0) (au15_2 l Z a0 hw [] wUNKNOWN wHELD wTRUE wNOT_HELD wFALSE wMT wCS hS e1_14 T20.heap n0 O26 f27) hZ (ow hw 85 rfl) (ow hw 43 rfl) (by decide) (by decide)) q42a q42c (g := (mkF m 116 #[(vi p0), (vi p1), (vi p2), (vi p3), (vr e1_4), (vr e1_9), (vr e1_14), (vr e1_20)] [(.ref wNOT_HELD), (.ref e1_14)])) rfl (by rw [hml]; rfl) (Steps.refl _) (argsL := [(.ref wNOT_HELD)]) (rest := []) (lenOf pd_14 rfl) rfl (by show 2 * 0 + _ ≤ _; exact Nat.le_of_eq rfl) (hb hby at_116) (fun _ _ => ⟨rfl, e41, (by decide : 8 + 0 ≤ _), (by decide : 17 + 0 ≤ _)⟩)
    dsimp only [Pt.U, Pt.locs, Pt.cells, Pt.slots] at X42 l42 y42 z42 st42 hQ42
    subst y42 z42
    obtain ⟨rfl, Nq42, K42q⟩ := hQ42
    have N42 : Fr n0 L42 := (congrArg (Fr n0) l42).mpr (Fr.app N39 Nq42)
    obtain ⟨T43, X43, e43, st43⟩ := getS2 X42 hx hZ hown (host := "") (Or.inl (ow hw 102 rfl)) Via.refl K42q (S_wNOT_HELD.ext O26.2) (g := (mkF m 126 #[(vi p0), (vi p1), (vi p2), (vi p3), (vr e1_4), (vr e1_9), (vr e1_14), (vr e1_20)] [])) rfl (hb hby at_126)
    obtain ⟨cq44, kq44, q44a, q44b, q44c⟩ := isOf hZ e43 (E_wNOT_HELD.ext O26.2)
    obtain ⟨_, _, ⟨T44, L44, k44, n44⟩, -, X44, ⟨Lc44, hQ44, l44, y44, z44⟩, st44⟩ := X43.virtualBack hx (y := M14) (z := M14) hown (mvT hZ (ow hw 81 rfl)) (mvT hZ (ow hw 82 rfl)) (notFace_of_selects (args := #[]) (mvT hZ (ow hw 84 rfl))) (mvT hZ (ow hw 84 rfl)) (mvT hZ (ow hw 83 rfl)) (by decide) (backOf (W := 0) (au15_3 l Z a0 hw [] wUNKNOWN wHELD wTRUE wNOT_HELD wFALSE wMT wCS hS e1_14 T20.heap n0 O26 f27) hZ (ow hw 85 rfl) (ow hw 43 rfl) (by decide) (by decide)) q44a q44c (g := (mkF m 131 #[(vi p0), (vi p1), (vi p2), (vi p3), (vr e1_4), (vr e1_9), (vr e1_14), (vr e1_20)] [(.ref e1_14), (.ref wNOT_HELD)])) rfl (by rw [hml]; rfl) (Steps.refl _) (argsL := [(.ref e1_14)]) (rest := []) (lenOf pd_14 rfl) rfl (by show 2 * 0 + _ ≤ _; exact Nat.le_of_eq rfl) (hb hby at_131) (fun _ _ => ⟨rfl, e43, (by decide : 8 + 0 ≤ _), (by decide : 17 + 0 ≤ _)⟩)
    dsimp only [Pt.U, Pt.locs, Pt.cells, Pt.slots] at X44 l44 y44 z44 st44 hQ44
    subst y44 z44
    obtain ⟨rfl, Nq44, K44q⟩ := hQ44
    have N44 : Fr n0 L44 := (congrArg (Fr n0) l44).mpr (Fr.app N42 Nq44)
    obtain ⟨cq45, kq45, q45a, q45b, q45c⟩ := isOf hZ K44q f29
    obtain ⟨_, _, ⟨T45, L45, k45, n45⟩, -, X45, ⟨Lc45, hQ45, l45, y45, z45⟩, st45⟩ := X44.virtualBack hx (y := M14) (z := M14) hown (mvT hZ (ow hw 81 rfl)) (mvT hZ (ow hw 82 rfl)) (notFace_of_selects (args := #[]) (mvT hZ (ow hw 84 rfl))) (mvT hZ (ow hw 84 rfl)) (mvT hZ (ow hw 83 rfl)) (by decide) (backOf (W := 0) (au15_4 l Z a0 hw [] wUNKNOWN wHELD wTRUE wNOT_HELD wFALSE wMT wCS hS e1_14 e1_20 T20.heap n0 O26 f27 p20_3) hZ (ow hw 85 rfl) (ow hw 43 rfl) (by decide) (by decide)) q45a q45c (g := (mkF m 145 #[(vi p0), (vi p1), (vi p2), (vi p3), (vr e1_4), (vr e1_9), (vr e1_14), (vr e1_20)] [(.ref e1_20), (.ref e1_14)])) rfl (by rw [hml]; rfl) (Steps.refl _) (argsL := [(.ref e1_20)]) (rest := []) (lenOf pd_14 rfl) rfl (by show 2 * 0 + _ ≤ _; exact Nat.le_of_eq rfl) (hb hby at_145) (fun _ _ => ⟨rfl, K44q, (by decide : 8 + 0 ≤ _), (by decide : 17 + 0 ≤ _)⟩)
    dsimp only [Pt.U, Pt.locs, Pt.cells, Pt.slots] at X45 l45 y45 z45 st45 hQ45
    subst y45 z45
    obtain ⟨rfl, Nq45, K45q⟩ := hQ45
    have N45 : Fr n0 L45 := (congrArg (Fr n0) l45).mpr (Fr.app N44 Nq45)
    have hk46 : _ ≤ T20.heap.size := (Nat.le_trans (Nat.le_trans (Nat.le_trans (Nat.le_refl _) K9q.1) K14q.1) K20q.1)
    obtain ⟨fs, hr, hrun, hended, hRW⟩ := X45.leaveW hS4 (by rw [K45q]; exact hk46) (v := some (.int 1)) (fun h => by rw [hret0] at h; cases h)
    refine ⟨_, _, pre8 _ ?_, hrun, hended, _, _, rfl, ?_, hRW.1, hRW.2.1, hRW.2.2.1, hRW.2.2.2.mono (by decide) (by decide)⟩
    · skip
      show Steps p.tables e below (T4.setTop (mkF m 20 #[(vi p0), (vi p1), (vi p2), (vi p3), (vr e1_4), .unset, .unset, .unset] [(.int yc)])) _
      refine st9 _ ?_
      refine XS.astore X9.here hx rfl (hb hby at_23) rfl rfl (l' := #[(vi p0), (vi p1), (vi p2), (vi p3), (vr e1_4), (vr e1_9), .unset, .unset]) rfl ?_
      refine XS.aload X9.here hx rfl (hb hby at_25) rfl rfl ?_
      refine st14 _ ?_
      refine XS.astore X14.here hx rfl (hb hby at_30) rfl rfl (l' := #[(vi p0), (vi p1), (vi p2), (vi p3), (vr e1_4), (vr e1_9), (vr e1_14), .unset]) rfl ?_
      refine XS.aload X14.here hx rfl (hb hby at_32) rfl rfl ?_
      refine st20 _ ?_
      refine XS.astore X20.here hx rfl (hb hby at_37) rfl rfl (l' := #[(vi p0), (vi p1), (vi p2), (vi p3), (vr e1_4), (vr e1_9), (vr e1_14), (vr e1_20)]) rfl ?_
      show Steps p.tables e below (T20.setTop (mkF m 39 #[(vi p0), (vi p1), (vi p2), (vi p3), (vr e1_4), (vr e1_9), (vr e1_14), (vr e1_20)] [])) _
      refine XS.aload X20.here hx rfl (hb hby at_39) rfl rfl ?_
      refine XS.ifnullNo X20.here hx rfl (hb hby at_41) rfl ?_
      refine XS.aload X20.here hx rfl (hb hby at_44) rfl rfl ?_
      refine XS.ifnonnullYes X20.here hx rfl (pc0 := 46) (pc' := 51) rfl (hb hby at_46) rfl (by decide) (by decide) ?_
      refine XS.aload X20.here hx rfl (hb hby at_51) rfl rfl ?_
      refine st28.trans ?_
      refine st30 _ ?_
      refine Jvm.RoadKit.acmp (g := (mkF m 59 #[(vi p0), (vi p1), (vi p2), (vi p3), (vr e1_4), (vr e1_9), (vr e1_14), (vr e1_20)] [(.ref wUNKNOWN), (.ref wUNKNOWN)])) X30 hx rfl rfl rfl (pc0 := 59) (pc' := 64) (same := true) rfl (hb hby at_59) rfl (decide_eq_true rfl) (by decide) (by decide) ?_
      show Steps p.tables e below (T30.setTop (mkF m 64 #[(vi p0), (vi p1), (vi p2), (vi p3), (vr e1_4), (vr e1_9), (vr e1_14), (vr e1_20)] [])) _
      refine XS.aload X30.here hx rfl (hb hby at_64) rfl rfl ?_
      refine XS.aload X30.here hx rfl (hb hby at_66) rfl rfl ?_
      refine st32.trans ?_
      refine st33.trans ?_
      refine XS.ifYes X33.here hx rfl (pc0 := 74) (pc' := 79) rfl (hb hby at_74) rfl ((if0 _ _).trans (feq (by decide : ¬ ((1 : Int32) = (0 : Int32)))).2) (by decide) (by decide) ?_
      refine XS.aload X33.here hx rfl (hb hby at_79) rfl rfl ?_
      refine st35 _ ?_
      refine st36.trans ?_
      show Steps p.tables e below (T36.setTop (mkF m 87 #[(vi p0), (vi p1), (vi p2), (vi p3), (vr e1_4), (vr e1_9), (vr e1_14), (vr e1_20)] [(.ref wHELD)])) _
      refine st37 _ ?_
      refine Jvm.RoadKit.acmp (g := (mkF m 90 #[(vi p0), (vi p1), (vi p2), (vi p3), (vr e1_4), (vr e1_9), (vr e1_14), (vr e1_20)] [(.ref wHELD), (.ref wHELD)])) X37 hx rfl rfl rfl (pc0 := 90) (pc' := 95) (same := true) rfl (hb hby at_90) rfl (decide_eq_true rfl) (by decide) (by decide) ?_
      refine st38 _ ?_
      refine XS.aload X38.here hx rfl (hb hby at_98) rfl rfl ?_
      refine st39.trans ?_
      refine st40 _ ?_
      refine Jvm.RoadKit.acmp (g := (mkF m 106 #[(vi p0), (vi p1), (vi p2), (vi p3), (vr e1_4), (vr e1_9), (vr e1_14), (vr e1_20)] [(.ref wHELD), (.ref wHELD)])) X40 hx rfl rfl rfl (pc0 := 106) (pc' := 111) (same := true) rfl (hb hby at_106) rfl (decide_eq_true rfl) (by decide) (by decide) ?_
      refine XS.aload X40.here hx rfl (hb hby at_111) rfl rfl ?_
      show Steps p.tables e below (T40.setTop (mkF m 113 #[(vi p0), (vi p1), (vi p2), (vi p3), (vr e1_4), (vr e1_9), (vr e1_14), (vr e1_20)] [(.ref e1_14)])) _
      refine st41 _ ?_
      refine st42.trans ?_
      refine XS.aload X42.here hx rfl (hb hby at_119) rfl rfl ?_
      refine Jvm.RoadKit.acmp (g := (mkF m 121 #[(vi p0), (vi p1), (vi p2), (vi p3), (vr e1_4), (vr e1_9), (vr e1_14), (vr e1_20)] [(.ref e1_14), (.ref e1_14)])) X42 hx rfl rfl rfl (pc0 := 121) (pc' := 126) (same := true) rfl (hb hby at_121) rfl (decide_eq_true rfl) (by decide) (by decide) ?_
      refine st43 _ ?_
      refine XS.aload X43.here hx rfl (hb hby at_129) rfl rfl ?_
      refine st44.trans ?_
      refine XS.aload X44.here hx rfl (hb hby at_134) rfl rfl ?_
      show Steps p.tables e below (T44.setTop (mkF m 136 #[(vi p0), (vi p1), (vi p2), (vi p3), (vr e1_4), (vr e1_9), (vr e1_14), (vr e1_20)] [(.ref e1_14), (.ref e1_14)])) _
      refine Jvm.RoadKit.acmp (g := (mkF m 136 #[(vi p0), (vi p1), (vi p2), (vi p3), (vr e1_4), (vr e1_9), (vr e1_14), (vr e1_20)] [(.ref e1_14), (.ref e1_14)])) X44 hx rfl rfl rfl (pc0 := 136) (pc' := 141) (same := true) rfl (hb hby at_136) rfl (decide_eq_true rfl) (by decide) (by decide) ?_
      refine XS.aload X44.here hx rfl (hb hby at_141) rfl rfl ?_
      refine XS.aload X44.here hx rfl (hb hby at_143) rfl rfl ?_
      refine st45.trans ?_
      refine XS.aload X45.here hx rfl (hb hby at_148) rfl rfl ?_
      refine Jvm.RoadKit.acmp (g := (mkF m 150 #[(vi p0), (vi p1), (vi p2), (vi p3), (vr e1_4), (vr e1_9), (vr e1_14), (vr e1_20)] [(.ref e1_14), (.ref e1_14)])) X45 hx rfl rfl rfl (pc0 := 150) (pc' := 155) (same := true) rfl (hb hby at_150) rfl (decide_eq_true rfl) (by decide) (by decide) ?_
      refine XS.iconst X45.here hx rfl (hb hby at_155) ?_
      exact retN X45 hx (t := .boolean) hret0 (by simp) (hb hby at_156) hr
    · show Q_rm0 Z wUNKNOWN wHELD wTRUE wNOT_HELD wFALSE wMT wCS p0 p1 p2 p3 h0 n0 _ T45.heap _
      rw [K45q]
      exact ⟨rfl, N45⟩
  · skip
    have pre47 : ∀ t, Steps p.tables e below (s₁.setTop (mkF m 3 #[(vi p0), (vi p1), (vi p2), (vi p3), .unset, .unset, .unset, .unset] [(.int 1)])) t → Steps p.tables e below (s₁.setTop (entryFrame m #[(.int p0), (.int p1), (.int p2), (.int p3)] maxLocals)) t := by
      intro t k
      refine pre1 t ?_
      rw [hk2]
      exact k
    obtain ⟨_, _, ⟨T48, L48, k48, n48⟩, -, X48, ⟨Lc48, hQ48, l48, y48, z48⟩, st48⟩ := Jvm.LawKit.callS X0 hx (y := M2) hown (mvT hZ (ow hw 0 rfl)) (mvT hZ (ow hw 1 rfl)) (mvT hZ (ow hw 2 rfl)) (mvT hZ (ow hw 3 rfl)) (by decide) (backOf (W := 0) (au1_1 l Z a0 hw [] wUNKNOWN wHELD wTRUE wNOT_HELD wFALSE wMT wCS hS p1 p2 p3 h0 n0 O0 ) hZ (ow hw 3 rfl) (ow hw 2 rfl) (by decide) (by decide)) (g := (mkF m 6 #[(vi p0), (vi p1), (vi p2), (vi p3), .unset, .unset, .unset, .unset] [(.int p3), (.int p2), (.int p1), (.int 1)])) rfl (by rw [hml]; rfl) (argsL := [(.int 1), (.int p1), (.int p2), (.int p3)]) (rest := []) (lenOf pd_2 rfl) rfl (by show 2 * 0 + _ ≤ _; exact Nat.le_of_eq rfl) (hb hby at_6) (fun _ _ => ⟨rfl, e0, (by decide : 0 + 3 ≤ _), (by decide : 0 + 6 ≤ _)⟩)
    dsimp only [Pt.U, Pt.locs, Pt.cells, Pt.slots] at X48 l48 y48 z48 st48 hQ48
    subst y48 z48
    obtain ⟨e1_48, rfl, Nq48, K48q, p48_0, p48_1⟩ := hQ48
    have N48 : Fr n0 L48 := (congrArg (Fr n0) l48).mpr (Fr.app N0 Nq48)
    have g49 : n0 ≤ e1_48 := Nat.le_trans (own_sz O0) p48_0
    have O50 : Old Z n0 T48.heap := O0.keep K48q all0
    obtain ⟨yc, hyc⟩ : ∃ z : Int32, z = ((((p0.toUInt32 >>> ((8 : Int32) &&& 31).toUInt32).toInt32) &&& (255 : Int32)).toUInt32.toUInt16.toUInt32.toInt32) := ⟨_, rfl⟩
    have pre51 : ∀ t, Steps p.tables e below (T48.setTop (mkF m 20 #[(vi p0), (vi p1), (vi p2), (vi p3), (vr e1_48), .unset, .unset, .unset] [(.int yc)])) t → Steps p.tables e below (s₁.setTop (entryFrame m #[(.int p0), (.int p1), (.int p2), (.int p3)] maxLocals)) t := by
      intro t k
      rw [hyc] at k
      refine pre47 t ?_
      show Steps p.tables e below (s₁.setTop (mkF m 3 #[(vi p0), (vi p1), (vi p2), (vi p3), .unset, .unset, .unset, .unset] [(.int 1)])) _
      refine XS.iloadN X0.here hx rfl (hb hby at_3) rfl ?_
      refine XS.iloadN X0.here hx rfl (hb hby at_4) rfl ?_
      refine XS.iloadN X0.here hx rfl (hb hby at_5) rfl ?_
      refine st48 _ ?_
      refine XS.astore X48.here hx rfl (hb hby at_9) rfl rfl (l' := #[(vi p0), (vi p1), (vi p2), (vi p3), (vr e1_48), .unset, .unset, .unset]) rfl ?_
      refine XS.iloadN X48.here hx rfl (hb hby at_11) rfl ?_
      refine XS.bipush X48.here hx rfl (hb hby at_12) ?_
      refine XS.iushr X48.here hx rfl (hb hby at_14) rfl ?_
      show Steps p.tables e below (T48.setTop (mkF m 15 #[(vi p0), (vi p1), (vi p2), (vi p3), (vr e1_48), .unset, .unset, .unset] [(.int ((p0.toUInt32 >>> ((8 : Int32) &&& 31).toUInt32).toInt32))])) _
      refine XS.sipush X48.here hx rfl (hb hby at_15) ?_
      refine XS.iand X48.here hx rfl (hb hby at_18) rfl ?_
      refine XS.i2c X48.here hx rfl (hb hby at_19) rfl ?_
      exact k
    have hnyc := own_chr hyc
    have h255yc : ¬ (255 : Int32) < yc := hnyc.1
    obtain ⟨_, _, ⟨T52, L52, k52, n52⟩, -, X52, ⟨Lc52, hQ52, l52, y52, z52⟩, st52⟩ := Jvm.LawKit.callS X48 hx (y := M6) hown (mvT hZ (ow hw 26 rfl)) (mvT hZ (ow hw 27 rfl)) (mvT hZ (ow hw 6 rfl)) (mvT hZ (ow hw 28 rfl)) (by decide) (backOf (W := 0) (au5_0 l Z a0 hw [] wUNKNOWN wHELD wTRUE wNOT_HELD wFALSE wMT wCS hS yc T48.heap n0 O50 h255yc) hZ (ow hw 28 rfl) (ow hw 6 rfl) (by decide) (by decide)) (g := (mkF m 20 #[(vi p0), (vi p1), (vi p2), (vi p3), (vr e1_48), .unset, .unset, .unset] [(.int yc)])) rfl (by rw [hml]; rfl) (argsL := [(.int yc)]) (rest := []) (lenOf pd_6 rfl) rfl (by show 2 * 0 + _ ≤ _; exact Nat.le_of_eq rfl) (hb hby at_20) (fun _ _ => ⟨rfl, rfl, (by decide : 3 + 2 ≤ _), (by decide : 6 + 5 ≤ _)⟩)
    dsimp only [Pt.U, Pt.locs, Pt.cells, Pt.slots] at X52 l52 y52 z52 st52 hQ52
    subst y52 z52
    obtain ⟨e1_52, rfl, Nq52, K52q, p52_0, p52_1⟩ := hQ52
    have N52 : Fr n0 L52 := (congrArg (Fr n0) l52).mpr (Fr.app N48 Nq52)
    have ne53 : e1_48 ≠ e1_52 := Nat.ne_of_lt (Nat.lt_of_lt_of_le p48_1.lt p52_0)
    have g54 : n0 ≤ e1_52 := Nat.le_trans (own_sz O50) p52_0
    have O55 : Old Z n0 T52.heap := O50.keep K52q all0
    have f56 : Exa Z T52.heap e1_48 s0n := (p48_1.keep K52q)
    obtain ⟨_, _, ⟨T57, L57, k57, n57⟩, -, X57, ⟨Lc57, hQ57, l57, y57, z57⟩, st57⟩ := Jvm.LawKit.callS X52 hx (y := M9) hown (mvT hZ (ow hw 41 rfl)) (mvT hZ (ow hw 42 rfl)) (mvT hZ (ow hw 43 rfl)) (mvT hZ (ow hw 44 rfl)) (by decide) (backOf (W := 0) (au9_0 l Z a0 hw [] wUNKNOWN wHELD wTRUE wNOT_HELD wFALSE wMT wCS hS e1_48 T52.heap n0 O55 f56) hZ (ow hw 44 rfl) (ow hw 43 rfl) (by decide) (by decide)) (g := (mkF m 27 #[(vi p0), (vi p1), (vi p2), (vi p3), (vr e1_48), (vr e1_52), .unset, .unset] [(.ref e1_48)])) rfl (by rw [hml]; rfl) (argsL := [(.ref e1_48)]) (rest := []) (lenOf pd_9 rfl) rfl (by show 2 * 0 + _ ≤ _; exact Nat.le_of_eq rfl) (hb hby at_27) (fun _ _ => ⟨rfl, rfl, (by decide : 5 + 1 ≤ _), (by decide : 11 + 2 ≤ _)⟩)
    dsimp only [Pt.U, Pt.locs, Pt.cells, Pt.slots] at X57 l57 y57 z57 st57 hQ57
    subst y57 z57
    obtain ⟨e1_57, rfl, Nq57, K57q, p57_0, p57_1, p57_2, p57_3⟩ := hQ57
    have N57 : Fr n0 L57 := (congrArg (Fr n0) l57).mpr (Fr.app N52 Nq57)
    have ne58 : e1_48 ≠ e1_57 := Nat.ne_of_lt (Nat.lt_of_lt_of_le f56.lt p57_0)
    have ne59 : e1_52 ≠ e1_57 := Nat.ne_of_lt (Nat.lt_of_lt_of_le p52_1.lt p57_0)
    have g60 : n0 ≤ e1_57 := Nat.le_trans (own_sz O55) p57_0
    have O61 : Old Z n0 T57.heap := O55.keep K57q all0
    have f62 : Exa Z T57.heap e1_52 s0n := (p52_1.keep K57q)
    obtain ⟨_, _, ⟨T63, L63, k63, n63⟩, -, X63, ⟨Lc63, hQ63, l63, y63, z63⟩, st63⟩ := Jvm.LawKit.callS X57 hx (y := M9) hown (mvT hZ (ow hw 41 rfl)) (mvT hZ (ow hw 42 rfl)) (mvT hZ (ow hw 43 rfl)) (mvT hZ (ow hw 44 rfl)) (by decide) (backOf (W := 0) (au9_0 l Z a0 hw [] wUNKNOWN wHELD wTRUE wNOT_HELD wFALSE wMT wCS hS e1_52 T57.heap n0 O61 f62) hZ (ow hw 44 rfl) (ow hw 43 rfl) (by decide) (by decide)) (g := (mkF m 34 #[(vi p0), (vi p1), (vi p2), (vi p3), (vr e1_48), (vr e1_52), (vr e1_57), .unset] [(.ref e1_52)])) rfl (by rw [hml]; rfl) (argsL := [(.ref e1_52)]) (rest := []) (lenOf pd_9 rfl) rfl (by show 2 * 0 + _ ≤ _; exact Nat.le_of_eq rfl) (hb hby at_34) (fun _ _ => ⟨rfl, rfl, (by decide : 6 + 1 ≤ _), (by decide : 13 + 2 ≤ _)⟩)
    dsimp only [Pt.U, Pt.locs, Pt.cells, Pt.slots] at X63 l63 y63 z63 st63 hQ63
    subst y63 z63
    obtain ⟨e1_63, rfl, Nq63, K63q, p63_0, p63_1, p63_2, p63_3⟩ := hQ63
    have N63 : Fr n0 L63 := (congrArg (Fr n0) l63).mpr (Fr.app N57 Nq63)
    have f65 : Exa Z T57.heap e1_48 s0n := (f56.keep K57q)
    have ne64 : e1_48 ≠ e1_63 := Nat.ne_of_lt (Nat.lt_of_lt_of_le f65.lt p63_0)
    have ne66 : e1_52 ≠ e1_63 := Nat.ne_of_lt (Nat.lt_of_lt_of_le f62.lt p63_0)
    have ne67 : e1_57 ≠ e1_63 := Nat.ne_of_lt (Nat.lt_of_lt_of_le p57_1.lt p63_0)
    have g68 : n0 ≤ e1_63 := Nat.le_trans (own_sz O61) p63_0
    have O69 : Old Z n0 T63.heap := O61.keep K63q all0
    have f70 : Fld Z T63.heap e1_57 s3n "truth" s2n (.ref wUNKNOWN) := (p57_3.keep K63q nin0)
    have f72 : Exa Z T63.heap e1_57 s3n := (p57_1.keep K63q)
    obtain ⟨cq71, kq71, q71a, q71b, q71c⟩ := isOf hZ rfl f72
    obtain ⟨_, _, ⟨T71, L71, k71, n71⟩, -, X71, ⟨Lc71, hQ71, l71, y71, z71⟩, st71⟩ := X63.virtualBack hx (y := M10) (z := M10) hown (mvT hZ (ow hw 63 rfl)) (mvT hZ (ow hw 64 rfl)) (notFace_of_selects (args := #[]) (mvT hZ (ow hw 66 rfl))) (mvT hZ (ow hw 66 rfl)) (mvT hZ (ow hw 65 rfl)) (by decide) (backOf (W := 0) (au12_0 l Z a0 hw [] wUNKNOWN wHELD wTRUE wNOT_HELD wFALSE wMT wCS hS e1_57 T63.heap n0 O69 f70) hZ (ow hw 67 rfl) (ow hw 43 rfl) (by decide) (by decide)) q71a q71c (g := (mkF m 53 #[(vi p0), (vi p1), (vi p2), (vi p3), (vr e1_48), (vr e1_52), (vr e1_57), (vr e1_63)] [(.ref e1_57)])) rfl (by rw [hml]; rfl) (Steps.refl _) (argsL := []) (rest := []) (lenOf pd_10 rfl) rfl (by show 2 * 0 + _ ≤ _; exact Nat.le_of_eq rfl) (hb hby at_53) (fun _ _ => ⟨rfl, rfl, (by decide : 7 + 0 ≤ _), (by decide : 15 + 0 ≤ _)⟩)
    dsimp only [Pt.U, Pt.locs, Pt.cells, Pt.slots] at X71 l71 y71 z71 st71 hQ71
    subst y71 z71
    obtain ⟨rfl, Nq71, K71q⟩ := hQ71
    have N71 : Fr n0 L71 := (congrArg (Fr n0) l71).mpr (Fr.app N63 Nq71)
    obtain ⟨T73, X73, e73, st73⟩ := getS2 X71 hx hZ hown (host := "") (Or.inl (ow hw 68 rfl)) Via.refl K71q (S_wUNKNOWN.ext O69.2) (g := (mkF m 56 #[(vi p0), (vi p1), (vi p2), (vi p3), (vr e1_48), (vr e1_52), (vr e1_57), (vr e1_63)] [(.ref wUNKNOWN)])) rfl (hb hby at_56)
    have f74 : Fld Z T63.heap e1_57 s3n "problem" s5n (.ref e1_48) := (p57_2.keep K63q nin0)
    obtain ⟨cq75, kq75, q75a, q75b, q75c⟩ := isOf hZ e73 f72
    obtain ⟨_, _, ⟨T75, L75, k75, n75⟩, -, X75, ⟨Lc75, hQ75, l75, y75, z75⟩, st75⟩ := X73.virtualBack hx (y := M11) (z := M11) hown (mvT hZ (ow hw 69 rfl)) (mvT hZ (ow hw 70 rfl)) (notFace_of_selects (args := #[]) (mvT hZ (ow hw 72 rfl))) (mvT hZ (ow hw 72 rfl)) (mvT hZ (ow hw 71 rfl)) (by decide) (backOf (W := 1) (au13_0 l Z a0 hw [] wUNKNOWN wHELD wTRUE wNOT_HELD wFALSE wMT wCS hS e1_57 e1_48 T63.heap n0 O69 f74) hZ (ow hw 73 rfl) (ow hw 43 rfl) (by decide) (by decide)) q75a q75c (g := (mkF m 68 #[(vi p0), (vi p1), (vi p2), (vi p3), (vr e1_48), (vr e1_52), (vr e1_57), (vr e1_63)] [(.ref e1_57), (.ref e1_48)])) rfl (by rw [hml]; rfl) (Steps.refl _) (argsL := []) (rest := [(.ref e1_48)]) (lenOf pd_11 rfl) rfl (by show 2 * 0 + _ ≤ _; exact Nat.le_of_eq rfl) (hb hby at_68) (fun _ _ => ⟨rfl, e73, (by decide : 7 + 0 ≤ _), (by decide : 15 + 0 ≤ _)⟩)
    dsimp only [Pt.U, Pt.locs, Pt.cells, Pt.slots] at X75 l75 y75 z75 st75 hQ75
    subst y75 z75
    obtain ⟨rfl, Nq75, K75q⟩ := hQ75
    have N75 : Fr n0 L75 := (congrArg (Fr n0) l75).mpr (Fr.app N71 Nq75)
    have f77 : Exa Z T63.heap e1_48 s0n := (f65.keep K63q)
    obtain ⟨cq76, kq76, q76a, q76b, q76c⟩ := isOf hZ K75q f77
    obtain ⟨_, _, ⟨T76, L76, k76, n76⟩, -, X76, ⟨Lc76, hQ76, l76, y76, z76⟩, st76⟩ := X75.virtualBack hx (y := M12) (z := M12) hown (mvT hZ (ow hw 74 rfl)) (mvT hZ (ow hw 75 rfl)) (notFace_of_selects (args := #[]) (mvT hZ (ow hw 77 rfl))) (mvT hZ (ow hw 77 rfl)) (mvT hZ (ow hw 76 rfl)) (by decide) (backOf (W := 0) (au14_0 l Z a0 hw [] wUNKNOWN wHELD wTRUE wNOT_HELD wFALSE wMT wCS hS e1_48 T63.heap n0 O69 ) hZ (ow hw 78 rfl) (ow hw 6 rfl) (by decide) (by decide)) q76a q76c (g := (mkF m 71 #[(vi p0), (vi p1), (vi p2), (vi p3), (vr e1_48), (vr e1_52), (vr e1_57), (vr e1_63)] [(.ref e1_48), (.ref e1_48)])) rfl (by rw [hml]; rfl) (Steps.refl _) (argsL := [(.ref e1_48)]) (rest := []) (lenOf pd_12 rfl) rfl (by show 2 * 0 + _ ≤ _; exact Nat.le_of_eq rfl) (hb hby at_71) (fun _ _ => ⟨rfl, K75q, (by decide : 7 + 0 ≤ _), (by decide : 15 + 0 ≤ _)⟩)
    dsimp only [Pt.U, Pt.locs, Pt.cells, Pt.slots] at X76 l76 y76 z76 st76 hQ76
    subst y76 z76
    obtain ⟨rfl, Nq76, K76q⟩ := hQ76
    have N76 : Fr n0 L76 := (congrArg (Fr n0) l76).mpr (Fr.app N75 Nq76)
    obtain ⟨T78, X78, e78, st78⟩ := getS2 X76 hx hZ hown (host := "") (Or.inl (ow hw 79 rfl)) Via.refl K76q (S_wHELD.ext O69.2) (g := (mkF m 81 #[(vi p0), (vi p1), (vi p2), (vi p3), (vr e1_48), (vr e1_52), (vr e1_57), (vr e1_63)] [(.ref e1_57)])) rfl (hb hby at_81)
    obtain ⟨cq79, kq79, q79a, q79b, q79c⟩ := isOf hZ e78 f72
    obtain ⟨_, _, ⟨T79, L79, k79, n79⟩, -, X79, ⟨Lc79, hQ79, l79, y79, z79⟩, st79⟩ := X78.virtualBack hx (y := M14) (z := M14) hown (mvT hZ (ow hw 81 rfl)) (mvT hZ (ow hw 82 rfl)) (notFace_of_selects (args := #[]) (mvT hZ (ow hw 84 rfl))) (mvT hZ (ow hw 84 rfl)) (mvT hZ (ow hw 83 rfl)) (by decide) (backOf (W := 0) (au15_0 l Z a0 hw [] wUNKNOWN wHELD wTRUE wNOT_HELD wFALSE wMT wCS hS e1_57 T63.heap n0 O69 f70) hZ (ow hw 85 rfl) (ow hw 43 rfl) (by decide) (by decide)) q79a q79c (g := (mkF m 84 #[(vi p0), (vi p1), (vi p2), (vi p3), (vr e1_48), (vr e1_52), (vr e1_57), (vr e1_63)] [(.ref wHELD), (.ref e1_57)])) rfl (by rw [hml]; rfl) (Steps.refl _) (argsL := [(.ref wHELD)]) (rest := []) (lenOf pd_14 rfl) rfl (by show 2 * 0 + _ ≤ _; exact Nat.le_of_eq rfl) (hb hby at_84) (fun _ _ => ⟨rfl, e78, (by decide : 7 + 0 ≤ _), (by decide : 15 + 0 ≤ _)⟩)
    dsimp only [Pt.U, Pt.locs, Pt.cells, Pt.slots] at X79 l79 y79 z79 st79 hQ79
    subst y79 z79
    obtain ⟨rfl, Nq79, K79q⟩ := hQ79
    have N79 : Fr n0 L79 := (congrArg (Fr n0) l79).mpr (Fr.app N76 Nq79)
    obtain ⟨T80, X80, e80, st80⟩ := getS2 X79 hx hZ hown (host := "") (Or.inl (ow hw 79 rfl)) Via.refl K79q (S_wHELD.ext O69.2) (g := (mkF m 87 #[(vi p0), (vi p1), (vi p2), (vi p3), (vr e1_48), (vr e1_52), (vr e1_57), (vr e1_63)] [(.ref wHELD)])) rfl (hb hby at_87)
    obtain ⟨T81, X81, e81, st81⟩ := getS2 X80 hx hZ hown (host := "") (Or.inl (ow hw 79 rfl)) Via.refl e80 (S_wHELD.ext O69.2) (g := (mkF m 95 #[(vi p0), (vi p1), (vi p2), (vi p3), (vr e1_48), (vr e1_52), (vr e1_57), (vr e1_63)] [])) rfl (hb hby at_95)
    obtain ⟨cq82, kq82, q82a, q82b, q82c⟩ := isOf hZ e81 (E_wHELD.ext O69.2)
    obtain ⟨_, _, ⟨T82, L82, k82, n82⟩, -, X82, ⟨Lc82, hQ82, l82, y82, z82⟩, st82⟩ := X81.virtualBack hx (y := M14) (z := M14) hown (mvT hZ (ow hw 81 rfl)) (mvT hZ (ow hw 82 rfl)) (notFace_of_selects (args := #[]) (mvT hZ (ow hw 84 rfl))) (mvT hZ (ow hw 84 rfl)) (mvT hZ (ow hw 83 rfl)) (by decide) (backOf (W := 0) (au15_1 l Z a0 hw [] wUNKNOWN wHELD wTRUE wNOT_HELD wFALSE wMT wCS hS e1_57 T63.heap n0 O69 f70) hZ (ow hw 85 rfl) (ow hw 43 rfl) (by decide) (by decide)) q82a q82c (g := (mkF m 100 #[(vi p0), (vi p1), (vi p2), (vi p3), (vr e1_48), (vr e1_52), (vr e1_57), (vr e1_63)] [(.ref e1_57), (.ref wHELD)])) rfl (by rw [hml]; rfl) (Steps.refl _) (argsL := [(.ref e1_57)]) (rest := []) (lenOf pd_14 rfl) rfl (by show 2 * 0 + _ ≤ _; exact Nat.le_of_eq rfl) (hb hby at_100) (fun _ _ => ⟨rfl, e81, (by decide : 7 + 0 ≤ _), (by decide : 15 + 0 ≤ _)⟩)
    dsimp only [Pt.U, Pt.locs, Pt.cells, Pt.slots] at X82 l82 y82 z82 st82 hQ82
    subst y82 z82
    obtain ⟨rfl, Nq82, K82q⟩ := hQ82
    have N82 : Fr n0 L82 := (congrArg (Fr n0) l82).mpr (Fr.app N79 Nq82)
    obtain ⟨T83, X83, e83, st83⟩ := getS2 X82 hx hZ hown (host := "") (Or.inl (ow hw 79 rfl)) Via.refl K82q (S_wHELD.ext O69.2) (g := (mkF m 103 #[(vi p0), (vi p1), (vi p2), (vi p3), (vr e1_48), (vr e1_52), (vr e1_57), (vr e1_63)] [(.ref wHELD)])) rfl (hb hby at_103)
    obtain ⟨T84, X84, e84, st84⟩ := getS2 X83 hx hZ hown (host := "") (Or.inl (ow hw 102 rfl)) Via.refl e83 (S_wNOT_HELD.ext O69.2) (g := (mkF m 113 #[(vi p0), (vi p1), (vi p2), (vi p3), (vr e1_48), (vr e1_52), (vr e1_57), (vr e1_63)] [(.ref e1_57)])) rfl (hb hby at_113)
    obtain ⟨cq85, kq85, q85a, q85b, q85c⟩ := isOf hZ e84 f72
    obtain ⟨_, _, ⟨T85, L85, k85, n85⟩, -, X85, ⟨Lc85, hQ85, l85, y85, z85⟩, st85⟩ := X84.virtualBack hx (y := M14) (z := M14) hown (mvT hZ (ow hw 81 rfl)) (mvT hZ (ow hw 82 rfl)) (notFace_of_selects (args := #[]) (mvT hZ (ow hw 84 rfl))) (mvT hZ (ow hw 84 rfl)) (mvT hZ (ow hw 83 rfl)) (by decide) (backOf (W := 0) (au15_2 l Z a0 hw [] wUNKNOWN wHELD wTRUE wNOT_HELD wFALSE wMT wCS hS e1_57 T63.heap n0 O69 f70) hZ (ow hw 85 rfl) (ow hw 43 rfl) (by decide) (by decide)) q85a q85c (g := (mkF m 116 #[(vi p0), (vi p1), (vi p2), (vi p3), (vr e1_48), (vr e1_52), (vr e1_57), (vr e1_63)] [(.ref wNOT_HELD), (.ref e1_57)])) rfl (by rw [hml]; rfl) (Steps.refl _) (argsL := [(.ref wNOT_HELD)]) (rest := []) (lenOf pd_14 rfl) rfl (by show 2 * 0 + _ ≤ _; exact Nat.le_of_eq rfl) (hb hby at_116) (fun _ _ => ⟨rfl, e84, (by decide : 7 + 0 ≤ _), (by decide : 15 + 0 ≤ _)⟩)
    dsimp only [Pt.U, Pt.locs, Pt.cells, Pt.slots] at X85 l85 y85 z85 st85 hQ85
    subst y85 z85
    obtain ⟨rfl, Nq85, K85q⟩ := hQ85
    have N85 : Fr n0 L85 := (congrArg (Fr n0) l85).mpr (Fr.app N82 Nq85)
    obtain ⟨T86, X86, e86, st86⟩ := getS2 X85 hx hZ hown (host := "") (Or.inl (ow hw 102 rfl)) Via.refl K85q (S_wNOT_HELD.ext O69.2) (g := (mkF m 126 #[(vi p0), (vi p1), (vi p2), (vi p3), (vr e1_48), (vr e1_52), (vr e1_57), (vr e1_63)] [])) rfl (hb hby at_126)
    obtain ⟨cq87, kq87, q87a, q87b, q87c⟩ := isOf hZ e86 (E_wNOT_HELD.ext O69.2)
    obtain ⟨_, _, ⟨T87, L87, k87, n87⟩, -, X87, ⟨Lc87, hQ87, l87, y87, z87⟩, st87⟩ := X86.virtualBack hx (y := M14) (z := M14) hown (mvT hZ (ow hw 81 rfl)) (mvT hZ (ow hw 82 rfl)) (notFace_of_selects (args := #[]) (mvT hZ (ow hw 84 rfl))) (mvT hZ (ow hw 84 rfl)) (mvT hZ (ow hw 83 rfl)) (by decide) (backOf (W := 0) (au15_3 l Z a0 hw [] wUNKNOWN wHELD wTRUE wNOT_HELD wFALSE wMT wCS hS e1_57 T63.heap n0 O69 f70) hZ (ow hw 85 rfl) (ow hw 43 rfl) (by decide) (by decide)) q87a q87c (g := (mkF m 131 #[(vi p0), (vi p1), (vi p2), (vi p3), (vr e1_48), (vr e1_52), (vr e1_57), (vr e1_63)] [(.ref e1_57), (.ref wNOT_HELD)])) rfl (by rw [hml]; rfl) (Steps.refl _) (argsL := [(.ref e1_57)]) (rest := []) (lenOf pd_14 rfl) rfl (by show 2 * 0 + _ ≤ _; exact Nat.le_of_eq rfl) (hb hby at_131) (fun _ _ => ⟨rfl, e86, (by decide : 7 + 0 ≤ _), (by decide : 15 + 0 ≤ _)⟩)
    dsimp only [Pt.U, Pt.locs, Pt.cells, Pt.slots] at X87 l87 y87 z87 st87 hQ87
    subst y87 z87
    obtain ⟨rfl, Nq87, K87q⟩ := hQ87
    have N87 : Fr n0 L87 := (congrArg (Fr n0) l87).mpr (Fr.app N85 Nq87)
    obtain ⟨cq88, kq88, q88a, q88b, q88c⟩ := isOf hZ K87q f72
    obtain ⟨_, _, ⟨T88, L88, k88, n88⟩, -, X88, ⟨Lc88, hQ88, l88, y88, z88⟩, st88⟩ := X87.virtualBack hx (y := M14) (z := M14) hown (mvT hZ (ow hw 81 rfl)) (mvT hZ (ow hw 82 rfl)) (notFace_of_selects (args := #[]) (mvT hZ (ow hw 84 rfl))) (mvT hZ (ow hw 84 rfl)) (mvT hZ (ow hw 83 rfl)) (by decide) (backOf (W := 0) (au15_4 l Z a0 hw [] wUNKNOWN wHELD wTRUE wNOT_HELD wFALSE wMT wCS hS e1_57 e1_63 T63.heap n0 O69 f70 p63_3) hZ (ow hw 85 rfl) (ow hw 43 rfl) (by decide) (by decide)) q88a q88c (g := (mkF m 145 #[(vi p0), (vi p1), (vi p2), (vi p3), (vr e1_48), (vr e1_52), (vr e1_57), (vr e1_63)] [(.ref e1_63), (.ref e1_57)])) rfl (by rw [hml]; rfl) (Steps.refl _) (argsL := [(.ref e1_63)]) (rest := []) (lenOf pd_14 rfl) rfl (by show 2 * 0 + _ ≤ _; exact Nat.le_of_eq rfl) (hb hby at_145) (fun _ _ => ⟨rfl, K87q, (by decide : 7 + 0 ≤ _), (by decide : 15 + 0 ≤ _)⟩)
    dsimp only [Pt.U, Pt.locs, Pt.cells, Pt.slots] at X88 l88 y88 z88 st88 hQ88
    subst y88 z88
    obtain ⟨rfl, Nq88, K88q⟩ := hQ88
    have N88 : Fr n0 L88 := (congrArg (Fr n0) l88).mpr (Fr.app N87 Nq88)
    have hk89 : _ ≤ T63.heap.size := (Nat.le_trans (Nat.le_trans (Nat.le_trans (Nat.le_trans (Nat.le_refl _) K48q.1) K52q.1) K57q.1) K63q.1)
    obtain ⟨fs, hr, hrun, hended, hRW⟩ := X88.leaveW hS1 (by rw [K88q]; exact hk89) (v := some (.int 1)) (fun h => by rw [hret0] at h; cases h)
    refine ⟨_, _, pre51 _ ?_, hrun, hended, _, _, rfl, ?_, hRW.1, hRW.2.1, hRW.2.2.1, hRW.2.2.2.mono (by decide) (by decide)⟩
    · skip
      show Steps p.tables e below (T48.setTop (mkF m 20 #[(vi p0), (vi p1), (vi p2), (vi p3), (vr e1_48), .unset, .unset, .unset] [(.int yc)])) _
      refine st52 _ ?_
      refine XS.astore X52.here hx rfl (hb hby at_23) rfl rfl (l' := #[(vi p0), (vi p1), (vi p2), (vi p3), (vr e1_48), (vr e1_52), .unset, .unset]) rfl ?_
      refine XS.aload X52.here hx rfl (hb hby at_25) rfl rfl ?_
      refine st57 _ ?_
      refine XS.astore X57.here hx rfl (hb hby at_30) rfl rfl (l' := #[(vi p0), (vi p1), (vi p2), (vi p3), (vr e1_48), (vr e1_52), (vr e1_57), .unset]) rfl ?_
      refine XS.aload X57.here hx rfl (hb hby at_32) rfl rfl ?_
      refine st63 _ ?_
      refine XS.astore X63.here hx rfl (hb hby at_37) rfl rfl (l' := #[(vi p0), (vi p1), (vi p2), (vi p3), (vr e1_48), (vr e1_52), (vr e1_57), (vr e1_63)]) rfl ?_
      show Steps p.tables e below (T63.setTop (mkF m 39 #[(vi p0), (vi p1), (vi p2), (vi p3), (vr e1_48), (vr e1_52), (vr e1_57), (vr e1_63)] [])) _
      refine XS.aload X63.here hx rfl (hb hby at_39) rfl rfl ?_
      refine XS.ifnullNo X63.here hx rfl (hb hby at_41) rfl ?_
      refine XS.aload X63.here hx rfl (hb hby at_44) rfl rfl ?_
      refine XS.ifnonnullYes X63.here hx rfl (pc0 := 46) (pc' := 51) rfl (hb hby at_46) rfl (by decide) (by decide) ?_
      refine XS.aload X63.here hx rfl (hb hby at_51) rfl rfl ?_
      refine st71.trans ?_
      refine st73 _ ?_
      refine Jvm.RoadKit.acmp (g := (mkF m 59 #[(vi p0), (vi p1), (vi p2), (vi p3), (vr e1_48), (vr e1_52), (vr e1_57), (vr e1_63)] [(.ref wUNKNOWN), (.ref wUNKNOWN)])) X73 hx rfl rfl rfl (pc0 := 59) (pc' := 64) (same := true) rfl (hb hby at_59) rfl (decide_eq_true rfl) (by decide) (by decide) ?_
      show Steps p.tables e below (T73.setTop (mkF m 64 #[(vi p0), (vi p1), (vi p2), (vi p3), (vr e1_48), (vr e1_52), (vr e1_57), (vr e1_63)] [])) _
      refine XS.aload X73.here hx rfl (hb hby at_64) rfl rfl ?_
      refine XS.aload X73.here hx rfl (hb hby at_66) rfl rfl ?_
      refine st75.trans ?_
      refine st76.trans ?_
      refine XS.ifYes X76.here hx rfl (pc0 := 74) (pc' := 79) rfl (hb hby at_74) rfl ((if0 _ _).trans (feq (by decide : ¬ ((1 : Int32) = (0 : Int32)))).2) (by decide) (by decide) ?_
      refine XS.aload X76.here hx rfl (hb hby at_79) rfl rfl ?_
      refine st78 _ ?_
      refine st79.trans ?_
      show Steps p.tables e below (T79.setTop (mkF m 87 #[(vi p0), (vi p1), (vi p2), (vi p3), (vr e1_48), (vr e1_52), (vr e1_57), (vr e1_63)] [(.ref wHELD)])) _
      refine st80 _ ?_
      refine Jvm.RoadKit.acmp (g := (mkF m 90 #[(vi p0), (vi p1), (vi p2), (vi p3), (vr e1_48), (vr e1_52), (vr e1_57), (vr e1_63)] [(.ref wHELD), (.ref wHELD)])) X80 hx rfl rfl rfl (pc0 := 90) (pc' := 95) (same := true) rfl (hb hby at_90) rfl (decide_eq_true rfl) (by decide) (by decide) ?_
      refine st81 _ ?_
      refine XS.aload X81.here hx rfl (hb hby at_98) rfl rfl ?_
      refine st82.trans ?_
      refine st83 _ ?_
      refine Jvm.RoadKit.acmp (g := (mkF m 106 #[(vi p0), (vi p1), (vi p2), (vi p3), (vr e1_48), (vr e1_52), (vr e1_57), (vr e1_63)] [(.ref wHELD), (.ref wHELD)])) X83 hx rfl rfl rfl (pc0 := 106) (pc' := 111) (same := true) rfl (hb hby at_106) rfl (decide_eq_true rfl) (by decide) (by decide) ?_
      refine XS.aload X83.here hx rfl (hb hby at_111) rfl rfl ?_
      show Steps p.tables e below (T83.setTop (mkF m 113 #[(vi p0), (vi p1), (vi p2), (vi p3), (vr e1_48), (vr e1_52), (vr e1_57), (vr e1_63)] [(.ref e1_57)])) _
      refine st84 _ ?_
      refine st85.trans ?_
      refine XS.aload X85.here hx rfl (hb hby at_119) rfl rfl ?_
      refine Jvm.RoadKit.acmp (g := (mkF m 121 #[(vi p0), (vi p1), (vi p2), (vi p3), (vr e1_48), (vr e1_52), (vr e1_57), (vr e1_63)] [(.ref e1_57), (.ref e1_57)])) X85 hx rfl rfl rfl (pc0 := 121) (pc' := 126) (same := true) rfl (hb hby at_121) rfl (decide_eq_true rfl) (by decide) (by decide) ?_
      refine st86 _ ?_
      refine XS.aload X86.here hx rfl (hb hby at_129) rfl rfl ?_
      refine st87.trans ?_
      refine XS.aload X87.here hx rfl (hb hby at_134) rfl rfl ?_
      show Steps p.tables e below (T87.setTop (mkF m 136 #[(vi p0), (vi p1), (vi p2), (vi p3), (vr e1_48), (vr e1_52), (vr e1_57), (vr e1_63)] [(.ref e1_57), (.ref e1_57)])) _
      refine Jvm.RoadKit.acmp (g := (mkF m 136 #[(vi p0), (vi p1), (vi p2), (vi p3), (vr e1_48), (vr e1_52), (vr e1_57), (vr e1_63)] [(.ref e1_57), (.ref e1_57)])) X87 hx rfl rfl rfl (pc0 := 136) (pc' := 141) (same := true) rfl (hb hby at_136) rfl (decide_eq_true rfl) (by decide) (by decide) ?_
      refine XS.aload X87.here hx rfl (hb hby at_141) rfl rfl ?_
      refine XS.aload X87.here hx rfl (hb hby at_143) rfl rfl ?_
      refine st88.trans ?_
      refine XS.aload X88.here hx rfl (hb hby at_148) rfl rfl ?_
      refine Jvm.RoadKit.acmp (g := (mkF m 150 #[(vi p0), (vi p1), (vi p2), (vi p3), (vr e1_48), (vr e1_52), (vr e1_57), (vr e1_63)] [(.ref e1_57), (.ref e1_57)])) X88 hx rfl rfl rfl (pc0 := 150) (pc' := 155) (same := true) rfl (hb hby at_150) rfl (decide_eq_true rfl) (by decide) (by decide) ?_
      refine XS.iconst X88.here hx rfl (hb hby at_155) ?_
      exact retN X88 hx (t := .boolean) hret0 (by simp) (hb hby at_156) hr
    · show Q_rm0 Z wUNKNOWN wHELD wTRUE wNOT_HELD wFALSE wMT wCS p0 p1 p2 p3 h0 n0 _ T88.heap _
      rw [K88q]
      exact ⟨rfl, N88⟩
  · skip
    have pre90 : ∀ t, Steps p.tables e below (s₁.setTop (mkF m 3 #[(vi p0), (vi p1), (vi p2), (vi p3), .unset, .unset, .unset, .unset] [(.int 2)])) t → Steps p.tables e below (s₁.setTop (entryFrame m #[(.int p0), (.int p1), (.int p2), (.int p3)] maxLocals)) t := by
      intro t k
      refine pre1 t ?_
      rw [hk2]
      exact k
    obtain ⟨_, _, ⟨T91, L91, k91, n91⟩, -, X91, ⟨Lc91, hQ91, l91, y91, z91⟩, st91⟩ := Jvm.LawKit.callS X0 hx (y := M2) hown (mvT hZ (ow hw 0 rfl)) (mvT hZ (ow hw 1 rfl)) (mvT hZ (ow hw 2 rfl)) (mvT hZ (ow hw 3 rfl)) (by decide) (backOf (W := 0) (au1_2 l Z a0 hw [] wUNKNOWN wHELD wTRUE wNOT_HELD wFALSE wMT wCS hS p1 p2 p3 h0 n0 O0 ) hZ (ow hw 3 rfl) (ow hw 2 rfl) (by decide) (by decide)) (g := (mkF m 6 #[(vi p0), (vi p1), (vi p2), (vi p3), .unset, .unset, .unset, .unset] [(.int p3), (.int p2), (.int p1), (.int 2)])) rfl (by rw [hml]; rfl) (argsL := [(.int 2), (.int p1), (.int p2), (.int p3)]) (rest := []) (lenOf pd_2 rfl) rfl (by show 2 * 0 + _ ≤ _; exact Nat.le_of_eq rfl) (hb hby at_6) (fun _ _ => ⟨rfl, e0, (by decide : 0 + 3 ≤ _), (by decide : 0 + 8 ≤ _)⟩)
    dsimp only [Pt.U, Pt.locs, Pt.cells, Pt.slots] at X91 l91 y91 z91 st91 hQ91
    subst y91 z91
    obtain ⟨e1_91, rfl, Nq91, K91q, p91_0, p91_1⟩ := hQ91
    have N91 : Fr n0 L91 := (congrArg (Fr n0) l91).mpr (Fr.app N0 Nq91)
    have g92 : n0 ≤ e1_91 := Nat.le_trans (own_sz O0) p91_0
    have O93 : Old Z n0 T91.heap := O0.keep K91q all0
    obtain ⟨yc, hyc⟩ : ∃ z : Int32, z = ((((p0.toUInt32 >>> ((8 : Int32) &&& 31).toUInt32).toInt32) &&& (255 : Int32)).toUInt32.toUInt16.toUInt32.toInt32) := ⟨_, rfl⟩
    have pre94 : ∀ t, Steps p.tables e below (T91.setTop (mkF m 20 #[(vi p0), (vi p1), (vi p2), (vi p3), (vr e1_91), .unset, .unset, .unset] [(.int yc)])) t → Steps p.tables e below (s₁.setTop (entryFrame m #[(.int p0), (.int p1), (.int p2), (.int p3)] maxLocals)) t := by
      intro t k
      rw [hyc] at k
      refine pre90 t ?_
      show Steps p.tables e below (s₁.setTop (mkF m 3 #[(vi p0), (vi p1), (vi p2), (vi p3), .unset, .unset, .unset, .unset] [(.int 2)])) _
      refine XS.iloadN X0.here hx rfl (hb hby at_3) rfl ?_
      refine XS.iloadN X0.here hx rfl (hb hby at_4) rfl ?_
      refine XS.iloadN X0.here hx rfl (hb hby at_5) rfl ?_
      refine st91 _ ?_
      refine XS.astore X91.here hx rfl (hb hby at_9) rfl rfl (l' := #[(vi p0), (vi p1), (vi p2), (vi p3), (vr e1_91), .unset, .unset, .unset]) rfl ?_
      refine XS.iloadN X91.here hx rfl (hb hby at_11) rfl ?_
      refine XS.bipush X91.here hx rfl (hb hby at_12) ?_
      refine XS.iushr X91.here hx rfl (hb hby at_14) rfl ?_
      show Steps p.tables e below (T91.setTop (mkF m 15 #[(vi p0), (vi p1), (vi p2), (vi p3), (vr e1_91), .unset, .unset, .unset] [(.int ((p0.toUInt32 >>> ((8 : Int32) &&& 31).toUInt32).toInt32))])) _
      refine XS.sipush X91.here hx rfl (hb hby at_15) ?_
      refine XS.iand X91.here hx rfl (hb hby at_18) rfl ?_
      refine XS.i2c X91.here hx rfl (hb hby at_19) rfl ?_
      exact k
    have hnyc := own_chr hyc
    have h255yc : ¬ (255 : Int32) < yc := hnyc.1
    obtain ⟨_, _, ⟨T95, L95, k95, n95⟩, -, X95, ⟨Lc95, hQ95, l95, y95, z95⟩, st95⟩ := Jvm.LawKit.callS X91 hx (y := M6) hown (mvT hZ (ow hw 26 rfl)) (mvT hZ (ow hw 27 rfl)) (mvT hZ (ow hw 6 rfl)) (mvT hZ (ow hw 28 rfl)) (by decide) (backOf (W := 0) (au5_0 l Z a0 hw [] wUNKNOWN wHELD wTRUE wNOT_HELD wFALSE wMT wCS hS yc T91.heap n0 O93 h255yc) hZ (ow hw 28 rfl) (ow hw 6 rfl) (by decide) (by decide)) (g := (mkF m 20 #[(vi p0), (vi p1), (vi p2), (vi p3), (vr e1_91), .unset, .unset, .unset] [(.int yc)])) rfl (by rw [hml]; rfl) (argsL := [(.int yc)]) (rest := []) (lenOf pd_6 rfl) rfl (by show 2 * 0 + _ ≤ _; exact Nat.le_of_eq rfl) (hb hby at_20) (fun _ _ => ⟨rfl, rfl, (by decide : 3 + 2 ≤ _), (by decide : 8 + 5 ≤ _)⟩)
    dsimp only [Pt.U, Pt.locs, Pt.cells, Pt.slots] at X95 l95 y95 z95 st95 hQ95
    subst y95 z95
    obtain ⟨e1_95, rfl, Nq95, K95q, p95_0, p95_1⟩ := hQ95
    have N95 : Fr n0 L95 := (congrArg (Fr n0) l95).mpr (Fr.app N91 Nq95)
    have ne96 : e1_91 ≠ e1_95 := Nat.ne_of_lt (Nat.lt_of_lt_of_le p91_1.lt p95_0)
    have g97 : n0 ≤ e1_95 := Nat.le_trans (own_sz O93) p95_0
    have O98 : Old Z n0 T95.heap := O93.keep K95q all0
    have f99 : Exa Z T95.heap e1_91 s0n := (p91_1.keep K95q)
    obtain ⟨_, _, ⟨T100, L100, k100, n100⟩, -, X100, ⟨Lc100, hQ100, l100, y100, z100⟩, st100⟩ := Jvm.LawKit.callS X95 hx (y := M9) hown (mvT hZ (ow hw 41 rfl)) (mvT hZ (ow hw 42 rfl)) (mvT hZ (ow hw 43 rfl)) (mvT hZ (ow hw 44 rfl)) (by decide) (backOf (W := 0) (au9_0 l Z a0 hw [] wUNKNOWN wHELD wTRUE wNOT_HELD wFALSE wMT wCS hS e1_91 T95.heap n0 O98 f99) hZ (ow hw 44 rfl) (ow hw 43 rfl) (by decide) (by decide)) (g := (mkF m 27 #[(vi p0), (vi p1), (vi p2), (vi p3), (vr e1_91), (vr e1_95), .unset, .unset] [(.ref e1_91)])) rfl (by rw [hml]; rfl) (argsL := [(.ref e1_91)]) (rest := []) (lenOf pd_9 rfl) rfl (by show 2 * 0 + _ ≤ _; exact Nat.le_of_eq rfl) (hb hby at_27) (fun _ _ => ⟨rfl, rfl, (by decide : 5 + 1 ≤ _), (by decide : 13 + 2 ≤ _)⟩)
    dsimp only [Pt.U, Pt.locs, Pt.cells, Pt.slots] at X100 l100 y100 z100 st100 hQ100
    subst y100 z100
    obtain ⟨e1_100, rfl, Nq100, K100q, p100_0, p100_1, p100_2, p100_3⟩ := hQ100
    have N100 : Fr n0 L100 := (congrArg (Fr n0) l100).mpr (Fr.app N95 Nq100)
    have ne101 : e1_91 ≠ e1_100 := Nat.ne_of_lt (Nat.lt_of_lt_of_le f99.lt p100_0)
    have ne102 : e1_95 ≠ e1_100 := Nat.ne_of_lt (Nat.lt_of_lt_of_le p95_1.lt p100_0)
    have g103 : n0 ≤ e1_100 := Nat.le_trans (own_sz O98) p100_0
    have O104 : Old Z n0 T100.heap := O98.keep K100q all0
    have f105 : Exa Z T100.heap e1_95 s0n := (p95_1.keep K100q)
    obtain ⟨_, _, ⟨T106, L106, k106, n106⟩, -, X106, ⟨Lc106, hQ106, l106, y106, z106⟩, st106⟩ := Jvm.LawKit.callS X100 hx (y := M9) hown (mvT hZ (ow hw 41 rfl)) (mvT hZ (ow hw 42 rfl)) (mvT hZ (ow hw 43 rfl)) (mvT hZ (ow hw 44 rfl)) (by decide) (backOf (W := 0) (au9_0 l Z a0 hw [] wUNKNOWN wHELD wTRUE wNOT_HELD wFALSE wMT wCS hS e1_95 T100.heap n0 O104 f105) hZ (ow hw 44 rfl) (ow hw 43 rfl) (by decide) (by decide)) (g := (mkF m 34 #[(vi p0), (vi p1), (vi p2), (vi p3), (vr e1_91), (vr e1_95), (vr e1_100), .unset] [(.ref e1_95)])) rfl (by rw [hml]; rfl) (argsL := [(.ref e1_95)]) (rest := []) (lenOf pd_9 rfl) rfl (by show 2 * 0 + _ ≤ _; exact Nat.le_of_eq rfl) (hb hby at_34) (fun _ _ => ⟨rfl, rfl, (by decide : 6 + 1 ≤ _), (by decide : 15 + 2 ≤ _)⟩)
    dsimp only [Pt.U, Pt.locs, Pt.cells, Pt.slots] at X106 l106 y106 z106 st106 hQ106
    subst y106 z106
    obtain ⟨e1_106, rfl, Nq106, K106q, p106_0, p106_1, p106_2, p106_3⟩ := hQ106
    have N106 : Fr n0 L106 := (congrArg (Fr n0) l106).mpr (Fr.app N100 Nq106)
    have f108 : Exa Z T100.heap e1_91 s0n := (f99.keep K100q)
    have ne107 : e1_91 ≠ e1_106 := Nat.ne_of_lt (Nat.lt_of_lt_of_le f108.lt p106_0)
    have ne109 : e1_95 ≠ e1_106 := Nat.ne_of_lt (Nat.lt_of_lt_of_le f105.lt p106_0)
    have ne110 : e1_100 ≠ e1_106 := Nat.ne_of_lt (Nat.lt_of_lt_of_le p100_1.lt p106_0)
    have g111 : n0 ≤ e1_106 := Nat.le_trans (own_sz O104) p106_0
    have O112 : Old Z n0 T106.heap := O104.keep K106q all0
    have f113 : Fld Z T106.heap e1_100 s3n "truth" s2n (.ref wUNKNOWN) := (p100_3.keep K106q nin0)
    have f115 : Exa Z T106.heap e1_100 s3n := (p100_1.keep K106q)
    obtain ⟨cq114, kq114, q114a, q114b, q114c⟩ := isOf hZ rfl f115
    obtain ⟨_, _, ⟨T114, L114, k114, n114⟩, -, X114, ⟨Lc114, hQ114, l114, y114, z114⟩, st114⟩ := X106.virtualBack hx (y := M10) (z := M10) hown (mvT hZ (ow hw 63 rfl)) (mvT hZ (ow hw 64 rfl)) (notFace_of_selects (args := #[]) (mvT hZ (ow hw 66 rfl))) (mvT hZ (ow hw 66 rfl)) (mvT hZ (ow hw 65 rfl)) (by decide) (backOf (W := 0) (au12_0 l Z a0 hw [] wUNKNOWN wHELD wTRUE wNOT_HELD wFALSE wMT wCS hS e1_100 T106.heap n0 O112 f113) hZ (ow hw 67 rfl) (ow hw 43 rfl) (by decide) (by decide)) q114a q114c (g := (mkF m 53 #[(vi p0), (vi p1), (vi p2), (vi p3), (vr e1_91), (vr e1_95), (vr e1_100), (vr e1_106)] [(.ref e1_100)])) rfl (by rw [hml]; rfl) (Steps.refl _) (argsL := []) (rest := []) (lenOf pd_10 rfl) rfl (by show 2 * 0 + _ ≤ _; exact Nat.le_of_eq rfl) (hb hby at_53) (fun _ _ => ⟨rfl, rfl, (by decide : 7 + 0 ≤ _), (by decide : 17 + 0 ≤ _)⟩)
    dsimp only [Pt.U, Pt.locs, Pt.cells, Pt.slots] at X114 l114 y114 z114 st114 hQ114
    subst y114 z114
    obtain ⟨rfl, Nq114, K114q⟩ := hQ114
    have N114 : Fr n0 L114 := (congrArg (Fr n0) l114).mpr (Fr.app N106 Nq114)
    obtain ⟨T116, X116, e116, st116⟩ := getS2 X114 hx hZ hown (host := "") (Or.inl (ow hw 68 rfl)) Via.refl K114q (S_wUNKNOWN.ext O112.2) (g := (mkF m 56 #[(vi p0), (vi p1), (vi p2), (vi p3), (vr e1_91), (vr e1_95), (vr e1_100), (vr e1_106)] [(.ref wUNKNOWN)])) rfl (hb hby at_56)
    have f117 : Fld Z T106.heap e1_100 s3n "problem" s5n (.ref e1_91) := (p100_2.keep K106q nin0)
    obtain ⟨cq118, kq118, q118a, q118b, q118c⟩ := isOf hZ e116 f115
    obtain ⟨_, _, ⟨T118, L118, k118, n118⟩, -, X118, ⟨Lc118, hQ118, l118, y118, z118⟩, st118⟩ := X116.virtualBack hx (y := M11) (z := M11) hown (mvT hZ (ow hw 69 rfl)) (mvT hZ (ow hw 70 rfl)) (notFace_of_selects (args := #[]) (mvT hZ (ow hw 72 rfl))) (mvT hZ (ow hw 72 rfl)) (mvT hZ (ow hw 71 rfl)) (by decide) (backOf (W := 1) (au13_0 l Z a0 hw [] wUNKNOWN wHELD wTRUE wNOT_HELD wFALSE wMT wCS hS e1_100 e1_91 T106.heap n0 O112 f117) hZ (ow hw 73 rfl) (ow hw 43 rfl) (by decide) (by decide)) q118a q118c (g := (mkF m 68 #[(vi p0), (vi p1), (vi p2), (vi p3), (vr e1_91), (vr e1_95), (vr e1_100), (vr e1_106)] [(.ref e1_100), (.ref e1_91)])) rfl (by rw [hml]; rfl) (Steps.refl _) (argsL := []) (rest := [(.ref e1_91)]) (lenOf pd_11 rfl) rfl (by show 2 * 0 + _ ≤ _; exact Nat.le_of_eq rfl) (hb hby at_68) (fun _ _ => ⟨rfl, e116, (by decide : 7 + 0 ≤ _), (by decide : 17 + 0 ≤ _)⟩)
    dsimp only [Pt.U, Pt.locs, Pt.cells, Pt.slots] at X118 l118 y118 z118 st118 hQ118
    subst y118 z118
    obtain ⟨rfl, Nq118, K118q⟩ := hQ118
    have N118 : Fr n0 L118 := (congrArg (Fr n0) l118).mpr (Fr.app N114 Nq118)
    have f120 : Exa Z T106.heap e1_91 s0n := (f108.keep K106q)
    obtain ⟨cq119, kq119, q119a, q119b, q119c⟩ := isOf hZ K118q f120
    obtain ⟨_, _, ⟨T119, L119, k119, n119⟩, -, X119, ⟨Lc119, hQ119, l119, y119, z119⟩, st119⟩ := X118.virtualBack hx (y := M12) (z := M12) hown (mvT hZ (ow hw 74 rfl)) (mvT hZ (ow hw 75 rfl)) (notFace_of_selects (args := #[]) (mvT hZ (ow hw 77 rfl))) (mvT hZ (ow hw 77 rfl)) (mvT hZ (ow hw 76 rfl)) (by decide) (backOf (W := 0) (au14_0 l Z a0 hw [] wUNKNOWN wHELD wTRUE wNOT_HELD wFALSE wMT wCS hS e1_91 T106.heap n0 O112 ) hZ (ow hw 78 rfl) (ow hw 6 rfl) (by decide) (by decide)) q119a q119c (g := (mkF m 71 #[(vi p0), (vi p1), (vi p2), (vi p3), (vr e1_91), (vr e1_95), (vr e1_100), (vr e1_106)] [(.ref e1_91), (.ref e1_91)])) rfl (by rw [hml]; rfl) (Steps.refl _) (argsL := [(.ref e1_91)]) (rest := []) (lenOf pd_12 rfl) rfl (by show 2 * 0 + _ ≤ _; exact Nat.le_of_eq rfl) (hb hby at_71) (fun _ _ => ⟨rfl, K118q, (by decide : 7 + 0 ≤ _), (by decide : 17 + 0 ≤ _)⟩)
    dsimp only [Pt.U, Pt.locs, Pt.cells, Pt.slots] at X119 l119 y119 z119 st119 hQ119
    subst y119 z119
    obtain ⟨rfl, Nq119, K119q⟩ := hQ119
    have N119 : Fr n0 L119 := (congrArg (Fr n0) l119).mpr (Fr.app N118 Nq119)
    obtain ⟨T121, X121, e121, st121⟩ := getS2 X119 hx hZ hown (host := "") (Or.inl (ow hw 79 rfl)) Via.refl K119q (S_wHELD.ext O112.2) (g := (mkF m 81 #[(vi p0), (vi p1), (vi p2), (vi p3), (vr e1_91), (vr e1_95), (vr e1_100), (vr e1_106)] [(.ref e1_100)])) rfl (hb hby at_81)
    obtain ⟨cq122, kq122, q122a, q122b, q122c⟩ := isOf hZ e121 f115
    obtain ⟨_, _, ⟨T122, L122, k122, n122⟩, -, X122, ⟨Lc122, hQ122, l122, y122, z122⟩, st122⟩ := X121.virtualBack hx (y := M14) (z := M14) hown (mvT hZ (ow hw 81 rfl)) (mvT hZ (ow hw 82 rfl)) (notFace_of_selects (args := #[]) (mvT hZ (ow hw 84 rfl))) (mvT hZ (ow hw 84 rfl)) (mvT hZ (ow hw 83 rfl)) (by decide) (backOf (W := 0) (au15_0 l Z a0 hw [] wUNKNOWN wHELD wTRUE wNOT_HELD wFALSE wMT wCS hS e1_100 T106.heap n0 O112 f113) hZ (ow hw 85 rfl) (ow hw 43 rfl) (by decide) (by decide)) q122a q122c (g := (mkF m 84 #[(vi p0), (vi p1), (vi p2), (vi p3), (vr e1_91), (vr e1_95), (vr e1_100), (vr e1_106)] [(.ref wHELD), (.ref e1_100)])) rfl (by rw [hml]; rfl) (Steps.refl _) (argsL := [(.ref wHELD)]) (rest := []) (lenOf pd_14 rfl) rfl (by show 2 * 0 + _ ≤ _; exact Nat.le_of_eq rfl) (hb hby at_84) (fun _ _ => ⟨rfl, e121, (by decide : 7 + 0 ≤ _), (by decide : 17 + 0 ≤ _)⟩)
    dsimp only [Pt.U, Pt.locs, Pt.cells, Pt.slots] at X122 l122 y122 z122 st122 hQ122
    subst y122 z122
    obtain ⟨rfl, Nq122, K122q⟩ := hQ122
    have N122 : Fr n0 L122 := (congrArg (Fr n0) l122).mpr (Fr.app N119 Nq122)
    obtain ⟨T123, X123, e123, st123⟩ := getS2 X122 hx hZ hown (host := "") (Or.inl (ow hw 79 rfl)) Via.refl K122q (S_wHELD.ext O112.2) (g := (mkF m 87 #[(vi p0), (vi p1), (vi p2), (vi p3), (vr e1_91), (vr e1_95), (vr e1_100), (vr e1_106)] [(.ref wHELD)])) rfl (hb hby at_87)
    obtain ⟨T124, X124, e124, st124⟩ := getS2 X123 hx hZ hown (host := "") (Or.inl (ow hw 79 rfl)) Via.refl e123 (S_wHELD.ext O112.2) (g := (mkF m 95 #[(vi p0), (vi p1), (vi p2), (vi p3), (vr e1_91), (vr e1_95), (vr e1_100), (vr e1_106)] [])) rfl (hb hby at_95)
    obtain ⟨cq125, kq125, q125a, q125b, q125c⟩ := isOf hZ e124 (E_wHELD.ext O112.2)
    obtain ⟨_, _, ⟨T125, L125, k125, n125⟩, -, X125, ⟨Lc125, hQ125, l125, y125, z125⟩, st125⟩ := X124.virtualBack hx (y := M14) (z := M14) hown (mvT hZ (ow hw 81 rfl)) (mvT hZ (ow hw 82 rfl)) (notFace_of_selects (args := #[]) (mvT hZ (ow hw 84 rfl))) (mvT hZ (ow hw 84 rfl)) (mvT hZ (ow hw 83 rfl)) (by decide) (backOf (W := 0) (au15_1 l Z a0 hw [] wUNKNOWN wHELD wTRUE wNOT_HELD wFALSE wMT wCS hS e1_100 T106.heap n0 O112 f113) hZ (ow hw 85 rfl) (ow hw 43 rfl) (by decide) (by decide)) q125a q125c (g := (mkF m 100 #[(vi p0), (vi p1), (vi p2), (vi p3), (vr e1_91), (vr e1_95), (vr e1_100), (vr e1_106)] [(.ref e1_100), (.ref wHELD)])) rfl (by rw [hml]; rfl) (Steps.refl _) (argsL := [(.ref e1_100)]) (rest := []) (lenOf pd_14 rfl) rfl (by show 2 * 0 + _ ≤ _; exact Nat.le_of_eq rfl) (hb hby at_100) (fun _ _ => ⟨rfl, e124, (by decide : 7 + 0 ≤ _), (by decide : 17 + 0 ≤ _)⟩)
    dsimp only [Pt.U, Pt.locs, Pt.cells, Pt.slots] at X125 l125 y125 z125 st125 hQ125
    subst y125 z125
    obtain ⟨rfl, Nq125, K125q⟩ := hQ125
    have N125 : Fr n0 L125 := (congrArg (Fr n0) l125).mpr (Fr.app N122 Nq125)
    obtain ⟨T126, X126, e126, st126⟩ := getS2 X125 hx hZ hown (host := "") (Or.inl (ow hw 79 rfl)) Via.refl K125q (S_wHELD.ext O112.2) (g := (mkF m 103 #[(vi p0), (vi p1), (vi p2), (vi p3), (vr e1_91), (vr e1_95), (vr e1_100), (vr e1_106)] [(.ref wHELD)])) rfl (hb hby at_103)
    obtain ⟨T127, X127, e127, st127⟩ := getS2 X126 hx hZ hown (host := "") (Or.inl (ow hw 102 rfl)) Via.refl e126 (S_wNOT_HELD.ext O112.2) (g := (mkF m 113 #[(vi p0), (vi p1), (vi p2), (vi p3), (vr e1_91), (vr e1_95), (vr e1_100), (vr e1_106)] [(.ref e1_100)])) rfl (hb hby at_113)
    obtain ⟨cq128, kq128, q128a, q128b, q128c⟩ := isOf hZ e127 f115
    obtain ⟨_, _, ⟨T128, L128, k128, n128⟩, -, X128, ⟨Lc128, hQ128, l128, y128, z128⟩, st128⟩ := X127.virtualBack hx (y := M14) (z := M14) hown (mvT hZ (ow hw 81 rfl)) (mvT hZ (ow hw 82 rfl)) (notFace_of_selects (args := #[]) (mvT hZ (ow hw 84 rfl))) (mvT hZ (ow hw 84 rfl)) (mvT hZ (ow hw 83 rfl)) (by decide) (backOf (W := 0) (au15_2 l Z a0 hw [] wUNKNOWN wHELD wTRUE wNOT_HELD wFALSE wMT wCS hS e1_100 T106.heap n0 O112 f113) hZ (ow hw 85 rfl) (ow hw 43 rfl) (by decide) (by decide)) q128a q128c (g := (mkF m 116 #[(vi p0), (vi p1), (vi p2), (vi p3), (vr e1_91), (vr e1_95), (vr e1_100), (vr e1_106)] [(.ref wNOT_HELD), (.ref e1_100)])) rfl (by rw [hml]; rfl) (Steps.refl _) (argsL := [(.ref wNOT_HELD)]) (rest := []) (lenOf pd_14 rfl) rfl (by show 2 * 0 + _ ≤ _; exact Nat.le_of_eq rfl) (hb hby at_116) (fun _ _ => ⟨rfl, e127, (by decide : 7 + 0 ≤ _), (by decide : 17 + 0 ≤ _)⟩)
    dsimp only [Pt.U, Pt.locs, Pt.cells, Pt.slots] at X128 l128 y128 z128 st128 hQ128
    subst y128 z128
    obtain ⟨rfl, Nq128, K128q⟩ := hQ128
    have N128 : Fr n0 L128 := (congrArg (Fr n0) l128).mpr (Fr.app N125 Nq128)
    obtain ⟨T129, X129, e129, st129⟩ := getS2 X128 hx hZ hown (host := "") (Or.inl (ow hw 102 rfl)) Via.refl K128q (S_wNOT_HELD.ext O112.2) (g := (mkF m 126 #[(vi p0), (vi p1), (vi p2), (vi p3), (vr e1_91), (vr e1_95), (vr e1_100), (vr e1_106)] [])) rfl (hb hby at_126)
    obtain ⟨cq130, kq130, q130a, q130b, q130c⟩ := isOf hZ e129 (E_wNOT_HELD.ext O112.2)
    obtain ⟨_, _, ⟨T130, L130, k130, n130⟩, -, X130, ⟨Lc130, hQ130, l130, y130, z130⟩, st130⟩ := X129.virtualBack hx (y := M14) (z := M14) hown (mvT hZ (ow hw 81 rfl)) (mvT hZ (ow hw 82 rfl)) (notFace_of_selects (args := #[]) (mvT hZ (ow hw 84 rfl))) (mvT hZ (ow hw 84 rfl)) (mvT hZ (ow hw 83 rfl)) (by decide) (backOf (W := 0) (au15_3 l Z a0 hw [] wUNKNOWN wHELD wTRUE wNOT_HELD wFALSE wMT wCS hS e1_100 T106.heap n0 O112 f113) hZ (ow hw 85 rfl) (ow hw 43 rfl) (by decide) (by decide)) q130a q130c (g := (mkF m 131 #[(vi p0), (vi p1), (vi p2), (vi p3), (vr e1_91), (vr e1_95), (vr e1_100), (vr e1_106)] [(.ref e1_100), (.ref wNOT_HELD)])) rfl (by rw [hml]; rfl) (Steps.refl _) (argsL := [(.ref e1_100)]) (rest := []) (lenOf pd_14 rfl) rfl (by show 2 * 0 + _ ≤ _; exact Nat.le_of_eq rfl) (hb hby at_131) (fun _ _ => ⟨rfl, e129, (by decide : 7 + 0 ≤ _), (by decide : 17 + 0 ≤ _)⟩)
    dsimp only [Pt.U, Pt.locs, Pt.cells, Pt.slots] at X130 l130 y130 z130 st130 hQ130
    subst y130 z130
    obtain ⟨rfl, Nq130, K130q⟩ := hQ130
    have N130 : Fr n0 L130 := (congrArg (Fr n0) l130).mpr (Fr.app N128 Nq130)
    obtain ⟨cq131, kq131, q131a, q131b, q131c⟩ := isOf hZ K130q f115
    obtain ⟨_, _, ⟨T131, L131, k131, n131⟩, -, X131, ⟨Lc131, hQ131, l131, y131, z131⟩, st131⟩ := X130.virtualBack hx (y := M14) (z := M14) hown (mvT hZ (ow hw 81 rfl)) (mvT hZ (ow hw 82 rfl)) (notFace_of_selects (args := #[]) (mvT hZ (ow hw 84 rfl))) (mvT hZ (ow hw 84 rfl)) (mvT hZ (ow hw 83 rfl)) (by decide) (backOf (W := 0) (au15_4 l Z a0 hw [] wUNKNOWN wHELD wTRUE wNOT_HELD wFALSE wMT wCS hS e1_100 e1_106 T106.heap n0 O112 f113 p106_3) hZ (ow hw 85 rfl) (ow hw 43 rfl) (by decide) (by decide)) q131a q131c (g := (mkF m 145 #[(vi p0), (vi p1), (vi p2), (vi p3), (vr e1_91), (vr e1_95), (vr e1_100), (vr e1_106)] [(.ref e1_106), (.ref e1_100)])) rfl (by rw [hml]; rfl) (Steps.refl _) (argsL := [(.ref e1_106)]) (rest := []) (lenOf pd_14 rfl) rfl (by show 2 * 0 + _ ≤ _; exact Nat.le_of_eq rfl) (hb hby at_145) (fun _ _ => ⟨rfl, K130q, (by decide : 7 + 0 ≤ _), (by decide : 17 + 0 ≤ _)⟩)
    dsimp only [Pt.U, Pt.locs, Pt.cells, Pt.slots] at X131 l131 y131 z131 st131 hQ131
    subst y131 z131
    obtain ⟨rfl, Nq131, K131q⟩ := hQ131
    have N131 : Fr n0 L131 := (congrArg (Fr n0) l131).mpr (Fr.app N130 Nq131)
    have hk132 : _ ≤ T106.heap.size := (Nat.le_trans (Nat.le_trans (Nat.le_trans (Nat.le_trans (Nat.le_refl _) K91q.1) K95q.1) K100q.1) K106q.1)
    obtain ⟨fs, hr, hrun, hended, hRW⟩ := X131.leaveW hS1 (by rw [K131q]; exact hk132) (v := some (.int 1)) (fun h => by rw [hret0] at h; cases h)
    refine ⟨_, _, pre94 _ ?_, hrun, hended, _, _, rfl, ?_, hRW.1, hRW.2.1, hRW.2.2.1, hRW.2.2.2.mono (by decide) (by decide)⟩
    · skip
      show Steps p.tables e below (T91.setTop (mkF m 20 #[(vi p0), (vi p1), (vi p2), (vi p3), (vr e1_91), .unset, .unset, .unset] [(.int yc)])) _
      refine st95 _ ?_
      refine XS.astore X95.here hx rfl (hb hby at_23) rfl rfl (l' := #[(vi p0), (vi p1), (vi p2), (vi p3), (vr e1_91), (vr e1_95), .unset, .unset]) rfl ?_
      refine XS.aload X95.here hx rfl (hb hby at_25) rfl rfl ?_
      refine st100 _ ?_
      refine XS.astore X100.here hx rfl (hb hby at_30) rfl rfl (l' := #[(vi p0), (vi p1), (vi p2), (vi p3), (vr e1_91), (vr e1_95), (vr e1_100), .unset]) rfl ?_
      refine XS.aload X100.here hx rfl (hb hby at_32) rfl rfl ?_
      refine st106 _ ?_
      refine XS.astore X106.here hx rfl (hb hby at_37) rfl rfl (l' := #[(vi p0), (vi p1), (vi p2), (vi p3), (vr e1_91), (vr e1_95), (vr e1_100), (vr e1_106)]) rfl ?_
      show Steps p.tables e below (T106.setTop (mkF m 39 #[(vi p0), (vi p1), (vi p2), (vi p3), (vr e1_91), (vr e1_95), (vr e1_100), (vr e1_106)] [])) _
      refine XS.aload X106.here hx rfl (hb hby at_39) rfl rfl ?_
      refine XS.ifnullNo X106.here hx rfl (hb hby at_41) rfl ?_
      refine XS.aload X106.here hx rfl (hb hby at_44) rfl rfl ?_
      refine XS.ifnonnullYes X106.here hx rfl (pc0 := 46) (pc' := 51) rfl (hb hby at_46) rfl (by decide) (by decide) ?_
      refine XS.aload X106.here hx rfl (hb hby at_51) rfl rfl ?_
      refine st114.trans ?_
      refine st116 _ ?_
      refine Jvm.RoadKit.acmp (g := (mkF m 59 #[(vi p0), (vi p1), (vi p2), (vi p3), (vr e1_91), (vr e1_95), (vr e1_100), (vr e1_106)] [(.ref wUNKNOWN), (.ref wUNKNOWN)])) X116 hx rfl rfl rfl (pc0 := 59) (pc' := 64) (same := true) rfl (hb hby at_59) rfl (decide_eq_true rfl) (by decide) (by decide) ?_
      show Steps p.tables e below (T116.setTop (mkF m 64 #[(vi p0), (vi p1), (vi p2), (vi p3), (vr e1_91), (vr e1_95), (vr e1_100), (vr e1_106)] [])) _
      refine XS.aload X116.here hx rfl (hb hby at_64) rfl rfl ?_
      refine XS.aload X116.here hx rfl (hb hby at_66) rfl rfl ?_
      refine st118.trans ?_
      refine st119.trans ?_
      refine XS.ifYes X119.here hx rfl (pc0 := 74) (pc' := 79) rfl (hb hby at_74) rfl ((if0 _ _).trans (feq (by decide : ¬ ((1 : Int32) = (0 : Int32)))).2) (by decide) (by decide) ?_
      refine XS.aload X119.here hx rfl (hb hby at_79) rfl rfl ?_
      refine st121 _ ?_
      refine st122.trans ?_
      show Steps p.tables e below (T122.setTop (mkF m 87 #[(vi p0), (vi p1), (vi p2), (vi p3), (vr e1_91), (vr e1_95), (vr e1_100), (vr e1_106)] [(.ref wHELD)])) _
      refine st123 _ ?_
      refine Jvm.RoadKit.acmp (g := (mkF m 90 #[(vi p0), (vi p1), (vi p2), (vi p3), (vr e1_91), (vr e1_95), (vr e1_100), (vr e1_106)] [(.ref wHELD), (.ref wHELD)])) X123 hx rfl rfl rfl (pc0 := 90) (pc' := 95) (same := true) rfl (hb hby at_90) rfl (decide_eq_true rfl) (by decide) (by decide) ?_
      refine st124 _ ?_
      refine XS.aload X124.here hx rfl (hb hby at_98) rfl rfl ?_
      refine st125.trans ?_
      refine st126 _ ?_
      refine Jvm.RoadKit.acmp (g := (mkF m 106 #[(vi p0), (vi p1), (vi p2), (vi p3), (vr e1_91), (vr e1_95), (vr e1_100), (vr e1_106)] [(.ref wHELD), (.ref wHELD)])) X126 hx rfl rfl rfl (pc0 := 106) (pc' := 111) (same := true) rfl (hb hby at_106) rfl (decide_eq_true rfl) (by decide) (by decide) ?_
      refine XS.aload X126.here hx rfl (hb hby at_111) rfl rfl ?_
      show Steps p.tables e below (T126.setTop (mkF m 113 #[(vi p0), (vi p1), (vi p2), (vi p3), (vr e1_91), (vr e1_95), (vr e1_100), (vr e1_106)] [(.ref e1_100)])) _
      refine st127 _ ?_
      refine st128.trans ?_
      refine XS.aload X128.here hx rfl (hb hby at_119) rfl rfl ?_
      refine Jvm.RoadKit.acmp (g := (mkF m 121 #[(vi p0), (vi p1), (vi p2), (vi p3), (vr e1_91), (vr e1_95), (vr e1_100), (vr e1_106)] [(.ref e1_100), (.ref e1_100)])) X128 hx rfl rfl rfl (pc0 := 121) (pc' := 126) (same := true) rfl (hb hby at_121) rfl (decide_eq_true rfl) (by decide) (by decide) ?_
      refine st129 _ ?_
      refine XS.aload X129.here hx rfl (hb hby at_129) rfl rfl ?_
      refine st130.trans ?_
      refine XS.aload X130.here hx rfl (hb hby at_134) rfl rfl ?_
      show Steps p.tables e below (T130.setTop (mkF m 136 #[(vi p0), (vi p1), (vi p2), (vi p3), (vr e1_91), (vr e1_95), (vr e1_100), (vr e1_106)] [(.ref e1_100), (.ref e1_100)])) _
      refine Jvm.RoadKit.acmp (g := (mkF m 136 #[(vi p0), (vi p1), (vi p2), (vi p3), (vr e1_91), (vr e1_95), (vr e1_100), (vr e1_106)] [(.ref e1_100), (.ref e1_100)])) X130 hx rfl rfl rfl (pc0 := 136) (pc' := 141) (same := true) rfl (hb hby at_136) rfl (decide_eq_true rfl) (by decide) (by decide) ?_
      refine XS.aload X130.here hx rfl (hb hby at_141) rfl rfl ?_
      refine XS.aload X130.here hx rfl (hb hby at_143) rfl rfl ?_
      refine st131.trans ?_
      refine XS.aload X131.here hx rfl (hb hby at_148) rfl rfl ?_
      refine Jvm.RoadKit.acmp (g := (mkF m 150 #[(vi p0), (vi p1), (vi p2), (vi p3), (vr e1_91), (vr e1_95), (vr e1_100), (vr e1_106)] [(.ref e1_100), (.ref e1_100)])) X131 hx rfl rfl rfl (pc0 := 150) (pc' := 155) (same := true) rfl (hb hby at_150) rfl (decide_eq_true rfl) (by decide) (by decide) ?_
      refine XS.iconst X131.here hx rfl (hb hby at_155) ?_
      exact retN X131 hx (t := .boolean) hret0 (by simp) (hb hby at_156) hr
    · show Q_rm0 Z wUNKNOWN wHELD wTRUE wNOT_HELD wFALSE wMT wCS p0 p1 p2 p3 h0 n0 _ T131.heap _
      rw [K131q]
      exact ⟨rfl, N131⟩
  · skip
    have pre133 : ∀ t, Steps p.tables e below (s₁.setTop (mkF m 3 #[(vi p0), (vi p1), (vi p2), (vi p3), .unset, .unset, .unset, .unset] [(.int 3)])) t → Steps p.tables e below (s₁.setTop (entryFrame m #[(.int p0), (.int p1), (.int p2), (.int p3)] maxLocals)) t := by
      intro t k
      refine pre1 t ?_
      rw [hk2]
      exact k
    obtain ⟨_, _, ⟨T134, L134, k134, n134⟩, -, X134, ⟨Lc134, hQ134, l134, y134, z134⟩, st134⟩ := Jvm.LawKit.callS X0 hx (y := M2) hown (mvT hZ (ow hw 0 rfl)) (mvT hZ (ow hw 1 rfl)) (mvT hZ (ow hw 2 rfl)) (mvT hZ (ow hw 3 rfl)) (by decide) (backOf (W := 0) (au1_3 l Z a0 hw [] wUNKNOWN wHELD wTRUE wNOT_HELD wFALSE wMT wCS hS p1 p2 p3 h0 n0 O0 ) hZ (ow hw 3 rfl) (ow hw 2 rfl) (by decide) (by decide)) (g := (mkF m 6 #[(vi p0), (vi p1), (vi p2), (vi p3), .unset, .unset, .unset, .unset] [(.int p3), (.int p2), (.int p1), (.int 3)])) rfl (by rw [hml]; rfl) (argsL := [(.int 3), (.int p1), (.int p2), (.int p3)]) (rest := []) (lenOf pd_2 rfl) rfl (by show 2 * 0 + _ ≤ _; exact Nat.le_of_eq rfl) (hb hby at_6) (fun _ _ => ⟨rfl, e0, (by decide : 0 + 3 ≤ _), (by decide : 0 + 10 ≤ _)⟩)
    dsimp only [Pt.U, Pt.locs, Pt.cells, Pt.slots] at X134 l134 y134 z134 st134 hQ134
    subst y134 z134
    obtain ⟨e1_134, rfl, Nq134, K134q, p134_0, p134_1⟩ := hQ134
    have N134 : Fr n0 L134 := (congrArg (Fr n0) l134).mpr (Fr.app N0 Nq134)
    have g135 : n0 ≤ e1_134 := Nat.le_trans (own_sz O0) p134_0
    have O136 : Old Z n0 T134.heap := O0.keep K134q all0
    obtain ⟨yc, hyc⟩ : ∃ z : Int32, z = ((((p0.toUInt32 >>> ((8 : Int32) &&& 31).toUInt32).toInt32) &&& (255 : Int32)).toUInt32.toUInt16.toUInt32.toInt32) := ⟨_, rfl⟩
    have pre137 : ∀ t, Steps p.tables e below (T134.setTop (mkF m 20 #[(vi p0), (vi p1), (vi p2), (vi p3), (vr e1_134), .unset, .unset, .unset] [(.int yc)])) t → Steps p.tables e below (s₁.setTop (entryFrame m #[(.int p0), (.int p1), (.int p2), (.int p3)] maxLocals)) t := by
      intro t k
      rw [hyc] at k
      refine pre133 t ?_
      show Steps p.tables e below (s₁.setTop (mkF m 3 #[(vi p0), (vi p1), (vi p2), (vi p3), .unset, .unset, .unset, .unset] [(.int 3)])) _
      refine XS.iloadN X0.here hx rfl (hb hby at_3) rfl ?_
      refine XS.iloadN X0.here hx rfl (hb hby at_4) rfl ?_
      refine XS.iloadN X0.here hx rfl (hb hby at_5) rfl ?_
      refine st134 _ ?_
      refine XS.astore X134.here hx rfl (hb hby at_9) rfl rfl (l' := #[(vi p0), (vi p1), (vi p2), (vi p3), (vr e1_134), .unset, .unset, .unset]) rfl ?_
      refine XS.iloadN X134.here hx rfl (hb hby at_11) rfl ?_
      refine XS.bipush X134.here hx rfl (hb hby at_12) ?_
      refine XS.iushr X134.here hx rfl (hb hby at_14) rfl ?_
      show Steps p.tables e below (T134.setTop (mkF m 15 #[(vi p0), (vi p1), (vi p2), (vi p3), (vr e1_134), .unset, .unset, .unset] [(.int ((p0.toUInt32 >>> ((8 : Int32) &&& 31).toUInt32).toInt32))])) _
      refine XS.sipush X134.here hx rfl (hb hby at_15) ?_
      refine XS.iand X134.here hx rfl (hb hby at_18) rfl ?_
      refine XS.i2c X134.here hx rfl (hb hby at_19) rfl ?_
      exact k
    have hnyc := own_chr hyc
    have h255yc : ¬ (255 : Int32) < yc := hnyc.1
    obtain ⟨_, _, ⟨T138, L138, k138, n138⟩, -, X138, ⟨Lc138, hQ138, l138, y138, z138⟩, st138⟩ := Jvm.LawKit.callS X134 hx (y := M6) hown (mvT hZ (ow hw 26 rfl)) (mvT hZ (ow hw 27 rfl)) (mvT hZ (ow hw 6 rfl)) (mvT hZ (ow hw 28 rfl)) (by decide) (backOf (W := 0) (au5_0 l Z a0 hw [] wUNKNOWN wHELD wTRUE wNOT_HELD wFALSE wMT wCS hS yc T134.heap n0 O136 h255yc) hZ (ow hw 28 rfl) (ow hw 6 rfl) (by decide) (by decide)) (g := (mkF m 20 #[(vi p0), (vi p1), (vi p2), (vi p3), (vr e1_134), .unset, .unset, .unset] [(.int yc)])) rfl (by rw [hml]; rfl) (argsL := [(.int yc)]) (rest := []) (lenOf pd_6 rfl) rfl (by show 2 * 0 + _ ≤ _; exact Nat.le_of_eq rfl) (hb hby at_20) (fun _ _ => ⟨rfl, rfl, (by decide : 3 + 2 ≤ _), (by decide : 10 + 5 ≤ _)⟩)
    dsimp only [Pt.U, Pt.locs, Pt.cells, Pt.slots] at X138 l138 y138 z138 st138 hQ138
    subst y138 z138
    obtain ⟨e1_138, rfl, Nq138, K138q, p138_0, p138_1⟩ := hQ138
    have N138 : Fr n0 L138 := (congrArg (Fr n0) l138).mpr (Fr.app N134 Nq138)
    have ne139 : e1_134 ≠ e1_138 := Nat.ne_of_lt (Nat.lt_of_lt_of_le p134_1.lt p138_0)
    have g140 : n0 ≤ e1_138 := Nat.le_trans (own_sz O136) p138_0
    have O141 : Old Z n0 T138.heap := O136.keep K138q all0
    have f142 : Exa Z T138.heap e1_134 s0n := (p134_1.keep K138q)
    obtain ⟨_, _, ⟨T143, L143, k143, n143⟩, -, X143, ⟨Lc143, hQ143, l143, y143, z143⟩, st143⟩ := Jvm.LawKit.callS X138 hx (y := M9) hown (mvT hZ (ow hw 41 rfl)) (mvT hZ (ow hw 42 rfl)) (mvT hZ (ow hw 43 rfl)) (mvT hZ (ow hw 44 rfl)) (by decide) (backOf (W := 0) (au9_0 l Z a0 hw [] wUNKNOWN wHELD wTRUE wNOT_HELD wFALSE wMT wCS hS e1_134 T138.heap n0 O141 f142) hZ (ow hw 44 rfl) (ow hw 43 rfl) (by decide) (by decide)) (g := (mkF m 27 #[(vi p0), (vi p1), (vi p2), (vi p3), (vr e1_134), (vr e1_138), .unset, .unset] [(.ref e1_134)])) rfl (by rw [hml]; rfl) (argsL := [(.ref e1_134)]) (rest := []) (lenOf pd_9 rfl) rfl (by show 2 * 0 + _ ≤ _; exact Nat.le_of_eq rfl) (hb hby at_27) (fun _ _ => ⟨rfl, rfl, (by decide : 5 + 1 ≤ _), (by decide : 15 + 2 ≤ _)⟩)
    dsimp only [Pt.U, Pt.locs, Pt.cells, Pt.slots] at X143 l143 y143 z143 st143 hQ143
    subst y143 z143
    obtain ⟨e1_143, rfl, Nq143, K143q, p143_0, p143_1, p143_2, p143_3⟩ := hQ143
    have N143 : Fr n0 L143 := (congrArg (Fr n0) l143).mpr (Fr.app N138 Nq143)
    have ne144 : e1_134 ≠ e1_143 := Nat.ne_of_lt (Nat.lt_of_lt_of_le f142.lt p143_0)
    have ne145 : e1_138 ≠ e1_143 := Nat.ne_of_lt (Nat.lt_of_lt_of_le p138_1.lt p143_0)
    have g146 : n0 ≤ e1_143 := Nat.le_trans (own_sz O141) p143_0
    have O147 : Old Z n0 T143.heap := O141.keep K143q all0
    have f148 : Exa Z T143.heap e1_138 s0n := (p138_1.keep K143q)
    obtain ⟨_, _, ⟨T149, L149, k149, n149⟩, -, X149, ⟨Lc149, hQ149, l149, y149, z149⟩, st149⟩ := Jvm.LawKit.callS X143 hx (y := M9) hown (mvT hZ (ow hw 41 rfl)) (mvT hZ (ow hw 42 rfl)) (mvT hZ (ow hw 43 rfl)) (mvT hZ (ow hw 44 rfl)) (by decide) (backOf (W := 0) (au9_0 l Z a0 hw [] wUNKNOWN wHELD wTRUE wNOT_HELD wFALSE wMT wCS hS e1_138 T143.heap n0 O147 f148) hZ (ow hw 44 rfl) (ow hw 43 rfl) (by decide) (by decide)) (g := (mkF m 34 #[(vi p0), (vi p1), (vi p2), (vi p3), (vr e1_134), (vr e1_138), (vr e1_143), .unset] [(.ref e1_138)])) rfl (by rw [hml]; rfl) (argsL := [(.ref e1_138)]) (rest := []) (lenOf pd_9 rfl) rfl (by show 2 * 0 + _ ≤ _; exact Nat.le_of_eq rfl) (hb hby at_34) (fun _ _ => ⟨rfl, rfl, (by decide : 6 + 1 ≤ _), (by decide : 17 + 2 ≤ _)⟩)
    dsimp only [Pt.U, Pt.locs, Pt.cells, Pt.slots] at X149 l149 y149 z149 st149 hQ149
    subst y149 z149
    obtain ⟨e1_149, rfl, Nq149, K149q, p149_0, p149_1, p149_2, p149_3⟩ := hQ149
    have N149 : Fr n0 L149 := (congrArg (Fr n0) l149).mpr (Fr.app N143 Nq149)
    have f151 : Exa Z T143.heap e1_134 s0n := (f142.keep K143q)
    have ne150 : e1_134 ≠ e1_149 := Nat.ne_of_lt (Nat.lt_of_lt_of_le f151.lt p149_0)
    have ne152 : e1_138 ≠ e1_149 := Nat.ne_of_lt (Nat.lt_of_lt_of_le f148.lt p149_0)
    have ne153 : e1_143 ≠ e1_149 := Nat.ne_of_lt (Nat.lt_of_lt_of_le p143_1.lt p149_0)
    have g154 : n0 ≤ e1_149 := Nat.le_trans (own_sz O147) p149_0
    have O155 : Old Z n0 T149.heap := O147.keep K149q all0
    have f156 : Fld Z T149.heap e1_143 s3n "truth" s2n (.ref wUNKNOWN) := (p143_3.keep K149q nin0)
    have f158 : Exa Z T149.heap e1_143 s3n := (p143_1.keep K149q)
    obtain ⟨cq157, kq157, q157a, q157b, q157c⟩ := isOf hZ rfl f158
    obtain ⟨_, _, ⟨T157, L157, k157, n157⟩, -, X157, ⟨Lc157, hQ157, l157, y157, z157⟩, st157⟩ := X149.virtualBack hx (y := M10) (z := M10) hown (mvT hZ (ow hw 63 rfl)) (mvT hZ (ow hw 64 rfl)) (notFace_of_selects (args := #[]) (mvT hZ (ow hw 66 rfl))) (mvT hZ (ow hw 66 rfl)) (mvT hZ (ow hw 65 rfl)) (by decide) (backOf (W := 0) (au12_0 l Z a0 hw [] wUNKNOWN wHELD wTRUE wNOT_HELD wFALSE wMT wCS hS e1_143 T149.heap n0 O155 f156) hZ (ow hw 67 rfl) (ow hw 43 rfl) (by decide) (by decide)) q157a q157c (g := (mkF m 53 #[(vi p0), (vi p1), (vi p2), (vi p3), (vr e1_134), (vr e1_138), (vr e1_143), (vr e1_149)] [(.ref e1_143)])) rfl (by rw [hml]; rfl) (Steps.refl _) (argsL := []) (rest := []) (lenOf pd_10 rfl) rfl (by show 2 * 0 + _ ≤ _; exact Nat.le_of_eq rfl) (hb hby at_53) (fun _ _ => ⟨rfl, rfl, (by decide : 7 + 0 ≤ _), (by decide : 19 + 0 ≤ _)⟩)
    dsimp only [Pt.U, Pt.locs, Pt.cells, Pt.slots] at X157 l157 y157 z157 st157 hQ157
    subst y157 z157
    obtain ⟨rfl, Nq157, K157q⟩ := hQ157
    have N157 : Fr n0 L157 := (congrArg (Fr n0) l157).mpr (Fr.app N149 Nq157)
    obtain ⟨T159, X159, e159, st159⟩ := getS2 X157 hx hZ hown (host := "") (Or.inl (ow hw 68 rfl)) Via.refl K157q (S_wUNKNOWN.ext O155.2) (g := (mkF m 56 #[(vi p0), (vi p1), (vi p2), (vi p3), (vr e1_134), (vr e1_138), (vr e1_143), (vr e1_149)] [(.ref wUNKNOWN)])) rfl (hb hby at_56)
    have f160 : Fld Z T149.heap e1_143 s3n "problem" s5n (.ref e1_134) := (p143_2.keep K149q nin0)
    obtain ⟨cq161, kq161, q161a, q161b, q161c⟩ := isOf hZ e159 f158
    obtain ⟨_, _, ⟨T161, L161, k161, n161⟩, -, X161, ⟨Lc161, hQ161, l161, y161, z161⟩, st161⟩ := X159.virtualBack hx (y := M11) (z := M11) hown (mvT hZ (ow hw 69 rfl)) (mvT hZ (ow hw 70 rfl)) (notFace_of_selects (args := #[]) (mvT hZ (ow hw 72 rfl))) (mvT hZ (ow hw 72 rfl)) (mvT hZ (ow hw 71 rfl)) (by decide) (backOf (W := 1) (au13_0 l Z a0 hw [] wUNKNOWN wHELD wTRUE wNOT_HELD wFALSE wMT wCS hS e1_143 e1_134 T149.heap n0 O155 f160) hZ (ow hw 73 rfl) (ow hw 43 rfl) (by decide) (by decide)) q161a q161c (g := (mkF m 68 #[(vi p0), (vi p1), (vi p2), (vi p3), (vr e1_134), (vr e1_138), (vr e1_143), (vr e1_149)] [(.ref e1_143), (.ref e1_134)])) rfl (by rw [hml]; rfl) (Steps.refl _) (argsL := []) (rest := [(.ref e1_134)]) (lenOf pd_11 rfl) rfl (by show 2 * 0 + _ ≤ _; exact Nat.le_of_eq rfl) (hb hby at_68) (fun _ _ => ⟨rfl, e159, (by decide : 7 + 0 ≤ _), (by decide : 19 + 0 ≤ _)⟩)
    dsimp only [Pt.U, Pt.locs, Pt.cells, Pt.slots] at X161 l161 y161 z161 st161 hQ161
    subst y161 z161
    obtain ⟨rfl, Nq161, K161q⟩ := hQ161
    have N161 : Fr n0 L161 := (congrArg (Fr n0) l161).mpr (Fr.app N157 Nq161)
    have f163 : Exa Z T149.heap e1_134 s0n := (f151.keep K149q)
    obtain ⟨cq162, kq162, q162a, q162b, q162c⟩ := isOf hZ K161q f163
    obtain ⟨_, _, ⟨T162, L162, k162, n162⟩, -, X162, ⟨Lc162, hQ162, l162, y162, z162⟩, st162⟩ := X161.virtualBack hx (y := M12) (z := M12) hown (mvT hZ (ow hw 74 rfl)) (mvT hZ (ow hw 75 rfl)) (notFace_of_selects (args := #[]) (mvT hZ (ow hw 77 rfl))) (mvT hZ (ow hw 77 rfl)) (mvT hZ (ow hw 76 rfl)) (by decide) (backOf (W := 0) (au14_0 l Z a0 hw [] wUNKNOWN wHELD wTRUE wNOT_HELD wFALSE wMT wCS hS e1_134 T149.heap n0 O155 ) hZ (ow hw 78 rfl) (ow hw 6 rfl) (by decide) (by decide)) q162a q162c (g := (mkF m 71 #[(vi p0), (vi p1), (vi p2), (vi p3), (vr e1_134), (vr e1_138), (vr e1_143), (vr e1_149)] [(.ref e1_134), (.ref e1_134)])) rfl (by rw [hml]; rfl) (Steps.refl _) (argsL := [(.ref e1_134)]) (rest := []) (lenOf pd_12 rfl) rfl (by show 2 * 0 + _ ≤ _; exact Nat.le_of_eq rfl) (hb hby at_71) (fun _ _ => ⟨rfl, K161q, (by decide : 7 + 0 ≤ _), (by decide : 19 + 0 ≤ _)⟩)
    dsimp only [Pt.U, Pt.locs, Pt.cells, Pt.slots] at X162 l162 y162 z162 st162 hQ162
    subst y162 z162
    obtain ⟨rfl, Nq162, K162q⟩ := hQ162
    have N162 : Fr n0 L162 := (congrArg (Fr n0) l162).mpr (Fr.app N161 Nq162)
    obtain ⟨T164, X164, e164, st164⟩ := getS2 X162 hx hZ hown (host := "") (Or.inl (ow hw 79 rfl)) Via.refl K162q (S_wHELD.ext O155.2) (g := (mkF m 81 #[(vi p0), (vi p1), (vi p2), (vi p3), (vr e1_134), (vr e1_138), (vr e1_143), (vr e1_149)] [(.ref e1_143)])) rfl (hb hby at_81)
    obtain ⟨cq165, kq165, q165a, q165b, q165c⟩ := isOf hZ e164 f158
    obtain ⟨_, _, ⟨T165, L165, k165, n165⟩, -, X165, ⟨Lc165, hQ165, l165, y165, z165⟩, st165⟩ := X164.virtualBack hx (y := M14) (z := M14) hown (mvT hZ (ow hw 81 rfl)) (mvT hZ (ow hw 82 rfl)) (notFace_of_selects (args := #[]) (mvT hZ (ow hw 84 rfl))) (mvT hZ (ow hw 84 rfl)) (mvT hZ (ow hw 83 rfl)) (by decide) (backOf (W := 0) (au15_0 l Z a0 hw [] wUNKNOWN wHELD wTRUE wNOT_HELD wFALSE wMT wCS hS e1_143 T149.heap n0 O155 f156) hZ (ow hw 85 rfl) (ow hw 43 rfl) (by decide) (by decide)) q165a q165c (g := (mkF m 84 #[(vi p0), (vi p1), (vi p2), (vi p3), (vr e1_134), (vr e1_138), (vr e1_143), (vr e1_149)] [(.ref wHELD), (.ref e1_143)])) rfl (by rw [hml]; rfl) (Steps.refl _) (argsL := [(.ref wHELD)]) (rest := []) (lenOf pd_14 rfl) rfl (by show 2 * 0 + _ ≤ _; exact Nat.le_of_eq rfl) (hb hby at_84) (fun _ _ => ⟨rfl, e164, (by decide : 7 + 0 ≤ _), (by decide : 19 + 0 ≤ _)⟩)
    dsimp only [Pt.U, Pt.locs, Pt.cells, Pt.slots] at X165 l165 y165 z165 st165 hQ165
    subst y165 z165
    obtain ⟨rfl, Nq165, K165q⟩ := hQ165
    have N165 : Fr n0 L165 := (congrArg (Fr n0) l165).mpr (Fr.app N162 Nq165)
    obtain ⟨T166, X166, e166, st166⟩ := getS2 X165 hx hZ hown (host := "") (Or.inl (ow hw 79 rfl)) Via.refl K165q (S_wHELD.ext O155.2) (g := (mkF m 87 #[(vi p0), (vi p1), (vi p2), (vi p3), (vr e1_134), (vr e1_138), (vr e1_143), (vr e1_149)] [(.ref wHELD)])) rfl (hb hby at_87)
    obtain ⟨T167, X167, e167, st167⟩ := getS2 X166 hx hZ hown (host := "") (Or.inl (ow hw 79 rfl)) Via.refl e166 (S_wHELD.ext O155.2) (g := (mkF m 95 #[(vi p0), (vi p1), (vi p2), (vi p3), (vr e1_134), (vr e1_138), (vr e1_143), (vr e1_149)] [])) rfl (hb hby at_95)
    obtain ⟨cq168, kq168, q168a, q168b, q168c⟩ := isOf hZ e167 (E_wHELD.ext O155.2)
    obtain ⟨_, _, ⟨T168, L168, k168, n168⟩, -, X168, ⟨Lc168, hQ168, l168, y168, z168⟩, st168⟩ := X167.virtualBack hx (y := M14) (z := M14) hown (mvT hZ (ow hw 81 rfl)) (mvT hZ (ow hw 82 rfl)) (notFace_of_selects (args := #[]) (mvT hZ (ow hw 84 rfl))) (mvT hZ (ow hw 84 rfl)) (mvT hZ (ow hw 83 rfl)) (by decide) (backOf (W := 0) (au15_1 l Z a0 hw [] wUNKNOWN wHELD wTRUE wNOT_HELD wFALSE wMT wCS hS e1_143 T149.heap n0 O155 f156) hZ (ow hw 85 rfl) (ow hw 43 rfl) (by decide) (by decide)) q168a q168c (g := (mkF m 100 #[(vi p0), (vi p1), (vi p2), (vi p3), (vr e1_134), (vr e1_138), (vr e1_143), (vr e1_149)] [(.ref e1_143), (.ref wHELD)])) rfl (by rw [hml]; rfl) (Steps.refl _) (argsL := [(.ref e1_143)]) (rest := []) (lenOf pd_14 rfl) rfl (by show 2 * 0 + _ ≤ _; exact Nat.le_of_eq rfl) (hb hby at_100) (fun _ _ => ⟨rfl, e167, (by decide : 7 + 0 ≤ _), (by decide : 19 + 0 ≤ _)⟩)
    dsimp only [Pt.U, Pt.locs, Pt.cells, Pt.slots] at X168 l168 y168 z168 st168 hQ168
    subst y168 z168
    obtain ⟨rfl, Nq168, K168q⟩ := hQ168
    have N168 : Fr n0 L168 := (congrArg (Fr n0) l168).mpr (Fr.app N165 Nq168)
    obtain ⟨T169, X169, e169, st169⟩ := getS2 X168 hx hZ hown (host := "") (Or.inl (ow hw 79 rfl)) Via.refl K168q (S_wHELD.ext O155.2) (g := (mkF m 103 #[(vi p0), (vi p1), (vi p2), (vi p3), (vr e1_134), (vr e1_138), (vr e1_143), (vr e1_149)] [(.ref wHELD)])) rfl (hb hby at_103)
    obtain ⟨T170, X170, e170, st170⟩ := getS2 X169 hx hZ hown (host := "") (Or.inl (ow hw 102 rfl)) Via.refl e169 (S_wNOT_HELD.ext O155.2) (g := (mkF m 113 #[(vi p0), (vi p1), (vi p2), (vi p3), (vr e1_134), (vr e1_138), (vr e1_143), (vr e1_149)] [(.ref e1_143)])) rfl (hb hby at_113)
    obtain ⟨cq171, kq171, q171a, q171b, q171c⟩ := isOf hZ e170 f158
    obtain ⟨_, _, ⟨T171, L171, k171, n171⟩, -, X171, ⟨Lc171, hQ171, l171, y171, z171⟩, st171⟩ := X170.virtualBack hx (y := M14) (z := M14) hown (mvT hZ (ow hw 81 rfl)) (mvT hZ (ow hw 82 rfl)) (notFace_of_selects (args := #[]) (mvT hZ (ow hw 84 rfl))) (mvT hZ (ow hw 84 rfl)) (mvT hZ (ow hw 83 rfl)) (by decide) (backOf (W := 0) (au15_2 l Z a0 hw [] wUNKNOWN wHELD wTRUE wNOT_HELD wFALSE wMT wCS hS e1_143 T149.heap n0 O155 f156) hZ (ow hw 85 rfl) (ow hw 43 rfl) (by decide) (by decide)) q171a q171c (g := (mkF m 116 #[(vi p0), (vi p1), (vi p2), (vi p3), (vr e1_134), (vr e1_138), (vr e1_143), (vr e1_149)] [(.ref wNOT_HELD), (.ref e1_143)])) rfl (by rw [hml]; rfl) (Steps.refl _) (argsL := [(.ref wNOT_HELD)]) (rest := []) (lenOf pd_14 rfl) rfl (by show 2 * 0 + _ ≤ _; exact Nat.le_of_eq rfl) (hb hby at_116) (fun _ _ => ⟨rfl, e170, (by decide : 7 + 0 ≤ _), (by decide : 19 + 0 ≤ _)⟩)
    dsimp only [Pt.U, Pt.locs, Pt.cells, Pt.slots] at X171 l171 y171 z171 st171 hQ171
    subst y171 z171
    obtain ⟨rfl, Nq171, K171q⟩ := hQ171
    have N171 : Fr n0 L171 := (congrArg (Fr n0) l171).mpr (Fr.app N168 Nq171)
    obtain ⟨T172, X172, e172, st172⟩ := getS2 X171 hx hZ hown (host := "") (Or.inl (ow hw 102 rfl)) Via.refl K171q (S_wNOT_HELD.ext O155.2) (g := (mkF m 126 #[(vi p0), (vi p1), (vi p2), (vi p3), (vr e1_134), (vr e1_138), (vr e1_143), (vr e1_149)] [])) rfl (hb hby at_126)
    obtain ⟨cq173, kq173, q173a, q173b, q173c⟩ := isOf hZ e172 (E_wNOT_HELD.ext O155.2)
    obtain ⟨_, _, ⟨T173, L173, k173, n173⟩, -, X173, ⟨Lc173, hQ173, l173, y173, z173⟩, st173⟩ := X172.virtualBack hx (y := M14) (z := M14) hown (mvT hZ (ow hw 81 rfl)) (mvT hZ (ow hw 82 rfl)) (notFace_of_selects (args := #[]) (mvT hZ (ow hw 84 rfl))) (mvT hZ (ow hw 84 rfl)) (mvT hZ (ow hw 83 rfl)) (by decide) (backOf (W := 0) (au15_3 l Z a0 hw [] wUNKNOWN wHELD wTRUE wNOT_HELD wFALSE wMT wCS hS e1_143 T149.heap n0 O155 f156) hZ (ow hw 85 rfl) (ow hw 43 rfl) (by decide) (by decide)) q173a q173c (g := (mkF m 131 #[(vi p0), (vi p1), (vi p2), (vi p3), (vr e1_134), (vr e1_138), (vr e1_143), (vr e1_149)] [(.ref e1_143), (.ref wNOT_HELD)])) rfl (by rw [hml]; rfl) (Steps.refl _) (argsL := [(.ref e1_143)]) (rest := []) (lenOf pd_14 rfl) rfl (by show 2 * 0 + _ ≤ _; exact Nat.le_of_eq rfl) (hb hby at_131) (fun _ _ => ⟨rfl, e172, (by decide : 7 + 0 ≤ _), (by decide : 19 + 0 ≤ _)⟩)
    dsimp only [Pt.U, Pt.locs, Pt.cells, Pt.slots] at X173 l173 y173 z173 st173 hQ173
    subst y173 z173
    obtain ⟨rfl, Nq173, K173q⟩ := hQ173
    have N173 : Fr n0 L173 := (congrArg (Fr n0) l173).mpr (Fr.app N171 Nq173)
    obtain ⟨cq174, kq174, q174a, q174b, q174c⟩ := isOf hZ K173q f158
    obtain ⟨_, _, ⟨T174, L174, k174, n174⟩, -, X174, ⟨Lc174, hQ174, l174, y174, z174⟩, st174⟩ := X173.virtualBack hx (y := M14) (z := M14) hown (mvT hZ (ow hw 81 rfl)) (mvT hZ (ow hw 82 rfl)) (notFace_of_selects (args := #[]) (mvT hZ (ow hw 84 rfl))) (mvT hZ (ow hw 84 rfl)) (mvT hZ (ow hw 83 rfl)) (by decide) (backOf (W := 0) (au15_4 l Z a0 hw [] wUNKNOWN wHELD wTRUE wNOT_HELD wFALSE wMT wCS hS e1_143 e1_149 T149.heap n0 O155 f156 p149_3) hZ (ow hw 85 rfl) (ow hw 43 rfl) (by decide) (by decide)) q174a q174c (g := (mkF m 145 #[(vi p0), (vi p1), (vi p2), (vi p3), (vr e1_134), (vr e1_138), (vr e1_143), (vr e1_149)] [(.ref e1_149), (.ref e1_143)])) rfl (by rw [hml]; rfl) (Steps.refl _) (argsL := [(.ref e1_149)]) (rest := []) (lenOf pd_14 rfl) rfl (by show 2 * 0 + _ ≤ _; exact Nat.le_of_eq rfl) (hb hby at_145) (fun _ _ => ⟨rfl, K173q, (by decide : 7 + 0 ≤ _), (by decide : 19 + 0 ≤ _)⟩)
    dsimp only [Pt.U, Pt.locs, Pt.cells, Pt.slots] at X174 l174 y174 z174 st174 hQ174
    subst y174 z174
    obtain ⟨rfl, Nq174, K174q⟩ := hQ174
    have N174 : Fr n0 L174 := (congrArg (Fr n0) l174).mpr (Fr.app N173 Nq174)
    have hk175 : _ ≤ T149.heap.size := (Nat.le_trans (Nat.le_trans (Nat.le_trans (Nat.le_trans (Nat.le_refl _) K134q.1) K138q.1) K143q.1) K149q.1)
    obtain ⟨fs, hr, hrun, hended, hRW⟩ := X174.leaveW hS1 (by rw [K174q]; exact hk175) (v := some (.int 1)) (fun h => by rw [hret0] at h; cases h)
    refine ⟨_, _, pre137 _ ?_, hrun, hended, _, _, rfl, ?_, hRW.1, hRW.2.1, hRW.2.2.1, hRW.2.2.2.mono (by decide) (by decide)⟩
    · skip
      show Steps p.tables e below (T134.setTop (mkF m 20 #[(vi p0), (vi p1), (vi p2), (vi p3), (vr e1_134), .unset, .unset, .unset] [(.int yc)])) _
      refine st138 _ ?_
      refine XS.astore X138.here hx rfl (hb hby at_23) rfl rfl (l' := #[(vi p0), (vi p1), (vi p2), (vi p3), (vr e1_134), (vr e1_138), .unset, .unset]) rfl ?_
      refine XS.aload X138.here hx rfl (hb hby at_25) rfl rfl ?_
      refine st143 _ ?_
      refine XS.astore X143.here hx rfl (hb hby at_30) rfl rfl (l' := #[(vi p0), (vi p1), (vi p2), (vi p3), (vr e1_134), (vr e1_138), (vr e1_143), .unset]) rfl ?_
      refine XS.aload X143.here hx rfl (hb hby at_32) rfl rfl ?_
      refine st149 _ ?_
      refine XS.astore X149.here hx rfl (hb hby at_37) rfl rfl (l' := #[(vi p0), (vi p1), (vi p2), (vi p3), (vr e1_134), (vr e1_138), (vr e1_143), (vr e1_149)]) rfl ?_
      show Steps p.tables e below (T149.setTop (mkF m 39 #[(vi p0), (vi p1), (vi p2), (vi p3), (vr e1_134), (vr e1_138), (vr e1_143), (vr e1_149)] [])) _
      refine XS.aload X149.here hx rfl (hb hby at_39) rfl rfl ?_
      refine XS.ifnullNo X149.here hx rfl (hb hby at_41) rfl ?_
      refine XS.aload X149.here hx rfl (hb hby at_44) rfl rfl ?_
      refine XS.ifnonnullYes X149.here hx rfl (pc0 := 46) (pc' := 51) rfl (hb hby at_46) rfl (by decide) (by decide) ?_
      refine XS.aload X149.here hx rfl (hb hby at_51) rfl rfl ?_
      refine st157.trans ?_
      refine st159 _ ?_
      refine Jvm.RoadKit.acmp (g := (mkF m 59 #[(vi p0), (vi p1), (vi p2), (vi p3), (vr e1_134), (vr e1_138), (vr e1_143), (vr e1_149)] [(.ref wUNKNOWN), (.ref wUNKNOWN)])) X159 hx rfl rfl rfl (pc0 := 59) (pc' := 64) (same := true) rfl (hb hby at_59) rfl (decide_eq_true rfl) (by decide) (by decide) ?_
      show Steps p.tables e below (T159.setTop (mkF m 64 #[(vi p0), (vi p1), (vi p2), (vi p3), (vr e1_134), (vr e1_138), (vr e1_143), (vr e1_149)] [])) _
      refine XS.aload X159.here hx rfl (hb hby at_64) rfl rfl ?_
      refine XS.aload X159.here hx rfl (hb hby at_66) rfl rfl ?_
      refine st161.trans ?_
      refine st162.trans ?_
      refine XS.ifYes X162.here hx rfl (pc0 := 74) (pc' := 79) rfl (hb hby at_74) rfl ((if0 _ _).trans (feq (by decide : ¬ ((1 : Int32) = (0 : Int32)))).2) (by decide) (by decide) ?_
      refine XS.aload X162.here hx rfl (hb hby at_79) rfl rfl ?_
      refine st164 _ ?_
      refine st165.trans ?_
      show Steps p.tables e below (T165.setTop (mkF m 87 #[(vi p0), (vi p1), (vi p2), (vi p3), (vr e1_134), (vr e1_138), (vr e1_143), (vr e1_149)] [(.ref wHELD)])) _
      refine st166 _ ?_
      refine Jvm.RoadKit.acmp (g := (mkF m 90 #[(vi p0), (vi p1), (vi p2), (vi p3), (vr e1_134), (vr e1_138), (vr e1_143), (vr e1_149)] [(.ref wHELD), (.ref wHELD)])) X166 hx rfl rfl rfl (pc0 := 90) (pc' := 95) (same := true) rfl (hb hby at_90) rfl (decide_eq_true rfl) (by decide) (by decide) ?_
      refine st167 _ ?_
      refine XS.aload X167.here hx rfl (hb hby at_98) rfl rfl ?_
      refine st168.trans ?_
      refine st169 _ ?_
      refine Jvm.RoadKit.acmp (g := (mkF m 106 #[(vi p0), (vi p1), (vi p2), (vi p3), (vr e1_134), (vr e1_138), (vr e1_143), (vr e1_149)] [(.ref wHELD), (.ref wHELD)])) X169 hx rfl rfl rfl (pc0 := 106) (pc' := 111) (same := true) rfl (hb hby at_106) rfl (decide_eq_true rfl) (by decide) (by decide) ?_
      refine XS.aload X169.here hx rfl (hb hby at_111) rfl rfl ?_
      show Steps p.tables e below (T169.setTop (mkF m 113 #[(vi p0), (vi p1), (vi p2), (vi p3), (vr e1_134), (vr e1_138), (vr e1_143), (vr e1_149)] [(.ref e1_143)])) _
      refine st170 _ ?_
      refine st171.trans ?_
      refine XS.aload X171.here hx rfl (hb hby at_119) rfl rfl ?_
      refine Jvm.RoadKit.acmp (g := (mkF m 121 #[(vi p0), (vi p1), (vi p2), (vi p3), (vr e1_134), (vr e1_138), (vr e1_143), (vr e1_149)] [(.ref e1_143), (.ref e1_143)])) X171 hx rfl rfl rfl (pc0 := 121) (pc' := 126) (same := true) rfl (hb hby at_121) rfl (decide_eq_true rfl) (by decide) (by decide) ?_
      refine st172 _ ?_
      refine XS.aload X172.here hx rfl (hb hby at_129) rfl rfl ?_
      refine st173.trans ?_
      refine XS.aload X173.here hx rfl (hb hby at_134) rfl rfl ?_
      show Steps p.tables e below (T173.setTop (mkF m 136 #[(vi p0), (vi p1), (vi p2), (vi p3), (vr e1_134), (vr e1_138), (vr e1_143), (vr e1_149)] [(.ref e1_143), (.ref e1_143)])) _
      refine Jvm.RoadKit.acmp (g := (mkF m 136 #[(vi p0), (vi p1), (vi p2), (vi p3), (vr e1_134), (vr e1_138), (vr e1_143), (vr e1_149)] [(.ref e1_143), (.ref e1_143)])) X173 hx rfl rfl rfl (pc0 := 136) (pc' := 141) (same := true) rfl (hb hby at_136) rfl (decide_eq_true rfl) (by decide) (by decide) ?_
      refine XS.aload X173.here hx rfl (hb hby at_141) rfl rfl ?_
      refine XS.aload X173.here hx rfl (hb hby at_143) rfl rfl ?_
      refine st174.trans ?_
      refine XS.aload X174.here hx rfl (hb hby at_148) rfl rfl ?_
      refine Jvm.RoadKit.acmp (g := (mkF m 150 #[(vi p0), (vi p1), (vi p2), (vi p3), (vr e1_134), (vr e1_138), (vr e1_143), (vr e1_149)] [(.ref e1_143), (.ref e1_143)])) X174 hx rfl rfl rfl (pc0 := 150) (pc' := 155) (same := true) rfl (hb hby at_150) rfl (decide_eq_true rfl) (by decide) (by decide) ?_
      refine XS.iconst X174.here hx rfl (hb hby at_155) ?_
      exact retN X174 hx (t := .boolean) hret0 (by simp) (hb hby at_156) hr
    · show Q_rm0 Z wUNKNOWN wHELD wTRUE wNOT_HELD wFALSE wMT wCS p0 p1 p2 p3 h0 n0 _ T174.heap _
      rw [K174q]
      exact ⟨rfl, N174⟩
theorem comes_1 {Post : Tables → Env → Array Value → State → Outcome → State → Prop} (hpost : ∀ tb e args s v u, (limb_1_1.after args s (.returned v) u = true ∧ limb_1_2.after args s (.returned v) u = true ∧ True) → ReturnedEndW s (.returned v) u (Jvm.fieldLocs frame_1_writes args s ++ Jvm.arrayLocs frame_1_arrays args s ++ Jvm.staticLocs frame_1_statics s) 24 1152 → Post tb e args s (.returned v) u) :
    ArmFor flags0 classFile x code maxLocals ret World_1 tables_1 room_1 Calls_1 rest_1 Pre_1 Post := by
  intro l hfl _ _ p e ha hc hk s m args below hf hA hF happ hP
  obtain ⟨hcalls, hrest, hpre⟩ := hP
  obtain ⟨-, -, -, hnamed, -, -, -, hat⟩ := (Spec.applies_iff hf).mp happ
  obtain ⟨hg, hn⟩ := and_e (Cond.before_iff.mp (show (Jvm.Cond.and given_1 narrow_1).before args s = true from hpre))
  obtain ⟨g1, g2⟩ := and_e hg
  obtain ⟨g3, g4⟩ := and_e g2
  obtain ⟨g5, g6⟩ := and_e g4
  obtain ⟨g7, g8⟩ := and_e g6
  obtain ⟨w0, w1, w2, w3, rfl⟩ : ∃ w0 w1 w2 w3 : Value, args = #[w0, w1, w2, w3] := by
    have hs : args.size = 4 := by simpa [Cond.value, given_1] using g1
    obtain ⟨L⟩ := args
    match L, hs with
    | [w0, w1, w2, w3], _ => exact ⟨w0, w1, w2, w3, rfl⟩
  have hw := fun d (hd : d ∈ tables_1) => atoms_spec (ws := Jvm.Cond.code x code maxLocals ret :: tables_1) hat d (List.mem_cons_of_mem _ hd)
  have hfit : Fit s := fun {y c} hc i hi => by
    obtain ⟨ha, rfl⟩ := Array.getElem?_eq_some_iff.mp hc
    have q := List.all_eq_true.mp ((Array.all_eq_true_iff_forall_mem.mp hF) _ (Array.getElem_mem ha)) i (List.mem_range.mpr hi)
    simpa [Array.getElem?_eq_getElem hi] using q
  obtain ⟨hsets, hown0⟩ := atoms_of _ (rest_1_c_eq ▸ (show rest_1_c.before _ s = true from hrest))
  have hr0 := Cond.before_iff.mp hown0
  obtain ⟨i0, ei0⟩ := is_v g3
  obtain rfl : w0 = (.int i0) := Option.some.inj ei0
  obtain ⟨i1, ei1⟩ := is_v g5
  obtain rfl : w1 = (.int i1) := Option.some.inj ei1
  obtain ⟨i2, ei2⟩ := is_v g7
  obtain rfl : w2 = (.int i2) := Option.some.inj ei2
  obtain ⟨i3, ei3⟩ := is_v g8
  obtain rfl : w3 = (.int i3) := Option.some.inj ei3
  obtain ⟨g9, g10⟩ := and_e hn
  obtain ⟨g11, g12⟩ := and_e g10
  obtain ⟨g13, g14⟩ := and_e g12
  obtain ⟨g15, g16⟩ := and_e g14
  obtain ⟨g17, g18⟩ := and_e g16
  obtain ⟨g19, g20⟩ := and_e g18
  obtain ⟨g21, g22⟩ := and_e g20
  obtain ⟨g23, g24⟩ := and_e g22
  obtain ⟨g25, g26⟩ := and_e g24
  obtain ⟨wUNKNOWN, ev_wUNKNOWN⟩ := exa_v g9
  have S_wUNKNOWN := Sta.start ev_wUNKNOWN (Or.inr ⟨(ow hw 48 rfl), (ow hw 49 rfl)⟩)
  have E_wUNKNOWN := Exa.start ev_wUNKNOWN g9
  obtain ⟨wHELD, ev_wHELD⟩ := exa_v g11
  have S_wHELD := Sta.start ev_wHELD (Or.inr ⟨(ow hw 43 rfl), (ow hw 80 rfl)⟩)
  have E_wHELD := Exa.start ev_wHELD g11
  obtain ⟨wTRUE, ev_wTRUE⟩ := exa_v g13
  have S_wTRUE := Sta.start ev_wTRUE (Or.inr ⟨(ow hw 48 rfl), (ow hw 86 rfl)⟩)
  have E_wTRUE := Exa.start ev_wTRUE g13
  obtain ⟨wNOT_HELD, ev_wNOT_HELD⟩ := exa_v g21
  have S_wNOT_HELD := Sta.start ev_wNOT_HELD (Or.inr ⟨(ow hw 43 rfl), (ow hw 103 rfl)⟩)
  have E_wNOT_HELD := Exa.start ev_wNOT_HELD g21
  obtain ⟨wFALSE, ev_wFALSE⟩ := exa_v g23
  have S_wFALSE := Sta.start ev_wFALSE (Or.inr ⟨(ow hw 48 rfl), (ow hw 104 rfl)⟩)
  have E_wFALSE := Exa.start ev_wFALSE g23
  have F_truth_wHELD := Fld.start ((fld_at ev_wHELD).symm.trans (own_eq_ref g15 ev_wTRUE))
  have F_ordinal_wUNKNOWN := Fld.start ((fld_at ev_wUNKNOWN).symm.trans (own_eq_int g17))
  have F_ordinal_wTRUE := Fld.start ((fld_at ev_wTRUE).symm.trans (own_eq_int g19))
  have F_truth_wNOT_HELD := Fld.start ((fld_at ev_wNOT_HELD).symm.trans (own_eq_ref g25 ev_wFALSE))
  have F_ordinal_wFALSE := Fld.start ((fld_at ev_wFALSE).symm.trans (own_eq_int g26))
  obtain ⟨c_MT, k_MT, wMT, f_MT1, f_MT2, f_MT3, -⟩ := hcalls.1
  have M_wMT : own_mir s s1n wMT := ⟨c_MT, k_MT, f_MT1, f_MT2, f_MT3⟩
  obtain ⟨wCS, ev_wCS⟩ := is_v (Cond.before_iff.mp (hsets _ (List.mem_of_getElem? (i := 1) rfl)))
  have S_wCS := Sta.start ev_wCS (Or.inl (hsets _ (List.mem_of_getElem? (i := 0) rfl)))
  have N_wCS : wCS ≠ (0 : Int32) := own_ne0 (hsets _ (List.mem_of_getElem? (i := 2) rfl)) ev_wCS
  have hS : SS s wUNKNOWN wHELD wTRUE wNOT_HELD wFALSE wMT wCS := ⟨S_wUNKNOWN, E_wUNKNOWN, S_wHELD, E_wHELD, S_wTRUE, E_wTRUE, S_wNOT_HELD, E_wNOT_HELD, S_wFALSE, E_wFALSE, F_ordinal_wUNKNOWN, F_ordinal_wTRUE, F_ordinal_wFALSE, F_truth_wHELD, F_truth_wNOT_HELD, M_wMT, S_wCS, N_wCS⟩
  have hCH : CHv s ELs s.vm s.heap := CHv.start (own_EW hw) (fun q hq => by
    simp only [ELs, List.mem_cons, List.not_mem_nil, or_false] at hq
    rcases hq with rfl
    · exact hcalls.2.1 _ (List.mem_of_getElem? (i := 0) rfl)) (hsets _ (List.mem_of_getElem? (i := 2) rfl)) (ow hw 19 rfl) (ow hw 5 rfl)
  obtain ⟨n, o, h1, h2, h3, _, L, rfl, ⟨rfl, N⟩, hq⟩ := rm0 l s _ hw tables_1 wUNKNOWN wHELD wTRUE wNOT_HELD wFALSE wMT wCS hS i0 i1 i2 i3 s.heap s.heap.size (Old.start s)  p e ha hc hk s m _ below hf ((Spec.applies_iff_loose hf).mp happ).1 ⟨rfl, State.Warmed39.refl s, rfl, hCH⟩ trivial
  refine ⟨n, _, h1, h2, h3, hpost _ _ _ _ _ _ ⟨Cond.after_iff.mpr rfl, Cond.after_iff.mpr (eq_i res_at (Term.int_eval (1)) rfl), trivial⟩ ⟨hq.1, hq.2.1, hq.2.2.1, (hq.2.2.2.sift fun y hy => Or.inr (N y hy)).mono (by decide) (by decide)⟩⟩
theorem main_1_1 : Claimed_1_1 := comes_1 fun _ _ _ _ _ _ h hF => ⟨h.1, hF⟩
theorem main_1_2 : Claimed_1_2 := comes_1 fun _ _ _ _ _ _ h hF => ⟨h.2.1, hF⟩
end Jvm.Pilot.@@N@@
namespace Jvm.Pilot.@@N@@
open Jvm Jvm.ClassFile Sem Op Lib Jvm.Free Jvm.Stand Jvm.Pilot.@@N@@.Jvm.D
/-! MADE BY PROGRAM (witnessworld.py) out of the Statement's table words and the real class files: 23 classes; the members and pool entries that the words name. The judged class is class 1, her method 2. -/
namespace start1
open Jvm.ClassFile
def u (s : String) : CpInfo := .utf8 (stringToUtf16 s)
/-- a pool by its gaps: so many unusable entries, then the entry; so many at the end -/
def gap : Nat → List CpInfo → List CpInfo
  | 0, r => r
  | n + 1, r => .unusable :: gap n r
def poolList (es : List (Nat × CpInfo)) (last : Nat) : List CpInfo := es.foldr (fun e r => gap e.1 (e.2 :: r)) (gap last [])
def pool (es : List (Nat × CpInfo)) (last : Nat) : Array CpInfo := ⟨poolList es last⟩
def fileOf (pool : Array CpInfo) (this : Nat) (attrs : Array Attribute := #[]) (ms : Array MethodInfo := #[]) (fl : Nat := 33) (sup : Nat := 0) (ifs : Array Nat := #[]) (fds : Array FieldInfo := #[]) : ClassFile where
  minorVersion := 0
  majorVersion := 65
  constantPool := pool
  accessFlags := fl
  thisClass := this
  superClass := sup
  interfaces := ifs
  fields := fds
  methods := ms
  attributes := attrs
def plain (name : String) (sup : Option ClassId) : Class where
  name := name
  kind := .ordinary
  loader := none
  accessFlags := 33
  super := sup
  interfaces := #[]
  cf := none
  fields := #[]
  methods := #[]
  instanceTypes := #[]
  staticTypes := #[]
  resolved := #[]
  callSites := []
  init := .initialized
  statics := none
  mirror := none

def pool0 : Array CpInfo := pool [(5, u "<init>"), (0, u "()V"), (1, .class_ 10), (1, u "java/lang/Object"), (0, u "getClass"), (0, u "()Ljava/lang/Class;")] 111

def k0c0 : Code := { maxStack := 0, maxLocals := 1, code := object_method_1_code, exceptionTable := #[], attributes := #[] }
def k0m0 : Method := { name := "<init>", desc := "()V", sig := { parameters := [], returnType := none }, accessFlags := 1, code := some k0c0 }
def k0m1 : Method := { name := "getClass", desc := "()Ljava/lang/Class;", sig := { parameters := [], returnType := some (.object "java/lang/Class") }, accessFlags := 273, code := none }
/-- java/lang/Object -/
def k0 : Class := { plain "java/lang/Object" none with
  accessFlags := 33
  interfaces := #[]
  cf := some (fileOf pool0 8 #[] #[{ accessFlags := 1, nameIndex := 5, descriptorIndex := 6, attributes := #[] }, { accessFlags := 273, nameIndex := 11, descriptorIndex := 12, attributes := #[] }] 33 0 #[] #[])
  fields := #[]
  methods := #[k0m0, k0m1]
  instanceTypes := #[]
  staticTypes := #[]
  resolved := Array.replicate 124 none
  statics := none }

def pool1 : Array CpInfo := pool [(2, .class_ 4), (1, u "java/lang/Object"), (0, u "<init>"), (0, u "()V"), (0, .class_ 8), (0, u "java/lang/String"), (0, .methodref 7 10), (0, .nameAndType 5 11), (0, u "([C)V"), (0, .methodref 13 14), (0, .class_ 15), (0, .nameAndType 16 17), (0, u "com/example/tuplecraft/tuplecraft/GrantUnknownPinLaw"), (0, u "drawn"), (0, u "(IIII)Ljava/lang/String;"), (0, .methodref 7 19), (0, .nameAndType 20 21), (0, u "valueOf"), (0, u "(C)Ljava/lang/String;"), (0, .methodref 23 24), (0, .class_ 25), (0, .nameAndType 26 27), (0, u "com/example/tuplecraft/tuplecraft/Grant"), (0, u "unknown"), (0, u "(Ljava/lang/String;)Lcom/example/tuplecraft/tuplecraft/Grant;"), (0, .methodref 23 29), (0, .nameAndType 30 31), (0, u "truth"), (0, u "()Lcom/example/tuplecraft/tuplecraft/Truth;"), (0, .fieldref 33 34), (0, .class_ 35), (0, .nameAndType 36 37), (0, u "com/example/tuplecraft/tuplecraft/Truth"), (0, u "UNKNOWN"), (0, u "Lcom/example/tuplecraft/tuplecraft/Truth;"), (0, .methodref 23 39), (0, .nameAndType 40 41), (0, u "problem"), (0, u "()Ljava/lang/String;"), (0, .methodref 7 43), (0, .nameAndType 44 45), (0, u "equals"), (0, u "(Ljava/lang/Object;)Z"), (0, .fieldref 23 47), (0, .nameAndType 48 49), (0, u "HELD"), (0, u "Lcom/example/tuplecraft/tuplecraft/Grant;"), (0, .methodref 23 51), (0, .nameAndType 52 53), (0, u "or"), (0, u "(Lcom/example/tuplecraft/tuplecraft/Grant;)Lcom/example/tuplecraft/tuplecraft/Grant;"), (0, .fieldref 23 55), (0, .nameAndType 56 49), (0, u "NOT_HELD"), (3, u "law"), (0, u "(IIII)Z")] 2

def k1m0 : Method := { name := "<init>", desc := "()V", sig := { parameters := [], returnType := none }, accessFlags := 2, code := none }
def k1c1 : Code := { maxStack := 6, maxLocals := 7, code := method_2_code, exceptionTable := #[], attributes := #[] }
def k1m1 : Method := { name := "drawn", desc := "(IIII)Ljava/lang/String;", sig := { parameters := [.int, .int, .int, .int], returnType := some (.object "java/lang/String") }, accessFlags := 10, code := some k1c1 }
def k1c2 : Code := { maxStack := 4, maxLocals := 8, code := code, exceptionTable := #[], attributes := #[] }
def k1m2 : Method := { name := "law", desc := "(IIII)Z", sig := { parameters := [.int, .int, .int, .int], returnType := some .boolean }, accessFlags := 9, code := some k1c2 }
/-- com/example/tuplecraft/tuplecraft/GrantUnknownPinLaw -/
def k1 : Class := { plain "com/example/tuplecraft/tuplecraft/GrantUnknownPinLaw" (some 0) with
  accessFlags := 49
  interfaces := #[]
  cf := some (fileOf pool1 13 #[] #[{ accessFlags := 2, nameIndex := 5, descriptorIndex := 6, attributes := #[] }, { accessFlags := 10, nameIndex := 16, descriptorIndex := 17, attributes := #[] }, { accessFlags := 9, nameIndex := 60, descriptorIndex := 61, attributes := #[] }] 49 2 #[] #[])
  fields := #[]
  methods := #[k1m0, k1m1, k1m2]
  instanceTypes := #[]
  staticTypes := #[]
  resolved := Array.replicate 64 none
  statics := none }

def pool2 : Array CpInfo := pool [(1, .class_ 2), (0, u "java/io/Serializable"), (0, .class_ 4), (0, u "java/lang/Object")] 2

/-- java/io/Serializable -/
def k2 : Class := { plain "java/io/Serializable" (some 0) with
  accessFlags := 1537
  interfaces := #[]
  cf := some (fileOf pool2 1 #[] #[] 1537 3 #[] #[])
  fields := #[]
  methods := #[]
  instanceTypes := #[]
  staticTypes := #[]
  resolved := Array.replicate 7 none
  statics := none }

def pool3 : Array CpInfo := pool [(1, .class_ 2), (0, u "java/lang/Comparable"), (0, .class_ 4), (0, u "java/lang/Object")] 7

/-- java/lang/Comparable -/
def k3 : Class := { plain "java/lang/Comparable" (some 0) with
  accessFlags := 1537
  interfaces := #[]
  cf := some (fileOf pool3 1 #[] #[] 1537 3 #[] #[])
  fields := #[]
  methods := #[]
  instanceTypes := #[]
  staticTypes := #[]
  resolved := Array.replicate 12 none
  statics := none }

def pool4 : Array CpInfo := pool [(2, .class_ 4), (1, u "java/lang/CharSequence"), (42, .class_ 48), (0, u "java/lang/CharSequence$1CodePointIterator"), (10, .class_ 60), (0, u "java/lang/CharSequence$1CharIterator"), (5, .class_ 67), (0, u "java/lang/Object")] 63

/-- java/lang/CharSequence -/
def k4 : Class := { plain "java/lang/CharSequence" (some 0) with
  accessFlags := 1537
  interfaces := #[]
  cf := some (fileOf pool4 2 #[.nestMembers #[47, 59]] #[] 1537 66 #[] #[])
  fields := #[]
  methods := #[]
  instanceTypes := #[]
  staticTypes := #[]
  resolved := Array.replicate 131 none
  statics := none }

def pool5 : Array CpInfo := pool [(1, .class_ 2), (0, u "java/lang/constant/Constable"), (0, .class_ 4), (0, u "java/lang/Object")] 6

/-- java/lang/constant/Constable -/
def k5 : Class := { plain "java/lang/constant/Constable" (some 0) with
  accessFlags := 1537
  interfaces := #[]
  cf := some (fileOf pool5 1 #[] #[] 1537 3 #[] #[])
  fields := #[]
  methods := #[]
  instanceTypes := #[]
  staticTypes := #[]
  resolved := Array.replicate 11 none
  statics := none }

def pool6 : Array CpInfo := pool [(1, .class_ 2), (0, u "java/lang/constant/ConstantDesc"), (0, .class_ 4), (0, u "java/lang/Object")] 32

/-- java/lang/constant/ConstantDesc -/
def k6 : Class := { plain "java/lang/constant/ConstantDesc" (some 0) with
  accessFlags := 1537
  interfaces := #[]
  cf := some (fileOf pool6 1 #[] #[] 1537 3 #[] #[])
  fields := #[]
  methods := #[]
  instanceTypes := #[]
  staticTypes := #[]
  resolved := Array.replicate 37 none
  statics := none }

def pool7 : Array CpInfo := pool [(1, .methodref 2 3), (0, .class_ 4), (0, .nameAndType 5 6), (0, u "java/lang/Object"), (0, u "<init>"), (0, u "()V"), (0, .string 8), (0, u ""), (0, .fieldref 10 11), (0, .class_ 12), (0, .nameAndType 13 14), (0, u "java/lang/String"), (0, u "value"), (0, u "[B"), (0, .fieldref 10 16), (0, .nameAndType 17 18), (0, u "coder"), (0, u "B"), (2, u "hash"), (0, u "I"), (2, u "hashIsZero"), (0, u "Z"), (0, .methodref 10 28), (0, .nameAndType 5 29), (0, u "([CIILjava/lang/Void;)V"), (8, .fieldref 10 39), (0, .nameAndType 40 26), (0, u "COMPACT_STRINGS"), (1, .class_ 44), (1, u "java/lang/StringUTF16"), (0, u "compress"), (1, .methodref 42 48), (0, .nameAndType 49 50), (0, u "coderFromArrayLen"), (0, u "([BI)B"), (2, u "toBytes"), (53, .class_ 109), (1, u "java/lang/StringLatin1"), (67, .methodref 42 178), (0, .nameAndType 45 179), (0, u "([CII)[B"), (29, .methodref 10 210), (0, .nameAndType 5 211), (0, u "([BB)V"), (157, u "(C)Z"), (173, u "equals"), (29, u "(Ljava/lang/Object;)Z"), (1, .class_ 576), (0, u "java/lang/CharSequence"), (22, u "CASE_INSENSITIVE_ORDER"), (0, u "Ljava/util/Comparator;"), (181, u "valueOf"), (0, u "(C)Ljava/lang/String;"), (226, u "([C)V"), (4, .methodref 107 1016), (0, .nameAndType 1017 369), (0, u "canEncode"), (0, .methodref 107 1019), (0, .nameAndType 53 1020), (0, u "(C)[B"), (80, u "serialPersistentFields"), (0, u "[Ljava/io/ObjectStreamField;"), (0, .class_ 1104), (0, u "java/lang/String$CaseInsensitiveComparator"), (1, .class_ 1107), (0, u "java/io/Serializable"), (0, .class_ 1109), (0, u "java/lang/Comparable"), (0, .class_ 1111), (0, u "java/lang/constant/Constable"), (0, .class_ 1113), (0, u "java/lang/constant/ConstantDesc"), (2, u "serialVersionUID"), (0, u "J"), (3, u "REPL"), (0, u "C"), (2, u "LATIN1"), (1, u "UTF16")] 323

def k7m0 : Method := { name := "<init>", desc := "()V", sig := { parameters := [], returnType := none }, accessFlags := 1, code := none }
def k7c1 : Code := { maxStack := 5, maxLocals := 2, code := jdk_42_method_3_code, exceptionTable := #[], attributes := #[] }
def k7m1 : Method := { name := "<init>", desc := "([C)V", sig := { parameters := [(.array .char)], returnType := none }, accessFlags := 1, code := some k7c1 }
def k7c2 : Code := { maxStack := 2, maxLocals := 3, code := jdk_42_method_66_code, exceptionTable := #[], attributes := #[] }
def k7m2 : Method := { name := "equals", desc := "(Ljava/lang/Object;)Z", sig := { parameters := [(.object "java/lang/Object")], returnType := some .boolean }, accessFlags := 1, code := some k7c2 }
def k7c3 : Code := { maxStack := 4, maxLocals := 1, code := jdk_42_method_139_code, exceptionTable := #[], attributes := #[] }
def k7m3 : Method := { name := "valueOf", desc := "(C)Ljava/lang/String;", sig := { parameters := [.char], returnType := some (.object "java/lang/String") }, accessFlags := 9, code := some k7c3 }
def k7c4 : Code := { maxStack := 4, maxLocals := 6, code := jdk_42_method_149_code, exceptionTable := #[], attributes := #[] }
def k7m4 : Method := { name := "<init>", desc := "([CIILjava/lang/Void;)V", sig := { parameters := [(.array .char), .int, .int, (.object "java/lang/Void")], returnType := none }, accessFlags := 2, code := some k7c4 }
def k7c5 : Code := { maxStack := 2, maxLocals := 3, code := jdk_42_method_151_code, exceptionTable := #[], attributes := #[] }
def k7m5 : Method := { name := "<init>", desc := "([BB)V", sig := { parameters := [(.array .byte), .byte], returnType := none }, accessFlags := 0, code := some k7c5 }
/-- java/lang/String -/
def k7 : Class := { plain "java/lang/String" (some 0) with
  accessFlags := 49
  interfaces := #[2, 3, 4, 5, 6]
  cf := some (fileOf pool7 10 #[.nestMembers #[1103]] #[{ accessFlags := 1, nameIndex := 5, descriptorIndex := 6, attributes := #[] }, { accessFlags := 1, nameIndex := 5, descriptorIndex := 1010, attributes := #[] }, { accessFlags := 1, nameIndex := 543, descriptorIndex := 573, attributes := #[] }, { accessFlags := 9, nameIndex := 782, descriptorIndex := 783, attributes := #[] }, { accessFlags := 2, nameIndex := 5, descriptorIndex := 29, attributes := #[] }, { accessFlags := 0, nameIndex := 5, descriptorIndex := 211, attributes := #[] }] 49 2 #[1106, 1108, 575, 1110, 1112] #[{ accessFlags := 18, nameIndex := 13, descriptorIndex := 14, attributes := #[] }, { accessFlags := 18, nameIndex := 17, descriptorIndex := 18, attributes := #[] }, { accessFlags := 2, nameIndex := 21, descriptorIndex := 22, attributes := #[] }, { accessFlags := 2, nameIndex := 25, descriptorIndex := 26, attributes := #[] }, { accessFlags := 26, nameIndex := 1116, descriptorIndex := 1117, attributes := #[] }, { accessFlags := 24, nameIndex := 40, descriptorIndex := 26, attributes := #[] }, { accessFlags := 26, nameIndex := 1101, descriptorIndex := 1102, attributes := #[] }, { accessFlags := 26, nameIndex := 1121, descriptorIndex := 1122, attributes := #[] }, { accessFlags := 25, nameIndex := 599, descriptorIndex := 600, attributes := #[] }, { accessFlags := 24, nameIndex := 1125, descriptorIndex := 18, attributes := #[] }, { accessFlags := 24, nameIndex := 1127, descriptorIndex := 18, attributes := #[] }])
  fields := #[{ name := "value", type := (.array .byte), accessFlags := 18, slot := 0, constantValue := 0 }, { name := "coder", type := .byte, accessFlags := 18, slot := 1, constantValue := 0 }, { name := "hash", type := .int, accessFlags := 2, slot := 2, constantValue := 0 }, { name := "hashIsZero", type := .boolean, accessFlags := 2, slot := 3, constantValue := 0 }, { name := "serialVersionUID", type := .long, accessFlags := 26, slot := 0, constantValue := 0 }, { name := "COMPACT_STRINGS", type := .boolean, accessFlags := 24, slot := 1, constantValue := 0 }, { name := "serialPersistentFields", type := (.array (.object "java/io/ObjectStreamField")), accessFlags := 26, slot := 2, constantValue := 0 }, { name := "REPL", type := .char, accessFlags := 26, slot := 3, constantValue := 0 }, { name := "CASE_INSENSITIVE_ORDER", type := (.object "java/util/Comparator"), accessFlags := 25, slot := 4, constantValue := 0 }, { name := "LATIN1", type := .byte, accessFlags := 24, slot := 5, constantValue := 0 }, { name := "UTF16", type := .byte, accessFlags := 24, slot := 6, constantValue := 0 }]
  methods := #[k7m0, k7m1, k7m2, k7m3, k7m4, k7m5]
  instanceTypes := #[(.array .byte), .byte, .int, .boolean]
  staticTypes := #[.long, .boolean, (.array (.object "java/io/ObjectStreamField")), .char, (.object "java/util/Comparator"), .byte, .byte]
  resolved := Array.replicate 1451 none
  statics := some 0 }

def pool8 : Array CpInfo := pool [(4, .class_ 6), (1, u "java/lang/Object"), (0, u "<init>"), (0, u "()V"), (5, .class_ 16), (1, u "java/lang/StringLatin1"), (73, u "canEncode"), (14, u "(C)Z"), (15, u "$assertionsDisabled"), (0, u "Z"), (98, .class_ 223), (1, u "java/lang/StringLatin1$LinesSpliterator"), (156, u "toBytes"), (1, u "(C)[B"), (7, .class_ 391), (0, u "java/lang/StringLatin1$CharsSpliterator")] 3

def k8m0 : Method := { name := "<init>", desc := "()V", sig := { parameters := [], returnType := none }, accessFlags := 0, code := none }
def k8c1 : Code := { maxStack := 2, maxLocals := 1, code := jdk_43_method_3_code, exceptionTable := #[], attributes := #[] }
def k8m1 : Method := { name := "canEncode", desc := "(C)Z", sig := { parameters := [.char], returnType := some .boolean }, accessFlags := 9, code := some k8c1 }
def k8c2 : Code := { maxStack := 4, maxLocals := 1, code := jdk_43_method_46_code, exceptionTable := #[], attributes := #[] }
def k8m2 : Method := { name := "toBytes", desc := "(C)[B", sig := { parameters := [.char], returnType := some (.array .byte) }, accessFlags := 9, code := some k8c2 }
/-- java/lang/StringLatin1 -/
def k8 : Class := { plain "java/lang/StringLatin1" (some 0) with
  accessFlags := 48
  interfaces := #[]
  cf := some (fileOf pool8 14 #[.nestMembers #[390, 221]] #[{ accessFlags := 0, nameIndex := 7, descriptorIndex := 8, attributes := #[] }, { accessFlags := 9, nameIndex := 90, descriptorIndex := 105, attributes := #[] }, { accessFlags := 9, nameIndex := 380, descriptorIndex := 382, attributes := #[] }] 48 4 #[] #[{ accessFlags := 4120, nameIndex := 121, descriptorIndex := 122, attributes := #[] }])
  fields := #[{ name := "$assertionsDisabled", type := .boolean, accessFlags := 4120, slot := 0, constantValue := 0 }]
  methods := #[k8m0, k8m1, k8m2]
  instanceTypes := #[]
  staticTypes := #[.boolean]
  resolved := Array.replicate 395 none
  statics := none }

def pool9 : Array CpInfo := pool [(1, .methodref 2 3), (0, .class_ 4), (0, .nameAndType 5 6), (0, u "java/lang/Object"), (0, u "<init>"), (0, u "()V"), (0, .class_ 8), (0, u "java/lang/Record")] 13

def k9c0 : Code := { maxStack := 1, maxLocals := 1, code := jdk_30_method_1_code, exceptionTable := #[], attributes := #[] }
def k9m0 : Method := { name := "<init>", desc := "()V", sig := { parameters := [], returnType := none }, accessFlags := 4, code := some k9c0 }
/-- java/lang/Record -/
def k9 : Class := { plain "java/lang/Record" (some 0) with
  accessFlags := 1057
  interfaces := #[]
  cf := some (fileOf pool9 7 #[] #[{ accessFlags := 4, nameIndex := 5, descriptorIndex := 6, attributes := #[] }] 1057 2 #[] #[])
  fields := #[]
  methods := #[k9m0]
  instanceTypes := #[]
  staticTypes := #[]
  resolved := Array.replicate 22 none
  statics := none }

def pool10 : Array CpInfo := pool [(1, .methodref 2 3), (0, .class_ 4), (0, .nameAndType 5 6), (0, u "java/lang/Record"), (0, u "<init>"), (0, u "()V"), (0, .fieldref 8 9), (0, .class_ 10), (0, .nameAndType 11 12), (0, u "com/example/tuplecraft/tuplecraft/Grant"), (0, u "truth"), (0, u "Lcom/example/tuplecraft/tuplecraft/Truth;"), (0, .fieldref 8 14), (0, .nameAndType 15 16), (0, u "problem"), (0, u "Ljava/lang/String;"), (0, .fieldref 18 19), (0, .class_ 20), (0, .nameAndType 21 12), (0, u "com/example/tuplecraft/tuplecraft/Truth"), (0, u "UNKNOWN"), (0, .methodref 8 23), (0, .nameAndType 5 24), (0, u "(Lcom/example/tuplecraft/tuplecraft/Truth;Ljava/lang/String;)V"), (0, .methodref 18 26), (0, .nameAndType 27 28), (0, u "compareTo"), (0, u "(Ljava/lang/Enum;)I"), (17, u "HELD"), (0, u "Lcom/example/tuplecraft/tuplecraft/Grant;"), (5, u "NOT_HELD"), (3, u "unknown"), (0, u "(Ljava/lang/String;)Lcom/example/tuplecraft/tuplecraft/Grant;"), (0, u "or"), (0, u "(Lcom/example/tuplecraft/tuplecraft/Grant;)Lcom/example/tuplecraft/tuplecraft/Grant;"), (1, u "()Ljava/lang/String;"), (2, u "()Lcom/example/tuplecraft/tuplecraft/Truth;")] 22

def k10c0 : Code := { maxStack := 2, maxLocals := 3, code := prog_2_method_1_code, exceptionTable := #[], attributes := #[] }
def k10m0 : Method := { name := "<init>", desc := "(Lcom/example/tuplecraft/tuplecraft/Truth;Ljava/lang/String;)V", sig := { parameters := [(.object "com/example/tuplecraft/tuplecraft/Truth"), (.object "java/lang/String")], returnType := none }, accessFlags := 0, code := some k10c0 }
def k10c1 : Code := { maxStack := 4, maxLocals := 1, code := prog_2_method_2_code, exceptionTable := #[], attributes := #[] }
def k10m1 : Method := { name := "unknown", desc := "(Ljava/lang/String;)Lcom/example/tuplecraft/tuplecraft/Grant;", sig := { parameters := [(.object "java/lang/String")], returnType := some (.object "com/example/tuplecraft/tuplecraft/Grant") }, accessFlags := 8, code := some k10c1 }
def k10c2 : Code := { maxStack := 2, maxLocals := 2, code := prog_2_method_3_code, exceptionTable := #[], attributes := #[] }
def k10m2 : Method := { name := "or", desc := "(Lcom/example/tuplecraft/tuplecraft/Grant;)Lcom/example/tuplecraft/tuplecraft/Grant;", sig := { parameters := [(.object "com/example/tuplecraft/tuplecraft/Grant")], returnType := some (.object "com/example/tuplecraft/tuplecraft/Grant") }, accessFlags := 0, code := some k10c2 }
def k10c3 : Code := { maxStack := 1, maxLocals := 1, code := prog_2_method_7_code, exceptionTable := #[], attributes := #[] }
def k10m3 : Method := { name := "truth", desc := "()Lcom/example/tuplecraft/tuplecraft/Truth;", sig := { parameters := [], returnType := some (.object "com/example/tuplecraft/tuplecraft/Truth") }, accessFlags := 1, code := some k10c3 }
def k10c4 : Code := { maxStack := 1, maxLocals := 1, code := prog_2_method_8_code, exceptionTable := #[], attributes := #[] }
def k10m4 : Method := { name := "problem", desc := "()Ljava/lang/String;", sig := { parameters := [], returnType := some (.object "java/lang/String") }, accessFlags := 1, code := some k10c4 }
/-- com/example/tuplecraft/tuplecraft/Grant -/
def k10 : Class := { plain "com/example/tuplecraft/tuplecraft/Grant" (some 9) with
  accessFlags := 48
  interfaces := #[]
  cf := some (fileOf pool10 8 #[] #[{ accessFlags := 0, nameIndex := 5, descriptorIndex := 24, attributes := #[] }, { accessFlags := 8, nameIndex := 57, descriptorIndex := 58, attributes := #[] }, { accessFlags := 0, nameIndex := 59, descriptorIndex := 60, attributes := #[] }, { accessFlags := 1, nameIndex := 11, descriptorIndex := 65, attributes := #[] }, { accessFlags := 1, nameIndex := 15, descriptorIndex := 62, attributes := #[] }] 48 2 #[] #[{ accessFlags := 18, nameIndex := 11, descriptorIndex := 12, attributes := #[] }, { accessFlags := 18, nameIndex := 15, descriptorIndex := 16, attributes := #[] }, { accessFlags := 24, nameIndex := 46, descriptorIndex := 47, attributes := #[] }, { accessFlags := 24, nameIndex := 53, descriptorIndex := 47, attributes := #[] }])
  fields := #[{ name := "truth", type := (.object "com/example/tuplecraft/tuplecraft/Truth"), accessFlags := 18, slot := 0, constantValue := 0 }, { name := "problem", type := (.object "java/lang/String"), accessFlags := 18, slot := 1, constantValue := 0 }, { name := "HELD", type := (.object "com/example/tuplecraft/tuplecraft/Grant"), accessFlags := 24, slot := 0, constantValue := 0 }, { name := "NOT_HELD", type := (.object "com/example/tuplecraft/tuplecraft/Grant"), accessFlags := 24, slot := 1, constantValue := 0 }]
  methods := #[k10m0, k10m1, k10m2, k10m3, k10m4]
  instanceTypes := #[(.object "com/example/tuplecraft/tuplecraft/Truth"), (.object "java/lang/String")]
  staticTypes := #[(.object "com/example/tuplecraft/tuplecraft/Grant"), (.object "com/example/tuplecraft/tuplecraft/Grant")]
  resolved := Array.replicate 88 none
  statics := some 1 }

def pool11 : Array CpInfo := pool [(2, .class_ 4), (1, u "java/lang/Enum"), (0, u "name"), (0, u "Ljava/lang/String;"), (0, .fieldref 2 8), (0, .nameAndType 9 10), (0, u "ordinal"), (0, u "I"), (1, .class_ 14), (1, u "java/lang/Object"), (4, u "hash"), (9, .methodref 12 30), (0, .nameAndType 31 32), (0, u "getClass"), (0, u "()Ljava/lang/Class;"), (70, u "compareTo"), (0, u "(Ljava/lang/Enum;)I"), (1, .class_ 108), (1, u "java/lang/Enum$EnumDesc"), (2, .class_ 112), (0, u "java/lang/constant/Constable"), (0, .class_ 114), (0, u "java/lang/Comparable"), (0, .class_ 116), (0, u "java/io/Serializable")] 87

def k11c0 : Code := { maxStack := 2, maxLocals := 4, code := jdk_37_method_8_code, exceptionTable := #[], attributes := #[] }
def k11m0 : Method := { name := "compareTo", desc := "(Ljava/lang/Enum;)I", sig := { parameters := [(.object "java/lang/Enum")], returnType := some .int }, accessFlags := 17, code := some k11c0 }
/-- java/lang/Enum -/
def k11 : Class := { plain "java/lang/Enum" (some 0) with
  accessFlags := 1057
  interfaces := #[5, 3, 2]
  cf := some (fileOf pool11 2 #[.nestMembers #[106]] #[{ accessFlags := 17, nameIndex := 103, descriptorIndex := 104, attributes := #[] }] 1057 12 #[111, 113, 115] #[{ accessFlags := 18, nameIndex := 5, descriptorIndex := 6, attributes := #[] }, { accessFlags := 18, nameIndex := 9, descriptorIndex := 10, attributes := #[] }, { accessFlags := 2, nameIndex := 19, descriptorIndex := 10, attributes := #[] }])
  fields := #[{ name := "name", type := (.object "java/lang/String"), accessFlags := 18, slot := 0, constantValue := 0 }, { name := "ordinal", type := .int, accessFlags := 18, slot := 1, constantValue := 0 }, { name := "hash", type := .int, accessFlags := 2, slot := 2, constantValue := 0 }]
  methods := #[k11m0]
  instanceTypes := #[(.object "java/lang/String"), .int, .int]
  staticTypes := #[]
  resolved := Array.replicate 204 none
  statics := none }

def pool12 : Array CpInfo := pool [(1, .class_ 2), (0, u "com/example/tuplecraft/tuplecraft/Truth"), (2, u "FALSE"), (0, u "Lcom/example/tuplecraft/tuplecraft/Truth;"), (2, u "UNKNOWN"), (2, u "TRUE"), (2, u "$VALUES"), (0, u "[Lcom/example/tuplecraft/tuplecraft/Truth;"), (6, .class_ 25), (1, u "java/lang/Enum")] 44

/-- com/example/tuplecraft/tuplecraft/Truth -/
def k12 : Class := { plain "com/example/tuplecraft/tuplecraft/Truth" (some 11) with
  accessFlags := 16432
  interfaces := #[]
  cf := some (fileOf pool12 1 #[] #[] 16432 23 #[] #[{ accessFlags := 16409, nameIndex := 5, descriptorIndex := 6, attributes := #[] }, { accessFlags := 16409, nameIndex := 9, descriptorIndex := 6, attributes := #[] }, { accessFlags := 16409, nameIndex := 12, descriptorIndex := 6, attributes := #[] }, { accessFlags := 4122, nameIndex := 15, descriptorIndex := 16, attributes := #[] }])
  fields := #[{ name := "FALSE", type := (.object "com/example/tuplecraft/tuplecraft/Truth"), accessFlags := 16409, slot := 0, constantValue := 0 }, { name := "UNKNOWN", type := (.object "com/example/tuplecraft/tuplecraft/Truth"), accessFlags := 16409, slot := 1, constantValue := 0 }, { name := "TRUE", type := (.object "com/example/tuplecraft/tuplecraft/Truth"), accessFlags := 16409, slot := 2, constantValue := 0 }, { name := "$VALUES", type := (.array (.object "com/example/tuplecraft/tuplecraft/Truth")), accessFlags := 4122, slot := 3, constantValue := 0 }]
  methods := #[]
  instanceTypes := #[(.object "java/lang/String"), .int, .int]
  staticTypes := #[(.object "com/example/tuplecraft/tuplecraft/Truth"), (.object "com/example/tuplecraft/tuplecraft/Truth"), (.object "com/example/tuplecraft/tuplecraft/Truth"), (.array (.object "com/example/tuplecraft/tuplecraft/Truth"))]
  resolved := Array.replicate 70 none
  mirror := some 4
  statics := some 2 }

def pool13 : Array CpInfo := pool [(6, .class_ 8), (1, u "java/lang/Object"), (0, u "<init>"), (0, u "()V"), (1, .class_ 14), (1, u "java/lang/StringUTF16"), (31, u "$assertionsDisabled"), (0, u "Z"), (13, u "HI_BYTE_SHIFT"), (0, u "I"), (2, u "LO_BYTE_SHIFT"), (49, .methodref 12 116), (0, .nameAndType 117 118), (0, u "compress"), (0, u "([CI[BII)I"), (3, u "([CII)[B"), (138, u "coderFromArrayLen"), (0, u "([BI)B"), (106, .class_ 371), (1, u "java/lang/StringUTF16$LinesSpliterator"), (58, u "MAX_LENGTH"), (196, .class_ 628), (0, u "java/lang/StringUTF16$CodePointsSpliterator"), (0, .class_ 630), (0, u "java/lang/StringUTF16$CharsSpliterator")] 4

def k13m0 : Method := { name := "<init>", desc := "()V", sig := { parameters := [], returnType := none }, accessFlags := 0, code := none }
def k13c1 : Code := { maxStack := 2, maxLocals := 2, code := jdk_52_method_15_code, exceptionTable := #[], attributes := #[] }
def k13m1 : Method := { name := "coderFromArrayLen", desc := "([BI)B", sig := { parameters := [(.array .byte), .int], returnType := some .byte }, accessFlags := 8, code := some k13c1 }
def k13c2 : Code := { maxStack := 5, maxLocals := 6, code := jdk_52_method_16_code, exceptionTable := #[], attributes := #[] }
def k13m2 : Method := { name := "compress", desc := "([CII)[B", sig := { parameters := [(.array .char), .int, .int], returnType := some (.array .byte) }, accessFlags := 9, code := some k13c2 }
def k13c3 : Code := { maxStack := 3, maxLocals := 7, code := jdk_52_method_21_code, exceptionTable := #[], attributes := #[] }
def k13m3 : Method := { name := "compress", desc := "([CI[BII)I", sig := { parameters := [(.array .char), .int, (.array .byte), .int, .int], returnType := some .int }, accessFlags := 9, code := some k13c3 }
/-- java/lang/StringUTF16 -/
def k13 : Class := { plain "java/lang/StringUTF16" (some 0) with
  accessFlags := 48
  interfaces := #[]
  cf := some (fileOf pool13 12 #[.nestMembers #[627, 629, 369]] #[{ accessFlags := 0, nameIndex := 9, descriptorIndex := 10, attributes := #[] }, { accessFlags := 8, nameIndex := 261, descriptorIndex := 262, attributes := #[] }, { accessFlags := 9, nameIndex := 117, descriptorIndex := 122, attributes := #[] }, { accessFlags := 9, nameIndex := 117, descriptorIndex := 118, attributes := #[] }] 48 6 #[] #[{ accessFlags := 26, nameIndex := 61, descriptorIndex := 62, attributes := #[] }, { accessFlags := 26, nameIndex := 65, descriptorIndex := 62, attributes := #[] }, { accessFlags := 24, nameIndex := 430, descriptorIndex := 62, attributes := #[] }, { accessFlags := 4120, nameIndex := 46, descriptorIndex := 47, attributes := #[] }])
  fields := #[{ name := "HI_BYTE_SHIFT", type := .int, accessFlags := 26, slot := 0, constantValue := 0 }, { name := "LO_BYTE_SHIFT", type := .int, accessFlags := 26, slot := 1, constantValue := 0 }, { name := "MAX_LENGTH", type := .int, accessFlags := 24, slot := 2, constantValue := 0 }, { name := "$assertionsDisabled", type := .boolean, accessFlags := 4120, slot := 3, constantValue := 0 }]
  methods := #[k13m0, k13m1, k13m2, k13m3]
  instanceTypes := #[]
  staticTypes := #[.int, .int, .int, .boolean]
  resolved := Array.replicate 635 none
  statics := none }

def pool14 : Array CpInfo := pool [(2, .class_ 4), (1, u "java/lang/Object"), (0, u "<init>"), (0, u "()V"), (17, .class_ 26), (1, u "jdk/internal/util/Preconditions"), (28, .class_ 56), (0, u "jdk/internal/util/Preconditions$4"), (57, .class_ 115), (0, u "jdk/internal/util/Preconditions$1"), (7, u "SIOOBE_FORMATTER"), (0, u "Ljava/util/function/BiFunction;"), (0, .class_ 126), (0, u "jdk/internal/util/Preconditions$2"), (3, u "AIOOBE_FORMATTER"), (0, .class_ 132), (0, u "jdk/internal/util/Preconditions$3"), (3, u "IOOBE_FORMATTER")] 57

def k14m0 : Method := { name := "<init>", desc := "()V", sig := { parameters := [], returnType := none }, accessFlags := 1, code := none }
/-- jdk/internal/util/Preconditions -/
def k14 : Class := { plain "jdk/internal/util/Preconditions" (some 0) with
  accessFlags := 33
  interfaces := #[]
  cf := some (fileOf pool14 24 #[.nestMembers #[55, 131, 125, 114]] #[{ accessFlags := 1, nameIndex := 5, descriptorIndex := 6, attributes := #[] }] 33 2 #[] #[{ accessFlags := 25, nameIndex := 123, descriptorIndex := 124, attributes := #[] }, { accessFlags := 25, nameIndex := 130, descriptorIndex := 124, attributes := #[] }, { accessFlags := 25, nameIndex := 136, descriptorIndex := 124, attributes := #[] }])
  fields := #[{ name := "SIOOBE_FORMATTER", type := (.object "java/util/function/BiFunction"), accessFlags := 25, slot := 0, constantValue := 0 }, { name := "AIOOBE_FORMATTER", type := (.object "java/util/function/BiFunction"), accessFlags := 25, slot := 1, constantValue := 0 }, { name := "IOOBE_FORMATTER", type := (.object "java/util/function/BiFunction"), accessFlags := 25, slot := 2, constantValue := 0 }]
  methods := #[k14m0]
  instanceTypes := #[]
  staticTypes := #[(.object "java/util/function/BiFunction"), (.object "java/util/function/BiFunction"), (.object "java/util/function/BiFunction")]
  resolved := Array.replicate 194 none
  statics := some 3 }

def pool15 : Array CpInfo := pool [(9, u "<init>"), (6, .class_ 18), (1, u "java/lang/Object"), (0, u "()V"), (1, .class_ 23), (1, u "jdk/internal/util/ArraysSupport"), (0, u "LOG2_ARRAY_LONG_INDEX_SCALE"), (0, u "I"), (2, u "U"), (0, u "Ljdk/internal/misc/Unsafe;"), (8, u "BIG_ENDIAN"), (0, u "Z"), (8, u "LOG2_BYTE_BIT_SIZE"), (4, u "LOG2_ARRAY_INT_INDEX_SCALE"), (54, u "JLA"), (0, u "Ljdk/internal/access/JavaLangAccess;"), (11, u "LOG2_ARRAY_BOOLEAN_INDEX_SCALE"), (9, u "LOG2_ARRAY_BYTE_INDEX_SCALE"), (5, u "LOG2_ARRAY_CHAR_INDEX_SCALE"), (5, u "LOG2_ARRAY_SHORT_INDEX_SCALE"), (18, u "LOG2_ARRAY_FLOAT_INDEX_SCALE"), (24, u "LOG2_ARRAY_DOUBLE_INDEX_SCALE"), (89, u "T_BOOLEAN"), (2, u "T_CHAR"), (1, u "T_FLOAT"), (1, u "T_DOUBLE"), (1, u "T_BYTE"), (1, u "T_SHORT"), (1, u "T_INT"), (1, u "T_LONG"), (1, u "SOFT_MAX_ARRAY_LENGTH")] 83

def k15m0 : Method := { name := "<init>", desc := "()V", sig := { parameters := [], returnType := none }, accessFlags := 2, code := none }
/-- jdk/internal/util/ArraysSupport -/
def k15 : Class := { plain "jdk/internal/util/ArraysSupport" (some 0) with
  accessFlags := 33
  interfaces := #[]
  cf := some (fileOf pool15 21 #[] #[{ accessFlags := 2, nameIndex := 9, descriptorIndex := 19, attributes := #[] }] 33 16 #[] #[{ accessFlags := 24, nameIndex := 28, descriptorIndex := 29, attributes := #[] }, { accessFlags := 26, nameIndex := 38, descriptorIndex := 39, attributes := #[] }, { accessFlags := 25, nameIndex := 121, descriptorIndex := 25, attributes := #[] }, { accessFlags := 25, nameIndex := 131, descriptorIndex := 25, attributes := #[] }, { accessFlags := 25, nameIndex := 137, descriptorIndex := 25, attributes := #[] }, { accessFlags := 25, nameIndex := 143, descriptorIndex := 25, attributes := #[] }, { accessFlags := 25, nameIndex := 53, descriptorIndex := 25, attributes := #[] }, { accessFlags := 25, nameIndex := 24, descriptorIndex := 25, attributes := #[] }, { accessFlags := 25, nameIndex := 162, descriptorIndex := 25, attributes := #[] }, { accessFlags := 25, nameIndex := 187, descriptorIndex := 25, attributes := #[] }, { accessFlags := 26, nameIndex := 48, descriptorIndex := 25, attributes := #[] }, { accessFlags := 25, nameIndex := 277, descriptorIndex := 25, attributes := #[] }, { accessFlags := 25, nameIndex := 280, descriptorIndex := 25, attributes := #[] }, { accessFlags := 25, nameIndex := 282, descriptorIndex := 25, attributes := #[] }, { accessFlags := 25, nameIndex := 284, descriptorIndex := 25, attributes := #[] }, { accessFlags := 25, nameIndex := 286, descriptorIndex := 25, attributes := #[] }, { accessFlags := 25, nameIndex := 288, descriptorIndex := 25, attributes := #[] }, { accessFlags := 25, nameIndex := 290, descriptorIndex := 25, attributes := #[] }, { accessFlags := 25, nameIndex := 292, descriptorIndex := 25, attributes := #[] }, { accessFlags := 26, nameIndex := 108, descriptorIndex := 109, attributes := #[] }, { accessFlags := 25, nameIndex := 294, descriptorIndex := 25, attributes := #[] }])
  fields := #[{ name := "U", type := (.object "jdk/internal/misc/Unsafe"), accessFlags := 24, slot := 0, constantValue := 0 }, { name := "BIG_ENDIAN", type := .boolean, accessFlags := 26, slot := 1, constantValue := 0 }, { name := "LOG2_ARRAY_BOOLEAN_INDEX_SCALE", type := .int, accessFlags := 25, slot := 2, constantValue := 0 }, { name := "LOG2_ARRAY_BYTE_INDEX_SCALE", type := .int, accessFlags := 25, slot := 3, constantValue := 0 }, { name := "LOG2_ARRAY_CHAR_INDEX_SCALE", type := .int, accessFlags := 25, slot := 4, constantValue := 0 }, { name := "LOG2_ARRAY_SHORT_INDEX_SCALE", type := .int, accessFlags := 25, slot := 5, constantValue := 0 }, { name := "LOG2_ARRAY_INT_INDEX_SCALE", type := .int, accessFlags := 25, slot := 6, constantValue := 0 }, { name := "LOG2_ARRAY_LONG_INDEX_SCALE", type := .int, accessFlags := 25, slot := 7, constantValue := 0 }, { name := "LOG2_ARRAY_FLOAT_INDEX_SCALE", type := .int, accessFlags := 25, slot := 8, constantValue := 0 }, { name := "LOG2_ARRAY_DOUBLE_INDEX_SCALE", type := .int, accessFlags := 25, slot := 9, constantValue := 0 }, { name := "LOG2_BYTE_BIT_SIZE", type := .int, accessFlags := 26, slot := 10, constantValue := 0 }, { name := "T_BOOLEAN", type := .int, accessFlags := 25, slot := 11, constantValue := 0 }, { name := "T_CHAR", type := .int, accessFlags := 25, slot := 12, constantValue := 0 }, { name := "T_FLOAT", type := .int, accessFlags := 25, slot := 13, constantValue := 0 }, { name := "T_DOUBLE", type := .int, accessFlags := 25, slot := 14, constantValue := 0 }, { name := "T_BYTE", type := .int, accessFlags := 25, slot := 15, constantValue := 0 }, { name := "T_SHORT", type := .int, accessFlags := 25, slot := 16, constantValue := 0 }, { name := "T_INT", type := .int, accessFlags := 25, slot := 17, constantValue := 0 }, { name := "T_LONG", type := .int, accessFlags := 25, slot := 18, constantValue := 0 }, { name := "JLA", type := (.object "jdk/internal/access/JavaLangAccess"), accessFlags := 26, slot := 19, constantValue := 0 }, { name := "SOFT_MAX_ARRAY_LENGTH", type := .int, accessFlags := 25, slot := 20, constantValue := 0 }]
  methods := #[k15m0]
  instanceTypes := #[]
  staticTypes := #[(.object "jdk/internal/misc/Unsafe"), .boolean, .int, .int, .int, .int, .int, .int, .int, .int, .int, .int, .int, .int, .int, .int, .int, .int, .int, (.object "jdk/internal/access/JavaLangAccess"), .int]
  resolved := Array.replicate 378 none
  statics := none }

def pool16 : Array CpInfo := pool [(1, u "java/lang/Cloneable"), (0, .class_ 1), (0, u "java/lang/Object"), (0, .class_ 3)] 3

/-- java/lang/Cloneable -/
def k16 : Class := { plain "java/lang/Cloneable" (some 0) with
  accessFlags := 1537
  interfaces := #[]
  cf := some (fileOf pool16 2 #[] #[] 1537 4 #[] #[])
  fields := #[]
  methods := #[]
  instanceTypes := #[]
  staticTypes := #[]
  resolved := Array.replicate 8 none
  statics := none }

/-- the primitive byte -/
def k17 : Class := { plain "byte" none with kind := .primitive 'B', accessFlags := 0x411 }
/-- [B -/
def k18 : Class := { plain "[B" (some 0) with kind := .array 17 .byte, interfaces := #[16, 2], accessFlags := 1041 }

/-- the primitive char -/
def k19 : Class := { plain "char" none with kind := .primitive 'C', accessFlags := 0x411 }
/-- [C -/
def k20 : Class := { plain "[C" (some 0) with kind := .array 19 .char, interfaces := #[16, 2], accessFlags := 1041 }

/-- the primitive int -/
def k21 : Class := { plain "int" none with kind := .primitive 'I', accessFlags := 0x411 }
/-- [I -/
def k22 : Class := { plain "[I" (some 0) with kind := .array 21 .int, interfaces := #[16, 2], accessFlags := 1041 }

def heap : Heap := #[{ cls := 7, slots := #[.long 0, .int 1, .null, .int 0, .null, .int 0, .int 0], vm := .statics 7 },
  { cls := 10, slots := #[.ref 8, .ref 9], vm := .statics 10 },
  { cls := 12, slots := #[.ref 5, .ref 6, .ref 7, .null], vm := .statics 12 },
  { cls := 14, slots := #[.null, .null, .null], vm := .statics 14 },
  { cls := 0, slots := #[], vm := .mirror 12 },
  { cls := 12, slots := #[.null, .int 0, .int 0], vm := .none },
  { cls := 12, slots := #[.null, .int 1, .int 0], vm := .none },
  { cls := 12, slots := #[.null, .int 2, .int 0], vm := .none },
  { cls := 10, slots := #[.ref 7, .null], vm := .none },
  { cls := 10, slots := #[.ref 5, .null], vm := .none }]
def classes : Array Class := #[k0, k1, k2, k3, k4, k5, k6, k7, k8, k9, k10, k11, k12, k13, k14, k15, k16, k17, k18, k19, k20, k21, k22]
def interned : List (Array UInt16 × Addr) := []
def slotsUsed : Nat := 29
def theMethod : MethodId := ⟨1, 2⟩
def args0 : Array Value := #[.int 770, .int 65, .int 66, .int 67]
def aboutOver (below : List Frame) : State where
  vm := { classes := classes, interned := interned.toArray }
  heap := heap
  slotsUsed := slotsUsed
  threads := #[{ frames := .invoking theMethod args0 :: below }]
def below0 : List Frame := [.native { method := ⟨0, 0⟩, args := #[] }]
def about1 : State := aboutOver below0
def p0 : Program := .bare "" "" ""
def e0 : Env := launch0.env 0 0 0
theorem w_frames : about1.frames = Frame.invoking theMethod args0 :: below0 := rfl
set_option maxRecDepth 65536 in
theorem w_args : argsFit about1.vm theMethod args0 = true := by decide +kernel
set_option maxRecDepth 65536 in
theorem w_heap : heapFits about1 = true := by decide +kernel
set_option maxRecDepth 65536 in
theorem w_runnable : about1.curStatus? = some .runnable := by decide +kernel
set_option maxRecDepth 65536 in
theorem w_alone : about1.alone = true := by decide +kernel
set_option maxRecDepth 65536 in
theorem w_named : about1.methodNamed? x = some theMethod := by decide +kernel
set_option maxRecDepth 65536 in
theorem w_hears : about1.hears theMethod below0 = true := by decide +kernel
set_option maxRecDepth 65536 in
theorem w_ripe : about1.ripe theMethod args0 below0 = true := by decide +kernel
theorem w_running : about1.status = .running := rfl
set_option maxRecDepth 65536 in
theorem w_room : about1.hasRoom e0.platform room_1 = true :=
  launch0.hasRoom_least _ room_1 (by decide +kernel) (by decide +kernel) (by decide +kernel) (by decide +kernel) (by decide +kernel) (by decide +kernel)
theorem allAtoms_all (ts : List Jvm.Cond) (a : Array Jvm.Value) (st : Jvm.State) : (allAtoms ts).before a st = ts.all (fun c => c.before a st) := by
  induction ts with
  | nil => rfl
  | cons c t ih =>
    show (Jvm.Cond.and c (allAtoms t)).before a st = _
    rw [Jvm.Cond.before_and, ih, List.all_cons]
def words1 : List Jvm.Cond := Jvm.Cond.code x code maxLocals ret :: tables_1
/-- a 'code' word, met by the world's own term for the bytes: nothing is compared byte by byte -/
theorem code_word {y : MethodName} {bytes : ByteArray} {mx : Nat} {rt : Option FieldType} {a : Array Value} {s : State} {m : MethodId} {meth : Method} {c : Code} (h1 : s.methodNamed? y = some m) (h2 : s.vm.method? m = some meth) (h3 : meth.code = some c) (h4 : c.code = bytes)
    (h5 : (c.maxLocals == mx && c.exceptionTable.isEmpty && decide (c.maxStack ≤ mostOperands) && decide (meth.sig.returnType = rt) && !meth.locks && decide (parseMethodDescriptor y.desc = some meth.sig)) = true) : (Jvm.Cond.code y bytes mx rt).before a s = true := by
  simp only [Bool.and_eq_true, beq_iff_eq, Bool.not_eq_true', decide_eq_true_eq] at h5
  obtain ⟨⟨⟨⟨⟨g1, g2⟩, g3⟩, g4⟩, g5⟩, g6⟩ := h5
  simp [Cond.before, Cond.holds, Cond.value, h1, h2, h3, h4, g1, g2, g3, g4, g5, g6]
def isCode : Jvm.Cond → Bool
  | .code _ _ _ _ => true
  | _ => false
theorem all_split {L : List Jvm.Cond} {P : Jvm.Cond → Bool} (h1 : L.all (fun c => isCode c || P c) = true) (h2 : ∀ c ∈ L.filter isCode, P c = true) : L.all P = true := by
  refine List.all_eq_true.mpr fun c hc => ?_
  have h := List.all_eq_true.mp h1 c hc
  rcases Bool.eq_false_or_eq_true (isCode c) with hi | hi
  · exact h2 c (List.mem_filter.mpr ⟨hc, hi⟩)
  · simpa [hi] using h
set_option maxRecDepth 65536 in
theorem w_c0 : (Jvm.Cond.code x code maxLocals ret).before args0 about1 = true := code_word (m := ⟨1, 2⟩) (meth := k1m2) (c := k1c2) (by decide +kernel) rfl rfl rfl (by decide +kernel)
set_option maxRecDepth 65536 in
theorem w_c1 : (Jvm.Cond.code ({ cls := "com/example/tuplecraft/tuplecraft/GrantUnknownPinLaw", name := "drawn", desc := "(IIII)Ljava/lang/String;" } : Jvm.MethodName) method_2_code (7 : Nat) (Option.some (Jvm.ClassFile.FieldType.object "java/lang/String"))).before args0 about1 = true := code_word (m := ⟨1, 1⟩) (meth := k1m1) (c := k1c1) (by decide +kernel) rfl rfl rfl (by decide +kernel)
set_option maxRecDepth 65536 in
theorem w_c2 : (Jvm.Cond.code ({ cls := "java/lang/String", name := "<init>", desc := "([C)V" } : Jvm.MethodName) jdk_42_method_3_code (2 : Nat) (Option.none : Option Jvm.ClassFile.FieldType)).before args0 about1 = true := code_word (m := ⟨7, 1⟩) (meth := k7m1) (c := k7c1) (by decide +kernel) rfl rfl rfl (by decide +kernel)
set_option maxRecDepth 65536 in
theorem w_c3 : (Jvm.Cond.code ({ cls := "java/lang/String", name := "<init>", desc := "([CIILjava/lang/Void;)V" } : Jvm.MethodName) jdk_42_method_149_code (6 : Nat) (Option.none : Option Jvm.ClassFile.FieldType)).before args0 about1 = true := code_word (m := ⟨7, 4⟩) (meth := k7m4) (c := k7c4) (by decide +kernel) rfl rfl rfl (by decide +kernel)
set_option maxRecDepth 65536 in
theorem w_c4 : (Jvm.Cond.code ({ cls := "java/lang/Object", name := "<init>", desc := "()V" } : Jvm.MethodName) object_method_1_code (1 : Nat) (Option.none : Option Jvm.ClassFile.FieldType)).before args0 about1 = true := code_word (m := ⟨0, 0⟩) (meth := k0m0) (c := k0c0) (by decide +kernel) rfl rfl rfl (by decide +kernel)
set_option maxRecDepth 65536 in
theorem w_c5 : (Jvm.Cond.code ({ cls := "java/lang/String", name := "valueOf", desc := "(C)Ljava/lang/String;" } : Jvm.MethodName) jdk_42_method_139_code (1 : Nat) (Option.some (Jvm.ClassFile.FieldType.object "java/lang/String"))).before args0 about1 = true := code_word (m := ⟨7, 3⟩) (meth := k7m3) (c := k7c3) (by decide +kernel) rfl rfl rfl (by decide +kernel)
set_option maxRecDepth 65536 in
theorem w_c6 : (Jvm.Cond.code ({ cls := "java/lang/StringLatin1", name := "canEncode", desc := "(C)Z" } : Jvm.MethodName) jdk_43_method_3_code (1 : Nat) (Option.some Jvm.ClassFile.FieldType.boolean)).before args0 about1 = true := code_word (m := ⟨8, 1⟩) (meth := k8m1) (c := k8c1) (by decide +kernel) rfl rfl rfl (by decide +kernel)
set_option maxRecDepth 65536 in
theorem w_c7 : (Jvm.Cond.code ({ cls := "java/lang/StringLatin1", name := "toBytes", desc := "(C)[B" } : Jvm.MethodName) jdk_43_method_46_code (1 : Nat) (Option.some (Jvm.ClassFile.FieldType.array Jvm.ClassFile.FieldType.byte))).before args0 about1 = true := code_word (m := ⟨8, 2⟩) (meth := k8m2) (c := k8c2) (by decide +kernel) rfl rfl rfl (by decide +kernel)
set_option maxRecDepth 65536 in
theorem w_c8 : (Jvm.Cond.code ({ cls := "java/lang/String", name := "<init>", desc := "([BB)V" } : Jvm.MethodName) jdk_42_method_151_code (3 : Nat) (Option.none : Option Jvm.ClassFile.FieldType)).before args0 about1 = true := code_word (m := ⟨7, 5⟩) (meth := k7m5) (c := k7c5) (by decide +kernel) rfl rfl rfl (by decide +kernel)
set_option maxRecDepth 65536 in
theorem w_c9 : (Jvm.Cond.code ({ cls := "com/example/tuplecraft/tuplecraft/Grant", name := "unknown", desc := "(Ljava/lang/String;)Lcom/example/tuplecraft/tuplecraft/Grant;" } : Jvm.MethodName) prog_2_method_2_code (1 : Nat) (Option.some (Jvm.ClassFile.FieldType.object "com/example/tuplecraft/tuplecraft/Grant"))).before args0 about1 = true := code_word (m := ⟨10, 1⟩) (meth := k10m1) (c := k10c1) (by decide +kernel) rfl rfl rfl (by decide +kernel)
set_option maxRecDepth 65536 in
theorem w_c10 : (Jvm.Cond.code ({ cls := "com/example/tuplecraft/tuplecraft/Grant", name := "<init>", desc := "(Lcom/example/tuplecraft/tuplecraft/Truth;Ljava/lang/String;)V" } : Jvm.MethodName) prog_2_method_1_code (3 : Nat) (Option.none : Option Jvm.ClassFile.FieldType)).before args0 about1 = true := code_word (m := ⟨10, 0⟩) (meth := k10m0) (c := k10c0) (by decide +kernel) rfl rfl rfl (by decide +kernel)
set_option maxRecDepth 65536 in
theorem w_c11 : (Jvm.Cond.code ({ cls := "java/lang/Record", name := "<init>", desc := "()V" } : Jvm.MethodName) jdk_30_method_1_code (1 : Nat) (Option.none : Option Jvm.ClassFile.FieldType)).before args0 about1 = true := code_word (m := ⟨9, 0⟩) (meth := k9m0) (c := k9c0) (by decide +kernel) rfl rfl rfl (by decide +kernel)
set_option maxRecDepth 65536 in
theorem w_c12 : (Jvm.Cond.code ({ cls := "com/example/tuplecraft/tuplecraft/Grant", name := "truth", desc := "()Lcom/example/tuplecraft/tuplecraft/Truth;" } : Jvm.MethodName) prog_2_method_7_code (1 : Nat) (Option.some (Jvm.ClassFile.FieldType.object "com/example/tuplecraft/tuplecraft/Truth"))).before args0 about1 = true := code_word (m := ⟨10, 3⟩) (meth := k10m3) (c := k10c3) (by decide +kernel) rfl rfl rfl (by decide +kernel)
set_option maxRecDepth 65536 in
theorem w_c13 : (Jvm.Cond.code ({ cls := "com/example/tuplecraft/tuplecraft/Grant", name := "problem", desc := "()Ljava/lang/String;" } : Jvm.MethodName) prog_2_method_8_code (1 : Nat) (Option.some (Jvm.ClassFile.FieldType.object "java/lang/String"))).before args0 about1 = true := code_word (m := ⟨10, 4⟩) (meth := k10m4) (c := k10c4) (by decide +kernel) rfl rfl rfl (by decide +kernel)
set_option maxRecDepth 65536 in
theorem w_c14 : (Jvm.Cond.code ({ cls := "java/lang/String", name := "equals", desc := "(Ljava/lang/Object;)Z" } : Jvm.MethodName) jdk_42_method_66_code (3 : Nat) (Option.some Jvm.ClassFile.FieldType.boolean)).before args0 about1 = true := code_word (m := ⟨7, 2⟩) (meth := k7m2) (c := k7c2) (by decide +kernel) rfl rfl rfl (by decide +kernel)
set_option maxRecDepth 65536 in
theorem w_c15 : (Jvm.Cond.code ({ cls := "com/example/tuplecraft/tuplecraft/Grant", name := "or", desc := "(Lcom/example/tuplecraft/tuplecraft/Grant;)Lcom/example/tuplecraft/tuplecraft/Grant;" } : Jvm.MethodName) prog_2_method_3_code (2 : Nat) (Option.some (Jvm.ClassFile.FieldType.object "com/example/tuplecraft/tuplecraft/Grant"))).before args0 about1 = true := code_word (m := ⟨10, 2⟩) (meth := k10m2) (c := k10c2) (by decide +kernel) rfl rfl rfl (by decide +kernel)
set_option maxRecDepth 65536 in
theorem w_c16 : (Jvm.Cond.code ({ cls := "java/lang/Enum", name := "compareTo", desc := "(Ljava/lang/Enum;)I" } : Jvm.MethodName) jdk_37_method_8_code (4 : Nat) (Option.some Jvm.ClassFile.FieldType.int)).before args0 about1 = true := code_word (m := ⟨11, 0⟩) (meth := k11m0) (c := k11c0) (by decide +kernel) rfl rfl rfl (by decide +kernel)
set_option maxRecDepth 65536 in
theorem w_c17 : (Jvm.Cond.code ({ cls := "java/lang/StringUTF16", name := "compress", desc := "([CII)[B" } : Jvm.MethodName) jdk_52_method_16_code (6 : Nat) (Option.some (Jvm.ClassFile.FieldType.array Jvm.ClassFile.FieldType.byte))).before args0 about1 = true := code_word (m := ⟨13, 2⟩) (meth := k13m2) (c := k13c2) (by decide +kernel) rfl rfl rfl (by decide +kernel)
set_option maxRecDepth 65536 in
theorem w_c18 : (Jvm.Cond.code ({ cls := "java/lang/StringUTF16", name := "compress", desc := "([CI[BII)I" } : Jvm.MethodName) jdk_52_method_21_code (7 : Nat) (Option.some Jvm.ClassFile.FieldType.int)).before args0 about1 = true := code_word (m := ⟨13, 3⟩) (meth := k13m3) (c := k13c3) (by decide +kernel) rfl rfl rfl (by decide +kernel)
set_option maxRecDepth 65536 in
theorem w_c19 : (Jvm.Cond.code ({ cls := "java/lang/StringUTF16", name := "coderFromArrayLen", desc := "([BI)B" } : Jvm.MethodName) jdk_52_method_15_code (2 : Nat) (Option.some Jvm.ClassFile.FieldType.byte)).before args0 about1 = true := code_word (m := ⟨13, 1⟩) (meth := k13m1) (c := k13c1) (by decide +kernel) rfl rfl rfl (by decide +kernel)
def codes1 : List Jvm.Cond := [Jvm.Cond.code x code maxLocals ret, Jvm.Cond.code ({ cls := "com/example/tuplecraft/tuplecraft/GrantUnknownPinLaw", name := "drawn", desc := "(IIII)Ljava/lang/String;" } : Jvm.MethodName) method_2_code (7 : Nat) (Option.some (Jvm.ClassFile.FieldType.object "java/lang/String")), Jvm.Cond.code ({ cls := "java/lang/String", name := "<init>", desc := "([C)V" } : Jvm.MethodName) jdk_42_method_3_code (2 : Nat) (Option.none : Option Jvm.ClassFile.FieldType), Jvm.Cond.code ({ cls := "java/lang/String", name := "<init>", desc := "([CIILjava/lang/Void;)V" } : Jvm.MethodName) jdk_42_method_149_code (6 : Nat) (Option.none : Option Jvm.ClassFile.FieldType), Jvm.Cond.code ({ cls := "java/lang/Object", name := "<init>", desc := "()V" } : Jvm.MethodName) object_method_1_code (1 : Nat) (Option.none : Option Jvm.ClassFile.FieldType), Jvm.Cond.code ({ cls := "java/lang/String", name := "valueOf", desc := "(C)Ljava/lang/String;" } : Jvm.MethodName) jdk_42_method_139_code (1 : Nat) (Option.some (Jvm.ClassFile.FieldType.object "java/lang/String")), Jvm.Cond.code ({ cls := "java/lang/StringLatin1", name := "canEncode", desc := "(C)Z" } : Jvm.MethodName) jdk_43_method_3_code (1 : Nat) (Option.some Jvm.ClassFile.FieldType.boolean), Jvm.Cond.code ({ cls := "java/lang/StringLatin1", name := "toBytes", desc := "(C)[B" } : Jvm.MethodName) jdk_43_method_46_code (1 : Nat) (Option.some (Jvm.ClassFile.FieldType.array Jvm.ClassFile.FieldType.byte)), Jvm.Cond.code ({ cls := "java/lang/String", name := "<init>", desc := "([BB)V" } : Jvm.MethodName) jdk_42_method_151_code (3 : Nat) (Option.none : Option Jvm.ClassFile.FieldType), Jvm.Cond.code ({ cls := "com/example/tuplecraft/tuplecraft/Grant", name := "unknown", desc := "(Ljava/lang/String;)Lcom/example/tuplecraft/tuplecraft/Grant;" } : Jvm.MethodName) prog_2_method_2_code (1 : Nat) (Option.some (Jvm.ClassFile.FieldType.object "com/example/tuplecraft/tuplecraft/Grant")), Jvm.Cond.code ({ cls := "com/example/tuplecraft/tuplecraft/Grant", name := "<init>", desc := "(Lcom/example/tuplecraft/tuplecraft/Truth;Ljava/lang/String;)V" } : Jvm.MethodName) prog_2_method_1_code (3 : Nat) (Option.none : Option Jvm.ClassFile.FieldType), Jvm.Cond.code ({ cls := "java/lang/Record", name := "<init>", desc := "()V" } : Jvm.MethodName) jdk_30_method_1_code (1 : Nat) (Option.none : Option Jvm.ClassFile.FieldType), Jvm.Cond.code ({ cls := "com/example/tuplecraft/tuplecraft/Grant", name := "truth", desc := "()Lcom/example/tuplecraft/tuplecraft/Truth;" } : Jvm.MethodName) prog_2_method_7_code (1 : Nat) (Option.some (Jvm.ClassFile.FieldType.object "com/example/tuplecraft/tuplecraft/Truth")), Jvm.Cond.code ({ cls := "com/example/tuplecraft/tuplecraft/Grant", name := "problem", desc := "()Ljava/lang/String;" } : Jvm.MethodName) prog_2_method_8_code (1 : Nat) (Option.some (Jvm.ClassFile.FieldType.object "java/lang/String")), Jvm.Cond.code ({ cls := "java/lang/String", name := "equals", desc := "(Ljava/lang/Object;)Z" } : Jvm.MethodName) jdk_42_method_66_code (3 : Nat) (Option.some Jvm.ClassFile.FieldType.boolean), Jvm.Cond.code ({ cls := "com/example/tuplecraft/tuplecraft/Grant", name := "or", desc := "(Lcom/example/tuplecraft/tuplecraft/Grant;)Lcom/example/tuplecraft/tuplecraft/Grant;" } : Jvm.MethodName) prog_2_method_3_code (2 : Nat) (Option.some (Jvm.ClassFile.FieldType.object "com/example/tuplecraft/tuplecraft/Grant")), Jvm.Cond.code ({ cls := "java/lang/Enum", name := "compareTo", desc := "(Ljava/lang/Enum;)I" } : Jvm.MethodName) jdk_37_method_8_code (4 : Nat) (Option.some Jvm.ClassFile.FieldType.int), Jvm.Cond.code ({ cls := "java/lang/StringUTF16", name := "compress", desc := "([CII)[B" } : Jvm.MethodName) jdk_52_method_16_code (6 : Nat) (Option.some (Jvm.ClassFile.FieldType.array Jvm.ClassFile.FieldType.byte)), Jvm.Cond.code ({ cls := "java/lang/StringUTF16", name := "compress", desc := "([CI[BII)I" } : Jvm.MethodName) jdk_52_method_21_code (7 : Nat) (Option.some Jvm.ClassFile.FieldType.int), Jvm.Cond.code ({ cls := "java/lang/StringUTF16", name := "coderFromArrayLen", desc := "([BI)B" } : Jvm.MethodName) jdk_52_method_15_code (2 : Nat) (Option.some Jvm.ClassFile.FieldType.byte)]
set_option maxRecDepth 65536 in
theorem codes_eq : words1.filter isCode = codes1 := rfl
theorem w_codes : ∀ c ∈ words1.filter isCode, c.before args0 about1 = true := by
  rw [codes_eq]
  intro c hc
  simp only [codes1, List.mem_cons, List.not_mem_nil, or_false] at hc
  rcases hc with rfl | rfl | rfl | rfl | rfl | rfl | rfl | rfl | rfl | rfl | rfl | rfl | rfl | rfl | rfl | rfl | rfl | rfl | rfl | rfl
  · exact w_c0
  · exact w_c1
  · exact w_c2
  · exact w_c3
  · exact w_c4
  · exact w_c5
  · exact w_c6
  · exact w_c7
  · exact w_c8
  · exact w_c9
  · exact w_c10
  · exact w_c11
  · exact w_c12
  · exact w_c13
  · exact w_c14
  · exact w_c15
  · exact w_c16
  · exact w_c17
  · exact w_c18
  · exact w_c19
set_option maxRecDepth 65536 in
theorem w_t1 : (words1.take 24).all (fun c => isCode c || c.before args0 about1) = true := by decide +kernel
set_option maxRecDepth 65536 in
theorem w_t2 : ((words1.drop 24).take 24).all (fun c => isCode c || c.before args0 about1) = true := by decide +kernel
set_option maxRecDepth 65536 in
theorem w_t3 : (((words1.drop 24).drop 24).take 24).all (fun c => isCode c || c.before args0 about1) = true := by decide +kernel
set_option maxRecDepth 65536 in
theorem w_t4 : ((((words1.drop 24).drop 24).drop 24).take 24).all (fun c => isCode c || c.before args0 about1) = true := by decide +kernel
set_option maxRecDepth 65536 in
theorem w_t5 : ((((words1.drop 24).drop 24).drop 24).drop 24).all (fun c => isCode c || c.before args0 about1) = true := by decide +kernel
theorem w_tables : (allAtoms (Jvm.Cond.code x code maxLocals ret :: tables_1)).before args0 about1 = true := by
  rw [allAtoms_all]
  show words1.all (fun c => c.before args0 about1) = true
  refine all_split ?_ w_codes
  rw [← List.take_append_drop 24 words1, List.all_append, w_t1, ← List.take_append_drop 24 (words1.drop 24), List.all_append, w_t2, ← List.take_append_drop 24 ((words1.drop 24).drop 24), List.all_append, w_t3, ← List.take_append_drop 24 (((words1.drop 24).drop 24).drop 24), List.all_append, w_t4, w_t5]
  rfl
set_option maxRecDepth 65536 in
theorem w_rest : rest_1_c.before args0 about1 = true := by decide +kernel
set_option maxRecDepth 65536 in
theorem w_case : (Jvm.Cond.and given_1 narrow_1).before args0 about1 = true := by decide +kernel
set_option maxRecDepth 65536 in
theorem w_consts : constsHeld consts_1 about1 := Jvm.Lit.constsHeldB_iff.mp (by decide +kernel)
theorem w_applies : (headSpec (Jvm.Cond.code x code maxLocals ret :: tables_1) room_1).applies x e0.platform about1 = true :=
  (Spec.applies_iff w_frames).mpr ⟨w_running, w_runnable, w_alone, w_named, w_hears, w_ripe, w_room, w_tables⟩
theorem atStart : AtStart classFile x code maxLocals ret World_1 tables_1 room_1 Calls_1 rest_1 Pre_1 launch0 p0 e0 about1 theMethod args0 below0 :=
  ⟨lists_1, trivial, launch0.admits_env _ _ _, launch0.least_env, fairChoices_fair.cas, fairChoices_fair.clock, w_frames, w_args, w_heap, w_applies, ⟨⟨12, k12, 4, by decide +kernel, rfl, rfl, _, rfl, rfl⟩, ⟨w_consts, trivial⟩⟩, w_rest, w_case⟩
end start1
theorem witness_1 : WitnessClaimed_1 := ⟨start1.p0, start1.e0, start1.about1, start1.theMethod, start1.args0, start1.below0, start1.atStart⟩
end Jvm.Pilot.@@N@@
