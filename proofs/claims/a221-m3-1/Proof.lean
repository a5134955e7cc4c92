import JvmDerived
import JvmDerived.Pilot.@@N@@Statement
import JvmDerived.Pilot.@@N@@Code
set_option linter.unusedVariables false
set_option linter.unusedSimpArgs false
namespace Jvm.RoadKit
open Sem ClassFile Op Lib Jvm.Stand Jvm.Free Jvm.LawKit
section New
variable {p : Program} {l : Launch} {e : Env} {R : Room} {s : State} {m : MethodId} {args : Array Value} {below : List Frame} {meth : Method} {c : Code} {T : State} {locs : List Loc} {cells slots : Nat}
theorem retI (X : Stand p l e R s m args below meth c T locs cells slots) (hx : p.tables.exec = Jvm.exec) {pc : Nat} {Ls : Array Slot} {z : Int32} {rest : List Value} (hret : meth.sig.returnType = some .int) (hd : decode c.code pc = .ok (.ireturn, 1)) {fs : List Frame}
    (hl : ∀ (f : JFrame) (acts : List Action), f.method = m → f.locked = none → f.entered = [] → (doReturn e (T.setTop f) acts (some (.int z))).1 = T.setFrames fs) : Steps p.tables e below (T.setTop (mkF m pc Ls (.int z :: rest))) (T.setFrames fs) := by
  have hm' : T.vm.method? m = some meth := X.method'
  have hn : narrow .int (.int z) = .int z := rfl
  show Steps p.tables e below (T.setTop { method := m, pc := pc, locals := Ls, stack := _ :: rest, locked := none }) _
  jvm_step X.here [X.here.top, hx, hd, hm', hret, hn]
  first | (intro acts; rw [hl _ acts rfl rfl rfl]) | rw [hl _ _ rfl rfl rfl]
  exact Steps.refl _
theorem retL (X : Stand p l e R s m args below meth c T locs cells slots) (hx : p.tables.exec = Jvm.exec) {pc : Nat} {Ls : Array Slot} {z : Int64} {rest : List Value} (hret : meth.sig.returnType = some .long) (hd : decode c.code pc = .ok (.lreturn, 1)) {fs : List Frame}
    (hl : ∀ (f : JFrame) (acts : List Action), f.method = m → f.locked = none → f.entered = [] → (doReturn e (T.setTop f) acts (some (.long z))).1 = T.setFrames fs) : Steps p.tables e below (T.setTop (mkF m pc Ls (.long z :: rest))) (T.setFrames fs) := by
  have hm' : T.vm.method? m = some meth := X.method'
  have hn : narrow .long (.long z) = .long z := rfl
  show Steps p.tables e below (T.setTop { method := m, pc := pc, locals := Ls, stack := _ :: rest, locked := none }) _
  jvm_step X.here [X.here.top, hx, hd, hm', hret, hn]
  first | (intro acts; rw [hl _ acts rfl rfl rfl]) | rw [hl _ _ rfl rfl rfl]
  exact Steps.refl _
end New
end Jvm.RoadKit
namespace Jvm.Pilot.@@N@@
open Jvm Jvm.ClassFile Sem Op Lib Jvm.Free Jvm.Stand Jvm.LawKit Jvm.RoadKit Bundle Jvm.Pilot.@@N@@.Jvm.D
set_option maxRecDepth 65536
set_option maxHeartbeats 40000000
theorem ow {Z : State} {a0 : Array Value} (hw : ∀ d ∈ tables_1, d.before a0 Z = true) (i : Nat) {d : Jvm.Cond} (h : tables_1[i]? = some d) : d.before a0 Z = true := hw d (List.mem_of_getElem? h)
abbrev rmk (f c s l : Nat) : Room := { frames := f, cells := c, slots := s, locals := l }
abbrev MetB (l : Launch) (y : MethodName) (bytes : ByteArray) (maxL : Nat) (ret : Option FieldType) (ws : List Jvm.Cond) (rm : Room) (Z : State) (h0 : Heap) (as' : Array Value) (Q : Option Value → Heap → List Loc → Prop) : Prop :=
  MetFree l y (head1 (Jvm.Cond.code y bytes maxL ret :: ws) rm) (fun a U => a = as' ∧ Z.Warmed39 U.vm ∧ U.heap = h0) (fun _ _ _ _ _ => True) (fun _ U o U' => ∃ v L, o = .returned v ∧ Q v U'.heap L ∧ FrameEnd U o U' L rm.cells rm.slots)
theorem own_body {l : Launch} {y : MethodName} {bytes : ByteArray} {maxL : Nat} {ret : Option FieldType} {ws : List Jvm.Cond} {rm : Room} {Z : State} {h0 : Heap} {as' : Array Value} {Q : Option Value → Heap → List Loc → Prop} (hpl : plainFor y = true)
    (body : ∀ (p : Program) (e : Env) (s : State) (m : MethodId) (below : List Frame) (meth : Method) (c : Code) (s₁ : State), p.tables.exec = Jvm.exec → c.code = bytes → c.maxLocals = maxL → s.vm.findClass y.cls = some m.cls → meth.name = y.name → meth.sig.returnType = ret → meth.locks = false → Z.Warmed39 s.vm → Stand p l e rm s m as' below meth c s₁ [] 0 0 → s₁.heap = h0 →
      ∃ s₂ o, Steps p.tables e below (s₁.setTop (entryFrame m as' maxL)) s₂ ∧ s₂.status = .running ∧ Ended s₂ below o ∧ ∃ v L, o = .returned v ∧ Q v s₂.heap L ∧ FrameEnd s o s₂ L rm.cells rm.slots) : MetB l y bytes maxL ret ws rm Z h0 as' Q := by
  refine MetFree.of_bodySF hpl hisR ?_
  intro p e s m args below meth c s₁ Bd hml0 hP hK
  obtain ⟨rfl, hZ, hh⟩ := hP
  exact body p e s m below meth c s₁ Bd.exec Bd.bytes hml0 (findClass_of_methodNamed Bd.named) (name_of_methodNamed Bd.named Bd.method).1 Bd.returns Bd.notSynchronized hZ (Stand.of_body Bd) (by rw [← hh, Bd.state]; rfl)
abbrev MetBW (l : Launch) (y : MethodName) (bytes : ByteArray) (maxL : Nat) (ret : Option FieldType) (ws : List Jvm.Cond) (rm : Room) (Z : State) (h0 : Heap) (as' : Array Value) (Q : Option Value → Heap → List Loc → Prop) : Prop :=
  MetFree l y (head1 (Jvm.Cond.code y bytes maxL ret :: ws) rm) (fun a U => a = as' ∧ Z.Warmed39 U.vm ∧ U.heap = h0) (fun _ _ _ _ _ => True) (fun _ U o U' => ∃ v L, o = .returned v ∧ Q v U'.heap L ∧ ReturnedEndW U o U' L rm.cells rm.slots)
theorem own_bodyW {l : Launch} {y : MethodName} {bytes : ByteArray} {maxL : Nat} {ret : Option FieldType} {ws : List Jvm.Cond} {rm : Room} {Z : State} {h0 : Heap} {as' : Array Value} {Q : Option Value → Heap → List Loc → Prop} (hpl : plainFor y = true)
    (body : ∀ (p : Program) (e : Env) (s : State) (m : MethodId) (below : List Frame) (meth : Method) (c : Code) (s₁ : State), p.tables.exec = Jvm.exec → c.code = bytes → c.maxLocals = maxL → (s.setVm s.vm).vm.findClass y.cls = some m.cls → meth.name = y.name → meth.sig.returnType = ret → meth.locks = false → Z.Warmed39 (s.setVm s.vm).vm → Stand p l e rm (s.setVm s.vm) m as' below meth c s₁ [] 0 0 → s₁.heap = h0 → s.Since s.vm h0.size →
      ∃ s₂ o, Steps p.tables e below (s₁.setTop (entryFrame m as' maxL)) s₂ ∧ s₂.status = .running ∧ Ended s₂ below o ∧ ∃ v L, o = .returned v ∧ Q v s₂.heap L ∧ ReturnedEndW s o s₂ L rm.cells rm.slots) : MetBW l y bytes maxL ret ws rm Z h0 as' Q := by
  refine MetFree.of_bodySF hpl hisR ?_
  intro p e s m args below meth c s₁ Bd hml0 hP hK
  obtain ⟨rfl, hZ, hh⟩ := hP
  exact body p e s m below meth c s₁ Bd.exec Bd.bytes hml0 (findClass_of_methodNamed Bd.named) (name_of_methodNamed Bd.named Bd.method).1 Bd.returns Bd.notSynchronized hZ (Stand.of_body Bd) (by rw [← hh, Bd.state]; rfl) ((State.WarmedH.refl s).since _)
abbrev MetBI (l : Launch) (y : MethodName) (bytes : ByteArray) (maxL : Nat) (ret : Option FieldType) (ws : List Jvm.Cond) (rm : Room) (Z : State) (EL : List (String × Nat)) (h0 : Heap) (as' : Array Value) (Q : Option Value → Heap → List Loc → Prop) : Prop :=
  MetFree l y (head1 (Jvm.Cond.code y bytes maxL ret :: ws) rm) (fun a U => a = as' ∧ Z.Warmed39 U.vm ∧ U.heap = h0 ∧ CHv Z EL U.vm h0) (fun _ _ _ _ _ => True) (fun _ U o U' => ∃ v L, o = .returned v ∧ Q v U'.heap L ∧ ReturnedEndW U o U' L rm.cells rm.slots)
theorem own_bodyI {l : Launch} {y : MethodName} {bytes : ByteArray} {maxL : Nat} {ret : Option FieldType} {ws : List Jvm.Cond} {rm : Room} {Z : State} {EL : List (String × Nat)} {h0 : Heap} {as' : Array Value} {Q : Option Value → Heap → List Loc → Prop} (hpl : plainFor y = true)
    (body : ∀ (p : Program) (e : Env) (s : State) (m : MethodId) (below : List Frame) (meth : Method) (c : Code) (s₁ : State), p.tables.exec = Jvm.exec → c.code = bytes → c.maxLocals = maxL → (s.setVm s.vm).vm.findClass y.cls = some m.cls → meth.name = y.name → meth.sig.returnType = ret → meth.locks = false → Z.Warmed39 (s.setVm s.vm).vm → Stand p l e rm (s.setVm s.vm) m as' below meth c s₁ [] 0 0 → s₁.heap = h0 → s.Since s.vm h0.size → CHv Z EL s.vm h0 →
      ∃ s₂ o, Steps p.tables e below (s₁.setTop (entryFrame m as' maxL)) s₂ ∧ s₂.status = .running ∧ Ended s₂ below o ∧ ∃ v L, o = .returned v ∧ Q v s₂.heap L ∧ ReturnedEndW s o s₂ L rm.cells rm.slots) : MetBI l y bytes maxL ret ws rm Z EL h0 as' Q := by
  refine MetFree.of_bodySF hpl hisR ?_
  intro p e s m args below meth c s₁ Bd hml0 hP hK
  obtain ⟨rfl, hZ, hh, hC⟩ := hP
  exact body p e s m below meth c s₁ Bd.exec Bd.bytes hml0 (findClass_of_methodNamed Bd.named) (name_of_methodNamed Bd.named Bd.method).1 Bd.returns Bd.notSynchronized hZ (Stand.of_body Bd) (by rw [← hh, Bd.state]; rfl) ((State.WarmedH.refl s).since _) hC
theorem own_backI {p : Program} {l : Launch} {e : Env} {R : Room} {s : State} {vm0 : Vm} {args : Array Value} {below : List Frame} {Z : State} {a0 : Array Value} {EL : List (String × Nat)} {h : Heap} {y : MethodName} {bytes : ByteArray} {maxL : Nat} {ret : Option FieldType} {rm : Room} {len W : Nat} {as' : Array Value} {Q : Option Value → Heap → List Loc → Prop}
    (hM : MetBI l y bytes maxL ret [] rm Z EL h as' Q) (hZ : Z.Warmed39 vm0) (wc : (Jvm.Cond.code y bytes maxL ret).before a0 Z = true) (wz : (Jvm.Cond.initialized y.cls).before a0 Z = true) (hf : rm.frames + 1 ≤ R.frames) (hl : W + (maxL + 11) + rm.locals ≤ R.locals) (hEL : EW Z a0 EL) (H : CHv Z EL vm0 h) :
    BackS l R p e below (s.setVm vm0) args y len W (fun A a => a = as' ∧ A.U.heap = h ∧ A.cells + rm.cells ≤ R.cells ∧ A.slots + rm.slots ≤ R.slots) (fun A _ v B => ∃ L, Q v B.U.heap L ∧ B.locs = A.locs ++ L ∧ B.cells = A.cells + rm.cells ∧ B.slots = A.slots + rm.slots) := by
  refine BackS.of_freeW (bytes := bytes) (maxL := maxL) (ret := ret) (E := fun _ _ o t L k n => k = rm.cells ∧ n = rm.slots ∧ ∃ v, o = .returned v ∧ Q v t.heap L) hM hf hl ?_ ?_ ?_ ?_ ?_
  · intro m meth c A a Y hp
    have hU : Z.Warmed39 A.U.vm := wtrans (s := s.setVm vm0) hZ Y.warmed
    refine ⟨?_, mv hU wc, mv hU wz, hp.2.2.1, hp.2.2.2⟩
    show (Jvm.Cond.and _ .tt).before a A.U = true
    rw [Cond.before_and, mv hU wc]; rfl
  · intro m meth c A a g mk Y hp
    exact ⟨hp.1, wtrans (s := s.setVm vm0) hZ Y.warmed, hp.2.1, (CHv.at Y hZ hEL H).1⟩
  · intros; trivial
  · rintro _ _ _ _ ⟨v, L, h1, h2, h3⟩
    exact ⟨L, _, _, h3, rfl, rfl, v, h1, h2⟩
  · rintro m meth c A a g mk v t L k n Y hp _ _ ⟨e1, e2, v', e3, e4⟩
    cases e3; subst e1 e2; exact ⟨L, e4, rfl, rfl, rfl⟩
abbrev vr (a : Addr) : Slot := .val (.ref a)
abbrev vi (a : Int32) : Slot := .val (.int a)
abbrev vl (a : Int64) : Slot := .val (.long a)
theorem own_sz {Z : State} {n0 : Nat} {h : Heap} (O : Old Z n0 h) : n0 ≤ h.size := O.1 ▸ O.2.1
theorem own_eq_int {args : Array Value} {first s : State} {o : Option Outcome} {idx : List Nat} {t : Term} {k : Int32} (h : (Jvm.Cond.eq t (.int k)).value args first o s idx = some true) : t.eval args first o idx s = some (.int k) := by
  simp only [Jvm.Cond.value, Term.eval] at h
  cases ht : t.eval args first o idx s with
  | none => simp [ht] at h
  | some x => cases x <;> simp [ht] at h ⊢; exact h
theorem own_eq_long {args : Array Value} {first s : State} {o : Option Outcome} {idx : List Nat} {t : Term} {k : Int64} (h : (Jvm.Cond.eq t (.long k)).value args first o s idx = some true) : t.eval args first o idx s = some (.long k) := by
  simp only [Jvm.Cond.value, Term.eval] at h
  cases ht : t.eval args first o idx s with
  | none => simp [ht] at h
  | some x => cases x <;> simp [ht] at h ⊢; exact h
theorem own_selp {s : State} {args : Array Value} {y : MethodName} {n : Nat} (wi : (Jvm.Cond.instantiable y.cls n).before args s = true) (wp : (Jvm.Cond.privateMethod y).before args s = true) (wm : (Jvm.Cond.instanceMethod y).before args s = true) (hy : y.cls ≠ "java/lang/invoke/MethodHandle" ∧ y.cls ≠ "java/lang/invoke/VarHandle") : (Jvm.Cond.selects y.cls y y).before args s = true := by
  obtain ⟨c, k, hc, hk, -, hni, -, -⟩ := Cond.instantiable_spec wi
  exact selects_self_of_private hc hk (Bool.or_eq_false_iff.mp hni).1 (Cond.privateMethod_at wp) wm hy
theorem own_getR {p : Program} {l : Launch} {e : Env} {R : Room} {s : State} {m : MethodId} {args : Array Value} {below : List Frame} {meth : Method} {c : Code} {T : State} {locs : List Loc} {cells slots : Nat} {Z : State} {a0 : Array Value} {h : Heap} (X : Stand p l e R s m args below meth c T locs cells slots) (hx : p.tables.exec = Jvm.exec) (hZ : Z.Warmed39 s.vm) {own R0 n d : String} {index : Nat} (hown : s.vm.findClass own = some m.cls) (w : (Jvm.Cond.fieldRef own index R0 n d).before a0 Z = true)
    (eT : T.heap = h) {a : Addr} {v : Value} (F : Fld Z h a R0 n d v) {g : JFrame} (hg : g.method = m) {rest : List Value} (hs : g.stack = .ref a :: rest) (hd : decode c.code g.pc = .ok (.getfield index, 3)) : ∃ T', Stand p l e R s m args below meth c T' locs cells slots ∧ T'.heap = h ∧ ∀ target, Steps p.tables e below (T'.setTop { g with pc := g.pc + 3, stack := v :: rest }) target → Steps p.tables e below (T.setTop g) target := by
  obtain ⟨cell, cf, k, i, f, h1, h2, h3, h4, -, -, h7⟩ := F
  have wT := Cond.fieldRef_warmed39 (wtrans hZ X.warmed) w
  obtain ⟨c', k', i', f', q1, q2⟩ := Cond.fieldRef_spec (cur := m.cls) (by show T.vm.findClass own = some m.cls; rw [X.warmed.alike.findClass]; exact hown) wT
  obtain ⟨k'', hf', -⟩ := State.fieldFound?_setVm (s := Z) (wtrans hZ X.warmed).alike h2
  cases hf'.symm.trans q1
  exact ⟨T, X, eT, fun target k => (X.getfieldR hx hg q2 h3 hs (by rw [eT]; exact h1) h4 h7 hd (Steps.refl _)).trans k⟩
theorem own_cloneV {p : Program} {l : Launch} {e : Env} {R : Room} {s : State} {m : MethodId} {args : Array Value} {below : List Frame} {meth : Method} {c : Code} {T : State} {locs : List Loc} {cells slots : Nat} {Z : State} {h : Heap} {a : Addr} {ty : FieldType} (X : Stand p l e R s m args below meth c T locs cells slots) (hx : p.tables.exec = Jvm.exec) (hZ : Z.Warmed39 s.vm) {a0 : Array Value} {own ad : String} {index : Nat} (hown : s.vm.findClass own = some m.cls)
    (w1 : (Jvm.Cond.methodLink own index ⟨ad, "clone", "()Ljava/lang/Object;"⟩).before a0 Z = true) (w2 : (Jvm.Cond.sameMethod ad "java/lang/Object" "clone" "()Ljava/lang/Object;").before a0 Z = true) (w3 : (Jvm.Cond.native ⟨"java/lang/Object", "clone", "()Ljava/lang/Object;"⟩).before a0 Z = true)
    (w4 : (Jvm.Cond.instanceMethod ⟨"java/lang/Object", "clone", "()Ljava/lang/Object;"⟩).before a0 Z = true) (w5 : (Jvm.Cond.selects ad ⟨ad, "clone", "()Ljava/lang/Object;"⟩ ⟨"java/lang/Object", "clone", "()Ljava/lang/Object;"⟩).before a0 Z = true) (w6 : (Jvm.Cond.castable ad "java/lang/Cloneable").before a0 Z = true)
    (eT : T.heap = h) {k : ClassId} {z : Int32} {vs : List Value} {dv : Value} (F : Arv Z h a k ty z vs dv) (E : Exa Z h a ad) {g : JFrame} (hg : g.method = m) (hsize : g.locals.size = c.maxLocals) {rest : List Value} (hst : g.stack = .ref a :: rest) (hd : decode c.code g.pc = .ok (.invokevirtual index, 3))
    (hf : 1 ≤ R.frames) {W cap : Nat} (hW : 2 * g.monitorRoom + (rest.map fun v => v.category).sum ≤ W) (hl : W + 14 ≤ R.locals) (hcap : z.toNatClampNeg ≤ cap) (hc : cells + 1 ≤ R.cells) (hsl : slots + cap ≤ R.slots) :
    ∃ T' h', Stand p l e R s m args below meth c T' locs (cells + 1) (slots + cap) ∧ T'.heap = h' ∧ Ext h h' ∧ Arv Z h' h.size k ty z vs dv ∧ Exa Z h' h.size ad ∧
      ∀ target, Steps p.tables e below (T'.setTop { g with pc := g.pc + 3, stack := .ref h.size :: rest }) target → Steps p.tables e below (T.setTop g) target := by
  obtain ⟨cl, A, q1, S, q3, H, G⟩ := F
  obtain ⟨T', h', X', e', ex, A', E', st⟩ := cloneA X hx hZ hown w1 w2 w3 w4 w5 w6 eT A E (fitC_of A fun i hi v hv => by rw [H i hi] at hv; cases hv; exact G i hi) hg hsize hst hd hf hW hl (by rw [S]; exact hcap) hc hsl
  exact ⟨T', h', X', e', ex, ⟨cloneOf cl, A', q1, S, q3, H, G⟩, E', st⟩
theorem own_cast {Z : State} {h : Heap} {a : Addr} {k : ClassId} {ty : FieldType} {z : Int32} {vs vs' : List Value} {dv : Value} (e : vs = vs') (F : Arv Z h a k ty z vs dv) : Arv Z h a k ty z vs' dv := e ▸ F
theorem own_lc (x : Int64) : lcmpW x x = 0 := (lw_eq x x).mpr rfl
theorem own_b01 {P : Prop} [Decidable P] {y a b : Int32} (h : y = if P then a else b) : y = a ∨ y = b := by rw [h]; split; exact Or.inl rfl; exact Or.inr rfl
abbrev M0 : MethodName := ⟨"java/lang/String", "<init>", "([CIILjava/lang/Void;)V"⟩
abbrev M1 : MethodName := ⟨"java/lang/String", "<init>", "([C)V"⟩
abbrev M2 : MethodName := ⟨"com/example/onceward/onceward/outbox/PublicationRefusedPinLaw", "draw", "(IIII)Ljava/lang/String;"⟩
abbrev M3 : MethodName := ⟨"java/util/Objects", "requireNonNull", "(Ljava/lang/Object;Ljava/lang/String;)Ljava/lang/Object;"⟩
abbrev M4 : MethodName := ⟨"com/example/onceward/onceward/outbox/Publication", "<init>", "(Lcom/example/onceward/onceward/outbox/Publication$State;Ljava/lang/String;)V"⟩
abbrev M5 : MethodName := ⟨"com/example/onceward/onceward/outbox/Publication", "refused", "(Ljava/lang/String;)Lcom/example/onceward/onceward/outbox/Publication;"⟩
abbrev M6 : MethodName := ⟨"com/example/onceward/onceward/outbox/Publication", "published", "()Lcom/example/onceward/onceward/outbox/Publication;"⟩
abbrev M7 : MethodName := ⟨"com/example/onceward/onceward/outbox/Publication", "state", "()Lcom/example/onceward/onceward/outbox/Publication$State;"⟩
abbrev M8 : MethodName := ⟨"com/example/onceward/onceward/outbox/Publication", "reason", "()Ljava/lang/String;"⟩
abbrev M9 : MethodName := ⟨"java/lang/String", "equals", "(Ljava/lang/Object;)Z"⟩
abbrev M10 : MethodName := ⟨"java/lang/StringUTF16", "compress", "([CI[BII)I"⟩
abbrev M11 : MethodName := ⟨"java/lang/StringUTF16", "compress", "([CII)[B"⟩
abbrev M12 : MethodName := ⟨"java/lang/StringUTF16", "coderFromArrayLen", "([BI)B"⟩
abbrev s0n : String := "java/lang/String"
abbrev s1n : String := "com/example/onceward/onceward/outbox/Publication$State"
abbrev s2n : String := "Lcom/example/onceward/onceward/outbox/Publication$State;"
abbrev s3n : String := "com/example/onceward/onceward/outbox/Publication"
abbrev s4n : String := "com/example/onceward/onceward/outbox/PublicationRefusedPinLaw"
abbrev s5n : String := "java/lang/Object"
abbrev s6n : String := "Ljava/lang/String;"
theorem own_wS {Z : State} {a0 : Array Value} (hw : ∀ d ∈ tables_1, d.before a0 Z = true) : ∀ a ∈ Bundle.stringAtoms, a.before a0 Z = true := by
  intro a ha
  simp only [Bundle.stringAtoms, List.mem_cons, List.not_mem_nil, or_false] at ha
  rcases ha with rfl | rfl | rfl | rfl | rfl | rfl | rfl
  · first | exact (ow hw 6 rfl) | exact (ow hw 5 rfl) | exact (ow hw 19 rfl) | exact (ow hw 20 rfl) | exact (ow hw 21 rfl) | exact (ow hw 22 rfl) | exact (ow hw 23 rfl)
  · first | exact (ow hw 6 rfl) | exact (ow hw 5 rfl) | exact (ow hw 19 rfl) | exact (ow hw 20 rfl) | exact (ow hw 21 rfl) | exact (ow hw 22 rfl) | exact (ow hw 23 rfl)
  · first | exact (ow hw 6 rfl) | exact (ow hw 5 rfl) | exact (ow hw 19 rfl) | exact (ow hw 20 rfl) | exact (ow hw 21 rfl) | exact (ow hw 22 rfl) | exact (ow hw 23 rfl)
  · first | exact (ow hw 6 rfl) | exact (ow hw 5 rfl) | exact (ow hw 19 rfl) | exact (ow hw 20 rfl) | exact (ow hw 21 rfl) | exact (ow hw 22 rfl) | exact (ow hw 23 rfl)
  · first | exact (ow hw 6 rfl) | exact (ow hw 5 rfl) | exact (ow hw 19 rfl) | exact (ow hw 20 rfl) | exact (ow hw 21 rfl) | exact (ow hw 22 rfl) | exact (ow hw 23 rfl)
  · first | exact (ow hw 6 rfl) | exact (ow hw 5 rfl) | exact (ow hw 19 rfl) | exact (ow hw 20 rfl) | exact (ow hw 21 rfl) | exact (ow hw 22 rfl) | exact (ow hw 23 rfl)
  · first | exact (ow hw 6 rfl) | exact (ow hw 5 rfl) | exact (ow hw 19 rfl) | exact (ow hw 20 rfl) | exact (ow hw 21 rfl) | exact (ow hw 22 rfl) | exact (ow hw 23 rfl)
theorem own_ne0 {args : Array Value} {s : State} {t : Term} {k v : Int32} (h : (Jvm.Cond.not (Jvm.Cond.eq t (.int k))).before args s = true) (e : t.eval args s none [] s = some (.int v)) : v ≠ k := by
  intro q
  subst q
  simp [Jvm.Cond.before, Jvm.Cond.holds, Jvm.Cond.value, e, Term.eval] at h
def ELs : List (String × Nat) := [(s0n, 7)]
theorem own_EW {Z : State} {a0 : Array Value} (hw : ∀ d ∈ tables_1, d.before a0 Z = true) : EW Z a0 ELs := (EW.cons (ow hw 18 rfl) (by decide) EW.nil)
abbrev inQ (x : Int32) : Prop := x = 0 ∨ x = 1 ∨ x = 2 ∨ x = 3
theorem own_Q (x : Int32) : inQ (x &&& 3) := by
  have h := c_mask x 3 2 (by decide) (by decide)
  have h3 : (x &&& 3).toInt = 0 ∨ (x &&& 3).toInt = 1 ∨ (x &&& 3).toInt = 2 ∨ (x &&& 3).toInt = 3 := by omega
  rcases h3 with h | h | h | h
  · exact Or.inl (Int32.toInt_inj.mp (h.trans (by decide)))
  · exact Or.inr (Or.inl (Int32.toInt_inj.mp (h.trans (by decide))))
  · exact Or.inr (Or.inr (Or.inl (Int32.toInt_inj.mp (h.trans (by decide)))))
  · exact Or.inr (Or.inr (Or.inr (Int32.toInt_inj.mp (h.trans (by decide)))))
theorem own_chr {x c : Int32} (h : c = ((x &&& (255 : Int32)).toUInt32.toUInt16.toUInt32.toInt32)) : ¬ (255 : Int32) < c ∧ nar .char c = c := by
  have h1 := c_mask x 255 8 (by decide) (by decide)
  have h2 := c_i2c (x &&& 255)
  have e : (255 : Int32).toInt = 255 := by decide
  have hc : c.toInt = (x &&& 255).toInt := by rw [h]; omega
  refine ⟨by rw [Int32.lt_iff_toInt_lt, e]; omega, ?_⟩
  show c.toUInt32.toUInt16.toUInt32.toInt32 = c
  have h3 := c_i2c c
  apply Int32.toInt_inj.mp
  omega
def SS (Z : State) (wREFUSED : Addr) (wPUBLISHED : Addr) (wCS : Int32) : Prop := Sta Z Z.heap s1n "REFUSED" s2n (.ref wREFUSED) ∧ Exa Z Z.heap wREFUSED s1n ∧ Sta Z Z.heap s3n "PUBLISHED" "Lcom/example/onceward/onceward/outbox/Publication;" (.ref wPUBLISHED) ∧ Exa Z Z.heap wPUBLISHED s3n ∧ Sta Z Z.heap s0n "COMPACT_STRINGS" "Z" (.int wCS) ∧ wCS ≠ (0 : Int32)
theorem ef_rm0 (m : MethodId) (x0 : Int32) (x1 : Int32) (x2 : Int32) (x3 : Int32)  : entryFrame m #[(.int x0), (.int x1), (.int x2), (.int x3)] maxLocals = mkF m 0 #[(vi x0), (vi x1), (vi x2), (vi x3), .unset, .unset, .unset] [] := by first | (simp [entryFrame, mkF, argsToLocals, Value.category, maxLocals]; done) | rfl
theorem pn_com_example_onceward_onceward_outbox_PublicationRefusedPinLaw : plainName "com/example/onceward/onceward/outbox/PublicationRefusedPinLaw" = true := by first | (simp [plainName, overriddenIn]; done) | decide +kernel
theorem ef_au1_0 (m : MethodId) (x0 : Int32) (x1 : Int32) (x2 : Int32) (x3 : Int32)  : entryFrame m #[(.int x0), (.int x1), (.int x2), (.int x3)] 8 = mkF m 0 #[(vi x0), (vi x1), (vi x2), (vi x3), .unset, .unset, .unset, .unset] [] := by first | (simp [entryFrame, mkF, argsToLocals, Value.category]; done) | rfl
theorem d1_0 : decode method_2_code 0 = .ok (.iload_n 1, 1) := by decide +kernel
theorem d1_1 : decode method_2_code 1 = .ok (.sipush 255, 3) := by decide +kernel
theorem d1_4 : decode method_2_code 4 = .ok (.iand, 1) := by decide +kernel
theorem d1_5 : decode method_2_code 5 = .ok (.i2c, 1) := by decide +kernel
theorem d1_6 : decode method_2_code 6 = .ok (.istore 4, 2) := by decide +kernel
theorem d1_8 : decode method_2_code 8 = .ok (.iload_n 2, 1) := by decide +kernel
theorem d1_9 : decode method_2_code 9 = .ok (.sipush 255, 3) := by decide +kernel
theorem d1_12 : decode method_2_code 12 = .ok (.iand, 1) := by decide +kernel
theorem d1_13 : decode method_2_code 13 = .ok (.i2c, 1) := by decide +kernel
theorem d1_14 : decode method_2_code 14 = .ok (.istore 5, 2) := by decide +kernel
theorem d1_16 : decode method_2_code 16 = .ok (.iload_n 3, 1) := by decide +kernel
theorem d1_17 : decode method_2_code 17 = .ok (.sipush 255, 3) := by decide +kernel
theorem d1_20 : decode method_2_code 20 = .ok (.iand, 1) := by decide +kernel
theorem d1_21 : decode method_2_code 21 = .ok (.i2c, 1) := by decide +kernel
theorem d1_22 : decode method_2_code 22 = .ok (.istore 6, 2) := by decide +kernel
theorem d1_24 : decode method_2_code 24 = .ok (.iload_n 0, 1) := by decide +kernel
theorem d1_25 : decode method_2_code 25 = .ok (.ifCond .ne 14, 3) := by decide +kernel
theorem d1_28 : decode method_2_code 28 = .ok (.new 7, 3) := by decide +kernel
theorem d1_31 : decode method_2_code 31 = .ok (.dup, 1) := by decide +kernel
theorem d1_32 : decode method_2_code 32 = .ok (.iconst 0, 1) := by decide +kernel
theorem d1_33 : decode method_2_code 33 = .ok (.newarray .char, 2) := by decide +kernel
theorem d1_35 : decode method_2_code 35 = .ok (.invokespecial 9, 3) := by decide +kernel
theorem ef_au2_0 (m : MethodId) (x0 : Addr) (x1 : Addr)  : entryFrame m #[(.ref x0), (.ref x1)] 2 = mkF m 0 #[(vr x0), (vr x1)] [] := by first | (simp [entryFrame, mkF, argsToLocals, Value.category]; done) | rfl
theorem pn_java_lang_String : plainName "java/lang/String" = true := by first | (simp [plainName, overriddenIn]; done) | decide +kernel
theorem d2_0 : decode jdk_42_method_3_code 0 = .ok (.aload_n 0, 1) := by decide +kernel
theorem d2_1 : decode jdk_42_method_3_code 1 = .ok (.aload_n 1, 1) := by decide +kernel
theorem d2_2 : decode jdk_42_method_3_code 2 = .ok (.iconst 0, 1) := by decide +kernel
theorem d2_3 : decode jdk_42_method_3_code 3 = .ok (.aload_n 1, 1) := by decide +kernel
theorem d2_4 : decode jdk_42_method_3_code 4 = .ok (.arraylength, 1) := by decide +kernel
theorem d2_5 : decode jdk_42_method_3_code 5 = .ok (.aconst_null, 1) := by decide +kernel
theorem d2_6 : decode jdk_42_method_3_code 6 = .ok (.invokespecial 27, 3) := by decide +kernel
theorem ef_au3_0 (m : MethodId) (x0 : Addr) (x1 : Addr) (x2 : Int32) (x3 : Int32)  : entryFrame m #[(.ref x0), (.ref x1), (.int x2), (.int x3), .null] 6 = mkF m 0 #[(vr x0), (vr x1), (vi x2), (vi x3), .val .null, .unset] [] := by first | (simp [entryFrame, mkF, argsToLocals, Value.category]; done) | rfl
theorem d3_0 : decode jdk_42_method_149_code 0 = .ok (.aload_n 0, 1) := by decide +kernel
theorem d3_1 : decode jdk_42_method_149_code 1 = .ok (.invokespecial 1, 3) := by decide +kernel
theorem d3_4 : decode jdk_42_method_149_code 4 = .ok (.iload_n 3, 1) := by decide +kernel
theorem d3_5 : decode jdk_42_method_149_code 5 = .ok (.ifCond .ne 22, 3) := by decide +kernel
theorem d3_8 : decode jdk_42_method_149_code 8 = .ok (.aload_n 0, 1) := by decide +kernel
theorem d3_9 : decode jdk_42_method_149_code 9 = .ok (.ldc 7, 2) := by decide +kernel
theorem d3_11 : decode jdk_42_method_149_code 11 = .ok (.getfield 9, 3) := by decide +kernel
theorem d3_14 : decode jdk_42_method_149_code 14 = .ok (.putfield 9, 3) := by decide +kernel
theorem d3_17 : decode jdk_42_method_149_code 17 = .ok (.aload_n 0, 1) := by decide +kernel
theorem d3_18 : decode jdk_42_method_149_code 18 = .ok (.ldc 7, 2) := by decide +kernel
theorem d3_20 : decode jdk_42_method_149_code 20 = .ok (.getfield 15, 3) := by decide +kernel
theorem d3_23 : decode jdk_42_method_149_code 23 = .ok (.putfield 15, 3) := by decide +kernel
theorem d3_26 : decode jdk_42_method_149_code 26 = .ok (.return_, 1) := by decide +kernel
def Q_au3_0 (Z : State) (wREFUSED : Addr) (wPUBLISHED : Addr) (wCS : Int32) (pa1 : Addr) (pa2 : Addr) (h0 : Heap) (n0 : Nat) (v : Option Value) (h : Heap) (L : List Loc) : Prop := v = none ∧ Fr n0 L ∧ Keep h0 h [pa1] ∧ Exa Z h pa1 s0n
theorem au3_0 (l : Launch) (Z : State) (a0 : Array Value) (hw : ∀ d ∈ tables_1, d.before a0 Z = true) (ws : List Jvm.Cond) (wREFUSED : Addr) (wPUBLISHED : Addr) (wCS : Int32) (hS : SS Z wREFUSED wPUBLISHED wCS) (pa1 : Addr) (pa2 : Addr) (h0 : Heap) (n0 : Nat) (O0 : Old Z n0 h0) (P0 : Exa Z h0 pa1 s0n) (P1 : Fld Z h0 pa1 s0n "coder" "B" (.int 0)) (P2 : Fld Z h0 pa1 s0n "value" "[B" .null) (P5 : n0 ≤ pa1) :
    MetBI l M0 jdk_42_method_149_code 6 none ws (rmk 1 2 4 12) Z ELs h0 #[(.ref pa1), (.ref pa2), (.int 0), (.int 0), .null] (Q_au3_0 Z wREFUSED wPUBLISHED wCS pa1 pa2 h0 n0) := by
  refine own_bodyI (plainFor_of_name pn_java_lang_String) ?_
  intro p e s m below meth c s₁ hx hby hml hown hnm hret0 hlk0 hZ X0 e0 hS1 hC0
  have N0 := Fr.nil n0
  have pre0 : ∀ t, Steps p.tables e below (s₁.setTop (mkF m 0 #[(vr pa1), (vr pa2), (vi 0), (vi 0), .val .null, .unset] [])) t → Steps p.tables e below (s₁.setTop (entryFrame m #[(.ref pa1), (.ref pa2), (.int 0), (.int 0), .null] 6)) t := fun t k => castTop (ef_au3_0 m pa1 pa2 (0 : Int32) (0 : Int32)) k
  have K0 := Keep.refl h0 [pa1]
  have hS0 := hS
  obtain ⟨S_wREFUSED, E_wREFUSED, S_wPUBLISHED, E_wPUBLISHED, S_wCS, N_wCS⟩ := hS0
  obtain ⟨T1, X1, e1, st1⟩ := initO X0 hx hZ hown (ow hw 15 rfl) (ow hw 16 rfl) (ow hw 17 rfl) e0 (g := (mkF m 1 #[(vr pa1), (vr pa2), (vi 0), (vi 0), .val .null, .unset] [(.ref pa1)])) rfl (by rw [hml]; rfl) rfl (hb hby d3_1) (by decide) (W := 0) (by show 2 * 0 + _ ≤ _; exact Nat.le_of_eq rfl) (by decide)
  have pre2 : ∀ t, Steps p.tables e below (T1.setTop (mkF m 9 #[(vr pa1), (vr pa2), (vi 0), (vi 0), .val .null, .unset] [(.ref pa1)])) t → Steps p.tables e below (s₁.setTop (entryFrame m #[(.ref pa1), (.ref pa2), (.int 0), (.int 0), .null] 6)) t := by
    intro t k
    refine pre0 t ?_
    show Steps p.tables e below (s₁.setTop (mkF m 0 #[(vr pa1), (vr pa2), (vi 0), (vi 0), .val .null, .unset] [])) _
    refine XS.aloadN X0.here hx rfl (hb hby d3_0) rfl rfl ?_
    refine st1 _ ?_
    refine XS.iloadN X1.here hx rfl (hb hby d3_4) rfl ?_
    refine XS.ifNo X1.here hx rfl (hb hby d3_5) rfl ((if0 _ _).trans (teq (by decide : (0 : Int32) = (0 : Int32))).2) ?_
    refine XS.aloadN X1.here hx rfl (hb hby d3_8) rfl rfl ?_
    exact k
  obtain ⟨b3, T3, h3, kk3, ba3, kb3, X3, e3, E3, hS3, hk3, hZ, hown, A3, Fc3, Fv3, -, -, -, hC3, hL3, -, st3⟩ := ldcCH X1 hx hZ hown (ow hw 18 rfl) (own_wS hw) e1 hS1 (Nat.le_refl _) (own_EW hw) (List.mem_of_getElem? (i := 0) rfl) hC0 (vs := []) (z := 0) ⟨by decide, by decide⟩ (by decide) (by decide) (g := (mkF m 9 #[(vr pa1), (vr pa2), (vi 0), (vi 0), .val .null, .unset] [(.ref pa1)])) rfl (hb hby d3_9) (n := 0) (by decide) (by decide) (by decide) (by decide)
  have O4 : Old Z n0 h3 := O0.ext E3
  have K4 : Keep h0 h3 [pa1] := K0.ext E3
  have f5 : Fld Z h3 pa1 s0n "value" "[B" .null := (P2.ext E3)
  have ne6 : pa1 ≠ b3 := Fld.ne f5 Fv3 nofun
  obtain ⟨T7, X7, e7, st7⟩ := getF X3 hx hZ hown (host := "") (Or.inl (ow hw 24 rfl)) Via.refl e3 Fv3 (g := (mkF m 11 #[(vr pa1), (vr pa2), (vi 0), (vi 0), .val .null, .unset] [(.ref b3), (.ref pa1)])) rfl rfl (hb hby d3_11)
  have f8 : Exa Z h3 pa1 s0n := (P0.ext E3)
  obtain ⟨T9, h9, X9, e9, W9, st9⟩ := putF X7 hx hZ hown (host := "") (Or.inl (ow hw 24 rfl)) Via.refl e7 f5 f8 (Or.inr ⟨(ow hw 20 rfl), rfl, hnm⟩) (ow hw 5 rfl) (ty := (.array .byte)) (by decide) rfl rfl (g := (mkF m 14 #[(vr pa1), (vr pa2), (vi 0), (vi 0), .val .null, .unset] [(.ref ba3), (.ref pa1)])) rfl rfl (hb hby d3_14)
  have N9 := Fr.snoc X9 N0 P5
  have O10 : Old Z n0 h9 := O4.wr W9 P5
  have K10 : Keep h0 h9 [pa1] := K4.wr W9 (Or.inl (List.mem_of_getElem? (i := 0) rfl))
  have Fw9 : Fld Z h9 pa1 s0n "value" "[B" (.ref ba3) := f5.same W9
  have pre11 : ∀ t, Steps p.tables e below (T9.setTop (mkF m 18 #[(vr pa1), (vr pa2), (vi 0), (vi 0), .val .null, .unset] [(.ref pa1)])) t → Steps p.tables e below (s₁.setTop (entryFrame m #[(.ref pa1), (.ref pa2), (.int 0), (.int 0), .null] 6)) t := by
    intro t k
    refine pre2 t ?_
    refine st3 _ ?_
    refine st7 _ ?_
    refine st9 _ ?_
    show Steps p.tables e below (T9.setTop (mkF m 17 #[(vr pa1), (vr pa2), (vi 0), (vi 0), .val .null, .unset] [])) _
    refine XS.aloadN X9.here hx rfl (hb hby d3_17) rfl rfl ?_
    exact k
  have f12 : Fld Z h9 b3 s0n "coder" "B" (.int 0) := (Fc3.other W9 (Or.inl (Ne.symm ne6)))
  obtain ⟨T13, X13, e13, st13⟩ := getF X9 hx hZ hown (host := "") (Or.inl (ow hw 25 rfl)) Via.refl e9 f12 (g := (mkF m 20 #[(vr pa1), (vr pa2), (vi 0), (vi 0), .val .null, .unset] [(.ref b3), (.ref pa1)])) rfl rfl (hb hby d3_20)
  have f14 : Exa Z h9 pa1 s0n := (f8.wr W9)
  have f15 : Fld Z h9 pa1 s0n "coder" "B" (.int 0) := ((P1.ext E3).other W9 (Or.inr (slot_ne (Or.inr (ow hw 21 rfl)) (Or.inr (ow hw 20 rfl)) (by decide) (t := .byte) (t' := (.array .byte)) (by decide) (by decide))))
  obtain ⟨T16, h16, X16, e16, W16, st16⟩ := putFN X13 hx hZ hown (ow hw 25 rfl) Via.refl e13 f15 f14 (Or.inr ⟨(ow hw 21 rfl), rfl, hnm⟩) (ow hw 5 rfl) (ty := .byte) (v' := (.int 0)) (by decide) rfl rfl (g := (mkF m 23 #[(vr pa1), (vr pa2), (vi 0), (vi 0), .val .null, .unset] [(.int 0), (.ref pa1)])) rfl rfl (hb hby d3_23)
  have N16 := Fr.snoc X16 N9 P5
  have O17 : Old Z n0 h16 := O10.wr W16 P5
  have K17 : Keep h0 h16 [pa1] := K10.wr W16 (Or.inl (List.mem_of_getElem? (i := 0) rfl))
  have Fw16 : Fld Z h16 pa1 s0n "coder" "B" (.int 0) := f15.same W16
  have f18 : Exa Z h16 pa1 s0n := (f14.wr W16)
  have hk19 : _ ≤ h16.size := (Nat.le_trans (Nat.le_trans hk3 (Nat.le_of_eq W9.size.symm)) (Nat.le_of_eq W16.size.symm))
  obtain ⟨fs, hr, hrun, hended, hRW⟩ := X16.leaveW hS3 (by rw [e16]; exact hk19) (v := none) (fun _ => rfl)
  refine ⟨_, _, pre11 _ ?_, hrun, hended, _, _, rfl, ?_, hRW.1, hRW.2.1, hRW.2.2.1, hRW.2.2.2.mono (by decide) (by decide)⟩
  · skip
    refine ldcAgain X9 hx hZ hown (ow hw 18 rfl) hL3 (g := (mkF m 18 #[(vr pa1), (vr pa2), (vi 0), (vi 0), .val .null, .unset] [(.ref pa1)])) rfl (hb hby d3_18) _ ?_
    refine st13 _ ?_
    refine st16 _ ?_
    exact X16.returnOut hx hret0 (hb hby d3_26) hr
  · show Q_au3_0 Z wREFUSED wPUBLISHED wCS pa1 pa2 h0 n0 _ T16.heap _
    rw [e16]
    exact ⟨rfl, N16, K17, f18⟩
theorem pd_0 : parseMethodDescriptor "([CIILjava/lang/Void;)V" = some ⟨[(.array .char), .int, .int, (.object "java/lang/Void")], none⟩ := by decide +kernel
theorem d2_9 : decode jdk_42_method_3_code 9 = .ok (.return_, 1) := by decide +kernel
def Q_au2_0 (Z : State) (wREFUSED : Addr) (wPUBLISHED : Addr) (wCS : Int32) (pa1 : Addr) (pa2 : Addr) (pk3 : ClassId) (h0 : Heap) (n0 : Nat) (v : Option Value) (h : Heap) (L : List Loc) : Prop := v = none ∧ Fr n0 L ∧ Keep h0 h [pa1] ∧ Exa Z h pa1 s0n
theorem au2_0 (l : Launch) (Z : State) (a0 : Array Value) (hw : ∀ d ∈ tables_1, d.before a0 Z = true) (ws : List Jvm.Cond) (wREFUSED : Addr) (wPUBLISHED : Addr) (wCS : Int32) (hS : SS Z wREFUSED wPUBLISHED wCS) (pa1 : Addr) (pa2 : Addr) (pk3 : ClassId) (h0 : Heap) (n0 : Nat) (O0 : Old Z n0 h0) (P0 : Exa Z h0 pa1 s0n) (P1 : Fld Z h0 pa1 s0n "coder" "B" (.int 0)) (P2 : Fld Z h0 pa1 s0n "value" "[B" .null) (P3 : Arv Z h0 pa2 pk3 .char (0 : Int32) ([]) (.int 0)) (P5 : n0 ≤ pa1) :
    MetBI l M1 jdk_42_method_3_code 2 none ws (rmk 2 2 4 29) Z ELs h0 #[(.ref pa1), (.ref pa2)] (Q_au2_0 Z wREFUSED wPUBLISHED wCS pa1 pa2 pk3 h0 n0) := by
  refine own_bodyI (plainFor_of_name pn_java_lang_String) ?_
  intro p e s m below meth c s₁ hx hby hml hown hnm hret0 hlk0 hZ X0 e0 hS1 hC0
  have N0 := Fr.nil n0
  have pre0 : ∀ t, Steps p.tables e below (s₁.setTop (mkF m 0 #[(vr pa1), (vr pa2)] [])) t → Steps p.tables e below (s₁.setTop (entryFrame m #[(.ref pa1), (.ref pa2)] 2)) t := fun t k => castTop (ef_au2_0 m pa1 pa2) k
  have K0 := Keep.refl h0 [pa1]
  have hS0 := hS
  obtain ⟨S_wREFUSED, E_wREFUSED, S_wPUBLISHED, E_wPUBLISHED, S_wCS, N_wCS⟩ := hS0
  obtain ⟨cl1, Ar1, -, Sz1, Nn1, -, -⟩ := (id P3)
  have pre3 : ∀ t, Steps p.tables e below (s₁.setTop (mkF m 6 #[(vr pa1), (vr pa2)] [.null, (.int 0), (.int 0), (.ref pa2), (.ref pa1)])) t → Steps p.tables e below (s₁.setTop (entryFrame m #[(.ref pa1), (.ref pa2)] 2)) t := by
    intro t k
    refine pre0 t ?_
    show Steps p.tables e below (s₁.setTop (mkF m 0 #[(vr pa1), (vr pa2)] [])) _
    refine XS.aloadN X0.here hx rfl (hb hby d2_0) rfl rfl ?_
    refine XS.aloadN X0.here hx rfl (hb hby d2_1) rfl rfl ?_
    refine XS.iconst X0.here hx rfl (hb hby d2_2) ?_
    refine XS.aloadN X0.here hx rfl (hb hby d2_3) rfl rfl ?_
    refine X0.arraylength hx (by rw [e0]; exact Ar1.1) (State.isArrayOf_alike hZ.alike Ar1.2.1) (g := (mkF m 4 #[(vr pa1), (vr pa2)] [(.ref pa2), (.int 0), (.ref pa2), (.ref pa1)])) rfl rfl (hb hby d2_4) _ ?_
    rw [len_of Sz1 Nn1]
    refine XS.aconstNull X0.here hx rfl (hb hby d2_5) ?_
    exact k
  obtain ⟨_, _, ⟨T2, L2, k2, n2⟩, -, X2, hs2, hg2, ⟨Lc2, hQ2, l2, y2, z2⟩, st2⟩ := X0.specialBackS hx (y := M0) rfl hown (mvT hZ (ow hw 11 rfl)) (mvT hZ (ow hw 12 rfl)) (mvT hZ (ow hw 14 rfl)) (by decide) (own_backI (W := 0) (au3_0 l Z a0 hw [] wREFUSED wPUBLISHED wCS hS pa1 pa2 h0 n0 O0 P0 P1 P2 P5) hZ (ow hw 14 rfl) (ow hw 6 rfl) (by decide) (by decide) (own_EW hw) hC0) (g := (mkF m 6 #[(vr pa1), (vr pa2)] [.null, (.int 0), (.int 0), (.ref pa2), (.ref pa1)])) rfl (by rw [hml]; rfl) (Steps.refl _) (a := pa1) (argsL := [(.ref pa2), (.int 0), (.int 0), .null]) (rest := []) (lenOf pd_0 rfl) rfl (by show 2 * 0 + _ ≤ _; exact Nat.le_of_eq rfl) (hb hby d2_6) (fun _ _ => ⟨rfl, e0, (by decide : 0 + 2 ≤ _), (by decide : 0 + 4 ≤ _)⟩)
  dsimp only [Pt.U, Pt.locs, Pt.cells, Pt.slots] at hs2 hg2
  have hS2 := foldS hS1 (by rw [e0]; exact (Nat.le_refl _)) hs2 hg2
  have hown : (s.setVm T2.vm).vm.findClass s0n = some m.cls := by rw [show (s.setVm T2.vm).vm = T2.vm from rfl, hs2.1.alike.findClass]; exact hown
  have hZ : Z.Warmed39 (s.setVm T2.vm).vm := State.Warmed39.trans (t := s.setVm _) hZ hs2.1
  dsimp only [Pt.U, Pt.locs, Pt.cells, Pt.slots] at X2 l2 y2 z2 st2 hQ2
  subst y2 z2
  have X2 : Stand p l e _ (s.setVm T2.vm) m _ below meth c T2 L2 _ _ := X2
  obtain ⟨rfl, Nq2, K2q, p2_0⟩ := hQ2
  have N2 : Fr n0 L2 := (congrArg (Fr n0) l2).mpr (Fr.app N0 Nq2)
  have O4 : Old Z n0 T2.heap := O0.keep K2q (allS P5 all0)
  have K4 : Keep h0 T2.heap [pa1] := K0.trans K2q (allS (Or.inl (List.mem_of_getElem? (i := 0) rfl)) all0)
  obtain ⟨fs, hr, hrun, hended, hRW⟩ := X2.leaveW hS2 (Nat.le_refl _) (v := none) (fun _ => rfl)
  refine ⟨_, _, pre3 _ ?_, hrun, hended, _, _, rfl, ?_, hRW.1, hRW.2.1, hRW.2.2.1, hRW.2.2.2.mono (by decide) (by decide)⟩
  · skip
    refine st2.trans ?_
    exact X2.returnOut hx hret0 (hb hby d2_9) hr
  · show Q_au2_0 Z wREFUSED wPUBLISHED wCS pa1 pa2 pk3 h0 n0 _ T2.heap _
    exact ⟨rfl, N2, K4, p2_0⟩
theorem pd_1 : parseMethodDescriptor "([C)V" = some ⟨[(.array .char)], none⟩ := by decide +kernel
theorem d1_38 : decode method_2_code 38 = .ok (.areturn, 1) := by decide +kernel
def Q_au1_0 (Z : State) (wREFUSED : Addr) (wPUBLISHED : Addr) (wCS : Int32) (pi1 : Int32) (pi2 : Int32) (pi3 : Int32) (h0 : Heap) (n0 : Nat) (v : Option Value) (h : Heap) (L : List Loc) : Prop := ∃ (e1 : Addr), v = some (.ref e1) ∧ Fr n0 L ∧ Keep h0 h [] ∧ h0.size ≤ e1 ∧ Exa Z h e1 s0n
theorem au1_0 (l : Launch) (Z : State) (a0 : Array Value) (hw : ∀ d ∈ tables_1, d.before a0 Z = true) (ws : List Jvm.Cond) (wREFUSED : Addr) (wPUBLISHED : Addr) (wCS : Int32) (hS : SS Z wREFUSED wPUBLISHED wCS) (pi1 : Int32) (pi2 : Int32) (pi3 : Int32) (h0 : Heap) (n0 : Nat) (O0 : Old Z n0 h0)  :
    MetBI l M2 method_2_code 8 (some (.object s0n)) ws (rmk 3 4 8 43) Z ELs h0 #[(.int 0), (.int pi1), (.int pi2), (.int pi3)] (Q_au1_0 Z wREFUSED wPUBLISHED wCS pi1 pi2 pi3 h0 n0) := by
  refine own_bodyI (plainFor_of_name pn_com_example_onceward_onceward_outbox_PublicationRefusedPinLaw) ?_
  intro p e s m below meth c s₁ hx hby hml hown hnm hret0 hlk0 hZ X0 e0 hS1 hC0
  have N0 := Fr.nil n0
  have pre0 : ∀ t, Steps p.tables e below (s₁.setTop (mkF m 0 #[(vi 0), (vi pi1), (vi pi2), (vi pi3), .unset, .unset, .unset, .unset] [])) t → Steps p.tables e below (s₁.setTop (entryFrame m #[(.int 0), (.int pi1), (.int pi2), (.int pi3)] 8)) t := fun t k => castTop (ef_au1_0 m (0 : Int32) pi1 pi2 pi3) k
  have K0 := Keep.refl h0 []
  have hS0 := hS
  obtain ⟨S_wREFUSED, E_wREFUSED, S_wPUBLISHED, E_wPUBLISHED, S_wCS, N_wCS⟩ := hS0
  obtain ⟨ca, hca⟩ : ∃ z : Int32, z = ((pi1 &&& (255 : Int32)).toUInt32.toUInt16.toUInt32.toInt32) := ⟨_, rfl⟩
  have pre1 : ∀ t, Steps p.tables e below (s₁.setTop (mkF m 8 #[(vi 0), (vi pi1), (vi pi2), (vi pi3), (vi ca), .unset, .unset, .unset] [])) t → Steps p.tables e below (s₁.setTop (entryFrame m #[(.int 0), (.int pi1), (.int pi2), (.int pi3)] 8)) t := by
    intro t k
    rw [hca] at k
    refine pre0 t ?_
    show Steps p.tables e below (s₁.setTop (mkF m 0 #[(vi 0), (vi pi1), (vi pi2), (vi pi3), .unset, .unset, .unset, .unset] [])) _
    refine XS.iloadN X0.here hx rfl (hb hby d1_0) rfl ?_
    refine XS.sipush X0.here hx rfl (hb hby d1_1) ?_
    refine XS.iand X0.here hx rfl (hb hby d1_4) rfl ?_
    refine XS.i2c X0.here hx rfl (hb hby d1_5) rfl ?_
    refine XS.istore X0.here hx rfl (hb hby d1_6) rfl (l' := #[(vi 0), (vi pi1), (vi pi2), (vi pi3), .val (.int ((pi1 &&& (255 : Int32)).toUInt32.toUInt16.toUInt32.toInt32)), .unset, .unset, .unset]) rfl ?_
    exact k
  have hnca := own_chr hca
  have h255ca : ¬ (255 : Int32) < ca := hnca.1
  obtain ⟨cb, hcb⟩ : ∃ z : Int32, z = ((pi2 &&& (255 : Int32)).toUInt32.toUInt16.toUInt32.toInt32) := ⟨_, rfl⟩
  have pre2 : ∀ t, Steps p.tables e below (s₁.setTop (mkF m 16 #[(vi 0), (vi pi1), (vi pi2), (vi pi3), (vi ca), (vi cb), .unset, .unset] [])) t → Steps p.tables e below (s₁.setTop (entryFrame m #[(.int 0), (.int pi1), (.int pi2), (.int pi3)] 8)) t := by
    intro t k
    rw [hcb] at k
    refine pre1 t ?_
    show Steps p.tables e below (s₁.setTop (mkF m 8 #[(vi 0), (vi pi1), (vi pi2), (vi pi3), (vi ca), .unset, .unset, .unset] [])) _
    refine XS.iloadN X0.here hx rfl (hb hby d1_8) rfl ?_
    refine XS.sipush X0.here hx rfl (hb hby d1_9) ?_
    refine XS.iand X0.here hx rfl (hb hby d1_12) rfl ?_
    refine XS.i2c X0.here hx rfl (hb hby d1_13) rfl ?_
    refine XS.istore X0.here hx rfl (hb hby d1_14) rfl (l' := #[(vi 0), (vi pi1), (vi pi2), (vi pi3), (vi ca), .val (.int ((pi2 &&& (255 : Int32)).toUInt32.toUInt16.toUInt32.toInt32)), .unset, .unset]) rfl ?_
    exact k
  have hncb := own_chr hcb
  have h255cb : ¬ (255 : Int32) < cb := hncb.1
  obtain ⟨cc, hcc⟩ : ∃ z : Int32, z = ((pi3 &&& (255 : Int32)).toUInt32.toUInt16.toUInt32.toInt32) := ⟨_, rfl⟩
  have pre3 : ∀ t, Steps p.tables e below (s₁.setTop (mkF m 24 #[(vi 0), (vi pi1), (vi pi2), (vi pi3), (vi ca), (vi cb), (vi cc), .unset] [])) t → Steps p.tables e below (s₁.setTop (entryFrame m #[(.int 0), (.int pi1), (.int pi2), (.int pi3)] 8)) t := by
    intro t k
    rw [hcc] at k
    refine pre2 t ?_
    show Steps p.tables e below (s₁.setTop (mkF m 16 #[(vi 0), (vi pi1), (vi pi2), (vi pi3), (vi ca), (vi cb), .unset, .unset] [])) _
    refine XS.iloadN X0.here hx rfl (hb hby d1_16) rfl ?_
    refine XS.sipush X0.here hx rfl (hb hby d1_17) ?_
    refine XS.iand X0.here hx rfl (hb hby d1_20) rfl ?_
    refine XS.i2c X0.here hx rfl (hb hby d1_21) rfl ?_
    refine XS.istore X0.here hx rfl (hb hby d1_22) rfl (l' := #[(vi 0), (vi pi1), (vi pi2), (vi pi3), (vi ca), (vi cb), .val (.int ((pi3 &&& (255 : Int32)).toUInt32.toUInt16.toUInt32.toInt32)), .unset]) rfl ?_
    exact k
  have hncc := own_chr hcc
  have h255cc : ¬ (255 : Int32) < cc := hncc.1
  obtain ⟨T4, h4, X4, e4, E4, A4, D4, -, st4⟩ := newO X0 hx hZ hown (ow hw 4 rfl) (ow hw 5 rfl) (ow hw 6 rfl) e0 (g := (mkF m 28 #[(vi 0), (vi pi1), (vi pi2), (vi pi3), (vi ca), (vi cb), (vi cc), .unset] [])) rfl (hb hby d1_28) (by decide) (by decide)
  obtain ⟨b4, g4⟩ : ∃ z, z = h0.size := ⟨_, rfl⟩
  rw [← g4] at A4 D4 st4
  have g5 : n0 ≤ b4 := Nat.le_trans (own_sz O0) (Nat.le_of_eq g4.symm)
  have sz6 : h0.size ≤ b4 := Nat.le_trans K0.1 (Nat.le_of_eq g4.symm)
  have O7 : Old Z n0 h4 := O0.ext E4
  have K7 : Keep h0 h4 [] := K0.ext E4
  have f8 : Fld Z h4 b4 s0n "value" "[B" .null := D4 (Or.inr (ow hw 20 rfl)) (ty := (.array .byte)) (by decide)
  have f9 : Fld Z h4 b4 s0n "coder" "B" (.int 0) := D4 (Or.inr (ow hw 21 rfl)) (ty := .byte) (by decide)
  obtain ⟨T10, h10, k10, X10, e10, E10, A10, Z10, st10⟩ := newPE X4 hx hZ (ow hw 7 rfl) e4 (g := (mkF m 33 #[(vi 0), (vi pi1), (vi pi2), (vi pi3), (vi ca), (vi cb), (vi cc), .unset] [(.int 0), (.ref b4), (.ref b4)])) rfl (hb hby d1_33) rfl (by decide) (cap := 0) (by decide) (by decide) (by decide) (by decide) (ad := "[C") rfl
  obtain ⟨b10, g10⟩ : ∃ z, z = h4.size := ⟨_, rfl⟩
  rw [← g10] at A10 Z10 st10
  have ne11 : b4 ≠ b10 := Nat.ne_of_lt (Nat.lt_of_lt_of_le A4.lt (Nat.le_of_eq g10.symm))
  have g12 : n0 ≤ b10 := Nat.le_trans (own_sz O7) (Nat.le_of_eq g10.symm)
  have sz13 : h0.size ≤ b10 := Nat.le_trans K7.1 (Nat.le_of_eq g10.symm)
  have O14 : Old Z n0 h10 := O7.ext E10
  have K14 : Keep h0 h10 [] := K7.ext E10
  have V10 : Arv Z h10 b10 k10 .char (0 : Int32) ([]) (.int 0) := (Arv.new A10 (by decide)).pad (pad_rep [] (.int 0) 0)
  have f15 : Exa Z h10 b4 s0n := (A4.ext E10)
  have f16 : Fld Z h10 b4 s0n "coder" "B" (.int 0) := (f9.ext E10)
  have f17 : Fld Z h10 b4 s0n "value" "[B" .null := (f8.ext E10)
  have pre19 : ∀ t, Steps p.tables e below (T10.setTop (mkF m 35 #[(vi 0), (vi pi1), (vi pi2), (vi pi3), (vi ca), (vi cb), (vi cc), .unset] [(.ref b10), (.ref b4), (.ref b4)])) t → Steps p.tables e below (s₁.setTop (entryFrame m #[(.int 0), (.int pi1), (.int pi2), (.int pi3)] 8)) t := by
    intro t k
    refine pre3 t ?_
    show Steps p.tables e below (s₁.setTop (mkF m 24 #[(vi 0), (vi pi1), (vi pi2), (vi pi3), (vi ca), (vi cb), (vi cc), .unset] [])) _
    refine XS.iloadN X0.here hx rfl (hb hby d1_24) rfl ?_
    refine XS.ifNo X0.here hx rfl (hb hby d1_25) rfl ((if0 _ _).trans (teq (by decide : (0 : Int32) = (0 : Int32))).2) ?_
    refine st4 _ ?_
    refine XS.dup X4.here hx rfl (hb hby d1_31) rfl rfl ?_
    refine XS.iconst X4.here hx rfl (hb hby d1_32) ?_
    refine st10 _ ?_
    exact k
  have hk20 : _ ≤ h10.size := (Nat.le_trans (Nat.le_trans (Nat.le_refl _) E4.1) E10.1)
  obtain ⟨_, _, ⟨T18, L18, k18, n18⟩, -, X18, hs18, hg18, ⟨Lc18, hQ18, l18, y18, z18⟩, st18⟩ := X10.specialBackS hx (y := M1) rfl hown (mvT hZ (ow hw 8 rfl)) (mvT hZ (ow hw 9 rfl)) (mvT hZ (ow hw 10 rfl)) (by decide) (own_backI (W := 1) (au2_0 l Z a0 hw [] wREFUSED wPUBLISHED wCS hS b4 b10 k10 h10 n0 O14 f15 f16 f17 V10 g5) hZ (ow hw 10 rfl) (ow hw 6 rfl) (by decide) (by decide) (own_EW hw) (CHv.ext E10 (CHv.ext E4 hC0))) (g := (mkF m 35 #[(vi 0), (vi pi1), (vi pi2), (vi pi3), (vi ca), (vi cb), (vi cc), .unset] [(.ref b10), (.ref b4), (.ref b4)])) rfl (by rw [hml]; rfl) (Steps.refl _) (a := b4) (argsL := [(.ref b10)]) (rest := [(.ref b4)]) (lenOf pd_1 rfl) rfl (by show 2 * 0 + _ ≤ _; exact Nat.le_of_eq rfl) (hb hby d1_35) (fun _ _ => ⟨rfl, e10, (by decide : 2 + 2 ≤ _), (by decide : 4 + 4 ≤ _)⟩)
  dsimp only [Pt.U, Pt.locs, Pt.cells, Pt.slots] at hs18 hg18
  have hS18 := foldS hS1 (by rw [e10]; exact hk20) hs18 hg18
  have hown : (s.setVm T18.vm).vm.findClass s4n = some m.cls := by rw [show (s.setVm T18.vm).vm = T18.vm from rfl, hs18.1.alike.findClass]; exact hown
  have hZ : Z.Warmed39 (s.setVm T18.vm).vm := State.Warmed39.trans (t := s.setVm _) hZ hs18.1
  dsimp only [Pt.U, Pt.locs, Pt.cells, Pt.slots] at X18 l18 y18 z18 st18 hQ18
  subst y18 z18
  have X18 : Stand p l e _ (s.setVm T18.vm) m _ below meth c T18 L18 _ _ := X18
  obtain ⟨rfl, Nq18, K18q, p18_0⟩ := hQ18
  have N18 : Fr n0 L18 := (congrArg (Fr n0) l18).mpr (Fr.app N0 Nq18)
  have O21 : Old Z n0 T18.heap := O14.keep K18q (allS g5 all0)
  have K21 : Keep h0 T18.heap [] := K14.trans K18q (allS (Or.inr sz6) all0)
  obtain ⟨fs, hr, hrun, hended, hRW⟩ := X18.leaveW hS18 (Nat.le_refl _) (v := some (.ref b4)) (fun h => by rw [hret0] at h; cases h)
  refine ⟨_, _, pre19 _ ?_, hrun, hended, _, _, rfl, ?_, hRW.1, hRW.2.1, hRW.2.2.1, hRW.2.2.2.mono (by decide) (by decide)⟩
  · skip
    refine st18.trans ?_
    jvm_step X18.here [X18.here.top, hx, (hb hby d1_38), X18.method', hret0, Value.isRef, FieldType.isReference]
    first | (intro acts; rw [hr _ acts rfl rfl rfl]) | rw [hr _ _ rfl rfl rfl]
    exact Steps.refl _
  · show Q_au1_0 Z wREFUSED wPUBLISHED wCS pi1 pi2 pi3 h0 n0 _ T18.heap _
    exact ⟨b4, rfl, N18, K21, sz6, p18_0⟩
theorem pd_2 : parseMethodDescriptor "(IIII)Ljava/lang/String;" = some ⟨[.int, .int, .int, .int], some (.object "java/lang/String")⟩ := by decide +kernel
theorem ef_au5_0 (m : MethodId) (x0 : Addr)  : entryFrame m #[(.ref x0)] 1 = mkF m 0 #[(vr x0)] [] := by first | (simp [entryFrame, mkF, argsToLocals, Value.category]; done) | rfl
theorem pn_com_example_onceward_onceward_outbox_Publication : plainName "com/example/onceward/onceward/outbox/Publication" = true := by first | (simp [plainName, overriddenIn]; done) | decide +kernel
theorem d5_0 : decode prog_12_method_3_code 0 = .ok (.new 8, 3) := by decide +kernel
theorem d5_3 : decode prog_12_method_3_code 3 = .ok (.dup, 1) := by decide +kernel
theorem d5_4 : decode prog_12_method_3_code 4 = .ok (.getstatic 21, 3) := by decide +kernel
theorem d5_7 : decode prog_12_method_3_code 7 = .ok (.aload_n 0, 1) := by decide +kernel
theorem d5_8 : decode prog_12_method_3_code 8 = .ok (.ldc 26, 2) := by decide +kernel
theorem d5_10 : decode prog_12_method_3_code 10 = .ok (.invokestatic 27, 3) := by decide +kernel
theorem ef_au6_0 (m : MethodId) (x0 : Addr) (x1 : Addr)  : entryFrame m #[(.ref x0), (.ref x1)] 2 = mkF m 0 #[(vr x0), (vr x1)] [] := by first | (simp [entryFrame, mkF, argsToLocals, Value.category]; done) | rfl
theorem pn_java_util_Objects : plainName "java/util/Objects" = true := by first | (simp [plainName, overriddenIn]; done) | decide +kernel
theorem d6_0 : decode jdk_31_method_11_code 0 = .ok (.aload_n 0, 1) := by decide +kernel
theorem d6_1 : decode jdk_31_method_11_code 1 = .ok (.ifnonnull 12, 3) := by decide +kernel
theorem d6_13 : decode jdk_31_method_11_code 13 = .ok (.aload_n 0, 1) := by decide +kernel
theorem d6_14 : decode jdk_31_method_11_code 14 = .ok (.areturn, 1) := by decide +kernel
def Q_au6_0 (Z : State) (wREFUSED : Addr) (wPUBLISHED : Addr) (wCS : Int32) (pa1 : Addr) (pa2 : Addr) (h0 : Heap) (n0 : Nat) (v : Option Value) (h : Heap) (L : List Loc) : Prop := v = some (.ref pa1) ∧ Fr n0 L ∧ h = h0
theorem au6_0 (l : Launch) (Z : State) (a0 : Array Value) (hw : ∀ d ∈ tables_1, d.before a0 Z = true) (ws : List Jvm.Cond) (wREFUSED : Addr) (wPUBLISHED : Addr) (wCS : Int32) (hS : SS Z wREFUSED wPUBLISHED wCS) (pa1 : Addr) (pa2 : Addr) (h0 : Heap) (n0 : Nat) (O0 : Old Z n0 h0)  :
    MetB l M3 jdk_31_method_11_code 2 (some (.object s5n)) ws (rmk 0 0 0 0) Z h0 #[(.ref pa1), (.ref pa2)] (Q_au6_0 Z wREFUSED wPUBLISHED wCS pa1 pa2 h0 n0) := by
  refine own_body (plainFor_of_name pn_java_util_Objects) ?_
  intro p e s m below meth c s₁ hx hby hml hown hnm hret0 hlk0 hZ X0 e0
  have N0 := Fr.nil n0
  have pre0 : ∀ t, Steps p.tables e below (s₁.setTop (mkF m 0 #[(vr pa1), (vr pa2)] [])) t → Steps p.tables e below (s₁.setTop (entryFrame m #[(.ref pa1), (.ref pa2)] 2)) t := fun t k => castTop (ef_au6_0 m pa1 pa2) k
  have hS0 := hS
  obtain ⟨S_wREFUSED, E_wREFUSED, S_wPUBLISHED, E_wPUBLISHED, S_wCS, N_wCS⟩ := hS0
  obtain ⟨fs, hr, hrun, hended, hW, hsame⟩ := X0.leave (v := some (.ref pa1)) (fun h => by rw [hret0] at h; cases h)
  refine ⟨_, _, pre0 _ ?_, hrun, hended, _, _, rfl, ?_, ⟨_, rfl⟩, hW, hsame.mono (by decide) (by decide)⟩
  · skip
    show Steps p.tables e below (s₁.setTop (mkF m 0 #[(vr pa1), (vr pa2)] [])) _
    refine XS.aloadN X0.here hx rfl (hb hby d6_0) rfl rfl ?_
    refine XS.ifnonnullYes X0.here hx rfl (pc0 := 1) (pc' := 13) rfl (hb hby d6_1) rfl (by decide) (by decide) ?_
    refine XS.aloadN X0.here hx rfl (hb hby d6_13) rfl rfl ?_
    jvm_step X0.here [X0.here.top, hx, (hb hby d6_14), X0.method', hret0, Value.isRef, FieldType.isReference]
    first | (intro acts; rw [hr _ acts rfl rfl rfl]) | rw [hr _ _ rfl rfl rfl]
    exact Steps.refl _
  · show Q_au6_0 Z wREFUSED wPUBLISHED wCS pa1 pa2 h0 n0 _ s₁.heap _
    rw [e0]
    exact ⟨rfl, N0, rfl⟩
theorem pd_3 : parseMethodDescriptor "(Ljava/lang/Object;Ljava/lang/String;)Ljava/lang/Object;" = some ⟨[(.object "java/lang/Object"), (.object "java/lang/String")], some (.object "java/lang/Object")⟩ := by decide +kernel
theorem d5_13 : decode prog_12_method_3_code 13 = .ok (.checkcast 33, 3) := by decide +kernel
theorem d5_16 : decode prog_12_method_3_code 16 = .ok (.invokespecial 35, 3) := by decide +kernel
theorem ef_au7_0 (m : MethodId) (x0 : Addr) (x1 : Addr) (x2 : Addr)  : entryFrame m #[(.ref x0), (.ref x1), (.ref x2)] 3 = mkF m 0 #[(vr x0), (vr x1), (vr x2)] [] := by first | (simp [entryFrame, mkF, argsToLocals, Value.category]; done) | rfl
theorem d7_0 : decode prog_12_method_1_code 0 = .ok (.aload_n 0, 1) := by decide +kernel
theorem d7_1 : decode prog_12_method_1_code 1 = .ok (.invokespecial 1, 3) := by decide +kernel
theorem d7_4 : decode prog_12_method_1_code 4 = .ok (.aload_n 0, 1) := by decide +kernel
theorem d7_5 : decode prog_12_method_1_code 5 = .ok (.aload_n 1, 1) := by decide +kernel
theorem d7_6 : decode prog_12_method_1_code 6 = .ok (.putfield 7, 3) := by decide +kernel
theorem d7_9 : decode prog_12_method_1_code 9 = .ok (.aload_n 0, 1) := by decide +kernel
theorem d7_10 : decode prog_12_method_1_code 10 = .ok (.aload_n 2, 1) := by decide +kernel
theorem d7_11 : decode prog_12_method_1_code 11 = .ok (.putfield 13, 3) := by decide +kernel
theorem d7_14 : decode prog_12_method_1_code 14 = .ok (.return_, 1) := by decide +kernel
def Q_au7_0 (Z : State) (wREFUSED : Addr) (wPUBLISHED : Addr) (wCS : Int32) (pa1 : Addr) (pa2 : Addr) (h0 : Heap) (n0 : Nat) (v : Option Value) (h : Heap) (L : List Loc) : Prop := v = none ∧ Fr n0 L ∧ Keep h0 h [pa1] ∧ Exa Z h pa1 s3n ∧ Fld Z h pa1 s3n "reason" s6n (.ref pa2) ∧ Fld Z h pa1 s3n "state" s2n (.ref wREFUSED)
theorem au7_0 (l : Launch) (Z : State) (a0 : Array Value) (hw : ∀ d ∈ tables_1, d.before a0 Z = true) (ws : List Jvm.Cond) (wREFUSED : Addr) (wPUBLISHED : Addr) (wCS : Int32) (hS : SS Z wREFUSED wPUBLISHED wCS) (pa1 : Addr) (pa2 : Addr) (h0 : Heap) (n0 : Nat) (O0 : Old Z n0 h0) (P0 : Exa Z h0 pa1 s3n) (P1 : Fld Z h0 pa1 s3n "reason" s6n .null) (P2 : Fld Z h0 pa1 s3n "state" s2n .null) (P4 : n0 ≤ pa1) :
    MetB l M4 prog_12_method_1_code 3 none ws (rmk 1 0 0 12) Z h0 #[(.ref pa1), (.ref wREFUSED), (.ref pa2)] (Q_au7_0 Z wREFUSED wPUBLISHED wCS pa1 pa2 h0 n0) := by
  refine own_body (plainFor_of_name pn_com_example_onceward_onceward_outbox_Publication) ?_
  intro p e s m below meth c s₁ hx hby hml hown hnm hret0 hlk0 hZ X0 e0
  have N0 := Fr.nil n0
  have pre0 : ∀ t, Steps p.tables e below (s₁.setTop (mkF m 0 #[(vr pa1), (vr wREFUSED), (vr pa2)] [])) t → Steps p.tables e below (s₁.setTop (entryFrame m #[(.ref pa1), (.ref wREFUSED), (.ref pa2)] 3)) t := fun t k => castTop (ef_au7_0 m pa1 wREFUSED pa2) k
  have K0 := Keep.refl h0 [pa1]
  have hS0 := hS
  obtain ⟨S_wREFUSED, E_wREFUSED, S_wPUBLISHED, E_wPUBLISHED, S_wCS, N_wCS⟩ := hS0
  obtain ⟨T1, X1, e1, st1⟩ := initO X0 hx hZ hown (ow hw 44 rfl) (ow hw 16 rfl) (ow hw 17 rfl) e0 (g := (mkF m 1 #[(vr pa1), (vr wREFUSED), (vr pa2)] [(.ref pa1)])) rfl (by rw [hml]; rfl) rfl (hb hby d7_1) (by decide) (W := 0) (by show 2 * 0 + _ ≤ _; exact Nat.le_of_eq rfl) (by decide)
  obtain ⟨T2, h2, X2, e2, W2, st2⟩ := putF X1 hx hZ hown (host := "") (Or.inl (ow hw 45 rfl)) Via.refl e1 P2 P0 (Or.inr ⟨(ow hw 46 rfl), rfl, hnm⟩) (ow hw 31 rfl) (ty := (.object s1n)) (by decide) rfl rfl (g := (mkF m 6 #[(vr pa1), (vr wREFUSED), (vr pa2)] [(.ref wREFUSED), (.ref pa1)])) rfl rfl (hb hby d7_6)
  have N2 := Fr.snoc X2 N0 P4
  have O3 : Old Z n0 h2 := O0.wr W2 P4
  have K3 : Keep h0 h2 [pa1] := K0.wr W2 (Or.inl (List.mem_of_getElem? (i := 0) rfl))
  have Fw2 : Fld Z h2 pa1 s3n "state" s2n (.ref wREFUSED) := P2.same W2
  have f4 : Exa Z h2 pa1 s3n := (P0.wr W2)
  have f5 : Fld Z h2 pa1 s3n "reason" s6n .null := (P1.other W2 (Or.inr (slot_ne (Or.inr (ow hw 48 rfl)) (Or.inr (ow hw 46 rfl)) (by decide) (t := (.object s0n)) (t' := (.object s1n)) (by decide) (by decide))))
  obtain ⟨T6, h6, X6, e6, W6, st6⟩ := putF X2 hx hZ hown (host := "") (Or.inl (ow hw 47 rfl)) Via.refl e2 f5 f4 (Or.inr ⟨(ow hw 48 rfl), rfl, hnm⟩) (ow hw 31 rfl) (ty := (.object s0n)) (by decide) rfl rfl (g := (mkF m 11 #[(vr pa1), (vr wREFUSED), (vr pa2)] [(.ref pa2), (.ref pa1)])) rfl rfl (hb hby d7_11)
  have N6 := Fr.snoc X6 N2 P4
  have O7 : Old Z n0 h6 := O3.wr W6 P4
  have K7 : Keep h0 h6 [pa1] := K3.wr W6 (Or.inl (List.mem_of_getElem? (i := 0) rfl))
  have Fw6 : Fld Z h6 pa1 s3n "reason" s6n (.ref pa2) := f5.same W6
  have f8 : Exa Z h6 pa1 s3n := (f4.wr W6)
  have f9 : Fld Z h6 pa1 s3n "state" s2n (.ref wREFUSED) := (Fw2.other W6 (Or.inr (slot_ne (Or.inr (ow hw 46 rfl)) (Or.inr (ow hw 48 rfl)) (by decide) (t := (.object s1n)) (t' := (.object s0n)) (by decide) (by decide))))
  obtain ⟨fs, hr, hrun, hended, hW, hsame⟩ := X6.leave (v := none) (fun _ => rfl)
  refine ⟨_, _, pre0 _ ?_, hrun, hended, _, _, rfl, ?_, ⟨_, rfl⟩, hW, hsame.mono (by decide) (by decide)⟩
  · skip
    show Steps p.tables e below (s₁.setTop (mkF m 0 #[(vr pa1), (vr wREFUSED), (vr pa2)] [])) _
    refine XS.aloadN X0.here hx rfl (hb hby d7_0) rfl rfl ?_
    refine st1 _ ?_
    refine XS.aloadN X1.here hx rfl (hb hby d7_4) rfl rfl ?_
    refine XS.aloadN X1.here hx rfl (hb hby d7_5) rfl rfl ?_
    refine st2 _ ?_
    refine XS.aloadN X2.here hx rfl (hb hby d7_9) rfl rfl ?_
    refine XS.aloadN X2.here hx rfl (hb hby d7_10) rfl rfl ?_
    refine st6 _ ?_
    show Steps p.tables e below (T6.setTop (mkF m 14 #[(vr pa1), (vr wREFUSED), (vr pa2)] [])) _
    exact X6.returnOut hx hret0 (hb hby d7_14) hr
  · show Q_au7_0 Z wREFUSED wPUBLISHED wCS pa1 pa2 h0 n0 _ T6.heap _
    rw [e6]
    exact ⟨rfl, N6, K7, f8, Fw6, f9⟩
theorem pd_4 : parseMethodDescriptor "(Lcom/example/onceward/onceward/outbox/Publication$State;Ljava/lang/String;)V" = some ⟨[(.object "com/example/onceward/onceward/outbox/Publication$State"), (.object "java/lang/String")], none⟩ := by decide +kernel
theorem d5_19 : decode prog_12_method_3_code 19 = .ok (.areturn, 1) := by decide +kernel
def Q_au5_0 (Z : State) (wREFUSED : Addr) (wPUBLISHED : Addr) (wCS : Int32) (pa1 : Addr) (h0 : Heap) (n0 : Nat) (v : Option Value) (h : Heap) (L : List Loc) : Prop := ∃ (e1 : Addr), v = some (.ref e1) ∧ Fr n0 L ∧ Keep h0 h [] ∧ h0.size ≤ e1 ∧ Exa Z h e1 s3n ∧ Fld Z h e1 s3n "reason" s6n (.ref pa1) ∧ Fld Z h e1 s3n "state" s2n (.ref wREFUSED)
theorem au5_0 (l : Launch) (Z : State) (a0 : Array Value) (hw : ∀ d ∈ tables_1, d.before a0 Z = true) (ws : List Jvm.Cond) (wREFUSED : Addr) (wPUBLISHED : Addr) (wCS : Int32) (hS : SS Z wREFUSED wPUBLISHED wCS) (pa1 : Addr) (h0 : Heap) (n0 : Nat) (O0 : Old Z n0 h0) (P0 : Exa Z h0 pa1 s0n) :
    MetBW l M5 prog_12_method_3_code 1 (some (.object s3n)) ws (rmk 2 3 30 27) Z h0 #[(.ref pa1)] (Q_au5_0 Z wREFUSED wPUBLISHED wCS pa1 h0 n0) := by
  refine own_bodyW (plainFor_of_name pn_com_example_onceward_onceward_outbox_Publication) ?_
  intro p e s m below meth c s₁ hx hby hml hown hnm hret0 hlk0 hZ X0 e0 hS1
  have N0 := Fr.nil n0
  have pre0 : ∀ t, Steps p.tables e below (s₁.setTop (mkF m 0 #[(vr pa1)] [])) t → Steps p.tables e below (s₁.setTop (entryFrame m #[(.ref pa1)] 1)) t := fun t k => castTop (ef_au5_0 m pa1) k
  have K0 := Keep.refl h0 []
  have hS0 := hS
  obtain ⟨S_wREFUSED, E_wREFUSED, S_wPUBLISHED, E_wPUBLISHED, S_wCS, N_wCS⟩ := hS0
  obtain ⟨T1, h1, X1, e1, E1, A1, D1, -, st1⟩ := newO X0 hx hZ hown (ow hw 30 rfl) (ow hw 31 rfl) (ow hw 28 rfl) e0 (g := (mkF m 0 #[(vr pa1)] [])) rfl (hb hby d5_0) (by decide) (by decide)
  obtain ⟨b1, g1⟩ : ∃ z, z = h0.size := ⟨_, rfl⟩
  rw [← g1] at A1 D1 st1
  have ne2 : pa1 ≠ b1 := Nat.ne_of_lt (Nat.lt_of_lt_of_le P0.lt (Nat.le_of_eq g1.symm))
  have g3 : n0 ≤ b1 := Nat.le_trans (own_sz O0) (Nat.le_of_eq g1.symm)
  have sz4 : h0.size ≤ b1 := Nat.le_trans K0.1 (Nat.le_of_eq g1.symm)
  have O5 : Old Z n0 h1 := O0.ext E1
  have K5 : Keep h0 h1 [] := K0.ext E1
  have f6 : Fld Z h1 b1 s3n "state" s2n .null := D1 (Or.inr (ow hw 46 rfl)) (ty := (.object s1n)) (by decide)
  have f7 : Fld Z h1 b1 s3n "reason" s6n .null := D1 (Or.inr (ow hw 48 rfl)) (ty := (.object s0n)) (by decide)
  obtain ⟨T8, X8, e8, st8⟩ := getS2 X1 hx hZ hown (host := "") (Or.inl (ow hw 32 rfl)) Via.refl e1 (S_wREFUSED.ext O5.2) (g := (mkF m 4 #[(vr pa1)] [(.ref b1), (.ref b1)])) rfl (hb hby d5_4)
  have pre9 : ∀ t, Steps p.tables e below (T8.setTop (mkF m 8 #[(vr pa1)] [(.ref pa1), (.ref wREFUSED), (.ref b1), (.ref b1)])) t → Steps p.tables e below (s₁.setTop (entryFrame m #[(.ref pa1)] 1)) t := by
    intro t k
    refine pre0 t ?_
    show Steps p.tables e below (s₁.setTop (mkF m 0 #[(vr pa1)] [])) _
    refine st1 _ ?_
    refine XS.dup X1.here hx rfl (hb hby d5_3) rfl rfl ?_
    refine st8 _ ?_
    refine XS.aloadN X8.here hx rfl (hb hby d5_7) rfl rfl ?_
    exact k
  have hk11 : _ ≤ h1.size := (Nat.le_trans (Nat.le_refl _) E1.1)
  obtain ⟨b10, T10, h10, kk10, X10, e10, E10, hS10, hk10, hZ, hown, st10⟩ := ldcS X8 hx hZ hown (ow hw 35 rfl) (own_wS hw) e8 hS1 hk11 (g := (mkF m 8 #[(vr pa1)] [(.ref pa1), (.ref wREFUSED), (.ref b1), (.ref b1)])) rfl (hb hby d5_8) (n := 24) (by decide) (by decide) (by decide) (by decide)
  have O12 : Old Z n0 h10 := O5.ext E10
  have K12 : Keep h0 h10 [] := K5.ext E10
  obtain ⟨_, _, ⟨T13, L13, k13, n13⟩, -, X13, ⟨Lc13, hQ13, l13, y13, z13⟩, st13⟩ := Jvm.LawKit.callS X10 hx (y := M3) hown (mvT hZ (ow hw 36 rfl)) (mvT hZ (ow hw 37 rfl)) (mvT hZ (ow hw 38 rfl)) (mvT hZ (ow hw 39 rfl)) (by decide) (backOf (W := 3) (au6_0 l Z a0 hw [] wREFUSED wPUBLISHED wCS hS pa1 b10 h10 n0 O12 ) hZ (ow hw 39 rfl) (ow hw 38 rfl) (by decide) (by decide)) (g := (mkF m 10 #[(vr pa1)] [(.ref b10), (.ref pa1), (.ref wREFUSED), (.ref b1), (.ref b1)])) rfl (by rw [hml]; rfl) (argsL := [(.ref pa1), (.ref b10)]) (rest := [(.ref wREFUSED), (.ref b1), (.ref b1)]) (lenOf pd_3 rfl) rfl (by show 2 * 0 + _ ≤ _; exact Nat.le_of_eq rfl) (hb hby d5_10) (fun _ _ => ⟨rfl, e10, (by decide : 3 + 0 ≤ _), (by decide : 30 + 0 ≤ _)⟩)
  dsimp only [Pt.U, Pt.locs, Pt.cells, Pt.slots] at X13 l13 y13 z13 st13 hQ13
  subst y13 z13
  obtain ⟨rfl, Nq13, K13q⟩ := hQ13
  have N13 : Fr n0 L13 := (congrArg (Fr n0) l13).mpr (Fr.app N0 Nq13)
  have f14 : Exa Z h10 pa1 s0n := ((P0.ext E1).ext E10)
  obtain ⟨T15, X15, e15, st15⟩ := castY X13 hx hZ hown (ow hw 40 rfl) K13q (Ins.self f14) (g := (mkF m 13 #[(vr pa1)] [(.ref pa1), (.ref wREFUSED), (.ref b1), (.ref b1)])) rfl rfl (hb hby d5_13)
  have f16 : Exa Z h10 b1 s3n := (A1.ext E10)
  have f17 : Fld Z h10 b1 s3n "reason" s6n .null := (f7.ext E10)
  have f18 : Fld Z h10 b1 s3n "state" s2n .null := (f6.ext E10)
  obtain ⟨_, _, ⟨T19, L19, k19, n19⟩, -, X19, ⟨Lc19, hQ19, l19, y19, z19⟩, st19⟩ := X15.specialBack hx (y := M4) rfl hown (mvT hZ (ow hw 41 rfl)) (mvT hZ (ow hw 42 rfl)) (mvT hZ (ow hw 43 rfl)) (by decide) (backOf (W := 1) (au7_0 l Z a0 hw [] wREFUSED wPUBLISHED wCS hS b1 pa1 h10 n0 O12 f16 f17 f18 g3) hZ (ow hw 43 rfl) (ow hw 28 rfl) (by decide) (by decide)) (g := (mkF m 16 #[(vr pa1)] [(.ref pa1), (.ref wREFUSED), (.ref b1), (.ref b1)])) rfl (by rw [hml]; rfl) (Steps.refl _) (a := b1) (argsL := [(.ref wREFUSED), (.ref pa1)]) (rest := [(.ref b1)]) (lenOf pd_4 rfl) rfl (by show 2 * 0 + _ ≤ _; exact Nat.le_of_eq rfl) (hb hby d5_16) (fun _ _ => ⟨rfl, e15, (by decide : 3 + 0 ≤ _), (by decide : 30 + 0 ≤ _)⟩)
  dsimp only [Pt.U, Pt.locs, Pt.cells, Pt.slots] at X19 l19 y19 z19 st19 hQ19
  subst y19 z19
  obtain ⟨rfl, Nq19, K19q, p19_0, p19_1, p19_2⟩ := hQ19
  have N19 : Fr n0 L19 := (congrArg (Fr n0) l19).mpr (Fr.app N13 Nq19)
  have O20 : Old Z n0 T19.heap := O12.keep K19q (allS g3 all0)
  have K20 : Keep h0 T19.heap [] := K12.trans K19q (allS (Or.inr sz4) all0)
  have hk21 : _ ≤ T19.heap.size := (Nat.le_trans hk10 K19q.1)
  obtain ⟨fs, hr, hrun, hended, hRW⟩ := X19.leaveW hS10 hk21 (v := some (.ref b1)) (fun h => by rw [hret0] at h; cases h)
  refine ⟨_, _, pre9 _ ?_, hrun, hended, _, _, rfl, ?_, hRW.1, hRW.2.1, hRW.2.2.1, hRW.2.2.2.mono (by decide) (by decide)⟩
  · skip
    refine st10 _ ?_
    refine st13 _ ?_
    refine st15 _ ?_
    refine st19.trans ?_
    show Steps p.tables e below (T19.setTop (mkF m 19 #[(vr pa1)] [(.ref b1)])) _
    jvm_step X19.here [X19.here.top, hx, (hb hby d5_19), X19.method', hret0, Value.isRef, FieldType.isReference]
    first | (intro acts; rw [hr _ acts rfl rfl rfl]) | rw [hr _ _ rfl rfl rfl]
    exact Steps.refl _
  · show Q_au5_0 Z wREFUSED wPUBLISHED wCS pa1 h0 n0 _ T19.heap _
    exact ⟨b1, rfl, N19, K20, sz4, p19_0, p19_1, p19_2⟩
theorem pd_5 : parseMethodDescriptor "(Ljava/lang/String;)Lcom/example/onceward/onceward/outbox/Publication;" = some ⟨[(.object "java/lang/String")], some (.object "com/example/onceward/onceward/outbox/Publication")⟩ := by decide +kernel
theorem ef_au8_0 (m : MethodId)   : entryFrame m #[] 0 = mkF m 0 #[] [] := by first | (simp [entryFrame, mkF, argsToLocals, Value.category]; done) | rfl
theorem d8_0 : decode prog_12_method_2_code 0 = .ok (.getstatic 17, 3) := by decide +kernel
theorem d8_3 : decode prog_12_method_2_code 3 = .ok (.areturn, 1) := by decide +kernel
def Q_au8_0 (Z : State) (wREFUSED : Addr) (wPUBLISHED : Addr) (wCS : Int32)  (h0 : Heap) (n0 : Nat) (v : Option Value) (h : Heap) (L : List Loc) : Prop := v = some (.ref wPUBLISHED) ∧ Fr n0 L ∧ h = h0
theorem au8_0 (l : Launch) (Z : State) (a0 : Array Value) (hw : ∀ d ∈ tables_1, d.before a0 Z = true) (ws : List Jvm.Cond) (wREFUSED : Addr) (wPUBLISHED : Addr) (wCS : Int32) (hS : SS Z wREFUSED wPUBLISHED wCS)  (h0 : Heap) (n0 : Nat) (O0 : Old Z n0 h0)  :
    MetB l M6 prog_12_method_2_code 0 (some (.object s3n)) ws (rmk 0 0 0 0) Z h0 #[] (Q_au8_0 Z wREFUSED wPUBLISHED wCS  h0 n0) := by
  refine own_body (plainFor_of_name pn_com_example_onceward_onceward_outbox_Publication) ?_
  intro p e s m below meth c s₁ hx hby hml hown hnm hret0 hlk0 hZ X0 e0
  have N0 := Fr.nil n0
  have pre0 : ∀ t, Steps p.tables e below (s₁.setTop (mkF m 0 #[] [])) t → Steps p.tables e below (s₁.setTop (entryFrame m #[] 0)) t := fun t k => castTop (ef_au8_0 m ) k
  have hS0 := hS
  obtain ⟨S_wREFUSED, E_wREFUSED, S_wPUBLISHED, E_wPUBLISHED, S_wCS, N_wCS⟩ := hS0
  obtain ⟨T1, X1, e1, st1⟩ := getS2 X0 hx hZ hown (host := "") (Or.inl (ow hw 52 rfl)) Via.refl e0 (S_wPUBLISHED.ext O0.2) (g := (mkF m 0 #[] [])) rfl (hb hby d8_0)
  obtain ⟨fs, hr, hrun, hended, hW, hsame⟩ := X1.leave (v := some (.ref wPUBLISHED)) (fun h => by rw [hret0] at h; cases h)
  refine ⟨_, _, pre0 _ ?_, hrun, hended, _, _, rfl, ?_, ⟨_, rfl⟩, hW, hsame.mono (by decide) (by decide)⟩
  · skip
    show Steps p.tables e below (s₁.setTop (mkF m 0 #[] [])) _
    refine st1 _ ?_
    jvm_step X1.here [X1.here.top, hx, (hb hby d8_3), X1.method', hret0, Value.isRef, FieldType.isReference]
    first | (intro acts; rw [hr _ acts rfl rfl rfl]) | rw [hr _ _ rfl rfl rfl]
    exact Steps.refl _
  · show Q_au8_0 Z wREFUSED wPUBLISHED wCS  h0 n0 _ T1.heap _
    rw [e1]
    exact ⟨rfl, N0, rfl⟩
theorem pd_6 : parseMethodDescriptor "()Lcom/example/onceward/onceward/outbox/Publication;" = some ⟨[], some (.object "com/example/onceward/onceward/outbox/Publication")⟩ := by decide +kernel
theorem ef_au9_0 (m : MethodId) (x0 : Addr)  : entryFrame m #[(.ref x0)] 1 = mkF m 0 #[(vr x0)] [] := by first | (simp [entryFrame, mkF, argsToLocals, Value.category]; done) | rfl
theorem d9_0 : decode prog_12_method_5_code 0 = .ok (.aload_n 0, 1) := by decide +kernel
theorem d9_1 : decode prog_12_method_5_code 1 = .ok (.getfield 7, 3) := by decide +kernel
theorem d9_4 : decode prog_12_method_5_code 4 = .ok (.areturn, 1) := by decide +kernel
def Q_au9_0 (Z : State) (wREFUSED : Addr) (wPUBLISHED : Addr) (wCS : Int32) (pa1 : Addr) (h0 : Heap) (n0 : Nat) (v : Option Value) (h : Heap) (L : List Loc) : Prop := v = some (.ref wREFUSED) ∧ Fr n0 L ∧ h = h0
theorem au9_0 (l : Launch) (Z : State) (a0 : Array Value) (hw : ∀ d ∈ tables_1, d.before a0 Z = true) (ws : List Jvm.Cond) (wREFUSED : Addr) (wPUBLISHED : Addr) (wCS : Int32) (hS : SS Z wREFUSED wPUBLISHED wCS) (pa1 : Addr) (h0 : Heap) (n0 : Nat) (O0 : Old Z n0 h0) (P2 : Fld Z h0 pa1 s3n "state" s2n (.ref wREFUSED)) :
    MetB l M7 prog_12_method_5_code 1 (some (.object s1n)) ws (rmk 0 0 0 0) Z h0 #[(.ref pa1)] (Q_au9_0 Z wREFUSED wPUBLISHED wCS pa1 h0 n0) := by
  refine own_body (plainFor_of_name pn_com_example_onceward_onceward_outbox_Publication) ?_
  intro p e s m below meth c s₁ hx hby hml hown hnm hret0 hlk0 hZ X0 e0
  have N0 := Fr.nil n0
  have pre0 : ∀ t, Steps p.tables e below (s₁.setTop (mkF m 0 #[(vr pa1)] [])) t → Steps p.tables e below (s₁.setTop (entryFrame m #[(.ref pa1)] 1)) t := fun t k => castTop (ef_au9_0 m pa1) k
  have hS0 := hS
  obtain ⟨S_wREFUSED, E_wREFUSED, S_wPUBLISHED, E_wPUBLISHED, S_wCS, N_wCS⟩ := hS0
  obtain ⟨T1, X1, e1, st1⟩ := getF X0 hx hZ hown (host := "") (Or.inl (ow hw 45 rfl)) Via.refl e0 P2 (g := (mkF m 1 #[(vr pa1)] [(.ref pa1)])) rfl rfl (hb hby d9_1)
  obtain ⟨fs, hr, hrun, hended, hW, hsame⟩ := X1.leave (v := some (.ref wREFUSED)) (fun h => by rw [hret0] at h; cases h)
  refine ⟨_, _, pre0 _ ?_, hrun, hended, _, _, rfl, ?_, ⟨_, rfl⟩, hW, hsame.mono (by decide) (by decide)⟩
  · skip
    show Steps p.tables e below (s₁.setTop (mkF m 0 #[(vr pa1)] [])) _
    refine XS.aloadN X0.here hx rfl (hb hby d9_0) rfl rfl ?_
    refine st1 _ ?_
    jvm_step X1.here [X1.here.top, hx, (hb hby d9_4), X1.method', hret0, Value.isRef, FieldType.isReference]
    first | (intro acts; rw [hr _ acts rfl rfl rfl]) | rw [hr _ _ rfl rfl rfl]
    exact Steps.refl _
  · show Q_au9_0 Z wREFUSED wPUBLISHED wCS pa1 h0 n0 _ T1.heap _
    rw [e1]
    exact ⟨rfl, N0, rfl⟩
theorem pd_7 : parseMethodDescriptor "()Lcom/example/onceward/onceward/outbox/Publication$State;" = some ⟨[], some (.object "com/example/onceward/onceward/outbox/Publication$State")⟩ := by decide +kernel
theorem ef_au10_0 (m : MethodId) (x0 : Addr)  : entryFrame m #[(.ref x0)] 1 = mkF m 0 #[(vr x0)] [] := by first | (simp [entryFrame, mkF, argsToLocals, Value.category]; done) | rfl
theorem d10_0 : decode prog_12_method_6_code 0 = .ok (.aload_n 0, 1) := by decide +kernel
theorem d10_1 : decode prog_12_method_6_code 1 = .ok (.getfield 13, 3) := by decide +kernel
theorem d10_4 : decode prog_12_method_6_code 4 = .ok (.areturn, 1) := by decide +kernel
def Q_au10_0 (Z : State) (wREFUSED : Addr) (wPUBLISHED : Addr) (wCS : Int32) (pa1 : Addr) (pa2 : Addr) (h0 : Heap) (n0 : Nat) (v : Option Value) (h : Heap) (L : List Loc) : Prop := v = some (.ref pa2) ∧ Fr n0 L ∧ h = h0
theorem au10_0 (l : Launch) (Z : State) (a0 : Array Value) (hw : ∀ d ∈ tables_1, d.before a0 Z = true) (ws : List Jvm.Cond) (wREFUSED : Addr) (wPUBLISHED : Addr) (wCS : Int32) (hS : SS Z wREFUSED wPUBLISHED wCS) (pa1 : Addr) (pa2 : Addr) (h0 : Heap) (n0 : Nat) (O0 : Old Z n0 h0) (P1 : Fld Z h0 pa1 s3n "reason" s6n (.ref pa2)) :
    MetB l M8 prog_12_method_6_code 1 (some (.object s0n)) ws (rmk 0 0 0 0) Z h0 #[(.ref pa1)] (Q_au10_0 Z wREFUSED wPUBLISHED wCS pa1 pa2 h0 n0) := by
  refine own_body (plainFor_of_name pn_com_example_onceward_onceward_outbox_Publication) ?_
  intro p e s m below meth c s₁ hx hby hml hown hnm hret0 hlk0 hZ X0 e0
  have N0 := Fr.nil n0
  have pre0 : ∀ t, Steps p.tables e below (s₁.setTop (mkF m 0 #[(vr pa1)] [])) t → Steps p.tables e below (s₁.setTop (entryFrame m #[(.ref pa1)] 1)) t := fun t k => castTop (ef_au10_0 m pa1) k
  have hS0 := hS
  obtain ⟨S_wREFUSED, E_wREFUSED, S_wPUBLISHED, E_wPUBLISHED, S_wCS, N_wCS⟩ := hS0
  obtain ⟨T1, X1, e1, st1⟩ := getF X0 hx hZ hown (host := "") (Or.inl (ow hw 47 rfl)) Via.refl e0 P1 (g := (mkF m 1 #[(vr pa1)] [(.ref pa1)])) rfl rfl (hb hby d10_1)
  obtain ⟨fs, hr, hrun, hended, hW, hsame⟩ := X1.leave (v := some (.ref pa2)) (fun h => by rw [hret0] at h; cases h)
  refine ⟨_, _, pre0 _ ?_, hrun, hended, _, _, rfl, ?_, ⟨_, rfl⟩, hW, hsame.mono (by decide) (by decide)⟩
  · skip
    show Steps p.tables e below (s₁.setTop (mkF m 0 #[(vr pa1)] [])) _
    refine XS.aloadN X0.here hx rfl (hb hby d10_0) rfl rfl ?_
    refine st1 _ ?_
    jvm_step X1.here [X1.here.top, hx, (hb hby d10_4), X1.method', hret0, Value.isRef, FieldType.isReference]
    first | (intro acts; rw [hr _ acts rfl rfl rfl]) | rw [hr _ _ rfl rfl rfl]
    exact Steps.refl _
  · show Q_au10_0 Z wREFUSED wPUBLISHED wCS pa1 pa2 h0 n0 _ T1.heap _
    rw [e1]
    exact ⟨rfl, N0, rfl⟩
theorem pd_8 : parseMethodDescriptor "()Ljava/lang/String;" = some ⟨[], some (.object "java/lang/String")⟩ := by decide +kernel
theorem ef_au11_0 (m : MethodId) (x0 : Addr) (x1 : Addr)  : entryFrame m #[(.ref x0), (.ref x1)] 3 = mkF m 0 #[(vr x0), (vr x1), .unset] [] := by first | (simp [entryFrame, mkF, argsToLocals, Value.category]; done) | rfl
theorem d11_0 : decode jdk_42_method_66_code 0 = .ok (.aload_n 0, 1) := by decide +kernel
theorem d11_1 : decode jdk_42_method_66_code 1 = .ok (.aload_n 1, 1) := by decide +kernel
theorem d11_2 : decode jdk_42_method_66_code 2 = .ok (.if_acmp .ne 5, 3) := by decide +kernel
theorem d11_5 : decode jdk_42_method_66_code 5 = .ok (.iconst 1, 1) := by decide +kernel
theorem d11_6 : decode jdk_42_method_66_code 6 = .ok (.ireturn, 1) := by decide +kernel
def Q_au11_0 (Z : State) (wREFUSED : Addr) (wPUBLISHED : Addr) (wCS : Int32) (pa1 : Addr) (h0 : Heap) (n0 : Nat) (v : Option Value) (h : Heap) (L : List Loc) : Prop := v = some (.int 1) ∧ Fr n0 L ∧ h = h0
theorem au11_0 (l : Launch) (Z : State) (a0 : Array Value) (hw : ∀ d ∈ tables_1, d.before a0 Z = true) (ws : List Jvm.Cond) (wREFUSED : Addr) (wPUBLISHED : Addr) (wCS : Int32) (hS : SS Z wREFUSED wPUBLISHED wCS) (pa1 : Addr) (h0 : Heap) (n0 : Nat) (O0 : Old Z n0 h0)  :
    MetB l M9 jdk_42_method_66_code 3 (some .boolean) ws (rmk 0 0 0 0) Z h0 #[(.ref pa1), (.ref pa1)] (Q_au11_0 Z wREFUSED wPUBLISHED wCS pa1 h0 n0) := by
  refine own_body (plainFor_of_name pn_java_lang_String) ?_
  intro p e s m below meth c s₁ hx hby hml hown hnm hret0 hlk0 hZ X0 e0
  have N0 := Fr.nil n0
  have pre0 : ∀ t, Steps p.tables e below (s₁.setTop (mkF m 0 #[(vr pa1), (vr pa1), .unset] [])) t → Steps p.tables e below (s₁.setTop (entryFrame m #[(.ref pa1), (.ref pa1)] 3)) t := fun t k => castTop (ef_au11_0 m pa1 pa1) k
  have hS0 := hS
  obtain ⟨S_wREFUSED, E_wREFUSED, S_wPUBLISHED, E_wPUBLISHED, S_wCS, N_wCS⟩ := hS0
  obtain ⟨fs, hr, hrun, hended, hW, hsame⟩ := X0.leave (v := some (.int 1)) (fun h => by rw [hret0] at h; cases h)
  refine ⟨_, _, pre0 _ ?_, hrun, hended, _, _, rfl, ?_, ⟨_, rfl⟩, hW, hsame.mono (by decide) (by decide)⟩
  · skip
    show Steps p.tables e below (s₁.setTop (mkF m 0 #[(vr pa1), (vr pa1), .unset] [])) _
    refine XS.aloadN X0.here hx rfl (hb hby d11_0) rfl rfl ?_
    refine XS.aloadN X0.here hx rfl (hb hby d11_1) rfl rfl ?_
    refine Jvm.RoadKit.acmp (g := (mkF m 2 #[(vr pa1), (vr pa1), .unset] [(.ref pa1), (.ref pa1)])) X0 hx rfl rfl rfl (pc0 := 2) (pc' := 5) (same := true) rfl (hb hby d11_2) rfl (decide_eq_true rfl) (by decide) (by decide) ?_
    refine XS.iconst X0.here hx rfl (hb hby d11_5) ?_
    exact retN X0 hx (t := .boolean) hret0 (by simp) (hb hby d11_6) hr
  · show Q_au11_0 Z wREFUSED wPUBLISHED wCS pa1 h0 n0 _ s₁.heap _
    rw [e0]
    exact ⟨rfl, N0, rfl⟩
theorem pd_9 : parseMethodDescriptor "(Ljava/lang/Object;)Z" = some ⟨[(.object "java/lang/Object")], some .boolean⟩ := by decide +kernel
theorem ef_au1_1 (m : MethodId) (x0 : Int32) (x1 : Int32) (x2 : Int32) (x3 : Int32)  : entryFrame m #[(.int x0), (.int x1), (.int x2), (.int x3)] 8 = mkF m 0 #[(vi x0), (vi x1), (vi x2), (vi x3), .unset, .unset, .unset, .unset] [] := by first | (simp [entryFrame, mkF, argsToLocals, Value.category]; done) | rfl
theorem d1_39 : decode method_2_code 39 = .ok (.iload_n 0, 1) := by decide +kernel
theorem d1_40 : decode method_2_code 40 = .ok (.iconst 1, 1) := by decide +kernel
theorem d1_41 : decode method_2_code 41 = .ok (.if_icmp .ne 24, 3) := by decide +kernel
theorem d1_44 : decode method_2_code 44 = .ok (.iconst 1, 1) := by decide +kernel
theorem d1_45 : decode method_2_code 45 = .ok (.newarray .char, 2) := by decide +kernel
theorem d1_47 : decode method_2_code 47 = .ok (.astore 7, 2) := by decide +kernel
theorem d1_49 : decode method_2_code 49 = .ok (.aload 7, 2) := by decide +kernel
theorem d1_51 : decode method_2_code 51 = .ok (.iconst 0, 1) := by decide +kernel
theorem d1_52 : decode method_2_code 52 = .ok (.iload 4, 2) := by decide +kernel
theorem d1_54 : decode method_2_code 54 = .ok (.castore, 1) := by decide +kernel
theorem d1_55 : decode method_2_code 55 = .ok (.new 7, 3) := by decide +kernel
theorem d1_58 : decode method_2_code 58 = .ok (.dup, 1) := by decide +kernel
theorem d1_59 : decode method_2_code 59 = .ok (.aload 7, 2) := by decide +kernel
theorem d1_61 : decode method_2_code 61 = .ok (.invokespecial 9, 3) := by decide +kernel
theorem ef_au2_1 (m : MethodId) (x0 : Addr) (x1 : Addr)  : entryFrame m #[(.ref x0), (.ref x1)] 2 = mkF m 0 #[(vr x0), (vr x1)] [] := by first | (simp [entryFrame, mkF, argsToLocals, Value.category]; done) | rfl
theorem ef_au3_1 (m : MethodId) (x0 : Addr) (x1 : Addr) (x2 : Int32) (x3 : Int32)  : entryFrame m #[(.ref x0), (.ref x1), (.int x2), (.int x3), .null] 6 = mkF m 0 #[(vr x0), (vr x1), (vi x2), (vi x3), .val .null, .unset] [] := by first | (simp [entryFrame, mkF, argsToLocals, Value.category]; done) | rfl
theorem d3_27 : decode jdk_42_method_149_code 27 = .ok (.getstatic 38, 3) := by decide +kernel
theorem d3_30 : decode jdk_42_method_149_code 30 = .ok (.ifCond .eq 28, 3) := by decide +kernel
theorem d3_33 : decode jdk_42_method_149_code 33 = .ok (.aload_n 1, 1) := by decide +kernel
theorem d3_34 : decode jdk_42_method_149_code 34 = .ok (.iload_n 2, 1) := by decide +kernel
theorem d3_35 : decode jdk_42_method_149_code 35 = .ok (.iload_n 3, 1) := by decide +kernel
theorem d3_36 : decode jdk_42_method_149_code 36 = .ok (.invokestatic 177, 3) := by decide +kernel
theorem ef_au12_0 (m : MethodId) (x0 : Addr) (x1 : Int32) (x2 : Int32)  : entryFrame m #[(.ref x0), (.int x1), (.int x2)] 6 = mkF m 0 #[(vr x0), (vi x1), (vi x2), .unset, .unset, .unset] [] := by first | (simp [entryFrame, mkF, argsToLocals, Value.category]; done) | rfl
theorem pn_java_lang_StringUTF16 : plainName "java/lang/StringUTF16" = true := by first | (simp [plainName, overriddenIn]; done) | decide +kernel
theorem d12_0 : decode jdk_52_method_16_code 0 = .ok (.iload_n 2, 1) := by decide +kernel
theorem d12_1 : decode jdk_52_method_16_code 1 = .ok (.newarray .byte, 2) := by decide +kernel
theorem d12_3 : decode jdk_52_method_16_code 3 = .ok (.astore_n 3, 1) := by decide +kernel
theorem d12_4 : decode jdk_52_method_16_code 4 = .ok (.aload_n 0, 1) := by decide +kernel
theorem d12_5 : decode jdk_52_method_16_code 5 = .ok (.iload_n 1, 1) := by decide +kernel
theorem d12_6 : decode jdk_52_method_16_code 6 = .ok (.aload_n 3, 1) := by decide +kernel
theorem d12_7 : decode jdk_52_method_16_code 7 = .ok (.iconst 0, 1) := by decide +kernel
theorem d12_8 : decode jdk_52_method_16_code 8 = .ok (.iload_n 2, 1) := by decide +kernel
theorem d12_9 : decode jdk_52_method_16_code 9 = .ok (.invokestatic 115, 3) := by decide +kernel
theorem ef_au13_0 (m : MethodId) (x0 : Addr) (x1 : Int32) (x2 : Addr) (x3 : Int32) (x4 : Int32)  : entryFrame m #[(.ref x0), (.int x1), (.ref x2), (.int x3), (.int x4)] 7 = mkF m 0 #[(vr x0), (vi x1), (vr x2), (vi x3), (vi x4), .unset, .unset] [] := by first | (simp [entryFrame, mkF, argsToLocals, Value.category]; done) | rfl
theorem d13_0 : decode jdk_52_method_21_code 0 = .ok (.iconst 0, 1) := by decide +kernel
theorem d13_1 : decode jdk_52_method_21_code 1 = .ok (.istore 5, 2) := by decide +kernel
theorem d13_3 : decode jdk_52_method_21_code 3 = .ok (.iload 5, 2) := by decide +kernel
theorem d13_5 : decode jdk_52_method_21_code 5 = .ok (.iload 4, 2) := by decide +kernel
theorem d13_7 : decode jdk_52_method_21_code 7 = .ok (.if_icmp .ge 37, 3) := by decide +kernel
theorem d13_10 : decode jdk_52_method_21_code 10 = .ok (.aload_n 0, 1) := by decide +kernel
theorem d13_11 : decode jdk_52_method_21_code 11 = .ok (.iload_n 1, 1) := by decide +kernel
theorem d13_12 : decode jdk_52_method_21_code 12 = .ok (.caload, 1) := by decide +kernel
theorem d13_13 : decode jdk_52_method_21_code 13 = .ok (.istore 6, 2) := by decide +kernel
theorem d13_15 : decode jdk_52_method_21_code 15 = .ok (.iload 6, 2) := by decide +kernel
theorem d13_17 : decode jdk_52_method_21_code 17 = .ok (.sipush 255, 3) := by decide +kernel
theorem d13_20 : decode jdk_52_method_21_code 20 = .ok (.if_icmp .le 6, 3) := by decide +kernel
theorem d13_26 : decode jdk_52_method_21_code 26 = .ok (.aload_n 2, 1) := by decide +kernel
theorem d13_27 : decode jdk_52_method_21_code 27 = .ok (.iload_n 3, 1) := by decide +kernel
theorem d13_28 : decode jdk_52_method_21_code 28 = .ok (.iload 6, 2) := by decide +kernel
theorem d13_30 : decode jdk_52_method_21_code 30 = .ok (.i2b, 1) := by decide +kernel
theorem d13_31 : decode jdk_52_method_21_code 31 = .ok (.bastore, 1) := by decide +kernel
theorem d13_32 : decode jdk_52_method_21_code 32 = .ok (.iinc 1 1, 3) := by decide +kernel
theorem d13_35 : decode jdk_52_method_21_code 35 = .ok (.iinc 3 1, 3) := by decide +kernel
theorem d13_38 : decode jdk_52_method_21_code 38 = .ok (.iinc 5 1, 3) := by decide +kernel
theorem d13_41 : decode jdk_52_method_21_code 41 = .ok (.goto (-38), 3) := by decide +kernel
theorem d13_44 : decode jdk_52_method_21_code 44 = .ok (.iload 4, 2) := by decide +kernel
theorem d13_46 : decode jdk_52_method_21_code 46 = .ok (.ireturn, 1) := by decide +kernel
def Q_au13_0 (Z : State) (wREFUSED : Addr) (wPUBLISHED : Addr) (wCS : Int32) (pa1 : Addr) (pa2 : Addr) (pk3 : ClassId) (pi4 : Int32) (pk5 : ClassId) (h0 : Heap) (n0 : Nat) (v : Option Value) (h : Heap) (L : List Loc) : Prop := v = some (.int 1) ∧ Fr n0 L ∧ Keep h0 h [pa2] ∧ Exa Z h pa2 "[B" ∧ Arv Z h pa2 pk5 .byte (1 : Int32) ([(.int (nar .byte (pi4.toInt8.toInt32)))]) (.int 0)
theorem au13_0 (l : Launch) (Z : State) (a0 : Array Value) (hw : ∀ d ∈ tables_1, d.before a0 Z = true) (ws : List Jvm.Cond) (wREFUSED : Addr) (wPUBLISHED : Addr) (wCS : Int32) (hS : SS Z wREFUSED wPUBLISHED wCS) (pa1 : Addr) (pa2 : Addr) (pk3 : ClassId) (pi4 : Int32) (pk5 : ClassId) (h0 : Heap) (n0 : Nat) (O0 : Old Z n0 h0) (P0 : Arv Z h0 pa1 pk3 .char (1 : Int32) ([(.int pi4)]) (.int 0)) (P2 : Arv Z h0 pa2 pk5 .byte (1 : Int32) ([(.int 0)]) (.int 0)) (P3 : Exa Z h0 pa2 "[B") (P4 : ¬ (255 : Int32) < pi4) (P6 : n0 ≤ pa2) :
    MetB l M10 jdk_52_method_21_code 7 (some .int) ws (rmk 0 0 0 0) Z h0 #[(.ref pa1), (.int 0), (.ref pa2), (.int 0), (.int 1)] (Q_au13_0 Z wREFUSED wPUBLISHED wCS pa1 pa2 pk3 pi4 pk5 h0 n0) := by
  refine own_body (plainFor_of_name pn_java_lang_StringUTF16) ?_
  intro p e s m below meth c s₁ hx hby hml hown hnm hret0 hlk0 hZ X0 e0
  have N0 := Fr.nil n0
  have pre0 : ∀ t, Steps p.tables e below (s₁.setTop (mkF m 0 #[(vr pa1), (vi 0), (vr pa2), (vi 0), (vi 1), .unset, .unset] [])) t → Steps p.tables e below (s₁.setTop (entryFrame m #[(.ref pa1), (.int 0), (.ref pa2), (.int 0), (.int 1)] 7)) t := fun t k => castTop (ef_au13_0 m pa1 (0 : Int32) pa2 (0 : Int32) (1 : Int32)) k
  have K0 := Keep.refl h0 [pa2]
  have hS0 := hS
  obtain ⟨S_wREFUSED, E_wREFUSED, S_wPUBLISHED, E_wPUBLISHED, S_wCS, N_wCS⟩ := hS0
  obtain ⟨cl1, Ar1, qc1, Sz1, Nn1, Ha1, Gg1⟩ := (id P0)
  have hin1 : ¬ ((0 : Int32) < 0 ∨ cl1.slots.size ≤ ((0 : Int32)).toNatClampNeg) := inb_of Sz1 ⟨by decide, by decide⟩
  have hat1 : cl1.slots[((0 : Int32)).toNatClampNeg]? = some (.int pi4) := Ha1.at hin1 rfl
  obtain ⟨cl2, Ar2, qc2, Sz2, Nn2, Ha2, Gg2⟩ := (id P2)
  have hin2 : ¬ ((0 : Int32) < 0 ∨ cl2.slots.size ≤ ((0 : Int32)).toNatClampNeg) := inb_of Sz2 ⟨by decide, by decide⟩
  obtain ⟨T2, h2, X2, e2, W2, st2⟩ := stB X0 hx hZ e0 Ar2 (j := (0 : Int32)) hin2 (g := (mkF m 31 #[(vr pa1), (vi 0), (vr pa2), (vi 0), (vi 1), (vi 0), (vi pi4)] [(.int (pi4.toInt8.toInt32)), (.int 0), (.ref pa2)])) rfl rfl (hb hby d13_31)
  have O3 : Old Z n0 h2 := O0.wr W2 P6
  have K3 : Keep h0 h2 [pa2] := K0.wr W2 (Or.inl (List.mem_of_getElem? (i := 0) rfl))
  have V2 : Arv Z h2 pa2 pk5 .byte (1 : Int32) ([(.int (nar .byte (pi4.toInt8.toInt32)))]) (.int 0) := (Arv.set Ar2 qc2 Sz2 Nn2 Ha2 Gg2 (v := (.int (nar .byte (pi4.toInt8.toInt32)))) (fits_nar_byte _) W2 0 rfl (Nat.le_of_ble_eq_true rfl))
  have N2 := Fr.snoc X2 N0 P6
  have f4 : Exa Z h2 pa2 "[B" := (P3.wr W2)
  obtain ⟨fs, hr, hrun, hended, hW, hsame⟩ := X2.leave (v := some (.int 1)) (fun h => by rw [hret0] at h; cases h)
  refine ⟨_, _, pre0 _ ?_, hrun, hended, _, _, rfl, ?_, ⟨_, rfl⟩, hW, hsame.mono (by decide) (by decide)⟩
  · skip
    show Steps p.tables e below (s₁.setTop (mkF m 0 #[(vr pa1), (vi 0), (vr pa2), (vi 0), (vi 1), .unset, .unset] [])) _
    refine XS.iconst X0.here hx rfl (hb hby d13_0) ?_
    refine XS.istore X0.here hx rfl (hb hby d13_1) rfl (l' := #[(vr pa1), (vi 0), (vr pa2), (vi 0), (vi 1), (vi 0), .unset]) rfl ?_
    refine XS.iload X0.here hx rfl (hb hby d13_3) rfl ?_
    refine XS.iload X0.here hx rfl (hb hby d13_5) rfl ?_
    refine XS.icmpNo X0.here hx rfl (hb hby d13_7) rfl (tlt (by decide : (0 : Int32) < (1 : Int32))).2.1 ?_
    refine XS.aloadN X0.here hx rfl (hb hby d13_10) rfl rfl ?_
    refine XS.iloadN X0.here hx rfl (hb hby d13_11) rfl ?_
    refine X0.caload hx (j := (0 : Int32)) (v := (.int pi4)) (by rw [e0]; exact Ar1.1) (State.isArrayOf_alike hZ.alike Ar1.2.1) Ar1.2.2 hin1 hat1 (g := (mkF m 12 #[(vr pa1), (vi 0), (vr pa2), (vi 0), (vi 1), (vi 0), .unset] [(.int 0), (.ref pa1)])) rfl rfl (hb hby d13_12) _ ?_
    show Steps p.tables e below (s₁.setTop (mkF m 13 #[(vr pa1), (vi 0), (vr pa2), (vi 0), (vi 1), (vi 0), .unset] [(.int pi4)])) _
    refine XS.istore X0.here hx rfl (hb hby d13_13) rfl (l' := #[(vr pa1), (vi 0), (vr pa2), (vi 0), (vi 1), (vi 0), (vi pi4)]) rfl ?_
    refine XS.iload X0.here hx rfl (hb hby d13_15) rfl ?_
    refine XS.sipush X0.here hx rfl (hb hby d13_17) ?_
    refine XS.icmpYes X0.here hx rfl (pc0 := 20) (pc' := 26) rfl (hb hby d13_20) rfl (flt (P4 : ¬ ((255 : Int32) < pi4))).2.2.2 (by decide) (by decide) ?_
    refine XS.aloadN X0.here hx rfl (hb hby d13_26) rfl rfl ?_
    refine XS.iloadN X0.here hx rfl (hb hby d13_27) rfl ?_
    refine XS.iload X0.here hx rfl (hb hby d13_28) rfl ?_
    refine XS.i2b X0.here hx rfl (hb hby d13_30) rfl ?_
    show Steps p.tables e below (s₁.setTop (mkF m 31 #[(vr pa1), (vi 0), (vr pa2), (vi 0), (vi 1), (vi 0), (vi pi4)] [(.int (pi4.toInt8.toInt32)), (.int 0), (.ref pa2)])) _
    refine st2 _ ?_
    refine XS.iinc X2.here hx rfl (hb hby d13_32) rfl (l' := #[(vr pa1), (vi 1), (vr pa2), (vi 0), (vi 1), (vi 0), (vi pi4)]) rfl ?_
    refine XS.iinc X2.here hx rfl (hb hby d13_35) rfl (l' := #[(vr pa1), (vi 1), (vr pa2), (vi 1), (vi 1), (vi 0), (vi pi4)]) rfl ?_
    refine XS.iinc X2.here hx rfl (hb hby d13_38) rfl (l' := #[(vr pa1), (vi 1), (vr pa2), (vi 1), (vi 1), (vi 1), (vi pi4)]) rfl ?_
    refine XS.goto X2.here hx rfl (pc0 := 41) (pc' := 3) rfl (hb hby d13_41) (by decide) (by decide) ?_
    refine XS.iload X2.here hx rfl (hb hby d13_3) rfl ?_
    refine XS.iload X2.here hx rfl (hb hby d13_5) rfl ?_
    refine XS.icmpYes X2.here hx rfl (pc0 := 7) (pc' := 44) rfl (hb hby d13_7) rfl (flt (by decide : ¬ ((1 : Int32) < (1 : Int32)))).2.1 (by decide) (by decide) ?_
    show Steps p.tables e below (T2.setTop (mkF m 44 #[(vr pa1), (vi 1), (vr pa2), (vi 1), (vi 1), (vi 1), (vi pi4)] [])) _
    refine XS.iload X2.here hx rfl (hb hby d13_44) rfl ?_
    exact retI X2 hx hret0 (hb hby d13_46) hr
  · show Q_au13_0 Z wREFUSED wPUBLISHED wCS pa1 pa2 pk3 pi4 pk5 h0 n0 _ T2.heap _
    rw [e2]
    exact ⟨rfl, N2, K3, f4, V2⟩
theorem pd_10 : parseMethodDescriptor "([CI[BII)I" = some ⟨[(.array .char), .int, (.array .byte), .int, .int], some .int⟩ := by decide +kernel
theorem d12_12 : decode jdk_52_method_16_code 12 = .ok (.istore 4, 2) := by decide +kernel
theorem d12_14 : decode jdk_52_method_16_code 14 = .ok (.iload 4, 2) := by decide +kernel
theorem d12_16 : decode jdk_52_method_16_code 16 = .ok (.iload_n 2, 1) := by decide +kernel
theorem d12_17 : decode jdk_52_method_16_code 17 = .ok (.if_icmp .eq 40, 3) := by decide +kernel
theorem d12_57 : decode jdk_52_method_16_code 57 = .ok (.aload_n 3, 1) := by decide +kernel
theorem d12_58 : decode jdk_52_method_16_code 58 = .ok (.areturn, 1) := by decide +kernel
def Q_au12_0 (Z : State) (wREFUSED : Addr) (wPUBLISHED : Addr) (wCS : Int32) (pa1 : Addr) (pk2 : ClassId) (pi3 : Int32) (h0 : Heap) (n0 : Nat) (v : Option Value) (h : Heap) (L : List Loc) : Prop := ∃ (e1 : Addr) (e2 : ClassId), v = some (.ref e1) ∧ Fr n0 L ∧ Keep h0 h [] ∧ h0.size ≤ e1 ∧ Exa Z h e1 "[B" ∧ Arv Z h e1 e2 .byte (1 : Int32) ([(.int (nar .byte (pi3.toInt8.toInt32)))]) (.int 0)
theorem au12_0 (l : Launch) (Z : State) (a0 : Array Value) (hw : ∀ d ∈ tables_1, d.before a0 Z = true) (ws : List Jvm.Cond) (wREFUSED : Addr) (wPUBLISHED : Addr) (wCS : Int32) (hS : SS Z wREFUSED wPUBLISHED wCS) (pa1 : Addr) (pk2 : ClassId) (pi3 : Int32) (h0 : Heap) (n0 : Nat) (O0 : Old Z n0 h0) (P0 : Arv Z h0 pa1 pk2 .char (1 : Int32) ([(.int pi3)]) (.int 0)) (P2 : ¬ (255 : Int32) < pi3) :
    MetB l M11 jdk_52_method_16_code 6 (some (.array .byte)) ws (rmk 1 1 1 18) Z h0 #[(.ref pa1), (.int 0), (.int 1)] (Q_au12_0 Z wREFUSED wPUBLISHED wCS pa1 pk2 pi3 h0 n0) := by
  refine own_body (plainFor_of_name pn_java_lang_StringUTF16) ?_
  intro p e s m below meth c s₁ hx hby hml hown hnm hret0 hlk0 hZ X0 e0
  have N0 := Fr.nil n0
  have pre0 : ∀ t, Steps p.tables e below (s₁.setTop (mkF m 0 #[(vr pa1), (vi 0), (vi 1), .unset, .unset, .unset] [])) t → Steps p.tables e below (s₁.setTop (entryFrame m #[(.ref pa1), (.int 0), (.int 1)] 6)) t := fun t k => castTop (ef_au12_0 m pa1 (0 : Int32) (1 : Int32)) k
  have K0 := Keep.refl h0 []
  have hS0 := hS
  obtain ⟨S_wREFUSED, E_wREFUSED, S_wPUBLISHED, E_wPUBLISHED, S_wCS, N_wCS⟩ := hS0
  obtain ⟨T1, h1, k1, X1, e1, E1, A1, Z1, st1⟩ := newPE X0 hx hZ (ow hw 19 rfl) e0 (g := (mkF m 1 #[(vr pa1), (vi 0), (vi 1), .unset, .unset, .unset] [(.int 1)])) rfl (hb hby d12_1) rfl (by decide) (cap := 1) (by decide) (by decide) (by decide) (by decide) (ad := "[B") rfl
  obtain ⟨b1, g1⟩ : ∃ z, z = h0.size := ⟨_, rfl⟩
  rw [← g1] at A1 Z1 st1
  have ne2 : pa1 ≠ b1 := Nat.ne_of_lt (Nat.lt_of_lt_of_le P0.lt (Nat.le_of_eq g1.symm))
  have g3 : n0 ≤ b1 := Nat.le_trans (own_sz O0) (Nat.le_of_eq g1.symm)
  have sz4 : h0.size ≤ b1 := Nat.le_trans K0.1 (Nat.le_of_eq g1.symm)
  have O5 : Old Z n0 h1 := O0.ext E1
  have K5 : Keep h0 h1 [] := K0.ext E1
  have V1 : Arv Z h1 b1 k1 .byte (1 : Int32) ([(.int 0)]) (.int 0) := (Arv.new A1 (by decide)).pad (pad_rep [] (.int 0) 1)
  have f6 : Arv Z h1 pa1 pk2 .char (1 : Int32) ([(.int pi3)]) (.int 0) := (P0.ext E1)
  obtain ⟨_, _, ⟨T7, L7, k7, n7⟩, -, X7, ⟨Lc7, hQ7, l7, y7, z7⟩, st7⟩ := Jvm.LawKit.callS X1 hx (y := M10) hown (mvT hZ (ow hw 75 rfl)) (mvT hZ (ow hw 76 rfl)) (mvT hZ (ow hw 73 rfl)) (mvT hZ (ow hw 77 rfl)) (by decide) (backOf (W := 0) (au13_0 l Z a0 hw [] wREFUSED wPUBLISHED wCS hS pa1 b1 pk2 pi3 k1 h1 n0 O5 f6 V1 Z1 P2 g3) hZ (ow hw 77 rfl) (ow hw 73 rfl) (by decide) (by decide)) (g := (mkF m 9 #[(vr pa1), (vi 0), (vi 1), (vr b1), .unset, .unset] [(.int 1), (.int 0), (.ref b1), (.int 0), (.ref pa1)])) rfl (by rw [hml]; rfl) (argsL := [(.ref pa1), (.int 0), (.ref b1), (.int 0), (.int 1)]) (rest := []) (lenOf pd_10 rfl) rfl (by show 2 * 0 + _ ≤ _; exact Nat.le_of_eq rfl) (hb hby d12_9) (fun _ _ => ⟨rfl, e1, (by decide : 1 + 0 ≤ _), (by decide : 1 + 0 ≤ _)⟩)
  dsimp only [Pt.U, Pt.locs, Pt.cells, Pt.slots] at X7 l7 y7 z7 st7 hQ7
  subst y7 z7
  obtain ⟨rfl, Nq7, K7q, p7_0, p7_1⟩ := hQ7
  have N7 : Fr n0 L7 := (congrArg (Fr n0) l7).mpr (Fr.app N0 Nq7)
  have O8 : Old Z n0 T7.heap := O5.keep K7q (allS g3 all0)
  have K8 : Keep h0 T7.heap [] := K5.trans K7q (allS (Or.inr sz4) all0)
  obtain ⟨fs, hr, hrun, hended, hW, hsame⟩ := X7.leave (v := some (.ref b1)) (fun h => by rw [hret0] at h; cases h)
  refine ⟨_, _, pre0 _ ?_, hrun, hended, _, _, rfl, ?_, ⟨_, rfl⟩, hW, hsame.mono (by decide) (by decide)⟩
  · skip
    show Steps p.tables e below (s₁.setTop (mkF m 0 #[(vr pa1), (vi 0), (vi 1), .unset, .unset, .unset] [])) _
    refine XS.iloadN X0.here hx rfl (hb hby d12_0) rfl ?_
    refine st1 _ ?_
    refine XS.astoreN X1.here hx rfl (hb hby d12_3) rfl rfl (l' := #[(vr pa1), (vi 0), (vi 1), (vr b1), .unset, .unset]) rfl ?_
    refine XS.aloadN X1.here hx rfl (hb hby d12_4) rfl rfl ?_
    refine XS.iloadN X1.here hx rfl (hb hby d12_5) rfl ?_
    refine XS.aloadN X1.here hx rfl (hb hby d12_6) rfl rfl ?_
    refine XS.iconst X1.here hx rfl (hb hby d12_7) ?_
    refine XS.iloadN X1.here hx rfl (hb hby d12_8) rfl ?_
    show Steps p.tables e below (T1.setTop (mkF m 9 #[(vr pa1), (vi 0), (vi 1), (vr b1), .unset, .unset] [(.int 1), (.int 0), (.ref b1), (.int 0), (.ref pa1)])) _
    refine st7 _ ?_
    refine XS.istore X7.here hx rfl (hb hby d12_12) rfl (l' := #[(vr pa1), (vi 0), (vi 1), (vr b1), (vi 1), .unset]) rfl ?_
    refine XS.iload X7.here hx rfl (hb hby d12_14) rfl ?_
    refine XS.iloadN X7.here hx rfl (hb hby d12_16) rfl ?_
    refine XS.icmpYes X7.here hx rfl (pc0 := 17) (pc' := 57) rfl (hb hby d12_17) rfl (teq (by decide : (1 : Int32) = (1 : Int32))).1 (by decide) (by decide) ?_
    refine XS.aloadN X7.here hx rfl (hb hby d12_57) rfl rfl ?_
    jvm_step X7.here [X7.here.top, hx, (hb hby d12_58), X7.method', hret0, Value.isRef, FieldType.isReference]
    first | (intro acts; rw [hr _ acts rfl rfl rfl]) | rw [hr _ _ rfl rfl rfl]
    exact Steps.refl _
  · show Q_au12_0 Z wREFUSED wPUBLISHED wCS pa1 pk2 pi3 h0 n0 _ T7.heap _
    exact ⟨b1, k1, rfl, N7, K8, sz4, p7_0, p7_1⟩
theorem pd_11 : parseMethodDescriptor "([CII)[B" = some ⟨[(.array .char), .int, .int], some (.array .byte)⟩ := by decide +kernel
theorem d3_39 : decode jdk_42_method_149_code 39 = .ok (.astore 5, 2) := by decide +kernel
theorem d3_41 : decode jdk_42_method_149_code 41 = .ok (.aload_n 0, 1) := by decide +kernel
theorem d3_42 : decode jdk_42_method_149_code 42 = .ok (.aload 5, 2) := by decide +kernel
theorem d3_44 : decode jdk_42_method_149_code 44 = .ok (.iload_n 3, 1) := by decide +kernel
theorem d3_45 : decode jdk_42_method_149_code 45 = .ok (.invokestatic 47, 3) := by decide +kernel
theorem ef_au14_0 (m : MethodId) (x0 : Addr) (x1 : Int32)  : entryFrame m #[(.ref x0), (.int x1)] 2 = mkF m 0 #[(vr x0), (vi x1)] [] := by first | (simp [entryFrame, mkF, argsToLocals, Value.category]; done) | rfl
theorem d14_0 : decode jdk_52_method_15_code 0 = .ok (.iload_n 1, 1) := by decide +kernel
theorem d14_1 : decode jdk_52_method_15_code 1 = .ok (.aload_n 0, 1) := by decide +kernel
theorem d14_2 : decode jdk_52_method_15_code 2 = .ok (.arraylength, 1) := by decide +kernel
theorem d14_3 : decode jdk_52_method_15_code 3 = .ok (.isub, 1) := by decide +kernel
theorem d14_4 : decode jdk_52_method_15_code 4 = .ok (.bipush 31, 2) := by decide +kernel
theorem d14_6 : decode jdk_52_method_15_code 6 = .ok (.iushr, 1) := by decide +kernel
theorem d14_7 : decode jdk_52_method_15_code 7 = .ok (.i2b, 1) := by decide +kernel
theorem d14_8 : decode jdk_52_method_15_code 8 = .ok (.ireturn, 1) := by decide +kernel
def Q_au14_0 (Z : State) (wREFUSED : Addr) (wPUBLISHED : Addr) (wCS : Int32) (pa1 : Addr) (pk2 : ClassId) (pi3 : Int32) (h0 : Heap) (n0 : Nat) (v : Option Value) (h : Heap) (L : List Loc) : Prop := v = some (.int 0) ∧ Fr n0 L ∧ h = h0
theorem au14_0 (l : Launch) (Z : State) (a0 : Array Value) (hw : ∀ d ∈ tables_1, d.before a0 Z = true) (ws : List Jvm.Cond) (wREFUSED : Addr) (wPUBLISHED : Addr) (wCS : Int32) (hS : SS Z wREFUSED wPUBLISHED wCS) (pa1 : Addr) (pk2 : ClassId) (pi3 : Int32) (h0 : Heap) (n0 : Nat) (O0 : Old Z n0 h0) (P0 : Arv Z h0 pa1 pk2 .byte (1 : Int32) ([(.int pi3)]) (.int 0)) :
    MetB l M12 jdk_52_method_15_code 2 (some .byte) ws (rmk 0 0 0 0) Z h0 #[(.ref pa1), (.int 1)] (Q_au14_0 Z wREFUSED wPUBLISHED wCS pa1 pk2 pi3 h0 n0) := by
  refine own_body (plainFor_of_name pn_java_lang_StringUTF16) ?_
  intro p e s m below meth c s₁ hx hby hml hown hnm hret0 hlk0 hZ X0 e0
  have N0 := Fr.nil n0
  have pre0 : ∀ t, Steps p.tables e below (s₁.setTop (mkF m 0 #[(vr pa1), (vi 1)] [])) t → Steps p.tables e below (s₁.setTop (entryFrame m #[(.ref pa1), (.int 1)] 2)) t := fun t k => castTop (ef_au14_0 m pa1 (1 : Int32)) k
  have hS0 := hS
  obtain ⟨S_wREFUSED, E_wREFUSED, S_wPUBLISHED, E_wPUBLISHED, S_wCS, N_wCS⟩ := hS0
  obtain ⟨cl1, Ar1, -, Sz1, Nn1, -, -⟩ := (id P0)
  have pre2 : ∀ t, Steps p.tables e below (s₁.setTop (mkF m 8 #[(vr pa1), (vi 1)] [(.int 0)])) t → Steps p.tables e below (s₁.setTop (entryFrame m #[(.ref pa1), (.int 1)] 2)) t := by
    intro t k
    refine pre0 t ?_
    show Steps p.tables e below (s₁.setTop (mkF m 0 #[(vr pa1), (vi 1)] [])) _
    refine XS.iloadN X0.here hx rfl (hb hby d14_0) rfl ?_
    refine XS.aloadN X0.here hx rfl (hb hby d14_1) rfl rfl ?_
    refine X0.arraylength hx (by rw [e0]; exact Ar1.1) (State.isArrayOf_alike hZ.alike Ar1.2.1) (g := (mkF m 2 #[(vr pa1), (vi 1)] [(.ref pa1), (.int 1)])) rfl rfl (hb hby d14_2) _ ?_
    rw [len_of Sz1 Nn1]
    refine XS.isub X0.here hx rfl (hb hby d14_3) rfl ?_
    refine XS.bipush X0.here hx rfl (hb hby d14_4) ?_
    refine XS.iushr X0.here hx rfl (hb hby d14_6) rfl ?_
    refine XS.i2b X0.here hx rfl (hb hby d14_7) rfl ?_
    show Steps p.tables e below (s₁.setTop (mkF m 8 #[(vr pa1), (vi 1)] [(.int ((((0 : Int32).toUInt32 >>> ((31 : Int32) &&& 31).toUInt32).toInt32).toInt8.toInt32))])) _
    rw [(by decide : ((((0 : Int32).toUInt32 >>> ((31 : Int32) &&& 31).toUInt32).toInt32).toInt8.toInt32) = (0 : Int32))]
    exact k
  obtain ⟨fs, hr, hrun, hended, hW, hsame⟩ := X0.leave (v := some (.int 0)) (fun h => by rw [hret0] at h; cases h)
  refine ⟨_, _, pre2 _ ?_, hrun, hended, _, _, rfl, ?_, ⟨_, rfl⟩, hW, hsame.mono (by decide) (by decide)⟩
  · skip
    show Steps p.tables e below (s₁.setTop (mkF m 8 #[(vr pa1), (vi 1)] [(.int 0)])) _
    exact retN X0 hx (t := .byte) hret0 (by simp) (hb hby d14_8) hr
  · show Q_au14_0 Z wREFUSED wPUBLISHED wCS pa1 pk2 pi3 h0 n0 _ s₁.heap _
    rw [e0]
    exact ⟨rfl, N0, rfl⟩
theorem pd_12 : parseMethodDescriptor "([BI)B" = some ⟨[(.array .byte), .int], some .byte⟩ := by decide +kernel
theorem d3_48 : decode jdk_42_method_149_code 48 = .ok (.putfield 15, 3) := by decide +kernel
theorem d3_51 : decode jdk_42_method_149_code 51 = .ok (.aload_n 0, 1) := by decide +kernel
theorem d3_52 : decode jdk_42_method_149_code 52 = .ok (.aload 5, 2) := by decide +kernel
theorem d3_54 : decode jdk_42_method_149_code 54 = .ok (.putfield 9, 3) := by decide +kernel
theorem d3_57 : decode jdk_42_method_149_code 57 = .ok (.return_, 1) := by decide +kernel
def Q_au3_1 (Z : State) (wREFUSED : Addr) (wPUBLISHED : Addr) (wCS : Int32) (pa1 : Addr) (pa2 : Addr) (pk3 : ClassId) (pi4 : Int32) (h0 : Heap) (n0 : Nat) (v : Option Value) (h : Heap) (L : List Loc) : Prop := v = none ∧ Fr n0 L ∧ Keep h0 h [pa1] ∧ Exa Z h pa1 s0n
theorem au3_1 (l : Launch) (Z : State) (a0 : Array Value) (hw : ∀ d ∈ tables_1, d.before a0 Z = true) (ws : List Jvm.Cond) (wREFUSED : Addr) (wPUBLISHED : Addr) (wCS : Int32) (hS : SS Z wREFUSED wPUBLISHED wCS) (pa1 : Addr) (pa2 : Addr) (pk3 : ClassId) (pi4 : Int32) (h0 : Heap) (n0 : Nat) (O0 : Old Z n0 h0) (P0 : Exa Z h0 pa1 s0n) (P1 : Fld Z h0 pa1 s0n "coder" "B" (.int 0)) (P2 : Fld Z h0 pa1 s0n "value" "[B" .null) (P3 : Arv Z h0 pa2 pk3 .char (1 : Int32) ([(.int pi4)]) (.int 0)) (P5 : ¬ (255 : Int32) < pi4) (P6 : n0 ≤ pa1) :
    MetB l M0 jdk_42_method_149_code 6 none ws (rmk 2 1 1 35) Z h0 #[(.ref pa1), (.ref pa2), (.int 0), (.int 1), .null] (Q_au3_1 Z wREFUSED wPUBLISHED wCS pa1 pa2 pk3 pi4 h0 n0) := by
  refine own_body (plainFor_of_name pn_java_lang_String) ?_
  intro p e s m below meth c s₁ hx hby hml hown hnm hret0 hlk0 hZ X0 e0
  have N0 := Fr.nil n0
  have pre0 : ∀ t, Steps p.tables e below (s₁.setTop (mkF m 0 #[(vr pa1), (vr pa2), (vi 0), (vi 1), .val .null, .unset] [])) t → Steps p.tables e below (s₁.setTop (entryFrame m #[(.ref pa1), (.ref pa2), (.int 0), (.int 1), .null] 6)) t := fun t k => castTop (ef_au3_1 m pa1 pa2 (0 : Int32) (1 : Int32)) k
  have K0 := Keep.refl h0 [pa1]
  have hS0 := hS
  obtain ⟨S_wREFUSED, E_wREFUSED, S_wPUBLISHED, E_wPUBLISHED, S_wCS, N_wCS⟩ := hS0
  obtain ⟨T1, X1, e1, st1⟩ := initO X0 hx hZ hown (ow hw 15 rfl) (ow hw 16 rfl) (ow hw 17 rfl) e0 (g := (mkF m 1 #[(vr pa1), (vr pa2), (vi 0), (vi 1), .val .null, .unset] [(.ref pa1)])) rfl (by rw [hml]; rfl) rfl (hb hby d3_1) (by decide) (W := 0) (by show 2 * 0 + _ ≤ _; exact Nat.le_of_eq rfl) (by decide)
  obtain ⟨T2, X2, e2, st2⟩ := getS2 X1 hx hZ hown (host := "") (Or.inl (ow hw 70 rfl)) Via.refl e1 (S_wCS.ext O0.2) (g := (mkF m 27 #[(vr pa1), (vr pa2), (vi 0), (vi 1), .val .null, .unset] [])) rfl (hb hby d3_27)
  obtain ⟨_, _, ⟨T3, L3, k3, n3⟩, -, X3, ⟨Lc3, hQ3, l3, y3, z3⟩, st3⟩ := Jvm.LawKit.callS X2 hx (y := M11) hown (mvT hZ (ow hw 71 rfl)) (mvT hZ (ow hw 72 rfl)) (mvT hZ (ow hw 73 rfl)) (mvT hZ (ow hw 74 rfl)) (by decide) (backOf (W := 0) (au12_0 l Z a0 hw [] wREFUSED wPUBLISHED wCS hS pa2 pk3 pi4 h0 n0 O0 P3 P5) hZ (ow hw 74 rfl) (ow hw 73 rfl) (by decide) (by decide)) (g := (mkF m 36 #[(vr pa1), (vr pa2), (vi 0), (vi 1), .val .null, .unset] [(.int 1), (.int 0), (.ref pa2)])) rfl (by rw [hml]; rfl) (argsL := [(.ref pa2), (.int 0), (.int 1)]) (rest := []) (lenOf pd_11 rfl) rfl (by show 2 * 0 + _ ≤ _; exact Nat.le_of_eq rfl) (hb hby d3_36) (fun _ _ => ⟨rfl, e2, (by decide : 0 + 1 ≤ _), (by decide : 0 + 1 ≤ _)⟩)
  dsimp only [Pt.U, Pt.locs, Pt.cells, Pt.slots] at X3 l3 y3 z3 st3 hQ3
  subst y3 z3
  obtain ⟨e1_3, e2_3, rfl, Nq3, K3q, p3_0, p3_1, p3_2⟩ := hQ3
  have N3 : Fr n0 L3 := (congrArg (Fr n0) l3).mpr (Fr.app N0 Nq3)
  have ne4 : pa1 ≠ e1_3 := Nat.ne_of_lt (Nat.lt_of_lt_of_le P0.lt p3_0)
  have ne5 : pa2 ≠ e1_3 := Nat.ne_of_lt (Nat.lt_of_lt_of_le P3.lt p3_0)
  have g6 : n0 ≤ e1_3 := Nat.le_trans (own_sz O0) p3_0
  have sz7 : h0.size ≤ e1_3 := Nat.le_trans K0.1 p3_0
  have O8 : Old Z n0 T3.heap := O0.keep K3q all0
  have K8 : Keep h0 T3.heap [pa1] := K0.trans K3q all0
  obtain ⟨_, _, ⟨T9, L9, k9, n9⟩, -, X9, ⟨Lc9, hQ9, l9, y9, z9⟩, st9⟩ := Jvm.LawKit.callS X3 hx (y := M12) hown (mvT hZ (ow hw 78 rfl)) (mvT hZ (ow hw 79 rfl)) (mvT hZ (ow hw 73 rfl)) (mvT hZ (ow hw 80 rfl)) (by decide) (backOf (W := 1) (au14_0 l Z a0 hw [] wREFUSED wPUBLISHED wCS hS e1_3 e2_3 (nar .byte (pi4.toInt8.toInt32)) T3.heap n0 O8 p3_2) hZ (ow hw 80 rfl) (ow hw 73 rfl) (by decide) (by decide)) (g := (mkF m 45 #[(vr pa1), (vr pa2), (vi 0), (vi 1), .val .null, (vr e1_3)] [(.int 1), (.ref e1_3), (.ref pa1)])) rfl (by rw [hml]; rfl) (argsL := [(.ref e1_3), (.int 1)]) (rest := [(.ref pa1)]) (lenOf pd_12 rfl) rfl (by show 2 * 0 + _ ≤ _; exact Nat.le_of_eq rfl) (hb hby d3_45) (fun _ _ => ⟨rfl, rfl, (by decide : 1 + 0 ≤ _), (by decide : 1 + 0 ≤ _)⟩)
  dsimp only [Pt.U, Pt.locs, Pt.cells, Pt.slots] at X9 l9 y9 z9 st9 hQ9
  subst y9 z9
  obtain ⟨rfl, Nq9, K9q⟩ := hQ9
  have N9 : Fr n0 L9 := (congrArg (Fr n0) l9).mpr (Fr.app N3 Nq9)
  have f10 : Exa Z T3.heap pa1 s0n := (P0.keep K3q)
  have f11 : Fld Z T3.heap pa1 s0n "coder" "B" (.int 0) := (P1.keep K3q nin0)
  obtain ⟨T12, h12, X12, e12, W12, st12⟩ := putFN X9 hx hZ hown (ow hw 25 rfl) Via.refl K9q f11 f10 (Or.inr ⟨(ow hw 21 rfl), rfl, hnm⟩) (ow hw 5 rfl) (ty := .byte) (v' := (.int 0)) (by decide) rfl rfl (g := (mkF m 48 #[(vr pa1), (vr pa2), (vi 0), (vi 1), .val .null, (vr e1_3)] [(.int 0), (.ref pa1)])) rfl rfl (hb hby d3_48)
  have N12 := Fr.snoc X12 N9 P6
  have O13 : Old Z n0 h12 := O8.wr W12 P6
  have K13 : Keep h0 h12 [pa1] := K8.wr W12 (Or.inl (List.mem_of_getElem? (i := 0) rfl))
  have Fw12 : Fld Z h12 pa1 s0n "coder" "B" (.int 0) := f11.same W12
  have f14 : Exa Z h12 pa1 s0n := (f10.wr W12)
  have f15 : Fld Z h12 pa1 s0n "value" "[B" .null := ((P2.keep K3q nin0).other W12 (Or.inr (slot_ne (Or.inr (ow hw 20 rfl)) (Or.inr (ow hw 21 rfl)) (by decide) (t := (.array .byte)) (t' := .byte) (by decide) (by decide))))
  obtain ⟨T16, h16, X16, e16, W16, st16⟩ := putF X12 hx hZ hown (host := "") (Or.inl (ow hw 24 rfl)) Via.refl e12 f15 f14 (Or.inr ⟨(ow hw 20 rfl), rfl, hnm⟩) (ow hw 5 rfl) (ty := (.array .byte)) (by decide) rfl rfl (g := (mkF m 54 #[(vr pa1), (vr pa2), (vi 0), (vi 1), .val .null, (vr e1_3)] [(.ref e1_3), (.ref pa1)])) rfl rfl (hb hby d3_54)
  have N16 := Fr.snoc X16 N12 P6
  have O17 : Old Z n0 h16 := O13.wr W16 P6
  have K17 : Keep h0 h16 [pa1] := K13.wr W16 (Or.inl (List.mem_of_getElem? (i := 0) rfl))
  have Fw16 : Fld Z h16 pa1 s0n "value" "[B" (.ref e1_3) := f15.same W16
  have f18 : Exa Z h16 pa1 s0n := (f14.wr W16)
  obtain ⟨fs, hr, hrun, hended, hW, hsame⟩ := X16.leave (v := none) (fun _ => rfl)
  refine ⟨_, _, pre0 _ ?_, hrun, hended, _, _, rfl, ?_, ⟨_, rfl⟩, hW, hsame.mono (by decide) (by decide)⟩
  · skip
    show Steps p.tables e below (s₁.setTop (mkF m 0 #[(vr pa1), (vr pa2), (vi 0), (vi 1), .val .null, .unset] [])) _
    refine XS.aloadN X0.here hx rfl (hb hby d3_0) rfl rfl ?_
    refine st1 _ ?_
    refine XS.iloadN X1.here hx rfl (hb hby d3_4) rfl ?_
    refine XS.ifYes X1.here hx rfl (pc0 := 5) (pc' := 27) rfl (hb hby d3_5) rfl ((if0 _ _).trans (feq (by decide : ¬ ((1 : Int32) = (0 : Int32)))).2) (by decide) (by decide) ?_
    refine st2 _ ?_
    refine XS.ifNo X2.here hx rfl (hb hby d3_30) rfl ((if0 _ _).trans (feq (N_wCS : ¬ (wCS = (0 : Int32)))).1) ?_
    refine XS.aloadN X2.here hx rfl (hb hby d3_33) rfl rfl ?_
    refine XS.iloadN X2.here hx rfl (hb hby d3_34) rfl ?_
    show Steps p.tables e below (T2.setTop (mkF m 35 #[(vr pa1), (vr pa2), (vi 0), (vi 1), .val .null, .unset] [(.int 0), (.ref pa2)])) _
    refine XS.iloadN X2.here hx rfl (hb hby d3_35) rfl ?_
    refine st3 _ ?_
    refine XS.astore X3.here hx rfl (hb hby d3_39) rfl rfl (l' := #[(vr pa1), (vr pa2), (vi 0), (vi 1), .val .null, (vr e1_3)]) rfl ?_
    refine XS.aloadN X3.here hx rfl (hb hby d3_41) rfl rfl ?_
    refine XS.aload X3.here hx rfl (hb hby d3_42) rfl rfl ?_
    refine XS.iloadN X3.here hx rfl (hb hby d3_44) rfl ?_
    refine st9 _ ?_
    refine st12 _ ?_
    show Steps p.tables e below (T12.setTop (mkF m 51 #[(vr pa1), (vr pa2), (vi 0), (vi 1), .val .null, (vr e1_3)] [])) _
    refine XS.aloadN X12.here hx rfl (hb hby d3_51) rfl rfl ?_
    refine XS.aload X12.here hx rfl (hb hby d3_52) rfl rfl ?_
    refine st16 _ ?_
    exact X16.returnOut hx hret0 (hb hby d3_57) hr
  · show Q_au3_1 Z wREFUSED wPUBLISHED wCS pa1 pa2 pk3 pi4 h0 n0 _ T16.heap _
    rw [e16]
    exact ⟨rfl, N16, K17, f18⟩
def Q_au2_1 (Z : State) (wREFUSED : Addr) (wPUBLISHED : Addr) (wCS : Int32) (pa1 : Addr) (pa2 : Addr) (pk3 : ClassId) (pi4 : Int32) (h0 : Heap) (n0 : Nat) (v : Option Value) (h : Heap) (L : List Loc) : Prop := v = none ∧ Fr n0 L ∧ Keep h0 h [pa1] ∧ Exa Z h pa1 s0n
theorem au2_1 (l : Launch) (Z : State) (a0 : Array Value) (hw : ∀ d ∈ tables_1, d.before a0 Z = true) (ws : List Jvm.Cond) (wREFUSED : Addr) (wPUBLISHED : Addr) (wCS : Int32) (hS : SS Z wREFUSED wPUBLISHED wCS) (pa1 : Addr) (pa2 : Addr) (pk3 : ClassId) (pi4 : Int32) (h0 : Heap) (n0 : Nat) (O0 : Old Z n0 h0) (P0 : Exa Z h0 pa1 s0n) (P1 : Fld Z h0 pa1 s0n "coder" "B" (.int 0)) (P2 : Fld Z h0 pa1 s0n "value" "[B" .null) (P3 : Arv Z h0 pa2 pk3 .char (1 : Int32) ([(.int pi4)]) (.int 0)) (P5 : ¬ (255 : Int32) < pi4) (P6 : n0 ≤ pa1) :
    MetB l M1 jdk_42_method_3_code 2 none ws (rmk 3 1 1 52) Z h0 #[(.ref pa1), (.ref pa2)] (Q_au2_1 Z wREFUSED wPUBLISHED wCS pa1 pa2 pk3 pi4 h0 n0) := by
  refine own_body (plainFor_of_name pn_java_lang_String) ?_
  intro p e s m below meth c s₁ hx hby hml hown hnm hret0 hlk0 hZ X0 e0
  have N0 := Fr.nil n0
  have pre0 : ∀ t, Steps p.tables e below (s₁.setTop (mkF m 0 #[(vr pa1), (vr pa2)] [])) t → Steps p.tables e below (s₁.setTop (entryFrame m #[(.ref pa1), (.ref pa2)] 2)) t := fun t k => castTop (ef_au2_1 m pa1 pa2) k
  have K0 := Keep.refl h0 [pa1]
  have hS0 := hS
  obtain ⟨S_wREFUSED, E_wREFUSED, S_wPUBLISHED, E_wPUBLISHED, S_wCS, N_wCS⟩ := hS0
  obtain ⟨cl1, Ar1, -, Sz1, Nn1, -, -⟩ := (id P3)
  obtain ⟨_, _, ⟨T2, L2, k2, n2⟩, -, X2, ⟨Lc2, hQ2, l2, y2, z2⟩, st2⟩ := X0.specialBack hx (y := M0) rfl hown (mvT hZ (ow hw 11 rfl)) (mvT hZ (ow hw 12 rfl)) (mvT hZ (ow hw 14 rfl)) (by decide) (backOf (W := 0) (au3_1 l Z a0 hw [] wREFUSED wPUBLISHED wCS hS pa1 pa2 pk3 pi4 h0 n0 O0 P0 P1 P2 P3 P5 P6) hZ (ow hw 14 rfl) (ow hw 6 rfl) (by decide) (by decide)) (g := (mkF m 6 #[(vr pa1), (vr pa2)] [.null, (.int 1), (.int 0), (.ref pa2), (.ref pa1)])) rfl (by rw [hml]; rfl) (Steps.refl _) (a := pa1) (argsL := [(.ref pa2), (.int 0), (.int 1), .null]) (rest := []) (lenOf pd_0 rfl) rfl (by show 2 * 0 + _ ≤ _; exact Nat.le_of_eq rfl) (hb hby d2_6) (fun _ _ => ⟨rfl, e0, (by decide : 0 + 1 ≤ _), (by decide : 0 + 1 ≤ _)⟩)
  dsimp only [Pt.U, Pt.locs, Pt.cells, Pt.slots] at X2 l2 y2 z2 st2 hQ2
  subst y2 z2
  obtain ⟨rfl, Nq2, K2q, p2_0⟩ := hQ2
  have N2 : Fr n0 L2 := (congrArg (Fr n0) l2).mpr (Fr.app N0 Nq2)
  have O3 : Old Z n0 T2.heap := O0.keep K2q (allS P6 all0)
  have K3 : Keep h0 T2.heap [pa1] := K0.trans K2q (allS (Or.inl (List.mem_of_getElem? (i := 0) rfl)) all0)
  obtain ⟨fs, hr, hrun, hended, hW, hsame⟩ := X2.leave (v := none) (fun _ => rfl)
  refine ⟨_, _, pre0 _ ?_, hrun, hended, _, _, rfl, ?_, ⟨_, rfl⟩, hW, hsame.mono (by decide) (by decide)⟩
  · skip
    show Steps p.tables e below (s₁.setTop (mkF m 0 #[(vr pa1), (vr pa2)] [])) _
    refine XS.aloadN X0.here hx rfl (hb hby d2_0) rfl rfl ?_
    refine XS.aloadN X0.here hx rfl (hb hby d2_1) rfl rfl ?_
    refine XS.iconst X0.here hx rfl (hb hby d2_2) ?_
    refine XS.aloadN X0.here hx rfl (hb hby d2_3) rfl rfl ?_
    refine X0.arraylength hx (by rw [e0]; exact Ar1.1) (State.isArrayOf_alike hZ.alike Ar1.2.1) (g := (mkF m 4 #[(vr pa1), (vr pa2)] [(.ref pa2), (.int 0), (.ref pa2), (.ref pa1)])) rfl rfl (hb hby d2_4) _ ?_
    rw [len_of Sz1 Nn1]
    refine XS.aconstNull X0.here hx rfl (hb hby d2_5) ?_
    refine st2.trans ?_
    exact X2.returnOut hx hret0 (hb hby d2_9) hr
  · show Q_au2_1 Z wREFUSED wPUBLISHED wCS pa1 pa2 pk3 pi4 h0 n0 _ T2.heap _
    exact ⟨rfl, N2, K3, p2_0⟩
theorem d1_64 : decode method_2_code 64 = .ok (.areturn, 1) := by decide +kernel
def Q_au1_1 (Z : State) (wREFUSED : Addr) (wPUBLISHED : Addr) (wCS : Int32) (pi1 : Int32) (pi2 : Int32) (pi3 : Int32) (h0 : Heap) (n0 : Nat) (v : Option Value) (h : Heap) (L : List Loc) : Prop := ∃ (e1 : Addr), v = some (.ref e1) ∧ Fr n0 L ∧ Keep h0 h [] ∧ h0.size ≤ e1 ∧ Exa Z h e1 s0n
theorem au1_1 (l : Launch) (Z : State) (a0 : Array Value) (hw : ∀ d ∈ tables_1, d.before a0 Z = true) (ws : List Jvm.Cond) (wREFUSED : Addr) (wPUBLISHED : Addr) (wCS : Int32) (hS : SS Z wREFUSED wPUBLISHED wCS) (pi1 : Int32) (pi2 : Int32) (pi3 : Int32) (h0 : Heap) (n0 : Nat) (O0 : Old Z n0 h0)  :
    MetB l M2 method_2_code 8 (some (.object s0n)) ws (rmk 4 3 6 66) Z h0 #[(.int 1), (.int pi1), (.int pi2), (.int pi3)] (Q_au1_1 Z wREFUSED wPUBLISHED wCS pi1 pi2 pi3 h0 n0) := by
  refine own_body (plainFor_of_name pn_com_example_onceward_onceward_outbox_PublicationRefusedPinLaw) ?_
  intro p e s m below meth c s₁ hx hby hml hown hnm hret0 hlk0 hZ X0 e0
  have N0 := Fr.nil n0
  have pre0 : ∀ t, Steps p.tables e below (s₁.setTop (mkF m 0 #[(vi 1), (vi pi1), (vi pi2), (vi pi3), .unset, .unset, .unset, .unset] [])) t → Steps p.tables e below (s₁.setTop (entryFrame m #[(.int 1), (.int pi1), (.int pi2), (.int pi3)] 8)) t := fun t k => castTop (ef_au1_1 m (1 : Int32) pi1 pi2 pi3) k
  have K0 := Keep.refl h0 []
  have hS0 := hS
  obtain ⟨S_wREFUSED, E_wREFUSED, S_wPUBLISHED, E_wPUBLISHED, S_wCS, N_wCS⟩ := hS0
  obtain ⟨ca, hca⟩ : ∃ z : Int32, z = ((pi1 &&& (255 : Int32)).toUInt32.toUInt16.toUInt32.toInt32) := ⟨_, rfl⟩
  have pre1 : ∀ t, Steps p.tables e below (s₁.setTop (mkF m 8 #[(vi 1), (vi pi1), (vi pi2), (vi pi3), (vi ca), .unset, .unset, .unset] [])) t → Steps p.tables e below (s₁.setTop (entryFrame m #[(.int 1), (.int pi1), (.int pi2), (.int pi3)] 8)) t := by
    intro t k
    rw [hca] at k
    refine pre0 t ?_
    show Steps p.tables e below (s₁.setTop (mkF m 0 #[(vi 1), (vi pi1), (vi pi2), (vi pi3), .unset, .unset, .unset, .unset] [])) _
    refine XS.iloadN X0.here hx rfl (hb hby d1_0) rfl ?_
    refine XS.sipush X0.here hx rfl (hb hby d1_1) ?_
    refine XS.iand X0.here hx rfl (hb hby d1_4) rfl ?_
    refine XS.i2c X0.here hx rfl (hb hby d1_5) rfl ?_
    refine XS.istore X0.here hx rfl (hb hby d1_6) rfl (l' := #[(vi 1), (vi pi1), (vi pi2), (vi pi3), .val (.int ((pi1 &&& (255 : Int32)).toUInt32.toUInt16.toUInt32.toInt32)), .unset, .unset, .unset]) rfl ?_
    exact k
  have hnca := own_chr hca
  have h255ca : ¬ (255 : Int32) < ca := hnca.1
  obtain ⟨cb, hcb⟩ : ∃ z : Int32, z = ((pi2 &&& (255 : Int32)).toUInt32.toUInt16.toUInt32.toInt32) := ⟨_, rfl⟩
  have pre2 : ∀ t, Steps p.tables e below (s₁.setTop (mkF m 16 #[(vi 1), (vi pi1), (vi pi2), (vi pi3), (vi ca), (vi cb), .unset, .unset] [])) t → Steps p.tables e below (s₁.setTop (entryFrame m #[(.int 1), (.int pi1), (.int pi2), (.int pi3)] 8)) t := by
    intro t k
    rw [hcb] at k
    refine pre1 t ?_
    show Steps p.tables e below (s₁.setTop (mkF m 8 #[(vi 1), (vi pi1), (vi pi2), (vi pi3), (vi ca), .unset, .unset, .unset] [])) _
    refine XS.iloadN X0.here hx rfl (hb hby d1_8) rfl ?_
    refine XS.sipush X0.here hx rfl (hb hby d1_9) ?_
    refine XS.iand X0.here hx rfl (hb hby d1_12) rfl ?_
    refine XS.i2c X0.here hx rfl (hb hby d1_13) rfl ?_
    refine XS.istore X0.here hx rfl (hb hby d1_14) rfl (l' := #[(vi 1), (vi pi1), (vi pi2), (vi pi3), (vi ca), .val (.int ((pi2 &&& (255 : Int32)).toUInt32.toUInt16.toUInt32.toInt32)), .unset, .unset]) rfl ?_
    exact k
  have hncb := own_chr hcb
  have h255cb : ¬ (255 : Int32) < cb := hncb.1
  obtain ⟨cc, hcc⟩ : ∃ z : Int32, z = ((pi3 &&& (255 : Int32)).toUInt32.toUInt16.toUInt32.toInt32) := ⟨_, rfl⟩
  have pre3 : ∀ t, Steps p.tables e below (s₁.setTop (mkF m 24 #[(vi 1), (vi pi1), (vi pi2), (vi pi3), (vi ca), (vi cb), (vi cc), .unset] [])) t → Steps p.tables e below (s₁.setTop (entryFrame m #[(.int 1), (.int pi1), (.int pi2), (.int pi3)] 8)) t := by
    intro t k
    rw [hcc] at k
    refine pre2 t ?_
    show Steps p.tables e below (s₁.setTop (mkF m 16 #[(vi 1), (vi pi1), (vi pi2), (vi pi3), (vi ca), (vi cb), .unset, .unset] [])) _
    refine XS.iloadN X0.here hx rfl (hb hby d1_16) rfl ?_
    refine XS.sipush X0.here hx rfl (hb hby d1_17) ?_
    refine XS.iand X0.here hx rfl (hb hby d1_20) rfl ?_
    refine XS.i2c X0.here hx rfl (hb hby d1_21) rfl ?_
    refine XS.istore X0.here hx rfl (hb hby d1_22) rfl (l' := #[(vi 1), (vi pi1), (vi pi2), (vi pi3), (vi ca), (vi cb), .val (.int ((pi3 &&& (255 : Int32)).toUInt32.toUInt16.toUInt32.toInt32)), .unset]) rfl ?_
    exact k
  have hncc := own_chr hcc
  have h255cc : ¬ (255 : Int32) < cc := hncc.1
  obtain ⟨T4, h4, k4, X4, e4, E4, A4, Z4, st4⟩ := newPE X0 hx hZ (ow hw 7 rfl) e0 (g := (mkF m 45 #[(vi 1), (vi pi1), (vi pi2), (vi pi3), (vi ca), (vi cb), (vi cc), .unset] [(.int 1)])) rfl (hb hby d1_45) rfl (by decide) (cap := 1) (by decide) (by decide) (by decide) (by decide) (ad := "[C") rfl
  obtain ⟨b4, g4⟩ : ∃ z, z = h0.size := ⟨_, rfl⟩
  rw [← g4] at A4 Z4 st4
  have g5 : n0 ≤ b4 := Nat.le_trans (own_sz O0) (Nat.le_of_eq g4.symm)
  have sz6 : h0.size ≤ b4 := Nat.le_trans K0.1 (Nat.le_of_eq g4.symm)
  have O7 : Old Z n0 h4 := O0.ext E4
  have K7 : Keep h0 h4 [] := K0.ext E4
  have V4 : Arv Z h4 b4 k4 .char (1 : Int32) ([(.int 0)]) (.int 0) := (Arv.new A4 (by decide)).pad (pad_rep [] (.int 0) 1)
  obtain ⟨cl8, Ar8, qc8, Sz8, Nn8, Ha8, Gg8⟩ := (id V4)
  have hin8 : ¬ ((0 : Int32) < 0 ∨ cl8.slots.size ≤ ((0 : Int32)).toNatClampNeg) := inb_of Sz8 ⟨by decide, by decide⟩
  obtain ⟨T8, h8, X8, e8, W8, st8⟩ := stC X4 hx hZ e4 Ar8 (j := (0 : Int32)) hin8 (g := (mkF m 54 #[(vi 1), (vi pi1), (vi pi2), (vi pi3), (vi ca), (vi cb), (vi cc), (vr b4)] [(.int ca), (.int 0), (.ref b4)])) rfl rfl (hb hby d1_54)
  have O9 : Old Z n0 h8 := O7.wr W8 g5
  have K9 : Keep h0 h8 [] := K7.wr W8 (Or.inr sz6)
  have V8 : Arv Z h8 b4 k4 .char (1 : Int32) ([(.int ca)]) (.int 0) := own_cast (by rw [hnca.2]; rfl) (Arv.set Ar8 qc8 Sz8 Nn8 Ha8 Gg8 (v := (.int (nar .char ca))) (fits_nar_char _) W8 0 rfl (Nat.le_of_ble_eq_true rfl))
  have N8 := Fr.snoc X8 N0 g5
  obtain ⟨T10, h10, X10, e10, E10, A10, D10, -, st10⟩ := newO X8 hx hZ hown (ow hw 4 rfl) (ow hw 5 rfl) (ow hw 6 rfl) e8 (g := (mkF m 55 #[(vi 1), (vi pi1), (vi pi2), (vi pi3), (vi ca), (vi cb), (vi cc), (vr b4)] [])) rfl (hb hby d1_55) (by decide) (by decide)
  obtain ⟨b10, g10⟩ : ∃ z, z = h8.size := ⟨_, rfl⟩
  rw [← g10] at A10 D10 st10
  have ne11 : b4 ≠ b10 := Nat.ne_of_lt (Nat.lt_of_lt_of_le V8.lt (Nat.le_of_eq g10.symm))
  have g12 : n0 ≤ b10 := Nat.le_trans (own_sz O9) (Nat.le_of_eq g10.symm)
  have sz13 : h0.size ≤ b10 := Nat.le_trans K9.1 (Nat.le_of_eq g10.symm)
  have O14 : Old Z n0 h10 := O9.ext E10
  have K14 : Keep h0 h10 [] := K9.ext E10
  have f15 : Fld Z h10 b10 s0n "value" "[B" .null := D10 (Or.inr (ow hw 20 rfl)) (ty := (.array .byte)) (by decide)
  have f16 : Fld Z h10 b10 s0n "coder" "B" (.int 0) := D10 (Or.inr (ow hw 21 rfl)) (ty := .byte) (by decide)
  have f17 : Arv Z h10 b4 k4 .char (1 : Int32) ([(.int ca)]) (.int 0) := (V8.ext E10)
  obtain ⟨_, _, ⟨T18, L18, k18, n18⟩, -, X18, ⟨Lc18, hQ18, l18, y18, z18⟩, st18⟩ := X10.specialBack hx (y := M1) rfl hown (mvT hZ (ow hw 8 rfl)) (mvT hZ (ow hw 9 rfl)) (mvT hZ (ow hw 10 rfl)) (by decide) (backOf (W := 1) (au2_1 l Z a0 hw [] wREFUSED wPUBLISHED wCS hS b10 b4 k4 ca h10 n0 O14 A10 f16 f15 f17 h255ca g12) hZ (ow hw 10 rfl) (ow hw 6 rfl) (by decide) (by decide)) (g := (mkF m 61 #[(vi 1), (vi pi1), (vi pi2), (vi pi3), (vi ca), (vi cb), (vi cc), (vr b4)] [(.ref b4), (.ref b10), (.ref b10)])) rfl (by rw [hml]; rfl) (Steps.refl _) (a := b10) (argsL := [(.ref b4)]) (rest := [(.ref b10)]) (lenOf pd_1 rfl) rfl (by show 2 * 0 + _ ≤ _; exact Nat.le_of_eq rfl) (hb hby d1_61) (fun _ _ => ⟨rfl, e10, (by decide : 2 + 1 ≤ _), (by decide : 5 + 1 ≤ _)⟩)
  dsimp only [Pt.U, Pt.locs, Pt.cells, Pt.slots] at X18 l18 y18 z18 st18 hQ18
  subst y18 z18
  obtain ⟨rfl, Nq18, K18q, p18_0⟩ := hQ18
  have N18 : Fr n0 L18 := (congrArg (Fr n0) l18).mpr (Fr.app N8 Nq18)
  have O19 : Old Z n0 T18.heap := O14.keep K18q (allS g12 all0)
  have K19 : Keep h0 T18.heap [] := K14.trans K18q (allS (Or.inr sz13) all0)
  obtain ⟨fs, hr, hrun, hended, hW, hsame⟩ := X18.leave (v := some (.ref b10)) (fun h => by rw [hret0] at h; cases h)
  refine ⟨_, _, pre3 _ ?_, hrun, hended, _, _, rfl, ?_, ⟨_, rfl⟩, hW, hsame.mono (by decide) (by decide)⟩
  · skip
    show Steps p.tables e below (s₁.setTop (mkF m 24 #[(vi 1), (vi pi1), (vi pi2), (vi pi3), (vi ca), (vi cb), (vi cc), .unset] [])) _
    refine XS.iloadN X0.here hx rfl (hb hby d1_24) rfl ?_
    refine XS.ifYes X0.here hx rfl (pc0 := 25) (pc' := 39) rfl (hb hby d1_25) rfl ((if0 _ _).trans (feq (by decide : ¬ ((1 : Int32) = (0 : Int32)))).2) (by decide) (by decide) ?_
    refine XS.iloadN X0.here hx rfl (hb hby d1_39) rfl ?_
    refine XS.iconst X0.here hx rfl (hb hby d1_40) ?_
    refine XS.icmpNo X0.here hx rfl (hb hby d1_41) rfl (teq (by decide : (1 : Int32) = (1 : Int32))).2 ?_
    refine XS.iconst X0.here hx rfl (hb hby d1_44) ?_
    refine st4 _ ?_
    refine XS.astore X4.here hx rfl (hb hby d1_47) rfl rfl (l' := #[(vi 1), (vi pi1), (vi pi2), (vi pi3), (vi ca), (vi cb), (vi cc), (vr b4)]) rfl ?_
    show Steps p.tables e below (T4.setTop (mkF m 49 #[(vi 1), (vi pi1), (vi pi2), (vi pi3), (vi ca), (vi cb), (vi cc), (vr b4)] [])) _
    refine XS.aload X4.here hx rfl (hb hby d1_49) rfl rfl ?_
    refine XS.iconst X4.here hx rfl (hb hby d1_51) ?_
    refine XS.iload X4.here hx rfl (hb hby d1_52) rfl ?_
    refine st8 _ ?_
    refine st10 _ ?_
    refine XS.dup X10.here hx rfl (hb hby d1_58) rfl rfl ?_
    refine XS.aload X10.here hx rfl (hb hby d1_59) rfl rfl ?_
    refine st18.trans ?_
    show Steps p.tables e below (T18.setTop (mkF m 64 #[(vi 1), (vi pi1), (vi pi2), (vi pi3), (vi ca), (vi cb), (vi cc), (vr b4)] [(.ref b10)])) _
    jvm_step X18.here [X18.here.top, hx, (hb hby d1_64), X18.method', hret0, Value.isRef, FieldType.isReference]
    first | (intro acts; rw [hr _ acts rfl rfl rfl]) | rw [hr _ _ rfl rfl rfl]
    exact Steps.refl _
  · show Q_au1_1 Z wREFUSED wPUBLISHED wCS pi1 pi2 pi3 h0 n0 _ T18.heap _
    exact ⟨b10, rfl, N18, K19, sz13, p18_0⟩
theorem ef_au1_2 (m : MethodId) (x0 : Int32) (x1 : Int32) (x2 : Int32) (x3 : Int32)  : entryFrame m #[(.int x0), (.int x1), (.int x2), (.int x3)] 8 = mkF m 0 #[(vi x0), (vi x1), (vi x2), (vi x3), .unset, .unset, .unset, .unset] [] := by first | (simp [entryFrame, mkF, argsToLocals, Value.category]; done) | rfl
theorem d1_65 : decode method_2_code 65 = .ok (.iload_n 0, 1) := by decide +kernel
theorem d1_66 : decode method_2_code 66 = .ok (.iconst 2, 1) := by decide +kernel
theorem d1_67 : decode method_2_code 67 = .ok (.if_icmp .ne 30, 3) := by decide +kernel
theorem d1_70 : decode method_2_code 70 = .ok (.iconst 2, 1) := by decide +kernel
theorem d1_71 : decode method_2_code 71 = .ok (.newarray .char, 2) := by decide +kernel
theorem d1_73 : decode method_2_code 73 = .ok (.astore 7, 2) := by decide +kernel
theorem d1_75 : decode method_2_code 75 = .ok (.aload 7, 2) := by decide +kernel
theorem d1_77 : decode method_2_code 77 = .ok (.iconst 0, 1) := by decide +kernel
theorem d1_78 : decode method_2_code 78 = .ok (.iload 4, 2) := by decide +kernel
theorem d1_80 : decode method_2_code 80 = .ok (.castore, 1) := by decide +kernel
theorem d1_81 : decode method_2_code 81 = .ok (.aload 7, 2) := by decide +kernel
theorem d1_83 : decode method_2_code 83 = .ok (.iconst 1, 1) := by decide +kernel
theorem d1_84 : decode method_2_code 84 = .ok (.iload 5, 2) := by decide +kernel
theorem d1_86 : decode method_2_code 86 = .ok (.castore, 1) := by decide +kernel
theorem d1_87 : decode method_2_code 87 = .ok (.new 7, 3) := by decide +kernel
theorem d1_90 : decode method_2_code 90 = .ok (.dup, 1) := by decide +kernel
theorem d1_91 : decode method_2_code 91 = .ok (.aload 7, 2) := by decide +kernel
theorem d1_93 : decode method_2_code 93 = .ok (.invokespecial 9, 3) := by decide +kernel
theorem ef_au2_2 (m : MethodId) (x0 : Addr) (x1 : Addr)  : entryFrame m #[(.ref x0), (.ref x1)] 2 = mkF m 0 #[(vr x0), (vr x1)] [] := by first | (simp [entryFrame, mkF, argsToLocals, Value.category]; done) | rfl
theorem ef_au3_2 (m : MethodId) (x0 : Addr) (x1 : Addr) (x2 : Int32) (x3 : Int32)  : entryFrame m #[(.ref x0), (.ref x1), (.int x2), (.int x3), .null] 6 = mkF m 0 #[(vr x0), (vr x1), (vi x2), (vi x3), .val .null, .unset] [] := by first | (simp [entryFrame, mkF, argsToLocals, Value.category]; done) | rfl
theorem ef_au12_1 (m : MethodId) (x0 : Addr) (x1 : Int32) (x2 : Int32)  : entryFrame m #[(.ref x0), (.int x1), (.int x2)] 6 = mkF m 0 #[(vr x0), (vi x1), (vi x2), .unset, .unset, .unset] [] := by first | (simp [entryFrame, mkF, argsToLocals, Value.category]; done) | rfl
theorem ef_au13_1 (m : MethodId) (x0 : Addr) (x1 : Int32) (x2 : Addr) (x3 : Int32) (x4 : Int32)  : entryFrame m #[(.ref x0), (.int x1), (.ref x2), (.int x3), (.int x4)] 7 = mkF m 0 #[(vr x0), (vi x1), (vr x2), (vi x3), (vi x4), .unset, .unset] [] := by first | (simp [entryFrame, mkF, argsToLocals, Value.category]; done) | rfl
def Q_au13_1 (Z : State) (wREFUSED : Addr) (wPUBLISHED : Addr) (wCS : Int32) (pa1 : Addr) (pa2 : Addr) (pk3 : ClassId) (pi4 : Int32) (pi5 : Int32) (pk6 : ClassId) (h0 : Heap) (n0 : Nat) (v : Option Value) (h : Heap) (L : List Loc) : Prop := v = some (.int 2) ∧ Fr n0 L ∧ Keep h0 h [pa2] ∧ Exa Z h pa2 "[B" ∧ Arv Z h pa2 pk6 .byte (2 : Int32) ([(.int (nar .byte (pi4.toInt8.toInt32))), (.int (nar .byte (pi5.toInt8.toInt32)))]) (.int 0)
theorem au13_1 (l : Launch) (Z : State) (a0 : Array Value) (hw : ∀ d ∈ tables_1, d.before a0 Z = true) (ws : List Jvm.Cond) (wREFUSED : Addr) (wPUBLISHED : Addr) (wCS : Int32) (hS : SS Z wREFUSED wPUBLISHED wCS) (pa1 : Addr) (pa2 : Addr) (pk3 : ClassId) (pi4 : Int32) (pi5 : Int32) (pk6 : ClassId) (h0 : Heap) (n0 : Nat) (O0 : Old Z n0 h0) (P0 : Arv Z h0 pa1 pk3 .char (2 : Int32) ([(.int pi4), (.int pi5)]) (.int 0)) (P2 : Arv Z h0 pa2 pk6 .byte (2 : Int32) ([(.int 0), (.int 0)]) (.int 0)) (P3 : Exa Z h0 pa2 "[B") (P4 : ¬ (255 : Int32) < pi4) (P5 : ¬ (255 : Int32) < pi5) (P7 : n0 ≤ pa2) (P8 : pa1 ≠ pa2) :
    MetB l M10 jdk_52_method_21_code 7 (some .int) ws (rmk 0 0 0 0) Z h0 #[(.ref pa1), (.int 0), (.ref pa2), (.int 0), (.int 2)] (Q_au13_1 Z wREFUSED wPUBLISHED wCS pa1 pa2 pk3 pi4 pi5 pk6 h0 n0) := by
  refine own_body (plainFor_of_name pn_java_lang_StringUTF16) ?_
  intro p e s m below meth c s₁ hx hby hml hown hnm hret0 hlk0 hZ X0 e0
  have N0 := Fr.nil n0
  have pre0 : ∀ t, Steps p.tables e below (s₁.setTop (mkF m 0 #[(vr pa1), (vi 0), (vr pa2), (vi 0), (vi 2), .unset, .unset] [])) t → Steps p.tables e below (s₁.setTop (entryFrame m #[(.ref pa1), (.int 0), (.ref pa2), (.int 0), (.int 2)] 7)) t := fun t k => castTop (ef_au13_1 m pa1 (0 : Int32) pa2 (0 : Int32) (2 : Int32)) k
  have K0 := Keep.refl h0 [pa2]
  have hS0 := hS
  obtain ⟨S_wREFUSED, E_wREFUSED, S_wPUBLISHED, E_wPUBLISHED, S_wCS, N_wCS⟩ := hS0
  obtain ⟨cl1, Ar1, qc1, Sz1, Nn1, Ha1, Gg1⟩ := (id P0)
  have hin1 : ¬ ((0 : Int32) < 0 ∨ cl1.slots.size ≤ ((0 : Int32)).toNatClampNeg) := inb_of Sz1 ⟨by decide, by decide⟩
  have hat1 : cl1.slots[((0 : Int32)).toNatClampNeg]? = some (.int pi4) := Ha1.at hin1 rfl
  obtain ⟨cl2, Ar2, qc2, Sz2, Nn2, Ha2, Gg2⟩ := (id P2)
  have hin2 : ¬ ((0 : Int32) < 0 ∨ cl2.slots.size ≤ ((0 : Int32)).toNatClampNeg) := inb_of Sz2 ⟨by decide, by decide⟩
  obtain ⟨T2, h2, X2, e2, W2, st2⟩ := stB X0 hx hZ e0 Ar2 (j := (0 : Int32)) hin2 (g := (mkF m 31 #[(vr pa1), (vi 0), (vr pa2), (vi 0), (vi 2), (vi 0), (vi pi4)] [(.int (pi4.toInt8.toInt32)), (.int 0), (.ref pa2)])) rfl rfl (hb hby d13_31)
  have O3 : Old Z n0 h2 := O0.wr W2 P7
  have K3 : Keep h0 h2 [pa2] := K0.wr W2 (Or.inl (List.mem_of_getElem? (i := 0) rfl))
  have V2 : Arv Z h2 pa2 pk6 .byte (2 : Int32) ([(.int (nar .byte (pi4.toInt8.toInt32))), (.int 0)]) (.int 0) := (Arv.set Ar2 qc2 Sz2 Nn2 Ha2 Gg2 (v := (.int (nar .byte (pi4.toInt8.toInt32)))) (fits_nar_byte _) W2 0 rfl (Nat.le_of_ble_eq_true rfl))
  have N2 := Fr.snoc X2 N0 P7
  have f4 : Arv Z h2 pa1 pk3 .char (2 : Int32) ([(.int pi4), (.int pi5)]) (.int 0) := (P0.other W2 P8)
  obtain ⟨cl5, Ar5, qc5, Sz5, Nn5, Ha5, Gg5⟩ := (id f4)
  have hin5 : ¬ ((1 : Int32) < 0 ∨ cl5.slots.size ≤ ((1 : Int32)).toNatClampNeg) := inb_of Sz5 ⟨by decide, by decide⟩
  have hat5 : cl5.slots[((1 : Int32)).toNatClampNeg]? = some (.int pi5) := Ha5.at hin5 rfl
  obtain ⟨cl6, Ar6, qc6, Sz6, Nn6, Ha6, Gg6⟩ := (id V2)
  have hin6 : ¬ ((1 : Int32) < 0 ∨ cl6.slots.size ≤ ((1 : Int32)).toNatClampNeg) := inb_of Sz6 ⟨by decide, by decide⟩
  obtain ⟨T6, h6, X6, e6, W6, st6⟩ := stB X2 hx hZ e2 Ar6 (j := (1 : Int32)) hin6 (g := (mkF m 31 #[(vr pa1), (vi 1), (vr pa2), (vi 1), (vi 2), (vi 1), (vi pi5)] [(.int (pi5.toInt8.toInt32)), (.int 1), (.ref pa2)])) rfl rfl (hb hby d13_31)
  have O7 : Old Z n0 h6 := O3.wr W6 P7
  have K7 : Keep h0 h6 [pa2] := K3.wr W6 (Or.inl (List.mem_of_getElem? (i := 0) rfl))
  have V6 : Arv Z h6 pa2 pk6 .byte (2 : Int32) ([(.int (nar .byte (pi4.toInt8.toInt32))), (.int (nar .byte (pi5.toInt8.toInt32)))]) (.int 0) := (Arv.set Ar6 qc6 Sz6 Nn6 Ha6 Gg6 (v := (.int (nar .byte (pi5.toInt8.toInt32)))) (fits_nar_byte _) W6 1 rfl (Nat.le_of_ble_eq_true rfl))
  have N6 := Fr.snoc X6 N2 P7
  have f8 : Exa Z h6 pa2 "[B" := ((P3.wr W2).wr W6)
  obtain ⟨fs, hr, hrun, hended, hW, hsame⟩ := X6.leave (v := some (.int 2)) (fun h => by rw [hret0] at h; cases h)
  refine ⟨_, _, pre0 _ ?_, hrun, hended, _, _, rfl, ?_, ⟨_, rfl⟩, hW, hsame.mono (by decide) (by decide)⟩
  · skip
    show Steps p.tables e below (s₁.setTop (mkF m 0 #[(vr pa1), (vi 0), (vr pa2), (vi 0), (vi 2), .unset, .unset] [])) _
    refine XS.iconst X0.here hx rfl (hb hby d13_0) ?_
    refine XS.istore X0.here hx rfl (hb hby d13_1) rfl (l' := #[(vr pa1), (vi 0), (vr pa2), (vi 0), (vi 2), (vi 0), .unset]) rfl ?_
    refine XS.iload X0.here hx rfl (hb hby d13_3) rfl ?_
    refine XS.iload X0.here hx rfl (hb hby d13_5) rfl ?_
    refine XS.icmpNo X0.here hx rfl (hb hby d13_7) rfl (tlt (by decide : (0 : Int32) < (2 : Int32))).2.1 ?_
    refine XS.aloadN X0.here hx rfl (hb hby d13_10) rfl rfl ?_
    refine XS.iloadN X0.here hx rfl (hb hby d13_11) rfl ?_
    refine X0.caload hx (j := (0 : Int32)) (v := (.int pi4)) (by rw [e0]; exact Ar1.1) (State.isArrayOf_alike hZ.alike Ar1.2.1) Ar1.2.2 hin1 hat1 (g := (mkF m 12 #[(vr pa1), (vi 0), (vr pa2), (vi 0), (vi 2), (vi 0), .unset] [(.int 0), (.ref pa1)])) rfl rfl (hb hby d13_12) _ ?_
    show Steps p.tables e below (s₁.setTop (mkF m 13 #[(vr pa1), (vi 0), (vr pa2), (vi 0), (vi 2), (vi 0), .unset] [(.int pi4)])) _
    refine XS.istore X0.here hx rfl (hb hby d13_13) rfl (l' := #[(vr pa1), (vi 0), (vr pa2), (vi 0), (vi 2), (vi 0), (vi pi4)]) rfl ?_
    refine XS.iload X0.here hx rfl (hb hby d13_15) rfl ?_
    refine XS.sipush X0.here hx rfl (hb hby d13_17) ?_
    refine XS.icmpYes X0.here hx rfl (pc0 := 20) (pc' := 26) rfl (hb hby d13_20) rfl (flt (P4 : ¬ ((255 : Int32) < pi4))).2.2.2 (by decide) (by decide) ?_
    refine XS.aloadN X0.here hx rfl (hb hby d13_26) rfl rfl ?_
    refine XS.iloadN X0.here hx rfl (hb hby d13_27) rfl ?_
    refine XS.iload X0.here hx rfl (hb hby d13_28) rfl ?_
    refine XS.i2b X0.here hx rfl (hb hby d13_30) rfl ?_
    show Steps p.tables e below (s₁.setTop (mkF m 31 #[(vr pa1), (vi 0), (vr pa2), (vi 0), (vi 2), (vi 0), (vi pi4)] [(.int (pi4.toInt8.toInt32)), (.int 0), (.ref pa2)])) _
    refine st2 _ ?_
    refine XS.iinc X2.here hx rfl (hb hby d13_32) rfl (l' := #[(vr pa1), (vi 1), (vr pa2), (vi 0), (vi 2), (vi 0), (vi pi4)]) rfl ?_
    refine XS.iinc X2.here hx rfl (hb hby d13_35) rfl (l' := #[(vr pa1), (vi 1), (vr pa2), (vi 1), (vi 2), (vi 0), (vi pi4)]) rfl ?_
    refine XS.iinc X2.here hx rfl (hb hby d13_38) rfl (l' := #[(vr pa1), (vi 1), (vr pa2), (vi 1), (vi 2), (vi 1), (vi pi4)]) rfl ?_
    refine XS.goto X2.here hx rfl (pc0 := 41) (pc' := 3) rfl (hb hby d13_41) (by decide) (by decide) ?_
    refine XS.iload X2.here hx rfl (hb hby d13_3) rfl ?_
    refine XS.iload X2.here hx rfl (hb hby d13_5) rfl ?_
    refine XS.icmpNo X2.here hx rfl (hb hby d13_7) rfl (tlt (by decide : (1 : Int32) < (2 : Int32))).2.1 ?_
    show Steps p.tables e below (T2.setTop (mkF m 10 #[(vr pa1), (vi 1), (vr pa2), (vi 1), (vi 2), (vi 1), (vi pi4)] [])) _
    refine XS.aloadN X2.here hx rfl (hb hby d13_10) rfl rfl ?_
    refine XS.iloadN X2.here hx rfl (hb hby d13_11) rfl ?_
    refine X2.caload hx (j := (1 : Int32)) (v := (.int pi5)) (by rw [e2]; exact Ar5.1) (State.isArrayOf_alike hZ.alike Ar5.2.1) Ar5.2.2 hin5 hat5 (g := (mkF m 12 #[(vr pa1), (vi 1), (vr pa2), (vi 1), (vi 2), (vi 1), (vi pi4)] [(.int 1), (.ref pa1)])) rfl rfl (hb hby d13_12) _ ?_
    refine XS.istore X2.here hx rfl (hb hby d13_13) rfl (l' := #[(vr pa1), (vi 1), (vr pa2), (vi 1), (vi 2), (vi 1), (vi pi5)]) rfl ?_
    refine XS.iload X2.here hx rfl (hb hby d13_15) rfl ?_
    refine XS.sipush X2.here hx rfl (hb hby d13_17) ?_
    refine XS.icmpYes X2.here hx rfl (pc0 := 20) (pc' := 26) rfl (hb hby d13_20) rfl (flt (P5 : ¬ ((255 : Int32) < pi5))).2.2.2 (by decide) (by decide) ?_
    refine XS.aloadN X2.here hx rfl (hb hby d13_26) rfl rfl ?_
    show Steps p.tables e below (T2.setTop (mkF m 27 #[(vr pa1), (vi 1), (vr pa2), (vi 1), (vi 2), (vi 1), (vi pi5)] [(.ref pa2)])) _
    refine XS.iloadN X2.here hx rfl (hb hby d13_27) rfl ?_
    refine XS.iload X2.here hx rfl (hb hby d13_28) rfl ?_
    refine XS.i2b X2.here hx rfl (hb hby d13_30) rfl ?_
    refine st6 _ ?_
    refine XS.iinc X6.here hx rfl (hb hby d13_32) rfl (l' := #[(vr pa1), (vi 2), (vr pa2), (vi 1), (vi 2), (vi 1), (vi pi5)]) rfl ?_
    refine XS.iinc X6.here hx rfl (hb hby d13_35) rfl (l' := #[(vr pa1), (vi 2), (vr pa2), (vi 2), (vi 2), (vi 1), (vi pi5)]) rfl ?_
    refine XS.iinc X6.here hx rfl (hb hby d13_38) rfl (l' := #[(vr pa1), (vi 2), (vr pa2), (vi 2), (vi 2), (vi 2), (vi pi5)]) rfl ?_
    refine XS.goto X6.here hx rfl (pc0 := 41) (pc' := 3) rfl (hb hby d13_41) (by decide) (by decide) ?_
    show Steps p.tables e below (T6.setTop (mkF m 3 #[(vr pa1), (vi 2), (vr pa2), (vi 2), (vi 2), (vi 2), (vi pi5)] [])) _
    refine XS.iload X6.here hx rfl (hb hby d13_3) rfl ?_
    refine XS.iload X6.here hx rfl (hb hby d13_5) rfl ?_
    refine XS.icmpYes X6.here hx rfl (pc0 := 7) (pc' := 44) rfl (hb hby d13_7) rfl (flt (by decide : ¬ ((2 : Int32) < (2 : Int32)))).2.1 (by decide) (by decide) ?_
    refine XS.iload X6.here hx rfl (hb hby d13_44) rfl ?_
    exact retI X6 hx hret0 (hb hby d13_46) hr
  · show Q_au13_1 Z wREFUSED wPUBLISHED wCS pa1 pa2 pk3 pi4 pi5 pk6 h0 n0 _ T6.heap _
    rw [e6]
    exact ⟨rfl, N6, K7, f8, V6⟩
def Q_au12_1 (Z : State) (wREFUSED : Addr) (wPUBLISHED : Addr) (wCS : Int32) (pa1 : Addr) (pk2 : ClassId) (pi3 : Int32) (pi4 : Int32) (h0 : Heap) (n0 : Nat) (v : Option Value) (h : Heap) (L : List Loc) : Prop := ∃ (e1 : Addr) (e2 : ClassId), v = some (.ref e1) ∧ Fr n0 L ∧ Keep h0 h [] ∧ h0.size ≤ e1 ∧ Exa Z h e1 "[B" ∧ Arv Z h e1 e2 .byte (2 : Int32) ([(.int (nar .byte (pi3.toInt8.toInt32))), (.int (nar .byte (pi4.toInt8.toInt32)))]) (.int 0)
theorem au12_1 (l : Launch) (Z : State) (a0 : Array Value) (hw : ∀ d ∈ tables_1, d.before a0 Z = true) (ws : List Jvm.Cond) (wREFUSED : Addr) (wPUBLISHED : Addr) (wCS : Int32) (hS : SS Z wREFUSED wPUBLISHED wCS) (pa1 : Addr) (pk2 : ClassId) (pi3 : Int32) (pi4 : Int32) (h0 : Heap) (n0 : Nat) (O0 : Old Z n0 h0) (P0 : Arv Z h0 pa1 pk2 .char (2 : Int32) ([(.int pi3), (.int pi4)]) (.int 0)) (P2 : ¬ (255 : Int32) < pi3) (P3 : ¬ (255 : Int32) < pi4) :
    MetB l M11 jdk_52_method_16_code 6 (some (.array .byte)) ws (rmk 1 1 2 18) Z h0 #[(.ref pa1), (.int 0), (.int 2)] (Q_au12_1 Z wREFUSED wPUBLISHED wCS pa1 pk2 pi3 pi4 h0 n0) := by
  refine own_body (plainFor_of_name pn_java_lang_StringUTF16) ?_
  intro p e s m below meth c s₁ hx hby hml hown hnm hret0 hlk0 hZ X0 e0
  have N0 := Fr.nil n0
  have pre0 : ∀ t, Steps p.tables e below (s₁.setTop (mkF m 0 #[(vr pa1), (vi 0), (vi 2), .unset, .unset, .unset] [])) t → Steps p.tables e below (s₁.setTop (entryFrame m #[(.ref pa1), (.int 0), (.int 2)] 6)) t := fun t k => castTop (ef_au12_1 m pa1 (0 : Int32) (2 : Int32)) k
  have K0 := Keep.refl h0 []
  have hS0 := hS
  obtain ⟨S_wREFUSED, E_wREFUSED, S_wPUBLISHED, E_wPUBLISHED, S_wCS, N_wCS⟩ := hS0
  obtain ⟨T1, h1, k1, X1, e1, E1, A1, Z1, st1⟩ := newPE X0 hx hZ (ow hw 19 rfl) e0 (g := (mkF m 1 #[(vr pa1), (vi 0), (vi 2), .unset, .unset, .unset] [(.int 2)])) rfl (hb hby d12_1) rfl (by decide) (cap := 2) (by decide) (by decide) (by decide) (by decide) (ad := "[B") rfl
  obtain ⟨b1, g1⟩ : ∃ z, z = h0.size := ⟨_, rfl⟩
  rw [← g1] at A1 Z1 st1
  have ne2 : pa1 ≠ b1 := Nat.ne_of_lt (Nat.lt_of_lt_of_le P0.lt (Nat.le_of_eq g1.symm))
  have g3 : n0 ≤ b1 := Nat.le_trans (own_sz O0) (Nat.le_of_eq g1.symm)
  have sz4 : h0.size ≤ b1 := Nat.le_trans K0.1 (Nat.le_of_eq g1.symm)
  have O5 : Old Z n0 h1 := O0.ext E1
  have K5 : Keep h0 h1 [] := K0.ext E1
  have V1 : Arv Z h1 b1 k1 .byte (2 : Int32) ([(.int 0), (.int 0)]) (.int 0) := (Arv.new A1 (by decide)).pad (pad_rep [] (.int 0) 2)
  have f6 : Arv Z h1 pa1 pk2 .char (2 : Int32) ([(.int pi3), (.int pi4)]) (.int 0) := (P0.ext E1)
  obtain ⟨_, _, ⟨T7, L7, k7, n7⟩, -, X7, ⟨Lc7, hQ7, l7, y7, z7⟩, st7⟩ := Jvm.LawKit.callS X1 hx (y := M10) hown (mvT hZ (ow hw 75 rfl)) (mvT hZ (ow hw 76 rfl)) (mvT hZ (ow hw 73 rfl)) (mvT hZ (ow hw 77 rfl)) (by decide) (backOf (W := 0) (au13_1 l Z a0 hw [] wREFUSED wPUBLISHED wCS hS pa1 b1 pk2 pi3 pi4 k1 h1 n0 O5 f6 V1 Z1 P2 P3 g3 ne2) hZ (ow hw 77 rfl) (ow hw 73 rfl) (by decide) (by decide)) (g := (mkF m 9 #[(vr pa1), (vi 0), (vi 2), (vr b1), .unset, .unset] [(.int 2), (.int 0), (.ref b1), (.int 0), (.ref pa1)])) rfl (by rw [hml]; rfl) (argsL := [(.ref pa1), (.int 0), (.ref b1), (.int 0), (.int 2)]) (rest := []) (lenOf pd_10 rfl) rfl (by show 2 * 0 + _ ≤ _; exact Nat.le_of_eq rfl) (hb hby d12_9) (fun _ _ => ⟨rfl, e1, (by decide : 1 + 0 ≤ _), (by decide : 2 + 0 ≤ _)⟩)
  dsimp only [Pt.U, Pt.locs, Pt.cells, Pt.slots] at X7 l7 y7 z7 st7 hQ7
  subst y7 z7
  obtain ⟨rfl, Nq7, K7q, p7_0, p7_1⟩ := hQ7
  have N7 : Fr n0 L7 := (congrArg (Fr n0) l7).mpr (Fr.app N0 Nq7)
  have O8 : Old Z n0 T7.heap := O5.keep K7q (allS g3 all0)
  have K8 : Keep h0 T7.heap [] := K5.trans K7q (allS (Or.inr sz4) all0)
  obtain ⟨fs, hr, hrun, hended, hW, hsame⟩ := X7.leave (v := some (.ref b1)) (fun h => by rw [hret0] at h; cases h)
  refine ⟨_, _, pre0 _ ?_, hrun, hended, _, _, rfl, ?_, ⟨_, rfl⟩, hW, hsame.mono (by decide) (by decide)⟩
  · skip
    show Steps p.tables e below (s₁.setTop (mkF m 0 #[(vr pa1), (vi 0), (vi 2), .unset, .unset, .unset] [])) _
    refine XS.iloadN X0.here hx rfl (hb hby d12_0) rfl ?_
    refine st1 _ ?_
    refine XS.astoreN X1.here hx rfl (hb hby d12_3) rfl rfl (l' := #[(vr pa1), (vi 0), (vi 2), (vr b1), .unset, .unset]) rfl ?_
    refine XS.aloadN X1.here hx rfl (hb hby d12_4) rfl rfl ?_
    refine XS.iloadN X1.here hx rfl (hb hby d12_5) rfl ?_
    refine XS.aloadN X1.here hx rfl (hb hby d12_6) rfl rfl ?_
    refine XS.iconst X1.here hx rfl (hb hby d12_7) ?_
    refine XS.iloadN X1.here hx rfl (hb hby d12_8) rfl ?_
    show Steps p.tables e below (T1.setTop (mkF m 9 #[(vr pa1), (vi 0), (vi 2), (vr b1), .unset, .unset] [(.int 2), (.int 0), (.ref b1), (.int 0), (.ref pa1)])) _
    refine st7 _ ?_
    refine XS.istore X7.here hx rfl (hb hby d12_12) rfl (l' := #[(vr pa1), (vi 0), (vi 2), (vr b1), (vi 2), .unset]) rfl ?_
    refine XS.iload X7.here hx rfl (hb hby d12_14) rfl ?_
    refine XS.iloadN X7.here hx rfl (hb hby d12_16) rfl ?_
    refine XS.icmpYes X7.here hx rfl (pc0 := 17) (pc' := 57) rfl (hb hby d12_17) rfl (teq (by decide : (2 : Int32) = (2 : Int32))).1 (by decide) (by decide) ?_
    refine XS.aloadN X7.here hx rfl (hb hby d12_57) rfl rfl ?_
    jvm_step X7.here [X7.here.top, hx, (hb hby d12_58), X7.method', hret0, Value.isRef, FieldType.isReference]
    first | (intro acts; rw [hr _ acts rfl rfl rfl]) | rw [hr _ _ rfl rfl rfl]
    exact Steps.refl _
  · show Q_au12_1 Z wREFUSED wPUBLISHED wCS pa1 pk2 pi3 pi4 h0 n0 _ T7.heap _
    exact ⟨b1, k1, rfl, N7, K8, sz4, p7_0, p7_1⟩
theorem ef_au14_1 (m : MethodId) (x0 : Addr) (x1 : Int32)  : entryFrame m #[(.ref x0), (.int x1)] 2 = mkF m 0 #[(vr x0), (vi x1)] [] := by first | (simp [entryFrame, mkF, argsToLocals, Value.category]; done) | rfl
def Q_au14_1 (Z : State) (wREFUSED : Addr) (wPUBLISHED : Addr) (wCS : Int32) (pa1 : Addr) (pk2 : ClassId) (pi3 : Int32) (pi4 : Int32) (h0 : Heap) (n0 : Nat) (v : Option Value) (h : Heap) (L : List Loc) : Prop := v = some (.int 0) ∧ Fr n0 L ∧ h = h0
theorem au14_1 (l : Launch) (Z : State) (a0 : Array Value) (hw : ∀ d ∈ tables_1, d.before a0 Z = true) (ws : List Jvm.Cond) (wREFUSED : Addr) (wPUBLISHED : Addr) (wCS : Int32) (hS : SS Z wREFUSED wPUBLISHED wCS) (pa1 : Addr) (pk2 : ClassId) (pi3 : Int32) (pi4 : Int32) (h0 : Heap) (n0 : Nat) (O0 : Old Z n0 h0) (P0 : Arv Z h0 pa1 pk2 .byte (2 : Int32) ([(.int pi3), (.int pi4)]) (.int 0)) :
    MetB l M12 jdk_52_method_15_code 2 (some .byte) ws (rmk 0 0 0 0) Z h0 #[(.ref pa1), (.int 2)] (Q_au14_1 Z wREFUSED wPUBLISHED wCS pa1 pk2 pi3 pi4 h0 n0) := by
  refine own_body (plainFor_of_name pn_java_lang_StringUTF16) ?_
  intro p e s m below meth c s₁ hx hby hml hown hnm hret0 hlk0 hZ X0 e0
  have N0 := Fr.nil n0
  have pre0 : ∀ t, Steps p.tables e below (s₁.setTop (mkF m 0 #[(vr pa1), (vi 2)] [])) t → Steps p.tables e below (s₁.setTop (entryFrame m #[(.ref pa1), (.int 2)] 2)) t := fun t k => castTop (ef_au14_1 m pa1 (2 : Int32)) k
  have hS0 := hS
  obtain ⟨S_wREFUSED, E_wREFUSED, S_wPUBLISHED, E_wPUBLISHED, S_wCS, N_wCS⟩ := hS0
  obtain ⟨cl1, Ar1, -, Sz1, Nn1, -, -⟩ := (id P0)
  have pre2 : ∀ t, Steps p.tables e below (s₁.setTop (mkF m 8 #[(vr pa1), (vi 2)] [(.int 0)])) t → Steps p.tables e below (s₁.setTop (entryFrame m #[(.ref pa1), (.int 2)] 2)) t := by
    intro t k
    refine pre0 t ?_
    show Steps p.tables e below (s₁.setTop (mkF m 0 #[(vr pa1), (vi 2)] [])) _
    refine XS.iloadN X0.here hx rfl (hb hby d14_0) rfl ?_
    refine XS.aloadN X0.here hx rfl (hb hby d14_1) rfl rfl ?_
    refine X0.arraylength hx (by rw [e0]; exact Ar1.1) (State.isArrayOf_alike hZ.alike Ar1.2.1) (g := (mkF m 2 #[(vr pa1), (vi 2)] [(.ref pa1), (.int 2)])) rfl rfl (hb hby d14_2) _ ?_
    rw [len_of Sz1 Nn1]
    refine XS.isub X0.here hx rfl (hb hby d14_3) rfl ?_
    refine XS.bipush X0.here hx rfl (hb hby d14_4) ?_
    refine XS.iushr X0.here hx rfl (hb hby d14_6) rfl ?_
    refine XS.i2b X0.here hx rfl (hb hby d14_7) rfl ?_
    show Steps p.tables e below (s₁.setTop (mkF m 8 #[(vr pa1), (vi 2)] [(.int ((((0 : Int32).toUInt32 >>> ((31 : Int32) &&& 31).toUInt32).toInt32).toInt8.toInt32))])) _
    rw [(by decide : ((((0 : Int32).toUInt32 >>> ((31 : Int32) &&& 31).toUInt32).toInt32).toInt8.toInt32) = (0 : Int32))]
    exact k
  obtain ⟨fs, hr, hrun, hended, hW, hsame⟩ := X0.leave (v := some (.int 0)) (fun h => by rw [hret0] at h; cases h)
  refine ⟨_, _, pre2 _ ?_, hrun, hended, _, _, rfl, ?_, ⟨_, rfl⟩, hW, hsame.mono (by decide) (by decide)⟩
  · skip
    show Steps p.tables e below (s₁.setTop (mkF m 8 #[(vr pa1), (vi 2)] [(.int 0)])) _
    exact retN X0 hx (t := .byte) hret0 (by simp) (hb hby d14_8) hr
  · show Q_au14_1 Z wREFUSED wPUBLISHED wCS pa1 pk2 pi3 pi4 h0 n0 _ s₁.heap _
    rw [e0]
    exact ⟨rfl, N0, rfl⟩
def Q_au3_2 (Z : State) (wREFUSED : Addr) (wPUBLISHED : Addr) (wCS : Int32) (pa1 : Addr) (pa2 : Addr) (pk3 : ClassId) (pi4 : Int32) (pi5 : Int32) (h0 : Heap) (n0 : Nat) (v : Option Value) (h : Heap) (L : List Loc) : Prop := v = none ∧ Fr n0 L ∧ Keep h0 h [pa1] ∧ Exa Z h pa1 s0n
theorem au3_2 (l : Launch) (Z : State) (a0 : Array Value) (hw : ∀ d ∈ tables_1, d.before a0 Z = true) (ws : List Jvm.Cond) (wREFUSED : Addr) (wPUBLISHED : Addr) (wCS : Int32) (hS : SS Z wREFUSED wPUBLISHED wCS) (pa1 : Addr) (pa2 : Addr) (pk3 : ClassId) (pi4 : Int32) (pi5 : Int32) (h0 : Heap) (n0 : Nat) (O0 : Old Z n0 h0) (P0 : Exa Z h0 pa1 s0n) (P1 : Fld Z h0 pa1 s0n "coder" "B" (.int 0)) (P2 : Fld Z h0 pa1 s0n "value" "[B" .null) (P3 : Arv Z h0 pa2 pk3 .char (2 : Int32) ([(.int pi4), (.int pi5)]) (.int 0)) (P5 : ¬ (255 : Int32) < pi4) (P6 : ¬ (255 : Int32) < pi5) (P7 : n0 ≤ pa1) :
    MetB l M0 jdk_42_method_149_code 6 none ws (rmk 2 1 2 35) Z h0 #[(.ref pa1), (.ref pa2), (.int 0), (.int 2), .null] (Q_au3_2 Z wREFUSED wPUBLISHED wCS pa1 pa2 pk3 pi4 pi5 h0 n0) := by
  refine own_body (plainFor_of_name pn_java_lang_String) ?_
  intro p e s m below meth c s₁ hx hby hml hown hnm hret0 hlk0 hZ X0 e0
  have N0 := Fr.nil n0
  have pre0 : ∀ t, Steps p.tables e below (s₁.setTop (mkF m 0 #[(vr pa1), (vr pa2), (vi 0), (vi 2), .val .null, .unset] [])) t → Steps p.tables e below (s₁.setTop (entryFrame m #[(.ref pa1), (.ref pa2), (.int 0), (.int 2), .null] 6)) t := fun t k => castTop (ef_au3_2 m pa1 pa2 (0 : Int32) (2 : Int32)) k
  have K0 := Keep.refl h0 [pa1]
  have hS0 := hS
  obtain ⟨S_wREFUSED, E_wREFUSED, S_wPUBLISHED, E_wPUBLISHED, S_wCS, N_wCS⟩ := hS0
  obtain ⟨T1, X1, e1, st1⟩ := initO X0 hx hZ hown (ow hw 15 rfl) (ow hw 16 rfl) (ow hw 17 rfl) e0 (g := (mkF m 1 #[(vr pa1), (vr pa2), (vi 0), (vi 2), .val .null, .unset] [(.ref pa1)])) rfl (by rw [hml]; rfl) rfl (hb hby d3_1) (by decide) (W := 0) (by show 2 * 0 + _ ≤ _; exact Nat.le_of_eq rfl) (by decide)
  obtain ⟨T2, X2, e2, st2⟩ := getS2 X1 hx hZ hown (host := "") (Or.inl (ow hw 70 rfl)) Via.refl e1 (S_wCS.ext O0.2) (g := (mkF m 27 #[(vr pa1), (vr pa2), (vi 0), (vi 2), .val .null, .unset] [])) rfl (hb hby d3_27)
  obtain ⟨_, _, ⟨T3, L3, k3, n3⟩, -, X3, ⟨Lc3, hQ3, l3, y3, z3⟩, st3⟩ := Jvm.LawKit.callS X2 hx (y := M11) hown (mvT hZ (ow hw 71 rfl)) (mvT hZ (ow hw 72 rfl)) (mvT hZ (ow hw 73 rfl)) (mvT hZ (ow hw 74 rfl)) (by decide) (backOf (W := 0) (au12_1 l Z a0 hw [] wREFUSED wPUBLISHED wCS hS pa2 pk3 pi4 pi5 h0 n0 O0 P3 P5 P6) hZ (ow hw 74 rfl) (ow hw 73 rfl) (by decide) (by decide)) (g := (mkF m 36 #[(vr pa1), (vr pa2), (vi 0), (vi 2), .val .null, .unset] [(.int 2), (.int 0), (.ref pa2)])) rfl (by rw [hml]; rfl) (argsL := [(.ref pa2), (.int 0), (.int 2)]) (rest := []) (lenOf pd_11 rfl) rfl (by show 2 * 0 + _ ≤ _; exact Nat.le_of_eq rfl) (hb hby d3_36) (fun _ _ => ⟨rfl, e2, (by decide : 0 + 1 ≤ _), (by decide : 0 + 2 ≤ _)⟩)
  dsimp only [Pt.U, Pt.locs, Pt.cells, Pt.slots] at X3 l3 y3 z3 st3 hQ3
  subst y3 z3
  obtain ⟨e1_3, e2_3, rfl, Nq3, K3q, p3_0, p3_1, p3_2⟩ := hQ3
  have N3 : Fr n0 L3 := (congrArg (Fr n0) l3).mpr (Fr.app N0 Nq3)
  have ne4 : pa1 ≠ e1_3 := Nat.ne_of_lt (Nat.lt_of_lt_of_le P0.lt p3_0)
  have ne5 : pa2 ≠ e1_3 := Nat.ne_of_lt (Nat.lt_of_lt_of_le P3.lt p3_0)
  have g6 : n0 ≤ e1_3 := Nat.le_trans (own_sz O0) p3_0
  have sz7 : h0.size ≤ e1_3 := Nat.le_trans K0.1 p3_0
  have O8 : Old Z n0 T3.heap := O0.keep K3q all0
  have K8 : Keep h0 T3.heap [pa1] := K0.trans K3q all0
  obtain ⟨_, _, ⟨T9, L9, k9, n9⟩, -, X9, ⟨Lc9, hQ9, l9, y9, z9⟩, st9⟩ := Jvm.LawKit.callS X3 hx (y := M12) hown (mvT hZ (ow hw 78 rfl)) (mvT hZ (ow hw 79 rfl)) (mvT hZ (ow hw 73 rfl)) (mvT hZ (ow hw 80 rfl)) (by decide) (backOf (W := 1) (au14_1 l Z a0 hw [] wREFUSED wPUBLISHED wCS hS e1_3 e2_3 (nar .byte (pi4.toInt8.toInt32)) (nar .byte (pi5.toInt8.toInt32)) T3.heap n0 O8 p3_2) hZ (ow hw 80 rfl) (ow hw 73 rfl) (by decide) (by decide)) (g := (mkF m 45 #[(vr pa1), (vr pa2), (vi 0), (vi 2), .val .null, (vr e1_3)] [(.int 2), (.ref e1_3), (.ref pa1)])) rfl (by rw [hml]; rfl) (argsL := [(.ref e1_3), (.int 2)]) (rest := [(.ref pa1)]) (lenOf pd_12 rfl) rfl (by show 2 * 0 + _ ≤ _; exact Nat.le_of_eq rfl) (hb hby d3_45) (fun _ _ => ⟨rfl, rfl, (by decide : 1 + 0 ≤ _), (by decide : 2 + 0 ≤ _)⟩)
  dsimp only [Pt.U, Pt.locs, Pt.cells, Pt.slots] at X9 l9 y9 z9 st9 hQ9
  subst y9 z9
  obtain ⟨rfl, Nq9, K9q⟩ := hQ9
  have N9 : Fr n0 L9 := (congrArg (Fr n0) l9).mpr (Fr.app N3 Nq9)
  have f10 : Exa Z T3.heap pa1 s0n := (P0.keep K3q)
  have f11 : Fld Z T3.heap pa1 s0n "coder" "B" (.int 0) := (P1.keep K3q nin0)
  obtain ⟨T12, h12, X12, e12, W12, st12⟩ := putFN X9 hx hZ hown (ow hw 25 rfl) Via.refl K9q f11 f10 (Or.inr ⟨(ow hw 21 rfl), rfl, hnm⟩) (ow hw 5 rfl) (ty := .byte) (v' := (.int 0)) (by decide) rfl rfl (g := (mkF m 48 #[(vr pa1), (vr pa2), (vi 0), (vi 2), .val .null, (vr e1_3)] [(.int 0), (.ref pa1)])) rfl rfl (hb hby d3_48)
  have N12 := Fr.snoc X12 N9 P7
  have O13 : Old Z n0 h12 := O8.wr W12 P7
  have K13 : Keep h0 h12 [pa1] := K8.wr W12 (Or.inl (List.mem_of_getElem? (i := 0) rfl))
  have Fw12 : Fld Z h12 pa1 s0n "coder" "B" (.int 0) := f11.same W12
  have f14 : Exa Z h12 pa1 s0n := (f10.wr W12)
  have f15 : Fld Z h12 pa1 s0n "value" "[B" .null := ((P2.keep K3q nin0).other W12 (Or.inr (slot_ne (Or.inr (ow hw 20 rfl)) (Or.inr (ow hw 21 rfl)) (by decide) (t := (.array .byte)) (t' := .byte) (by decide) (by decide))))
  obtain ⟨T16, h16, X16, e16, W16, st16⟩ := putF X12 hx hZ hown (host := "") (Or.inl (ow hw 24 rfl)) Via.refl e12 f15 f14 (Or.inr ⟨(ow hw 20 rfl), rfl, hnm⟩) (ow hw 5 rfl) (ty := (.array .byte)) (by decide) rfl rfl (g := (mkF m 54 #[(vr pa1), (vr pa2), (vi 0), (vi 2), .val .null, (vr e1_3)] [(.ref e1_3), (.ref pa1)])) rfl rfl (hb hby d3_54)
  have N16 := Fr.snoc X16 N12 P7
  have O17 : Old Z n0 h16 := O13.wr W16 P7
  have K17 : Keep h0 h16 [pa1] := K13.wr W16 (Or.inl (List.mem_of_getElem? (i := 0) rfl))
  have Fw16 : Fld Z h16 pa1 s0n "value" "[B" (.ref e1_3) := f15.same W16
  have f18 : Exa Z h16 pa1 s0n := (f14.wr W16)
  obtain ⟨fs, hr, hrun, hended, hW, hsame⟩ := X16.leave (v := none) (fun _ => rfl)
  refine ⟨_, _, pre0 _ ?_, hrun, hended, _, _, rfl, ?_, ⟨_, rfl⟩, hW, hsame.mono (by decide) (by decide)⟩
  · skip
    show Steps p.tables e below (s₁.setTop (mkF m 0 #[(vr pa1), (vr pa2), (vi 0), (vi 2), .val .null, .unset] [])) _
    refine XS.aloadN X0.here hx rfl (hb hby d3_0) rfl rfl ?_
    refine st1 _ ?_
    refine XS.iloadN X1.here hx rfl (hb hby d3_4) rfl ?_
    refine XS.ifYes X1.here hx rfl (pc0 := 5) (pc' := 27) rfl (hb hby d3_5) rfl ((if0 _ _).trans (feq (by decide : ¬ ((2 : Int32) = (0 : Int32)))).2) (by decide) (by decide) ?_
    refine st2 _ ?_
    refine XS.ifNo X2.here hx rfl (hb hby d3_30) rfl ((if0 _ _).trans (feq (N_wCS : ¬ (wCS = (0 : Int32)))).1) ?_
    refine XS.aloadN X2.here hx rfl (hb hby d3_33) rfl rfl ?_
    refine XS.iloadN X2.here hx rfl (hb hby d3_34) rfl ?_
    show Steps p.tables e below (T2.setTop (mkF m 35 #[(vr pa1), (vr pa2), (vi 0), (vi 2), .val .null, .unset] [(.int 0), (.ref pa2)])) _
    refine XS.iloadN X2.here hx rfl (hb hby d3_35) rfl ?_
    refine st3 _ ?_
    refine XS.astore X3.here hx rfl (hb hby d3_39) rfl rfl (l' := #[(vr pa1), (vr pa2), (vi 0), (vi 2), .val .null, (vr e1_3)]) rfl ?_
    refine XS.aloadN X3.here hx rfl (hb hby d3_41) rfl rfl ?_
    refine XS.aload X3.here hx rfl (hb hby d3_42) rfl rfl ?_
    refine XS.iloadN X3.here hx rfl (hb hby d3_44) rfl ?_
    refine st9 _ ?_
    refine st12 _ ?_
    show Steps p.tables e below (T12.setTop (mkF m 51 #[(vr pa1), (vr pa2), (vi 0), (vi 2), .val .null, (vr e1_3)] [])) _
    refine XS.aloadN X12.here hx rfl (hb hby d3_51) rfl rfl ?_
    refine XS.aload X12.here hx rfl (hb hby d3_52) rfl rfl ?_
    refine st16 _ ?_
    exact X16.returnOut hx hret0 (hb hby d3_57) hr
  · show Q_au3_2 Z wREFUSED wPUBLISHED wCS pa1 pa2 pk3 pi4 pi5 h0 n0 _ T16.heap _
    rw [e16]
    exact ⟨rfl, N16, K17, f18⟩
def Q_au2_2 (Z : State) (wREFUSED : Addr) (wPUBLISHED : Addr) (wCS : Int32) (pa1 : Addr) (pa2 : Addr) (pk3 : ClassId) (pi4 : Int32) (pi5 : Int32) (h0 : Heap) (n0 : Nat) (v : Option Value) (h : Heap) (L : List Loc) : Prop := v = none ∧ Fr n0 L ∧ Keep h0 h [pa1] ∧ Exa Z h pa1 s0n
theorem au2_2 (l : Launch) (Z : State) (a0 : Array Value) (hw : ∀ d ∈ tables_1, d.before a0 Z = true) (ws : List Jvm.Cond) (wREFUSED : Addr) (wPUBLISHED : Addr) (wCS : Int32) (hS : SS Z wREFUSED wPUBLISHED wCS) (pa1 : Addr) (pa2 : Addr) (pk3 : ClassId) (pi4 : Int32) (pi5 : Int32) (h0 : Heap) (n0 : Nat) (O0 : Old Z n0 h0) (P0 : Exa Z h0 pa1 s0n) (P1 : Fld Z h0 pa1 s0n "coder" "B" (.int 0)) (P2 : Fld Z h0 pa1 s0n "value" "[B" .null) (P3 : Arv Z h0 pa2 pk3 .char (2 : Int32) ([(.int pi4), (.int pi5)]) (.int 0)) (P5 : ¬ (255 : Int32) < pi4) (P6 : ¬ (255 : Int32) < pi5) (P7 : n0 ≤ pa1) :
    MetB l M1 jdk_42_method_3_code 2 none ws (rmk 3 1 2 52) Z h0 #[(.ref pa1), (.ref pa2)] (Q_au2_2 Z wREFUSED wPUBLISHED wCS pa1 pa2 pk3 pi4 pi5 h0 n0) := by
  refine own_body (plainFor_of_name pn_java_lang_String) ?_
  intro p e s m below meth c s₁ hx hby hml hown hnm hret0 hlk0 hZ X0 e0
  have N0 := Fr.nil n0
  have pre0 : ∀ t, Steps p.tables e below (s₁.setTop (mkF m 0 #[(vr pa1), (vr pa2)] [])) t → Steps p.tables e below (s₁.setTop (entryFrame m #[(.ref pa1), (.ref pa2)] 2)) t := fun t k => castTop (ef_au2_2 m pa1 pa2) k
  have K0 := Keep.refl h0 [pa1]
  have hS0 := hS
  obtain ⟨S_wREFUSED, E_wREFUSED, S_wPUBLISHED, E_wPUBLISHED, S_wCS, N_wCS⟩ := hS0
  obtain ⟨cl1, Ar1, -, Sz1, Nn1, -, -⟩ := (id P3)
  obtain ⟨_, _, ⟨T2, L2, k2, n2⟩, -, X2, ⟨Lc2, hQ2, l2, y2, z2⟩, st2⟩ := X0.specialBack hx (y := M0) rfl hown (mvT hZ (ow hw 11 rfl)) (mvT hZ (ow hw 12 rfl)) (mvT hZ (ow hw 14 rfl)) (by decide) (backOf (W := 0) (au3_2 l Z a0 hw [] wREFUSED wPUBLISHED wCS hS pa1 pa2 pk3 pi4 pi5 h0 n0 O0 P0 P1 P2 P3 P5 P6 P7) hZ (ow hw 14 rfl) (ow hw 6 rfl) (by decide) (by decide)) (g := (mkF m 6 #[(vr pa1), (vr pa2)] [.null, (.int 2), (.int 0), (.ref pa2), (.ref pa1)])) rfl (by rw [hml]; rfl) (Steps.refl _) (a := pa1) (argsL := [(.ref pa2), (.int 0), (.int 2), .null]) (rest := []) (lenOf pd_0 rfl) rfl (by show 2 * 0 + _ ≤ _; exact Nat.le_of_eq rfl) (hb hby d2_6) (fun _ _ => ⟨rfl, e0, (by decide : 0 + 1 ≤ _), (by decide : 0 + 2 ≤ _)⟩)
  dsimp only [Pt.U, Pt.locs, Pt.cells, Pt.slots] at X2 l2 y2 z2 st2 hQ2
  subst y2 z2
  obtain ⟨rfl, Nq2, K2q, p2_0⟩ := hQ2
  have N2 : Fr n0 L2 := (congrArg (Fr n0) l2).mpr (Fr.app N0 Nq2)
  have O3 : Old Z n0 T2.heap := O0.keep K2q (allS P7 all0)
  have K3 : Keep h0 T2.heap [pa1] := K0.trans K2q (allS (Or.inl (List.mem_of_getElem? (i := 0) rfl)) all0)
  obtain ⟨fs, hr, hrun, hended, hW, hsame⟩ := X2.leave (v := none) (fun _ => rfl)
  refine ⟨_, _, pre0 _ ?_, hrun, hended, _, _, rfl, ?_, ⟨_, rfl⟩, hW, hsame.mono (by decide) (by decide)⟩
  · skip
    show Steps p.tables e below (s₁.setTop (mkF m 0 #[(vr pa1), (vr pa2)] [])) _
    refine XS.aloadN X0.here hx rfl (hb hby d2_0) rfl rfl ?_
    refine XS.aloadN X0.here hx rfl (hb hby d2_1) rfl rfl ?_
    refine XS.iconst X0.here hx rfl (hb hby d2_2) ?_
    refine XS.aloadN X0.here hx rfl (hb hby d2_3) rfl rfl ?_
    refine X0.arraylength hx (by rw [e0]; exact Ar1.1) (State.isArrayOf_alike hZ.alike Ar1.2.1) (g := (mkF m 4 #[(vr pa1), (vr pa2)] [(.ref pa2), (.int 0), (.ref pa2), (.ref pa1)])) rfl rfl (hb hby d2_4) _ ?_
    rw [len_of Sz1 Nn1]
    refine XS.aconstNull X0.here hx rfl (hb hby d2_5) ?_
    refine st2.trans ?_
    exact X2.returnOut hx hret0 (hb hby d2_9) hr
  · show Q_au2_2 Z wREFUSED wPUBLISHED wCS pa1 pa2 pk3 pi4 pi5 h0 n0 _ T2.heap _
    exact ⟨rfl, N2, K3, p2_0⟩
theorem d1_96 : decode method_2_code 96 = .ok (.areturn, 1) := by decide +kernel
def Q_au1_2 (Z : State) (wREFUSED : Addr) (wPUBLISHED : Addr) (wCS : Int32) (pi1 : Int32) (pi2 : Int32) (pi3 : Int32) (h0 : Heap) (n0 : Nat) (v : Option Value) (h : Heap) (L : List Loc) : Prop := ∃ (e1 : Addr), v = some (.ref e1) ∧ Fr n0 L ∧ Keep h0 h [] ∧ h0.size ≤ e1 ∧ Exa Z h e1 s0n
theorem au1_2 (l : Launch) (Z : State) (a0 : Array Value) (hw : ∀ d ∈ tables_1, d.before a0 Z = true) (ws : List Jvm.Cond) (wREFUSED : Addr) (wPUBLISHED : Addr) (wCS : Int32) (hS : SS Z wREFUSED wPUBLISHED wCS) (pi1 : Int32) (pi2 : Int32) (pi3 : Int32) (h0 : Heap) (n0 : Nat) (O0 : Old Z n0 h0)  :
    MetB l M2 method_2_code 8 (some (.object s0n)) ws (rmk 4 3 8 66) Z h0 #[(.int 2), (.int pi1), (.int pi2), (.int pi3)] (Q_au1_2 Z wREFUSED wPUBLISHED wCS pi1 pi2 pi3 h0 n0) := by
  refine own_body (plainFor_of_name pn_com_example_onceward_onceward_outbox_PublicationRefusedPinLaw) ?_
  intro p e s m below meth c s₁ hx hby hml hown hnm hret0 hlk0 hZ X0 e0
  have N0 := Fr.nil n0
  have pre0 : ∀ t, Steps p.tables e below (s₁.setTop (mkF m 0 #[(vi 2), (vi pi1), (vi pi2), (vi pi3), .unset, .unset, .unset, .unset] [])) t → Steps p.tables e below (s₁.setTop (entryFrame m #[(.int 2), (.int pi1), (.int pi2), (.int pi3)] 8)) t := fun t k => castTop (ef_au1_2 m (2 : Int32) pi1 pi2 pi3) k
  have K0 := Keep.refl h0 []
  have hS0 := hS
  obtain ⟨S_wREFUSED, E_wREFUSED, S_wPUBLISHED, E_wPUBLISHED, S_wCS, N_wCS⟩ := hS0
  obtain ⟨ca, hca⟩ : ∃ z : Int32, z = ((pi1 &&& (255 : Int32)).toUInt32.toUInt16.toUInt32.toInt32) := ⟨_, rfl⟩
  have pre1 : ∀ t, Steps p.tables e below (s₁.setTop (mkF m 8 #[(vi 2), (vi pi1), (vi pi2), (vi pi3), (vi ca), .unset, .unset, .unset] [])) t → Steps p.tables e below (s₁.setTop (entryFrame m #[(.int 2), (.int pi1), (.int pi2), (.int pi3)] 8)) t := by
    intro t k
    rw [hca] at k
    refine pre0 t ?_
    show Steps p.tables e below (s₁.setTop (mkF m 0 #[(vi 2), (vi pi1), (vi pi2), (vi pi3), .unset, .unset, .unset, .unset] [])) _
    refine XS.iloadN X0.here hx rfl (hb hby d1_0) rfl ?_
    refine XS.sipush X0.here hx rfl (hb hby d1_1) ?_
    refine XS.iand X0.here hx rfl (hb hby d1_4) rfl ?_
    refine XS.i2c X0.here hx rfl (hb hby d1_5) rfl ?_
    refine XS.istore X0.here hx rfl (hb hby d1_6) rfl (l' := #[(vi 2), (vi pi1), (vi pi2), (vi pi3), .val (.int ((pi1 &&& (255 : Int32)).toUInt32.toUInt16.toUInt32.toInt32)), .unset, .unset, .unset]) rfl ?_
    exact k
  have hnca := own_chr hca
  have h255ca : ¬ (255 : Int32) < ca := hnca.1
  obtain ⟨cb, hcb⟩ : ∃ z : Int32, z = ((pi2 &&& (255 : Int32)).toUInt32.toUInt16.toUInt32.toInt32) := ⟨_, rfl⟩
  have pre2 : ∀ t, Steps p.tables e below (s₁.setTop (mkF m 16 #[(vi 2), (vi pi1), (vi pi2), (vi pi3), (vi ca), (vi cb), .unset, .unset] [])) t → Steps p.tables e below (s₁.setTop (entryFrame m #[(.int 2), (.int pi1), (.int pi2), (.int pi3)] 8)) t := by
    intro t k
    rw [hcb] at k
    refine pre1 t ?_
    show Steps p.tables e below (s₁.setTop (mkF m 8 #[(vi 2), (vi pi1), (vi pi2), (vi pi3), (vi ca), .unset, .unset, .unset] [])) _
    refine XS.iloadN X0.here hx rfl (hb hby d1_8) rfl ?_
    refine XS.sipush X0.here hx rfl (hb hby d1_9) ?_
    refine XS.iand X0.here hx rfl (hb hby d1_12) rfl ?_
    refine XS.i2c X0.here hx rfl (hb hby d1_13) rfl ?_
    refine XS.istore X0.here hx rfl (hb hby d1_14) rfl (l' := #[(vi 2), (vi pi1), (vi pi2), (vi pi3), (vi ca), .val (.int ((pi2 &&& (255 : Int32)).toUInt32.toUInt16.toUInt32.toInt32)), .unset, .unset]) rfl ?_
    exact k
  have hncb := own_chr hcb
  have h255cb : ¬ (255 : Int32) < cb := hncb.1
  obtain ⟨cc, hcc⟩ : ∃ z : Int32, z = ((pi3 &&& (255 : Int32)).toUInt32.toUInt16.toUInt32.toInt32) := ⟨_, rfl⟩
  have pre3 : ∀ t, Steps p.tables e below (s₁.setTop (mkF m 24 #[(vi 2), (vi pi1), (vi pi2), (vi pi3), (vi ca), (vi cb), (vi cc), .unset] [])) t → Steps p.tables e below (s₁.setTop (entryFrame m #[(.int 2), (.int pi1), (.int pi2), (.int pi3)] 8)) t := by
    intro t k
    rw [hcc] at k
    refine pre2 t ?_
    show Steps p.tables e below (s₁.setTop (mkF m 16 #[(vi 2), (vi pi1), (vi pi2), (vi pi3), (vi ca), (vi cb), .unset, .unset] [])) _
    refine XS.iloadN X0.here hx rfl (hb hby d1_16) rfl ?_
    refine XS.sipush X0.here hx rfl (hb hby d1_17) ?_
    refine XS.iand X0.here hx rfl (hb hby d1_20) rfl ?_
    refine XS.i2c X0.here hx rfl (hb hby d1_21) rfl ?_
    refine XS.istore X0.here hx rfl (hb hby d1_22) rfl (l' := #[(vi 2), (vi pi1), (vi pi2), (vi pi3), (vi ca), (vi cb), .val (.int ((pi3 &&& (255 : Int32)).toUInt32.toUInt16.toUInt32.toInt32)), .unset]) rfl ?_
    exact k
  have hncc := own_chr hcc
  have h255cc : ¬ (255 : Int32) < cc := hncc.1
  obtain ⟨T4, h4, k4, X4, e4, E4, A4, Z4, st4⟩ := newPE X0 hx hZ (ow hw 7 rfl) e0 (g := (mkF m 71 #[(vi 2), (vi pi1), (vi pi2), (vi pi3), (vi ca), (vi cb), (vi cc), .unset] [(.int 2)])) rfl (hb hby d1_71) rfl (by decide) (cap := 2) (by decide) (by decide) (by decide) (by decide) (ad := "[C") rfl
  obtain ⟨b4, g4⟩ : ∃ z, z = h0.size := ⟨_, rfl⟩
  rw [← g4] at A4 Z4 st4
  have g5 : n0 ≤ b4 := Nat.le_trans (own_sz O0) (Nat.le_of_eq g4.symm)
  have sz6 : h0.size ≤ b4 := Nat.le_trans K0.1 (Nat.le_of_eq g4.symm)
  have O7 : Old Z n0 h4 := O0.ext E4
  have K7 : Keep h0 h4 [] := K0.ext E4
  have V4 : Arv Z h4 b4 k4 .char (2 : Int32) ([(.int 0), (.int 0)]) (.int 0) := (Arv.new A4 (by decide)).pad (pad_rep [] (.int 0) 2)
  obtain ⟨cl8, Ar8, qc8, Sz8, Nn8, Ha8, Gg8⟩ := (id V4)
  have hin8 : ¬ ((0 : Int32) < 0 ∨ cl8.slots.size ≤ ((0 : Int32)).toNatClampNeg) := inb_of Sz8 ⟨by decide, by decide⟩
  obtain ⟨T8, h8, X8, e8, W8, st8⟩ := stC X4 hx hZ e4 Ar8 (j := (0 : Int32)) hin8 (g := (mkF m 80 #[(vi 2), (vi pi1), (vi pi2), (vi pi3), (vi ca), (vi cb), (vi cc), (vr b4)] [(.int ca), (.int 0), (.ref b4)])) rfl rfl (hb hby d1_80)
  have O9 : Old Z n0 h8 := O7.wr W8 g5
  have K9 : Keep h0 h8 [] := K7.wr W8 (Or.inr sz6)
  have V8 : Arv Z h8 b4 k4 .char (2 : Int32) ([(.int ca), (.int 0)]) (.int 0) := own_cast (by rw [hnca.2]; rfl) (Arv.set Ar8 qc8 Sz8 Nn8 Ha8 Gg8 (v := (.int (nar .char ca))) (fits_nar_char _) W8 0 rfl (Nat.le_of_ble_eq_true rfl))
  have N8 := Fr.snoc X8 N0 g5
  obtain ⟨cl10, Ar10, qc10, Sz10, Nn10, Ha10, Gg10⟩ := (id V8)
  have hin10 : ¬ ((1 : Int32) < 0 ∨ cl10.slots.size ≤ ((1 : Int32)).toNatClampNeg) := inb_of Sz10 ⟨by decide, by decide⟩
  obtain ⟨T10, h10, X10, e10, W10, st10⟩ := stC X8 hx hZ e8 Ar10 (j := (1 : Int32)) hin10 (g := (mkF m 86 #[(vi 2), (vi pi1), (vi pi2), (vi pi3), (vi ca), (vi cb), (vi cc), (vr b4)] [(.int cb), (.int 1), (.ref b4)])) rfl rfl (hb hby d1_86)
  have O11 : Old Z n0 h10 := O9.wr W10 g5
  have K11 : Keep h0 h10 [] := K9.wr W10 (Or.inr sz6)
  have V10 : Arv Z h10 b4 k4 .char (2 : Int32) ([(.int ca), (.int cb)]) (.int 0) := own_cast (by rw [hncb.2]; rfl) (Arv.set Ar10 qc10 Sz10 Nn10 Ha10 Gg10 (v := (.int (nar .char cb))) (fits_nar_char _) W10 1 rfl (Nat.le_of_ble_eq_true rfl))
  have N10 := Fr.snoc X10 N8 g5
  obtain ⟨T12, h12, X12, e12, E12, A12, D12, -, st12⟩ := newO X10 hx hZ hown (ow hw 4 rfl) (ow hw 5 rfl) (ow hw 6 rfl) e10 (g := (mkF m 87 #[(vi 2), (vi pi1), (vi pi2), (vi pi3), (vi ca), (vi cb), (vi cc), (vr b4)] [])) rfl (hb hby d1_87) (by decide) (by decide)
  obtain ⟨b12, g12⟩ : ∃ z, z = h10.size := ⟨_, rfl⟩
  rw [← g12] at A12 D12 st12
  have ne13 : b4 ≠ b12 := Nat.ne_of_lt (Nat.lt_of_lt_of_le V10.lt (Nat.le_of_eq g12.symm))
  have g14 : n0 ≤ b12 := Nat.le_trans (own_sz O11) (Nat.le_of_eq g12.symm)
  have sz15 : h0.size ≤ b12 := Nat.le_trans K11.1 (Nat.le_of_eq g12.symm)
  have O16 : Old Z n0 h12 := O11.ext E12
  have K16 : Keep h0 h12 [] := K11.ext E12
  have f17 : Fld Z h12 b12 s0n "value" "[B" .null := D12 (Or.inr (ow hw 20 rfl)) (ty := (.array .byte)) (by decide)
  have f18 : Fld Z h12 b12 s0n "coder" "B" (.int 0) := D12 (Or.inr (ow hw 21 rfl)) (ty := .byte) (by decide)
  have f19 : Arv Z h12 b4 k4 .char (2 : Int32) ([(.int ca), (.int cb)]) (.int 0) := (V10.ext E12)
  obtain ⟨_, _, ⟨T20, L20, k20, n20⟩, -, X20, ⟨Lc20, hQ20, l20, y20, z20⟩, st20⟩ := X12.specialBack hx (y := M1) rfl hown (mvT hZ (ow hw 8 rfl)) (mvT hZ (ow hw 9 rfl)) (mvT hZ (ow hw 10 rfl)) (by decide) (backOf (W := 1) (au2_2 l Z a0 hw [] wREFUSED wPUBLISHED wCS hS b12 b4 k4 ca cb h12 n0 O16 A12 f18 f17 f19 h255ca h255cb g14) hZ (ow hw 10 rfl) (ow hw 6 rfl) (by decide) (by decide)) (g := (mkF m 93 #[(vi 2), (vi pi1), (vi pi2), (vi pi3), (vi ca), (vi cb), (vi cc), (vr b4)] [(.ref b4), (.ref b12), (.ref b12)])) rfl (by rw [hml]; rfl) (Steps.refl _) (a := b12) (argsL := [(.ref b4)]) (rest := [(.ref b12)]) (lenOf pd_1 rfl) rfl (by show 2 * 0 + _ ≤ _; exact Nat.le_of_eq rfl) (hb hby d1_93) (fun _ _ => ⟨rfl, e12, (by decide : 2 + 1 ≤ _), (by decide : 6 + 2 ≤ _)⟩)
  dsimp only [Pt.U, Pt.locs, Pt.cells, Pt.slots] at X20 l20 y20 z20 st20 hQ20
  subst y20 z20
  obtain ⟨rfl, Nq20, K20q, p20_0⟩ := hQ20
  have N20 : Fr n0 L20 := (congrArg (Fr n0) l20).mpr (Fr.app N10 Nq20)
  have O21 : Old Z n0 T20.heap := O16.keep K20q (allS g14 all0)
  have K21 : Keep h0 T20.heap [] := K16.trans K20q (allS (Or.inr sz15) all0)
  obtain ⟨fs, hr, hrun, hended, hW, hsame⟩ := X20.leave (v := some (.ref b12)) (fun h => by rw [hret0] at h; cases h)
  refine ⟨_, _, pre3 _ ?_, hrun, hended, _, _, rfl, ?_, ⟨_, rfl⟩, hW, hsame.mono (by decide) (by decide)⟩
  · skip
    show Steps p.tables e below (s₁.setTop (mkF m 24 #[(vi 2), (vi pi1), (vi pi2), (vi pi3), (vi ca), (vi cb), (vi cc), .unset] [])) _
    refine XS.iloadN X0.here hx rfl (hb hby d1_24) rfl ?_
    refine XS.ifYes X0.here hx rfl (pc0 := 25) (pc' := 39) rfl (hb hby d1_25) rfl ((if0 _ _).trans (feq (by decide : ¬ ((2 : Int32) = (0 : Int32)))).2) (by decide) (by decide) ?_
    refine XS.iloadN X0.here hx rfl (hb hby d1_39) rfl ?_
    refine XS.iconst X0.here hx rfl (hb hby d1_40) ?_
    refine XS.icmpYes X0.here hx rfl (pc0 := 41) (pc' := 65) rfl (hb hby d1_41) rfl (feq (by decide : ¬ ((2 : Int32) = (1 : Int32)))).2 (by decide) (by decide) ?_
    refine XS.iloadN X0.here hx rfl (hb hby d1_65) rfl ?_
    refine XS.iconst X0.here hx rfl (hb hby d1_66) ?_
    refine XS.icmpNo X0.here hx rfl (hb hby d1_67) rfl (teq (by decide : (2 : Int32) = (2 : Int32))).2 ?_
    show Steps p.tables e below (s₁.setTop (mkF m 70 #[(vi 2), (vi pi1), (vi pi2), (vi pi3), (vi ca), (vi cb), (vi cc), .unset] [])) _
    refine XS.iconst X0.here hx rfl (hb hby d1_70) ?_
    refine st4 _ ?_
    refine XS.astore X4.here hx rfl (hb hby d1_73) rfl rfl (l' := #[(vi 2), (vi pi1), (vi pi2), (vi pi3), (vi ca), (vi cb), (vi cc), (vr b4)]) rfl ?_
    refine XS.aload X4.here hx rfl (hb hby d1_75) rfl rfl ?_
    refine XS.iconst X4.here hx rfl (hb hby d1_77) ?_
    refine XS.iload X4.here hx rfl (hb hby d1_78) rfl ?_
    refine st8 _ ?_
    refine XS.aload X8.here hx rfl (hb hby d1_81) rfl rfl ?_
    show Steps p.tables e below (T8.setTop (mkF m 83 #[(vi 2), (vi pi1), (vi pi2), (vi pi3), (vi ca), (vi cb), (vi cc), (vr b4)] [(.ref b4)])) _
    refine XS.iconst X8.here hx rfl (hb hby d1_83) ?_
    refine XS.iload X8.here hx rfl (hb hby d1_84) rfl ?_
    refine st10 _ ?_
    refine st12 _ ?_
    refine XS.dup X12.here hx rfl (hb hby d1_90) rfl rfl ?_
    refine XS.aload X12.here hx rfl (hb hby d1_91) rfl rfl ?_
    refine st20.trans ?_
    jvm_step X20.here [X20.here.top, hx, (hb hby d1_96), X20.method', hret0, Value.isRef, FieldType.isReference]
    first | (intro acts; rw [hr _ acts rfl rfl rfl]) | rw [hr _ _ rfl rfl rfl]
    exact Steps.refl _
  · show Q_au1_2 Z wREFUSED wPUBLISHED wCS pi1 pi2 pi3 h0 n0 _ T20.heap _
    exact ⟨b12, rfl, N20, K21, sz15, p20_0⟩
theorem ef_au1_3 (m : MethodId) (x0 : Int32) (x1 : Int32) (x2 : Int32) (x3 : Int32)  : entryFrame m #[(.int x0), (.int x1), (.int x2), (.int x3)] 8 = mkF m 0 #[(vi x0), (vi x1), (vi x2), (vi x3), .unset, .unset, .unset, .unset] [] := by first | (simp [entryFrame, mkF, argsToLocals, Value.category]; done) | rfl
theorem d1_97 : decode method_2_code 97 = .ok (.iconst 3, 1) := by decide +kernel
theorem d1_98 : decode method_2_code 98 = .ok (.newarray .char, 2) := by decide +kernel
theorem d1_100 : decode method_2_code 100 = .ok (.astore 7, 2) := by decide +kernel
theorem d1_102 : decode method_2_code 102 = .ok (.aload 7, 2) := by decide +kernel
theorem d1_104 : decode method_2_code 104 = .ok (.iconst 0, 1) := by decide +kernel
theorem d1_105 : decode method_2_code 105 = .ok (.iload 4, 2) := by decide +kernel
theorem d1_107 : decode method_2_code 107 = .ok (.castore, 1) := by decide +kernel
theorem d1_108 : decode method_2_code 108 = .ok (.aload 7, 2) := by decide +kernel
theorem d1_110 : decode method_2_code 110 = .ok (.iconst 1, 1) := by decide +kernel
theorem d1_111 : decode method_2_code 111 = .ok (.iload 5, 2) := by decide +kernel
theorem d1_113 : decode method_2_code 113 = .ok (.castore, 1) := by decide +kernel
theorem d1_114 : decode method_2_code 114 = .ok (.aload 7, 2) := by decide +kernel
theorem d1_116 : decode method_2_code 116 = .ok (.iconst 2, 1) := by decide +kernel
theorem d1_117 : decode method_2_code 117 = .ok (.iload 6, 2) := by decide +kernel
theorem d1_119 : decode method_2_code 119 = .ok (.castore, 1) := by decide +kernel
theorem d1_120 : decode method_2_code 120 = .ok (.new 7, 3) := by decide +kernel
theorem d1_123 : decode method_2_code 123 = .ok (.dup, 1) := by decide +kernel
theorem d1_124 : decode method_2_code 124 = .ok (.aload 7, 2) := by decide +kernel
theorem d1_126 : decode method_2_code 126 = .ok (.invokespecial 9, 3) := by decide +kernel
theorem ef_au2_3 (m : MethodId) (x0 : Addr) (x1 : Addr)  : entryFrame m #[(.ref x0), (.ref x1)] 2 = mkF m 0 #[(vr x0), (vr x1)] [] := by first | (simp [entryFrame, mkF, argsToLocals, Value.category]; done) | rfl
theorem ef_au3_3 (m : MethodId) (x0 : Addr) (x1 : Addr) (x2 : Int32) (x3 : Int32)  : entryFrame m #[(.ref x0), (.ref x1), (.int x2), (.int x3), .null] 6 = mkF m 0 #[(vr x0), (vr x1), (vi x2), (vi x3), .val .null, .unset] [] := by first | (simp [entryFrame, mkF, argsToLocals, Value.category]; done) | rfl
theorem ef_au12_2 (m : MethodId) (x0 : Addr) (x1 : Int32) (x2 : Int32)  : entryFrame m #[(.ref x0), (.int x1), (.int x2)] 6 = mkF m 0 #[(vr x0), (vi x1), (vi x2), .unset, .unset, .unset] [] := by first | (simp [entryFrame, mkF, argsToLocals, Value.category]; done) | rfl
theorem ef_au13_2 (m : MethodId) (x0 : Addr) (x1 : Int32) (x2 : Addr) (x3 : Int32) (x4 : Int32)  : entryFrame m #[(.ref x0), (.int x1), (.ref x2), (.int x3), (.int x4)] 7 = mkF m 0 #[(vr x0), (vi x1), (vr x2), (vi x3), (vi x4), .unset, .unset] [] := by first | (simp [entryFrame, mkF, argsToLocals, Value.category]; done) | rfl
def Q_au13_2 (Z : State) (wREFUSED : Addr) (wPUBLISHED : Addr) (wCS : Int32) (pa1 : Addr) (pa2 : Addr) (pk3 : ClassId) (pi4 : Int32) (pi5 : Int32) (pi6 : Int32) (pk7 : ClassId) (h0 : Heap) (n0 : Nat) (v : Option Value) (h : Heap) (L : List Loc) : Prop := v = some (.int 3) ∧ Fr n0 L ∧ Keep h0 h [pa2] ∧ Exa Z h pa2 "[B" ∧ Arv Z h pa2 pk7 .byte (3 : Int32) ([(.int (nar .byte (pi4.toInt8.toInt32))), (.int (nar .byte (pi5.toInt8.toInt32))), (.int (nar .byte (pi6.toInt8.toInt32)))]) (.int 0)
theorem au13_2 (l : Launch) (Z : State) (a0 : Array Value) (hw : ∀ d ∈ tables_1, d.before a0 Z = true) (ws : List Jvm.Cond) (wREFUSED : Addr) (wPUBLISHED : Addr) (wCS : Int32) (hS : SS Z wREFUSED wPUBLISHED wCS) (pa1 : Addr) (pa2 : Addr) (pk3 : ClassId) (pi4 : Int32) (pi5 : Int32) (pi6 : Int32) (pk7 : ClassId) (h0 : Heap) (n0 : Nat) (O0 : Old Z n0 h0) (P0 : Arv Z h0 pa1 pk3 .char (3 : Int32) ([(.int pi4), (.int pi5), (.int pi6)]) (.int 0)) (P2 : Arv Z h0 pa2 pk7 .byte (3 : Int32) ([(.int 0), (.int 0), (.int 0)]) (.int 0)) (P3 : Exa Z h0 pa2 "[B") (P4 : ¬ (255 : Int32) < pi4) (P5 : ¬ (255 : Int32) < pi5) (P6 : ¬ (255 : Int32) < pi6) (P8 : n0 ≤ pa2) (P9 : pa1 ≠ pa2) :
    MetB l M10 jdk_52_method_21_code 7 (some .int) ws (rmk 0 0 0 0) Z h0 #[(.ref pa1), (.int 0), (.ref pa2), (.int 0), (.int 3)] (Q_au13_2 Z wREFUSED wPUBLISHED wCS pa1 pa2 pk3 pi4 pi5 pi6 pk7 h0 n0) := by
  refine own_body (plainFor_of_name pn_java_lang_StringUTF16) ?_
  intro p e s m below meth c s₁ hx hby hml hown hnm hret0 hlk0 hZ X0 e0
  have N0 := Fr.nil n0
  have pre0 : ∀ t, Steps p.tables e below (s₁.setTop (mkF m 0 #[(vr pa1), (vi 0), (vr pa2), (vi 0), (vi 3), .unset, .unset] [])) t → Steps p.tables e below (s₁.setTop (entryFrame m #[(.ref pa1), (.int 0), (.ref pa2), (.int 0), (.int 3)] 7)) t := fun t k => castTop (ef_au13_2 m pa1 (0 : Int32) pa2 (0 : Int32) (3 : Int32)) k
  have K0 := Keep.refl h0 [pa2]
  have hS0 := hS
  obtain ⟨S_wREFUSED, E_wREFUSED, S_wPUBLISHED, E_wPUBLISHED, S_wCS, N_wCS⟩ := hS0
  obtain ⟨cl1, Ar1, qc1, Sz1, Nn1, Ha1, Gg1⟩ := (id P0)
  have hin1 : ¬ ((0 : Int32) < 0 ∨ cl1.slots.size ≤ ((0 : Int32)).toNatClampNeg) := inb_of Sz1 ⟨by decide, by decide⟩
  have hat1 : cl1.slots[((0 : Int32)).toNatClampNeg]? = some (.int pi4) := Ha1.at hin1 rfl
  obtain ⟨cl2, Ar2, qc2, Sz2, Nn2, Ha2, Gg2⟩ := (id P2)
  have hin2 : ¬ ((0 : Int32) < 0 ∨ cl2.slots.size ≤ ((0 : Int32)).toNatClampNeg) := inb_of Sz2 ⟨by decide, by decide⟩
  obtain ⟨T2, h2, X2, e2, W2, st2⟩ := stB X0 hx hZ e0 Ar2 (j := (0 : Int32)) hin2 (g := (mkF m 31 #[(vr pa1), (vi 0), (vr pa2), (vi 0), (vi 3), (vi 0), (vi pi4)] [(.int (pi4.toInt8.toInt32)), (.int 0), (.ref pa2)])) rfl rfl (hb hby d13_31)
  have O3 : Old Z n0 h2 := O0.wr W2 P8
  have K3 : Keep h0 h2 [pa2] := K0.wr W2 (Or.inl (List.mem_of_getElem? (i := 0) rfl))
  have V2 : Arv Z h2 pa2 pk7 .byte (3 : Int32) ([(.int (nar .byte (pi4.toInt8.toInt32))), (.int 0), (.int 0)]) (.int 0) := (Arv.set Ar2 qc2 Sz2 Nn2 Ha2 Gg2 (v := (.int (nar .byte (pi4.toInt8.toInt32)))) (fits_nar_byte _) W2 0 rfl (Nat.le_of_ble_eq_true rfl))
  have N2 := Fr.snoc X2 N0 P8
  have f4 : Arv Z h2 pa1 pk3 .char (3 : Int32) ([(.int pi4), (.int pi5), (.int pi6)]) (.int 0) := (P0.other W2 P9)
  obtain ⟨cl5, Ar5, qc5, Sz5, Nn5, Ha5, Gg5⟩ := (id f4)
  have hin5 : ¬ ((1 : Int32) < 0 ∨ cl5.slots.size ≤ ((1 : Int32)).toNatClampNeg) := inb_of Sz5 ⟨by decide, by decide⟩
  have hat5 : cl5.slots[((1 : Int32)).toNatClampNeg]? = some (.int pi5) := Ha5.at hin5 rfl
  obtain ⟨cl6, Ar6, qc6, Sz6, Nn6, Ha6, Gg6⟩ := (id V2)
  have hin6 : ¬ ((1 : Int32) < 0 ∨ cl6.slots.size ≤ ((1 : Int32)).toNatClampNeg) := inb_of Sz6 ⟨by decide, by decide⟩
  obtain ⟨T6, h6, X6, e6, W6, st6⟩ := stB X2 hx hZ e2 Ar6 (j := (1 : Int32)) hin6 (g := (mkF m 31 #[(vr pa1), (vi 1), (vr pa2), (vi 1), (vi 3), (vi 1), (vi pi5)] [(.int (pi5.toInt8.toInt32)), (.int 1), (.ref pa2)])) rfl rfl (hb hby d13_31)
  have O7 : Old Z n0 h6 := O3.wr W6 P8
  have K7 : Keep h0 h6 [pa2] := K3.wr W6 (Or.inl (List.mem_of_getElem? (i := 0) rfl))
  have V6 : Arv Z h6 pa2 pk7 .byte (3 : Int32) ([(.int (nar .byte (pi4.toInt8.toInt32))), (.int (nar .byte (pi5.toInt8.toInt32))), (.int 0)]) (.int 0) := (Arv.set Ar6 qc6 Sz6 Nn6 Ha6 Gg6 (v := (.int (nar .byte (pi5.toInt8.toInt32)))) (fits_nar_byte _) W6 1 rfl (Nat.le_of_ble_eq_true rfl))
  have N6 := Fr.snoc X6 N2 P8
  have f8 : Arv Z h6 pa1 pk3 .char (3 : Int32) ([(.int pi4), (.int pi5), (.int pi6)]) (.int 0) := (f4.other W6 P9)
  obtain ⟨cl9, Ar9, qc9, Sz9, Nn9, Ha9, Gg9⟩ := (id f8)
  have hin9 : ¬ ((2 : Int32) < 0 ∨ cl9.slots.size ≤ ((2 : Int32)).toNatClampNeg) := inb_of Sz9 ⟨by decide, by decide⟩
  have hat9 : cl9.slots[((2 : Int32)).toNatClampNeg]? = some (.int pi6) := Ha9.at hin9 rfl
  obtain ⟨cl10, Ar10, qc10, Sz10, Nn10, Ha10, Gg10⟩ := (id V6)
  have hin10 : ¬ ((2 : Int32) < 0 ∨ cl10.slots.size ≤ ((2 : Int32)).toNatClampNeg) := inb_of Sz10 ⟨by decide, by decide⟩
  obtain ⟨T10, h10, X10, e10, W10, st10⟩ := stB X6 hx hZ e6 Ar10 (j := (2 : Int32)) hin10 (g := (mkF m 31 #[(vr pa1), (vi 2), (vr pa2), (vi 2), (vi 3), (vi 2), (vi pi6)] [(.int (pi6.toInt8.toInt32)), (.int 2), (.ref pa2)])) rfl rfl (hb hby d13_31)
  have O11 : Old Z n0 h10 := O7.wr W10 P8
  have K11 : Keep h0 h10 [pa2] := K7.wr W10 (Or.inl (List.mem_of_getElem? (i := 0) rfl))
  have V10 : Arv Z h10 pa2 pk7 .byte (3 : Int32) ([(.int (nar .byte (pi4.toInt8.toInt32))), (.int (nar .byte (pi5.toInt8.toInt32))), (.int (nar .byte (pi6.toInt8.toInt32)))]) (.int 0) := (Arv.set Ar10 qc10 Sz10 Nn10 Ha10 Gg10 (v := (.int (nar .byte (pi6.toInt8.toInt32)))) (fits_nar_byte _) W10 2 rfl (Nat.le_of_ble_eq_true rfl))
  have N10 := Fr.snoc X10 N6 P8
  have f12 : Exa Z h10 pa2 "[B" := (((P3.wr W2).wr W6).wr W10)
  obtain ⟨fs, hr, hrun, hended, hW, hsame⟩ := X10.leave (v := some (.int 3)) (fun h => by rw [hret0] at h; cases h)
  refine ⟨_, _, pre0 _ ?_, hrun, hended, _, _, rfl, ?_, ⟨_, rfl⟩, hW, hsame.mono (by decide) (by decide)⟩
  · skip
    show Steps p.tables e below (s₁.setTop (mkF m 0 #[(vr pa1), (vi 0), (vr pa2), (vi 0), (vi 3), .unset, .unset] [])) _
    refine XS.iconst X0.here hx rfl (hb hby d13_0) ?_
    refine XS.istore X0.here hx rfl (hb hby d13_1) rfl (l' := #[(vr pa1), (vi 0), (vr pa2), (vi 0), (vi 3), (vi 0), .unset]) rfl ?_
    refine XS.iload X0.here hx rfl (hb hby d13_3) rfl ?_
    refine XS.iload X0.here hx rfl (hb hby d13_5) rfl ?_
    refine XS.icmpNo X0.here hx rfl (hb hby d13_7) rfl (tlt (by decide : (0 : Int32) < (3 : Int32))).2.1 ?_
    refine XS.aloadN X0.here hx rfl (hb hby d13_10) rfl rfl ?_
    refine XS.iloadN X0.here hx rfl (hb hby d13_11) rfl ?_
    refine X0.caload hx (j := (0 : Int32)) (v := (.int pi4)) (by rw [e0]; exact Ar1.1) (State.isArrayOf_alike hZ.alike Ar1.2.1) Ar1.2.2 hin1 hat1 (g := (mkF m 12 #[(vr pa1), (vi 0), (vr pa2), (vi 0), (vi 3), (vi 0), .unset] [(.int 0), (.ref pa1)])) rfl rfl (hb hby d13_12) _ ?_
    show Steps p.tables e below (s₁.setTop (mkF m 13 #[(vr pa1), (vi 0), (vr pa2), (vi 0), (vi 3), (vi 0), .unset] [(.int pi4)])) _
    refine XS.istore X0.here hx rfl (hb hby d13_13) rfl (l' := #[(vr pa1), (vi 0), (vr pa2), (vi 0), (vi 3), (vi 0), (vi pi4)]) rfl ?_
    refine XS.iload X0.here hx rfl (hb hby d13_15) rfl ?_
    refine XS.sipush X0.here hx rfl (hb hby d13_17) ?_
    refine XS.icmpYes X0.here hx rfl (pc0 := 20) (pc' := 26) rfl (hb hby d13_20) rfl (flt (P4 : ¬ ((255 : Int32) < pi4))).2.2.2 (by decide) (by decide) ?_
    refine XS.aloadN X0.here hx rfl (hb hby d13_26) rfl rfl ?_
    refine XS.iloadN X0.here hx rfl (hb hby d13_27) rfl ?_
    refine XS.iload X0.here hx rfl (hb hby d13_28) rfl ?_
    refine XS.i2b X0.here hx rfl (hb hby d13_30) rfl ?_
    show Steps p.tables e below (s₁.setTop (mkF m 31 #[(vr pa1), (vi 0), (vr pa2), (vi 0), (vi 3), (vi 0), (vi pi4)] [(.int (pi4.toInt8.toInt32)), (.int 0), (.ref pa2)])) _
    refine st2 _ ?_
    refine XS.iinc X2.here hx rfl (hb hby d13_32) rfl (l' := #[(vr pa1), (vi 1), (vr pa2), (vi 0), (vi 3), (vi 0), (vi pi4)]) rfl ?_
    refine XS.iinc X2.here hx rfl (hb hby d13_35) rfl (l' := #[(vr pa1), (vi 1), (vr pa2), (vi 1), (vi 3), (vi 0), (vi pi4)]) rfl ?_
    refine XS.iinc X2.here hx rfl (hb hby d13_38) rfl (l' := #[(vr pa1), (vi 1), (vr pa2), (vi 1), (vi 3), (vi 1), (vi pi4)]) rfl ?_
    refine XS.goto X2.here hx rfl (pc0 := 41) (pc' := 3) rfl (hb hby d13_41) (by decide) (by decide) ?_
    refine XS.iload X2.here hx rfl (hb hby d13_3) rfl ?_
    refine XS.iload X2.here hx rfl (hb hby d13_5) rfl ?_
    refine XS.icmpNo X2.here hx rfl (hb hby d13_7) rfl (tlt (by decide : (1 : Int32) < (3 : Int32))).2.1 ?_
    show Steps p.tables e below (T2.setTop (mkF m 10 #[(vr pa1), (vi 1), (vr pa2), (vi 1), (vi 3), (vi 1), (vi pi4)] [])) _
    refine XS.aloadN X2.here hx rfl (hb hby d13_10) rfl rfl ?_
    refine XS.iloadN X2.here hx rfl (hb hby d13_11) rfl ?_
    refine X2.caload hx (j := (1 : Int32)) (v := (.int pi5)) (by rw [e2]; exact Ar5.1) (State.isArrayOf_alike hZ.alike Ar5.2.1) Ar5.2.2 hin5 hat5 (g := (mkF m 12 #[(vr pa1), (vi 1), (vr pa2), (vi 1), (vi 3), (vi 1), (vi pi4)] [(.int 1), (.ref pa1)])) rfl rfl (hb hby d13_12) _ ?_
    refine XS.istore X2.here hx rfl (hb hby d13_13) rfl (l' := #[(vr pa1), (vi 1), (vr pa2), (vi 1), (vi 3), (vi 1), (vi pi5)]) rfl ?_
    refine XS.iload X2.here hx rfl (hb hby d13_15) rfl ?_
    refine XS.sipush X2.here hx rfl (hb hby d13_17) ?_
    refine XS.icmpYes X2.here hx rfl (pc0 := 20) (pc' := 26) rfl (hb hby d13_20) rfl (flt (P5 : ¬ ((255 : Int32) < pi5))).2.2.2 (by decide) (by decide) ?_
    refine XS.aloadN X2.here hx rfl (hb hby d13_26) rfl rfl ?_
    show Steps p.tables e below (T2.setTop (mkF m 27 #[(vr pa1), (vi 1), (vr pa2), (vi 1), (vi 3), (vi 1), (vi pi5)] [(.ref pa2)])) _
    refine XS.iloadN X2.here hx rfl (hb hby d13_27) rfl ?_
    refine XS.iload X2.here hx rfl (hb hby d13_28) rfl ?_
    refine XS.i2b X2.here hx rfl (hb hby d13_30) rfl ?_
    refine st6 _ ?_
    refine XS.iinc X6.here hx rfl (hb hby d13_32) rfl (l' := #[(vr pa1), (vi 2), (vr pa2), (vi 1), (vi 3), (vi 1), (vi pi5)]) rfl ?_
    refine XS.iinc X6.here hx rfl (hb hby d13_35) rfl (l' := #[(vr pa1), (vi 2), (vr pa2), (vi 2), (vi 3), (vi 1), (vi pi5)]) rfl ?_
    refine XS.iinc X6.here hx rfl (hb hby d13_38) rfl (l' := #[(vr pa1), (vi 2), (vr pa2), (vi 2), (vi 3), (vi 2), (vi pi5)]) rfl ?_
    refine XS.goto X6.here hx rfl (pc0 := 41) (pc' := 3) rfl (hb hby d13_41) (by decide) (by decide) ?_
    show Steps p.tables e below (T6.setTop (mkF m 3 #[(vr pa1), (vi 2), (vr pa2), (vi 2), (vi 3), (vi 2), (vi pi5)] [])) _
    refine XS.iload X6.here hx rfl (hb hby d13_3) rfl ?_
    refine XS.iload X6.here hx rfl (hb hby d13_5) rfl ?_
    refine XS.icmpNo X6.here hx rfl (hb hby d13_7) rfl (tlt (by decide : (2 : Int32) < (3 : Int32))).2.1 ?_
    refine XS.aloadN X6.here hx rfl (hb hby d13_10) rfl rfl ?_
    refine XS.iloadN X6.here hx rfl (hb hby d13_11) rfl ?_
    refine X6.caload hx (j := (2 : Int32)) (v := (.int pi6)) (by rw [e6]; exact Ar9.1) (State.isArrayOf_alike hZ.alike Ar9.2.1) Ar9.2.2 hin9 hat9 (g := (mkF m 12 #[(vr pa1), (vi 2), (vr pa2), (vi 2), (vi 3), (vi 2), (vi pi5)] [(.int 2), (.ref pa1)])) rfl rfl (hb hby d13_12) _ ?_
    refine XS.istore X6.here hx rfl (hb hby d13_13) rfl (l' := #[(vr pa1), (vi 2), (vr pa2), (vi 2), (vi 3), (vi 2), (vi pi6)]) rfl ?_
    refine XS.iload X6.here hx rfl (hb hby d13_15) rfl ?_
    show Steps p.tables e below (T6.setTop (mkF m 17 #[(vr pa1), (vi 2), (vr pa2), (vi 2), (vi 3), (vi 2), (vi pi6)] [(.int pi6)])) _
    refine XS.sipush X6.here hx rfl (hb hby d13_17) ?_
    refine XS.icmpYes X6.here hx rfl (pc0 := 20) (pc' := 26) rfl (hb hby d13_20) rfl (flt (P6 : ¬ ((255 : Int32) < pi6))).2.2.2 (by decide) (by decide) ?_
    refine XS.aloadN X6.here hx rfl (hb hby d13_26) rfl rfl ?_
    refine XS.iloadN X6.here hx rfl (hb hby d13_27) rfl ?_
    refine XS.iload X6.here hx rfl (hb hby d13_28) rfl ?_
    refine XS.i2b X6.here hx rfl (hb hby d13_30) rfl ?_
    refine st10 _ ?_
    refine XS.iinc X10.here hx rfl (hb hby d13_32) rfl (l' := #[(vr pa1), (vi 3), (vr pa2), (vi 2), (vi 3), (vi 2), (vi pi6)]) rfl ?_
    show Steps p.tables e below (T10.setTop (mkF m 35 #[(vr pa1), (vi 3), (vr pa2), (vi 2), (vi 3), (vi 2), (vi pi6)] [])) _
    refine XS.iinc X10.here hx rfl (hb hby d13_35) rfl (l' := #[(vr pa1), (vi 3), (vr pa2), (vi 3), (vi 3), (vi 2), (vi pi6)]) rfl ?_
    refine XS.iinc X10.here hx rfl (hb hby d13_38) rfl (l' := #[(vr pa1), (vi 3), (vr pa2), (vi 3), (vi 3), (vi 3), (vi pi6)]) rfl ?_
    refine XS.goto X10.here hx rfl (pc0 := 41) (pc' := 3) rfl (hb hby d13_41) (by decide) (by decide) ?_
    refine XS.iload X10.here hx rfl (hb hby d13_3) rfl ?_
    refine XS.iload X10.here hx rfl (hb hby d13_5) rfl ?_
    refine XS.icmpYes X10.here hx rfl (pc0 := 7) (pc' := 44) rfl (hb hby d13_7) rfl (flt (by decide : ¬ ((3 : Int32) < (3 : Int32)))).2.1 (by decide) (by decide) ?_
    refine XS.iload X10.here hx rfl (hb hby d13_44) rfl ?_
    exact retI X10 hx hret0 (hb hby d13_46) hr
  · show Q_au13_2 Z wREFUSED wPUBLISHED wCS pa1 pa2 pk3 pi4 pi5 pi6 pk7 h0 n0 _ T10.heap _
    rw [e10]
    exact ⟨rfl, N10, K11, f12, V10⟩
def Q_au12_2 (Z : State) (wREFUSED : Addr) (wPUBLISHED : Addr) (wCS : Int32) (pa1 : Addr) (pk2 : ClassId) (pi3 : Int32) (pi4 : Int32) (pi5 : Int32) (h0 : Heap) (n0 : Nat) (v : Option Value) (h : Heap) (L : List Loc) : Prop := ∃ (e1 : Addr) (e2 : ClassId), v = some (.ref e1) ∧ Fr n0 L ∧ Keep h0 h [] ∧ h0.size ≤ e1 ∧ Exa Z h e1 "[B" ∧ Arv Z h e1 e2 .byte (3 : Int32) ([(.int (nar .byte (pi3.toInt8.toInt32))), (.int (nar .byte (pi4.toInt8.toInt32))), (.int (nar .byte (pi5.toInt8.toInt32)))]) (.int 0)
theorem au12_2 (l : Launch) (Z : State) (a0 : Array Value) (hw : ∀ d ∈ tables_1, d.before a0 Z = true) (ws : List Jvm.Cond) (wREFUSED : Addr) (wPUBLISHED : Addr) (wCS : Int32) (hS : SS Z wREFUSED wPUBLISHED wCS) (pa1 : Addr) (pk2 : ClassId) (pi3 : Int32) (pi4 : Int32) (pi5 : Int32) (h0 : Heap) (n0 : Nat) (O0 : Old Z n0 h0) (P0 : Arv Z h0 pa1 pk2 .char (3 : Int32) ([(.int pi3), (.int pi4), (.int pi5)]) (.int 0)) (P2 : ¬ (255 : Int32) < pi3) (P3 : ¬ (255 : Int32) < pi4) (P4 : ¬ (255 : Int32) < pi5) :
    MetB l M11 jdk_52_method_16_code 6 (some (.array .byte)) ws (rmk 1 1 3 18) Z h0 #[(.ref pa1), (.int 0), (.int 3)] (Q_au12_2 Z wREFUSED wPUBLISHED wCS pa1 pk2 pi3 pi4 pi5 h0 n0) := by
  refine own_body (plainFor_of_name pn_java_lang_StringUTF16) ?_
  intro p e s m below meth c s₁ hx hby hml hown hnm hret0 hlk0 hZ X0 e0
  have N0 := Fr.nil n0
  have pre0 : ∀ t, Steps p.tables e below (s₁.setTop (mkF m 0 #[(vr pa1), (vi 0), (vi 3), .unset, .unset, .unset] [])) t → Steps p.tables e below (s₁.setTop (entryFrame m #[(.ref pa1), (.int 0), (.int 3)] 6)) t := fun t k => castTop (ef_au12_2 m pa1 (0 : Int32) (3 : Int32)) k
  have K0 := Keep.refl h0 []
  have hS0 := hS
  obtain ⟨S_wREFUSED, E_wREFUSED, S_wPUBLISHED, E_wPUBLISHED, S_wCS, N_wCS⟩ := hS0
  obtain ⟨T1, h1, k1, X1, e1, E1, A1, Z1, st1⟩ := newPE X0 hx hZ (ow hw 19 rfl) e0 (g := (mkF m 1 #[(vr pa1), (vi 0), (vi 3), .unset, .unset, .unset] [(.int 3)])) rfl (hb hby d12_1) rfl (by decide) (cap := 3) (by decide) (by decide) (by decide) (by decide) (ad := "[B") rfl
  obtain ⟨b1, g1⟩ : ∃ z, z = h0.size := ⟨_, rfl⟩
  rw [← g1] at A1 Z1 st1
  have ne2 : pa1 ≠ b1 := Nat.ne_of_lt (Nat.lt_of_lt_of_le P0.lt (Nat.le_of_eq g1.symm))
  have g3 : n0 ≤ b1 := Nat.le_trans (own_sz O0) (Nat.le_of_eq g1.symm)
  have sz4 : h0.size ≤ b1 := Nat.le_trans K0.1 (Nat.le_of_eq g1.symm)
  have O5 : Old Z n0 h1 := O0.ext E1
  have K5 : Keep h0 h1 [] := K0.ext E1
  have V1 : Arv Z h1 b1 k1 .byte (3 : Int32) ([(.int 0), (.int 0), (.int 0)]) (.int 0) := (Arv.new A1 (by decide)).pad (pad_rep [] (.int 0) 3)
  have f6 : Arv Z h1 pa1 pk2 .char (3 : Int32) ([(.int pi3), (.int pi4), (.int pi5)]) (.int 0) := (P0.ext E1)
  obtain ⟨_, _, ⟨T7, L7, k7, n7⟩, -, X7, ⟨Lc7, hQ7, l7, y7, z7⟩, st7⟩ := Jvm.LawKit.callS X1 hx (y := M10) hown (mvT hZ (ow hw 75 rfl)) (mvT hZ (ow hw 76 rfl)) (mvT hZ (ow hw 73 rfl)) (mvT hZ (ow hw 77 rfl)) (by decide) (backOf (W := 0) (au13_2 l Z a0 hw [] wREFUSED wPUBLISHED wCS hS pa1 b1 pk2 pi3 pi4 pi5 k1 h1 n0 O5 f6 V1 Z1 P2 P3 P4 g3 ne2) hZ (ow hw 77 rfl) (ow hw 73 rfl) (by decide) (by decide)) (g := (mkF m 9 #[(vr pa1), (vi 0), (vi 3), (vr b1), .unset, .unset] [(.int 3), (.int 0), (.ref b1), (.int 0), (.ref pa1)])) rfl (by rw [hml]; rfl) (argsL := [(.ref pa1), (.int 0), (.ref b1), (.int 0), (.int 3)]) (rest := []) (lenOf pd_10 rfl) rfl (by show 2 * 0 + _ ≤ _; exact Nat.le_of_eq rfl) (hb hby d12_9) (fun _ _ => ⟨rfl, e1, (by decide : 1 + 0 ≤ _), (by decide : 3 + 0 ≤ _)⟩)
  dsimp only [Pt.U, Pt.locs, Pt.cells, Pt.slots] at X7 l7 y7 z7 st7 hQ7
  subst y7 z7
  obtain ⟨rfl, Nq7, K7q, p7_0, p7_1⟩ := hQ7
  have N7 : Fr n0 L7 := (congrArg (Fr n0) l7).mpr (Fr.app N0 Nq7)
  have O8 : Old Z n0 T7.heap := O5.keep K7q (allS g3 all0)
  have K8 : Keep h0 T7.heap [] := K5.trans K7q (allS (Or.inr sz4) all0)
  obtain ⟨fs, hr, hrun, hended, hW, hsame⟩ := X7.leave (v := some (.ref b1)) (fun h => by rw [hret0] at h; cases h)
  refine ⟨_, _, pre0 _ ?_, hrun, hended, _, _, rfl, ?_, ⟨_, rfl⟩, hW, hsame.mono (by decide) (by decide)⟩
  · skip
    show Steps p.tables e below (s₁.setTop (mkF m 0 #[(vr pa1), (vi 0), (vi 3), .unset, .unset, .unset] [])) _
    refine XS.iloadN X0.here hx rfl (hb hby d12_0) rfl ?_
    refine st1 _ ?_
    refine XS.astoreN X1.here hx rfl (hb hby d12_3) rfl rfl (l' := #[(vr pa1), (vi 0), (vi 3), (vr b1), .unset, .unset]) rfl ?_
    refine XS.aloadN X1.here hx rfl (hb hby d12_4) rfl rfl ?_
    refine XS.iloadN X1.here hx rfl (hb hby d12_5) rfl ?_
    refine XS.aloadN X1.here hx rfl (hb hby d12_6) rfl rfl ?_
    refine XS.iconst X1.here hx rfl (hb hby d12_7) ?_
    refine XS.iloadN X1.here hx rfl (hb hby d12_8) rfl ?_
    show Steps p.tables e below (T1.setTop (mkF m 9 #[(vr pa1), (vi 0), (vi 3), (vr b1), .unset, .unset] [(.int 3), (.int 0), (.ref b1), (.int 0), (.ref pa1)])) _
    refine st7 _ ?_
    refine XS.istore X7.here hx rfl (hb hby d12_12) rfl (l' := #[(vr pa1), (vi 0), (vi 3), (vr b1), (vi 3), .unset]) rfl ?_
    refine XS.iload X7.here hx rfl (hb hby d12_14) rfl ?_
    refine XS.iloadN X7.here hx rfl (hb hby d12_16) rfl ?_
    refine XS.icmpYes X7.here hx rfl (pc0 := 17) (pc' := 57) rfl (hb hby d12_17) rfl (teq (by decide : (3 : Int32) = (3 : Int32))).1 (by decide) (by decide) ?_
    refine XS.aloadN X7.here hx rfl (hb hby d12_57) rfl rfl ?_
    jvm_step X7.here [X7.here.top, hx, (hb hby d12_58), X7.method', hret0, Value.isRef, FieldType.isReference]
    first | (intro acts; rw [hr _ acts rfl rfl rfl]) | rw [hr _ _ rfl rfl rfl]
    exact Steps.refl _
  · show Q_au12_2 Z wREFUSED wPUBLISHED wCS pa1 pk2 pi3 pi4 pi5 h0 n0 _ T7.heap _
    exact ⟨b1, k1, rfl, N7, K8, sz4, p7_0, p7_1⟩
theorem ef_au14_2 (m : MethodId) (x0 : Addr) (x1 : Int32)  : entryFrame m #[(.ref x0), (.int x1)] 2 = mkF m 0 #[(vr x0), (vi x1)] [] := by first | (simp [entryFrame, mkF, argsToLocals, Value.category]; done) | rfl
def Q_au14_2 (Z : State) (wREFUSED : Addr) (wPUBLISHED : Addr) (wCS : Int32) (pa1 : Addr) (pk2 : ClassId) (pi3 : Int32) (pi4 : Int32) (pi5 : Int32) (h0 : Heap) (n0 : Nat) (v : Option Value) (h : Heap) (L : List Loc) : Prop := v = some (.int 0) ∧ Fr n0 L ∧ h = h0
theorem au14_2 (l : Launch) (Z : State) (a0 : Array Value) (hw : ∀ d ∈ tables_1, d.before a0 Z = true) (ws : List Jvm.Cond) (wREFUSED : Addr) (wPUBLISHED : Addr) (wCS : Int32) (hS : SS Z wREFUSED wPUBLISHED wCS) (pa1 : Addr) (pk2 : ClassId) (pi3 : Int32) (pi4 : Int32) (pi5 : Int32) (h0 : Heap) (n0 : Nat) (O0 : Old Z n0 h0) (P0 : Arv Z h0 pa1 pk2 .byte (3 : Int32) ([(.int pi3), (.int pi4), (.int pi5)]) (.int 0)) :
    MetB l M12 jdk_52_method_15_code 2 (some .byte) ws (rmk 0 0 0 0) Z h0 #[(.ref pa1), (.int 3)] (Q_au14_2 Z wREFUSED wPUBLISHED wCS pa1 pk2 pi3 pi4 pi5 h0 n0) := by
  refine own_body (plainFor_of_name pn_java_lang_StringUTF16) ?_
  intro p e s m below meth c s₁ hx hby hml hown hnm hret0 hlk0 hZ X0 e0
  have N0 := Fr.nil n0
  have pre0 : ∀ t, Steps p.tables e below (s₁.setTop (mkF m 0 #[(vr pa1), (vi 3)] [])) t → Steps p.tables e below (s₁.setTop (entryFrame m #[(.ref pa1), (.int 3)] 2)) t := fun t k => castTop (ef_au14_2 m pa1 (3 : Int32)) k
  have hS0 := hS
  obtain ⟨S_wREFUSED, E_wREFUSED, S_wPUBLISHED, E_wPUBLISHED, S_wCS, N_wCS⟩ := hS0
  obtain ⟨cl1, Ar1, -, Sz1, Nn1, -, -⟩ := (id P0)
  have pre2 : ∀ t, Steps p.tables e below (s₁.setTop (mkF m 8 #[(vr pa1), (vi 3)] [(.int 0)])) t → Steps p.tables e below (s₁.setTop (entryFrame m #[(.ref pa1), (.int 3)] 2)) t := by
    intro t k
    refine pre0 t ?_
    show Steps p.tables e below (s₁.setTop (mkF m 0 #[(vr pa1), (vi 3)] [])) _
    refine XS.iloadN X0.here hx rfl (hb hby d14_0) rfl ?_
    refine XS.aloadN X0.here hx rfl (hb hby d14_1) rfl rfl ?_
    refine X0.arraylength hx (by rw [e0]; exact Ar1.1) (State.isArrayOf_alike hZ.alike Ar1.2.1) (g := (mkF m 2 #[(vr pa1), (vi 3)] [(.ref pa1), (.int 3)])) rfl rfl (hb hby d14_2) _ ?_
    rw [len_of Sz1 Nn1]
    refine XS.isub X0.here hx rfl (hb hby d14_3) rfl ?_
    refine XS.bipush X0.here hx rfl (hb hby d14_4) ?_
    refine XS.iushr X0.here hx rfl (hb hby d14_6) rfl ?_
    refine XS.i2b X0.here hx rfl (hb hby d14_7) rfl ?_
    show Steps p.tables e below (s₁.setTop (mkF m 8 #[(vr pa1), (vi 3)] [(.int ((((0 : Int32).toUInt32 >>> ((31 : Int32) &&& 31).toUInt32).toInt32).toInt8.toInt32))])) _
    rw [(by decide : ((((0 : Int32).toUInt32 >>> ((31 : Int32) &&& 31).toUInt32).toInt32).toInt8.toInt32) = (0 : Int32))]
    exact k
  obtain ⟨fs, hr, hrun, hended, hW, hsame⟩ := X0.leave (v := some (.int 0)) (fun h => by rw [hret0] at h; cases h)
  refine ⟨_, _, pre2 _ ?_, hrun, hended, _, _, rfl, ?_, ⟨_, rfl⟩, hW, hsame.mono (by decide) (by decide)⟩
  · skip
    show Steps p.tables e below (s₁.setTop (mkF m 8 #[(vr pa1), (vi 3)] [(.int 0)])) _
    exact retN X0 hx (t := .byte) hret0 (by simp) (hb hby d14_8) hr
  · show Q_au14_2 Z wREFUSED wPUBLISHED wCS pa1 pk2 pi3 pi4 pi5 h0 n0 _ s₁.heap _
    rw [e0]
    exact ⟨rfl, N0, rfl⟩
def Q_au3_3 (Z : State) (wREFUSED : Addr) (wPUBLISHED : Addr) (wCS : Int32) (pa1 : Addr) (pa2 : Addr) (pk3 : ClassId) (pi4 : Int32) (pi5 : Int32) (pi6 : Int32) (h0 : Heap) (n0 : Nat) (v : Option Value) (h : Heap) (L : List Loc) : Prop := v = none ∧ Fr n0 L ∧ Keep h0 h [pa1] ∧ Exa Z h pa1 s0n
theorem au3_3 (l : Launch) (Z : State) (a0 : Array Value) (hw : ∀ d ∈ tables_1, d.before a0 Z = true) (ws : List Jvm.Cond) (wREFUSED : Addr) (wPUBLISHED : Addr) (wCS : Int32) (hS : SS Z wREFUSED wPUBLISHED wCS) (pa1 : Addr) (pa2 : Addr) (pk3 : ClassId) (pi4 : Int32) (pi5 : Int32) (pi6 : Int32) (h0 : Heap) (n0 : Nat) (O0 : Old Z n0 h0) (P0 : Exa Z h0 pa1 s0n) (P1 : Fld Z h0 pa1 s0n "coder" "B" (.int 0)) (P2 : Fld Z h0 pa1 s0n "value" "[B" .null) (P3 : Arv Z h0 pa2 pk3 .char (3 : Int32) ([(.int pi4), (.int pi5), (.int pi6)]) (.int 0)) (P5 : ¬ (255 : Int32) < pi4) (P6 : ¬ (255 : Int32) < pi5) (P7 : ¬ (255 : Int32) < pi6) (P8 : n0 ≤ pa1) :
    MetB l M0 jdk_42_method_149_code 6 none ws (rmk 2 1 3 35) Z h0 #[(.ref pa1), (.ref pa2), (.int 0), (.int 3), .null] (Q_au3_3 Z wREFUSED wPUBLISHED wCS pa1 pa2 pk3 pi4 pi5 pi6 h0 n0) := by
  refine own_body (plainFor_of_name pn_java_lang_String) ?_
  intro p e s m below meth c s₁ hx hby hml hown hnm hret0 hlk0 hZ X0 e0
  have N0 := Fr.nil n0
  have pre0 : ∀ t, Steps p.tables e below (s₁.setTop (mkF m 0 #[(vr pa1), (vr pa2), (vi 0), (vi 3), .val .null, .unset] [])) t → Steps p.tables e below (s₁.setTop (entryFrame m #[(.ref pa1), (.ref pa2), (.int 0), (.int 3), .null] 6)) t := fun t k => castTop (ef_au3_3 m pa1 pa2 (0 : Int32) (3 : Int32)) k
  have K0 := Keep.refl h0 [pa1]
  have hS0 := hS
  obtain ⟨S_wREFUSED, E_wREFUSED, S_wPUBLISHED, E_wPUBLISHED, S_wCS, N_wCS⟩ := hS0
  obtain ⟨T1, X1, e1, st1⟩ := initO X0 hx hZ hown (ow hw 15 rfl) (ow hw 16 rfl) (ow hw 17 rfl) e0 (g := (mkF m 1 #[(vr pa1), (vr pa2), (vi 0), (vi 3), .val .null, .unset] [(.ref pa1)])) rfl (by rw [hml]; rfl) rfl (hb hby d3_1) (by decide) (W := 0) (by show 2 * 0 + _ ≤ _; exact Nat.le_of_eq rfl) (by decide)
  obtain ⟨T2, X2, e2, st2⟩ := getS2 X1 hx hZ hown (host := "") (Or.inl (ow hw 70 rfl)) Via.refl e1 (S_wCS.ext O0.2) (g := (mkF m 27 #[(vr pa1), (vr pa2), (vi 0), (vi 3), .val .null, .unset] [])) rfl (hb hby d3_27)
  obtain ⟨_, _, ⟨T3, L3, k3, n3⟩, -, X3, ⟨Lc3, hQ3, l3, y3, z3⟩, st3⟩ := Jvm.LawKit.callS X2 hx (y := M11) hown (mvT hZ (ow hw 71 rfl)) (mvT hZ (ow hw 72 rfl)) (mvT hZ (ow hw 73 rfl)) (mvT hZ (ow hw 74 rfl)) (by decide) (backOf (W := 0) (au12_2 l Z a0 hw [] wREFUSED wPUBLISHED wCS hS pa2 pk3 pi4 pi5 pi6 h0 n0 O0 P3 P5 P6 P7) hZ (ow hw 74 rfl) (ow hw 73 rfl) (by decide) (by decide)) (g := (mkF m 36 #[(vr pa1), (vr pa2), (vi 0), (vi 3), .val .null, .unset] [(.int 3), (.int 0), (.ref pa2)])) rfl (by rw [hml]; rfl) (argsL := [(.ref pa2), (.int 0), (.int 3)]) (rest := []) (lenOf pd_11 rfl) rfl (by show 2 * 0 + _ ≤ _; exact Nat.le_of_eq rfl) (hb hby d3_36) (fun _ _ => ⟨rfl, e2, (by decide : 0 + 1 ≤ _), (by decide : 0 + 3 ≤ _)⟩)
  dsimp only [Pt.U, Pt.locs, Pt.cells, Pt.slots] at X3 l3 y3 z3 st3 hQ3
  subst y3 z3
  obtain ⟨e1_3, e2_3, rfl, Nq3, K3q, p3_0, p3_1, p3_2⟩ := hQ3
  have N3 : Fr n0 L3 := (congrArg (Fr n0) l3).mpr (Fr.app N0 Nq3)
  have ne4 : pa1 ≠ e1_3 := Nat.ne_of_lt (Nat.lt_of_lt_of_le P0.lt p3_0)
  have ne5 : pa2 ≠ e1_3 := Nat.ne_of_lt (Nat.lt_of_lt_of_le P3.lt p3_0)
  have g6 : n0 ≤ e1_3 := Nat.le_trans (own_sz O0) p3_0
  have sz7 : h0.size ≤ e1_3 := Nat.le_trans K0.1 p3_0
  have O8 : Old Z n0 T3.heap := O0.keep K3q all0
  have K8 : Keep h0 T3.heap [pa1] := K0.trans K3q all0
  obtain ⟨_, _, ⟨T9, L9, k9, n9⟩, -, X9, ⟨Lc9, hQ9, l9, y9, z9⟩, st9⟩ := Jvm.LawKit.callS X3 hx (y := M12) hown (mvT hZ (ow hw 78 rfl)) (mvT hZ (ow hw 79 rfl)) (mvT hZ (ow hw 73 rfl)) (mvT hZ (ow hw 80 rfl)) (by decide) (backOf (W := 1) (au14_2 l Z a0 hw [] wREFUSED wPUBLISHED wCS hS e1_3 e2_3 (nar .byte (pi4.toInt8.toInt32)) (nar .byte (pi5.toInt8.toInt32)) (nar .byte (pi6.toInt8.toInt32)) T3.heap n0 O8 p3_2) hZ (ow hw 80 rfl) (ow hw 73 rfl) (by decide) (by decide)) (g := (mkF m 45 #[(vr pa1), (vr pa2), (vi 0), (vi 3), .val .null, (vr e1_3)] [(.int 3), (.ref e1_3), (.ref pa1)])) rfl (by rw [hml]; rfl) (argsL := [(.ref e1_3), (.int 3)]) (rest := [(.ref pa1)]) (lenOf pd_12 rfl) rfl (by show 2 * 0 + _ ≤ _; exact Nat.le_of_eq rfl) (hb hby d3_45) (fun _ _ => ⟨rfl, rfl, (by decide : 1 + 0 ≤ _), (by decide : 3 + 0 ≤ _)⟩)
  dsimp only [Pt.U, Pt.locs, Pt.cells, Pt.slots] at X9 l9 y9 z9 st9 hQ9
  subst y9 z9
  obtain ⟨rfl, Nq9, K9q⟩ := hQ9
  have N9 : Fr n0 L9 := (congrArg (Fr n0) l9).mpr (Fr.app N3 Nq9)
  have f10 : Exa Z T3.heap pa1 s0n := (P0.keep K3q)
  have f11 : Fld Z T3.heap pa1 s0n "coder" "B" (.int 0) := (P1.keep K3q nin0)
  obtain ⟨T12, h12, X12, e12, W12, st12⟩ := putFN X9 hx hZ hown (ow hw 25 rfl) Via.refl K9q f11 f10 (Or.inr ⟨(ow hw 21 rfl), rfl, hnm⟩) (ow hw 5 rfl) (ty := .byte) (v' := (.int 0)) (by decide) rfl rfl (g := (mkF m 48 #[(vr pa1), (vr pa2), (vi 0), (vi 3), .val .null, (vr e1_3)] [(.int 0), (.ref pa1)])) rfl rfl (hb hby d3_48)
  have N12 := Fr.snoc X12 N9 P8
  have O13 : Old Z n0 h12 := O8.wr W12 P8
  have K13 : Keep h0 h12 [pa1] := K8.wr W12 (Or.inl (List.mem_of_getElem? (i := 0) rfl))
  have Fw12 : Fld Z h12 pa1 s0n "coder" "B" (.int 0) := f11.same W12
  have f14 : Exa Z h12 pa1 s0n := (f10.wr W12)
  have f15 : Fld Z h12 pa1 s0n "value" "[B" .null := ((P2.keep K3q nin0).other W12 (Or.inr (slot_ne (Or.inr (ow hw 20 rfl)) (Or.inr (ow hw 21 rfl)) (by decide) (t := (.array .byte)) (t' := .byte) (by decide) (by decide))))
  obtain ⟨T16, h16, X16, e16, W16, st16⟩ := putF X12 hx hZ hown (host := "") (Or.inl (ow hw 24 rfl)) Via.refl e12 f15 f14 (Or.inr ⟨(ow hw 20 rfl), rfl, hnm⟩) (ow hw 5 rfl) (ty := (.array .byte)) (by decide) rfl rfl (g := (mkF m 54 #[(vr pa1), (vr pa2), (vi 0), (vi 3), .val .null, (vr e1_3)] [(.ref e1_3), (.ref pa1)])) rfl rfl (hb hby d3_54)
  have N16 := Fr.snoc X16 N12 P8
  have O17 : Old Z n0 h16 := O13.wr W16 P8
  have K17 : Keep h0 h16 [pa1] := K13.wr W16 (Or.inl (List.mem_of_getElem? (i := 0) rfl))
  have Fw16 : Fld Z h16 pa1 s0n "value" "[B" (.ref e1_3) := f15.same W16
  have f18 : Exa Z h16 pa1 s0n := (f14.wr W16)
  obtain ⟨fs, hr, hrun, hended, hW, hsame⟩ := X16.leave (v := none) (fun _ => rfl)
  refine ⟨_, _, pre0 _ ?_, hrun, hended, _, _, rfl, ?_, ⟨_, rfl⟩, hW, hsame.mono (by decide) (by decide)⟩
  · skip
    show Steps p.tables e below (s₁.setTop (mkF m 0 #[(vr pa1), (vr pa2), (vi 0), (vi 3), .val .null, .unset] [])) _
    refine XS.aloadN X0.here hx rfl (hb hby d3_0) rfl rfl ?_
    refine st1 _ ?_
    refine XS.iloadN X1.here hx rfl (hb hby d3_4) rfl ?_
    refine XS.ifYes X1.here hx rfl (pc0 := 5) (pc' := 27) rfl (hb hby d3_5) rfl ((if0 _ _).trans (feq (by decide : ¬ ((3 : Int32) = (0 : Int32)))).2) (by decide) (by decide) ?_
    refine st2 _ ?_
    refine XS.ifNo X2.here hx rfl (hb hby d3_30) rfl ((if0 _ _).trans (feq (N_wCS : ¬ (wCS = (0 : Int32)))).1) ?_
    refine XS.aloadN X2.here hx rfl (hb hby d3_33) rfl rfl ?_
    refine XS.iloadN X2.here hx rfl (hb hby d3_34) rfl ?_
    show Steps p.tables e below (T2.setTop (mkF m 35 #[(vr pa1), (vr pa2), (vi 0), (vi 3), .val .null, .unset] [(.int 0), (.ref pa2)])) _
    refine XS.iloadN X2.here hx rfl (hb hby d3_35) rfl ?_
    refine st3 _ ?_
    refine XS.astore X3.here hx rfl (hb hby d3_39) rfl rfl (l' := #[(vr pa1), (vr pa2), (vi 0), (vi 3), .val .null, (vr e1_3)]) rfl ?_
    refine XS.aloadN X3.here hx rfl (hb hby d3_41) rfl rfl ?_
    refine XS.aload X3.here hx rfl (hb hby d3_42) rfl rfl ?_
    refine XS.iloadN X3.here hx rfl (hb hby d3_44) rfl ?_
    refine st9 _ ?_
    refine st12 _ ?_
    show Steps p.tables e below (T12.setTop (mkF m 51 #[(vr pa1), (vr pa2), (vi 0), (vi 3), .val .null, (vr e1_3)] [])) _
    refine XS.aloadN X12.here hx rfl (hb hby d3_51) rfl rfl ?_
    refine XS.aload X12.here hx rfl (hb hby d3_52) rfl rfl ?_
    refine st16 _ ?_
    exact X16.returnOut hx hret0 (hb hby d3_57) hr
  · show Q_au3_3 Z wREFUSED wPUBLISHED wCS pa1 pa2 pk3 pi4 pi5 pi6 h0 n0 _ T16.heap _
    rw [e16]
    exact ⟨rfl, N16, K17, f18⟩
def Q_au2_3 (Z : State) (wREFUSED : Addr) (wPUBLISHED : Addr) (wCS : Int32) (pa1 : Addr) (pa2 : Addr) (pk3 : ClassId) (pi4 : Int32) (pi5 : Int32) (pi6 : Int32) (h0 : Heap) (n0 : Nat) (v : Option Value) (h : Heap) (L : List Loc) : Prop := v = none ∧ Fr n0 L ∧ Keep h0 h [pa1] ∧ Exa Z h pa1 s0n
theorem au2_3 (l : Launch) (Z : State) (a0 : Array Value) (hw : ∀ d ∈ tables_1, d.before a0 Z = true) (ws : List Jvm.Cond) (wREFUSED : Addr) (wPUBLISHED : Addr) (wCS : Int32) (hS : SS Z wREFUSED wPUBLISHED wCS) (pa1 : Addr) (pa2 : Addr) (pk3 : ClassId) (pi4 : Int32) (pi5 : Int32) (pi6 : Int32) (h0 : Heap) (n0 : Nat) (O0 : Old Z n0 h0) (P0 : Exa Z h0 pa1 s0n) (P1 : Fld Z h0 pa1 s0n "coder" "B" (.int 0)) (P2 : Fld Z h0 pa1 s0n "value" "[B" .null) (P3 : Arv Z h0 pa2 pk3 .char (3 : Int32) ([(.int pi4), (.int pi5), (.int pi6)]) (.int 0)) (P5 : ¬ (255 : Int32) < pi4) (P6 : ¬ (255 : Int32) < pi5) (P7 : ¬ (255 : Int32) < pi6) (P8 : n0 ≤ pa1) :
    MetB l M1 jdk_42_method_3_code 2 none ws (rmk 3 1 3 52) Z h0 #[(.ref pa1), (.ref pa2)] (Q_au2_3 Z wREFUSED wPUBLISHED wCS pa1 pa2 pk3 pi4 pi5 pi6 h0 n0) := by
  refine own_body (plainFor_of_name pn_java_lang_String) ?_
  intro p e s m below meth c s₁ hx hby hml hown hnm hret0 hlk0 hZ X0 e0
  have N0 := Fr.nil n0
  have pre0 : ∀ t, Steps p.tables e below (s₁.setTop (mkF m 0 #[(vr pa1), (vr pa2)] [])) t → Steps p.tables e below (s₁.setTop (entryFrame m #[(.ref pa1), (.ref pa2)] 2)) t := fun t k => castTop (ef_au2_3 m pa1 pa2) k
  have K0 := Keep.refl h0 [pa1]
  have hS0 := hS
  obtain ⟨S_wREFUSED, E_wREFUSED, S_wPUBLISHED, E_wPUBLISHED, S_wCS, N_wCS⟩ := hS0
  obtain ⟨cl1, Ar1, -, Sz1, Nn1, -, -⟩ := (id P3)
  obtain ⟨_, _, ⟨T2, L2, k2, n2⟩, -, X2, ⟨Lc2, hQ2, l2, y2, z2⟩, st2⟩ := X0.specialBack hx (y := M0) rfl hown (mvT hZ (ow hw 11 rfl)) (mvT hZ (ow hw 12 rfl)) (mvT hZ (ow hw 14 rfl)) (by decide) (backOf (W := 0) (au3_3 l Z a0 hw [] wREFUSED wPUBLISHED wCS hS pa1 pa2 pk3 pi4 pi5 pi6 h0 n0 O0 P0 P1 P2 P3 P5 P6 P7 P8) hZ (ow hw 14 rfl) (ow hw 6 rfl) (by decide) (by decide)) (g := (mkF m 6 #[(vr pa1), (vr pa2)] [.null, (.int 3), (.int 0), (.ref pa2), (.ref pa1)])) rfl (by rw [hml]; rfl) (Steps.refl _) (a := pa1) (argsL := [(.ref pa2), (.int 0), (.int 3), .null]) (rest := []) (lenOf pd_0 rfl) rfl (by show 2 * 0 + _ ≤ _; exact Nat.le_of_eq rfl) (hb hby d2_6) (fun _ _ => ⟨rfl, e0, (by decide : 0 + 1 ≤ _), (by decide : 0 + 3 ≤ _)⟩)
  dsimp only [Pt.U, Pt.locs, Pt.cells, Pt.slots] at X2 l2 y2 z2 st2 hQ2
  subst y2 z2
  obtain ⟨rfl, Nq2, K2q, p2_0⟩ := hQ2
  have N2 : Fr n0 L2 := (congrArg (Fr n0) l2).mpr (Fr.app N0 Nq2)
  have O3 : Old Z n0 T2.heap := O0.keep K2q (allS P8 all0)
  have K3 : Keep h0 T2.heap [pa1] := K0.trans K2q (allS (Or.inl (List.mem_of_getElem? (i := 0) rfl)) all0)
  obtain ⟨fs, hr, hrun, hended, hW, hsame⟩ := X2.leave (v := none) (fun _ => rfl)
  refine ⟨_, _, pre0 _ ?_, hrun, hended, _, _, rfl, ?_, ⟨_, rfl⟩, hW, hsame.mono (by decide) (by decide)⟩
  · skip
    show Steps p.tables e below (s₁.setTop (mkF m 0 #[(vr pa1), (vr pa2)] [])) _
    refine XS.aloadN X0.here hx rfl (hb hby d2_0) rfl rfl ?_
    refine XS.aloadN X0.here hx rfl (hb hby d2_1) rfl rfl ?_
    refine XS.iconst X0.here hx rfl (hb hby d2_2) ?_
    refine XS.aloadN X0.here hx rfl (hb hby d2_3) rfl rfl ?_
    refine X0.arraylength hx (by rw [e0]; exact Ar1.1) (State.isArrayOf_alike hZ.alike Ar1.2.1) (g := (mkF m 4 #[(vr pa1), (vr pa2)] [(.ref pa2), (.int 0), (.ref pa2), (.ref pa1)])) rfl rfl (hb hby d2_4) _ ?_
    rw [len_of Sz1 Nn1]
    refine XS.aconstNull X0.here hx rfl (hb hby d2_5) ?_
    refine st2.trans ?_
    exact X2.returnOut hx hret0 (hb hby d2_9) hr
  · show Q_au2_3 Z wREFUSED wPUBLISHED wCS pa1 pa2 pk3 pi4 pi5 pi6 h0 n0 _ T2.heap _
    exact ⟨rfl, N2, K3, p2_0⟩
theorem d1_129 : decode method_2_code 129 = .ok (.areturn, 1) := by decide +kernel
def Q_au1_3 (Z : State) (wREFUSED : Addr) (wPUBLISHED : Addr) (wCS : Int32) (pi1 : Int32) (pi2 : Int32) (pi3 : Int32) (h0 : Heap) (n0 : Nat) (v : Option Value) (h : Heap) (L : List Loc) : Prop := ∃ (e1 : Addr), v = some (.ref e1) ∧ Fr n0 L ∧ Keep h0 h [] ∧ h0.size ≤ e1 ∧ Exa Z h e1 s0n
theorem au1_3 (l : Launch) (Z : State) (a0 : Array Value) (hw : ∀ d ∈ tables_1, d.before a0 Z = true) (ws : List Jvm.Cond) (wREFUSED : Addr) (wPUBLISHED : Addr) (wCS : Int32) (hS : SS Z wREFUSED wPUBLISHED wCS) (pi1 : Int32) (pi2 : Int32) (pi3 : Int32) (h0 : Heap) (n0 : Nat) (O0 : Old Z n0 h0)  :
    MetB l M2 method_2_code 8 (some (.object s0n)) ws (rmk 4 3 10 66) Z h0 #[(.int 3), (.int pi1), (.int pi2), (.int pi3)] (Q_au1_3 Z wREFUSED wPUBLISHED wCS pi1 pi2 pi3 h0 n0) := by
  refine own_body (plainFor_of_name pn_com_example_onceward_onceward_outbox_PublicationRefusedPinLaw) ?_
  intro p e s m below meth c s₁ hx hby hml hown hnm hret0 hlk0 hZ X0 e0
  have N0 := Fr.nil n0
  have pre0 : ∀ t, Steps p.tables e below (s₁.setTop (mkF m 0 #[(vi 3), (vi pi1), (vi pi2), (vi pi3), .unset, .unset, .unset, .unset] [])) t → Steps p.tables e below (s₁.setTop (entryFrame m #[(.int 3), (.int pi1), (.int pi2), (.int pi3)] 8)) t := fun t k => castTop (ef_au1_3 m (3 : Int32) pi1 pi2 pi3) k
  have K0 := Keep.refl h0 []
  have hS0 := hS
  obtain ⟨S_wREFUSED, E_wREFUSED, S_wPUBLISHED, E_wPUBLISHED, S_wCS, N_wCS⟩ := hS0
  obtain ⟨ca, hca⟩ : ∃ z : Int32, z = ((pi1 &&& (255 : Int32)).toUInt32.toUInt16.toUInt32.toInt32) := ⟨_, rfl⟩
  have pre1 : ∀ t, Steps p.tables e below (s₁.setTop (mkF m 8 #[(vi 3), (vi pi1), (vi pi2), (vi pi3), (vi ca), .unset, .unset, .unset] [])) t → Steps p.tables e below (s₁.setTop (entryFrame m #[(.int 3), (.int pi1), (.int pi2), (.int pi3)] 8)) t := by
    intro t k
    rw [hca] at k
    refine pre0 t ?_
    show Steps p.tables e below (s₁.setTop (mkF m 0 #[(vi 3), (vi pi1), (vi pi2), (vi pi3), .unset, .unset, .unset, .unset] [])) _
    refine XS.iloadN X0.here hx rfl (hb hby d1_0) rfl ?_
    refine XS.sipush X0.here hx rfl (hb hby d1_1) ?_
    refine XS.iand X0.here hx rfl (hb hby d1_4) rfl ?_
    refine XS.i2c X0.here hx rfl (hb hby d1_5) rfl ?_
    refine XS.istore X0.here hx rfl (hb hby d1_6) rfl (l' := #[(vi 3), (vi pi1), (vi pi2), (vi pi3), .val (.int ((pi1 &&& (255 : Int32)).toUInt32.toUInt16.toUInt32.toInt32)), .unset, .unset, .unset]) rfl ?_
    exact k
  have hnca := own_chr hca
  have h255ca : ¬ (255 : Int32) < ca := hnca.1
  obtain ⟨cb, hcb⟩ : ∃ z : Int32, z = ((pi2 &&& (255 : Int32)).toUInt32.toUInt16.toUInt32.toInt32) := ⟨_, rfl⟩
  have pre2 : ∀ t, Steps p.tables e below (s₁.setTop (mkF m 16 #[(vi 3), (vi pi1), (vi pi2), (vi pi3), (vi ca), (vi cb), .unset, .unset] [])) t → Steps p.tables e below (s₁.setTop (entryFrame m #[(.int 3), (.int pi1), (.int pi2), (.int pi3)] 8)) t := by
    intro t k
    rw [hcb] at k
    refine pre1 t ?_
    show Steps p.tables e below (s₁.setTop (mkF m 8 #[(vi 3), (vi pi1), (vi pi2), (vi pi3), (vi ca), .unset, .unset, .unset] [])) _
    refine XS.iloadN X0.here hx rfl (hb hby d1_8) rfl ?_
    refine XS.sipush X0.here hx rfl (hb hby d1_9) ?_
    refine XS.iand X0.here hx rfl (hb hby d1_12) rfl ?_
    refine XS.i2c X0.here hx rfl (hb hby d1_13) rfl ?_
    refine XS.istore X0.here hx rfl (hb hby d1_14) rfl (l' := #[(vi 3), (vi pi1), (vi pi2), (vi pi3), (vi ca), .val (.int ((pi2 &&& (255 : Int32)).toUInt32.toUInt16.toUInt32.toInt32)), .unset, .unset]) rfl ?_
    exact k
  have hncb := own_chr hcb
  have h255cb : ¬ (255 : Int32) < cb := hncb.1
  obtain ⟨cc, hcc⟩ : ∃ z : Int32, z = ((pi3 &&& (255 : Int32)).toUInt32.toUInt16.toUInt32.toInt32) := ⟨_, rfl⟩
  have pre3 : ∀ t, Steps p.tables e below (s₁.setTop (mkF m 24 #[(vi 3), (vi pi1), (vi pi2), (vi pi3), (vi ca), (vi cb), (vi cc), .unset] [])) t → Steps p.tables e below (s₁.setTop (entryFrame m #[(.int 3), (.int pi1), (.int pi2), (.int pi3)] 8)) t := by
    intro t k
    rw [hcc] at k
    refine pre2 t ?_
    show Steps p.tables e below (s₁.setTop (mkF m 16 #[(vi 3), (vi pi1), (vi pi2), (vi pi3), (vi ca), (vi cb), .unset, .unset] [])) _
    refine XS.iloadN X0.here hx rfl (hb hby d1_16) rfl ?_
    refine XS.sipush X0.here hx rfl (hb hby d1_17) ?_
    refine XS.iand X0.here hx rfl (hb hby d1_20) rfl ?_
    refine XS.i2c X0.here hx rfl (hb hby d1_21) rfl ?_
    refine XS.istore X0.here hx rfl (hb hby d1_22) rfl (l' := #[(vi 3), (vi pi1), (vi pi2), (vi pi3), (vi ca), (vi cb), .val (.int ((pi3 &&& (255 : Int32)).toUInt32.toUInt16.toUInt32.toInt32)), .unset]) rfl ?_
    exact k
  have hncc := own_chr hcc
  have h255cc : ¬ (255 : Int32) < cc := hncc.1
  obtain ⟨T4, h4, k4, X4, e4, E4, A4, Z4, st4⟩ := newPE X0 hx hZ (ow hw 7 rfl) e0 (g := (mkF m 98 #[(vi 3), (vi pi1), (vi pi2), (vi pi3), (vi ca), (vi cb), (vi cc), .unset] [(.int 3)])) rfl (hb hby d1_98) rfl (by decide) (cap := 3) (by decide) (by decide) (by decide) (by decide) (ad := "[C") rfl
  obtain ⟨b4, g4⟩ : ∃ z, z = h0.size := ⟨_, rfl⟩
  rw [← g4] at A4 Z4 st4
  have g5 : n0 ≤ b4 := Nat.le_trans (own_sz O0) (Nat.le_of_eq g4.symm)
  have sz6 : h0.size ≤ b4 := Nat.le_trans K0.1 (Nat.le_of_eq g4.symm)
  have O7 : Old Z n0 h4 := O0.ext E4
  have K7 : Keep h0 h4 [] := K0.ext E4
  have V4 : Arv Z h4 b4 k4 .char (3 : Int32) ([(.int 0), (.int 0), (.int 0)]) (.int 0) := (Arv.new A4 (by decide)).pad (pad_rep [] (.int 0) 3)
  obtain ⟨cl8, Ar8, qc8, Sz8, Nn8, Ha8, Gg8⟩ := (id V4)
  have hin8 : ¬ ((0 : Int32) < 0 ∨ cl8.slots.size ≤ ((0 : Int32)).toNatClampNeg) := inb_of Sz8 ⟨by decide, by decide⟩
  obtain ⟨T8, h8, X8, e8, W8, st8⟩ := stC X4 hx hZ e4 Ar8 (j := (0 : Int32)) hin8 (g := (mkF m 107 #[(vi 3), (vi pi1), (vi pi2), (vi pi3), (vi ca), (vi cb), (vi cc), (vr b4)] [(.int ca), (.int 0), (.ref b4)])) rfl rfl (hb hby d1_107)
  have O9 : Old Z n0 h8 := O7.wr W8 g5
  have K9 : Keep h0 h8 [] := K7.wr W8 (Or.inr sz6)
  have V8 : Arv Z h8 b4 k4 .char (3 : Int32) ([(.int ca), (.int 0), (.int 0)]) (.int 0) := own_cast (by rw [hnca.2]; rfl) (Arv.set Ar8 qc8 Sz8 Nn8 Ha8 Gg8 (v := (.int (nar .char ca))) (fits_nar_char _) W8 0 rfl (Nat.le_of_ble_eq_true rfl))
  have N8 := Fr.snoc X8 N0 g5
  obtain ⟨cl10, Ar10, qc10, Sz10, Nn10, Ha10, Gg10⟩ := (id V8)
  have hin10 : ¬ ((1 : Int32) < 0 ∨ cl10.slots.size ≤ ((1 : Int32)).toNatClampNeg) := inb_of Sz10 ⟨by decide, by decide⟩
  obtain ⟨T10, h10, X10, e10, W10, st10⟩ := stC X8 hx hZ e8 Ar10 (j := (1 : Int32)) hin10 (g := (mkF m 113 #[(vi 3), (vi pi1), (vi pi2), (vi pi3), (vi ca), (vi cb), (vi cc), (vr b4)] [(.int cb), (.int 1), (.ref b4)])) rfl rfl (hb hby d1_113)
  have O11 : Old Z n0 h10 := O9.wr W10 g5
  have K11 : Keep h0 h10 [] := K9.wr W10 (Or.inr sz6)
  have V10 : Arv Z h10 b4 k4 .char (3 : Int32) ([(.int ca), (.int cb), (.int 0)]) (.int 0) := own_cast (by rw [hncb.2]; rfl) (Arv.set Ar10 qc10 Sz10 Nn10 Ha10 Gg10 (v := (.int (nar .char cb))) (fits_nar_char _) W10 1 rfl (Nat.le_of_ble_eq_true rfl))
  have N10 := Fr.snoc X10 N8 g5
  obtain ⟨cl12, Ar12, qc12, Sz12, Nn12, Ha12, Gg12⟩ := (id V10)
  have hin12 : ¬ ((2 : Int32) < 0 ∨ cl12.slots.size ≤ ((2 : Int32)).toNatClampNeg) := inb_of Sz12 ⟨by decide, by decide⟩
  obtain ⟨T12, h12, X12, e12, W12, st12⟩ := stC X10 hx hZ e10 Ar12 (j := (2 : Int32)) hin12 (g := (mkF m 119 #[(vi 3), (vi pi1), (vi pi2), (vi pi3), (vi ca), (vi cb), (vi cc), (vr b4)] [(.int cc), (.int 2), (.ref b4)])) rfl rfl (hb hby d1_119)
  have O13 : Old Z n0 h12 := O11.wr W12 g5
  have K13 : Keep h0 h12 [] := K11.wr W12 (Or.inr sz6)
  have V12 : Arv Z h12 b4 k4 .char (3 : Int32) ([(.int ca), (.int cb), (.int cc)]) (.int 0) := own_cast (by rw [hncc.2]; rfl) (Arv.set Ar12 qc12 Sz12 Nn12 Ha12 Gg12 (v := (.int (nar .char cc))) (fits_nar_char _) W12 2 rfl (Nat.le_of_ble_eq_true rfl))
  have N12 := Fr.snoc X12 N10 g5
  obtain ⟨T14, h14, X14, e14, E14, A14, D14, -, st14⟩ := newO X12 hx hZ hown (ow hw 4 rfl) (ow hw 5 rfl) (ow hw 6 rfl) e12 (g := (mkF m 120 #[(vi 3), (vi pi1), (vi pi2), (vi pi3), (vi ca), (vi cb), (vi cc), (vr b4)] [])) rfl (hb hby d1_120) (by decide) (by decide)
  obtain ⟨b14, g14⟩ : ∃ z, z = h12.size := ⟨_, rfl⟩
  rw [← g14] at A14 D14 st14
  have ne15 : b4 ≠ b14 := Nat.ne_of_lt (Nat.lt_of_lt_of_le V12.lt (Nat.le_of_eq g14.symm))
  have g16 : n0 ≤ b14 := Nat.le_trans (own_sz O13) (Nat.le_of_eq g14.symm)
  have sz17 : h0.size ≤ b14 := Nat.le_trans K13.1 (Nat.le_of_eq g14.symm)
  have O18 : Old Z n0 h14 := O13.ext E14
  have K18 : Keep h0 h14 [] := K13.ext E14
  have f19 : Fld Z h14 b14 s0n "value" "[B" .null := D14 (Or.inr (ow hw 20 rfl)) (ty := (.array .byte)) (by decide)
  have f20 : Fld Z h14 b14 s0n "coder" "B" (.int 0) := D14 (Or.inr (ow hw 21 rfl)) (ty := .byte) (by decide)
  have f21 : Arv Z h14 b4 k4 .char (3 : Int32) ([(.int ca), (.int cb), (.int cc)]) (.int 0) := (V12.ext E14)
  obtain ⟨_, _, ⟨T22, L22, k22, n22⟩, -, X22, ⟨Lc22, hQ22, l22, y22, z22⟩, st22⟩ := X14.specialBack hx (y := M1) rfl hown (mvT hZ (ow hw 8 rfl)) (mvT hZ (ow hw 9 rfl)) (mvT hZ (ow hw 10 rfl)) (by decide) (backOf (W := 1) (au2_3 l Z a0 hw [] wREFUSED wPUBLISHED wCS hS b14 b4 k4 ca cb cc h14 n0 O18 A14 f20 f19 f21 h255ca h255cb h255cc g16) hZ (ow hw 10 rfl) (ow hw 6 rfl) (by decide) (by decide)) (g := (mkF m 126 #[(vi 3), (vi pi1), (vi pi2), (vi pi3), (vi ca), (vi cb), (vi cc), (vr b4)] [(.ref b4), (.ref b14), (.ref b14)])) rfl (by rw [hml]; rfl) (Steps.refl _) (a := b14) (argsL := [(.ref b4)]) (rest := [(.ref b14)]) (lenOf pd_1 rfl) rfl (by show 2 * 0 + _ ≤ _; exact Nat.le_of_eq rfl) (hb hby d1_126) (fun _ _ => ⟨rfl, e14, (by decide : 2 + 1 ≤ _), (by decide : 7 + 3 ≤ _)⟩)
  dsimp only [Pt.U, Pt.locs, Pt.cells, Pt.slots] at X22 l22 y22 z22 st22 hQ22
  subst y22 z22
  obtain ⟨rfl, Nq22, K22q, p22_0⟩ := hQ22
  have N22 : Fr n0 L22 := (congrArg (Fr n0) l22).mpr (Fr.app N12 Nq22)
  have O23 : Old Z n0 T22.heap := O18.keep K22q (allS g16 all0)
  have K23 : Keep h0 T22.heap [] := K18.trans K22q (allS (Or.inr sz17) all0)
  obtain ⟨fs, hr, hrun, hended, hW, hsame⟩ := X22.leave (v := some (.ref b14)) (fun h => by rw [hret0] at h; cases h)
  refine ⟨_, _, pre3 _ ?_, hrun, hended, _, _, rfl, ?_, ⟨_, rfl⟩, hW, hsame.mono (by decide) (by decide)⟩
  · skip
    show Steps p.tables e below (s₁.setTop (mkF m 24 #[(vi 3), (vi pi1), (vi pi2), (vi pi3), (vi ca), (vi cb), (vi cc), .unset] [])) _
    refine XS.iloadN X0.here hx rfl (hb hby d1_24) rfl ?_
    refine XS.ifYes X0.here hx rfl (pc0 := 25) (pc' := 39) rfl (hb hby d1_25) rfl ((if0 _ _).trans (feq (by decide : ¬ ((3 : Int32) = (0 : Int32)))).2) (by decide) (by decide) ?_
    refine XS.iloadN X0.here hx rfl (hb hby d1_39) rfl ?_
    refine XS.iconst X0.here hx rfl (hb hby d1_40) ?_
    refine XS.icmpYes X0.here hx rfl (pc0 := 41) (pc' := 65) rfl (hb hby d1_41) rfl (feq (by decide : ¬ ((3 : Int32) = (1 : Int32)))).2 (by decide) (by decide) ?_
    refine XS.iloadN X0.here hx rfl (hb hby d1_65) rfl ?_
    refine XS.iconst X0.here hx rfl (hb hby d1_66) ?_
    refine XS.icmpYes X0.here hx rfl (pc0 := 67) (pc' := 97) rfl (hb hby d1_67) rfl (feq (by decide : ¬ ((3 : Int32) = (2 : Int32)))).2 (by decide) (by decide) ?_
    show Steps p.tables e below (s₁.setTop (mkF m 97 #[(vi 3), (vi pi1), (vi pi2), (vi pi3), (vi ca), (vi cb), (vi cc), .unset] [])) _
    refine XS.iconst X0.here hx rfl (hb hby d1_97) ?_
    refine st4 _ ?_
    refine XS.astore X4.here hx rfl (hb hby d1_100) rfl rfl (l' := #[(vi 3), (vi pi1), (vi pi2), (vi pi3), (vi ca), (vi cb), (vi cc), (vr b4)]) rfl ?_
    refine XS.aload X4.here hx rfl (hb hby d1_102) rfl rfl ?_
    refine XS.iconst X4.here hx rfl (hb hby d1_104) ?_
    refine XS.iload X4.here hx rfl (hb hby d1_105) rfl ?_
    refine st8 _ ?_
    refine XS.aload X8.here hx rfl (hb hby d1_108) rfl rfl ?_
    show Steps p.tables e below (T8.setTop (mkF m 110 #[(vi 3), (vi pi1), (vi pi2), (vi pi3), (vi ca), (vi cb), (vi cc), (vr b4)] [(.ref b4)])) _
    refine XS.iconst X8.here hx rfl (hb hby d1_110) ?_
    refine XS.iload X8.here hx rfl (hb hby d1_111) rfl ?_
    refine st10 _ ?_
    refine XS.aload X10.here hx rfl (hb hby d1_114) rfl rfl ?_
    refine XS.iconst X10.here hx rfl (hb hby d1_116) ?_
    refine XS.iload X10.here hx rfl (hb hby d1_117) rfl ?_
    refine st12 _ ?_
    refine st14 _ ?_
    show Steps p.tables e below (T14.setTop (mkF m 123 #[(vi 3), (vi pi1), (vi pi2), (vi pi3), (vi ca), (vi cb), (vi cc), (vr b4)] [(.ref b14)])) _
    refine XS.dup X14.here hx rfl (hb hby d1_123) rfl rfl ?_
    refine XS.aload X14.here hx rfl (hb hby d1_124) rfl rfl ?_
    refine st22.trans ?_
    jvm_step X22.here [X22.here.top, hx, (hb hby d1_129), X22.method', hret0, Value.isRef, FieldType.isReference]
    first | (intro acts; rw [hr _ acts rfl rfl rfl]) | rw [hr _ _ rfl rfl rfl]
    exact Steps.refl _
  · show Q_au1_3 Z wREFUSED wPUBLISHED wCS pi1 pi2 pi3 h0 n0 _ T22.heap _
    exact ⟨b14, rfl, N22, K23, sz17, p22_0⟩
def Q_rm0 (Z : State) (wREFUSED : Addr) (wPUBLISHED : Addr) (wCS : Int32) (p0 : Int32) (p1 : Int32) (p2 : Int32) (p3 : Int32) (h0 : Heap) (n0 : Nat) (v : Option Value) (h : Heap) (L : List Loc) : Prop := v = some (.int 1) ∧ Fr n0 L
theorem rm0 (l : Launch) (Z : State) (a0 : Array Value) (hw : ∀ d ∈ tables_1, d.before a0 Z = true) (ws : List Jvm.Cond) (wREFUSED : Addr) (wPUBLISHED : Addr) (wCS : Int32) (hS : SS Z wREFUSED wPUBLISHED wCS) (p0 : Int32) (p1 : Int32) (p2 : Int32) (p3 : Int32) (h0 : Heap) (n0 : Nat) (O0 : Old Z n0 h0)  :
    MetBI l x code maxLocals ret ws room_1 Z ELs h0 #[(.int p0), (.int p1), (.int p2), (.int p3)] (Q_rm0 Z wREFUSED wPUBLISHED wCS p0 p1 p2 p3 h0 n0) := by
  refine own_bodyI (plainFor_of_name pn_com_example_onceward_onceward_outbox_PublicationRefusedPinLaw) ?_
  intro p e s m below meth c s₁ hx hby hml hown hnm hret0 hlk0 hZ X0 e0 hS1 hC0
  have N0 := Fr.nil n0
  have pre0 : ∀ t, Steps p.tables e below (s₁.setTop (mkF m 0 #[(vi p0), (vi p1), (vi p2), (vi p3), .unset, .unset, .unset] [])) t → Steps p.tables e below (s₁.setTop (entryFrame m #[(.int p0), (.int p1), (.int p2), (.int p3)] maxLocals)) t := fun t k => castTop (ef_rm0 m p0 p1 p2 p3) k
  have hS0 := hS
  obtain ⟨S_wREFUSED, E_wREFUSED, S_wPUBLISHED, E_wPUBLISHED, S_wCS, N_wCS⟩ := hS0
  have pre1 : ∀ t, Steps p.tables e below (s₁.setTop (mkF m 3 #[(vi p0), (vi p1), (vi p2), (vi p3), .unset, .unset, .unset] [(.int (p0 &&& (3 : Int32)))])) t → Steps p.tables e below (s₁.setTop (entryFrame m #[(.int p0), (.int p1), (.int p2), (.int p3)] maxLocals)) t := by
    intro t k
    refine pre0 t ?_
    show Steps p.tables e below (s₁.setTop (mkF m 0 #[(vi p0), (vi p1), (vi p2), (vi p3), .unset, .unset, .unset] [])) _
    refine XS.iloadN X0.here hx rfl (hb hby at_0) rfl ?_
    refine XS.iconst X0.here hx rfl (hb hby at_1) ?_
    refine XS.iand X0.here hx rfl (hb hby at_2) rfl ?_
    exact k
  rcases (id (own_Q p0)) with hk2 | hk2 | hk2 | hk2
  · skip
    have pre3 : ∀ t, Steps p.tables e below (s₁.setTop (mkF m 3 #[(vi p0), (vi p1), (vi p2), (vi p3), .unset, .unset, .unset] [(.int 0)])) t → Steps p.tables e below (s₁.setTop (entryFrame m #[(.int p0), (.int p1), (.int p2), (.int p3)] maxLocals)) t := by
      intro t k
      refine pre1 t ?_
      rw [hk2]
      exact k
    have pre5 : ∀ t, Steps p.tables e below (s₁.setTop (mkF m 6 #[(vi p0), (vi p1), (vi p2), (vi p3), .unset, .unset, .unset] [(.int p3), (.int p2), (.int p1), (.int 0)])) t → Steps p.tables e below (s₁.setTop (entryFrame m #[(.int p0), (.int p1), (.int p2), (.int p3)] maxLocals)) t := by
      intro t k
      refine pre3 t ?_
      show Steps p.tables e below (s₁.setTop (mkF m 3 #[(vi p0), (vi p1), (vi p2), (vi p3), .unset, .unset, .unset] [(.int 0)])) _
      refine XS.iloadN X0.here hx rfl (hb hby at_3) rfl ?_
      refine XS.iloadN X0.here hx rfl (hb hby at_4) rfl ?_
      refine XS.iloadN X0.here hx rfl (hb hby at_5) rfl ?_
      exact k
    obtain ⟨_, _, ⟨T4, L4, k4, n4⟩, -, X4, hs4, hg4, ⟨Lc4, hQ4, l4, y4, z4⟩, st4⟩ := callSS X0 hx (y := M2) hown (mvT hZ (ow hw 0 rfl)) (mvT hZ (ow hw 1 rfl)) (mvT hZ (ow hw 2 rfl)) (mvT hZ (ow hw 3 rfl)) (by decide) (own_backI (W := 0) (au1_0 l Z a0 hw [] wREFUSED wPUBLISHED wCS hS p1 p2 p3 h0 n0 O0 ) hZ (ow hw 3 rfl) (ow hw 2 rfl) (by decide) (by decide) (own_EW hw) hC0) (g := (mkF m 6 #[(vi p0), (vi p1), (vi p2), (vi p3), .unset, .unset, .unset] [(.int p3), (.int p2), (.int p1), (.int 0)])) rfl (by rw [hml]; rfl) (argsL := [(.int 0), (.int p1), (.int p2), (.int p3)]) (rest := []) (lenOf pd_2 rfl) rfl (by show 2 * 0 + _ ≤ _; exact Nat.le_of_eq rfl) (hb hby at_6) (fun _ _ => ⟨rfl, e0, (by decide : 0 + 4 ≤ _), (by decide : 0 + 8 ≤ _)⟩)
    dsimp only [Pt.U, Pt.locs, Pt.cells, Pt.slots] at hs4 hg4
    have hS4 := foldS hS1 (by rw [e0]; exact (Nat.le_refl _)) hs4 hg4
    have hown : (s.setVm T4.vm).vm.findClass s4n = some m.cls := by rw [show (s.setVm T4.vm).vm = T4.vm from rfl, hs4.1.alike.findClass]; exact hown
    have hZ : Z.Warmed39 (s.setVm T4.vm).vm := State.Warmed39.trans (t := s.setVm _) hZ hs4.1
    dsimp only [Pt.U, Pt.locs, Pt.cells, Pt.slots] at X4 l4 y4 z4 st4 hQ4
    subst y4 z4
    have X4 : Stand p l e _ (s.setVm T4.vm) m _ below meth c T4 L4 _ _ := X4
    obtain ⟨e1_4, rfl, Nq4, K4q, p4_0, p4_1⟩ := hQ4
    have N4 : Fr n0 L4 := (congrArg (Fr n0) l4).mpr (Fr.app N0 Nq4)
    have g6 : n0 ≤ e1_4 := Nat.le_trans (own_sz O0) p4_0
    have O7 : Old Z n0 T4.heap := O0.keep K4q all0
    have pre9 : ∀ t, Steps p.tables e below (T4.setTop (mkF m 13 #[(vi p0), (vi p1), (vi p2), (vi p3), (vr e1_4), .unset, .unset] [(.ref e1_4)])) t → Steps p.tables e below (s₁.setTop (entryFrame m #[(.int p0), (.int p1), (.int p2), (.int p3)] maxLocals)) t := by
      intro t k
      refine pre5 t ?_
      refine st4.trans ?_
      refine XS.astore X4.here hx rfl (hb hby at_9) rfl rfl (l' := #[(vi p0), (vi p1), (vi p2), (vi p3), (vr e1_4), .unset, .unset]) rfl ?_
      refine XS.aload X4.here hx rfl (hb hby at_11) rfl rfl ?_
      exact k
    obtain ⟨_, _, ⟨T8, L8, k8, n8⟩, -, X8, hs8, hg8, ⟨Lc8, hQ8, l8, y8, z8⟩, st8⟩ := callSS X4 hx (y := M5) hown (mvT hZ (ow hw 26 rfl)) (mvT hZ (ow hw 27 rfl)) (mvT hZ (ow hw 28 rfl)) (mvT hZ (ow hw 29 rfl)) (by decide) (backOfS (W := 0) (au5_0 l Z a0 hw [] wREFUSED wPUBLISHED wCS hS e1_4 T4.heap n0 O7 p4_1) hZ (ow hw 29 rfl) (ow hw 28 rfl) (by decide) (by decide)) (g := (mkF m 13 #[(vi p0), (vi p1), (vi p2), (vi p3), (vr e1_4), .unset, .unset] [(.ref e1_4)])) rfl (by rw [hml]; rfl) (argsL := [(.ref e1_4)]) (rest := []) (lenOf pd_5 rfl) rfl (by show 2 * 0 + _ ≤ _; exact Nat.le_of_eq rfl) (hb hby at_13) (fun _ _ => ⟨rfl, rfl, (by decide : 4 + 3 ≤ _), (by decide : 8 + 30 ≤ _)⟩)
    dsimp only [Pt.U, Pt.locs, Pt.cells, Pt.slots] at hs8 hg8
    have hS8 := foldS hS4 (Nat.le_refl _) hs8 hg8
    have hown : (s.setVm T8.vm).vm.findClass s4n = some m.cls := by rw [show (s.setVm T8.vm).vm = T8.vm from rfl, hs8.1.alike.findClass]; exact hown
    have hZ : Z.Warmed39 (s.setVm T8.vm).vm := State.Warmed39.trans (t := s.setVm _) hZ hs8.1
    dsimp only [Pt.U, Pt.locs, Pt.cells, Pt.slots] at X8 l8 y8 z8 st8 hQ8
    subst y8 z8
    have X8 : Stand p l e _ (s.setVm T8.vm) m _ below meth c T8 L8 _ _ := X8
    obtain ⟨e1_8, rfl, Nq8, K8q, p8_0, p8_1, p8_2, p8_3⟩ := hQ8
    have N8 : Fr n0 L8 := (congrArg (Fr n0) l8).mpr (Fr.app N4 Nq8)
    have ne10 : e1_4 ≠ e1_8 := Nat.ne_of_lt (Nat.lt_of_lt_of_le p4_1.lt p8_0)
    have g11 : n0 ≤ e1_8 := Nat.le_trans (own_sz O7) p8_0
    have O12 : Old Z n0 T8.heap := O7.keep K8q all0
    obtain ⟨_, _, ⟨T13, L13, k13, n13⟩, -, X13, ⟨Lc13, hQ13, l13, y13, z13⟩, st13⟩ := Jvm.LawKit.callS X8 hx (y := M6) hown (mvT hZ (ow hw 49 rfl)) (mvT hZ (ow hw 50 rfl)) (mvT hZ (ow hw 28 rfl)) (mvT hZ (ow hw 51 rfl)) (by decide) (backOf (W := 1) (au8_0 l Z a0 hw [] wREFUSED wPUBLISHED wCS hS  T8.heap n0 O12 ) hZ (ow hw 51 rfl) (ow hw 28 rfl) (by decide) (by decide)) (g := (mkF m 27 #[(vi p0), (vi p1), (vi p2), (vi p3), (vr e1_4), (vr e1_8), .unset] [(.ref e1_8)])) rfl (by rw [hml]; rfl) (argsL := []) (rest := [(.ref e1_8)]) (lenOf pd_6 rfl) rfl (by show 2 * 0 + _ ≤ _; exact Nat.le_of_eq rfl) (hb hby at_27) (fun _ _ => ⟨rfl, rfl, (by decide : 7 + 0 ≤ _), (by decide : 38 + 0 ≤ _)⟩)
    dsimp only [Pt.U, Pt.locs, Pt.cells, Pt.slots] at X13 l13 y13 z13 st13 hQ13
    subst y13 z13
    obtain ⟨rfl, Nq13, K13q⟩ := hQ13
    have N13 : Fr n0 L13 := (congrArg (Fr n0) l13).mpr (Fr.app N8 Nq13)
    obtain ⟨cq14, kq14, q14a, q14b, q14c⟩ := isOf hZ K13q p8_1
    obtain ⟨_, _, ⟨T14, L14, k14, n14⟩, -, X14, ⟨Lc14, hQ14, l14, y14, z14⟩, st14⟩ := X13.virtualBack hx (y := M7) (z := M7) hown (mvT hZ (ow hw 54 rfl)) (mvT hZ (ow hw 55 rfl)) (notFace_of_selects (args := #[]) (mvT hZ (ow hw 57 rfl))) (mvT hZ (ow hw 57 rfl)) (mvT hZ (ow hw 56 rfl)) (by decide) (backOf (W := 0) (au9_0 l Z a0 hw [] wREFUSED wPUBLISHED wCS hS e1_8 T8.heap n0 O12 p8_3) hZ (ow hw 58 rfl) (ow hw 28 rfl) (by decide) (by decide)) q14a q14c (g := (mkF m 37 #[(vi p0), (vi p1), (vi p2), (vi p3), (vr e1_4), (vr e1_8), .unset] [(.ref e1_8)])) rfl (by rw [hml]; rfl) (Steps.refl _) (argsL := []) (rest := []) (lenOf pd_7 rfl) rfl (by show 2 * 0 + _ ≤ _; exact Nat.le_of_eq rfl) (hb hby at_37) (fun _ _ => ⟨rfl, K13q, (by decide : 7 + 0 ≤ _), (by decide : 38 + 0 ≤ _)⟩)
    dsimp only [Pt.U, Pt.locs, Pt.cells, Pt.slots] at X14 l14 y14 z14 st14 hQ14
    subst y14 z14
    obtain ⟨rfl, Nq14, K14q⟩ := hQ14
    have N14 : Fr n0 L14 := (congrArg (Fr n0) l14).mpr (Fr.app N13 Nq14)
    obtain ⟨T15, X15, e15, st15⟩ := getS2 X14 hx hZ hown (host := "") (Or.inl (ow hw 59 rfl)) Via.refl K14q (S_wREFUSED.ext O12.2) (g := (mkF m 40 #[(vi p0), (vi p1), (vi p2), (vi p3), (vr e1_4), (vr e1_8), .unset] [(.ref wREFUSED)])) rfl (hb hby at_40)
    obtain ⟨cq16, kq16, q16a, q16b, q16c⟩ := isOf hZ e15 p8_1
    obtain ⟨_, _, ⟨T16, L16, k16, n16⟩, -, X16, ⟨Lc16, hQ16, l16, y16, z16⟩, st16⟩ := X15.virtualBack hx (y := M8) (z := M8) hown (mvT hZ (ow hw 60 rfl)) (mvT hZ (ow hw 61 rfl)) (notFace_of_selects (args := #[]) (mvT hZ (ow hw 63 rfl))) (mvT hZ (ow hw 63 rfl)) (mvT hZ (ow hw 62 rfl)) (by decide) (backOf (W := 0) (au10_0 l Z a0 hw [] wREFUSED wPUBLISHED wCS hS e1_8 e1_4 T8.heap n0 O12 p8_2) hZ (ow hw 64 rfl) (ow hw 28 rfl) (by decide) (by decide)) q16a q16c (g := (mkF m 50 #[(vi p0), (vi p1), (vi p2), (vi p3), (vr e1_4), (vr e1_8), .unset] [(.ref e1_8)])) rfl (by rw [hml]; rfl) (Steps.refl _) (argsL := []) (rest := []) (lenOf pd_8 rfl) rfl (by show 2 * 0 + _ ≤ _; exact Nat.le_of_eq rfl) (hb hby at_50) (fun _ _ => ⟨rfl, e15, (by decide : 7 + 0 ≤ _), (by decide : 38 + 0 ≤ _)⟩)
    dsimp only [Pt.U, Pt.locs, Pt.cells, Pt.slots] at X16 l16 y16 z16 st16 hQ16
    subst y16 z16
    obtain ⟨rfl, Nq16, K16q⟩ := hQ16
    have N16 : Fr n0 L16 := (congrArg (Fr n0) l16).mpr (Fr.app N14 Nq16)
    have f18 : Exa Z T8.heap e1_4 s0n := (p4_1.keep K8q)
    obtain ⟨cq17, kq17, q17a, q17b, q17c⟩ := isOf hZ K16q f18
    obtain ⟨_, _, ⟨T17, L17, k17, n17⟩, -, X17, ⟨Lc17, hQ17, l17, y17, z17⟩, st17⟩ := X16.virtualBack hx (y := M9) (z := M9) hown (mvT hZ (ow hw 65 rfl)) (mvT hZ (ow hw 66 rfl)) (notFace_of_selects (args := #[]) (mvT hZ (ow hw 68 rfl))) (mvT hZ (ow hw 68 rfl)) (mvT hZ (ow hw 67 rfl)) (by decide) (backOf (W := 0) (au11_0 l Z a0 hw [] wREFUSED wPUBLISHED wCS hS e1_4 T8.heap n0 O12 ) hZ (ow hw 69 rfl) (ow hw 6 rfl) (by decide) (by decide)) q17a q17c (g := (mkF m 68 #[(vi p0), (vi p1), (vi p2), (vi p3), (vr e1_4), (vr e1_8), (vr e1_4)] [(.ref e1_4), (.ref e1_4)])) rfl (by rw [hml]; rfl) (Steps.refl _) (argsL := [(.ref e1_4)]) (rest := []) (lenOf pd_9 rfl) rfl (by show 2 * 0 + _ ≤ _; exact Nat.le_of_eq rfl) (hb hby at_68) (fun _ _ => ⟨rfl, K16q, (by decide : 7 + 0 ≤ _), (by decide : 38 + 0 ≤ _)⟩)
    dsimp only [Pt.U, Pt.locs, Pt.cells, Pt.slots] at X17 l17 y17 z17 st17 hQ17
    subst y17 z17
    obtain ⟨rfl, Nq17, K17q⟩ := hQ17
    have N17 : Fr n0 L17 := (congrArg (Fr n0) l17).mpr (Fr.app N16 Nq17)
    obtain ⟨fs, hr, hrun, hended, hRW⟩ := X17.leaveW hS8 (by rw [K17q]; exact (Nat.le_refl _)) (v := some (.int 1)) (fun h => by rw [hret0] at h; cases h)
    refine ⟨_, _, pre9 _ ?_, hrun, hended, _, _, rfl, ?_, hRW.1, hRW.2.1, hRW.2.2.1, hRW.2.2.2.mono (by decide) (by decide)⟩
    · skip
      refine st8.trans ?_
      refine XS.astore X8.here hx rfl (hb hby at_16) rfl rfl (l' := #[(vi p0), (vi p1), (vi p2), (vi p3), (vr e1_4), (vr e1_8), .unset]) rfl ?_
      show Steps p.tables e below (T8.setTop (mkF m 18 #[(vi p0), (vi p1), (vi p2), (vi p3), (vr e1_4), (vr e1_8), .unset] [])) _
      refine XS.aload X8.here hx rfl (hb hby at_18) rfl rfl ?_
      refine XS.ifnonnullYes X8.here hx rfl (pc0 := 20) (pc' := 25) rfl (hb hby at_20) rfl (by decide) (by decide) ?_
      refine XS.aload X8.here hx rfl (hb hby at_25) rfl rfl ?_
      refine st13 _ ?_
      refine Jvm.RoadKit.acmp (g := (mkF m 30 #[(vi p0), (vi p1), (vi p2), (vi p3), (vr e1_4), (vr e1_8), .unset] [(.ref wPUBLISHED), (.ref e1_8)])) X13 hx rfl rfl rfl (pc0 := 30) (pc' := 35) (same := false) rfl (hb hby at_30) rfl (decide_eq_false fun q => (Ne.symm (Old.ne O0 E_wPUBLISHED.lt g11)) (Value.ref.inj q)) (by decide) (by decide) ?_
      refine XS.aload X13.here hx rfl (hb hby at_35) rfl rfl ?_
      refine st14.trans ?_
      refine st15 _ ?_
      show Steps p.tables e below (T15.setTop (mkF m 43 #[(vi p0), (vi p1), (vi p2), (vi p3), (vr e1_4), (vr e1_8), .unset] [(.ref wREFUSED), (.ref wREFUSED)])) _
      refine Jvm.RoadKit.acmp (g := (mkF m 43 #[(vi p0), (vi p1), (vi p2), (vi p3), (vr e1_4), (vr e1_8), .unset] [(.ref wREFUSED), (.ref wREFUSED)])) X15 hx rfl rfl rfl (pc0 := 43) (pc' := 48) (same := true) rfl (hb hby at_43) rfl (decide_eq_true rfl) (by decide) (by decide) ?_
      refine XS.aload X15.here hx rfl (hb hby at_48) rfl rfl ?_
      refine st16.trans ?_
      refine XS.astore X16.here hx rfl (hb hby at_53) rfl rfl (l' := #[(vi p0), (vi p1), (vi p2), (vi p3), (vr e1_4), (vr e1_8), (vr e1_4)]) rfl ?_
      refine XS.aload X16.here hx rfl (hb hby at_55) rfl rfl ?_
      refine XS.aload X16.here hx rfl (hb hby at_57) rfl rfl ?_
      refine Jvm.RoadKit.acmp (g := (mkF m 59 #[(vi p0), (vi p1), (vi p2), (vi p3), (vr e1_4), (vr e1_8), (vr e1_4)] [(.ref e1_4), (.ref e1_4)])) X16 hx rfl rfl rfl (pc0 := 59) (pc' := 64) (same := true) rfl (hb hby at_59) rfl (decide_eq_true rfl) (by decide) (by decide) ?_
      refine XS.aload X16.here hx rfl (hb hby at_64) rfl rfl ?_
      show Steps p.tables e below (T16.setTop (mkF m 66 #[(vi p0), (vi p1), (vi p2), (vi p3), (vr e1_4), (vr e1_8), (vr e1_4)] [(.ref e1_4)])) _
      refine XS.aload X16.here hx rfl (hb hby at_66) rfl rfl ?_
      refine st17.trans ?_
      exact retN X17 hx (t := .boolean) hret0 (by simp) (hb hby at_71) hr
    · show Q_rm0 Z wREFUSED wPUBLISHED wCS p0 p1 p2 p3 h0 n0 _ T17.heap _
      rw [K17q]
      exact ⟨rfl, N17⟩
  · skip
    have pre19 : ∀ t, Steps p.tables e below (s₁.setTop (mkF m 3 #[(vi p0), (vi p1), (vi p2), (vi p3), .unset, .unset, .unset] [(.int 1)])) t → Steps p.tables e below (s₁.setTop (entryFrame m #[(.int p0), (.int p1), (.int p2), (.int p3)] maxLocals)) t := by
      intro t k
      refine pre1 t ?_
      rw [hk2]
      exact k
    obtain ⟨_, _, ⟨T20, L20, k20, n20⟩, -, X20, ⟨Lc20, hQ20, l20, y20, z20⟩, st20⟩ := Jvm.LawKit.callS X0 hx (y := M2) hown (mvT hZ (ow hw 0 rfl)) (mvT hZ (ow hw 1 rfl)) (mvT hZ (ow hw 2 rfl)) (mvT hZ (ow hw 3 rfl)) (by decide) (backOf (W := 0) (au1_1 l Z a0 hw [] wREFUSED wPUBLISHED wCS hS p1 p2 p3 h0 n0 O0 ) hZ (ow hw 3 rfl) (ow hw 2 rfl) (by decide) (by decide)) (g := (mkF m 6 #[(vi p0), (vi p1), (vi p2), (vi p3), .unset, .unset, .unset] [(.int p3), (.int p2), (.int p1), (.int 1)])) rfl (by rw [hml]; rfl) (argsL := [(.int 1), (.int p1), (.int p2), (.int p3)]) (rest := []) (lenOf pd_2 rfl) rfl (by show 2 * 0 + _ ≤ _; exact Nat.le_of_eq rfl) (hb hby at_6) (fun _ _ => ⟨rfl, e0, (by decide : 0 + 3 ≤ _), (by decide : 0 + 6 ≤ _)⟩)
    dsimp only [Pt.U, Pt.locs, Pt.cells, Pt.slots] at X20 l20 y20 z20 st20 hQ20
    subst y20 z20
    obtain ⟨e1_20, rfl, Nq20, K20q, p20_0, p20_1⟩ := hQ20
    have N20 : Fr n0 L20 := (congrArg (Fr n0) l20).mpr (Fr.app N0 Nq20)
    have g21 : n0 ≤ e1_20 := Nat.le_trans (own_sz O0) p20_0
    have O22 : Old Z n0 T20.heap := O0.keep K20q all0
    have pre24 : ∀ t, Steps p.tables e below (T20.setTop (mkF m 13 #[(vi p0), (vi p1), (vi p2), (vi p3), (vr e1_20), .unset, .unset] [(.ref e1_20)])) t → Steps p.tables e below (s₁.setTop (entryFrame m #[(.int p0), (.int p1), (.int p2), (.int p3)] maxLocals)) t := by
      intro t k
      refine pre19 t ?_
      show Steps p.tables e below (s₁.setTop (mkF m 3 #[(vi p0), (vi p1), (vi p2), (vi p3), .unset, .unset, .unset] [(.int 1)])) _
      refine XS.iloadN X0.here hx rfl (hb hby at_3) rfl ?_
      refine XS.iloadN X0.here hx rfl (hb hby at_4) rfl ?_
      refine XS.iloadN X0.here hx rfl (hb hby at_5) rfl ?_
      refine st20 _ ?_
      refine XS.astore X20.here hx rfl (hb hby at_9) rfl rfl (l' := #[(vi p0), (vi p1), (vi p2), (vi p3), (vr e1_20), .unset, .unset]) rfl ?_
      refine XS.aload X20.here hx rfl (hb hby at_11) rfl rfl ?_
      exact k
    have hk25 : _ ≤ T20.heap.size := (Nat.le_trans (Nat.le_refl _) K20q.1)
    obtain ⟨_, _, ⟨T23, L23, k23, n23⟩, -, X23, hs23, hg23, ⟨Lc23, hQ23, l23, y23, z23⟩, st23⟩ := callSS X20 hx (y := M5) hown (mvT hZ (ow hw 26 rfl)) (mvT hZ (ow hw 27 rfl)) (mvT hZ (ow hw 28 rfl)) (mvT hZ (ow hw 29 rfl)) (by decide) (backOfS (W := 0) (au5_0 l Z a0 hw [] wREFUSED wPUBLISHED wCS hS e1_20 T20.heap n0 O22 p20_1) hZ (ow hw 29 rfl) (ow hw 28 rfl) (by decide) (by decide)) (g := (mkF m 13 #[(vi p0), (vi p1), (vi p2), (vi p3), (vr e1_20), .unset, .unset] [(.ref e1_20)])) rfl (by rw [hml]; rfl) (argsL := [(.ref e1_20)]) (rest := []) (lenOf pd_5 rfl) rfl (by show 2 * 0 + _ ≤ _; exact Nat.le_of_eq rfl) (hb hby at_13) (fun _ _ => ⟨rfl, rfl, (by decide : 3 + 3 ≤ _), (by decide : 6 + 30 ≤ _)⟩)
    dsimp only [Pt.U, Pt.locs, Pt.cells, Pt.slots] at hs23 hg23
    have hS23 := foldS hS1 hk25 hs23 hg23
    have hown : (s.setVm T23.vm).vm.findClass s4n = some m.cls := by rw [show (s.setVm T23.vm).vm = T23.vm from rfl, hs23.1.alike.findClass]; exact hown
    have hZ : Z.Warmed39 (s.setVm T23.vm).vm := State.Warmed39.trans (t := s.setVm _) hZ hs23.1
    dsimp only [Pt.U, Pt.locs, Pt.cells, Pt.slots] at X23 l23 y23 z23 st23 hQ23
    subst y23 z23
    have X23 : Stand p l e _ (s.setVm T23.vm) m _ below meth c T23 L23 _ _ := X23
    obtain ⟨e1_23, rfl, Nq23, K23q, p23_0, p23_1, p23_2, p23_3⟩ := hQ23
    have N23 : Fr n0 L23 := (congrArg (Fr n0) l23).mpr (Fr.app N20 Nq23)
    have ne26 : e1_20 ≠ e1_23 := Nat.ne_of_lt (Nat.lt_of_lt_of_le p20_1.lt p23_0)
    have g27 : n0 ≤ e1_23 := Nat.le_trans (own_sz O22) p23_0
    have O28 : Old Z n0 T23.heap := O22.keep K23q all0
    obtain ⟨_, _, ⟨T29, L29, k29, n29⟩, -, X29, ⟨Lc29, hQ29, l29, y29, z29⟩, st29⟩ := Jvm.LawKit.callS X23 hx (y := M6) hown (mvT hZ (ow hw 49 rfl)) (mvT hZ (ow hw 50 rfl)) (mvT hZ (ow hw 28 rfl)) (mvT hZ (ow hw 51 rfl)) (by decide) (backOf (W := 1) (au8_0 l Z a0 hw [] wREFUSED wPUBLISHED wCS hS  T23.heap n0 O28 ) hZ (ow hw 51 rfl) (ow hw 28 rfl) (by decide) (by decide)) (g := (mkF m 27 #[(vi p0), (vi p1), (vi p2), (vi p3), (vr e1_20), (vr e1_23), .unset] [(.ref e1_23)])) rfl (by rw [hml]; rfl) (argsL := []) (rest := [(.ref e1_23)]) (lenOf pd_6 rfl) rfl (by show 2 * 0 + _ ≤ _; exact Nat.le_of_eq rfl) (hb hby at_27) (fun _ _ => ⟨rfl, rfl, (by decide : 6 + 0 ≤ _), (by decide : 36 + 0 ≤ _)⟩)
    dsimp only [Pt.U, Pt.locs, Pt.cells, Pt.slots] at X29 l29 y29 z29 st29 hQ29
    subst y29 z29
    obtain ⟨rfl, Nq29, K29q⟩ := hQ29
    have N29 : Fr n0 L29 := (congrArg (Fr n0) l29).mpr (Fr.app N23 Nq29)
    obtain ⟨cq30, kq30, q30a, q30b, q30c⟩ := isOf hZ K29q p23_1
    obtain ⟨_, _, ⟨T30, L30, k30, n30⟩, -, X30, ⟨Lc30, hQ30, l30, y30, z30⟩, st30⟩ := X29.virtualBack hx (y := M7) (z := M7) hown (mvT hZ (ow hw 54 rfl)) (mvT hZ (ow hw 55 rfl)) (notFace_of_selects (args := #[]) (mvT hZ (ow hw 57 rfl))) (mvT hZ (ow hw 57 rfl)) (mvT hZ (ow hw 56 rfl)) (by decide) (backOf (W := 0) (au9_0 l Z a0 hw [] wREFUSED wPUBLISHED wCS hS e1_23 T23.heap n0 O28 p23_3) hZ (ow hw 58 rfl) (ow hw 28 rfl) (by decide) (by decide)) q30a q30c (g := (mkF m 37 #[(vi p0), (vi p1), (vi p2), (vi p3), (vr e1_20), (vr e1_23), .unset] [(.ref e1_23)])) rfl (by rw [hml]; rfl) (Steps.refl _) (argsL := []) (rest := []) (lenOf pd_7 rfl) rfl (by show 2 * 0 + _ ≤ _; exact Nat.le_of_eq rfl) (hb hby at_37) (fun _ _ => ⟨rfl, K29q, (by decide : 6 + 0 ≤ _), (by decide : 36 + 0 ≤ _)⟩)
    dsimp only [Pt.U, Pt.locs, Pt.cells, Pt.slots] at X30 l30 y30 z30 st30 hQ30
    subst y30 z30
    obtain ⟨rfl, Nq30, K30q⟩ := hQ30
    have N30 : Fr n0 L30 := (congrArg (Fr n0) l30).mpr (Fr.app N29 Nq30)
    obtain ⟨T31, X31, e31, st31⟩ := getS2 X30 hx hZ hown (host := "") (Or.inl (ow hw 59 rfl)) Via.refl K30q (S_wREFUSED.ext O28.2) (g := (mkF m 40 #[(vi p0), (vi p1), (vi p2), (vi p3), (vr e1_20), (vr e1_23), .unset] [(.ref wREFUSED)])) rfl (hb hby at_40)
    obtain ⟨cq32, kq32, q32a, q32b, q32c⟩ := isOf hZ e31 p23_1
    obtain ⟨_, _, ⟨T32, L32, k32, n32⟩, -, X32, ⟨Lc32, hQ32, l32, y32, z32⟩, st32⟩ := X31.virtualBack hx (y := M8) (z := M8) hown (mvT hZ (ow hw 60 rfl)) (mvT hZ (ow hw 61 rfl)) (notFace_of_selects (args := #[]) (mvT hZ (ow hw 63 rfl))) (mvT hZ (ow hw 63 rfl)) (mvT hZ (ow hw 62 rfl)) (by decide) (backOf (W := 0) (au10_0 l Z a0 hw [] wREFUSED wPUBLISHED wCS hS e1_23 e1_20 T23.heap n0 O28 p23_2) hZ (ow hw 64 rfl) (ow hw 28 rfl) (by decide) (by decide)) q32a q32c (g := (mkF m 50 #[(vi p0), (vi p1), (vi p2), (vi p3), (vr e1_20), (vr e1_23), .unset] [(.ref e1_23)])) rfl (by rw [hml]; rfl) (Steps.refl _) (argsL := []) (rest := []) (lenOf pd_8 rfl) rfl (by show 2 * 0 + _ ≤ _; exact Nat.le_of_eq rfl) (hb hby at_50) (fun _ _ => ⟨rfl, e31, (by decide : 6 + 0 ≤ _), (by decide : 36 + 0 ≤ _)⟩)
    dsimp only [Pt.U, Pt.locs, Pt.cells, Pt.slots] at X32 l32 y32 z32 st32 hQ32
    subst y32 z32
    obtain ⟨rfl, Nq32, K32q⟩ := hQ32
    have N32 : Fr n0 L32 := (congrArg (Fr n0) l32).mpr (Fr.app N30 Nq32)
    have f34 : Exa Z T23.heap e1_20 s0n := (p20_1.keep K23q)
    obtain ⟨cq33, kq33, q33a, q33b, q33c⟩ := isOf hZ K32q f34
    obtain ⟨_, _, ⟨T33, L33, k33, n33⟩, -, X33, ⟨Lc33, hQ33, l33, y33, z33⟩, st33⟩ := X32.virtualBack hx (y := M9) (z := M9) hown (mvT hZ (ow hw 65 rfl)) (mvT hZ (ow hw 66 rfl)) (notFace_of_selects (args := #[]) (mvT hZ (ow hw 68 rfl))) (mvT hZ (ow hw 68 rfl)) (mvT hZ (ow hw 67 rfl)) (by decide) (backOf (W := 0) (au11_0 l Z a0 hw [] wREFUSED wPUBLISHED wCS hS e1_20 T23.heap n0 O28 ) hZ (ow hw 69 rfl) (ow hw 6 rfl) (by decide) (by decide)) q33a q33c (g := (mkF m 68 #[(vi p0), (vi p1), (vi p2), (vi p3), (vr e1_20), (vr e1_23), (vr e1_20)] [(.ref e1_20), (.ref e1_20)])) rfl (by rw [hml]; rfl) (Steps.refl _) (argsL := [(.ref e1_20)]) (rest := []) (lenOf pd_9 rfl) rfl (by show 2 * 0 + _ ≤ _; exact Nat.le_of_eq rfl) (hb hby at_68) (fun _ _ => ⟨rfl, K32q, (by decide : 6 + 0 ≤ _), (by decide : 36 + 0 ≤ _)⟩)
    dsimp only [Pt.U, Pt.locs, Pt.cells, Pt.slots] at X33 l33 y33 z33 st33 hQ33
    subst y33 z33
    obtain ⟨rfl, Nq33, K33q⟩ := hQ33
    have N33 : Fr n0 L33 := (congrArg (Fr n0) l33).mpr (Fr.app N32 Nq33)
    obtain ⟨fs, hr, hrun, hended, hRW⟩ := X33.leaveW hS23 (by rw [K33q]; exact (Nat.le_refl _)) (v := some (.int 1)) (fun h => by rw [hret0] at h; cases h)
    refine ⟨_, _, pre24 _ ?_, hrun, hended, _, _, rfl, ?_, hRW.1, hRW.2.1, hRW.2.2.1, hRW.2.2.2.mono (by decide) (by decide)⟩
    · skip
      refine st23.trans ?_
      refine XS.astore X23.here hx rfl (hb hby at_16) rfl rfl (l' := #[(vi p0), (vi p1), (vi p2), (vi p3), (vr e1_20), (vr e1_23), .unset]) rfl ?_
      show Steps p.tables e below (T23.setTop (mkF m 18 #[(vi p0), (vi p1), (vi p2), (vi p3), (vr e1_20), (vr e1_23), .unset] [])) _
      refine XS.aload X23.here hx rfl (hb hby at_18) rfl rfl ?_
      refine XS.ifnonnullYes X23.here hx rfl (pc0 := 20) (pc' := 25) rfl (hb hby at_20) rfl (by decide) (by decide) ?_
      refine XS.aload X23.here hx rfl (hb hby at_25) rfl rfl ?_
      refine st29 _ ?_
      refine Jvm.RoadKit.acmp (g := (mkF m 30 #[(vi p0), (vi p1), (vi p2), (vi p3), (vr e1_20), (vr e1_23), .unset] [(.ref wPUBLISHED), (.ref e1_23)])) X29 hx rfl rfl rfl (pc0 := 30) (pc' := 35) (same := false) rfl (hb hby at_30) rfl (decide_eq_false fun q => (Ne.symm (Old.ne O0 E_wPUBLISHED.lt g27)) (Value.ref.inj q)) (by decide) (by decide) ?_
      refine XS.aload X29.here hx rfl (hb hby at_35) rfl rfl ?_
      refine st30.trans ?_
      refine st31 _ ?_
      show Steps p.tables e below (T31.setTop (mkF m 43 #[(vi p0), (vi p1), (vi p2), (vi p3), (vr e1_20), (vr e1_23), .unset] [(.ref wREFUSED), (.ref wREFUSED)])) _
      refine Jvm.RoadKit.acmp (g := (mkF m 43 #[(vi p0), (vi p1), (vi p2), (vi p3), (vr e1_20), (vr e1_23), .unset] [(.ref wREFUSED), (.ref wREFUSED)])) X31 hx rfl rfl rfl (pc0 := 43) (pc' := 48) (same := true) rfl (hb hby at_43) rfl (decide_eq_true rfl) (by decide) (by decide) ?_
      refine XS.aload X31.here hx rfl (hb hby at_48) rfl rfl ?_
      refine st32.trans ?_
      refine XS.astore X32.here hx rfl (hb hby at_53) rfl rfl (l' := #[(vi p0), (vi p1), (vi p2), (vi p3), (vr e1_20), (vr e1_23), (vr e1_20)]) rfl ?_
      refine XS.aload X32.here hx rfl (hb hby at_55) rfl rfl ?_
      refine XS.aload X32.here hx rfl (hb hby at_57) rfl rfl ?_
      refine Jvm.RoadKit.acmp (g := (mkF m 59 #[(vi p0), (vi p1), (vi p2), (vi p3), (vr e1_20), (vr e1_23), (vr e1_20)] [(.ref e1_20), (.ref e1_20)])) X32 hx rfl rfl rfl (pc0 := 59) (pc' := 64) (same := true) rfl (hb hby at_59) rfl (decide_eq_true rfl) (by decide) (by decide) ?_
      refine XS.aload X32.here hx rfl (hb hby at_64) rfl rfl ?_
      show Steps p.tables e below (T32.setTop (mkF m 66 #[(vi p0), (vi p1), (vi p2), (vi p3), (vr e1_20), (vr e1_23), (vr e1_20)] [(.ref e1_20)])) _
      refine XS.aload X32.here hx rfl (hb hby at_66) rfl rfl ?_
      refine st33.trans ?_
      exact retN X33 hx (t := .boolean) hret0 (by simp) (hb hby at_71) hr
    · show Q_rm0 Z wREFUSED wPUBLISHED wCS p0 p1 p2 p3 h0 n0 _ T33.heap _
      rw [K33q]
      exact ⟨rfl, N33⟩
  · skip
    have pre35 : ∀ t, Steps p.tables e below (s₁.setTop (mkF m 3 #[(vi p0), (vi p1), (vi p2), (vi p3), .unset, .unset, .unset] [(.int 2)])) t → Steps p.tables e below (s₁.setTop (entryFrame m #[(.int p0), (.int p1), (.int p2), (.int p3)] maxLocals)) t := by
      intro t k
      refine pre1 t ?_
      rw [hk2]
      exact k
    obtain ⟨_, _, ⟨T36, L36, k36, n36⟩, -, X36, ⟨Lc36, hQ36, l36, y36, z36⟩, st36⟩ := Jvm.LawKit.callS X0 hx (y := M2) hown (mvT hZ (ow hw 0 rfl)) (mvT hZ (ow hw 1 rfl)) (mvT hZ (ow hw 2 rfl)) (mvT hZ (ow hw 3 rfl)) (by decide) (backOf (W := 0) (au1_2 l Z a0 hw [] wREFUSED wPUBLISHED wCS hS p1 p2 p3 h0 n0 O0 ) hZ (ow hw 3 rfl) (ow hw 2 rfl) (by decide) (by decide)) (g := (mkF m 6 #[(vi p0), (vi p1), (vi p2), (vi p3), .unset, .unset, .unset] [(.int p3), (.int p2), (.int p1), (.int 2)])) rfl (by rw [hml]; rfl) (argsL := [(.int 2), (.int p1), (.int p2), (.int p3)]) (rest := []) (lenOf pd_2 rfl) rfl (by show 2 * 0 + _ ≤ _; exact Nat.le_of_eq rfl) (hb hby at_6) (fun _ _ => ⟨rfl, e0, (by decide : 0 + 3 ≤ _), (by decide : 0 + 8 ≤ _)⟩)
    dsimp only [Pt.U, Pt.locs, Pt.cells, Pt.slots] at X36 l36 y36 z36 st36 hQ36
    subst y36 z36
    obtain ⟨e1_36, rfl, Nq36, K36q, p36_0, p36_1⟩ := hQ36
    have N36 : Fr n0 L36 := (congrArg (Fr n0) l36).mpr (Fr.app N0 Nq36)
    have g37 : n0 ≤ e1_36 := Nat.le_trans (own_sz O0) p36_0
    have O38 : Old Z n0 T36.heap := O0.keep K36q all0
    have pre40 : ∀ t, Steps p.tables e below (T36.setTop (mkF m 13 #[(vi p0), (vi p1), (vi p2), (vi p3), (vr e1_36), .unset, .unset] [(.ref e1_36)])) t → Steps p.tables e below (s₁.setTop (entryFrame m #[(.int p0), (.int p1), (.int p2), (.int p3)] maxLocals)) t := by
      intro t k
      refine pre35 t ?_
      show Steps p.tables e below (s₁.setTop (mkF m 3 #[(vi p0), (vi p1), (vi p2), (vi p3), .unset, .unset, .unset] [(.int 2)])) _
      refine XS.iloadN X0.here hx rfl (hb hby at_3) rfl ?_
      refine XS.iloadN X0.here hx rfl (hb hby at_4) rfl ?_
      refine XS.iloadN X0.here hx rfl (hb hby at_5) rfl ?_
      refine st36 _ ?_
      refine XS.astore X36.here hx rfl (hb hby at_9) rfl rfl (l' := #[(vi p0), (vi p1), (vi p2), (vi p3), (vr e1_36), .unset, .unset]) rfl ?_
      refine XS.aload X36.here hx rfl (hb hby at_11) rfl rfl ?_
      exact k
    have hk41 : _ ≤ T36.heap.size := (Nat.le_trans (Nat.le_refl _) K36q.1)
    obtain ⟨_, _, ⟨T39, L39, k39, n39⟩, -, X39, hs39, hg39, ⟨Lc39, hQ39, l39, y39, z39⟩, st39⟩ := callSS X36 hx (y := M5) hown (mvT hZ (ow hw 26 rfl)) (mvT hZ (ow hw 27 rfl)) (mvT hZ (ow hw 28 rfl)) (mvT hZ (ow hw 29 rfl)) (by decide) (backOfS (W := 0) (au5_0 l Z a0 hw [] wREFUSED wPUBLISHED wCS hS e1_36 T36.heap n0 O38 p36_1) hZ (ow hw 29 rfl) (ow hw 28 rfl) (by decide) (by decide)) (g := (mkF m 13 #[(vi p0), (vi p1), (vi p2), (vi p3), (vr e1_36), .unset, .unset] [(.ref e1_36)])) rfl (by rw [hml]; rfl) (argsL := [(.ref e1_36)]) (rest := []) (lenOf pd_5 rfl) rfl (by show 2 * 0 + _ ≤ _; exact Nat.le_of_eq rfl) (hb hby at_13) (fun _ _ => ⟨rfl, rfl, (by decide : 3 + 3 ≤ _), (by decide : 8 + 30 ≤ _)⟩)
    dsimp only [Pt.U, Pt.locs, Pt.cells, Pt.slots] at hs39 hg39
    have hS39 := foldS hS1 hk41 hs39 hg39
    have hown : (s.setVm T39.vm).vm.findClass s4n = some m.cls := by rw [show (s.setVm T39.vm).vm = T39.vm from rfl, hs39.1.alike.findClass]; exact hown
    have hZ : Z.Warmed39 (s.setVm T39.vm).vm := State.Warmed39.trans (t := s.setVm _) hZ hs39.1
    dsimp only [Pt.U, Pt.locs, Pt.cells, Pt.slots] at X39 l39 y39 z39 st39 hQ39
    subst y39 z39
    have X39 : Stand p l e _ (s.setVm T39.vm) m _ below meth c T39 L39 _ _ := X39
    obtain ⟨e1_39, rfl, Nq39, K39q, p39_0, p39_1, p39_2, p39_3⟩ := hQ39
    have N39 : Fr n0 L39 := (congrArg (Fr n0) l39).mpr (Fr.app N36 Nq39)
    have ne42 : e1_36 ≠ e1_39 := Nat.ne_of_lt (Nat.lt_of_lt_of_le p36_1.lt p39_0)
    have g43 : n0 ≤ e1_39 := Nat.le_trans (own_sz O38) p39_0
    have O44 : Old Z n0 T39.heap := O38.keep K39q all0
    obtain ⟨_, _, ⟨T45, L45, k45, n45⟩, -, X45, ⟨Lc45, hQ45, l45, y45, z45⟩, st45⟩ := Jvm.LawKit.callS X39 hx (y := M6) hown (mvT hZ (ow hw 49 rfl)) (mvT hZ (ow hw 50 rfl)) (mvT hZ (ow hw 28 rfl)) (mvT hZ (ow hw 51 rfl)) (by decide) (backOf (W := 1) (au8_0 l Z a0 hw [] wREFUSED wPUBLISHED wCS hS  T39.heap n0 O44 ) hZ (ow hw 51 rfl) (ow hw 28 rfl) (by decide) (by decide)) (g := (mkF m 27 #[(vi p0), (vi p1), (vi p2), (vi p3), (vr e1_36), (vr e1_39), .unset] [(.ref e1_39)])) rfl (by rw [hml]; rfl) (argsL := []) (rest := [(.ref e1_39)]) (lenOf pd_6 rfl) rfl (by show 2 * 0 + _ ≤ _; exact Nat.le_of_eq rfl) (hb hby at_27) (fun _ _ => ⟨rfl, rfl, (by decide : 6 + 0 ≤ _), (by decide : 38 + 0 ≤ _)⟩)
    dsimp only [Pt.U, Pt.locs, Pt.cells, Pt.slots] at X45 l45 y45 z45 st45 hQ45
    subst y45 z45
    obtain ⟨rfl, Nq45, K45q⟩ := hQ45
    have N45 : Fr n0 L45 := (congrArg (Fr n0) l45).mpr (Fr.app N39 Nq45)
    obtain ⟨cq46, kq46, q46a, q46b, q46c⟩ := isOf hZ K45q p39_1
    obtain ⟨_, _, ⟨T46, L46, k46, n46⟩, -, X46, ⟨Lc46, hQ46, l46, y46, z46⟩, st46⟩ := X45.virtualBack hx (y := M7) (z := M7) hown (mvT hZ (ow hw 54 rfl)) (mvT hZ (ow hw 55 rfl)) (notFace_of_selects (args := #[]) (mvT hZ (ow hw 57 rfl))) (mvT hZ (ow hw 57 rfl)) (mvT hZ (ow hw 56 rfl)) (by decide) (backOf (W := 0) (au9_0 l Z a0 hw [] wREFUSED wPUBLISHED wCS hS e1_39 T39.heap n0 O44 p39_3) hZ (ow hw 58 rfl) (ow hw 28 rfl) (by decide) (by decide)) q46a q46c (g := (mkF m 37 #[(vi p0), (vi p1), (vi p2), (vi p3), (vr e1_36), (vr e1_39), .unset] [(.ref e1_39)])) rfl (by rw [hml]; rfl) (Steps.refl _) (argsL := []) (rest := []) (lenOf pd_7 rfl) rfl (by show 2 * 0 + _ ≤ _; exact Nat.le_of_eq rfl) (hb hby at_37) (fun _ _ => ⟨rfl, K45q, (by decide : 6 + 0 ≤ _), (by decide : 38 + 0 ≤ _)⟩)
    dsimp only [Pt.U, Pt.locs, Pt.cells, Pt.slots] at X46 l46 y46 z46 st46 hQ46
    subst y46 z46
    obtain ⟨rfl, Nq46, K46q⟩ := hQ46
    have N46 : Fr n0 L46 := (congrArg (Fr n0) l46).mpr (Fr.app N45 Nq46)
    obtain ⟨T47, X47, e47, st47⟩ := getS2 X46 hx hZ hown (host := "") (Or.inl (ow hw 59 rfl)) Via.refl K46q (S_wREFUSED.ext O44.2) (g := (mkF m 40 #[(vi p0), (vi p1), (vi p2), (vi p3), (vr e1_36), (vr e1_39), .unset] [(.ref wREFUSED)])) rfl (hb hby at_40)
    obtain ⟨cq48, kq48, q48a, q48b, q48c⟩ := isOf hZ e47 p39_1
    obtain ⟨_, _, ⟨T48, L48, k48, n48⟩, -, X48, ⟨Lc48, hQ48, l48, y48, z48⟩, st48⟩ := X47.virtualBack hx (y := M8) (z := M8) hown (mvT hZ (ow hw 60 rfl)) (mvT hZ (ow hw 61 rfl)) (notFace_of_selects (args := #[]) (mvT hZ (ow hw 63 rfl))) (mvT hZ (ow hw 63 rfl)) (mvT hZ (ow hw 62 rfl)) (by decide) (backOf (W := 0) (au10_0 l Z a0 hw [] wREFUSED wPUBLISHED wCS hS e1_39 e1_36 T39.heap n0 O44 p39_2) hZ (ow hw 64 rfl) (ow hw 28 rfl) (by decide) (by decide)) q48a q48c (g := (mkF m 50 #[(vi p0), (vi p1), (vi p2), (vi p3), (vr e1_36), (vr e1_39), .unset] [(.ref e1_39)])) rfl (by rw [hml]; rfl) (Steps.refl _) (argsL := []) (rest := []) (lenOf pd_8 rfl) rfl (by show 2 * 0 + _ ≤ _; exact Nat.le_of_eq rfl) (hb hby at_50) (fun _ _ => ⟨rfl, e47, (by decide : 6 + 0 ≤ _), (by decide : 38 + 0 ≤ _)⟩)
    dsimp only [Pt.U, Pt.locs, Pt.cells, Pt.slots] at X48 l48 y48 z48 st48 hQ48
    subst y48 z48
    obtain ⟨rfl, Nq48, K48q⟩ := hQ48
    have N48 : Fr n0 L48 := (congrArg (Fr n0) l48).mpr (Fr.app N46 Nq48)
    have f50 : Exa Z T39.heap e1_36 s0n := (p36_1.keep K39q)
    obtain ⟨cq49, kq49, q49a, q49b, q49c⟩ := isOf hZ K48q f50
    obtain ⟨_, _, ⟨T49, L49, k49, n49⟩, -, X49, ⟨Lc49, hQ49, l49, y49, z49⟩, st49⟩ := X48.virtualBack hx (y := M9) (z := M9) hown (mvT hZ (ow hw 65 rfl)) (mvT hZ (ow hw 66 rfl)) (notFace_of_selects (args := #[]) (mvT hZ (ow hw 68 rfl))) (mvT hZ (ow hw 68 rfl)) (mvT hZ (ow hw 67 rfl)) (by decide) (backOf (W := 0) (au11_0 l Z a0 hw [] wREFUSED wPUBLISHED wCS hS e1_36 T39.heap n0 O44 ) hZ (ow hw 69 rfl) (ow hw 6 rfl) (by decide) (by decide)) q49a q49c (g := (mkF m 68 #[(vi p0), (vi p1), (vi p2), (vi p3), (vr e1_36), (vr e1_39), (vr e1_36)] [(.ref e1_36), (.ref e1_36)])) rfl (by rw [hml]; rfl) (Steps.refl _) (argsL := [(.ref e1_36)]) (rest := []) (lenOf pd_9 rfl) rfl (by show 2 * 0 + _ ≤ _; exact Nat.le_of_eq rfl) (hb hby at_68) (fun _ _ => ⟨rfl, K48q, (by decide : 6 + 0 ≤ _), (by decide : 38 + 0 ≤ _)⟩)
    dsimp only [Pt.U, Pt.locs, Pt.cells, Pt.slots] at X49 l49 y49 z49 st49 hQ49
    subst y49 z49
    obtain ⟨rfl, Nq49, K49q⟩ := hQ49
    have N49 : Fr n0 L49 := (congrArg (Fr n0) l49).mpr (Fr.app N48 Nq49)
    obtain ⟨fs, hr, hrun, hended, hRW⟩ := X49.leaveW hS39 (by rw [K49q]; exact (Nat.le_refl _)) (v := some (.int 1)) (fun h => by rw [hret0] at h; cases h)
    refine ⟨_, _, pre40 _ ?_, hrun, hended, _, _, rfl, ?_, hRW.1, hRW.2.1, hRW.2.2.1, hRW.2.2.2.mono (by decide) (by decide)⟩
    · skip
      refine st39.trans ?_
      refine XS.astore X39.here hx rfl (hb hby at_16) rfl rfl (l' := #[(vi p0), (vi p1), (vi p2), (vi p3), (vr e1_36), (vr e1_39), .unset]) rfl ?_
      show Steps p.tables e below (T39.setTop (mkF m 18 #[(vi p0), (vi p1), (vi p2), (vi p3), (vr e1_36), (vr e1_39), .unset] [])) _
      refine XS.aload X39.here hx rfl (hb hby at_18) rfl rfl ?_
      refine XS.ifnonnullYes X39.here hx rfl (pc0 := 20) (pc' := 25) rfl (hb hby at_20) rfl (by decide) (by decide) ?_
      refine XS.aload X39.here hx rfl (hb hby at_25) rfl rfl ?_
      refine st45 _ ?_
      refine Jvm.RoadKit.acmp (g := (mkF m 30 #[(vi p0), (vi p1), (vi p2), (vi p3), (vr e1_36), (vr e1_39), .unset] [(.ref wPUBLISHED), (.ref e1_39)])) X45 hx rfl rfl rfl (pc0 := 30) (pc' := 35) (same := false) rfl (hb hby at_30) rfl (decide_eq_false fun q => (Ne.symm (Old.ne O0 E_wPUBLISHED.lt g43)) (Value.ref.inj q)) (by decide) (by decide) ?_
      refine XS.aload X45.here hx rfl (hb hby at_35) rfl rfl ?_
      refine st46.trans ?_
      refine st47 _ ?_
      show Steps p.tables e below (T47.setTop (mkF m 43 #[(vi p0), (vi p1), (vi p2), (vi p3), (vr e1_36), (vr e1_39), .unset] [(.ref wREFUSED), (.ref wREFUSED)])) _
      refine Jvm.RoadKit.acmp (g := (mkF m 43 #[(vi p0), (vi p1), (vi p2), (vi p3), (vr e1_36), (vr e1_39), .unset] [(.ref wREFUSED), (.ref wREFUSED)])) X47 hx rfl rfl rfl (pc0 := 43) (pc' := 48) (same := true) rfl (hb hby at_43) rfl (decide_eq_true rfl) (by decide) (by decide) ?_
      refine XS.aload X47.here hx rfl (hb hby at_48) rfl rfl ?_
      refine st48.trans ?_
      refine XS.astore X48.here hx rfl (hb hby at_53) rfl rfl (l' := #[(vi p0), (vi p1), (vi p2), (vi p3), (vr e1_36), (vr e1_39), (vr e1_36)]) rfl ?_
      refine XS.aload X48.here hx rfl (hb hby at_55) rfl rfl ?_
      refine XS.aload X48.here hx rfl (hb hby at_57) rfl rfl ?_
      refine Jvm.RoadKit.acmp (g := (mkF m 59 #[(vi p0), (vi p1), (vi p2), (vi p3), (vr e1_36), (vr e1_39), (vr e1_36)] [(.ref e1_36), (.ref e1_36)])) X48 hx rfl rfl rfl (pc0 := 59) (pc' := 64) (same := true) rfl (hb hby at_59) rfl (decide_eq_true rfl) (by decide) (by decide) ?_
      refine XS.aload X48.here hx rfl (hb hby at_64) rfl rfl ?_
      show Steps p.tables e below (T48.setTop (mkF m 66 #[(vi p0), (vi p1), (vi p2), (vi p3), (vr e1_36), (vr e1_39), (vr e1_36)] [(.ref e1_36)])) _
      refine XS.aload X48.here hx rfl (hb hby at_66) rfl rfl ?_
      refine st49.trans ?_
      exact retN X49 hx (t := .boolean) hret0 (by simp) (hb hby at_71) hr
    · show Q_rm0 Z wREFUSED wPUBLISHED wCS p0 p1 p2 p3 h0 n0 _ T49.heap _
      rw [K49q]
      exact ⟨rfl, N49⟩
  · skip
    have pre51 : ∀ t, Steps p.tables e below (s₁.setTop (mkF m 3 #[(vi p0), (vi p1), (vi p2), (vi p3), .unset, .unset, .unset] [(.int 3)])) t → Steps p.tables e below (s₁.setTop (entryFrame m #[(.int p0), (.int p1), (.int p2), (.int p3)] maxLocals)) t := by
      intro t k
      refine pre1 t ?_
      rw [hk2]
      exact k
    obtain ⟨_, _, ⟨T52, L52, k52, n52⟩, -, X52, ⟨Lc52, hQ52, l52, y52, z52⟩, st52⟩ := Jvm.LawKit.callS X0 hx (y := M2) hown (mvT hZ (ow hw 0 rfl)) (mvT hZ (ow hw 1 rfl)) (mvT hZ (ow hw 2 rfl)) (mvT hZ (ow hw 3 rfl)) (by decide) (backOf (W := 0) (au1_3 l Z a0 hw [] wREFUSED wPUBLISHED wCS hS p1 p2 p3 h0 n0 O0 ) hZ (ow hw 3 rfl) (ow hw 2 rfl) (by decide) (by decide)) (g := (mkF m 6 #[(vi p0), (vi p1), (vi p2), (vi p3), .unset, .unset, .unset] [(.int p3), (.int p2), (.int p1), (.int 3)])) rfl (by rw [hml]; rfl) (argsL := [(.int 3), (.int p1), (.int p2), (.int p3)]) (rest := []) (lenOf pd_2 rfl) rfl (by show 2 * 0 + _ ≤ _; exact Nat.le_of_eq rfl) (hb hby at_6) (fun _ _ => ⟨rfl, e0, (by decide : 0 + 3 ≤ _), (by decide : 0 + 10 ≤ _)⟩)
    dsimp only [Pt.U, Pt.locs, Pt.cells, Pt.slots] at X52 l52 y52 z52 st52 hQ52
    subst y52 z52
    obtain ⟨e1_52, rfl, Nq52, K52q, p52_0, p52_1⟩ := hQ52
    have N52 : Fr n0 L52 := (congrArg (Fr n0) l52).mpr (Fr.app N0 Nq52)
    have g53 : n0 ≤ e1_52 := Nat.le_trans (own_sz O0) p52_0
    have O54 : Old Z n0 T52.heap := O0.keep K52q all0
    have pre56 : ∀ t, Steps p.tables e below (T52.setTop (mkF m 13 #[(vi p0), (vi p1), (vi p2), (vi p3), (vr e1_52), .unset, .unset] [(.ref e1_52)])) t → Steps p.tables e below (s₁.setTop (entryFrame m #[(.int p0), (.int p1), (.int p2), (.int p3)] maxLocals)) t := by
      intro t k
      refine pre51 t ?_
      show Steps p.tables e below (s₁.setTop (mkF m 3 #[(vi p0), (vi p1), (vi p2), (vi p3), .unset, .unset, .unset] [(.int 3)])) _
      refine XS.iloadN X0.here hx rfl (hb hby at_3) rfl ?_
      refine XS.iloadN X0.here hx rfl (hb hby at_4) rfl ?_
      refine XS.iloadN X0.here hx rfl (hb hby at_5) rfl ?_
      refine st52 _ ?_
      refine XS.astore X52.here hx rfl (hb hby at_9) rfl rfl (l' := #[(vi p0), (vi p1), (vi p2), (vi p3), (vr e1_52), .unset, .unset]) rfl ?_
      refine XS.aload X52.here hx rfl (hb hby at_11) rfl rfl ?_
      exact k
    have hk57 : _ ≤ T52.heap.size := (Nat.le_trans (Nat.le_refl _) K52q.1)
    obtain ⟨_, _, ⟨T55, L55, k55, n55⟩, -, X55, hs55, hg55, ⟨Lc55, hQ55, l55, y55, z55⟩, st55⟩ := callSS X52 hx (y := M5) hown (mvT hZ (ow hw 26 rfl)) (mvT hZ (ow hw 27 rfl)) (mvT hZ (ow hw 28 rfl)) (mvT hZ (ow hw 29 rfl)) (by decide) (backOfS (W := 0) (au5_0 l Z a0 hw [] wREFUSED wPUBLISHED wCS hS e1_52 T52.heap n0 O54 p52_1) hZ (ow hw 29 rfl) (ow hw 28 rfl) (by decide) (by decide)) (g := (mkF m 13 #[(vi p0), (vi p1), (vi p2), (vi p3), (vr e1_52), .unset, .unset] [(.ref e1_52)])) rfl (by rw [hml]; rfl) (argsL := [(.ref e1_52)]) (rest := []) (lenOf pd_5 rfl) rfl (by show 2 * 0 + _ ≤ _; exact Nat.le_of_eq rfl) (hb hby at_13) (fun _ _ => ⟨rfl, rfl, (by decide : 3 + 3 ≤ _), (by decide : 10 + 30 ≤ _)⟩)
    dsimp only [Pt.U, Pt.locs, Pt.cells, Pt.slots] at hs55 hg55
    have hS55 := foldS hS1 hk57 hs55 hg55
    have hown : (s.setVm T55.vm).vm.findClass s4n = some m.cls := by rw [show (s.setVm T55.vm).vm = T55.vm from rfl, hs55.1.alike.findClass]; exact hown
    have hZ : Z.Warmed39 (s.setVm T55.vm).vm := State.Warmed39.trans (t := s.setVm _) hZ hs55.1
    dsimp only [Pt.U, Pt.locs, Pt.cells, Pt.slots] at X55 l55 y55 z55 st55 hQ55
    subst y55 z55
    have X55 : Stand p l e _ (s.setVm T55.vm) m _ below meth c T55 L55 _ _ := X55
    obtain ⟨e1_55, rfl, Nq55, K55q, p55_0, p55_1, p55_2, p55_3⟩ := hQ55
    have N55 : Fr n0 L55 := (congrArg (Fr n0) l55).mpr (Fr.app N52 Nq55)
    have ne58 : e1_52 ≠ e1_55 := Nat.ne_of_lt (Nat.lt_of_lt_of_le p52_1.lt p55_0)
    have g59 : n0 ≤ e1_55 := Nat.le_trans (own_sz O54) p55_0
    have O60 : Old Z n0 T55.heap := O54.keep K55q all0
    obtain ⟨_, _, ⟨T61, L61, k61, n61⟩, -, X61, ⟨Lc61, hQ61, l61, y61, z61⟩, st61⟩ := Jvm.LawKit.callS X55 hx (y := M6) hown (mvT hZ (ow hw 49 rfl)) (mvT hZ (ow hw 50 rfl)) (mvT hZ (ow hw 28 rfl)) (mvT hZ (ow hw 51 rfl)) (by decide) (backOf (W := 1) (au8_0 l Z a0 hw [] wREFUSED wPUBLISHED wCS hS  T55.heap n0 O60 ) hZ (ow hw 51 rfl) (ow hw 28 rfl) (by decide) (by decide)) (g := (mkF m 27 #[(vi p0), (vi p1), (vi p2), (vi p3), (vr e1_52), (vr e1_55), .unset] [(.ref e1_55)])) rfl (by rw [hml]; rfl) (argsL := []) (rest := [(.ref e1_55)]) (lenOf pd_6 rfl) rfl (by show 2 * 0 + _ ≤ _; exact Nat.le_of_eq rfl) (hb hby at_27) (fun _ _ => ⟨rfl, rfl, (by decide : 6 + 0 ≤ _), (by decide : 40 + 0 ≤ _)⟩)
    dsimp only [Pt.U, Pt.locs, Pt.cells, Pt.slots] at X61 l61 y61 z61 st61 hQ61
    subst y61 z61
    obtain ⟨rfl, Nq61, K61q⟩ := hQ61
    have N61 : Fr n0 L61 := (congrArg (Fr n0) l61).mpr (Fr.app N55 Nq61)
    obtain ⟨cq62, kq62, q62a, q62b, q62c⟩ := isOf hZ K61q p55_1
    obtain ⟨_, _, ⟨T62, L62, k62, n62⟩, -, X62, ⟨Lc62, hQ62, l62, y62, z62⟩, st62⟩ := X61.virtualBack hx (y := M7) (z := M7) hown (mvT hZ (ow hw 54 rfl)) (mvT hZ (ow hw 55 rfl)) (notFace_of_selects (args := #[]) (mvT hZ (ow hw 57 rfl))) (mvT hZ (ow hw 57 rfl)) (mvT hZ (ow hw 56 rfl)) (by decide) (backOf (W := 0) (au9_0 l Z a0 hw [] wREFUSED wPUBLISHED wCS hS e1_55 T55.heap n0 O60 p55_3) hZ (ow hw 58 rfl) (ow hw 28 rfl) (by decide) (by decide)) q62a q62c (g := (mkF m 37 #[(vi p0), (vi p1), (vi p2), (vi p3), (vr e1_52), (vr e1_55), .unset] [(.ref e1_55)])) rfl (by rw [hml]; rfl) (Steps.refl _) (argsL := []) (rest := []) (lenOf pd_7 rfl) rfl (by show 2 * 0 + _ ≤ _; exact Nat.le_of_eq rfl) (hb hby at_37) (fun _ _ => ⟨rfl, K61q, (by decide : 6 + 0 ≤ _), (by decide : 40 + 0 ≤ _)⟩)
    dsimp only [Pt.U, Pt.locs, Pt.cells, Pt.slots] at X62 l62 y62 z62 st62 hQ62
    subst y62 z62
    obtain ⟨rfl, Nq62, K62q⟩ := hQ62
    have N62 : Fr n0 L62 := (congrArg (Fr n0) l62).mpr (Fr.app N61 Nq62)
    obtain ⟨T63, X63, e63, st63⟩ := getS2 X62 hx hZ hown (host := "") (Or.inl (ow hw 59 rfl)) Via.refl K62q (S_wREFUSED.ext O60.2) (g := (mkF m 40 #[(vi p0), (vi p1), (vi p2), (vi p3), (vr e1_52), (vr e1_55), .unset] [(.ref wREFUSED)])) rfl (hb hby at_40)
    obtain ⟨cq64, kq64, q64a, q64b, q64c⟩ := isOf hZ e63 p55_1
    obtain ⟨_, _, ⟨T64, L64, k64, n64⟩, -, X64, ⟨Lc64, hQ64, l64, y64, z64⟩, st64⟩ := X63.virtualBack hx (y := M8) (z := M8) hown (mvT hZ (ow hw 60 rfl)) (mvT hZ (ow hw 61 rfl)) (notFace_of_selects (args := #[]) (mvT hZ (ow hw 63 rfl))) (mvT hZ (ow hw 63 rfl)) (mvT hZ (ow hw 62 rfl)) (by decide) (backOf (W := 0) (au10_0 l Z a0 hw [] wREFUSED wPUBLISHED wCS hS e1_55 e1_52 T55.heap n0 O60 p55_2) hZ (ow hw 64 rfl) (ow hw 28 rfl) (by decide) (by decide)) q64a q64c (g := (mkF m 50 #[(vi p0), (vi p1), (vi p2), (vi p3), (vr e1_52), (vr e1_55), .unset] [(.ref e1_55)])) rfl (by rw [hml]; rfl) (Steps.refl _) (argsL := []) (rest := []) (lenOf pd_8 rfl) rfl (by show 2 * 0 + _ ≤ _; exact Nat.le_of_eq rfl) (hb hby at_50) (fun _ _ => ⟨rfl, e63, (by decide : 6 + 0 ≤ _), (by decide : 40 + 0 ≤ _)⟩)
    dsimp only [Pt.U, Pt.locs, Pt.cells, Pt.slots] at X64 l64 y64 z64 st64 hQ64
    subst y64 z64
    obtain ⟨rfl, Nq64, K64q⟩ := hQ64
    have N64 : Fr n0 L64 := (congrArg (Fr n0) l64).mpr (Fr.app N62 Nq64)
    have f66 : Exa Z T55.heap e1_52 s0n := (p52_1.keep K55q)
    obtain ⟨cq65, kq65, q65a, q65b, q65c⟩ := isOf hZ K64q f66
    obtain ⟨_, _, ⟨T65, L65, k65, n65⟩, -, X65, ⟨Lc65, hQ65, l65, y65, z65⟩, st65⟩ := X64.virtualBack hx (y := M9) (z := M9) hown (mvT hZ (ow hw 65 rfl)) (mvT hZ (ow hw 66 rfl)) (notFace_of_selects (args := #[]) (mvT hZ (ow hw 68 rfl))) (mvT hZ (ow hw 68 rfl)) (mvT hZ (ow hw 67 rfl)) (by decide) (backOf (W := 0) (au11_0 l Z a0 hw [] wREFUSED wPUBLISHED wCS hS e1_52 T55.heap n0 O60 ) hZ (ow hw 69 rfl) (ow hw 6 rfl) (by decide) (by decide)) q65a q65c (g := (mkF m 68 #[(vi p0), (vi p1), (vi p2), (vi p3), (vr e1_52), (vr e1_55), (vr e1_52)] [(.ref e1_52), (.ref e1_52)])) rfl (by rw [hml]; rfl) (Steps.refl _) (argsL := [(.ref e1_52)]) (rest := []) (lenOf pd_9 rfl) rfl (by show 2 * 0 + _ ≤ _; exact Nat.le_of_eq rfl) (hb hby at_68) (fun _ _ => ⟨rfl, K64q, (by decide : 6 + 0 ≤ _), (by decide : 40 + 0 ≤ _)⟩)
    dsimp only [Pt.U, Pt.locs, Pt.cells, Pt.slots] at X65 l65 y65 z65 st65 hQ65
    subst y65 z65
    obtain ⟨rfl, Nq65, K65q⟩ := hQ65
    have N65 : Fr n0 L65 := (congrArg (Fr n0) l65).mpr (Fr.app N64 Nq65)
    obtain ⟨fs, hr, hrun, hended, hRW⟩ := X65.leaveW hS55 (by rw [K65q]; exact (Nat.le_refl _)) (v := some (.int 1)) (fun h => by rw [hret0] at h; cases h)
    refine ⟨_, _, pre56 _ ?_, hrun, hended, _, _, rfl, ?_, hRW.1, hRW.2.1, hRW.2.2.1, hRW.2.2.2.mono (by decide) (by decide)⟩
    · skip
      refine st55.trans ?_
      refine XS.astore X55.here hx rfl (hb hby at_16) rfl rfl (l' := #[(vi p0), (vi p1), (vi p2), (vi p3), (vr e1_52), (vr e1_55), .unset]) rfl ?_
      show Steps p.tables e below (T55.setTop (mkF m 18 #[(vi p0), (vi p1), (vi p2), (vi p3), (vr e1_52), (vr e1_55), .unset] [])) _
      refine XS.aload X55.here hx rfl (hb hby at_18) rfl rfl ?_
      refine XS.ifnonnullYes X55.here hx rfl (pc0 := 20) (pc' := 25) rfl (hb hby at_20) rfl (by decide) (by decide) ?_
      refine XS.aload X55.here hx rfl (hb hby at_25) rfl rfl ?_
      refine st61 _ ?_
      refine Jvm.RoadKit.acmp (g := (mkF m 30 #[(vi p0), (vi p1), (vi p2), (vi p3), (vr e1_52), (vr e1_55), .unset] [(.ref wPUBLISHED), (.ref e1_55)])) X61 hx rfl rfl rfl (pc0 := 30) (pc' := 35) (same := false) rfl (hb hby at_30) rfl (decide_eq_false fun q => (Ne.symm (Old.ne O0 E_wPUBLISHED.lt g59)) (Value.ref.inj q)) (by decide) (by decide) ?_
      refine XS.aload X61.here hx rfl (hb hby at_35) rfl rfl ?_
      refine st62.trans ?_
      refine st63 _ ?_
      show Steps p.tables e below (T63.setTop (mkF m 43 #[(vi p0), (vi p1), (vi p2), (vi p3), (vr e1_52), (vr e1_55), .unset] [(.ref wREFUSED), (.ref wREFUSED)])) _
      refine Jvm.RoadKit.acmp (g := (mkF m 43 #[(vi p0), (vi p1), (vi p2), (vi p3), (vr e1_52), (vr e1_55), .unset] [(.ref wREFUSED), (.ref wREFUSED)])) X63 hx rfl rfl rfl (pc0 := 43) (pc' := 48) (same := true) rfl (hb hby at_43) rfl (decide_eq_true rfl) (by decide) (by decide) ?_
      refine XS.aload X63.here hx rfl (hb hby at_48) rfl rfl ?_
      refine st64.trans ?_
      refine XS.astore X64.here hx rfl (hb hby at_53) rfl rfl (l' := #[(vi p0), (vi p1), (vi p2), (vi p3), (vr e1_52), (vr e1_55), (vr e1_52)]) rfl ?_
      refine XS.aload X64.here hx rfl (hb hby at_55) rfl rfl ?_
      refine XS.aload X64.here hx rfl (hb hby at_57) rfl rfl ?_
      refine Jvm.RoadKit.acmp (g := (mkF m 59 #[(vi p0), (vi p1), (vi p2), (vi p3), (vr e1_52), (vr e1_55), (vr e1_52)] [(.ref e1_52), (.ref e1_52)])) X64 hx rfl rfl rfl (pc0 := 59) (pc' := 64) (same := true) rfl (hb hby at_59) rfl (decide_eq_true rfl) (by decide) (by decide) ?_
      refine XS.aload X64.here hx rfl (hb hby at_64) rfl rfl ?_
      show Steps p.tables e below (T64.setTop (mkF m 66 #[(vi p0), (vi p1), (vi p2), (vi p3), (vr e1_52), (vr e1_55), (vr e1_52)] [(.ref e1_52)])) _
      refine XS.aload X64.here hx rfl (hb hby at_66) rfl rfl ?_
      refine st65.trans ?_
      exact retN X65 hx (t := .boolean) hret0 (by simp) (hb hby at_71) hr
    · show Q_rm0 Z wREFUSED wPUBLISHED wCS p0 p1 p2 p3 h0 n0 _ T65.heap _
      rw [K65q]
      exact ⟨rfl, N65⟩
theorem comes_1 {Post : Tables → Env → Array Value → State → Outcome → State → Prop} (hpost : ∀ tb e args s v u, (limb_1_1.after args s (.returned v) u = true ∧ limb_1_2.after args s (.returned v) u = true ∧ True) → ReturnedEndW s (.returned v) u (Jvm.fieldLocs frame_1_writes args s ++ Jvm.arrayLocs frame_1_arrays args s ++ Jvm.staticLocs frame_1_statics s) 24 2176 → Post tb e args s (.returned v) u) :
    ArmFor flags0 classFile x code maxLocals ret World_1 tables_1 room_1 Calls_1 rest_1 Pre_1 Post := by
  intro l hfl _ _ p e ha hc hk s m args below hf hA hF happ hP
  obtain ⟨hcalls, hrest, hpre⟩ := hP
  obtain ⟨-, -, -, hnamed, -, -, -, hat⟩ := (Spec.applies_iff hf).mp happ
  obtain ⟨hg, hn⟩ := and_e (Cond.before_iff.mp (show (Jvm.Cond.and given_1 narrow_1).before args s = true from hpre))
  obtain ⟨g1, g2⟩ := and_e hg
  obtain ⟨g3, g4⟩ := and_e g2
  obtain ⟨g5, g6⟩ := and_e g4
  obtain ⟨g7, g8⟩ := and_e g6
  obtain ⟨w0, w1, w2, w3, rfl⟩ : ∃ w0 w1 w2 w3 : Value, args = #[w0, w1, w2, w3] := by
    have hs : args.size = 4 := by simpa [Cond.value, given_1] using g1
    obtain ⟨L⟩ := args
    match L, hs with
    | [w0, w1, w2, w3], _ => exact ⟨w0, w1, w2, w3, rfl⟩
  have hw := fun d (hd : d ∈ tables_1) => atoms_spec (ws := Jvm.Cond.code x code maxLocals ret :: tables_1) hat d (List.mem_cons_of_mem _ hd)
  have hfit : Fit s := fun {y c} hc i hi => by
    obtain ⟨ha, rfl⟩ := Array.getElem?_eq_some_iff.mp hc
    have q := List.all_eq_true.mp ((Array.all_eq_true_iff_forall_mem.mp hF) _ (Array.getElem_mem ha)) i (List.mem_range.mpr hi)
    simpa [Array.getElem?_eq_getElem hi] using q
  obtain ⟨hsets, hown0⟩ := atoms_of _ (rest_1_c_eq ▸ (show rest_1_c.before _ s = true from hrest))
  have hr0 := Cond.before_iff.mp hown0
  obtain ⟨i0, ei0⟩ := is_v g3
  obtain rfl : w0 = (.int i0) := Option.some.inj ei0
  obtain ⟨i1, ei1⟩ := is_v g5
  obtain rfl : w1 = (.int i1) := Option.some.inj ei1
  obtain ⟨i2, ei2⟩ := is_v g7
  obtain rfl : w2 = (.int i2) := Option.some.inj ei2
  obtain ⟨i3, ei3⟩ := is_v g8
  obtain rfl : w3 = (.int i3) := Option.some.inj ei3
  obtain ⟨g9, g10⟩ := and_e hn
  obtain ⟨wREFUSED, ev_wREFUSED⟩ := exa_v g9
  have S_wREFUSED := Sta.start ev_wREFUSED (Or.inr ⟨(ow hw 33 rfl), (ow hw 34 rfl)⟩)
  have E_wREFUSED := Exa.start ev_wREFUSED g9
  obtain ⟨wPUBLISHED, ev_wPUBLISHED⟩ := exa_v g10
  have S_wPUBLISHED := Sta.start ev_wPUBLISHED (Or.inr ⟨(ow hw 28 rfl), (ow hw 53 rfl)⟩)
  have E_wPUBLISHED := Exa.start ev_wPUBLISHED g10
  obtain ⟨wCS, ev_wCS⟩ := is_v (Cond.before_iff.mp (hsets _ (List.mem_of_getElem? (i := 1) rfl)))
  have S_wCS := Sta.start ev_wCS (Or.inl (hsets _ (List.mem_of_getElem? (i := 0) rfl)))
  have N_wCS : wCS ≠ (0 : Int32) := own_ne0 (hsets _ (List.mem_of_getElem? (i := 2) rfl)) ev_wCS
  have hS : SS s wREFUSED wPUBLISHED wCS := ⟨S_wREFUSED, E_wREFUSED, S_wPUBLISHED, E_wPUBLISHED, S_wCS, N_wCS⟩
  have hCH : CHv s ELs s.vm s.heap := CHv.start (own_EW hw) (fun q hq => by
    simp only [ELs, List.mem_cons, List.not_mem_nil, or_false] at hq
    rcases hq with rfl
    · exact hcalls.1 _ (List.mem_of_getElem? (i := 1) rfl)) (hsets _ (List.mem_of_getElem? (i := 2) rfl)) (ow hw 19 rfl) (ow hw 5 rfl)
  obtain ⟨n, o, h1, h2, h3, _, L, rfl, ⟨rfl, N⟩, hq⟩ := rm0 l s _ hw tables_1 wREFUSED wPUBLISHED wCS hS i0 i1 i2 i3 s.heap s.heap.size (Old.start s)  p e ha hc hk s m _ below hf ((Spec.applies_iff_loose hf).mp happ).1 ⟨rfl, State.Warmed39.refl s, rfl, hCH⟩ trivial
  refine ⟨n, _, h1, h2, h3, hpost _ _ _ _ _ _ ⟨Cond.after_iff.mpr rfl, Cond.after_iff.mpr (eq_i res_at (Term.int_eval (1)) rfl), trivial⟩ ⟨hq.1, hq.2.1, hq.2.2.1, (hq.2.2.2.sift fun y hy => Or.inr (N y hy)).mono (by decide) (by decide)⟩⟩
theorem main_1_1 : Claimed_1_1 := comes_1 fun _ _ _ _ _ _ h hF => ⟨h.1, hF⟩
theorem main_1_2 : Claimed_1_2 := comes_1 fun _ _ _ _ _ _ h hF => ⟨h.2.1, hF⟩
end Jvm.Pilot.@@N@@
namespace Jvm.Pilot.@@N@@
open Jvm Jvm.ClassFile Sem Op Lib Jvm.Free Jvm.Stand Jvm.Pilot.@@N@@.Jvm.D
/-! MADE BY PROGRAM (witnessworld.py) out of the Statement's table words and the real class files: 23 classes; the members and pool entries that the words name. The judged class is class 1, her method 2. -/
namespace start1
open Jvm.ClassFile
def u (s : String) : CpInfo := .utf8 (stringToUtf16 s)
/-- a pool by its gaps: so many unusable entries, then the entry; so many at the end -/
def gap : Nat → List CpInfo → List CpInfo
  | 0, r => r
  | n + 1, r => .unusable :: gap n r
def poolList (es : List (Nat × CpInfo)) (last : Nat) : List CpInfo := es.foldr (fun e r => gap e.1 (e.2 :: r)) (gap last [])
def pool (es : List (Nat × CpInfo)) (last : Nat) : Array CpInfo := ⟨poolList es last⟩
def fileOf (pool : Array CpInfo) (this : Nat) (attrs : Array Attribute := #[]) (ms : Array MethodInfo := #[]) (fl : Nat := 33) (sup : Nat := 0) (ifs : Array Nat := #[]) (fds : Array FieldInfo := #[]) : ClassFile where
  minorVersion := 0
  majorVersion := 65
  constantPool := pool
  accessFlags := fl
  thisClass := this
  superClass := sup
  interfaces := ifs
  fields := fds
  methods := ms
  attributes := attrs
def plain (name : String) (sup : Option ClassId) : Class where
  name := name
  kind := .ordinary
  loader := none
  accessFlags := 33
  super := sup
  interfaces := #[]
  cf := none
  fields := #[]
  methods := #[]
  instanceTypes := #[]
  staticTypes := #[]
  resolved := #[]
  callSites := []
  init := .initialized
  statics := none
  mirror := none

def pool0 : Array CpInfo := pool [(5, u "<init>"), (0, u "()V"), (1, .class_ 10), (1, u "java/lang/Object")] 113

def k0c0 : Code := { maxStack := 0, maxLocals := 1, code := object_method_1_code, exceptionTable := #[], attributes := #[] }
def k0m0 : Method := { name := "<init>", desc := "()V", sig := { parameters := [], returnType := none }, accessFlags := 1, code := some k0c0 }
/-- java/lang/Object -/
def k0 : Class := { plain "java/lang/Object" none with
  accessFlags := 33
  interfaces := #[]
  cf := some (fileOf pool0 8 #[] #[{ accessFlags := 1, nameIndex := 5, descriptorIndex := 6, attributes := #[] }] 33 0 #[] #[])
  fields := #[]
  methods := #[k0m0]
  instanceTypes := #[]
  staticTypes := #[]
  resolved := Array.replicate 124 none
  statics := none }

def pool1 : Array CpInfo := pool [(2, .class_ 4), (1, u "java/lang/Object"), (0, u "<init>"), (0, u "()V"), (0, .class_ 8), (0, u "java/lang/String"), (0, .methodref 7 10), (0, .nameAndType 5 11), (0, u "([C)V"), (0, .methodref 13 14), (0, .class_ 15), (0, .nameAndType 16 17), (0, u "com/example/onceward/onceward/outbox/PublicationRefusedPinLaw"), (0, u "draw"), (0, u "(IIII)Ljava/lang/String;"), (0, .methodref 19 20), (0, .class_ 21), (0, .nameAndType 22 23), (0, u "com/example/onceward/onceward/outbox/Publication"), (0, u "refused"), (0, u "(Ljava/lang/String;)Lcom/example/onceward/onceward/outbox/Publication;"), (0, .methodref 19 25), (0, .nameAndType 26 27), (0, u "published"), (0, u "()Lcom/example/onceward/onceward/outbox/Publication;"), (0, .methodref 19 29), (0, .nameAndType 30 31), (0, u "state"), (0, u "()Lcom/example/onceward/onceward/outbox/Publication$State;"), (0, .fieldref 33 34), (0, .class_ 35), (0, .nameAndType 36 37), (0, u "com/example/onceward/onceward/outbox/Publication$State"), (0, u "REFUSED"), (0, u "Lcom/example/onceward/onceward/outbox/Publication$State;"), (0, .methodref 19 39), (0, .nameAndType 40 41), (0, u "reason"), (0, u "()Ljava/lang/String;"), (0, .methodref 7 43), (0, .nameAndType 44 45), (0, u "equals"), (0, u "(Ljava/lang/Object;)Z"), (3, u "law"), (0, u "(IIII)Z")] 4

def k1m0 : Method := { name := "<init>", desc := "()V", sig := { parameters := [], returnType := none }, accessFlags := 2, code := none }
def k1c1 : Code := { maxStack := 3, maxLocals := 8, code := method_2_code, exceptionTable := #[], attributes := #[] }
def k1m1 : Method := { name := "draw", desc := "(IIII)Ljava/lang/String;", sig := { parameters := [.int, .int, .int, .int], returnType := some (.object "java/lang/String") }, accessFlags := 10, code := some k1c1 }
def k1c2 : Code := { maxStack := 4, maxLocals := 7, code := code, exceptionTable := #[], attributes := #[] }
def k1m2 : Method := { name := "law", desc := "(IIII)Z", sig := { parameters := [.int, .int, .int, .int], returnType := some .boolean }, accessFlags := 9, code := some k1c2 }
/-- com/example/onceward/onceward/outbox/PublicationRefusedPinLaw -/
def k1 : Class := { plain "com/example/onceward/onceward/outbox/PublicationRefusedPinLaw" (some 0) with
  accessFlags := 49
  interfaces := #[]
  cf := some (fileOf pool1 13 #[] #[{ accessFlags := 2, nameIndex := 5, descriptorIndex := 6, attributes := #[] }, { accessFlags := 10, nameIndex := 16, descriptorIndex := 17, attributes := #[] }, { accessFlags := 9, nameIndex := 49, descriptorIndex := 50, attributes := #[] }] 49 2 #[] #[])
  fields := #[]
  methods := #[k1m0, k1m1, k1m2]
  instanceTypes := #[]
  staticTypes := #[]
  resolved := Array.replicate 55 none
  statics := none }

def pool2 : Array CpInfo := pool [(1, .class_ 2), (0, u "java/io/Serializable"), (0, .class_ 4), (0, u "java/lang/Object")] 2

/-- java/io/Serializable -/
def k2 : Class := { plain "java/io/Serializable" (some 0) with
  accessFlags := 1537
  interfaces := #[]
  cf := some (fileOf pool2 1 #[] #[] 1537 3 #[] #[])
  fields := #[]
  methods := #[]
  instanceTypes := #[]
  staticTypes := #[]
  resolved := Array.replicate 7 none
  statics := none }

def pool3 : Array CpInfo := pool [(1, .class_ 2), (0, u "java/lang/Comparable"), (0, .class_ 4), (0, u "java/lang/Object")] 7

/-- java/lang/Comparable -/
def k3 : Class := { plain "java/lang/Comparable" (some 0) with
  accessFlags := 1537
  interfaces := #[]
  cf := some (fileOf pool3 1 #[] #[] 1537 3 #[] #[])
  fields := #[]
  methods := #[]
  instanceTypes := #[]
  staticTypes := #[]
  resolved := Array.replicate 12 none
  statics := none }

def pool4 : Array CpInfo := pool [(2, .class_ 4), (1, u "java/lang/CharSequence"), (42, .class_ 48), (0, u "java/lang/CharSequence$1CodePointIterator"), (10, .class_ 60), (0, u "java/lang/CharSequence$1CharIterator"), (5, .class_ 67), (0, u "java/lang/Object")] 63

/-- java/lang/CharSequence -/
def k4 : Class := { plain "java/lang/CharSequence" (some 0) with
  accessFlags := 1537
  interfaces := #[]
  cf := some (fileOf pool4 2 #[.nestMembers #[47, 59]] #[] 1537 66 #[] #[])
  fields := #[]
  methods := #[]
  instanceTypes := #[]
  staticTypes := #[]
  resolved := Array.replicate 131 none
  statics := none }

def pool5 : Array CpInfo := pool [(1, .class_ 2), (0, u "java/lang/constant/Constable"), (0, .class_ 4), (0, u "java/lang/Object")] 6

/-- java/lang/constant/Constable -/
def k5 : Class := { plain "java/lang/constant/Constable" (some 0) with
  accessFlags := 1537
  interfaces := #[]
  cf := some (fileOf pool5 1 #[] #[] 1537 3 #[] #[])
  fields := #[]
  methods := #[]
  instanceTypes := #[]
  staticTypes := #[]
  resolved := Array.replicate 11 none
  statics := none }

def pool6 : Array CpInfo := pool [(1, .class_ 2), (0, u "java/lang/constant/ConstantDesc"), (0, .class_ 4), (0, u "java/lang/Object")] 32

/-- java/lang/constant/ConstantDesc -/
def k6 : Class := { plain "java/lang/constant/ConstantDesc" (some 0) with
  accessFlags := 1537
  interfaces := #[]
  cf := some (fileOf pool6 1 #[] #[] 1537 3 #[] #[])
  fields := #[]
  methods := #[]
  instanceTypes := #[]
  staticTypes := #[]
  resolved := Array.replicate 37 none
  statics := none }

def pool7 : Array CpInfo := pool [(1, .methodref 2 3), (0, .class_ 4), (0, .nameAndType 5 6), (0, u "java/lang/Object"), (0, u "<init>"), (0, u "()V"), (0, .string 8), (0, u ""), (0, .fieldref 10 11), (0, .class_ 12), (0, .nameAndType 13 14), (0, u "java/lang/String"), (0, u "value"), (0, u "[B"), (0, .fieldref 10 16), (0, .nameAndType 17 18), (0, u "coder"), (0, u "B"), (2, u "hash"), (0, u "I"), (2, u "hashIsZero"), (0, u "Z"), (0, .methodref 10 28), (0, .nameAndType 5 29), (0, u "([CIILjava/lang/Void;)V"), (8, .fieldref 10 39), (0, .nameAndType 40 26), (0, u "COMPACT_STRINGS"), (1, .class_ 44), (1, u "java/lang/StringUTF16"), (0, u "compress"), (1, .methodref 42 48), (0, .nameAndType 49 50), (0, u "coderFromArrayLen"), (0, u "([BI)B"), (126, .methodref 42 178), (0, .nameAndType 45 179), (0, u "([CII)[B"), (363, u "equals"), (29, u "(Ljava/lang/Object;)Z"), (1, .class_ 576), (0, u "java/lang/CharSequence"), (22, u "CASE_INSENSITIVE_ORDER"), (0, u "Ljava/util/Comparator;"), (409, u "([C)V"), (90, u "serialPersistentFields"), (0, u "[Ljava/io/ObjectStreamField;"), (0, .class_ 1104), (0, u "java/lang/String$CaseInsensitiveComparator"), (1, .class_ 1107), (0, u "java/io/Serializable"), (0, .class_ 1109), (0, u "java/lang/Comparable"), (0, .class_ 1111), (0, u "java/lang/constant/Constable"), (0, .class_ 1113), (0, u "java/lang/constant/ConstantDesc"), (2, u "serialVersionUID"), (0, u "J"), (3, u "REPL"), (0, u "C"), (2, u "LATIN1"), (1, u "UTF16")] 323

def k7m0 : Method := { name := "<init>", desc := "()V", sig := { parameters := [], returnType := none }, accessFlags := 1, code := none }
def k7c1 : Code := { maxStack := 5, maxLocals := 2, code := jdk_42_method_3_code, exceptionTable := #[], attributes := #[] }
def k7m1 : Method := { name := "<init>", desc := "([C)V", sig := { parameters := [(.array .char)], returnType := none }, accessFlags := 1, code := some k7c1 }
def k7c2 : Code := { maxStack := 2, maxLocals := 3, code := jdk_42_method_66_code, exceptionTable := #[], attributes := #[] }
def k7m2 : Method := { name := "equals", desc := "(Ljava/lang/Object;)Z", sig := { parameters := [(.object "java/lang/Object")], returnType := some .boolean }, accessFlags := 1, code := some k7c2 }
def k7c3 : Code := { maxStack := 4, maxLocals := 6, code := jdk_42_method_149_code, exceptionTable := #[], attributes := #[] }
def k7m3 : Method := { name := "<init>", desc := "([CIILjava/lang/Void;)V", sig := { parameters := [(.array .char), .int, .int, (.object "java/lang/Void")], returnType := none }, accessFlags := 2, code := some k7c3 }
/-- java/lang/String -/
def k7 : Class := { plain "java/lang/String" (some 0) with
  accessFlags := 49
  interfaces := #[2, 3, 4, 5, 6]
  cf := some (fileOf pool7 10 #[.nestMembers #[1103]] #[{ accessFlags := 1, nameIndex := 5, descriptorIndex := 6, attributes := #[] }, { accessFlags := 1, nameIndex := 5, descriptorIndex := 1010, attributes := #[] }, { accessFlags := 1, nameIndex := 543, descriptorIndex := 573, attributes := #[] }, { accessFlags := 2, nameIndex := 5, descriptorIndex := 29, attributes := #[] }] 49 2 #[1106, 1108, 575, 1110, 1112] #[{ accessFlags := 18, nameIndex := 13, descriptorIndex := 14, attributes := #[] }, { accessFlags := 18, nameIndex := 17, descriptorIndex := 18, attributes := #[] }, { accessFlags := 2, nameIndex := 21, descriptorIndex := 22, attributes := #[] }, { accessFlags := 2, nameIndex := 25, descriptorIndex := 26, attributes := #[] }, { accessFlags := 26, nameIndex := 1116, descriptorIndex := 1117, attributes := #[] }, { accessFlags := 24, nameIndex := 40, descriptorIndex := 26, attributes := #[] }, { accessFlags := 26, nameIndex := 1101, descriptorIndex := 1102, attributes := #[] }, { accessFlags := 26, nameIndex := 1121, descriptorIndex := 1122, attributes := #[] }, { accessFlags := 25, nameIndex := 599, descriptorIndex := 600, attributes := #[] }, { accessFlags := 24, nameIndex := 1125, descriptorIndex := 18, attributes := #[] }, { accessFlags := 24, nameIndex := 1127, descriptorIndex := 18, attributes := #[] }])
  fields := #[{ name := "value", type := (.array .byte), accessFlags := 18, slot := 0, constantValue := 0 }, { name := "coder", type := .byte, accessFlags := 18, slot := 1, constantValue := 0 }, { name := "hash", type := .int, accessFlags := 2, slot := 2, constantValue := 0 }, { name := "hashIsZero", type := .boolean, accessFlags := 2, slot := 3, constantValue := 0 }, { name := "serialVersionUID", type := .long, accessFlags := 26, slot := 0, constantValue := 0 }, { name := "COMPACT_STRINGS", type := .boolean, accessFlags := 24, slot := 1, constantValue := 0 }, { name := "serialPersistentFields", type := (.array (.object "java/io/ObjectStreamField")), accessFlags := 26, slot := 2, constantValue := 0 }, { name := "REPL", type := .char, accessFlags := 26, slot := 3, constantValue := 0 }, { name := "CASE_INSENSITIVE_ORDER", type := (.object "java/util/Comparator"), accessFlags := 25, slot := 4, constantValue := 0 }, { name := "LATIN1", type := .byte, accessFlags := 24, slot := 5, constantValue := 0 }, { name := "UTF16", type := .byte, accessFlags := 24, slot := 6, constantValue := 0 }]
  methods := #[k7m0, k7m1, k7m2, k7m3]
  instanceTypes := #[(.array .byte), .byte, .int, .boolean]
  staticTypes := #[.long, .boolean, (.array (.object "java/io/ObjectStreamField")), .char, (.object "java/util/Comparator"), .byte, .byte]
  resolved := Array.replicate 1451 none
  statics := some 0 }

def pool8 : Array CpInfo := pool [(1, .methodref 2 3), (0, .class_ 4), (0, .nameAndType 5 6), (0, u "java/lang/Object"), (0, u "<init>"), (0, u "()V"), (0, .fieldref 8 9), (0, .class_ 10), (0, .nameAndType 11 12), (0, u "com/example/onceward/onceward/outbox/Publication"), (0, u "state"), (0, u "Lcom/example/onceward/onceward/outbox/Publication$State;"), (0, .fieldref 8 14), (0, .nameAndType 15 16), (0, u "reason"), (0, u "Ljava/lang/String;"), (0, .fieldref 8 18), (0, .nameAndType 19 20), (0, u "PUBLISHED"), (0, u "Lcom/example/onceward/onceward/outbox/Publication;"), (0, .fieldref 22 23), (0, .class_ 24), (0, .nameAndType 25 12), (0, u "com/example/onceward/onceward/outbox/Publication$State"), (0, u "REFUSED"), (0, .string 15), (0, .methodref 28 29), (0, .class_ 30), (0, .nameAndType 31 32), (0, u "java/util/Objects"), (0, u "requireNonNull"), (0, u "(Ljava/lang/Object;Ljava/lang/String;)Ljava/lang/Object;"), (0, .class_ 34), (0, u "java/lang/String"), (0, .methodref 8 36), (0, .nameAndType 5 37), (0, u "(Lcom/example/onceward/onceward/outbox/Publication$State;Ljava/lang/String;)V"), (6, u "()Ljava/lang/String;"), (12, u "published"), (0, u "()Lcom/example/onceward/onceward/outbox/Publication;"), (0, u "refused"), (0, u "(Ljava/lang/String;)Lcom/example/onceward/onceward/outbox/Publication;"), (1, u "()Lcom/example/onceward/onceward/outbox/Publication$State;")] 21

def k8c0 : Code := { maxStack := 2, maxLocals := 3, code := prog_12_method_1_code, exceptionTable := #[], attributes := #[] }
def k8m0 : Method := { name := "<init>", desc := "(Lcom/example/onceward/onceward/outbox/Publication$State;Ljava/lang/String;)V", sig := { parameters := [(.object "com/example/onceward/onceward/outbox/Publication$State"), (.object "java/lang/String")], returnType := none }, accessFlags := 2, code := some k8c0 }
def k8c1 : Code := { maxStack := 1, maxLocals := 0, code := prog_12_method_2_code, exceptionTable := #[], attributes := #[] }
def k8m1 : Method := { name := "published", desc := "()Lcom/example/onceward/onceward/outbox/Publication;", sig := { parameters := [], returnType := some (.object "com/example/onceward/onceward/outbox/Publication") }, accessFlags := 9, code := some k8c1 }
def k8c2 : Code := { maxStack := 5, maxLocals := 1, code := prog_12_method_3_code, exceptionTable := #[], attributes := #[] }
def k8m2 : Method := { name := "refused", desc := "(Ljava/lang/String;)Lcom/example/onceward/onceward/outbox/Publication;", sig := { parameters := [(.object "java/lang/String")], returnType := some (.object "com/example/onceward/onceward/outbox/Publication") }, accessFlags := 9, code := some k8c2 }
def k8c3 : Code := { maxStack := 1, maxLocals := 1, code := prog_12_method_5_code, exceptionTable := #[], attributes := #[] }
def k8m3 : Method := { name := "state", desc := "()Lcom/example/onceward/onceward/outbox/Publication$State;", sig := { parameters := [], returnType := some (.object "com/example/onceward/onceward/outbox/Publication$State") }, accessFlags := 1, code := some k8c3 }
def k8c4 : Code := { maxStack := 1, maxLocals := 1, code := prog_12_method_6_code, exceptionTable := #[], attributes := #[] }
def k8m4 : Method := { name := "reason", desc := "()Ljava/lang/String;", sig := { parameters := [], returnType := some (.object "java/lang/String") }, accessFlags := 1, code := some k8c4 }
/-- com/example/onceward/onceward/outbox/Publication -/
def k8 : Class := { plain "com/example/onceward/onceward/outbox/Publication" (some 0) with
  accessFlags := 33
  interfaces := #[]
  cf := some (fileOf pool8 8 #[.nestMembers #[22]] #[{ accessFlags := 2, nameIndex := 5, descriptorIndex := 37, attributes := #[] }, { accessFlags := 9, nameIndex := 57, descriptorIndex := 58, attributes := #[] }, { accessFlags := 9, nameIndex := 59, descriptorIndex := 60, attributes := #[] }, { accessFlags := 1, nameIndex := 11, descriptorIndex := 62, attributes := #[] }, { accessFlags := 1, nameIndex := 15, descriptorIndex := 44, attributes := #[] }] 33 2 #[] #[{ accessFlags := 26, nameIndex := 19, descriptorIndex := 20, attributes := #[] }, { accessFlags := 18, nameIndex := 11, descriptorIndex := 12, attributes := #[] }, { accessFlags := 18, nameIndex := 15, descriptorIndex := 16, attributes := #[] }])
  fields := #[{ name := "PUBLISHED", type := (.object "com/example/onceward/onceward/outbox/Publication"), accessFlags := 26, slot := 0, constantValue := 0 }, { name := "state", type := (.object "com/example/onceward/onceward/outbox/Publication$State"), accessFlags := 18, slot := 0, constantValue := 0 }, { name := "reason", type := (.object "java/lang/String"), accessFlags := 18, slot := 1, constantValue := 0 }]
  methods := #[k8m0, k8m1, k8m2, k8m3, k8m4]
  instanceTypes := #[(.object "com/example/onceward/onceward/outbox/Publication$State"), (.object "java/lang/String")]
  staticTypes := #[(.object "com/example/onceward/onceward/outbox/Publication")]
  resolved := Array.replicate 84 none
  statics := some 1 }

def pool9 : Array CpInfo := pool [(2, .class_ 4), (1, u "java/lang/Enum"), (0, u "name"), (0, u "Ljava/lang/String;"), (2, u "ordinal"), (0, u "I"), (1, .class_ 14), (1, u "java/lang/Object"), (4, u "hash"), (86, .class_ 108), (1, u "java/lang/Enum$EnumDesc"), (2, .class_ 112), (0, u "java/lang/constant/Constable"), (0, .class_ 114), (0, u "java/lang/Comparable"), (0, .class_ 116), (0, u "java/io/Serializable")] 87

/-- java/lang/Enum -/
def k9 : Class := { plain "java/lang/Enum" (some 0) with
  accessFlags := 1057
  interfaces := #[5, 3, 2]
  cf := some (fileOf pool9 2 #[.nestMembers #[106]] #[] 1057 12 #[111, 113, 115] #[{ accessFlags := 18, nameIndex := 5, descriptorIndex := 6, attributes := #[] }, { accessFlags := 18, nameIndex := 9, descriptorIndex := 10, attributes := #[] }, { accessFlags := 2, nameIndex := 19, descriptorIndex := 10, attributes := #[] }])
  fields := #[{ name := "name", type := (.object "java/lang/String"), accessFlags := 18, slot := 0, constantValue := 0 }, { name := "ordinal", type := .int, accessFlags := 18, slot := 1, constantValue := 0 }, { name := "hash", type := .int, accessFlags := 2, slot := 2, constantValue := 0 }]
  methods := #[]
  instanceTypes := #[(.object "java/lang/String"), .int, .int]
  staticTypes := #[]
  resolved := Array.replicate 204 none
  statics := none }

def pool10 : Array CpInfo := pool [(1, .class_ 2), (0, u "com/example/onceward/onceward/outbox/Publication$State"), (2, u "PUBLISHED"), (0, u "Lcom/example/onceward/onceward/outbox/Publication$State;"), (2, u "REFUSED"), (2, u "UNANSWERED"), (2, u "$VALUES"), (0, u "[Lcom/example/onceward/onceward/outbox/Publication$State;"), (6, .class_ 25), (1, u "java/lang/Enum"), (26, .class_ 53), (0, u "com/example/onceward/onceward/outbox/Publication")] 2

/-- com/example/onceward/onceward/outbox/Publication$State -/
def k10 : Class := { plain "com/example/onceward/onceward/outbox/Publication$State" (some 9) with
  accessFlags := 16433
  interfaces := #[]
  cf := some (fileOf pool10 1 #[.nestHost 52] #[] 16433 23 #[] #[{ accessFlags := 16409, nameIndex := 5, descriptorIndex := 6, attributes := #[] }, { accessFlags := 16409, nameIndex := 9, descriptorIndex := 6, attributes := #[] }, { accessFlags := 16409, nameIndex := 12, descriptorIndex := 6, attributes := #[] }, { accessFlags := 4122, nameIndex := 15, descriptorIndex := 16, attributes := #[] }])
  fields := #[{ name := "PUBLISHED", type := (.object "com/example/onceward/onceward/outbox/Publication$State"), accessFlags := 16409, slot := 0, constantValue := 0 }, { name := "REFUSED", type := (.object "com/example/onceward/onceward/outbox/Publication$State"), accessFlags := 16409, slot := 1, constantValue := 0 }, { name := "UNANSWERED", type := (.object "com/example/onceward/onceward/outbox/Publication$State"), accessFlags := 16409, slot := 2, constantValue := 0 }, { name := "$VALUES", type := (.array (.object "com/example/onceward/onceward/outbox/Publication$State")), accessFlags := 4122, slot := 3, constantValue := 0 }]
  methods := #[]
  instanceTypes := #[(.object "java/lang/String"), .int, .int]
  staticTypes := #[(.object "com/example/onceward/onceward/outbox/Publication$State"), (.object "com/example/onceward/onceward/outbox/Publication$State"), (.object "com/example/onceward/onceward/outbox/Publication$State"), (.array (.object "com/example/onceward/onceward/outbox/Publication$State"))]
  resolved := Array.replicate 56 none
  statics := some 2 }

def pool11 : Array CpInfo := pool [(2, .class_ 4), (1, u "java/lang/Object"), (0, u "<init>"), (0, u "()V"), (35, .class_ 44), (1, u "java/util/Objects"), (0, u "requireNonNull"), (48, u "(Ljava/lang/Object;Ljava/lang/String;)Ljava/lang/Object;")] 89

def k11m0 : Method := { name := "<init>", desc := "()V", sig := { parameters := [], returnType := none }, accessFlags := 2, code := none }
def k11c1 : Code := { maxStack := 3, maxLocals := 2, code := jdk_31_method_11_code, exceptionTable := #[], attributes := #[] }
def k11m1 : Method := { name := "requireNonNull", desc := "(Ljava/lang/Object;Ljava/lang/String;)Ljava/lang/Object;", sig := { parameters := [(.object "java/lang/Object"), (.object "java/lang/String")], returnType := some (.object "java/lang/Object") }, accessFlags := 9, code := some k11c1 }
/-- java/util/Objects -/
def k11 : Class := { plain "java/util/Objects" (some 0) with
  accessFlags := 49
  interfaces := #[]
  cf := some (fileOf pool11 42 #[] #[{ accessFlags := 2, nameIndex := 5, descriptorIndex := 6, attributes := #[] }, { accessFlags := 9, nameIndex := 45, descriptorIndex := 94, attributes := #[] }] 49 2 #[] #[])
  fields := #[]
  methods := #[k11m0, k11m1]
  instanceTypes := #[]
  staticTypes := #[]
  resolved := Array.replicate 184 none
  statics := none }

def pool12 : Array CpInfo := pool [(6, .class_ 8), (1, u "java/lang/Object"), (0, u "<init>"), (0, u "()V"), (1, .class_ 14), (1, u "java/lang/StringUTF16"), (31, u "$assertionsDisabled"), (0, u "Z"), (13, u "HI_BYTE_SHIFT"), (0, u "I"), (2, u "LO_BYTE_SHIFT"), (49, .methodref 12 116), (0, .nameAndType 117 118), (0, u "compress"), (0, u "([CI[BII)I"), (3, u "([CII)[B"), (138, u "coderFromArrayLen"), (0, u "([BI)B"), (106, .class_ 371), (1, u "java/lang/StringUTF16$LinesSpliterator"), (58, u "MAX_LENGTH"), (196, .class_ 628), (0, u "java/lang/StringUTF16$CodePointsSpliterator"), (0, .class_ 630), (0, u "java/lang/StringUTF16$CharsSpliterator")] 4

def k12m0 : Method := { name := "<init>", desc := "()V", sig := { parameters := [], returnType := none }, accessFlags := 0, code := none }
def k12c1 : Code := { maxStack := 2, maxLocals := 2, code := jdk_52_method_15_code, exceptionTable := #[], attributes := #[] }
def k12m1 : Method := { name := "coderFromArrayLen", desc := "([BI)B", sig := { parameters := [(.array .byte), .int], returnType := some .byte }, accessFlags := 8, code := some k12c1 }
def k12c2 : Code := { maxStack := 5, maxLocals := 6, code := jdk_52_method_16_code, exceptionTable := #[], attributes := #[] }
def k12m2 : Method := { name := "compress", desc := "([CII)[B", sig := { parameters := [(.array .char), .int, .int], returnType := some (.array .byte) }, accessFlags := 9, code := some k12c2 }
def k12c3 : Code := { maxStack := 3, maxLocals := 7, code := jdk_52_method_21_code, exceptionTable := #[], attributes := #[] }
def k12m3 : Method := { name := "compress", desc := "([CI[BII)I", sig := { parameters := [(.array .char), .int, (.array .byte), .int, .int], returnType := some .int }, accessFlags := 9, code := some k12c3 }
/-- java/lang/StringUTF16 -/
def k12 : Class := { plain "java/lang/StringUTF16" (some 0) with
  accessFlags := 48
  interfaces := #[]
  cf := some (fileOf pool12 12 #[.nestMembers #[627, 629, 369]] #[{ accessFlags := 0, nameIndex := 9, descriptorIndex := 10, attributes := #[] }, { accessFlags := 8, nameIndex := 261, descriptorIndex := 262, attributes := #[] }, { accessFlags := 9, nameIndex := 117, descriptorIndex := 122, attributes := #[] }, { accessFlags := 9, nameIndex := 117, descriptorIndex := 118, attributes := #[] }] 48 6 #[] #[{ accessFlags := 26, nameIndex := 61, descriptorIndex := 62, attributes := #[] }, { accessFlags := 26, nameIndex := 65, descriptorIndex := 62, attributes := #[] }, { accessFlags := 24, nameIndex := 430, descriptorIndex := 62, attributes := #[] }, { accessFlags := 4120, nameIndex := 46, descriptorIndex := 47, attributes := #[] }])
  fields := #[{ name := "HI_BYTE_SHIFT", type := .int, accessFlags := 26, slot := 0, constantValue := 0 }, { name := "LO_BYTE_SHIFT", type := .int, accessFlags := 26, slot := 1, constantValue := 0 }, { name := "MAX_LENGTH", type := .int, accessFlags := 24, slot := 2, constantValue := 0 }, { name := "$assertionsDisabled", type := .boolean, accessFlags := 4120, slot := 3, constantValue := 0 }]
  methods := #[k12m0, k12m1, k12m2, k12m3]
  instanceTypes := #[]
  staticTypes := #[.int, .int, .int, .boolean]
  resolved := Array.replicate 635 none
  statics := none }

def pool13 : Array CpInfo := pool [(4, .class_ 6), (1, u "java/lang/Object"), (0, u "<init>"), (0, u "()V"), (5, .class_ 16), (1, u "java/lang/StringLatin1"), (104, u "$assertionsDisabled"), (0, u "Z"), (98, .class_ 223), (1, u "java/lang/StringLatin1$LinesSpliterator"), (166, .class_ 391), (0, u "java/lang/StringLatin1$CharsSpliterator")] 3

def k13m0 : Method := { name := "<init>", desc := "()V", sig := { parameters := [], returnType := none }, accessFlags := 0, code := none }
/-- java/lang/StringLatin1 -/
def k13 : Class := { plain "java/lang/StringLatin1" (some 0) with
  accessFlags := 48
  interfaces := #[]
  cf := some (fileOf pool13 14 #[.nestMembers #[390, 221]] #[{ accessFlags := 0, nameIndex := 7, descriptorIndex := 8, attributes := #[] }] 48 4 #[] #[{ accessFlags := 4120, nameIndex := 121, descriptorIndex := 122, attributes := #[] }])
  fields := #[{ name := "$assertionsDisabled", type := .boolean, accessFlags := 4120, slot := 0, constantValue := 0 }]
  methods := #[k13m0]
  instanceTypes := #[]
  staticTypes := #[.boolean]
  resolved := Array.replicate 395 none
  statics := none }

def pool14 : Array CpInfo := pool [(2, .class_ 4), (1, u "java/lang/Object"), (0, u "<init>"), (0, u "()V"), (17, .class_ 26), (1, u "jdk/internal/util/Preconditions"), (28, .class_ 56), (0, u "jdk/internal/util/Preconditions$4"), (57, .class_ 115), (0, u "jdk/internal/util/Preconditions$1"), (7, u "SIOOBE_FORMATTER"), (0, u "Ljava/util/function/BiFunction;"), (0, .class_ 126), (0, u "jdk/internal/util/Preconditions$2"), (3, u "AIOOBE_FORMATTER"), (0, .class_ 132), (0, u "jdk/internal/util/Preconditions$3"), (3, u "IOOBE_FORMATTER")] 57

def k14m0 : Method := { name := "<init>", desc := "()V", sig := { parameters := [], returnType := none }, accessFlags := 1, code := none }
/-- jdk/internal/util/Preconditions -/
def k14 : Class := { plain "jdk/internal/util/Preconditions" (some 0) with
  accessFlags := 33
  interfaces := #[]
  cf := some (fileOf pool14 24 #[.nestMembers #[55, 131, 125, 114]] #[{ accessFlags := 1, nameIndex := 5, descriptorIndex := 6, attributes := #[] }] 33 2 #[] #[{ accessFlags := 25, nameIndex := 123, descriptorIndex := 124, attributes := #[] }, { accessFlags := 25, nameIndex := 130, descriptorIndex := 124, attributes := #[] }, { accessFlags := 25, nameIndex := 136, descriptorIndex := 124, attributes := #[] }])
  fields := #[{ name := "SIOOBE_FORMATTER", type := (.object "java/util/function/BiFunction"), accessFlags := 25, slot := 0, constantValue := 0 }, { name := "AIOOBE_FORMATTER", type := (.object "java/util/function/BiFunction"), accessFlags := 25, slot := 1, constantValue := 0 }, { name := "IOOBE_FORMATTER", type := (.object "java/util/function/BiFunction"), accessFlags := 25, slot := 2, constantValue := 0 }]
  methods := #[k14m0]
  instanceTypes := #[]
  staticTypes := #[(.object "java/util/function/BiFunction"), (.object "java/util/function/BiFunction"), (.object "java/util/function/BiFunction")]
  resolved := Array.replicate 194 none
  statics := some 3 }

def pool15 : Array CpInfo := pool [(9, u "<init>"), (6, .class_ 18), (1, u "java/lang/Object"), (0, u "()V"), (1, .class_ 23), (1, u "jdk/internal/util/ArraysSupport"), (0, u "LOG2_ARRAY_LONG_INDEX_SCALE"), (0, u "I"), (2, u "U"), (0, u "Ljdk/internal/misc/Unsafe;"), (8, u "BIG_ENDIAN"), (0, u "Z"), (8, u "LOG2_BYTE_BIT_SIZE"), (4, u "LOG2_ARRAY_INT_INDEX_SCALE"), (54, u "JLA"), (0, u "Ljdk/internal/access/JavaLangAccess;"), (11, u "LOG2_ARRAY_BOOLEAN_INDEX_SCALE"), (9, u "LOG2_ARRAY_BYTE_INDEX_SCALE"), (5, u "LOG2_ARRAY_CHAR_INDEX_SCALE"), (5, u "LOG2_ARRAY_SHORT_INDEX_SCALE"), (18, u "LOG2_ARRAY_FLOAT_INDEX_SCALE"), (24, u "LOG2_ARRAY_DOUBLE_INDEX_SCALE"), (89, u "T_BOOLEAN"), (2, u "T_CHAR"), (1, u "T_FLOAT"), (1, u "T_DOUBLE"), (1, u "T_BYTE"), (1, u "T_SHORT"), (1, u "T_INT"), (1, u "T_LONG"), (1, u "SOFT_MAX_ARRAY_LENGTH")] 83

def k15m0 : Method := { name := "<init>", desc := "()V", sig := { parameters := [], returnType := none }, accessFlags := 2, code := none }
/-- jdk/internal/util/ArraysSupport -/
def k15 : Class := { plain "jdk/internal/util/ArraysSupport" (some 0) with
  accessFlags := 33
  interfaces := #[]
  cf := some (fileOf pool15 21 #[] #[{ accessFlags := 2, nameIndex := 9, descriptorIndex := 19, attributes := #[] }] 33 16 #[] #[{ accessFlags := 24, nameIndex := 28, descriptorIndex := 29, attributes := #[] }, { accessFlags := 26, nameIndex := 38, descriptorIndex := 39, attributes := #[] }, { accessFlags := 25, nameIndex := 121, descriptorIndex := 25, attributes := #[] }, { accessFlags := 25, nameIndex := 131, descriptorIndex := 25, attributes := #[] }, { accessFlags := 25, nameIndex := 137, descriptorIndex := 25, attributes := #[] }, { accessFlags := 25, nameIndex := 143, descriptorIndex := 25, attributes := #[] }, { accessFlags := 25, nameIndex := 53, descriptorIndex := 25, attributes := #[] }, { accessFlags := 25, nameIndex := 24, descriptorIndex := 25, attributes := #[] }, { accessFlags := 25, nameIndex := 162, descriptorIndex := 25, attributes := #[] }, { accessFlags := 25, nameIndex := 187, descriptorIndex := 25, attributes := #[] }, { accessFlags := 26, nameIndex := 48, descriptorIndex := 25, attributes := #[] }, { accessFlags := 25, nameIndex := 277, descriptorIndex := 25, attributes := #[] }, { accessFlags := 25, nameIndex := 280, descriptorIndex := 25, attributes := #[] }, { accessFlags := 25, nameIndex := 282, descriptorIndex := 25, attributes := #[] }, { accessFlags := 25, nameIndex := 284, descriptorIndex := 25, attributes := #[] }, { accessFlags := 25, nameIndex := 286, descriptorIndex := 25, attributes := #[] }, { accessFlags := 25, nameIndex := 288, descriptorIndex := 25, attributes := #[] }, { accessFlags := 25, nameIndex := 290, descriptorIndex := 25, attributes := #[] }, { accessFlags := 25, nameIndex := 292, descriptorIndex := 25, attributes := #[] }, { accessFlags := 26, nameIndex := 108, descriptorIndex := 109, attributes := #[] }, { accessFlags := 25, nameIndex := 294, descriptorIndex := 25, attributes := #[] }])
  fields := #[{ name := "U", type := (.object "jdk/internal/misc/Unsafe"), accessFlags := 24, slot := 0, constantValue := 0 }, { name := "BIG_ENDIAN", type := .boolean, accessFlags := 26, slot := 1, constantValue := 0 }, { name := "LOG2_ARRAY_BOOLEAN_INDEX_SCALE", type := .int, accessFlags := 25, slot := 2, constantValue := 0 }, { name := "LOG2_ARRAY_BYTE_INDEX_SCALE", type := .int, accessFlags := 25, slot := 3, constantValue := 0 }, { name := "LOG2_ARRAY_CHAR_INDEX_SCALE", type := .int, accessFlags := 25, slot := 4, constantValue := 0 }, { name := "LOG2_ARRAY_SHORT_INDEX_SCALE", type := .int, accessFlags := 25, slot := 5, constantValue := 0 }, { name := "LOG2_ARRAY_INT_INDEX_SCALE", type := .int, accessFlags := 25, slot := 6, constantValue := 0 }, { name := "LOG2_ARRAY_LONG_INDEX_SCALE", type := .int, accessFlags := 25, slot := 7, constantValue := 0 }, { name := "LOG2_ARRAY_FLOAT_INDEX_SCALE", type := .int, accessFlags := 25, slot := 8, constantValue := 0 }, { name := "LOG2_ARRAY_DOUBLE_INDEX_SCALE", type := .int, accessFlags := 25, slot := 9, constantValue := 0 }, { name := "LOG2_BYTE_BIT_SIZE", type := .int, accessFlags := 26, slot := 10, constantValue := 0 }, { name := "T_BOOLEAN", type := .int, accessFlags := 25, slot := 11, constantValue := 0 }, { name := "T_CHAR", type := .int, accessFlags := 25, slot := 12, constantValue := 0 }, { name := "T_FLOAT", type := .int, accessFlags := 25, slot := 13, constantValue := 0 }, { name := "T_DOUBLE", type := .int, accessFlags := 25, slot := 14, constantValue := 0 }, { name := "T_BYTE", type := .int, accessFlags := 25, slot := 15, constantValue := 0 }, { name := "T_SHORT", type := .int, accessFlags := 25, slot := 16, constantValue := 0 }, { name := "T_INT", type := .int, accessFlags := 25, slot := 17, constantValue := 0 }, { name := "T_LONG", type := .int, accessFlags := 25, slot := 18, constantValue := 0 }, { name := "JLA", type := (.object "jdk/internal/access/JavaLangAccess"), accessFlags := 26, slot := 19, constantValue := 0 }, { name := "SOFT_MAX_ARRAY_LENGTH", type := .int, accessFlags := 25, slot := 20, constantValue := 0 }]
  methods := #[k15m0]
  instanceTypes := #[]
  staticTypes := #[(.object "jdk/internal/misc/Unsafe"), .boolean, .int, .int, .int, .int, .int, .int, .int, .int, .int, .int, .int, .int, .int, .int, .int, .int, .int, (.object "jdk/internal/access/JavaLangAccess"), .int]
  resolved := Array.replicate 378 none
  statics := none }

def pool16 : Array CpInfo := pool [(1, u "java/lang/Cloneable"), (0, .class_ 1), (0, u "java/lang/Object"), (0, .class_ 3)] 3

/-- java/lang/Cloneable -/
def k16 : Class := { plain "java/lang/Cloneable" (some 0) with
  accessFlags := 1537
  interfaces := #[]
  cf := some (fileOf pool16 2 #[] #[] 1537 4 #[] #[])
  fields := #[]
  methods := #[]
  instanceTypes := #[]
  staticTypes := #[]
  resolved := Array.replicate 8 none
  statics := none }

/-- the primitive byte -/
def k17 : Class := { plain "byte" none with kind := .primitive 'B', accessFlags := 0x411 }
/-- [B -/
def k18 : Class := { plain "[B" (some 0) with kind := .array 17 .byte, interfaces := #[16, 2], accessFlags := 1041 }

/-- the primitive char -/
def k19 : Class := { plain "char" none with kind := .primitive 'C', accessFlags := 0x411 }
/-- [C -/
def k20 : Class := { plain "[C" (some 0) with kind := .array 19 .char, interfaces := #[16, 2], accessFlags := 1041 }

/-- the primitive int -/
def k21 : Class := { plain "int" none with kind := .primitive 'I', accessFlags := 0x411 }
/-- [I -/
def k22 : Class := { plain "[I" (some 0) with kind := .array 21 .int, interfaces := #[16, 2], accessFlags := 1041 }

def heap : Heap := #[{ cls := 7, slots := #[.long 0, .int 1, .null, .int 0, .null, .int 0, .int 0], vm := .statics 7 },
  { cls := 8, slots := #[.ref 6], vm := .statics 8 },
  { cls := 10, slots := #[.null, .ref 5, .null, .null], vm := .statics 10 },
  { cls := 14, slots := #[.null, .null, .null], vm := .statics 14 },
  { cls := 10, slots := #[.null, .int 0, .int 0], vm := .none },
  { cls := 10, slots := #[.null, .int 1, .int 0], vm := .none },
  { cls := 8, slots := #[.ref 4, .null], vm := .none }]
def classes : Array Class := #[k0, k1, k2, k3, k4, k5, k6, k7, k8, k9, k10, k11, k12, k13, k14, k15, k16, k17, k18, k19, k20, k21, k22]
def interned : List (Array UInt16 × Addr) := []
def slotsUsed : Nat := 23
def theMethod : MethodId := ⟨1, 2⟩
def args0 : Array Value := #[.int 2, .int 65, .int 66, .int 67]
def aboutOver (below : List Frame) : State where
  vm := { classes := classes, interned := interned.toArray }
  heap := heap
  slotsUsed := slotsUsed
  threads := #[{ frames := .invoking theMethod args0 :: below }]
def below0 : List Frame := [.native { method := ⟨0, 0⟩, args := #[] }]
def about1 : State := aboutOver below0
def p0 : Program := .bare "" "" ""
def e0 : Env := launch0.env 0 0 0
theorem w_frames : about1.frames = Frame.invoking theMethod args0 :: below0 := rfl
set_option maxRecDepth 65536 in
theorem w_args : argsFit about1.vm theMethod args0 = true := by decide +kernel
set_option maxRecDepth 65536 in
theorem w_heap : heapFits about1 = true := by decide +kernel
set_option maxRecDepth 65536 in
theorem w_runnable : about1.curStatus? = some .runnable := by decide +kernel
set_option maxRecDepth 65536 in
theorem w_alone : about1.alone = true := by decide +kernel
set_option maxRecDepth 65536 in
theorem w_named : about1.methodNamed? x = some theMethod := by decide +kernel
set_option maxRecDepth 65536 in
theorem w_hears : about1.hears theMethod below0 = true := by decide +kernel
set_option maxRecDepth 65536 in
theorem w_ripe : about1.ripe theMethod args0 below0 = true := by decide +kernel
theorem w_running : about1.status = .running := rfl
set_option maxRecDepth 65536 in
theorem w_room : about1.hasRoom e0.platform room_1 = true :=
  launch0.hasRoom_least _ room_1 (by decide +kernel) (by decide +kernel) (by decide +kernel) (by decide +kernel) (by decide +kernel) (by decide +kernel)
theorem allAtoms_all (ts : List Jvm.Cond) (a : Array Jvm.Value) (st : Jvm.State) : (allAtoms ts).before a st = ts.all (fun c => c.before a st) := by
  induction ts with
  | nil => rfl
  | cons c t ih =>
    show (Jvm.Cond.and c (allAtoms t)).before a st = _
    rw [Jvm.Cond.before_and, ih, List.all_cons]
def words1 : List Jvm.Cond := Jvm.Cond.code x code maxLocals ret :: tables_1
/-- a 'code' word, met by the world's own term for the bytes: nothing is compared byte by byte -/
theorem code_word {y : MethodName} {bytes : ByteArray} {mx : Nat} {rt : Option FieldType} {a : Array Value} {s : State} {m : MethodId} {meth : Method} {c : Code} (h1 : s.methodNamed? y = some m) (h2 : s.vm.method? m = some meth) (h3 : meth.code = some c) (h4 : c.code = bytes)
    (h5 : (c.maxLocals == mx && c.exceptionTable.isEmpty && decide (c.maxStack ≤ mostOperands) && decide (meth.sig.returnType = rt) && !meth.locks && decide (parseMethodDescriptor y.desc = some meth.sig)) = true) : (Jvm.Cond.code y bytes mx rt).before a s = true := by
  simp only [Bool.and_eq_true, beq_iff_eq, Bool.not_eq_true', decide_eq_true_eq] at h5
  obtain ⟨⟨⟨⟨⟨g1, g2⟩, g3⟩, g4⟩, g5⟩, g6⟩ := h5
  simp [Cond.before, Cond.holds, Cond.value, h1, h2, h3, h4, g1, g2, g3, g4, g5, g6]
def isCode : Jvm.Cond → Bool
  | .code _ _ _ _ => true
  | _ => false
theorem all_split {L : List Jvm.Cond} {P : Jvm.Cond → Bool} (h1 : L.all (fun c => isCode c || P c) = true) (h2 : ∀ c ∈ L.filter isCode, P c = true) : L.all P = true := by
  refine List.all_eq_true.mpr fun c hc => ?_
  have h := List.all_eq_true.mp h1 c hc
  rcases Bool.eq_false_or_eq_true (isCode c) with hi | hi
  · exact h2 c (List.mem_filter.mpr ⟨hc, hi⟩)
  · simpa [hi] using h
set_option maxRecDepth 65536 in
theorem w_c0 : (Jvm.Cond.code x code maxLocals ret).before args0 about1 = true := code_word (m := ⟨1, 2⟩) (meth := k1m2) (c := k1c2) (by decide +kernel) rfl rfl rfl (by decide +kernel)
set_option maxRecDepth 65536 in
theorem w_c1 : (Jvm.Cond.code ({ cls := "com/example/onceward/onceward/outbox/PublicationRefusedPinLaw", name := "draw", desc := "(IIII)Ljava/lang/String;" } : Jvm.MethodName) method_2_code (8 : Nat) (Option.some (Jvm.ClassFile.FieldType.object "java/lang/String"))).before args0 about1 = true := code_word (m := ⟨1, 1⟩) (meth := k1m1) (c := k1c1) (by decide +kernel) rfl rfl rfl (by decide +kernel)
set_option maxRecDepth 65536 in
theorem w_c2 : (Jvm.Cond.code ({ cls := "java/lang/String", name := "<init>", desc := "([C)V" } : Jvm.MethodName) jdk_42_method_3_code (2 : Nat) (Option.none : Option Jvm.ClassFile.FieldType)).before args0 about1 = true := code_word (m := ⟨7, 1⟩) (meth := k7m1) (c := k7c1) (by decide +kernel) rfl rfl rfl (by decide +kernel)
set_option maxRecDepth 65536 in
theorem w_c3 : (Jvm.Cond.code ({ cls := "java/lang/String", name := "<init>", desc := "([CIILjava/lang/Void;)V" } : Jvm.MethodName) jdk_42_method_149_code (6 : Nat) (Option.none : Option Jvm.ClassFile.FieldType)).before args0 about1 = true := code_word (m := ⟨7, 3⟩) (meth := k7m3) (c := k7c3) (by decide +kernel) rfl rfl rfl (by decide +kernel)
set_option maxRecDepth 65536 in
theorem w_c4 : (Jvm.Cond.code ({ cls := "java/lang/Object", name := "<init>", desc := "()V" } : Jvm.MethodName) object_method_1_code (1 : Nat) (Option.none : Option Jvm.ClassFile.FieldType)).before args0 about1 = true := code_word (m := ⟨0, 0⟩) (meth := k0m0) (c := k0c0) (by decide +kernel) rfl rfl rfl (by decide +kernel)
set_option maxRecDepth 65536 in
theorem w_c5 : (Jvm.Cond.code ({ cls := "com/example/onceward/onceward/outbox/Publication", name := "refused", desc := "(Ljava/lang/String;)Lcom/example/onceward/onceward/outbox/Publication;" } : Jvm.MethodName) prog_12_method_3_code (1 : Nat) (Option.some (Jvm.ClassFile.FieldType.object "com/example/onceward/onceward/outbox/Publication"))).before args0 about1 = true := code_word (m := ⟨8, 2⟩) (meth := k8m2) (c := k8c2) (by decide +kernel) rfl rfl rfl (by decide +kernel)
set_option maxRecDepth 65536 in
theorem w_c6 : (Jvm.Cond.code ({ cls := "java/util/Objects", name := "requireNonNull", desc := "(Ljava/lang/Object;Ljava/lang/String;)Ljava/lang/Object;" } : Jvm.MethodName) jdk_31_method_11_code (2 : Nat) (Option.some (Jvm.ClassFile.FieldType.object "java/lang/Object"))).before args0 about1 = true := code_word (m := ⟨11, 1⟩) (meth := k11m1) (c := k11c1) (by decide +kernel) rfl rfl rfl (by decide +kernel)
set_option maxRecDepth 65536 in
theorem w_c7 : (Jvm.Cond.code ({ cls := "com/example/onceward/onceward/outbox/Publication", name := "<init>", desc := "(Lcom/example/onceward/onceward/outbox/Publication$State;Ljava/lang/String;)V" } : Jvm.MethodName) prog_12_method_1_code (3 : Nat) (Option.none : Option Jvm.ClassFile.FieldType)).before args0 about1 = true := code_word (m := ⟨8, 0⟩) (meth := k8m0) (c := k8c0) (by decide +kernel) rfl rfl rfl (by decide +kernel)
set_option maxRecDepth 65536 in
theorem w_c8 : (Jvm.Cond.code ({ cls := "com/example/onceward/onceward/outbox/Publication", name := "published", desc := "()Lcom/example/onceward/onceward/outbox/Publication;" } : Jvm.MethodName) prog_12_method_2_code (0 : Nat) (Option.some (Jvm.ClassFile.FieldType.object "com/example/onceward/onceward/outbox/Publication"))).before args0 about1 = true := code_word (m := ⟨8, 1⟩) (meth := k8m1) (c := k8c1) (by decide +kernel) rfl rfl rfl (by decide +kernel)
set_option maxRecDepth 65536 in
theorem w_c9 : (Jvm.Cond.code ({ cls := "com/example/onceward/onceward/outbox/Publication", name := "state", desc := "()Lcom/example/onceward/onceward/outbox/Publication$State;" } : Jvm.MethodName) prog_12_method_5_code (1 : Nat) (Option.some (Jvm.ClassFile.FieldType.object "com/example/onceward/onceward/outbox/Publication$State"))).before args0 about1 = true := code_word (m := ⟨8, 3⟩) (meth := k8m3) (c := k8c3) (by decide +kernel) rfl rfl rfl (by decide +kernel)
set_option maxRecDepth 65536 in
theorem w_c10 : (Jvm.Cond.code ({ cls := "com/example/onceward/onceward/outbox/Publication", name := "reason", desc := "()Ljava/lang/String;" } : Jvm.MethodName) prog_12_method_6_code (1 : Nat) (Option.some (Jvm.ClassFile.FieldType.object "java/lang/String"))).before args0 about1 = true := code_word (m := ⟨8, 4⟩) (meth := k8m4) (c := k8c4) (by decide +kernel) rfl rfl rfl (by decide +kernel)
set_option maxRecDepth 65536 in
theorem w_c11 : (Jvm.Cond.code ({ cls := "java/lang/String", name := "equals", desc := "(Ljava/lang/Object;)Z" } : Jvm.MethodName) jdk_42_method_66_code (3 : Nat) (Option.some Jvm.ClassFile.FieldType.boolean)).before args0 about1 = true := code_word (m := ⟨7, 2⟩) (meth := k7m2) (c := k7c2) (by decide +kernel) rfl rfl rfl (by decide +kernel)
set_option maxRecDepth 65536 in
theorem w_c12 : (Jvm.Cond.code ({ cls := "java/lang/StringUTF16", name := "compress", desc := "([CII)[B" } : Jvm.MethodName) jdk_52_method_16_code (6 : Nat) (Option.some (Jvm.ClassFile.FieldType.array Jvm.ClassFile.FieldType.byte))).before args0 about1 = true := code_word (m := ⟨12, 2⟩) (meth := k12m2) (c := k12c2) (by decide +kernel) rfl rfl rfl (by decide +kernel)
set_option maxRecDepth 65536 in
theorem w_c13 : (Jvm.Cond.code ({ cls := "java/lang/StringUTF16", name := "compress", desc := "([CI[BII)I" } : Jvm.MethodName) jdk_52_method_21_code (7 : Nat) (Option.some Jvm.ClassFile.FieldType.int)).before args0 about1 = true := code_word (m := ⟨12, 3⟩) (meth := k12m3) (c := k12c3) (by decide +kernel) rfl rfl rfl (by decide +kernel)
set_option maxRecDepth 65536 in
theorem w_c14 : (Jvm.Cond.code ({ cls := "java/lang/StringUTF16", name := "coderFromArrayLen", desc := "([BI)B" } : Jvm.MethodName) jdk_52_method_15_code (2 : Nat) (Option.some Jvm.ClassFile.FieldType.byte)).before args0 about1 = true := code_word (m := ⟨12, 1⟩) (meth := k12m1) (c := k12c1) (by decide +kernel) rfl rfl rfl (by decide +kernel)
def codes1 : List Jvm.Cond := [Jvm.Cond.code x code maxLocals ret, Jvm.Cond.code ({ cls := "com/example/onceward/onceward/outbox/PublicationRefusedPinLaw", name := "draw", desc := "(IIII)Ljava/lang/String;" } : Jvm.MethodName) method_2_code (8 : Nat) (Option.some (Jvm.ClassFile.FieldType.object "java/lang/String")), Jvm.Cond.code ({ cls := "java/lang/String", name := "<init>", desc := "([C)V" } : Jvm.MethodName) jdk_42_method_3_code (2 : Nat) (Option.none : Option Jvm.ClassFile.FieldType), Jvm.Cond.code ({ cls := "java/lang/String", name := "<init>", desc := "([CIILjava/lang/Void;)V" } : Jvm.MethodName) jdk_42_method_149_code (6 : Nat) (Option.none : Option Jvm.ClassFile.FieldType), Jvm.Cond.code ({ cls := "java/lang/Object", name := "<init>", desc := "()V" } : Jvm.MethodName) object_method_1_code (1 : Nat) (Option.none : Option Jvm.ClassFile.FieldType), Jvm.Cond.code ({ cls := "com/example/onceward/onceward/outbox/Publication", name := "refused", desc := "(Ljava/lang/String;)Lcom/example/onceward/onceward/outbox/Publication;" } : Jvm.MethodName) prog_12_method_3_code (1 : Nat) (Option.some (Jvm.ClassFile.FieldType.object "com/example/onceward/onceward/outbox/Publication")), Jvm.Cond.code ({ cls := "java/util/Objects", name := "requireNonNull", desc := "(Ljava/lang/Object;Ljava/lang/String;)Ljava/lang/Object;" } : Jvm.MethodName) jdk_31_method_11_code (2 : Nat) (Option.some (Jvm.ClassFile.FieldType.object "java/lang/Object")), Jvm.Cond.code ({ cls := "com/example/onceward/onceward/outbox/Publication", name := "<init>", desc := "(Lcom/example/onceward/onceward/outbox/Publication$State;Ljava/lang/String;)V" } : Jvm.MethodName) prog_12_method_1_code (3 : Nat) (Option.none : Option Jvm.ClassFile.FieldType), Jvm.Cond.code ({ cls := "com/example/onceward/onceward/outbox/Publication", name := "published", desc := "()Lcom/example/onceward/onceward/outbox/Publication;" } : Jvm.MethodName) prog_12_method_2_code (0 : Nat) (Option.some (Jvm.ClassFile.FieldType.object "com/example/onceward/onceward/outbox/Publication")), Jvm.Cond.code ({ cls := "com/example/onceward/onceward/outbox/Publication", name := "state", desc := "()Lcom/example/onceward/onceward/outbox/Publication$State;" } : Jvm.MethodName) prog_12_method_5_code (1 : Nat) (Option.some (Jvm.ClassFile.FieldType.object "com/example/onceward/onceward/outbox/Publication$State")), Jvm.Cond.code ({ cls := "com/example/onceward/onceward/outbox/Publication", name := "reason", desc := "()Ljava/lang/String;" } : Jvm.MethodName) prog_12_method_6_code (1 : Nat) (Option.some (Jvm.ClassFile.FieldType.object "java/lang/String")), Jvm.Cond.code ({ cls := "java/lang/String", name := "equals", desc := "(Ljava/lang/Object;)Z" } : Jvm.MethodName) jdk_42_method_66_code (3 : Nat) (Option.some Jvm.ClassFile.FieldType.boolean), Jvm.Cond.code ({ cls := "java/lang/StringUTF16", name := "compress", desc := "([CII)[B" } : Jvm.MethodName) jdk_52_method_16_code (6 : Nat) (Option.some (Jvm.ClassFile.FieldType.array Jvm.ClassFile.FieldType.byte)), Jvm.Cond.code ({ cls := "java/lang/StringUTF16", name := "compress", desc := "([CI[BII)I" } : Jvm.MethodName) jdk_52_method_21_code (7 : Nat) (Option.some Jvm.ClassFile.FieldType.int), Jvm.Cond.code ({ cls := "java/lang/StringUTF16", name := "coderFromArrayLen", desc := "([BI)B" } : Jvm.MethodName) jdk_52_method_15_code (2 : Nat) (Option.some Jvm.ClassFile.FieldType.byte)]
set_option maxRecDepth 65536 in
theorem codes_eq : words1.filter isCode = codes1 := rfl
theorem w_codes : ∀ c ∈ words1.filter isCode, c.before args0 about1 = true := by
  rw [codes_eq]
  intro c hc
  simp only [codes1, List.mem_cons, List.not_mem_nil, or_false] at hc
  rcases hc with rfl | rfl | rfl | rfl | rfl | rfl | rfl | rfl | rfl | rfl | rfl | rfl | rfl | rfl | rfl
  · exact w_c0
  · exact w_c1
  · exact w_c2
  · exact w_c3
  · exact w_c4
  · exact w_c5
  · exact w_c6
  · exact w_c7
  · exact w_c8
  · exact w_c9
  · exact w_c10
  · exact w_c11
  · exact w_c12
  · exact w_c13
  · exact w_c14
set_option maxRecDepth 65536 in
theorem w_t1 : (words1.take 24).all (fun c => isCode c || c.before args0 about1) = true := by decide +kernel
set_option maxRecDepth 65536 in
theorem w_t2 : ((words1.drop 24).take 24).all (fun c => isCode c || c.before args0 about1) = true := by decide +kernel
set_option maxRecDepth 65536 in
theorem w_t3 : (((words1.drop 24).drop 24).take 24).all (fun c => isCode c || c.before args0 about1) = true := by decide +kernel
set_option maxRecDepth 65536 in
theorem w_t4 : (((words1.drop 24).drop 24).drop 24).all (fun c => isCode c || c.before args0 about1) = true := by decide +kernel
theorem w_tables : (allAtoms (Jvm.Cond.code x code maxLocals ret :: tables_1)).before args0 about1 = true := by
  rw [allAtoms_all]
  show words1.all (fun c => c.before args0 about1) = true
  refine all_split ?_ w_codes
  rw [← List.take_append_drop 24 words1, List.all_append, w_t1, ← List.take_append_drop 24 (words1.drop 24), List.all_append, w_t2, ← List.take_append_drop 24 ((words1.drop 24).drop 24), List.all_append, w_t3, w_t4]
  rfl
set_option maxRecDepth 65536 in
theorem w_rest : rest_1_c.before args0 about1 = true := by decide +kernel
set_option maxRecDepth 65536 in
theorem w_case : (Jvm.Cond.and given_1 narrow_1).before args0 about1 = true := by decide +kernel
set_option maxRecDepth 65536 in
theorem w_consts : constsHeld consts_1 about1 := Jvm.Lit.constsHeldB_iff.mp (by decide +kernel)
theorem w_applies : (headSpec (Jvm.Cond.code x code maxLocals ret :: tables_1) room_1).applies x e0.platform about1 = true :=
  (Spec.applies_iff w_frames).mpr ⟨w_running, w_runnable, w_alone, w_named, w_hears, w_ripe, w_room, w_tables⟩
theorem atStart : AtStart classFile x code maxLocals ret World_1 tables_1 room_1 Calls_1 rest_1 Pre_1 launch0 p0 e0 about1 theMethod args0 below0 :=
  ⟨lists_1, trivial, launch0.admits_env _ _ _, launch0.least_env, fairChoices_fair.cas, fairChoices_fair.clock, w_frames, w_args, w_heap, w_applies, ⟨w_consts, trivial⟩, w_rest, w_case⟩
end start1
theorem witness_1 : WitnessClaimed_1 := ⟨start1.p0, start1.e0, start1.about1, start1.theMethod, start1.args0, start1.below0, start1.atStart⟩
end Jvm.Pilot.@@N@@
