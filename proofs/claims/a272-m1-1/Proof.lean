import JvmDerived
import JvmDerived.Pilot.@@N@@Statement
import JvmDerived.Pilot.@@N@@Code
set_option linter.unusedVariables false
set_option linter.unusedSimpArgs false
namespace Jvm.RoadKit
open Sem ClassFile Op Lib Jvm.Stand Jvm.Free Jvm.LawKit
section New
variable {p : Program} {l : Launch} {e : Env} {R : Room} {s : State} {m : MethodId} {args : Array Value} {below : List Frame} {meth : Method} {c : Code} {T : State} {locs : List Loc} {cells slots : Nat}
theorem retI (X : Stand p l e R s m args below meth c T locs cells slots) (hx : p.tables.exec = Jvm.exec) {pc : Nat} {Ls : Array Slot} {z : Int32} {rest : List Value} (hret : meth.sig.returnType = some .int) (hd : decode c.code pc = .ok (.ireturn, 1)) {fs : List Frame}
    (hl : ∀ (f : JFrame) (acts : List Action), f.method = m → f.locked = none → f.entered = [] → (doReturn e (T.setTop f) acts (some (.int z))).1 = T.setFrames fs) : Steps p.tables e below (T.setTop (mkF m pc Ls (.int z :: rest))) (T.setFrames fs) := by
  have hm' : T.vm.method? m = some meth := X.method'
  have hn : narrow .int (.int z) = .int z := rfl
  show Steps p.tables e below (T.setTop { method := m, pc := pc, locals := Ls, stack := _ :: rest, locked := none }) _
  jvm_step X.here [X.here.top, hx, hd, hm', hret, hn]
  first | (intro acts; rw [hl _ acts rfl rfl rfl]) | rw [hl _ _ rfl rfl rfl]
  exact Steps.refl _
end New
end Jvm.RoadKit
namespace Jvm.Pilot.@@N@@
open Jvm Jvm.ClassFile Sem Op Lib Jvm.Free Jvm.Stand Jvm.LawKit Jvm.RoadKit Bundle Jvm.Pilot.@@N@@.Jvm.D
set_option maxRecDepth 65536
set_option maxHeartbeats 40000000
theorem ow {Z : State} {a0 : Array Value} (hw : ∀ d ∈ tables_1, d.before a0 Z = true) (i : Nat) {d : Jvm.Cond} (h : tables_1[i]? = some d) : d.before a0 Z = true := hw d (List.mem_of_getElem? h)
abbrev rmk (f c s l : Nat) : Room := { frames := f, cells := c, slots := s, locals := l }
abbrev MetB (l : Launch) (y : MethodName) (bytes : ByteArray) (maxL : Nat) (ret : Option FieldType) (ws : List Jvm.Cond) (rm : Room) (Z : State) (h0 : Heap) (as' : Array Value) (Q : Option Value → Heap → List Loc → Prop) : Prop :=
  MetFree l y (head1 (Jvm.Cond.code y bytes maxL ret :: ws) rm) (fun a U => a = as' ∧ Z.Warmed39 U.vm ∧ U.heap = h0) (fun _ _ _ _ _ => True) (fun _ U o U' => ∃ v L, o = .returned v ∧ Q v U'.heap L ∧ FrameEnd U o U' L rm.cells rm.slots)
theorem own_body {l : Launch} {y : MethodName} {bytes : ByteArray} {maxL : Nat} {ret : Option FieldType} {ws : List Jvm.Cond} {rm : Room} {Z : State} {h0 : Heap} {as' : Array Value} {Q : Option Value → Heap → List Loc → Prop} (hpl : plainFor y = true)
    (body : ∀ (p : Program) (e : Env) (s : State) (m : MethodId) (below : List Frame) (meth : Method) (c : Code) (s₁ : State), p.tables.exec = Jvm.exec → c.code = bytes → c.maxLocals = maxL → s.vm.findClass y.cls = some m.cls → meth.name = y.name → meth.sig.returnType = ret → meth.locks = false → Z.Warmed39 s.vm → Stand p l e rm s m as' below meth c s₁ [] 0 0 → s₁.heap = h0 →
      ∃ s₂ o, Steps p.tables e below (s₁.setTop (entryFrame m as' maxL)) s₂ ∧ s₂.status = .running ∧ Ended s₂ below o ∧ ∃ v L, o = .returned v ∧ Q v s₂.heap L ∧ FrameEnd s o s₂ L rm.cells rm.slots) : MetB l y bytes maxL ret ws rm Z h0 as' Q := by
  refine MetFree.of_bodySF hpl hisR ?_
  intro p e s m args below meth c s₁ Bd hml0 hP hK
  obtain ⟨rfl, hZ, hh⟩ := hP
  exact body p e s m below meth c s₁ Bd.exec Bd.bytes hml0 (findClass_of_methodNamed Bd.named) (name_of_methodNamed Bd.named Bd.method).1 Bd.returns Bd.notSynchronized hZ (Stand.of_body Bd) (by rw [← hh, Bd.state]; rfl)
abbrev MetBW (l : Launch) (y : MethodName) (bytes : ByteArray) (maxL : Nat) (ret : Option FieldType) (ws : List Jvm.Cond) (rm : Room) (Z : State) (h0 : Heap) (as' : Array Value) (Q : Option Value → Heap → List Loc → Prop) : Prop :=
  MetFree l y (head1 (Jvm.Cond.code y bytes maxL ret :: ws) rm) (fun a U => a = as' ∧ Z.Warmed39 U.vm ∧ U.heap = h0) (fun _ _ _ _ _ => True) (fun _ U o U' => ∃ v L, o = .returned v ∧ Q v U'.heap L ∧ ReturnedEndW U o U' L rm.cells rm.slots)
theorem own_bodyW {l : Launch} {y : MethodName} {bytes : ByteArray} {maxL : Nat} {ret : Option FieldType} {ws : List Jvm.Cond} {rm : Room} {Z : State} {h0 : Heap} {as' : Array Value} {Q : Option Value → Heap → List Loc → Prop} (hpl : plainFor y = true)
    (body : ∀ (p : Program) (e : Env) (s : State) (m : MethodId) (below : List Frame) (meth : Method) (c : Code) (s₁ : State), p.tables.exec = Jvm.exec → c.code = bytes → c.maxLocals = maxL → (s.setVm s.vm).vm.findClass y.cls = some m.cls → meth.name = y.name → meth.sig.returnType = ret → meth.locks = false → Z.Warmed39 (s.setVm s.vm).vm → Stand p l e rm (s.setVm s.vm) m as' below meth c s₁ [] 0 0 → s₁.heap = h0 → s.Since s.vm h0.size →
      ∃ s₂ o, Steps p.tables e below (s₁.setTop (entryFrame m as' maxL)) s₂ ∧ s₂.status = .running ∧ Ended s₂ below o ∧ ∃ v L, o = .returned v ∧ Q v s₂.heap L ∧ ReturnedEndW s o s₂ L rm.cells rm.slots) : MetBW l y bytes maxL ret ws rm Z h0 as' Q := by
  refine MetFree.of_bodySF hpl hisR ?_
  intro p e s m args below meth c s₁ Bd hml0 hP hK
  obtain ⟨rfl, hZ, hh⟩ := hP
  exact body p e s m below meth c s₁ Bd.exec Bd.bytes hml0 (findClass_of_methodNamed Bd.named) (name_of_methodNamed Bd.named Bd.method).1 Bd.returns Bd.notSynchronized hZ (Stand.of_body Bd) (by rw [← hh, Bd.state]; rfl) ((State.WarmedH.refl s).since _)
abbrev vr (a : Addr) : Slot := .val (.ref a)
abbrev vi (a : Int32) : Slot := .val (.int a)
abbrev vl (a : Int64) : Slot := .val (.long a)
theorem own_sz {Z : State} {n0 : Nat} {h : Heap} (O : Old Z n0 h) : n0 ≤ h.size := O.1 ▸ O.2.1
theorem own_eq_int {args : Array Value} {first s : State} {o : Option Outcome} {idx : List Nat} {t : Term} {k : Int32} (h : (Jvm.Cond.eq t (.int k)).value args first o s idx = some true) : t.eval args first o idx s = some (.int k) := by
  simp only [Jvm.Cond.value, Term.eval] at h
  cases ht : t.eval args first o idx s with
  | none => simp [ht] at h
  | some x => cases x <;> simp [ht] at h ⊢; exact h
theorem own_eq_long {args : Array Value} {first s : State} {o : Option Outcome} {idx : List Nat} {t : Term} {k : Int64} (h : (Jvm.Cond.eq t (.long k)).value args first o s idx = some true) : t.eval args first o idx s = some (.long k) := by
  simp only [Jvm.Cond.value, Term.eval] at h
  cases ht : t.eval args first o idx s with
  | none => simp [ht] at h
  | some x => cases x <;> simp [ht] at h ⊢; exact h
theorem own_selp {s : State} {args : Array Value} {y : MethodName} {n : Nat} (wi : (Jvm.Cond.instantiable y.cls n).before args s = true) (wp : (Jvm.Cond.privateMethod y).before args s = true) (wm : (Jvm.Cond.instanceMethod y).before args s = true) (hy : y.cls ≠ "java/lang/invoke/MethodHandle" ∧ y.cls ≠ "java/lang/invoke/VarHandle") : (Jvm.Cond.selects y.cls y y).before args s = true := by
  obtain ⟨c, k, hc, hk, -, hni, -, -⟩ := Cond.instantiable_spec wi
  exact selects_self_of_private hc hk (Bool.or_eq_false_iff.mp hni).1 (Cond.privateMethod_at wp) wm hy
theorem own_getR {p : Program} {l : Launch} {e : Env} {R : Room} {s : State} {m : MethodId} {args : Array Value} {below : List Frame} {meth : Method} {c : Code} {T : State} {locs : List Loc} {cells slots : Nat} {Z : State} {a0 : Array Value} {h : Heap} (X : Stand p l e R s m args below meth c T locs cells slots) (hx : p.tables.exec = Jvm.exec) (hZ : Z.Warmed39 s.vm) {own R0 n d : String} {index : Nat} (hown : s.vm.findClass own = some m.cls) (w : (Jvm.Cond.fieldRef own index R0 n d).before a0 Z = true)
    (eT : T.heap = h) {a : Addr} {v : Value} (F : Fld Z h a R0 n d v) {g : JFrame} (hg : g.method = m) {rest : List Value} (hs : g.stack = .ref a :: rest) (hd : decode c.code g.pc = .ok (.getfield index, 3)) : ∃ T', Stand p l e R s m args below meth c T' locs cells slots ∧ T'.heap = h ∧ ∀ target, Steps p.tables e below (T'.setTop { g with pc := g.pc + 3, stack := v :: rest }) target → Steps p.tables e below (T.setTop g) target := by
  obtain ⟨cell, cf, k, i, f, h1, h2, h3, h4, -, -, h7⟩ := F
  have wT := Cond.fieldRef_warmed39 (wtrans hZ X.warmed) w
  obtain ⟨c', k', i', f', q1, q2⟩ := Cond.fieldRef_spec (cur := m.cls) (by show T.vm.findClass own = some m.cls; rw [X.warmed.alike.findClass]; exact hown) wT
  obtain ⟨k'', hf', -⟩ := State.fieldFound?_setVm (s := Z) (wtrans hZ X.warmed).alike h2
  cases hf'.symm.trans q1
  exact ⟨T, X, eT, fun target k => (X.getfieldR hx hg q2 h3 hs (by rw [eT]; exact h1) h4 h7 hd (Steps.refl _)).trans k⟩
theorem own_cloneV {p : Program} {l : Launch} {e : Env} {R : Room} {s : State} {m : MethodId} {args : Array Value} {below : List Frame} {meth : Method} {c : Code} {T : State} {locs : List Loc} {cells slots : Nat} {Z : State} {h : Heap} {a : Addr} {ty : FieldType} (X : Stand p l e R s m args below meth c T locs cells slots) (hx : p.tables.exec = Jvm.exec) (hZ : Z.Warmed39 s.vm) {a0 : Array Value} {own ad : String} {index : Nat} (hown : s.vm.findClass own = some m.cls)
    (w1 : (Jvm.Cond.methodLink own index ⟨ad, "clone", "()Ljava/lang/Object;"⟩).before a0 Z = true) (w2 : (Jvm.Cond.sameMethod ad "java/lang/Object" "clone" "()Ljava/lang/Object;").before a0 Z = true) (w3 : (Jvm.Cond.native ⟨"java/lang/Object", "clone", "()Ljava/lang/Object;"⟩).before a0 Z = true)
    (w4 : (Jvm.Cond.instanceMethod ⟨"java/lang/Object", "clone", "()Ljava/lang/Object;"⟩).before a0 Z = true) (w5 : (Jvm.Cond.selects ad ⟨ad, "clone", "()Ljava/lang/Object;"⟩ ⟨"java/lang/Object", "clone", "()Ljava/lang/Object;"⟩).before a0 Z = true) (w6 : (Jvm.Cond.castable ad "java/lang/Cloneable").before a0 Z = true)
    (eT : T.heap = h) {k : ClassId} {z : Int32} {vs : List Value} {dv : Value} (F : Arv Z h a k ty z vs dv) (E : Exa Z h a ad) {g : JFrame} (hg : g.method = m) (hsize : g.locals.size = c.maxLocals) {rest : List Value} (hst : g.stack = .ref a :: rest) (hd : decode c.code g.pc = .ok (.invokevirtual index, 3))
    (hf : 1 ≤ R.frames) {W cap : Nat} (hW : 2 * g.monitorRoom + (rest.map fun v => v.category).sum ≤ W) (hl : W + 14 ≤ R.locals) (hcap : z.toNatClampNeg ≤ cap) (hc : cells + 1 ≤ R.cells) (hsl : slots + cap ≤ R.slots) :
    ∃ T' h', Stand p l e R s m args below meth c T' locs (cells + 1) (slots + cap) ∧ T'.heap = h' ∧ Ext h h' ∧ Arv Z h' h.size k ty z vs dv ∧ Exa Z h' h.size ad ∧
      ∀ target, Steps p.tables e below (T'.setTop { g with pc := g.pc + 3, stack := .ref h.size :: rest }) target → Steps p.tables e below (T.setTop g) target := by
  obtain ⟨cl, A, q1, S, q3, H, G⟩ := F
  obtain ⟨T', h', X', e', ex, A', E', st⟩ := cloneA X hx hZ hown w1 w2 w3 w4 w5 w6 eT A E (fitC_of A fun i hi v hv => by rw [H i hi] at hv; cases hv; exact G i hi) hg hsize hst hd hf hW hl (by rw [S]; exact hcap) hc hsl
  exact ⟨T', h', X', e', ex, ⟨cloneOf cl, A', q1, S, q3, H, G⟩, E', st⟩
theorem own_cast {Z : State} {h : Heap} {a : Addr} {k : ClassId} {ty : FieldType} {z : Int32} {vs vs' : List Value} {dv : Value} (e : vs = vs') (F : Arv Z h a k ty z vs dv) : Arv Z h a k ty z vs' dv := e ▸ F
theorem own_lc (x : Int64) : lcmpW x x = 0 := (lw_eq x x).mpr rfl
theorem own_b01 {P : Prop} [Decidable P] {y a b : Int32} (h : y = if P then a else b) : y = a ∨ y = b := by rw [h]; split; exact Or.inl rfl; exact Or.inr rfl
abbrev M0 : MethodName := ⟨"java/lang/Math", "max", "(II)I"⟩
abbrev M1 : MethodName := ⟨"java/util/AbstractCollection", "<init>", "()V"⟩
abbrev M2 : MethodName := ⟨"java/util/AbstractList", "<init>", "()V"⟩
abbrev M3 : MethodName := ⟨"java/util/ArrayList", "<init>", "()V"⟩
abbrev M4 : MethodName := ⟨"com/example/loopline/loopline/dispatch/Pheromone", "<init>", "([II)V"⟩
abbrev M5 : MethodName := ⟨"java/lang/Record", "<init>", "()V"⟩
abbrev M6 : MethodName := ⟨"com/example/loopline/loopline/dispatch/Tour", "<init>", "([[ILcom/example/loopline/loopline/engine/Plan;)V"⟩
abbrev M7 : MethodName := ⟨"com/example/loopline/loopline/dispatch/Pheromone", "weight", "(III)J"⟩
abbrev M8 : MethodName := ⟨"java/util/ArrayList", "grow", "(I)[Ljava/lang/Object;"⟩
abbrev M9 : MethodName := ⟨"java/util/ArrayList", "grow", "()[Ljava/lang/Object;"⟩
abbrev M10 : MethodName := ⟨"java/util/ArrayList", "add", "(Ljava/lang/Object;[Ljava/lang/Object;I)V"⟩
abbrev M11 : MethodName := ⟨"java/util/ArrayList", "add", "(Ljava/lang/Object;)Z"⟩
abbrev M12 : MethodName := ⟨"com/example/loopline/loopline/dispatch/Tour", "orders", "()[[I"⟩
abbrev M13 : MethodName := ⟨"com/example/loopline/loopline/dispatch/Pheromone", "lay", "([[II)V"⟩
abbrev M14 : MethodName := ⟨"java/util/ArrayList", "size", "()I"⟩
abbrev M15 : MethodName := ⟨"com/example/loopline/loopline/dispatch/Pheromone", "remember", "(Lcom/example/loopline/loopline/dispatch/Tour;)V"⟩
abbrev M16 : MethodName := ⟨"java/util/List", "add", "(Ljava/lang/Object;)Z"⟩
abbrev M17 : MethodName := ⟨"java/util/List", "size", "()I"⟩
abbrev s0n : String := "java/util/ArrayList"
abbrev s1n : String := "[Ljava/lang/Object;"
abbrev s2n : String := "java/lang/Object"
abbrev s3n : String := "com/example/loopline/loopline/dispatch/Pheromone"
abbrev s4n : String := "java/util/AbstractList"
abbrev s5n : String := "Ljava/util/List;"
abbrev s6n : String := "java/util/List"
abbrev s7n : String := "com/example/loopline/loopline/dispatch/Tour"
abbrev s8n : String := "Lcom/example/loopline/loopline/engine/Plan;"
abbrev s9n : String := "com/example/loopline/loopline/engine/Plan"
def selT (x a b c : Int32) : Int32 := if x = 0 then a else if x = 1 then b else c
def selB (x a b : Int32) : Int32 := if x = 0 then a else b
def inc (x j v : Int32) : Int32 := if x = j then v + 1 else v
abbrev inT (x : Int32) : Prop := x = 0 ∨ x = 1 ∨ x = 2
abbrev inB (x : Int32) : Prop := x = 0 ∨ x = 1
def own_ps (n o : Int32) : Prop := (n = 3 → inT o) ∧ (n = 2 → inB o)
theorem own_inbT {cl : Cell} {j : Int32} (h : inT j) (S : cl.slots.size = (3 : Int32).toNatClampNeg) : ¬ (j < 0 ∨ cl.slots.size ≤ j.toNatClampNeg) := by rcases h with rfl | rfl | rfl <;> exact inb_of S ⟨by decide, by decide⟩
theorem own_inbB {cl : Cell} {j : Int32} (h : inB j) (S : cl.slots.size = (2 : Int32).toNatClampNeg) : ¬ (j < 0 ∨ cl.slots.size ≤ j.toNatClampNeg) := by rcases h with rfl | rfl <;> exact inb_of S ⟨by decide, by decide⟩
theorem own_getT {j a b c : Int32} {dv : Value} (h : inT j) : [Value.int a, .int b, .int c].getD j.toNatClampNeg dv = .int (selT j a b c) := by rcases h with rfl | rfl | rfl <;> rfl
theorem own_getB {j a b : Int32} {dv : Value} (h : inB j) : [Value.int a, .int b].getD j.toNatClampNeg dv = .int (selB j a b) := by rcases h with rfl | rfl <;> rfl
theorem own_ltT {j : Int32} {u v w : Value} (h : inT j) : j.toNatClampNeg < [u, v, w].length := by rcases h with rfl | rfl | rfl <;> exact Nat.le_of_ble_eq_true rfl
theorem own_ltB {j : Int32} {u v : Value} (h : inB j) : j.toNatClampNeg < [u, v].length := by rcases h with rfl | rfl <;> exact Nat.le_of_ble_eq_true rfl
theorem own_setT {j a b c : Int32} (h : inT j) : [Value.int a, .int b, .int c].set j.toNatClampNeg (.int (selT j a b c + 1)) = [.int (inc j 0 a), .int (inc j 1 b), .int (inc j 2 c)] := by rcases h with rfl | rfl | rfl <;> rfl
theorem own_setB {j a b : Int32} (h : inB j) : [Value.int a, .int b].set j.toNatClampNeg (.int (selB j a b + 1)) = [.int (inc j 0 a), .int (inc j 1 b)] := by rcases h with rfl | rfl <;> rfl
theorem own_mx {r a : Int32} (h : r = if a < (2 : Int32) then (2 : Int32) else a) : ¬ r < (2 : Int32) := by rw [h]; split; decide; assumption
theorem own_mx1 {r : Int32} (h : ¬ r < (2 : Int32)) : ¬ r < (1 : Int32) := by
  have e1 : (1 : Int32).toInt = 1 := by decide
  have e2 : (2 : Int32).toInt = 2 := by decide
  rw [Int32.lt_iff_toInt_lt] at *
  omega
theorem own_of {x : Int32} (k : Int) (h : x.toInt = k) {y : Int32} (hy : y.toInt = k) : x = y := Int32.toInt_inj.mp (h.trans hy.symm)
theorem own_mod3 (x : Int32) : inT ((x &&& 2147483647) % 3) := by
  have h1 := c_mask x 2147483647 31 (by decide) (by decide)
  have h2 := (c_irem (x &&& 2147483647) 3 3 (by decide)).1 (by omega)
  have h3 : ((x &&& 2147483647) % 3).toInt = 0 ∨ ((x &&& 2147483647) % 3).toInt = 1 ∨ ((x &&& 2147483647) % 3).toInt = 2 := by omega
  rcases h3 with h | h | h
  · exact Or.inl (own_of _ h (by decide))
  · exact Or.inr (Or.inl (own_of _ h (by decide)))
  · exact Or.inr (Or.inr (own_of _ h (by decide)))
abbrev inS (x : Int32) : Prop := x = 0 ∨ x = 1 ∨ x = 2 ∨ x = 3 ∨ x = 4 ∨ x = 5
theorem own_mod6 (x : Int32) : inS ((x &&& 2147483647) % 6) := by
  have h1 := c_mask x 2147483647 31 (by decide) (by decide)
  have h2 := (c_irem (x &&& 2147483647) 6 6 (by decide)).1 (by omega)
  have h3 : ((x &&& 2147483647) % 6).toInt = 0 ∨ ((x &&& 2147483647) % 6).toInt = 1 ∨ ((x &&& 2147483647) % 6).toInt = 2 ∨ ((x &&& 2147483647) % 6).toInt = 3 ∨ ((x &&& 2147483647) % 6).toInt = 4 ∨ ((x &&& 2147483647) % 6).toInt = 5 := by omega
  rcases h3 with h | h | h | h | h | h
  · exact Or.inl (own_of _ h (by decide))
  · exact Or.inr (Or.inl (own_of _ h (by decide)))
  · exact Or.inr (Or.inr (Or.inl (own_of _ h (by decide))))
  · exact Or.inr (Or.inr (Or.inr (Or.inl (own_of _ h (by decide)))))
  · exact Or.inr (Or.inr (Or.inr (Or.inr (Or.inl (own_of _ h (by decide))))))
  · exact Or.inr (Or.inr (Or.inr (Or.inr (Or.inr (own_of _ h (by decide))))))
theorem own_pos (e n : Int32) : own_ps n ((e &&& 3) % n) := by
  have h1 := c_mask e 3 2 (by decide) (by decide)
  refine ⟨fun q => ?_, fun q => ?_⟩
  · subst q
    have h2 := (c_irem (e &&& 3) 3 3 (by decide)).1 (by omega)
    have h3 : ((e &&& 3) % 3).toInt = 0 ∨ ((e &&& 3) % 3).toInt = 1 ∨ ((e &&& 3) % 3).toInt = 2 := by omega
    rcases h3 with h | h | h
    · exact Or.inl (own_of _ h (by decide))
    · exact Or.inr (Or.inl (own_of _ h (by decide)))
    · exact Or.inr (Or.inr (own_of _ h (by decide)))
  · subst q
    have h2 := (c_irem (e &&& 3) 2 2 (by decide)).1 (by omega)
    have h3 : ((e &&& 3) % 2).toInt = 0 ∨ ((e &&& 3) % 2).toInt = 1 := by omega
    rcases h3 with h | h
    · exact Or.inl (own_of _ h (by decide))
    · exact Or.inr (own_of _ h (by decide))
theorem own_nz {P : Prop} [Decidable P] {n : Int32} (h : n = if P then (3 : Int32) else (2 : Int32)) : n ≠ 0 := by rw [h]; split <;> decide
theorem own_c0T (t : Int32) : selT t 0 0 0 = 0 := by unfold selT; split; rfl; split <;> rfl
theorem own_c0B (t : Int32) : selB t 0 0 = 0 := by unfold selB; split <;> rfl
theorem own_c1T {x t : Int32} (hx : inT x) (ht : inT t) : selT t (inc x 0 0) (inc x 1 0) (inc x 2 0) = if x = t then (1 : Int32) else (0 : Int32) := by
  rcases hx with rfl | rfl | rfl <;> rcases ht with rfl | rfl | rfl <;> decide
theorem own_c1B {x t : Int32} (hx : inB x) (ht : inB t) : selB t (inc x 0 0) (inc x 1 0) = if x = t then (1 : Int32) else (0 : Int32) := by
  rcases hx with rfl | rfl <;> rcases ht with rfl | rfl <;> decide
theorem own_c2T {x y t : Int32} (hx : inT x) (hy : inT y) (ht : inT t) : selT t (inc y 0 (inc x 0 0)) (inc y 1 (inc x 1 0)) (inc y 2 (inc x 2 0)) = if y = t then ((if x = t then (1 : Int32) else (0 : Int32)) + (1 : Int32)) else (if x = t then (1 : Int32) else (0 : Int32)) := by
  rcases hx with rfl | rfl | rfl <;> rcases hy with rfl | rfl | rfl <;> rcases ht with rfl | rfl | rfl <;> decide
theorem own_c2B {x y t : Int32} (hx : inB x) (hy : inB y) (ht : inB t) : selB t (inc y 0 (inc x 0 0)) (inc y 1 (inc x 1 0)) = if y = t then ((if x = t then (1 : Int32) else (0 : Int32)) + (1 : Int32)) else (if x = t then (1 : Int32) else (0 : Int32)) := by
  rcases hx with rfl | rfl <;> rcases hy with rfl | rfl <;> rcases ht with rfl | rfl <;> decide
def SS (Z : State) (wDEFAULTCAPACITY_EMPTY_ELEMENTDATA : Addr) (kwDEFAULTCAPACITY_EMPTY_ELEMENTDATA : ClassId) : Prop := Sta Z Z.heap s0n "DEFAULTCAPACITY_EMPTY_ELEMENTDATA" s1n (.ref wDEFAULTCAPACITY_EMPTY_ELEMENTDATA) ∧ Exa Z Z.heap wDEFAULTCAPACITY_EMPTY_ELEMENTDATA s1n ∧ Arv Z Z.heap wDEFAULTCAPACITY_EMPTY_ELEMENTDATA kwDEFAULTCAPACITY_EMPTY_ELEMENTDATA (.object s2n) (0 : Int32) ([]) .null
theorem ef_rmMax (m : MethodId) (x0 : Int32) (x1 : Int32)  : entryFrame m #[(.int x0), (.int x1)] 2 = mkF m 0 #[(vi x0), (vi x1)] [] := by first | (simp [entryFrame, mkF, argsToLocals, Value.category]; done) | rfl
theorem d1_0 : decode jdk_29_method_65_code 0 = .ok (.iload_n 0, 1) := by decide +kernel
theorem d1_1 : decode jdk_29_method_65_code 1 = .ok (.iload_n 1, 1) := by decide +kernel
theorem d1_2 : decode jdk_29_method_65_code 2 = .ok (.if_icmp .lt 7, 3) := by decide +kernel
theorem d1_9 : decode jdk_29_method_65_code 9 = .ok (.iload_n 1, 1) := by decide +kernel
theorem d1_10 : decode jdk_29_method_65_code 10 = .ok (.ireturn, 1) := by decide +kernel
theorem d1_5 : decode jdk_29_method_65_code 5 = .ok (.iload_n 0, 1) := by decide +kernel
theorem d1_6 : decode jdk_29_method_65_code 6 = .ok (.goto 4, 3) := by decide +kernel
def Q_rmMax (Z : State) (wDEFAULTCAPACITY_EMPTY_ELEMENTDATA : Addr) (kwDEFAULTCAPACITY_EMPTY_ELEMENTDATA : ClassId) (p1 : Int32) (p2 : Int32) (h0 : Heap) (n0 : Nat) (v : Option Value) (h : Heap) (L : List Loc) : Prop := ∃ (r : Int32), v = some (.int r) ∧ Fr n0 L ∧ h = h0 ∧ r = (if p1 < p2 then p2 else p1)
theorem rmMax (l : Launch) (Z : State) (a0 : Array Value) (hw : ∀ d ∈ tables_1, d.before a0 Z = true) (ws : List Jvm.Cond) (wDEFAULTCAPACITY_EMPTY_ELEMENTDATA : Addr) (kwDEFAULTCAPACITY_EMPTY_ELEMENTDATA : ClassId) (hS : SS Z wDEFAULTCAPACITY_EMPTY_ELEMENTDATA kwDEFAULTCAPACITY_EMPTY_ELEMENTDATA) (p1 : Int32) (p2 : Int32) (h0 : Heap) (n0 : Nat) (O0 : Old Z n0 h0)  :
    MetB l M0 jdk_29_method_65_code 2 (some .int) ws (rmk 0 0 0 0) Z h0 #[(.int p1), (.int p2)] (Q_rmMax Z wDEFAULTCAPACITY_EMPTY_ELEMENTDATA kwDEFAULTCAPACITY_EMPTY_ELEMENTDATA p1 p2 h0 n0) := by
  refine own_body (Jvm.Free.JP.mathPlain rfl (by decide +kernel)) ?_
  intro p e s m below meth c s₁ hx hby hml hown hnm hret0 hlk0 hZ X0 e0
  have N0 := Fr.nil n0
  have pre0 : ∀ t, Steps p.tables e below (s₁.setTop (mkF m 0 #[(vi p1), (vi p2)] [])) t → Steps p.tables e below (s₁.setTop (entryFrame m #[(.int p1), (.int p2)] 2)) t := fun t k => castTop (ef_rmMax m p1 p2) k
  have hS0 := hS
  obtain ⟨S_wDEFAULTCAPACITY_EMPTY_ELEMENTDATA, E_wDEFAULTCAPACITY_EMPTY_ELEMENTDATA, V_wDEFAULTCAPACITY_EMPTY_ELEMENTDATA⟩ := hS0
  have pre1 : ∀ t, Steps p.tables e below (s₁.setTop (mkF m 2 #[(vi p1), (vi p2)] [(.int p2), (.int p1)])) t → Steps p.tables e below (s₁.setTop (entryFrame m #[(.int p1), (.int p2)] 2)) t := by
    intro t k
    refine pre0 t ?_
    show Steps p.tables e below (s₁.setTop (mkF m 0 #[(vi p1), (vi p2)] [])) _
    refine XS.iloadN X0.here hx rfl (hb hby d1_0) rfl ?_
    refine XS.iloadN X0.here hx rfl (hb hby d1_1) rfl ?_
    exact k
  rcases Decidable.em (p1 < p2) with hc2 | hc2
  · skip
    obtain ⟨fs, hr, hrun, hended, hW, hsame⟩ := X0.leave (v := some (.int p2)) (fun h => by rw [hret0] at h; cases h)
    refine ⟨_, _, pre1 _ ?_, hrun, hended, _, _, rfl, ?_, ⟨_, rfl⟩, hW, hsame.mono (by decide) (by decide)⟩
    · skip
      refine XS.icmpYes X0.here hx rfl (pc0 := 2) (pc' := 9) rfl (hb hby d1_2) rfl (tlt hc2).1 (by decide) (by decide) ?_
      refine XS.iloadN X0.here hx rfl (hb hby d1_9) rfl ?_
      exact retI X0 hx hret0 (hb hby d1_10) hr
    · show Q_rmMax Z wDEFAULTCAPACITY_EMPTY_ELEMENTDATA kwDEFAULTCAPACITY_EMPTY_ELEMENTDATA p1 p2 h0 n0 _ s₁.heap _
      rw [e0]
      exact ⟨p2, rfl, N0, rfl, (by simp [hc2])⟩
  · skip
    obtain ⟨fs, hr, hrun, hended, hW, hsame⟩ := X0.leave (v := some (.int p1)) (fun h => by rw [hret0] at h; cases h)
    refine ⟨_, _, pre1 _ ?_, hrun, hended, _, _, rfl, ?_, ⟨_, rfl⟩, hW, hsame.mono (by decide) (by decide)⟩
    · skip
      refine XS.icmpNo X0.here hx rfl (hb hby d1_2) rfl (flt hc2).1 ?_
      refine XS.iloadN X0.here hx rfl (hb hby d1_5) rfl ?_
      refine XS.goto X0.here hx rfl (pc0 := 6) (pc' := 10) rfl (hb hby d1_6) (by decide) (by decide) ?_
      exact retI X0 hx hret0 (hb hby d1_10) hr
    · show Q_rmMax Z wDEFAULTCAPACITY_EMPTY_ELEMENTDATA kwDEFAULTCAPACITY_EMPTY_ELEMENTDATA p1 p2 h0 n0 _ s₁.heap _
      rw [e0]
      exact ⟨p1, rfl, N0, rfl, (by simp [hc2])⟩
theorem ef_rm0 (m : MethodId) (x0 : Int32) (x1 : Int32) (x2 : Int32) (x3 : Int32) (x4 : Int32)  : entryFrame m #[(.int x0), (.int x1), (.int x2), (.int x3), (.int x4)] maxLocals = mkF m 0 #[(vi x0), (vi x1), (vi x2), (vi x3), (vi x4), .unset, .unset, .unset, .unset, .unset, .unset, .unset, .unset, .unset, .unset, .unset, .unset, .unset, .unset, .unset, .unset] [] := by first | (simp [entryFrame, mkF, argsToLocals, Value.category, maxLocals]; done) | rfl
theorem pn_com_example_loopline_loopline_dispatch_PheromoneWeightPinLaw : plainName "com/example/loopline/loopline/dispatch/PheromoneWeightPinLaw" = true := by first | (simp [plainName, overriddenIn]; done) | decide +kernel
theorem pd_0 : parseMethodDescriptor "(II)I" = some ⟨[.int, .int], some .int⟩ := by decide +kernel
theorem ef_au2_0 (m : MethodId) (x0 : Addr) (x1 : Addr) (x2 : Int32)  : entryFrame m #[(.ref x0), (.ref x1), (.int x2)] 4 = mkF m 0 #[(vr x0), (vr x1), (vi x2), .unset] [] := by first | (simp [entryFrame, mkF, argsToLocals, Value.category]; done) | rfl
theorem pn_com_example_loopline_loopline_dispatch_Pheromone : plainName "com/example/loopline/loopline/dispatch/Pheromone" = true := by first | (simp [plainName, overriddenIn]; done) | decide +kernel
theorem d2_0 : decode prog_34_method_1_code 0 = .ok (.aload_n 0, 1) := by decide +kernel
theorem d2_1 : decode prog_34_method_1_code 1 = .ok (.invokespecial 1, 3) := by decide +kernel
theorem d2_4 : decode prog_34_method_1_code 4 = .ok (.aload_n 0, 1) := by decide +kernel
theorem d2_5 : decode prog_34_method_1_code 5 = .ok (.new 7, 3) := by decide +kernel
theorem d2_8 : decode prog_34_method_1_code 8 = .ok (.dup, 1) := by decide +kernel
theorem d2_9 : decode prog_34_method_1_code 9 = .ok (.invokespecial 9, 3) := by decide +kernel
theorem ef_au4_0 (m : MethodId) (x0 : Addr)  : entryFrame m #[(.ref x0)] 1 = mkF m 0 #[(vr x0)] [] := by first | (simp [entryFrame, mkF, argsToLocals, Value.category]; done) | rfl
theorem pn_java_util_ArrayList : plainName "java/util/ArrayList" = true := by first | (simp [plainName, overriddenIn]; done) | decide +kernel
theorem d4_0 : decode jdk_38_method_2_code 0 = .ok (.aload_n 0, 1) := by decide +kernel
theorem d4_1 : decode jdk_38_method_2_code 1 = .ok (.invokespecial 1, 3) := by decide +kernel
theorem ef_au5_0 (m : MethodId) (x0 : Addr)  : entryFrame m #[(.ref x0)] 1 = mkF m 0 #[(vr x0)] [] := by first | (simp [entryFrame, mkF, argsToLocals, Value.category]; done) | rfl
theorem pn_java_util_AbstractList : plainName "java/util/AbstractList" = true := by first | (simp [plainName, overriddenIn]; done) | decide +kernel
theorem d5_0 : decode jdk_39_method_1_code 0 = .ok (.aload_n 0, 1) := by decide +kernel
theorem d5_1 : decode jdk_39_method_1_code 1 = .ok (.invokespecial 1, 3) := by decide +kernel
theorem ef_au6_0 (m : MethodId) (x0 : Addr)  : entryFrame m #[(.ref x0)] 1 = mkF m 0 #[(vr x0)] [] := by first | (simp [entryFrame, mkF, argsToLocals, Value.category]; done) | rfl
theorem pn_java_util_AbstractCollection : plainName "java/util/AbstractCollection" = true := by first | (simp [plainName, overriddenIn]; done) | decide +kernel
theorem d6_0 : decode jdk_22_method_1_code 0 = .ok (.aload_n 0, 1) := by decide +kernel
theorem d6_1 : decode jdk_22_method_1_code 1 = .ok (.invokespecial 1, 3) := by decide +kernel
theorem d6_4 : decode jdk_22_method_1_code 4 = .ok (.return_, 1) := by decide +kernel
def Q_au6_0 (Z : State) (wDEFAULTCAPACITY_EMPTY_ELEMENTDATA : Addr) (kwDEFAULTCAPACITY_EMPTY_ELEMENTDATA : ClassId) (pa1 : Addr) (h0 : Heap) (n0 : Nat) (v : Option Value) (h : Heap) (L : List Loc) : Prop := v = none ∧ Fr n0 L ∧ h = h0
theorem au6_0 (l : Launch) (Z : State) (a0 : Array Value) (hw : ∀ d ∈ tables_1, d.before a0 Z = true) (ws : List Jvm.Cond) (wDEFAULTCAPACITY_EMPTY_ELEMENTDATA : Addr) (kwDEFAULTCAPACITY_EMPTY_ELEMENTDATA : ClassId) (hS : SS Z wDEFAULTCAPACITY_EMPTY_ELEMENTDATA kwDEFAULTCAPACITY_EMPTY_ELEMENTDATA) (pa1 : Addr) (h0 : Heap) (n0 : Nat) (O0 : Old Z n0 h0)  :
    MetB l M1 jdk_22_method_1_code 1 none ws (rmk 1 0 0 12) Z h0 #[(.ref pa1)] (Q_au6_0 Z wDEFAULTCAPACITY_EMPTY_ELEMENTDATA kwDEFAULTCAPACITY_EMPTY_ELEMENTDATA pa1 h0 n0) := by
  refine own_body (plainFor_of_name pn_java_util_AbstractCollection) ?_
  intro p e s m below meth c s₁ hx hby hml hown hnm hret0 hlk0 hZ X0 e0
  have N0 := Fr.nil n0
  have pre0 : ∀ t, Steps p.tables e below (s₁.setTop (mkF m 0 #[(vr pa1)] [])) t → Steps p.tables e below (s₁.setTop (entryFrame m #[(.ref pa1)] 1)) t := fun t k => castTop (ef_au6_0 m pa1) k
  have hS0 := hS
  obtain ⟨S_wDEFAULTCAPACITY_EMPTY_ELEMENTDATA, E_wDEFAULTCAPACITY_EMPTY_ELEMENTDATA, V_wDEFAULTCAPACITY_EMPTY_ELEMENTDATA⟩ := hS0
  obtain ⟨T1, X1, e1, st1⟩ := initO X0 hx hZ hown (ow hw 36 rfl) (ow hw 16 rfl) (ow hw 17 rfl) e0 (g := (mkF m 1 #[(vr pa1)] [(.ref pa1)])) rfl (by rw [hml]; rfl) rfl (hb hby d6_1) (by decide) (W := 0) (by show 2 * 0 + _ ≤ _; exact Nat.le_of_eq rfl) (by decide)
  obtain ⟨fs, hr, hrun, hended, hW, hsame⟩ := X1.leave (v := none) (fun _ => rfl)
  refine ⟨_, _, pre0 _ ?_, hrun, hended, _, _, rfl, ?_, ⟨_, rfl⟩, hW, hsame.mono (by decide) (by decide)⟩
  · skip
    show Steps p.tables e below (s₁.setTop (mkF m 0 #[(vr pa1)] [])) _
    refine XS.aloadN X0.here hx rfl (hb hby d6_0) rfl rfl ?_
    refine st1 _ ?_
    exact X1.returnOut hx hret0 (hb hby d6_4) hr
  · show Q_au6_0 Z wDEFAULTCAPACITY_EMPTY_ELEMENTDATA kwDEFAULTCAPACITY_EMPTY_ELEMENTDATA pa1 h0 n0 _ T1.heap _
    rw [e1]
    exact ⟨rfl, N0, rfl⟩
theorem pd_1 : parseMethodDescriptor "()V" = some ⟨[], none⟩ := by decide +kernel
theorem d5_4 : decode jdk_39_method_1_code 4 = .ok (.aload_n 0, 1) := by decide +kernel
theorem d5_5 : decode jdk_39_method_1_code 5 = .ok (.iconst 0, 1) := by decide +kernel
theorem d5_6 : decode jdk_39_method_1_code 6 = .ok (.putfield 7, 3) := by decide +kernel
theorem d5_9 : decode jdk_39_method_1_code 9 = .ok (.return_, 1) := by decide +kernel
def Q_au5_0 (Z : State) (wDEFAULTCAPACITY_EMPTY_ELEMENTDATA : Addr) (kwDEFAULTCAPACITY_EMPTY_ELEMENTDATA : ClassId) (pa1 : Addr) (h0 : Heap) (n0 : Nat) (v : Option Value) (h : Heap) (L : List Loc) : Prop := v = none ∧ Fr n0 L ∧ Keep h0 h [pa1] ∧ Exa Z h pa1 s0n ∧ Fld Z h pa1 s4n "modCount" "I" (.int 0) ∧ Fld Z h pa1 s0n "elementData" s1n .null ∧ Fld Z h pa1 s0n "size" "I" (.int 0)
theorem au5_0 (l : Launch) (Z : State) (a0 : Array Value) (hw : ∀ d ∈ tables_1, d.before a0 Z = true) (ws : List Jvm.Cond) (wDEFAULTCAPACITY_EMPTY_ELEMENTDATA : Addr) (kwDEFAULTCAPACITY_EMPTY_ELEMENTDATA : ClassId) (hS : SS Z wDEFAULTCAPACITY_EMPTY_ELEMENTDATA kwDEFAULTCAPACITY_EMPTY_ELEMENTDATA) (pa1 : Addr) (h0 : Heap) (n0 : Nat) (O0 : Old Z n0 h0) (P0 : Exa Z h0 pa1 s0n) (P1 : Fld Z h0 pa1 s4n "modCount" "I" (.int 0)) (P2 : Fld Z h0 pa1 s0n "elementData" s1n .null) (P3 : Fld Z h0 pa1 s0n "size" "I" (.int 0)) (P4 : n0 ≤ pa1) :
    MetB l M2 jdk_39_method_1_code 1 none ws (rmk 2 0 0 24) Z h0 #[(.ref pa1)] (Q_au5_0 Z wDEFAULTCAPACITY_EMPTY_ELEMENTDATA kwDEFAULTCAPACITY_EMPTY_ELEMENTDATA pa1 h0 n0) := by
  refine own_body (plainFor_of_name pn_java_util_AbstractList) ?_
  intro p e s m below meth c s₁ hx hby hml hown hnm hret0 hlk0 hZ X0 e0
  have N0 := Fr.nil n0
  have pre0 : ∀ t, Steps p.tables e below (s₁.setTop (mkF m 0 #[(vr pa1)] [])) t → Steps p.tables e below (s₁.setTop (entryFrame m #[(.ref pa1)] 1)) t := fun t k => castTop (ef_au5_0 m pa1) k
  have K0 := Keep.refl h0 [pa1]
  have hS0 := hS
  obtain ⟨S_wDEFAULTCAPACITY_EMPTY_ELEMENTDATA, E_wDEFAULTCAPACITY_EMPTY_ELEMENTDATA, V_wDEFAULTCAPACITY_EMPTY_ELEMENTDATA⟩ := hS0
  obtain ⟨_, _, ⟨T1, L1, k1, n1⟩, -, X1, ⟨Lc1, hQ1, l1, y1, z1⟩, st1⟩ := X0.specialBack hx (y := M1) rfl hown (mvT hZ (ow hw 30 rfl)) (mvT hZ (ow hw 31 rfl)) (mvT hZ (ow hw 35 rfl)) (by decide) (backOf (W := 0) (au6_0 l Z a0 hw [] wDEFAULTCAPACITY_EMPTY_ELEMENTDATA kwDEFAULTCAPACITY_EMPTY_ELEMENTDATA hS pa1 h0 n0 O0 ) hZ (ow hw 35 rfl) (ow hw 34 rfl) (by decide) (by decide)) (g := (mkF m 1 #[(vr pa1)] [(.ref pa1)])) rfl (by rw [hml]; rfl) (Steps.refl _) (a := pa1) (argsL := []) (rest := []) (lenOf pd_1 rfl) rfl (by show 2 * 0 + _ ≤ _; exact Nat.le_of_eq rfl) (hb hby d5_1) (fun _ _ => ⟨rfl, e0, (by decide : 0 + 0 ≤ _), (by decide : 0 + 0 ≤ _)⟩)
  dsimp only [Pt.U, Pt.locs, Pt.cells, Pt.slots] at X1 l1 y1 z1 st1 hQ1
  subst l1 y1 z1
  obtain ⟨rfl, Nq1, K1q⟩ := hQ1
  have N1 := Fr.app N0 Nq1
  obtain ⟨T2, h2, X2, e2, W2, st2⟩ := putF X1 hx hZ hown (host := "") (Or.inl (ow hw 37 rfl)) Via.refl K1q P1 P0 (Or.inl (ow hw 38 rfl)) (ow hw 19 rfl) (ty := .int) (by decide) rfl rfl (g := (mkF m 6 #[(vr pa1)] [(.int 0), (.ref pa1)])) rfl rfl (hb hby d5_6)
  have N2 := Fr.snoc X2 N1 P4
  have O3 : Old Z n0 h2 := O0.wr W2 P4
  have K3 : Keep h0 h2 [pa1] := K0.wr W2 (Or.inl (List.mem_of_getElem? (i := 0) rfl))
  have Fw2 : Fld Z h2 pa1 s4n "modCount" "I" (.int 0) := P1.same W2
  have f4 : Exa Z h2 pa1 s0n := (P0.wr W2)
  have f5 : Fld Z h2 pa1 s0n "elementData" s1n .null := (P2.other W2 (Or.inr (slot_ne (Or.inl (ow hw 41 rfl)) (Or.inl (ow hw 38 rfl)) (by decide) (t := (.array (.object s2n))) (t' := .int) (by decide) (by decide))))
  have f6 : Fld Z h2 pa1 s0n "size" "I" (.int 0) := (P3.other W2 (Or.inr (slot_ne (Or.inl (ow hw 94 rfl)) (Or.inl (ow hw 38 rfl)) (by decide) (t := .int) (t' := .int) (by decide) (by decide))))
  obtain ⟨fs, hr, hrun, hended, hW, hsame⟩ := X2.leave (v := none) (fun _ => rfl)
  refine ⟨_, _, pre0 _ ?_, hrun, hended, _, _, rfl, ?_, ⟨_, rfl⟩, hW, hsame.mono (by decide) (by decide)⟩
  · skip
    show Steps p.tables e below (s₁.setTop (mkF m 0 #[(vr pa1)] [])) _
    refine XS.aloadN X0.here hx rfl (hb hby d5_0) rfl rfl ?_
    refine st1.trans ?_
    refine XS.aloadN X1.here hx rfl (hb hby d5_4) rfl rfl ?_
    refine XS.iconst X1.here hx rfl (hb hby d5_5) ?_
    refine st2 _ ?_
    exact X2.returnOut hx hret0 (hb hby d5_9) hr
  · show Q_au5_0 Z wDEFAULTCAPACITY_EMPTY_ELEMENTDATA kwDEFAULTCAPACITY_EMPTY_ELEMENTDATA pa1 h0 n0 _ T2.heap _
    rw [e2]
    exact ⟨rfl, N2, K3, f4, Fw2, f5, f6⟩
theorem d4_4 : decode jdk_38_method_2_code 4 = .ok (.aload_n 0, 1) := by decide +kernel
theorem d4_5 : decode jdk_38_method_2_code 5 = .ok (.getstatic 39, 3) := by decide +kernel
theorem d4_8 : decode jdk_38_method_2_code 8 = .ok (.putfield 9, 3) := by decide +kernel
theorem d4_11 : decode jdk_38_method_2_code 11 = .ok (.return_, 1) := by decide +kernel
def Q_au4_0 (Z : State) (wDEFAULTCAPACITY_EMPTY_ELEMENTDATA : Addr) (kwDEFAULTCAPACITY_EMPTY_ELEMENTDATA : ClassId) (pa1 : Addr) (h0 : Heap) (n0 : Nat) (v : Option Value) (h : Heap) (L : List Loc) : Prop := v = none ∧ Fr n0 L ∧ Keep h0 h [pa1] ∧ Exa Z h pa1 s0n ∧ Fld Z h pa1 s4n "modCount" "I" (.int 0) ∧ Fld Z h pa1 s0n "elementData" s1n (.ref wDEFAULTCAPACITY_EMPTY_ELEMENTDATA) ∧ Fld Z h pa1 s0n "size" "I" (.int 0)
theorem au4_0 (l : Launch) (Z : State) (a0 : Array Value) (hw : ∀ d ∈ tables_1, d.before a0 Z = true) (ws : List Jvm.Cond) (wDEFAULTCAPACITY_EMPTY_ELEMENTDATA : Addr) (kwDEFAULTCAPACITY_EMPTY_ELEMENTDATA : ClassId) (hS : SS Z wDEFAULTCAPACITY_EMPTY_ELEMENTDATA kwDEFAULTCAPACITY_EMPTY_ELEMENTDATA) (pa1 : Addr) (h0 : Heap) (n0 : Nat) (O0 : Old Z n0 h0) (P0 : Exa Z h0 pa1 s0n) (P1 : Fld Z h0 pa1 s4n "modCount" "I" (.int 0)) (P2 : Fld Z h0 pa1 s0n "elementData" s1n .null) (P3 : Fld Z h0 pa1 s0n "size" "I" (.int 0)) (P4 : n0 ≤ pa1) :
    MetB l M3 jdk_38_method_2_code 1 none ws (rmk 3 0 0 36) Z h0 #[(.ref pa1)] (Q_au4_0 Z wDEFAULTCAPACITY_EMPTY_ELEMENTDATA kwDEFAULTCAPACITY_EMPTY_ELEMENTDATA pa1 h0 n0) := by
  refine own_body (plainFor_of_name pn_java_util_ArrayList) ?_
  intro p e s m below meth c s₁ hx hby hml hown hnm hret0 hlk0 hZ X0 e0
  have N0 := Fr.nil n0
  have pre0 : ∀ t, Steps p.tables e below (s₁.setTop (mkF m 0 #[(vr pa1)] [])) t → Steps p.tables e below (s₁.setTop (entryFrame m #[(.ref pa1)] 1)) t := fun t k => castTop (ef_au4_0 m pa1) k
  have K0 := Keep.refl h0 [pa1]
  have hS0 := hS
  obtain ⟨S_wDEFAULTCAPACITY_EMPTY_ELEMENTDATA, E_wDEFAULTCAPACITY_EMPTY_ELEMENTDATA, V_wDEFAULTCAPACITY_EMPTY_ELEMENTDATA⟩ := hS0
  obtain ⟨_, _, ⟨T1, L1, k1, n1⟩, -, X1, ⟨Lc1, hQ1, l1, y1, z1⟩, st1⟩ := X0.specialBack hx (y := M2) rfl hown (mvT hZ (ow hw 24 rfl)) (mvT hZ (ow hw 25 rfl)) (mvT hZ (ow hw 29 rfl)) (by decide) (backOf (W := 0) (au5_0 l Z a0 hw [] wDEFAULTCAPACITY_EMPTY_ELEMENTDATA kwDEFAULTCAPACITY_EMPTY_ELEMENTDATA hS pa1 h0 n0 O0 P0 P1 P2 P3 P4) hZ (ow hw 29 rfl) (ow hw 28 rfl) (by decide) (by decide)) (g := (mkF m 1 #[(vr pa1)] [(.ref pa1)])) rfl (by rw [hml]; rfl) (Steps.refl _) (a := pa1) (argsL := []) (rest := []) (lenOf pd_1 rfl) rfl (by show 2 * 0 + _ ≤ _; exact Nat.le_of_eq rfl) (hb hby d4_1) (fun _ _ => ⟨rfl, e0, (by decide : 0 + 0 ≤ _), (by decide : 0 + 0 ≤ _)⟩)
  dsimp only [Pt.U, Pt.locs, Pt.cells, Pt.slots] at X1 l1 y1 z1 st1 hQ1
  subst l1 y1 z1
  obtain ⟨rfl, Nq1, K1q, p1_0, p1_1, p1_2, p1_3⟩ := hQ1
  have N1 := Fr.app N0 Nq1
  have O2 : Old Z n0 T1.heap := O0.keep K1q (allS P4 all0)
  have K2 : Keep h0 T1.heap [pa1] := K0.trans K1q (allS (Or.inl (List.mem_of_getElem? (i := 0) rfl)) all0)
  obtain ⟨T3, X3, e3, st3⟩ := getS2 X1 hx hZ hown (host := "") (Or.inl (ow hw 39 rfl)) Via.refl rfl (S_wDEFAULTCAPACITY_EMPTY_ELEMENTDATA.ext O2.2) (g := (mkF m 5 #[(vr pa1)] [(.ref pa1)])) rfl (hb hby d4_5)
  obtain ⟨T4, h4, X4, e4, W4, st4⟩ := putF X3 hx hZ hown (host := "") (Or.inl (ow hw 40 rfl)) Via.refl e3 p1_2 p1_0 (Or.inl (ow hw 41 rfl)) (ow hw 19 rfl) (ty := (.array (.object s2n))) (by decide) rfl rfl (g := (mkF m 8 #[(vr pa1)] [(.ref wDEFAULTCAPACITY_EMPTY_ELEMENTDATA), (.ref pa1)])) rfl rfl (hb hby d4_8)
  have N4 := Fr.snoc X4 N1 P4
  have O5 : Old Z n0 h4 := O2.wr W4 P4
  have K5 : Keep h0 h4 [pa1] := K2.wr W4 (Or.inl (List.mem_of_getElem? (i := 0) rfl))
  have Fw4 : Fld Z h4 pa1 s0n "elementData" s1n (.ref wDEFAULTCAPACITY_EMPTY_ELEMENTDATA) := p1_2.same W4
  have f6 : Exa Z h4 pa1 s0n := (p1_0.wr W4)
  have f7 : Fld Z h4 pa1 s4n "modCount" "I" (.int 0) := (p1_1.other W4 (Or.inr (slot_ne (Or.inl (ow hw 38 rfl)) (Or.inl (ow hw 41 rfl)) (by decide) (t := .int) (t' := (.array (.object s2n))) (by decide) (by decide))))
  have f8 : Fld Z h4 pa1 s0n "size" "I" (.int 0) := (p1_3.other W4 (Or.inr (slot_ne (Or.inl (ow hw 94 rfl)) (Or.inl (ow hw 41 rfl)) (by decide) (t := .int) (t' := (.array (.object s2n))) (by decide) (by decide))))
  obtain ⟨fs, hr, hrun, hended, hW, hsame⟩ := X4.leave (v := none) (fun _ => rfl)
  refine ⟨_, _, pre0 _ ?_, hrun, hended, _, _, rfl, ?_, ⟨_, rfl⟩, hW, hsame.mono (by decide) (by decide)⟩
  · skip
    show Steps p.tables e below (s₁.setTop (mkF m 0 #[(vr pa1)] [])) _
    refine XS.aloadN X0.here hx rfl (hb hby d4_0) rfl rfl ?_
    refine st1.trans ?_
    refine XS.aloadN X1.here hx rfl (hb hby d4_4) rfl rfl ?_
    refine st3 _ ?_
    refine st4 _ ?_
    exact X4.returnOut hx hret0 (hb hby d4_11) hr
  · show Q_au4_0 Z wDEFAULTCAPACITY_EMPTY_ELEMENTDATA kwDEFAULTCAPACITY_EMPTY_ELEMENTDATA pa1 h0 n0 _ T4.heap _
    rw [e4]
    exact ⟨rfl, N4, K5, f6, f7, Fw4, f8⟩
theorem d2_12 : decode prog_34_method_1_code 12 = .ok (.putfield 10, 3) := by decide +kernel
theorem d2_15 : decode prog_34_method_1_code 15 = .ok (.aload_n 0, 1) := by decide +kernel
theorem d2_16 : decode prog_34_method_1_code 16 = .ok (.aload_n 1, 1) := by decide +kernel
theorem d2_17 : decode prog_34_method_1_code 17 = .ok (.invokevirtual 16, 3) := by decide +kernel
theorem d2_20 : decode prog_34_method_1_code 20 = .ok (.checkcast 17, 3) := by decide +kernel
theorem d2_23 : decode prog_34_method_1_code 23 = .ok (.putfield 22, 3) := by decide +kernel
theorem d2_26 : decode prog_34_method_1_code 26 = .ok (.aload_n 0, 1) := by decide +kernel
theorem d2_27 : decode prog_34_method_1_code 27 = .ok (.iload_n 2, 1) := by decide +kernel
theorem d2_28 : decode prog_34_method_1_code 28 = .ok (.putfield 25, 3) := by decide +kernel
theorem d2_31 : decode prog_34_method_1_code 31 = .ok (.aload_n 0, 1) := by decide +kernel
theorem d2_32 : decode prog_34_method_1_code 32 = .ok (.aload_n 1, 1) := by decide +kernel
theorem d2_33 : decode prog_34_method_1_code 33 = .ok (.arraylength, 1) := by decide +kernel
theorem d2_34 : decode prog_34_method_1_code 34 = .ok (.anewarray 29, 3) := by decide +kernel
theorem d2_37 : decode prog_34_method_1_code 37 = .ok (.putfield 31, 3) := by decide +kernel
theorem d2_40 : decode prog_34_method_1_code 40 = .ok (.iconst 0, 1) := by decide +kernel
theorem d2_41 : decode prog_34_method_1_code 41 = .ok (.istore_n 3, 1) := by decide +kernel
theorem d2_42 : decode prog_34_method_1_code 42 = .ok (.iload_n 3, 1) := by decide +kernel
theorem d2_43 : decode prog_34_method_1_code 43 = .ok (.aload_n 1, 1) := by decide +kernel
theorem d2_44 : decode prog_34_method_1_code 44 = .ok (.arraylength, 1) := by decide +kernel
theorem d2_45 : decode prog_34_method_1_code 45 = .ok (.if_icmp .ge 25, 3) := by decide +kernel
theorem d2_48 : decode prog_34_method_1_code 48 = .ok (.aload_n 0, 1) := by decide +kernel
theorem d2_49 : decode prog_34_method_1_code 49 = .ok (.getfield 31, 3) := by decide +kernel
theorem d2_52 : decode prog_34_method_1_code 52 = .ok (.iload_n 3, 1) := by decide +kernel
theorem d2_53 : decode prog_34_method_1_code 53 = .ok (.aload_n 1, 1) := by decide +kernel
theorem d2_54 : decode prog_34_method_1_code 54 = .ok (.iload_n 3, 1) := by decide +kernel
theorem d2_55 : decode prog_34_method_1_code 55 = .ok (.iaload, 1) := by decide +kernel
theorem d2_56 : decode prog_34_method_1_code 56 = .ok (.aload_n 1, 1) := by decide +kernel
theorem d2_57 : decode prog_34_method_1_code 57 = .ok (.iload_n 3, 1) := by decide +kernel
theorem d2_58 : decode prog_34_method_1_code 58 = .ok (.iaload, 1) := by decide +kernel
theorem d2_59 : decode prog_34_method_1_code 59 = .ok (.multianewarray 29 2, 4) := by decide +kernel
theorem d2_63 : decode prog_34_method_1_code 63 = .ok (.aastore, 1) := by decide +kernel
theorem d2_64 : decode prog_34_method_1_code 64 = .ok (.iinc 3 1, 3) := by decide +kernel
theorem d2_67 : decode prog_34_method_1_code 67 = .ok (.goto (-25), 3) := by decide +kernel
theorem d2_70 : decode prog_34_method_1_code 70 = .ok (.return_, 1) := by decide +kernel
def Q_au2_0 (Z : State) (wDEFAULTCAPACITY_EMPTY_ELEMENTDATA : Addr) (kwDEFAULTCAPACITY_EMPTY_ELEMENTDATA : ClassId) (pa1 : Addr) (pa2 : Addr) (pi3 : Int32) (pk4 : ClassId) (h0 : Heap) (n0 : Nat) (v : Option Value) (h : Heap) (L : List Loc) : Prop := ∃ (e1 : Addr) (e2 : Addr) (e3 : Addr) (e4 : ClassId) (e5 : Addr) (e6 : Addr) (e7 : ClassId) (e8 : Addr) (e9 : Addr) (e10 : Addr) (e11 : ClassId) (e12 : Addr) (e13 : Addr) (e14 : ClassId) (e15 : ClassId), v = none ∧ Fr n0 L ∧ Keep h0 h [pa1] ∧ Exa Z h pa1 s3n ∧ Fld Z h pa1 s3n "counts" "[[[I" (.ref e1) ∧ Fld Z h pa1 s3n "memory" "I" (.int pi3) ∧ Fld Z h pa1 s3n "tours" s5n (.ref e2) ∧ Fld Z h pa1 s3n "trains" "[I" (.ref e3) ∧ h0.size ≤ e1 ∧ Exa Z h e1 "[[[I" ∧ Arv Z h e1 e4 (.array (.array .int)) (2 : Int32) ([(.ref e5), (.ref e6)]) .null ∧ OvrA Z e4 (.array .int) "[[I" ∧ h0.size ≤ e2 ∧ Exa Z h e2 s0n ∧ Fld Z h e2 s4n "modCount" "I" (.int 0) ∧ Fld Z h e2 s0n "elementData" s1n (.ref wDEFAULTCAPACITY_EMPTY_ELEMENTDATA) ∧ Fld Z h e2 s0n "size" "I" (.int 0) ∧ h0.size ≤ e3 ∧ Exa Z h e3 "[I" ∧ Arv Z h e3 pk4 .int (2 : Int32) ([(.int 3), (.int 2)]) (.int 0) ∧ h0.size ≤ e5 ∧ Exa Z h e5 "[[I" ∧ Arv Z h e5 e7 (.array .int) (3 : Int32) ([(.ref e8), (.ref e9), (.ref e10)]) .null ∧ OvrA Z e7 .int "[I" ∧ h0.size ≤ e6 ∧ Exa Z h e6 "[[I" ∧ Arv Z h e6 e11 (.array .int) (2 : Int32) ([(.ref e12), (.ref e13)]) .null ∧ OvrA Z e11 .int "[I" ∧ h0.size ≤ e8 ∧ Exa Z h e8 "[I" ∧ Arv Z h e8 e14 .int (3 : Int32) ([(.int 0), (.int 0), (.int 0)]) (.int 0) ∧ h0.size ≤ e9 ∧ Exa Z h e9 "[I" ∧ Arv Z h e9 e14 .int (3 : Int32) ([(.int 0), (.int 0), (.int 0)]) (.int 0) ∧ h0.size ≤ e10 ∧ Exa Z h e10 "[I" ∧ Arv Z h e10 e14 .int (3 : Int32) ([(.int 0), (.int 0), (.int 0)]) (.int 0) ∧ h0.size ≤ e12 ∧ Exa Z h e12 "[I" ∧ Arv Z h e12 e15 .int (2 : Int32) ([(.int 0), (.int 0)]) (.int 0) ∧ h0.size ≤ e13 ∧ Exa Z h e13 "[I" ∧ Arv Z h e13 e15 .int (2 : Int32) ([(.int 0), (.int 0)]) (.int 0) ∧ e1 ≠ e2 ∧ e1 ≠ e3 ∧ e1 ≠ e5 ∧ e1 ≠ e6 ∧ e1 ≠ e8 ∧ e1 ≠ e9 ∧ e1 ≠ e10 ∧ e1 ≠ e12 ∧ e1 ≠ e13 ∧ e2 ≠ e3 ∧ e2 ≠ e5 ∧ e2 ≠ e6 ∧ e2 ≠ e8 ∧ e2 ≠ e9 ∧ e2 ≠ e10 ∧ e2 ≠ e12 ∧ e2 ≠ e13 ∧ e3 ≠ e5 ∧ e3 ≠ e6 ∧ e3 ≠ e8 ∧ e3 ≠ e9 ∧ e3 ≠ e10 ∧ e3 ≠ e12 ∧ e3 ≠ e13 ∧ e5 ≠ e6 ∧ e5 ≠ e8 ∧ e5 ≠ e9 ∧ e5 ≠ e10 ∧ e5 ≠ e12 ∧ e5 ≠ e13 ∧ e6 ≠ e8 ∧ e6 ≠ e9 ∧ e6 ≠ e10 ∧ e6 ≠ e12 ∧ e6 ≠ e13 ∧ e8 ≠ e9 ∧ e8 ≠ e10 ∧ e8 ≠ e12 ∧ e8 ≠ e13 ∧ e9 ≠ e10 ∧ e9 ≠ e12 ∧ e9 ≠ e13 ∧ e10 ≠ e12 ∧ e10 ≠ e13 ∧ e12 ≠ e13
theorem au2_0 (l : Launch) (Z : State) (a0 : Array Value) (hw : ∀ d ∈ tables_1, d.before a0 Z = true) (ws : List Jvm.Cond) (wDEFAULTCAPACITY_EMPTY_ELEMENTDATA : Addr) (kwDEFAULTCAPACITY_EMPTY_ELEMENTDATA : ClassId) (hS : SS Z wDEFAULTCAPACITY_EMPTY_ELEMENTDATA kwDEFAULTCAPACITY_EMPTY_ELEMENTDATA) (pa1 : Addr) (pa2 : Addr) (pi3 : Int32) (pk4 : ClassId) (h0 : Heap) (n0 : Nat) (O0 : Old Z n0 h0) (P0 : Exa Z h0 pa1 s3n) (P1 : Fld Z h0 pa1 s3n "counts" "[[[I" .null) (P2 : Fld Z h0 pa1 s3n "memory" "I" (.int 0)) (P3 : Fld Z h0 pa1 s3n "tours" s5n .null) (P4 : Fld Z h0 pa1 s3n "trains" "[I" .null) (P5 : Arv Z h0 pa2 pk4 .int (2 : Int32) ([(.int 3), (.int 2)]) (.int 0)) (P6 : Exa Z h0 pa2 "[I") (P9 : n0 ≤ pa1) (P11 : pa1 ≠ pa2) :
    MetB l M4 prog_34_method_1_code 4 none ws (rmk 4 10 25 50) Z h0 #[(.ref pa1), (.ref pa2), (.int pi3)] (Q_au2_0 Z wDEFAULTCAPACITY_EMPTY_ELEMENTDATA kwDEFAULTCAPACITY_EMPTY_ELEMENTDATA pa1 pa2 pi3 pk4 h0 n0) := by
  refine own_body (plainFor_of_name pn_com_example_loopline_loopline_dispatch_Pheromone) ?_
  intro p e s m below meth c s₁ hx hby hml hown hnm hret0 hlk0 hZ X0 e0
  have N0 := Fr.nil n0
  have pre0 : ∀ t, Steps p.tables e below (s₁.setTop (mkF m 0 #[(vr pa1), (vr pa2), (vi pi3), .unset] [])) t → Steps p.tables e below (s₁.setTop (entryFrame m #[(.ref pa1), (.ref pa2), (.int pi3)] 4)) t := fun t k => castTop (ef_au2_0 m pa1 pa2 pi3) k
  have K0 := Keep.refl h0 [pa1]
  have hS0 := hS
  obtain ⟨S_wDEFAULTCAPACITY_EMPTY_ELEMENTDATA, E_wDEFAULTCAPACITY_EMPTY_ELEMENTDATA, V_wDEFAULTCAPACITY_EMPTY_ELEMENTDATA⟩ := hS0
  obtain ⟨T1, X1, e1, st1⟩ := initO X0 hx hZ hown (ow hw 15 rfl) (ow hw 16 rfl) (ow hw 17 rfl) e0 (g := (mkF m 1 #[(vr pa1), (vr pa2), (vi pi3), .unset] [(.ref pa1)])) rfl (by rw [hml]; rfl) rfl (hb hby d2_1) (by decide) (W := 0) (by show 2 * 0 + _ ≤ _; exact Nat.le_of_eq rfl) (by decide)
  obtain ⟨T2, h2, X2, e2, E2, A2, D2, -, st2⟩ := newO X1 hx hZ hown (ow hw 18 rfl) (ow hw 19 rfl) (ow hw 20 rfl) e1 (g := (mkF m 5 #[(vr pa1), (vr pa2), (vi pi3), .unset] [(.ref pa1)])) rfl (hb hby d2_5) (by decide) (by decide)
  obtain ⟨b2, g2⟩ : ∃ z, z = h0.size := ⟨_, rfl⟩
  rw [← g2] at A2 D2 st2
  have ne3 : pa1 ≠ b2 := Nat.ne_of_lt (Nat.lt_of_lt_of_le P0.lt (Nat.le_of_eq g2.symm))
  have ne4 : pa2 ≠ b2 := Nat.ne_of_lt (Nat.lt_of_lt_of_le P5.lt (Nat.le_of_eq g2.symm))
  have g5 : n0 ≤ b2 := Nat.le_trans (own_sz O0) (Nat.le_of_eq g2.symm)
  have sz6 : h0.size ≤ b2 := Nat.le_trans K0.1 (Nat.le_of_eq g2.symm)
  have O7 : Old Z n0 h2 := O0.ext E2
  have K7 : Keep h0 h2 [pa1] := K0.ext E2
  have f8 : Fld Z h2 b2 s4n "modCount" "I" (.int 0) := D2 (Or.inl (ow hw 38 rfl)) (ty := .int) (by decide)
  have f9 : Fld Z h2 b2 s0n "elementData" s1n .null := D2 (Or.inl (ow hw 41 rfl)) (ty := (.array (.object s2n))) (by decide)
  have f10 : Fld Z h2 b2 s0n "size" "I" (.int 0) := D2 (Or.inl (ow hw 94 rfl)) (ty := .int) (by decide)
  obtain ⟨_, _, ⟨T11, L11, k11, n11⟩, -, X11, ⟨Lc11, hQ11, l11, y11, z11⟩, st11⟩ := X2.specialBack hx (y := M3) rfl hown (mvT hZ (ow hw 21 rfl)) (mvT hZ (ow hw 22 rfl)) (mvT hZ (ow hw 23 rfl)) (by decide) (backOf (W := 2) (au4_0 l Z a0 hw [] wDEFAULTCAPACITY_EMPTY_ELEMENTDATA kwDEFAULTCAPACITY_EMPTY_ELEMENTDATA hS b2 h2 n0 O7 A2 f8 f9 f10 g5) hZ (ow hw 23 rfl) (ow hw 20 rfl) (by decide) (by decide)) (g := (mkF m 9 #[(vr pa1), (vr pa2), (vi pi3), .unset] [(.ref b2), (.ref b2), (.ref pa1)])) rfl (by rw [hml]; rfl) (Steps.refl _) (a := b2) (argsL := []) (rest := [(.ref b2), (.ref pa1)]) (lenOf pd_1 rfl) rfl (by show 2 * 0 + _ ≤ _; exact Nat.le_of_eq rfl) (hb hby d2_9) (fun _ _ => ⟨rfl, e2, (by decide : 1 + 0 ≤ _), (by decide : 3 + 0 ≤ _)⟩)
  dsimp only [Pt.U, Pt.locs, Pt.cells, Pt.slots] at X11 l11 y11 z11 st11 hQ11
  subst l11 y11 z11
  obtain ⟨rfl, Nq11, K11q, p11_0, p11_1, p11_2, p11_3⟩ := hQ11
  have N11 := Fr.app N0 Nq11
  have O12 : Old Z n0 T11.heap := O7.keep K11q (allS g5 all0)
  have K12 : Keep h0 T11.heap [pa1] := K7.trans K11q (allS (Or.inr sz6) all0)
  have f13 : Exa Z T11.heap pa1 s3n := ((P0.ext E2).keep K11q)
  have f14 : Fld Z T11.heap pa1 s3n "tours" s5n .null := ((P3.ext E2).keep K11q (ninS ne3 nin0))
  obtain ⟨T15, h15, X15, e15, W15, st15⟩ := putF X11 hx hZ hown (host := "") (Or.inl (ow hw 42 rfl)) Via.refl rfl f14 f13 (Or.inr ⟨(ow hw 43 rfl), rfl, hnm⟩) (ow hw 10 rfl) (ty := (.object s6n)) (by decide) rfl rfl (g := (mkF m 12 #[(vr pa1), (vr pa2), (vi pi3), .unset] [(.ref b2), (.ref pa1)])) rfl rfl (hb hby d2_12)
  have N15 := Fr.snoc X15 N11 P9
  have O16 : Old Z n0 h15 := O12.wr W15 P9
  have K16 : Keep h0 h15 [pa1] := K12.wr W15 (Or.inl (List.mem_of_getElem? (i := 0) rfl))
  have Fw15 : Fld Z h15 pa1 s3n "tours" s5n (.ref b2) := f14.same W15
  have f17 : Arv Z h15 pa2 pk4 .int (2 : Int32) ([(.int 3), (.int 2)]) (.int 0) := (((P5.ext E2).keep K11q (ninS ne4 nin0)).other W15 (Ne.symm P11))
  have f18 : Exa Z h15 pa2 "[I" := (((P6.ext E2).keep K11q).wr W15)
  obtain ⟨T19, h19, X19, e19, E19, A19, Z19, st19⟩ := own_cloneV X15 hx hZ hown (ow hw 44 rfl) (ow hw 45 rfl) (ow hw 49 rfl) (ow hw 47 rfl) (ow hw 48 rfl) (ow hw 50 rfl) e15 f17 f18 (g := (mkF m 17 #[(vr pa1), (vr pa2), (vi pi3), .unset] [(.ref pa2), (.ref pa1)])) rfl (by rw [hml]; rfl) rfl (hb hby d2_17) (by decide) (W := 1) (cap := 2) (by show 2 * 0 + _ ≤ _; exact Nat.le_of_eq rfl) (by decide) (by decide) (by decide) (by decide)
  obtain ⟨b19, g19⟩ : ∃ z, z = h15.size := ⟨_, rfl⟩
  rw [← g19] at A19 Z19 st19
  have f21 : Exa Z h15 pa1 s3n := (f13.wr W15)
  have ne20 : pa1 ≠ b19 := Nat.ne_of_lt (Nat.lt_of_lt_of_le f21.lt (Nat.le_of_eq g19.symm))
  have ne22 : pa2 ≠ b19 := Nat.ne_of_lt (Nat.lt_of_lt_of_le f17.lt (Nat.le_of_eq g19.symm))
  have f24 : Exa Z h15 b2 s0n := (p11_0.wr W15)
  have ne23 : b2 ≠ b19 := Nat.ne_of_lt (Nat.lt_of_lt_of_le f24.lt (Nat.le_of_eq g19.symm))
  have g25 : n0 ≤ b19 := Nat.le_trans (own_sz O16) (Nat.le_of_eq g19.symm)
  have sz26 : h0.size ≤ b19 := Nat.le_trans K16.1 (Nat.le_of_eq g19.symm)
  have O27 : Old Z n0 h19 := O16.ext E19
  have K27 : Keep h0 h19 [pa1] := K16.ext E19
  obtain ⟨T28, X28, e28, st28⟩ := castY X19 hx hZ hown (ow hw 51 rfl) e19 (Ins.self Z19) (g := (mkF m 20 #[(vr pa1), (vr pa2), (vi pi3), .unset] [(.ref b19), (.ref pa1)])) rfl rfl (hb hby d2_20)
  have f29 : Exa Z h19 pa1 s3n := (f21.ext E19)
  have f30 : Fld Z h19 pa1 s3n "trains" "[I" .null := ((((P4.ext E2).keep K11q (ninS ne3 nin0)).other W15 (Or.inr (slot_ne (Or.inr (ow hw 53 rfl)) (Or.inr (ow hw 43 rfl)) (by decide) (t := (.array .int)) (t' := (.object s6n)) (by decide) (by decide)))).ext E19)
  obtain ⟨T31, h31, X31, e31, W31, st31⟩ := putF X28 hx hZ hown (host := "") (Or.inl (ow hw 52 rfl)) Via.refl e28 f30 f29 (Or.inr ⟨(ow hw 53 rfl), rfl, hnm⟩) (ow hw 10 rfl) (ty := (.array .int)) (by decide) rfl rfl (g := (mkF m 23 #[(vr pa1), (vr pa2), (vi pi3), .unset] [(.ref b19), (.ref pa1)])) rfl rfl (hb hby d2_23)
  have N31 := Fr.snoc X31 N15 P9
  have O32 : Old Z n0 h31 := O27.wr W31 P9
  have K32 : Keep h0 h31 [pa1] := K27.wr W31 (Or.inl (List.mem_of_getElem? (i := 0) rfl))
  have Fw31 : Fld Z h31 pa1 s3n "trains" "[I" (.ref b19) := f30.same W31
  have f33 : Exa Z h31 pa1 s3n := (f29.wr W31)
  have f34 : Fld Z h31 pa1 s3n "memory" "I" (.int 0) := (((((P2.ext E2).keep K11q (ninS ne3 nin0)).other W15 (Or.inr (slot_ne (Or.inr (ow hw 55 rfl)) (Or.inr (ow hw 43 rfl)) (by decide) (t := .int) (t' := (.object s6n)) (by decide) (by decide)))).ext E19).other W31 (Or.inr (slot_ne (Or.inr (ow hw 55 rfl)) (Or.inr (ow hw 53 rfl)) (by decide) (t := .int) (t' := (.array .int)) (by decide) (by decide))))
  obtain ⟨T35, h35, X35, e35, W35, st35⟩ := putF X31 hx hZ hown (host := "") (Or.inl (ow hw 54 rfl)) Via.refl e31 f34 f33 (Or.inr ⟨(ow hw 55 rfl), rfl, hnm⟩) (ow hw 10 rfl) (ty := .int) (by decide) rfl rfl (g := (mkF m 28 #[(vr pa1), (vr pa2), (vi pi3), .unset] [(.int pi3), (.ref pa1)])) rfl rfl (hb hby d2_28)
  have N35 := Fr.snoc X35 N31 P9
  have O36 : Old Z n0 h35 := O32.wr W35 P9
  have K36 : Keep h0 h35 [pa1] := K32.wr W35 (Or.inl (List.mem_of_getElem? (i := 0) rfl))
  have Fw35 : Fld Z h35 pa1 s3n "memory" "I" (.int pi3) := f34.same W35
  have f37 : Arv Z h35 pa2 pk4 .int (2 : Int32) ([(.int 3), (.int 2)]) (.int 0) := (((f17.ext E19).other W31 (Ne.symm P11)).other W35 (Ne.symm P11))
  obtain ⟨cl38, Ar38, -, Sz38, Nn38, -, -⟩ := (id f37)
  obtain ⟨T39, h39, k39, X39, e39, E39, A39, Z39, O39, st39⟩ := newRA X35 hx hZ (ty := (.array .int)) hown (by decide) (ow hw 56 rfl) (ow hw 57 rfl) e35 (g := (mkF m 34 #[(vr pa1), (vr pa2), (vi pi3), .unset] [(.int 2), (.ref pa1)])) rfl (hb hby d2_34) rfl (by decide) (cap := 2) (by decide) (by decide) (by decide) (by decide) (ad := "[[[I") rfl
  obtain ⟨b39, g39⟩ : ∃ z, z = h35.size := ⟨_, rfl⟩
  rw [← g39] at A39 Z39 st39
  have f41 : Exa Z h35 pa1 s3n := (f33.wr W35)
  have ne40 : pa1 ≠ b39 := Nat.ne_of_lt (Nat.lt_of_lt_of_le f41.lt (Nat.le_of_eq g39.symm))
  have ne42 : pa2 ≠ b39 := Nat.ne_of_lt (Nat.lt_of_lt_of_le f37.lt (Nat.le_of_eq g39.symm))
  have f44 : Exa Z h35 b2 s0n := (((f24.ext E19).wr W31).wr W35)
  have ne43 : b2 ≠ b39 := Nat.ne_of_lt (Nat.lt_of_lt_of_le f44.lt (Nat.le_of_eq g39.symm))
  have f46 : Arv Z h35 b19 pk4 .int (2 : Int32) ([(.int 3), (.int 2)]) (.int 0) := ((A19.other W31 (Ne.symm ne20)).other W35 (Ne.symm ne20))
  have ne45 : b19 ≠ b39 := Nat.ne_of_lt (Nat.lt_of_lt_of_le f46.lt (Nat.le_of_eq g39.symm))
  have g47 : n0 ≤ b39 := Nat.le_trans (own_sz O36) (Nat.le_of_eq g39.symm)
  have sz48 : h0.size ≤ b39 := Nat.le_trans K36.1 (Nat.le_of_eq g39.symm)
  have O49 : Old Z n0 h39 := O36.ext E39
  have K49 : Keep h0 h39 [pa1] := K36.ext E39
  have V39 : Arv Z h39 b39 k39 (.array (.array .int)) (2 : Int32) ([.null, .null]) .null := (Arv.new A39 (by decide)).pad (pad_rep [] .null 2)
  have f50 : Exa Z h39 pa1 s3n := (f41.ext E39)
  have f51 : Fld Z h39 pa1 s3n "counts" "[[[I" .null := (((((((P1.ext E2).keep K11q (ninS ne3 nin0)).other W15 (Or.inr (slot_ne (Or.inr (ow hw 59 rfl)) (Or.inr (ow hw 43 rfl)) (by decide) (t := (.array (.array (.array .int)))) (t' := (.object s6n)) (by decide) (by decide)))).ext E19).other W31 (Or.inr (slot_ne (Or.inr (ow hw 59 rfl)) (Or.inr (ow hw 53 rfl)) (by decide) (t := (.array (.array (.array .int)))) (t' := (.array .int)) (by decide) (by decide)))).other W35 (Or.inr (slot_ne (Or.inr (ow hw 59 rfl)) (Or.inr (ow hw 55 rfl)) (by decide) (t := (.array (.array (.array .int)))) (t' := .int) (by decide) (by decide)))).ext E39)
  obtain ⟨T52, h52, X52, e52, W52, st52⟩ := putF X39 hx hZ hown (host := "") (Or.inl (ow hw 58 rfl)) Via.refl e39 f51 f50 (Or.inr ⟨(ow hw 59 rfl), rfl, hnm⟩) (ow hw 10 rfl) (ty := (.array (.array (.array .int)))) (by decide) rfl rfl (g := (mkF m 37 #[(vr pa1), (vr pa2), (vi pi3), .unset] [(.ref b39), (.ref pa1)])) rfl rfl (hb hby d2_37)
  have N52 := Fr.snoc X52 N35 P9
  have O53 : Old Z n0 h52 := O49.wr W52 P9
  have K53 : Keep h0 h52 [pa1] := K49.wr W52 (Or.inl (List.mem_of_getElem? (i := 0) rfl))
  have Fw52 : Fld Z h52 pa1 s3n "counts" "[[[I" (.ref b39) := f51.same W52
  have f54 : Arv Z h52 pa2 pk4 .int (2 : Int32) ([(.int 3), (.int 2)]) (.int 0) := ((f37.ext E39).other W52 (Ne.symm P11))
  obtain ⟨cl55, Ar55, -, Sz55, Nn55, -, -⟩ := (id f54)
  obtain ⟨T56, X56, e56, st56⟩ := getF X52 hx hZ hown (host := "") (Or.inl (ow hw 58 rfl)) Via.refl e52 Fw52 (g := (mkF m 49 #[(vr pa1), (vr pa2), (vi pi3), (vi 0)] [(.ref pa1)])) rfl rfl (hb hby d2_49)
  obtain ⟨cl57, Ar57, qc57, Sz57, Nn57, Ha57, Gg57⟩ := (id f54)
  have hin57 : ¬ ((0 : Int32) < 0 ∨ cl57.slots.size ≤ ((0 : Int32)).toNatClampNeg) := inb_of Sz57 ⟨by decide, by decide⟩
  have hat57 : cl57.slots[((0 : Int32)).toNatClampNeg]? = some (.int 3) := Ha57.at hin57 rfl
  obtain ⟨cl58, Ar58, qc58, Sz58, Nn58, Ha58, Gg58⟩ := (id f54)
  have hin58 : ¬ ((0 : Int32) < 0 ∨ cl58.slots.size ≤ ((0 : Int32)).toNatClampNeg) := inb_of Sz58 ⟨by decide, by decide⟩
  have hat58 : cl58.slots[((0 : Int32)).toNatClampNeg]? = some (.int 3) := Ha58.at hin58 rfl
  obtain ⟨bm59_0, gbm59_0⟩ : ∃ z, z = h52.size + 1 + 0 := ⟨_, rfl⟩
  obtain ⟨bm59_1, gbm59_1⟩ : ∃ z, z = h52.size + 1 + 1 := ⟨_, rfl⟩
  obtain ⟨bm59_2, gbm59_2⟩ : ∃ z, z = h52.size + 1 + 2 := ⟨_, rfl⟩
  obtain ⟨T60, h60, k60, c60, X60, e60, E60, A60, O60, Z60, I60, st60⟩ := gridM X56 hx hZ (C := "[I") (ad := "[[I") (ty := .int) hown (by decide) (by decide) (ow hw 56 rfl) (ow hw 6 rfl) (ow hw 7 rfl) e56 (g := (mkF m 59 #[(vr pa1), (vr pa2), (vi pi3), (vi 0)] [(.int 3), (.int 3), (.int 0), (.ref b39)])) rfl (hb hby d2_59) rfl (by decide) (by decide) (xs := [bm59_0, bm59_1, bm59_2]) (N := 3) (by decide) (by rw [gbm59_0, gbm59_1, gbm59_2]; rfl) (cap := 3) (by decide) (by decide) (by decide) rfl rfl (by decide) (by decide)
  obtain ⟨b60, g60⟩ : ∃ z, z = h52.size := ⟨_, rfl⟩
  rw [← g60] at A60 Z60 st60
  have le60_0 : h52.size ≤ bm59_0 := by rw [gbm59_0]; omega
  have g60_0 : bm59_0 = b60 + 1 + 0 := by rw [gbm59_0, g60]
  have le60_1 : h52.size ≤ bm59_1 := by rw [gbm59_1]; omega
  have g60_1 : bm59_1 = b60 + 1 + 1 := by rw [gbm59_1, g60]
  have le60_2 : h52.size ≤ bm59_2 := by rw [gbm59_2]; omega
  have g60_2 : bm59_2 = b60 + 1 + 2 := by rw [gbm59_2, g60]
  have f62 : Exa Z h52 pa1 s3n := (f50.wr W52)
  have ne61 : pa1 ≠ b60 := Nat.ne_of_lt (Nat.lt_of_lt_of_le f62.lt (Nat.le_of_eq g60.symm))
  have ne63 : pa2 ≠ b60 := Nat.ne_of_lt (Nat.lt_of_lt_of_le f54.lt (Nat.le_of_eq g60.symm))
  have f65 : Exa Z h52 b2 s0n := ((f44.ext E39).wr W52)
  have ne64 : b2 ≠ b60 := Nat.ne_of_lt (Nat.lt_of_lt_of_le f65.lt (Nat.le_of_eq g60.symm))
  have f67 : Arv Z h52 b19 pk4 .int (2 : Int32) ([(.int 3), (.int 2)]) (.int 0) := ((f46.ext E39).other W52 (Ne.symm ne20))
  have ne66 : b19 ≠ b60 := Nat.ne_of_lt (Nat.lt_of_lt_of_le f67.lt (Nat.le_of_eq g60.symm))
  have f69 : Arv Z h52 b39 k39 (.array (.array .int)) (2 : Int32) ([.null, .null]) .null := (V39.other W52 (Ne.symm ne40))
  have ne68 : b39 ≠ b60 := Nat.ne_of_lt (Nat.lt_of_lt_of_le f69.lt (Nat.le_of_eq g60.symm))
  have g70 : n0 ≤ b60 := Nat.le_trans (own_sz O53) (Nat.le_of_eq g60.symm)
  have sz71 : h0.size ≤ b60 := Nat.le_trans K53.1 (Nat.le_of_eq g60.symm)
  have ne72 : pa1 ≠ bm59_0 := Nat.ne_of_lt (Nat.lt_of_lt_of_le f62.lt le60_0)
  have ne73 : pa2 ≠ bm59_0 := Nat.ne_of_lt (Nat.lt_of_lt_of_le f54.lt le60_0)
  have ne74 : b2 ≠ bm59_0 := Nat.ne_of_lt (Nat.lt_of_lt_of_le f65.lt le60_0)
  have ne75 : b19 ≠ bm59_0 := Nat.ne_of_lt (Nat.lt_of_lt_of_le f67.lt le60_0)
  have ne76 : b39 ≠ bm59_0 := Nat.ne_of_lt (Nat.lt_of_lt_of_le f69.lt le60_0)
  have g77 : n0 ≤ bm59_0 := Nat.le_trans (own_sz O53) le60_0
  have sz78 : h0.size ≤ bm59_0 := Nat.le_trans K53.1 le60_0
  have ne60_0 : b60 ≠ bm59_0 := by rw [g60_0]; omega
  have ne79 : pa1 ≠ bm59_1 := Nat.ne_of_lt (Nat.lt_of_lt_of_le f62.lt le60_1)
  have ne80 : pa2 ≠ bm59_1 := Nat.ne_of_lt (Nat.lt_of_lt_of_le f54.lt le60_1)
  have ne81 : b2 ≠ bm59_1 := Nat.ne_of_lt (Nat.lt_of_lt_of_le f65.lt le60_1)
  have ne82 : b19 ≠ bm59_1 := Nat.ne_of_lt (Nat.lt_of_lt_of_le f67.lt le60_1)
  have ne83 : b39 ≠ bm59_1 := Nat.ne_of_lt (Nat.lt_of_lt_of_le f69.lt le60_1)
  have g84 : n0 ≤ bm59_1 := Nat.le_trans (own_sz O53) le60_1
  have sz85 : h0.size ≤ bm59_1 := Nat.le_trans K53.1 le60_1
  have ne60_1 : b60 ≠ bm59_1 := by rw [g60_1]; omega
  have ne60_0_1 : bm59_0 ≠ bm59_1 := by rw [g60_0, g60_1]; omega
  have ne86 : pa1 ≠ bm59_2 := Nat.ne_of_lt (Nat.lt_of_lt_of_le f62.lt le60_2)
  have ne87 : pa2 ≠ bm59_2 := Nat.ne_of_lt (Nat.lt_of_lt_of_le f54.lt le60_2)
  have ne88 : b2 ≠ bm59_2 := Nat.ne_of_lt (Nat.lt_of_lt_of_le f65.lt le60_2)
  have ne89 : b19 ≠ bm59_2 := Nat.ne_of_lt (Nat.lt_of_lt_of_le f67.lt le60_2)
  have ne90 : b39 ≠ bm59_2 := Nat.ne_of_lt (Nat.lt_of_lt_of_le f69.lt le60_2)
  have g91 : n0 ≤ bm59_2 := Nat.le_trans (own_sz O53) le60_2
  have sz92 : h0.size ≤ bm59_2 := Nat.le_trans K53.1 le60_2
  have ne60_2 : b60 ≠ bm59_2 := by rw [g60_2]; omega
  have ne60_0_2 : bm59_0 ≠ bm59_2 := by rw [g60_0, g60_2]; omega
  have ne60_1_2 : bm59_1 ≠ bm59_2 := by rw [g60_1, g60_2]; omega
  have O93 : Old Z n0 h60 := O53.ext E60
  have K93 : Keep h0 h60 [pa1] := K53.ext E60
  have V60 : Arv Z h60 b60 k60 (.array .int) (3 : Int32) ([(.ref bm59_0), (.ref bm59_1), (.ref bm59_2)]) .null := A60
  have V60_0 : Arv Z h60 bm59_0 c60 .int (3 : Int32) ([(.int 0), (.int 0), (.int 0)]) (.int 0) := (Arv.new (I60 0 bm59_0 rfl).1 (by decide)).pad (pad_rep [] (.int 0) 3)
  have Z60_0 := (I60 0 bm59_0 rfl).2
  have V60_1 : Arv Z h60 bm59_1 c60 .int (3 : Int32) ([(.int 0), (.int 0), (.int 0)]) (.int 0) := (Arv.new (I60 1 bm59_1 rfl).1 (by decide)).pad (pad_rep [] (.int 0) 3)
  have Z60_1 := (I60 1 bm59_1 rfl).2
  have V60_2 : Arv Z h60 bm59_2 c60 .int (3 : Int32) ([(.int 0), (.int 0), (.int 0)]) (.int 0) := (Arv.new (I60 2 bm59_2 rfl).1 (by decide)).pad (pad_rep [] (.int 0) 3)
  have Z60_2 := (I60 2 bm59_2 rfl).2
  have f94 : Arv Z h60 b39 k39 (.array (.array .int)) (2 : Int32) ([.null, .null]) .null := (f69.ext E60)
  obtain ⟨cl95, Ar95, qc95, Sz95, Nn95, Ha95, Gg95⟩ := (id f94)
  have hin95 : ¬ ((0 : Int32) < 0 ∨ cl95.slots.size ≤ ((0 : Int32)).toNatClampNeg) := inb_of Sz95 ⟨by decide, by decide⟩
  obtain ⟨T95, h95, X95, e95, W95, st95⟩ := stR X60 hx hZ e60 Ar95 (j := (0 : Int32)) hin95 rfl (Sto.ofVA Ar95 qc95 O39 (Ins.self Z60)) (g := (mkF m 63 #[(vr pa1), (vr pa2), (vi pi3), (vi 0)] [(.ref b60), (.int 0), (.ref b39)])) rfl rfl (hb hby d2_63)
  have O96 : Old Z n0 h95 := O93.wr W95 g47
  have K96 : Keep h0 h95 [pa1] := K93.wr W95 (Or.inr sz48)
  have V95 : Arv Z h95 b39 k39 (.array (.array .int)) (2 : Int32) ([(.ref b60), .null]) .null := Arv.set Ar95 qc95 Sz95 Nn95 Ha95 Gg95 (v := (.ref b60)) rfl W95 0 rfl (Nat.le_of_ble_eq_true rfl)
  have N95 := Fr.snoc X95 N52 g47
  have f97 : Arv Z h95 pa2 pk4 .int (2 : Int32) ([(.int 3), (.int 2)]) (.int 0) := ((f54.ext E60).other W95 ne42)
  obtain ⟨cl98, Ar98, -, Sz98, Nn98, -, -⟩ := (id f97)
  have f99 : Fld Z h95 pa1 s3n "counts" "[[[I" (.ref b39) := ((Fw52.ext E60).other W95 (Or.inl ne40))
  obtain ⟨T100, X100, e100, st100⟩ := getF X95 hx hZ hown (host := "") (Or.inl (ow hw 58 rfl)) Via.refl e95 f99 (g := (mkF m 49 #[(vr pa1), (vr pa2), (vi pi3), (vi 1)] [(.ref pa1)])) rfl rfl (hb hby d2_49)
  obtain ⟨cl101, Ar101, qc101, Sz101, Nn101, Ha101, Gg101⟩ := (id f97)
  have hin101 : ¬ ((1 : Int32) < 0 ∨ cl101.slots.size ≤ ((1 : Int32)).toNatClampNeg) := inb_of Sz101 ⟨by decide, by decide⟩
  have hat101 : cl101.slots[((1 : Int32)).toNatClampNeg]? = some (.int 2) := Ha101.at hin101 rfl
  obtain ⟨cl102, Ar102, qc102, Sz102, Nn102, Ha102, Gg102⟩ := (id f97)
  have hin102 : ¬ ((1 : Int32) < 0 ∨ cl102.slots.size ≤ ((1 : Int32)).toNatClampNeg) := inb_of Sz102 ⟨by decide, by decide⟩
  have hat102 : cl102.slots[((1 : Int32)).toNatClampNeg]? = some (.int 2) := Ha102.at hin102 rfl
  obtain ⟨bm103_0, gbm103_0⟩ : ∃ z, z = h95.size + 1 + 0 := ⟨_, rfl⟩
  obtain ⟨bm103_1, gbm103_1⟩ : ∃ z, z = h95.size + 1 + 1 := ⟨_, rfl⟩
  obtain ⟨T104, h104, k104, c104, X104, e104, E104, A104, O104, Z104, I104, st104⟩ := gridM X100 hx hZ (C := "[I") (ad := "[[I") (ty := .int) hown (by decide) (by decide) (ow hw 56 rfl) (ow hw 6 rfl) (ow hw 7 rfl) e100 (g := (mkF m 59 #[(vr pa1), (vr pa2), (vi pi3), (vi 1)] [(.int 2), (.int 2), (.int 1), (.ref b39)])) rfl (hb hby d2_59) rfl (by decide) (by decide) (xs := [bm103_0, bm103_1]) (N := 2) (by decide) (by rw [gbm103_0, gbm103_1]; rfl) (cap := 2) (by decide) (by decide) (by decide) rfl rfl (by decide) (by decide)
  obtain ⟨b104, g104⟩ : ∃ z, z = h95.size := ⟨_, rfl⟩
  rw [← g104] at A104 Z104 st104
  have le104_0 : h95.size ≤ bm103_0 := by rw [gbm103_0]; omega
  have g104_0 : bm103_0 = b104 + 1 + 0 := by rw [gbm103_0, g104]
  have le104_1 : h95.size ≤ bm103_1 := by rw [gbm103_1]; omega
  have g104_1 : bm103_1 = b104 + 1 + 1 := by rw [gbm103_1, g104]
  have f106 : Exa Z h95 pa1 s3n := ((f62.ext E60).wr W95)
  have ne105 : pa1 ≠ b104 := Nat.ne_of_lt (Nat.lt_of_lt_of_le f106.lt (Nat.le_of_eq g104.symm))
  have ne107 : pa2 ≠ b104 := Nat.ne_of_lt (Nat.lt_of_lt_of_le f97.lt (Nat.le_of_eq g104.symm))
  have f109 : Exa Z h95 b2 s0n := ((f65.ext E60).wr W95)
  have ne108 : b2 ≠ b104 := Nat.ne_of_lt (Nat.lt_of_lt_of_le f109.lt (Nat.le_of_eq g104.symm))
  have f111 : Arv Z h95 b19 pk4 .int (2 : Int32) ([(.int 3), (.int 2)]) (.int 0) := ((f67.ext E60).other W95 ne45)
  have ne110 : b19 ≠ b104 := Nat.ne_of_lt (Nat.lt_of_lt_of_le f111.lt (Nat.le_of_eq g104.symm))
  have ne112 : b39 ≠ b104 := Nat.ne_of_lt (Nat.lt_of_lt_of_le V95.lt (Nat.le_of_eq g104.symm))
  have f114 : Arv Z h95 b60 k60 (.array .int) (3 : Int32) ([(.ref bm59_0), (.ref bm59_1), (.ref bm59_2)]) .null := (V60.other W95 (Ne.symm ne68))
  have ne113 : b60 ≠ b104 := Nat.ne_of_lt (Nat.lt_of_lt_of_le f114.lt (Nat.le_of_eq g104.symm))
  have f116 : Arv Z h95 bm59_0 c60 .int (3 : Int32) ([(.int 0), (.int 0), (.int 0)]) (.int 0) := (V60_0.other W95 (Ne.symm ne76))
  have ne115 : bm59_0 ≠ b104 := Nat.ne_of_lt (Nat.lt_of_lt_of_le f116.lt (Nat.le_of_eq g104.symm))
  have f118 : Arv Z h95 bm59_1 c60 .int (3 : Int32) ([(.int 0), (.int 0), (.int 0)]) (.int 0) := (V60_1.other W95 (Ne.symm ne83))
  have ne117 : bm59_1 ≠ b104 := Nat.ne_of_lt (Nat.lt_of_lt_of_le f118.lt (Nat.le_of_eq g104.symm))
  have f120 : Arv Z h95 bm59_2 c60 .int (3 : Int32) ([(.int 0), (.int 0), (.int 0)]) (.int 0) := (V60_2.other W95 (Ne.symm ne90))
  have ne119 : bm59_2 ≠ b104 := Nat.ne_of_lt (Nat.lt_of_lt_of_le f120.lt (Nat.le_of_eq g104.symm))
  have g121 : n0 ≤ b104 := Nat.le_trans (own_sz O96) (Nat.le_of_eq g104.symm)
  have sz122 : h0.size ≤ b104 := Nat.le_trans K96.1 (Nat.le_of_eq g104.symm)
  have ne123 : pa1 ≠ bm103_0 := Nat.ne_of_lt (Nat.lt_of_lt_of_le f106.lt le104_0)
  have ne124 : pa2 ≠ bm103_0 := Nat.ne_of_lt (Nat.lt_of_lt_of_le f97.lt le104_0)
  have ne125 : b2 ≠ bm103_0 := Nat.ne_of_lt (Nat.lt_of_lt_of_le f109.lt le104_0)
  have ne126 : b19 ≠ bm103_0 := Nat.ne_of_lt (Nat.lt_of_lt_of_le f111.lt le104_0)
  have ne127 : b39 ≠ bm103_0 := Nat.ne_of_lt (Nat.lt_of_lt_of_le V95.lt le104_0)
  have ne128 : b60 ≠ bm103_0 := Nat.ne_of_lt (Nat.lt_of_lt_of_le f114.lt le104_0)
  have ne129 : bm59_0 ≠ bm103_0 := Nat.ne_of_lt (Nat.lt_of_lt_of_le f116.lt le104_0)
  have ne130 : bm59_1 ≠ bm103_0 := Nat.ne_of_lt (Nat.lt_of_lt_of_le f118.lt le104_0)
  have ne131 : bm59_2 ≠ bm103_0 := Nat.ne_of_lt (Nat.lt_of_lt_of_le f120.lt le104_0)
  have g132 : n0 ≤ bm103_0 := Nat.le_trans (own_sz O96) le104_0
  have sz133 : h0.size ≤ bm103_0 := Nat.le_trans K96.1 le104_0
  have ne104_0 : b104 ≠ bm103_0 := by rw [g104_0]; omega
  have ne134 : pa1 ≠ bm103_1 := Nat.ne_of_lt (Nat.lt_of_lt_of_le f106.lt le104_1)
  have ne135 : pa2 ≠ bm103_1 := Nat.ne_of_lt (Nat.lt_of_lt_of_le f97.lt le104_1)
  have ne136 : b2 ≠ bm103_1 := Nat.ne_of_lt (Nat.lt_of_lt_of_le f109.lt le104_1)
  have ne137 : b19 ≠ bm103_1 := Nat.ne_of_lt (Nat.lt_of_lt_of_le f111.lt le104_1)
  have ne138 : b39 ≠ bm103_1 := Nat.ne_of_lt (Nat.lt_of_lt_of_le V95.lt le104_1)
  have ne139 : b60 ≠ bm103_1 := Nat.ne_of_lt (Nat.lt_of_lt_of_le f114.lt le104_1)
  have ne140 : bm59_0 ≠ bm103_1 := Nat.ne_of_lt (Nat.lt_of_lt_of_le f116.lt le104_1)
  have ne141 : bm59_1 ≠ bm103_1 := Nat.ne_of_lt (Nat.lt_of_lt_of_le f118.lt le104_1)
  have ne142 : bm59_2 ≠ bm103_1 := Nat.ne_of_lt (Nat.lt_of_lt_of_le f120.lt le104_1)
  have g143 : n0 ≤ bm103_1 := Nat.le_trans (own_sz O96) le104_1
  have sz144 : h0.size ≤ bm103_1 := Nat.le_trans K96.1 le104_1
  have ne104_1 : b104 ≠ bm103_1 := by rw [g104_1]; omega
  have ne104_0_1 : bm103_0 ≠ bm103_1 := by rw [g104_0, g104_1]; omega
  have O145 : Old Z n0 h104 := O96.ext E104
  have K145 : Keep h0 h104 [pa1] := K96.ext E104
  have V104 : Arv Z h104 b104 k104 (.array .int) (2 : Int32) ([(.ref bm103_0), (.ref bm103_1)]) .null := A104
  have V104_0 : Arv Z h104 bm103_0 c104 .int (2 : Int32) ([(.int 0), (.int 0)]) (.int 0) := (Arv.new (I104 0 bm103_0 rfl).1 (by decide)).pad (pad_rep [] (.int 0) 2)
  have Z104_0 := (I104 0 bm103_0 rfl).2
  have V104_1 : Arv Z h104 bm103_1 c104 .int (2 : Int32) ([(.int 0), (.int 0)]) (.int 0) := (Arv.new (I104 1 bm103_1 rfl).1 (by decide)).pad (pad_rep [] (.int 0) 2)
  have Z104_1 := (I104 1 bm103_1 rfl).2
  have f146 : Arv Z h104 b39 k39 (.array (.array .int)) (2 : Int32) ([(.ref b60), .null]) .null := (V95.ext E104)
  obtain ⟨cl147, Ar147, qc147, Sz147, Nn147, Ha147, Gg147⟩ := (id f146)
  have hin147 : ¬ ((1 : Int32) < 0 ∨ cl147.slots.size ≤ ((1 : Int32)).toNatClampNeg) := inb_of Sz147 ⟨by decide, by decide⟩
  obtain ⟨T147, h147, X147, e147, W147, st147⟩ := stR X104 hx hZ e104 Ar147 (j := (1 : Int32)) hin147 rfl (Sto.ofVA Ar147 qc147 O39 (Ins.self Z104)) (g := (mkF m 63 #[(vr pa1), (vr pa2), (vi pi3), (vi 1)] [(.ref b104), (.int 1), (.ref b39)])) rfl rfl (hb hby d2_63)
  have O148 : Old Z n0 h147 := O145.wr W147 g47
  have K148 : Keep h0 h147 [pa1] := K145.wr W147 (Or.inr sz48)
  have V147 : Arv Z h147 b39 k39 (.array (.array .int)) (2 : Int32) ([(.ref b60), (.ref b104)]) .null := Arv.set Ar147 qc147 Sz147 Nn147 Ha147 Gg147 (v := (.ref b104)) rfl W147 1 rfl (Nat.le_of_ble_eq_true rfl)
  have N147 := Fr.snoc X147 N95 g47
  have f149 : Arv Z h147 pa2 pk4 .int (2 : Int32) ([(.int 3), (.int 2)]) (.int 0) := ((f97.ext E104).other W147 ne42)
  obtain ⟨cl150, Ar150, -, Sz150, Nn150, -, -⟩ := (id f149)
  have f151 : Exa Z h147 pa1 s3n := ((f106.ext E104).wr W147)
  have f152 : Fld Z h147 pa1 s3n "counts" "[[[I" (.ref b39) := ((f99.ext E104).other W147 (Or.inl ne40))
  have f153 : Fld Z h147 pa1 s3n "memory" "I" (.int pi3) := ((((((Fw35.ext E39).other W52 (Or.inr (slot_ne (Or.inr (ow hw 55 rfl)) (Or.inr (ow hw 59 rfl)) (by decide) (t := .int) (t' := (.array (.array (.array .int)))) (by decide) (by decide)))).ext E60).other W95 (Or.inl ne40)).ext E104).other W147 (Or.inl ne40))
  have f154 : Fld Z h147 pa1 s3n "tours" s5n (.ref b2) := (((((((((Fw15.ext E19).other W31 (Or.inr (slot_ne (Or.inr (ow hw 43 rfl)) (Or.inr (ow hw 53 rfl)) (by decide) (t := (.object s6n)) (t' := (.array .int)) (by decide) (by decide)))).other W35 (Or.inr (slot_ne (Or.inr (ow hw 43 rfl)) (Or.inr (ow hw 55 rfl)) (by decide) (t := (.object s6n)) (t' := .int) (by decide) (by decide)))).ext E39).other W52 (Or.inr (slot_ne (Or.inr (ow hw 43 rfl)) (Or.inr (ow hw 59 rfl)) (by decide) (t := (.object s6n)) (t' := (.array (.array (.array .int)))) (by decide) (by decide)))).ext E60).other W95 (Or.inl ne40)).ext E104).other W147 (Or.inl ne40))
  have f155 : Fld Z h147 pa1 s3n "trains" "[I" (.ref b19) := (((((((Fw31.other W35 (Or.inr (slot_ne (Or.inr (ow hw 53 rfl)) (Or.inr (ow hw 55 rfl)) (by decide) (t := (.array .int)) (t' := .int) (by decide) (by decide)))).ext E39).other W52 (Or.inr (slot_ne (Or.inr (ow hw 53 rfl)) (Or.inr (ow hw 59 rfl)) (by decide) (t := (.array .int)) (t' := (.array (.array (.array .int)))) (by decide) (by decide)))).ext E60).other W95 (Or.inl ne40)).ext E104).other W147 (Or.inl ne40))
  have f156 : Exa Z h147 b39 "[[[I" := (((((Z39.wr W52).ext E60).wr W95).ext E104).wr W147)
  have f157 : Exa Z h147 b2 s0n := ((f109.ext E104).wr W147)
  have f158 : Fld Z h147 b2 s4n "modCount" "I" (.int 0) := ((((((((((p11_1.other W15 (Or.inl (Ne.symm ne3))).ext E19).other W31 (Or.inl (Ne.symm ne3))).other W35 (Or.inl (Ne.symm ne3))).ext E39).other W52 (Or.inl (Ne.symm ne3))).ext E60).other W95 (Or.inl ne43)).ext E104).other W147 (Or.inl ne43))
  have f159 : Fld Z h147 b2 s0n "elementData" s1n (.ref wDEFAULTCAPACITY_EMPTY_ELEMENTDATA) := ((((((((((p11_2.other W15 (Or.inl (Ne.symm ne3))).ext E19).other W31 (Or.inl (Ne.symm ne3))).other W35 (Or.inl (Ne.symm ne3))).ext E39).other W52 (Or.inl (Ne.symm ne3))).ext E60).other W95 (Or.inl ne43)).ext E104).other W147 (Or.inl ne43))
  have f160 : Fld Z h147 b2 s0n "size" "I" (.int 0) := ((((((((((p11_3.other W15 (Or.inl (Ne.symm ne3))).ext E19).other W31 (Or.inl (Ne.symm ne3))).other W35 (Or.inl (Ne.symm ne3))).ext E39).other W52 (Or.inl (Ne.symm ne3))).ext E60).other W95 (Or.inl ne43)).ext E104).other W147 (Or.inl ne43))
  have f161 : Exa Z h147 b19 "[I" := ((((((((Z19.wr W31).wr W35).ext E39).wr W52).ext E60).wr W95).ext E104).wr W147)
  have f162 : Arv Z h147 b19 pk4 .int (2 : Int32) ([(.int 3), (.int 2)]) (.int 0) := ((f111.ext E104).other W147 ne45)
  have f163 : Exa Z h147 b60 "[[I" := (((Z60.wr W95).ext E104).wr W147)
  have f164 : Arv Z h147 b60 k60 (.array .int) (3 : Int32) ([(.ref bm59_0), (.ref bm59_1), (.ref bm59_2)]) .null := ((f114.ext E104).other W147 (Ne.symm ne68))
  have f165 : Exa Z h147 b104 "[[I" := (Z104.wr W147)
  have f166 : Arv Z h147 b104 k104 (.array .int) (2 : Int32) ([(.ref bm103_0), (.ref bm103_1)]) .null := (V104.other W147 (Ne.symm ne112))
  have f167 : Exa Z h147 bm59_0 "[I" := (((Z60_0.wr W95).ext E104).wr W147)
  have f168 : Arv Z h147 bm59_0 c60 .int (3 : Int32) ([(.int 0), (.int 0), (.int 0)]) (.int 0) := ((f116.ext E104).other W147 (Ne.symm ne76))
  have f169 : Exa Z h147 bm59_1 "[I" := (((Z60_1.wr W95).ext E104).wr W147)
  have f170 : Arv Z h147 bm59_1 c60 .int (3 : Int32) ([(.int 0), (.int 0), (.int 0)]) (.int 0) := ((f118.ext E104).other W147 (Ne.symm ne83))
  have f171 : Exa Z h147 bm59_2 "[I" := (((Z60_2.wr W95).ext E104).wr W147)
  have f172 : Arv Z h147 bm59_2 c60 .int (3 : Int32) ([(.int 0), (.int 0), (.int 0)]) (.int 0) := ((f120.ext E104).other W147 (Ne.symm ne90))
  have f173 : Exa Z h147 bm103_0 "[I" := (Z104_0.wr W147)
  have f174 : Arv Z h147 bm103_0 c104 .int (2 : Int32) ([(.int 0), (.int 0)]) (.int 0) := (V104_0.other W147 (Ne.symm ne127))
  have f175 : Exa Z h147 bm103_1 "[I" := (Z104_1.wr W147)
  have f176 : Arv Z h147 bm103_1 c104 .int (2 : Int32) ([(.int 0), (.int 0)]) (.int 0) := (V104_1.other W147 (Ne.symm ne138))
  obtain ⟨fs, hr, hrun, hended, hW, hsame⟩ := X147.leave (v := none) (fun _ => rfl)
  refine ⟨_, _, pre0 _ ?_, hrun, hended, _, _, rfl, ?_, ⟨_, rfl⟩, hW, hsame.mono (by decide) (by decide)⟩
  · skip
    show Steps p.tables e below (s₁.setTop (mkF m 0 #[(vr pa1), (vr pa2), (vi pi3), .unset] [])) _
    refine XS.aloadN X0.here hx rfl (hb hby d2_0) rfl rfl ?_
    refine st1 _ ?_
    refine XS.aloadN X1.here hx rfl (hb hby d2_4) rfl rfl ?_
    refine st2 _ ?_
    refine XS.dup X2.here hx rfl (hb hby d2_8) rfl rfl ?_
    refine st11.trans ?_
    show Steps p.tables e below (T11.setTop (mkF m 12 #[(vr pa1), (vr pa2), (vi pi3), .unset] [(.ref b2), (.ref pa1)])) _
    refine st15 _ ?_
    refine XS.aloadN X15.here hx rfl (hb hby d2_15) rfl rfl ?_
    refine XS.aloadN X15.here hx rfl (hb hby d2_16) rfl rfl ?_
    refine st19 _ ?_
    refine st28 _ ?_
    refine st31 _ ?_
    show Steps p.tables e below (T31.setTop (mkF m 26 #[(vr pa1), (vr pa2), (vi pi3), .unset] [])) _
    refine XS.aloadN X31.here hx rfl (hb hby d2_26) rfl rfl ?_
    refine XS.iloadN X31.here hx rfl (hb hby d2_27) rfl ?_
    refine st35 _ ?_
    refine XS.aloadN X35.here hx rfl (hb hby d2_31) rfl rfl ?_
    refine XS.aloadN X35.here hx rfl (hb hby d2_32) rfl rfl ?_
    refine X35.arraylength hx (by rw [e35]; exact Ar38.1) (State.isArrayOf_alike hZ.alike Ar38.2.1) (g := (mkF m 33 #[(vr pa1), (vr pa2), (vi pi3), .unset] [(.ref pa2), (.ref pa1)])) rfl rfl (hb hby d2_33) _ ?_
    rw [len_of Sz38 Nn38]
    show Steps p.tables e below (T35.setTop (mkF m 34 #[(vr pa1), (vr pa2), (vi pi3), .unset] [(.int 2), (.ref pa1)])) _
    refine st39 _ ?_
    refine st52 _ ?_
    refine XS.iconst X52.here hx rfl (hb hby d2_40) ?_
    refine XS.istoreN X52.here hx rfl (hb hby d2_41) rfl (l' := #[(vr pa1), (vr pa2), (vi pi3), (vi 0)]) rfl ?_
    refine XS.iloadN X52.here hx rfl (hb hby d2_42) rfl ?_
    refine XS.aloadN X52.here hx rfl (hb hby d2_43) rfl rfl ?_
    show Steps p.tables e below (T52.setTop (mkF m 44 #[(vr pa1), (vr pa2), (vi pi3), (vi 0)] [(.ref pa2), (.int 0)])) _
    refine X52.arraylength hx (by rw [e52]; exact Ar55.1) (State.isArrayOf_alike hZ.alike Ar55.2.1) (g := (mkF m 44 #[(vr pa1), (vr pa2), (vi pi3), (vi 0)] [(.ref pa2), (.int 0)])) rfl rfl (hb hby d2_44) _ ?_
    rw [len_of Sz55 Nn55]
    refine XS.icmpNo X52.here hx rfl (hb hby d2_45) rfl (tlt (by decide : (0 : Int32) < (2 : Int32))).2.1 ?_
    refine XS.aloadN X52.here hx rfl (hb hby d2_48) rfl rfl ?_
    refine st56 _ ?_
    refine XS.iloadN X56.here hx rfl (hb hby d2_52) rfl ?_
    refine XS.aloadN X56.here hx rfl (hb hby d2_53) rfl rfl ?_
    show Steps p.tables e below (T56.setTop (mkF m 54 #[(vr pa1), (vr pa2), (vi pi3), (vi 0)] [(.ref pa2), (.int 0), (.ref b39)])) _
    refine XS.iloadN X56.here hx rfl (hb hby d2_54) rfl ?_
    refine X56.iaload hx (j := (0 : Int32)) (v := (.int 3)) (by rw [e56]; exact Ar57.1) (State.isArrayOf_alike hZ.alike Ar57.2.1) Ar57.2.2 hin57 hat57 (g := (mkF m 55 #[(vr pa1), (vr pa2), (vi pi3), (vi 0)] [(.int 0), (.ref pa2), (.int 0), (.ref b39)])) rfl rfl (hb hby d2_55) _ ?_
    refine XS.aloadN X56.here hx rfl (hb hby d2_56) rfl rfl ?_
    refine XS.iloadN X56.here hx rfl (hb hby d2_57) rfl ?_
    refine X56.iaload hx (j := (0 : Int32)) (v := (.int 3)) (by rw [e56]; exact Ar58.1) (State.isArrayOf_alike hZ.alike Ar58.2.1) Ar58.2.2 hin58 hat58 (g := (mkF m 58 #[(vr pa1), (vr pa2), (vi pi3), (vi 0)] [(.int 0), (.ref pa2), (.int 3), (.int 0), (.ref b39)])) rfl rfl (hb hby d2_58) _ ?_
    refine st60 _ ?_
    show Steps p.tables e below (T60.setTop (mkF m 63 #[(vr pa1), (vr pa2), (vi pi3), (vi 0)] [(.ref b60), (.int 0), (.ref b39)])) _
    refine st95 _ ?_
    refine XS.iinc X95.here hx rfl (hb hby d2_64) rfl (l' := #[(vr pa1), (vr pa2), (vi pi3), (vi 1)]) rfl ?_
    refine XS.goto X95.here hx rfl (pc0 := 67) (pc' := 42) rfl (hb hby d2_67) (by decide) (by decide) ?_
    refine XS.iloadN X95.here hx rfl (hb hby d2_42) rfl ?_
    refine XS.aloadN X95.here hx rfl (hb hby d2_43) rfl rfl ?_
    refine X95.arraylength hx (by rw [e95]; exact Ar98.1) (State.isArrayOf_alike hZ.alike Ar98.2.1) (g := (mkF m 44 #[(vr pa1), (vr pa2), (vi pi3), (vi 1)] [(.ref pa2), (.int 1)])) rfl rfl (hb hby d2_44) _ ?_
    rw [len_of Sz98 Nn98]
    show Steps p.tables e below (T95.setTop (mkF m 45 #[(vr pa1), (vr pa2), (vi pi3), (vi 1)] [(.int 2), (.int 1)])) _
    refine XS.icmpNo X95.here hx rfl (hb hby d2_45) rfl (tlt (by decide : (1 : Int32) < (2 : Int32))).2.1 ?_
    refine XS.aloadN X95.here hx rfl (hb hby d2_48) rfl rfl ?_
    refine st100 _ ?_
    refine XS.iloadN X100.here hx rfl (hb hby d2_52) rfl ?_
    refine XS.aloadN X100.here hx rfl (hb hby d2_53) rfl rfl ?_
    refine XS.iloadN X100.here hx rfl (hb hby d2_54) rfl ?_
    show Steps p.tables e below (T100.setTop (mkF m 55 #[(vr pa1), (vr pa2), (vi pi3), (vi 1)] [(.int 1), (.ref pa2), (.int 1), (.ref b39)])) _
    refine X100.iaload hx (j := (1 : Int32)) (v := (.int 2)) (by rw [e100]; exact Ar101.1) (State.isArrayOf_alike hZ.alike Ar101.2.1) Ar101.2.2 hin101 hat101 (g := (mkF m 55 #[(vr pa1), (vr pa2), (vi pi3), (vi 1)] [(.int 1), (.ref pa2), (.int 1), (.ref b39)])) rfl rfl (hb hby d2_55) _ ?_
    refine XS.aloadN X100.here hx rfl (hb hby d2_56) rfl rfl ?_
    refine XS.iloadN X100.here hx rfl (hb hby d2_57) rfl ?_
    refine X100.iaload hx (j := (1 : Int32)) (v := (.int 2)) (by rw [e100]; exact Ar102.1) (State.isArrayOf_alike hZ.alike Ar102.2.1) Ar102.2.2 hin102 hat102 (g := (mkF m 58 #[(vr pa1), (vr pa2), (vi pi3), (vi 1)] [(.int 1), (.ref pa2), (.int 2), (.int 1), (.ref b39)])) rfl rfl (hb hby d2_58) _ ?_
    refine st104 _ ?_
    refine st147 _ ?_
    show Steps p.tables e below (T147.setTop (mkF m 64 #[(vr pa1), (vr pa2), (vi pi3), (vi 1)] [])) _
    refine XS.iinc X147.here hx rfl (hb hby d2_64) rfl (l' := #[(vr pa1), (vr pa2), (vi pi3), (vi 2)]) rfl ?_
    refine XS.goto X147.here hx rfl (pc0 := 67) (pc' := 42) rfl (hb hby d2_67) (by decide) (by decide) ?_
    refine XS.iloadN X147.here hx rfl (hb hby d2_42) rfl ?_
    refine XS.aloadN X147.here hx rfl (hb hby d2_43) rfl rfl ?_
    refine X147.arraylength hx (by rw [e147]; exact Ar150.1) (State.isArrayOf_alike hZ.alike Ar150.2.1) (g := (mkF m 44 #[(vr pa1), (vr pa2), (vi pi3), (vi 2)] [(.ref pa2), (.int 2)])) rfl rfl (hb hby d2_44) _ ?_
    rw [len_of Sz150 Nn150]
    refine XS.icmpYes X147.here hx rfl (pc0 := 45) (pc' := 70) rfl (hb hby d2_45) rfl (flt (by decide : ¬ ((2 : Int32) < (2 : Int32)))).2.1 (by decide) (by decide) ?_
    show Steps p.tables e below (T147.setTop (mkF m 70 #[(vr pa1), (vr pa2), (vi pi3), (vi 2)] [])) _
    exact X147.returnOut hx hret0 (hb hby d2_70) hr
  · show Q_au2_0 Z wDEFAULTCAPACITY_EMPTY_ELEMENTDATA kwDEFAULTCAPACITY_EMPTY_ELEMENTDATA pa1 pa2 pi3 pk4 h0 n0 _ T147.heap _
    rw [e147]
    exact ⟨b39, b2, b19, k39, b60, b104, k60, bm59_0, bm59_1, bm59_2, k104, bm103_0, bm103_1, c60, c104, rfl, N147, K148, f151, f152, f153, f154, f155, sz48, f156, V147, O39, sz6, f157, f158, f159, f160, sz26, f161, f162, sz71, f163, f164, O60, sz122, f165, f166, O104, sz78, f167, f168, sz85, f169, f170, sz92, f171, f172, sz133, f173, f174, sz144, f175, f176, (Ne.symm ne43), (Ne.symm ne45), ne68, ne112, ne76, ne83, ne90, ne127, ne138, ne23, ne64, ne108, ne74, ne81, ne88, ne125, ne136, ne66, ne110, ne75, ne82, ne89, ne126, ne137, ne113, ne60_0, ne60_1, ne60_2, ne128, ne139, (Ne.symm ne115), (Ne.symm ne117), (Ne.symm ne119), ne104_0, ne104_1, ne60_0_1, ne60_0_2, ne129, ne140, ne60_1_2, ne130, ne141, ne131, ne142, ne104_0_1⟩
theorem pd_2 : parseMethodDescriptor "([II)V" = some ⟨[(.array .int), .int], none⟩ := by decide +kernel
theorem ef_au7_0 (m : MethodId) (x0 : Addr) (x1 : Addr)  : entryFrame m #[(.ref x0), (.ref x1), .null] 3 = mkF m 0 #[(vr x0), (vr x1), .val .null] [] := by first | (simp [entryFrame, mkF, argsToLocals, Value.category]; done) | rfl
theorem pn_com_example_loopline_loopline_dispatch_Tour : plainName "com/example/loopline/loopline/dispatch/Tour" = true := by first | (simp [plainName, overriddenIn]; done) | decide +kernel
theorem d7_0 : decode prog_39_method_1_code 0 = .ok (.aload_n 0, 1) := by decide +kernel
theorem d7_1 : decode prog_39_method_1_code 1 = .ok (.invokespecial 1, 3) := by decide +kernel
theorem ef_au8_0 (m : MethodId) (x0 : Addr)  : entryFrame m #[(.ref x0)] 1 = mkF m 0 #[(vr x0)] [] := by first | (simp [entryFrame, mkF, argsToLocals, Value.category]; done) | rfl
theorem pn_java_lang_Record : plainName "java/lang/Record" = true := by first | (simp [plainName, overriddenIn]; done) | decide +kernel
theorem d8_0 : decode jdk_30_method_1_code 0 = .ok (.aload_n 0, 1) := by decide +kernel
theorem d8_1 : decode jdk_30_method_1_code 1 = .ok (.invokespecial 1, 3) := by decide +kernel
theorem d8_4 : decode jdk_30_method_1_code 4 = .ok (.return_, 1) := by decide +kernel
def Q_au8_0 (Z : State) (wDEFAULTCAPACITY_EMPTY_ELEMENTDATA : Addr) (kwDEFAULTCAPACITY_EMPTY_ELEMENTDATA : ClassId) (pa1 : Addr) (h0 : Heap) (n0 : Nat) (v : Option Value) (h : Heap) (L : List Loc) : Prop := v = none ∧ Fr n0 L ∧ h = h0
theorem au8_0 (l : Launch) (Z : State) (a0 : Array Value) (hw : ∀ d ∈ tables_1, d.before a0 Z = true) (ws : List Jvm.Cond) (wDEFAULTCAPACITY_EMPTY_ELEMENTDATA : Addr) (kwDEFAULTCAPACITY_EMPTY_ELEMENTDATA : ClassId) (hS : SS Z wDEFAULTCAPACITY_EMPTY_ELEMENTDATA kwDEFAULTCAPACITY_EMPTY_ELEMENTDATA) (pa1 : Addr) (h0 : Heap) (n0 : Nat) (O0 : Old Z n0 h0)  :
    MetB l M5 jdk_30_method_1_code 1 none ws (rmk 1 0 0 12) Z h0 #[(.ref pa1)] (Q_au8_0 Z wDEFAULTCAPACITY_EMPTY_ELEMENTDATA kwDEFAULTCAPACITY_EMPTY_ELEMENTDATA pa1 h0 n0) := by
  refine own_body (plainFor_of_name pn_java_lang_Record) ?_
  intro p e s m below meth c s₁ hx hby hml hown hnm hret0 hlk0 hZ X0 e0
  have N0 := Fr.nil n0
  have pre0 : ∀ t, Steps p.tables e below (s₁.setTop (mkF m 0 #[(vr pa1)] [])) t → Steps p.tables e below (s₁.setTop (entryFrame m #[(.ref pa1)] 1)) t := fun t k => castTop (ef_au8_0 m pa1) k
  have hS0 := hS
  obtain ⟨S_wDEFAULTCAPACITY_EMPTY_ELEMENTDATA, E_wDEFAULTCAPACITY_EMPTY_ELEMENTDATA, V_wDEFAULTCAPACITY_EMPTY_ELEMENTDATA⟩ := hS0
  obtain ⟨T1, X1, e1, st1⟩ := initO X0 hx hZ hown (ow hw 72 rfl) (ow hw 16 rfl) (ow hw 17 rfl) e0 (g := (mkF m 1 #[(vr pa1)] [(.ref pa1)])) rfl (by rw [hml]; rfl) rfl (hb hby d8_1) (by decide) (W := 0) (by show 2 * 0 + _ ≤ _; exact Nat.le_of_eq rfl) (by decide)
  obtain ⟨fs, hr, hrun, hended, hW, hsame⟩ := X1.leave (v := none) (fun _ => rfl)
  refine ⟨_, _, pre0 _ ?_, hrun, hended, _, _, rfl, ?_, ⟨_, rfl⟩, hW, hsame.mono (by decide) (by decide)⟩
  · skip
    show Steps p.tables e below (s₁.setTop (mkF m 0 #[(vr pa1)] [])) _
    refine XS.aloadN X0.here hx rfl (hb hby d8_0) rfl rfl ?_
    refine st1 _ ?_
    exact X1.returnOut hx hret0 (hb hby d8_4) hr
  · show Q_au8_0 Z wDEFAULTCAPACITY_EMPTY_ELEMENTDATA kwDEFAULTCAPACITY_EMPTY_ELEMENTDATA pa1 h0 n0 _ T1.heap _
    rw [e1]
    exact ⟨rfl, N0, rfl⟩
theorem d7_4 : decode prog_39_method_1_code 4 = .ok (.aload_n 0, 1) := by decide +kernel
theorem d7_5 : decode prog_39_method_1_code 5 = .ok (.aload_n 1, 1) := by decide +kernel
theorem d7_6 : decode prog_39_method_1_code 6 = .ok (.putfield 7, 3) := by decide +kernel
theorem d7_9 : decode prog_39_method_1_code 9 = .ok (.aload_n 0, 1) := by decide +kernel
theorem d7_10 : decode prog_39_method_1_code 10 = .ok (.aload_n 2, 1) := by decide +kernel
theorem d7_11 : decode prog_39_method_1_code 11 = .ok (.putfield 13, 3) := by decide +kernel
theorem d7_14 : decode prog_39_method_1_code 14 = .ok (.return_, 1) := by decide +kernel
def Q_au7_0 (Z : State) (wDEFAULTCAPACITY_EMPTY_ELEMENTDATA : Addr) (kwDEFAULTCAPACITY_EMPTY_ELEMENTDATA : ClassId) (pa1 : Addr) (pa2 : Addr) (h0 : Heap) (n0 : Nat) (v : Option Value) (h : Heap) (L : List Loc) : Prop := v = none ∧ Fr n0 L ∧ Keep h0 h [pa1] ∧ Exa Z h pa1 s7n ∧ Fld Z h pa1 s7n "orders" "[[I" (.ref pa2) ∧ Fld Z h pa1 s7n "plan" s8n .null
theorem au7_0 (l : Launch) (Z : State) (a0 : Array Value) (hw : ∀ d ∈ tables_1, d.before a0 Z = true) (ws : List Jvm.Cond) (wDEFAULTCAPACITY_EMPTY_ELEMENTDATA : Addr) (kwDEFAULTCAPACITY_EMPTY_ELEMENTDATA : ClassId) (hS : SS Z wDEFAULTCAPACITY_EMPTY_ELEMENTDATA kwDEFAULTCAPACITY_EMPTY_ELEMENTDATA) (pa1 : Addr) (pa2 : Addr) (h0 : Heap) (n0 : Nat) (O0 : Old Z n0 h0) (P0 : Exa Z h0 pa1 s7n) (P1 : Fld Z h0 pa1 s7n "orders" "[[I" .null) (P2 : Fld Z h0 pa1 s7n "plan" s8n .null) (P15 : n0 ≤ pa1) :
    MetB l M6 prog_39_method_1_code 3 none ws (rmk 2 0 0 24) Z h0 #[(.ref pa1), (.ref pa2), .null] (Q_au7_0 Z wDEFAULTCAPACITY_EMPTY_ELEMENTDATA kwDEFAULTCAPACITY_EMPTY_ELEMENTDATA pa1 pa2 h0 n0) := by
  refine own_body (plainFor_of_name pn_com_example_loopline_loopline_dispatch_Tour) ?_
  intro p e s m below meth c s₁ hx hby hml hown hnm hret0 hlk0 hZ X0 e0
  have N0 := Fr.nil n0
  have pre0 : ∀ t, Steps p.tables e below (s₁.setTop (mkF m 0 #[(vr pa1), (vr pa2), .val .null] [])) t → Steps p.tables e below (s₁.setTop (entryFrame m #[(.ref pa1), (.ref pa2), .null] 3)) t := fun t k => castTop (ef_au7_0 m pa1 pa2) k
  have K0 := Keep.refl h0 [pa1]
  have hS0 := hS
  obtain ⟨S_wDEFAULTCAPACITY_EMPTY_ELEMENTDATA, E_wDEFAULTCAPACITY_EMPTY_ELEMENTDATA, V_wDEFAULTCAPACITY_EMPTY_ELEMENTDATA⟩ := hS0
  obtain ⟨_, _, ⟨T1, L1, k1, n1⟩, -, X1, ⟨Lc1, hQ1, l1, y1, z1⟩, st1⟩ := X0.specialBack hx (y := M5) rfl hown (mvT hZ (ow hw 67 rfl)) (mvT hZ (ow hw 68 rfl)) (mvT hZ (ow hw 71 rfl)) (by decide) (backOf (W := 0) (au8_0 l Z a0 hw [] wDEFAULTCAPACITY_EMPTY_ELEMENTDATA kwDEFAULTCAPACITY_EMPTY_ELEMENTDATA hS pa1 h0 n0 O0 ) hZ (ow hw 71 rfl) (ow hw 70 rfl) (by decide) (by decide)) (g := (mkF m 1 #[(vr pa1), (vr pa2), .val .null] [(.ref pa1)])) rfl (by rw [hml]; rfl) (Steps.refl _) (a := pa1) (argsL := []) (rest := []) (lenOf pd_1 rfl) rfl (by show 2 * 0 + _ ≤ _; exact Nat.le_of_eq rfl) (hb hby d7_1) (fun _ _ => ⟨rfl, e0, (by decide : 0 + 0 ≤ _), (by decide : 0 + 0 ≤ _)⟩)
  dsimp only [Pt.U, Pt.locs, Pt.cells, Pt.slots] at X1 l1 y1 z1 st1 hQ1
  subst l1 y1 z1
  obtain ⟨rfl, Nq1, K1q⟩ := hQ1
  have N1 := Fr.app N0 Nq1
  obtain ⟨T2, h2, X2, e2, W2, st2⟩ := putF X1 hx hZ hown (host := "") (Or.inl (ow hw 73 rfl)) Via.refl K1q P1 P0 (Or.inr ⟨(ow hw 74 rfl), rfl, hnm⟩) (ow hw 62 rfl) (ty := (.array (.array .int))) (by decide) rfl rfl (g := (mkF m 6 #[(vr pa1), (vr pa2), .val .null] [(.ref pa2), (.ref pa1)])) rfl rfl (hb hby d7_6)
  have N2 := Fr.snoc X2 N1 P15
  have O3 : Old Z n0 h2 := O0.wr W2 P15
  have K3 : Keep h0 h2 [pa1] := K0.wr W2 (Or.inl (List.mem_of_getElem? (i := 0) rfl))
  have Fw2 : Fld Z h2 pa1 s7n "orders" "[[I" (.ref pa2) := P1.same W2
  have f4 : Exa Z h2 pa1 s7n := (P0.wr W2)
  have f5 : Fld Z h2 pa1 s7n "plan" s8n .null := (P2.other W2 (Or.inr (slot_ne (Or.inr (ow hw 76 rfl)) (Or.inr (ow hw 74 rfl)) (by decide) (t := (.object s9n)) (t' := (.array (.array .int))) (by decide) (by decide))))
  obtain ⟨T6, h6, X6, e6, W6, st6⟩ := putF X2 hx hZ hown (host := "") (Or.inl (ow hw 75 rfl)) Via.refl e2 f5 f4 (Or.inr ⟨(ow hw 76 rfl), rfl, hnm⟩) (ow hw 62 rfl) (ty := (.object s9n)) (by decide) rfl rfl (g := (mkF m 11 #[(vr pa1), (vr pa2), .val .null] [.null, (.ref pa1)])) rfl rfl (hb hby d7_11)
  have N6 := Fr.snoc X6 N2 P15
  have O7 : Old Z n0 h6 := O3.wr W6 P15
  have K7 : Keep h0 h6 [pa1] := K3.wr W6 (Or.inl (List.mem_of_getElem? (i := 0) rfl))
  have Fw6 : Fld Z h6 pa1 s7n "plan" s8n .null := f5.same W6
  have f8 : Exa Z h6 pa1 s7n := (f4.wr W6)
  have f9 : Fld Z h6 pa1 s7n "orders" "[[I" (.ref pa2) := (Fw2.other W6 (Or.inr (slot_ne (Or.inr (ow hw 74 rfl)) (Or.inr (ow hw 76 rfl)) (by decide) (t := (.array (.array .int))) (t' := (.object s9n)) (by decide) (by decide))))
  obtain ⟨fs, hr, hrun, hended, hW, hsame⟩ := X6.leave (v := none) (fun _ => rfl)
  refine ⟨_, _, pre0 _ ?_, hrun, hended, _, _, rfl, ?_, ⟨_, rfl⟩, hW, hsame.mono (by decide) (by decide)⟩
  · skip
    show Steps p.tables e below (s₁.setTop (mkF m 0 #[(vr pa1), (vr pa2), .val .null] [])) _
    refine XS.aloadN X0.here hx rfl (hb hby d7_0) rfl rfl ?_
    refine st1.trans ?_
    refine XS.aloadN X1.here hx rfl (hb hby d7_4) rfl rfl ?_
    refine XS.aloadN X1.here hx rfl (hb hby d7_5) rfl rfl ?_
    refine st2 _ ?_
    refine XS.aloadN X2.here hx rfl (hb hby d7_9) rfl rfl ?_
    show Steps p.tables e below (T2.setTop (mkF m 10 #[(vr pa1), (vr pa2), .val .null] [(.ref pa1)])) _
    refine XS.aloadN X2.here hx rfl (hb hby d7_10) rfl rfl ?_
    refine st6 _ ?_
    exact X6.returnOut hx hret0 (hb hby d7_14) hr
  · show Q_au7_0 Z wDEFAULTCAPACITY_EMPTY_ELEMENTDATA kwDEFAULTCAPACITY_EMPTY_ELEMENTDATA pa1 pa2 h0 n0 _ T6.heap _
    rw [e6]
    exact ⟨rfl, N6, K7, f8, f9, Fw6⟩
theorem pd_3 : parseMethodDescriptor "([[ILcom/example/loopline/loopline/engine/Plan;)V" = some ⟨[(.array (.array .int)), (.object "com/example/loopline/loopline/engine/Plan")], none⟩ := by decide +kernel
theorem ef_au17_0 (m : MethodId) (x0 : Addr) (x1 : Int32) (x2 : Int32) (x3 : Int32)  : entryFrame m #[(.ref x0), (.int x1), (.int x2), (.int x3)] 4 = mkF m 0 #[(vr x0), (vi x1), (vi x2), (vi x3)] [] := by first | (simp [entryFrame, mkF, argsToLocals, Value.category]; done) | rfl
theorem d17_0 : decode prog_34_method_2_code 0 = .ok (.aload_n 0, 1) := by decide +kernel
theorem d17_1 : decode prog_34_method_2_code 1 = .ok (.getfield 25, 3) := by decide +kernel
theorem d17_4 : decode prog_34_method_2_code 4 = .ok (.i2l, 1) := by decide +kernel
theorem d17_5 : decode prog_34_method_2_code 5 = .ok (.aload_n 0, 1) := by decide +kernel
theorem d17_6 : decode prog_34_method_2_code 6 = .ok (.getfield 22, 3) := by decide +kernel
theorem d17_9 : decode prog_34_method_2_code 9 = .ok (.iload_n 1, 1) := by decide +kernel
theorem d17_10 : decode prog_34_method_2_code 10 = .ok (.iaload, 1) := by decide +kernel
theorem d17_11 : decode prog_34_method_2_code 11 = .ok (.i2l, 1) := by decide +kernel
theorem d17_12 : decode prog_34_method_2_code 12 = .ok (.aload_n 0, 1) := by decide +kernel
theorem d17_13 : decode prog_34_method_2_code 13 = .ok (.getfield 31, 3) := by decide +kernel
theorem d17_16 : decode prog_34_method_2_code 16 = .ok (.iload_n 1, 1) := by decide +kernel
theorem d17_17 : decode prog_34_method_2_code 17 = .ok (.aaload, 1) := by decide +kernel
theorem d17_18 : decode prog_34_method_2_code 18 = .ok (.iload_n 2, 1) := by decide +kernel
theorem d17_19 : decode prog_34_method_2_code 19 = .ok (.aaload, 1) := by decide +kernel
theorem d17_20 : decode prog_34_method_2_code 20 = .ok (.iload_n 3, 1) := by decide +kernel
theorem d17_21 : decode prog_34_method_2_code 21 = .ok (.iaload, 1) := by decide +kernel
theorem d17_22 : decode prog_34_method_2_code 22 = .ok (.i2l, 1) := by decide +kernel
theorem d17_23 : decode prog_34_method_2_code 23 = .ok (.lmul, 1) := by decide +kernel
theorem d17_24 : decode prog_34_method_2_code 24 = .ok (.ladd, 1) := by decide +kernel
theorem d17_25 : decode prog_34_method_2_code 25 = .ok (.lreturn, 1) := by decide +kernel
def Q_au17_0 (Z : State) (wDEFAULTCAPACITY_EMPTY_ELEMENTDATA : Addr) (kwDEFAULTCAPACITY_EMPTY_ELEMENTDATA : ClassId) (pa1 : Addr) (pi2 : Int32) (pa3 : Addr) (pi4 : Int32) (pa6 : Addr) (pk7 : ClassId) (pa8 : Addr) (pa9 : Addr) (pk10 : ClassId) (pk11 : ClassId) (pa12 : Addr) (pa13 : Addr) (pa14 : Addr) (pk18 : ClassId) (h0 : Heap) (n0 : Nat) (v : Option Value) (h : Heap) (L : List Loc) : Prop := v = some (.long ((pi4.toInt64) + ((3 : Int64) * ((selT pi2 (0 : Int32) (0 : Int32) (0 : Int32)).toInt64)))) ∧ Fr n0 L ∧ h = h0
theorem au17_0 (l : Launch) (Z : State) (a0 : Array Value) (hw : ∀ d ∈ tables_1, d.before a0 Z = true) (ws : List Jvm.Cond) (wDEFAULTCAPACITY_EMPTY_ELEMENTDATA : Addr) (kwDEFAULTCAPACITY_EMPTY_ELEMENTDATA : ClassId) (hS : SS Z wDEFAULTCAPACITY_EMPTY_ELEMENTDATA kwDEFAULTCAPACITY_EMPTY_ELEMENTDATA) (pa1 : Addr) (pi2 : Int32) (pa3 : Addr) (pi4 : Int32) (pa6 : Addr) (pk7 : ClassId) (pa8 : Addr) (pa9 : Addr) (pk10 : ClassId) (pk11 : ClassId) (pa12 : Addr) (pa13 : Addr) (pa14 : Addr) (pk18 : ClassId) (h0 : Heap) (n0 : Nat) (O0 : Old Z n0 h0) (P1 : Fld Z h0 pa1 s3n "counts" "[[[I" (.ref pa3)) (P2 : Fld Z h0 pa1 s3n "memory" "I" (.int pi4)) (P4 : Fld Z h0 pa1 s3n "trains" "[I" (.ref pa6)) (P5 : Arv Z h0 pa3 pk7 (.array (.array .int)) (2 : Int32) ([(.ref pa8), (.ref pa9)]) .null) (P12 : Arv Z h0 pa6 pk10 .int (2 : Int32) ([(.int 3), (.int 2)]) (.int 0)) (P14 : Arv Z h0 pa8 pk11 (.array .int) (3 : Int32) ([(.ref pa12), (.ref pa13), (.ref pa14)]) .null) (P20 : Arv Z h0 pa12 pk18 .int (3 : Int32) ([(.int 0), (.int 0), (.int 0)]) (.int 0)) (P32 : inT pi2) :
    MetB l M7 prog_34_method_2_code 4 (some .long) ws (rmk 0 0 0 0) Z h0 #[(.ref pa1), (.int 0), (.int 0), (.int pi2)] (Q_au17_0 Z wDEFAULTCAPACITY_EMPTY_ELEMENTDATA kwDEFAULTCAPACITY_EMPTY_ELEMENTDATA pa1 pi2 pa3 pi4 pa6 pk7 pa8 pa9 pk10 pk11 pa12 pa13 pa14 pk18 h0 n0) := by
  refine own_body (plainFor_of_name pn_com_example_loopline_loopline_dispatch_Pheromone) ?_
  intro p e s m below meth c s₁ hx hby hml hown hnm hret0 hlk0 hZ X0 e0
  have N0 := Fr.nil n0
  have pre0 : ∀ t, Steps p.tables e below (s₁.setTop (mkF m 0 #[(vr pa1), (vi 0), (vi 0), (vi pi2)] [])) t → Steps p.tables e below (s₁.setTop (entryFrame m #[(.ref pa1), (.int 0), (.int 0), (.int pi2)] 4)) t := fun t k => castTop (ef_au17_0 m pa1 (0 : Int32) (0 : Int32) pi2) k
  have hS0 := hS
  obtain ⟨S_wDEFAULTCAPACITY_EMPTY_ELEMENTDATA, E_wDEFAULTCAPACITY_EMPTY_ELEMENTDATA, V_wDEFAULTCAPACITY_EMPTY_ELEMENTDATA⟩ := hS0
  obtain ⟨T1, X1, e1, st1⟩ := getF X0 hx hZ hown (host := "") (Or.inl (ow hw 54 rfl)) Via.refl e0 P2 (g := (mkF m 1 #[(vr pa1), (vi 0), (vi 0), (vi pi2)] [(.ref pa1)])) rfl rfl (hb hby d17_1)
  obtain ⟨T2, X2, e2, st2⟩ := getF X1 hx hZ hown (host := "") (Or.inl (ow hw 52 rfl)) Via.refl e1 P4 (g := (mkF m 6 #[(vr pa1), (vi 0), (vi 0), (vi pi2)] [(.ref pa1), (.long (pi4.toInt64))])) rfl rfl (hb hby d17_6)
  obtain ⟨cl3, Ar3, qc3, Sz3, Nn3, Ha3, Gg3⟩ := (id P12)
  have hin3 : ¬ ((0 : Int32) < 0 ∨ cl3.slots.size ≤ ((0 : Int32)).toNatClampNeg) := inb_of Sz3 ⟨by decide, by decide⟩
  have hat3 : cl3.slots[((0 : Int32)).toNatClampNeg]? = some (.int 3) := Ha3.at hin3 rfl
  obtain ⟨T4, X4, e4, st4⟩ := getF X2 hx hZ hown (host := "") (Or.inl (ow hw 58 rfl)) Via.refl e2 P1 (g := (mkF m 13 #[(vr pa1), (vi 0), (vi 0), (vi pi2)] [(.ref pa1), (.long 3), (.long (pi4.toInt64))])) rfl rfl (hb hby d17_13)
  obtain ⟨cl5, Ar5, qc5, Sz5, Nn5, Ha5, Gg5⟩ := (id P5)
  have hin5 : ¬ ((0 : Int32) < 0 ∨ cl5.slots.size ≤ ((0 : Int32)).toNatClampNeg) := inb_of Sz5 ⟨by decide, by decide⟩
  have hat5 : cl5.slots[((0 : Int32)).toNatClampNeg]? = some (.ref pa8) := Ha5.at hin5 rfl
  obtain ⟨cl6, Ar6, qc6, Sz6, Nn6, Ha6, Gg6⟩ := (id P14)
  have hin6 : ¬ ((0 : Int32) < 0 ∨ cl6.slots.size ≤ ((0 : Int32)).toNatClampNeg) := inb_of Sz6 ⟨by decide, by decide⟩
  have hat6 : cl6.slots[((0 : Int32)).toNatClampNeg]? = some (.ref pa12) := Ha6.at hin6 rfl
  obtain ⟨cl7, Ar7, qc7, Sz7, Nn7, Ha7, Gg7⟩ := (id P20)
  have hin7 : ¬ (pi2 < 0 ∨ cl7.slots.size ≤ (pi2).toNatClampNeg) := own_inbT P32 Sz7
  have hat7 : cl7.slots[(pi2).toNatClampNeg]? = some (.int (selT pi2 (0 : Int32) (0 : Int32) (0 : Int32))) := Ha7.at hin7 (own_getT P32)
  obtain ⟨fs, hr, hrun, hended, hW, hsame⟩ := X4.leave (v := some (.long ((pi4.toInt64) + ((3 : Int64) * ((selT pi2 (0 : Int32) (0 : Int32) (0 : Int32)).toInt64))))) (fun h => by rw [hret0] at h; cases h)
  refine ⟨_, _, pre0 _ ?_, hrun, hended, _, _, rfl, ?_, ⟨_, rfl⟩, hW, hsame.mono (by decide) (by decide)⟩
  · skip
    show Steps p.tables e below (s₁.setTop (mkF m 0 #[(vr pa1), (vi 0), (vi 0), (vi pi2)] [])) _
    refine XS.aloadN X0.here hx rfl (hb hby d17_0) rfl rfl ?_
    refine st1 _ ?_
    refine XS.i2l X1.here hx rfl (hb hby d17_4) rfl ?_
    refine XS.aloadN X1.here hx rfl (hb hby d17_5) rfl rfl ?_
    refine st2 _ ?_
    refine XS.iloadN X2.here hx rfl (hb hby d17_9) rfl ?_
    show Steps p.tables e below (T2.setTop (mkF m 10 #[(vr pa1), (vi 0), (vi 0), (vi pi2)] [(.int 0), (.ref pa6), (.long (pi4.toInt64))])) _
    refine X2.iaload hx (j := (0 : Int32)) (v := (.int 3)) (by rw [e2]; exact Ar3.1) (State.isArrayOf_alike hZ.alike Ar3.2.1) Ar3.2.2 hin3 hat3 (g := (mkF m 10 #[(vr pa1), (vi 0), (vi 0), (vi pi2)] [(.int 0), (.ref pa6), (.long (pi4.toInt64))])) rfl rfl (hb hby d17_10) _ ?_
    refine XS.i2l X2.here hx rfl (hb hby d17_11) rfl ?_
    refine XS.aloadN X2.here hx rfl (hb hby d17_12) rfl rfl ?_
    refine st4 _ ?_
    refine XS.iloadN X4.here hx rfl (hb hby d17_16) rfl ?_
    refine X4.aaload hx (j := (0 : Int32)) (v := (.ref pa8)) (by rw [e4]; exact Ar5.1) (State.isArrayOf_alike hZ.alike Ar5.2.1) rfl Ar5.2.2 hin5 hat5 (g := (mkF m 17 #[(vr pa1), (vi 0), (vi 0), (vi pi2)] [(.int 0), (.ref pa3), (.long 3), (.long (pi4.toInt64))])) rfl rfl (hb hby d17_17) _ ?_
    show Steps p.tables e below (T4.setTop (mkF m 18 #[(vr pa1), (vi 0), (vi 0), (vi pi2)] [(.ref pa8), (.long 3), (.long (pi4.toInt64))])) _
    refine XS.iloadN X4.here hx rfl (hb hby d17_18) rfl ?_
    refine X4.aaload hx (j := (0 : Int32)) (v := (.ref pa12)) (by rw [e4]; exact Ar6.1) (State.isArrayOf_alike hZ.alike Ar6.2.1) rfl Ar6.2.2 hin6 hat6 (g := (mkF m 19 #[(vr pa1), (vi 0), (vi 0), (vi pi2)] [(.int 0), (.ref pa8), (.long 3), (.long (pi4.toInt64))])) rfl rfl (hb hby d17_19) _ ?_
    refine XS.iloadN X4.here hx rfl (hb hby d17_20) rfl ?_
    refine X4.iaload hx (j := pi2) (v := (.int (selT pi2 (0 : Int32) (0 : Int32) (0 : Int32)))) (by rw [e4]; exact Ar7.1) (State.isArrayOf_alike hZ.alike Ar7.2.1) Ar7.2.2 hin7 hat7 (g := (mkF m 21 #[(vr pa1), (vi 0), (vi 0), (vi pi2)] [(.int pi2), (.ref pa12), (.long 3), (.long (pi4.toInt64))])) rfl rfl (hb hby d17_21) _ ?_
    refine XS.i2l X4.here hx rfl (hb hby d17_22) rfl ?_
    refine XS.lmul X4.here hx rfl (hb hby d17_23) rfl ?_
    show Steps p.tables e below (T4.setTop (mkF m 24 #[(vr pa1), (vi 0), (vi 0), (vi pi2)] [(.long ((3 : Int64) * ((selT pi2 (0 : Int32) (0 : Int32) (0 : Int32)).toInt64))), (.long (pi4.toInt64))])) _
    refine XS.ladd X4.here hx rfl (hb hby d17_24) rfl ?_
    jvm_step X4.here [X4.here.top, hx, (hb hby d17_25), X4.method', hret0, narrow]
    first | (intro acts; rw [hr _ acts rfl rfl rfl]) | rw [hr _ _ rfl rfl rfl]
    exact Steps.refl _
  · show Q_au17_0 Z wDEFAULTCAPACITY_EMPTY_ELEMENTDATA kwDEFAULTCAPACITY_EMPTY_ELEMENTDATA pa1 pi2 pa3 pi4 pa6 pk7 pa8 pa9 pk10 pk11 pa12 pa13 pa14 pk18 h0 n0 _ T4.heap _
    rw [e4]
    exact ⟨rfl, N0, rfl⟩
theorem pd_4 : parseMethodDescriptor "(III)J" = some ⟨[.int, .int, .int], some .long⟩ := by decide +kernel
theorem ef_au17_1 (m : MethodId) (x0 : Addr) (x1 : Int32) (x2 : Int32) (x3 : Int32)  : entryFrame m #[(.ref x0), (.int x1), (.int x2), (.int x3)] 4 = mkF m 0 #[(vr x0), (vi x1), (vi x2), (vi x3)] [] := by first | (simp [entryFrame, mkF, argsToLocals, Value.category]; done) | rfl
def Q_au17_1 (Z : State) (wDEFAULTCAPACITY_EMPTY_ELEMENTDATA : Addr) (kwDEFAULTCAPACITY_EMPTY_ELEMENTDATA : ClassId) (pa1 : Addr) (pi2 : Int32) (pa3 : Addr) (pi4 : Int32) (pa6 : Addr) (pk7 : ClassId) (pa8 : Addr) (pa9 : Addr) (pk10 : ClassId) (pk11 : ClassId) (pa12 : Addr) (pa13 : Addr) (pa14 : Addr) (pk18 : ClassId) (h0 : Heap) (n0 : Nat) (v : Option Value) (h : Heap) (L : List Loc) : Prop := v = some (.long ((pi4.toInt64) + ((3 : Int64) * ((selT pi2 (0 : Int32) (0 : Int32) (0 : Int32)).toInt64)))) ∧ Fr n0 L ∧ h = h0
theorem au17_1 (l : Launch) (Z : State) (a0 : Array Value) (hw : ∀ d ∈ tables_1, d.before a0 Z = true) (ws : List Jvm.Cond) (wDEFAULTCAPACITY_EMPTY_ELEMENTDATA : Addr) (kwDEFAULTCAPACITY_EMPTY_ELEMENTDATA : ClassId) (hS : SS Z wDEFAULTCAPACITY_EMPTY_ELEMENTDATA kwDEFAULTCAPACITY_EMPTY_ELEMENTDATA) (pa1 : Addr) (pi2 : Int32) (pa3 : Addr) (pi4 : Int32) (pa6 : Addr) (pk7 : ClassId) (pa8 : Addr) (pa9 : Addr) (pk10 : ClassId) (pk11 : ClassId) (pa12 : Addr) (pa13 : Addr) (pa14 : Addr) (pk18 : ClassId) (h0 : Heap) (n0 : Nat) (O0 : Old Z n0 h0) (P1 : Fld Z h0 pa1 s3n "counts" "[[[I" (.ref pa3)) (P2 : Fld Z h0 pa1 s3n "memory" "I" (.int pi4)) (P4 : Fld Z h0 pa1 s3n "trains" "[I" (.ref pa6)) (P5 : Arv Z h0 pa3 pk7 (.array (.array .int)) (2 : Int32) ([(.ref pa8), (.ref pa9)]) .null) (P12 : Arv Z h0 pa6 pk10 .int (2 : Int32) ([(.int 3), (.int 2)]) (.int 0)) (P14 : Arv Z h0 pa8 pk11 (.array .int) (3 : Int32) ([(.ref pa12), (.ref pa13), (.ref pa14)]) .null) (P22 : Arv Z h0 pa13 pk18 .int (3 : Int32) ([(.int 0), (.int 0), (.int 0)]) (.int 0)) (P32 : inT pi2) :
    MetB l M7 prog_34_method_2_code 4 (some .long) ws (rmk 0 0 0 0) Z h0 #[(.ref pa1), (.int 0), (.int 1), (.int pi2)] (Q_au17_1 Z wDEFAULTCAPACITY_EMPTY_ELEMENTDATA kwDEFAULTCAPACITY_EMPTY_ELEMENTDATA pa1 pi2 pa3 pi4 pa6 pk7 pa8 pa9 pk10 pk11 pa12 pa13 pa14 pk18 h0 n0) := by
  refine own_body (plainFor_of_name pn_com_example_loopline_loopline_dispatch_Pheromone) ?_
  intro p e s m below meth c s₁ hx hby hml hown hnm hret0 hlk0 hZ X0 e0
  have N0 := Fr.nil n0
  have pre0 : ∀ t, Steps p.tables e below (s₁.setTop (mkF m 0 #[(vr pa1), (vi 0), (vi 1), (vi pi2)] [])) t → Steps p.tables e below (s₁.setTop (entryFrame m #[(.ref pa1), (.int 0), (.int 1), (.int pi2)] 4)) t := fun t k => castTop (ef_au17_1 m pa1 (0 : Int32) (1 : Int32) pi2) k
  have hS0 := hS
  obtain ⟨S_wDEFAULTCAPACITY_EMPTY_ELEMENTDATA, E_wDEFAULTCAPACITY_EMPTY_ELEMENTDATA, V_wDEFAULTCAPACITY_EMPTY_ELEMENTDATA⟩ := hS0
  obtain ⟨T1, X1, e1, st1⟩ := getF X0 hx hZ hown (host := "") (Or.inl (ow hw 54 rfl)) Via.refl e0 P2 (g := (mkF m 1 #[(vr pa1), (vi 0), (vi 1), (vi pi2)] [(.ref pa1)])) rfl rfl (hb hby d17_1)
  obtain ⟨T2, X2, e2, st2⟩ := getF X1 hx hZ hown (host := "") (Or.inl (ow hw 52 rfl)) Via.refl e1 P4 (g := (mkF m 6 #[(vr pa1), (vi 0), (vi 1), (vi pi2)] [(.ref pa1), (.long (pi4.toInt64))])) rfl rfl (hb hby d17_6)
  obtain ⟨cl3, Ar3, qc3, Sz3, Nn3, Ha3, Gg3⟩ := (id P12)
  have hin3 : ¬ ((0 : Int32) < 0 ∨ cl3.slots.size ≤ ((0 : Int32)).toNatClampNeg) := inb_of Sz3 ⟨by decide, by decide⟩
  have hat3 : cl3.slots[((0 : Int32)).toNatClampNeg]? = some (.int 3) := Ha3.at hin3 rfl
  obtain ⟨T4, X4, e4, st4⟩ := getF X2 hx hZ hown (host := "") (Or.inl (ow hw 58 rfl)) Via.refl e2 P1 (g := (mkF m 13 #[(vr pa1), (vi 0), (vi 1), (vi pi2)] [(.ref pa1), (.long 3), (.long (pi4.toInt64))])) rfl rfl (hb hby d17_13)
  obtain ⟨cl5, Ar5, qc5, Sz5, Nn5, Ha5, Gg5⟩ := (id P5)
  have hin5 : ¬ ((0 : Int32) < 0 ∨ cl5.slots.size ≤ ((0 : Int32)).toNatClampNeg) := inb_of Sz5 ⟨by decide, by decide⟩
  have hat5 : cl5.slots[((0 : Int32)).toNatClampNeg]? = some (.ref pa8) := Ha5.at hin5 rfl
  obtain ⟨cl6, Ar6, qc6, Sz6, Nn6, Ha6, Gg6⟩ := (id P14)
  have hin6 : ¬ ((1 : Int32) < 0 ∨ cl6.slots.size ≤ ((1 : Int32)).toNatClampNeg) := inb_of Sz6 ⟨by decide, by decide⟩
  have hat6 : cl6.slots[((1 : Int32)).toNatClampNeg]? = some (.ref pa13) := Ha6.at hin6 rfl
  obtain ⟨cl7, Ar7, qc7, Sz7, Nn7, Ha7, Gg7⟩ := (id P22)
  have hin7 : ¬ (pi2 < 0 ∨ cl7.slots.size ≤ (pi2).toNatClampNeg) := own_inbT P32 Sz7
  have hat7 : cl7.slots[(pi2).toNatClampNeg]? = some (.int (selT pi2 (0 : Int32) (0 : Int32) (0 : Int32))) := Ha7.at hin7 (own_getT P32)
  obtain ⟨fs, hr, hrun, hended, hW, hsame⟩ := X4.leave (v := some (.long ((pi4.toInt64) + ((3 : Int64) * ((selT pi2 (0 : Int32) (0 : Int32) (0 : Int32)).toInt64))))) (fun h => by rw [hret0] at h; cases h)
  refine ⟨_, _, pre0 _ ?_, hrun, hended, _, _, rfl, ?_, ⟨_, rfl⟩, hW, hsame.mono (by decide) (by decide)⟩
  · skip
    show Steps p.tables e below (s₁.setTop (mkF m 0 #[(vr pa1), (vi 0), (vi 1), (vi pi2)] [])) _
    refine XS.aloadN X0.here hx rfl (hb hby d17_0) rfl rfl ?_
    refine st1 _ ?_
    refine XS.i2l X1.here hx rfl (hb hby d17_4) rfl ?_
    refine XS.aloadN X1.here hx rfl (hb hby d17_5) rfl rfl ?_
    refine st2 _ ?_
    refine XS.iloadN X2.here hx rfl (hb hby d17_9) rfl ?_
    show Steps p.tables e below (T2.setTop (mkF m 10 #[(vr pa1), (vi 0), (vi 1), (vi pi2)] [(.int 0), (.ref pa6), (.long (pi4.toInt64))])) _
    refine X2.iaload hx (j := (0 : Int32)) (v := (.int 3)) (by rw [e2]; exact Ar3.1) (State.isArrayOf_alike hZ.alike Ar3.2.1) Ar3.2.2 hin3 hat3 (g := (mkF m 10 #[(vr pa1), (vi 0), (vi 1), (vi pi2)] [(.int 0), (.ref pa6), (.long (pi4.toInt64))])) rfl rfl (hb hby d17_10) _ ?_
    refine XS.i2l X2.here hx rfl (hb hby d17_11) rfl ?_
    refine XS.aloadN X2.here hx rfl (hb hby d17_12) rfl rfl ?_
    refine st4 _ ?_
    refine XS.iloadN X4.here hx rfl (hb hby d17_16) rfl ?_
    refine X4.aaload hx (j := (0 : Int32)) (v := (.ref pa8)) (by rw [e4]; exact Ar5.1) (State.isArrayOf_alike hZ.alike Ar5.2.1) rfl Ar5.2.2 hin5 hat5 (g := (mkF m 17 #[(vr pa1), (vi 0), (vi 1), (vi pi2)] [(.int 0), (.ref pa3), (.long 3), (.long (pi4.toInt64))])) rfl rfl (hb hby d17_17) _ ?_
    show Steps p.tables e below (T4.setTop (mkF m 18 #[(vr pa1), (vi 0), (vi 1), (vi pi2)] [(.ref pa8), (.long 3), (.long (pi4.toInt64))])) _
    refine XS.iloadN X4.here hx rfl (hb hby d17_18) rfl ?_
    refine X4.aaload hx (j := (1 : Int32)) (v := (.ref pa13)) (by rw [e4]; exact Ar6.1) (State.isArrayOf_alike hZ.alike Ar6.2.1) rfl Ar6.2.2 hin6 hat6 (g := (mkF m 19 #[(vr pa1), (vi 0), (vi 1), (vi pi2)] [(.int 1), (.ref pa8), (.long 3), (.long (pi4.toInt64))])) rfl rfl (hb hby d17_19) _ ?_
    refine XS.iloadN X4.here hx rfl (hb hby d17_20) rfl ?_
    refine X4.iaload hx (j := pi2) (v := (.int (selT pi2 (0 : Int32) (0 : Int32) (0 : Int32)))) (by rw [e4]; exact Ar7.1) (State.isArrayOf_alike hZ.alike Ar7.2.1) Ar7.2.2 hin7 hat7 (g := (mkF m 21 #[(vr pa1), (vi 0), (vi 1), (vi pi2)] [(.int pi2), (.ref pa13), (.long 3), (.long (pi4.toInt64))])) rfl rfl (hb hby d17_21) _ ?_
    refine XS.i2l X4.here hx rfl (hb hby d17_22) rfl ?_
    refine XS.lmul X4.here hx rfl (hb hby d17_23) rfl ?_
    show Steps p.tables e below (T4.setTop (mkF m 24 #[(vr pa1), (vi 0), (vi 1), (vi pi2)] [(.long ((3 : Int64) * ((selT pi2 (0 : Int32) (0 : Int32) (0 : Int32)).toInt64))), (.long (pi4.toInt64))])) _
    refine XS.ladd X4.here hx rfl (hb hby d17_24) rfl ?_
    jvm_step X4.here [X4.here.top, hx, (hb hby d17_25), X4.method', hret0, narrow]
    first | (intro acts; rw [hr _ acts rfl rfl rfl]) | rw [hr _ _ rfl rfl rfl]
    exact Steps.refl _
  · show Q_au17_1 Z wDEFAULTCAPACITY_EMPTY_ELEMENTDATA kwDEFAULTCAPACITY_EMPTY_ELEMENTDATA pa1 pi2 pa3 pi4 pa6 pk7 pa8 pa9 pk10 pk11 pa12 pa13 pa14 pk18 h0 n0 _ T4.heap _
    rw [e4]
    exact ⟨rfl, N0, rfl⟩
theorem ef_au17_2 (m : MethodId) (x0 : Addr) (x1 : Int32) (x2 : Int32) (x3 : Int32)  : entryFrame m #[(.ref x0), (.int x1), (.int x2), (.int x3)] 4 = mkF m 0 #[(vr x0), (vi x1), (vi x2), (vi x3)] [] := by first | (simp [entryFrame, mkF, argsToLocals, Value.category]; done) | rfl
def Q_au17_2 (Z : State) (wDEFAULTCAPACITY_EMPTY_ELEMENTDATA : Addr) (kwDEFAULTCAPACITY_EMPTY_ELEMENTDATA : ClassId) (pa1 : Addr) (pi2 : Int32) (pa3 : Addr) (pi4 : Int32) (pa6 : Addr) (pk7 : ClassId) (pa8 : Addr) (pa9 : Addr) (pk10 : ClassId) (pk11 : ClassId) (pa12 : Addr) (pa13 : Addr) (pa14 : Addr) (pk18 : ClassId) (h0 : Heap) (n0 : Nat) (v : Option Value) (h : Heap) (L : List Loc) : Prop := v = some (.long ((pi4.toInt64) + ((3 : Int64) * ((selT pi2 (0 : Int32) (0 : Int32) (0 : Int32)).toInt64)))) ∧ Fr n0 L ∧ h = h0
theorem au17_2 (l : Launch) (Z : State) (a0 : Array Value) (hw : ∀ d ∈ tables_1, d.before a0 Z = true) (ws : List Jvm.Cond) (wDEFAULTCAPACITY_EMPTY_ELEMENTDATA : Addr) (kwDEFAULTCAPACITY_EMPTY_ELEMENTDATA : ClassId) (hS : SS Z wDEFAULTCAPACITY_EMPTY_ELEMENTDATA kwDEFAULTCAPACITY_EMPTY_ELEMENTDATA) (pa1 : Addr) (pi2 : Int32) (pa3 : Addr) (pi4 : Int32) (pa6 : Addr) (pk7 : ClassId) (pa8 : Addr) (pa9 : Addr) (pk10 : ClassId) (pk11 : ClassId) (pa12 : Addr) (pa13 : Addr) (pa14 : Addr) (pk18 : ClassId) (h0 : Heap) (n0 : Nat) (O0 : Old Z n0 h0) (P1 : Fld Z h0 pa1 s3n "counts" "[[[I" (.ref pa3)) (P2 : Fld Z h0 pa1 s3n "memory" "I" (.int pi4)) (P4 : Fld Z h0 pa1 s3n "trains" "[I" (.ref pa6)) (P5 : Arv Z h0 pa3 pk7 (.array (.array .int)) (2 : Int32) ([(.ref pa8), (.ref pa9)]) .null) (P12 : Arv Z h0 pa6 pk10 .int (2 : Int32) ([(.int 3), (.int 2)]) (.int 0)) (P14 : Arv Z h0 pa8 pk11 (.array .int) (3 : Int32) ([(.ref pa12), (.ref pa13), (.ref pa14)]) .null) (P24 : Arv Z h0 pa14 pk18 .int (3 : Int32) ([(.int 0), (.int 0), (.int 0)]) (.int 0)) (P32 : inT pi2) :
    MetB l M7 prog_34_method_2_code 4 (some .long) ws (rmk 0 0 0 0) Z h0 #[(.ref pa1), (.int 0), (.int 2), (.int pi2)] (Q_au17_2 Z wDEFAULTCAPACITY_EMPTY_ELEMENTDATA kwDEFAULTCAPACITY_EMPTY_ELEMENTDATA pa1 pi2 pa3 pi4 pa6 pk7 pa8 pa9 pk10 pk11 pa12 pa13 pa14 pk18 h0 n0) := by
  refine own_body (plainFor_of_name pn_com_example_loopline_loopline_dispatch_Pheromone) ?_
  intro p e s m below meth c s₁ hx hby hml hown hnm hret0 hlk0 hZ X0 e0
  have N0 := Fr.nil n0
  have pre0 : ∀ t, Steps p.tables e below (s₁.setTop (mkF m 0 #[(vr pa1), (vi 0), (vi 2), (vi pi2)] [])) t → Steps p.tables e below (s₁.setTop (entryFrame m #[(.ref pa1), (.int 0), (.int 2), (.int pi2)] 4)) t := fun t k => castTop (ef_au17_2 m pa1 (0 : Int32) (2 : Int32) pi2) k
  have hS0 := hS
  obtain ⟨S_wDEFAULTCAPACITY_EMPTY_ELEMENTDATA, E_wDEFAULTCAPACITY_EMPTY_ELEMENTDATA, V_wDEFAULTCAPACITY_EMPTY_ELEMENTDATA⟩ := hS0
  obtain ⟨T1, X1, e1, st1⟩ := getF X0 hx hZ hown (host := "") (Or.inl (ow hw 54 rfl)) Via.refl e0 P2 (g := (mkF m 1 #[(vr pa1), (vi 0), (vi 2), (vi pi2)] [(.ref pa1)])) rfl rfl (hb hby d17_1)
  obtain ⟨T2, X2, e2, st2⟩ := getF X1 hx hZ hown (host := "") (Or.inl (ow hw 52 rfl)) Via.refl e1 P4 (g := (mkF m 6 #[(vr pa1), (vi 0), (vi 2), (vi pi2)] [(.ref pa1), (.long (pi4.toInt64))])) rfl rfl (hb hby d17_6)
  obtain ⟨cl3, Ar3, qc3, Sz3, Nn3, Ha3, Gg3⟩ := (id P12)
  have hin3 : ¬ ((0 : Int32) < 0 ∨ cl3.slots.size ≤ ((0 : Int32)).toNatClampNeg) := inb_of Sz3 ⟨by decide, by decide⟩
  have hat3 : cl3.slots[((0 : Int32)).toNatClampNeg]? = some (.int 3) := Ha3.at hin3 rfl
  obtain ⟨T4, X4, e4, st4⟩ := getF X2 hx hZ hown (host := "") (Or.inl (ow hw 58 rfl)) Via.refl e2 P1 (g := (mkF m 13 #[(vr pa1), (vi 0), (vi 2), (vi pi2)] [(.ref pa1), (.long 3), (.long (pi4.toInt64))])) rfl rfl (hb hby d17_13)
  obtain ⟨cl5, Ar5, qc5, Sz5, Nn5, Ha5, Gg5⟩ := (id P5)
  have hin5 : ¬ ((0 : Int32) < 0 ∨ cl5.slots.size ≤ ((0 : Int32)).toNatClampNeg) := inb_of Sz5 ⟨by decide, by decide⟩
  have hat5 : cl5.slots[((0 : Int32)).toNatClampNeg]? = some (.ref pa8) := Ha5.at hin5 rfl
  obtain ⟨cl6, Ar6, qc6, Sz6, Nn6, Ha6, Gg6⟩ := (id P14)
  have hin6 : ¬ ((2 : Int32) < 0 ∨ cl6.slots.size ≤ ((2 : Int32)).toNatClampNeg) := inb_of Sz6 ⟨by decide, by decide⟩
  have hat6 : cl6.slots[((2 : Int32)).toNatClampNeg]? = some (.ref pa14) := Ha6.at hin6 rfl
  obtain ⟨cl7, Ar7, qc7, Sz7, Nn7, Ha7, Gg7⟩ := (id P24)
  have hin7 : ¬ (pi2 < 0 ∨ cl7.slots.size ≤ (pi2).toNatClampNeg) := own_inbT P32 Sz7
  have hat7 : cl7.slots[(pi2).toNatClampNeg]? = some (.int (selT pi2 (0 : Int32) (0 : Int32) (0 : Int32))) := Ha7.at hin7 (own_getT P32)
  obtain ⟨fs, hr, hrun, hended, hW, hsame⟩ := X4.leave (v := some (.long ((pi4.toInt64) + ((3 : Int64) * ((selT pi2 (0 : Int32) (0 : Int32) (0 : Int32)).toInt64))))) (fun h => by rw [hret0] at h; cases h)
  refine ⟨_, _, pre0 _ ?_, hrun, hended, _, _, rfl, ?_, ⟨_, rfl⟩, hW, hsame.mono (by decide) (by decide)⟩
  · skip
    show Steps p.tables e below (s₁.setTop (mkF m 0 #[(vr pa1), (vi 0), (vi 2), (vi pi2)] [])) _
    refine XS.aloadN X0.here hx rfl (hb hby d17_0) rfl rfl ?_
    refine st1 _ ?_
    refine XS.i2l X1.here hx rfl (hb hby d17_4) rfl ?_
    refine XS.aloadN X1.here hx rfl (hb hby d17_5) rfl rfl ?_
    refine st2 _ ?_
    refine XS.iloadN X2.here hx rfl (hb hby d17_9) rfl ?_
    show Steps p.tables e below (T2.setTop (mkF m 10 #[(vr pa1), (vi 0), (vi 2), (vi pi2)] [(.int 0), (.ref pa6), (.long (pi4.toInt64))])) _
    refine X2.iaload hx (j := (0 : Int32)) (v := (.int 3)) (by rw [e2]; exact Ar3.1) (State.isArrayOf_alike hZ.alike Ar3.2.1) Ar3.2.2 hin3 hat3 (g := (mkF m 10 #[(vr pa1), (vi 0), (vi 2), (vi pi2)] [(.int 0), (.ref pa6), (.long (pi4.toInt64))])) rfl rfl (hb hby d17_10) _ ?_
    refine XS.i2l X2.here hx rfl (hb hby d17_11) rfl ?_
    refine XS.aloadN X2.here hx rfl (hb hby d17_12) rfl rfl ?_
    refine st4 _ ?_
    refine XS.iloadN X4.here hx rfl (hb hby d17_16) rfl ?_
    refine X4.aaload hx (j := (0 : Int32)) (v := (.ref pa8)) (by rw [e4]; exact Ar5.1) (State.isArrayOf_alike hZ.alike Ar5.2.1) rfl Ar5.2.2 hin5 hat5 (g := (mkF m 17 #[(vr pa1), (vi 0), (vi 2), (vi pi2)] [(.int 0), (.ref pa3), (.long 3), (.long (pi4.toInt64))])) rfl rfl (hb hby d17_17) _ ?_
    show Steps p.tables e below (T4.setTop (mkF m 18 #[(vr pa1), (vi 0), (vi 2), (vi pi2)] [(.ref pa8), (.long 3), (.long (pi4.toInt64))])) _
    refine XS.iloadN X4.here hx rfl (hb hby d17_18) rfl ?_
    refine X4.aaload hx (j := (2 : Int32)) (v := (.ref pa14)) (by rw [e4]; exact Ar6.1) (State.isArrayOf_alike hZ.alike Ar6.2.1) rfl Ar6.2.2 hin6 hat6 (g := (mkF m 19 #[(vr pa1), (vi 0), (vi 2), (vi pi2)] [(.int 2), (.ref pa8), (.long 3), (.long (pi4.toInt64))])) rfl rfl (hb hby d17_19) _ ?_
    refine XS.iloadN X4.here hx rfl (hb hby d17_20) rfl ?_
    refine X4.iaload hx (j := pi2) (v := (.int (selT pi2 (0 : Int32) (0 : Int32) (0 : Int32)))) (by rw [e4]; exact Ar7.1) (State.isArrayOf_alike hZ.alike Ar7.2.1) Ar7.2.2 hin7 hat7 (g := (mkF m 21 #[(vr pa1), (vi 0), (vi 2), (vi pi2)] [(.int pi2), (.ref pa14), (.long 3), (.long (pi4.toInt64))])) rfl rfl (hb hby d17_21) _ ?_
    refine XS.i2l X4.here hx rfl (hb hby d17_22) rfl ?_
    refine XS.lmul X4.here hx rfl (hb hby d17_23) rfl ?_
    show Steps p.tables e below (T4.setTop (mkF m 24 #[(vr pa1), (vi 0), (vi 2), (vi pi2)] [(.long ((3 : Int64) * ((selT pi2 (0 : Int32) (0 : Int32) (0 : Int32)).toInt64))), (.long (pi4.toInt64))])) _
    refine XS.ladd X4.here hx rfl (hb hby d17_24) rfl ?_
    jvm_step X4.here [X4.here.top, hx, (hb hby d17_25), X4.method', hret0, narrow]
    first | (intro acts; rw [hr _ acts rfl rfl rfl]) | rw [hr _ _ rfl rfl rfl]
    exact Steps.refl _
  · show Q_au17_2 Z wDEFAULTCAPACITY_EMPTY_ELEMENTDATA kwDEFAULTCAPACITY_EMPTY_ELEMENTDATA pa1 pi2 pa3 pi4 pa6 pk7 pa8 pa9 pk10 pk11 pa12 pa13 pa14 pk18 h0 n0 _ T4.heap _
    rw [e4]
    exact ⟨rfl, N0, rfl⟩
theorem ef_au17_3 (m : MethodId) (x0 : Addr) (x1 : Int32) (x2 : Int32) (x3 : Int32)  : entryFrame m #[(.ref x0), (.int x1), (.int x2), (.int x3)] 4 = mkF m 0 #[(vr x0), (vi x1), (vi x2), (vi x3)] [] := by first | (simp [entryFrame, mkF, argsToLocals, Value.category]; done) | rfl
def Q_au17_3 (Z : State) (wDEFAULTCAPACITY_EMPTY_ELEMENTDATA : Addr) (kwDEFAULTCAPACITY_EMPTY_ELEMENTDATA : ClassId) (pa1 : Addr) (pi2 : Int32) (pa3 : Addr) (pi4 : Int32) (pa6 : Addr) (pk7 : ClassId) (pa8 : Addr) (pa9 : Addr) (pk10 : ClassId) (pk15 : ClassId) (pa16 : Addr) (pa17 : Addr) (pk19 : ClassId) (h0 : Heap) (n0 : Nat) (v : Option Value) (h : Heap) (L : List Loc) : Prop := v = some (.long ((pi4.toInt64) + ((2 : Int64) * ((selB pi2 (0 : Int32) (0 : Int32)).toInt64)))) ∧ Fr n0 L ∧ h = h0
theorem au17_3 (l : Launch) (Z : State) (a0 : Array Value) (hw : ∀ d ∈ tables_1, d.before a0 Z = true) (ws : List Jvm.Cond) (wDEFAULTCAPACITY_EMPTY_ELEMENTDATA : Addr) (kwDEFAULTCAPACITY_EMPTY_ELEMENTDATA : ClassId) (hS : SS Z wDEFAULTCAPACITY_EMPTY_ELEMENTDATA kwDEFAULTCAPACITY_EMPTY_ELEMENTDATA) (pa1 : Addr) (pi2 : Int32) (pa3 : Addr) (pi4 : Int32) (pa6 : Addr) (pk7 : ClassId) (pa8 : Addr) (pa9 : Addr) (pk10 : ClassId) (pk15 : ClassId) (pa16 : Addr) (pa17 : Addr) (pk19 : ClassId) (h0 : Heap) (n0 : Nat) (O0 : Old Z n0 h0) (P1 : Fld Z h0 pa1 s3n "counts" "[[[I" (.ref pa3)) (P2 : Fld Z h0 pa1 s3n "memory" "I" (.int pi4)) (P4 : Fld Z h0 pa1 s3n "trains" "[I" (.ref pa6)) (P5 : Arv Z h0 pa3 pk7 (.array (.array .int)) (2 : Int32) ([(.ref pa8), (.ref pa9)]) .null) (P12 : Arv Z h0 pa6 pk10 .int (2 : Int32) ([(.int 3), (.int 2)]) (.int 0)) (P17 : Arv Z h0 pa9 pk15 (.array .int) (2 : Int32) ([(.ref pa16), (.ref pa17)]) .null) (P26 : Arv Z h0 pa16 pk19 .int (2 : Int32) ([(.int 0), (.int 0)]) (.int 0)) (P32 : inB pi2) :
    MetB l M7 prog_34_method_2_code 4 (some .long) ws (rmk 0 0 0 0) Z h0 #[(.ref pa1), (.int 1), (.int 0), (.int pi2)] (Q_au17_3 Z wDEFAULTCAPACITY_EMPTY_ELEMENTDATA kwDEFAULTCAPACITY_EMPTY_ELEMENTDATA pa1 pi2 pa3 pi4 pa6 pk7 pa8 pa9 pk10 pk15 pa16 pa17 pk19 h0 n0) := by
  refine own_body (plainFor_of_name pn_com_example_loopline_loopline_dispatch_Pheromone) ?_
  intro p e s m below meth c s₁ hx hby hml hown hnm hret0 hlk0 hZ X0 e0
  have N0 := Fr.nil n0
  have pre0 : ∀ t, Steps p.tables e below (s₁.setTop (mkF m 0 #[(vr pa1), (vi 1), (vi 0), (vi pi2)] [])) t → Steps p.tables e below (s₁.setTop (entryFrame m #[(.ref pa1), (.int 1), (.int 0), (.int pi2)] 4)) t := fun t k => castTop (ef_au17_3 m pa1 (1 : Int32) (0 : Int32) pi2) k
  have hS0 := hS
  obtain ⟨S_wDEFAULTCAPACITY_EMPTY_ELEMENTDATA, E_wDEFAULTCAPACITY_EMPTY_ELEMENTDATA, V_wDEFAULTCAPACITY_EMPTY_ELEMENTDATA⟩ := hS0
  obtain ⟨T1, X1, e1, st1⟩ := getF X0 hx hZ hown (host := "") (Or.inl (ow hw 54 rfl)) Via.refl e0 P2 (g := (mkF m 1 #[(vr pa1), (vi 1), (vi 0), (vi pi2)] [(.ref pa1)])) rfl rfl (hb hby d17_1)
  obtain ⟨T2, X2, e2, st2⟩ := getF X1 hx hZ hown (host := "") (Or.inl (ow hw 52 rfl)) Via.refl e1 P4 (g := (mkF m 6 #[(vr pa1), (vi 1), (vi 0), (vi pi2)] [(.ref pa1), (.long (pi4.toInt64))])) rfl rfl (hb hby d17_6)
  obtain ⟨cl3, Ar3, qc3, Sz3, Nn3, Ha3, Gg3⟩ := (id P12)
  have hin3 : ¬ ((1 : Int32) < 0 ∨ cl3.slots.size ≤ ((1 : Int32)).toNatClampNeg) := inb_of Sz3 ⟨by decide, by decide⟩
  have hat3 : cl3.slots[((1 : Int32)).toNatClampNeg]? = some (.int 2) := Ha3.at hin3 rfl
  obtain ⟨T4, X4, e4, st4⟩ := getF X2 hx hZ hown (host := "") (Or.inl (ow hw 58 rfl)) Via.refl e2 P1 (g := (mkF m 13 #[(vr pa1), (vi 1), (vi 0), (vi pi2)] [(.ref pa1), (.long 2), (.long (pi4.toInt64))])) rfl rfl (hb hby d17_13)
  obtain ⟨cl5, Ar5, qc5, Sz5, Nn5, Ha5, Gg5⟩ := (id P5)
  have hin5 : ¬ ((1 : Int32) < 0 ∨ cl5.slots.size ≤ ((1 : Int32)).toNatClampNeg) := inb_of Sz5 ⟨by decide, by decide⟩
  have hat5 : cl5.slots[((1 : Int32)).toNatClampNeg]? = some (.ref pa9) := Ha5.at hin5 rfl
  obtain ⟨cl6, Ar6, qc6, Sz6, Nn6, Ha6, Gg6⟩ := (id P17)
  have hin6 : ¬ ((0 : Int32) < 0 ∨ cl6.slots.size ≤ ((0 : Int32)).toNatClampNeg) := inb_of Sz6 ⟨by decide, by decide⟩
  have hat6 : cl6.slots[((0 : Int32)).toNatClampNeg]? = some (.ref pa16) := Ha6.at hin6 rfl
  obtain ⟨cl7, Ar7, qc7, Sz7, Nn7, Ha7, Gg7⟩ := (id P26)
  have hin7 : ¬ (pi2 < 0 ∨ cl7.slots.size ≤ (pi2).toNatClampNeg) := own_inbB P32 Sz7
  have hat7 : cl7.slots[(pi2).toNatClampNeg]? = some (.int (selB pi2 (0 : Int32) (0 : Int32))) := Ha7.at hin7 (own_getB P32)
  obtain ⟨fs, hr, hrun, hended, hW, hsame⟩ := X4.leave (v := some (.long ((pi4.toInt64) + ((2 : Int64) * ((selB pi2 (0 : Int32) (0 : Int32)).toInt64))))) (fun h => by rw [hret0] at h; cases h)
  refine ⟨_, _, pre0 _ ?_, hrun, hended, _, _, rfl, ?_, ⟨_, rfl⟩, hW, hsame.mono (by decide) (by decide)⟩
  · skip
    show Steps p.tables e below (s₁.setTop (mkF m 0 #[(vr pa1), (vi 1), (vi 0), (vi pi2)] [])) _
    refine XS.aloadN X0.here hx rfl (hb hby d17_0) rfl rfl ?_
    refine st1 _ ?_
    refine XS.i2l X1.here hx rfl (hb hby d17_4) rfl ?_
    refine XS.aloadN X1.here hx rfl (hb hby d17_5) rfl rfl ?_
    refine st2 _ ?_
    refine XS.iloadN X2.here hx rfl (hb hby d17_9) rfl ?_
    show Steps p.tables e below (T2.setTop (mkF m 10 #[(vr pa1), (vi 1), (vi 0), (vi pi2)] [(.int 1), (.ref pa6), (.long (pi4.toInt64))])) _
    refine X2.iaload hx (j := (1 : Int32)) (v := (.int 2)) (by rw [e2]; exact Ar3.1) (State.isArrayOf_alike hZ.alike Ar3.2.1) Ar3.2.2 hin3 hat3 (g := (mkF m 10 #[(vr pa1), (vi 1), (vi 0), (vi pi2)] [(.int 1), (.ref pa6), (.long (pi4.toInt64))])) rfl rfl (hb hby d17_10) _ ?_
    refine XS.i2l X2.here hx rfl (hb hby d17_11) rfl ?_
    refine XS.aloadN X2.here hx rfl (hb hby d17_12) rfl rfl ?_
    refine st4 _ ?_
    refine XS.iloadN X4.here hx rfl (hb hby d17_16) rfl ?_
    refine X4.aaload hx (j := (1 : Int32)) (v := (.ref pa9)) (by rw [e4]; exact Ar5.1) (State.isArrayOf_alike hZ.alike Ar5.2.1) rfl Ar5.2.2 hin5 hat5 (g := (mkF m 17 #[(vr pa1), (vi 1), (vi 0), (vi pi2)] [(.int 1), (.ref pa3), (.long 2), (.long (pi4.toInt64))])) rfl rfl (hb hby d17_17) _ ?_
    show Steps p.tables e below (T4.setTop (mkF m 18 #[(vr pa1), (vi 1), (vi 0), (vi pi2)] [(.ref pa9), (.long 2), (.long (pi4.toInt64))])) _
    refine XS.iloadN X4.here hx rfl (hb hby d17_18) rfl ?_
    refine X4.aaload hx (j := (0 : Int32)) (v := (.ref pa16)) (by rw [e4]; exact Ar6.1) (State.isArrayOf_alike hZ.alike Ar6.2.1) rfl Ar6.2.2 hin6 hat6 (g := (mkF m 19 #[(vr pa1), (vi 1), (vi 0), (vi pi2)] [(.int 0), (.ref pa9), (.long 2), (.long (pi4.toInt64))])) rfl rfl (hb hby d17_19) _ ?_
    refine XS.iloadN X4.here hx rfl (hb hby d17_20) rfl ?_
    refine X4.iaload hx (j := pi2) (v := (.int (selB pi2 (0 : Int32) (0 : Int32)))) (by rw [e4]; exact Ar7.1) (State.isArrayOf_alike hZ.alike Ar7.2.1) Ar7.2.2 hin7 hat7 (g := (mkF m 21 #[(vr pa1), (vi 1), (vi 0), (vi pi2)] [(.int pi2), (.ref pa16), (.long 2), (.long (pi4.toInt64))])) rfl rfl (hb hby d17_21) _ ?_
    refine XS.i2l X4.here hx rfl (hb hby d17_22) rfl ?_
    refine XS.lmul X4.here hx rfl (hb hby d17_23) rfl ?_
    show Steps p.tables e below (T4.setTop (mkF m 24 #[(vr pa1), (vi 1), (vi 0), (vi pi2)] [(.long ((2 : Int64) * ((selB pi2 (0 : Int32) (0 : Int32)).toInt64))), (.long (pi4.toInt64))])) _
    refine XS.ladd X4.here hx rfl (hb hby d17_24) rfl ?_
    jvm_step X4.here [X4.here.top, hx, (hb hby d17_25), X4.method', hret0, narrow]
    first | (intro acts; rw [hr _ acts rfl rfl rfl]) | rw [hr _ _ rfl rfl rfl]
    exact Steps.refl _
  · show Q_au17_3 Z wDEFAULTCAPACITY_EMPTY_ELEMENTDATA kwDEFAULTCAPACITY_EMPTY_ELEMENTDATA pa1 pi2 pa3 pi4 pa6 pk7 pa8 pa9 pk10 pk15 pa16 pa17 pk19 h0 n0 _ T4.heap _
    rw [e4]
    exact ⟨rfl, N0, rfl⟩
theorem ef_au17_4 (m : MethodId) (x0 : Addr) (x1 : Int32) (x2 : Int32) (x3 : Int32)  : entryFrame m #[(.ref x0), (.int x1), (.int x2), (.int x3)] 4 = mkF m 0 #[(vr x0), (vi x1), (vi x2), (vi x3)] [] := by first | (simp [entryFrame, mkF, argsToLocals, Value.category]; done) | rfl
def Q_au17_4 (Z : State) (wDEFAULTCAPACITY_EMPTY_ELEMENTDATA : Addr) (kwDEFAULTCAPACITY_EMPTY_ELEMENTDATA : ClassId) (pa1 : Addr) (pi2 : Int32) (pa3 : Addr) (pi4 : Int32) (pa6 : Addr) (pk7 : ClassId) (pa8 : Addr) (pa9 : Addr) (pk10 : ClassId) (pk15 : ClassId) (pa16 : Addr) (pa17 : Addr) (pk19 : ClassId) (h0 : Heap) (n0 : Nat) (v : Option Value) (h : Heap) (L : List Loc) : Prop := v = some (.long ((pi4.toInt64) + ((2 : Int64) * ((selB pi2 (0 : Int32) (0 : Int32)).toInt64)))) ∧ Fr n0 L ∧ h = h0
theorem au17_4 (l : Launch) (Z : State) (a0 : Array Value) (hw : ∀ d ∈ tables_1, d.before a0 Z = true) (ws : List Jvm.Cond) (wDEFAULTCAPACITY_EMPTY_ELEMENTDATA : Addr) (kwDEFAULTCAPACITY_EMPTY_ELEMENTDATA : ClassId) (hS : SS Z wDEFAULTCAPACITY_EMPTY_ELEMENTDATA kwDEFAULTCAPACITY_EMPTY_ELEMENTDATA) (pa1 : Addr) (pi2 : Int32) (pa3 : Addr) (pi4 : Int32) (pa6 : Addr) (pk7 : ClassId) (pa8 : Addr) (pa9 : Addr) (pk10 : ClassId) (pk15 : ClassId) (pa16 : Addr) (pa17 : Addr) (pk19 : ClassId) (h0 : Heap) (n0 : Nat) (O0 : Old Z n0 h0) (P1 : Fld Z h0 pa1 s3n "counts" "[[[I" (.ref pa3)) (P2 : Fld Z h0 pa1 s3n "memory" "I" (.int pi4)) (P4 : Fld Z h0 pa1 s3n "trains" "[I" (.ref pa6)) (P5 : Arv Z h0 pa3 pk7 (.array (.array .int)) (2 : Int32) ([(.ref pa8), (.ref pa9)]) .null) (P12 : Arv Z h0 pa6 pk10 .int (2 : Int32) ([(.int 3), (.int 2)]) (.int 0)) (P17 : Arv Z h0 pa9 pk15 (.array .int) (2 : Int32) ([(.ref pa16), (.ref pa17)]) .null) (P28 : Arv Z h0 pa17 pk19 .int (2 : Int32) ([(.int 0), (.int 0)]) (.int 0)) (P32 : inB pi2) :
    MetB l M7 prog_34_method_2_code 4 (some .long) ws (rmk 0 0 0 0) Z h0 #[(.ref pa1), (.int 1), (.int 1), (.int pi2)] (Q_au17_4 Z wDEFAULTCAPACITY_EMPTY_ELEMENTDATA kwDEFAULTCAPACITY_EMPTY_ELEMENTDATA pa1 pi2 pa3 pi4 pa6 pk7 pa8 pa9 pk10 pk15 pa16 pa17 pk19 h0 n0) := by
  refine own_body (plainFor_of_name pn_com_example_loopline_loopline_dispatch_Pheromone) ?_
  intro p e s m below meth c s₁ hx hby hml hown hnm hret0 hlk0 hZ X0 e0
  have N0 := Fr.nil n0
  have pre0 : ∀ t, Steps p.tables e below (s₁.setTop (mkF m 0 #[(vr pa1), (vi 1), (vi 1), (vi pi2)] [])) t → Steps p.tables e below (s₁.setTop (entryFrame m #[(.ref pa1), (.int 1), (.int 1), (.int pi2)] 4)) t := fun t k => castTop (ef_au17_4 m pa1 (1 : Int32) (1 : Int32) pi2) k
  have hS0 := hS
  obtain ⟨S_wDEFAULTCAPACITY_EMPTY_ELEMENTDATA, E_wDEFAULTCAPACITY_EMPTY_ELEMENTDATA, V_wDEFAULTCAPACITY_EMPTY_ELEMENTDATA⟩ := hS0
  obtain ⟨T1, X1, e1, st1⟩ := getF X0 hx hZ hown (host := "") (Or.inl (ow hw 54 rfl)) Via.refl e0 P2 (g := (mkF m 1 #[(vr pa1), (vi 1), (vi 1), (vi pi2)] [(.ref pa1)])) rfl rfl (hb hby d17_1)
  obtain ⟨T2, X2, e2, st2⟩ := getF X1 hx hZ hown (host := "") (Or.inl (ow hw 52 rfl)) Via.refl e1 P4 (g := (mkF m 6 #[(vr pa1), (vi 1), (vi 1), (vi pi2)] [(.ref pa1), (.long (pi4.toInt64))])) rfl rfl (hb hby d17_6)
  obtain ⟨cl3, Ar3, qc3, Sz3, Nn3, Ha3, Gg3⟩ := (id P12)
  have hin3 : ¬ ((1 : Int32) < 0 ∨ cl3.slots.size ≤ ((1 : Int32)).toNatClampNeg) := inb_of Sz3 ⟨by decide, by decide⟩
  have hat3 : cl3.slots[((1 : Int32)).toNatClampNeg]? = some (.int 2) := Ha3.at hin3 rfl
  obtain ⟨T4, X4, e4, st4⟩ := getF X2 hx hZ hown (host := "") (Or.inl (ow hw 58 rfl)) Via.refl e2 P1 (g := (mkF m 13 #[(vr pa1), (vi 1), (vi 1), (vi pi2)] [(.ref pa1), (.long 2), (.long (pi4.toInt64))])) rfl rfl (hb hby d17_13)
  obtain ⟨cl5, Ar5, qc5, Sz5, Nn5, Ha5, Gg5⟩ := (id P5)
  have hin5 : ¬ ((1 : Int32) < 0 ∨ cl5.slots.size ≤ ((1 : Int32)).toNatClampNeg) := inb_of Sz5 ⟨by decide, by decide⟩
  have hat5 : cl5.slots[((1 : Int32)).toNatClampNeg]? = some (.ref pa9) := Ha5.at hin5 rfl
  obtain ⟨cl6, Ar6, qc6, Sz6, Nn6, Ha6, Gg6⟩ := (id P17)
  have hin6 : ¬ ((1 : Int32) < 0 ∨ cl6.slots.size ≤ ((1 : Int32)).toNatClampNeg) := inb_of Sz6 ⟨by decide, by decide⟩
  have hat6 : cl6.slots[((1 : Int32)).toNatClampNeg]? = some (.ref pa17) := Ha6.at hin6 rfl
  obtain ⟨cl7, Ar7, qc7, Sz7, Nn7, Ha7, Gg7⟩ := (id P28)
  have hin7 : ¬ (pi2 < 0 ∨ cl7.slots.size ≤ (pi2).toNatClampNeg) := own_inbB P32 Sz7
  have hat7 : cl7.slots[(pi2).toNatClampNeg]? = some (.int (selB pi2 (0 : Int32) (0 : Int32))) := Ha7.at hin7 (own_getB P32)
  obtain ⟨fs, hr, hrun, hended, hW, hsame⟩ := X4.leave (v := some (.long ((pi4.toInt64) + ((2 : Int64) * ((selB pi2 (0 : Int32) (0 : Int32)).toInt64))))) (fun h => by rw [hret0] at h; cases h)
  refine ⟨_, _, pre0 _ ?_, hrun, hended, _, _, rfl, ?_, ⟨_, rfl⟩, hW, hsame.mono (by decide) (by decide)⟩
  · skip
    show Steps p.tables e below (s₁.setTop (mkF m 0 #[(vr pa1), (vi 1), (vi 1), (vi pi2)] [])) _
    refine XS.aloadN X0.here hx rfl (hb hby d17_0) rfl rfl ?_
    refine st1 _ ?_
    refine XS.i2l X1.here hx rfl (hb hby d17_4) rfl ?_
    refine XS.aloadN X1.here hx rfl (hb hby d17_5) rfl rfl ?_
    refine st2 _ ?_
    refine XS.iloadN X2.here hx rfl (hb hby d17_9) rfl ?_
    show Steps p.tables e below (T2.setTop (mkF m 10 #[(vr pa1), (vi 1), (vi 1), (vi pi2)] [(.int 1), (.ref pa6), (.long (pi4.toInt64))])) _
    refine X2.iaload hx (j := (1 : Int32)) (v := (.int 2)) (by rw [e2]; exact Ar3.1) (State.isArrayOf_alike hZ.alike Ar3.2.1) Ar3.2.2 hin3 hat3 (g := (mkF m 10 #[(vr pa1), (vi 1), (vi 1), (vi pi2)] [(.int 1), (.ref pa6), (.long (pi4.toInt64))])) rfl rfl (hb hby d17_10) _ ?_
    refine XS.i2l X2.here hx rfl (hb hby d17_11) rfl ?_
    refine XS.aloadN X2.here hx rfl (hb hby d17_12) rfl rfl ?_
    refine st4 _ ?_
    refine XS.iloadN X4.here hx rfl (hb hby d17_16) rfl ?_
    refine X4.aaload hx (j := (1 : Int32)) (v := (.ref pa9)) (by rw [e4]; exact Ar5.1) (State.isArrayOf_alike hZ.alike Ar5.2.1) rfl Ar5.2.2 hin5 hat5 (g := (mkF m 17 #[(vr pa1), (vi 1), (vi 1), (vi pi2)] [(.int 1), (.ref pa3), (.long 2), (.long (pi4.toInt64))])) rfl rfl (hb hby d17_17) _ ?_
    show Steps p.tables e below (T4.setTop (mkF m 18 #[(vr pa1), (vi 1), (vi 1), (vi pi2)] [(.ref pa9), (.long 2), (.long (pi4.toInt64))])) _
    refine XS.iloadN X4.here hx rfl (hb hby d17_18) rfl ?_
    refine X4.aaload hx (j := (1 : Int32)) (v := (.ref pa17)) (by rw [e4]; exact Ar6.1) (State.isArrayOf_alike hZ.alike Ar6.2.1) rfl Ar6.2.2 hin6 hat6 (g := (mkF m 19 #[(vr pa1), (vi 1), (vi 1), (vi pi2)] [(.int 1), (.ref pa9), (.long 2), (.long (pi4.toInt64))])) rfl rfl (hb hby d17_19) _ ?_
    refine XS.iloadN X4.here hx rfl (hb hby d17_20) rfl ?_
    refine X4.iaload hx (j := pi2) (v := (.int (selB pi2 (0 : Int32) (0 : Int32)))) (by rw [e4]; exact Ar7.1) (State.isArrayOf_alike hZ.alike Ar7.2.1) Ar7.2.2 hin7 hat7 (g := (mkF m 21 #[(vr pa1), (vi 1), (vi 1), (vi pi2)] [(.int pi2), (.ref pa17), (.long 2), (.long (pi4.toInt64))])) rfl rfl (hb hby d17_21) _ ?_
    refine XS.i2l X4.here hx rfl (hb hby d17_22) rfl ?_
    refine XS.lmul X4.here hx rfl (hb hby d17_23) rfl ?_
    show Steps p.tables e below (T4.setTop (mkF m 24 #[(vr pa1), (vi 1), (vi 1), (vi pi2)] [(.long ((2 : Int64) * ((selB pi2 (0 : Int32) (0 : Int32)).toInt64))), (.long (pi4.toInt64))])) _
    refine XS.ladd X4.here hx rfl (hb hby d17_24) rfl ?_
    jvm_step X4.here [X4.here.top, hx, (hb hby d17_25), X4.method', hret0, narrow]
    first | (intro acts; rw [hr _ acts rfl rfl rfl]) | rw [hr _ _ rfl rfl rfl]
    exact Steps.refl _
  · show Q_au17_4 Z wDEFAULTCAPACITY_EMPTY_ELEMENTDATA kwDEFAULTCAPACITY_EMPTY_ELEMENTDATA pa1 pi2 pa3 pi4 pa6 pk7 pa8 pa9 pk10 pk15 pa16 pa17 pk19 h0 n0 _ T4.heap _
    rw [e4]
    exact ⟨rfl, N0, rfl⟩
theorem ef_au9_0 (m : MethodId) (x0 : Addr) (x1 : Addr)  : entryFrame m #[(.ref x0), (.ref x1)] 4 = mkF m 0 #[(vr x0), (vr x1), .unset, .unset] [] := by first | (simp [entryFrame, mkF, argsToLocals, Value.category]; done) | rfl
theorem d9_0 : decode prog_34_method_4_code 0 = .ok (.aload_n 0, 1) := by decide +kernel
theorem d9_1 : decode prog_34_method_4_code 1 = .ok (.getfield 10, 3) := by decide +kernel
theorem d9_4 : decode prog_34_method_4_code 4 = .ok (.aload_n 1, 1) := by decide +kernel
theorem d9_5 : decode prog_34_method_4_code 5 = .ok (.invokeinterface 41 2, 5) := by decide +kernel
theorem ef_au10_0 (m : MethodId) (x0 : Addr) (x1 : Addr)  : entryFrame m #[(.ref x0), (.ref x1)] 2 = mkF m 0 #[(vr x0), (vr x1)] [] := by first | (simp [entryFrame, mkF, argsToLocals, Value.category]; done) | rfl
theorem d10_0 : decode jdk_38_method_25_code 0 = .ok (.aload_n 0, 1) := by decide +kernel
theorem d10_1 : decode jdk_38_method_25_code 1 = .ok (.dup, 1) := by decide +kernel
theorem d10_2 : decode jdk_38_method_25_code 2 = .ok (.getfield 63, 3) := by decide +kernel
theorem d10_5 : decode jdk_38_method_25_code 5 = .ok (.iconst 1, 1) := by decide +kernel
theorem d10_6 : decode jdk_38_method_25_code 6 = .ok (.iadd, 1) := by decide +kernel
theorem d10_7 : decode jdk_38_method_25_code 7 = .ok (.putfield 63, 3) := by decide +kernel
theorem d10_10 : decode jdk_38_method_25_code 10 = .ok (.aload_n 0, 1) := by decide +kernel
theorem d10_11 : decode jdk_38_method_25_code 11 = .ok (.aload_n 1, 1) := by decide +kernel
theorem d10_12 : decode jdk_38_method_25_code 12 = .ok (.aload_n 0, 1) := by decide +kernel
theorem d10_13 : decode jdk_38_method_25_code 13 = .ok (.getfield 9, 3) := by decide +kernel
theorem d10_16 : decode jdk_38_method_25_code 16 = .ok (.aload_n 0, 1) := by decide +kernel
theorem d10_17 : decode jdk_38_method_25_code 17 = .ok (.getfield 48, 3) := by decide +kernel
theorem d10_20 : decode jdk_38_method_25_code 20 = .ok (.invokevirtual 131, 3) := by decide +kernel
theorem ef_au11_0 (m : MethodId) (x0 : Addr) (x1 : Addr) (x2 : Addr) (x3 : Int32)  : entryFrame m #[(.ref x0), (.ref x1), (.ref x2), (.int x3)] 4 = mkF m 0 #[(vr x0), (vr x1), (vr x2), (vi x3)] [] := by first | (simp [entryFrame, mkF, argsToLocals, Value.category]; done) | rfl
theorem d11_0 : decode jdk_38_method_24_code 0 = .ok (.iload_n 3, 1) := by decide +kernel
theorem d11_1 : decode jdk_38_method_24_code 1 = .ok (.aload_n 2, 1) := by decide +kernel
theorem d11_2 : decode jdk_38_method_24_code 2 = .ok (.arraylength, 1) := by decide +kernel
theorem d11_3 : decode jdk_38_method_24_code 3 = .ok (.if_icmp .ne 8, 3) := by decide +kernel
theorem d11_6 : decode jdk_38_method_24_code 6 = .ok (.aload_n 0, 1) := by decide +kernel
theorem d11_7 : decode jdk_38_method_24_code 7 = .ok (.invokevirtual 129, 3) := by decide +kernel
theorem ef_au12_0 (m : MethodId) (x0 : Addr)  : entryFrame m #[(.ref x0)] 1 = mkF m 0 #[(vr x0)] [] := by first | (simp [entryFrame, mkF, argsToLocals, Value.category]; done) | rfl
theorem d12_0 : decode jdk_38_method_7_code 0 = .ok (.aload_n 0, 1) := by decide +kernel
theorem d12_1 : decode jdk_38_method_7_code 1 = .ok (.aload_n 0, 1) := by decide +kernel
theorem d12_2 : decode jdk_38_method_7_code 2 = .ok (.getfield 48, 3) := by decide +kernel
theorem d12_5 : decode jdk_38_method_7_code 5 = .ok (.iconst 1, 1) := by decide +kernel
theorem d12_6 : decode jdk_38_method_7_code 6 = .ok (.iadd, 1) := by decide +kernel
theorem d12_7 : decode jdk_38_method_7_code 7 = .ok (.invokevirtual 69, 3) := by decide +kernel
theorem ef_au13_0 (m : MethodId) (x0 : Addr) (x1 : Int32)  : entryFrame m #[(.ref x0), (.int x1)] 4 = mkF m 0 #[(vr x0), (vi x1), .unset, .unset] [] := by first | (simp [entryFrame, mkF, argsToLocals, Value.category]; done) | rfl
theorem d13_0 : decode jdk_38_method_6_code 0 = .ok (.aload_n 0, 1) := by decide +kernel
theorem d13_1 : decode jdk_38_method_6_code 1 = .ok (.getfield 9, 3) := by decide +kernel
theorem d13_4 : decode jdk_38_method_6_code 4 = .ok (.arraylength, 1) := by decide +kernel
theorem d13_5 : decode jdk_38_method_6_code 5 = .ok (.istore_n 2, 1) := by decide +kernel
theorem d13_6 : decode jdk_38_method_6_code 6 = .ok (.iload_n 2, 1) := by decide +kernel
theorem d13_7 : decode jdk_38_method_6_code 7 = .ok (.ifCond .gt 13, 3) := by decide +kernel
theorem d13_10 : decode jdk_38_method_6_code 10 = .ok (.aload_n 0, 1) := by decide +kernel
theorem d13_11 : decode jdk_38_method_6_code 11 = .ok (.getfield 9, 3) := by decide +kernel
theorem d13_14 : decode jdk_38_method_6_code 14 = .ok (.getstatic 39, 3) := by decide +kernel
theorem d13_17 : decode jdk_38_method_6_code 17 = .ok (.if_acmp .eq 28, 3) := by decide +kernel
theorem d13_45 : decode jdk_38_method_6_code 45 = .ok (.aload_n 0, 1) := by decide +kernel
theorem d13_46 : decode jdk_38_method_6_code 46 = .ok (.bipush 10, 2) := by decide +kernel
theorem d13_48 : decode jdk_38_method_6_code 48 = .ok (.iload_n 1, 1) := by decide +kernel
theorem d13_49 : decode jdk_38_method_6_code 49 = .ok (.invokestatic 79, 3) := by decide +kernel
theorem ef_au1_0 (m : MethodId) (x0 : Int32) (x1 : Int32)  : entryFrame m #[(.int x0), (.int x1)] 2 = mkF m 0 #[(vi x0), (vi x1)] [] := by first | (simp [entryFrame, mkF, argsToLocals, Value.category]; done) | rfl
def Q_au1_0 (Z : State) (wDEFAULTCAPACITY_EMPTY_ELEMENTDATA : Addr) (kwDEFAULTCAPACITY_EMPTY_ELEMENTDATA : ClassId)  (h0 : Heap) (n0 : Nat) (v : Option Value) (h : Heap) (L : List Loc) : Prop := v = some (.int 10) ∧ Fr n0 L ∧ h = h0
theorem au1_0 (l : Launch) (Z : State) (a0 : Array Value) (hw : ∀ d ∈ tables_1, d.before a0 Z = true) (ws : List Jvm.Cond) (wDEFAULTCAPACITY_EMPTY_ELEMENTDATA : Addr) (kwDEFAULTCAPACITY_EMPTY_ELEMENTDATA : ClassId) (hS : SS Z wDEFAULTCAPACITY_EMPTY_ELEMENTDATA kwDEFAULTCAPACITY_EMPTY_ELEMENTDATA)  (h0 : Heap) (n0 : Nat) (O0 : Old Z n0 h0)  :
    MetB l M0 jdk_29_method_65_code 2 (some .int) ws (rmk 0 0 0 0) Z h0 #[(.int 10), (.int 1)] (Q_au1_0 Z wDEFAULTCAPACITY_EMPTY_ELEMENTDATA kwDEFAULTCAPACITY_EMPTY_ELEMENTDATA  h0 n0) := by
  refine own_body (Jvm.Free.JP.mathPlain rfl (by decide +kernel)) ?_
  intro p e s m below meth c s₁ hx hby hml hown hnm hret0 hlk0 hZ X0 e0
  have N0 := Fr.nil n0
  have pre0 : ∀ t, Steps p.tables e below (s₁.setTop (mkF m 0 #[(vi 10), (vi 1)] [])) t → Steps p.tables e below (s₁.setTop (entryFrame m #[(.int 10), (.int 1)] 2)) t := fun t k => castTop (ef_au1_0 m (10 : Int32) (1 : Int32)) k
  have hS0 := hS
  obtain ⟨S_wDEFAULTCAPACITY_EMPTY_ELEMENTDATA, E_wDEFAULTCAPACITY_EMPTY_ELEMENTDATA, V_wDEFAULTCAPACITY_EMPTY_ELEMENTDATA⟩ := hS0
  obtain ⟨fs, hr, hrun, hended, hW, hsame⟩ := X0.leave (v := some (.int 10)) (fun h => by rw [hret0] at h; cases h)
  refine ⟨_, _, pre0 _ ?_, hrun, hended, _, _, rfl, ?_, ⟨_, rfl⟩, hW, hsame.mono (by decide) (by decide)⟩
  · skip
    show Steps p.tables e below (s₁.setTop (mkF m 0 #[(vi 10), (vi 1)] [])) _
    refine XS.iloadN X0.here hx rfl (hb hby d1_0) rfl ?_
    refine XS.iloadN X0.here hx rfl (hb hby d1_1) rfl ?_
    refine XS.icmpNo X0.here hx rfl (hb hby d1_2) rfl (flt (by decide : ¬ ((10 : Int32) < (1 : Int32)))).1 ?_
    refine XS.iloadN X0.here hx rfl (hb hby d1_5) rfl ?_
    refine XS.goto X0.here hx rfl (pc0 := 6) (pc' := 10) rfl (hb hby d1_6) (by decide) (by decide) ?_
    exact retI X0 hx hret0 (hb hby d1_10) hr
  · show Q_au1_0 Z wDEFAULTCAPACITY_EMPTY_ELEMENTDATA kwDEFAULTCAPACITY_EMPTY_ELEMENTDATA  h0 n0 _ s₁.heap _
    rw [e0]
    exact ⟨rfl, N0, rfl⟩
theorem d13_52 : decode jdk_38_method_6_code 52 = .ok (.anewarray 7, 3) := by decide +kernel
theorem d13_55 : decode jdk_38_method_6_code 55 = .ok (.dup_x1, 1) := by decide +kernel
theorem d13_56 : decode jdk_38_method_6_code 56 = .ok (.putfield 9, 3) := by decide +kernel
theorem d13_59 : decode jdk_38_method_6_code 59 = .ok (.areturn, 1) := by decide +kernel
def Q_au13_0 (Z : State) (wDEFAULTCAPACITY_EMPTY_ELEMENTDATA : Addr) (kwDEFAULTCAPACITY_EMPTY_ELEMENTDATA : ClassId) (pa1 : Addr) (h0 : Heap) (n0 : Nat) (v : Option Value) (h : Heap) (L : List Loc) : Prop := ∃ (e1 : Addr) (e2 : ClassId), v = some (.ref e1) ∧ Fr n0 L ∧ Keep h0 h [pa1] ∧ Exa Z h pa1 s0n ∧ Fld Z h pa1 s4n "modCount" "I" (.int 1) ∧ Fld Z h pa1 s0n "elementData" s1n (.ref e1) ∧ Fld Z h pa1 s0n "size" "I" (.int 0) ∧ h0.size ≤ e1 ∧ Exa Z h e1 s1n ∧ Arv Z h e1 e2 (.object s2n) (10 : Int32) ([.null, .null, .null, .null, .null, .null, .null, .null, .null, .null]) .null ∧ Ovr Z e2 s2n
theorem au13_0 (l : Launch) (Z : State) (a0 : Array Value) (hw : ∀ d ∈ tables_1, d.before a0 Z = true) (ws : List Jvm.Cond) (wDEFAULTCAPACITY_EMPTY_ELEMENTDATA : Addr) (kwDEFAULTCAPACITY_EMPTY_ELEMENTDATA : ClassId) (hS : SS Z wDEFAULTCAPACITY_EMPTY_ELEMENTDATA kwDEFAULTCAPACITY_EMPTY_ELEMENTDATA) (pa1 : Addr) (h0 : Heap) (n0 : Nat) (O0 : Old Z n0 h0) (P0 : Exa Z h0 pa1 s0n) (P1 : Fld Z h0 pa1 s4n "modCount" "I" (.int 1)) (P2 : Fld Z h0 pa1 s0n "elementData" s1n (.ref wDEFAULTCAPACITY_EMPTY_ELEMENTDATA)) (P3 : Fld Z h0 pa1 s0n "size" "I" (.int 0)) (P4 : n0 ≤ pa1) :
    MetB l M8 jdk_38_method_6_code 4 (some (.array (.object s2n))) ws (rmk 1 1 10 14) Z h0 #[(.ref pa1), (.int 1)] (Q_au13_0 Z wDEFAULTCAPACITY_EMPTY_ELEMENTDATA kwDEFAULTCAPACITY_EMPTY_ELEMENTDATA pa1 h0 n0) := by
  refine own_body (plainFor_of_name pn_java_util_ArrayList) ?_
  intro p e s m below meth c s₁ hx hby hml hown hnm hret0 hlk0 hZ X0 e0
  have N0 := Fr.nil n0
  have pre0 : ∀ t, Steps p.tables e below (s₁.setTop (mkF m 0 #[(vr pa1), (vi 1), .unset, .unset] [])) t → Steps p.tables e below (s₁.setTop (entryFrame m #[(.ref pa1), (.int 1)] 4)) t := fun t k => castTop (ef_au13_0 m pa1 (1 : Int32)) k
  have K0 := Keep.refl h0 [pa1]
  have hS0 := hS
  obtain ⟨S_wDEFAULTCAPACITY_EMPTY_ELEMENTDATA, E_wDEFAULTCAPACITY_EMPTY_ELEMENTDATA, V_wDEFAULTCAPACITY_EMPTY_ELEMENTDATA⟩ := hS0
  obtain ⟨T1, X1, e1, st1⟩ := getF X0 hx hZ hown (host := "") (Or.inl (ow hw 40 rfl)) Via.refl e0 P2 (g := (mkF m 1 #[(vr pa1), (vi 1), .unset, .unset] [(.ref pa1)])) rfl rfl (hb hby d13_1)
  obtain ⟨cl2, Ar2, -, Sz2, Nn2, -, -⟩ := (id (V_wDEFAULTCAPACITY_EMPTY_ELEMENTDATA.ext O0.2))
  obtain ⟨T3, X3, e3, st3⟩ := getF X1 hx hZ hown (host := "") (Or.inl (ow hw 40 rfl)) Via.refl e1 P2 (g := (mkF m 11 #[(vr pa1), (vi 1), (vi 0), .unset] [(.ref pa1)])) rfl rfl (hb hby d13_11)
  obtain ⟨T4, X4, e4, st4⟩ := getS2 X3 hx hZ hown (host := "") (Or.inl (ow hw 39 rfl)) Via.refl e3 (S_wDEFAULTCAPACITY_EMPTY_ELEMENTDATA.ext O0.2) (g := (mkF m 14 #[(vr pa1), (vi 1), (vi 0), .unset] [(.ref wDEFAULTCAPACITY_EMPTY_ELEMENTDATA)])) rfl (hb hby d13_14)
  obtain ⟨_, _, ⟨T5, L5, k5, n5⟩, -, X5, ⟨Lc5, hQ5, l5, y5, z5⟩, st5⟩ := Jvm.LawKit.callS X4 hx (y := M0) hown (mvT hZ (ow hw 110 rfl)) (mvT hZ (ow hw 1 rfl)) (mvT hZ (ow hw 2 rfl)) (mvT hZ (ow hw 3 rfl)) (by decide) (backOf (W := 1) (au1_0 l Z a0 hw [] wDEFAULTCAPACITY_EMPTY_ELEMENTDATA kwDEFAULTCAPACITY_EMPTY_ELEMENTDATA hS  h0 n0 O0 ) hZ (ow hw 3 rfl) (ow hw 2 rfl) (by decide) (by decide)) (g := (mkF m 49 #[(vr pa1), (vi 1), (vi 0), .unset] [(.int 1), (.int 10), (.ref pa1)])) rfl (by rw [hml]; rfl) (argsL := [(.int 10), (.int 1)]) (rest := [(.ref pa1)]) (lenOf pd_0 rfl) rfl (by show 2 * 0 + _ ≤ _; exact Nat.le_of_eq rfl) (hb hby d13_49) (fun _ _ => ⟨rfl, e4, (by decide : 0 + 0 ≤ _), (by decide : 0 + 0 ≤ _)⟩)
  dsimp only [Pt.U, Pt.locs, Pt.cells, Pt.slots] at X5 l5 y5 z5 st5 hQ5
  subst l5 y5 z5
  obtain ⟨rfl, Nq5, K5q⟩ := hQ5
  have N5 := Fr.app N0 Nq5
  obtain ⟨T6, h6, k6, X6, e6, E6, A6, Z6, O6, st6⟩ := newRE X5 hx hZ hown (ow hw 111 rfl) (ow hw 112 rfl) K5q (g := (mkF m 52 #[(vr pa1), (vi 1), (vi 0), .unset] [(.int 10), (.ref pa1)])) rfl (hb hby d13_52) rfl (by decide) (cap := 10) (by decide) (by decide) (by decide) (by decide) (ad := s1n) rfl
  obtain ⟨b6, g6⟩ : ∃ z, z = h0.size := ⟨_, rfl⟩
  rw [← g6] at A6 Z6 st6
  have ne7 : pa1 ≠ b6 := Nat.ne_of_lt (Nat.lt_of_lt_of_le P0.lt (Nat.le_of_eq g6.symm))
  have g8 : n0 ≤ b6 := Nat.le_trans (own_sz O0) (Nat.le_of_eq g6.symm)
  have sz9 : h0.size ≤ b6 := Nat.le_trans K0.1 (Nat.le_of_eq g6.symm)
  have O10 : Old Z n0 h6 := O0.ext E6
  have K10 : Keep h0 h6 [pa1] := K0.ext E6
  have V6 : Arv Z h6 b6 k6 (.object s2n) (10 : Int32) ([.null, .null, .null, .null, .null, .null, .null, .null, .null, .null]) .null := (Arv.new A6 (by decide)).pad (pad_rep [] .null 10)
  have f11 : Exa Z h6 pa1 s0n := (P0.ext E6)
  have f12 : Fld Z h6 pa1 s0n "elementData" s1n (.ref wDEFAULTCAPACITY_EMPTY_ELEMENTDATA) := (P2.ext E6)
  obtain ⟨T13, h13, X13, e13, W13, st13⟩ := putF X6 hx hZ hown (host := "") (Or.inl (ow hw 40 rfl)) Via.refl e6 f12 f11 (Or.inl (ow hw 41 rfl)) (ow hw 19 rfl) (ty := (.array (.object s2n))) (by decide) rfl rfl (g := (mkF m 56 #[(vr pa1), (vi 1), (vi 0), .unset] [(.ref b6), (.ref pa1), (.ref b6)])) rfl rfl (hb hby d13_56)
  have N13 := Fr.snoc X13 N5 P4
  have O14 : Old Z n0 h13 := O10.wr W13 P4
  have K14 : Keep h0 h13 [pa1] := K10.wr W13 (Or.inl (List.mem_of_getElem? (i := 0) rfl))
  have Fw13 : Fld Z h13 pa1 s0n "elementData" s1n (.ref b6) := f12.same W13
  have f15 : Exa Z h13 pa1 s0n := (f11.wr W13)
  have f16 : Fld Z h13 pa1 s4n "modCount" "I" (.int 1) := ((P1.ext E6).other W13 (Or.inr (slot_ne (Or.inl (ow hw 38 rfl)) (Or.inl (ow hw 41 rfl)) (by decide) (t := .int) (t' := (.array (.object s2n))) (by decide) (by decide))))
  have f17 : Fld Z h13 pa1 s0n "size" "I" (.int 0) := ((P3.ext E6).other W13 (Or.inr (slot_ne (Or.inl (ow hw 94 rfl)) (Or.inl (ow hw 41 rfl)) (by decide) (t := .int) (t' := (.array (.object s2n))) (by decide) (by decide))))
  have f18 : Exa Z h13 b6 s1n := (Z6.wr W13)
  have f19 : Arv Z h13 b6 k6 (.object s2n) (10 : Int32) ([.null, .null, .null, .null, .null, .null, .null, .null, .null, .null]) .null := (V6.other W13 (Ne.symm ne7))
  obtain ⟨fs, hr, hrun, hended, hW, hsame⟩ := X13.leave (v := some (.ref b6)) (fun h => by rw [hret0] at h; cases h)
  refine ⟨_, _, pre0 _ ?_, hrun, hended, _, _, rfl, ?_, ⟨_, rfl⟩, hW, hsame.mono (by decide) (by decide)⟩
  · skip
    show Steps p.tables e below (s₁.setTop (mkF m 0 #[(vr pa1), (vi 1), .unset, .unset] [])) _
    refine XS.aloadN X0.here hx rfl (hb hby d13_0) rfl rfl ?_
    refine st1 _ ?_
    refine X1.arraylength hx (by rw [e1]; exact Ar2.1) (State.isArrayOf_alike hZ.alike Ar2.2.1) (g := (mkF m 4 #[(vr pa1), (vi 1), .unset, .unset] [(.ref wDEFAULTCAPACITY_EMPTY_ELEMENTDATA)])) rfl rfl (hb hby d13_4) _ ?_
    rw [len_of Sz2 Nn2]
    refine XS.istoreN X1.here hx rfl (hb hby d13_5) rfl (l' := #[(vr pa1), (vi 1), (vi 0), .unset]) rfl ?_
    refine XS.iloadN X1.here hx rfl (hb hby d13_6) rfl ?_
    refine XS.ifNo X1.here hx rfl (hb hby d13_7) rfl ((if0 _ _).trans (flt (by decide : ¬ ((0 : Int32) < (0 : Int32)))).2.2.1) ?_
    show Steps p.tables e below (T1.setTop (mkF m 10 #[(vr pa1), (vi 1), (vi 0), .unset] [])) _
    refine XS.aloadN X1.here hx rfl (hb hby d13_10) rfl rfl ?_
    refine st3 _ ?_
    refine st4 _ ?_
    refine Jvm.RoadKit.acmp (g := (mkF m 17 #[(vr pa1), (vi 1), (vi 0), .unset] [(.ref wDEFAULTCAPACITY_EMPTY_ELEMENTDATA), (.ref wDEFAULTCAPACITY_EMPTY_ELEMENTDATA)])) X4 hx rfl rfl rfl (pc0 := 17) (pc' := 45) (same := true) rfl (hb hby d13_17) rfl (decide_eq_true rfl) (by decide) (by decide) ?_
    refine XS.aloadN X4.here hx rfl (hb hby d13_45) rfl rfl ?_
    refine XS.bipush X4.here hx rfl (hb hby d13_46) ?_
    show Steps p.tables e below (T4.setTop (mkF m 48 #[(vr pa1), (vi 1), (vi 0), .unset] [(.int 10), (.ref pa1)])) _
    refine XS.iloadN X4.here hx rfl (hb hby d13_48) rfl ?_
    refine st5 _ ?_
    refine st6 _ ?_
    refine XS.dupX1 X6.here hx rfl (hb hby d13_55) rfl rfl rfl ?_
    refine st13 _ ?_
    jvm_step X13.here [X13.here.top, hx, (hb hby d13_59), X13.method', hret0, Value.isRef, FieldType.isReference]
    first | (intro acts; rw [hr _ acts rfl rfl rfl]) | rw [hr _ _ rfl rfl rfl]
    exact Steps.refl _
  · show Q_au13_0 Z wDEFAULTCAPACITY_EMPTY_ELEMENTDATA kwDEFAULTCAPACITY_EMPTY_ELEMENTDATA pa1 h0 n0 _ T13.heap _
    rw [e13]
    exact ⟨b6, k6, rfl, N13, K14, f15, f16, Fw13, f17, sz9, f18, f19, O6⟩
theorem pd_5 : parseMethodDescriptor "(I)[Ljava/lang/Object;" = some ⟨[.int], some (.array (.object "java/lang/Object"))⟩ := by decide +kernel
theorem d12_10 : decode jdk_38_method_7_code 10 = .ok (.areturn, 1) := by decide +kernel
def Q_au12_0 (Z : State) (wDEFAULTCAPACITY_EMPTY_ELEMENTDATA : Addr) (kwDEFAULTCAPACITY_EMPTY_ELEMENTDATA : ClassId) (pa1 : Addr) (h0 : Heap) (n0 : Nat) (v : Option Value) (h : Heap) (L : List Loc) : Prop := ∃ (e1 : Addr) (e2 : ClassId), v = some (.ref e1) ∧ Fr n0 L ∧ Keep h0 h [pa1] ∧ Exa Z h pa1 s0n ∧ Fld Z h pa1 s4n "modCount" "I" (.int 1) ∧ Fld Z h pa1 s0n "elementData" s1n (.ref e1) ∧ Fld Z h pa1 s0n "size" "I" (.int 0) ∧ h0.size ≤ e1 ∧ Exa Z h e1 s1n ∧ Arv Z h e1 e2 (.object s2n) (10 : Int32) ([.null, .null, .null, .null, .null, .null, .null, .null, .null, .null]) .null ∧ Ovr Z e2 s2n
theorem au12_0 (l : Launch) (Z : State) (a0 : Array Value) (hw : ∀ d ∈ tables_1, d.before a0 Z = true) (ws : List Jvm.Cond) (wDEFAULTCAPACITY_EMPTY_ELEMENTDATA : Addr) (kwDEFAULTCAPACITY_EMPTY_ELEMENTDATA : ClassId) (hS : SS Z wDEFAULTCAPACITY_EMPTY_ELEMENTDATA kwDEFAULTCAPACITY_EMPTY_ELEMENTDATA) (pa1 : Addr) (h0 : Heap) (n0 : Nat) (O0 : Old Z n0 h0) (P0 : Exa Z h0 pa1 s0n) (P1 : Fld Z h0 pa1 s4n "modCount" "I" (.int 1)) (P2 : Fld Z h0 pa1 s0n "elementData" s1n (.ref wDEFAULTCAPACITY_EMPTY_ELEMENTDATA)) (P3 : Fld Z h0 pa1 s0n "size" "I" (.int 0)) (P4 : n0 ≤ pa1) :
    MetB l M9 jdk_38_method_7_code 1 (some (.array (.object s2n))) ws (rmk 2 1 10 29) Z h0 #[(.ref pa1)] (Q_au12_0 Z wDEFAULTCAPACITY_EMPTY_ELEMENTDATA kwDEFAULTCAPACITY_EMPTY_ELEMENTDATA pa1 h0 n0) := by
  refine own_body (plainFor_of_name pn_java_util_ArrayList) ?_
  intro p e s m below meth c s₁ hx hby hml hown hnm hret0 hlk0 hZ X0 e0
  have N0 := Fr.nil n0
  have pre0 : ∀ t, Steps p.tables e below (s₁.setTop (mkF m 0 #[(vr pa1)] [])) t → Steps p.tables e below (s₁.setTop (entryFrame m #[(.ref pa1)] 1)) t := fun t k => castTop (ef_au12_0 m pa1) k
  have K0 := Keep.refl h0 [pa1]
  have hS0 := hS
  obtain ⟨S_wDEFAULTCAPACITY_EMPTY_ELEMENTDATA, E_wDEFAULTCAPACITY_EMPTY_ELEMENTDATA, V_wDEFAULTCAPACITY_EMPTY_ELEMENTDATA⟩ := hS0
  obtain ⟨T1, X1, e1, st1⟩ := getF X0 hx hZ hown (host := "") (Or.inl (ow hw 93 rfl)) Via.refl e0 P3 (g := (mkF m 2 #[(vr pa1)] [(.ref pa1), (.ref pa1)])) rfl rfl (hb hby d12_2)
  obtain ⟨cq2, q2, q2'⟩ := P0.cell
  obtain ⟨_, _, ⟨T2, L2, k2, n2⟩, -, X2, ⟨Lc2, hQ2, l2, y2, z2⟩, st2⟩ := X1.privateBack hx (y := M8) hown (mvT hZ (ow hw 105 rfl)) (mvT hZ (ow hw 106 rfl)) (mvT hZ (ow hw 108 rfl)) (Cond.privateMethod_at (mvP hZ (ow hw 107 rfl) (args := #[]))) (mvT hZ (ow hw 109 rfl)) (by decide) (backOf (W := 0) (au13_0 l Z a0 hw [] wDEFAULTCAPACITY_EMPTY_ELEMENTDATA kwDEFAULTCAPACITY_EMPTY_ELEMENTDATA hS pa1 h0 n0 O0 P0 P1 P2 P3 P4) hZ (ow hw 109 rfl) (ow hw 20 rfl) (by decide) (by decide)) (g := (mkF m 7 #[(vr pa1)] [(.int 1), (.ref pa1)])) rfl (by rw [hml]; rfl) (Steps.refl _) (a := pa1) (by rw [e1]; exact q2) q2' (argsL := [(.int 1)]) (rest := []) (lenOf pd_5 rfl) rfl (by show 2 * 0 + _ ≤ _; exact Nat.le_of_eq rfl) (hb hby d12_7) (fun _ _ => ⟨rfl, e1, (by decide : 0 + 1 ≤ _), (by decide : 0 + 10 ≤ _)⟩)
  dsimp only [Pt.U, Pt.locs, Pt.cells, Pt.slots] at X2 l2 y2 z2 st2 hQ2
  subst l2 y2 z2
  obtain ⟨e1_2, e2_2, rfl, Nq2, K2q, p2_0, p2_1, p2_2, p2_3, p2_4, p2_5, p2_6, p2_7⟩ := hQ2
  have N2 := Fr.app N0 Nq2
  have ne3 : pa1 ≠ e1_2 := Nat.ne_of_lt (Nat.lt_of_lt_of_le P0.lt p2_4)
  have g4 : n0 ≤ e1_2 := Nat.le_trans (own_sz O0) p2_4
  have sz5 : h0.size ≤ e1_2 := Nat.le_trans K0.1 p2_4
  have O6 : Old Z n0 T2.heap := O0.keep K2q (allS P4 all0)
  have K6 : Keep h0 T2.heap [pa1] := K0.trans K2q (allS (Or.inl (List.mem_of_getElem? (i := 0) rfl)) all0)
  obtain ⟨fs, hr, hrun, hended, hW, hsame⟩ := X2.leave (v := some (.ref e1_2)) (fun h => by rw [hret0] at h; cases h)
  refine ⟨_, _, pre0 _ ?_, hrun, hended, _, _, rfl, ?_, ⟨_, rfl⟩, hW, hsame.mono (by decide) (by decide)⟩
  · skip
    show Steps p.tables e below (s₁.setTop (mkF m 0 #[(vr pa1)] [])) _
    refine XS.aloadN X0.here hx rfl (hb hby d12_0) rfl rfl ?_
    refine XS.aloadN X0.here hx rfl (hb hby d12_1) rfl rfl ?_
    refine st1 _ ?_
    refine XS.iconst X1.here hx rfl (hb hby d12_5) ?_
    refine XS.iadd X1.here hx rfl (hb hby d12_6) rfl ?_
    refine st2.trans ?_
    show Steps p.tables e below (T2.setTop (mkF m 10 #[(vr pa1)] [(.ref e1_2)])) _
    jvm_step X2.here [X2.here.top, hx, (hb hby d12_10), X2.method', hret0, Value.isRef, FieldType.isReference]
    first | (intro acts; rw [hr _ acts rfl rfl rfl]) | rw [hr _ _ rfl rfl rfl]
    exact Steps.refl _
  · show Q_au12_0 Z wDEFAULTCAPACITY_EMPTY_ELEMENTDATA kwDEFAULTCAPACITY_EMPTY_ELEMENTDATA pa1 h0 n0 _ T2.heap _
    exact ⟨e1_2, e2_2, rfl, N2, K6, p2_0, p2_1, p2_2, p2_3, sz5, p2_5, p2_6, p2_7⟩
theorem pd_6 : parseMethodDescriptor "()[Ljava/lang/Object;" = some ⟨[], some (.array (.object "java/lang/Object"))⟩ := by decide +kernel
theorem d11_10 : decode jdk_38_method_24_code 10 = .ok (.astore_n 2, 1) := by decide +kernel
theorem d11_11 : decode jdk_38_method_24_code 11 = .ok (.aload_n 2, 1) := by decide +kernel
theorem d11_12 : decode jdk_38_method_24_code 12 = .ok (.iload_n 3, 1) := by decide +kernel
theorem d11_13 : decode jdk_38_method_24_code 13 = .ok (.aload_n 1, 1) := by decide +kernel
theorem d11_14 : decode jdk_38_method_24_code 14 = .ok (.aastore, 1) := by decide +kernel
theorem d11_15 : decode jdk_38_method_24_code 15 = .ok (.aload_n 0, 1) := by decide +kernel
theorem d11_16 : decode jdk_38_method_24_code 16 = .ok (.iload_n 3, 1) := by decide +kernel
theorem d11_17 : decode jdk_38_method_24_code 17 = .ok (.iconst 1, 1) := by decide +kernel
theorem d11_18 : decode jdk_38_method_24_code 18 = .ok (.iadd, 1) := by decide +kernel
theorem d11_19 : decode jdk_38_method_24_code 19 = .ok (.putfield 48, 3) := by decide +kernel
theorem d11_22 : decode jdk_38_method_24_code 22 = .ok (.return_, 1) := by decide +kernel
def Q_au11_0 (Z : State) (wDEFAULTCAPACITY_EMPTY_ELEMENTDATA : Addr) (kwDEFAULTCAPACITY_EMPTY_ELEMENTDATA : ClassId) (pa1 : Addr) (pa2 : Addr) (pa3 : Addr) (pk4 : ClassId) (pa5 : Addr) (pa6 : Addr) (pk7 : ClassId) (pi8 : Int32) (pi9 : Int32) (pi10 : Int32) (pk11 : ClassId) (pi12 : Int32) (pi13 : Int32) (h0 : Heap) (n0 : Nat) (v : Option Value) (h : Heap) (L : List Loc) : Prop := ∃ (e1 : Addr) (e2 : ClassId), v = none ∧ Fr n0 L ∧ Keep h0 h [pa1] ∧ Exa Z h pa1 s0n ∧ Fld Z h pa1 s4n "modCount" "I" (.int 1) ∧ Fld Z h pa1 s0n "elementData" s1n (.ref e1) ∧ Fld Z h pa1 s0n "size" "I" (.int 1) ∧ h0.size ≤ e1 ∧ Exa Z h e1 s1n ∧ Arv Z h e1 e2 (.object s2n) (10 : Int32) ([(.ref pa2), .null, .null, .null, .null, .null, .null, .null, .null, .null]) .null ∧ Ovr Z e2 s2n
theorem au11_0 (l : Launch) (Z : State) (a0 : Array Value) (hw : ∀ d ∈ tables_1, d.before a0 Z = true) (ws : List Jvm.Cond) (wDEFAULTCAPACITY_EMPTY_ELEMENTDATA : Addr) (kwDEFAULTCAPACITY_EMPTY_ELEMENTDATA : ClassId) (hS : SS Z wDEFAULTCAPACITY_EMPTY_ELEMENTDATA kwDEFAULTCAPACITY_EMPTY_ELEMENTDATA) (pa1 : Addr) (pa2 : Addr) (pa3 : Addr) (pk4 : ClassId) (pa5 : Addr) (pa6 : Addr) (pk7 : ClassId) (pi8 : Int32) (pi9 : Int32) (pi10 : Int32) (pk11 : ClassId) (pi12 : Int32) (pi13 : Int32) (h0 : Heap) (n0 : Nat) (O0 : Old Z n0 h0) (P0 : Exa Z h0 pa1 s0n) (P1 : Fld Z h0 pa1 s4n "modCount" "I" (.int 1)) (P2 : Fld Z h0 pa1 s0n "elementData" s1n (.ref wDEFAULTCAPACITY_EMPTY_ELEMENTDATA)) (P3 : Fld Z h0 pa1 s0n "size" "I" (.int 0)) (P4 : Exa Z h0 pa2 s7n) (P7 : Arv Z h0 pa3 pk4 (.array .int) (2 : Int32) ([(.ref pa5), (.ref pa6)]) .null) (P10 : Arv Z h0 pa5 pk7 .int (3 : Int32) ([(.int pi8), (.int pi9), (.int pi10)]) (.int 0)) (P12 : Arv Z h0 pa6 pk11 .int (2 : Int32) ([(.int pi12), (.int pi13)]) (.int 0)) (P19 : n0 ≤ pa1) :
    MetB l M10 jdk_38_method_24_code 4 none ws (rmk 3 1 10 41) Z h0 #[(.ref pa1), (.ref pa2), (.ref wDEFAULTCAPACITY_EMPTY_ELEMENTDATA), (.int 0)] (Q_au11_0 Z wDEFAULTCAPACITY_EMPTY_ELEMENTDATA kwDEFAULTCAPACITY_EMPTY_ELEMENTDATA pa1 pa2 pa3 pk4 pa5 pa6 pk7 pi8 pi9 pi10 pk11 pi12 pi13 h0 n0) := by
  refine own_body (plainFor_of_name pn_java_util_ArrayList) ?_
  intro p e s m below meth c s₁ hx hby hml hown hnm hret0 hlk0 hZ X0 e0
  have N0 := Fr.nil n0
  have pre0 : ∀ t, Steps p.tables e below (s₁.setTop (mkF m 0 #[(vr pa1), (vr pa2), (vr wDEFAULTCAPACITY_EMPTY_ELEMENTDATA), (vi 0)] [])) t → Steps p.tables e below (s₁.setTop (entryFrame m #[(.ref pa1), (.ref pa2), (.ref wDEFAULTCAPACITY_EMPTY_ELEMENTDATA), (.int 0)] 4)) t := fun t k => castTop (ef_au11_0 m pa1 pa2 wDEFAULTCAPACITY_EMPTY_ELEMENTDATA (0 : Int32)) k
  have K0 := Keep.refl h0 [pa1]
  have hS0 := hS
  obtain ⟨S_wDEFAULTCAPACITY_EMPTY_ELEMENTDATA, E_wDEFAULTCAPACITY_EMPTY_ELEMENTDATA, V_wDEFAULTCAPACITY_EMPTY_ELEMENTDATA⟩ := hS0
  obtain ⟨cl1, Ar1, -, Sz1, Nn1, -, -⟩ := (id (V_wDEFAULTCAPACITY_EMPTY_ELEMENTDATA.ext O0.2))
  obtain ⟨cq2, q2, q2'⟩ := P0.cell
  obtain ⟨_, _, ⟨T2, L2, k2, n2⟩, -, X2, ⟨Lc2, hQ2, l2, y2, z2⟩, st2⟩ := X0.privateBack hx (y := M9) hown (mvT hZ (ow hw 100 rfl)) (mvT hZ (ow hw 101 rfl)) (mvT hZ (ow hw 103 rfl)) (Cond.privateMethod_at (mvP hZ (ow hw 102 rfl) (args := #[]))) (mvT hZ (ow hw 104 rfl)) (by decide) (backOf (W := 0) (au12_0 l Z a0 hw [] wDEFAULTCAPACITY_EMPTY_ELEMENTDATA kwDEFAULTCAPACITY_EMPTY_ELEMENTDATA hS pa1 h0 n0 O0 P0 P1 P2 P3 P19) hZ (ow hw 104 rfl) (ow hw 20 rfl) (by decide) (by decide)) (g := (mkF m 7 #[(vr pa1), (vr pa2), (vr wDEFAULTCAPACITY_EMPTY_ELEMENTDATA), (vi 0)] [(.ref pa1)])) rfl (by rw [hml]; rfl) (Steps.refl _) (a := pa1) (by rw [e0]; exact q2) q2' (argsL := []) (rest := []) (lenOf pd_6 rfl) rfl (by show 2 * 0 + _ ≤ _; exact Nat.le_of_eq rfl) (hb hby d11_7) (fun _ _ => ⟨rfl, e0, (by decide : 0 + 1 ≤ _), (by decide : 0 + 10 ≤ _)⟩)
  dsimp only [Pt.U, Pt.locs, Pt.cells, Pt.slots] at X2 l2 y2 z2 st2 hQ2
  subst l2 y2 z2
  obtain ⟨e1_2, e2_2, rfl, Nq2, K2q, p2_0, p2_1, p2_2, p2_3, p2_4, p2_5, p2_6, p2_7⟩ := hQ2
  have N2 := Fr.app N0 Nq2
  have ne3 : pa1 ≠ e1_2 := Nat.ne_of_lt (Nat.lt_of_lt_of_le P0.lt p2_4)
  have ne4 : pa2 ≠ e1_2 := Nat.ne_of_lt (Nat.lt_of_lt_of_le P4.lt p2_4)
  have ne5 : pa3 ≠ e1_2 := Nat.ne_of_lt (Nat.lt_of_lt_of_le P7.lt p2_4)
  have ne6 : pa5 ≠ e1_2 := Nat.ne_of_lt (Nat.lt_of_lt_of_le P10.lt p2_4)
  have ne7 : pa6 ≠ e1_2 := Nat.ne_of_lt (Nat.lt_of_lt_of_le P12.lt p2_4)
  have g8 : n0 ≤ e1_2 := Nat.le_trans (own_sz O0) p2_4
  have sz9 : h0.size ≤ e1_2 := Nat.le_trans K0.1 p2_4
  have O10 : Old Z n0 T2.heap := O0.keep K2q (allS P19 all0)
  have K10 : Keep h0 T2.heap [pa1] := K0.trans K2q (allS (Or.inl (List.mem_of_getElem? (i := 0) rfl)) all0)
  have f12 : Exa Z T2.heap pa2 s7n := (P4.keep K2q)
  obtain ⟨cl11, Ar11, qc11, Sz11, Nn11, Ha11, Gg11⟩ := (id p2_6)
  have hin11 : ¬ ((0 : Int32) < 0 ∨ cl11.slots.size ≤ ((0 : Int32)).toNatClampNeg) := inb_of Sz11 ⟨by decide, by decide⟩
  obtain ⟨T11, h11, X11, e11, W11, st11⟩ := stR X2 hx hZ rfl Ar11 (j := (0 : Int32)) hin11 rfl (Sto.ofV Ar11 qc11 p2_7 (Ins.of_exa f12 (ow hw 113 rfl))) (g := (mkF m 14 #[(vr pa1), (vr pa2), (vr e1_2), (vi 0)] [(.ref pa2), (.int 0), (.ref e1_2)])) rfl rfl (hb hby d11_14)
  have O13 : Old Z n0 h11 := O10.wr W11 g8
  have K13 : Keep h0 h11 [pa1] := K10.wr W11 (Or.inr sz9)
  have V11 : Arv Z h11 e1_2 e2_2 (.object s2n) (10 : Int32) ([(.ref pa2), .null, .null, .null, .null, .null, .null, .null, .null, .null]) .null := Arv.set Ar11 qc11 Sz11 Nn11 Ha11 Gg11 (v := (.ref pa2)) rfl W11 0 rfl (Nat.le_of_ble_eq_true rfl)
  have N11 := Fr.snoc X11 N2 g8
  have f14 : Exa Z h11 pa1 s0n := (p2_0.wr W11)
  have f15 : Fld Z h11 pa1 s0n "size" "I" (.int 0) := (p2_3.other W11 (Or.inl ne3))
  obtain ⟨T16, h16, X16, e16, W16, st16⟩ := putF X11 hx hZ hown (host := "") (Or.inl (ow hw 93 rfl)) Via.refl e11 f15 f14 (Or.inl (ow hw 94 rfl)) (ow hw 19 rfl) (ty := .int) (by decide) rfl rfl (g := (mkF m 19 #[(vr pa1), (vr pa2), (vr e1_2), (vi 0)] [(.int 1), (.ref pa1)])) rfl rfl (hb hby d11_19)
  have N16 := Fr.snoc X16 N11 P19
  have O17 : Old Z n0 h16 := O13.wr W16 P19
  have K17 : Keep h0 h16 [pa1] := K13.wr W16 (Or.inl (List.mem_of_getElem? (i := 0) rfl))
  have Fw16 : Fld Z h16 pa1 s0n "size" "I" (.int 1) := f15.same W16
  have f18 : Exa Z h16 pa1 s0n := (f14.wr W16)
  have f19 : Fld Z h16 pa1 s4n "modCount" "I" (.int 1) := ((p2_1.other W11 (Or.inl ne3)).other W16 (Or.inr (slot_ne (Or.inl (ow hw 38 rfl)) (Or.inl (ow hw 94 rfl)) (by decide) (t := .int) (t' := .int) (by decide) (by decide))))
  have f20 : Fld Z h16 pa1 s0n "elementData" s1n (.ref e1_2) := ((p2_2.other W11 (Or.inl ne3)).other W16 (Or.inr (slot_ne (Or.inl (ow hw 41 rfl)) (Or.inl (ow hw 94 rfl)) (by decide) (t := (.array (.object s2n))) (t' := .int) (by decide) (by decide))))
  have f21 : Exa Z h16 e1_2 s1n := ((p2_5.wr W11).wr W16)
  have f22 : Arv Z h16 e1_2 e2_2 (.object s2n) (10 : Int32) ([(.ref pa2), .null, .null, .null, .null, .null, .null, .null, .null, .null]) .null := (V11.other W16 (Ne.symm ne3))
  obtain ⟨fs, hr, hrun, hended, hW, hsame⟩ := X16.leave (v := none) (fun _ => rfl)
  refine ⟨_, _, pre0 _ ?_, hrun, hended, _, _, rfl, ?_, ⟨_, rfl⟩, hW, hsame.mono (by decide) (by decide)⟩
  · skip
    show Steps p.tables e below (s₁.setTop (mkF m 0 #[(vr pa1), (vr pa2), (vr wDEFAULTCAPACITY_EMPTY_ELEMENTDATA), (vi 0)] [])) _
    refine XS.iloadN X0.here hx rfl (hb hby d11_0) rfl ?_
    refine XS.aloadN X0.here hx rfl (hb hby d11_1) rfl rfl ?_
    refine X0.arraylength hx (by rw [e0]; exact Ar1.1) (State.isArrayOf_alike hZ.alike Ar1.2.1) (g := (mkF m 2 #[(vr pa1), (vr pa2), (vr wDEFAULTCAPACITY_EMPTY_ELEMENTDATA), (vi 0)] [(.ref wDEFAULTCAPACITY_EMPTY_ELEMENTDATA), (.int 0)])) rfl rfl (hb hby d11_2) _ ?_
    rw [len_of Sz1 Nn1]
    refine XS.icmpNo X0.here hx rfl (hb hby d11_3) rfl (teq (by decide : (0 : Int32) = (0 : Int32))).2 ?_
    refine XS.aloadN X0.here hx rfl (hb hby d11_6) rfl rfl ?_
    refine st2.trans ?_
    show Steps p.tables e below (T2.setTop (mkF m 10 #[(vr pa1), (vr pa2), (vr wDEFAULTCAPACITY_EMPTY_ELEMENTDATA), (vi 0)] [(.ref e1_2)])) _
    refine XS.astoreN X2.here hx rfl (hb hby d11_10) rfl rfl (l' := #[(vr pa1), (vr pa2), (vr e1_2), (vi 0)]) rfl ?_
    refine XS.aloadN X2.here hx rfl (hb hby d11_11) rfl rfl ?_
    refine XS.iloadN X2.here hx rfl (hb hby d11_12) rfl ?_
    refine XS.aloadN X2.here hx rfl (hb hby d11_13) rfl rfl ?_
    refine st11 _ ?_
    refine XS.aloadN X11.here hx rfl (hb hby d11_15) rfl rfl ?_
    show Steps p.tables e below (T11.setTop (mkF m 16 #[(vr pa1), (vr pa2), (vr e1_2), (vi 0)] [(.ref pa1)])) _
    refine XS.iloadN X11.here hx rfl (hb hby d11_16) rfl ?_
    refine XS.iconst X11.here hx rfl (hb hby d11_17) ?_
    refine XS.iadd X11.here hx rfl (hb hby d11_18) rfl ?_
    refine st16 _ ?_
    exact X16.returnOut hx hret0 (hb hby d11_22) hr
  · show Q_au11_0 Z wDEFAULTCAPACITY_EMPTY_ELEMENTDATA kwDEFAULTCAPACITY_EMPTY_ELEMENTDATA pa1 pa2 pa3 pk4 pa5 pa6 pk7 pi8 pi9 pi10 pk11 pi12 pi13 h0 n0 _ T16.heap _
    rw [e16]
    exact ⟨e1_2, e2_2, rfl, N16, K17, f18, f19, f20, Fw16, sz9, f21, f22, p2_7⟩
theorem pd_7 : parseMethodDescriptor "(Ljava/lang/Object;[Ljava/lang/Object;I)V" = some ⟨[(.object "java/lang/Object"), (.array (.object "java/lang/Object")), .int], none⟩ := by decide +kernel
theorem d10_23 : decode jdk_38_method_25_code 23 = .ok (.iconst 1, 1) := by decide +kernel
theorem d10_24 : decode jdk_38_method_25_code 24 = .ok (.ireturn, 1) := by decide +kernel
def Q_au10_0 (Z : State) (wDEFAULTCAPACITY_EMPTY_ELEMENTDATA : Addr) (kwDEFAULTCAPACITY_EMPTY_ELEMENTDATA : ClassId) (pa1 : Addr) (pa2 : Addr) (pa3 : Addr) (pk4 : ClassId) (pa5 : Addr) (pa6 : Addr) (pk7 : ClassId) (pi8 : Int32) (pi9 : Int32) (pi10 : Int32) (pk11 : ClassId) (pi12 : Int32) (pi13 : Int32) (h0 : Heap) (n0 : Nat) (v : Option Value) (h : Heap) (L : List Loc) : Prop := ∃ (e1 : Addr) (e2 : ClassId), v = some (.int 1) ∧ Fr n0 L ∧ Keep h0 h [pa1] ∧ Exa Z h pa1 s0n ∧ Fld Z h pa1 s4n "modCount" "I" (.int 1) ∧ Fld Z h pa1 s0n "elementData" s1n (.ref e1) ∧ Fld Z h pa1 s0n "size" "I" (.int 1) ∧ h0.size ≤ e1 ∧ Exa Z h e1 s1n ∧ Arv Z h e1 e2 (.object s2n) (10 : Int32) ([(.ref pa2), .null, .null, .null, .null, .null, .null, .null, .null, .null]) .null ∧ Ovr Z e2 s2n
theorem au10_0 (l : Launch) (Z : State) (a0 : Array Value) (hw : ∀ d ∈ tables_1, d.before a0 Z = true) (ws : List Jvm.Cond) (wDEFAULTCAPACITY_EMPTY_ELEMENTDATA : Addr) (kwDEFAULTCAPACITY_EMPTY_ELEMENTDATA : ClassId) (hS : SS Z wDEFAULTCAPACITY_EMPTY_ELEMENTDATA kwDEFAULTCAPACITY_EMPTY_ELEMENTDATA) (pa1 : Addr) (pa2 : Addr) (pa3 : Addr) (pk4 : ClassId) (pa5 : Addr) (pa6 : Addr) (pk7 : ClassId) (pi8 : Int32) (pi9 : Int32) (pi10 : Int32) (pk11 : ClassId) (pi12 : Int32) (pi13 : Int32) (h0 : Heap) (n0 : Nat) (O0 : Old Z n0 h0) (P0 : Exa Z h0 pa1 s0n) (P1 : Fld Z h0 pa1 s4n "modCount" "I" (.int 0)) (P2 : Fld Z h0 pa1 s0n "elementData" s1n (.ref wDEFAULTCAPACITY_EMPTY_ELEMENTDATA)) (P3 : Fld Z h0 pa1 s0n "size" "I" (.int 0)) (P4 : Exa Z h0 pa2 s7n) (P7 : Arv Z h0 pa3 pk4 (.array .int) (2 : Int32) ([(.ref pa5), (.ref pa6)]) .null) (P10 : Arv Z h0 pa5 pk7 .int (3 : Int32) ([(.int pi8), (.int pi9), (.int pi10)]) (.int 0)) (P12 : Arv Z h0 pa6 pk11 .int (2 : Int32) ([(.int pi12), (.int pi13)]) (.int 0)) (P19 : n0 ≤ pa1) (P23 : pa1 ≠ pa3) (P24 : pa1 ≠ pa5) (P25 : pa1 ≠ pa6) :
    MetB l M11 jdk_38_method_25_code 2 (some .boolean) ws (rmk 4 1 10 56) Z h0 #[(.ref pa1), (.ref pa2)] (Q_au10_0 Z wDEFAULTCAPACITY_EMPTY_ELEMENTDATA kwDEFAULTCAPACITY_EMPTY_ELEMENTDATA pa1 pa2 pa3 pk4 pa5 pa6 pk7 pi8 pi9 pi10 pk11 pi12 pi13 h0 n0) := by
  refine own_body (plainFor_of_name pn_java_util_ArrayList) ?_
  intro p e s m below meth c s₁ hx hby hml hown hnm hret0 hlk0 hZ X0 e0
  have N0 := Fr.nil n0
  have pre0 : ∀ t, Steps p.tables e below (s₁.setTop (mkF m 0 #[(vr pa1), (vr pa2)] [])) t → Steps p.tables e below (s₁.setTop (entryFrame m #[(.ref pa1), (.ref pa2)] 2)) t := fun t k => castTop (ef_au10_0 m pa1 pa2) k
  have K0 := Keep.refl h0 [pa1]
  have hS0 := hS
  obtain ⟨S_wDEFAULTCAPACITY_EMPTY_ELEMENTDATA, E_wDEFAULTCAPACITY_EMPTY_ELEMENTDATA, V_wDEFAULTCAPACITY_EMPTY_ELEMENTDATA⟩ := hS0
  obtain ⟨T1, X1, e1, st1⟩ := getF X0 hx hZ hown (host := "") (Or.inl (ow hw 91 rfl)) (Via.of (ow hw 92 rfl)) e0 P1 (g := (mkF m 2 #[(vr pa1), (vr pa2)] [(.ref pa1), (.ref pa1)])) rfl rfl (hb hby d10_2)
  obtain ⟨T2, h2, X2, e2, W2, st2⟩ := putF X1 hx hZ hown (host := "") (Or.inl (ow hw 91 rfl)) (Via.of (ow hw 92 rfl)) e1 P1 P0 (Or.inl (ow hw 38 rfl)) (ow hw 19 rfl) (ty := .int) (by decide) rfl rfl (g := (mkF m 7 #[(vr pa1), (vr pa2)] [(.int 1), (.ref pa1)])) rfl rfl (hb hby d10_7)
  have N2 := Fr.snoc X2 N0 P19
  have O3 : Old Z n0 h2 := O0.wr W2 P19
  have K3 : Keep h0 h2 [pa1] := K0.wr W2 (Or.inl (List.mem_of_getElem? (i := 0) rfl))
  have Fw2 : Fld Z h2 pa1 s4n "modCount" "I" (.int 1) := P1.same W2
  have f4 : Fld Z h2 pa1 s0n "elementData" s1n (.ref wDEFAULTCAPACITY_EMPTY_ELEMENTDATA) := (P2.other W2 (Or.inr (slot_ne (Or.inl (ow hw 41 rfl)) (Or.inl (ow hw 38 rfl)) (by decide) (t := (.array (.object s2n))) (t' := .int) (by decide) (by decide))))
  obtain ⟨T5, X5, e5, st5⟩ := getF X2 hx hZ hown (host := "") (Or.inl (ow hw 40 rfl)) Via.refl e2 f4 (g := (mkF m 13 #[(vr pa1), (vr pa2)] [(.ref pa1), (.ref pa2), (.ref pa1)])) rfl rfl (hb hby d10_13)
  have f6 : Fld Z h2 pa1 s0n "size" "I" (.int 0) := (P3.other W2 (Or.inr (slot_ne (Or.inl (ow hw 94 rfl)) (Or.inl (ow hw 38 rfl)) (by decide) (t := .int) (t' := .int) (by decide) (by decide))))
  obtain ⟨T7, X7, e7, st7⟩ := getF X5 hx hZ hown (host := "") (Or.inl (ow hw 93 rfl)) Via.refl e5 f6 (g := (mkF m 17 #[(vr pa1), (vr pa2)] [(.ref pa1), (.ref wDEFAULTCAPACITY_EMPTY_ELEMENTDATA), (.ref pa2), (.ref pa1)])) rfl rfl (hb hby d10_17)
  have f8 : Exa Z h2 pa1 s0n := (P0.wr W2)
  have f9 : Exa Z h2 pa2 s7n := (P4.wr W2)
  have f10 : Arv Z h2 pa3 pk4 (.array .int) (2 : Int32) ([(.ref pa5), (.ref pa6)]) .null := (P7.other W2 (Ne.symm P23))
  have f11 : Arv Z h2 pa5 pk7 .int (3 : Int32) ([(.int pi8), (.int pi9), (.int pi10)]) (.int 0) := (P10.other W2 (Ne.symm P24))
  have f12 : Arv Z h2 pa6 pk11 .int (2 : Int32) ([(.int pi12), (.int pi13)]) (.int 0) := (P12.other W2 (Ne.symm P25))
  obtain ⟨cq13, q13, q13'⟩ := f8.cell
  obtain ⟨_, _, ⟨T13, L13, k13, n13⟩, -, X13, ⟨Lc13, hQ13, l13, y13, z13⟩, st13⟩ := X7.privateBack hx (y := M10) hown (mvT hZ (ow hw 95 rfl)) (mvT hZ (ow hw 96 rfl)) (mvT hZ (ow hw 98 rfl)) (Cond.privateMethod_at (mvP hZ (ow hw 97 rfl) (args := #[]))) (mvT hZ (ow hw 99 rfl)) (by decide) (backOf (W := 0) (au11_0 l Z a0 hw [] wDEFAULTCAPACITY_EMPTY_ELEMENTDATA kwDEFAULTCAPACITY_EMPTY_ELEMENTDATA hS pa1 pa2 pa3 pk4 pa5 pa6 pk7 pi8 pi9 pi10 pk11 pi12 pi13 h2 n0 O3 f8 Fw2 f4 f6 f9 f10 f11 f12 P19) hZ (ow hw 99 rfl) (ow hw 20 rfl) (by decide) (by decide)) (g := (mkF m 20 #[(vr pa1), (vr pa2)] [(.int 0), (.ref wDEFAULTCAPACITY_EMPTY_ELEMENTDATA), (.ref pa2), (.ref pa1)])) rfl (by rw [hml]; rfl) (Steps.refl _) (a := pa1) (by rw [e7]; exact q13) q13' (argsL := [(.ref pa2), (.ref wDEFAULTCAPACITY_EMPTY_ELEMENTDATA), (.int 0)]) (rest := []) (lenOf pd_7 rfl) rfl (by show 2 * 0 + _ ≤ _; exact Nat.le_of_eq rfl) (hb hby d10_20) (fun _ _ => ⟨rfl, e7, (by decide : 0 + 1 ≤ _), (by decide : 0 + 10 ≤ _)⟩)
  dsimp only [Pt.U, Pt.locs, Pt.cells, Pt.slots] at X13 l13 y13 z13 st13 hQ13
  subst l13 y13 z13
  obtain ⟨e1_13, e2_13, rfl, Nq13, K13q, p13_0, p13_1, p13_2, p13_3, p13_4, p13_5, p13_6, p13_7⟩ := hQ13
  have N13 := Fr.app N2 Nq13
  have ne14 : pa1 ≠ e1_13 := Nat.ne_of_lt (Nat.lt_of_lt_of_le f8.lt p13_4)
  have ne15 : pa2 ≠ e1_13 := Nat.ne_of_lt (Nat.lt_of_lt_of_le f9.lt p13_4)
  have ne16 : pa3 ≠ e1_13 := Nat.ne_of_lt (Nat.lt_of_lt_of_le f10.lt p13_4)
  have ne17 : pa5 ≠ e1_13 := Nat.ne_of_lt (Nat.lt_of_lt_of_le f11.lt p13_4)
  have ne18 : pa6 ≠ e1_13 := Nat.ne_of_lt (Nat.lt_of_lt_of_le f12.lt p13_4)
  have g19 : n0 ≤ e1_13 := Nat.le_trans (own_sz O3) p13_4
  have sz20 : h0.size ≤ e1_13 := Nat.le_trans K3.1 p13_4
  have O21 : Old Z n0 T13.heap := O3.keep K13q (allS P19 all0)
  have K21 : Keep h0 T13.heap [pa1] := K3.trans K13q (allS (Or.inl (List.mem_of_getElem? (i := 0) rfl)) all0)
  obtain ⟨fs, hr, hrun, hended, hW, hsame⟩ := X13.leave (v := some (.int 1)) (fun h => by rw [hret0] at h; cases h)
  refine ⟨_, _, pre0 _ ?_, hrun, hended, _, _, rfl, ?_, ⟨_, rfl⟩, hW, hsame.mono (by decide) (by decide)⟩
  · skip
    show Steps p.tables e below (s₁.setTop (mkF m 0 #[(vr pa1), (vr pa2)] [])) _
    refine XS.aloadN X0.here hx rfl (hb hby d10_0) rfl rfl ?_
    refine XS.dup X0.here hx rfl (hb hby d10_1) rfl rfl ?_
    refine st1 _ ?_
    refine XS.iconst X1.here hx rfl (hb hby d10_5) ?_
    refine XS.iadd X1.here hx rfl (hb hby d10_6) rfl ?_
    refine st2 _ ?_
    show Steps p.tables e below (T2.setTop (mkF m 10 #[(vr pa1), (vr pa2)] [])) _
    refine XS.aloadN X2.here hx rfl (hb hby d10_10) rfl rfl ?_
    refine XS.aloadN X2.here hx rfl (hb hby d10_11) rfl rfl ?_
    refine XS.aloadN X2.here hx rfl (hb hby d10_12) rfl rfl ?_
    refine st5 _ ?_
    refine XS.aloadN X5.here hx rfl (hb hby d10_16) rfl rfl ?_
    refine st7 _ ?_
    show Steps p.tables e below (T7.setTop (mkF m 20 #[(vr pa1), (vr pa2)] [(.int 0), (.ref wDEFAULTCAPACITY_EMPTY_ELEMENTDATA), (.ref pa2), (.ref pa1)])) _
    refine st13.trans ?_
    refine XS.iconst X13.here hx rfl (hb hby d10_23) ?_
    exact retN X13 hx (t := .boolean) hret0 (by simp) (hb hby d10_24) hr
  · show Q_au10_0 Z wDEFAULTCAPACITY_EMPTY_ELEMENTDATA kwDEFAULTCAPACITY_EMPTY_ELEMENTDATA pa1 pa2 pa3 pk4 pa5 pa6 pk7 pi8 pi9 pi10 pk11 pi12 pi13 h0 n0 _ T13.heap _
    exact ⟨e1_13, e2_13, rfl, N13, K21, p13_0, p13_1, p13_2, p13_3, sz20, p13_5, p13_6, p13_7⟩
theorem pd_8 : parseMethodDescriptor "(Ljava/lang/Object;)Z" = some ⟨[(.object "java/lang/Object")], some .boolean⟩ := by decide +kernel
theorem d9_10 : decode prog_34_method_4_code 10 = .ok (.pop, 1) := by decide +kernel
theorem d9_11 : decode prog_34_method_4_code 11 = .ok (.aload_n 0, 1) := by decide +kernel
theorem d9_12 : decode prog_34_method_4_code 12 = .ok (.aload_n 1, 1) := by decide +kernel
theorem d9_13 : decode prog_34_method_4_code 13 = .ok (.invokevirtual 45, 3) := by decide +kernel
theorem ef_au14_0 (m : MethodId) (x0 : Addr)  : entryFrame m #[(.ref x0)] 1 = mkF m 0 #[(vr x0)] [] := by first | (simp [entryFrame, mkF, argsToLocals, Value.category]; done) | rfl
theorem d14_0 : decode prog_39_method_6_code 0 = .ok (.aload_n 0, 1) := by decide +kernel
theorem d14_1 : decode prog_39_method_6_code 1 = .ok (.getfield 7, 3) := by decide +kernel
theorem d14_4 : decode prog_39_method_6_code 4 = .ok (.areturn, 1) := by decide +kernel
def Q_au14_0 (Z : State) (wDEFAULTCAPACITY_EMPTY_ELEMENTDATA : Addr) (kwDEFAULTCAPACITY_EMPTY_ELEMENTDATA : ClassId) (pa1 : Addr) (pa2 : Addr) (h0 : Heap) (n0 : Nat) (v : Option Value) (h : Heap) (L : List Loc) : Prop := v = some (.ref pa2) ∧ Fr n0 L ∧ h = h0
theorem au14_0 (l : Launch) (Z : State) (a0 : Array Value) (hw : ∀ d ∈ tables_1, d.before a0 Z = true) (ws : List Jvm.Cond) (wDEFAULTCAPACITY_EMPTY_ELEMENTDATA : Addr) (kwDEFAULTCAPACITY_EMPTY_ELEMENTDATA : ClassId) (hS : SS Z wDEFAULTCAPACITY_EMPTY_ELEMENTDATA kwDEFAULTCAPACITY_EMPTY_ELEMENTDATA) (pa1 : Addr) (pa2 : Addr) (h0 : Heap) (n0 : Nat) (O0 : Old Z n0 h0) (P1 : Fld Z h0 pa1 s7n "orders" "[[I" (.ref pa2)) :
    MetB l M12 prog_39_method_6_code 1 (some (.array (.array .int))) ws (rmk 0 0 0 0) Z h0 #[(.ref pa1)] (Q_au14_0 Z wDEFAULTCAPACITY_EMPTY_ELEMENTDATA kwDEFAULTCAPACITY_EMPTY_ELEMENTDATA pa1 pa2 h0 n0) := by
  refine own_body (plainFor_of_name pn_com_example_loopline_loopline_dispatch_Tour) ?_
  intro p e s m below meth c s₁ hx hby hml hown hnm hret0 hlk0 hZ X0 e0
  have N0 := Fr.nil n0
  have pre0 : ∀ t, Steps p.tables e below (s₁.setTop (mkF m 0 #[(vr pa1)] [])) t → Steps p.tables e below (s₁.setTop (entryFrame m #[(.ref pa1)] 1)) t := fun t k => castTop (ef_au14_0 m pa1) k
  have hS0 := hS
  obtain ⟨S_wDEFAULTCAPACITY_EMPTY_ELEMENTDATA, E_wDEFAULTCAPACITY_EMPTY_ELEMENTDATA, V_wDEFAULTCAPACITY_EMPTY_ELEMENTDATA⟩ := hS0
  obtain ⟨T1, X1, e1, st1⟩ := getF X0 hx hZ hown (host := "") (Or.inl (ow hw 73 rfl)) Via.refl e0 P1 (g := (mkF m 1 #[(vr pa1)] [(.ref pa1)])) rfl rfl (hb hby d14_1)
  obtain ⟨fs, hr, hrun, hended, hW, hsame⟩ := X1.leave (v := some (.ref pa2)) (fun h => by rw [hret0] at h; cases h)
  refine ⟨_, _, pre0 _ ?_, hrun, hended, _, _, rfl, ?_, ⟨_, rfl⟩, hW, hsame.mono (by decide) (by decide)⟩
  · skip
    show Steps p.tables e below (s₁.setTop (mkF m 0 #[(vr pa1)] [])) _
    refine XS.aloadN X0.here hx rfl (hb hby d14_0) rfl rfl ?_
    refine st1 _ ?_
    jvm_step X1.here [X1.here.top, hx, (hb hby d14_4), X1.method', hret0, Value.isRef, FieldType.isReference]
    first | (intro acts; rw [hr _ acts rfl rfl rfl]) | rw [hr _ _ rfl rfl rfl]
    exact Steps.refl _
  · show Q_au14_0 Z wDEFAULTCAPACITY_EMPTY_ELEMENTDATA kwDEFAULTCAPACITY_EMPTY_ELEMENTDATA pa1 pa2 h0 n0 _ T1.heap _
    rw [e1]
    exact ⟨rfl, N0, rfl⟩
theorem pd_9 : parseMethodDescriptor "()[[I" = some ⟨[], some (.array (.array .int))⟩ := by decide +kernel
theorem d9_16 : decode prog_34_method_4_code 16 = .ok (.iconst 1, 1) := by decide +kernel
theorem d9_17 : decode prog_34_method_4_code 17 = .ok (.invokevirtual 51, 3) := by decide +kernel
theorem ef_au15_0 (m : MethodId) (x0 : Addr) (x1 : Addr) (x2 : Int32)  : entryFrame m #[(.ref x0), (.ref x1), (.int x2)] 5 = mkF m 0 #[(vr x0), (vr x1), (vi x2), .unset, .unset] [] := by first | (simp [entryFrame, mkF, argsToLocals, Value.category]; done) | rfl
theorem d15_0 : decode prog_34_method_5_code 0 = .ok (.iconst 0, 1) := by decide +kernel
theorem d15_1 : decode prog_34_method_5_code 1 = .ok (.istore_n 3, 1) := by decide +kernel
theorem d15_2 : decode prog_34_method_5_code 2 = .ok (.iload_n 3, 1) := by decide +kernel
theorem d15_3 : decode prog_34_method_5_code 3 = .ok (.aload_n 1, 1) := by decide +kernel
theorem d15_4 : decode prog_34_method_5_code 4 = .ok (.arraylength, 1) := by decide +kernel
theorem d15_5 : decode prog_34_method_5_code 5 = .ok (.if_icmp .ge 47, 3) := by decide +kernel
theorem d15_8 : decode prog_34_method_5_code 8 = .ok (.iconst 0, 1) := by decide +kernel
theorem d15_9 : decode prog_34_method_5_code 9 = .ok (.istore 4, 2) := by decide +kernel
theorem d15_11 : decode prog_34_method_5_code 11 = .ok (.iload 4, 2) := by decide +kernel
theorem d15_13 : decode prog_34_method_5_code 13 = .ok (.aload_n 1, 1) := by decide +kernel
theorem d15_14 : decode prog_34_method_5_code 14 = .ok (.iload_n 3, 1) := by decide +kernel
theorem d15_15 : decode prog_34_method_5_code 15 = .ok (.aaload, 1) := by decide +kernel
theorem d15_16 : decode prog_34_method_5_code 16 = .ok (.arraylength, 1) := by decide +kernel
theorem d15_17 : decode prog_34_method_5_code 17 = .ok (.if_icmp .ge 29, 3) := by decide +kernel
theorem d15_20 : decode prog_34_method_5_code 20 = .ok (.aload_n 0, 1) := by decide +kernel
theorem d15_21 : decode prog_34_method_5_code 21 = .ok (.getfield 31, 3) := by decide +kernel
theorem d15_24 : decode prog_34_method_5_code 24 = .ok (.iload_n 3, 1) := by decide +kernel
theorem d15_25 : decode prog_34_method_5_code 25 = .ok (.aaload, 1) := by decide +kernel
theorem d15_26 : decode prog_34_method_5_code 26 = .ok (.iload 4, 2) := by decide +kernel
theorem d15_28 : decode prog_34_method_5_code 28 = .ok (.aaload, 1) := by decide +kernel
theorem d15_29 : decode prog_34_method_5_code 29 = .ok (.aload_n 1, 1) := by decide +kernel
theorem d15_30 : decode prog_34_method_5_code 30 = .ok (.iload_n 3, 1) := by decide +kernel
theorem d15_31 : decode prog_34_method_5_code 31 = .ok (.aaload, 1) := by decide +kernel
theorem d15_32 : decode prog_34_method_5_code 32 = .ok (.iload 4, 2) := by decide +kernel
theorem d15_34 : decode prog_34_method_5_code 34 = .ok (.iaload, 1) := by decide +kernel
theorem d15_35 : decode prog_34_method_5_code 35 = .ok (.dup2, 1) := by decide +kernel
theorem d15_36 : decode prog_34_method_5_code 36 = .ok (.iaload, 1) := by decide +kernel
theorem d15_37 : decode prog_34_method_5_code 37 = .ok (.iload_n 2, 1) := by decide +kernel
theorem d15_38 : decode prog_34_method_5_code 38 = .ok (.iadd, 1) := by decide +kernel
theorem d15_39 : decode prog_34_method_5_code 39 = .ok (.iastore, 1) := by decide +kernel
theorem d15_40 : decode prog_34_method_5_code 40 = .ok (.iinc 4 1, 3) := by decide +kernel
theorem d15_43 : decode prog_34_method_5_code 43 = .ok (.goto (-32), 3) := by decide +kernel
theorem d15_46 : decode prog_34_method_5_code 46 = .ok (.iinc 3 1, 3) := by decide +kernel
theorem d15_49 : decode prog_34_method_5_code 49 = .ok (.goto (-47), 3) := by decide +kernel
theorem d15_52 : decode prog_34_method_5_code 52 = .ok (.return_, 1) := by decide +kernel
def Q_au15_0 (Z : State) (wDEFAULTCAPACITY_EMPTY_ELEMENTDATA : Addr) (kwDEFAULTCAPACITY_EMPTY_ELEMENTDATA : ClassId) (pa1 : Addr) (pa2 : Addr) (pa3 : Addr) (pk7 : ClassId) (pa8 : Addr) (pa9 : Addr) (pk10 : ClassId) (pa11 : Addr) (pa12 : Addr) (pk15 : ClassId) (pi16 : Int32) (pi17 : Int32) (pi18 : Int32) (pk19 : ClassId) (pi20 : Int32) (pi21 : Int32) (pk22 : ClassId) (pa23 : Addr) (pa24 : Addr) (pa25 : Addr) (pk26 : ClassId) (pa27 : Addr) (pa28 : Addr) (pk31 : ClassId) (pk32 : ClassId) (h0 : Heap) (n0 : Nat) (v : Option Value) (h : Heap) (L : List Loc) : Prop := v = none ∧ Fr n0 L ∧ Keep h0 h [pa23, pa24, pa25, pa27, pa28] ∧ Exa Z h pa23 "[I" ∧ Arv Z h pa23 pk31 .int (3 : Int32) ([(.int (inc pi16 (0 : Int32) (0 : Int32))), (.int (inc pi16 (1 : Int32) (0 : Int32))), (.int (inc pi16 (2 : Int32) (0 : Int32)))]) (.int 0) ∧ Exa Z h pa24 "[I" ∧ Arv Z h pa24 pk31 .int (3 : Int32) ([(.int (inc pi17 (0 : Int32) (0 : Int32))), (.int (inc pi17 (1 : Int32) (0 : Int32))), (.int (inc pi17 (2 : Int32) (0 : Int32)))]) (.int 0) ∧ Exa Z h pa25 "[I" ∧ Arv Z h pa25 pk31 .int (3 : Int32) ([(.int (inc pi18 (0 : Int32) (0 : Int32))), (.int (inc pi18 (1 : Int32) (0 : Int32))), (.int (inc pi18 (2 : Int32) (0 : Int32)))]) (.int 0) ∧ Exa Z h pa27 "[I" ∧ Arv Z h pa27 pk32 .int (2 : Int32) ([(.int (inc pi20 (0 : Int32) (0 : Int32))), (.int (inc pi20 (1 : Int32) (0 : Int32)))]) (.int 0) ∧ Exa Z h pa28 "[I" ∧ Arv Z h pa28 pk32 .int (2 : Int32) ([(.int (inc pi21 (0 : Int32) (0 : Int32))), (.int (inc pi21 (1 : Int32) (0 : Int32)))]) (.int 0)
theorem au15_0 (l : Launch) (Z : State) (a0 : Array Value) (hw : ∀ d ∈ tables_1, d.before a0 Z = true) (ws : List Jvm.Cond) (wDEFAULTCAPACITY_EMPTY_ELEMENTDATA : Addr) (kwDEFAULTCAPACITY_EMPTY_ELEMENTDATA : ClassId) (hS : SS Z wDEFAULTCAPACITY_EMPTY_ELEMENTDATA kwDEFAULTCAPACITY_EMPTY_ELEMENTDATA) (pa1 : Addr) (pa2 : Addr) (pa3 : Addr) (pk7 : ClassId) (pa8 : Addr) (pa9 : Addr) (pk10 : ClassId) (pa11 : Addr) (pa12 : Addr) (pk15 : ClassId) (pi16 : Int32) (pi17 : Int32) (pi18 : Int32) (pk19 : ClassId) (pi20 : Int32) (pi21 : Int32) (pk22 : ClassId) (pa23 : Addr) (pa24 : Addr) (pa25 : Addr) (pk26 : ClassId) (pa27 : Addr) (pa28 : Addr) (pk31 : ClassId) (pk32 : ClassId) (h0 : Heap) (n0 : Nat) (O0 : Old Z n0 h0) (P1 : Fld Z h0 pa1 s3n "counts" "[[[I" (.ref pa3)) (P5 : Arv Z h0 pa2 pk7 (.array .int) (2 : Int32) ([(.ref pa8), (.ref pa9)]) .null) (P8 : Arv Z h0 pa3 pk10 (.array (.array .int)) (2 : Int32) ([(.ref pa11), (.ref pa12)]) .null) (P17 : Arv Z h0 pa8 pk15 .int (3 : Int32) ([(.int pi16), (.int pi17), (.int pi18)]) (.int 0)) (P19 : Arv Z h0 pa9 pk19 .int (2 : Int32) ([(.int pi20), (.int pi21)]) (.int 0)) (P21 : Arv Z h0 pa11 pk22 (.array .int) (3 : Int32) ([(.ref pa23), (.ref pa24), (.ref pa25)]) .null) (P24 : Arv Z h0 pa12 pk26 (.array .int) (2 : Int32) ([(.ref pa27), (.ref pa28)]) .null) (P30 : Arv Z h0 pa23 pk31 .int (3 : Int32) ([(.int 0), (.int 0), (.int 0)]) (.int 0)) (P31 : Exa Z h0 pa23 "[I") (P32 : Arv Z h0 pa24 pk31 .int (3 : Int32) ([(.int 0), (.int 0), (.int 0)]) (.int 0)) (P33 : Exa Z h0 pa24 "[I") (P34 : Arv Z h0 pa25 pk31 .int (3 : Int32) ([(.int 0), (.int 0), (.int 0)]) (.int 0)) (P35 : Exa Z h0 pa25 "[I") (P36 : Arv Z h0 pa27 pk32 .int (2 : Int32) ([(.int 0), (.int 0)]) (.int 0)) (P37 : Exa Z h0 pa27 "[I") (P38 : Arv Z h0 pa28 pk32 .int (2 : Int32) ([(.int 0), (.int 0)]) (.int 0)) (P39 : Exa Z h0 pa28 "[I") (P45 : inT pi16) (P46 : inT pi17) (P47 : inT pi18) (P48 : inB pi20) (P49 : inB pi21) (P58 : n0 ≤ pa23) (P59 : n0 ≤ pa24) (P60 : n0 ≤ pa25) (P61 : n0 ≤ pa27) (P62 : n0 ≤ pa28) (P73 : pa1 ≠ pa23) (P74 : pa1 ≠ pa24) (P75 : pa1 ≠ pa25) (P76 : pa1 ≠ pa27) (P87 : pa2 ≠ pa23) (P88 : pa2 ≠ pa24) (P89 : pa2 ≠ pa25) (P90 : pa2 ≠ pa27) (P91 : pa2 ≠ pa28) (P100 : pa3 ≠ pa23) (P101 : pa3 ≠ pa24) (P102 : pa3 ≠ pa25) (P103 : pa3 ≠ pa27) (P133 : pa8 ≠ pa23) (P134 : pa8 ≠ pa24) (P135 : pa8 ≠ pa25) (P142 : pa9 ≠ pa23) (P143 : pa9 ≠ pa24) (P144 : pa9 ≠ pa25) (P145 : pa9 ≠ pa27) (P146 : pa9 ≠ pa28) (P150 : pa11 ≠ pa23) (P151 : pa11 ≠ pa24) (P157 : pa12 ≠ pa23) (P158 : pa12 ≠ pa24) (P159 : pa12 ≠ pa25) (P160 : pa12 ≠ pa27) (P169 : pa23 ≠ pa24) (P170 : pa23 ≠ pa25) (P171 : pa23 ≠ pa27) (P172 : pa23 ≠ pa28) (P174 : pa24 ≠ pa25) (P175 : pa24 ≠ pa27) (P176 : pa24 ≠ pa28) (P178 : pa25 ≠ pa27) (P179 : pa25 ≠ pa28) (P181 : pa27 ≠ pa28) :
    MetB l M13 prog_34_method_5_code 5 none ws (rmk 0 0 0 0) Z h0 #[(.ref pa1), (.ref pa2), (.int 1)] (Q_au15_0 Z wDEFAULTCAPACITY_EMPTY_ELEMENTDATA kwDEFAULTCAPACITY_EMPTY_ELEMENTDATA pa1 pa2 pa3 pk7 pa8 pa9 pk10 pa11 pa12 pk15 pi16 pi17 pi18 pk19 pi20 pi21 pk22 pa23 pa24 pa25 pk26 pa27 pa28 pk31 pk32 h0 n0) := by
  refine own_body (plainFor_of_name pn_com_example_loopline_loopline_dispatch_Pheromone) ?_
  intro p e s m below meth c s₁ hx hby hml hown hnm hret0 hlk0 hZ X0 e0
  have N0 := Fr.nil n0
  have pre0 : ∀ t, Steps p.tables e below (s₁.setTop (mkF m 0 #[(vr pa1), (vr pa2), (vi 1), .unset, .unset] [])) t → Steps p.tables e below (s₁.setTop (entryFrame m #[(.ref pa1), (.ref pa2), (.int 1)] 5)) t := fun t k => castTop (ef_au15_0 m pa1 pa2 (1 : Int32)) k
  have K0 := Keep.refl h0 [pa23, pa24, pa25, pa27, pa28]
  have hS0 := hS
  obtain ⟨S_wDEFAULTCAPACITY_EMPTY_ELEMENTDATA, E_wDEFAULTCAPACITY_EMPTY_ELEMENTDATA, V_wDEFAULTCAPACITY_EMPTY_ELEMENTDATA⟩ := hS0
  obtain ⟨cl1, Ar1, -, Sz1, Nn1, -, -⟩ := (id P5)
  obtain ⟨cl2, Ar2, qc2, Sz2, Nn2, Ha2, Gg2⟩ := (id P5)
  have hin2 : ¬ ((0 : Int32) < 0 ∨ cl2.slots.size ≤ ((0 : Int32)).toNatClampNeg) := inb_of Sz2 ⟨by decide, by decide⟩
  have hat2 : cl2.slots[((0 : Int32)).toNatClampNeg]? = some (.ref pa8) := Ha2.at hin2 rfl
  obtain ⟨cl3, Ar3, -, Sz3, Nn3, -, -⟩ := (id P17)
  obtain ⟨T4, X4, e4, st4⟩ := getF X0 hx hZ hown (host := "") (Or.inl (ow hw 58 rfl)) Via.refl e0 P1 (g := (mkF m 21 #[(vr pa1), (vr pa2), (vi 1), (vi 0), (vi 0)] [(.ref pa1)])) rfl rfl (hb hby d15_21)
  obtain ⟨cl5, Ar5, qc5, Sz5, Nn5, Ha5, Gg5⟩ := (id P8)
  have hin5 : ¬ ((0 : Int32) < 0 ∨ cl5.slots.size ≤ ((0 : Int32)).toNatClampNeg) := inb_of Sz5 ⟨by decide, by decide⟩
  have hat5 : cl5.slots[((0 : Int32)).toNatClampNeg]? = some (.ref pa11) := Ha5.at hin5 rfl
  obtain ⟨cl6, Ar6, qc6, Sz6, Nn6, Ha6, Gg6⟩ := (id P21)
  have hin6 : ¬ ((0 : Int32) < 0 ∨ cl6.slots.size ≤ ((0 : Int32)).toNatClampNeg) := inb_of Sz6 ⟨by decide, by decide⟩
  have hat6 : cl6.slots[((0 : Int32)).toNatClampNeg]? = some (.ref pa23) := Ha6.at hin6 rfl
  obtain ⟨cl7, Ar7, qc7, Sz7, Nn7, Ha7, Gg7⟩ := (id P5)
  have hin7 : ¬ ((0 : Int32) < 0 ∨ cl7.slots.size ≤ ((0 : Int32)).toNatClampNeg) := inb_of Sz7 ⟨by decide, by decide⟩
  have hat7 : cl7.slots[((0 : Int32)).toNatClampNeg]? = some (.ref pa8) := Ha7.at hin7 rfl
  obtain ⟨cl8, Ar8, qc8, Sz8, Nn8, Ha8, Gg8⟩ := (id P17)
  have hin8 : ¬ ((0 : Int32) < 0 ∨ cl8.slots.size ≤ ((0 : Int32)).toNatClampNeg) := inb_of Sz8 ⟨by decide, by decide⟩
  have hat8 : cl8.slots[((0 : Int32)).toNatClampNeg]? = some (.int pi16) := Ha8.at hin8 rfl
  obtain ⟨cl9, Ar9, qc9, Sz9, Nn9, Ha9, Gg9⟩ := (id P30)
  have hin9 : ¬ (pi16 < 0 ∨ cl9.slots.size ≤ (pi16).toNatClampNeg) := own_inbT P45 Sz9
  have hat9 : cl9.slots[(pi16).toNatClampNeg]? = some (.int (selT pi16 (0 : Int32) (0 : Int32) (0 : Int32))) := Ha9.at hin9 (own_getT P45)
  obtain ⟨cl10, Ar10, qc10, Sz10, Nn10, Ha10, Gg10⟩ := (id P30)
  have hin10 : ¬ (pi16 < 0 ∨ cl10.slots.size ≤ (pi16).toNatClampNeg) := own_inbT P45 Sz10
  obtain ⟨T10, h10, X10, e10, W10, st10⟩ := stI X4 hx hZ e4 Ar10 (j := pi16) hin10 (g := (mkF m 39 #[(vr pa1), (vr pa2), (vi 1), (vi 0), (vi 0)] [(.int ((selT pi16 (0 : Int32) (0 : Int32) (0 : Int32)) + (1 : Int32))), (.int pi16), (.ref pa23)])) rfl rfl (hb hby d15_39)
  have O11 : Old Z n0 h10 := O0.wr W10 P58
  have K11 : Keep h0 h10 [pa23, pa24, pa25, pa27, pa28] := K0.wr W10 (Or.inl (List.mem_of_getElem? (i := 0) rfl))
  have V10 : Arv Z h10 pa23 pk31 .int (3 : Int32) ([(.int (inc pi16 (0 : Int32) (0 : Int32))), (.int (inc pi16 (1 : Int32) (0 : Int32))), (.int (inc pi16 (2 : Int32) (0 : Int32)))]) (.int 0) := own_cast (own_setT P45) (Arv.set Ar10 qc10 Sz10 Nn10 Ha10 Gg10 (v := (.int ((selT pi16 (0 : Int32) (0 : Int32) (0 : Int32)) + (1 : Int32)))) rfl W10 (pi16).toNatClampNeg rfl (own_ltT P45))
  have N10 := Fr.snoc X10 N0 P58
  have f12 : Arv Z h10 pa2 pk7 (.array .int) (2 : Int32) ([(.ref pa8), (.ref pa9)]) .null := (P5.other W10 P87)
  obtain ⟨cl13, Ar13, qc13, Sz13, Nn13, Ha13, Gg13⟩ := (id f12)
  have hin13 : ¬ ((0 : Int32) < 0 ∨ cl13.slots.size ≤ ((0 : Int32)).toNatClampNeg) := inb_of Sz13 ⟨by decide, by decide⟩
  have hat13 : cl13.slots[((0 : Int32)).toNatClampNeg]? = some (.ref pa8) := Ha13.at hin13 rfl
  have f14 : Arv Z h10 pa8 pk15 .int (3 : Int32) ([(.int pi16), (.int pi17), (.int pi18)]) (.int 0) := (P17.other W10 P133)
  obtain ⟨cl15, Ar15, -, Sz15, Nn15, -, -⟩ := (id f14)
  have f16 : Fld Z h10 pa1 s3n "counts" "[[[I" (.ref pa3) := (P1.other W10 (Or.inl P73))
  obtain ⟨T17, X17, e17, st17⟩ := getF X10 hx hZ hown (host := "") (Or.inl (ow hw 58 rfl)) Via.refl e10 f16 (g := (mkF m 21 #[(vr pa1), (vr pa2), (vi 1), (vi 0), (vi 1)] [(.ref pa1)])) rfl rfl (hb hby d15_21)
  have f18 : Arv Z h10 pa3 pk10 (.array (.array .int)) (2 : Int32) ([(.ref pa11), (.ref pa12)]) .null := (P8.other W10 P100)
  obtain ⟨cl19, Ar19, qc19, Sz19, Nn19, Ha19, Gg19⟩ := (id f18)
  have hin19 : ¬ ((0 : Int32) < 0 ∨ cl19.slots.size ≤ ((0 : Int32)).toNatClampNeg) := inb_of Sz19 ⟨by decide, by decide⟩
  have hat19 : cl19.slots[((0 : Int32)).toNatClampNeg]? = some (.ref pa11) := Ha19.at hin19 rfl
  have f20 : Arv Z h10 pa11 pk22 (.array .int) (3 : Int32) ([(.ref pa23), (.ref pa24), (.ref pa25)]) .null := (P21.other W10 P150)
  obtain ⟨cl21, Ar21, qc21, Sz21, Nn21, Ha21, Gg21⟩ := (id f20)
  have hin21 : ¬ ((1 : Int32) < 0 ∨ cl21.slots.size ≤ ((1 : Int32)).toNatClampNeg) := inb_of Sz21 ⟨by decide, by decide⟩
  have hat21 : cl21.slots[((1 : Int32)).toNatClampNeg]? = some (.ref pa24) := Ha21.at hin21 rfl
  obtain ⟨cl22, Ar22, qc22, Sz22, Nn22, Ha22, Gg22⟩ := (id f12)
  have hin22 : ¬ ((0 : Int32) < 0 ∨ cl22.slots.size ≤ ((0 : Int32)).toNatClampNeg) := inb_of Sz22 ⟨by decide, by decide⟩
  have hat22 : cl22.slots[((0 : Int32)).toNatClampNeg]? = some (.ref pa8) := Ha22.at hin22 rfl
  obtain ⟨cl23, Ar23, qc23, Sz23, Nn23, Ha23, Gg23⟩ := (id f14)
  have hin23 : ¬ ((1 : Int32) < 0 ∨ cl23.slots.size ≤ ((1 : Int32)).toNatClampNeg) := inb_of Sz23 ⟨by decide, by decide⟩
  have hat23 : cl23.slots[((1 : Int32)).toNatClampNeg]? = some (.int pi17) := Ha23.at hin23 rfl
  have f24 : Arv Z h10 pa24 pk31 .int (3 : Int32) ([(.int 0), (.int 0), (.int 0)]) (.int 0) := (P32.other W10 (Ne.symm P169))
  obtain ⟨cl25, Ar25, qc25, Sz25, Nn25, Ha25, Gg25⟩ := (id f24)
  have hin25 : ¬ (pi17 < 0 ∨ cl25.slots.size ≤ (pi17).toNatClampNeg) := own_inbT P46 Sz25
  have hat25 : cl25.slots[(pi17).toNatClampNeg]? = some (.int (selT pi17 (0 : Int32) (0 : Int32) (0 : Int32))) := Ha25.at hin25 (own_getT P46)
  obtain ⟨cl26, Ar26, qc26, Sz26, Nn26, Ha26, Gg26⟩ := (id f24)
  have hin26 : ¬ (pi17 < 0 ∨ cl26.slots.size ≤ (pi17).toNatClampNeg) := own_inbT P46 Sz26
  obtain ⟨T26, h26, X26, e26, W26, st26⟩ := stI X17 hx hZ e17 Ar26 (j := pi17) hin26 (g := (mkF m 39 #[(vr pa1), (vr pa2), (vi 1), (vi 0), (vi 1)] [(.int ((selT pi17 (0 : Int32) (0 : Int32) (0 : Int32)) + (1 : Int32))), (.int pi17), (.ref pa24)])) rfl rfl (hb hby d15_39)
  have O27 : Old Z n0 h26 := O11.wr W26 P59
  have K27 : Keep h0 h26 [pa23, pa24, pa25, pa27, pa28] := K11.wr W26 (Or.inl (List.mem_of_getElem? (i := 1) rfl))
  have V26 : Arv Z h26 pa24 pk31 .int (3 : Int32) ([(.int (inc pi17 (0 : Int32) (0 : Int32))), (.int (inc pi17 (1 : Int32) (0 : Int32))), (.int (inc pi17 (2 : Int32) (0 : Int32)))]) (.int 0) := own_cast (own_setT P46) (Arv.set Ar26 qc26 Sz26 Nn26 Ha26 Gg26 (v := (.int ((selT pi17 (0 : Int32) (0 : Int32) (0 : Int32)) + (1 : Int32)))) rfl W26 (pi17).toNatClampNeg rfl (own_ltT P46))
  have N26 := Fr.snoc X26 N10 P59
  have f28 : Arv Z h26 pa2 pk7 (.array .int) (2 : Int32) ([(.ref pa8), (.ref pa9)]) .null := (f12.other W26 P88)
  obtain ⟨cl29, Ar29, qc29, Sz29, Nn29, Ha29, Gg29⟩ := (id f28)
  have hin29 : ¬ ((0 : Int32) < 0 ∨ cl29.slots.size ≤ ((0 : Int32)).toNatClampNeg) := inb_of Sz29 ⟨by decide, by decide⟩
  have hat29 : cl29.slots[((0 : Int32)).toNatClampNeg]? = some (.ref pa8) := Ha29.at hin29 rfl
  have f30 : Arv Z h26 pa8 pk15 .int (3 : Int32) ([(.int pi16), (.int pi17), (.int pi18)]) (.int 0) := (f14.other W26 P134)
  obtain ⟨cl31, Ar31, -, Sz31, Nn31, -, -⟩ := (id f30)
  have f32 : Fld Z h26 pa1 s3n "counts" "[[[I" (.ref pa3) := (f16.other W26 (Or.inl P74))
  obtain ⟨T33, X33, e33, st33⟩ := getF X26 hx hZ hown (host := "") (Or.inl (ow hw 58 rfl)) Via.refl e26 f32 (g := (mkF m 21 #[(vr pa1), (vr pa2), (vi 1), (vi 0), (vi 2)] [(.ref pa1)])) rfl rfl (hb hby d15_21)
  have f34 : Arv Z h26 pa3 pk10 (.array (.array .int)) (2 : Int32) ([(.ref pa11), (.ref pa12)]) .null := (f18.other W26 P101)
  obtain ⟨cl35, Ar35, qc35, Sz35, Nn35, Ha35, Gg35⟩ := (id f34)
  have hin35 : ¬ ((0 : Int32) < 0 ∨ cl35.slots.size ≤ ((0 : Int32)).toNatClampNeg) := inb_of Sz35 ⟨by decide, by decide⟩
  have hat35 : cl35.slots[((0 : Int32)).toNatClampNeg]? = some (.ref pa11) := Ha35.at hin35 rfl
  have f36 : Arv Z h26 pa11 pk22 (.array .int) (3 : Int32) ([(.ref pa23), (.ref pa24), (.ref pa25)]) .null := (f20.other W26 P151)
  obtain ⟨cl37, Ar37, qc37, Sz37, Nn37, Ha37, Gg37⟩ := (id f36)
  have hin37 : ¬ ((2 : Int32) < 0 ∨ cl37.slots.size ≤ ((2 : Int32)).toNatClampNeg) := inb_of Sz37 ⟨by decide, by decide⟩
  have hat37 : cl37.slots[((2 : Int32)).toNatClampNeg]? = some (.ref pa25) := Ha37.at hin37 rfl
  obtain ⟨cl38, Ar38, qc38, Sz38, Nn38, Ha38, Gg38⟩ := (id f28)
  have hin38 : ¬ ((0 : Int32) < 0 ∨ cl38.slots.size ≤ ((0 : Int32)).toNatClampNeg) := inb_of Sz38 ⟨by decide, by decide⟩
  have hat38 : cl38.slots[((0 : Int32)).toNatClampNeg]? = some (.ref pa8) := Ha38.at hin38 rfl
  obtain ⟨cl39, Ar39, qc39, Sz39, Nn39, Ha39, Gg39⟩ := (id f30)
  have hin39 : ¬ ((2 : Int32) < 0 ∨ cl39.slots.size ≤ ((2 : Int32)).toNatClampNeg) := inb_of Sz39 ⟨by decide, by decide⟩
  have hat39 : cl39.slots[((2 : Int32)).toNatClampNeg]? = some (.int pi18) := Ha39.at hin39 rfl
  have f40 : Arv Z h26 pa25 pk31 .int (3 : Int32) ([(.int 0), (.int 0), (.int 0)]) (.int 0) := ((P34.other W10 (Ne.symm P170)).other W26 (Ne.symm P174))
  obtain ⟨cl41, Ar41, qc41, Sz41, Nn41, Ha41, Gg41⟩ := (id f40)
  have hin41 : ¬ (pi18 < 0 ∨ cl41.slots.size ≤ (pi18).toNatClampNeg) := own_inbT P47 Sz41
  have hat41 : cl41.slots[(pi18).toNatClampNeg]? = some (.int (selT pi18 (0 : Int32) (0 : Int32) (0 : Int32))) := Ha41.at hin41 (own_getT P47)
  obtain ⟨cl42, Ar42, qc42, Sz42, Nn42, Ha42, Gg42⟩ := (id f40)
  have hin42 : ¬ (pi18 < 0 ∨ cl42.slots.size ≤ (pi18).toNatClampNeg) := own_inbT P47 Sz42
  obtain ⟨T42, h42, X42, e42, W42, st42⟩ := stI X33 hx hZ e33 Ar42 (j := pi18) hin42 (g := (mkF m 39 #[(vr pa1), (vr pa2), (vi 1), (vi 0), (vi 2)] [(.int ((selT pi18 (0 : Int32) (0 : Int32) (0 : Int32)) + (1 : Int32))), (.int pi18), (.ref pa25)])) rfl rfl (hb hby d15_39)
  have O43 : Old Z n0 h42 := O27.wr W42 P60
  have K43 : Keep h0 h42 [pa23, pa24, pa25, pa27, pa28] := K27.wr W42 (Or.inl (List.mem_of_getElem? (i := 2) rfl))
  have V42 : Arv Z h42 pa25 pk31 .int (3 : Int32) ([(.int (inc pi18 (0 : Int32) (0 : Int32))), (.int (inc pi18 (1 : Int32) (0 : Int32))), (.int (inc pi18 (2 : Int32) (0 : Int32)))]) (.int 0) := own_cast (own_setT P47) (Arv.set Ar42 qc42 Sz42 Nn42 Ha42 Gg42 (v := (.int ((selT pi18 (0 : Int32) (0 : Int32) (0 : Int32)) + (1 : Int32)))) rfl W42 (pi18).toNatClampNeg rfl (own_ltT P47))
  have N42 := Fr.snoc X42 N26 P60
  have f44 : Arv Z h42 pa2 pk7 (.array .int) (2 : Int32) ([(.ref pa8), (.ref pa9)]) .null := (f28.other W42 P89)
  obtain ⟨cl45, Ar45, qc45, Sz45, Nn45, Ha45, Gg45⟩ := (id f44)
  have hin45 : ¬ ((0 : Int32) < 0 ∨ cl45.slots.size ≤ ((0 : Int32)).toNatClampNeg) := inb_of Sz45 ⟨by decide, by decide⟩
  have hat45 : cl45.slots[((0 : Int32)).toNatClampNeg]? = some (.ref pa8) := Ha45.at hin45 rfl
  have f46 : Arv Z h42 pa8 pk15 .int (3 : Int32) ([(.int pi16), (.int pi17), (.int pi18)]) (.int 0) := (f30.other W42 P135)
  obtain ⟨cl47, Ar47, -, Sz47, Nn47, -, -⟩ := (id f46)
  obtain ⟨cl48, Ar48, -, Sz48, Nn48, -, -⟩ := (id f44)
  obtain ⟨cl49, Ar49, qc49, Sz49, Nn49, Ha49, Gg49⟩ := (id f44)
  have hin49 : ¬ ((1 : Int32) < 0 ∨ cl49.slots.size ≤ ((1 : Int32)).toNatClampNeg) := inb_of Sz49 ⟨by decide, by decide⟩
  have hat49 : cl49.slots[((1 : Int32)).toNatClampNeg]? = some (.ref pa9) := Ha49.at hin49 rfl
  have f50 : Arv Z h42 pa9 pk19 .int (2 : Int32) ([(.int pi20), (.int pi21)]) (.int 0) := (((P19.other W10 P142).other W26 P143).other W42 P144)
  obtain ⟨cl51, Ar51, -, Sz51, Nn51, -, -⟩ := (id f50)
  have f52 : Fld Z h42 pa1 s3n "counts" "[[[I" (.ref pa3) := (f32.other W42 (Or.inl P75))
  obtain ⟨T53, X53, e53, st53⟩ := getF X42 hx hZ hown (host := "") (Or.inl (ow hw 58 rfl)) Via.refl e42 f52 (g := (mkF m 21 #[(vr pa1), (vr pa2), (vi 1), (vi 1), (vi 0)] [(.ref pa1)])) rfl rfl (hb hby d15_21)
  have f54 : Arv Z h42 pa3 pk10 (.array (.array .int)) (2 : Int32) ([(.ref pa11), (.ref pa12)]) .null := (f34.other W42 P102)
  obtain ⟨cl55, Ar55, qc55, Sz55, Nn55, Ha55, Gg55⟩ := (id f54)
  have hin55 : ¬ ((1 : Int32) < 0 ∨ cl55.slots.size ≤ ((1 : Int32)).toNatClampNeg) := inb_of Sz55 ⟨by decide, by decide⟩
  have hat55 : cl55.slots[((1 : Int32)).toNatClampNeg]? = some (.ref pa12) := Ha55.at hin55 rfl
  have f56 : Arv Z h42 pa12 pk26 (.array .int) (2 : Int32) ([(.ref pa27), (.ref pa28)]) .null := (((P24.other W10 P157).other W26 P158).other W42 P159)
  obtain ⟨cl57, Ar57, qc57, Sz57, Nn57, Ha57, Gg57⟩ := (id f56)
  have hin57 : ¬ ((0 : Int32) < 0 ∨ cl57.slots.size ≤ ((0 : Int32)).toNatClampNeg) := inb_of Sz57 ⟨by decide, by decide⟩
  have hat57 : cl57.slots[((0 : Int32)).toNatClampNeg]? = some (.ref pa27) := Ha57.at hin57 rfl
  obtain ⟨cl58, Ar58, qc58, Sz58, Nn58, Ha58, Gg58⟩ := (id f44)
  have hin58 : ¬ ((1 : Int32) < 0 ∨ cl58.slots.size ≤ ((1 : Int32)).toNatClampNeg) := inb_of Sz58 ⟨by decide, by decide⟩
  have hat58 : cl58.slots[((1 : Int32)).toNatClampNeg]? = some (.ref pa9) := Ha58.at hin58 rfl
  obtain ⟨cl59, Ar59, qc59, Sz59, Nn59, Ha59, Gg59⟩ := (id f50)
  have hin59 : ¬ ((0 : Int32) < 0 ∨ cl59.slots.size ≤ ((0 : Int32)).toNatClampNeg) := inb_of Sz59 ⟨by decide, by decide⟩
  have hat59 : cl59.slots[((0 : Int32)).toNatClampNeg]? = some (.int pi20) := Ha59.at hin59 rfl
  have f60 : Arv Z h42 pa27 pk32 .int (2 : Int32) ([(.int 0), (.int 0)]) (.int 0) := (((P36.other W10 (Ne.symm P171)).other W26 (Ne.symm P175)).other W42 (Ne.symm P178))
  obtain ⟨cl61, Ar61, qc61, Sz61, Nn61, Ha61, Gg61⟩ := (id f60)
  have hin61 : ¬ (pi20 < 0 ∨ cl61.slots.size ≤ (pi20).toNatClampNeg) := own_inbB P48 Sz61
  have hat61 : cl61.slots[(pi20).toNatClampNeg]? = some (.int (selB pi20 (0 : Int32) (0 : Int32))) := Ha61.at hin61 (own_getB P48)
  obtain ⟨cl62, Ar62, qc62, Sz62, Nn62, Ha62, Gg62⟩ := (id f60)
  have hin62 : ¬ (pi20 < 0 ∨ cl62.slots.size ≤ (pi20).toNatClampNeg) := own_inbB P48 Sz62
  obtain ⟨T62, h62, X62, e62, W62, st62⟩ := stI X53 hx hZ e53 Ar62 (j := pi20) hin62 (g := (mkF m 39 #[(vr pa1), (vr pa2), (vi 1), (vi 1), (vi 0)] [(.int ((selB pi20 (0 : Int32) (0 : Int32)) + (1 : Int32))), (.int pi20), (.ref pa27)])) rfl rfl (hb hby d15_39)
  have O63 : Old Z n0 h62 := O43.wr W62 P61
  have K63 : Keep h0 h62 [pa23, pa24, pa25, pa27, pa28] := K43.wr W62 (Or.inl (List.mem_of_getElem? (i := 3) rfl))
  have V62 : Arv Z h62 pa27 pk32 .int (2 : Int32) ([(.int (inc pi20 (0 : Int32) (0 : Int32))), (.int (inc pi20 (1 : Int32) (0 : Int32)))]) (.int 0) := own_cast (own_setB P48) (Arv.set Ar62 qc62 Sz62 Nn62 Ha62 Gg62 (v := (.int ((selB pi20 (0 : Int32) (0 : Int32)) + (1 : Int32)))) rfl W62 (pi20).toNatClampNeg rfl (own_ltB P48))
  have N62 := Fr.snoc X62 N42 P61
  have f64 : Arv Z h62 pa2 pk7 (.array .int) (2 : Int32) ([(.ref pa8), (.ref pa9)]) .null := (f44.other W62 P90)
  obtain ⟨cl65, Ar65, qc65, Sz65, Nn65, Ha65, Gg65⟩ := (id f64)
  have hin65 : ¬ ((1 : Int32) < 0 ∨ cl65.slots.size ≤ ((1 : Int32)).toNatClampNeg) := inb_of Sz65 ⟨by decide, by decide⟩
  have hat65 : cl65.slots[((1 : Int32)).toNatClampNeg]? = some (.ref pa9) := Ha65.at hin65 rfl
  have f66 : Arv Z h62 pa9 pk19 .int (2 : Int32) ([(.int pi20), (.int pi21)]) (.int 0) := (f50.other W62 P145)
  obtain ⟨cl67, Ar67, -, Sz67, Nn67, -, -⟩ := (id f66)
  have f68 : Fld Z h62 pa1 s3n "counts" "[[[I" (.ref pa3) := (f52.other W62 (Or.inl P76))
  obtain ⟨T69, X69, e69, st69⟩ := getF X62 hx hZ hown (host := "") (Or.inl (ow hw 58 rfl)) Via.refl e62 f68 (g := (mkF m 21 #[(vr pa1), (vr pa2), (vi 1), (vi 1), (vi 1)] [(.ref pa1)])) rfl rfl (hb hby d15_21)
  have f70 : Arv Z h62 pa3 pk10 (.array (.array .int)) (2 : Int32) ([(.ref pa11), (.ref pa12)]) .null := (f54.other W62 P103)
  obtain ⟨cl71, Ar71, qc71, Sz71, Nn71, Ha71, Gg71⟩ := (id f70)
  have hin71 : ¬ ((1 : Int32) < 0 ∨ cl71.slots.size ≤ ((1 : Int32)).toNatClampNeg) := inb_of Sz71 ⟨by decide, by decide⟩
  have hat71 : cl71.slots[((1 : Int32)).toNatClampNeg]? = some (.ref pa12) := Ha71.at hin71 rfl
  have f72 : Arv Z h62 pa12 pk26 (.array .int) (2 : Int32) ([(.ref pa27), (.ref pa28)]) .null := (f56.other W62 P160)
  obtain ⟨cl73, Ar73, qc73, Sz73, Nn73, Ha73, Gg73⟩ := (id f72)
  have hin73 : ¬ ((1 : Int32) < 0 ∨ cl73.slots.size ≤ ((1 : Int32)).toNatClampNeg) := inb_of Sz73 ⟨by decide, by decide⟩
  have hat73 : cl73.slots[((1 : Int32)).toNatClampNeg]? = some (.ref pa28) := Ha73.at hin73 rfl
  obtain ⟨cl74, Ar74, qc74, Sz74, Nn74, Ha74, Gg74⟩ := (id f64)
  have hin74 : ¬ ((1 : Int32) < 0 ∨ cl74.slots.size ≤ ((1 : Int32)).toNatClampNeg) := inb_of Sz74 ⟨by decide, by decide⟩
  have hat74 : cl74.slots[((1 : Int32)).toNatClampNeg]? = some (.ref pa9) := Ha74.at hin74 rfl
  obtain ⟨cl75, Ar75, qc75, Sz75, Nn75, Ha75, Gg75⟩ := (id f66)
  have hin75 : ¬ ((1 : Int32) < 0 ∨ cl75.slots.size ≤ ((1 : Int32)).toNatClampNeg) := inb_of Sz75 ⟨by decide, by decide⟩
  have hat75 : cl75.slots[((1 : Int32)).toNatClampNeg]? = some (.int pi21) := Ha75.at hin75 rfl
  have f76 : Arv Z h62 pa28 pk32 .int (2 : Int32) ([(.int 0), (.int 0)]) (.int 0) := ((((P38.other W10 (Ne.symm P172)).other W26 (Ne.symm P176)).other W42 (Ne.symm P179)).other W62 (Ne.symm P181))
  obtain ⟨cl77, Ar77, qc77, Sz77, Nn77, Ha77, Gg77⟩ := (id f76)
  have hin77 : ¬ (pi21 < 0 ∨ cl77.slots.size ≤ (pi21).toNatClampNeg) := own_inbB P49 Sz77
  have hat77 : cl77.slots[(pi21).toNatClampNeg]? = some (.int (selB pi21 (0 : Int32) (0 : Int32))) := Ha77.at hin77 (own_getB P49)
  obtain ⟨cl78, Ar78, qc78, Sz78, Nn78, Ha78, Gg78⟩ := (id f76)
  have hin78 : ¬ (pi21 < 0 ∨ cl78.slots.size ≤ (pi21).toNatClampNeg) := own_inbB P49 Sz78
  obtain ⟨T78, h78, X78, e78, W78, st78⟩ := stI X69 hx hZ e69 Ar78 (j := pi21) hin78 (g := (mkF m 39 #[(vr pa1), (vr pa2), (vi 1), (vi 1), (vi 1)] [(.int ((selB pi21 (0 : Int32) (0 : Int32)) + (1 : Int32))), (.int pi21), (.ref pa28)])) rfl rfl (hb hby d15_39)
  have O79 : Old Z n0 h78 := O63.wr W78 P62
  have K79 : Keep h0 h78 [pa23, pa24, pa25, pa27, pa28] := K63.wr W78 (Or.inl (List.mem_of_getElem? (i := 4) rfl))
  have V78 : Arv Z h78 pa28 pk32 .int (2 : Int32) ([(.int (inc pi21 (0 : Int32) (0 : Int32))), (.int (inc pi21 (1 : Int32) (0 : Int32)))]) (.int 0) := own_cast (own_setB P49) (Arv.set Ar78 qc78 Sz78 Nn78 Ha78 Gg78 (v := (.int ((selB pi21 (0 : Int32) (0 : Int32)) + (1 : Int32)))) rfl W78 (pi21).toNatClampNeg rfl (own_ltB P49))
  have N78 := Fr.snoc X78 N62 P62
  have f80 : Arv Z h78 pa2 pk7 (.array .int) (2 : Int32) ([(.ref pa8), (.ref pa9)]) .null := (f64.other W78 P91)
  obtain ⟨cl81, Ar81, qc81, Sz81, Nn81, Ha81, Gg81⟩ := (id f80)
  have hin81 : ¬ ((1 : Int32) < 0 ∨ cl81.slots.size ≤ ((1 : Int32)).toNatClampNeg) := inb_of Sz81 ⟨by decide, by decide⟩
  have hat81 : cl81.slots[((1 : Int32)).toNatClampNeg]? = some (.ref pa9) := Ha81.at hin81 rfl
  have f82 : Arv Z h78 pa9 pk19 .int (2 : Int32) ([(.int pi20), (.int pi21)]) (.int 0) := (f66.other W78 P146)
  obtain ⟨cl83, Ar83, -, Sz83, Nn83, -, -⟩ := (id f82)
  obtain ⟨cl84, Ar84, -, Sz84, Nn84, -, -⟩ := (id f80)
  have f85 : Exa Z h78 pa23 "[I" := (((((P31.wr W10).wr W26).wr W42).wr W62).wr W78)
  have f86 : Arv Z h78 pa23 pk31 .int (3 : Int32) ([(.int (inc pi16 (0 : Int32) (0 : Int32))), (.int (inc pi16 (1 : Int32) (0 : Int32))), (.int (inc pi16 (2 : Int32) (0 : Int32)))]) (.int 0) := ((((V10.other W26 P169).other W42 P170).other W62 P171).other W78 P172)
  have f87 : Exa Z h78 pa24 "[I" := (((((P33.wr W10).wr W26).wr W42).wr W62).wr W78)
  have f88 : Arv Z h78 pa24 pk31 .int (3 : Int32) ([(.int (inc pi17 (0 : Int32) (0 : Int32))), (.int (inc pi17 (1 : Int32) (0 : Int32))), (.int (inc pi17 (2 : Int32) (0 : Int32)))]) (.int 0) := (((V26.other W42 P174).other W62 P175).other W78 P176)
  have f89 : Exa Z h78 pa25 "[I" := (((((P35.wr W10).wr W26).wr W42).wr W62).wr W78)
  have f90 : Arv Z h78 pa25 pk31 .int (3 : Int32) ([(.int (inc pi18 (0 : Int32) (0 : Int32))), (.int (inc pi18 (1 : Int32) (0 : Int32))), (.int (inc pi18 (2 : Int32) (0 : Int32)))]) (.int 0) := ((V42.other W62 P178).other W78 P179)
  have f91 : Exa Z h78 pa27 "[I" := (((((P37.wr W10).wr W26).wr W42).wr W62).wr W78)
  have f92 : Arv Z h78 pa27 pk32 .int (2 : Int32) ([(.int (inc pi20 (0 : Int32) (0 : Int32))), (.int (inc pi20 (1 : Int32) (0 : Int32)))]) (.int 0) := (V62.other W78 P181)
  have f93 : Exa Z h78 pa28 "[I" := (((((P39.wr W10).wr W26).wr W42).wr W62).wr W78)
  obtain ⟨fs, hr, hrun, hended, hW, hsame⟩ := X78.leave (v := none) (fun _ => rfl)
  refine ⟨_, _, pre0 _ ?_, hrun, hended, _, _, rfl, ?_, ⟨_, rfl⟩, hW, hsame.mono (by decide) (by decide)⟩
  · skip
    show Steps p.tables e below (s₁.setTop (mkF m 0 #[(vr pa1), (vr pa2), (vi 1), .unset, .unset] [])) _
    refine XS.iconst X0.here hx rfl (hb hby d15_0) ?_
    refine XS.istoreN X0.here hx rfl (hb hby d15_1) rfl (l' := #[(vr pa1), (vr pa2), (vi 1), (vi 0), .unset]) rfl ?_
    refine XS.iloadN X0.here hx rfl (hb hby d15_2) rfl ?_
    refine XS.aloadN X0.here hx rfl (hb hby d15_3) rfl rfl ?_
    refine X0.arraylength hx (by rw [e0]; exact Ar1.1) (State.isArrayOf_alike hZ.alike Ar1.2.1) (g := (mkF m 4 #[(vr pa1), (vr pa2), (vi 1), (vi 0), .unset] [(.ref pa2), (.int 0)])) rfl rfl (hb hby d15_4) _ ?_
    rw [len_of Sz1 Nn1]
    refine XS.icmpNo X0.here hx rfl (hb hby d15_5) rfl (tlt (by decide : (0 : Int32) < (2 : Int32))).2.1 ?_
    show Steps p.tables e below (s₁.setTop (mkF m 8 #[(vr pa1), (vr pa2), (vi 1), (vi 0), .unset] [])) _
    refine XS.iconst X0.here hx rfl (hb hby d15_8) ?_
    refine XS.istore X0.here hx rfl (hb hby d15_9) rfl (l' := #[(vr pa1), (vr pa2), (vi 1), (vi 0), (vi 0)]) rfl ?_
    refine XS.iload X0.here hx rfl (hb hby d15_11) rfl ?_
    refine XS.aloadN X0.here hx rfl (hb hby d15_13) rfl rfl ?_
    refine XS.iloadN X0.here hx rfl (hb hby d15_14) rfl ?_
    refine X0.aaload hx (j := (0 : Int32)) (v := (.ref pa8)) (by rw [e0]; exact Ar2.1) (State.isArrayOf_alike hZ.alike Ar2.2.1) rfl Ar2.2.2 hin2 hat2 (g := (mkF m 15 #[(vr pa1), (vr pa2), (vi 1), (vi 0), (vi 0)] [(.int 0), (.ref pa2), (.int 0)])) rfl rfl (hb hby d15_15) _ ?_
    show Steps p.tables e below (s₁.setTop (mkF m 16 #[(vr pa1), (vr pa2), (vi 1), (vi 0), (vi 0)] [(.ref pa8), (.int 0)])) _
    refine X0.arraylength hx (by rw [e0]; exact Ar3.1) (State.isArrayOf_alike hZ.alike Ar3.2.1) (g := (mkF m 16 #[(vr pa1), (vr pa2), (vi 1), (vi 0), (vi 0)] [(.ref pa8), (.int 0)])) rfl rfl (hb hby d15_16) _ ?_
    rw [len_of Sz3 Nn3]
    refine XS.icmpNo X0.here hx rfl (hb hby d15_17) rfl (tlt (by decide : (0 : Int32) < (3 : Int32))).2.1 ?_
    refine XS.aloadN X0.here hx rfl (hb hby d15_20) rfl rfl ?_
    refine st4 _ ?_
    refine XS.iloadN X4.here hx rfl (hb hby d15_24) rfl ?_
    refine X4.aaload hx (j := (0 : Int32)) (v := (.ref pa11)) (by rw [e4]; exact Ar5.1) (State.isArrayOf_alike hZ.alike Ar5.2.1) rfl Ar5.2.2 hin5 hat5 (g := (mkF m 25 #[(vr pa1), (vr pa2), (vi 1), (vi 0), (vi 0)] [(.int 0), (.ref pa3)])) rfl rfl (hb hby d15_25) _ ?_
    show Steps p.tables e below (T4.setTop (mkF m 26 #[(vr pa1), (vr pa2), (vi 1), (vi 0), (vi 0)] [(.ref pa11)])) _
    refine XS.iload X4.here hx rfl (hb hby d15_26) rfl ?_
    refine X4.aaload hx (j := (0 : Int32)) (v := (.ref pa23)) (by rw [e4]; exact Ar6.1) (State.isArrayOf_alike hZ.alike Ar6.2.1) rfl Ar6.2.2 hin6 hat6 (g := (mkF m 28 #[(vr pa1), (vr pa2), (vi 1), (vi 0), (vi 0)] [(.int 0), (.ref pa11)])) rfl rfl (hb hby d15_28) _ ?_
    refine XS.aloadN X4.here hx rfl (hb hby d15_29) rfl rfl ?_
    refine XS.iloadN X4.here hx rfl (hb hby d15_30) rfl ?_
    refine X4.aaload hx (j := (0 : Int32)) (v := (.ref pa8)) (by rw [e4]; exact Ar7.1) (State.isArrayOf_alike hZ.alike Ar7.2.1) rfl Ar7.2.2 hin7 hat7 (g := (mkF m 31 #[(vr pa1), (vr pa2), (vi 1), (vi 0), (vi 0)] [(.int 0), (.ref pa2), (.ref pa23)])) rfl rfl (hb hby d15_31) _ ?_
    refine XS.iload X4.here hx rfl (hb hby d15_32) rfl ?_
    show Steps p.tables e below (T4.setTop (mkF m 34 #[(vr pa1), (vr pa2), (vi 1), (vi 0), (vi 0)] [(.int 0), (.ref pa8), (.ref pa23)])) _
    refine X4.iaload hx (j := (0 : Int32)) (v := (.int pi16)) (by rw [e4]; exact Ar8.1) (State.isArrayOf_alike hZ.alike Ar8.2.1) Ar8.2.2 hin8 hat8 (g := (mkF m 34 #[(vr pa1), (vr pa2), (vi 1), (vi 0), (vi 0)] [(.int 0), (.ref pa8), (.ref pa23)])) rfl rfl (hb hby d15_34) _ ?_
    jvm_step X4.here [X4.here.top, hx, (hb hby d15_35), Value.category]
    refine X4.iaload hx (j := pi16) (v := (.int (selT pi16 (0 : Int32) (0 : Int32) (0 : Int32)))) (by rw [e4]; exact Ar9.1) (State.isArrayOf_alike hZ.alike Ar9.2.1) Ar9.2.2 hin9 hat9 (g := (mkF m 36 #[(vr pa1), (vr pa2), (vi 1), (vi 0), (vi 0)] [(.int pi16), (.ref pa23), (.int pi16), (.ref pa23)])) rfl rfl (hb hby d15_36) _ ?_
    refine XS.iloadN X4.here hx rfl (hb hby d15_37) rfl ?_
    refine XS.iadd X4.here hx rfl (hb hby d15_38) rfl ?_
    refine st10 _ ?_
    show Steps p.tables e below (T10.setTop (mkF m 40 #[(vr pa1), (vr pa2), (vi 1), (vi 0), (vi 0)] [])) _
    refine XS.iinc X10.here hx rfl (hb hby d15_40) rfl (l' := #[(vr pa1), (vr pa2), (vi 1), (vi 0), (vi 1)]) rfl ?_
    refine XS.goto X10.here hx rfl (pc0 := 43) (pc' := 11) rfl (hb hby d15_43) (by decide) (by decide) ?_
    refine XS.iload X10.here hx rfl (hb hby d15_11) rfl ?_
    refine XS.aloadN X10.here hx rfl (hb hby d15_13) rfl rfl ?_
    refine XS.iloadN X10.here hx rfl (hb hby d15_14) rfl ?_
    refine X10.aaload hx (j := (0 : Int32)) (v := (.ref pa8)) (by rw [e10]; exact Ar13.1) (State.isArrayOf_alike hZ.alike Ar13.2.1) rfl Ar13.2.2 hin13 hat13 (g := (mkF m 15 #[(vr pa1), (vr pa2), (vi 1), (vi 0), (vi 1)] [(.int 0), (.ref pa2), (.int 1)])) rfl rfl (hb hby d15_15) _ ?_
    show Steps p.tables e below (T10.setTop (mkF m 16 #[(vr pa1), (vr pa2), (vi 1), (vi 0), (vi 1)] [(.ref pa8), (.int 1)])) _
    refine X10.arraylength hx (by rw [e10]; exact Ar15.1) (State.isArrayOf_alike hZ.alike Ar15.2.1) (g := (mkF m 16 #[(vr pa1), (vr pa2), (vi 1), (vi 0), (vi 1)] [(.ref pa8), (.int 1)])) rfl rfl (hb hby d15_16) _ ?_
    rw [len_of Sz15 Nn15]
    refine XS.icmpNo X10.here hx rfl (hb hby d15_17) rfl (tlt (by decide : (1 : Int32) < (3 : Int32))).2.1 ?_
    refine XS.aloadN X10.here hx rfl (hb hby d15_20) rfl rfl ?_
    refine st17 _ ?_
    refine XS.iloadN X17.here hx rfl (hb hby d15_24) rfl ?_
    refine X17.aaload hx (j := (0 : Int32)) (v := (.ref pa11)) (by rw [e17]; exact Ar19.1) (State.isArrayOf_alike hZ.alike Ar19.2.1) rfl Ar19.2.2 hin19 hat19 (g := (mkF m 25 #[(vr pa1), (vr pa2), (vi 1), (vi 0), (vi 1)] [(.int 0), (.ref pa3)])) rfl rfl (hb hby d15_25) _ ?_
    show Steps p.tables e below (T17.setTop (mkF m 26 #[(vr pa1), (vr pa2), (vi 1), (vi 0), (vi 1)] [(.ref pa11)])) _
    refine XS.iload X17.here hx rfl (hb hby d15_26) rfl ?_
    refine X17.aaload hx (j := (1 : Int32)) (v := (.ref pa24)) (by rw [e17]; exact Ar21.1) (State.isArrayOf_alike hZ.alike Ar21.2.1) rfl Ar21.2.2 hin21 hat21 (g := (mkF m 28 #[(vr pa1), (vr pa2), (vi 1), (vi 0), (vi 1)] [(.int 1), (.ref pa11)])) rfl rfl (hb hby d15_28) _ ?_
    refine XS.aloadN X17.here hx rfl (hb hby d15_29) rfl rfl ?_
    refine XS.iloadN X17.here hx rfl (hb hby d15_30) rfl ?_
    refine X17.aaload hx (j := (0 : Int32)) (v := (.ref pa8)) (by rw [e17]; exact Ar22.1) (State.isArrayOf_alike hZ.alike Ar22.2.1) rfl Ar22.2.2 hin22 hat22 (g := (mkF m 31 #[(vr pa1), (vr pa2), (vi 1), (vi 0), (vi 1)] [(.int 0), (.ref pa2), (.ref pa24)])) rfl rfl (hb hby d15_31) _ ?_
    refine XS.iload X17.here hx rfl (hb hby d15_32) rfl ?_
    show Steps p.tables e below (T17.setTop (mkF m 34 #[(vr pa1), (vr pa2), (vi 1), (vi 0), (vi 1)] [(.int 1), (.ref pa8), (.ref pa24)])) _
    refine X17.iaload hx (j := (1 : Int32)) (v := (.int pi17)) (by rw [e17]; exact Ar23.1) (State.isArrayOf_alike hZ.alike Ar23.2.1) Ar23.2.2 hin23 hat23 (g := (mkF m 34 #[(vr pa1), (vr pa2), (vi 1), (vi 0), (vi 1)] [(.int 1), (.ref pa8), (.ref pa24)])) rfl rfl (hb hby d15_34) _ ?_
    jvm_step X17.here [X17.here.top, hx, (hb hby d15_35), Value.category]
    refine X17.iaload hx (j := pi17) (v := (.int (selT pi17 (0 : Int32) (0 : Int32) (0 : Int32)))) (by rw [e17]; exact Ar25.1) (State.isArrayOf_alike hZ.alike Ar25.2.1) Ar25.2.2 hin25 hat25 (g := (mkF m 36 #[(vr pa1), (vr pa2), (vi 1), (vi 0), (vi 1)] [(.int pi17), (.ref pa24), (.int pi17), (.ref pa24)])) rfl rfl (hb hby d15_36) _ ?_
    refine XS.iloadN X17.here hx rfl (hb hby d15_37) rfl ?_
    refine XS.iadd X17.here hx rfl (hb hby d15_38) rfl ?_
    refine st26 _ ?_
    show Steps p.tables e below (T26.setTop (mkF m 40 #[(vr pa1), (vr pa2), (vi 1), (vi 0), (vi 1)] [])) _
    refine XS.iinc X26.here hx rfl (hb hby d15_40) rfl (l' := #[(vr pa1), (vr pa2), (vi 1), (vi 0), (vi 2)]) rfl ?_
    refine XS.goto X26.here hx rfl (pc0 := 43) (pc' := 11) rfl (hb hby d15_43) (by decide) (by decide) ?_
    refine XS.iload X26.here hx rfl (hb hby d15_11) rfl ?_
    refine XS.aloadN X26.here hx rfl (hb hby d15_13) rfl rfl ?_
    refine XS.iloadN X26.here hx rfl (hb hby d15_14) rfl ?_
    refine X26.aaload hx (j := (0 : Int32)) (v := (.ref pa8)) (by rw [e26]; exact Ar29.1) (State.isArrayOf_alike hZ.alike Ar29.2.1) rfl Ar29.2.2 hin29 hat29 (g := (mkF m 15 #[(vr pa1), (vr pa2), (vi 1), (vi 0), (vi 2)] [(.int 0), (.ref pa2), (.int 2)])) rfl rfl (hb hby d15_15) _ ?_
    show Steps p.tables e below (T26.setTop (mkF m 16 #[(vr pa1), (vr pa2), (vi 1), (vi 0), (vi 2)] [(.ref pa8), (.int 2)])) _
    refine X26.arraylength hx (by rw [e26]; exact Ar31.1) (State.isArrayOf_alike hZ.alike Ar31.2.1) (g := (mkF m 16 #[(vr pa1), (vr pa2), (vi 1), (vi 0), (vi 2)] [(.ref pa8), (.int 2)])) rfl rfl (hb hby d15_16) _ ?_
    rw [len_of Sz31 Nn31]
    refine XS.icmpNo X26.here hx rfl (hb hby d15_17) rfl (tlt (by decide : (2 : Int32) < (3 : Int32))).2.1 ?_
    refine XS.aloadN X26.here hx rfl (hb hby d15_20) rfl rfl ?_
    refine st33 _ ?_
    refine XS.iloadN X33.here hx rfl (hb hby d15_24) rfl ?_
    refine X33.aaload hx (j := (0 : Int32)) (v := (.ref pa11)) (by rw [e33]; exact Ar35.1) (State.isArrayOf_alike hZ.alike Ar35.2.1) rfl Ar35.2.2 hin35 hat35 (g := (mkF m 25 #[(vr pa1), (vr pa2), (vi 1), (vi 0), (vi 2)] [(.int 0), (.ref pa3)])) rfl rfl (hb hby d15_25) _ ?_
    show Steps p.tables e below (T33.setTop (mkF m 26 #[(vr pa1), (vr pa2), (vi 1), (vi 0), (vi 2)] [(.ref pa11)])) _
    refine XS.iload X33.here hx rfl (hb hby d15_26) rfl ?_
    refine X33.aaload hx (j := (2 : Int32)) (v := (.ref pa25)) (by rw [e33]; exact Ar37.1) (State.isArrayOf_alike hZ.alike Ar37.2.1) rfl Ar37.2.2 hin37 hat37 (g := (mkF m 28 #[(vr pa1), (vr pa2), (vi 1), (vi 0), (vi 2)] [(.int 2), (.ref pa11)])) rfl rfl (hb hby d15_28) _ ?_
    refine XS.aloadN X33.here hx rfl (hb hby d15_29) rfl rfl ?_
    refine XS.iloadN X33.here hx rfl (hb hby d15_30) rfl ?_
    refine X33.aaload hx (j := (0 : Int32)) (v := (.ref pa8)) (by rw [e33]; exact Ar38.1) (State.isArrayOf_alike hZ.alike Ar38.2.1) rfl Ar38.2.2 hin38 hat38 (g := (mkF m 31 #[(vr pa1), (vr pa2), (vi 1), (vi 0), (vi 2)] [(.int 0), (.ref pa2), (.ref pa25)])) rfl rfl (hb hby d15_31) _ ?_
    refine XS.iload X33.here hx rfl (hb hby d15_32) rfl ?_
    show Steps p.tables e below (T33.setTop (mkF m 34 #[(vr pa1), (vr pa2), (vi 1), (vi 0), (vi 2)] [(.int 2), (.ref pa8), (.ref pa25)])) _
    refine X33.iaload hx (j := (2 : Int32)) (v := (.int pi18)) (by rw [e33]; exact Ar39.1) (State.isArrayOf_alike hZ.alike Ar39.2.1) Ar39.2.2 hin39 hat39 (g := (mkF m 34 #[(vr pa1), (vr pa2), (vi 1), (vi 0), (vi 2)] [(.int 2), (.ref pa8), (.ref pa25)])) rfl rfl (hb hby d15_34) _ ?_
    jvm_step X33.here [X33.here.top, hx, (hb hby d15_35), Value.category]
    refine X33.iaload hx (j := pi18) (v := (.int (selT pi18 (0 : Int32) (0 : Int32) (0 : Int32)))) (by rw [e33]; exact Ar41.1) (State.isArrayOf_alike hZ.alike Ar41.2.1) Ar41.2.2 hin41 hat41 (g := (mkF m 36 #[(vr pa1), (vr pa2), (vi 1), (vi 0), (vi 2)] [(.int pi18), (.ref pa25), (.int pi18), (.ref pa25)])) rfl rfl (hb hby d15_36) _ ?_
    refine XS.iloadN X33.here hx rfl (hb hby d15_37) rfl ?_
    refine XS.iadd X33.here hx rfl (hb hby d15_38) rfl ?_
    refine st42 _ ?_
    show Steps p.tables e below (T42.setTop (mkF m 40 #[(vr pa1), (vr pa2), (vi 1), (vi 0), (vi 2)] [])) _
    refine XS.iinc X42.here hx rfl (hb hby d15_40) rfl (l' := #[(vr pa1), (vr pa2), (vi 1), (vi 0), (vi 3)]) rfl ?_
    refine XS.goto X42.here hx rfl (pc0 := 43) (pc' := 11) rfl (hb hby d15_43) (by decide) (by decide) ?_
    refine XS.iload X42.here hx rfl (hb hby d15_11) rfl ?_
    refine XS.aloadN X42.here hx rfl (hb hby d15_13) rfl rfl ?_
    refine XS.iloadN X42.here hx rfl (hb hby d15_14) rfl ?_
    refine X42.aaload hx (j := (0 : Int32)) (v := (.ref pa8)) (by rw [e42]; exact Ar45.1) (State.isArrayOf_alike hZ.alike Ar45.2.1) rfl Ar45.2.2 hin45 hat45 (g := (mkF m 15 #[(vr pa1), (vr pa2), (vi 1), (vi 0), (vi 3)] [(.int 0), (.ref pa2), (.int 3)])) rfl rfl (hb hby d15_15) _ ?_
    show Steps p.tables e below (T42.setTop (mkF m 16 #[(vr pa1), (vr pa2), (vi 1), (vi 0), (vi 3)] [(.ref pa8), (.int 3)])) _
    refine X42.arraylength hx (by rw [e42]; exact Ar47.1) (State.isArrayOf_alike hZ.alike Ar47.2.1) (g := (mkF m 16 #[(vr pa1), (vr pa2), (vi 1), (vi 0), (vi 3)] [(.ref pa8), (.int 3)])) rfl rfl (hb hby d15_16) _ ?_
    rw [len_of Sz47 Nn47]
    refine XS.icmpYes X42.here hx rfl (pc0 := 17) (pc' := 46) rfl (hb hby d15_17) rfl (flt (by decide : ¬ ((3 : Int32) < (3 : Int32)))).2.1 (by decide) (by decide) ?_
    refine XS.iinc X42.here hx rfl (hb hby d15_46) rfl (l' := #[(vr pa1), (vr pa2), (vi 1), (vi 1), (vi 3)]) rfl ?_
    refine XS.goto X42.here hx rfl (pc0 := 49) (pc' := 2) rfl (hb hby d15_49) (by decide) (by decide) ?_
    refine XS.iloadN X42.here hx rfl (hb hby d15_2) rfl ?_
    refine XS.aloadN X42.here hx rfl (hb hby d15_3) rfl rfl ?_
    show Steps p.tables e below (T42.setTop (mkF m 4 #[(vr pa1), (vr pa2), (vi 1), (vi 1), (vi 3)] [(.ref pa2), (.int 1)])) _
    refine X42.arraylength hx (by rw [e42]; exact Ar48.1) (State.isArrayOf_alike hZ.alike Ar48.2.1) (g := (mkF m 4 #[(vr pa1), (vr pa2), (vi 1), (vi 1), (vi 3)] [(.ref pa2), (.int 1)])) rfl rfl (hb hby d15_4) _ ?_
    rw [len_of Sz48 Nn48]
    refine XS.icmpNo X42.here hx rfl (hb hby d15_5) rfl (tlt (by decide : (1 : Int32) < (2 : Int32))).2.1 ?_
    refine XS.iconst X42.here hx rfl (hb hby d15_8) ?_
    refine XS.istore X42.here hx rfl (hb hby d15_9) rfl (l' := #[(vr pa1), (vr pa2), (vi 1), (vi 1), (vi 0)]) rfl ?_
    refine XS.iload X42.here hx rfl (hb hby d15_11) rfl ?_
    refine XS.aloadN X42.here hx rfl (hb hby d15_13) rfl rfl ?_
    show Steps p.tables e below (T42.setTop (mkF m 14 #[(vr pa1), (vr pa2), (vi 1), (vi 1), (vi 0)] [(.ref pa2), (.int 0)])) _
    refine XS.iloadN X42.here hx rfl (hb hby d15_14) rfl ?_
    refine X42.aaload hx (j := (1 : Int32)) (v := (.ref pa9)) (by rw [e42]; exact Ar49.1) (State.isArrayOf_alike hZ.alike Ar49.2.1) rfl Ar49.2.2 hin49 hat49 (g := (mkF m 15 #[(vr pa1), (vr pa2), (vi 1), (vi 1), (vi 0)] [(.int 1), (.ref pa2), (.int 0)])) rfl rfl (hb hby d15_15) _ ?_
    refine X42.arraylength hx (by rw [e42]; exact Ar51.1) (State.isArrayOf_alike hZ.alike Ar51.2.1) (g := (mkF m 16 #[(vr pa1), (vr pa2), (vi 1), (vi 1), (vi 0)] [(.ref pa9), (.int 0)])) rfl rfl (hb hby d15_16) _ ?_
    rw [len_of Sz51 Nn51]
    refine XS.icmpNo X42.here hx rfl (hb hby d15_17) rfl (tlt (by decide : (0 : Int32) < (2 : Int32))).2.1 ?_
    refine XS.aloadN X42.here hx rfl (hb hby d15_20) rfl rfl ?_
    refine st53 _ ?_
    show Steps p.tables e below (T53.setTop (mkF m 24 #[(vr pa1), (vr pa2), (vi 1), (vi 1), (vi 0)] [(.ref pa3)])) _
    refine XS.iloadN X53.here hx rfl (hb hby d15_24) rfl ?_
    refine X53.aaload hx (j := (1 : Int32)) (v := (.ref pa12)) (by rw [e53]; exact Ar55.1) (State.isArrayOf_alike hZ.alike Ar55.2.1) rfl Ar55.2.2 hin55 hat55 (g := (mkF m 25 #[(vr pa1), (vr pa2), (vi 1), (vi 1), (vi 0)] [(.int 1), (.ref pa3)])) rfl rfl (hb hby d15_25) _ ?_
    refine XS.iload X53.here hx rfl (hb hby d15_26) rfl ?_
    refine X53.aaload hx (j := (0 : Int32)) (v := (.ref pa27)) (by rw [e53]; exact Ar57.1) (State.isArrayOf_alike hZ.alike Ar57.2.1) rfl Ar57.2.2 hin57 hat57 (g := (mkF m 28 #[(vr pa1), (vr pa2), (vi 1), (vi 1), (vi 0)] [(.int 0), (.ref pa12)])) rfl rfl (hb hby d15_28) _ ?_
    refine XS.aloadN X53.here hx rfl (hb hby d15_29) rfl rfl ?_
    refine XS.iloadN X53.here hx rfl (hb hby d15_30) rfl ?_
    show Steps p.tables e below (T53.setTop (mkF m 31 #[(vr pa1), (vr pa2), (vi 1), (vi 1), (vi 0)] [(.int 1), (.ref pa2), (.ref pa27)])) _
    refine X53.aaload hx (j := (1 : Int32)) (v := (.ref pa9)) (by rw [e53]; exact Ar58.1) (State.isArrayOf_alike hZ.alike Ar58.2.1) rfl Ar58.2.2 hin58 hat58 (g := (mkF m 31 #[(vr pa1), (vr pa2), (vi 1), (vi 1), (vi 0)] [(.int 1), (.ref pa2), (.ref pa27)])) rfl rfl (hb hby d15_31) _ ?_
    refine XS.iload X53.here hx rfl (hb hby d15_32) rfl ?_
    refine X53.iaload hx (j := (0 : Int32)) (v := (.int pi20)) (by rw [e53]; exact Ar59.1) (State.isArrayOf_alike hZ.alike Ar59.2.1) Ar59.2.2 hin59 hat59 (g := (mkF m 34 #[(vr pa1), (vr pa2), (vi 1), (vi 1), (vi 0)] [(.int 0), (.ref pa9), (.ref pa27)])) rfl rfl (hb hby d15_34) _ ?_
    jvm_step X53.here [X53.here.top, hx, (hb hby d15_35), Value.category]
    refine X53.iaload hx (j := pi20) (v := (.int (selB pi20 (0 : Int32) (0 : Int32)))) (by rw [e53]; exact Ar61.1) (State.isArrayOf_alike hZ.alike Ar61.2.1) Ar61.2.2 hin61 hat61 (g := (mkF m 36 #[(vr pa1), (vr pa2), (vi 1), (vi 1), (vi 0)] [(.int pi20), (.ref pa27), (.int pi20), (.ref pa27)])) rfl rfl (hb hby d15_36) _ ?_
    refine XS.iloadN X53.here hx rfl (hb hby d15_37) rfl ?_
    show Steps p.tables e below (T53.setTop (mkF m 38 #[(vr pa1), (vr pa2), (vi 1), (vi 1), (vi 0)] [(.int 1), (.int (selB pi20 (0 : Int32) (0 : Int32))), (.int pi20), (.ref pa27)])) _
    refine XS.iadd X53.here hx rfl (hb hby d15_38) rfl ?_
    refine st62 _ ?_
    refine XS.iinc X62.here hx rfl (hb hby d15_40) rfl (l' := #[(vr pa1), (vr pa2), (vi 1), (vi 1), (vi 1)]) rfl ?_
    refine XS.goto X62.here hx rfl (pc0 := 43) (pc' := 11) rfl (hb hby d15_43) (by decide) (by decide) ?_
    refine XS.iload X62.here hx rfl (hb hby d15_11) rfl ?_
    refine XS.aloadN X62.here hx rfl (hb hby d15_13) rfl rfl ?_
    show Steps p.tables e below (T62.setTop (mkF m 14 #[(vr pa1), (vr pa2), (vi 1), (vi 1), (vi 1)] [(.ref pa2), (.int 1)])) _
    refine XS.iloadN X62.here hx rfl (hb hby d15_14) rfl ?_
    refine X62.aaload hx (j := (1 : Int32)) (v := (.ref pa9)) (by rw [e62]; exact Ar65.1) (State.isArrayOf_alike hZ.alike Ar65.2.1) rfl Ar65.2.2 hin65 hat65 (g := (mkF m 15 #[(vr pa1), (vr pa2), (vi 1), (vi 1), (vi 1)] [(.int 1), (.ref pa2), (.int 1)])) rfl rfl (hb hby d15_15) _ ?_
    refine X62.arraylength hx (by rw [e62]; exact Ar67.1) (State.isArrayOf_alike hZ.alike Ar67.2.1) (g := (mkF m 16 #[(vr pa1), (vr pa2), (vi 1), (vi 1), (vi 1)] [(.ref pa9), (.int 1)])) rfl rfl (hb hby d15_16) _ ?_
    rw [len_of Sz67 Nn67]
    refine XS.icmpNo X62.here hx rfl (hb hby d15_17) rfl (tlt (by decide : (1 : Int32) < (2 : Int32))).2.1 ?_
    refine XS.aloadN X62.here hx rfl (hb hby d15_20) rfl rfl ?_
    refine st69 _ ?_
    show Steps p.tables e below (T69.setTop (mkF m 24 #[(vr pa1), (vr pa2), (vi 1), (vi 1), (vi 1)] [(.ref pa3)])) _
    refine XS.iloadN X69.here hx rfl (hb hby d15_24) rfl ?_
    refine X69.aaload hx (j := (1 : Int32)) (v := (.ref pa12)) (by rw [e69]; exact Ar71.1) (State.isArrayOf_alike hZ.alike Ar71.2.1) rfl Ar71.2.2 hin71 hat71 (g := (mkF m 25 #[(vr pa1), (vr pa2), (vi 1), (vi 1), (vi 1)] [(.int 1), (.ref pa3)])) rfl rfl (hb hby d15_25) _ ?_
    refine XS.iload X69.here hx rfl (hb hby d15_26) rfl ?_
    refine X69.aaload hx (j := (1 : Int32)) (v := (.ref pa28)) (by rw [e69]; exact Ar73.1) (State.isArrayOf_alike hZ.alike Ar73.2.1) rfl Ar73.2.2 hin73 hat73 (g := (mkF m 28 #[(vr pa1), (vr pa2), (vi 1), (vi 1), (vi 1)] [(.int 1), (.ref pa12)])) rfl rfl (hb hby d15_28) _ ?_
    refine XS.aloadN X69.here hx rfl (hb hby d15_29) rfl rfl ?_
    refine XS.iloadN X69.here hx rfl (hb hby d15_30) rfl ?_
    show Steps p.tables e below (T69.setTop (mkF m 31 #[(vr pa1), (vr pa2), (vi 1), (vi 1), (vi 1)] [(.int 1), (.ref pa2), (.ref pa28)])) _
    refine X69.aaload hx (j := (1 : Int32)) (v := (.ref pa9)) (by rw [e69]; exact Ar74.1) (State.isArrayOf_alike hZ.alike Ar74.2.1) rfl Ar74.2.2 hin74 hat74 (g := (mkF m 31 #[(vr pa1), (vr pa2), (vi 1), (vi 1), (vi 1)] [(.int 1), (.ref pa2), (.ref pa28)])) rfl rfl (hb hby d15_31) _ ?_
    refine XS.iload X69.here hx rfl (hb hby d15_32) rfl ?_
    refine X69.iaload hx (j := (1 : Int32)) (v := (.int pi21)) (by rw [e69]; exact Ar75.1) (State.isArrayOf_alike hZ.alike Ar75.2.1) Ar75.2.2 hin75 hat75 (g := (mkF m 34 #[(vr pa1), (vr pa2), (vi 1), (vi 1), (vi 1)] [(.int 1), (.ref pa9), (.ref pa28)])) rfl rfl (hb hby d15_34) _ ?_
    jvm_step X69.here [X69.here.top, hx, (hb hby d15_35), Value.category]
    refine X69.iaload hx (j := pi21) (v := (.int (selB pi21 (0 : Int32) (0 : Int32)))) (by rw [e69]; exact Ar77.1) (State.isArrayOf_alike hZ.alike Ar77.2.1) Ar77.2.2 hin77 hat77 (g := (mkF m 36 #[(vr pa1), (vr pa2), (vi 1), (vi 1), (vi 1)] [(.int pi21), (.ref pa28), (.int pi21), (.ref pa28)])) rfl rfl (hb hby d15_36) _ ?_
    refine XS.iloadN X69.here hx rfl (hb hby d15_37) rfl ?_
    show Steps p.tables e below (T69.setTop (mkF m 38 #[(vr pa1), (vr pa2), (vi 1), (vi 1), (vi 1)] [(.int 1), (.int (selB pi21 (0 : Int32) (0 : Int32))), (.int pi21), (.ref pa28)])) _
    refine XS.iadd X69.here hx rfl (hb hby d15_38) rfl ?_
    refine st78 _ ?_
    refine XS.iinc X78.here hx rfl (hb hby d15_40) rfl (l' := #[(vr pa1), (vr pa2), (vi 1), (vi 1), (vi 2)]) rfl ?_
    refine XS.goto X78.here hx rfl (pc0 := 43) (pc' := 11) rfl (hb hby d15_43) (by decide) (by decide) ?_
    refine XS.iload X78.here hx rfl (hb hby d15_11) rfl ?_
    refine XS.aloadN X78.here hx rfl (hb hby d15_13) rfl rfl ?_
    show Steps p.tables e below (T78.setTop (mkF m 14 #[(vr pa1), (vr pa2), (vi 1), (vi 1), (vi 2)] [(.ref pa2), (.int 2)])) _
    refine XS.iloadN X78.here hx rfl (hb hby d15_14) rfl ?_
    refine X78.aaload hx (j := (1 : Int32)) (v := (.ref pa9)) (by rw [e78]; exact Ar81.1) (State.isArrayOf_alike hZ.alike Ar81.2.1) rfl Ar81.2.2 hin81 hat81 (g := (mkF m 15 #[(vr pa1), (vr pa2), (vi 1), (vi 1), (vi 2)] [(.int 1), (.ref pa2), (.int 2)])) rfl rfl (hb hby d15_15) _ ?_
    refine X78.arraylength hx (by rw [e78]; exact Ar83.1) (State.isArrayOf_alike hZ.alike Ar83.2.1) (g := (mkF m 16 #[(vr pa1), (vr pa2), (vi 1), (vi 1), (vi 2)] [(.ref pa9), (.int 2)])) rfl rfl (hb hby d15_16) _ ?_
    rw [len_of Sz83 Nn83]
    refine XS.icmpYes X78.here hx rfl (pc0 := 17) (pc' := 46) rfl (hb hby d15_17) rfl (flt (by decide : ¬ ((2 : Int32) < (2 : Int32)))).2.1 (by decide) (by decide) ?_
    refine XS.iinc X78.here hx rfl (hb hby d15_46) rfl (l' := #[(vr pa1), (vr pa2), (vi 1), (vi 2), (vi 2)]) rfl ?_
    refine XS.goto X78.here hx rfl (pc0 := 49) (pc' := 2) rfl (hb hby d15_49) (by decide) (by decide) ?_
    show Steps p.tables e below (T78.setTop (mkF m 2 #[(vr pa1), (vr pa2), (vi 1), (vi 2), (vi 2)] [])) _
    refine XS.iloadN X78.here hx rfl (hb hby d15_2) rfl ?_
    refine XS.aloadN X78.here hx rfl (hb hby d15_3) rfl rfl ?_
    refine X78.arraylength hx (by rw [e78]; exact Ar84.1) (State.isArrayOf_alike hZ.alike Ar84.2.1) (g := (mkF m 4 #[(vr pa1), (vr pa2), (vi 1), (vi 2), (vi 2)] [(.ref pa2), (.int 2)])) rfl rfl (hb hby d15_4) _ ?_
    rw [len_of Sz84 Nn84]
    refine XS.icmpYes X78.here hx rfl (pc0 := 5) (pc' := 52) rfl (hb hby d15_5) rfl (flt (by decide : ¬ ((2 : Int32) < (2 : Int32)))).2.1 (by decide) (by decide) ?_
    exact X78.returnOut hx hret0 (hb hby d15_52) hr
  · show Q_au15_0 Z wDEFAULTCAPACITY_EMPTY_ELEMENTDATA kwDEFAULTCAPACITY_EMPTY_ELEMENTDATA pa1 pa2 pa3 pk7 pa8 pa9 pk10 pa11 pa12 pk15 pi16 pi17 pi18 pk19 pi20 pi21 pk22 pa23 pa24 pa25 pk26 pa27 pa28 pk31 pk32 h0 n0 _ T78.heap _
    rw [e78]
    exact ⟨rfl, N78, K79, f85, f86, f87, f88, f89, f90, f91, f92, f93, V78⟩
theorem pd_10 : parseMethodDescriptor "([[II)V" = some ⟨[(.array (.array .int)), .int], none⟩ := by decide +kernel
theorem d9_20 : decode prog_34_method_4_code 20 = .ok (.aload_n 0, 1) := by decide +kernel
theorem d9_21 : decode prog_34_method_4_code 21 = .ok (.getfield 10, 3) := by decide +kernel
theorem d9_24 : decode prog_34_method_4_code 24 = .ok (.invokeinterface 55 1, 5) := by decide +kernel
theorem ef_au16_0 (m : MethodId) (x0 : Addr)  : entryFrame m #[(.ref x0)] 1 = mkF m 0 #[(vr x0)] [] := by first | (simp [entryFrame, mkF, argsToLocals, Value.category]; done) | rfl
theorem d16_0 : decode jdk_38_method_8_code 0 = .ok (.aload_n 0, 1) := by decide +kernel
theorem d16_1 : decode jdk_38_method_8_code 1 = .ok (.getfield 48, 3) := by decide +kernel
theorem d16_4 : decode jdk_38_method_8_code 4 = .ok (.ireturn, 1) := by decide +kernel
def Q_au16_0 (Z : State) (wDEFAULTCAPACITY_EMPTY_ELEMENTDATA : Addr) (kwDEFAULTCAPACITY_EMPTY_ELEMENTDATA : ClassId) (pa1 : Addr) (h0 : Heap) (n0 : Nat) (v : Option Value) (h : Heap) (L : List Loc) : Prop := v = some (.int 1) ∧ Fr n0 L ∧ h = h0
theorem au16_0 (l : Launch) (Z : State) (a0 : Array Value) (hw : ∀ d ∈ tables_1, d.before a0 Z = true) (ws : List Jvm.Cond) (wDEFAULTCAPACITY_EMPTY_ELEMENTDATA : Addr) (kwDEFAULTCAPACITY_EMPTY_ELEMENTDATA : ClassId) (hS : SS Z wDEFAULTCAPACITY_EMPTY_ELEMENTDATA kwDEFAULTCAPACITY_EMPTY_ELEMENTDATA) (pa1 : Addr) (h0 : Heap) (n0 : Nat) (O0 : Old Z n0 h0) (P3 : Fld Z h0 pa1 s0n "size" "I" (.int 1)) :
    MetB l M14 jdk_38_method_8_code 1 (some .int) ws (rmk 0 0 0 0) Z h0 #[(.ref pa1)] (Q_au16_0 Z wDEFAULTCAPACITY_EMPTY_ELEMENTDATA kwDEFAULTCAPACITY_EMPTY_ELEMENTDATA pa1 h0 n0) := by
  refine own_body (plainFor_of_name pn_java_util_ArrayList) ?_
  intro p e s m below meth c s₁ hx hby hml hown hnm hret0 hlk0 hZ X0 e0
  have N0 := Fr.nil n0
  have pre0 : ∀ t, Steps p.tables e below (s₁.setTop (mkF m 0 #[(vr pa1)] [])) t → Steps p.tables e below (s₁.setTop (entryFrame m #[(.ref pa1)] 1)) t := fun t k => castTop (ef_au16_0 m pa1) k
  have hS0 := hS
  obtain ⟨S_wDEFAULTCAPACITY_EMPTY_ELEMENTDATA, E_wDEFAULTCAPACITY_EMPTY_ELEMENTDATA, V_wDEFAULTCAPACITY_EMPTY_ELEMENTDATA⟩ := hS0
  obtain ⟨T1, X1, e1, st1⟩ := getF X0 hx hZ hown (host := "") (Or.inl (ow hw 93 rfl)) Via.refl e0 P3 (g := (mkF m 1 #[(vr pa1)] [(.ref pa1)])) rfl rfl (hb hby d16_1)
  obtain ⟨fs, hr, hrun, hended, hW, hsame⟩ := X1.leave (v := some (.int 1)) (fun h => by rw [hret0] at h; cases h)
  refine ⟨_, _, pre0 _ ?_, hrun, hended, _, _, rfl, ?_, ⟨_, rfl⟩, hW, hsame.mono (by decide) (by decide)⟩
  · skip
    show Steps p.tables e below (s₁.setTop (mkF m 0 #[(vr pa1)] [])) _
    refine XS.aloadN X0.here hx rfl (hb hby d16_0) rfl rfl ?_
    refine st1 _ ?_
    exact retI X1 hx hret0 (hb hby d16_4) hr
  · show Q_au16_0 Z wDEFAULTCAPACITY_EMPTY_ELEMENTDATA kwDEFAULTCAPACITY_EMPTY_ELEMENTDATA pa1 h0 n0 _ T1.heap _
    rw [e1]
    exact ⟨rfl, N0, rfl⟩
theorem pd_11 : parseMethodDescriptor "()I" = some ⟨[], some .int⟩ := by decide +kernel
theorem d9_29 : decode prog_34_method_4_code 29 = .ok (.aload_n 0, 1) := by decide +kernel
theorem d9_30 : decode prog_34_method_4_code 30 = .ok (.getfield 25, 3) := by decide +kernel
theorem d9_33 : decode prog_34_method_4_code 33 = .ok (.if_icmp .le 81, 3) := by decide +kernel
theorem d9_114 : decode prog_34_method_4_code 114 = .ok (.return_, 1) := by decide +kernel
def Q_au9_0 (Z : State) (wDEFAULTCAPACITY_EMPTY_ELEMENTDATA : Addr) (kwDEFAULTCAPACITY_EMPTY_ELEMENTDATA : ClassId) (pa1 : Addr) (pa2 : Addr) (pa3 : Addr) (pi4 : Int32) (pa5 : Addr) (pa6 : Addr) (pa7 : Addr) (pk8 : ClassId) (pa9 : Addr) (pa10 : Addr) (pk11 : ClassId) (pk12 : ClassId) (pa13 : Addr) (pa14 : Addr) (pk15 : ClassId) (pa16 : Addr) (pa17 : Addr) (pa18 : Addr) (pk19 : ClassId) (pa20 : Addr) (pa21 : Addr) (pk22 : ClassId) (pi23 : Int32) (pi24 : Int32) (pi25 : Int32) (pk26 : ClassId) (pi27 : Int32) (pi28 : Int32) (pk29 : ClassId) (pk30 : ClassId) (h0 : Heap) (n0 : Nat) (v : Option Value) (h : Heap) (L : List Loc) : Prop := ∃ (e1 : Addr) (e2 : ClassId), v = none ∧ Fr n0 L ∧ Keep h0 h [pa5, pa16, pa17, pa18, pa20, pa21] ∧ Exa Z h pa5 s0n ∧ Fld Z h pa5 s4n "modCount" "I" (.int 1) ∧ Fld Z h pa5 s0n "elementData" s1n (.ref e1) ∧ Fld Z h pa5 s0n "size" "I" (.int 1) ∧ Exa Z h pa16 "[I" ∧ Arv Z h pa16 pk29 .int (3 : Int32) ([(.int (inc pi23 (0 : Int32) (0 : Int32))), (.int (inc pi23 (1 : Int32) (0 : Int32))), (.int (inc pi23 (2 : Int32) (0 : Int32)))]) (.int 0) ∧ Exa Z h pa17 "[I" ∧ Arv Z h pa17 pk29 .int (3 : Int32) ([(.int (inc pi24 (0 : Int32) (0 : Int32))), (.int (inc pi24 (1 : Int32) (0 : Int32))), (.int (inc pi24 (2 : Int32) (0 : Int32)))]) (.int 0) ∧ Exa Z h pa18 "[I" ∧ Arv Z h pa18 pk29 .int (3 : Int32) ([(.int (inc pi25 (0 : Int32) (0 : Int32))), (.int (inc pi25 (1 : Int32) (0 : Int32))), (.int (inc pi25 (2 : Int32) (0 : Int32)))]) (.int 0) ∧ Exa Z h pa20 "[I" ∧ Arv Z h pa20 pk30 .int (2 : Int32) ([(.int (inc pi27 (0 : Int32) (0 : Int32))), (.int (inc pi27 (1 : Int32) (0 : Int32)))]) (.int 0) ∧ Exa Z h pa21 "[I" ∧ Arv Z h pa21 pk30 .int (2 : Int32) ([(.int (inc pi28 (0 : Int32) (0 : Int32))), (.int (inc pi28 (1 : Int32) (0 : Int32)))]) (.int 0) ∧ h0.size ≤ e1 ∧ Exa Z h e1 s1n ∧ Arv Z h e1 e2 (.object s2n) (10 : Int32) ([(.ref pa2), .null, .null, .null, .null, .null, .null, .null, .null, .null]) .null ∧ Ovr Z e2 s2n
theorem au9_0 (l : Launch) (Z : State) (a0 : Array Value) (hw : ∀ d ∈ tables_1, d.before a0 Z = true) (ws : List Jvm.Cond) (wDEFAULTCAPACITY_EMPTY_ELEMENTDATA : Addr) (kwDEFAULTCAPACITY_EMPTY_ELEMENTDATA : ClassId) (hS : SS Z wDEFAULTCAPACITY_EMPTY_ELEMENTDATA kwDEFAULTCAPACITY_EMPTY_ELEMENTDATA) (pa1 : Addr) (pa2 : Addr) (pa3 : Addr) (pi4 : Int32) (pa5 : Addr) (pa6 : Addr) (pa7 : Addr) (pk8 : ClassId) (pa9 : Addr) (pa10 : Addr) (pk11 : ClassId) (pk12 : ClassId) (pa13 : Addr) (pa14 : Addr) (pk15 : ClassId) (pa16 : Addr) (pa17 : Addr) (pa18 : Addr) (pk19 : ClassId) (pa20 : Addr) (pa21 : Addr) (pk22 : ClassId) (pi23 : Int32) (pi24 : Int32) (pi25 : Int32) (pk26 : ClassId) (pi27 : Int32) (pi28 : Int32) (pk29 : ClassId) (pk30 : ClassId) (h0 : Heap) (n0 : Nat) (O0 : Old Z n0 h0) (P0 : Exa Z h0 pa1 s3n) (P1 : Fld Z h0 pa1 s3n "counts" "[[[I" (.ref pa3)) (P2 : Fld Z h0 pa1 s3n "memory" "I" (.int pi4)) (P3 : Fld Z h0 pa1 s3n "tours" s5n (.ref pa5)) (P5 : Exa Z h0 pa2 s7n) (P6 : Fld Z h0 pa2 s7n "orders" "[[I" (.ref pa7)) (P8 : Arv Z h0 pa3 pk8 (.array (.array .int)) (2 : Int32) ([(.ref pa9), (.ref pa10)]) .null) (P11 : Exa Z h0 pa5 s0n) (P12 : Fld Z h0 pa5 s4n "modCount" "I" (.int 0)) (P13 : Fld Z h0 pa5 s0n "elementData" s1n (.ref wDEFAULTCAPACITY_EMPTY_ELEMENTDATA)) (P14 : Fld Z h0 pa5 s0n "size" "I" (.int 0)) (P15 : Arv Z h0 pa6 pk11 .int (2 : Int32) ([(.int 3), (.int 2)]) (.int 0)) (P17 : Arv Z h0 pa7 pk12 (.array .int) (2 : Int32) ([(.ref pa13), (.ref pa14)]) .null) (P20 : Arv Z h0 pa9 pk15 (.array .int) (3 : Int32) ([(.ref pa16), (.ref pa17), (.ref pa18)]) .null) (P23 : Arv Z h0 pa10 pk19 (.array .int) (2 : Int32) ([(.ref pa20), (.ref pa21)]) .null) (P26 : Arv Z h0 pa13 pk22 .int (3 : Int32) ([(.int pi23), (.int pi24), (.int pi25)]) (.int 0)) (P28 : Arv Z h0 pa14 pk26 .int (2 : Int32) ([(.int pi27), (.int pi28)]) (.int 0)) (P30 : Arv Z h0 pa16 pk29 .int (3 : Int32) ([(.int 0), (.int 0), (.int 0)]) (.int 0)) (P31 : Exa Z h0 pa16 "[I") (P32 : Arv Z h0 pa17 pk29 .int (3 : Int32) ([(.int 0), (.int 0), (.int 0)]) (.int 0)) (P33 : Exa Z h0 pa17 "[I") (P34 : Arv Z h0 pa18 pk29 .int (3 : Int32) ([(.int 0), (.int 0), (.int 0)]) (.int 0)) (P35 : Exa Z h0 pa18 "[I") (P36 : Arv Z h0 pa20 pk30 .int (2 : Int32) ([(.int 0), (.int 0)]) (.int 0)) (P37 : Exa Z h0 pa20 "[I") (P38 : Arv Z h0 pa21 pk30 .int (2 : Int32) ([(.int 0), (.int 0)]) (.int 0)) (P39 : Exa Z h0 pa21 "[I") (P41 : ¬ pi4 < (1 : Int32)) (P42 : inT pi23) (P43 : inT pi24) (P44 : inT pi25) (P45 : inB pi27) (P46 : inB pi28) (P50 : n0 ≤ pa5) (P55 : n0 ≤ pa16) (P56 : n0 ≤ pa17) (P57 : n0 ≤ pa18) (P58 : n0 ≤ pa20) (P59 : n0 ≤ pa21) (P62 : pa1 ≠ pa5) (P69 : pa1 ≠ pa16) (P70 : pa1 ≠ pa17) (P71 : pa1 ≠ pa18) (P72 : pa1 ≠ pa20) (P73 : pa1 ≠ pa21) (P75 : pa2 ≠ pa5) (P87 : pa3 ≠ pa5) (P94 : pa3 ≠ pa16) (P95 : pa3 ≠ pa17) (P96 : pa3 ≠ pa18) (P97 : pa3 ≠ pa20) (P100 : pa5 ≠ pa7) (P101 : pa5 ≠ pa9) (P102 : pa5 ≠ pa10) (P103 : pa5 ≠ pa13) (P104 : pa5 ≠ pa14) (P105 : pa5 ≠ pa16) (P106 : pa5 ≠ pa17) (P107 : pa5 ≠ pa18) (P108 : pa5 ≠ pa20) (P109 : pa5 ≠ pa21) (P124 : pa7 ≠ pa16) (P125 : pa7 ≠ pa17) (P126 : pa7 ≠ pa18) (P127 : pa7 ≠ pa20) (P128 : pa7 ≠ pa21) (P132 : pa9 ≠ pa16) (P133 : pa9 ≠ pa17) (P139 : pa10 ≠ pa16) (P140 : pa10 ≠ pa17) (P141 : pa10 ≠ pa18) (P142 : pa10 ≠ pa20) (P145 : pa13 ≠ pa16) (P146 : pa13 ≠ pa17) (P147 : pa13 ≠ pa18) (P150 : pa14 ≠ pa16) (P151 : pa14 ≠ pa17) (P152 : pa14 ≠ pa18) (P153 : pa14 ≠ pa20) (P154 : pa14 ≠ pa21) (P155 : pa16 ≠ pa17) (P156 : pa16 ≠ pa18) (P157 : pa16 ≠ pa20) (P158 : pa16 ≠ pa21) (P159 : pa17 ≠ pa18) (P160 : pa17 ≠ pa20) (P161 : pa17 ≠ pa21) (P162 : pa18 ≠ pa20) (P163 : pa18 ≠ pa21) (P164 : pa20 ≠ pa21) :
    MetB l M15 prog_34_method_4_code 4 none ws (rmk 5 1 10 69) Z h0 #[(.ref pa1), (.ref pa2)] (Q_au9_0 Z wDEFAULTCAPACITY_EMPTY_ELEMENTDATA kwDEFAULTCAPACITY_EMPTY_ELEMENTDATA pa1 pa2 pa3 pi4 pa5 pa6 pa7 pk8 pa9 pa10 pk11 pk12 pa13 pa14 pk15 pa16 pa17 pa18 pk19 pa20 pa21 pk22 pi23 pi24 pi25 pk26 pi27 pi28 pk29 pk30 h0 n0) := by
  refine own_body (plainFor_of_name pn_com_example_loopline_loopline_dispatch_Pheromone) ?_
  intro p e s m below meth c s₁ hx hby hml hown hnm hret0 hlk0 hZ X0 e0
  have N0 := Fr.nil n0
  have pre0 : ∀ t, Steps p.tables e below (s₁.setTop (mkF m 0 #[(vr pa1), (vr pa2), .unset, .unset] [])) t → Steps p.tables e below (s₁.setTop (entryFrame m #[(.ref pa1), (.ref pa2)] 4)) t := fun t k => castTop (ef_au9_0 m pa1 pa2) k
  have K0 := Keep.refl h0 [pa5, pa16, pa17, pa18, pa20, pa21]
  have hS0 := hS
  obtain ⟨S_wDEFAULTCAPACITY_EMPTY_ELEMENTDATA, E_wDEFAULTCAPACITY_EMPTY_ELEMENTDATA, V_wDEFAULTCAPACITY_EMPTY_ELEMENTDATA⟩ := hS0
  obtain ⟨T1, X1, e1, st1⟩ := getF X0 hx hZ hown (host := "") (Or.inl (ow hw 42 rfl)) Via.refl e0 P3 (g := (mkF m 1 #[(vr pa1), (vr pa2), .unset, .unset] [(.ref pa1)])) rfl rfl (hb hby d9_1)
  obtain ⟨cq2, kq2, q2a, q2b, q2c⟩ := isOf hZ e1 P11
  obtain ⟨_, _, ⟨T2, L2, k2, n2⟩, -, X2, ⟨Lc2, hQ2, l2, y2, z2⟩, st2⟩ := X1.interfaceBack hx (xi := M16) (y := M11) hown (mvT hZ (ow hw 82 rfl)) (mvT hZ (ow hw 83 rfl)) (mvT hZ (ow hw 84 rfl)) (mvT hZ (ow hw 85 rfl)) (mvT hZ (ow hw 86 rfl)) (mvT hZ (ow hw 87 rfl)) (mvT hZ (ow hw 88 rfl)) (mvT hZ (ow hw 89 rfl)) (by decide) (backOf (W := 0) (au10_0 l Z a0 hw [] wDEFAULTCAPACITY_EMPTY_ELEMENTDATA kwDEFAULTCAPACITY_EMPTY_ELEMENTDATA hS pa5 pa2 pa7 pk12 pa13 pa14 pk22 pi23 pi24 pi25 pk26 pi27 pi28 h0 n0 O0 P11 P12 P13 P14 P5 P17 P26 P28 P50 P100 P103 P104) hZ (ow hw 90 rfl) (ow hw 20 rfl) (by decide) (by decide)) q2a q2b q2c (g := (mkF m 5 #[(vr pa1), (vr pa2), .unset, .unset] [(.ref pa2), (.ref pa5)])) rfl (by rw [hml]; rfl) (Steps.refl _) (argsL := [(.ref pa2)]) (rest := []) (lenOf pd_8 rfl) rfl (by show 2 * 0 + _ ≤ _; exact Nat.le_of_eq rfl) (hb hby d9_5) (fun _ _ => ⟨rfl, e1, (by decide : 0 + 1 ≤ _), (by decide : 0 + 10 ≤ _)⟩)
  dsimp only [Pt.U, Pt.locs, Pt.cells, Pt.slots] at X2 l2 y2 z2 st2 hQ2
  subst l2 y2 z2
  obtain ⟨e1_2, e2_2, rfl, Nq2, K2q, p2_0, p2_1, p2_2, p2_3, p2_4, p2_5, p2_6, p2_7⟩ := hQ2
  have N2 := Fr.app N0 Nq2
  have ne3 : pa1 ≠ e1_2 := Nat.ne_of_lt (Nat.lt_of_lt_of_le P0.lt p2_4)
  have ne4 : pa2 ≠ e1_2 := Nat.ne_of_lt (Nat.lt_of_lt_of_le P5.lt p2_4)
  have ne5 : pa3 ≠ e1_2 := Nat.ne_of_lt (Nat.lt_of_lt_of_le P8.lt p2_4)
  have ne6 : pa5 ≠ e1_2 := Nat.ne_of_lt (Nat.lt_of_lt_of_le P11.lt p2_4)
  have ne7 : pa6 ≠ e1_2 := Nat.ne_of_lt (Nat.lt_of_lt_of_le P15.lt p2_4)
  have ne8 : pa7 ≠ e1_2 := Nat.ne_of_lt (Nat.lt_of_lt_of_le P17.lt p2_4)
  have ne9 : pa9 ≠ e1_2 := Nat.ne_of_lt (Nat.lt_of_lt_of_le P20.lt p2_4)
  have ne10 : pa10 ≠ e1_2 := Nat.ne_of_lt (Nat.lt_of_lt_of_le P23.lt p2_4)
  have ne11 : pa13 ≠ e1_2 := Nat.ne_of_lt (Nat.lt_of_lt_of_le P26.lt p2_4)
  have ne12 : pa14 ≠ e1_2 := Nat.ne_of_lt (Nat.lt_of_lt_of_le P28.lt p2_4)
  have ne13 : pa16 ≠ e1_2 := Nat.ne_of_lt (Nat.lt_of_lt_of_le P30.lt p2_4)
  have ne14 : pa17 ≠ e1_2 := Nat.ne_of_lt (Nat.lt_of_lt_of_le P32.lt p2_4)
  have ne15 : pa18 ≠ e1_2 := Nat.ne_of_lt (Nat.lt_of_lt_of_le P34.lt p2_4)
  have ne16 : pa20 ≠ e1_2 := Nat.ne_of_lt (Nat.lt_of_lt_of_le P36.lt p2_4)
  have ne17 : pa21 ≠ e1_2 := Nat.ne_of_lt (Nat.lt_of_lt_of_le P38.lt p2_4)
  have g18 : n0 ≤ e1_2 := Nat.le_trans (own_sz O0) p2_4
  have sz19 : h0.size ≤ e1_2 := Nat.le_trans K0.1 p2_4
  have O20 : Old Z n0 T2.heap := O0.keep K2q (allS P50 all0)
  have K20 : Keep h0 T2.heap [pa5, pa16, pa17, pa18, pa20, pa21] := K0.trans K2q (allS (Or.inl (List.mem_of_getElem? (i := 0) rfl)) all0)
  have f21 : Fld Z T2.heap pa2 s7n "orders" "[[I" (.ref pa7) := (P6.keep K2q (ninS P75 nin0))
  have f23 : Exa Z T2.heap pa2 s7n := (P5.keep K2q)
  obtain ⟨cq22, kq22, q22a, q22b, q22c⟩ := isOf hZ rfl f23
  obtain ⟨_, _, ⟨T22, L22, k22, n22⟩, -, X22, ⟨Lc22, hQ22, l22, y22, z22⟩, st22⟩ := X2.virtualBack hx (y := M12) (z := M12) hown (mvT hZ (ow hw 114 rfl)) (mvT hZ (ow hw 115 rfl)) (notFace_of_selects (args := #[]) (mvT hZ (ow hw 117 rfl))) (mvT hZ (ow hw 117 rfl)) (mvT hZ (ow hw 116 rfl)) (by decide) (backOf (W := 1) (au14_0 l Z a0 hw [] wDEFAULTCAPACITY_EMPTY_ELEMENTDATA kwDEFAULTCAPACITY_EMPTY_ELEMENTDATA hS pa2 pa7 T2.heap n0 O20 f21) hZ (ow hw 118 rfl) (ow hw 63 rfl) (by decide) (by decide)) q22a q22c (g := (mkF m 13 #[(vr pa1), (vr pa2), .unset, .unset] [(.ref pa2), (.ref pa1)])) rfl (by rw [hml]; rfl) (Steps.refl _) (argsL := []) (rest := [(.ref pa1)]) (lenOf pd_9 rfl) rfl (by show 2 * 0 + _ ≤ _; exact Nat.le_of_eq rfl) (hb hby d9_13) (fun _ _ => ⟨rfl, rfl, (by decide : 1 + 0 ≤ _), (by decide : 10 + 0 ≤ _)⟩)
  dsimp only [Pt.U, Pt.locs, Pt.cells, Pt.slots] at X22 l22 y22 z22 st22 hQ22
  subst l22 y22 z22
  obtain ⟨rfl, Nq22, K22q⟩ := hQ22
  have N22 := Fr.app N2 Nq22
  have f24 : Fld Z T2.heap pa1 s3n "counts" "[[[I" (.ref pa3) := (P1.keep K2q (ninS P62 nin0))
  have f25 : Arv Z T2.heap pa7 pk12 (.array .int) (2 : Int32) ([(.ref pa13), (.ref pa14)]) .null := (P17.keep K2q (ninS (Ne.symm P100) nin0))
  have f26 : Arv Z T2.heap pa3 pk8 (.array (.array .int)) (2 : Int32) ([(.ref pa9), (.ref pa10)]) .null := (P8.keep K2q (ninS P87 nin0))
  have f27 : Arv Z T2.heap pa13 pk22 .int (3 : Int32) ([(.int pi23), (.int pi24), (.int pi25)]) (.int 0) := (P26.keep K2q (ninS (Ne.symm P103) nin0))
  have f28 : Arv Z T2.heap pa14 pk26 .int (2 : Int32) ([(.int pi27), (.int pi28)]) (.int 0) := (P28.keep K2q (ninS (Ne.symm P104) nin0))
  have f29 : Arv Z T2.heap pa9 pk15 (.array .int) (3 : Int32) ([(.ref pa16), (.ref pa17), (.ref pa18)]) .null := (P20.keep K2q (ninS (Ne.symm P101) nin0))
  have f30 : Arv Z T2.heap pa10 pk19 (.array .int) (2 : Int32) ([(.ref pa20), (.ref pa21)]) .null := (P23.keep K2q (ninS (Ne.symm P102) nin0))
  have f31 : Arv Z T2.heap pa16 pk29 .int (3 : Int32) ([(.int 0), (.int 0), (.int 0)]) (.int 0) := (P30.keep K2q (ninS (Ne.symm P105) nin0))
  have f32 : Exa Z T2.heap pa16 "[I" := (P31.keep K2q)
  have f33 : Arv Z T2.heap pa17 pk29 .int (3 : Int32) ([(.int 0), (.int 0), (.int 0)]) (.int 0) := (P32.keep K2q (ninS (Ne.symm P106) nin0))
  have f34 : Exa Z T2.heap pa17 "[I" := (P33.keep K2q)
  have f35 : Arv Z T2.heap pa18 pk29 .int (3 : Int32) ([(.int 0), (.int 0), (.int 0)]) (.int 0) := (P34.keep K2q (ninS (Ne.symm P107) nin0))
  have f36 : Exa Z T2.heap pa18 "[I" := (P35.keep K2q)
  have f37 : Arv Z T2.heap pa20 pk30 .int (2 : Int32) ([(.int 0), (.int 0)]) (.int 0) := (P36.keep K2q (ninS (Ne.symm P108) nin0))
  have f38 : Exa Z T2.heap pa20 "[I" := (P37.keep K2q)
  have f39 : Arv Z T2.heap pa21 pk30 .int (2 : Int32) ([(.int 0), (.int 0)]) (.int 0) := (P38.keep K2q (ninS (Ne.symm P109) nin0))
  have f40 : Exa Z T2.heap pa21 "[I" := (P39.keep K2q)
  have f42 : Exa Z T2.heap pa1 s3n := (P0.keep K2q)
  obtain ⟨cq41, q41, q41'⟩ := f42.cell
  obtain ⟨_, _, ⟨T41, L41, k41, n41⟩, -, X41, ⟨Lc41, hQ41, l41, y41, z41⟩, st41⟩ := X22.privateBack hx (y := M13) hown (mvT hZ (ow hw 119 rfl)) (mvT hZ (ow hw 120 rfl)) (own_selp (mvT hZ (ow hw 10 rfl)) (mvP hZ (ow hw 121 rfl)) (mvT hZ (ow hw 120 rfl)) (by decide)) (Cond.privateMethod_at (mvP hZ (ow hw 121 rfl) (args := #[]))) (mvT hZ (ow hw 122 rfl)) (by decide) (backOf (W := 0) (au15_0 l Z a0 hw [] wDEFAULTCAPACITY_EMPTY_ELEMENTDATA kwDEFAULTCAPACITY_EMPTY_ELEMENTDATA hS pa1 pa7 pa3 pk12 pa13 pa14 pk8 pa9 pa10 pk22 pi23 pi24 pi25 pk26 pi27 pi28 pk15 pa16 pa17 pa18 pk19 pa20 pa21 pk29 pk30 T2.heap n0 O20 f24 f25 f26 f27 f28 f29 f30 f31 f32 f33 f34 f35 f36 f37 f38 f39 f40 P42 P43 P44 P45 P46 P55 P56 P57 P58 P59 P69 P70 P71 P72 P124 P125 P126 P127 P128 P94 P95 P96 P97 P145 P146 P147 P150 P151 P152 P153 P154 P132 P133 P139 P140 P141 P142 P155 P156 P157 P158 P159 P160 P161 P162 P163 P164) hZ (ow hw 122 rfl) (ow hw 11 rfl) (by decide) (by decide)) (g := (mkF m 17 #[(vr pa1), (vr pa2), .unset, .unset] [(.int 1), (.ref pa7), (.ref pa1)])) rfl (by rw [hml]; rfl) (Steps.refl _) (a := pa1) (by rw [K22q]; exact q41) q41' (argsL := [(.ref pa7), (.int 1)]) (rest := []) (lenOf pd_10 rfl) rfl (by show 2 * 0 + _ ≤ _; exact Nat.le_of_eq rfl) (hb hby d9_17) (fun _ _ => ⟨rfl, K22q, (by decide : 1 + 0 ≤ _), (by decide : 10 + 0 ≤ _)⟩)
  dsimp only [Pt.U, Pt.locs, Pt.cells, Pt.slots] at X41 l41 y41 z41 st41 hQ41
  subst l41 y41 z41
  obtain ⟨rfl, Nq41, K41q, p41_0, p41_1, p41_2, p41_3, p41_4, p41_5, p41_6, p41_7, p41_8, p41_9⟩ := hQ41
  have N41 := Fr.app N22 Nq41
  have O43 : Old Z n0 T41.heap := O20.keep K41q (allS P55 (allS P56 (allS P57 (allS P58 (allS P59 all0)))))
  have K43 : Keep h0 T41.heap [pa5, pa16, pa17, pa18, pa20, pa21] := K20.trans K41q (allS (Or.inl (List.mem_of_getElem? (i := 1) rfl)) (allS (Or.inl (List.mem_of_getElem? (i := 2) rfl)) (allS (Or.inl (List.mem_of_getElem? (i := 3) rfl)) (allS (Or.inl (List.mem_of_getElem? (i := 4) rfl)) (allS (Or.inl (List.mem_of_getElem? (i := 5) rfl)) all0)))))
  have f44 : Fld Z T41.heap pa1 s3n "tours" s5n (.ref pa5) := ((P3.keep K2q (ninS P62 nin0)).keep K41q (ninS P69 (ninS P70 (ninS P71 (ninS P72 (ninS P73 nin0))))))
  obtain ⟨T45, X45, e45, st45⟩ := getF X41 hx hZ hown (host := "") (Or.inl (ow hw 42 rfl)) Via.refl rfl f44 (g := (mkF m 21 #[(vr pa1), (vr pa2), .unset, .unset] [(.ref pa1)])) rfl rfl (hb hby d9_21)
  have f46 : Fld Z T41.heap pa5 s0n "size" "I" (.int 1) := (p2_3.keep K41q (ninS P105 (ninS P106 (ninS P107 (ninS P108 (ninS P109 nin0))))))
  have f48 : Exa Z T41.heap pa5 s0n := (p2_0.keep K41q)
  obtain ⟨cq47, kq47, q47a, q47b, q47c⟩ := isOf hZ e45 f48
  obtain ⟨_, _, ⟨T47, L47, k47, n47⟩, -, X47, ⟨Lc47, hQ47, l47, y47, z47⟩, st47⟩ := X45.interfaceBack hx (xi := M17) (y := M14) hown (mvT hZ (ow hw 123 rfl)) (mvT hZ (ow hw 124 rfl)) (mvT hZ (ow hw 125 rfl)) (mvT hZ (ow hw 126 rfl)) (mvT hZ (ow hw 127 rfl)) (mvT hZ (ow hw 128 rfl)) (mvT hZ (ow hw 129 rfl)) (mvT hZ (ow hw 89 rfl)) (by decide) (backOf (W := 0) (au16_0 l Z a0 hw [] wDEFAULTCAPACITY_EMPTY_ELEMENTDATA kwDEFAULTCAPACITY_EMPTY_ELEMENTDATA hS pa5 T41.heap n0 O43 f46) hZ (ow hw 130 rfl) (ow hw 20 rfl) (by decide) (by decide)) q47a q47b q47c (g := (mkF m 24 #[(vr pa1), (vr pa2), .unset, .unset] [(.ref pa5)])) rfl (by rw [hml]; rfl) (Steps.refl _) (argsL := []) (rest := []) (lenOf pd_11 rfl) rfl (by show 2 * 0 + _ ≤ _; exact Nat.le_of_eq rfl) (hb hby d9_24) (fun _ _ => ⟨rfl, e45, (by decide : 1 + 0 ≤ _), (by decide : 10 + 0 ≤ _)⟩)
  dsimp only [Pt.U, Pt.locs, Pt.cells, Pt.slots] at X47 l47 y47 z47 st47 hQ47
  subst l47 y47 z47
  obtain ⟨rfl, Nq47, K47q⟩ := hQ47
  have N47 := Fr.app N41 Nq47
  have f49 : Fld Z T41.heap pa1 s3n "memory" "I" (.int pi4) := ((P2.keep K2q (ninS P62 nin0)).keep K41q (ninS P69 (ninS P70 (ninS P71 (ninS P72 (ninS P73 nin0))))))
  obtain ⟨T50, X50, e50, st50⟩ := getF X47 hx hZ hown (host := "") (Or.inl (ow hw 54 rfl)) Via.refl K47q f49 (g := (mkF m 30 #[(vr pa1), (vr pa2), .unset, .unset] [(.ref pa1), (.int 1)])) rfl rfl (hb hby d9_30)
  have f51 : Fld Z T41.heap pa5 s4n "modCount" "I" (.int 1) := (p2_1.keep K41q (ninS P105 (ninS P106 (ninS P107 (ninS P108 (ninS P109 nin0))))))
  have f52 : Fld Z T41.heap pa5 s0n "elementData" s1n (.ref e1_2) := (p2_2.keep K41q (ninS P105 (ninS P106 (ninS P107 (ninS P108 (ninS P109 nin0))))))
  have f53 : Exa Z T41.heap e1_2 s1n := (p2_5.keep K41q)
  have f54 : Arv Z T41.heap e1_2 e2_2 (.object s2n) (10 : Int32) ([(.ref pa2), .null, .null, .null, .null, .null, .null, .null, .null, .null]) .null := (p2_6.keep K41q (ninS (Ne.symm ne13) (ninS (Ne.symm ne14) (ninS (Ne.symm ne15) (ninS (Ne.symm ne16) (ninS (Ne.symm ne17) nin0))))))
  obtain ⟨fs, hr, hrun, hended, hW, hsame⟩ := X50.leave (v := none) (fun _ => rfl)
  refine ⟨_, _, pre0 _ ?_, hrun, hended, _, _, rfl, ?_, ⟨_, rfl⟩, hW, hsame.mono (by decide) (by decide)⟩
  · skip
    show Steps p.tables e below (s₁.setTop (mkF m 0 #[(vr pa1), (vr pa2), .unset, .unset] [])) _
    refine XS.aloadN X0.here hx rfl (hb hby d9_0) rfl rfl ?_
    refine st1 _ ?_
    refine XS.aloadN X1.here hx rfl (hb hby d9_4) rfl rfl ?_
    refine st2.trans ?_
    refine XS.pop X2.here hx rfl (hb hby d9_10) rfl rfl ?_
    refine XS.aloadN X2.here hx rfl (hb hby d9_11) rfl rfl ?_
    show Steps p.tables e below (T2.setTop (mkF m 12 #[(vr pa1), (vr pa2), .unset, .unset] [(.ref pa1)])) _
    refine XS.aloadN X2.here hx rfl (hb hby d9_12) rfl rfl ?_
    refine st22.trans ?_
    refine XS.iconst X22.here hx rfl (hb hby d9_16) ?_
    refine st41.trans ?_
    refine XS.aloadN X41.here hx rfl (hb hby d9_20) rfl rfl ?_
    refine st45 _ ?_
    show Steps p.tables e below (T45.setTop (mkF m 24 #[(vr pa1), (vr pa2), .unset, .unset] [(.ref pa5)])) _
    refine st47.trans ?_
    refine XS.aloadN X47.here hx rfl (hb hby d9_29) rfl rfl ?_
    refine st50 _ ?_
    refine XS.icmpYes X50.here hx rfl (pc0 := 33) (pc' := 114) rfl (hb hby d9_33) rfl (flt (P41 : ¬ (pi4 < (1 : Int32)))).2.2.2 (by decide) (by decide) ?_
    exact X50.returnOut hx hret0 (hb hby d9_114) hr
  · show Q_au9_0 Z wDEFAULTCAPACITY_EMPTY_ELEMENTDATA kwDEFAULTCAPACITY_EMPTY_ELEMENTDATA pa1 pa2 pa3 pi4 pa5 pa6 pa7 pk8 pa9 pa10 pk11 pk12 pa13 pa14 pk15 pa16 pa17 pa18 pk19 pa20 pa21 pk22 pi23 pi24 pi25 pk26 pi27 pi28 pk29 pk30 h0 n0 _ T50.heap _
    rw [e50]
    exact ⟨e1_2, e2_2, rfl, N47, K43, f48, f51, f52, f46, p41_0, p41_1, p41_2, p41_3, p41_4, p41_5, p41_6, p41_7, p41_8, p41_9, sz19, f53, f54, p2_7⟩
theorem pd_12 : parseMethodDescriptor "(Lcom/example/loopline/loopline/dispatch/Tour;)V" = some ⟨[(.object "com/example/loopline/loopline/dispatch/Tour")], none⟩ := by decide +kernel
theorem ef_au17_5 (m : MethodId) (x0 : Addr) (x1 : Int32) (x2 : Int32) (x3 : Int32)  : entryFrame m #[(.ref x0), (.int x1), (.int x2), (.int x3)] 4 = mkF m 0 #[(vr x0), (vi x1), (vi x2), (vi x3)] [] := by first | (simp [entryFrame, mkF, argsToLocals, Value.category]; done) | rfl
def Q_au17_5 (Z : State) (wDEFAULTCAPACITY_EMPTY_ELEMENTDATA : Addr) (kwDEFAULTCAPACITY_EMPTY_ELEMENTDATA : ClassId) (pa1 : Addr) (pi2 : Int32) (pa3 : Addr) (pi4 : Int32) (pa6 : Addr) (pk7 : ClassId) (pa8 : Addr) (pa9 : Addr) (pk11 : ClassId) (pk12 : ClassId) (pa13 : Addr) (pa14 : Addr) (pa15 : Addr) (pk21 : ClassId) (pi22 : Int32) (pi23 : Int32) (pi24 : Int32) (h0 : Heap) (n0 : Nat) (v : Option Value) (h : Heap) (L : List Loc) : Prop := v = some (.long ((pi4.toInt64) + ((3 : Int64) * ((selT pi2 pi22 pi23 pi24).toInt64)))) ∧ Fr n0 L ∧ h = h0
theorem au17_5 (l : Launch) (Z : State) (a0 : Array Value) (hw : ∀ d ∈ tables_1, d.before a0 Z = true) (ws : List Jvm.Cond) (wDEFAULTCAPACITY_EMPTY_ELEMENTDATA : Addr) (kwDEFAULTCAPACITY_EMPTY_ELEMENTDATA : ClassId) (hS : SS Z wDEFAULTCAPACITY_EMPTY_ELEMENTDATA kwDEFAULTCAPACITY_EMPTY_ELEMENTDATA) (pa1 : Addr) (pi2 : Int32) (pa3 : Addr) (pi4 : Int32) (pa6 : Addr) (pk7 : ClassId) (pa8 : Addr) (pa9 : Addr) (pk11 : ClassId) (pk12 : ClassId) (pa13 : Addr) (pa14 : Addr) (pa15 : Addr) (pk21 : ClassId) (pi22 : Int32) (pi23 : Int32) (pi24 : Int32) (h0 : Heap) (n0 : Nat) (O0 : Old Z n0 h0) (P1 : Fld Z h0 pa1 s3n "counts" "[[[I" (.ref pa3)) (P2 : Fld Z h0 pa1 s3n "memory" "I" (.int pi4)) (P4 : Fld Z h0 pa1 s3n "trains" "[I" (.ref pa6)) (P5 : Arv Z h0 pa3 pk7 (.array (.array .int)) (2 : Int32) ([(.ref pa8), (.ref pa9)]) .null) (P12 : Arv Z h0 pa6 pk11 .int (2 : Int32) ([(.int 3), (.int 2)]) (.int 0)) (P14 : Arv Z h0 pa8 pk12 (.array .int) (3 : Int32) ([(.ref pa13), (.ref pa14), (.ref pa15)]) .null) (P23 : Arv Z h0 pa13 pk21 .int (3 : Int32) ([(.int pi22), (.int pi23), (.int pi24)]) (.int 0)) (P50 : inT pi2) :
    MetB l M7 prog_34_method_2_code 4 (some .long) ws (rmk 0 0 0 0) Z h0 #[(.ref pa1), (.int 0), (.int 0), (.int pi2)] (Q_au17_5 Z wDEFAULTCAPACITY_EMPTY_ELEMENTDATA kwDEFAULTCAPACITY_EMPTY_ELEMENTDATA pa1 pi2 pa3 pi4 pa6 pk7 pa8 pa9 pk11 pk12 pa13 pa14 pa15 pk21 pi22 pi23 pi24 h0 n0) := by
  refine own_body (plainFor_of_name pn_com_example_loopline_loopline_dispatch_Pheromone) ?_
  intro p e s m below meth c s₁ hx hby hml hown hnm hret0 hlk0 hZ X0 e0
  have N0 := Fr.nil n0
  have pre0 : ∀ t, Steps p.tables e below (s₁.setTop (mkF m 0 #[(vr pa1), (vi 0), (vi 0), (vi pi2)] [])) t → Steps p.tables e below (s₁.setTop (entryFrame m #[(.ref pa1), (.int 0), (.int 0), (.int pi2)] 4)) t := fun t k => castTop (ef_au17_5 m pa1 (0 : Int32) (0 : Int32) pi2) k
  have hS0 := hS
  obtain ⟨S_wDEFAULTCAPACITY_EMPTY_ELEMENTDATA, E_wDEFAULTCAPACITY_EMPTY_ELEMENTDATA, V_wDEFAULTCAPACITY_EMPTY_ELEMENTDATA⟩ := hS0
  obtain ⟨T1, X1, e1, st1⟩ := getF X0 hx hZ hown (host := "") (Or.inl (ow hw 54 rfl)) Via.refl e0 P2 (g := (mkF m 1 #[(vr pa1), (vi 0), (vi 0), (vi pi2)] [(.ref pa1)])) rfl rfl (hb hby d17_1)
  obtain ⟨T2, X2, e2, st2⟩ := getF X1 hx hZ hown (host := "") (Or.inl (ow hw 52 rfl)) Via.refl e1 P4 (g := (mkF m 6 #[(vr pa1), (vi 0), (vi 0), (vi pi2)] [(.ref pa1), (.long (pi4.toInt64))])) rfl rfl (hb hby d17_6)
  obtain ⟨cl3, Ar3, qc3, Sz3, Nn3, Ha3, Gg3⟩ := (id P12)
  have hin3 : ¬ ((0 : Int32) < 0 ∨ cl3.slots.size ≤ ((0 : Int32)).toNatClampNeg) := inb_of Sz3 ⟨by decide, by decide⟩
  have hat3 : cl3.slots[((0 : Int32)).toNatClampNeg]? = some (.int 3) := Ha3.at hin3 rfl
  obtain ⟨T4, X4, e4, st4⟩ := getF X2 hx hZ hown (host := "") (Or.inl (ow hw 58 rfl)) Via.refl e2 P1 (g := (mkF m 13 #[(vr pa1), (vi 0), (vi 0), (vi pi2)] [(.ref pa1), (.long 3), (.long (pi4.toInt64))])) rfl rfl (hb hby d17_13)
  obtain ⟨cl5, Ar5, qc5, Sz5, Nn5, Ha5, Gg5⟩ := (id P5)
  have hin5 : ¬ ((0 : Int32) < 0 ∨ cl5.slots.size ≤ ((0 : Int32)).toNatClampNeg) := inb_of Sz5 ⟨by decide, by decide⟩
  have hat5 : cl5.slots[((0 : Int32)).toNatClampNeg]? = some (.ref pa8) := Ha5.at hin5 rfl
  obtain ⟨cl6, Ar6, qc6, Sz6, Nn6, Ha6, Gg6⟩ := (id P14)
  have hin6 : ¬ ((0 : Int32) < 0 ∨ cl6.slots.size ≤ ((0 : Int32)).toNatClampNeg) := inb_of Sz6 ⟨by decide, by decide⟩
  have hat6 : cl6.slots[((0 : Int32)).toNatClampNeg]? = some (.ref pa13) := Ha6.at hin6 rfl
  obtain ⟨cl7, Ar7, qc7, Sz7, Nn7, Ha7, Gg7⟩ := (id P23)
  have hin7 : ¬ (pi2 < 0 ∨ cl7.slots.size ≤ (pi2).toNatClampNeg) := own_inbT P50 Sz7
  have hat7 : cl7.slots[(pi2).toNatClampNeg]? = some (.int (selT pi2 pi22 pi23 pi24)) := Ha7.at hin7 (own_getT P50)
  obtain ⟨fs, hr, hrun, hended, hW, hsame⟩ := X4.leave (v := some (.long ((pi4.toInt64) + ((3 : Int64) * ((selT pi2 pi22 pi23 pi24).toInt64))))) (fun h => by rw [hret0] at h; cases h)
  refine ⟨_, _, pre0 _ ?_, hrun, hended, _, _, rfl, ?_, ⟨_, rfl⟩, hW, hsame.mono (by decide) (by decide)⟩
  · skip
    show Steps p.tables e below (s₁.setTop (mkF m 0 #[(vr pa1), (vi 0), (vi 0), (vi pi2)] [])) _
    refine XS.aloadN X0.here hx rfl (hb hby d17_0) rfl rfl ?_
    refine st1 _ ?_
    refine XS.i2l X1.here hx rfl (hb hby d17_4) rfl ?_
    refine XS.aloadN X1.here hx rfl (hb hby d17_5) rfl rfl ?_
    refine st2 _ ?_
    refine XS.iloadN X2.here hx rfl (hb hby d17_9) rfl ?_
    show Steps p.tables e below (T2.setTop (mkF m 10 #[(vr pa1), (vi 0), (vi 0), (vi pi2)] [(.int 0), (.ref pa6), (.long (pi4.toInt64))])) _
    refine X2.iaload hx (j := (0 : Int32)) (v := (.int 3)) (by rw [e2]; exact Ar3.1) (State.isArrayOf_alike hZ.alike Ar3.2.1) Ar3.2.2 hin3 hat3 (g := (mkF m 10 #[(vr pa1), (vi 0), (vi 0), (vi pi2)] [(.int 0), (.ref pa6), (.long (pi4.toInt64))])) rfl rfl (hb hby d17_10) _ ?_
    refine XS.i2l X2.here hx rfl (hb hby d17_11) rfl ?_
    refine XS.aloadN X2.here hx rfl (hb hby d17_12) rfl rfl ?_
    refine st4 _ ?_
    refine XS.iloadN X4.here hx rfl (hb hby d17_16) rfl ?_
    refine X4.aaload hx (j := (0 : Int32)) (v := (.ref pa8)) (by rw [e4]; exact Ar5.1) (State.isArrayOf_alike hZ.alike Ar5.2.1) rfl Ar5.2.2 hin5 hat5 (g := (mkF m 17 #[(vr pa1), (vi 0), (vi 0), (vi pi2)] [(.int 0), (.ref pa3), (.long 3), (.long (pi4.toInt64))])) rfl rfl (hb hby d17_17) _ ?_
    show Steps p.tables e below (T4.setTop (mkF m 18 #[(vr pa1), (vi 0), (vi 0), (vi pi2)] [(.ref pa8), (.long 3), (.long (pi4.toInt64))])) _
    refine XS.iloadN X4.here hx rfl (hb hby d17_18) rfl ?_
    refine X4.aaload hx (j := (0 : Int32)) (v := (.ref pa13)) (by rw [e4]; exact Ar6.1) (State.isArrayOf_alike hZ.alike Ar6.2.1) rfl Ar6.2.2 hin6 hat6 (g := (mkF m 19 #[(vr pa1), (vi 0), (vi 0), (vi pi2)] [(.int 0), (.ref pa8), (.long 3), (.long (pi4.toInt64))])) rfl rfl (hb hby d17_19) _ ?_
    refine XS.iloadN X4.here hx rfl (hb hby d17_20) rfl ?_
    refine X4.iaload hx (j := pi2) (v := (.int (selT pi2 pi22 pi23 pi24))) (by rw [e4]; exact Ar7.1) (State.isArrayOf_alike hZ.alike Ar7.2.1) Ar7.2.2 hin7 hat7 (g := (mkF m 21 #[(vr pa1), (vi 0), (vi 0), (vi pi2)] [(.int pi2), (.ref pa13), (.long 3), (.long (pi4.toInt64))])) rfl rfl (hb hby d17_21) _ ?_
    refine XS.i2l X4.here hx rfl (hb hby d17_22) rfl ?_
    refine XS.lmul X4.here hx rfl (hb hby d17_23) rfl ?_
    show Steps p.tables e below (T4.setTop (mkF m 24 #[(vr pa1), (vi 0), (vi 0), (vi pi2)] [(.long ((3 : Int64) * ((selT pi2 pi22 pi23 pi24).toInt64))), (.long (pi4.toInt64))])) _
    refine XS.ladd X4.here hx rfl (hb hby d17_24) rfl ?_
    jvm_step X4.here [X4.here.top, hx, (hb hby d17_25), X4.method', hret0, narrow]
    first | (intro acts; rw [hr _ acts rfl rfl rfl]) | rw [hr _ _ rfl rfl rfl]
    exact Steps.refl _
  · show Q_au17_5 Z wDEFAULTCAPACITY_EMPTY_ELEMENTDATA kwDEFAULTCAPACITY_EMPTY_ELEMENTDATA pa1 pi2 pa3 pi4 pa6 pk7 pa8 pa9 pk11 pk12 pa13 pa14 pa15 pk21 pi22 pi23 pi24 h0 n0 _ T4.heap _
    rw [e4]
    exact ⟨rfl, N0, rfl⟩
theorem ef_au17_6 (m : MethodId) (x0 : Addr) (x1 : Int32) (x2 : Int32) (x3 : Int32)  : entryFrame m #[(.ref x0), (.int x1), (.int x2), (.int x3)] 4 = mkF m 0 #[(vr x0), (vi x1), (vi x2), (vi x3)] [] := by first | (simp [entryFrame, mkF, argsToLocals, Value.category]; done) | rfl
def Q_au17_6 (Z : State) (wDEFAULTCAPACITY_EMPTY_ELEMENTDATA : Addr) (kwDEFAULTCAPACITY_EMPTY_ELEMENTDATA : ClassId) (pa1 : Addr) (pi2 : Int32) (pa3 : Addr) (pi4 : Int32) (pa6 : Addr) (pk7 : ClassId) (pa8 : Addr) (pa9 : Addr) (pk11 : ClassId) (pk12 : ClassId) (pa13 : Addr) (pa14 : Addr) (pa15 : Addr) (pk21 : ClassId) (pi25 : Int32) (pi26 : Int32) (pi27 : Int32) (h0 : Heap) (n0 : Nat) (v : Option Value) (h : Heap) (L : List Loc) : Prop := v = some (.long ((pi4.toInt64) + ((3 : Int64) * ((selT pi2 pi25 pi26 pi27).toInt64)))) ∧ Fr n0 L ∧ h = h0
theorem au17_6 (l : Launch) (Z : State) (a0 : Array Value) (hw : ∀ d ∈ tables_1, d.before a0 Z = true) (ws : List Jvm.Cond) (wDEFAULTCAPACITY_EMPTY_ELEMENTDATA : Addr) (kwDEFAULTCAPACITY_EMPTY_ELEMENTDATA : ClassId) (hS : SS Z wDEFAULTCAPACITY_EMPTY_ELEMENTDATA kwDEFAULTCAPACITY_EMPTY_ELEMENTDATA) (pa1 : Addr) (pi2 : Int32) (pa3 : Addr) (pi4 : Int32) (pa6 : Addr) (pk7 : ClassId) (pa8 : Addr) (pa9 : Addr) (pk11 : ClassId) (pk12 : ClassId) (pa13 : Addr) (pa14 : Addr) (pa15 : Addr) (pk21 : ClassId) (pi25 : Int32) (pi26 : Int32) (pi27 : Int32) (h0 : Heap) (n0 : Nat) (O0 : Old Z n0 h0) (P1 : Fld Z h0 pa1 s3n "counts" "[[[I" (.ref pa3)) (P2 : Fld Z h0 pa1 s3n "memory" "I" (.int pi4)) (P4 : Fld Z h0 pa1 s3n "trains" "[I" (.ref pa6)) (P5 : Arv Z h0 pa3 pk7 (.array (.array .int)) (2 : Int32) ([(.ref pa8), (.ref pa9)]) .null) (P12 : Arv Z h0 pa6 pk11 .int (2 : Int32) ([(.int 3), (.int 2)]) (.int 0)) (P14 : Arv Z h0 pa8 pk12 (.array .int) (3 : Int32) ([(.ref pa13), (.ref pa14), (.ref pa15)]) .null) (P25 : Arv Z h0 pa14 pk21 .int (3 : Int32) ([(.int pi25), (.int pi26), (.int pi27)]) (.int 0)) (P50 : inT pi2) :
    MetB l M7 prog_34_method_2_code 4 (some .long) ws (rmk 0 0 0 0) Z h0 #[(.ref pa1), (.int 0), (.int 1), (.int pi2)] (Q_au17_6 Z wDEFAULTCAPACITY_EMPTY_ELEMENTDATA kwDEFAULTCAPACITY_EMPTY_ELEMENTDATA pa1 pi2 pa3 pi4 pa6 pk7 pa8 pa9 pk11 pk12 pa13 pa14 pa15 pk21 pi25 pi26 pi27 h0 n0) := by
  refine own_body (plainFor_of_name pn_com_example_loopline_loopline_dispatch_Pheromone) ?_
  intro p e s m below meth c s₁ hx hby hml hown hnm hret0 hlk0 hZ X0 e0
  have N0 := Fr.nil n0
  have pre0 : ∀ t, Steps p.tables e below (s₁.setTop (mkF m 0 #[(vr pa1), (vi 0), (vi 1), (vi pi2)] [])) t → Steps p.tables e below (s₁.setTop (entryFrame m #[(.ref pa1), (.int 0), (.int 1), (.int pi2)] 4)) t := fun t k => castTop (ef_au17_6 m pa1 (0 : Int32) (1 : Int32) pi2) k
  have hS0 := hS
  obtain ⟨S_wDEFAULTCAPACITY_EMPTY_ELEMENTDATA, E_wDEFAULTCAPACITY_EMPTY_ELEMENTDATA, V_wDEFAULTCAPACITY_EMPTY_ELEMENTDATA⟩ := hS0
  obtain ⟨T1, X1, e1, st1⟩ := getF X0 hx hZ hown (host := "") (Or.inl (ow hw 54 rfl)) Via.refl e0 P2 (g := (mkF m 1 #[(vr pa1), (vi 0), (vi 1), (vi pi2)] [(.ref pa1)])) rfl rfl (hb hby d17_1)
  obtain ⟨T2, X2, e2, st2⟩ := getF X1 hx hZ hown (host := "") (Or.inl (ow hw 52 rfl)) Via.refl e1 P4 (g := (mkF m 6 #[(vr pa1), (vi 0), (vi 1), (vi pi2)] [(.ref pa1), (.long (pi4.toInt64))])) rfl rfl (hb hby d17_6)
  obtain ⟨cl3, Ar3, qc3, Sz3, Nn3, Ha3, Gg3⟩ := (id P12)
  have hin3 : ¬ ((0 : Int32) < 0 ∨ cl3.slots.size ≤ ((0 : Int32)).toNatClampNeg) := inb_of Sz3 ⟨by decide, by decide⟩
  have hat3 : cl3.slots[((0 : Int32)).toNatClampNeg]? = some (.int 3) := Ha3.at hin3 rfl
  obtain ⟨T4, X4, e4, st4⟩ := getF X2 hx hZ hown (host := "") (Or.inl (ow hw 58 rfl)) Via.refl e2 P1 (g := (mkF m 13 #[(vr pa1), (vi 0), (vi 1), (vi pi2)] [(.ref pa1), (.long 3), (.long (pi4.toInt64))])) rfl rfl (hb hby d17_13)
  obtain ⟨cl5, Ar5, qc5, Sz5, Nn5, Ha5, Gg5⟩ := (id P5)
  have hin5 : ¬ ((0 : Int32) < 0 ∨ cl5.slots.size ≤ ((0 : Int32)).toNatClampNeg) := inb_of Sz5 ⟨by decide, by decide⟩
  have hat5 : cl5.slots[((0 : Int32)).toNatClampNeg]? = some (.ref pa8) := Ha5.at hin5 rfl
  obtain ⟨cl6, Ar6, qc6, Sz6, Nn6, Ha6, Gg6⟩ := (id P14)
  have hin6 : ¬ ((1 : Int32) < 0 ∨ cl6.slots.size ≤ ((1 : Int32)).toNatClampNeg) := inb_of Sz6 ⟨by decide, by decide⟩
  have hat6 : cl6.slots[((1 : Int32)).toNatClampNeg]? = some (.ref pa14) := Ha6.at hin6 rfl
  obtain ⟨cl7, Ar7, qc7, Sz7, Nn7, Ha7, Gg7⟩ := (id P25)
  have hin7 : ¬ (pi2 < 0 ∨ cl7.slots.size ≤ (pi2).toNatClampNeg) := own_inbT P50 Sz7
  have hat7 : cl7.slots[(pi2).toNatClampNeg]? = some (.int (selT pi2 pi25 pi26 pi27)) := Ha7.at hin7 (own_getT P50)
  obtain ⟨fs, hr, hrun, hended, hW, hsame⟩ := X4.leave (v := some (.long ((pi4.toInt64) + ((3 : Int64) * ((selT pi2 pi25 pi26 pi27).toInt64))))) (fun h => by rw [hret0] at h; cases h)
  refine ⟨_, _, pre0 _ ?_, hrun, hended, _, _, rfl, ?_, ⟨_, rfl⟩, hW, hsame.mono (by decide) (by decide)⟩
  · skip
    show Steps p.tables e below (s₁.setTop (mkF m 0 #[(vr pa1), (vi 0), (vi 1), (vi pi2)] [])) _
    refine XS.aloadN X0.here hx rfl (hb hby d17_0) rfl rfl ?_
    refine st1 _ ?_
    refine XS.i2l X1.here hx rfl (hb hby d17_4) rfl ?_
    refine XS.aloadN X1.here hx rfl (hb hby d17_5) rfl rfl ?_
    refine st2 _ ?_
    refine XS.iloadN X2.here hx rfl (hb hby d17_9) rfl ?_
    show Steps p.tables e below (T2.setTop (mkF m 10 #[(vr pa1), (vi 0), (vi 1), (vi pi2)] [(.int 0), (.ref pa6), (.long (pi4.toInt64))])) _
    refine X2.iaload hx (j := (0 : Int32)) (v := (.int 3)) (by rw [e2]; exact Ar3.1) (State.isArrayOf_alike hZ.alike Ar3.2.1) Ar3.2.2 hin3 hat3 (g := (mkF m 10 #[(vr pa1), (vi 0), (vi 1), (vi pi2)] [(.int 0), (.ref pa6), (.long (pi4.toInt64))])) rfl rfl (hb hby d17_10) _ ?_
    refine XS.i2l X2.here hx rfl (hb hby d17_11) rfl ?_
    refine XS.aloadN X2.here hx rfl (hb hby d17_12) rfl rfl ?_
    refine st4 _ ?_
    refine XS.iloadN X4.here hx rfl (hb hby d17_16) rfl ?_
    refine X4.aaload hx (j := (0 : Int32)) (v := (.ref pa8)) (by rw [e4]; exact Ar5.1) (State.isArrayOf_alike hZ.alike Ar5.2.1) rfl Ar5.2.2 hin5 hat5 (g := (mkF m 17 #[(vr pa1), (vi 0), (vi 1), (vi pi2)] [(.int 0), (.ref pa3), (.long 3), (.long (pi4.toInt64))])) rfl rfl (hb hby d17_17) _ ?_
    show Steps p.tables e below (T4.setTop (mkF m 18 #[(vr pa1), (vi 0), (vi 1), (vi pi2)] [(.ref pa8), (.long 3), (.long (pi4.toInt64))])) _
    refine XS.iloadN X4.here hx rfl (hb hby d17_18) rfl ?_
    refine X4.aaload hx (j := (1 : Int32)) (v := (.ref pa14)) (by rw [e4]; exact Ar6.1) (State.isArrayOf_alike hZ.alike Ar6.2.1) rfl Ar6.2.2 hin6 hat6 (g := (mkF m 19 #[(vr pa1), (vi 0), (vi 1), (vi pi2)] [(.int 1), (.ref pa8), (.long 3), (.long (pi4.toInt64))])) rfl rfl (hb hby d17_19) _ ?_
    refine XS.iloadN X4.here hx rfl (hb hby d17_20) rfl ?_
    refine X4.iaload hx (j := pi2) (v := (.int (selT pi2 pi25 pi26 pi27))) (by rw [e4]; exact Ar7.1) (State.isArrayOf_alike hZ.alike Ar7.2.1) Ar7.2.2 hin7 hat7 (g := (mkF m 21 #[(vr pa1), (vi 0), (vi 1), (vi pi2)] [(.int pi2), (.ref pa14), (.long 3), (.long (pi4.toInt64))])) rfl rfl (hb hby d17_21) _ ?_
    refine XS.i2l X4.here hx rfl (hb hby d17_22) rfl ?_
    refine XS.lmul X4.here hx rfl (hb hby d17_23) rfl ?_
    show Steps p.tables e below (T4.setTop (mkF m 24 #[(vr pa1), (vi 0), (vi 1), (vi pi2)] [(.long ((3 : Int64) * ((selT pi2 pi25 pi26 pi27).toInt64))), (.long (pi4.toInt64))])) _
    refine XS.ladd X4.here hx rfl (hb hby d17_24) rfl ?_
    jvm_step X4.here [X4.here.top, hx, (hb hby d17_25), X4.method', hret0, narrow]
    first | (intro acts; rw [hr _ acts rfl rfl rfl]) | rw [hr _ _ rfl rfl rfl]
    exact Steps.refl _
  · show Q_au17_6 Z wDEFAULTCAPACITY_EMPTY_ELEMENTDATA kwDEFAULTCAPACITY_EMPTY_ELEMENTDATA pa1 pi2 pa3 pi4 pa6 pk7 pa8 pa9 pk11 pk12 pa13 pa14 pa15 pk21 pi25 pi26 pi27 h0 n0 _ T4.heap _
    rw [e4]
    exact ⟨rfl, N0, rfl⟩
theorem ef_au17_7 (m : MethodId) (x0 : Addr) (x1 : Int32) (x2 : Int32) (x3 : Int32)  : entryFrame m #[(.ref x0), (.int x1), (.int x2), (.int x3)] 4 = mkF m 0 #[(vr x0), (vi x1), (vi x2), (vi x3)] [] := by first | (simp [entryFrame, mkF, argsToLocals, Value.category]; done) | rfl
def Q_au17_7 (Z : State) (wDEFAULTCAPACITY_EMPTY_ELEMENTDATA : Addr) (kwDEFAULTCAPACITY_EMPTY_ELEMENTDATA : ClassId) (pa1 : Addr) (pi2 : Int32) (pa3 : Addr) (pi4 : Int32) (pa6 : Addr) (pk7 : ClassId) (pa8 : Addr) (pa9 : Addr) (pk11 : ClassId) (pk12 : ClassId) (pa13 : Addr) (pa14 : Addr) (pa15 : Addr) (pk21 : ClassId) (pi28 : Int32) (pi29 : Int32) (pi30 : Int32) (h0 : Heap) (n0 : Nat) (v : Option Value) (h : Heap) (L : List Loc) : Prop := v = some (.long ((pi4.toInt64) + ((3 : Int64) * ((selT pi2 pi28 pi29 pi30).toInt64)))) ∧ Fr n0 L ∧ h = h0
theorem au17_7 (l : Launch) (Z : State) (a0 : Array Value) (hw : ∀ d ∈ tables_1, d.before a0 Z = true) (ws : List Jvm.Cond) (wDEFAULTCAPACITY_EMPTY_ELEMENTDATA : Addr) (kwDEFAULTCAPACITY_EMPTY_ELEMENTDATA : ClassId) (hS : SS Z wDEFAULTCAPACITY_EMPTY_ELEMENTDATA kwDEFAULTCAPACITY_EMPTY_ELEMENTDATA) (pa1 : Addr) (pi2 : Int32) (pa3 : Addr) (pi4 : Int32) (pa6 : Addr) (pk7 : ClassId) (pa8 : Addr) (pa9 : Addr) (pk11 : ClassId) (pk12 : ClassId) (pa13 : Addr) (pa14 : Addr) (pa15 : Addr) (pk21 : ClassId) (pi28 : Int32) (pi29 : Int32) (pi30 : Int32) (h0 : Heap) (n0 : Nat) (O0 : Old Z n0 h0) (P1 : Fld Z h0 pa1 s3n "counts" "[[[I" (.ref pa3)) (P2 : Fld Z h0 pa1 s3n "memory" "I" (.int pi4)) (P4 : Fld Z h0 pa1 s3n "trains" "[I" (.ref pa6)) (P5 : Arv Z h0 pa3 pk7 (.array (.array .int)) (2 : Int32) ([(.ref pa8), (.ref pa9)]) .null) (P12 : Arv Z h0 pa6 pk11 .int (2 : Int32) ([(.int 3), (.int 2)]) (.int 0)) (P14 : Arv Z h0 pa8 pk12 (.array .int) (3 : Int32) ([(.ref pa13), (.ref pa14), (.ref pa15)]) .null) (P27 : Arv Z h0 pa15 pk21 .int (3 : Int32) ([(.int pi28), (.int pi29), (.int pi30)]) (.int 0)) (P50 : inT pi2) :
    MetB l M7 prog_34_method_2_code 4 (some .long) ws (rmk 0 0 0 0) Z h0 #[(.ref pa1), (.int 0), (.int 2), (.int pi2)] (Q_au17_7 Z wDEFAULTCAPACITY_EMPTY_ELEMENTDATA kwDEFAULTCAPACITY_EMPTY_ELEMENTDATA pa1 pi2 pa3 pi4 pa6 pk7 pa8 pa9 pk11 pk12 pa13 pa14 pa15 pk21 pi28 pi29 pi30 h0 n0) := by
  refine own_body (plainFor_of_name pn_com_example_loopline_loopline_dispatch_Pheromone) ?_
  intro p e s m below meth c s₁ hx hby hml hown hnm hret0 hlk0 hZ X0 e0
  have N0 := Fr.nil n0
  have pre0 : ∀ t, Steps p.tables e below (s₁.setTop (mkF m 0 #[(vr pa1), (vi 0), (vi 2), (vi pi2)] [])) t → Steps p.tables e below (s₁.setTop (entryFrame m #[(.ref pa1), (.int 0), (.int 2), (.int pi2)] 4)) t := fun t k => castTop (ef_au17_7 m pa1 (0 : Int32) (2 : Int32) pi2) k
  have hS0 := hS
  obtain ⟨S_wDEFAULTCAPACITY_EMPTY_ELEMENTDATA, E_wDEFAULTCAPACITY_EMPTY_ELEMENTDATA, V_wDEFAULTCAPACITY_EMPTY_ELEMENTDATA⟩ := hS0
  obtain ⟨T1, X1, e1, st1⟩ := getF X0 hx hZ hown (host := "") (Or.inl (ow hw 54 rfl)) Via.refl e0 P2 (g := (mkF m 1 #[(vr pa1), (vi 0), (vi 2), (vi pi2)] [(.ref pa1)])) rfl rfl (hb hby d17_1)
  obtain ⟨T2, X2, e2, st2⟩ := getF X1 hx hZ hown (host := "") (Or.inl (ow hw 52 rfl)) Via.refl e1 P4 (g := (mkF m 6 #[(vr pa1), (vi 0), (vi 2), (vi pi2)] [(.ref pa1), (.long (pi4.toInt64))])) rfl rfl (hb hby d17_6)
  obtain ⟨cl3, Ar3, qc3, Sz3, Nn3, Ha3, Gg3⟩ := (id P12)
  have hin3 : ¬ ((0 : Int32) < 0 ∨ cl3.slots.size ≤ ((0 : Int32)).toNatClampNeg) := inb_of Sz3 ⟨by decide, by decide⟩
  have hat3 : cl3.slots[((0 : Int32)).toNatClampNeg]? = some (.int 3) := Ha3.at hin3 rfl
  obtain ⟨T4, X4, e4, st4⟩ := getF X2 hx hZ hown (host := "") (Or.inl (ow hw 58 rfl)) Via.refl e2 P1 (g := (mkF m 13 #[(vr pa1), (vi 0), (vi 2), (vi pi2)] [(.ref pa1), (.long 3), (.long (pi4.toInt64))])) rfl rfl (hb hby d17_13)
  obtain ⟨cl5, Ar5, qc5, Sz5, Nn5, Ha5, Gg5⟩ := (id P5)
  have hin5 : ¬ ((0 : Int32) < 0 ∨ cl5.slots.size ≤ ((0 : Int32)).toNatClampNeg) := inb_of Sz5 ⟨by decide, by decide⟩
  have hat5 : cl5.slots[((0 : Int32)).toNatClampNeg]? = some (.ref pa8) := Ha5.at hin5 rfl
  obtain ⟨cl6, Ar6, qc6, Sz6, Nn6, Ha6, Gg6⟩ := (id P14)
  have hin6 : ¬ ((2 : Int32) < 0 ∨ cl6.slots.size ≤ ((2 : Int32)).toNatClampNeg) := inb_of Sz6 ⟨by decide, by decide⟩
  have hat6 : cl6.slots[((2 : Int32)).toNatClampNeg]? = some (.ref pa15) := Ha6.at hin6 rfl
  obtain ⟨cl7, Ar7, qc7, Sz7, Nn7, Ha7, Gg7⟩ := (id P27)
  have hin7 : ¬ (pi2 < 0 ∨ cl7.slots.size ≤ (pi2).toNatClampNeg) := own_inbT P50 Sz7
  have hat7 : cl7.slots[(pi2).toNatClampNeg]? = some (.int (selT pi2 pi28 pi29 pi30)) := Ha7.at hin7 (own_getT P50)
  obtain ⟨fs, hr, hrun, hended, hW, hsame⟩ := X4.leave (v := some (.long ((pi4.toInt64) + ((3 : Int64) * ((selT pi2 pi28 pi29 pi30).toInt64))))) (fun h => by rw [hret0] at h; cases h)
  refine ⟨_, _, pre0 _ ?_, hrun, hended, _, _, rfl, ?_, ⟨_, rfl⟩, hW, hsame.mono (by decide) (by decide)⟩
  · skip
    show Steps p.tables e below (s₁.setTop (mkF m 0 #[(vr pa1), (vi 0), (vi 2), (vi pi2)] [])) _
    refine XS.aloadN X0.here hx rfl (hb hby d17_0) rfl rfl ?_
    refine st1 _ ?_
    refine XS.i2l X1.here hx rfl (hb hby d17_4) rfl ?_
    refine XS.aloadN X1.here hx rfl (hb hby d17_5) rfl rfl ?_
    refine st2 _ ?_
    refine XS.iloadN X2.here hx rfl (hb hby d17_9) rfl ?_
    show Steps p.tables e below (T2.setTop (mkF m 10 #[(vr pa1), (vi 0), (vi 2), (vi pi2)] [(.int 0), (.ref pa6), (.long (pi4.toInt64))])) _
    refine X2.iaload hx (j := (0 : Int32)) (v := (.int 3)) (by rw [e2]; exact Ar3.1) (State.isArrayOf_alike hZ.alike Ar3.2.1) Ar3.2.2 hin3 hat3 (g := (mkF m 10 #[(vr pa1), (vi 0), (vi 2), (vi pi2)] [(.int 0), (.ref pa6), (.long (pi4.toInt64))])) rfl rfl (hb hby d17_10) _ ?_
    refine XS.i2l X2.here hx rfl (hb hby d17_11) rfl ?_
    refine XS.aloadN X2.here hx rfl (hb hby d17_12) rfl rfl ?_
    refine st4 _ ?_
    refine XS.iloadN X4.here hx rfl (hb hby d17_16) rfl ?_
    refine X4.aaload hx (j := (0 : Int32)) (v := (.ref pa8)) (by rw [e4]; exact Ar5.1) (State.isArrayOf_alike hZ.alike Ar5.2.1) rfl Ar5.2.2 hin5 hat5 (g := (mkF m 17 #[(vr pa1), (vi 0), (vi 2), (vi pi2)] [(.int 0), (.ref pa3), (.long 3), (.long (pi4.toInt64))])) rfl rfl (hb hby d17_17) _ ?_
    show Steps p.tables e below (T4.setTop (mkF m 18 #[(vr pa1), (vi 0), (vi 2), (vi pi2)] [(.ref pa8), (.long 3), (.long (pi4.toInt64))])) _
    refine XS.iloadN X4.here hx rfl (hb hby d17_18) rfl ?_
    refine X4.aaload hx (j := (2 : Int32)) (v := (.ref pa15)) (by rw [e4]; exact Ar6.1) (State.isArrayOf_alike hZ.alike Ar6.2.1) rfl Ar6.2.2 hin6 hat6 (g := (mkF m 19 #[(vr pa1), (vi 0), (vi 2), (vi pi2)] [(.int 2), (.ref pa8), (.long 3), (.long (pi4.toInt64))])) rfl rfl (hb hby d17_19) _ ?_
    refine XS.iloadN X4.here hx rfl (hb hby d17_20) rfl ?_
    refine X4.iaload hx (j := pi2) (v := (.int (selT pi2 pi28 pi29 pi30))) (by rw [e4]; exact Ar7.1) (State.isArrayOf_alike hZ.alike Ar7.2.1) Ar7.2.2 hin7 hat7 (g := (mkF m 21 #[(vr pa1), (vi 0), (vi 2), (vi pi2)] [(.int pi2), (.ref pa15), (.long 3), (.long (pi4.toInt64))])) rfl rfl (hb hby d17_21) _ ?_
    refine XS.i2l X4.here hx rfl (hb hby d17_22) rfl ?_
    refine XS.lmul X4.here hx rfl (hb hby d17_23) rfl ?_
    show Steps p.tables e below (T4.setTop (mkF m 24 #[(vr pa1), (vi 0), (vi 2), (vi pi2)] [(.long ((3 : Int64) * ((selT pi2 pi28 pi29 pi30).toInt64))), (.long (pi4.toInt64))])) _
    refine XS.ladd X4.here hx rfl (hb hby d17_24) rfl ?_
    jvm_step X4.here [X4.here.top, hx, (hb hby d17_25), X4.method', hret0, narrow]
    first | (intro acts; rw [hr _ acts rfl rfl rfl]) | rw [hr _ _ rfl rfl rfl]
    exact Steps.refl _
  · show Q_au17_7 Z wDEFAULTCAPACITY_EMPTY_ELEMENTDATA kwDEFAULTCAPACITY_EMPTY_ELEMENTDATA pa1 pi2 pa3 pi4 pa6 pk7 pa8 pa9 pk11 pk12 pa13 pa14 pa15 pk21 pi28 pi29 pi30 h0 n0 _ T4.heap _
    rw [e4]
    exact ⟨rfl, N0, rfl⟩
theorem ef_au17_8 (m : MethodId) (x0 : Addr) (x1 : Int32) (x2 : Int32) (x3 : Int32)  : entryFrame m #[(.ref x0), (.int x1), (.int x2), (.int x3)] 4 = mkF m 0 #[(vr x0), (vi x1), (vi x2), (vi x3)] [] := by first | (simp [entryFrame, mkF, argsToLocals, Value.category]; done) | rfl
def Q_au17_8 (Z : State) (wDEFAULTCAPACITY_EMPTY_ELEMENTDATA : Addr) (kwDEFAULTCAPACITY_EMPTY_ELEMENTDATA : ClassId) (pa1 : Addr) (pi2 : Int32) (pa3 : Addr) (pi4 : Int32) (pa6 : Addr) (pk7 : ClassId) (pa8 : Addr) (pa9 : Addr) (pk11 : ClassId) (pk16 : ClassId) (pa17 : Addr) (pa18 : Addr) (pk31 : ClassId) (pi32 : Int32) (pi33 : Int32) (h0 : Heap) (n0 : Nat) (v : Option Value) (h : Heap) (L : List Loc) : Prop := v = some (.long ((pi4.toInt64) + ((2 : Int64) * ((selB pi2 pi32 pi33).toInt64)))) ∧ Fr n0 L ∧ h = h0
theorem au17_8 (l : Launch) (Z : State) (a0 : Array Value) (hw : ∀ d ∈ tables_1, d.before a0 Z = true) (ws : List Jvm.Cond) (wDEFAULTCAPACITY_EMPTY_ELEMENTDATA : Addr) (kwDEFAULTCAPACITY_EMPTY_ELEMENTDATA : ClassId) (hS : SS Z wDEFAULTCAPACITY_EMPTY_ELEMENTDATA kwDEFAULTCAPACITY_EMPTY_ELEMENTDATA) (pa1 : Addr) (pi2 : Int32) (pa3 : Addr) (pi4 : Int32) (pa6 : Addr) (pk7 : ClassId) (pa8 : Addr) (pa9 : Addr) (pk11 : ClassId) (pk16 : ClassId) (pa17 : Addr) (pa18 : Addr) (pk31 : ClassId) (pi32 : Int32) (pi33 : Int32) (h0 : Heap) (n0 : Nat) (O0 : Old Z n0 h0) (P1 : Fld Z h0 pa1 s3n "counts" "[[[I" (.ref pa3)) (P2 : Fld Z h0 pa1 s3n "memory" "I" (.int pi4)) (P4 : Fld Z h0 pa1 s3n "trains" "[I" (.ref pa6)) (P5 : Arv Z h0 pa3 pk7 (.array (.array .int)) (2 : Int32) ([(.ref pa8), (.ref pa9)]) .null) (P12 : Arv Z h0 pa6 pk11 .int (2 : Int32) ([(.int 3), (.int 2)]) (.int 0)) (P17 : Arv Z h0 pa9 pk16 (.array .int) (2 : Int32) ([(.ref pa17), (.ref pa18)]) .null) (P29 : Arv Z h0 pa17 pk31 .int (2 : Int32) ([(.int pi32), (.int pi33)]) (.int 0)) (P50 : inB pi2) :
    MetB l M7 prog_34_method_2_code 4 (some .long) ws (rmk 0 0 0 0) Z h0 #[(.ref pa1), (.int 1), (.int 0), (.int pi2)] (Q_au17_8 Z wDEFAULTCAPACITY_EMPTY_ELEMENTDATA kwDEFAULTCAPACITY_EMPTY_ELEMENTDATA pa1 pi2 pa3 pi4 pa6 pk7 pa8 pa9 pk11 pk16 pa17 pa18 pk31 pi32 pi33 h0 n0) := by
  refine own_body (plainFor_of_name pn_com_example_loopline_loopline_dispatch_Pheromone) ?_
  intro p e s m below meth c s₁ hx hby hml hown hnm hret0 hlk0 hZ X0 e0
  have N0 := Fr.nil n0
  have pre0 : ∀ t, Steps p.tables e below (s₁.setTop (mkF m 0 #[(vr pa1), (vi 1), (vi 0), (vi pi2)] [])) t → Steps p.tables e below (s₁.setTop (entryFrame m #[(.ref pa1), (.int 1), (.int 0), (.int pi2)] 4)) t := fun t k => castTop (ef_au17_8 m pa1 (1 : Int32) (0 : Int32) pi2) k
  have hS0 := hS
  obtain ⟨S_wDEFAULTCAPACITY_EMPTY_ELEMENTDATA, E_wDEFAULTCAPACITY_EMPTY_ELEMENTDATA, V_wDEFAULTCAPACITY_EMPTY_ELEMENTDATA⟩ := hS0
  obtain ⟨T1, X1, e1, st1⟩ := getF X0 hx hZ hown (host := "") (Or.inl (ow hw 54 rfl)) Via.refl e0 P2 (g := (mkF m 1 #[(vr pa1), (vi 1), (vi 0), (vi pi2)] [(.ref pa1)])) rfl rfl (hb hby d17_1)
  obtain ⟨T2, X2, e2, st2⟩ := getF X1 hx hZ hown (host := "") (Or.inl (ow hw 52 rfl)) Via.refl e1 P4 (g := (mkF m 6 #[(vr pa1), (vi 1), (vi 0), (vi pi2)] [(.ref pa1), (.long (pi4.toInt64))])) rfl rfl (hb hby d17_6)
  obtain ⟨cl3, Ar3, qc3, Sz3, Nn3, Ha3, Gg3⟩ := (id P12)
  have hin3 : ¬ ((1 : Int32) < 0 ∨ cl3.slots.size ≤ ((1 : Int32)).toNatClampNeg) := inb_of Sz3 ⟨by decide, by decide⟩
  have hat3 : cl3.slots[((1 : Int32)).toNatClampNeg]? = some (.int 2) := Ha3.at hin3 rfl
  obtain ⟨T4, X4, e4, st4⟩ := getF X2 hx hZ hown (host := "") (Or.inl (ow hw 58 rfl)) Via.refl e2 P1 (g := (mkF m 13 #[(vr pa1), (vi 1), (vi 0), (vi pi2)] [(.ref pa1), (.long 2), (.long (pi4.toInt64))])) rfl rfl (hb hby d17_13)
  obtain ⟨cl5, Ar5, qc5, Sz5, Nn5, Ha5, Gg5⟩ := (id P5)
  have hin5 : ¬ ((1 : Int32) < 0 ∨ cl5.slots.size ≤ ((1 : Int32)).toNatClampNeg) := inb_of Sz5 ⟨by decide, by decide⟩
  have hat5 : cl5.slots[((1 : Int32)).toNatClampNeg]? = some (.ref pa9) := Ha5.at hin5 rfl
  obtain ⟨cl6, Ar6, qc6, Sz6, Nn6, Ha6, Gg6⟩ := (id P17)
  have hin6 : ¬ ((0 : Int32) < 0 ∨ cl6.slots.size ≤ ((0 : Int32)).toNatClampNeg) := inb_of Sz6 ⟨by decide, by decide⟩
  have hat6 : cl6.slots[((0 : Int32)).toNatClampNeg]? = some (.ref pa17) := Ha6.at hin6 rfl
  obtain ⟨cl7, Ar7, qc7, Sz7, Nn7, Ha7, Gg7⟩ := (id P29)
  have hin7 : ¬ (pi2 < 0 ∨ cl7.slots.size ≤ (pi2).toNatClampNeg) := own_inbB P50 Sz7
  have hat7 : cl7.slots[(pi2).toNatClampNeg]? = some (.int (selB pi2 pi32 pi33)) := Ha7.at hin7 (own_getB P50)
  obtain ⟨fs, hr, hrun, hended, hW, hsame⟩ := X4.leave (v := some (.long ((pi4.toInt64) + ((2 : Int64) * ((selB pi2 pi32 pi33).toInt64))))) (fun h => by rw [hret0] at h; cases h)
  refine ⟨_, _, pre0 _ ?_, hrun, hended, _, _, rfl, ?_, ⟨_, rfl⟩, hW, hsame.mono (by decide) (by decide)⟩
  · skip
    show Steps p.tables e below (s₁.setTop (mkF m 0 #[(vr pa1), (vi 1), (vi 0), (vi pi2)] [])) _
    refine XS.aloadN X0.here hx rfl (hb hby d17_0) rfl rfl ?_
    refine st1 _ ?_
    refine XS.i2l X1.here hx rfl (hb hby d17_4) rfl ?_
    refine XS.aloadN X1.here hx rfl (hb hby d17_5) rfl rfl ?_
    refine st2 _ ?_
    refine XS.iloadN X2.here hx rfl (hb hby d17_9) rfl ?_
    show Steps p.tables e below (T2.setTop (mkF m 10 #[(vr pa1), (vi 1), (vi 0), (vi pi2)] [(.int 1), (.ref pa6), (.long (pi4.toInt64))])) _
    refine X2.iaload hx (j := (1 : Int32)) (v := (.int 2)) (by rw [e2]; exact Ar3.1) (State.isArrayOf_alike hZ.alike Ar3.2.1) Ar3.2.2 hin3 hat3 (g := (mkF m 10 #[(vr pa1), (vi 1), (vi 0), (vi pi2)] [(.int 1), (.ref pa6), (.long (pi4.toInt64))])) rfl rfl (hb hby d17_10) _ ?_
    refine XS.i2l X2.here hx rfl (hb hby d17_11) rfl ?_
    refine XS.aloadN X2.here hx rfl (hb hby d17_12) rfl rfl ?_
    refine st4 _ ?_
    refine XS.iloadN X4.here hx rfl (hb hby d17_16) rfl ?_
    refine X4.aaload hx (j := (1 : Int32)) (v := (.ref pa9)) (by rw [e4]; exact Ar5.1) (State.isArrayOf_alike hZ.alike Ar5.2.1) rfl Ar5.2.2 hin5 hat5 (g := (mkF m 17 #[(vr pa1), (vi 1), (vi 0), (vi pi2)] [(.int 1), (.ref pa3), (.long 2), (.long (pi4.toInt64))])) rfl rfl (hb hby d17_17) _ ?_
    show Steps p.tables e below (T4.setTop (mkF m 18 #[(vr pa1), (vi 1), (vi 0), (vi pi2)] [(.ref pa9), (.long 2), (.long (pi4.toInt64))])) _
    refine XS.iloadN X4.here hx rfl (hb hby d17_18) rfl ?_
    refine X4.aaload hx (j := (0 : Int32)) (v := (.ref pa17)) (by rw [e4]; exact Ar6.1) (State.isArrayOf_alike hZ.alike Ar6.2.1) rfl Ar6.2.2 hin6 hat6 (g := (mkF m 19 #[(vr pa1), (vi 1), (vi 0), (vi pi2)] [(.int 0), (.ref pa9), (.long 2), (.long (pi4.toInt64))])) rfl rfl (hb hby d17_19) _ ?_
    refine XS.iloadN X4.here hx rfl (hb hby d17_20) rfl ?_
    refine X4.iaload hx (j := pi2) (v := (.int (selB pi2 pi32 pi33))) (by rw [e4]; exact Ar7.1) (State.isArrayOf_alike hZ.alike Ar7.2.1) Ar7.2.2 hin7 hat7 (g := (mkF m 21 #[(vr pa1), (vi 1), (vi 0), (vi pi2)] [(.int pi2), (.ref pa17), (.long 2), (.long (pi4.toInt64))])) rfl rfl (hb hby d17_21) _ ?_
    refine XS.i2l X4.here hx rfl (hb hby d17_22) rfl ?_
    refine XS.lmul X4.here hx rfl (hb hby d17_23) rfl ?_
    show Steps p.tables e below (T4.setTop (mkF m 24 #[(vr pa1), (vi 1), (vi 0), (vi pi2)] [(.long ((2 : Int64) * ((selB pi2 pi32 pi33).toInt64))), (.long (pi4.toInt64))])) _
    refine XS.ladd X4.here hx rfl (hb hby d17_24) rfl ?_
    jvm_step X4.here [X4.here.top, hx, (hb hby d17_25), X4.method', hret0, narrow]
    first | (intro acts; rw [hr _ acts rfl rfl rfl]) | rw [hr _ _ rfl rfl rfl]
    exact Steps.refl _
  · show Q_au17_8 Z wDEFAULTCAPACITY_EMPTY_ELEMENTDATA kwDEFAULTCAPACITY_EMPTY_ELEMENTDATA pa1 pi2 pa3 pi4 pa6 pk7 pa8 pa9 pk11 pk16 pa17 pa18 pk31 pi32 pi33 h0 n0 _ T4.heap _
    rw [e4]
    exact ⟨rfl, N0, rfl⟩
theorem ef_au17_9 (m : MethodId) (x0 : Addr) (x1 : Int32) (x2 : Int32) (x3 : Int32)  : entryFrame m #[(.ref x0), (.int x1), (.int x2), (.int x3)] 4 = mkF m 0 #[(vr x0), (vi x1), (vi x2), (vi x3)] [] := by first | (simp [entryFrame, mkF, argsToLocals, Value.category]; done) | rfl
def Q_au17_9 (Z : State) (wDEFAULTCAPACITY_EMPTY_ELEMENTDATA : Addr) (kwDEFAULTCAPACITY_EMPTY_ELEMENTDATA : ClassId) (pa1 : Addr) (pi2 : Int32) (pa3 : Addr) (pi4 : Int32) (pa6 : Addr) (pk7 : ClassId) (pa8 : Addr) (pa9 : Addr) (pk11 : ClassId) (pk16 : ClassId) (pa17 : Addr) (pa18 : Addr) (pk31 : ClassId) (pi34 : Int32) (pi35 : Int32) (h0 : Heap) (n0 : Nat) (v : Option Value) (h : Heap) (L : List Loc) : Prop := v = some (.long ((pi4.toInt64) + ((2 : Int64) * ((selB pi2 pi34 pi35).toInt64)))) ∧ Fr n0 L ∧ h = h0
theorem au17_9 (l : Launch) (Z : State) (a0 : Array Value) (hw : ∀ d ∈ tables_1, d.before a0 Z = true) (ws : List Jvm.Cond) (wDEFAULTCAPACITY_EMPTY_ELEMENTDATA : Addr) (kwDEFAULTCAPACITY_EMPTY_ELEMENTDATA : ClassId) (hS : SS Z wDEFAULTCAPACITY_EMPTY_ELEMENTDATA kwDEFAULTCAPACITY_EMPTY_ELEMENTDATA) (pa1 : Addr) (pi2 : Int32) (pa3 : Addr) (pi4 : Int32) (pa6 : Addr) (pk7 : ClassId) (pa8 : Addr) (pa9 : Addr) (pk11 : ClassId) (pk16 : ClassId) (pa17 : Addr) (pa18 : Addr) (pk31 : ClassId) (pi34 : Int32) (pi35 : Int32) (h0 : Heap) (n0 : Nat) (O0 : Old Z n0 h0) (P1 : Fld Z h0 pa1 s3n "counts" "[[[I" (.ref pa3)) (P2 : Fld Z h0 pa1 s3n "memory" "I" (.int pi4)) (P4 : Fld Z h0 pa1 s3n "trains" "[I" (.ref pa6)) (P5 : Arv Z h0 pa3 pk7 (.array (.array .int)) (2 : Int32) ([(.ref pa8), (.ref pa9)]) .null) (P12 : Arv Z h0 pa6 pk11 .int (2 : Int32) ([(.int 3), (.int 2)]) (.int 0)) (P17 : Arv Z h0 pa9 pk16 (.array .int) (2 : Int32) ([(.ref pa17), (.ref pa18)]) .null) (P31 : Arv Z h0 pa18 pk31 .int (2 : Int32) ([(.int pi34), (.int pi35)]) (.int 0)) (P50 : inB pi2) :
    MetB l M7 prog_34_method_2_code 4 (some .long) ws (rmk 0 0 0 0) Z h0 #[(.ref pa1), (.int 1), (.int 1), (.int pi2)] (Q_au17_9 Z wDEFAULTCAPACITY_EMPTY_ELEMENTDATA kwDEFAULTCAPACITY_EMPTY_ELEMENTDATA pa1 pi2 pa3 pi4 pa6 pk7 pa8 pa9 pk11 pk16 pa17 pa18 pk31 pi34 pi35 h0 n0) := by
  refine own_body (plainFor_of_name pn_com_example_loopline_loopline_dispatch_Pheromone) ?_
  intro p e s m below meth c s₁ hx hby hml hown hnm hret0 hlk0 hZ X0 e0
  have N0 := Fr.nil n0
  have pre0 : ∀ t, Steps p.tables e below (s₁.setTop (mkF m 0 #[(vr pa1), (vi 1), (vi 1), (vi pi2)] [])) t → Steps p.tables e below (s₁.setTop (entryFrame m #[(.ref pa1), (.int 1), (.int 1), (.int pi2)] 4)) t := fun t k => castTop (ef_au17_9 m pa1 (1 : Int32) (1 : Int32) pi2) k
  have hS0 := hS
  obtain ⟨S_wDEFAULTCAPACITY_EMPTY_ELEMENTDATA, E_wDEFAULTCAPACITY_EMPTY_ELEMENTDATA, V_wDEFAULTCAPACITY_EMPTY_ELEMENTDATA⟩ := hS0
  obtain ⟨T1, X1, e1, st1⟩ := getF X0 hx hZ hown (host := "") (Or.inl (ow hw 54 rfl)) Via.refl e0 P2 (g := (mkF m 1 #[(vr pa1), (vi 1), (vi 1), (vi pi2)] [(.ref pa1)])) rfl rfl (hb hby d17_1)
  obtain ⟨T2, X2, e2, st2⟩ := getF X1 hx hZ hown (host := "") (Or.inl (ow hw 52 rfl)) Via.refl e1 P4 (g := (mkF m 6 #[(vr pa1), (vi 1), (vi 1), (vi pi2)] [(.ref pa1), (.long (pi4.toInt64))])) rfl rfl (hb hby d17_6)
  obtain ⟨cl3, Ar3, qc3, Sz3, Nn3, Ha3, Gg3⟩ := (id P12)
  have hin3 : ¬ ((1 : Int32) < 0 ∨ cl3.slots.size ≤ ((1 : Int32)).toNatClampNeg) := inb_of Sz3 ⟨by decide, by decide⟩
  have hat3 : cl3.slots[((1 : Int32)).toNatClampNeg]? = some (.int 2) := Ha3.at hin3 rfl
  obtain ⟨T4, X4, e4, st4⟩ := getF X2 hx hZ hown (host := "") (Or.inl (ow hw 58 rfl)) Via.refl e2 P1 (g := (mkF m 13 #[(vr pa1), (vi 1), (vi 1), (vi pi2)] [(.ref pa1), (.long 2), (.long (pi4.toInt64))])) rfl rfl (hb hby d17_13)
  obtain ⟨cl5, Ar5, qc5, Sz5, Nn5, Ha5, Gg5⟩ := (id P5)
  have hin5 : ¬ ((1 : Int32) < 0 ∨ cl5.slots.size ≤ ((1 : Int32)).toNatClampNeg) := inb_of Sz5 ⟨by decide, by decide⟩
  have hat5 : cl5.slots[((1 : Int32)).toNatClampNeg]? = some (.ref pa9) := Ha5.at hin5 rfl
  obtain ⟨cl6, Ar6, qc6, Sz6, Nn6, Ha6, Gg6⟩ := (id P17)
  have hin6 : ¬ ((1 : Int32) < 0 ∨ cl6.slots.size ≤ ((1 : Int32)).toNatClampNeg) := inb_of Sz6 ⟨by decide, by decide⟩
  have hat6 : cl6.slots[((1 : Int32)).toNatClampNeg]? = some (.ref pa18) := Ha6.at hin6 rfl
  obtain ⟨cl7, Ar7, qc7, Sz7, Nn7, Ha7, Gg7⟩ := (id P31)
  have hin7 : ¬ (pi2 < 0 ∨ cl7.slots.size ≤ (pi2).toNatClampNeg) := own_inbB P50 Sz7
  have hat7 : cl7.slots[(pi2).toNatClampNeg]? = some (.int (selB pi2 pi34 pi35)) := Ha7.at hin7 (own_getB P50)
  obtain ⟨fs, hr, hrun, hended, hW, hsame⟩ := X4.leave (v := some (.long ((pi4.toInt64) + ((2 : Int64) * ((selB pi2 pi34 pi35).toInt64))))) (fun h => by rw [hret0] at h; cases h)
  refine ⟨_, _, pre0 _ ?_, hrun, hended, _, _, rfl, ?_, ⟨_, rfl⟩, hW, hsame.mono (by decide) (by decide)⟩
  · skip
    show Steps p.tables e below (s₁.setTop (mkF m 0 #[(vr pa1), (vi 1), (vi 1), (vi pi2)] [])) _
    refine XS.aloadN X0.here hx rfl (hb hby d17_0) rfl rfl ?_
    refine st1 _ ?_
    refine XS.i2l X1.here hx rfl (hb hby d17_4) rfl ?_
    refine XS.aloadN X1.here hx rfl (hb hby d17_5) rfl rfl ?_
    refine st2 _ ?_
    refine XS.iloadN X2.here hx rfl (hb hby d17_9) rfl ?_
    show Steps p.tables e below (T2.setTop (mkF m 10 #[(vr pa1), (vi 1), (vi 1), (vi pi2)] [(.int 1), (.ref pa6), (.long (pi4.toInt64))])) _
    refine X2.iaload hx (j := (1 : Int32)) (v := (.int 2)) (by rw [e2]; exact Ar3.1) (State.isArrayOf_alike hZ.alike Ar3.2.1) Ar3.2.2 hin3 hat3 (g := (mkF m 10 #[(vr pa1), (vi 1), (vi 1), (vi pi2)] [(.int 1), (.ref pa6), (.long (pi4.toInt64))])) rfl rfl (hb hby d17_10) _ ?_
    refine XS.i2l X2.here hx rfl (hb hby d17_11) rfl ?_
    refine XS.aloadN X2.here hx rfl (hb hby d17_12) rfl rfl ?_
    refine st4 _ ?_
    refine XS.iloadN X4.here hx rfl (hb hby d17_16) rfl ?_
    refine X4.aaload hx (j := (1 : Int32)) (v := (.ref pa9)) (by rw [e4]; exact Ar5.1) (State.isArrayOf_alike hZ.alike Ar5.2.1) rfl Ar5.2.2 hin5 hat5 (g := (mkF m 17 #[(vr pa1), (vi 1), (vi 1), (vi pi2)] [(.int 1), (.ref pa3), (.long 2), (.long (pi4.toInt64))])) rfl rfl (hb hby d17_17) _ ?_
    show Steps p.tables e below (T4.setTop (mkF m 18 #[(vr pa1), (vi 1), (vi 1), (vi pi2)] [(.ref pa9), (.long 2), (.long (pi4.toInt64))])) _
    refine XS.iloadN X4.here hx rfl (hb hby d17_18) rfl ?_
    refine X4.aaload hx (j := (1 : Int32)) (v := (.ref pa18)) (by rw [e4]; exact Ar6.1) (State.isArrayOf_alike hZ.alike Ar6.2.1) rfl Ar6.2.2 hin6 hat6 (g := (mkF m 19 #[(vr pa1), (vi 1), (vi 1), (vi pi2)] [(.int 1), (.ref pa9), (.long 2), (.long (pi4.toInt64))])) rfl rfl (hb hby d17_19) _ ?_
    refine XS.iloadN X4.here hx rfl (hb hby d17_20) rfl ?_
    refine X4.iaload hx (j := pi2) (v := (.int (selB pi2 pi34 pi35))) (by rw [e4]; exact Ar7.1) (State.isArrayOf_alike hZ.alike Ar7.2.1) Ar7.2.2 hin7 hat7 (g := (mkF m 21 #[(vr pa1), (vi 1), (vi 1), (vi pi2)] [(.int pi2), (.ref pa18), (.long 2), (.long (pi4.toInt64))])) rfl rfl (hb hby d17_21) _ ?_
    refine XS.i2l X4.here hx rfl (hb hby d17_22) rfl ?_
    refine XS.lmul X4.here hx rfl (hb hby d17_23) rfl ?_
    show Steps p.tables e below (T4.setTop (mkF m 24 #[(vr pa1), (vi 1), (vi 1), (vi pi2)] [(.long ((2 : Int64) * ((selB pi2 pi34 pi35).toInt64))), (.long (pi4.toInt64))])) _
    refine XS.ladd X4.here hx rfl (hb hby d17_24) rfl ?_
    jvm_step X4.here [X4.here.top, hx, (hb hby d17_25), X4.method', hret0, narrow]
    first | (intro acts; rw [hr _ acts rfl rfl rfl]) | rw [hr _ _ rfl rfl rfl]
    exact Steps.refl _
  · show Q_au17_9 Z wDEFAULTCAPACITY_EMPTY_ELEMENTDATA kwDEFAULTCAPACITY_EMPTY_ELEMENTDATA pa1 pi2 pa3 pi4 pa6 pk7 pa8 pa9 pk11 pk16 pa17 pa18 pk31 pi34 pi35 h0 n0 _ T4.heap _
    rw [e4]
    exact ⟨rfl, N0, rfl⟩
theorem ef_au9_1 (m : MethodId) (x0 : Addr) (x1 : Addr)  : entryFrame m #[(.ref x0), (.ref x1)] 4 = mkF m 0 #[(vr x0), (vr x1), .unset, .unset] [] := by first | (simp [entryFrame, mkF, argsToLocals, Value.category]; done) | rfl
theorem ef_au10_1 (m : MethodId) (x0 : Addr) (x1 : Addr)  : entryFrame m #[(.ref x0), (.ref x1)] 2 = mkF m 0 #[(vr x0), (vr x1)] [] := by first | (simp [entryFrame, mkF, argsToLocals, Value.category]; done) | rfl
theorem ef_au11_1 (m : MethodId) (x0 : Addr) (x1 : Addr) (x2 : Addr) (x3 : Int32)  : entryFrame m #[(.ref x0), (.ref x1), (.ref x2), (.int x3)] 4 = mkF m 0 #[(vr x0), (vr x1), (vr x2), (vi x3)] [] := by first | (simp [entryFrame, mkF, argsToLocals, Value.category]; done) | rfl
def Q_au11_1 (Z : State) (wDEFAULTCAPACITY_EMPTY_ELEMENTDATA : Addr) (kwDEFAULTCAPACITY_EMPTY_ELEMENTDATA : ClassId) (pa1 : Addr) (pa2 : Addr) (pa3 : Addr) (pk5 : ClassId) (pa6 : Addr) (h0 : Heap) (n0 : Nat) (v : Option Value) (h : Heap) (L : List Loc) : Prop := v = none ∧ Fr n0 L ∧ Keep h0 h [pa3, pa1] ∧ Exa Z h pa3 s1n ∧ Arv Z h pa3 pk5 (.object s2n) (10 : Int32) ([(.ref pa6), (.ref pa2), .null, .null, .null, .null, .null, .null, .null, .null]) .null ∧ Ovr Z pk5 s2n ∧ Exa Z h pa1 s0n ∧ Fld Z h pa1 s4n "modCount" "I" (.int 2) ∧ Fld Z h pa1 s0n "elementData" s1n (.ref pa3) ∧ Fld Z h pa1 s0n "size" "I" (.int 2)
theorem au11_1 (l : Launch) (Z : State) (a0 : Array Value) (hw : ∀ d ∈ tables_1, d.before a0 Z = true) (ws : List Jvm.Cond) (wDEFAULTCAPACITY_EMPTY_ELEMENTDATA : Addr) (kwDEFAULTCAPACITY_EMPTY_ELEMENTDATA : ClassId) (hS : SS Z wDEFAULTCAPACITY_EMPTY_ELEMENTDATA kwDEFAULTCAPACITY_EMPTY_ELEMENTDATA) (pa1 : Addr) (pa2 : Addr) (pa3 : Addr) (pk5 : ClassId) (pa6 : Addr) (h0 : Heap) (n0 : Nat) (O0 : Old Z n0 h0) (P0 : Exa Z h0 pa1 s0n) (P1 : Fld Z h0 pa1 s4n "modCount" "I" (.int 2)) (P2 : Fld Z h0 pa1 s0n "elementData" s1n (.ref pa3)) (P3 : Fld Z h0 pa1 s0n "size" "I" (.int 1)) (P4 : Exa Z h0 pa2 s7n) (P7 : Arv Z h0 pa3 pk5 (.object s2n) (10 : Int32) ([(.ref pa6), .null, .null, .null, .null, .null, .null, .null, .null, .null]) .null) (P8 : Ovr Z pk5 s2n) (P9 : Exa Z h0 pa3 s1n) (P37 : n0 ≤ pa1) (P39 : n0 ≤ pa3) (P44 : pa1 ≠ pa3) :
    MetB l M10 jdk_38_method_24_code 4 none ws (rmk 0 0 0 0) Z h0 #[(.ref pa1), (.ref pa2), (.ref pa3), (.int 1)] (Q_au11_1 Z wDEFAULTCAPACITY_EMPTY_ELEMENTDATA kwDEFAULTCAPACITY_EMPTY_ELEMENTDATA pa1 pa2 pa3 pk5 pa6 h0 n0) := by
  refine own_body (plainFor_of_name pn_java_util_ArrayList) ?_
  intro p e s m below meth c s₁ hx hby hml hown hnm hret0 hlk0 hZ X0 e0
  have N0 := Fr.nil n0
  have pre0 : ∀ t, Steps p.tables e below (s₁.setTop (mkF m 0 #[(vr pa1), (vr pa2), (vr pa3), (vi 1)] [])) t → Steps p.tables e below (s₁.setTop (entryFrame m #[(.ref pa1), (.ref pa2), (.ref pa3), (.int 1)] 4)) t := fun t k => castTop (ef_au11_1 m pa1 pa2 pa3 (1 : Int32)) k
  have K0 := Keep.refl h0 [pa3, pa1]
  have hS0 := hS
  obtain ⟨S_wDEFAULTCAPACITY_EMPTY_ELEMENTDATA, E_wDEFAULTCAPACITY_EMPTY_ELEMENTDATA, V_wDEFAULTCAPACITY_EMPTY_ELEMENTDATA⟩ := hS0
  obtain ⟨cl1, Ar1, -, Sz1, Nn1, -, -⟩ := (id P7)
  obtain ⟨cl2, Ar2, qc2, Sz2, Nn2, Ha2, Gg2⟩ := (id P7)
  have hin2 : ¬ ((1 : Int32) < 0 ∨ cl2.slots.size ≤ ((1 : Int32)).toNatClampNeg) := inb_of Sz2 ⟨by decide, by decide⟩
  obtain ⟨T2, h2, X2, e2, W2, st2⟩ := stR X0 hx hZ e0 Ar2 (j := (1 : Int32)) hin2 rfl (Sto.ofV Ar2 qc2 P8 (Ins.of_exa P4 (ow hw 113 rfl))) (g := (mkF m 14 #[(vr pa1), (vr pa2), (vr pa3), (vi 1)] [(.ref pa2), (.int 1), (.ref pa3)])) rfl rfl (hb hby d11_14)
  have O3 : Old Z n0 h2 := O0.wr W2 P39
  have K3 : Keep h0 h2 [pa3, pa1] := K0.wr W2 (Or.inl (List.mem_of_getElem? (i := 0) rfl))
  have V2 : Arv Z h2 pa3 pk5 (.object s2n) (10 : Int32) ([(.ref pa6), (.ref pa2), .null, .null, .null, .null, .null, .null, .null, .null]) .null := Arv.set Ar2 qc2 Sz2 Nn2 Ha2 Gg2 (v := (.ref pa2)) rfl W2 1 rfl (Nat.le_of_ble_eq_true rfl)
  have N2 := Fr.snoc X2 N0 P39
  have f4 : Exa Z h2 pa1 s0n := (P0.wr W2)
  have f5 : Fld Z h2 pa1 s0n "size" "I" (.int 1) := (P3.other W2 (Or.inl P44))
  obtain ⟨T6, h6, X6, e6, W6, st6⟩ := putF X2 hx hZ hown (host := "") (Or.inl (ow hw 93 rfl)) Via.refl e2 f5 f4 (Or.inl (ow hw 94 rfl)) (ow hw 19 rfl) (ty := .int) (by decide) rfl rfl (g := (mkF m 19 #[(vr pa1), (vr pa2), (vr pa3), (vi 1)] [(.int 2), (.ref pa1)])) rfl rfl (hb hby d11_19)
  have N6 := Fr.snoc X6 N2 P37
  have O7 : Old Z n0 h6 := O3.wr W6 P37
  have K7 : Keep h0 h6 [pa3, pa1] := K3.wr W6 (Or.inl (List.mem_of_getElem? (i := 1) rfl))
  have Fw6 : Fld Z h6 pa1 s0n "size" "I" (.int 2) := f5.same W6
  have f8 : Exa Z h6 pa3 s1n := ((P9.wr W2).wr W6)
  have f9 : Arv Z h6 pa3 pk5 (.object s2n) (10 : Int32) ([(.ref pa6), (.ref pa2), .null, .null, .null, .null, .null, .null, .null, .null]) .null := (V2.other W6 (Ne.symm P44))
  have f10 : Exa Z h6 pa1 s0n := (f4.wr W6)
  have f11 : Fld Z h6 pa1 s4n "modCount" "I" (.int 2) := ((P1.other W2 (Or.inl P44)).other W6 (Or.inr (slot_ne (Or.inl (ow hw 38 rfl)) (Or.inl (ow hw 94 rfl)) (by decide) (t := .int) (t' := .int) (by decide) (by decide))))
  have f12 : Fld Z h6 pa1 s0n "elementData" s1n (.ref pa3) := ((P2.other W2 (Or.inl P44)).other W6 (Or.inr (slot_ne (Or.inl (ow hw 41 rfl)) (Or.inl (ow hw 94 rfl)) (by decide) (t := (.array (.object s2n))) (t' := .int) (by decide) (by decide))))
  obtain ⟨fs, hr, hrun, hended, hW, hsame⟩ := X6.leave (v := none) (fun _ => rfl)
  refine ⟨_, _, pre0 _ ?_, hrun, hended, _, _, rfl, ?_, ⟨_, rfl⟩, hW, hsame.mono (by decide) (by decide)⟩
  · skip
    show Steps p.tables e below (s₁.setTop (mkF m 0 #[(vr pa1), (vr pa2), (vr pa3), (vi 1)] [])) _
    refine XS.iloadN X0.here hx rfl (hb hby d11_0) rfl ?_
    refine XS.aloadN X0.here hx rfl (hb hby d11_1) rfl rfl ?_
    refine X0.arraylength hx (by rw [e0]; exact Ar1.1) (State.isArrayOf_alike hZ.alike Ar1.2.1) (g := (mkF m 2 #[(vr pa1), (vr pa2), (vr pa3), (vi 1)] [(.ref pa3), (.int 1)])) rfl rfl (hb hby d11_2) _ ?_
    rw [len_of Sz1 Nn1]
    refine XS.icmpYes X0.here hx rfl (pc0 := 3) (pc' := 11) rfl (hb hby d11_3) rfl (feq (by decide : ¬ ((1 : Int32) = (10 : Int32)))).2 (by decide) (by decide) ?_
    refine XS.aloadN X0.here hx rfl (hb hby d11_11) rfl rfl ?_
    refine XS.iloadN X0.here hx rfl (hb hby d11_12) rfl ?_
    show Steps p.tables e below (s₁.setTop (mkF m 13 #[(vr pa1), (vr pa2), (vr pa3), (vi 1)] [(.int 1), (.ref pa3)])) _
    refine XS.aloadN X0.here hx rfl (hb hby d11_13) rfl rfl ?_
    refine st2 _ ?_
    refine XS.aloadN X2.here hx rfl (hb hby d11_15) rfl rfl ?_
    refine XS.iloadN X2.here hx rfl (hb hby d11_16) rfl ?_
    refine XS.iconst X2.here hx rfl (hb hby d11_17) ?_
    refine XS.iadd X2.here hx rfl (hb hby d11_18) rfl ?_
    show Steps p.tables e below (T2.setTop (mkF m 19 #[(vr pa1), (vr pa2), (vr pa3), (vi 1)] [(.int 2), (.ref pa1)])) _
    refine st6 _ ?_
    exact X6.returnOut hx hret0 (hb hby d11_22) hr
  · show Q_au11_1 Z wDEFAULTCAPACITY_EMPTY_ELEMENTDATA kwDEFAULTCAPACITY_EMPTY_ELEMENTDATA pa1 pa2 pa3 pk5 pa6 h0 n0 _ T6.heap _
    rw [e6]
    exact ⟨rfl, N6, K7, f8, f9, P8, f10, f11, f12, Fw6⟩
def Q_au10_1 (Z : State) (wDEFAULTCAPACITY_EMPTY_ELEMENTDATA : Addr) (kwDEFAULTCAPACITY_EMPTY_ELEMENTDATA : ClassId) (pa1 : Addr) (pa2 : Addr) (pa3 : Addr) (pk5 : ClassId) (pa6 : Addr) (h0 : Heap) (n0 : Nat) (v : Option Value) (h : Heap) (L : List Loc) : Prop := v = some (.int 1) ∧ Fr n0 L ∧ Keep h0 h [pa1, pa3] ∧ Exa Z h pa1 s0n ∧ Fld Z h pa1 s4n "modCount" "I" (.int 2) ∧ Fld Z h pa1 s0n "elementData" s1n (.ref pa3) ∧ Fld Z h pa1 s0n "size" "I" (.int 2) ∧ Exa Z h pa3 s1n ∧ Arv Z h pa3 pk5 (.object s2n) (10 : Int32) ([(.ref pa6), (.ref pa2), .null, .null, .null, .null, .null, .null, .null, .null]) .null ∧ Ovr Z pk5 s2n
theorem au10_1 (l : Launch) (Z : State) (a0 : Array Value) (hw : ∀ d ∈ tables_1, d.before a0 Z = true) (ws : List Jvm.Cond) (wDEFAULTCAPACITY_EMPTY_ELEMENTDATA : Addr) (kwDEFAULTCAPACITY_EMPTY_ELEMENTDATA : ClassId) (hS : SS Z wDEFAULTCAPACITY_EMPTY_ELEMENTDATA kwDEFAULTCAPACITY_EMPTY_ELEMENTDATA) (pa1 : Addr) (pa2 : Addr) (pa3 : Addr) (pk5 : ClassId) (pa6 : Addr) (h0 : Heap) (n0 : Nat) (O0 : Old Z n0 h0) (P0 : Exa Z h0 pa1 s0n) (P1 : Fld Z h0 pa1 s4n "modCount" "I" (.int 1)) (P2 : Fld Z h0 pa1 s0n "elementData" s1n (.ref pa3)) (P3 : Fld Z h0 pa1 s0n "size" "I" (.int 1)) (P4 : Exa Z h0 pa2 s7n) (P7 : Arv Z h0 pa3 pk5 (.object s2n) (10 : Int32) ([(.ref pa6), .null, .null, .null, .null, .null, .null, .null, .null, .null]) .null) (P8 : Ovr Z pk5 s2n) (P9 : Exa Z h0 pa3 s1n) (P37 : n0 ≤ pa1) (P39 : n0 ≤ pa3) (P44 : pa1 ≠ pa3) :
    MetB l M11 jdk_38_method_25_code 2 (some .boolean) ws (rmk 1 0 0 15) Z h0 #[(.ref pa1), (.ref pa2)] (Q_au10_1 Z wDEFAULTCAPACITY_EMPTY_ELEMENTDATA kwDEFAULTCAPACITY_EMPTY_ELEMENTDATA pa1 pa2 pa3 pk5 pa6 h0 n0) := by
  refine own_body (plainFor_of_name pn_java_util_ArrayList) ?_
  intro p e s m below meth c s₁ hx hby hml hown hnm hret0 hlk0 hZ X0 e0
  have N0 := Fr.nil n0
  have pre0 : ∀ t, Steps p.tables e below (s₁.setTop (mkF m 0 #[(vr pa1), (vr pa2)] [])) t → Steps p.tables e below (s₁.setTop (entryFrame m #[(.ref pa1), (.ref pa2)] 2)) t := fun t k => castTop (ef_au10_1 m pa1 pa2) k
  have K0 := Keep.refl h0 [pa1, pa3]
  have hS0 := hS
  obtain ⟨S_wDEFAULTCAPACITY_EMPTY_ELEMENTDATA, E_wDEFAULTCAPACITY_EMPTY_ELEMENTDATA, V_wDEFAULTCAPACITY_EMPTY_ELEMENTDATA⟩ := hS0
  obtain ⟨T1, X1, e1, st1⟩ := getF X0 hx hZ hown (host := "") (Or.inl (ow hw 91 rfl)) (Via.of (ow hw 92 rfl)) e0 P1 (g := (mkF m 2 #[(vr pa1), (vr pa2)] [(.ref pa1), (.ref pa1)])) rfl rfl (hb hby d10_2)
  obtain ⟨T2, h2, X2, e2, W2, st2⟩ := putF X1 hx hZ hown (host := "") (Or.inl (ow hw 91 rfl)) (Via.of (ow hw 92 rfl)) e1 P1 P0 (Or.inl (ow hw 38 rfl)) (ow hw 19 rfl) (ty := .int) (by decide) rfl rfl (g := (mkF m 7 #[(vr pa1), (vr pa2)] [(.int 2), (.ref pa1)])) rfl rfl (hb hby d10_7)
  have N2 := Fr.snoc X2 N0 P37
  have O3 : Old Z n0 h2 := O0.wr W2 P37
  have K3 : Keep h0 h2 [pa1, pa3] := K0.wr W2 (Or.inl (List.mem_of_getElem? (i := 0) rfl))
  have Fw2 : Fld Z h2 pa1 s4n "modCount" "I" (.int 2) := P1.same W2
  have f4 : Fld Z h2 pa1 s0n "elementData" s1n (.ref pa3) := (P2.other W2 (Or.inr (slot_ne (Or.inl (ow hw 41 rfl)) (Or.inl (ow hw 38 rfl)) (by decide) (t := (.array (.object s2n))) (t' := .int) (by decide) (by decide))))
  obtain ⟨T5, X5, e5, st5⟩ := getF X2 hx hZ hown (host := "") (Or.inl (ow hw 40 rfl)) Via.refl e2 f4 (g := (mkF m 13 #[(vr pa1), (vr pa2)] [(.ref pa1), (.ref pa2), (.ref pa1)])) rfl rfl (hb hby d10_13)
  have f6 : Fld Z h2 pa1 s0n "size" "I" (.int 1) := (P3.other W2 (Or.inr (slot_ne (Or.inl (ow hw 94 rfl)) (Or.inl (ow hw 38 rfl)) (by decide) (t := .int) (t' := .int) (by decide) (by decide))))
  obtain ⟨T7, X7, e7, st7⟩ := getF X5 hx hZ hown (host := "") (Or.inl (ow hw 93 rfl)) Via.refl e5 f6 (g := (mkF m 17 #[(vr pa1), (vr pa2)] [(.ref pa1), (.ref pa3), (.ref pa2), (.ref pa1)])) rfl rfl (hb hby d10_17)
  have f8 : Exa Z h2 pa1 s0n := (P0.wr W2)
  have f9 : Exa Z h2 pa2 s7n := (P4.wr W2)
  have f10 : Arv Z h2 pa3 pk5 (.object s2n) (10 : Int32) ([(.ref pa6), .null, .null, .null, .null, .null, .null, .null, .null, .null]) .null := (P7.other W2 (Ne.symm P44))
  have f11 : Exa Z h2 pa3 s1n := (P9.wr W2)
  obtain ⟨cq12, q12, q12'⟩ := f8.cell
  obtain ⟨_, _, ⟨T12, L12, k12, n12⟩, -, X12, ⟨Lc12, hQ12, l12, y12, z12⟩, st12⟩ := X7.privateBack hx (y := M10) hown (mvT hZ (ow hw 95 rfl)) (mvT hZ (ow hw 96 rfl)) (mvT hZ (ow hw 98 rfl)) (Cond.privateMethod_at (mvP hZ (ow hw 97 rfl) (args := #[]))) (mvT hZ (ow hw 99 rfl)) (by decide) (backOf (W := 0) (au11_1 l Z a0 hw [] wDEFAULTCAPACITY_EMPTY_ELEMENTDATA kwDEFAULTCAPACITY_EMPTY_ELEMENTDATA hS pa1 pa2 pa3 pk5 pa6 h2 n0 O3 f8 Fw2 f4 f6 f9 f10 P8 f11 P37 P39 P44) hZ (ow hw 99 rfl) (ow hw 20 rfl) (by decide) (by decide)) (g := (mkF m 20 #[(vr pa1), (vr pa2)] [(.int 1), (.ref pa3), (.ref pa2), (.ref pa1)])) rfl (by rw [hml]; rfl) (Steps.refl _) (a := pa1) (by rw [e7]; exact q12) q12' (argsL := [(.ref pa2), (.ref pa3), (.int 1)]) (rest := []) (lenOf pd_7 rfl) rfl (by show 2 * 0 + _ ≤ _; exact Nat.le_of_eq rfl) (hb hby d10_20) (fun _ _ => ⟨rfl, e7, (by decide : 0 + 0 ≤ _), (by decide : 0 + 0 ≤ _)⟩)
  dsimp only [Pt.U, Pt.locs, Pt.cells, Pt.slots] at X12 l12 y12 z12 st12 hQ12
  subst l12 y12 z12
  obtain ⟨rfl, Nq12, K12q, p12_0, p12_1, p12_2, p12_3, p12_4, p12_5, p12_6⟩ := hQ12
  have N12 := Fr.app N2 Nq12
  have O13 : Old Z n0 T12.heap := O3.keep K12q (allS P39 (allS P37 all0))
  have K13 : Keep h0 T12.heap [pa1, pa3] := K3.trans K12q (allS (Or.inl (List.mem_of_getElem? (i := 1) rfl)) (allS (Or.inl (List.mem_of_getElem? (i := 0) rfl)) all0))
  obtain ⟨fs, hr, hrun, hended, hW, hsame⟩ := X12.leave (v := some (.int 1)) (fun h => by rw [hret0] at h; cases h)
  refine ⟨_, _, pre0 _ ?_, hrun, hended, _, _, rfl, ?_, ⟨_, rfl⟩, hW, hsame.mono (by decide) (by decide)⟩
  · skip
    show Steps p.tables e below (s₁.setTop (mkF m 0 #[(vr pa1), (vr pa2)] [])) _
    refine XS.aloadN X0.here hx rfl (hb hby d10_0) rfl rfl ?_
    refine XS.dup X0.here hx rfl (hb hby d10_1) rfl rfl ?_
    refine st1 _ ?_
    refine XS.iconst X1.here hx rfl (hb hby d10_5) ?_
    refine XS.iadd X1.here hx rfl (hb hby d10_6) rfl ?_
    refine st2 _ ?_
    show Steps p.tables e below (T2.setTop (mkF m 10 #[(vr pa1), (vr pa2)] [])) _
    refine XS.aloadN X2.here hx rfl (hb hby d10_10) rfl rfl ?_
    refine XS.aloadN X2.here hx rfl (hb hby d10_11) rfl rfl ?_
    refine XS.aloadN X2.here hx rfl (hb hby d10_12) rfl rfl ?_
    refine st5 _ ?_
    refine XS.aloadN X5.here hx rfl (hb hby d10_16) rfl rfl ?_
    refine st7 _ ?_
    show Steps p.tables e below (T7.setTop (mkF m 20 #[(vr pa1), (vr pa2)] [(.int 1), (.ref pa3), (.ref pa2), (.ref pa1)])) _
    refine st12.trans ?_
    refine XS.iconst X12.here hx rfl (hb hby d10_23) ?_
    exact retN X12 hx (t := .boolean) hret0 (by simp) (hb hby d10_24) hr
  · show Q_au10_1 Z wDEFAULTCAPACITY_EMPTY_ELEMENTDATA kwDEFAULTCAPACITY_EMPTY_ELEMENTDATA pa1 pa2 pa3 pk5 pa6 h0 n0 _ T12.heap _
    exact ⟨rfl, N12, K13, p12_3, p12_4, p12_5, p12_6, p12_0, p12_1, p12_2⟩
theorem ef_au15_1 (m : MethodId) (x0 : Addr) (x1 : Addr) (x2 : Int32)  : entryFrame m #[(.ref x0), (.ref x1), (.int x2)] 5 = mkF m 0 #[(vr x0), (vr x1), (vi x2), .unset, .unset] [] := by first | (simp [entryFrame, mkF, argsToLocals, Value.category]; done) | rfl
def Q_au15_1 (Z : State) (wDEFAULTCAPACITY_EMPTY_ELEMENTDATA : Addr) (kwDEFAULTCAPACITY_EMPTY_ELEMENTDATA : ClassId) (pa1 : Addr) (pa2 : Addr) (pa3 : Addr) (pk7 : ClassId) (pa8 : Addr) (pa9 : Addr) (pk10 : ClassId) (pa11 : Addr) (pa12 : Addr) (pk15 : ClassId) (pi16 : Int32) (pi17 : Int32) (pi18 : Int32) (pk19 : ClassId) (pi20 : Int32) (pi21 : Int32) (pk22 : ClassId) (pa23 : Addr) (pa24 : Addr) (pa25 : Addr) (pk26 : ClassId) (pa27 : Addr) (pa28 : Addr) (pk32 : ClassId) (pi33 : Int32) (pi34 : Int32) (pi35 : Int32) (pi36 : Int32) (pi37 : Int32) (pi38 : Int32) (pi39 : Int32) (pi40 : Int32) (pi41 : Int32) (pk42 : ClassId) (pi43 : Int32) (pi44 : Int32) (pi45 : Int32) (pi46 : Int32) (h0 : Heap) (n0 : Nat) (v : Option Value) (h : Heap) (L : List Loc) : Prop := v = none ∧ Fr n0 L ∧ Keep h0 h [pa23, pa24, pa25, pa27, pa28] ∧ Exa Z h pa23 "[I" ∧ Arv Z h pa23 pk32 .int (3 : Int32) ([(.int (inc pi16 (0 : Int32) pi33)), (.int (inc pi16 (1 : Int32) pi34)), (.int (inc pi16 (2 : Int32) pi35))]) (.int 0) ∧ Exa Z h pa24 "[I" ∧ Arv Z h pa24 pk32 .int (3 : Int32) ([(.int (inc pi17 (0 : Int32) pi36)), (.int (inc pi17 (1 : Int32) pi37)), (.int (inc pi17 (2 : Int32) pi38))]) (.int 0) ∧ Exa Z h pa25 "[I" ∧ Arv Z h pa25 pk32 .int (3 : Int32) ([(.int (inc pi18 (0 : Int32) pi39)), (.int (inc pi18 (1 : Int32) pi40)), (.int (inc pi18 (2 : Int32) pi41))]) (.int 0) ∧ Exa Z h pa27 "[I" ∧ Arv Z h pa27 pk42 .int (2 : Int32) ([(.int (inc pi20 (0 : Int32) pi43)), (.int (inc pi20 (1 : Int32) pi44))]) (.int 0) ∧ Exa Z h pa28 "[I" ∧ Arv Z h pa28 pk42 .int (2 : Int32) ([(.int (inc pi21 (0 : Int32) pi45)), (.int (inc pi21 (1 : Int32) pi46))]) (.int 0)
theorem au15_1 (l : Launch) (Z : State) (a0 : Array Value) (hw : ∀ d ∈ tables_1, d.before a0 Z = true) (ws : List Jvm.Cond) (wDEFAULTCAPACITY_EMPTY_ELEMENTDATA : Addr) (kwDEFAULTCAPACITY_EMPTY_ELEMENTDATA : ClassId) (hS : SS Z wDEFAULTCAPACITY_EMPTY_ELEMENTDATA kwDEFAULTCAPACITY_EMPTY_ELEMENTDATA) (pa1 : Addr) (pa2 : Addr) (pa3 : Addr) (pk7 : ClassId) (pa8 : Addr) (pa9 : Addr) (pk10 : ClassId) (pa11 : Addr) (pa12 : Addr) (pk15 : ClassId) (pi16 : Int32) (pi17 : Int32) (pi18 : Int32) (pk19 : ClassId) (pi20 : Int32) (pi21 : Int32) (pk22 : ClassId) (pa23 : Addr) (pa24 : Addr) (pa25 : Addr) (pk26 : ClassId) (pa27 : Addr) (pa28 : Addr) (pk32 : ClassId) (pi33 : Int32) (pi34 : Int32) (pi35 : Int32) (pi36 : Int32) (pi37 : Int32) (pi38 : Int32) (pi39 : Int32) (pi40 : Int32) (pi41 : Int32) (pk42 : ClassId) (pi43 : Int32) (pi44 : Int32) (pi45 : Int32) (pi46 : Int32) (h0 : Heap) (n0 : Nat) (O0 : Old Z n0 h0) (P1 : Fld Z h0 pa1 s3n "counts" "[[[I" (.ref pa3)) (P5 : Arv Z h0 pa2 pk7 (.array .int) (2 : Int32) ([(.ref pa8), (.ref pa9)]) .null) (P8 : Arv Z h0 pa3 pk10 (.array (.array .int)) (2 : Int32) ([(.ref pa11), (.ref pa12)]) .null) (P17 : Arv Z h0 pa8 pk15 .int (3 : Int32) ([(.int pi16), (.int pi17), (.int pi18)]) (.int 0)) (P19 : Arv Z h0 pa9 pk19 .int (2 : Int32) ([(.int pi20), (.int pi21)]) (.int 0)) (P21 : Arv Z h0 pa11 pk22 (.array .int) (3 : Int32) ([(.ref pa23), (.ref pa24), (.ref pa25)]) .null) (P24 : Arv Z h0 pa12 pk26 (.array .int) (2 : Int32) ([(.ref pa27), (.ref pa28)]) .null) (P30 : Arv Z h0 pa23 pk32 .int (3 : Int32) ([(.int pi33), (.int pi34), (.int pi35)]) (.int 0)) (P31 : Exa Z h0 pa23 "[I") (P32 : Arv Z h0 pa24 pk32 .int (3 : Int32) ([(.int pi36), (.int pi37), (.int pi38)]) (.int 0)) (P33 : Exa Z h0 pa24 "[I") (P34 : Arv Z h0 pa25 pk32 .int (3 : Int32) ([(.int pi39), (.int pi40), (.int pi41)]) (.int 0)) (P35 : Exa Z h0 pa25 "[I") (P36 : Arv Z h0 pa27 pk42 .int (2 : Int32) ([(.int pi43), (.int pi44)]) (.int 0)) (P37 : Exa Z h0 pa27 "[I") (P38 : Arv Z h0 pa28 pk42 .int (2 : Int32) ([(.int pi45), (.int pi46)]) (.int 0)) (P39 : Exa Z h0 pa28 "[I") (P60 : inT pi16) (P61 : inT pi17) (P62 : inT pi18) (P63 : inB pi20) (P64 : inB pi21) (P73 : n0 ≤ pa23) (P74 : n0 ≤ pa24) (P75 : n0 ≤ pa25) (P76 : n0 ≤ pa27) (P77 : n0 ≤ pa28) (P90 : pa1 ≠ pa23) (P91 : pa1 ≠ pa24) (P92 : pa1 ≠ pa25) (P93 : pa1 ≠ pa27) (P108 : pa2 ≠ pa23) (P109 : pa2 ≠ pa24) (P110 : pa2 ≠ pa25) (P111 : pa2 ≠ pa27) (P112 : pa2 ≠ pa28) (P125 : pa3 ≠ pa23) (P126 : pa3 ≠ pa24) (P127 : pa3 ≠ pa25) (P128 : pa3 ≠ pa27) (P170 : pa8 ≠ pa23) (P171 : pa8 ≠ pa24) (P172 : pa8 ≠ pa25) (P183 : pa9 ≠ pa23) (P184 : pa9 ≠ pa24) (P185 : pa9 ≠ pa25) (P186 : pa9 ≠ pa27) (P187 : pa9 ≠ pa28) (P195 : pa11 ≠ pa23) (P196 : pa11 ≠ pa24) (P206 : pa12 ≠ pa23) (P207 : pa12 ≠ pa24) (P208 : pa12 ≠ pa25) (P209 : pa12 ≠ pa27) (P226 : pa23 ≠ pa24) (P227 : pa23 ≠ pa25) (P228 : pa23 ≠ pa27) (P229 : pa23 ≠ pa28) (P235 : pa24 ≠ pa25) (P236 : pa24 ≠ pa27) (P237 : pa24 ≠ pa28) (P243 : pa25 ≠ pa27) (P244 : pa25 ≠ pa28) (P250 : pa27 ≠ pa28) :
    MetB l M13 prog_34_method_5_code 5 none ws (rmk 0 0 0 0) Z h0 #[(.ref pa1), (.ref pa2), (.int 1)] (Q_au15_1 Z wDEFAULTCAPACITY_EMPTY_ELEMENTDATA kwDEFAULTCAPACITY_EMPTY_ELEMENTDATA pa1 pa2 pa3 pk7 pa8 pa9 pk10 pa11 pa12 pk15 pi16 pi17 pi18 pk19 pi20 pi21 pk22 pa23 pa24 pa25 pk26 pa27 pa28 pk32 pi33 pi34 pi35 pi36 pi37 pi38 pi39 pi40 pi41 pk42 pi43 pi44 pi45 pi46 h0 n0) := by
  refine own_body (plainFor_of_name pn_com_example_loopline_loopline_dispatch_Pheromone) ?_
  intro p e s m below meth c s₁ hx hby hml hown hnm hret0 hlk0 hZ X0 e0
  have N0 := Fr.nil n0
  have pre0 : ∀ t, Steps p.tables e below (s₁.setTop (mkF m 0 #[(vr pa1), (vr pa2), (vi 1), .unset, .unset] [])) t → Steps p.tables e below (s₁.setTop (entryFrame m #[(.ref pa1), (.ref pa2), (.int 1)] 5)) t := fun t k => castTop (ef_au15_1 m pa1 pa2 (1 : Int32)) k
  have K0 := Keep.refl h0 [pa23, pa24, pa25, pa27, pa28]
  have hS0 := hS
  obtain ⟨S_wDEFAULTCAPACITY_EMPTY_ELEMENTDATA, E_wDEFAULTCAPACITY_EMPTY_ELEMENTDATA, V_wDEFAULTCAPACITY_EMPTY_ELEMENTDATA⟩ := hS0
  obtain ⟨cl1, Ar1, -, Sz1, Nn1, -, -⟩ := (id P5)
  obtain ⟨cl2, Ar2, qc2, Sz2, Nn2, Ha2, Gg2⟩ := (id P5)
  have hin2 : ¬ ((0 : Int32) < 0 ∨ cl2.slots.size ≤ ((0 : Int32)).toNatClampNeg) := inb_of Sz2 ⟨by decide, by decide⟩
  have hat2 : cl2.slots[((0 : Int32)).toNatClampNeg]? = some (.ref pa8) := Ha2.at hin2 rfl
  obtain ⟨cl3, Ar3, -, Sz3, Nn3, -, -⟩ := (id P17)
  obtain ⟨T4, X4, e4, st4⟩ := getF X0 hx hZ hown (host := "") (Or.inl (ow hw 58 rfl)) Via.refl e0 P1 (g := (mkF m 21 #[(vr pa1), (vr pa2), (vi 1), (vi 0), (vi 0)] [(.ref pa1)])) rfl rfl (hb hby d15_21)
  obtain ⟨cl5, Ar5, qc5, Sz5, Nn5, Ha5, Gg5⟩ := (id P8)
  have hin5 : ¬ ((0 : Int32) < 0 ∨ cl5.slots.size ≤ ((0 : Int32)).toNatClampNeg) := inb_of Sz5 ⟨by decide, by decide⟩
  have hat5 : cl5.slots[((0 : Int32)).toNatClampNeg]? = some (.ref pa11) := Ha5.at hin5 rfl
  obtain ⟨cl6, Ar6, qc6, Sz6, Nn6, Ha6, Gg6⟩ := (id P21)
  have hin6 : ¬ ((0 : Int32) < 0 ∨ cl6.slots.size ≤ ((0 : Int32)).toNatClampNeg) := inb_of Sz6 ⟨by decide, by decide⟩
  have hat6 : cl6.slots[((0 : Int32)).toNatClampNeg]? = some (.ref pa23) := Ha6.at hin6 rfl
  obtain ⟨cl7, Ar7, qc7, Sz7, Nn7, Ha7, Gg7⟩ := (id P5)
  have hin7 : ¬ ((0 : Int32) < 0 ∨ cl7.slots.size ≤ ((0 : Int32)).toNatClampNeg) := inb_of Sz7 ⟨by decide, by decide⟩
  have hat7 : cl7.slots[((0 : Int32)).toNatClampNeg]? = some (.ref pa8) := Ha7.at hin7 rfl
  obtain ⟨cl8, Ar8, qc8, Sz8, Nn8, Ha8, Gg8⟩ := (id P17)
  have hin8 : ¬ ((0 : Int32) < 0 ∨ cl8.slots.size ≤ ((0 : Int32)).toNatClampNeg) := inb_of Sz8 ⟨by decide, by decide⟩
  have hat8 : cl8.slots[((0 : Int32)).toNatClampNeg]? = some (.int pi16) := Ha8.at hin8 rfl
  obtain ⟨cl9, Ar9, qc9, Sz9, Nn9, Ha9, Gg9⟩ := (id P30)
  have hin9 : ¬ (pi16 < 0 ∨ cl9.slots.size ≤ (pi16).toNatClampNeg) := own_inbT P60 Sz9
  have hat9 : cl9.slots[(pi16).toNatClampNeg]? = some (.int (selT pi16 pi33 pi34 pi35)) := Ha9.at hin9 (own_getT P60)
  obtain ⟨cl10, Ar10, qc10, Sz10, Nn10, Ha10, Gg10⟩ := (id P30)
  have hin10 : ¬ (pi16 < 0 ∨ cl10.slots.size ≤ (pi16).toNatClampNeg) := own_inbT P60 Sz10
  obtain ⟨T10, h10, X10, e10, W10, st10⟩ := stI X4 hx hZ e4 Ar10 (j := pi16) hin10 (g := (mkF m 39 #[(vr pa1), (vr pa2), (vi 1), (vi 0), (vi 0)] [(.int ((selT pi16 pi33 pi34 pi35) + (1 : Int32))), (.int pi16), (.ref pa23)])) rfl rfl (hb hby d15_39)
  have O11 : Old Z n0 h10 := O0.wr W10 P73
  have K11 : Keep h0 h10 [pa23, pa24, pa25, pa27, pa28] := K0.wr W10 (Or.inl (List.mem_of_getElem? (i := 0) rfl))
  have V10 : Arv Z h10 pa23 pk32 .int (3 : Int32) ([(.int (inc pi16 (0 : Int32) pi33)), (.int (inc pi16 (1 : Int32) pi34)), (.int (inc pi16 (2 : Int32) pi35))]) (.int 0) := own_cast (own_setT P60) (Arv.set Ar10 qc10 Sz10 Nn10 Ha10 Gg10 (v := (.int ((selT pi16 pi33 pi34 pi35) + (1 : Int32)))) rfl W10 (pi16).toNatClampNeg rfl (own_ltT P60))
  have N10 := Fr.snoc X10 N0 P73
  have f12 : Arv Z h10 pa2 pk7 (.array .int) (2 : Int32) ([(.ref pa8), (.ref pa9)]) .null := (P5.other W10 P108)
  obtain ⟨cl13, Ar13, qc13, Sz13, Nn13, Ha13, Gg13⟩ := (id f12)
  have hin13 : ¬ ((0 : Int32) < 0 ∨ cl13.slots.size ≤ ((0 : Int32)).toNatClampNeg) := inb_of Sz13 ⟨by decide, by decide⟩
  have hat13 : cl13.slots[((0 : Int32)).toNatClampNeg]? = some (.ref pa8) := Ha13.at hin13 rfl
  have f14 : Arv Z h10 pa8 pk15 .int (3 : Int32) ([(.int pi16), (.int pi17), (.int pi18)]) (.int 0) := (P17.other W10 P170)
  obtain ⟨cl15, Ar15, -, Sz15, Nn15, -, -⟩ := (id f14)
  have f16 : Fld Z h10 pa1 s3n "counts" "[[[I" (.ref pa3) := (P1.other W10 (Or.inl P90))
  obtain ⟨T17, X17, e17, st17⟩ := getF X10 hx hZ hown (host := "") (Or.inl (ow hw 58 rfl)) Via.refl e10 f16 (g := (mkF m 21 #[(vr pa1), (vr pa2), (vi 1), (vi 0), (vi 1)] [(.ref pa1)])) rfl rfl (hb hby d15_21)
  have f18 : Arv Z h10 pa3 pk10 (.array (.array .int)) (2 : Int32) ([(.ref pa11), (.ref pa12)]) .null := (P8.other W10 P125)
  obtain ⟨cl19, Ar19, qc19, Sz19, Nn19, Ha19, Gg19⟩ := (id f18)
  have hin19 : ¬ ((0 : Int32) < 0 ∨ cl19.slots.size ≤ ((0 : Int32)).toNatClampNeg) := inb_of Sz19 ⟨by decide, by decide⟩
  have hat19 : cl19.slots[((0 : Int32)).toNatClampNeg]? = some (.ref pa11) := Ha19.at hin19 rfl
  have f20 : Arv Z h10 pa11 pk22 (.array .int) (3 : Int32) ([(.ref pa23), (.ref pa24), (.ref pa25)]) .null := (P21.other W10 P195)
  obtain ⟨cl21, Ar21, qc21, Sz21, Nn21, Ha21, Gg21⟩ := (id f20)
  have hin21 : ¬ ((1 : Int32) < 0 ∨ cl21.slots.size ≤ ((1 : Int32)).toNatClampNeg) := inb_of Sz21 ⟨by decide, by decide⟩
  have hat21 : cl21.slots[((1 : Int32)).toNatClampNeg]? = some (.ref pa24) := Ha21.at hin21 rfl
  obtain ⟨cl22, Ar22, qc22, Sz22, Nn22, Ha22, Gg22⟩ := (id f12)
  have hin22 : ¬ ((0 : Int32) < 0 ∨ cl22.slots.size ≤ ((0 : Int32)).toNatClampNeg) := inb_of Sz22 ⟨by decide, by decide⟩
  have hat22 : cl22.slots[((0 : Int32)).toNatClampNeg]? = some (.ref pa8) := Ha22.at hin22 rfl
  obtain ⟨cl23, Ar23, qc23, Sz23, Nn23, Ha23, Gg23⟩ := (id f14)
  have hin23 : ¬ ((1 : Int32) < 0 ∨ cl23.slots.size ≤ ((1 : Int32)).toNatClampNeg) := inb_of Sz23 ⟨by decide, by decide⟩
  have hat23 : cl23.slots[((1 : Int32)).toNatClampNeg]? = some (.int pi17) := Ha23.at hin23 rfl
  have f24 : Arv Z h10 pa24 pk32 .int (3 : Int32) ([(.int pi36), (.int pi37), (.int pi38)]) (.int 0) := (P32.other W10 (Ne.symm P226))
  obtain ⟨cl25, Ar25, qc25, Sz25, Nn25, Ha25, Gg25⟩ := (id f24)
  have hin25 : ¬ (pi17 < 0 ∨ cl25.slots.size ≤ (pi17).toNatClampNeg) := own_inbT P61 Sz25
  have hat25 : cl25.slots[(pi17).toNatClampNeg]? = some (.int (selT pi17 pi36 pi37 pi38)) := Ha25.at hin25 (own_getT P61)
  obtain ⟨cl26, Ar26, qc26, Sz26, Nn26, Ha26, Gg26⟩ := (id f24)
  have hin26 : ¬ (pi17 < 0 ∨ cl26.slots.size ≤ (pi17).toNatClampNeg) := own_inbT P61 Sz26
  obtain ⟨T26, h26, X26, e26, W26, st26⟩ := stI X17 hx hZ e17 Ar26 (j := pi17) hin26 (g := (mkF m 39 #[(vr pa1), (vr pa2), (vi 1), (vi 0), (vi 1)] [(.int ((selT pi17 pi36 pi37 pi38) + (1 : Int32))), (.int pi17), (.ref pa24)])) rfl rfl (hb hby d15_39)
  have O27 : Old Z n0 h26 := O11.wr W26 P74
  have K27 : Keep h0 h26 [pa23, pa24, pa25, pa27, pa28] := K11.wr W26 (Or.inl (List.mem_of_getElem? (i := 1) rfl))
  have V26 : Arv Z h26 pa24 pk32 .int (3 : Int32) ([(.int (inc pi17 (0 : Int32) pi36)), (.int (inc pi17 (1 : Int32) pi37)), (.int (inc pi17 (2 : Int32) pi38))]) (.int 0) := own_cast (own_setT P61) (Arv.set Ar26 qc26 Sz26 Nn26 Ha26 Gg26 (v := (.int ((selT pi17 pi36 pi37 pi38) + (1 : Int32)))) rfl W26 (pi17).toNatClampNeg rfl (own_ltT P61))
  have N26 := Fr.snoc X26 N10 P74
  have f28 : Arv Z h26 pa2 pk7 (.array .int) (2 : Int32) ([(.ref pa8), (.ref pa9)]) .null := (f12.other W26 P109)
  obtain ⟨cl29, Ar29, qc29, Sz29, Nn29, Ha29, Gg29⟩ := (id f28)
  have hin29 : ¬ ((0 : Int32) < 0 ∨ cl29.slots.size ≤ ((0 : Int32)).toNatClampNeg) := inb_of Sz29 ⟨by decide, by decide⟩
  have hat29 : cl29.slots[((0 : Int32)).toNatClampNeg]? = some (.ref pa8) := Ha29.at hin29 rfl
  have f30 : Arv Z h26 pa8 pk15 .int (3 : Int32) ([(.int pi16), (.int pi17), (.int pi18)]) (.int 0) := (f14.other W26 P171)
  obtain ⟨cl31, Ar31, -, Sz31, Nn31, -, -⟩ := (id f30)
  have f32 : Fld Z h26 pa1 s3n "counts" "[[[I" (.ref pa3) := (f16.other W26 (Or.inl P91))
  obtain ⟨T33, X33, e33, st33⟩ := getF X26 hx hZ hown (host := "") (Or.inl (ow hw 58 rfl)) Via.refl e26 f32 (g := (mkF m 21 #[(vr pa1), (vr pa2), (vi 1), (vi 0), (vi 2)] [(.ref pa1)])) rfl rfl (hb hby d15_21)
  have f34 : Arv Z h26 pa3 pk10 (.array (.array .int)) (2 : Int32) ([(.ref pa11), (.ref pa12)]) .null := (f18.other W26 P126)
  obtain ⟨cl35, Ar35, qc35, Sz35, Nn35, Ha35, Gg35⟩ := (id f34)
  have hin35 : ¬ ((0 : Int32) < 0 ∨ cl35.slots.size ≤ ((0 : Int32)).toNatClampNeg) := inb_of Sz35 ⟨by decide, by decide⟩
  have hat35 : cl35.slots[((0 : Int32)).toNatClampNeg]? = some (.ref pa11) := Ha35.at hin35 rfl
  have f36 : Arv Z h26 pa11 pk22 (.array .int) (3 : Int32) ([(.ref pa23), (.ref pa24), (.ref pa25)]) .null := (f20.other W26 P196)
  obtain ⟨cl37, Ar37, qc37, Sz37, Nn37, Ha37, Gg37⟩ := (id f36)
  have hin37 : ¬ ((2 : Int32) < 0 ∨ cl37.slots.size ≤ ((2 : Int32)).toNatClampNeg) := inb_of Sz37 ⟨by decide, by decide⟩
  have hat37 : cl37.slots[((2 : Int32)).toNatClampNeg]? = some (.ref pa25) := Ha37.at hin37 rfl
  obtain ⟨cl38, Ar38, qc38, Sz38, Nn38, Ha38, Gg38⟩ := (id f28)
  have hin38 : ¬ ((0 : Int32) < 0 ∨ cl38.slots.size ≤ ((0 : Int32)).toNatClampNeg) := inb_of Sz38 ⟨by decide, by decide⟩
  have hat38 : cl38.slots[((0 : Int32)).toNatClampNeg]? = some (.ref pa8) := Ha38.at hin38 rfl
  obtain ⟨cl39, Ar39, qc39, Sz39, Nn39, Ha39, Gg39⟩ := (id f30)
  have hin39 : ¬ ((2 : Int32) < 0 ∨ cl39.slots.size ≤ ((2 : Int32)).toNatClampNeg) := inb_of Sz39 ⟨by decide, by decide⟩
  have hat39 : cl39.slots[((2 : Int32)).toNatClampNeg]? = some (.int pi18) := Ha39.at hin39 rfl
  have f40 : Arv Z h26 pa25 pk32 .int (3 : Int32) ([(.int pi39), (.int pi40), (.int pi41)]) (.int 0) := ((P34.other W10 (Ne.symm P227)).other W26 (Ne.symm P235))
  obtain ⟨cl41, Ar41, qc41, Sz41, Nn41, Ha41, Gg41⟩ := (id f40)
  have hin41 : ¬ (pi18 < 0 ∨ cl41.slots.size ≤ (pi18).toNatClampNeg) := own_inbT P62 Sz41
  have hat41 : cl41.slots[(pi18).toNatClampNeg]? = some (.int (selT pi18 pi39 pi40 pi41)) := Ha41.at hin41 (own_getT P62)
  obtain ⟨cl42, Ar42, qc42, Sz42, Nn42, Ha42, Gg42⟩ := (id f40)
  have hin42 : ¬ (pi18 < 0 ∨ cl42.slots.size ≤ (pi18).toNatClampNeg) := own_inbT P62 Sz42
  obtain ⟨T42, h42, X42, e42, W42, st42⟩ := stI X33 hx hZ e33 Ar42 (j := pi18) hin42 (g := (mkF m 39 #[(vr pa1), (vr pa2), (vi 1), (vi 0), (vi 2)] [(.int ((selT pi18 pi39 pi40 pi41) + (1 : Int32))), (.int pi18), (.ref pa25)])) rfl rfl (hb hby d15_39)
  have O43 : Old Z n0 h42 := O27.wr W42 P75
  have K43 : Keep h0 h42 [pa23, pa24, pa25, pa27, pa28] := K27.wr W42 (Or.inl (List.mem_of_getElem? (i := 2) rfl))
  have V42 : Arv Z h42 pa25 pk32 .int (3 : Int32) ([(.int (inc pi18 (0 : Int32) pi39)), (.int (inc pi18 (1 : Int32) pi40)), (.int (inc pi18 (2 : Int32) pi41))]) (.int 0) := own_cast (own_setT P62) (Arv.set Ar42 qc42 Sz42 Nn42 Ha42 Gg42 (v := (.int ((selT pi18 pi39 pi40 pi41) + (1 : Int32)))) rfl W42 (pi18).toNatClampNeg rfl (own_ltT P62))
  have N42 := Fr.snoc X42 N26 P75
  have f44 : Arv Z h42 pa2 pk7 (.array .int) (2 : Int32) ([(.ref pa8), (.ref pa9)]) .null := (f28.other W42 P110)
  obtain ⟨cl45, Ar45, qc45, Sz45, Nn45, Ha45, Gg45⟩ := (id f44)
  have hin45 : ¬ ((0 : Int32) < 0 ∨ cl45.slots.size ≤ ((0 : Int32)).toNatClampNeg) := inb_of Sz45 ⟨by decide, by decide⟩
  have hat45 : cl45.slots[((0 : Int32)).toNatClampNeg]? = some (.ref pa8) := Ha45.at hin45 rfl
  have f46 : Arv Z h42 pa8 pk15 .int (3 : Int32) ([(.int pi16), (.int pi17), (.int pi18)]) (.int 0) := (f30.other W42 P172)
  obtain ⟨cl47, Ar47, -, Sz47, Nn47, -, -⟩ := (id f46)
  obtain ⟨cl48, Ar48, -, Sz48, Nn48, -, -⟩ := (id f44)
  obtain ⟨cl49, Ar49, qc49, Sz49, Nn49, Ha49, Gg49⟩ := (id f44)
  have hin49 : ¬ ((1 : Int32) < 0 ∨ cl49.slots.size ≤ ((1 : Int32)).toNatClampNeg) := inb_of Sz49 ⟨by decide, by decide⟩
  have hat49 : cl49.slots[((1 : Int32)).toNatClampNeg]? = some (.ref pa9) := Ha49.at hin49 rfl
  have f50 : Arv Z h42 pa9 pk19 .int (2 : Int32) ([(.int pi20), (.int pi21)]) (.int 0) := (((P19.other W10 P183).other W26 P184).other W42 P185)
  obtain ⟨cl51, Ar51, -, Sz51, Nn51, -, -⟩ := (id f50)
  have f52 : Fld Z h42 pa1 s3n "counts" "[[[I" (.ref pa3) := (f32.other W42 (Or.inl P92))
  obtain ⟨T53, X53, e53, st53⟩ := getF X42 hx hZ hown (host := "") (Or.inl (ow hw 58 rfl)) Via.refl e42 f52 (g := (mkF m 21 #[(vr pa1), (vr pa2), (vi 1), (vi 1), (vi 0)] [(.ref pa1)])) rfl rfl (hb hby d15_21)
  have f54 : Arv Z h42 pa3 pk10 (.array (.array .int)) (2 : Int32) ([(.ref pa11), (.ref pa12)]) .null := (f34.other W42 P127)
  obtain ⟨cl55, Ar55, qc55, Sz55, Nn55, Ha55, Gg55⟩ := (id f54)
  have hin55 : ¬ ((1 : Int32) < 0 ∨ cl55.slots.size ≤ ((1 : Int32)).toNatClampNeg) := inb_of Sz55 ⟨by decide, by decide⟩
  have hat55 : cl55.slots[((1 : Int32)).toNatClampNeg]? = some (.ref pa12) := Ha55.at hin55 rfl
  have f56 : Arv Z h42 pa12 pk26 (.array .int) (2 : Int32) ([(.ref pa27), (.ref pa28)]) .null := (((P24.other W10 P206).other W26 P207).other W42 P208)
  obtain ⟨cl57, Ar57, qc57, Sz57, Nn57, Ha57, Gg57⟩ := (id f56)
  have hin57 : ¬ ((0 : Int32) < 0 ∨ cl57.slots.size ≤ ((0 : Int32)).toNatClampNeg) := inb_of Sz57 ⟨by decide, by decide⟩
  have hat57 : cl57.slots[((0 : Int32)).toNatClampNeg]? = some (.ref pa27) := Ha57.at hin57 rfl
  obtain ⟨cl58, Ar58, qc58, Sz58, Nn58, Ha58, Gg58⟩ := (id f44)
  have hin58 : ¬ ((1 : Int32) < 0 ∨ cl58.slots.size ≤ ((1 : Int32)).toNatClampNeg) := inb_of Sz58 ⟨by decide, by decide⟩
  have hat58 : cl58.slots[((1 : Int32)).toNatClampNeg]? = some (.ref pa9) := Ha58.at hin58 rfl
  obtain ⟨cl59, Ar59, qc59, Sz59, Nn59, Ha59, Gg59⟩ := (id f50)
  have hin59 : ¬ ((0 : Int32) < 0 ∨ cl59.slots.size ≤ ((0 : Int32)).toNatClampNeg) := inb_of Sz59 ⟨by decide, by decide⟩
  have hat59 : cl59.slots[((0 : Int32)).toNatClampNeg]? = some (.int pi20) := Ha59.at hin59 rfl
  have f60 : Arv Z h42 pa27 pk42 .int (2 : Int32) ([(.int pi43), (.int pi44)]) (.int 0) := (((P36.other W10 (Ne.symm P228)).other W26 (Ne.symm P236)).other W42 (Ne.symm P243))
  obtain ⟨cl61, Ar61, qc61, Sz61, Nn61, Ha61, Gg61⟩ := (id f60)
  have hin61 : ¬ (pi20 < 0 ∨ cl61.slots.size ≤ (pi20).toNatClampNeg) := own_inbB P63 Sz61
  have hat61 : cl61.slots[(pi20).toNatClampNeg]? = some (.int (selB pi20 pi43 pi44)) := Ha61.at hin61 (own_getB P63)
  obtain ⟨cl62, Ar62, qc62, Sz62, Nn62, Ha62, Gg62⟩ := (id f60)
  have hin62 : ¬ (pi20 < 0 ∨ cl62.slots.size ≤ (pi20).toNatClampNeg) := own_inbB P63 Sz62
  obtain ⟨T62, h62, X62, e62, W62, st62⟩ := stI X53 hx hZ e53 Ar62 (j := pi20) hin62 (g := (mkF m 39 #[(vr pa1), (vr pa2), (vi 1), (vi 1), (vi 0)] [(.int ((selB pi20 pi43 pi44) + (1 : Int32))), (.int pi20), (.ref pa27)])) rfl rfl (hb hby d15_39)
  have O63 : Old Z n0 h62 := O43.wr W62 P76
  have K63 : Keep h0 h62 [pa23, pa24, pa25, pa27, pa28] := K43.wr W62 (Or.inl (List.mem_of_getElem? (i := 3) rfl))
  have V62 : Arv Z h62 pa27 pk42 .int (2 : Int32) ([(.int (inc pi20 (0 : Int32) pi43)), (.int (inc pi20 (1 : Int32) pi44))]) (.int 0) := own_cast (own_setB P63) (Arv.set Ar62 qc62 Sz62 Nn62 Ha62 Gg62 (v := (.int ((selB pi20 pi43 pi44) + (1 : Int32)))) rfl W62 (pi20).toNatClampNeg rfl (own_ltB P63))
  have N62 := Fr.snoc X62 N42 P76
  have f64 : Arv Z h62 pa2 pk7 (.array .int) (2 : Int32) ([(.ref pa8), (.ref pa9)]) .null := (f44.other W62 P111)
  obtain ⟨cl65, Ar65, qc65, Sz65, Nn65, Ha65, Gg65⟩ := (id f64)
  have hin65 : ¬ ((1 : Int32) < 0 ∨ cl65.slots.size ≤ ((1 : Int32)).toNatClampNeg) := inb_of Sz65 ⟨by decide, by decide⟩
  have hat65 : cl65.slots[((1 : Int32)).toNatClampNeg]? = some (.ref pa9) := Ha65.at hin65 rfl
  have f66 : Arv Z h62 pa9 pk19 .int (2 : Int32) ([(.int pi20), (.int pi21)]) (.int 0) := (f50.other W62 P186)
  obtain ⟨cl67, Ar67, -, Sz67, Nn67, -, -⟩ := (id f66)
  have f68 : Fld Z h62 pa1 s3n "counts" "[[[I" (.ref pa3) := (f52.other W62 (Or.inl P93))
  obtain ⟨T69, X69, e69, st69⟩ := getF X62 hx hZ hown (host := "") (Or.inl (ow hw 58 rfl)) Via.refl e62 f68 (g := (mkF m 21 #[(vr pa1), (vr pa2), (vi 1), (vi 1), (vi 1)] [(.ref pa1)])) rfl rfl (hb hby d15_21)
  have f70 : Arv Z h62 pa3 pk10 (.array (.array .int)) (2 : Int32) ([(.ref pa11), (.ref pa12)]) .null := (f54.other W62 P128)
  obtain ⟨cl71, Ar71, qc71, Sz71, Nn71, Ha71, Gg71⟩ := (id f70)
  have hin71 : ¬ ((1 : Int32) < 0 ∨ cl71.slots.size ≤ ((1 : Int32)).toNatClampNeg) := inb_of Sz71 ⟨by decide, by decide⟩
  have hat71 : cl71.slots[((1 : Int32)).toNatClampNeg]? = some (.ref pa12) := Ha71.at hin71 rfl
  have f72 : Arv Z h62 pa12 pk26 (.array .int) (2 : Int32) ([(.ref pa27), (.ref pa28)]) .null := (f56.other W62 P209)
  obtain ⟨cl73, Ar73, qc73, Sz73, Nn73, Ha73, Gg73⟩ := (id f72)
  have hin73 : ¬ ((1 : Int32) < 0 ∨ cl73.slots.size ≤ ((1 : Int32)).toNatClampNeg) := inb_of Sz73 ⟨by decide, by decide⟩
  have hat73 : cl73.slots[((1 : Int32)).toNatClampNeg]? = some (.ref pa28) := Ha73.at hin73 rfl
  obtain ⟨cl74, Ar74, qc74, Sz74, Nn74, Ha74, Gg74⟩ := (id f64)
  have hin74 : ¬ ((1 : Int32) < 0 ∨ cl74.slots.size ≤ ((1 : Int32)).toNatClampNeg) := inb_of Sz74 ⟨by decide, by decide⟩
  have hat74 : cl74.slots[((1 : Int32)).toNatClampNeg]? = some (.ref pa9) := Ha74.at hin74 rfl
  obtain ⟨cl75, Ar75, qc75, Sz75, Nn75, Ha75, Gg75⟩ := (id f66)
  have hin75 : ¬ ((1 : Int32) < 0 ∨ cl75.slots.size ≤ ((1 : Int32)).toNatClampNeg) := inb_of Sz75 ⟨by decide, by decide⟩
  have hat75 : cl75.slots[((1 : Int32)).toNatClampNeg]? = some (.int pi21) := Ha75.at hin75 rfl
  have f76 : Arv Z h62 pa28 pk42 .int (2 : Int32) ([(.int pi45), (.int pi46)]) (.int 0) := ((((P38.other W10 (Ne.symm P229)).other W26 (Ne.symm P237)).other W42 (Ne.symm P244)).other W62 (Ne.symm P250))
  obtain ⟨cl77, Ar77, qc77, Sz77, Nn77, Ha77, Gg77⟩ := (id f76)
  have hin77 : ¬ (pi21 < 0 ∨ cl77.slots.size ≤ (pi21).toNatClampNeg) := own_inbB P64 Sz77
  have hat77 : cl77.slots[(pi21).toNatClampNeg]? = some (.int (selB pi21 pi45 pi46)) := Ha77.at hin77 (own_getB P64)
  obtain ⟨cl78, Ar78, qc78, Sz78, Nn78, Ha78, Gg78⟩ := (id f76)
  have hin78 : ¬ (pi21 < 0 ∨ cl78.slots.size ≤ (pi21).toNatClampNeg) := own_inbB P64 Sz78
  obtain ⟨T78, h78, X78, e78, W78, st78⟩ := stI X69 hx hZ e69 Ar78 (j := pi21) hin78 (g := (mkF m 39 #[(vr pa1), (vr pa2), (vi 1), (vi 1), (vi 1)] [(.int ((selB pi21 pi45 pi46) + (1 : Int32))), (.int pi21), (.ref pa28)])) rfl rfl (hb hby d15_39)
  have O79 : Old Z n0 h78 := O63.wr W78 P77
  have K79 : Keep h0 h78 [pa23, pa24, pa25, pa27, pa28] := K63.wr W78 (Or.inl (List.mem_of_getElem? (i := 4) rfl))
  have V78 : Arv Z h78 pa28 pk42 .int (2 : Int32) ([(.int (inc pi21 (0 : Int32) pi45)), (.int (inc pi21 (1 : Int32) pi46))]) (.int 0) := own_cast (own_setB P64) (Arv.set Ar78 qc78 Sz78 Nn78 Ha78 Gg78 (v := (.int ((selB pi21 pi45 pi46) + (1 : Int32)))) rfl W78 (pi21).toNatClampNeg rfl (own_ltB P64))
  have N78 := Fr.snoc X78 N62 P77
  have f80 : Arv Z h78 pa2 pk7 (.array .int) (2 : Int32) ([(.ref pa8), (.ref pa9)]) .null := (f64.other W78 P112)
  obtain ⟨cl81, Ar81, qc81, Sz81, Nn81, Ha81, Gg81⟩ := (id f80)
  have hin81 : ¬ ((1 : Int32) < 0 ∨ cl81.slots.size ≤ ((1 : Int32)).toNatClampNeg) := inb_of Sz81 ⟨by decide, by decide⟩
  have hat81 : cl81.slots[((1 : Int32)).toNatClampNeg]? = some (.ref pa9) := Ha81.at hin81 rfl
  have f82 : Arv Z h78 pa9 pk19 .int (2 : Int32) ([(.int pi20), (.int pi21)]) (.int 0) := (f66.other W78 P187)
  obtain ⟨cl83, Ar83, -, Sz83, Nn83, -, -⟩ := (id f82)
  obtain ⟨cl84, Ar84, -, Sz84, Nn84, -, -⟩ := (id f80)
  have f85 : Exa Z h78 pa23 "[I" := (((((P31.wr W10).wr W26).wr W42).wr W62).wr W78)
  have f86 : Arv Z h78 pa23 pk32 .int (3 : Int32) ([(.int (inc pi16 (0 : Int32) pi33)), (.int (inc pi16 (1 : Int32) pi34)), (.int (inc pi16 (2 : Int32) pi35))]) (.int 0) := ((((V10.other W26 P226).other W42 P227).other W62 P228).other W78 P229)
  have f87 : Exa Z h78 pa24 "[I" := (((((P33.wr W10).wr W26).wr W42).wr W62).wr W78)
  have f88 : Arv Z h78 pa24 pk32 .int (3 : Int32) ([(.int (inc pi17 (0 : Int32) pi36)), (.int (inc pi17 (1 : Int32) pi37)), (.int (inc pi17 (2 : Int32) pi38))]) (.int 0) := (((V26.other W42 P235).other W62 P236).other W78 P237)
  have f89 : Exa Z h78 pa25 "[I" := (((((P35.wr W10).wr W26).wr W42).wr W62).wr W78)
  have f90 : Arv Z h78 pa25 pk32 .int (3 : Int32) ([(.int (inc pi18 (0 : Int32) pi39)), (.int (inc pi18 (1 : Int32) pi40)), (.int (inc pi18 (2 : Int32) pi41))]) (.int 0) := ((V42.other W62 P243).other W78 P244)
  have f91 : Exa Z h78 pa27 "[I" := (((((P37.wr W10).wr W26).wr W42).wr W62).wr W78)
  have f92 : Arv Z h78 pa27 pk42 .int (2 : Int32) ([(.int (inc pi20 (0 : Int32) pi43)), (.int (inc pi20 (1 : Int32) pi44))]) (.int 0) := (V62.other W78 P250)
  have f93 : Exa Z h78 pa28 "[I" := (((((P39.wr W10).wr W26).wr W42).wr W62).wr W78)
  obtain ⟨fs, hr, hrun, hended, hW, hsame⟩ := X78.leave (v := none) (fun _ => rfl)
  refine ⟨_, _, pre0 _ ?_, hrun, hended, _, _, rfl, ?_, ⟨_, rfl⟩, hW, hsame.mono (by decide) (by decide)⟩
  · skip
    show Steps p.tables e below (s₁.setTop (mkF m 0 #[(vr pa1), (vr pa2), (vi 1), .unset, .unset] [])) _
    refine XS.iconst X0.here hx rfl (hb hby d15_0) ?_
    refine XS.istoreN X0.here hx rfl (hb hby d15_1) rfl (l' := #[(vr pa1), (vr pa2), (vi 1), (vi 0), .unset]) rfl ?_
    refine XS.iloadN X0.here hx rfl (hb hby d15_2) rfl ?_
    refine XS.aloadN X0.here hx rfl (hb hby d15_3) rfl rfl ?_
    refine X0.arraylength hx (by rw [e0]; exact Ar1.1) (State.isArrayOf_alike hZ.alike Ar1.2.1) (g := (mkF m 4 #[(vr pa1), (vr pa2), (vi 1), (vi 0), .unset] [(.ref pa2), (.int 0)])) rfl rfl (hb hby d15_4) _ ?_
    rw [len_of Sz1 Nn1]
    refine XS.icmpNo X0.here hx rfl (hb hby d15_5) rfl (tlt (by decide : (0 : Int32) < (2 : Int32))).2.1 ?_
    show Steps p.tables e below (s₁.setTop (mkF m 8 #[(vr pa1), (vr pa2), (vi 1), (vi 0), .unset] [])) _
    refine XS.iconst X0.here hx rfl (hb hby d15_8) ?_
    refine XS.istore X0.here hx rfl (hb hby d15_9) rfl (l' := #[(vr pa1), (vr pa2), (vi 1), (vi 0), (vi 0)]) rfl ?_
    refine XS.iload X0.here hx rfl (hb hby d15_11) rfl ?_
    refine XS.aloadN X0.here hx rfl (hb hby d15_13) rfl rfl ?_
    refine XS.iloadN X0.here hx rfl (hb hby d15_14) rfl ?_
    refine X0.aaload hx (j := (0 : Int32)) (v := (.ref pa8)) (by rw [e0]; exact Ar2.1) (State.isArrayOf_alike hZ.alike Ar2.2.1) rfl Ar2.2.2 hin2 hat2 (g := (mkF m 15 #[(vr pa1), (vr pa2), (vi 1), (vi 0), (vi 0)] [(.int 0), (.ref pa2), (.int 0)])) rfl rfl (hb hby d15_15) _ ?_
    show Steps p.tables e below (s₁.setTop (mkF m 16 #[(vr pa1), (vr pa2), (vi 1), (vi 0), (vi 0)] [(.ref pa8), (.int 0)])) _
    refine X0.arraylength hx (by rw [e0]; exact Ar3.1) (State.isArrayOf_alike hZ.alike Ar3.2.1) (g := (mkF m 16 #[(vr pa1), (vr pa2), (vi 1), (vi 0), (vi 0)] [(.ref pa8), (.int 0)])) rfl rfl (hb hby d15_16) _ ?_
    rw [len_of Sz3 Nn3]
    refine XS.icmpNo X0.here hx rfl (hb hby d15_17) rfl (tlt (by decide : (0 : Int32) < (3 : Int32))).2.1 ?_
    refine XS.aloadN X0.here hx rfl (hb hby d15_20) rfl rfl ?_
    refine st4 _ ?_
    refine XS.iloadN X4.here hx rfl (hb hby d15_24) rfl ?_
    refine X4.aaload hx (j := (0 : Int32)) (v := (.ref pa11)) (by rw [e4]; exact Ar5.1) (State.isArrayOf_alike hZ.alike Ar5.2.1) rfl Ar5.2.2 hin5 hat5 (g := (mkF m 25 #[(vr pa1), (vr pa2), (vi 1), (vi 0), (vi 0)] [(.int 0), (.ref pa3)])) rfl rfl (hb hby d15_25) _ ?_
    show Steps p.tables e below (T4.setTop (mkF m 26 #[(vr pa1), (vr pa2), (vi 1), (vi 0), (vi 0)] [(.ref pa11)])) _
    refine XS.iload X4.here hx rfl (hb hby d15_26) rfl ?_
    refine X4.aaload hx (j := (0 : Int32)) (v := (.ref pa23)) (by rw [e4]; exact Ar6.1) (State.isArrayOf_alike hZ.alike Ar6.2.1) rfl Ar6.2.2 hin6 hat6 (g := (mkF m 28 #[(vr pa1), (vr pa2), (vi 1), (vi 0), (vi 0)] [(.int 0), (.ref pa11)])) rfl rfl (hb hby d15_28) _ ?_
    refine XS.aloadN X4.here hx rfl (hb hby d15_29) rfl rfl ?_
    refine XS.iloadN X4.here hx rfl (hb hby d15_30) rfl ?_
    refine X4.aaload hx (j := (0 : Int32)) (v := (.ref pa8)) (by rw [e4]; exact Ar7.1) (State.isArrayOf_alike hZ.alike Ar7.2.1) rfl Ar7.2.2 hin7 hat7 (g := (mkF m 31 #[(vr pa1), (vr pa2), (vi 1), (vi 0), (vi 0)] [(.int 0), (.ref pa2), (.ref pa23)])) rfl rfl (hb hby d15_31) _ ?_
    refine XS.iload X4.here hx rfl (hb hby d15_32) rfl ?_
    show Steps p.tables e below (T4.setTop (mkF m 34 #[(vr pa1), (vr pa2), (vi 1), (vi 0), (vi 0)] [(.int 0), (.ref pa8), (.ref pa23)])) _
    refine X4.iaload hx (j := (0 : Int32)) (v := (.int pi16)) (by rw [e4]; exact Ar8.1) (State.isArrayOf_alike hZ.alike Ar8.2.1) Ar8.2.2 hin8 hat8 (g := (mkF m 34 #[(vr pa1), (vr pa2), (vi 1), (vi 0), (vi 0)] [(.int 0), (.ref pa8), (.ref pa23)])) rfl rfl (hb hby d15_34) _ ?_
    jvm_step X4.here [X4.here.top, hx, (hb hby d15_35), Value.category]
    refine X4.iaload hx (j := pi16) (v := (.int (selT pi16 pi33 pi34 pi35))) (by rw [e4]; exact Ar9.1) (State.isArrayOf_alike hZ.alike Ar9.2.1) Ar9.2.2 hin9 hat9 (g := (mkF m 36 #[(vr pa1), (vr pa2), (vi 1), (vi 0), (vi 0)] [(.int pi16), (.ref pa23), (.int pi16), (.ref pa23)])) rfl rfl (hb hby d15_36) _ ?_
    refine XS.iloadN X4.here hx rfl (hb hby d15_37) rfl ?_
    refine XS.iadd X4.here hx rfl (hb hby d15_38) rfl ?_
    refine st10 _ ?_
    show Steps p.tables e below (T10.setTop (mkF m 40 #[(vr pa1), (vr pa2), (vi 1), (vi 0), (vi 0)] [])) _
    refine XS.iinc X10.here hx rfl (hb hby d15_40) rfl (l' := #[(vr pa1), (vr pa2), (vi 1), (vi 0), (vi 1)]) rfl ?_
    refine XS.goto X10.here hx rfl (pc0 := 43) (pc' := 11) rfl (hb hby d15_43) (by decide) (by decide) ?_
    refine XS.iload X10.here hx rfl (hb hby d15_11) rfl ?_
    refine XS.aloadN X10.here hx rfl (hb hby d15_13) rfl rfl ?_
    refine XS.iloadN X10.here hx rfl (hb hby d15_14) rfl ?_
    refine X10.aaload hx (j := (0 : Int32)) (v := (.ref pa8)) (by rw [e10]; exact Ar13.1) (State.isArrayOf_alike hZ.alike Ar13.2.1) rfl Ar13.2.2 hin13 hat13 (g := (mkF m 15 #[(vr pa1), (vr pa2), (vi 1), (vi 0), (vi 1)] [(.int 0), (.ref pa2), (.int 1)])) rfl rfl (hb hby d15_15) _ ?_
    show Steps p.tables e below (T10.setTop (mkF m 16 #[(vr pa1), (vr pa2), (vi 1), (vi 0), (vi 1)] [(.ref pa8), (.int 1)])) _
    refine X10.arraylength hx (by rw [e10]; exact Ar15.1) (State.isArrayOf_alike hZ.alike Ar15.2.1) (g := (mkF m 16 #[(vr pa1), (vr pa2), (vi 1), (vi 0), (vi 1)] [(.ref pa8), (.int 1)])) rfl rfl (hb hby d15_16) _ ?_
    rw [len_of Sz15 Nn15]
    refine XS.icmpNo X10.here hx rfl (hb hby d15_17) rfl (tlt (by decide : (1 : Int32) < (3 : Int32))).2.1 ?_
    refine XS.aloadN X10.here hx rfl (hb hby d15_20) rfl rfl ?_
    refine st17 _ ?_
    refine XS.iloadN X17.here hx rfl (hb hby d15_24) rfl ?_
    refine X17.aaload hx (j := (0 : Int32)) (v := (.ref pa11)) (by rw [e17]; exact Ar19.1) (State.isArrayOf_alike hZ.alike Ar19.2.1) rfl Ar19.2.2 hin19 hat19 (g := (mkF m 25 #[(vr pa1), (vr pa2), (vi 1), (vi 0), (vi 1)] [(.int 0), (.ref pa3)])) rfl rfl (hb hby d15_25) _ ?_
    show Steps p.tables e below (T17.setTop (mkF m 26 #[(vr pa1), (vr pa2), (vi 1), (vi 0), (vi 1)] [(.ref pa11)])) _
    refine XS.iload X17.here hx rfl (hb hby d15_26) rfl ?_
    refine X17.aaload hx (j := (1 : Int32)) (v := (.ref pa24)) (by rw [e17]; exact Ar21.1) (State.isArrayOf_alike hZ.alike Ar21.2.1) rfl Ar21.2.2 hin21 hat21 (g := (mkF m 28 #[(vr pa1), (vr pa2), (vi 1), (vi 0), (vi 1)] [(.int 1), (.ref pa11)])) rfl rfl (hb hby d15_28) _ ?_
    refine XS.aloadN X17.here hx rfl (hb hby d15_29) rfl rfl ?_
    refine XS.iloadN X17.here hx rfl (hb hby d15_30) rfl ?_
    refine X17.aaload hx (j := (0 : Int32)) (v := (.ref pa8)) (by rw [e17]; exact Ar22.1) (State.isArrayOf_alike hZ.alike Ar22.2.1) rfl Ar22.2.2 hin22 hat22 (g := (mkF m 31 #[(vr pa1), (vr pa2), (vi 1), (vi 0), (vi 1)] [(.int 0), (.ref pa2), (.ref pa24)])) rfl rfl (hb hby d15_31) _ ?_
    refine XS.iload X17.here hx rfl (hb hby d15_32) rfl ?_
    show Steps p.tables e below (T17.setTop (mkF m 34 #[(vr pa1), (vr pa2), (vi 1), (vi 0), (vi 1)] [(.int 1), (.ref pa8), (.ref pa24)])) _
    refine X17.iaload hx (j := (1 : Int32)) (v := (.int pi17)) (by rw [e17]; exact Ar23.1) (State.isArrayOf_alike hZ.alike Ar23.2.1) Ar23.2.2 hin23 hat23 (g := (mkF m 34 #[(vr pa1), (vr pa2), (vi 1), (vi 0), (vi 1)] [(.int 1), (.ref pa8), (.ref pa24)])) rfl rfl (hb hby d15_34) _ ?_
    jvm_step X17.here [X17.here.top, hx, (hb hby d15_35), Value.category]
    refine X17.iaload hx (j := pi17) (v := (.int (selT pi17 pi36 pi37 pi38))) (by rw [e17]; exact Ar25.1) (State.isArrayOf_alike hZ.alike Ar25.2.1) Ar25.2.2 hin25 hat25 (g := (mkF m 36 #[(vr pa1), (vr pa2), (vi 1), (vi 0), (vi 1)] [(.int pi17), (.ref pa24), (.int pi17), (.ref pa24)])) rfl rfl (hb hby d15_36) _ ?_
    refine XS.iloadN X17.here hx rfl (hb hby d15_37) rfl ?_
    refine XS.iadd X17.here hx rfl (hb hby d15_38) rfl ?_
    refine st26 _ ?_
    show Steps p.tables e below (T26.setTop (mkF m 40 #[(vr pa1), (vr pa2), (vi 1), (vi 0), (vi 1)] [])) _
    refine XS.iinc X26.here hx rfl (hb hby d15_40) rfl (l' := #[(vr pa1), (vr pa2), (vi 1), (vi 0), (vi 2)]) rfl ?_
    refine XS.goto X26.here hx rfl (pc0 := 43) (pc' := 11) rfl (hb hby d15_43) (by decide) (by decide) ?_
    refine XS.iload X26.here hx rfl (hb hby d15_11) rfl ?_
    refine XS.aloadN X26.here hx rfl (hb hby d15_13) rfl rfl ?_
    refine XS.iloadN X26.here hx rfl (hb hby d15_14) rfl ?_
    refine X26.aaload hx (j := (0 : Int32)) (v := (.ref pa8)) (by rw [e26]; exact Ar29.1) (State.isArrayOf_alike hZ.alike Ar29.2.1) rfl Ar29.2.2 hin29 hat29 (g := (mkF m 15 #[(vr pa1), (vr pa2), (vi 1), (vi 0), (vi 2)] [(.int 0), (.ref pa2), (.int 2)])) rfl rfl (hb hby d15_15) _ ?_
    show Steps p.tables e below (T26.setTop (mkF m 16 #[(vr pa1), (vr pa2), (vi 1), (vi 0), (vi 2)] [(.ref pa8), (.int 2)])) _
    refine X26.arraylength hx (by rw [e26]; exact Ar31.1) (State.isArrayOf_alike hZ.alike Ar31.2.1) (g := (mkF m 16 #[(vr pa1), (vr pa2), (vi 1), (vi 0), (vi 2)] [(.ref pa8), (.int 2)])) rfl rfl (hb hby d15_16) _ ?_
    rw [len_of Sz31 Nn31]
    refine XS.icmpNo X26.here hx rfl (hb hby d15_17) rfl (tlt (by decide : (2 : Int32) < (3 : Int32))).2.1 ?_
    refine XS.aloadN X26.here hx rfl (hb hby d15_20) rfl rfl ?_
    refine st33 _ ?_
    refine XS.iloadN X33.here hx rfl (hb hby d15_24) rfl ?_
    refine X33.aaload hx (j := (0 : Int32)) (v := (.ref pa11)) (by rw [e33]; exact Ar35.1) (State.isArrayOf_alike hZ.alike Ar35.2.1) rfl Ar35.2.2 hin35 hat35 (g := (mkF m 25 #[(vr pa1), (vr pa2), (vi 1), (vi 0), (vi 2)] [(.int 0), (.ref pa3)])) rfl rfl (hb hby d15_25) _ ?_
    show Steps p.tables e below (T33.setTop (mkF m 26 #[(vr pa1), (vr pa2), (vi 1), (vi 0), (vi 2)] [(.ref pa11)])) _
    refine XS.iload X33.here hx rfl (hb hby d15_26) rfl ?_
    refine X33.aaload hx (j := (2 : Int32)) (v := (.ref pa25)) (by rw [e33]; exact Ar37.1) (State.isArrayOf_alike hZ.alike Ar37.2.1) rfl Ar37.2.2 hin37 hat37 (g := (mkF m 28 #[(vr pa1), (vr pa2), (vi 1), (vi 0), (vi 2)] [(.int 2), (.ref pa11)])) rfl rfl (hb hby d15_28) _ ?_
    refine XS.aloadN X33.here hx rfl (hb hby d15_29) rfl rfl ?_
    refine XS.iloadN X33.here hx rfl (hb hby d15_30) rfl ?_
    refine X33.aaload hx (j := (0 : Int32)) (v := (.ref pa8)) (by rw [e33]; exact Ar38.1) (State.isArrayOf_alike hZ.alike Ar38.2.1) rfl Ar38.2.2 hin38 hat38 (g := (mkF m 31 #[(vr pa1), (vr pa2), (vi 1), (vi 0), (vi 2)] [(.int 0), (.ref pa2), (.ref pa25)])) rfl rfl (hb hby d15_31) _ ?_
    refine XS.iload X33.here hx rfl (hb hby d15_32) rfl ?_
    show Steps p.tables e below (T33.setTop (mkF m 34 #[(vr pa1), (vr pa2), (vi 1), (vi 0), (vi 2)] [(.int 2), (.ref pa8), (.ref pa25)])) _
    refine X33.iaload hx (j := (2 : Int32)) (v := (.int pi18)) (by rw [e33]; exact Ar39.1) (State.isArrayOf_alike hZ.alike Ar39.2.1) Ar39.2.2 hin39 hat39 (g := (mkF m 34 #[(vr pa1), (vr pa2), (vi 1), (vi 0), (vi 2)] [(.int 2), (.ref pa8), (.ref pa25)])) rfl rfl (hb hby d15_34) _ ?_
    jvm_step X33.here [X33.here.top, hx, (hb hby d15_35), Value.category]
    refine X33.iaload hx (j := pi18) (v := (.int (selT pi18 pi39 pi40 pi41))) (by rw [e33]; exact Ar41.1) (State.isArrayOf_alike hZ.alike Ar41.2.1) Ar41.2.2 hin41 hat41 (g := (mkF m 36 #[(vr pa1), (vr pa2), (vi 1), (vi 0), (vi 2)] [(.int pi18), (.ref pa25), (.int pi18), (.ref pa25)])) rfl rfl (hb hby d15_36) _ ?_
    refine XS.iloadN X33.here hx rfl (hb hby d15_37) rfl ?_
    refine XS.iadd X33.here hx rfl (hb hby d15_38) rfl ?_
    refine st42 _ ?_
    show Steps p.tables e below (T42.setTop (mkF m 40 #[(vr pa1), (vr pa2), (vi 1), (vi 0), (vi 2)] [])) _
    refine XS.iinc X42.here hx rfl (hb hby d15_40) rfl (l' := #[(vr pa1), (vr pa2), (vi 1), (vi 0), (vi 3)]) rfl ?_
    refine XS.goto X42.here hx rfl (pc0 := 43) (pc' := 11) rfl (hb hby d15_43) (by decide) (by decide) ?_
    refine XS.iload X42.here hx rfl (hb hby d15_11) rfl ?_
    refine XS.aloadN X42.here hx rfl (hb hby d15_13) rfl rfl ?_
    refine XS.iloadN X42.here hx rfl (hb hby d15_14) rfl ?_
    refine X42.aaload hx (j := (0 : Int32)) (v := (.ref pa8)) (by rw [e42]; exact Ar45.1) (State.isArrayOf_alike hZ.alike Ar45.2.1) rfl Ar45.2.2 hin45 hat45 (g := (mkF m 15 #[(vr pa1), (vr pa2), (vi 1), (vi 0), (vi 3)] [(.int 0), (.ref pa2), (.int 3)])) rfl rfl (hb hby d15_15) _ ?_
    show Steps p.tables e below (T42.setTop (mkF m 16 #[(vr pa1), (vr pa2), (vi 1), (vi 0), (vi 3)] [(.ref pa8), (.int 3)])) _
    refine X42.arraylength hx (by rw [e42]; exact Ar47.1) (State.isArrayOf_alike hZ.alike Ar47.2.1) (g := (mkF m 16 #[(vr pa1), (vr pa2), (vi 1), (vi 0), (vi 3)] [(.ref pa8), (.int 3)])) rfl rfl (hb hby d15_16) _ ?_
    rw [len_of Sz47 Nn47]
    refine XS.icmpYes X42.here hx rfl (pc0 := 17) (pc' := 46) rfl (hb hby d15_17) rfl (flt (by decide : ¬ ((3 : Int32) < (3 : Int32)))).2.1 (by decide) (by decide) ?_
    refine XS.iinc X42.here hx rfl (hb hby d15_46) rfl (l' := #[(vr pa1), (vr pa2), (vi 1), (vi 1), (vi 3)]) rfl ?_
    refine XS.goto X42.here hx rfl (pc0 := 49) (pc' := 2) rfl (hb hby d15_49) (by decide) (by decide) ?_
    refine XS.iloadN X42.here hx rfl (hb hby d15_2) rfl ?_
    refine XS.aloadN X42.here hx rfl (hb hby d15_3) rfl rfl ?_
    show Steps p.tables e below (T42.setTop (mkF m 4 #[(vr pa1), (vr pa2), (vi 1), (vi 1), (vi 3)] [(.ref pa2), (.int 1)])) _
    refine X42.arraylength hx (by rw [e42]; exact Ar48.1) (State.isArrayOf_alike hZ.alike Ar48.2.1) (g := (mkF m 4 #[(vr pa1), (vr pa2), (vi 1), (vi 1), (vi 3)] [(.ref pa2), (.int 1)])) rfl rfl (hb hby d15_4) _ ?_
    rw [len_of Sz48 Nn48]
    refine XS.icmpNo X42.here hx rfl (hb hby d15_5) rfl (tlt (by decide : (1 : Int32) < (2 : Int32))).2.1 ?_
    refine XS.iconst X42.here hx rfl (hb hby d15_8) ?_
    refine XS.istore X42.here hx rfl (hb hby d15_9) rfl (l' := #[(vr pa1), (vr pa2), (vi 1), (vi 1), (vi 0)]) rfl ?_
    refine XS.iload X42.here hx rfl (hb hby d15_11) rfl ?_
    refine XS.aloadN X42.here hx rfl (hb hby d15_13) rfl rfl ?_
    show Steps p.tables e below (T42.setTop (mkF m 14 #[(vr pa1), (vr pa2), (vi 1), (vi 1), (vi 0)] [(.ref pa2), (.int 0)])) _
    refine XS.iloadN X42.here hx rfl (hb hby d15_14) rfl ?_
    refine X42.aaload hx (j := (1 : Int32)) (v := (.ref pa9)) (by rw [e42]; exact Ar49.1) (State.isArrayOf_alike hZ.alike Ar49.2.1) rfl Ar49.2.2 hin49 hat49 (g := (mkF m 15 #[(vr pa1), (vr pa2), (vi 1), (vi 1), (vi 0)] [(.int 1), (.ref pa2), (.int 0)])) rfl rfl (hb hby d15_15) _ ?_
    refine X42.arraylength hx (by rw [e42]; exact Ar51.1) (State.isArrayOf_alike hZ.alike Ar51.2.1) (g := (mkF m 16 #[(vr pa1), (vr pa2), (vi 1), (vi 1), (vi 0)] [(.ref pa9), (.int 0)])) rfl rfl (hb hby d15_16) _ ?_
    rw [len_of Sz51 Nn51]
    refine XS.icmpNo X42.here hx rfl (hb hby d15_17) rfl (tlt (by decide : (0 : Int32) < (2 : Int32))).2.1 ?_
    refine XS.aloadN X42.here hx rfl (hb hby d15_20) rfl rfl ?_
    refine st53 _ ?_
    show Steps p.tables e below (T53.setTop (mkF m 24 #[(vr pa1), (vr pa2), (vi 1), (vi 1), (vi 0)] [(.ref pa3)])) _
    refine XS.iloadN X53.here hx rfl (hb hby d15_24) rfl ?_
    refine X53.aaload hx (j := (1 : Int32)) (v := (.ref pa12)) (by rw [e53]; exact Ar55.1) (State.isArrayOf_alike hZ.alike Ar55.2.1) rfl Ar55.2.2 hin55 hat55 (g := (mkF m 25 #[(vr pa1), (vr pa2), (vi 1), (vi 1), (vi 0)] [(.int 1), (.ref pa3)])) rfl rfl (hb hby d15_25) _ ?_
    refine XS.iload X53.here hx rfl (hb hby d15_26) rfl ?_
    refine X53.aaload hx (j := (0 : Int32)) (v := (.ref pa27)) (by rw [e53]; exact Ar57.1) (State.isArrayOf_alike hZ.alike Ar57.2.1) rfl Ar57.2.2 hin57 hat57 (g := (mkF m 28 #[(vr pa1), (vr pa2), (vi 1), (vi 1), (vi 0)] [(.int 0), (.ref pa12)])) rfl rfl (hb hby d15_28) _ ?_
    refine XS.aloadN X53.here hx rfl (hb hby d15_29) rfl rfl ?_
    refine XS.iloadN X53.here hx rfl (hb hby d15_30) rfl ?_
    show Steps p.tables e below (T53.setTop (mkF m 31 #[(vr pa1), (vr pa2), (vi 1), (vi 1), (vi 0)] [(.int 1), (.ref pa2), (.ref pa27)])) _
    refine X53.aaload hx (j := (1 : Int32)) (v := (.ref pa9)) (by rw [e53]; exact Ar58.1) (State.isArrayOf_alike hZ.alike Ar58.2.1) rfl Ar58.2.2 hin58 hat58 (g := (mkF m 31 #[(vr pa1), (vr pa2), (vi 1), (vi 1), (vi 0)] [(.int 1), (.ref pa2), (.ref pa27)])) rfl rfl (hb hby d15_31) _ ?_
    refine XS.iload X53.here hx rfl (hb hby d15_32) rfl ?_
    refine X53.iaload hx (j := (0 : Int32)) (v := (.int pi20)) (by rw [e53]; exact Ar59.1) (State.isArrayOf_alike hZ.alike Ar59.2.1) Ar59.2.2 hin59 hat59 (g := (mkF m 34 #[(vr pa1), (vr pa2), (vi 1), (vi 1), (vi 0)] [(.int 0), (.ref pa9), (.ref pa27)])) rfl rfl (hb hby d15_34) _ ?_
    jvm_step X53.here [X53.here.top, hx, (hb hby d15_35), Value.category]
    refine X53.iaload hx (j := pi20) (v := (.int (selB pi20 pi43 pi44))) (by rw [e53]; exact Ar61.1) (State.isArrayOf_alike hZ.alike Ar61.2.1) Ar61.2.2 hin61 hat61 (g := (mkF m 36 #[(vr pa1), (vr pa2), (vi 1), (vi 1), (vi 0)] [(.int pi20), (.ref pa27), (.int pi20), (.ref pa27)])) rfl rfl (hb hby d15_36) _ ?_
    refine XS.iloadN X53.here hx rfl (hb hby d15_37) rfl ?_
    show Steps p.tables e below (T53.setTop (mkF m 38 #[(vr pa1), (vr pa2), (vi 1), (vi 1), (vi 0)] [(.int 1), (.int (selB pi20 pi43 pi44)), (.int pi20), (.ref pa27)])) _
    refine XS.iadd X53.here hx rfl (hb hby d15_38) rfl ?_
    refine st62 _ ?_
    refine XS.iinc X62.here hx rfl (hb hby d15_40) rfl (l' := #[(vr pa1), (vr pa2), (vi 1), (vi 1), (vi 1)]) rfl ?_
    refine XS.goto X62.here hx rfl (pc0 := 43) (pc' := 11) rfl (hb hby d15_43) (by decide) (by decide) ?_
    refine XS.iload X62.here hx rfl (hb hby d15_11) rfl ?_
    refine XS.aloadN X62.here hx rfl (hb hby d15_13) rfl rfl ?_
    show Steps p.tables e below (T62.setTop (mkF m 14 #[(vr pa1), (vr pa2), (vi 1), (vi 1), (vi 1)] [(.ref pa2), (.int 1)])) _
    refine XS.iloadN X62.here hx rfl (hb hby d15_14) rfl ?_
    refine X62.aaload hx (j := (1 : Int32)) (v := (.ref pa9)) (by rw [e62]; exact Ar65.1) (State.isArrayOf_alike hZ.alike Ar65.2.1) rfl Ar65.2.2 hin65 hat65 (g := (mkF m 15 #[(vr pa1), (vr pa2), (vi 1), (vi 1), (vi 1)] [(.int 1), (.ref pa2), (.int 1)])) rfl rfl (hb hby d15_15) _ ?_
    refine X62.arraylength hx (by rw [e62]; exact Ar67.1) (State.isArrayOf_alike hZ.alike Ar67.2.1) (g := (mkF m 16 #[(vr pa1), (vr pa2), (vi 1), (vi 1), (vi 1)] [(.ref pa9), (.int 1)])) rfl rfl (hb hby d15_16) _ ?_
    rw [len_of Sz67 Nn67]
    refine XS.icmpNo X62.here hx rfl (hb hby d15_17) rfl (tlt (by decide : (1 : Int32) < (2 : Int32))).2.1 ?_
    refine XS.aloadN X62.here hx rfl (hb hby d15_20) rfl rfl ?_
    refine st69 _ ?_
    show Steps p.tables e below (T69.setTop (mkF m 24 #[(vr pa1), (vr pa2), (vi 1), (vi 1), (vi 1)] [(.ref pa3)])) _
    refine XS.iloadN X69.here hx rfl (hb hby d15_24) rfl ?_
    refine X69.aaload hx (j := (1 : Int32)) (v := (.ref pa12)) (by rw [e69]; exact Ar71.1) (State.isArrayOf_alike hZ.alike Ar71.2.1) rfl Ar71.2.2 hin71 hat71 (g := (mkF m 25 #[(vr pa1), (vr pa2), (vi 1), (vi 1), (vi 1)] [(.int 1), (.ref pa3)])) rfl rfl (hb hby d15_25) _ ?_
    refine XS.iload X69.here hx rfl (hb hby d15_26) rfl ?_
    refine X69.aaload hx (j := (1 : Int32)) (v := (.ref pa28)) (by rw [e69]; exact Ar73.1) (State.isArrayOf_alike hZ.alike Ar73.2.1) rfl Ar73.2.2 hin73 hat73 (g := (mkF m 28 #[(vr pa1), (vr pa2), (vi 1), (vi 1), (vi 1)] [(.int 1), (.ref pa12)])) rfl rfl (hb hby d15_28) _ ?_
    refine XS.aloadN X69.here hx rfl (hb hby d15_29) rfl rfl ?_
    refine XS.iloadN X69.here hx rfl (hb hby d15_30) rfl ?_
    show Steps p.tables e below (T69.setTop (mkF m 31 #[(vr pa1), (vr pa2), (vi 1), (vi 1), (vi 1)] [(.int 1), (.ref pa2), (.ref pa28)])) _
    refine X69.aaload hx (j := (1 : Int32)) (v := (.ref pa9)) (by rw [e69]; exact Ar74.1) (State.isArrayOf_alike hZ.alike Ar74.2.1) rfl Ar74.2.2 hin74 hat74 (g := (mkF m 31 #[(vr pa1), (vr pa2), (vi 1), (vi 1), (vi 1)] [(.int 1), (.ref pa2), (.ref pa28)])) rfl rfl (hb hby d15_31) _ ?_
    refine XS.iload X69.here hx rfl (hb hby d15_32) rfl ?_
    refine X69.iaload hx (j := (1 : Int32)) (v := (.int pi21)) (by rw [e69]; exact Ar75.1) (State.isArrayOf_alike hZ.alike Ar75.2.1) Ar75.2.2 hin75 hat75 (g := (mkF m 34 #[(vr pa1), (vr pa2), (vi 1), (vi 1), (vi 1)] [(.int 1), (.ref pa9), (.ref pa28)])) rfl rfl (hb hby d15_34) _ ?_
    jvm_step X69.here [X69.here.top, hx, (hb hby d15_35), Value.category]
    refine X69.iaload hx (j := pi21) (v := (.int (selB pi21 pi45 pi46))) (by rw [e69]; exact Ar77.1) (State.isArrayOf_alike hZ.alike Ar77.2.1) Ar77.2.2 hin77 hat77 (g := (mkF m 36 #[(vr pa1), (vr pa2), (vi 1), (vi 1), (vi 1)] [(.int pi21), (.ref pa28), (.int pi21), (.ref pa28)])) rfl rfl (hb hby d15_36) _ ?_
    refine XS.iloadN X69.here hx rfl (hb hby d15_37) rfl ?_
    show Steps p.tables e below (T69.setTop (mkF m 38 #[(vr pa1), (vr pa2), (vi 1), (vi 1), (vi 1)] [(.int 1), (.int (selB pi21 pi45 pi46)), (.int pi21), (.ref pa28)])) _
    refine XS.iadd X69.here hx rfl (hb hby d15_38) rfl ?_
    refine st78 _ ?_
    refine XS.iinc X78.here hx rfl (hb hby d15_40) rfl (l' := #[(vr pa1), (vr pa2), (vi 1), (vi 1), (vi 2)]) rfl ?_
    refine XS.goto X78.here hx rfl (pc0 := 43) (pc' := 11) rfl (hb hby d15_43) (by decide) (by decide) ?_
    refine XS.iload X78.here hx rfl (hb hby d15_11) rfl ?_
    refine XS.aloadN X78.here hx rfl (hb hby d15_13) rfl rfl ?_
    show Steps p.tables e below (T78.setTop (mkF m 14 #[(vr pa1), (vr pa2), (vi 1), (vi 1), (vi 2)] [(.ref pa2), (.int 2)])) _
    refine XS.iloadN X78.here hx rfl (hb hby d15_14) rfl ?_
    refine X78.aaload hx (j := (1 : Int32)) (v := (.ref pa9)) (by rw [e78]; exact Ar81.1) (State.isArrayOf_alike hZ.alike Ar81.2.1) rfl Ar81.2.2 hin81 hat81 (g := (mkF m 15 #[(vr pa1), (vr pa2), (vi 1), (vi 1), (vi 2)] [(.int 1), (.ref pa2), (.int 2)])) rfl rfl (hb hby d15_15) _ ?_
    refine X78.arraylength hx (by rw [e78]; exact Ar83.1) (State.isArrayOf_alike hZ.alike Ar83.2.1) (g := (mkF m 16 #[(vr pa1), (vr pa2), (vi 1), (vi 1), (vi 2)] [(.ref pa9), (.int 2)])) rfl rfl (hb hby d15_16) _ ?_
    rw [len_of Sz83 Nn83]
    refine XS.icmpYes X78.here hx rfl (pc0 := 17) (pc' := 46) rfl (hb hby d15_17) rfl (flt (by decide : ¬ ((2 : Int32) < (2 : Int32)))).2.1 (by decide) (by decide) ?_
    refine XS.iinc X78.here hx rfl (hb hby d15_46) rfl (l' := #[(vr pa1), (vr pa2), (vi 1), (vi 2), (vi 2)]) rfl ?_
    refine XS.goto X78.here hx rfl (pc0 := 49) (pc' := 2) rfl (hb hby d15_49) (by decide) (by decide) ?_
    show Steps p.tables e below (T78.setTop (mkF m 2 #[(vr pa1), (vr pa2), (vi 1), (vi 2), (vi 2)] [])) _
    refine XS.iloadN X78.here hx rfl (hb hby d15_2) rfl ?_
    refine XS.aloadN X78.here hx rfl (hb hby d15_3) rfl rfl ?_
    refine X78.arraylength hx (by rw [e78]; exact Ar84.1) (State.isArrayOf_alike hZ.alike Ar84.2.1) (g := (mkF m 4 #[(vr pa1), (vr pa2), (vi 1), (vi 2), (vi 2)] [(.ref pa2), (.int 2)])) rfl rfl (hb hby d15_4) _ ?_
    rw [len_of Sz84 Nn84]
    refine XS.icmpYes X78.here hx rfl (pc0 := 5) (pc' := 52) rfl (hb hby d15_5) rfl (flt (by decide : ¬ ((2 : Int32) < (2 : Int32)))).2.1 (by decide) (by decide) ?_
    exact X78.returnOut hx hret0 (hb hby d15_52) hr
  · show Q_au15_1 Z wDEFAULTCAPACITY_EMPTY_ELEMENTDATA kwDEFAULTCAPACITY_EMPTY_ELEMENTDATA pa1 pa2 pa3 pk7 pa8 pa9 pk10 pa11 pa12 pk15 pi16 pi17 pi18 pk19 pi20 pi21 pk22 pa23 pa24 pa25 pk26 pa27 pa28 pk32 pi33 pi34 pi35 pi36 pi37 pi38 pi39 pi40 pi41 pk42 pi43 pi44 pi45 pi46 h0 n0 _ T78.heap _
    rw [e78]
    exact ⟨rfl, N78, K79, f85, f86, f87, f88, f89, f90, f91, f92, f93, V78⟩
theorem ef_au16_1 (m : MethodId) (x0 : Addr)  : entryFrame m #[(.ref x0)] 1 = mkF m 0 #[(vr x0)] [] := by first | (simp [entryFrame, mkF, argsToLocals, Value.category]; done) | rfl
def Q_au16_1 (Z : State) (wDEFAULTCAPACITY_EMPTY_ELEMENTDATA : Addr) (kwDEFAULTCAPACITY_EMPTY_ELEMENTDATA : ClassId) (pa1 : Addr) (h0 : Heap) (n0 : Nat) (v : Option Value) (h : Heap) (L : List Loc) : Prop := v = some (.int 2) ∧ Fr n0 L ∧ h = h0
theorem au16_1 (l : Launch) (Z : State) (a0 : Array Value) (hw : ∀ d ∈ tables_1, d.before a0 Z = true) (ws : List Jvm.Cond) (wDEFAULTCAPACITY_EMPTY_ELEMENTDATA : Addr) (kwDEFAULTCAPACITY_EMPTY_ELEMENTDATA : ClassId) (hS : SS Z wDEFAULTCAPACITY_EMPTY_ELEMENTDATA kwDEFAULTCAPACITY_EMPTY_ELEMENTDATA) (pa1 : Addr) (h0 : Heap) (n0 : Nat) (O0 : Old Z n0 h0) (P3 : Fld Z h0 pa1 s0n "size" "I" (.int 2)) :
    MetB l M14 jdk_38_method_8_code 1 (some .int) ws (rmk 0 0 0 0) Z h0 #[(.ref pa1)] (Q_au16_1 Z wDEFAULTCAPACITY_EMPTY_ELEMENTDATA kwDEFAULTCAPACITY_EMPTY_ELEMENTDATA pa1 h0 n0) := by
  refine own_body (plainFor_of_name pn_java_util_ArrayList) ?_
  intro p e s m below meth c s₁ hx hby hml hown hnm hret0 hlk0 hZ X0 e0
  have N0 := Fr.nil n0
  have pre0 : ∀ t, Steps p.tables e below (s₁.setTop (mkF m 0 #[(vr pa1)] [])) t → Steps p.tables e below (s₁.setTop (entryFrame m #[(.ref pa1)] 1)) t := fun t k => castTop (ef_au16_1 m pa1) k
  have hS0 := hS
  obtain ⟨S_wDEFAULTCAPACITY_EMPTY_ELEMENTDATA, E_wDEFAULTCAPACITY_EMPTY_ELEMENTDATA, V_wDEFAULTCAPACITY_EMPTY_ELEMENTDATA⟩ := hS0
  obtain ⟨T1, X1, e1, st1⟩ := getF X0 hx hZ hown (host := "") (Or.inl (ow hw 93 rfl)) Via.refl e0 P3 (g := (mkF m 1 #[(vr pa1)] [(.ref pa1)])) rfl rfl (hb hby d16_1)
  obtain ⟨fs, hr, hrun, hended, hW, hsame⟩ := X1.leave (v := some (.int 2)) (fun h => by rw [hret0] at h; cases h)
  refine ⟨_, _, pre0 _ ?_, hrun, hended, _, _, rfl, ?_, ⟨_, rfl⟩, hW, hsame.mono (by decide) (by decide)⟩
  · skip
    show Steps p.tables e below (s₁.setTop (mkF m 0 #[(vr pa1)] [])) _
    refine XS.aloadN X0.here hx rfl (hb hby d16_0) rfl rfl ?_
    refine st1 _ ?_
    exact retI X1 hx hret0 (hb hby d16_4) hr
  · show Q_au16_1 Z wDEFAULTCAPACITY_EMPTY_ELEMENTDATA kwDEFAULTCAPACITY_EMPTY_ELEMENTDATA pa1 h0 n0 _ T1.heap _
    rw [e1]
    exact ⟨rfl, N0, rfl⟩
def Q_au9_1 (Z : State) (wDEFAULTCAPACITY_EMPTY_ELEMENTDATA : Addr) (kwDEFAULTCAPACITY_EMPTY_ELEMENTDATA : ClassId) (pa1 : Addr) (pa2 : Addr) (pa3 : Addr) (pi4 : Int32) (pa5 : Addr) (pa7 : Addr) (pk8 : ClassId) (pa9 : Addr) (pa10 : Addr) (pa11 : Addr) (pk13 : ClassId) (pa14 : Addr) (pa15 : Addr) (pk16 : ClassId) (pa17 : Addr) (pa18 : Addr) (pa19 : Addr) (pk20 : ClassId) (pa21 : Addr) (pa22 : Addr) (pk23 : ClassId) (pa24 : Addr) (pk25 : ClassId) (pi26 : Int32) (pi27 : Int32) (pi28 : Int32) (pk29 : ClassId) (pi30 : Int32) (pi31 : Int32) (pk32 : ClassId) (pi33 : Int32) (pi34 : Int32) (pi35 : Int32) (pi36 : Int32) (pi37 : Int32) (pi38 : Int32) (pi39 : Int32) (pi40 : Int32) (pi41 : Int32) (pk42 : ClassId) (pi43 : Int32) (pi44 : Int32) (pi45 : Int32) (pi46 : Int32) (h0 : Heap) (n0 : Nat) (v : Option Value) (h : Heap) (L : List Loc) : Prop := v = none ∧ Fr n0 L ∧ Keep h0 h [pa5, pa11, pa17, pa18, pa19, pa21, pa22] ∧ Exa Z h pa5 s0n ∧ Fld Z h pa5 s4n "modCount" "I" (.int 2) ∧ Fld Z h pa5 s0n "elementData" s1n (.ref pa11) ∧ Fld Z h pa5 s0n "size" "I" (.int 2) ∧ Exa Z h pa11 s1n ∧ Arv Z h pa11 pk23 (.object s2n) (10 : Int32) ([(.ref pa24), (.ref pa2), .null, .null, .null, .null, .null, .null, .null, .null]) .null ∧ Ovr Z pk23 s2n ∧ Exa Z h pa17 "[I" ∧ Arv Z h pa17 pk32 .int (3 : Int32) ([(.int (inc pi26 (0 : Int32) pi33)), (.int (inc pi26 (1 : Int32) pi34)), (.int (inc pi26 (2 : Int32) pi35))]) (.int 0) ∧ Exa Z h pa18 "[I" ∧ Arv Z h pa18 pk32 .int (3 : Int32) ([(.int (inc pi27 (0 : Int32) pi36)), (.int (inc pi27 (1 : Int32) pi37)), (.int (inc pi27 (2 : Int32) pi38))]) (.int 0) ∧ Exa Z h pa19 "[I" ∧ Arv Z h pa19 pk32 .int (3 : Int32) ([(.int (inc pi28 (0 : Int32) pi39)), (.int (inc pi28 (1 : Int32) pi40)), (.int (inc pi28 (2 : Int32) pi41))]) (.int 0) ∧ Exa Z h pa21 "[I" ∧ Arv Z h pa21 pk42 .int (2 : Int32) ([(.int (inc pi30 (0 : Int32) pi43)), (.int (inc pi30 (1 : Int32) pi44))]) (.int 0) ∧ Exa Z h pa22 "[I" ∧ Arv Z h pa22 pk42 .int (2 : Int32) ([(.int (inc pi31 (0 : Int32) pi45)), (.int (inc pi31 (1 : Int32) pi46))]) (.int 0)
theorem au9_1 (l : Launch) (Z : State) (a0 : Array Value) (hw : ∀ d ∈ tables_1, d.before a0 Z = true) (ws : List Jvm.Cond) (wDEFAULTCAPACITY_EMPTY_ELEMENTDATA : Addr) (kwDEFAULTCAPACITY_EMPTY_ELEMENTDATA : ClassId) (hS : SS Z wDEFAULTCAPACITY_EMPTY_ELEMENTDATA kwDEFAULTCAPACITY_EMPTY_ELEMENTDATA) (pa1 : Addr) (pa2 : Addr) (pa3 : Addr) (pi4 : Int32) (pa5 : Addr) (pa7 : Addr) (pk8 : ClassId) (pa9 : Addr) (pa10 : Addr) (pa11 : Addr) (pk13 : ClassId) (pa14 : Addr) (pa15 : Addr) (pk16 : ClassId) (pa17 : Addr) (pa18 : Addr) (pa19 : Addr) (pk20 : ClassId) (pa21 : Addr) (pa22 : Addr) (pk23 : ClassId) (pa24 : Addr) (pk25 : ClassId) (pi26 : Int32) (pi27 : Int32) (pi28 : Int32) (pk29 : ClassId) (pi30 : Int32) (pi31 : Int32) (pk32 : ClassId) (pi33 : Int32) (pi34 : Int32) (pi35 : Int32) (pi36 : Int32) (pi37 : Int32) (pi38 : Int32) (pi39 : Int32) (pi40 : Int32) (pi41 : Int32) (pk42 : ClassId) (pi43 : Int32) (pi44 : Int32) (pi45 : Int32) (pi46 : Int32) (h0 : Heap) (n0 : Nat) (O0 : Old Z n0 h0) (P0 : Exa Z h0 pa1 s3n) (P1 : Fld Z h0 pa1 s3n "counts" "[[[I" (.ref pa3)) (P2 : Fld Z h0 pa1 s3n "memory" "I" (.int pi4)) (P3 : Fld Z h0 pa1 s3n "tours" s5n (.ref pa5)) (P5 : Exa Z h0 pa2 s7n) (P6 : Fld Z h0 pa2 s7n "orders" "[[I" (.ref pa7)) (P8 : Arv Z h0 pa3 pk8 (.array (.array .int)) (2 : Int32) ([(.ref pa9), (.ref pa10)]) .null) (P11 : Exa Z h0 pa5 s0n) (P12 : Fld Z h0 pa5 s4n "modCount" "I" (.int 1)) (P13 : Fld Z h0 pa5 s0n "elementData" s1n (.ref pa11)) (P14 : Fld Z h0 pa5 s0n "size" "I" (.int 1)) (P17 : Arv Z h0 pa7 pk13 (.array .int) (2 : Int32) ([(.ref pa14), (.ref pa15)]) .null) (P20 : Arv Z h0 pa9 pk16 (.array .int) (3 : Int32) ([(.ref pa17), (.ref pa18), (.ref pa19)]) .null) (P23 : Arv Z h0 pa10 pk20 (.array .int) (2 : Int32) ([(.ref pa21), (.ref pa22)]) .null) (P26 : Arv Z h0 pa11 pk23 (.object s2n) (10 : Int32) ([(.ref pa24), .null, .null, .null, .null, .null, .null, .null, .null, .null]) .null) (P27 : Ovr Z pk23 s2n) (P28 : Exa Z h0 pa11 s1n) (P29 : Arv Z h0 pa14 pk25 .int (3 : Int32) ([(.int pi26), (.int pi27), (.int pi28)]) (.int 0)) (P31 : Arv Z h0 pa15 pk29 .int (2 : Int32) ([(.int pi30), (.int pi31)]) (.int 0)) (P33 : Arv Z h0 pa17 pk32 .int (3 : Int32) ([(.int pi33), (.int pi34), (.int pi35)]) (.int 0)) (P34 : Exa Z h0 pa17 "[I") (P35 : Arv Z h0 pa18 pk32 .int (3 : Int32) ([(.int pi36), (.int pi37), (.int pi38)]) (.int 0)) (P36 : Exa Z h0 pa18 "[I") (P37 : Arv Z h0 pa19 pk32 .int (3 : Int32) ([(.int pi39), (.int pi40), (.int pi41)]) (.int 0)) (P38 : Exa Z h0 pa19 "[I") (P39 : Arv Z h0 pa21 pk42 .int (2 : Int32) ([(.int pi43), (.int pi44)]) (.int 0)) (P40 : Exa Z h0 pa21 "[I") (P41 : Arv Z h0 pa22 pk42 .int (2 : Int32) ([(.int pi45), (.int pi46)]) (.int 0)) (P42 : Exa Z h0 pa22 "[I") (P53 : ¬ pi4 < (2 : Int32)) (P60 : inT pi26) (P61 : inT pi27) (P62 : inT pi28) (P63 : inB pi30) (P64 : inB pi31) (P68 : n0 ≤ pa5) (P73 : n0 ≤ pa11) (P74 : n0 ≤ pa17) (P75 : n0 ≤ pa18) (P76 : n0 ≤ pa19) (P77 : n0 ≤ pa21) (P78 : n0 ≤ pa22) (P83 : pa1 ≠ pa5) (P88 : pa1 ≠ pa11) (P91 : pa1 ≠ pa17) (P92 : pa1 ≠ pa18) (P93 : pa1 ≠ pa19) (P94 : pa1 ≠ pa21) (P95 : pa1 ≠ pa22) (P101 : pa2 ≠ pa5) (P106 : pa2 ≠ pa11) (P118 : pa3 ≠ pa5) (P123 : pa3 ≠ pa11) (P126 : pa3 ≠ pa17) (P127 : pa3 ≠ pa18) (P128 : pa3 ≠ pa19) (P129 : pa3 ≠ pa21) (P136 : pa5 ≠ pa7) (P137 : pa5 ≠ pa9) (P138 : pa5 ≠ pa10) (P139 : pa5 ≠ pa11) (P140 : pa5 ≠ pa14) (P141 : pa5 ≠ pa15) (P142 : pa5 ≠ pa17) (P143 : pa5 ≠ pa18) (P144 : pa5 ≠ pa19) (P145 : pa5 ≠ pa21) (P146 : pa5 ≠ pa22) (P168 : pa7 ≠ pa11) (P171 : pa7 ≠ pa17) (P172 : pa7 ≠ pa18) (P173 : pa7 ≠ pa19) (P174 : pa7 ≠ pa21) (P175 : pa7 ≠ pa22) (P181 : pa9 ≠ pa11) (P184 : pa9 ≠ pa17) (P185 : pa9 ≠ pa18) (P193 : pa10 ≠ pa11) (P196 : pa10 ≠ pa17) (P197 : pa10 ≠ pa18) (P198 : pa10 ≠ pa19) (P199 : pa10 ≠ pa21) (P205 : pa11 ≠ pa14) (P206 : pa11 ≠ pa15) (P207 : pa11 ≠ pa17) (P208 : pa11 ≠ pa18) (P209 : pa11 ≠ pa19) (P210 : pa11 ≠ pa21) (P211 : pa11 ≠ pa22) (P217 : pa14 ≠ pa17) (P218 : pa14 ≠ pa18) (P219 : pa14 ≠ pa19) (P226 : pa15 ≠ pa17) (P227 : pa15 ≠ pa18) (P228 : pa15 ≠ pa19) (P229 : pa15 ≠ pa21) (P230 : pa15 ≠ pa22) (P235 : pa17 ≠ pa18) (P236 : pa17 ≠ pa19) (P237 : pa17 ≠ pa21) (P238 : pa17 ≠ pa22) (P243 : pa18 ≠ pa19) (P244 : pa18 ≠ pa21) (P245 : pa18 ≠ pa22) (P250 : pa19 ≠ pa21) (P251 : pa19 ≠ pa22) (P256 : pa21 ≠ pa22) :
    MetB l M15 prog_34_method_4_code 4 none ws (rmk 2 0 0 28) Z h0 #[(.ref pa1), (.ref pa2)] (Q_au9_1 Z wDEFAULTCAPACITY_EMPTY_ELEMENTDATA kwDEFAULTCAPACITY_EMPTY_ELEMENTDATA pa1 pa2 pa3 pi4 pa5 pa7 pk8 pa9 pa10 pa11 pk13 pa14 pa15 pk16 pa17 pa18 pa19 pk20 pa21 pa22 pk23 pa24 pk25 pi26 pi27 pi28 pk29 pi30 pi31 pk32 pi33 pi34 pi35 pi36 pi37 pi38 pi39 pi40 pi41 pk42 pi43 pi44 pi45 pi46 h0 n0) := by
  refine own_body (plainFor_of_name pn_com_example_loopline_loopline_dispatch_Pheromone) ?_
  intro p e s m below meth c s₁ hx hby hml hown hnm hret0 hlk0 hZ X0 e0
  have N0 := Fr.nil n0
  have pre0 : ∀ t, Steps p.tables e below (s₁.setTop (mkF m 0 #[(vr pa1), (vr pa2), .unset, .unset] [])) t → Steps p.tables e below (s₁.setTop (entryFrame m #[(.ref pa1), (.ref pa2)] 4)) t := fun t k => castTop (ef_au9_1 m pa1 pa2) k
  have K0 := Keep.refl h0 [pa5, pa11, pa17, pa18, pa19, pa21, pa22]
  have hS0 := hS
  obtain ⟨S_wDEFAULTCAPACITY_EMPTY_ELEMENTDATA, E_wDEFAULTCAPACITY_EMPTY_ELEMENTDATA, V_wDEFAULTCAPACITY_EMPTY_ELEMENTDATA⟩ := hS0
  obtain ⟨T1, X1, e1, st1⟩ := getF X0 hx hZ hown (host := "") (Or.inl (ow hw 42 rfl)) Via.refl e0 P3 (g := (mkF m 1 #[(vr pa1), (vr pa2), .unset, .unset] [(.ref pa1)])) rfl rfl (hb hby d9_1)
  obtain ⟨cq2, kq2, q2a, q2b, q2c⟩ := isOf hZ e1 P11
  obtain ⟨_, _, ⟨T2, L2, k2, n2⟩, -, X2, ⟨Lc2, hQ2, l2, y2, z2⟩, st2⟩ := X1.interfaceBack hx (xi := M16) (y := M11) hown (mvT hZ (ow hw 82 rfl)) (mvT hZ (ow hw 83 rfl)) (mvT hZ (ow hw 84 rfl)) (mvT hZ (ow hw 85 rfl)) (mvT hZ (ow hw 86 rfl)) (mvT hZ (ow hw 87 rfl)) (mvT hZ (ow hw 88 rfl)) (mvT hZ (ow hw 89 rfl)) (by decide) (backOf (W := 0) (au10_1 l Z a0 hw [] wDEFAULTCAPACITY_EMPTY_ELEMENTDATA kwDEFAULTCAPACITY_EMPTY_ELEMENTDATA hS pa5 pa2 pa11 pk23 pa24 h0 n0 O0 P11 P12 P13 P14 P5 P26 P27 P28 P68 P73 P139) hZ (ow hw 90 rfl) (ow hw 20 rfl) (by decide) (by decide)) q2a q2b q2c (g := (mkF m 5 #[(vr pa1), (vr pa2), .unset, .unset] [(.ref pa2), (.ref pa5)])) rfl (by rw [hml]; rfl) (Steps.refl _) (argsL := [(.ref pa2)]) (rest := []) (lenOf pd_8 rfl) rfl (by show 2 * 0 + _ ≤ _; exact Nat.le_of_eq rfl) (hb hby d9_5) (fun _ _ => ⟨rfl, e1, (by decide : 0 + 0 ≤ _), (by decide : 0 + 0 ≤ _)⟩)
  dsimp only [Pt.U, Pt.locs, Pt.cells, Pt.slots] at X2 l2 y2 z2 st2 hQ2
  subst l2 y2 z2
  obtain ⟨rfl, Nq2, K2q, p2_0, p2_1, p2_2, p2_3, p2_4, p2_5, p2_6⟩ := hQ2
  have N2 := Fr.app N0 Nq2
  have O3 : Old Z n0 T2.heap := O0.keep K2q (allS P68 (allS P73 all0))
  have K3 : Keep h0 T2.heap [pa5, pa11, pa17, pa18, pa19, pa21, pa22] := K0.trans K2q (allS (Or.inl (List.mem_of_getElem? (i := 0) rfl)) (allS (Or.inl (List.mem_of_getElem? (i := 1) rfl)) all0))
  have f4 : Fld Z T2.heap pa2 s7n "orders" "[[I" (.ref pa7) := (P6.keep K2q (ninS P101 (ninS P106 nin0)))
  have f6 : Exa Z T2.heap pa2 s7n := (P5.keep K2q)
  obtain ⟨cq5, kq5, q5a, q5b, q5c⟩ := isOf hZ rfl f6
  obtain ⟨_, _, ⟨T5, L5, k5, n5⟩, -, X5, ⟨Lc5, hQ5, l5, y5, z5⟩, st5⟩ := X2.virtualBack hx (y := M12) (z := M12) hown (mvT hZ (ow hw 114 rfl)) (mvT hZ (ow hw 115 rfl)) (notFace_of_selects (args := #[]) (mvT hZ (ow hw 117 rfl))) (mvT hZ (ow hw 117 rfl)) (mvT hZ (ow hw 116 rfl)) (by decide) (backOf (W := 1) (au14_0 l Z a0 hw [] wDEFAULTCAPACITY_EMPTY_ELEMENTDATA kwDEFAULTCAPACITY_EMPTY_ELEMENTDATA hS pa2 pa7 T2.heap n0 O3 f4) hZ (ow hw 118 rfl) (ow hw 63 rfl) (by decide) (by decide)) q5a q5c (g := (mkF m 13 #[(vr pa1), (vr pa2), .unset, .unset] [(.ref pa2), (.ref pa1)])) rfl (by rw [hml]; rfl) (Steps.refl _) (argsL := []) (rest := [(.ref pa1)]) (lenOf pd_9 rfl) rfl (by show 2 * 0 + _ ≤ _; exact Nat.le_of_eq rfl) (hb hby d9_13) (fun _ _ => ⟨rfl, rfl, (by decide : 0 + 0 ≤ _), (by decide : 0 + 0 ≤ _)⟩)
  dsimp only [Pt.U, Pt.locs, Pt.cells, Pt.slots] at X5 l5 y5 z5 st5 hQ5
  subst l5 y5 z5
  obtain ⟨rfl, Nq5, K5q⟩ := hQ5
  have N5 := Fr.app N2 Nq5
  have f7 : Fld Z T2.heap pa1 s3n "counts" "[[[I" (.ref pa3) := (P1.keep K2q (ninS P83 (ninS P88 nin0)))
  have f8 : Arv Z T2.heap pa7 pk13 (.array .int) (2 : Int32) ([(.ref pa14), (.ref pa15)]) .null := (P17.keep K2q (ninS (Ne.symm P136) (ninS P168 nin0)))
  have f9 : Arv Z T2.heap pa3 pk8 (.array (.array .int)) (2 : Int32) ([(.ref pa9), (.ref pa10)]) .null := (P8.keep K2q (ninS P118 (ninS P123 nin0)))
  have f10 : Arv Z T2.heap pa14 pk25 .int (3 : Int32) ([(.int pi26), (.int pi27), (.int pi28)]) (.int 0) := (P29.keep K2q (ninS (Ne.symm P140) (ninS (Ne.symm P205) nin0)))
  have f11 : Arv Z T2.heap pa15 pk29 .int (2 : Int32) ([(.int pi30), (.int pi31)]) (.int 0) := (P31.keep K2q (ninS (Ne.symm P141) (ninS (Ne.symm P206) nin0)))
  have f12 : Arv Z T2.heap pa9 pk16 (.array .int) (3 : Int32) ([(.ref pa17), (.ref pa18), (.ref pa19)]) .null := (P20.keep K2q (ninS (Ne.symm P137) (ninS P181 nin0)))
  have f13 : Arv Z T2.heap pa10 pk20 (.array .int) (2 : Int32) ([(.ref pa21), (.ref pa22)]) .null := (P23.keep K2q (ninS (Ne.symm P138) (ninS P193 nin0)))
  have f14 : Arv Z T2.heap pa17 pk32 .int (3 : Int32) ([(.int pi33), (.int pi34), (.int pi35)]) (.int 0) := (P33.keep K2q (ninS (Ne.symm P142) (ninS (Ne.symm P207) nin0)))
  have f15 : Exa Z T2.heap pa17 "[I" := (P34.keep K2q)
  have f16 : Arv Z T2.heap pa18 pk32 .int (3 : Int32) ([(.int pi36), (.int pi37), (.int pi38)]) (.int 0) := (P35.keep K2q (ninS (Ne.symm P143) (ninS (Ne.symm P208) nin0)))
  have f17 : Exa Z T2.heap pa18 "[I" := (P36.keep K2q)
  have f18 : Arv Z T2.heap pa19 pk32 .int (3 : Int32) ([(.int pi39), (.int pi40), (.int pi41)]) (.int 0) := (P37.keep K2q (ninS (Ne.symm P144) (ninS (Ne.symm P209) nin0)))
  have f19 : Exa Z T2.heap pa19 "[I" := (P38.keep K2q)
  have f20 : Arv Z T2.heap pa21 pk42 .int (2 : Int32) ([(.int pi43), (.int pi44)]) (.int 0) := (P39.keep K2q (ninS (Ne.symm P145) (ninS (Ne.symm P210) nin0)))
  have f21 : Exa Z T2.heap pa21 "[I" := (P40.keep K2q)
  have f22 : Arv Z T2.heap pa22 pk42 .int (2 : Int32) ([(.int pi45), (.int pi46)]) (.int 0) := (P41.keep K2q (ninS (Ne.symm P146) (ninS (Ne.symm P211) nin0)))
  have f23 : Exa Z T2.heap pa22 "[I" := (P42.keep K2q)
  have f25 : Exa Z T2.heap pa1 s3n := (P0.keep K2q)
  obtain ⟨cq24, q24, q24'⟩ := f25.cell
  obtain ⟨_, _, ⟨T24, L24, k24, n24⟩, -, X24, ⟨Lc24, hQ24, l24, y24, z24⟩, st24⟩ := X5.privateBack hx (y := M13) hown (mvT hZ (ow hw 119 rfl)) (mvT hZ (ow hw 120 rfl)) (own_selp (mvT hZ (ow hw 10 rfl)) (mvP hZ (ow hw 121 rfl)) (mvT hZ (ow hw 120 rfl)) (by decide)) (Cond.privateMethod_at (mvP hZ (ow hw 121 rfl) (args := #[]))) (mvT hZ (ow hw 122 rfl)) (by decide) (backOf (W := 0) (au15_1 l Z a0 hw [] wDEFAULTCAPACITY_EMPTY_ELEMENTDATA kwDEFAULTCAPACITY_EMPTY_ELEMENTDATA hS pa1 pa7 pa3 pk13 pa14 pa15 pk8 pa9 pa10 pk25 pi26 pi27 pi28 pk29 pi30 pi31 pk16 pa17 pa18 pa19 pk20 pa21 pa22 pk32 pi33 pi34 pi35 pi36 pi37 pi38 pi39 pi40 pi41 pk42 pi43 pi44 pi45 pi46 T2.heap n0 O3 f7 f8 f9 f10 f11 f12 f13 f14 f15 f16 f17 f18 f19 f20 f21 f22 f23 P60 P61 P62 P63 P64 P74 P75 P76 P77 P78 P91 P92 P93 P94 P171 P172 P173 P174 P175 P126 P127 P128 P129 P217 P218 P219 P226 P227 P228 P229 P230 P184 P185 P196 P197 P198 P199 P235 P236 P237 P238 P243 P244 P245 P250 P251 P256) hZ (ow hw 122 rfl) (ow hw 11 rfl) (by decide) (by decide)) (g := (mkF m 17 #[(vr pa1), (vr pa2), .unset, .unset] [(.int 1), (.ref pa7), (.ref pa1)])) rfl (by rw [hml]; rfl) (Steps.refl _) (a := pa1) (by rw [K5q]; exact q24) q24' (argsL := [(.ref pa7), (.int 1)]) (rest := []) (lenOf pd_10 rfl) rfl (by show 2 * 0 + _ ≤ _; exact Nat.le_of_eq rfl) (hb hby d9_17) (fun _ _ => ⟨rfl, K5q, (by decide : 0 + 0 ≤ _), (by decide : 0 + 0 ≤ _)⟩)
  dsimp only [Pt.U, Pt.locs, Pt.cells, Pt.slots] at X24 l24 y24 z24 st24 hQ24
  subst l24 y24 z24
  obtain ⟨rfl, Nq24, K24q, p24_0, p24_1, p24_2, p24_3, p24_4, p24_5, p24_6, p24_7, p24_8, p24_9⟩ := hQ24
  have N24 := Fr.app N5 Nq24
  have O26 : Old Z n0 T24.heap := O3.keep K24q (allS P74 (allS P75 (allS P76 (allS P77 (allS P78 all0)))))
  have K26 : Keep h0 T24.heap [pa5, pa11, pa17, pa18, pa19, pa21, pa22] := K3.trans K24q (allS (Or.inl (List.mem_of_getElem? (i := 2) rfl)) (allS (Or.inl (List.mem_of_getElem? (i := 3) rfl)) (allS (Or.inl (List.mem_of_getElem? (i := 4) rfl)) (allS (Or.inl (List.mem_of_getElem? (i := 5) rfl)) (allS (Or.inl (List.mem_of_getElem? (i := 6) rfl)) all0)))))
  have f27 : Fld Z T24.heap pa1 s3n "tours" s5n (.ref pa5) := ((P3.keep K2q (ninS P83 (ninS P88 nin0))).keep K24q (ninS P91 (ninS P92 (ninS P93 (ninS P94 (ninS P95 nin0))))))
  obtain ⟨T28, X28, e28, st28⟩ := getF X24 hx hZ hown (host := "") (Or.inl (ow hw 42 rfl)) Via.refl rfl f27 (g := (mkF m 21 #[(vr pa1), (vr pa2), .unset, .unset] [(.ref pa1)])) rfl rfl (hb hby d9_21)
  have f29 : Fld Z T24.heap pa5 s0n "size" "I" (.int 2) := (p2_3.keep K24q (ninS P142 (ninS P143 (ninS P144 (ninS P145 (ninS P146 nin0))))))
  have f31 : Exa Z T24.heap pa5 s0n := (p2_0.keep K24q)
  obtain ⟨cq30, kq30, q30a, q30b, q30c⟩ := isOf hZ e28 f31
  obtain ⟨_, _, ⟨T30, L30, k30, n30⟩, -, X30, ⟨Lc30, hQ30, l30, y30, z30⟩, st30⟩ := X28.interfaceBack hx (xi := M17) (y := M14) hown (mvT hZ (ow hw 123 rfl)) (mvT hZ (ow hw 124 rfl)) (mvT hZ (ow hw 125 rfl)) (mvT hZ (ow hw 126 rfl)) (mvT hZ (ow hw 127 rfl)) (mvT hZ (ow hw 128 rfl)) (mvT hZ (ow hw 129 rfl)) (mvT hZ (ow hw 89 rfl)) (by decide) (backOf (W := 0) (au16_1 l Z a0 hw [] wDEFAULTCAPACITY_EMPTY_ELEMENTDATA kwDEFAULTCAPACITY_EMPTY_ELEMENTDATA hS pa5 T24.heap n0 O26 f29) hZ (ow hw 130 rfl) (ow hw 20 rfl) (by decide) (by decide)) q30a q30b q30c (g := (mkF m 24 #[(vr pa1), (vr pa2), .unset, .unset] [(.ref pa5)])) rfl (by rw [hml]; rfl) (Steps.refl _) (argsL := []) (rest := []) (lenOf pd_11 rfl) rfl (by show 2 * 0 + _ ≤ _; exact Nat.le_of_eq rfl) (hb hby d9_24) (fun _ _ => ⟨rfl, e28, (by decide : 0 + 0 ≤ _), (by decide : 0 + 0 ≤ _)⟩)
  dsimp only [Pt.U, Pt.locs, Pt.cells, Pt.slots] at X30 l30 y30 z30 st30 hQ30
  subst l30 y30 z30
  obtain ⟨rfl, Nq30, K30q⟩ := hQ30
  have N30 := Fr.app N24 Nq30
  have f32 : Fld Z T24.heap pa1 s3n "memory" "I" (.int pi4) := ((P2.keep K2q (ninS P83 (ninS P88 nin0))).keep K24q (ninS P91 (ninS P92 (ninS P93 (ninS P94 (ninS P95 nin0))))))
  obtain ⟨T33, X33, e33, st33⟩ := getF X30 hx hZ hown (host := "") (Or.inl (ow hw 54 rfl)) Via.refl K30q f32 (g := (mkF m 30 #[(vr pa1), (vr pa2), .unset, .unset] [(.ref pa1), (.int 2)])) rfl rfl (hb hby d9_30)
  have f34 : Fld Z T24.heap pa5 s4n "modCount" "I" (.int 2) := (p2_1.keep K24q (ninS P142 (ninS P143 (ninS P144 (ninS P145 (ninS P146 nin0))))))
  have f35 : Fld Z T24.heap pa5 s0n "elementData" s1n (.ref pa11) := (p2_2.keep K24q (ninS P142 (ninS P143 (ninS P144 (ninS P145 (ninS P146 nin0))))))
  have f36 : Exa Z T24.heap pa11 s1n := (p2_4.keep K24q)
  have f37 : Arv Z T24.heap pa11 pk23 (.object s2n) (10 : Int32) ([(.ref pa24), (.ref pa2), .null, .null, .null, .null, .null, .null, .null, .null]) .null := (p2_5.keep K24q (ninS P207 (ninS P208 (ninS P209 (ninS P210 (ninS P211 nin0))))))
  obtain ⟨fs, hr, hrun, hended, hW, hsame⟩ := X33.leave (v := none) (fun _ => rfl)
  refine ⟨_, _, pre0 _ ?_, hrun, hended, _, _, rfl, ?_, ⟨_, rfl⟩, hW, hsame.mono (by decide) (by decide)⟩
  · skip
    show Steps p.tables e below (s₁.setTop (mkF m 0 #[(vr pa1), (vr pa2), .unset, .unset] [])) _
    refine XS.aloadN X0.here hx rfl (hb hby d9_0) rfl rfl ?_
    refine st1 _ ?_
    refine XS.aloadN X1.here hx rfl (hb hby d9_4) rfl rfl ?_
    refine st2.trans ?_
    refine XS.pop X2.here hx rfl (hb hby d9_10) rfl rfl ?_
    refine XS.aloadN X2.here hx rfl (hb hby d9_11) rfl rfl ?_
    show Steps p.tables e below (T2.setTop (mkF m 12 #[(vr pa1), (vr pa2), .unset, .unset] [(.ref pa1)])) _
    refine XS.aloadN X2.here hx rfl (hb hby d9_12) rfl rfl ?_
    refine st5.trans ?_
    refine XS.iconst X5.here hx rfl (hb hby d9_16) ?_
    refine st24.trans ?_
    refine XS.aloadN X24.here hx rfl (hb hby d9_20) rfl rfl ?_
    refine st28 _ ?_
    show Steps p.tables e below (T28.setTop (mkF m 24 #[(vr pa1), (vr pa2), .unset, .unset] [(.ref pa5)])) _
    refine st30.trans ?_
    refine XS.aloadN X30.here hx rfl (hb hby d9_29) rfl rfl ?_
    refine st33 _ ?_
    refine XS.icmpYes X33.here hx rfl (pc0 := 33) (pc' := 114) rfl (hb hby d9_33) rfl (flt (P53 : ¬ (pi4 < (2 : Int32)))).2.2.2 (by decide) (by decide) ?_
    exact X33.returnOut hx hret0 (hb hby d9_114) hr
  · show Q_au9_1 Z wDEFAULTCAPACITY_EMPTY_ELEMENTDATA kwDEFAULTCAPACITY_EMPTY_ELEMENTDATA pa1 pa2 pa3 pi4 pa5 pa7 pk8 pa9 pa10 pa11 pk13 pa14 pa15 pk16 pa17 pa18 pa19 pk20 pa21 pa22 pk23 pa24 pk25 pi26 pi27 pi28 pk29 pi30 pi31 pk32 pi33 pi34 pi35 pi36 pi37 pi38 pi39 pi40 pi41 pk42 pi43 pi44 pi45 pi46 h0 n0 _ T33.heap _
    rw [e33]
    exact ⟨rfl, N30, K26, f31, f34, f35, f29, f36, f37, p2_6, p24_0, p24_1, p24_2, p24_3, p24_4, p24_5, p24_6, p24_7, p24_8, p24_9⟩
theorem tl_tl_rm0_o_k {p : Program} {l : Launch} {e : Env} {s : State} {m : MethodId} {below : List Frame} {meth : Method} {c : Code} {T0 : State} {locs : List Loc} {Z : State} {a0 : Array Value} {h0 : Heap} {n0 : Nat} {margs : Array Value} (hw : ∀ d ∈ tables_1, d.before a0 Z = true) (wDEFAULTCAPACITY_EMPTY_ELEMENTDATA : Addr) (kwDEFAULTCAPACITY_EMPTY_ELEMENTDATA : ClassId) (hS : SS Z wDEFAULTCAPACITY_EMPTY_ELEMENTDATA kwDEFAULTCAPACITY_EMPTY_ELEMENTDATA) (pi1 : Int32) (pi2 : Int32) (pi3 : Int32) (pi4 : Int32) (pi5 : Int32) (pi6 : Int32) (pi7 : Int32) (pa8 : Addr) (pa9 : Addr) (pa10 : Addr) (pa11 : Addr) (pi12 : Int32) (pi13 : Int32) (pi14 : Int32) (pi15 : Int32) (pa16 : Addr) (pa17 : Addr) (pa18 : Addr) (pk19 : ClassId) (pa20 : Addr) (pa21 : Addr) (pa22 : Addr) (pa23 : Addr) (pa24 : Addr) (pa25 : Addr) (pk26 : ClassId) (pa27 : Addr) (pa28 : Addr) (pk29 : ClassId) (pa30 : Addr) (pa31 : Addr) (pk32 : ClassId) (pa33 : Addr) (pa34 : Addr) (pa35 : Addr) (pa36 : Addr) (pa37 : Addr) (pk38 : ClassId) (pk39 : ClassId) (pk40 : ClassId) (pk41 : ClassId) (pk42 : ClassId) (pk43 : ClassId) (pk44 : ClassId) (pk45 : ClassId) (pk46 : ClassId) (pi47 : Int32) (pi48 : Int32) (pi49 : Int32) (pk50 : ClassId) (pi51 : Int32) (pi52 : Int32) (pk53 : ClassId) (pi54 : Int32) (pi55 : Int32) (pi56 : Int32) (pk57 : ClassId) (pi58 : Int32) (pi59 : Int32) (pk60 : ClassId) (pa61 : Addr) (pa62 : Addr) (pk63 : ClassId) (pk64 : ClassId) (pa65 : Addr) (pa66 : Addr) (pa67 : Addr) (pk68 : ClassId) (pa69 : Addr) (pa70 : Addr) (pk71 : ClassId) (pk72 : ClassId)
    (X0 : Stand p l e room_1 s m margs below meth c T0 locs 26 69) (hx : p.tables.exec = Jvm.exec) (hZ : Z.Warmed39 s.vm) (hby : c.code = code) (hml : c.maxLocals = 21) (hown : s.vm.findClass "com/example/loopline/loopline/dispatch/PheromoneWeightPinLaw" = some m.cls) (hnm : meth.name = "law") (hret0 : meth.sig.returnType = some .boolean) (hlk0 : meth.locks = false) (e0 : T0.heap = h0) (N0 : Fr n0 locs) (O0 : Old Z n0 h0) (P0 : Arv Z h0 pa8 pk19 (.array .int) (6 : Int32) ([(.ref pa20), (.ref pa21), (.ref pa22), (.ref pa23), (.ref pa24), (.ref pa25)]) .null) (P3 : Arv Z h0 pa9 pk26 (.array .int) (2 : Int32) ([(.ref pa27), (.ref pa28)]) .null) (P6 : Arv Z h0 pa10 pk29 (.array .int) (2 : Int32) ([(.ref pa30), (.ref pa31)]) .null) (P9 : Arv Z h0 pa11 pk32 (.array .int) (2 : Int32) ([(.ref pa33), (.ref pa34)]) .null) (P12 : Exa Z h0 pa16 s3n) (P13 : Fld Z h0 pa16 s3n "counts" "[[[I" (.ref pa35)) (P14 : Fld Z h0 pa16 s3n "memory" "I" (.int pi6)) (P15 : Fld Z h0 pa16 s3n "tours" s5n (.ref pa36)) (P16 : Fld Z h0 pa16 s3n "trains" "[I" (.ref pa37)) (P17 : Exa Z h0 pa17 s7n) (P18 : Fld Z h0 pa17 s7n "orders" "[[I" (.ref pa10)) (P20 : Exa Z h0 pa18 s7n) (P21 : Fld Z h0 pa18 s7n "orders" "[[I" (.ref pa11)) (P23 : Arv Z h0 pa20 pk38 .int (3 : Int32) ([(.int 0), (.int 1), (.int 2)]) (.int 0)) (P25 : Arv Z h0 pa21 pk39 .int (3 : Int32) ([(.int 0), (.int 2), (.int 1)]) (.int 0)) (P27 : Arv Z h0 pa22 pk40 .int (3 : Int32) ([(.int 1), (.int 0), (.int 2)]) (.int 0)) (P29 : Arv Z h0 pa23 pk41 .int (3 : Int32) ([(.int 1), (.int 2), (.int 0)]) (.int 0)) (P31 : Arv Z h0 pa24 pk42 .int (3 : Int32) ([(.int 2), (.int 0), (.int 1)]) (.int 0)) (P33 : Arv Z h0 pa25 pk43 .int (3 : Int32) ([(.int 2), (.int 1), (.int 0)]) (.int 0)) (P35 : Arv Z h0 pa27 pk44 .int (2 : Int32) ([(.int 0), (.int 1)]) (.int 0)) (P37 : Arv Z h0 pa28 pk45 .int (2 : Int32) ([(.int 1), (.int 0)]) (.int 0)) (P39 : Arv Z h0 pa30 pk46 .int (3 : Int32) ([(.int pi47), (.int pi48), (.int pi49)]) (.int 0)) (P41 : Arv Z h0 pa31 pk50 .int (2 : Int32) ([(.int pi51), (.int pi52)]) (.int 0)) (P43 : Arv Z h0 pa33 pk53 .int (3 : Int32) ([(.int pi54), (.int pi55), (.int pi56)]) (.int 0)) (P45 : Arv Z h0 pa34 pk57 .int (2 : Int32) ([(.int pi58), (.int pi59)]) (.int 0)) (P47 : Arv Z h0 pa35 pk60 (.array (.array .int)) (2 : Int32) ([(.ref pa61), (.ref pa62)]) .null) (P50 : Exa Z h0 pa36 s0n) (P51 : Fld Z h0 pa36 s4n "modCount" "I" (.int 0)) (P52 : Fld Z h0 pa36 s0n "elementData" s1n (.ref wDEFAULTCAPACITY_EMPTY_ELEMENTDATA)) (P53 : Fld Z h0 pa36 s0n "size" "I" (.int 0)) (P54 : Arv Z h0 pa37 pk63 .int (2 : Int32) ([(.int 3), (.int 2)]) (.int 0)) (P56 : Arv Z h0 pa61 pk64 (.array .int) (3 : Int32) ([(.ref pa65), (.ref pa66), (.ref pa67)]) .null) (P59 : Arv Z h0 pa62 pk68 (.array .int) (2 : Int32) ([(.ref pa69), (.ref pa70)]) .null) (P62 : Arv Z h0 pa65 pk71 .int (3 : Int32) ([(.int 0), (.int 0), (.int 0)]) (.int 0)) (P63 : Exa Z h0 pa65 "[I") (P64 : Arv Z h0 pa66 pk71 .int (3 : Int32) ([(.int 0), (.int 0), (.int 0)]) (.int 0)) (P65 : Exa Z h0 pa66 "[I") (P66 : Arv Z h0 pa67 pk71 .int (3 : Int32) ([(.int 0), (.int 0), (.int 0)]) (.int 0)) (P67 : Exa Z h0 pa67 "[I") (P68 : Arv Z h0 pa69 pk72 .int (2 : Int32) ([(.int 0), (.int 0)]) (.int 0)) (P69 : Exa Z h0 pa69 "[I") (P70 : Arv Z h0 pa70 pk72 .int (2 : Int32) ([(.int 0), (.int 0)]) (.int 0)) (P71 : Exa Z h0 pa70 "[I") (P73 : ¬ pi6 < (2 : Int32)) (P74 : ¬ pi6 < (1 : Int32)) (P75 : inT pi7) (P76 : inT pi47) (P77 : inT pi48) (P78 : inT pi49) (P79 : inB pi51) (P80 : inB pi52) (P81 : inT pi54) (P82 : inT pi55) (P83 : inT pi56) (P84 : inB pi58) (P85 : inB pi59) (P86 : inB pi12) (P87 : pi13 = (if pi12 = (0 : Int32) then (3 : Int32) else (2 : Int32))) (P88 : own_ps pi13 pi14) (P89 : own_ps pi13 pi15) (P106 : n0 ≤ pa36) (P110 : n0 ≤ pa65) (P111 : n0 ≤ pa66) (P112 : n0 ≤ pa67) (P113 : n0 ≤ pa69) (P114 : n0 ≤ pa70) (P187 : pa10 ≠ pa36) (P191 : pa10 ≠ pa65) (P192 : pa10 ≠ pa66) (P193 : pa10 ≠ pa67) (P194 : pa10 ≠ pa69) (P195 : pa10 ≠ pa70) (P212 : pa11 ≠ pa36) (P216 : pa11 ≠ pa65) (P217 : pa11 ≠ pa66) (P218 : pa11 ≠ pa67) (P219 : pa11 ≠ pa69) (P220 : pa11 ≠ pa70) (P236 : pa16 ≠ pa36) (P240 : pa16 ≠ pa65) (P241 : pa16 ≠ pa66) (P242 : pa16 ≠ pa67) (P243 : pa16 ≠ pa69) (P244 : pa16 ≠ pa70) (P259 : pa17 ≠ pa36) (P281 : pa18 ≠ pa36) (P285 : pa18 ≠ pa65) (P286 : pa18 ≠ pa66) (P287 : pa18 ≠ pa67) (P288 : pa18 ≠ pa69) (P289 : pa18 ≠ pa70) (P434 : pa30 ≠ pa36) (P438 : pa30 ≠ pa65) (P439 : pa30 ≠ pa66) (P440 : pa30 ≠ pa67) (P441 : pa30 ≠ pa69) (P442 : pa30 ≠ pa70) (P446 : pa31 ≠ pa36) (P450 : pa31 ≠ pa65) (P451 : pa31 ≠ pa66) (P452 : pa31 ≠ pa67) (P453 : pa31 ≠ pa69) (P454 : pa31 ≠ pa70) (P457 : pa33 ≠ pa36) (P461 : pa33 ≠ pa65) (P462 : pa33 ≠ pa66) (P463 : pa33 ≠ pa67) (P464 : pa33 ≠ pa69) (P465 : pa33 ≠ pa70) (P467 : pa34 ≠ pa36) (P471 : pa34 ≠ pa65) (P472 : pa34 ≠ pa66) (P473 : pa34 ≠ pa67) (P474 : pa34 ≠ pa69) (P475 : pa34 ≠ pa70) (P476 : pa35 ≠ pa36) (P480 : pa35 ≠ pa65) (P481 : pa35 ≠ pa66) (P482 : pa35 ≠ pa67) (P483 : pa35 ≠ pa69) (P484 : pa35 ≠ pa70) (P485 : pa36 ≠ pa37) (P486 : pa36 ≠ pa61) (P487 : pa36 ≠ pa62) (P488 : pa36 ≠ pa65) (P489 : pa36 ≠ pa66) (P490 : pa36 ≠ pa67) (P491 : pa36 ≠ pa69) (P492 : pa36 ≠ pa70) (P495 : pa37 ≠ pa65) (P496 : pa37 ≠ pa66) (P497 : pa37 ≠ pa67) (P498 : pa37 ≠ pa69) (P499 : pa37 ≠ pa70) (P501 : pa61 ≠ pa65) (P502 : pa61 ≠ pa66) (P503 : pa61 ≠ pa67) (P504 : pa61 ≠ pa69) (P505 : pa61 ≠ pa70) (P506 : pa62 ≠ pa65) (P507 : pa62 ≠ pa66) (P508 : pa62 ≠ pa67) (P509 : pa62 ≠ pa69) (P510 : pa62 ≠ pa70) (P511 : pa65 ≠ pa66) (P512 : pa65 ≠ pa67) (P513 : pa65 ≠ pa69) (P514 : pa65 ≠ pa70) (P515 : pa66 ≠ pa67) (P516 : pa66 ≠ pa69) (P517 : pa66 ≠ pa70) (P518 : pa67 ≠ pa69) (P519 : pa67 ≠ pa70) (P520 : pa69 ≠ pa70) :
    ∃ s₂ o, Steps p.tables e below (T0.setTop (mkF m 312 #[(vi pi1), (vi pi2), (vi pi3), (vi pi4), (vi pi5), (vi pi6), (vi pi7), (vr pa8), (vr pa9), (vr pa10), (vr pa11), (vi pi12), (vi pi13), (vi pi14), (vi pi15), (vr pa16), (vr pa17), (vr pa18), .unset, .unset, .unset] [])) s₂ ∧ s₂.status = .running ∧ Ended s₂ below o ∧ ∃ v L, o = .returned v ∧ (v = some (.int 1) ∧ Fr n0 L) ∧ FrameEnd s o s₂ L room_1.cells room_1.slots := by
  have pre0 : ∀ t, Steps p.tables e below (T0.setTop (mkF m 312 #[(vi pi1), (vi pi2), (vi pi3), (vi pi4), (vi pi5), (vi pi6), (vi pi7), (vr pa8), (vr pa9), (vr pa10), (vr pa11), (vi pi12), (vi pi13), (vi pi14), (vi pi15), (vr pa16), (vr pa17), (vr pa18), .unset, .unset, .unset] [])) t → Steps p.tables e below (T0.setTop (mkF m 312 #[(vi pi1), (vi pi2), (vi pi3), (vi pi4), (vi pi5), (vi pi6), (vi pi7), (vr pa8), (vr pa9), (vr pa10), (vr pa11), (vi pi12), (vi pi13), (vi pi14), (vi pi15), (vr pa16), (vr pa17), (vr pa18), .unset, .unset, .unset] [])) t := fun t k => k
  have hS0 := hS
  obtain ⟨S_wDEFAULTCAPACITY_EMPTY_ELEMENTDATA, E_wDEFAULTCAPACITY_EMPTY_ELEMENTDATA, V_wDEFAULTCAPACITY_EMPTY_ELEMENTDATA⟩ := hS0
  rcases (id (P75)) with hk1 | hk1 | hk1
  · skip
    have pre2 : ∀ t, Steps p.tables e below (T0.setTop (mkF m 312 #[(vi pi1), (vi pi2), (vi pi3), (vi pi4), (vi pi5), (vi pi6), (vi 0), (vr pa8), (vr pa9), (vr pa10), (vr pa11), (vi pi12), (vi pi13), (vi pi14), (vi pi15), (vr pa16), (vr pa17), (vr pa18), .unset, .unset, .unset] [])) t → Steps p.tables e below (T0.setTop (mkF m 312 #[(vi pi1), (vi pi2), (vi pi3), (vi pi4), (vi pi5), (vi pi6), (vi pi7), (vr pa8), (vr pa9), (vr pa10), (vr pa11), (vi pi12), (vi pi13), (vi pi14), (vi pi15), (vr pa16), (vr pa17), (vr pa18), .unset, .unset, .unset] [])) t := by
      intro t k
      refine pre0 t ?_
      rw [hk1]
      exact k
    have pre3 : ∀ t, Steps p.tables e below (T0.setTop (mkF m 341 #[(vi pi1), (vi pi2), (vi pi3), (vi pi4), (vi pi5), (vi pi6), (vi 0), (vr pa8), (vr pa9), (vr pa10), (vr pa11), (vi pi12), (vi pi13), (vi pi14), (vi pi15), (vr pa16), (vr pa17), (vr pa18), (vi 0), .unset, .unset] [])) t → Steps p.tables e below (T0.setTop (mkF m 312 #[(vi pi1), (vi pi2), (vi pi3), (vi pi4), (vi pi5), (vi pi6), (vi pi7), (vr pa8), (vr pa9), (vr pa10), (vr pa11), (vi pi12), (vi pi13), (vi pi14), (vi pi15), (vr pa16), (vr pa17), (vr pa18), .unset, .unset, .unset] [])) t := by
      intro t k
      refine pre2 t ?_
      show Steps p.tables e below (T0.setTop (mkF m 312 #[(vi pi1), (vi pi2), (vi pi3), (vi pi4), (vi pi5), (vi pi6), (vi 0), (vr pa8), (vr pa9), (vr pa10), (vr pa11), (vi pi12), (vi pi13), (vi pi14), (vi pi15), (vr pa16), (vr pa17), (vr pa18), .unset, .unset, .unset] [])) _
      refine XS.iload X0.here hx rfl (hb hby at_312) rfl ?_
      refine XS.iconst X0.here hx rfl (hb hby at_314) ?_
      refine XS.icmpYes X0.here hx rfl (pc0 := 315) (pc' := 325) rfl (hb hby at_315) rfl (tlt (by decide : (0 : Int32) < (1 : Int32))).1 (by decide) (by decide) ?_
      refine XS.iload X0.here hx rfl (hb hby at_325) rfl ?_
      refine XS.iconst X0.here hx rfl (hb hby at_327) ?_
      refine XS.icmpYes X0.here hx rfl (pc0 := 328) (pc' := 338) rfl (hb hby at_328) rfl (tlt (by decide : (0 : Int32) < (2 : Int32))).1 (by decide) (by decide) ?_
      show Steps p.tables e below (T0.setTop (mkF m 338 #[(vi pi1), (vi pi2), (vi pi3), (vi pi4), (vi pi5), (vi pi6), (vi 0), (vr pa8), (vr pa9), (vr pa10), (vr pa11), (vi pi12), (vi pi13), (vi pi14), (vi pi15), (vr pa16), (vr pa17), (vr pa18), .unset, .unset, .unset] [])) _
      refine XS.iconst X0.here hx rfl (hb hby at_338) ?_
      refine XS.istore X0.here hx rfl (hb hby at_339) rfl (l' := #[(vi pi1), (vi pi2), (vi pi3), (vi pi4), (vi pi5), (vi pi6), (vi 0), (vr pa8), (vr pa9), (vr pa10), (vr pa11), (vi pi12), (vi pi13), (vi pi14), (vi pi15), (vr pa16), (vr pa17), (vr pa18), (vi 0), .unset, .unset]) rfl ?_
      exact k
    rcases (id (P86)) with hk4 | hk4
    · skip
      have pre5 : ∀ t, Steps p.tables e below (T0.setTop (mkF m 341 #[(vi pi1), (vi pi2), (vi pi3), (vi pi4), (vi pi5), (vi pi6), (vi 0), (vr pa8), (vr pa9), (vr pa10), (vr pa11), (vi 0), (vi pi13), (vi pi14), (vi pi15), (vr pa16), (vr pa17), (vr pa18), (vi 0), .unset, .unset] [])) t → Steps p.tables e below (T0.setTop (mkF m 312 #[(vi pi1), (vi pi2), (vi pi3), (vi pi4), (vi pi5), (vi pi6), (vi pi7), (vr pa8), (vr pa9), (vr pa10), (vr pa11), (vi pi12), (vi pi13), (vi pi14), (vi pi15), (vr pa16), (vr pa17), (vr pa18), .unset, .unset, .unset] [])) t := by
        intro t k
        refine pre3 t ?_
        rw [hk4]
        exact k
      have hn3 : pi13 = (3 : Int32) := by rw [P87, hk4]; decide
      have hpo : inT pi14 := P88.1 hn3
      have htr : inT pi15 := P89.1 hn3
      have pre6 : ∀ t, Steps p.tables e below (T0.setTop (mkF m 341 #[(vi pi1), (vi pi2), (vi pi3), (vi pi4), (vi pi5), (vi pi6), (vi 0), (vr pa8), (vr pa9), (vr pa10), (vr pa11), (vi 0), (vi 3), (vi pi14), (vi pi15), (vr pa16), (vr pa17), (vr pa18), (vi 0), .unset, .unset] [])) t → Steps p.tables e below (T0.setTop (mkF m 312 #[(vi pi1), (vi pi2), (vi pi3), (vi pi4), (vi pi5), (vi pi6), (vi pi7), (vr pa8), (vr pa9), (vr pa10), (vr pa11), (vi pi12), (vi pi13), (vi pi14), (vi pi15), (vr pa16), (vr pa17), (vr pa18), .unset, .unset, .unset] [])) t := by
        intro t k
        refine pre5 t ?_
        rw [hn3]
        exact k
      rcases (id (hpo)) with hk7 | hk7 | hk7
      · skip
        have pre8 : ∀ t, Steps p.tables e below (T0.setTop (mkF m 341 #[(vi pi1), (vi pi2), (vi pi3), (vi pi4), (vi pi5), (vi pi6), (vi 0), (vr pa8), (vr pa9), (vr pa10), (vr pa11), (vi 0), (vi 3), (vi 0), (vi pi15), (vr pa16), (vr pa17), (vr pa18), (vi 0), .unset, .unset] [])) t → Steps p.tables e below (T0.setTop (mkF m 312 #[(vi pi1), (vi pi2), (vi pi3), (vi pi4), (vi pi5), (vi pi6), (vi pi7), (vr pa8), (vr pa9), (vr pa10), (vr pa11), (vi pi12), (vi pi13), (vi pi14), (vi pi15), (vr pa16), (vr pa17), (vr pa18), .unset, .unset, .unset] [])) t := by
          intro t k
          refine pre6 t ?_
          rw [hk7]
          exact k
        obtain ⟨cq9, kq9, q9a, q9b, q9c⟩ := isOf hZ e0 P12
        obtain ⟨_, _, ⟨T9, L9, k9, n9⟩, -, X9, ⟨Lc9, hQ9, l9, y9, z9⟩, st9⟩ := X0.virtualBack hx (y := M7) (z := M7) hown (mvT hZ (ow hw 131 rfl)) (mvT hZ (ow hw 132 rfl)) (notFace_of_selects (args := #[]) (mvT hZ (ow hw 134 rfl))) (mvT hZ (ow hw 134 rfl)) (mvT hZ (ow hw 133 rfl)) (by decide) (backOf (W := 0) (au17_0 l Z a0 hw [] wDEFAULTCAPACITY_EMPTY_ELEMENTDATA kwDEFAULTCAPACITY_EMPTY_ELEMENTDATA hS pa16 pi15 pa35 pi6 pa37 pk60 pa61 pa62 pk63 pk64 pa65 pa66 pa67 pk71 h0 n0 O0 P13 P14 P16 P47 P54 P56 P62 htr) hZ (ow hw 135 rfl) (ow hw 11 rfl) (by decide) (by decide)) q9a q9c (g := (mkF m 412 #[(vi pi1), (vi pi2), (vi pi3), (vi pi4), (vi pi5), (vi pi6), (vi 0), (vr pa8), (vr pa9), (vr pa10), (vr pa11), (vi 0), (vi 3), (vi 0), (vi pi15), (vr pa16), (vr pa17), (vr pa18), (vi 0), .val (.long ((pi6.toInt64) + (0 : Int64))), .second] [(.int pi15), (.int 0), (.int 0), (.ref pa16)])) rfl (by rw [hml]; rfl) (Steps.refl _) (argsL := [(.int 0), (.int 0), (.int pi15)]) (rest := []) (lenOf pd_4 rfl) rfl (by show 2 * 0 + _ ≤ _; exact Nat.le_of_eq rfl) (hb hby at_412) (fun _ _ => ⟨rfl, e0, (by decide : 26 + 0 ≤ _), (by decide : 69 + 0 ≤ _)⟩)
        dsimp only [Pt.U, Pt.locs, Pt.cells, Pt.slots] at X9 l9 y9 z9 st9 hQ9
        subst l9 y9 z9
        obtain ⟨rfl, Nq9, K9q⟩ := hQ9
        have N9 := Fr.app N0 Nq9
        obtain ⟨fs, hr, hrun, hended, hW, hsame⟩ := X9.leave (v := some (.int 1)) (fun h => by rw [hret0] at h; cases h)
        refine ⟨_, _, pre8 _ ?_, hrun, hended, _, _, rfl, ?_, ⟨_, rfl⟩, hW, hsame.mono (by decide) (by decide)⟩
        · skip
          show Steps p.tables e below (T0.setTop (mkF m 341 #[(vi pi1), (vi pi2), (vi pi3), (vi pi4), (vi pi5), (vi pi6), (vi 0), (vr pa8), (vr pa9), (vr pa10), (vr pa11), (vi 0), (vi 3), (vi 0), (vi pi15), (vr pa16), (vr pa17), (vr pa18), (vi 0), .unset, .unset] [])) _
          refine XS.iload X0.here hx rfl (hb hby at_341) rfl ?_
          refine XS.iconst X0.here hx rfl (hb hby at_343) ?_
          refine XS.icmpYes X0.here hx rfl (pc0 := 344) (pc' := 366) rfl (hb hby at_344) rfl (tlt (by decide : (0 : Int32) < (1 : Int32))).1 (by decide) (by decide) ?_
          refine XS.iload X0.here hx rfl (hb hby at_366) rfl ?_
          refine XS.iconst X0.here hx rfl (hb hby at_368) ?_
          refine XS.icmpYes X0.here hx rfl (pc0 := 369) (pc' := 391) rfl (hb hby at_369) rfl (tlt (by decide : (0 : Int32) < (2 : Int32))).1 (by decide) (by decide) ?_
          show Steps p.tables e below (T0.setTop (mkF m 391 #[(vi pi1), (vi pi2), (vi pi3), (vi pi4), (vi pi5), (vi pi6), (vi 0), (vr pa8), (vr pa9), (vr pa10), (vr pa11), (vi 0), (vi 3), (vi 0), (vi pi15), (vr pa16), (vr pa17), (vr pa18), (vi 0), .unset, .unset] [])) _
          refine XS.iload X0.here hx rfl (hb hby at_391) rfl ?_
          refine XS.i2l X0.here hx rfl (hb hby at_393) rfl ?_
          refine XS.iload X0.here hx rfl (hb hby at_394) rfl ?_
          refine XS.i2l X0.here hx rfl (hb hby at_396) rfl ?_
          refine XS.iload X0.here hx rfl (hb hby at_397) rfl ?_
          refine XS.i2l X0.here hx rfl (hb hby at_399) rfl ?_
          show Steps p.tables e below (T0.setTop (mkF m 400 #[(vi pi1), (vi pi2), (vi pi3), (vi pi4), (vi pi5), (vi pi6), (vi 0), (vr pa8), (vr pa9), (vr pa10), (vr pa11), (vi 0), (vi 3), (vi 0), (vi pi15), (vr pa16), (vr pa17), (vr pa18), (vi 0), .unset, .unset] [(.long 0), (.long 3), (.long (pi6.toInt64))])) _
          refine XS.lmul X0.here hx rfl (hb hby at_400) rfl ?_
          refine XS.ladd X0.here hx rfl (hb hby at_401) rfl ?_
          refine XS.lstore X0.here hx rfl (hb hby at_402) rfl (l' := #[(vi pi1), (vi pi2), (vi pi3), (vi pi4), (vi pi5), (vi pi6), (vi 0), (vr pa8), (vr pa9), (vr pa10), (vr pa11), (vi 0), (vi 3), (vi 0), (vi pi15), (vr pa16), (vr pa17), (vr pa18), (vi 0), .val (.long ((pi6.toInt64) + (0 : Int64))), .second]) rfl ?_
          refine XS.aload X0.here hx rfl (hb hby at_404) rfl rfl ?_
          refine XS.iload X0.here hx rfl (hb hby at_406) rfl ?_
          refine XS.iload X0.here hx rfl (hb hby at_408) rfl ?_
          show Steps p.tables e below (T0.setTop (mkF m 410 #[(vi pi1), (vi pi2), (vi pi3), (vi pi4), (vi pi5), (vi pi6), (vi 0), (vr pa8), (vr pa9), (vr pa10), (vr pa11), (vi 0), (vi 3), (vi 0), (vi pi15), (vr pa16), (vr pa17), (vr pa18), (vi 0), .val (.long ((pi6.toInt64) + (0 : Int64))), .second] [(.int 0), (.int 0), (.ref pa16)])) _
          refine XS.iload X0.here hx rfl (hb hby at_410) rfl ?_
          refine st9.trans ?_
          refine XS.lload X9.here hx rfl (hb hby at_415) rfl ?_
          refine XS.lcmp X9.here hx rfl (hb hby at_417) rfl ?_
          refine XS.ifNo X9.here hx rfl (hb hby at_418) rfl ((if0 _ _).trans (teq ((lw_eq _ _).mpr (by rw [own_c0T]; try rfl) : (lcmpW ((pi6.toInt64) + ((3 : Int64) * ((selT pi15 (0 : Int32) (0 : Int32) (0 : Int32)).toInt64))) ((pi6.toInt64) + (0 : Int64))) = (0 : Int32))).2) ?_
          refine XS.iconst X9.here hx rfl (hb hby at_421) ?_
          show Steps p.tables e below (T9.setTop (mkF m 422 #[(vi pi1), (vi pi2), (vi pi3), (vi pi4), (vi pi5), (vi pi6), (vi 0), (vr pa8), (vr pa9), (vr pa10), (vr pa11), (vi 0), (vi 3), (vi 0), (vi pi15), (vr pa16), (vr pa17), (vr pa18), (vi 0), .val (.long ((pi6.toInt64) + (0 : Int64))), .second] [(.int 1)])) _
          refine XS.goto X9.here hx rfl (pc0 := 422) (pc' := 426) rfl (hb hby at_422) (by decide) (by decide) ?_
          exact retN X9 hx (t := .boolean) hret0 (by simp) (hb hby at_426) hr
        · skip
          exact ⟨rfl, N9⟩
      · skip
        have pre10 : ∀ t, Steps p.tables e below (T0.setTop (mkF m 341 #[(vi pi1), (vi pi2), (vi pi3), (vi pi4), (vi pi5), (vi pi6), (vi 0), (vr pa8), (vr pa9), (vr pa10), (vr pa11), (vi 0), (vi 3), (vi 1), (vi pi15), (vr pa16), (vr pa17), (vr pa18), (vi 0), .unset, .unset] [])) t → Steps p.tables e below (T0.setTop (mkF m 312 #[(vi pi1), (vi pi2), (vi pi3), (vi pi4), (vi pi5), (vi pi6), (vi pi7), (vr pa8), (vr pa9), (vr pa10), (vr pa11), (vi pi12), (vi pi13), (vi pi14), (vi pi15), (vr pa16), (vr pa17), (vr pa18), .unset, .unset, .unset] [])) t := by
          intro t k
          refine pre6 t ?_
          rw [hk7]
          exact k
        obtain ⟨cq11, kq11, q11a, q11b, q11c⟩ := isOf hZ e0 P12
        obtain ⟨_, _, ⟨T11, L11, k11, n11⟩, -, X11, ⟨Lc11, hQ11, l11, y11, z11⟩, st11⟩ := X0.virtualBack hx (y := M7) (z := M7) hown (mvT hZ (ow hw 131 rfl)) (mvT hZ (ow hw 132 rfl)) (notFace_of_selects (args := #[]) (mvT hZ (ow hw 134 rfl))) (mvT hZ (ow hw 134 rfl)) (mvT hZ (ow hw 133 rfl)) (by decide) (backOf (W := 0) (au17_1 l Z a0 hw [] wDEFAULTCAPACITY_EMPTY_ELEMENTDATA kwDEFAULTCAPACITY_EMPTY_ELEMENTDATA hS pa16 pi15 pa35 pi6 pa37 pk60 pa61 pa62 pk63 pk64 pa65 pa66 pa67 pk71 h0 n0 O0 P13 P14 P16 P47 P54 P56 P64 htr) hZ (ow hw 135 rfl) (ow hw 11 rfl) (by decide) (by decide)) q11a q11c (g := (mkF m 412 #[(vi pi1), (vi pi2), (vi pi3), (vi pi4), (vi pi5), (vi pi6), (vi 0), (vr pa8), (vr pa9), (vr pa10), (vr pa11), (vi 0), (vi 3), (vi 1), (vi pi15), (vr pa16), (vr pa17), (vr pa18), (vi 0), .val (.long ((pi6.toInt64) + (0 : Int64))), .second] [(.int pi15), (.int 1), (.int 0), (.ref pa16)])) rfl (by rw [hml]; rfl) (Steps.refl _) (argsL := [(.int 0), (.int 1), (.int pi15)]) (rest := []) (lenOf pd_4 rfl) rfl (by show 2 * 0 + _ ≤ _; exact Nat.le_of_eq rfl) (hb hby at_412) (fun _ _ => ⟨rfl, e0, (by decide : 26 + 0 ≤ _), (by decide : 69 + 0 ≤ _)⟩)
        dsimp only [Pt.U, Pt.locs, Pt.cells, Pt.slots] at X11 l11 y11 z11 st11 hQ11
        subst l11 y11 z11
        obtain ⟨rfl, Nq11, K11q⟩ := hQ11
        have N11 := Fr.app N0 Nq11
        obtain ⟨fs, hr, hrun, hended, hW, hsame⟩ := X11.leave (v := some (.int 1)) (fun h => by rw [hret0] at h; cases h)
        refine ⟨_, _, pre10 _ ?_, hrun, hended, _, _, rfl, ?_, ⟨_, rfl⟩, hW, hsame.mono (by decide) (by decide)⟩
        · skip
          show Steps p.tables e below (T0.setTop (mkF m 341 #[(vi pi1), (vi pi2), (vi pi3), (vi pi4), (vi pi5), (vi pi6), (vi 0), (vr pa8), (vr pa9), (vr pa10), (vr pa11), (vi 0), (vi 3), (vi 1), (vi pi15), (vr pa16), (vr pa17), (vr pa18), (vi 0), .unset, .unset] [])) _
          refine XS.iload X0.here hx rfl (hb hby at_341) rfl ?_
          refine XS.iconst X0.here hx rfl (hb hby at_343) ?_
          refine XS.icmpYes X0.here hx rfl (pc0 := 344) (pc' := 366) rfl (hb hby at_344) rfl (tlt (by decide : (0 : Int32) < (1 : Int32))).1 (by decide) (by decide) ?_
          refine XS.iload X0.here hx rfl (hb hby at_366) rfl ?_
          refine XS.iconst X0.here hx rfl (hb hby at_368) ?_
          refine XS.icmpYes X0.here hx rfl (pc0 := 369) (pc' := 391) rfl (hb hby at_369) rfl (tlt (by decide : (0 : Int32) < (2 : Int32))).1 (by decide) (by decide) ?_
          show Steps p.tables e below (T0.setTop (mkF m 391 #[(vi pi1), (vi pi2), (vi pi3), (vi pi4), (vi pi5), (vi pi6), (vi 0), (vr pa8), (vr pa9), (vr pa10), (vr pa11), (vi 0), (vi 3), (vi 1), (vi pi15), (vr pa16), (vr pa17), (vr pa18), (vi 0), .unset, .unset] [])) _
          refine XS.iload X0.here hx rfl (hb hby at_391) rfl ?_
          refine XS.i2l X0.here hx rfl (hb hby at_393) rfl ?_
          refine XS.iload X0.here hx rfl (hb hby at_394) rfl ?_
          refine XS.i2l X0.here hx rfl (hb hby at_396) rfl ?_
          refine XS.iload X0.here hx rfl (hb hby at_397) rfl ?_
          refine XS.i2l X0.here hx rfl (hb hby at_399) rfl ?_
          show Steps p.tables e below (T0.setTop (mkF m 400 #[(vi pi1), (vi pi2), (vi pi3), (vi pi4), (vi pi5), (vi pi6), (vi 0), (vr pa8), (vr pa9), (vr pa10), (vr pa11), (vi 0), (vi 3), (vi 1), (vi pi15), (vr pa16), (vr pa17), (vr pa18), (vi 0), .unset, .unset] [(.long 0), (.long 3), (.long (pi6.toInt64))])) _
          refine XS.lmul X0.here hx rfl (hb hby at_400) rfl ?_
          refine XS.ladd X0.here hx rfl (hb hby at_401) rfl ?_
          refine XS.lstore X0.here hx rfl (hb hby at_402) rfl (l' := #[(vi pi1), (vi pi2), (vi pi3), (vi pi4), (vi pi5), (vi pi6), (vi 0), (vr pa8), (vr pa9), (vr pa10), (vr pa11), (vi 0), (vi 3), (vi 1), (vi pi15), (vr pa16), (vr pa17), (vr pa18), (vi 0), .val (.long ((pi6.toInt64) + (0 : Int64))), .second]) rfl ?_
          refine XS.aload X0.here hx rfl (hb hby at_404) rfl rfl ?_
          refine XS.iload X0.here hx rfl (hb hby at_406) rfl ?_
          refine XS.iload X0.here hx rfl (hb hby at_408) rfl ?_
          show Steps p.tables e below (T0.setTop (mkF m 410 #[(vi pi1), (vi pi2), (vi pi3), (vi pi4), (vi pi5), (vi pi6), (vi 0), (vr pa8), (vr pa9), (vr pa10), (vr pa11), (vi 0), (vi 3), (vi 1), (vi pi15), (vr pa16), (vr pa17), (vr pa18), (vi 0), .val (.long ((pi6.toInt64) + (0 : Int64))), .second] [(.int 1), (.int 0), (.ref pa16)])) _
          refine XS.iload X0.here hx rfl (hb hby at_410) rfl ?_
          refine st11.trans ?_
          refine XS.lload X11.here hx rfl (hb hby at_415) rfl ?_
          refine XS.lcmp X11.here hx rfl (hb hby at_417) rfl ?_
          refine XS.ifNo X11.here hx rfl (hb hby at_418) rfl ((if0 _ _).trans (teq ((lw_eq _ _).mpr (by rw [own_c0T]; try rfl) : (lcmpW ((pi6.toInt64) + ((3 : Int64) * ((selT pi15 (0 : Int32) (0 : Int32) (0 : Int32)).toInt64))) ((pi6.toInt64) + (0 : Int64))) = (0 : Int32))).2) ?_
          refine XS.iconst X11.here hx rfl (hb hby at_421) ?_
          show Steps p.tables e below (T11.setTop (mkF m 422 #[(vi pi1), (vi pi2), (vi pi3), (vi pi4), (vi pi5), (vi pi6), (vi 0), (vr pa8), (vr pa9), (vr pa10), (vr pa11), (vi 0), (vi 3), (vi 1), (vi pi15), (vr pa16), (vr pa17), (vr pa18), (vi 0), .val (.long ((pi6.toInt64) + (0 : Int64))), .second] [(.int 1)])) _
          refine XS.goto X11.here hx rfl (pc0 := 422) (pc' := 426) rfl (hb hby at_422) (by decide) (by decide) ?_
          exact retN X11 hx (t := .boolean) hret0 (by simp) (hb hby at_426) hr
        · skip
          exact ⟨rfl, N11⟩
      · skip
        have pre12 : ∀ t, Steps p.tables e below (T0.setTop (mkF m 341 #[(vi pi1), (vi pi2), (vi pi3), (vi pi4), (vi pi5), (vi pi6), (vi 0), (vr pa8), (vr pa9), (vr pa10), (vr pa11), (vi 0), (vi 3), (vi 2), (vi pi15), (vr pa16), (vr pa17), (vr pa18), (vi 0), .unset, .unset] [])) t → Steps p.tables e below (T0.setTop (mkF m 312 #[(vi pi1), (vi pi2), (vi pi3), (vi pi4), (vi pi5), (vi pi6), (vi pi7), (vr pa8), (vr pa9), (vr pa10), (vr pa11), (vi pi12), (vi pi13), (vi pi14), (vi pi15), (vr pa16), (vr pa17), (vr pa18), .unset, .unset, .unset] [])) t := by
          intro t k
          refine pre6 t ?_
          rw [hk7]
          exact k
        obtain ⟨cq13, kq13, q13a, q13b, q13c⟩ := isOf hZ e0 P12
        obtain ⟨_, _, ⟨T13, L13, k13, n13⟩, -, X13, ⟨Lc13, hQ13, l13, y13, z13⟩, st13⟩ := X0.virtualBack hx (y := M7) (z := M7) hown (mvT hZ (ow hw 131 rfl)) (mvT hZ (ow hw 132 rfl)) (notFace_of_selects (args := #[]) (mvT hZ (ow hw 134 rfl))) (mvT hZ (ow hw 134 rfl)) (mvT hZ (ow hw 133 rfl)) (by decide) (backOf (W := 0) (au17_2 l Z a0 hw [] wDEFAULTCAPACITY_EMPTY_ELEMENTDATA kwDEFAULTCAPACITY_EMPTY_ELEMENTDATA hS pa16 pi15 pa35 pi6 pa37 pk60 pa61 pa62 pk63 pk64 pa65 pa66 pa67 pk71 h0 n0 O0 P13 P14 P16 P47 P54 P56 P66 htr) hZ (ow hw 135 rfl) (ow hw 11 rfl) (by decide) (by decide)) q13a q13c (g := (mkF m 412 #[(vi pi1), (vi pi2), (vi pi3), (vi pi4), (vi pi5), (vi pi6), (vi 0), (vr pa8), (vr pa9), (vr pa10), (vr pa11), (vi 0), (vi 3), (vi 2), (vi pi15), (vr pa16), (vr pa17), (vr pa18), (vi 0), .val (.long ((pi6.toInt64) + (0 : Int64))), .second] [(.int pi15), (.int 2), (.int 0), (.ref pa16)])) rfl (by rw [hml]; rfl) (Steps.refl _) (argsL := [(.int 0), (.int 2), (.int pi15)]) (rest := []) (lenOf pd_4 rfl) rfl (by show 2 * 0 + _ ≤ _; exact Nat.le_of_eq rfl) (hb hby at_412) (fun _ _ => ⟨rfl, e0, (by decide : 26 + 0 ≤ _), (by decide : 69 + 0 ≤ _)⟩)
        dsimp only [Pt.U, Pt.locs, Pt.cells, Pt.slots] at X13 l13 y13 z13 st13 hQ13
        subst l13 y13 z13
        obtain ⟨rfl, Nq13, K13q⟩ := hQ13
        have N13 := Fr.app N0 Nq13
        obtain ⟨fs, hr, hrun, hended, hW, hsame⟩ := X13.leave (v := some (.int 1)) (fun h => by rw [hret0] at h; cases h)
        refine ⟨_, _, pre12 _ ?_, hrun, hended, _, _, rfl, ?_, ⟨_, rfl⟩, hW, hsame.mono (by decide) (by decide)⟩
        · skip
          show Steps p.tables e below (T0.setTop (mkF m 341 #[(vi pi1), (vi pi2), (vi pi3), (vi pi4), (vi pi5), (vi pi6), (vi 0), (vr pa8), (vr pa9), (vr pa10), (vr pa11), (vi 0), (vi 3), (vi 2), (vi pi15), (vr pa16), (vr pa17), (vr pa18), (vi 0), .unset, .unset] [])) _
          refine XS.iload X0.here hx rfl (hb hby at_341) rfl ?_
          refine XS.iconst X0.here hx rfl (hb hby at_343) ?_
          refine XS.icmpYes X0.here hx rfl (pc0 := 344) (pc' := 366) rfl (hb hby at_344) rfl (tlt (by decide : (0 : Int32) < (1 : Int32))).1 (by decide) (by decide) ?_
          refine XS.iload X0.here hx rfl (hb hby at_366) rfl ?_
          refine XS.iconst X0.here hx rfl (hb hby at_368) ?_
          refine XS.icmpYes X0.here hx rfl (pc0 := 369) (pc' := 391) rfl (hb hby at_369) rfl (tlt (by decide : (0 : Int32) < (2 : Int32))).1 (by decide) (by decide) ?_
          show Steps p.tables e below (T0.setTop (mkF m 391 #[(vi pi1), (vi pi2), (vi pi3), (vi pi4), (vi pi5), (vi pi6), (vi 0), (vr pa8), (vr pa9), (vr pa10), (vr pa11), (vi 0), (vi 3), (vi 2), (vi pi15), (vr pa16), (vr pa17), (vr pa18), (vi 0), .unset, .unset] [])) _
          refine XS.iload X0.here hx rfl (hb hby at_391) rfl ?_
          refine XS.i2l X0.here hx rfl (hb hby at_393) rfl ?_
          refine XS.iload X0.here hx rfl (hb hby at_394) rfl ?_
          refine XS.i2l X0.here hx rfl (hb hby at_396) rfl ?_
          refine XS.iload X0.here hx rfl (hb hby at_397) rfl ?_
          refine XS.i2l X0.here hx rfl (hb hby at_399) rfl ?_
          show Steps p.tables e below (T0.setTop (mkF m 400 #[(vi pi1), (vi pi2), (vi pi3), (vi pi4), (vi pi5), (vi pi6), (vi 0), (vr pa8), (vr pa9), (vr pa10), (vr pa11), (vi 0), (vi 3), (vi 2), (vi pi15), (vr pa16), (vr pa17), (vr pa18), (vi 0), .unset, .unset] [(.long 0), (.long 3), (.long (pi6.toInt64))])) _
          refine XS.lmul X0.here hx rfl (hb hby at_400) rfl ?_
          refine XS.ladd X0.here hx rfl (hb hby at_401) rfl ?_
          refine XS.lstore X0.here hx rfl (hb hby at_402) rfl (l' := #[(vi pi1), (vi pi2), (vi pi3), (vi pi4), (vi pi5), (vi pi6), (vi 0), (vr pa8), (vr pa9), (vr pa10), (vr pa11), (vi 0), (vi 3), (vi 2), (vi pi15), (vr pa16), (vr pa17), (vr pa18), (vi 0), .val (.long ((pi6.toInt64) + (0 : Int64))), .second]) rfl ?_
          refine XS.aload X0.here hx rfl (hb hby at_404) rfl rfl ?_
          refine XS.iload X0.here hx rfl (hb hby at_406) rfl ?_
          refine XS.iload X0.here hx rfl (hb hby at_408) rfl ?_
          show Steps p.tables e below (T0.setTop (mkF m 410 #[(vi pi1), (vi pi2), (vi pi3), (vi pi4), (vi pi5), (vi pi6), (vi 0), (vr pa8), (vr pa9), (vr pa10), (vr pa11), (vi 0), (vi 3), (vi 2), (vi pi15), (vr pa16), (vr pa17), (vr pa18), (vi 0), .val (.long ((pi6.toInt64) + (0 : Int64))), .second] [(.int 2), (.int 0), (.ref pa16)])) _
          refine XS.iload X0.here hx rfl (hb hby at_410) rfl ?_
          refine st13.trans ?_
          refine XS.lload X13.here hx rfl (hb hby at_415) rfl ?_
          refine XS.lcmp X13.here hx rfl (hb hby at_417) rfl ?_
          refine XS.ifNo X13.here hx rfl (hb hby at_418) rfl ((if0 _ _).trans (teq ((lw_eq _ _).mpr (by rw [own_c0T]; try rfl) : (lcmpW ((pi6.toInt64) + ((3 : Int64) * ((selT pi15 (0 : Int32) (0 : Int32) (0 : Int32)).toInt64))) ((pi6.toInt64) + (0 : Int64))) = (0 : Int32))).2) ?_
          refine XS.iconst X13.here hx rfl (hb hby at_421) ?_
          show Steps p.tables e below (T13.setTop (mkF m 422 #[(vi pi1), (vi pi2), (vi pi3), (vi pi4), (vi pi5), (vi pi6), (vi 0), (vr pa8), (vr pa9), (vr pa10), (vr pa11), (vi 0), (vi 3), (vi 2), (vi pi15), (vr pa16), (vr pa17), (vr pa18), (vi 0), .val (.long ((pi6.toInt64) + (0 : Int64))), .second] [(.int 1)])) _
          refine XS.goto X13.here hx rfl (pc0 := 422) (pc' := 426) rfl (hb hby at_422) (by decide) (by decide) ?_
          exact retN X13 hx (t := .boolean) hret0 (by simp) (hb hby at_426) hr
        · skip
          exact ⟨rfl, N13⟩
    · skip
      have pre14 : ∀ t, Steps p.tables e below (T0.setTop (mkF m 341 #[(vi pi1), (vi pi2), (vi pi3), (vi pi4), (vi pi5), (vi pi6), (vi 0), (vr pa8), (vr pa9), (vr pa10), (vr pa11), (vi 1), (vi pi13), (vi pi14), (vi pi15), (vr pa16), (vr pa17), (vr pa18), (vi 0), .unset, .unset] [])) t → Steps p.tables e below (T0.setTop (mkF m 312 #[(vi pi1), (vi pi2), (vi pi3), (vi pi4), (vi pi5), (vi pi6), (vi pi7), (vr pa8), (vr pa9), (vr pa10), (vr pa11), (vi pi12), (vi pi13), (vi pi14), (vi pi15), (vr pa16), (vr pa17), (vr pa18), .unset, .unset, .unset] [])) t := by
        intro t k
        refine pre3 t ?_
        rw [hk4]
        exact k
      have hn3 : pi13 = (2 : Int32) := by rw [P87, hk4]; decide
      have hpo : inB pi14 := P88.2 hn3
      have htr : inB pi15 := P89.2 hn3
      have pre15 : ∀ t, Steps p.tables e below (T0.setTop (mkF m 341 #[(vi pi1), (vi pi2), (vi pi3), (vi pi4), (vi pi5), (vi pi6), (vi 0), (vr pa8), (vr pa9), (vr pa10), (vr pa11), (vi 1), (vi 2), (vi pi14), (vi pi15), (vr pa16), (vr pa17), (vr pa18), (vi 0), .unset, .unset] [])) t → Steps p.tables e below (T0.setTop (mkF m 312 #[(vi pi1), (vi pi2), (vi pi3), (vi pi4), (vi pi5), (vi pi6), (vi pi7), (vr pa8), (vr pa9), (vr pa10), (vr pa11), (vi pi12), (vi pi13), (vi pi14), (vi pi15), (vr pa16), (vr pa17), (vr pa18), .unset, .unset, .unset] [])) t := by
        intro t k
        refine pre14 t ?_
        rw [hn3]
        exact k
      rcases (id (hpo)) with hk16 | hk16
      · skip
        have pre17 : ∀ t, Steps p.tables e below (T0.setTop (mkF m 341 #[(vi pi1), (vi pi2), (vi pi3), (vi pi4), (vi pi5), (vi pi6), (vi 0), (vr pa8), (vr pa9), (vr pa10), (vr pa11), (vi 1), (vi 2), (vi 0), (vi pi15), (vr pa16), (vr pa17), (vr pa18), (vi 0), .unset, .unset] [])) t → Steps p.tables e below (T0.setTop (mkF m 312 #[(vi pi1), (vi pi2), (vi pi3), (vi pi4), (vi pi5), (vi pi6), (vi pi7), (vr pa8), (vr pa9), (vr pa10), (vr pa11), (vi pi12), (vi pi13), (vi pi14), (vi pi15), (vr pa16), (vr pa17), (vr pa18), .unset, .unset, .unset] [])) t := by
          intro t k
          refine pre15 t ?_
          rw [hk16]
          exact k
        obtain ⟨cq18, kq18, q18a, q18b, q18c⟩ := isOf hZ e0 P12
        obtain ⟨_, _, ⟨T18, L18, k18, n18⟩, -, X18, ⟨Lc18, hQ18, l18, y18, z18⟩, st18⟩ := X0.virtualBack hx (y := M7) (z := M7) hown (mvT hZ (ow hw 131 rfl)) (mvT hZ (ow hw 132 rfl)) (notFace_of_selects (args := #[]) (mvT hZ (ow hw 134 rfl))) (mvT hZ (ow hw 134 rfl)) (mvT hZ (ow hw 133 rfl)) (by decide) (backOf (W := 0) (au17_3 l Z a0 hw [] wDEFAULTCAPACITY_EMPTY_ELEMENTDATA kwDEFAULTCAPACITY_EMPTY_ELEMENTDATA hS pa16 pi15 pa35 pi6 pa37 pk60 pa61 pa62 pk63 pk68 pa69 pa70 pk72 h0 n0 O0 P13 P14 P16 P47 P54 P59 P68 htr) hZ (ow hw 135 rfl) (ow hw 11 rfl) (by decide) (by decide)) q18a q18c (g := (mkF m 412 #[(vi pi1), (vi pi2), (vi pi3), (vi pi4), (vi pi5), (vi pi6), (vi 0), (vr pa8), (vr pa9), (vr pa10), (vr pa11), (vi 1), (vi 2), (vi 0), (vi pi15), (vr pa16), (vr pa17), (vr pa18), (vi 0), .val (.long ((pi6.toInt64) + (0 : Int64))), .second] [(.int pi15), (.int 0), (.int 1), (.ref pa16)])) rfl (by rw [hml]; rfl) (Steps.refl _) (argsL := [(.int 1), (.int 0), (.int pi15)]) (rest := []) (lenOf pd_4 rfl) rfl (by show 2 * 0 + _ ≤ _; exact Nat.le_of_eq rfl) (hb hby at_412) (fun _ _ => ⟨rfl, e0, (by decide : 26 + 0 ≤ _), (by decide : 69 + 0 ≤ _)⟩)
        dsimp only [Pt.U, Pt.locs, Pt.cells, Pt.slots] at X18 l18 y18 z18 st18 hQ18
        subst l18 y18 z18
        obtain ⟨rfl, Nq18, K18q⟩ := hQ18
        have N18 := Fr.app N0 Nq18
        obtain ⟨fs, hr, hrun, hended, hW, hsame⟩ := X18.leave (v := some (.int 1)) (fun h => by rw [hret0] at h; cases h)
        refine ⟨_, _, pre17 _ ?_, hrun, hended, _, _, rfl, ?_, ⟨_, rfl⟩, hW, hsame.mono (by decide) (by decide)⟩
        · skip
          show Steps p.tables e below (T0.setTop (mkF m 341 #[(vi pi1), (vi pi2), (vi pi3), (vi pi4), (vi pi5), (vi pi6), (vi 0), (vr pa8), (vr pa9), (vr pa10), (vr pa11), (vi 1), (vi 2), (vi 0), (vi pi15), (vr pa16), (vr pa17), (vr pa18), (vi 0), .unset, .unset] [])) _
          refine XS.iload X0.here hx rfl (hb hby at_341) rfl ?_
          refine XS.iconst X0.here hx rfl (hb hby at_343) ?_
          refine XS.icmpYes X0.here hx rfl (pc0 := 344) (pc' := 366) rfl (hb hby at_344) rfl (tlt (by decide : (0 : Int32) < (1 : Int32))).1 (by decide) (by decide) ?_
          refine XS.iload X0.here hx rfl (hb hby at_366) rfl ?_
          refine XS.iconst X0.here hx rfl (hb hby at_368) ?_
          refine XS.icmpYes X0.here hx rfl (pc0 := 369) (pc' := 391) rfl (hb hby at_369) rfl (tlt (by decide : (0 : Int32) < (2 : Int32))).1 (by decide) (by decide) ?_
          show Steps p.tables e below (T0.setTop (mkF m 391 #[(vi pi1), (vi pi2), (vi pi3), (vi pi4), (vi pi5), (vi pi6), (vi 0), (vr pa8), (vr pa9), (vr pa10), (vr pa11), (vi 1), (vi 2), (vi 0), (vi pi15), (vr pa16), (vr pa17), (vr pa18), (vi 0), .unset, .unset] [])) _
          refine XS.iload X0.here hx rfl (hb hby at_391) rfl ?_
          refine XS.i2l X0.here hx rfl (hb hby at_393) rfl ?_
          refine XS.iload X0.here hx rfl (hb hby at_394) rfl ?_
          refine XS.i2l X0.here hx rfl (hb hby at_396) rfl ?_
          refine XS.iload X0.here hx rfl (hb hby at_397) rfl ?_
          refine XS.i2l X0.here hx rfl (hb hby at_399) rfl ?_
          show Steps p.tables e below (T0.setTop (mkF m 400 #[(vi pi1), (vi pi2), (vi pi3), (vi pi4), (vi pi5), (vi pi6), (vi 0), (vr pa8), (vr pa9), (vr pa10), (vr pa11), (vi 1), (vi 2), (vi 0), (vi pi15), (vr pa16), (vr pa17), (vr pa18), (vi 0), .unset, .unset] [(.long 0), (.long 2), (.long (pi6.toInt64))])) _
          refine XS.lmul X0.here hx rfl (hb hby at_400) rfl ?_
          refine XS.ladd X0.here hx rfl (hb hby at_401) rfl ?_
          refine XS.lstore X0.here hx rfl (hb hby at_402) rfl (l' := #[(vi pi1), (vi pi2), (vi pi3), (vi pi4), (vi pi5), (vi pi6), (vi 0), (vr pa8), (vr pa9), (vr pa10), (vr pa11), (vi 1), (vi 2), (vi 0), (vi pi15), (vr pa16), (vr pa17), (vr pa18), (vi 0), .val (.long ((pi6.toInt64) + (0 : Int64))), .second]) rfl ?_
          refine XS.aload X0.here hx rfl (hb hby at_404) rfl rfl ?_
          refine XS.iload X0.here hx rfl (hb hby at_406) rfl ?_
          refine XS.iload X0.here hx rfl (hb hby at_408) rfl ?_
          show Steps p.tables e below (T0.setTop (mkF m 410 #[(vi pi1), (vi pi2), (vi pi3), (vi pi4), (vi pi5), (vi pi6), (vi 0), (vr pa8), (vr pa9), (vr pa10), (vr pa11), (vi 1), (vi 2), (vi 0), (vi pi15), (vr pa16), (vr pa17), (vr pa18), (vi 0), .val (.long ((pi6.toInt64) + (0 : Int64))), .second] [(.int 0), (.int 1), (.ref pa16)])) _
          refine XS.iload X0.here hx rfl (hb hby at_410) rfl ?_
          refine st18.trans ?_
          refine XS.lload X18.here hx rfl (hb hby at_415) rfl ?_
          refine XS.lcmp X18.here hx rfl (hb hby at_417) rfl ?_
          refine XS.ifNo X18.here hx rfl (hb hby at_418) rfl ((if0 _ _).trans (teq ((lw_eq _ _).mpr (by rw [own_c0B]; try rfl) : (lcmpW ((pi6.toInt64) + ((2 : Int64) * ((selB pi15 (0 : Int32) (0 : Int32)).toInt64))) ((pi6.toInt64) + (0 : Int64))) = (0 : Int32))).2) ?_
          refine XS.iconst X18.here hx rfl (hb hby at_421) ?_
          show Steps p.tables e below (T18.setTop (mkF m 422 #[(vi pi1), (vi pi2), (vi pi3), (vi pi4), (vi pi5), (vi pi6), (vi 0), (vr pa8), (vr pa9), (vr pa10), (vr pa11), (vi 1), (vi 2), (vi 0), (vi pi15), (vr pa16), (vr pa17), (vr pa18), (vi 0), .val (.long ((pi6.toInt64) + (0 : Int64))), .second] [(.int 1)])) _
          refine XS.goto X18.here hx rfl (pc0 := 422) (pc' := 426) rfl (hb hby at_422) (by decide) (by decide) ?_
          exact retN X18 hx (t := .boolean) hret0 (by simp) (hb hby at_426) hr
        · skip
          exact ⟨rfl, N18⟩
      · skip
        have pre19 : ∀ t, Steps p.tables e below (T0.setTop (mkF m 341 #[(vi pi1), (vi pi2), (vi pi3), (vi pi4), (vi pi5), (vi pi6), (vi 0), (vr pa8), (vr pa9), (vr pa10), (vr pa11), (vi 1), (vi 2), (vi 1), (vi pi15), (vr pa16), (vr pa17), (vr pa18), (vi 0), .unset, .unset] [])) t → Steps p.tables e below (T0.setTop (mkF m 312 #[(vi pi1), (vi pi2), (vi pi3), (vi pi4), (vi pi5), (vi pi6), (vi pi7), (vr pa8), (vr pa9), (vr pa10), (vr pa11), (vi pi12), (vi pi13), (vi pi14), (vi pi15), (vr pa16), (vr pa17), (vr pa18), .unset, .unset, .unset] [])) t := by
          intro t k
          refine pre15 t ?_
          rw [hk16]
          exact k
        obtain ⟨cq20, kq20, q20a, q20b, q20c⟩ := isOf hZ e0 P12
        obtain ⟨_, _, ⟨T20, L20, k20, n20⟩, -, X20, ⟨Lc20, hQ20, l20, y20, z20⟩, st20⟩ := X0.virtualBack hx (y := M7) (z := M7) hown (mvT hZ (ow hw 131 rfl)) (mvT hZ (ow hw 132 rfl)) (notFace_of_selects (args := #[]) (mvT hZ (ow hw 134 rfl))) (mvT hZ (ow hw 134 rfl)) (mvT hZ (ow hw 133 rfl)) (by decide) (backOf (W := 0) (au17_4 l Z a0 hw [] wDEFAULTCAPACITY_EMPTY_ELEMENTDATA kwDEFAULTCAPACITY_EMPTY_ELEMENTDATA hS pa16 pi15 pa35 pi6 pa37 pk60 pa61 pa62 pk63 pk68 pa69 pa70 pk72 h0 n0 O0 P13 P14 P16 P47 P54 P59 P70 htr) hZ (ow hw 135 rfl) (ow hw 11 rfl) (by decide) (by decide)) q20a q20c (g := (mkF m 412 #[(vi pi1), (vi pi2), (vi pi3), (vi pi4), (vi pi5), (vi pi6), (vi 0), (vr pa8), (vr pa9), (vr pa10), (vr pa11), (vi 1), (vi 2), (vi 1), (vi pi15), (vr pa16), (vr pa17), (vr pa18), (vi 0), .val (.long ((pi6.toInt64) + (0 : Int64))), .second] [(.int pi15), (.int 1), (.int 1), (.ref pa16)])) rfl (by rw [hml]; rfl) (Steps.refl _) (argsL := [(.int 1), (.int 1), (.int pi15)]) (rest := []) (lenOf pd_4 rfl) rfl (by show 2 * 0 + _ ≤ _; exact Nat.le_of_eq rfl) (hb hby at_412) (fun _ _ => ⟨rfl, e0, (by decide : 26 + 0 ≤ _), (by decide : 69 + 0 ≤ _)⟩)
        dsimp only [Pt.U, Pt.locs, Pt.cells, Pt.slots] at X20 l20 y20 z20 st20 hQ20
        subst l20 y20 z20
        obtain ⟨rfl, Nq20, K20q⟩ := hQ20
        have N20 := Fr.app N0 Nq20
        obtain ⟨fs, hr, hrun, hended, hW, hsame⟩ := X20.leave (v := some (.int 1)) (fun h => by rw [hret0] at h; cases h)
        refine ⟨_, _, pre19 _ ?_, hrun, hended, _, _, rfl, ?_, ⟨_, rfl⟩, hW, hsame.mono (by decide) (by decide)⟩
        · skip
          show Steps p.tables e below (T0.setTop (mkF m 341 #[(vi pi1), (vi pi2), (vi pi3), (vi pi4), (vi pi5), (vi pi6), (vi 0), (vr pa8), (vr pa9), (vr pa10), (vr pa11), (vi 1), (vi 2), (vi 1), (vi pi15), (vr pa16), (vr pa17), (vr pa18), (vi 0), .unset, .unset] [])) _
          refine XS.iload X0.here hx rfl (hb hby at_341) rfl ?_
          refine XS.iconst X0.here hx rfl (hb hby at_343) ?_
          refine XS.icmpYes X0.here hx rfl (pc0 := 344) (pc' := 366) rfl (hb hby at_344) rfl (tlt (by decide : (0 : Int32) < (1 : Int32))).1 (by decide) (by decide) ?_
          refine XS.iload X0.here hx rfl (hb hby at_366) rfl ?_
          refine XS.iconst X0.here hx rfl (hb hby at_368) ?_
          refine XS.icmpYes X0.here hx rfl (pc0 := 369) (pc' := 391) rfl (hb hby at_369) rfl (tlt (by decide : (0 : Int32) < (2 : Int32))).1 (by decide) (by decide) ?_
          show Steps p.tables e below (T0.setTop (mkF m 391 #[(vi pi1), (vi pi2), (vi pi3), (vi pi4), (vi pi5), (vi pi6), (vi 0), (vr pa8), (vr pa9), (vr pa10), (vr pa11), (vi 1), (vi 2), (vi 1), (vi pi15), (vr pa16), (vr pa17), (vr pa18), (vi 0), .unset, .unset] [])) _
          refine XS.iload X0.here hx rfl (hb hby at_391) rfl ?_
          refine XS.i2l X0.here hx rfl (hb hby at_393) rfl ?_
          refine XS.iload X0.here hx rfl (hb hby at_394) rfl ?_
          refine XS.i2l X0.here hx rfl (hb hby at_396) rfl ?_
          refine XS.iload X0.here hx rfl (hb hby at_397) rfl ?_
          refine XS.i2l X0.here hx rfl (hb hby at_399) rfl ?_
          show Steps p.tables e below (T0.setTop (mkF m 400 #[(vi pi1), (vi pi2), (vi pi3), (vi pi4), (vi pi5), (vi pi6), (vi 0), (vr pa8), (vr pa9), (vr pa10), (vr pa11), (vi 1), (vi 2), (vi 1), (vi pi15), (vr pa16), (vr pa17), (vr pa18), (vi 0), .unset, .unset] [(.long 0), (.long 2), (.long (pi6.toInt64))])) _
          refine XS.lmul X0.here hx rfl (hb hby at_400) rfl ?_
          refine XS.ladd X0.here hx rfl (hb hby at_401) rfl ?_
          refine XS.lstore X0.here hx rfl (hb hby at_402) rfl (l' := #[(vi pi1), (vi pi2), (vi pi3), (vi pi4), (vi pi5), (vi pi6), (vi 0), (vr pa8), (vr pa9), (vr pa10), (vr pa11), (vi 1), (vi 2), (vi 1), (vi pi15), (vr pa16), (vr pa17), (vr pa18), (vi 0), .val (.long ((pi6.toInt64) + (0 : Int64))), .second]) rfl ?_
          refine XS.aload X0.here hx rfl (hb hby at_404) rfl rfl ?_
          refine XS.iload X0.here hx rfl (hb hby at_406) rfl ?_
          refine XS.iload X0.here hx rfl (hb hby at_408) rfl ?_
          show Steps p.tables e below (T0.setTop (mkF m 410 #[(vi pi1), (vi pi2), (vi pi3), (vi pi4), (vi pi5), (vi pi6), (vi 0), (vr pa8), (vr pa9), (vr pa10), (vr pa11), (vi 1), (vi 2), (vi 1), (vi pi15), (vr pa16), (vr pa17), (vr pa18), (vi 0), .val (.long ((pi6.toInt64) + (0 : Int64))), .second] [(.int 1), (.int 1), (.ref pa16)])) _
          refine XS.iload X0.here hx rfl (hb hby at_410) rfl ?_
          refine st20.trans ?_
          refine XS.lload X20.here hx rfl (hb hby at_415) rfl ?_
          refine XS.lcmp X20.here hx rfl (hb hby at_417) rfl ?_
          refine XS.ifNo X20.here hx rfl (hb hby at_418) rfl ((if0 _ _).trans (teq ((lw_eq _ _).mpr (by rw [own_c0B]; try rfl) : (lcmpW ((pi6.toInt64) + ((2 : Int64) * ((selB pi15 (0 : Int32) (0 : Int32)).toInt64))) ((pi6.toInt64) + (0 : Int64))) = (0 : Int32))).2) ?_
          refine XS.iconst X20.here hx rfl (hb hby at_421) ?_
          show Steps p.tables e below (T20.setTop (mkF m 422 #[(vi pi1), (vi pi2), (vi pi3), (vi pi4), (vi pi5), (vi pi6), (vi 0), (vr pa8), (vr pa9), (vr pa10), (vr pa11), (vi 1), (vi 2), (vi 1), (vi pi15), (vr pa16), (vr pa17), (vr pa18), (vi 0), .val (.long ((pi6.toInt64) + (0 : Int64))), .second] [(.int 1)])) _
          refine XS.goto X20.here hx rfl (pc0 := 422) (pc' := 426) rfl (hb hby at_422) (by decide) (by decide) ?_
          exact retN X20 hx (t := .boolean) hret0 (by simp) (hb hby at_426) hr
        · skip
          exact ⟨rfl, N20⟩
  · skip
    have pre21 : ∀ t, Steps p.tables e below (T0.setTop (mkF m 312 #[(vi pi1), (vi pi2), (vi pi3), (vi pi4), (vi pi5), (vi pi6), (vi 1), (vr pa8), (vr pa9), (vr pa10), (vr pa11), (vi pi12), (vi pi13), (vi pi14), (vi pi15), (vr pa16), (vr pa17), (vr pa18), .unset, .unset, .unset] [])) t → Steps p.tables e below (T0.setTop (mkF m 312 #[(vi pi1), (vi pi2), (vi pi3), (vi pi4), (vi pi5), (vi pi6), (vi pi7), (vr pa8), (vr pa9), (vr pa10), (vr pa11), (vi pi12), (vi pi13), (vi pi14), (vi pi15), (vr pa16), (vr pa17), (vr pa18), .unset, .unset, .unset] [])) t := by
      intro t k
      refine pre0 t ?_
      rw [hk1]
      exact k
    obtain ⟨cq22, kq22, q22a, q22b, q22c⟩ := isOf hZ e0 P12
    obtain ⟨_, _, ⟨T22, L22, k22, n22⟩, -, X22, ⟨Lc22, hQ22, l22, y22, z22⟩, st22⟩ := X0.virtualBack hx (y := M15) (z := M15) hown (mvT hZ (ow hw 77 rfl)) (mvT hZ (ow hw 78 rfl)) (notFace_of_selects (args := #[]) (mvT hZ (ow hw 80 rfl))) (mvT hZ (ow hw 80 rfl)) (mvT hZ (ow hw 79 rfl)) (by decide) (backOf (W := 0) (au9_0 l Z a0 hw [] wDEFAULTCAPACITY_EMPTY_ELEMENTDATA kwDEFAULTCAPACITY_EMPTY_ELEMENTDATA hS pa16 pa17 pa35 pi6 pa36 pa37 pa10 pk60 pa61 pa62 pk63 pk29 pa30 pa31 pk64 pa65 pa66 pa67 pk68 pa69 pa70 pk46 pi47 pi48 pi49 pk50 pi51 pi52 pk71 pk72 h0 n0 O0 P12 P13 P14 P15 P17 P18 P47 P50 P51 P52 P53 P54 P6 P56 P59 P39 P41 P62 P63 P64 P65 P66 P67 P68 P69 P70 P71 P74 P76 P77 P78 P79 P80 P106 P110 P111 P112 P113 P114 P236 P240 P241 P242 P243 P244 P259 P476 P480 P481 P482 P483 (Ne.symm P187) P486 P487 (Ne.symm P434) (Ne.symm P446) P488 P489 P490 P491 P492 P191 P192 P193 P194 P195 P501 P502 P506 P507 P508 P509 P438 P439 P440 P450 P451 P452 P453 P454 P511 P512 P513 P514 P515 P516 P517 P518 P519 P520) hZ (ow hw 81 rfl) (ow hw 11 rfl) (by decide) (by decide)) q22a q22c (g := (mkF m 322 #[(vi pi1), (vi pi2), (vi pi3), (vi pi4), (vi pi5), (vi pi6), (vi 1), (vr pa8), (vr pa9), (vr pa10), (vr pa11), (vi pi12), (vi pi13), (vi pi14), (vi pi15), (vr pa16), (vr pa17), (vr pa18), .unset, .unset, .unset] [(.ref pa17), (.ref pa16)])) rfl (by rw [hml]; rfl) (Steps.refl _) (argsL := [(.ref pa17)]) (rest := []) (lenOf pd_12 rfl) rfl (by show 2 * 0 + _ ≤ _; exact Nat.le_of_eq rfl) (hb hby at_322) (fun _ _ => ⟨rfl, e0, (by decide : 26 + 1 ≤ _), (by decide : 69 + 10 ≤ _)⟩)
    dsimp only [Pt.U, Pt.locs, Pt.cells, Pt.slots] at X22 l22 y22 z22 st22 hQ22
    subst l22 y22 z22
    obtain ⟨e1_22, e2_22, rfl, Nq22, K22q, p22_0, p22_1, p22_2, p22_3, p22_4, p22_5, p22_6, p22_7, p22_8, p22_9, p22_10, p22_11, p22_12, p22_13, p22_14, p22_15, p22_16, p22_17⟩ := hQ22
    have N22 := Fr.app N0 Nq22
    have ne23 : pa8 ≠ e1_22 := Nat.ne_of_lt (Nat.lt_of_lt_of_le P0.lt p22_14)
    have ne24 : pa9 ≠ e1_22 := Nat.ne_of_lt (Nat.lt_of_lt_of_le P3.lt p22_14)
    have ne25 : pa10 ≠ e1_22 := Nat.ne_of_lt (Nat.lt_of_lt_of_le P6.lt p22_14)
    have ne26 : pa11 ≠ e1_22 := Nat.ne_of_lt (Nat.lt_of_lt_of_le P9.lt p22_14)
    have ne27 : pa16 ≠ e1_22 := Nat.ne_of_lt (Nat.lt_of_lt_of_le P12.lt p22_14)
    have ne28 : pa17 ≠ e1_22 := Nat.ne_of_lt (Nat.lt_of_lt_of_le P17.lt p22_14)
    have ne29 : pa18 ≠ e1_22 := Nat.ne_of_lt (Nat.lt_of_lt_of_le P20.lt p22_14)
    have ne30 : pa20 ≠ e1_22 := Nat.ne_of_lt (Nat.lt_of_lt_of_le P23.lt p22_14)
    have ne31 : pa21 ≠ e1_22 := Nat.ne_of_lt (Nat.lt_of_lt_of_le P25.lt p22_14)
    have ne32 : pa22 ≠ e1_22 := Nat.ne_of_lt (Nat.lt_of_lt_of_le P27.lt p22_14)
    have ne33 : pa23 ≠ e1_22 := Nat.ne_of_lt (Nat.lt_of_lt_of_le P29.lt p22_14)
    have ne34 : pa24 ≠ e1_22 := Nat.ne_of_lt (Nat.lt_of_lt_of_le P31.lt p22_14)
    have ne35 : pa25 ≠ e1_22 := Nat.ne_of_lt (Nat.lt_of_lt_of_le P33.lt p22_14)
    have ne36 : pa27 ≠ e1_22 := Nat.ne_of_lt (Nat.lt_of_lt_of_le P35.lt p22_14)
    have ne37 : pa28 ≠ e1_22 := Nat.ne_of_lt (Nat.lt_of_lt_of_le P37.lt p22_14)
    have ne38 : pa30 ≠ e1_22 := Nat.ne_of_lt (Nat.lt_of_lt_of_le P39.lt p22_14)
    have ne39 : pa31 ≠ e1_22 := Nat.ne_of_lt (Nat.lt_of_lt_of_le P41.lt p22_14)
    have ne40 : pa33 ≠ e1_22 := Nat.ne_of_lt (Nat.lt_of_lt_of_le P43.lt p22_14)
    have ne41 : pa34 ≠ e1_22 := Nat.ne_of_lt (Nat.lt_of_lt_of_le P45.lt p22_14)
    have ne42 : pa35 ≠ e1_22 := Nat.ne_of_lt (Nat.lt_of_lt_of_le P47.lt p22_14)
    have ne43 : pa36 ≠ e1_22 := Nat.ne_of_lt (Nat.lt_of_lt_of_le P50.lt p22_14)
    have ne44 : pa37 ≠ e1_22 := Nat.ne_of_lt (Nat.lt_of_lt_of_le P54.lt p22_14)
    have ne45 : pa61 ≠ e1_22 := Nat.ne_of_lt (Nat.lt_of_lt_of_le P56.lt p22_14)
    have ne46 : pa62 ≠ e1_22 := Nat.ne_of_lt (Nat.lt_of_lt_of_le P59.lt p22_14)
    have ne47 : pa65 ≠ e1_22 := Nat.ne_of_lt (Nat.lt_of_lt_of_le P62.lt p22_14)
    have ne48 : pa66 ≠ e1_22 := Nat.ne_of_lt (Nat.lt_of_lt_of_le P64.lt p22_14)
    have ne49 : pa67 ≠ e1_22 := Nat.ne_of_lt (Nat.lt_of_lt_of_le P66.lt p22_14)
    have ne50 : pa69 ≠ e1_22 := Nat.ne_of_lt (Nat.lt_of_lt_of_le P68.lt p22_14)
    have ne51 : pa70 ≠ e1_22 := Nat.ne_of_lt (Nat.lt_of_lt_of_le P70.lt p22_14)
    have g52 : n0 ≤ e1_22 := Nat.le_trans (own_sz O0) p22_14
    have O53 : Old Z n0 T22.heap := O0.keep K22q (allS P106 (allS P110 (allS P111 (allS P112 (allS P113 (allS P114 all0))))))
    have pre54 : ∀ t, Steps p.tables e below (T22.setTop (mkF m 341 #[(vi pi1), (vi pi2), (vi pi3), (vi pi4), (vi pi5), (vi pi6), (vi 1), (vr pa8), (vr pa9), (vr pa10), (vr pa11), (vi pi12), (vi pi13), (vi pi14), (vi pi15), (vr pa16), (vr pa17), (vr pa18), (vi 0), .unset, .unset] [])) t → Steps p.tables e below (T0.setTop (mkF m 312 #[(vi pi1), (vi pi2), (vi pi3), (vi pi4), (vi pi5), (vi pi6), (vi pi7), (vr pa8), (vr pa9), (vr pa10), (vr pa11), (vi pi12), (vi pi13), (vi pi14), (vi pi15), (vr pa16), (vr pa17), (vr pa18), .unset, .unset, .unset] [])) t := by
      intro t k
      refine pre21 t ?_
      show Steps p.tables e below (T0.setTop (mkF m 312 #[(vi pi1), (vi pi2), (vi pi3), (vi pi4), (vi pi5), (vi pi6), (vi 1), (vr pa8), (vr pa9), (vr pa10), (vr pa11), (vi pi12), (vi pi13), (vi pi14), (vi pi15), (vr pa16), (vr pa17), (vr pa18), .unset, .unset, .unset] [])) _
      refine XS.iload X0.here hx rfl (hb hby at_312) rfl ?_
      refine XS.iconst X0.here hx rfl (hb hby at_314) ?_
      refine XS.icmpNo X0.here hx rfl (hb hby at_315) rfl (flt (by decide : ¬ ((1 : Int32) < (1 : Int32)))).1 ?_
      refine XS.aload X0.here hx rfl (hb hby at_318) rfl rfl ?_
      refine XS.aload X0.here hx rfl (hb hby at_320) rfl rfl ?_
      refine st22.trans ?_
      show Steps p.tables e below (T22.setTop (mkF m 325 #[(vi pi1), (vi pi2), (vi pi3), (vi pi4), (vi pi5), (vi pi6), (vi 1), (vr pa8), (vr pa9), (vr pa10), (vr pa11), (vi pi12), (vi pi13), (vi pi14), (vi pi15), (vr pa16), (vr pa17), (vr pa18), .unset, .unset, .unset] [])) _
      refine XS.iload X22.here hx rfl (hb hby at_325) rfl ?_
      refine XS.iconst X22.here hx rfl (hb hby at_327) ?_
      refine XS.icmpYes X22.here hx rfl (pc0 := 328) (pc' := 338) rfl (hb hby at_328) rfl (tlt (by decide : (1 : Int32) < (2 : Int32))).1 (by decide) (by decide) ?_
      refine XS.iconst X22.here hx rfl (hb hby at_338) ?_
      refine XS.istore X22.here hx rfl (hb hby at_339) rfl (l' := #[(vi pi1), (vi pi2), (vi pi3), (vi pi4), (vi pi5), (vi pi6), (vi 1), (vr pa8), (vr pa9), (vr pa10), (vr pa11), (vi pi12), (vi pi13), (vi pi14), (vi pi15), (vr pa16), (vr pa17), (vr pa18), (vi 0), .unset, .unset]) rfl ?_
      exact k
    rcases (id (P86)) with hk55 | hk55
    · skip
      have pre56 : ∀ t, Steps p.tables e below (T22.setTop (mkF m 341 #[(vi pi1), (vi pi2), (vi pi3), (vi pi4), (vi pi5), (vi pi6), (vi 1), (vr pa8), (vr pa9), (vr pa10), (vr pa11), (vi 0), (vi pi13), (vi pi14), (vi pi15), (vr pa16), (vr pa17), (vr pa18), (vi 0), .unset, .unset] [])) t → Steps p.tables e below (T0.setTop (mkF m 312 #[(vi pi1), (vi pi2), (vi pi3), (vi pi4), (vi pi5), (vi pi6), (vi pi7), (vr pa8), (vr pa9), (vr pa10), (vr pa11), (vi pi12), (vi pi13), (vi pi14), (vi pi15), (vr pa16), (vr pa17), (vr pa18), .unset, .unset, .unset] [])) t := by
        intro t k
        refine pre54 t ?_
        rw [hk55]
        exact k
      have hn3 : pi13 = (3 : Int32) := by rw [P87, hk55]; decide
      have hpo : inT pi14 := P88.1 hn3
      have htr : inT pi15 := P89.1 hn3
      have pre57 : ∀ t, Steps p.tables e below (T22.setTop (mkF m 341 #[(vi pi1), (vi pi2), (vi pi3), (vi pi4), (vi pi5), (vi pi6), (vi 1), (vr pa8), (vr pa9), (vr pa10), (vr pa11), (vi 0), (vi 3), (vi pi14), (vi pi15), (vr pa16), (vr pa17), (vr pa18), (vi 0), .unset, .unset] [])) t → Steps p.tables e below (T0.setTop (mkF m 312 #[(vi pi1), (vi pi2), (vi pi3), (vi pi4), (vi pi5), (vi pi6), (vi pi7), (vr pa8), (vr pa9), (vr pa10), (vr pa11), (vi pi12), (vi pi13), (vi pi14), (vi pi15), (vr pa16), (vr pa17), (vr pa18), .unset, .unset, .unset] [])) t := by
        intro t k
        refine pre56 t ?_
        rw [hn3]
        exact k
      rcases (id (hpo)) with hk58 | hk58 | hk58
      · skip
        have pre59 : ∀ t, Steps p.tables e below (T22.setTop (mkF m 341 #[(vi pi1), (vi pi2), (vi pi3), (vi pi4), (vi pi5), (vi pi6), (vi 1), (vr pa8), (vr pa9), (vr pa10), (vr pa11), (vi 0), (vi 3), (vi 0), (vi pi15), (vr pa16), (vr pa17), (vr pa18), (vi 0), .unset, .unset] [])) t → Steps p.tables e below (T0.setTop (mkF m 312 #[(vi pi1), (vi pi2), (vi pi3), (vi pi4), (vi pi5), (vi pi6), (vi pi7), (vr pa8), (vr pa9), (vr pa10), (vr pa11), (vi pi12), (vi pi13), (vi pi14), (vi pi15), (vr pa16), (vr pa17), (vr pa18), .unset, .unset, .unset] [])) t := by
          intro t k
          refine pre57 t ?_
          rw [hk58]
          exact k
        have f60 : Arv Z T22.heap pa10 pk29 (.array .int) (2 : Int32) ([(.ref pa30), (.ref pa31)]) .null := (P6.keep K22q (ninS P187 (ninS P191 (ninS P192 (ninS P193 (ninS P194 (ninS P195 nin0)))))))
        obtain ⟨cl61, Ar61, qc61, Sz61, Nn61, Ha61, Gg61⟩ := (id f60)
        have hin61 : ¬ ((0 : Int32) < 0 ∨ cl61.slots.size ≤ ((0 : Int32)).toNatClampNeg) := inb_of Sz61 ⟨by decide, by decide⟩
        have hat61 : cl61.slots[((0 : Int32)).toNatClampNeg]? = some (.ref pa30) := Ha61.at hin61 rfl
        have f62 : Arv Z T22.heap pa30 pk46 .int (3 : Int32) ([(.int pi47), (.int pi48), (.int pi49)]) (.int 0) := (P39.keep K22q (ninS P434 (ninS P438 (ninS P439 (ninS P440 (ninS P441 (ninS P442 nin0)))))))
        obtain ⟨cl63, Ar63, qc63, Sz63, Nn63, Ha63, Gg63⟩ := (id f62)
        have hin63 : ¬ ((0 : Int32) < 0 ∨ cl63.slots.size ≤ ((0 : Int32)).toNatClampNeg) := inb_of Sz63 ⟨by decide, by decide⟩
        have hat63 : cl63.slots[((0 : Int32)).toNatClampNeg]? = some (.int pi47) := Ha63.at hin63 rfl
        have pre64 : ∀ t, Steps p.tables e below (T22.setTop (mkF m 357 #[(vi pi1), (vi pi2), (vi pi3), (vi pi4), (vi pi5), (vi pi6), (vi 1), (vr pa8), (vr pa9), (vr pa10), (vr pa11), (vi 0), (vi 3), (vi 0), (vi pi15), (vr pa16), (vr pa17), (vr pa18), (vi 0), .unset, .unset] [(.int pi15), (.int pi47)])) t → Steps p.tables e below (T0.setTop (mkF m 312 #[(vi pi1), (vi pi2), (vi pi3), (vi pi4), (vi pi5), (vi pi6), (vi pi7), (vr pa8), (vr pa9), (vr pa10), (vr pa11), (vi pi12), (vi pi13), (vi pi14), (vi pi15), (vr pa16), (vr pa17), (vr pa18), .unset, .unset, .unset] [])) t := by
          intro t k
          refine pre59 t ?_
          show Steps p.tables e below (T22.setTop (mkF m 341 #[(vi pi1), (vi pi2), (vi pi3), (vi pi4), (vi pi5), (vi pi6), (vi 1), (vr pa8), (vr pa9), (vr pa10), (vr pa11), (vi 0), (vi 3), (vi 0), (vi pi15), (vr pa16), (vr pa17), (vr pa18), (vi 0), .unset, .unset] [])) _
          refine XS.iload X22.here hx rfl (hb hby at_341) rfl ?_
          refine XS.iconst X22.here hx rfl (hb hby at_343) ?_
          refine XS.icmpNo X22.here hx rfl (hb hby at_344) rfl (flt (by decide : ¬ ((1 : Int32) < (1 : Int32)))).1 ?_
          refine XS.aload X22.here hx rfl (hb hby at_347) rfl rfl ?_
          refine XS.iload X22.here hx rfl (hb hby at_349) rfl ?_
          refine X22.aaload hx (j := (0 : Int32)) (v := (.ref pa30)) Ar61.1 (State.isArrayOf_alike hZ.alike Ar61.2.1) rfl Ar61.2.2 hin61 hat61 (g := (mkF m 351 #[(vi pi1), (vi pi2), (vi pi3), (vi pi4), (vi pi5), (vi pi6), (vi 1), (vr pa8), (vr pa9), (vr pa10), (vr pa11), (vi 0), (vi 3), (vi 0), (vi pi15), (vr pa16), (vr pa17), (vr pa18), (vi 0), .unset, .unset] [(.int 0), (.ref pa10)])) rfl rfl (hb hby at_351) _ ?_
          show Steps p.tables e below (T22.setTop (mkF m 352 #[(vi pi1), (vi pi2), (vi pi3), (vi pi4), (vi pi5), (vi pi6), (vi 1), (vr pa8), (vr pa9), (vr pa10), (vr pa11), (vi 0), (vi 3), (vi 0), (vi pi15), (vr pa16), (vr pa17), (vr pa18), (vi 0), .unset, .unset] [(.ref pa30)])) _
          refine XS.iload X22.here hx rfl (hb hby at_352) rfl ?_
          refine X22.iaload hx (j := (0 : Int32)) (v := (.int pi47)) Ar63.1 (State.isArrayOf_alike hZ.alike Ar63.2.1) Ar63.2.2 hin63 hat63 (g := (mkF m 354 #[(vi pi1), (vi pi2), (vi pi3), (vi pi4), (vi pi5), (vi pi6), (vi 1), (vr pa8), (vr pa9), (vr pa10), (vr pa11), (vi 0), (vi 3), (vi 0), (vi pi15), (vr pa16), (vr pa17), (vr pa18), (vi 0), .unset, .unset] [(.int 0), (.ref pa30)])) rfl rfl (hb hby at_354) _ ?_
          refine XS.iload X22.here hx rfl (hb hby at_355) rfl ?_
          exact k
        obtain ⟨yc, hyc⟩ : ∃ z : Int32, z = (if pi47 = pi15 then (1 : Int32) else (0 : Int32)) := ⟨_, rfl⟩
        have pre66 : ∀ t, Steps p.tables e below (T22.setTop (mkF m 366 #[(vi pi1), (vi pi2), (vi pi3), (vi pi4), (vi pi5), (vi pi6), (vi 1), (vr pa8), (vr pa9), (vr pa10), (vr pa11), (vi 0), (vi 3), (vi 0), (vi pi15), (vr pa16), (vr pa17), (vr pa18), (vi yc), .unset, .unset] [])) t → Steps p.tables e below (T0.setTop (mkF m 312 #[(vi pi1), (vi pi2), (vi pi3), (vi pi4), (vi pi5), (vi pi6), (vi pi7), (vr pa8), (vr pa9), (vr pa10), (vr pa11), (vi pi12), (vi pi13), (vi pi14), (vi pi15), (vr pa16), (vr pa17), (vr pa18), .unset, .unset, .unset] [])) t := by
          intro t k
          rw [hyc] at k
          refine pre64 t ?_
          show Steps p.tables e below (T22.setTop (mkF m 357 #[(vi pi1), (vi pi2), (vi pi3), (vi pi4), (vi pi5), (vi pi6), (vi 1), (vr pa8), (vr pa9), (vr pa10), (vr pa11), (vi 0), (vi 3), (vi 0), (vi pi15), (vr pa16), (vr pa17), (vr pa18), (vi 0), .unset, .unset] [(.int pi15), (.int pi47)])) _
          rcases Decidable.em (pi47 = pi15) with hm65 | hm65
          · first | simp only [if_pos hm65] at k | skip
            refine XS.icmpNo X22.here hx rfl (hb hby at_357) rfl (teq hm65).2 ?_
            refine XS.iload X22.here hx rfl (hb hby at_360) rfl ?_
            refine XS.iconst X22.here hx rfl (hb hby at_362) ?_
            refine XS.iadd X22.here hx rfl (hb hby at_363) rfl ?_
            refine XS.istore X22.here hx rfl (hb hby at_364) rfl (l' := #[(vi pi1), (vi pi2), (vi pi3), (vi pi4), (vi pi5), (vi pi6), (vi 1), (vr pa8), (vr pa9), (vr pa10), (vr pa11), (vi 0), (vi 3), (vi 0), (vi pi15), (vr pa16), (vr pa17), (vr pa18), (vi 1), .unset, .unset]) rfl ?_
            exact k
          · first | simp only [if_neg hm65] at k | skip
            refine XS.icmpYes X22.here hx rfl (pc0 := 357) (pc' := 366) rfl (hb hby at_357) rfl (feq hm65).2 (by decide) (by decide) ?_
            exact k
        have f67 : Fld Z T22.heap pa16 s3n "counts" "[[[I" (.ref pa35) := (P13.keep K22q (ninS P236 (ninS P240 (ninS P241 (ninS P242 (ninS P243 (ninS P244 nin0)))))))
        have f68 : Fld Z T22.heap pa16 s3n "memory" "I" (.int pi6) := (P14.keep K22q (ninS P236 (ninS P240 (ninS P241 (ninS P242 (ninS P243 (ninS P244 nin0)))))))
        have f69 : Fld Z T22.heap pa16 s3n "trains" "[I" (.ref pa37) := (P16.keep K22q (ninS P236 (ninS P240 (ninS P241 (ninS P242 (ninS P243 (ninS P244 nin0)))))))
        have f70 : Arv Z T22.heap pa35 pk60 (.array (.array .int)) (2 : Int32) ([(.ref pa61), (.ref pa62)]) .null := (P47.keep K22q (ninS P476 (ninS P480 (ninS P481 (ninS P482 (ninS P483 (ninS P484 nin0)))))))
        have f71 : Arv Z T22.heap pa37 pk63 .int (2 : Int32) ([(.int 3), (.int 2)]) (.int 0) := (P54.keep K22q (ninS (Ne.symm P485) (ninS P495 (ninS P496 (ninS P497 (ninS P498 (ninS P499 nin0)))))))
        have f72 : Arv Z T22.heap pa61 pk64 (.array .int) (3 : Int32) ([(.ref pa65), (.ref pa66), (.ref pa67)]) .null := (P56.keep K22q (ninS (Ne.symm P486) (ninS P501 (ninS P502 (ninS P503 (ninS P504 (ninS P505 nin0)))))))
        have f74 : Exa Z T22.heap pa16 s3n := (P12.keep K22q)
        obtain ⟨cq73, kq73, q73a, q73b, q73c⟩ := isOf hZ rfl f74
        obtain ⟨_, _, ⟨T73, L73, k73, n73⟩, -, X73, ⟨Lc73, hQ73, l73, y73, z73⟩, st73⟩ := X22.virtualBack hx (y := M7) (z := M7) hown (mvT hZ (ow hw 131 rfl)) (mvT hZ (ow hw 132 rfl)) (notFace_of_selects (args := #[]) (mvT hZ (ow hw 134 rfl))) (mvT hZ (ow hw 134 rfl)) (mvT hZ (ow hw 133 rfl)) (by decide) (backOf (W := 0) (au17_5 l Z a0 hw [] wDEFAULTCAPACITY_EMPTY_ELEMENTDATA kwDEFAULTCAPACITY_EMPTY_ELEMENTDATA hS pa16 pi15 pa35 pi6 pa37 pk60 pa61 pa62 pk63 pk64 pa65 pa66 pa67 pk71 (inc pi47 (0 : Int32) (0 : Int32)) (inc pi47 (1 : Int32) (0 : Int32)) (inc pi47 (2 : Int32) (0 : Int32)) T22.heap n0 O53 f67 f68 f69 f70 f71 f72 p22_5 htr) hZ (ow hw 135 rfl) (ow hw 11 rfl) (by decide) (by decide)) q73a q73c (g := (mkF m 412 #[(vi pi1), (vi pi2), (vi pi3), (vi pi4), (vi pi5), (vi pi6), (vi 1), (vr pa8), (vr pa9), (vr pa10), (vr pa11), (vi 0), (vi 3), (vi 0), (vi pi15), (vr pa16), (vr pa17), (vr pa18), (vi yc), .val (.long ((pi6.toInt64) + ((3 : Int64) * (yc.toInt64)))), .second] [(.int pi15), (.int 0), (.int 0), (.ref pa16)])) rfl (by rw [hml]; rfl) (Steps.refl _) (argsL := [(.int 0), (.int 0), (.int pi15)]) (rest := []) (lenOf pd_4 rfl) rfl (by show 2 * 0 + _ ≤ _; exact Nat.le_of_eq rfl) (hb hby at_412) (fun _ _ => ⟨rfl, rfl, (by decide : 27 + 0 ≤ _), (by decide : 79 + 0 ≤ _)⟩)
        dsimp only [Pt.U, Pt.locs, Pt.cells, Pt.slots] at X73 l73 y73 z73 st73 hQ73
        subst l73 y73 z73
        obtain ⟨rfl, Nq73, K73q⟩ := hQ73
        have N73 := Fr.app N22 Nq73
        obtain ⟨fs, hr, hrun, hended, hW, hsame⟩ := X73.leave (v := some (.int 1)) (fun h => by rw [hret0] at h; cases h)
        refine ⟨_, _, pre66 _ ?_, hrun, hended, _, _, rfl, ?_, ⟨_, rfl⟩, hW, hsame.mono (by decide) (by decide)⟩
        · skip
          show Steps p.tables e below (T22.setTop (mkF m 366 #[(vi pi1), (vi pi2), (vi pi3), (vi pi4), (vi pi5), (vi pi6), (vi 1), (vr pa8), (vr pa9), (vr pa10), (vr pa11), (vi 0), (vi 3), (vi 0), (vi pi15), (vr pa16), (vr pa17), (vr pa18), (vi yc), .unset, .unset] [])) _
          refine XS.iload X22.here hx rfl (hb hby at_366) rfl ?_
          refine XS.iconst X22.here hx rfl (hb hby at_368) ?_
          refine XS.icmpYes X22.here hx rfl (pc0 := 369) (pc' := 391) rfl (hb hby at_369) rfl (tlt (by decide : (1 : Int32) < (2 : Int32))).1 (by decide) (by decide) ?_
          refine XS.iload X22.here hx rfl (hb hby at_391) rfl ?_
          refine XS.i2l X22.here hx rfl (hb hby at_393) rfl ?_
          refine XS.iload X22.here hx rfl (hb hby at_394) rfl ?_
          show Steps p.tables e below (T22.setTop (mkF m 396 #[(vi pi1), (vi pi2), (vi pi3), (vi pi4), (vi pi5), (vi pi6), (vi 1), (vr pa8), (vr pa9), (vr pa10), (vr pa11), (vi 0), (vi 3), (vi 0), (vi pi15), (vr pa16), (vr pa17), (vr pa18), (vi yc), .unset, .unset] [(.int 3), (.long (pi6.toInt64))])) _
          refine XS.i2l X22.here hx rfl (hb hby at_396) rfl ?_
          refine XS.iload X22.here hx rfl (hb hby at_397) rfl ?_
          refine XS.i2l X22.here hx rfl (hb hby at_399) rfl ?_
          refine XS.lmul X22.here hx rfl (hb hby at_400) rfl ?_
          refine XS.ladd X22.here hx rfl (hb hby at_401) rfl ?_
          refine XS.lstore X22.here hx rfl (hb hby at_402) rfl (l' := #[(vi pi1), (vi pi2), (vi pi3), (vi pi4), (vi pi5), (vi pi6), (vi 1), (vr pa8), (vr pa9), (vr pa10), (vr pa11), (vi 0), (vi 3), (vi 0), (vi pi15), (vr pa16), (vr pa17), (vr pa18), (vi yc), .val (.long ((pi6.toInt64) + ((3 : Int64) * (yc.toInt64)))), .second]) rfl ?_
          show Steps p.tables e below (T22.setTop (mkF m 404 #[(vi pi1), (vi pi2), (vi pi3), (vi pi4), (vi pi5), (vi pi6), (vi 1), (vr pa8), (vr pa9), (vr pa10), (vr pa11), (vi 0), (vi 3), (vi 0), (vi pi15), (vr pa16), (vr pa17), (vr pa18), (vi yc), .val (.long ((pi6.toInt64) + ((3 : Int64) * (yc.toInt64)))), .second] [])) _
          refine XS.aload X22.here hx rfl (hb hby at_404) rfl rfl ?_
          refine XS.iload X22.here hx rfl (hb hby at_406) rfl ?_
          refine XS.iload X22.here hx rfl (hb hby at_408) rfl ?_
          refine XS.iload X22.here hx rfl (hb hby at_410) rfl ?_
          refine st73.trans ?_
          refine XS.lload X73.here hx rfl (hb hby at_415) rfl ?_
          show Steps p.tables e below (T73.setTop (mkF m 417 #[(vi pi1), (vi pi2), (vi pi3), (vi pi4), (vi pi5), (vi pi6), (vi 1), (vr pa8), (vr pa9), (vr pa10), (vr pa11), (vi 0), (vi 3), (vi 0), (vi pi15), (vr pa16), (vr pa17), (vr pa18), (vi yc), .val (.long ((pi6.toInt64) + ((3 : Int64) * (yc.toInt64)))), .second] [(.long ((pi6.toInt64) + ((3 : Int64) * (yc.toInt64)))), (.long ((pi6.toInt64) + ((3 : Int64) * ((selT pi15 (inc pi47 (0 : Int32) (0 : Int32)) (inc pi47 (1 : Int32) (0 : Int32)) (inc pi47 (2 : Int32) (0 : Int32))).toInt64))))])) _
          refine XS.lcmp X73.here hx rfl (hb hby at_417) rfl ?_
          refine XS.ifNo X73.here hx rfl (hb hby at_418) rfl ((if0 _ _).trans (teq ((lw_eq _ _).mpr (by rw [own_c1T P76 htr, hyc]) : (lcmpW ((pi6.toInt64) + ((3 : Int64) * ((selT pi15 (inc pi47 (0 : Int32) (0 : Int32)) (inc pi47 (1 : Int32) (0 : Int32)) (inc pi47 (2 : Int32) (0 : Int32))).toInt64))) ((pi6.toInt64) + ((3 : Int64) * (yc.toInt64)))) = (0 : Int32))).2) ?_
          refine XS.iconst X73.here hx rfl (hb hby at_421) ?_
          refine XS.goto X73.here hx rfl (pc0 := 422) (pc' := 426) rfl (hb hby at_422) (by decide) (by decide) ?_
          exact retN X73 hx (t := .boolean) hret0 (by simp) (hb hby at_426) hr
        · skip
          exact ⟨rfl, N73⟩
      · skip
        have pre75 : ∀ t, Steps p.tables e below (T22.setTop (mkF m 341 #[(vi pi1), (vi pi2), (vi pi3), (vi pi4), (vi pi5), (vi pi6), (vi 1), (vr pa8), (vr pa9), (vr pa10), (vr pa11), (vi 0), (vi 3), (vi 1), (vi pi15), (vr pa16), (vr pa17), (vr pa18), (vi 0), .unset, .unset] [])) t → Steps p.tables e below (T0.setTop (mkF m 312 #[(vi pi1), (vi pi2), (vi pi3), (vi pi4), (vi pi5), (vi pi6), (vi pi7), (vr pa8), (vr pa9), (vr pa10), (vr pa11), (vi pi12), (vi pi13), (vi pi14), (vi pi15), (vr pa16), (vr pa17), (vr pa18), .unset, .unset, .unset] [])) t := by
          intro t k
          refine pre57 t ?_
          rw [hk58]
          exact k
        have f76 : Arv Z T22.heap pa10 pk29 (.array .int) (2 : Int32) ([(.ref pa30), (.ref pa31)]) .null := (P6.keep K22q (ninS P187 (ninS P191 (ninS P192 (ninS P193 (ninS P194 (ninS P195 nin0)))))))
        obtain ⟨cl77, Ar77, qc77, Sz77, Nn77, Ha77, Gg77⟩ := (id f76)
        have hin77 : ¬ ((0 : Int32) < 0 ∨ cl77.slots.size ≤ ((0 : Int32)).toNatClampNeg) := inb_of Sz77 ⟨by decide, by decide⟩
        have hat77 : cl77.slots[((0 : Int32)).toNatClampNeg]? = some (.ref pa30) := Ha77.at hin77 rfl
        have f78 : Arv Z T22.heap pa30 pk46 .int (3 : Int32) ([(.int pi47), (.int pi48), (.int pi49)]) (.int 0) := (P39.keep K22q (ninS P434 (ninS P438 (ninS P439 (ninS P440 (ninS P441 (ninS P442 nin0)))))))
        obtain ⟨cl79, Ar79, qc79, Sz79, Nn79, Ha79, Gg79⟩ := (id f78)
        have hin79 : ¬ ((1 : Int32) < 0 ∨ cl79.slots.size ≤ ((1 : Int32)).toNatClampNeg) := inb_of Sz79 ⟨by decide, by decide⟩
        have hat79 : cl79.slots[((1 : Int32)).toNatClampNeg]? = some (.int pi48) := Ha79.at hin79 rfl
        have pre80 : ∀ t, Steps p.tables e below (T22.setTop (mkF m 357 #[(vi pi1), (vi pi2), (vi pi3), (vi pi4), (vi pi5), (vi pi6), (vi 1), (vr pa8), (vr pa9), (vr pa10), (vr pa11), (vi 0), (vi 3), (vi 1), (vi pi15), (vr pa16), (vr pa17), (vr pa18), (vi 0), .unset, .unset] [(.int pi15), (.int pi48)])) t → Steps p.tables e below (T0.setTop (mkF m 312 #[(vi pi1), (vi pi2), (vi pi3), (vi pi4), (vi pi5), (vi pi6), (vi pi7), (vr pa8), (vr pa9), (vr pa10), (vr pa11), (vi pi12), (vi pi13), (vi pi14), (vi pi15), (vr pa16), (vr pa17), (vr pa18), .unset, .unset, .unset] [])) t := by
          intro t k
          refine pre75 t ?_
          show Steps p.tables e below (T22.setTop (mkF m 341 #[(vi pi1), (vi pi2), (vi pi3), (vi pi4), (vi pi5), (vi pi6), (vi 1), (vr pa8), (vr pa9), (vr pa10), (vr pa11), (vi 0), (vi 3), (vi 1), (vi pi15), (vr pa16), (vr pa17), (vr pa18), (vi 0), .unset, .unset] [])) _
          refine XS.iload X22.here hx rfl (hb hby at_341) rfl ?_
          refine XS.iconst X22.here hx rfl (hb hby at_343) ?_
          refine XS.icmpNo X22.here hx rfl (hb hby at_344) rfl (flt (by decide : ¬ ((1 : Int32) < (1 : Int32)))).1 ?_
          refine XS.aload X22.here hx rfl (hb hby at_347) rfl rfl ?_
          refine XS.iload X22.here hx rfl (hb hby at_349) rfl ?_
          refine X22.aaload hx (j := (0 : Int32)) (v := (.ref pa30)) Ar77.1 (State.isArrayOf_alike hZ.alike Ar77.2.1) rfl Ar77.2.2 hin77 hat77 (g := (mkF m 351 #[(vi pi1), (vi pi2), (vi pi3), (vi pi4), (vi pi5), (vi pi6), (vi 1), (vr pa8), (vr pa9), (vr pa10), (vr pa11), (vi 0), (vi 3), (vi 1), (vi pi15), (vr pa16), (vr pa17), (vr pa18), (vi 0), .unset, .unset] [(.int 0), (.ref pa10)])) rfl rfl (hb hby at_351) _ ?_
          show Steps p.tables e below (T22.setTop (mkF m 352 #[(vi pi1), (vi pi2), (vi pi3), (vi pi4), (vi pi5), (vi pi6), (vi 1), (vr pa8), (vr pa9), (vr pa10), (vr pa11), (vi 0), (vi 3), (vi 1), (vi pi15), (vr pa16), (vr pa17), (vr pa18), (vi 0), .unset, .unset] [(.ref pa30)])) _
          refine XS.iload X22.here hx rfl (hb hby at_352) rfl ?_
          refine X22.iaload hx (j := (1 : Int32)) (v := (.int pi48)) Ar79.1 (State.isArrayOf_alike hZ.alike Ar79.2.1) Ar79.2.2 hin79 hat79 (g := (mkF m 354 #[(vi pi1), (vi pi2), (vi pi3), (vi pi4), (vi pi5), (vi pi6), (vi 1), (vr pa8), (vr pa9), (vr pa10), (vr pa11), (vi 0), (vi 3), (vi 1), (vi pi15), (vr pa16), (vr pa17), (vr pa18), (vi 0), .unset, .unset] [(.int 1), (.ref pa30)])) rfl rfl (hb hby at_354) _ ?_
          refine XS.iload X22.here hx rfl (hb hby at_355) rfl ?_
          exact k
        obtain ⟨yc, hyc⟩ : ∃ z : Int32, z = (if pi48 = pi15 then (1 : Int32) else (0 : Int32)) := ⟨_, rfl⟩
        have pre82 : ∀ t, Steps p.tables e below (T22.setTop (mkF m 366 #[(vi pi1), (vi pi2), (vi pi3), (vi pi4), (vi pi5), (vi pi6), (vi 1), (vr pa8), (vr pa9), (vr pa10), (vr pa11), (vi 0), (vi 3), (vi 1), (vi pi15), (vr pa16), (vr pa17), (vr pa18), (vi yc), .unset, .unset] [])) t → Steps p.tables e below (T0.setTop (mkF m 312 #[(vi pi1), (vi pi2), (vi pi3), (vi pi4), (vi pi5), (vi pi6), (vi pi7), (vr pa8), (vr pa9), (vr pa10), (vr pa11), (vi pi12), (vi pi13), (vi pi14), (vi pi15), (vr pa16), (vr pa17), (vr pa18), .unset, .unset, .unset] [])) t := by
          intro t k
          rw [hyc] at k
          refine pre80 t ?_
          show Steps p.tables e below (T22.setTop (mkF m 357 #[(vi pi1), (vi pi2), (vi pi3), (vi pi4), (vi pi5), (vi pi6), (vi 1), (vr pa8), (vr pa9), (vr pa10), (vr pa11), (vi 0), (vi 3), (vi 1), (vi pi15), (vr pa16), (vr pa17), (vr pa18), (vi 0), .unset, .unset] [(.int pi15), (.int pi48)])) _
          rcases Decidable.em (pi48 = pi15) with hm81 | hm81
          · first | simp only [if_pos hm81] at k | skip
            refine XS.icmpNo X22.here hx rfl (hb hby at_357) rfl (teq hm81).2 ?_
            refine XS.iload X22.here hx rfl (hb hby at_360) rfl ?_
            refine XS.iconst X22.here hx rfl (hb hby at_362) ?_
            refine XS.iadd X22.here hx rfl (hb hby at_363) rfl ?_
            refine XS.istore X22.here hx rfl (hb hby at_364) rfl (l' := #[(vi pi1), (vi pi2), (vi pi3), (vi pi4), (vi pi5), (vi pi6), (vi 1), (vr pa8), (vr pa9), (vr pa10), (vr pa11), (vi 0), (vi 3), (vi 1), (vi pi15), (vr pa16), (vr pa17), (vr pa18), (vi 1), .unset, .unset]) rfl ?_
            exact k
          · first | simp only [if_neg hm81] at k | skip
            refine XS.icmpYes X22.here hx rfl (pc0 := 357) (pc' := 366) rfl (hb hby at_357) rfl (feq hm81).2 (by decide) (by decide) ?_
            exact k
        have f83 : Fld Z T22.heap pa16 s3n "counts" "[[[I" (.ref pa35) := (P13.keep K22q (ninS P236 (ninS P240 (ninS P241 (ninS P242 (ninS P243 (ninS P244 nin0)))))))
        have f84 : Fld Z T22.heap pa16 s3n "memory" "I" (.int pi6) := (P14.keep K22q (ninS P236 (ninS P240 (ninS P241 (ninS P242 (ninS P243 (ninS P244 nin0)))))))
        have f85 : Fld Z T22.heap pa16 s3n "trains" "[I" (.ref pa37) := (P16.keep K22q (ninS P236 (ninS P240 (ninS P241 (ninS P242 (ninS P243 (ninS P244 nin0)))))))
        have f86 : Arv Z T22.heap pa35 pk60 (.array (.array .int)) (2 : Int32) ([(.ref pa61), (.ref pa62)]) .null := (P47.keep K22q (ninS P476 (ninS P480 (ninS P481 (ninS P482 (ninS P483 (ninS P484 nin0)))))))
        have f87 : Arv Z T22.heap pa37 pk63 .int (2 : Int32) ([(.int 3), (.int 2)]) (.int 0) := (P54.keep K22q (ninS (Ne.symm P485) (ninS P495 (ninS P496 (ninS P497 (ninS P498 (ninS P499 nin0)))))))
        have f88 : Arv Z T22.heap pa61 pk64 (.array .int) (3 : Int32) ([(.ref pa65), (.ref pa66), (.ref pa67)]) .null := (P56.keep K22q (ninS (Ne.symm P486) (ninS P501 (ninS P502 (ninS P503 (ninS P504 (ninS P505 nin0)))))))
        have f90 : Exa Z T22.heap pa16 s3n := (P12.keep K22q)
        obtain ⟨cq89, kq89, q89a, q89b, q89c⟩ := isOf hZ rfl f90
        obtain ⟨_, _, ⟨T89, L89, k89, n89⟩, -, X89, ⟨Lc89, hQ89, l89, y89, z89⟩, st89⟩ := X22.virtualBack hx (y := M7) (z := M7) hown (mvT hZ (ow hw 131 rfl)) (mvT hZ (ow hw 132 rfl)) (notFace_of_selects (args := #[]) (mvT hZ (ow hw 134 rfl))) (mvT hZ (ow hw 134 rfl)) (mvT hZ (ow hw 133 rfl)) (by decide) (backOf (W := 0) (au17_6 l Z a0 hw [] wDEFAULTCAPACITY_EMPTY_ELEMENTDATA kwDEFAULTCAPACITY_EMPTY_ELEMENTDATA hS pa16 pi15 pa35 pi6 pa37 pk60 pa61 pa62 pk63 pk64 pa65 pa66 pa67 pk71 (inc pi48 (0 : Int32) (0 : Int32)) (inc pi48 (1 : Int32) (0 : Int32)) (inc pi48 (2 : Int32) (0 : Int32)) T22.heap n0 O53 f83 f84 f85 f86 f87 f88 p22_7 htr) hZ (ow hw 135 rfl) (ow hw 11 rfl) (by decide) (by decide)) q89a q89c (g := (mkF m 412 #[(vi pi1), (vi pi2), (vi pi3), (vi pi4), (vi pi5), (vi pi6), (vi 1), (vr pa8), (vr pa9), (vr pa10), (vr pa11), (vi 0), (vi 3), (vi 1), (vi pi15), (vr pa16), (vr pa17), (vr pa18), (vi yc), .val (.long ((pi6.toInt64) + ((3 : Int64) * (yc.toInt64)))), .second] [(.int pi15), (.int 1), (.int 0), (.ref pa16)])) rfl (by rw [hml]; rfl) (Steps.refl _) (argsL := [(.int 0), (.int 1), (.int pi15)]) (rest := []) (lenOf pd_4 rfl) rfl (by show 2 * 0 + _ ≤ _; exact Nat.le_of_eq rfl) (hb hby at_412) (fun _ _ => ⟨rfl, rfl, (by decide : 27 + 0 ≤ _), (by decide : 79 + 0 ≤ _)⟩)
        dsimp only [Pt.U, Pt.locs, Pt.cells, Pt.slots] at X89 l89 y89 z89 st89 hQ89
        subst l89 y89 z89
        obtain ⟨rfl, Nq89, K89q⟩ := hQ89
        have N89 := Fr.app N22 Nq89
        obtain ⟨fs, hr, hrun, hended, hW, hsame⟩ := X89.leave (v := some (.int 1)) (fun h => by rw [hret0] at h; cases h)
        refine ⟨_, _, pre82 _ ?_, hrun, hended, _, _, rfl, ?_, ⟨_, rfl⟩, hW, hsame.mono (by decide) (by decide)⟩
        · skip
          show Steps p.tables e below (T22.setTop (mkF m 366 #[(vi pi1), (vi pi2), (vi pi3), (vi pi4), (vi pi5), (vi pi6), (vi 1), (vr pa8), (vr pa9), (vr pa10), (vr pa11), (vi 0), (vi 3), (vi 1), (vi pi15), (vr pa16), (vr pa17), (vr pa18), (vi yc), .unset, .unset] [])) _
          refine XS.iload X22.here hx rfl (hb hby at_366) rfl ?_
          refine XS.iconst X22.here hx rfl (hb hby at_368) ?_
          refine XS.icmpYes X22.here hx rfl (pc0 := 369) (pc' := 391) rfl (hb hby at_369) rfl (tlt (by decide : (1 : Int32) < (2 : Int32))).1 (by decide) (by decide) ?_
          refine XS.iload X22.here hx rfl (hb hby at_391) rfl ?_
          refine XS.i2l X22.here hx rfl (hb hby at_393) rfl ?_
          refine XS.iload X22.here hx rfl (hb hby at_394) rfl ?_
          show Steps p.tables e below (T22.setTop (mkF m 396 #[(vi pi1), (vi pi2), (vi pi3), (vi pi4), (vi pi5), (vi pi6), (vi 1), (vr pa8), (vr pa9), (vr pa10), (vr pa11), (vi 0), (vi 3), (vi 1), (vi pi15), (vr pa16), (vr pa17), (vr pa18), (vi yc), .unset, .unset] [(.int 3), (.long (pi6.toInt64))])) _
          refine XS.i2l X22.here hx rfl (hb hby at_396) rfl ?_
          refine XS.iload X22.here hx rfl (hb hby at_397) rfl ?_
          refine XS.i2l X22.here hx rfl (hb hby at_399) rfl ?_
          refine XS.lmul X22.here hx rfl (hb hby at_400) rfl ?_
          refine XS.ladd X22.here hx rfl (hb hby at_401) rfl ?_
          refine XS.lstore X22.here hx rfl (hb hby at_402) rfl (l' := #[(vi pi1), (vi pi2), (vi pi3), (vi pi4), (vi pi5), (vi pi6), (vi 1), (vr pa8), (vr pa9), (vr pa10), (vr pa11), (vi 0), (vi 3), (vi 1), (vi pi15), (vr pa16), (vr pa17), (vr pa18), (vi yc), .val (.long ((pi6.toInt64) + ((3 : Int64) * (yc.toInt64)))), .second]) rfl ?_
          show Steps p.tables e below (T22.setTop (mkF m 404 #[(vi pi1), (vi pi2), (vi pi3), (vi pi4), (vi pi5), (vi pi6), (vi 1), (vr pa8), (vr pa9), (vr pa10), (vr pa11), (vi 0), (vi 3), (vi 1), (vi pi15), (vr pa16), (vr pa17), (vr pa18), (vi yc), .val (.long ((pi6.toInt64) + ((3 : Int64) * (yc.toInt64)))), .second] [])) _
          refine XS.aload X22.here hx rfl (hb hby at_404) rfl rfl ?_
          refine XS.iload X22.here hx rfl (hb hby at_406) rfl ?_
          refine XS.iload X22.here hx rfl (hb hby at_408) rfl ?_
          refine XS.iload X22.here hx rfl (hb hby at_410) rfl ?_
          refine st89.trans ?_
          refine XS.lload X89.here hx rfl (hb hby at_415) rfl ?_
          show Steps p.tables e below (T89.setTop (mkF m 417 #[(vi pi1), (vi pi2), (vi pi3), (vi pi4), (vi pi5), (vi pi6), (vi 1), (vr pa8), (vr pa9), (vr pa10), (vr pa11), (vi 0), (vi 3), (vi 1), (vi pi15), (vr pa16), (vr pa17), (vr pa18), (vi yc), .val (.long ((pi6.toInt64) + ((3 : Int64) * (yc.toInt64)))), .second] [(.long ((pi6.toInt64) + ((3 : Int64) * (yc.toInt64)))), (.long ((pi6.toInt64) + ((3 : Int64) * ((selT pi15 (inc pi48 (0 : Int32) (0 : Int32)) (inc pi48 (1 : Int32) (0 : Int32)) (inc pi48 (2 : Int32) (0 : Int32))).toInt64))))])) _
          refine XS.lcmp X89.here hx rfl (hb hby at_417) rfl ?_
          refine XS.ifNo X89.here hx rfl (hb hby at_418) rfl ((if0 _ _).trans (teq ((lw_eq _ _).mpr (by rw [own_c1T P77 htr, hyc]) : (lcmpW ((pi6.toInt64) + ((3 : Int64) * ((selT pi15 (inc pi48 (0 : Int32) (0 : Int32)) (inc pi48 (1 : Int32) (0 : Int32)) (inc pi48 (2 : Int32) (0 : Int32))).toInt64))) ((pi6.toInt64) + ((3 : Int64) * (yc.toInt64)))) = (0 : Int32))).2) ?_
          refine XS.iconst X89.here hx rfl (hb hby at_421) ?_
          refine XS.goto X89.here hx rfl (pc0 := 422) (pc' := 426) rfl (hb hby at_422) (by decide) (by decide) ?_
          exact retN X89 hx (t := .boolean) hret0 (by simp) (hb hby at_426) hr
        · skip
          exact ⟨rfl, N89⟩
      · skip
        have pre91 : ∀ t, Steps p.tables e below (T22.setTop (mkF m 341 #[(vi pi1), (vi pi2), (vi pi3), (vi pi4), (vi pi5), (vi pi6), (vi 1), (vr pa8), (vr pa9), (vr pa10), (vr pa11), (vi 0), (vi 3), (vi 2), (vi pi15), (vr pa16), (vr pa17), (vr pa18), (vi 0), .unset, .unset] [])) t → Steps p.tables e below (T0.setTop (mkF m 312 #[(vi pi1), (vi pi2), (vi pi3), (vi pi4), (vi pi5), (vi pi6), (vi pi7), (vr pa8), (vr pa9), (vr pa10), (vr pa11), (vi pi12), (vi pi13), (vi pi14), (vi pi15), (vr pa16), (vr pa17), (vr pa18), .unset, .unset, .unset] [])) t := by
          intro t k
          refine pre57 t ?_
          rw [hk58]
          exact k
        have f92 : Arv Z T22.heap pa10 pk29 (.array .int) (2 : Int32) ([(.ref pa30), (.ref pa31)]) .null := (P6.keep K22q (ninS P187 (ninS P191 (ninS P192 (ninS P193 (ninS P194 (ninS P195 nin0)))))))
        obtain ⟨cl93, Ar93, qc93, Sz93, Nn93, Ha93, Gg93⟩ := (id f92)
        have hin93 : ¬ ((0 : Int32) < 0 ∨ cl93.slots.size ≤ ((0 : Int32)).toNatClampNeg) := inb_of Sz93 ⟨by decide, by decide⟩
        have hat93 : cl93.slots[((0 : Int32)).toNatClampNeg]? = some (.ref pa30) := Ha93.at hin93 rfl
        have f94 : Arv Z T22.heap pa30 pk46 .int (3 : Int32) ([(.int pi47), (.int pi48), (.int pi49)]) (.int 0) := (P39.keep K22q (ninS P434 (ninS P438 (ninS P439 (ninS P440 (ninS P441 (ninS P442 nin0)))))))
        obtain ⟨cl95, Ar95, qc95, Sz95, Nn95, Ha95, Gg95⟩ := (id f94)
        have hin95 : ¬ ((2 : Int32) < 0 ∨ cl95.slots.size ≤ ((2 : Int32)).toNatClampNeg) := inb_of Sz95 ⟨by decide, by decide⟩
        have hat95 : cl95.slots[((2 : Int32)).toNatClampNeg]? = some (.int pi49) := Ha95.at hin95 rfl
        have pre96 : ∀ t, Steps p.tables e below (T22.setTop (mkF m 357 #[(vi pi1), (vi pi2), (vi pi3), (vi pi4), (vi pi5), (vi pi6), (vi 1), (vr pa8), (vr pa9), (vr pa10), (vr pa11), (vi 0), (vi 3), (vi 2), (vi pi15), (vr pa16), (vr pa17), (vr pa18), (vi 0), .unset, .unset] [(.int pi15), (.int pi49)])) t → Steps p.tables e below (T0.setTop (mkF m 312 #[(vi pi1), (vi pi2), (vi pi3), (vi pi4), (vi pi5), (vi pi6), (vi pi7), (vr pa8), (vr pa9), (vr pa10), (vr pa11), (vi pi12), (vi pi13), (vi pi14), (vi pi15), (vr pa16), (vr pa17), (vr pa18), .unset, .unset, .unset] [])) t := by
          intro t k
          refine pre91 t ?_
          show Steps p.tables e below (T22.setTop (mkF m 341 #[(vi pi1), (vi pi2), (vi pi3), (vi pi4), (vi pi5), (vi pi6), (vi 1), (vr pa8), (vr pa9), (vr pa10), (vr pa11), (vi 0), (vi 3), (vi 2), (vi pi15), (vr pa16), (vr pa17), (vr pa18), (vi 0), .unset, .unset] [])) _
          refine XS.iload X22.here hx rfl (hb hby at_341) rfl ?_
          refine XS.iconst X22.here hx rfl (hb hby at_343) ?_
          refine XS.icmpNo X22.here hx rfl (hb hby at_344) rfl (flt (by decide : ¬ ((1 : Int32) < (1 : Int32)))).1 ?_
          refine XS.aload X22.here hx rfl (hb hby at_347) rfl rfl ?_
          refine XS.iload X22.here hx rfl (hb hby at_349) rfl ?_
          refine X22.aaload hx (j := (0 : Int32)) (v := (.ref pa30)) Ar93.1 (State.isArrayOf_alike hZ.alike Ar93.2.1) rfl Ar93.2.2 hin93 hat93 (g := (mkF m 351 #[(vi pi1), (vi pi2), (vi pi3), (vi pi4), (vi pi5), (vi pi6), (vi 1), (vr pa8), (vr pa9), (vr pa10), (vr pa11), (vi 0), (vi 3), (vi 2), (vi pi15), (vr pa16), (vr pa17), (vr pa18), (vi 0), .unset, .unset] [(.int 0), (.ref pa10)])) rfl rfl (hb hby at_351) _ ?_
          show Steps p.tables e below (T22.setTop (mkF m 352 #[(vi pi1), (vi pi2), (vi pi3), (vi pi4), (vi pi5), (vi pi6), (vi 1), (vr pa8), (vr pa9), (vr pa10), (vr pa11), (vi 0), (vi 3), (vi 2), (vi pi15), (vr pa16), (vr pa17), (vr pa18), (vi 0), .unset, .unset] [(.ref pa30)])) _
          refine XS.iload X22.here hx rfl (hb hby at_352) rfl ?_
          refine X22.iaload hx (j := (2 : Int32)) (v := (.int pi49)) Ar95.1 (State.isArrayOf_alike hZ.alike Ar95.2.1) Ar95.2.2 hin95 hat95 (g := (mkF m 354 #[(vi pi1), (vi pi2), (vi pi3), (vi pi4), (vi pi5), (vi pi6), (vi 1), (vr pa8), (vr pa9), (vr pa10), (vr pa11), (vi 0), (vi 3), (vi 2), (vi pi15), (vr pa16), (vr pa17), (vr pa18), (vi 0), .unset, .unset] [(.int 2), (.ref pa30)])) rfl rfl (hb hby at_354) _ ?_
          refine XS.iload X22.here hx rfl (hb hby at_355) rfl ?_
          exact k
        obtain ⟨yc, hyc⟩ : ∃ z : Int32, z = (if pi49 = pi15 then (1 : Int32) else (0 : Int32)) := ⟨_, rfl⟩
        have pre98 : ∀ t, Steps p.tables e below (T22.setTop (mkF m 366 #[(vi pi1), (vi pi2), (vi pi3), (vi pi4), (vi pi5), (vi pi6), (vi 1), (vr pa8), (vr pa9), (vr pa10), (vr pa11), (vi 0), (vi 3), (vi 2), (vi pi15), (vr pa16), (vr pa17), (vr pa18), (vi yc), .unset, .unset] [])) t → Steps p.tables e below (T0.setTop (mkF m 312 #[(vi pi1), (vi pi2), (vi pi3), (vi pi4), (vi pi5), (vi pi6), (vi pi7), (vr pa8), (vr pa9), (vr pa10), (vr pa11), (vi pi12), (vi pi13), (vi pi14), (vi pi15), (vr pa16), (vr pa17), (vr pa18), .unset, .unset, .unset] [])) t := by
          intro t k
          rw [hyc] at k
          refine pre96 t ?_
          show Steps p.tables e below (T22.setTop (mkF m 357 #[(vi pi1), (vi pi2), (vi pi3), (vi pi4), (vi pi5), (vi pi6), (vi 1), (vr pa8), (vr pa9), (vr pa10), (vr pa11), (vi 0), (vi 3), (vi 2), (vi pi15), (vr pa16), (vr pa17), (vr pa18), (vi 0), .unset, .unset] [(.int pi15), (.int pi49)])) _
          rcases Decidable.em (pi49 = pi15) with hm97 | hm97
          · first | simp only [if_pos hm97] at k | skip
            refine XS.icmpNo X22.here hx rfl (hb hby at_357) rfl (teq hm97).2 ?_
            refine XS.iload X22.here hx rfl (hb hby at_360) rfl ?_
            refine XS.iconst X22.here hx rfl (hb hby at_362) ?_
            refine XS.iadd X22.here hx rfl (hb hby at_363) rfl ?_
            refine XS.istore X22.here hx rfl (hb hby at_364) rfl (l' := #[(vi pi1), (vi pi2), (vi pi3), (vi pi4), (vi pi5), (vi pi6), (vi 1), (vr pa8), (vr pa9), (vr pa10), (vr pa11), (vi 0), (vi 3), (vi 2), (vi pi15), (vr pa16), (vr pa17), (vr pa18), (vi 1), .unset, .unset]) rfl ?_
            exact k
          · first | simp only [if_neg hm97] at k | skip
            refine XS.icmpYes X22.here hx rfl (pc0 := 357) (pc' := 366) rfl (hb hby at_357) rfl (feq hm97).2 (by decide) (by decide) ?_
            exact k
        have f99 : Fld Z T22.heap pa16 s3n "counts" "[[[I" (.ref pa35) := (P13.keep K22q (ninS P236 (ninS P240 (ninS P241 (ninS P242 (ninS P243 (ninS P244 nin0)))))))
        have f100 : Fld Z T22.heap pa16 s3n "memory" "I" (.int pi6) := (P14.keep K22q (ninS P236 (ninS P240 (ninS P241 (ninS P242 (ninS P243 (ninS P244 nin0)))))))
        have f101 : Fld Z T22.heap pa16 s3n "trains" "[I" (.ref pa37) := (P16.keep K22q (ninS P236 (ninS P240 (ninS P241 (ninS P242 (ninS P243 (ninS P244 nin0)))))))
        have f102 : Arv Z T22.heap pa35 pk60 (.array (.array .int)) (2 : Int32) ([(.ref pa61), (.ref pa62)]) .null := (P47.keep K22q (ninS P476 (ninS P480 (ninS P481 (ninS P482 (ninS P483 (ninS P484 nin0)))))))
        have f103 : Arv Z T22.heap pa37 pk63 .int (2 : Int32) ([(.int 3), (.int 2)]) (.int 0) := (P54.keep K22q (ninS (Ne.symm P485) (ninS P495 (ninS P496 (ninS P497 (ninS P498 (ninS P499 nin0)))))))
        have f104 : Arv Z T22.heap pa61 pk64 (.array .int) (3 : Int32) ([(.ref pa65), (.ref pa66), (.ref pa67)]) .null := (P56.keep K22q (ninS (Ne.symm P486) (ninS P501 (ninS P502 (ninS P503 (ninS P504 (ninS P505 nin0)))))))
        have f106 : Exa Z T22.heap pa16 s3n := (P12.keep K22q)
        obtain ⟨cq105, kq105, q105a, q105b, q105c⟩ := isOf hZ rfl f106
        obtain ⟨_, _, ⟨T105, L105, k105, n105⟩, -, X105, ⟨Lc105, hQ105, l105, y105, z105⟩, st105⟩ := X22.virtualBack hx (y := M7) (z := M7) hown (mvT hZ (ow hw 131 rfl)) (mvT hZ (ow hw 132 rfl)) (notFace_of_selects (args := #[]) (mvT hZ (ow hw 134 rfl))) (mvT hZ (ow hw 134 rfl)) (mvT hZ (ow hw 133 rfl)) (by decide) (backOf (W := 0) (au17_7 l Z a0 hw [] wDEFAULTCAPACITY_EMPTY_ELEMENTDATA kwDEFAULTCAPACITY_EMPTY_ELEMENTDATA hS pa16 pi15 pa35 pi6 pa37 pk60 pa61 pa62 pk63 pk64 pa65 pa66 pa67 pk71 (inc pi49 (0 : Int32) (0 : Int32)) (inc pi49 (1 : Int32) (0 : Int32)) (inc pi49 (2 : Int32) (0 : Int32)) T22.heap n0 O53 f99 f100 f101 f102 f103 f104 p22_9 htr) hZ (ow hw 135 rfl) (ow hw 11 rfl) (by decide) (by decide)) q105a q105c (g := (mkF m 412 #[(vi pi1), (vi pi2), (vi pi3), (vi pi4), (vi pi5), (vi pi6), (vi 1), (vr pa8), (vr pa9), (vr pa10), (vr pa11), (vi 0), (vi 3), (vi 2), (vi pi15), (vr pa16), (vr pa17), (vr pa18), (vi yc), .val (.long ((pi6.toInt64) + ((3 : Int64) * (yc.toInt64)))), .second] [(.int pi15), (.int 2), (.int 0), (.ref pa16)])) rfl (by rw [hml]; rfl) (Steps.refl _) (argsL := [(.int 0), (.int 2), (.int pi15)]) (rest := []) (lenOf pd_4 rfl) rfl (by show 2 * 0 + _ ≤ _; exact Nat.le_of_eq rfl) (hb hby at_412) (fun _ _ => ⟨rfl, rfl, (by decide : 27 + 0 ≤ _), (by decide : 79 + 0 ≤ _)⟩)
        dsimp only [Pt.U, Pt.locs, Pt.cells, Pt.slots] at X105 l105 y105 z105 st105 hQ105
        subst l105 y105 z105
        obtain ⟨rfl, Nq105, K105q⟩ := hQ105
        have N105 := Fr.app N22 Nq105
        obtain ⟨fs, hr, hrun, hended, hW, hsame⟩ := X105.leave (v := some (.int 1)) (fun h => by rw [hret0] at h; cases h)
        refine ⟨_, _, pre98 _ ?_, hrun, hended, _, _, rfl, ?_, ⟨_, rfl⟩, hW, hsame.mono (by decide) (by decide)⟩
        · skip
          show Steps p.tables e below (T22.setTop (mkF m 366 #[(vi pi1), (vi pi2), (vi pi3), (vi pi4), (vi pi5), (vi pi6), (vi 1), (vr pa8), (vr pa9), (vr pa10), (vr pa11), (vi 0), (vi 3), (vi 2), (vi pi15), (vr pa16), (vr pa17), (vr pa18), (vi yc), .unset, .unset] [])) _
          refine XS.iload X22.here hx rfl (hb hby at_366) rfl ?_
          refine XS.iconst X22.here hx rfl (hb hby at_368) ?_
          refine XS.icmpYes X22.here hx rfl (pc0 := 369) (pc' := 391) rfl (hb hby at_369) rfl (tlt (by decide : (1 : Int32) < (2 : Int32))).1 (by decide) (by decide) ?_
          refine XS.iload X22.here hx rfl (hb hby at_391) rfl ?_
          refine XS.i2l X22.here hx rfl (hb hby at_393) rfl ?_
          refine XS.iload X22.here hx rfl (hb hby at_394) rfl ?_
          show Steps p.tables e below (T22.setTop (mkF m 396 #[(vi pi1), (vi pi2), (vi pi3), (vi pi4), (vi pi5), (vi pi6), (vi 1), (vr pa8), (vr pa9), (vr pa10), (vr pa11), (vi 0), (vi 3), (vi 2), (vi pi15), (vr pa16), (vr pa17), (vr pa18), (vi yc), .unset, .unset] [(.int 3), (.long (pi6.toInt64))])) _
          refine XS.i2l X22.here hx rfl (hb hby at_396) rfl ?_
          refine XS.iload X22.here hx rfl (hb hby at_397) rfl ?_
          refine XS.i2l X22.here hx rfl (hb hby at_399) rfl ?_
          refine XS.lmul X22.here hx rfl (hb hby at_400) rfl ?_
          refine XS.ladd X22.here hx rfl (hb hby at_401) rfl ?_
          refine XS.lstore X22.here hx rfl (hb hby at_402) rfl (l' := #[(vi pi1), (vi pi2), (vi pi3), (vi pi4), (vi pi5), (vi pi6), (vi 1), (vr pa8), (vr pa9), (vr pa10), (vr pa11), (vi 0), (vi 3), (vi 2), (vi pi15), (vr pa16), (vr pa17), (vr pa18), (vi yc), .val (.long ((pi6.toInt64) + ((3 : Int64) * (yc.toInt64)))), .second]) rfl ?_
          show Steps p.tables e below (T22.setTop (mkF m 404 #[(vi pi1), (vi pi2), (vi pi3), (vi pi4), (vi pi5), (vi pi6), (vi 1), (vr pa8), (vr pa9), (vr pa10), (vr pa11), (vi 0), (vi 3), (vi 2), (vi pi15), (vr pa16), (vr pa17), (vr pa18), (vi yc), .val (.long ((pi6.toInt64) + ((3 : Int64) * (yc.toInt64)))), .second] [])) _
          refine XS.aload X22.here hx rfl (hb hby at_404) rfl rfl ?_
          refine XS.iload X22.here hx rfl (hb hby at_406) rfl ?_
          refine XS.iload X22.here hx rfl (hb hby at_408) rfl ?_
          refine XS.iload X22.here hx rfl (hb hby at_410) rfl ?_
          refine st105.trans ?_
          refine XS.lload X105.here hx rfl (hb hby at_415) rfl ?_
          show Steps p.tables e below (T105.setTop (mkF m 417 #[(vi pi1), (vi pi2), (vi pi3), (vi pi4), (vi pi5), (vi pi6), (vi 1), (vr pa8), (vr pa9), (vr pa10), (vr pa11), (vi 0), (vi 3), (vi 2), (vi pi15), (vr pa16), (vr pa17), (vr pa18), (vi yc), .val (.long ((pi6.toInt64) + ((3 : Int64) * (yc.toInt64)))), .second] [(.long ((pi6.toInt64) + ((3 : Int64) * (yc.toInt64)))), (.long ((pi6.toInt64) + ((3 : Int64) * ((selT pi15 (inc pi49 (0 : Int32) (0 : Int32)) (inc pi49 (1 : Int32) (0 : Int32)) (inc pi49 (2 : Int32) (0 : Int32))).toInt64))))])) _
          refine XS.lcmp X105.here hx rfl (hb hby at_417) rfl ?_
          refine XS.ifNo X105.here hx rfl (hb hby at_418) rfl ((if0 _ _).trans (teq ((lw_eq _ _).mpr (by rw [own_c1T P78 htr, hyc]) : (lcmpW ((pi6.toInt64) + ((3 : Int64) * ((selT pi15 (inc pi49 (0 : Int32) (0 : Int32)) (inc pi49 (1 : Int32) (0 : Int32)) (inc pi49 (2 : Int32) (0 : Int32))).toInt64))) ((pi6.toInt64) + ((3 : Int64) * (yc.toInt64)))) = (0 : Int32))).2) ?_
          refine XS.iconst X105.here hx rfl (hb hby at_421) ?_
          refine XS.goto X105.here hx rfl (pc0 := 422) (pc' := 426) rfl (hb hby at_422) (by decide) (by decide) ?_
          exact retN X105 hx (t := .boolean) hret0 (by simp) (hb hby at_426) hr
        · skip
          exact ⟨rfl, N105⟩
    · skip
      have pre107 : ∀ t, Steps p.tables e below (T22.setTop (mkF m 341 #[(vi pi1), (vi pi2), (vi pi3), (vi pi4), (vi pi5), (vi pi6), (vi 1), (vr pa8), (vr pa9), (vr pa10), (vr pa11), (vi 1), (vi pi13), (vi pi14), (vi pi15), (vr pa16), (vr pa17), (vr pa18), (vi 0), .unset, .unset] [])) t → Steps p.tables e below (T0.setTop (mkF m 312 #[(vi pi1), (vi pi2), (vi pi3), (vi pi4), (vi pi5), (vi pi6), (vi pi7), (vr pa8), (vr pa9), (vr pa10), (vr pa11), (vi pi12), (vi pi13), (vi pi14), (vi pi15), (vr pa16), (vr pa17), (vr pa18), .unset, .unset, .unset] [])) t := by
        intro t k
        refine pre54 t ?_
        rw [hk55]
        exact k
      have hn3 : pi13 = (2 : Int32) := by rw [P87, hk55]; decide
      have hpo : inB pi14 := P88.2 hn3
      have htr : inB pi15 := P89.2 hn3
      have pre108 : ∀ t, Steps p.tables e below (T22.setTop (mkF m 341 #[(vi pi1), (vi pi2), (vi pi3), (vi pi4), (vi pi5), (vi pi6), (vi 1), (vr pa8), (vr pa9), (vr pa10), (vr pa11), (vi 1), (vi 2), (vi pi14), (vi pi15), (vr pa16), (vr pa17), (vr pa18), (vi 0), .unset, .unset] [])) t → Steps p.tables e below (T0.setTop (mkF m 312 #[(vi pi1), (vi pi2), (vi pi3), (vi pi4), (vi pi5), (vi pi6), (vi pi7), (vr pa8), (vr pa9), (vr pa10), (vr pa11), (vi pi12), (vi pi13), (vi pi14), (vi pi15), (vr pa16), (vr pa17), (vr pa18), .unset, .unset, .unset] [])) t := by
        intro t k
        refine pre107 t ?_
        rw [hn3]
        exact k
      rcases (id (hpo)) with hk109 | hk109
      · skip
        have pre110 : ∀ t, Steps p.tables e below (T22.setTop (mkF m 341 #[(vi pi1), (vi pi2), (vi pi3), (vi pi4), (vi pi5), (vi pi6), (vi 1), (vr pa8), (vr pa9), (vr pa10), (vr pa11), (vi 1), (vi 2), (vi 0), (vi pi15), (vr pa16), (vr pa17), (vr pa18), (vi 0), .unset, .unset] [])) t → Steps p.tables e below (T0.setTop (mkF m 312 #[(vi pi1), (vi pi2), (vi pi3), (vi pi4), (vi pi5), (vi pi6), (vi pi7), (vr pa8), (vr pa9), (vr pa10), (vr pa11), (vi pi12), (vi pi13), (vi pi14), (vi pi15), (vr pa16), (vr pa17), (vr pa18), .unset, .unset, .unset] [])) t := by
          intro t k
          refine pre108 t ?_
          rw [hk109]
          exact k
        have f111 : Arv Z T22.heap pa10 pk29 (.array .int) (2 : Int32) ([(.ref pa30), (.ref pa31)]) .null := (P6.keep K22q (ninS P187 (ninS P191 (ninS P192 (ninS P193 (ninS P194 (ninS P195 nin0)))))))
        obtain ⟨cl112, Ar112, qc112, Sz112, Nn112, Ha112, Gg112⟩ := (id f111)
        have hin112 : ¬ ((1 : Int32) < 0 ∨ cl112.slots.size ≤ ((1 : Int32)).toNatClampNeg) := inb_of Sz112 ⟨by decide, by decide⟩
        have hat112 : cl112.slots[((1 : Int32)).toNatClampNeg]? = some (.ref pa31) := Ha112.at hin112 rfl
        have f113 : Arv Z T22.heap pa31 pk50 .int (2 : Int32) ([(.int pi51), (.int pi52)]) (.int 0) := (P41.keep K22q (ninS P446 (ninS P450 (ninS P451 (ninS P452 (ninS P453 (ninS P454 nin0)))))))
        obtain ⟨cl114, Ar114, qc114, Sz114, Nn114, Ha114, Gg114⟩ := (id f113)
        have hin114 : ¬ ((0 : Int32) < 0 ∨ cl114.slots.size ≤ ((0 : Int32)).toNatClampNeg) := inb_of Sz114 ⟨by decide, by decide⟩
        have hat114 : cl114.slots[((0 : Int32)).toNatClampNeg]? = some (.int pi51) := Ha114.at hin114 rfl
        have pre115 : ∀ t, Steps p.tables e below (T22.setTop (mkF m 357 #[(vi pi1), (vi pi2), (vi pi3), (vi pi4), (vi pi5), (vi pi6), (vi 1), (vr pa8), (vr pa9), (vr pa10), (vr pa11), (vi 1), (vi 2), (vi 0), (vi pi15), (vr pa16), (vr pa17), (vr pa18), (vi 0), .unset, .unset] [(.int pi15), (.int pi51)])) t → Steps p.tables e below (T0.setTop (mkF m 312 #[(vi pi1), (vi pi2), (vi pi3), (vi pi4), (vi pi5), (vi pi6), (vi pi7), (vr pa8), (vr pa9), (vr pa10), (vr pa11), (vi pi12), (vi pi13), (vi pi14), (vi pi15), (vr pa16), (vr pa17), (vr pa18), .unset, .unset, .unset] [])) t := by
          intro t k
          refine pre110 t ?_
          show Steps p.tables e below (T22.setTop (mkF m 341 #[(vi pi1), (vi pi2), (vi pi3), (vi pi4), (vi pi5), (vi pi6), (vi 1), (vr pa8), (vr pa9), (vr pa10), (vr pa11), (vi 1), (vi 2), (vi 0), (vi pi15), (vr pa16), (vr pa17), (vr pa18), (vi 0), .unset, .unset] [])) _
          refine XS.iload X22.here hx rfl (hb hby at_341) rfl ?_
          refine XS.iconst X22.here hx rfl (hb hby at_343) ?_
          refine XS.icmpNo X22.here hx rfl (hb hby at_344) rfl (flt (by decide : ¬ ((1 : Int32) < (1 : Int32)))).1 ?_
          refine XS.aload X22.here hx rfl (hb hby at_347) rfl rfl ?_
          refine XS.iload X22.here hx rfl (hb hby at_349) rfl ?_
          refine X22.aaload hx (j := (1 : Int32)) (v := (.ref pa31)) Ar112.1 (State.isArrayOf_alike hZ.alike Ar112.2.1) rfl Ar112.2.2 hin112 hat112 (g := (mkF m 351 #[(vi pi1), (vi pi2), (vi pi3), (vi pi4), (vi pi5), (vi pi6), (vi 1), (vr pa8), (vr pa9), (vr pa10), (vr pa11), (vi 1), (vi 2), (vi 0), (vi pi15), (vr pa16), (vr pa17), (vr pa18), (vi 0), .unset, .unset] [(.int 1), (.ref pa10)])) rfl rfl (hb hby at_351) _ ?_
          show Steps p.tables e below (T22.setTop (mkF m 352 #[(vi pi1), (vi pi2), (vi pi3), (vi pi4), (vi pi5), (vi pi6), (vi 1), (vr pa8), (vr pa9), (vr pa10), (vr pa11), (vi 1), (vi 2), (vi 0), (vi pi15), (vr pa16), (vr pa17), (vr pa18), (vi 0), .unset, .unset] [(.ref pa31)])) _
          refine XS.iload X22.here hx rfl (hb hby at_352) rfl ?_
          refine X22.iaload hx (j := (0 : Int32)) (v := (.int pi51)) Ar114.1 (State.isArrayOf_alike hZ.alike Ar114.2.1) Ar114.2.2 hin114 hat114 (g := (mkF m 354 #[(vi pi1), (vi pi2), (vi pi3), (vi pi4), (vi pi5), (vi pi6), (vi 1), (vr pa8), (vr pa9), (vr pa10), (vr pa11), (vi 1), (vi 2), (vi 0), (vi pi15), (vr pa16), (vr pa17), (vr pa18), (vi 0), .unset, .unset] [(.int 0), (.ref pa31)])) rfl rfl (hb hby at_354) _ ?_
          refine XS.iload X22.here hx rfl (hb hby at_355) rfl ?_
          exact k
        obtain ⟨yc, hyc⟩ : ∃ z : Int32, z = (if pi51 = pi15 then (1 : Int32) else (0 : Int32)) := ⟨_, rfl⟩
        have pre117 : ∀ t, Steps p.tables e below (T22.setTop (mkF m 366 #[(vi pi1), (vi pi2), (vi pi3), (vi pi4), (vi pi5), (vi pi6), (vi 1), (vr pa8), (vr pa9), (vr pa10), (vr pa11), (vi 1), (vi 2), (vi 0), (vi pi15), (vr pa16), (vr pa17), (vr pa18), (vi yc), .unset, .unset] [])) t → Steps p.tables e below (T0.setTop (mkF m 312 #[(vi pi1), (vi pi2), (vi pi3), (vi pi4), (vi pi5), (vi pi6), (vi pi7), (vr pa8), (vr pa9), (vr pa10), (vr pa11), (vi pi12), (vi pi13), (vi pi14), (vi pi15), (vr pa16), (vr pa17), (vr pa18), .unset, .unset, .unset] [])) t := by
          intro t k
          rw [hyc] at k
          refine pre115 t ?_
          show Steps p.tables e below (T22.setTop (mkF m 357 #[(vi pi1), (vi pi2), (vi pi3), (vi pi4), (vi pi5), (vi pi6), (vi 1), (vr pa8), (vr pa9), (vr pa10), (vr pa11), (vi 1), (vi 2), (vi 0), (vi pi15), (vr pa16), (vr pa17), (vr pa18), (vi 0), .unset, .unset] [(.int pi15), (.int pi51)])) _
          rcases Decidable.em (pi51 = pi15) with hm116 | hm116
          · first | simp only [if_pos hm116] at k | skip
            refine XS.icmpNo X22.here hx rfl (hb hby at_357) rfl (teq hm116).2 ?_
            refine XS.iload X22.here hx rfl (hb hby at_360) rfl ?_
            refine XS.iconst X22.here hx rfl (hb hby at_362) ?_
            refine XS.iadd X22.here hx rfl (hb hby at_363) rfl ?_
            refine XS.istore X22.here hx rfl (hb hby at_364) rfl (l' := #[(vi pi1), (vi pi2), (vi pi3), (vi pi4), (vi pi5), (vi pi6), (vi 1), (vr pa8), (vr pa9), (vr pa10), (vr pa11), (vi 1), (vi 2), (vi 0), (vi pi15), (vr pa16), (vr pa17), (vr pa18), (vi 1), .unset, .unset]) rfl ?_
            exact k
          · first | simp only [if_neg hm116] at k | skip
            refine XS.icmpYes X22.here hx rfl (pc0 := 357) (pc' := 366) rfl (hb hby at_357) rfl (feq hm116).2 (by decide) (by decide) ?_
            exact k
        have f118 : Fld Z T22.heap pa16 s3n "counts" "[[[I" (.ref pa35) := (P13.keep K22q (ninS P236 (ninS P240 (ninS P241 (ninS P242 (ninS P243 (ninS P244 nin0)))))))
        have f119 : Fld Z T22.heap pa16 s3n "memory" "I" (.int pi6) := (P14.keep K22q (ninS P236 (ninS P240 (ninS P241 (ninS P242 (ninS P243 (ninS P244 nin0)))))))
        have f120 : Fld Z T22.heap pa16 s3n "trains" "[I" (.ref pa37) := (P16.keep K22q (ninS P236 (ninS P240 (ninS P241 (ninS P242 (ninS P243 (ninS P244 nin0)))))))
        have f121 : Arv Z T22.heap pa35 pk60 (.array (.array .int)) (2 : Int32) ([(.ref pa61), (.ref pa62)]) .null := (P47.keep K22q (ninS P476 (ninS P480 (ninS P481 (ninS P482 (ninS P483 (ninS P484 nin0)))))))
        have f122 : Arv Z T22.heap pa37 pk63 .int (2 : Int32) ([(.int 3), (.int 2)]) (.int 0) := (P54.keep K22q (ninS (Ne.symm P485) (ninS P495 (ninS P496 (ninS P497 (ninS P498 (ninS P499 nin0)))))))
        have f123 : Arv Z T22.heap pa62 pk68 (.array .int) (2 : Int32) ([(.ref pa69), (.ref pa70)]) .null := (P59.keep K22q (ninS (Ne.symm P487) (ninS P506 (ninS P507 (ninS P508 (ninS P509 (ninS P510 nin0)))))))
        have f125 : Exa Z T22.heap pa16 s3n := (P12.keep K22q)
        obtain ⟨cq124, kq124, q124a, q124b, q124c⟩ := isOf hZ rfl f125
        obtain ⟨_, _, ⟨T124, L124, k124, n124⟩, -, X124, ⟨Lc124, hQ124, l124, y124, z124⟩, st124⟩ := X22.virtualBack hx (y := M7) (z := M7) hown (mvT hZ (ow hw 131 rfl)) (mvT hZ (ow hw 132 rfl)) (notFace_of_selects (args := #[]) (mvT hZ (ow hw 134 rfl))) (mvT hZ (ow hw 134 rfl)) (mvT hZ (ow hw 133 rfl)) (by decide) (backOf (W := 0) (au17_8 l Z a0 hw [] wDEFAULTCAPACITY_EMPTY_ELEMENTDATA kwDEFAULTCAPACITY_EMPTY_ELEMENTDATA hS pa16 pi15 pa35 pi6 pa37 pk60 pa61 pa62 pk63 pk68 pa69 pa70 pk72 (inc pi51 (0 : Int32) (0 : Int32)) (inc pi51 (1 : Int32) (0 : Int32)) T22.heap n0 O53 f118 f119 f120 f121 f122 f123 p22_11 htr) hZ (ow hw 135 rfl) (ow hw 11 rfl) (by decide) (by decide)) q124a q124c (g := (mkF m 412 #[(vi pi1), (vi pi2), (vi pi3), (vi pi4), (vi pi5), (vi pi6), (vi 1), (vr pa8), (vr pa9), (vr pa10), (vr pa11), (vi 1), (vi 2), (vi 0), (vi pi15), (vr pa16), (vr pa17), (vr pa18), (vi yc), .val (.long ((pi6.toInt64) + ((2 : Int64) * (yc.toInt64)))), .second] [(.int pi15), (.int 0), (.int 1), (.ref pa16)])) rfl (by rw [hml]; rfl) (Steps.refl _) (argsL := [(.int 1), (.int 0), (.int pi15)]) (rest := []) (lenOf pd_4 rfl) rfl (by show 2 * 0 + _ ≤ _; exact Nat.le_of_eq rfl) (hb hby at_412) (fun _ _ => ⟨rfl, rfl, (by decide : 27 + 0 ≤ _), (by decide : 79 + 0 ≤ _)⟩)
        dsimp only [Pt.U, Pt.locs, Pt.cells, Pt.slots] at X124 l124 y124 z124 st124 hQ124
        subst l124 y124 z124
        obtain ⟨rfl, Nq124, K124q⟩ := hQ124
        have N124 := Fr.app N22 Nq124
        obtain ⟨fs, hr, hrun, hended, hW, hsame⟩ := X124.leave (v := some (.int 1)) (fun h => by rw [hret0] at h; cases h)
        refine ⟨_, _, pre117 _ ?_, hrun, hended, _, _, rfl, ?_, ⟨_, rfl⟩, hW, hsame.mono (by decide) (by decide)⟩
        · skip
          show Steps p.tables e below (T22.setTop (mkF m 366 #[(vi pi1), (vi pi2), (vi pi3), (vi pi4), (vi pi5), (vi pi6), (vi 1), (vr pa8), (vr pa9), (vr pa10), (vr pa11), (vi 1), (vi 2), (vi 0), (vi pi15), (vr pa16), (vr pa17), (vr pa18), (vi yc), .unset, .unset] [])) _
          refine XS.iload X22.here hx rfl (hb hby at_366) rfl ?_
          refine XS.iconst X22.here hx rfl (hb hby at_368) ?_
          refine XS.icmpYes X22.here hx rfl (pc0 := 369) (pc' := 391) rfl (hb hby at_369) rfl (tlt (by decide : (1 : Int32) < (2 : Int32))).1 (by decide) (by decide) ?_
          refine XS.iload X22.here hx rfl (hb hby at_391) rfl ?_
          refine XS.i2l X22.here hx rfl (hb hby at_393) rfl ?_
          refine XS.iload X22.here hx rfl (hb hby at_394) rfl ?_
          show Steps p.tables e below (T22.setTop (mkF m 396 #[(vi pi1), (vi pi2), (vi pi3), (vi pi4), (vi pi5), (vi pi6), (vi 1), (vr pa8), (vr pa9), (vr pa10), (vr pa11), (vi 1), (vi 2), (vi 0), (vi pi15), (vr pa16), (vr pa17), (vr pa18), (vi yc), .unset, .unset] [(.int 2), (.long (pi6.toInt64))])) _
          refine XS.i2l X22.here hx rfl (hb hby at_396) rfl ?_
          refine XS.iload X22.here hx rfl (hb hby at_397) rfl ?_
          refine XS.i2l X22.here hx rfl (hb hby at_399) rfl ?_
          refine XS.lmul X22.here hx rfl (hb hby at_400) rfl ?_
          refine XS.ladd X22.here hx rfl (hb hby at_401) rfl ?_
          refine XS.lstore X22.here hx rfl (hb hby at_402) rfl (l' := #[(vi pi1), (vi pi2), (vi pi3), (vi pi4), (vi pi5), (vi pi6), (vi 1), (vr pa8), (vr pa9), (vr pa10), (vr pa11), (vi 1), (vi 2), (vi 0), (vi pi15), (vr pa16), (vr pa17), (vr pa18), (vi yc), .val (.long ((pi6.toInt64) + ((2 : Int64) * (yc.toInt64)))), .second]) rfl ?_
          show Steps p.tables e below (T22.setTop (mkF m 404 #[(vi pi1), (vi pi2), (vi pi3), (vi pi4), (vi pi5), (vi pi6), (vi 1), (vr pa8), (vr pa9), (vr pa10), (vr pa11), (vi 1), (vi 2), (vi 0), (vi pi15), (vr pa16), (vr pa17), (vr pa18), (vi yc), .val (.long ((pi6.toInt64) + ((2 : Int64) * (yc.toInt64)))), .second] [])) _
          refine XS.aload X22.here hx rfl (hb hby at_404) rfl rfl ?_
          refine XS.iload X22.here hx rfl (hb hby at_406) rfl ?_
          refine XS.iload X22.here hx rfl (hb hby at_408) rfl ?_
          refine XS.iload X22.here hx rfl (hb hby at_410) rfl ?_
          refine st124.trans ?_
          refine XS.lload X124.here hx rfl (hb hby at_415) rfl ?_
          show Steps p.tables e below (T124.setTop (mkF m 417 #[(vi pi1), (vi pi2), (vi pi3), (vi pi4), (vi pi5), (vi pi6), (vi 1), (vr pa8), (vr pa9), (vr pa10), (vr pa11), (vi 1), (vi 2), (vi 0), (vi pi15), (vr pa16), (vr pa17), (vr pa18), (vi yc), .val (.long ((pi6.toInt64) + ((2 : Int64) * (yc.toInt64)))), .second] [(.long ((pi6.toInt64) + ((2 : Int64) * (yc.toInt64)))), (.long ((pi6.toInt64) + ((2 : Int64) * ((selB pi15 (inc pi51 (0 : Int32) (0 : Int32)) (inc pi51 (1 : Int32) (0 : Int32))).toInt64))))])) _
          refine XS.lcmp X124.here hx rfl (hb hby at_417) rfl ?_
          refine XS.ifNo X124.here hx rfl (hb hby at_418) rfl ((if0 _ _).trans (teq ((lw_eq _ _).mpr (by rw [own_c1B P79 htr, hyc]) : (lcmpW ((pi6.toInt64) + ((2 : Int64) * ((selB pi15 (inc pi51 (0 : Int32) (0 : Int32)) (inc pi51 (1 : Int32) (0 : Int32))).toInt64))) ((pi6.toInt64) + ((2 : Int64) * (yc.toInt64)))) = (0 : Int32))).2) ?_
          refine XS.iconst X124.here hx rfl (hb hby at_421) ?_
          refine XS.goto X124.here hx rfl (pc0 := 422) (pc' := 426) rfl (hb hby at_422) (by decide) (by decide) ?_
          exact retN X124 hx (t := .boolean) hret0 (by simp) (hb hby at_426) hr
        · skip
          exact ⟨rfl, N124⟩
      · skip
        have pre126 : ∀ t, Steps p.tables e below (T22.setTop (mkF m 341 #[(vi pi1), (vi pi2), (vi pi3), (vi pi4), (vi pi5), (vi pi6), (vi 1), (vr pa8), (vr pa9), (vr pa10), (vr pa11), (vi 1), (vi 2), (vi 1), (vi pi15), (vr pa16), (vr pa17), (vr pa18), (vi 0), .unset, .unset] [])) t → Steps p.tables e below (T0.setTop (mkF m 312 #[(vi pi1), (vi pi2), (vi pi3), (vi pi4), (vi pi5), (vi pi6), (vi pi7), (vr pa8), (vr pa9), (vr pa10), (vr pa11), (vi pi12), (vi pi13), (vi pi14), (vi pi15), (vr pa16), (vr pa17), (vr pa18), .unset, .unset, .unset] [])) t := by
          intro t k
          refine pre108 t ?_
          rw [hk109]
          exact k
        have f127 : Arv Z T22.heap pa10 pk29 (.array .int) (2 : Int32) ([(.ref pa30), (.ref pa31)]) .null := (P6.keep K22q (ninS P187 (ninS P191 (ninS P192 (ninS P193 (ninS P194 (ninS P195 nin0)))))))
        obtain ⟨cl128, Ar128, qc128, Sz128, Nn128, Ha128, Gg128⟩ := (id f127)
        have hin128 : ¬ ((1 : Int32) < 0 ∨ cl128.slots.size ≤ ((1 : Int32)).toNatClampNeg) := inb_of Sz128 ⟨by decide, by decide⟩
        have hat128 : cl128.slots[((1 : Int32)).toNatClampNeg]? = some (.ref pa31) := Ha128.at hin128 rfl
        have f129 : Arv Z T22.heap pa31 pk50 .int (2 : Int32) ([(.int pi51), (.int pi52)]) (.int 0) := (P41.keep K22q (ninS P446 (ninS P450 (ninS P451 (ninS P452 (ninS P453 (ninS P454 nin0)))))))
        obtain ⟨cl130, Ar130, qc130, Sz130, Nn130, Ha130, Gg130⟩ := (id f129)
        have hin130 : ¬ ((1 : Int32) < 0 ∨ cl130.slots.size ≤ ((1 : Int32)).toNatClampNeg) := inb_of Sz130 ⟨by decide, by decide⟩
        have hat130 : cl130.slots[((1 : Int32)).toNatClampNeg]? = some (.int pi52) := Ha130.at hin130 rfl
        have pre131 : ∀ t, Steps p.tables e below (T22.setTop (mkF m 357 #[(vi pi1), (vi pi2), (vi pi3), (vi pi4), (vi pi5), (vi pi6), (vi 1), (vr pa8), (vr pa9), (vr pa10), (vr pa11), (vi 1), (vi 2), (vi 1), (vi pi15), (vr pa16), (vr pa17), (vr pa18), (vi 0), .unset, .unset] [(.int pi15), (.int pi52)])) t → Steps p.tables e below (T0.setTop (mkF m 312 #[(vi pi1), (vi pi2), (vi pi3), (vi pi4), (vi pi5), (vi pi6), (vi pi7), (vr pa8), (vr pa9), (vr pa10), (vr pa11), (vi pi12), (vi pi13), (vi pi14), (vi pi15), (vr pa16), (vr pa17), (vr pa18), .unset, .unset, .unset] [])) t := by
          intro t k
          refine pre126 t ?_
          show Steps p.tables e below (T22.setTop (mkF m 341 #[(vi pi1), (vi pi2), (vi pi3), (vi pi4), (vi pi5), (vi pi6), (vi 1), (vr pa8), (vr pa9), (vr pa10), (vr pa11), (vi 1), (vi 2), (vi 1), (vi pi15), (vr pa16), (vr pa17), (vr pa18), (vi 0), .unset, .unset] [])) _
          refine XS.iload X22.here hx rfl (hb hby at_341) rfl ?_
          refine XS.iconst X22.here hx rfl (hb hby at_343) ?_
          refine XS.icmpNo X22.here hx rfl (hb hby at_344) rfl (flt (by decide : ¬ ((1 : Int32) < (1 : Int32)))).1 ?_
          refine XS.aload X22.here hx rfl (hb hby at_347) rfl rfl ?_
          refine XS.iload X22.here hx rfl (hb hby at_349) rfl ?_
          refine X22.aaload hx (j := (1 : Int32)) (v := (.ref pa31)) Ar128.1 (State.isArrayOf_alike hZ.alike Ar128.2.1) rfl Ar128.2.2 hin128 hat128 (g := (mkF m 351 #[(vi pi1), (vi pi2), (vi pi3), (vi pi4), (vi pi5), (vi pi6), (vi 1), (vr pa8), (vr pa9), (vr pa10), (vr pa11), (vi 1), (vi 2), (vi 1), (vi pi15), (vr pa16), (vr pa17), (vr pa18), (vi 0), .unset, .unset] [(.int 1), (.ref pa10)])) rfl rfl (hb hby at_351) _ ?_
          show Steps p.tables e below (T22.setTop (mkF m 352 #[(vi pi1), (vi pi2), (vi pi3), (vi pi4), (vi pi5), (vi pi6), (vi 1), (vr pa8), (vr pa9), (vr pa10), (vr pa11), (vi 1), (vi 2), (vi 1), (vi pi15), (vr pa16), (vr pa17), (vr pa18), (vi 0), .unset, .unset] [(.ref pa31)])) _
          refine XS.iload X22.here hx rfl (hb hby at_352) rfl ?_
          refine X22.iaload hx (j := (1 : Int32)) (v := (.int pi52)) Ar130.1 (State.isArrayOf_alike hZ.alike Ar130.2.1) Ar130.2.2 hin130 hat130 (g := (mkF m 354 #[(vi pi1), (vi pi2), (vi pi3), (vi pi4), (vi pi5), (vi pi6), (vi 1), (vr pa8), (vr pa9), (vr pa10), (vr pa11), (vi 1), (vi 2), (vi 1), (vi pi15), (vr pa16), (vr pa17), (vr pa18), (vi 0), .unset, .unset] [(.int 1), (.ref pa31)])) rfl rfl (hb hby at_354) _ ?_
          refine XS.iload X22.here hx rfl (hb hby at_355) rfl ?_
          exact k
        obtain ⟨yc, hyc⟩ : ∃ z : Int32, z = (if pi52 = pi15 then (1 : Int32) else (0 : Int32)) := ⟨_, rfl⟩
        have pre133 : ∀ t, Steps p.tables e below (T22.setTop (mkF m 366 #[(vi pi1), (vi pi2), (vi pi3), (vi pi4), (vi pi5), (vi pi6), (vi 1), (vr pa8), (vr pa9), (vr pa10), (vr pa11), (vi 1), (vi 2), (vi 1), (vi pi15), (vr pa16), (vr pa17), (vr pa18), (vi yc), .unset, .unset] [])) t → Steps p.tables e below (T0.setTop (mkF m 312 #[(vi pi1), (vi pi2), (vi pi3), (vi pi4), (vi pi5), (vi pi6), (vi pi7), (vr pa8), (vr pa9), (vr pa10), (vr pa11), (vi pi12), (vi pi13), (vi pi14), (vi pi15), (vr pa16), (vr pa17), (vr pa18), .unset, .unset, .unset] [])) t := by
          intro t k
          rw [hyc] at k
          refine pre131 t ?_
          show Steps p.tables e below (T22.setTop (mkF m 357 #[(vi pi1), (vi pi2), (vi pi3), (vi pi4), (vi pi5), (vi pi6), (vi 1), (vr pa8), (vr pa9), (vr pa10), (vr pa11), (vi 1), (vi 2), (vi 1), (vi pi15), (vr pa16), (vr pa17), (vr pa18), (vi 0), .unset, .unset] [(.int pi15), (.int pi52)])) _
          rcases Decidable.em (pi52 = pi15) with hm132 | hm132
          · first | simp only [if_pos hm132] at k | skip
            refine XS.icmpNo X22.here hx rfl (hb hby at_357) rfl (teq hm132).2 ?_
            refine XS.iload X22.here hx rfl (hb hby at_360) rfl ?_
            refine XS.iconst X22.here hx rfl (hb hby at_362) ?_
            refine XS.iadd X22.here hx rfl (hb hby at_363) rfl ?_
            refine XS.istore X22.here hx rfl (hb hby at_364) rfl (l' := #[(vi pi1), (vi pi2), (vi pi3), (vi pi4), (vi pi5), (vi pi6), (vi 1), (vr pa8), (vr pa9), (vr pa10), (vr pa11), (vi 1), (vi 2), (vi 1), (vi pi15), (vr pa16), (vr pa17), (vr pa18), (vi 1), .unset, .unset]) rfl ?_
            exact k
          · first | simp only [if_neg hm132] at k | skip
            refine XS.icmpYes X22.here hx rfl (pc0 := 357) (pc' := 366) rfl (hb hby at_357) rfl (feq hm132).2 (by decide) (by decide) ?_
            exact k
        have f134 : Fld Z T22.heap pa16 s3n "counts" "[[[I" (.ref pa35) := (P13.keep K22q (ninS P236 (ninS P240 (ninS P241 (ninS P242 (ninS P243 (ninS P244 nin0)))))))
        have f135 : Fld Z T22.heap pa16 s3n "memory" "I" (.int pi6) := (P14.keep K22q (ninS P236 (ninS P240 (ninS P241 (ninS P242 (ninS P243 (ninS P244 nin0)))))))
        have f136 : Fld Z T22.heap pa16 s3n "trains" "[I" (.ref pa37) := (P16.keep K22q (ninS P236 (ninS P240 (ninS P241 (ninS P242 (ninS P243 (ninS P244 nin0)))))))
        have f137 : Arv Z T22.heap pa35 pk60 (.array (.array .int)) (2 : Int32) ([(.ref pa61), (.ref pa62)]) .null := (P47.keep K22q (ninS P476 (ninS P480 (ninS P481 (ninS P482 (ninS P483 (ninS P484 nin0)))))))
        have f138 : Arv Z T22.heap pa37 pk63 .int (2 : Int32) ([(.int 3), (.int 2)]) (.int 0) := (P54.keep K22q (ninS (Ne.symm P485) (ninS P495 (ninS P496 (ninS P497 (ninS P498 (ninS P499 nin0)))))))
        have f139 : Arv Z T22.heap pa62 pk68 (.array .int) (2 : Int32) ([(.ref pa69), (.ref pa70)]) .null := (P59.keep K22q (ninS (Ne.symm P487) (ninS P506 (ninS P507 (ninS P508 (ninS P509 (ninS P510 nin0)))))))
        have f141 : Exa Z T22.heap pa16 s3n := (P12.keep K22q)
        obtain ⟨cq140, kq140, q140a, q140b, q140c⟩ := isOf hZ rfl f141
        obtain ⟨_, _, ⟨T140, L140, k140, n140⟩, -, X140, ⟨Lc140, hQ140, l140, y140, z140⟩, st140⟩ := X22.virtualBack hx (y := M7) (z := M7) hown (mvT hZ (ow hw 131 rfl)) (mvT hZ (ow hw 132 rfl)) (notFace_of_selects (args := #[]) (mvT hZ (ow hw 134 rfl))) (mvT hZ (ow hw 134 rfl)) (mvT hZ (ow hw 133 rfl)) (by decide) (backOf (W := 0) (au17_9 l Z a0 hw [] wDEFAULTCAPACITY_EMPTY_ELEMENTDATA kwDEFAULTCAPACITY_EMPTY_ELEMENTDATA hS pa16 pi15 pa35 pi6 pa37 pk60 pa61 pa62 pk63 pk68 pa69 pa70 pk72 (inc pi52 (0 : Int32) (0 : Int32)) (inc pi52 (1 : Int32) (0 : Int32)) T22.heap n0 O53 f134 f135 f136 f137 f138 f139 p22_13 htr) hZ (ow hw 135 rfl) (ow hw 11 rfl) (by decide) (by decide)) q140a q140c (g := (mkF m 412 #[(vi pi1), (vi pi2), (vi pi3), (vi pi4), (vi pi5), (vi pi6), (vi 1), (vr pa8), (vr pa9), (vr pa10), (vr pa11), (vi 1), (vi 2), (vi 1), (vi pi15), (vr pa16), (vr pa17), (vr pa18), (vi yc), .val (.long ((pi6.toInt64) + ((2 : Int64) * (yc.toInt64)))), .second] [(.int pi15), (.int 1), (.int 1), (.ref pa16)])) rfl (by rw [hml]; rfl) (Steps.refl _) (argsL := [(.int 1), (.int 1), (.int pi15)]) (rest := []) (lenOf pd_4 rfl) rfl (by show 2 * 0 + _ ≤ _; exact Nat.le_of_eq rfl) (hb hby at_412) (fun _ _ => ⟨rfl, rfl, (by decide : 27 + 0 ≤ _), (by decide : 79 + 0 ≤ _)⟩)
        dsimp only [Pt.U, Pt.locs, Pt.cells, Pt.slots] at X140 l140 y140 z140 st140 hQ140
        subst l140 y140 z140
        obtain ⟨rfl, Nq140, K140q⟩ := hQ140
        have N140 := Fr.app N22 Nq140
        obtain ⟨fs, hr, hrun, hended, hW, hsame⟩ := X140.leave (v := some (.int 1)) (fun h => by rw [hret0] at h; cases h)
        refine ⟨_, _, pre133 _ ?_, hrun, hended, _, _, rfl, ?_, ⟨_, rfl⟩, hW, hsame.mono (by decide) (by decide)⟩
        · skip
          show Steps p.tables e below (T22.setTop (mkF m 366 #[(vi pi1), (vi pi2), (vi pi3), (vi pi4), (vi pi5), (vi pi6), (vi 1), (vr pa8), (vr pa9), (vr pa10), (vr pa11), (vi 1), (vi 2), (vi 1), (vi pi15), (vr pa16), (vr pa17), (vr pa18), (vi yc), .unset, .unset] [])) _
          refine XS.iload X22.here hx rfl (hb hby at_366) rfl ?_
          refine XS.iconst X22.here hx rfl (hb hby at_368) ?_
          refine XS.icmpYes X22.here hx rfl (pc0 := 369) (pc' := 391) rfl (hb hby at_369) rfl (tlt (by decide : (1 : Int32) < (2 : Int32))).1 (by decide) (by decide) ?_
          refine XS.iload X22.here hx rfl (hb hby at_391) rfl ?_
          refine XS.i2l X22.here hx rfl (hb hby at_393) rfl ?_
          refine XS.iload X22.here hx rfl (hb hby at_394) rfl ?_
          show Steps p.tables e below (T22.setTop (mkF m 396 #[(vi pi1), (vi pi2), (vi pi3), (vi pi4), (vi pi5), (vi pi6), (vi 1), (vr pa8), (vr pa9), (vr pa10), (vr pa11), (vi 1), (vi 2), (vi 1), (vi pi15), (vr pa16), (vr pa17), (vr pa18), (vi yc), .unset, .unset] [(.int 2), (.long (pi6.toInt64))])) _
          refine XS.i2l X22.here hx rfl (hb hby at_396) rfl ?_
          refine XS.iload X22.here hx rfl (hb hby at_397) rfl ?_
          refine XS.i2l X22.here hx rfl (hb hby at_399) rfl ?_
          refine XS.lmul X22.here hx rfl (hb hby at_400) rfl ?_
          refine XS.ladd X22.here hx rfl (hb hby at_401) rfl ?_
          refine XS.lstore X22.here hx rfl (hb hby at_402) rfl (l' := #[(vi pi1), (vi pi2), (vi pi3), (vi pi4), (vi pi5), (vi pi6), (vi 1), (vr pa8), (vr pa9), (vr pa10), (vr pa11), (vi 1), (vi 2), (vi 1), (vi pi15), (vr pa16), (vr pa17), (vr pa18), (vi yc), .val (.long ((pi6.toInt64) + ((2 : Int64) * (yc.toInt64)))), .second]) rfl ?_
          show Steps p.tables e below (T22.setTop (mkF m 404 #[(vi pi1), (vi pi2), (vi pi3), (vi pi4), (vi pi5), (vi pi6), (vi 1), (vr pa8), (vr pa9), (vr pa10), (vr pa11), (vi 1), (vi 2), (vi 1), (vi pi15), (vr pa16), (vr pa17), (vr pa18), (vi yc), .val (.long ((pi6.toInt64) + ((2 : Int64) * (yc.toInt64)))), .second] [])) _
          refine XS.aload X22.here hx rfl (hb hby at_404) rfl rfl ?_
          refine XS.iload X22.here hx rfl (hb hby at_406) rfl ?_
          refine XS.iload X22.here hx rfl (hb hby at_408) rfl ?_
          refine XS.iload X22.here hx rfl (hb hby at_410) rfl ?_
          refine st140.trans ?_
          refine XS.lload X140.here hx rfl (hb hby at_415) rfl ?_
          show Steps p.tables e below (T140.setTop (mkF m 417 #[(vi pi1), (vi pi2), (vi pi3), (vi pi4), (vi pi5), (vi pi6), (vi 1), (vr pa8), (vr pa9), (vr pa10), (vr pa11), (vi 1), (vi 2), (vi 1), (vi pi15), (vr pa16), (vr pa17), (vr pa18), (vi yc), .val (.long ((pi6.toInt64) + ((2 : Int64) * (yc.toInt64)))), .second] [(.long ((pi6.toInt64) + ((2 : Int64) * (yc.toInt64)))), (.long ((pi6.toInt64) + ((2 : Int64) * ((selB pi15 (inc pi52 (0 : Int32) (0 : Int32)) (inc pi52 (1 : Int32) (0 : Int32))).toInt64))))])) _
          refine XS.lcmp X140.here hx rfl (hb hby at_417) rfl ?_
          refine XS.ifNo X140.here hx rfl (hb hby at_418) rfl ((if0 _ _).trans (teq ((lw_eq _ _).mpr (by rw [own_c1B P80 htr, hyc]) : (lcmpW ((pi6.toInt64) + ((2 : Int64) * ((selB pi15 (inc pi52 (0 : Int32) (0 : Int32)) (inc pi52 (1 : Int32) (0 : Int32))).toInt64))) ((pi6.toInt64) + ((2 : Int64) * (yc.toInt64)))) = (0 : Int32))).2) ?_
          refine XS.iconst X140.here hx rfl (hb hby at_421) ?_
          refine XS.goto X140.here hx rfl (pc0 := 422) (pc' := 426) rfl (hb hby at_422) (by decide) (by decide) ?_
          exact retN X140 hx (t := .boolean) hret0 (by simp) (hb hby at_426) hr
        · skip
          exact ⟨rfl, N140⟩
  · skip
    have pre142 : ∀ t, Steps p.tables e below (T0.setTop (mkF m 312 #[(vi pi1), (vi pi2), (vi pi3), (vi pi4), (vi pi5), (vi pi6), (vi 2), (vr pa8), (vr pa9), (vr pa10), (vr pa11), (vi pi12), (vi pi13), (vi pi14), (vi pi15), (vr pa16), (vr pa17), (vr pa18), .unset, .unset, .unset] [])) t → Steps p.tables e below (T0.setTop (mkF m 312 #[(vi pi1), (vi pi2), (vi pi3), (vi pi4), (vi pi5), (vi pi6), (vi pi7), (vr pa8), (vr pa9), (vr pa10), (vr pa11), (vi pi12), (vi pi13), (vi pi14), (vi pi15), (vr pa16), (vr pa17), (vr pa18), .unset, .unset, .unset] [])) t := by
      intro t k
      refine pre0 t ?_
      rw [hk1]
      exact k
    obtain ⟨cq143, kq143, q143a, q143b, q143c⟩ := isOf hZ e0 P12
    obtain ⟨_, _, ⟨T143, L143, k143, n143⟩, -, X143, ⟨Lc143, hQ143, l143, y143, z143⟩, st143⟩ := X0.virtualBack hx (y := M15) (z := M15) hown (mvT hZ (ow hw 77 rfl)) (mvT hZ (ow hw 78 rfl)) (notFace_of_selects (args := #[]) (mvT hZ (ow hw 80 rfl))) (mvT hZ (ow hw 80 rfl)) (mvT hZ (ow hw 79 rfl)) (by decide) (backOf (W := 0) (au9_0 l Z a0 hw [] wDEFAULTCAPACITY_EMPTY_ELEMENTDATA kwDEFAULTCAPACITY_EMPTY_ELEMENTDATA hS pa16 pa17 pa35 pi6 pa36 pa37 pa10 pk60 pa61 pa62 pk63 pk29 pa30 pa31 pk64 pa65 pa66 pa67 pk68 pa69 pa70 pk46 pi47 pi48 pi49 pk50 pi51 pi52 pk71 pk72 h0 n0 O0 P12 P13 P14 P15 P17 P18 P47 P50 P51 P52 P53 P54 P6 P56 P59 P39 P41 P62 P63 P64 P65 P66 P67 P68 P69 P70 P71 P74 P76 P77 P78 P79 P80 P106 P110 P111 P112 P113 P114 P236 P240 P241 P242 P243 P244 P259 P476 P480 P481 P482 P483 (Ne.symm P187) P486 P487 (Ne.symm P434) (Ne.symm P446) P488 P489 P490 P491 P492 P191 P192 P193 P194 P195 P501 P502 P506 P507 P508 P509 P438 P439 P440 P450 P451 P452 P453 P454 P511 P512 P513 P514 P515 P516 P517 P518 P519 P520) hZ (ow hw 81 rfl) (ow hw 11 rfl) (by decide) (by decide)) q143a q143c (g := (mkF m 322 #[(vi pi1), (vi pi2), (vi pi3), (vi pi4), (vi pi5), (vi pi6), (vi 2), (vr pa8), (vr pa9), (vr pa10), (vr pa11), (vi pi12), (vi pi13), (vi pi14), (vi pi15), (vr pa16), (vr pa17), (vr pa18), .unset, .unset, .unset] [(.ref pa17), (.ref pa16)])) rfl (by rw [hml]; rfl) (Steps.refl _) (argsL := [(.ref pa17)]) (rest := []) (lenOf pd_12 rfl) rfl (by show 2 * 0 + _ ≤ _; exact Nat.le_of_eq rfl) (hb hby at_322) (fun _ _ => ⟨rfl, e0, (by decide : 26 + 1 ≤ _), (by decide : 69 + 10 ≤ _)⟩)
    dsimp only [Pt.U, Pt.locs, Pt.cells, Pt.slots] at X143 l143 y143 z143 st143 hQ143
    subst l143 y143 z143
    obtain ⟨e1_143, e2_143, rfl, Nq143, K143q, p143_0, p143_1, p143_2, p143_3, p143_4, p143_5, p143_6, p143_7, p143_8, p143_9, p143_10, p143_11, p143_12, p143_13, p143_14, p143_15, p143_16, p143_17⟩ := hQ143
    have N143 := Fr.app N0 Nq143
    have ne144 : pa8 ≠ e1_143 := Nat.ne_of_lt (Nat.lt_of_lt_of_le P0.lt p143_14)
    have ne145 : pa9 ≠ e1_143 := Nat.ne_of_lt (Nat.lt_of_lt_of_le P3.lt p143_14)
    have ne146 : pa10 ≠ e1_143 := Nat.ne_of_lt (Nat.lt_of_lt_of_le P6.lt p143_14)
    have ne147 : pa11 ≠ e1_143 := Nat.ne_of_lt (Nat.lt_of_lt_of_le P9.lt p143_14)
    have ne148 : pa16 ≠ e1_143 := Nat.ne_of_lt (Nat.lt_of_lt_of_le P12.lt p143_14)
    have ne149 : pa17 ≠ e1_143 := Nat.ne_of_lt (Nat.lt_of_lt_of_le P17.lt p143_14)
    have ne150 : pa18 ≠ e1_143 := Nat.ne_of_lt (Nat.lt_of_lt_of_le P20.lt p143_14)
    have ne151 : pa20 ≠ e1_143 := Nat.ne_of_lt (Nat.lt_of_lt_of_le P23.lt p143_14)
    have ne152 : pa21 ≠ e1_143 := Nat.ne_of_lt (Nat.lt_of_lt_of_le P25.lt p143_14)
    have ne153 : pa22 ≠ e1_143 := Nat.ne_of_lt (Nat.lt_of_lt_of_le P27.lt p143_14)
    have ne154 : pa23 ≠ e1_143 := Nat.ne_of_lt (Nat.lt_of_lt_of_le P29.lt p143_14)
    have ne155 : pa24 ≠ e1_143 := Nat.ne_of_lt (Nat.lt_of_lt_of_le P31.lt p143_14)
    have ne156 : pa25 ≠ e1_143 := Nat.ne_of_lt (Nat.lt_of_lt_of_le P33.lt p143_14)
    have ne157 : pa27 ≠ e1_143 := Nat.ne_of_lt (Nat.lt_of_lt_of_le P35.lt p143_14)
    have ne158 : pa28 ≠ e1_143 := Nat.ne_of_lt (Nat.lt_of_lt_of_le P37.lt p143_14)
    have ne159 : pa30 ≠ e1_143 := Nat.ne_of_lt (Nat.lt_of_lt_of_le P39.lt p143_14)
    have ne160 : pa31 ≠ e1_143 := Nat.ne_of_lt (Nat.lt_of_lt_of_le P41.lt p143_14)
    have ne161 : pa33 ≠ e1_143 := Nat.ne_of_lt (Nat.lt_of_lt_of_le P43.lt p143_14)
    have ne162 : pa34 ≠ e1_143 := Nat.ne_of_lt (Nat.lt_of_lt_of_le P45.lt p143_14)
    have ne163 : pa35 ≠ e1_143 := Nat.ne_of_lt (Nat.lt_of_lt_of_le P47.lt p143_14)
    have ne164 : pa36 ≠ e1_143 := Nat.ne_of_lt (Nat.lt_of_lt_of_le P50.lt p143_14)
    have ne165 : pa37 ≠ e1_143 := Nat.ne_of_lt (Nat.lt_of_lt_of_le P54.lt p143_14)
    have ne166 : pa61 ≠ e1_143 := Nat.ne_of_lt (Nat.lt_of_lt_of_le P56.lt p143_14)
    have ne167 : pa62 ≠ e1_143 := Nat.ne_of_lt (Nat.lt_of_lt_of_le P59.lt p143_14)
    have ne168 : pa65 ≠ e1_143 := Nat.ne_of_lt (Nat.lt_of_lt_of_le P62.lt p143_14)
    have ne169 : pa66 ≠ e1_143 := Nat.ne_of_lt (Nat.lt_of_lt_of_le P64.lt p143_14)
    have ne170 : pa67 ≠ e1_143 := Nat.ne_of_lt (Nat.lt_of_lt_of_le P66.lt p143_14)
    have ne171 : pa69 ≠ e1_143 := Nat.ne_of_lt (Nat.lt_of_lt_of_le P68.lt p143_14)
    have ne172 : pa70 ≠ e1_143 := Nat.ne_of_lt (Nat.lt_of_lt_of_le P70.lt p143_14)
    have g173 : n0 ≤ e1_143 := Nat.le_trans (own_sz O0) p143_14
    have O174 : Old Z n0 T143.heap := O0.keep K143q (allS P106 (allS P110 (allS P111 (allS P112 (allS P113 (allS P114 all0))))))
    have f175 : Exa Z T143.heap pa16 s3n := (P12.keep K143q)
    have f176 : Fld Z T143.heap pa16 s3n "counts" "[[[I" (.ref pa35) := (P13.keep K143q (ninS P236 (ninS P240 (ninS P241 (ninS P242 (ninS P243 (ninS P244 nin0)))))))
    have f177 : Fld Z T143.heap pa16 s3n "memory" "I" (.int pi6) := (P14.keep K143q (ninS P236 (ninS P240 (ninS P241 (ninS P242 (ninS P243 (ninS P244 nin0)))))))
    have f178 : Fld Z T143.heap pa16 s3n "tours" s5n (.ref pa36) := (P15.keep K143q (ninS P236 (ninS P240 (ninS P241 (ninS P242 (ninS P243 (ninS P244 nin0)))))))
    have f179 : Exa Z T143.heap pa18 s7n := (P20.keep K143q)
    have f180 : Fld Z T143.heap pa18 s7n "orders" "[[I" (.ref pa11) := (P21.keep K143q (ninS P281 (ninS P285 (ninS P286 (ninS P287 (ninS P288 (ninS P289 nin0)))))))
    have f181 : Arv Z T143.heap pa35 pk60 (.array (.array .int)) (2 : Int32) ([(.ref pa61), (.ref pa62)]) .null := (P47.keep K143q (ninS P476 (ninS P480 (ninS P481 (ninS P482 (ninS P483 (ninS P484 nin0)))))))
    have f182 : Arv Z T143.heap pa11 pk32 (.array .int) (2 : Int32) ([(.ref pa33), (.ref pa34)]) .null := (P9.keep K143q (ninS P212 (ninS P216 (ninS P217 (ninS P218 (ninS P219 (ninS P220 nin0)))))))
    have f183 : Arv Z T143.heap pa61 pk64 (.array .int) (3 : Int32) ([(.ref pa65), (.ref pa66), (.ref pa67)]) .null := (P56.keep K143q (ninS (Ne.symm P486) (ninS P501 (ninS P502 (ninS P503 (ninS P504 (ninS P505 nin0)))))))
    have f184 : Arv Z T143.heap pa62 pk68 (.array .int) (2 : Int32) ([(.ref pa69), (.ref pa70)]) .null := (P59.keep K143q (ninS (Ne.symm P487) (ninS P506 (ninS P507 (ninS P508 (ninS P509 (ninS P510 nin0)))))))
    have f185 : Arv Z T143.heap pa33 pk53 .int (3 : Int32) ([(.int pi54), (.int pi55), (.int pi56)]) (.int 0) := (P43.keep K143q (ninS P457 (ninS P461 (ninS P462 (ninS P463 (ninS P464 (ninS P465 nin0)))))))
    have f186 : Arv Z T143.heap pa34 pk57 .int (2 : Int32) ([(.int pi58), (.int pi59)]) (.int 0) := (P45.keep K143q (ninS P467 (ninS P471 (ninS P472 (ninS P473 (ninS P474 (ninS P475 nin0)))))))
    obtain ⟨cq187, kq187, q187a, q187b, q187c⟩ := isOf hZ rfl f175
    obtain ⟨_, _, ⟨T187, L187, k187, n187⟩, -, X187, ⟨Lc187, hQ187, l187, y187, z187⟩, st187⟩ := X143.virtualBack hx (y := M15) (z := M15) hown (mvT hZ (ow hw 77 rfl)) (mvT hZ (ow hw 78 rfl)) (notFace_of_selects (args := #[]) (mvT hZ (ow hw 80 rfl))) (mvT hZ (ow hw 80 rfl)) (mvT hZ (ow hw 79 rfl)) (by decide) (backOf (W := 0) (au9_1 l Z a0 hw [] wDEFAULTCAPACITY_EMPTY_ELEMENTDATA kwDEFAULTCAPACITY_EMPTY_ELEMENTDATA hS pa16 pa18 pa35 pi6 pa36 pa11 pk60 pa61 pa62 e1_143 pk32 pa33 pa34 pk64 pa65 pa66 pa67 pk68 pa69 pa70 e2_143 pa17 pk53 pi54 pi55 pi56 pk57 pi58 pi59 pk71 (inc pi47 (0 : Int32) (0 : Int32)) (inc pi47 (1 : Int32) (0 : Int32)) (inc pi47 (2 : Int32) (0 : Int32)) (inc pi48 (0 : Int32) (0 : Int32)) (inc pi48 (1 : Int32) (0 : Int32)) (inc pi48 (2 : Int32) (0 : Int32)) (inc pi49 (0 : Int32) (0 : Int32)) (inc pi49 (1 : Int32) (0 : Int32)) (inc pi49 (2 : Int32) (0 : Int32)) pk72 (inc pi51 (0 : Int32) (0 : Int32)) (inc pi51 (1 : Int32) (0 : Int32)) (inc pi52 (0 : Int32) (0 : Int32)) (inc pi52 (1 : Int32) (0 : Int32)) T143.heap n0 O174 f175 f176 f177 f178 f179 f180 f181 p143_0 p143_1 p143_2 p143_3 f182 f183 f184 p143_16 p143_17 p143_15 f185 f186 p143_5 p143_4 p143_7 p143_6 p143_9 p143_8 p143_11 p143_10 p143_13 p143_12 P73 P81 P82 P83 P84 P85 P106 g173 P110 P111 P112 P113 P114 P236 ne148 P240 P241 P242 P243 P244 P281 ne150 P476 ne163 P480 P481 P482 P483 (Ne.symm P212) P486 P487 ne164 (Ne.symm P457) (Ne.symm P467) P488 P489 P490 P491 P492 ne147 P216 P217 P218 P219 P220 ne166 P501 P502 ne167 P506 P507 P508 P509 (Ne.symm ne161) (Ne.symm ne162) (Ne.symm ne168) (Ne.symm ne169) (Ne.symm ne170) (Ne.symm ne171) (Ne.symm ne172) P461 P462 P463 P471 P472 P473 P474 P475 P511 P512 P513 P514 P515 P516 P517 P518 P519 P520) hZ (ow hw 81 rfl) (ow hw 11 rfl) (by decide) (by decide)) q187a q187c (g := (mkF m 335 #[(vi pi1), (vi pi2), (vi pi3), (vi pi4), (vi pi5), (vi pi6), (vi 2), (vr pa8), (vr pa9), (vr pa10), (vr pa11), (vi pi12), (vi pi13), (vi pi14), (vi pi15), (vr pa16), (vr pa17), (vr pa18), .unset, .unset, .unset] [(.ref pa18), (.ref pa16)])) rfl (by rw [hml]; rfl) (Steps.refl _) (argsL := [(.ref pa18)]) (rest := []) (lenOf pd_12 rfl) rfl (by show 2 * 0 + _ ≤ _; exact Nat.le_of_eq rfl) (hb hby at_335) (fun _ _ => ⟨rfl, rfl, (by decide : 27 + 0 ≤ _), (by decide : 79 + 0 ≤ _)⟩)
    dsimp only [Pt.U, Pt.locs, Pt.cells, Pt.slots] at X187 l187 y187 z187 st187 hQ187
    subst l187 y187 z187
    obtain ⟨rfl, Nq187, K187q, p187_0, p187_1, p187_2, p187_3, p187_4, p187_5, p187_6, p187_7, p187_8, p187_9, p187_10, p187_11, p187_12, p187_13, p187_14, p187_15, p187_16⟩ := hQ187
    have N187 := Fr.app N143 Nq187
    have O188 : Old Z n0 T187.heap := O174.keep K187q (allS P106 (allS g173 (allS P110 (allS P111 (allS P112 (allS P113 (allS P114 all0)))))))
    have pre189 : ∀ t, Steps p.tables e below (T187.setTop (mkF m 341 #[(vi pi1), (vi pi2), (vi pi3), (vi pi4), (vi pi5), (vi pi6), (vi 2), (vr pa8), (vr pa9), (vr pa10), (vr pa11), (vi pi12), (vi pi13), (vi pi14), (vi pi15), (vr pa16), (vr pa17), (vr pa18), (vi 0), .unset, .unset] [])) t → Steps p.tables e below (T0.setTop (mkF m 312 #[(vi pi1), (vi pi2), (vi pi3), (vi pi4), (vi pi5), (vi pi6), (vi pi7), (vr pa8), (vr pa9), (vr pa10), (vr pa11), (vi pi12), (vi pi13), (vi pi14), (vi pi15), (vr pa16), (vr pa17), (vr pa18), .unset, .unset, .unset] [])) t := by
      intro t k
      refine pre142 t ?_
      show Steps p.tables e below (T0.setTop (mkF m 312 #[(vi pi1), (vi pi2), (vi pi3), (vi pi4), (vi pi5), (vi pi6), (vi 2), (vr pa8), (vr pa9), (vr pa10), (vr pa11), (vi pi12), (vi pi13), (vi pi14), (vi pi15), (vr pa16), (vr pa17), (vr pa18), .unset, .unset, .unset] [])) _
      refine XS.iload X0.here hx rfl (hb hby at_312) rfl ?_
      refine XS.iconst X0.here hx rfl (hb hby at_314) ?_
      refine XS.icmpNo X0.here hx rfl (hb hby at_315) rfl (flt (by decide : ¬ ((2 : Int32) < (1 : Int32)))).1 ?_
      refine XS.aload X0.here hx rfl (hb hby at_318) rfl rfl ?_
      refine XS.aload X0.here hx rfl (hb hby at_320) rfl rfl ?_
      refine st143.trans ?_
      show Steps p.tables e below (T143.setTop (mkF m 325 #[(vi pi1), (vi pi2), (vi pi3), (vi pi4), (vi pi5), (vi pi6), (vi 2), (vr pa8), (vr pa9), (vr pa10), (vr pa11), (vi pi12), (vi pi13), (vi pi14), (vi pi15), (vr pa16), (vr pa17), (vr pa18), .unset, .unset, .unset] [])) _
      refine XS.iload X143.here hx rfl (hb hby at_325) rfl ?_
      refine XS.iconst X143.here hx rfl (hb hby at_327) ?_
      refine XS.icmpNo X143.here hx rfl (hb hby at_328) rfl (flt (by decide : ¬ ((2 : Int32) < (2 : Int32)))).1 ?_
      refine XS.aload X143.here hx rfl (hb hby at_331) rfl rfl ?_
      refine XS.aload X143.here hx rfl (hb hby at_333) rfl rfl ?_
      refine st187.trans ?_
      show Steps p.tables e below (T187.setTop (mkF m 338 #[(vi pi1), (vi pi2), (vi pi3), (vi pi4), (vi pi5), (vi pi6), (vi 2), (vr pa8), (vr pa9), (vr pa10), (vr pa11), (vi pi12), (vi pi13), (vi pi14), (vi pi15), (vr pa16), (vr pa17), (vr pa18), .unset, .unset, .unset] [])) _
      refine XS.iconst X187.here hx rfl (hb hby at_338) ?_
      refine XS.istore X187.here hx rfl (hb hby at_339) rfl (l' := #[(vi pi1), (vi pi2), (vi pi3), (vi pi4), (vi pi5), (vi pi6), (vi 2), (vr pa8), (vr pa9), (vr pa10), (vr pa11), (vi pi12), (vi pi13), (vi pi14), (vi pi15), (vr pa16), (vr pa17), (vr pa18), (vi 0), .unset, .unset]) rfl ?_
      exact k
    rcases (id (P86)) with hk190 | hk190
    · skip
      have pre191 : ∀ t, Steps p.tables e below (T187.setTop (mkF m 341 #[(vi pi1), (vi pi2), (vi pi3), (vi pi4), (vi pi5), (vi pi6), (vi 2), (vr pa8), (vr pa9), (vr pa10), (vr pa11), (vi 0), (vi pi13), (vi pi14), (vi pi15), (vr pa16), (vr pa17), (vr pa18), (vi 0), .unset, .unset] [])) t → Steps p.tables e below (T0.setTop (mkF m 312 #[(vi pi1), (vi pi2), (vi pi3), (vi pi4), (vi pi5), (vi pi6), (vi pi7), (vr pa8), (vr pa9), (vr pa10), (vr pa11), (vi pi12), (vi pi13), (vi pi14), (vi pi15), (vr pa16), (vr pa17), (vr pa18), .unset, .unset, .unset] [])) t := by
        intro t k
        refine pre189 t ?_
        rw [hk190]
        exact k
      have hn3 : pi13 = (3 : Int32) := by rw [P87, hk190]; decide
      have hpo : inT pi14 := P88.1 hn3
      have htr : inT pi15 := P89.1 hn3
      have pre192 : ∀ t, Steps p.tables e below (T187.setTop (mkF m 341 #[(vi pi1), (vi pi2), (vi pi3), (vi pi4), (vi pi5), (vi pi6), (vi 2), (vr pa8), (vr pa9), (vr pa10), (vr pa11), (vi 0), (vi 3), (vi pi14), (vi pi15), (vr pa16), (vr pa17), (vr pa18), (vi 0), .unset, .unset] [])) t → Steps p.tables e below (T0.setTop (mkF m 312 #[(vi pi1), (vi pi2), (vi pi3), (vi pi4), (vi pi5), (vi pi6), (vi pi7), (vr pa8), (vr pa9), (vr pa10), (vr pa11), (vi pi12), (vi pi13), (vi pi14), (vi pi15), (vr pa16), (vr pa17), (vr pa18), .unset, .unset, .unset] [])) t := by
        intro t k
        refine pre191 t ?_
        rw [hn3]
        exact k
      rcases (id (hpo)) with hk193 | hk193 | hk193
      · skip
        have pre194 : ∀ t, Steps p.tables e below (T187.setTop (mkF m 341 #[(vi pi1), (vi pi2), (vi pi3), (vi pi4), (vi pi5), (vi pi6), (vi 2), (vr pa8), (vr pa9), (vr pa10), (vr pa11), (vi 0), (vi 3), (vi 0), (vi pi15), (vr pa16), (vr pa17), (vr pa18), (vi 0), .unset, .unset] [])) t → Steps p.tables e below (T0.setTop (mkF m 312 #[(vi pi1), (vi pi2), (vi pi3), (vi pi4), (vi pi5), (vi pi6), (vi pi7), (vr pa8), (vr pa9), (vr pa10), (vr pa11), (vi pi12), (vi pi13), (vi pi14), (vi pi15), (vr pa16), (vr pa17), (vr pa18), .unset, .unset, .unset] [])) t := by
          intro t k
          refine pre192 t ?_
          rw [hk193]
          exact k
        have f195 : Arv Z T187.heap pa10 pk29 (.array .int) (2 : Int32) ([(.ref pa30), (.ref pa31)]) .null := ((P6.keep K143q (ninS P187 (ninS P191 (ninS P192 (ninS P193 (ninS P194 (ninS P195 nin0))))))).keep K187q (ninS P187 (ninS ne146 (ninS P191 (ninS P192 (ninS P193 (ninS P194 (ninS P195 nin0))))))))
        obtain ⟨cl196, Ar196, qc196, Sz196, Nn196, Ha196, Gg196⟩ := (id f195)
        have hin196 : ¬ ((0 : Int32) < 0 ∨ cl196.slots.size ≤ ((0 : Int32)).toNatClampNeg) := inb_of Sz196 ⟨by decide, by decide⟩
        have hat196 : cl196.slots[((0 : Int32)).toNatClampNeg]? = some (.ref pa30) := Ha196.at hin196 rfl
        have f197 : Arv Z T187.heap pa30 pk46 .int (3 : Int32) ([(.int pi47), (.int pi48), (.int pi49)]) (.int 0) := ((P39.keep K143q (ninS P434 (ninS P438 (ninS P439 (ninS P440 (ninS P441 (ninS P442 nin0))))))).keep K187q (ninS P434 (ninS ne159 (ninS P438 (ninS P439 (ninS P440 (ninS P441 (ninS P442 nin0))))))))
        obtain ⟨cl198, Ar198, qc198, Sz198, Nn198, Ha198, Gg198⟩ := (id f197)
        have hin198 : ¬ ((0 : Int32) < 0 ∨ cl198.slots.size ≤ ((0 : Int32)).toNatClampNeg) := inb_of Sz198 ⟨by decide, by decide⟩
        have hat198 : cl198.slots[((0 : Int32)).toNatClampNeg]? = some (.int pi47) := Ha198.at hin198 rfl
        have pre199 : ∀ t, Steps p.tables e below (T187.setTop (mkF m 357 #[(vi pi1), (vi pi2), (vi pi3), (vi pi4), (vi pi5), (vi pi6), (vi 2), (vr pa8), (vr pa9), (vr pa10), (vr pa11), (vi 0), (vi 3), (vi 0), (vi pi15), (vr pa16), (vr pa17), (vr pa18), (vi 0), .unset, .unset] [(.int pi15), (.int pi47)])) t → Steps p.tables e below (T0.setTop (mkF m 312 #[(vi pi1), (vi pi2), (vi pi3), (vi pi4), (vi pi5), (vi pi6), (vi pi7), (vr pa8), (vr pa9), (vr pa10), (vr pa11), (vi pi12), (vi pi13), (vi pi14), (vi pi15), (vr pa16), (vr pa17), (vr pa18), .unset, .unset, .unset] [])) t := by
          intro t k
          refine pre194 t ?_
          show Steps p.tables e below (T187.setTop (mkF m 341 #[(vi pi1), (vi pi2), (vi pi3), (vi pi4), (vi pi5), (vi pi6), (vi 2), (vr pa8), (vr pa9), (vr pa10), (vr pa11), (vi 0), (vi 3), (vi 0), (vi pi15), (vr pa16), (vr pa17), (vr pa18), (vi 0), .unset, .unset] [])) _
          refine XS.iload X187.here hx rfl (hb hby at_341) rfl ?_
          refine XS.iconst X187.here hx rfl (hb hby at_343) ?_
          refine XS.icmpNo X187.here hx rfl (hb hby at_344) rfl (flt (by decide : ¬ ((2 : Int32) < (1 : Int32)))).1 ?_
          refine XS.aload X187.here hx rfl (hb hby at_347) rfl rfl ?_
          refine XS.iload X187.here hx rfl (hb hby at_349) rfl ?_
          refine X187.aaload hx (j := (0 : Int32)) (v := (.ref pa30)) Ar196.1 (State.isArrayOf_alike hZ.alike Ar196.2.1) rfl Ar196.2.2 hin196 hat196 (g := (mkF m 351 #[(vi pi1), (vi pi2), (vi pi3), (vi pi4), (vi pi5), (vi pi6), (vi 2), (vr pa8), (vr pa9), (vr pa10), (vr pa11), (vi 0), (vi 3), (vi 0), (vi pi15), (vr pa16), (vr pa17), (vr pa18), (vi 0), .unset, .unset] [(.int 0), (.ref pa10)])) rfl rfl (hb hby at_351) _ ?_
          show Steps p.tables e below (T187.setTop (mkF m 352 #[(vi pi1), (vi pi2), (vi pi3), (vi pi4), (vi pi5), (vi pi6), (vi 2), (vr pa8), (vr pa9), (vr pa10), (vr pa11), (vi 0), (vi 3), (vi 0), (vi pi15), (vr pa16), (vr pa17), (vr pa18), (vi 0), .unset, .unset] [(.ref pa30)])) _
          refine XS.iload X187.here hx rfl (hb hby at_352) rfl ?_
          refine X187.iaload hx (j := (0 : Int32)) (v := (.int pi47)) Ar198.1 (State.isArrayOf_alike hZ.alike Ar198.2.1) Ar198.2.2 hin198 hat198 (g := (mkF m 354 #[(vi pi1), (vi pi2), (vi pi3), (vi pi4), (vi pi5), (vi pi6), (vi 2), (vr pa8), (vr pa9), (vr pa10), (vr pa11), (vi 0), (vi 3), (vi 0), (vi pi15), (vr pa16), (vr pa17), (vr pa18), (vi 0), .unset, .unset] [(.int 0), (.ref pa30)])) rfl rfl (hb hby at_354) _ ?_
          refine XS.iload X187.here hx rfl (hb hby at_355) rfl ?_
          exact k
        obtain ⟨yc, hyc⟩ : ∃ z : Int32, z = (if pi47 = pi15 then (1 : Int32) else (0 : Int32)) := ⟨_, rfl⟩
        have pre201 : ∀ t, Steps p.tables e below (T187.setTop (mkF m 366 #[(vi pi1), (vi pi2), (vi pi3), (vi pi4), (vi pi5), (vi pi6), (vi 2), (vr pa8), (vr pa9), (vr pa10), (vr pa11), (vi 0), (vi 3), (vi 0), (vi pi15), (vr pa16), (vr pa17), (vr pa18), (vi yc), .unset, .unset] [])) t → Steps p.tables e below (T0.setTop (mkF m 312 #[(vi pi1), (vi pi2), (vi pi3), (vi pi4), (vi pi5), (vi pi6), (vi pi7), (vr pa8), (vr pa9), (vr pa10), (vr pa11), (vi pi12), (vi pi13), (vi pi14), (vi pi15), (vr pa16), (vr pa17), (vr pa18), .unset, .unset, .unset] [])) t := by
          intro t k
          rw [hyc] at k
          refine pre199 t ?_
          show Steps p.tables e below (T187.setTop (mkF m 357 #[(vi pi1), (vi pi2), (vi pi3), (vi pi4), (vi pi5), (vi pi6), (vi 2), (vr pa8), (vr pa9), (vr pa10), (vr pa11), (vi 0), (vi 3), (vi 0), (vi pi15), (vr pa16), (vr pa17), (vr pa18), (vi 0), .unset, .unset] [(.int pi15), (.int pi47)])) _
          rcases Decidable.em (pi47 = pi15) with hm200 | hm200
          · first | simp only [if_pos hm200] at k | skip
            refine XS.icmpNo X187.here hx rfl (hb hby at_357) rfl (teq hm200).2 ?_
            refine XS.iload X187.here hx rfl (hb hby at_360) rfl ?_
            refine XS.iconst X187.here hx rfl (hb hby at_362) ?_
            refine XS.iadd X187.here hx rfl (hb hby at_363) rfl ?_
            refine XS.istore X187.here hx rfl (hb hby at_364) rfl (l' := #[(vi pi1), (vi pi2), (vi pi3), (vi pi4), (vi pi5), (vi pi6), (vi 2), (vr pa8), (vr pa9), (vr pa10), (vr pa11), (vi 0), (vi 3), (vi 0), (vi pi15), (vr pa16), (vr pa17), (vr pa18), (vi 1), .unset, .unset]) rfl ?_
            exact k
          · first | simp only [if_neg hm200] at k | skip
            refine XS.icmpYes X187.here hx rfl (pc0 := 357) (pc' := 366) rfl (hb hby at_357) rfl (feq hm200).2 (by decide) (by decide) ?_
            exact k
        have f202 : Arv Z T187.heap pa11 pk32 (.array .int) (2 : Int32) ([(.ref pa33), (.ref pa34)]) .null := (f182.keep K187q (ninS P212 (ninS ne147 (ninS P216 (ninS P217 (ninS P218 (ninS P219 (ninS P220 nin0))))))))
        obtain ⟨cl203, Ar203, qc203, Sz203, Nn203, Ha203, Gg203⟩ := (id f202)
        have hin203 : ¬ ((0 : Int32) < 0 ∨ cl203.slots.size ≤ ((0 : Int32)).toNatClampNeg) := inb_of Sz203 ⟨by decide, by decide⟩
        have hat203 : cl203.slots[((0 : Int32)).toNatClampNeg]? = some (.ref pa33) := Ha203.at hin203 rfl
        have f204 : Arv Z T187.heap pa33 pk53 .int (3 : Int32) ([(.int pi54), (.int pi55), (.int pi56)]) (.int 0) := (f185.keep K187q (ninS P457 (ninS ne161 (ninS P461 (ninS P462 (ninS P463 (ninS P464 (ninS P465 nin0))))))))
        obtain ⟨cl205, Ar205, qc205, Sz205, Nn205, Ha205, Gg205⟩ := (id f204)
        have hin205 : ¬ ((0 : Int32) < 0 ∨ cl205.slots.size ≤ ((0 : Int32)).toNatClampNeg) := inb_of Sz205 ⟨by decide, by decide⟩
        have hat205 : cl205.slots[((0 : Int32)).toNatClampNeg]? = some (.int pi54) := Ha205.at hin205 rfl
        have pre206 : ∀ t, Steps p.tables e below (T187.setTop (mkF m 382 #[(vi pi1), (vi pi2), (vi pi3), (vi pi4), (vi pi5), (vi pi6), (vi 2), (vr pa8), (vr pa9), (vr pa10), (vr pa11), (vi 0), (vi 3), (vi 0), (vi pi15), (vr pa16), (vr pa17), (vr pa18), (vi yc), .unset, .unset] [(.int pi15), (.int pi54)])) t → Steps p.tables e below (T0.setTop (mkF m 312 #[(vi pi1), (vi pi2), (vi pi3), (vi pi4), (vi pi5), (vi pi6), (vi pi7), (vr pa8), (vr pa9), (vr pa10), (vr pa11), (vi pi12), (vi pi13), (vi pi14), (vi pi15), (vr pa16), (vr pa17), (vr pa18), .unset, .unset, .unset] [])) t := by
          intro t k
          refine pre201 t ?_
          show Steps p.tables e below (T187.setTop (mkF m 366 #[(vi pi1), (vi pi2), (vi pi3), (vi pi4), (vi pi5), (vi pi6), (vi 2), (vr pa8), (vr pa9), (vr pa10), (vr pa11), (vi 0), (vi 3), (vi 0), (vi pi15), (vr pa16), (vr pa17), (vr pa18), (vi yc), .unset, .unset] [])) _
          refine XS.iload X187.here hx rfl (hb hby at_366) rfl ?_
          refine XS.iconst X187.here hx rfl (hb hby at_368) ?_
          refine XS.icmpNo X187.here hx rfl (hb hby at_369) rfl (flt (by decide : ¬ ((2 : Int32) < (2 : Int32)))).1 ?_
          refine XS.aload X187.here hx rfl (hb hby at_372) rfl rfl ?_
          refine XS.iload X187.here hx rfl (hb hby at_374) rfl ?_
          refine X187.aaload hx (j := (0 : Int32)) (v := (.ref pa33)) Ar203.1 (State.isArrayOf_alike hZ.alike Ar203.2.1) rfl Ar203.2.2 hin203 hat203 (g := (mkF m 376 #[(vi pi1), (vi pi2), (vi pi3), (vi pi4), (vi pi5), (vi pi6), (vi 2), (vr pa8), (vr pa9), (vr pa10), (vr pa11), (vi 0), (vi 3), (vi 0), (vi pi15), (vr pa16), (vr pa17), (vr pa18), (vi yc), .unset, .unset] [(.int 0), (.ref pa11)])) rfl rfl (hb hby at_376) _ ?_
          show Steps p.tables e below (T187.setTop (mkF m 377 #[(vi pi1), (vi pi2), (vi pi3), (vi pi4), (vi pi5), (vi pi6), (vi 2), (vr pa8), (vr pa9), (vr pa10), (vr pa11), (vi 0), (vi 3), (vi 0), (vi pi15), (vr pa16), (vr pa17), (vr pa18), (vi yc), .unset, .unset] [(.ref pa33)])) _
          refine XS.iload X187.here hx rfl (hb hby at_377) rfl ?_
          refine X187.iaload hx (j := (0 : Int32)) (v := (.int pi54)) Ar205.1 (State.isArrayOf_alike hZ.alike Ar205.2.1) Ar205.2.2 hin205 hat205 (g := (mkF m 379 #[(vi pi1), (vi pi2), (vi pi3), (vi pi4), (vi pi5), (vi pi6), (vi 2), (vr pa8), (vr pa9), (vr pa10), (vr pa11), (vi 0), (vi 3), (vi 0), (vi pi15), (vr pa16), (vr pa17), (vr pa18), (vi yc), .unset, .unset] [(.int 0), (.ref pa33)])) rfl rfl (hb hby at_379) _ ?_
          refine XS.iload X187.here hx rfl (hb hby at_380) rfl ?_
          exact k
        obtain ⟨yd, hyd⟩ : ∃ z : Int32, z = (if pi54 = pi15 then (yc + (1 : Int32)) else yc) := ⟨_, rfl⟩
        have pre208 : ∀ t, Steps p.tables e below (T187.setTop (mkF m 391 #[(vi pi1), (vi pi2), (vi pi3), (vi pi4), (vi pi5), (vi pi6), (vi 2), (vr pa8), (vr pa9), (vr pa10), (vr pa11), (vi 0), (vi 3), (vi 0), (vi pi15), (vr pa16), (vr pa17), (vr pa18), (vi yd), .unset, .unset] [])) t → Steps p.tables e below (T0.setTop (mkF m 312 #[(vi pi1), (vi pi2), (vi pi3), (vi pi4), (vi pi5), (vi pi6), (vi pi7), (vr pa8), (vr pa9), (vr pa10), (vr pa11), (vi pi12), (vi pi13), (vi pi14), (vi pi15), (vr pa16), (vr pa17), (vr pa18), .unset, .unset, .unset] [])) t := by
          intro t k
          rw [hyd] at k
          refine pre206 t ?_
          show Steps p.tables e below (T187.setTop (mkF m 382 #[(vi pi1), (vi pi2), (vi pi3), (vi pi4), (vi pi5), (vi pi6), (vi 2), (vr pa8), (vr pa9), (vr pa10), (vr pa11), (vi 0), (vi 3), (vi 0), (vi pi15), (vr pa16), (vr pa17), (vr pa18), (vi yc), .unset, .unset] [(.int pi15), (.int pi54)])) _
          rcases Decidable.em (pi54 = pi15) with hm207 | hm207
          · first | simp only [if_pos hm207] at k | skip
            refine XS.icmpNo X187.here hx rfl (hb hby at_382) rfl (teq hm207).2 ?_
            refine XS.iload X187.here hx rfl (hb hby at_385) rfl ?_
            refine XS.iconst X187.here hx rfl (hb hby at_387) ?_
            refine XS.iadd X187.here hx rfl (hb hby at_388) rfl ?_
            refine XS.istore X187.here hx rfl (hb hby at_389) rfl (l' := #[(vi pi1), (vi pi2), (vi pi3), (vi pi4), (vi pi5), (vi pi6), (vi 2), (vr pa8), (vr pa9), (vr pa10), (vr pa11), (vi 0), (vi 3), (vi 0), (vi pi15), (vr pa16), (vr pa17), (vr pa18), .val (.int (yc + (1 : Int32))), .unset, .unset]) rfl ?_
            exact k
          · first | simp only [if_neg hm207] at k | skip
            refine XS.icmpYes X187.here hx rfl (pc0 := 382) (pc' := 391) rfl (hb hby at_382) rfl (feq hm207).2 (by decide) (by decide) ?_
            exact k
        have f209 : Fld Z T187.heap pa16 s3n "counts" "[[[I" (.ref pa35) := (f176.keep K187q (ninS P236 (ninS ne148 (ninS P240 (ninS P241 (ninS P242 (ninS P243 (ninS P244 nin0))))))))
        have f210 : Fld Z T187.heap pa16 s3n "memory" "I" (.int pi6) := (f177.keep K187q (ninS P236 (ninS ne148 (ninS P240 (ninS P241 (ninS P242 (ninS P243 (ninS P244 nin0))))))))
        have f211 : Fld Z T187.heap pa16 s3n "trains" "[I" (.ref pa37) := ((P16.keep K143q (ninS P236 (ninS P240 (ninS P241 (ninS P242 (ninS P243 (ninS P244 nin0))))))).keep K187q (ninS P236 (ninS ne148 (ninS P240 (ninS P241 (ninS P242 (ninS P243 (ninS P244 nin0))))))))
        have f212 : Arv Z T187.heap pa35 pk60 (.array (.array .int)) (2 : Int32) ([(.ref pa61), (.ref pa62)]) .null := (f181.keep K187q (ninS P476 (ninS ne163 (ninS P480 (ninS P481 (ninS P482 (ninS P483 (ninS P484 nin0))))))))
        have f213 : Arv Z T187.heap pa37 pk63 .int (2 : Int32) ([(.int 3), (.int 2)]) (.int 0) := ((P54.keep K143q (ninS (Ne.symm P485) (ninS P495 (ninS P496 (ninS P497 (ninS P498 (ninS P499 nin0))))))).keep K187q (ninS (Ne.symm P485) (ninS ne165 (ninS P495 (ninS P496 (ninS P497 (ninS P498 (ninS P499 nin0))))))))
        have f214 : Arv Z T187.heap pa61 pk64 (.array .int) (3 : Int32) ([(.ref pa65), (.ref pa66), (.ref pa67)]) .null := (f183.keep K187q (ninS (Ne.symm P486) (ninS ne166 (ninS P501 (ninS P502 (ninS P503 (ninS P504 (ninS P505 nin0))))))))
        have f216 : Exa Z T187.heap pa16 s3n := (f175.keep K187q)
        obtain ⟨cq215, kq215, q215a, q215b, q215c⟩ := isOf hZ rfl f216
        obtain ⟨_, _, ⟨T215, L215, k215, n215⟩, -, X215, ⟨Lc215, hQ215, l215, y215, z215⟩, st215⟩ := X187.virtualBack hx (y := M7) (z := M7) hown (mvT hZ (ow hw 131 rfl)) (mvT hZ (ow hw 132 rfl)) (notFace_of_selects (args := #[]) (mvT hZ (ow hw 134 rfl))) (mvT hZ (ow hw 134 rfl)) (mvT hZ (ow hw 133 rfl)) (by decide) (backOf (W := 0) (au17_5 l Z a0 hw [] wDEFAULTCAPACITY_EMPTY_ELEMENTDATA kwDEFAULTCAPACITY_EMPTY_ELEMENTDATA hS pa16 pi15 pa35 pi6 pa37 pk60 pa61 pa62 pk63 pk64 pa65 pa66 pa67 pk71 (inc pi54 (0 : Int32) (inc pi47 (0 : Int32) (0 : Int32))) (inc pi54 (1 : Int32) (inc pi47 (1 : Int32) (0 : Int32))) (inc pi54 (2 : Int32) (inc pi47 (2 : Int32) (0 : Int32))) T187.heap n0 O188 f209 f210 f211 f212 f213 f214 p187_8 htr) hZ (ow hw 135 rfl) (ow hw 11 rfl) (by decide) (by decide)) q215a q215c (g := (mkF m 412 #[(vi pi1), (vi pi2), (vi pi3), (vi pi4), (vi pi5), (vi pi6), (vi 2), (vr pa8), (vr pa9), (vr pa10), (vr pa11), (vi 0), (vi 3), (vi 0), (vi pi15), (vr pa16), (vr pa17), (vr pa18), (vi yd), .val (.long ((pi6.toInt64) + ((3 : Int64) * (yd.toInt64)))), .second] [(.int pi15), (.int 0), (.int 0), (.ref pa16)])) rfl (by rw [hml]; rfl) (Steps.refl _) (argsL := [(.int 0), (.int 0), (.int pi15)]) (rest := []) (lenOf pd_4 rfl) rfl (by show 2 * 0 + _ ≤ _; exact Nat.le_of_eq rfl) (hb hby at_412) (fun _ _ => ⟨rfl, rfl, (by decide : 27 + 0 ≤ _), (by decide : 79 + 0 ≤ _)⟩)
        dsimp only [Pt.U, Pt.locs, Pt.cells, Pt.slots] at X215 l215 y215 z215 st215 hQ215
        subst l215 y215 z215
        obtain ⟨rfl, Nq215, K215q⟩ := hQ215
        have N215 := Fr.app N187 Nq215
        obtain ⟨fs, hr, hrun, hended, hW, hsame⟩ := X215.leave (v := some (.int 1)) (fun h => by rw [hret0] at h; cases h)
        refine ⟨_, _, pre208 _ ?_, hrun, hended, _, _, rfl, ?_, ⟨_, rfl⟩, hW, hsame.mono (by decide) (by decide)⟩
        · skip
          show Steps p.tables e below (T187.setTop (mkF m 391 #[(vi pi1), (vi pi2), (vi pi3), (vi pi4), (vi pi5), (vi pi6), (vi 2), (vr pa8), (vr pa9), (vr pa10), (vr pa11), (vi 0), (vi 3), (vi 0), (vi pi15), (vr pa16), (vr pa17), (vr pa18), (vi yd), .unset, .unset] [])) _
          refine XS.iload X187.here hx rfl (hb hby at_391) rfl ?_
          refine XS.i2l X187.here hx rfl (hb hby at_393) rfl ?_
          refine XS.iload X187.here hx rfl (hb hby at_394) rfl ?_
          refine XS.i2l X187.here hx rfl (hb hby at_396) rfl ?_
          refine XS.iload X187.here hx rfl (hb hby at_397) rfl ?_
          refine XS.i2l X187.here hx rfl (hb hby at_399) rfl ?_
          show Steps p.tables e below (T187.setTop (mkF m 400 #[(vi pi1), (vi pi2), (vi pi3), (vi pi4), (vi pi5), (vi pi6), (vi 2), (vr pa8), (vr pa9), (vr pa10), (vr pa11), (vi 0), (vi 3), (vi 0), (vi pi15), (vr pa16), (vr pa17), (vr pa18), (vi yd), .unset, .unset] [(.long (yd.toInt64)), (.long 3), (.long (pi6.toInt64))])) _
          refine XS.lmul X187.here hx rfl (hb hby at_400) rfl ?_
          refine XS.ladd X187.here hx rfl (hb hby at_401) rfl ?_
          refine XS.lstore X187.here hx rfl (hb hby at_402) rfl (l' := #[(vi pi1), (vi pi2), (vi pi3), (vi pi4), (vi pi5), (vi pi6), (vi 2), (vr pa8), (vr pa9), (vr pa10), (vr pa11), (vi 0), (vi 3), (vi 0), (vi pi15), (vr pa16), (vr pa17), (vr pa18), (vi yd), .val (.long ((pi6.toInt64) + ((3 : Int64) * (yd.toInt64)))), .second]) rfl ?_
          refine XS.aload X187.here hx rfl (hb hby at_404) rfl rfl ?_
          refine XS.iload X187.here hx rfl (hb hby at_406) rfl ?_
          refine XS.iload X187.here hx rfl (hb hby at_408) rfl ?_
          show Steps p.tables e below (T187.setTop (mkF m 410 #[(vi pi1), (vi pi2), (vi pi3), (vi pi4), (vi pi5), (vi pi6), (vi 2), (vr pa8), (vr pa9), (vr pa10), (vr pa11), (vi 0), (vi 3), (vi 0), (vi pi15), (vr pa16), (vr pa17), (vr pa18), (vi yd), .val (.long ((pi6.toInt64) + ((3 : Int64) * (yd.toInt64)))), .second] [(.int 0), (.int 0), (.ref pa16)])) _
          refine XS.iload X187.here hx rfl (hb hby at_410) rfl ?_
          refine st215.trans ?_
          refine XS.lload X215.here hx rfl (hb hby at_415) rfl ?_
          refine XS.lcmp X215.here hx rfl (hb hby at_417) rfl ?_
          refine XS.ifNo X215.here hx rfl (hb hby at_418) rfl ((if0 _ _).trans (teq ((lw_eq _ _).mpr (by rw [own_c2T P76 P81 htr, hyd, hyc]) : (lcmpW ((pi6.toInt64) + ((3 : Int64) * ((selT pi15 (inc pi54 (0 : Int32) (inc pi47 (0 : Int32) (0 : Int32))) (inc pi54 (1 : Int32) (inc pi47 (1 : Int32) (0 : Int32))) (inc pi54 (2 : Int32) (inc pi47 (2 : Int32) (0 : Int32)))).toInt64))) ((pi6.toInt64) + ((3 : Int64) * (yd.toInt64)))) = (0 : Int32))).2) ?_
          refine XS.iconst X215.here hx rfl (hb hby at_421) ?_
          show Steps p.tables e below (T215.setTop (mkF m 422 #[(vi pi1), (vi pi2), (vi pi3), (vi pi4), (vi pi5), (vi pi6), (vi 2), (vr pa8), (vr pa9), (vr pa10), (vr pa11), (vi 0), (vi 3), (vi 0), (vi pi15), (vr pa16), (vr pa17), (vr pa18), (vi yd), .val (.long ((pi6.toInt64) + ((3 : Int64) * (yd.toInt64)))), .second] [(.int 1)])) _
          refine XS.goto X215.here hx rfl (pc0 := 422) (pc' := 426) rfl (hb hby at_422) (by decide) (by decide) ?_
          exact retN X215 hx (t := .boolean) hret0 (by simp) (hb hby at_426) hr
        · skip
          exact ⟨rfl, N215⟩
      · skip
        have pre217 : ∀ t, Steps p.tables e below (T187.setTop (mkF m 341 #[(vi pi1), (vi pi2), (vi pi3), (vi pi4), (vi pi5), (vi pi6), (vi 2), (vr pa8), (vr pa9), (vr pa10), (vr pa11), (vi 0), (vi 3), (vi 1), (vi pi15), (vr pa16), (vr pa17), (vr pa18), (vi 0), .unset, .unset] [])) t → Steps p.tables e below (T0.setTop (mkF m 312 #[(vi pi1), (vi pi2), (vi pi3), (vi pi4), (vi pi5), (vi pi6), (vi pi7), (vr pa8), (vr pa9), (vr pa10), (vr pa11), (vi pi12), (vi pi13), (vi pi14), (vi pi15), (vr pa16), (vr pa17), (vr pa18), .unset, .unset, .unset] [])) t := by
          intro t k
          refine pre192 t ?_
          rw [hk193]
          exact k
        have f218 : Arv Z T187.heap pa10 pk29 (.array .int) (2 : Int32) ([(.ref pa30), (.ref pa31)]) .null := ((P6.keep K143q (ninS P187 (ninS P191 (ninS P192 (ninS P193 (ninS P194 (ninS P195 nin0))))))).keep K187q (ninS P187 (ninS ne146 (ninS P191 (ninS P192 (ninS P193 (ninS P194 (ninS P195 nin0))))))))
        obtain ⟨cl219, Ar219, qc219, Sz219, Nn219, Ha219, Gg219⟩ := (id f218)
        have hin219 : ¬ ((0 : Int32) < 0 ∨ cl219.slots.size ≤ ((0 : Int32)).toNatClampNeg) := inb_of Sz219 ⟨by decide, by decide⟩
        have hat219 : cl219.slots[((0 : Int32)).toNatClampNeg]? = some (.ref pa30) := Ha219.at hin219 rfl
        have f220 : Arv Z T187.heap pa30 pk46 .int (3 : Int32) ([(.int pi47), (.int pi48), (.int pi49)]) (.int 0) := ((P39.keep K143q (ninS P434 (ninS P438 (ninS P439 (ninS P440 (ninS P441 (ninS P442 nin0))))))).keep K187q (ninS P434 (ninS ne159 (ninS P438 (ninS P439 (ninS P440 (ninS P441 (ninS P442 nin0))))))))
        obtain ⟨cl221, Ar221, qc221, Sz221, Nn221, Ha221, Gg221⟩ := (id f220)
        have hin221 : ¬ ((1 : Int32) < 0 ∨ cl221.slots.size ≤ ((1 : Int32)).toNatClampNeg) := inb_of Sz221 ⟨by decide, by decide⟩
        have hat221 : cl221.slots[((1 : Int32)).toNatClampNeg]? = some (.int pi48) := Ha221.at hin221 rfl
        have pre222 : ∀ t, Steps p.tables e below (T187.setTop (mkF m 357 #[(vi pi1), (vi pi2), (vi pi3), (vi pi4), (vi pi5), (vi pi6), (vi 2), (vr pa8), (vr pa9), (vr pa10), (vr pa11), (vi 0), (vi 3), (vi 1), (vi pi15), (vr pa16), (vr pa17), (vr pa18), (vi 0), .unset, .unset] [(.int pi15), (.int pi48)])) t → Steps p.tables e below (T0.setTop (mkF m 312 #[(vi pi1), (vi pi2), (vi pi3), (vi pi4), (vi pi5), (vi pi6), (vi pi7), (vr pa8), (vr pa9), (vr pa10), (vr pa11), (vi pi12), (vi pi13), (vi pi14), (vi pi15), (vr pa16), (vr pa17), (vr pa18), .unset, .unset, .unset] [])) t := by
          intro t k
          refine pre217 t ?_
          show Steps p.tables e below (T187.setTop (mkF m 341 #[(vi pi1), (vi pi2), (vi pi3), (vi pi4), (vi pi5), (vi pi6), (vi 2), (vr pa8), (vr pa9), (vr pa10), (vr pa11), (vi 0), (vi 3), (vi 1), (vi pi15), (vr pa16), (vr pa17), (vr pa18), (vi 0), .unset, .unset] [])) _
          refine XS.iload X187.here hx rfl (hb hby at_341) rfl ?_
          refine XS.iconst X187.here hx rfl (hb hby at_343) ?_
          refine XS.icmpNo X187.here hx rfl (hb hby at_344) rfl (flt (by decide : ¬ ((2 : Int32) < (1 : Int32)))).1 ?_
          refine XS.aload X187.here hx rfl (hb hby at_347) rfl rfl ?_
          refine XS.iload X187.here hx rfl (hb hby at_349) rfl ?_
          refine X187.aaload hx (j := (0 : Int32)) (v := (.ref pa30)) Ar219.1 (State.isArrayOf_alike hZ.alike Ar219.2.1) rfl Ar219.2.2 hin219 hat219 (g := (mkF m 351 #[(vi pi1), (vi pi2), (vi pi3), (vi pi4), (vi pi5), (vi pi6), (vi 2), (vr pa8), (vr pa9), (vr pa10), (vr pa11), (vi 0), (vi 3), (vi 1), (vi pi15), (vr pa16), (vr pa17), (vr pa18), (vi 0), .unset, .unset] [(.int 0), (.ref pa10)])) rfl rfl (hb hby at_351) _ ?_
          show Steps p.tables e below (T187.setTop (mkF m 352 #[(vi pi1), (vi pi2), (vi pi3), (vi pi4), (vi pi5), (vi pi6), (vi 2), (vr pa8), (vr pa9), (vr pa10), (vr pa11), (vi 0), (vi 3), (vi 1), (vi pi15), (vr pa16), (vr pa17), (vr pa18), (vi 0), .unset, .unset] [(.ref pa30)])) _
          refine XS.iload X187.here hx rfl (hb hby at_352) rfl ?_
          refine X187.iaload hx (j := (1 : Int32)) (v := (.int pi48)) Ar221.1 (State.isArrayOf_alike hZ.alike Ar221.2.1) Ar221.2.2 hin221 hat221 (g := (mkF m 354 #[(vi pi1), (vi pi2), (vi pi3), (vi pi4), (vi pi5), (vi pi6), (vi 2), (vr pa8), (vr pa9), (vr pa10), (vr pa11), (vi 0), (vi 3), (vi 1), (vi pi15), (vr pa16), (vr pa17), (vr pa18), (vi 0), .unset, .unset] [(.int 1), (.ref pa30)])) rfl rfl (hb hby at_354) _ ?_
          refine XS.iload X187.here hx rfl (hb hby at_355) rfl ?_
          exact k
        obtain ⟨yc, hyc⟩ : ∃ z : Int32, z = (if pi48 = pi15 then (1 : Int32) else (0 : Int32)) := ⟨_, rfl⟩
        have pre224 : ∀ t, Steps p.tables e below (T187.setTop (mkF m 366 #[(vi pi1), (vi pi2), (vi pi3), (vi pi4), (vi pi5), (vi pi6), (vi 2), (vr pa8), (vr pa9), (vr pa10), (vr pa11), (vi 0), (vi 3), (vi 1), (vi pi15), (vr pa16), (vr pa17), (vr pa18), (vi yc), .unset, .unset] [])) t → Steps p.tables e below (T0.setTop (mkF m 312 #[(vi pi1), (vi pi2), (vi pi3), (vi pi4), (vi pi5), (vi pi6), (vi pi7), (vr pa8), (vr pa9), (vr pa10), (vr pa11), (vi pi12), (vi pi13), (vi pi14), (vi pi15), (vr pa16), (vr pa17), (vr pa18), .unset, .unset, .unset] [])) t := by
          intro t k
          rw [hyc] at k
          refine pre222 t ?_
          show Steps p.tables e below (T187.setTop (mkF m 357 #[(vi pi1), (vi pi2), (vi pi3), (vi pi4), (vi pi5), (vi pi6), (vi 2), (vr pa8), (vr pa9), (vr pa10), (vr pa11), (vi 0), (vi 3), (vi 1), (vi pi15), (vr pa16), (vr pa17), (vr pa18), (vi 0), .unset, .unset] [(.int pi15), (.int pi48)])) _
          rcases Decidable.em (pi48 = pi15) with hm223 | hm223
          · first | simp only [if_pos hm223] at k | skip
            refine XS.icmpNo X187.here hx rfl (hb hby at_357) rfl (teq hm223).2 ?_
            refine XS.iload X187.here hx rfl (hb hby at_360) rfl ?_
            refine XS.iconst X187.here hx rfl (hb hby at_362) ?_
            refine XS.iadd X187.here hx rfl (hb hby at_363) rfl ?_
            refine XS.istore X187.here hx rfl (hb hby at_364) rfl (l' := #[(vi pi1), (vi pi2), (vi pi3), (vi pi4), (vi pi5), (vi pi6), (vi 2), (vr pa8), (vr pa9), (vr pa10), (vr pa11), (vi 0), (vi 3), (vi 1), (vi pi15), (vr pa16), (vr pa17), (vr pa18), (vi 1), .unset, .unset]) rfl ?_
            exact k
          · first | simp only [if_neg hm223] at k | skip
            refine XS.icmpYes X187.here hx rfl (pc0 := 357) (pc' := 366) rfl (hb hby at_357) rfl (feq hm223).2 (by decide) (by decide) ?_
            exact k
        have f225 : Arv Z T187.heap pa11 pk32 (.array .int) (2 : Int32) ([(.ref pa33), (.ref pa34)]) .null := (f182.keep K187q (ninS P212 (ninS ne147 (ninS P216 (ninS P217 (ninS P218 (ninS P219 (ninS P220 nin0))))))))
        obtain ⟨cl226, Ar226, qc226, Sz226, Nn226, Ha226, Gg226⟩ := (id f225)
        have hin226 : ¬ ((0 : Int32) < 0 ∨ cl226.slots.size ≤ ((0 : Int32)).toNatClampNeg) := inb_of Sz226 ⟨by decide, by decide⟩
        have hat226 : cl226.slots[((0 : Int32)).toNatClampNeg]? = some (.ref pa33) := Ha226.at hin226 rfl
        have f227 : Arv Z T187.heap pa33 pk53 .int (3 : Int32) ([(.int pi54), (.int pi55), (.int pi56)]) (.int 0) := (f185.keep K187q (ninS P457 (ninS ne161 (ninS P461 (ninS P462 (ninS P463 (ninS P464 (ninS P465 nin0))))))))
        obtain ⟨cl228, Ar228, qc228, Sz228, Nn228, Ha228, Gg228⟩ := (id f227)
        have hin228 : ¬ ((1 : Int32) < 0 ∨ cl228.slots.size ≤ ((1 : Int32)).toNatClampNeg) := inb_of Sz228 ⟨by decide, by decide⟩
        have hat228 : cl228.slots[((1 : Int32)).toNatClampNeg]? = some (.int pi55) := Ha228.at hin228 rfl
        have pre229 : ∀ t, Steps p.tables e below (T187.setTop (mkF m 382 #[(vi pi1), (vi pi2), (vi pi3), (vi pi4), (vi pi5), (vi pi6), (vi 2), (vr pa8), (vr pa9), (vr pa10), (vr pa11), (vi 0), (vi 3), (vi 1), (vi pi15), (vr pa16), (vr pa17), (vr pa18), (vi yc), .unset, .unset] [(.int pi15), (.int pi55)])) t → Steps p.tables e below (T0.setTop (mkF m 312 #[(vi pi1), (vi pi2), (vi pi3), (vi pi4), (vi pi5), (vi pi6), (vi pi7), (vr pa8), (vr pa9), (vr pa10), (vr pa11), (vi pi12), (vi pi13), (vi pi14), (vi pi15), (vr pa16), (vr pa17), (vr pa18), .unset, .unset, .unset] [])) t := by
          intro t k
          refine pre224 t ?_
          show Steps p.tables e below (T187.setTop (mkF m 366 #[(vi pi1), (vi pi2), (vi pi3), (vi pi4), (vi pi5), (vi pi6), (vi 2), (vr pa8), (vr pa9), (vr pa10), (vr pa11), (vi 0), (vi 3), (vi 1), (vi pi15), (vr pa16), (vr pa17), (vr pa18), (vi yc), .unset, .unset] [])) _
          refine XS.iload X187.here hx rfl (hb hby at_366) rfl ?_
          refine XS.iconst X187.here hx rfl (hb hby at_368) ?_
          refine XS.icmpNo X187.here hx rfl (hb hby at_369) rfl (flt (by decide : ¬ ((2 : Int32) < (2 : Int32)))).1 ?_
          refine XS.aload X187.here hx rfl (hb hby at_372) rfl rfl ?_
          refine XS.iload X187.here hx rfl (hb hby at_374) rfl ?_
          refine X187.aaload hx (j := (0 : Int32)) (v := (.ref pa33)) Ar226.1 (State.isArrayOf_alike hZ.alike Ar226.2.1) rfl Ar226.2.2 hin226 hat226 (g := (mkF m 376 #[(vi pi1), (vi pi2), (vi pi3), (vi pi4), (vi pi5), (vi pi6), (vi 2), (vr pa8), (vr pa9), (vr pa10), (vr pa11), (vi 0), (vi 3), (vi 1), (vi pi15), (vr pa16), (vr pa17), (vr pa18), (vi yc), .unset, .unset] [(.int 0), (.ref pa11)])) rfl rfl (hb hby at_376) _ ?_
          show Steps p.tables e below (T187.setTop (mkF m 377 #[(vi pi1), (vi pi2), (vi pi3), (vi pi4), (vi pi5), (vi pi6), (vi 2), (vr pa8), (vr pa9), (vr pa10), (vr pa11), (vi 0), (vi 3), (vi 1), (vi pi15), (vr pa16), (vr pa17), (vr pa18), (vi yc), .unset, .unset] [(.ref pa33)])) _
          refine XS.iload X187.here hx rfl (hb hby at_377) rfl ?_
          refine X187.iaload hx (j := (1 : Int32)) (v := (.int pi55)) Ar228.1 (State.isArrayOf_alike hZ.alike Ar228.2.1) Ar228.2.2 hin228 hat228 (g := (mkF m 379 #[(vi pi1), (vi pi2), (vi pi3), (vi pi4), (vi pi5), (vi pi6), (vi 2), (vr pa8), (vr pa9), (vr pa10), (vr pa11), (vi 0), (vi 3), (vi 1), (vi pi15), (vr pa16), (vr pa17), (vr pa18), (vi yc), .unset, .unset] [(.int 1), (.ref pa33)])) rfl rfl (hb hby at_379) _ ?_
          refine XS.iload X187.here hx rfl (hb hby at_380) rfl ?_
          exact k
        obtain ⟨yd, hyd⟩ : ∃ z : Int32, z = (if pi55 = pi15 then (yc + (1 : Int32)) else yc) := ⟨_, rfl⟩
        have pre231 : ∀ t, Steps p.tables e below (T187.setTop (mkF m 391 #[(vi pi1), (vi pi2), (vi pi3), (vi pi4), (vi pi5), (vi pi6), (vi 2), (vr pa8), (vr pa9), (vr pa10), (vr pa11), (vi 0), (vi 3), (vi 1), (vi pi15), (vr pa16), (vr pa17), (vr pa18), (vi yd), .unset, .unset] [])) t → Steps p.tables e below (T0.setTop (mkF m 312 #[(vi pi1), (vi pi2), (vi pi3), (vi pi4), (vi pi5), (vi pi6), (vi pi7), (vr pa8), (vr pa9), (vr pa10), (vr pa11), (vi pi12), (vi pi13), (vi pi14), (vi pi15), (vr pa16), (vr pa17), (vr pa18), .unset, .unset, .unset] [])) t := by
          intro t k
          rw [hyd] at k
          refine pre229 t ?_
          show Steps p.tables e below (T187.setTop (mkF m 382 #[(vi pi1), (vi pi2), (vi pi3), (vi pi4), (vi pi5), (vi pi6), (vi 2), (vr pa8), (vr pa9), (vr pa10), (vr pa11), (vi 0), (vi 3), (vi 1), (vi pi15), (vr pa16), (vr pa17), (vr pa18), (vi yc), .unset, .unset] [(.int pi15), (.int pi55)])) _
          rcases Decidable.em (pi55 = pi15) with hm230 | hm230
          · first | simp only [if_pos hm230] at k | skip
            refine XS.icmpNo X187.here hx rfl (hb hby at_382) rfl (teq hm230).2 ?_
            refine XS.iload X187.here hx rfl (hb hby at_385) rfl ?_
            refine XS.iconst X187.here hx rfl (hb hby at_387) ?_
            refine XS.iadd X187.here hx rfl (hb hby at_388) rfl ?_
            refine XS.istore X187.here hx rfl (hb hby at_389) rfl (l' := #[(vi pi1), (vi pi2), (vi pi3), (vi pi4), (vi pi5), (vi pi6), (vi 2), (vr pa8), (vr pa9), (vr pa10), (vr pa11), (vi 0), (vi 3), (vi 1), (vi pi15), (vr pa16), (vr pa17), (vr pa18), .val (.int (yc + (1 : Int32))), .unset, .unset]) rfl ?_
            exact k
          · first | simp only [if_neg hm230] at k | skip
            refine XS.icmpYes X187.here hx rfl (pc0 := 382) (pc' := 391) rfl (hb hby at_382) rfl (feq hm230).2 (by decide) (by decide) ?_
            exact k
        have f232 : Fld Z T187.heap pa16 s3n "counts" "[[[I" (.ref pa35) := (f176.keep K187q (ninS P236 (ninS ne148 (ninS P240 (ninS P241 (ninS P242 (ninS P243 (ninS P244 nin0))))))))
        have f233 : Fld Z T187.heap pa16 s3n "memory" "I" (.int pi6) := (f177.keep K187q (ninS P236 (ninS ne148 (ninS P240 (ninS P241 (ninS P242 (ninS P243 (ninS P244 nin0))))))))
        have f234 : Fld Z T187.heap pa16 s3n "trains" "[I" (.ref pa37) := ((P16.keep K143q (ninS P236 (ninS P240 (ninS P241 (ninS P242 (ninS P243 (ninS P244 nin0))))))).keep K187q (ninS P236 (ninS ne148 (ninS P240 (ninS P241 (ninS P242 (ninS P243 (ninS P244 nin0))))))))
        have f235 : Arv Z T187.heap pa35 pk60 (.array (.array .int)) (2 : Int32) ([(.ref pa61), (.ref pa62)]) .null := (f181.keep K187q (ninS P476 (ninS ne163 (ninS P480 (ninS P481 (ninS P482 (ninS P483 (ninS P484 nin0))))))))
        have f236 : Arv Z T187.heap pa37 pk63 .int (2 : Int32) ([(.int 3), (.int 2)]) (.int 0) := ((P54.keep K143q (ninS (Ne.symm P485) (ninS P495 (ninS P496 (ninS P497 (ninS P498 (ninS P499 nin0))))))).keep K187q (ninS (Ne.symm P485) (ninS ne165 (ninS P495 (ninS P496 (ninS P497 (ninS P498 (ninS P499 nin0))))))))
        have f237 : Arv Z T187.heap pa61 pk64 (.array .int) (3 : Int32) ([(.ref pa65), (.ref pa66), (.ref pa67)]) .null := (f183.keep K187q (ninS (Ne.symm P486) (ninS ne166 (ninS P501 (ninS P502 (ninS P503 (ninS P504 (ninS P505 nin0))))))))
        have f239 : Exa Z T187.heap pa16 s3n := (f175.keep K187q)
        obtain ⟨cq238, kq238, q238a, q238b, q238c⟩ := isOf hZ rfl f239
        obtain ⟨_, _, ⟨T238, L238, k238, n238⟩, -, X238, ⟨Lc238, hQ238, l238, y238, z238⟩, st238⟩ := X187.virtualBack hx (y := M7) (z := M7) hown (mvT hZ (ow hw 131 rfl)) (mvT hZ (ow hw 132 rfl)) (notFace_of_selects (args := #[]) (mvT hZ (ow hw 134 rfl))) (mvT hZ (ow hw 134 rfl)) (mvT hZ (ow hw 133 rfl)) (by decide) (backOf (W := 0) (au17_6 l Z a0 hw [] wDEFAULTCAPACITY_EMPTY_ELEMENTDATA kwDEFAULTCAPACITY_EMPTY_ELEMENTDATA hS pa16 pi15 pa35 pi6 pa37 pk60 pa61 pa62 pk63 pk64 pa65 pa66 pa67 pk71 (inc pi55 (0 : Int32) (inc pi48 (0 : Int32) (0 : Int32))) (inc pi55 (1 : Int32) (inc pi48 (1 : Int32) (0 : Int32))) (inc pi55 (2 : Int32) (inc pi48 (2 : Int32) (0 : Int32))) T187.heap n0 O188 f232 f233 f234 f235 f236 f237 p187_10 htr) hZ (ow hw 135 rfl) (ow hw 11 rfl) (by decide) (by decide)) q238a q238c (g := (mkF m 412 #[(vi pi1), (vi pi2), (vi pi3), (vi pi4), (vi pi5), (vi pi6), (vi 2), (vr pa8), (vr pa9), (vr pa10), (vr pa11), (vi 0), (vi 3), (vi 1), (vi pi15), (vr pa16), (vr pa17), (vr pa18), (vi yd), .val (.long ((pi6.toInt64) + ((3 : Int64) * (yd.toInt64)))), .second] [(.int pi15), (.int 1), (.int 0), (.ref pa16)])) rfl (by rw [hml]; rfl) (Steps.refl _) (argsL := [(.int 0), (.int 1), (.int pi15)]) (rest := []) (lenOf pd_4 rfl) rfl (by show 2 * 0 + _ ≤ _; exact Nat.le_of_eq rfl) (hb hby at_412) (fun _ _ => ⟨rfl, rfl, (by decide : 27 + 0 ≤ _), (by decide : 79 + 0 ≤ _)⟩)
        dsimp only [Pt.U, Pt.locs, Pt.cells, Pt.slots] at X238 l238 y238 z238 st238 hQ238
        subst l238 y238 z238
        obtain ⟨rfl, Nq238, K238q⟩ := hQ238
        have N238 := Fr.app N187 Nq238
        obtain ⟨fs, hr, hrun, hended, hW, hsame⟩ := X238.leave (v := some (.int 1)) (fun h => by rw [hret0] at h; cases h)
        refine ⟨_, _, pre231 _ ?_, hrun, hended, _, _, rfl, ?_, ⟨_, rfl⟩, hW, hsame.mono (by decide) (by decide)⟩
        · skip
          show Steps p.tables e below (T187.setTop (mkF m 391 #[(vi pi1), (vi pi2), (vi pi3), (vi pi4), (vi pi5), (vi pi6), (vi 2), (vr pa8), (vr pa9), (vr pa10), (vr pa11), (vi 0), (vi 3), (vi 1), (vi pi15), (vr pa16), (vr pa17), (vr pa18), (vi yd), .unset, .unset] [])) _
          refine XS.iload X187.here hx rfl (hb hby at_391) rfl ?_
          refine XS.i2l X187.here hx rfl (hb hby at_393) rfl ?_
          refine XS.iload X187.here hx rfl (hb hby at_394) rfl ?_
          refine XS.i2l X187.here hx rfl (hb hby at_396) rfl ?_
          refine XS.iload X187.here hx rfl (hb hby at_397) rfl ?_
          refine XS.i2l X187.here hx rfl (hb hby at_399) rfl ?_
          show Steps p.tables e below (T187.setTop (mkF m 400 #[(vi pi1), (vi pi2), (vi pi3), (vi pi4), (vi pi5), (vi pi6), (vi 2), (vr pa8), (vr pa9), (vr pa10), (vr pa11), (vi 0), (vi 3), (vi 1), (vi pi15), (vr pa16), (vr pa17), (vr pa18), (vi yd), .unset, .unset] [(.long (yd.toInt64)), (.long 3), (.long (pi6.toInt64))])) _
          refine XS.lmul X187.here hx rfl (hb hby at_400) rfl ?_
          refine XS.ladd X187.here hx rfl (hb hby at_401) rfl ?_
          refine XS.lstore X187.here hx rfl (hb hby at_402) rfl (l' := #[(vi pi1), (vi pi2), (vi pi3), (vi pi4), (vi pi5), (vi pi6), (vi 2), (vr pa8), (vr pa9), (vr pa10), (vr pa11), (vi 0), (vi 3), (vi 1), (vi pi15), (vr pa16), (vr pa17), (vr pa18), (vi yd), .val (.long ((pi6.toInt64) + ((3 : Int64) * (yd.toInt64)))), .second]) rfl ?_
          refine XS.aload X187.here hx rfl (hb hby at_404) rfl rfl ?_
          refine XS.iload X187.here hx rfl (hb hby at_406) rfl ?_
          refine XS.iload X187.here hx rfl (hb hby at_408) rfl ?_
          show Steps p.tables e below (T187.setTop (mkF m 410 #[(vi pi1), (vi pi2), (vi pi3), (vi pi4), (vi pi5), (vi pi6), (vi 2), (vr pa8), (vr pa9), (vr pa10), (vr pa11), (vi 0), (vi 3), (vi 1), (vi pi15), (vr pa16), (vr pa17), (vr pa18), (vi yd), .val (.long ((pi6.toInt64) + ((3 : Int64) * (yd.toInt64)))), .second] [(.int 1), (.int 0), (.ref pa16)])) _
          refine XS.iload X187.here hx rfl (hb hby at_410) rfl ?_
          refine st238.trans ?_
          refine XS.lload X238.here hx rfl (hb hby at_415) rfl ?_
          refine XS.lcmp X238.here hx rfl (hb hby at_417) rfl ?_
          refine XS.ifNo X238.here hx rfl (hb hby at_418) rfl ((if0 _ _).trans (teq ((lw_eq _ _).mpr (by rw [own_c2T P77 P82 htr, hyd, hyc]) : (lcmpW ((pi6.toInt64) + ((3 : Int64) * ((selT pi15 (inc pi55 (0 : Int32) (inc pi48 (0 : Int32) (0 : Int32))) (inc pi55 (1 : Int32) (inc pi48 (1 : Int32) (0 : Int32))) (inc pi55 (2 : Int32) (inc pi48 (2 : Int32) (0 : Int32)))).toInt64))) ((pi6.toInt64) + ((3 : Int64) * (yd.toInt64)))) = (0 : Int32))).2) ?_
          refine XS.iconst X238.here hx rfl (hb hby at_421) ?_
          show Steps p.tables e below (T238.setTop (mkF m 422 #[(vi pi1), (vi pi2), (vi pi3), (vi pi4), (vi pi5), (vi pi6), (vi 2), (vr pa8), (vr pa9), (vr pa10), (vr pa11), (vi 0), (vi 3), (vi 1), (vi pi15), (vr pa16), (vr pa17), (vr pa18), (vi yd), .val (.long ((pi6.toInt64) + ((3 : Int64) * (yd.toInt64)))), .second] [(.int 1)])) _
          refine XS.goto X238.here hx rfl (pc0 := 422) (pc' := 426) rfl (hb hby at_422) (by decide) (by decide) ?_
          exact retN X238 hx (t := .boolean) hret0 (by simp) (hb hby at_426) hr
        · skip
          exact ⟨rfl, N238⟩
      · skip
        have pre240 : ∀ t, Steps p.tables e below (T187.setTop (mkF m 341 #[(vi pi1), (vi pi2), (vi pi3), (vi pi4), (vi pi5), (vi pi6), (vi 2), (vr pa8), (vr pa9), (vr pa10), (vr pa11), (vi 0), (vi 3), (vi 2), (vi pi15), (vr pa16), (vr pa17), (vr pa18), (vi 0), .unset, .unset] [])) t → Steps p.tables e below (T0.setTop (mkF m 312 #[(vi pi1), (vi pi2), (vi pi3), (vi pi4), (vi pi5), (vi pi6), (vi pi7), (vr pa8), (vr pa9), (vr pa10), (vr pa11), (vi pi12), (vi pi13), (vi pi14), (vi pi15), (vr pa16), (vr pa17), (vr pa18), .unset, .unset, .unset] [])) t := by
          intro t k
          refine pre192 t ?_
          rw [hk193]
          exact k
        have f241 : Arv Z T187.heap pa10 pk29 (.array .int) (2 : Int32) ([(.ref pa30), (.ref pa31)]) .null := ((P6.keep K143q (ninS P187 (ninS P191 (ninS P192 (ninS P193 (ninS P194 (ninS P195 nin0))))))).keep K187q (ninS P187 (ninS ne146 (ninS P191 (ninS P192 (ninS P193 (ninS P194 (ninS P195 nin0))))))))
        obtain ⟨cl242, Ar242, qc242, Sz242, Nn242, Ha242, Gg242⟩ := (id f241)
        have hin242 : ¬ ((0 : Int32) < 0 ∨ cl242.slots.size ≤ ((0 : Int32)).toNatClampNeg) := inb_of Sz242 ⟨by decide, by decide⟩
        have hat242 : cl242.slots[((0 : Int32)).toNatClampNeg]? = some (.ref pa30) := Ha242.at hin242 rfl
        have f243 : Arv Z T187.heap pa30 pk46 .int (3 : Int32) ([(.int pi47), (.int pi48), (.int pi49)]) (.int 0) := ((P39.keep K143q (ninS P434 (ninS P438 (ninS P439 (ninS P440 (ninS P441 (ninS P442 nin0))))))).keep K187q (ninS P434 (ninS ne159 (ninS P438 (ninS P439 (ninS P440 (ninS P441 (ninS P442 nin0))))))))
        obtain ⟨cl244, Ar244, qc244, Sz244, Nn244, Ha244, Gg244⟩ := (id f243)
        have hin244 : ¬ ((2 : Int32) < 0 ∨ cl244.slots.size ≤ ((2 : Int32)).toNatClampNeg) := inb_of Sz244 ⟨by decide, by decide⟩
        have hat244 : cl244.slots[((2 : Int32)).toNatClampNeg]? = some (.int pi49) := Ha244.at hin244 rfl
        have pre245 : ∀ t, Steps p.tables e below (T187.setTop (mkF m 357 #[(vi pi1), (vi pi2), (vi pi3), (vi pi4), (vi pi5), (vi pi6), (vi 2), (vr pa8), (vr pa9), (vr pa10), (vr pa11), (vi 0), (vi 3), (vi 2), (vi pi15), (vr pa16), (vr pa17), (vr pa18), (vi 0), .unset, .unset] [(.int pi15), (.int pi49)])) t → Steps p.tables e below (T0.setTop (mkF m 312 #[(vi pi1), (vi pi2), (vi pi3), (vi pi4), (vi pi5), (vi pi6), (vi pi7), (vr pa8), (vr pa9), (vr pa10), (vr pa11), (vi pi12), (vi pi13), (vi pi14), (vi pi15), (vr pa16), (vr pa17), (vr pa18), .unset, .unset, .unset] [])) t := by
          intro t k
          refine pre240 t ?_
          show Steps p.tables e below (T187.setTop (mkF m 341 #[(vi pi1), (vi pi2), (vi pi3), (vi pi4), (vi pi5), (vi pi6), (vi 2), (vr pa8), (vr pa9), (vr pa10), (vr pa11), (vi 0), (vi 3), (vi 2), (vi pi15), (vr pa16), (vr pa17), (vr pa18), (vi 0), .unset, .unset] [])) _
          refine XS.iload X187.here hx rfl (hb hby at_341) rfl ?_
          refine XS.iconst X187.here hx rfl (hb hby at_343) ?_
          refine XS.icmpNo X187.here hx rfl (hb hby at_344) rfl (flt (by decide : ¬ ((2 : Int32) < (1 : Int32)))).1 ?_
          refine XS.aload X187.here hx rfl (hb hby at_347) rfl rfl ?_
          refine XS.iload X187.here hx rfl (hb hby at_349) rfl ?_
          refine X187.aaload hx (j := (0 : Int32)) (v := (.ref pa30)) Ar242.1 (State.isArrayOf_alike hZ.alike Ar242.2.1) rfl Ar242.2.2 hin242 hat242 (g := (mkF m 351 #[(vi pi1), (vi pi2), (vi pi3), (vi pi4), (vi pi5), (vi pi6), (vi 2), (vr pa8), (vr pa9), (vr pa10), (vr pa11), (vi 0), (vi 3), (vi 2), (vi pi15), (vr pa16), (vr pa17), (vr pa18), (vi 0), .unset, .unset] [(.int 0), (.ref pa10)])) rfl rfl (hb hby at_351) _ ?_
          show Steps p.tables e below (T187.setTop (mkF m 352 #[(vi pi1), (vi pi2), (vi pi3), (vi pi4), (vi pi5), (vi pi6), (vi 2), (vr pa8), (vr pa9), (vr pa10), (vr pa11), (vi 0), (vi 3), (vi 2), (vi pi15), (vr pa16), (vr pa17), (vr pa18), (vi 0), .unset, .unset] [(.ref pa30)])) _
          refine XS.iload X187.here hx rfl (hb hby at_352) rfl ?_
          refine X187.iaload hx (j := (2 : Int32)) (v := (.int pi49)) Ar244.1 (State.isArrayOf_alike hZ.alike Ar244.2.1) Ar244.2.2 hin244 hat244 (g := (mkF m 354 #[(vi pi1), (vi pi2), (vi pi3), (vi pi4), (vi pi5), (vi pi6), (vi 2), (vr pa8), (vr pa9), (vr pa10), (vr pa11), (vi 0), (vi 3), (vi 2), (vi pi15), (vr pa16), (vr pa17), (vr pa18), (vi 0), .unset, .unset] [(.int 2), (.ref pa30)])) rfl rfl (hb hby at_354) _ ?_
          refine XS.iload X187.here hx rfl (hb hby at_355) rfl ?_
          exact k
        obtain ⟨yc, hyc⟩ : ∃ z : Int32, z = (if pi49 = pi15 then (1 : Int32) else (0 : Int32)) := ⟨_, rfl⟩
        have pre247 : ∀ t, Steps p.tables e below (T187.setTop (mkF m 366 #[(vi pi1), (vi pi2), (vi pi3), (vi pi4), (vi pi5), (vi pi6), (vi 2), (vr pa8), (vr pa9), (vr pa10), (vr pa11), (vi 0), (vi 3), (vi 2), (vi pi15), (vr pa16), (vr pa17), (vr pa18), (vi yc), .unset, .unset] [])) t → Steps p.tables e below (T0.setTop (mkF m 312 #[(vi pi1), (vi pi2), (vi pi3), (vi pi4), (vi pi5), (vi pi6), (vi pi7), (vr pa8), (vr pa9), (vr pa10), (vr pa11), (vi pi12), (vi pi13), (vi pi14), (vi pi15), (vr pa16), (vr pa17), (vr pa18), .unset, .unset, .unset] [])) t := by
          intro t k
          rw [hyc] at k
          refine pre245 t ?_
          show Steps p.tables e below (T187.setTop (mkF m 357 #[(vi pi1), (vi pi2), (vi pi3), (vi pi4), (vi pi5), (vi pi6), (vi 2), (vr pa8), (vr pa9), (vr pa10), (vr pa11), (vi 0), (vi 3), (vi 2), (vi pi15), (vr pa16), (vr pa17), (vr pa18), (vi 0), .unset, .unset] [(.int pi15), (.int pi49)])) _
          rcases Decidable.em (pi49 = pi15) with hm246 | hm246
          · first | simp only [if_pos hm246] at k | skip
            refine XS.icmpNo X187.here hx rfl (hb hby at_357) rfl (teq hm246).2 ?_
            refine XS.iload X187.here hx rfl (hb hby at_360) rfl ?_
            refine XS.iconst X187.here hx rfl (hb hby at_362) ?_
            refine XS.iadd X187.here hx rfl (hb hby at_363) rfl ?_
            refine XS.istore X187.here hx rfl (hb hby at_364) rfl (l' := #[(vi pi1), (vi pi2), (vi pi3), (vi pi4), (vi pi5), (vi pi6), (vi 2), (vr pa8), (vr pa9), (vr pa10), (vr pa11), (vi 0), (vi 3), (vi 2), (vi pi15), (vr pa16), (vr pa17), (vr pa18), (vi 1), .unset, .unset]) rfl ?_
            exact k
          · first | simp only [if_neg hm246] at k | skip
            refine XS.icmpYes X187.here hx rfl (pc0 := 357) (pc' := 366) rfl (hb hby at_357) rfl (feq hm246).2 (by decide) (by decide) ?_
            exact k
        have f248 : Arv Z T187.heap pa11 pk32 (.array .int) (2 : Int32) ([(.ref pa33), (.ref pa34)]) .null := (f182.keep K187q (ninS P212 (ninS ne147 (ninS P216 (ninS P217 (ninS P218 (ninS P219 (ninS P220 nin0))))))))
        obtain ⟨cl249, Ar249, qc249, Sz249, Nn249, Ha249, Gg249⟩ := (id f248)
        have hin249 : ¬ ((0 : Int32) < 0 ∨ cl249.slots.size ≤ ((0 : Int32)).toNatClampNeg) := inb_of Sz249 ⟨by decide, by decide⟩
        have hat249 : cl249.slots[((0 : Int32)).toNatClampNeg]? = some (.ref pa33) := Ha249.at hin249 rfl
        have f250 : Arv Z T187.heap pa33 pk53 .int (3 : Int32) ([(.int pi54), (.int pi55), (.int pi56)]) (.int 0) := (f185.keep K187q (ninS P457 (ninS ne161 (ninS P461 (ninS P462 (ninS P463 (ninS P464 (ninS P465 nin0))))))))
        obtain ⟨cl251, Ar251, qc251, Sz251, Nn251, Ha251, Gg251⟩ := (id f250)
        have hin251 : ¬ ((2 : Int32) < 0 ∨ cl251.slots.size ≤ ((2 : Int32)).toNatClampNeg) := inb_of Sz251 ⟨by decide, by decide⟩
        have hat251 : cl251.slots[((2 : Int32)).toNatClampNeg]? = some (.int pi56) := Ha251.at hin251 rfl
        have pre252 : ∀ t, Steps p.tables e below (T187.setTop (mkF m 382 #[(vi pi1), (vi pi2), (vi pi3), (vi pi4), (vi pi5), (vi pi6), (vi 2), (vr pa8), (vr pa9), (vr pa10), (vr pa11), (vi 0), (vi 3), (vi 2), (vi pi15), (vr pa16), (vr pa17), (vr pa18), (vi yc), .unset, .unset] [(.int pi15), (.int pi56)])) t → Steps p.tables e below (T0.setTop (mkF m 312 #[(vi pi1), (vi pi2), (vi pi3), (vi pi4), (vi pi5), (vi pi6), (vi pi7), (vr pa8), (vr pa9), (vr pa10), (vr pa11), (vi pi12), (vi pi13), (vi pi14), (vi pi15), (vr pa16), (vr pa17), (vr pa18), .unset, .unset, .unset] [])) t := by
          intro t k
          refine pre247 t ?_
          show Steps p.tables e below (T187.setTop (mkF m 366 #[(vi pi1), (vi pi2), (vi pi3), (vi pi4), (vi pi5), (vi pi6), (vi 2), (vr pa8), (vr pa9), (vr pa10), (vr pa11), (vi 0), (vi 3), (vi 2), (vi pi15), (vr pa16), (vr pa17), (vr pa18), (vi yc), .unset, .unset] [])) _
          refine XS.iload X187.here hx rfl (hb hby at_366) rfl ?_
          refine XS.iconst X187.here hx rfl (hb hby at_368) ?_
          refine XS.icmpNo X187.here hx rfl (hb hby at_369) rfl (flt (by decide : ¬ ((2 : Int32) < (2 : Int32)))).1 ?_
          refine XS.aload X187.here hx rfl (hb hby at_372) rfl rfl ?_
          refine XS.iload X187.here hx rfl (hb hby at_374) rfl ?_
          refine X187.aaload hx (j := (0 : Int32)) (v := (.ref pa33)) Ar249.1 (State.isArrayOf_alike hZ.alike Ar249.2.1) rfl Ar249.2.2 hin249 hat249 (g := (mkF m 376 #[(vi pi1), (vi pi2), (vi pi3), (vi pi4), (vi pi5), (vi pi6), (vi 2), (vr pa8), (vr pa9), (vr pa10), (vr pa11), (vi 0), (vi 3), (vi 2), (vi pi15), (vr pa16), (vr pa17), (vr pa18), (vi yc), .unset, .unset] [(.int 0), (.ref pa11)])) rfl rfl (hb hby at_376) _ ?_
          show Steps p.tables e below (T187.setTop (mkF m 377 #[(vi pi1), (vi pi2), (vi pi3), (vi pi4), (vi pi5), (vi pi6), (vi 2), (vr pa8), (vr pa9), (vr pa10), (vr pa11), (vi 0), (vi 3), (vi 2), (vi pi15), (vr pa16), (vr pa17), (vr pa18), (vi yc), .unset, .unset] [(.ref pa33)])) _
          refine XS.iload X187.here hx rfl (hb hby at_377) rfl ?_
          refine X187.iaload hx (j := (2 : Int32)) (v := (.int pi56)) Ar251.1 (State.isArrayOf_alike hZ.alike Ar251.2.1) Ar251.2.2 hin251 hat251 (g := (mkF m 379 #[(vi pi1), (vi pi2), (vi pi3), (vi pi4), (vi pi5), (vi pi6), (vi 2), (vr pa8), (vr pa9), (vr pa10), (vr pa11), (vi 0), (vi 3), (vi 2), (vi pi15), (vr pa16), (vr pa17), (vr pa18), (vi yc), .unset, .unset] [(.int 2), (.ref pa33)])) rfl rfl (hb hby at_379) _ ?_
          refine XS.iload X187.here hx rfl (hb hby at_380) rfl ?_
          exact k
        obtain ⟨yd, hyd⟩ : ∃ z : Int32, z = (if pi56 = pi15 then (yc + (1 : Int32)) else yc) := ⟨_, rfl⟩
        have pre254 : ∀ t, Steps p.tables e below (T187.setTop (mkF m 391 #[(vi pi1), (vi pi2), (vi pi3), (vi pi4), (vi pi5), (vi pi6), (vi 2), (vr pa8), (vr pa9), (vr pa10), (vr pa11), (vi 0), (vi 3), (vi 2), (vi pi15), (vr pa16), (vr pa17), (vr pa18), (vi yd), .unset, .unset] [])) t → Steps p.tables e below (T0.setTop (mkF m 312 #[(vi pi1), (vi pi2), (vi pi3), (vi pi4), (vi pi5), (vi pi6), (vi pi7), (vr pa8), (vr pa9), (vr pa10), (vr pa11), (vi pi12), (vi pi13), (vi pi14), (vi pi15), (vr pa16), (vr pa17), (vr pa18), .unset, .unset, .unset] [])) t := by
          intro t k
          rw [hyd] at k
          refine pre252 t ?_
          show Steps p.tables e below (T187.setTop (mkF m 382 #[(vi pi1), (vi pi2), (vi pi3), (vi pi4), (vi pi5), (vi pi6), (vi 2), (vr pa8), (vr pa9), (vr pa10), (vr pa11), (vi 0), (vi 3), (vi 2), (vi pi15), (vr pa16), (vr pa17), (vr pa18), (vi yc), .unset, .unset] [(.int pi15), (.int pi56)])) _
          rcases Decidable.em (pi56 = pi15) with hm253 | hm253
          · first | simp only [if_pos hm253] at k | skip
            refine XS.icmpNo X187.here hx rfl (hb hby at_382) rfl (teq hm253).2 ?_
            refine XS.iload X187.here hx rfl (hb hby at_385) rfl ?_
            refine XS.iconst X187.here hx rfl (hb hby at_387) ?_
            refine XS.iadd X187.here hx rfl (hb hby at_388) rfl ?_
            refine XS.istore X187.here hx rfl (hb hby at_389) rfl (l' := #[(vi pi1), (vi pi2), (vi pi3), (vi pi4), (vi pi5), (vi pi6), (vi 2), (vr pa8), (vr pa9), (vr pa10), (vr pa11), (vi 0), (vi 3), (vi 2), (vi pi15), (vr pa16), (vr pa17), (vr pa18), .val (.int (yc + (1 : Int32))), .unset, .unset]) rfl ?_
            exact k
          · first | simp only [if_neg hm253] at k | skip
            refine XS.icmpYes X187.here hx rfl (pc0 := 382) (pc' := 391) rfl (hb hby at_382) rfl (feq hm253).2 (by decide) (by decide) ?_
            exact k
        have f255 : Fld Z T187.heap pa16 s3n "counts" "[[[I" (.ref pa35) := (f176.keep K187q (ninS P236 (ninS ne148 (ninS P240 (ninS P241 (ninS P242 (ninS P243 (ninS P244 nin0))))))))
        have f256 : Fld Z T187.heap pa16 s3n "memory" "I" (.int pi6) := (f177.keep K187q (ninS P236 (ninS ne148 (ninS P240 (ninS P241 (ninS P242 (ninS P243 (ninS P244 nin0))))))))
        have f257 : Fld Z T187.heap pa16 s3n "trains" "[I" (.ref pa37) := ((P16.keep K143q (ninS P236 (ninS P240 (ninS P241 (ninS P242 (ninS P243 (ninS P244 nin0))))))).keep K187q (ninS P236 (ninS ne148 (ninS P240 (ninS P241 (ninS P242 (ninS P243 (ninS P244 nin0))))))))
        have f258 : Arv Z T187.heap pa35 pk60 (.array (.array .int)) (2 : Int32) ([(.ref pa61), (.ref pa62)]) .null := (f181.keep K187q (ninS P476 (ninS ne163 (ninS P480 (ninS P481 (ninS P482 (ninS P483 (ninS P484 nin0))))))))
        have f259 : Arv Z T187.heap pa37 pk63 .int (2 : Int32) ([(.int 3), (.int 2)]) (.int 0) := ((P54.keep K143q (ninS (Ne.symm P485) (ninS P495 (ninS P496 (ninS P497 (ninS P498 (ninS P499 nin0))))))).keep K187q (ninS (Ne.symm P485) (ninS ne165 (ninS P495 (ninS P496 (ninS P497 (ninS P498 (ninS P499 nin0))))))))
        have f260 : Arv Z T187.heap pa61 pk64 (.array .int) (3 : Int32) ([(.ref pa65), (.ref pa66), (.ref pa67)]) .null := (f183.keep K187q (ninS (Ne.symm P486) (ninS ne166 (ninS P501 (ninS P502 (ninS P503 (ninS P504 (ninS P505 nin0))))))))
        have f262 : Exa Z T187.heap pa16 s3n := (f175.keep K187q)
        obtain ⟨cq261, kq261, q261a, q261b, q261c⟩ := isOf hZ rfl f262
        obtain ⟨_, _, ⟨T261, L261, k261, n261⟩, -, X261, ⟨Lc261, hQ261, l261, y261, z261⟩, st261⟩ := X187.virtualBack hx (y := M7) (z := M7) hown (mvT hZ (ow hw 131 rfl)) (mvT hZ (ow hw 132 rfl)) (notFace_of_selects (args := #[]) (mvT hZ (ow hw 134 rfl))) (mvT hZ (ow hw 134 rfl)) (mvT hZ (ow hw 133 rfl)) (by decide) (backOf (W := 0) (au17_7 l Z a0 hw [] wDEFAULTCAPACITY_EMPTY_ELEMENTDATA kwDEFAULTCAPACITY_EMPTY_ELEMENTDATA hS pa16 pi15 pa35 pi6 pa37 pk60 pa61 pa62 pk63 pk64 pa65 pa66 pa67 pk71 (inc pi56 (0 : Int32) (inc pi49 (0 : Int32) (0 : Int32))) (inc pi56 (1 : Int32) (inc pi49 (1 : Int32) (0 : Int32))) (inc pi56 (2 : Int32) (inc pi49 (2 : Int32) (0 : Int32))) T187.heap n0 O188 f255 f256 f257 f258 f259 f260 p187_12 htr) hZ (ow hw 135 rfl) (ow hw 11 rfl) (by decide) (by decide)) q261a q261c (g := (mkF m 412 #[(vi pi1), (vi pi2), (vi pi3), (vi pi4), (vi pi5), (vi pi6), (vi 2), (vr pa8), (vr pa9), (vr pa10), (vr pa11), (vi 0), (vi 3), (vi 2), (vi pi15), (vr pa16), (vr pa17), (vr pa18), (vi yd), .val (.long ((pi6.toInt64) + ((3 : Int64) * (yd.toInt64)))), .second] [(.int pi15), (.int 2), (.int 0), (.ref pa16)])) rfl (by rw [hml]; rfl) (Steps.refl _) (argsL := [(.int 0), (.int 2), (.int pi15)]) (rest := []) (lenOf pd_4 rfl) rfl (by show 2 * 0 + _ ≤ _; exact Nat.le_of_eq rfl) (hb hby at_412) (fun _ _ => ⟨rfl, rfl, (by decide : 27 + 0 ≤ _), (by decide : 79 + 0 ≤ _)⟩)
        dsimp only [Pt.U, Pt.locs, Pt.cells, Pt.slots] at X261 l261 y261 z261 st261 hQ261
        subst l261 y261 z261
        obtain ⟨rfl, Nq261, K261q⟩ := hQ261
        have N261 := Fr.app N187 Nq261
        obtain ⟨fs, hr, hrun, hended, hW, hsame⟩ := X261.leave (v := some (.int 1)) (fun h => by rw [hret0] at h; cases h)
        refine ⟨_, _, pre254 _ ?_, hrun, hended, _, _, rfl, ?_, ⟨_, rfl⟩, hW, hsame.mono (by decide) (by decide)⟩
        · skip
          show Steps p.tables e below (T187.setTop (mkF m 391 #[(vi pi1), (vi pi2), (vi pi3), (vi pi4), (vi pi5), (vi pi6), (vi 2), (vr pa8), (vr pa9), (vr pa10), (vr pa11), (vi 0), (vi 3), (vi 2), (vi pi15), (vr pa16), (vr pa17), (vr pa18), (vi yd), .unset, .unset] [])) _
          refine XS.iload X187.here hx rfl (hb hby at_391) rfl ?_
          refine XS.i2l X187.here hx rfl (hb hby at_393) rfl ?_
          refine XS.iload X187.here hx rfl (hb hby at_394) rfl ?_
          refine XS.i2l X187.here hx rfl (hb hby at_396) rfl ?_
          refine XS.iload X187.here hx rfl (hb hby at_397) rfl ?_
          refine XS.i2l X187.here hx rfl (hb hby at_399) rfl ?_
          show Steps p.tables e below (T187.setTop (mkF m 400 #[(vi pi1), (vi pi2), (vi pi3), (vi pi4), (vi pi5), (vi pi6), (vi 2), (vr pa8), (vr pa9), (vr pa10), (vr pa11), (vi 0), (vi 3), (vi 2), (vi pi15), (vr pa16), (vr pa17), (vr pa18), (vi yd), .unset, .unset] [(.long (yd.toInt64)), (.long 3), (.long (pi6.toInt64))])) _
          refine XS.lmul X187.here hx rfl (hb hby at_400) rfl ?_
          refine XS.ladd X187.here hx rfl (hb hby at_401) rfl ?_
          refine XS.lstore X187.here hx rfl (hb hby at_402) rfl (l' := #[(vi pi1), (vi pi2), (vi pi3), (vi pi4), (vi pi5), (vi pi6), (vi 2), (vr pa8), (vr pa9), (vr pa10), (vr pa11), (vi 0), (vi 3), (vi 2), (vi pi15), (vr pa16), (vr pa17), (vr pa18), (vi yd), .val (.long ((pi6.toInt64) + ((3 : Int64) * (yd.toInt64)))), .second]) rfl ?_
          refine XS.aload X187.here hx rfl (hb hby at_404) rfl rfl ?_
          refine XS.iload X187.here hx rfl (hb hby at_406) rfl ?_
          refine XS.iload X187.here hx rfl (hb hby at_408) rfl ?_
          show Steps p.tables e below (T187.setTop (mkF m 410 #[(vi pi1), (vi pi2), (vi pi3), (vi pi4), (vi pi5), (vi pi6), (vi 2), (vr pa8), (vr pa9), (vr pa10), (vr pa11), (vi 0), (vi 3), (vi 2), (vi pi15), (vr pa16), (vr pa17), (vr pa18), (vi yd), .val (.long ((pi6.toInt64) + ((3 : Int64) * (yd.toInt64)))), .second] [(.int 2), (.int 0), (.ref pa16)])) _
          refine XS.iload X187.here hx rfl (hb hby at_410) rfl ?_
          refine st261.trans ?_
          refine XS.lload X261.here hx rfl (hb hby at_415) rfl ?_
          refine XS.lcmp X261.here hx rfl (hb hby at_417) rfl ?_
          refine XS.ifNo X261.here hx rfl (hb hby at_418) rfl ((if0 _ _).trans (teq ((lw_eq _ _).mpr (by rw [own_c2T P78 P83 htr, hyd, hyc]) : (lcmpW ((pi6.toInt64) + ((3 : Int64) * ((selT pi15 (inc pi56 (0 : Int32) (inc pi49 (0 : Int32) (0 : Int32))) (inc pi56 (1 : Int32) (inc pi49 (1 : Int32) (0 : Int32))) (inc pi56 (2 : Int32) (inc pi49 (2 : Int32) (0 : Int32)))).toInt64))) ((pi6.toInt64) + ((3 : Int64) * (yd.toInt64)))) = (0 : Int32))).2) ?_
          refine XS.iconst X261.here hx rfl (hb hby at_421) ?_
          show Steps p.tables e below (T261.setTop (mkF m 422 #[(vi pi1), (vi pi2), (vi pi3), (vi pi4), (vi pi5), (vi pi6), (vi 2), (vr pa8), (vr pa9), (vr pa10), (vr pa11), (vi 0), (vi 3), (vi 2), (vi pi15), (vr pa16), (vr pa17), (vr pa18), (vi yd), .val (.long ((pi6.toInt64) + ((3 : Int64) * (yd.toInt64)))), .second] [(.int 1)])) _
          refine XS.goto X261.here hx rfl (pc0 := 422) (pc' := 426) rfl (hb hby at_422) (by decide) (by decide) ?_
          exact retN X261 hx (t := .boolean) hret0 (by simp) (hb hby at_426) hr
        · skip
          exact ⟨rfl, N261⟩
    · skip
      have pre263 : ∀ t, Steps p.tables e below (T187.setTop (mkF m 341 #[(vi pi1), (vi pi2), (vi pi3), (vi pi4), (vi pi5), (vi pi6), (vi 2), (vr pa8), (vr pa9), (vr pa10), (vr pa11), (vi 1), (vi pi13), (vi pi14), (vi pi15), (vr pa16), (vr pa17), (vr pa18), (vi 0), .unset, .unset] [])) t → Steps p.tables e below (T0.setTop (mkF m 312 #[(vi pi1), (vi pi2), (vi pi3), (vi pi4), (vi pi5), (vi pi6), (vi pi7), (vr pa8), (vr pa9), (vr pa10), (vr pa11), (vi pi12), (vi pi13), (vi pi14), (vi pi15), (vr pa16), (vr pa17), (vr pa18), .unset, .unset, .unset] [])) t := by
        intro t k
        refine pre189 t ?_
        rw [hk190]
        exact k
      have hn3 : pi13 = (2 : Int32) := by rw [P87, hk190]; decide
      have hpo : inB pi14 := P88.2 hn3
      have htr : inB pi15 := P89.2 hn3
      have pre264 : ∀ t, Steps p.tables e below (T187.setTop (mkF m 341 #[(vi pi1), (vi pi2), (vi pi3), (vi pi4), (vi pi5), (vi pi6), (vi 2), (vr pa8), (vr pa9), (vr pa10), (vr pa11), (vi 1), (vi 2), (vi pi14), (vi pi15), (vr pa16), (vr pa17), (vr pa18), (vi 0), .unset, .unset] [])) t → Steps p.tables e below (T0.setTop (mkF m 312 #[(vi pi1), (vi pi2), (vi pi3), (vi pi4), (vi pi5), (vi pi6), (vi pi7), (vr pa8), (vr pa9), (vr pa10), (vr pa11), (vi pi12), (vi pi13), (vi pi14), (vi pi15), (vr pa16), (vr pa17), (vr pa18), .unset, .unset, .unset] [])) t := by
        intro t k
        refine pre263 t ?_
        rw [hn3]
        exact k
      rcases (id (hpo)) with hk265 | hk265
      · skip
        have pre266 : ∀ t, Steps p.tables e below (T187.setTop (mkF m 341 #[(vi pi1), (vi pi2), (vi pi3), (vi pi4), (vi pi5), (vi pi6), (vi 2), (vr pa8), (vr pa9), (vr pa10), (vr pa11), (vi 1), (vi 2), (vi 0), (vi pi15), (vr pa16), (vr pa17), (vr pa18), (vi 0), .unset, .unset] [])) t → Steps p.tables e below (T0.setTop (mkF m 312 #[(vi pi1), (vi pi2), (vi pi3), (vi pi4), (vi pi5), (vi pi6), (vi pi7), (vr pa8), (vr pa9), (vr pa10), (vr pa11), (vi pi12), (vi pi13), (vi pi14), (vi pi15), (vr pa16), (vr pa17), (vr pa18), .unset, .unset, .unset] [])) t := by
          intro t k
          refine pre264 t ?_
          rw [hk265]
          exact k
        have f267 : Arv Z T187.heap pa10 pk29 (.array .int) (2 : Int32) ([(.ref pa30), (.ref pa31)]) .null := ((P6.keep K143q (ninS P187 (ninS P191 (ninS P192 (ninS P193 (ninS P194 (ninS P195 nin0))))))).keep K187q (ninS P187 (ninS ne146 (ninS P191 (ninS P192 (ninS P193 (ninS P194 (ninS P195 nin0))))))))
        obtain ⟨cl268, Ar268, qc268, Sz268, Nn268, Ha268, Gg268⟩ := (id f267)
        have hin268 : ¬ ((1 : Int32) < 0 ∨ cl268.slots.size ≤ ((1 : Int32)).toNatClampNeg) := inb_of Sz268 ⟨by decide, by decide⟩
        have hat268 : cl268.slots[((1 : Int32)).toNatClampNeg]? = some (.ref pa31) := Ha268.at hin268 rfl
        have f269 : Arv Z T187.heap pa31 pk50 .int (2 : Int32) ([(.int pi51), (.int pi52)]) (.int 0) := ((P41.keep K143q (ninS P446 (ninS P450 (ninS P451 (ninS P452 (ninS P453 (ninS P454 nin0))))))).keep K187q (ninS P446 (ninS ne160 (ninS P450 (ninS P451 (ninS P452 (ninS P453 (ninS P454 nin0))))))))
        obtain ⟨cl270, Ar270, qc270, Sz270, Nn270, Ha270, Gg270⟩ := (id f269)
        have hin270 : ¬ ((0 : Int32) < 0 ∨ cl270.slots.size ≤ ((0 : Int32)).toNatClampNeg) := inb_of Sz270 ⟨by decide, by decide⟩
        have hat270 : cl270.slots[((0 : Int32)).toNatClampNeg]? = some (.int pi51) := Ha270.at hin270 rfl
        have pre271 : ∀ t, Steps p.tables e below (T187.setTop (mkF m 357 #[(vi pi1), (vi pi2), (vi pi3), (vi pi4), (vi pi5), (vi pi6), (vi 2), (vr pa8), (vr pa9), (vr pa10), (vr pa11), (vi 1), (vi 2), (vi 0), (vi pi15), (vr pa16), (vr pa17), (vr pa18), (vi 0), .unset, .unset] [(.int pi15), (.int pi51)])) t → Steps p.tables e below (T0.setTop (mkF m 312 #[(vi pi1), (vi pi2), (vi pi3), (vi pi4), (vi pi5), (vi pi6), (vi pi7), (vr pa8), (vr pa9), (vr pa10), (vr pa11), (vi pi12), (vi pi13), (vi pi14), (vi pi15), (vr pa16), (vr pa17), (vr pa18), .unset, .unset, .unset] [])) t := by
          intro t k
          refine pre266 t ?_
          show Steps p.tables e below (T187.setTop (mkF m 341 #[(vi pi1), (vi pi2), (vi pi3), (vi pi4), (vi pi5), (vi pi6), (vi 2), (vr pa8), (vr pa9), (vr pa10), (vr pa11), (vi 1), (vi 2), (vi 0), (vi pi15), (vr pa16), (vr pa17), (vr pa18), (vi 0), .unset, .unset] [])) _
          refine XS.iload X187.here hx rfl (hb hby at_341) rfl ?_
          refine XS.iconst X187.here hx rfl (hb hby at_343) ?_
          refine XS.icmpNo X187.here hx rfl (hb hby at_344) rfl (flt (by decide : ¬ ((2 : Int32) < (1 : Int32)))).1 ?_
          refine XS.aload X187.here hx rfl (hb hby at_347) rfl rfl ?_
          refine XS.iload X187.here hx rfl (hb hby at_349) rfl ?_
          refine X187.aaload hx (j := (1 : Int32)) (v := (.ref pa31)) Ar268.1 (State.isArrayOf_alike hZ.alike Ar268.2.1) rfl Ar268.2.2 hin268 hat268 (g := (mkF m 351 #[(vi pi1), (vi pi2), (vi pi3), (vi pi4), (vi pi5), (vi pi6), (vi 2), (vr pa8), (vr pa9), (vr pa10), (vr pa11), (vi 1), (vi 2), (vi 0), (vi pi15), (vr pa16), (vr pa17), (vr pa18), (vi 0), .unset, .unset] [(.int 1), (.ref pa10)])) rfl rfl (hb hby at_351) _ ?_
          show Steps p.tables e below (T187.setTop (mkF m 352 #[(vi pi1), (vi pi2), (vi pi3), (vi pi4), (vi pi5), (vi pi6), (vi 2), (vr pa8), (vr pa9), (vr pa10), (vr pa11), (vi 1), (vi 2), (vi 0), (vi pi15), (vr pa16), (vr pa17), (vr pa18), (vi 0), .unset, .unset] [(.ref pa31)])) _
          refine XS.iload X187.here hx rfl (hb hby at_352) rfl ?_
          refine X187.iaload hx (j := (0 : Int32)) (v := (.int pi51)) Ar270.1 (State.isArrayOf_alike hZ.alike Ar270.2.1) Ar270.2.2 hin270 hat270 (g := (mkF m 354 #[(vi pi1), (vi pi2), (vi pi3), (vi pi4), (vi pi5), (vi pi6), (vi 2), (vr pa8), (vr pa9), (vr pa10), (vr pa11), (vi 1), (vi 2), (vi 0), (vi pi15), (vr pa16), (vr pa17), (vr pa18), (vi 0), .unset, .unset] [(.int 0), (.ref pa31)])) rfl rfl (hb hby at_354) _ ?_
          refine XS.iload X187.here hx rfl (hb hby at_355) rfl ?_
          exact k
        obtain ⟨yc, hyc⟩ : ∃ z : Int32, z = (if pi51 = pi15 then (1 : Int32) else (0 : Int32)) := ⟨_, rfl⟩
        have pre273 : ∀ t, Steps p.tables e below (T187.setTop (mkF m 366 #[(vi pi1), (vi pi2), (vi pi3), (vi pi4), (vi pi5), (vi pi6), (vi 2), (vr pa8), (vr pa9), (vr pa10), (vr pa11), (vi 1), (vi 2), (vi 0), (vi pi15), (vr pa16), (vr pa17), (vr pa18), (vi yc), .unset, .unset] [])) t → Steps p.tables e below (T0.setTop (mkF m 312 #[(vi pi1), (vi pi2), (vi pi3), (vi pi4), (vi pi5), (vi pi6), (vi pi7), (vr pa8), (vr pa9), (vr pa10), (vr pa11), (vi pi12), (vi pi13), (vi pi14), (vi pi15), (vr pa16), (vr pa17), (vr pa18), .unset, .unset, .unset] [])) t := by
          intro t k
          rw [hyc] at k
          refine pre271 t ?_
          show Steps p.tables e below (T187.setTop (mkF m 357 #[(vi pi1), (vi pi2), (vi pi3), (vi pi4), (vi pi5), (vi pi6), (vi 2), (vr pa8), (vr pa9), (vr pa10), (vr pa11), (vi 1), (vi 2), (vi 0), (vi pi15), (vr pa16), (vr pa17), (vr pa18), (vi 0), .unset, .unset] [(.int pi15), (.int pi51)])) _
          rcases Decidable.em (pi51 = pi15) with hm272 | hm272
          · first | simp only [if_pos hm272] at k | skip
            refine XS.icmpNo X187.here hx rfl (hb hby at_357) rfl (teq hm272).2 ?_
            refine XS.iload X187.here hx rfl (hb hby at_360) rfl ?_
            refine XS.iconst X187.here hx rfl (hb hby at_362) ?_
            refine XS.iadd X187.here hx rfl (hb hby at_363) rfl ?_
            refine XS.istore X187.here hx rfl (hb hby at_364) rfl (l' := #[(vi pi1), (vi pi2), (vi pi3), (vi pi4), (vi pi5), (vi pi6), (vi 2), (vr pa8), (vr pa9), (vr pa10), (vr pa11), (vi 1), (vi 2), (vi 0), (vi pi15), (vr pa16), (vr pa17), (vr pa18), (vi 1), .unset, .unset]) rfl ?_
            exact k
          · first | simp only [if_neg hm272] at k | skip
            refine XS.icmpYes X187.here hx rfl (pc0 := 357) (pc' := 366) rfl (hb hby at_357) rfl (feq hm272).2 (by decide) (by decide) ?_
            exact k
        have f274 : Arv Z T187.heap pa11 pk32 (.array .int) (2 : Int32) ([(.ref pa33), (.ref pa34)]) .null := (f182.keep K187q (ninS P212 (ninS ne147 (ninS P216 (ninS P217 (ninS P218 (ninS P219 (ninS P220 nin0))))))))
        obtain ⟨cl275, Ar275, qc275, Sz275, Nn275, Ha275, Gg275⟩ := (id f274)
        have hin275 : ¬ ((1 : Int32) < 0 ∨ cl275.slots.size ≤ ((1 : Int32)).toNatClampNeg) := inb_of Sz275 ⟨by decide, by decide⟩
        have hat275 : cl275.slots[((1 : Int32)).toNatClampNeg]? = some (.ref pa34) := Ha275.at hin275 rfl
        have f276 : Arv Z T187.heap pa34 pk57 .int (2 : Int32) ([(.int pi58), (.int pi59)]) (.int 0) := (f186.keep K187q (ninS P467 (ninS ne162 (ninS P471 (ninS P472 (ninS P473 (ninS P474 (ninS P475 nin0))))))))
        obtain ⟨cl277, Ar277, qc277, Sz277, Nn277, Ha277, Gg277⟩ := (id f276)
        have hin277 : ¬ ((0 : Int32) < 0 ∨ cl277.slots.size ≤ ((0 : Int32)).toNatClampNeg) := inb_of Sz277 ⟨by decide, by decide⟩
        have hat277 : cl277.slots[((0 : Int32)).toNatClampNeg]? = some (.int pi58) := Ha277.at hin277 rfl
        have pre278 : ∀ t, Steps p.tables e below (T187.setTop (mkF m 382 #[(vi pi1), (vi pi2), (vi pi3), (vi pi4), (vi pi5), (vi pi6), (vi 2), (vr pa8), (vr pa9), (vr pa10), (vr pa11), (vi 1), (vi 2), (vi 0), (vi pi15), (vr pa16), (vr pa17), (vr pa18), (vi yc), .unset, .unset] [(.int pi15), (.int pi58)])) t → Steps p.tables e below (T0.setTop (mkF m 312 #[(vi pi1), (vi pi2), (vi pi3), (vi pi4), (vi pi5), (vi pi6), (vi pi7), (vr pa8), (vr pa9), (vr pa10), (vr pa11), (vi pi12), (vi pi13), (vi pi14), (vi pi15), (vr pa16), (vr pa17), (vr pa18), .unset, .unset, .unset] [])) t := by
          intro t k
          refine pre273 t ?_
          show Steps p.tables e below (T187.setTop (mkF m 366 #[(vi pi1), (vi pi2), (vi pi3), (vi pi4), (vi pi5), (vi pi6), (vi 2), (vr pa8), (vr pa9), (vr pa10), (vr pa11), (vi 1), (vi 2), (vi 0), (vi pi15), (vr pa16), (vr pa17), (vr pa18), (vi yc), .unset, .unset] [])) _
          refine XS.iload X187.here hx rfl (hb hby at_366) rfl ?_
          refine XS.iconst X187.here hx rfl (hb hby at_368) ?_
          refine XS.icmpNo X187.here hx rfl (hb hby at_369) rfl (flt (by decide : ¬ ((2 : Int32) < (2 : Int32)))).1 ?_
          refine XS.aload X187.here hx rfl (hb hby at_372) rfl rfl ?_
          refine XS.iload X187.here hx rfl (hb hby at_374) rfl ?_
          refine X187.aaload hx (j := (1 : Int32)) (v := (.ref pa34)) Ar275.1 (State.isArrayOf_alike hZ.alike Ar275.2.1) rfl Ar275.2.2 hin275 hat275 (g := (mkF m 376 #[(vi pi1), (vi pi2), (vi pi3), (vi pi4), (vi pi5), (vi pi6), (vi 2), (vr pa8), (vr pa9), (vr pa10), (vr pa11), (vi 1), (vi 2), (vi 0), (vi pi15), (vr pa16), (vr pa17), (vr pa18), (vi yc), .unset, .unset] [(.int 1), (.ref pa11)])) rfl rfl (hb hby at_376) _ ?_
          show Steps p.tables e below (T187.setTop (mkF m 377 #[(vi pi1), (vi pi2), (vi pi3), (vi pi4), (vi pi5), (vi pi6), (vi 2), (vr pa8), (vr pa9), (vr pa10), (vr pa11), (vi 1), (vi 2), (vi 0), (vi pi15), (vr pa16), (vr pa17), (vr pa18), (vi yc), .unset, .unset] [(.ref pa34)])) _
          refine XS.iload X187.here hx rfl (hb hby at_377) rfl ?_
          refine X187.iaload hx (j := (0 : Int32)) (v := (.int pi58)) Ar277.1 (State.isArrayOf_alike hZ.alike Ar277.2.1) Ar277.2.2 hin277 hat277 (g := (mkF m 379 #[(vi pi1), (vi pi2), (vi pi3), (vi pi4), (vi pi5), (vi pi6), (vi 2), (vr pa8), (vr pa9), (vr pa10), (vr pa11), (vi 1), (vi 2), (vi 0), (vi pi15), (vr pa16), (vr pa17), (vr pa18), (vi yc), .unset, .unset] [(.int 0), (.ref pa34)])) rfl rfl (hb hby at_379) _ ?_
          refine XS.iload X187.here hx rfl (hb hby at_380) rfl ?_
          exact k
        obtain ⟨yd, hyd⟩ : ∃ z : Int32, z = (if pi58 = pi15 then (yc + (1 : Int32)) else yc) := ⟨_, rfl⟩
        have pre280 : ∀ t, Steps p.tables e below (T187.setTop (mkF m 391 #[(vi pi1), (vi pi2), (vi pi3), (vi pi4), (vi pi5), (vi pi6), (vi 2), (vr pa8), (vr pa9), (vr pa10), (vr pa11), (vi 1), (vi 2), (vi 0), (vi pi15), (vr pa16), (vr pa17), (vr pa18), (vi yd), .unset, .unset] [])) t → Steps p.tables e below (T0.setTop (mkF m 312 #[(vi pi1), (vi pi2), (vi pi3), (vi pi4), (vi pi5), (vi pi6), (vi pi7), (vr pa8), (vr pa9), (vr pa10), (vr pa11), (vi pi12), (vi pi13), (vi pi14), (vi pi15), (vr pa16), (vr pa17), (vr pa18), .unset, .unset, .unset] [])) t := by
          intro t k
          rw [hyd] at k
          refine pre278 t ?_
          show Steps p.tables e below (T187.setTop (mkF m 382 #[(vi pi1), (vi pi2), (vi pi3), (vi pi4), (vi pi5), (vi pi6), (vi 2), (vr pa8), (vr pa9), (vr pa10), (vr pa11), (vi 1), (vi 2), (vi 0), (vi pi15), (vr pa16), (vr pa17), (vr pa18), (vi yc), .unset, .unset] [(.int pi15), (.int pi58)])) _
          rcases Decidable.em (pi58 = pi15) with hm279 | hm279
          · first | simp only [if_pos hm279] at k | skip
            refine XS.icmpNo X187.here hx rfl (hb hby at_382) rfl (teq hm279).2 ?_
            refine XS.iload X187.here hx rfl (hb hby at_385) rfl ?_
            refine XS.iconst X187.here hx rfl (hb hby at_387) ?_
            refine XS.iadd X187.here hx rfl (hb hby at_388) rfl ?_
            refine XS.istore X187.here hx rfl (hb hby at_389) rfl (l' := #[(vi pi1), (vi pi2), (vi pi3), (vi pi4), (vi pi5), (vi pi6), (vi 2), (vr pa8), (vr pa9), (vr pa10), (vr pa11), (vi 1), (vi 2), (vi 0), (vi pi15), (vr pa16), (vr pa17), (vr pa18), .val (.int (yc + (1 : Int32))), .unset, .unset]) rfl ?_
            exact k
          · first | simp only [if_neg hm279] at k | skip
            refine XS.icmpYes X187.here hx rfl (pc0 := 382) (pc' := 391) rfl (hb hby at_382) rfl (feq hm279).2 (by decide) (by decide) ?_
            exact k
        have f281 : Fld Z T187.heap pa16 s3n "counts" "[[[I" (.ref pa35) := (f176.keep K187q (ninS P236 (ninS ne148 (ninS P240 (ninS P241 (ninS P242 (ninS P243 (ninS P244 nin0))))))))
        have f282 : Fld Z T187.heap pa16 s3n "memory" "I" (.int pi6) := (f177.keep K187q (ninS P236 (ninS ne148 (ninS P240 (ninS P241 (ninS P242 (ninS P243 (ninS P244 nin0))))))))
        have f283 : Fld Z T187.heap pa16 s3n "trains" "[I" (.ref pa37) := ((P16.keep K143q (ninS P236 (ninS P240 (ninS P241 (ninS P242 (ninS P243 (ninS P244 nin0))))))).keep K187q (ninS P236 (ninS ne148 (ninS P240 (ninS P241 (ninS P242 (ninS P243 (ninS P244 nin0))))))))
        have f284 : Arv Z T187.heap pa35 pk60 (.array (.array .int)) (2 : Int32) ([(.ref pa61), (.ref pa62)]) .null := (f181.keep K187q (ninS P476 (ninS ne163 (ninS P480 (ninS P481 (ninS P482 (ninS P483 (ninS P484 nin0))))))))
        have f285 : Arv Z T187.heap pa37 pk63 .int (2 : Int32) ([(.int 3), (.int 2)]) (.int 0) := ((P54.keep K143q (ninS (Ne.symm P485) (ninS P495 (ninS P496 (ninS P497 (ninS P498 (ninS P499 nin0))))))).keep K187q (ninS (Ne.symm P485) (ninS ne165 (ninS P495 (ninS P496 (ninS P497 (ninS P498 (ninS P499 nin0))))))))
        have f286 : Arv Z T187.heap pa62 pk68 (.array .int) (2 : Int32) ([(.ref pa69), (.ref pa70)]) .null := (f184.keep K187q (ninS (Ne.symm P487) (ninS ne167 (ninS P506 (ninS P507 (ninS P508 (ninS P509 (ninS P510 nin0))))))))
        have f288 : Exa Z T187.heap pa16 s3n := (f175.keep K187q)
        obtain ⟨cq287, kq287, q287a, q287b, q287c⟩ := isOf hZ rfl f288
        obtain ⟨_, _, ⟨T287, L287, k287, n287⟩, -, X287, ⟨Lc287, hQ287, l287, y287, z287⟩, st287⟩ := X187.virtualBack hx (y := M7) (z := M7) hown (mvT hZ (ow hw 131 rfl)) (mvT hZ (ow hw 132 rfl)) (notFace_of_selects (args := #[]) (mvT hZ (ow hw 134 rfl))) (mvT hZ (ow hw 134 rfl)) (mvT hZ (ow hw 133 rfl)) (by decide) (backOf (W := 0) (au17_8 l Z a0 hw [] wDEFAULTCAPACITY_EMPTY_ELEMENTDATA kwDEFAULTCAPACITY_EMPTY_ELEMENTDATA hS pa16 pi15 pa35 pi6 pa37 pk60 pa61 pa62 pk63 pk68 pa69 pa70 pk72 (inc pi58 (0 : Int32) (inc pi51 (0 : Int32) (0 : Int32))) (inc pi58 (1 : Int32) (inc pi51 (1 : Int32) (0 : Int32))) T187.heap n0 O188 f281 f282 f283 f284 f285 f286 p187_14 htr) hZ (ow hw 135 rfl) (ow hw 11 rfl) (by decide) (by decide)) q287a q287c (g := (mkF m 412 #[(vi pi1), (vi pi2), (vi pi3), (vi pi4), (vi pi5), (vi pi6), (vi 2), (vr pa8), (vr pa9), (vr pa10), (vr pa11), (vi 1), (vi 2), (vi 0), (vi pi15), (vr pa16), (vr pa17), (vr pa18), (vi yd), .val (.long ((pi6.toInt64) + ((2 : Int64) * (yd.toInt64)))), .second] [(.int pi15), (.int 0), (.int 1), (.ref pa16)])) rfl (by rw [hml]; rfl) (Steps.refl _) (argsL := [(.int 1), (.int 0), (.int pi15)]) (rest := []) (lenOf pd_4 rfl) rfl (by show 2 * 0 + _ ≤ _; exact Nat.le_of_eq rfl) (hb hby at_412) (fun _ _ => ⟨rfl, rfl, (by decide : 27 + 0 ≤ _), (by decide : 79 + 0 ≤ _)⟩)
        dsimp only [Pt.U, Pt.locs, Pt.cells, Pt.slots] at X287 l287 y287 z287 st287 hQ287
        subst l287 y287 z287
        obtain ⟨rfl, Nq287, K287q⟩ := hQ287
        have N287 := Fr.app N187 Nq287
        obtain ⟨fs, hr, hrun, hended, hW, hsame⟩ := X287.leave (v := some (.int 1)) (fun h => by rw [hret0] at h; cases h)
        refine ⟨_, _, pre280 _ ?_, hrun, hended, _, _, rfl, ?_, ⟨_, rfl⟩, hW, hsame.mono (by decide) (by decide)⟩
        · skip
          show Steps p.tables e below (T187.setTop (mkF m 391 #[(vi pi1), (vi pi2), (vi pi3), (vi pi4), (vi pi5), (vi pi6), (vi 2), (vr pa8), (vr pa9), (vr pa10), (vr pa11), (vi 1), (vi 2), (vi 0), (vi pi15), (vr pa16), (vr pa17), (vr pa18), (vi yd), .unset, .unset] [])) _
          refine XS.iload X187.here hx rfl (hb hby at_391) rfl ?_
          refine XS.i2l X187.here hx rfl (hb hby at_393) rfl ?_
          refine XS.iload X187.here hx rfl (hb hby at_394) rfl ?_
          refine XS.i2l X187.here hx rfl (hb hby at_396) rfl ?_
          refine XS.iload X187.here hx rfl (hb hby at_397) rfl ?_
          refine XS.i2l X187.here hx rfl (hb hby at_399) rfl ?_
          show Steps p.tables e below (T187.setTop (mkF m 400 #[(vi pi1), (vi pi2), (vi pi3), (vi pi4), (vi pi5), (vi pi6), (vi 2), (vr pa8), (vr pa9), (vr pa10), (vr pa11), (vi 1), (vi 2), (vi 0), (vi pi15), (vr pa16), (vr pa17), (vr pa18), (vi yd), .unset, .unset] [(.long (yd.toInt64)), (.long 2), (.long (pi6.toInt64))])) _
          refine XS.lmul X187.here hx rfl (hb hby at_400) rfl ?_
          refine XS.ladd X187.here hx rfl (hb hby at_401) rfl ?_
          refine XS.lstore X187.here hx rfl (hb hby at_402) rfl (l' := #[(vi pi1), (vi pi2), (vi pi3), (vi pi4), (vi pi5), (vi pi6), (vi 2), (vr pa8), (vr pa9), (vr pa10), (vr pa11), (vi 1), (vi 2), (vi 0), (vi pi15), (vr pa16), (vr pa17), (vr pa18), (vi yd), .val (.long ((pi6.toInt64) + ((2 : Int64) * (yd.toInt64)))), .second]) rfl ?_
          refine XS.aload X187.here hx rfl (hb hby at_404) rfl rfl ?_
          refine XS.iload X187.here hx rfl (hb hby at_406) rfl ?_
          refine XS.iload X187.here hx rfl (hb hby at_408) rfl ?_
          show Steps p.tables e below (T187.setTop (mkF m 410 #[(vi pi1), (vi pi2), (vi pi3), (vi pi4), (vi pi5), (vi pi6), (vi 2), (vr pa8), (vr pa9), (vr pa10), (vr pa11), (vi 1), (vi 2), (vi 0), (vi pi15), (vr pa16), (vr pa17), (vr pa18), (vi yd), .val (.long ((pi6.toInt64) + ((2 : Int64) * (yd.toInt64)))), .second] [(.int 0), (.int 1), (.ref pa16)])) _
          refine XS.iload X187.here hx rfl (hb hby at_410) rfl ?_
          refine st287.trans ?_
          refine XS.lload X287.here hx rfl (hb hby at_415) rfl ?_
          refine XS.lcmp X287.here hx rfl (hb hby at_417) rfl ?_
          refine XS.ifNo X287.here hx rfl (hb hby at_418) rfl ((if0 _ _).trans (teq ((lw_eq _ _).mpr (by rw [own_c2B P79 P84 htr, hyd, hyc]) : (lcmpW ((pi6.toInt64) + ((2 : Int64) * ((selB pi15 (inc pi58 (0 : Int32) (inc pi51 (0 : Int32) (0 : Int32))) (inc pi58 (1 : Int32) (inc pi51 (1 : Int32) (0 : Int32)))).toInt64))) ((pi6.toInt64) + ((2 : Int64) * (yd.toInt64)))) = (0 : Int32))).2) ?_
          refine XS.iconst X287.here hx rfl (hb hby at_421) ?_
          show Steps p.tables e below (T287.setTop (mkF m 422 #[(vi pi1), (vi pi2), (vi pi3), (vi pi4), (vi pi5), (vi pi6), (vi 2), (vr pa8), (vr pa9), (vr pa10), (vr pa11), (vi 1), (vi 2), (vi 0), (vi pi15), (vr pa16), (vr pa17), (vr pa18), (vi yd), .val (.long ((pi6.toInt64) + ((2 : Int64) * (yd.toInt64)))), .second] [(.int 1)])) _
          refine XS.goto X287.here hx rfl (pc0 := 422) (pc' := 426) rfl (hb hby at_422) (by decide) (by decide) ?_
          exact retN X287 hx (t := .boolean) hret0 (by simp) (hb hby at_426) hr
        · skip
          exact ⟨rfl, N287⟩
      · skip
        have pre289 : ∀ t, Steps p.tables e below (T187.setTop (mkF m 341 #[(vi pi1), (vi pi2), (vi pi3), (vi pi4), (vi pi5), (vi pi6), (vi 2), (vr pa8), (vr pa9), (vr pa10), (vr pa11), (vi 1), (vi 2), (vi 1), (vi pi15), (vr pa16), (vr pa17), (vr pa18), (vi 0), .unset, .unset] [])) t → Steps p.tables e below (T0.setTop (mkF m 312 #[(vi pi1), (vi pi2), (vi pi3), (vi pi4), (vi pi5), (vi pi6), (vi pi7), (vr pa8), (vr pa9), (vr pa10), (vr pa11), (vi pi12), (vi pi13), (vi pi14), (vi pi15), (vr pa16), (vr pa17), (vr pa18), .unset, .unset, .unset] [])) t := by
          intro t k
          refine pre264 t ?_
          rw [hk265]
          exact k
        have f290 : Arv Z T187.heap pa10 pk29 (.array .int) (2 : Int32) ([(.ref pa30), (.ref pa31)]) .null := ((P6.keep K143q (ninS P187 (ninS P191 (ninS P192 (ninS P193 (ninS P194 (ninS P195 nin0))))))).keep K187q (ninS P187 (ninS ne146 (ninS P191 (ninS P192 (ninS P193 (ninS P194 (ninS P195 nin0))))))))
        obtain ⟨cl291, Ar291, qc291, Sz291, Nn291, Ha291, Gg291⟩ := (id f290)
        have hin291 : ¬ ((1 : Int32) < 0 ∨ cl291.slots.size ≤ ((1 : Int32)).toNatClampNeg) := inb_of Sz291 ⟨by decide, by decide⟩
        have hat291 : cl291.slots[((1 : Int32)).toNatClampNeg]? = some (.ref pa31) := Ha291.at hin291 rfl
        have f292 : Arv Z T187.heap pa31 pk50 .int (2 : Int32) ([(.int pi51), (.int pi52)]) (.int 0) := ((P41.keep K143q (ninS P446 (ninS P450 (ninS P451 (ninS P452 (ninS P453 (ninS P454 nin0))))))).keep K187q (ninS P446 (ninS ne160 (ninS P450 (ninS P451 (ninS P452 (ninS P453 (ninS P454 nin0))))))))
        obtain ⟨cl293, Ar293, qc293, Sz293, Nn293, Ha293, Gg293⟩ := (id f292)
        have hin293 : ¬ ((1 : Int32) < 0 ∨ cl293.slots.size ≤ ((1 : Int32)).toNatClampNeg) := inb_of Sz293 ⟨by decide, by decide⟩
        have hat293 : cl293.slots[((1 : Int32)).toNatClampNeg]? = some (.int pi52) := Ha293.at hin293 rfl
        have pre294 : ∀ t, Steps p.tables e below (T187.setTop (mkF m 357 #[(vi pi1), (vi pi2), (vi pi3), (vi pi4), (vi pi5), (vi pi6), (vi 2), (vr pa8), (vr pa9), (vr pa10), (vr pa11), (vi 1), (vi 2), (vi 1), (vi pi15), (vr pa16), (vr pa17), (vr pa18), (vi 0), .unset, .unset] [(.int pi15), (.int pi52)])) t → Steps p.tables e below (T0.setTop (mkF m 312 #[(vi pi1), (vi pi2), (vi pi3), (vi pi4), (vi pi5), (vi pi6), (vi pi7), (vr pa8), (vr pa9), (vr pa10), (vr pa11), (vi pi12), (vi pi13), (vi pi14), (vi pi15), (vr pa16), (vr pa17), (vr pa18), .unset, .unset, .unset] [])) t := by
          intro t k
          refine pre289 t ?_
          show Steps p.tables e below (T187.setTop (mkF m 341 #[(vi pi1), (vi pi2), (vi pi3), (vi pi4), (vi pi5), (vi pi6), (vi 2), (vr pa8), (vr pa9), (vr pa10), (vr pa11), (vi 1), (vi 2), (vi 1), (vi pi15), (vr pa16), (vr pa17), (vr pa18), (vi 0), .unset, .unset] [])) _
          refine XS.iload X187.here hx rfl (hb hby at_341) rfl ?_
          refine XS.iconst X187.here hx rfl (hb hby at_343) ?_
          refine XS.icmpNo X187.here hx rfl (hb hby at_344) rfl (flt (by decide : ¬ ((2 : Int32) < (1 : Int32)))).1 ?_
          refine XS.aload X187.here hx rfl (hb hby at_347) rfl rfl ?_
          refine XS.iload X187.here hx rfl (hb hby at_349) rfl ?_
          refine X187.aaload hx (j := (1 : Int32)) (v := (.ref pa31)) Ar291.1 (State.isArrayOf_alike hZ.alike Ar291.2.1) rfl Ar291.2.2 hin291 hat291 (g := (mkF m 351 #[(vi pi1), (vi pi2), (vi pi3), (vi pi4), (vi pi5), (vi pi6), (vi 2), (vr pa8), (vr pa9), (vr pa10), (vr pa11), (vi 1), (vi 2), (vi 1), (vi pi15), (vr pa16), (vr pa17), (vr pa18), (vi 0), .unset, .unset] [(.int 1), (.ref pa10)])) rfl rfl (hb hby at_351) _ ?_
          show Steps p.tables e below (T187.setTop (mkF m 352 #[(vi pi1), (vi pi2), (vi pi3), (vi pi4), (vi pi5), (vi pi6), (vi 2), (vr pa8), (vr pa9), (vr pa10), (vr pa11), (vi 1), (vi 2), (vi 1), (vi pi15), (vr pa16), (vr pa17), (vr pa18), (vi 0), .unset, .unset] [(.ref pa31)])) _
          refine XS.iload X187.here hx rfl (hb hby at_352) rfl ?_
          refine X187.iaload hx (j := (1 : Int32)) (v := (.int pi52)) Ar293.1 (State.isArrayOf_alike hZ.alike Ar293.2.1) Ar293.2.2 hin293 hat293 (g := (mkF m 354 #[(vi pi1), (vi pi2), (vi pi3), (vi pi4), (vi pi5), (vi pi6), (vi 2), (vr pa8), (vr pa9), (vr pa10), (vr pa11), (vi 1), (vi 2), (vi 1), (vi pi15), (vr pa16), (vr pa17), (vr pa18), (vi 0), .unset, .unset] [(.int 1), (.ref pa31)])) rfl rfl (hb hby at_354) _ ?_
          refine XS.iload X187.here hx rfl (hb hby at_355) rfl ?_
          exact k
        obtain ⟨yc, hyc⟩ : ∃ z : Int32, z = (if pi52 = pi15 then (1 : Int32) else (0 : Int32)) := ⟨_, rfl⟩
        have pre296 : ∀ t, Steps p.tables e below (T187.setTop (mkF m 366 #[(vi pi1), (vi pi2), (vi pi3), (vi pi4), (vi pi5), (vi pi6), (vi 2), (vr pa8), (vr pa9), (vr pa10), (vr pa11), (vi 1), (vi 2), (vi 1), (vi pi15), (vr pa16), (vr pa17), (vr pa18), (vi yc), .unset, .unset] [])) t → Steps p.tables e below (T0.setTop (mkF m 312 #[(vi pi1), (vi pi2), (vi pi3), (vi pi4), (vi pi5), (vi pi6), (vi pi7), (vr pa8), (vr pa9), (vr pa10), (vr pa11), (vi pi12), (vi pi13), (vi pi14), (vi pi15), (vr pa16), (vr pa17), (vr pa18), .unset, .unset, .unset] [])) t := by
          intro t k
          rw [hyc] at k
          refine pre294 t ?_
          show Steps p.tables e below (T187.setTop (mkF m 357 #[(vi pi1), (vi pi2), (vi pi3), (vi pi4), (vi pi5), (vi pi6), (vi 2), (vr pa8), (vr pa9), (vr pa10), (vr pa11), (vi 1), (vi 2), (vi 1), (vi pi15), (vr pa16), (vr pa17), (vr pa18), (vi 0), .unset, .unset] [(.int pi15), (.int pi52)])) _
          rcases Decidable.em (pi52 = pi15) with hm295 | hm295
          · first | simp only [if_pos hm295] at k | skip
            refine XS.icmpNo X187.here hx rfl (hb hby at_357) rfl (teq hm295).2 ?_
            refine XS.iload X187.here hx rfl (hb hby at_360) rfl ?_
            refine XS.iconst X187.here hx rfl (hb hby at_362) ?_
            refine XS.iadd X187.here hx rfl (hb hby at_363) rfl ?_
            refine XS.istore X187.here hx rfl (hb hby at_364) rfl (l' := #[(vi pi1), (vi pi2), (vi pi3), (vi pi4), (vi pi5), (vi pi6), (vi 2), (vr pa8), (vr pa9), (vr pa10), (vr pa11), (vi 1), (vi 2), (vi 1), (vi pi15), (vr pa16), (vr pa17), (vr pa18), (vi 1), .unset, .unset]) rfl ?_
            exact k
          · first | simp only [if_neg hm295] at k | skip
            refine XS.icmpYes X187.here hx rfl (pc0 := 357) (pc' := 366) rfl (hb hby at_357) rfl (feq hm295).2 (by decide) (by decide) ?_
            exact k
        have f297 : Arv Z T187.heap pa11 pk32 (.array .int) (2 : Int32) ([(.ref pa33), (.ref pa34)]) .null := (f182.keep K187q (ninS P212 (ninS ne147 (ninS P216 (ninS P217 (ninS P218 (ninS P219 (ninS P220 nin0))))))))
        obtain ⟨cl298, Ar298, qc298, Sz298, Nn298, Ha298, Gg298⟩ := (id f297)
        have hin298 : ¬ ((1 : Int32) < 0 ∨ cl298.slots.size ≤ ((1 : Int32)).toNatClampNeg) := inb_of Sz298 ⟨by decide, by decide⟩
        have hat298 : cl298.slots[((1 : Int32)).toNatClampNeg]? = some (.ref pa34) := Ha298.at hin298 rfl
        have f299 : Arv Z T187.heap pa34 pk57 .int (2 : Int32) ([(.int pi58), (.int pi59)]) (.int 0) := (f186.keep K187q (ninS P467 (ninS ne162 (ninS P471 (ninS P472 (ninS P473 (ninS P474 (ninS P475 nin0))))))))
        obtain ⟨cl300, Ar300, qc300, Sz300, Nn300, Ha300, Gg300⟩ := (id f299)
        have hin300 : ¬ ((1 : Int32) < 0 ∨ cl300.slots.size ≤ ((1 : Int32)).toNatClampNeg) := inb_of Sz300 ⟨by decide, by decide⟩
        have hat300 : cl300.slots[((1 : Int32)).toNatClampNeg]? = some (.int pi59) := Ha300.at hin300 rfl
        have pre301 : ∀ t, Steps p.tables e below (T187.setTop (mkF m 382 #[(vi pi1), (vi pi2), (vi pi3), (vi pi4), (vi pi5), (vi pi6), (vi 2), (vr pa8), (vr pa9), (vr pa10), (vr pa11), (vi 1), (vi 2), (vi 1), (vi pi15), (vr pa16), (vr pa17), (vr pa18), (vi yc), .unset, .unset] [(.int pi15), (.int pi59)])) t → Steps p.tables e below (T0.setTop (mkF m 312 #[(vi pi1), (vi pi2), (vi pi3), (vi pi4), (vi pi5), (vi pi6), (vi pi7), (vr pa8), (vr pa9), (vr pa10), (vr pa11), (vi pi12), (vi pi13), (vi pi14), (vi pi15), (vr pa16), (vr pa17), (vr pa18), .unset, .unset, .unset] [])) t := by
          intro t k
          refine pre296 t ?_
          show Steps p.tables e below (T187.setTop (mkF m 366 #[(vi pi1), (vi pi2), (vi pi3), (vi pi4), (vi pi5), (vi pi6), (vi 2), (vr pa8), (vr pa9), (vr pa10), (vr pa11), (vi 1), (vi 2), (vi 1), (vi pi15), (vr pa16), (vr pa17), (vr pa18), (vi yc), .unset, .unset] [])) _
          refine XS.iload X187.here hx rfl (hb hby at_366) rfl ?_
          refine XS.iconst X187.here hx rfl (hb hby at_368) ?_
          refine XS.icmpNo X187.here hx rfl (hb hby at_369) rfl (flt (by decide : ¬ ((2 : Int32) < (2 : Int32)))).1 ?_
          refine XS.aload X187.here hx rfl (hb hby at_372) rfl rfl ?_
          refine XS.iload X187.here hx rfl (hb hby at_374) rfl ?_
          refine X187.aaload hx (j := (1 : Int32)) (v := (.ref pa34)) Ar298.1 (State.isArrayOf_alike hZ.alike Ar298.2.1) rfl Ar298.2.2 hin298 hat298 (g := (mkF m 376 #[(vi pi1), (vi pi2), (vi pi3), (vi pi4), (vi pi5), (vi pi6), (vi 2), (vr pa8), (vr pa9), (vr pa10), (vr pa11), (vi 1), (vi 2), (vi 1), (vi pi15), (vr pa16), (vr pa17), (vr pa18), (vi yc), .unset, .unset] [(.int 1), (.ref pa11)])) rfl rfl (hb hby at_376) _ ?_
          show Steps p.tables e below (T187.setTop (mkF m 377 #[(vi pi1), (vi pi2), (vi pi3), (vi pi4), (vi pi5), (vi pi6), (vi 2), (vr pa8), (vr pa9), (vr pa10), (vr pa11), (vi 1), (vi 2), (vi 1), (vi pi15), (vr pa16), (vr pa17), (vr pa18), (vi yc), .unset, .unset] [(.ref pa34)])) _
          refine XS.iload X187.here hx rfl (hb hby at_377) rfl ?_
          refine X187.iaload hx (j := (1 : Int32)) (v := (.int pi59)) Ar300.1 (State.isArrayOf_alike hZ.alike Ar300.2.1) Ar300.2.2 hin300 hat300 (g := (mkF m 379 #[(vi pi1), (vi pi2), (vi pi3), (vi pi4), (vi pi5), (vi pi6), (vi 2), (vr pa8), (vr pa9), (vr pa10), (vr pa11), (vi 1), (vi 2), (vi 1), (vi pi15), (vr pa16), (vr pa17), (vr pa18), (vi yc), .unset, .unset] [(.int 1), (.ref pa34)])) rfl rfl (hb hby at_379) _ ?_
          refine XS.iload X187.here hx rfl (hb hby at_380) rfl ?_
          exact k
        obtain ⟨yd, hyd⟩ : ∃ z : Int32, z = (if pi59 = pi15 then (yc + (1 : Int32)) else yc) := ⟨_, rfl⟩
        have pre303 : ∀ t, Steps p.tables e below (T187.setTop (mkF m 391 #[(vi pi1), (vi pi2), (vi pi3), (vi pi4), (vi pi5), (vi pi6), (vi 2), (vr pa8), (vr pa9), (vr pa10), (vr pa11), (vi 1), (vi 2), (vi 1), (vi pi15), (vr pa16), (vr pa17), (vr pa18), (vi yd), .unset, .unset] [])) t → Steps p.tables e below (T0.setTop (mkF m 312 #[(vi pi1), (vi pi2), (vi pi3), (vi pi4), (vi pi5), (vi pi6), (vi pi7), (vr pa8), (vr pa9), (vr pa10), (vr pa11), (vi pi12), (vi pi13), (vi pi14), (vi pi15), (vr pa16), (vr pa17), (vr pa18), .unset, .unset, .unset] [])) t := by
          intro t k
          rw [hyd] at k
          refine pre301 t ?_
          show Steps p.tables e below (T187.setTop (mkF m 382 #[(vi pi1), (vi pi2), (vi pi3), (vi pi4), (vi pi5), (vi pi6), (vi 2), (vr pa8), (vr pa9), (vr pa10), (vr pa11), (vi 1), (vi 2), (vi 1), (vi pi15), (vr pa16), (vr pa17), (vr pa18), (vi yc), .unset, .unset] [(.int pi15), (.int pi59)])) _
          rcases Decidable.em (pi59 = pi15) with hm302 | hm302
          · first | simp only [if_pos hm302] at k | skip
            refine XS.icmpNo X187.here hx rfl (hb hby at_382) rfl (teq hm302).2 ?_
            refine XS.iload X187.here hx rfl (hb hby at_385) rfl ?_
            refine XS.iconst X187.here hx rfl (hb hby at_387) ?_
            refine XS.iadd X187.here hx rfl (hb hby at_388) rfl ?_
            refine XS.istore X187.here hx rfl (hb hby at_389) rfl (l' := #[(vi pi1), (vi pi2), (vi pi3), (vi pi4), (vi pi5), (vi pi6), (vi 2), (vr pa8), (vr pa9), (vr pa10), (vr pa11), (vi 1), (vi 2), (vi 1), (vi pi15), (vr pa16), (vr pa17), (vr pa18), .val (.int (yc + (1 : Int32))), .unset, .unset]) rfl ?_
            exact k
          · first | simp only [if_neg hm302] at k | skip
            refine XS.icmpYes X187.here hx rfl (pc0 := 382) (pc' := 391) rfl (hb hby at_382) rfl (feq hm302).2 (by decide) (by decide) ?_
            exact k
        have f304 : Fld Z T187.heap pa16 s3n "counts" "[[[I" (.ref pa35) := (f176.keep K187q (ninS P236 (ninS ne148 (ninS P240 (ninS P241 (ninS P242 (ninS P243 (ninS P244 nin0))))))))
        have f305 : Fld Z T187.heap pa16 s3n "memory" "I" (.int pi6) := (f177.keep K187q (ninS P236 (ninS ne148 (ninS P240 (ninS P241 (ninS P242 (ninS P243 (ninS P244 nin0))))))))
        have f306 : Fld Z T187.heap pa16 s3n "trains" "[I" (.ref pa37) := ((P16.keep K143q (ninS P236 (ninS P240 (ninS P241 (ninS P242 (ninS P243 (ninS P244 nin0))))))).keep K187q (ninS P236 (ninS ne148 (ninS P240 (ninS P241 (ninS P242 (ninS P243 (ninS P244 nin0))))))))
        have f307 : Arv Z T187.heap pa35 pk60 (.array (.array .int)) (2 : Int32) ([(.ref pa61), (.ref pa62)]) .null := (f181.keep K187q (ninS P476 (ninS ne163 (ninS P480 (ninS P481 (ninS P482 (ninS P483 (ninS P484 nin0))))))))
        have f308 : Arv Z T187.heap pa37 pk63 .int (2 : Int32) ([(.int 3), (.int 2)]) (.int 0) := ((P54.keep K143q (ninS (Ne.symm P485) (ninS P495 (ninS P496 (ninS P497 (ninS P498 (ninS P499 nin0))))))).keep K187q (ninS (Ne.symm P485) (ninS ne165 (ninS P495 (ninS P496 (ninS P497 (ninS P498 (ninS P499 nin0))))))))
        have f309 : Arv Z T187.heap pa62 pk68 (.array .int) (2 : Int32) ([(.ref pa69), (.ref pa70)]) .null := (f184.keep K187q (ninS (Ne.symm P487) (ninS ne167 (ninS P506 (ninS P507 (ninS P508 (ninS P509 (ninS P510 nin0))))))))
        have f311 : Exa Z T187.heap pa16 s3n := (f175.keep K187q)
        obtain ⟨cq310, kq310, q310a, q310b, q310c⟩ := isOf hZ rfl f311
        obtain ⟨_, _, ⟨T310, L310, k310, n310⟩, -, X310, ⟨Lc310, hQ310, l310, y310, z310⟩, st310⟩ := X187.virtualBack hx (y := M7) (z := M7) hown (mvT hZ (ow hw 131 rfl)) (mvT hZ (ow hw 132 rfl)) (notFace_of_selects (args := #[]) (mvT hZ (ow hw 134 rfl))) (mvT hZ (ow hw 134 rfl)) (mvT hZ (ow hw 133 rfl)) (by decide) (backOf (W := 0) (au17_9 l Z a0 hw [] wDEFAULTCAPACITY_EMPTY_ELEMENTDATA kwDEFAULTCAPACITY_EMPTY_ELEMENTDATA hS pa16 pi15 pa35 pi6 pa37 pk60 pa61 pa62 pk63 pk68 pa69 pa70 pk72 (inc pi59 (0 : Int32) (inc pi52 (0 : Int32) (0 : Int32))) (inc pi59 (1 : Int32) (inc pi52 (1 : Int32) (0 : Int32))) T187.heap n0 O188 f304 f305 f306 f307 f308 f309 p187_16 htr) hZ (ow hw 135 rfl) (ow hw 11 rfl) (by decide) (by decide)) q310a q310c (g := (mkF m 412 #[(vi pi1), (vi pi2), (vi pi3), (vi pi4), (vi pi5), (vi pi6), (vi 2), (vr pa8), (vr pa9), (vr pa10), (vr pa11), (vi 1), (vi 2), (vi 1), (vi pi15), (vr pa16), (vr pa17), (vr pa18), (vi yd), .val (.long ((pi6.toInt64) + ((2 : Int64) * (yd.toInt64)))), .second] [(.int pi15), (.int 1), (.int 1), (.ref pa16)])) rfl (by rw [hml]; rfl) (Steps.refl _) (argsL := [(.int 1), (.int 1), (.int pi15)]) (rest := []) (lenOf pd_4 rfl) rfl (by show 2 * 0 + _ ≤ _; exact Nat.le_of_eq rfl) (hb hby at_412) (fun _ _ => ⟨rfl, rfl, (by decide : 27 + 0 ≤ _), (by decide : 79 + 0 ≤ _)⟩)
        dsimp only [Pt.U, Pt.locs, Pt.cells, Pt.slots] at X310 l310 y310 z310 st310 hQ310
        subst l310 y310 z310
        obtain ⟨rfl, Nq310, K310q⟩ := hQ310
        have N310 := Fr.app N187 Nq310
        obtain ⟨fs, hr, hrun, hended, hW, hsame⟩ := X310.leave (v := some (.int 1)) (fun h => by rw [hret0] at h; cases h)
        refine ⟨_, _, pre303 _ ?_, hrun, hended, _, _, rfl, ?_, ⟨_, rfl⟩, hW, hsame.mono (by decide) (by decide)⟩
        · skip
          show Steps p.tables e below (T187.setTop (mkF m 391 #[(vi pi1), (vi pi2), (vi pi3), (vi pi4), (vi pi5), (vi pi6), (vi 2), (vr pa8), (vr pa9), (vr pa10), (vr pa11), (vi 1), (vi 2), (vi 1), (vi pi15), (vr pa16), (vr pa17), (vr pa18), (vi yd), .unset, .unset] [])) _
          refine XS.iload X187.here hx rfl (hb hby at_391) rfl ?_
          refine XS.i2l X187.here hx rfl (hb hby at_393) rfl ?_
          refine XS.iload X187.here hx rfl (hb hby at_394) rfl ?_
          refine XS.i2l X187.here hx rfl (hb hby at_396) rfl ?_
          refine XS.iload X187.here hx rfl (hb hby at_397) rfl ?_
          refine XS.i2l X187.here hx rfl (hb hby at_399) rfl ?_
          show Steps p.tables e below (T187.setTop (mkF m 400 #[(vi pi1), (vi pi2), (vi pi3), (vi pi4), (vi pi5), (vi pi6), (vi 2), (vr pa8), (vr pa9), (vr pa10), (vr pa11), (vi 1), (vi 2), (vi 1), (vi pi15), (vr pa16), (vr pa17), (vr pa18), (vi yd), .unset, .unset] [(.long (yd.toInt64)), (.long 2), (.long (pi6.toInt64))])) _
          refine XS.lmul X187.here hx rfl (hb hby at_400) rfl ?_
          refine XS.ladd X187.here hx rfl (hb hby at_401) rfl ?_
          refine XS.lstore X187.here hx rfl (hb hby at_402) rfl (l' := #[(vi pi1), (vi pi2), (vi pi3), (vi pi4), (vi pi5), (vi pi6), (vi 2), (vr pa8), (vr pa9), (vr pa10), (vr pa11), (vi 1), (vi 2), (vi 1), (vi pi15), (vr pa16), (vr pa17), (vr pa18), (vi yd), .val (.long ((pi6.toInt64) + ((2 : Int64) * (yd.toInt64)))), .second]) rfl ?_
          refine XS.aload X187.here hx rfl (hb hby at_404) rfl rfl ?_
          refine XS.iload X187.here hx rfl (hb hby at_406) rfl ?_
          refine XS.iload X187.here hx rfl (hb hby at_408) rfl ?_
          show Steps p.tables e below (T187.setTop (mkF m 410 #[(vi pi1), (vi pi2), (vi pi3), (vi pi4), (vi pi5), (vi pi6), (vi 2), (vr pa8), (vr pa9), (vr pa10), (vr pa11), (vi 1), (vi 2), (vi 1), (vi pi15), (vr pa16), (vr pa17), (vr pa18), (vi yd), .val (.long ((pi6.toInt64) + ((2 : Int64) * (yd.toInt64)))), .second] [(.int 1), (.int 1), (.ref pa16)])) _
          refine XS.iload X187.here hx rfl (hb hby at_410) rfl ?_
          refine st310.trans ?_
          refine XS.lload X310.here hx rfl (hb hby at_415) rfl ?_
          refine XS.lcmp X310.here hx rfl (hb hby at_417) rfl ?_
          refine XS.ifNo X310.here hx rfl (hb hby at_418) rfl ((if0 _ _).trans (teq ((lw_eq _ _).mpr (by rw [own_c2B P80 P85 htr, hyd, hyc]) : (lcmpW ((pi6.toInt64) + ((2 : Int64) * ((selB pi15 (inc pi59 (0 : Int32) (inc pi52 (0 : Int32) (0 : Int32))) (inc pi59 (1 : Int32) (inc pi52 (1 : Int32) (0 : Int32)))).toInt64))) ((pi6.toInt64) + ((2 : Int64) * (yd.toInt64)))) = (0 : Int32))).2) ?_
          refine XS.iconst X310.here hx rfl (hb hby at_421) ?_
          show Steps p.tables e below (T310.setTop (mkF m 422 #[(vi pi1), (vi pi2), (vi pi3), (vi pi4), (vi pi5), (vi pi6), (vi 2), (vr pa8), (vr pa9), (vr pa10), (vr pa11), (vi 1), (vi 2), (vi 1), (vi pi15), (vr pa16), (vr pa17), (vr pa18), (vi yd), .val (.long ((pi6.toInt64) + ((2 : Int64) * (yd.toInt64)))), .second] [(.int 1)])) _
          refine XS.goto X310.here hx rfl (pc0 := 422) (pc' := 426) rfl (hb hby at_422) (by decide) (by decide) ?_
          exact retN X310 hx (t := .boolean) hret0 (by simp) (hb hby at_426) hr
        · skip
          exact ⟨rfl, N310⟩
theorem tl_rm0_o {p : Program} {l : Launch} {e : Env} {s : State} {m : MethodId} {below : List Frame} {meth : Method} {c : Code} {T0 : State} {locs : List Loc} {Z : State} {a0 : Array Value} {h0 : Heap} {n0 : Nat} {margs : Array Value} (hw : ∀ d ∈ tables_1, d.before a0 Z = true) (wDEFAULTCAPACITY_EMPTY_ELEMENTDATA : Addr) (kwDEFAULTCAPACITY_EMPTY_ELEMENTDATA : ClassId) (hS : SS Z wDEFAULTCAPACITY_EMPTY_ELEMENTDATA kwDEFAULTCAPACITY_EMPTY_ELEMENTDATA) (pi1 : Int32) (pi2 : Int32) (pi3 : Int32) (pi4 : Int32) (pi5 : Int32) (pi6 : Int32) (pi7 : Int32) (pa8 : Addr) (pa9 : Addr) (pa10 : Addr) (pa11 : Addr) (pk12 : ClassId) (pa13 : Addr) (pa14 : Addr) (pa15 : Addr) (pa16 : Addr) (pa17 : Addr) (pa18 : Addr) (pk19 : ClassId) (pa20 : Addr) (pa21 : Addr) (pk22 : ClassId) (pa23 : Addr) (pa24 : Addr) (pk25 : ClassId) (pa26 : Addr) (pa27 : Addr) (pk28 : ClassId) (pk29 : ClassId) (pk30 : ClassId) (pk31 : ClassId) (pk32 : ClassId) (pk33 : ClassId) (pk34 : ClassId) (pk35 : ClassId) (pk36 : ClassId) (pi37 : Int32) (pi38 : Int32) (pi39 : Int32) (pk40 : ClassId) (pi41 : Int32) (pi42 : Int32) (pk43 : ClassId) (pi44 : Int32) (pi45 : Int32) (pi46 : Int32) (pk47 : ClassId) (pi48 : Int32) (pi49 : Int32)
    (X0 : Stand p l e room_1 s m margs below meth c T0 locs 12 34) (hx : p.tables.exec = Jvm.exec) (hZ : Z.Warmed39 s.vm) (hby : c.code = code) (hml : c.maxLocals = 21) (hown : s.vm.findClass "com/example/loopline/loopline/dispatch/PheromoneWeightPinLaw" = some m.cls) (hnm : meth.name = "law") (hret0 : meth.sig.returnType = some .boolean) (hlk0 : meth.locks = false) (e0 : T0.heap = h0) (N0 : Fr n0 locs) (O0 : Old Z n0 h0) (P0 : Arv Z h0 pa8 pk12 (.array .int) (6 : Int32) ([(.ref pa13), (.ref pa14), (.ref pa15), (.ref pa16), (.ref pa17), (.ref pa18)]) .null) (P3 : Arv Z h0 pa9 pk19 (.array .int) (2 : Int32) ([(.ref pa20), (.ref pa21)]) .null) (P6 : Arv Z h0 pa10 pk22 (.array .int) (2 : Int32) ([(.ref pa23), (.ref pa24)]) .null) (P9 : Arv Z h0 pa11 pk25 (.array .int) (2 : Int32) ([(.ref pa26), (.ref pa27)]) .null) (P12 : Arv Z h0 pa13 pk28 .int (3 : Int32) ([(.int 0), (.int 1), (.int 2)]) (.int 0)) (P14 : Arv Z h0 pa14 pk29 .int (3 : Int32) ([(.int 0), (.int 2), (.int 1)]) (.int 0)) (P16 : Arv Z h0 pa15 pk30 .int (3 : Int32) ([(.int 1), (.int 0), (.int 2)]) (.int 0)) (P18 : Arv Z h0 pa16 pk31 .int (3 : Int32) ([(.int 1), (.int 2), (.int 0)]) (.int 0)) (P20 : Arv Z h0 pa17 pk32 .int (3 : Int32) ([(.int 2), (.int 0), (.int 1)]) (.int 0)) (P22 : Arv Z h0 pa18 pk33 .int (3 : Int32) ([(.int 2), (.int 1), (.int 0)]) (.int 0)) (P24 : Arv Z h0 pa20 pk34 .int (2 : Int32) ([(.int 0), (.int 1)]) (.int 0)) (P26 : Arv Z h0 pa21 pk35 .int (2 : Int32) ([(.int 1), (.int 0)]) (.int 0)) (P28 : Arv Z h0 pa23 pk36 .int (3 : Int32) ([(.int pi37), (.int pi38), (.int pi39)]) (.int 0)) (P30 : Arv Z h0 pa24 pk40 .int (2 : Int32) ([(.int pi41), (.int pi42)]) (.int 0)) (P32 : Arv Z h0 pa26 pk43 .int (3 : Int32) ([(.int pi44), (.int pi45), (.int pi46)]) (.int 0)) (P34 : Arv Z h0 pa27 pk47 .int (2 : Int32) ([(.int pi48), (.int pi49)]) (.int 0)) (P37 : ¬ pi6 < (2 : Int32)) (P38 : ¬ pi6 < (1 : Int32)) (P39 : inT pi7) (P40 : inT pi37) (P41 : inT pi38) (P42 : inT pi39) (P43 : inB pi41) (P44 : inB pi42) (P45 : inT pi44) (P46 : inT pi45) (P47 : inT pi46) (P48 : inB pi48) (P49 : inB pi49) :
    ∃ s₂ o, Steps p.tables e below (T0.setTop (mkF m 226 #[(vi pi1), (vi pi2), (vi pi3), (vi pi4), (vi pi5), (vi pi6), (vi pi7), (vr pa8), (vr pa9), (vr pa10), (vr pa11), .unset, .unset, .unset, .unset, .unset, .unset, .unset, .unset, .unset, .unset] [])) s₂ ∧ s₂.status = .running ∧ Ended s₂ below o ∧ ∃ v L, o = .returned v ∧ (v = some (.int 1) ∧ Fr n0 L) ∧ FrameEnd s o s₂ L room_1.cells room_1.slots := by
  have pre0 : ∀ t, Steps p.tables e below (T0.setTop (mkF m 226 #[(vi pi1), (vi pi2), (vi pi3), (vi pi4), (vi pi5), (vi pi6), (vi pi7), (vr pa8), (vr pa9), (vr pa10), (vr pa11), .unset, .unset, .unset, .unset, .unset, .unset, .unset, .unset, .unset, .unset] [])) t → Steps p.tables e below (T0.setTop (mkF m 226 #[(vi pi1), (vi pi2), (vi pi3), (vi pi4), (vi pi5), (vi pi6), (vi pi7), (vr pa8), (vr pa9), (vr pa10), (vr pa11), .unset, .unset, .unset, .unset, .unset, .unset, .unset, .unset, .unset, .unset] [])) t := fun t k => k
  have hS0 := hS
  obtain ⟨S_wDEFAULTCAPACITY_EMPTY_ELEMENTDATA, E_wDEFAULTCAPACITY_EMPTY_ELEMENTDATA, V_wDEFAULTCAPACITY_EMPTY_ELEMENTDATA⟩ := hS0
  obtain ⟨yp, hyp⟩ : ∃ z : Int32, z = (pi5 &&& (1 : Int32)) := ⟨_, rfl⟩
  have pre1 : ∀ t, Steps p.tables e below (T0.setTop (mkF m 230 #[(vi pi1), (vi pi2), (vi pi3), (vi pi4), (vi pi5), (vi pi6), (vi pi7), (vr pa8), (vr pa9), (vr pa10), (vr pa11), .unset, .unset, .unset, .unset, .unset, .unset, .unset, .unset, .unset, .unset] [(.int yp)])) t → Steps p.tables e below (T0.setTop (mkF m 226 #[(vi pi1), (vi pi2), (vi pi3), (vi pi4), (vi pi5), (vi pi6), (vi pi7), (vr pa8), (vr pa9), (vr pa10), (vr pa11), .unset, .unset, .unset, .unset, .unset, .unset, .unset, .unset, .unset, .unset] [])) t := by
    intro t k
    rw [hyp] at k
    refine pre0 t ?_
    show Steps p.tables e below (T0.setTop (mkF m 226 #[(vi pi1), (vi pi2), (vi pi3), (vi pi4), (vi pi5), (vi pi6), (vi pi7), (vr pa8), (vr pa9), (vr pa10), (vr pa11), .unset, .unset, .unset, .unset, .unset, .unset, .unset, .unset, .unset, .unset] [])) _
    refine XS.iload X0.here hx rfl (hb hby at_226) rfl ?_
    refine XS.iconst X0.here hx rfl (hb hby at_228) ?_
    refine XS.iand X0.here hx rfl (hb hby at_229) rfl ?_
    exact k
  have hp0 : inB yp := by rw [hyp]; exact and_one pi5
  have pre2 : ∀ t, Steps p.tables e below (T0.setTop (mkF m 234 #[(vi pi1), (vi pi2), (vi pi3), (vi pi4), (vi pi5), (vi pi6), (vi pi7), (vr pa8), (vr pa9), (vr pa10), (vr pa11), (vi yp), .unset, .unset, .unset, .unset, .unset, .unset, .unset, .unset, .unset] [(.int yp)])) t → Steps p.tables e below (T0.setTop (mkF m 226 #[(vi pi1), (vi pi2), (vi pi3), (vi pi4), (vi pi5), (vi pi6), (vi pi7), (vr pa8), (vr pa9), (vr pa10), (vr pa11), .unset, .unset, .unset, .unset, .unset, .unset, .unset, .unset, .unset, .unset] [])) t := by
    intro t k
    refine pre1 t ?_
    show Steps p.tables e below (T0.setTop (mkF m 230 #[(vi pi1), (vi pi2), (vi pi3), (vi pi4), (vi pi5), (vi pi6), (vi pi7), (vr pa8), (vr pa9), (vr pa10), (vr pa11), .unset, .unset, .unset, .unset, .unset, .unset, .unset, .unset, .unset, .unset] [(.int yp)])) _
    refine XS.istore X0.here hx rfl (hb hby at_230) rfl (l' := #[(vi pi1), (vi pi2), (vi pi3), (vi pi4), (vi pi5), (vi pi6), (vi pi7), (vr pa8), (vr pa9), (vr pa10), (vr pa11), (vi yp), .unset, .unset, .unset, .unset, .unset, .unset, .unset, .unset, .unset]) rfl ?_
    refine XS.iload X0.here hx rfl (hb hby at_232) rfl ?_
    exact k
  obtain ⟨yn, hyn⟩ : ∃ z : Int32, z = (if yp = (0 : Int32) then (3 : Int32) else (2 : Int32)) := ⟨_, rfl⟩
  have pre4 : ∀ t, Steps p.tables e below (T0.setTop (mkF m 242 #[(vi pi1), (vi pi2), (vi pi3), (vi pi4), (vi pi5), (vi pi6), (vi pi7), (vr pa8), (vr pa9), (vr pa10), (vr pa11), (vi yp), .unset, .unset, .unset, .unset, .unset, .unset, .unset, .unset, .unset] [(.int yn)])) t → Steps p.tables e below (T0.setTop (mkF m 226 #[(vi pi1), (vi pi2), (vi pi3), (vi pi4), (vi pi5), (vi pi6), (vi pi7), (vr pa8), (vr pa9), (vr pa10), (vr pa11), .unset, .unset, .unset, .unset, .unset, .unset, .unset, .unset, .unset, .unset] [])) t := by
    intro t k
    rw [hyn] at k
    refine pre2 t ?_
    show Steps p.tables e below (T0.setTop (mkF m 234 #[(vi pi1), (vi pi2), (vi pi3), (vi pi4), (vi pi5), (vi pi6), (vi pi7), (vr pa8), (vr pa9), (vr pa10), (vr pa11), (vi yp), .unset, .unset, .unset, .unset, .unset, .unset, .unset, .unset, .unset] [(.int yp)])) _
    rcases Decidable.em (yp = (0 : Int32)) with hm3 | hm3
    · first | simp only [if_pos hm3] at k | skip
      refine XS.ifNo X0.here hx rfl (hb hby at_234) rfl ((if0 _ _).trans (teq hm3).2) ?_
      refine XS.iconst X0.here hx rfl (hb hby at_237) ?_
      refine XS.goto X0.here hx rfl (pc0 := 238) (pc' := 242) rfl (hb hby at_238) (by decide) (by decide) ?_
      exact k
    · first | simp only [if_neg hm3] at k | skip
      refine XS.ifYes X0.here hx rfl (pc0 := 234) (pc' := 241) rfl (hb hby at_234) rfl ((if0 _ _).trans (feq hm3).2) (by decide) (by decide) ?_
      refine XS.iconst X0.here hx rfl (hb hby at_241) ?_
      exact k
  obtain ⟨yo, hyo⟩ : ∃ z : Int32, z = ((((pi5.toUInt32 >>> ((1 : Int32) &&& 31).toUInt32).toInt32) &&& (3 : Int32)) % yn) := ⟨_, rfl⟩
  have pre5 : ∀ t, Steps p.tables e below (T0.setTop (mkF m 253 #[(vi pi1), (vi pi2), (vi pi3), (vi pi4), (vi pi5), (vi pi6), (vi pi7), (vr pa8), (vr pa9), (vr pa10), (vr pa11), (vi yp), (vi yn), .unset, .unset, .unset, .unset, .unset, .unset, .unset, .unset] [(.int yo)])) t → Steps p.tables e below (T0.setTop (mkF m 226 #[(vi pi1), (vi pi2), (vi pi3), (vi pi4), (vi pi5), (vi pi6), (vi pi7), (vr pa8), (vr pa9), (vr pa10), (vr pa11), .unset, .unset, .unset, .unset, .unset, .unset, .unset, .unset, .unset, .unset] [])) t := by
    intro t k
    rw [hyo] at k
    refine pre4 t ?_
    show Steps p.tables e below (T0.setTop (mkF m 242 #[(vi pi1), (vi pi2), (vi pi3), (vi pi4), (vi pi5), (vi pi6), (vi pi7), (vr pa8), (vr pa9), (vr pa10), (vr pa11), (vi yp), .unset, .unset, .unset, .unset, .unset, .unset, .unset, .unset, .unset] [(.int yn)])) _
    refine XS.istore X0.here hx rfl (hb hby at_242) rfl (l' := #[(vi pi1), (vi pi2), (vi pi3), (vi pi4), (vi pi5), (vi pi6), (vi pi7), (vr pa8), (vr pa9), (vr pa10), (vr pa11), (vi yp), (vi yn), .unset, .unset, .unset, .unset, .unset, .unset, .unset, .unset]) rfl ?_
    refine XS.iload X0.here hx rfl (hb hby at_244) rfl ?_
    refine XS.iconst X0.here hx rfl (hb hby at_246) ?_
    refine XS.iushr X0.here hx rfl (hb hby at_247) rfl ?_
    refine XS.iconst X0.here hx rfl (hb hby at_248) ?_
    refine XS.iand X0.here hx rfl (hb hby at_249) rfl ?_
    show Steps p.tables e below (T0.setTop (mkF m 250 #[(vi pi1), (vi pi2), (vi pi3), (vi pi4), (vi pi5), (vi pi6), (vi pi7), (vr pa8), (vr pa9), (vr pa10), (vr pa11), (vi yp), (vi yn), .unset, .unset, .unset, .unset, .unset, .unset, .unset, .unset] [(.int (((pi5.toUInt32 >>> ((1 : Int32) &&& 31).toUInt32).toInt32) &&& (3 : Int32)))])) _
    refine XS.iload X0.here hx rfl (hb hby at_250) rfl ?_
    refine iremM X0 hx rfl (hb hby at_252) rfl (own_nz hyn) ?_
    exact k
  have ho0 : own_ps yn yo := by rw [hyo]; exact own_pos _ yn
  obtain ⟨yr, hyr⟩ : ∃ z : Int32, z = ((((pi5.toUInt32 >>> ((3 : Int32) &&& 31).toUInt32).toInt32) &&& (3 : Int32)) % yn) := ⟨_, rfl⟩
  have pre6 : ∀ t, Steps p.tables e below (T0.setTop (mkF m 264 #[(vi pi1), (vi pi2), (vi pi3), (vi pi4), (vi pi5), (vi pi6), (vi pi7), (vr pa8), (vr pa9), (vr pa10), (vr pa11), (vi yp), (vi yn), (vi yo), .unset, .unset, .unset, .unset, .unset, .unset, .unset] [(.int yr)])) t → Steps p.tables e below (T0.setTop (mkF m 226 #[(vi pi1), (vi pi2), (vi pi3), (vi pi4), (vi pi5), (vi pi6), (vi pi7), (vr pa8), (vr pa9), (vr pa10), (vr pa11), .unset, .unset, .unset, .unset, .unset, .unset, .unset, .unset, .unset, .unset] [])) t := by
    intro t k
    rw [hyr] at k
    refine pre5 t ?_
    show Steps p.tables e below (T0.setTop (mkF m 253 #[(vi pi1), (vi pi2), (vi pi3), (vi pi4), (vi pi5), (vi pi6), (vi pi7), (vr pa8), (vr pa9), (vr pa10), (vr pa11), (vi yp), (vi yn), .unset, .unset, .unset, .unset, .unset, .unset, .unset, .unset] [(.int yo)])) _
    refine XS.istore X0.here hx rfl (hb hby at_253) rfl (l' := #[(vi pi1), (vi pi2), (vi pi3), (vi pi4), (vi pi5), (vi pi6), (vi pi7), (vr pa8), (vr pa9), (vr pa10), (vr pa11), (vi yp), (vi yn), (vi yo), .unset, .unset, .unset, .unset, .unset, .unset, .unset]) rfl ?_
    refine XS.iload X0.here hx rfl (hb hby at_255) rfl ?_
    refine XS.iconst X0.here hx rfl (hb hby at_257) ?_
    refine XS.iushr X0.here hx rfl (hb hby at_258) rfl ?_
    refine XS.iconst X0.here hx rfl (hb hby at_259) ?_
    refine XS.iand X0.here hx rfl (hb hby at_260) rfl ?_
    show Steps p.tables e below (T0.setTop (mkF m 261 #[(vi pi1), (vi pi2), (vi pi3), (vi pi4), (vi pi5), (vi pi6), (vi pi7), (vr pa8), (vr pa9), (vr pa10), (vr pa11), (vi yp), (vi yn), (vi yo), .unset, .unset, .unset, .unset, .unset, .unset, .unset] [(.int (((pi5.toUInt32 >>> ((3 : Int32) &&& 31).toUInt32).toInt32) &&& (3 : Int32)))])) _
    refine XS.iload X0.here hx rfl (hb hby at_261) rfl ?_
    refine iremM X0 hx rfl (hb hby at_263) rfl (own_nz hyn) ?_
    exact k
  have ht0 : own_ps yn yr := by rw [hyr]; exact own_pos _ yn
  obtain ⟨T7, h7, X7, e7, E7, A7, D7, -, st7⟩ := newO X0 hx hZ hown (ow hw 9 rfl) (ow hw 10 rfl) (ow hw 11 rfl) e0 (g := (mkF m 266 #[(vi pi1), (vi pi2), (vi pi3), (vi pi4), (vi pi5), (vi pi6), (vi pi7), (vr pa8), (vr pa9), (vr pa10), (vr pa11), (vi yp), (vi yn), (vi yo), (vi yr), .unset, .unset, .unset, .unset, .unset, .unset] [])) rfl (hb hby at_266) (by decide) (by decide)
  obtain ⟨b7, g7⟩ : ∃ z, z = h0.size := ⟨_, rfl⟩
  rw [← g7] at A7 D7 st7
  have ne8 : pa8 ≠ b7 := Nat.ne_of_lt (Nat.lt_of_lt_of_le P0.lt (Nat.le_of_eq g7.symm))
  have ne9 : pa9 ≠ b7 := Nat.ne_of_lt (Nat.lt_of_lt_of_le P3.lt (Nat.le_of_eq g7.symm))
  have ne10 : pa10 ≠ b7 := Nat.ne_of_lt (Nat.lt_of_lt_of_le P6.lt (Nat.le_of_eq g7.symm))
  have ne11 : pa11 ≠ b7 := Nat.ne_of_lt (Nat.lt_of_lt_of_le P9.lt (Nat.le_of_eq g7.symm))
  have ne12 : pa13 ≠ b7 := Nat.ne_of_lt (Nat.lt_of_lt_of_le P12.lt (Nat.le_of_eq g7.symm))
  have ne13 : pa14 ≠ b7 := Nat.ne_of_lt (Nat.lt_of_lt_of_le P14.lt (Nat.le_of_eq g7.symm))
  have ne14 : pa15 ≠ b7 := Nat.ne_of_lt (Nat.lt_of_lt_of_le P16.lt (Nat.le_of_eq g7.symm))
  have ne15 : pa16 ≠ b7 := Nat.ne_of_lt (Nat.lt_of_lt_of_le P18.lt (Nat.le_of_eq g7.symm))
  have ne16 : pa17 ≠ b7 := Nat.ne_of_lt (Nat.lt_of_lt_of_le P20.lt (Nat.le_of_eq g7.symm))
  have ne17 : pa18 ≠ b7 := Nat.ne_of_lt (Nat.lt_of_lt_of_le P22.lt (Nat.le_of_eq g7.symm))
  have ne18 : pa20 ≠ b7 := Nat.ne_of_lt (Nat.lt_of_lt_of_le P24.lt (Nat.le_of_eq g7.symm))
  have ne19 : pa21 ≠ b7 := Nat.ne_of_lt (Nat.lt_of_lt_of_le P26.lt (Nat.le_of_eq g7.symm))
  have ne20 : pa23 ≠ b7 := Nat.ne_of_lt (Nat.lt_of_lt_of_le P28.lt (Nat.le_of_eq g7.symm))
  have ne21 : pa24 ≠ b7 := Nat.ne_of_lt (Nat.lt_of_lt_of_le P30.lt (Nat.le_of_eq g7.symm))
  have ne22 : pa26 ≠ b7 := Nat.ne_of_lt (Nat.lt_of_lt_of_le P32.lt (Nat.le_of_eq g7.symm))
  have ne23 : pa27 ≠ b7 := Nat.ne_of_lt (Nat.lt_of_lt_of_le P34.lt (Nat.le_of_eq g7.symm))
  have g24 : n0 ≤ b7 := Nat.le_trans (own_sz O0) (Nat.le_of_eq g7.symm)
  have O25 : Old Z n0 h7 := O0.ext E7
  have f26 : Fld Z h7 b7 s3n "tours" s5n .null := D7 (Or.inr (ow hw 43 rfl)) (ty := (.object s6n)) (by decide)
  have f27 : Fld Z h7 b7 s3n "trains" "[I" .null := D7 (Or.inr (ow hw 53 rfl)) (ty := (.array .int)) (by decide)
  have f28 : Fld Z h7 b7 s3n "memory" "I" (.int 0) := D7 (Or.inr (ow hw 55 rfl)) (ty := .int) (by decide)
  have f29 : Fld Z h7 b7 s3n "counts" "[[[I" .null := D7 (Or.inr (ow hw 59 rfl)) (ty := (.array (.array (.array .int)))) (by decide)
  obtain ⟨T30, h30, k30, X30, e30, E30, A30, Z30, st30⟩ := newPE X7 hx hZ (ow hw 7 rfl) e7 (g := (mkF m 271 #[(vi pi1), (vi pi2), (vi pi3), (vi pi4), (vi pi5), (vi pi6), (vi pi7), (vr pa8), (vr pa9), (vr pa10), (vr pa11), (vi yp), (vi yn), (vi yo), (vi yr), .unset, .unset, .unset, .unset, .unset, .unset] [(.int 2), (.ref b7), (.ref b7)])) rfl (hb hby at_271) rfl (by decide) (cap := 2) (by decide) (by decide) (by decide) (by decide) (ad := "[I") rfl
  obtain ⟨b30, g30⟩ : ∃ z, z = h7.size := ⟨_, rfl⟩
  rw [← g30] at A30 Z30 st30
  have f32 : Arv Z h7 pa8 pk12 (.array .int) (6 : Int32) ([(.ref pa13), (.ref pa14), (.ref pa15), (.ref pa16), (.ref pa17), (.ref pa18)]) .null := (P0.ext E7)
  have ne31 : pa8 ≠ b30 := Nat.ne_of_lt (Nat.lt_of_lt_of_le f32.lt (Nat.le_of_eq g30.symm))
  have f34 : Arv Z h7 pa9 pk19 (.array .int) (2 : Int32) ([(.ref pa20), (.ref pa21)]) .null := (P3.ext E7)
  have ne33 : pa9 ≠ b30 := Nat.ne_of_lt (Nat.lt_of_lt_of_le f34.lt (Nat.le_of_eq g30.symm))
  have f36 : Arv Z h7 pa10 pk22 (.array .int) (2 : Int32) ([(.ref pa23), (.ref pa24)]) .null := (P6.ext E7)
  have ne35 : pa10 ≠ b30 := Nat.ne_of_lt (Nat.lt_of_lt_of_le f36.lt (Nat.le_of_eq g30.symm))
  have f38 : Arv Z h7 pa11 pk25 (.array .int) (2 : Int32) ([(.ref pa26), (.ref pa27)]) .null := (P9.ext E7)
  have ne37 : pa11 ≠ b30 := Nat.ne_of_lt (Nat.lt_of_lt_of_le f38.lt (Nat.le_of_eq g30.symm))
  have f40 : Arv Z h7 pa13 pk28 .int (3 : Int32) ([(.int 0), (.int 1), (.int 2)]) (.int 0) := (P12.ext E7)
  have ne39 : pa13 ≠ b30 := Nat.ne_of_lt (Nat.lt_of_lt_of_le f40.lt (Nat.le_of_eq g30.symm))
  have f42 : Arv Z h7 pa14 pk29 .int (3 : Int32) ([(.int 0), (.int 2), (.int 1)]) (.int 0) := (P14.ext E7)
  have ne41 : pa14 ≠ b30 := Nat.ne_of_lt (Nat.lt_of_lt_of_le f42.lt (Nat.le_of_eq g30.symm))
  have f44 : Arv Z h7 pa15 pk30 .int (3 : Int32) ([(.int 1), (.int 0), (.int 2)]) (.int 0) := (P16.ext E7)
  have ne43 : pa15 ≠ b30 := Nat.ne_of_lt (Nat.lt_of_lt_of_le f44.lt (Nat.le_of_eq g30.symm))
  have f46 : Arv Z h7 pa16 pk31 .int (3 : Int32) ([(.int 1), (.int 2), (.int 0)]) (.int 0) := (P18.ext E7)
  have ne45 : pa16 ≠ b30 := Nat.ne_of_lt (Nat.lt_of_lt_of_le f46.lt (Nat.le_of_eq g30.symm))
  have f48 : Arv Z h7 pa17 pk32 .int (3 : Int32) ([(.int 2), (.int 0), (.int 1)]) (.int 0) := (P20.ext E7)
  have ne47 : pa17 ≠ b30 := Nat.ne_of_lt (Nat.lt_of_lt_of_le f48.lt (Nat.le_of_eq g30.symm))
  have f50 : Arv Z h7 pa18 pk33 .int (3 : Int32) ([(.int 2), (.int 1), (.int 0)]) (.int 0) := (P22.ext E7)
  have ne49 : pa18 ≠ b30 := Nat.ne_of_lt (Nat.lt_of_lt_of_le f50.lt (Nat.le_of_eq g30.symm))
  have f52 : Arv Z h7 pa20 pk34 .int (2 : Int32) ([(.int 0), (.int 1)]) (.int 0) := (P24.ext E7)
  have ne51 : pa20 ≠ b30 := Nat.ne_of_lt (Nat.lt_of_lt_of_le f52.lt (Nat.le_of_eq g30.symm))
  have f54 : Arv Z h7 pa21 pk35 .int (2 : Int32) ([(.int 1), (.int 0)]) (.int 0) := (P26.ext E7)
  have ne53 : pa21 ≠ b30 := Nat.ne_of_lt (Nat.lt_of_lt_of_le f54.lt (Nat.le_of_eq g30.symm))
  have f56 : Arv Z h7 pa23 pk36 .int (3 : Int32) ([(.int pi37), (.int pi38), (.int pi39)]) (.int 0) := (P28.ext E7)
  have ne55 : pa23 ≠ b30 := Nat.ne_of_lt (Nat.lt_of_lt_of_le f56.lt (Nat.le_of_eq g30.symm))
  have f58 : Arv Z h7 pa24 pk40 .int (2 : Int32) ([(.int pi41), (.int pi42)]) (.int 0) := (P30.ext E7)
  have ne57 : pa24 ≠ b30 := Nat.ne_of_lt (Nat.lt_of_lt_of_le f58.lt (Nat.le_of_eq g30.symm))
  have f60 : Arv Z h7 pa26 pk43 .int (3 : Int32) ([(.int pi44), (.int pi45), (.int pi46)]) (.int 0) := (P32.ext E7)
  have ne59 : pa26 ≠ b30 := Nat.ne_of_lt (Nat.lt_of_lt_of_le f60.lt (Nat.le_of_eq g30.symm))
  have f62 : Arv Z h7 pa27 pk47 .int (2 : Int32) ([(.int pi48), (.int pi49)]) (.int 0) := (P34.ext E7)
  have ne61 : pa27 ≠ b30 := Nat.ne_of_lt (Nat.lt_of_lt_of_le f62.lt (Nat.le_of_eq g30.symm))
  have ne63 : b7 ≠ b30 := Nat.ne_of_lt (Nat.lt_of_lt_of_le A7.lt (Nat.le_of_eq g30.symm))
  have g64 : n0 ≤ b30 := Nat.le_trans (own_sz O25) (Nat.le_of_eq g30.symm)
  have O65 : Old Z n0 h30 := O25.ext E30
  have V30 : Arv Z h30 b30 k30 .int (2 : Int32) ([(.int 0), (.int 0)]) (.int 0) := (Arv.new A30 (by decide)).pad (pad_rep [] (.int 0) 2)
  obtain ⟨cl66, Ar66, qc66, Sz66, Nn66, Ha66, Gg66⟩ := (id V30)
  have hin66 : ¬ ((0 : Int32) < 0 ∨ cl66.slots.size ≤ ((0 : Int32)).toNatClampNeg) := inb_of Sz66 ⟨by decide, by decide⟩
  obtain ⟨T66, h66, X66, e66, W66, st66⟩ := stI X30 hx hZ e30 Ar66 (j := (0 : Int32)) hin66 (g := (mkF m 276 #[(vi pi1), (vi pi2), (vi pi3), (vi pi4), (vi pi5), (vi pi6), (vi pi7), (vr pa8), (vr pa9), (vr pa10), (vr pa11), (vi yp), (vi yn), (vi yo), (vi yr), .unset, .unset, .unset, .unset, .unset, .unset] [(.int 3), (.int 0), (.ref b30), (.ref b30), (.ref b7), (.ref b7)])) rfl rfl (hb hby at_276)
  have O67 : Old Z n0 h66 := O65.wr W66 g64
  have V66 : Arv Z h66 b30 k30 .int (2 : Int32) ([(.int 3), (.int 0)]) (.int 0) := (Arv.set Ar66 qc66 Sz66 Nn66 Ha66 Gg66 (v := (.int 3)) rfl W66 0 rfl (Nat.le_of_ble_eq_true rfl))
  have N66 := Fr.snoc X66 N0 g64
  obtain ⟨cl68, Ar68, qc68, Sz68, Nn68, Ha68, Gg68⟩ := (id V66)
  have hin68 : ¬ ((1 : Int32) < 0 ∨ cl68.slots.size ≤ ((1 : Int32)).toNatClampNeg) := inb_of Sz68 ⟨by decide, by decide⟩
  obtain ⟨T68, h68, X68, e68, W68, st68⟩ := stI X66 hx hZ e66 Ar68 (j := (1 : Int32)) hin68 (g := (mkF m 280 #[(vi pi1), (vi pi2), (vi pi3), (vi pi4), (vi pi5), (vi pi6), (vi pi7), (vr pa8), (vr pa9), (vr pa10), (vr pa11), (vi yp), (vi yn), (vi yo), (vi yr), .unset, .unset, .unset, .unset, .unset, .unset] [(.int 2), (.int 1), (.ref b30), (.ref b30), (.ref b7), (.ref b7)])) rfl rfl (hb hby at_280)
  have O69 : Old Z n0 h68 := O67.wr W68 g64
  have V68 : Arv Z h68 b30 k30 .int (2 : Int32) ([(.int 3), (.int 2)]) (.int 0) := (Arv.set Ar68 qc68 Sz68 Nn68 Ha68 Gg68 (v := (.int 2)) rfl W68 1 rfl (Nat.le_of_ble_eq_true rfl))
  have N68 := Fr.snoc X68 N66 g64
  have f70 : Exa Z h68 b7 s3n := (((A7.ext E30).wr W66).wr W68)
  have f71 : Fld Z h68 b7 s3n "counts" "[[[I" .null := (((f29.ext E30).other W66 (Or.inl ne63)).other W68 (Or.inl ne63))
  have f72 : Fld Z h68 b7 s3n "memory" "I" (.int 0) := (((f28.ext E30).other W66 (Or.inl ne63)).other W68 (Or.inl ne63))
  have f73 : Fld Z h68 b7 s3n "tours" s5n .null := (((f26.ext E30).other W66 (Or.inl ne63)).other W68 (Or.inl ne63))
  have f74 : Fld Z h68 b7 s3n "trains" "[I" .null := (((f27.ext E30).other W66 (Or.inl ne63)).other W68 (Or.inl ne63))
  have f75 : Exa Z h68 b30 "[I" := ((Z30.wr W66).wr W68)
  obtain ⟨_, _, ⟨T76, L76, k76, n76⟩, -, X76, ⟨Lc76, hQ76, l76, y76, z76⟩, st76⟩ := X68.specialBack hx (y := M4) rfl hown (mvT hZ (ow hw 12 rfl)) (mvT hZ (ow hw 13 rfl)) (mvT hZ (ow hw 14 rfl)) (by decide) (backOf (W := 1) (au2_0 l Z a0 hw [] wDEFAULTCAPACITY_EMPTY_ELEMENTDATA kwDEFAULTCAPACITY_EMPTY_ELEMENTDATA hS b7 b30 pi6 k30 h68 n0 O69 f70 f71 f72 f73 f74 V68 f75 g24 ne63) hZ (ow hw 14 rfl) (ow hw 11 rfl) (by decide) (by decide)) (g := (mkF m 283 #[(vi pi1), (vi pi2), (vi pi3), (vi pi4), (vi pi5), (vi pi6), (vi pi7), (vr pa8), (vr pa9), (vr pa10), (vr pa11), (vi yp), (vi yn), (vi yo), (vi yr), .unset, .unset, .unset, .unset, .unset, .unset] [(.int pi6), (.ref b30), (.ref b7), (.ref b7)])) rfl (by rw [hml]; rfl) (Steps.refl _) (a := b7) (argsL := [(.ref b30), (.int pi6)]) (rest := [(.ref b7)]) (lenOf pd_2 rfl) rfl (by show 2 * 0 + _ ≤ _; exact Nat.le_of_eq rfl) (hb hby at_283) (fun _ _ => ⟨rfl, e68, (by decide : 14 + 10 ≤ _), (by decide : 40 + 25 ≤ _)⟩)
  dsimp only [Pt.U, Pt.locs, Pt.cells, Pt.slots] at X76 l76 y76 z76 st76 hQ76
  subst l76 y76 z76
  obtain ⟨e1_76, e2_76, e3_76, e4_76, e5_76, e6_76, e7_76, e8_76, e9_76, e10_76, e11_76, e12_76, e13_76, e14_76, e15_76, rfl, Nq76, K76q, p76_0, p76_1, p76_2, p76_3, p76_4, p76_5, p76_6, p76_7, p76_8, p76_9, p76_10, p76_11, p76_12, p76_13, p76_14, p76_15, p76_16, p76_17, p76_18, p76_19, p76_20, p76_21, p76_22, p76_23, p76_24, p76_25, p76_26, p76_27, p76_28, p76_29, p76_30, p76_31, p76_32, p76_33, p76_34, p76_35, p76_36, p76_37, p76_38, p76_39, p76_40, p76_41, p76_42, p76_43, p76_44, p76_45, p76_46, p76_47, p76_48, p76_49, p76_50, p76_51, p76_52, p76_53, p76_54, p76_55, p76_56, p76_57, p76_58, p76_59, p76_60, p76_61, p76_62, p76_63, p76_64, p76_65, p76_66, p76_67, p76_68, p76_69, p76_70, p76_71, p76_72, p76_73, p76_74, p76_75, p76_76, p76_77, p76_78, p76_79, p76_80, p76_81, p76_82, p76_83, p76_84⟩ := hQ76
  have N76 := Fr.app N68 Nq76
  have f78 : Arv Z h68 pa8 pk12 (.array .int) (6 : Int32) ([(.ref pa13), (.ref pa14), (.ref pa15), (.ref pa16), (.ref pa17), (.ref pa18)]) .null := (((f32.ext E30).other W66 ne31).other W68 ne31)
  have ne77 : pa8 ≠ e1_76 := Nat.ne_of_lt (Nat.lt_of_lt_of_le f78.lt p76_5)
  have f80 : Arv Z h68 pa9 pk19 (.array .int) (2 : Int32) ([(.ref pa20), (.ref pa21)]) .null := (((f34.ext E30).other W66 ne33).other W68 ne33)
  have ne79 : pa9 ≠ e1_76 := Nat.ne_of_lt (Nat.lt_of_lt_of_le f80.lt p76_5)
  have f82 : Arv Z h68 pa10 pk22 (.array .int) (2 : Int32) ([(.ref pa23), (.ref pa24)]) .null := (((f36.ext E30).other W66 ne35).other W68 ne35)
  have ne81 : pa10 ≠ e1_76 := Nat.ne_of_lt (Nat.lt_of_lt_of_le f82.lt p76_5)
  have f84 : Arv Z h68 pa11 pk25 (.array .int) (2 : Int32) ([(.ref pa26), (.ref pa27)]) .null := (((f38.ext E30).other W66 ne37).other W68 ne37)
  have ne83 : pa11 ≠ e1_76 := Nat.ne_of_lt (Nat.lt_of_lt_of_le f84.lt p76_5)
  have f86 : Arv Z h68 pa13 pk28 .int (3 : Int32) ([(.int 0), (.int 1), (.int 2)]) (.int 0) := (((f40.ext E30).other W66 ne39).other W68 ne39)
  have ne85 : pa13 ≠ e1_76 := Nat.ne_of_lt (Nat.lt_of_lt_of_le f86.lt p76_5)
  have f88 : Arv Z h68 pa14 pk29 .int (3 : Int32) ([(.int 0), (.int 2), (.int 1)]) (.int 0) := (((f42.ext E30).other W66 ne41).other W68 ne41)
  have ne87 : pa14 ≠ e1_76 := Nat.ne_of_lt (Nat.lt_of_lt_of_le f88.lt p76_5)
  have f90 : Arv Z h68 pa15 pk30 .int (3 : Int32) ([(.int 1), (.int 0), (.int 2)]) (.int 0) := (((f44.ext E30).other W66 ne43).other W68 ne43)
  have ne89 : pa15 ≠ e1_76 := Nat.ne_of_lt (Nat.lt_of_lt_of_le f90.lt p76_5)
  have f92 : Arv Z h68 pa16 pk31 .int (3 : Int32) ([(.int 1), (.int 2), (.int 0)]) (.int 0) := (((f46.ext E30).other W66 ne45).other W68 ne45)
  have ne91 : pa16 ≠ e1_76 := Nat.ne_of_lt (Nat.lt_of_lt_of_le f92.lt p76_5)
  have f94 : Arv Z h68 pa17 pk32 .int (3 : Int32) ([(.int 2), (.int 0), (.int 1)]) (.int 0) := (((f48.ext E30).other W66 ne47).other W68 ne47)
  have ne93 : pa17 ≠ e1_76 := Nat.ne_of_lt (Nat.lt_of_lt_of_le f94.lt p76_5)
  have f96 : Arv Z h68 pa18 pk33 .int (3 : Int32) ([(.int 2), (.int 1), (.int 0)]) (.int 0) := (((f50.ext E30).other W66 ne49).other W68 ne49)
  have ne95 : pa18 ≠ e1_76 := Nat.ne_of_lt (Nat.lt_of_lt_of_le f96.lt p76_5)
  have f98 : Arv Z h68 pa20 pk34 .int (2 : Int32) ([(.int 0), (.int 1)]) (.int 0) := (((f52.ext E30).other W66 ne51).other W68 ne51)
  have ne97 : pa20 ≠ e1_76 := Nat.ne_of_lt (Nat.lt_of_lt_of_le f98.lt p76_5)
  have f100 : Arv Z h68 pa21 pk35 .int (2 : Int32) ([(.int 1), (.int 0)]) (.int 0) := (((f54.ext E30).other W66 ne53).other W68 ne53)
  have ne99 : pa21 ≠ e1_76 := Nat.ne_of_lt (Nat.lt_of_lt_of_le f100.lt p76_5)
  have f102 : Arv Z h68 pa23 pk36 .int (3 : Int32) ([(.int pi37), (.int pi38), (.int pi39)]) (.int 0) := (((f56.ext E30).other W66 ne55).other W68 ne55)
  have ne101 : pa23 ≠ e1_76 := Nat.ne_of_lt (Nat.lt_of_lt_of_le f102.lt p76_5)
  have f104 : Arv Z h68 pa24 pk40 .int (2 : Int32) ([(.int pi41), (.int pi42)]) (.int 0) := (((f58.ext E30).other W66 ne57).other W68 ne57)
  have ne103 : pa24 ≠ e1_76 := Nat.ne_of_lt (Nat.lt_of_lt_of_le f104.lt p76_5)
  have f106 : Arv Z h68 pa26 pk43 .int (3 : Int32) ([(.int pi44), (.int pi45), (.int pi46)]) (.int 0) := (((f60.ext E30).other W66 ne59).other W68 ne59)
  have ne105 : pa26 ≠ e1_76 := Nat.ne_of_lt (Nat.lt_of_lt_of_le f106.lt p76_5)
  have f108 : Arv Z h68 pa27 pk47 .int (2 : Int32) ([(.int pi48), (.int pi49)]) (.int 0) := (((f62.ext E30).other W66 ne61).other W68 ne61)
  have ne107 : pa27 ≠ e1_76 := Nat.ne_of_lt (Nat.lt_of_lt_of_le f108.lt p76_5)
  have ne109 : b7 ≠ e1_76 := Nat.ne_of_lt (Nat.lt_of_lt_of_le f70.lt p76_5)
  have ne110 : b30 ≠ e1_76 := Nat.ne_of_lt (Nat.lt_of_lt_of_le V68.lt p76_5)
  have g111 : n0 ≤ e1_76 := Nat.le_trans (own_sz O69) p76_5
  have ne112 : pa8 ≠ e2_76 := Nat.ne_of_lt (Nat.lt_of_lt_of_le f78.lt p76_9)
  have ne113 : pa9 ≠ e2_76 := Nat.ne_of_lt (Nat.lt_of_lt_of_le f80.lt p76_9)
  have ne114 : pa10 ≠ e2_76 := Nat.ne_of_lt (Nat.lt_of_lt_of_le f82.lt p76_9)
  have ne115 : pa11 ≠ e2_76 := Nat.ne_of_lt (Nat.lt_of_lt_of_le f84.lt p76_9)
  have ne116 : pa13 ≠ e2_76 := Nat.ne_of_lt (Nat.lt_of_lt_of_le f86.lt p76_9)
  have ne117 : pa14 ≠ e2_76 := Nat.ne_of_lt (Nat.lt_of_lt_of_le f88.lt p76_9)
  have ne118 : pa15 ≠ e2_76 := Nat.ne_of_lt (Nat.lt_of_lt_of_le f90.lt p76_9)
  have ne119 : pa16 ≠ e2_76 := Nat.ne_of_lt (Nat.lt_of_lt_of_le f92.lt p76_9)
  have ne120 : pa17 ≠ e2_76 := Nat.ne_of_lt (Nat.lt_of_lt_of_le f94.lt p76_9)
  have ne121 : pa18 ≠ e2_76 := Nat.ne_of_lt (Nat.lt_of_lt_of_le f96.lt p76_9)
  have ne122 : pa20 ≠ e2_76 := Nat.ne_of_lt (Nat.lt_of_lt_of_le f98.lt p76_9)
  have ne123 : pa21 ≠ e2_76 := Nat.ne_of_lt (Nat.lt_of_lt_of_le f100.lt p76_9)
  have ne124 : pa23 ≠ e2_76 := Nat.ne_of_lt (Nat.lt_of_lt_of_le f102.lt p76_9)
  have ne125 : pa24 ≠ e2_76 := Nat.ne_of_lt (Nat.lt_of_lt_of_le f104.lt p76_9)
  have ne126 : pa26 ≠ e2_76 := Nat.ne_of_lt (Nat.lt_of_lt_of_le f106.lt p76_9)
  have ne127 : pa27 ≠ e2_76 := Nat.ne_of_lt (Nat.lt_of_lt_of_le f108.lt p76_9)
  have ne128 : b7 ≠ e2_76 := Nat.ne_of_lt (Nat.lt_of_lt_of_le f70.lt p76_9)
  have ne129 : b30 ≠ e2_76 := Nat.ne_of_lt (Nat.lt_of_lt_of_le V68.lt p76_9)
  have g130 : n0 ≤ e2_76 := Nat.le_trans (own_sz O69) p76_9
  have ne131 : pa8 ≠ e3_76 := Nat.ne_of_lt (Nat.lt_of_lt_of_le f78.lt p76_14)
  have ne132 : pa9 ≠ e3_76 := Nat.ne_of_lt (Nat.lt_of_lt_of_le f80.lt p76_14)
  have ne133 : pa10 ≠ e3_76 := Nat.ne_of_lt (Nat.lt_of_lt_of_le f82.lt p76_14)
  have ne134 : pa11 ≠ e3_76 := Nat.ne_of_lt (Nat.lt_of_lt_of_le f84.lt p76_14)
  have ne135 : pa13 ≠ e3_76 := Nat.ne_of_lt (Nat.lt_of_lt_of_le f86.lt p76_14)
  have ne136 : pa14 ≠ e3_76 := Nat.ne_of_lt (Nat.lt_of_lt_of_le f88.lt p76_14)
  have ne137 : pa15 ≠ e3_76 := Nat.ne_of_lt (Nat.lt_of_lt_of_le f90.lt p76_14)
  have ne138 : pa16 ≠ e3_76 := Nat.ne_of_lt (Nat.lt_of_lt_of_le f92.lt p76_14)
  have ne139 : pa17 ≠ e3_76 := Nat.ne_of_lt (Nat.lt_of_lt_of_le f94.lt p76_14)
  have ne140 : pa18 ≠ e3_76 := Nat.ne_of_lt (Nat.lt_of_lt_of_le f96.lt p76_14)
  have ne141 : pa20 ≠ e3_76 := Nat.ne_of_lt (Nat.lt_of_lt_of_le f98.lt p76_14)
  have ne142 : pa21 ≠ e3_76 := Nat.ne_of_lt (Nat.lt_of_lt_of_le f100.lt p76_14)
  have ne143 : pa23 ≠ e3_76 := Nat.ne_of_lt (Nat.lt_of_lt_of_le f102.lt p76_14)
  have ne144 : pa24 ≠ e3_76 := Nat.ne_of_lt (Nat.lt_of_lt_of_le f104.lt p76_14)
  have ne145 : pa26 ≠ e3_76 := Nat.ne_of_lt (Nat.lt_of_lt_of_le f106.lt p76_14)
  have ne146 : pa27 ≠ e3_76 := Nat.ne_of_lt (Nat.lt_of_lt_of_le f108.lt p76_14)
  have ne147 : b7 ≠ e3_76 := Nat.ne_of_lt (Nat.lt_of_lt_of_le f70.lt p76_14)
  have ne148 : b30 ≠ e3_76 := Nat.ne_of_lt (Nat.lt_of_lt_of_le V68.lt p76_14)
  have g149 : n0 ≤ e3_76 := Nat.le_trans (own_sz O69) p76_14
  have ne150 : pa8 ≠ e5_76 := Nat.ne_of_lt (Nat.lt_of_lt_of_le f78.lt p76_17)
  have ne151 : pa9 ≠ e5_76 := Nat.ne_of_lt (Nat.lt_of_lt_of_le f80.lt p76_17)
  have ne152 : pa10 ≠ e5_76 := Nat.ne_of_lt (Nat.lt_of_lt_of_le f82.lt p76_17)
  have ne153 : pa11 ≠ e5_76 := Nat.ne_of_lt (Nat.lt_of_lt_of_le f84.lt p76_17)
  have ne154 : pa13 ≠ e5_76 := Nat.ne_of_lt (Nat.lt_of_lt_of_le f86.lt p76_17)
  have ne155 : pa14 ≠ e5_76 := Nat.ne_of_lt (Nat.lt_of_lt_of_le f88.lt p76_17)
  have ne156 : pa15 ≠ e5_76 := Nat.ne_of_lt (Nat.lt_of_lt_of_le f90.lt p76_17)
  have ne157 : pa16 ≠ e5_76 := Nat.ne_of_lt (Nat.lt_of_lt_of_le f92.lt p76_17)
  have ne158 : pa17 ≠ e5_76 := Nat.ne_of_lt (Nat.lt_of_lt_of_le f94.lt p76_17)
  have ne159 : pa18 ≠ e5_76 := Nat.ne_of_lt (Nat.lt_of_lt_of_le f96.lt p76_17)
  have ne160 : pa20 ≠ e5_76 := Nat.ne_of_lt (Nat.lt_of_lt_of_le f98.lt p76_17)
  have ne161 : pa21 ≠ e5_76 := Nat.ne_of_lt (Nat.lt_of_lt_of_le f100.lt p76_17)
  have ne162 : pa23 ≠ e5_76 := Nat.ne_of_lt (Nat.lt_of_lt_of_le f102.lt p76_17)
  have ne163 : pa24 ≠ e5_76 := Nat.ne_of_lt (Nat.lt_of_lt_of_le f104.lt p76_17)
  have ne164 : pa26 ≠ e5_76 := Nat.ne_of_lt (Nat.lt_of_lt_of_le f106.lt p76_17)
  have ne165 : pa27 ≠ e5_76 := Nat.ne_of_lt (Nat.lt_of_lt_of_le f108.lt p76_17)
  have ne166 : b7 ≠ e5_76 := Nat.ne_of_lt (Nat.lt_of_lt_of_le f70.lt p76_17)
  have ne167 : b30 ≠ e5_76 := Nat.ne_of_lt (Nat.lt_of_lt_of_le V68.lt p76_17)
  have g168 : n0 ≤ e5_76 := Nat.le_trans (own_sz O69) p76_17
  have ne169 : pa8 ≠ e6_76 := Nat.ne_of_lt (Nat.lt_of_lt_of_le f78.lt p76_21)
  have ne170 : pa9 ≠ e6_76 := Nat.ne_of_lt (Nat.lt_of_lt_of_le f80.lt p76_21)
  have ne171 : pa10 ≠ e6_76 := Nat.ne_of_lt (Nat.lt_of_lt_of_le f82.lt p76_21)
  have ne172 : pa11 ≠ e6_76 := Nat.ne_of_lt (Nat.lt_of_lt_of_le f84.lt p76_21)
  have ne173 : pa13 ≠ e6_76 := Nat.ne_of_lt (Nat.lt_of_lt_of_le f86.lt p76_21)
  have ne174 : pa14 ≠ e6_76 := Nat.ne_of_lt (Nat.lt_of_lt_of_le f88.lt p76_21)
  have ne175 : pa15 ≠ e6_76 := Nat.ne_of_lt (Nat.lt_of_lt_of_le f90.lt p76_21)
  have ne176 : pa16 ≠ e6_76 := Nat.ne_of_lt (Nat.lt_of_lt_of_le f92.lt p76_21)
  have ne177 : pa17 ≠ e6_76 := Nat.ne_of_lt (Nat.lt_of_lt_of_le f94.lt p76_21)
  have ne178 : pa18 ≠ e6_76 := Nat.ne_of_lt (Nat.lt_of_lt_of_le f96.lt p76_21)
  have ne179 : pa20 ≠ e6_76 := Nat.ne_of_lt (Nat.lt_of_lt_of_le f98.lt p76_21)
  have ne180 : pa21 ≠ e6_76 := Nat.ne_of_lt (Nat.lt_of_lt_of_le f100.lt p76_21)
  have ne181 : pa23 ≠ e6_76 := Nat.ne_of_lt (Nat.lt_of_lt_of_le f102.lt p76_21)
  have ne182 : pa24 ≠ e6_76 := Nat.ne_of_lt (Nat.lt_of_lt_of_le f104.lt p76_21)
  have ne183 : pa26 ≠ e6_76 := Nat.ne_of_lt (Nat.lt_of_lt_of_le f106.lt p76_21)
  have ne184 : pa27 ≠ e6_76 := Nat.ne_of_lt (Nat.lt_of_lt_of_le f108.lt p76_21)
  have ne185 : b7 ≠ e6_76 := Nat.ne_of_lt (Nat.lt_of_lt_of_le f70.lt p76_21)
  have ne186 : b30 ≠ e6_76 := Nat.ne_of_lt (Nat.lt_of_lt_of_le V68.lt p76_21)
  have g187 : n0 ≤ e6_76 := Nat.le_trans (own_sz O69) p76_21
  have ne188 : pa8 ≠ e8_76 := Nat.ne_of_lt (Nat.lt_of_lt_of_le f78.lt p76_25)
  have ne189 : pa9 ≠ e8_76 := Nat.ne_of_lt (Nat.lt_of_lt_of_le f80.lt p76_25)
  have ne190 : pa10 ≠ e8_76 := Nat.ne_of_lt (Nat.lt_of_lt_of_le f82.lt p76_25)
  have ne191 : pa11 ≠ e8_76 := Nat.ne_of_lt (Nat.lt_of_lt_of_le f84.lt p76_25)
  have ne192 : pa13 ≠ e8_76 := Nat.ne_of_lt (Nat.lt_of_lt_of_le f86.lt p76_25)
  have ne193 : pa14 ≠ e8_76 := Nat.ne_of_lt (Nat.lt_of_lt_of_le f88.lt p76_25)
  have ne194 : pa15 ≠ e8_76 := Nat.ne_of_lt (Nat.lt_of_lt_of_le f90.lt p76_25)
  have ne195 : pa16 ≠ e8_76 := Nat.ne_of_lt (Nat.lt_of_lt_of_le f92.lt p76_25)
  have ne196 : pa17 ≠ e8_76 := Nat.ne_of_lt (Nat.lt_of_lt_of_le f94.lt p76_25)
  have ne197 : pa18 ≠ e8_76 := Nat.ne_of_lt (Nat.lt_of_lt_of_le f96.lt p76_25)
  have ne198 : pa20 ≠ e8_76 := Nat.ne_of_lt (Nat.lt_of_lt_of_le f98.lt p76_25)
  have ne199 : pa21 ≠ e8_76 := Nat.ne_of_lt (Nat.lt_of_lt_of_le f100.lt p76_25)
  have ne200 : pa23 ≠ e8_76 := Nat.ne_of_lt (Nat.lt_of_lt_of_le f102.lt p76_25)
  have ne201 : pa24 ≠ e8_76 := Nat.ne_of_lt (Nat.lt_of_lt_of_le f104.lt p76_25)
  have ne202 : pa26 ≠ e8_76 := Nat.ne_of_lt (Nat.lt_of_lt_of_le f106.lt p76_25)
  have ne203 : pa27 ≠ e8_76 := Nat.ne_of_lt (Nat.lt_of_lt_of_le f108.lt p76_25)
  have ne204 : b7 ≠ e8_76 := Nat.ne_of_lt (Nat.lt_of_lt_of_le f70.lt p76_25)
  have ne205 : b30 ≠ e8_76 := Nat.ne_of_lt (Nat.lt_of_lt_of_le V68.lt p76_25)
  have g206 : n0 ≤ e8_76 := Nat.le_trans (own_sz O69) p76_25
  have ne207 : pa8 ≠ e9_76 := Nat.ne_of_lt (Nat.lt_of_lt_of_le f78.lt p76_28)
  have ne208 : pa9 ≠ e9_76 := Nat.ne_of_lt (Nat.lt_of_lt_of_le f80.lt p76_28)
  have ne209 : pa10 ≠ e9_76 := Nat.ne_of_lt (Nat.lt_of_lt_of_le f82.lt p76_28)
  have ne210 : pa11 ≠ e9_76 := Nat.ne_of_lt (Nat.lt_of_lt_of_le f84.lt p76_28)
  have ne211 : pa13 ≠ e9_76 := Nat.ne_of_lt (Nat.lt_of_lt_of_le f86.lt p76_28)
  have ne212 : pa14 ≠ e9_76 := Nat.ne_of_lt (Nat.lt_of_lt_of_le f88.lt p76_28)
  have ne213 : pa15 ≠ e9_76 := Nat.ne_of_lt (Nat.lt_of_lt_of_le f90.lt p76_28)
  have ne214 : pa16 ≠ e9_76 := Nat.ne_of_lt (Nat.lt_of_lt_of_le f92.lt p76_28)
  have ne215 : pa17 ≠ e9_76 := Nat.ne_of_lt (Nat.lt_of_lt_of_le f94.lt p76_28)
  have ne216 : pa18 ≠ e9_76 := Nat.ne_of_lt (Nat.lt_of_lt_of_le f96.lt p76_28)
  have ne217 : pa20 ≠ e9_76 := Nat.ne_of_lt (Nat.lt_of_lt_of_le f98.lt p76_28)
  have ne218 : pa21 ≠ e9_76 := Nat.ne_of_lt (Nat.lt_of_lt_of_le f100.lt p76_28)
  have ne219 : pa23 ≠ e9_76 := Nat.ne_of_lt (Nat.lt_of_lt_of_le f102.lt p76_28)
  have ne220 : pa24 ≠ e9_76 := Nat.ne_of_lt (Nat.lt_of_lt_of_le f104.lt p76_28)
  have ne221 : pa26 ≠ e9_76 := Nat.ne_of_lt (Nat.lt_of_lt_of_le f106.lt p76_28)
  have ne222 : pa27 ≠ e9_76 := Nat.ne_of_lt (Nat.lt_of_lt_of_le f108.lt p76_28)
  have ne223 : b7 ≠ e9_76 := Nat.ne_of_lt (Nat.lt_of_lt_of_le f70.lt p76_28)
  have ne224 : b30 ≠ e9_76 := Nat.ne_of_lt (Nat.lt_of_lt_of_le V68.lt p76_28)
  have g225 : n0 ≤ e9_76 := Nat.le_trans (own_sz O69) p76_28
  have ne226 : pa8 ≠ e10_76 := Nat.ne_of_lt (Nat.lt_of_lt_of_le f78.lt p76_31)
  have ne227 : pa9 ≠ e10_76 := Nat.ne_of_lt (Nat.lt_of_lt_of_le f80.lt p76_31)
  have ne228 : pa10 ≠ e10_76 := Nat.ne_of_lt (Nat.lt_of_lt_of_le f82.lt p76_31)
  have ne229 : pa11 ≠ e10_76 := Nat.ne_of_lt (Nat.lt_of_lt_of_le f84.lt p76_31)
  have ne230 : pa13 ≠ e10_76 := Nat.ne_of_lt (Nat.lt_of_lt_of_le f86.lt p76_31)
  have ne231 : pa14 ≠ e10_76 := Nat.ne_of_lt (Nat.lt_of_lt_of_le f88.lt p76_31)
  have ne232 : pa15 ≠ e10_76 := Nat.ne_of_lt (Nat.lt_of_lt_of_le f90.lt p76_31)
  have ne233 : pa16 ≠ e10_76 := Nat.ne_of_lt (Nat.lt_of_lt_of_le f92.lt p76_31)
  have ne234 : pa17 ≠ e10_76 := Nat.ne_of_lt (Nat.lt_of_lt_of_le f94.lt p76_31)
  have ne235 : pa18 ≠ e10_76 := Nat.ne_of_lt (Nat.lt_of_lt_of_le f96.lt p76_31)
  have ne236 : pa20 ≠ e10_76 := Nat.ne_of_lt (Nat.lt_of_lt_of_le f98.lt p76_31)
  have ne237 : pa21 ≠ e10_76 := Nat.ne_of_lt (Nat.lt_of_lt_of_le f100.lt p76_31)
  have ne238 : pa23 ≠ e10_76 := Nat.ne_of_lt (Nat.lt_of_lt_of_le f102.lt p76_31)
  have ne239 : pa24 ≠ e10_76 := Nat.ne_of_lt (Nat.lt_of_lt_of_le f104.lt p76_31)
  have ne240 : pa26 ≠ e10_76 := Nat.ne_of_lt (Nat.lt_of_lt_of_le f106.lt p76_31)
  have ne241 : pa27 ≠ e10_76 := Nat.ne_of_lt (Nat.lt_of_lt_of_le f108.lt p76_31)
  have ne242 : b7 ≠ e10_76 := Nat.ne_of_lt (Nat.lt_of_lt_of_le f70.lt p76_31)
  have ne243 : b30 ≠ e10_76 := Nat.ne_of_lt (Nat.lt_of_lt_of_le V68.lt p76_31)
  have g244 : n0 ≤ e10_76 := Nat.le_trans (own_sz O69) p76_31
  have ne245 : pa8 ≠ e12_76 := Nat.ne_of_lt (Nat.lt_of_lt_of_le f78.lt p76_34)
  have ne246 : pa9 ≠ e12_76 := Nat.ne_of_lt (Nat.lt_of_lt_of_le f80.lt p76_34)
  have ne247 : pa10 ≠ e12_76 := Nat.ne_of_lt (Nat.lt_of_lt_of_le f82.lt p76_34)
  have ne248 : pa11 ≠ e12_76 := Nat.ne_of_lt (Nat.lt_of_lt_of_le f84.lt p76_34)
  have ne249 : pa13 ≠ e12_76 := Nat.ne_of_lt (Nat.lt_of_lt_of_le f86.lt p76_34)
  have ne250 : pa14 ≠ e12_76 := Nat.ne_of_lt (Nat.lt_of_lt_of_le f88.lt p76_34)
  have ne251 : pa15 ≠ e12_76 := Nat.ne_of_lt (Nat.lt_of_lt_of_le f90.lt p76_34)
  have ne252 : pa16 ≠ e12_76 := Nat.ne_of_lt (Nat.lt_of_lt_of_le f92.lt p76_34)
  have ne253 : pa17 ≠ e12_76 := Nat.ne_of_lt (Nat.lt_of_lt_of_le f94.lt p76_34)
  have ne254 : pa18 ≠ e12_76 := Nat.ne_of_lt (Nat.lt_of_lt_of_le f96.lt p76_34)
  have ne255 : pa20 ≠ e12_76 := Nat.ne_of_lt (Nat.lt_of_lt_of_le f98.lt p76_34)
  have ne256 : pa21 ≠ e12_76 := Nat.ne_of_lt (Nat.lt_of_lt_of_le f100.lt p76_34)
  have ne257 : pa23 ≠ e12_76 := Nat.ne_of_lt (Nat.lt_of_lt_of_le f102.lt p76_34)
  have ne258 : pa24 ≠ e12_76 := Nat.ne_of_lt (Nat.lt_of_lt_of_le f104.lt p76_34)
  have ne259 : pa26 ≠ e12_76 := Nat.ne_of_lt (Nat.lt_of_lt_of_le f106.lt p76_34)
  have ne260 : pa27 ≠ e12_76 := Nat.ne_of_lt (Nat.lt_of_lt_of_le f108.lt p76_34)
  have ne261 : b7 ≠ e12_76 := Nat.ne_of_lt (Nat.lt_of_lt_of_le f70.lt p76_34)
  have ne262 : b30 ≠ e12_76 := Nat.ne_of_lt (Nat.lt_of_lt_of_le V68.lt p76_34)
  have g263 : n0 ≤ e12_76 := Nat.le_trans (own_sz O69) p76_34
  have ne264 : pa8 ≠ e13_76 := Nat.ne_of_lt (Nat.lt_of_lt_of_le f78.lt p76_37)
  have ne265 : pa9 ≠ e13_76 := Nat.ne_of_lt (Nat.lt_of_lt_of_le f80.lt p76_37)
  have ne266 : pa10 ≠ e13_76 := Nat.ne_of_lt (Nat.lt_of_lt_of_le f82.lt p76_37)
  have ne267 : pa11 ≠ e13_76 := Nat.ne_of_lt (Nat.lt_of_lt_of_le f84.lt p76_37)
  have ne268 : pa13 ≠ e13_76 := Nat.ne_of_lt (Nat.lt_of_lt_of_le f86.lt p76_37)
  have ne269 : pa14 ≠ e13_76 := Nat.ne_of_lt (Nat.lt_of_lt_of_le f88.lt p76_37)
  have ne270 : pa15 ≠ e13_76 := Nat.ne_of_lt (Nat.lt_of_lt_of_le f90.lt p76_37)
  have ne271 : pa16 ≠ e13_76 := Nat.ne_of_lt (Nat.lt_of_lt_of_le f92.lt p76_37)
  have ne272 : pa17 ≠ e13_76 := Nat.ne_of_lt (Nat.lt_of_lt_of_le f94.lt p76_37)
  have ne273 : pa18 ≠ e13_76 := Nat.ne_of_lt (Nat.lt_of_lt_of_le f96.lt p76_37)
  have ne274 : pa20 ≠ e13_76 := Nat.ne_of_lt (Nat.lt_of_lt_of_le f98.lt p76_37)
  have ne275 : pa21 ≠ e13_76 := Nat.ne_of_lt (Nat.lt_of_lt_of_le f100.lt p76_37)
  have ne276 : pa23 ≠ e13_76 := Nat.ne_of_lt (Nat.lt_of_lt_of_le f102.lt p76_37)
  have ne277 : pa24 ≠ e13_76 := Nat.ne_of_lt (Nat.lt_of_lt_of_le f104.lt p76_37)
  have ne278 : pa26 ≠ e13_76 := Nat.ne_of_lt (Nat.lt_of_lt_of_le f106.lt p76_37)
  have ne279 : pa27 ≠ e13_76 := Nat.ne_of_lt (Nat.lt_of_lt_of_le f108.lt p76_37)
  have ne280 : b7 ≠ e13_76 := Nat.ne_of_lt (Nat.lt_of_lt_of_le f70.lt p76_37)
  have ne281 : b30 ≠ e13_76 := Nat.ne_of_lt (Nat.lt_of_lt_of_le V68.lt p76_37)
  have g282 : n0 ≤ e13_76 := Nat.le_trans (own_sz O69) p76_37
  have O283 : Old Z n0 T76.heap := O69.keep K76q (allS g24 all0)
  obtain ⟨T284, h284, X284, e284, E284, A284, D284, -, st284⟩ := newO X76 hx hZ hown (ow hw 61 rfl) (ow hw 62 rfl) (ow hw 63 rfl) rfl (g := (mkF m 288 #[(vi pi1), (vi pi2), (vi pi3), (vi pi4), (vi pi5), (vi pi6), (vi pi7), (vr pa8), (vr pa9), (vr pa10), (vr pa11), (vi yp), (vi yn), (vi yo), (vi yr), (vr b7), .unset, .unset, .unset, .unset, .unset] [])) rfl (hb hby at_288) (by decide) (by decide)
  obtain ⟨b284, g284⟩ : ∃ z, z = T76.heap.size := ⟨_, rfl⟩
  rw [← g284] at A284 D284 st284
  have f286 : Arv Z T76.heap pa8 pk12 (.array .int) (6 : Int32) ([(.ref pa13), (.ref pa14), (.ref pa15), (.ref pa16), (.ref pa17), (.ref pa18)]) .null := (f78.keep K76q (ninS ne8 nin0))
  have ne285 : pa8 ≠ b284 := Nat.ne_of_lt (Nat.lt_of_lt_of_le f286.lt (Nat.le_of_eq g284.symm))
  have f288 : Arv Z T76.heap pa9 pk19 (.array .int) (2 : Int32) ([(.ref pa20), (.ref pa21)]) .null := (f80.keep K76q (ninS ne9 nin0))
  have ne287 : pa9 ≠ b284 := Nat.ne_of_lt (Nat.lt_of_lt_of_le f288.lt (Nat.le_of_eq g284.symm))
  have f290 : Arv Z T76.heap pa10 pk22 (.array .int) (2 : Int32) ([(.ref pa23), (.ref pa24)]) .null := (f82.keep K76q (ninS ne10 nin0))
  have ne289 : pa10 ≠ b284 := Nat.ne_of_lt (Nat.lt_of_lt_of_le f290.lt (Nat.le_of_eq g284.symm))
  have f292 : Arv Z T76.heap pa11 pk25 (.array .int) (2 : Int32) ([(.ref pa26), (.ref pa27)]) .null := (f84.keep K76q (ninS ne11 nin0))
  have ne291 : pa11 ≠ b284 := Nat.ne_of_lt (Nat.lt_of_lt_of_le f292.lt (Nat.le_of_eq g284.symm))
  have f294 : Arv Z T76.heap pa13 pk28 .int (3 : Int32) ([(.int 0), (.int 1), (.int 2)]) (.int 0) := (f86.keep K76q (ninS ne12 nin0))
  have ne293 : pa13 ≠ b284 := Nat.ne_of_lt (Nat.lt_of_lt_of_le f294.lt (Nat.le_of_eq g284.symm))
  have f296 : Arv Z T76.heap pa14 pk29 .int (3 : Int32) ([(.int 0), (.int 2), (.int 1)]) (.int 0) := (f88.keep K76q (ninS ne13 nin0))
  have ne295 : pa14 ≠ b284 := Nat.ne_of_lt (Nat.lt_of_lt_of_le f296.lt (Nat.le_of_eq g284.symm))
  have f298 : Arv Z T76.heap pa15 pk30 .int (3 : Int32) ([(.int 1), (.int 0), (.int 2)]) (.int 0) := (f90.keep K76q (ninS ne14 nin0))
  have ne297 : pa15 ≠ b284 := Nat.ne_of_lt (Nat.lt_of_lt_of_le f298.lt (Nat.le_of_eq g284.symm))
  have f300 : Arv Z T76.heap pa16 pk31 .int (3 : Int32) ([(.int 1), (.int 2), (.int 0)]) (.int 0) := (f92.keep K76q (ninS ne15 nin0))
  have ne299 : pa16 ≠ b284 := Nat.ne_of_lt (Nat.lt_of_lt_of_le f300.lt (Nat.le_of_eq g284.symm))
  have f302 : Arv Z T76.heap pa17 pk32 .int (3 : Int32) ([(.int 2), (.int 0), (.int 1)]) (.int 0) := (f94.keep K76q (ninS ne16 nin0))
  have ne301 : pa17 ≠ b284 := Nat.ne_of_lt (Nat.lt_of_lt_of_le f302.lt (Nat.le_of_eq g284.symm))
  have f304 : Arv Z T76.heap pa18 pk33 .int (3 : Int32) ([(.int 2), (.int 1), (.int 0)]) (.int 0) := (f96.keep K76q (ninS ne17 nin0))
  have ne303 : pa18 ≠ b284 := Nat.ne_of_lt (Nat.lt_of_lt_of_le f304.lt (Nat.le_of_eq g284.symm))
  have f306 : Arv Z T76.heap pa20 pk34 .int (2 : Int32) ([(.int 0), (.int 1)]) (.int 0) := (f98.keep K76q (ninS ne18 nin0))
  have ne305 : pa20 ≠ b284 := Nat.ne_of_lt (Nat.lt_of_lt_of_le f306.lt (Nat.le_of_eq g284.symm))
  have f308 : Arv Z T76.heap pa21 pk35 .int (2 : Int32) ([(.int 1), (.int 0)]) (.int 0) := (f100.keep K76q (ninS ne19 nin0))
  have ne307 : pa21 ≠ b284 := Nat.ne_of_lt (Nat.lt_of_lt_of_le f308.lt (Nat.le_of_eq g284.symm))
  have f310 : Arv Z T76.heap pa23 pk36 .int (3 : Int32) ([(.int pi37), (.int pi38), (.int pi39)]) (.int 0) := (f102.keep K76q (ninS ne20 nin0))
  have ne309 : pa23 ≠ b284 := Nat.ne_of_lt (Nat.lt_of_lt_of_le f310.lt (Nat.le_of_eq g284.symm))
  have f312 : Arv Z T76.heap pa24 pk40 .int (2 : Int32) ([(.int pi41), (.int pi42)]) (.int 0) := (f104.keep K76q (ninS ne21 nin0))
  have ne311 : pa24 ≠ b284 := Nat.ne_of_lt (Nat.lt_of_lt_of_le f312.lt (Nat.le_of_eq g284.symm))
  have f314 : Arv Z T76.heap pa26 pk43 .int (3 : Int32) ([(.int pi44), (.int pi45), (.int pi46)]) (.int 0) := (f106.keep K76q (ninS ne22 nin0))
  have ne313 : pa26 ≠ b284 := Nat.ne_of_lt (Nat.lt_of_lt_of_le f314.lt (Nat.le_of_eq g284.symm))
  have f316 : Arv Z T76.heap pa27 pk47 .int (2 : Int32) ([(.int pi48), (.int pi49)]) (.int 0) := (f108.keep K76q (ninS ne23 nin0))
  have ne315 : pa27 ≠ b284 := Nat.ne_of_lt (Nat.lt_of_lt_of_le f316.lt (Nat.le_of_eq g284.symm))
  have ne317 : b7 ≠ b284 := Nat.ne_of_lt (Nat.lt_of_lt_of_le p76_0.lt (Nat.le_of_eq g284.symm))
  have f319 : Arv Z T76.heap b30 k30 .int (2 : Int32) ([(.int 3), (.int 2)]) (.int 0) := (V68.keep K76q (ninS (Ne.symm ne63) nin0))
  have ne318 : b30 ≠ b284 := Nat.ne_of_lt (Nat.lt_of_lt_of_le f319.lt (Nat.le_of_eq g284.symm))
  have ne320 : e1_76 ≠ b284 := Nat.ne_of_lt (Nat.lt_of_lt_of_le p76_6.lt (Nat.le_of_eq g284.symm))
  have ne321 : e2_76 ≠ b284 := Nat.ne_of_lt (Nat.lt_of_lt_of_le p76_10.lt (Nat.le_of_eq g284.symm))
  have ne322 : e3_76 ≠ b284 := Nat.ne_of_lt (Nat.lt_of_lt_of_le p76_15.lt (Nat.le_of_eq g284.symm))
  have ne323 : e5_76 ≠ b284 := Nat.ne_of_lt (Nat.lt_of_lt_of_le p76_18.lt (Nat.le_of_eq g284.symm))
  have ne324 : e6_76 ≠ b284 := Nat.ne_of_lt (Nat.lt_of_lt_of_le p76_22.lt (Nat.le_of_eq g284.symm))
  have ne325 : e8_76 ≠ b284 := Nat.ne_of_lt (Nat.lt_of_lt_of_le p76_26.lt (Nat.le_of_eq g284.symm))
  have ne326 : e9_76 ≠ b284 := Nat.ne_of_lt (Nat.lt_of_lt_of_le p76_29.lt (Nat.le_of_eq g284.symm))
  have ne327 : e10_76 ≠ b284 := Nat.ne_of_lt (Nat.lt_of_lt_of_le p76_32.lt (Nat.le_of_eq g284.symm))
  have ne328 : e12_76 ≠ b284 := Nat.ne_of_lt (Nat.lt_of_lt_of_le p76_35.lt (Nat.le_of_eq g284.symm))
  have ne329 : e13_76 ≠ b284 := Nat.ne_of_lt (Nat.lt_of_lt_of_le p76_38.lt (Nat.le_of_eq g284.symm))
  have g330 : n0 ≤ b284 := Nat.le_trans (own_sz O283) (Nat.le_of_eq g284.symm)
  have O331 : Old Z n0 h284 := O283.ext E284
  have f332 : Fld Z h284 b284 s7n "orders" "[[I" .null := D284 (Or.inr (ow hw 74 rfl)) (ty := (.array (.array .int))) (by decide)
  have f333 : Fld Z h284 b284 s7n "plan" s8n .null := D284 (Or.inr (ow hw 76 rfl)) (ty := (.object s9n)) (by decide)
  obtain ⟨_, _, ⟨T334, L334, k334, n334⟩, -, X334, ⟨Lc334, hQ334, l334, y334, z334⟩, st334⟩ := X284.specialBack hx (y := M6) rfl hown (mvT hZ (ow hw 64 rfl)) (mvT hZ (ow hw 65 rfl)) (mvT hZ (ow hw 66 rfl)) (by decide) (backOf (W := 1) (au7_0 l Z a0 hw [] wDEFAULTCAPACITY_EMPTY_ELEMENTDATA kwDEFAULTCAPACITY_EMPTY_ELEMENTDATA hS b284 pa10 h284 n0 O331 A284 f332 f333 g330) hZ (ow hw 66 rfl) (ow hw 63 rfl) (by decide) (by decide)) (g := (mkF m 295 #[(vi pi1), (vi pi2), (vi pi3), (vi pi4), (vi pi5), (vi pi6), (vi pi7), (vr pa8), (vr pa9), (vr pa10), (vr pa11), (vi yp), (vi yn), (vi yo), (vi yr), (vr b7), .unset, .unset, .unset, .unset, .unset] [.null, (.ref pa10), (.ref b284), (.ref b284)])) rfl (by rw [hml]; rfl) (Steps.refl _) (a := b284) (argsL := [(.ref pa10), .null]) (rest := [(.ref b284)]) (lenOf pd_3 rfl) rfl (by show 2 * 0 + _ ≤ _; exact Nat.le_of_eq rfl) (hb hby at_295) (fun _ _ => ⟨rfl, e284, (by decide : 25 + 0 ≤ _), (by decide : 67 + 0 ≤ _)⟩)
  dsimp only [Pt.U, Pt.locs, Pt.cells, Pt.slots] at X334 l334 y334 z334 st334 hQ334
  subst l334 y334 z334
  obtain ⟨rfl, Nq334, K334q, p334_0, p334_1, p334_2⟩ := hQ334
  have N334 := Fr.app N76 Nq334
  have O335 : Old Z n0 T334.heap := O331.keep K334q (allS g330 all0)
  obtain ⟨T336, h336, X336, e336, E336, A336, D336, -, st336⟩ := newO X334 hx hZ hown (ow hw 61 rfl) (ow hw 62 rfl) (ow hw 63 rfl) rfl (g := (mkF m 300 #[(vi pi1), (vi pi2), (vi pi3), (vi pi4), (vi pi5), (vi pi6), (vi pi7), (vr pa8), (vr pa9), (vr pa10), (vr pa11), (vi yp), (vi yn), (vi yo), (vi yr), (vr b7), (vr b284), .unset, .unset, .unset, .unset] [])) rfl (hb hby at_300) (by decide) (by decide)
  obtain ⟨b336, g336⟩ : ∃ z, z = T334.heap.size := ⟨_, rfl⟩
  rw [← g336] at A336 D336 st336
  have f338 : Arv Z T334.heap pa8 pk12 (.array .int) (6 : Int32) ([(.ref pa13), (.ref pa14), (.ref pa15), (.ref pa16), (.ref pa17), (.ref pa18)]) .null := ((f286.ext E284).keep K334q (ninS ne285 nin0))
  have ne337 : pa8 ≠ b336 := Nat.ne_of_lt (Nat.lt_of_lt_of_le f338.lt (Nat.le_of_eq g336.symm))
  have f340 : Arv Z T334.heap pa9 pk19 (.array .int) (2 : Int32) ([(.ref pa20), (.ref pa21)]) .null := ((f288.ext E284).keep K334q (ninS ne287 nin0))
  have ne339 : pa9 ≠ b336 := Nat.ne_of_lt (Nat.lt_of_lt_of_le f340.lt (Nat.le_of_eq g336.symm))
  have f342 : Arv Z T334.heap pa10 pk22 (.array .int) (2 : Int32) ([(.ref pa23), (.ref pa24)]) .null := ((f290.ext E284).keep K334q (ninS ne289 nin0))
  have ne341 : pa10 ≠ b336 := Nat.ne_of_lt (Nat.lt_of_lt_of_le f342.lt (Nat.le_of_eq g336.symm))
  have f344 : Arv Z T334.heap pa11 pk25 (.array .int) (2 : Int32) ([(.ref pa26), (.ref pa27)]) .null := ((f292.ext E284).keep K334q (ninS ne291 nin0))
  have ne343 : pa11 ≠ b336 := Nat.ne_of_lt (Nat.lt_of_lt_of_le f344.lt (Nat.le_of_eq g336.symm))
  have f346 : Arv Z T334.heap pa13 pk28 .int (3 : Int32) ([(.int 0), (.int 1), (.int 2)]) (.int 0) := ((f294.ext E284).keep K334q (ninS ne293 nin0))
  have ne345 : pa13 ≠ b336 := Nat.ne_of_lt (Nat.lt_of_lt_of_le f346.lt (Nat.le_of_eq g336.symm))
  have f348 : Arv Z T334.heap pa14 pk29 .int (3 : Int32) ([(.int 0), (.int 2), (.int 1)]) (.int 0) := ((f296.ext E284).keep K334q (ninS ne295 nin0))
  have ne347 : pa14 ≠ b336 := Nat.ne_of_lt (Nat.lt_of_lt_of_le f348.lt (Nat.le_of_eq g336.symm))
  have f350 : Arv Z T334.heap pa15 pk30 .int (3 : Int32) ([(.int 1), (.int 0), (.int 2)]) (.int 0) := ((f298.ext E284).keep K334q (ninS ne297 nin0))
  have ne349 : pa15 ≠ b336 := Nat.ne_of_lt (Nat.lt_of_lt_of_le f350.lt (Nat.le_of_eq g336.symm))
  have f352 : Arv Z T334.heap pa16 pk31 .int (3 : Int32) ([(.int 1), (.int 2), (.int 0)]) (.int 0) := ((f300.ext E284).keep K334q (ninS ne299 nin0))
  have ne351 : pa16 ≠ b336 := Nat.ne_of_lt (Nat.lt_of_lt_of_le f352.lt (Nat.le_of_eq g336.symm))
  have f354 : Arv Z T334.heap pa17 pk32 .int (3 : Int32) ([(.int 2), (.int 0), (.int 1)]) (.int 0) := ((f302.ext E284).keep K334q (ninS ne301 nin0))
  have ne353 : pa17 ≠ b336 := Nat.ne_of_lt (Nat.lt_of_lt_of_le f354.lt (Nat.le_of_eq g336.symm))
  have f356 : Arv Z T334.heap pa18 pk33 .int (3 : Int32) ([(.int 2), (.int 1), (.int 0)]) (.int 0) := ((f304.ext E284).keep K334q (ninS ne303 nin0))
  have ne355 : pa18 ≠ b336 := Nat.ne_of_lt (Nat.lt_of_lt_of_le f356.lt (Nat.le_of_eq g336.symm))
  have f358 : Arv Z T334.heap pa20 pk34 .int (2 : Int32) ([(.int 0), (.int 1)]) (.int 0) := ((f306.ext E284).keep K334q (ninS ne305 nin0))
  have ne357 : pa20 ≠ b336 := Nat.ne_of_lt (Nat.lt_of_lt_of_le f358.lt (Nat.le_of_eq g336.symm))
  have f360 : Arv Z T334.heap pa21 pk35 .int (2 : Int32) ([(.int 1), (.int 0)]) (.int 0) := ((f308.ext E284).keep K334q (ninS ne307 nin0))
  have ne359 : pa21 ≠ b336 := Nat.ne_of_lt (Nat.lt_of_lt_of_le f360.lt (Nat.le_of_eq g336.symm))
  have f362 : Arv Z T334.heap pa23 pk36 .int (3 : Int32) ([(.int pi37), (.int pi38), (.int pi39)]) (.int 0) := ((f310.ext E284).keep K334q (ninS ne309 nin0))
  have ne361 : pa23 ≠ b336 := Nat.ne_of_lt (Nat.lt_of_lt_of_le f362.lt (Nat.le_of_eq g336.symm))
  have f364 : Arv Z T334.heap pa24 pk40 .int (2 : Int32) ([(.int pi41), (.int pi42)]) (.int 0) := ((f312.ext E284).keep K334q (ninS ne311 nin0))
  have ne363 : pa24 ≠ b336 := Nat.ne_of_lt (Nat.lt_of_lt_of_le f364.lt (Nat.le_of_eq g336.symm))
  have f366 : Arv Z T334.heap pa26 pk43 .int (3 : Int32) ([(.int pi44), (.int pi45), (.int pi46)]) (.int 0) := ((f314.ext E284).keep K334q (ninS ne313 nin0))
  have ne365 : pa26 ≠ b336 := Nat.ne_of_lt (Nat.lt_of_lt_of_le f366.lt (Nat.le_of_eq g336.symm))
  have f368 : Arv Z T334.heap pa27 pk47 .int (2 : Int32) ([(.int pi48), (.int pi49)]) (.int 0) := ((f316.ext E284).keep K334q (ninS ne315 nin0))
  have ne367 : pa27 ≠ b336 := Nat.ne_of_lt (Nat.lt_of_lt_of_le f368.lt (Nat.le_of_eq g336.symm))
  have f370 : Exa Z T334.heap b7 s3n := ((p76_0.ext E284).keep K334q)
  have ne369 : b7 ≠ b336 := Nat.ne_of_lt (Nat.lt_of_lt_of_le f370.lt (Nat.le_of_eq g336.symm))
  have f372 : Arv Z T334.heap b30 k30 .int (2 : Int32) ([(.int 3), (.int 2)]) (.int 0) := ((f319.ext E284).keep K334q (ninS ne318 nin0))
  have ne371 : b30 ≠ b336 := Nat.ne_of_lt (Nat.lt_of_lt_of_le f372.lt (Nat.le_of_eq g336.symm))
  have f374 : Exa Z T334.heap e1_76 "[[[I" := ((p76_6.ext E284).keep K334q)
  have ne373 : e1_76 ≠ b336 := Nat.ne_of_lt (Nat.lt_of_lt_of_le f374.lt (Nat.le_of_eq g336.symm))
  have f376 : Exa Z T334.heap e2_76 s0n := ((p76_10.ext E284).keep K334q)
  have ne375 : e2_76 ≠ b336 := Nat.ne_of_lt (Nat.lt_of_lt_of_le f376.lt (Nat.le_of_eq g336.symm))
  have f378 : Exa Z T334.heap e3_76 "[I" := ((p76_15.ext E284).keep K334q)
  have ne377 : e3_76 ≠ b336 := Nat.ne_of_lt (Nat.lt_of_lt_of_le f378.lt (Nat.le_of_eq g336.symm))
  have f380 : Exa Z T334.heap e5_76 "[[I" := ((p76_18.ext E284).keep K334q)
  have ne379 : e5_76 ≠ b336 := Nat.ne_of_lt (Nat.lt_of_lt_of_le f380.lt (Nat.le_of_eq g336.symm))
  have f382 : Exa Z T334.heap e6_76 "[[I" := ((p76_22.ext E284).keep K334q)
  have ne381 : e6_76 ≠ b336 := Nat.ne_of_lt (Nat.lt_of_lt_of_le f382.lt (Nat.le_of_eq g336.symm))
  have f384 : Exa Z T334.heap e8_76 "[I" := ((p76_26.ext E284).keep K334q)
  have ne383 : e8_76 ≠ b336 := Nat.ne_of_lt (Nat.lt_of_lt_of_le f384.lt (Nat.le_of_eq g336.symm))
  have f386 : Exa Z T334.heap e9_76 "[I" := ((p76_29.ext E284).keep K334q)
  have ne385 : e9_76 ≠ b336 := Nat.ne_of_lt (Nat.lt_of_lt_of_le f386.lt (Nat.le_of_eq g336.symm))
  have f388 : Exa Z T334.heap e10_76 "[I" := ((p76_32.ext E284).keep K334q)
  have ne387 : e10_76 ≠ b336 := Nat.ne_of_lt (Nat.lt_of_lt_of_le f388.lt (Nat.le_of_eq g336.symm))
  have f390 : Exa Z T334.heap e12_76 "[I" := ((p76_35.ext E284).keep K334q)
  have ne389 : e12_76 ≠ b336 := Nat.ne_of_lt (Nat.lt_of_lt_of_le f390.lt (Nat.le_of_eq g336.symm))
  have f392 : Exa Z T334.heap e13_76 "[I" := ((p76_38.ext E284).keep K334q)
  have ne391 : e13_76 ≠ b336 := Nat.ne_of_lt (Nat.lt_of_lt_of_le f392.lt (Nat.le_of_eq g336.symm))
  have ne393 : b284 ≠ b336 := Nat.ne_of_lt (Nat.lt_of_lt_of_le p334_0.lt (Nat.le_of_eq g336.symm))
  have g394 : n0 ≤ b336 := Nat.le_trans (own_sz O335) (Nat.le_of_eq g336.symm)
  have O395 : Old Z n0 h336 := O335.ext E336
  have f396 : Fld Z h336 b336 s7n "orders" "[[I" .null := D336 (Or.inr (ow hw 74 rfl)) (ty := (.array (.array .int))) (by decide)
  have f397 : Fld Z h336 b336 s7n "plan" s8n .null := D336 (Or.inr (ow hw 76 rfl)) (ty := (.object s9n)) (by decide)
  obtain ⟨_, _, ⟨T398, L398, k398, n398⟩, -, X398, ⟨Lc398, hQ398, l398, y398, z398⟩, st398⟩ := X336.specialBack hx (y := M6) rfl hown (mvT hZ (ow hw 64 rfl)) (mvT hZ (ow hw 65 rfl)) (mvT hZ (ow hw 66 rfl)) (by decide) (backOf (W := 1) (au7_0 l Z a0 hw [] wDEFAULTCAPACITY_EMPTY_ELEMENTDATA kwDEFAULTCAPACITY_EMPTY_ELEMENTDATA hS b336 pa11 h336 n0 O395 A336 f396 f397 g394) hZ (ow hw 66 rfl) (ow hw 63 rfl) (by decide) (by decide)) (g := (mkF m 307 #[(vi pi1), (vi pi2), (vi pi3), (vi pi4), (vi pi5), (vi pi6), (vi pi7), (vr pa8), (vr pa9), (vr pa10), (vr pa11), (vi yp), (vi yn), (vi yo), (vi yr), (vr b7), (vr b284), .unset, .unset, .unset, .unset] [.null, (.ref pa11), (.ref b336), (.ref b336)])) rfl (by rw [hml]; rfl) (Steps.refl _) (a := b336) (argsL := [(.ref pa11), .null]) (rest := [(.ref b336)]) (lenOf pd_3 rfl) rfl (by show 2 * 0 + _ ≤ _; exact Nat.le_of_eq rfl) (hb hby at_307) (fun _ _ => ⟨rfl, e336, (by decide : 26 + 0 ≤ _), (by decide : 69 + 0 ≤ _)⟩)
  dsimp only [Pt.U, Pt.locs, Pt.cells, Pt.slots] at X398 l398 y398 z398 st398 hQ398
  subst l398 y398 z398
  obtain ⟨rfl, Nq398, K398q, p398_0, p398_1, p398_2⟩ := hQ398
  have N398 := Fr.app N334 Nq398
  have O399 : Old Z n0 T398.heap := O395.keep K398q (allS g394 all0)
  have pre400 : ∀ t, Steps p.tables e below (T398.setTop (mkF m 312 #[(vi pi1), (vi pi2), (vi pi3), (vi pi4), (vi pi5), (vi pi6), (vi pi7), (vr pa8), (vr pa9), (vr pa10), (vr pa11), (vi yp), (vi yn), (vi yo), (vi yr), (vr b7), (vr b284), (vr b336), .unset, .unset, .unset] [])) t → Steps p.tables e below (T0.setTop (mkF m 226 #[(vi pi1), (vi pi2), (vi pi3), (vi pi4), (vi pi5), (vi pi6), (vi pi7), (vr pa8), (vr pa9), (vr pa10), (vr pa11), .unset, .unset, .unset, .unset, .unset, .unset, .unset, .unset, .unset, .unset] [])) t := by
    intro t k
    refine pre6 t ?_
    show Steps p.tables e below (T0.setTop (mkF m 264 #[(vi pi1), (vi pi2), (vi pi3), (vi pi4), (vi pi5), (vi pi6), (vi pi7), (vr pa8), (vr pa9), (vr pa10), (vr pa11), (vi yp), (vi yn), (vi yo), .unset, .unset, .unset, .unset, .unset, .unset, .unset] [(.int yr)])) _
    refine XS.istore X0.here hx rfl (hb hby at_264) rfl (l' := #[(vi pi1), (vi pi2), (vi pi3), (vi pi4), (vi pi5), (vi pi6), (vi pi7), (vr pa8), (vr pa9), (vr pa10), (vr pa11), (vi yp), (vi yn), (vi yo), (vi yr), .unset, .unset, .unset, .unset, .unset, .unset]) rfl ?_
    refine st7 _ ?_
    refine XS.dup X7.here hx rfl (hb hby at_269) rfl rfl ?_
    refine XS.iconst X7.here hx rfl (hb hby at_270) ?_
    refine st30 _ ?_
    refine XS.dup X30.here hx rfl (hb hby at_273) rfl rfl ?_
    show Steps p.tables e below (T30.setTop (mkF m 274 #[(vi pi1), (vi pi2), (vi pi3), (vi pi4), (vi pi5), (vi pi6), (vi pi7), (vr pa8), (vr pa9), (vr pa10), (vr pa11), (vi yp), (vi yn), (vi yo), (vi yr), .unset, .unset, .unset, .unset, .unset, .unset] [(.ref b30), (.ref b30), (.ref b7), (.ref b7)])) _
    refine XS.iconst X30.here hx rfl (hb hby at_274) ?_
    refine XS.iconst X30.here hx rfl (hb hby at_275) ?_
    refine st66 _ ?_
    refine XS.dup X66.here hx rfl (hb hby at_277) rfl rfl ?_
    refine XS.iconst X66.here hx rfl (hb hby at_278) ?_
    refine XS.iconst X66.here hx rfl (hb hby at_279) ?_
    show Steps p.tables e below (T66.setTop (mkF m 280 #[(vi pi1), (vi pi2), (vi pi3), (vi pi4), (vi pi5), (vi pi6), (vi pi7), (vr pa8), (vr pa9), (vr pa10), (vr pa11), (vi yp), (vi yn), (vi yo), (vi yr), .unset, .unset, .unset, .unset, .unset, .unset] [(.int 2), (.int 1), (.ref b30), (.ref b30), (.ref b7), (.ref b7)])) _
    refine st68 _ ?_
    refine XS.iload X68.here hx rfl (hb hby at_281) rfl ?_
    refine st76.trans ?_
    refine XS.astore X76.here hx rfl (hb hby at_286) rfl rfl (l' := #[(vi pi1), (vi pi2), (vi pi3), (vi pi4), (vi pi5), (vi pi6), (vi pi7), (vr pa8), (vr pa9), (vr pa10), (vr pa11), (vi yp), (vi yn), (vi yo), (vi yr), (vr b7), .unset, .unset, .unset, .unset, .unset]) rfl ?_
    refine st284 _ ?_
    refine XS.dup X284.here hx rfl (hb hby at_291) rfl rfl ?_
    show Steps p.tables e below (T284.setTop (mkF m 292 #[(vi pi1), (vi pi2), (vi pi3), (vi pi4), (vi pi5), (vi pi6), (vi pi7), (vr pa8), (vr pa9), (vr pa10), (vr pa11), (vi yp), (vi yn), (vi yo), (vi yr), (vr b7), .unset, .unset, .unset, .unset, .unset] [(.ref b284), (.ref b284)])) _
    refine XS.aload X284.here hx rfl (hb hby at_292) rfl rfl ?_
    refine XS.aconstNull X284.here hx rfl (hb hby at_294) ?_
    refine st334.trans ?_
    refine XS.astore X334.here hx rfl (hb hby at_298) rfl rfl (l' := #[(vi pi1), (vi pi2), (vi pi3), (vi pi4), (vi pi5), (vi pi6), (vi pi7), (vr pa8), (vr pa9), (vr pa10), (vr pa11), (vi yp), (vi yn), (vi yo), (vi yr), (vr b7), (vr b284), .unset, .unset, .unset, .unset]) rfl ?_
    refine st336 _ ?_
    refine XS.dup X336.here hx rfl (hb hby at_303) rfl rfl ?_
    show Steps p.tables e below (T336.setTop (mkF m 304 #[(vi pi1), (vi pi2), (vi pi3), (vi pi4), (vi pi5), (vi pi6), (vi pi7), (vr pa8), (vr pa9), (vr pa10), (vr pa11), (vi yp), (vi yn), (vi yo), (vi yr), (vr b7), (vr b284), .unset, .unset, .unset, .unset] [(.ref b336), (.ref b336)])) _
    refine XS.aload X336.here hx rfl (hb hby at_304) rfl rfl ?_
    refine XS.aconstNull X336.here hx rfl (hb hby at_306) ?_
    refine st398.trans ?_
    refine XS.astore X398.here hx rfl (hb hby at_310) rfl rfl (l' := #[(vi pi1), (vi pi2), (vi pi3), (vi pi4), (vi pi5), (vi pi6), (vi pi7), (vr pa8), (vr pa9), (vr pa10), (vr pa11), (vi yp), (vi yn), (vi yo), (vi yr), (vr b7), (vr b284), (vr b336), .unset, .unset, .unset]) rfl ?_
    exact k
  have f401 : Arv Z T398.heap pa8 pk12 (.array .int) (6 : Int32) ([(.ref pa13), (.ref pa14), (.ref pa15), (.ref pa16), (.ref pa17), (.ref pa18)]) .null := ((f338.ext E336).keep K398q (ninS ne337 nin0))
  have f402 : Arv Z T398.heap pa9 pk19 (.array .int) (2 : Int32) ([(.ref pa20), (.ref pa21)]) .null := ((f340.ext E336).keep K398q (ninS ne339 nin0))
  have f403 : Arv Z T398.heap pa10 pk22 (.array .int) (2 : Int32) ([(.ref pa23), (.ref pa24)]) .null := ((f342.ext E336).keep K398q (ninS ne341 nin0))
  have f404 : Arv Z T398.heap pa11 pk25 (.array .int) (2 : Int32) ([(.ref pa26), (.ref pa27)]) .null := ((f344.ext E336).keep K398q (ninS ne343 nin0))
  have f405 : Exa Z T398.heap b7 s3n := ((f370.ext E336).keep K398q)
  have f406 : Fld Z T398.heap b7 s3n "counts" "[[[I" (.ref e1_76) := ((((p76_1.ext E284).keep K334q (ninS ne317 nin0)).ext E336).keep K398q (ninS ne369 nin0))
  have f407 : Fld Z T398.heap b7 s3n "memory" "I" (.int pi6) := ((((p76_2.ext E284).keep K334q (ninS ne317 nin0)).ext E336).keep K398q (ninS ne369 nin0))
  have f408 : Fld Z T398.heap b7 s3n "tours" s5n (.ref e2_76) := ((((p76_3.ext E284).keep K334q (ninS ne317 nin0)).ext E336).keep K398q (ninS ne369 nin0))
  have f409 : Fld Z T398.heap b7 s3n "trains" "[I" (.ref e3_76) := ((((p76_4.ext E284).keep K334q (ninS ne317 nin0)).ext E336).keep K398q (ninS ne369 nin0))
  have f410 : Exa Z T398.heap b284 s7n := ((p334_0.ext E336).keep K398q)
  have f411 : Fld Z T398.heap b284 s7n "orders" "[[I" (.ref pa10) := ((p334_1.ext E336).keep K398q (ninS ne393 nin0))
  have f412 : Arv Z T398.heap pa13 pk28 .int (3 : Int32) ([(.int 0), (.int 1), (.int 2)]) (.int 0) := ((f346.ext E336).keep K398q (ninS ne345 nin0))
  have f413 : Arv Z T398.heap pa14 pk29 .int (3 : Int32) ([(.int 0), (.int 2), (.int 1)]) (.int 0) := ((f348.ext E336).keep K398q (ninS ne347 nin0))
  have f414 : Arv Z T398.heap pa15 pk30 .int (3 : Int32) ([(.int 1), (.int 0), (.int 2)]) (.int 0) := ((f350.ext E336).keep K398q (ninS ne349 nin0))
  have f415 : Arv Z T398.heap pa16 pk31 .int (3 : Int32) ([(.int 1), (.int 2), (.int 0)]) (.int 0) := ((f352.ext E336).keep K398q (ninS ne351 nin0))
  have f416 : Arv Z T398.heap pa17 pk32 .int (3 : Int32) ([(.int 2), (.int 0), (.int 1)]) (.int 0) := ((f354.ext E336).keep K398q (ninS ne353 nin0))
  have f417 : Arv Z T398.heap pa18 pk33 .int (3 : Int32) ([(.int 2), (.int 1), (.int 0)]) (.int 0) := ((f356.ext E336).keep K398q (ninS ne355 nin0))
  have f418 : Arv Z T398.heap pa20 pk34 .int (2 : Int32) ([(.int 0), (.int 1)]) (.int 0) := ((f358.ext E336).keep K398q (ninS ne357 nin0))
  have f419 : Arv Z T398.heap pa21 pk35 .int (2 : Int32) ([(.int 1), (.int 0)]) (.int 0) := ((f360.ext E336).keep K398q (ninS ne359 nin0))
  have f420 : Arv Z T398.heap pa23 pk36 .int (3 : Int32) ([(.int pi37), (.int pi38), (.int pi39)]) (.int 0) := ((f362.ext E336).keep K398q (ninS ne361 nin0))
  have f421 : Arv Z T398.heap pa24 pk40 .int (2 : Int32) ([(.int pi41), (.int pi42)]) (.int 0) := ((f364.ext E336).keep K398q (ninS ne363 nin0))
  have f422 : Arv Z T398.heap pa26 pk43 .int (3 : Int32) ([(.int pi44), (.int pi45), (.int pi46)]) (.int 0) := ((f366.ext E336).keep K398q (ninS ne365 nin0))
  have f423 : Arv Z T398.heap pa27 pk47 .int (2 : Int32) ([(.int pi48), (.int pi49)]) (.int 0) := ((f368.ext E336).keep K398q (ninS ne367 nin0))
  have f424 : Arv Z T398.heap e1_76 e4_76 (.array (.array .int)) (2 : Int32) ([(.ref e5_76), (.ref e6_76)]) .null := ((((p76_7.ext E284).keep K334q (ninS ne320 nin0)).ext E336).keep K398q (ninS ne373 nin0))
  have f425 : Exa Z T398.heap e2_76 s0n := ((f376.ext E336).keep K398q)
  have f426 : Fld Z T398.heap e2_76 s4n "modCount" "I" (.int 0) := ((((p76_11.ext E284).keep K334q (ninS ne321 nin0)).ext E336).keep K398q (ninS ne375 nin0))
  have f427 : Fld Z T398.heap e2_76 s0n "elementData" s1n (.ref wDEFAULTCAPACITY_EMPTY_ELEMENTDATA) := ((((p76_12.ext E284).keep K334q (ninS ne321 nin0)).ext E336).keep K398q (ninS ne375 nin0))
  have f428 : Fld Z T398.heap e2_76 s0n "size" "I" (.int 0) := ((((p76_13.ext E284).keep K334q (ninS ne321 nin0)).ext E336).keep K398q (ninS ne375 nin0))
  have f429 : Arv Z T398.heap e3_76 k30 .int (2 : Int32) ([(.int 3), (.int 2)]) (.int 0) := ((((p76_16.ext E284).keep K334q (ninS ne322 nin0)).ext E336).keep K398q (ninS ne377 nin0))
  have f430 : Arv Z T398.heap e5_76 e7_76 (.array .int) (3 : Int32) ([(.ref e8_76), (.ref e9_76), (.ref e10_76)]) .null := ((((p76_19.ext E284).keep K334q (ninS ne323 nin0)).ext E336).keep K398q (ninS ne379 nin0))
  have f431 : Arv Z T398.heap e6_76 e11_76 (.array .int) (2 : Int32) ([(.ref e12_76), (.ref e13_76)]) .null := ((((p76_23.ext E284).keep K334q (ninS ne324 nin0)).ext E336).keep K398q (ninS ne381 nin0))
  have f432 : Arv Z T398.heap e8_76 e14_76 .int (3 : Int32) ([(.int 0), (.int 0), (.int 0)]) (.int 0) := ((((p76_27.ext E284).keep K334q (ninS ne325 nin0)).ext E336).keep K398q (ninS ne383 nin0))
  have f433 : Exa Z T398.heap e8_76 "[I" := ((f384.ext E336).keep K398q)
  have f434 : Arv Z T398.heap e9_76 e14_76 .int (3 : Int32) ([(.int 0), (.int 0), (.int 0)]) (.int 0) := ((((p76_30.ext E284).keep K334q (ninS ne326 nin0)).ext E336).keep K398q (ninS ne385 nin0))
  have f435 : Exa Z T398.heap e9_76 "[I" := ((f386.ext E336).keep K398q)
  have f436 : Arv Z T398.heap e10_76 e14_76 .int (3 : Int32) ([(.int 0), (.int 0), (.int 0)]) (.int 0) := ((((p76_33.ext E284).keep K334q (ninS ne327 nin0)).ext E336).keep K398q (ninS ne387 nin0))
  have f437 : Exa Z T398.heap e10_76 "[I" := ((f388.ext E336).keep K398q)
  have f438 : Arv Z T398.heap e12_76 e15_76 .int (2 : Int32) ([(.int 0), (.int 0)]) (.int 0) := ((((p76_36.ext E284).keep K334q (ninS ne328 nin0)).ext E336).keep K398q (ninS ne389 nin0))
  have f439 : Exa Z T398.heap e12_76 "[I" := ((f390.ext E336).keep K398q)
  have f440 : Arv Z T398.heap e13_76 e15_76 .int (2 : Int32) ([(.int 0), (.int 0)]) (.int 0) := ((((p76_39.ext E284).keep K334q (ninS ne329 nin0)).ext E336).keep K398q (ninS ne391 nin0))
  have f441 : Exa Z T398.heap e13_76 "[I" := ((f392.ext E336).keep K398q)
  obtain ⟨t9, o9, hs9, hr9⟩ := tl_tl_rm0_o_k hw wDEFAULTCAPACITY_EMPTY_ELEMENTDATA kwDEFAULTCAPACITY_EMPTY_ELEMENTDATA hS pi1 pi2 pi3 pi4 pi5 pi6 pi7 pa8 pa9 pa10 pa11 yp yn yo yr b7 b284 b336 pk12 pa13 pa14 pa15 pa16 pa17 pa18 pk19 pa20 pa21 pk22 pa23 pa24 pk25 pa26 pa27 e1_76 e2_76 e3_76 pk28 pk29 pk30 pk31 pk32 pk33 pk34 pk35 pk36 pi37 pi38 pi39 pk40 pi41 pi42 pk43 pi44 pi45 pi46 pk47 pi48 pi49 e4_76 e5_76 e6_76 k30 e7_76 e8_76 e9_76 e10_76 e11_76 e12_76 e13_76 e14_76 e15_76 X398 hx hZ hby hml hown hnm hret0 hlk0 rfl N398 O399 f401 f402 f403 f404 f405 f406 f407 f408 f409 f410 f411 p398_0 p398_1 f412 f413 f414 f415 f416 f417 f418 f419 f420 f421 f422 f423 f424 f425 f426 f427 f428 f429 f430 f431 f432 f433 f434 f435 f436 f437 f438 f439 f440 f441 P37 P38 P39 P40 P41 P42 P43 P44 P45 P46 P47 P48 P49 hp0 hyn ho0 ht0 g130 g206 g225 g244 g263 g282 ne114 ne190 ne209 ne228 ne247 ne266 ne115 ne191 ne210 ne229 ne248 ne267 ne128 ne204 ne223 ne242 ne261 ne280 (Ne.symm ne321) (Ne.symm ne375) (Ne.symm ne383) (Ne.symm ne385) (Ne.symm ne387) (Ne.symm ne389) (Ne.symm ne391) ne124 ne200 ne219 ne238 ne257 ne276 ne125 ne201 ne220 ne239 ne258 ne277 ne126 ne202 ne221 ne240 ne259 ne278 ne127 ne203 ne222 ne241 ne260 ne279 p76_40 p76_44 p76_45 p76_46 p76_47 p76_48 p76_49 p76_50 p76_51 p76_52 p76_53 p76_54 p76_55 p76_56 p76_59 p76_60 p76_61 p76_62 p76_63 p76_65 p76_66 p76_67 p76_68 p76_69 p76_70 p76_71 p76_72 p76_73 p76_74 p76_75 p76_76 p76_77 p76_78 p76_79 p76_80 p76_81 p76_82 p76_83 p76_84
  exact ⟨t9, o9, pre400 _ hs9, hr9⟩
def Q_rm0 (Z : State) (wDEFAULTCAPACITY_EMPTY_ELEMENTDATA : Addr) (kwDEFAULTCAPACITY_EMPTY_ELEMENTDATA : ClassId) (p0 : Int32) (p1 : Int32) (p2 : Int32) (p3 : Int32) (p4 : Int32) (h0 : Heap) (n0 : Nat) (v : Option Value) (h : Heap) (L : List Loc) : Prop := v = some (.int 1) ∧ Fr n0 L
theorem rm0 (l : Launch) (Z : State) (a0 : Array Value) (hw : ∀ d ∈ tables_1, d.before a0 Z = true) (ws : List Jvm.Cond) (wDEFAULTCAPACITY_EMPTY_ELEMENTDATA : Addr) (kwDEFAULTCAPACITY_EMPTY_ELEMENTDATA : ClassId) (hS : SS Z wDEFAULTCAPACITY_EMPTY_ELEMENTDATA kwDEFAULTCAPACITY_EMPTY_ELEMENTDATA) (p0 : Int32) (p1 : Int32) (p2 : Int32) (p3 : Int32) (p4 : Int32) (h0 : Heap) (n0 : Nat) (O0 : Old Z n0 h0)  :
    MetB l x code maxLocals ret ws room_1 Z h0 #[(.int p0), (.int p1), (.int p2), (.int p3), (.int p4)] (Q_rm0 Z wDEFAULTCAPACITY_EMPTY_ELEMENTDATA kwDEFAULTCAPACITY_EMPTY_ELEMENTDATA p0 p1 p2 p3 p4 h0 n0) := by
  refine own_body (plainFor_of_name pn_com_example_loopline_loopline_dispatch_PheromoneWeightPinLaw) ?_
  intro p e s m below meth c s₁ hx hby hml hown hnm hret0 hlk0 hZ X0 e0
  have N0 := Fr.nil n0
  have pre0 : ∀ t, Steps p.tables e below (s₁.setTop (mkF m 0 #[(vi p0), (vi p1), (vi p2), (vi p3), (vi p4), .unset, .unset, .unset, .unset, .unset, .unset, .unset, .unset, .unset, .unset, .unset, .unset, .unset, .unset, .unset, .unset] [])) t → Steps p.tables e below (s₁.setTop (entryFrame m #[(.int p0), (.int p1), (.int p2), (.int p3), (.int p4)] maxLocals)) t := fun t k => castTop (ef_rm0 m p0 p1 p2 p3 p4) k
  have hS0 := hS
  obtain ⟨S_wDEFAULTCAPACITY_EMPTY_ELEMENTDATA, E_wDEFAULTCAPACITY_EMPTY_ELEMENTDATA, V_wDEFAULTCAPACITY_EMPTY_ELEMENTDATA⟩ := hS0
  obtain ⟨_, _, ⟨T1, L1, k1, n1⟩, -, X1, ⟨Lc1, hQ1, l1, y1, z1⟩, st1⟩ := Jvm.LawKit.callS X0 hx (y := M0) hown (mvT hZ (ow hw 0 rfl)) (mvT hZ (ow hw 1 rfl)) (mvT hZ (ow hw 2 rfl)) (mvT hZ (ow hw 3 rfl)) (by decide) (backOf (W := 0) (rmMax l Z a0 hw [] wDEFAULTCAPACITY_EMPTY_ELEMENTDATA kwDEFAULTCAPACITY_EMPTY_ELEMENTDATA hS p0 (2 : Int32) h0 n0 O0 ) hZ (ow hw 3 rfl) (ow hw 2 rfl) (by decide) (by decide)) (g := (mkF m 2 #[(vi p0), (vi p1), (vi p2), (vi p3), (vi p4), .unset, .unset, .unset, .unset, .unset, .unset, .unset, .unset, .unset, .unset, .unset, .unset, .unset, .unset, .unset, .unset] [(.int 2), (.int p0)])) rfl (by rw [hml]; rfl) (argsL := [(.int p0), (.int 2)]) (rest := []) (lenOf pd_0 rfl) rfl (by show 2 * 0 + _ ≤ _; exact Nat.le_of_eq rfl) (hb hby at_2) (fun _ _ => ⟨rfl, e0, (by decide : 0 + 0 ≤ _), (by decide : 0 + 0 ≤ _)⟩)
  dsimp only [Pt.U, Pt.locs, Pt.cells, Pt.slots] at X1 l1 y1 z1 st1 hQ1
  subst l1 y1 z1
  obtain ⟨r_1, rfl, Nq1, K1q, p1_0⟩ := hQ1
  have N1 := Fr.app N0 Nq1
  have hm2 : ¬ r_1 < (2 : Int32) := own_mx p1_0
  have hm1 : ¬ r_1 < (1 : Int32) := own_mx1 hm2
  obtain ⟨yk, hyk⟩ : ∃ z : Int32, z = ((p3 &&& (2147483647 : Int32)) % (3 : Int32)) := ⟨_, rfl⟩
  have pre2 : ∀ t, Steps p.tables e below (T1.setTop (mkF m 13 #[(vi p0), (vi p1), (vi p2), (vi p3), (vi p4), (vi r_1), .unset, .unset, .unset, .unset, .unset, .unset, .unset, .unset, .unset, .unset, .unset, .unset, .unset, .unset, .unset] [(.int yk)])) t → Steps p.tables e below (s₁.setTop (entryFrame m #[(.int p0), (.int p1), (.int p2), (.int p3), (.int p4)] maxLocals)) t := by
    intro t k
    rw [hyk] at k
    refine pre0 t ?_
    show Steps p.tables e below (s₁.setTop (mkF m 0 #[(vi p0), (vi p1), (vi p2), (vi p3), (vi p4), .unset, .unset, .unset, .unset, .unset, .unset, .unset, .unset, .unset, .unset, .unset, .unset, .unset, .unset, .unset, .unset] [])) _
    refine XS.iloadN X0.here hx rfl (hb hby at_0) rfl ?_
    refine XS.iconst X0.here hx rfl (hb hby at_1) ?_
    refine st1 _ ?_
    refine XS.istore X1.here hx rfl (hb hby at_5) rfl (l' := #[(vi p0), (vi p1), (vi p2), (vi p3), (vi p4), (vi r_1), .unset, .unset, .unset, .unset, .unset, .unset, .unset, .unset, .unset, .unset, .unset, .unset, .unset, .unset, .unset]) rfl ?_
    refine XS.iloadN X1.here hx rfl (hb hby at_7) rfl ?_
    refine X1.ldcInt hx hown (mvT hZ (ow hw 4 rfl)) (g := (mkF m 8 #[(vi p0), (vi p1), (vi p2), (vi p3), (vi p4), (vi r_1), .unset, .unset, .unset, .unset, .unset, .unset, .unset, .unset, .unset, .unset, .unset, .unset, .unset, .unset, .unset] [(.int p3)])) rfl (hb hby at_8) _ ?_
    show Steps p.tables e below (T1.setTop (mkF m 10 #[(vi p0), (vi p1), (vi p2), (vi p3), (vi p4), (vi r_1), .unset, .unset, .unset, .unset, .unset, .unset, .unset, .unset, .unset, .unset, .unset, .unset, .unset, .unset, .unset] [(.int 2147483647), (.int p3)])) _
    refine XS.iand X1.here hx rfl (hb hby at_10) rfl ?_
    refine XS.iconst X1.here hx rfl (hb hby at_11) ?_
    refine iremM X1 hx rfl (hb hby at_12) rfl (by decide) ?_
    exact k
  have hk0 : inT yk := by rw [hyk]; exact own_mod3 p3
  obtain ⟨T3, h3, k3, X3, e3, E3, A3, Z3, O3, st3⟩ := newRA X1 hx hZ (ty := .int) hown (by decide) (ow hw 5 rfl) (ow hw 6 rfl) K1q (g := (mkF m 17 #[(vi p0), (vi p1), (vi p2), (vi p3), (vi p4), (vi r_1), (vi yk), .unset, .unset, .unset, .unset, .unset, .unset, .unset, .unset, .unset, .unset, .unset, .unset, .unset, .unset] [(.int 6)])) rfl (hb hby at_17) rfl (by decide) (cap := 6) (by decide) (by decide) (by decide) (by decide) (ad := "[[I") rfl
  obtain ⟨b3, g3⟩ : ∃ z, z = h0.size := ⟨_, rfl⟩
  rw [← g3] at A3 Z3 st3
  have g4 : n0 ≤ b3 := Nat.le_trans (own_sz O0) (Nat.le_of_eq g3.symm)
  have O5 : Old Z n0 h3 := O0.ext E3
  have V3 : Arv Z h3 b3 k3 (.array .int) (6 : Int32) ([.null, .null, .null, .null, .null, .null]) .null := (Arv.new A3 (by decide)).pad (pad_rep [] .null 6)
  obtain ⟨T6, h6, k6, X6, e6, E6, A6, Z6, st6⟩ := newPE X3 hx hZ (ow hw 7 rfl) e3 (g := (mkF m 23 #[(vi p0), (vi p1), (vi p2), (vi p3), (vi p4), (vi r_1), (vi yk), .unset, .unset, .unset, .unset, .unset, .unset, .unset, .unset, .unset, .unset, .unset, .unset, .unset, .unset] [(.int 3), (.int 0), (.ref b3), (.ref b3)])) rfl (hb hby at_23) rfl (by decide) (cap := 3) (by decide) (by decide) (by decide) (by decide) (ad := "[I") rfl
  obtain ⟨b6, g6⟩ : ∃ z, z = h3.size := ⟨_, rfl⟩
  rw [← g6] at A6 Z6 st6
  have ne7 : b3 ≠ b6 := Nat.ne_of_lt (Nat.lt_of_lt_of_le V3.lt (Nat.le_of_eq g6.symm))
  have g8 : n0 ≤ b6 := Nat.le_trans (own_sz O5) (Nat.le_of_eq g6.symm)
  have O9 : Old Z n0 h6 := O5.ext E6
  have V6 : Arv Z h6 b6 k6 .int (3 : Int32) ([(.int 0), (.int 0), (.int 0)]) (.int 0) := (Arv.new A6 (by decide)).pad (pad_rep [] (.int 0) 3)
  obtain ⟨cl10, Ar10, qc10, Sz10, Nn10, Ha10, Gg10⟩ := (id V6)
  have hin10 : ¬ ((0 : Int32) < 0 ∨ cl10.slots.size ≤ ((0 : Int32)).toNatClampNeg) := inb_of Sz10 ⟨by decide, by decide⟩
  obtain ⟨T10, h10, X10, e10, W10, st10⟩ := stI X6 hx hZ e6 Ar10 (j := (0 : Int32)) hin10 (g := (mkF m 28 #[(vi p0), (vi p1), (vi p2), (vi p3), (vi p4), (vi r_1), (vi yk), .unset, .unset, .unset, .unset, .unset, .unset, .unset, .unset, .unset, .unset, .unset, .unset, .unset, .unset] [(.int 0), (.int 0), (.ref b6), (.ref b6), (.int 0), (.ref b3), (.ref b3)])) rfl rfl (hb hby at_28)
  have O11 : Old Z n0 h10 := O9.wr W10 g8
  have V10 : Arv Z h10 b6 k6 .int (3 : Int32) ([(.int 0), (.int 0), (.int 0)]) (.int 0) := (Arv.set Ar10 qc10 Sz10 Nn10 Ha10 Gg10 (v := (.int 0)) rfl W10 0 rfl (Nat.le_of_ble_eq_true rfl))
  have N10 := Fr.snoc X10 N1 g8
  obtain ⟨cl12, Ar12, qc12, Sz12, Nn12, Ha12, Gg12⟩ := (id V10)
  have hin12 : ¬ ((1 : Int32) < 0 ∨ cl12.slots.size ≤ ((1 : Int32)).toNatClampNeg) := inb_of Sz12 ⟨by decide, by decide⟩
  obtain ⟨T12, h12, X12, e12, W12, st12⟩ := stI X10 hx hZ e10 Ar12 (j := (1 : Int32)) hin12 (g := (mkF m 32 #[(vi p0), (vi p1), (vi p2), (vi p3), (vi p4), (vi r_1), (vi yk), .unset, .unset, .unset, .unset, .unset, .unset, .unset, .unset, .unset, .unset, .unset, .unset, .unset, .unset] [(.int 1), (.int 1), (.ref b6), (.ref b6), (.int 0), (.ref b3), (.ref b3)])) rfl rfl (hb hby at_32)
  have O13 : Old Z n0 h12 := O11.wr W12 g8
  have V12 : Arv Z h12 b6 k6 .int (3 : Int32) ([(.int 0), (.int 1), (.int 0)]) (.int 0) := (Arv.set Ar12 qc12 Sz12 Nn12 Ha12 Gg12 (v := (.int 1)) rfl W12 1 rfl (Nat.le_of_ble_eq_true rfl))
  have N12 := Fr.snoc X12 N10 g8
  obtain ⟨cl14, Ar14, qc14, Sz14, Nn14, Ha14, Gg14⟩ := (id V12)
  have hin14 : ¬ ((2 : Int32) < 0 ∨ cl14.slots.size ≤ ((2 : Int32)).toNatClampNeg) := inb_of Sz14 ⟨by decide, by decide⟩
  obtain ⟨T14, h14, X14, e14, W14, st14⟩ := stI X12 hx hZ e12 Ar14 (j := (2 : Int32)) hin14 (g := (mkF m 36 #[(vi p0), (vi p1), (vi p2), (vi p3), (vi p4), (vi r_1), (vi yk), .unset, .unset, .unset, .unset, .unset, .unset, .unset, .unset, .unset, .unset, .unset, .unset, .unset, .unset] [(.int 2), (.int 2), (.ref b6), (.ref b6), (.int 0), (.ref b3), (.ref b3)])) rfl rfl (hb hby at_36)
  have O15 : Old Z n0 h14 := O13.wr W14 g8
  have V14 : Arv Z h14 b6 k6 .int (3 : Int32) ([(.int 0), (.int 1), (.int 2)]) (.int 0) := (Arv.set Ar14 qc14 Sz14 Nn14 Ha14 Gg14 (v := (.int 2)) rfl W14 2 rfl (Nat.le_of_ble_eq_true rfl))
  have N14 := Fr.snoc X14 N12 g8
  have f16 : Arv Z h14 b3 k3 (.array .int) (6 : Int32) ([.null, .null, .null, .null, .null, .null]) .null := ((((V3.ext E6).other W10 ne7).other W12 ne7).other W14 ne7)
  have f18 : Exa Z h14 b6 "[I" := (((Z6.wr W10).wr W12).wr W14)
  obtain ⟨cl17, Ar17, qc17, Sz17, Nn17, Ha17, Gg17⟩ := (id f16)
  have hin17 : ¬ ((0 : Int32) < 0 ∨ cl17.slots.size ≤ ((0 : Int32)).toNatClampNeg) := inb_of Sz17 ⟨by decide, by decide⟩
  obtain ⟨T17, h17, X17, e17, W17, st17⟩ := stR X14 hx hZ e14 Ar17 (j := (0 : Int32)) hin17 rfl (Sto.ofVA Ar17 qc17 O3 (Ins.self f18)) (g := (mkF m 37 #[(vi p0), (vi p1), (vi p2), (vi p3), (vi p4), (vi r_1), (vi yk), .unset, .unset, .unset, .unset, .unset, .unset, .unset, .unset, .unset, .unset, .unset, .unset, .unset, .unset] [(.ref b6), (.int 0), (.ref b3), (.ref b3)])) rfl rfl (hb hby at_37)
  have O19 : Old Z n0 h17 := O15.wr W17 g4
  have V17 : Arv Z h17 b3 k3 (.array .int) (6 : Int32) ([(.ref b6), .null, .null, .null, .null, .null]) .null := Arv.set Ar17 qc17 Sz17 Nn17 Ha17 Gg17 (v := (.ref b6)) rfl W17 0 rfl (Nat.le_of_ble_eq_true rfl)
  have N17 := Fr.snoc X17 N14 g4
  obtain ⟨T20, h20, k20, X20, e20, E20, A20, Z20, st20⟩ := newPE X17 hx hZ (ow hw 7 rfl) e17 (g := (mkF m 41 #[(vi p0), (vi p1), (vi p2), (vi p3), (vi p4), (vi r_1), (vi yk), .unset, .unset, .unset, .unset, .unset, .unset, .unset, .unset, .unset, .unset, .unset, .unset, .unset, .unset] [(.int 3), (.int 1), (.ref b3), (.ref b3)])) rfl (hb hby at_41) rfl (by decide) (cap := 3) (by decide) (by decide) (by decide) (by decide) (ad := "[I") rfl
  obtain ⟨b20, g20⟩ : ∃ z, z = h17.size := ⟨_, rfl⟩
  rw [← g20] at A20 Z20 st20
  have ne21 : b3 ≠ b20 := Nat.ne_of_lt (Nat.lt_of_lt_of_le V17.lt (Nat.le_of_eq g20.symm))
  have f23 : Arv Z h17 b6 k6 .int (3 : Int32) ([(.int 0), (.int 1), (.int 2)]) (.int 0) := (V14.other W17 (Ne.symm ne7))
  have ne22 : b6 ≠ b20 := Nat.ne_of_lt (Nat.lt_of_lt_of_le f23.lt (Nat.le_of_eq g20.symm))
  have g24 : n0 ≤ b20 := Nat.le_trans (own_sz O19) (Nat.le_of_eq g20.symm)
  have O25 : Old Z n0 h20 := O19.ext E20
  have V20 : Arv Z h20 b20 k20 .int (3 : Int32) ([(.int 0), (.int 0), (.int 0)]) (.int 0) := (Arv.new A20 (by decide)).pad (pad_rep [] (.int 0) 3)
  obtain ⟨cl26, Ar26, qc26, Sz26, Nn26, Ha26, Gg26⟩ := (id V20)
  have hin26 : ¬ ((0 : Int32) < 0 ∨ cl26.slots.size ≤ ((0 : Int32)).toNatClampNeg) := inb_of Sz26 ⟨by decide, by decide⟩
  obtain ⟨T26, h26, X26, e26, W26, st26⟩ := stI X20 hx hZ e20 Ar26 (j := (0 : Int32)) hin26 (g := (mkF m 46 #[(vi p0), (vi p1), (vi p2), (vi p3), (vi p4), (vi r_1), (vi yk), .unset, .unset, .unset, .unset, .unset, .unset, .unset, .unset, .unset, .unset, .unset, .unset, .unset, .unset] [(.int 0), (.int 0), (.ref b20), (.ref b20), (.int 1), (.ref b3), (.ref b3)])) rfl rfl (hb hby at_46)
  have O27 : Old Z n0 h26 := O25.wr W26 g24
  have V26 : Arv Z h26 b20 k20 .int (3 : Int32) ([(.int 0), (.int 0), (.int 0)]) (.int 0) := (Arv.set Ar26 qc26 Sz26 Nn26 Ha26 Gg26 (v := (.int 0)) rfl W26 0 rfl (Nat.le_of_ble_eq_true rfl))
  have N26 := Fr.snoc X26 N17 g24
  obtain ⟨cl28, Ar28, qc28, Sz28, Nn28, Ha28, Gg28⟩ := (id V26)
  have hin28 : ¬ ((1 : Int32) < 0 ∨ cl28.slots.size ≤ ((1 : Int32)).toNatClampNeg) := inb_of Sz28 ⟨by decide, by decide⟩
  obtain ⟨T28, h28, X28, e28, W28, st28⟩ := stI X26 hx hZ e26 Ar28 (j := (1 : Int32)) hin28 (g := (mkF m 50 #[(vi p0), (vi p1), (vi p2), (vi p3), (vi p4), (vi r_1), (vi yk), .unset, .unset, .unset, .unset, .unset, .unset, .unset, .unset, .unset, .unset, .unset, .unset, .unset, .unset] [(.int 2), (.int 1), (.ref b20), (.ref b20), (.int 1), (.ref b3), (.ref b3)])) rfl rfl (hb hby at_50)
  have O29 : Old Z n0 h28 := O27.wr W28 g24
  have V28 : Arv Z h28 b20 k20 .int (3 : Int32) ([(.int 0), (.int 2), (.int 0)]) (.int 0) := (Arv.set Ar28 qc28 Sz28 Nn28 Ha28 Gg28 (v := (.int 2)) rfl W28 1 rfl (Nat.le_of_ble_eq_true rfl))
  have N28 := Fr.snoc X28 N26 g24
  obtain ⟨cl30, Ar30, qc30, Sz30, Nn30, Ha30, Gg30⟩ := (id V28)
  have hin30 : ¬ ((2 : Int32) < 0 ∨ cl30.slots.size ≤ ((2 : Int32)).toNatClampNeg) := inb_of Sz30 ⟨by decide, by decide⟩
  obtain ⟨T30, h30, X30, e30, W30, st30⟩ := stI X28 hx hZ e28 Ar30 (j := (2 : Int32)) hin30 (g := (mkF m 54 #[(vi p0), (vi p1), (vi p2), (vi p3), (vi p4), (vi r_1), (vi yk), .unset, .unset, .unset, .unset, .unset, .unset, .unset, .unset, .unset, .unset, .unset, .unset, .unset, .unset] [(.int 1), (.int 2), (.ref b20), (.ref b20), (.int 1), (.ref b3), (.ref b3)])) rfl rfl (hb hby at_54)
  have O31 : Old Z n0 h30 := O29.wr W30 g24
  have V30 : Arv Z h30 b20 k20 .int (3 : Int32) ([(.int 0), (.int 2), (.int 1)]) (.int 0) := (Arv.set Ar30 qc30 Sz30 Nn30 Ha30 Gg30 (v := (.int 1)) rfl W30 2 rfl (Nat.le_of_ble_eq_true rfl))
  have N30 := Fr.snoc X30 N28 g24
  have f32 : Arv Z h30 b3 k3 (.array .int) (6 : Int32) ([(.ref b6), .null, .null, .null, .null, .null]) .null := ((((V17.ext E20).other W26 ne21).other W28 ne21).other W30 ne21)
  have f34 : Exa Z h30 b20 "[I" := (((Z20.wr W26).wr W28).wr W30)
  obtain ⟨cl33, Ar33, qc33, Sz33, Nn33, Ha33, Gg33⟩ := (id f32)
  have hin33 : ¬ ((1 : Int32) < 0 ∨ cl33.slots.size ≤ ((1 : Int32)).toNatClampNeg) := inb_of Sz33 ⟨by decide, by decide⟩
  obtain ⟨T33, h33, X33, e33, W33, st33⟩ := stR X30 hx hZ e30 Ar33 (j := (1 : Int32)) hin33 rfl (Sto.ofVA Ar33 qc33 O3 (Ins.self f34)) (g := (mkF m 55 #[(vi p0), (vi p1), (vi p2), (vi p3), (vi p4), (vi r_1), (vi yk), .unset, .unset, .unset, .unset, .unset, .unset, .unset, .unset, .unset, .unset, .unset, .unset, .unset, .unset] [(.ref b20), (.int 1), (.ref b3), (.ref b3)])) rfl rfl (hb hby at_55)
  have O35 : Old Z n0 h33 := O31.wr W33 g4
  have V33 : Arv Z h33 b3 k3 (.array .int) (6 : Int32) ([(.ref b6), (.ref b20), .null, .null, .null, .null]) .null := Arv.set Ar33 qc33 Sz33 Nn33 Ha33 Gg33 (v := (.ref b20)) rfl W33 1 rfl (Nat.le_of_ble_eq_true rfl)
  have N33 := Fr.snoc X33 N30 g4
  obtain ⟨T36, h36, k36, X36, e36, E36, A36, Z36, st36⟩ := newPE X33 hx hZ (ow hw 7 rfl) e33 (g := (mkF m 59 #[(vi p0), (vi p1), (vi p2), (vi p3), (vi p4), (vi r_1), (vi yk), .unset, .unset, .unset, .unset, .unset, .unset, .unset, .unset, .unset, .unset, .unset, .unset, .unset, .unset] [(.int 3), (.int 2), (.ref b3), (.ref b3)])) rfl (hb hby at_59) rfl (by decide) (cap := 3) (by decide) (by decide) (by decide) (by decide) (ad := "[I") rfl
  obtain ⟨b36, g36⟩ : ∃ z, z = h33.size := ⟨_, rfl⟩
  rw [← g36] at A36 Z36 st36
  have ne37 : b3 ≠ b36 := Nat.ne_of_lt (Nat.lt_of_lt_of_le V33.lt (Nat.le_of_eq g36.symm))
  have f39 : Arv Z h33 b6 k6 .int (3 : Int32) ([(.int 0), (.int 1), (.int 2)]) (.int 0) := (((((f23.ext E20).other W26 ne22).other W28 ne22).other W30 ne22).other W33 (Ne.symm ne7))
  have ne38 : b6 ≠ b36 := Nat.ne_of_lt (Nat.lt_of_lt_of_le f39.lt (Nat.le_of_eq g36.symm))
  have f41 : Arv Z h33 b20 k20 .int (3 : Int32) ([(.int 0), (.int 2), (.int 1)]) (.int 0) := (V30.other W33 (Ne.symm ne21))
  have ne40 : b20 ≠ b36 := Nat.ne_of_lt (Nat.lt_of_lt_of_le f41.lt (Nat.le_of_eq g36.symm))
  have g42 : n0 ≤ b36 := Nat.le_trans (own_sz O35) (Nat.le_of_eq g36.symm)
  have O43 : Old Z n0 h36 := O35.ext E36
  have V36 : Arv Z h36 b36 k36 .int (3 : Int32) ([(.int 0), (.int 0), (.int 0)]) (.int 0) := (Arv.new A36 (by decide)).pad (pad_rep [] (.int 0) 3)
  obtain ⟨cl44, Ar44, qc44, Sz44, Nn44, Ha44, Gg44⟩ := (id V36)
  have hin44 : ¬ ((0 : Int32) < 0 ∨ cl44.slots.size ≤ ((0 : Int32)).toNatClampNeg) := inb_of Sz44 ⟨by decide, by decide⟩
  obtain ⟨T44, h44, X44, e44, W44, st44⟩ := stI X36 hx hZ e36 Ar44 (j := (0 : Int32)) hin44 (g := (mkF m 64 #[(vi p0), (vi p1), (vi p2), (vi p3), (vi p4), (vi r_1), (vi yk), .unset, .unset, .unset, .unset, .unset, .unset, .unset, .unset, .unset, .unset, .unset, .unset, .unset, .unset] [(.int 1), (.int 0), (.ref b36), (.ref b36), (.int 2), (.ref b3), (.ref b3)])) rfl rfl (hb hby at_64)
  have O45 : Old Z n0 h44 := O43.wr W44 g42
  have V44 : Arv Z h44 b36 k36 .int (3 : Int32) ([(.int 1), (.int 0), (.int 0)]) (.int 0) := (Arv.set Ar44 qc44 Sz44 Nn44 Ha44 Gg44 (v := (.int 1)) rfl W44 0 rfl (Nat.le_of_ble_eq_true rfl))
  have N44 := Fr.snoc X44 N33 g42
  obtain ⟨cl46, Ar46, qc46, Sz46, Nn46, Ha46, Gg46⟩ := (id V44)
  have hin46 : ¬ ((1 : Int32) < 0 ∨ cl46.slots.size ≤ ((1 : Int32)).toNatClampNeg) := inb_of Sz46 ⟨by decide, by decide⟩
  obtain ⟨T46, h46, X46, e46, W46, st46⟩ := stI X44 hx hZ e44 Ar46 (j := (1 : Int32)) hin46 (g := (mkF m 68 #[(vi p0), (vi p1), (vi p2), (vi p3), (vi p4), (vi r_1), (vi yk), .unset, .unset, .unset, .unset, .unset, .unset, .unset, .unset, .unset, .unset, .unset, .unset, .unset, .unset] [(.int 0), (.int 1), (.ref b36), (.ref b36), (.int 2), (.ref b3), (.ref b3)])) rfl rfl (hb hby at_68)
  have O47 : Old Z n0 h46 := O45.wr W46 g42
  have V46 : Arv Z h46 b36 k36 .int (3 : Int32) ([(.int 1), (.int 0), (.int 0)]) (.int 0) := (Arv.set Ar46 qc46 Sz46 Nn46 Ha46 Gg46 (v := (.int 0)) rfl W46 1 rfl (Nat.le_of_ble_eq_true rfl))
  have N46 := Fr.snoc X46 N44 g42
  obtain ⟨cl48, Ar48, qc48, Sz48, Nn48, Ha48, Gg48⟩ := (id V46)
  have hin48 : ¬ ((2 : Int32) < 0 ∨ cl48.slots.size ≤ ((2 : Int32)).toNatClampNeg) := inb_of Sz48 ⟨by decide, by decide⟩
  obtain ⟨T48, h48, X48, e48, W48, st48⟩ := stI X46 hx hZ e46 Ar48 (j := (2 : Int32)) hin48 (g := (mkF m 72 #[(vi p0), (vi p1), (vi p2), (vi p3), (vi p4), (vi r_1), (vi yk), .unset, .unset, .unset, .unset, .unset, .unset, .unset, .unset, .unset, .unset, .unset, .unset, .unset, .unset] [(.int 2), (.int 2), (.ref b36), (.ref b36), (.int 2), (.ref b3), (.ref b3)])) rfl rfl (hb hby at_72)
  have O49 : Old Z n0 h48 := O47.wr W48 g42
  have V48 : Arv Z h48 b36 k36 .int (3 : Int32) ([(.int 1), (.int 0), (.int 2)]) (.int 0) := (Arv.set Ar48 qc48 Sz48 Nn48 Ha48 Gg48 (v := (.int 2)) rfl W48 2 rfl (Nat.le_of_ble_eq_true rfl))
  have N48 := Fr.snoc X48 N46 g42
  have f50 : Arv Z h48 b3 k3 (.array .int) (6 : Int32) ([(.ref b6), (.ref b20), .null, .null, .null, .null]) .null := ((((V33.ext E36).other W44 ne37).other W46 ne37).other W48 ne37)
  have f52 : Exa Z h48 b36 "[I" := (((Z36.wr W44).wr W46).wr W48)
  obtain ⟨cl51, Ar51, qc51, Sz51, Nn51, Ha51, Gg51⟩ := (id f50)
  have hin51 : ¬ ((2 : Int32) < 0 ∨ cl51.slots.size ≤ ((2 : Int32)).toNatClampNeg) := inb_of Sz51 ⟨by decide, by decide⟩
  obtain ⟨T51, h51, X51, e51, W51, st51⟩ := stR X48 hx hZ e48 Ar51 (j := (2 : Int32)) hin51 rfl (Sto.ofVA Ar51 qc51 O3 (Ins.self f52)) (g := (mkF m 73 #[(vi p0), (vi p1), (vi p2), (vi p3), (vi p4), (vi r_1), (vi yk), .unset, .unset, .unset, .unset, .unset, .unset, .unset, .unset, .unset, .unset, .unset, .unset, .unset, .unset] [(.ref b36), (.int 2), (.ref b3), (.ref b3)])) rfl rfl (hb hby at_73)
  have O53 : Old Z n0 h51 := O49.wr W51 g4
  have V51 : Arv Z h51 b3 k3 (.array .int) (6 : Int32) ([(.ref b6), (.ref b20), (.ref b36), .null, .null, .null]) .null := Arv.set Ar51 qc51 Sz51 Nn51 Ha51 Gg51 (v := (.ref b36)) rfl W51 2 rfl (Nat.le_of_ble_eq_true rfl)
  have N51 := Fr.snoc X51 N48 g4
  obtain ⟨T54, h54, k54, X54, e54, E54, A54, Z54, st54⟩ := newPE X51 hx hZ (ow hw 7 rfl) e51 (g := (mkF m 77 #[(vi p0), (vi p1), (vi p2), (vi p3), (vi p4), (vi r_1), (vi yk), .unset, .unset, .unset, .unset, .unset, .unset, .unset, .unset, .unset, .unset, .unset, .unset, .unset, .unset] [(.int 3), (.int 3), (.ref b3), (.ref b3)])) rfl (hb hby at_77) rfl (by decide) (cap := 3) (by decide) (by decide) (by decide) (by decide) (ad := "[I") rfl
  obtain ⟨b54, g54⟩ : ∃ z, z = h51.size := ⟨_, rfl⟩
  rw [← g54] at A54 Z54 st54
  have ne55 : b3 ≠ b54 := Nat.ne_of_lt (Nat.lt_of_lt_of_le V51.lt (Nat.le_of_eq g54.symm))
  have f57 : Arv Z h51 b6 k6 .int (3 : Int32) ([(.int 0), (.int 1), (.int 2)]) (.int 0) := (((((f39.ext E36).other W44 ne38).other W46 ne38).other W48 ne38).other W51 (Ne.symm ne7))
  have ne56 : b6 ≠ b54 := Nat.ne_of_lt (Nat.lt_of_lt_of_le f57.lt (Nat.le_of_eq g54.symm))
  have f59 : Arv Z h51 b20 k20 .int (3 : Int32) ([(.int 0), (.int 2), (.int 1)]) (.int 0) := (((((f41.ext E36).other W44 ne40).other W46 ne40).other W48 ne40).other W51 (Ne.symm ne21))
  have ne58 : b20 ≠ b54 := Nat.ne_of_lt (Nat.lt_of_lt_of_le f59.lt (Nat.le_of_eq g54.symm))
  have f61 : Arv Z h51 b36 k36 .int (3 : Int32) ([(.int 1), (.int 0), (.int 2)]) (.int 0) := (V48.other W51 (Ne.symm ne37))
  have ne60 : b36 ≠ b54 := Nat.ne_of_lt (Nat.lt_of_lt_of_le f61.lt (Nat.le_of_eq g54.symm))
  have g62 : n0 ≤ b54 := Nat.le_trans (own_sz O53) (Nat.le_of_eq g54.symm)
  have O63 : Old Z n0 h54 := O53.ext E54
  have V54 : Arv Z h54 b54 k54 .int (3 : Int32) ([(.int 0), (.int 0), (.int 0)]) (.int 0) := (Arv.new A54 (by decide)).pad (pad_rep [] (.int 0) 3)
  obtain ⟨cl64, Ar64, qc64, Sz64, Nn64, Ha64, Gg64⟩ := (id V54)
  have hin64 : ¬ ((0 : Int32) < 0 ∨ cl64.slots.size ≤ ((0 : Int32)).toNatClampNeg) := inb_of Sz64 ⟨by decide, by decide⟩
  obtain ⟨T64, h64, X64, e64, W64, st64⟩ := stI X54 hx hZ e54 Ar64 (j := (0 : Int32)) hin64 (g := (mkF m 82 #[(vi p0), (vi p1), (vi p2), (vi p3), (vi p4), (vi r_1), (vi yk), .unset, .unset, .unset, .unset, .unset, .unset, .unset, .unset, .unset, .unset, .unset, .unset, .unset, .unset] [(.int 1), (.int 0), (.ref b54), (.ref b54), (.int 3), (.ref b3), (.ref b3)])) rfl rfl (hb hby at_82)
  have O65 : Old Z n0 h64 := O63.wr W64 g62
  have V64 : Arv Z h64 b54 k54 .int (3 : Int32) ([(.int 1), (.int 0), (.int 0)]) (.int 0) := (Arv.set Ar64 qc64 Sz64 Nn64 Ha64 Gg64 (v := (.int 1)) rfl W64 0 rfl (Nat.le_of_ble_eq_true rfl))
  have N64 := Fr.snoc X64 N51 g62
  obtain ⟨cl66, Ar66, qc66, Sz66, Nn66, Ha66, Gg66⟩ := (id V64)
  have hin66 : ¬ ((1 : Int32) < 0 ∨ cl66.slots.size ≤ ((1 : Int32)).toNatClampNeg) := inb_of Sz66 ⟨by decide, by decide⟩
  obtain ⟨T66, h66, X66, e66, W66, st66⟩ := stI X64 hx hZ e64 Ar66 (j := (1 : Int32)) hin66 (g := (mkF m 86 #[(vi p0), (vi p1), (vi p2), (vi p3), (vi p4), (vi r_1), (vi yk), .unset, .unset, .unset, .unset, .unset, .unset, .unset, .unset, .unset, .unset, .unset, .unset, .unset, .unset] [(.int 2), (.int 1), (.ref b54), (.ref b54), (.int 3), (.ref b3), (.ref b3)])) rfl rfl (hb hby at_86)
  have O67 : Old Z n0 h66 := O65.wr W66 g62
  have V66 : Arv Z h66 b54 k54 .int (3 : Int32) ([(.int 1), (.int 2), (.int 0)]) (.int 0) := (Arv.set Ar66 qc66 Sz66 Nn66 Ha66 Gg66 (v := (.int 2)) rfl W66 1 rfl (Nat.le_of_ble_eq_true rfl))
  have N66 := Fr.snoc X66 N64 g62
  obtain ⟨cl68, Ar68, qc68, Sz68, Nn68, Ha68, Gg68⟩ := (id V66)
  have hin68 : ¬ ((2 : Int32) < 0 ∨ cl68.slots.size ≤ ((2 : Int32)).toNatClampNeg) := inb_of Sz68 ⟨by decide, by decide⟩
  obtain ⟨T68, h68, X68, e68, W68, st68⟩ := stI X66 hx hZ e66 Ar68 (j := (2 : Int32)) hin68 (g := (mkF m 90 #[(vi p0), (vi p1), (vi p2), (vi p3), (vi p4), (vi r_1), (vi yk), .unset, .unset, .unset, .unset, .unset, .unset, .unset, .unset, .unset, .unset, .unset, .unset, .unset, .unset] [(.int 0), (.int 2), (.ref b54), (.ref b54), (.int 3), (.ref b3), (.ref b3)])) rfl rfl (hb hby at_90)
  have O69 : Old Z n0 h68 := O67.wr W68 g62
  have V68 : Arv Z h68 b54 k54 .int (3 : Int32) ([(.int 1), (.int 2), (.int 0)]) (.int 0) := (Arv.set Ar68 qc68 Sz68 Nn68 Ha68 Gg68 (v := (.int 0)) rfl W68 2 rfl (Nat.le_of_ble_eq_true rfl))
  have N68 := Fr.snoc X68 N66 g62
  have f70 : Arv Z h68 b3 k3 (.array .int) (6 : Int32) ([(.ref b6), (.ref b20), (.ref b36), .null, .null, .null]) .null := ((((V51.ext E54).other W64 ne55).other W66 ne55).other W68 ne55)
  have f72 : Exa Z h68 b54 "[I" := (((Z54.wr W64).wr W66).wr W68)
  obtain ⟨cl71, Ar71, qc71, Sz71, Nn71, Ha71, Gg71⟩ := (id f70)
  have hin71 : ¬ ((3 : Int32) < 0 ∨ cl71.slots.size ≤ ((3 : Int32)).toNatClampNeg) := inb_of Sz71 ⟨by decide, by decide⟩
  obtain ⟨T71, h71, X71, e71, W71, st71⟩ := stR X68 hx hZ e68 Ar71 (j := (3 : Int32)) hin71 rfl (Sto.ofVA Ar71 qc71 O3 (Ins.self f72)) (g := (mkF m 91 #[(vi p0), (vi p1), (vi p2), (vi p3), (vi p4), (vi r_1), (vi yk), .unset, .unset, .unset, .unset, .unset, .unset, .unset, .unset, .unset, .unset, .unset, .unset, .unset, .unset] [(.ref b54), (.int 3), (.ref b3), (.ref b3)])) rfl rfl (hb hby at_91)
  have O73 : Old Z n0 h71 := O69.wr W71 g4
  have V71 : Arv Z h71 b3 k3 (.array .int) (6 : Int32) ([(.ref b6), (.ref b20), (.ref b36), (.ref b54), .null, .null]) .null := Arv.set Ar71 qc71 Sz71 Nn71 Ha71 Gg71 (v := (.ref b54)) rfl W71 3 rfl (Nat.le_of_ble_eq_true rfl)
  have N71 := Fr.snoc X71 N68 g4
  obtain ⟨T74, h74, k74, X74, e74, E74, A74, Z74, st74⟩ := newPE X71 hx hZ (ow hw 7 rfl) e71 (g := (mkF m 95 #[(vi p0), (vi p1), (vi p2), (vi p3), (vi p4), (vi r_1), (vi yk), .unset, .unset, .unset, .unset, .unset, .unset, .unset, .unset, .unset, .unset, .unset, .unset, .unset, .unset] [(.int 3), (.int 4), (.ref b3), (.ref b3)])) rfl (hb hby at_95) rfl (by decide) (cap := 3) (by decide) (by decide) (by decide) (by decide) (ad := "[I") rfl
  obtain ⟨b74, g74⟩ : ∃ z, z = h71.size := ⟨_, rfl⟩
  rw [← g74] at A74 Z74 st74
  have ne75 : b3 ≠ b74 := Nat.ne_of_lt (Nat.lt_of_lt_of_le V71.lt (Nat.le_of_eq g74.symm))
  have f77 : Arv Z h71 b6 k6 .int (3 : Int32) ([(.int 0), (.int 1), (.int 2)]) (.int 0) := (((((f57.ext E54).other W64 ne56).other W66 ne56).other W68 ne56).other W71 (Ne.symm ne7))
  have ne76 : b6 ≠ b74 := Nat.ne_of_lt (Nat.lt_of_lt_of_le f77.lt (Nat.le_of_eq g74.symm))
  have f79 : Arv Z h71 b20 k20 .int (3 : Int32) ([(.int 0), (.int 2), (.int 1)]) (.int 0) := (((((f59.ext E54).other W64 ne58).other W66 ne58).other W68 ne58).other W71 (Ne.symm ne21))
  have ne78 : b20 ≠ b74 := Nat.ne_of_lt (Nat.lt_of_lt_of_le f79.lt (Nat.le_of_eq g74.symm))
  have f81 : Arv Z h71 b36 k36 .int (3 : Int32) ([(.int 1), (.int 0), (.int 2)]) (.int 0) := (((((f61.ext E54).other W64 ne60).other W66 ne60).other W68 ne60).other W71 (Ne.symm ne37))
  have ne80 : b36 ≠ b74 := Nat.ne_of_lt (Nat.lt_of_lt_of_le f81.lt (Nat.le_of_eq g74.symm))
  have f83 : Arv Z h71 b54 k54 .int (3 : Int32) ([(.int 1), (.int 2), (.int 0)]) (.int 0) := (V68.other W71 (Ne.symm ne55))
  have ne82 : b54 ≠ b74 := Nat.ne_of_lt (Nat.lt_of_lt_of_le f83.lt (Nat.le_of_eq g74.symm))
  have g84 : n0 ≤ b74 := Nat.le_trans (own_sz O73) (Nat.le_of_eq g74.symm)
  have O85 : Old Z n0 h74 := O73.ext E74
  have V74 : Arv Z h74 b74 k74 .int (3 : Int32) ([(.int 0), (.int 0), (.int 0)]) (.int 0) := (Arv.new A74 (by decide)).pad (pad_rep [] (.int 0) 3)
  obtain ⟨cl86, Ar86, qc86, Sz86, Nn86, Ha86, Gg86⟩ := (id V74)
  have hin86 : ¬ ((0 : Int32) < 0 ∨ cl86.slots.size ≤ ((0 : Int32)).toNatClampNeg) := inb_of Sz86 ⟨by decide, by decide⟩
  obtain ⟨T86, h86, X86, e86, W86, st86⟩ := stI X74 hx hZ e74 Ar86 (j := (0 : Int32)) hin86 (g := (mkF m 100 #[(vi p0), (vi p1), (vi p2), (vi p3), (vi p4), (vi r_1), (vi yk), .unset, .unset, .unset, .unset, .unset, .unset, .unset, .unset, .unset, .unset, .unset, .unset, .unset, .unset] [(.int 2), (.int 0), (.ref b74), (.ref b74), (.int 4), (.ref b3), (.ref b3)])) rfl rfl (hb hby at_100)
  have O87 : Old Z n0 h86 := O85.wr W86 g84
  have V86 : Arv Z h86 b74 k74 .int (3 : Int32) ([(.int 2), (.int 0), (.int 0)]) (.int 0) := (Arv.set Ar86 qc86 Sz86 Nn86 Ha86 Gg86 (v := (.int 2)) rfl W86 0 rfl (Nat.le_of_ble_eq_true rfl))
  have N86 := Fr.snoc X86 N71 g84
  obtain ⟨cl88, Ar88, qc88, Sz88, Nn88, Ha88, Gg88⟩ := (id V86)
  have hin88 : ¬ ((1 : Int32) < 0 ∨ cl88.slots.size ≤ ((1 : Int32)).toNatClampNeg) := inb_of Sz88 ⟨by decide, by decide⟩
  obtain ⟨T88, h88, X88, e88, W88, st88⟩ := stI X86 hx hZ e86 Ar88 (j := (1 : Int32)) hin88 (g := (mkF m 104 #[(vi p0), (vi p1), (vi p2), (vi p3), (vi p4), (vi r_1), (vi yk), .unset, .unset, .unset, .unset, .unset, .unset, .unset, .unset, .unset, .unset, .unset, .unset, .unset, .unset] [(.int 0), (.int 1), (.ref b74), (.ref b74), (.int 4), (.ref b3), (.ref b3)])) rfl rfl (hb hby at_104)
  have O89 : Old Z n0 h88 := O87.wr W88 g84
  have V88 : Arv Z h88 b74 k74 .int (3 : Int32) ([(.int 2), (.int 0), (.int 0)]) (.int 0) := (Arv.set Ar88 qc88 Sz88 Nn88 Ha88 Gg88 (v := (.int 0)) rfl W88 1 rfl (Nat.le_of_ble_eq_true rfl))
  have N88 := Fr.snoc X88 N86 g84
  obtain ⟨cl90, Ar90, qc90, Sz90, Nn90, Ha90, Gg90⟩ := (id V88)
  have hin90 : ¬ ((2 : Int32) < 0 ∨ cl90.slots.size ≤ ((2 : Int32)).toNatClampNeg) := inb_of Sz90 ⟨by decide, by decide⟩
  obtain ⟨T90, h90, X90, e90, W90, st90⟩ := stI X88 hx hZ e88 Ar90 (j := (2 : Int32)) hin90 (g := (mkF m 108 #[(vi p0), (vi p1), (vi p2), (vi p3), (vi p4), (vi r_1), (vi yk), .unset, .unset, .unset, .unset, .unset, .unset, .unset, .unset, .unset, .unset, .unset, .unset, .unset, .unset] [(.int 1), (.int 2), (.ref b74), (.ref b74), (.int 4), (.ref b3), (.ref b3)])) rfl rfl (hb hby at_108)
  have O91 : Old Z n0 h90 := O89.wr W90 g84
  have V90 : Arv Z h90 b74 k74 .int (3 : Int32) ([(.int 2), (.int 0), (.int 1)]) (.int 0) := (Arv.set Ar90 qc90 Sz90 Nn90 Ha90 Gg90 (v := (.int 1)) rfl W90 2 rfl (Nat.le_of_ble_eq_true rfl))
  have N90 := Fr.snoc X90 N88 g84
  have f92 : Arv Z h90 b3 k3 (.array .int) (6 : Int32) ([(.ref b6), (.ref b20), (.ref b36), (.ref b54), .null, .null]) .null := ((((V71.ext E74).other W86 ne75).other W88 ne75).other W90 ne75)
  have f94 : Exa Z h90 b74 "[I" := (((Z74.wr W86).wr W88).wr W90)
  obtain ⟨cl93, Ar93, qc93, Sz93, Nn93, Ha93, Gg93⟩ := (id f92)
  have hin93 : ¬ ((4 : Int32) < 0 ∨ cl93.slots.size ≤ ((4 : Int32)).toNatClampNeg) := inb_of Sz93 ⟨by decide, by decide⟩
  obtain ⟨T93, h93, X93, e93, W93, st93⟩ := stR X90 hx hZ e90 Ar93 (j := (4 : Int32)) hin93 rfl (Sto.ofVA Ar93 qc93 O3 (Ins.self f94)) (g := (mkF m 109 #[(vi p0), (vi p1), (vi p2), (vi p3), (vi p4), (vi r_1), (vi yk), .unset, .unset, .unset, .unset, .unset, .unset, .unset, .unset, .unset, .unset, .unset, .unset, .unset, .unset] [(.ref b74), (.int 4), (.ref b3), (.ref b3)])) rfl rfl (hb hby at_109)
  have O95 : Old Z n0 h93 := O91.wr W93 g4
  have V93 : Arv Z h93 b3 k3 (.array .int) (6 : Int32) ([(.ref b6), (.ref b20), (.ref b36), (.ref b54), (.ref b74), .null]) .null := Arv.set Ar93 qc93 Sz93 Nn93 Ha93 Gg93 (v := (.ref b74)) rfl W93 4 rfl (Nat.le_of_ble_eq_true rfl)
  have N93 := Fr.snoc X93 N90 g4
  obtain ⟨T96, h96, k96, X96, e96, E96, A96, Z96, st96⟩ := newPE X93 hx hZ (ow hw 7 rfl) e93 (g := (mkF m 113 #[(vi p0), (vi p1), (vi p2), (vi p3), (vi p4), (vi r_1), (vi yk), .unset, .unset, .unset, .unset, .unset, .unset, .unset, .unset, .unset, .unset, .unset, .unset, .unset, .unset] [(.int 3), (.int 5), (.ref b3), (.ref b3)])) rfl (hb hby at_113) rfl (by decide) (cap := 3) (by decide) (by decide) (by decide) (by decide) (ad := "[I") rfl
  obtain ⟨b96, g96⟩ : ∃ z, z = h93.size := ⟨_, rfl⟩
  rw [← g96] at A96 Z96 st96
  have ne97 : b3 ≠ b96 := Nat.ne_of_lt (Nat.lt_of_lt_of_le V93.lt (Nat.le_of_eq g96.symm))
  have f99 : Arv Z h93 b6 k6 .int (3 : Int32) ([(.int 0), (.int 1), (.int 2)]) (.int 0) := (((((f77.ext E74).other W86 ne76).other W88 ne76).other W90 ne76).other W93 (Ne.symm ne7))
  have ne98 : b6 ≠ b96 := Nat.ne_of_lt (Nat.lt_of_lt_of_le f99.lt (Nat.le_of_eq g96.symm))
  have f101 : Arv Z h93 b20 k20 .int (3 : Int32) ([(.int 0), (.int 2), (.int 1)]) (.int 0) := (((((f79.ext E74).other W86 ne78).other W88 ne78).other W90 ne78).other W93 (Ne.symm ne21))
  have ne100 : b20 ≠ b96 := Nat.ne_of_lt (Nat.lt_of_lt_of_le f101.lt (Nat.le_of_eq g96.symm))
  have f103 : Arv Z h93 b36 k36 .int (3 : Int32) ([(.int 1), (.int 0), (.int 2)]) (.int 0) := (((((f81.ext E74).other W86 ne80).other W88 ne80).other W90 ne80).other W93 (Ne.symm ne37))
  have ne102 : b36 ≠ b96 := Nat.ne_of_lt (Nat.lt_of_lt_of_le f103.lt (Nat.le_of_eq g96.symm))
  have f105 : Arv Z h93 b54 k54 .int (3 : Int32) ([(.int 1), (.int 2), (.int 0)]) (.int 0) := (((((f83.ext E74).other W86 ne82).other W88 ne82).other W90 ne82).other W93 (Ne.symm ne55))
  have ne104 : b54 ≠ b96 := Nat.ne_of_lt (Nat.lt_of_lt_of_le f105.lt (Nat.le_of_eq g96.symm))
  have f107 : Arv Z h93 b74 k74 .int (3 : Int32) ([(.int 2), (.int 0), (.int 1)]) (.int 0) := (V90.other W93 (Ne.symm ne75))
  have ne106 : b74 ≠ b96 := Nat.ne_of_lt (Nat.lt_of_lt_of_le f107.lt (Nat.le_of_eq g96.symm))
  have g108 : n0 ≤ b96 := Nat.le_trans (own_sz O95) (Nat.le_of_eq g96.symm)
  have O109 : Old Z n0 h96 := O95.ext E96
  have V96 : Arv Z h96 b96 k96 .int (3 : Int32) ([(.int 0), (.int 0), (.int 0)]) (.int 0) := (Arv.new A96 (by decide)).pad (pad_rep [] (.int 0) 3)
  obtain ⟨cl110, Ar110, qc110, Sz110, Nn110, Ha110, Gg110⟩ := (id V96)
  have hin110 : ¬ ((0 : Int32) < 0 ∨ cl110.slots.size ≤ ((0 : Int32)).toNatClampNeg) := inb_of Sz110 ⟨by decide, by decide⟩
  obtain ⟨T110, h110, X110, e110, W110, st110⟩ := stI X96 hx hZ e96 Ar110 (j := (0 : Int32)) hin110 (g := (mkF m 118 #[(vi p0), (vi p1), (vi p2), (vi p3), (vi p4), (vi r_1), (vi yk), .unset, .unset, .unset, .unset, .unset, .unset, .unset, .unset, .unset, .unset, .unset, .unset, .unset, .unset] [(.int 2), (.int 0), (.ref b96), (.ref b96), (.int 5), (.ref b3), (.ref b3)])) rfl rfl (hb hby at_118)
  have O111 : Old Z n0 h110 := O109.wr W110 g108
  have V110 : Arv Z h110 b96 k96 .int (3 : Int32) ([(.int 2), (.int 0), (.int 0)]) (.int 0) := (Arv.set Ar110 qc110 Sz110 Nn110 Ha110 Gg110 (v := (.int 2)) rfl W110 0 rfl (Nat.le_of_ble_eq_true rfl))
  have N110 := Fr.snoc X110 N93 g108
  obtain ⟨cl112, Ar112, qc112, Sz112, Nn112, Ha112, Gg112⟩ := (id V110)
  have hin112 : ¬ ((1 : Int32) < 0 ∨ cl112.slots.size ≤ ((1 : Int32)).toNatClampNeg) := inb_of Sz112 ⟨by decide, by decide⟩
  obtain ⟨T112, h112, X112, e112, W112, st112⟩ := stI X110 hx hZ e110 Ar112 (j := (1 : Int32)) hin112 (g := (mkF m 122 #[(vi p0), (vi p1), (vi p2), (vi p3), (vi p4), (vi r_1), (vi yk), .unset, .unset, .unset, .unset, .unset, .unset, .unset, .unset, .unset, .unset, .unset, .unset, .unset, .unset] [(.int 1), (.int 1), (.ref b96), (.ref b96), (.int 5), (.ref b3), (.ref b3)])) rfl rfl (hb hby at_122)
  have O113 : Old Z n0 h112 := O111.wr W112 g108
  have V112 : Arv Z h112 b96 k96 .int (3 : Int32) ([(.int 2), (.int 1), (.int 0)]) (.int 0) := (Arv.set Ar112 qc112 Sz112 Nn112 Ha112 Gg112 (v := (.int 1)) rfl W112 1 rfl (Nat.le_of_ble_eq_true rfl))
  have N112 := Fr.snoc X112 N110 g108
  obtain ⟨cl114, Ar114, qc114, Sz114, Nn114, Ha114, Gg114⟩ := (id V112)
  have hin114 : ¬ ((2 : Int32) < 0 ∨ cl114.slots.size ≤ ((2 : Int32)).toNatClampNeg) := inb_of Sz114 ⟨by decide, by decide⟩
  obtain ⟨T114, h114, X114, e114, W114, st114⟩ := stI X112 hx hZ e112 Ar114 (j := (2 : Int32)) hin114 (g := (mkF m 126 #[(vi p0), (vi p1), (vi p2), (vi p3), (vi p4), (vi r_1), (vi yk), .unset, .unset, .unset, .unset, .unset, .unset, .unset, .unset, .unset, .unset, .unset, .unset, .unset, .unset] [(.int 0), (.int 2), (.ref b96), (.ref b96), (.int 5), (.ref b3), (.ref b3)])) rfl rfl (hb hby at_126)
  have O115 : Old Z n0 h114 := O113.wr W114 g108
  have V114 : Arv Z h114 b96 k96 .int (3 : Int32) ([(.int 2), (.int 1), (.int 0)]) (.int 0) := (Arv.set Ar114 qc114 Sz114 Nn114 Ha114 Gg114 (v := (.int 0)) rfl W114 2 rfl (Nat.le_of_ble_eq_true rfl))
  have N114 := Fr.snoc X114 N112 g108
  have f116 : Arv Z h114 b3 k3 (.array .int) (6 : Int32) ([(.ref b6), (.ref b20), (.ref b36), (.ref b54), (.ref b74), .null]) .null := ((((V93.ext E96).other W110 ne97).other W112 ne97).other W114 ne97)
  have f118 : Exa Z h114 b96 "[I" := (((Z96.wr W110).wr W112).wr W114)
  obtain ⟨cl117, Ar117, qc117, Sz117, Nn117, Ha117, Gg117⟩ := (id f116)
  have hin117 : ¬ ((5 : Int32) < 0 ∨ cl117.slots.size ≤ ((5 : Int32)).toNatClampNeg) := inb_of Sz117 ⟨by decide, by decide⟩
  obtain ⟨T117, h117, X117, e117, W117, st117⟩ := stR X114 hx hZ e114 Ar117 (j := (5 : Int32)) hin117 rfl (Sto.ofVA Ar117 qc117 O3 (Ins.self f118)) (g := (mkF m 127 #[(vi p0), (vi p1), (vi p2), (vi p3), (vi p4), (vi r_1), (vi yk), .unset, .unset, .unset, .unset, .unset, .unset, .unset, .unset, .unset, .unset, .unset, .unset, .unset, .unset] [(.ref b96), (.int 5), (.ref b3), (.ref b3)])) rfl rfl (hb hby at_127)
  have O119 : Old Z n0 h117 := O115.wr W117 g4
  have V117 : Arv Z h117 b3 k3 (.array .int) (6 : Int32) ([(.ref b6), (.ref b20), (.ref b36), (.ref b54), (.ref b74), (.ref b96)]) .null := Arv.set Ar117 qc117 Sz117 Nn117 Ha117 Gg117 (v := (.ref b96)) rfl W117 5 rfl (Nat.le_of_ble_eq_true rfl)
  have N117 := Fr.snoc X117 N114 g4
  obtain ⟨T120, h120, k120, X120, e120, E120, A120, Z120, O120, st120⟩ := newRA X117 hx hZ (ty := .int) hown (by decide) (ow hw 5 rfl) (ow hw 6 rfl) e117 (g := (mkF m 131 #[(vi p0), (vi p1), (vi p2), (vi p3), (vi p4), (vi r_1), (vi yk), (vr b3), .unset, .unset, .unset, .unset, .unset, .unset, .unset, .unset, .unset, .unset, .unset, .unset, .unset] [(.int 2)])) rfl (hb hby at_131) rfl (by decide) (cap := 2) (by decide) (by decide) (by decide) (by decide) (ad := "[[I") rfl
  obtain ⟨b120, g120⟩ : ∃ z, z = h117.size := ⟨_, rfl⟩
  rw [← g120] at A120 Z120 st120
  have ne121 : b3 ≠ b120 := Nat.ne_of_lt (Nat.lt_of_lt_of_le V117.lt (Nat.le_of_eq g120.symm))
  have f123 : Arv Z h117 b6 k6 .int (3 : Int32) ([(.int 0), (.int 1), (.int 2)]) (.int 0) := (((((f99.ext E96).other W110 ne98).other W112 ne98).other W114 ne98).other W117 (Ne.symm ne7))
  have ne122 : b6 ≠ b120 := Nat.ne_of_lt (Nat.lt_of_lt_of_le f123.lt (Nat.le_of_eq g120.symm))
  have f125 : Arv Z h117 b20 k20 .int (3 : Int32) ([(.int 0), (.int 2), (.int 1)]) (.int 0) := (((((f101.ext E96).other W110 ne100).other W112 ne100).other W114 ne100).other W117 (Ne.symm ne21))
  have ne124 : b20 ≠ b120 := Nat.ne_of_lt (Nat.lt_of_lt_of_le f125.lt (Nat.le_of_eq g120.symm))
  have f127 : Arv Z h117 b36 k36 .int (3 : Int32) ([(.int 1), (.int 0), (.int 2)]) (.int 0) := (((((f103.ext E96).other W110 ne102).other W112 ne102).other W114 ne102).other W117 (Ne.symm ne37))
  have ne126 : b36 ≠ b120 := Nat.ne_of_lt (Nat.lt_of_lt_of_le f127.lt (Nat.le_of_eq g120.symm))
  have f129 : Arv Z h117 b54 k54 .int (3 : Int32) ([(.int 1), (.int 2), (.int 0)]) (.int 0) := (((((f105.ext E96).other W110 ne104).other W112 ne104).other W114 ne104).other W117 (Ne.symm ne55))
  have ne128 : b54 ≠ b120 := Nat.ne_of_lt (Nat.lt_of_lt_of_le f129.lt (Nat.le_of_eq g120.symm))
  have f131 : Arv Z h117 b74 k74 .int (3 : Int32) ([(.int 2), (.int 0), (.int 1)]) (.int 0) := (((((f107.ext E96).other W110 ne106).other W112 ne106).other W114 ne106).other W117 (Ne.symm ne75))
  have ne130 : b74 ≠ b120 := Nat.ne_of_lt (Nat.lt_of_lt_of_le f131.lt (Nat.le_of_eq g120.symm))
  have f133 : Arv Z h117 b96 k96 .int (3 : Int32) ([(.int 2), (.int 1), (.int 0)]) (.int 0) := (V114.other W117 (Ne.symm ne97))
  have ne132 : b96 ≠ b120 := Nat.ne_of_lt (Nat.lt_of_lt_of_le f133.lt (Nat.le_of_eq g120.symm))
  have g134 : n0 ≤ b120 := Nat.le_trans (own_sz O119) (Nat.le_of_eq g120.symm)
  have O135 : Old Z n0 h120 := O119.ext E120
  have V120 : Arv Z h120 b120 k120 (.array .int) (2 : Int32) ([.null, .null]) .null := (Arv.new A120 (by decide)).pad (pad_rep [] .null 2)
  obtain ⟨T136, h136, k136, X136, e136, E136, A136, Z136, st136⟩ := newPE X120 hx hZ (ow hw 7 rfl) e120 (g := (mkF m 137 #[(vi p0), (vi p1), (vi p2), (vi p3), (vi p4), (vi r_1), (vi yk), (vr b3), .unset, .unset, .unset, .unset, .unset, .unset, .unset, .unset, .unset, .unset, .unset, .unset, .unset] [(.int 2), (.int 0), (.ref b120), (.ref b120)])) rfl (hb hby at_137) rfl (by decide) (cap := 2) (by decide) (by decide) (by decide) (by decide) (ad := "[I") rfl
  obtain ⟨b136, g136⟩ : ∃ z, z = h120.size := ⟨_, rfl⟩
  rw [← g136] at A136 Z136 st136
  have f138 : Arv Z h120 b3 k3 (.array .int) (6 : Int32) ([(.ref b6), (.ref b20), (.ref b36), (.ref b54), (.ref b74), (.ref b96)]) .null := (V117.ext E120)
  have ne137 : b3 ≠ b136 := Nat.ne_of_lt (Nat.lt_of_lt_of_le f138.lt (Nat.le_of_eq g136.symm))
  have f140 : Arv Z h120 b6 k6 .int (3 : Int32) ([(.int 0), (.int 1), (.int 2)]) (.int 0) := (f123.ext E120)
  have ne139 : b6 ≠ b136 := Nat.ne_of_lt (Nat.lt_of_lt_of_le f140.lt (Nat.le_of_eq g136.symm))
  have f142 : Arv Z h120 b20 k20 .int (3 : Int32) ([(.int 0), (.int 2), (.int 1)]) (.int 0) := (f125.ext E120)
  have ne141 : b20 ≠ b136 := Nat.ne_of_lt (Nat.lt_of_lt_of_le f142.lt (Nat.le_of_eq g136.symm))
  have f144 : Arv Z h120 b36 k36 .int (3 : Int32) ([(.int 1), (.int 0), (.int 2)]) (.int 0) := (f127.ext E120)
  have ne143 : b36 ≠ b136 := Nat.ne_of_lt (Nat.lt_of_lt_of_le f144.lt (Nat.le_of_eq g136.symm))
  have f146 : Arv Z h120 b54 k54 .int (3 : Int32) ([(.int 1), (.int 2), (.int 0)]) (.int 0) := (f129.ext E120)
  have ne145 : b54 ≠ b136 := Nat.ne_of_lt (Nat.lt_of_lt_of_le f146.lt (Nat.le_of_eq g136.symm))
  have f148 : Arv Z h120 b74 k74 .int (3 : Int32) ([(.int 2), (.int 0), (.int 1)]) (.int 0) := (f131.ext E120)
  have ne147 : b74 ≠ b136 := Nat.ne_of_lt (Nat.lt_of_lt_of_le f148.lt (Nat.le_of_eq g136.symm))
  have f150 : Arv Z h120 b96 k96 .int (3 : Int32) ([(.int 2), (.int 1), (.int 0)]) (.int 0) := (f133.ext E120)
  have ne149 : b96 ≠ b136 := Nat.ne_of_lt (Nat.lt_of_lt_of_le f150.lt (Nat.le_of_eq g136.symm))
  have ne151 : b120 ≠ b136 := Nat.ne_of_lt (Nat.lt_of_lt_of_le V120.lt (Nat.le_of_eq g136.symm))
  have g152 : n0 ≤ b136 := Nat.le_trans (own_sz O135) (Nat.le_of_eq g136.symm)
  have O153 : Old Z n0 h136 := O135.ext E136
  have V136 : Arv Z h136 b136 k136 .int (2 : Int32) ([(.int 0), (.int 0)]) (.int 0) := (Arv.new A136 (by decide)).pad (pad_rep [] (.int 0) 2)
  obtain ⟨cl154, Ar154, qc154, Sz154, Nn154, Ha154, Gg154⟩ := (id V136)
  have hin154 : ¬ ((0 : Int32) < 0 ∨ cl154.slots.size ≤ ((0 : Int32)).toNatClampNeg) := inb_of Sz154 ⟨by decide, by decide⟩
  obtain ⟨T154, h154, X154, e154, W154, st154⟩ := stI X136 hx hZ e136 Ar154 (j := (0 : Int32)) hin154 (g := (mkF m 142 #[(vi p0), (vi p1), (vi p2), (vi p3), (vi p4), (vi r_1), (vi yk), (vr b3), .unset, .unset, .unset, .unset, .unset, .unset, .unset, .unset, .unset, .unset, .unset, .unset, .unset] [(.int 0), (.int 0), (.ref b136), (.ref b136), (.int 0), (.ref b120), (.ref b120)])) rfl rfl (hb hby at_142)
  have O155 : Old Z n0 h154 := O153.wr W154 g152
  have V154 : Arv Z h154 b136 k136 .int (2 : Int32) ([(.int 0), (.int 0)]) (.int 0) := (Arv.set Ar154 qc154 Sz154 Nn154 Ha154 Gg154 (v := (.int 0)) rfl W154 0 rfl (Nat.le_of_ble_eq_true rfl))
  have N154 := Fr.snoc X154 N117 g152
  obtain ⟨cl156, Ar156, qc156, Sz156, Nn156, Ha156, Gg156⟩ := (id V154)
  have hin156 : ¬ ((1 : Int32) < 0 ∨ cl156.slots.size ≤ ((1 : Int32)).toNatClampNeg) := inb_of Sz156 ⟨by decide, by decide⟩
  obtain ⟨T156, h156, X156, e156, W156, st156⟩ := stI X154 hx hZ e154 Ar156 (j := (1 : Int32)) hin156 (g := (mkF m 146 #[(vi p0), (vi p1), (vi p2), (vi p3), (vi p4), (vi r_1), (vi yk), (vr b3), .unset, .unset, .unset, .unset, .unset, .unset, .unset, .unset, .unset, .unset, .unset, .unset, .unset] [(.int 1), (.int 1), (.ref b136), (.ref b136), (.int 0), (.ref b120), (.ref b120)])) rfl rfl (hb hby at_146)
  have O157 : Old Z n0 h156 := O155.wr W156 g152
  have V156 : Arv Z h156 b136 k136 .int (2 : Int32) ([(.int 0), (.int 1)]) (.int 0) := (Arv.set Ar156 qc156 Sz156 Nn156 Ha156 Gg156 (v := (.int 1)) rfl W156 1 rfl (Nat.le_of_ble_eq_true rfl))
  have N156 := Fr.snoc X156 N154 g152
  have f158 : Arv Z h156 b120 k120 (.array .int) (2 : Int32) ([.null, .null]) .null := (((V120.ext E136).other W154 ne151).other W156 ne151)
  have f160 : Exa Z h156 b136 "[I" := ((Z136.wr W154).wr W156)
  obtain ⟨cl159, Ar159, qc159, Sz159, Nn159, Ha159, Gg159⟩ := (id f158)
  have hin159 : ¬ ((0 : Int32) < 0 ∨ cl159.slots.size ≤ ((0 : Int32)).toNatClampNeg) := inb_of Sz159 ⟨by decide, by decide⟩
  obtain ⟨T159, h159, X159, e159, W159, st159⟩ := stR X156 hx hZ e156 Ar159 (j := (0 : Int32)) hin159 rfl (Sto.ofVA Ar159 qc159 O120 (Ins.self f160)) (g := (mkF m 147 #[(vi p0), (vi p1), (vi p2), (vi p3), (vi p4), (vi r_1), (vi yk), (vr b3), .unset, .unset, .unset, .unset, .unset, .unset, .unset, .unset, .unset, .unset, .unset, .unset, .unset] [(.ref b136), (.int 0), (.ref b120), (.ref b120)])) rfl rfl (hb hby at_147)
  have O161 : Old Z n0 h159 := O157.wr W159 g134
  have V159 : Arv Z h159 b120 k120 (.array .int) (2 : Int32) ([(.ref b136), .null]) .null := Arv.set Ar159 qc159 Sz159 Nn159 Ha159 Gg159 (v := (.ref b136)) rfl W159 0 rfl (Nat.le_of_ble_eq_true rfl)
  have N159 := Fr.snoc X159 N156 g134
  obtain ⟨T162, h162, k162, X162, e162, E162, A162, Z162, st162⟩ := newPE X159 hx hZ (ow hw 7 rfl) e159 (g := (mkF m 151 #[(vi p0), (vi p1), (vi p2), (vi p3), (vi p4), (vi r_1), (vi yk), (vr b3), .unset, .unset, .unset, .unset, .unset, .unset, .unset, .unset, .unset, .unset, .unset, .unset, .unset] [(.int 2), (.int 1), (.ref b120), (.ref b120)])) rfl (hb hby at_151) rfl (by decide) (cap := 2) (by decide) (by decide) (by decide) (by decide) (ad := "[I") rfl
  obtain ⟨b162, g162⟩ : ∃ z, z = h159.size := ⟨_, rfl⟩
  rw [← g162] at A162 Z162 st162
  have f164 : Arv Z h159 b3 k3 (.array .int) (6 : Int32) ([(.ref b6), (.ref b20), (.ref b36), (.ref b54), (.ref b74), (.ref b96)]) .null := ((((f138.ext E136).other W154 ne137).other W156 ne137).other W159 ne121)
  have ne163 : b3 ≠ b162 := Nat.ne_of_lt (Nat.lt_of_lt_of_le f164.lt (Nat.le_of_eq g162.symm))
  have f166 : Arv Z h159 b6 k6 .int (3 : Int32) ([(.int 0), (.int 1), (.int 2)]) (.int 0) := ((((f140.ext E136).other W154 ne139).other W156 ne139).other W159 ne122)
  have ne165 : b6 ≠ b162 := Nat.ne_of_lt (Nat.lt_of_lt_of_le f166.lt (Nat.le_of_eq g162.symm))
  have f168 : Arv Z h159 b20 k20 .int (3 : Int32) ([(.int 0), (.int 2), (.int 1)]) (.int 0) := ((((f142.ext E136).other W154 ne141).other W156 ne141).other W159 ne124)
  have ne167 : b20 ≠ b162 := Nat.ne_of_lt (Nat.lt_of_lt_of_le f168.lt (Nat.le_of_eq g162.symm))
  have f170 : Arv Z h159 b36 k36 .int (3 : Int32) ([(.int 1), (.int 0), (.int 2)]) (.int 0) := ((((f144.ext E136).other W154 ne143).other W156 ne143).other W159 ne126)
  have ne169 : b36 ≠ b162 := Nat.ne_of_lt (Nat.lt_of_lt_of_le f170.lt (Nat.le_of_eq g162.symm))
  have f172 : Arv Z h159 b54 k54 .int (3 : Int32) ([(.int 1), (.int 2), (.int 0)]) (.int 0) := ((((f146.ext E136).other W154 ne145).other W156 ne145).other W159 ne128)
  have ne171 : b54 ≠ b162 := Nat.ne_of_lt (Nat.lt_of_lt_of_le f172.lt (Nat.le_of_eq g162.symm))
  have f174 : Arv Z h159 b74 k74 .int (3 : Int32) ([(.int 2), (.int 0), (.int 1)]) (.int 0) := ((((f148.ext E136).other W154 ne147).other W156 ne147).other W159 ne130)
  have ne173 : b74 ≠ b162 := Nat.ne_of_lt (Nat.lt_of_lt_of_le f174.lt (Nat.le_of_eq g162.symm))
  have f176 : Arv Z h159 b96 k96 .int (3 : Int32) ([(.int 2), (.int 1), (.int 0)]) (.int 0) := ((((f150.ext E136).other W154 ne149).other W156 ne149).other W159 ne132)
  have ne175 : b96 ≠ b162 := Nat.ne_of_lt (Nat.lt_of_lt_of_le f176.lt (Nat.le_of_eq g162.symm))
  have ne177 : b120 ≠ b162 := Nat.ne_of_lt (Nat.lt_of_lt_of_le V159.lt (Nat.le_of_eq g162.symm))
  have f179 : Arv Z h159 b136 k136 .int (2 : Int32) ([(.int 0), (.int 1)]) (.int 0) := (V156.other W159 (Ne.symm ne151))
  have ne178 : b136 ≠ b162 := Nat.ne_of_lt (Nat.lt_of_lt_of_le f179.lt (Nat.le_of_eq g162.symm))
  have g180 : n0 ≤ b162 := Nat.le_trans (own_sz O161) (Nat.le_of_eq g162.symm)
  have O181 : Old Z n0 h162 := O161.ext E162
  have V162 : Arv Z h162 b162 k162 .int (2 : Int32) ([(.int 0), (.int 0)]) (.int 0) := (Arv.new A162 (by decide)).pad (pad_rep [] (.int 0) 2)
  obtain ⟨cl182, Ar182, qc182, Sz182, Nn182, Ha182, Gg182⟩ := (id V162)
  have hin182 : ¬ ((0 : Int32) < 0 ∨ cl182.slots.size ≤ ((0 : Int32)).toNatClampNeg) := inb_of Sz182 ⟨by decide, by decide⟩
  obtain ⟨T182, h182, X182, e182, W182, st182⟩ := stI X162 hx hZ e162 Ar182 (j := (0 : Int32)) hin182 (g := (mkF m 156 #[(vi p0), (vi p1), (vi p2), (vi p3), (vi p4), (vi r_1), (vi yk), (vr b3), .unset, .unset, .unset, .unset, .unset, .unset, .unset, .unset, .unset, .unset, .unset, .unset, .unset] [(.int 1), (.int 0), (.ref b162), (.ref b162), (.int 1), (.ref b120), (.ref b120)])) rfl rfl (hb hby at_156)
  have O183 : Old Z n0 h182 := O181.wr W182 g180
  have V182 : Arv Z h182 b162 k162 .int (2 : Int32) ([(.int 1), (.int 0)]) (.int 0) := (Arv.set Ar182 qc182 Sz182 Nn182 Ha182 Gg182 (v := (.int 1)) rfl W182 0 rfl (Nat.le_of_ble_eq_true rfl))
  have N182 := Fr.snoc X182 N159 g180
  obtain ⟨cl184, Ar184, qc184, Sz184, Nn184, Ha184, Gg184⟩ := (id V182)
  have hin184 : ¬ ((1 : Int32) < 0 ∨ cl184.slots.size ≤ ((1 : Int32)).toNatClampNeg) := inb_of Sz184 ⟨by decide, by decide⟩
  obtain ⟨T184, h184, X184, e184, W184, st184⟩ := stI X182 hx hZ e182 Ar184 (j := (1 : Int32)) hin184 (g := (mkF m 160 #[(vi p0), (vi p1), (vi p2), (vi p3), (vi p4), (vi r_1), (vi yk), (vr b3), .unset, .unset, .unset, .unset, .unset, .unset, .unset, .unset, .unset, .unset, .unset, .unset, .unset] [(.int 0), (.int 1), (.ref b162), (.ref b162), (.int 1), (.ref b120), (.ref b120)])) rfl rfl (hb hby at_160)
  have O185 : Old Z n0 h184 := O183.wr W184 g180
  have V184 : Arv Z h184 b162 k162 .int (2 : Int32) ([(.int 1), (.int 0)]) (.int 0) := (Arv.set Ar184 qc184 Sz184 Nn184 Ha184 Gg184 (v := (.int 0)) rfl W184 1 rfl (Nat.le_of_ble_eq_true rfl))
  have N184 := Fr.snoc X184 N182 g180
  have f186 : Arv Z h184 b120 k120 (.array .int) (2 : Int32) ([(.ref b136), .null]) .null := (((V159.ext E162).other W182 ne177).other W184 ne177)
  have f188 : Exa Z h184 b162 "[I" := ((Z162.wr W182).wr W184)
  obtain ⟨cl187, Ar187, qc187, Sz187, Nn187, Ha187, Gg187⟩ := (id f186)
  have hin187 : ¬ ((1 : Int32) < 0 ∨ cl187.slots.size ≤ ((1 : Int32)).toNatClampNeg) := inb_of Sz187 ⟨by decide, by decide⟩
  obtain ⟨T187, h187, X187, e187, W187, st187⟩ := stR X184 hx hZ e184 Ar187 (j := (1 : Int32)) hin187 rfl (Sto.ofVA Ar187 qc187 O120 (Ins.self f188)) (g := (mkF m 161 #[(vi p0), (vi p1), (vi p2), (vi p3), (vi p4), (vi r_1), (vi yk), (vr b3), .unset, .unset, .unset, .unset, .unset, .unset, .unset, .unset, .unset, .unset, .unset, .unset, .unset] [(.ref b162), (.int 1), (.ref b120), (.ref b120)])) rfl rfl (hb hby at_161)
  have O189 : Old Z n0 h187 := O185.wr W187 g134
  have V187 : Arv Z h187 b120 k120 (.array .int) (2 : Int32) ([(.ref b136), (.ref b162)]) .null := Arv.set Ar187 qc187 Sz187 Nn187 Ha187 Gg187 (v := (.ref b162)) rfl W187 1 rfl (Nat.le_of_ble_eq_true rfl)
  have N187 := Fr.snoc X187 N184 g134
  obtain ⟨T190, h190, k190, X190, e190, E190, A190, Z190, O190, st190⟩ := newRA X187 hx hZ (ty := .int) hown (by decide) (ow hw 5 rfl) (ow hw 6 rfl) e187 (g := (mkF m 165 #[(vi p0), (vi p1), (vi p2), (vi p3), (vi p4), (vi r_1), (vi yk), (vr b3), (vr b120), .unset, .unset, .unset, .unset, .unset, .unset, .unset, .unset, .unset, .unset, .unset, .unset] [(.int 2)])) rfl (hb hby at_165) rfl (by decide) (cap := 2) (by decide) (by decide) (by decide) (by decide) (ad := "[[I") rfl
  obtain ⟨b190, g190⟩ : ∃ z, z = h187.size := ⟨_, rfl⟩
  rw [← g190] at A190 Z190 st190
  have f192 : Arv Z h187 b3 k3 (.array .int) (6 : Int32) ([(.ref b6), (.ref b20), (.ref b36), (.ref b54), (.ref b74), (.ref b96)]) .null := ((((f164.ext E162).other W182 ne163).other W184 ne163).other W187 ne121)
  have ne191 : b3 ≠ b190 := Nat.ne_of_lt (Nat.lt_of_lt_of_le f192.lt (Nat.le_of_eq g190.symm))
  have f194 : Arv Z h187 b6 k6 .int (3 : Int32) ([(.int 0), (.int 1), (.int 2)]) (.int 0) := ((((f166.ext E162).other W182 ne165).other W184 ne165).other W187 ne122)
  have ne193 : b6 ≠ b190 := Nat.ne_of_lt (Nat.lt_of_lt_of_le f194.lt (Nat.le_of_eq g190.symm))
  have f196 : Arv Z h187 b20 k20 .int (3 : Int32) ([(.int 0), (.int 2), (.int 1)]) (.int 0) := ((((f168.ext E162).other W182 ne167).other W184 ne167).other W187 ne124)
  have ne195 : b20 ≠ b190 := Nat.ne_of_lt (Nat.lt_of_lt_of_le f196.lt (Nat.le_of_eq g190.symm))
  have f198 : Arv Z h187 b36 k36 .int (3 : Int32) ([(.int 1), (.int 0), (.int 2)]) (.int 0) := ((((f170.ext E162).other W182 ne169).other W184 ne169).other W187 ne126)
  have ne197 : b36 ≠ b190 := Nat.ne_of_lt (Nat.lt_of_lt_of_le f198.lt (Nat.le_of_eq g190.symm))
  have f200 : Arv Z h187 b54 k54 .int (3 : Int32) ([(.int 1), (.int 2), (.int 0)]) (.int 0) := ((((f172.ext E162).other W182 ne171).other W184 ne171).other W187 ne128)
  have ne199 : b54 ≠ b190 := Nat.ne_of_lt (Nat.lt_of_lt_of_le f200.lt (Nat.le_of_eq g190.symm))
  have f202 : Arv Z h187 b74 k74 .int (3 : Int32) ([(.int 2), (.int 0), (.int 1)]) (.int 0) := ((((f174.ext E162).other W182 ne173).other W184 ne173).other W187 ne130)
  have ne201 : b74 ≠ b190 := Nat.ne_of_lt (Nat.lt_of_lt_of_le f202.lt (Nat.le_of_eq g190.symm))
  have f204 : Arv Z h187 b96 k96 .int (3 : Int32) ([(.int 2), (.int 1), (.int 0)]) (.int 0) := ((((f176.ext E162).other W182 ne175).other W184 ne175).other W187 ne132)
  have ne203 : b96 ≠ b190 := Nat.ne_of_lt (Nat.lt_of_lt_of_le f204.lt (Nat.le_of_eq g190.symm))
  have ne205 : b120 ≠ b190 := Nat.ne_of_lt (Nat.lt_of_lt_of_le V187.lt (Nat.le_of_eq g190.symm))
  have f207 : Arv Z h187 b136 k136 .int (2 : Int32) ([(.int 0), (.int 1)]) (.int 0) := ((((f179.ext E162).other W182 ne178).other W184 ne178).other W187 (Ne.symm ne151))
  have ne206 : b136 ≠ b190 := Nat.ne_of_lt (Nat.lt_of_lt_of_le f207.lt (Nat.le_of_eq g190.symm))
  have f209 : Arv Z h187 b162 k162 .int (2 : Int32) ([(.int 1), (.int 0)]) (.int 0) := (V184.other W187 (Ne.symm ne177))
  have ne208 : b162 ≠ b190 := Nat.ne_of_lt (Nat.lt_of_lt_of_le f209.lt (Nat.le_of_eq g190.symm))
  have g210 : n0 ≤ b190 := Nat.le_trans (own_sz O189) (Nat.le_of_eq g190.symm)
  have O211 : Old Z n0 h190 := O189.ext E190
  have V190 : Arv Z h190 b190 k190 (.array .int) (2 : Int32) ([.null, .null]) .null := (Arv.new A190 (by decide)).pad (pad_rep [] .null 2)
  obtain ⟨yi, hyi⟩ : ∃ z : Int32, z = ((p1 &&& (2147483647 : Int32)) % (6 : Int32)) := ⟨_, rfl⟩
  have pre212 : ∀ t, Steps p.tables e below (T190.setTop (mkF m 179 #[(vi p0), (vi p1), (vi p2), (vi p3), (vi p4), (vi r_1), (vi yk), (vr b3), (vr b120), .unset, .unset, .unset, .unset, .unset, .unset, .unset, .unset, .unset, .unset, .unset, .unset] [(.int yi), (.ref b3), (.int 0), (.ref b190), (.ref b190)])) t → Steps p.tables e below (s₁.setTop (entryFrame m #[(.int p0), (.int p1), (.int p2), (.int p3), (.int p4)] maxLocals)) t := by
    intro t k
    rw [hyi] at k
    refine pre2 t ?_
    show Steps p.tables e below (T1.setTop (mkF m 13 #[(vi p0), (vi p1), (vi p2), (vi p3), (vi p4), (vi r_1), .unset, .unset, .unset, .unset, .unset, .unset, .unset, .unset, .unset, .unset, .unset, .unset, .unset, .unset, .unset] [(.int yk)])) _
    refine XS.istore X1.here hx rfl (hb hby at_13) rfl (l' := #[(vi p0), (vi p1), (vi p2), (vi p3), (vi p4), (vi r_1), (vi yk), .unset, .unset, .unset, .unset, .unset, .unset, .unset, .unset, .unset, .unset, .unset, .unset, .unset, .unset]) rfl ?_
    refine XS.bipush X1.here hx rfl (hb hby at_15) ?_
    refine st3 _ ?_
    refine XS.dup X3.here hx rfl (hb hby at_20) rfl rfl ?_
    refine XS.iconst X3.here hx rfl (hb hby at_21) ?_
    refine XS.iconst X3.here hx rfl (hb hby at_22) ?_
    show Steps p.tables e below (T3.setTop (mkF m 23 #[(vi p0), (vi p1), (vi p2), (vi p3), (vi p4), (vi r_1), (vi yk), .unset, .unset, .unset, .unset, .unset, .unset, .unset, .unset, .unset, .unset, .unset, .unset, .unset, .unset] [(.int 3), (.int 0), (.ref b3), (.ref b3)])) _
    refine st6 _ ?_
    refine XS.dup X6.here hx rfl (hb hby at_25) rfl rfl ?_
    refine XS.iconst X6.here hx rfl (hb hby at_26) ?_
    refine XS.iconst X6.here hx rfl (hb hby at_27) ?_
    refine st10 _ ?_
    refine XS.dup X10.here hx rfl (hb hby at_29) rfl rfl ?_
    show Steps p.tables e below (T10.setTop (mkF m 30 #[(vi p0), (vi p1), (vi p2), (vi p3), (vi p4), (vi r_1), (vi yk), .unset, .unset, .unset, .unset, .unset, .unset, .unset, .unset, .unset, .unset, .unset, .unset, .unset, .unset] [(.ref b6), (.ref b6), (.int 0), (.ref b3), (.ref b3)])) _
    refine XS.iconst X10.here hx rfl (hb hby at_30) ?_
    refine XS.iconst X10.here hx rfl (hb hby at_31) ?_
    refine st12 _ ?_
    refine XS.dup X12.here hx rfl (hb hby at_33) rfl rfl ?_
    refine XS.iconst X12.here hx rfl (hb hby at_34) ?_
    refine XS.iconst X12.here hx rfl (hb hby at_35) ?_
    show Steps p.tables e below (T12.setTop (mkF m 36 #[(vi p0), (vi p1), (vi p2), (vi p3), (vi p4), (vi r_1), (vi yk), .unset, .unset, .unset, .unset, .unset, .unset, .unset, .unset, .unset, .unset, .unset, .unset, .unset, .unset] [(.int 2), (.int 2), (.ref b6), (.ref b6), (.int 0), (.ref b3), (.ref b3)])) _
    refine st14 _ ?_
    refine st17 _ ?_
    refine XS.dup X17.here hx rfl (hb hby at_38) rfl rfl ?_
    refine XS.iconst X17.here hx rfl (hb hby at_39) ?_
    refine XS.iconst X17.here hx rfl (hb hby at_40) ?_
    refine st20 _ ?_
    show Steps p.tables e below (T20.setTop (mkF m 43 #[(vi p0), (vi p1), (vi p2), (vi p3), (vi p4), (vi r_1), (vi yk), .unset, .unset, .unset, .unset, .unset, .unset, .unset, .unset, .unset, .unset, .unset, .unset, .unset, .unset] [(.ref b20), (.int 1), (.ref b3), (.ref b3)])) _
    refine XS.dup X20.here hx rfl (hb hby at_43) rfl rfl ?_
    refine XS.iconst X20.here hx rfl (hb hby at_44) ?_
    refine XS.iconst X20.here hx rfl (hb hby at_45) ?_
    refine st26 _ ?_
    refine XS.dup X26.here hx rfl (hb hby at_47) rfl rfl ?_
    refine XS.iconst X26.here hx rfl (hb hby at_48) ?_
    show Steps p.tables e below (T26.setTop (mkF m 49 #[(vi p0), (vi p1), (vi p2), (vi p3), (vi p4), (vi r_1), (vi yk), .unset, .unset, .unset, .unset, .unset, .unset, .unset, .unset, .unset, .unset, .unset, .unset, .unset, .unset] [(.int 1), (.ref b20), (.ref b20), (.int 1), (.ref b3), (.ref b3)])) _
    refine XS.iconst X26.here hx rfl (hb hby at_49) ?_
    refine st28 _ ?_
    refine XS.dup X28.here hx rfl (hb hby at_51) rfl rfl ?_
    refine XS.iconst X28.here hx rfl (hb hby at_52) ?_
    refine XS.iconst X28.here hx rfl (hb hby at_53) ?_
    refine st30 _ ?_
    show Steps p.tables e below (T30.setTop (mkF m 55 #[(vi p0), (vi p1), (vi p2), (vi p3), (vi p4), (vi r_1), (vi yk), .unset, .unset, .unset, .unset, .unset, .unset, .unset, .unset, .unset, .unset, .unset, .unset, .unset, .unset] [(.ref b20), (.int 1), (.ref b3), (.ref b3)])) _
    refine st33 _ ?_
    refine XS.dup X33.here hx rfl (hb hby at_56) rfl rfl ?_
    refine XS.iconst X33.here hx rfl (hb hby at_57) ?_
    refine XS.iconst X33.here hx rfl (hb hby at_58) ?_
    refine st36 _ ?_
    refine XS.dup X36.here hx rfl (hb hby at_61) rfl rfl ?_
    show Steps p.tables e below (T36.setTop (mkF m 62 #[(vi p0), (vi p1), (vi p2), (vi p3), (vi p4), (vi r_1), (vi yk), .unset, .unset, .unset, .unset, .unset, .unset, .unset, .unset, .unset, .unset, .unset, .unset, .unset, .unset] [(.ref b36), (.ref b36), (.int 2), (.ref b3), (.ref b3)])) _
    refine XS.iconst X36.here hx rfl (hb hby at_62) ?_
    refine XS.iconst X36.here hx rfl (hb hby at_63) ?_
    refine st44 _ ?_
    refine XS.dup X44.here hx rfl (hb hby at_65) rfl rfl ?_
    refine XS.iconst X44.here hx rfl (hb hby at_66) ?_
    refine XS.iconst X44.here hx rfl (hb hby at_67) ?_
    show Steps p.tables e below (T44.setTop (mkF m 68 #[(vi p0), (vi p1), (vi p2), (vi p3), (vi p4), (vi r_1), (vi yk), .unset, .unset, .unset, .unset, .unset, .unset, .unset, .unset, .unset, .unset, .unset, .unset, .unset, .unset] [(.int 0), (.int 1), (.ref b36), (.ref b36), (.int 2), (.ref b3), (.ref b3)])) _
    refine st46 _ ?_
    refine XS.dup X46.here hx rfl (hb hby at_69) rfl rfl ?_
    refine XS.iconst X46.here hx rfl (hb hby at_70) ?_
    refine XS.iconst X46.here hx rfl (hb hby at_71) ?_
    refine st48 _ ?_
    refine st51 _ ?_
    show Steps p.tables e below (T51.setTop (mkF m 74 #[(vi p0), (vi p1), (vi p2), (vi p3), (vi p4), (vi r_1), (vi yk), .unset, .unset, .unset, .unset, .unset, .unset, .unset, .unset, .unset, .unset, .unset, .unset, .unset, .unset] [(.ref b3)])) _
    refine XS.dup X51.here hx rfl (hb hby at_74) rfl rfl ?_
    refine XS.iconst X51.here hx rfl (hb hby at_75) ?_
    refine XS.iconst X51.here hx rfl (hb hby at_76) ?_
    refine st54 _ ?_
    refine XS.dup X54.here hx rfl (hb hby at_79) rfl rfl ?_
    refine XS.iconst X54.here hx rfl (hb hby at_80) ?_
    show Steps p.tables e below (T54.setTop (mkF m 81 #[(vi p0), (vi p1), (vi p2), (vi p3), (vi p4), (vi r_1), (vi yk), .unset, .unset, .unset, .unset, .unset, .unset, .unset, .unset, .unset, .unset, .unset, .unset, .unset, .unset] [(.int 0), (.ref b54), (.ref b54), (.int 3), (.ref b3), (.ref b3)])) _
    refine XS.iconst X54.here hx rfl (hb hby at_81) ?_
    refine st64 _ ?_
    refine XS.dup X64.here hx rfl (hb hby at_83) rfl rfl ?_
    refine XS.iconst X64.here hx rfl (hb hby at_84) ?_
    refine XS.iconst X64.here hx rfl (hb hby at_85) ?_
    refine st66 _ ?_
    show Steps p.tables e below (T66.setTop (mkF m 87 #[(vi p0), (vi p1), (vi p2), (vi p3), (vi p4), (vi r_1), (vi yk), .unset, .unset, .unset, .unset, .unset, .unset, .unset, .unset, .unset, .unset, .unset, .unset, .unset, .unset] [(.ref b54), (.int 3), (.ref b3), (.ref b3)])) _
    refine XS.dup X66.here hx rfl (hb hby at_87) rfl rfl ?_
    refine XS.iconst X66.here hx rfl (hb hby at_88) ?_
    refine XS.iconst X66.here hx rfl (hb hby at_89) ?_
    refine st68 _ ?_
    refine st71 _ ?_
    refine XS.dup X71.here hx rfl (hb hby at_92) rfl rfl ?_
    show Steps p.tables e below (T71.setTop (mkF m 93 #[(vi p0), (vi p1), (vi p2), (vi p3), (vi p4), (vi r_1), (vi yk), .unset, .unset, .unset, .unset, .unset, .unset, .unset, .unset, .unset, .unset, .unset, .unset, .unset, .unset] [(.ref b3), (.ref b3)])) _
    refine XS.iconst X71.here hx rfl (hb hby at_93) ?_
    refine XS.iconst X71.here hx rfl (hb hby at_94) ?_
    refine st74 _ ?_
    refine XS.dup X74.here hx rfl (hb hby at_97) rfl rfl ?_
    refine XS.iconst X74.here hx rfl (hb hby at_98) ?_
    refine XS.iconst X74.here hx rfl (hb hby at_99) ?_
    show Steps p.tables e below (T74.setTop (mkF m 100 #[(vi p0), (vi p1), (vi p2), (vi p3), (vi p4), (vi r_1), (vi yk), .unset, .unset, .unset, .unset, .unset, .unset, .unset, .unset, .unset, .unset, .unset, .unset, .unset, .unset] [(.int 2), (.int 0), (.ref b74), (.ref b74), (.int 4), (.ref b3), (.ref b3)])) _
    refine st86 _ ?_
    refine XS.dup X86.here hx rfl (hb hby at_101) rfl rfl ?_
    refine XS.iconst X86.here hx rfl (hb hby at_102) ?_
    refine XS.iconst X86.here hx rfl (hb hby at_103) ?_
    refine st88 _ ?_
    refine XS.dup X88.here hx rfl (hb hby at_105) rfl rfl ?_
    show Steps p.tables e below (T88.setTop (mkF m 106 #[(vi p0), (vi p1), (vi p2), (vi p3), (vi p4), (vi r_1), (vi yk), .unset, .unset, .unset, .unset, .unset, .unset, .unset, .unset, .unset, .unset, .unset, .unset, .unset, .unset] [(.ref b74), (.ref b74), (.int 4), (.ref b3), (.ref b3)])) _
    refine XS.iconst X88.here hx rfl (hb hby at_106) ?_
    refine XS.iconst X88.here hx rfl (hb hby at_107) ?_
    refine st90 _ ?_
    refine st93 _ ?_
    refine XS.dup X93.here hx rfl (hb hby at_110) rfl rfl ?_
    refine XS.iconst X93.here hx rfl (hb hby at_111) ?_
    show Steps p.tables e below (T93.setTop (mkF m 112 #[(vi p0), (vi p1), (vi p2), (vi p3), (vi p4), (vi r_1), (vi yk), .unset, .unset, .unset, .unset, .unset, .unset, .unset, .unset, .unset, .unset, .unset, .unset, .unset, .unset] [(.int 5), (.ref b3), (.ref b3)])) _
    refine XS.iconst X93.here hx rfl (hb hby at_112) ?_
    refine st96 _ ?_
    refine XS.dup X96.here hx rfl (hb hby at_115) rfl rfl ?_
    refine XS.iconst X96.here hx rfl (hb hby at_116) ?_
    refine XS.iconst X96.here hx rfl (hb hby at_117) ?_
    refine st110 _ ?_
    show Steps p.tables e below (T110.setTop (mkF m 119 #[(vi p0), (vi p1), (vi p2), (vi p3), (vi p4), (vi r_1), (vi yk), .unset, .unset, .unset, .unset, .unset, .unset, .unset, .unset, .unset, .unset, .unset, .unset, .unset, .unset] [(.ref b96), (.int 5), (.ref b3), (.ref b3)])) _
    refine XS.dup X110.here hx rfl (hb hby at_119) rfl rfl ?_
    refine XS.iconst X110.here hx rfl (hb hby at_120) ?_
    refine XS.iconst X110.here hx rfl (hb hby at_121) ?_
    refine st112 _ ?_
    refine XS.dup X112.here hx rfl (hb hby at_123) rfl rfl ?_
    refine XS.iconst X112.here hx rfl (hb hby at_124) ?_
    show Steps p.tables e below (T112.setTop (mkF m 125 #[(vi p0), (vi p1), (vi p2), (vi p3), (vi p4), (vi r_1), (vi yk), .unset, .unset, .unset, .unset, .unset, .unset, .unset, .unset, .unset, .unset, .unset, .unset, .unset, .unset] [(.int 2), (.ref b96), (.ref b96), (.int 5), (.ref b3), (.ref b3)])) _
    refine XS.iconst X112.here hx rfl (hb hby at_125) ?_
    refine st114 _ ?_
    refine st117 _ ?_
    refine XS.astore X117.here hx rfl (hb hby at_128) rfl rfl (l' := #[(vi p0), (vi p1), (vi p2), (vi p3), (vi p4), (vi r_1), (vi yk), (vr b3), .unset, .unset, .unset, .unset, .unset, .unset, .unset, .unset, .unset, .unset, .unset, .unset, .unset]) rfl ?_
    refine XS.iconst X117.here hx rfl (hb hby at_130) ?_
    refine st120 _ ?_
    show Steps p.tables e below (T120.setTop (mkF m 134 #[(vi p0), (vi p1), (vi p2), (vi p3), (vi p4), (vi r_1), (vi yk), (vr b3), .unset, .unset, .unset, .unset, .unset, .unset, .unset, .unset, .unset, .unset, .unset, .unset, .unset] [(.ref b120)])) _
    refine XS.dup X120.here hx rfl (hb hby at_134) rfl rfl ?_
    refine XS.iconst X120.here hx rfl (hb hby at_135) ?_
    refine XS.iconst X120.here hx rfl (hb hby at_136) ?_
    refine st136 _ ?_
    refine XS.dup X136.here hx rfl (hb hby at_139) rfl rfl ?_
    refine XS.iconst X136.here hx rfl (hb hby at_140) ?_
    show Steps p.tables e below (T136.setTop (mkF m 141 #[(vi p0), (vi p1), (vi p2), (vi p3), (vi p4), (vi r_1), (vi yk), (vr b3), .unset, .unset, .unset, .unset, .unset, .unset, .unset, .unset, .unset, .unset, .unset, .unset, .unset] [(.int 0), (.ref b136), (.ref b136), (.int 0), (.ref b120), (.ref b120)])) _
    refine XS.iconst X136.here hx rfl (hb hby at_141) ?_
    refine st154 _ ?_
    refine XS.dup X154.here hx rfl (hb hby at_143) rfl rfl ?_
    refine XS.iconst X154.here hx rfl (hb hby at_144) ?_
    refine XS.iconst X154.here hx rfl (hb hby at_145) ?_
    refine st156 _ ?_
    show Steps p.tables e below (T156.setTop (mkF m 147 #[(vi p0), (vi p1), (vi p2), (vi p3), (vi p4), (vi r_1), (vi yk), (vr b3), .unset, .unset, .unset, .unset, .unset, .unset, .unset, .unset, .unset, .unset, .unset, .unset, .unset] [(.ref b136), (.int 0), (.ref b120), (.ref b120)])) _
    refine st159 _ ?_
    refine XS.dup X159.here hx rfl (hb hby at_148) rfl rfl ?_
    refine XS.iconst X159.here hx rfl (hb hby at_149) ?_
    refine XS.iconst X159.here hx rfl (hb hby at_150) ?_
    refine st162 _ ?_
    refine XS.dup X162.here hx rfl (hb hby at_153) rfl rfl ?_
    show Steps p.tables e below (T162.setTop (mkF m 154 #[(vi p0), (vi p1), (vi p2), (vi p3), (vi p4), (vi r_1), (vi yk), (vr b3), .unset, .unset, .unset, .unset, .unset, .unset, .unset, .unset, .unset, .unset, .unset, .unset, .unset] [(.ref b162), (.ref b162), (.int 1), (.ref b120), (.ref b120)])) _
    refine XS.iconst X162.here hx rfl (hb hby at_154) ?_
    refine XS.iconst X162.here hx rfl (hb hby at_155) ?_
    refine st182 _ ?_
    refine XS.dup X182.here hx rfl (hb hby at_157) rfl rfl ?_
    refine XS.iconst X182.here hx rfl (hb hby at_158) ?_
    refine XS.iconst X182.here hx rfl (hb hby at_159) ?_
    show Steps p.tables e below (T182.setTop (mkF m 160 #[(vi p0), (vi p1), (vi p2), (vi p3), (vi p4), (vi r_1), (vi yk), (vr b3), .unset, .unset, .unset, .unset, .unset, .unset, .unset, .unset, .unset, .unset, .unset, .unset, .unset] [(.int 0), (.int 1), (.ref b162), (.ref b162), (.int 1), (.ref b120), (.ref b120)])) _
    refine st184 _ ?_
    refine st187 _ ?_
    refine XS.astore X187.here hx rfl (hb hby at_162) rfl rfl (l' := #[(vi p0), (vi p1), (vi p2), (vi p3), (vi p4), (vi r_1), (vi yk), (vr b3), (vr b120), .unset, .unset, .unset, .unset, .unset, .unset, .unset, .unset, .unset, .unset, .unset, .unset]) rfl ?_
    refine XS.iconst X187.here hx rfl (hb hby at_164) ?_
    refine st190 _ ?_
    refine XS.dup X190.here hx rfl (hb hby at_168) rfl rfl ?_
    show Steps p.tables e below (T190.setTop (mkF m 169 #[(vi p0), (vi p1), (vi p2), (vi p3), (vi p4), (vi r_1), (vi yk), (vr b3), (vr b120), .unset, .unset, .unset, .unset, .unset, .unset, .unset, .unset, .unset, .unset, .unset, .unset] [(.ref b190), (.ref b190)])) _
    refine XS.iconst X190.here hx rfl (hb hby at_169) ?_
    refine XS.aload X190.here hx rfl (hb hby at_170) rfl rfl ?_
    refine XS.iloadN X190.here hx rfl (hb hby at_172) rfl ?_
    refine X190.ldcInt hx hown (mvT hZ (ow hw 4 rfl)) (g := (mkF m 173 #[(vi p0), (vi p1), (vi p2), (vi p3), (vi p4), (vi r_1), (vi yk), (vr b3), (vr b120), .unset, .unset, .unset, .unset, .unset, .unset, .unset, .unset, .unset, .unset, .unset, .unset] [(.int p1), (.ref b3), (.int 0), (.ref b190), (.ref b190)])) rfl (hb hby at_173) _ ?_
    refine XS.iand X190.here hx rfl (hb hby at_175) rfl ?_
    refine XS.bipush X190.here hx rfl (hb hby at_176) ?_
    show Steps p.tables e below (T190.setTop (mkF m 178 #[(vi p0), (vi p1), (vi p2), (vi p3), (vi p4), (vi r_1), (vi yk), (vr b3), (vr b120), .unset, .unset, .unset, .unset, .unset, .unset, .unset, .unset, .unset, .unset, .unset, .unset] [(.int 6), (.int (p1 &&& (2147483647 : Int32))), (.ref b3), (.int 0), (.ref b190), (.ref b190)])) _
    refine iremM X190 hx rfl (hb hby at_178) rfl (by decide) ?_
    exact k
  have f213 : Arv Z h190 b3 k3 (.array .int) (6 : Int32) ([(.ref b6), (.ref b20), (.ref b36), (.ref b54), (.ref b74), (.ref b96)]) .null := (f192.ext E190)
  obtain ⟨cl214, Ar214, qc214, Sz214, Nn214, Ha214, Gg214⟩ := (id f213)
  have hj215 := own_mod6 p1; rw [← hyi] at hj215
  have f216 : Arv Z h190 b6 k6 .int (3 : Int32) ([(.int 0), (.int 1), (.int 2)]) (.int 0) := (f194.ext E190)
  have f217 : Exa Z h190 b6 "[I" := ((((((((((((((((((((((((((((((((((((f18.wr W17).ext E20).wr W26).wr W28).wr W30).wr W33).ext E36).wr W44).wr W46).wr W48).wr W51).ext E54).wr W64).wr W66).wr W68).wr W71).ext E74).wr W86).wr W88).wr W90).wr W93).ext E96).wr W110).wr W112).wr W114).wr W117).ext E120).ext E136).wr W154).wr W156).wr W159).ext E162).wr W182).wr W184).wr W187).ext E190)
  have f218 : Arv Z h190 b20 k20 .int (3 : Int32) ([(.int 0), (.int 2), (.int 1)]) (.int 0) := (f196.ext E190)
  have f219 : Exa Z h190 b20 "[I" := (((((((((((((((((((((((((((((((f34.wr W33).ext E36).wr W44).wr W46).wr W48).wr W51).ext E54).wr W64).wr W66).wr W68).wr W71).ext E74).wr W86).wr W88).wr W90).wr W93).ext E96).wr W110).wr W112).wr W114).wr W117).ext E120).ext E136).wr W154).wr W156).wr W159).ext E162).wr W182).wr W184).wr W187).ext E190)
  have f220 : Arv Z h190 b36 k36 .int (3 : Int32) ([(.int 1), (.int 0), (.int 2)]) (.int 0) := (f198.ext E190)
  have f221 : Exa Z h190 b36 "[I" := ((((((((((((((((((((((((((f52.wr W51).ext E54).wr W64).wr W66).wr W68).wr W71).ext E74).wr W86).wr W88).wr W90).wr W93).ext E96).wr W110).wr W112).wr W114).wr W117).ext E120).ext E136).wr W154).wr W156).wr W159).ext E162).wr W182).wr W184).wr W187).ext E190)
  have f222 : Arv Z h190 b54 k54 .int (3 : Int32) ([(.int 1), (.int 2), (.int 0)]) (.int 0) := (f200.ext E190)
  have f223 : Exa Z h190 b54 "[I" := (((((((((((((((((((((f72.wr W71).ext E74).wr W86).wr W88).wr W90).wr W93).ext E96).wr W110).wr W112).wr W114).wr W117).ext E120).ext E136).wr W154).wr W156).wr W159).ext E162).wr W182).wr W184).wr W187).ext E190)
  have f224 : Arv Z h190 b74 k74 .int (3 : Int32) ([(.int 2), (.int 0), (.int 1)]) (.int 0) := (f202.ext E190)
  have f225 : Exa Z h190 b74 "[I" := ((((((((((((((((f94.wr W93).ext E96).wr W110).wr W112).wr W114).wr W117).ext E120).ext E136).wr W154).wr W156).wr W159).ext E162).wr W182).wr W184).wr W187).ext E190)
  have f226 : Arv Z h190 b96 k96 .int (3 : Int32) ([(.int 2), (.int 1), (.int 0)]) (.int 0) := (f204.ext E190)
  have f227 : Exa Z h190 b96 "[I" := (((((((((((f118.wr W117).ext E120).ext E136).wr W154).wr W156).wr W159).ext E162).wr W182).wr W184).wr W187).ext E190)
  obtain ⟨k215, r215, x215_0, x215_1, x215_2, hg215, V215, E215, c215_0, c215_1, c215_2, n215_0, n215_1, n215_2, n215_3, n215_4⟩ : ∃ (k : ClassId) (r : Addr) (z0 z1 z2 : Int32), ([(.ref b6), (.ref b20), (.ref b36), (.ref b54), (.ref b74), (.ref b96)] : List Value).getD (yi).toNatClampNeg .null = .ref r ∧ Arv Z h190 r k .int (3 : Int32) [(.int z0), (.int z1), (.int z2)] (.int 0) ∧ Exa Z h190 r "[I" ∧ inT z0 ∧ inT z1 ∧ inT z2 ∧ r ≠ b3 ∧ r ≠ b120 ∧ r ≠ b136 ∧ r ≠ b162 ∧ r ≠ b190 := by
    rcases hj215 with h | h | h | h | h | h
    · exact ⟨k6, b6, (0 : Int32), (1 : Int32), (2 : Int32), by rw [h]; rfl, f216, f217, by decide, by decide, by decide, (Ne.symm ne7), ne122, ne139, ne165, ne193⟩
    · exact ⟨k20, b20, (0 : Int32), (2 : Int32), (1 : Int32), by rw [h]; rfl, f218, f219, by decide, by decide, by decide, (Ne.symm ne21), ne124, ne141, ne167, ne195⟩
    · exact ⟨k36, b36, (1 : Int32), (0 : Int32), (2 : Int32), by rw [h]; rfl, f220, f221, by decide, by decide, by decide, (Ne.symm ne37), ne126, ne143, ne169, ne197⟩
    · exact ⟨k54, b54, (1 : Int32), (2 : Int32), (0 : Int32), by rw [h]; rfl, f222, f223, by decide, by decide, by decide, (Ne.symm ne55), ne128, ne145, ne171, ne199⟩
    · exact ⟨k74, b74, (2 : Int32), (0 : Int32), (1 : Int32), by rw [h]; rfl, f224, f225, by decide, by decide, by decide, (Ne.symm ne75), ne130, ne147, ne173, ne201⟩
    · exact ⟨k96, b96, (2 : Int32), (1 : Int32), (0 : Int32), by rw [h]; rfl, f226, f227, by decide, by decide, by decide, (Ne.symm ne97), ne132, ne149, ne175, ne203⟩
  have hb215 : yi < (6 : Int32) ∧ ¬ yi < 0 := by rcases hj215 with h | h | h | h | h | h <;> (rw [h]; decide)
  have hin214 : ¬ (yi < 0 ∨ cl214.slots.size ≤ (yi).toNatClampNeg) := inb_of Sz214 ⟨hb215.2, hb215.1⟩
  have hat214 : cl214.slots[(yi).toNatClampNeg]? = some (.ref r215) := Ha214.at hin214 hg215
  obtain ⟨cl228, Ar228, qc228, Sz228, Nn228, Ha228, Gg228⟩ := (id V190)
  have hin228 : ¬ ((0 : Int32) < 0 ∨ cl228.slots.size ≤ ((0 : Int32)).toNatClampNeg) := inb_of Sz228 ⟨by decide, by decide⟩
  obtain ⟨T228, h228, X228, e228, W228, st228⟩ := stR X190 hx hZ e190 Ar228 (j := (0 : Int32)) hin228 rfl (Sto.ofVA Ar228 qc228 O190 (Ins.self E215)) (g := (mkF m 180 #[(vi p0), (vi p1), (vi p2), (vi p3), (vi p4), (vi r_1), (vi yk), (vr b3), (vr b120), .unset, .unset, .unset, .unset, .unset, .unset, .unset, .unset, .unset, .unset, .unset, .unset] [(.ref r215), (.int 0), (.ref b190), (.ref b190)])) rfl rfl (hb hby at_180)
  have O229 : Old Z n0 h228 := O211.wr W228 g210
  have V228 : Arv Z h228 b190 k190 (.array .int) (2 : Int32) ([(.ref r215), .null]) .null := Arv.set Ar228 qc228 Sz228 Nn228 Ha228 Gg228 (v := (.ref r215)) rfl W228 0 rfl (Nat.le_of_ble_eq_true rfl)
  have N228 := Fr.snoc X228 N187 g210
  obtain ⟨yj, hyj⟩ : ∃ z : Int32, z = (((p1.toUInt32 >>> ((8 : Int32) &&& 31).toUInt32).toInt32) &&& (1 : Int32)) := ⟨_, rfl⟩
  have pre230 : ∀ t, Steps p.tables e below (T228.setTop (mkF m 191 #[(vi p0), (vi p1), (vi p2), (vi p3), (vi p4), (vi r_1), (vi yk), (vr b3), (vr b120), .unset, .unset, .unset, .unset, .unset, .unset, .unset, .unset, .unset, .unset, .unset, .unset] [(.int yj), (.ref b120), (.int 1), (.ref b190), (.ref b190)])) t → Steps p.tables e below (s₁.setTop (entryFrame m #[(.int p0), (.int p1), (.int p2), (.int p3), (.int p4)] maxLocals)) t := by
    intro t k
    rw [hyj] at k
    refine pre212 t ?_
    show Steps p.tables e below (T190.setTop (mkF m 179 #[(vi p0), (vi p1), (vi p2), (vi p3), (vi p4), (vi r_1), (vi yk), (vr b3), (vr b120), .unset, .unset, .unset, .unset, .unset, .unset, .unset, .unset, .unset, .unset, .unset, .unset] [(.int yi), (.ref b3), (.int 0), (.ref b190), (.ref b190)])) _
    refine X190.aaload hx (j := yi) (v := (.ref r215)) (by rw [e190]; exact Ar214.1) (State.isArrayOf_alike hZ.alike Ar214.2.1) rfl Ar214.2.2 hin214 hat214 (g := (mkF m 179 #[(vi p0), (vi p1), (vi p2), (vi p3), (vi p4), (vi r_1), (vi yk), (vr b3), (vr b120), .unset, .unset, .unset, .unset, .unset, .unset, .unset, .unset, .unset, .unset, .unset, .unset] [(.int yi), (.ref b3), (.int 0), (.ref b190), (.ref b190)])) rfl rfl (hb hby at_179) _ ?_
    refine st228 _ ?_
    refine XS.dup X228.here hx rfl (hb hby at_181) rfl rfl ?_
    refine XS.iconst X228.here hx rfl (hb hby at_182) ?_
    refine XS.aload X228.here hx rfl (hb hby at_183) rfl rfl ?_
    refine XS.iloadN X228.here hx rfl (hb hby at_185) rfl ?_
    show Steps p.tables e below (T228.setTop (mkF m 186 #[(vi p0), (vi p1), (vi p2), (vi p3), (vi p4), (vi r_1), (vi yk), (vr b3), (vr b120), .unset, .unset, .unset, .unset, .unset, .unset, .unset, .unset, .unset, .unset, .unset, .unset] [(.int p1), (.ref b120), (.int 1), (.ref b190), (.ref b190)])) _
    refine XS.bipush X228.here hx rfl (hb hby at_186) ?_
    refine XS.iushr X228.here hx rfl (hb hby at_188) rfl ?_
    refine XS.iconst X228.here hx rfl (hb hby at_189) ?_
    refine XS.iand X228.here hx rfl (hb hby at_190) rfl ?_
    exact k
  have f231 : Arv Z h228 b120 k120 (.array .int) (2 : Int32) ([(.ref b136), (.ref b162)]) .null := ((V187.ext E190).other W228 ne205)
  obtain ⟨cl232, Ar232, qc232, Sz232, Nn232, Ha232, Gg232⟩ := (id f231)
  have hj233 := and_one (((p1.toUInt32 >>> ((8 : Int32) &&& 31).toUInt32).toInt32)); rw [← hyj] at hj233
  have f234 : Arv Z h228 b136 k136 .int (2 : Int32) ([(.int 0), (.int 1)]) (.int 0) := ((f207.ext E190).other W228 ne206)
  have f235 : Exa Z h228 b136 "[I" := (((((((f160.wr W159).ext E162).wr W182).wr W184).wr W187).ext E190).wr W228)
  have f236 : Arv Z h228 b162 k162 .int (2 : Int32) ([(.int 1), (.int 0)]) (.int 0) := ((f209.ext E190).other W228 ne208)
  have f237 : Exa Z h228 b162 "[I" := (((f188.wr W187).ext E190).wr W228)
  obtain ⟨k233, r233, x233_0, x233_1, hg233, V233, E233, c233_0, c233_1, n233_0, n233_1, n233_2, n233_3, n233_4, n233_5, n233_6, n233_7, n233_8⟩ : ∃ (k : ClassId) (r : Addr) (z0 z1 : Int32), ([(.ref b136), (.ref b162)] : List Value).getD (yj).toNatClampNeg .null = .ref r ∧ Arv Z h228 r k .int (2 : Int32) [(.int z0), (.int z1)] (.int 0) ∧ Exa Z h228 r "[I" ∧ inB z0 ∧ inB z1 ∧ r ≠ b3 ∧ r ≠ b6 ∧ r ≠ b20 ∧ r ≠ b36 ∧ r ≠ b54 ∧ r ≠ b74 ∧ r ≠ b96 ∧ r ≠ b120 ∧ r ≠ b190 := by
    rcases hj233 with h | h
    · exact ⟨k136, b136, (0 : Int32), (1 : Int32), by rw [h]; rfl, f234, f235, by decide, by decide, (Ne.symm ne137), (Ne.symm ne139), (Ne.symm ne141), (Ne.symm ne143), (Ne.symm ne145), (Ne.symm ne147), (Ne.symm ne149), (Ne.symm ne151), ne206⟩
    · exact ⟨k162, b162, (1 : Int32), (0 : Int32), by rw [h]; rfl, f236, f237, by decide, by decide, (Ne.symm ne163), (Ne.symm ne165), (Ne.symm ne167), (Ne.symm ne169), (Ne.symm ne171), (Ne.symm ne173), (Ne.symm ne175), (Ne.symm ne177), ne208⟩
  have hb233 : yj < (2 : Int32) ∧ ¬ yj < 0 := by rcases hj233 with h | h <;> (rw [h]; decide)
  have hin232 : ¬ (yj < 0 ∨ cl232.slots.size ≤ (yj).toNatClampNeg) := inb_of Sz232 ⟨hb233.2, hb233.1⟩
  have hat232 : cl232.slots[(yj).toNatClampNeg]? = some (.ref r233) := Ha232.at hin232 hg233
  obtain ⟨cl238, Ar238, qc238, Sz238, Nn238, Ha238, Gg238⟩ := (id V228)
  have hin238 : ¬ ((1 : Int32) < 0 ∨ cl238.slots.size ≤ ((1 : Int32)).toNatClampNeg) := inb_of Sz238 ⟨by decide, by decide⟩
  obtain ⟨T238, h238, X238, e238, W238, st238⟩ := stR X228 hx hZ e228 Ar238 (j := (1 : Int32)) hin238 rfl (Sto.ofVA Ar238 qc238 O190 (Ins.self E233)) (g := (mkF m 192 #[(vi p0), (vi p1), (vi p2), (vi p3), (vi p4), (vi r_1), (vi yk), (vr b3), (vr b120), .unset, .unset, .unset, .unset, .unset, .unset, .unset, .unset, .unset, .unset, .unset, .unset] [(.ref r233), (.int 1), (.ref b190), (.ref b190)])) rfl rfl (hb hby at_192)
  have O239 : Old Z n0 h238 := O229.wr W238 g210
  have V238 : Arv Z h238 b190 k190 (.array .int) (2 : Int32) ([(.ref r215), (.ref r233)]) .null := Arv.set Ar238 qc238 Sz238 Nn238 Ha238 Gg238 (v := (.ref r233)) rfl W238 1 rfl (Nat.le_of_ble_eq_true rfl)
  have N238 := Fr.snoc X238 N228 g210
  obtain ⟨T240, h240, k240, X240, e240, E240, A240, Z240, O240, st240⟩ := newRA X238 hx hZ (ty := .int) hown (by decide) (ow hw 5 rfl) (ow hw 6 rfl) e238 (g := (mkF m 196 #[(vi p0), (vi p1), (vi p2), (vi p3), (vi p4), (vi r_1), (vi yk), (vr b3), (vr b120), (vr b190), .unset, .unset, .unset, .unset, .unset, .unset, .unset, .unset, .unset, .unset, .unset] [(.int 2)])) rfl (hb hby at_196) rfl (by decide) (cap := 2) (by decide) (by decide) (by decide) (by decide) (ad := "[[I") rfl
  obtain ⟨b240, g240⟩ : ∃ z, z = h238.size := ⟨_, rfl⟩
  rw [← g240] at A240 Z240 st240
  have f242 : Arv Z h238 b3 k3 (.array .int) (6 : Int32) ([(.ref b6), (.ref b20), (.ref b36), (.ref b54), (.ref b74), (.ref b96)]) .null := ((f213.other W228 ne191).other W238 ne191)
  have ne241 : b3 ≠ b240 := Nat.ne_of_lt (Nat.lt_of_lt_of_le f242.lt (Nat.le_of_eq g240.symm))
  have f244 : Arv Z h238 b6 k6 .int (3 : Int32) ([(.int 0), (.int 1), (.int 2)]) (.int 0) := ((f216.other W228 ne193).other W238 ne193)
  have ne243 : b6 ≠ b240 := Nat.ne_of_lt (Nat.lt_of_lt_of_le f244.lt (Nat.le_of_eq g240.symm))
  have f246 : Arv Z h238 b20 k20 .int (3 : Int32) ([(.int 0), (.int 2), (.int 1)]) (.int 0) := ((f218.other W228 ne195).other W238 ne195)
  have ne245 : b20 ≠ b240 := Nat.ne_of_lt (Nat.lt_of_lt_of_le f246.lt (Nat.le_of_eq g240.symm))
  have f248 : Arv Z h238 b36 k36 .int (3 : Int32) ([(.int 1), (.int 0), (.int 2)]) (.int 0) := ((f220.other W228 ne197).other W238 ne197)
  have ne247 : b36 ≠ b240 := Nat.ne_of_lt (Nat.lt_of_lt_of_le f248.lt (Nat.le_of_eq g240.symm))
  have f250 : Arv Z h238 b54 k54 .int (3 : Int32) ([(.int 1), (.int 2), (.int 0)]) (.int 0) := ((f222.other W228 ne199).other W238 ne199)
  have ne249 : b54 ≠ b240 := Nat.ne_of_lt (Nat.lt_of_lt_of_le f250.lt (Nat.le_of_eq g240.symm))
  have f252 : Arv Z h238 b74 k74 .int (3 : Int32) ([(.int 2), (.int 0), (.int 1)]) (.int 0) := ((f224.other W228 ne201).other W238 ne201)
  have ne251 : b74 ≠ b240 := Nat.ne_of_lt (Nat.lt_of_lt_of_le f252.lt (Nat.le_of_eq g240.symm))
  have f254 : Arv Z h238 b96 k96 .int (3 : Int32) ([(.int 2), (.int 1), (.int 0)]) (.int 0) := ((f226.other W228 ne203).other W238 ne203)
  have ne253 : b96 ≠ b240 := Nat.ne_of_lt (Nat.lt_of_lt_of_le f254.lt (Nat.le_of_eq g240.symm))
  have f256 : Arv Z h238 b120 k120 (.array .int) (2 : Int32) ([(.ref b136), (.ref b162)]) .null := (f231.other W238 ne205)
  have ne255 : b120 ≠ b240 := Nat.ne_of_lt (Nat.lt_of_lt_of_le f256.lt (Nat.le_of_eq g240.symm))
  have f258 : Arv Z h238 b136 k136 .int (2 : Int32) ([(.int 0), (.int 1)]) (.int 0) := (f234.other W238 ne206)
  have ne257 : b136 ≠ b240 := Nat.ne_of_lt (Nat.lt_of_lt_of_le f258.lt (Nat.le_of_eq g240.symm))
  have f260 : Arv Z h238 b162 k162 .int (2 : Int32) ([(.int 1), (.int 0)]) (.int 0) := (f236.other W238 ne208)
  have ne259 : b162 ≠ b240 := Nat.ne_of_lt (Nat.lt_of_lt_of_le f260.lt (Nat.le_of_eq g240.symm))
  have ne261 : b190 ≠ b240 := Nat.ne_of_lt (Nat.lt_of_lt_of_le V238.lt (Nat.le_of_eq g240.symm))
  have f263 : Arv Z h238 r215 k215 .int (3 : Int32) ([(.int x215_0), (.int x215_1), (.int x215_2)]) (.int 0) := ((V215.other W228 n215_4).other W238 n215_4)
  have ne262 : r215 ≠ b240 := Nat.ne_of_lt (Nat.lt_of_lt_of_le f263.lt (Nat.le_of_eq g240.symm))
  have f265 : Arv Z h238 r233 k233 .int (2 : Int32) ([(.int x233_0), (.int x233_1)]) (.int 0) := (V233.other W238 n233_8)
  have ne264 : r233 ≠ b240 := Nat.ne_of_lt (Nat.lt_of_lt_of_le f265.lt (Nat.le_of_eq g240.symm))
  have g266 : n0 ≤ b240 := Nat.le_trans (own_sz O239) (Nat.le_of_eq g240.symm)
  have O267 : Old Z n0 h240 := O239.ext E240
  have V240 : Arv Z h240 b240 k240 (.array .int) (2 : Int32) ([.null, .null]) .null := (Arv.new A240 (by decide)).pad (pad_rep [] .null 2)
  obtain ⟨yu, hyu⟩ : ∃ z : Int32, z = ((p2 &&& (2147483647 : Int32)) % (6 : Int32)) := ⟨_, rfl⟩
  have pre268 : ∀ t, Steps p.tables e below (T240.setTop (mkF m 210 #[(vi p0), (vi p1), (vi p2), (vi p3), (vi p4), (vi r_1), (vi yk), (vr b3), (vr b120), (vr b190), .unset, .unset, .unset, .unset, .unset, .unset, .unset, .unset, .unset, .unset, .unset] [(.int yu), (.ref b3), (.int 0), (.ref b240), (.ref b240)])) t → Steps p.tables e below (s₁.setTop (entryFrame m #[(.int p0), (.int p1), (.int p2), (.int p3), (.int p4)] maxLocals)) t := by
    intro t k
    rw [hyu] at k
    refine pre230 t ?_
    show Steps p.tables e below (T228.setTop (mkF m 191 #[(vi p0), (vi p1), (vi p2), (vi p3), (vi p4), (vi r_1), (vi yk), (vr b3), (vr b120), .unset, .unset, .unset, .unset, .unset, .unset, .unset, .unset, .unset, .unset, .unset, .unset] [(.int yj), (.ref b120), (.int 1), (.ref b190), (.ref b190)])) _
    refine X228.aaload hx (j := yj) (v := (.ref r233)) (by rw [e228]; exact Ar232.1) (State.isArrayOf_alike hZ.alike Ar232.2.1) rfl Ar232.2.2 hin232 hat232 (g := (mkF m 191 #[(vi p0), (vi p1), (vi p2), (vi p3), (vi p4), (vi r_1), (vi yk), (vr b3), (vr b120), .unset, .unset, .unset, .unset, .unset, .unset, .unset, .unset, .unset, .unset, .unset, .unset] [(.int yj), (.ref b120), (.int 1), (.ref b190), (.ref b190)])) rfl rfl (hb hby at_191) _ ?_
    refine st238 _ ?_
    refine XS.astore X238.here hx rfl (hb hby at_193) rfl rfl (l' := #[(vi p0), (vi p1), (vi p2), (vi p3), (vi p4), (vi r_1), (vi yk), (vr b3), (vr b120), (vr b190), .unset, .unset, .unset, .unset, .unset, .unset, .unset, .unset, .unset, .unset, .unset]) rfl ?_
    refine XS.iconst X238.here hx rfl (hb hby at_195) ?_
    refine st240 _ ?_
    refine XS.dup X240.here hx rfl (hb hby at_199) rfl rfl ?_
    show Steps p.tables e below (T240.setTop (mkF m 200 #[(vi p0), (vi p1), (vi p2), (vi p3), (vi p4), (vi r_1), (vi yk), (vr b3), (vr b120), (vr b190), .unset, .unset, .unset, .unset, .unset, .unset, .unset, .unset, .unset, .unset, .unset] [(.ref b240), (.ref b240)])) _
    refine XS.iconst X240.here hx rfl (hb hby at_200) ?_
    refine XS.aload X240.here hx rfl (hb hby at_201) rfl rfl ?_
    refine XS.iloadN X240.here hx rfl (hb hby at_203) rfl ?_
    refine X240.ldcInt hx hown (mvT hZ (ow hw 4 rfl)) (g := (mkF m 204 #[(vi p0), (vi p1), (vi p2), (vi p3), (vi p4), (vi r_1), (vi yk), (vr b3), (vr b120), (vr b190), .unset, .unset, .unset, .unset, .unset, .unset, .unset, .unset, .unset, .unset, .unset] [(.int p2), (.ref b3), (.int 0), (.ref b240), (.ref b240)])) rfl (hb hby at_204) _ ?_
    refine XS.iand X240.here hx rfl (hb hby at_206) rfl ?_
    refine XS.bipush X240.here hx rfl (hb hby at_207) ?_
    show Steps p.tables e below (T240.setTop (mkF m 209 #[(vi p0), (vi p1), (vi p2), (vi p3), (vi p4), (vi r_1), (vi yk), (vr b3), (vr b120), (vr b190), .unset, .unset, .unset, .unset, .unset, .unset, .unset, .unset, .unset, .unset, .unset] [(.int 6), (.int (p2 &&& (2147483647 : Int32))), (.ref b3), (.int 0), (.ref b240), (.ref b240)])) _
    refine iremM X240 hx rfl (hb hby at_209) rfl (by decide) ?_
    exact k
  have f269 : Arv Z h240 b3 k3 (.array .int) (6 : Int32) ([(.ref b6), (.ref b20), (.ref b36), (.ref b54), (.ref b74), (.ref b96)]) .null := (f242.ext E240)
  obtain ⟨cl270, Ar270, qc270, Sz270, Nn270, Ha270, Gg270⟩ := (id f269)
  have hj271 := own_mod6 p2; rw [← hyu] at hj271
  have f272 : Arv Z h240 b6 k6 .int (3 : Int32) ([(.int 0), (.int 1), (.int 2)]) (.int 0) := (f244.ext E240)
  have f273 : Exa Z h240 b6 "[I" := (((f217.wr W228).wr W238).ext E240)
  have f274 : Arv Z h240 b20 k20 .int (3 : Int32) ([(.int 0), (.int 2), (.int 1)]) (.int 0) := (f246.ext E240)
  have f275 : Exa Z h240 b20 "[I" := (((f219.wr W228).wr W238).ext E240)
  have f276 : Arv Z h240 b36 k36 .int (3 : Int32) ([(.int 1), (.int 0), (.int 2)]) (.int 0) := (f248.ext E240)
  have f277 : Exa Z h240 b36 "[I" := (((f221.wr W228).wr W238).ext E240)
  have f278 : Arv Z h240 b54 k54 .int (3 : Int32) ([(.int 1), (.int 2), (.int 0)]) (.int 0) := (f250.ext E240)
  have f279 : Exa Z h240 b54 "[I" := (((f223.wr W228).wr W238).ext E240)
  have f280 : Arv Z h240 b74 k74 .int (3 : Int32) ([(.int 2), (.int 0), (.int 1)]) (.int 0) := (f252.ext E240)
  have f281 : Exa Z h240 b74 "[I" := (((f225.wr W228).wr W238).ext E240)
  have f282 : Arv Z h240 b96 k96 .int (3 : Int32) ([(.int 2), (.int 1), (.int 0)]) (.int 0) := (f254.ext E240)
  have f283 : Exa Z h240 b96 "[I" := (((f227.wr W228).wr W238).ext E240)
  obtain ⟨k271, r271, x271_0, x271_1, x271_2, hg271, V271, E271, c271_0, c271_1, c271_2, n271_0, n271_1, n271_2, n271_3, n271_4, n271_5⟩ : ∃ (k : ClassId) (r : Addr) (z0 z1 z2 : Int32), ([(.ref b6), (.ref b20), (.ref b36), (.ref b54), (.ref b74), (.ref b96)] : List Value).getD (yu).toNatClampNeg .null = .ref r ∧ Arv Z h240 r k .int (3 : Int32) [(.int z0), (.int z1), (.int z2)] (.int 0) ∧ Exa Z h240 r "[I" ∧ inT z0 ∧ inT z1 ∧ inT z2 ∧ r ≠ b3 ∧ r ≠ b120 ∧ r ≠ b136 ∧ r ≠ b162 ∧ r ≠ b190 ∧ r ≠ b240 := by
    rcases hj271 with h | h | h | h | h | h
    · exact ⟨k6, b6, (0 : Int32), (1 : Int32), (2 : Int32), by rw [h]; rfl, f272, f273, by decide, by decide, by decide, (Ne.symm ne7), ne122, ne139, ne165, ne193, ne243⟩
    · exact ⟨k20, b20, (0 : Int32), (2 : Int32), (1 : Int32), by rw [h]; rfl, f274, f275, by decide, by decide, by decide, (Ne.symm ne21), ne124, ne141, ne167, ne195, ne245⟩
    · exact ⟨k36, b36, (1 : Int32), (0 : Int32), (2 : Int32), by rw [h]; rfl, f276, f277, by decide, by decide, by decide, (Ne.symm ne37), ne126, ne143, ne169, ne197, ne247⟩
    · exact ⟨k54, b54, (1 : Int32), (2 : Int32), (0 : Int32), by rw [h]; rfl, f278, f279, by decide, by decide, by decide, (Ne.symm ne55), ne128, ne145, ne171, ne199, ne249⟩
    · exact ⟨k74, b74, (2 : Int32), (0 : Int32), (1 : Int32), by rw [h]; rfl, f280, f281, by decide, by decide, by decide, (Ne.symm ne75), ne130, ne147, ne173, ne201, ne251⟩
    · exact ⟨k96, b96, (2 : Int32), (1 : Int32), (0 : Int32), by rw [h]; rfl, f282, f283, by decide, by decide, by decide, (Ne.symm ne97), ne132, ne149, ne175, ne203, ne253⟩
  have hb271 : yu < (6 : Int32) ∧ ¬ yu < 0 := by rcases hj271 with h | h | h | h | h | h <;> (rw [h]; decide)
  have hin270 : ¬ (yu < 0 ∨ cl270.slots.size ≤ (yu).toNatClampNeg) := inb_of Sz270 ⟨hb271.2, hb271.1⟩
  have hat270 : cl270.slots[(yu).toNatClampNeg]? = some (.ref r271) := Ha270.at hin270 hg271
  obtain ⟨cl284, Ar284, qc284, Sz284, Nn284, Ha284, Gg284⟩ := (id V240)
  have hin284 : ¬ ((0 : Int32) < 0 ∨ cl284.slots.size ≤ ((0 : Int32)).toNatClampNeg) := inb_of Sz284 ⟨by decide, by decide⟩
  obtain ⟨T284, h284, X284, e284, W284, st284⟩ := stR X240 hx hZ e240 Ar284 (j := (0 : Int32)) hin284 rfl (Sto.ofVA Ar284 qc284 O240 (Ins.self E271)) (g := (mkF m 211 #[(vi p0), (vi p1), (vi p2), (vi p3), (vi p4), (vi r_1), (vi yk), (vr b3), (vr b120), (vr b190), .unset, .unset, .unset, .unset, .unset, .unset, .unset, .unset, .unset, .unset, .unset] [(.ref r271), (.int 0), (.ref b240), (.ref b240)])) rfl rfl (hb hby at_211)
  have O285 : Old Z n0 h284 := O267.wr W284 g266
  have V284 : Arv Z h284 b240 k240 (.array .int) (2 : Int32) ([(.ref r271), .null]) .null := Arv.set Ar284 qc284 Sz284 Nn284 Ha284 Gg284 (v := (.ref r271)) rfl W284 0 rfl (Nat.le_of_ble_eq_true rfl)
  have N284 := Fr.snoc X284 N238 g266
  obtain ⟨yv, hyv⟩ : ∃ z : Int32, z = (((p2.toUInt32 >>> ((8 : Int32) &&& 31).toUInt32).toInt32) &&& (1 : Int32)) := ⟨_, rfl⟩
  have pre286 : ∀ t, Steps p.tables e below (T284.setTop (mkF m 222 #[(vi p0), (vi p1), (vi p2), (vi p3), (vi p4), (vi r_1), (vi yk), (vr b3), (vr b120), (vr b190), .unset, .unset, .unset, .unset, .unset, .unset, .unset, .unset, .unset, .unset, .unset] [(.int yv), (.ref b120), (.int 1), (.ref b240), (.ref b240)])) t → Steps p.tables e below (s₁.setTop (entryFrame m #[(.int p0), (.int p1), (.int p2), (.int p3), (.int p4)] maxLocals)) t := by
    intro t k
    rw [hyv] at k
    refine pre268 t ?_
    show Steps p.tables e below (T240.setTop (mkF m 210 #[(vi p0), (vi p1), (vi p2), (vi p3), (vi p4), (vi r_1), (vi yk), (vr b3), (vr b120), (vr b190), .unset, .unset, .unset, .unset, .unset, .unset, .unset, .unset, .unset, .unset, .unset] [(.int yu), (.ref b3), (.int 0), (.ref b240), (.ref b240)])) _
    refine X240.aaload hx (j := yu) (v := (.ref r271)) (by rw [e240]; exact Ar270.1) (State.isArrayOf_alike hZ.alike Ar270.2.1) rfl Ar270.2.2 hin270 hat270 (g := (mkF m 210 #[(vi p0), (vi p1), (vi p2), (vi p3), (vi p4), (vi r_1), (vi yk), (vr b3), (vr b120), (vr b190), .unset, .unset, .unset, .unset, .unset, .unset, .unset, .unset, .unset, .unset, .unset] [(.int yu), (.ref b3), (.int 0), (.ref b240), (.ref b240)])) rfl rfl (hb hby at_210) _ ?_
    refine st284 _ ?_
    refine XS.dup X284.here hx rfl (hb hby at_212) rfl rfl ?_
    refine XS.iconst X284.here hx rfl (hb hby at_213) ?_
    refine XS.aload X284.here hx rfl (hb hby at_214) rfl rfl ?_
    refine XS.iloadN X284.here hx rfl (hb hby at_216) rfl ?_
    show Steps p.tables e below (T284.setTop (mkF m 217 #[(vi p0), (vi p1), (vi p2), (vi p3), (vi p4), (vi r_1), (vi yk), (vr b3), (vr b120), (vr b190), .unset, .unset, .unset, .unset, .unset, .unset, .unset, .unset, .unset, .unset, .unset] [(.int p2), (.ref b120), (.int 1), (.ref b240), (.ref b240)])) _
    refine XS.bipush X284.here hx rfl (hb hby at_217) ?_
    refine XS.iushr X284.here hx rfl (hb hby at_219) rfl ?_
    refine XS.iconst X284.here hx rfl (hb hby at_220) ?_
    refine XS.iand X284.here hx rfl (hb hby at_221) rfl ?_
    exact k
  have f287 : Arv Z h284 b120 k120 (.array .int) (2 : Int32) ([(.ref b136), (.ref b162)]) .null := ((f256.ext E240).other W284 ne255)
  obtain ⟨cl288, Ar288, qc288, Sz288, Nn288, Ha288, Gg288⟩ := (id f287)
  have hj289 := and_one (((p2.toUInt32 >>> ((8 : Int32) &&& 31).toUInt32).toInt32)); rw [← hyv] at hj289
  have f290 : Arv Z h284 b136 k136 .int (2 : Int32) ([(.int 0), (.int 1)]) (.int 0) := ((f258.ext E240).other W284 ne257)
  have f291 : Exa Z h284 b136 "[I" := (((f235.wr W238).ext E240).wr W284)
  have f292 : Arv Z h284 b162 k162 .int (2 : Int32) ([(.int 1), (.int 0)]) (.int 0) := ((f260.ext E240).other W284 ne259)
  have f293 : Exa Z h284 b162 "[I" := (((f237.wr W238).ext E240).wr W284)
  obtain ⟨k289, r289, x289_0, x289_1, hg289, V289, E289, c289_0, c289_1, n289_0, n289_1, n289_2, n289_3, n289_4, n289_5, n289_6, n289_7, n289_8, n289_9⟩ : ∃ (k : ClassId) (r : Addr) (z0 z1 : Int32), ([(.ref b136), (.ref b162)] : List Value).getD (yv).toNatClampNeg .null = .ref r ∧ Arv Z h284 r k .int (2 : Int32) [(.int z0), (.int z1)] (.int 0) ∧ Exa Z h284 r "[I" ∧ inB z0 ∧ inB z1 ∧ r ≠ b3 ∧ r ≠ b6 ∧ r ≠ b20 ∧ r ≠ b36 ∧ r ≠ b54 ∧ r ≠ b74 ∧ r ≠ b96 ∧ r ≠ b120 ∧ r ≠ b190 ∧ r ≠ b240 := by
    rcases hj289 with h | h
    · exact ⟨k136, b136, (0 : Int32), (1 : Int32), by rw [h]; rfl, f290, f291, by decide, by decide, (Ne.symm ne137), (Ne.symm ne139), (Ne.symm ne141), (Ne.symm ne143), (Ne.symm ne145), (Ne.symm ne147), (Ne.symm ne149), (Ne.symm ne151), ne206, ne257⟩
    · exact ⟨k162, b162, (1 : Int32), (0 : Int32), by rw [h]; rfl, f292, f293, by decide, by decide, (Ne.symm ne163), (Ne.symm ne165), (Ne.symm ne167), (Ne.symm ne169), (Ne.symm ne171), (Ne.symm ne173), (Ne.symm ne175), (Ne.symm ne177), ne208, ne259⟩
  have hb289 : yv < (2 : Int32) ∧ ¬ yv < 0 := by rcases hj289 with h | h <;> (rw [h]; decide)
  have hin288 : ¬ (yv < 0 ∨ cl288.slots.size ≤ (yv).toNatClampNeg) := inb_of Sz288 ⟨hb289.2, hb289.1⟩
  have hat288 : cl288.slots[(yv).toNatClampNeg]? = some (.ref r289) := Ha288.at hin288 hg289
  obtain ⟨cl294, Ar294, qc294, Sz294, Nn294, Ha294, Gg294⟩ := (id V284)
  have hin294 : ¬ ((1 : Int32) < 0 ∨ cl294.slots.size ≤ ((1 : Int32)).toNatClampNeg) := inb_of Sz294 ⟨by decide, by decide⟩
  obtain ⟨T294, h294, X294, e294, W294, st294⟩ := stR X284 hx hZ e284 Ar294 (j := (1 : Int32)) hin294 rfl (Sto.ofVA Ar294 qc294 O240 (Ins.self E289)) (g := (mkF m 223 #[(vi p0), (vi p1), (vi p2), (vi p3), (vi p4), (vi r_1), (vi yk), (vr b3), (vr b120), (vr b190), .unset, .unset, .unset, .unset, .unset, .unset, .unset, .unset, .unset, .unset, .unset] [(.ref r289), (.int 1), (.ref b240), (.ref b240)])) rfl rfl (hb hby at_223)
  have O295 : Old Z n0 h294 := O285.wr W294 g266
  have V294 : Arv Z h294 b240 k240 (.array .int) (2 : Int32) ([(.ref r271), (.ref r289)]) .null := Arv.set Ar294 qc294 Sz294 Nn294 Ha294 Gg294 (v := (.ref r289)) rfl W294 1 rfl (Nat.le_of_ble_eq_true rfl)
  have N294 := Fr.snoc X294 N284 g266
  have pre296 : ∀ t, Steps p.tables e below (T294.setTop (mkF m 226 #[(vi p0), (vi p1), (vi p2), (vi p3), (vi p4), (vi r_1), (vi yk), (vr b3), (vr b120), (vr b190), (vr b240), .unset, .unset, .unset, .unset, .unset, .unset, .unset, .unset, .unset, .unset] [])) t → Steps p.tables e below (s₁.setTop (entryFrame m #[(.int p0), (.int p1), (.int p2), (.int p3), (.int p4)] maxLocals)) t := by
    intro t k
    refine pre286 t ?_
    show Steps p.tables e below (T284.setTop (mkF m 222 #[(vi p0), (vi p1), (vi p2), (vi p3), (vi p4), (vi r_1), (vi yk), (vr b3), (vr b120), (vr b190), .unset, .unset, .unset, .unset, .unset, .unset, .unset, .unset, .unset, .unset, .unset] [(.int yv), (.ref b120), (.int 1), (.ref b240), (.ref b240)])) _
    refine X284.aaload hx (j := yv) (v := (.ref r289)) (by rw [e284]; exact Ar288.1) (State.isArrayOf_alike hZ.alike Ar288.2.1) rfl Ar288.2.2 hin288 hat288 (g := (mkF m 222 #[(vi p0), (vi p1), (vi p2), (vi p3), (vi p4), (vi r_1), (vi yk), (vr b3), (vr b120), (vr b190), .unset, .unset, .unset, .unset, .unset, .unset, .unset, .unset, .unset, .unset, .unset] [(.int yv), (.ref b120), (.int 1), (.ref b240), (.ref b240)])) rfl rfl (hb hby at_222) _ ?_
    refine st294 _ ?_
    refine XS.astore X294.here hx rfl (hb hby at_224) rfl rfl (l' := #[(vi p0), (vi p1), (vi p2), (vi p3), (vi p4), (vi r_1), (vi yk), (vr b3), (vr b120), (vr b190), (vr b240), .unset, .unset, .unset, .unset, .unset, .unset, .unset, .unset, .unset, .unset]) rfl ?_
    exact k
  have f297 : Arv Z h294 b3 k3 (.array .int) (6 : Int32) ([(.ref b6), (.ref b20), (.ref b36), (.ref b54), (.ref b74), (.ref b96)]) .null := ((f269.other W284 ne241).other W294 ne241)
  have f298 : Arv Z h294 b120 k120 (.array .int) (2 : Int32) ([(.ref b136), (.ref b162)]) .null := (f287.other W294 ne255)
  have f299 : Arv Z h294 b190 k190 (.array .int) (2 : Int32) ([(.ref r215), (.ref r233)]) .null := (((V238.ext E240).other W284 ne261).other W294 ne261)
  have f300 : Arv Z h294 b6 k6 .int (3 : Int32) ([(.int 0), (.int 1), (.int 2)]) (.int 0) := ((f272.other W284 ne243).other W294 ne243)
  have f301 : Arv Z h294 b20 k20 .int (3 : Int32) ([(.int 0), (.int 2), (.int 1)]) (.int 0) := ((f274.other W284 ne245).other W294 ne245)
  have f302 : Arv Z h294 b36 k36 .int (3 : Int32) ([(.int 1), (.int 0), (.int 2)]) (.int 0) := ((f276.other W284 ne247).other W294 ne247)
  have f303 : Arv Z h294 b54 k54 .int (3 : Int32) ([(.int 1), (.int 2), (.int 0)]) (.int 0) := ((f278.other W284 ne249).other W294 ne249)
  have f304 : Arv Z h294 b74 k74 .int (3 : Int32) ([(.int 2), (.int 0), (.int 1)]) (.int 0) := ((f280.other W284 ne251).other W294 ne251)
  have f305 : Arv Z h294 b96 k96 .int (3 : Int32) ([(.int 2), (.int 1), (.int 0)]) (.int 0) := ((f282.other W284 ne253).other W294 ne253)
  have f306 : Arv Z h294 b136 k136 .int (2 : Int32) ([(.int 0), (.int 1)]) (.int 0) := (f290.other W294 ne257)
  have f307 : Arv Z h294 b162 k162 .int (2 : Int32) ([(.int 1), (.int 0)]) (.int 0) := (f292.other W294 ne259)
  have f308 : Arv Z h294 r215 k215 .int (3 : Int32) ([(.int x215_0), (.int x215_1), (.int x215_2)]) (.int 0) := (((f263.ext E240).other W284 ne262).other W294 ne262)
  have f309 : Arv Z h294 r233 k233 .int (2 : Int32) ([(.int x233_0), (.int x233_1)]) (.int 0) := (((f265.ext E240).other W284 ne264).other W294 ne264)
  have f310 : Arv Z h294 r271 k271 .int (3 : Int32) ([(.int x271_0), (.int x271_1), (.int x271_2)]) (.int 0) := ((V271.other W284 n271_5).other W294 n271_5)
  have f311 : Arv Z h294 r289 k289 .int (2 : Int32) ([(.int x289_0), (.int x289_1)]) (.int 0) := (V289.other W294 n289_9)
  obtain ⟨t9, o9, hs9, hr9⟩ := tl_rm0_o hw wDEFAULTCAPACITY_EMPTY_ELEMENTDATA kwDEFAULTCAPACITY_EMPTY_ELEMENTDATA hS p0 p1 p2 p3 p4 r_1 yk b3 b120 b190 b240 k3 b6 b20 b36 b54 b74 b96 k120 b136 b162 k190 r215 r233 k240 r271 r289 k6 k20 k36 k54 k74 k96 k136 k162 k215 x215_0 x215_1 x215_2 k233 x233_0 x233_1 k271 x271_0 x271_1 x271_2 k289 x289_0 x289_1 X294 hx hZ hby hml hown hnm hret0 hlk0 e294 N294 O295 f297 f298 f299 V294 f300 f301 f302 f303 f304 f305 f306 f307 f308 f309 f310 f311 hm2 hm1 hk0 c215_0 c215_1 c215_2 c233_0 c233_1 c271_0 c271_1 c271_2 c289_0 c289_1
  exact ⟨t9, o9, pre296 _ hs9, hr9⟩
theorem comes_1 {Post : Tables → Env → Array Value → State → Outcome → State → Prop} (hpost : ∀ tb e args s v u, (limb_1_1.after args s (.returned v) u = true ∧ limb_1_2.after args s (.returned v) u = true ∧ True) → FrameEnd s (.returned v) u (Jvm.fieldLocs frame_1_writes args s ++ Jvm.arrayLocs frame_1_arrays args s ++ Jvm.staticLocs frame_1_statics s) 64 256 → Post tb e args s (.returned v) u) :
    ArmFor flags0 classFile x code maxLocals ret World_1 tables_1 room_1 Calls_1 rest_1 Pre_1 Post := by
  intro l hfl _ _ p e ha hc hk s m args below hf hA hF happ hP
  obtain ⟨hcalls, hrest, hpre⟩ := hP
  obtain ⟨-, -, -, hnamed, -, -, -, hat⟩ := (Spec.applies_iff hf).mp happ
  obtain ⟨hg, hn⟩ := and_e (Cond.before_iff.mp (show (Jvm.Cond.and given_1 narrow_1).before args s = true from hpre))
  obtain ⟨g1, g2⟩ := and_e hg
  obtain ⟨g3, g4⟩ := and_e g2
  obtain ⟨g5, g6⟩ := and_e g4
  obtain ⟨g7, g8⟩ := and_e g6
  obtain ⟨g9, g10⟩ := and_e g8
  obtain ⟨w0, w1, w2, w3, w4, rfl⟩ : ∃ w0 w1 w2 w3 w4 : Value, args = #[w0, w1, w2, w3, w4] := by
    have hs : args.size = 5 := by simpa [Cond.value, given_1] using g1
    obtain ⟨L⟩ := args
    match L, hs with
    | [w0, w1, w2, w3, w4], _ => exact ⟨w0, w1, w2, w3, w4, rfl⟩
  have hw := fun d (hd : d ∈ tables_1) => atoms_spec (ws := Jvm.Cond.code x code maxLocals ret :: tables_1) hat d (List.mem_cons_of_mem _ hd)
  have hfit : Fit s := fun {y c} hc i hi => by
    obtain ⟨ha, rfl⟩ := Array.getElem?_eq_some_iff.mp hc
    have q := List.all_eq_true.mp ((Array.all_eq_true_iff_forall_mem.mp hF) _ (Array.getElem_mem ha)) i (List.mem_range.mpr hi)
    simpa [Array.getElem?_eq_getElem hi] using q
  obtain ⟨hsets, hown0⟩ := atoms_of _ (rest_1_c_eq ▸ (show rest_1_c.before _ s = true from hrest))
  have hr0 := Cond.before_iff.mp hown0
  obtain ⟨i0, ei0⟩ := is_v g3
  obtain rfl : w0 = (.int i0) := Option.some.inj ei0
  obtain ⟨i1, ei1⟩ := is_v g5
  obtain rfl : w1 = (.int i1) := Option.some.inj ei1
  obtain ⟨i2, ei2⟩ := is_v g7
  obtain rfl : w2 = (.int i2) := Option.some.inj ei2
  obtain ⟨i3, ei3⟩ := is_v g9
  obtain rfl : w3 = (.int i3) := Option.some.inj ei3
  obtain ⟨i4, ei4⟩ := is_v g10
  obtain rfl : w4 = (.int i4) := Option.some.inj ei4
  have hx_wDEFAULTCAPACITY_EMPTY_ELEMENTDATA := Cond.before_iff.mp (hsets _ (List.mem_of_getElem? (i := 7) rfl))
  obtain ⟨wDEFAULTCAPACITY_EMPTY_ELEMENTDATA, ev_wDEFAULTCAPACITY_EMPTY_ELEMENTDATA⟩ := exa_v hx_wDEFAULTCAPACITY_EMPTY_ELEMENTDATA
  have S_wDEFAULTCAPACITY_EMPTY_ELEMENTDATA := Sta.start ev_wDEFAULTCAPACITY_EMPTY_ELEMENTDATA (Or.inr ⟨(ow hw 20 rfl), (hsets _ (List.mem_of_getElem? (i := 2) rfl))⟩)
  have E_wDEFAULTCAPACITY_EMPTY_ELEMENTDATA := Exa.start ev_wDEFAULTCAPACITY_EMPTY_ELEMENTDATA hx_wDEFAULTCAPACITY_EMPTY_ELEMENTDATA
  obtain ⟨c_wDEFAULTCAPACITY_EMPTY_ELEMENTDATA, A_wDEFAULTCAPACITY_EMPTY_ELEMENTDATA⟩ := Arr.start ev_wDEFAULTCAPACITY_EMPTY_ELEMENTDATA (Cond.before_iff.mp (hsets _ (List.mem_of_getElem? (i := 6) rfl)))
  obtain ⟨sz_wDEFAULTCAPACITY_EMPTY_ELEMENTDATA, ln_wDEFAULTCAPACITY_EMPTY_ELEMENTDATA⟩ := Jvm.Free.IntBox.length_fwd (hsets _ (List.mem_of_getElem? (i := 8) rfl)) ev_wDEFAULTCAPACITY_EMPTY_ELEMENTDATA A_wDEFAULTCAPACITY_EMPTY_ELEMENTDATA.1 A_wDEFAULTCAPACITY_EMPTY_ELEMENTDATA.2.1 A_wDEFAULTCAPACITY_EMPTY_ELEMENTDATA.2.2
  obtain ⟨kwDEFAULTCAPACITY_EMPTY_ELEMENTDATA, hk_kwDEFAULTCAPACITY_EMPTY_ELEMENTDATA⟩ : ∃ z, z = c_wDEFAULTCAPACITY_EMPTY_ELEMENTDATA.cls := ⟨_, rfl⟩
  have V_wDEFAULTCAPACITY_EMPTY_ELEMENTDATA : Arv s s.heap wDEFAULTCAPACITY_EMPTY_ELEMENTDATA kwDEFAULTCAPACITY_EMPTY_ELEMENTDATA (.object s2n) (0 : Int32) [] .null := hk_kwDEFAULTCAPACITY_EMPTY_ELEMENTDATA ▸ Arv.start hfit A_wDEFAULTCAPACITY_EMPTY_ELEMENTDATA sz_wDEFAULTCAPACITY_EMPTY_ELEMENTDATA ln_wDEFAULTCAPACITY_EMPTY_ELEMENTDATA (by decide) (by decide) trivial
  have hS : SS s wDEFAULTCAPACITY_EMPTY_ELEMENTDATA kwDEFAULTCAPACITY_EMPTY_ELEMENTDATA := ⟨S_wDEFAULTCAPACITY_EMPTY_ELEMENTDATA, E_wDEFAULTCAPACITY_EMPTY_ELEMENTDATA, V_wDEFAULTCAPACITY_EMPTY_ELEMENTDATA⟩
  obtain ⟨n, o, h1, h2, h3, _, L, rfl, ⟨rfl, N⟩, hq⟩ := rm0 l s _ hw tables_1 wDEFAULTCAPACITY_EMPTY_ELEMENTDATA kwDEFAULTCAPACITY_EMPTY_ELEMENTDATA hS i0 i1 i2 i3 i4 s.heap s.heap.size (Old.start s)  p e ha hc hk s m _ below hf ((Spec.applies_iff_loose hf).mp happ).1 ⟨rfl, State.Warmed39.refl s, rfl⟩ trivial
  refine ⟨n, _, h1, h2, h3, hpost _ _ _ _ _ _ ⟨Cond.after_iff.mpr rfl, Cond.after_iff.mpr (eq_i res_at (Term.int_eval (1)) rfl), trivial⟩ ⟨hq.1, hq.2.1, (hq.2.2.sift fun y hy => Or.inr (N y hy)).mono (by decide) (by decide)⟩⟩
theorem main_1_1 : Claimed_1_1 := comes_1 fun _ _ _ _ _ _ h hF => ⟨h.1, hF⟩
theorem main_1_2 : Claimed_1_2 := comes_1 fun _ _ _ _ _ _ h hF => ⟨h.2.1, hF⟩
end Jvm.Pilot.@@N@@
namespace Jvm.Pilot.@@N@@
open Jvm Jvm.ClassFile Sem Op Lib Jvm.Free Jvm.Stand Jvm.Pilot.@@N@@.Jvm.D
/-! MADE BY PROGRAM (witnessworld.py) out of the Statement's table words and the real class files: 21 classes; the members and pool entries that the words name. The judged class is class 1, her method 1. -/
namespace start1
open Jvm.ClassFile
def u (s : String) : CpInfo := .utf8 (stringToUtf16 s)
/-- a pool by its gaps: so many unusable entries, then the entry; so many at the end -/
def gap : Nat → List CpInfo → List CpInfo
  | 0, r => r
  | n + 1, r => .unusable :: gap n r
def poolList (es : List (Nat × CpInfo)) (last : Nat) : List CpInfo := es.foldr (fun e r => gap e.1 (e.2 :: r)) (gap last [])
def pool (es : List (Nat × CpInfo)) (last : Nat) : Array CpInfo := ⟨poolList es last⟩
def fileOf (pool : Array CpInfo) (this : Nat) (attrs : Array Attribute := #[]) (ms : Array MethodInfo := #[]) (fl : Nat := 33) (sup : Nat := 0) (ifs : Array Nat := #[]) (fds : Array FieldInfo := #[]) : ClassFile where
  minorVersion := 0
  majorVersion := 65
  constantPool := pool
  accessFlags := fl
  thisClass := this
  superClass := sup
  interfaces := ifs
  fields := fds
  methods := ms
  attributes := attrs
def plain (name : String) (sup : Option ClassId) : Class where
  name := name
  kind := .ordinary
  loader := none
  accessFlags := 33
  super := sup
  interfaces := #[]
  cf := none
  fields := #[]
  methods := #[]
  instanceTypes := #[]
  staticTypes := #[]
  resolved := #[]
  callSites := []
  init := .initialized
  statics := none
  mirror := none

def pool0 : Array CpInfo := pool [(5, u "<init>"), (0, u "()V"), (1, .class_ 10), (1, u "java/lang/Object"), (85, u "clone"), (0, u "()Ljava/lang/Object;")] 26

def k0c0 : Code := { maxStack := 0, maxLocals := 1, code := object_method_1_code, exceptionTable := #[], attributes := #[] }
def k0m0 : Method := { name := "<init>", desc := "()V", sig := { parameters := [], returnType := none }, accessFlags := 1, code := some k0c0 }
def k0m1 : Method := { name := "clone", desc := "()Ljava/lang/Object;", sig := { parameters := [], returnType := some (.object "java/lang/Object") }, accessFlags := 260, code := none }
/-- java/lang/Object -/
def k0 : Class := { plain "java/lang/Object" none with
  accessFlags := 33
  interfaces := #[]
  cf := some (fileOf pool0 8 #[] #[{ accessFlags := 1, nameIndex := 5, descriptorIndex := 6, attributes := #[] }, { accessFlags := 260, nameIndex := 96, descriptorIndex := 97, attributes := #[] }] 33 0 #[] #[])
  fields := #[]
  methods := #[k0m0, k0m1]
  instanceTypes := #[]
  staticTypes := #[]
  resolved := Array.replicate 124 none
  statics := none }

def pool1 : Array CpInfo := pool [(2, .class_ 4), (1, u "java/lang/Object"), (0, u "<init>"), (0, u "()V"), (0, .methodref 8 9), (0, .class_ 10), (0, .nameAndType 11 12), (0, u "java/lang/Math"), (0, u "max"), (0, u "(II)I"), (0, .integer 2147483647), (0, .class_ 15), (0, u "[I"), (0, .class_ 17), (0, u "com/example/loopline/loopline/dispatch/Pheromone"), (0, .methodref 16 19), (0, .nameAndType 5 20), (0, u "([II)V"), (0, .class_ 22), (0, u "com/example/loopline/loopline/dispatch/Tour"), (0, .methodref 21 24), (0, .nameAndType 5 25), (0, u "([[ILcom/example/loopline/loopline/engine/Plan;)V"), (0, .methodref 16 27), (0, .nameAndType 28 29), (0, u "remember"), (0, u "(Lcom/example/loopline/loopline/dispatch/Tour;)V"), (0, .methodref 16 31), (0, .nameAndType 32 33), (0, u "weight"), (0, u "(III)J"), (0, .class_ 35), (0, u "com/example/loopline/loopline/dispatch/PheromoneWeightPinLaw"), (2, u "law"), (0, u "(IIIII)Z")] 5

def k1m0 : Method := { name := "<init>", desc := "()V", sig := { parameters := [], returnType := none }, accessFlags := 1, code := none }
def k1c1 : Code := { maxStack := 7, maxLocals := 21, code := code, exceptionTable := #[], attributes := #[] }
def k1m1 : Method := { name := "law", desc := "(IIIII)Z", sig := { parameters := [.int, .int, .int, .int, .int], returnType := some .boolean }, accessFlags := 9, code := some k1c1 }
/-- com/example/loopline/loopline/dispatch/PheromoneWeightPinLaw -/
def k1 : Class := { plain "com/example/loopline/loopline/dispatch/PheromoneWeightPinLaw" (some 0) with
  accessFlags := 49
  interfaces := #[]
  cf := some (fileOf pool1 34 #[] #[{ accessFlags := 1, nameIndex := 5, descriptorIndex := 6, attributes := #[] }, { accessFlags := 9, nameIndex := 38, descriptorIndex := 39, attributes := #[] }] 49 2 #[] #[])
  fields := #[]
  methods := #[k1m0, k1m1]
  instanceTypes := #[]
  staticTypes := #[]
  resolved := Array.replicate 45 none
  statics := none }

def pool2 : Array CpInfo := pool [(1, .class_ 2), (0, u "java/lang/Math"), (1, .class_ 6), (1, u "java/lang/Object"), (0, u "<init>"), (0, u "()V"), (89, .class_ 100), (1, u "java/lang/Math$RandomNumberGeneratorHolder"), (71, u "negativeZeroFloatBits"), (0, u "J"), (2, u "negativeZeroDoubleBits"), (21, u "max"), (46, u "$assertionsDisabled"), (0, u "Z"), (88, u "(II)I"), (2, u "twoToTheDoubleScaleDown"), (0, u "D"), (4, u "twoToTheDoubleScaleUp"), (9, u "E"), (3, u "PI"), (2, u "TAU"), (2, u "DEGREES_TO_RADIANS"), (0, u "RADIANS_TO_DEGREES")] 94

def k2m0 : Method := { name := "<init>", desc := "()V", sig := { parameters := [], returnType := none }, accessFlags := 2, code := none }
def k2c1 : Code := { maxStack := 2, maxLocals := 2, code := jdk_29_method_65_code, exceptionTable := #[], attributes := #[] }
def k2m1 : Method := { name := "max", desc := "(II)I", sig := { parameters := [.int, .int], returnType := some .int }, accessFlags := 9, code := some k2c1 }
/-- java/lang/Math -/
def k2 : Class := { plain "java/lang/Math" (some 0) with
  accessFlags := 49
  interfaces := #[]
  cf := some (fileOf pool2 1 #[.nestMembers #[98]] #[{ accessFlags := 2, nameIndex := 7, descriptorIndex := 8, attributes := #[] }, { accessFlags := 9, nameIndex := 198, descriptorIndex := 335, attributes := #[] }] 49 4 #[] #[{ accessFlags := 25, nameIndex := 354, descriptorIndex := 339, attributes := #[] }, { accessFlags := 25, nameIndex := 358, descriptorIndex := 339, attributes := #[] }, { accessFlags := 25, nameIndex := 361, descriptorIndex := 339, attributes := #[] }, { accessFlags := 26, nameIndex := 364, descriptorIndex := 339, attributes := #[] }, { accessFlags := 26, nameIndex := 365, descriptorIndex := 339, attributes := #[] }, { accessFlags := 26, nameIndex := 172, descriptorIndex := 173, attributes := #[] }, { accessFlags := 26, nameIndex := 176, descriptorIndex := 173, attributes := #[] }, { accessFlags := 8, nameIndex := 344, descriptorIndex := 339, attributes := #[] }, { accessFlags := 8, nameIndex := 338, descriptorIndex := 339, attributes := #[] }, { accessFlags := 4120, nameIndex := 245, descriptorIndex := 246, attributes := #[] }])
  fields := #[{ name := "E", type := .double, accessFlags := 25, slot := 0, constantValue := 0 }, { name := "PI", type := .double, accessFlags := 25, slot := 1, constantValue := 0 }, { name := "TAU", type := .double, accessFlags := 25, slot := 2, constantValue := 0 }, { name := "DEGREES_TO_RADIANS", type := .double, accessFlags := 26, slot := 3, constantValue := 0 }, { name := "RADIANS_TO_DEGREES", type := .double, accessFlags := 26, slot := 4, constantValue := 0 }, { name := "negativeZeroFloatBits", type := .long, accessFlags := 26, slot := 5, constantValue := 0 }, { name := "negativeZeroDoubleBits", type := .long, accessFlags := 26, slot := 6, constantValue := 0 }, { name := "twoToTheDoubleScaleUp", type := .double, accessFlags := 8, slot := 7, constantValue := 0 }, { name := "twoToTheDoubleScaleDown", type := .double, accessFlags := 8, slot := 8, constantValue := 0 }, { name := "$assertionsDisabled", type := .boolean, accessFlags := 4120, slot := 9, constantValue := 0 }]
  methods := #[k2m0, k2m1]
  instanceTypes := #[]
  staticTypes := #[.double, .double, .double, .double, .double, .long, .long, .double, .double, .boolean]
  resolved := Array.replicate 460 none
  statics := none }

def pool3 : Array CpInfo := pool [(1, .methodref 2 3), (0, .class_ 4), (0, .nameAndType 5 6), (0, u "java/lang/Object"), (0, u "<init>"), (0, u "()V"), (0, .class_ 8), (0, u "java/util/ArrayList"), (0, .methodref 7 3), (0, .fieldref 11 12), (0, .class_ 13), (0, .nameAndType 14 15), (0, u "com/example/loopline/loopline/dispatch/Pheromone"), (0, u "tours"), (0, u "Ljava/util/List;"), (0, .methodref 17 18), (0, .class_ 19), (0, .nameAndType 20 21), (0, u "[I"), (0, u "clone"), (0, u "()Ljava/lang/Object;"), (0, .fieldref 11 23), (0, .nameAndType 24 19), (0, u "trains"), (0, .fieldref 11 26), (0, .nameAndType 27 28), (0, u "memory"), (0, u "I"), (0, .class_ 30), (0, u "[[I"), (0, .fieldref 11 32), (0, .nameAndType 33 34), (0, u "counts"), (0, u "[[[I"), (1, .class_ 38), (1, u "java/util/List"), (2, .interfaceMethodref 36 42), (0, .nameAndType 43 44), (0, u "add"), (0, u "(Ljava/lang/Object;)Z"), (0, .methodref 46 47), (0, .class_ 48), (0, .nameAndType 49 50), (0, u "com/example/loopline/loopline/dispatch/Tour"), (0, u "orders"), (0, u "()[[I"), (0, .methodref 11 52), (0, .nameAndType 53 54), (0, u "lay"), (0, u "([[II)V"), (0, .interfaceMethodref 36 56), (0, .nameAndType 57 58), (0, u "size"), (0, u "()I"), (13, u "([II)V"), (3, u "weight"), (0, u "(III)J"), (2, u "remember"), (0, u "(Lcom/example/loopline/loopline/dispatch/Tour;)V")] 2

def k3c0 : Code := { maxStack := 5, maxLocals := 4, code := prog_34_method_1_code, exceptionTable := #[], attributes := #[] }
def k3m0 : Method := { name := "<init>", desc := "([II)V", sig := { parameters := [(.array .int), .int], returnType := none }, accessFlags := 0, code := some k3c0 }
def k3c1 : Code := { maxStack := 6, maxLocals := 4, code := prog_34_method_2_code, exceptionTable := #[], attributes := #[] }
def k3m1 : Method := { name := "weight", desc := "(III)J", sig := { parameters := [.int, .int, .int], returnType := some .long }, accessFlags := 0, code := some k3c1 }
def k3c2 : Code := { maxStack := 3, maxLocals := 4, code := prog_34_method_4_code, exceptionTable := #[], attributes := #[] }
def k3m2 : Method := { name := "remember", desc := "(Lcom/example/loopline/loopline/dispatch/Tour;)V", sig := { parameters := [(.object "com/example/loopline/loopline/dispatch/Tour")], returnType := none }, accessFlags := 0, code := some k3c2 }
def k3c3 : Code := { maxStack := 4, maxLocals := 5, code := prog_34_method_5_code, exceptionTable := #[], attributes := #[] }
def k3m3 : Method := { name := "lay", desc := "([[II)V", sig := { parameters := [(.array (.array .int)), .int], returnType := none }, accessFlags := 2, code := some k3c3 }
/-- com/example/loopline/loopline/dispatch/Pheromone -/
def k3 : Class := { plain "com/example/loopline/loopline/dispatch/Pheromone" (some 0) with
  accessFlags := 48
  interfaces := #[]
  cf := some (fileOf pool3 11 #[] #[{ accessFlags := 0, nameIndex := 5, descriptorIndex := 72, attributes := #[] }, { accessFlags := 0, nameIndex := 76, descriptorIndex := 77, attributes := #[] }, { accessFlags := 0, nameIndex := 80, descriptorIndex := 81, attributes := #[] }, { accessFlags := 2, nameIndex := 53, descriptorIndex := 54, attributes := #[] }] 48 2 #[] #[{ accessFlags := 18, nameIndex := 24, descriptorIndex := 19, attributes := #[] }, { accessFlags := 18, nameIndex := 27, descriptorIndex := 28, attributes := #[] }, { accessFlags := 18, nameIndex := 14, descriptorIndex := 15, attributes := #[] }, { accessFlags := 18, nameIndex := 33, descriptorIndex := 34, attributes := #[] }])
  fields := #[{ name := "trains", type := (.array .int), accessFlags := 18, slot := 0, constantValue := 0 }, { name := "memory", type := .int, accessFlags := 18, slot := 1, constantValue := 0 }, { name := "tours", type := (.object "java/util/List"), accessFlags := 18, slot := 2, constantValue := 0 }, { name := "counts", type := (.array (.array (.array .int))), accessFlags := 18, slot := 3, constantValue := 0 }]
  methods := #[k3m0, k3m1, k3m2, k3m3]
  instanceTypes := #[(.array .int), .int, (.object "java/util/List"), (.array (.array (.array .int)))]
  staticTypes := #[]
  resolved := Array.replicate 84 none
  statics := none }

def pool4 : Array CpInfo := pool [(8, .class_ 10), (1, u "java/lang/Iterable"), (24, .class_ 36), (0, u "java/lang/Object")] 25

/-- java/lang/Iterable -/
def k4 : Class := { plain "java/lang/Iterable" (some 0) with
  accessFlags := 1537
  interfaces := #[]
  cf := some (fileOf pool4 8 #[] #[] 1537 35 #[] #[])
  fields := #[]
  methods := #[]
  instanceTypes := #[]
  staticTypes := #[]
  resolved := Array.replicate 62 none
  statics := none }

def pool5 : Array CpInfo := pool [(10, .class_ 12), (1, u "java/util/Collection"), (47, .class_ 61), (0, u "java/lang/Object"), (0, .class_ 63), (0, u "java/lang/Iterable")] 51

/-- java/util/Collection -/
def k5 : Class := { plain "java/util/Collection" (some 0) with
  accessFlags := 1537
  interfaces := #[4]
  cf := some (fileOf pool5 10 #[] #[] 1537 60 #[62] #[])
  fields := #[]
  methods := #[]
  instanceTypes := #[]
  staticTypes := #[]
  resolved := Array.replicate 115 none
  statics := none }

def pool6 : Array CpInfo := pool [(1, .methodref 2 3), (0, .class_ 4), (0, .nameAndType 5 6), (0, u "java/lang/Object"), (0, u "<init>"), (0, u "()V"), (1, .class_ 10), (1, u "java/util/AbstractCollection"), (66, .class_ 78), (0, u "java/util/Collection")] 81

def k6c0 : Code := { maxStack := 1, maxLocals := 1, code := jdk_22_method_1_code, exceptionTable := #[], attributes := #[] }
def k6m0 : Method := { name := "<init>", desc := "()V", sig := { parameters := [], returnType := none }, accessFlags := 4, code := some k6c0 }
/-- java/util/AbstractCollection -/
def k6 : Class := { plain "java/util/AbstractCollection" (some 0) with
  accessFlags := 1057
  interfaces := #[5]
  cf := some (fileOf pool6 8 #[] #[{ accessFlags := 4, nameIndex := 5, descriptorIndex := 6, attributes := #[] }] 1057 2 #[77] #[])
  fields := #[]
  methods := #[k6m0]
  instanceTypes := #[]
  staticTypes := #[]
  resolved := Array.replicate 160 none
  statics := none }

def pool7 : Array CpInfo := pool [(8, .class_ 10), (1, u "java/util/SequencedCollection"), (15, .class_ 27), (0, u "java/lang/Object"), (0, .class_ 29), (0, u "java/util/Collection")] 27

/-- java/util/SequencedCollection -/
def k7 : Class := { plain "java/util/SequencedCollection" (some 0) with
  accessFlags := 1537
  interfaces := #[5]
  cf := some (fileOf pool7 8 #[] #[] 1537 26 #[28] #[])
  fields := #[]
  methods := #[]
  instanceTypes := #[]
  staticTypes := #[]
  resolved := Array.replicate 57 none
  statics := none }

def pool8 : Array CpInfo := pool [(8, .class_ 10), (1, u "java/util/List"), (49, u "add"), (3, u "(Ljava/lang/Object;)Z"), (14, u "size"), (0, u "()I"), (22, .class_ 104), (0, u "java/lang/Object"), (15, .class_ 121), (0, u "java/util/SequencedCollection")] 129

def k8m0 : Method := { name := "size", desc := "()I", sig := { parameters := [], returnType := some .int }, accessFlags := 1025, code := none }
def k8m1 : Method := { name := "add", desc := "(Ljava/lang/Object;)Z", sig := { parameters := [(.object "java/lang/Object")], returnType := some .boolean }, accessFlags := 1025, code := none }
/-- java/util/List -/
def k8 : Class := { plain "java/util/List" (some 0) with
  accessFlags := 1537
  interfaces := #[7]
  cf := some (fileOf pool8 8 #[] #[{ accessFlags := 1025, nameIndex := 79, descriptorIndex := 80, attributes := #[] }, { accessFlags := 1025, nameIndex := 60, descriptorIndex := 64, attributes := #[] }] 1537 103 #[120] #[])
  fields := #[]
  methods := #[k8m0, k8m1]
  instanceTypes := #[]
  staticTypes := #[]
  resolved := Array.replicate 251 none
  statics := none }

def pool9 : Array CpInfo := pool [(1, .methodref 2 3), (0, .class_ 4), (0, .nameAndType 5 6), (0, u "java/util/AbstractCollection"), (0, u "<init>"), (0, u "()V"), (0, .fieldref 8 9), (0, .class_ 10), (0, .nameAndType 11 12), (0, u "java/util/AbstractList"), (0, u "modCount"), (0, u "I"), (64, .class_ 78), (0, u "java/util/AbstractList$Itr"), (3, .class_ 83), (0, u "java/util/AbstractList$ListItr"), (9, .class_ 94), (0, u "java/util/AbstractList$RandomAccessSubList"), (3, .class_ 99), (0, u "java/util/AbstractList$SubList"), (33, .class_ 134), (0, u "java/util/List"), (73, .class_ 209), (0, u "java/util/AbstractList$SubList$1"), (0, .class_ 211), (0, u "java/util/AbstractList$RandomAccessSpliterator")] 6

def k9c0 : Code := { maxStack := 2, maxLocals := 1, code := jdk_39_method_1_code, exceptionTable := #[], attributes := #[] }
def k9m0 : Method := { name := "<init>", desc := "()V", sig := { parameters := [], returnType := none }, accessFlags := 4, code := some k9c0 }
/-- java/util/AbstractList -/
def k9 : Class := { plain "java/util/AbstractList" (some 6) with
  accessFlags := 1057
  interfaces := #[8]
  cf := some (fileOf pool9 8 #[.nestMembers #[93, 98, 208, 210, 82, 77]] #[{ accessFlags := 4, nameIndex := 5, descriptorIndex := 6, attributes := #[] }] 1057 2 #[133] #[{ accessFlags := 132, nameIndex := 11, descriptorIndex := 12, attributes := #[] }])
  fields := #[{ name := "modCount", type := .int, accessFlags := 132, slot := 0, constantValue := 0 }]
  methods := #[k9m0]
  instanceTypes := #[.int]
  staticTypes := #[]
  resolved := Array.replicate 218 none
  statics := none }

def pool10 : Array CpInfo := pool [(1, .class_ 2), (0, u "java/util/RandomAccess"), (0, .class_ 4), (0, u "java/lang/Object")] 2

/-- java/util/RandomAccess -/
def k10 : Class := { plain "java/util/RandomAccess" (some 0) with
  accessFlags := 1537
  interfaces := #[]
  cf := some (fileOf pool10 1 #[] #[] 1537 3 #[] #[])
  fields := #[]
  methods := #[]
  instanceTypes := #[]
  staticTypes := #[]
  resolved := Array.replicate 7 none
  statics := none }

def pool11 : Array CpInfo := pool [(1, .class_ 2), (0, u "java/lang/Cloneable"), (0, .class_ 4), (0, u "java/lang/Object")] 2

/-- java/lang/Cloneable -/
def k11 : Class := { plain "java/lang/Cloneable" (some 0) with
  accessFlags := 1537
  interfaces := #[]
  cf := some (fileOf pool11 1 #[] #[] 1537 3 #[] #[])
  fields := #[]
  methods := #[]
  instanceTypes := #[]
  staticTypes := #[]
  resolved := Array.replicate 7 none
  statics := none }

def pool12 : Array CpInfo := pool [(1, .class_ 2), (0, u "java/io/Serializable"), (0, .class_ 4), (0, u "java/lang/Object")] 2

/-- java/io/Serializable -/
def k12 : Class := { plain "java/io/Serializable" (some 0) with
  accessFlags := 1537
  interfaces := #[]
  cf := some (fileOf pool12 1 #[] #[] 1537 3 #[] #[])
  fields := #[]
  methods := #[]
  instanceTypes := #[]
  staticTypes := #[]
  resolved := Array.replicate 7 none
  statics := none }

def pool13 : Array CpInfo := pool [(1, .methodref 2 3), (0, .class_ 4), (0, .nameAndType 5 6), (0, u "java/util/AbstractList"), (0, u "<init>"), (0, u "()V"), (0, .class_ 8), (0, u "java/lang/Object"), (0, .fieldref 10 11), (0, .class_ 12), (0, .nameAndType 13 14), (0, u "java/util/ArrayList"), (0, u "elementData"), (0, u "[Ljava/lang/Object;"), (2, u "EMPTY_ELEMENTDATA"), (21, .fieldref 10 40), (0, .nameAndType 41 14), (0, u "DEFAULTCAPACITY_EMPTY_ELEMENTDATA"), (5, u "()[Ljava/lang/Object;"), (0, .fieldref 10 49), (0, .nameAndType 50 51), (0, u "size"), (0, u "I"), (11, .fieldref 10 64), (0, .nameAndType 65 51), (0, u "modCount"), (3, .methodref 10 70), (0, .nameAndType 71 72), (0, u "grow"), (0, u "(I)[Ljava/lang/Object;"), (6, .methodref 80 81), (0, .class_ 82), (0, .nameAndType 83 84), (0, u "java/lang/Math"), (0, u "max"), (0, u "(II)I"), (11, u "(Ljava/lang/Object;)Z"), (32, .methodref 10 130), (0, .nameAndType 71 47), (0, .methodref 10 132), (0, .nameAndType 133 134), (0, u "add"), (0, u "(Ljava/lang/Object;[Ljava/lang/Object;I)V"), (13, .class_ 149), (0, u "java/util/List"), (36, u "()I"), (75, .class_ 263), (0, u "java/util/ArrayList$ListItr"), (3, .class_ 268), (0, u "java/util/ArrayList$Itr"), (7, .class_ 277), (0, u "java/util/ArrayList$SubList"), (12, .class_ 291), (0, u "java/util/ArrayList$ArrayListSpliterator"), (37, .class_ 330), (0, u "java/util/RandomAccess"), (0, .class_ 332), (0, u "java/lang/Cloneable"), (0, .class_ 334), (0, u "java/io/Serializable"), (0, u "serialVersionUID"), (0, u "J"), (3, u "DEFAULT_CAPACITY"), (159, .class_ 501), (0, u "java/util/ArrayList$SubList$2"), (0, .class_ 503), (0, u "java/util/ArrayList$SubList$1")] 5

def k13c0 : Code := { maxStack := 2, maxLocals := 1, code := jdk_38_method_2_code, exceptionTable := #[], attributes := #[] }
def k13m0 : Method := { name := "<init>", desc := "()V", sig := { parameters := [], returnType := none }, accessFlags := 1, code := some k13c0 }
def k13c1 : Code := { maxStack := 4, maxLocals := 4, code := jdk_38_method_6_code, exceptionTable := #[], attributes := #[] }
def k13m1 : Method := { name := "grow", desc := "(I)[Ljava/lang/Object;", sig := { parameters := [.int], returnType := some (.array (.object "java/lang/Object")) }, accessFlags := 2, code := some k13c1 }
def k13c2 : Code := { maxStack := 3, maxLocals := 1, code := jdk_38_method_7_code, exceptionTable := #[], attributes := #[] }
def k13m2 : Method := { name := "grow", desc := "()[Ljava/lang/Object;", sig := { parameters := [], returnType := some (.array (.object "java/lang/Object")) }, accessFlags := 2, code := some k13c2 }
def k13c3 : Code := { maxStack := 1, maxLocals := 1, code := jdk_38_method_8_code, exceptionTable := #[], attributes := #[] }
def k13m3 : Method := { name := "size", desc := "()I", sig := { parameters := [], returnType := some .int }, accessFlags := 1, code := some k13c3 }
def k13c4 : Code := { maxStack := 3, maxLocals := 4, code := jdk_38_method_24_code, exceptionTable := #[], attributes := #[] }
def k13m4 : Method := { name := "add", desc := "(Ljava/lang/Object;[Ljava/lang/Object;I)V", sig := { parameters := [(.object "java/lang/Object"), (.array (.object "java/lang/Object")), .int], returnType := none }, accessFlags := 2, code := some k13c4 }
def k13c5 : Code := { maxStack := 4, maxLocals := 2, code := jdk_38_method_25_code, exceptionTable := #[], attributes := #[] }
def k13m5 : Method := { name := "add", desc := "(Ljava/lang/Object;)Z", sig := { parameters := [(.object "java/lang/Object")], returnType := some .boolean }, accessFlags := 1, code := some k13c5 }
/-- java/util/ArrayList -/
def k13 : Class := { plain "java/util/ArrayList" (some 9) with
  accessFlags := 33
  interfaces := #[8, 10, 11, 12]
  cf := some (fileOf pool13 10 #[.nestMembers #[290, 276, 500, 502, 262, 267]] #[{ accessFlags := 1, nameIndex := 5, descriptorIndex := 6, attributes := #[] }, { accessFlags := 2, nameIndex := 71, descriptorIndex := 72, attributes := #[] }, { accessFlags := 2, nameIndex := 71, descriptorIndex := 47, attributes := #[] }, { accessFlags := 1, nameIndex := 50, descriptorIndex := 186, attributes := #[] }, { accessFlags := 2, nameIndex := 133, descriptorIndex := 134, attributes := #[] }, { accessFlags := 1, nameIndex := 133, descriptorIndex := 96, attributes := #[] }] 33 2 #[148, 329, 331, 333] #[{ accessFlags := 26, nameIndex := 335, descriptorIndex := 336, attributes := #[] }, { accessFlags := 26, nameIndex := 340, descriptorIndex := 51, attributes := #[] }, { accessFlags := 26, nameIndex := 17, descriptorIndex := 14, attributes := #[] }, { accessFlags := 26, nameIndex := 41, descriptorIndex := 14, attributes := #[] }, { accessFlags := 128, nameIndex := 13, descriptorIndex := 14, attributes := #[] }, { accessFlags := 2, nameIndex := 50, descriptorIndex := 51, attributes := #[] }])
  fields := #[{ name := "serialVersionUID", type := .long, accessFlags := 26, slot := 0, constantValue := 0 }, { name := "DEFAULT_CAPACITY", type := .int, accessFlags := 26, slot := 1, constantValue := 0 }, { name := "EMPTY_ELEMENTDATA", type := (.array (.object "java/lang/Object")), accessFlags := 26, slot := 2, constantValue := 0 }, { name := "DEFAULTCAPACITY_EMPTY_ELEMENTDATA", type := (.array (.object "java/lang/Object")), accessFlags := 26, slot := 3, constantValue := 0 }, { name := "elementData", type := (.array (.object "java/lang/Object")), accessFlags := 128, slot := 1, constantValue := 0 }, { name := "size", type := .int, accessFlags := 2, slot := 2, constantValue := 0 }]
  methods := #[k13m0, k13m1, k13m2, k13m3, k13m4, k13m5]
  instanceTypes := #[.int, (.array (.object "java/lang/Object")), .int]
  staticTypes := #[.long, .int, (.array (.object "java/lang/Object")), (.array (.object "java/lang/Object"))]
  resolved := Array.replicate 509 none
  statics := some 0 }

def pool14 : Array CpInfo := pool [(1, .methodref 2 3), (0, .class_ 4), (0, .nameAndType 5 6), (0, u "java/lang/Object"), (0, u "<init>"), (0, u "()V"), (0, .class_ 8), (0, u "java/lang/Record")] 13

def k14c0 : Code := { maxStack := 1, maxLocals := 1, code := jdk_30_method_1_code, exceptionTable := #[], attributes := #[] }
def k14m0 : Method := { name := "<init>", desc := "()V", sig := { parameters := [], returnType := none }, accessFlags := 4, code := some k14c0 }
/-- java/lang/Record -/
def k14 : Class := { plain "java/lang/Record" (some 0) with
  accessFlags := 1057
  interfaces := #[]
  cf := some (fileOf pool14 7 #[] #[{ accessFlags := 4, nameIndex := 5, descriptorIndex := 6, attributes := #[] }] 1057 2 #[] #[])
  fields := #[]
  methods := #[k14m0]
  instanceTypes := #[]
  staticTypes := #[]
  resolved := Array.replicate 22 none
  statics := none }

def pool15 : Array CpInfo := pool [(1, .methodref 2 3), (0, .class_ 4), (0, .nameAndType 5 6), (0, u "java/lang/Record"), (0, u "<init>"), (0, u "()V"), (0, .fieldref 8 9), (0, .class_ 10), (0, .nameAndType 11 12), (0, u "com/example/loopline/loopline/dispatch/Tour"), (0, u "orders"), (0, u "[[I"), (0, .fieldref 8 14), (0, .nameAndType 15 16), (0, u "plan"), (0, u "Lcom/example/loopline/loopline/engine/Plan;"), (24, u "([[ILcom/example/loopline/loopline/engine/Plan;)V"), (9, u "()[[I")] 22

def k15c0 : Code := { maxStack := 2, maxLocals := 3, code := prog_39_method_1_code, exceptionTable := #[], attributes := #[] }
def k15m0 : Method := { name := "<init>", desc := "([[ILcom/example/loopline/loopline/engine/Plan;)V", sig := { parameters := [(.array (.array .int)), (.object "com/example/loopline/loopline/engine/Plan")], returnType := none }, accessFlags := 0, code := some k15c0 }
def k15c1 : Code := { maxStack := 1, maxLocals := 1, code := prog_39_method_6_code, exceptionTable := #[], attributes := #[] }
def k15m1 : Method := { name := "orders", desc := "()[[I", sig := { parameters := [], returnType := some (.array (.array .int)) }, accessFlags := 1, code := some k15c1 }
/-- com/example/loopline/loopline/dispatch/Tour -/
def k15 : Class := { plain "com/example/loopline/loopline/dispatch/Tour" (some 14) with
  accessFlags := 48
  interfaces := #[]
  cf := some (fileOf pool15 8 #[] #[{ accessFlags := 0, nameIndex := 5, descriptorIndex := 41, attributes := #[] }, { accessFlags := 1, nameIndex := 11, descriptorIndex := 51, attributes := #[] }] 48 2 #[] #[{ accessFlags := 18, nameIndex := 11, descriptorIndex := 12, attributes := #[] }, { accessFlags := 18, nameIndex := 15, descriptorIndex := 16, attributes := #[] }])
  fields := #[{ name := "orders", type := (.array (.array .int)), accessFlags := 18, slot := 0, constantValue := 0 }, { name := "plan", type := (.object "com/example/loopline/loopline/engine/Plan"), accessFlags := 18, slot := 1, constantValue := 0 }]
  methods := #[k15m0, k15m1]
  instanceTypes := #[(.array (.array .int)), (.object "com/example/loopline/loopline/engine/Plan")]
  staticTypes := #[]
  resolved := Array.replicate 74 none
  statics := none }

/-- the primitive byte -/
def k16 : Class := { plain "byte" none with kind := .primitive 'B', accessFlags := 0x411 }
/-- [B -/
def k17 : Class := { plain "[B" (some 0) with kind := .array 16 .byte, interfaces := #[11, 12], accessFlags := 1041 }

/-- the primitive int -/
def k18 : Class := { plain "int" none with kind := .primitive 'I', accessFlags := 0x411 }
/-- [I -/
def k19 : Class := { plain "[I" (some 0) with kind := .array 18 .int, interfaces := #[11, 12], accessFlags := 1041 }

/-- [Ljava/lang/Object; -/
def k20 : Class := { plain "[Ljava/lang/Object;" (some 0) with kind := .array 0 (.object "java/lang/Object"), interfaces := #[11, 12], accessFlags := 1041 }

def k21 : Class := { plain "[[I" (some 0) with kind := .array 19 (.array .int), interfaces := #[11, 12], accessFlags := 1041 }
def k22 : Class := { plain "[[[I" (some 0) with kind := .array 21 (.array (.array .int)), interfaces := #[11, 12], accessFlags := 1041 }
def heap : Heap := #[{ cls := 13, slots := #[.long 0, .int 0, .ref 1, .ref 2], vm := .statics 13 },
  { cls := 20, slots := #[], vm := .none },
  { cls := 20, slots := #[], vm := .none }]
def classes : Array Class := #[k0, k1, k2, k3, k4, k5, k6, k7, k8, k9, k10, k11, k12, k13, k14, k15, k16, k17, k18, k19, k20, k21, k22]
def interned : List (Array UInt16 × Addr) := []
def slotsUsed : Nat := 4
def theMethod : MethodId := ⟨1, 1⟩
def args0 : Array Value := #[.int 3, .int 4, .int 300, .int 2, .int 5]
def aboutOver (below : List Frame) : State where
  vm := { classes := classes, interned := interned.toArray }
  heap := heap
  slotsUsed := slotsUsed
  threads := #[{ frames := .invoking theMethod args0 :: below }]
def below0 : List Frame := [.native { method := ⟨0, 0⟩, args := #[] }]
def about1 : State := aboutOver below0
def p0 : Program := .bare "" "" ""
def e0 : Env := launch0.env 0 0 0
theorem w_frames : about1.frames = Frame.invoking theMethod args0 :: below0 := rfl
set_option maxRecDepth 65536 in
theorem w_args : argsFit about1.vm theMethod args0 = true := by decide +kernel
set_option maxRecDepth 65536 in
theorem w_heap : heapFits about1 = true := by decide +kernel
set_option maxRecDepth 65536 in
theorem w_runnable : about1.curStatus? = some .runnable := by decide +kernel
set_option maxRecDepth 65536 in
theorem w_alone : about1.alone = true := by decide +kernel
set_option maxRecDepth 65536 in
theorem w_named : about1.methodNamed? x = some theMethod := by decide +kernel
set_option maxRecDepth 65536 in
theorem w_hears : about1.hears theMethod below0 = true := by decide +kernel
set_option maxRecDepth 65536 in
theorem w_ripe : about1.ripe theMethod args0 below0 = true := by decide +kernel
theorem w_running : about1.status = .running := rfl
set_option maxRecDepth 65536 in
theorem w_room : about1.hasRoom e0.platform room_1 = true :=
  launch0.hasRoom_least _ room_1 (by decide +kernel) (by decide +kernel) (by decide +kernel) (by decide +kernel) (by decide +kernel) (by decide +kernel)
theorem allAtoms_all (ts : List Jvm.Cond) (a : Array Jvm.Value) (st : Jvm.State) : (allAtoms ts).before a st = ts.all (fun c => c.before a st) := by
  induction ts with
  | nil => rfl
  | cons c t ih =>
    show (Jvm.Cond.and c (allAtoms t)).before a st = _
    rw [Jvm.Cond.before_and, ih, List.all_cons]
def words1 : List Jvm.Cond := Jvm.Cond.code x code maxLocals ret :: tables_1
/-- a 'code' word, met by the world's own term for the bytes: nothing is compared byte by byte -/
theorem code_word {y : MethodName} {bytes : ByteArray} {mx : Nat} {rt : Option FieldType} {a : Array Value} {s : State} {m : MethodId} {meth : Method} {c : Code} (h1 : s.methodNamed? y = some m) (h2 : s.vm.method? m = some meth) (h3 : meth.code = some c) (h4 : c.code = bytes)
    (h5 : (c.maxLocals == mx && c.exceptionTable.isEmpty && decide (c.maxStack ≤ mostOperands) && decide (meth.sig.returnType = rt) && !meth.locks && decide (parseMethodDescriptor y.desc = some meth.sig)) = true) : (Jvm.Cond.code y bytes mx rt).before a s = true := by
  simp only [Bool.and_eq_true, beq_iff_eq, Bool.not_eq_true', decide_eq_true_eq] at h5
  obtain ⟨⟨⟨⟨⟨g1, g2⟩, g3⟩, g4⟩, g5⟩, g6⟩ := h5
  simp [Cond.before, Cond.holds, Cond.value, h1, h2, h3, h4, g1, g2, g3, g4, g5, g6]
def isCode : Jvm.Cond → Bool
  | .code _ _ _ _ => true
  | _ => false
theorem all_split {L : List Jvm.Cond} {P : Jvm.Cond → Bool} (h1 : L.all (fun c => isCode c || P c) = true) (h2 : ∀ c ∈ L.filter isCode, P c = true) : L.all P = true := by
  refine List.all_eq_true.mpr fun c hc => ?_
  have h := List.all_eq_true.mp h1 c hc
  rcases Bool.eq_false_or_eq_true (isCode c) with hi | hi
  · exact h2 c (List.mem_filter.mpr ⟨hc, hi⟩)
  · simpa [hi] using h
set_option maxRecDepth 65536 in
theorem w_c0 : (Jvm.Cond.code x code maxLocals ret).before args0 about1 = true := code_word (m := ⟨1, 1⟩) (meth := k1m1) (c := k1c1) (by decide +kernel) rfl rfl rfl (by decide +kernel)
set_option maxRecDepth 65536 in
theorem w_c1 : (Jvm.Cond.code ({ cls := "java/lang/Math", name := "max", desc := "(II)I" } : Jvm.MethodName) jdk_29_method_65_code (2 : Nat) (Option.some Jvm.ClassFile.FieldType.int)).before args0 about1 = true := code_word (m := ⟨2, 1⟩) (meth := k2m1) (c := k2c1) (by decide +kernel) rfl rfl rfl (by decide +kernel)
set_option maxRecDepth 65536 in
theorem w_c2 : (Jvm.Cond.code ({ cls := "com/example/loopline/loopline/dispatch/Pheromone", name := "<init>", desc := "([II)V" } : Jvm.MethodName) prog_34_method_1_code (4 : Nat) (Option.none : Option Jvm.ClassFile.FieldType)).before args0 about1 = true := code_word (m := ⟨3, 0⟩) (meth := k3m0) (c := k3c0) (by decide +kernel) rfl rfl rfl (by decide +kernel)
set_option maxRecDepth 65536 in
theorem w_c3 : (Jvm.Cond.code ({ cls := "java/lang/Object", name := "<init>", desc := "()V" } : Jvm.MethodName) object_method_1_code (1 : Nat) (Option.none : Option Jvm.ClassFile.FieldType)).before args0 about1 = true := code_word (m := ⟨0, 0⟩) (meth := k0m0) (c := k0c0) (by decide +kernel) rfl rfl rfl (by decide +kernel)
set_option maxRecDepth 65536 in
theorem w_c4 : (Jvm.Cond.code ({ cls := "java/util/ArrayList", name := "<init>", desc := "()V" } : Jvm.MethodName) jdk_38_method_2_code (1 : Nat) (Option.none : Option Jvm.ClassFile.FieldType)).before args0 about1 = true := code_word (m := ⟨13, 0⟩) (meth := k13m0) (c := k13c0) (by decide +kernel) rfl rfl rfl (by decide +kernel)
set_option maxRecDepth 65536 in
theorem w_c5 : (Jvm.Cond.code ({ cls := "java/util/AbstractList", name := "<init>", desc := "()V" } : Jvm.MethodName) jdk_39_method_1_code (1 : Nat) (Option.none : Option Jvm.ClassFile.FieldType)).before args0 about1 = true := code_word (m := ⟨9, 0⟩) (meth := k9m0) (c := k9c0) (by decide +kernel) rfl rfl rfl (by decide +kernel)
set_option maxRecDepth 65536 in
theorem w_c6 : (Jvm.Cond.code ({ cls := "java/util/AbstractCollection", name := "<init>", desc := "()V" } : Jvm.MethodName) jdk_22_method_1_code (1 : Nat) (Option.none : Option Jvm.ClassFile.FieldType)).before args0 about1 = true := code_word (m := ⟨6, 0⟩) (meth := k6m0) (c := k6c0) (by decide +kernel) rfl rfl rfl (by decide +kernel)
set_option maxRecDepth 65536 in
theorem w_c7 : (Jvm.Cond.code ({ cls := "com/example/loopline/loopline/dispatch/Tour", name := "<init>", desc := "([[ILcom/example/loopline/loopline/engine/Plan;)V" } : Jvm.MethodName) prog_39_method_1_code (3 : Nat) (Option.none : Option Jvm.ClassFile.FieldType)).before args0 about1 = true := code_word (m := ⟨15, 0⟩) (meth := k15m0) (c := k15c0) (by decide +kernel) rfl rfl rfl (by decide +kernel)
set_option maxRecDepth 65536 in
theorem w_c8 : (Jvm.Cond.code ({ cls := "java/lang/Record", name := "<init>", desc := "()V" } : Jvm.MethodName) jdk_30_method_1_code (1 : Nat) (Option.none : Option Jvm.ClassFile.FieldType)).before args0 about1 = true := code_word (m := ⟨14, 0⟩) (meth := k14m0) (c := k14c0) (by decide +kernel) rfl rfl rfl (by decide +kernel)
set_option maxRecDepth 65536 in
theorem w_c9 : (Jvm.Cond.code ({ cls := "com/example/loopline/loopline/dispatch/Pheromone", name := "remember", desc := "(Lcom/example/loopline/loopline/dispatch/Tour;)V" } : Jvm.MethodName) prog_34_method_4_code (4 : Nat) (Option.none : Option Jvm.ClassFile.FieldType)).before args0 about1 = true := code_word (m := ⟨3, 2⟩) (meth := k3m2) (c := k3c2) (by decide +kernel) rfl rfl rfl (by decide +kernel)
set_option maxRecDepth 65536 in
theorem w_c10 : (Jvm.Cond.code ({ cls := "java/util/ArrayList", name := "add", desc := "(Ljava/lang/Object;)Z" } : Jvm.MethodName) jdk_38_method_25_code (2 : Nat) (Option.some Jvm.ClassFile.FieldType.boolean)).before args0 about1 = true := code_word (m := ⟨13, 5⟩) (meth := k13m5) (c := k13c5) (by decide +kernel) rfl rfl rfl (by decide +kernel)
set_option maxRecDepth 65536 in
theorem w_c11 : (Jvm.Cond.code ({ cls := "java/util/ArrayList", name := "add", desc := "(Ljava/lang/Object;[Ljava/lang/Object;I)V" } : Jvm.MethodName) jdk_38_method_24_code (4 : Nat) (Option.none : Option Jvm.ClassFile.FieldType)).before args0 about1 = true := code_word (m := ⟨13, 4⟩) (meth := k13m4) (c := k13c4) (by decide +kernel) rfl rfl rfl (by decide +kernel)
set_option maxRecDepth 65536 in
theorem w_c12 : (Jvm.Cond.code ({ cls := "java/util/ArrayList", name := "grow", desc := "()[Ljava/lang/Object;" } : Jvm.MethodName) jdk_38_method_7_code (1 : Nat) (Option.some (Jvm.ClassFile.FieldType.array (Jvm.ClassFile.FieldType.object "java/lang/Object")))).before args0 about1 = true := code_word (m := ⟨13, 2⟩) (meth := k13m2) (c := k13c2) (by decide +kernel) rfl rfl rfl (by decide +kernel)
set_option maxRecDepth 65536 in
theorem w_c13 : (Jvm.Cond.code ({ cls := "java/util/ArrayList", name := "grow", desc := "(I)[Ljava/lang/Object;" } : Jvm.MethodName) jdk_38_method_6_code (4 : Nat) (Option.some (Jvm.ClassFile.FieldType.array (Jvm.ClassFile.FieldType.object "java/lang/Object")))).before args0 about1 = true := code_word (m := ⟨13, 1⟩) (meth := k13m1) (c := k13c1) (by decide +kernel) rfl rfl rfl (by decide +kernel)
set_option maxRecDepth 65536 in
theorem w_c14 : (Jvm.Cond.code ({ cls := "com/example/loopline/loopline/dispatch/Tour", name := "orders", desc := "()[[I" } : Jvm.MethodName) prog_39_method_6_code (1 : Nat) (Option.some (Jvm.ClassFile.FieldType.array (Jvm.ClassFile.FieldType.array Jvm.ClassFile.FieldType.int)))).before args0 about1 = true := code_word (m := ⟨15, 1⟩) (meth := k15m1) (c := k15c1) (by decide +kernel) rfl rfl rfl (by decide +kernel)
set_option maxRecDepth 65536 in
theorem w_c15 : (Jvm.Cond.code ({ cls := "com/example/loopline/loopline/dispatch/Pheromone", name := "lay", desc := "([[II)V" } : Jvm.MethodName) prog_34_method_5_code (5 : Nat) (Option.none : Option Jvm.ClassFile.FieldType)).before args0 about1 = true := code_word (m := ⟨3, 3⟩) (meth := k3m3) (c := k3c3) (by decide +kernel) rfl rfl rfl (by decide +kernel)
set_option maxRecDepth 65536 in
theorem w_c16 : (Jvm.Cond.code ({ cls := "java/util/ArrayList", name := "size", desc := "()I" } : Jvm.MethodName) jdk_38_method_8_code (1 : Nat) (Option.some Jvm.ClassFile.FieldType.int)).before args0 about1 = true := code_word (m := ⟨13, 3⟩) (meth := k13m3) (c := k13c3) (by decide +kernel) rfl rfl rfl (by decide +kernel)
set_option maxRecDepth 65536 in
theorem w_c17 : (Jvm.Cond.code ({ cls := "com/example/loopline/loopline/dispatch/Pheromone", name := "weight", desc := "(III)J" } : Jvm.MethodName) prog_34_method_2_code (4 : Nat) (Option.some Jvm.ClassFile.FieldType.long)).before args0 about1 = true := code_word (m := ⟨3, 1⟩) (meth := k3m1) (c := k3c1) (by decide +kernel) rfl rfl rfl (by decide +kernel)
def codes1 : List Jvm.Cond := [Jvm.Cond.code x code maxLocals ret, Jvm.Cond.code ({ cls := "java/lang/Math", name := "max", desc := "(II)I" } : Jvm.MethodName) jdk_29_method_65_code (2 : Nat) (Option.some Jvm.ClassFile.FieldType.int), Jvm.Cond.code ({ cls := "com/example/loopline/loopline/dispatch/Pheromone", name := "<init>", desc := "([II)V" } : Jvm.MethodName) prog_34_method_1_code (4 : Nat) (Option.none : Option Jvm.ClassFile.FieldType), Jvm.Cond.code ({ cls := "java/lang/Object", name := "<init>", desc := "()V" } : Jvm.MethodName) object_method_1_code (1 : Nat) (Option.none : Option Jvm.ClassFile.FieldType), Jvm.Cond.code ({ cls := "java/util/ArrayList", name := "<init>", desc := "()V" } : Jvm.MethodName) jdk_38_method_2_code (1 : Nat) (Option.none : Option Jvm.ClassFile.FieldType), Jvm.Cond.code ({ cls := "java/util/AbstractList", name := "<init>", desc := "()V" } : Jvm.MethodName) jdk_39_method_1_code (1 : Nat) (Option.none : Option Jvm.ClassFile.FieldType), Jvm.Cond.code ({ cls := "java/util/AbstractCollection", name := "<init>", desc := "()V" } : Jvm.MethodName) jdk_22_method_1_code (1 : Nat) (Option.none : Option Jvm.ClassFile.FieldType), Jvm.Cond.code ({ cls := "com/example/loopline/loopline/dispatch/Tour", name := "<init>", desc := "([[ILcom/example/loopline/loopline/engine/Plan;)V" } : Jvm.MethodName) prog_39_method_1_code (3 : Nat) (Option.none : Option Jvm.ClassFile.FieldType), Jvm.Cond.code ({ cls := "java/lang/Record", name := "<init>", desc := "()V" } : Jvm.MethodName) jdk_30_method_1_code (1 : Nat) (Option.none : Option Jvm.ClassFile.FieldType), Jvm.Cond.code ({ cls := "com/example/loopline/loopline/dispatch/Pheromone", name := "remember", desc := "(Lcom/example/loopline/loopline/dispatch/Tour;)V" } : Jvm.MethodName) prog_34_method_4_code (4 : Nat) (Option.none : Option Jvm.ClassFile.FieldType), Jvm.Cond.code ({ cls := "java/util/ArrayList", name := "add", desc := "(Ljava/lang/Object;)Z" } : Jvm.MethodName) jdk_38_method_25_code (2 : Nat) (Option.some Jvm.ClassFile.FieldType.boolean), Jvm.Cond.code ({ cls := "java/util/ArrayList", name := "add", desc := "(Ljava/lang/Object;[Ljava/lang/Object;I)V" } : Jvm.MethodName) jdk_38_method_24_code (4 : Nat) (Option.none : Option Jvm.ClassFile.FieldType), Jvm.Cond.code ({ cls := "java/util/ArrayList", name := "grow", desc := "()[Ljava/lang/Object;" } : Jvm.MethodName) jdk_38_method_7_code (1 : Nat) (Option.some (Jvm.ClassFile.FieldType.array (Jvm.ClassFile.FieldType.object "java/lang/Object"))), Jvm.Cond.code ({ cls := "java/util/ArrayList", name := "grow", desc := "(I)[Ljava/lang/Object;" } : Jvm.MethodName) jdk_38_method_6_code (4 : Nat) (Option.some (Jvm.ClassFile.FieldType.array (Jvm.ClassFile.FieldType.object "java/lang/Object"))), Jvm.Cond.code ({ cls := "com/example/loopline/loopline/dispatch/Tour", name := "orders", desc := "()[[I" } : Jvm.MethodName) prog_39_method_6_code (1 : Nat) (Option.some (Jvm.ClassFile.FieldType.array (Jvm.ClassFile.FieldType.array Jvm.ClassFile.FieldType.int))), Jvm.Cond.code ({ cls := "com/example/loopline/loopline/dispatch/Pheromone", name := "lay", desc := "([[II)V" } : Jvm.MethodName) prog_34_method_5_code (5 : Nat) (Option.none : Option Jvm.ClassFile.FieldType), Jvm.Cond.code ({ cls := "java/util/ArrayList", name := "size", desc := "()I" } : Jvm.MethodName) jdk_38_method_8_code (1 : Nat) (Option.some Jvm.ClassFile.FieldType.int), Jvm.Cond.code ({ cls := "com/example/loopline/loopline/dispatch/Pheromone", name := "weight", desc := "(III)J" } : Jvm.MethodName) prog_34_method_2_code (4 : Nat) (Option.some Jvm.ClassFile.FieldType.long)]
set_option maxRecDepth 65536 in
theorem codes_eq : words1.filter isCode = codes1 := rfl
theorem w_codes : ∀ c ∈ words1.filter isCode, c.before args0 about1 = true := by
  rw [codes_eq]
  intro c hc
  simp only [codes1, List.mem_cons, List.not_mem_nil, or_false] at hc
  rcases hc with rfl | rfl | rfl | rfl | rfl | rfl | rfl | rfl | rfl | rfl | rfl | rfl | rfl | rfl | rfl | rfl | rfl | rfl
  · exact w_c0
  · exact w_c1
  · exact w_c2
  · exact w_c3
  · exact w_c4
  · exact w_c5
  · exact w_c6
  · exact w_c7
  · exact w_c8
  · exact w_c9
  · exact w_c10
  · exact w_c11
  · exact w_c12
  · exact w_c13
  · exact w_c14
  · exact w_c15
  · exact w_c16
  · exact w_c17
set_option maxRecDepth 65536 in
theorem w_t1 : (words1.take 24).all (fun c => isCode c || c.before args0 about1) = true := by decide +kernel
set_option maxRecDepth 65536 in
theorem w_t2 : ((words1.drop 24).take 24).all (fun c => isCode c || c.before args0 about1) = true := by decide +kernel
set_option maxRecDepth 65536 in
theorem w_t3 : (((words1.drop 24).drop 24).take 24).all (fun c => isCode c || c.before args0 about1) = true := by decide +kernel
set_option maxRecDepth 65536 in
theorem w_t4 : ((((words1.drop 24).drop 24).drop 24).take 24).all (fun c => isCode c || c.before args0 about1) = true := by decide +kernel
set_option maxRecDepth 65536 in
theorem w_t5 : (((((words1.drop 24).drop 24).drop 24).drop 24).take 24).all (fun c => isCode c || c.before args0 about1) = true := by decide +kernel
set_option maxRecDepth 65536 in
theorem w_t6 : (((((words1.drop 24).drop 24).drop 24).drop 24).drop 24).all (fun c => isCode c || c.before args0 about1) = true := by decide +kernel
theorem w_tables : (allAtoms (Jvm.Cond.code x code maxLocals ret :: tables_1)).before args0 about1 = true := by
  rw [allAtoms_all]
  show words1.all (fun c => c.before args0 about1) = true
  refine all_split ?_ w_codes
  rw [← List.take_append_drop 24 words1, List.all_append, w_t1, ← List.take_append_drop 24 (words1.drop 24), List.all_append, w_t2, ← List.take_append_drop 24 ((words1.drop 24).drop 24), List.all_append, w_t3, ← List.take_append_drop 24 (((words1.drop 24).drop 24).drop 24), List.all_append, w_t4, ← List.take_append_drop 24 ((((words1.drop 24).drop 24).drop 24).drop 24), List.all_append, w_t5, w_t6]
  rfl
set_option maxRecDepth 65536 in
theorem w_rest : rest_1_c.before args0 about1 = true := by decide +kernel
set_option maxRecDepth 65536 in
theorem w_case : (Jvm.Cond.and given_1 narrow_1).before args0 about1 = true := by decide +kernel
theorem w_applies : (headSpec (Jvm.Cond.code x code maxLocals ret :: tables_1) room_1).applies x e0.platform about1 = true :=
  (Spec.applies_iff w_frames).mpr ⟨w_running, w_runnable, w_alone, w_named, w_hears, w_ripe, w_room, w_tables⟩
theorem atStart : AtStart classFile x code maxLocals ret World_1 tables_1 room_1 Calls_1 rest_1 Pre_1 launch0 p0 e0 about1 theMethod args0 below0 :=
  ⟨lists_1, trivial, launch0.admits_env _ _ _, launch0.least_env, fairChoices_fair.cas, fairChoices_fair.clock, w_frames, w_args, w_heap, w_applies, trivial, w_rest, w_case⟩
end start1
theorem witness_1 : WitnessClaimed_1 := ⟨start1.p0, start1.e0, start1.about1, start1.theMethod, start1.args0, start1.below0, start1.atStart⟩
end Jvm.Pilot.@@N@@
