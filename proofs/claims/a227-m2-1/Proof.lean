import JvmDerived
import JvmDerived.Pilot.@@N@@Statement
import JvmDerived.Pilot.@@N@@Code
set_option linter.unusedVariables false
set_option linter.unusedSimpArgs false
namespace Jvm.RoadKit
open Sem ClassFile Op Lib Jvm.Stand Jvm.Free Jvm.LawKit
section New
variable {p : Program} {l : Launch} {e : Env} {R : Room} {s : State} {m : MethodId} {args : Array Value} {below : List Frame} {meth : Method} {c : Code} {T : State} {locs : List Loc} {cells slots : Nat}
theorem retI (X : Stand p l e R s m args below meth c T locs cells slots) (hx : p.tables.exec = Jvm.exec) {pc : Nat} {Ls : Array Slot} {z : Int32} {rest : List Value} (hret : meth.sig.returnType = some .int) (hd : decode c.code pc = .ok (.ireturn, 1)) {fs : List Frame}
    (hl : ∀ (f : JFrame) (acts : List Action), f.method = m → f.locked = none → f.entered = [] → (doReturn e (T.setTop f) acts (some (.int z))).1 = T.setFrames fs) : Steps p.tables e below (T.setTop (mkF m pc Ls (.int z :: rest))) (T.setFrames fs) := by
  have hm' : T.vm.method? m = some meth := X.method'
  have hn : narrow .int (.int z) = .int z := rfl
  show Steps p.tables e below (T.setTop { method := m, pc := pc, locals := Ls, stack := _ :: rest, locked := none }) _
  jvm_step X.here [X.here.top, hx, hd, hm', hret, hn]
  first | (intro acts; rw [hl _ acts rfl rfl rfl]) | rw [hl _ _ rfl rfl rfl]
  exact Steps.refl _
theorem retL (X : Stand p l e R s m args below meth c T locs cells slots) (hx : p.tables.exec = Jvm.exec) {pc : Nat} {Ls : Array Slot} {z : Int64} {rest : List Value} (hret : meth.sig.returnType = some .long) (hd : decode c.code pc = .ok (.lreturn, 1)) {fs : List Frame}
    (hl : ∀ (f : JFrame) (acts : List Action), f.method = m → f.locked = none → f.entered = [] → (doReturn e (T.setTop f) acts (some (.long z))).1 = T.setFrames fs) : Steps p.tables e below (T.setTop (mkF m pc Ls (.long z :: rest))) (T.setFrames fs) := by
  have hm' : T.vm.method? m = some meth := X.method'
  have hn : narrow .long (.long z) = .long z := rfl
  show Steps p.tables e below (T.setTop { method := m, pc := pc, locals := Ls, stack := _ :: rest, locked := none }) _
  jvm_step X.here [X.here.top, hx, hd, hm', hret, hn]
  first | (intro acts; rw [hl _ acts rfl rfl rfl]) | rw [hl _ _ rfl rfl rfl]
  exact Steps.refl _
end New
end Jvm.RoadKit
namespace Jvm.Pilot.@@N@@
open Jvm Jvm.ClassFile Sem Op Lib Jvm.Free Jvm.Stand Jvm.LawKit Jvm.RoadKit Bundle Jvm.Pilot.@@N@@.Jvm.D
set_option maxRecDepth 65536
set_option maxHeartbeats 40000000
theorem ow {Z : State} {a0 : Array Value} (hw : ∀ d ∈ tables_1, d.before a0 Z = true) (i : Nat) {d : Jvm.Cond} (h : tables_1[i]? = some d) : d.before a0 Z = true := hw d (List.mem_of_getElem? h)
abbrev rmk (f c s l : Nat) : Room := { frames := f, cells := c, slots := s, locals := l }
abbrev MetB (l : Launch) (y : MethodName) (bytes : ByteArray) (maxL : Nat) (ret : Option FieldType) (ws : List Jvm.Cond) (rm : Room) (Z : State) (h0 : Heap) (as' : Array Value) (Q : Option Value → Heap → List Loc → Prop) : Prop :=
  MetFree l y (head1 (Jvm.Cond.code y bytes maxL ret :: ws) rm) (fun a U => a = as' ∧ Z.Warmed39 U.vm ∧ U.heap = h0) (fun _ _ _ _ _ => True) (fun _ U o U' => ∃ v L, o = .returned v ∧ Q v U'.heap L ∧ FrameEnd U o U' L rm.cells rm.slots)
theorem own_body {l : Launch} {y : MethodName} {bytes : ByteArray} {maxL : Nat} {ret : Option FieldType} {ws : List Jvm.Cond} {rm : Room} {Z : State} {h0 : Heap} {as' : Array Value} {Q : Option Value → Heap → List Loc → Prop} (hpl : plainFor y = true)
    (body : ∀ (p : Program) (e : Env) (s : State) (m : MethodId) (below : List Frame) (meth : Method) (c : Code) (s₁ : State), p.tables.exec = Jvm.exec → c.code = bytes → c.maxLocals = maxL → s.vm.findClass y.cls = some m.cls → meth.name = y.name → meth.sig.returnType = ret → meth.locks = false → Z.Warmed39 s.vm → Stand p l e rm s m as' below meth c s₁ [] 0 0 → s₁.heap = h0 →
      ∃ s₂ o, Steps p.tables e below (s₁.setTop (entryFrame m as' maxL)) s₂ ∧ s₂.status = .running ∧ Ended s₂ below o ∧ ∃ v L, o = .returned v ∧ Q v s₂.heap L ∧ FrameEnd s o s₂ L rm.cells rm.slots) : MetB l y bytes maxL ret ws rm Z h0 as' Q := by
  refine MetFree.of_bodySF hpl hisR ?_
  intro p e s m args below meth c s₁ Bd hml0 hP hK
  obtain ⟨rfl, hZ, hh⟩ := hP
  exact body p e s m below meth c s₁ Bd.exec Bd.bytes hml0 (findClass_of_methodNamed Bd.named) (name_of_methodNamed Bd.named Bd.method).1 Bd.returns Bd.notSynchronized hZ (Stand.of_body Bd) (by rw [← hh, Bd.state]; rfl)
abbrev MetBW (l : Launch) (y : MethodName) (bytes : ByteArray) (maxL : Nat) (ret : Option FieldType) (ws : List Jvm.Cond) (rm : Room) (Z : State) (h0 : Heap) (as' : Array Value) (Q : Option Value → Heap → List Loc → Prop) : Prop :=
  MetFree l y (head1 (Jvm.Cond.code y bytes maxL ret :: ws) rm) (fun a U => a = as' ∧ Z.Warmed39 U.vm ∧ U.heap = h0) (fun _ _ _ _ _ => True) (fun _ U o U' => ∃ v L, o = .returned v ∧ Q v U'.heap L ∧ ReturnedEndW U o U' L rm.cells rm.slots)
theorem own_bodyW {l : Launch} {y : MethodName} {bytes : ByteArray} {maxL : Nat} {ret : Option FieldType} {ws : List Jvm.Cond} {rm : Room} {Z : State} {h0 : Heap} {as' : Array Value} {Q : Option Value → Heap → List Loc → Prop} (hpl : plainFor y = true)
    (body : ∀ (p : Program) (e : Env) (s : State) (m : MethodId) (below : List Frame) (meth : Method) (c : Code) (s₁ : State), p.tables.exec = Jvm.exec → c.code = bytes → c.maxLocals = maxL → (s.setVm s.vm).vm.findClass y.cls = some m.cls → meth.name = y.name → meth.sig.returnType = ret → meth.locks = false → Z.Warmed39 (s.setVm s.vm).vm → Stand p l e rm (s.setVm s.vm) m as' below meth c s₁ [] 0 0 → s₁.heap = h0 → s.Since s.vm h0.size →
      ∃ s₂ o, Steps p.tables e below (s₁.setTop (entryFrame m as' maxL)) s₂ ∧ s₂.status = .running ∧ Ended s₂ below o ∧ ∃ v L, o = .returned v ∧ Q v s₂.heap L ∧ ReturnedEndW s o s₂ L rm.cells rm.slots) : MetBW l y bytes maxL ret ws rm Z h0 as' Q := by
  refine MetFree.of_bodySF hpl hisR ?_
  intro p e s m args below meth c s₁ Bd hml0 hP hK
  obtain ⟨rfl, hZ, hh⟩ := hP
  exact body p e s m below meth c s₁ Bd.exec Bd.bytes hml0 (findClass_of_methodNamed Bd.named) (name_of_methodNamed Bd.named Bd.method).1 Bd.returns Bd.notSynchronized hZ (Stand.of_body Bd) (by rw [← hh, Bd.state]; rfl) ((State.WarmedH.refl s).since _)
abbrev vr (a : Addr) : Slot := .val (.ref a)
abbrev vi (a : Int32) : Slot := .val (.int a)
abbrev vl (a : Int64) : Slot := .val (.long a)
theorem own_sz {Z : State} {n0 : Nat} {h : Heap} (O : Old Z n0 h) : n0 ≤ h.size := O.1 ▸ O.2.1
theorem own_eq_int {args : Array Value} {first s : State} {o : Option Outcome} {idx : List Nat} {t : Term} {k : Int32} (h : (Jvm.Cond.eq t (.int k)).value args first o s idx = some true) : t.eval args first o idx s = some (.int k) := by
  simp only [Jvm.Cond.value, Term.eval] at h
  cases ht : t.eval args first o idx s with
  | none => simp [ht] at h
  | some x => cases x <;> simp [ht] at h ⊢; exact h
theorem own_eq_long {args : Array Value} {first s : State} {o : Option Outcome} {idx : List Nat} {t : Term} {k : Int64} (h : (Jvm.Cond.eq t (.long k)).value args first o s idx = some true) : t.eval args first o idx s = some (.long k) := by
  simp only [Jvm.Cond.value, Term.eval] at h
  cases ht : t.eval args first o idx s with
  | none => simp [ht] at h
  | some x => cases x <;> simp [ht] at h ⊢; exact h
theorem own_selp {s : State} {args : Array Value} {y : MethodName} {n : Nat} (wi : (Jvm.Cond.instantiable y.cls n).before args s = true) (wp : (Jvm.Cond.privateMethod y).before args s = true) (wm : (Jvm.Cond.instanceMethod y).before args s = true) (hy : y.cls ≠ "java/lang/invoke/MethodHandle" ∧ y.cls ≠ "java/lang/invoke/VarHandle") : (Jvm.Cond.selects y.cls y y).before args s = true := by
  obtain ⟨c, k, hc, hk, -, hni, -, -⟩ := Cond.instantiable_spec wi
  exact selects_self_of_private hc hk (Bool.or_eq_false_iff.mp hni).1 (Cond.privateMethod_at wp) wm hy
theorem own_getR {p : Program} {l : Launch} {e : Env} {R : Room} {s : State} {m : MethodId} {args : Array Value} {below : List Frame} {meth : Method} {c : Code} {T : State} {locs : List Loc} {cells slots : Nat} {Z : State} {a0 : Array Value} {h : Heap} (X : Stand p l e R s m args below meth c T locs cells slots) (hx : p.tables.exec = Jvm.exec) (hZ : Z.Warmed39 s.vm) {own R0 n d : String} {index : Nat} (hown : s.vm.findClass own = some m.cls) (w : (Jvm.Cond.fieldRef own index R0 n d).before a0 Z = true)
    (eT : T.heap = h) {a : Addr} {v : Value} (F : Fld Z h a R0 n d v) {g : JFrame} (hg : g.method = m) {rest : List Value} (hs : g.stack = .ref a :: rest) (hd : decode c.code g.pc = .ok (.getfield index, 3)) : ∃ T', Stand p l e R s m args below meth c T' locs cells slots ∧ T'.heap = h ∧ ∀ target, Steps p.tables e below (T'.setTop { g with pc := g.pc + 3, stack := v :: rest }) target → Steps p.tables e below (T.setTop g) target := by
  obtain ⟨cell, cf, k, i, f, h1, h2, h3, h4, -, -, h7⟩ := F
  have wT := Cond.fieldRef_warmed39 (wtrans hZ X.warmed) w
  obtain ⟨c', k', i', f', q1, q2⟩ := Cond.fieldRef_spec (cur := m.cls) (by show T.vm.findClass own = some m.cls; rw [X.warmed.alike.findClass]; exact hown) wT
  obtain ⟨k'', hf', -⟩ := State.fieldFound?_setVm (s := Z) (wtrans hZ X.warmed).alike h2
  cases hf'.symm.trans q1
  exact ⟨T, X, eT, fun target k => (X.getfieldR hx hg q2 h3 hs (by rw [eT]; exact h1) h4 h7 hd (Steps.refl _)).trans k⟩
theorem own_cloneV {p : Program} {l : Launch} {e : Env} {R : Room} {s : State} {m : MethodId} {args : Array Value} {below : List Frame} {meth : Method} {c : Code} {T : State} {locs : List Loc} {cells slots : Nat} {Z : State} {h : Heap} {a : Addr} {ty : FieldType} (X : Stand p l e R s m args below meth c T locs cells slots) (hx : p.tables.exec = Jvm.exec) (hZ : Z.Warmed39 s.vm) {a0 : Array Value} {own ad : String} {index : Nat} (hown : s.vm.findClass own = some m.cls)
    (w1 : (Jvm.Cond.methodLink own index ⟨ad, "clone", "()Ljava/lang/Object;"⟩).before a0 Z = true) (w2 : (Jvm.Cond.sameMethod ad "java/lang/Object" "clone" "()Ljava/lang/Object;").before a0 Z = true) (w3 : (Jvm.Cond.native ⟨"java/lang/Object", "clone", "()Ljava/lang/Object;"⟩).before a0 Z = true)
    (w4 : (Jvm.Cond.instanceMethod ⟨"java/lang/Object", "clone", "()Ljava/lang/Object;"⟩).before a0 Z = true) (w5 : (Jvm.Cond.selects ad ⟨ad, "clone", "()Ljava/lang/Object;"⟩ ⟨"java/lang/Object", "clone", "()Ljava/lang/Object;"⟩).before a0 Z = true) (w6 : (Jvm.Cond.castable ad "java/lang/Cloneable").before a0 Z = true)
    (eT : T.heap = h) {k : ClassId} {z : Int32} {vs : List Value} {dv : Value} (F : Arv Z h a k ty z vs dv) (E : Exa Z h a ad) {g : JFrame} (hg : g.method = m) (hsize : g.locals.size = c.maxLocals) {rest : List Value} (hst : g.stack = .ref a :: rest) (hd : decode c.code g.pc = .ok (.invokevirtual index, 3))
    (hf : 1 ≤ R.frames) {W cap : Nat} (hW : 2 * g.monitorRoom + (rest.map fun v => v.category).sum ≤ W) (hl : W + 14 ≤ R.locals) (hcap : z.toNatClampNeg ≤ cap) (hc : cells + 1 ≤ R.cells) (hsl : slots + cap ≤ R.slots) :
    ∃ T' h', Stand p l e R s m args below meth c T' locs (cells + 1) (slots + cap) ∧ T'.heap = h' ∧ Ext h h' ∧ Arv Z h' h.size k ty z vs dv ∧ Exa Z h' h.size ad ∧
      ∀ target, Steps p.tables e below (T'.setTop { g with pc := g.pc + 3, stack := .ref h.size :: rest }) target → Steps p.tables e below (T.setTop g) target := by
  obtain ⟨cl, A, q1, S, q3, H, G⟩ := F
  obtain ⟨T', h', X', e', ex, A', E', st⟩ := cloneA X hx hZ hown w1 w2 w3 w4 w5 w6 eT A E (fitC_of A fun i hi v hv => by rw [H i hi] at hv; cases hv; exact G i hi) hg hsize hst hd hf hW hl (by rw [S]; exact hcap) hc hsl
  exact ⟨T', h', X', e', ex, ⟨cloneOf cl, A', q1, S, q3, H, G⟩, E', st⟩
theorem own_cast {Z : State} {h : Heap} {a : Addr} {k : ClassId} {ty : FieldType} {z : Int32} {vs vs' : List Value} {dv : Value} (e : vs = vs') (F : Arv Z h a k ty z vs dv) : Arv Z h a k ty z vs' dv := e ▸ F
theorem own_lc (x : Int64) : lcmpW x x = 0 := (lw_eq x x).mpr rfl
theorem own_b01 {P : Prop} [Decidable P] {y a b : Int32} (h : y = if P then a else b) : y = a ∨ y = b := by rw [h]; split; exact Or.inl rfl; exact Or.inr rfl
abbrev M0 : MethodName := ⟨"com/example/lanc/lanc/model/VariableLayoutValuePinLaw", "ones", "(I)J"⟩
abbrev M1 : MethodName := ⟨"java/lang/Math", "min", "(JJ)J"⟩
abbrev M2 : MethodName := ⟨"java/lang/Math", "max", "(II)I"⟩
abbrev M3 : MethodName := ⟨"java/lang/Integer", "numberOfLeadingZeros", "(I)I"⟩
abbrev M4 : MethodName := ⟨"java/lang/Long", "numberOfLeadingZeros", "(J)I"⟩
abbrev M5 : MethodName := ⟨"java/util/AbstractCollection", "<init>", "()V"⟩
abbrev M6 : MethodName := ⟨"java/util/AbstractList", "<init>", "()V"⟩
abbrev M7 : MethodName := ⟨"java/util/ArrayList", "<init>", "()V"⟩
abbrev M8 : MethodName := ⟨"java/lang/Record", "<init>", "()V"⟩
abbrev M9 : MethodName := ⟨"com/example/lanc/lanc/model/StateValuations$Variable", "<init>", "(Ljava/lang/String;Lcom/example/lanc/lanc/expression/Type;II)V"⟩
abbrev M10 : MethodName := ⟨"java/util/ArrayList", "grow", "(I)[Ljava/lang/Object;"⟩
abbrev M11 : MethodName := ⟨"java/util/ArrayList", "grow", "()[Ljava/lang/Object;"⟩
abbrev M12 : MethodName := ⟨"java/util/ArrayList", "add", "(Ljava/lang/Object;[Ljava/lang/Object;I)V"⟩
abbrev M13 : MethodName := ⟨"java/util/ArrayList", "add", "(Ljava/lang/Object;)Z"⟩
abbrev M14 : MethodName := ⟨"java/util/ArrayList", "size", "()I"⟩
abbrev M15 : MethodName := ⟨"jdk/internal/util/Preconditions", "checkIndex", "(IILjava/util/function/BiFunction;)I"⟩
abbrev M16 : MethodName := ⟨"java/util/Objects", "checkIndex", "(II)I"⟩
abbrev M17 : MethodName := ⟨"java/util/ArrayList", "elementData", "(I)Ljava/lang/Object;"⟩
abbrev M18 : MethodName := ⟨"java/util/ArrayList", "get", "(I)Ljava/lang/Object;"⟩
abbrev M19 : MethodName := ⟨"com/example/lanc/lanc/model/StateValuations$Variable", "high", "()I"⟩
abbrev M20 : MethodName := ⟨"com/example/lanc/lanc/model/StateValuations$Variable", "low", "()I"⟩
abbrev M21 : MethodName := ⟨"com/example/lanc/lanc/model/VariableLayout", "<init>", "(Ljava/util/List;)V"⟩
abbrev M22 : MethodName := ⟨"java/util/List", "size", "()I"⟩
abbrev M23 : MethodName := ⟨"java/util/List", "get", "(I)Ljava/lang/Object;"⟩
abbrev M24 : MethodName := ⟨"com/example/lanc/lanc/model/VariableLayout", "value", "([JII)I"⟩
abbrev M25 : MethodName := ⟨"java/util/List", "add", "(Ljava/lang/Object;)Z"⟩
abbrev s0n : String := "com/example/lanc/lanc/expression/Type"
abbrev s1n : String := "Lcom/example/lanc/lanc/expression/Type;"
abbrev s2n : String := "java/util/ArrayList"
abbrev s3n : String := "[Ljava/lang/Object;"
abbrev s4n : String := "java/lang/Object"
abbrev s5n : String := "java/util/AbstractList"
abbrev s6n : String := "com/example/lanc/lanc/model/StateValuations$Variable"
abbrev s7n : String := "Ljava/lang/String;"
abbrev s8n : String := "java/lang/String"
abbrev s9n : String := "com/example/lanc/lanc/model/VariableLayout"
abbrev s10n : String := "wordsPerState"
def onesV (k : Int32) : Int64 := if k < (64 : Int32) then (((1 : Int64) <<< (k &&& 0x3f).toInt64) - (1 : Int64)) else (-1 : Int64)
def minV (a b : Int64) : Int64 := if (0 : Int32) < (lcmpW a b) then b else a
def maskV (k : Int32) : Int64 := if k = (0 : Int32) then (0 : Int64) else (((-1 : Int64).toUInt64 >>> (((64 : Int32) - k) &&& 0x3f).toInt64.toUInt64).toInt64)
def nlz32 (x : Int32) : Int32 := if (0 : Int32) < x then
    let n1 := (if x < (65536 : Int32) then (31 : Int32) else (15 : Int32))
    let x1 := (if x < (65536 : Int32) then x else ((x.toUInt32 >>> ((16 : Int32) &&& 31).toUInt32).toInt32))
    let n2 := (if x1 < (256 : Int32) then n1 else (n1 + (-8 : Int32)))
    let x2 := (if x1 < (256 : Int32) then x1 else ((x1.toUInt32 >>> ((8 : Int32) &&& 31).toUInt32).toInt32))
    let n3 := (if x2 < (16 : Int32) then n2 else (n2 + (-4 : Int32)))
    let x3 := (if x2 < (16 : Int32) then x2 else ((x2.toUInt32 >>> ((4 : Int32) &&& 31).toUInt32).toInt32))
    let n4 := (if x3 < (4 : Int32) then n3 else (n3 + (-2 : Int32)))
    let x4 := (if x3 < (4 : Int32) then x3 else ((x3.toUInt32 >>> ((2 : Int32) &&& 31).toUInt32).toInt32))
    (n4 - ((x4.toUInt32 >>> ((1 : Int32) &&& 31).toUInt32).toInt32))
  else if x = (0 : Int32) then (32 : Int32) else (0 : Int32)
def nlz64 (x : Int64) : Int32 := if (((x.toUInt64 >>> ((32 : Int32) &&& 0x3f).toInt64.toUInt64).toInt64).toInt32) = (0 : Int32) then ((32 : Int32) + nlz32 (x.toInt32)) else nlz32 (((x.toUInt64 >>> ((32 : Int32) &&& 0x3f).toInt64.toUInt64).toInt64).toInt32)
abbrev bitsV (l h : Int32) : Int32 := ((64 : Int32) - nlz64 ((h.toInt64) - (l.toInt64)))
def inK (k : Int32) : Prop := ∃ n : Nat, n ≤ 32 ∧ k = Int32.ofNat n
theorem own_ofN (n : Nat) (h : n ≤ 128) : (Int32.ofNat n).toInt = n := by
  have q : ∀ n : Fin 129, (Int32.ofNat n.val).toInt = (n.val : Int) := by decide +kernel
  exact q ⟨n, by omega⟩
theorem own_inK (x : Int32) : inK ((x &&& 63) % 33) := by
  have h1 := c_mask x 63 6 (by decide) (by decide)
  have h2 := (c_irem (x &&& 63) 33 33 (by decide)).1 (by omega)
  refine ⟨((x &&& 63) % 33).toInt.toNat, by omega, Int32.toInt_inj.mp ?_⟩
  rw [own_ofN _ (by omega)]; omega
theorem own_add (a b : Nat) : Int32.ofNat a + Int32.ofNat b = Int32.ofNat (a + b) := (Int32.ofNat_add a b).symm
theorem own_bit1 (n i : Nat) (hn : n ≤ 64) : (onesV (Int32.ofNat n)).toBitVec.getLsbD i = decide (i < n) := by
  have q : ∀ n : Fin 65, ∀ i : Fin 64, (onesV (Int32.ofNat n.val)).toBitVec.getLsbD i.val = decide (i.val < n.val) := by decide +kernel
  rcases Nat.lt_or_ge i 64 with h | h
  · exact q ⟨n, by omega⟩ ⟨i, h⟩
  · rw [BitVec.getLsbD_of_ge _ _ h]; symm; simp; omega
theorem own_mask (n : Nat) (hn : n ≤ 64) : maskV (Int32.ofNat n) = onesV (Int32.ofNat n) := by
  have q : ∀ n : Fin 65, maskV (Int32.ofNat n.val) = onesV (Int32.ofNat n.val) := by decide +kernel
  exact q ⟨n, by omega⟩
theorem own_m64 (n : Nat) (h : n ≤ 128) : (Int32.ofNat n).toBitVec.toNat % 64 = n % 64 := by
  have q : ∀ n : Fin 129, (Int32.ofNat n.val).toBitVec.toNat % 64 = n.val % 64 := by decide +kernel
  exact q ⟨n, by omega⟩
theorem own_shl (x : Int64) (n : Nat) (h : n ≤ 128) : (x <<< (Int32.ofNat n &&& 0x3f).toInt64).toBitVec = x.toBitVec <<< (n % 64) := by
  obtain ⟨h1, h2⟩ := sm64 (Int32.ofNat n) (n % 64) (own_m64 n h)
  rw [Int64.toBitVec_shiftLeft, h1, BitVec.shiftLeft_eq', smod64 _ h2]
theorem own_shr (x : Int64) (n : Nat) (h : n ≤ 128) : ((x.toUInt64 >>> (Int32.ofNat n &&& 0x3f).toInt64.toUInt64).toInt64).toBitVec = x.toBitVec >>> (n % 64) := by
  obtain ⟨h1, h2⟩ := sm64 (Int32.ofNat n) (n % 64) (own_m64 n h)
  have e : ((x.toUInt64 >>> (Int32.ofNat n &&& 0x3f).toInt64.toUInt64).toInt64).toBitVec = x.toBitVec >>> ((Int32.ofNat n &&& 0x3f).toInt64.toBitVec % 64) := rfl
  rw [e, h1, BitVec.ushiftRight_eq', BitVec.toNat_umod, BitVec.toNat_ofNat]
  congr 1
  have : (64#64).toNat = 64 := rfl
  show (n % 64) % 2 ^ 64 % 64 = n % 64
  omega
theorem own_nlz (n : Nat) (hn : n ≤ 32) : ((64 : Int32) - nlz64 (onesV (Int32.ofNat n))) = Int32.ofNat n := by
  have q : ∀ n : Fin 33, ((64 : Int32) - nlz64 (onesV (Int32.ofNat n.val))) = Int32.ofNat n.val := by decide +kernel
  exact q ⟨n, by omega⟩
theorem own_onesR (n : Nat) (hn : n ≤ 32) : 0 ≤ (onesV (Int32.ofNat n)).toInt ∧ (onesV (Int32.ofNat n)).toInt ≤ 4294967295 := by
  have q : ∀ n : Fin 33, 0 ≤ (onesV (Int32.ofNat n.val)).toInt ∧ (onesV (Int32.ofNat n.val)).toInt ≤ 4294967295 := by decide +kernel
  exact q ⟨n, by omega⟩
theorem own_span {k l : Int32} {m lo : Int64} {yl yh : Int32} (hk : inK k) (hm : m = onesV k) (hlo : lo = minV (l.toInt64) ((2147483647 : Int64) - m)) (hl : yl = lo.toInt32) (hh : yh = (lo + m).toInt32) : ¬ yh < yl ∧ yh.toInt64 - yl.toInt64 = m := by
  obtain ⟨n, hn, rfl⟩ := hk
  have h1 := own_onesR n hn
  rw [← hm] at h1
  have h2 := c_i2l l
  have h3 := c_lsub 2147483647 m
  have h4 : (2147483647 : Int64).toInt = 2147483647 := by decide
  have h5 := Int32.toInt_lt l
  have h6 := Int32.le_toInt l
  have h7 := Int64.toInt_lt ((2147483647 : Int64) - m)
  have h8 := Int64.le_toInt ((2147483647 : Int64) - m)
  have h9 : (-2147483648 : Int) ≤ lo.toInt ∧ lo.toInt + m.toInt ≤ 2147483647 := by
    rw [hlo]; unfold minV; split
    · omega
    · rename_i h; rw [lw_gt] at h; rw [Int64.lt_iff_toInt_lt] at h; omega
  have a1 := c_ladd lo m
  have a2 := Int64.toInt_lt (lo + m)
  have a3 := Int64.le_toInt (lo + m)
  have b1 := c_l2i lo
  have b2 := c_l2i (lo + m)
  rw [← hl] at b1
  rw [← hh] at b2
  have b3 := Int32.toInt_lt yl
  have b4 := Int32.le_toInt yl
  have b5 := Int32.toInt_lt yh
  have b6 := Int32.le_toInt yh
  have e1 : yl.toInt = lo.toInt := by omega
  have e2 : yh.toInt = lo.toInt + m.toInt := by omega
  refine ⟨by rw [Int32.lt_iff_toInt_lt]; omega, Int64.toInt_inj.mp ?_⟩
  have c1 := c_lsub yh.toInt64 yl.toInt64
  rw [c_i2l, c_i2l] at c1
  have c2 := Int64.toInt_lt (yh.toInt64 - yl.toInt64)
  have c3 := Int64.le_toInt (yh.toInt64 - yl.toInt64)
  omega
theorem own_bits {k l : Int32} {m lo : Int64} {yl yh : Int32} (hk : inK k) (hm : m = onesV k) (hlo : lo = minV (l.toInt64) ((2147483647 : Int64) - m)) (hl : yl = lo.toInt32) (hh : yh = (lo + m).toInt32) : bitsV yl yh = k := by
  have h := (own_span hk hm hlo hl hh).2
  obtain ⟨n, hn, rfl⟩ := hk
  show (64 : Int32) - nlz64 (yh.toInt64 - yl.toInt64) = _
  rw [h, hm]; exact own_nlz n hn
theorem own_le64 {n : Nat} (h : n ≤ 128) : ((64 : Int32) < Int32.ofNat n) ↔ 64 < n := by
  rw [Int32.lt_iff_toInt_lt, own_ofN n h]
  have : (64 : Int32).toInt = 64 := by decide
  omega
theorem own_a64 {k0 : Int32} (h0 : inK k0) : ¬ (64 : Int32) < ((0 : Int32) + k0) := by
  obtain ⟨n, hn, rfl⟩ := h0
  rw [Int32.zero_add, own_le64 (by omega)]; omega
theorem own_b64 {k0 k1 : Int32} (h0 : inK k0) (h1 : inK k1) : ¬ (64 : Int32) < (((0 : Int32) + k0) + k1) := by
  obtain ⟨n, hn, rfl⟩ := h0
  obtain ⟨n', hn', rfl⟩ := h1
  rw [Int32.zero_add, own_add, own_le64 (by omega)]; omega
theorem own_toI32 (a b : Int64) : a.toInt32 + b.toInt32 = (a + b).toInt32 := (Int64.toInt32_add a b).symm
theorem own_not (x : Int64) : (x ^^^ (-1 : Int64)).toBitVec = ~~~ x.toBitVec := by
  show x.toBitVec ^^^ (-1 : Int64).toBitVec = _
  rw [show (-1 : Int64).toBitVec = BitVec.allOnes 64 from rfl, BitVec.xor_allOnes]
/-- the first word's low bits -/
theorem own_g0 (p a t : Int64) (n0 n1 u : Nat) (h0 : n0 ≤ 32) (h1 : n1 ≤ 32) (hu : n0 + n1 ≤ u) (hu' : u ≤ 64) (ht : ∀ i, i < n0 + n1 → t.toBitVec.getLsbD i = false) :
    (((((p &&& onesV (Int32.ofNat n0)) ||| ((a &&& onesV (Int32.ofNat n1)) <<< (Int32.ofNat n0 &&& 0x3f).toInt64)) ||| t) ||| (p &&& (onesV (Int32.ofNat u) ^^^ (-1 : Int64)))) &&& maskV (Int32.ofNat n0)) = p &&& onesV (Int32.ofNat n0) := by
  apply Int64.toBitVec_inj.mp
  rw [own_mask n0 (by omega)]
  simp only [Int64.toBitVec_and, Int64.toBitVec_or, own_shl _ n0 (by omega), own_not]
  apply BitVec.eq_of_getLsbD_eq
  intro i hi
  simp only [BitVec.getLsbD_and, BitVec.getLsbD_or, BitVec.getLsbD_shiftLeft, BitVec.getLsbD_not, own_bit1 n0 i (by omega), own_bit1 u i hu']
  by_cases h : i < n0
  · have e1 : i < n0 % 64 := by omega
    have e2 : i < u := by omega
    simp [h, e1, e2, ht i (by omega)]
  · simp [h]
theorem own_g1 (p a t : Int64) (n0 n1 u : Nat) (h0 : n0 ≤ 32) (h1 : n1 ≤ 32) (hu : n0 + n1 ≤ u) (hu' : u ≤ 64) (ht : ∀ i, i < n0 + n1 → t.toBitVec.getLsbD i = false) :
    (((((((p &&& onesV (Int32.ofNat n0)) ||| ((a &&& onesV (Int32.ofNat n1)) <<< (Int32.ofNat n0 &&& 0x3f).toInt64)) ||| t) ||| (p &&& (onesV (Int32.ofNat u) ^^^ (-1 : Int64)))).toUInt64 >>> (Int32.ofNat n0 &&& 0x3f).toInt64.toUInt64).toInt64) &&& maskV (Int32.ofNat n1)) = a &&& onesV (Int32.ofNat n1) := by
  apply Int64.toBitVec_inj.mp
  rw [own_mask n1 (by omega)]
  simp only [Int64.toBitVec_and, Int64.toBitVec_or, own_shl _ n0 (by omega), own_shr _ n0 (by omega), own_not]
  apply BitVec.eq_of_getLsbD_eq
  intro i hi
  simp only [BitVec.getLsbD_and, BitVec.getLsbD_or, BitVec.getLsbD_ushiftRight, BitVec.getLsbD_shiftLeft, BitVec.getLsbD_not, own_bit1 n1 i (by omega), own_bit1 n0 _ (by omega : n0 ≤ 64), own_bit1 n1 _ (by omega : n1 ≤ 64), own_bit1 u _ hu']
  by_cases h : i < n1
  · have e0 : n0 % 64 = n0 := by omega
    have e2 : n0 + i < u := by omega
    have e3 : ¬ (n0 + i < n0) := by omega
    have e4 : n0 + i < 64 := by omega
    have e5 : n0 + i - n0 = i := by omega
    rw [e0, ht (n0 + i) (by omega)]
    simp [h, e2, e3, e4, e5]
  · simp [h]
/-- the third field within the first word -/
theorem own_g2 (p a q : Int64) (n0 n1 n2 : Nat) (h0 : n0 ≤ 32) (h1 : n1 ≤ 32) (h2 : n2 ≤ 32) (hu : n0 + n1 + n2 ≤ 64) :
    (((((((p &&& onesV (Int32.ofNat n0)) ||| ((a &&& onesV (Int32.ofNat n1)) <<< (Int32.ofNat n0 &&& 0x3f).toInt64)) ||| ((q &&& onesV (Int32.ofNat n2)) <<< (Int32.ofNat (n0 + n1) &&& 0x3f).toInt64)) ||| (p &&& (onesV (Int32.ofNat (n0 + n1 + n2)) ^^^ (-1 : Int64)))).toUInt64 >>> (Int32.ofNat (n0 + n1) &&& 0x3f).toInt64.toUInt64).toInt64) &&& maskV (Int32.ofNat n2)) = q &&& onesV (Int32.ofNat n2) := by
  apply Int64.toBitVec_inj.mp
  rw [own_mask n2 (by omega)]
  simp only [Int64.toBitVec_and, Int64.toBitVec_or, own_shl _ n0 (by omega), own_shl _ (n0 + n1) (by omega), own_shr _ (n0 + n1) (by omega), own_not]
  apply BitVec.eq_of_getLsbD_eq
  intro i hi
  simp only [BitVec.getLsbD_and, BitVec.getLsbD_or, BitVec.getLsbD_ushiftRight, BitVec.getLsbD_shiftLeft, BitVec.getLsbD_not, own_bit1 n1 _ (by omega : n1 ≤ 64), own_bit1 n0 _ (by omega : n0 ≤ 64), own_bit1 n2 _ (by omega : n2 ≤ 64), own_bit1 (n0 + n1 + n2) _ hu]
  by_cases h : i < n2
  · have e0 : (n0 + n1) % 64 = n0 + n1 := by omega
    have e2 : n0 + n1 + i < n0 + n1 + n2 := by omega
    have e3 : ¬ (n0 + n1 + i < n0) := by omega
    have e4 : n0 + n1 + i < 64 := by omega
    have e5 : n0 + n1 + i - (n0 + n1) = i := by omega
    have e6 : n0 % 64 = n0 := by omega
    have e7 : ¬ (n0 + n1 + i - n0 < n1) := by omega
    simp [h, e0, e2, e3, e4, e5, e6, e7]
  · simp [h]
theorem own_t2 (q : Int64) (n0 n1 n2 : Nat) (h0 : n0 ≤ 32) (h1 : n1 ≤ 32) (h2 : n2 ≤ 32) (hu : n0 + n1 + n2 ≤ 64) : ∀ i, i < n0 + n1 → ((q &&& onesV (Int32.ofNat n2)) <<< (Int32.ofNat (n0 + n1) &&& 0x3f).toInt64).toBitVec.getLsbD i = false := by
  intro i hi
  rw [own_shl _ (n0 + n1) (by omega), Int64.toBitVec_and, BitVec.getLsbD_shiftLeft, BitVec.getLsbD_and, own_bit1 n2 _ (by omega)]
  rcases Nat.lt_or_ge (n0 + n1) 64 with h | h
  · have e : (n0 + n1) % 64 = n0 + n1 := by omega
    simp [e, hi]
  · have e : n2 = 0 := by omega
    simp [e]
theorem own_sh0 (x : Int64) : ((x.toUInt64 >>> ((0 : Int32) &&& 0x3f).toInt64.toUInt64).toInt64) = x := by
  apply Int64.toBitVec_inj.mp
  have h := own_shr x 0 (by omega)
  rw [show (0 : Int32) = Int32.ofNat 0 from rfl, h]; simp
theorem own_fS {p q a f0 f1 f2 m0 m1 m2 o yw : Int64} {k0 k1 k2 : Int32} (hK0 : inK k0) (hK1 : inK k1) (hK2 : inK k2) (hm0 : m0 = onesV k0) (hm1 : m1 = onesV k1) (hm2 : m2 = onesV k2) (hf0 : f0 = p &&& m0) (hf1 : f1 = a &&& m1) (hf2 : f2 = q &&& m2) (ho : o = onesV (k0 + k1))
    (hyw : yw = (((f0 ||| (f1 <<< (k0 &&& 0x3f).toInt64)) ||| (0 : Int64)) ||| (p &&& (o ^^^ (-1 : Int64))))) :
    (yw &&& maskV k0) = f0 ∧ (((yw.toUInt64 >>> (((0 : Int32) + k0) &&& 0x3f).toInt64.toUInt64).toInt64) &&& maskV k1) = f1 ∧ (q &&& maskV k2) = f2 := by
  obtain ⟨n0, h0, rfl⟩ := hK0
  obtain ⟨n1, h1, rfl⟩ := hK1
  obtain ⟨n2, h2, rfl⟩ := hK2
  rw [own_add] at ho
  have ht : ∀ i, i < n0 + n1 → (0 : Int64).toBitVec.getLsbD i = false := fun i _ => by simp
  subst hm0 hm1 hm2 ho hf0 hf1 hf2 hyw
  refine ⟨own_g0 p a 0 n0 n1 (n0 + n1) h0 h1 (Nat.le_refl _) (by omega) ht, ?_, by rw [own_mask n2 (by omega)]⟩
  rw [Int32.zero_add]
  exact own_g1 p a 0 n0 n1 (n0 + n1) h0 h1 (Nat.le_refl _) (by omega) ht
theorem own_fN {p q a f0 f1 f2 m0 m1 m2 o yw : Int64} {k0 k1 k2 : Int32} (hK0 : inK k0) (hK1 : inK k1) (hK2 : inK k2) (hm0 : m0 = onesV k0) (hm1 : m1 = onesV k1) (hm2 : m2 = onesV k2) (hf0 : f0 = p &&& m0) (hf1 : f1 = a &&& m1) (hf2 : f2 = q &&& m2) (ho : o = onesV ((k0 + k1) + k2))
    (hyw : yw = (((f0 ||| (f1 <<< (k0 &&& 0x3f).toInt64)) ||| (f2 <<< ((k0 + k1) &&& 0x3f).toInt64)) ||| (p &&& (o ^^^ (-1 : Int64))))) (hsp : ¬ (64 : Int32) < ((k0 + k1) + k2)) :
    (yw &&& maskV k0) = f0 ∧ (((yw.toUInt64 >>> (((0 : Int32) + k0) &&& 0x3f).toInt64.toUInt64).toInt64) &&& maskV k1) = f1 ∧ (((yw.toUInt64 >>> ((((0 : Int32) + k0) + k1) &&& 0x3f).toInt64.toUInt64).toInt64) &&& maskV k2) = f2 := by
  obtain ⟨n0, h0, rfl⟩ := hK0
  obtain ⟨n1, h1, rfl⟩ := hK1
  obtain ⟨n2, h2, rfl⟩ := hK2
  rw [own_add, own_add] at ho hsp
  rw [own_le64 (by omega)] at hsp
  rw [own_add] at hyw
  rw [Int32.zero_add, own_add]
  have ht := own_t2 q n0 n1 n2 h0 h1 h2 (by omega)
  subst hm0 hm1 hm2 ho hf0 hf1 hf2 hyw
  exact ⟨own_g0 p a _ n0 n1 (n0 + n1 + n2) h0 h1 (by omega) (by omega) ht, own_g1 p a _ n0 n1 (n0 + n1 + n2) h0 h1 (by omega) (by omega) ht, own_g2 p a q n0 n1 n2 h0 h1 h2 (by omega)⟩
theorem own_wS {Z : State} {a0 : Array Value} (hw : ∀ d ∈ tables_1, d.before a0 Z = true) : ∀ a ∈ Bundle.stringAtoms, a.before a0 Z = true := by
  intro a ha
  simp only [Bundle.stringAtoms, List.mem_cons, List.not_mem_nil, or_false] at ha
  rcases ha with rfl | rfl | rfl | rfl | rfl | rfl | rfl
  · first | exact (ow hw 40 rfl) | exact (ow hw 41 rfl) | exact (ow hw 42 rfl) | exact (ow hw 43 rfl) | exact (ow hw 44 rfl) | exact (ow hw 45 rfl) | exact (ow hw 46 rfl)
  · first | exact (ow hw 40 rfl) | exact (ow hw 41 rfl) | exact (ow hw 42 rfl) | exact (ow hw 43 rfl) | exact (ow hw 44 rfl) | exact (ow hw 45 rfl) | exact (ow hw 46 rfl)
  · first | exact (ow hw 40 rfl) | exact (ow hw 41 rfl) | exact (ow hw 42 rfl) | exact (ow hw 43 rfl) | exact (ow hw 44 rfl) | exact (ow hw 45 rfl) | exact (ow hw 46 rfl)
  · first | exact (ow hw 40 rfl) | exact (ow hw 41 rfl) | exact (ow hw 42 rfl) | exact (ow hw 43 rfl) | exact (ow hw 44 rfl) | exact (ow hw 45 rfl) | exact (ow hw 46 rfl)
  · first | exact (ow hw 40 rfl) | exact (ow hw 41 rfl) | exact (ow hw 42 rfl) | exact (ow hw 43 rfl) | exact (ow hw 44 rfl) | exact (ow hw 45 rfl) | exact (ow hw 46 rfl)
  · first | exact (ow hw 40 rfl) | exact (ow hw 41 rfl) | exact (ow hw 42 rfl) | exact (ow hw 43 rfl) | exact (ow hw 44 rfl) | exact (ow hw 45 rfl) | exact (ow hw 46 rfl)
  · first | exact (ow hw 40 rfl) | exact (ow hw 41 rfl) | exact (ow hw 42 rfl) | exact (ow hw 43 rfl) | exact (ow hw 44 rfl) | exact (ow hw 45 rfl) | exact (ow hw 46 rfl)
def SS (Z : State) (wINTEGER : Addr) (wDOUBLE : Addr) (wBOOLEAN : Addr) (wDEFAULTCAPACITY_EMPTY_ELEMENTDATA : Addr) (kwDEFAULTCAPACITY_EMPTY_ELEMENTDATA : ClassId) : Prop := Sta Z Z.heap s0n "INTEGER" s1n (.ref wINTEGER) ∧ Exa Z Z.heap wINTEGER s0n ∧ Sta Z Z.heap s0n "DOUBLE" s1n (.ref wDOUBLE) ∧ Exa Z Z.heap wDOUBLE s0n ∧ Sta Z Z.heap s0n "BOOLEAN" s1n (.ref wBOOLEAN) ∧ Exa Z Z.heap wBOOLEAN s0n ∧ Fld Z Z.heap wINTEGER "java/lang/Enum" "ordinal" "I" (.int 1) ∧ Fld Z Z.heap wDOUBLE "java/lang/Enum" "ordinal" "I" (.int 2) ∧ Fld Z Z.heap wBOOLEAN "java/lang/Enum" "ordinal" "I" (.int 0) ∧ Sta Z Z.heap s2n "DEFAULTCAPACITY_EMPTY_ELEMENTDATA" s3n (.ref wDEFAULTCAPACITY_EMPTY_ELEMENTDATA) ∧ Exa Z Z.heap wDEFAULTCAPACITY_EMPTY_ELEMENTDATA s3n ∧ Arv Z Z.heap wDEFAULTCAPACITY_EMPTY_ELEMENTDATA kwDEFAULTCAPACITY_EMPTY_ELEMENTDATA (.object s4n) (0 : Int32) ([]) .null
theorem ef_rmOnes (m : MethodId) (x0 : Int32)  : entryFrame m #[(.int x0)] 1 = mkF m 0 #[(vi x0)] [] := by first | (simp [entryFrame, mkF, argsToLocals, Value.category]; done) | rfl
theorem pn_com_example_lanc_lanc_model_VariableLayoutValuePinLaw : plainName "com/example/lanc/lanc/model/VariableLayoutValuePinLaw" = true := by first | (simp [plainName, overriddenIn]; done) | decide +kernel
theorem d1_0 : decode method_3_code 0 = .ok (.iload_n 0, 1) := by decide +kernel
theorem d1_1 : decode method_3_code 1 = .ok (.bipush 64, 2) := by decide +kernel
theorem d1_3 : decode method_3_code 3 = .ok (.if_icmp .lt 7, 3) := by decide +kernel
theorem d1_10 : decode method_3_code 10 = .ok (.lconst 1, 1) := by decide +kernel
theorem d1_11 : decode method_3_code 11 = .ok (.iload_n 0, 1) := by decide +kernel
theorem d1_12 : decode method_3_code 12 = .ok (.lshl, 1) := by decide +kernel
theorem d1_13 : decode method_3_code 13 = .ok (.lconst 1, 1) := by decide +kernel
theorem d1_14 : decode method_3_code 14 = .ok (.lsub, 1) := by decide +kernel
theorem d1_15 : decode method_3_code 15 = .ok (.lreturn, 1) := by decide +kernel
theorem d1_6 : decode method_3_code 6 = .ok (.ldc2_w 23, 3) := by decide +kernel
theorem d1_9 : decode method_3_code 9 = .ok (.lreturn, 1) := by decide +kernel
def Q_rmOnes (Z : State) (wINTEGER : Addr) (wDOUBLE : Addr) (wBOOLEAN : Addr) (wDEFAULTCAPACITY_EMPTY_ELEMENTDATA : Addr) (kwDEFAULTCAPACITY_EMPTY_ELEMENTDATA : ClassId) (p1 : Int32) (h0 : Heap) (n0 : Nat) (v : Option Value) (h : Heap) (L : List Loc) : Prop := ∃ (r : Int64), v = some (.long r) ∧ Fr n0 L ∧ h = h0 ∧ r = onesV p1
theorem rmOnes (l : Launch) (Z : State) (a0 : Array Value) (hw : ∀ d ∈ tables_1, d.before a0 Z = true) (ws : List Jvm.Cond) (wINTEGER : Addr) (wDOUBLE : Addr) (wBOOLEAN : Addr) (wDEFAULTCAPACITY_EMPTY_ELEMENTDATA : Addr) (kwDEFAULTCAPACITY_EMPTY_ELEMENTDATA : ClassId) (hS : SS Z wINTEGER wDOUBLE wBOOLEAN wDEFAULTCAPACITY_EMPTY_ELEMENTDATA kwDEFAULTCAPACITY_EMPTY_ELEMENTDATA) (p1 : Int32) (h0 : Heap) (n0 : Nat) (O0 : Old Z n0 h0)  :
    MetB l M0 method_3_code 1 (some .long) ws (rmk 0 0 0 0) Z h0 #[(.int p1)] (Q_rmOnes Z wINTEGER wDOUBLE wBOOLEAN wDEFAULTCAPACITY_EMPTY_ELEMENTDATA kwDEFAULTCAPACITY_EMPTY_ELEMENTDATA p1 h0 n0) := by
  refine own_body (plainFor_of_name pn_com_example_lanc_lanc_model_VariableLayoutValuePinLaw) ?_
  intro p e s m below meth c s₁ hx hby hml hown hnm hret0 hlk0 hZ X0 e0
  have N0 := Fr.nil n0
  have pre0 : ∀ t, Steps p.tables e below (s₁.setTop (mkF m 0 #[(vi p1)] [])) t → Steps p.tables e below (s₁.setTop (entryFrame m #[(.int p1)] 1)) t := fun t k => castTop (ef_rmOnes m p1) k
  have hS0 := hS
  obtain ⟨S_wINTEGER, E_wINTEGER, S_wDOUBLE, E_wDOUBLE, S_wBOOLEAN, E_wBOOLEAN, F_ordinal_wINTEGER, F_ordinal_wDOUBLE, F_ordinal_wBOOLEAN, S_wDEFAULTCAPACITY_EMPTY_ELEMENTDATA, E_wDEFAULTCAPACITY_EMPTY_ELEMENTDATA, V_wDEFAULTCAPACITY_EMPTY_ELEMENTDATA⟩ := hS0
  have pre1 : ∀ t, Steps p.tables e below (s₁.setTop (mkF m 3 #[(vi p1)] [(.int 64), (.int p1)])) t → Steps p.tables e below (s₁.setTop (entryFrame m #[(.int p1)] 1)) t := by
    intro t k
    refine pre0 t ?_
    show Steps p.tables e below (s₁.setTop (mkF m 0 #[(vi p1)] [])) _
    refine XS.iloadN X0.here hx rfl (hb hby d1_0) rfl ?_
    refine XS.bipush X0.here hx rfl (hb hby d1_1) ?_
    exact k
  rcases Decidable.em (p1 < (64 : Int32)) with hc2 | hc2
  · skip
    obtain ⟨fs, hr, hrun, hended, hW, hsame⟩ := X0.leave (v := some (.long (((1 : Int64) <<< (p1 &&& 0x3f).toInt64) - (1 : Int64)))) (fun h => by rw [hret0] at h; cases h)
    refine ⟨_, _, pre1 _ ?_, hrun, hended, _, _, rfl, ?_, ⟨_, rfl⟩, hW, hsame.mono (by decide) (by decide)⟩
    · skip
      refine XS.icmpYes X0.here hx rfl (pc0 := 3) (pc' := 10) rfl (hb hby d1_3) rfl (tlt hc2).1 (by decide) (by decide) ?_
      refine XS.lconst X0.here hx rfl (hb hby d1_10) ?_
      refine XS.iloadN X0.here hx rfl (hb hby d1_11) rfl ?_
      refine XS.lshl X0.here hx rfl (hb hby d1_12) rfl ?_
      show Steps p.tables e below (s₁.setTop (mkF m 13 #[(vi p1)] [(.long ((1 : Int64) <<< (p1 &&& 0x3f).toInt64))])) _
      refine XS.lconst X0.here hx rfl (hb hby d1_13) ?_
      refine XS.lsub X0.here hx rfl (hb hby d1_14) rfl ?_
      exact retL X0 hx hret0 (hb hby d1_15) hr
    · show Q_rmOnes Z wINTEGER wDOUBLE wBOOLEAN wDEFAULTCAPACITY_EMPTY_ELEMENTDATA kwDEFAULTCAPACITY_EMPTY_ELEMENTDATA p1 h0 n0 _ s₁.heap _
      rw [e0]
      exact ⟨(((1 : Int64) <<< (p1 &&& 0x3f).toInt64) - (1 : Int64)), rfl, N0, rfl, (by simp [onesV, hc2])⟩
  · skip
    obtain ⟨fs, hr, hrun, hended, hW, hsame⟩ := X0.leave (v := some (.long (-1 : Int64))) (fun h => by rw [hret0] at h; cases h)
    refine ⟨_, _, pre1 _ ?_, hrun, hended, _, _, rfl, ?_, ⟨_, rfl⟩, hW, hsame.mono (by decide) (by decide)⟩
    · skip
      refine XS.icmpNo X0.here hx rfl (hb hby d1_3) rfl (flt hc2).1 ?_
      refine X0.ldc2Long hx hown (mvT hZ (ow hw 9 rfl)) (g := (mkF m 6 #[(vi p1)] [])) rfl (hb hby d1_6) _ ?_
      exact retL X0 hx hret0 (hb hby d1_9) hr
    · show Q_rmOnes Z wINTEGER wDOUBLE wBOOLEAN wDEFAULTCAPACITY_EMPTY_ELEMENTDATA kwDEFAULTCAPACITY_EMPTY_ELEMENTDATA p1 h0 n0 _ s₁.heap _
      rw [e0]
      exact ⟨(-1 : Int64), rfl, N0, rfl, (by simp [onesV, hc2])⟩
theorem ef_rmMin (m : MethodId) (x0 : Int64) (x1 : Int64)  : entryFrame m #[(.long x0), (.long x1)] 4 = mkF m 0 #[(vl x0), .second, (vl x1), .second] [] := by first | (simp [entryFrame, mkF, argsToLocals, Value.category]; done) | rfl
theorem d2_0 : decode jdk_29_method_70_code 0 = .ok (.lload_n 0, 1) := by decide +kernel
theorem d2_1 : decode jdk_29_method_70_code 1 = .ok (.lload_n 2, 1) := by decide +kernel
theorem d2_2 : decode jdk_29_method_70_code 2 = .ok (.lcmp, 1) := by decide +kernel
theorem d2_3 : decode jdk_29_method_70_code 3 = .ok (.ifCond .gt 7, 3) := by decide +kernel
theorem d2_10 : decode jdk_29_method_70_code 10 = .ok (.lload_n 2, 1) := by decide +kernel
theorem d2_11 : decode jdk_29_method_70_code 11 = .ok (.lreturn, 1) := by decide +kernel
theorem d2_6 : decode jdk_29_method_70_code 6 = .ok (.lload_n 0, 1) := by decide +kernel
theorem d2_7 : decode jdk_29_method_70_code 7 = .ok (.goto 4, 3) := by decide +kernel
def Q_rmMin (Z : State) (wINTEGER : Addr) (wDOUBLE : Addr) (wBOOLEAN : Addr) (wDEFAULTCAPACITY_EMPTY_ELEMENTDATA : Addr) (kwDEFAULTCAPACITY_EMPTY_ELEMENTDATA : ClassId) (p1 : Int64) (p2 : Int64) (h0 : Heap) (n0 : Nat) (v : Option Value) (h : Heap) (L : List Loc) : Prop := ∃ (r : Int64), v = some (.long r) ∧ Fr n0 L ∧ h = h0 ∧ r = minV p1 p2
theorem rmMin (l : Launch) (Z : State) (a0 : Array Value) (hw : ∀ d ∈ tables_1, d.before a0 Z = true) (ws : List Jvm.Cond) (wINTEGER : Addr) (wDOUBLE : Addr) (wBOOLEAN : Addr) (wDEFAULTCAPACITY_EMPTY_ELEMENTDATA : Addr) (kwDEFAULTCAPACITY_EMPTY_ELEMENTDATA : ClassId) (hS : SS Z wINTEGER wDOUBLE wBOOLEAN wDEFAULTCAPACITY_EMPTY_ELEMENTDATA kwDEFAULTCAPACITY_EMPTY_ELEMENTDATA) (p1 : Int64) (p2 : Int64) (h0 : Heap) (n0 : Nat) (O0 : Old Z n0 h0)  :
    MetB l M1 jdk_29_method_70_code 4 (some .long) ws (rmk 0 0 0 0) Z h0 #[(.long p1), (.long p2)] (Q_rmMin Z wINTEGER wDOUBLE wBOOLEAN wDEFAULTCAPACITY_EMPTY_ELEMENTDATA kwDEFAULTCAPACITY_EMPTY_ELEMENTDATA p1 p2 h0 n0) := by
  refine own_body (Jvm.Free.JP.mathPlain rfl (by decide +kernel)) ?_
  intro p e s m below meth c s₁ hx hby hml hown hnm hret0 hlk0 hZ X0 e0
  have N0 := Fr.nil n0
  have pre0 : ∀ t, Steps p.tables e below (s₁.setTop (mkF m 0 #[(vl p1), .second, (vl p2), .second] [])) t → Steps p.tables e below (s₁.setTop (entryFrame m #[(.long p1), (.long p2)] 4)) t := fun t k => castTop (ef_rmMin m p1 p2) k
  have hS0 := hS
  obtain ⟨S_wINTEGER, E_wINTEGER, S_wDOUBLE, E_wDOUBLE, S_wBOOLEAN, E_wBOOLEAN, F_ordinal_wINTEGER, F_ordinal_wDOUBLE, F_ordinal_wBOOLEAN, S_wDEFAULTCAPACITY_EMPTY_ELEMENTDATA, E_wDEFAULTCAPACITY_EMPTY_ELEMENTDATA, V_wDEFAULTCAPACITY_EMPTY_ELEMENTDATA⟩ := hS0
  have pre1 : ∀ t, Steps p.tables e below (s₁.setTop (mkF m 3 #[(vl p1), .second, (vl p2), .second] [(.int (lcmpW p1 p2))])) t → Steps p.tables e below (s₁.setTop (entryFrame m #[(.long p1), (.long p2)] 4)) t := by
    intro t k
    refine pre0 t ?_
    show Steps p.tables e below (s₁.setTop (mkF m 0 #[(vl p1), .second, (vl p2), .second] [])) _
    refine XS.lloadN X0.here hx rfl (hb hby d2_0) rfl ?_
    refine XS.lloadN X0.here hx rfl (hb hby d2_1) rfl ?_
    refine XS.lcmp X0.here hx rfl (hb hby d2_2) rfl ?_
    exact k
  rcases Decidable.em ((0 : Int32) < (lcmpW p1 p2)) with hc2 | hc2
  · skip
    obtain ⟨fs, hr, hrun, hended, hW, hsame⟩ := X0.leave (v := some (.long p2)) (fun h => by rw [hret0] at h; cases h)
    refine ⟨_, _, pre1 _ ?_, hrun, hended, _, _, rfl, ?_, ⟨_, rfl⟩, hW, hsame.mono (by decide) (by decide)⟩
    · skip
      refine XS.ifYes X0.here hx rfl (pc0 := 3) (pc' := 10) rfl (hb hby d2_3) rfl ((if0 _ _).trans (tlt hc2).2.2.1) (by decide) (by decide) ?_
      refine XS.lloadN X0.here hx rfl (hb hby d2_10) rfl ?_
      exact retL X0 hx hret0 (hb hby d2_11) hr
    · show Q_rmMin Z wINTEGER wDOUBLE wBOOLEAN wDEFAULTCAPACITY_EMPTY_ELEMENTDATA kwDEFAULTCAPACITY_EMPTY_ELEMENTDATA p1 p2 h0 n0 _ s₁.heap _
      rw [e0]
      exact ⟨p2, rfl, N0, rfl, (by simp [minV, hc2])⟩
  · skip
    obtain ⟨fs, hr, hrun, hended, hW, hsame⟩ := X0.leave (v := some (.long p1)) (fun h => by rw [hret0] at h; cases h)
    refine ⟨_, _, pre1 _ ?_, hrun, hended, _, _, rfl, ?_, ⟨_, rfl⟩, hW, hsame.mono (by decide) (by decide)⟩
    · skip
      refine XS.ifNo X0.here hx rfl (hb hby d2_3) rfl ((if0 _ _).trans (flt hc2).2.2.1) ?_
      refine XS.lloadN X0.here hx rfl (hb hby d2_6) rfl ?_
      refine XS.goto X0.here hx rfl (pc0 := 7) (pc' := 11) rfl (hb hby d2_7) (by decide) (by decide) ?_
      show Steps p.tables e below (s₁.setTop (mkF m 11 #[(vl p1), .second, (vl p2), .second] [(.long p1)])) _
      exact retL X0 hx hret0 (hb hby d2_11) hr
    · show Q_rmMin Z wINTEGER wDOUBLE wBOOLEAN wDEFAULTCAPACITY_EMPTY_ELEMENTDATA kwDEFAULTCAPACITY_EMPTY_ELEMENTDATA p1 p2 h0 n0 _ s₁.heap _
      rw [e0]
      exact ⟨p1, rfl, N0, rfl, (by simp [minV, hc2])⟩
theorem ef_rmMax (m : MethodId) (x0 : Int32) (x1 : Int32)  : entryFrame m #[(.int x0), (.int x1)] 2 = mkF m 0 #[(vi x0), (vi x1)] [] := by first | (simp [entryFrame, mkF, argsToLocals, Value.category]; done) | rfl
theorem d13_0 : decode jdk_29_method_65_code 0 = .ok (.iload_n 0, 1) := by decide +kernel
theorem d13_1 : decode jdk_29_method_65_code 1 = .ok (.iload_n 1, 1) := by decide +kernel
theorem d13_2 : decode jdk_29_method_65_code 2 = .ok (.if_icmp .lt 7, 3) := by decide +kernel
theorem d13_9 : decode jdk_29_method_65_code 9 = .ok (.iload_n 1, 1) := by decide +kernel
theorem d13_10 : decode jdk_29_method_65_code 10 = .ok (.ireturn, 1) := by decide +kernel
theorem d13_5 : decode jdk_29_method_65_code 5 = .ok (.iload_n 0, 1) := by decide +kernel
theorem d13_6 : decode jdk_29_method_65_code 6 = .ok (.goto 4, 3) := by decide +kernel
def Q_rmMax (Z : State) (wINTEGER : Addr) (wDOUBLE : Addr) (wBOOLEAN : Addr) (wDEFAULTCAPACITY_EMPTY_ELEMENTDATA : Addr) (kwDEFAULTCAPACITY_EMPTY_ELEMENTDATA : ClassId) (p1 : Int32) (p2 : Int32) (h0 : Heap) (n0 : Nat) (v : Option Value) (h : Heap) (L : List Loc) : Prop := ∃ (r : Int32), v = some (.int r) ∧ Fr n0 L ∧ h = h0 ∧ r = (if p1 < p2 then p2 else p1)
theorem rmMax (l : Launch) (Z : State) (a0 : Array Value) (hw : ∀ d ∈ tables_1, d.before a0 Z = true) (ws : List Jvm.Cond) (wINTEGER : Addr) (wDOUBLE : Addr) (wBOOLEAN : Addr) (wDEFAULTCAPACITY_EMPTY_ELEMENTDATA : Addr) (kwDEFAULTCAPACITY_EMPTY_ELEMENTDATA : ClassId) (hS : SS Z wINTEGER wDOUBLE wBOOLEAN wDEFAULTCAPACITY_EMPTY_ELEMENTDATA kwDEFAULTCAPACITY_EMPTY_ELEMENTDATA) (p1 : Int32) (p2 : Int32) (h0 : Heap) (n0 : Nat) (O0 : Old Z n0 h0)  :
    MetB l M2 jdk_29_method_65_code 2 (some .int) ws (rmk 0 0 0 0) Z h0 #[(.int p1), (.int p2)] (Q_rmMax Z wINTEGER wDOUBLE wBOOLEAN wDEFAULTCAPACITY_EMPTY_ELEMENTDATA kwDEFAULTCAPACITY_EMPTY_ELEMENTDATA p1 p2 h0 n0) := by
  refine own_body (Jvm.Free.JP.mathPlain rfl (by decide +kernel)) ?_
  intro p e s m below meth c s₁ hx hby hml hown hnm hret0 hlk0 hZ X0 e0
  have N0 := Fr.nil n0
  have pre0 : ∀ t, Steps p.tables e below (s₁.setTop (mkF m 0 #[(vi p1), (vi p2)] [])) t → Steps p.tables e below (s₁.setTop (entryFrame m #[(.int p1), (.int p2)] 2)) t := fun t k => castTop (ef_rmMax m p1 p2) k
  have hS0 := hS
  obtain ⟨S_wINTEGER, E_wINTEGER, S_wDOUBLE, E_wDOUBLE, S_wBOOLEAN, E_wBOOLEAN, F_ordinal_wINTEGER, F_ordinal_wDOUBLE, F_ordinal_wBOOLEAN, S_wDEFAULTCAPACITY_EMPTY_ELEMENTDATA, E_wDEFAULTCAPACITY_EMPTY_ELEMENTDATA, V_wDEFAULTCAPACITY_EMPTY_ELEMENTDATA⟩ := hS0
  have pre1 : ∀ t, Steps p.tables e below (s₁.setTop (mkF m 2 #[(vi p1), (vi p2)] [(.int p2), (.int p1)])) t → Steps p.tables e below (s₁.setTop (entryFrame m #[(.int p1), (.int p2)] 2)) t := by
    intro t k
    refine pre0 t ?_
    show Steps p.tables e below (s₁.setTop (mkF m 0 #[(vi p1), (vi p2)] [])) _
    refine XS.iloadN X0.here hx rfl (hb hby d13_0) rfl ?_
    refine XS.iloadN X0.here hx rfl (hb hby d13_1) rfl ?_
    exact k
  rcases Decidable.em (p1 < p2) with hc2 | hc2
  · skip
    obtain ⟨fs, hr, hrun, hended, hW, hsame⟩ := X0.leave (v := some (.int p2)) (fun h => by rw [hret0] at h; cases h)
    refine ⟨_, _, pre1 _ ?_, hrun, hended, _, _, rfl, ?_, ⟨_, rfl⟩, hW, hsame.mono (by decide) (by decide)⟩
    · skip
      refine XS.icmpYes X0.here hx rfl (pc0 := 2) (pc' := 9) rfl (hb hby d13_2) rfl (tlt hc2).1 (by decide) (by decide) ?_
      refine XS.iloadN X0.here hx rfl (hb hby d13_9) rfl ?_
      exact retI X0 hx hret0 (hb hby d13_10) hr
    · show Q_rmMax Z wINTEGER wDOUBLE wBOOLEAN wDEFAULTCAPACITY_EMPTY_ELEMENTDATA kwDEFAULTCAPACITY_EMPTY_ELEMENTDATA p1 p2 h0 n0 _ s₁.heap _
      rw [e0]
      exact ⟨p2, rfl, N0, rfl, (by simp [if_true, hc2])⟩
  · skip
    obtain ⟨fs, hr, hrun, hended, hW, hsame⟩ := X0.leave (v := some (.int p1)) (fun h => by rw [hret0] at h; cases h)
    refine ⟨_, _, pre1 _ ?_, hrun, hended, _, _, rfl, ?_, ⟨_, rfl⟩, hW, hsame.mono (by decide) (by decide)⟩
    · skip
      refine XS.icmpNo X0.here hx rfl (hb hby d13_2) rfl (flt hc2).1 ?_
      refine XS.iloadN X0.here hx rfl (hb hby d13_5) rfl ?_
      refine XS.goto X0.here hx rfl (pc0 := 6) (pc' := 10) rfl (hb hby d13_6) (by decide) (by decide) ?_
      exact retI X0 hx hret0 (hb hby d13_10) hr
    · show Q_rmMax Z wINTEGER wDOUBLE wBOOLEAN wDEFAULTCAPACITY_EMPTY_ELEMENTDATA kwDEFAULTCAPACITY_EMPTY_ELEMENTDATA p1 p2 h0 n0 _ s₁.heap _
      rw [e0]
      exact ⟨p1, rfl, N0, rfl, (by simp [if_true, hc2])⟩
theorem ef_rmNlz32 (m : MethodId) (x0 : Int32)  : entryFrame m #[(.int x0)] 2 = mkF m 0 #[(vi x0), .unset] [] := by first | (simp [entryFrame, mkF, argsToLocals, Value.category]; done) | rfl
theorem pn_java_lang_Integer : plainName "java/lang/Integer" = true := by first | (simp [plainName, overriddenIn]; done) | decide +kernel
theorem d23_0 : decode jdk_33_method_47_code 0 = .ok (.iload_n 0, 1) := by decide +kernel
theorem d23_1 : decode jdk_33_method_47_code 1 = .ok (.ifCond .gt 14, 3) := by decide +kernel
theorem d23_15 : decode jdk_33_method_47_code 15 = .ok (.bipush 31, 2) := by decide +kernel
theorem d23_17 : decode jdk_33_method_47_code 17 = .ok (.istore_n 1, 1) := by decide +kernel
theorem d23_18 : decode jdk_33_method_47_code 18 = .ok (.iload_n 0, 1) := by decide +kernel
theorem d23_19 : decode jdk_33_method_47_code 19 = .ok (.ldc_w 264, 3) := by decide +kernel
theorem d23_22 : decode jdk_33_method_47_code 22 = .ok (.if_icmp .lt 11, 3) := by decide +kernel
theorem d23_25 : decode jdk_33_method_47_code 25 = .ok (.iinc 1 (-16), 3) := by decide +kernel
theorem d23_28 : decode jdk_33_method_47_code 28 = .ok (.iload_n 0, 1) := by decide +kernel
theorem d23_29 : decode jdk_33_method_47_code 29 = .ok (.bipush 16, 2) := by decide +kernel
theorem d23_31 : decode jdk_33_method_47_code 31 = .ok (.iushr, 1) := by decide +kernel
theorem d23_32 : decode jdk_33_method_47_code 32 = .ok (.istore_n 0, 1) := by decide +kernel
theorem d23_33 : decode jdk_33_method_47_code 33 = .ok (.iload_n 0, 1) := by decide +kernel
theorem d23_34 : decode jdk_33_method_47_code 34 = .ok (.sipush 256, 3) := by decide +kernel
theorem d23_37 : decode jdk_33_method_47_code 37 = .ok (.if_icmp .lt 11, 3) := by decide +kernel
theorem d23_40 : decode jdk_33_method_47_code 40 = .ok (.iinc 1 (-8), 3) := by decide +kernel
theorem d23_43 : decode jdk_33_method_47_code 43 = .ok (.iload_n 0, 1) := by decide +kernel
theorem d23_44 : decode jdk_33_method_47_code 44 = .ok (.bipush 8, 2) := by decide +kernel
theorem d23_46 : decode jdk_33_method_47_code 46 = .ok (.iushr, 1) := by decide +kernel
theorem d23_47 : decode jdk_33_method_47_code 47 = .ok (.istore_n 0, 1) := by decide +kernel
theorem d23_48 : decode jdk_33_method_47_code 48 = .ok (.iload_n 0, 1) := by decide +kernel
theorem d23_49 : decode jdk_33_method_47_code 49 = .ok (.bipush 16, 2) := by decide +kernel
theorem d23_51 : decode jdk_33_method_47_code 51 = .ok (.if_icmp .lt 10, 3) := by decide +kernel
theorem d23_54 : decode jdk_33_method_47_code 54 = .ok (.iinc 1 (-4), 3) := by decide +kernel
theorem d23_57 : decode jdk_33_method_47_code 57 = .ok (.iload_n 0, 1) := by decide +kernel
theorem d23_58 : decode jdk_33_method_47_code 58 = .ok (.iconst 4, 1) := by decide +kernel
theorem d23_59 : decode jdk_33_method_47_code 59 = .ok (.iushr, 1) := by decide +kernel
theorem d23_60 : decode jdk_33_method_47_code 60 = .ok (.istore_n 0, 1) := by decide +kernel
theorem d23_61 : decode jdk_33_method_47_code 61 = .ok (.iload_n 0, 1) := by decide +kernel
theorem d23_62 : decode jdk_33_method_47_code 62 = .ok (.iconst 4, 1) := by decide +kernel
theorem d23_63 : decode jdk_33_method_47_code 63 = .ok (.if_icmp .lt 10, 3) := by decide +kernel
theorem d23_66 : decode jdk_33_method_47_code 66 = .ok (.iinc 1 (-2), 3) := by decide +kernel
theorem d23_69 : decode jdk_33_method_47_code 69 = .ok (.iload_n 0, 1) := by decide +kernel
theorem d23_70 : decode jdk_33_method_47_code 70 = .ok (.iconst 2, 1) := by decide +kernel
theorem d23_71 : decode jdk_33_method_47_code 71 = .ok (.iushr, 1) := by decide +kernel
theorem d23_72 : decode jdk_33_method_47_code 72 = .ok (.istore_n 0, 1) := by decide +kernel
theorem d23_73 : decode jdk_33_method_47_code 73 = .ok (.iload_n 1, 1) := by decide +kernel
theorem d23_74 : decode jdk_33_method_47_code 74 = .ok (.iload_n 0, 1) := by decide +kernel
theorem d23_75 : decode jdk_33_method_47_code 75 = .ok (.iconst 1, 1) := by decide +kernel
theorem d23_76 : decode jdk_33_method_47_code 76 = .ok (.iushr, 1) := by decide +kernel
theorem d23_77 : decode jdk_33_method_47_code 77 = .ok (.isub, 1) := by decide +kernel
theorem d23_78 : decode jdk_33_method_47_code 78 = .ok (.ireturn, 1) := by decide +kernel
theorem d23_4 : decode jdk_33_method_47_code 4 = .ok (.iload_n 0, 1) := by decide +kernel
theorem d23_5 : decode jdk_33_method_47_code 5 = .ok (.ifCond .ne 8, 3) := by decide +kernel
theorem d23_8 : decode jdk_33_method_47_code 8 = .ok (.bipush 32, 2) := by decide +kernel
theorem d23_10 : decode jdk_33_method_47_code 10 = .ok (.goto 4, 3) := by decide +kernel
theorem d23_14 : decode jdk_33_method_47_code 14 = .ok (.ireturn, 1) := by decide +kernel
theorem d23_13 : decode jdk_33_method_47_code 13 = .ok (.iconst 0, 1) := by decide +kernel
def Q_rmNlz32 (Z : State) (wINTEGER : Addr) (wDOUBLE : Addr) (wBOOLEAN : Addr) (wDEFAULTCAPACITY_EMPTY_ELEMENTDATA : Addr) (kwDEFAULTCAPACITY_EMPTY_ELEMENTDATA : ClassId) (p1 : Int32) (h0 : Heap) (n0 : Nat) (v : Option Value) (h : Heap) (L : List Loc) : Prop := ∃ (r : Int32), v = some (.int r) ∧ Fr n0 L ∧ h = h0 ∧ r = nlz32 p1
theorem rmNlz32 (l : Launch) (Z : State) (a0 : Array Value) (hw : ∀ d ∈ tables_1, d.before a0 Z = true) (ws : List Jvm.Cond) (wINTEGER : Addr) (wDOUBLE : Addr) (wBOOLEAN : Addr) (wDEFAULTCAPACITY_EMPTY_ELEMENTDATA : Addr) (kwDEFAULTCAPACITY_EMPTY_ELEMENTDATA : ClassId) (hS : SS Z wINTEGER wDOUBLE wBOOLEAN wDEFAULTCAPACITY_EMPTY_ELEMENTDATA kwDEFAULTCAPACITY_EMPTY_ELEMENTDATA) (p1 : Int32) (h0 : Heap) (n0 : Nat) (O0 : Old Z n0 h0)  :
    MetB l M3 jdk_33_method_47_code 2 (some .int) ws (rmk 0 0 0 0) Z h0 #[(.int p1)] (Q_rmNlz32 Z wINTEGER wDOUBLE wBOOLEAN wDEFAULTCAPACITY_EMPTY_ELEMENTDATA kwDEFAULTCAPACITY_EMPTY_ELEMENTDATA p1 h0 n0) := by
  refine own_body (plainFor_of_name pn_java_lang_Integer) ?_
  intro p e s m below meth c s₁ hx hby hml hown hnm hret0 hlk0 hZ X0 e0
  have N0 := Fr.nil n0
  have pre0 : ∀ t, Steps p.tables e below (s₁.setTop (mkF m 0 #[(vi p1), .unset] [])) t → Steps p.tables e below (s₁.setTop (entryFrame m #[(.int p1)] 2)) t := fun t k => castTop (ef_rmNlz32 m p1) k
  have hS0 := hS
  obtain ⟨S_wINTEGER, E_wINTEGER, S_wDOUBLE, E_wDOUBLE, S_wBOOLEAN, E_wBOOLEAN, F_ordinal_wINTEGER, F_ordinal_wDOUBLE, F_ordinal_wBOOLEAN, S_wDEFAULTCAPACITY_EMPTY_ELEMENTDATA, E_wDEFAULTCAPACITY_EMPTY_ELEMENTDATA, V_wDEFAULTCAPACITY_EMPTY_ELEMENTDATA⟩ := hS0
  have pre1 : ∀ t, Steps p.tables e below (s₁.setTop (mkF m 1 #[(vi p1), .unset] [(.int p1)])) t → Steps p.tables e below (s₁.setTop (entryFrame m #[(.int p1)] 2)) t := by
    intro t k
    refine pre0 t ?_
    show Steps p.tables e below (s₁.setTop (mkF m 0 #[(vi p1), .unset] [])) _
    refine XS.iloadN X0.here hx rfl (hb hby d23_0) rfl ?_
    exact k
  rcases Decidable.em ((0 : Int32) < p1) with hc2 | hc2
  · skip
    have pre3 : ∀ t, Steps p.tables e below (s₁.setTop (mkF m 22 #[(vi p1), (vi 31)] [(.int 65536), (.int p1)])) t → Steps p.tables e below (s₁.setTop (entryFrame m #[(.int p1)] 2)) t := by
      intro t k
      refine pre1 t ?_
      refine XS.ifYes X0.here hx rfl (pc0 := 1) (pc' := 15) rfl (hb hby d23_1) rfl ((if0 _ _).trans (tlt hc2).2.2.1) (by decide) (by decide) ?_
      refine XS.bipush X0.here hx rfl (hb hby d23_15) ?_
      refine XS.istoreN X0.here hx rfl (hb hby d23_17) rfl (l' := #[(vi p1), (vi 31)]) rfl ?_
      refine XS.iloadN X0.here hx rfl (hb hby d23_18) rfl ?_
      refine X0.ldcwInt hx hown (mvT hZ (ow hw 173 rfl)) (g := (mkF m 19 #[(vi p1), (vi 31)] [(.int p1)])) rfl (hb hby d23_19) _ ?_
      exact k
    obtain ⟨x1, hx1⟩ : ∃ z : Int32, z = (if p1 < (65536 : Int32) then p1 else ((p1.toUInt32 >>> ((16 : Int32) &&& 31).toUInt32).toInt32)) := ⟨_, rfl⟩
    obtain ⟨n1, hn1⟩ : ∃ z : Int32, z = (if p1 < (65536 : Int32) then (31 : Int32) else (15 : Int32)) := ⟨_, rfl⟩
    have pre5 : ∀ t, Steps p.tables e below (s₁.setTop (mkF m 33 #[(vi x1), (vi n1)] [])) t → Steps p.tables e below (s₁.setTop (entryFrame m #[(.int p1)] 2)) t := by
      intro t k
      rw [hx1] at k
      rw [hn1] at k
      refine pre3 t ?_
      show Steps p.tables e below (s₁.setTop (mkF m 22 #[(vi p1), (vi 31)] [(.int 65536), (.int p1)])) _
      rcases Decidable.em (p1 < (65536 : Int32)) with hm4 | hm4
      · first | simp only [if_pos hm4] at k | skip
        refine XS.icmpYes X0.here hx rfl (pc0 := 22) (pc' := 33) rfl (hb hby d23_22) rfl (tlt hm4).1 (by decide) (by decide) ?_
        exact k
      · first | simp only [if_neg hm4] at k | skip
        refine XS.icmpNo X0.here hx rfl (hb hby d23_22) rfl (flt hm4).1 ?_
        refine XS.iinc X0.here hx rfl (hb hby d23_25) rfl (l' := #[(vi p1), (vi 15)]) rfl ?_
        refine XS.iloadN X0.here hx rfl (hb hby d23_28) rfl ?_
        refine XS.bipush X0.here hx rfl (hb hby d23_29) ?_
        refine XS.iushr X0.here hx rfl (hb hby d23_31) rfl ?_
        refine XS.istoreN X0.here hx rfl (hb hby d23_32) rfl (l' := #[.val (.int ((p1.toUInt32 >>> ((16 : Int32) &&& 31).toUInt32).toInt32)), (vi 15)]) rfl ?_
        exact k
    have pre6 : ∀ t, Steps p.tables e below (s₁.setTop (mkF m 37 #[(vi x1), (vi n1)] [(.int 256), (.int x1)])) t → Steps p.tables e below (s₁.setTop (entryFrame m #[(.int p1)] 2)) t := by
      intro t k
      refine pre5 t ?_
      show Steps p.tables e below (s₁.setTop (mkF m 33 #[(vi x1), (vi n1)] [])) _
      refine XS.iloadN X0.here hx rfl (hb hby d23_33) rfl ?_
      refine XS.sipush X0.here hx rfl (hb hby d23_34) ?_
      exact k
    obtain ⟨x2, hx2⟩ : ∃ z : Int32, z = (if x1 < (256 : Int32) then x1 else ((x1.toUInt32 >>> ((8 : Int32) &&& 31).toUInt32).toInt32)) := ⟨_, rfl⟩
    obtain ⟨n2, hn2⟩ : ∃ z : Int32, z = (if x1 < (256 : Int32) then n1 else (n1 + (-8 : Int32))) := ⟨_, rfl⟩
    have pre8 : ∀ t, Steps p.tables e below (s₁.setTop (mkF m 48 #[(vi x2), (vi n2)] [])) t → Steps p.tables e below (s₁.setTop (entryFrame m #[(.int p1)] 2)) t := by
      intro t k
      rw [hx2] at k
      rw [hn2] at k
      refine pre6 t ?_
      show Steps p.tables e below (s₁.setTop (mkF m 37 #[(vi x1), (vi n1)] [(.int 256), (.int x1)])) _
      rcases Decidable.em (x1 < (256 : Int32)) with hm7 | hm7
      · first | simp only [if_pos hm7] at k | skip
        refine XS.icmpYes X0.here hx rfl (pc0 := 37) (pc' := 48) rfl (hb hby d23_37) rfl (tlt hm7).1 (by decide) (by decide) ?_
        exact k
      · first | simp only [if_neg hm7] at k | skip
        refine XS.icmpNo X0.here hx rfl (hb hby d23_37) rfl (flt hm7).1 ?_
        refine XS.iinc X0.here hx rfl (hb hby d23_40) rfl (l' := #[(vi x1), .val (.int (n1 + (-8 : Int32)))]) rfl ?_
        refine XS.iloadN X0.here hx rfl (hb hby d23_43) rfl ?_
        refine XS.bipush X0.here hx rfl (hb hby d23_44) ?_
        refine XS.iushr X0.here hx rfl (hb hby d23_46) rfl ?_
        refine XS.istoreN X0.here hx rfl (hb hby d23_47) rfl (l' := #[.val (.int ((x1.toUInt32 >>> ((8 : Int32) &&& 31).toUInt32).toInt32)), .val (.int (n1 + (-8 : Int32)))]) rfl ?_
        exact k
    have pre9 : ∀ t, Steps p.tables e below (s₁.setTop (mkF m 51 #[(vi x2), (vi n2)] [(.int 16), (.int x2)])) t → Steps p.tables e below (s₁.setTop (entryFrame m #[(.int p1)] 2)) t := by
      intro t k
      refine pre8 t ?_
      show Steps p.tables e below (s₁.setTop (mkF m 48 #[(vi x2), (vi n2)] [])) _
      refine XS.iloadN X0.here hx rfl (hb hby d23_48) rfl ?_
      refine XS.bipush X0.here hx rfl (hb hby d23_49) ?_
      exact k
    obtain ⟨x3, hx3⟩ : ∃ z : Int32, z = (if x2 < (16 : Int32) then x2 else ((x2.toUInt32 >>> ((4 : Int32) &&& 31).toUInt32).toInt32)) := ⟨_, rfl⟩
    obtain ⟨n3, hn3⟩ : ∃ z : Int32, z = (if x2 < (16 : Int32) then n2 else (n2 + (-4 : Int32))) := ⟨_, rfl⟩
    have pre11 : ∀ t, Steps p.tables e below (s₁.setTop (mkF m 61 #[(vi x3), (vi n3)] [])) t → Steps p.tables e below (s₁.setTop (entryFrame m #[(.int p1)] 2)) t := by
      intro t k
      rw [hx3] at k
      rw [hn3] at k
      refine pre9 t ?_
      show Steps p.tables e below (s₁.setTop (mkF m 51 #[(vi x2), (vi n2)] [(.int 16), (.int x2)])) _
      rcases Decidable.em (x2 < (16 : Int32)) with hm10 | hm10
      · first | simp only [if_pos hm10] at k | skip
        refine XS.icmpYes X0.here hx rfl (pc0 := 51) (pc' := 61) rfl (hb hby d23_51) rfl (tlt hm10).1 (by decide) (by decide) ?_
        exact k
      · first | simp only [if_neg hm10] at k | skip
        refine XS.icmpNo X0.here hx rfl (hb hby d23_51) rfl (flt hm10).1 ?_
        refine XS.iinc X0.here hx rfl (hb hby d23_54) rfl (l' := #[(vi x2), .val (.int (n2 + (-4 : Int32)))]) rfl ?_
        refine XS.iloadN X0.here hx rfl (hb hby d23_57) rfl ?_
        refine XS.iconst X0.here hx rfl (hb hby d23_58) ?_
        refine XS.iushr X0.here hx rfl (hb hby d23_59) rfl ?_
        refine XS.istoreN X0.here hx rfl (hb hby d23_60) rfl (l' := #[.val (.int ((x2.toUInt32 >>> ((4 : Int32) &&& 31).toUInt32).toInt32)), .val (.int (n2 + (-4 : Int32)))]) rfl ?_
        exact k
    have pre12 : ∀ t, Steps p.tables e below (s₁.setTop (mkF m 63 #[(vi x3), (vi n3)] [(.int 4), (.int x3)])) t → Steps p.tables e below (s₁.setTop (entryFrame m #[(.int p1)] 2)) t := by
      intro t k
      refine pre11 t ?_
      show Steps p.tables e below (s₁.setTop (mkF m 61 #[(vi x3), (vi n3)] [])) _
      refine XS.iloadN X0.here hx rfl (hb hby d23_61) rfl ?_
      refine XS.iconst X0.here hx rfl (hb hby d23_62) ?_
      exact k
    obtain ⟨x4, hx4⟩ : ∃ z : Int32, z = (if x3 < (4 : Int32) then x3 else ((x3.toUInt32 >>> ((2 : Int32) &&& 31).toUInt32).toInt32)) := ⟨_, rfl⟩
    obtain ⟨n4, hn4⟩ : ∃ z : Int32, z = (if x3 < (4 : Int32) then n3 else (n3 + (-2 : Int32))) := ⟨_, rfl⟩
    have pre14 : ∀ t, Steps p.tables e below (s₁.setTop (mkF m 73 #[(vi x4), (vi n4)] [])) t → Steps p.tables e below (s₁.setTop (entryFrame m #[(.int p1)] 2)) t := by
      intro t k
      rw [hx4] at k
      rw [hn4] at k
      refine pre12 t ?_
      show Steps p.tables e below (s₁.setTop (mkF m 63 #[(vi x3), (vi n3)] [(.int 4), (.int x3)])) _
      rcases Decidable.em (x3 < (4 : Int32)) with hm13 | hm13
      · first | simp only [if_pos hm13] at k | skip
        refine XS.icmpYes X0.here hx rfl (pc0 := 63) (pc' := 73) rfl (hb hby d23_63) rfl (tlt hm13).1 (by decide) (by decide) ?_
        exact k
      · first | simp only [if_neg hm13] at k | skip
        refine XS.icmpNo X0.here hx rfl (hb hby d23_63) rfl (flt hm13).1 ?_
        refine XS.iinc X0.here hx rfl (hb hby d23_66) rfl (l' := #[(vi x3), .val (.int (n3 + (-2 : Int32)))]) rfl ?_
        refine XS.iloadN X0.here hx rfl (hb hby d23_69) rfl ?_
        refine XS.iconst X0.here hx rfl (hb hby d23_70) ?_
        refine XS.iushr X0.here hx rfl (hb hby d23_71) rfl ?_
        refine XS.istoreN X0.here hx rfl (hb hby d23_72) rfl (l' := #[.val (.int ((x3.toUInt32 >>> ((2 : Int32) &&& 31).toUInt32).toInt32)), .val (.int (n3 + (-2 : Int32)))]) rfl ?_
        exact k
    obtain ⟨fs, hr, hrun, hended, hW, hsame⟩ := X0.leave (v := some (.int (n4 - ((x4.toUInt32 >>> ((1 : Int32) &&& 31).toUInt32).toInt32)))) (fun h => by rw [hret0] at h; cases h)
    refine ⟨_, _, pre14 _ ?_, hrun, hended, _, _, rfl, ?_, ⟨_, rfl⟩, hW, hsame.mono (by decide) (by decide)⟩
    · skip
      show Steps p.tables e below (s₁.setTop (mkF m 73 #[(vi x4), (vi n4)] [])) _
      refine XS.iloadN X0.here hx rfl (hb hby d23_73) rfl ?_
      refine XS.iloadN X0.here hx rfl (hb hby d23_74) rfl ?_
      refine XS.iconst X0.here hx rfl (hb hby d23_75) ?_
      refine XS.iushr X0.here hx rfl (hb hby d23_76) rfl ?_
      refine XS.isub X0.here hx rfl (hb hby d23_77) rfl ?_
      exact retI X0 hx hret0 (hb hby d23_78) hr
    · show Q_rmNlz32 Z wINTEGER wDOUBLE wBOOLEAN wDEFAULTCAPACITY_EMPTY_ELEMENTDATA kwDEFAULTCAPACITY_EMPTY_ELEMENTDATA p1 h0 n0 _ s₁.heap _
      rw [e0]
      exact ⟨(n4 - ((x4.toUInt32 >>> ((1 : Int32) &&& 31).toUInt32).toInt32)), rfl, N0, rfl, (by rw [hn4, hx4, hn3, hx3, hn2, hx2, hn1, hx1]; unfold nlz32; rw [if_pos hc2])⟩
  · skip
    have pre15 : ∀ t, Steps p.tables e below (s₁.setTop (mkF m 5 #[(vi p1), .unset] [(.int p1)])) t → Steps p.tables e below (s₁.setTop (entryFrame m #[(.int p1)] 2)) t := by
      intro t k
      refine pre1 t ?_
      refine XS.ifNo X0.here hx rfl (hb hby d23_1) rfl ((if0 _ _).trans (flt hc2).2.2.1) ?_
      refine XS.iloadN X0.here hx rfl (hb hby d23_4) rfl ?_
      exact k
    rcases Decidable.em (p1 = (0 : Int32)) with hc16 | hc16
    · skip
      obtain ⟨fs, hr, hrun, hended, hW, hsame⟩ := X0.leave (v := some (.int 32)) (fun h => by rw [hret0] at h; cases h)
      refine ⟨_, _, pre15 _ ?_, hrun, hended, _, _, rfl, ?_, ⟨_, rfl⟩, hW, hsame.mono (by decide) (by decide)⟩
      · skip
        refine XS.ifNo X0.here hx rfl (hb hby d23_5) rfl ((if0 _ _).trans (teq hc16).2) ?_
        refine XS.bipush X0.here hx rfl (hb hby d23_8) ?_
        refine XS.goto X0.here hx rfl (pc0 := 10) (pc' := 14) rfl (hb hby d23_10) (by decide) (by decide) ?_
        show Steps p.tables e below (s₁.setTop (mkF m 14 #[(vi p1), .unset] [(.int 32)])) _
        exact retI X0 hx hret0 (hb hby d23_14) hr
      · show Q_rmNlz32 Z wINTEGER wDOUBLE wBOOLEAN wDEFAULTCAPACITY_EMPTY_ELEMENTDATA kwDEFAULTCAPACITY_EMPTY_ELEMENTDATA p1 h0 n0 _ s₁.heap _
        rw [e0]
        exact ⟨(32 : Int32), rfl, N0, rfl, (by simp [nlz32, hc2, hc16])⟩
    · skip
      obtain ⟨fs, hr, hrun, hended, hW, hsame⟩ := X0.leave (v := some (.int 0)) (fun h => by rw [hret0] at h; cases h)
      refine ⟨_, _, pre15 _ ?_, hrun, hended, _, _, rfl, ?_, ⟨_, rfl⟩, hW, hsame.mono (by decide) (by decide)⟩
      · skip
        refine XS.ifYes X0.here hx rfl (pc0 := 5) (pc' := 13) rfl (hb hby d23_5) rfl ((if0 _ _).trans (feq hc16).2) (by decide) (by decide) ?_
        refine XS.iconst X0.here hx rfl (hb hby d23_13) ?_
        exact retI X0 hx hret0 (hb hby d23_14) hr
      · show Q_rmNlz32 Z wINTEGER wDOUBLE wBOOLEAN wDEFAULTCAPACITY_EMPTY_ELEMENTDATA kwDEFAULTCAPACITY_EMPTY_ELEMENTDATA p1 h0 n0 _ s₁.heap _
        rw [e0]
        exact ⟨(0 : Int32), rfl, N0, rfl, (by simp [nlz32, hc2, hc16])⟩
theorem ef_rmNlz64 (m : MethodId) (x0 : Int64)  : entryFrame m #[(.long x0)] 3 = mkF m 0 #[(vl x0), .second, .unset] [] := by first | (simp [entryFrame, mkF, argsToLocals, Value.category]; done) | rfl
theorem pn_java_lang_Long : plainName "java/lang/Long" = true := by first | (simp [plainName, overriddenIn]; done) | decide +kernel
theorem d22_0 : decode jdk_35_method_48_code 0 = .ok (.lload_n 0, 1) := by decide +kernel
theorem d22_1 : decode jdk_35_method_48_code 1 = .ok (.bipush 32, 2) := by decide +kernel
theorem d22_3 : decode jdk_35_method_48_code 3 = .ok (.lushr, 1) := by decide +kernel
theorem d22_4 : decode jdk_35_method_48_code 4 = .ok (.l2i, 1) := by decide +kernel
theorem d22_5 : decode jdk_35_method_48_code 5 = .ok (.istore_n 2, 1) := by decide +kernel
theorem d22_6 : decode jdk_35_method_48_code 6 = .ok (.iload_n 2, 1) := by decide +kernel
theorem d22_7 : decode jdk_35_method_48_code 7 = .ok (.ifCond .ne 14, 3) := by decide +kernel
theorem d22_10 : decode jdk_35_method_48_code 10 = .ok (.bipush 32, 2) := by decide +kernel
theorem d22_12 : decode jdk_35_method_48_code 12 = .ok (.lload_n 0, 1) := by decide +kernel
theorem d22_13 : decode jdk_35_method_48_code 13 = .ok (.l2i, 1) := by decide +kernel
theorem d22_14 : decode jdk_35_method_48_code 14 = .ok (.invokestatic 308, 3) := by decide +kernel
theorem pd_0 : parseMethodDescriptor "(I)I" = some ⟨[.int], some .int⟩ := by decide +kernel
theorem d22_17 : decode jdk_35_method_48_code 17 = .ok (.iadd, 1) := by decide +kernel
theorem d22_18 : decode jdk_35_method_48_code 18 = .ok (.goto 7, 3) := by decide +kernel
theorem d22_25 : decode jdk_35_method_48_code 25 = .ok (.ireturn, 1) := by decide +kernel
theorem d22_21 : decode jdk_35_method_48_code 21 = .ok (.iload_n 2, 1) := by decide +kernel
theorem d22_22 : decode jdk_35_method_48_code 22 = .ok (.invokestatic 308, 3) := by decide +kernel
def Q_rmNlz64 (Z : State) (wINTEGER : Addr) (wDOUBLE : Addr) (wBOOLEAN : Addr) (wDEFAULTCAPACITY_EMPTY_ELEMENTDATA : Addr) (kwDEFAULTCAPACITY_EMPTY_ELEMENTDATA : ClassId) (p1 : Int64) (h0 : Heap) (n0 : Nat) (v : Option Value) (h : Heap) (L : List Loc) : Prop := ∃ (r : Int32), v = some (.int r) ∧ Fr n0 L ∧ h = h0 ∧ r = nlz64 p1
theorem rmNlz64 (l : Launch) (Z : State) (a0 : Array Value) (hw : ∀ d ∈ tables_1, d.before a0 Z = true) (ws : List Jvm.Cond) (wINTEGER : Addr) (wDOUBLE : Addr) (wBOOLEAN : Addr) (wDEFAULTCAPACITY_EMPTY_ELEMENTDATA : Addr) (kwDEFAULTCAPACITY_EMPTY_ELEMENTDATA : ClassId) (hS : SS Z wINTEGER wDOUBLE wBOOLEAN wDEFAULTCAPACITY_EMPTY_ELEMENTDATA kwDEFAULTCAPACITY_EMPTY_ELEMENTDATA) (p1 : Int64) (h0 : Heap) (n0 : Nat) (O0 : Old Z n0 h0)  :
    MetB l M4 jdk_35_method_48_code 3 (some .int) ws (rmk 1 0 0 14) Z h0 #[(.long p1)] (Q_rmNlz64 Z wINTEGER wDOUBLE wBOOLEAN wDEFAULTCAPACITY_EMPTY_ELEMENTDATA kwDEFAULTCAPACITY_EMPTY_ELEMENTDATA p1 h0 n0) := by
  refine own_body (plainFor_of_name pn_java_lang_Long) ?_
  intro p e s m below meth c s₁ hx hby hml hown hnm hret0 hlk0 hZ X0 e0
  have N0 := Fr.nil n0
  have pre0 : ∀ t, Steps p.tables e below (s₁.setTop (mkF m 0 #[(vl p1), .second, .unset] [])) t → Steps p.tables e below (s₁.setTop (entryFrame m #[(.long p1)] 3)) t := fun t k => castTop (ef_rmNlz64 m p1) k
  have hS0 := hS
  obtain ⟨S_wINTEGER, E_wINTEGER, S_wDOUBLE, E_wDOUBLE, S_wBOOLEAN, E_wBOOLEAN, F_ordinal_wINTEGER, F_ordinal_wDOUBLE, F_ordinal_wBOOLEAN, S_wDEFAULTCAPACITY_EMPTY_ELEMENTDATA, E_wDEFAULTCAPACITY_EMPTY_ELEMENTDATA, V_wDEFAULTCAPACITY_EMPTY_ELEMENTDATA⟩ := hS0
  have pre1 : ∀ t, Steps p.tables e below (s₁.setTop (mkF m 7 #[(vl p1), .second, .val (.int (((p1.toUInt64 >>> ((32 : Int32) &&& 0x3f).toInt64.toUInt64).toInt64).toInt32))] [(.int (((p1.toUInt64 >>> ((32 : Int32) &&& 0x3f).toInt64.toUInt64).toInt64).toInt32))])) t → Steps p.tables e below (s₁.setTop (entryFrame m #[(.long p1)] 3)) t := by
    intro t k
    refine pre0 t ?_
    show Steps p.tables e below (s₁.setTop (mkF m 0 #[(vl p1), .second, .unset] [])) _
    refine XS.lloadN X0.here hx rfl (hb hby d22_0) rfl ?_
    refine XS.bipush X0.here hx rfl (hb hby d22_1) ?_
    refine XS.lushr X0.here hx rfl (hb hby d22_3) rfl ?_
    refine XS.l2i X0.here hx rfl (hb hby d22_4) rfl ?_
    refine XS.istoreN X0.here hx rfl (hb hby d22_5) rfl (l' := #[(vl p1), .second, .val (.int (((p1.toUInt64 >>> ((32 : Int32) &&& 0x3f).toInt64.toUInt64).toInt64).toInt32))]) rfl ?_
    refine XS.iloadN X0.here hx rfl (hb hby d22_6) rfl ?_
    show Steps p.tables e below (s₁.setTop (mkF m 7 #[(vl p1), .second, .val (.int (((p1.toUInt64 >>> ((32 : Int32) &&& 0x3f).toInt64.toUInt64).toInt64).toInt32))] [(.int (((p1.toUInt64 >>> ((32 : Int32) &&& 0x3f).toInt64.toUInt64).toInt64).toInt32))])) _
    exact k
  rcases Decidable.em ((((p1.toUInt64 >>> ((32 : Int32) &&& 0x3f).toInt64.toUInt64).toInt64).toInt32) = (0 : Int32)) with hc2 | hc2
  · skip
    obtain ⟨_, _, ⟨T3, L3, k3, n3⟩, -, X3, ⟨Lc3, hQ3, l3, y3, z3⟩, st3⟩ := Jvm.LawKit.callS X0 hx (y := M3) hown (mvT hZ (ow hw 169 rfl)) (mvT hZ (ow hw 170 rfl)) (mvT hZ (ow hw 171 rfl)) (mvT hZ (ow hw 172 rfl)) (by decide) (backOf (W := 1) (rmNlz32 l Z a0 hw [] wINTEGER wDOUBLE wBOOLEAN wDEFAULTCAPACITY_EMPTY_ELEMENTDATA kwDEFAULTCAPACITY_EMPTY_ELEMENTDATA hS (p1.toInt32) h0 n0 O0 ) hZ (ow hw 172 rfl) (ow hw 171 rfl) (by decide) (by decide)) (g := (mkF m 14 #[(vl p1), .second, .val (.int (((p1.toUInt64 >>> ((32 : Int32) &&& 0x3f).toInt64.toUInt64).toInt64).toInt32))] [(.int (p1.toInt32)), (.int 32)])) rfl (by rw [hml]; rfl) (argsL := [(.int (p1.toInt32))]) (rest := [(.int 32)]) (lenOf pd_0 rfl) rfl (by show 2 * 0 + _ ≤ _; exact Nat.le_of_eq rfl) (hb hby d22_14) (fun _ _ => ⟨rfl, e0, (by decide : 0 + 0 ≤ _), (by decide : 0 + 0 ≤ _)⟩)
    dsimp only [Pt.U, Pt.locs, Pt.cells, Pt.slots] at X3 l3 y3 z3 st3 hQ3
    subst y3 z3
    obtain ⟨r_3, rfl, Nq3, K3q, p3_0⟩ := hQ3
    have N3 : Fr n0 L3 := (congrArg (Fr n0) l3).mpr (Fr.app N0 Nq3)
    obtain ⟨fs, hr, hrun, hended, hW, hsame⟩ := X3.leave (v := some (.int ((32 : Int32) + r_3))) (fun h => by rw [hret0] at h; cases h)
    refine ⟨_, _, pre1 _ ?_, hrun, hended, _, _, rfl, ?_, ⟨_, rfl⟩, hW, hsame.mono (by decide) (by decide)⟩
    · skip
      refine XS.ifNo X0.here hx rfl (hb hby d22_7) rfl ((if0 _ _).trans (teq hc2).2) ?_
      refine XS.bipush X0.here hx rfl (hb hby d22_10) ?_
      refine XS.lloadN X0.here hx rfl (hb hby d22_12) rfl ?_
      refine XS.l2i X0.here hx rfl (hb hby d22_13) rfl ?_
      refine st3 _ ?_
      refine XS.iadd X3.here hx rfl (hb hby d22_17) rfl ?_
      show Steps p.tables e below (T3.setTop (mkF m 18 #[(vl p1), .second, .val (.int (((p1.toUInt64 >>> ((32 : Int32) &&& 0x3f).toInt64.toUInt64).toInt64).toInt32))] [(.int ((32 : Int32) + r_3))])) _
      refine XS.goto X3.here hx rfl (pc0 := 18) (pc' := 25) rfl (hb hby d22_18) (by decide) (by decide) ?_
      exact retI X3 hx hret0 (hb hby d22_25) hr
    · show Q_rmNlz64 Z wINTEGER wDOUBLE wBOOLEAN wDEFAULTCAPACITY_EMPTY_ELEMENTDATA kwDEFAULTCAPACITY_EMPTY_ELEMENTDATA p1 h0 n0 _ T3.heap _
      rw [K3q]
      exact ⟨((32 : Int32) + r_3), rfl, N3, rfl, (by unfold nlz64; rw [if_pos hc2, p3_0])⟩
  · skip
    obtain ⟨_, _, ⟨T4, L4, k4, n4⟩, -, X4, ⟨Lc4, hQ4, l4, y4, z4⟩, st4⟩ := Jvm.LawKit.callS X0 hx (y := M3) hown (mvT hZ (ow hw 169 rfl)) (mvT hZ (ow hw 170 rfl)) (mvT hZ (ow hw 171 rfl)) (mvT hZ (ow hw 172 rfl)) (by decide) (backOf (W := 0) (rmNlz32 l Z a0 hw [] wINTEGER wDOUBLE wBOOLEAN wDEFAULTCAPACITY_EMPTY_ELEMENTDATA kwDEFAULTCAPACITY_EMPTY_ELEMENTDATA hS (((p1.toUInt64 >>> ((32 : Int32) &&& 0x3f).toInt64.toUInt64).toInt64).toInt32) h0 n0 O0 ) hZ (ow hw 172 rfl) (ow hw 171 rfl) (by decide) (by decide)) (g := (mkF m 22 #[(vl p1), .second, .val (.int (((p1.toUInt64 >>> ((32 : Int32) &&& 0x3f).toInt64.toUInt64).toInt64).toInt32))] [(.int (((p1.toUInt64 >>> ((32 : Int32) &&& 0x3f).toInt64.toUInt64).toInt64).toInt32))])) rfl (by rw [hml]; rfl) (argsL := [(.int (((p1.toUInt64 >>> ((32 : Int32) &&& 0x3f).toInt64.toUInt64).toInt64).toInt32))]) (rest := []) (lenOf pd_0 rfl) rfl (by show 2 * 0 + _ ≤ _; exact Nat.le_of_eq rfl) (hb hby d22_22) (fun _ _ => ⟨rfl, e0, (by decide : 0 + 0 ≤ _), (by decide : 0 + 0 ≤ _)⟩)
    dsimp only [Pt.U, Pt.locs, Pt.cells, Pt.slots] at X4 l4 y4 z4 st4 hQ4
    subst y4 z4
    obtain ⟨r_4, rfl, Nq4, K4q, p4_0⟩ := hQ4
    have N4 : Fr n0 L4 := (congrArg (Fr n0) l4).mpr (Fr.app N0 Nq4)
    obtain ⟨fs, hr, hrun, hended, hW, hsame⟩ := X4.leave (v := some (.int r_4)) (fun h => by rw [hret0] at h; cases h)
    refine ⟨_, _, pre1 _ ?_, hrun, hended, _, _, rfl, ?_, ⟨_, rfl⟩, hW, hsame.mono (by decide) (by decide)⟩
    · skip
      refine XS.ifYes X0.here hx rfl (pc0 := 7) (pc' := 21) rfl (hb hby d22_7) rfl ((if0 _ _).trans (feq hc2).2) (by decide) (by decide) ?_
      refine XS.iloadN X0.here hx rfl (hb hby d22_21) rfl ?_
      refine st4 _ ?_
      exact retI X4 hx hret0 (hb hby d22_25) hr
    · show Q_rmNlz64 Z wINTEGER wDOUBLE wBOOLEAN wDEFAULTCAPACITY_EMPTY_ELEMENTDATA kwDEFAULTCAPACITY_EMPTY_ELEMENTDATA p1 h0 n0 _ T4.heap _
      rw [K4q]
      exact ⟨r_4, rfl, N4, rfl, (by unfold nlz64; rw [if_neg hc2, p4_0])⟩
theorem ef_rm0 (m : MethodId) (x0 : Int64) (x1 : Int64) (x2 : Int32) (x3 : Int32) (x4 : Int32) (x5 : Int32)  : entryFrame m #[(.long x0), (.long x1), (.int x2), (.int x3), (.int x4), (.int x5)] maxLocals = mkF m 0 #[(vl x0), .second, (vl x1), .second, (vi x2), (vi x3), (vi x4), (vi x5), .unset, .unset, .unset, .unset, .unset, .unset, .unset, .unset, .unset, .unset, .unset, .unset, .unset, .unset, .unset, .unset, .unset, .unset, .unset, .unset, .unset, .unset, .unset, .unset, .unset, .unset, .unset, .unset, .unset, .unset, .unset, .unset] [] := by first | (simp [entryFrame, mkF, argsToLocals, Value.category, maxLocals]; done) | rfl
theorem pd_1 : parseMethodDescriptor "(I)J" = some ⟨[.int], some .long⟩ := by decide +kernel
theorem pd_2 : parseMethodDescriptor "(JJ)J" = some ⟨[.long, .long], some .long⟩ := by decide +kernel
theorem ef_au3_0 (m : MethodId) (x0 : Addr)  : entryFrame m #[(.ref x0)] 1 = mkF m 0 #[(vr x0)] [] := by first | (simp [entryFrame, mkF, argsToLocals, Value.category]; done) | rfl
theorem pn_java_util_ArrayList : plainName "java/util/ArrayList" = true := by first | (simp [plainName, overriddenIn]; done) | decide +kernel
theorem d3_0 : decode jdk_38_method_2_code 0 = .ok (.aload_n 0, 1) := by decide +kernel
theorem d3_1 : decode jdk_38_method_2_code 1 = .ok (.invokespecial 1, 3) := by decide +kernel
theorem ef_au4_0 (m : MethodId) (x0 : Addr)  : entryFrame m #[(.ref x0)] 1 = mkF m 0 #[(vr x0)] [] := by first | (simp [entryFrame, mkF, argsToLocals, Value.category]; done) | rfl
theorem pn_java_util_AbstractList : plainName "java/util/AbstractList" = true := by first | (simp [plainName, overriddenIn]; done) | decide +kernel
theorem d4_0 : decode jdk_39_method_1_code 0 = .ok (.aload_n 0, 1) := by decide +kernel
theorem d4_1 : decode jdk_39_method_1_code 1 = .ok (.invokespecial 1, 3) := by decide +kernel
theorem ef_au5_0 (m : MethodId) (x0 : Addr)  : entryFrame m #[(.ref x0)] 1 = mkF m 0 #[(vr x0)] [] := by first | (simp [entryFrame, mkF, argsToLocals, Value.category]; done) | rfl
theorem pn_java_util_AbstractCollection : plainName "java/util/AbstractCollection" = true := by first | (simp [plainName, overriddenIn]; done) | decide +kernel
theorem d5_0 : decode jdk_22_method_1_code 0 = .ok (.aload_n 0, 1) := by decide +kernel
theorem d5_1 : decode jdk_22_method_1_code 1 = .ok (.invokespecial 1, 3) := by decide +kernel
theorem d5_4 : decode jdk_22_method_1_code 4 = .ok (.return_, 1) := by decide +kernel
def Q_au5_0 (Z : State) (wINTEGER : Addr) (wDOUBLE : Addr) (wBOOLEAN : Addr) (wDEFAULTCAPACITY_EMPTY_ELEMENTDATA : Addr) (kwDEFAULTCAPACITY_EMPTY_ELEMENTDATA : ClassId) (pa1 : Addr) (h0 : Heap) (n0 : Nat) (v : Option Value) (h : Heap) (L : List Loc) : Prop := v = none ∧ Fr n0 L ∧ h = h0
theorem au5_0 (l : Launch) (Z : State) (a0 : Array Value) (hw : ∀ d ∈ tables_1, d.before a0 Z = true) (ws : List Jvm.Cond) (wINTEGER : Addr) (wDOUBLE : Addr) (wBOOLEAN : Addr) (wDEFAULTCAPACITY_EMPTY_ELEMENTDATA : Addr) (kwDEFAULTCAPACITY_EMPTY_ELEMENTDATA : ClassId) (hS : SS Z wINTEGER wDOUBLE wBOOLEAN wDEFAULTCAPACITY_EMPTY_ELEMENTDATA kwDEFAULTCAPACITY_EMPTY_ELEMENTDATA) (pa1 : Addr) (h0 : Heap) (n0 : Nat) (O0 : Old Z n0 h0)  :
    MetB l M5 jdk_22_method_1_code 1 none ws (rmk 1 0 0 12) Z h0 #[(.ref pa1)] (Q_au5_0 Z wINTEGER wDOUBLE wBOOLEAN wDEFAULTCAPACITY_EMPTY_ELEMENTDATA kwDEFAULTCAPACITY_EMPTY_ELEMENTDATA pa1 h0 n0) := by
  refine own_body (plainFor_of_name pn_java_util_AbstractCollection) ?_
  intro p e s m below meth c s₁ hx hby hml hown hnm hret0 hlk0 hZ X0 e0
  have N0 := Fr.nil n0
  have pre0 : ∀ t, Steps p.tables e below (s₁.setTop (mkF m 0 #[(vr pa1)] [])) t → Steps p.tables e below (s₁.setTop (entryFrame m #[(.ref pa1)] 1)) t := fun t k => castTop (ef_au5_0 m pa1) k
  have hS0 := hS
  obtain ⟨S_wINTEGER, E_wINTEGER, S_wDOUBLE, E_wDOUBLE, S_wBOOLEAN, E_wBOOLEAN, F_ordinal_wINTEGER, F_ordinal_wDOUBLE, F_ordinal_wBOOLEAN, S_wDEFAULTCAPACITY_EMPTY_ELEMENTDATA, E_wDEFAULTCAPACITY_EMPTY_ELEMENTDATA, V_wDEFAULTCAPACITY_EMPTY_ELEMENTDATA⟩ := hS0
  obtain ⟨T1, X1, e1, st1⟩ := initO X0 hx hZ hown (ow hw 28 rfl) (ow hw 29 rfl) (ow hw 30 rfl) e0 (g := (mkF m 1 #[(vr pa1)] [(.ref pa1)])) rfl (by rw [hml]; rfl) rfl (hb hby d5_1) (by decide) (W := 0) (by show 2 * 0 + _ ≤ _; exact Nat.le_of_eq rfl) (by decide)
  obtain ⟨fs, hr, hrun, hended, hW, hsame⟩ := X1.leave (v := none) (fun _ => rfl)
  refine ⟨_, _, pre0 _ ?_, hrun, hended, _, _, rfl, ?_, ⟨_, rfl⟩, hW, hsame.mono (by decide) (by decide)⟩
  · skip
    show Steps p.tables e below (s₁.setTop (mkF m 0 #[(vr pa1)] [])) _
    refine XS.aloadN X0.here hx rfl (hb hby d5_0) rfl rfl ?_
    refine st1 _ ?_
    exact X1.returnOut hx hret0 (hb hby d5_4) hr
  · show Q_au5_0 Z wINTEGER wDOUBLE wBOOLEAN wDEFAULTCAPACITY_EMPTY_ELEMENTDATA kwDEFAULTCAPACITY_EMPTY_ELEMENTDATA pa1 h0 n0 _ T1.heap _
    rw [e1]
    exact ⟨rfl, N0, rfl⟩
theorem pd_3 : parseMethodDescriptor "()V" = some ⟨[], none⟩ := by decide +kernel
theorem d4_4 : decode jdk_39_method_1_code 4 = .ok (.aload_n 0, 1) := by decide +kernel
theorem d4_5 : decode jdk_39_method_1_code 5 = .ok (.iconst 0, 1) := by decide +kernel
theorem d4_6 : decode jdk_39_method_1_code 6 = .ok (.putfield 7, 3) := by decide +kernel
theorem d4_9 : decode jdk_39_method_1_code 9 = .ok (.return_, 1) := by decide +kernel
def Q_au4_0 (Z : State) (wINTEGER : Addr) (wDOUBLE : Addr) (wBOOLEAN : Addr) (wDEFAULTCAPACITY_EMPTY_ELEMENTDATA : Addr) (kwDEFAULTCAPACITY_EMPTY_ELEMENTDATA : ClassId) (pa1 : Addr) (h0 : Heap) (n0 : Nat) (v : Option Value) (h : Heap) (L : List Loc) : Prop := v = none ∧ Fr n0 L ∧ Keep h0 h [pa1] ∧ Exa Z h pa1 s2n ∧ Fld Z h pa1 s5n "modCount" "I" (.int 0) ∧ Fld Z h pa1 s2n "elementData" s3n .null ∧ Fld Z h pa1 s2n "size" "I" (.int 0)
theorem au4_0 (l : Launch) (Z : State) (a0 : Array Value) (hw : ∀ d ∈ tables_1, d.before a0 Z = true) (ws : List Jvm.Cond) (wINTEGER : Addr) (wDOUBLE : Addr) (wBOOLEAN : Addr) (wDEFAULTCAPACITY_EMPTY_ELEMENTDATA : Addr) (kwDEFAULTCAPACITY_EMPTY_ELEMENTDATA : ClassId) (hS : SS Z wINTEGER wDOUBLE wBOOLEAN wDEFAULTCAPACITY_EMPTY_ELEMENTDATA kwDEFAULTCAPACITY_EMPTY_ELEMENTDATA) (pa1 : Addr) (h0 : Heap) (n0 : Nat) (O0 : Old Z n0 h0) (P0 : Exa Z h0 pa1 s2n) (P1 : Fld Z h0 pa1 s5n "modCount" "I" (.int 0)) (P2 : Fld Z h0 pa1 s2n "elementData" s3n .null) (P3 : Fld Z h0 pa1 s2n "size" "I" (.int 0)) (P4 : n0 ≤ pa1) :
    MetB l M6 jdk_39_method_1_code 1 none ws (rmk 2 0 0 24) Z h0 #[(.ref pa1)] (Q_au4_0 Z wINTEGER wDOUBLE wBOOLEAN wDEFAULTCAPACITY_EMPTY_ELEMENTDATA kwDEFAULTCAPACITY_EMPTY_ELEMENTDATA pa1 h0 n0) := by
  refine own_body (plainFor_of_name pn_java_util_AbstractList) ?_
  intro p e s m below meth c s₁ hx hby hml hown hnm hret0 hlk0 hZ X0 e0
  have N0 := Fr.nil n0
  have pre0 : ∀ t, Steps p.tables e below (s₁.setTop (mkF m 0 #[(vr pa1)] [])) t → Steps p.tables e below (s₁.setTop (entryFrame m #[(.ref pa1)] 1)) t := fun t k => castTop (ef_au4_0 m pa1) k
  have K0 := Keep.refl h0 [pa1]
  have hS0 := hS
  obtain ⟨S_wINTEGER, E_wINTEGER, S_wDOUBLE, E_wDOUBLE, S_wBOOLEAN, E_wBOOLEAN, F_ordinal_wINTEGER, F_ordinal_wDOUBLE, F_ordinal_wBOOLEAN, S_wDEFAULTCAPACITY_EMPTY_ELEMENTDATA, E_wDEFAULTCAPACITY_EMPTY_ELEMENTDATA, V_wDEFAULTCAPACITY_EMPTY_ELEMENTDATA⟩ := hS0
  obtain ⟨_, _, ⟨T1, L1, k1, n1⟩, -, X1, ⟨Lc1, hQ1, l1, y1, z1⟩, st1⟩ := X0.specialBack hx (y := M5) rfl hown (mvT hZ (ow hw 22 rfl)) (mvT hZ (ow hw 23 rfl)) (mvT hZ (ow hw 27 rfl)) (by decide) (backOf (W := 0) (au5_0 l Z a0 hw [] wINTEGER wDOUBLE wBOOLEAN wDEFAULTCAPACITY_EMPTY_ELEMENTDATA kwDEFAULTCAPACITY_EMPTY_ELEMENTDATA hS pa1 h0 n0 O0 ) hZ (ow hw 27 rfl) (ow hw 26 rfl) (by decide) (by decide)) (g := (mkF m 1 #[(vr pa1)] [(.ref pa1)])) rfl (by rw [hml]; rfl) (Steps.refl _) (a := pa1) (argsL := []) (rest := []) (lenOf pd_3 rfl) rfl (by show 2 * 0 + _ ≤ _; exact Nat.le_of_eq rfl) (hb hby d4_1) (fun _ _ => ⟨rfl, e0, (by decide : 0 + 0 ≤ _), (by decide : 0 + 0 ≤ _)⟩)
  dsimp only [Pt.U, Pt.locs, Pt.cells, Pt.slots] at X1 l1 y1 z1 st1 hQ1
  subst y1 z1
  obtain ⟨rfl, Nq1, K1q⟩ := hQ1
  have N1 : Fr n0 L1 := (congrArg (Fr n0) l1).mpr (Fr.app N0 Nq1)
  obtain ⟨T2, h2, X2, e2, W2, st2⟩ := putF X1 hx hZ hown (host := "") (Or.inl (ow hw 31 rfl)) Via.refl K1q P1 P0 (Or.inl (ow hw 32 rfl)) (ow hw 11 rfl) (ty := .int) (by decide) rfl rfl (g := (mkF m 6 #[(vr pa1)] [(.int 0), (.ref pa1)])) rfl rfl (hb hby d4_6)
  have N2 := Fr.snoc X2 N1 P4
  have O3 : Old Z n0 h2 := O0.wr W2 P4
  have K3 : Keep h0 h2 [pa1] := K0.wr W2 (Or.inl (List.mem_of_getElem? (i := 0) rfl))
  have Fw2 : Fld Z h2 pa1 s5n "modCount" "I" (.int 0) := P1.same W2
  have f4 : Exa Z h2 pa1 s2n := (P0.wr W2)
  have f5 : Fld Z h2 pa1 s2n "elementData" s3n .null := (P2.other W2 (Or.inr (slot_ne (Or.inl (ow hw 35 rfl)) (Or.inl (ow hw 32 rfl)) (by decide) (t := (.array (.object s4n))) (t' := .int) (by decide) (by decide))))
  have f6 : Fld Z h2 pa1 s2n "size" "I" (.int 0) := (P3.other W2 (Or.inr (slot_ne (Or.inl (ow hw 83 rfl)) (Or.inl (ow hw 32 rfl)) (by decide) (t := .int) (t' := .int) (by decide) (by decide))))
  obtain ⟨fs, hr, hrun, hended, hW, hsame⟩ := X2.leave (v := none) (fun _ => rfl)
  refine ⟨_, _, pre0 _ ?_, hrun, hended, _, _, rfl, ?_, ⟨_, rfl⟩, hW, hsame.mono (by decide) (by decide)⟩
  · skip
    show Steps p.tables e below (s₁.setTop (mkF m 0 #[(vr pa1)] [])) _
    refine XS.aloadN X0.here hx rfl (hb hby d4_0) rfl rfl ?_
    refine st1.trans ?_
    refine XS.aloadN X1.here hx rfl (hb hby d4_4) rfl rfl ?_
    refine XS.iconst X1.here hx rfl (hb hby d4_5) ?_
    refine st2 _ ?_
    exact X2.returnOut hx hret0 (hb hby d4_9) hr
  · show Q_au4_0 Z wINTEGER wDOUBLE wBOOLEAN wDEFAULTCAPACITY_EMPTY_ELEMENTDATA kwDEFAULTCAPACITY_EMPTY_ELEMENTDATA pa1 h0 n0 _ T2.heap _
    rw [e2]
    exact ⟨rfl, N2, K3, f4, Fw2, f5, f6⟩
theorem d3_4 : decode jdk_38_method_2_code 4 = .ok (.aload_n 0, 1) := by decide +kernel
theorem d3_5 : decode jdk_38_method_2_code 5 = .ok (.getstatic 39, 3) := by decide +kernel
theorem d3_8 : decode jdk_38_method_2_code 8 = .ok (.putfield 9, 3) := by decide +kernel
theorem d3_11 : decode jdk_38_method_2_code 11 = .ok (.return_, 1) := by decide +kernel
def Q_au3_0 (Z : State) (wINTEGER : Addr) (wDOUBLE : Addr) (wBOOLEAN : Addr) (wDEFAULTCAPACITY_EMPTY_ELEMENTDATA : Addr) (kwDEFAULTCAPACITY_EMPTY_ELEMENTDATA : ClassId) (pa1 : Addr) (h0 : Heap) (n0 : Nat) (v : Option Value) (h : Heap) (L : List Loc) : Prop := v = none ∧ Fr n0 L ∧ Keep h0 h [pa1] ∧ Exa Z h pa1 s2n ∧ Fld Z h pa1 s5n "modCount" "I" (.int 0) ∧ Fld Z h pa1 s2n "elementData" s3n (.ref wDEFAULTCAPACITY_EMPTY_ELEMENTDATA) ∧ Fld Z h pa1 s2n "size" "I" (.int 0)
theorem au3_0 (l : Launch) (Z : State) (a0 : Array Value) (hw : ∀ d ∈ tables_1, d.before a0 Z = true) (ws : List Jvm.Cond) (wINTEGER : Addr) (wDOUBLE : Addr) (wBOOLEAN : Addr) (wDEFAULTCAPACITY_EMPTY_ELEMENTDATA : Addr) (kwDEFAULTCAPACITY_EMPTY_ELEMENTDATA : ClassId) (hS : SS Z wINTEGER wDOUBLE wBOOLEAN wDEFAULTCAPACITY_EMPTY_ELEMENTDATA kwDEFAULTCAPACITY_EMPTY_ELEMENTDATA) (pa1 : Addr) (h0 : Heap) (n0 : Nat) (O0 : Old Z n0 h0) (P0 : Exa Z h0 pa1 s2n) (P1 : Fld Z h0 pa1 s5n "modCount" "I" (.int 0)) (P2 : Fld Z h0 pa1 s2n "elementData" s3n .null) (P3 : Fld Z h0 pa1 s2n "size" "I" (.int 0)) (P4 : n0 ≤ pa1) :
    MetB l M7 jdk_38_method_2_code 1 none ws (rmk 3 0 0 36) Z h0 #[(.ref pa1)] (Q_au3_0 Z wINTEGER wDOUBLE wBOOLEAN wDEFAULTCAPACITY_EMPTY_ELEMENTDATA kwDEFAULTCAPACITY_EMPTY_ELEMENTDATA pa1 h0 n0) := by
  refine own_body (plainFor_of_name pn_java_util_ArrayList) ?_
  intro p e s m below meth c s₁ hx hby hml hown hnm hret0 hlk0 hZ X0 e0
  have N0 := Fr.nil n0
  have pre0 : ∀ t, Steps p.tables e below (s₁.setTop (mkF m 0 #[(vr pa1)] [])) t → Steps p.tables e below (s₁.setTop (entryFrame m #[(.ref pa1)] 1)) t := fun t k => castTop (ef_au3_0 m pa1) k
  have K0 := Keep.refl h0 [pa1]
  have hS0 := hS
  obtain ⟨S_wINTEGER, E_wINTEGER, S_wDOUBLE, E_wDOUBLE, S_wBOOLEAN, E_wBOOLEAN, F_ordinal_wINTEGER, F_ordinal_wDOUBLE, F_ordinal_wBOOLEAN, S_wDEFAULTCAPACITY_EMPTY_ELEMENTDATA, E_wDEFAULTCAPACITY_EMPTY_ELEMENTDATA, V_wDEFAULTCAPACITY_EMPTY_ELEMENTDATA⟩ := hS0
  obtain ⟨_, _, ⟨T1, L1, k1, n1⟩, -, X1, ⟨Lc1, hQ1, l1, y1, z1⟩, st1⟩ := X0.specialBack hx (y := M6) rfl hown (mvT hZ (ow hw 16 rfl)) (mvT hZ (ow hw 17 rfl)) (mvT hZ (ow hw 21 rfl)) (by decide) (backOf (W := 0) (au4_0 l Z a0 hw [] wINTEGER wDOUBLE wBOOLEAN wDEFAULTCAPACITY_EMPTY_ELEMENTDATA kwDEFAULTCAPACITY_EMPTY_ELEMENTDATA hS pa1 h0 n0 O0 P0 P1 P2 P3 P4) hZ (ow hw 21 rfl) (ow hw 20 rfl) (by decide) (by decide)) (g := (mkF m 1 #[(vr pa1)] [(.ref pa1)])) rfl (by rw [hml]; rfl) (Steps.refl _) (a := pa1) (argsL := []) (rest := []) (lenOf pd_3 rfl) rfl (by show 2 * 0 + _ ≤ _; exact Nat.le_of_eq rfl) (hb hby d3_1) (fun _ _ => ⟨rfl, e0, (by decide : 0 + 0 ≤ _), (by decide : 0 + 0 ≤ _)⟩)
  dsimp only [Pt.U, Pt.locs, Pt.cells, Pt.slots] at X1 l1 y1 z1 st1 hQ1
  subst y1 z1
  obtain ⟨rfl, Nq1, K1q, p1_0, p1_1, p1_2, p1_3⟩ := hQ1
  have N1 : Fr n0 L1 := (congrArg (Fr n0) l1).mpr (Fr.app N0 Nq1)
  have O2 : Old Z n0 T1.heap := O0.keep K1q (allS P4 all0)
  have K2 : Keep h0 T1.heap [pa1] := K0.trans K1q (allS (Or.inl (List.mem_of_getElem? (i := 0) rfl)) all0)
  obtain ⟨T3, X3, e3, st3⟩ := getS2 X1 hx hZ hown (host := "") (Or.inl (ow hw 33 rfl)) Via.refl rfl (S_wDEFAULTCAPACITY_EMPTY_ELEMENTDATA.ext O2.2) (g := (mkF m 5 #[(vr pa1)] [(.ref pa1)])) rfl (hb hby d3_5)
  obtain ⟨T4, h4, X4, e4, W4, st4⟩ := putF X3 hx hZ hown (host := "") (Or.inl (ow hw 34 rfl)) Via.refl e3 p1_2 p1_0 (Or.inl (ow hw 35 rfl)) (ow hw 11 rfl) (ty := (.array (.object s4n))) (by decide) rfl rfl (g := (mkF m 8 #[(vr pa1)] [(.ref wDEFAULTCAPACITY_EMPTY_ELEMENTDATA), (.ref pa1)])) rfl rfl (hb hby d3_8)
  have N4 := Fr.snoc X4 N1 P4
  have O5 : Old Z n0 h4 := O2.wr W4 P4
  have K5 : Keep h0 h4 [pa1] := K2.wr W4 (Or.inl (List.mem_of_getElem? (i := 0) rfl))
  have Fw4 : Fld Z h4 pa1 s2n "elementData" s3n (.ref wDEFAULTCAPACITY_EMPTY_ELEMENTDATA) := p1_2.same W4
  have f6 : Exa Z h4 pa1 s2n := (p1_0.wr W4)
  have f7 : Fld Z h4 pa1 s5n "modCount" "I" (.int 0) := (p1_1.other W4 (Or.inr (slot_ne (Or.inl (ow hw 32 rfl)) (Or.inl (ow hw 35 rfl)) (by decide) (t := .int) (t' := (.array (.object s4n))) (by decide) (by decide))))
  have f8 : Fld Z h4 pa1 s2n "size" "I" (.int 0) := (p1_3.other W4 (Or.inr (slot_ne (Or.inl (ow hw 83 rfl)) (Or.inl (ow hw 35 rfl)) (by decide) (t := .int) (t' := (.array (.object s4n))) (by decide) (by decide))))
  obtain ⟨fs, hr, hrun, hended, hW, hsame⟩ := X4.leave (v := none) (fun _ => rfl)
  refine ⟨_, _, pre0 _ ?_, hrun, hended, _, _, rfl, ?_, ⟨_, rfl⟩, hW, hsame.mono (by decide) (by decide)⟩
  · skip
    show Steps p.tables e below (s₁.setTop (mkF m 0 #[(vr pa1)] [])) _
    refine XS.aloadN X0.here hx rfl (hb hby d3_0) rfl rfl ?_
    refine st1.trans ?_
    refine XS.aloadN X1.here hx rfl (hb hby d3_4) rfl rfl ?_
    refine st3 _ ?_
    refine st4 _ ?_
    exact X4.returnOut hx hret0 (hb hby d3_11) hr
  · show Q_au3_0 Z wINTEGER wDOUBLE wBOOLEAN wDEFAULTCAPACITY_EMPTY_ELEMENTDATA kwDEFAULTCAPACITY_EMPTY_ELEMENTDATA pa1 h0 n0 _ T4.heap _
    rw [e4]
    exact ⟨rfl, N4, K5, f6, f7, Fw4, f8⟩
theorem ef_au7_0 (m : MethodId) (x0 : Addr) (x1 : Addr) (x2 : Addr) (x3 : Int32) (x4 : Int32)  : entryFrame m #[(.ref x0), (.ref x1), (.ref x2), (.int x3), (.int x4)] 5 = mkF m 0 #[(vr x0), (vr x1), (vr x2), (vi x3), (vi x4)] [] := by first | (simp [entryFrame, mkF, argsToLocals, Value.category]; done) | rfl
theorem pn_com_example_lanc_lanc_model_StateValuations_Variable : plainName "com/example/lanc/lanc/model/StateValuations$Variable" = true := by first | (simp [plainName, overriddenIn]; done) | decide +kernel
theorem d7_0 : decode prog_104_method_1_code 0 = .ok (.aload_n 0, 1) := by decide +kernel
theorem d7_1 : decode prog_104_method_1_code 1 = .ok (.invokespecial 1, 3) := by decide +kernel
theorem ef_au8_0 (m : MethodId) (x0 : Addr)  : entryFrame m #[(.ref x0)] 1 = mkF m 0 #[(vr x0)] [] := by first | (simp [entryFrame, mkF, argsToLocals, Value.category]; done) | rfl
theorem pn_java_lang_Record : plainName "java/lang/Record" = true := by first | (simp [plainName, overriddenIn]; done) | decide +kernel
theorem d8_0 : decode jdk_30_method_1_code 0 = .ok (.aload_n 0, 1) := by decide +kernel
theorem d8_1 : decode jdk_30_method_1_code 1 = .ok (.invokespecial 1, 3) := by decide +kernel
theorem d8_4 : decode jdk_30_method_1_code 4 = .ok (.return_, 1) := by decide +kernel
def Q_au8_0 (Z : State) (wINTEGER : Addr) (wDOUBLE : Addr) (wBOOLEAN : Addr) (wDEFAULTCAPACITY_EMPTY_ELEMENTDATA : Addr) (kwDEFAULTCAPACITY_EMPTY_ELEMENTDATA : ClassId) (pa1 : Addr) (h0 : Heap) (n0 : Nat) (v : Option Value) (h : Heap) (L : List Loc) : Prop := v = none ∧ Fr n0 L ∧ h = h0
theorem au8_0 (l : Launch) (Z : State) (a0 : Array Value) (hw : ∀ d ∈ tables_1, d.before a0 Z = true) (ws : List Jvm.Cond) (wINTEGER : Addr) (wDOUBLE : Addr) (wBOOLEAN : Addr) (wDEFAULTCAPACITY_EMPTY_ELEMENTDATA : Addr) (kwDEFAULTCAPACITY_EMPTY_ELEMENTDATA : ClassId) (hS : SS Z wINTEGER wDOUBLE wBOOLEAN wDEFAULTCAPACITY_EMPTY_ELEMENTDATA kwDEFAULTCAPACITY_EMPTY_ELEMENTDATA) (pa1 : Addr) (h0 : Heap) (n0 : Nat) (O0 : Old Z n0 h0)  :
    MetB l M8 jdk_30_method_1_code 1 none ws (rmk 1 0 0 12) Z h0 #[(.ref pa1)] (Q_au8_0 Z wINTEGER wDOUBLE wBOOLEAN wDEFAULTCAPACITY_EMPTY_ELEMENTDATA kwDEFAULTCAPACITY_EMPTY_ELEMENTDATA pa1 h0 n0) := by
  refine own_body (plainFor_of_name pn_java_lang_Record) ?_
  intro p e s m below meth c s₁ hx hby hml hown hnm hret0 hlk0 hZ X0 e0
  have N0 := Fr.nil n0
  have pre0 : ∀ t, Steps p.tables e below (s₁.setTop (mkF m 0 #[(vr pa1)] [])) t → Steps p.tables e below (s₁.setTop (entryFrame m #[(.ref pa1)] 1)) t := fun t k => castTop (ef_au8_0 m pa1) k
  have hS0 := hS
  obtain ⟨S_wINTEGER, E_wINTEGER, S_wDOUBLE, E_wDOUBLE, S_wBOOLEAN, E_wBOOLEAN, F_ordinal_wINTEGER, F_ordinal_wDOUBLE, F_ordinal_wBOOLEAN, S_wDEFAULTCAPACITY_EMPTY_ELEMENTDATA, E_wDEFAULTCAPACITY_EMPTY_ELEMENTDATA, V_wDEFAULTCAPACITY_EMPTY_ELEMENTDATA⟩ := hS0
  obtain ⟨T1, X1, e1, st1⟩ := initO X0 hx hZ hown (ow hw 58 rfl) (ow hw 29 rfl) (ow hw 30 rfl) e0 (g := (mkF m 1 #[(vr pa1)] [(.ref pa1)])) rfl (by rw [hml]; rfl) rfl (hb hby d8_1) (by decide) (W := 0) (by show 2 * 0 + _ ≤ _; exact Nat.le_of_eq rfl) (by decide)
  obtain ⟨fs, hr, hrun, hended, hW, hsame⟩ := X1.leave (v := none) (fun _ => rfl)
  refine ⟨_, _, pre0 _ ?_, hrun, hended, _, _, rfl, ?_, ⟨_, rfl⟩, hW, hsame.mono (by decide) (by decide)⟩
  · skip
    show Steps p.tables e below (s₁.setTop (mkF m 0 #[(vr pa1)] [])) _
    refine XS.aloadN X0.here hx rfl (hb hby d8_0) rfl rfl ?_
    refine st1 _ ?_
    exact X1.returnOut hx hret0 (hb hby d8_4) hr
  · show Q_au8_0 Z wINTEGER wDOUBLE wBOOLEAN wDEFAULTCAPACITY_EMPTY_ELEMENTDATA kwDEFAULTCAPACITY_EMPTY_ELEMENTDATA pa1 h0 n0 _ T1.heap _
    rw [e1]
    exact ⟨rfl, N0, rfl⟩
theorem d7_4 : decode prog_104_method_1_code 4 = .ok (.aload_n 2, 1) := by decide +kernel
theorem d7_5 : decode prog_104_method_1_code 5 = .ok (.getstatic 7, 3) := by decide +kernel
theorem d7_8 : decode prog_104_method_1_code 8 = .ok (.if_acmp .eq 26, 3) := by decide +kernel
theorem d7_11 : decode prog_104_method_1_code 11 = .ok (.iload_n 3, 1) := by decide +kernel
theorem d7_12 : decode prog_104_method_1_code 12 = .ok (.iload 4, 2) := by decide +kernel
theorem d7_14 : decode prog_104_method_1_code 14 = .ok (.if_icmp .gt 20, 3) := by decide +kernel
theorem d7_17 : decode prog_104_method_1_code 17 = .ok (.aload_n 2, 1) := by decide +kernel
theorem d7_18 : decode prog_104_method_1_code 18 = .ok (.getstatic 13, 3) := by decide +kernel
theorem d7_21 : decode prog_104_method_1_code 21 = .ok (.if_acmp .ne 33, 3) := by decide +kernel
theorem d7_54 : decode prog_104_method_1_code 54 = .ok (.aload_n 0, 1) := by decide +kernel
theorem d7_55 : decode prog_104_method_1_code 55 = .ok (.aload_n 1, 1) := by decide +kernel
theorem d7_56 : decode prog_104_method_1_code 56 = .ok (.putfield 31, 3) := by decide +kernel
theorem d7_59 : decode prog_104_method_1_code 59 = .ok (.aload_n 0, 1) := by decide +kernel
theorem d7_60 : decode prog_104_method_1_code 60 = .ok (.aload_n 2, 1) := by decide +kernel
theorem d7_61 : decode prog_104_method_1_code 61 = .ok (.putfield 37, 3) := by decide +kernel
theorem d7_64 : decode prog_104_method_1_code 64 = .ok (.aload_n 0, 1) := by decide +kernel
theorem d7_65 : decode prog_104_method_1_code 65 = .ok (.iload_n 3, 1) := by decide +kernel
theorem d7_66 : decode prog_104_method_1_code 66 = .ok (.putfield 40, 3) := by decide +kernel
theorem d7_69 : decode prog_104_method_1_code 69 = .ok (.aload_n 0, 1) := by decide +kernel
theorem d7_70 : decode prog_104_method_1_code 70 = .ok (.iload 4, 2) := by decide +kernel
theorem d7_72 : decode prog_104_method_1_code 72 = .ok (.putfield 44, 3) := by decide +kernel
theorem d7_75 : decode prog_104_method_1_code 75 = .ok (.return_, 1) := by decide +kernel
def Q_au7_0 (Z : State) (wINTEGER : Addr) (wDOUBLE : Addr) (wBOOLEAN : Addr) (wDEFAULTCAPACITY_EMPTY_ELEMENTDATA : Addr) (kwDEFAULTCAPACITY_EMPTY_ELEMENTDATA : ClassId) (pa1 : Addr) (pa2 : Addr) (pi3 : Int32) (pi4 : Int32) (h0 : Heap) (n0 : Nat) (v : Option Value) (h : Heap) (L : List Loc) : Prop := v = none ∧ Fr n0 L ∧ Keep h0 h [pa1] ∧ Exa Z h pa1 s6n ∧ Fld Z h pa1 s6n "high" "I" (.int pi4) ∧ Fld Z h pa1 s6n "low" "I" (.int pi3) ∧ Fld Z h pa1 s6n "name" s7n (.ref pa2) ∧ Fld Z h pa1 s6n "type" s1n (.ref wINTEGER)
theorem au7_0 (l : Launch) (Z : State) (a0 : Array Value) (hw : ∀ d ∈ tables_1, d.before a0 Z = true) (ws : List Jvm.Cond) (wINTEGER : Addr) (wDOUBLE : Addr) (wBOOLEAN : Addr) (wDEFAULTCAPACITY_EMPTY_ELEMENTDATA : Addr) (kwDEFAULTCAPACITY_EMPTY_ELEMENTDATA : ClassId) (hS : SS Z wINTEGER wDOUBLE wBOOLEAN wDEFAULTCAPACITY_EMPTY_ELEMENTDATA kwDEFAULTCAPACITY_EMPTY_ELEMENTDATA) (pa1 : Addr) (pa2 : Addr) (pi3 : Int32) (pi4 : Int32) (h0 : Heap) (n0 : Nat) (O0 : Old Z n0 h0) (P0 : Exa Z h0 pa1 s6n) (P1 : Fld Z h0 pa1 s6n "high" "I" (.int 0)) (P2 : Fld Z h0 pa1 s6n "low" "I" (.int 0)) (P3 : Fld Z h0 pa1 s6n "name" s7n .null) (P4 : Fld Z h0 pa1 s6n "type" s1n .null) (P5 : ¬ pi4 < pi3) (P6 : n0 ≤ pa1) :
    MetB l M9 prog_104_method_1_code 5 none ws (rmk 2 0 0 24) Z h0 #[(.ref pa1), (.ref pa2), (.ref wINTEGER), (.int pi3), (.int pi4)] (Q_au7_0 Z wINTEGER wDOUBLE wBOOLEAN wDEFAULTCAPACITY_EMPTY_ELEMENTDATA kwDEFAULTCAPACITY_EMPTY_ELEMENTDATA pa1 pa2 pi3 pi4 h0 n0) := by
  refine own_body (plainFor_of_name pn_com_example_lanc_lanc_model_StateValuations_Variable) ?_
  intro p e s m below meth c s₁ hx hby hml hown hnm hret0 hlk0 hZ X0 e0
  have N0 := Fr.nil n0
  have pre0 : ∀ t, Steps p.tables e below (s₁.setTop (mkF m 0 #[(vr pa1), (vr pa2), (vr wINTEGER), (vi pi3), (vi pi4)] [])) t → Steps p.tables e below (s₁.setTop (entryFrame m #[(.ref pa1), (.ref pa2), (.ref wINTEGER), (.int pi3), (.int pi4)] 5)) t := fun t k => castTop (ef_au7_0 m pa1 pa2 wINTEGER pi3 pi4) k
  have K0 := Keep.refl h0 [pa1]
  have hS0 := hS
  obtain ⟨S_wINTEGER, E_wINTEGER, S_wDOUBLE, E_wDOUBLE, S_wBOOLEAN, E_wBOOLEAN, F_ordinal_wINTEGER, F_ordinal_wDOUBLE, F_ordinal_wBOOLEAN, S_wDEFAULTCAPACITY_EMPTY_ELEMENTDATA, E_wDEFAULTCAPACITY_EMPTY_ELEMENTDATA, V_wDEFAULTCAPACITY_EMPTY_ELEMENTDATA⟩ := hS0
  obtain ⟨_, _, ⟨T1, L1, k1, n1⟩, -, X1, ⟨Lc1, hQ1, l1, y1, z1⟩, st1⟩ := X0.specialBack hx (y := M8) rfl hown (mvT hZ (ow hw 53 rfl)) (mvT hZ (ow hw 54 rfl)) (mvT hZ (ow hw 57 rfl)) (by decide) (backOf (W := 0) (au8_0 l Z a0 hw [] wINTEGER wDOUBLE wBOOLEAN wDEFAULTCAPACITY_EMPTY_ELEMENTDATA kwDEFAULTCAPACITY_EMPTY_ELEMENTDATA hS pa1 h0 n0 O0 ) hZ (ow hw 57 rfl) (ow hw 56 rfl) (by decide) (by decide)) (g := (mkF m 1 #[(vr pa1), (vr pa2), (vr wINTEGER), (vi pi3), (vi pi4)] [(.ref pa1)])) rfl (by rw [hml]; rfl) (Steps.refl _) (a := pa1) (argsL := []) (rest := []) (lenOf pd_3 rfl) rfl (by show 2 * 0 + _ ≤ _; exact Nat.le_of_eq rfl) (hb hby d7_1) (fun _ _ => ⟨rfl, e0, (by decide : 0 + 0 ≤ _), (by decide : 0 + 0 ≤ _)⟩)
  dsimp only [Pt.U, Pt.locs, Pt.cells, Pt.slots] at X1 l1 y1 z1 st1 hQ1
  subst y1 z1
  obtain ⟨rfl, Nq1, K1q⟩ := hQ1
  have N1 : Fr n0 L1 := (congrArg (Fr n0) l1).mpr (Fr.app N0 Nq1)
  obtain ⟨T2, X2, e2, st2⟩ := getS2 X1 hx hZ hown (host := "") (Or.inl (ow hw 59 rfl)) Via.refl K1q (S_wDOUBLE.ext O0.2) (g := (mkF m 5 #[(vr pa1), (vr pa2), (vr wINTEGER), (vi pi3), (vi pi4)] [(.ref wINTEGER)])) rfl (hb hby d7_5)
  have ne3 : wINTEGER ≠ wDOUBLE := Fld.ne F_ordinal_wINTEGER F_ordinal_wDOUBLE (by decide)
  obtain ⟨T4, X4, e4, st4⟩ := getS2 X2 hx hZ hown (host := "") (Or.inl (ow hw 61 rfl)) Via.refl e2 (S_wBOOLEAN.ext O0.2) (g := (mkF m 18 #[(vr pa1), (vr pa2), (vr wINTEGER), (vi pi3), (vi pi4)] [(.ref wINTEGER)])) rfl (hb hby d7_18)
  have ne5 : wINTEGER ≠ wBOOLEAN := Fld.ne F_ordinal_wINTEGER F_ordinal_wBOOLEAN (by decide)
  obtain ⟨T6, h6, X6, e6, W6, st6⟩ := putF X4 hx hZ hown (host := "") (Or.inl (ow hw 63 rfl)) Via.refl e4 P3 P0 (Or.inr ⟨(ow hw 64 rfl), rfl, hnm⟩) (ow hw 37 rfl) (ty := (.object s8n)) (by decide) rfl rfl (g := (mkF m 56 #[(vr pa1), (vr pa2), (vr wINTEGER), (vi pi3), (vi pi4)] [(.ref pa2), (.ref pa1)])) rfl rfl (hb hby d7_56)
  have N6 := Fr.snoc X6 N1 P6
  have O7 : Old Z n0 h6 := O0.wr W6 P6
  have K7 : Keep h0 h6 [pa1] := K0.wr W6 (Or.inl (List.mem_of_getElem? (i := 0) rfl))
  have Fw6 : Fld Z h6 pa1 s6n "name" s7n (.ref pa2) := P3.same W6
  have f8 : Exa Z h6 pa1 s6n := (P0.wr W6)
  have f9 : Fld Z h6 pa1 s6n "type" s1n .null := (P4.other W6 (Or.inr (slot_ne (Or.inr (ow hw 66 rfl)) (Or.inr (ow hw 64 rfl)) (by decide) (t := (.object s0n)) (t' := (.object s8n)) (by decide) (by decide))))
  obtain ⟨T10, h10, X10, e10, W10, st10⟩ := putF X6 hx hZ hown (host := "") (Or.inl (ow hw 65 rfl)) Via.refl e6 f9 f8 (Or.inr ⟨(ow hw 66 rfl), rfl, hnm⟩) (ow hw 37 rfl) (ty := (.object s0n)) (by decide) rfl rfl (g := (mkF m 61 #[(vr pa1), (vr pa2), (vr wINTEGER), (vi pi3), (vi pi4)] [(.ref wINTEGER), (.ref pa1)])) rfl rfl (hb hby d7_61)
  have N10 := Fr.snoc X10 N6 P6
  have O11 : Old Z n0 h10 := O7.wr W10 P6
  have K11 : Keep h0 h10 [pa1] := K7.wr W10 (Or.inl (List.mem_of_getElem? (i := 0) rfl))
  have Fw10 : Fld Z h10 pa1 s6n "type" s1n (.ref wINTEGER) := f9.same W10
  have f12 : Exa Z h10 pa1 s6n := (f8.wr W10)
  have f13 : Fld Z h10 pa1 s6n "low" "I" (.int 0) := ((P2.other W6 (Or.inr (slot_ne (Or.inr (ow hw 68 rfl)) (Or.inr (ow hw 64 rfl)) (by decide) (t := .int) (t' := (.object s8n)) (by decide) (by decide)))).other W10 (Or.inr (slot_ne (Or.inr (ow hw 68 rfl)) (Or.inr (ow hw 66 rfl)) (by decide) (t := .int) (t' := (.object s0n)) (by decide) (by decide))))
  obtain ⟨T14, h14, X14, e14, W14, st14⟩ := putF X10 hx hZ hown (host := "") (Or.inl (ow hw 67 rfl)) Via.refl e10 f13 f12 (Or.inr ⟨(ow hw 68 rfl), rfl, hnm⟩) (ow hw 37 rfl) (ty := .int) (by decide) rfl rfl (g := (mkF m 66 #[(vr pa1), (vr pa2), (vr wINTEGER), (vi pi3), (vi pi4)] [(.int pi3), (.ref pa1)])) rfl rfl (hb hby d7_66)
  have N14 := Fr.snoc X14 N10 P6
  have O15 : Old Z n0 h14 := O11.wr W14 P6
  have K15 : Keep h0 h14 [pa1] := K11.wr W14 (Or.inl (List.mem_of_getElem? (i := 0) rfl))
  have Fw14 : Fld Z h14 pa1 s6n "low" "I" (.int pi3) := f13.same W14
  have f16 : Exa Z h14 pa1 s6n := (f12.wr W14)
  have f17 : Fld Z h14 pa1 s6n "high" "I" (.int 0) := (((P1.other W6 (Or.inr (slot_ne (Or.inr (ow hw 70 rfl)) (Or.inr (ow hw 64 rfl)) (by decide) (t := .int) (t' := (.object s8n)) (by decide) (by decide)))).other W10 (Or.inr (slot_ne (Or.inr (ow hw 70 rfl)) (Or.inr (ow hw 66 rfl)) (by decide) (t := .int) (t' := (.object s0n)) (by decide) (by decide)))).other W14 (Or.inr (slot_ne (Or.inr (ow hw 70 rfl)) (Or.inr (ow hw 68 rfl)) (by decide) (t := .int) (t' := .int) (by decide) (by decide))))
  obtain ⟨T18, h18, X18, e18, W18, st18⟩ := putF X14 hx hZ hown (host := "") (Or.inl (ow hw 69 rfl)) Via.refl e14 f17 f16 (Or.inr ⟨(ow hw 70 rfl), rfl, hnm⟩) (ow hw 37 rfl) (ty := .int) (by decide) rfl rfl (g := (mkF m 72 #[(vr pa1), (vr pa2), (vr wINTEGER), (vi pi3), (vi pi4)] [(.int pi4), (.ref pa1)])) rfl rfl (hb hby d7_72)
  have N18 := Fr.snoc X18 N14 P6
  have O19 : Old Z n0 h18 := O15.wr W18 P6
  have K19 : Keep h0 h18 [pa1] := K15.wr W18 (Or.inl (List.mem_of_getElem? (i := 0) rfl))
  have Fw18 : Fld Z h18 pa1 s6n "high" "I" (.int pi4) := f17.same W18
  have f20 : Exa Z h18 pa1 s6n := (f16.wr W18)
  have f21 : Fld Z h18 pa1 s6n "low" "I" (.int pi3) := (Fw14.other W18 (Or.inr (slot_ne (Or.inr (ow hw 68 rfl)) (Or.inr (ow hw 70 rfl)) (by decide) (t := .int) (t' := .int) (by decide) (by decide))))
  have f22 : Fld Z h18 pa1 s6n "name" s7n (.ref pa2) := (((Fw6.other W10 (Or.inr (slot_ne (Or.inr (ow hw 64 rfl)) (Or.inr (ow hw 66 rfl)) (by decide) (t := (.object s8n)) (t' := (.object s0n)) (by decide) (by decide)))).other W14 (Or.inr (slot_ne (Or.inr (ow hw 64 rfl)) (Or.inr (ow hw 68 rfl)) (by decide) (t := (.object s8n)) (t' := .int) (by decide) (by decide)))).other W18 (Or.inr (slot_ne (Or.inr (ow hw 64 rfl)) (Or.inr (ow hw 70 rfl)) (by decide) (t := (.object s8n)) (t' := .int) (by decide) (by decide))))
  have f23 : Fld Z h18 pa1 s6n "type" s1n (.ref wINTEGER) := ((Fw10.other W14 (Or.inr (slot_ne (Or.inr (ow hw 66 rfl)) (Or.inr (ow hw 68 rfl)) (by decide) (t := (.object s0n)) (t' := .int) (by decide) (by decide)))).other W18 (Or.inr (slot_ne (Or.inr (ow hw 66 rfl)) (Or.inr (ow hw 70 rfl)) (by decide) (t := (.object s0n)) (t' := .int) (by decide) (by decide))))
  obtain ⟨fs, hr, hrun, hended, hW, hsame⟩ := X18.leave (v := none) (fun _ => rfl)
  refine ⟨_, _, pre0 _ ?_, hrun, hended, _, _, rfl, ?_, ⟨_, rfl⟩, hW, hsame.mono (by decide) (by decide)⟩
  · skip
    show Steps p.tables e below (s₁.setTop (mkF m 0 #[(vr pa1), (vr pa2), (vr wINTEGER), (vi pi3), (vi pi4)] [])) _
    refine XS.aloadN X0.here hx rfl (hb hby d7_0) rfl rfl ?_
    refine st1.trans ?_
    refine XS.aloadN X1.here hx rfl (hb hby d7_4) rfl rfl ?_
    refine st2 _ ?_
    refine Jvm.RoadKit.acmp (g := (mkF m 8 #[(vr pa1), (vr pa2), (vr wINTEGER), (vi pi3), (vi pi4)] [(.ref wDOUBLE), (.ref wINTEGER)])) X2 hx rfl rfl rfl (pc0 := 8) (pc' := 11) (same := false) rfl (hb hby d7_8) rfl (decide_eq_false fun q => ne3 (Value.ref.inj q)) (by decide) (by decide) ?_
    refine XS.iloadN X2.here hx rfl (hb hby d7_11) rfl ?_
    show Steps p.tables e below (T2.setTop (mkF m 12 #[(vr pa1), (vr pa2), (vr wINTEGER), (vi pi3), (vi pi4)] [(.int pi3)])) _
    refine XS.iload X2.here hx rfl (hb hby d7_12) rfl ?_
    refine XS.icmpNo X2.here hx rfl (hb hby d7_14) rfl (flt (P5 : ¬ (pi4 < pi3))).2.2.1 ?_
    refine XS.aloadN X2.here hx rfl (hb hby d7_17) rfl rfl ?_
    refine st4 _ ?_
    refine Jvm.RoadKit.acmp (g := (mkF m 21 #[(vr pa1), (vr pa2), (vr wINTEGER), (vi pi3), (vi pi4)] [(.ref wBOOLEAN), (.ref wINTEGER)])) X4 hx rfl rfl rfl (pc0 := 21) (pc' := 54) (same := false) rfl (hb hby d7_21) rfl (decide_eq_false fun q => ne5 (Value.ref.inj q)) (by decide) (by decide) ?_
    refine XS.aloadN X4.here hx rfl (hb hby d7_54) rfl rfl ?_
    show Steps p.tables e below (T4.setTop (mkF m 55 #[(vr pa1), (vr pa2), (vr wINTEGER), (vi pi3), (vi pi4)] [(.ref pa1)])) _
    refine XS.aloadN X4.here hx rfl (hb hby d7_55) rfl rfl ?_
    refine st6 _ ?_
    refine XS.aloadN X6.here hx rfl (hb hby d7_59) rfl rfl ?_
    refine XS.aloadN X6.here hx rfl (hb hby d7_60) rfl rfl ?_
    refine st10 _ ?_
    refine XS.aloadN X10.here hx rfl (hb hby d7_64) rfl rfl ?_
    show Steps p.tables e below (T10.setTop (mkF m 65 #[(vr pa1), (vr pa2), (vr wINTEGER), (vi pi3), (vi pi4)] [(.ref pa1)])) _
    refine XS.iloadN X10.here hx rfl (hb hby d7_65) rfl ?_
    refine st14 _ ?_
    refine XS.aloadN X14.here hx rfl (hb hby d7_69) rfl rfl ?_
    refine XS.iload X14.here hx rfl (hb hby d7_70) rfl ?_
    refine st18 _ ?_
    exact X18.returnOut hx hret0 (hb hby d7_75) hr
  · show Q_au7_0 Z wINTEGER wDOUBLE wBOOLEAN wDEFAULTCAPACITY_EMPTY_ELEMENTDATA kwDEFAULTCAPACITY_EMPTY_ELEMENTDATA pa1 pa2 pi3 pi4 h0 n0 _ T18.heap _
    rw [e18]
    exact ⟨rfl, N18, K19, f20, Fw18, f21, f22, f23⟩
theorem pd_4 : parseMethodDescriptor "(Ljava/lang/String;Lcom/example/lanc/lanc/expression/Type;II)V" = some ⟨[(.object "java/lang/String"), (.object "com/example/lanc/lanc/expression/Type"), .int, .int], none⟩ := by decide +kernel
theorem ef_au9_0 (m : MethodId) (x0 : Addr) (x1 : Addr)  : entryFrame m #[(.ref x0), (.ref x1)] 2 = mkF m 0 #[(vr x0), (vr x1)] [] := by first | (simp [entryFrame, mkF, argsToLocals, Value.category]; done) | rfl
theorem d9_0 : decode jdk_38_method_25_code 0 = .ok (.aload_n 0, 1) := by decide +kernel
theorem d9_1 : decode jdk_38_method_25_code 1 = .ok (.dup, 1) := by decide +kernel
theorem d9_2 : decode jdk_38_method_25_code 2 = .ok (.getfield 63, 3) := by decide +kernel
theorem d9_5 : decode jdk_38_method_25_code 5 = .ok (.iconst 1, 1) := by decide +kernel
theorem d9_6 : decode jdk_38_method_25_code 6 = .ok (.iadd, 1) := by decide +kernel
theorem d9_7 : decode jdk_38_method_25_code 7 = .ok (.putfield 63, 3) := by decide +kernel
theorem d9_10 : decode jdk_38_method_25_code 10 = .ok (.aload_n 0, 1) := by decide +kernel
theorem d9_11 : decode jdk_38_method_25_code 11 = .ok (.aload_n 1, 1) := by decide +kernel
theorem d9_12 : decode jdk_38_method_25_code 12 = .ok (.aload_n 0, 1) := by decide +kernel
theorem d9_13 : decode jdk_38_method_25_code 13 = .ok (.getfield 9, 3) := by decide +kernel
theorem d9_16 : decode jdk_38_method_25_code 16 = .ok (.aload_n 0, 1) := by decide +kernel
theorem d9_17 : decode jdk_38_method_25_code 17 = .ok (.getfield 48, 3) := by decide +kernel
theorem d9_20 : decode jdk_38_method_25_code 20 = .ok (.invokevirtual 131, 3) := by decide +kernel
theorem ef_au10_0 (m : MethodId) (x0 : Addr) (x1 : Addr) (x2 : Addr) (x3 : Int32)  : entryFrame m #[(.ref x0), (.ref x1), (.ref x2), (.int x3)] 4 = mkF m 0 #[(vr x0), (vr x1), (vr x2), (vi x3)] [] := by first | (simp [entryFrame, mkF, argsToLocals, Value.category]; done) | rfl
theorem d10_0 : decode jdk_38_method_24_code 0 = .ok (.iload_n 3, 1) := by decide +kernel
theorem d10_1 : decode jdk_38_method_24_code 1 = .ok (.aload_n 2, 1) := by decide +kernel
theorem d10_2 : decode jdk_38_method_24_code 2 = .ok (.arraylength, 1) := by decide +kernel
theorem d10_3 : decode jdk_38_method_24_code 3 = .ok (.if_icmp .ne 8, 3) := by decide +kernel
theorem d10_6 : decode jdk_38_method_24_code 6 = .ok (.aload_n 0, 1) := by decide +kernel
theorem d10_7 : decode jdk_38_method_24_code 7 = .ok (.invokevirtual 129, 3) := by decide +kernel
theorem ef_au11_0 (m : MethodId) (x0 : Addr)  : entryFrame m #[(.ref x0)] 1 = mkF m 0 #[(vr x0)] [] := by first | (simp [entryFrame, mkF, argsToLocals, Value.category]; done) | rfl
theorem d11_0 : decode jdk_38_method_7_code 0 = .ok (.aload_n 0, 1) := by decide +kernel
theorem d11_1 : decode jdk_38_method_7_code 1 = .ok (.aload_n 0, 1) := by decide +kernel
theorem d11_2 : decode jdk_38_method_7_code 2 = .ok (.getfield 48, 3) := by decide +kernel
theorem d11_5 : decode jdk_38_method_7_code 5 = .ok (.iconst 1, 1) := by decide +kernel
theorem d11_6 : decode jdk_38_method_7_code 6 = .ok (.iadd, 1) := by decide +kernel
theorem d11_7 : decode jdk_38_method_7_code 7 = .ok (.invokevirtual 69, 3) := by decide +kernel
theorem ef_au12_0 (m : MethodId) (x0 : Addr) (x1 : Int32)  : entryFrame m #[(.ref x0), (.int x1)] 4 = mkF m 0 #[(vr x0), (vi x1), .unset, .unset] [] := by first | (simp [entryFrame, mkF, argsToLocals, Value.category]; done) | rfl
theorem d12_0 : decode jdk_38_method_6_code 0 = .ok (.aload_n 0, 1) := by decide +kernel
theorem d12_1 : decode jdk_38_method_6_code 1 = .ok (.getfield 9, 3) := by decide +kernel
theorem d12_4 : decode jdk_38_method_6_code 4 = .ok (.arraylength, 1) := by decide +kernel
theorem d12_5 : decode jdk_38_method_6_code 5 = .ok (.istore_n 2, 1) := by decide +kernel
theorem d12_6 : decode jdk_38_method_6_code 6 = .ok (.iload_n 2, 1) := by decide +kernel
theorem d12_7 : decode jdk_38_method_6_code 7 = .ok (.ifCond .gt 13, 3) := by decide +kernel
theorem d12_10 : decode jdk_38_method_6_code 10 = .ok (.aload_n 0, 1) := by decide +kernel
theorem d12_11 : decode jdk_38_method_6_code 11 = .ok (.getfield 9, 3) := by decide +kernel
theorem d12_14 : decode jdk_38_method_6_code 14 = .ok (.getstatic 39, 3) := by decide +kernel
theorem d12_17 : decode jdk_38_method_6_code 17 = .ok (.if_acmp .eq 28, 3) := by decide +kernel
theorem d12_45 : decode jdk_38_method_6_code 45 = .ok (.aload_n 0, 1) := by decide +kernel
theorem d12_46 : decode jdk_38_method_6_code 46 = .ok (.bipush 10, 2) := by decide +kernel
theorem d12_48 : decode jdk_38_method_6_code 48 = .ok (.iload_n 1, 1) := by decide +kernel
theorem d12_49 : decode jdk_38_method_6_code 49 = .ok (.invokestatic 79, 3) := by decide +kernel
theorem ef_au13_0 (m : MethodId) (x0 : Int32) (x1 : Int32)  : entryFrame m #[(.int x0), (.int x1)] 2 = mkF m 0 #[(vi x0), (vi x1)] [] := by first | (simp [entryFrame, mkF, argsToLocals, Value.category]; done) | rfl
def Q_au13_0 (Z : State) (wINTEGER : Addr) (wDOUBLE : Addr) (wBOOLEAN : Addr) (wDEFAULTCAPACITY_EMPTY_ELEMENTDATA : Addr) (kwDEFAULTCAPACITY_EMPTY_ELEMENTDATA : ClassId)  (h0 : Heap) (n0 : Nat) (v : Option Value) (h : Heap) (L : List Loc) : Prop := v = some (.int 10) ∧ Fr n0 L ∧ h = h0
theorem au13_0 (l : Launch) (Z : State) (a0 : Array Value) (hw : ∀ d ∈ tables_1, d.before a0 Z = true) (ws : List Jvm.Cond) (wINTEGER : Addr) (wDOUBLE : Addr) (wBOOLEAN : Addr) (wDEFAULTCAPACITY_EMPTY_ELEMENTDATA : Addr) (kwDEFAULTCAPACITY_EMPTY_ELEMENTDATA : ClassId) (hS : SS Z wINTEGER wDOUBLE wBOOLEAN wDEFAULTCAPACITY_EMPTY_ELEMENTDATA kwDEFAULTCAPACITY_EMPTY_ELEMENTDATA)  (h0 : Heap) (n0 : Nat) (O0 : Old Z n0 h0)  :
    MetB l M2 jdk_29_method_65_code 2 (some .int) ws (rmk 0 0 0 0) Z h0 #[(.int 10), (.int 1)] (Q_au13_0 Z wINTEGER wDOUBLE wBOOLEAN wDEFAULTCAPACITY_EMPTY_ELEMENTDATA kwDEFAULTCAPACITY_EMPTY_ELEMENTDATA  h0 n0) := by
  refine own_body (Jvm.Free.JP.mathPlain rfl (by decide +kernel)) ?_
  intro p e s m below meth c s₁ hx hby hml hown hnm hret0 hlk0 hZ X0 e0
  have N0 := Fr.nil n0
  have pre0 : ∀ t, Steps p.tables e below (s₁.setTop (mkF m 0 #[(vi 10), (vi 1)] [])) t → Steps p.tables e below (s₁.setTop (entryFrame m #[(.int 10), (.int 1)] 2)) t := fun t k => castTop (ef_au13_0 m (10 : Int32) (1 : Int32)) k
  have hS0 := hS
  obtain ⟨S_wINTEGER, E_wINTEGER, S_wDOUBLE, E_wDOUBLE, S_wBOOLEAN, E_wBOOLEAN, F_ordinal_wINTEGER, F_ordinal_wDOUBLE, F_ordinal_wBOOLEAN, S_wDEFAULTCAPACITY_EMPTY_ELEMENTDATA, E_wDEFAULTCAPACITY_EMPTY_ELEMENTDATA, V_wDEFAULTCAPACITY_EMPTY_ELEMENTDATA⟩ := hS0
  obtain ⟨fs, hr, hrun, hended, hW, hsame⟩ := X0.leave (v := some (.int 10)) (fun h => by rw [hret0] at h; cases h)
  refine ⟨_, _, pre0 _ ?_, hrun, hended, _, _, rfl, ?_, ⟨_, rfl⟩, hW, hsame.mono (by decide) (by decide)⟩
  · skip
    show Steps p.tables e below (s₁.setTop (mkF m 0 #[(vi 10), (vi 1)] [])) _
    refine XS.iloadN X0.here hx rfl (hb hby d13_0) rfl ?_
    refine XS.iloadN X0.here hx rfl (hb hby d13_1) rfl ?_
    refine XS.icmpNo X0.here hx rfl (hb hby d13_2) rfl (flt (by decide : ¬ ((10 : Int32) < (1 : Int32)))).1 ?_
    refine XS.iloadN X0.here hx rfl (hb hby d13_5) rfl ?_
    refine XS.goto X0.here hx rfl (pc0 := 6) (pc' := 10) rfl (hb hby d13_6) (by decide) (by decide) ?_
    exact retI X0 hx hret0 (hb hby d13_10) hr
  · show Q_au13_0 Z wINTEGER wDOUBLE wBOOLEAN wDEFAULTCAPACITY_EMPTY_ELEMENTDATA kwDEFAULTCAPACITY_EMPTY_ELEMENTDATA  h0 n0 _ s₁.heap _
    rw [e0]
    exact ⟨rfl, N0, rfl⟩
theorem pd_5 : parseMethodDescriptor "(II)I" = some ⟨[.int, .int], some .int⟩ := by decide +kernel
theorem d12_52 : decode jdk_38_method_6_code 52 = .ok (.anewarray 7, 3) := by decide +kernel
theorem d12_55 : decode jdk_38_method_6_code 55 = .ok (.dup_x1, 1) := by decide +kernel
theorem d12_56 : decode jdk_38_method_6_code 56 = .ok (.putfield 9, 3) := by decide +kernel
theorem d12_59 : decode jdk_38_method_6_code 59 = .ok (.areturn, 1) := by decide +kernel
def Q_au12_0 (Z : State) (wINTEGER : Addr) (wDOUBLE : Addr) (wBOOLEAN : Addr) (wDEFAULTCAPACITY_EMPTY_ELEMENTDATA : Addr) (kwDEFAULTCAPACITY_EMPTY_ELEMENTDATA : ClassId) (pa1 : Addr) (h0 : Heap) (n0 : Nat) (v : Option Value) (h : Heap) (L : List Loc) : Prop := ∃ (e1 : Addr) (e2 : ClassId), v = some (.ref e1) ∧ Fr n0 L ∧ Keep h0 h [pa1] ∧ Exa Z h pa1 s2n ∧ Fld Z h pa1 s5n "modCount" "I" (.int 1) ∧ Fld Z h pa1 s2n "elementData" s3n (.ref e1) ∧ Fld Z h pa1 s2n "size" "I" (.int 0) ∧ h0.size ≤ e1 ∧ Exa Z h e1 s3n ∧ Arv Z h e1 e2 (.object s4n) (10 : Int32) ([.null, .null, .null, .null, .null, .null, .null, .null, .null, .null]) .null ∧ Ovr Z e2 s4n
theorem au12_0 (l : Launch) (Z : State) (a0 : Array Value) (hw : ∀ d ∈ tables_1, d.before a0 Z = true) (ws : List Jvm.Cond) (wINTEGER : Addr) (wDOUBLE : Addr) (wBOOLEAN : Addr) (wDEFAULTCAPACITY_EMPTY_ELEMENTDATA : Addr) (kwDEFAULTCAPACITY_EMPTY_ELEMENTDATA : ClassId) (hS : SS Z wINTEGER wDOUBLE wBOOLEAN wDEFAULTCAPACITY_EMPTY_ELEMENTDATA kwDEFAULTCAPACITY_EMPTY_ELEMENTDATA) (pa1 : Addr) (h0 : Heap) (n0 : Nat) (O0 : Old Z n0 h0) (P0 : Exa Z h0 pa1 s2n) (P1 : Fld Z h0 pa1 s5n "modCount" "I" (.int 1)) (P2 : Fld Z h0 pa1 s2n "elementData" s3n (.ref wDEFAULTCAPACITY_EMPTY_ELEMENTDATA)) (P3 : Fld Z h0 pa1 s2n "size" "I" (.int 0)) (P4 : n0 ≤ pa1) :
    MetB l M10 jdk_38_method_6_code 4 (some (.array (.object s4n))) ws (rmk 1 1 10 14) Z h0 #[(.ref pa1), (.int 1)] (Q_au12_0 Z wINTEGER wDOUBLE wBOOLEAN wDEFAULTCAPACITY_EMPTY_ELEMENTDATA kwDEFAULTCAPACITY_EMPTY_ELEMENTDATA pa1 h0 n0) := by
  refine own_body (plainFor_of_name pn_java_util_ArrayList) ?_
  intro p e s m below meth c s₁ hx hby hml hown hnm hret0 hlk0 hZ X0 e0
  have N0 := Fr.nil n0
  have pre0 : ∀ t, Steps p.tables e below (s₁.setTop (mkF m 0 #[(vr pa1), (vi 1), .unset, .unset] [])) t → Steps p.tables e below (s₁.setTop (entryFrame m #[(.ref pa1), (.int 1)] 4)) t := fun t k => castTop (ef_au12_0 m pa1 (1 : Int32)) k
  have K0 := Keep.refl h0 [pa1]
  have hS0 := hS
  obtain ⟨S_wINTEGER, E_wINTEGER, S_wDOUBLE, E_wDOUBLE, S_wBOOLEAN, E_wBOOLEAN, F_ordinal_wINTEGER, F_ordinal_wDOUBLE, F_ordinal_wBOOLEAN, S_wDEFAULTCAPACITY_EMPTY_ELEMENTDATA, E_wDEFAULTCAPACITY_EMPTY_ELEMENTDATA, V_wDEFAULTCAPACITY_EMPTY_ELEMENTDATA⟩ := hS0
  obtain ⟨T1, X1, e1, st1⟩ := getF X0 hx hZ hown (host := "") (Or.inl (ow hw 34 rfl)) Via.refl e0 P2 (g := (mkF m 1 #[(vr pa1), (vi 1), .unset, .unset] [(.ref pa1)])) rfl rfl (hb hby d12_1)
  obtain ⟨cl2, Ar2, -, Sz2, Nn2, -, -⟩ := (id (V_wDEFAULTCAPACITY_EMPTY_ELEMENTDATA.ext O0.2))
  obtain ⟨T3, X3, e3, st3⟩ := getF X1 hx hZ hown (host := "") (Or.inl (ow hw 34 rfl)) Via.refl e1 P2 (g := (mkF m 11 #[(vr pa1), (vi 1), (vi 0), .unset] [(.ref pa1)])) rfl rfl (hb hby d12_11)
  obtain ⟨T4, X4, e4, st4⟩ := getS2 X3 hx hZ hown (host := "") (Or.inl (ow hw 33 rfl)) Via.refl e3 (S_wDEFAULTCAPACITY_EMPTY_ELEMENTDATA.ext O0.2) (g := (mkF m 14 #[(vr pa1), (vi 1), (vi 0), .unset] [(.ref wDEFAULTCAPACITY_EMPTY_ELEMENTDATA)])) rfl (hb hby d12_14)
  obtain ⟨_, _, ⟨T5, L5, k5, n5⟩, -, X5, ⟨Lc5, hQ5, l5, y5, z5⟩, st5⟩ := Jvm.LawKit.callS X4 hx (y := M2) hown (mvT hZ (ow hw 99 rfl)) (mvT hZ (ow hw 100 rfl)) (mvT hZ (ow hw 7 rfl)) (mvT hZ (ow hw 101 rfl)) (by decide) (backOf (W := 1) (au13_0 l Z a0 hw [] wINTEGER wDOUBLE wBOOLEAN wDEFAULTCAPACITY_EMPTY_ELEMENTDATA kwDEFAULTCAPACITY_EMPTY_ELEMENTDATA hS  h0 n0 O0 ) hZ (ow hw 101 rfl) (ow hw 7 rfl) (by decide) (by decide)) (g := (mkF m 49 #[(vr pa1), (vi 1), (vi 0), .unset] [(.int 1), (.int 10), (.ref pa1)])) rfl (by rw [hml]; rfl) (argsL := [(.int 10), (.int 1)]) (rest := [(.ref pa1)]) (lenOf pd_5 rfl) rfl (by show 2 * 0 + _ ≤ _; exact Nat.le_of_eq rfl) (hb hby d12_49) (fun _ _ => ⟨rfl, e4, (by decide : 0 + 0 ≤ _), (by decide : 0 + 0 ≤ _)⟩)
  dsimp only [Pt.U, Pt.locs, Pt.cells, Pt.slots] at X5 l5 y5 z5 st5 hQ5
  subst y5 z5
  obtain ⟨rfl, Nq5, K5q⟩ := hQ5
  have N5 : Fr n0 L5 := (congrArg (Fr n0) l5).mpr (Fr.app N0 Nq5)
  obtain ⟨T6, h6, k6, X6, e6, E6, A6, Z6, O6, st6⟩ := newRE X5 hx hZ hown (ow hw 102 rfl) (ow hw 103 rfl) K5q (g := (mkF m 52 #[(vr pa1), (vi 1), (vi 0), .unset] [(.int 10), (.ref pa1)])) rfl (hb hby d12_52) rfl (by decide) (cap := 10) (by decide) (by decide) (by decide) (by decide) (ad := s3n) rfl
  obtain ⟨b6, g6⟩ : ∃ z, z = h0.size := ⟨_, rfl⟩
  rw [← g6] at A6 Z6 st6
  have ne7 : pa1 ≠ b6 := Nat.ne_of_lt (Nat.lt_of_lt_of_le P0.lt (Nat.le_of_eq g6.symm))
  have g8 : n0 ≤ b6 := Nat.le_trans (own_sz O0) (Nat.le_of_eq g6.symm)
  have sz9 : h0.size ≤ b6 := Nat.le_trans K0.1 (Nat.le_of_eq g6.symm)
  have O10 : Old Z n0 h6 := O0.ext E6
  have K10 : Keep h0 h6 [pa1] := K0.ext E6
  have V6 : Arv Z h6 b6 k6 (.object s4n) (10 : Int32) ([.null, .null, .null, .null, .null, .null, .null, .null, .null, .null]) .null := (Arv.new A6 (by decide)).pad (pad_rep [] .null 10)
  have f11 : Exa Z h6 pa1 s2n := (P0.ext E6)
  have f12 : Fld Z h6 pa1 s2n "elementData" s3n (.ref wDEFAULTCAPACITY_EMPTY_ELEMENTDATA) := (P2.ext E6)
  obtain ⟨T13, h13, X13, e13, W13, st13⟩ := putF X6 hx hZ hown (host := "") (Or.inl (ow hw 34 rfl)) Via.refl e6 f12 f11 (Or.inl (ow hw 35 rfl)) (ow hw 11 rfl) (ty := (.array (.object s4n))) (by decide) rfl rfl (g := (mkF m 56 #[(vr pa1), (vi 1), (vi 0), .unset] [(.ref b6), (.ref pa1), (.ref b6)])) rfl rfl (hb hby d12_56)
  have N13 := Fr.snoc X13 N5 P4
  have O14 : Old Z n0 h13 := O10.wr W13 P4
  have K14 : Keep h0 h13 [pa1] := K10.wr W13 (Or.inl (List.mem_of_getElem? (i := 0) rfl))
  have Fw13 : Fld Z h13 pa1 s2n "elementData" s3n (.ref b6) := f12.same W13
  have f15 : Exa Z h13 pa1 s2n := (f11.wr W13)
  have f16 : Fld Z h13 pa1 s5n "modCount" "I" (.int 1) := ((P1.ext E6).other W13 (Or.inr (slot_ne (Or.inl (ow hw 32 rfl)) (Or.inl (ow hw 35 rfl)) (by decide) (t := .int) (t' := (.array (.object s4n))) (by decide) (by decide))))
  have f17 : Fld Z h13 pa1 s2n "size" "I" (.int 0) := ((P3.ext E6).other W13 (Or.inr (slot_ne (Or.inl (ow hw 83 rfl)) (Or.inl (ow hw 35 rfl)) (by decide) (t := .int) (t' := (.array (.object s4n))) (by decide) (by decide))))
  have f18 : Exa Z h13 b6 s3n := (Z6.wr W13)
  have f19 : Arv Z h13 b6 k6 (.object s4n) (10 : Int32) ([.null, .null, .null, .null, .null, .null, .null, .null, .null, .null]) .null := (V6.other W13 (Ne.symm ne7))
  obtain ⟨fs, hr, hrun, hended, hW, hsame⟩ := X13.leave (v := some (.ref b6)) (fun h => by rw [hret0] at h; cases h)
  refine ⟨_, _, pre0 _ ?_, hrun, hended, _, _, rfl, ?_, ⟨_, rfl⟩, hW, hsame.mono (by decide) (by decide)⟩
  · skip
    show Steps p.tables e below (s₁.setTop (mkF m 0 #[(vr pa1), (vi 1), .unset, .unset] [])) _
    refine XS.aloadN X0.here hx rfl (hb hby d12_0) rfl rfl ?_
    refine st1 _ ?_
    refine X1.arraylength hx (by rw [e1]; exact Ar2.1) (State.isArrayOf_alike hZ.alike Ar2.2.1) (g := (mkF m 4 #[(vr pa1), (vi 1), .unset, .unset] [(.ref wDEFAULTCAPACITY_EMPTY_ELEMENTDATA)])) rfl rfl (hb hby d12_4) _ ?_
    rw [len_of Sz2 Nn2]
    refine XS.istoreN X1.here hx rfl (hb hby d12_5) rfl (l' := #[(vr pa1), (vi 1), (vi 0), .unset]) rfl ?_
    refine XS.iloadN X1.here hx rfl (hb hby d12_6) rfl ?_
    refine XS.ifNo X1.here hx rfl (hb hby d12_7) rfl ((if0 _ _).trans (flt (by decide : ¬ ((0 : Int32) < (0 : Int32)))).2.2.1) ?_
    show Steps p.tables e below (T1.setTop (mkF m 10 #[(vr pa1), (vi 1), (vi 0), .unset] [])) _
    refine XS.aloadN X1.here hx rfl (hb hby d12_10) rfl rfl ?_
    refine st3 _ ?_
    refine st4 _ ?_
    refine Jvm.RoadKit.acmp (g := (mkF m 17 #[(vr pa1), (vi 1), (vi 0), .unset] [(.ref wDEFAULTCAPACITY_EMPTY_ELEMENTDATA), (.ref wDEFAULTCAPACITY_EMPTY_ELEMENTDATA)])) X4 hx rfl rfl rfl (pc0 := 17) (pc' := 45) (same := true) rfl (hb hby d12_17) rfl (decide_eq_true rfl) (by decide) (by decide) ?_
    refine XS.aloadN X4.here hx rfl (hb hby d12_45) rfl rfl ?_
    refine XS.bipush X4.here hx rfl (hb hby d12_46) ?_
    show Steps p.tables e below (T4.setTop (mkF m 48 #[(vr pa1), (vi 1), (vi 0), .unset] [(.int 10), (.ref pa1)])) _
    refine XS.iloadN X4.here hx rfl (hb hby d12_48) rfl ?_
    refine st5 _ ?_
    refine st6 _ ?_
    refine XS.dupX1 X6.here hx rfl (hb hby d12_55) rfl rfl rfl ?_
    refine st13 _ ?_
    jvm_step X13.here [X13.here.top, hx, (hb hby d12_59), X13.method', hret0, Value.isRef, FieldType.isReference]
    first | (intro acts; rw [hr _ acts rfl rfl rfl]) | rw [hr _ _ rfl rfl rfl]
    exact Steps.refl _
  · show Q_au12_0 Z wINTEGER wDOUBLE wBOOLEAN wDEFAULTCAPACITY_EMPTY_ELEMENTDATA kwDEFAULTCAPACITY_EMPTY_ELEMENTDATA pa1 h0 n0 _ T13.heap _
    rw [e13]
    exact ⟨b6, k6, rfl, N13, K14, f15, f16, Fw13, f17, sz9, f18, f19, O6⟩
theorem pd_6 : parseMethodDescriptor "(I)[Ljava/lang/Object;" = some ⟨[.int], some (.array (.object "java/lang/Object"))⟩ := by decide +kernel
theorem d11_10 : decode jdk_38_method_7_code 10 = .ok (.areturn, 1) := by decide +kernel
def Q_au11_0 (Z : State) (wINTEGER : Addr) (wDOUBLE : Addr) (wBOOLEAN : Addr) (wDEFAULTCAPACITY_EMPTY_ELEMENTDATA : Addr) (kwDEFAULTCAPACITY_EMPTY_ELEMENTDATA : ClassId) (pa1 : Addr) (h0 : Heap) (n0 : Nat) (v : Option Value) (h : Heap) (L : List Loc) : Prop := ∃ (e1 : Addr) (e2 : ClassId), v = some (.ref e1) ∧ Fr n0 L ∧ Keep h0 h [pa1] ∧ Exa Z h pa1 s2n ∧ Fld Z h pa1 s5n "modCount" "I" (.int 1) ∧ Fld Z h pa1 s2n "elementData" s3n (.ref e1) ∧ Fld Z h pa1 s2n "size" "I" (.int 0) ∧ h0.size ≤ e1 ∧ Exa Z h e1 s3n ∧ Arv Z h e1 e2 (.object s4n) (10 : Int32) ([.null, .null, .null, .null, .null, .null, .null, .null, .null, .null]) .null ∧ Ovr Z e2 s4n
theorem au11_0 (l : Launch) (Z : State) (a0 : Array Value) (hw : ∀ d ∈ tables_1, d.before a0 Z = true) (ws : List Jvm.Cond) (wINTEGER : Addr) (wDOUBLE : Addr) (wBOOLEAN : Addr) (wDEFAULTCAPACITY_EMPTY_ELEMENTDATA : Addr) (kwDEFAULTCAPACITY_EMPTY_ELEMENTDATA : ClassId) (hS : SS Z wINTEGER wDOUBLE wBOOLEAN wDEFAULTCAPACITY_EMPTY_ELEMENTDATA kwDEFAULTCAPACITY_EMPTY_ELEMENTDATA) (pa1 : Addr) (h0 : Heap) (n0 : Nat) (O0 : Old Z n0 h0) (P0 : Exa Z h0 pa1 s2n) (P1 : Fld Z h0 pa1 s5n "modCount" "I" (.int 1)) (P2 : Fld Z h0 pa1 s2n "elementData" s3n (.ref wDEFAULTCAPACITY_EMPTY_ELEMENTDATA)) (P3 : Fld Z h0 pa1 s2n "size" "I" (.int 0)) (P4 : n0 ≤ pa1) :
    MetB l M11 jdk_38_method_7_code 1 (some (.array (.object s4n))) ws (rmk 2 1 10 29) Z h0 #[(.ref pa1)] (Q_au11_0 Z wINTEGER wDOUBLE wBOOLEAN wDEFAULTCAPACITY_EMPTY_ELEMENTDATA kwDEFAULTCAPACITY_EMPTY_ELEMENTDATA pa1 h0 n0) := by
  refine own_body (plainFor_of_name pn_java_util_ArrayList) ?_
  intro p e s m below meth c s₁ hx hby hml hown hnm hret0 hlk0 hZ X0 e0
  have N0 := Fr.nil n0
  have pre0 : ∀ t, Steps p.tables e below (s₁.setTop (mkF m 0 #[(vr pa1)] [])) t → Steps p.tables e below (s₁.setTop (entryFrame m #[(.ref pa1)] 1)) t := fun t k => castTop (ef_au11_0 m pa1) k
  have K0 := Keep.refl h0 [pa1]
  have hS0 := hS
  obtain ⟨S_wINTEGER, E_wINTEGER, S_wDOUBLE, E_wDOUBLE, S_wBOOLEAN, E_wBOOLEAN, F_ordinal_wINTEGER, F_ordinal_wDOUBLE, F_ordinal_wBOOLEAN, S_wDEFAULTCAPACITY_EMPTY_ELEMENTDATA, E_wDEFAULTCAPACITY_EMPTY_ELEMENTDATA, V_wDEFAULTCAPACITY_EMPTY_ELEMENTDATA⟩ := hS0
  obtain ⟨T1, X1, e1, st1⟩ := getF X0 hx hZ hown (host := "") (Or.inl (ow hw 82 rfl)) Via.refl e0 P3 (g := (mkF m 2 #[(vr pa1)] [(.ref pa1), (.ref pa1)])) rfl rfl (hb hby d11_2)
  obtain ⟨cq2, q2, q2'⟩ := P0.cell
  obtain ⟨_, _, ⟨T2, L2, k2, n2⟩, -, X2, ⟨Lc2, hQ2, l2, y2, z2⟩, st2⟩ := X1.privateBack hx (y := M10) hown (mvT hZ (ow hw 94 rfl)) (mvT hZ (ow hw 95 rfl)) (mvT hZ (ow hw 97 rfl)) (Cond.privateMethod_at (mvP hZ (ow hw 96 rfl) (args := #[]))) (mvT hZ (ow hw 98 rfl)) (by decide) (backOf (W := 0) (au12_0 l Z a0 hw [] wINTEGER wDOUBLE wBOOLEAN wDEFAULTCAPACITY_EMPTY_ELEMENTDATA kwDEFAULTCAPACITY_EMPTY_ELEMENTDATA hS pa1 h0 n0 O0 P0 P1 P2 P3 P4) hZ (ow hw 98 rfl) (ow hw 12 rfl) (by decide) (by decide)) (g := (mkF m 7 #[(vr pa1)] [(.int 1), (.ref pa1)])) rfl (by rw [hml]; rfl) (Steps.refl _) (a := pa1) (by rw [e1]; exact q2) q2' (argsL := [(.int 1)]) (rest := []) (lenOf pd_6 rfl) rfl (by show 2 * 0 + _ ≤ _; exact Nat.le_of_eq rfl) (hb hby d11_7) (fun _ _ => ⟨rfl, e1, (by decide : 0 + 1 ≤ _), (by decide : 0 + 10 ≤ _)⟩)
  dsimp only [Pt.U, Pt.locs, Pt.cells, Pt.slots] at X2 l2 y2 z2 st2 hQ2
  subst y2 z2
  obtain ⟨e1_2, e2_2, rfl, Nq2, K2q, p2_0, p2_1, p2_2, p2_3, p2_4, p2_5, p2_6, p2_7⟩ := hQ2
  have N2 : Fr n0 L2 := (congrArg (Fr n0) l2).mpr (Fr.app N0 Nq2)
  have ne3 : pa1 ≠ e1_2 := Nat.ne_of_lt (Nat.lt_of_lt_of_le P0.lt p2_4)
  have g4 : n0 ≤ e1_2 := Nat.le_trans (own_sz O0) p2_4
  have sz5 : h0.size ≤ e1_2 := Nat.le_trans K0.1 p2_4
  have O6 : Old Z n0 T2.heap := O0.keep K2q (allS P4 all0)
  have K6 : Keep h0 T2.heap [pa1] := K0.trans K2q (allS (Or.inl (List.mem_of_getElem? (i := 0) rfl)) all0)
  obtain ⟨fs, hr, hrun, hended, hW, hsame⟩ := X2.leave (v := some (.ref e1_2)) (fun h => by rw [hret0] at h; cases h)
  refine ⟨_, _, pre0 _ ?_, hrun, hended, _, _, rfl, ?_, ⟨_, rfl⟩, hW, hsame.mono (by decide) (by decide)⟩
  · skip
    show Steps p.tables e below (s₁.setTop (mkF m 0 #[(vr pa1)] [])) _
    refine XS.aloadN X0.here hx rfl (hb hby d11_0) rfl rfl ?_
    refine XS.aloadN X0.here hx rfl (hb hby d11_1) rfl rfl ?_
    refine st1 _ ?_
    refine XS.iconst X1.here hx rfl (hb hby d11_5) ?_
    refine XS.iadd X1.here hx rfl (hb hby d11_6) rfl ?_
    refine st2.trans ?_
    show Steps p.tables e below (T2.setTop (mkF m 10 #[(vr pa1)] [(.ref e1_2)])) _
    jvm_step X2.here [X2.here.top, hx, (hb hby d11_10), X2.method', hret0, Value.isRef, FieldType.isReference]
    first | (intro acts; rw [hr _ acts rfl rfl rfl]) | rw [hr _ _ rfl rfl rfl]
    exact Steps.refl _
  · show Q_au11_0 Z wINTEGER wDOUBLE wBOOLEAN wDEFAULTCAPACITY_EMPTY_ELEMENTDATA kwDEFAULTCAPACITY_EMPTY_ELEMENTDATA pa1 h0 n0 _ T2.heap _
    exact ⟨e1_2, e2_2, rfl, N2, K6, p2_0, p2_1, p2_2, p2_3, sz5, p2_5, p2_6, p2_7⟩
theorem pd_7 : parseMethodDescriptor "()[Ljava/lang/Object;" = some ⟨[], some (.array (.object "java/lang/Object"))⟩ := by decide +kernel
theorem d10_10 : decode jdk_38_method_24_code 10 = .ok (.astore_n 2, 1) := by decide +kernel
theorem d10_11 : decode jdk_38_method_24_code 11 = .ok (.aload_n 2, 1) := by decide +kernel
theorem d10_12 : decode jdk_38_method_24_code 12 = .ok (.iload_n 3, 1) := by decide +kernel
theorem d10_13 : decode jdk_38_method_24_code 13 = .ok (.aload_n 1, 1) := by decide +kernel
theorem d10_14 : decode jdk_38_method_24_code 14 = .ok (.aastore, 1) := by decide +kernel
theorem d10_15 : decode jdk_38_method_24_code 15 = .ok (.aload_n 0, 1) := by decide +kernel
theorem d10_16 : decode jdk_38_method_24_code 16 = .ok (.iload_n 3, 1) := by decide +kernel
theorem d10_17 : decode jdk_38_method_24_code 17 = .ok (.iconst 1, 1) := by decide +kernel
theorem d10_18 : decode jdk_38_method_24_code 18 = .ok (.iadd, 1) := by decide +kernel
theorem d10_19 : decode jdk_38_method_24_code 19 = .ok (.putfield 48, 3) := by decide +kernel
theorem d10_22 : decode jdk_38_method_24_code 22 = .ok (.return_, 1) := by decide +kernel
def Q_au10_0 (Z : State) (wINTEGER : Addr) (wDOUBLE : Addr) (wBOOLEAN : Addr) (wDEFAULTCAPACITY_EMPTY_ELEMENTDATA : Addr) (kwDEFAULTCAPACITY_EMPTY_ELEMENTDATA : ClassId) (pa1 : Addr) (pa2 : Addr) (h0 : Heap) (n0 : Nat) (v : Option Value) (h : Heap) (L : List Loc) : Prop := ∃ (e1 : Addr) (e2 : ClassId), v = none ∧ Fr n0 L ∧ Keep h0 h [pa1] ∧ Exa Z h pa1 s2n ∧ Fld Z h pa1 s5n "modCount" "I" (.int 1) ∧ Fld Z h pa1 s2n "elementData" s3n (.ref e1) ∧ Fld Z h pa1 s2n "size" "I" (.int 1) ∧ h0.size ≤ e1 ∧ Exa Z h e1 s3n ∧ Arv Z h e1 e2 (.object s4n) (10 : Int32) ([(.ref pa2), .null, .null, .null, .null, .null, .null, .null, .null, .null]) .null ∧ Ovr Z e2 s4n
theorem au10_0 (l : Launch) (Z : State) (a0 : Array Value) (hw : ∀ d ∈ tables_1, d.before a0 Z = true) (ws : List Jvm.Cond) (wINTEGER : Addr) (wDOUBLE : Addr) (wBOOLEAN : Addr) (wDEFAULTCAPACITY_EMPTY_ELEMENTDATA : Addr) (kwDEFAULTCAPACITY_EMPTY_ELEMENTDATA : ClassId) (hS : SS Z wINTEGER wDOUBLE wBOOLEAN wDEFAULTCAPACITY_EMPTY_ELEMENTDATA kwDEFAULTCAPACITY_EMPTY_ELEMENTDATA) (pa1 : Addr) (pa2 : Addr) (h0 : Heap) (n0 : Nat) (O0 : Old Z n0 h0) (P0 : Exa Z h0 pa1 s2n) (P1 : Fld Z h0 pa1 s5n "modCount" "I" (.int 1)) (P2 : Fld Z h0 pa1 s2n "elementData" s3n (.ref wDEFAULTCAPACITY_EMPTY_ELEMENTDATA)) (P3 : Fld Z h0 pa1 s2n "size" "I" (.int 0)) (P4 : Exa Z h0 pa2 s6n) (P10 : n0 ≤ pa1) :
    MetB l M12 jdk_38_method_24_code 4 none ws (rmk 3 1 10 41) Z h0 #[(.ref pa1), (.ref pa2), (.ref wDEFAULTCAPACITY_EMPTY_ELEMENTDATA), (.int 0)] (Q_au10_0 Z wINTEGER wDOUBLE wBOOLEAN wDEFAULTCAPACITY_EMPTY_ELEMENTDATA kwDEFAULTCAPACITY_EMPTY_ELEMENTDATA pa1 pa2 h0 n0) := by
  refine own_body (plainFor_of_name pn_java_util_ArrayList) ?_
  intro p e s m below meth c s₁ hx hby hml hown hnm hret0 hlk0 hZ X0 e0
  have N0 := Fr.nil n0
  have pre0 : ∀ t, Steps p.tables e below (s₁.setTop (mkF m 0 #[(vr pa1), (vr pa2), (vr wDEFAULTCAPACITY_EMPTY_ELEMENTDATA), (vi 0)] [])) t → Steps p.tables e below (s₁.setTop (entryFrame m #[(.ref pa1), (.ref pa2), (.ref wDEFAULTCAPACITY_EMPTY_ELEMENTDATA), (.int 0)] 4)) t := fun t k => castTop (ef_au10_0 m pa1 pa2 wDEFAULTCAPACITY_EMPTY_ELEMENTDATA (0 : Int32)) k
  have K0 := Keep.refl h0 [pa1]
  have hS0 := hS
  obtain ⟨S_wINTEGER, E_wINTEGER, S_wDOUBLE, E_wDOUBLE, S_wBOOLEAN, E_wBOOLEAN, F_ordinal_wINTEGER, F_ordinal_wDOUBLE, F_ordinal_wBOOLEAN, S_wDEFAULTCAPACITY_EMPTY_ELEMENTDATA, E_wDEFAULTCAPACITY_EMPTY_ELEMENTDATA, V_wDEFAULTCAPACITY_EMPTY_ELEMENTDATA⟩ := hS0
  obtain ⟨cl1, Ar1, -, Sz1, Nn1, -, -⟩ := (id (V_wDEFAULTCAPACITY_EMPTY_ELEMENTDATA.ext O0.2))
  obtain ⟨cq2, q2, q2'⟩ := P0.cell
  obtain ⟨_, _, ⟨T2, L2, k2, n2⟩, -, X2, ⟨Lc2, hQ2, l2, y2, z2⟩, st2⟩ := X0.privateBack hx (y := M11) hown (mvT hZ (ow hw 89 rfl)) (mvT hZ (ow hw 90 rfl)) (mvT hZ (ow hw 92 rfl)) (Cond.privateMethod_at (mvP hZ (ow hw 91 rfl) (args := #[]))) (mvT hZ (ow hw 93 rfl)) (by decide) (backOf (W := 0) (au11_0 l Z a0 hw [] wINTEGER wDOUBLE wBOOLEAN wDEFAULTCAPACITY_EMPTY_ELEMENTDATA kwDEFAULTCAPACITY_EMPTY_ELEMENTDATA hS pa1 h0 n0 O0 P0 P1 P2 P3 P10) hZ (ow hw 93 rfl) (ow hw 12 rfl) (by decide) (by decide)) (g := (mkF m 7 #[(vr pa1), (vr pa2), (vr wDEFAULTCAPACITY_EMPTY_ELEMENTDATA), (vi 0)] [(.ref pa1)])) rfl (by rw [hml]; rfl) (Steps.refl _) (a := pa1) (by rw [e0]; exact q2) q2' (argsL := []) (rest := []) (lenOf pd_7 rfl) rfl (by show 2 * 0 + _ ≤ _; exact Nat.le_of_eq rfl) (hb hby d10_7) (fun _ _ => ⟨rfl, e0, (by decide : 0 + 1 ≤ _), (by decide : 0 + 10 ≤ _)⟩)
  dsimp only [Pt.U, Pt.locs, Pt.cells, Pt.slots] at X2 l2 y2 z2 st2 hQ2
  subst y2 z2
  obtain ⟨e1_2, e2_2, rfl, Nq2, K2q, p2_0, p2_1, p2_2, p2_3, p2_4, p2_5, p2_6, p2_7⟩ := hQ2
  have N2 : Fr n0 L2 := (congrArg (Fr n0) l2).mpr (Fr.app N0 Nq2)
  have ne3 : pa1 ≠ e1_2 := Nat.ne_of_lt (Nat.lt_of_lt_of_le P0.lt p2_4)
  have ne4 : pa2 ≠ e1_2 := Nat.ne_of_lt (Nat.lt_of_lt_of_le P4.lt p2_4)
  have g5 : n0 ≤ e1_2 := Nat.le_trans (own_sz O0) p2_4
  have sz6 : h0.size ≤ e1_2 := Nat.le_trans K0.1 p2_4
  have O7 : Old Z n0 T2.heap := O0.keep K2q (allS P10 all0)
  have K7 : Keep h0 T2.heap [pa1] := K0.trans K2q (allS (Or.inl (List.mem_of_getElem? (i := 0) rfl)) all0)
  have f9 : Exa Z T2.heap pa2 s6n := (P4.keep K2q)
  obtain ⟨cl8, Ar8, qc8, Sz8, Nn8, Ha8, Gg8⟩ := (id p2_6)
  have hin8 : ¬ ((0 : Int32) < 0 ∨ cl8.slots.size ≤ ((0 : Int32)).toNatClampNeg) := inb_of Sz8 ⟨by decide, by decide⟩
  obtain ⟨T8, h8, X8, e8, W8, st8⟩ := stR X2 hx hZ rfl Ar8 (j := (0 : Int32)) hin8 rfl (Sto.ofV Ar8 qc8 p2_7 (Ins.of_exa f9 (ow hw 104 rfl))) (g := (mkF m 14 #[(vr pa1), (vr pa2), (vr e1_2), (vi 0)] [(.ref pa2), (.int 0), (.ref e1_2)])) rfl rfl (hb hby d10_14)
  have O10 : Old Z n0 h8 := O7.wr W8 g5
  have K10 : Keep h0 h8 [pa1] := K7.wr W8 (Or.inr sz6)
  have V8 : Arv Z h8 e1_2 e2_2 (.object s4n) (10 : Int32) ([(.ref pa2), .null, .null, .null, .null, .null, .null, .null, .null, .null]) .null := Arv.set Ar8 qc8 Sz8 Nn8 Ha8 Gg8 (v := (.ref pa2)) rfl W8 0 rfl (Nat.le_of_ble_eq_true rfl)
  have N8 := Fr.snoc X8 N2 g5
  have f11 : Exa Z h8 pa1 s2n := (p2_0.wr W8)
  have f12 : Fld Z h8 pa1 s2n "size" "I" (.int 0) := (p2_3.other W8 (Or.inl ne3))
  obtain ⟨T13, h13, X13, e13, W13, st13⟩ := putF X8 hx hZ hown (host := "") (Or.inl (ow hw 82 rfl)) Via.refl e8 f12 f11 (Or.inl (ow hw 83 rfl)) (ow hw 11 rfl) (ty := .int) (by decide) rfl rfl (g := (mkF m 19 #[(vr pa1), (vr pa2), (vr e1_2), (vi 0)] [(.int 1), (.ref pa1)])) rfl rfl (hb hby d10_19)
  have N13 := Fr.snoc X13 N8 P10
  have O14 : Old Z n0 h13 := O10.wr W13 P10
  have K14 : Keep h0 h13 [pa1] := K10.wr W13 (Or.inl (List.mem_of_getElem? (i := 0) rfl))
  have Fw13 : Fld Z h13 pa1 s2n "size" "I" (.int 1) := f12.same W13
  have f15 : Exa Z h13 pa1 s2n := (f11.wr W13)
  have f16 : Fld Z h13 pa1 s5n "modCount" "I" (.int 1) := ((p2_1.other W8 (Or.inl ne3)).other W13 (Or.inr (slot_ne (Or.inl (ow hw 32 rfl)) (Or.inl (ow hw 83 rfl)) (by decide) (t := .int) (t' := .int) (by decide) (by decide))))
  have f17 : Fld Z h13 pa1 s2n "elementData" s3n (.ref e1_2) := ((p2_2.other W8 (Or.inl ne3)).other W13 (Or.inr (slot_ne (Or.inl (ow hw 35 rfl)) (Or.inl (ow hw 83 rfl)) (by decide) (t := (.array (.object s4n))) (t' := .int) (by decide) (by decide))))
  have f18 : Exa Z h13 e1_2 s3n := ((p2_5.wr W8).wr W13)
  have f19 : Arv Z h13 e1_2 e2_2 (.object s4n) (10 : Int32) ([(.ref pa2), .null, .null, .null, .null, .null, .null, .null, .null, .null]) .null := (V8.other W13 (Ne.symm ne3))
  obtain ⟨fs, hr, hrun, hended, hW, hsame⟩ := X13.leave (v := none) (fun _ => rfl)
  refine ⟨_, _, pre0 _ ?_, hrun, hended, _, _, rfl, ?_, ⟨_, rfl⟩, hW, hsame.mono (by decide) (by decide)⟩
  · skip
    show Steps p.tables e below (s₁.setTop (mkF m 0 #[(vr pa1), (vr pa2), (vr wDEFAULTCAPACITY_EMPTY_ELEMENTDATA), (vi 0)] [])) _
    refine XS.iloadN X0.here hx rfl (hb hby d10_0) rfl ?_
    refine XS.aloadN X0.here hx rfl (hb hby d10_1) rfl rfl ?_
    refine X0.arraylength hx (by rw [e0]; exact Ar1.1) (State.isArrayOf_alike hZ.alike Ar1.2.1) (g := (mkF m 2 #[(vr pa1), (vr pa2), (vr wDEFAULTCAPACITY_EMPTY_ELEMENTDATA), (vi 0)] [(.ref wDEFAULTCAPACITY_EMPTY_ELEMENTDATA), (.int 0)])) rfl rfl (hb hby d10_2) _ ?_
    rw [len_of Sz1 Nn1]
    refine XS.icmpNo X0.here hx rfl (hb hby d10_3) rfl (teq (by decide : (0 : Int32) = (0 : Int32))).2 ?_
    refine XS.aloadN X0.here hx rfl (hb hby d10_6) rfl rfl ?_
    refine st2.trans ?_
    show Steps p.tables e below (T2.setTop (mkF m 10 #[(vr pa1), (vr pa2), (vr wDEFAULTCAPACITY_EMPTY_ELEMENTDATA), (vi 0)] [(.ref e1_2)])) _
    refine XS.astoreN X2.here hx rfl (hb hby d10_10) rfl rfl (l' := #[(vr pa1), (vr pa2), (vr e1_2), (vi 0)]) rfl ?_
    refine XS.aloadN X2.here hx rfl (hb hby d10_11) rfl rfl ?_
    refine XS.iloadN X2.here hx rfl (hb hby d10_12) rfl ?_
    refine XS.aloadN X2.here hx rfl (hb hby d10_13) rfl rfl ?_
    refine st8 _ ?_
    refine XS.aloadN X8.here hx rfl (hb hby d10_15) rfl rfl ?_
    show Steps p.tables e below (T8.setTop (mkF m 16 #[(vr pa1), (vr pa2), (vr e1_2), (vi 0)] [(.ref pa1)])) _
    refine XS.iloadN X8.here hx rfl (hb hby d10_16) rfl ?_
    refine XS.iconst X8.here hx rfl (hb hby d10_17) ?_
    refine XS.iadd X8.here hx rfl (hb hby d10_18) rfl ?_
    refine st13 _ ?_
    exact X13.returnOut hx hret0 (hb hby d10_22) hr
  · show Q_au10_0 Z wINTEGER wDOUBLE wBOOLEAN wDEFAULTCAPACITY_EMPTY_ELEMENTDATA kwDEFAULTCAPACITY_EMPTY_ELEMENTDATA pa1 pa2 h0 n0 _ T13.heap _
    rw [e13]
    exact ⟨e1_2, e2_2, rfl, N13, K14, f15, f16, f17, Fw13, sz6, f18, f19, p2_7⟩
theorem pd_8 : parseMethodDescriptor "(Ljava/lang/Object;[Ljava/lang/Object;I)V" = some ⟨[(.object "java/lang/Object"), (.array (.object "java/lang/Object")), .int], none⟩ := by decide +kernel
theorem d9_23 : decode jdk_38_method_25_code 23 = .ok (.iconst 1, 1) := by decide +kernel
theorem d9_24 : decode jdk_38_method_25_code 24 = .ok (.ireturn, 1) := by decide +kernel
def Q_au9_0 (Z : State) (wINTEGER : Addr) (wDOUBLE : Addr) (wBOOLEAN : Addr) (wDEFAULTCAPACITY_EMPTY_ELEMENTDATA : Addr) (kwDEFAULTCAPACITY_EMPTY_ELEMENTDATA : ClassId) (pa1 : Addr) (pa2 : Addr) (h0 : Heap) (n0 : Nat) (v : Option Value) (h : Heap) (L : List Loc) : Prop := ∃ (e1 : Addr) (e2 : ClassId), v = some (.int 1) ∧ Fr n0 L ∧ Keep h0 h [pa1] ∧ Exa Z h pa1 s2n ∧ Fld Z h pa1 s5n "modCount" "I" (.int 1) ∧ Fld Z h pa1 s2n "elementData" s3n (.ref e1) ∧ Fld Z h pa1 s2n "size" "I" (.int 1) ∧ h0.size ≤ e1 ∧ Exa Z h e1 s3n ∧ Arv Z h e1 e2 (.object s4n) (10 : Int32) ([(.ref pa2), .null, .null, .null, .null, .null, .null, .null, .null, .null]) .null ∧ Ovr Z e2 s4n
theorem au9_0 (l : Launch) (Z : State) (a0 : Array Value) (hw : ∀ d ∈ tables_1, d.before a0 Z = true) (ws : List Jvm.Cond) (wINTEGER : Addr) (wDOUBLE : Addr) (wBOOLEAN : Addr) (wDEFAULTCAPACITY_EMPTY_ELEMENTDATA : Addr) (kwDEFAULTCAPACITY_EMPTY_ELEMENTDATA : ClassId) (hS : SS Z wINTEGER wDOUBLE wBOOLEAN wDEFAULTCAPACITY_EMPTY_ELEMENTDATA kwDEFAULTCAPACITY_EMPTY_ELEMENTDATA) (pa1 : Addr) (pa2 : Addr) (h0 : Heap) (n0 : Nat) (O0 : Old Z n0 h0) (P0 : Exa Z h0 pa1 s2n) (P1 : Fld Z h0 pa1 s5n "modCount" "I" (.int 0)) (P2 : Fld Z h0 pa1 s2n "elementData" s3n (.ref wDEFAULTCAPACITY_EMPTY_ELEMENTDATA)) (P3 : Fld Z h0 pa1 s2n "size" "I" (.int 0)) (P4 : Exa Z h0 pa2 s6n) (P10 : n0 ≤ pa1) :
    MetB l M13 jdk_38_method_25_code 2 (some .boolean) ws (rmk 4 1 10 56) Z h0 #[(.ref pa1), (.ref pa2)] (Q_au9_0 Z wINTEGER wDOUBLE wBOOLEAN wDEFAULTCAPACITY_EMPTY_ELEMENTDATA kwDEFAULTCAPACITY_EMPTY_ELEMENTDATA pa1 pa2 h0 n0) := by
  refine own_body (plainFor_of_name pn_java_util_ArrayList) ?_
  intro p e s m below meth c s₁ hx hby hml hown hnm hret0 hlk0 hZ X0 e0
  have N0 := Fr.nil n0
  have pre0 : ∀ t, Steps p.tables e below (s₁.setTop (mkF m 0 #[(vr pa1), (vr pa2)] [])) t → Steps p.tables e below (s₁.setTop (entryFrame m #[(.ref pa1), (.ref pa2)] 2)) t := fun t k => castTop (ef_au9_0 m pa1 pa2) k
  have K0 := Keep.refl h0 [pa1]
  have hS0 := hS
  obtain ⟨S_wINTEGER, E_wINTEGER, S_wDOUBLE, E_wDOUBLE, S_wBOOLEAN, E_wBOOLEAN, F_ordinal_wINTEGER, F_ordinal_wDOUBLE, F_ordinal_wBOOLEAN, S_wDEFAULTCAPACITY_EMPTY_ELEMENTDATA, E_wDEFAULTCAPACITY_EMPTY_ELEMENTDATA, V_wDEFAULTCAPACITY_EMPTY_ELEMENTDATA⟩ := hS0
  obtain ⟨T1, X1, e1, st1⟩ := getF X0 hx hZ hown (host := "") (Or.inl (ow hw 80 rfl)) (Via.of (ow hw 81 rfl)) e0 P1 (g := (mkF m 2 #[(vr pa1), (vr pa2)] [(.ref pa1), (.ref pa1)])) rfl rfl (hb hby d9_2)
  obtain ⟨T2, h2, X2, e2, W2, st2⟩ := putF X1 hx hZ hown (host := "") (Or.inl (ow hw 80 rfl)) (Via.of (ow hw 81 rfl)) e1 P1 P0 (Or.inl (ow hw 32 rfl)) (ow hw 11 rfl) (ty := .int) (by decide) rfl rfl (g := (mkF m 7 #[(vr pa1), (vr pa2)] [(.int 1), (.ref pa1)])) rfl rfl (hb hby d9_7)
  have N2 := Fr.snoc X2 N0 P10
  have O3 : Old Z n0 h2 := O0.wr W2 P10
  have K3 : Keep h0 h2 [pa1] := K0.wr W2 (Or.inl (List.mem_of_getElem? (i := 0) rfl))
  have Fw2 : Fld Z h2 pa1 s5n "modCount" "I" (.int 1) := P1.same W2
  have f4 : Fld Z h2 pa1 s2n "elementData" s3n (.ref wDEFAULTCAPACITY_EMPTY_ELEMENTDATA) := (P2.other W2 (Or.inr (slot_ne (Or.inl (ow hw 35 rfl)) (Or.inl (ow hw 32 rfl)) (by decide) (t := (.array (.object s4n))) (t' := .int) (by decide) (by decide))))
  obtain ⟨T5, X5, e5, st5⟩ := getF X2 hx hZ hown (host := "") (Or.inl (ow hw 34 rfl)) Via.refl e2 f4 (g := (mkF m 13 #[(vr pa1), (vr pa2)] [(.ref pa1), (.ref pa2), (.ref pa1)])) rfl rfl (hb hby d9_13)
  have f6 : Fld Z h2 pa1 s2n "size" "I" (.int 0) := (P3.other W2 (Or.inr (slot_ne (Or.inl (ow hw 83 rfl)) (Or.inl (ow hw 32 rfl)) (by decide) (t := .int) (t' := .int) (by decide) (by decide))))
  obtain ⟨T7, X7, e7, st7⟩ := getF X5 hx hZ hown (host := "") (Or.inl (ow hw 82 rfl)) Via.refl e5 f6 (g := (mkF m 17 #[(vr pa1), (vr pa2)] [(.ref pa1), (.ref wDEFAULTCAPACITY_EMPTY_ELEMENTDATA), (.ref pa2), (.ref pa1)])) rfl rfl (hb hby d9_17)
  have f8 : Exa Z h2 pa1 s2n := (P0.wr W2)
  have f9 : Exa Z h2 pa2 s6n := (P4.wr W2)
  obtain ⟨cq10, q10, q10'⟩ := f8.cell
  obtain ⟨_, _, ⟨T10, L10, k10, n10⟩, -, X10, ⟨Lc10, hQ10, l10, y10, z10⟩, st10⟩ := X7.privateBack hx (y := M12) hown (mvT hZ (ow hw 84 rfl)) (mvT hZ (ow hw 85 rfl)) (mvT hZ (ow hw 87 rfl)) (Cond.privateMethod_at (mvP hZ (ow hw 86 rfl) (args := #[]))) (mvT hZ (ow hw 88 rfl)) (by decide) (backOf (W := 0) (au10_0 l Z a0 hw [] wINTEGER wDOUBLE wBOOLEAN wDEFAULTCAPACITY_EMPTY_ELEMENTDATA kwDEFAULTCAPACITY_EMPTY_ELEMENTDATA hS pa1 pa2 h2 n0 O3 f8 Fw2 f4 f6 f9 P10) hZ (ow hw 88 rfl) (ow hw 12 rfl) (by decide) (by decide)) (g := (mkF m 20 #[(vr pa1), (vr pa2)] [(.int 0), (.ref wDEFAULTCAPACITY_EMPTY_ELEMENTDATA), (.ref pa2), (.ref pa1)])) rfl (by rw [hml]; rfl) (Steps.refl _) (a := pa1) (by rw [e7]; exact q10) q10' (argsL := [(.ref pa2), (.ref wDEFAULTCAPACITY_EMPTY_ELEMENTDATA), (.int 0)]) (rest := []) (lenOf pd_8 rfl) rfl (by show 2 * 0 + _ ≤ _; exact Nat.le_of_eq rfl) (hb hby d9_20) (fun _ _ => ⟨rfl, e7, (by decide : 0 + 1 ≤ _), (by decide : 0 + 10 ≤ _)⟩)
  dsimp only [Pt.U, Pt.locs, Pt.cells, Pt.slots] at X10 l10 y10 z10 st10 hQ10
  subst y10 z10
  obtain ⟨e1_10, e2_10, rfl, Nq10, K10q, p10_0, p10_1, p10_2, p10_3, p10_4, p10_5, p10_6, p10_7⟩ := hQ10
  have N10 : Fr n0 L10 := (congrArg (Fr n0) l10).mpr (Fr.app N2 Nq10)
  have ne11 : pa1 ≠ e1_10 := Nat.ne_of_lt (Nat.lt_of_lt_of_le f8.lt p10_4)
  have ne12 : pa2 ≠ e1_10 := Nat.ne_of_lt (Nat.lt_of_lt_of_le f9.lt p10_4)
  have g13 : n0 ≤ e1_10 := Nat.le_trans (own_sz O3) p10_4
  have sz14 : h0.size ≤ e1_10 := Nat.le_trans K3.1 p10_4
  have O15 : Old Z n0 T10.heap := O3.keep K10q (allS P10 all0)
  have K15 : Keep h0 T10.heap [pa1] := K3.trans K10q (allS (Or.inl (List.mem_of_getElem? (i := 0) rfl)) all0)
  obtain ⟨fs, hr, hrun, hended, hW, hsame⟩ := X10.leave (v := some (.int 1)) (fun h => by rw [hret0] at h; cases h)
  refine ⟨_, _, pre0 _ ?_, hrun, hended, _, _, rfl, ?_, ⟨_, rfl⟩, hW, hsame.mono (by decide) (by decide)⟩
  · skip
    show Steps p.tables e below (s₁.setTop (mkF m 0 #[(vr pa1), (vr pa2)] [])) _
    refine XS.aloadN X0.here hx rfl (hb hby d9_0) rfl rfl ?_
    refine XS.dup X0.here hx rfl (hb hby d9_1) rfl rfl ?_
    refine st1 _ ?_
    refine XS.iconst X1.here hx rfl (hb hby d9_5) ?_
    refine XS.iadd X1.here hx rfl (hb hby d9_6) rfl ?_
    refine st2 _ ?_
    show Steps p.tables e below (T2.setTop (mkF m 10 #[(vr pa1), (vr pa2)] [])) _
    refine XS.aloadN X2.here hx rfl (hb hby d9_10) rfl rfl ?_
    refine XS.aloadN X2.here hx rfl (hb hby d9_11) rfl rfl ?_
    refine XS.aloadN X2.here hx rfl (hb hby d9_12) rfl rfl ?_
    refine st5 _ ?_
    refine XS.aloadN X5.here hx rfl (hb hby d9_16) rfl rfl ?_
    refine st7 _ ?_
    show Steps p.tables e below (T7.setTop (mkF m 20 #[(vr pa1), (vr pa2)] [(.int 0), (.ref wDEFAULTCAPACITY_EMPTY_ELEMENTDATA), (.ref pa2), (.ref pa1)])) _
    refine st10.trans ?_
    refine XS.iconst X10.here hx rfl (hb hby d9_23) ?_
    exact retN X10 hx (t := .boolean) hret0 (by simp) (hb hby d9_24) hr
  · show Q_au9_0 Z wINTEGER wDOUBLE wBOOLEAN wDEFAULTCAPACITY_EMPTY_ELEMENTDATA kwDEFAULTCAPACITY_EMPTY_ELEMENTDATA pa1 pa2 h0 n0 _ T10.heap _
    exact ⟨e1_10, e2_10, rfl, N10, K15, p10_0, p10_1, p10_2, p10_3, sz14, p10_5, p10_6, p10_7⟩
theorem pd_9 : parseMethodDescriptor "(Ljava/lang/Object;)Z" = some ⟨[(.object "java/lang/Object")], some .boolean⟩ := by decide +kernel
theorem ef_au9_1 (m : MethodId) (x0 : Addr) (x1 : Addr)  : entryFrame m #[(.ref x0), (.ref x1)] 2 = mkF m 0 #[(vr x0), (vr x1)] [] := by first | (simp [entryFrame, mkF, argsToLocals, Value.category]; done) | rfl
theorem ef_au10_1 (m : MethodId) (x0 : Addr) (x1 : Addr) (x2 : Addr) (x3 : Int32)  : entryFrame m #[(.ref x0), (.ref x1), (.ref x2), (.int x3)] 4 = mkF m 0 #[(vr x0), (vr x1), (vr x2), (vi x3)] [] := by first | (simp [entryFrame, mkF, argsToLocals, Value.category]; done) | rfl
def Q_au10_1 (Z : State) (wINTEGER : Addr) (wDOUBLE : Addr) (wBOOLEAN : Addr) (wDEFAULTCAPACITY_EMPTY_ELEMENTDATA : Addr) (kwDEFAULTCAPACITY_EMPTY_ELEMENTDATA : ClassId) (pa1 : Addr) (pa2 : Addr) (pa3 : Addr) (pk7 : ClassId) (pa8 : Addr) (h0 : Heap) (n0 : Nat) (v : Option Value) (h : Heap) (L : List Loc) : Prop := v = none ∧ Fr n0 L ∧ Keep h0 h [pa3, pa1] ∧ Exa Z h pa3 s3n ∧ Arv Z h pa3 pk7 (.object s4n) (10 : Int32) ([(.ref pa8), (.ref pa2), .null, .null, .null, .null, .null, .null, .null, .null]) .null ∧ Ovr Z pk7 s4n ∧ Exa Z h pa1 s2n ∧ Fld Z h pa1 s5n "modCount" "I" (.int 2) ∧ Fld Z h pa1 s2n "elementData" s3n (.ref pa3) ∧ Fld Z h pa1 s2n "size" "I" (.int 2)
theorem au10_1 (l : Launch) (Z : State) (a0 : Array Value) (hw : ∀ d ∈ tables_1, d.before a0 Z = true) (ws : List Jvm.Cond) (wINTEGER : Addr) (wDOUBLE : Addr) (wBOOLEAN : Addr) (wDEFAULTCAPACITY_EMPTY_ELEMENTDATA : Addr) (kwDEFAULTCAPACITY_EMPTY_ELEMENTDATA : ClassId) (hS : SS Z wINTEGER wDOUBLE wBOOLEAN wDEFAULTCAPACITY_EMPTY_ELEMENTDATA kwDEFAULTCAPACITY_EMPTY_ELEMENTDATA) (pa1 : Addr) (pa2 : Addr) (pa3 : Addr) (pk7 : ClassId) (pa8 : Addr) (h0 : Heap) (n0 : Nat) (O0 : Old Z n0 h0) (P0 : Exa Z h0 pa1 s2n) (P1 : Fld Z h0 pa1 s5n "modCount" "I" (.int 2)) (P2 : Fld Z h0 pa1 s2n "elementData" s3n (.ref pa3)) (P3 : Fld Z h0 pa1 s2n "size" "I" (.int 1)) (P4 : Exa Z h0 pa2 s6n) (P9 : Arv Z h0 pa3 pk7 (.object s4n) (10 : Int32) ([(.ref pa8), .null, .null, .null, .null, .null, .null, .null, .null, .null]) .null) (P10 : Ovr Z pk7 s4n) (P11 : Exa Z h0 pa3 s3n) (P19 : n0 ≤ pa1) (P21 : n0 ≤ pa3) (P24 : pa1 ≠ pa3) :
    MetB l M12 jdk_38_method_24_code 4 none ws (rmk 0 0 0 0) Z h0 #[(.ref pa1), (.ref pa2), (.ref pa3), (.int 1)] (Q_au10_1 Z wINTEGER wDOUBLE wBOOLEAN wDEFAULTCAPACITY_EMPTY_ELEMENTDATA kwDEFAULTCAPACITY_EMPTY_ELEMENTDATA pa1 pa2 pa3 pk7 pa8 h0 n0) := by
  refine own_body (plainFor_of_name pn_java_util_ArrayList) ?_
  intro p e s m below meth c s₁ hx hby hml hown hnm hret0 hlk0 hZ X0 e0
  have N0 := Fr.nil n0
  have pre0 : ∀ t, Steps p.tables e below (s₁.setTop (mkF m 0 #[(vr pa1), (vr pa2), (vr pa3), (vi 1)] [])) t → Steps p.tables e below (s₁.setTop (entryFrame m #[(.ref pa1), (.ref pa2), (.ref pa3), (.int 1)] 4)) t := fun t k => castTop (ef_au10_1 m pa1 pa2 pa3 (1 : Int32)) k
  have K0 := Keep.refl h0 [pa3, pa1]
  have hS0 := hS
  obtain ⟨S_wINTEGER, E_wINTEGER, S_wDOUBLE, E_wDOUBLE, S_wBOOLEAN, E_wBOOLEAN, F_ordinal_wINTEGER, F_ordinal_wDOUBLE, F_ordinal_wBOOLEAN, S_wDEFAULTCAPACITY_EMPTY_ELEMENTDATA, E_wDEFAULTCAPACITY_EMPTY_ELEMENTDATA, V_wDEFAULTCAPACITY_EMPTY_ELEMENTDATA⟩ := hS0
  obtain ⟨cl1, Ar1, -, Sz1, Nn1, -, -⟩ := (id P9)
  obtain ⟨cl2, Ar2, qc2, Sz2, Nn2, Ha2, Gg2⟩ := (id P9)
  have hin2 : ¬ ((1 : Int32) < 0 ∨ cl2.slots.size ≤ ((1 : Int32)).toNatClampNeg) := inb_of Sz2 ⟨by decide, by decide⟩
  obtain ⟨T2, h2, X2, e2, W2, st2⟩ := stR X0 hx hZ e0 Ar2 (j := (1 : Int32)) hin2 rfl (Sto.ofV Ar2 qc2 P10 (Ins.of_exa P4 (ow hw 104 rfl))) (g := (mkF m 14 #[(vr pa1), (vr pa2), (vr pa3), (vi 1)] [(.ref pa2), (.int 1), (.ref pa3)])) rfl rfl (hb hby d10_14)
  have O3 : Old Z n0 h2 := O0.wr W2 P21
  have K3 : Keep h0 h2 [pa3, pa1] := K0.wr W2 (Or.inl (List.mem_of_getElem? (i := 0) rfl))
  have V2 : Arv Z h2 pa3 pk7 (.object s4n) (10 : Int32) ([(.ref pa8), (.ref pa2), .null, .null, .null, .null, .null, .null, .null, .null]) .null := Arv.set Ar2 qc2 Sz2 Nn2 Ha2 Gg2 (v := (.ref pa2)) rfl W2 1 rfl (Nat.le_of_ble_eq_true rfl)
  have N2 := Fr.snoc X2 N0 P21
  have f4 : Exa Z h2 pa1 s2n := (P0.wr W2)
  have f5 : Fld Z h2 pa1 s2n "size" "I" (.int 1) := (P3.other W2 (Or.inl P24))
  obtain ⟨T6, h6, X6, e6, W6, st6⟩ := putF X2 hx hZ hown (host := "") (Or.inl (ow hw 82 rfl)) Via.refl e2 f5 f4 (Or.inl (ow hw 83 rfl)) (ow hw 11 rfl) (ty := .int) (by decide) rfl rfl (g := (mkF m 19 #[(vr pa1), (vr pa2), (vr pa3), (vi 1)] [(.int 2), (.ref pa1)])) rfl rfl (hb hby d10_19)
  have N6 := Fr.snoc X6 N2 P19
  have O7 : Old Z n0 h6 := O3.wr W6 P19
  have K7 : Keep h0 h6 [pa3, pa1] := K3.wr W6 (Or.inl (List.mem_of_getElem? (i := 1) rfl))
  have Fw6 : Fld Z h6 pa1 s2n "size" "I" (.int 2) := f5.same W6
  have f8 : Exa Z h6 pa3 s3n := ((P11.wr W2).wr W6)
  have f9 : Arv Z h6 pa3 pk7 (.object s4n) (10 : Int32) ([(.ref pa8), (.ref pa2), .null, .null, .null, .null, .null, .null, .null, .null]) .null := (V2.other W6 (Ne.symm P24))
  have f10 : Exa Z h6 pa1 s2n := (f4.wr W6)
  have f11 : Fld Z h6 pa1 s5n "modCount" "I" (.int 2) := ((P1.other W2 (Or.inl P24)).other W6 (Or.inr (slot_ne (Or.inl (ow hw 32 rfl)) (Or.inl (ow hw 83 rfl)) (by decide) (t := .int) (t' := .int) (by decide) (by decide))))
  have f12 : Fld Z h6 pa1 s2n "elementData" s3n (.ref pa3) := ((P2.other W2 (Or.inl P24)).other W6 (Or.inr (slot_ne (Or.inl (ow hw 35 rfl)) (Or.inl (ow hw 83 rfl)) (by decide) (t := (.array (.object s4n))) (t' := .int) (by decide) (by decide))))
  obtain ⟨fs, hr, hrun, hended, hW, hsame⟩ := X6.leave (v := none) (fun _ => rfl)
  refine ⟨_, _, pre0 _ ?_, hrun, hended, _, _, rfl, ?_, ⟨_, rfl⟩, hW, hsame.mono (by decide) (by decide)⟩
  · skip
    show Steps p.tables e below (s₁.setTop (mkF m 0 #[(vr pa1), (vr pa2), (vr pa3), (vi 1)] [])) _
    refine XS.iloadN X0.here hx rfl (hb hby d10_0) rfl ?_
    refine XS.aloadN X0.here hx rfl (hb hby d10_1) rfl rfl ?_
    refine X0.arraylength hx (by rw [e0]; exact Ar1.1) (State.isArrayOf_alike hZ.alike Ar1.2.1) (g := (mkF m 2 #[(vr pa1), (vr pa2), (vr pa3), (vi 1)] [(.ref pa3), (.int 1)])) rfl rfl (hb hby d10_2) _ ?_
    rw [len_of Sz1 Nn1]
    refine XS.icmpYes X0.here hx rfl (pc0 := 3) (pc' := 11) rfl (hb hby d10_3) rfl (feq (by decide : ¬ ((1 : Int32) = (10 : Int32)))).2 (by decide) (by decide) ?_
    refine XS.aloadN X0.here hx rfl (hb hby d10_11) rfl rfl ?_
    refine XS.iloadN X0.here hx rfl (hb hby d10_12) rfl ?_
    show Steps p.tables e below (s₁.setTop (mkF m 13 #[(vr pa1), (vr pa2), (vr pa3), (vi 1)] [(.int 1), (.ref pa3)])) _
    refine XS.aloadN X0.here hx rfl (hb hby d10_13) rfl rfl ?_
    refine st2 _ ?_
    refine XS.aloadN X2.here hx rfl (hb hby d10_15) rfl rfl ?_
    refine XS.iloadN X2.here hx rfl (hb hby d10_16) rfl ?_
    refine XS.iconst X2.here hx rfl (hb hby d10_17) ?_
    refine XS.iadd X2.here hx rfl (hb hby d10_18) rfl ?_
    show Steps p.tables e below (T2.setTop (mkF m 19 #[(vr pa1), (vr pa2), (vr pa3), (vi 1)] [(.int 2), (.ref pa1)])) _
    refine st6 _ ?_
    exact X6.returnOut hx hret0 (hb hby d10_22) hr
  · show Q_au10_1 Z wINTEGER wDOUBLE wBOOLEAN wDEFAULTCAPACITY_EMPTY_ELEMENTDATA kwDEFAULTCAPACITY_EMPTY_ELEMENTDATA pa1 pa2 pa3 pk7 pa8 h0 n0 _ T6.heap _
    rw [e6]
    exact ⟨rfl, N6, K7, f8, f9, P10, f10, f11, f12, Fw6⟩
def Q_au9_1 (Z : State) (wINTEGER : Addr) (wDOUBLE : Addr) (wBOOLEAN : Addr) (wDEFAULTCAPACITY_EMPTY_ELEMENTDATA : Addr) (kwDEFAULTCAPACITY_EMPTY_ELEMENTDATA : ClassId) (pa1 : Addr) (pa2 : Addr) (pa3 : Addr) (pk7 : ClassId) (pa8 : Addr) (h0 : Heap) (n0 : Nat) (v : Option Value) (h : Heap) (L : List Loc) : Prop := v = some (.int 1) ∧ Fr n0 L ∧ Keep h0 h [pa1, pa3] ∧ Exa Z h pa1 s2n ∧ Fld Z h pa1 s5n "modCount" "I" (.int 2) ∧ Fld Z h pa1 s2n "elementData" s3n (.ref pa3) ∧ Fld Z h pa1 s2n "size" "I" (.int 2) ∧ Exa Z h pa3 s3n ∧ Arv Z h pa3 pk7 (.object s4n) (10 : Int32) ([(.ref pa8), (.ref pa2), .null, .null, .null, .null, .null, .null, .null, .null]) .null ∧ Ovr Z pk7 s4n
theorem au9_1 (l : Launch) (Z : State) (a0 : Array Value) (hw : ∀ d ∈ tables_1, d.before a0 Z = true) (ws : List Jvm.Cond) (wINTEGER : Addr) (wDOUBLE : Addr) (wBOOLEAN : Addr) (wDEFAULTCAPACITY_EMPTY_ELEMENTDATA : Addr) (kwDEFAULTCAPACITY_EMPTY_ELEMENTDATA : ClassId) (hS : SS Z wINTEGER wDOUBLE wBOOLEAN wDEFAULTCAPACITY_EMPTY_ELEMENTDATA kwDEFAULTCAPACITY_EMPTY_ELEMENTDATA) (pa1 : Addr) (pa2 : Addr) (pa3 : Addr) (pk7 : ClassId) (pa8 : Addr) (h0 : Heap) (n0 : Nat) (O0 : Old Z n0 h0) (P0 : Exa Z h0 pa1 s2n) (P1 : Fld Z h0 pa1 s5n "modCount" "I" (.int 1)) (P2 : Fld Z h0 pa1 s2n "elementData" s3n (.ref pa3)) (P3 : Fld Z h0 pa1 s2n "size" "I" (.int 1)) (P4 : Exa Z h0 pa2 s6n) (P9 : Arv Z h0 pa3 pk7 (.object s4n) (10 : Int32) ([(.ref pa8), .null, .null, .null, .null, .null, .null, .null, .null, .null]) .null) (P10 : Ovr Z pk7 s4n) (P11 : Exa Z h0 pa3 s3n) (P19 : n0 ≤ pa1) (P21 : n0 ≤ pa3) (P24 : pa1 ≠ pa3) :
    MetB l M13 jdk_38_method_25_code 2 (some .boolean) ws (rmk 1 0 0 15) Z h0 #[(.ref pa1), (.ref pa2)] (Q_au9_1 Z wINTEGER wDOUBLE wBOOLEAN wDEFAULTCAPACITY_EMPTY_ELEMENTDATA kwDEFAULTCAPACITY_EMPTY_ELEMENTDATA pa1 pa2 pa3 pk7 pa8 h0 n0) := by
  refine own_body (plainFor_of_name pn_java_util_ArrayList) ?_
  intro p e s m below meth c s₁ hx hby hml hown hnm hret0 hlk0 hZ X0 e0
  have N0 := Fr.nil n0
  have pre0 : ∀ t, Steps p.tables e below (s₁.setTop (mkF m 0 #[(vr pa1), (vr pa2)] [])) t → Steps p.tables e below (s₁.setTop (entryFrame m #[(.ref pa1), (.ref pa2)] 2)) t := fun t k => castTop (ef_au9_1 m pa1 pa2) k
  have K0 := Keep.refl h0 [pa1, pa3]
  have hS0 := hS
  obtain ⟨S_wINTEGER, E_wINTEGER, S_wDOUBLE, E_wDOUBLE, S_wBOOLEAN, E_wBOOLEAN, F_ordinal_wINTEGER, F_ordinal_wDOUBLE, F_ordinal_wBOOLEAN, S_wDEFAULTCAPACITY_EMPTY_ELEMENTDATA, E_wDEFAULTCAPACITY_EMPTY_ELEMENTDATA, V_wDEFAULTCAPACITY_EMPTY_ELEMENTDATA⟩ := hS0
  obtain ⟨T1, X1, e1, st1⟩ := getF X0 hx hZ hown (host := "") (Or.inl (ow hw 80 rfl)) (Via.of (ow hw 81 rfl)) e0 P1 (g := (mkF m 2 #[(vr pa1), (vr pa2)] [(.ref pa1), (.ref pa1)])) rfl rfl (hb hby d9_2)
  obtain ⟨T2, h2, X2, e2, W2, st2⟩ := putF X1 hx hZ hown (host := "") (Or.inl (ow hw 80 rfl)) (Via.of (ow hw 81 rfl)) e1 P1 P0 (Or.inl (ow hw 32 rfl)) (ow hw 11 rfl) (ty := .int) (by decide) rfl rfl (g := (mkF m 7 #[(vr pa1), (vr pa2)] [(.int 2), (.ref pa1)])) rfl rfl (hb hby d9_7)
  have N2 := Fr.snoc X2 N0 P19
  have O3 : Old Z n0 h2 := O0.wr W2 P19
  have K3 : Keep h0 h2 [pa1, pa3] := K0.wr W2 (Or.inl (List.mem_of_getElem? (i := 0) rfl))
  have Fw2 : Fld Z h2 pa1 s5n "modCount" "I" (.int 2) := P1.same W2
  have f4 : Fld Z h2 pa1 s2n "elementData" s3n (.ref pa3) := (P2.other W2 (Or.inr (slot_ne (Or.inl (ow hw 35 rfl)) (Or.inl (ow hw 32 rfl)) (by decide) (t := (.array (.object s4n))) (t' := .int) (by decide) (by decide))))
  obtain ⟨T5, X5, e5, st5⟩ := getF X2 hx hZ hown (host := "") (Or.inl (ow hw 34 rfl)) Via.refl e2 f4 (g := (mkF m 13 #[(vr pa1), (vr pa2)] [(.ref pa1), (.ref pa2), (.ref pa1)])) rfl rfl (hb hby d9_13)
  have f6 : Fld Z h2 pa1 s2n "size" "I" (.int 1) := (P3.other W2 (Or.inr (slot_ne (Or.inl (ow hw 83 rfl)) (Or.inl (ow hw 32 rfl)) (by decide) (t := .int) (t' := .int) (by decide) (by decide))))
  obtain ⟨T7, X7, e7, st7⟩ := getF X5 hx hZ hown (host := "") (Or.inl (ow hw 82 rfl)) Via.refl e5 f6 (g := (mkF m 17 #[(vr pa1), (vr pa2)] [(.ref pa1), (.ref pa3), (.ref pa2), (.ref pa1)])) rfl rfl (hb hby d9_17)
  have f8 : Exa Z h2 pa1 s2n := (P0.wr W2)
  have f9 : Exa Z h2 pa2 s6n := (P4.wr W2)
  have f10 : Arv Z h2 pa3 pk7 (.object s4n) (10 : Int32) ([(.ref pa8), .null, .null, .null, .null, .null, .null, .null, .null, .null]) .null := (P9.other W2 (Ne.symm P24))
  have f11 : Exa Z h2 pa3 s3n := (P11.wr W2)
  obtain ⟨cq12, q12, q12'⟩ := f8.cell
  obtain ⟨_, _, ⟨T12, L12, k12, n12⟩, -, X12, ⟨Lc12, hQ12, l12, y12, z12⟩, st12⟩ := X7.privateBack hx (y := M12) hown (mvT hZ (ow hw 84 rfl)) (mvT hZ (ow hw 85 rfl)) (mvT hZ (ow hw 87 rfl)) (Cond.privateMethod_at (mvP hZ (ow hw 86 rfl) (args := #[]))) (mvT hZ (ow hw 88 rfl)) (by decide) (backOf (W := 0) (au10_1 l Z a0 hw [] wINTEGER wDOUBLE wBOOLEAN wDEFAULTCAPACITY_EMPTY_ELEMENTDATA kwDEFAULTCAPACITY_EMPTY_ELEMENTDATA hS pa1 pa2 pa3 pk7 pa8 h2 n0 O3 f8 Fw2 f4 f6 f9 f10 P10 f11 P19 P21 P24) hZ (ow hw 88 rfl) (ow hw 12 rfl) (by decide) (by decide)) (g := (mkF m 20 #[(vr pa1), (vr pa2)] [(.int 1), (.ref pa3), (.ref pa2), (.ref pa1)])) rfl (by rw [hml]; rfl) (Steps.refl _) (a := pa1) (by rw [e7]; exact q12) q12' (argsL := [(.ref pa2), (.ref pa3), (.int 1)]) (rest := []) (lenOf pd_8 rfl) rfl (by show 2 * 0 + _ ≤ _; exact Nat.le_of_eq rfl) (hb hby d9_20) (fun _ _ => ⟨rfl, e7, (by decide : 0 + 0 ≤ _), (by decide : 0 + 0 ≤ _)⟩)
  dsimp only [Pt.U, Pt.locs, Pt.cells, Pt.slots] at X12 l12 y12 z12 st12 hQ12
  subst y12 z12
  obtain ⟨rfl, Nq12, K12q, p12_0, p12_1, p12_2, p12_3, p12_4, p12_5, p12_6⟩ := hQ12
  have N12 : Fr n0 L12 := (congrArg (Fr n0) l12).mpr (Fr.app N2 Nq12)
  have O13 : Old Z n0 T12.heap := O3.keep K12q (allS P21 (allS P19 all0))
  have K13 : Keep h0 T12.heap [pa1, pa3] := K3.trans K12q (allS (Or.inl (List.mem_of_getElem? (i := 1) rfl)) (allS (Or.inl (List.mem_of_getElem? (i := 0) rfl)) all0))
  obtain ⟨fs, hr, hrun, hended, hW, hsame⟩ := X12.leave (v := some (.int 1)) (fun h => by rw [hret0] at h; cases h)
  refine ⟨_, _, pre0 _ ?_, hrun, hended, _, _, rfl, ?_, ⟨_, rfl⟩, hW, hsame.mono (by decide) (by decide)⟩
  · skip
    show Steps p.tables e below (s₁.setTop (mkF m 0 #[(vr pa1), (vr pa2)] [])) _
    refine XS.aloadN X0.here hx rfl (hb hby d9_0) rfl rfl ?_
    refine XS.dup X0.here hx rfl (hb hby d9_1) rfl rfl ?_
    refine st1 _ ?_
    refine XS.iconst X1.here hx rfl (hb hby d9_5) ?_
    refine XS.iadd X1.here hx rfl (hb hby d9_6) rfl ?_
    refine st2 _ ?_
    show Steps p.tables e below (T2.setTop (mkF m 10 #[(vr pa1), (vr pa2)] [])) _
    refine XS.aloadN X2.here hx rfl (hb hby d9_10) rfl rfl ?_
    refine XS.aloadN X2.here hx rfl (hb hby d9_11) rfl rfl ?_
    refine XS.aloadN X2.here hx rfl (hb hby d9_12) rfl rfl ?_
    refine st5 _ ?_
    refine XS.aloadN X5.here hx rfl (hb hby d9_16) rfl rfl ?_
    refine st7 _ ?_
    show Steps p.tables e below (T7.setTop (mkF m 20 #[(vr pa1), (vr pa2)] [(.int 1), (.ref pa3), (.ref pa2), (.ref pa1)])) _
    refine st12.trans ?_
    refine XS.iconst X12.here hx rfl (hb hby d9_23) ?_
    exact retN X12 hx (t := .boolean) hret0 (by simp) (hb hby d9_24) hr
  · show Q_au9_1 Z wINTEGER wDOUBLE wBOOLEAN wDEFAULTCAPACITY_EMPTY_ELEMENTDATA kwDEFAULTCAPACITY_EMPTY_ELEMENTDATA pa1 pa2 pa3 pk7 pa8 h0 n0 _ T12.heap _
    exact ⟨rfl, N12, K13, p12_3, p12_4, p12_5, p12_6, p12_0, p12_1, p12_2⟩
theorem ef_au9_2 (m : MethodId) (x0 : Addr) (x1 : Addr)  : entryFrame m #[(.ref x0), (.ref x1)] 2 = mkF m 0 #[(vr x0), (vr x1)] [] := by first | (simp [entryFrame, mkF, argsToLocals, Value.category]; done) | rfl
theorem ef_au10_2 (m : MethodId) (x0 : Addr) (x1 : Addr) (x2 : Addr) (x3 : Int32)  : entryFrame m #[(.ref x0), (.ref x1), (.ref x2), (.int x3)] 4 = mkF m 0 #[(vr x0), (vr x1), (vr x2), (vi x3)] [] := by first | (simp [entryFrame, mkF, argsToLocals, Value.category]; done) | rfl
def Q_au10_2 (Z : State) (wINTEGER : Addr) (wDOUBLE : Addr) (wBOOLEAN : Addr) (wDEFAULTCAPACITY_EMPTY_ELEMENTDATA : Addr) (kwDEFAULTCAPACITY_EMPTY_ELEMENTDATA : ClassId) (pa1 : Addr) (pa2 : Addr) (pa3 : Addr) (pk7 : ClassId) (pa8 : Addr) (pa9 : Addr) (h0 : Heap) (n0 : Nat) (v : Option Value) (h : Heap) (L : List Loc) : Prop := v = none ∧ Fr n0 L ∧ Keep h0 h [pa3, pa1] ∧ Exa Z h pa3 s3n ∧ Arv Z h pa3 pk7 (.object s4n) (10 : Int32) ([(.ref pa8), (.ref pa9), (.ref pa2), .null, .null, .null, .null, .null, .null, .null]) .null ∧ Ovr Z pk7 s4n ∧ Exa Z h pa1 s2n ∧ Fld Z h pa1 s5n "modCount" "I" (.int 3) ∧ Fld Z h pa1 s2n "elementData" s3n (.ref pa3) ∧ Fld Z h pa1 s2n "size" "I" (.int 3)
theorem au10_2 (l : Launch) (Z : State) (a0 : Array Value) (hw : ∀ d ∈ tables_1, d.before a0 Z = true) (ws : List Jvm.Cond) (wINTEGER : Addr) (wDOUBLE : Addr) (wBOOLEAN : Addr) (wDEFAULTCAPACITY_EMPTY_ELEMENTDATA : Addr) (kwDEFAULTCAPACITY_EMPTY_ELEMENTDATA : ClassId) (hS : SS Z wINTEGER wDOUBLE wBOOLEAN wDEFAULTCAPACITY_EMPTY_ELEMENTDATA kwDEFAULTCAPACITY_EMPTY_ELEMENTDATA) (pa1 : Addr) (pa2 : Addr) (pa3 : Addr) (pk7 : ClassId) (pa8 : Addr) (pa9 : Addr) (h0 : Heap) (n0 : Nat) (O0 : Old Z n0 h0) (P0 : Exa Z h0 pa1 s2n) (P1 : Fld Z h0 pa1 s5n "modCount" "I" (.int 3)) (P2 : Fld Z h0 pa1 s2n "elementData" s3n (.ref pa3)) (P3 : Fld Z h0 pa1 s2n "size" "I" (.int 2)) (P4 : Exa Z h0 pa2 s6n) (P9 : Arv Z h0 pa3 pk7 (.object s4n) (10 : Int32) ([(.ref pa8), (.ref pa9), .null, .null, .null, .null, .null, .null, .null, .null]) .null) (P10 : Ovr Z pk7 s4n) (P11 : Exa Z h0 pa3 s3n) (P25 : n0 ≤ pa1) (P27 : n0 ≤ pa3) (P31 : pa1 ≠ pa3) :
    MetB l M12 jdk_38_method_24_code 4 none ws (rmk 0 0 0 0) Z h0 #[(.ref pa1), (.ref pa2), (.ref pa3), (.int 2)] (Q_au10_2 Z wINTEGER wDOUBLE wBOOLEAN wDEFAULTCAPACITY_EMPTY_ELEMENTDATA kwDEFAULTCAPACITY_EMPTY_ELEMENTDATA pa1 pa2 pa3 pk7 pa8 pa9 h0 n0) := by
  refine own_body (plainFor_of_name pn_java_util_ArrayList) ?_
  intro p e s m below meth c s₁ hx hby hml hown hnm hret0 hlk0 hZ X0 e0
  have N0 := Fr.nil n0
  have pre0 : ∀ t, Steps p.tables e below (s₁.setTop (mkF m 0 #[(vr pa1), (vr pa2), (vr pa3), (vi 2)] [])) t → Steps p.tables e below (s₁.setTop (entryFrame m #[(.ref pa1), (.ref pa2), (.ref pa3), (.int 2)] 4)) t := fun t k => castTop (ef_au10_2 m pa1 pa2 pa3 (2 : Int32)) k
  have K0 := Keep.refl h0 [pa3, pa1]
  have hS0 := hS
  obtain ⟨S_wINTEGER, E_wINTEGER, S_wDOUBLE, E_wDOUBLE, S_wBOOLEAN, E_wBOOLEAN, F_ordinal_wINTEGER, F_ordinal_wDOUBLE, F_ordinal_wBOOLEAN, S_wDEFAULTCAPACITY_EMPTY_ELEMENTDATA, E_wDEFAULTCAPACITY_EMPTY_ELEMENTDATA, V_wDEFAULTCAPACITY_EMPTY_ELEMENTDATA⟩ := hS0
  obtain ⟨cl1, Ar1, -, Sz1, Nn1, -, -⟩ := (id P9)
  obtain ⟨cl2, Ar2, qc2, Sz2, Nn2, Ha2, Gg2⟩ := (id P9)
  have hin2 : ¬ ((2 : Int32) < 0 ∨ cl2.slots.size ≤ ((2 : Int32)).toNatClampNeg) := inb_of Sz2 ⟨by decide, by decide⟩
  obtain ⟨T2, h2, X2, e2, W2, st2⟩ := stR X0 hx hZ e0 Ar2 (j := (2 : Int32)) hin2 rfl (Sto.ofV Ar2 qc2 P10 (Ins.of_exa P4 (ow hw 104 rfl))) (g := (mkF m 14 #[(vr pa1), (vr pa2), (vr pa3), (vi 2)] [(.ref pa2), (.int 2), (.ref pa3)])) rfl rfl (hb hby d10_14)
  have O3 : Old Z n0 h2 := O0.wr W2 P27
  have K3 : Keep h0 h2 [pa3, pa1] := K0.wr W2 (Or.inl (List.mem_of_getElem? (i := 0) rfl))
  have V2 : Arv Z h2 pa3 pk7 (.object s4n) (10 : Int32) ([(.ref pa8), (.ref pa9), (.ref pa2), .null, .null, .null, .null, .null, .null, .null]) .null := Arv.set Ar2 qc2 Sz2 Nn2 Ha2 Gg2 (v := (.ref pa2)) rfl W2 2 rfl (Nat.le_of_ble_eq_true rfl)
  have N2 := Fr.snoc X2 N0 P27
  have f4 : Exa Z h2 pa1 s2n := (P0.wr W2)
  have f5 : Fld Z h2 pa1 s2n "size" "I" (.int 2) := (P3.other W2 (Or.inl P31))
  obtain ⟨T6, h6, X6, e6, W6, st6⟩ := putF X2 hx hZ hown (host := "") (Or.inl (ow hw 82 rfl)) Via.refl e2 f5 f4 (Or.inl (ow hw 83 rfl)) (ow hw 11 rfl) (ty := .int) (by decide) rfl rfl (g := (mkF m 19 #[(vr pa1), (vr pa2), (vr pa3), (vi 2)] [(.int 3), (.ref pa1)])) rfl rfl (hb hby d10_19)
  have N6 := Fr.snoc X6 N2 P25
  have O7 : Old Z n0 h6 := O3.wr W6 P25
  have K7 : Keep h0 h6 [pa3, pa1] := K3.wr W6 (Or.inl (List.mem_of_getElem? (i := 1) rfl))
  have Fw6 : Fld Z h6 pa1 s2n "size" "I" (.int 3) := f5.same W6
  have f8 : Exa Z h6 pa3 s3n := ((P11.wr W2).wr W6)
  have f9 : Arv Z h6 pa3 pk7 (.object s4n) (10 : Int32) ([(.ref pa8), (.ref pa9), (.ref pa2), .null, .null, .null, .null, .null, .null, .null]) .null := (V2.other W6 (Ne.symm P31))
  have f10 : Exa Z h6 pa1 s2n := (f4.wr W6)
  have f11 : Fld Z h6 pa1 s5n "modCount" "I" (.int 3) := ((P1.other W2 (Or.inl P31)).other W6 (Or.inr (slot_ne (Or.inl (ow hw 32 rfl)) (Or.inl (ow hw 83 rfl)) (by decide) (t := .int) (t' := .int) (by decide) (by decide))))
  have f12 : Fld Z h6 pa1 s2n "elementData" s3n (.ref pa3) := ((P2.other W2 (Or.inl P31)).other W6 (Or.inr (slot_ne (Or.inl (ow hw 35 rfl)) (Or.inl (ow hw 83 rfl)) (by decide) (t := (.array (.object s4n))) (t' := .int) (by decide) (by decide))))
  obtain ⟨fs, hr, hrun, hended, hW, hsame⟩ := X6.leave (v := none) (fun _ => rfl)
  refine ⟨_, _, pre0 _ ?_, hrun, hended, _, _, rfl, ?_, ⟨_, rfl⟩, hW, hsame.mono (by decide) (by decide)⟩
  · skip
    show Steps p.tables e below (s₁.setTop (mkF m 0 #[(vr pa1), (vr pa2), (vr pa3), (vi 2)] [])) _
    refine XS.iloadN X0.here hx rfl (hb hby d10_0) rfl ?_
    refine XS.aloadN X0.here hx rfl (hb hby d10_1) rfl rfl ?_
    refine X0.arraylength hx (by rw [e0]; exact Ar1.1) (State.isArrayOf_alike hZ.alike Ar1.2.1) (g := (mkF m 2 #[(vr pa1), (vr pa2), (vr pa3), (vi 2)] [(.ref pa3), (.int 2)])) rfl rfl (hb hby d10_2) _ ?_
    rw [len_of Sz1 Nn1]
    refine XS.icmpYes X0.here hx rfl (pc0 := 3) (pc' := 11) rfl (hb hby d10_3) rfl (feq (by decide : ¬ ((2 : Int32) = (10 : Int32)))).2 (by decide) (by decide) ?_
    refine XS.aloadN X0.here hx rfl (hb hby d10_11) rfl rfl ?_
    refine XS.iloadN X0.here hx rfl (hb hby d10_12) rfl ?_
    show Steps p.tables e below (s₁.setTop (mkF m 13 #[(vr pa1), (vr pa2), (vr pa3), (vi 2)] [(.int 2), (.ref pa3)])) _
    refine XS.aloadN X0.here hx rfl (hb hby d10_13) rfl rfl ?_
    refine st2 _ ?_
    refine XS.aloadN X2.here hx rfl (hb hby d10_15) rfl rfl ?_
    refine XS.iloadN X2.here hx rfl (hb hby d10_16) rfl ?_
    refine XS.iconst X2.here hx rfl (hb hby d10_17) ?_
    refine XS.iadd X2.here hx rfl (hb hby d10_18) rfl ?_
    show Steps p.tables e below (T2.setTop (mkF m 19 #[(vr pa1), (vr pa2), (vr pa3), (vi 2)] [(.int 3), (.ref pa1)])) _
    refine st6 _ ?_
    exact X6.returnOut hx hret0 (hb hby d10_22) hr
  · show Q_au10_2 Z wINTEGER wDOUBLE wBOOLEAN wDEFAULTCAPACITY_EMPTY_ELEMENTDATA kwDEFAULTCAPACITY_EMPTY_ELEMENTDATA pa1 pa2 pa3 pk7 pa8 pa9 h0 n0 _ T6.heap _
    rw [e6]
    exact ⟨rfl, N6, K7, f8, f9, P10, f10, f11, f12, Fw6⟩
def Q_au9_2 (Z : State) (wINTEGER : Addr) (wDOUBLE : Addr) (wBOOLEAN : Addr) (wDEFAULTCAPACITY_EMPTY_ELEMENTDATA : Addr) (kwDEFAULTCAPACITY_EMPTY_ELEMENTDATA : ClassId) (pa1 : Addr) (pa2 : Addr) (pa3 : Addr) (pk7 : ClassId) (pa8 : Addr) (pa9 : Addr) (h0 : Heap) (n0 : Nat) (v : Option Value) (h : Heap) (L : List Loc) : Prop := v = some (.int 1) ∧ Fr n0 L ∧ Keep h0 h [pa1, pa3] ∧ Exa Z h pa1 s2n ∧ Fld Z h pa1 s5n "modCount" "I" (.int 3) ∧ Fld Z h pa1 s2n "elementData" s3n (.ref pa3) ∧ Fld Z h pa1 s2n "size" "I" (.int 3) ∧ Exa Z h pa3 s3n ∧ Arv Z h pa3 pk7 (.object s4n) (10 : Int32) ([(.ref pa8), (.ref pa9), (.ref pa2), .null, .null, .null, .null, .null, .null, .null]) .null ∧ Ovr Z pk7 s4n
theorem au9_2 (l : Launch) (Z : State) (a0 : Array Value) (hw : ∀ d ∈ tables_1, d.before a0 Z = true) (ws : List Jvm.Cond) (wINTEGER : Addr) (wDOUBLE : Addr) (wBOOLEAN : Addr) (wDEFAULTCAPACITY_EMPTY_ELEMENTDATA : Addr) (kwDEFAULTCAPACITY_EMPTY_ELEMENTDATA : ClassId) (hS : SS Z wINTEGER wDOUBLE wBOOLEAN wDEFAULTCAPACITY_EMPTY_ELEMENTDATA kwDEFAULTCAPACITY_EMPTY_ELEMENTDATA) (pa1 : Addr) (pa2 : Addr) (pa3 : Addr) (pk7 : ClassId) (pa8 : Addr) (pa9 : Addr) (h0 : Heap) (n0 : Nat) (O0 : Old Z n0 h0) (P0 : Exa Z h0 pa1 s2n) (P1 : Fld Z h0 pa1 s5n "modCount" "I" (.int 2)) (P2 : Fld Z h0 pa1 s2n "elementData" s3n (.ref pa3)) (P3 : Fld Z h0 pa1 s2n "size" "I" (.int 2)) (P4 : Exa Z h0 pa2 s6n) (P9 : Arv Z h0 pa3 pk7 (.object s4n) (10 : Int32) ([(.ref pa8), (.ref pa9), .null, .null, .null, .null, .null, .null, .null, .null]) .null) (P10 : Ovr Z pk7 s4n) (P11 : Exa Z h0 pa3 s3n) (P25 : n0 ≤ pa1) (P27 : n0 ≤ pa3) (P31 : pa1 ≠ pa3) :
    MetB l M13 jdk_38_method_25_code 2 (some .boolean) ws (rmk 1 0 0 15) Z h0 #[(.ref pa1), (.ref pa2)] (Q_au9_2 Z wINTEGER wDOUBLE wBOOLEAN wDEFAULTCAPACITY_EMPTY_ELEMENTDATA kwDEFAULTCAPACITY_EMPTY_ELEMENTDATA pa1 pa2 pa3 pk7 pa8 pa9 h0 n0) := by
  refine own_body (plainFor_of_name pn_java_util_ArrayList) ?_
  intro p e s m below meth c s₁ hx hby hml hown hnm hret0 hlk0 hZ X0 e0
  have N0 := Fr.nil n0
  have pre0 : ∀ t, Steps p.tables e below (s₁.setTop (mkF m 0 #[(vr pa1), (vr pa2)] [])) t → Steps p.tables e below (s₁.setTop (entryFrame m #[(.ref pa1), (.ref pa2)] 2)) t := fun t k => castTop (ef_au9_2 m pa1 pa2) k
  have K0 := Keep.refl h0 [pa1, pa3]
  have hS0 := hS
  obtain ⟨S_wINTEGER, E_wINTEGER, S_wDOUBLE, E_wDOUBLE, S_wBOOLEAN, E_wBOOLEAN, F_ordinal_wINTEGER, F_ordinal_wDOUBLE, F_ordinal_wBOOLEAN, S_wDEFAULTCAPACITY_EMPTY_ELEMENTDATA, E_wDEFAULTCAPACITY_EMPTY_ELEMENTDATA, V_wDEFAULTCAPACITY_EMPTY_ELEMENTDATA⟩ := hS0
  obtain ⟨T1, X1, e1, st1⟩ := getF X0 hx hZ hown (host := "") (Or.inl (ow hw 80 rfl)) (Via.of (ow hw 81 rfl)) e0 P1 (g := (mkF m 2 #[(vr pa1), (vr pa2)] [(.ref pa1), (.ref pa1)])) rfl rfl (hb hby d9_2)
  obtain ⟨T2, h2, X2, e2, W2, st2⟩ := putF X1 hx hZ hown (host := "") (Or.inl (ow hw 80 rfl)) (Via.of (ow hw 81 rfl)) e1 P1 P0 (Or.inl (ow hw 32 rfl)) (ow hw 11 rfl) (ty := .int) (by decide) rfl rfl (g := (mkF m 7 #[(vr pa1), (vr pa2)] [(.int 3), (.ref pa1)])) rfl rfl (hb hby d9_7)
  have N2 := Fr.snoc X2 N0 P25
  have O3 : Old Z n0 h2 := O0.wr W2 P25
  have K3 : Keep h0 h2 [pa1, pa3] := K0.wr W2 (Or.inl (List.mem_of_getElem? (i := 0) rfl))
  have Fw2 : Fld Z h2 pa1 s5n "modCount" "I" (.int 3) := P1.same W2
  have f4 : Fld Z h2 pa1 s2n "elementData" s3n (.ref pa3) := (P2.other W2 (Or.inr (slot_ne (Or.inl (ow hw 35 rfl)) (Or.inl (ow hw 32 rfl)) (by decide) (t := (.array (.object s4n))) (t' := .int) (by decide) (by decide))))
  obtain ⟨T5, X5, e5, st5⟩ := getF X2 hx hZ hown (host := "") (Or.inl (ow hw 34 rfl)) Via.refl e2 f4 (g := (mkF m 13 #[(vr pa1), (vr pa2)] [(.ref pa1), (.ref pa2), (.ref pa1)])) rfl rfl (hb hby d9_13)
  have f6 : Fld Z h2 pa1 s2n "size" "I" (.int 2) := (P3.other W2 (Or.inr (slot_ne (Or.inl (ow hw 83 rfl)) (Or.inl (ow hw 32 rfl)) (by decide) (t := .int) (t' := .int) (by decide) (by decide))))
  obtain ⟨T7, X7, e7, st7⟩ := getF X5 hx hZ hown (host := "") (Or.inl (ow hw 82 rfl)) Via.refl e5 f6 (g := (mkF m 17 #[(vr pa1), (vr pa2)] [(.ref pa1), (.ref pa3), (.ref pa2), (.ref pa1)])) rfl rfl (hb hby d9_17)
  have f8 : Exa Z h2 pa1 s2n := (P0.wr W2)
  have f9 : Exa Z h2 pa2 s6n := (P4.wr W2)
  have f10 : Arv Z h2 pa3 pk7 (.object s4n) (10 : Int32) ([(.ref pa8), (.ref pa9), .null, .null, .null, .null, .null, .null, .null, .null]) .null := (P9.other W2 (Ne.symm P31))
  have f11 : Exa Z h2 pa3 s3n := (P11.wr W2)
  obtain ⟨cq12, q12, q12'⟩ := f8.cell
  obtain ⟨_, _, ⟨T12, L12, k12, n12⟩, -, X12, ⟨Lc12, hQ12, l12, y12, z12⟩, st12⟩ := X7.privateBack hx (y := M12) hown (mvT hZ (ow hw 84 rfl)) (mvT hZ (ow hw 85 rfl)) (mvT hZ (ow hw 87 rfl)) (Cond.privateMethod_at (mvP hZ (ow hw 86 rfl) (args := #[]))) (mvT hZ (ow hw 88 rfl)) (by decide) (backOf (W := 0) (au10_2 l Z a0 hw [] wINTEGER wDOUBLE wBOOLEAN wDEFAULTCAPACITY_EMPTY_ELEMENTDATA kwDEFAULTCAPACITY_EMPTY_ELEMENTDATA hS pa1 pa2 pa3 pk7 pa8 pa9 h2 n0 O3 f8 Fw2 f4 f6 f9 f10 P10 f11 P25 P27 P31) hZ (ow hw 88 rfl) (ow hw 12 rfl) (by decide) (by decide)) (g := (mkF m 20 #[(vr pa1), (vr pa2)] [(.int 2), (.ref pa3), (.ref pa2), (.ref pa1)])) rfl (by rw [hml]; rfl) (Steps.refl _) (a := pa1) (by rw [e7]; exact q12) q12' (argsL := [(.ref pa2), (.ref pa3), (.int 2)]) (rest := []) (lenOf pd_8 rfl) rfl (by show 2 * 0 + _ ≤ _; exact Nat.le_of_eq rfl) (hb hby d9_20) (fun _ _ => ⟨rfl, e7, (by decide : 0 + 0 ≤ _), (by decide : 0 + 0 ≤ _)⟩)
  dsimp only [Pt.U, Pt.locs, Pt.cells, Pt.slots] at X12 l12 y12 z12 st12 hQ12
  subst y12 z12
  obtain ⟨rfl, Nq12, K12q, p12_0, p12_1, p12_2, p12_3, p12_4, p12_5, p12_6⟩ := hQ12
  have N12 : Fr n0 L12 := (congrArg (Fr n0) l12).mpr (Fr.app N2 Nq12)
  have O13 : Old Z n0 T12.heap := O3.keep K12q (allS P27 (allS P25 all0))
  have K13 : Keep h0 T12.heap [pa1, pa3] := K3.trans K12q (allS (Or.inl (List.mem_of_getElem? (i := 1) rfl)) (allS (Or.inl (List.mem_of_getElem? (i := 0) rfl)) all0))
  obtain ⟨fs, hr, hrun, hended, hW, hsame⟩ := X12.leave (v := some (.int 1)) (fun h => by rw [hret0] at h; cases h)
  refine ⟨_, _, pre0 _ ?_, hrun, hended, _, _, rfl, ?_, ⟨_, rfl⟩, hW, hsame.mono (by decide) (by decide)⟩
  · skip
    show Steps p.tables e below (s₁.setTop (mkF m 0 #[(vr pa1), (vr pa2)] [])) _
    refine XS.aloadN X0.here hx rfl (hb hby d9_0) rfl rfl ?_
    refine XS.dup X0.here hx rfl (hb hby d9_1) rfl rfl ?_
    refine st1 _ ?_
    refine XS.iconst X1.here hx rfl (hb hby d9_5) ?_
    refine XS.iadd X1.here hx rfl (hb hby d9_6) rfl ?_
    refine st2 _ ?_
    show Steps p.tables e below (T2.setTop (mkF m 10 #[(vr pa1), (vr pa2)] [])) _
    refine XS.aloadN X2.here hx rfl (hb hby d9_10) rfl rfl ?_
    refine XS.aloadN X2.here hx rfl (hb hby d9_11) rfl rfl ?_
    refine XS.aloadN X2.here hx rfl (hb hby d9_12) rfl rfl ?_
    refine st5 _ ?_
    refine XS.aloadN X5.here hx rfl (hb hby d9_16) rfl rfl ?_
    refine st7 _ ?_
    show Steps p.tables e below (T7.setTop (mkF m 20 #[(vr pa1), (vr pa2)] [(.int 2), (.ref pa3), (.ref pa2), (.ref pa1)])) _
    refine st12.trans ?_
    refine XS.iconst X12.here hx rfl (hb hby d9_23) ?_
    exact retN X12 hx (t := .boolean) hret0 (by simp) (hb hby d9_24) hr
  · show Q_au9_2 Z wINTEGER wDOUBLE wBOOLEAN wDEFAULTCAPACITY_EMPTY_ELEMENTDATA kwDEFAULTCAPACITY_EMPTY_ELEMENTDATA pa1 pa2 pa3 pk7 pa8 pa9 h0 n0 _ T12.heap _
    exact ⟨rfl, N12, K13, p12_3, p12_4, p12_5, p12_6, p12_0, p12_1, p12_2⟩
theorem ef_au14_0 (m : MethodId) (x0 : Addr) (x1 : Addr)  : entryFrame m #[(.ref x0), (.ref x1)] 10 = mkF m 0 #[(vr x0), (vr x1), .unset, .unset, .unset, .unset, .unset, .unset, .unset, .unset] [] := by first | (simp [entryFrame, mkF, argsToLocals, Value.category]; done) | rfl
theorem pn_com_example_lanc_lanc_model_VariableLayout : plainName "com/example/lanc/lanc/model/VariableLayout" = true := by first | (simp [plainName, overriddenIn]; done) | decide +kernel
theorem d14_0 : decode prog_105_method_1_code 0 = .ok (.aload_n 0, 1) := by decide +kernel
theorem d14_1 : decode prog_105_method_1_code 1 = .ok (.invokespecial 1, 3) := by decide +kernel
theorem d14_4 : decode prog_105_method_1_code 4 = .ok (.aload_n 1, 1) := by decide +kernel
theorem d14_5 : decode prog_105_method_1_code 5 = .ok (.invokeinterface 7 1, 5) := by decide +kernel
theorem ef_au15_0 (m : MethodId) (x0 : Addr)  : entryFrame m #[(.ref x0)] 1 = mkF m 0 #[(vr x0)] [] := by first | (simp [entryFrame, mkF, argsToLocals, Value.category]; done) | rfl
theorem d15_0 : decode jdk_38_method_8_code 0 = .ok (.aload_n 0, 1) := by decide +kernel
theorem d15_1 : decode jdk_38_method_8_code 1 = .ok (.getfield 48, 3) := by decide +kernel
theorem d15_4 : decode jdk_38_method_8_code 4 = .ok (.ireturn, 1) := by decide +kernel
def Q_au15_0 (Z : State) (wINTEGER : Addr) (wDOUBLE : Addr) (wBOOLEAN : Addr) (wDEFAULTCAPACITY_EMPTY_ELEMENTDATA : Addr) (kwDEFAULTCAPACITY_EMPTY_ELEMENTDATA : ClassId) (pa1 : Addr) (h0 : Heap) (n0 : Nat) (v : Option Value) (h : Heap) (L : List Loc) : Prop := v = some (.int 3) ∧ Fr n0 L ∧ h = h0
theorem au15_0 (l : Launch) (Z : State) (a0 : Array Value) (hw : ∀ d ∈ tables_1, d.before a0 Z = true) (ws : List Jvm.Cond) (wINTEGER : Addr) (wDOUBLE : Addr) (wBOOLEAN : Addr) (wDEFAULTCAPACITY_EMPTY_ELEMENTDATA : Addr) (kwDEFAULTCAPACITY_EMPTY_ELEMENTDATA : ClassId) (hS : SS Z wINTEGER wDOUBLE wBOOLEAN wDEFAULTCAPACITY_EMPTY_ELEMENTDATA kwDEFAULTCAPACITY_EMPTY_ELEMENTDATA) (pa1 : Addr) (h0 : Heap) (n0 : Nat) (O0 : Old Z n0 h0) (P3 : Fld Z h0 pa1 s2n "size" "I" (.int 3)) :
    MetB l M14 jdk_38_method_8_code 1 (some .int) ws (rmk 0 0 0 0) Z h0 #[(.ref pa1)] (Q_au15_0 Z wINTEGER wDOUBLE wBOOLEAN wDEFAULTCAPACITY_EMPTY_ELEMENTDATA kwDEFAULTCAPACITY_EMPTY_ELEMENTDATA pa1 h0 n0) := by
  refine own_body (plainFor_of_name pn_java_util_ArrayList) ?_
  intro p e s m below meth c s₁ hx hby hml hown hnm hret0 hlk0 hZ X0 e0
  have N0 := Fr.nil n0
  have pre0 : ∀ t, Steps p.tables e below (s₁.setTop (mkF m 0 #[(vr pa1)] [])) t → Steps p.tables e below (s₁.setTop (entryFrame m #[(.ref pa1)] 1)) t := fun t k => castTop (ef_au15_0 m pa1) k
  have hS0 := hS
  obtain ⟨S_wINTEGER, E_wINTEGER, S_wDOUBLE, E_wDOUBLE, S_wBOOLEAN, E_wBOOLEAN, F_ordinal_wINTEGER, F_ordinal_wDOUBLE, F_ordinal_wBOOLEAN, S_wDEFAULTCAPACITY_EMPTY_ELEMENTDATA, E_wDEFAULTCAPACITY_EMPTY_ELEMENTDATA, V_wDEFAULTCAPACITY_EMPTY_ELEMENTDATA⟩ := hS0
  obtain ⟨T1, X1, e1, st1⟩ := getF X0 hx hZ hown (host := "") (Or.inl (ow hw 82 rfl)) Via.refl e0 P3 (g := (mkF m 1 #[(vr pa1)] [(.ref pa1)])) rfl rfl (hb hby d15_1)
  obtain ⟨fs, hr, hrun, hended, hW, hsame⟩ := X1.leave (v := some (.int 3)) (fun h => by rw [hret0] at h; cases h)
  refine ⟨_, _, pre0 _ ?_, hrun, hended, _, _, rfl, ?_, ⟨_, rfl⟩, hW, hsame.mono (by decide) (by decide)⟩
  · skip
    show Steps p.tables e below (s₁.setTop (mkF m 0 #[(vr pa1)] [])) _
    refine XS.aloadN X0.here hx rfl (hb hby d15_0) rfl rfl ?_
    refine st1 _ ?_
    exact retI X1 hx hret0 (hb hby d15_4) hr
  · show Q_au15_0 Z wINTEGER wDOUBLE wBOOLEAN wDEFAULTCAPACITY_EMPTY_ELEMENTDATA kwDEFAULTCAPACITY_EMPTY_ELEMENTDATA pa1 h0 n0 _ T1.heap _
    rw [e1]
    exact ⟨rfl, N0, rfl⟩
theorem pd_10 : parseMethodDescriptor "()I" = some ⟨[], some .int⟩ := by decide +kernel
theorem d14_10 : decode prog_105_method_1_code 10 = .ok (.istore_n 2, 1) := by decide +kernel
theorem d14_11 : decode prog_105_method_1_code 11 = .ok (.aload_n 0, 1) := by decide +kernel
theorem d14_12 : decode prog_105_method_1_code 12 = .ok (.iload_n 2, 1) := by decide +kernel
theorem d14_13 : decode prog_105_method_1_code 13 = .ok (.newarray .int, 2) := by decide +kernel
theorem d14_15 : decode prog_105_method_1_code 15 = .ok (.putfield 13, 3) := by decide +kernel
theorem d14_18 : decode prog_105_method_1_code 18 = .ok (.aload_n 0, 1) := by decide +kernel
theorem d14_19 : decode prog_105_method_1_code 19 = .ok (.iload_n 2, 1) := by decide +kernel
theorem d14_20 : decode prog_105_method_1_code 20 = .ok (.newarray .int, 2) := by decide +kernel
theorem d14_22 : decode prog_105_method_1_code 22 = .ok (.putfield 19, 3) := by decide +kernel
theorem d14_25 : decode prog_105_method_1_code 25 = .ok (.aload_n 0, 1) := by decide +kernel
theorem d14_26 : decode prog_105_method_1_code 26 = .ok (.iload_n 2, 1) := by decide +kernel
theorem d14_27 : decode prog_105_method_1_code 27 = .ok (.newarray .int, 2) := by decide +kernel
theorem d14_29 : decode prog_105_method_1_code 29 = .ok (.putfield 22, 3) := by decide +kernel
theorem d14_32 : decode prog_105_method_1_code 32 = .ok (.aload_n 0, 1) := by decide +kernel
theorem d14_33 : decode prog_105_method_1_code 33 = .ok (.iload_n 2, 1) := by decide +kernel
theorem d14_34 : decode prog_105_method_1_code 34 = .ok (.newarray .long, 2) := by decide +kernel
theorem d14_36 : decode prog_105_method_1_code 36 = .ok (.putfield 25, 3) := by decide +kernel
theorem d14_39 : decode prog_105_method_1_code 39 = .ok (.iconst 1, 1) := by decide +kernel
theorem d14_40 : decode prog_105_method_1_code 40 = .ok (.istore_n 3, 1) := by decide +kernel
theorem d14_41 : decode prog_105_method_1_code 41 = .ok (.iconst 0, 1) := by decide +kernel
theorem d14_42 : decode prog_105_method_1_code 42 = .ok (.istore 4, 2) := by decide +kernel
theorem d14_44 : decode prog_105_method_1_code 44 = .ok (.iconst 0, 1) := by decide +kernel
theorem d14_45 : decode prog_105_method_1_code 45 = .ok (.istore 5, 2) := by decide +kernel
theorem d14_47 : decode prog_105_method_1_code 47 = .ok (.iload 5, 2) := by decide +kernel
theorem d14_49 : decode prog_105_method_1_code 49 = .ok (.iload_n 2, 1) := by decide +kernel
theorem d14_50 : decode prog_105_method_1_code 50 = .ok (.if_icmp .ge 126, 3) := by decide +kernel
theorem d14_53 : decode prog_105_method_1_code 53 = .ok (.aload_n 1, 1) := by decide +kernel
theorem d14_54 : decode prog_105_method_1_code 54 = .ok (.iload 5, 2) := by decide +kernel
theorem d14_56 : decode prog_105_method_1_code 56 = .ok (.invokeinterface 29 2, 5) := by decide +kernel
theorem ef_au16_0 (m : MethodId) (x0 : Addr) (x1 : Int32)  : entryFrame m #[(.ref x0), (.int x1)] 2 = mkF m 0 #[(vr x0), (vi x1)] [] := by first | (simp [entryFrame, mkF, argsToLocals, Value.category]; done) | rfl
theorem d16_0 : decode jdk_38_method_20_code 0 = .ok (.iload_n 1, 1) := by decide +kernel
theorem d16_1 : decode jdk_38_method_20_code 1 = .ok (.aload_n 0, 1) := by decide +kernel
theorem d16_2 : decode jdk_38_method_20_code 2 = .ok (.getfield 48, 3) := by decide +kernel
theorem d16_5 : decode jdk_38_method_20_code 5 = .ok (.invokestatic 118, 3) := by decide +kernel
theorem ef_au17_0 (m : MethodId) (x0 : Int32) (x1 : Int32)  : entryFrame m #[(.int x0), (.int x1)] 2 = mkF m 0 #[(vi x0), (vi x1)] [] := by first | (simp [entryFrame, mkF, argsToLocals, Value.category]; done) | rfl
theorem pn_java_util_Objects : plainName "java/util/Objects" = true := by first | (simp [plainName, overriddenIn]; done) | decide +kernel
theorem d17_0 : decode jdk_31_method_17_code 0 = .ok (.iload_n 0, 1) := by decide +kernel
theorem d17_1 : decode jdk_31_method_17_code 1 = .ok (.iload_n 1, 1) := by decide +kernel
theorem d17_2 : decode jdk_31_method_17_code 2 = .ok (.aconst_null, 1) := by decide +kernel
theorem d17_3 : decode jdk_31_method_17_code 3 = .ok (.invokestatic 105, 3) := by decide +kernel
theorem ef_au18_0 (m : MethodId) (x0 : Int32) (x1 : Int32)  : entryFrame m #[(.int x0), (.int x1), .null] 3 = mkF m 0 #[(vi x0), (vi x1), .val .null] [] := by first | (simp [entryFrame, mkF, argsToLocals, Value.category]; done) | rfl
theorem pn_jdk_internal_util_Preconditions : plainName "jdk/internal/util/Preconditions" = true := by first | (simp [plainName, overriddenIn]; done) | decide +kernel
theorem d18_0 : decode jdk_41_method_11_code 0 = .ok (.iload_n 0, 1) := by decide +kernel
theorem d18_1 : decode jdk_41_method_11_code 1 = .ok (.ifCond .lt 8, 3) := by decide +kernel
theorem d18_4 : decode jdk_41_method_11_code 4 = .ok (.iload_n 0, 1) := by decide +kernel
theorem d18_5 : decode jdk_41_method_11_code 5 = .ok (.iload_n 1, 1) := by decide +kernel
theorem d18_6 : decode jdk_41_method_11_code 6 = .ok (.if_icmp .lt 10, 3) := by decide +kernel
theorem d18_16 : decode jdk_41_method_11_code 16 = .ok (.iload_n 0, 1) := by decide +kernel
theorem d18_17 : decode jdk_41_method_11_code 17 = .ok (.ireturn, 1) := by decide +kernel
def Q_au18_0 (Z : State) (wINTEGER : Addr) (wDOUBLE : Addr) (wBOOLEAN : Addr) (wDEFAULTCAPACITY_EMPTY_ELEMENTDATA : Addr) (kwDEFAULTCAPACITY_EMPTY_ELEMENTDATA : ClassId)  (h0 : Heap) (n0 : Nat) (v : Option Value) (h : Heap) (L : List Loc) : Prop := v = some (.int 0) ∧ Fr n0 L ∧ h = h0
theorem au18_0 (l : Launch) (Z : State) (a0 : Array Value) (hw : ∀ d ∈ tables_1, d.before a0 Z = true) (ws : List Jvm.Cond) (wINTEGER : Addr) (wDOUBLE : Addr) (wBOOLEAN : Addr) (wDEFAULTCAPACITY_EMPTY_ELEMENTDATA : Addr) (kwDEFAULTCAPACITY_EMPTY_ELEMENTDATA : ClassId) (hS : SS Z wINTEGER wDOUBLE wBOOLEAN wDEFAULTCAPACITY_EMPTY_ELEMENTDATA kwDEFAULTCAPACITY_EMPTY_ELEMENTDATA)  (h0 : Heap) (n0 : Nat) (O0 : Old Z n0 h0)  :
    MetB l M15 jdk_41_method_11_code 3 (some .int) ws (rmk 0 0 0 0) Z h0 #[(.int 0), (.int 3), .null] (Q_au18_0 Z wINTEGER wDOUBLE wBOOLEAN wDEFAULTCAPACITY_EMPTY_ELEMENTDATA kwDEFAULTCAPACITY_EMPTY_ELEMENTDATA  h0 n0) := by
  refine own_body (plainFor_of_name pn_jdk_internal_util_Preconditions) ?_
  intro p e s m below meth c s₁ hx hby hml hown hnm hret0 hlk0 hZ X0 e0
  have N0 := Fr.nil n0
  have pre0 : ∀ t, Steps p.tables e below (s₁.setTop (mkF m 0 #[(vi 0), (vi 3), .val .null] [])) t → Steps p.tables e below (s₁.setTop (entryFrame m #[(.int 0), (.int 3), .null] 3)) t := fun t k => castTop (ef_au18_0 m (0 : Int32) (3 : Int32)) k
  have hS0 := hS
  obtain ⟨S_wINTEGER, E_wINTEGER, S_wDOUBLE, E_wDOUBLE, S_wBOOLEAN, E_wBOOLEAN, F_ordinal_wINTEGER, F_ordinal_wDOUBLE, F_ordinal_wBOOLEAN, S_wDEFAULTCAPACITY_EMPTY_ELEMENTDATA, E_wDEFAULTCAPACITY_EMPTY_ELEMENTDATA, V_wDEFAULTCAPACITY_EMPTY_ELEMENTDATA⟩ := hS0
  obtain ⟨fs, hr, hrun, hended, hW, hsame⟩ := X0.leave (v := some (.int 0)) (fun h => by rw [hret0] at h; cases h)
  refine ⟨_, _, pre0 _ ?_, hrun, hended, _, _, rfl, ?_, ⟨_, rfl⟩, hW, hsame.mono (by decide) (by decide)⟩
  · skip
    show Steps p.tables e below (s₁.setTop (mkF m 0 #[(vi 0), (vi 3), .val .null] [])) _
    refine XS.iloadN X0.here hx rfl (hb hby d18_0) rfl ?_
    refine XS.ifNo X0.here hx rfl (hb hby d18_1) rfl ((if0 _ _).trans (flt (by decide : ¬ ((0 : Int32) < (0 : Int32)))).1) ?_
    refine XS.iloadN X0.here hx rfl (hb hby d18_4) rfl ?_
    refine XS.iloadN X0.here hx rfl (hb hby d18_5) rfl ?_
    refine XS.icmpYes X0.here hx rfl (pc0 := 6) (pc' := 16) rfl (hb hby d18_6) rfl (tlt (by decide : (0 : Int32) < (3 : Int32))).1 (by decide) (by decide) ?_
    refine XS.iloadN X0.here hx rfl (hb hby d18_16) rfl ?_
    show Steps p.tables e below (s₁.setTop (mkF m 17 #[(vi 0), (vi 3), .val .null] [(.int 0)])) _
    exact retI X0 hx hret0 (hb hby d18_17) hr
  · show Q_au18_0 Z wINTEGER wDOUBLE wBOOLEAN wDEFAULTCAPACITY_EMPTY_ELEMENTDATA kwDEFAULTCAPACITY_EMPTY_ELEMENTDATA  h0 n0 _ s₁.heap _
    rw [e0]
    exact ⟨rfl, N0, rfl⟩
theorem pd_11 : parseMethodDescriptor "(IILjava/util/function/BiFunction;)I" = some ⟨[.int, .int, (.object "java/util/function/BiFunction")], some .int⟩ := by decide +kernel
theorem d17_6 : decode jdk_31_method_17_code 6 = .ok (.ireturn, 1) := by decide +kernel
def Q_au17_0 (Z : State) (wINTEGER : Addr) (wDOUBLE : Addr) (wBOOLEAN : Addr) (wDEFAULTCAPACITY_EMPTY_ELEMENTDATA : Addr) (kwDEFAULTCAPACITY_EMPTY_ELEMENTDATA : ClassId)  (h0 : Heap) (n0 : Nat) (v : Option Value) (h : Heap) (L : List Loc) : Prop := v = some (.int 0) ∧ Fr n0 L ∧ h = h0
theorem au17_0 (l : Launch) (Z : State) (a0 : Array Value) (hw : ∀ d ∈ tables_1, d.before a0 Z = true) (ws : List Jvm.Cond) (wINTEGER : Addr) (wDOUBLE : Addr) (wBOOLEAN : Addr) (wDEFAULTCAPACITY_EMPTY_ELEMENTDATA : Addr) (kwDEFAULTCAPACITY_EMPTY_ELEMENTDATA : ClassId) (hS : SS Z wINTEGER wDOUBLE wBOOLEAN wDEFAULTCAPACITY_EMPTY_ELEMENTDATA kwDEFAULTCAPACITY_EMPTY_ELEMENTDATA)  (h0 : Heap) (n0 : Nat) (O0 : Old Z n0 h0)  :
    MetB l M16 jdk_31_method_17_code 2 (some .int) ws (rmk 1 0 0 14) Z h0 #[(.int 0), (.int 3)] (Q_au17_0 Z wINTEGER wDOUBLE wBOOLEAN wDEFAULTCAPACITY_EMPTY_ELEMENTDATA kwDEFAULTCAPACITY_EMPTY_ELEMENTDATA  h0 n0) := by
  refine own_body (plainFor_of_name pn_java_util_Objects) ?_
  intro p e s m below meth c s₁ hx hby hml hown hnm hret0 hlk0 hZ X0 e0
  have N0 := Fr.nil n0
  have pre0 : ∀ t, Steps p.tables e below (s₁.setTop (mkF m 0 #[(vi 0), (vi 3)] [])) t → Steps p.tables e below (s₁.setTop (entryFrame m #[(.int 0), (.int 3)] 2)) t := fun t k => castTop (ef_au17_0 m (0 : Int32) (3 : Int32)) k
  have hS0 := hS
  obtain ⟨S_wINTEGER, E_wINTEGER, S_wDOUBLE, E_wDOUBLE, S_wBOOLEAN, E_wBOOLEAN, F_ordinal_wINTEGER, F_ordinal_wDOUBLE, F_ordinal_wBOOLEAN, S_wDEFAULTCAPACITY_EMPTY_ELEMENTDATA, E_wDEFAULTCAPACITY_EMPTY_ELEMENTDATA, V_wDEFAULTCAPACITY_EMPTY_ELEMENTDATA⟩ := hS0
  obtain ⟨_, _, ⟨T1, L1, k1, n1⟩, -, X1, ⟨Lc1, hQ1, l1, y1, z1⟩, st1⟩ := Jvm.LawKit.callS X0 hx (y := M15) hown (mvT hZ (ow hw 144 rfl)) (mvT hZ (ow hw 145 rfl)) (mvT hZ (ow hw 146 rfl)) (mvT hZ (ow hw 147 rfl)) (by decide) (backOf (W := 0) (au18_0 l Z a0 hw [] wINTEGER wDOUBLE wBOOLEAN wDEFAULTCAPACITY_EMPTY_ELEMENTDATA kwDEFAULTCAPACITY_EMPTY_ELEMENTDATA hS  h0 n0 O0 ) hZ (ow hw 147 rfl) (ow hw 146 rfl) (by decide) (by decide)) (g := (mkF m 3 #[(vi 0), (vi 3)] [.null, (.int 3), (.int 0)])) rfl (by rw [hml]; rfl) (argsL := [(.int 0), (.int 3), .null]) (rest := []) (lenOf pd_11 rfl) rfl (by show 2 * 0 + _ ≤ _; exact Nat.le_of_eq rfl) (hb hby d17_3) (fun _ _ => ⟨rfl, e0, (by decide : 0 + 0 ≤ _), (by decide : 0 + 0 ≤ _)⟩)
  dsimp only [Pt.U, Pt.locs, Pt.cells, Pt.slots] at X1 l1 y1 z1 st1 hQ1
  subst y1 z1
  obtain ⟨rfl, Nq1, K1q⟩ := hQ1
  have N1 : Fr n0 L1 := (congrArg (Fr n0) l1).mpr (Fr.app N0 Nq1)
  obtain ⟨fs, hr, hrun, hended, hW, hsame⟩ := X1.leave (v := some (.int 0)) (fun h => by rw [hret0] at h; cases h)
  refine ⟨_, _, pre0 _ ?_, hrun, hended, _, _, rfl, ?_, ⟨_, rfl⟩, hW, hsame.mono (by decide) (by decide)⟩
  · skip
    show Steps p.tables e below (s₁.setTop (mkF m 0 #[(vi 0), (vi 3)] [])) _
    refine XS.iloadN X0.here hx rfl (hb hby d17_0) rfl ?_
    refine XS.iloadN X0.here hx rfl (hb hby d17_1) rfl ?_
    refine XS.aconstNull X0.here hx rfl (hb hby d17_2) ?_
    refine st1 _ ?_
    exact retI X1 hx hret0 (hb hby d17_6) hr
  · show Q_au17_0 Z wINTEGER wDOUBLE wBOOLEAN wDEFAULTCAPACITY_EMPTY_ELEMENTDATA kwDEFAULTCAPACITY_EMPTY_ELEMENTDATA  h0 n0 _ T1.heap _
    rw [K1q]
    exact ⟨rfl, N1, rfl⟩
theorem d16_8 : decode jdk_38_method_20_code 8 = .ok (.pop, 1) := by decide +kernel
theorem d16_9 : decode jdk_38_method_20_code 9 = .ok (.aload_n 0, 1) := by decide +kernel
theorem d16_10 : decode jdk_38_method_20_code 10 = .ok (.iload_n 1, 1) := by decide +kernel
theorem d16_11 : decode jdk_38_method_20_code 11 = .ok (.invokevirtual 123, 3) := by decide +kernel
theorem ef_au19_0 (m : MethodId) (x0 : Addr) (x1 : Int32)  : entryFrame m #[(.ref x0), (.int x1)] 2 = mkF m 0 #[(vr x0), (vi x1)] [] := by first | (simp [entryFrame, mkF, argsToLocals, Value.category]; done) | rfl
theorem d19_0 : decode jdk_38_method_18_code 0 = .ok (.aload_n 0, 1) := by decide +kernel
theorem d19_1 : decode jdk_38_method_18_code 1 = .ok (.getfield 9, 3) := by decide +kernel
theorem d19_4 : decode jdk_38_method_18_code 4 = .ok (.iload_n 1, 1) := by decide +kernel
theorem d19_5 : decode jdk_38_method_18_code 5 = .ok (.aaload, 1) := by decide +kernel
theorem d19_6 : decode jdk_38_method_18_code 6 = .ok (.areturn, 1) := by decide +kernel
def Q_au19_0 (Z : State) (wINTEGER : Addr) (wDOUBLE : Addr) (wBOOLEAN : Addr) (wDEFAULTCAPACITY_EMPTY_ELEMENTDATA : Addr) (kwDEFAULTCAPACITY_EMPTY_ELEMENTDATA : ClassId) (pa1 : Addr) (pa2 : Addr) (pk3 : ClassId) (pa4 : Addr) (pa5 : Addr) (pa6 : Addr) (h0 : Heap) (n0 : Nat) (v : Option Value) (h : Heap) (L : List Loc) : Prop := v = some (.ref pa4) ∧ Fr n0 L ∧ h = h0
theorem au19_0 (l : Launch) (Z : State) (a0 : Array Value) (hw : ∀ d ∈ tables_1, d.before a0 Z = true) (ws : List Jvm.Cond) (wINTEGER : Addr) (wDOUBLE : Addr) (wBOOLEAN : Addr) (wDEFAULTCAPACITY_EMPTY_ELEMENTDATA : Addr) (kwDEFAULTCAPACITY_EMPTY_ELEMENTDATA : ClassId) (hS : SS Z wINTEGER wDOUBLE wBOOLEAN wDEFAULTCAPACITY_EMPTY_ELEMENTDATA kwDEFAULTCAPACITY_EMPTY_ELEMENTDATA) (pa1 : Addr) (pa2 : Addr) (pk3 : ClassId) (pa4 : Addr) (pa5 : Addr) (pa6 : Addr) (h0 : Heap) (n0 : Nat) (O0 : Old Z n0 h0) (P2 : Fld Z h0 pa1 s2n "elementData" s3n (.ref pa2)) (P4 : Arv Z h0 pa2 pk3 (.object s4n) (10 : Int32) ([(.ref pa4), (.ref pa5), (.ref pa6), .null, .null, .null, .null, .null, .null, .null]) .null) :
    MetB l M17 jdk_38_method_18_code 2 (some (.object s4n)) ws (rmk 0 0 0 0) Z h0 #[(.ref pa1), (.int 0)] (Q_au19_0 Z wINTEGER wDOUBLE wBOOLEAN wDEFAULTCAPACITY_EMPTY_ELEMENTDATA kwDEFAULTCAPACITY_EMPTY_ELEMENTDATA pa1 pa2 pk3 pa4 pa5 pa6 h0 n0) := by
  refine own_body (plainFor_of_name pn_java_util_ArrayList) ?_
  intro p e s m below meth c s₁ hx hby hml hown hnm hret0 hlk0 hZ X0 e0
  have N0 := Fr.nil n0
  have pre0 : ∀ t, Steps p.tables e below (s₁.setTop (mkF m 0 #[(vr pa1), (vi 0)] [])) t → Steps p.tables e below (s₁.setTop (entryFrame m #[(.ref pa1), (.int 0)] 2)) t := fun t k => castTop (ef_au19_0 m pa1 (0 : Int32)) k
  have hS0 := hS
  obtain ⟨S_wINTEGER, E_wINTEGER, S_wDOUBLE, E_wDOUBLE, S_wBOOLEAN, E_wBOOLEAN, F_ordinal_wINTEGER, F_ordinal_wDOUBLE, F_ordinal_wBOOLEAN, S_wDEFAULTCAPACITY_EMPTY_ELEMENTDATA, E_wDEFAULTCAPACITY_EMPTY_ELEMENTDATA, V_wDEFAULTCAPACITY_EMPTY_ELEMENTDATA⟩ := hS0
  obtain ⟨T1, X1, e1, st1⟩ := getF X0 hx hZ hown (host := "") (Or.inl (ow hw 34 rfl)) Via.refl e0 P2 (g := (mkF m 1 #[(vr pa1), (vi 0)] [(.ref pa1)])) rfl rfl (hb hby d19_1)
  obtain ⟨cl2, Ar2, qc2, Sz2, Nn2, Ha2, Gg2⟩ := (id P4)
  have hin2 : ¬ ((0 : Int32) < 0 ∨ cl2.slots.size ≤ ((0 : Int32)).toNatClampNeg) := inb_of Sz2 ⟨by decide, by decide⟩
  have hat2 : cl2.slots[((0 : Int32)).toNatClampNeg]? = some (.ref pa4) := Ha2.at hin2 rfl
  obtain ⟨fs, hr, hrun, hended, hW, hsame⟩ := X1.leave (v := some (.ref pa4)) (fun h => by rw [hret0] at h; cases h)
  refine ⟨_, _, pre0 _ ?_, hrun, hended, _, _, rfl, ?_, ⟨_, rfl⟩, hW, hsame.mono (by decide) (by decide)⟩
  · skip
    show Steps p.tables e below (s₁.setTop (mkF m 0 #[(vr pa1), (vi 0)] [])) _
    refine XS.aloadN X0.here hx rfl (hb hby d19_0) rfl rfl ?_
    refine st1 _ ?_
    refine XS.iloadN X1.here hx rfl (hb hby d19_4) rfl ?_
    refine X1.aaload hx (j := (0 : Int32)) (v := (.ref pa4)) (by rw [e1]; exact Ar2.1) (State.isArrayOf_alike hZ.alike Ar2.2.1) rfl Ar2.2.2 hin2 hat2 (g := (mkF m 5 #[(vr pa1), (vi 0)] [(.int 0), (.ref pa2)])) rfl rfl (hb hby d19_5) _ ?_
    jvm_step X1.here [X1.here.top, hx, (hb hby d19_6), X1.method', hret0, Value.isRef, FieldType.isReference]
    first | (intro acts; rw [hr _ acts rfl rfl rfl]) | rw [hr _ _ rfl rfl rfl]
    exact Steps.refl _
  · show Q_au19_0 Z wINTEGER wDOUBLE wBOOLEAN wDEFAULTCAPACITY_EMPTY_ELEMENTDATA kwDEFAULTCAPACITY_EMPTY_ELEMENTDATA pa1 pa2 pk3 pa4 pa5 pa6 h0 n0 _ T1.heap _
    rw [e1]
    exact ⟨rfl, N0, rfl⟩
theorem pd_12 : parseMethodDescriptor "(I)Ljava/lang/Object;" = some ⟨[.int], some (.object "java/lang/Object")⟩ := by decide +kernel
theorem d16_14 : decode jdk_38_method_20_code 14 = .ok (.areturn, 1) := by decide +kernel
def Q_au16_0 (Z : State) (wINTEGER : Addr) (wDOUBLE : Addr) (wBOOLEAN : Addr) (wDEFAULTCAPACITY_EMPTY_ELEMENTDATA : Addr) (kwDEFAULTCAPACITY_EMPTY_ELEMENTDATA : ClassId) (pa1 : Addr) (pa2 : Addr) (pk3 : ClassId) (pa4 : Addr) (pa5 : Addr) (pa6 : Addr) (h0 : Heap) (n0 : Nat) (v : Option Value) (h : Heap) (L : List Loc) : Prop := v = some (.ref pa4) ∧ Fr n0 L ∧ h = h0
theorem au16_0 (l : Launch) (Z : State) (a0 : Array Value) (hw : ∀ d ∈ tables_1, d.before a0 Z = true) (ws : List Jvm.Cond) (wINTEGER : Addr) (wDOUBLE : Addr) (wBOOLEAN : Addr) (wDEFAULTCAPACITY_EMPTY_ELEMENTDATA : Addr) (kwDEFAULTCAPACITY_EMPTY_ELEMENTDATA : ClassId) (hS : SS Z wINTEGER wDOUBLE wBOOLEAN wDEFAULTCAPACITY_EMPTY_ELEMENTDATA kwDEFAULTCAPACITY_EMPTY_ELEMENTDATA) (pa1 : Addr) (pa2 : Addr) (pk3 : ClassId) (pa4 : Addr) (pa5 : Addr) (pa6 : Addr) (h0 : Heap) (n0 : Nat) (O0 : Old Z n0 h0) (P0 : Exa Z h0 pa1 s2n) (P2 : Fld Z h0 pa1 s2n "elementData" s3n (.ref pa2)) (P3 : Fld Z h0 pa1 s2n "size" "I" (.int 3)) (P4 : Arv Z h0 pa2 pk3 (.object s4n) (10 : Int32) ([(.ref pa4), (.ref pa5), (.ref pa6), .null, .null, .null, .null, .null, .null, .null]) .null) :
    MetB l M18 jdk_38_method_20_code 2 (some (.object s4n)) ws (rmk 2 0 0 27) Z h0 #[(.ref pa1), (.int 0)] (Q_au16_0 Z wINTEGER wDOUBLE wBOOLEAN wDEFAULTCAPACITY_EMPTY_ELEMENTDATA kwDEFAULTCAPACITY_EMPTY_ELEMENTDATA pa1 pa2 pk3 pa4 pa5 pa6 h0 n0) := by
  refine own_body (plainFor_of_name pn_java_util_ArrayList) ?_
  intro p e s m below meth c s₁ hx hby hml hown hnm hret0 hlk0 hZ X0 e0
  have N0 := Fr.nil n0
  have pre0 : ∀ t, Steps p.tables e below (s₁.setTop (mkF m 0 #[(vr pa1), (vi 0)] [])) t → Steps p.tables e below (s₁.setTop (entryFrame m #[(.ref pa1), (.int 0)] 2)) t := fun t k => castTop (ef_au16_0 m pa1 (0 : Int32)) k
  have hS0 := hS
  obtain ⟨S_wINTEGER, E_wINTEGER, S_wDOUBLE, E_wDOUBLE, S_wBOOLEAN, E_wBOOLEAN, F_ordinal_wINTEGER, F_ordinal_wDOUBLE, F_ordinal_wBOOLEAN, S_wDEFAULTCAPACITY_EMPTY_ELEMENTDATA, E_wDEFAULTCAPACITY_EMPTY_ELEMENTDATA, V_wDEFAULTCAPACITY_EMPTY_ELEMENTDATA⟩ := hS0
  obtain ⟨T1, X1, e1, st1⟩ := getF X0 hx hZ hown (host := "") (Or.inl (ow hw 82 rfl)) Via.refl e0 P3 (g := (mkF m 2 #[(vr pa1), (vi 0)] [(.ref pa1), (.int 0)])) rfl rfl (hb hby d16_2)
  obtain ⟨_, _, ⟨T2, L2, k2, n2⟩, -, X2, ⟨Lc2, hQ2, l2, y2, z2⟩, st2⟩ := Jvm.LawKit.callS X1 hx (y := M16) hown (mvT hZ (ow hw 140 rfl)) (mvT hZ (ow hw 141 rfl)) (mvT hZ (ow hw 142 rfl)) (mvT hZ (ow hw 143 rfl)) (by decide) (backOf (W := 0) (au17_0 l Z a0 hw [] wINTEGER wDOUBLE wBOOLEAN wDEFAULTCAPACITY_EMPTY_ELEMENTDATA kwDEFAULTCAPACITY_EMPTY_ELEMENTDATA hS  h0 n0 O0 ) hZ (ow hw 143 rfl) (ow hw 142 rfl) (by decide) (by decide)) (g := (mkF m 5 #[(vr pa1), (vi 0)] [(.int 3), (.int 0)])) rfl (by rw [hml]; rfl) (argsL := [(.int 0), (.int 3)]) (rest := []) (lenOf pd_5 rfl) rfl (by show 2 * 0 + _ ≤ _; exact Nat.le_of_eq rfl) (hb hby d16_5) (fun _ _ => ⟨rfl, e1, (by decide : 0 + 0 ≤ _), (by decide : 0 + 0 ≤ _)⟩)
  dsimp only [Pt.U, Pt.locs, Pt.cells, Pt.slots] at X2 l2 y2 z2 st2 hQ2
  subst y2 z2
  obtain ⟨rfl, Nq2, K2q⟩ := hQ2
  have N2 : Fr n0 L2 := (congrArg (Fr n0) l2).mpr (Fr.app N0 Nq2)
  obtain ⟨cq3, kq3, q3a, q3b, q3c⟩ := isOf hZ K2q P0
  obtain ⟨_, _, ⟨T3, L3, k3, n3⟩, -, X3, ⟨Lc3, hQ3, l3, y3, z3⟩, st3⟩ := X2.virtualBack hx (y := M17) (z := M17) hown (mvT hZ (ow hw 148 rfl)) (mvT hZ (ow hw 149 rfl)) (notFace_of_selects (args := #[]) (mvT hZ (ow hw 151 rfl))) (mvT hZ (ow hw 151 rfl)) (mvT hZ (ow hw 150 rfl)) (by decide) (backOf (W := 0) (au19_0 l Z a0 hw [] wINTEGER wDOUBLE wBOOLEAN wDEFAULTCAPACITY_EMPTY_ELEMENTDATA kwDEFAULTCAPACITY_EMPTY_ELEMENTDATA hS pa1 pa2 pk3 pa4 pa5 pa6 h0 n0 O0 P2 P4) hZ (ow hw 152 rfl) (ow hw 12 rfl) (by decide) (by decide)) q3a q3c (g := (mkF m 11 #[(vr pa1), (vi 0)] [(.int 0), (.ref pa1)])) rfl (by rw [hml]; rfl) (Steps.refl _) (argsL := [(.int 0)]) (rest := []) (lenOf pd_12 rfl) rfl (by show 2 * 0 + _ ≤ _; exact Nat.le_of_eq rfl) (hb hby d16_11) (fun _ _ => ⟨rfl, K2q, (by decide : 0 + 0 ≤ _), (by decide : 0 + 0 ≤ _)⟩)
  dsimp only [Pt.U, Pt.locs, Pt.cells, Pt.slots] at X3 l3 y3 z3 st3 hQ3
  subst y3 z3
  obtain ⟨rfl, Nq3, K3q⟩ := hQ3
  have N3 : Fr n0 L3 := (congrArg (Fr n0) l3).mpr (Fr.app N2 Nq3)
  obtain ⟨fs, hr, hrun, hended, hW, hsame⟩ := X3.leave (v := some (.ref pa4)) (fun h => by rw [hret0] at h; cases h)
  refine ⟨_, _, pre0 _ ?_, hrun, hended, _, _, rfl, ?_, ⟨_, rfl⟩, hW, hsame.mono (by decide) (by decide)⟩
  · skip
    show Steps p.tables e below (s₁.setTop (mkF m 0 #[(vr pa1), (vi 0)] [])) _
    refine XS.iloadN X0.here hx rfl (hb hby d16_0) rfl ?_
    refine XS.aloadN X0.here hx rfl (hb hby d16_1) rfl rfl ?_
    refine st1 _ ?_
    refine st2 _ ?_
    refine XS.pop X2.here hx rfl (hb hby d16_8) rfl rfl ?_
    refine XS.aloadN X2.here hx rfl (hb hby d16_9) rfl rfl ?_
    show Steps p.tables e below (T2.setTop (mkF m 10 #[(vr pa1), (vi 0)] [(.ref pa1)])) _
    refine XS.iloadN X2.here hx rfl (hb hby d16_10) rfl ?_
    refine st3.trans ?_
    jvm_step X3.here [X3.here.top, hx, (hb hby d16_14), X3.method', hret0, Value.isRef, FieldType.isReference]
    first | (intro acts; rw [hr _ acts rfl rfl rfl]) | rw [hr _ _ rfl rfl rfl]
    exact Steps.refl _
  · show Q_au16_0 Z wINTEGER wDOUBLE wBOOLEAN wDEFAULTCAPACITY_EMPTY_ELEMENTDATA kwDEFAULTCAPACITY_EMPTY_ELEMENTDATA pa1 pa2 pk3 pa4 pa5 pa6 h0 n0 _ T3.heap _
    rw [K3q]
    exact ⟨rfl, N3, rfl⟩
theorem d14_61 : decode prog_105_method_1_code 61 = .ok (.checkcast 33, 3) := by decide +kernel
theorem d14_64 : decode prog_105_method_1_code 64 = .ok (.astore 6, 2) := by decide +kernel
theorem d14_66 : decode prog_105_method_1_code 66 = .ok (.aload 6, 2) := by decide +kernel
theorem d14_68 : decode prog_105_method_1_code 68 = .ok (.invokevirtual 35, 3) := by decide +kernel
theorem ef_au20_0 (m : MethodId) (x0 : Addr)  : entryFrame m #[(.ref x0)] 1 = mkF m 0 #[(vr x0)] [] := by first | (simp [entryFrame, mkF, argsToLocals, Value.category]; done) | rfl
theorem d20_0 : decode prog_104_method_9_code 0 = .ok (.aload_n 0, 1) := by decide +kernel
theorem d20_1 : decode prog_104_method_9_code 1 = .ok (.getfield 44, 3) := by decide +kernel
theorem d20_4 : decode prog_104_method_9_code 4 = .ok (.ireturn, 1) := by decide +kernel
def Q_au20_0 (Z : State) (wINTEGER : Addr) (wDOUBLE : Addr) (wBOOLEAN : Addr) (wDEFAULTCAPACITY_EMPTY_ELEMENTDATA : Addr) (kwDEFAULTCAPACITY_EMPTY_ELEMENTDATA : ClassId) (pa1 : Addr) (pi2 : Int32) (h0 : Heap) (n0 : Nat) (v : Option Value) (h : Heap) (L : List Loc) : Prop := v = some (.int pi2) ∧ Fr n0 L ∧ h = h0
theorem au20_0 (l : Launch) (Z : State) (a0 : Array Value) (hw : ∀ d ∈ tables_1, d.before a0 Z = true) (ws : List Jvm.Cond) (wINTEGER : Addr) (wDOUBLE : Addr) (wBOOLEAN : Addr) (wDEFAULTCAPACITY_EMPTY_ELEMENTDATA : Addr) (kwDEFAULTCAPACITY_EMPTY_ELEMENTDATA : ClassId) (hS : SS Z wINTEGER wDOUBLE wBOOLEAN wDEFAULTCAPACITY_EMPTY_ELEMENTDATA kwDEFAULTCAPACITY_EMPTY_ELEMENTDATA) (pa1 : Addr) (pi2 : Int32) (h0 : Heap) (n0 : Nat) (O0 : Old Z n0 h0) (P1 : Fld Z h0 pa1 s6n "high" "I" (.int pi2)) :
    MetB l M19 prog_104_method_9_code 1 (some .int) ws (rmk 0 0 0 0) Z h0 #[(.ref pa1)] (Q_au20_0 Z wINTEGER wDOUBLE wBOOLEAN wDEFAULTCAPACITY_EMPTY_ELEMENTDATA kwDEFAULTCAPACITY_EMPTY_ELEMENTDATA pa1 pi2 h0 n0) := by
  refine own_body (plainFor_of_name pn_com_example_lanc_lanc_model_StateValuations_Variable) ?_
  intro p e s m below meth c s₁ hx hby hml hown hnm hret0 hlk0 hZ X0 e0
  have N0 := Fr.nil n0
  have pre0 : ∀ t, Steps p.tables e below (s₁.setTop (mkF m 0 #[(vr pa1)] [])) t → Steps p.tables e below (s₁.setTop (entryFrame m #[(.ref pa1)] 1)) t := fun t k => castTop (ef_au20_0 m pa1) k
  have hS0 := hS
  obtain ⟨S_wINTEGER, E_wINTEGER, S_wDOUBLE, E_wDOUBLE, S_wBOOLEAN, E_wBOOLEAN, F_ordinal_wINTEGER, F_ordinal_wDOUBLE, F_ordinal_wBOOLEAN, S_wDEFAULTCAPACITY_EMPTY_ELEMENTDATA, E_wDEFAULTCAPACITY_EMPTY_ELEMENTDATA, V_wDEFAULTCAPACITY_EMPTY_ELEMENTDATA⟩ := hS0
  obtain ⟨T1, X1, e1, st1⟩ := getF X0 hx hZ hown (host := "") (Or.inl (ow hw 69 rfl)) Via.refl e0 P1 (g := (mkF m 1 #[(vr pa1)] [(.ref pa1)])) rfl rfl (hb hby d20_1)
  obtain ⟨fs, hr, hrun, hended, hW, hsame⟩ := X1.leave (v := some (.int pi2)) (fun h => by rw [hret0] at h; cases h)
  refine ⟨_, _, pre0 _ ?_, hrun, hended, _, _, rfl, ?_, ⟨_, rfl⟩, hW, hsame.mono (by decide) (by decide)⟩
  · skip
    show Steps p.tables e below (s₁.setTop (mkF m 0 #[(vr pa1)] [])) _
    refine XS.aloadN X0.here hx rfl (hb hby d20_0) rfl rfl ?_
    refine st1 _ ?_
    exact retI X1 hx hret0 (hb hby d20_4) hr
  · show Q_au20_0 Z wINTEGER wDOUBLE wBOOLEAN wDEFAULTCAPACITY_EMPTY_ELEMENTDATA kwDEFAULTCAPACITY_EMPTY_ELEMENTDATA pa1 pi2 h0 n0 _ T1.heap _
    rw [e1]
    exact ⟨rfl, N0, rfl⟩
theorem d14_71 : decode prog_105_method_1_code 71 = .ok (.i2l, 1) := by decide +kernel
theorem d14_72 : decode prog_105_method_1_code 72 = .ok (.aload 6, 2) := by decide +kernel
theorem d14_74 : decode prog_105_method_1_code 74 = .ok (.invokevirtual 38, 3) := by decide +kernel
theorem ef_au21_0 (m : MethodId) (x0 : Addr)  : entryFrame m #[(.ref x0)] 1 = mkF m 0 #[(vr x0)] [] := by first | (simp [entryFrame, mkF, argsToLocals, Value.category]; done) | rfl
theorem d21_0 : decode prog_104_method_8_code 0 = .ok (.aload_n 0, 1) := by decide +kernel
theorem d21_1 : decode prog_104_method_8_code 1 = .ok (.getfield 40, 3) := by decide +kernel
theorem d21_4 : decode prog_104_method_8_code 4 = .ok (.ireturn, 1) := by decide +kernel
def Q_au21_0 (Z : State) (wINTEGER : Addr) (wDOUBLE : Addr) (wBOOLEAN : Addr) (wDEFAULTCAPACITY_EMPTY_ELEMENTDATA : Addr) (kwDEFAULTCAPACITY_EMPTY_ELEMENTDATA : ClassId) (pa1 : Addr) (pi3 : Int32) (h0 : Heap) (n0 : Nat) (v : Option Value) (h : Heap) (L : List Loc) : Prop := v = some (.int pi3) ∧ Fr n0 L ∧ h = h0
theorem au21_0 (l : Launch) (Z : State) (a0 : Array Value) (hw : ∀ d ∈ tables_1, d.before a0 Z = true) (ws : List Jvm.Cond) (wINTEGER : Addr) (wDOUBLE : Addr) (wBOOLEAN : Addr) (wDEFAULTCAPACITY_EMPTY_ELEMENTDATA : Addr) (kwDEFAULTCAPACITY_EMPTY_ELEMENTDATA : ClassId) (hS : SS Z wINTEGER wDOUBLE wBOOLEAN wDEFAULTCAPACITY_EMPTY_ELEMENTDATA kwDEFAULTCAPACITY_EMPTY_ELEMENTDATA) (pa1 : Addr) (pi3 : Int32) (h0 : Heap) (n0 : Nat) (O0 : Old Z n0 h0) (P2 : Fld Z h0 pa1 s6n "low" "I" (.int pi3)) :
    MetB l M20 prog_104_method_8_code 1 (some .int) ws (rmk 0 0 0 0) Z h0 #[(.ref pa1)] (Q_au21_0 Z wINTEGER wDOUBLE wBOOLEAN wDEFAULTCAPACITY_EMPTY_ELEMENTDATA kwDEFAULTCAPACITY_EMPTY_ELEMENTDATA pa1 pi3 h0 n0) := by
  refine own_body (plainFor_of_name pn_com_example_lanc_lanc_model_StateValuations_Variable) ?_
  intro p e s m below meth c s₁ hx hby hml hown hnm hret0 hlk0 hZ X0 e0
  have N0 := Fr.nil n0
  have pre0 : ∀ t, Steps p.tables e below (s₁.setTop (mkF m 0 #[(vr pa1)] [])) t → Steps p.tables e below (s₁.setTop (entryFrame m #[(.ref pa1)] 1)) t := fun t k => castTop (ef_au21_0 m pa1) k
  have hS0 := hS
  obtain ⟨S_wINTEGER, E_wINTEGER, S_wDOUBLE, E_wDOUBLE, S_wBOOLEAN, E_wBOOLEAN, F_ordinal_wINTEGER, F_ordinal_wDOUBLE, F_ordinal_wBOOLEAN, S_wDEFAULTCAPACITY_EMPTY_ELEMENTDATA, E_wDEFAULTCAPACITY_EMPTY_ELEMENTDATA, V_wDEFAULTCAPACITY_EMPTY_ELEMENTDATA⟩ := hS0
  obtain ⟨T1, X1, e1, st1⟩ := getF X0 hx hZ hown (host := "") (Or.inl (ow hw 67 rfl)) Via.refl e0 P2 (g := (mkF m 1 #[(vr pa1)] [(.ref pa1)])) rfl rfl (hb hby d21_1)
  obtain ⟨fs, hr, hrun, hended, hW, hsame⟩ := X1.leave (v := some (.int pi3)) (fun h => by rw [hret0] at h; cases h)
  refine ⟨_, _, pre0 _ ?_, hrun, hended, _, _, rfl, ?_, ⟨_, rfl⟩, hW, hsame.mono (by decide) (by decide)⟩
  · skip
    show Steps p.tables e below (s₁.setTop (mkF m 0 #[(vr pa1)] [])) _
    refine XS.aloadN X0.here hx rfl (hb hby d21_0) rfl rfl ?_
    refine st1 _ ?_
    exact retI X1 hx hret0 (hb hby d21_4) hr
  · show Q_au21_0 Z wINTEGER wDOUBLE wBOOLEAN wDEFAULTCAPACITY_EMPTY_ELEMENTDATA kwDEFAULTCAPACITY_EMPTY_ELEMENTDATA pa1 pi3 h0 n0 _ T1.heap _
    rw [e1]
    exact ⟨rfl, N0, rfl⟩
theorem d14_77 : decode prog_105_method_1_code 77 = .ok (.i2l, 1) := by decide +kernel
theorem d14_78 : decode prog_105_method_1_code 78 = .ok (.lsub, 1) := by decide +kernel
theorem d14_79 : decode prog_105_method_1_code 79 = .ok (.lstore 7, 2) := by decide +kernel
theorem d14_81 : decode prog_105_method_1_code 81 = .ok (.bipush 64, 2) := by decide +kernel
theorem d14_83 : decode prog_105_method_1_code 83 = .ok (.lload 7, 2) := by decide +kernel
theorem d14_85 : decode prog_105_method_1_code 85 = .ok (.invokestatic 42, 3) := by decide +kernel
theorem pd_13 : parseMethodDescriptor "(J)I" = some ⟨[.long], some .int⟩ := by decide +kernel
theorem d14_88 : decode prog_105_method_1_code 88 = .ok (.isub, 1) := by decide +kernel
theorem d14_89 : decode prog_105_method_1_code 89 = .ok (.istore 9, 2) := by decide +kernel
theorem d14_91 : decode prog_105_method_1_code 91 = .ok (.iload 4, 2) := by decide +kernel
theorem d14_93 : decode prog_105_method_1_code 93 = .ok (.iload 9, 2) := by decide +kernel
theorem d14_95 : decode prog_105_method_1_code 95 = .ok (.iadd, 1) := by decide +kernel
theorem d14_96 : decode prog_105_method_1_code 96 = .ok (.bipush 64, 2) := by decide +kernel
theorem d14_98 : decode prog_105_method_1_code 98 = .ok (.if_icmp .le 9, 3) := by decide +kernel
theorem d14_107 : decode prog_105_method_1_code 107 = .ok (.aload_n 0, 1) := by decide +kernel
theorem d14_108 : decode prog_105_method_1_code 108 = .ok (.getfield 13, 3) := by decide +kernel
theorem d14_111 : decode prog_105_method_1_code 111 = .ok (.iload 5, 2) := by decide +kernel
theorem d14_113 : decode prog_105_method_1_code 113 = .ok (.aload 6, 2) := by decide +kernel
theorem d14_115 : decode prog_105_method_1_code 115 = .ok (.invokevirtual 38, 3) := by decide +kernel
theorem d14_118 : decode prog_105_method_1_code 118 = .ok (.iastore, 1) := by decide +kernel
theorem d14_119 : decode prog_105_method_1_code 119 = .ok (.aload_n 0, 1) := by decide +kernel
theorem d14_120 : decode prog_105_method_1_code 120 = .ok (.getfield 19, 3) := by decide +kernel
theorem d14_123 : decode prog_105_method_1_code 123 = .ok (.iload 5, 2) := by decide +kernel
theorem d14_125 : decode prog_105_method_1_code 125 = .ok (.iload_n 3, 1) := by decide +kernel
theorem d14_126 : decode prog_105_method_1_code 126 = .ok (.iconst 1, 1) := by decide +kernel
theorem d14_127 : decode prog_105_method_1_code 127 = .ok (.isub, 1) := by decide +kernel
theorem d14_128 : decode prog_105_method_1_code 128 = .ok (.iastore, 1) := by decide +kernel
theorem d14_129 : decode prog_105_method_1_code 129 = .ok (.aload_n 0, 1) := by decide +kernel
theorem d14_130 : decode prog_105_method_1_code 130 = .ok (.getfield 22, 3) := by decide +kernel
theorem d14_133 : decode prog_105_method_1_code 133 = .ok (.iload 5, 2) := by decide +kernel
theorem d14_135 : decode prog_105_method_1_code 135 = .ok (.iload 4, 2) := by decide +kernel
theorem d14_137 : decode prog_105_method_1_code 137 = .ok (.iastore, 1) := by decide +kernel
theorem d14_138 : decode prog_105_method_1_code 138 = .ok (.aload_n 0, 1) := by decide +kernel
theorem d14_139 : decode prog_105_method_1_code 139 = .ok (.getfield 25, 3) := by decide +kernel
theorem d14_142 : decode prog_105_method_1_code 142 = .ok (.iload 5, 2) := by decide +kernel
theorem d14_144 : decode prog_105_method_1_code 144 = .ok (.iload 9, 2) := by decide +kernel
theorem d14_146 : decode prog_105_method_1_code 146 = .ok (.ifCond .ne 7, 3) := by decide +kernel
theorem d14_149 : decode prog_105_method_1_code 149 = .ok (.lconst 0, 1) := by decide +kernel
theorem d14_150 : decode prog_105_method_1_code 150 = .ok (.goto 12, 3) := by decide +kernel
theorem d14_153 : decode prog_105_method_1_code 153 = .ok (.ldc2_w 46, 3) := by decide +kernel
theorem d14_156 : decode prog_105_method_1_code 156 = .ok (.bipush 64, 2) := by decide +kernel
theorem d14_158 : decode prog_105_method_1_code 158 = .ok (.iload 9, 2) := by decide +kernel
theorem d14_160 : decode prog_105_method_1_code 160 = .ok (.isub, 1) := by decide +kernel
theorem d14_161 : decode prog_105_method_1_code 161 = .ok (.lushr, 1) := by decide +kernel
theorem d14_162 : decode prog_105_method_1_code 162 = .ok (.lastore, 1) := by decide +kernel
theorem d14_163 : decode prog_105_method_1_code 163 = .ok (.iload 4, 2) := by decide +kernel
theorem d14_165 : decode prog_105_method_1_code 165 = .ok (.iload 9, 2) := by decide +kernel
theorem d14_167 : decode prog_105_method_1_code 167 = .ok (.iadd, 1) := by decide +kernel
theorem d14_168 : decode prog_105_method_1_code 168 = .ok (.istore 4, 2) := by decide +kernel
theorem d14_170 : decode prog_105_method_1_code 170 = .ok (.iinc 5 1, 3) := by decide +kernel
theorem d14_173 : decode prog_105_method_1_code 173 = .ok (.goto (-126), 3) := by decide +kernel
theorem ef_au16_1 (m : MethodId) (x0 : Addr) (x1 : Int32)  : entryFrame m #[(.ref x0), (.int x1)] 2 = mkF m 0 #[(vr x0), (vi x1)] [] := by first | (simp [entryFrame, mkF, argsToLocals, Value.category]; done) | rfl
theorem ef_au17_1 (m : MethodId) (x0 : Int32) (x1 : Int32)  : entryFrame m #[(.int x0), (.int x1)] 2 = mkF m 0 #[(vi x0), (vi x1)] [] := by first | (simp [entryFrame, mkF, argsToLocals, Value.category]; done) | rfl
theorem ef_au18_1 (m : MethodId) (x0 : Int32) (x1 : Int32)  : entryFrame m #[(.int x0), (.int x1), .null] 3 = mkF m 0 #[(vi x0), (vi x1), .val .null] [] := by first | (simp [entryFrame, mkF, argsToLocals, Value.category]; done) | rfl
def Q_au18_1 (Z : State) (wINTEGER : Addr) (wDOUBLE : Addr) (wBOOLEAN : Addr) (wDEFAULTCAPACITY_EMPTY_ELEMENTDATA : Addr) (kwDEFAULTCAPACITY_EMPTY_ELEMENTDATA : ClassId)  (h0 : Heap) (n0 : Nat) (v : Option Value) (h : Heap) (L : List Loc) : Prop := v = some (.int 1) ∧ Fr n0 L ∧ h = h0
theorem au18_1 (l : Launch) (Z : State) (a0 : Array Value) (hw : ∀ d ∈ tables_1, d.before a0 Z = true) (ws : List Jvm.Cond) (wINTEGER : Addr) (wDOUBLE : Addr) (wBOOLEAN : Addr) (wDEFAULTCAPACITY_EMPTY_ELEMENTDATA : Addr) (kwDEFAULTCAPACITY_EMPTY_ELEMENTDATA : ClassId) (hS : SS Z wINTEGER wDOUBLE wBOOLEAN wDEFAULTCAPACITY_EMPTY_ELEMENTDATA kwDEFAULTCAPACITY_EMPTY_ELEMENTDATA)  (h0 : Heap) (n0 : Nat) (O0 : Old Z n0 h0)  :
    MetB l M15 jdk_41_method_11_code 3 (some .int) ws (rmk 0 0 0 0) Z h0 #[(.int 1), (.int 3), .null] (Q_au18_1 Z wINTEGER wDOUBLE wBOOLEAN wDEFAULTCAPACITY_EMPTY_ELEMENTDATA kwDEFAULTCAPACITY_EMPTY_ELEMENTDATA  h0 n0) := by
  refine own_body (plainFor_of_name pn_jdk_internal_util_Preconditions) ?_
  intro p e s m below meth c s₁ hx hby hml hown hnm hret0 hlk0 hZ X0 e0
  have N0 := Fr.nil n0
  have pre0 : ∀ t, Steps p.tables e below (s₁.setTop (mkF m 0 #[(vi 1), (vi 3), .val .null] [])) t → Steps p.tables e below (s₁.setTop (entryFrame m #[(.int 1), (.int 3), .null] 3)) t := fun t k => castTop (ef_au18_1 m (1 : Int32) (3 : Int32)) k
  have hS0 := hS
  obtain ⟨S_wINTEGER, E_wINTEGER, S_wDOUBLE, E_wDOUBLE, S_wBOOLEAN, E_wBOOLEAN, F_ordinal_wINTEGER, F_ordinal_wDOUBLE, F_ordinal_wBOOLEAN, S_wDEFAULTCAPACITY_EMPTY_ELEMENTDATA, E_wDEFAULTCAPACITY_EMPTY_ELEMENTDATA, V_wDEFAULTCAPACITY_EMPTY_ELEMENTDATA⟩ := hS0
  obtain ⟨fs, hr, hrun, hended, hW, hsame⟩ := X0.leave (v := some (.int 1)) (fun h => by rw [hret0] at h; cases h)
  refine ⟨_, _, pre0 _ ?_, hrun, hended, _, _, rfl, ?_, ⟨_, rfl⟩, hW, hsame.mono (by decide) (by decide)⟩
  · skip
    show Steps p.tables e below (s₁.setTop (mkF m 0 #[(vi 1), (vi 3), .val .null] [])) _
    refine XS.iloadN X0.here hx rfl (hb hby d18_0) rfl ?_
    refine XS.ifNo X0.here hx rfl (hb hby d18_1) rfl ((if0 _ _).trans (flt (by decide : ¬ ((1 : Int32) < (0 : Int32)))).1) ?_
    refine XS.iloadN X0.here hx rfl (hb hby d18_4) rfl ?_
    refine XS.iloadN X0.here hx rfl (hb hby d18_5) rfl ?_
    refine XS.icmpYes X0.here hx rfl (pc0 := 6) (pc' := 16) rfl (hb hby d18_6) rfl (tlt (by decide : (1 : Int32) < (3 : Int32))).1 (by decide) (by decide) ?_
    refine XS.iloadN X0.here hx rfl (hb hby d18_16) rfl ?_
    show Steps p.tables e below (s₁.setTop (mkF m 17 #[(vi 1), (vi 3), .val .null] [(.int 1)])) _
    exact retI X0 hx hret0 (hb hby d18_17) hr
  · show Q_au18_1 Z wINTEGER wDOUBLE wBOOLEAN wDEFAULTCAPACITY_EMPTY_ELEMENTDATA kwDEFAULTCAPACITY_EMPTY_ELEMENTDATA  h0 n0 _ s₁.heap _
    rw [e0]
    exact ⟨rfl, N0, rfl⟩
def Q_au17_1 (Z : State) (wINTEGER : Addr) (wDOUBLE : Addr) (wBOOLEAN : Addr) (wDEFAULTCAPACITY_EMPTY_ELEMENTDATA : Addr) (kwDEFAULTCAPACITY_EMPTY_ELEMENTDATA : ClassId)  (h0 : Heap) (n0 : Nat) (v : Option Value) (h : Heap) (L : List Loc) : Prop := v = some (.int 1) ∧ Fr n0 L ∧ h = h0
theorem au17_1 (l : Launch) (Z : State) (a0 : Array Value) (hw : ∀ d ∈ tables_1, d.before a0 Z = true) (ws : List Jvm.Cond) (wINTEGER : Addr) (wDOUBLE : Addr) (wBOOLEAN : Addr) (wDEFAULTCAPACITY_EMPTY_ELEMENTDATA : Addr) (kwDEFAULTCAPACITY_EMPTY_ELEMENTDATA : ClassId) (hS : SS Z wINTEGER wDOUBLE wBOOLEAN wDEFAULTCAPACITY_EMPTY_ELEMENTDATA kwDEFAULTCAPACITY_EMPTY_ELEMENTDATA)  (h0 : Heap) (n0 : Nat) (O0 : Old Z n0 h0)  :
    MetB l M16 jdk_31_method_17_code 2 (some .int) ws (rmk 1 0 0 14) Z h0 #[(.int 1), (.int 3)] (Q_au17_1 Z wINTEGER wDOUBLE wBOOLEAN wDEFAULTCAPACITY_EMPTY_ELEMENTDATA kwDEFAULTCAPACITY_EMPTY_ELEMENTDATA  h0 n0) := by
  refine own_body (plainFor_of_name pn_java_util_Objects) ?_
  intro p e s m below meth c s₁ hx hby hml hown hnm hret0 hlk0 hZ X0 e0
  have N0 := Fr.nil n0
  have pre0 : ∀ t, Steps p.tables e below (s₁.setTop (mkF m 0 #[(vi 1), (vi 3)] [])) t → Steps p.tables e below (s₁.setTop (entryFrame m #[(.int 1), (.int 3)] 2)) t := fun t k => castTop (ef_au17_1 m (1 : Int32) (3 : Int32)) k
  have hS0 := hS
  obtain ⟨S_wINTEGER, E_wINTEGER, S_wDOUBLE, E_wDOUBLE, S_wBOOLEAN, E_wBOOLEAN, F_ordinal_wINTEGER, F_ordinal_wDOUBLE, F_ordinal_wBOOLEAN, S_wDEFAULTCAPACITY_EMPTY_ELEMENTDATA, E_wDEFAULTCAPACITY_EMPTY_ELEMENTDATA, V_wDEFAULTCAPACITY_EMPTY_ELEMENTDATA⟩ := hS0
  obtain ⟨_, _, ⟨T1, L1, k1, n1⟩, -, X1, ⟨Lc1, hQ1, l1, y1, z1⟩, st1⟩ := Jvm.LawKit.callS X0 hx (y := M15) hown (mvT hZ (ow hw 144 rfl)) (mvT hZ (ow hw 145 rfl)) (mvT hZ (ow hw 146 rfl)) (mvT hZ (ow hw 147 rfl)) (by decide) (backOf (W := 0) (au18_1 l Z a0 hw [] wINTEGER wDOUBLE wBOOLEAN wDEFAULTCAPACITY_EMPTY_ELEMENTDATA kwDEFAULTCAPACITY_EMPTY_ELEMENTDATA hS  h0 n0 O0 ) hZ (ow hw 147 rfl) (ow hw 146 rfl) (by decide) (by decide)) (g := (mkF m 3 #[(vi 1), (vi 3)] [.null, (.int 3), (.int 1)])) rfl (by rw [hml]; rfl) (argsL := [(.int 1), (.int 3), .null]) (rest := []) (lenOf pd_11 rfl) rfl (by show 2 * 0 + _ ≤ _; exact Nat.le_of_eq rfl) (hb hby d17_3) (fun _ _ => ⟨rfl, e0, (by decide : 0 + 0 ≤ _), (by decide : 0 + 0 ≤ _)⟩)
  dsimp only [Pt.U, Pt.locs, Pt.cells, Pt.slots] at X1 l1 y1 z1 st1 hQ1
  subst y1 z1
  obtain ⟨rfl, Nq1, K1q⟩ := hQ1
  have N1 : Fr n0 L1 := (congrArg (Fr n0) l1).mpr (Fr.app N0 Nq1)
  obtain ⟨fs, hr, hrun, hended, hW, hsame⟩ := X1.leave (v := some (.int 1)) (fun h => by rw [hret0] at h; cases h)
  refine ⟨_, _, pre0 _ ?_, hrun, hended, _, _, rfl, ?_, ⟨_, rfl⟩, hW, hsame.mono (by decide) (by decide)⟩
  · skip
    show Steps p.tables e below (s₁.setTop (mkF m 0 #[(vi 1), (vi 3)] [])) _
    refine XS.iloadN X0.here hx rfl (hb hby d17_0) rfl ?_
    refine XS.iloadN X0.here hx rfl (hb hby d17_1) rfl ?_
    refine XS.aconstNull X0.here hx rfl (hb hby d17_2) ?_
    refine st1 _ ?_
    exact retI X1 hx hret0 (hb hby d17_6) hr
  · show Q_au17_1 Z wINTEGER wDOUBLE wBOOLEAN wDEFAULTCAPACITY_EMPTY_ELEMENTDATA kwDEFAULTCAPACITY_EMPTY_ELEMENTDATA  h0 n0 _ T1.heap _
    rw [K1q]
    exact ⟨rfl, N1, rfl⟩
theorem ef_au19_1 (m : MethodId) (x0 : Addr) (x1 : Int32)  : entryFrame m #[(.ref x0), (.int x1)] 2 = mkF m 0 #[(vr x0), (vi x1)] [] := by first | (simp [entryFrame, mkF, argsToLocals, Value.category]; done) | rfl
def Q_au19_1 (Z : State) (wINTEGER : Addr) (wDOUBLE : Addr) (wBOOLEAN : Addr) (wDEFAULTCAPACITY_EMPTY_ELEMENTDATA : Addr) (kwDEFAULTCAPACITY_EMPTY_ELEMENTDATA : ClassId) (pa1 : Addr) (pa2 : Addr) (pk3 : ClassId) (pa4 : Addr) (pa5 : Addr) (pa6 : Addr) (h0 : Heap) (n0 : Nat) (v : Option Value) (h : Heap) (L : List Loc) : Prop := v = some (.ref pa5) ∧ Fr n0 L ∧ h = h0
theorem au19_1 (l : Launch) (Z : State) (a0 : Array Value) (hw : ∀ d ∈ tables_1, d.before a0 Z = true) (ws : List Jvm.Cond) (wINTEGER : Addr) (wDOUBLE : Addr) (wBOOLEAN : Addr) (wDEFAULTCAPACITY_EMPTY_ELEMENTDATA : Addr) (kwDEFAULTCAPACITY_EMPTY_ELEMENTDATA : ClassId) (hS : SS Z wINTEGER wDOUBLE wBOOLEAN wDEFAULTCAPACITY_EMPTY_ELEMENTDATA kwDEFAULTCAPACITY_EMPTY_ELEMENTDATA) (pa1 : Addr) (pa2 : Addr) (pk3 : ClassId) (pa4 : Addr) (pa5 : Addr) (pa6 : Addr) (h0 : Heap) (n0 : Nat) (O0 : Old Z n0 h0) (P2 : Fld Z h0 pa1 s2n "elementData" s3n (.ref pa2)) (P4 : Arv Z h0 pa2 pk3 (.object s4n) (10 : Int32) ([(.ref pa4), (.ref pa5), (.ref pa6), .null, .null, .null, .null, .null, .null, .null]) .null) :
    MetB l M17 jdk_38_method_18_code 2 (some (.object s4n)) ws (rmk 0 0 0 0) Z h0 #[(.ref pa1), (.int 1)] (Q_au19_1 Z wINTEGER wDOUBLE wBOOLEAN wDEFAULTCAPACITY_EMPTY_ELEMENTDATA kwDEFAULTCAPACITY_EMPTY_ELEMENTDATA pa1 pa2 pk3 pa4 pa5 pa6 h0 n0) := by
  refine own_body (plainFor_of_name pn_java_util_ArrayList) ?_
  intro p e s m below meth c s₁ hx hby hml hown hnm hret0 hlk0 hZ X0 e0
  have N0 := Fr.nil n0
  have pre0 : ∀ t, Steps p.tables e below (s₁.setTop (mkF m 0 #[(vr pa1), (vi 1)] [])) t → Steps p.tables e below (s₁.setTop (entryFrame m #[(.ref pa1), (.int 1)] 2)) t := fun t k => castTop (ef_au19_1 m pa1 (1 : Int32)) k
  have hS0 := hS
  obtain ⟨S_wINTEGER, E_wINTEGER, S_wDOUBLE, E_wDOUBLE, S_wBOOLEAN, E_wBOOLEAN, F_ordinal_wINTEGER, F_ordinal_wDOUBLE, F_ordinal_wBOOLEAN, S_wDEFAULTCAPACITY_EMPTY_ELEMENTDATA, E_wDEFAULTCAPACITY_EMPTY_ELEMENTDATA, V_wDEFAULTCAPACITY_EMPTY_ELEMENTDATA⟩ := hS0
  obtain ⟨T1, X1, e1, st1⟩ := getF X0 hx hZ hown (host := "") (Or.inl (ow hw 34 rfl)) Via.refl e0 P2 (g := (mkF m 1 #[(vr pa1), (vi 1)] [(.ref pa1)])) rfl rfl (hb hby d19_1)
  obtain ⟨cl2, Ar2, qc2, Sz2, Nn2, Ha2, Gg2⟩ := (id P4)
  have hin2 : ¬ ((1 : Int32) < 0 ∨ cl2.slots.size ≤ ((1 : Int32)).toNatClampNeg) := inb_of Sz2 ⟨by decide, by decide⟩
  have hat2 : cl2.slots[((1 : Int32)).toNatClampNeg]? = some (.ref pa5) := Ha2.at hin2 rfl
  obtain ⟨fs, hr, hrun, hended, hW, hsame⟩ := X1.leave (v := some (.ref pa5)) (fun h => by rw [hret0] at h; cases h)
  refine ⟨_, _, pre0 _ ?_, hrun, hended, _, _, rfl, ?_, ⟨_, rfl⟩, hW, hsame.mono (by decide) (by decide)⟩
  · skip
    show Steps p.tables e below (s₁.setTop (mkF m 0 #[(vr pa1), (vi 1)] [])) _
    refine XS.aloadN X0.here hx rfl (hb hby d19_0) rfl rfl ?_
    refine st1 _ ?_
    refine XS.iloadN X1.here hx rfl (hb hby d19_4) rfl ?_
    refine X1.aaload hx (j := (1 : Int32)) (v := (.ref pa5)) (by rw [e1]; exact Ar2.1) (State.isArrayOf_alike hZ.alike Ar2.2.1) rfl Ar2.2.2 hin2 hat2 (g := (mkF m 5 #[(vr pa1), (vi 1)] [(.int 1), (.ref pa2)])) rfl rfl (hb hby d19_5) _ ?_
    jvm_step X1.here [X1.here.top, hx, (hb hby d19_6), X1.method', hret0, Value.isRef, FieldType.isReference]
    first | (intro acts; rw [hr _ acts rfl rfl rfl]) | rw [hr _ _ rfl rfl rfl]
    exact Steps.refl _
  · show Q_au19_1 Z wINTEGER wDOUBLE wBOOLEAN wDEFAULTCAPACITY_EMPTY_ELEMENTDATA kwDEFAULTCAPACITY_EMPTY_ELEMENTDATA pa1 pa2 pk3 pa4 pa5 pa6 h0 n0 _ T1.heap _
    rw [e1]
    exact ⟨rfl, N0, rfl⟩
def Q_au16_1 (Z : State) (wINTEGER : Addr) (wDOUBLE : Addr) (wBOOLEAN : Addr) (wDEFAULTCAPACITY_EMPTY_ELEMENTDATA : Addr) (kwDEFAULTCAPACITY_EMPTY_ELEMENTDATA : ClassId) (pa1 : Addr) (pa2 : Addr) (pk3 : ClassId) (pa4 : Addr) (pa5 : Addr) (pa6 : Addr) (h0 : Heap) (n0 : Nat) (v : Option Value) (h : Heap) (L : List Loc) : Prop := v = some (.ref pa5) ∧ Fr n0 L ∧ h = h0
theorem au16_1 (l : Launch) (Z : State) (a0 : Array Value) (hw : ∀ d ∈ tables_1, d.before a0 Z = true) (ws : List Jvm.Cond) (wINTEGER : Addr) (wDOUBLE : Addr) (wBOOLEAN : Addr) (wDEFAULTCAPACITY_EMPTY_ELEMENTDATA : Addr) (kwDEFAULTCAPACITY_EMPTY_ELEMENTDATA : ClassId) (hS : SS Z wINTEGER wDOUBLE wBOOLEAN wDEFAULTCAPACITY_EMPTY_ELEMENTDATA kwDEFAULTCAPACITY_EMPTY_ELEMENTDATA) (pa1 : Addr) (pa2 : Addr) (pk3 : ClassId) (pa4 : Addr) (pa5 : Addr) (pa6 : Addr) (h0 : Heap) (n0 : Nat) (O0 : Old Z n0 h0) (P0 : Exa Z h0 pa1 s2n) (P2 : Fld Z h0 pa1 s2n "elementData" s3n (.ref pa2)) (P3 : Fld Z h0 pa1 s2n "size" "I" (.int 3)) (P4 : Arv Z h0 pa2 pk3 (.object s4n) (10 : Int32) ([(.ref pa4), (.ref pa5), (.ref pa6), .null, .null, .null, .null, .null, .null, .null]) .null) :
    MetB l M18 jdk_38_method_20_code 2 (some (.object s4n)) ws (rmk 2 0 0 27) Z h0 #[(.ref pa1), (.int 1)] (Q_au16_1 Z wINTEGER wDOUBLE wBOOLEAN wDEFAULTCAPACITY_EMPTY_ELEMENTDATA kwDEFAULTCAPACITY_EMPTY_ELEMENTDATA pa1 pa2 pk3 pa4 pa5 pa6 h0 n0) := by
  refine own_body (plainFor_of_name pn_java_util_ArrayList) ?_
  intro p e s m below meth c s₁ hx hby hml hown hnm hret0 hlk0 hZ X0 e0
  have N0 := Fr.nil n0
  have pre0 : ∀ t, Steps p.tables e below (s₁.setTop (mkF m 0 #[(vr pa1), (vi 1)] [])) t → Steps p.tables e below (s₁.setTop (entryFrame m #[(.ref pa1), (.int 1)] 2)) t := fun t k => castTop (ef_au16_1 m pa1 (1 : Int32)) k
  have hS0 := hS
  obtain ⟨S_wINTEGER, E_wINTEGER, S_wDOUBLE, E_wDOUBLE, S_wBOOLEAN, E_wBOOLEAN, F_ordinal_wINTEGER, F_ordinal_wDOUBLE, F_ordinal_wBOOLEAN, S_wDEFAULTCAPACITY_EMPTY_ELEMENTDATA, E_wDEFAULTCAPACITY_EMPTY_ELEMENTDATA, V_wDEFAULTCAPACITY_EMPTY_ELEMENTDATA⟩ := hS0
  obtain ⟨T1, X1, e1, st1⟩ := getF X0 hx hZ hown (host := "") (Or.inl (ow hw 82 rfl)) Via.refl e0 P3 (g := (mkF m 2 #[(vr pa1), (vi 1)] [(.ref pa1), (.int 1)])) rfl rfl (hb hby d16_2)
  obtain ⟨_, _, ⟨T2, L2, k2, n2⟩, -, X2, ⟨Lc2, hQ2, l2, y2, z2⟩, st2⟩ := Jvm.LawKit.callS X1 hx (y := M16) hown (mvT hZ (ow hw 140 rfl)) (mvT hZ (ow hw 141 rfl)) (mvT hZ (ow hw 142 rfl)) (mvT hZ (ow hw 143 rfl)) (by decide) (backOf (W := 0) (au17_1 l Z a0 hw [] wINTEGER wDOUBLE wBOOLEAN wDEFAULTCAPACITY_EMPTY_ELEMENTDATA kwDEFAULTCAPACITY_EMPTY_ELEMENTDATA hS  h0 n0 O0 ) hZ (ow hw 143 rfl) (ow hw 142 rfl) (by decide) (by decide)) (g := (mkF m 5 #[(vr pa1), (vi 1)] [(.int 3), (.int 1)])) rfl (by rw [hml]; rfl) (argsL := [(.int 1), (.int 3)]) (rest := []) (lenOf pd_5 rfl) rfl (by show 2 * 0 + _ ≤ _; exact Nat.le_of_eq rfl) (hb hby d16_5) (fun _ _ => ⟨rfl, e1, (by decide : 0 + 0 ≤ _), (by decide : 0 + 0 ≤ _)⟩)
  dsimp only [Pt.U, Pt.locs, Pt.cells, Pt.slots] at X2 l2 y2 z2 st2 hQ2
  subst y2 z2
  obtain ⟨rfl, Nq2, K2q⟩ := hQ2
  have N2 : Fr n0 L2 := (congrArg (Fr n0) l2).mpr (Fr.app N0 Nq2)
  obtain ⟨cq3, kq3, q3a, q3b, q3c⟩ := isOf hZ K2q P0
  obtain ⟨_, _, ⟨T3, L3, k3, n3⟩, -, X3, ⟨Lc3, hQ3, l3, y3, z3⟩, st3⟩ := X2.virtualBack hx (y := M17) (z := M17) hown (mvT hZ (ow hw 148 rfl)) (mvT hZ (ow hw 149 rfl)) (notFace_of_selects (args := #[]) (mvT hZ (ow hw 151 rfl))) (mvT hZ (ow hw 151 rfl)) (mvT hZ (ow hw 150 rfl)) (by decide) (backOf (W := 0) (au19_1 l Z a0 hw [] wINTEGER wDOUBLE wBOOLEAN wDEFAULTCAPACITY_EMPTY_ELEMENTDATA kwDEFAULTCAPACITY_EMPTY_ELEMENTDATA hS pa1 pa2 pk3 pa4 pa5 pa6 h0 n0 O0 P2 P4) hZ (ow hw 152 rfl) (ow hw 12 rfl) (by decide) (by decide)) q3a q3c (g := (mkF m 11 #[(vr pa1), (vi 1)] [(.int 1), (.ref pa1)])) rfl (by rw [hml]; rfl) (Steps.refl _) (argsL := [(.int 1)]) (rest := []) (lenOf pd_12 rfl) rfl (by show 2 * 0 + _ ≤ _; exact Nat.le_of_eq rfl) (hb hby d16_11) (fun _ _ => ⟨rfl, K2q, (by decide : 0 + 0 ≤ _), (by decide : 0 + 0 ≤ _)⟩)
  dsimp only [Pt.U, Pt.locs, Pt.cells, Pt.slots] at X3 l3 y3 z3 st3 hQ3
  subst y3 z3
  obtain ⟨rfl, Nq3, K3q⟩ := hQ3
  have N3 : Fr n0 L3 := (congrArg (Fr n0) l3).mpr (Fr.app N2 Nq3)
  obtain ⟨fs, hr, hrun, hended, hW, hsame⟩ := X3.leave (v := some (.ref pa5)) (fun h => by rw [hret0] at h; cases h)
  refine ⟨_, _, pre0 _ ?_, hrun, hended, _, _, rfl, ?_, ⟨_, rfl⟩, hW, hsame.mono (by decide) (by decide)⟩
  · skip
    show Steps p.tables e below (s₁.setTop (mkF m 0 #[(vr pa1), (vi 1)] [])) _
    refine XS.iloadN X0.here hx rfl (hb hby d16_0) rfl ?_
    refine XS.aloadN X0.here hx rfl (hb hby d16_1) rfl rfl ?_
    refine st1 _ ?_
    refine st2 _ ?_
    refine XS.pop X2.here hx rfl (hb hby d16_8) rfl rfl ?_
    refine XS.aloadN X2.here hx rfl (hb hby d16_9) rfl rfl ?_
    show Steps p.tables e below (T2.setTop (mkF m 10 #[(vr pa1), (vi 1)] [(.ref pa1)])) _
    refine XS.iloadN X2.here hx rfl (hb hby d16_10) rfl ?_
    refine st3.trans ?_
    jvm_step X3.here [X3.here.top, hx, (hb hby d16_14), X3.method', hret0, Value.isRef, FieldType.isReference]
    first | (intro acts; rw [hr _ acts rfl rfl rfl]) | rw [hr _ _ rfl rfl rfl]
    exact Steps.refl _
  · show Q_au16_1 Z wINTEGER wDOUBLE wBOOLEAN wDEFAULTCAPACITY_EMPTY_ELEMENTDATA kwDEFAULTCAPACITY_EMPTY_ELEMENTDATA pa1 pa2 pk3 pa4 pa5 pa6 h0 n0 _ T3.heap _
    rw [K3q]
    exact ⟨rfl, N3, rfl⟩
theorem ef_au16_2 (m : MethodId) (x0 : Addr) (x1 : Int32)  : entryFrame m #[(.ref x0), (.int x1)] 2 = mkF m 0 #[(vr x0), (vi x1)] [] := by first | (simp [entryFrame, mkF, argsToLocals, Value.category]; done) | rfl
theorem ef_au17_2 (m : MethodId) (x0 : Int32) (x1 : Int32)  : entryFrame m #[(.int x0), (.int x1)] 2 = mkF m 0 #[(vi x0), (vi x1)] [] := by first | (simp [entryFrame, mkF, argsToLocals, Value.category]; done) | rfl
theorem ef_au18_2 (m : MethodId) (x0 : Int32) (x1 : Int32)  : entryFrame m #[(.int x0), (.int x1), .null] 3 = mkF m 0 #[(vi x0), (vi x1), .val .null] [] := by first | (simp [entryFrame, mkF, argsToLocals, Value.category]; done) | rfl
def Q_au18_2 (Z : State) (wINTEGER : Addr) (wDOUBLE : Addr) (wBOOLEAN : Addr) (wDEFAULTCAPACITY_EMPTY_ELEMENTDATA : Addr) (kwDEFAULTCAPACITY_EMPTY_ELEMENTDATA : ClassId)  (h0 : Heap) (n0 : Nat) (v : Option Value) (h : Heap) (L : List Loc) : Prop := v = some (.int 2) ∧ Fr n0 L ∧ h = h0
theorem au18_2 (l : Launch) (Z : State) (a0 : Array Value) (hw : ∀ d ∈ tables_1, d.before a0 Z = true) (ws : List Jvm.Cond) (wINTEGER : Addr) (wDOUBLE : Addr) (wBOOLEAN : Addr) (wDEFAULTCAPACITY_EMPTY_ELEMENTDATA : Addr) (kwDEFAULTCAPACITY_EMPTY_ELEMENTDATA : ClassId) (hS : SS Z wINTEGER wDOUBLE wBOOLEAN wDEFAULTCAPACITY_EMPTY_ELEMENTDATA kwDEFAULTCAPACITY_EMPTY_ELEMENTDATA)  (h0 : Heap) (n0 : Nat) (O0 : Old Z n0 h0)  :
    MetB l M15 jdk_41_method_11_code 3 (some .int) ws (rmk 0 0 0 0) Z h0 #[(.int 2), (.int 3), .null] (Q_au18_2 Z wINTEGER wDOUBLE wBOOLEAN wDEFAULTCAPACITY_EMPTY_ELEMENTDATA kwDEFAULTCAPACITY_EMPTY_ELEMENTDATA  h0 n0) := by
  refine own_body (plainFor_of_name pn_jdk_internal_util_Preconditions) ?_
  intro p e s m below meth c s₁ hx hby hml hown hnm hret0 hlk0 hZ X0 e0
  have N0 := Fr.nil n0
  have pre0 : ∀ t, Steps p.tables e below (s₁.setTop (mkF m 0 #[(vi 2), (vi 3), .val .null] [])) t → Steps p.tables e below (s₁.setTop (entryFrame m #[(.int 2), (.int 3), .null] 3)) t := fun t k => castTop (ef_au18_2 m (2 : Int32) (3 : Int32)) k
  have hS0 := hS
  obtain ⟨S_wINTEGER, E_wINTEGER, S_wDOUBLE, E_wDOUBLE, S_wBOOLEAN, E_wBOOLEAN, F_ordinal_wINTEGER, F_ordinal_wDOUBLE, F_ordinal_wBOOLEAN, S_wDEFAULTCAPACITY_EMPTY_ELEMENTDATA, E_wDEFAULTCAPACITY_EMPTY_ELEMENTDATA, V_wDEFAULTCAPACITY_EMPTY_ELEMENTDATA⟩ := hS0
  obtain ⟨fs, hr, hrun, hended, hW, hsame⟩ := X0.leave (v := some (.int 2)) (fun h => by rw [hret0] at h; cases h)
  refine ⟨_, _, pre0 _ ?_, hrun, hended, _, _, rfl, ?_, ⟨_, rfl⟩, hW, hsame.mono (by decide) (by decide)⟩
  · skip
    show Steps p.tables e below (s₁.setTop (mkF m 0 #[(vi 2), (vi 3), .val .null] [])) _
    refine XS.iloadN X0.here hx rfl (hb hby d18_0) rfl ?_
    refine XS.ifNo X0.here hx rfl (hb hby d18_1) rfl ((if0 _ _).trans (flt (by decide : ¬ ((2 : Int32) < (0 : Int32)))).1) ?_
    refine XS.iloadN X0.here hx rfl (hb hby d18_4) rfl ?_
    refine XS.iloadN X0.here hx rfl (hb hby d18_5) rfl ?_
    refine XS.icmpYes X0.here hx rfl (pc0 := 6) (pc' := 16) rfl (hb hby d18_6) rfl (tlt (by decide : (2 : Int32) < (3 : Int32))).1 (by decide) (by decide) ?_
    refine XS.iloadN X0.here hx rfl (hb hby d18_16) rfl ?_
    show Steps p.tables e below (s₁.setTop (mkF m 17 #[(vi 2), (vi 3), .val .null] [(.int 2)])) _
    exact retI X0 hx hret0 (hb hby d18_17) hr
  · show Q_au18_2 Z wINTEGER wDOUBLE wBOOLEAN wDEFAULTCAPACITY_EMPTY_ELEMENTDATA kwDEFAULTCAPACITY_EMPTY_ELEMENTDATA  h0 n0 _ s₁.heap _
    rw [e0]
    exact ⟨rfl, N0, rfl⟩
def Q_au17_2 (Z : State) (wINTEGER : Addr) (wDOUBLE : Addr) (wBOOLEAN : Addr) (wDEFAULTCAPACITY_EMPTY_ELEMENTDATA : Addr) (kwDEFAULTCAPACITY_EMPTY_ELEMENTDATA : ClassId)  (h0 : Heap) (n0 : Nat) (v : Option Value) (h : Heap) (L : List Loc) : Prop := v = some (.int 2) ∧ Fr n0 L ∧ h = h0
theorem au17_2 (l : Launch) (Z : State) (a0 : Array Value) (hw : ∀ d ∈ tables_1, d.before a0 Z = true) (ws : List Jvm.Cond) (wINTEGER : Addr) (wDOUBLE : Addr) (wBOOLEAN : Addr) (wDEFAULTCAPACITY_EMPTY_ELEMENTDATA : Addr) (kwDEFAULTCAPACITY_EMPTY_ELEMENTDATA : ClassId) (hS : SS Z wINTEGER wDOUBLE wBOOLEAN wDEFAULTCAPACITY_EMPTY_ELEMENTDATA kwDEFAULTCAPACITY_EMPTY_ELEMENTDATA)  (h0 : Heap) (n0 : Nat) (O0 : Old Z n0 h0)  :
    MetB l M16 jdk_31_method_17_code 2 (some .int) ws (rmk 1 0 0 14) Z h0 #[(.int 2), (.int 3)] (Q_au17_2 Z wINTEGER wDOUBLE wBOOLEAN wDEFAULTCAPACITY_EMPTY_ELEMENTDATA kwDEFAULTCAPACITY_EMPTY_ELEMENTDATA  h0 n0) := by
  refine own_body (plainFor_of_name pn_java_util_Objects) ?_
  intro p e s m below meth c s₁ hx hby hml hown hnm hret0 hlk0 hZ X0 e0
  have N0 := Fr.nil n0
  have pre0 : ∀ t, Steps p.tables e below (s₁.setTop (mkF m 0 #[(vi 2), (vi 3)] [])) t → Steps p.tables e below (s₁.setTop (entryFrame m #[(.int 2), (.int 3)] 2)) t := fun t k => castTop (ef_au17_2 m (2 : Int32) (3 : Int32)) k
  have hS0 := hS
  obtain ⟨S_wINTEGER, E_wINTEGER, S_wDOUBLE, E_wDOUBLE, S_wBOOLEAN, E_wBOOLEAN, F_ordinal_wINTEGER, F_ordinal_wDOUBLE, F_ordinal_wBOOLEAN, S_wDEFAULTCAPACITY_EMPTY_ELEMENTDATA, E_wDEFAULTCAPACITY_EMPTY_ELEMENTDATA, V_wDEFAULTCAPACITY_EMPTY_ELEMENTDATA⟩ := hS0
  obtain ⟨_, _, ⟨T1, L1, k1, n1⟩, -, X1, ⟨Lc1, hQ1, l1, y1, z1⟩, st1⟩ := Jvm.LawKit.callS X0 hx (y := M15) hown (mvT hZ (ow hw 144 rfl)) (mvT hZ (ow hw 145 rfl)) (mvT hZ (ow hw 146 rfl)) (mvT hZ (ow hw 147 rfl)) (by decide) (backOf (W := 0) (au18_2 l Z a0 hw [] wINTEGER wDOUBLE wBOOLEAN wDEFAULTCAPACITY_EMPTY_ELEMENTDATA kwDEFAULTCAPACITY_EMPTY_ELEMENTDATA hS  h0 n0 O0 ) hZ (ow hw 147 rfl) (ow hw 146 rfl) (by decide) (by decide)) (g := (mkF m 3 #[(vi 2), (vi 3)] [.null, (.int 3), (.int 2)])) rfl (by rw [hml]; rfl) (argsL := [(.int 2), (.int 3), .null]) (rest := []) (lenOf pd_11 rfl) rfl (by show 2 * 0 + _ ≤ _; exact Nat.le_of_eq rfl) (hb hby d17_3) (fun _ _ => ⟨rfl, e0, (by decide : 0 + 0 ≤ _), (by decide : 0 + 0 ≤ _)⟩)
  dsimp only [Pt.U, Pt.locs, Pt.cells, Pt.slots] at X1 l1 y1 z1 st1 hQ1
  subst y1 z1
  obtain ⟨rfl, Nq1, K1q⟩ := hQ1
  have N1 : Fr n0 L1 := (congrArg (Fr n0) l1).mpr (Fr.app N0 Nq1)
  obtain ⟨fs, hr, hrun, hended, hW, hsame⟩ := X1.leave (v := some (.int 2)) (fun h => by rw [hret0] at h; cases h)
  refine ⟨_, _, pre0 _ ?_, hrun, hended, _, _, rfl, ?_, ⟨_, rfl⟩, hW, hsame.mono (by decide) (by decide)⟩
  · skip
    show Steps p.tables e below (s₁.setTop (mkF m 0 #[(vi 2), (vi 3)] [])) _
    refine XS.iloadN X0.here hx rfl (hb hby d17_0) rfl ?_
    refine XS.iloadN X0.here hx rfl (hb hby d17_1) rfl ?_
    refine XS.aconstNull X0.here hx rfl (hb hby d17_2) ?_
    refine st1 _ ?_
    exact retI X1 hx hret0 (hb hby d17_6) hr
  · show Q_au17_2 Z wINTEGER wDOUBLE wBOOLEAN wDEFAULTCAPACITY_EMPTY_ELEMENTDATA kwDEFAULTCAPACITY_EMPTY_ELEMENTDATA  h0 n0 _ T1.heap _
    rw [K1q]
    exact ⟨rfl, N1, rfl⟩
theorem ef_au19_2 (m : MethodId) (x0 : Addr) (x1 : Int32)  : entryFrame m #[(.ref x0), (.int x1)] 2 = mkF m 0 #[(vr x0), (vi x1)] [] := by first | (simp [entryFrame, mkF, argsToLocals, Value.category]; done) | rfl
def Q_au19_2 (Z : State) (wINTEGER : Addr) (wDOUBLE : Addr) (wBOOLEAN : Addr) (wDEFAULTCAPACITY_EMPTY_ELEMENTDATA : Addr) (kwDEFAULTCAPACITY_EMPTY_ELEMENTDATA : ClassId) (pa1 : Addr) (pa2 : Addr) (pk3 : ClassId) (pa4 : Addr) (pa5 : Addr) (pa6 : Addr) (h0 : Heap) (n0 : Nat) (v : Option Value) (h : Heap) (L : List Loc) : Prop := v = some (.ref pa6) ∧ Fr n0 L ∧ h = h0
theorem au19_2 (l : Launch) (Z : State) (a0 : Array Value) (hw : ∀ d ∈ tables_1, d.before a0 Z = true) (ws : List Jvm.Cond) (wINTEGER : Addr) (wDOUBLE : Addr) (wBOOLEAN : Addr) (wDEFAULTCAPACITY_EMPTY_ELEMENTDATA : Addr) (kwDEFAULTCAPACITY_EMPTY_ELEMENTDATA : ClassId) (hS : SS Z wINTEGER wDOUBLE wBOOLEAN wDEFAULTCAPACITY_EMPTY_ELEMENTDATA kwDEFAULTCAPACITY_EMPTY_ELEMENTDATA) (pa1 : Addr) (pa2 : Addr) (pk3 : ClassId) (pa4 : Addr) (pa5 : Addr) (pa6 : Addr) (h0 : Heap) (n0 : Nat) (O0 : Old Z n0 h0) (P2 : Fld Z h0 pa1 s2n "elementData" s3n (.ref pa2)) (P4 : Arv Z h0 pa2 pk3 (.object s4n) (10 : Int32) ([(.ref pa4), (.ref pa5), (.ref pa6), .null, .null, .null, .null, .null, .null, .null]) .null) :
    MetB l M17 jdk_38_method_18_code 2 (some (.object s4n)) ws (rmk 0 0 0 0) Z h0 #[(.ref pa1), (.int 2)] (Q_au19_2 Z wINTEGER wDOUBLE wBOOLEAN wDEFAULTCAPACITY_EMPTY_ELEMENTDATA kwDEFAULTCAPACITY_EMPTY_ELEMENTDATA pa1 pa2 pk3 pa4 pa5 pa6 h0 n0) := by
  refine own_body (plainFor_of_name pn_java_util_ArrayList) ?_
  intro p e s m below meth c s₁ hx hby hml hown hnm hret0 hlk0 hZ X0 e0
  have N0 := Fr.nil n0
  have pre0 : ∀ t, Steps p.tables e below (s₁.setTop (mkF m 0 #[(vr pa1), (vi 2)] [])) t → Steps p.tables e below (s₁.setTop (entryFrame m #[(.ref pa1), (.int 2)] 2)) t := fun t k => castTop (ef_au19_2 m pa1 (2 : Int32)) k
  have hS0 := hS
  obtain ⟨S_wINTEGER, E_wINTEGER, S_wDOUBLE, E_wDOUBLE, S_wBOOLEAN, E_wBOOLEAN, F_ordinal_wINTEGER, F_ordinal_wDOUBLE, F_ordinal_wBOOLEAN, S_wDEFAULTCAPACITY_EMPTY_ELEMENTDATA, E_wDEFAULTCAPACITY_EMPTY_ELEMENTDATA, V_wDEFAULTCAPACITY_EMPTY_ELEMENTDATA⟩ := hS0
  obtain ⟨T1, X1, e1, st1⟩ := getF X0 hx hZ hown (host := "") (Or.inl (ow hw 34 rfl)) Via.refl e0 P2 (g := (mkF m 1 #[(vr pa1), (vi 2)] [(.ref pa1)])) rfl rfl (hb hby d19_1)
  obtain ⟨cl2, Ar2, qc2, Sz2, Nn2, Ha2, Gg2⟩ := (id P4)
  have hin2 : ¬ ((2 : Int32) < 0 ∨ cl2.slots.size ≤ ((2 : Int32)).toNatClampNeg) := inb_of Sz2 ⟨by decide, by decide⟩
  have hat2 : cl2.slots[((2 : Int32)).toNatClampNeg]? = some (.ref pa6) := Ha2.at hin2 rfl
  obtain ⟨fs, hr, hrun, hended, hW, hsame⟩ := X1.leave (v := some (.ref pa6)) (fun h => by rw [hret0] at h; cases h)
  refine ⟨_, _, pre0 _ ?_, hrun, hended, _, _, rfl, ?_, ⟨_, rfl⟩, hW, hsame.mono (by decide) (by decide)⟩
  · skip
    show Steps p.tables e below (s₁.setTop (mkF m 0 #[(vr pa1), (vi 2)] [])) _
    refine XS.aloadN X0.here hx rfl (hb hby d19_0) rfl rfl ?_
    refine st1 _ ?_
    refine XS.iloadN X1.here hx rfl (hb hby d19_4) rfl ?_
    refine X1.aaload hx (j := (2 : Int32)) (v := (.ref pa6)) (by rw [e1]; exact Ar2.1) (State.isArrayOf_alike hZ.alike Ar2.2.1) rfl Ar2.2.2 hin2 hat2 (g := (mkF m 5 #[(vr pa1), (vi 2)] [(.int 2), (.ref pa2)])) rfl rfl (hb hby d19_5) _ ?_
    jvm_step X1.here [X1.here.top, hx, (hb hby d19_6), X1.method', hret0, Value.isRef, FieldType.isReference]
    first | (intro acts; rw [hr _ acts rfl rfl rfl]) | rw [hr _ _ rfl rfl rfl]
    exact Steps.refl _
  · show Q_au19_2 Z wINTEGER wDOUBLE wBOOLEAN wDEFAULTCAPACITY_EMPTY_ELEMENTDATA kwDEFAULTCAPACITY_EMPTY_ELEMENTDATA pa1 pa2 pk3 pa4 pa5 pa6 h0 n0 _ T1.heap _
    rw [e1]
    exact ⟨rfl, N0, rfl⟩
def Q_au16_2 (Z : State) (wINTEGER : Addr) (wDOUBLE : Addr) (wBOOLEAN : Addr) (wDEFAULTCAPACITY_EMPTY_ELEMENTDATA : Addr) (kwDEFAULTCAPACITY_EMPTY_ELEMENTDATA : ClassId) (pa1 : Addr) (pa2 : Addr) (pk3 : ClassId) (pa4 : Addr) (pa5 : Addr) (pa6 : Addr) (h0 : Heap) (n0 : Nat) (v : Option Value) (h : Heap) (L : List Loc) : Prop := v = some (.ref pa6) ∧ Fr n0 L ∧ h = h0
theorem au16_2 (l : Launch) (Z : State) (a0 : Array Value) (hw : ∀ d ∈ tables_1, d.before a0 Z = true) (ws : List Jvm.Cond) (wINTEGER : Addr) (wDOUBLE : Addr) (wBOOLEAN : Addr) (wDEFAULTCAPACITY_EMPTY_ELEMENTDATA : Addr) (kwDEFAULTCAPACITY_EMPTY_ELEMENTDATA : ClassId) (hS : SS Z wINTEGER wDOUBLE wBOOLEAN wDEFAULTCAPACITY_EMPTY_ELEMENTDATA kwDEFAULTCAPACITY_EMPTY_ELEMENTDATA) (pa1 : Addr) (pa2 : Addr) (pk3 : ClassId) (pa4 : Addr) (pa5 : Addr) (pa6 : Addr) (h0 : Heap) (n0 : Nat) (O0 : Old Z n0 h0) (P0 : Exa Z h0 pa1 s2n) (P2 : Fld Z h0 pa1 s2n "elementData" s3n (.ref pa2)) (P3 : Fld Z h0 pa1 s2n "size" "I" (.int 3)) (P4 : Arv Z h0 pa2 pk3 (.object s4n) (10 : Int32) ([(.ref pa4), (.ref pa5), (.ref pa6), .null, .null, .null, .null, .null, .null, .null]) .null) :
    MetB l M18 jdk_38_method_20_code 2 (some (.object s4n)) ws (rmk 2 0 0 27) Z h0 #[(.ref pa1), (.int 2)] (Q_au16_2 Z wINTEGER wDOUBLE wBOOLEAN wDEFAULTCAPACITY_EMPTY_ELEMENTDATA kwDEFAULTCAPACITY_EMPTY_ELEMENTDATA pa1 pa2 pk3 pa4 pa5 pa6 h0 n0) := by
  refine own_body (plainFor_of_name pn_java_util_ArrayList) ?_
  intro p e s m below meth c s₁ hx hby hml hown hnm hret0 hlk0 hZ X0 e0
  have N0 := Fr.nil n0
  have pre0 : ∀ t, Steps p.tables e below (s₁.setTop (mkF m 0 #[(vr pa1), (vi 2)] [])) t → Steps p.tables e below (s₁.setTop (entryFrame m #[(.ref pa1), (.int 2)] 2)) t := fun t k => castTop (ef_au16_2 m pa1 (2 : Int32)) k
  have hS0 := hS
  obtain ⟨S_wINTEGER, E_wINTEGER, S_wDOUBLE, E_wDOUBLE, S_wBOOLEAN, E_wBOOLEAN, F_ordinal_wINTEGER, F_ordinal_wDOUBLE, F_ordinal_wBOOLEAN, S_wDEFAULTCAPACITY_EMPTY_ELEMENTDATA, E_wDEFAULTCAPACITY_EMPTY_ELEMENTDATA, V_wDEFAULTCAPACITY_EMPTY_ELEMENTDATA⟩ := hS0
  obtain ⟨T1, X1, e1, st1⟩ := getF X0 hx hZ hown (host := "") (Or.inl (ow hw 82 rfl)) Via.refl e0 P3 (g := (mkF m 2 #[(vr pa1), (vi 2)] [(.ref pa1), (.int 2)])) rfl rfl (hb hby d16_2)
  obtain ⟨_, _, ⟨T2, L2, k2, n2⟩, -, X2, ⟨Lc2, hQ2, l2, y2, z2⟩, st2⟩ := Jvm.LawKit.callS X1 hx (y := M16) hown (mvT hZ (ow hw 140 rfl)) (mvT hZ (ow hw 141 rfl)) (mvT hZ (ow hw 142 rfl)) (mvT hZ (ow hw 143 rfl)) (by decide) (backOf (W := 0) (au17_2 l Z a0 hw [] wINTEGER wDOUBLE wBOOLEAN wDEFAULTCAPACITY_EMPTY_ELEMENTDATA kwDEFAULTCAPACITY_EMPTY_ELEMENTDATA hS  h0 n0 O0 ) hZ (ow hw 143 rfl) (ow hw 142 rfl) (by decide) (by decide)) (g := (mkF m 5 #[(vr pa1), (vi 2)] [(.int 3), (.int 2)])) rfl (by rw [hml]; rfl) (argsL := [(.int 2), (.int 3)]) (rest := []) (lenOf pd_5 rfl) rfl (by show 2 * 0 + _ ≤ _; exact Nat.le_of_eq rfl) (hb hby d16_5) (fun _ _ => ⟨rfl, e1, (by decide : 0 + 0 ≤ _), (by decide : 0 + 0 ≤ _)⟩)
  dsimp only [Pt.U, Pt.locs, Pt.cells, Pt.slots] at X2 l2 y2 z2 st2 hQ2
  subst y2 z2
  obtain ⟨rfl, Nq2, K2q⟩ := hQ2
  have N2 : Fr n0 L2 := (congrArg (Fr n0) l2).mpr (Fr.app N0 Nq2)
  obtain ⟨cq3, kq3, q3a, q3b, q3c⟩ := isOf hZ K2q P0
  obtain ⟨_, _, ⟨T3, L3, k3, n3⟩, -, X3, ⟨Lc3, hQ3, l3, y3, z3⟩, st3⟩ := X2.virtualBack hx (y := M17) (z := M17) hown (mvT hZ (ow hw 148 rfl)) (mvT hZ (ow hw 149 rfl)) (notFace_of_selects (args := #[]) (mvT hZ (ow hw 151 rfl))) (mvT hZ (ow hw 151 rfl)) (mvT hZ (ow hw 150 rfl)) (by decide) (backOf (W := 0) (au19_2 l Z a0 hw [] wINTEGER wDOUBLE wBOOLEAN wDEFAULTCAPACITY_EMPTY_ELEMENTDATA kwDEFAULTCAPACITY_EMPTY_ELEMENTDATA hS pa1 pa2 pk3 pa4 pa5 pa6 h0 n0 O0 P2 P4) hZ (ow hw 152 rfl) (ow hw 12 rfl) (by decide) (by decide)) q3a q3c (g := (mkF m 11 #[(vr pa1), (vi 2)] [(.int 2), (.ref pa1)])) rfl (by rw [hml]; rfl) (Steps.refl _) (argsL := [(.int 2)]) (rest := []) (lenOf pd_12 rfl) rfl (by show 2 * 0 + _ ≤ _; exact Nat.le_of_eq rfl) (hb hby d16_11) (fun _ _ => ⟨rfl, K2q, (by decide : 0 + 0 ≤ _), (by decide : 0 + 0 ≤ _)⟩)
  dsimp only [Pt.U, Pt.locs, Pt.cells, Pt.slots] at X3 l3 y3 z3 st3 hQ3
  subst y3 z3
  obtain ⟨rfl, Nq3, K3q⟩ := hQ3
  have N3 : Fr n0 L3 := (congrArg (Fr n0) l3).mpr (Fr.app N2 Nq3)
  obtain ⟨fs, hr, hrun, hended, hW, hsame⟩ := X3.leave (v := some (.ref pa6)) (fun h => by rw [hret0] at h; cases h)
  refine ⟨_, _, pre0 _ ?_, hrun, hended, _, _, rfl, ?_, ⟨_, rfl⟩, hW, hsame.mono (by decide) (by decide)⟩
  · skip
    show Steps p.tables e below (s₁.setTop (mkF m 0 #[(vr pa1), (vi 2)] [])) _
    refine XS.iloadN X0.here hx rfl (hb hby d16_0) rfl ?_
    refine XS.aloadN X0.here hx rfl (hb hby d16_1) rfl rfl ?_
    refine st1 _ ?_
    refine st2 _ ?_
    refine XS.pop X2.here hx rfl (hb hby d16_8) rfl rfl ?_
    refine XS.aloadN X2.here hx rfl (hb hby d16_9) rfl rfl ?_
    show Steps p.tables e below (T2.setTop (mkF m 10 #[(vr pa1), (vi 2)] [(.ref pa1)])) _
    refine XS.iloadN X2.here hx rfl (hb hby d16_10) rfl ?_
    refine st3.trans ?_
    jvm_step X3.here [X3.here.top, hx, (hb hby d16_14), X3.method', hret0, Value.isRef, FieldType.isReference]
    first | (intro acts; rw [hr _ acts rfl rfl rfl]) | rw [hr _ _ rfl rfl rfl]
    exact Steps.refl _
  · show Q_au16_2 Z wINTEGER wDOUBLE wBOOLEAN wDEFAULTCAPACITY_EMPTY_ELEMENTDATA kwDEFAULTCAPACITY_EMPTY_ELEMENTDATA pa1 pa2 pk3 pa4 pa5 pa6 h0 n0 _ T3.heap _
    rw [K3q]
    exact ⟨rfl, N3, rfl⟩
theorem d14_101 : decode prog_105_method_1_code 101 = .ok (.iinc 3 1, 3) := by decide +kernel
theorem d14_104 : decode prog_105_method_1_code 104 = .ok (.iconst 0, 1) := by decide +kernel
theorem d14_105 : decode prog_105_method_1_code 105 = .ok (.istore 4, 2) := by decide +kernel
theorem d14_176 : decode prog_105_method_1_code 176 = .ok (.aload_n 0, 1) := by decide +kernel
theorem d14_177 : decode prog_105_method_1_code 177 = .ok (.iload_n 3, 1) := by decide +kernel
theorem d14_178 : decode prog_105_method_1_code 178 = .ok (.putfield 48, 3) := by decide +kernel
theorem d14_181 : decode prog_105_method_1_code 181 = .ok (.return_, 1) := by decide +kernel
def Q_au14_0 (Z : State) (wINTEGER : Addr) (wDOUBLE : Addr) (wBOOLEAN : Addr) (wDEFAULTCAPACITY_EMPTY_ELEMENTDATA : Addr) (kwDEFAULTCAPACITY_EMPTY_ELEMENTDATA : ClassId) (pa1 : Addr) (pa2 : Addr) (pi3 : Int32) (pi4 : Int32) (pi5 : Int32) (pa6 : Addr) (pk7 : ClassId) (pa8 : Addr) (pa9 : Addr) (pa10 : Addr) (pi11 : Int32) (pi12 : Int32) (pi14 : Int32) (pi15 : Int32) (pi17 : Int32) (pi18 : Int32) (h0 : Heap) (n0 : Nat) (v : Option Value) (h : Heap) (L : List Loc) : Prop := ∃ (e1 : Addr) (e2 : Addr) (e3 : Addr) (e4 : Addr) (e5 : ClassId) (e6 : ClassId) (e7 : ClassId) (e8 : ClassId), v = none ∧ Fr n0 L ∧ Keep h0 h [pa1] ∧ Exa Z h pa1 s9n ∧ Fld Z h pa1 s9n "low" "[I" (.ref e1) ∧ Fld Z h pa1 s9n "mask" "[J" (.ref e2) ∧ Fld Z h pa1 s9n "shift" "[I" (.ref e3) ∧ Fld Z h pa1 s9n "word" "[I" (.ref e4) ∧ Fld Z h pa1 s9n s10n "I" (.int 2) ∧ h0.size ≤ e1 ∧ Exa Z h e1 "[I" ∧ Arv Z h e1 e5 .int (3 : Int32) ([(.int pi12), (.int pi15), (.int pi18)]) (.int 0) ∧ h0.size ≤ e2 ∧ Exa Z h e2 "[J" ∧ Arv Z h e2 e6 .long (3 : Int32) ([(.long (maskV pi3)), (.long (maskV pi4)), (.long (maskV pi5))]) (.long 0) ∧ h0.size ≤ e3 ∧ Exa Z h e3 "[I" ∧ Arv Z h e3 e7 .int (3 : Int32) ([(.int 0), (.int ((0 : Int32) + pi3)), (.int 0)]) (.int 0) ∧ h0.size ≤ e4 ∧ Exa Z h e4 "[I" ∧ Arv Z h e4 e8 .int (3 : Int32) ([(.int 0), (.int 0), (.int 1)]) (.int 0) ∧ e1 ≠ e2 ∧ e1 ≠ e3 ∧ e1 ≠ e4 ∧ e2 ≠ e3 ∧ e2 ≠ e4 ∧ e3 ≠ e4
theorem au14_0 (l : Launch) (Z : State) (a0 : Array Value) (hw : ∀ d ∈ tables_1, d.before a0 Z = true) (ws : List Jvm.Cond) (wINTEGER : Addr) (wDOUBLE : Addr) (wBOOLEAN : Addr) (wDEFAULTCAPACITY_EMPTY_ELEMENTDATA : Addr) (kwDEFAULTCAPACITY_EMPTY_ELEMENTDATA : ClassId) (hS : SS Z wINTEGER wDOUBLE wBOOLEAN wDEFAULTCAPACITY_EMPTY_ELEMENTDATA kwDEFAULTCAPACITY_EMPTY_ELEMENTDATA) (pa1 : Addr) (pa2 : Addr) (pi3 : Int32) (pi4 : Int32) (pi5 : Int32) (pa6 : Addr) (pk7 : ClassId) (pa8 : Addr) (pa9 : Addr) (pa10 : Addr) (pi11 : Int32) (pi12 : Int32) (pi14 : Int32) (pi15 : Int32) (pi17 : Int32) (pi18 : Int32) (h0 : Heap) (n0 : Nat) (O0 : Old Z n0 h0) (P0 : Exa Z h0 pa1 s9n) (P1 : Fld Z h0 pa1 s9n "low" "[I" .null) (P2 : Fld Z h0 pa1 s9n "mask" "[J" .null) (P3 : Fld Z h0 pa1 s9n "shift" "[I" .null) (P4 : Fld Z h0 pa1 s9n "word" "[I" .null) (P5 : Fld Z h0 pa1 s9n s10n "I" (.int 0)) (P6 : Exa Z h0 pa2 s2n) (P8 : Fld Z h0 pa2 s2n "elementData" s3n (.ref pa6)) (P9 : Fld Z h0 pa2 s2n "size" "I" (.int 3)) (P10 : Arv Z h0 pa6 pk7 (.object s4n) (10 : Int32) ([(.ref pa8), (.ref pa9), (.ref pa10), .null, .null, .null, .null, .null, .null, .null]) .null) (P13 : Exa Z h0 pa8 s6n) (P14 : Fld Z h0 pa8 s6n "high" "I" (.int pi11)) (P15 : Fld Z h0 pa8 s6n "low" "I" (.int pi12)) (P18 : Exa Z h0 pa9 s6n) (P19 : Fld Z h0 pa9 s6n "high" "I" (.int pi14)) (P20 : Fld Z h0 pa9 s6n "low" "I" (.int pi15)) (P23 : Exa Z h0 pa10 s6n) (P24 : Fld Z h0 pa10 s6n "high" "I" (.int pi17)) (P25 : Fld Z h0 pa10 s6n "low" "I" (.int pi18)) (P31 : ¬ (64 : Int32) < ((0 : Int32) + pi3)) (P32 : ¬ (64 : Int32) < (((0 : Int32) + pi3) + pi4)) (P34 : (64 : Int32) < ((((0 : Int32) + pi3) + pi4) + pi5)) (P36 : bitsV pi12 pi11 = pi3) (P38 : bitsV pi15 pi14 = pi4) (P40 : bitsV pi18 pi17 = pi5) (P41 : n0 ≤ pa1) (P47 : pa1 ≠ pa2) (P48 : pa1 ≠ pa6) (P49 : pa1 ≠ pa8) (P50 : pa1 ≠ pa9) (P51 : pa1 ≠ pa10) :
    MetB l M21 prog_105_method_1_code 10 none ws (rmk 3 4 12 40) Z h0 #[(.ref pa1), (.ref pa2)] (Q_au14_0 Z wINTEGER wDOUBLE wBOOLEAN wDEFAULTCAPACITY_EMPTY_ELEMENTDATA kwDEFAULTCAPACITY_EMPTY_ELEMENTDATA pa1 pa2 pi3 pi4 pi5 pa6 pk7 pa8 pa9 pa10 pi11 pi12 pi14 pi15 pi17 pi18 h0 n0) := by
  refine own_body (plainFor_of_name pn_com_example_lanc_lanc_model_VariableLayout) ?_
  intro p e s m below meth c s₁ hx hby hml hown hnm hret0 hlk0 hZ X0 e0
  have N0 := Fr.nil n0
  have pre0 : ∀ t, Steps p.tables e below (s₁.setTop (mkF m 0 #[(vr pa1), (vr pa2), .unset, .unset, .unset, .unset, .unset, .unset, .unset, .unset] [])) t → Steps p.tables e below (s₁.setTop (entryFrame m #[(.ref pa1), (.ref pa2)] 10)) t := fun t k => castTop (ef_au14_0 m pa1 pa2) k
  have K0 := Keep.refl h0 [pa1]
  have hS0 := hS
  obtain ⟨S_wINTEGER, E_wINTEGER, S_wDOUBLE, E_wDOUBLE, S_wBOOLEAN, E_wBOOLEAN, F_ordinal_wINTEGER, F_ordinal_wDOUBLE, F_ordinal_wBOOLEAN, S_wDEFAULTCAPACITY_EMPTY_ELEMENTDATA, E_wDEFAULTCAPACITY_EMPTY_ELEMENTDATA, V_wDEFAULTCAPACITY_EMPTY_ELEMENTDATA⟩ := hS0
  obtain ⟨T1, X1, e1, st1⟩ := initO X0 hx hZ hown (ow hw 113 rfl) (ow hw 29 rfl) (ow hw 30 rfl) e0 (g := (mkF m 1 #[(vr pa1), (vr pa2), .unset, .unset, .unset, .unset, .unset, .unset, .unset, .unset] [(.ref pa1)])) rfl (by rw [hml]; rfl) rfl (hb hby d14_1) (by decide) (W := 0) (by show 2 * 0 + _ ≤ _; exact Nat.le_of_eq rfl) (by decide)
  obtain ⟨cq2, kq2, q2a, q2b, q2c⟩ := isOf hZ e1 P6
  obtain ⟨_, _, ⟨T2, L2, k2, n2⟩, -, X2, ⟨Lc2, hQ2, l2, y2, z2⟩, st2⟩ := X1.interfaceBack hx (xi := M22) (y := M14) hown (mvT hZ (ow hw 114 rfl)) (mvT hZ (ow hw 115 rfl)) (mvT hZ (ow hw 116 rfl)) (mvT hZ (ow hw 117 rfl)) (mvT hZ (ow hw 118 rfl)) (mvT hZ (ow hw 119 rfl)) (mvT hZ (ow hw 120 rfl)) (mvT hZ (ow hw 78 rfl)) (by decide) (backOf (W := 0) (au15_0 l Z a0 hw [] wINTEGER wDOUBLE wBOOLEAN wDEFAULTCAPACITY_EMPTY_ELEMENTDATA kwDEFAULTCAPACITY_EMPTY_ELEMENTDATA hS pa2 h0 n0 O0 P9) hZ (ow hw 121 rfl) (ow hw 12 rfl) (by decide) (by decide)) q2a q2b q2c (g := (mkF m 5 #[(vr pa1), (vr pa2), .unset, .unset, .unset, .unset, .unset, .unset, .unset, .unset] [(.ref pa2)])) rfl (by rw [hml]; rfl) (Steps.refl _) (argsL := []) (rest := []) (lenOf pd_10 rfl) rfl (by show 2 * 0 + _ ≤ _; exact Nat.le_of_eq rfl) (hb hby d14_5) (fun _ _ => ⟨rfl, e1, (by decide : 0 + 0 ≤ _), (by decide : 0 + 0 ≤ _)⟩)
  dsimp only [Pt.U, Pt.locs, Pt.cells, Pt.slots] at X2 l2 y2 z2 st2 hQ2
  subst y2 z2
  obtain ⟨rfl, Nq2, K2q⟩ := hQ2
  have N2 : Fr n0 L2 := (congrArg (Fr n0) l2).mpr (Fr.app N0 Nq2)
  obtain ⟨T3, h3, k3, X3, e3, E3, A3, Z3, st3⟩ := newPE X2 hx hZ (ow hw 122 rfl) K2q (g := (mkF m 13 #[(vr pa1), (vr pa2), (vi 3), .unset, .unset, .unset, .unset, .unset, .unset, .unset] [(.int 3), (.ref pa1)])) rfl (hb hby d14_13) rfl (by decide) (cap := 3) (by decide) (by decide) (by decide) (by decide) (ad := "[I") rfl
  obtain ⟨b3, g3⟩ : ∃ z, z = h0.size := ⟨_, rfl⟩
  rw [← g3] at A3 Z3 st3
  have ne4 : pa1 ≠ b3 := Nat.ne_of_lt (Nat.lt_of_lt_of_le P0.lt (Nat.le_of_eq g3.symm))
  have ne5 : pa2 ≠ b3 := Nat.ne_of_lt (Nat.lt_of_lt_of_le P6.lt (Nat.le_of_eq g3.symm))
  have ne6 : pa6 ≠ b3 := Nat.ne_of_lt (Nat.lt_of_lt_of_le P10.lt (Nat.le_of_eq g3.symm))
  have ne7 : pa8 ≠ b3 := Nat.ne_of_lt (Nat.lt_of_lt_of_le P13.lt (Nat.le_of_eq g3.symm))
  have ne8 : pa9 ≠ b3 := Nat.ne_of_lt (Nat.lt_of_lt_of_le P18.lt (Nat.le_of_eq g3.symm))
  have ne9 : pa10 ≠ b3 := Nat.ne_of_lt (Nat.lt_of_lt_of_le P23.lt (Nat.le_of_eq g3.symm))
  have g10 : n0 ≤ b3 := Nat.le_trans (own_sz O0) (Nat.le_of_eq g3.symm)
  have sz11 : h0.size ≤ b3 := Nat.le_trans K0.1 (Nat.le_of_eq g3.symm)
  have O12 : Old Z n0 h3 := O0.ext E3
  have K12 : Keep h0 h3 [pa1] := K0.ext E3
  have V3 : Arv Z h3 b3 k3 .int (3 : Int32) ([(.int 0), (.int 0), (.int 0)]) (.int 0) := (Arv.new A3 (by decide)).pad (pad_rep [] (.int 0) 3)
  have f13 : Exa Z h3 pa1 s9n := (P0.ext E3)
  have f14 : Fld Z h3 pa1 s9n "low" "[I" .null := (P1.ext E3)
  obtain ⟨T15, h15, X15, e15, W15, st15⟩ := putF X3 hx hZ hown (host := "") (Or.inl (ow hw 123 rfl)) Via.refl e3 f14 f13 (Or.inr ⟨(ow hw 124 rfl), rfl, hnm⟩) (ow hw 108 rfl) (ty := (.array .int)) (by decide) rfl rfl (g := (mkF m 15 #[(vr pa1), (vr pa2), (vi 3), .unset, .unset, .unset, .unset, .unset, .unset, .unset] [(.ref b3), (.ref pa1)])) rfl rfl (hb hby d14_15)
  have N15 := Fr.snoc X15 N2 P41
  have O16 : Old Z n0 h15 := O12.wr W15 P41
  have K16 : Keep h0 h15 [pa1] := K12.wr W15 (Or.inl (List.mem_of_getElem? (i := 0) rfl))
  have Fw15 : Fld Z h15 pa1 s9n "low" "[I" (.ref b3) := f14.same W15
  obtain ⟨T17, h17, k17, X17, e17, E17, A17, Z17, st17⟩ := newPE X15 hx hZ (ow hw 122 rfl) e15 (g := (mkF m 20 #[(vr pa1), (vr pa2), (vi 3), .unset, .unset, .unset, .unset, .unset, .unset, .unset] [(.int 3), (.ref pa1)])) rfl (hb hby d14_20) rfl (by decide) (cap := 3) (by decide) (by decide) (by decide) (by decide) (ad := "[I") rfl
  obtain ⟨b17, g17⟩ : ∃ z, z = h15.size := ⟨_, rfl⟩
  rw [← g17] at A17 Z17 st17
  have f19 : Exa Z h15 pa1 s9n := (f13.wr W15)
  have ne18 : pa1 ≠ b17 := Nat.ne_of_lt (Nat.lt_of_lt_of_le f19.lt (Nat.le_of_eq g17.symm))
  have f21 : Exa Z h15 pa2 s2n := ((P6.ext E3).wr W15)
  have ne20 : pa2 ≠ b17 := Nat.ne_of_lt (Nat.lt_of_lt_of_le f21.lt (Nat.le_of_eq g17.symm))
  have f23 : Arv Z h15 pa6 pk7 (.object s4n) (10 : Int32) ([(.ref pa8), (.ref pa9), (.ref pa10), .null, .null, .null, .null, .null, .null, .null]) .null := ((P10.ext E3).other W15 (Ne.symm P48))
  have ne22 : pa6 ≠ b17 := Nat.ne_of_lt (Nat.lt_of_lt_of_le f23.lt (Nat.le_of_eq g17.symm))
  have f25 : Exa Z h15 pa8 s6n := ((P13.ext E3).wr W15)
  have ne24 : pa8 ≠ b17 := Nat.ne_of_lt (Nat.lt_of_lt_of_le f25.lt (Nat.le_of_eq g17.symm))
  have f27 : Exa Z h15 pa9 s6n := ((P18.ext E3).wr W15)
  have ne26 : pa9 ≠ b17 := Nat.ne_of_lt (Nat.lt_of_lt_of_le f27.lt (Nat.le_of_eq g17.symm))
  have f29 : Exa Z h15 pa10 s6n := ((P23.ext E3).wr W15)
  have ne28 : pa10 ≠ b17 := Nat.ne_of_lt (Nat.lt_of_lt_of_le f29.lt (Nat.le_of_eq g17.symm))
  have f31 : Arv Z h15 b3 k3 .int (3 : Int32) ([(.int 0), (.int 0), (.int 0)]) (.int 0) := (V3.other W15 (Ne.symm ne4))
  have ne30 : b3 ≠ b17 := Nat.ne_of_lt (Nat.lt_of_lt_of_le f31.lt (Nat.le_of_eq g17.symm))
  have g32 : n0 ≤ b17 := Nat.le_trans (own_sz O16) (Nat.le_of_eq g17.symm)
  have sz33 : h0.size ≤ b17 := Nat.le_trans K16.1 (Nat.le_of_eq g17.symm)
  have O34 : Old Z n0 h17 := O16.ext E17
  have K34 : Keep h0 h17 [pa1] := K16.ext E17
  have V17 : Arv Z h17 b17 k17 .int (3 : Int32) ([(.int 0), (.int 0), (.int 0)]) (.int 0) := (Arv.new A17 (by decide)).pad (pad_rep [] (.int 0) 3)
  have f35 : Exa Z h17 pa1 s9n := (f19.ext E17)
  have f36 : Fld Z h17 pa1 s9n "word" "[I" .null := (((P4.ext E3).other W15 (Or.inr (slot_ne (Or.inr (ow hw 126 rfl)) (Or.inr (ow hw 124 rfl)) (by decide) (t := (.array .int)) (t' := (.array .int)) (by decide) (by decide)))).ext E17)
  obtain ⟨T37, h37, X37, e37, W37, st37⟩ := putF X17 hx hZ hown (host := "") (Or.inl (ow hw 125 rfl)) Via.refl e17 f36 f35 (Or.inr ⟨(ow hw 126 rfl), rfl, hnm⟩) (ow hw 108 rfl) (ty := (.array .int)) (by decide) rfl rfl (g := (mkF m 22 #[(vr pa1), (vr pa2), (vi 3), .unset, .unset, .unset, .unset, .unset, .unset, .unset] [(.ref b17), (.ref pa1)])) rfl rfl (hb hby d14_22)
  have N37 := Fr.snoc X37 N15 P41
  have O38 : Old Z n0 h37 := O34.wr W37 P41
  have K38 : Keep h0 h37 [pa1] := K34.wr W37 (Or.inl (List.mem_of_getElem? (i := 0) rfl))
  have Fw37 : Fld Z h37 pa1 s9n "word" "[I" (.ref b17) := f36.same W37
  obtain ⟨T39, h39, k39, X39, e39, E39, A39, Z39, st39⟩ := newPE X37 hx hZ (ow hw 122 rfl) e37 (g := (mkF m 27 #[(vr pa1), (vr pa2), (vi 3), .unset, .unset, .unset, .unset, .unset, .unset, .unset] [(.int 3), (.ref pa1)])) rfl (hb hby d14_27) rfl (by decide) (cap := 3) (by decide) (by decide) (by decide) (by decide) (ad := "[I") rfl
  obtain ⟨b39, g39⟩ : ∃ z, z = h37.size := ⟨_, rfl⟩
  rw [← g39] at A39 Z39 st39
  have f41 : Exa Z h37 pa1 s9n := (f35.wr W37)
  have ne40 : pa1 ≠ b39 := Nat.ne_of_lt (Nat.lt_of_lt_of_le f41.lt (Nat.le_of_eq g39.symm))
  have f43 : Exa Z h37 pa2 s2n := ((f21.ext E17).wr W37)
  have ne42 : pa2 ≠ b39 := Nat.ne_of_lt (Nat.lt_of_lt_of_le f43.lt (Nat.le_of_eq g39.symm))
  have f45 : Arv Z h37 pa6 pk7 (.object s4n) (10 : Int32) ([(.ref pa8), (.ref pa9), (.ref pa10), .null, .null, .null, .null, .null, .null, .null]) .null := ((f23.ext E17).other W37 (Ne.symm P48))
  have ne44 : pa6 ≠ b39 := Nat.ne_of_lt (Nat.lt_of_lt_of_le f45.lt (Nat.le_of_eq g39.symm))
  have f47 : Exa Z h37 pa8 s6n := ((f25.ext E17).wr W37)
  have ne46 : pa8 ≠ b39 := Nat.ne_of_lt (Nat.lt_of_lt_of_le f47.lt (Nat.le_of_eq g39.symm))
  have f49 : Exa Z h37 pa9 s6n := ((f27.ext E17).wr W37)
  have ne48 : pa9 ≠ b39 := Nat.ne_of_lt (Nat.lt_of_lt_of_le f49.lt (Nat.le_of_eq g39.symm))
  have f51 : Exa Z h37 pa10 s6n := ((f29.ext E17).wr W37)
  have ne50 : pa10 ≠ b39 := Nat.ne_of_lt (Nat.lt_of_lt_of_le f51.lt (Nat.le_of_eq g39.symm))
  have f53 : Arv Z h37 b3 k3 .int (3 : Int32) ([(.int 0), (.int 0), (.int 0)]) (.int 0) := ((f31.ext E17).other W37 (Ne.symm ne4))
  have ne52 : b3 ≠ b39 := Nat.ne_of_lt (Nat.lt_of_lt_of_le f53.lt (Nat.le_of_eq g39.symm))
  have f55 : Arv Z h37 b17 k17 .int (3 : Int32) ([(.int 0), (.int 0), (.int 0)]) (.int 0) := (V17.other W37 (Ne.symm ne18))
  have ne54 : b17 ≠ b39 := Nat.ne_of_lt (Nat.lt_of_lt_of_le f55.lt (Nat.le_of_eq g39.symm))
  have g56 : n0 ≤ b39 := Nat.le_trans (own_sz O38) (Nat.le_of_eq g39.symm)
  have sz57 : h0.size ≤ b39 := Nat.le_trans K38.1 (Nat.le_of_eq g39.symm)
  have O58 : Old Z n0 h39 := O38.ext E39
  have K58 : Keep h0 h39 [pa1] := K38.ext E39
  have V39 : Arv Z h39 b39 k39 .int (3 : Int32) ([(.int 0), (.int 0), (.int 0)]) (.int 0) := (Arv.new A39 (by decide)).pad (pad_rep [] (.int 0) 3)
  have f59 : Exa Z h39 pa1 s9n := (f41.ext E39)
  have f60 : Fld Z h39 pa1 s9n "shift" "[I" .null := (((((P3.ext E3).other W15 (Or.inr (slot_ne (Or.inr (ow hw 128 rfl)) (Or.inr (ow hw 124 rfl)) (by decide) (t := (.array .int)) (t' := (.array .int)) (by decide) (by decide)))).ext E17).other W37 (Or.inr (slot_ne (Or.inr (ow hw 128 rfl)) (Or.inr (ow hw 126 rfl)) (by decide) (t := (.array .int)) (t' := (.array .int)) (by decide) (by decide)))).ext E39)
  obtain ⟨T61, h61, X61, e61, W61, st61⟩ := putF X39 hx hZ hown (host := "") (Or.inl (ow hw 127 rfl)) Via.refl e39 f60 f59 (Or.inr ⟨(ow hw 128 rfl), rfl, hnm⟩) (ow hw 108 rfl) (ty := (.array .int)) (by decide) rfl rfl (g := (mkF m 29 #[(vr pa1), (vr pa2), (vi 3), .unset, .unset, .unset, .unset, .unset, .unset, .unset] [(.ref b39), (.ref pa1)])) rfl rfl (hb hby d14_29)
  have N61 := Fr.snoc X61 N37 P41
  have O62 : Old Z n0 h61 := O58.wr W61 P41
  have K62 : Keep h0 h61 [pa1] := K58.wr W61 (Or.inl (List.mem_of_getElem? (i := 0) rfl))
  have Fw61 : Fld Z h61 pa1 s9n "shift" "[I" (.ref b39) := f60.same W61
  obtain ⟨T63, h63, k63, X63, e63, E63, A63, Z63, st63⟩ := newPE X61 hx hZ (ow hw 129 rfl) e61 (g := (mkF m 34 #[(vr pa1), (vr pa2), (vi 3), .unset, .unset, .unset, .unset, .unset, .unset, .unset] [(.int 3), (.ref pa1)])) rfl (hb hby d14_34) rfl (by decide) (cap := 3) (by decide) (by decide) (by decide) (by decide) (ad := "[J") rfl
  obtain ⟨b63, g63⟩ : ∃ z, z = h61.size := ⟨_, rfl⟩
  rw [← g63] at A63 Z63 st63
  have f65 : Exa Z h61 pa1 s9n := (f59.wr W61)
  have ne64 : pa1 ≠ b63 := Nat.ne_of_lt (Nat.lt_of_lt_of_le f65.lt (Nat.le_of_eq g63.symm))
  have f67 : Exa Z h61 pa2 s2n := ((f43.ext E39).wr W61)
  have ne66 : pa2 ≠ b63 := Nat.ne_of_lt (Nat.lt_of_lt_of_le f67.lt (Nat.le_of_eq g63.symm))
  have f69 : Arv Z h61 pa6 pk7 (.object s4n) (10 : Int32) ([(.ref pa8), (.ref pa9), (.ref pa10), .null, .null, .null, .null, .null, .null, .null]) .null := ((f45.ext E39).other W61 (Ne.symm P48))
  have ne68 : pa6 ≠ b63 := Nat.ne_of_lt (Nat.lt_of_lt_of_le f69.lt (Nat.le_of_eq g63.symm))
  have f71 : Exa Z h61 pa8 s6n := ((f47.ext E39).wr W61)
  have ne70 : pa8 ≠ b63 := Nat.ne_of_lt (Nat.lt_of_lt_of_le f71.lt (Nat.le_of_eq g63.symm))
  have f73 : Exa Z h61 pa9 s6n := ((f49.ext E39).wr W61)
  have ne72 : pa9 ≠ b63 := Nat.ne_of_lt (Nat.lt_of_lt_of_le f73.lt (Nat.le_of_eq g63.symm))
  have f75 : Exa Z h61 pa10 s6n := ((f51.ext E39).wr W61)
  have ne74 : pa10 ≠ b63 := Nat.ne_of_lt (Nat.lt_of_lt_of_le f75.lt (Nat.le_of_eq g63.symm))
  have f77 : Arv Z h61 b3 k3 .int (3 : Int32) ([(.int 0), (.int 0), (.int 0)]) (.int 0) := ((f53.ext E39).other W61 (Ne.symm ne4))
  have ne76 : b3 ≠ b63 := Nat.ne_of_lt (Nat.lt_of_lt_of_le f77.lt (Nat.le_of_eq g63.symm))
  have f79 : Arv Z h61 b17 k17 .int (3 : Int32) ([(.int 0), (.int 0), (.int 0)]) (.int 0) := ((f55.ext E39).other W61 (Ne.symm ne18))
  have ne78 : b17 ≠ b63 := Nat.ne_of_lt (Nat.lt_of_lt_of_le f79.lt (Nat.le_of_eq g63.symm))
  have f81 : Arv Z h61 b39 k39 .int (3 : Int32) ([(.int 0), (.int 0), (.int 0)]) (.int 0) := (V39.other W61 (Ne.symm ne40))
  have ne80 : b39 ≠ b63 := Nat.ne_of_lt (Nat.lt_of_lt_of_le f81.lt (Nat.le_of_eq g63.symm))
  have g82 : n0 ≤ b63 := Nat.le_trans (own_sz O62) (Nat.le_of_eq g63.symm)
  have sz83 : h0.size ≤ b63 := Nat.le_trans K62.1 (Nat.le_of_eq g63.symm)
  have O84 : Old Z n0 h63 := O62.ext E63
  have K84 : Keep h0 h63 [pa1] := K62.ext E63
  have V63 : Arv Z h63 b63 k63 .long (3 : Int32) ([(.long 0), (.long 0), (.long 0)]) (.long 0) := (Arv.new A63 (by decide)).pad (pad_rep [] (.long 0) 3)
  have f85 : Exa Z h63 pa1 s9n := (f65.ext E63)
  have f86 : Fld Z h63 pa1 s9n "mask" "[J" .null := (((((((P2.ext E3).other W15 (Or.inr (slot_ne (Or.inr (ow hw 131 rfl)) (Or.inr (ow hw 124 rfl)) (by decide) (t := (.array .long)) (t' := (.array .int)) (by decide) (by decide)))).ext E17).other W37 (Or.inr (slot_ne (Or.inr (ow hw 131 rfl)) (Or.inr (ow hw 126 rfl)) (by decide) (t := (.array .long)) (t' := (.array .int)) (by decide) (by decide)))).ext E39).other W61 (Or.inr (slot_ne (Or.inr (ow hw 131 rfl)) (Or.inr (ow hw 128 rfl)) (by decide) (t := (.array .long)) (t' := (.array .int)) (by decide) (by decide)))).ext E63)
  obtain ⟨T87, h87, X87, e87, W87, st87⟩ := putF X63 hx hZ hown (host := "") (Or.inl (ow hw 130 rfl)) Via.refl e63 f86 f85 (Or.inr ⟨(ow hw 131 rfl), rfl, hnm⟩) (ow hw 108 rfl) (ty := (.array .long)) (by decide) rfl rfl (g := (mkF m 36 #[(vr pa1), (vr pa2), (vi 3), .unset, .unset, .unset, .unset, .unset, .unset, .unset] [(.ref b63), (.ref pa1)])) rfl rfl (hb hby d14_36)
  have N87 := Fr.snoc X87 N61 P41
  have O88 : Old Z n0 h87 := O84.wr W87 P41
  have K88 : Keep h0 h87 [pa1] := K84.wr W87 (Or.inl (List.mem_of_getElem? (i := 0) rfl))
  have Fw87 : Fld Z h87 pa1 s9n "mask" "[J" (.ref b63) := f86.same W87
  have f89 : Exa Z h87 pa2 s2n := ((f67.ext E63).wr W87)
  have f90 : Fld Z h87 pa2 s2n "elementData" s3n (.ref pa6) := ((((((((P8.ext E3).other W15 (Or.inl (Ne.symm P47))).ext E17).other W37 (Or.inl (Ne.symm P47))).ext E39).other W61 (Or.inl (Ne.symm P47))).ext E63).other W87 (Or.inl (Ne.symm P47)))
  have f91 : Fld Z h87 pa2 s2n "size" "I" (.int 3) := ((((((((P9.ext E3).other W15 (Or.inl (Ne.symm P47))).ext E17).other W37 (Or.inl (Ne.symm P47))).ext E39).other W61 (Or.inl (Ne.symm P47))).ext E63).other W87 (Or.inl (Ne.symm P47)))
  have f92 : Arv Z h87 pa6 pk7 (.object s4n) (10 : Int32) ([(.ref pa8), (.ref pa9), (.ref pa10), .null, .null, .null, .null, .null, .null, .null]) .null := ((f69.ext E63).other W87 (Ne.symm P48))
  obtain ⟨cq93, kq93, q93a, q93b, q93c⟩ := isOf hZ e87 f89
  obtain ⟨_, _, ⟨T93, L93, k93, n93⟩, -, X93, ⟨Lc93, hQ93, l93, y93, z93⟩, st93⟩ := X87.interfaceBack hx (xi := M23) (y := M18) hown (mvT hZ (ow hw 132 rfl)) (mvT hZ (ow hw 133 rfl)) (mvT hZ (ow hw 134 rfl)) (mvT hZ (ow hw 135 rfl)) (mvT hZ (ow hw 136 rfl)) (mvT hZ (ow hw 137 rfl)) (mvT hZ (ow hw 138 rfl)) (mvT hZ (ow hw 78 rfl)) (by decide) (backOf (W := 0) (au16_0 l Z a0 hw [] wINTEGER wDOUBLE wBOOLEAN wDEFAULTCAPACITY_EMPTY_ELEMENTDATA kwDEFAULTCAPACITY_EMPTY_ELEMENTDATA hS pa2 pa6 pk7 pa8 pa9 pa10 h87 n0 O88 f89 f90 f91 f92) hZ (ow hw 139 rfl) (ow hw 12 rfl) (by decide) (by decide)) q93a q93b q93c (g := (mkF m 56 #[(vr pa1), (vr pa2), (vi 3), (vi 1), (vi 0), (vi 0), .unset, .unset, .unset, .unset] [(.int 0), (.ref pa2)])) rfl (by rw [hml]; rfl) (Steps.refl _) (argsL := [(.int 0)]) (rest := []) (lenOf pd_12 rfl) rfl (by show 2 * 0 + _ ≤ _; exact Nat.le_of_eq rfl) (hb hby d14_56) (fun _ _ => ⟨rfl, e87, (by decide : 4 + 0 ≤ _), (by decide : 12 + 0 ≤ _)⟩)
  dsimp only [Pt.U, Pt.locs, Pt.cells, Pt.slots] at X93 l93 y93 z93 st93 hQ93
  subst y93 z93
  obtain ⟨rfl, Nq93, K93q⟩ := hQ93
  have N93 : Fr n0 L93 := (congrArg (Fr n0) l93).mpr (Fr.app N87 Nq93)
  have f94 : Exa Z h87 pa8 s6n := ((f71.ext E63).wr W87)
  obtain ⟨T95, X95, e95, st95⟩ := castY X93 hx hZ hown (ow hw 153 rfl) K93q (Ins.self f94) (g := (mkF m 61 #[(vr pa1), (vr pa2), (vi 3), (vi 1), (vi 0), (vi 0), .unset, .unset, .unset, .unset] [(.ref pa8)])) rfl rfl (hb hby d14_61)
  have f96 : Fld Z h87 pa8 s6n "high" "I" (.int pi11) := ((((((((P14.ext E3).other W15 (Or.inl (Ne.symm P49))).ext E17).other W37 (Or.inl (Ne.symm P49))).ext E39).other W61 (Or.inl (Ne.symm P49))).ext E63).other W87 (Or.inl (Ne.symm P49)))
  obtain ⟨cq97, kq97, q97a, q97b, q97c⟩ := isOf hZ e95 f94
  obtain ⟨_, _, ⟨T97, L97, k97, n97⟩, -, X97, ⟨Lc97, hQ97, l97, y97, z97⟩, st97⟩ := X95.virtualBack hx (y := M19) (z := M19) hown (mvT hZ (ow hw 155 rfl)) (mvT hZ (ow hw 156 rfl)) (notFace_of_selects (args := #[]) (mvT hZ (ow hw 158 rfl))) (mvT hZ (ow hw 158 rfl)) (mvT hZ (ow hw 157 rfl)) (by decide) (backOf (W := 0) (au20_0 l Z a0 hw [] wINTEGER wDOUBLE wBOOLEAN wDEFAULTCAPACITY_EMPTY_ELEMENTDATA kwDEFAULTCAPACITY_EMPTY_ELEMENTDATA hS pa8 pi11 h87 n0 O88 f96) hZ (ow hw 159 rfl) (ow hw 38 rfl) (by decide) (by decide)) q97a q97c (g := (mkF m 68 #[(vr pa1), (vr pa2), (vi 3), (vi 1), (vi 0), (vi 0), (vr pa8), .unset, .unset, .unset] [(.ref pa8)])) rfl (by rw [hml]; rfl) (Steps.refl _) (argsL := []) (rest := []) (lenOf pd_10 rfl) rfl (by show 2 * 0 + _ ≤ _; exact Nat.le_of_eq rfl) (hb hby d14_68) (fun _ _ => ⟨rfl, e95, (by decide : 4 + 0 ≤ _), (by decide : 12 + 0 ≤ _)⟩)
  dsimp only [Pt.U, Pt.locs, Pt.cells, Pt.slots] at X97 l97 y97 z97 st97 hQ97
  subst y97 z97
  obtain ⟨rfl, Nq97, K97q⟩ := hQ97
  have N97 : Fr n0 L97 := (congrArg (Fr n0) l97).mpr (Fr.app N93 Nq97)
  have f98 : Fld Z h87 pa8 s6n "low" "I" (.int pi12) := ((((((((P15.ext E3).other W15 (Or.inl (Ne.symm P49))).ext E17).other W37 (Or.inl (Ne.symm P49))).ext E39).other W61 (Or.inl (Ne.symm P49))).ext E63).other W87 (Or.inl (Ne.symm P49)))
  obtain ⟨cq99, kq99, q99a, q99b, q99c⟩ := isOf hZ K97q f94
  obtain ⟨_, _, ⟨T99, L99, k99, n99⟩, -, X99, ⟨Lc99, hQ99, l99, y99, z99⟩, st99⟩ := X97.virtualBack hx (y := M20) (z := M20) hown (mvT hZ (ow hw 160 rfl)) (mvT hZ (ow hw 161 rfl)) (notFace_of_selects (args := #[]) (mvT hZ (ow hw 163 rfl))) (mvT hZ (ow hw 163 rfl)) (mvT hZ (ow hw 162 rfl)) (by decide) (backOf (W := 2) (au21_0 l Z a0 hw [] wINTEGER wDOUBLE wBOOLEAN wDEFAULTCAPACITY_EMPTY_ELEMENTDATA kwDEFAULTCAPACITY_EMPTY_ELEMENTDATA hS pa8 pi12 h87 n0 O88 f98) hZ (ow hw 164 rfl) (ow hw 38 rfl) (by decide) (by decide)) q99a q99c (g := (mkF m 74 #[(vr pa1), (vr pa2), (vi 3), (vi 1), (vi 0), (vi 0), (vr pa8), .unset, .unset, .unset] [(.ref pa8), (.long (pi11.toInt64))])) rfl (by rw [hml]; rfl) (Steps.refl _) (argsL := []) (rest := [(.long (pi11.toInt64))]) (lenOf pd_10 rfl) rfl (by show 2 * 0 + _ ≤ _; exact Nat.le_of_eq rfl) (hb hby d14_74) (fun _ _ => ⟨rfl, K97q, (by decide : 4 + 0 ≤ _), (by decide : 12 + 0 ≤ _)⟩)
  dsimp only [Pt.U, Pt.locs, Pt.cells, Pt.slots] at X99 l99 y99 z99 st99 hQ99
  subst y99 z99
  obtain ⟨rfl, Nq99, K99q⟩ := hQ99
  have N99 : Fr n0 L99 := (congrArg (Fr n0) l99).mpr (Fr.app N97 Nq99)
  obtain ⟨_, _, ⟨T100, L100, k100, n100⟩, -, X100, ⟨Lc100, hQ100, l100, y100, z100⟩, st100⟩ := Jvm.LawKit.callS X99 hx (y := M4) hown (mvT hZ (ow hw 165 rfl)) (mvT hZ (ow hw 166 rfl)) (mvT hZ (ow hw 167 rfl)) (mvT hZ (ow hw 168 rfl)) (by decide) (backOf (W := 1) (rmNlz64 l Z a0 hw [] wINTEGER wDOUBLE wBOOLEAN wDEFAULTCAPACITY_EMPTY_ELEMENTDATA kwDEFAULTCAPACITY_EMPTY_ELEMENTDATA hS ((pi11.toInt64) - (pi12.toInt64)) h87 n0 O88 ) hZ (ow hw 168 rfl) (ow hw 167 rfl) (by decide) (by decide)) (g := (mkF m 85 #[(vr pa1), (vr pa2), (vi 3), (vi 1), (vi 0), (vi 0), (vr pa8), .val (.long ((pi11.toInt64) - (pi12.toInt64))), .second, .unset] [(.long ((pi11.toInt64) - (pi12.toInt64))), (.int 64)])) rfl (by rw [hml]; rfl) (argsL := [(.long ((pi11.toInt64) - (pi12.toInt64)))]) (rest := [(.int 64)]) (lenOf pd_13 rfl) rfl (by show 2 * 0 + _ ≤ _; exact Nat.le_of_eq rfl) (hb hby d14_85) (fun _ _ => ⟨rfl, K99q, (by decide : 4 + 0 ≤ _), (by decide : 12 + 0 ≤ _)⟩)
  dsimp only [Pt.U, Pt.locs, Pt.cells, Pt.slots] at X100 l100 y100 z100 st100 hQ100
  subst y100 z100
  obtain ⟨r_100, rfl, Nq100, K100q, p100_0⟩ := hQ100
  have N100 : Fr n0 L100 := (congrArg (Fr n0) l100).mpr (Fr.app N99 Nq100)
  have hb101 : ((64 : Int32) - r_100) = pi3 := by rw [p100_0]; exact P36
  have pre102 : ∀ t, Steps p.tables e below (T100.setTop (mkF m 89 #[(vr pa1), (vr pa2), (vi 3), (vi 1), (vi 0), (vi 0), (vr pa8), .val (.long ((pi11.toInt64) - (pi12.toInt64))), .second, .unset] [(.int pi3)])) t → Steps p.tables e below (s₁.setTop (entryFrame m #[(.ref pa1), (.ref pa2)] 10)) t := by
    intro t k
    refine pre0 t ?_
    show Steps p.tables e below (s₁.setTop (mkF m 0 #[(vr pa1), (vr pa2), .unset, .unset, .unset, .unset, .unset, .unset, .unset, .unset] [])) _
    refine XS.aloadN X0.here hx rfl (hb hby d14_0) rfl rfl ?_
    refine st1 _ ?_
    refine XS.aloadN X1.here hx rfl (hb hby d14_4) rfl rfl ?_
    refine st2.trans ?_
    refine XS.istoreN X2.here hx rfl (hb hby d14_10) rfl (l' := #[(vr pa1), (vr pa2), (vi 3), .unset, .unset, .unset, .unset, .unset, .unset, .unset]) rfl ?_
    refine XS.aloadN X2.here hx rfl (hb hby d14_11) rfl rfl ?_
    show Steps p.tables e below (T2.setTop (mkF m 12 #[(vr pa1), (vr pa2), (vi 3), .unset, .unset, .unset, .unset, .unset, .unset, .unset] [(.ref pa1)])) _
    refine XS.iloadN X2.here hx rfl (hb hby d14_12) rfl ?_
    refine st3 _ ?_
    refine st15 _ ?_
    refine XS.aloadN X15.here hx rfl (hb hby d14_18) rfl rfl ?_
    refine XS.iloadN X15.here hx rfl (hb hby d14_19) rfl ?_
    refine st17 _ ?_
    show Steps p.tables e below (T17.setTop (mkF m 22 #[(vr pa1), (vr pa2), (vi 3), .unset, .unset, .unset, .unset, .unset, .unset, .unset] [(.ref b17), (.ref pa1)])) _
    refine st37 _ ?_
    refine XS.aloadN X37.here hx rfl (hb hby d14_25) rfl rfl ?_
    refine XS.iloadN X37.here hx rfl (hb hby d14_26) rfl ?_
    refine st39 _ ?_
    refine st61 _ ?_
    refine XS.aloadN X61.here hx rfl (hb hby d14_32) rfl rfl ?_
    show Steps p.tables e below (T61.setTop (mkF m 33 #[(vr pa1), (vr pa2), (vi 3), .unset, .unset, .unset, .unset, .unset, .unset, .unset] [(.ref pa1)])) _
    refine XS.iloadN X61.here hx rfl (hb hby d14_33) rfl ?_
    refine st63 _ ?_
    refine st87 _ ?_
    refine XS.iconst X87.here hx rfl (hb hby d14_39) ?_
    refine XS.istoreN X87.here hx rfl (hb hby d14_40) rfl (l' := #[(vr pa1), (vr pa2), (vi 3), (vi 1), .unset, .unset, .unset, .unset, .unset, .unset]) rfl ?_
    refine XS.iconst X87.here hx rfl (hb hby d14_41) ?_
    show Steps p.tables e below (T87.setTop (mkF m 42 #[(vr pa1), (vr pa2), (vi 3), (vi 1), .unset, .unset, .unset, .unset, .unset, .unset] [(.int 0)])) _
    refine XS.istore X87.here hx rfl (hb hby d14_42) rfl (l' := #[(vr pa1), (vr pa2), (vi 3), (vi 1), (vi 0), .unset, .unset, .unset, .unset, .unset]) rfl ?_
    refine XS.iconst X87.here hx rfl (hb hby d14_44) ?_
    refine XS.istore X87.here hx rfl (hb hby d14_45) rfl (l' := #[(vr pa1), (vr pa2), (vi 3), (vi 1), (vi 0), (vi 0), .unset, .unset, .unset, .unset]) rfl ?_
    refine XS.iload X87.here hx rfl (hb hby d14_47) rfl ?_
    refine XS.iloadN X87.here hx rfl (hb hby d14_49) rfl ?_
    refine XS.icmpNo X87.here hx rfl (hb hby d14_50) rfl (tlt (by decide : (0 : Int32) < (3 : Int32))).2.1 ?_
    show Steps p.tables e below (T87.setTop (mkF m 53 #[(vr pa1), (vr pa2), (vi 3), (vi 1), (vi 0), (vi 0), .unset, .unset, .unset, .unset] [])) _
    refine XS.aloadN X87.here hx rfl (hb hby d14_53) rfl rfl ?_
    refine XS.iload X87.here hx rfl (hb hby d14_54) rfl ?_
    refine st93.trans ?_
    refine st95 _ ?_
    refine XS.astore X95.here hx rfl (hb hby d14_64) rfl rfl (l' := #[(vr pa1), (vr pa2), (vi 3), (vi 1), (vi 0), (vi 0), (vr pa8), .unset, .unset, .unset]) rfl ?_
    refine XS.aload X95.here hx rfl (hb hby d14_66) rfl rfl ?_
    show Steps p.tables e below (T95.setTop (mkF m 68 #[(vr pa1), (vr pa2), (vi 3), (vi 1), (vi 0), (vi 0), (vr pa8), .unset, .unset, .unset] [(.ref pa8)])) _
    refine st97.trans ?_
    refine XS.i2l X97.here hx rfl (hb hby d14_71) rfl ?_
    refine XS.aload X97.here hx rfl (hb hby d14_72) rfl rfl ?_
    refine st99.trans ?_
    refine XS.i2l X99.here hx rfl (hb hby d14_77) rfl ?_
    refine XS.lsub X99.here hx rfl (hb hby d14_78) rfl ?_
    show Steps p.tables e below (T99.setTop (mkF m 79 #[(vr pa1), (vr pa2), (vi 3), (vi 1), (vi 0), (vi 0), (vr pa8), .unset, .unset, .unset] [(.long ((pi11.toInt64) - (pi12.toInt64)))])) _
    refine XS.lstore X99.here hx rfl (hb hby d14_79) rfl (l' := #[(vr pa1), (vr pa2), (vi 3), (vi 1), (vi 0), (vi 0), (vr pa8), .val (.long ((pi11.toInt64) - (pi12.toInt64))), .second, .unset]) rfl ?_
    refine XS.bipush X99.here hx rfl (hb hby d14_81) ?_
    refine XS.lload X99.here hx rfl (hb hby d14_83) rfl ?_
    refine st100 _ ?_
    refine XS.isub X100.here hx rfl (hb hby d14_88) rfl ?_
    rw [hb101]
    exact k
  have f103 : Fld Z h87 pa1 s9n "low" "[I" (.ref b3) := ((((((Fw15.ext E17).other W37 (Or.inr (slot_ne (Or.inr (ow hw 124 rfl)) (Or.inr (ow hw 126 rfl)) (by decide) (t := (.array .int)) (t' := (.array .int)) (by decide) (by decide)))).ext E39).other W61 (Or.inr (slot_ne (Or.inr (ow hw 124 rfl)) (Or.inr (ow hw 128 rfl)) (by decide) (t := (.array .int)) (t' := (.array .int)) (by decide) (by decide)))).ext E63).other W87 (Or.inr (slot_ne (Or.inr (ow hw 124 rfl)) (Or.inr (ow hw 131 rfl)) (by decide) (t := (.array .int)) (t' := (.array .long)) (by decide) (by decide))))
  obtain ⟨T104, X104, e104, st104⟩ := getF X100 hx hZ hown (host := "") (Or.inl (ow hw 123 rfl)) Via.refl K100q f103 (g := (mkF m 108 #[(vr pa1), (vr pa2), (vi 3), (vi 1), (vi 0), (vi 0), (vr pa8), .val (.long ((pi11.toInt64) - (pi12.toInt64))), .second, (vi pi3)] [(.ref pa1)])) rfl rfl (hb hby d14_108)
  obtain ⟨cq105, kq105, q105a, q105b, q105c⟩ := isOf hZ e104 f94
  obtain ⟨_, _, ⟨T105, L105, k105, n105⟩, -, X105, ⟨Lc105, hQ105, l105, y105, z105⟩, st105⟩ := X104.virtualBack hx (y := M20) (z := M20) hown (mvT hZ (ow hw 160 rfl)) (mvT hZ (ow hw 161 rfl)) (notFace_of_selects (args := #[]) (mvT hZ (ow hw 163 rfl))) (mvT hZ (ow hw 163 rfl)) (mvT hZ (ow hw 162 rfl)) (by decide) (backOf (W := 2) (au21_0 l Z a0 hw [] wINTEGER wDOUBLE wBOOLEAN wDEFAULTCAPACITY_EMPTY_ELEMENTDATA kwDEFAULTCAPACITY_EMPTY_ELEMENTDATA hS pa8 pi12 h87 n0 O88 f98) hZ (ow hw 164 rfl) (ow hw 38 rfl) (by decide) (by decide)) q105a q105c (g := (mkF m 115 #[(vr pa1), (vr pa2), (vi 3), (vi 1), (vi 0), (vi 0), (vr pa8), .val (.long ((pi11.toInt64) - (pi12.toInt64))), .second, (vi pi3)] [(.ref pa8), (.int 0), (.ref b3)])) rfl (by rw [hml]; rfl) (Steps.refl _) (argsL := []) (rest := [(.int 0), (.ref b3)]) (lenOf pd_10 rfl) rfl (by show 2 * 0 + _ ≤ _; exact Nat.le_of_eq rfl) (hb hby d14_115) (fun _ _ => ⟨rfl, e104, (by decide : 4 + 0 ≤ _), (by decide : 12 + 0 ≤ _)⟩)
  dsimp only [Pt.U, Pt.locs, Pt.cells, Pt.slots] at X105 l105 y105 z105 st105 hQ105
  subst y105 z105
  obtain ⟨rfl, Nq105, K105q⟩ := hQ105
  have N105 : Fr n0 L105 := (congrArg (Fr n0) l105).mpr (Fr.app N100 Nq105)
  have f106 : Arv Z h87 b3 k3 .int (3 : Int32) ([(.int 0), (.int 0), (.int 0)]) (.int 0) := ((f77.ext E63).other W87 (Ne.symm ne4))
  obtain ⟨cl107, Ar107, qc107, Sz107, Nn107, Ha107, Gg107⟩ := (id f106)
  have hin107 : ¬ ((0 : Int32) < 0 ∨ cl107.slots.size ≤ ((0 : Int32)).toNatClampNeg) := inb_of Sz107 ⟨by decide, by decide⟩
  obtain ⟨T107, h107, X107, e107, W107, st107⟩ := stI X105 hx hZ K105q Ar107 (j := (0 : Int32)) hin107 (g := (mkF m 118 #[(vr pa1), (vr pa2), (vi 3), (vi 1), (vi 0), (vi 0), (vr pa8), .val (.long ((pi11.toInt64) - (pi12.toInt64))), .second, (vi pi3)] [(.int pi12), (.int 0), (.ref b3)])) rfl rfl (hb hby d14_118)
  have O108 : Old Z n0 h107 := O88.wr W107 g10
  have K108 : Keep h0 h107 [pa1] := K88.wr W107 (Or.inr sz11)
  have V107 : Arv Z h107 b3 k3 .int (3 : Int32) ([(.int pi12), (.int 0), (.int 0)]) (.int 0) := (Arv.set Ar107 qc107 Sz107 Nn107 Ha107 Gg107 (v := (.int pi12)) rfl W107 0 rfl (Nat.le_of_ble_eq_true rfl))
  have N107 := Fr.snoc X107 N105 g10
  have f109 : Fld Z h107 pa1 s9n "word" "[I" (.ref b17) := (((((Fw37.ext E39).other W61 (Or.inr (slot_ne (Or.inr (ow hw 126 rfl)) (Or.inr (ow hw 128 rfl)) (by decide) (t := (.array .int)) (t' := (.array .int)) (by decide) (by decide)))).ext E63).other W87 (Or.inr (slot_ne (Or.inr (ow hw 126 rfl)) (Or.inr (ow hw 131 rfl)) (by decide) (t := (.array .int)) (t' := (.array .long)) (by decide) (by decide)))).other W107 (Or.inl ne4))
  obtain ⟨T110, X110, e110, st110⟩ := getF X107 hx hZ hown (host := "") (Or.inl (ow hw 125 rfl)) Via.refl e107 f109 (g := (mkF m 120 #[(vr pa1), (vr pa2), (vi 3), (vi 1), (vi 0), (vi 0), (vr pa8), .val (.long ((pi11.toInt64) - (pi12.toInt64))), .second, (vi pi3)] [(.ref pa1)])) rfl rfl (hb hby d14_120)
  have f111 : Arv Z h107 b17 k17 .int (3 : Int32) ([(.int 0), (.int 0), (.int 0)]) (.int 0) := (((f79.ext E63).other W87 (Ne.symm ne18)).other W107 (Ne.symm ne30))
  obtain ⟨cl112, Ar112, qc112, Sz112, Nn112, Ha112, Gg112⟩ := (id f111)
  have hin112 : ¬ ((0 : Int32) < 0 ∨ cl112.slots.size ≤ ((0 : Int32)).toNatClampNeg) := inb_of Sz112 ⟨by decide, by decide⟩
  obtain ⟨T112, h112, X112, e112, W112, st112⟩ := stI X110 hx hZ e110 Ar112 (j := (0 : Int32)) hin112 (g := (mkF m 128 #[(vr pa1), (vr pa2), (vi 3), (vi 1), (vi 0), (vi 0), (vr pa8), .val (.long ((pi11.toInt64) - (pi12.toInt64))), .second, (vi pi3)] [(.int 0), (.int 0), (.ref b17)])) rfl rfl (hb hby d14_128)
  have O113 : Old Z n0 h112 := O108.wr W112 g32
  have K113 : Keep h0 h112 [pa1] := K108.wr W112 (Or.inr sz33)
  have V112 : Arv Z h112 b17 k17 .int (3 : Int32) ([(.int 0), (.int 0), (.int 0)]) (.int 0) := (Arv.set Ar112 qc112 Sz112 Nn112 Ha112 Gg112 (v := (.int 0)) rfl W112 0 rfl (Nat.le_of_ble_eq_true rfl))
  have N112 := Fr.snoc X112 N107 g32
  have f114 : Fld Z h112 pa1 s9n "shift" "[I" (.ref b39) := ((((Fw61.ext E63).other W87 (Or.inr (slot_ne (Or.inr (ow hw 128 rfl)) (Or.inr (ow hw 131 rfl)) (by decide) (t := (.array .int)) (t' := (.array .long)) (by decide) (by decide)))).other W107 (Or.inl ne4)).other W112 (Or.inl ne18))
  obtain ⟨T115, X115, e115, st115⟩ := getF X112 hx hZ hown (host := "") (Or.inl (ow hw 127 rfl)) Via.refl e112 f114 (g := (mkF m 130 #[(vr pa1), (vr pa2), (vi 3), (vi 1), (vi 0), (vi 0), (vr pa8), .val (.long ((pi11.toInt64) - (pi12.toInt64))), .second, (vi pi3)] [(.ref pa1)])) rfl rfl (hb hby d14_130)
  have f116 : Arv Z h112 b39 k39 .int (3 : Int32) ([(.int 0), (.int 0), (.int 0)]) (.int 0) := ((((f81.ext E63).other W87 (Ne.symm ne40)).other W107 (Ne.symm ne52)).other W112 (Ne.symm ne54))
  obtain ⟨cl117, Ar117, qc117, Sz117, Nn117, Ha117, Gg117⟩ := (id f116)
  have hin117 : ¬ ((0 : Int32) < 0 ∨ cl117.slots.size ≤ ((0 : Int32)).toNatClampNeg) := inb_of Sz117 ⟨by decide, by decide⟩
  obtain ⟨T117, h117, X117, e117, W117, st117⟩ := stI X115 hx hZ e115 Ar117 (j := (0 : Int32)) hin117 (g := (mkF m 137 #[(vr pa1), (vr pa2), (vi 3), (vi 1), (vi 0), (vi 0), (vr pa8), .val (.long ((pi11.toInt64) - (pi12.toInt64))), .second, (vi pi3)] [(.int 0), (.int 0), (.ref b39)])) rfl rfl (hb hby d14_137)
  have O118 : Old Z n0 h117 := O113.wr W117 g56
  have K118 : Keep h0 h117 [pa1] := K113.wr W117 (Or.inr sz57)
  have V117 : Arv Z h117 b39 k39 .int (3 : Int32) ([(.int 0), (.int 0), (.int 0)]) (.int 0) := (Arv.set Ar117 qc117 Sz117 Nn117 Ha117 Gg117 (v := (.int 0)) rfl W117 0 rfl (Nat.le_of_ble_eq_true rfl))
  have N117 := Fr.snoc X117 N112 g56
  have f119 : Fld Z h117 pa1 s9n "mask" "[J" (.ref b63) := (((Fw87.other W107 (Or.inl ne4)).other W112 (Or.inl ne18)).other W117 (Or.inl ne40))
  obtain ⟨T120, X120, e120, st120⟩ := getF X117 hx hZ hown (host := "") (Or.inl (ow hw 130 rfl)) Via.refl e117 f119 (g := (mkF m 139 #[(vr pa1), (vr pa2), (vi 3), (vi 1), (vi 0), (vi 0), (vr pa8), .val (.long ((pi11.toInt64) - (pi12.toInt64))), .second, (vi pi3)] [(.ref pa1)])) rfl rfl (hb hby d14_139)
  have pre121 : ∀ t, Steps p.tables e below (T120.setTop (mkF m 146 #[(vr pa1), (vr pa2), (vi 3), (vi 1), (vi 0), (vi 0), (vr pa8), .val (.long ((pi11.toInt64) - (pi12.toInt64))), .second, (vi pi3)] [(.int pi3), (.int 0), (.ref b63)])) t → Steps p.tables e below (s₁.setTop (entryFrame m #[(.ref pa1), (.ref pa2)] 10)) t := by
    intro t k
    refine pre102 t ?_
    show Steps p.tables e below (T100.setTop (mkF m 89 #[(vr pa1), (vr pa2), (vi 3), (vi 1), (vi 0), (vi 0), (vr pa8), .val (.long ((pi11.toInt64) - (pi12.toInt64))), .second, .unset] [(.int pi3)])) _
    refine XS.istore X100.here hx rfl (hb hby d14_89) rfl (l' := #[(vr pa1), (vr pa2), (vi 3), (vi 1), (vi 0), (vi 0), (vr pa8), .val (.long ((pi11.toInt64) - (pi12.toInt64))), .second, (vi pi3)]) rfl ?_
    refine XS.iload X100.here hx rfl (hb hby d14_91) rfl ?_
    refine XS.iload X100.here hx rfl (hb hby d14_93) rfl ?_
    refine XS.iadd X100.here hx rfl (hb hby d14_95) rfl ?_
    refine XS.bipush X100.here hx rfl (hb hby d14_96) ?_
    refine XS.icmpYes X100.here hx rfl (pc0 := 98) (pc' := 107) rfl (hb hby d14_98) rfl (flt (P31 : ¬ ((64 : Int32) < ((0 : Int32) + pi3)))).2.2.2 (by decide) (by decide) ?_
    show Steps p.tables e below (T100.setTop (mkF m 107 #[(vr pa1), (vr pa2), (vi 3), (vi 1), (vi 0), (vi 0), (vr pa8), .val (.long ((pi11.toInt64) - (pi12.toInt64))), .second, (vi pi3)] [])) _
    refine XS.aloadN X100.here hx rfl (hb hby d14_107) rfl rfl ?_
    refine st104 _ ?_
    refine XS.iload X104.here hx rfl (hb hby d14_111) rfl ?_
    refine XS.aload X104.here hx rfl (hb hby d14_113) rfl rfl ?_
    refine st105.trans ?_
    refine st107 _ ?_
    show Steps p.tables e below (T107.setTop (mkF m 119 #[(vr pa1), (vr pa2), (vi 3), (vi 1), (vi 0), (vi 0), (vr pa8), .val (.long ((pi11.toInt64) - (pi12.toInt64))), .second, (vi pi3)] [])) _
    refine XS.aloadN X107.here hx rfl (hb hby d14_119) rfl rfl ?_
    refine st110 _ ?_
    refine XS.iload X110.here hx rfl (hb hby d14_123) rfl ?_
    refine XS.iloadN X110.here hx rfl (hb hby d14_125) rfl ?_
    refine XS.iconst X110.here hx rfl (hb hby d14_126) ?_
    refine XS.isub X110.here hx rfl (hb hby d14_127) rfl ?_
    show Steps p.tables e below (T110.setTop (mkF m 128 #[(vr pa1), (vr pa2), (vi 3), (vi 1), (vi 0), (vi 0), (vr pa8), .val (.long ((pi11.toInt64) - (pi12.toInt64))), .second, (vi pi3)] [(.int 0), (.int 0), (.ref b17)])) _
    refine st112 _ ?_
    refine XS.aloadN X112.here hx rfl (hb hby d14_129) rfl rfl ?_
    refine st115 _ ?_
    refine XS.iload X115.here hx rfl (hb hby d14_133) rfl ?_
    refine XS.iload X115.here hx rfl (hb hby d14_135) rfl ?_
    refine st117 _ ?_
    show Steps p.tables e below (T117.setTop (mkF m 138 #[(vr pa1), (vr pa2), (vi 3), (vi 1), (vi 0), (vi 0), (vr pa8), .val (.long ((pi11.toInt64) - (pi12.toInt64))), .second, (vi pi3)] [])) _
    refine XS.aloadN X117.here hx rfl (hb hby d14_138) rfl rfl ?_
    refine st120 _ ?_
    refine XS.iload X120.here hx rfl (hb hby d14_142) rfl ?_
    refine XS.iload X120.here hx rfl (hb hby d14_144) rfl ?_
    exact k
  obtain ⟨y123, hy123⟩ : ∃ z : Int64, z = (if pi3 = (0 : Int32) then (0 : Int64) else (((-1 : Int64).toUInt64 >>> (((64 : Int32) - pi3) &&& 0x3f).toInt64.toUInt64).toInt64)) := ⟨_, rfl⟩
  have pre124 : ∀ t, Steps p.tables e below (T120.setTop (mkF m 162 #[(vr pa1), (vr pa2), (vi 3), (vi 1), (vi 0), (vi 0), (vr pa8), .val (.long ((pi11.toInt64) - (pi12.toInt64))), .second, (vi pi3)] [(.long y123), (.int 0), (.ref b63)])) t → Steps p.tables e below (s₁.setTop (entryFrame m #[(.ref pa1), (.ref pa2)] 10)) t := by
    intro t k
    rw [hy123] at k
    refine pre121 t ?_
    show Steps p.tables e below (T120.setTop (mkF m 146 #[(vr pa1), (vr pa2), (vi 3), (vi 1), (vi 0), (vi 0), (vr pa8), .val (.long ((pi11.toInt64) - (pi12.toInt64))), .second, (vi pi3)] [(.int pi3), (.int 0), (.ref b63)])) _
    rcases Decidable.em (pi3 = (0 : Int32)) with hm122 | hm122
    · first | simp only [if_pos hm122] at k | skip
      refine XS.ifNo X120.here hx rfl (hb hby d14_146) rfl ((if0 _ _).trans (teq hm122).2) ?_
      refine XS.lconst X120.here hx rfl (hb hby d14_149) ?_
      refine XS.goto X120.here hx rfl (pc0 := 150) (pc' := 162) rfl (hb hby d14_150) (by decide) (by decide) ?_
      exact k
    · first | simp only [if_neg hm122] at k | skip
      refine XS.ifYes X120.here hx rfl (pc0 := 146) (pc' := 153) rfl (hb hby d14_146) rfl ((if0 _ _).trans (feq hm122).2) (by decide) (by decide) ?_
      refine X120.ldc2Long hx hown (mvT hZ (ow hw 174 rfl)) (g := (mkF m 153 #[(vr pa1), (vr pa2), (vi 3), (vi 1), (vi 0), (vi 0), (vr pa8), .val (.long ((pi11.toInt64) - (pi12.toInt64))), .second, (vi pi3)] [(.int 0), (.ref b63)])) rfl (hb hby d14_153) _ ?_
      refine XS.bipush X120.here hx rfl (hb hby d14_156) ?_
      refine XS.iload X120.here hx rfl (hb hby d14_158) rfl ?_
      refine XS.isub X120.here hx rfl (hb hby d14_160) rfl ?_
      refine XS.lushr X120.here hx rfl (hb hby d14_161) rfl ?_
      exact k
  have hm125 : y123 = maskV pi3 := hy123
  have pre126 : ∀ t, Steps p.tables e below (T120.setTop (mkF m 162 #[(vr pa1), (vr pa2), (vi 3), (vi 1), (vi 0), (vi 0), (vr pa8), .val (.long ((pi11.toInt64) - (pi12.toInt64))), .second, (vi pi3)] [(.long (maskV pi3)), (.int 0), (.ref b63)])) t → Steps p.tables e below (s₁.setTop (entryFrame m #[(.ref pa1), (.ref pa2)] 10)) t := by
    intro t k
    refine pre124 t ?_
    rw [hm125]
    exact k
  have f127 : Arv Z h117 b63 k63 .long (3 : Int32) ([(.long 0), (.long 0), (.long 0)]) (.long 0) := ((((V63.other W87 (Ne.symm ne64)).other W107 (Ne.symm ne76)).other W112 (Ne.symm ne78)).other W117 (Ne.symm ne80))
  obtain ⟨cl128, Ar128, qc128, Sz128, Nn128, Ha128, Gg128⟩ := (id f127)
  have hin128 : ¬ ((0 : Int32) < 0 ∨ cl128.slots.size ≤ ((0 : Int32)).toNatClampNeg) := inb_of Sz128 ⟨by decide, by decide⟩
  obtain ⟨T128, h128, X128, e128, W128, st128⟩ := stJ X120 hx hZ e120 Ar128 (j := (0 : Int32)) hin128 (g := (mkF m 162 #[(vr pa1), (vr pa2), (vi 3), (vi 1), (vi 0), (vi 0), (vr pa8), .val (.long ((pi11.toInt64) - (pi12.toInt64))), .second, (vi pi3)] [(.long (maskV pi3)), (.int 0), (.ref b63)])) rfl rfl (hb hby d14_162)
  have O129 : Old Z n0 h128 := O118.wr W128 g82
  have K129 : Keep h0 h128 [pa1] := K118.wr W128 (Or.inr sz83)
  have V128 : Arv Z h128 b63 k63 .long (3 : Int32) ([(.long (maskV pi3)), (.long 0), (.long 0)]) (.long 0) := (Arv.set Ar128 qc128 Sz128 Nn128 Ha128 Gg128 (v := (.long (maskV pi3))) rfl W128 0 rfl (Nat.le_of_ble_eq_true rfl))
  have N128 := Fr.snoc X128 N117 g82
  have f130 : Exa Z h128 pa2 s2n := ((((f89.wr W107).wr W112).wr W117).wr W128)
  have f131 : Fld Z h128 pa2 s2n "elementData" s3n (.ref pa6) := ((((f90.other W107 (Or.inl ne5)).other W112 (Or.inl ne20)).other W117 (Or.inl ne42)).other W128 (Or.inl ne66))
  have f132 : Fld Z h128 pa2 s2n "size" "I" (.int 3) := ((((f91.other W107 (Or.inl ne5)).other W112 (Or.inl ne20)).other W117 (Or.inl ne42)).other W128 (Or.inl ne66))
  have f133 : Arv Z h128 pa6 pk7 (.object s4n) (10 : Int32) ([(.ref pa8), (.ref pa9), (.ref pa10), .null, .null, .null, .null, .null, .null, .null]) .null := ((((f92.other W107 ne6).other W112 ne22).other W117 ne44).other W128 ne68)
  obtain ⟨cq134, kq134, q134a, q134b, q134c⟩ := isOf hZ e128 f130
  obtain ⟨_, _, ⟨T134, L134, k134, n134⟩, -, X134, ⟨Lc134, hQ134, l134, y134, z134⟩, st134⟩ := X128.interfaceBack hx (xi := M23) (y := M18) hown (mvT hZ (ow hw 132 rfl)) (mvT hZ (ow hw 133 rfl)) (mvT hZ (ow hw 134 rfl)) (mvT hZ (ow hw 135 rfl)) (mvT hZ (ow hw 136 rfl)) (mvT hZ (ow hw 137 rfl)) (mvT hZ (ow hw 138 rfl)) (mvT hZ (ow hw 78 rfl)) (by decide) (backOf (W := 0) (au16_1 l Z a0 hw [] wINTEGER wDOUBLE wBOOLEAN wDEFAULTCAPACITY_EMPTY_ELEMENTDATA kwDEFAULTCAPACITY_EMPTY_ELEMENTDATA hS pa2 pa6 pk7 pa8 pa9 pa10 h128 n0 O129 f130 f131 f132 f133) hZ (ow hw 139 rfl) (ow hw 12 rfl) (by decide) (by decide)) q134a q134b q134c (g := (mkF m 56 #[(vr pa1), (vr pa2), (vi 3), (vi 1), .val (.int ((0 : Int32) + pi3)), (vi 1), (vr pa8), .val (.long ((pi11.toInt64) - (pi12.toInt64))), .second, (vi pi3)] [(.int 1), (.ref pa2)])) rfl (by rw [hml]; rfl) (Steps.refl _) (argsL := [(.int 1)]) (rest := []) (lenOf pd_12 rfl) rfl (by show 2 * 0 + _ ≤ _; exact Nat.le_of_eq rfl) (hb hby d14_56) (fun _ _ => ⟨rfl, e128, (by decide : 4 + 0 ≤ _), (by decide : 12 + 0 ≤ _)⟩)
  dsimp only [Pt.U, Pt.locs, Pt.cells, Pt.slots] at X134 l134 y134 z134 st134 hQ134
  subst y134 z134
  obtain ⟨rfl, Nq134, K134q⟩ := hQ134
  have N134 : Fr n0 L134 := (congrArg (Fr n0) l134).mpr (Fr.app N128 Nq134)
  have f135 : Exa Z h128 pa9 s6n := ((((((f73.ext E63).wr W87).wr W107).wr W112).wr W117).wr W128)
  obtain ⟨T136, X136, e136, st136⟩ := castY X134 hx hZ hown (ow hw 153 rfl) K134q (Ins.self f135) (g := (mkF m 61 #[(vr pa1), (vr pa2), (vi 3), (vi 1), .val (.int ((0 : Int32) + pi3)), (vi 1), (vr pa8), .val (.long ((pi11.toInt64) - (pi12.toInt64))), .second, (vi pi3)] [(.ref pa9)])) rfl rfl (hb hby d14_61)
  have f137 : Fld Z h128 pa9 s6n "high" "I" (.int pi14) := ((((((((((((P19.ext E3).other W15 (Or.inl (Ne.symm P50))).ext E17).other W37 (Or.inl (Ne.symm P50))).ext E39).other W61 (Or.inl (Ne.symm P50))).ext E63).other W87 (Or.inl (Ne.symm P50))).other W107 (Or.inl ne8)).other W112 (Or.inl ne26)).other W117 (Or.inl ne48)).other W128 (Or.inl ne72))
  obtain ⟨cq138, kq138, q138a, q138b, q138c⟩ := isOf hZ e136 f135
  obtain ⟨_, _, ⟨T138, L138, k138, n138⟩, -, X138, ⟨Lc138, hQ138, l138, y138, z138⟩, st138⟩ := X136.virtualBack hx (y := M19) (z := M19) hown (mvT hZ (ow hw 155 rfl)) (mvT hZ (ow hw 156 rfl)) (notFace_of_selects (args := #[]) (mvT hZ (ow hw 158 rfl))) (mvT hZ (ow hw 158 rfl)) (mvT hZ (ow hw 157 rfl)) (by decide) (backOf (W := 0) (au20_0 l Z a0 hw [] wINTEGER wDOUBLE wBOOLEAN wDEFAULTCAPACITY_EMPTY_ELEMENTDATA kwDEFAULTCAPACITY_EMPTY_ELEMENTDATA hS pa9 pi14 h128 n0 O129 f137) hZ (ow hw 159 rfl) (ow hw 38 rfl) (by decide) (by decide)) q138a q138c (g := (mkF m 68 #[(vr pa1), (vr pa2), (vi 3), (vi 1), .val (.int ((0 : Int32) + pi3)), (vi 1), (vr pa9), .val (.long ((pi11.toInt64) - (pi12.toInt64))), .second, (vi pi3)] [(.ref pa9)])) rfl (by rw [hml]; rfl) (Steps.refl _) (argsL := []) (rest := []) (lenOf pd_10 rfl) rfl (by show 2 * 0 + _ ≤ _; exact Nat.le_of_eq rfl) (hb hby d14_68) (fun _ _ => ⟨rfl, e136, (by decide : 4 + 0 ≤ _), (by decide : 12 + 0 ≤ _)⟩)
  dsimp only [Pt.U, Pt.locs, Pt.cells, Pt.slots] at X138 l138 y138 z138 st138 hQ138
  subst y138 z138
  obtain ⟨rfl, Nq138, K138q⟩ := hQ138
  have N138 : Fr n0 L138 := (congrArg (Fr n0) l138).mpr (Fr.app N134 Nq138)
  have f139 : Fld Z h128 pa9 s6n "low" "I" (.int pi15) := ((((((((((((P20.ext E3).other W15 (Or.inl (Ne.symm P50))).ext E17).other W37 (Or.inl (Ne.symm P50))).ext E39).other W61 (Or.inl (Ne.symm P50))).ext E63).other W87 (Or.inl (Ne.symm P50))).other W107 (Or.inl ne8)).other W112 (Or.inl ne26)).other W117 (Or.inl ne48)).other W128 (Or.inl ne72))
  obtain ⟨cq140, kq140, q140a, q140b, q140c⟩ := isOf hZ K138q f135
  obtain ⟨_, _, ⟨T140, L140, k140, n140⟩, -, X140, ⟨Lc140, hQ140, l140, y140, z140⟩, st140⟩ := X138.virtualBack hx (y := M20) (z := M20) hown (mvT hZ (ow hw 160 rfl)) (mvT hZ (ow hw 161 rfl)) (notFace_of_selects (args := #[]) (mvT hZ (ow hw 163 rfl))) (mvT hZ (ow hw 163 rfl)) (mvT hZ (ow hw 162 rfl)) (by decide) (backOf (W := 2) (au21_0 l Z a0 hw [] wINTEGER wDOUBLE wBOOLEAN wDEFAULTCAPACITY_EMPTY_ELEMENTDATA kwDEFAULTCAPACITY_EMPTY_ELEMENTDATA hS pa9 pi15 h128 n0 O129 f139) hZ (ow hw 164 rfl) (ow hw 38 rfl) (by decide) (by decide)) q140a q140c (g := (mkF m 74 #[(vr pa1), (vr pa2), (vi 3), (vi 1), .val (.int ((0 : Int32) + pi3)), (vi 1), (vr pa9), .val (.long ((pi11.toInt64) - (pi12.toInt64))), .second, (vi pi3)] [(.ref pa9), (.long (pi14.toInt64))])) rfl (by rw [hml]; rfl) (Steps.refl _) (argsL := []) (rest := [(.long (pi14.toInt64))]) (lenOf pd_10 rfl) rfl (by show 2 * 0 + _ ≤ _; exact Nat.le_of_eq rfl) (hb hby d14_74) (fun _ _ => ⟨rfl, K138q, (by decide : 4 + 0 ≤ _), (by decide : 12 + 0 ≤ _)⟩)
  dsimp only [Pt.U, Pt.locs, Pt.cells, Pt.slots] at X140 l140 y140 z140 st140 hQ140
  subst y140 z140
  obtain ⟨rfl, Nq140, K140q⟩ := hQ140
  have N140 : Fr n0 L140 := (congrArg (Fr n0) l140).mpr (Fr.app N138 Nq140)
  obtain ⟨_, _, ⟨T141, L141, k141, n141⟩, -, X141, ⟨Lc141, hQ141, l141, y141, z141⟩, st141⟩ := Jvm.LawKit.callS X140 hx (y := M4) hown (mvT hZ (ow hw 165 rfl)) (mvT hZ (ow hw 166 rfl)) (mvT hZ (ow hw 167 rfl)) (mvT hZ (ow hw 168 rfl)) (by decide) (backOf (W := 1) (rmNlz64 l Z a0 hw [] wINTEGER wDOUBLE wBOOLEAN wDEFAULTCAPACITY_EMPTY_ELEMENTDATA kwDEFAULTCAPACITY_EMPTY_ELEMENTDATA hS ((pi14.toInt64) - (pi15.toInt64)) h128 n0 O129 ) hZ (ow hw 168 rfl) (ow hw 167 rfl) (by decide) (by decide)) (g := (mkF m 85 #[(vr pa1), (vr pa2), (vi 3), (vi 1), .val (.int ((0 : Int32) + pi3)), (vi 1), (vr pa9), .val (.long ((pi14.toInt64) - (pi15.toInt64))), .second, (vi pi3)] [(.long ((pi14.toInt64) - (pi15.toInt64))), (.int 64)])) rfl (by rw [hml]; rfl) (argsL := [(.long ((pi14.toInt64) - (pi15.toInt64)))]) (rest := [(.int 64)]) (lenOf pd_13 rfl) rfl (by show 2 * 0 + _ ≤ _; exact Nat.le_of_eq rfl) (hb hby d14_85) (fun _ _ => ⟨rfl, K140q, (by decide : 4 + 0 ≤ _), (by decide : 12 + 0 ≤ _)⟩)
  dsimp only [Pt.U, Pt.locs, Pt.cells, Pt.slots] at X141 l141 y141 z141 st141 hQ141
  subst y141 z141
  obtain ⟨r_141, rfl, Nq141, K141q, p141_0⟩ := hQ141
  have N141 : Fr n0 L141 := (congrArg (Fr n0) l141).mpr (Fr.app N140 Nq141)
  have hb142 : ((64 : Int32) - r_141) = pi4 := by rw [p141_0]; exact P38
  have pre143 : ∀ t, Steps p.tables e below (T141.setTop (mkF m 89 #[(vr pa1), (vr pa2), (vi 3), (vi 1), .val (.int ((0 : Int32) + pi3)), (vi 1), (vr pa9), .val (.long ((pi14.toInt64) - (pi15.toInt64))), .second, (vi pi3)] [(.int pi4)])) t → Steps p.tables e below (s₁.setTop (entryFrame m #[(.ref pa1), (.ref pa2)] 10)) t := by
    intro t k
    refine pre126 t ?_
    show Steps p.tables e below (T120.setTop (mkF m 162 #[(vr pa1), (vr pa2), (vi 3), (vi 1), (vi 0), (vi 0), (vr pa8), .val (.long ((pi11.toInt64) - (pi12.toInt64))), .second, (vi pi3)] [(.long (maskV pi3)), (.int 0), (.ref b63)])) _
    refine st128 _ ?_
    refine XS.iload X128.here hx rfl (hb hby d14_163) rfl ?_
    refine XS.iload X128.here hx rfl (hb hby d14_165) rfl ?_
    refine XS.iadd X128.here hx rfl (hb hby d14_167) rfl ?_
    refine XS.istore X128.here hx rfl (hb hby d14_168) rfl (l' := #[(vr pa1), (vr pa2), (vi 3), (vi 1), .val (.int ((0 : Int32) + pi3)), (vi 0), (vr pa8), .val (.long ((pi11.toInt64) - (pi12.toInt64))), .second, (vi pi3)]) rfl ?_
    refine XS.iinc X128.here hx rfl (hb hby d14_170) rfl (l' := #[(vr pa1), (vr pa2), (vi 3), (vi 1), .val (.int ((0 : Int32) + pi3)), (vi 1), (vr pa8), .val (.long ((pi11.toInt64) - (pi12.toInt64))), .second, (vi pi3)]) rfl ?_
    show Steps p.tables e below (T128.setTop (mkF m 173 #[(vr pa1), (vr pa2), (vi 3), (vi 1), .val (.int ((0 : Int32) + pi3)), (vi 1), (vr pa8), .val (.long ((pi11.toInt64) - (pi12.toInt64))), .second, (vi pi3)] [])) _
    refine XS.goto X128.here hx rfl (pc0 := 173) (pc' := 47) rfl (hb hby d14_173) (by decide) (by decide) ?_
    refine XS.iload X128.here hx rfl (hb hby d14_47) rfl ?_
    refine XS.iloadN X128.here hx rfl (hb hby d14_49) rfl ?_
    refine XS.icmpNo X128.here hx rfl (hb hby d14_50) rfl (tlt (by decide : (1 : Int32) < (3 : Int32))).2.1 ?_
    refine XS.aloadN X128.here hx rfl (hb hby d14_53) rfl rfl ?_
    refine XS.iload X128.here hx rfl (hb hby d14_54) rfl ?_
    show Steps p.tables e below (T128.setTop (mkF m 56 #[(vr pa1), (vr pa2), (vi 3), (vi 1), .val (.int ((0 : Int32) + pi3)), (vi 1), (vr pa8), .val (.long ((pi11.toInt64) - (pi12.toInt64))), .second, (vi pi3)] [(.int 1), (.ref pa2)])) _
    refine st134.trans ?_
    refine st136 _ ?_
    refine XS.astore X136.here hx rfl (hb hby d14_64) rfl rfl (l' := #[(vr pa1), (vr pa2), (vi 3), (vi 1), .val (.int ((0 : Int32) + pi3)), (vi 1), (vr pa9), .val (.long ((pi11.toInt64) - (pi12.toInt64))), .second, (vi pi3)]) rfl ?_
    refine XS.aload X136.here hx rfl (hb hby d14_66) rfl rfl ?_
    refine st138.trans ?_
    refine XS.i2l X138.here hx rfl (hb hby d14_71) rfl ?_
    show Steps p.tables e below (T138.setTop (mkF m 72 #[(vr pa1), (vr pa2), (vi 3), (vi 1), .val (.int ((0 : Int32) + pi3)), (vi 1), (vr pa9), .val (.long ((pi11.toInt64) - (pi12.toInt64))), .second, (vi pi3)] [(.long (pi14.toInt64))])) _
    refine XS.aload X138.here hx rfl (hb hby d14_72) rfl rfl ?_
    refine st140.trans ?_
    refine XS.i2l X140.here hx rfl (hb hby d14_77) rfl ?_
    refine XS.lsub X140.here hx rfl (hb hby d14_78) rfl ?_
    refine XS.lstore X140.here hx rfl (hb hby d14_79) rfl (l' := #[(vr pa1), (vr pa2), (vi 3), (vi 1), .val (.int ((0 : Int32) + pi3)), (vi 1), (vr pa9), .val (.long ((pi14.toInt64) - (pi15.toInt64))), .second, (vi pi3)]) rfl ?_
    refine XS.bipush X140.here hx rfl (hb hby d14_81) ?_
    show Steps p.tables e below (T140.setTop (mkF m 83 #[(vr pa1), (vr pa2), (vi 3), (vi 1), .val (.int ((0 : Int32) + pi3)), (vi 1), (vr pa9), .val (.long ((pi14.toInt64) - (pi15.toInt64))), .second, (vi pi3)] [(.int 64)])) _
    refine XS.lload X140.here hx rfl (hb hby d14_83) rfl ?_
    refine st141 _ ?_
    refine XS.isub X141.here hx rfl (hb hby d14_88) rfl ?_
    rw [hb142]
    exact k
  have f144 : Fld Z h128 pa1 s9n "low" "[I" (.ref b3) := ((((f103.other W107 (Or.inl ne4)).other W112 (Or.inl ne18)).other W117 (Or.inl ne40)).other W128 (Or.inl ne64))
  obtain ⟨T145, X145, e145, st145⟩ := getF X141 hx hZ hown (host := "") (Or.inl (ow hw 123 rfl)) Via.refl K141q f144 (g := (mkF m 108 #[(vr pa1), (vr pa2), (vi 3), (vi 1), .val (.int ((0 : Int32) + pi3)), (vi 1), (vr pa9), .val (.long ((pi14.toInt64) - (pi15.toInt64))), .second, (vi pi4)] [(.ref pa1)])) rfl rfl (hb hby d14_108)
  obtain ⟨cq146, kq146, q146a, q146b, q146c⟩ := isOf hZ e145 f135
  obtain ⟨_, _, ⟨T146, L146, k146, n146⟩, -, X146, ⟨Lc146, hQ146, l146, y146, z146⟩, st146⟩ := X145.virtualBack hx (y := M20) (z := M20) hown (mvT hZ (ow hw 160 rfl)) (mvT hZ (ow hw 161 rfl)) (notFace_of_selects (args := #[]) (mvT hZ (ow hw 163 rfl))) (mvT hZ (ow hw 163 rfl)) (mvT hZ (ow hw 162 rfl)) (by decide) (backOf (W := 2) (au21_0 l Z a0 hw [] wINTEGER wDOUBLE wBOOLEAN wDEFAULTCAPACITY_EMPTY_ELEMENTDATA kwDEFAULTCAPACITY_EMPTY_ELEMENTDATA hS pa9 pi15 h128 n0 O129 f139) hZ (ow hw 164 rfl) (ow hw 38 rfl) (by decide) (by decide)) q146a q146c (g := (mkF m 115 #[(vr pa1), (vr pa2), (vi 3), (vi 1), .val (.int ((0 : Int32) + pi3)), (vi 1), (vr pa9), .val (.long ((pi14.toInt64) - (pi15.toInt64))), .second, (vi pi4)] [(.ref pa9), (.int 1), (.ref b3)])) rfl (by rw [hml]; rfl) (Steps.refl _) (argsL := []) (rest := [(.int 1), (.ref b3)]) (lenOf pd_10 rfl) rfl (by show 2 * 0 + _ ≤ _; exact Nat.le_of_eq rfl) (hb hby d14_115) (fun _ _ => ⟨rfl, e145, (by decide : 4 + 0 ≤ _), (by decide : 12 + 0 ≤ _)⟩)
  dsimp only [Pt.U, Pt.locs, Pt.cells, Pt.slots] at X146 l146 y146 z146 st146 hQ146
  subst y146 z146
  obtain ⟨rfl, Nq146, K146q⟩ := hQ146
  have N146 : Fr n0 L146 := (congrArg (Fr n0) l146).mpr (Fr.app N141 Nq146)
  have f147 : Arv Z h128 b3 k3 .int (3 : Int32) ([(.int pi12), (.int 0), (.int 0)]) (.int 0) := (((V107.other W112 ne30).other W117 ne52).other W128 ne76)
  obtain ⟨cl148, Ar148, qc148, Sz148, Nn148, Ha148, Gg148⟩ := (id f147)
  have hin148 : ¬ ((1 : Int32) < 0 ∨ cl148.slots.size ≤ ((1 : Int32)).toNatClampNeg) := inb_of Sz148 ⟨by decide, by decide⟩
  obtain ⟨T148, h148, X148, e148, W148, st148⟩ := stI X146 hx hZ K146q Ar148 (j := (1 : Int32)) hin148 (g := (mkF m 118 #[(vr pa1), (vr pa2), (vi 3), (vi 1), .val (.int ((0 : Int32) + pi3)), (vi 1), (vr pa9), .val (.long ((pi14.toInt64) - (pi15.toInt64))), .second, (vi pi4)] [(.int pi15), (.int 1), (.ref b3)])) rfl rfl (hb hby d14_118)
  have O149 : Old Z n0 h148 := O129.wr W148 g10
  have K149 : Keep h0 h148 [pa1] := K129.wr W148 (Or.inr sz11)
  have V148 : Arv Z h148 b3 k3 .int (3 : Int32) ([(.int pi12), (.int pi15), (.int 0)]) (.int 0) := (Arv.set Ar148 qc148 Sz148 Nn148 Ha148 Gg148 (v := (.int pi15)) rfl W148 1 rfl (Nat.le_of_ble_eq_true rfl))
  have N148 := Fr.snoc X148 N146 g10
  have f150 : Fld Z h148 pa1 s9n "word" "[I" (.ref b17) := ((((f109.other W112 (Or.inl ne18)).other W117 (Or.inl ne40)).other W128 (Or.inl ne64)).other W148 (Or.inl ne4))
  obtain ⟨T151, X151, e151, st151⟩ := getF X148 hx hZ hown (host := "") (Or.inl (ow hw 125 rfl)) Via.refl e148 f150 (g := (mkF m 120 #[(vr pa1), (vr pa2), (vi 3), (vi 1), .val (.int ((0 : Int32) + pi3)), (vi 1), (vr pa9), .val (.long ((pi14.toInt64) - (pi15.toInt64))), .second, (vi pi4)] [(.ref pa1)])) rfl rfl (hb hby d14_120)
  have f152 : Arv Z h148 b17 k17 .int (3 : Int32) ([(.int 0), (.int 0), (.int 0)]) (.int 0) := (((V112.other W117 ne54).other W128 ne78).other W148 (Ne.symm ne30))
  obtain ⟨cl153, Ar153, qc153, Sz153, Nn153, Ha153, Gg153⟩ := (id f152)
  have hin153 : ¬ ((1 : Int32) < 0 ∨ cl153.slots.size ≤ ((1 : Int32)).toNatClampNeg) := inb_of Sz153 ⟨by decide, by decide⟩
  obtain ⟨T153, h153, X153, e153, W153, st153⟩ := stI X151 hx hZ e151 Ar153 (j := (1 : Int32)) hin153 (g := (mkF m 128 #[(vr pa1), (vr pa2), (vi 3), (vi 1), .val (.int ((0 : Int32) + pi3)), (vi 1), (vr pa9), .val (.long ((pi14.toInt64) - (pi15.toInt64))), .second, (vi pi4)] [(.int 0), (.int 1), (.ref b17)])) rfl rfl (hb hby d14_128)
  have O154 : Old Z n0 h153 := O149.wr W153 g32
  have K154 : Keep h0 h153 [pa1] := K149.wr W153 (Or.inr sz33)
  have V153 : Arv Z h153 b17 k17 .int (3 : Int32) ([(.int 0), (.int 0), (.int 0)]) (.int 0) := (Arv.set Ar153 qc153 Sz153 Nn153 Ha153 Gg153 (v := (.int 0)) rfl W153 1 rfl (Nat.le_of_ble_eq_true rfl))
  have N153 := Fr.snoc X153 N148 g32
  have f155 : Fld Z h153 pa1 s9n "shift" "[I" (.ref b39) := ((((f114.other W117 (Or.inl ne40)).other W128 (Or.inl ne64)).other W148 (Or.inl ne4)).other W153 (Or.inl ne18))
  obtain ⟨T156, X156, e156, st156⟩ := getF X153 hx hZ hown (host := "") (Or.inl (ow hw 127 rfl)) Via.refl e153 f155 (g := (mkF m 130 #[(vr pa1), (vr pa2), (vi 3), (vi 1), .val (.int ((0 : Int32) + pi3)), (vi 1), (vr pa9), .val (.long ((pi14.toInt64) - (pi15.toInt64))), .second, (vi pi4)] [(.ref pa1)])) rfl rfl (hb hby d14_130)
  have f157 : Arv Z h153 b39 k39 .int (3 : Int32) ([(.int 0), (.int 0), (.int 0)]) (.int 0) := (((V117.other W128 ne80).other W148 (Ne.symm ne52)).other W153 (Ne.symm ne54))
  obtain ⟨cl158, Ar158, qc158, Sz158, Nn158, Ha158, Gg158⟩ := (id f157)
  have hin158 : ¬ ((1 : Int32) < 0 ∨ cl158.slots.size ≤ ((1 : Int32)).toNatClampNeg) := inb_of Sz158 ⟨by decide, by decide⟩
  obtain ⟨T158, h158, X158, e158, W158, st158⟩ := stI X156 hx hZ e156 Ar158 (j := (1 : Int32)) hin158 (g := (mkF m 137 #[(vr pa1), (vr pa2), (vi 3), (vi 1), .val (.int ((0 : Int32) + pi3)), (vi 1), (vr pa9), .val (.long ((pi14.toInt64) - (pi15.toInt64))), .second, (vi pi4)] [(.int ((0 : Int32) + pi3)), (.int 1), (.ref b39)])) rfl rfl (hb hby d14_137)
  have O159 : Old Z n0 h158 := O154.wr W158 g56
  have K159 : Keep h0 h158 [pa1] := K154.wr W158 (Or.inr sz57)
  have V158 : Arv Z h158 b39 k39 .int (3 : Int32) ([(.int 0), (.int ((0 : Int32) + pi3)), (.int 0)]) (.int 0) := (Arv.set Ar158 qc158 Sz158 Nn158 Ha158 Gg158 (v := (.int ((0 : Int32) + pi3))) rfl W158 1 rfl (Nat.le_of_ble_eq_true rfl))
  have N158 := Fr.snoc X158 N153 g56
  have f160 : Fld Z h158 pa1 s9n "mask" "[J" (.ref b63) := ((((f119.other W128 (Or.inl ne64)).other W148 (Or.inl ne4)).other W153 (Or.inl ne18)).other W158 (Or.inl ne40))
  obtain ⟨T161, X161, e161, st161⟩ := getF X158 hx hZ hown (host := "") (Or.inl (ow hw 130 rfl)) Via.refl e158 f160 (g := (mkF m 139 #[(vr pa1), (vr pa2), (vi 3), (vi 1), .val (.int ((0 : Int32) + pi3)), (vi 1), (vr pa9), .val (.long ((pi14.toInt64) - (pi15.toInt64))), .second, (vi pi4)] [(.ref pa1)])) rfl rfl (hb hby d14_139)
  have pre162 : ∀ t, Steps p.tables e below (T161.setTop (mkF m 146 #[(vr pa1), (vr pa2), (vi 3), (vi 1), .val (.int ((0 : Int32) + pi3)), (vi 1), (vr pa9), .val (.long ((pi14.toInt64) - (pi15.toInt64))), .second, (vi pi4)] [(.int pi4), (.int 1), (.ref b63)])) t → Steps p.tables e below (s₁.setTop (entryFrame m #[(.ref pa1), (.ref pa2)] 10)) t := by
    intro t k
    refine pre143 t ?_
    show Steps p.tables e below (T141.setTop (mkF m 89 #[(vr pa1), (vr pa2), (vi 3), (vi 1), .val (.int ((0 : Int32) + pi3)), (vi 1), (vr pa9), .val (.long ((pi14.toInt64) - (pi15.toInt64))), .second, (vi pi3)] [(.int pi4)])) _
    refine XS.istore X141.here hx rfl (hb hby d14_89) rfl (l' := #[(vr pa1), (vr pa2), (vi 3), (vi 1), .val (.int ((0 : Int32) + pi3)), (vi 1), (vr pa9), .val (.long ((pi14.toInt64) - (pi15.toInt64))), .second, (vi pi4)]) rfl ?_
    refine XS.iload X141.here hx rfl (hb hby d14_91) rfl ?_
    refine XS.iload X141.here hx rfl (hb hby d14_93) rfl ?_
    refine XS.iadd X141.here hx rfl (hb hby d14_95) rfl ?_
    refine XS.bipush X141.here hx rfl (hb hby d14_96) ?_
    refine XS.icmpYes X141.here hx rfl (pc0 := 98) (pc' := 107) rfl (hb hby d14_98) rfl (flt (P32 : ¬ ((64 : Int32) < (((0 : Int32) + pi3) + pi4)))).2.2.2 (by decide) (by decide) ?_
    show Steps p.tables e below (T141.setTop (mkF m 107 #[(vr pa1), (vr pa2), (vi 3), (vi 1), .val (.int ((0 : Int32) + pi3)), (vi 1), (vr pa9), .val (.long ((pi14.toInt64) - (pi15.toInt64))), .second, (vi pi4)] [])) _
    refine XS.aloadN X141.here hx rfl (hb hby d14_107) rfl rfl ?_
    refine st145 _ ?_
    refine XS.iload X145.here hx rfl (hb hby d14_111) rfl ?_
    refine XS.aload X145.here hx rfl (hb hby d14_113) rfl rfl ?_
    refine st146.trans ?_
    refine st148 _ ?_
    show Steps p.tables e below (T148.setTop (mkF m 119 #[(vr pa1), (vr pa2), (vi 3), (vi 1), .val (.int ((0 : Int32) + pi3)), (vi 1), (vr pa9), .val (.long ((pi14.toInt64) - (pi15.toInt64))), .second, (vi pi4)] [])) _
    refine XS.aloadN X148.here hx rfl (hb hby d14_119) rfl rfl ?_
    refine st151 _ ?_
    refine XS.iload X151.here hx rfl (hb hby d14_123) rfl ?_
    refine XS.iloadN X151.here hx rfl (hb hby d14_125) rfl ?_
    refine XS.iconst X151.here hx rfl (hb hby d14_126) ?_
    refine XS.isub X151.here hx rfl (hb hby d14_127) rfl ?_
    show Steps p.tables e below (T151.setTop (mkF m 128 #[(vr pa1), (vr pa2), (vi 3), (vi 1), .val (.int ((0 : Int32) + pi3)), (vi 1), (vr pa9), .val (.long ((pi14.toInt64) - (pi15.toInt64))), .second, (vi pi4)] [(.int 0), (.int 1), (.ref b17)])) _
    refine st153 _ ?_
    refine XS.aloadN X153.here hx rfl (hb hby d14_129) rfl rfl ?_
    refine st156 _ ?_
    refine XS.iload X156.here hx rfl (hb hby d14_133) rfl ?_
    refine XS.iload X156.here hx rfl (hb hby d14_135) rfl ?_
    refine st158 _ ?_
    show Steps p.tables e below (T158.setTop (mkF m 138 #[(vr pa1), (vr pa2), (vi 3), (vi 1), .val (.int ((0 : Int32) + pi3)), (vi 1), (vr pa9), .val (.long ((pi14.toInt64) - (pi15.toInt64))), .second, (vi pi4)] [])) _
    refine XS.aloadN X158.here hx rfl (hb hby d14_138) rfl rfl ?_
    refine st161 _ ?_
    refine XS.iload X161.here hx rfl (hb hby d14_142) rfl ?_
    refine XS.iload X161.here hx rfl (hb hby d14_144) rfl ?_
    exact k
  obtain ⟨y164, hy164⟩ : ∃ z : Int64, z = (if pi4 = (0 : Int32) then (0 : Int64) else (((-1 : Int64).toUInt64 >>> (((64 : Int32) - pi4) &&& 0x3f).toInt64.toUInt64).toInt64)) := ⟨_, rfl⟩
  have pre165 : ∀ t, Steps p.tables e below (T161.setTop (mkF m 162 #[(vr pa1), (vr pa2), (vi 3), (vi 1), .val (.int ((0 : Int32) + pi3)), (vi 1), (vr pa9), .val (.long ((pi14.toInt64) - (pi15.toInt64))), .second, (vi pi4)] [(.long y164), (.int 1), (.ref b63)])) t → Steps p.tables e below (s₁.setTop (entryFrame m #[(.ref pa1), (.ref pa2)] 10)) t := by
    intro t k
    rw [hy164] at k
    refine pre162 t ?_
    show Steps p.tables e below (T161.setTop (mkF m 146 #[(vr pa1), (vr pa2), (vi 3), (vi 1), .val (.int ((0 : Int32) + pi3)), (vi 1), (vr pa9), .val (.long ((pi14.toInt64) - (pi15.toInt64))), .second, (vi pi4)] [(.int pi4), (.int 1), (.ref b63)])) _
    rcases Decidable.em (pi4 = (0 : Int32)) with hm163 | hm163
    · first | simp only [if_pos hm163] at k | skip
      refine XS.ifNo X161.here hx rfl (hb hby d14_146) rfl ((if0 _ _).trans (teq hm163).2) ?_
      refine XS.lconst X161.here hx rfl (hb hby d14_149) ?_
      refine XS.goto X161.here hx rfl (pc0 := 150) (pc' := 162) rfl (hb hby d14_150) (by decide) (by decide) ?_
      exact k
    · first | simp only [if_neg hm163] at k | skip
      refine XS.ifYes X161.here hx rfl (pc0 := 146) (pc' := 153) rfl (hb hby d14_146) rfl ((if0 _ _).trans (feq hm163).2) (by decide) (by decide) ?_
      refine X161.ldc2Long hx hown (mvT hZ (ow hw 174 rfl)) (g := (mkF m 153 #[(vr pa1), (vr pa2), (vi 3), (vi 1), .val (.int ((0 : Int32) + pi3)), (vi 1), (vr pa9), .val (.long ((pi14.toInt64) - (pi15.toInt64))), .second, (vi pi4)] [(.int 1), (.ref b63)])) rfl (hb hby d14_153) _ ?_
      refine XS.bipush X161.here hx rfl (hb hby d14_156) ?_
      refine XS.iload X161.here hx rfl (hb hby d14_158) rfl ?_
      refine XS.isub X161.here hx rfl (hb hby d14_160) rfl ?_
      refine XS.lushr X161.here hx rfl (hb hby d14_161) rfl ?_
      exact k
  have hm166 : y164 = maskV pi4 := hy164
  have pre167 : ∀ t, Steps p.tables e below (T161.setTop (mkF m 162 #[(vr pa1), (vr pa2), (vi 3), (vi 1), .val (.int ((0 : Int32) + pi3)), (vi 1), (vr pa9), .val (.long ((pi14.toInt64) - (pi15.toInt64))), .second, (vi pi4)] [(.long (maskV pi4)), (.int 1), (.ref b63)])) t → Steps p.tables e below (s₁.setTop (entryFrame m #[(.ref pa1), (.ref pa2)] 10)) t := by
    intro t k
    refine pre165 t ?_
    rw [hm166]
    exact k
  have f168 : Arv Z h158 b63 k63 .long (3 : Int32) ([(.long (maskV pi3)), (.long 0), (.long 0)]) (.long 0) := (((V128.other W148 (Ne.symm ne76)).other W153 (Ne.symm ne78)).other W158 (Ne.symm ne80))
  obtain ⟨cl169, Ar169, qc169, Sz169, Nn169, Ha169, Gg169⟩ := (id f168)
  have hin169 : ¬ ((1 : Int32) < 0 ∨ cl169.slots.size ≤ ((1 : Int32)).toNatClampNeg) := inb_of Sz169 ⟨by decide, by decide⟩
  obtain ⟨T169, h169, X169, e169, W169, st169⟩ := stJ X161 hx hZ e161 Ar169 (j := (1 : Int32)) hin169 (g := (mkF m 162 #[(vr pa1), (vr pa2), (vi 3), (vi 1), .val (.int ((0 : Int32) + pi3)), (vi 1), (vr pa9), .val (.long ((pi14.toInt64) - (pi15.toInt64))), .second, (vi pi4)] [(.long (maskV pi4)), (.int 1), (.ref b63)])) rfl rfl (hb hby d14_162)
  have O170 : Old Z n0 h169 := O159.wr W169 g82
  have K170 : Keep h0 h169 [pa1] := K159.wr W169 (Or.inr sz83)
  have V169 : Arv Z h169 b63 k63 .long (3 : Int32) ([(.long (maskV pi3)), (.long (maskV pi4)), (.long 0)]) (.long 0) := (Arv.set Ar169 qc169 Sz169 Nn169 Ha169 Gg169 (v := (.long (maskV pi4))) rfl W169 1 rfl (Nat.le_of_ble_eq_true rfl))
  have N169 := Fr.snoc X169 N158 g82
  have f171 : Exa Z h169 pa2 s2n := ((((f130.wr W148).wr W153).wr W158).wr W169)
  have f172 : Fld Z h169 pa2 s2n "elementData" s3n (.ref pa6) := ((((f131.other W148 (Or.inl ne5)).other W153 (Or.inl ne20)).other W158 (Or.inl ne42)).other W169 (Or.inl ne66))
  have f173 : Fld Z h169 pa2 s2n "size" "I" (.int 3) := ((((f132.other W148 (Or.inl ne5)).other W153 (Or.inl ne20)).other W158 (Or.inl ne42)).other W169 (Or.inl ne66))
  have f174 : Arv Z h169 pa6 pk7 (.object s4n) (10 : Int32) ([(.ref pa8), (.ref pa9), (.ref pa10), .null, .null, .null, .null, .null, .null, .null]) .null := ((((f133.other W148 ne6).other W153 ne22).other W158 ne44).other W169 ne68)
  obtain ⟨cq175, kq175, q175a, q175b, q175c⟩ := isOf hZ e169 f171
  obtain ⟨_, _, ⟨T175, L175, k175, n175⟩, -, X175, ⟨Lc175, hQ175, l175, y175, z175⟩, st175⟩ := X169.interfaceBack hx (xi := M23) (y := M18) hown (mvT hZ (ow hw 132 rfl)) (mvT hZ (ow hw 133 rfl)) (mvT hZ (ow hw 134 rfl)) (mvT hZ (ow hw 135 rfl)) (mvT hZ (ow hw 136 rfl)) (mvT hZ (ow hw 137 rfl)) (mvT hZ (ow hw 138 rfl)) (mvT hZ (ow hw 78 rfl)) (by decide) (backOf (W := 0) (au16_2 l Z a0 hw [] wINTEGER wDOUBLE wBOOLEAN wDEFAULTCAPACITY_EMPTY_ELEMENTDATA kwDEFAULTCAPACITY_EMPTY_ELEMENTDATA hS pa2 pa6 pk7 pa8 pa9 pa10 h169 n0 O170 f171 f172 f173 f174) hZ (ow hw 139 rfl) (ow hw 12 rfl) (by decide) (by decide)) q175a q175b q175c (g := (mkF m 56 #[(vr pa1), (vr pa2), (vi 3), (vi 1), .val (.int (((0 : Int32) + pi3) + pi4)), (vi 2), (vr pa9), .val (.long ((pi14.toInt64) - (pi15.toInt64))), .second, (vi pi4)] [(.int 2), (.ref pa2)])) rfl (by rw [hml]; rfl) (Steps.refl _) (argsL := [(.int 2)]) (rest := []) (lenOf pd_12 rfl) rfl (by show 2 * 0 + _ ≤ _; exact Nat.le_of_eq rfl) (hb hby d14_56) (fun _ _ => ⟨rfl, e169, (by decide : 4 + 0 ≤ _), (by decide : 12 + 0 ≤ _)⟩)
  dsimp only [Pt.U, Pt.locs, Pt.cells, Pt.slots] at X175 l175 y175 z175 st175 hQ175
  subst y175 z175
  obtain ⟨rfl, Nq175, K175q⟩ := hQ175
  have N175 : Fr n0 L175 := (congrArg (Fr n0) l175).mpr (Fr.app N169 Nq175)
  have f176 : Exa Z h169 pa10 s6n := ((((((((((f75.ext E63).wr W87).wr W107).wr W112).wr W117).wr W128).wr W148).wr W153).wr W158).wr W169)
  obtain ⟨T177, X177, e177, st177⟩ := castY X175 hx hZ hown (ow hw 153 rfl) K175q (Ins.self f176) (g := (mkF m 61 #[(vr pa1), (vr pa2), (vi 3), (vi 1), .val (.int (((0 : Int32) + pi3) + pi4)), (vi 2), (vr pa9), .val (.long ((pi14.toInt64) - (pi15.toInt64))), .second, (vi pi4)] [(.ref pa10)])) rfl rfl (hb hby d14_61)
  have f178 : Fld Z h169 pa10 s6n "high" "I" (.int pi17) := ((((((((((((((((P24.ext E3).other W15 (Or.inl (Ne.symm P51))).ext E17).other W37 (Or.inl (Ne.symm P51))).ext E39).other W61 (Or.inl (Ne.symm P51))).ext E63).other W87 (Or.inl (Ne.symm P51))).other W107 (Or.inl ne9)).other W112 (Or.inl ne28)).other W117 (Or.inl ne50)).other W128 (Or.inl ne74)).other W148 (Or.inl ne9)).other W153 (Or.inl ne28)).other W158 (Or.inl ne50)).other W169 (Or.inl ne74))
  obtain ⟨cq179, kq179, q179a, q179b, q179c⟩ := isOf hZ e177 f176
  obtain ⟨_, _, ⟨T179, L179, k179, n179⟩, -, X179, ⟨Lc179, hQ179, l179, y179, z179⟩, st179⟩ := X177.virtualBack hx (y := M19) (z := M19) hown (mvT hZ (ow hw 155 rfl)) (mvT hZ (ow hw 156 rfl)) (notFace_of_selects (args := #[]) (mvT hZ (ow hw 158 rfl))) (mvT hZ (ow hw 158 rfl)) (mvT hZ (ow hw 157 rfl)) (by decide) (backOf (W := 0) (au20_0 l Z a0 hw [] wINTEGER wDOUBLE wBOOLEAN wDEFAULTCAPACITY_EMPTY_ELEMENTDATA kwDEFAULTCAPACITY_EMPTY_ELEMENTDATA hS pa10 pi17 h169 n0 O170 f178) hZ (ow hw 159 rfl) (ow hw 38 rfl) (by decide) (by decide)) q179a q179c (g := (mkF m 68 #[(vr pa1), (vr pa2), (vi 3), (vi 1), .val (.int (((0 : Int32) + pi3) + pi4)), (vi 2), (vr pa10), .val (.long ((pi14.toInt64) - (pi15.toInt64))), .second, (vi pi4)] [(.ref pa10)])) rfl (by rw [hml]; rfl) (Steps.refl _) (argsL := []) (rest := []) (lenOf pd_10 rfl) rfl (by show 2 * 0 + _ ≤ _; exact Nat.le_of_eq rfl) (hb hby d14_68) (fun _ _ => ⟨rfl, e177, (by decide : 4 + 0 ≤ _), (by decide : 12 + 0 ≤ _)⟩)
  dsimp only [Pt.U, Pt.locs, Pt.cells, Pt.slots] at X179 l179 y179 z179 st179 hQ179
  subst y179 z179
  obtain ⟨rfl, Nq179, K179q⟩ := hQ179
  have N179 : Fr n0 L179 := (congrArg (Fr n0) l179).mpr (Fr.app N175 Nq179)
  have f180 : Fld Z h169 pa10 s6n "low" "I" (.int pi18) := ((((((((((((((((P25.ext E3).other W15 (Or.inl (Ne.symm P51))).ext E17).other W37 (Or.inl (Ne.symm P51))).ext E39).other W61 (Or.inl (Ne.symm P51))).ext E63).other W87 (Or.inl (Ne.symm P51))).other W107 (Or.inl ne9)).other W112 (Or.inl ne28)).other W117 (Or.inl ne50)).other W128 (Or.inl ne74)).other W148 (Or.inl ne9)).other W153 (Or.inl ne28)).other W158 (Or.inl ne50)).other W169 (Or.inl ne74))
  obtain ⟨cq181, kq181, q181a, q181b, q181c⟩ := isOf hZ K179q f176
  obtain ⟨_, _, ⟨T181, L181, k181, n181⟩, -, X181, ⟨Lc181, hQ181, l181, y181, z181⟩, st181⟩ := X179.virtualBack hx (y := M20) (z := M20) hown (mvT hZ (ow hw 160 rfl)) (mvT hZ (ow hw 161 rfl)) (notFace_of_selects (args := #[]) (mvT hZ (ow hw 163 rfl))) (mvT hZ (ow hw 163 rfl)) (mvT hZ (ow hw 162 rfl)) (by decide) (backOf (W := 2) (au21_0 l Z a0 hw [] wINTEGER wDOUBLE wBOOLEAN wDEFAULTCAPACITY_EMPTY_ELEMENTDATA kwDEFAULTCAPACITY_EMPTY_ELEMENTDATA hS pa10 pi18 h169 n0 O170 f180) hZ (ow hw 164 rfl) (ow hw 38 rfl) (by decide) (by decide)) q181a q181c (g := (mkF m 74 #[(vr pa1), (vr pa2), (vi 3), (vi 1), .val (.int (((0 : Int32) + pi3) + pi4)), (vi 2), (vr pa10), .val (.long ((pi14.toInt64) - (pi15.toInt64))), .second, (vi pi4)] [(.ref pa10), (.long (pi17.toInt64))])) rfl (by rw [hml]; rfl) (Steps.refl _) (argsL := []) (rest := [(.long (pi17.toInt64))]) (lenOf pd_10 rfl) rfl (by show 2 * 0 + _ ≤ _; exact Nat.le_of_eq rfl) (hb hby d14_74) (fun _ _ => ⟨rfl, K179q, (by decide : 4 + 0 ≤ _), (by decide : 12 + 0 ≤ _)⟩)
  dsimp only [Pt.U, Pt.locs, Pt.cells, Pt.slots] at X181 l181 y181 z181 st181 hQ181
  subst y181 z181
  obtain ⟨rfl, Nq181, K181q⟩ := hQ181
  have N181 : Fr n0 L181 := (congrArg (Fr n0) l181).mpr (Fr.app N179 Nq181)
  obtain ⟨_, _, ⟨T182, L182, k182, n182⟩, -, X182, ⟨Lc182, hQ182, l182, y182, z182⟩, st182⟩ := Jvm.LawKit.callS X181 hx (y := M4) hown (mvT hZ (ow hw 165 rfl)) (mvT hZ (ow hw 166 rfl)) (mvT hZ (ow hw 167 rfl)) (mvT hZ (ow hw 168 rfl)) (by decide) (backOf (W := 1) (rmNlz64 l Z a0 hw [] wINTEGER wDOUBLE wBOOLEAN wDEFAULTCAPACITY_EMPTY_ELEMENTDATA kwDEFAULTCAPACITY_EMPTY_ELEMENTDATA hS ((pi17.toInt64) - (pi18.toInt64)) h169 n0 O170 ) hZ (ow hw 168 rfl) (ow hw 167 rfl) (by decide) (by decide)) (g := (mkF m 85 #[(vr pa1), (vr pa2), (vi 3), (vi 1), .val (.int (((0 : Int32) + pi3) + pi4)), (vi 2), (vr pa10), .val (.long ((pi17.toInt64) - (pi18.toInt64))), .second, (vi pi4)] [(.long ((pi17.toInt64) - (pi18.toInt64))), (.int 64)])) rfl (by rw [hml]; rfl) (argsL := [(.long ((pi17.toInt64) - (pi18.toInt64)))]) (rest := [(.int 64)]) (lenOf pd_13 rfl) rfl (by show 2 * 0 + _ ≤ _; exact Nat.le_of_eq rfl) (hb hby d14_85) (fun _ _ => ⟨rfl, K181q, (by decide : 4 + 0 ≤ _), (by decide : 12 + 0 ≤ _)⟩)
  dsimp only [Pt.U, Pt.locs, Pt.cells, Pt.slots] at X182 l182 y182 z182 st182 hQ182
  subst y182 z182
  obtain ⟨r_182, rfl, Nq182, K182q, p182_0⟩ := hQ182
  have N182 : Fr n0 L182 := (congrArg (Fr n0) l182).mpr (Fr.app N181 Nq182)
  have hb183 : ((64 : Int32) - r_182) = pi5 := by rw [p182_0]; exact P40
  have pre184 : ∀ t, Steps p.tables e below (T182.setTop (mkF m 89 #[(vr pa1), (vr pa2), (vi 3), (vi 1), .val (.int (((0 : Int32) + pi3) + pi4)), (vi 2), (vr pa10), .val (.long ((pi17.toInt64) - (pi18.toInt64))), .second, (vi pi4)] [(.int pi5)])) t → Steps p.tables e below (s₁.setTop (entryFrame m #[(.ref pa1), (.ref pa2)] 10)) t := by
    intro t k
    refine pre167 t ?_
    show Steps p.tables e below (T161.setTop (mkF m 162 #[(vr pa1), (vr pa2), (vi 3), (vi 1), .val (.int ((0 : Int32) + pi3)), (vi 1), (vr pa9), .val (.long ((pi14.toInt64) - (pi15.toInt64))), .second, (vi pi4)] [(.long (maskV pi4)), (.int 1), (.ref b63)])) _
    refine st169 _ ?_
    refine XS.iload X169.here hx rfl (hb hby d14_163) rfl ?_
    refine XS.iload X169.here hx rfl (hb hby d14_165) rfl ?_
    refine XS.iadd X169.here hx rfl (hb hby d14_167) rfl ?_
    refine XS.istore X169.here hx rfl (hb hby d14_168) rfl (l' := #[(vr pa1), (vr pa2), (vi 3), (vi 1), .val (.int (((0 : Int32) + pi3) + pi4)), (vi 1), (vr pa9), .val (.long ((pi14.toInt64) - (pi15.toInt64))), .second, (vi pi4)]) rfl ?_
    refine XS.iinc X169.here hx rfl (hb hby d14_170) rfl (l' := #[(vr pa1), (vr pa2), (vi 3), (vi 1), .val (.int (((0 : Int32) + pi3) + pi4)), (vi 2), (vr pa9), .val (.long ((pi14.toInt64) - (pi15.toInt64))), .second, (vi pi4)]) rfl ?_
    show Steps p.tables e below (T169.setTop (mkF m 173 #[(vr pa1), (vr pa2), (vi 3), (vi 1), .val (.int (((0 : Int32) + pi3) + pi4)), (vi 2), (vr pa9), .val (.long ((pi14.toInt64) - (pi15.toInt64))), .second, (vi pi4)] [])) _
    refine XS.goto X169.here hx rfl (pc0 := 173) (pc' := 47) rfl (hb hby d14_173) (by decide) (by decide) ?_
    refine XS.iload X169.here hx rfl (hb hby d14_47) rfl ?_
    refine XS.iloadN X169.here hx rfl (hb hby d14_49) rfl ?_
    refine XS.icmpNo X169.here hx rfl (hb hby d14_50) rfl (tlt (by decide : (2 : Int32) < (3 : Int32))).2.1 ?_
    refine XS.aloadN X169.here hx rfl (hb hby d14_53) rfl rfl ?_
    refine XS.iload X169.here hx rfl (hb hby d14_54) rfl ?_
    show Steps p.tables e below (T169.setTop (mkF m 56 #[(vr pa1), (vr pa2), (vi 3), (vi 1), .val (.int (((0 : Int32) + pi3) + pi4)), (vi 2), (vr pa9), .val (.long ((pi14.toInt64) - (pi15.toInt64))), .second, (vi pi4)] [(.int 2), (.ref pa2)])) _
    refine st175.trans ?_
    refine st177 _ ?_
    refine XS.astore X177.here hx rfl (hb hby d14_64) rfl rfl (l' := #[(vr pa1), (vr pa2), (vi 3), (vi 1), .val (.int (((0 : Int32) + pi3) + pi4)), (vi 2), (vr pa10), .val (.long ((pi14.toInt64) - (pi15.toInt64))), .second, (vi pi4)]) rfl ?_
    refine XS.aload X177.here hx rfl (hb hby d14_66) rfl rfl ?_
    refine st179.trans ?_
    refine XS.i2l X179.here hx rfl (hb hby d14_71) rfl ?_
    show Steps p.tables e below (T179.setTop (mkF m 72 #[(vr pa1), (vr pa2), (vi 3), (vi 1), .val (.int (((0 : Int32) + pi3) + pi4)), (vi 2), (vr pa10), .val (.long ((pi14.toInt64) - (pi15.toInt64))), .second, (vi pi4)] [(.long (pi17.toInt64))])) _
    refine XS.aload X179.here hx rfl (hb hby d14_72) rfl rfl ?_
    refine st181.trans ?_
    refine XS.i2l X181.here hx rfl (hb hby d14_77) rfl ?_
    refine XS.lsub X181.here hx rfl (hb hby d14_78) rfl ?_
    refine XS.lstore X181.here hx rfl (hb hby d14_79) rfl (l' := #[(vr pa1), (vr pa2), (vi 3), (vi 1), .val (.int (((0 : Int32) + pi3) + pi4)), (vi 2), (vr pa10), .val (.long ((pi17.toInt64) - (pi18.toInt64))), .second, (vi pi4)]) rfl ?_
    refine XS.bipush X181.here hx rfl (hb hby d14_81) ?_
    show Steps p.tables e below (T181.setTop (mkF m 83 #[(vr pa1), (vr pa2), (vi 3), (vi 1), .val (.int (((0 : Int32) + pi3) + pi4)), (vi 2), (vr pa10), .val (.long ((pi17.toInt64) - (pi18.toInt64))), .second, (vi pi4)] [(.int 64)])) _
    refine XS.lload X181.here hx rfl (hb hby d14_83) rfl ?_
    refine st182 _ ?_
    refine XS.isub X182.here hx rfl (hb hby d14_88) rfl ?_
    rw [hb183]
    exact k
  have f185 : Fld Z h169 pa1 s9n "low" "[I" (.ref b3) := ((((f144.other W148 (Or.inl ne4)).other W153 (Or.inl ne18)).other W158 (Or.inl ne40)).other W169 (Or.inl ne64))
  obtain ⟨T186, X186, e186, st186⟩ := getF X182 hx hZ hown (host := "") (Or.inl (ow hw 123 rfl)) Via.refl K182q f185 (g := (mkF m 108 #[(vr pa1), (vr pa2), (vi 3), (vi 2), (vi 0), (vi 2), (vr pa10), .val (.long ((pi17.toInt64) - (pi18.toInt64))), .second, (vi pi5)] [(.ref pa1)])) rfl rfl (hb hby d14_108)
  obtain ⟨cq187, kq187, q187a, q187b, q187c⟩ := isOf hZ e186 f176
  obtain ⟨_, _, ⟨T187, L187, k187, n187⟩, -, X187, ⟨Lc187, hQ187, l187, y187, z187⟩, st187⟩ := X186.virtualBack hx (y := M20) (z := M20) hown (mvT hZ (ow hw 160 rfl)) (mvT hZ (ow hw 161 rfl)) (notFace_of_selects (args := #[]) (mvT hZ (ow hw 163 rfl))) (mvT hZ (ow hw 163 rfl)) (mvT hZ (ow hw 162 rfl)) (by decide) (backOf (W := 2) (au21_0 l Z a0 hw [] wINTEGER wDOUBLE wBOOLEAN wDEFAULTCAPACITY_EMPTY_ELEMENTDATA kwDEFAULTCAPACITY_EMPTY_ELEMENTDATA hS pa10 pi18 h169 n0 O170 f180) hZ (ow hw 164 rfl) (ow hw 38 rfl) (by decide) (by decide)) q187a q187c (g := (mkF m 115 #[(vr pa1), (vr pa2), (vi 3), (vi 2), (vi 0), (vi 2), (vr pa10), .val (.long ((pi17.toInt64) - (pi18.toInt64))), .second, (vi pi5)] [(.ref pa10), (.int 2), (.ref b3)])) rfl (by rw [hml]; rfl) (Steps.refl _) (argsL := []) (rest := [(.int 2), (.ref b3)]) (lenOf pd_10 rfl) rfl (by show 2 * 0 + _ ≤ _; exact Nat.le_of_eq rfl) (hb hby d14_115) (fun _ _ => ⟨rfl, e186, (by decide : 4 + 0 ≤ _), (by decide : 12 + 0 ≤ _)⟩)
  dsimp only [Pt.U, Pt.locs, Pt.cells, Pt.slots] at X187 l187 y187 z187 st187 hQ187
  subst y187 z187
  obtain ⟨rfl, Nq187, K187q⟩ := hQ187
  have N187 : Fr n0 L187 := (congrArg (Fr n0) l187).mpr (Fr.app N182 Nq187)
  have f188 : Arv Z h169 b3 k3 .int (3 : Int32) ([(.int pi12), (.int pi15), (.int 0)]) (.int 0) := (((V148.other W153 ne30).other W158 ne52).other W169 ne76)
  obtain ⟨cl189, Ar189, qc189, Sz189, Nn189, Ha189, Gg189⟩ := (id f188)
  have hin189 : ¬ ((2 : Int32) < 0 ∨ cl189.slots.size ≤ ((2 : Int32)).toNatClampNeg) := inb_of Sz189 ⟨by decide, by decide⟩
  obtain ⟨T189, h189, X189, e189, W189, st189⟩ := stI X187 hx hZ K187q Ar189 (j := (2 : Int32)) hin189 (g := (mkF m 118 #[(vr pa1), (vr pa2), (vi 3), (vi 2), (vi 0), (vi 2), (vr pa10), .val (.long ((pi17.toInt64) - (pi18.toInt64))), .second, (vi pi5)] [(.int pi18), (.int 2), (.ref b3)])) rfl rfl (hb hby d14_118)
  have O190 : Old Z n0 h189 := O170.wr W189 g10
  have K190 : Keep h0 h189 [pa1] := K170.wr W189 (Or.inr sz11)
  have V189 : Arv Z h189 b3 k3 .int (3 : Int32) ([(.int pi12), (.int pi15), (.int pi18)]) (.int 0) := (Arv.set Ar189 qc189 Sz189 Nn189 Ha189 Gg189 (v := (.int pi18)) rfl W189 2 rfl (Nat.le_of_ble_eq_true rfl))
  have N189 := Fr.snoc X189 N187 g10
  have f191 : Fld Z h189 pa1 s9n "word" "[I" (.ref b17) := ((((f150.other W153 (Or.inl ne18)).other W158 (Or.inl ne40)).other W169 (Or.inl ne64)).other W189 (Or.inl ne4))
  obtain ⟨T192, X192, e192, st192⟩ := getF X189 hx hZ hown (host := "") (Or.inl (ow hw 125 rfl)) Via.refl e189 f191 (g := (mkF m 120 #[(vr pa1), (vr pa2), (vi 3), (vi 2), (vi 0), (vi 2), (vr pa10), .val (.long ((pi17.toInt64) - (pi18.toInt64))), .second, (vi pi5)] [(.ref pa1)])) rfl rfl (hb hby d14_120)
  have f193 : Arv Z h189 b17 k17 .int (3 : Int32) ([(.int 0), (.int 0), (.int 0)]) (.int 0) := (((V153.other W158 ne54).other W169 ne78).other W189 (Ne.symm ne30))
  obtain ⟨cl194, Ar194, qc194, Sz194, Nn194, Ha194, Gg194⟩ := (id f193)
  have hin194 : ¬ ((2 : Int32) < 0 ∨ cl194.slots.size ≤ ((2 : Int32)).toNatClampNeg) := inb_of Sz194 ⟨by decide, by decide⟩
  obtain ⟨T194, h194, X194, e194, W194, st194⟩ := stI X192 hx hZ e192 Ar194 (j := (2 : Int32)) hin194 (g := (mkF m 128 #[(vr pa1), (vr pa2), (vi 3), (vi 2), (vi 0), (vi 2), (vr pa10), .val (.long ((pi17.toInt64) - (pi18.toInt64))), .second, (vi pi5)] [(.int 1), (.int 2), (.ref b17)])) rfl rfl (hb hby d14_128)
  have O195 : Old Z n0 h194 := O190.wr W194 g32
  have K195 : Keep h0 h194 [pa1] := K190.wr W194 (Or.inr sz33)
  have V194 : Arv Z h194 b17 k17 .int (3 : Int32) ([(.int 0), (.int 0), (.int 1)]) (.int 0) := (Arv.set Ar194 qc194 Sz194 Nn194 Ha194 Gg194 (v := (.int 1)) rfl W194 2 rfl (Nat.le_of_ble_eq_true rfl))
  have N194 := Fr.snoc X194 N189 g32
  have f196 : Fld Z h194 pa1 s9n "shift" "[I" (.ref b39) := ((((f155.other W158 (Or.inl ne40)).other W169 (Or.inl ne64)).other W189 (Or.inl ne4)).other W194 (Or.inl ne18))
  obtain ⟨T197, X197, e197, st197⟩ := getF X194 hx hZ hown (host := "") (Or.inl (ow hw 127 rfl)) Via.refl e194 f196 (g := (mkF m 130 #[(vr pa1), (vr pa2), (vi 3), (vi 2), (vi 0), (vi 2), (vr pa10), .val (.long ((pi17.toInt64) - (pi18.toInt64))), .second, (vi pi5)] [(.ref pa1)])) rfl rfl (hb hby d14_130)
  have f198 : Arv Z h194 b39 k39 .int (3 : Int32) ([(.int 0), (.int ((0 : Int32) + pi3)), (.int 0)]) (.int 0) := (((V158.other W169 ne80).other W189 (Ne.symm ne52)).other W194 (Ne.symm ne54))
  obtain ⟨cl199, Ar199, qc199, Sz199, Nn199, Ha199, Gg199⟩ := (id f198)
  have hin199 : ¬ ((2 : Int32) < 0 ∨ cl199.slots.size ≤ ((2 : Int32)).toNatClampNeg) := inb_of Sz199 ⟨by decide, by decide⟩
  obtain ⟨T199, h199, X199, e199, W199, st199⟩ := stI X197 hx hZ e197 Ar199 (j := (2 : Int32)) hin199 (g := (mkF m 137 #[(vr pa1), (vr pa2), (vi 3), (vi 2), (vi 0), (vi 2), (vr pa10), .val (.long ((pi17.toInt64) - (pi18.toInt64))), .second, (vi pi5)] [(.int 0), (.int 2), (.ref b39)])) rfl rfl (hb hby d14_137)
  have O200 : Old Z n0 h199 := O195.wr W199 g56
  have K200 : Keep h0 h199 [pa1] := K195.wr W199 (Or.inr sz57)
  have V199 : Arv Z h199 b39 k39 .int (3 : Int32) ([(.int 0), (.int ((0 : Int32) + pi3)), (.int 0)]) (.int 0) := (Arv.set Ar199 qc199 Sz199 Nn199 Ha199 Gg199 (v := (.int 0)) rfl W199 2 rfl (Nat.le_of_ble_eq_true rfl))
  have N199 := Fr.snoc X199 N194 g56
  have f201 : Fld Z h199 pa1 s9n "mask" "[J" (.ref b63) := ((((f160.other W169 (Or.inl ne64)).other W189 (Or.inl ne4)).other W194 (Or.inl ne18)).other W199 (Or.inl ne40))
  obtain ⟨T202, X202, e202, st202⟩ := getF X199 hx hZ hown (host := "") (Or.inl (ow hw 130 rfl)) Via.refl e199 f201 (g := (mkF m 139 #[(vr pa1), (vr pa2), (vi 3), (vi 2), (vi 0), (vi 2), (vr pa10), .val (.long ((pi17.toInt64) - (pi18.toInt64))), .second, (vi pi5)] [(.ref pa1)])) rfl rfl (hb hby d14_139)
  have pre203 : ∀ t, Steps p.tables e below (T202.setTop (mkF m 146 #[(vr pa1), (vr pa2), (vi 3), (vi 2), (vi 0), (vi 2), (vr pa10), .val (.long ((pi17.toInt64) - (pi18.toInt64))), .second, (vi pi5)] [(.int pi5), (.int 2), (.ref b63)])) t → Steps p.tables e below (s₁.setTop (entryFrame m #[(.ref pa1), (.ref pa2)] 10)) t := by
    intro t k
    refine pre184 t ?_
    show Steps p.tables e below (T182.setTop (mkF m 89 #[(vr pa1), (vr pa2), (vi 3), (vi 1), .val (.int (((0 : Int32) + pi3) + pi4)), (vi 2), (vr pa10), .val (.long ((pi17.toInt64) - (pi18.toInt64))), .second, (vi pi4)] [(.int pi5)])) _
    refine XS.istore X182.here hx rfl (hb hby d14_89) rfl (l' := #[(vr pa1), (vr pa2), (vi 3), (vi 1), .val (.int (((0 : Int32) + pi3) + pi4)), (vi 2), (vr pa10), .val (.long ((pi17.toInt64) - (pi18.toInt64))), .second, (vi pi5)]) rfl ?_
    refine XS.iload X182.here hx rfl (hb hby d14_91) rfl ?_
    refine XS.iload X182.here hx rfl (hb hby d14_93) rfl ?_
    refine XS.iadd X182.here hx rfl (hb hby d14_95) rfl ?_
    refine XS.bipush X182.here hx rfl (hb hby d14_96) ?_
    refine XS.icmpNo X182.here hx rfl (hb hby d14_98) rfl (tlt (P34 : (64 : Int32) < ((((0 : Int32) + pi3) + pi4) + pi5))).2.2.2 ?_
    show Steps p.tables e below (T182.setTop (mkF m 101 #[(vr pa1), (vr pa2), (vi 3), (vi 1), .val (.int (((0 : Int32) + pi3) + pi4)), (vi 2), (vr pa10), .val (.long ((pi17.toInt64) - (pi18.toInt64))), .second, (vi pi5)] [])) _
    refine XS.iinc X182.here hx rfl (hb hby d14_101) rfl (l' := #[(vr pa1), (vr pa2), (vi 3), (vi 2), .val (.int (((0 : Int32) + pi3) + pi4)), (vi 2), (vr pa10), .val (.long ((pi17.toInt64) - (pi18.toInt64))), .second, (vi pi5)]) rfl ?_
    refine XS.iconst X182.here hx rfl (hb hby d14_104) ?_
    refine XS.istore X182.here hx rfl (hb hby d14_105) rfl (l' := #[(vr pa1), (vr pa2), (vi 3), (vi 2), (vi 0), (vi 2), (vr pa10), .val (.long ((pi17.toInt64) - (pi18.toInt64))), .second, (vi pi5)]) rfl ?_
    refine XS.aloadN X182.here hx rfl (hb hby d14_107) rfl rfl ?_
    refine st186 _ ?_
    refine XS.iload X186.here hx rfl (hb hby d14_111) rfl ?_
    show Steps p.tables e below (T186.setTop (mkF m 113 #[(vr pa1), (vr pa2), (vi 3), (vi 2), (vi 0), (vi 2), (vr pa10), .val (.long ((pi17.toInt64) - (pi18.toInt64))), .second, (vi pi5)] [(.int 2), (.ref b3)])) _
    refine XS.aload X186.here hx rfl (hb hby d14_113) rfl rfl ?_
    refine st187.trans ?_
    refine st189 _ ?_
    refine XS.aloadN X189.here hx rfl (hb hby d14_119) rfl rfl ?_
    refine st192 _ ?_
    refine XS.iload X192.here hx rfl (hb hby d14_123) rfl ?_
    show Steps p.tables e below (T192.setTop (mkF m 125 #[(vr pa1), (vr pa2), (vi 3), (vi 2), (vi 0), (vi 2), (vr pa10), .val (.long ((pi17.toInt64) - (pi18.toInt64))), .second, (vi pi5)] [(.int 2), (.ref b17)])) _
    refine XS.iloadN X192.here hx rfl (hb hby d14_125) rfl ?_
    refine XS.iconst X192.here hx rfl (hb hby d14_126) ?_
    refine XS.isub X192.here hx rfl (hb hby d14_127) rfl ?_
    refine st194 _ ?_
    refine XS.aloadN X194.here hx rfl (hb hby d14_129) rfl rfl ?_
    refine st197 _ ?_
    show Steps p.tables e below (T197.setTop (mkF m 133 #[(vr pa1), (vr pa2), (vi 3), (vi 2), (vi 0), (vi 2), (vr pa10), .val (.long ((pi17.toInt64) - (pi18.toInt64))), .second, (vi pi5)] [(.ref b39)])) _
    refine XS.iload X197.here hx rfl (hb hby d14_133) rfl ?_
    refine XS.iload X197.here hx rfl (hb hby d14_135) rfl ?_
    refine st199 _ ?_
    refine XS.aloadN X199.here hx rfl (hb hby d14_138) rfl rfl ?_
    refine st202 _ ?_
    refine XS.iload X202.here hx rfl (hb hby d14_142) rfl ?_
    show Steps p.tables e below (T202.setTop (mkF m 144 #[(vr pa1), (vr pa2), (vi 3), (vi 2), (vi 0), (vi 2), (vr pa10), .val (.long ((pi17.toInt64) - (pi18.toInt64))), .second, (vi pi5)] [(.int 2), (.ref b63)])) _
    refine XS.iload X202.here hx rfl (hb hby d14_144) rfl ?_
    exact k
  obtain ⟨y205, hy205⟩ : ∃ z : Int64, z = (if pi5 = (0 : Int32) then (0 : Int64) else (((-1 : Int64).toUInt64 >>> (((64 : Int32) - pi5) &&& 0x3f).toInt64.toUInt64).toInt64)) := ⟨_, rfl⟩
  have pre206 : ∀ t, Steps p.tables e below (T202.setTop (mkF m 162 #[(vr pa1), (vr pa2), (vi 3), (vi 2), (vi 0), (vi 2), (vr pa10), .val (.long ((pi17.toInt64) - (pi18.toInt64))), .second, (vi pi5)] [(.long y205), (.int 2), (.ref b63)])) t → Steps p.tables e below (s₁.setTop (entryFrame m #[(.ref pa1), (.ref pa2)] 10)) t := by
    intro t k
    rw [hy205] at k
    refine pre203 t ?_
    show Steps p.tables e below (T202.setTop (mkF m 146 #[(vr pa1), (vr pa2), (vi 3), (vi 2), (vi 0), (vi 2), (vr pa10), .val (.long ((pi17.toInt64) - (pi18.toInt64))), .second, (vi pi5)] [(.int pi5), (.int 2), (.ref b63)])) _
    rcases Decidable.em (pi5 = (0 : Int32)) with hm204 | hm204
    · first | simp only [if_pos hm204] at k | skip
      refine XS.ifNo X202.here hx rfl (hb hby d14_146) rfl ((if0 _ _).trans (teq hm204).2) ?_
      refine XS.lconst X202.here hx rfl (hb hby d14_149) ?_
      refine XS.goto X202.here hx rfl (pc0 := 150) (pc' := 162) rfl (hb hby d14_150) (by decide) (by decide) ?_
      exact k
    · first | simp only [if_neg hm204] at k | skip
      refine XS.ifYes X202.here hx rfl (pc0 := 146) (pc' := 153) rfl (hb hby d14_146) rfl ((if0 _ _).trans (feq hm204).2) (by decide) (by decide) ?_
      refine X202.ldc2Long hx hown (mvT hZ (ow hw 174 rfl)) (g := (mkF m 153 #[(vr pa1), (vr pa2), (vi 3), (vi 2), (vi 0), (vi 2), (vr pa10), .val (.long ((pi17.toInt64) - (pi18.toInt64))), .second, (vi pi5)] [(.int 2), (.ref b63)])) rfl (hb hby d14_153) _ ?_
      refine XS.bipush X202.here hx rfl (hb hby d14_156) ?_
      refine XS.iload X202.here hx rfl (hb hby d14_158) rfl ?_
      refine XS.isub X202.here hx rfl (hb hby d14_160) rfl ?_
      refine XS.lushr X202.here hx rfl (hb hby d14_161) rfl ?_
      exact k
  have hm207 : y205 = maskV pi5 := hy205
  have pre208 : ∀ t, Steps p.tables e below (T202.setTop (mkF m 162 #[(vr pa1), (vr pa2), (vi 3), (vi 2), (vi 0), (vi 2), (vr pa10), .val (.long ((pi17.toInt64) - (pi18.toInt64))), .second, (vi pi5)] [(.long (maskV pi5)), (.int 2), (.ref b63)])) t → Steps p.tables e below (s₁.setTop (entryFrame m #[(.ref pa1), (.ref pa2)] 10)) t := by
    intro t k
    refine pre206 t ?_
    rw [hm207]
    exact k
  have f209 : Arv Z h199 b63 k63 .long (3 : Int32) ([(.long (maskV pi3)), (.long (maskV pi4)), (.long 0)]) (.long 0) := (((V169.other W189 (Ne.symm ne76)).other W194 (Ne.symm ne78)).other W199 (Ne.symm ne80))
  obtain ⟨cl210, Ar210, qc210, Sz210, Nn210, Ha210, Gg210⟩ := (id f209)
  have hin210 : ¬ ((2 : Int32) < 0 ∨ cl210.slots.size ≤ ((2 : Int32)).toNatClampNeg) := inb_of Sz210 ⟨by decide, by decide⟩
  obtain ⟨T210, h210, X210, e210, W210, st210⟩ := stJ X202 hx hZ e202 Ar210 (j := (2 : Int32)) hin210 (g := (mkF m 162 #[(vr pa1), (vr pa2), (vi 3), (vi 2), (vi 0), (vi 2), (vr pa10), .val (.long ((pi17.toInt64) - (pi18.toInt64))), .second, (vi pi5)] [(.long (maskV pi5)), (.int 2), (.ref b63)])) rfl rfl (hb hby d14_162)
  have O211 : Old Z n0 h210 := O200.wr W210 g82
  have K211 : Keep h0 h210 [pa1] := K200.wr W210 (Or.inr sz83)
  have V210 : Arv Z h210 b63 k63 .long (3 : Int32) ([(.long (maskV pi3)), (.long (maskV pi4)), (.long (maskV pi5))]) (.long 0) := (Arv.set Ar210 qc210 Sz210 Nn210 Ha210 Gg210 (v := (.long (maskV pi5))) rfl W210 2 rfl (Nat.le_of_ble_eq_true rfl))
  have N210 := Fr.snoc X210 N199 g82
  have f212 : Exa Z h210 pa1 s9n := (((((((((((((f85.wr W87).wr W107).wr W112).wr W117).wr W128).wr W148).wr W153).wr W158).wr W169).wr W189).wr W194).wr W199).wr W210)
  have f213 : Fld Z h210 pa1 s9n s10n "I" (.int 0) := ((((((((((((((((((((P5.ext E3).other W15 (Or.inr (slot_ne (Or.inr (ow hw 176 rfl)) (Or.inr (ow hw 124 rfl)) (by decide) (t := .int) (t' := (.array .int)) (by decide) (by decide)))).ext E17).other W37 (Or.inr (slot_ne (Or.inr (ow hw 176 rfl)) (Or.inr (ow hw 126 rfl)) (by decide) (t := .int) (t' := (.array .int)) (by decide) (by decide)))).ext E39).other W61 (Or.inr (slot_ne (Or.inr (ow hw 176 rfl)) (Or.inr (ow hw 128 rfl)) (by decide) (t := .int) (t' := (.array .int)) (by decide) (by decide)))).ext E63).other W87 (Or.inr (slot_ne (Or.inr (ow hw 176 rfl)) (Or.inr (ow hw 131 rfl)) (by decide) (t := .int) (t' := (.array .long)) (by decide) (by decide)))).other W107 (Or.inl ne4)).other W112 (Or.inl ne18)).other W117 (Or.inl ne40)).other W128 (Or.inl ne64)).other W148 (Or.inl ne4)).other W153 (Or.inl ne18)).other W158 (Or.inl ne40)).other W169 (Or.inl ne64)).other W189 (Or.inl ne4)).other W194 (Or.inl ne18)).other W199 (Or.inl ne40)).other W210 (Or.inl ne64))
  obtain ⟨T214, h214, X214, e214, W214, st214⟩ := putF X210 hx hZ hown (host := "") (Or.inl (ow hw 175 rfl)) Via.refl e210 f213 f212 (Or.inr ⟨(ow hw 176 rfl), rfl, hnm⟩) (ow hw 108 rfl) (ty := .int) (by decide) rfl rfl (g := (mkF m 178 #[(vr pa1), (vr pa2), (vi 3), (vi 2), .val (.int ((0 : Int32) + pi5)), (vi 3), (vr pa10), .val (.long ((pi17.toInt64) - (pi18.toInt64))), .second, (vi pi5)] [(.int 2), (.ref pa1)])) rfl rfl (hb hby d14_178)
  have N214 := Fr.snoc X214 N210 P41
  have O215 : Old Z n0 h214 := O211.wr W214 P41
  have K215 : Keep h0 h214 [pa1] := K211.wr W214 (Or.inl (List.mem_of_getElem? (i := 0) rfl))
  have Fw214 : Fld Z h214 pa1 s9n s10n "I" (.int 2) := f213.same W214
  have f216 : Exa Z h214 pa1 s9n := (f212.wr W214)
  have f217 : Fld Z h214 pa1 s9n "low" "[I" (.ref b3) := (((((f185.other W189 (Or.inl ne4)).other W194 (Or.inl ne18)).other W199 (Or.inl ne40)).other W210 (Or.inl ne64)).other W214 (Or.inr (slot_ne (Or.inr (ow hw 124 rfl)) (Or.inr (ow hw 176 rfl)) (by decide) (t := (.array .int)) (t' := .int) (by decide) (by decide))))
  have f218 : Fld Z h214 pa1 s9n "mask" "[J" (.ref b63) := ((f201.other W210 (Or.inl ne64)).other W214 (Or.inr (slot_ne (Or.inr (ow hw 131 rfl)) (Or.inr (ow hw 176 rfl)) (by decide) (t := (.array .long)) (t' := .int) (by decide) (by decide))))
  have f219 : Fld Z h214 pa1 s9n "shift" "[I" (.ref b39) := (((f196.other W199 (Or.inl ne40)).other W210 (Or.inl ne64)).other W214 (Or.inr (slot_ne (Or.inr (ow hw 128 rfl)) (Or.inr (ow hw 176 rfl)) (by decide) (t := (.array .int)) (t' := .int) (by decide) (by decide))))
  have f220 : Fld Z h214 pa1 s9n "word" "[I" (.ref b17) := ((((f191.other W194 (Or.inl ne18)).other W199 (Or.inl ne40)).other W210 (Or.inl ne64)).other W214 (Or.inr (slot_ne (Or.inr (ow hw 126 rfl)) (Or.inr (ow hw 176 rfl)) (by decide) (t := (.array .int)) (t' := .int) (by decide) (by decide))))
  have f221 : Exa Z h214 b3 "[I" := ((((((((((((((((((((Z3.wr W15).ext E17).wr W37).ext E39).wr W61).ext E63).wr W87).wr W107).wr W112).wr W117).wr W128).wr W148).wr W153).wr W158).wr W169).wr W189).wr W194).wr W199).wr W210).wr W214)
  have f222 : Arv Z h214 b3 k3 .int (3 : Int32) ([(.int pi12), (.int pi15), (.int pi18)]) (.int 0) := ((((V189.other W194 ne30).other W199 ne52).other W210 ne76).other W214 (Ne.symm ne4))
  have f223 : Exa Z h214 b63 "[J" := ((((((((((((((Z63.wr W87).wr W107).wr W112).wr W117).wr W128).wr W148).wr W153).wr W158).wr W169).wr W189).wr W194).wr W199).wr W210).wr W214)
  have f224 : Arv Z h214 b63 k63 .long (3 : Int32) ([(.long (maskV pi3)), (.long (maskV pi4)), (.long (maskV pi5))]) (.long 0) := (V210.other W214 (Ne.symm ne64))
  have f225 : Exa Z h214 b39 "[I" := ((((((((((((((((Z39.wr W61).ext E63).wr W87).wr W107).wr W112).wr W117).wr W128).wr W148).wr W153).wr W158).wr W169).wr W189).wr W194).wr W199).wr W210).wr W214)
  have f226 : Arv Z h214 b39 k39 .int (3 : Int32) ([(.int 0), (.int ((0 : Int32) + pi3)), (.int 0)]) (.int 0) := ((V199.other W210 ne80).other W214 (Ne.symm ne40))
  have f227 : Exa Z h214 b17 "[I" := ((((((((((((((((((Z17.wr W37).ext E39).wr W61).ext E63).wr W87).wr W107).wr W112).wr W117).wr W128).wr W148).wr W153).wr W158).wr W169).wr W189).wr W194).wr W199).wr W210).wr W214)
  have f228 : Arv Z h214 b17 k17 .int (3 : Int32) ([(.int 0), (.int 0), (.int 1)]) (.int 0) := (((V194.other W199 ne54).other W210 ne78).other W214 (Ne.symm ne18))
  obtain ⟨fs, hr, hrun, hended, hW, hsame⟩ := X214.leave (v := none) (fun _ => rfl)
  refine ⟨_, _, pre208 _ ?_, hrun, hended, _, _, rfl, ?_, ⟨_, rfl⟩, hW, hsame.mono (by decide) (by decide)⟩
  · skip
    show Steps p.tables e below (T202.setTop (mkF m 162 #[(vr pa1), (vr pa2), (vi 3), (vi 2), (vi 0), (vi 2), (vr pa10), .val (.long ((pi17.toInt64) - (pi18.toInt64))), .second, (vi pi5)] [(.long (maskV pi5)), (.int 2), (.ref b63)])) _
    refine st210 _ ?_
    refine XS.iload X210.here hx rfl (hb hby d14_163) rfl ?_
    refine XS.iload X210.here hx rfl (hb hby d14_165) rfl ?_
    refine XS.iadd X210.here hx rfl (hb hby d14_167) rfl ?_
    refine XS.istore X210.here hx rfl (hb hby d14_168) rfl (l' := #[(vr pa1), (vr pa2), (vi 3), (vi 2), .val (.int ((0 : Int32) + pi5)), (vi 2), (vr pa10), .val (.long ((pi17.toInt64) - (pi18.toInt64))), .second, (vi pi5)]) rfl ?_
    refine XS.iinc X210.here hx rfl (hb hby d14_170) rfl (l' := #[(vr pa1), (vr pa2), (vi 3), (vi 2), .val (.int ((0 : Int32) + pi5)), (vi 3), (vr pa10), .val (.long ((pi17.toInt64) - (pi18.toInt64))), .second, (vi pi5)]) rfl ?_
    show Steps p.tables e below (T210.setTop (mkF m 173 #[(vr pa1), (vr pa2), (vi 3), (vi 2), .val (.int ((0 : Int32) + pi5)), (vi 3), (vr pa10), .val (.long ((pi17.toInt64) - (pi18.toInt64))), .second, (vi pi5)] [])) _
    refine XS.goto X210.here hx rfl (pc0 := 173) (pc' := 47) rfl (hb hby d14_173) (by decide) (by decide) ?_
    refine XS.iload X210.here hx rfl (hb hby d14_47) rfl ?_
    refine XS.iloadN X210.here hx rfl (hb hby d14_49) rfl ?_
    refine XS.icmpYes X210.here hx rfl (pc0 := 50) (pc' := 176) rfl (hb hby d14_50) rfl (flt (by decide : ¬ ((3 : Int32) < (3 : Int32)))).2.1 (by decide) (by decide) ?_
    refine XS.aloadN X210.here hx rfl (hb hby d14_176) rfl rfl ?_
    refine XS.iloadN X210.here hx rfl (hb hby d14_177) rfl ?_
    show Steps p.tables e below (T210.setTop (mkF m 178 #[(vr pa1), (vr pa2), (vi 3), (vi 2), .val (.int ((0 : Int32) + pi5)), (vi 3), (vr pa10), .val (.long ((pi17.toInt64) - (pi18.toInt64))), .second, (vi pi5)] [(.int 2), (.ref pa1)])) _
    refine st214 _ ?_
    exact X214.returnOut hx hret0 (hb hby d14_181) hr
  · show Q_au14_0 Z wINTEGER wDOUBLE wBOOLEAN wDEFAULTCAPACITY_EMPTY_ELEMENTDATA kwDEFAULTCAPACITY_EMPTY_ELEMENTDATA pa1 pa2 pi3 pi4 pi5 pa6 pk7 pa8 pa9 pa10 pi11 pi12 pi14 pi15 pi17 pi18 h0 n0 _ T214.heap _
    rw [e214]
    exact ⟨b3, b63, b39, b17, k3, k63, k39, k17, rfl, N214, K215, f216, f217, f218, f219, f220, Fw214, sz11, f221, f222, sz83, f223, f224, sz57, f225, f226, sz33, f227, f228, ne76, ne52, ne30, (Ne.symm ne80), (Ne.symm ne78), (Ne.symm ne54)⟩
theorem pd_14 : parseMethodDescriptor "(Ljava/util/List;)V" = some ⟨[(.object "java/util/List")], none⟩ := by decide +kernel
theorem ef_au24_0 (m : MethodId) (x0 : Addr) (x1 : Addr) (x2 : Int32) (x3 : Int32)  : entryFrame m #[(.ref x0), (.ref x1), (.int x2), (.int x3)] 6 = mkF m 0 #[(vr x0), (vr x1), (vi x2), (vi x3), .unset, .unset] [] := by first | (simp [entryFrame, mkF, argsToLocals, Value.category]; done) | rfl
theorem d24_0 : decode prog_105_method_5_code 0 = .ok (.aload_n 1, 1) := by decide +kernel
theorem d24_1 : decode prog_105_method_5_code 1 = .ok (.iload_n 2, 1) := by decide +kernel
theorem d24_2 : decode prog_105_method_5_code 2 = .ok (.aload_n 0, 1) := by decide +kernel
theorem d24_3 : decode prog_105_method_5_code 3 = .ok (.getfield 19, 3) := by decide +kernel
theorem d24_6 : decode prog_105_method_5_code 6 = .ok (.iload_n 3, 1) := by decide +kernel
theorem d24_7 : decode prog_105_method_5_code 7 = .ok (.iaload, 1) := by decide +kernel
theorem d24_8 : decode prog_105_method_5_code 8 = .ok (.iadd, 1) := by decide +kernel
theorem d24_9 : decode prog_105_method_5_code 9 = .ok (.laload, 1) := by decide +kernel
theorem d24_10 : decode prog_105_method_5_code 10 = .ok (.aload_n 0, 1) := by decide +kernel
theorem d24_11 : decode prog_105_method_5_code 11 = .ok (.getfield 22, 3) := by decide +kernel
theorem d24_14 : decode prog_105_method_5_code 14 = .ok (.iload_n 3, 1) := by decide +kernel
theorem d24_15 : decode prog_105_method_5_code 15 = .ok (.iaload, 1) := by decide +kernel
theorem d24_16 : decode prog_105_method_5_code 16 = .ok (.lushr, 1) := by decide +kernel
theorem d24_17 : decode prog_105_method_5_code 17 = .ok (.aload_n 0, 1) := by decide +kernel
theorem d24_18 : decode prog_105_method_5_code 18 = .ok (.getfield 25, 3) := by decide +kernel
theorem d24_21 : decode prog_105_method_5_code 21 = .ok (.iload_n 3, 1) := by decide +kernel
theorem d24_22 : decode prog_105_method_5_code 22 = .ok (.laload, 1) := by decide +kernel
theorem d24_23 : decode prog_105_method_5_code 23 = .ok (.land, 1) := by decide +kernel
theorem d24_24 : decode prog_105_method_5_code 24 = .ok (.lstore 4, 2) := by decide +kernel
theorem d24_26 : decode prog_105_method_5_code 26 = .ok (.aload_n 0, 1) := by decide +kernel
theorem d24_27 : decode prog_105_method_5_code 27 = .ok (.getfield 13, 3) := by decide +kernel
theorem d24_30 : decode prog_105_method_5_code 30 = .ok (.iload_n 3, 1) := by decide +kernel
theorem d24_31 : decode prog_105_method_5_code 31 = .ok (.iaload, 1) := by decide +kernel
theorem d24_32 : decode prog_105_method_5_code 32 = .ok (.lload 4, 2) := by decide +kernel
theorem d24_34 : decode prog_105_method_5_code 34 = .ok (.l2i, 1) := by decide +kernel
theorem d24_35 : decode prog_105_method_5_code 35 = .ok (.iadd, 1) := by decide +kernel
theorem d24_36 : decode prog_105_method_5_code 36 = .ok (.ireturn, 1) := by decide +kernel
def Q_au24_0 (Z : State) (wINTEGER : Addr) (wDOUBLE : Addr) (wBOOLEAN : Addr) (wDEFAULTCAPACITY_EMPTY_ELEMENTDATA : Addr) (kwDEFAULTCAPACITY_EMPTY_ELEMENTDATA : ClassId) (pa1 : Addr) (pa2 : Addr) (pa3 : Addr) (pa4 : Addr) (pa5 : Addr) (pa6 : Addr) (pk7 : ClassId) (pj8 : Int64) (pj9 : Int64) (pj10 : Int64) (pk11 : ClassId) (pi12 : Int32) (pi13 : Int32) (pi14 : Int32) (pk15 : ClassId) (pj16 : Int64) (pj17 : Int64) (pj18 : Int64) (pk19 : ClassId) (pi20 : Int32) (pk21 : ClassId) (h0 : Heap) (n0 : Nat) (v : Option Value) (h : Heap) (L : List Loc) : Prop := v = some (.int (pi12 + ((((pj8.toUInt64 >>> ((0 : Int32) &&& 0x3f).toInt64.toUInt64).toInt64) &&& pj16).toInt32))) ∧ Fr n0 L ∧ h = h0
theorem au24_0 (l : Launch) (Z : State) (a0 : Array Value) (hw : ∀ d ∈ tables_1, d.before a0 Z = true) (ws : List Jvm.Cond) (wINTEGER : Addr) (wDOUBLE : Addr) (wBOOLEAN : Addr) (wDEFAULTCAPACITY_EMPTY_ELEMENTDATA : Addr) (kwDEFAULTCAPACITY_EMPTY_ELEMENTDATA : ClassId) (hS : SS Z wINTEGER wDOUBLE wBOOLEAN wDEFAULTCAPACITY_EMPTY_ELEMENTDATA kwDEFAULTCAPACITY_EMPTY_ELEMENTDATA) (pa1 : Addr) (pa2 : Addr) (pa3 : Addr) (pa4 : Addr) (pa5 : Addr) (pa6 : Addr) (pk7 : ClassId) (pj8 : Int64) (pj9 : Int64) (pj10 : Int64) (pk11 : ClassId) (pi12 : Int32) (pi13 : Int32) (pi14 : Int32) (pk15 : ClassId) (pj16 : Int64) (pj17 : Int64) (pj18 : Int64) (pk19 : ClassId) (pi20 : Int32) (pk21 : ClassId) (h0 : Heap) (n0 : Nat) (O0 : Old Z n0 h0) (P1 : Fld Z h0 pa1 s9n "low" "[I" (.ref pa3)) (P2 : Fld Z h0 pa1 s9n "mask" "[J" (.ref pa4)) (P3 : Fld Z h0 pa1 s9n "shift" "[I" (.ref pa5)) (P4 : Fld Z h0 pa1 s9n "word" "[I" (.ref pa6)) (P6 : Arv Z h0 pa2 pk7 .long (4 : Int32) ([(.long pj8), (.long pj9), (.long pj10), (.long pj10)]) (.long 0)) (P8 : Arv Z h0 pa3 pk11 .int (3 : Int32) ([(.int pi12), (.int pi13), (.int pi14)]) (.int 0)) (P10 : Arv Z h0 pa4 pk15 .long (3 : Int32) ([(.long pj16), (.long pj17), (.long pj18)]) (.long 0)) (P12 : Arv Z h0 pa5 pk19 .int (3 : Int32) ([(.int 0), (.int pi20), (.int 0)]) (.int 0)) (P14 : Arv Z h0 pa6 pk21 .int (3 : Int32) ([(.int 0), (.int 0), (.int 1)]) (.int 0)) :
    MetB l M24 prog_105_method_5_code 6 (some .int) ws (rmk 0 0 0 0) Z h0 #[(.ref pa1), (.ref pa2), (.int 0), (.int 0)] (Q_au24_0 Z wINTEGER wDOUBLE wBOOLEAN wDEFAULTCAPACITY_EMPTY_ELEMENTDATA kwDEFAULTCAPACITY_EMPTY_ELEMENTDATA pa1 pa2 pa3 pa4 pa5 pa6 pk7 pj8 pj9 pj10 pk11 pi12 pi13 pi14 pk15 pj16 pj17 pj18 pk19 pi20 pk21 h0 n0) := by
  refine own_body (plainFor_of_name pn_com_example_lanc_lanc_model_VariableLayout) ?_
  intro p e s m below meth c s₁ hx hby hml hown hnm hret0 hlk0 hZ X0 e0
  have N0 := Fr.nil n0
  have pre0 : ∀ t, Steps p.tables e below (s₁.setTop (mkF m 0 #[(vr pa1), (vr pa2), (vi 0), (vi 0), .unset, .unset] [])) t → Steps p.tables e below (s₁.setTop (entryFrame m #[(.ref pa1), (.ref pa2), (.int 0), (.int 0)] 6)) t := fun t k => castTop (ef_au24_0 m pa1 pa2 (0 : Int32) (0 : Int32)) k
  have hS0 := hS
  obtain ⟨S_wINTEGER, E_wINTEGER, S_wDOUBLE, E_wDOUBLE, S_wBOOLEAN, E_wBOOLEAN, F_ordinal_wINTEGER, F_ordinal_wDOUBLE, F_ordinal_wBOOLEAN, S_wDEFAULTCAPACITY_EMPTY_ELEMENTDATA, E_wDEFAULTCAPACITY_EMPTY_ELEMENTDATA, V_wDEFAULTCAPACITY_EMPTY_ELEMENTDATA⟩ := hS0
  obtain ⟨T1, X1, e1, st1⟩ := getF X0 hx hZ hown (host := "") (Or.inl (ow hw 125 rfl)) Via.refl e0 P4 (g := (mkF m 3 #[(vr pa1), (vr pa2), (vi 0), (vi 0), .unset, .unset] [(.ref pa1), (.int 0), (.ref pa2)])) rfl rfl (hb hby d24_3)
  obtain ⟨cl2, Ar2, qc2, Sz2, Nn2, Ha2, Gg2⟩ := (id P14)
  have hin2 : ¬ ((0 : Int32) < 0 ∨ cl2.slots.size ≤ ((0 : Int32)).toNatClampNeg) := inb_of Sz2 ⟨by decide, by decide⟩
  have hat2 : cl2.slots[((0 : Int32)).toNatClampNeg]? = some (.int 0) := Ha2.at hin2 rfl
  obtain ⟨cl3, Ar3, qc3, Sz3, Nn3, Ha3, Gg3⟩ := (id P6)
  have hin3 : ¬ ((0 : Int32) < 0 ∨ cl3.slots.size ≤ ((0 : Int32)).toNatClampNeg) := inb_of Sz3 ⟨by decide, by decide⟩
  have hat3 : cl3.slots[((0 : Int32)).toNatClampNeg]? = some (.long pj8) := Ha3.at hin3 rfl
  obtain ⟨T4, X4, e4, st4⟩ := getF X1 hx hZ hown (host := "") (Or.inl (ow hw 127 rfl)) Via.refl e1 P3 (g := (mkF m 11 #[(vr pa1), (vr pa2), (vi 0), (vi 0), .unset, .unset] [(.ref pa1), (.long pj8)])) rfl rfl (hb hby d24_11)
  obtain ⟨cl5, Ar5, qc5, Sz5, Nn5, Ha5, Gg5⟩ := (id P12)
  have hin5 : ¬ ((0 : Int32) < 0 ∨ cl5.slots.size ≤ ((0 : Int32)).toNatClampNeg) := inb_of Sz5 ⟨by decide, by decide⟩
  have hat5 : cl5.slots[((0 : Int32)).toNatClampNeg]? = some (.int 0) := Ha5.at hin5 rfl
  obtain ⟨T6, X6, e6, st6⟩ := getF X4 hx hZ hown (host := "") (Or.inl (ow hw 130 rfl)) Via.refl e4 P2 (g := (mkF m 18 #[(vr pa1), (vr pa2), (vi 0), (vi 0), .unset, .unset] [(.ref pa1), (.long ((pj8.toUInt64 >>> ((0 : Int32) &&& 0x3f).toInt64.toUInt64).toInt64))])) rfl rfl (hb hby d24_18)
  obtain ⟨cl7, Ar7, qc7, Sz7, Nn7, Ha7, Gg7⟩ := (id P10)
  have hin7 : ¬ ((0 : Int32) < 0 ∨ cl7.slots.size ≤ ((0 : Int32)).toNatClampNeg) := inb_of Sz7 ⟨by decide, by decide⟩
  have hat7 : cl7.slots[((0 : Int32)).toNatClampNeg]? = some (.long pj16) := Ha7.at hin7 rfl
  obtain ⟨T8, X8, e8, st8⟩ := getF X6 hx hZ hown (host := "") (Or.inl (ow hw 123 rfl)) Via.refl e6 P1 (g := (mkF m 27 #[(vr pa1), (vr pa2), (vi 0), (vi 0), .val (.long (((pj8.toUInt64 >>> ((0 : Int32) &&& 0x3f).toInt64.toUInt64).toInt64) &&& pj16)), .second] [(.ref pa1)])) rfl rfl (hb hby d24_27)
  obtain ⟨cl9, Ar9, qc9, Sz9, Nn9, Ha9, Gg9⟩ := (id P8)
  have hin9 : ¬ ((0 : Int32) < 0 ∨ cl9.slots.size ≤ ((0 : Int32)).toNatClampNeg) := inb_of Sz9 ⟨by decide, by decide⟩
  have hat9 : cl9.slots[((0 : Int32)).toNatClampNeg]? = some (.int pi12) := Ha9.at hin9 rfl
  obtain ⟨fs, hr, hrun, hended, hW, hsame⟩ := X8.leave (v := some (.int (pi12 + ((((pj8.toUInt64 >>> ((0 : Int32) &&& 0x3f).toInt64.toUInt64).toInt64) &&& pj16).toInt32)))) (fun h => by rw [hret0] at h; cases h)
  refine ⟨_, _, pre0 _ ?_, hrun, hended, _, _, rfl, ?_, ⟨_, rfl⟩, hW, hsame.mono (by decide) (by decide)⟩
  · skip
    show Steps p.tables e below (s₁.setTop (mkF m 0 #[(vr pa1), (vr pa2), (vi 0), (vi 0), .unset, .unset] [])) _
    refine XS.aloadN X0.here hx rfl (hb hby d24_0) rfl rfl ?_
    refine XS.iloadN X0.here hx rfl (hb hby d24_1) rfl ?_
    refine XS.aloadN X0.here hx rfl (hb hby d24_2) rfl rfl ?_
    refine st1 _ ?_
    refine XS.iloadN X1.here hx rfl (hb hby d24_6) rfl ?_
    refine X1.iaload hx (j := (0 : Int32)) (v := (.int 0)) (by rw [e1]; exact Ar2.1) (State.isArrayOf_alike hZ.alike Ar2.2.1) Ar2.2.2 hin2 hat2 (g := (mkF m 7 #[(vr pa1), (vr pa2), (vi 0), (vi 0), .unset, .unset] [(.int 0), (.ref pa6), (.int 0), (.ref pa2)])) rfl rfl (hb hby d24_7) _ ?_
    show Steps p.tables e below (T1.setTop (mkF m 8 #[(vr pa1), (vr pa2), (vi 0), (vi 0), .unset, .unset] [(.int 0), (.int 0), (.ref pa2)])) _
    refine XS.iadd X1.here hx rfl (hb hby d24_8) rfl ?_
    refine X1.laload hx (j := (0 : Int32)) (v := (.long pj8)) (by rw [e1]; exact Ar3.1) (State.isArrayOf_alike hZ.alike Ar3.2.1) Ar3.2.2 hin3 hat3 (g := (mkF m 9 #[(vr pa1), (vr pa2), (vi 0), (vi 0), .unset, .unset] [(.int 0), (.ref pa2)])) rfl rfl (hb hby d24_9) _ ?_
    refine XS.aloadN X1.here hx rfl (hb hby d24_10) rfl rfl ?_
    refine st4 _ ?_
    refine XS.iloadN X4.here hx rfl (hb hby d24_14) rfl ?_
    refine X4.iaload hx (j := (0 : Int32)) (v := (.int 0)) (by rw [e4]; exact Ar5.1) (State.isArrayOf_alike hZ.alike Ar5.2.1) Ar5.2.2 hin5 hat5 (g := (mkF m 15 #[(vr pa1), (vr pa2), (vi 0), (vi 0), .unset, .unset] [(.int 0), (.ref pa5), (.long pj8)])) rfl rfl (hb hby d24_15) _ ?_
    show Steps p.tables e below (T4.setTop (mkF m 16 #[(vr pa1), (vr pa2), (vi 0), (vi 0), .unset, .unset] [(.int 0), (.long pj8)])) _
    refine XS.lushr X4.here hx rfl (hb hby d24_16) rfl ?_
    refine XS.aloadN X4.here hx rfl (hb hby d24_17) rfl rfl ?_
    refine st6 _ ?_
    refine XS.iloadN X6.here hx rfl (hb hby d24_21) rfl ?_
    refine X6.laload hx (j := (0 : Int32)) (v := (.long pj16)) (by rw [e6]; exact Ar7.1) (State.isArrayOf_alike hZ.alike Ar7.2.1) Ar7.2.2 hin7 hat7 (g := (mkF m 22 #[(vr pa1), (vr pa2), (vi 0), (vi 0), .unset, .unset] [(.int 0), (.ref pa4), (.long ((pj8.toUInt64 >>> ((0 : Int32) &&& 0x3f).toInt64.toUInt64).toInt64))])) rfl rfl (hb hby d24_22) _ ?_
    refine XS.land X6.here hx rfl (hb hby d24_23) rfl ?_
    show Steps p.tables e below (T6.setTop (mkF m 24 #[(vr pa1), (vr pa2), (vi 0), (vi 0), .unset, .unset] [(.long (((pj8.toUInt64 >>> ((0 : Int32) &&& 0x3f).toInt64.toUInt64).toInt64) &&& pj16))])) _
    refine XS.lstore X6.here hx rfl (hb hby d24_24) rfl (l' := #[(vr pa1), (vr pa2), (vi 0), (vi 0), .val (.long (((pj8.toUInt64 >>> ((0 : Int32) &&& 0x3f).toInt64.toUInt64).toInt64) &&& pj16)), .second]) rfl ?_
    refine XS.aloadN X6.here hx rfl (hb hby d24_26) rfl rfl ?_
    refine st8 _ ?_
    refine XS.iloadN X8.here hx rfl (hb hby d24_30) rfl ?_
    refine X8.iaload hx (j := (0 : Int32)) (v := (.int pi12)) (by rw [e8]; exact Ar9.1) (State.isArrayOf_alike hZ.alike Ar9.2.1) Ar9.2.2 hin9 hat9 (g := (mkF m 31 #[(vr pa1), (vr pa2), (vi 0), (vi 0), .val (.long (((pj8.toUInt64 >>> ((0 : Int32) &&& 0x3f).toInt64.toUInt64).toInt64) &&& pj16)), .second] [(.int 0), (.ref pa3)])) rfl rfl (hb hby d24_31) _ ?_
    refine XS.lload X8.here hx rfl (hb hby d24_32) rfl ?_
    show Steps p.tables e below (T8.setTop (mkF m 34 #[(vr pa1), (vr pa2), (vi 0), (vi 0), .val (.long (((pj8.toUInt64 >>> ((0 : Int32) &&& 0x3f).toInt64.toUInt64).toInt64) &&& pj16)), .second] [(.long (((pj8.toUInt64 >>> ((0 : Int32) &&& 0x3f).toInt64.toUInt64).toInt64) &&& pj16)), (.int pi12)])) _
    refine XS.l2i X8.here hx rfl (hb hby d24_34) rfl ?_
    refine XS.iadd X8.here hx rfl (hb hby d24_35) rfl ?_
    exact retI X8 hx hret0 (hb hby d24_36) hr
  · show Q_au24_0 Z wINTEGER wDOUBLE wBOOLEAN wDEFAULTCAPACITY_EMPTY_ELEMENTDATA kwDEFAULTCAPACITY_EMPTY_ELEMENTDATA pa1 pa2 pa3 pa4 pa5 pa6 pk7 pj8 pj9 pj10 pk11 pi12 pi13 pi14 pk15 pj16 pj17 pj18 pk19 pi20 pk21 h0 n0 _ T8.heap _
    rw [e8]
    exact ⟨rfl, N0, rfl⟩
theorem pd_15 : parseMethodDescriptor "([JII)I" = some ⟨[(.array .long), .int, .int], some .int⟩ := by decide +kernel
theorem ef_au24_1 (m : MethodId) (x0 : Addr) (x1 : Addr) (x2 : Int32) (x3 : Int32)  : entryFrame m #[(.ref x0), (.ref x1), (.int x2), (.int x3)] 6 = mkF m 0 #[(vr x0), (vr x1), (vi x2), (vi x3), .unset, .unset] [] := by first | (simp [entryFrame, mkF, argsToLocals, Value.category]; done) | rfl
def Q_au24_1 (Z : State) (wINTEGER : Addr) (wDOUBLE : Addr) (wBOOLEAN : Addr) (wDEFAULTCAPACITY_EMPTY_ELEMENTDATA : Addr) (kwDEFAULTCAPACITY_EMPTY_ELEMENTDATA : ClassId) (pa1 : Addr) (pa2 : Addr) (pa3 : Addr) (pa4 : Addr) (pa5 : Addr) (pa6 : Addr) (pk7 : ClassId) (pj8 : Int64) (pj9 : Int64) (pj10 : Int64) (pk11 : ClassId) (pi12 : Int32) (pi13 : Int32) (pi14 : Int32) (pk15 : ClassId) (pj16 : Int64) (pj17 : Int64) (pj18 : Int64) (pk19 : ClassId) (pi20 : Int32) (pk21 : ClassId) (h0 : Heap) (n0 : Nat) (v : Option Value) (h : Heap) (L : List Loc) : Prop := v = some (.int (pi13 + ((((pj8.toUInt64 >>> (pi20 &&& 0x3f).toInt64.toUInt64).toInt64) &&& pj17).toInt32))) ∧ Fr n0 L ∧ h = h0
theorem au24_1 (l : Launch) (Z : State) (a0 : Array Value) (hw : ∀ d ∈ tables_1, d.before a0 Z = true) (ws : List Jvm.Cond) (wINTEGER : Addr) (wDOUBLE : Addr) (wBOOLEAN : Addr) (wDEFAULTCAPACITY_EMPTY_ELEMENTDATA : Addr) (kwDEFAULTCAPACITY_EMPTY_ELEMENTDATA : ClassId) (hS : SS Z wINTEGER wDOUBLE wBOOLEAN wDEFAULTCAPACITY_EMPTY_ELEMENTDATA kwDEFAULTCAPACITY_EMPTY_ELEMENTDATA) (pa1 : Addr) (pa2 : Addr) (pa3 : Addr) (pa4 : Addr) (pa5 : Addr) (pa6 : Addr) (pk7 : ClassId) (pj8 : Int64) (pj9 : Int64) (pj10 : Int64) (pk11 : ClassId) (pi12 : Int32) (pi13 : Int32) (pi14 : Int32) (pk15 : ClassId) (pj16 : Int64) (pj17 : Int64) (pj18 : Int64) (pk19 : ClassId) (pi20 : Int32) (pk21 : ClassId) (h0 : Heap) (n0 : Nat) (O0 : Old Z n0 h0) (P1 : Fld Z h0 pa1 s9n "low" "[I" (.ref pa3)) (P2 : Fld Z h0 pa1 s9n "mask" "[J" (.ref pa4)) (P3 : Fld Z h0 pa1 s9n "shift" "[I" (.ref pa5)) (P4 : Fld Z h0 pa1 s9n "word" "[I" (.ref pa6)) (P6 : Arv Z h0 pa2 pk7 .long (4 : Int32) ([(.long pj8), (.long pj9), (.long pj10), (.long pj10)]) (.long 0)) (P8 : Arv Z h0 pa3 pk11 .int (3 : Int32) ([(.int pi12), (.int pi13), (.int pi14)]) (.int 0)) (P10 : Arv Z h0 pa4 pk15 .long (3 : Int32) ([(.long pj16), (.long pj17), (.long pj18)]) (.long 0)) (P12 : Arv Z h0 pa5 pk19 .int (3 : Int32) ([(.int 0), (.int pi20), (.int 0)]) (.int 0)) (P14 : Arv Z h0 pa6 pk21 .int (3 : Int32) ([(.int 0), (.int 0), (.int 1)]) (.int 0)) :
    MetB l M24 prog_105_method_5_code 6 (some .int) ws (rmk 0 0 0 0) Z h0 #[(.ref pa1), (.ref pa2), (.int 0), (.int 1)] (Q_au24_1 Z wINTEGER wDOUBLE wBOOLEAN wDEFAULTCAPACITY_EMPTY_ELEMENTDATA kwDEFAULTCAPACITY_EMPTY_ELEMENTDATA pa1 pa2 pa3 pa4 pa5 pa6 pk7 pj8 pj9 pj10 pk11 pi12 pi13 pi14 pk15 pj16 pj17 pj18 pk19 pi20 pk21 h0 n0) := by
  refine own_body (plainFor_of_name pn_com_example_lanc_lanc_model_VariableLayout) ?_
  intro p e s m below meth c s₁ hx hby hml hown hnm hret0 hlk0 hZ X0 e0
  have N0 := Fr.nil n0
  have pre0 : ∀ t, Steps p.tables e below (s₁.setTop (mkF m 0 #[(vr pa1), (vr pa2), (vi 0), (vi 1), .unset, .unset] [])) t → Steps p.tables e below (s₁.setTop (entryFrame m #[(.ref pa1), (.ref pa2), (.int 0), (.int 1)] 6)) t := fun t k => castTop (ef_au24_1 m pa1 pa2 (0 : Int32) (1 : Int32)) k
  have hS0 := hS
  obtain ⟨S_wINTEGER, E_wINTEGER, S_wDOUBLE, E_wDOUBLE, S_wBOOLEAN, E_wBOOLEAN, F_ordinal_wINTEGER, F_ordinal_wDOUBLE, F_ordinal_wBOOLEAN, S_wDEFAULTCAPACITY_EMPTY_ELEMENTDATA, E_wDEFAULTCAPACITY_EMPTY_ELEMENTDATA, V_wDEFAULTCAPACITY_EMPTY_ELEMENTDATA⟩ := hS0
  obtain ⟨T1, X1, e1, st1⟩ := getF X0 hx hZ hown (host := "") (Or.inl (ow hw 125 rfl)) Via.refl e0 P4 (g := (mkF m 3 #[(vr pa1), (vr pa2), (vi 0), (vi 1), .unset, .unset] [(.ref pa1), (.int 0), (.ref pa2)])) rfl rfl (hb hby d24_3)
  obtain ⟨cl2, Ar2, qc2, Sz2, Nn2, Ha2, Gg2⟩ := (id P14)
  have hin2 : ¬ ((1 : Int32) < 0 ∨ cl2.slots.size ≤ ((1 : Int32)).toNatClampNeg) := inb_of Sz2 ⟨by decide, by decide⟩
  have hat2 : cl2.slots[((1 : Int32)).toNatClampNeg]? = some (.int 0) := Ha2.at hin2 rfl
  obtain ⟨cl3, Ar3, qc3, Sz3, Nn3, Ha3, Gg3⟩ := (id P6)
  have hin3 : ¬ ((0 : Int32) < 0 ∨ cl3.slots.size ≤ ((0 : Int32)).toNatClampNeg) := inb_of Sz3 ⟨by decide, by decide⟩
  have hat3 : cl3.slots[((0 : Int32)).toNatClampNeg]? = some (.long pj8) := Ha3.at hin3 rfl
  obtain ⟨T4, X4, e4, st4⟩ := getF X1 hx hZ hown (host := "") (Or.inl (ow hw 127 rfl)) Via.refl e1 P3 (g := (mkF m 11 #[(vr pa1), (vr pa2), (vi 0), (vi 1), .unset, .unset] [(.ref pa1), (.long pj8)])) rfl rfl (hb hby d24_11)
  obtain ⟨cl5, Ar5, qc5, Sz5, Nn5, Ha5, Gg5⟩ := (id P12)
  have hin5 : ¬ ((1 : Int32) < 0 ∨ cl5.slots.size ≤ ((1 : Int32)).toNatClampNeg) := inb_of Sz5 ⟨by decide, by decide⟩
  have hat5 : cl5.slots[((1 : Int32)).toNatClampNeg]? = some (.int pi20) := Ha5.at hin5 rfl
  obtain ⟨T6, X6, e6, st6⟩ := getF X4 hx hZ hown (host := "") (Or.inl (ow hw 130 rfl)) Via.refl e4 P2 (g := (mkF m 18 #[(vr pa1), (vr pa2), (vi 0), (vi 1), .unset, .unset] [(.ref pa1), (.long ((pj8.toUInt64 >>> (pi20 &&& 0x3f).toInt64.toUInt64).toInt64))])) rfl rfl (hb hby d24_18)
  obtain ⟨cl7, Ar7, qc7, Sz7, Nn7, Ha7, Gg7⟩ := (id P10)
  have hin7 : ¬ ((1 : Int32) < 0 ∨ cl7.slots.size ≤ ((1 : Int32)).toNatClampNeg) := inb_of Sz7 ⟨by decide, by decide⟩
  have hat7 : cl7.slots[((1 : Int32)).toNatClampNeg]? = some (.long pj17) := Ha7.at hin7 rfl
  obtain ⟨T8, X8, e8, st8⟩ := getF X6 hx hZ hown (host := "") (Or.inl (ow hw 123 rfl)) Via.refl e6 P1 (g := (mkF m 27 #[(vr pa1), (vr pa2), (vi 0), (vi 1), .val (.long (((pj8.toUInt64 >>> (pi20 &&& 0x3f).toInt64.toUInt64).toInt64) &&& pj17)), .second] [(.ref pa1)])) rfl rfl (hb hby d24_27)
  obtain ⟨cl9, Ar9, qc9, Sz9, Nn9, Ha9, Gg9⟩ := (id P8)
  have hin9 : ¬ ((1 : Int32) < 0 ∨ cl9.slots.size ≤ ((1 : Int32)).toNatClampNeg) := inb_of Sz9 ⟨by decide, by decide⟩
  have hat9 : cl9.slots[((1 : Int32)).toNatClampNeg]? = some (.int pi13) := Ha9.at hin9 rfl
  obtain ⟨fs, hr, hrun, hended, hW, hsame⟩ := X8.leave (v := some (.int (pi13 + ((((pj8.toUInt64 >>> (pi20 &&& 0x3f).toInt64.toUInt64).toInt64) &&& pj17).toInt32)))) (fun h => by rw [hret0] at h; cases h)
  refine ⟨_, _, pre0 _ ?_, hrun, hended, _, _, rfl, ?_, ⟨_, rfl⟩, hW, hsame.mono (by decide) (by decide)⟩
  · skip
    show Steps p.tables e below (s₁.setTop (mkF m 0 #[(vr pa1), (vr pa2), (vi 0), (vi 1), .unset, .unset] [])) _
    refine XS.aloadN X0.here hx rfl (hb hby d24_0) rfl rfl ?_
    refine XS.iloadN X0.here hx rfl (hb hby d24_1) rfl ?_
    refine XS.aloadN X0.here hx rfl (hb hby d24_2) rfl rfl ?_
    refine st1 _ ?_
    refine XS.iloadN X1.here hx rfl (hb hby d24_6) rfl ?_
    refine X1.iaload hx (j := (1 : Int32)) (v := (.int 0)) (by rw [e1]; exact Ar2.1) (State.isArrayOf_alike hZ.alike Ar2.2.1) Ar2.2.2 hin2 hat2 (g := (mkF m 7 #[(vr pa1), (vr pa2), (vi 0), (vi 1), .unset, .unset] [(.int 1), (.ref pa6), (.int 0), (.ref pa2)])) rfl rfl (hb hby d24_7) _ ?_
    show Steps p.tables e below (T1.setTop (mkF m 8 #[(vr pa1), (vr pa2), (vi 0), (vi 1), .unset, .unset] [(.int 0), (.int 0), (.ref pa2)])) _
    refine XS.iadd X1.here hx rfl (hb hby d24_8) rfl ?_
    refine X1.laload hx (j := (0 : Int32)) (v := (.long pj8)) (by rw [e1]; exact Ar3.1) (State.isArrayOf_alike hZ.alike Ar3.2.1) Ar3.2.2 hin3 hat3 (g := (mkF m 9 #[(vr pa1), (vr pa2), (vi 0), (vi 1), .unset, .unset] [(.int 0), (.ref pa2)])) rfl rfl (hb hby d24_9) _ ?_
    refine XS.aloadN X1.here hx rfl (hb hby d24_10) rfl rfl ?_
    refine st4 _ ?_
    refine XS.iloadN X4.here hx rfl (hb hby d24_14) rfl ?_
    refine X4.iaload hx (j := (1 : Int32)) (v := (.int pi20)) (by rw [e4]; exact Ar5.1) (State.isArrayOf_alike hZ.alike Ar5.2.1) Ar5.2.2 hin5 hat5 (g := (mkF m 15 #[(vr pa1), (vr pa2), (vi 0), (vi 1), .unset, .unset] [(.int 1), (.ref pa5), (.long pj8)])) rfl rfl (hb hby d24_15) _ ?_
    show Steps p.tables e below (T4.setTop (mkF m 16 #[(vr pa1), (vr pa2), (vi 0), (vi 1), .unset, .unset] [(.int pi20), (.long pj8)])) _
    refine XS.lushr X4.here hx rfl (hb hby d24_16) rfl ?_
    refine XS.aloadN X4.here hx rfl (hb hby d24_17) rfl rfl ?_
    refine st6 _ ?_
    refine XS.iloadN X6.here hx rfl (hb hby d24_21) rfl ?_
    refine X6.laload hx (j := (1 : Int32)) (v := (.long pj17)) (by rw [e6]; exact Ar7.1) (State.isArrayOf_alike hZ.alike Ar7.2.1) Ar7.2.2 hin7 hat7 (g := (mkF m 22 #[(vr pa1), (vr pa2), (vi 0), (vi 1), .unset, .unset] [(.int 1), (.ref pa4), (.long ((pj8.toUInt64 >>> (pi20 &&& 0x3f).toInt64.toUInt64).toInt64))])) rfl rfl (hb hby d24_22) _ ?_
    refine XS.land X6.here hx rfl (hb hby d24_23) rfl ?_
    show Steps p.tables e below (T6.setTop (mkF m 24 #[(vr pa1), (vr pa2), (vi 0), (vi 1), .unset, .unset] [(.long (((pj8.toUInt64 >>> (pi20 &&& 0x3f).toInt64.toUInt64).toInt64) &&& pj17))])) _
    refine XS.lstore X6.here hx rfl (hb hby d24_24) rfl (l' := #[(vr pa1), (vr pa2), (vi 0), (vi 1), .val (.long (((pj8.toUInt64 >>> (pi20 &&& 0x3f).toInt64.toUInt64).toInt64) &&& pj17)), .second]) rfl ?_
    refine XS.aloadN X6.here hx rfl (hb hby d24_26) rfl rfl ?_
    refine st8 _ ?_
    refine XS.iloadN X8.here hx rfl (hb hby d24_30) rfl ?_
    refine X8.iaload hx (j := (1 : Int32)) (v := (.int pi13)) (by rw [e8]; exact Ar9.1) (State.isArrayOf_alike hZ.alike Ar9.2.1) Ar9.2.2 hin9 hat9 (g := (mkF m 31 #[(vr pa1), (vr pa2), (vi 0), (vi 1), .val (.long (((pj8.toUInt64 >>> (pi20 &&& 0x3f).toInt64.toUInt64).toInt64) &&& pj17)), .second] [(.int 1), (.ref pa3)])) rfl rfl (hb hby d24_31) _ ?_
    refine XS.lload X8.here hx rfl (hb hby d24_32) rfl ?_
    show Steps p.tables e below (T8.setTop (mkF m 34 #[(vr pa1), (vr pa2), (vi 0), (vi 1), .val (.long (((pj8.toUInt64 >>> (pi20 &&& 0x3f).toInt64.toUInt64).toInt64) &&& pj17)), .second] [(.long (((pj8.toUInt64 >>> (pi20 &&& 0x3f).toInt64.toUInt64).toInt64) &&& pj17)), (.int pi13)])) _
    refine XS.l2i X8.here hx rfl (hb hby d24_34) rfl ?_
    refine XS.iadd X8.here hx rfl (hb hby d24_35) rfl ?_
    exact retI X8 hx hret0 (hb hby d24_36) hr
  · show Q_au24_1 Z wINTEGER wDOUBLE wBOOLEAN wDEFAULTCAPACITY_EMPTY_ELEMENTDATA kwDEFAULTCAPACITY_EMPTY_ELEMENTDATA pa1 pa2 pa3 pa4 pa5 pa6 pk7 pj8 pj9 pj10 pk11 pi12 pi13 pi14 pk15 pj16 pj17 pj18 pk19 pi20 pk21 h0 n0 _ T8.heap _
    rw [e8]
    exact ⟨rfl, N0, rfl⟩
theorem ef_au24_2 (m : MethodId) (x0 : Addr) (x1 : Addr) (x2 : Int32) (x3 : Int32)  : entryFrame m #[(.ref x0), (.ref x1), (.int x2), (.int x3)] 6 = mkF m 0 #[(vr x0), (vr x1), (vi x2), (vi x3), .unset, .unset] [] := by first | (simp [entryFrame, mkF, argsToLocals, Value.category]; done) | rfl
def Q_au24_2 (Z : State) (wINTEGER : Addr) (wDOUBLE : Addr) (wBOOLEAN : Addr) (wDEFAULTCAPACITY_EMPTY_ELEMENTDATA : Addr) (kwDEFAULTCAPACITY_EMPTY_ELEMENTDATA : ClassId) (pa1 : Addr) (pa2 : Addr) (pa3 : Addr) (pa4 : Addr) (pa5 : Addr) (pa6 : Addr) (pk7 : ClassId) (pj8 : Int64) (pj9 : Int64) (pj10 : Int64) (pk11 : ClassId) (pi12 : Int32) (pi13 : Int32) (pi14 : Int32) (pk15 : ClassId) (pj16 : Int64) (pj17 : Int64) (pj18 : Int64) (pk19 : ClassId) (pi20 : Int32) (pk21 : ClassId) (h0 : Heap) (n0 : Nat) (v : Option Value) (h : Heap) (L : List Loc) : Prop := v = some (.int (pi14 + ((((pj9.toUInt64 >>> ((0 : Int32) &&& 0x3f).toInt64.toUInt64).toInt64) &&& pj18).toInt32))) ∧ Fr n0 L ∧ h = h0
theorem au24_2 (l : Launch) (Z : State) (a0 : Array Value) (hw : ∀ d ∈ tables_1, d.before a0 Z = true) (ws : List Jvm.Cond) (wINTEGER : Addr) (wDOUBLE : Addr) (wBOOLEAN : Addr) (wDEFAULTCAPACITY_EMPTY_ELEMENTDATA : Addr) (kwDEFAULTCAPACITY_EMPTY_ELEMENTDATA : ClassId) (hS : SS Z wINTEGER wDOUBLE wBOOLEAN wDEFAULTCAPACITY_EMPTY_ELEMENTDATA kwDEFAULTCAPACITY_EMPTY_ELEMENTDATA) (pa1 : Addr) (pa2 : Addr) (pa3 : Addr) (pa4 : Addr) (pa5 : Addr) (pa6 : Addr) (pk7 : ClassId) (pj8 : Int64) (pj9 : Int64) (pj10 : Int64) (pk11 : ClassId) (pi12 : Int32) (pi13 : Int32) (pi14 : Int32) (pk15 : ClassId) (pj16 : Int64) (pj17 : Int64) (pj18 : Int64) (pk19 : ClassId) (pi20 : Int32) (pk21 : ClassId) (h0 : Heap) (n0 : Nat) (O0 : Old Z n0 h0) (P1 : Fld Z h0 pa1 s9n "low" "[I" (.ref pa3)) (P2 : Fld Z h0 pa1 s9n "mask" "[J" (.ref pa4)) (P3 : Fld Z h0 pa1 s9n "shift" "[I" (.ref pa5)) (P4 : Fld Z h0 pa1 s9n "word" "[I" (.ref pa6)) (P6 : Arv Z h0 pa2 pk7 .long (4 : Int32) ([(.long pj8), (.long pj9), (.long pj10), (.long pj10)]) (.long 0)) (P8 : Arv Z h0 pa3 pk11 .int (3 : Int32) ([(.int pi12), (.int pi13), (.int pi14)]) (.int 0)) (P10 : Arv Z h0 pa4 pk15 .long (3 : Int32) ([(.long pj16), (.long pj17), (.long pj18)]) (.long 0)) (P12 : Arv Z h0 pa5 pk19 .int (3 : Int32) ([(.int 0), (.int pi20), (.int 0)]) (.int 0)) (P14 : Arv Z h0 pa6 pk21 .int (3 : Int32) ([(.int 0), (.int 0), (.int 1)]) (.int 0)) :
    MetB l M24 prog_105_method_5_code 6 (some .int) ws (rmk 0 0 0 0) Z h0 #[(.ref pa1), (.ref pa2), (.int 0), (.int 2)] (Q_au24_2 Z wINTEGER wDOUBLE wBOOLEAN wDEFAULTCAPACITY_EMPTY_ELEMENTDATA kwDEFAULTCAPACITY_EMPTY_ELEMENTDATA pa1 pa2 pa3 pa4 pa5 pa6 pk7 pj8 pj9 pj10 pk11 pi12 pi13 pi14 pk15 pj16 pj17 pj18 pk19 pi20 pk21 h0 n0) := by
  refine own_body (plainFor_of_name pn_com_example_lanc_lanc_model_VariableLayout) ?_
  intro p e s m below meth c s₁ hx hby hml hown hnm hret0 hlk0 hZ X0 e0
  have N0 := Fr.nil n0
  have pre0 : ∀ t, Steps p.tables e below (s₁.setTop (mkF m 0 #[(vr pa1), (vr pa2), (vi 0), (vi 2), .unset, .unset] [])) t → Steps p.tables e below (s₁.setTop (entryFrame m #[(.ref pa1), (.ref pa2), (.int 0), (.int 2)] 6)) t := fun t k => castTop (ef_au24_2 m pa1 pa2 (0 : Int32) (2 : Int32)) k
  have hS0 := hS
  obtain ⟨S_wINTEGER, E_wINTEGER, S_wDOUBLE, E_wDOUBLE, S_wBOOLEAN, E_wBOOLEAN, F_ordinal_wINTEGER, F_ordinal_wDOUBLE, F_ordinal_wBOOLEAN, S_wDEFAULTCAPACITY_EMPTY_ELEMENTDATA, E_wDEFAULTCAPACITY_EMPTY_ELEMENTDATA, V_wDEFAULTCAPACITY_EMPTY_ELEMENTDATA⟩ := hS0
  obtain ⟨T1, X1, e1, st1⟩ := getF X0 hx hZ hown (host := "") (Or.inl (ow hw 125 rfl)) Via.refl e0 P4 (g := (mkF m 3 #[(vr pa1), (vr pa2), (vi 0), (vi 2), .unset, .unset] [(.ref pa1), (.int 0), (.ref pa2)])) rfl rfl (hb hby d24_3)
  obtain ⟨cl2, Ar2, qc2, Sz2, Nn2, Ha2, Gg2⟩ := (id P14)
  have hin2 : ¬ ((2 : Int32) < 0 ∨ cl2.slots.size ≤ ((2 : Int32)).toNatClampNeg) := inb_of Sz2 ⟨by decide, by decide⟩
  have hat2 : cl2.slots[((2 : Int32)).toNatClampNeg]? = some (.int 1) := Ha2.at hin2 rfl
  obtain ⟨cl3, Ar3, qc3, Sz3, Nn3, Ha3, Gg3⟩ := (id P6)
  have hin3 : ¬ ((1 : Int32) < 0 ∨ cl3.slots.size ≤ ((1 : Int32)).toNatClampNeg) := inb_of Sz3 ⟨by decide, by decide⟩
  have hat3 : cl3.slots[((1 : Int32)).toNatClampNeg]? = some (.long pj9) := Ha3.at hin3 rfl
  obtain ⟨T4, X4, e4, st4⟩ := getF X1 hx hZ hown (host := "") (Or.inl (ow hw 127 rfl)) Via.refl e1 P3 (g := (mkF m 11 #[(vr pa1), (vr pa2), (vi 0), (vi 2), .unset, .unset] [(.ref pa1), (.long pj9)])) rfl rfl (hb hby d24_11)
  obtain ⟨cl5, Ar5, qc5, Sz5, Nn5, Ha5, Gg5⟩ := (id P12)
  have hin5 : ¬ ((2 : Int32) < 0 ∨ cl5.slots.size ≤ ((2 : Int32)).toNatClampNeg) := inb_of Sz5 ⟨by decide, by decide⟩
  have hat5 : cl5.slots[((2 : Int32)).toNatClampNeg]? = some (.int 0) := Ha5.at hin5 rfl
  obtain ⟨T6, X6, e6, st6⟩ := getF X4 hx hZ hown (host := "") (Or.inl (ow hw 130 rfl)) Via.refl e4 P2 (g := (mkF m 18 #[(vr pa1), (vr pa2), (vi 0), (vi 2), .unset, .unset] [(.ref pa1), (.long ((pj9.toUInt64 >>> ((0 : Int32) &&& 0x3f).toInt64.toUInt64).toInt64))])) rfl rfl (hb hby d24_18)
  obtain ⟨cl7, Ar7, qc7, Sz7, Nn7, Ha7, Gg7⟩ := (id P10)
  have hin7 : ¬ ((2 : Int32) < 0 ∨ cl7.slots.size ≤ ((2 : Int32)).toNatClampNeg) := inb_of Sz7 ⟨by decide, by decide⟩
  have hat7 : cl7.slots[((2 : Int32)).toNatClampNeg]? = some (.long pj18) := Ha7.at hin7 rfl
  obtain ⟨T8, X8, e8, st8⟩ := getF X6 hx hZ hown (host := "") (Or.inl (ow hw 123 rfl)) Via.refl e6 P1 (g := (mkF m 27 #[(vr pa1), (vr pa2), (vi 0), (vi 2), .val (.long (((pj9.toUInt64 >>> ((0 : Int32) &&& 0x3f).toInt64.toUInt64).toInt64) &&& pj18)), .second] [(.ref pa1)])) rfl rfl (hb hby d24_27)
  obtain ⟨cl9, Ar9, qc9, Sz9, Nn9, Ha9, Gg9⟩ := (id P8)
  have hin9 : ¬ ((2 : Int32) < 0 ∨ cl9.slots.size ≤ ((2 : Int32)).toNatClampNeg) := inb_of Sz9 ⟨by decide, by decide⟩
  have hat9 : cl9.slots[((2 : Int32)).toNatClampNeg]? = some (.int pi14) := Ha9.at hin9 rfl
  obtain ⟨fs, hr, hrun, hended, hW, hsame⟩ := X8.leave (v := some (.int (pi14 + ((((pj9.toUInt64 >>> ((0 : Int32) &&& 0x3f).toInt64.toUInt64).toInt64) &&& pj18).toInt32)))) (fun h => by rw [hret0] at h; cases h)
  refine ⟨_, _, pre0 _ ?_, hrun, hended, _, _, rfl, ?_, ⟨_, rfl⟩, hW, hsame.mono (by decide) (by decide)⟩
  · skip
    show Steps p.tables e below (s₁.setTop (mkF m 0 #[(vr pa1), (vr pa2), (vi 0), (vi 2), .unset, .unset] [])) _
    refine XS.aloadN X0.here hx rfl (hb hby d24_0) rfl rfl ?_
    refine XS.iloadN X0.here hx rfl (hb hby d24_1) rfl ?_
    refine XS.aloadN X0.here hx rfl (hb hby d24_2) rfl rfl ?_
    refine st1 _ ?_
    refine XS.iloadN X1.here hx rfl (hb hby d24_6) rfl ?_
    refine X1.iaload hx (j := (2 : Int32)) (v := (.int 1)) (by rw [e1]; exact Ar2.1) (State.isArrayOf_alike hZ.alike Ar2.2.1) Ar2.2.2 hin2 hat2 (g := (mkF m 7 #[(vr pa1), (vr pa2), (vi 0), (vi 2), .unset, .unset] [(.int 2), (.ref pa6), (.int 0), (.ref pa2)])) rfl rfl (hb hby d24_7) _ ?_
    show Steps p.tables e below (T1.setTop (mkF m 8 #[(vr pa1), (vr pa2), (vi 0), (vi 2), .unset, .unset] [(.int 1), (.int 0), (.ref pa2)])) _
    refine XS.iadd X1.here hx rfl (hb hby d24_8) rfl ?_
    refine X1.laload hx (j := (1 : Int32)) (v := (.long pj9)) (by rw [e1]; exact Ar3.1) (State.isArrayOf_alike hZ.alike Ar3.2.1) Ar3.2.2 hin3 hat3 (g := (mkF m 9 #[(vr pa1), (vr pa2), (vi 0), (vi 2), .unset, .unset] [(.int 1), (.ref pa2)])) rfl rfl (hb hby d24_9) _ ?_
    refine XS.aloadN X1.here hx rfl (hb hby d24_10) rfl rfl ?_
    refine st4 _ ?_
    refine XS.iloadN X4.here hx rfl (hb hby d24_14) rfl ?_
    refine X4.iaload hx (j := (2 : Int32)) (v := (.int 0)) (by rw [e4]; exact Ar5.1) (State.isArrayOf_alike hZ.alike Ar5.2.1) Ar5.2.2 hin5 hat5 (g := (mkF m 15 #[(vr pa1), (vr pa2), (vi 0), (vi 2), .unset, .unset] [(.int 2), (.ref pa5), (.long pj9)])) rfl rfl (hb hby d24_15) _ ?_
    show Steps p.tables e below (T4.setTop (mkF m 16 #[(vr pa1), (vr pa2), (vi 0), (vi 2), .unset, .unset] [(.int 0), (.long pj9)])) _
    refine XS.lushr X4.here hx rfl (hb hby d24_16) rfl ?_
    refine XS.aloadN X4.here hx rfl (hb hby d24_17) rfl rfl ?_
    refine st6 _ ?_
    refine XS.iloadN X6.here hx rfl (hb hby d24_21) rfl ?_
    refine X6.laload hx (j := (2 : Int32)) (v := (.long pj18)) (by rw [e6]; exact Ar7.1) (State.isArrayOf_alike hZ.alike Ar7.2.1) Ar7.2.2 hin7 hat7 (g := (mkF m 22 #[(vr pa1), (vr pa2), (vi 0), (vi 2), .unset, .unset] [(.int 2), (.ref pa4), (.long ((pj9.toUInt64 >>> ((0 : Int32) &&& 0x3f).toInt64.toUInt64).toInt64))])) rfl rfl (hb hby d24_22) _ ?_
    refine XS.land X6.here hx rfl (hb hby d24_23) rfl ?_
    show Steps p.tables e below (T6.setTop (mkF m 24 #[(vr pa1), (vr pa2), (vi 0), (vi 2), .unset, .unset] [(.long (((pj9.toUInt64 >>> ((0 : Int32) &&& 0x3f).toInt64.toUInt64).toInt64) &&& pj18))])) _
    refine XS.lstore X6.here hx rfl (hb hby d24_24) rfl (l' := #[(vr pa1), (vr pa2), (vi 0), (vi 2), .val (.long (((pj9.toUInt64 >>> ((0 : Int32) &&& 0x3f).toInt64.toUInt64).toInt64) &&& pj18)), .second]) rfl ?_
    refine XS.aloadN X6.here hx rfl (hb hby d24_26) rfl rfl ?_
    refine st8 _ ?_
    refine XS.iloadN X8.here hx rfl (hb hby d24_30) rfl ?_
    refine X8.iaload hx (j := (2 : Int32)) (v := (.int pi14)) (by rw [e8]; exact Ar9.1) (State.isArrayOf_alike hZ.alike Ar9.2.1) Ar9.2.2 hin9 hat9 (g := (mkF m 31 #[(vr pa1), (vr pa2), (vi 0), (vi 2), .val (.long (((pj9.toUInt64 >>> ((0 : Int32) &&& 0x3f).toInt64.toUInt64).toInt64) &&& pj18)), .second] [(.int 2), (.ref pa3)])) rfl rfl (hb hby d24_31) _ ?_
    refine XS.lload X8.here hx rfl (hb hby d24_32) rfl ?_
    show Steps p.tables e below (T8.setTop (mkF m 34 #[(vr pa1), (vr pa2), (vi 0), (vi 2), .val (.long (((pj9.toUInt64 >>> ((0 : Int32) &&& 0x3f).toInt64.toUInt64).toInt64) &&& pj18)), .second] [(.long (((pj9.toUInt64 >>> ((0 : Int32) &&& 0x3f).toInt64.toUInt64).toInt64) &&& pj18)), (.int pi14)])) _
    refine XS.l2i X8.here hx rfl (hb hby d24_34) rfl ?_
    refine XS.iadd X8.here hx rfl (hb hby d24_35) rfl ?_
    exact retI X8 hx hret0 (hb hby d24_36) hr
  · show Q_au24_2 Z wINTEGER wDOUBLE wBOOLEAN wDEFAULTCAPACITY_EMPTY_ELEMENTDATA kwDEFAULTCAPACITY_EMPTY_ELEMENTDATA pa1 pa2 pa3 pa4 pa5 pa6 pk7 pj8 pj9 pj10 pk11 pi12 pi13 pi14 pk15 pj16 pj17 pj18 pk19 pi20 pk21 h0 n0 _ T8.heap _
    rw [e8]
    exact ⟨rfl, N0, rfl⟩
theorem ef_au24_3 (m : MethodId) (x0 : Addr) (x1 : Addr) (x2 : Int32) (x3 : Int32)  : entryFrame m #[(.ref x0), (.ref x1), (.int x2), (.int x3)] 6 = mkF m 0 #[(vr x0), (vr x1), (vi x2), (vi x3), .unset, .unset] [] := by first | (simp [entryFrame, mkF, argsToLocals, Value.category]; done) | rfl
def Q_au24_3 (Z : State) (wINTEGER : Addr) (wDOUBLE : Addr) (wBOOLEAN : Addr) (wDEFAULTCAPACITY_EMPTY_ELEMENTDATA : Addr) (kwDEFAULTCAPACITY_EMPTY_ELEMENTDATA : ClassId) (pa1 : Addr) (pa2 : Addr) (pa3 : Addr) (pa4 : Addr) (pa5 : Addr) (pa6 : Addr) (pk7 : ClassId) (pj8 : Int64) (pj9 : Int64) (pj10 : Int64) (pk11 : ClassId) (pi12 : Int32) (pi13 : Int32) (pi14 : Int32) (pk15 : ClassId) (pj16 : Int64) (pj17 : Int64) (pj18 : Int64) (pk19 : ClassId) (pi20 : Int32) (pk21 : ClassId) (h0 : Heap) (n0 : Nat) (v : Option Value) (h : Heap) (L : List Loc) : Prop := v = some (.int (pi12 + ((((pj9.toUInt64 >>> ((0 : Int32) &&& 0x3f).toInt64.toUInt64).toInt64) &&& pj16).toInt32))) ∧ Fr n0 L ∧ h = h0
theorem au24_3 (l : Launch) (Z : State) (a0 : Array Value) (hw : ∀ d ∈ tables_1, d.before a0 Z = true) (ws : List Jvm.Cond) (wINTEGER : Addr) (wDOUBLE : Addr) (wBOOLEAN : Addr) (wDEFAULTCAPACITY_EMPTY_ELEMENTDATA : Addr) (kwDEFAULTCAPACITY_EMPTY_ELEMENTDATA : ClassId) (hS : SS Z wINTEGER wDOUBLE wBOOLEAN wDEFAULTCAPACITY_EMPTY_ELEMENTDATA kwDEFAULTCAPACITY_EMPTY_ELEMENTDATA) (pa1 : Addr) (pa2 : Addr) (pa3 : Addr) (pa4 : Addr) (pa5 : Addr) (pa6 : Addr) (pk7 : ClassId) (pj8 : Int64) (pj9 : Int64) (pj10 : Int64) (pk11 : ClassId) (pi12 : Int32) (pi13 : Int32) (pi14 : Int32) (pk15 : ClassId) (pj16 : Int64) (pj17 : Int64) (pj18 : Int64) (pk19 : ClassId) (pi20 : Int32) (pk21 : ClassId) (h0 : Heap) (n0 : Nat) (O0 : Old Z n0 h0) (P1 : Fld Z h0 pa1 s9n "low" "[I" (.ref pa3)) (P2 : Fld Z h0 pa1 s9n "mask" "[J" (.ref pa4)) (P3 : Fld Z h0 pa1 s9n "shift" "[I" (.ref pa5)) (P4 : Fld Z h0 pa1 s9n "word" "[I" (.ref pa6)) (P6 : Arv Z h0 pa2 pk7 .long (4 : Int32) ([(.long pj8), (.long pj9), (.long pj10), (.long pj8)]) (.long 0)) (P8 : Arv Z h0 pa3 pk11 .int (3 : Int32) ([(.int pi12), (.int pi13), (.int pi14)]) (.int 0)) (P10 : Arv Z h0 pa4 pk15 .long (3 : Int32) ([(.long pj16), (.long pj17), (.long pj18)]) (.long 0)) (P12 : Arv Z h0 pa5 pk19 .int (3 : Int32) ([(.int 0), (.int pi20), (.int 0)]) (.int 0)) (P14 : Arv Z h0 pa6 pk21 .int (3 : Int32) ([(.int 0), (.int 0), (.int 1)]) (.int 0)) :
    MetB l M24 prog_105_method_5_code 6 (some .int) ws (rmk 0 0 0 0) Z h0 #[(.ref pa1), (.ref pa2), (.int 1), (.int 0)] (Q_au24_3 Z wINTEGER wDOUBLE wBOOLEAN wDEFAULTCAPACITY_EMPTY_ELEMENTDATA kwDEFAULTCAPACITY_EMPTY_ELEMENTDATA pa1 pa2 pa3 pa4 pa5 pa6 pk7 pj8 pj9 pj10 pk11 pi12 pi13 pi14 pk15 pj16 pj17 pj18 pk19 pi20 pk21 h0 n0) := by
  refine own_body (plainFor_of_name pn_com_example_lanc_lanc_model_VariableLayout) ?_
  intro p e s m below meth c s₁ hx hby hml hown hnm hret0 hlk0 hZ X0 e0
  have N0 := Fr.nil n0
  have pre0 : ∀ t, Steps p.tables e below (s₁.setTop (mkF m 0 #[(vr pa1), (vr pa2), (vi 1), (vi 0), .unset, .unset] [])) t → Steps p.tables e below (s₁.setTop (entryFrame m #[(.ref pa1), (.ref pa2), (.int 1), (.int 0)] 6)) t := fun t k => castTop (ef_au24_3 m pa1 pa2 (1 : Int32) (0 : Int32)) k
  have hS0 := hS
  obtain ⟨S_wINTEGER, E_wINTEGER, S_wDOUBLE, E_wDOUBLE, S_wBOOLEAN, E_wBOOLEAN, F_ordinal_wINTEGER, F_ordinal_wDOUBLE, F_ordinal_wBOOLEAN, S_wDEFAULTCAPACITY_EMPTY_ELEMENTDATA, E_wDEFAULTCAPACITY_EMPTY_ELEMENTDATA, V_wDEFAULTCAPACITY_EMPTY_ELEMENTDATA⟩ := hS0
  obtain ⟨T1, X1, e1, st1⟩ := getF X0 hx hZ hown (host := "") (Or.inl (ow hw 125 rfl)) Via.refl e0 P4 (g := (mkF m 3 #[(vr pa1), (vr pa2), (vi 1), (vi 0), .unset, .unset] [(.ref pa1), (.int 1), (.ref pa2)])) rfl rfl (hb hby d24_3)
  obtain ⟨cl2, Ar2, qc2, Sz2, Nn2, Ha2, Gg2⟩ := (id P14)
  have hin2 : ¬ ((0 : Int32) < 0 ∨ cl2.slots.size ≤ ((0 : Int32)).toNatClampNeg) := inb_of Sz2 ⟨by decide, by decide⟩
  have hat2 : cl2.slots[((0 : Int32)).toNatClampNeg]? = some (.int 0) := Ha2.at hin2 rfl
  obtain ⟨cl3, Ar3, qc3, Sz3, Nn3, Ha3, Gg3⟩ := (id P6)
  have hin3 : ¬ ((1 : Int32) < 0 ∨ cl3.slots.size ≤ ((1 : Int32)).toNatClampNeg) := inb_of Sz3 ⟨by decide, by decide⟩
  have hat3 : cl3.slots[((1 : Int32)).toNatClampNeg]? = some (.long pj9) := Ha3.at hin3 rfl
  obtain ⟨T4, X4, e4, st4⟩ := getF X1 hx hZ hown (host := "") (Or.inl (ow hw 127 rfl)) Via.refl e1 P3 (g := (mkF m 11 #[(vr pa1), (vr pa2), (vi 1), (vi 0), .unset, .unset] [(.ref pa1), (.long pj9)])) rfl rfl (hb hby d24_11)
  obtain ⟨cl5, Ar5, qc5, Sz5, Nn5, Ha5, Gg5⟩ := (id P12)
  have hin5 : ¬ ((0 : Int32) < 0 ∨ cl5.slots.size ≤ ((0 : Int32)).toNatClampNeg) := inb_of Sz5 ⟨by decide, by decide⟩
  have hat5 : cl5.slots[((0 : Int32)).toNatClampNeg]? = some (.int 0) := Ha5.at hin5 rfl
  obtain ⟨T6, X6, e6, st6⟩ := getF X4 hx hZ hown (host := "") (Or.inl (ow hw 130 rfl)) Via.refl e4 P2 (g := (mkF m 18 #[(vr pa1), (vr pa2), (vi 1), (vi 0), .unset, .unset] [(.ref pa1), (.long ((pj9.toUInt64 >>> ((0 : Int32) &&& 0x3f).toInt64.toUInt64).toInt64))])) rfl rfl (hb hby d24_18)
  obtain ⟨cl7, Ar7, qc7, Sz7, Nn7, Ha7, Gg7⟩ := (id P10)
  have hin7 : ¬ ((0 : Int32) < 0 ∨ cl7.slots.size ≤ ((0 : Int32)).toNatClampNeg) := inb_of Sz7 ⟨by decide, by decide⟩
  have hat7 : cl7.slots[((0 : Int32)).toNatClampNeg]? = some (.long pj16) := Ha7.at hin7 rfl
  obtain ⟨T8, X8, e8, st8⟩ := getF X6 hx hZ hown (host := "") (Or.inl (ow hw 123 rfl)) Via.refl e6 P1 (g := (mkF m 27 #[(vr pa1), (vr pa2), (vi 1), (vi 0), .val (.long (((pj9.toUInt64 >>> ((0 : Int32) &&& 0x3f).toInt64.toUInt64).toInt64) &&& pj16)), .second] [(.ref pa1)])) rfl rfl (hb hby d24_27)
  obtain ⟨cl9, Ar9, qc9, Sz9, Nn9, Ha9, Gg9⟩ := (id P8)
  have hin9 : ¬ ((0 : Int32) < 0 ∨ cl9.slots.size ≤ ((0 : Int32)).toNatClampNeg) := inb_of Sz9 ⟨by decide, by decide⟩
  have hat9 : cl9.slots[((0 : Int32)).toNatClampNeg]? = some (.int pi12) := Ha9.at hin9 rfl
  obtain ⟨fs, hr, hrun, hended, hW, hsame⟩ := X8.leave (v := some (.int (pi12 + ((((pj9.toUInt64 >>> ((0 : Int32) &&& 0x3f).toInt64.toUInt64).toInt64) &&& pj16).toInt32)))) (fun h => by rw [hret0] at h; cases h)
  refine ⟨_, _, pre0 _ ?_, hrun, hended, _, _, rfl, ?_, ⟨_, rfl⟩, hW, hsame.mono (by decide) (by decide)⟩
  · skip
    show Steps p.tables e below (s₁.setTop (mkF m 0 #[(vr pa1), (vr pa2), (vi 1), (vi 0), .unset, .unset] [])) _
    refine XS.aloadN X0.here hx rfl (hb hby d24_0) rfl rfl ?_
    refine XS.iloadN X0.here hx rfl (hb hby d24_1) rfl ?_
    refine XS.aloadN X0.here hx rfl (hb hby d24_2) rfl rfl ?_
    refine st1 _ ?_
    refine XS.iloadN X1.here hx rfl (hb hby d24_6) rfl ?_
    refine X1.iaload hx (j := (0 : Int32)) (v := (.int 0)) (by rw [e1]; exact Ar2.1) (State.isArrayOf_alike hZ.alike Ar2.2.1) Ar2.2.2 hin2 hat2 (g := (mkF m 7 #[(vr pa1), (vr pa2), (vi 1), (vi 0), .unset, .unset] [(.int 0), (.ref pa6), (.int 1), (.ref pa2)])) rfl rfl (hb hby d24_7) _ ?_
    show Steps p.tables e below (T1.setTop (mkF m 8 #[(vr pa1), (vr pa2), (vi 1), (vi 0), .unset, .unset] [(.int 0), (.int 1), (.ref pa2)])) _
    refine XS.iadd X1.here hx rfl (hb hby d24_8) rfl ?_
    refine X1.laload hx (j := (1 : Int32)) (v := (.long pj9)) (by rw [e1]; exact Ar3.1) (State.isArrayOf_alike hZ.alike Ar3.2.1) Ar3.2.2 hin3 hat3 (g := (mkF m 9 #[(vr pa1), (vr pa2), (vi 1), (vi 0), .unset, .unset] [(.int 1), (.ref pa2)])) rfl rfl (hb hby d24_9) _ ?_
    refine XS.aloadN X1.here hx rfl (hb hby d24_10) rfl rfl ?_
    refine st4 _ ?_
    refine XS.iloadN X4.here hx rfl (hb hby d24_14) rfl ?_
    refine X4.iaload hx (j := (0 : Int32)) (v := (.int 0)) (by rw [e4]; exact Ar5.1) (State.isArrayOf_alike hZ.alike Ar5.2.1) Ar5.2.2 hin5 hat5 (g := (mkF m 15 #[(vr pa1), (vr pa2), (vi 1), (vi 0), .unset, .unset] [(.int 0), (.ref pa5), (.long pj9)])) rfl rfl (hb hby d24_15) _ ?_
    show Steps p.tables e below (T4.setTop (mkF m 16 #[(vr pa1), (vr pa2), (vi 1), (vi 0), .unset, .unset] [(.int 0), (.long pj9)])) _
    refine XS.lushr X4.here hx rfl (hb hby d24_16) rfl ?_
    refine XS.aloadN X4.here hx rfl (hb hby d24_17) rfl rfl ?_
    refine st6 _ ?_
    refine XS.iloadN X6.here hx rfl (hb hby d24_21) rfl ?_
    refine X6.laload hx (j := (0 : Int32)) (v := (.long pj16)) (by rw [e6]; exact Ar7.1) (State.isArrayOf_alike hZ.alike Ar7.2.1) Ar7.2.2 hin7 hat7 (g := (mkF m 22 #[(vr pa1), (vr pa2), (vi 1), (vi 0), .unset, .unset] [(.int 0), (.ref pa4), (.long ((pj9.toUInt64 >>> ((0 : Int32) &&& 0x3f).toInt64.toUInt64).toInt64))])) rfl rfl (hb hby d24_22) _ ?_
    refine XS.land X6.here hx rfl (hb hby d24_23) rfl ?_
    show Steps p.tables e below (T6.setTop (mkF m 24 #[(vr pa1), (vr pa2), (vi 1), (vi 0), .unset, .unset] [(.long (((pj9.toUInt64 >>> ((0 : Int32) &&& 0x3f).toInt64.toUInt64).toInt64) &&& pj16))])) _
    refine XS.lstore X6.here hx rfl (hb hby d24_24) rfl (l' := #[(vr pa1), (vr pa2), (vi 1), (vi 0), .val (.long (((pj9.toUInt64 >>> ((0 : Int32) &&& 0x3f).toInt64.toUInt64).toInt64) &&& pj16)), .second]) rfl ?_
    refine XS.aloadN X6.here hx rfl (hb hby d24_26) rfl rfl ?_
    refine st8 _ ?_
    refine XS.iloadN X8.here hx rfl (hb hby d24_30) rfl ?_
    refine X8.iaload hx (j := (0 : Int32)) (v := (.int pi12)) (by rw [e8]; exact Ar9.1) (State.isArrayOf_alike hZ.alike Ar9.2.1) Ar9.2.2 hin9 hat9 (g := (mkF m 31 #[(vr pa1), (vr pa2), (vi 1), (vi 0), .val (.long (((pj9.toUInt64 >>> ((0 : Int32) &&& 0x3f).toInt64.toUInt64).toInt64) &&& pj16)), .second] [(.int 0), (.ref pa3)])) rfl rfl (hb hby d24_31) _ ?_
    refine XS.lload X8.here hx rfl (hb hby d24_32) rfl ?_
    show Steps p.tables e below (T8.setTop (mkF m 34 #[(vr pa1), (vr pa2), (vi 1), (vi 0), .val (.long (((pj9.toUInt64 >>> ((0 : Int32) &&& 0x3f).toInt64.toUInt64).toInt64) &&& pj16)), .second] [(.long (((pj9.toUInt64 >>> ((0 : Int32) &&& 0x3f).toInt64.toUInt64).toInt64) &&& pj16)), (.int pi12)])) _
    refine XS.l2i X8.here hx rfl (hb hby d24_34) rfl ?_
    refine XS.iadd X8.here hx rfl (hb hby d24_35) rfl ?_
    exact retI X8 hx hret0 (hb hby d24_36) hr
  · show Q_au24_3 Z wINTEGER wDOUBLE wBOOLEAN wDEFAULTCAPACITY_EMPTY_ELEMENTDATA kwDEFAULTCAPACITY_EMPTY_ELEMENTDATA pa1 pa2 pa3 pa4 pa5 pa6 pk7 pj8 pj9 pj10 pk11 pi12 pi13 pi14 pk15 pj16 pj17 pj18 pk19 pi20 pk21 h0 n0 _ T8.heap _
    rw [e8]
    exact ⟨rfl, N0, rfl⟩
theorem ef_au24_4 (m : MethodId) (x0 : Addr) (x1 : Addr) (x2 : Int32) (x3 : Int32)  : entryFrame m #[(.ref x0), (.ref x1), (.int x2), (.int x3)] 6 = mkF m 0 #[(vr x0), (vr x1), (vi x2), (vi x3), .unset, .unset] [] := by first | (simp [entryFrame, mkF, argsToLocals, Value.category]; done) | rfl
def Q_au24_4 (Z : State) (wINTEGER : Addr) (wDOUBLE : Addr) (wBOOLEAN : Addr) (wDEFAULTCAPACITY_EMPTY_ELEMENTDATA : Addr) (kwDEFAULTCAPACITY_EMPTY_ELEMENTDATA : ClassId) (pa1 : Addr) (pa2 : Addr) (pa3 : Addr) (pa4 : Addr) (pa5 : Addr) (pa6 : Addr) (pk7 : ClassId) (pj8 : Int64) (pj9 : Int64) (pj10 : Int64) (pk11 : ClassId) (pi12 : Int32) (pi13 : Int32) (pi14 : Int32) (pk15 : ClassId) (pj16 : Int64) (pj17 : Int64) (pj18 : Int64) (pk19 : ClassId) (pi20 : Int32) (pk21 : ClassId) (h0 : Heap) (n0 : Nat) (v : Option Value) (h : Heap) (L : List Loc) : Prop := v = some (.int (pi13 + ((((pj9.toUInt64 >>> (pi20 &&& 0x3f).toInt64.toUInt64).toInt64) &&& pj17).toInt32))) ∧ Fr n0 L ∧ h = h0
theorem au24_4 (l : Launch) (Z : State) (a0 : Array Value) (hw : ∀ d ∈ tables_1, d.before a0 Z = true) (ws : List Jvm.Cond) (wINTEGER : Addr) (wDOUBLE : Addr) (wBOOLEAN : Addr) (wDEFAULTCAPACITY_EMPTY_ELEMENTDATA : Addr) (kwDEFAULTCAPACITY_EMPTY_ELEMENTDATA : ClassId) (hS : SS Z wINTEGER wDOUBLE wBOOLEAN wDEFAULTCAPACITY_EMPTY_ELEMENTDATA kwDEFAULTCAPACITY_EMPTY_ELEMENTDATA) (pa1 : Addr) (pa2 : Addr) (pa3 : Addr) (pa4 : Addr) (pa5 : Addr) (pa6 : Addr) (pk7 : ClassId) (pj8 : Int64) (pj9 : Int64) (pj10 : Int64) (pk11 : ClassId) (pi12 : Int32) (pi13 : Int32) (pi14 : Int32) (pk15 : ClassId) (pj16 : Int64) (pj17 : Int64) (pj18 : Int64) (pk19 : ClassId) (pi20 : Int32) (pk21 : ClassId) (h0 : Heap) (n0 : Nat) (O0 : Old Z n0 h0) (P1 : Fld Z h0 pa1 s9n "low" "[I" (.ref pa3)) (P2 : Fld Z h0 pa1 s9n "mask" "[J" (.ref pa4)) (P3 : Fld Z h0 pa1 s9n "shift" "[I" (.ref pa5)) (P4 : Fld Z h0 pa1 s9n "word" "[I" (.ref pa6)) (P6 : Arv Z h0 pa2 pk7 .long (4 : Int32) ([(.long pj8), (.long pj9), (.long pj10), (.long pj8)]) (.long 0)) (P8 : Arv Z h0 pa3 pk11 .int (3 : Int32) ([(.int pi12), (.int pi13), (.int pi14)]) (.int 0)) (P10 : Arv Z h0 pa4 pk15 .long (3 : Int32) ([(.long pj16), (.long pj17), (.long pj18)]) (.long 0)) (P12 : Arv Z h0 pa5 pk19 .int (3 : Int32) ([(.int 0), (.int pi20), (.int 0)]) (.int 0)) (P14 : Arv Z h0 pa6 pk21 .int (3 : Int32) ([(.int 0), (.int 0), (.int 1)]) (.int 0)) :
    MetB l M24 prog_105_method_5_code 6 (some .int) ws (rmk 0 0 0 0) Z h0 #[(.ref pa1), (.ref pa2), (.int 1), (.int 1)] (Q_au24_4 Z wINTEGER wDOUBLE wBOOLEAN wDEFAULTCAPACITY_EMPTY_ELEMENTDATA kwDEFAULTCAPACITY_EMPTY_ELEMENTDATA pa1 pa2 pa3 pa4 pa5 pa6 pk7 pj8 pj9 pj10 pk11 pi12 pi13 pi14 pk15 pj16 pj17 pj18 pk19 pi20 pk21 h0 n0) := by
  refine own_body (plainFor_of_name pn_com_example_lanc_lanc_model_VariableLayout) ?_
  intro p e s m below meth c s₁ hx hby hml hown hnm hret0 hlk0 hZ X0 e0
  have N0 := Fr.nil n0
  have pre0 : ∀ t, Steps p.tables e below (s₁.setTop (mkF m 0 #[(vr pa1), (vr pa2), (vi 1), (vi 1), .unset, .unset] [])) t → Steps p.tables e below (s₁.setTop (entryFrame m #[(.ref pa1), (.ref pa2), (.int 1), (.int 1)] 6)) t := fun t k => castTop (ef_au24_4 m pa1 pa2 (1 : Int32) (1 : Int32)) k
  have hS0 := hS
  obtain ⟨S_wINTEGER, E_wINTEGER, S_wDOUBLE, E_wDOUBLE, S_wBOOLEAN, E_wBOOLEAN, F_ordinal_wINTEGER, F_ordinal_wDOUBLE, F_ordinal_wBOOLEAN, S_wDEFAULTCAPACITY_EMPTY_ELEMENTDATA, E_wDEFAULTCAPACITY_EMPTY_ELEMENTDATA, V_wDEFAULTCAPACITY_EMPTY_ELEMENTDATA⟩ := hS0
  obtain ⟨T1, X1, e1, st1⟩ := getF X0 hx hZ hown (host := "") (Or.inl (ow hw 125 rfl)) Via.refl e0 P4 (g := (mkF m 3 #[(vr pa1), (vr pa2), (vi 1), (vi 1), .unset, .unset] [(.ref pa1), (.int 1), (.ref pa2)])) rfl rfl (hb hby d24_3)
  obtain ⟨cl2, Ar2, qc2, Sz2, Nn2, Ha2, Gg2⟩ := (id P14)
  have hin2 : ¬ ((1 : Int32) < 0 ∨ cl2.slots.size ≤ ((1 : Int32)).toNatClampNeg) := inb_of Sz2 ⟨by decide, by decide⟩
  have hat2 : cl2.slots[((1 : Int32)).toNatClampNeg]? = some (.int 0) := Ha2.at hin2 rfl
  obtain ⟨cl3, Ar3, qc3, Sz3, Nn3, Ha3, Gg3⟩ := (id P6)
  have hin3 : ¬ ((1 : Int32) < 0 ∨ cl3.slots.size ≤ ((1 : Int32)).toNatClampNeg) := inb_of Sz3 ⟨by decide, by decide⟩
  have hat3 : cl3.slots[((1 : Int32)).toNatClampNeg]? = some (.long pj9) := Ha3.at hin3 rfl
  obtain ⟨T4, X4, e4, st4⟩ := getF X1 hx hZ hown (host := "") (Or.inl (ow hw 127 rfl)) Via.refl e1 P3 (g := (mkF m 11 #[(vr pa1), (vr pa2), (vi 1), (vi 1), .unset, .unset] [(.ref pa1), (.long pj9)])) rfl rfl (hb hby d24_11)
  obtain ⟨cl5, Ar5, qc5, Sz5, Nn5, Ha5, Gg5⟩ := (id P12)
  have hin5 : ¬ ((1 : Int32) < 0 ∨ cl5.slots.size ≤ ((1 : Int32)).toNatClampNeg) := inb_of Sz5 ⟨by decide, by decide⟩
  have hat5 : cl5.slots[((1 : Int32)).toNatClampNeg]? = some (.int pi20) := Ha5.at hin5 rfl
  obtain ⟨T6, X6, e6, st6⟩ := getF X4 hx hZ hown (host := "") (Or.inl (ow hw 130 rfl)) Via.refl e4 P2 (g := (mkF m 18 #[(vr pa1), (vr pa2), (vi 1), (vi 1), .unset, .unset] [(.ref pa1), (.long ((pj9.toUInt64 >>> (pi20 &&& 0x3f).toInt64.toUInt64).toInt64))])) rfl rfl (hb hby d24_18)
  obtain ⟨cl7, Ar7, qc7, Sz7, Nn7, Ha7, Gg7⟩ := (id P10)
  have hin7 : ¬ ((1 : Int32) < 0 ∨ cl7.slots.size ≤ ((1 : Int32)).toNatClampNeg) := inb_of Sz7 ⟨by decide, by decide⟩
  have hat7 : cl7.slots[((1 : Int32)).toNatClampNeg]? = some (.long pj17) := Ha7.at hin7 rfl
  obtain ⟨T8, X8, e8, st8⟩ := getF X6 hx hZ hown (host := "") (Or.inl (ow hw 123 rfl)) Via.refl e6 P1 (g := (mkF m 27 #[(vr pa1), (vr pa2), (vi 1), (vi 1), .val (.long (((pj9.toUInt64 >>> (pi20 &&& 0x3f).toInt64.toUInt64).toInt64) &&& pj17)), .second] [(.ref pa1)])) rfl rfl (hb hby d24_27)
  obtain ⟨cl9, Ar9, qc9, Sz9, Nn9, Ha9, Gg9⟩ := (id P8)
  have hin9 : ¬ ((1 : Int32) < 0 ∨ cl9.slots.size ≤ ((1 : Int32)).toNatClampNeg) := inb_of Sz9 ⟨by decide, by decide⟩
  have hat9 : cl9.slots[((1 : Int32)).toNatClampNeg]? = some (.int pi13) := Ha9.at hin9 rfl
  obtain ⟨fs, hr, hrun, hended, hW, hsame⟩ := X8.leave (v := some (.int (pi13 + ((((pj9.toUInt64 >>> (pi20 &&& 0x3f).toInt64.toUInt64).toInt64) &&& pj17).toInt32)))) (fun h => by rw [hret0] at h; cases h)
  refine ⟨_, _, pre0 _ ?_, hrun, hended, _, _, rfl, ?_, ⟨_, rfl⟩, hW, hsame.mono (by decide) (by decide)⟩
  · skip
    show Steps p.tables e below (s₁.setTop (mkF m 0 #[(vr pa1), (vr pa2), (vi 1), (vi 1), .unset, .unset] [])) _
    refine XS.aloadN X0.here hx rfl (hb hby d24_0) rfl rfl ?_
    refine XS.iloadN X0.here hx rfl (hb hby d24_1) rfl ?_
    refine XS.aloadN X0.here hx rfl (hb hby d24_2) rfl rfl ?_
    refine st1 _ ?_
    refine XS.iloadN X1.here hx rfl (hb hby d24_6) rfl ?_
    refine X1.iaload hx (j := (1 : Int32)) (v := (.int 0)) (by rw [e1]; exact Ar2.1) (State.isArrayOf_alike hZ.alike Ar2.2.1) Ar2.2.2 hin2 hat2 (g := (mkF m 7 #[(vr pa1), (vr pa2), (vi 1), (vi 1), .unset, .unset] [(.int 1), (.ref pa6), (.int 1), (.ref pa2)])) rfl rfl (hb hby d24_7) _ ?_
    show Steps p.tables e below (T1.setTop (mkF m 8 #[(vr pa1), (vr pa2), (vi 1), (vi 1), .unset, .unset] [(.int 0), (.int 1), (.ref pa2)])) _
    refine XS.iadd X1.here hx rfl (hb hby d24_8) rfl ?_
    refine X1.laload hx (j := (1 : Int32)) (v := (.long pj9)) (by rw [e1]; exact Ar3.1) (State.isArrayOf_alike hZ.alike Ar3.2.1) Ar3.2.2 hin3 hat3 (g := (mkF m 9 #[(vr pa1), (vr pa2), (vi 1), (vi 1), .unset, .unset] [(.int 1), (.ref pa2)])) rfl rfl (hb hby d24_9) _ ?_
    refine XS.aloadN X1.here hx rfl (hb hby d24_10) rfl rfl ?_
    refine st4 _ ?_
    refine XS.iloadN X4.here hx rfl (hb hby d24_14) rfl ?_
    refine X4.iaload hx (j := (1 : Int32)) (v := (.int pi20)) (by rw [e4]; exact Ar5.1) (State.isArrayOf_alike hZ.alike Ar5.2.1) Ar5.2.2 hin5 hat5 (g := (mkF m 15 #[(vr pa1), (vr pa2), (vi 1), (vi 1), .unset, .unset] [(.int 1), (.ref pa5), (.long pj9)])) rfl rfl (hb hby d24_15) _ ?_
    show Steps p.tables e below (T4.setTop (mkF m 16 #[(vr pa1), (vr pa2), (vi 1), (vi 1), .unset, .unset] [(.int pi20), (.long pj9)])) _
    refine XS.lushr X4.here hx rfl (hb hby d24_16) rfl ?_
    refine XS.aloadN X4.here hx rfl (hb hby d24_17) rfl rfl ?_
    refine st6 _ ?_
    refine XS.iloadN X6.here hx rfl (hb hby d24_21) rfl ?_
    refine X6.laload hx (j := (1 : Int32)) (v := (.long pj17)) (by rw [e6]; exact Ar7.1) (State.isArrayOf_alike hZ.alike Ar7.2.1) Ar7.2.2 hin7 hat7 (g := (mkF m 22 #[(vr pa1), (vr pa2), (vi 1), (vi 1), .unset, .unset] [(.int 1), (.ref pa4), (.long ((pj9.toUInt64 >>> (pi20 &&& 0x3f).toInt64.toUInt64).toInt64))])) rfl rfl (hb hby d24_22) _ ?_
    refine XS.land X6.here hx rfl (hb hby d24_23) rfl ?_
    show Steps p.tables e below (T6.setTop (mkF m 24 #[(vr pa1), (vr pa2), (vi 1), (vi 1), .unset, .unset] [(.long (((pj9.toUInt64 >>> (pi20 &&& 0x3f).toInt64.toUInt64).toInt64) &&& pj17))])) _
    refine XS.lstore X6.here hx rfl (hb hby d24_24) rfl (l' := #[(vr pa1), (vr pa2), (vi 1), (vi 1), .val (.long (((pj9.toUInt64 >>> (pi20 &&& 0x3f).toInt64.toUInt64).toInt64) &&& pj17)), .second]) rfl ?_
    refine XS.aloadN X6.here hx rfl (hb hby d24_26) rfl rfl ?_
    refine st8 _ ?_
    refine XS.iloadN X8.here hx rfl (hb hby d24_30) rfl ?_
    refine X8.iaload hx (j := (1 : Int32)) (v := (.int pi13)) (by rw [e8]; exact Ar9.1) (State.isArrayOf_alike hZ.alike Ar9.2.1) Ar9.2.2 hin9 hat9 (g := (mkF m 31 #[(vr pa1), (vr pa2), (vi 1), (vi 1), .val (.long (((pj9.toUInt64 >>> (pi20 &&& 0x3f).toInt64.toUInt64).toInt64) &&& pj17)), .second] [(.int 1), (.ref pa3)])) rfl rfl (hb hby d24_31) _ ?_
    refine XS.lload X8.here hx rfl (hb hby d24_32) rfl ?_
    show Steps p.tables e below (T8.setTop (mkF m 34 #[(vr pa1), (vr pa2), (vi 1), (vi 1), .val (.long (((pj9.toUInt64 >>> (pi20 &&& 0x3f).toInt64.toUInt64).toInt64) &&& pj17)), .second] [(.long (((pj9.toUInt64 >>> (pi20 &&& 0x3f).toInt64.toUInt64).toInt64) &&& pj17)), (.int pi13)])) _
    refine XS.l2i X8.here hx rfl (hb hby d24_34) rfl ?_
    refine XS.iadd X8.here hx rfl (hb hby d24_35) rfl ?_
    exact retI X8 hx hret0 (hb hby d24_36) hr
  · show Q_au24_4 Z wINTEGER wDOUBLE wBOOLEAN wDEFAULTCAPACITY_EMPTY_ELEMENTDATA kwDEFAULTCAPACITY_EMPTY_ELEMENTDATA pa1 pa2 pa3 pa4 pa5 pa6 pk7 pj8 pj9 pj10 pk11 pi12 pi13 pi14 pk15 pj16 pj17 pj18 pk19 pi20 pk21 h0 n0 _ T8.heap _
    rw [e8]
    exact ⟨rfl, N0, rfl⟩
theorem ef_au24_5 (m : MethodId) (x0 : Addr) (x1 : Addr) (x2 : Int32) (x3 : Int32)  : entryFrame m #[(.ref x0), (.ref x1), (.int x2), (.int x3)] 6 = mkF m 0 #[(vr x0), (vr x1), (vi x2), (vi x3), .unset, .unset] [] := by first | (simp [entryFrame, mkF, argsToLocals, Value.category]; done) | rfl
def Q_au24_5 (Z : State) (wINTEGER : Addr) (wDOUBLE : Addr) (wBOOLEAN : Addr) (wDEFAULTCAPACITY_EMPTY_ELEMENTDATA : Addr) (kwDEFAULTCAPACITY_EMPTY_ELEMENTDATA : ClassId) (pa1 : Addr) (pa2 : Addr) (pa3 : Addr) (pa4 : Addr) (pa5 : Addr) (pa6 : Addr) (pk7 : ClassId) (pj8 : Int64) (pj9 : Int64) (pj10 : Int64) (pk11 : ClassId) (pi12 : Int32) (pi13 : Int32) (pi14 : Int32) (pk15 : ClassId) (pj16 : Int64) (pj17 : Int64) (pj18 : Int64) (pk19 : ClassId) (pi20 : Int32) (pk21 : ClassId) (h0 : Heap) (n0 : Nat) (v : Option Value) (h : Heap) (L : List Loc) : Prop := v = some (.int (pi14 + ((((pj10.toUInt64 >>> ((0 : Int32) &&& 0x3f).toInt64.toUInt64).toInt64) &&& pj18).toInt32))) ∧ Fr n0 L ∧ h = h0
theorem au24_5 (l : Launch) (Z : State) (a0 : Array Value) (hw : ∀ d ∈ tables_1, d.before a0 Z = true) (ws : List Jvm.Cond) (wINTEGER : Addr) (wDOUBLE : Addr) (wBOOLEAN : Addr) (wDEFAULTCAPACITY_EMPTY_ELEMENTDATA : Addr) (kwDEFAULTCAPACITY_EMPTY_ELEMENTDATA : ClassId) (hS : SS Z wINTEGER wDOUBLE wBOOLEAN wDEFAULTCAPACITY_EMPTY_ELEMENTDATA kwDEFAULTCAPACITY_EMPTY_ELEMENTDATA) (pa1 : Addr) (pa2 : Addr) (pa3 : Addr) (pa4 : Addr) (pa5 : Addr) (pa6 : Addr) (pk7 : ClassId) (pj8 : Int64) (pj9 : Int64) (pj10 : Int64) (pk11 : ClassId) (pi12 : Int32) (pi13 : Int32) (pi14 : Int32) (pk15 : ClassId) (pj16 : Int64) (pj17 : Int64) (pj18 : Int64) (pk19 : ClassId) (pi20 : Int32) (pk21 : ClassId) (h0 : Heap) (n0 : Nat) (O0 : Old Z n0 h0) (P1 : Fld Z h0 pa1 s9n "low" "[I" (.ref pa3)) (P2 : Fld Z h0 pa1 s9n "mask" "[J" (.ref pa4)) (P3 : Fld Z h0 pa1 s9n "shift" "[I" (.ref pa5)) (P4 : Fld Z h0 pa1 s9n "word" "[I" (.ref pa6)) (P6 : Arv Z h0 pa2 pk7 .long (4 : Int32) ([(.long pj8), (.long pj9), (.long pj10), (.long pj8)]) (.long 0)) (P8 : Arv Z h0 pa3 pk11 .int (3 : Int32) ([(.int pi12), (.int pi13), (.int pi14)]) (.int 0)) (P10 : Arv Z h0 pa4 pk15 .long (3 : Int32) ([(.long pj16), (.long pj17), (.long pj18)]) (.long 0)) (P12 : Arv Z h0 pa5 pk19 .int (3 : Int32) ([(.int 0), (.int pi20), (.int 0)]) (.int 0)) (P14 : Arv Z h0 pa6 pk21 .int (3 : Int32) ([(.int 0), (.int 0), (.int 1)]) (.int 0)) :
    MetB l M24 prog_105_method_5_code 6 (some .int) ws (rmk 0 0 0 0) Z h0 #[(.ref pa1), (.ref pa2), (.int 1), (.int 2)] (Q_au24_5 Z wINTEGER wDOUBLE wBOOLEAN wDEFAULTCAPACITY_EMPTY_ELEMENTDATA kwDEFAULTCAPACITY_EMPTY_ELEMENTDATA pa1 pa2 pa3 pa4 pa5 pa6 pk7 pj8 pj9 pj10 pk11 pi12 pi13 pi14 pk15 pj16 pj17 pj18 pk19 pi20 pk21 h0 n0) := by
  refine own_body (plainFor_of_name pn_com_example_lanc_lanc_model_VariableLayout) ?_
  intro p e s m below meth c s₁ hx hby hml hown hnm hret0 hlk0 hZ X0 e0
  have N0 := Fr.nil n0
  have pre0 : ∀ t, Steps p.tables e below (s₁.setTop (mkF m 0 #[(vr pa1), (vr pa2), (vi 1), (vi 2), .unset, .unset] [])) t → Steps p.tables e below (s₁.setTop (entryFrame m #[(.ref pa1), (.ref pa2), (.int 1), (.int 2)] 6)) t := fun t k => castTop (ef_au24_5 m pa1 pa2 (1 : Int32) (2 : Int32)) k
  have hS0 := hS
  obtain ⟨S_wINTEGER, E_wINTEGER, S_wDOUBLE, E_wDOUBLE, S_wBOOLEAN, E_wBOOLEAN, F_ordinal_wINTEGER, F_ordinal_wDOUBLE, F_ordinal_wBOOLEAN, S_wDEFAULTCAPACITY_EMPTY_ELEMENTDATA, E_wDEFAULTCAPACITY_EMPTY_ELEMENTDATA, V_wDEFAULTCAPACITY_EMPTY_ELEMENTDATA⟩ := hS0
  obtain ⟨T1, X1, e1, st1⟩ := getF X0 hx hZ hown (host := "") (Or.inl (ow hw 125 rfl)) Via.refl e0 P4 (g := (mkF m 3 #[(vr pa1), (vr pa2), (vi 1), (vi 2), .unset, .unset] [(.ref pa1), (.int 1), (.ref pa2)])) rfl rfl (hb hby d24_3)
  obtain ⟨cl2, Ar2, qc2, Sz2, Nn2, Ha2, Gg2⟩ := (id P14)
  have hin2 : ¬ ((2 : Int32) < 0 ∨ cl2.slots.size ≤ ((2 : Int32)).toNatClampNeg) := inb_of Sz2 ⟨by decide, by decide⟩
  have hat2 : cl2.slots[((2 : Int32)).toNatClampNeg]? = some (.int 1) := Ha2.at hin2 rfl
  obtain ⟨cl3, Ar3, qc3, Sz3, Nn3, Ha3, Gg3⟩ := (id P6)
  have hin3 : ¬ ((2 : Int32) < 0 ∨ cl3.slots.size ≤ ((2 : Int32)).toNatClampNeg) := inb_of Sz3 ⟨by decide, by decide⟩
  have hat3 : cl3.slots[((2 : Int32)).toNatClampNeg]? = some (.long pj10) := Ha3.at hin3 rfl
  obtain ⟨T4, X4, e4, st4⟩ := getF X1 hx hZ hown (host := "") (Or.inl (ow hw 127 rfl)) Via.refl e1 P3 (g := (mkF m 11 #[(vr pa1), (vr pa2), (vi 1), (vi 2), .unset, .unset] [(.ref pa1), (.long pj10)])) rfl rfl (hb hby d24_11)
  obtain ⟨cl5, Ar5, qc5, Sz5, Nn5, Ha5, Gg5⟩ := (id P12)
  have hin5 : ¬ ((2 : Int32) < 0 ∨ cl5.slots.size ≤ ((2 : Int32)).toNatClampNeg) := inb_of Sz5 ⟨by decide, by decide⟩
  have hat5 : cl5.slots[((2 : Int32)).toNatClampNeg]? = some (.int 0) := Ha5.at hin5 rfl
  obtain ⟨T6, X6, e6, st6⟩ := getF X4 hx hZ hown (host := "") (Or.inl (ow hw 130 rfl)) Via.refl e4 P2 (g := (mkF m 18 #[(vr pa1), (vr pa2), (vi 1), (vi 2), .unset, .unset] [(.ref pa1), (.long ((pj10.toUInt64 >>> ((0 : Int32) &&& 0x3f).toInt64.toUInt64).toInt64))])) rfl rfl (hb hby d24_18)
  obtain ⟨cl7, Ar7, qc7, Sz7, Nn7, Ha7, Gg7⟩ := (id P10)
  have hin7 : ¬ ((2 : Int32) < 0 ∨ cl7.slots.size ≤ ((2 : Int32)).toNatClampNeg) := inb_of Sz7 ⟨by decide, by decide⟩
  have hat7 : cl7.slots[((2 : Int32)).toNatClampNeg]? = some (.long pj18) := Ha7.at hin7 rfl
  obtain ⟨T8, X8, e8, st8⟩ := getF X6 hx hZ hown (host := "") (Or.inl (ow hw 123 rfl)) Via.refl e6 P1 (g := (mkF m 27 #[(vr pa1), (vr pa2), (vi 1), (vi 2), .val (.long (((pj10.toUInt64 >>> ((0 : Int32) &&& 0x3f).toInt64.toUInt64).toInt64) &&& pj18)), .second] [(.ref pa1)])) rfl rfl (hb hby d24_27)
  obtain ⟨cl9, Ar9, qc9, Sz9, Nn9, Ha9, Gg9⟩ := (id P8)
  have hin9 : ¬ ((2 : Int32) < 0 ∨ cl9.slots.size ≤ ((2 : Int32)).toNatClampNeg) := inb_of Sz9 ⟨by decide, by decide⟩
  have hat9 : cl9.slots[((2 : Int32)).toNatClampNeg]? = some (.int pi14) := Ha9.at hin9 rfl
  obtain ⟨fs, hr, hrun, hended, hW, hsame⟩ := X8.leave (v := some (.int (pi14 + ((((pj10.toUInt64 >>> ((0 : Int32) &&& 0x3f).toInt64.toUInt64).toInt64) &&& pj18).toInt32)))) (fun h => by rw [hret0] at h; cases h)
  refine ⟨_, _, pre0 _ ?_, hrun, hended, _, _, rfl, ?_, ⟨_, rfl⟩, hW, hsame.mono (by decide) (by decide)⟩
  · skip
    show Steps p.tables e below (s₁.setTop (mkF m 0 #[(vr pa1), (vr pa2), (vi 1), (vi 2), .unset, .unset] [])) _
    refine XS.aloadN X0.here hx rfl (hb hby d24_0) rfl rfl ?_
    refine XS.iloadN X0.here hx rfl (hb hby d24_1) rfl ?_
    refine XS.aloadN X0.here hx rfl (hb hby d24_2) rfl rfl ?_
    refine st1 _ ?_
    refine XS.iloadN X1.here hx rfl (hb hby d24_6) rfl ?_
    refine X1.iaload hx (j := (2 : Int32)) (v := (.int 1)) (by rw [e1]; exact Ar2.1) (State.isArrayOf_alike hZ.alike Ar2.2.1) Ar2.2.2 hin2 hat2 (g := (mkF m 7 #[(vr pa1), (vr pa2), (vi 1), (vi 2), .unset, .unset] [(.int 2), (.ref pa6), (.int 1), (.ref pa2)])) rfl rfl (hb hby d24_7) _ ?_
    show Steps p.tables e below (T1.setTop (mkF m 8 #[(vr pa1), (vr pa2), (vi 1), (vi 2), .unset, .unset] [(.int 1), (.int 1), (.ref pa2)])) _
    refine XS.iadd X1.here hx rfl (hb hby d24_8) rfl ?_
    refine X1.laload hx (j := (2 : Int32)) (v := (.long pj10)) (by rw [e1]; exact Ar3.1) (State.isArrayOf_alike hZ.alike Ar3.2.1) Ar3.2.2 hin3 hat3 (g := (mkF m 9 #[(vr pa1), (vr pa2), (vi 1), (vi 2), .unset, .unset] [(.int 2), (.ref pa2)])) rfl rfl (hb hby d24_9) _ ?_
    refine XS.aloadN X1.here hx rfl (hb hby d24_10) rfl rfl ?_
    refine st4 _ ?_
    refine XS.iloadN X4.here hx rfl (hb hby d24_14) rfl ?_
    refine X4.iaload hx (j := (2 : Int32)) (v := (.int 0)) (by rw [e4]; exact Ar5.1) (State.isArrayOf_alike hZ.alike Ar5.2.1) Ar5.2.2 hin5 hat5 (g := (mkF m 15 #[(vr pa1), (vr pa2), (vi 1), (vi 2), .unset, .unset] [(.int 2), (.ref pa5), (.long pj10)])) rfl rfl (hb hby d24_15) _ ?_
    show Steps p.tables e below (T4.setTop (mkF m 16 #[(vr pa1), (vr pa2), (vi 1), (vi 2), .unset, .unset] [(.int 0), (.long pj10)])) _
    refine XS.lushr X4.here hx rfl (hb hby d24_16) rfl ?_
    refine XS.aloadN X4.here hx rfl (hb hby d24_17) rfl rfl ?_
    refine st6 _ ?_
    refine XS.iloadN X6.here hx rfl (hb hby d24_21) rfl ?_
    refine X6.laload hx (j := (2 : Int32)) (v := (.long pj18)) (by rw [e6]; exact Ar7.1) (State.isArrayOf_alike hZ.alike Ar7.2.1) Ar7.2.2 hin7 hat7 (g := (mkF m 22 #[(vr pa1), (vr pa2), (vi 1), (vi 2), .unset, .unset] [(.int 2), (.ref pa4), (.long ((pj10.toUInt64 >>> ((0 : Int32) &&& 0x3f).toInt64.toUInt64).toInt64))])) rfl rfl (hb hby d24_22) _ ?_
    refine XS.land X6.here hx rfl (hb hby d24_23) rfl ?_
    show Steps p.tables e below (T6.setTop (mkF m 24 #[(vr pa1), (vr pa2), (vi 1), (vi 2), .unset, .unset] [(.long (((pj10.toUInt64 >>> ((0 : Int32) &&& 0x3f).toInt64.toUInt64).toInt64) &&& pj18))])) _
    refine XS.lstore X6.here hx rfl (hb hby d24_24) rfl (l' := #[(vr pa1), (vr pa2), (vi 1), (vi 2), .val (.long (((pj10.toUInt64 >>> ((0 : Int32) &&& 0x3f).toInt64.toUInt64).toInt64) &&& pj18)), .second]) rfl ?_
    refine XS.aloadN X6.here hx rfl (hb hby d24_26) rfl rfl ?_
    refine st8 _ ?_
    refine XS.iloadN X8.here hx rfl (hb hby d24_30) rfl ?_
    refine X8.iaload hx (j := (2 : Int32)) (v := (.int pi14)) (by rw [e8]; exact Ar9.1) (State.isArrayOf_alike hZ.alike Ar9.2.1) Ar9.2.2 hin9 hat9 (g := (mkF m 31 #[(vr pa1), (vr pa2), (vi 1), (vi 2), .val (.long (((pj10.toUInt64 >>> ((0 : Int32) &&& 0x3f).toInt64.toUInt64).toInt64) &&& pj18)), .second] [(.int 2), (.ref pa3)])) rfl rfl (hb hby d24_31) _ ?_
    refine XS.lload X8.here hx rfl (hb hby d24_32) rfl ?_
    show Steps p.tables e below (T8.setTop (mkF m 34 #[(vr pa1), (vr pa2), (vi 1), (vi 2), .val (.long (((pj10.toUInt64 >>> ((0 : Int32) &&& 0x3f).toInt64.toUInt64).toInt64) &&& pj18)), .second] [(.long (((pj10.toUInt64 >>> ((0 : Int32) &&& 0x3f).toInt64.toUInt64).toInt64) &&& pj18)), (.int pi14)])) _
    refine XS.l2i X8.here hx rfl (hb hby d24_34) rfl ?_
    refine XS.iadd X8.here hx rfl (hb hby d24_35) rfl ?_
    exact retI X8 hx hret0 (hb hby d24_36) hr
  · show Q_au24_5 Z wINTEGER wDOUBLE wBOOLEAN wDEFAULTCAPACITY_EMPTY_ELEMENTDATA kwDEFAULTCAPACITY_EMPTY_ELEMENTDATA pa1 pa2 pa3 pa4 pa5 pa6 pk7 pj8 pj9 pj10 pk11 pi12 pi13 pi14 pk15 pj16 pj17 pj18 pk19 pi20 pk21 h0 n0 _ T8.heap _
    rw [e8]
    exact ⟨rfl, N0, rfl⟩
theorem ef_au14_1 (m : MethodId) (x0 : Addr) (x1 : Addr)  : entryFrame m #[(.ref x0), (.ref x1)] 10 = mkF m 0 #[(vr x0), (vr x1), .unset, .unset, .unset, .unset, .unset, .unset, .unset, .unset] [] := by first | (simp [entryFrame, mkF, argsToLocals, Value.category]; done) | rfl
def Q_au14_1 (Z : State) (wINTEGER : Addr) (wDOUBLE : Addr) (wBOOLEAN : Addr) (wDEFAULTCAPACITY_EMPTY_ELEMENTDATA : Addr) (kwDEFAULTCAPACITY_EMPTY_ELEMENTDATA : ClassId) (pa1 : Addr) (pa2 : Addr) (pi3 : Int32) (pi4 : Int32) (pi5 : Int32) (pa6 : Addr) (pk7 : ClassId) (pa8 : Addr) (pa9 : Addr) (pa10 : Addr) (pi11 : Int32) (pi12 : Int32) (pi14 : Int32) (pi15 : Int32) (pi17 : Int32) (pi18 : Int32) (h0 : Heap) (n0 : Nat) (v : Option Value) (h : Heap) (L : List Loc) : Prop := ∃ (e1 : Addr) (e2 : Addr) (e3 : Addr) (e4 : Addr) (e5 : ClassId) (e6 : ClassId) (e7 : ClassId) (e8 : ClassId), v = none ∧ Fr n0 L ∧ Keep h0 h [pa1] ∧ Exa Z h pa1 s9n ∧ Fld Z h pa1 s9n "low" "[I" (.ref e1) ∧ Fld Z h pa1 s9n "mask" "[J" (.ref e2) ∧ Fld Z h pa1 s9n "shift" "[I" (.ref e3) ∧ Fld Z h pa1 s9n "word" "[I" (.ref e4) ∧ Fld Z h pa1 s9n s10n "I" (.int 1) ∧ h0.size ≤ e1 ∧ Exa Z h e1 "[I" ∧ Arv Z h e1 e5 .int (3 : Int32) ([(.int pi12), (.int pi15), (.int pi18)]) (.int 0) ∧ h0.size ≤ e2 ∧ Exa Z h e2 "[J" ∧ Arv Z h e2 e6 .long (3 : Int32) ([(.long (maskV pi3)), (.long (maskV pi4)), (.long (maskV pi5))]) (.long 0) ∧ h0.size ≤ e3 ∧ Exa Z h e3 "[I" ∧ Arv Z h e3 e7 .int (3 : Int32) ([(.int 0), (.int ((0 : Int32) + pi3)), (.int (((0 : Int32) + pi3) + pi4))]) (.int 0) ∧ h0.size ≤ e4 ∧ Exa Z h e4 "[I" ∧ Arv Z h e4 e8 .int (3 : Int32) ([(.int 0), (.int 0), (.int 0)]) (.int 0) ∧ e1 ≠ e2 ∧ e1 ≠ e3 ∧ e1 ≠ e4 ∧ e2 ≠ e3 ∧ e2 ≠ e4 ∧ e3 ≠ e4
theorem au14_1 (l : Launch) (Z : State) (a0 : Array Value) (hw : ∀ d ∈ tables_1, d.before a0 Z = true) (ws : List Jvm.Cond) (wINTEGER : Addr) (wDOUBLE : Addr) (wBOOLEAN : Addr) (wDEFAULTCAPACITY_EMPTY_ELEMENTDATA : Addr) (kwDEFAULTCAPACITY_EMPTY_ELEMENTDATA : ClassId) (hS : SS Z wINTEGER wDOUBLE wBOOLEAN wDEFAULTCAPACITY_EMPTY_ELEMENTDATA kwDEFAULTCAPACITY_EMPTY_ELEMENTDATA) (pa1 : Addr) (pa2 : Addr) (pi3 : Int32) (pi4 : Int32) (pi5 : Int32) (pa6 : Addr) (pk7 : ClassId) (pa8 : Addr) (pa9 : Addr) (pa10 : Addr) (pi11 : Int32) (pi12 : Int32) (pi14 : Int32) (pi15 : Int32) (pi17 : Int32) (pi18 : Int32) (h0 : Heap) (n0 : Nat) (O0 : Old Z n0 h0) (P0 : Exa Z h0 pa1 s9n) (P1 : Fld Z h0 pa1 s9n "low" "[I" .null) (P2 : Fld Z h0 pa1 s9n "mask" "[J" .null) (P3 : Fld Z h0 pa1 s9n "shift" "[I" .null) (P4 : Fld Z h0 pa1 s9n "word" "[I" .null) (P5 : Fld Z h0 pa1 s9n s10n "I" (.int 0)) (P6 : Exa Z h0 pa2 s2n) (P8 : Fld Z h0 pa2 s2n "elementData" s3n (.ref pa6)) (P9 : Fld Z h0 pa2 s2n "size" "I" (.int 3)) (P10 : Arv Z h0 pa6 pk7 (.object s4n) (10 : Int32) ([(.ref pa8), (.ref pa9), (.ref pa10), .null, .null, .null, .null, .null, .null, .null]) .null) (P13 : Exa Z h0 pa8 s6n) (P14 : Fld Z h0 pa8 s6n "high" "I" (.int pi11)) (P15 : Fld Z h0 pa8 s6n "low" "I" (.int pi12)) (P18 : Exa Z h0 pa9 s6n) (P19 : Fld Z h0 pa9 s6n "high" "I" (.int pi14)) (P20 : Fld Z h0 pa9 s6n "low" "I" (.int pi15)) (P23 : Exa Z h0 pa10 s6n) (P24 : Fld Z h0 pa10 s6n "high" "I" (.int pi17)) (P25 : Fld Z h0 pa10 s6n "low" "I" (.int pi18)) (P31 : ¬ (64 : Int32) < ((0 : Int32) + pi3)) (P32 : ¬ (64 : Int32) < (((0 : Int32) + pi3) + pi4)) (P34 : ¬ (64 : Int32) < ((((0 : Int32) + pi3) + pi4) + pi5)) (P36 : bitsV pi12 pi11 = pi3) (P38 : bitsV pi15 pi14 = pi4) (P40 : bitsV pi18 pi17 = pi5) (P41 : n0 ≤ pa1) (P47 : pa1 ≠ pa2) (P48 : pa1 ≠ pa6) (P49 : pa1 ≠ pa8) (P50 : pa1 ≠ pa9) (P51 : pa1 ≠ pa10) :
    MetB l M21 prog_105_method_1_code 10 none ws (rmk 3 4 12 40) Z h0 #[(.ref pa1), (.ref pa2)] (Q_au14_1 Z wINTEGER wDOUBLE wBOOLEAN wDEFAULTCAPACITY_EMPTY_ELEMENTDATA kwDEFAULTCAPACITY_EMPTY_ELEMENTDATA pa1 pa2 pi3 pi4 pi5 pa6 pk7 pa8 pa9 pa10 pi11 pi12 pi14 pi15 pi17 pi18 h0 n0) := by
  refine own_body (plainFor_of_name pn_com_example_lanc_lanc_model_VariableLayout) ?_
  intro p e s m below meth c s₁ hx hby hml hown hnm hret0 hlk0 hZ X0 e0
  have N0 := Fr.nil n0
  have pre0 : ∀ t, Steps p.tables e below (s₁.setTop (mkF m 0 #[(vr pa1), (vr pa2), .unset, .unset, .unset, .unset, .unset, .unset, .unset, .unset] [])) t → Steps p.tables e below (s₁.setTop (entryFrame m #[(.ref pa1), (.ref pa2)] 10)) t := fun t k => castTop (ef_au14_1 m pa1 pa2) k
  have K0 := Keep.refl h0 [pa1]
  have hS0 := hS
  obtain ⟨S_wINTEGER, E_wINTEGER, S_wDOUBLE, E_wDOUBLE, S_wBOOLEAN, E_wBOOLEAN, F_ordinal_wINTEGER, F_ordinal_wDOUBLE, F_ordinal_wBOOLEAN, S_wDEFAULTCAPACITY_EMPTY_ELEMENTDATA, E_wDEFAULTCAPACITY_EMPTY_ELEMENTDATA, V_wDEFAULTCAPACITY_EMPTY_ELEMENTDATA⟩ := hS0
  obtain ⟨T1, X1, e1, st1⟩ := initO X0 hx hZ hown (ow hw 113 rfl) (ow hw 29 rfl) (ow hw 30 rfl) e0 (g := (mkF m 1 #[(vr pa1), (vr pa2), .unset, .unset, .unset, .unset, .unset, .unset, .unset, .unset] [(.ref pa1)])) rfl (by rw [hml]; rfl) rfl (hb hby d14_1) (by decide) (W := 0) (by show 2 * 0 + _ ≤ _; exact Nat.le_of_eq rfl) (by decide)
  obtain ⟨cq2, kq2, q2a, q2b, q2c⟩ := isOf hZ e1 P6
  obtain ⟨_, _, ⟨T2, L2, k2, n2⟩, -, X2, ⟨Lc2, hQ2, l2, y2, z2⟩, st2⟩ := X1.interfaceBack hx (xi := M22) (y := M14) hown (mvT hZ (ow hw 114 rfl)) (mvT hZ (ow hw 115 rfl)) (mvT hZ (ow hw 116 rfl)) (mvT hZ (ow hw 117 rfl)) (mvT hZ (ow hw 118 rfl)) (mvT hZ (ow hw 119 rfl)) (mvT hZ (ow hw 120 rfl)) (mvT hZ (ow hw 78 rfl)) (by decide) (backOf (W := 0) (au15_0 l Z a0 hw [] wINTEGER wDOUBLE wBOOLEAN wDEFAULTCAPACITY_EMPTY_ELEMENTDATA kwDEFAULTCAPACITY_EMPTY_ELEMENTDATA hS pa2 h0 n0 O0 P9) hZ (ow hw 121 rfl) (ow hw 12 rfl) (by decide) (by decide)) q2a q2b q2c (g := (mkF m 5 #[(vr pa1), (vr pa2), .unset, .unset, .unset, .unset, .unset, .unset, .unset, .unset] [(.ref pa2)])) rfl (by rw [hml]; rfl) (Steps.refl _) (argsL := []) (rest := []) (lenOf pd_10 rfl) rfl (by show 2 * 0 + _ ≤ _; exact Nat.le_of_eq rfl) (hb hby d14_5) (fun _ _ => ⟨rfl, e1, (by decide : 0 + 0 ≤ _), (by decide : 0 + 0 ≤ _)⟩)
  dsimp only [Pt.U, Pt.locs, Pt.cells, Pt.slots] at X2 l2 y2 z2 st2 hQ2
  subst y2 z2
  obtain ⟨rfl, Nq2, K2q⟩ := hQ2
  have N2 : Fr n0 L2 := (congrArg (Fr n0) l2).mpr (Fr.app N0 Nq2)
  obtain ⟨T3, h3, k3, X3, e3, E3, A3, Z3, st3⟩ := newPE X2 hx hZ (ow hw 122 rfl) K2q (g := (mkF m 13 #[(vr pa1), (vr pa2), (vi 3), .unset, .unset, .unset, .unset, .unset, .unset, .unset] [(.int 3), (.ref pa1)])) rfl (hb hby d14_13) rfl (by decide) (cap := 3) (by decide) (by decide) (by decide) (by decide) (ad := "[I") rfl
  obtain ⟨b3, g3⟩ : ∃ z, z = h0.size := ⟨_, rfl⟩
  rw [← g3] at A3 Z3 st3
  have ne4 : pa1 ≠ b3 := Nat.ne_of_lt (Nat.lt_of_lt_of_le P0.lt (Nat.le_of_eq g3.symm))
  have ne5 : pa2 ≠ b3 := Nat.ne_of_lt (Nat.lt_of_lt_of_le P6.lt (Nat.le_of_eq g3.symm))
  have ne6 : pa6 ≠ b3 := Nat.ne_of_lt (Nat.lt_of_lt_of_le P10.lt (Nat.le_of_eq g3.symm))
  have ne7 : pa8 ≠ b3 := Nat.ne_of_lt (Nat.lt_of_lt_of_le P13.lt (Nat.le_of_eq g3.symm))
  have ne8 : pa9 ≠ b3 := Nat.ne_of_lt (Nat.lt_of_lt_of_le P18.lt (Nat.le_of_eq g3.symm))
  have ne9 : pa10 ≠ b3 := Nat.ne_of_lt (Nat.lt_of_lt_of_le P23.lt (Nat.le_of_eq g3.symm))
  have g10 : n0 ≤ b3 := Nat.le_trans (own_sz O0) (Nat.le_of_eq g3.symm)
  have sz11 : h0.size ≤ b3 := Nat.le_trans K0.1 (Nat.le_of_eq g3.symm)
  have O12 : Old Z n0 h3 := O0.ext E3
  have K12 : Keep h0 h3 [pa1] := K0.ext E3
  have V3 : Arv Z h3 b3 k3 .int (3 : Int32) ([(.int 0), (.int 0), (.int 0)]) (.int 0) := (Arv.new A3 (by decide)).pad (pad_rep [] (.int 0) 3)
  have f13 : Exa Z h3 pa1 s9n := (P0.ext E3)
  have f14 : Fld Z h3 pa1 s9n "low" "[I" .null := (P1.ext E3)
  obtain ⟨T15, h15, X15, e15, W15, st15⟩ := putF X3 hx hZ hown (host := "") (Or.inl (ow hw 123 rfl)) Via.refl e3 f14 f13 (Or.inr ⟨(ow hw 124 rfl), rfl, hnm⟩) (ow hw 108 rfl) (ty := (.array .int)) (by decide) rfl rfl (g := (mkF m 15 #[(vr pa1), (vr pa2), (vi 3), .unset, .unset, .unset, .unset, .unset, .unset, .unset] [(.ref b3), (.ref pa1)])) rfl rfl (hb hby d14_15)
  have N15 := Fr.snoc X15 N2 P41
  have O16 : Old Z n0 h15 := O12.wr W15 P41
  have K16 : Keep h0 h15 [pa1] := K12.wr W15 (Or.inl (List.mem_of_getElem? (i := 0) rfl))
  have Fw15 : Fld Z h15 pa1 s9n "low" "[I" (.ref b3) := f14.same W15
  obtain ⟨T17, h17, k17, X17, e17, E17, A17, Z17, st17⟩ := newPE X15 hx hZ (ow hw 122 rfl) e15 (g := (mkF m 20 #[(vr pa1), (vr pa2), (vi 3), .unset, .unset, .unset, .unset, .unset, .unset, .unset] [(.int 3), (.ref pa1)])) rfl (hb hby d14_20) rfl (by decide) (cap := 3) (by decide) (by decide) (by decide) (by decide) (ad := "[I") rfl
  obtain ⟨b17, g17⟩ : ∃ z, z = h15.size := ⟨_, rfl⟩
  rw [← g17] at A17 Z17 st17
  have f19 : Exa Z h15 pa1 s9n := (f13.wr W15)
  have ne18 : pa1 ≠ b17 := Nat.ne_of_lt (Nat.lt_of_lt_of_le f19.lt (Nat.le_of_eq g17.symm))
  have f21 : Exa Z h15 pa2 s2n := ((P6.ext E3).wr W15)
  have ne20 : pa2 ≠ b17 := Nat.ne_of_lt (Nat.lt_of_lt_of_le f21.lt (Nat.le_of_eq g17.symm))
  have f23 : Arv Z h15 pa6 pk7 (.object s4n) (10 : Int32) ([(.ref pa8), (.ref pa9), (.ref pa10), .null, .null, .null, .null, .null, .null, .null]) .null := ((P10.ext E3).other W15 (Ne.symm P48))
  have ne22 : pa6 ≠ b17 := Nat.ne_of_lt (Nat.lt_of_lt_of_le f23.lt (Nat.le_of_eq g17.symm))
  have f25 : Exa Z h15 pa8 s6n := ((P13.ext E3).wr W15)
  have ne24 : pa8 ≠ b17 := Nat.ne_of_lt (Nat.lt_of_lt_of_le f25.lt (Nat.le_of_eq g17.symm))
  have f27 : Exa Z h15 pa9 s6n := ((P18.ext E3).wr W15)
  have ne26 : pa9 ≠ b17 := Nat.ne_of_lt (Nat.lt_of_lt_of_le f27.lt (Nat.le_of_eq g17.symm))
  have f29 : Exa Z h15 pa10 s6n := ((P23.ext E3).wr W15)
  have ne28 : pa10 ≠ b17 := Nat.ne_of_lt (Nat.lt_of_lt_of_le f29.lt (Nat.le_of_eq g17.symm))
  have f31 : Arv Z h15 b3 k3 .int (3 : Int32) ([(.int 0), (.int 0), (.int 0)]) (.int 0) := (V3.other W15 (Ne.symm ne4))
  have ne30 : b3 ≠ b17 := Nat.ne_of_lt (Nat.lt_of_lt_of_le f31.lt (Nat.le_of_eq g17.symm))
  have g32 : n0 ≤ b17 := Nat.le_trans (own_sz O16) (Nat.le_of_eq g17.symm)
  have sz33 : h0.size ≤ b17 := Nat.le_trans K16.1 (Nat.le_of_eq g17.symm)
  have O34 : Old Z n0 h17 := O16.ext E17
  have K34 : Keep h0 h17 [pa1] := K16.ext E17
  have V17 : Arv Z h17 b17 k17 .int (3 : Int32) ([(.int 0), (.int 0), (.int 0)]) (.int 0) := (Arv.new A17 (by decide)).pad (pad_rep [] (.int 0) 3)
  have f35 : Exa Z h17 pa1 s9n := (f19.ext E17)
  have f36 : Fld Z h17 pa1 s9n "word" "[I" .null := (((P4.ext E3).other W15 (Or.inr (slot_ne (Or.inr (ow hw 126 rfl)) (Or.inr (ow hw 124 rfl)) (by decide) (t := (.array .int)) (t' := (.array .int)) (by decide) (by decide)))).ext E17)
  obtain ⟨T37, h37, X37, e37, W37, st37⟩ := putF X17 hx hZ hown (host := "") (Or.inl (ow hw 125 rfl)) Via.refl e17 f36 f35 (Or.inr ⟨(ow hw 126 rfl), rfl, hnm⟩) (ow hw 108 rfl) (ty := (.array .int)) (by decide) rfl rfl (g := (mkF m 22 #[(vr pa1), (vr pa2), (vi 3), .unset, .unset, .unset, .unset, .unset, .unset, .unset] [(.ref b17), (.ref pa1)])) rfl rfl (hb hby d14_22)
  have N37 := Fr.snoc X37 N15 P41
  have O38 : Old Z n0 h37 := O34.wr W37 P41
  have K38 : Keep h0 h37 [pa1] := K34.wr W37 (Or.inl (List.mem_of_getElem? (i := 0) rfl))
  have Fw37 : Fld Z h37 pa1 s9n "word" "[I" (.ref b17) := f36.same W37
  obtain ⟨T39, h39, k39, X39, e39, E39, A39, Z39, st39⟩ := newPE X37 hx hZ (ow hw 122 rfl) e37 (g := (mkF m 27 #[(vr pa1), (vr pa2), (vi 3), .unset, .unset, .unset, .unset, .unset, .unset, .unset] [(.int 3), (.ref pa1)])) rfl (hb hby d14_27) rfl (by decide) (cap := 3) (by decide) (by decide) (by decide) (by decide) (ad := "[I") rfl
  obtain ⟨b39, g39⟩ : ∃ z, z = h37.size := ⟨_, rfl⟩
  rw [← g39] at A39 Z39 st39
  have f41 : Exa Z h37 pa1 s9n := (f35.wr W37)
  have ne40 : pa1 ≠ b39 := Nat.ne_of_lt (Nat.lt_of_lt_of_le f41.lt (Nat.le_of_eq g39.symm))
  have f43 : Exa Z h37 pa2 s2n := ((f21.ext E17).wr W37)
  have ne42 : pa2 ≠ b39 := Nat.ne_of_lt (Nat.lt_of_lt_of_le f43.lt (Nat.le_of_eq g39.symm))
  have f45 : Arv Z h37 pa6 pk7 (.object s4n) (10 : Int32) ([(.ref pa8), (.ref pa9), (.ref pa10), .null, .null, .null, .null, .null, .null, .null]) .null := ((f23.ext E17).other W37 (Ne.symm P48))
  have ne44 : pa6 ≠ b39 := Nat.ne_of_lt (Nat.lt_of_lt_of_le f45.lt (Nat.le_of_eq g39.symm))
  have f47 : Exa Z h37 pa8 s6n := ((f25.ext E17).wr W37)
  have ne46 : pa8 ≠ b39 := Nat.ne_of_lt (Nat.lt_of_lt_of_le f47.lt (Nat.le_of_eq g39.symm))
  have f49 : Exa Z h37 pa9 s6n := ((f27.ext E17).wr W37)
  have ne48 : pa9 ≠ b39 := Nat.ne_of_lt (Nat.lt_of_lt_of_le f49.lt (Nat.le_of_eq g39.symm))
  have f51 : Exa Z h37 pa10 s6n := ((f29.ext E17).wr W37)
  have ne50 : pa10 ≠ b39 := Nat.ne_of_lt (Nat.lt_of_lt_of_le f51.lt (Nat.le_of_eq g39.symm))
  have f53 : Arv Z h37 b3 k3 .int (3 : Int32) ([(.int 0), (.int 0), (.int 0)]) (.int 0) := ((f31.ext E17).other W37 (Ne.symm ne4))
  have ne52 : b3 ≠ b39 := Nat.ne_of_lt (Nat.lt_of_lt_of_le f53.lt (Nat.le_of_eq g39.symm))
  have f55 : Arv Z h37 b17 k17 .int (3 : Int32) ([(.int 0), (.int 0), (.int 0)]) (.int 0) := (V17.other W37 (Ne.symm ne18))
  have ne54 : b17 ≠ b39 := Nat.ne_of_lt (Nat.lt_of_lt_of_le f55.lt (Nat.le_of_eq g39.symm))
  have g56 : n0 ≤ b39 := Nat.le_trans (own_sz O38) (Nat.le_of_eq g39.symm)
  have sz57 : h0.size ≤ b39 := Nat.le_trans K38.1 (Nat.le_of_eq g39.symm)
  have O58 : Old Z n0 h39 := O38.ext E39
  have K58 : Keep h0 h39 [pa1] := K38.ext E39
  have V39 : Arv Z h39 b39 k39 .int (3 : Int32) ([(.int 0), (.int 0), (.int 0)]) (.int 0) := (Arv.new A39 (by decide)).pad (pad_rep [] (.int 0) 3)
  have f59 : Exa Z h39 pa1 s9n := (f41.ext E39)
  have f60 : Fld Z h39 pa1 s9n "shift" "[I" .null := (((((P3.ext E3).other W15 (Or.inr (slot_ne (Or.inr (ow hw 128 rfl)) (Or.inr (ow hw 124 rfl)) (by decide) (t := (.array .int)) (t' := (.array .int)) (by decide) (by decide)))).ext E17).other W37 (Or.inr (slot_ne (Or.inr (ow hw 128 rfl)) (Or.inr (ow hw 126 rfl)) (by decide) (t := (.array .int)) (t' := (.array .int)) (by decide) (by decide)))).ext E39)
  obtain ⟨T61, h61, X61, e61, W61, st61⟩ := putF X39 hx hZ hown (host := "") (Or.inl (ow hw 127 rfl)) Via.refl e39 f60 f59 (Or.inr ⟨(ow hw 128 rfl), rfl, hnm⟩) (ow hw 108 rfl) (ty := (.array .int)) (by decide) rfl rfl (g := (mkF m 29 #[(vr pa1), (vr pa2), (vi 3), .unset, .unset, .unset, .unset, .unset, .unset, .unset] [(.ref b39), (.ref pa1)])) rfl rfl (hb hby d14_29)
  have N61 := Fr.snoc X61 N37 P41
  have O62 : Old Z n0 h61 := O58.wr W61 P41
  have K62 : Keep h0 h61 [pa1] := K58.wr W61 (Or.inl (List.mem_of_getElem? (i := 0) rfl))
  have Fw61 : Fld Z h61 pa1 s9n "shift" "[I" (.ref b39) := f60.same W61
  obtain ⟨T63, h63, k63, X63, e63, E63, A63, Z63, st63⟩ := newPE X61 hx hZ (ow hw 129 rfl) e61 (g := (mkF m 34 #[(vr pa1), (vr pa2), (vi 3), .unset, .unset, .unset, .unset, .unset, .unset, .unset] [(.int 3), (.ref pa1)])) rfl (hb hby d14_34) rfl (by decide) (cap := 3) (by decide) (by decide) (by decide) (by decide) (ad := "[J") rfl
  obtain ⟨b63, g63⟩ : ∃ z, z = h61.size := ⟨_, rfl⟩
  rw [← g63] at A63 Z63 st63
  have f65 : Exa Z h61 pa1 s9n := (f59.wr W61)
  have ne64 : pa1 ≠ b63 := Nat.ne_of_lt (Nat.lt_of_lt_of_le f65.lt (Nat.le_of_eq g63.symm))
  have f67 : Exa Z h61 pa2 s2n := ((f43.ext E39).wr W61)
  have ne66 : pa2 ≠ b63 := Nat.ne_of_lt (Nat.lt_of_lt_of_le f67.lt (Nat.le_of_eq g63.symm))
  have f69 : Arv Z h61 pa6 pk7 (.object s4n) (10 : Int32) ([(.ref pa8), (.ref pa9), (.ref pa10), .null, .null, .null, .null, .null, .null, .null]) .null := ((f45.ext E39).other W61 (Ne.symm P48))
  have ne68 : pa6 ≠ b63 := Nat.ne_of_lt (Nat.lt_of_lt_of_le f69.lt (Nat.le_of_eq g63.symm))
  have f71 : Exa Z h61 pa8 s6n := ((f47.ext E39).wr W61)
  have ne70 : pa8 ≠ b63 := Nat.ne_of_lt (Nat.lt_of_lt_of_le f71.lt (Nat.le_of_eq g63.symm))
  have f73 : Exa Z h61 pa9 s6n := ((f49.ext E39).wr W61)
  have ne72 : pa9 ≠ b63 := Nat.ne_of_lt (Nat.lt_of_lt_of_le f73.lt (Nat.le_of_eq g63.symm))
  have f75 : Exa Z h61 pa10 s6n := ((f51.ext E39).wr W61)
  have ne74 : pa10 ≠ b63 := Nat.ne_of_lt (Nat.lt_of_lt_of_le f75.lt (Nat.le_of_eq g63.symm))
  have f77 : Arv Z h61 b3 k3 .int (3 : Int32) ([(.int 0), (.int 0), (.int 0)]) (.int 0) := ((f53.ext E39).other W61 (Ne.symm ne4))
  have ne76 : b3 ≠ b63 := Nat.ne_of_lt (Nat.lt_of_lt_of_le f77.lt (Nat.le_of_eq g63.symm))
  have f79 : Arv Z h61 b17 k17 .int (3 : Int32) ([(.int 0), (.int 0), (.int 0)]) (.int 0) := ((f55.ext E39).other W61 (Ne.symm ne18))
  have ne78 : b17 ≠ b63 := Nat.ne_of_lt (Nat.lt_of_lt_of_le f79.lt (Nat.le_of_eq g63.symm))
  have f81 : Arv Z h61 b39 k39 .int (3 : Int32) ([(.int 0), (.int 0), (.int 0)]) (.int 0) := (V39.other W61 (Ne.symm ne40))
  have ne80 : b39 ≠ b63 := Nat.ne_of_lt (Nat.lt_of_lt_of_le f81.lt (Nat.le_of_eq g63.symm))
  have g82 : n0 ≤ b63 := Nat.le_trans (own_sz O62) (Nat.le_of_eq g63.symm)
  have sz83 : h0.size ≤ b63 := Nat.le_trans K62.1 (Nat.le_of_eq g63.symm)
  have O84 : Old Z n0 h63 := O62.ext E63
  have K84 : Keep h0 h63 [pa1] := K62.ext E63
  have V63 : Arv Z h63 b63 k63 .long (3 : Int32) ([(.long 0), (.long 0), (.long 0)]) (.long 0) := (Arv.new A63 (by decide)).pad (pad_rep [] (.long 0) 3)
  have f85 : Exa Z h63 pa1 s9n := (f65.ext E63)
  have f86 : Fld Z h63 pa1 s9n "mask" "[J" .null := (((((((P2.ext E3).other W15 (Or.inr (slot_ne (Or.inr (ow hw 131 rfl)) (Or.inr (ow hw 124 rfl)) (by decide) (t := (.array .long)) (t' := (.array .int)) (by decide) (by decide)))).ext E17).other W37 (Or.inr (slot_ne (Or.inr (ow hw 131 rfl)) (Or.inr (ow hw 126 rfl)) (by decide) (t := (.array .long)) (t' := (.array .int)) (by decide) (by decide)))).ext E39).other W61 (Or.inr (slot_ne (Or.inr (ow hw 131 rfl)) (Or.inr (ow hw 128 rfl)) (by decide) (t := (.array .long)) (t' := (.array .int)) (by decide) (by decide)))).ext E63)
  obtain ⟨T87, h87, X87, e87, W87, st87⟩ := putF X63 hx hZ hown (host := "") (Or.inl (ow hw 130 rfl)) Via.refl e63 f86 f85 (Or.inr ⟨(ow hw 131 rfl), rfl, hnm⟩) (ow hw 108 rfl) (ty := (.array .long)) (by decide) rfl rfl (g := (mkF m 36 #[(vr pa1), (vr pa2), (vi 3), .unset, .unset, .unset, .unset, .unset, .unset, .unset] [(.ref b63), (.ref pa1)])) rfl rfl (hb hby d14_36)
  have N87 := Fr.snoc X87 N61 P41
  have O88 : Old Z n0 h87 := O84.wr W87 P41
  have K88 : Keep h0 h87 [pa1] := K84.wr W87 (Or.inl (List.mem_of_getElem? (i := 0) rfl))
  have Fw87 : Fld Z h87 pa1 s9n "mask" "[J" (.ref b63) := f86.same W87
  have f89 : Exa Z h87 pa2 s2n := ((f67.ext E63).wr W87)
  have f90 : Fld Z h87 pa2 s2n "elementData" s3n (.ref pa6) := ((((((((P8.ext E3).other W15 (Or.inl (Ne.symm P47))).ext E17).other W37 (Or.inl (Ne.symm P47))).ext E39).other W61 (Or.inl (Ne.symm P47))).ext E63).other W87 (Or.inl (Ne.symm P47)))
  have f91 : Fld Z h87 pa2 s2n "size" "I" (.int 3) := ((((((((P9.ext E3).other W15 (Or.inl (Ne.symm P47))).ext E17).other W37 (Or.inl (Ne.symm P47))).ext E39).other W61 (Or.inl (Ne.symm P47))).ext E63).other W87 (Or.inl (Ne.symm P47)))
  have f92 : Arv Z h87 pa6 pk7 (.object s4n) (10 : Int32) ([(.ref pa8), (.ref pa9), (.ref pa10), .null, .null, .null, .null, .null, .null, .null]) .null := ((f69.ext E63).other W87 (Ne.symm P48))
  obtain ⟨cq93, kq93, q93a, q93b, q93c⟩ := isOf hZ e87 f89
  obtain ⟨_, _, ⟨T93, L93, k93, n93⟩, -, X93, ⟨Lc93, hQ93, l93, y93, z93⟩, st93⟩ := X87.interfaceBack hx (xi := M23) (y := M18) hown (mvT hZ (ow hw 132 rfl)) (mvT hZ (ow hw 133 rfl)) (mvT hZ (ow hw 134 rfl)) (mvT hZ (ow hw 135 rfl)) (mvT hZ (ow hw 136 rfl)) (mvT hZ (ow hw 137 rfl)) (mvT hZ (ow hw 138 rfl)) (mvT hZ (ow hw 78 rfl)) (by decide) (backOf (W := 0) (au16_0 l Z a0 hw [] wINTEGER wDOUBLE wBOOLEAN wDEFAULTCAPACITY_EMPTY_ELEMENTDATA kwDEFAULTCAPACITY_EMPTY_ELEMENTDATA hS pa2 pa6 pk7 pa8 pa9 pa10 h87 n0 O88 f89 f90 f91 f92) hZ (ow hw 139 rfl) (ow hw 12 rfl) (by decide) (by decide)) q93a q93b q93c (g := (mkF m 56 #[(vr pa1), (vr pa2), (vi 3), (vi 1), (vi 0), (vi 0), .unset, .unset, .unset, .unset] [(.int 0), (.ref pa2)])) rfl (by rw [hml]; rfl) (Steps.refl _) (argsL := [(.int 0)]) (rest := []) (lenOf pd_12 rfl) rfl (by show 2 * 0 + _ ≤ _; exact Nat.le_of_eq rfl) (hb hby d14_56) (fun _ _ => ⟨rfl, e87, (by decide : 4 + 0 ≤ _), (by decide : 12 + 0 ≤ _)⟩)
  dsimp only [Pt.U, Pt.locs, Pt.cells, Pt.slots] at X93 l93 y93 z93 st93 hQ93
  subst y93 z93
  obtain ⟨rfl, Nq93, K93q⟩ := hQ93
  have N93 : Fr n0 L93 := (congrArg (Fr n0) l93).mpr (Fr.app N87 Nq93)
  have f94 : Exa Z h87 pa8 s6n := ((f71.ext E63).wr W87)
  obtain ⟨T95, X95, e95, st95⟩ := castY X93 hx hZ hown (ow hw 153 rfl) K93q (Ins.self f94) (g := (mkF m 61 #[(vr pa1), (vr pa2), (vi 3), (vi 1), (vi 0), (vi 0), .unset, .unset, .unset, .unset] [(.ref pa8)])) rfl rfl (hb hby d14_61)
  have f96 : Fld Z h87 pa8 s6n "high" "I" (.int pi11) := ((((((((P14.ext E3).other W15 (Or.inl (Ne.symm P49))).ext E17).other W37 (Or.inl (Ne.symm P49))).ext E39).other W61 (Or.inl (Ne.symm P49))).ext E63).other W87 (Or.inl (Ne.symm P49)))
  obtain ⟨cq97, kq97, q97a, q97b, q97c⟩ := isOf hZ e95 f94
  obtain ⟨_, _, ⟨T97, L97, k97, n97⟩, -, X97, ⟨Lc97, hQ97, l97, y97, z97⟩, st97⟩ := X95.virtualBack hx (y := M19) (z := M19) hown (mvT hZ (ow hw 155 rfl)) (mvT hZ (ow hw 156 rfl)) (notFace_of_selects (args := #[]) (mvT hZ (ow hw 158 rfl))) (mvT hZ (ow hw 158 rfl)) (mvT hZ (ow hw 157 rfl)) (by decide) (backOf (W := 0) (au20_0 l Z a0 hw [] wINTEGER wDOUBLE wBOOLEAN wDEFAULTCAPACITY_EMPTY_ELEMENTDATA kwDEFAULTCAPACITY_EMPTY_ELEMENTDATA hS pa8 pi11 h87 n0 O88 f96) hZ (ow hw 159 rfl) (ow hw 38 rfl) (by decide) (by decide)) q97a q97c (g := (mkF m 68 #[(vr pa1), (vr pa2), (vi 3), (vi 1), (vi 0), (vi 0), (vr pa8), .unset, .unset, .unset] [(.ref pa8)])) rfl (by rw [hml]; rfl) (Steps.refl _) (argsL := []) (rest := []) (lenOf pd_10 rfl) rfl (by show 2 * 0 + _ ≤ _; exact Nat.le_of_eq rfl) (hb hby d14_68) (fun _ _ => ⟨rfl, e95, (by decide : 4 + 0 ≤ _), (by decide : 12 + 0 ≤ _)⟩)
  dsimp only [Pt.U, Pt.locs, Pt.cells, Pt.slots] at X97 l97 y97 z97 st97 hQ97
  subst y97 z97
  obtain ⟨rfl, Nq97, K97q⟩ := hQ97
  have N97 : Fr n0 L97 := (congrArg (Fr n0) l97).mpr (Fr.app N93 Nq97)
  have f98 : Fld Z h87 pa8 s6n "low" "I" (.int pi12) := ((((((((P15.ext E3).other W15 (Or.inl (Ne.symm P49))).ext E17).other W37 (Or.inl (Ne.symm P49))).ext E39).other W61 (Or.inl (Ne.symm P49))).ext E63).other W87 (Or.inl (Ne.symm P49)))
  obtain ⟨cq99, kq99, q99a, q99b, q99c⟩ := isOf hZ K97q f94
  obtain ⟨_, _, ⟨T99, L99, k99, n99⟩, -, X99, ⟨Lc99, hQ99, l99, y99, z99⟩, st99⟩ := X97.virtualBack hx (y := M20) (z := M20) hown (mvT hZ (ow hw 160 rfl)) (mvT hZ (ow hw 161 rfl)) (notFace_of_selects (args := #[]) (mvT hZ (ow hw 163 rfl))) (mvT hZ (ow hw 163 rfl)) (mvT hZ (ow hw 162 rfl)) (by decide) (backOf (W := 2) (au21_0 l Z a0 hw [] wINTEGER wDOUBLE wBOOLEAN wDEFAULTCAPACITY_EMPTY_ELEMENTDATA kwDEFAULTCAPACITY_EMPTY_ELEMENTDATA hS pa8 pi12 h87 n0 O88 f98) hZ (ow hw 164 rfl) (ow hw 38 rfl) (by decide) (by decide)) q99a q99c (g := (mkF m 74 #[(vr pa1), (vr pa2), (vi 3), (vi 1), (vi 0), (vi 0), (vr pa8), .unset, .unset, .unset] [(.ref pa8), (.long (pi11.toInt64))])) rfl (by rw [hml]; rfl) (Steps.refl _) (argsL := []) (rest := [(.long (pi11.toInt64))]) (lenOf pd_10 rfl) rfl (by show 2 * 0 + _ ≤ _; exact Nat.le_of_eq rfl) (hb hby d14_74) (fun _ _ => ⟨rfl, K97q, (by decide : 4 + 0 ≤ _), (by decide : 12 + 0 ≤ _)⟩)
  dsimp only [Pt.U, Pt.locs, Pt.cells, Pt.slots] at X99 l99 y99 z99 st99 hQ99
  subst y99 z99
  obtain ⟨rfl, Nq99, K99q⟩ := hQ99
  have N99 : Fr n0 L99 := (congrArg (Fr n0) l99).mpr (Fr.app N97 Nq99)
  obtain ⟨_, _, ⟨T100, L100, k100, n100⟩, -, X100, ⟨Lc100, hQ100, l100, y100, z100⟩, st100⟩ := Jvm.LawKit.callS X99 hx (y := M4) hown (mvT hZ (ow hw 165 rfl)) (mvT hZ (ow hw 166 rfl)) (mvT hZ (ow hw 167 rfl)) (mvT hZ (ow hw 168 rfl)) (by decide) (backOf (W := 1) (rmNlz64 l Z a0 hw [] wINTEGER wDOUBLE wBOOLEAN wDEFAULTCAPACITY_EMPTY_ELEMENTDATA kwDEFAULTCAPACITY_EMPTY_ELEMENTDATA hS ((pi11.toInt64) - (pi12.toInt64)) h87 n0 O88 ) hZ (ow hw 168 rfl) (ow hw 167 rfl) (by decide) (by decide)) (g := (mkF m 85 #[(vr pa1), (vr pa2), (vi 3), (vi 1), (vi 0), (vi 0), (vr pa8), .val (.long ((pi11.toInt64) - (pi12.toInt64))), .second, .unset] [(.long ((pi11.toInt64) - (pi12.toInt64))), (.int 64)])) rfl (by rw [hml]; rfl) (argsL := [(.long ((pi11.toInt64) - (pi12.toInt64)))]) (rest := [(.int 64)]) (lenOf pd_13 rfl) rfl (by show 2 * 0 + _ ≤ _; exact Nat.le_of_eq rfl) (hb hby d14_85) (fun _ _ => ⟨rfl, K99q, (by decide : 4 + 0 ≤ _), (by decide : 12 + 0 ≤ _)⟩)
  dsimp only [Pt.U, Pt.locs, Pt.cells, Pt.slots] at X100 l100 y100 z100 st100 hQ100
  subst y100 z100
  obtain ⟨r_100, rfl, Nq100, K100q, p100_0⟩ := hQ100
  have N100 : Fr n0 L100 := (congrArg (Fr n0) l100).mpr (Fr.app N99 Nq100)
  have hb101 : ((64 : Int32) - r_100) = pi3 := by rw [p100_0]; exact P36
  have pre102 : ∀ t, Steps p.tables e below (T100.setTop (mkF m 89 #[(vr pa1), (vr pa2), (vi 3), (vi 1), (vi 0), (vi 0), (vr pa8), .val (.long ((pi11.toInt64) - (pi12.toInt64))), .second, .unset] [(.int pi3)])) t → Steps p.tables e below (s₁.setTop (entryFrame m #[(.ref pa1), (.ref pa2)] 10)) t := by
    intro t k
    refine pre0 t ?_
    show Steps p.tables e below (s₁.setTop (mkF m 0 #[(vr pa1), (vr pa2), .unset, .unset, .unset, .unset, .unset, .unset, .unset, .unset] [])) _
    refine XS.aloadN X0.here hx rfl (hb hby d14_0) rfl rfl ?_
    refine st1 _ ?_
    refine XS.aloadN X1.here hx rfl (hb hby d14_4) rfl rfl ?_
    refine st2.trans ?_
    refine XS.istoreN X2.here hx rfl (hb hby d14_10) rfl (l' := #[(vr pa1), (vr pa2), (vi 3), .unset, .unset, .unset, .unset, .unset, .unset, .unset]) rfl ?_
    refine XS.aloadN X2.here hx rfl (hb hby d14_11) rfl rfl ?_
    show Steps p.tables e below (T2.setTop (mkF m 12 #[(vr pa1), (vr pa2), (vi 3), .unset, .unset, .unset, .unset, .unset, .unset, .unset] [(.ref pa1)])) _
    refine XS.iloadN X2.here hx rfl (hb hby d14_12) rfl ?_
    refine st3 _ ?_
    refine st15 _ ?_
    refine XS.aloadN X15.here hx rfl (hb hby d14_18) rfl rfl ?_
    refine XS.iloadN X15.here hx rfl (hb hby d14_19) rfl ?_
    refine st17 _ ?_
    show Steps p.tables e below (T17.setTop (mkF m 22 #[(vr pa1), (vr pa2), (vi 3), .unset, .unset, .unset, .unset, .unset, .unset, .unset] [(.ref b17), (.ref pa1)])) _
    refine st37 _ ?_
    refine XS.aloadN X37.here hx rfl (hb hby d14_25) rfl rfl ?_
    refine XS.iloadN X37.here hx rfl (hb hby d14_26) rfl ?_
    refine st39 _ ?_
    refine st61 _ ?_
    refine XS.aloadN X61.here hx rfl (hb hby d14_32) rfl rfl ?_
    show Steps p.tables e below (T61.setTop (mkF m 33 #[(vr pa1), (vr pa2), (vi 3), .unset, .unset, .unset, .unset, .unset, .unset, .unset] [(.ref pa1)])) _
    refine XS.iloadN X61.here hx rfl (hb hby d14_33) rfl ?_
    refine st63 _ ?_
    refine st87 _ ?_
    refine XS.iconst X87.here hx rfl (hb hby d14_39) ?_
    refine XS.istoreN X87.here hx rfl (hb hby d14_40) rfl (l' := #[(vr pa1), (vr pa2), (vi 3), (vi 1), .unset, .unset, .unset, .unset, .unset, .unset]) rfl ?_
    refine XS.iconst X87.here hx rfl (hb hby d14_41) ?_
    show Steps p.tables e below (T87.setTop (mkF m 42 #[(vr pa1), (vr pa2), (vi 3), (vi 1), .unset, .unset, .unset, .unset, .unset, .unset] [(.int 0)])) _
    refine XS.istore X87.here hx rfl (hb hby d14_42) rfl (l' := #[(vr pa1), (vr pa2), (vi 3), (vi 1), (vi 0), .unset, .unset, .unset, .unset, .unset]) rfl ?_
    refine XS.iconst X87.here hx rfl (hb hby d14_44) ?_
    refine XS.istore X87.here hx rfl (hb hby d14_45) rfl (l' := #[(vr pa1), (vr pa2), (vi 3), (vi 1), (vi 0), (vi 0), .unset, .unset, .unset, .unset]) rfl ?_
    refine XS.iload X87.here hx rfl (hb hby d14_47) rfl ?_
    refine XS.iloadN X87.here hx rfl (hb hby d14_49) rfl ?_
    refine XS.icmpNo X87.here hx rfl (hb hby d14_50) rfl (tlt (by decide : (0 : Int32) < (3 : Int32))).2.1 ?_
    show Steps p.tables e below (T87.setTop (mkF m 53 #[(vr pa1), (vr pa2), (vi 3), (vi 1), (vi 0), (vi 0), .unset, .unset, .unset, .unset] [])) _
    refine XS.aloadN X87.here hx rfl (hb hby d14_53) rfl rfl ?_
    refine XS.iload X87.here hx rfl (hb hby d14_54) rfl ?_
    refine st93.trans ?_
    refine st95 _ ?_
    refine XS.astore X95.here hx rfl (hb hby d14_64) rfl rfl (l' := #[(vr pa1), (vr pa2), (vi 3), (vi 1), (vi 0), (vi 0), (vr pa8), .unset, .unset, .unset]) rfl ?_
    refine XS.aload X95.here hx rfl (hb hby d14_66) rfl rfl ?_
    show Steps p.tables e below (T95.setTop (mkF m 68 #[(vr pa1), (vr pa2), (vi 3), (vi 1), (vi 0), (vi 0), (vr pa8), .unset, .unset, .unset] [(.ref pa8)])) _
    refine st97.trans ?_
    refine XS.i2l X97.here hx rfl (hb hby d14_71) rfl ?_
    refine XS.aload X97.here hx rfl (hb hby d14_72) rfl rfl ?_
    refine st99.trans ?_
    refine XS.i2l X99.here hx rfl (hb hby d14_77) rfl ?_
    refine XS.lsub X99.here hx rfl (hb hby d14_78) rfl ?_
    show Steps p.tables e below (T99.setTop (mkF m 79 #[(vr pa1), (vr pa2), (vi 3), (vi 1), (vi 0), (vi 0), (vr pa8), .unset, .unset, .unset] [(.long ((pi11.toInt64) - (pi12.toInt64)))])) _
    refine XS.lstore X99.here hx rfl (hb hby d14_79) rfl (l' := #[(vr pa1), (vr pa2), (vi 3), (vi 1), (vi 0), (vi 0), (vr pa8), .val (.long ((pi11.toInt64) - (pi12.toInt64))), .second, .unset]) rfl ?_
    refine XS.bipush X99.here hx rfl (hb hby d14_81) ?_
    refine XS.lload X99.here hx rfl (hb hby d14_83) rfl ?_
    refine st100 _ ?_
    refine XS.isub X100.here hx rfl (hb hby d14_88) rfl ?_
    rw [hb101]
    exact k
  have f103 : Fld Z h87 pa1 s9n "low" "[I" (.ref b3) := ((((((Fw15.ext E17).other W37 (Or.inr (slot_ne (Or.inr (ow hw 124 rfl)) (Or.inr (ow hw 126 rfl)) (by decide) (t := (.array .int)) (t' := (.array .int)) (by decide) (by decide)))).ext E39).other W61 (Or.inr (slot_ne (Or.inr (ow hw 124 rfl)) (Or.inr (ow hw 128 rfl)) (by decide) (t := (.array .int)) (t' := (.array .int)) (by decide) (by decide)))).ext E63).other W87 (Or.inr (slot_ne (Or.inr (ow hw 124 rfl)) (Or.inr (ow hw 131 rfl)) (by decide) (t := (.array .int)) (t' := (.array .long)) (by decide) (by decide))))
  obtain ⟨T104, X104, e104, st104⟩ := getF X100 hx hZ hown (host := "") (Or.inl (ow hw 123 rfl)) Via.refl K100q f103 (g := (mkF m 108 #[(vr pa1), (vr pa2), (vi 3), (vi 1), (vi 0), (vi 0), (vr pa8), .val (.long ((pi11.toInt64) - (pi12.toInt64))), .second, (vi pi3)] [(.ref pa1)])) rfl rfl (hb hby d14_108)
  obtain ⟨cq105, kq105, q105a, q105b, q105c⟩ := isOf hZ e104 f94
  obtain ⟨_, _, ⟨T105, L105, k105, n105⟩, -, X105, ⟨Lc105, hQ105, l105, y105, z105⟩, st105⟩ := X104.virtualBack hx (y := M20) (z := M20) hown (mvT hZ (ow hw 160 rfl)) (mvT hZ (ow hw 161 rfl)) (notFace_of_selects (args := #[]) (mvT hZ (ow hw 163 rfl))) (mvT hZ (ow hw 163 rfl)) (mvT hZ (ow hw 162 rfl)) (by decide) (backOf (W := 2) (au21_0 l Z a0 hw [] wINTEGER wDOUBLE wBOOLEAN wDEFAULTCAPACITY_EMPTY_ELEMENTDATA kwDEFAULTCAPACITY_EMPTY_ELEMENTDATA hS pa8 pi12 h87 n0 O88 f98) hZ (ow hw 164 rfl) (ow hw 38 rfl) (by decide) (by decide)) q105a q105c (g := (mkF m 115 #[(vr pa1), (vr pa2), (vi 3), (vi 1), (vi 0), (vi 0), (vr pa8), .val (.long ((pi11.toInt64) - (pi12.toInt64))), .second, (vi pi3)] [(.ref pa8), (.int 0), (.ref b3)])) rfl (by rw [hml]; rfl) (Steps.refl _) (argsL := []) (rest := [(.int 0), (.ref b3)]) (lenOf pd_10 rfl) rfl (by show 2 * 0 + _ ≤ _; exact Nat.le_of_eq rfl) (hb hby d14_115) (fun _ _ => ⟨rfl, e104, (by decide : 4 + 0 ≤ _), (by decide : 12 + 0 ≤ _)⟩)
  dsimp only [Pt.U, Pt.locs, Pt.cells, Pt.slots] at X105 l105 y105 z105 st105 hQ105
  subst y105 z105
  obtain ⟨rfl, Nq105, K105q⟩ := hQ105
  have N105 : Fr n0 L105 := (congrArg (Fr n0) l105).mpr (Fr.app N100 Nq105)
  have f106 : Arv Z h87 b3 k3 .int (3 : Int32) ([(.int 0), (.int 0), (.int 0)]) (.int 0) := ((f77.ext E63).other W87 (Ne.symm ne4))
  obtain ⟨cl107, Ar107, qc107, Sz107, Nn107, Ha107, Gg107⟩ := (id f106)
  have hin107 : ¬ ((0 : Int32) < 0 ∨ cl107.slots.size ≤ ((0 : Int32)).toNatClampNeg) := inb_of Sz107 ⟨by decide, by decide⟩
  obtain ⟨T107, h107, X107, e107, W107, st107⟩ := stI X105 hx hZ K105q Ar107 (j := (0 : Int32)) hin107 (g := (mkF m 118 #[(vr pa1), (vr pa2), (vi 3), (vi 1), (vi 0), (vi 0), (vr pa8), .val (.long ((pi11.toInt64) - (pi12.toInt64))), .second, (vi pi3)] [(.int pi12), (.int 0), (.ref b3)])) rfl rfl (hb hby d14_118)
  have O108 : Old Z n0 h107 := O88.wr W107 g10
  have K108 : Keep h0 h107 [pa1] := K88.wr W107 (Or.inr sz11)
  have V107 : Arv Z h107 b3 k3 .int (3 : Int32) ([(.int pi12), (.int 0), (.int 0)]) (.int 0) := (Arv.set Ar107 qc107 Sz107 Nn107 Ha107 Gg107 (v := (.int pi12)) rfl W107 0 rfl (Nat.le_of_ble_eq_true rfl))
  have N107 := Fr.snoc X107 N105 g10
  have f109 : Fld Z h107 pa1 s9n "word" "[I" (.ref b17) := (((((Fw37.ext E39).other W61 (Or.inr (slot_ne (Or.inr (ow hw 126 rfl)) (Or.inr (ow hw 128 rfl)) (by decide) (t := (.array .int)) (t' := (.array .int)) (by decide) (by decide)))).ext E63).other W87 (Or.inr (slot_ne (Or.inr (ow hw 126 rfl)) (Or.inr (ow hw 131 rfl)) (by decide) (t := (.array .int)) (t' := (.array .long)) (by decide) (by decide)))).other W107 (Or.inl ne4))
  obtain ⟨T110, X110, e110, st110⟩ := getF X107 hx hZ hown (host := "") (Or.inl (ow hw 125 rfl)) Via.refl e107 f109 (g := (mkF m 120 #[(vr pa1), (vr pa2), (vi 3), (vi 1), (vi 0), (vi 0), (vr pa8), .val (.long ((pi11.toInt64) - (pi12.toInt64))), .second, (vi pi3)] [(.ref pa1)])) rfl rfl (hb hby d14_120)
  have f111 : Arv Z h107 b17 k17 .int (3 : Int32) ([(.int 0), (.int 0), (.int 0)]) (.int 0) := (((f79.ext E63).other W87 (Ne.symm ne18)).other W107 (Ne.symm ne30))
  obtain ⟨cl112, Ar112, qc112, Sz112, Nn112, Ha112, Gg112⟩ := (id f111)
  have hin112 : ¬ ((0 : Int32) < 0 ∨ cl112.slots.size ≤ ((0 : Int32)).toNatClampNeg) := inb_of Sz112 ⟨by decide, by decide⟩
  obtain ⟨T112, h112, X112, e112, W112, st112⟩ := stI X110 hx hZ e110 Ar112 (j := (0 : Int32)) hin112 (g := (mkF m 128 #[(vr pa1), (vr pa2), (vi 3), (vi 1), (vi 0), (vi 0), (vr pa8), .val (.long ((pi11.toInt64) - (pi12.toInt64))), .second, (vi pi3)] [(.int 0), (.int 0), (.ref b17)])) rfl rfl (hb hby d14_128)
  have O113 : Old Z n0 h112 := O108.wr W112 g32
  have K113 : Keep h0 h112 [pa1] := K108.wr W112 (Or.inr sz33)
  have V112 : Arv Z h112 b17 k17 .int (3 : Int32) ([(.int 0), (.int 0), (.int 0)]) (.int 0) := (Arv.set Ar112 qc112 Sz112 Nn112 Ha112 Gg112 (v := (.int 0)) rfl W112 0 rfl (Nat.le_of_ble_eq_true rfl))
  have N112 := Fr.snoc X112 N107 g32
  have f114 : Fld Z h112 pa1 s9n "shift" "[I" (.ref b39) := ((((Fw61.ext E63).other W87 (Or.inr (slot_ne (Or.inr (ow hw 128 rfl)) (Or.inr (ow hw 131 rfl)) (by decide) (t := (.array .int)) (t' := (.array .long)) (by decide) (by decide)))).other W107 (Or.inl ne4)).other W112 (Or.inl ne18))
  obtain ⟨T115, X115, e115, st115⟩ := getF X112 hx hZ hown (host := "") (Or.inl (ow hw 127 rfl)) Via.refl e112 f114 (g := (mkF m 130 #[(vr pa1), (vr pa2), (vi 3), (vi 1), (vi 0), (vi 0), (vr pa8), .val (.long ((pi11.toInt64) - (pi12.toInt64))), .second, (vi pi3)] [(.ref pa1)])) rfl rfl (hb hby d14_130)
  have f116 : Arv Z h112 b39 k39 .int (3 : Int32) ([(.int 0), (.int 0), (.int 0)]) (.int 0) := ((((f81.ext E63).other W87 (Ne.symm ne40)).other W107 (Ne.symm ne52)).other W112 (Ne.symm ne54))
  obtain ⟨cl117, Ar117, qc117, Sz117, Nn117, Ha117, Gg117⟩ := (id f116)
  have hin117 : ¬ ((0 : Int32) < 0 ∨ cl117.slots.size ≤ ((0 : Int32)).toNatClampNeg) := inb_of Sz117 ⟨by decide, by decide⟩
  obtain ⟨T117, h117, X117, e117, W117, st117⟩ := stI X115 hx hZ e115 Ar117 (j := (0 : Int32)) hin117 (g := (mkF m 137 #[(vr pa1), (vr pa2), (vi 3), (vi 1), (vi 0), (vi 0), (vr pa8), .val (.long ((pi11.toInt64) - (pi12.toInt64))), .second, (vi pi3)] [(.int 0), (.int 0), (.ref b39)])) rfl rfl (hb hby d14_137)
  have O118 : Old Z n0 h117 := O113.wr W117 g56
  have K118 : Keep h0 h117 [pa1] := K113.wr W117 (Or.inr sz57)
  have V117 : Arv Z h117 b39 k39 .int (3 : Int32) ([(.int 0), (.int 0), (.int 0)]) (.int 0) := (Arv.set Ar117 qc117 Sz117 Nn117 Ha117 Gg117 (v := (.int 0)) rfl W117 0 rfl (Nat.le_of_ble_eq_true rfl))
  have N117 := Fr.snoc X117 N112 g56
  have f119 : Fld Z h117 pa1 s9n "mask" "[J" (.ref b63) := (((Fw87.other W107 (Or.inl ne4)).other W112 (Or.inl ne18)).other W117 (Or.inl ne40))
  obtain ⟨T120, X120, e120, st120⟩ := getF X117 hx hZ hown (host := "") (Or.inl (ow hw 130 rfl)) Via.refl e117 f119 (g := (mkF m 139 #[(vr pa1), (vr pa2), (vi 3), (vi 1), (vi 0), (vi 0), (vr pa8), .val (.long ((pi11.toInt64) - (pi12.toInt64))), .second, (vi pi3)] [(.ref pa1)])) rfl rfl (hb hby d14_139)
  have pre121 : ∀ t, Steps p.tables e below (T120.setTop (mkF m 146 #[(vr pa1), (vr pa2), (vi 3), (vi 1), (vi 0), (vi 0), (vr pa8), .val (.long ((pi11.toInt64) - (pi12.toInt64))), .second, (vi pi3)] [(.int pi3), (.int 0), (.ref b63)])) t → Steps p.tables e below (s₁.setTop (entryFrame m #[(.ref pa1), (.ref pa2)] 10)) t := by
    intro t k
    refine pre102 t ?_
    show Steps p.tables e below (T100.setTop (mkF m 89 #[(vr pa1), (vr pa2), (vi 3), (vi 1), (vi 0), (vi 0), (vr pa8), .val (.long ((pi11.toInt64) - (pi12.toInt64))), .second, .unset] [(.int pi3)])) _
    refine XS.istore X100.here hx rfl (hb hby d14_89) rfl (l' := #[(vr pa1), (vr pa2), (vi 3), (vi 1), (vi 0), (vi 0), (vr pa8), .val (.long ((pi11.toInt64) - (pi12.toInt64))), .second, (vi pi3)]) rfl ?_
    refine XS.iload X100.here hx rfl (hb hby d14_91) rfl ?_
    refine XS.iload X100.here hx rfl (hb hby d14_93) rfl ?_
    refine XS.iadd X100.here hx rfl (hb hby d14_95) rfl ?_
    refine XS.bipush X100.here hx rfl (hb hby d14_96) ?_
    refine XS.icmpYes X100.here hx rfl (pc0 := 98) (pc' := 107) rfl (hb hby d14_98) rfl (flt (P31 : ¬ ((64 : Int32) < ((0 : Int32) + pi3)))).2.2.2 (by decide) (by decide) ?_
    show Steps p.tables e below (T100.setTop (mkF m 107 #[(vr pa1), (vr pa2), (vi 3), (vi 1), (vi 0), (vi 0), (vr pa8), .val (.long ((pi11.toInt64) - (pi12.toInt64))), .second, (vi pi3)] [])) _
    refine XS.aloadN X100.here hx rfl (hb hby d14_107) rfl rfl ?_
    refine st104 _ ?_
    refine XS.iload X104.here hx rfl (hb hby d14_111) rfl ?_
    refine XS.aload X104.here hx rfl (hb hby d14_113) rfl rfl ?_
    refine st105.trans ?_
    refine st107 _ ?_
    show Steps p.tables e below (T107.setTop (mkF m 119 #[(vr pa1), (vr pa2), (vi 3), (vi 1), (vi 0), (vi 0), (vr pa8), .val (.long ((pi11.toInt64) - (pi12.toInt64))), .second, (vi pi3)] [])) _
    refine XS.aloadN X107.here hx rfl (hb hby d14_119) rfl rfl ?_
    refine st110 _ ?_
    refine XS.iload X110.here hx rfl (hb hby d14_123) rfl ?_
    refine XS.iloadN X110.here hx rfl (hb hby d14_125) rfl ?_
    refine XS.iconst X110.here hx rfl (hb hby d14_126) ?_
    refine XS.isub X110.here hx rfl (hb hby d14_127) rfl ?_
    show Steps p.tables e below (T110.setTop (mkF m 128 #[(vr pa1), (vr pa2), (vi 3), (vi 1), (vi 0), (vi 0), (vr pa8), .val (.long ((pi11.toInt64) - (pi12.toInt64))), .second, (vi pi3)] [(.int 0), (.int 0), (.ref b17)])) _
    refine st112 _ ?_
    refine XS.aloadN X112.here hx rfl (hb hby d14_129) rfl rfl ?_
    refine st115 _ ?_
    refine XS.iload X115.here hx rfl (hb hby d14_133) rfl ?_
    refine XS.iload X115.here hx rfl (hb hby d14_135) rfl ?_
    refine st117 _ ?_
    show Steps p.tables e below (T117.setTop (mkF m 138 #[(vr pa1), (vr pa2), (vi 3), (vi 1), (vi 0), (vi 0), (vr pa8), .val (.long ((pi11.toInt64) - (pi12.toInt64))), .second, (vi pi3)] [])) _
    refine XS.aloadN X117.here hx rfl (hb hby d14_138) rfl rfl ?_
    refine st120 _ ?_
    refine XS.iload X120.here hx rfl (hb hby d14_142) rfl ?_
    refine XS.iload X120.here hx rfl (hb hby d14_144) rfl ?_
    exact k
  obtain ⟨y123, hy123⟩ : ∃ z : Int64, z = (if pi3 = (0 : Int32) then (0 : Int64) else (((-1 : Int64).toUInt64 >>> (((64 : Int32) - pi3) &&& 0x3f).toInt64.toUInt64).toInt64)) := ⟨_, rfl⟩
  have pre124 : ∀ t, Steps p.tables e below (T120.setTop (mkF m 162 #[(vr pa1), (vr pa2), (vi 3), (vi 1), (vi 0), (vi 0), (vr pa8), .val (.long ((pi11.toInt64) - (pi12.toInt64))), .second, (vi pi3)] [(.long y123), (.int 0), (.ref b63)])) t → Steps p.tables e below (s₁.setTop (entryFrame m #[(.ref pa1), (.ref pa2)] 10)) t := by
    intro t k
    rw [hy123] at k
    refine pre121 t ?_
    show Steps p.tables e below (T120.setTop (mkF m 146 #[(vr pa1), (vr pa2), (vi 3), (vi 1), (vi 0), (vi 0), (vr pa8), .val (.long ((pi11.toInt64) - (pi12.toInt64))), .second, (vi pi3)] [(.int pi3), (.int 0), (.ref b63)])) _
    rcases Decidable.em (pi3 = (0 : Int32)) with hm122 | hm122
    · first | simp only [if_pos hm122] at k | skip
      refine XS.ifNo X120.here hx rfl (hb hby d14_146) rfl ((if0 _ _).trans (teq hm122).2) ?_
      refine XS.lconst X120.here hx rfl (hb hby d14_149) ?_
      refine XS.goto X120.here hx rfl (pc0 := 150) (pc' := 162) rfl (hb hby d14_150) (by decide) (by decide) ?_
      exact k
    · first | simp only [if_neg hm122] at k | skip
      refine XS.ifYes X120.here hx rfl (pc0 := 146) (pc' := 153) rfl (hb hby d14_146) rfl ((if0 _ _).trans (feq hm122).2) (by decide) (by decide) ?_
      refine X120.ldc2Long hx hown (mvT hZ (ow hw 174 rfl)) (g := (mkF m 153 #[(vr pa1), (vr pa2), (vi 3), (vi 1), (vi 0), (vi 0), (vr pa8), .val (.long ((pi11.toInt64) - (pi12.toInt64))), .second, (vi pi3)] [(.int 0), (.ref b63)])) rfl (hb hby d14_153) _ ?_
      refine XS.bipush X120.here hx rfl (hb hby d14_156) ?_
      refine XS.iload X120.here hx rfl (hb hby d14_158) rfl ?_
      refine XS.isub X120.here hx rfl (hb hby d14_160) rfl ?_
      refine XS.lushr X120.here hx rfl (hb hby d14_161) rfl ?_
      exact k
  have hm125 : y123 = maskV pi3 := hy123
  have pre126 : ∀ t, Steps p.tables e below (T120.setTop (mkF m 162 #[(vr pa1), (vr pa2), (vi 3), (vi 1), (vi 0), (vi 0), (vr pa8), .val (.long ((pi11.toInt64) - (pi12.toInt64))), .second, (vi pi3)] [(.long (maskV pi3)), (.int 0), (.ref b63)])) t → Steps p.tables e below (s₁.setTop (entryFrame m #[(.ref pa1), (.ref pa2)] 10)) t := by
    intro t k
    refine pre124 t ?_
    rw [hm125]
    exact k
  have f127 : Arv Z h117 b63 k63 .long (3 : Int32) ([(.long 0), (.long 0), (.long 0)]) (.long 0) := ((((V63.other W87 (Ne.symm ne64)).other W107 (Ne.symm ne76)).other W112 (Ne.symm ne78)).other W117 (Ne.symm ne80))
  obtain ⟨cl128, Ar128, qc128, Sz128, Nn128, Ha128, Gg128⟩ := (id f127)
  have hin128 : ¬ ((0 : Int32) < 0 ∨ cl128.slots.size ≤ ((0 : Int32)).toNatClampNeg) := inb_of Sz128 ⟨by decide, by decide⟩
  obtain ⟨T128, h128, X128, e128, W128, st128⟩ := stJ X120 hx hZ e120 Ar128 (j := (0 : Int32)) hin128 (g := (mkF m 162 #[(vr pa1), (vr pa2), (vi 3), (vi 1), (vi 0), (vi 0), (vr pa8), .val (.long ((pi11.toInt64) - (pi12.toInt64))), .second, (vi pi3)] [(.long (maskV pi3)), (.int 0), (.ref b63)])) rfl rfl (hb hby d14_162)
  have O129 : Old Z n0 h128 := O118.wr W128 g82
  have K129 : Keep h0 h128 [pa1] := K118.wr W128 (Or.inr sz83)
  have V128 : Arv Z h128 b63 k63 .long (3 : Int32) ([(.long (maskV pi3)), (.long 0), (.long 0)]) (.long 0) := (Arv.set Ar128 qc128 Sz128 Nn128 Ha128 Gg128 (v := (.long (maskV pi3))) rfl W128 0 rfl (Nat.le_of_ble_eq_true rfl))
  have N128 := Fr.snoc X128 N117 g82
  have f130 : Exa Z h128 pa2 s2n := ((((f89.wr W107).wr W112).wr W117).wr W128)
  have f131 : Fld Z h128 pa2 s2n "elementData" s3n (.ref pa6) := ((((f90.other W107 (Or.inl ne5)).other W112 (Or.inl ne20)).other W117 (Or.inl ne42)).other W128 (Or.inl ne66))
  have f132 : Fld Z h128 pa2 s2n "size" "I" (.int 3) := ((((f91.other W107 (Or.inl ne5)).other W112 (Or.inl ne20)).other W117 (Or.inl ne42)).other W128 (Or.inl ne66))
  have f133 : Arv Z h128 pa6 pk7 (.object s4n) (10 : Int32) ([(.ref pa8), (.ref pa9), (.ref pa10), .null, .null, .null, .null, .null, .null, .null]) .null := ((((f92.other W107 ne6).other W112 ne22).other W117 ne44).other W128 ne68)
  obtain ⟨cq134, kq134, q134a, q134b, q134c⟩ := isOf hZ e128 f130
  obtain ⟨_, _, ⟨T134, L134, k134, n134⟩, -, X134, ⟨Lc134, hQ134, l134, y134, z134⟩, st134⟩ := X128.interfaceBack hx (xi := M23) (y := M18) hown (mvT hZ (ow hw 132 rfl)) (mvT hZ (ow hw 133 rfl)) (mvT hZ (ow hw 134 rfl)) (mvT hZ (ow hw 135 rfl)) (mvT hZ (ow hw 136 rfl)) (mvT hZ (ow hw 137 rfl)) (mvT hZ (ow hw 138 rfl)) (mvT hZ (ow hw 78 rfl)) (by decide) (backOf (W := 0) (au16_1 l Z a0 hw [] wINTEGER wDOUBLE wBOOLEAN wDEFAULTCAPACITY_EMPTY_ELEMENTDATA kwDEFAULTCAPACITY_EMPTY_ELEMENTDATA hS pa2 pa6 pk7 pa8 pa9 pa10 h128 n0 O129 f130 f131 f132 f133) hZ (ow hw 139 rfl) (ow hw 12 rfl) (by decide) (by decide)) q134a q134b q134c (g := (mkF m 56 #[(vr pa1), (vr pa2), (vi 3), (vi 1), .val (.int ((0 : Int32) + pi3)), (vi 1), (vr pa8), .val (.long ((pi11.toInt64) - (pi12.toInt64))), .second, (vi pi3)] [(.int 1), (.ref pa2)])) rfl (by rw [hml]; rfl) (Steps.refl _) (argsL := [(.int 1)]) (rest := []) (lenOf pd_12 rfl) rfl (by show 2 * 0 + _ ≤ _; exact Nat.le_of_eq rfl) (hb hby d14_56) (fun _ _ => ⟨rfl, e128, (by decide : 4 + 0 ≤ _), (by decide : 12 + 0 ≤ _)⟩)
  dsimp only [Pt.U, Pt.locs, Pt.cells, Pt.slots] at X134 l134 y134 z134 st134 hQ134
  subst y134 z134
  obtain ⟨rfl, Nq134, K134q⟩ := hQ134
  have N134 : Fr n0 L134 := (congrArg (Fr n0) l134).mpr (Fr.app N128 Nq134)
  have f135 : Exa Z h128 pa9 s6n := ((((((f73.ext E63).wr W87).wr W107).wr W112).wr W117).wr W128)
  obtain ⟨T136, X136, e136, st136⟩ := castY X134 hx hZ hown (ow hw 153 rfl) K134q (Ins.self f135) (g := (mkF m 61 #[(vr pa1), (vr pa2), (vi 3), (vi 1), .val (.int ((0 : Int32) + pi3)), (vi 1), (vr pa8), .val (.long ((pi11.toInt64) - (pi12.toInt64))), .second, (vi pi3)] [(.ref pa9)])) rfl rfl (hb hby d14_61)
  have f137 : Fld Z h128 pa9 s6n "high" "I" (.int pi14) := ((((((((((((P19.ext E3).other W15 (Or.inl (Ne.symm P50))).ext E17).other W37 (Or.inl (Ne.symm P50))).ext E39).other W61 (Or.inl (Ne.symm P50))).ext E63).other W87 (Or.inl (Ne.symm P50))).other W107 (Or.inl ne8)).other W112 (Or.inl ne26)).other W117 (Or.inl ne48)).other W128 (Or.inl ne72))
  obtain ⟨cq138, kq138, q138a, q138b, q138c⟩ := isOf hZ e136 f135
  obtain ⟨_, _, ⟨T138, L138, k138, n138⟩, -, X138, ⟨Lc138, hQ138, l138, y138, z138⟩, st138⟩ := X136.virtualBack hx (y := M19) (z := M19) hown (mvT hZ (ow hw 155 rfl)) (mvT hZ (ow hw 156 rfl)) (notFace_of_selects (args := #[]) (mvT hZ (ow hw 158 rfl))) (mvT hZ (ow hw 158 rfl)) (mvT hZ (ow hw 157 rfl)) (by decide) (backOf (W := 0) (au20_0 l Z a0 hw [] wINTEGER wDOUBLE wBOOLEAN wDEFAULTCAPACITY_EMPTY_ELEMENTDATA kwDEFAULTCAPACITY_EMPTY_ELEMENTDATA hS pa9 pi14 h128 n0 O129 f137) hZ (ow hw 159 rfl) (ow hw 38 rfl) (by decide) (by decide)) q138a q138c (g := (mkF m 68 #[(vr pa1), (vr pa2), (vi 3), (vi 1), .val (.int ((0 : Int32) + pi3)), (vi 1), (vr pa9), .val (.long ((pi11.toInt64) - (pi12.toInt64))), .second, (vi pi3)] [(.ref pa9)])) rfl (by rw [hml]; rfl) (Steps.refl _) (argsL := []) (rest := []) (lenOf pd_10 rfl) rfl (by show 2 * 0 + _ ≤ _; exact Nat.le_of_eq rfl) (hb hby d14_68) (fun _ _ => ⟨rfl, e136, (by decide : 4 + 0 ≤ _), (by decide : 12 + 0 ≤ _)⟩)
  dsimp only [Pt.U, Pt.locs, Pt.cells, Pt.slots] at X138 l138 y138 z138 st138 hQ138
  subst y138 z138
  obtain ⟨rfl, Nq138, K138q⟩ := hQ138
  have N138 : Fr n0 L138 := (congrArg (Fr n0) l138).mpr (Fr.app N134 Nq138)
  have f139 : Fld Z h128 pa9 s6n "low" "I" (.int pi15) := ((((((((((((P20.ext E3).other W15 (Or.inl (Ne.symm P50))).ext E17).other W37 (Or.inl (Ne.symm P50))).ext E39).other W61 (Or.inl (Ne.symm P50))).ext E63).other W87 (Or.inl (Ne.symm P50))).other W107 (Or.inl ne8)).other W112 (Or.inl ne26)).other W117 (Or.inl ne48)).other W128 (Or.inl ne72))
  obtain ⟨cq140, kq140, q140a, q140b, q140c⟩ := isOf hZ K138q f135
  obtain ⟨_, _, ⟨T140, L140, k140, n140⟩, -, X140, ⟨Lc140, hQ140, l140, y140, z140⟩, st140⟩ := X138.virtualBack hx (y := M20) (z := M20) hown (mvT hZ (ow hw 160 rfl)) (mvT hZ (ow hw 161 rfl)) (notFace_of_selects (args := #[]) (mvT hZ (ow hw 163 rfl))) (mvT hZ (ow hw 163 rfl)) (mvT hZ (ow hw 162 rfl)) (by decide) (backOf (W := 2) (au21_0 l Z a0 hw [] wINTEGER wDOUBLE wBOOLEAN wDEFAULTCAPACITY_EMPTY_ELEMENTDATA kwDEFAULTCAPACITY_EMPTY_ELEMENTDATA hS pa9 pi15 h128 n0 O129 f139) hZ (ow hw 164 rfl) (ow hw 38 rfl) (by decide) (by decide)) q140a q140c (g := (mkF m 74 #[(vr pa1), (vr pa2), (vi 3), (vi 1), .val (.int ((0 : Int32) + pi3)), (vi 1), (vr pa9), .val (.long ((pi11.toInt64) - (pi12.toInt64))), .second, (vi pi3)] [(.ref pa9), (.long (pi14.toInt64))])) rfl (by rw [hml]; rfl) (Steps.refl _) (argsL := []) (rest := [(.long (pi14.toInt64))]) (lenOf pd_10 rfl) rfl (by show 2 * 0 + _ ≤ _; exact Nat.le_of_eq rfl) (hb hby d14_74) (fun _ _ => ⟨rfl, K138q, (by decide : 4 + 0 ≤ _), (by decide : 12 + 0 ≤ _)⟩)
  dsimp only [Pt.U, Pt.locs, Pt.cells, Pt.slots] at X140 l140 y140 z140 st140 hQ140
  subst y140 z140
  obtain ⟨rfl, Nq140, K140q⟩ := hQ140
  have N140 : Fr n0 L140 := (congrArg (Fr n0) l140).mpr (Fr.app N138 Nq140)
  obtain ⟨_, _, ⟨T141, L141, k141, n141⟩, -, X141, ⟨Lc141, hQ141, l141, y141, z141⟩, st141⟩ := Jvm.LawKit.callS X140 hx (y := M4) hown (mvT hZ (ow hw 165 rfl)) (mvT hZ (ow hw 166 rfl)) (mvT hZ (ow hw 167 rfl)) (mvT hZ (ow hw 168 rfl)) (by decide) (backOf (W := 1) (rmNlz64 l Z a0 hw [] wINTEGER wDOUBLE wBOOLEAN wDEFAULTCAPACITY_EMPTY_ELEMENTDATA kwDEFAULTCAPACITY_EMPTY_ELEMENTDATA hS ((pi14.toInt64) - (pi15.toInt64)) h128 n0 O129 ) hZ (ow hw 168 rfl) (ow hw 167 rfl) (by decide) (by decide)) (g := (mkF m 85 #[(vr pa1), (vr pa2), (vi 3), (vi 1), .val (.int ((0 : Int32) + pi3)), (vi 1), (vr pa9), .val (.long ((pi14.toInt64) - (pi15.toInt64))), .second, (vi pi3)] [(.long ((pi14.toInt64) - (pi15.toInt64))), (.int 64)])) rfl (by rw [hml]; rfl) (argsL := [(.long ((pi14.toInt64) - (pi15.toInt64)))]) (rest := [(.int 64)]) (lenOf pd_13 rfl) rfl (by show 2 * 0 + _ ≤ _; exact Nat.le_of_eq rfl) (hb hby d14_85) (fun _ _ => ⟨rfl, K140q, (by decide : 4 + 0 ≤ _), (by decide : 12 + 0 ≤ _)⟩)
  dsimp only [Pt.U, Pt.locs, Pt.cells, Pt.slots] at X141 l141 y141 z141 st141 hQ141
  subst y141 z141
  obtain ⟨r_141, rfl, Nq141, K141q, p141_0⟩ := hQ141
  have N141 : Fr n0 L141 := (congrArg (Fr n0) l141).mpr (Fr.app N140 Nq141)
  have hb142 : ((64 : Int32) - r_141) = pi4 := by rw [p141_0]; exact P38
  have pre143 : ∀ t, Steps p.tables e below (T141.setTop (mkF m 89 #[(vr pa1), (vr pa2), (vi 3), (vi 1), .val (.int ((0 : Int32) + pi3)), (vi 1), (vr pa9), .val (.long ((pi14.toInt64) - (pi15.toInt64))), .second, (vi pi3)] [(.int pi4)])) t → Steps p.tables e below (s₁.setTop (entryFrame m #[(.ref pa1), (.ref pa2)] 10)) t := by
    intro t k
    refine pre126 t ?_
    show Steps p.tables e below (T120.setTop (mkF m 162 #[(vr pa1), (vr pa2), (vi 3), (vi 1), (vi 0), (vi 0), (vr pa8), .val (.long ((pi11.toInt64) - (pi12.toInt64))), .second, (vi pi3)] [(.long (maskV pi3)), (.int 0), (.ref b63)])) _
    refine st128 _ ?_
    refine XS.iload X128.here hx rfl (hb hby d14_163) rfl ?_
    refine XS.iload X128.here hx rfl (hb hby d14_165) rfl ?_
    refine XS.iadd X128.here hx rfl (hb hby d14_167) rfl ?_
    refine XS.istore X128.here hx rfl (hb hby d14_168) rfl (l' := #[(vr pa1), (vr pa2), (vi 3), (vi 1), .val (.int ((0 : Int32) + pi3)), (vi 0), (vr pa8), .val (.long ((pi11.toInt64) - (pi12.toInt64))), .second, (vi pi3)]) rfl ?_
    refine XS.iinc X128.here hx rfl (hb hby d14_170) rfl (l' := #[(vr pa1), (vr pa2), (vi 3), (vi 1), .val (.int ((0 : Int32) + pi3)), (vi 1), (vr pa8), .val (.long ((pi11.toInt64) - (pi12.toInt64))), .second, (vi pi3)]) rfl ?_
    show Steps p.tables e below (T128.setTop (mkF m 173 #[(vr pa1), (vr pa2), (vi 3), (vi 1), .val (.int ((0 : Int32) + pi3)), (vi 1), (vr pa8), .val (.long ((pi11.toInt64) - (pi12.toInt64))), .second, (vi pi3)] [])) _
    refine XS.goto X128.here hx rfl (pc0 := 173) (pc' := 47) rfl (hb hby d14_173) (by decide) (by decide) ?_
    refine XS.iload X128.here hx rfl (hb hby d14_47) rfl ?_
    refine XS.iloadN X128.here hx rfl (hb hby d14_49) rfl ?_
    refine XS.icmpNo X128.here hx rfl (hb hby d14_50) rfl (tlt (by decide : (1 : Int32) < (3 : Int32))).2.1 ?_
    refine XS.aloadN X128.here hx rfl (hb hby d14_53) rfl rfl ?_
    refine XS.iload X128.here hx rfl (hb hby d14_54) rfl ?_
    show Steps p.tables e below (T128.setTop (mkF m 56 #[(vr pa1), (vr pa2), (vi 3), (vi 1), .val (.int ((0 : Int32) + pi3)), (vi 1), (vr pa8), .val (.long ((pi11.toInt64) - (pi12.toInt64))), .second, (vi pi3)] [(.int 1), (.ref pa2)])) _
    refine st134.trans ?_
    refine st136 _ ?_
    refine XS.astore X136.here hx rfl (hb hby d14_64) rfl rfl (l' := #[(vr pa1), (vr pa2), (vi 3), (vi 1), .val (.int ((0 : Int32) + pi3)), (vi 1), (vr pa9), .val (.long ((pi11.toInt64) - (pi12.toInt64))), .second, (vi pi3)]) rfl ?_
    refine XS.aload X136.here hx rfl (hb hby d14_66) rfl rfl ?_
    refine st138.trans ?_
    refine XS.i2l X138.here hx rfl (hb hby d14_71) rfl ?_
    show Steps p.tables e below (T138.setTop (mkF m 72 #[(vr pa1), (vr pa2), (vi 3), (vi 1), .val (.int ((0 : Int32) + pi3)), (vi 1), (vr pa9), .val (.long ((pi11.toInt64) - (pi12.toInt64))), .second, (vi pi3)] [(.long (pi14.toInt64))])) _
    refine XS.aload X138.here hx rfl (hb hby d14_72) rfl rfl ?_
    refine st140.trans ?_
    refine XS.i2l X140.here hx rfl (hb hby d14_77) rfl ?_
    refine XS.lsub X140.here hx rfl (hb hby d14_78) rfl ?_
    refine XS.lstore X140.here hx rfl (hb hby d14_79) rfl (l' := #[(vr pa1), (vr pa2), (vi 3), (vi 1), .val (.int ((0 : Int32) + pi3)), (vi 1), (vr pa9), .val (.long ((pi14.toInt64) - (pi15.toInt64))), .second, (vi pi3)]) rfl ?_
    refine XS.bipush X140.here hx rfl (hb hby d14_81) ?_
    show Steps p.tables e below (T140.setTop (mkF m 83 #[(vr pa1), (vr pa2), (vi 3), (vi 1), .val (.int ((0 : Int32) + pi3)), (vi 1), (vr pa9), .val (.long ((pi14.toInt64) - (pi15.toInt64))), .second, (vi pi3)] [(.int 64)])) _
    refine XS.lload X140.here hx rfl (hb hby d14_83) rfl ?_
    refine st141 _ ?_
    refine XS.isub X141.here hx rfl (hb hby d14_88) rfl ?_
    rw [hb142]
    exact k
  have f144 : Fld Z h128 pa1 s9n "low" "[I" (.ref b3) := ((((f103.other W107 (Or.inl ne4)).other W112 (Or.inl ne18)).other W117 (Or.inl ne40)).other W128 (Or.inl ne64))
  obtain ⟨T145, X145, e145, st145⟩ := getF X141 hx hZ hown (host := "") (Or.inl (ow hw 123 rfl)) Via.refl K141q f144 (g := (mkF m 108 #[(vr pa1), (vr pa2), (vi 3), (vi 1), .val (.int ((0 : Int32) + pi3)), (vi 1), (vr pa9), .val (.long ((pi14.toInt64) - (pi15.toInt64))), .second, (vi pi4)] [(.ref pa1)])) rfl rfl (hb hby d14_108)
  obtain ⟨cq146, kq146, q146a, q146b, q146c⟩ := isOf hZ e145 f135
  obtain ⟨_, _, ⟨T146, L146, k146, n146⟩, -, X146, ⟨Lc146, hQ146, l146, y146, z146⟩, st146⟩ := X145.virtualBack hx (y := M20) (z := M20) hown (mvT hZ (ow hw 160 rfl)) (mvT hZ (ow hw 161 rfl)) (notFace_of_selects (args := #[]) (mvT hZ (ow hw 163 rfl))) (mvT hZ (ow hw 163 rfl)) (mvT hZ (ow hw 162 rfl)) (by decide) (backOf (W := 2) (au21_0 l Z a0 hw [] wINTEGER wDOUBLE wBOOLEAN wDEFAULTCAPACITY_EMPTY_ELEMENTDATA kwDEFAULTCAPACITY_EMPTY_ELEMENTDATA hS pa9 pi15 h128 n0 O129 f139) hZ (ow hw 164 rfl) (ow hw 38 rfl) (by decide) (by decide)) q146a q146c (g := (mkF m 115 #[(vr pa1), (vr pa2), (vi 3), (vi 1), .val (.int ((0 : Int32) + pi3)), (vi 1), (vr pa9), .val (.long ((pi14.toInt64) - (pi15.toInt64))), .second, (vi pi4)] [(.ref pa9), (.int 1), (.ref b3)])) rfl (by rw [hml]; rfl) (Steps.refl _) (argsL := []) (rest := [(.int 1), (.ref b3)]) (lenOf pd_10 rfl) rfl (by show 2 * 0 + _ ≤ _; exact Nat.le_of_eq rfl) (hb hby d14_115) (fun _ _ => ⟨rfl, e145, (by decide : 4 + 0 ≤ _), (by decide : 12 + 0 ≤ _)⟩)
  dsimp only [Pt.U, Pt.locs, Pt.cells, Pt.slots] at X146 l146 y146 z146 st146 hQ146
  subst y146 z146
  obtain ⟨rfl, Nq146, K146q⟩ := hQ146
  have N146 : Fr n0 L146 := (congrArg (Fr n0) l146).mpr (Fr.app N141 Nq146)
  have f147 : Arv Z h128 b3 k3 .int (3 : Int32) ([(.int pi12), (.int 0), (.int 0)]) (.int 0) := (((V107.other W112 ne30).other W117 ne52).other W128 ne76)
  obtain ⟨cl148, Ar148, qc148, Sz148, Nn148, Ha148, Gg148⟩ := (id f147)
  have hin148 : ¬ ((1 : Int32) < 0 ∨ cl148.slots.size ≤ ((1 : Int32)).toNatClampNeg) := inb_of Sz148 ⟨by decide, by decide⟩
  obtain ⟨T148, h148, X148, e148, W148, st148⟩ := stI X146 hx hZ K146q Ar148 (j := (1 : Int32)) hin148 (g := (mkF m 118 #[(vr pa1), (vr pa2), (vi 3), (vi 1), .val (.int ((0 : Int32) + pi3)), (vi 1), (vr pa9), .val (.long ((pi14.toInt64) - (pi15.toInt64))), .second, (vi pi4)] [(.int pi15), (.int 1), (.ref b3)])) rfl rfl (hb hby d14_118)
  have O149 : Old Z n0 h148 := O129.wr W148 g10
  have K149 : Keep h0 h148 [pa1] := K129.wr W148 (Or.inr sz11)
  have V148 : Arv Z h148 b3 k3 .int (3 : Int32) ([(.int pi12), (.int pi15), (.int 0)]) (.int 0) := (Arv.set Ar148 qc148 Sz148 Nn148 Ha148 Gg148 (v := (.int pi15)) rfl W148 1 rfl (Nat.le_of_ble_eq_true rfl))
  have N148 := Fr.snoc X148 N146 g10
  have f150 : Fld Z h148 pa1 s9n "word" "[I" (.ref b17) := ((((f109.other W112 (Or.inl ne18)).other W117 (Or.inl ne40)).other W128 (Or.inl ne64)).other W148 (Or.inl ne4))
  obtain ⟨T151, X151, e151, st151⟩ := getF X148 hx hZ hown (host := "") (Or.inl (ow hw 125 rfl)) Via.refl e148 f150 (g := (mkF m 120 #[(vr pa1), (vr pa2), (vi 3), (vi 1), .val (.int ((0 : Int32) + pi3)), (vi 1), (vr pa9), .val (.long ((pi14.toInt64) - (pi15.toInt64))), .second, (vi pi4)] [(.ref pa1)])) rfl rfl (hb hby d14_120)
  have f152 : Arv Z h148 b17 k17 .int (3 : Int32) ([(.int 0), (.int 0), (.int 0)]) (.int 0) := (((V112.other W117 ne54).other W128 ne78).other W148 (Ne.symm ne30))
  obtain ⟨cl153, Ar153, qc153, Sz153, Nn153, Ha153, Gg153⟩ := (id f152)
  have hin153 : ¬ ((1 : Int32) < 0 ∨ cl153.slots.size ≤ ((1 : Int32)).toNatClampNeg) := inb_of Sz153 ⟨by decide, by decide⟩
  obtain ⟨T153, h153, X153, e153, W153, st153⟩ := stI X151 hx hZ e151 Ar153 (j := (1 : Int32)) hin153 (g := (mkF m 128 #[(vr pa1), (vr pa2), (vi 3), (vi 1), .val (.int ((0 : Int32) + pi3)), (vi 1), (vr pa9), .val (.long ((pi14.toInt64) - (pi15.toInt64))), .second, (vi pi4)] [(.int 0), (.int 1), (.ref b17)])) rfl rfl (hb hby d14_128)
  have O154 : Old Z n0 h153 := O149.wr W153 g32
  have K154 : Keep h0 h153 [pa1] := K149.wr W153 (Or.inr sz33)
  have V153 : Arv Z h153 b17 k17 .int (3 : Int32) ([(.int 0), (.int 0), (.int 0)]) (.int 0) := (Arv.set Ar153 qc153 Sz153 Nn153 Ha153 Gg153 (v := (.int 0)) rfl W153 1 rfl (Nat.le_of_ble_eq_true rfl))
  have N153 := Fr.snoc X153 N148 g32
  have f155 : Fld Z h153 pa1 s9n "shift" "[I" (.ref b39) := ((((f114.other W117 (Or.inl ne40)).other W128 (Or.inl ne64)).other W148 (Or.inl ne4)).other W153 (Or.inl ne18))
  obtain ⟨T156, X156, e156, st156⟩ := getF X153 hx hZ hown (host := "") (Or.inl (ow hw 127 rfl)) Via.refl e153 f155 (g := (mkF m 130 #[(vr pa1), (vr pa2), (vi 3), (vi 1), .val (.int ((0 : Int32) + pi3)), (vi 1), (vr pa9), .val (.long ((pi14.toInt64) - (pi15.toInt64))), .second, (vi pi4)] [(.ref pa1)])) rfl rfl (hb hby d14_130)
  have f157 : Arv Z h153 b39 k39 .int (3 : Int32) ([(.int 0), (.int 0), (.int 0)]) (.int 0) := (((V117.other W128 ne80).other W148 (Ne.symm ne52)).other W153 (Ne.symm ne54))
  obtain ⟨cl158, Ar158, qc158, Sz158, Nn158, Ha158, Gg158⟩ := (id f157)
  have hin158 : ¬ ((1 : Int32) < 0 ∨ cl158.slots.size ≤ ((1 : Int32)).toNatClampNeg) := inb_of Sz158 ⟨by decide, by decide⟩
  obtain ⟨T158, h158, X158, e158, W158, st158⟩ := stI X156 hx hZ e156 Ar158 (j := (1 : Int32)) hin158 (g := (mkF m 137 #[(vr pa1), (vr pa2), (vi 3), (vi 1), .val (.int ((0 : Int32) + pi3)), (vi 1), (vr pa9), .val (.long ((pi14.toInt64) - (pi15.toInt64))), .second, (vi pi4)] [(.int ((0 : Int32) + pi3)), (.int 1), (.ref b39)])) rfl rfl (hb hby d14_137)
  have O159 : Old Z n0 h158 := O154.wr W158 g56
  have K159 : Keep h0 h158 [pa1] := K154.wr W158 (Or.inr sz57)
  have V158 : Arv Z h158 b39 k39 .int (3 : Int32) ([(.int 0), (.int ((0 : Int32) + pi3)), (.int 0)]) (.int 0) := (Arv.set Ar158 qc158 Sz158 Nn158 Ha158 Gg158 (v := (.int ((0 : Int32) + pi3))) rfl W158 1 rfl (Nat.le_of_ble_eq_true rfl))
  have N158 := Fr.snoc X158 N153 g56
  have f160 : Fld Z h158 pa1 s9n "mask" "[J" (.ref b63) := ((((f119.other W128 (Or.inl ne64)).other W148 (Or.inl ne4)).other W153 (Or.inl ne18)).other W158 (Or.inl ne40))
  obtain ⟨T161, X161, e161, st161⟩ := getF X158 hx hZ hown (host := "") (Or.inl (ow hw 130 rfl)) Via.refl e158 f160 (g := (mkF m 139 #[(vr pa1), (vr pa2), (vi 3), (vi 1), .val (.int ((0 : Int32) + pi3)), (vi 1), (vr pa9), .val (.long ((pi14.toInt64) - (pi15.toInt64))), .second, (vi pi4)] [(.ref pa1)])) rfl rfl (hb hby d14_139)
  have pre162 : ∀ t, Steps p.tables e below (T161.setTop (mkF m 146 #[(vr pa1), (vr pa2), (vi 3), (vi 1), .val (.int ((0 : Int32) + pi3)), (vi 1), (vr pa9), .val (.long ((pi14.toInt64) - (pi15.toInt64))), .second, (vi pi4)] [(.int pi4), (.int 1), (.ref b63)])) t → Steps p.tables e below (s₁.setTop (entryFrame m #[(.ref pa1), (.ref pa2)] 10)) t := by
    intro t k
    refine pre143 t ?_
    show Steps p.tables e below (T141.setTop (mkF m 89 #[(vr pa1), (vr pa2), (vi 3), (vi 1), .val (.int ((0 : Int32) + pi3)), (vi 1), (vr pa9), .val (.long ((pi14.toInt64) - (pi15.toInt64))), .second, (vi pi3)] [(.int pi4)])) _
    refine XS.istore X141.here hx rfl (hb hby d14_89) rfl (l' := #[(vr pa1), (vr pa2), (vi 3), (vi 1), .val (.int ((0 : Int32) + pi3)), (vi 1), (vr pa9), .val (.long ((pi14.toInt64) - (pi15.toInt64))), .second, (vi pi4)]) rfl ?_
    refine XS.iload X141.here hx rfl (hb hby d14_91) rfl ?_
    refine XS.iload X141.here hx rfl (hb hby d14_93) rfl ?_
    refine XS.iadd X141.here hx rfl (hb hby d14_95) rfl ?_
    refine XS.bipush X141.here hx rfl (hb hby d14_96) ?_
    refine XS.icmpYes X141.here hx rfl (pc0 := 98) (pc' := 107) rfl (hb hby d14_98) rfl (flt (P32 : ¬ ((64 : Int32) < (((0 : Int32) + pi3) + pi4)))).2.2.2 (by decide) (by decide) ?_
    show Steps p.tables e below (T141.setTop (mkF m 107 #[(vr pa1), (vr pa2), (vi 3), (vi 1), .val (.int ((0 : Int32) + pi3)), (vi 1), (vr pa9), .val (.long ((pi14.toInt64) - (pi15.toInt64))), .second, (vi pi4)] [])) _
    refine XS.aloadN X141.here hx rfl (hb hby d14_107) rfl rfl ?_
    refine st145 _ ?_
    refine XS.iload X145.here hx rfl (hb hby d14_111) rfl ?_
    refine XS.aload X145.here hx rfl (hb hby d14_113) rfl rfl ?_
    refine st146.trans ?_
    refine st148 _ ?_
    show Steps p.tables e below (T148.setTop (mkF m 119 #[(vr pa1), (vr pa2), (vi 3), (vi 1), .val (.int ((0 : Int32) + pi3)), (vi 1), (vr pa9), .val (.long ((pi14.toInt64) - (pi15.toInt64))), .second, (vi pi4)] [])) _
    refine XS.aloadN X148.here hx rfl (hb hby d14_119) rfl rfl ?_
    refine st151 _ ?_
    refine XS.iload X151.here hx rfl (hb hby d14_123) rfl ?_
    refine XS.iloadN X151.here hx rfl (hb hby d14_125) rfl ?_
    refine XS.iconst X151.here hx rfl (hb hby d14_126) ?_
    refine XS.isub X151.here hx rfl (hb hby d14_127) rfl ?_
    show Steps p.tables e below (T151.setTop (mkF m 128 #[(vr pa1), (vr pa2), (vi 3), (vi 1), .val (.int ((0 : Int32) + pi3)), (vi 1), (vr pa9), .val (.long ((pi14.toInt64) - (pi15.toInt64))), .second, (vi pi4)] [(.int 0), (.int 1), (.ref b17)])) _
    refine st153 _ ?_
    refine XS.aloadN X153.here hx rfl (hb hby d14_129) rfl rfl ?_
    refine st156 _ ?_
    refine XS.iload X156.here hx rfl (hb hby d14_133) rfl ?_
    refine XS.iload X156.here hx rfl (hb hby d14_135) rfl ?_
    refine st158 _ ?_
    show Steps p.tables e below (T158.setTop (mkF m 138 #[(vr pa1), (vr pa2), (vi 3), (vi 1), .val (.int ((0 : Int32) + pi3)), (vi 1), (vr pa9), .val (.long ((pi14.toInt64) - (pi15.toInt64))), .second, (vi pi4)] [])) _
    refine XS.aloadN X158.here hx rfl (hb hby d14_138) rfl rfl ?_
    refine st161 _ ?_
    refine XS.iload X161.here hx rfl (hb hby d14_142) rfl ?_
    refine XS.iload X161.here hx rfl (hb hby d14_144) rfl ?_
    exact k
  obtain ⟨y164, hy164⟩ : ∃ z : Int64, z = (if pi4 = (0 : Int32) then (0 : Int64) else (((-1 : Int64).toUInt64 >>> (((64 : Int32) - pi4) &&& 0x3f).toInt64.toUInt64).toInt64)) := ⟨_, rfl⟩
  have pre165 : ∀ t, Steps p.tables e below (T161.setTop (mkF m 162 #[(vr pa1), (vr pa2), (vi 3), (vi 1), .val (.int ((0 : Int32) + pi3)), (vi 1), (vr pa9), .val (.long ((pi14.toInt64) - (pi15.toInt64))), .second, (vi pi4)] [(.long y164), (.int 1), (.ref b63)])) t → Steps p.tables e below (s₁.setTop (entryFrame m #[(.ref pa1), (.ref pa2)] 10)) t := by
    intro t k
    rw [hy164] at k
    refine pre162 t ?_
    show Steps p.tables e below (T161.setTop (mkF m 146 #[(vr pa1), (vr pa2), (vi 3), (vi 1), .val (.int ((0 : Int32) + pi3)), (vi 1), (vr pa9), .val (.long ((pi14.toInt64) - (pi15.toInt64))), .second, (vi pi4)] [(.int pi4), (.int 1), (.ref b63)])) _
    rcases Decidable.em (pi4 = (0 : Int32)) with hm163 | hm163
    · first | simp only [if_pos hm163] at k | skip
      refine XS.ifNo X161.here hx rfl (hb hby d14_146) rfl ((if0 _ _).trans (teq hm163).2) ?_
      refine XS.lconst X161.here hx rfl (hb hby d14_149) ?_
      refine XS.goto X161.here hx rfl (pc0 := 150) (pc' := 162) rfl (hb hby d14_150) (by decide) (by decide) ?_
      exact k
    · first | simp only [if_neg hm163] at k | skip
      refine XS.ifYes X161.here hx rfl (pc0 := 146) (pc' := 153) rfl (hb hby d14_146) rfl ((if0 _ _).trans (feq hm163).2) (by decide) (by decide) ?_
      refine X161.ldc2Long hx hown (mvT hZ (ow hw 174 rfl)) (g := (mkF m 153 #[(vr pa1), (vr pa2), (vi 3), (vi 1), .val (.int ((0 : Int32) + pi3)), (vi 1), (vr pa9), .val (.long ((pi14.toInt64) - (pi15.toInt64))), .second, (vi pi4)] [(.int 1), (.ref b63)])) rfl (hb hby d14_153) _ ?_
      refine XS.bipush X161.here hx rfl (hb hby d14_156) ?_
      refine XS.iload X161.here hx rfl (hb hby d14_158) rfl ?_
      refine XS.isub X161.here hx rfl (hb hby d14_160) rfl ?_
      refine XS.lushr X161.here hx rfl (hb hby d14_161) rfl ?_
      exact k
  have hm166 : y164 = maskV pi4 := hy164
  have pre167 : ∀ t, Steps p.tables e below (T161.setTop (mkF m 162 #[(vr pa1), (vr pa2), (vi 3), (vi 1), .val (.int ((0 : Int32) + pi3)), (vi 1), (vr pa9), .val (.long ((pi14.toInt64) - (pi15.toInt64))), .second, (vi pi4)] [(.long (maskV pi4)), (.int 1), (.ref b63)])) t → Steps p.tables e below (s₁.setTop (entryFrame m #[(.ref pa1), (.ref pa2)] 10)) t := by
    intro t k
    refine pre165 t ?_
    rw [hm166]
    exact k
  have f168 : Arv Z h158 b63 k63 .long (3 : Int32) ([(.long (maskV pi3)), (.long 0), (.long 0)]) (.long 0) := (((V128.other W148 (Ne.symm ne76)).other W153 (Ne.symm ne78)).other W158 (Ne.symm ne80))
  obtain ⟨cl169, Ar169, qc169, Sz169, Nn169, Ha169, Gg169⟩ := (id f168)
  have hin169 : ¬ ((1 : Int32) < 0 ∨ cl169.slots.size ≤ ((1 : Int32)).toNatClampNeg) := inb_of Sz169 ⟨by decide, by decide⟩
  obtain ⟨T169, h169, X169, e169, W169, st169⟩ := stJ X161 hx hZ e161 Ar169 (j := (1 : Int32)) hin169 (g := (mkF m 162 #[(vr pa1), (vr pa2), (vi 3), (vi 1), .val (.int ((0 : Int32) + pi3)), (vi 1), (vr pa9), .val (.long ((pi14.toInt64) - (pi15.toInt64))), .second, (vi pi4)] [(.long (maskV pi4)), (.int 1), (.ref b63)])) rfl rfl (hb hby d14_162)
  have O170 : Old Z n0 h169 := O159.wr W169 g82
  have K170 : Keep h0 h169 [pa1] := K159.wr W169 (Or.inr sz83)
  have V169 : Arv Z h169 b63 k63 .long (3 : Int32) ([(.long (maskV pi3)), (.long (maskV pi4)), (.long 0)]) (.long 0) := (Arv.set Ar169 qc169 Sz169 Nn169 Ha169 Gg169 (v := (.long (maskV pi4))) rfl W169 1 rfl (Nat.le_of_ble_eq_true rfl))
  have N169 := Fr.snoc X169 N158 g82
  have f171 : Exa Z h169 pa2 s2n := ((((f130.wr W148).wr W153).wr W158).wr W169)
  have f172 : Fld Z h169 pa2 s2n "elementData" s3n (.ref pa6) := ((((f131.other W148 (Or.inl ne5)).other W153 (Or.inl ne20)).other W158 (Or.inl ne42)).other W169 (Or.inl ne66))
  have f173 : Fld Z h169 pa2 s2n "size" "I" (.int 3) := ((((f132.other W148 (Or.inl ne5)).other W153 (Or.inl ne20)).other W158 (Or.inl ne42)).other W169 (Or.inl ne66))
  have f174 : Arv Z h169 pa6 pk7 (.object s4n) (10 : Int32) ([(.ref pa8), (.ref pa9), (.ref pa10), .null, .null, .null, .null, .null, .null, .null]) .null := ((((f133.other W148 ne6).other W153 ne22).other W158 ne44).other W169 ne68)
  obtain ⟨cq175, kq175, q175a, q175b, q175c⟩ := isOf hZ e169 f171
  obtain ⟨_, _, ⟨T175, L175, k175, n175⟩, -, X175, ⟨Lc175, hQ175, l175, y175, z175⟩, st175⟩ := X169.interfaceBack hx (xi := M23) (y := M18) hown (mvT hZ (ow hw 132 rfl)) (mvT hZ (ow hw 133 rfl)) (mvT hZ (ow hw 134 rfl)) (mvT hZ (ow hw 135 rfl)) (mvT hZ (ow hw 136 rfl)) (mvT hZ (ow hw 137 rfl)) (mvT hZ (ow hw 138 rfl)) (mvT hZ (ow hw 78 rfl)) (by decide) (backOf (W := 0) (au16_2 l Z a0 hw [] wINTEGER wDOUBLE wBOOLEAN wDEFAULTCAPACITY_EMPTY_ELEMENTDATA kwDEFAULTCAPACITY_EMPTY_ELEMENTDATA hS pa2 pa6 pk7 pa8 pa9 pa10 h169 n0 O170 f171 f172 f173 f174) hZ (ow hw 139 rfl) (ow hw 12 rfl) (by decide) (by decide)) q175a q175b q175c (g := (mkF m 56 #[(vr pa1), (vr pa2), (vi 3), (vi 1), .val (.int (((0 : Int32) + pi3) + pi4)), (vi 2), (vr pa9), .val (.long ((pi14.toInt64) - (pi15.toInt64))), .second, (vi pi4)] [(.int 2), (.ref pa2)])) rfl (by rw [hml]; rfl) (Steps.refl _) (argsL := [(.int 2)]) (rest := []) (lenOf pd_12 rfl) rfl (by show 2 * 0 + _ ≤ _; exact Nat.le_of_eq rfl) (hb hby d14_56) (fun _ _ => ⟨rfl, e169, (by decide : 4 + 0 ≤ _), (by decide : 12 + 0 ≤ _)⟩)
  dsimp only [Pt.U, Pt.locs, Pt.cells, Pt.slots] at X175 l175 y175 z175 st175 hQ175
  subst y175 z175
  obtain ⟨rfl, Nq175, K175q⟩ := hQ175
  have N175 : Fr n0 L175 := (congrArg (Fr n0) l175).mpr (Fr.app N169 Nq175)
  have f176 : Exa Z h169 pa10 s6n := ((((((((((f75.ext E63).wr W87).wr W107).wr W112).wr W117).wr W128).wr W148).wr W153).wr W158).wr W169)
  obtain ⟨T177, X177, e177, st177⟩ := castY X175 hx hZ hown (ow hw 153 rfl) K175q (Ins.self f176) (g := (mkF m 61 #[(vr pa1), (vr pa2), (vi 3), (vi 1), .val (.int (((0 : Int32) + pi3) + pi4)), (vi 2), (vr pa9), .val (.long ((pi14.toInt64) - (pi15.toInt64))), .second, (vi pi4)] [(.ref pa10)])) rfl rfl (hb hby d14_61)
  have f178 : Fld Z h169 pa10 s6n "high" "I" (.int pi17) := ((((((((((((((((P24.ext E3).other W15 (Or.inl (Ne.symm P51))).ext E17).other W37 (Or.inl (Ne.symm P51))).ext E39).other W61 (Or.inl (Ne.symm P51))).ext E63).other W87 (Or.inl (Ne.symm P51))).other W107 (Or.inl ne9)).other W112 (Or.inl ne28)).other W117 (Or.inl ne50)).other W128 (Or.inl ne74)).other W148 (Or.inl ne9)).other W153 (Or.inl ne28)).other W158 (Or.inl ne50)).other W169 (Or.inl ne74))
  obtain ⟨cq179, kq179, q179a, q179b, q179c⟩ := isOf hZ e177 f176
  obtain ⟨_, _, ⟨T179, L179, k179, n179⟩, -, X179, ⟨Lc179, hQ179, l179, y179, z179⟩, st179⟩ := X177.virtualBack hx (y := M19) (z := M19) hown (mvT hZ (ow hw 155 rfl)) (mvT hZ (ow hw 156 rfl)) (notFace_of_selects (args := #[]) (mvT hZ (ow hw 158 rfl))) (mvT hZ (ow hw 158 rfl)) (mvT hZ (ow hw 157 rfl)) (by decide) (backOf (W := 0) (au20_0 l Z a0 hw [] wINTEGER wDOUBLE wBOOLEAN wDEFAULTCAPACITY_EMPTY_ELEMENTDATA kwDEFAULTCAPACITY_EMPTY_ELEMENTDATA hS pa10 pi17 h169 n0 O170 f178) hZ (ow hw 159 rfl) (ow hw 38 rfl) (by decide) (by decide)) q179a q179c (g := (mkF m 68 #[(vr pa1), (vr pa2), (vi 3), (vi 1), .val (.int (((0 : Int32) + pi3) + pi4)), (vi 2), (vr pa10), .val (.long ((pi14.toInt64) - (pi15.toInt64))), .second, (vi pi4)] [(.ref pa10)])) rfl (by rw [hml]; rfl) (Steps.refl _) (argsL := []) (rest := []) (lenOf pd_10 rfl) rfl (by show 2 * 0 + _ ≤ _; exact Nat.le_of_eq rfl) (hb hby d14_68) (fun _ _ => ⟨rfl, e177, (by decide : 4 + 0 ≤ _), (by decide : 12 + 0 ≤ _)⟩)
  dsimp only [Pt.U, Pt.locs, Pt.cells, Pt.slots] at X179 l179 y179 z179 st179 hQ179
  subst y179 z179
  obtain ⟨rfl, Nq179, K179q⟩ := hQ179
  have N179 : Fr n0 L179 := (congrArg (Fr n0) l179).mpr (Fr.app N175 Nq179)
  have f180 : Fld Z h169 pa10 s6n "low" "I" (.int pi18) := ((((((((((((((((P25.ext E3).other W15 (Or.inl (Ne.symm P51))).ext E17).other W37 (Or.inl (Ne.symm P51))).ext E39).other W61 (Or.inl (Ne.symm P51))).ext E63).other W87 (Or.inl (Ne.symm P51))).other W107 (Or.inl ne9)).other W112 (Or.inl ne28)).other W117 (Or.inl ne50)).other W128 (Or.inl ne74)).other W148 (Or.inl ne9)).other W153 (Or.inl ne28)).other W158 (Or.inl ne50)).other W169 (Or.inl ne74))
  obtain ⟨cq181, kq181, q181a, q181b, q181c⟩ := isOf hZ K179q f176
  obtain ⟨_, _, ⟨T181, L181, k181, n181⟩, -, X181, ⟨Lc181, hQ181, l181, y181, z181⟩, st181⟩ := X179.virtualBack hx (y := M20) (z := M20) hown (mvT hZ (ow hw 160 rfl)) (mvT hZ (ow hw 161 rfl)) (notFace_of_selects (args := #[]) (mvT hZ (ow hw 163 rfl))) (mvT hZ (ow hw 163 rfl)) (mvT hZ (ow hw 162 rfl)) (by decide) (backOf (W := 2) (au21_0 l Z a0 hw [] wINTEGER wDOUBLE wBOOLEAN wDEFAULTCAPACITY_EMPTY_ELEMENTDATA kwDEFAULTCAPACITY_EMPTY_ELEMENTDATA hS pa10 pi18 h169 n0 O170 f180) hZ (ow hw 164 rfl) (ow hw 38 rfl) (by decide) (by decide)) q181a q181c (g := (mkF m 74 #[(vr pa1), (vr pa2), (vi 3), (vi 1), .val (.int (((0 : Int32) + pi3) + pi4)), (vi 2), (vr pa10), .val (.long ((pi14.toInt64) - (pi15.toInt64))), .second, (vi pi4)] [(.ref pa10), (.long (pi17.toInt64))])) rfl (by rw [hml]; rfl) (Steps.refl _) (argsL := []) (rest := [(.long (pi17.toInt64))]) (lenOf pd_10 rfl) rfl (by show 2 * 0 + _ ≤ _; exact Nat.le_of_eq rfl) (hb hby d14_74) (fun _ _ => ⟨rfl, K179q, (by decide : 4 + 0 ≤ _), (by decide : 12 + 0 ≤ _)⟩)
  dsimp only [Pt.U, Pt.locs, Pt.cells, Pt.slots] at X181 l181 y181 z181 st181 hQ181
  subst y181 z181
  obtain ⟨rfl, Nq181, K181q⟩ := hQ181
  have N181 : Fr n0 L181 := (congrArg (Fr n0) l181).mpr (Fr.app N179 Nq181)
  obtain ⟨_, _, ⟨T182, L182, k182, n182⟩, -, X182, ⟨Lc182, hQ182, l182, y182, z182⟩, st182⟩ := Jvm.LawKit.callS X181 hx (y := M4) hown (mvT hZ (ow hw 165 rfl)) (mvT hZ (ow hw 166 rfl)) (mvT hZ (ow hw 167 rfl)) (mvT hZ (ow hw 168 rfl)) (by decide) (backOf (W := 1) (rmNlz64 l Z a0 hw [] wINTEGER wDOUBLE wBOOLEAN wDEFAULTCAPACITY_EMPTY_ELEMENTDATA kwDEFAULTCAPACITY_EMPTY_ELEMENTDATA hS ((pi17.toInt64) - (pi18.toInt64)) h169 n0 O170 ) hZ (ow hw 168 rfl) (ow hw 167 rfl) (by decide) (by decide)) (g := (mkF m 85 #[(vr pa1), (vr pa2), (vi 3), (vi 1), .val (.int (((0 : Int32) + pi3) + pi4)), (vi 2), (vr pa10), .val (.long ((pi17.toInt64) - (pi18.toInt64))), .second, (vi pi4)] [(.long ((pi17.toInt64) - (pi18.toInt64))), (.int 64)])) rfl (by rw [hml]; rfl) (argsL := [(.long ((pi17.toInt64) - (pi18.toInt64)))]) (rest := [(.int 64)]) (lenOf pd_13 rfl) rfl (by show 2 * 0 + _ ≤ _; exact Nat.le_of_eq rfl) (hb hby d14_85) (fun _ _ => ⟨rfl, K181q, (by decide : 4 + 0 ≤ _), (by decide : 12 + 0 ≤ _)⟩)
  dsimp only [Pt.U, Pt.locs, Pt.cells, Pt.slots] at X182 l182 y182 z182 st182 hQ182
  subst y182 z182
  obtain ⟨r_182, rfl, Nq182, K182q, p182_0⟩ := hQ182
  have N182 : Fr n0 L182 := (congrArg (Fr n0) l182).mpr (Fr.app N181 Nq182)
  have hb183 : ((64 : Int32) - r_182) = pi5 := by rw [p182_0]; exact P40
  have pre184 : ∀ t, Steps p.tables e below (T182.setTop (mkF m 89 #[(vr pa1), (vr pa2), (vi 3), (vi 1), .val (.int (((0 : Int32) + pi3) + pi4)), (vi 2), (vr pa10), .val (.long ((pi17.toInt64) - (pi18.toInt64))), .second, (vi pi4)] [(.int pi5)])) t → Steps p.tables e below (s₁.setTop (entryFrame m #[(.ref pa1), (.ref pa2)] 10)) t := by
    intro t k
    refine pre167 t ?_
    show Steps p.tables e below (T161.setTop (mkF m 162 #[(vr pa1), (vr pa2), (vi 3), (vi 1), .val (.int ((0 : Int32) + pi3)), (vi 1), (vr pa9), .val (.long ((pi14.toInt64) - (pi15.toInt64))), .second, (vi pi4)] [(.long (maskV pi4)), (.int 1), (.ref b63)])) _
    refine st169 _ ?_
    refine XS.iload X169.here hx rfl (hb hby d14_163) rfl ?_
    refine XS.iload X169.here hx rfl (hb hby d14_165) rfl ?_
    refine XS.iadd X169.here hx rfl (hb hby d14_167) rfl ?_
    refine XS.istore X169.here hx rfl (hb hby d14_168) rfl (l' := #[(vr pa1), (vr pa2), (vi 3), (vi 1), .val (.int (((0 : Int32) + pi3) + pi4)), (vi 1), (vr pa9), .val (.long ((pi14.toInt64) - (pi15.toInt64))), .second, (vi pi4)]) rfl ?_
    refine XS.iinc X169.here hx rfl (hb hby d14_170) rfl (l' := #[(vr pa1), (vr pa2), (vi 3), (vi 1), .val (.int (((0 : Int32) + pi3) + pi4)), (vi 2), (vr pa9), .val (.long ((pi14.toInt64) - (pi15.toInt64))), .second, (vi pi4)]) rfl ?_
    show Steps p.tables e below (T169.setTop (mkF m 173 #[(vr pa1), (vr pa2), (vi 3), (vi 1), .val (.int (((0 : Int32) + pi3) + pi4)), (vi 2), (vr pa9), .val (.long ((pi14.toInt64) - (pi15.toInt64))), .second, (vi pi4)] [])) _
    refine XS.goto X169.here hx rfl (pc0 := 173) (pc' := 47) rfl (hb hby d14_173) (by decide) (by decide) ?_
    refine XS.iload X169.here hx rfl (hb hby d14_47) rfl ?_
    refine XS.iloadN X169.here hx rfl (hb hby d14_49) rfl ?_
    refine XS.icmpNo X169.here hx rfl (hb hby d14_50) rfl (tlt (by decide : (2 : Int32) < (3 : Int32))).2.1 ?_
    refine XS.aloadN X169.here hx rfl (hb hby d14_53) rfl rfl ?_
    refine XS.iload X169.here hx rfl (hb hby d14_54) rfl ?_
    show Steps p.tables e below (T169.setTop (mkF m 56 #[(vr pa1), (vr pa2), (vi 3), (vi 1), .val (.int (((0 : Int32) + pi3) + pi4)), (vi 2), (vr pa9), .val (.long ((pi14.toInt64) - (pi15.toInt64))), .second, (vi pi4)] [(.int 2), (.ref pa2)])) _
    refine st175.trans ?_
    refine st177 _ ?_
    refine XS.astore X177.here hx rfl (hb hby d14_64) rfl rfl (l' := #[(vr pa1), (vr pa2), (vi 3), (vi 1), .val (.int (((0 : Int32) + pi3) + pi4)), (vi 2), (vr pa10), .val (.long ((pi14.toInt64) - (pi15.toInt64))), .second, (vi pi4)]) rfl ?_
    refine XS.aload X177.here hx rfl (hb hby d14_66) rfl rfl ?_
    refine st179.trans ?_
    refine XS.i2l X179.here hx rfl (hb hby d14_71) rfl ?_
    show Steps p.tables e below (T179.setTop (mkF m 72 #[(vr pa1), (vr pa2), (vi 3), (vi 1), .val (.int (((0 : Int32) + pi3) + pi4)), (vi 2), (vr pa10), .val (.long ((pi14.toInt64) - (pi15.toInt64))), .second, (vi pi4)] [(.long (pi17.toInt64))])) _
    refine XS.aload X179.here hx rfl (hb hby d14_72) rfl rfl ?_
    refine st181.trans ?_
    refine XS.i2l X181.here hx rfl (hb hby d14_77) rfl ?_
    refine XS.lsub X181.here hx rfl (hb hby d14_78) rfl ?_
    refine XS.lstore X181.here hx rfl (hb hby d14_79) rfl (l' := #[(vr pa1), (vr pa2), (vi 3), (vi 1), .val (.int (((0 : Int32) + pi3) + pi4)), (vi 2), (vr pa10), .val (.long ((pi17.toInt64) - (pi18.toInt64))), .second, (vi pi4)]) rfl ?_
    refine XS.bipush X181.here hx rfl (hb hby d14_81) ?_
    show Steps p.tables e below (T181.setTop (mkF m 83 #[(vr pa1), (vr pa2), (vi 3), (vi 1), .val (.int (((0 : Int32) + pi3) + pi4)), (vi 2), (vr pa10), .val (.long ((pi17.toInt64) - (pi18.toInt64))), .second, (vi pi4)] [(.int 64)])) _
    refine XS.lload X181.here hx rfl (hb hby d14_83) rfl ?_
    refine st182 _ ?_
    refine XS.isub X182.here hx rfl (hb hby d14_88) rfl ?_
    rw [hb183]
    exact k
  have f185 : Fld Z h169 pa1 s9n "low" "[I" (.ref b3) := ((((f144.other W148 (Or.inl ne4)).other W153 (Or.inl ne18)).other W158 (Or.inl ne40)).other W169 (Or.inl ne64))
  obtain ⟨T186, X186, e186, st186⟩ := getF X182 hx hZ hown (host := "") (Or.inl (ow hw 123 rfl)) Via.refl K182q f185 (g := (mkF m 108 #[(vr pa1), (vr pa2), (vi 3), (vi 1), .val (.int (((0 : Int32) + pi3) + pi4)), (vi 2), (vr pa10), .val (.long ((pi17.toInt64) - (pi18.toInt64))), .second, (vi pi5)] [(.ref pa1)])) rfl rfl (hb hby d14_108)
  obtain ⟨cq187, kq187, q187a, q187b, q187c⟩ := isOf hZ e186 f176
  obtain ⟨_, _, ⟨T187, L187, k187, n187⟩, -, X187, ⟨Lc187, hQ187, l187, y187, z187⟩, st187⟩ := X186.virtualBack hx (y := M20) (z := M20) hown (mvT hZ (ow hw 160 rfl)) (mvT hZ (ow hw 161 rfl)) (notFace_of_selects (args := #[]) (mvT hZ (ow hw 163 rfl))) (mvT hZ (ow hw 163 rfl)) (mvT hZ (ow hw 162 rfl)) (by decide) (backOf (W := 2) (au21_0 l Z a0 hw [] wINTEGER wDOUBLE wBOOLEAN wDEFAULTCAPACITY_EMPTY_ELEMENTDATA kwDEFAULTCAPACITY_EMPTY_ELEMENTDATA hS pa10 pi18 h169 n0 O170 f180) hZ (ow hw 164 rfl) (ow hw 38 rfl) (by decide) (by decide)) q187a q187c (g := (mkF m 115 #[(vr pa1), (vr pa2), (vi 3), (vi 1), .val (.int (((0 : Int32) + pi3) + pi4)), (vi 2), (vr pa10), .val (.long ((pi17.toInt64) - (pi18.toInt64))), .second, (vi pi5)] [(.ref pa10), (.int 2), (.ref b3)])) rfl (by rw [hml]; rfl) (Steps.refl _) (argsL := []) (rest := [(.int 2), (.ref b3)]) (lenOf pd_10 rfl) rfl (by show 2 * 0 + _ ≤ _; exact Nat.le_of_eq rfl) (hb hby d14_115) (fun _ _ => ⟨rfl, e186, (by decide : 4 + 0 ≤ _), (by decide : 12 + 0 ≤ _)⟩)
  dsimp only [Pt.U, Pt.locs, Pt.cells, Pt.slots] at X187 l187 y187 z187 st187 hQ187
  subst y187 z187
  obtain ⟨rfl, Nq187, K187q⟩ := hQ187
  have N187 : Fr n0 L187 := (congrArg (Fr n0) l187).mpr (Fr.app N182 Nq187)
  have f188 : Arv Z h169 b3 k3 .int (3 : Int32) ([(.int pi12), (.int pi15), (.int 0)]) (.int 0) := (((V148.other W153 ne30).other W158 ne52).other W169 ne76)
  obtain ⟨cl189, Ar189, qc189, Sz189, Nn189, Ha189, Gg189⟩ := (id f188)
  have hin189 : ¬ ((2 : Int32) < 0 ∨ cl189.slots.size ≤ ((2 : Int32)).toNatClampNeg) := inb_of Sz189 ⟨by decide, by decide⟩
  obtain ⟨T189, h189, X189, e189, W189, st189⟩ := stI X187 hx hZ K187q Ar189 (j := (2 : Int32)) hin189 (g := (mkF m 118 #[(vr pa1), (vr pa2), (vi 3), (vi 1), .val (.int (((0 : Int32) + pi3) + pi4)), (vi 2), (vr pa10), .val (.long ((pi17.toInt64) - (pi18.toInt64))), .second, (vi pi5)] [(.int pi18), (.int 2), (.ref b3)])) rfl rfl (hb hby d14_118)
  have O190 : Old Z n0 h189 := O170.wr W189 g10
  have K190 : Keep h0 h189 [pa1] := K170.wr W189 (Or.inr sz11)
  have V189 : Arv Z h189 b3 k3 .int (3 : Int32) ([(.int pi12), (.int pi15), (.int pi18)]) (.int 0) := (Arv.set Ar189 qc189 Sz189 Nn189 Ha189 Gg189 (v := (.int pi18)) rfl W189 2 rfl (Nat.le_of_ble_eq_true rfl))
  have N189 := Fr.snoc X189 N187 g10
  have f191 : Fld Z h189 pa1 s9n "word" "[I" (.ref b17) := ((((f150.other W153 (Or.inl ne18)).other W158 (Or.inl ne40)).other W169 (Or.inl ne64)).other W189 (Or.inl ne4))
  obtain ⟨T192, X192, e192, st192⟩ := getF X189 hx hZ hown (host := "") (Or.inl (ow hw 125 rfl)) Via.refl e189 f191 (g := (mkF m 120 #[(vr pa1), (vr pa2), (vi 3), (vi 1), .val (.int (((0 : Int32) + pi3) + pi4)), (vi 2), (vr pa10), .val (.long ((pi17.toInt64) - (pi18.toInt64))), .second, (vi pi5)] [(.ref pa1)])) rfl rfl (hb hby d14_120)
  have f193 : Arv Z h189 b17 k17 .int (3 : Int32) ([(.int 0), (.int 0), (.int 0)]) (.int 0) := (((V153.other W158 ne54).other W169 ne78).other W189 (Ne.symm ne30))
  obtain ⟨cl194, Ar194, qc194, Sz194, Nn194, Ha194, Gg194⟩ := (id f193)
  have hin194 : ¬ ((2 : Int32) < 0 ∨ cl194.slots.size ≤ ((2 : Int32)).toNatClampNeg) := inb_of Sz194 ⟨by decide, by decide⟩
  obtain ⟨T194, h194, X194, e194, W194, st194⟩ := stI X192 hx hZ e192 Ar194 (j := (2 : Int32)) hin194 (g := (mkF m 128 #[(vr pa1), (vr pa2), (vi 3), (vi 1), .val (.int (((0 : Int32) + pi3) + pi4)), (vi 2), (vr pa10), .val (.long ((pi17.toInt64) - (pi18.toInt64))), .second, (vi pi5)] [(.int 0), (.int 2), (.ref b17)])) rfl rfl (hb hby d14_128)
  have O195 : Old Z n0 h194 := O190.wr W194 g32
  have K195 : Keep h0 h194 [pa1] := K190.wr W194 (Or.inr sz33)
  have V194 : Arv Z h194 b17 k17 .int (3 : Int32) ([(.int 0), (.int 0), (.int 0)]) (.int 0) := (Arv.set Ar194 qc194 Sz194 Nn194 Ha194 Gg194 (v := (.int 0)) rfl W194 2 rfl (Nat.le_of_ble_eq_true rfl))
  have N194 := Fr.snoc X194 N189 g32
  have f196 : Fld Z h194 pa1 s9n "shift" "[I" (.ref b39) := ((((f155.other W158 (Or.inl ne40)).other W169 (Or.inl ne64)).other W189 (Or.inl ne4)).other W194 (Or.inl ne18))
  obtain ⟨T197, X197, e197, st197⟩ := getF X194 hx hZ hown (host := "") (Or.inl (ow hw 127 rfl)) Via.refl e194 f196 (g := (mkF m 130 #[(vr pa1), (vr pa2), (vi 3), (vi 1), .val (.int (((0 : Int32) + pi3) + pi4)), (vi 2), (vr pa10), .val (.long ((pi17.toInt64) - (pi18.toInt64))), .second, (vi pi5)] [(.ref pa1)])) rfl rfl (hb hby d14_130)
  have f198 : Arv Z h194 b39 k39 .int (3 : Int32) ([(.int 0), (.int ((0 : Int32) + pi3)), (.int 0)]) (.int 0) := (((V158.other W169 ne80).other W189 (Ne.symm ne52)).other W194 (Ne.symm ne54))
  obtain ⟨cl199, Ar199, qc199, Sz199, Nn199, Ha199, Gg199⟩ := (id f198)
  have hin199 : ¬ ((2 : Int32) < 0 ∨ cl199.slots.size ≤ ((2 : Int32)).toNatClampNeg) := inb_of Sz199 ⟨by decide, by decide⟩
  obtain ⟨T199, h199, X199, e199, W199, st199⟩ := stI X197 hx hZ e197 Ar199 (j := (2 : Int32)) hin199 (g := (mkF m 137 #[(vr pa1), (vr pa2), (vi 3), (vi 1), .val (.int (((0 : Int32) + pi3) + pi4)), (vi 2), (vr pa10), .val (.long ((pi17.toInt64) - (pi18.toInt64))), .second, (vi pi5)] [(.int (((0 : Int32) + pi3) + pi4)), (.int 2), (.ref b39)])) rfl rfl (hb hby d14_137)
  have O200 : Old Z n0 h199 := O195.wr W199 g56
  have K200 : Keep h0 h199 [pa1] := K195.wr W199 (Or.inr sz57)
  have V199 : Arv Z h199 b39 k39 .int (3 : Int32) ([(.int 0), (.int ((0 : Int32) + pi3)), (.int (((0 : Int32) + pi3) + pi4))]) (.int 0) := (Arv.set Ar199 qc199 Sz199 Nn199 Ha199 Gg199 (v := (.int (((0 : Int32) + pi3) + pi4))) rfl W199 2 rfl (Nat.le_of_ble_eq_true rfl))
  have N199 := Fr.snoc X199 N194 g56
  have f201 : Fld Z h199 pa1 s9n "mask" "[J" (.ref b63) := ((((f160.other W169 (Or.inl ne64)).other W189 (Or.inl ne4)).other W194 (Or.inl ne18)).other W199 (Or.inl ne40))
  obtain ⟨T202, X202, e202, st202⟩ := getF X199 hx hZ hown (host := "") (Or.inl (ow hw 130 rfl)) Via.refl e199 f201 (g := (mkF m 139 #[(vr pa1), (vr pa2), (vi 3), (vi 1), .val (.int (((0 : Int32) + pi3) + pi4)), (vi 2), (vr pa10), .val (.long ((pi17.toInt64) - (pi18.toInt64))), .second, (vi pi5)] [(.ref pa1)])) rfl rfl (hb hby d14_139)
  have pre203 : ∀ t, Steps p.tables e below (T202.setTop (mkF m 146 #[(vr pa1), (vr pa2), (vi 3), (vi 1), .val (.int (((0 : Int32) + pi3) + pi4)), (vi 2), (vr pa10), .val (.long ((pi17.toInt64) - (pi18.toInt64))), .second, (vi pi5)] [(.int pi5), (.int 2), (.ref b63)])) t → Steps p.tables e below (s₁.setTop (entryFrame m #[(.ref pa1), (.ref pa2)] 10)) t := by
    intro t k
    refine pre184 t ?_
    show Steps p.tables e below (T182.setTop (mkF m 89 #[(vr pa1), (vr pa2), (vi 3), (vi 1), .val (.int (((0 : Int32) + pi3) + pi4)), (vi 2), (vr pa10), .val (.long ((pi17.toInt64) - (pi18.toInt64))), .second, (vi pi4)] [(.int pi5)])) _
    refine XS.istore X182.here hx rfl (hb hby d14_89) rfl (l' := #[(vr pa1), (vr pa2), (vi 3), (vi 1), .val (.int (((0 : Int32) + pi3) + pi4)), (vi 2), (vr pa10), .val (.long ((pi17.toInt64) - (pi18.toInt64))), .second, (vi pi5)]) rfl ?_
    refine XS.iload X182.here hx rfl (hb hby d14_91) rfl ?_
    refine XS.iload X182.here hx rfl (hb hby d14_93) rfl ?_
    refine XS.iadd X182.here hx rfl (hb hby d14_95) rfl ?_
    refine XS.bipush X182.here hx rfl (hb hby d14_96) ?_
    refine XS.icmpYes X182.here hx rfl (pc0 := 98) (pc' := 107) rfl (hb hby d14_98) rfl (flt (P34 : ¬ ((64 : Int32) < ((((0 : Int32) + pi3) + pi4) + pi5)))).2.2.2 (by decide) (by decide) ?_
    show Steps p.tables e below (T182.setTop (mkF m 107 #[(vr pa1), (vr pa2), (vi 3), (vi 1), .val (.int (((0 : Int32) + pi3) + pi4)), (vi 2), (vr pa10), .val (.long ((pi17.toInt64) - (pi18.toInt64))), .second, (vi pi5)] [])) _
    refine XS.aloadN X182.here hx rfl (hb hby d14_107) rfl rfl ?_
    refine st186 _ ?_
    refine XS.iload X186.here hx rfl (hb hby d14_111) rfl ?_
    refine XS.aload X186.here hx rfl (hb hby d14_113) rfl rfl ?_
    refine st187.trans ?_
    refine st189 _ ?_
    show Steps p.tables e below (T189.setTop (mkF m 119 #[(vr pa1), (vr pa2), (vi 3), (vi 1), .val (.int (((0 : Int32) + pi3) + pi4)), (vi 2), (vr pa10), .val (.long ((pi17.toInt64) - (pi18.toInt64))), .second, (vi pi5)] [])) _
    refine XS.aloadN X189.here hx rfl (hb hby d14_119) rfl rfl ?_
    refine st192 _ ?_
    refine XS.iload X192.here hx rfl (hb hby d14_123) rfl ?_
    refine XS.iloadN X192.here hx rfl (hb hby d14_125) rfl ?_
    refine XS.iconst X192.here hx rfl (hb hby d14_126) ?_
    refine XS.isub X192.here hx rfl (hb hby d14_127) rfl ?_
    show Steps p.tables e below (T192.setTop (mkF m 128 #[(vr pa1), (vr pa2), (vi 3), (vi 1), .val (.int (((0 : Int32) + pi3) + pi4)), (vi 2), (vr pa10), .val (.long ((pi17.toInt64) - (pi18.toInt64))), .second, (vi pi5)] [(.int 0), (.int 2), (.ref b17)])) _
    refine st194 _ ?_
    refine XS.aloadN X194.here hx rfl (hb hby d14_129) rfl rfl ?_
    refine st197 _ ?_
    refine XS.iload X197.here hx rfl (hb hby d14_133) rfl ?_
    refine XS.iload X197.here hx rfl (hb hby d14_135) rfl ?_
    refine st199 _ ?_
    show Steps p.tables e below (T199.setTop (mkF m 138 #[(vr pa1), (vr pa2), (vi 3), (vi 1), .val (.int (((0 : Int32) + pi3) + pi4)), (vi 2), (vr pa10), .val (.long ((pi17.toInt64) - (pi18.toInt64))), .second, (vi pi5)] [])) _
    refine XS.aloadN X199.here hx rfl (hb hby d14_138) rfl rfl ?_
    refine st202 _ ?_
    refine XS.iload X202.here hx rfl (hb hby d14_142) rfl ?_
    refine XS.iload X202.here hx rfl (hb hby d14_144) rfl ?_
    exact k
  obtain ⟨y205, hy205⟩ : ∃ z : Int64, z = (if pi5 = (0 : Int32) then (0 : Int64) else (((-1 : Int64).toUInt64 >>> (((64 : Int32) - pi5) &&& 0x3f).toInt64.toUInt64).toInt64)) := ⟨_, rfl⟩
  have pre206 : ∀ t, Steps p.tables e below (T202.setTop (mkF m 162 #[(vr pa1), (vr pa2), (vi 3), (vi 1), .val (.int (((0 : Int32) + pi3) + pi4)), (vi 2), (vr pa10), .val (.long ((pi17.toInt64) - (pi18.toInt64))), .second, (vi pi5)] [(.long y205), (.int 2), (.ref b63)])) t → Steps p.tables e below (s₁.setTop (entryFrame m #[(.ref pa1), (.ref pa2)] 10)) t := by
    intro t k
    rw [hy205] at k
    refine pre203 t ?_
    show Steps p.tables e below (T202.setTop (mkF m 146 #[(vr pa1), (vr pa2), (vi 3), (vi 1), .val (.int (((0 : Int32) + pi3) + pi4)), (vi 2), (vr pa10), .val (.long ((pi17.toInt64) - (pi18.toInt64))), .second, (vi pi5)] [(.int pi5), (.int 2), (.ref b63)])) _
    rcases Decidable.em (pi5 = (0 : Int32)) with hm204 | hm204
    · first | simp only [if_pos hm204] at k | skip
      refine XS.ifNo X202.here hx rfl (hb hby d14_146) rfl ((if0 _ _).trans (teq hm204).2) ?_
      refine XS.lconst X202.here hx rfl (hb hby d14_149) ?_
      refine XS.goto X202.here hx rfl (pc0 := 150) (pc' := 162) rfl (hb hby d14_150) (by decide) (by decide) ?_
      exact k
    · first | simp only [if_neg hm204] at k | skip
      refine XS.ifYes X202.here hx rfl (pc0 := 146) (pc' := 153) rfl (hb hby d14_146) rfl ((if0 _ _).trans (feq hm204).2) (by decide) (by decide) ?_
      refine X202.ldc2Long hx hown (mvT hZ (ow hw 174 rfl)) (g := (mkF m 153 #[(vr pa1), (vr pa2), (vi 3), (vi 1), .val (.int (((0 : Int32) + pi3) + pi4)), (vi 2), (vr pa10), .val (.long ((pi17.toInt64) - (pi18.toInt64))), .second, (vi pi5)] [(.int 2), (.ref b63)])) rfl (hb hby d14_153) _ ?_
      refine XS.bipush X202.here hx rfl (hb hby d14_156) ?_
      refine XS.iload X202.here hx rfl (hb hby d14_158) rfl ?_
      refine XS.isub X202.here hx rfl (hb hby d14_160) rfl ?_
      refine XS.lushr X202.here hx rfl (hb hby d14_161) rfl ?_
      exact k
  have hm207 : y205 = maskV pi5 := hy205
  have pre208 : ∀ t, Steps p.tables e below (T202.setTop (mkF m 162 #[(vr pa1), (vr pa2), (vi 3), (vi 1), .val (.int (((0 : Int32) + pi3) + pi4)), (vi 2), (vr pa10), .val (.long ((pi17.toInt64) - (pi18.toInt64))), .second, (vi pi5)] [(.long (maskV pi5)), (.int 2), (.ref b63)])) t → Steps p.tables e below (s₁.setTop (entryFrame m #[(.ref pa1), (.ref pa2)] 10)) t := by
    intro t k
    refine pre206 t ?_
    rw [hm207]
    exact k
  have f209 : Arv Z h199 b63 k63 .long (3 : Int32) ([(.long (maskV pi3)), (.long (maskV pi4)), (.long 0)]) (.long 0) := (((V169.other W189 (Ne.symm ne76)).other W194 (Ne.symm ne78)).other W199 (Ne.symm ne80))
  obtain ⟨cl210, Ar210, qc210, Sz210, Nn210, Ha210, Gg210⟩ := (id f209)
  have hin210 : ¬ ((2 : Int32) < 0 ∨ cl210.slots.size ≤ ((2 : Int32)).toNatClampNeg) := inb_of Sz210 ⟨by decide, by decide⟩
  obtain ⟨T210, h210, X210, e210, W210, st210⟩ := stJ X202 hx hZ e202 Ar210 (j := (2 : Int32)) hin210 (g := (mkF m 162 #[(vr pa1), (vr pa2), (vi 3), (vi 1), .val (.int (((0 : Int32) + pi3) + pi4)), (vi 2), (vr pa10), .val (.long ((pi17.toInt64) - (pi18.toInt64))), .second, (vi pi5)] [(.long (maskV pi5)), (.int 2), (.ref b63)])) rfl rfl (hb hby d14_162)
  have O211 : Old Z n0 h210 := O200.wr W210 g82
  have K211 : Keep h0 h210 [pa1] := K200.wr W210 (Or.inr sz83)
  have V210 : Arv Z h210 b63 k63 .long (3 : Int32) ([(.long (maskV pi3)), (.long (maskV pi4)), (.long (maskV pi5))]) (.long 0) := (Arv.set Ar210 qc210 Sz210 Nn210 Ha210 Gg210 (v := (.long (maskV pi5))) rfl W210 2 rfl (Nat.le_of_ble_eq_true rfl))
  have N210 := Fr.snoc X210 N199 g82
  have f212 : Exa Z h210 pa1 s9n := (((((((((((((f85.wr W87).wr W107).wr W112).wr W117).wr W128).wr W148).wr W153).wr W158).wr W169).wr W189).wr W194).wr W199).wr W210)
  have f213 : Fld Z h210 pa1 s9n s10n "I" (.int 0) := ((((((((((((((((((((P5.ext E3).other W15 (Or.inr (slot_ne (Or.inr (ow hw 176 rfl)) (Or.inr (ow hw 124 rfl)) (by decide) (t := .int) (t' := (.array .int)) (by decide) (by decide)))).ext E17).other W37 (Or.inr (slot_ne (Or.inr (ow hw 176 rfl)) (Or.inr (ow hw 126 rfl)) (by decide) (t := .int) (t' := (.array .int)) (by decide) (by decide)))).ext E39).other W61 (Or.inr (slot_ne (Or.inr (ow hw 176 rfl)) (Or.inr (ow hw 128 rfl)) (by decide) (t := .int) (t' := (.array .int)) (by decide) (by decide)))).ext E63).other W87 (Or.inr (slot_ne (Or.inr (ow hw 176 rfl)) (Or.inr (ow hw 131 rfl)) (by decide) (t := .int) (t' := (.array .long)) (by decide) (by decide)))).other W107 (Or.inl ne4)).other W112 (Or.inl ne18)).other W117 (Or.inl ne40)).other W128 (Or.inl ne64)).other W148 (Or.inl ne4)).other W153 (Or.inl ne18)).other W158 (Or.inl ne40)).other W169 (Or.inl ne64)).other W189 (Or.inl ne4)).other W194 (Or.inl ne18)).other W199 (Or.inl ne40)).other W210 (Or.inl ne64))
  obtain ⟨T214, h214, X214, e214, W214, st214⟩ := putF X210 hx hZ hown (host := "") (Or.inl (ow hw 175 rfl)) Via.refl e210 f213 f212 (Or.inr ⟨(ow hw 176 rfl), rfl, hnm⟩) (ow hw 108 rfl) (ty := .int) (by decide) rfl rfl (g := (mkF m 178 #[(vr pa1), (vr pa2), (vi 3), (vi 1), .val (.int ((((0 : Int32) + pi3) + pi4) + pi5)), (vi 3), (vr pa10), .val (.long ((pi17.toInt64) - (pi18.toInt64))), .second, (vi pi5)] [(.int 1), (.ref pa1)])) rfl rfl (hb hby d14_178)
  have N214 := Fr.snoc X214 N210 P41
  have O215 : Old Z n0 h214 := O211.wr W214 P41
  have K215 : Keep h0 h214 [pa1] := K211.wr W214 (Or.inl (List.mem_of_getElem? (i := 0) rfl))
  have Fw214 : Fld Z h214 pa1 s9n s10n "I" (.int 1) := f213.same W214
  have f216 : Exa Z h214 pa1 s9n := (f212.wr W214)
  have f217 : Fld Z h214 pa1 s9n "low" "[I" (.ref b3) := (((((f185.other W189 (Or.inl ne4)).other W194 (Or.inl ne18)).other W199 (Or.inl ne40)).other W210 (Or.inl ne64)).other W214 (Or.inr (slot_ne (Or.inr (ow hw 124 rfl)) (Or.inr (ow hw 176 rfl)) (by decide) (t := (.array .int)) (t' := .int) (by decide) (by decide))))
  have f218 : Fld Z h214 pa1 s9n "mask" "[J" (.ref b63) := ((f201.other W210 (Or.inl ne64)).other W214 (Or.inr (slot_ne (Or.inr (ow hw 131 rfl)) (Or.inr (ow hw 176 rfl)) (by decide) (t := (.array .long)) (t' := .int) (by decide) (by decide))))
  have f219 : Fld Z h214 pa1 s9n "shift" "[I" (.ref b39) := (((f196.other W199 (Or.inl ne40)).other W210 (Or.inl ne64)).other W214 (Or.inr (slot_ne (Or.inr (ow hw 128 rfl)) (Or.inr (ow hw 176 rfl)) (by decide) (t := (.array .int)) (t' := .int) (by decide) (by decide))))
  have f220 : Fld Z h214 pa1 s9n "word" "[I" (.ref b17) := ((((f191.other W194 (Or.inl ne18)).other W199 (Or.inl ne40)).other W210 (Or.inl ne64)).other W214 (Or.inr (slot_ne (Or.inr (ow hw 126 rfl)) (Or.inr (ow hw 176 rfl)) (by decide) (t := (.array .int)) (t' := .int) (by decide) (by decide))))
  have f221 : Exa Z h214 b3 "[I" := ((((((((((((((((((((Z3.wr W15).ext E17).wr W37).ext E39).wr W61).ext E63).wr W87).wr W107).wr W112).wr W117).wr W128).wr W148).wr W153).wr W158).wr W169).wr W189).wr W194).wr W199).wr W210).wr W214)
  have f222 : Arv Z h214 b3 k3 .int (3 : Int32) ([(.int pi12), (.int pi15), (.int pi18)]) (.int 0) := ((((V189.other W194 ne30).other W199 ne52).other W210 ne76).other W214 (Ne.symm ne4))
  have f223 : Exa Z h214 b63 "[J" := ((((((((((((((Z63.wr W87).wr W107).wr W112).wr W117).wr W128).wr W148).wr W153).wr W158).wr W169).wr W189).wr W194).wr W199).wr W210).wr W214)
  have f224 : Arv Z h214 b63 k63 .long (3 : Int32) ([(.long (maskV pi3)), (.long (maskV pi4)), (.long (maskV pi5))]) (.long 0) := (V210.other W214 (Ne.symm ne64))
  have f225 : Exa Z h214 b39 "[I" := ((((((((((((((((Z39.wr W61).ext E63).wr W87).wr W107).wr W112).wr W117).wr W128).wr W148).wr W153).wr W158).wr W169).wr W189).wr W194).wr W199).wr W210).wr W214)
  have f226 : Arv Z h214 b39 k39 .int (3 : Int32) ([(.int 0), (.int ((0 : Int32) + pi3)), (.int (((0 : Int32) + pi3) + pi4))]) (.int 0) := ((V199.other W210 ne80).other W214 (Ne.symm ne40))
  have f227 : Exa Z h214 b17 "[I" := ((((((((((((((((((Z17.wr W37).ext E39).wr W61).ext E63).wr W87).wr W107).wr W112).wr W117).wr W128).wr W148).wr W153).wr W158).wr W169).wr W189).wr W194).wr W199).wr W210).wr W214)
  have f228 : Arv Z h214 b17 k17 .int (3 : Int32) ([(.int 0), (.int 0), (.int 0)]) (.int 0) := (((V194.other W199 ne54).other W210 ne78).other W214 (Ne.symm ne18))
  obtain ⟨fs, hr, hrun, hended, hW, hsame⟩ := X214.leave (v := none) (fun _ => rfl)
  refine ⟨_, _, pre208 _ ?_, hrun, hended, _, _, rfl, ?_, ⟨_, rfl⟩, hW, hsame.mono (by decide) (by decide)⟩
  · skip
    show Steps p.tables e below (T202.setTop (mkF m 162 #[(vr pa1), (vr pa2), (vi 3), (vi 1), .val (.int (((0 : Int32) + pi3) + pi4)), (vi 2), (vr pa10), .val (.long ((pi17.toInt64) - (pi18.toInt64))), .second, (vi pi5)] [(.long (maskV pi5)), (.int 2), (.ref b63)])) _
    refine st210 _ ?_
    refine XS.iload X210.here hx rfl (hb hby d14_163) rfl ?_
    refine XS.iload X210.here hx rfl (hb hby d14_165) rfl ?_
    refine XS.iadd X210.here hx rfl (hb hby d14_167) rfl ?_
    refine XS.istore X210.here hx rfl (hb hby d14_168) rfl (l' := #[(vr pa1), (vr pa2), (vi 3), (vi 1), .val (.int ((((0 : Int32) + pi3) + pi4) + pi5)), (vi 2), (vr pa10), .val (.long ((pi17.toInt64) - (pi18.toInt64))), .second, (vi pi5)]) rfl ?_
    refine XS.iinc X210.here hx rfl (hb hby d14_170) rfl (l' := #[(vr pa1), (vr pa2), (vi 3), (vi 1), .val (.int ((((0 : Int32) + pi3) + pi4) + pi5)), (vi 3), (vr pa10), .val (.long ((pi17.toInt64) - (pi18.toInt64))), .second, (vi pi5)]) rfl ?_
    show Steps p.tables e below (T210.setTop (mkF m 173 #[(vr pa1), (vr pa2), (vi 3), (vi 1), .val (.int ((((0 : Int32) + pi3) + pi4) + pi5)), (vi 3), (vr pa10), .val (.long ((pi17.toInt64) - (pi18.toInt64))), .second, (vi pi5)] [])) _
    refine XS.goto X210.here hx rfl (pc0 := 173) (pc' := 47) rfl (hb hby d14_173) (by decide) (by decide) ?_
    refine XS.iload X210.here hx rfl (hb hby d14_47) rfl ?_
    refine XS.iloadN X210.here hx rfl (hb hby d14_49) rfl ?_
    refine XS.icmpYes X210.here hx rfl (pc0 := 50) (pc' := 176) rfl (hb hby d14_50) rfl (flt (by decide : ¬ ((3 : Int32) < (3 : Int32)))).2.1 (by decide) (by decide) ?_
    refine XS.aloadN X210.here hx rfl (hb hby d14_176) rfl rfl ?_
    refine XS.iloadN X210.here hx rfl (hb hby d14_177) rfl ?_
    show Steps p.tables e below (T210.setTop (mkF m 178 #[(vr pa1), (vr pa2), (vi 3), (vi 1), .val (.int ((((0 : Int32) + pi3) + pi4) + pi5)), (vi 3), (vr pa10), .val (.long ((pi17.toInt64) - (pi18.toInt64))), .second, (vi pi5)] [(.int 1), (.ref pa1)])) _
    refine st214 _ ?_
    exact X214.returnOut hx hret0 (hb hby d14_181) hr
  · show Q_au14_1 Z wINTEGER wDOUBLE wBOOLEAN wDEFAULTCAPACITY_EMPTY_ELEMENTDATA kwDEFAULTCAPACITY_EMPTY_ELEMENTDATA pa1 pa2 pi3 pi4 pi5 pa6 pk7 pa8 pa9 pa10 pi11 pi12 pi14 pi15 pi17 pi18 h0 n0 _ T214.heap _
    rw [e214]
    exact ⟨b3, b63, b39, b17, k3, k63, k39, k17, rfl, N214, K215, f216, f217, f218, f219, f220, Fw214, sz11, f221, f222, sz83, f223, f224, sz57, f225, f226, sz33, f227, f228, ne76, ne52, ne30, (Ne.symm ne80), (Ne.symm ne78), (Ne.symm ne54)⟩
theorem ef_au24_6 (m : MethodId) (x0 : Addr) (x1 : Addr) (x2 : Int32) (x3 : Int32)  : entryFrame m #[(.ref x0), (.ref x1), (.int x2), (.int x3)] 6 = mkF m 0 #[(vr x0), (vr x1), (vi x2), (vi x3), .unset, .unset] [] := by first | (simp [entryFrame, mkF, argsToLocals, Value.category]; done) | rfl
def Q_au24_6 (Z : State) (wINTEGER : Addr) (wDOUBLE : Addr) (wBOOLEAN : Addr) (wDEFAULTCAPACITY_EMPTY_ELEMENTDATA : Addr) (kwDEFAULTCAPACITY_EMPTY_ELEMENTDATA : ClassId) (pa1 : Addr) (pa2 : Addr) (pa3 : Addr) (pa4 : Addr) (pa5 : Addr) (pa6 : Addr) (pk7 : ClassId) (pj8 : Int64) (pj9 : Int64) (pk10 : ClassId) (pi11 : Int32) (pi12 : Int32) (pi13 : Int32) (pk14 : ClassId) (pj15 : Int64) (pj16 : Int64) (pj17 : Int64) (pk18 : ClassId) (pi19 : Int32) (pi20 : Int32) (pk21 : ClassId) (h0 : Heap) (n0 : Nat) (v : Option Value) (h : Heap) (L : List Loc) : Prop := v = some (.int (pi11 + ((((pj8.toUInt64 >>> ((0 : Int32) &&& 0x3f).toInt64.toUInt64).toInt64) &&& pj15).toInt32))) ∧ Fr n0 L ∧ h = h0
theorem au24_6 (l : Launch) (Z : State) (a0 : Array Value) (hw : ∀ d ∈ tables_1, d.before a0 Z = true) (ws : List Jvm.Cond) (wINTEGER : Addr) (wDOUBLE : Addr) (wBOOLEAN : Addr) (wDEFAULTCAPACITY_EMPTY_ELEMENTDATA : Addr) (kwDEFAULTCAPACITY_EMPTY_ELEMENTDATA : ClassId) (hS : SS Z wINTEGER wDOUBLE wBOOLEAN wDEFAULTCAPACITY_EMPTY_ELEMENTDATA kwDEFAULTCAPACITY_EMPTY_ELEMENTDATA) (pa1 : Addr) (pa2 : Addr) (pa3 : Addr) (pa4 : Addr) (pa5 : Addr) (pa6 : Addr) (pk7 : ClassId) (pj8 : Int64) (pj9 : Int64) (pk10 : ClassId) (pi11 : Int32) (pi12 : Int32) (pi13 : Int32) (pk14 : ClassId) (pj15 : Int64) (pj16 : Int64) (pj17 : Int64) (pk18 : ClassId) (pi19 : Int32) (pi20 : Int32) (pk21 : ClassId) (h0 : Heap) (n0 : Nat) (O0 : Old Z n0 h0) (P1 : Fld Z h0 pa1 s9n "low" "[I" (.ref pa3)) (P2 : Fld Z h0 pa1 s9n "mask" "[J" (.ref pa4)) (P3 : Fld Z h0 pa1 s9n "shift" "[I" (.ref pa5)) (P4 : Fld Z h0 pa1 s9n "word" "[I" (.ref pa6)) (P6 : Arv Z h0 pa2 pk7 .long (4 : Int32) ([(.long pj8), (.long pj9), (.long pj9), (.long pj9)]) (.long 0)) (P8 : Arv Z h0 pa3 pk10 .int (3 : Int32) ([(.int pi11), (.int pi12), (.int pi13)]) (.int 0)) (P10 : Arv Z h0 pa4 pk14 .long (3 : Int32) ([(.long pj15), (.long pj16), (.long pj17)]) (.long 0)) (P12 : Arv Z h0 pa5 pk18 .int (3 : Int32) ([(.int 0), (.int pi19), (.int pi20)]) (.int 0)) (P14 : Arv Z h0 pa6 pk21 .int (3 : Int32) ([(.int 0), (.int 0), (.int 0)]) (.int 0)) :
    MetB l M24 prog_105_method_5_code 6 (some .int) ws (rmk 0 0 0 0) Z h0 #[(.ref pa1), (.ref pa2), (.int 0), (.int 0)] (Q_au24_6 Z wINTEGER wDOUBLE wBOOLEAN wDEFAULTCAPACITY_EMPTY_ELEMENTDATA kwDEFAULTCAPACITY_EMPTY_ELEMENTDATA pa1 pa2 pa3 pa4 pa5 pa6 pk7 pj8 pj9 pk10 pi11 pi12 pi13 pk14 pj15 pj16 pj17 pk18 pi19 pi20 pk21 h0 n0) := by
  refine own_body (plainFor_of_name pn_com_example_lanc_lanc_model_VariableLayout) ?_
  intro p e s m below meth c s₁ hx hby hml hown hnm hret0 hlk0 hZ X0 e0
  have N0 := Fr.nil n0
  have pre0 : ∀ t, Steps p.tables e below (s₁.setTop (mkF m 0 #[(vr pa1), (vr pa2), (vi 0), (vi 0), .unset, .unset] [])) t → Steps p.tables e below (s₁.setTop (entryFrame m #[(.ref pa1), (.ref pa2), (.int 0), (.int 0)] 6)) t := fun t k => castTop (ef_au24_6 m pa1 pa2 (0 : Int32) (0 : Int32)) k
  have hS0 := hS
  obtain ⟨S_wINTEGER, E_wINTEGER, S_wDOUBLE, E_wDOUBLE, S_wBOOLEAN, E_wBOOLEAN, F_ordinal_wINTEGER, F_ordinal_wDOUBLE, F_ordinal_wBOOLEAN, S_wDEFAULTCAPACITY_EMPTY_ELEMENTDATA, E_wDEFAULTCAPACITY_EMPTY_ELEMENTDATA, V_wDEFAULTCAPACITY_EMPTY_ELEMENTDATA⟩ := hS0
  obtain ⟨T1, X1, e1, st1⟩ := getF X0 hx hZ hown (host := "") (Or.inl (ow hw 125 rfl)) Via.refl e0 P4 (g := (mkF m 3 #[(vr pa1), (vr pa2), (vi 0), (vi 0), .unset, .unset] [(.ref pa1), (.int 0), (.ref pa2)])) rfl rfl (hb hby d24_3)
  obtain ⟨cl2, Ar2, qc2, Sz2, Nn2, Ha2, Gg2⟩ := (id P14)
  have hin2 : ¬ ((0 : Int32) < 0 ∨ cl2.slots.size ≤ ((0 : Int32)).toNatClampNeg) := inb_of Sz2 ⟨by decide, by decide⟩
  have hat2 : cl2.slots[((0 : Int32)).toNatClampNeg]? = some (.int 0) := Ha2.at hin2 rfl
  obtain ⟨cl3, Ar3, qc3, Sz3, Nn3, Ha3, Gg3⟩ := (id P6)
  have hin3 : ¬ ((0 : Int32) < 0 ∨ cl3.slots.size ≤ ((0 : Int32)).toNatClampNeg) := inb_of Sz3 ⟨by decide, by decide⟩
  have hat3 : cl3.slots[((0 : Int32)).toNatClampNeg]? = some (.long pj8) := Ha3.at hin3 rfl
  obtain ⟨T4, X4, e4, st4⟩ := getF X1 hx hZ hown (host := "") (Or.inl (ow hw 127 rfl)) Via.refl e1 P3 (g := (mkF m 11 #[(vr pa1), (vr pa2), (vi 0), (vi 0), .unset, .unset] [(.ref pa1), (.long pj8)])) rfl rfl (hb hby d24_11)
  obtain ⟨cl5, Ar5, qc5, Sz5, Nn5, Ha5, Gg5⟩ := (id P12)
  have hin5 : ¬ ((0 : Int32) < 0 ∨ cl5.slots.size ≤ ((0 : Int32)).toNatClampNeg) := inb_of Sz5 ⟨by decide, by decide⟩
  have hat5 : cl5.slots[((0 : Int32)).toNatClampNeg]? = some (.int 0) := Ha5.at hin5 rfl
  obtain ⟨T6, X6, e6, st6⟩ := getF X4 hx hZ hown (host := "") (Or.inl (ow hw 130 rfl)) Via.refl e4 P2 (g := (mkF m 18 #[(vr pa1), (vr pa2), (vi 0), (vi 0), .unset, .unset] [(.ref pa1), (.long ((pj8.toUInt64 >>> ((0 : Int32) &&& 0x3f).toInt64.toUInt64).toInt64))])) rfl rfl (hb hby d24_18)
  obtain ⟨cl7, Ar7, qc7, Sz7, Nn7, Ha7, Gg7⟩ := (id P10)
  have hin7 : ¬ ((0 : Int32) < 0 ∨ cl7.slots.size ≤ ((0 : Int32)).toNatClampNeg) := inb_of Sz7 ⟨by decide, by decide⟩
  have hat7 : cl7.slots[((0 : Int32)).toNatClampNeg]? = some (.long pj15) := Ha7.at hin7 rfl
  obtain ⟨T8, X8, e8, st8⟩ := getF X6 hx hZ hown (host := "") (Or.inl (ow hw 123 rfl)) Via.refl e6 P1 (g := (mkF m 27 #[(vr pa1), (vr pa2), (vi 0), (vi 0), .val (.long (((pj8.toUInt64 >>> ((0 : Int32) &&& 0x3f).toInt64.toUInt64).toInt64) &&& pj15)), .second] [(.ref pa1)])) rfl rfl (hb hby d24_27)
  obtain ⟨cl9, Ar9, qc9, Sz9, Nn9, Ha9, Gg9⟩ := (id P8)
  have hin9 : ¬ ((0 : Int32) < 0 ∨ cl9.slots.size ≤ ((0 : Int32)).toNatClampNeg) := inb_of Sz9 ⟨by decide, by decide⟩
  have hat9 : cl9.slots[((0 : Int32)).toNatClampNeg]? = some (.int pi11) := Ha9.at hin9 rfl
  obtain ⟨fs, hr, hrun, hended, hW, hsame⟩ := X8.leave (v := some (.int (pi11 + ((((pj8.toUInt64 >>> ((0 : Int32) &&& 0x3f).toInt64.toUInt64).toInt64) &&& pj15).toInt32)))) (fun h => by rw [hret0] at h; cases h)
  refine ⟨_, _, pre0 _ ?_, hrun, hended, _, _, rfl, ?_, ⟨_, rfl⟩, hW, hsame.mono (by decide) (by decide)⟩
  · skip
    show Steps p.tables e below (s₁.setTop (mkF m 0 #[(vr pa1), (vr pa2), (vi 0), (vi 0), .unset, .unset] [])) _
    refine XS.aloadN X0.here hx rfl (hb hby d24_0) rfl rfl ?_
    refine XS.iloadN X0.here hx rfl (hb hby d24_1) rfl ?_
    refine XS.aloadN X0.here hx rfl (hb hby d24_2) rfl rfl ?_
    refine st1 _ ?_
    refine XS.iloadN X1.here hx rfl (hb hby d24_6) rfl ?_
    refine X1.iaload hx (j := (0 : Int32)) (v := (.int 0)) (by rw [e1]; exact Ar2.1) (State.isArrayOf_alike hZ.alike Ar2.2.1) Ar2.2.2 hin2 hat2 (g := (mkF m 7 #[(vr pa1), (vr pa2), (vi 0), (vi 0), .unset, .unset] [(.int 0), (.ref pa6), (.int 0), (.ref pa2)])) rfl rfl (hb hby d24_7) _ ?_
    show Steps p.tables e below (T1.setTop (mkF m 8 #[(vr pa1), (vr pa2), (vi 0), (vi 0), .unset, .unset] [(.int 0), (.int 0), (.ref pa2)])) _
    refine XS.iadd X1.here hx rfl (hb hby d24_8) rfl ?_
    refine X1.laload hx (j := (0 : Int32)) (v := (.long pj8)) (by rw [e1]; exact Ar3.1) (State.isArrayOf_alike hZ.alike Ar3.2.1) Ar3.2.2 hin3 hat3 (g := (mkF m 9 #[(vr pa1), (vr pa2), (vi 0), (vi 0), .unset, .unset] [(.int 0), (.ref pa2)])) rfl rfl (hb hby d24_9) _ ?_
    refine XS.aloadN X1.here hx rfl (hb hby d24_10) rfl rfl ?_
    refine st4 _ ?_
    refine XS.iloadN X4.here hx rfl (hb hby d24_14) rfl ?_
    refine X4.iaload hx (j := (0 : Int32)) (v := (.int 0)) (by rw [e4]; exact Ar5.1) (State.isArrayOf_alike hZ.alike Ar5.2.1) Ar5.2.2 hin5 hat5 (g := (mkF m 15 #[(vr pa1), (vr pa2), (vi 0), (vi 0), .unset, .unset] [(.int 0), (.ref pa5), (.long pj8)])) rfl rfl (hb hby d24_15) _ ?_
    show Steps p.tables e below (T4.setTop (mkF m 16 #[(vr pa1), (vr pa2), (vi 0), (vi 0), .unset, .unset] [(.int 0), (.long pj8)])) _
    refine XS.lushr X4.here hx rfl (hb hby d24_16) rfl ?_
    refine XS.aloadN X4.here hx rfl (hb hby d24_17) rfl rfl ?_
    refine st6 _ ?_
    refine XS.iloadN X6.here hx rfl (hb hby d24_21) rfl ?_
    refine X6.laload hx (j := (0 : Int32)) (v := (.long pj15)) (by rw [e6]; exact Ar7.1) (State.isArrayOf_alike hZ.alike Ar7.2.1) Ar7.2.2 hin7 hat7 (g := (mkF m 22 #[(vr pa1), (vr pa2), (vi 0), (vi 0), .unset, .unset] [(.int 0), (.ref pa4), (.long ((pj8.toUInt64 >>> ((0 : Int32) &&& 0x3f).toInt64.toUInt64).toInt64))])) rfl rfl (hb hby d24_22) _ ?_
    refine XS.land X6.here hx rfl (hb hby d24_23) rfl ?_
    show Steps p.tables e below (T6.setTop (mkF m 24 #[(vr pa1), (vr pa2), (vi 0), (vi 0), .unset, .unset] [(.long (((pj8.toUInt64 >>> ((0 : Int32) &&& 0x3f).toInt64.toUInt64).toInt64) &&& pj15))])) _
    refine XS.lstore X6.here hx rfl (hb hby d24_24) rfl (l' := #[(vr pa1), (vr pa2), (vi 0), (vi 0), .val (.long (((pj8.toUInt64 >>> ((0 : Int32) &&& 0x3f).toInt64.toUInt64).toInt64) &&& pj15)), .second]) rfl ?_
    refine XS.aloadN X6.here hx rfl (hb hby d24_26) rfl rfl ?_
    refine st8 _ ?_
    refine XS.iloadN X8.here hx rfl (hb hby d24_30) rfl ?_
    refine X8.iaload hx (j := (0 : Int32)) (v := (.int pi11)) (by rw [e8]; exact Ar9.1) (State.isArrayOf_alike hZ.alike Ar9.2.1) Ar9.2.2 hin9 hat9 (g := (mkF m 31 #[(vr pa1), (vr pa2), (vi 0), (vi 0), .val (.long (((pj8.toUInt64 >>> ((0 : Int32) &&& 0x3f).toInt64.toUInt64).toInt64) &&& pj15)), .second] [(.int 0), (.ref pa3)])) rfl rfl (hb hby d24_31) _ ?_
    refine XS.lload X8.here hx rfl (hb hby d24_32) rfl ?_
    show Steps p.tables e below (T8.setTop (mkF m 34 #[(vr pa1), (vr pa2), (vi 0), (vi 0), .val (.long (((pj8.toUInt64 >>> ((0 : Int32) &&& 0x3f).toInt64.toUInt64).toInt64) &&& pj15)), .second] [(.long (((pj8.toUInt64 >>> ((0 : Int32) &&& 0x3f).toInt64.toUInt64).toInt64) &&& pj15)), (.int pi11)])) _
    refine XS.l2i X8.here hx rfl (hb hby d24_34) rfl ?_
    refine XS.iadd X8.here hx rfl (hb hby d24_35) rfl ?_
    exact retI X8 hx hret0 (hb hby d24_36) hr
  · show Q_au24_6 Z wINTEGER wDOUBLE wBOOLEAN wDEFAULTCAPACITY_EMPTY_ELEMENTDATA kwDEFAULTCAPACITY_EMPTY_ELEMENTDATA pa1 pa2 pa3 pa4 pa5 pa6 pk7 pj8 pj9 pk10 pi11 pi12 pi13 pk14 pj15 pj16 pj17 pk18 pi19 pi20 pk21 h0 n0 _ T8.heap _
    rw [e8]
    exact ⟨rfl, N0, rfl⟩
theorem ef_au24_7 (m : MethodId) (x0 : Addr) (x1 : Addr) (x2 : Int32) (x3 : Int32)  : entryFrame m #[(.ref x0), (.ref x1), (.int x2), (.int x3)] 6 = mkF m 0 #[(vr x0), (vr x1), (vi x2), (vi x3), .unset, .unset] [] := by first | (simp [entryFrame, mkF, argsToLocals, Value.category]; done) | rfl
def Q_au24_7 (Z : State) (wINTEGER : Addr) (wDOUBLE : Addr) (wBOOLEAN : Addr) (wDEFAULTCAPACITY_EMPTY_ELEMENTDATA : Addr) (kwDEFAULTCAPACITY_EMPTY_ELEMENTDATA : ClassId) (pa1 : Addr) (pa2 : Addr) (pa3 : Addr) (pa4 : Addr) (pa5 : Addr) (pa6 : Addr) (pk7 : ClassId) (pj8 : Int64) (pj9 : Int64) (pk10 : ClassId) (pi11 : Int32) (pi12 : Int32) (pi13 : Int32) (pk14 : ClassId) (pj15 : Int64) (pj16 : Int64) (pj17 : Int64) (pk18 : ClassId) (pi19 : Int32) (pi20 : Int32) (pk21 : ClassId) (h0 : Heap) (n0 : Nat) (v : Option Value) (h : Heap) (L : List Loc) : Prop := v = some (.int (pi12 + ((((pj8.toUInt64 >>> (pi19 &&& 0x3f).toInt64.toUInt64).toInt64) &&& pj16).toInt32))) ∧ Fr n0 L ∧ h = h0
theorem au24_7 (l : Launch) (Z : State) (a0 : Array Value) (hw : ∀ d ∈ tables_1, d.before a0 Z = true) (ws : List Jvm.Cond) (wINTEGER : Addr) (wDOUBLE : Addr) (wBOOLEAN : Addr) (wDEFAULTCAPACITY_EMPTY_ELEMENTDATA : Addr) (kwDEFAULTCAPACITY_EMPTY_ELEMENTDATA : ClassId) (hS : SS Z wINTEGER wDOUBLE wBOOLEAN wDEFAULTCAPACITY_EMPTY_ELEMENTDATA kwDEFAULTCAPACITY_EMPTY_ELEMENTDATA) (pa1 : Addr) (pa2 : Addr) (pa3 : Addr) (pa4 : Addr) (pa5 : Addr) (pa6 : Addr) (pk7 : ClassId) (pj8 : Int64) (pj9 : Int64) (pk10 : ClassId) (pi11 : Int32) (pi12 : Int32) (pi13 : Int32) (pk14 : ClassId) (pj15 : Int64) (pj16 : Int64) (pj17 : Int64) (pk18 : ClassId) (pi19 : Int32) (pi20 : Int32) (pk21 : ClassId) (h0 : Heap) (n0 : Nat) (O0 : Old Z n0 h0) (P1 : Fld Z h0 pa1 s9n "low" "[I" (.ref pa3)) (P2 : Fld Z h0 pa1 s9n "mask" "[J" (.ref pa4)) (P3 : Fld Z h0 pa1 s9n "shift" "[I" (.ref pa5)) (P4 : Fld Z h0 pa1 s9n "word" "[I" (.ref pa6)) (P6 : Arv Z h0 pa2 pk7 .long (4 : Int32) ([(.long pj8), (.long pj9), (.long pj9), (.long pj9)]) (.long 0)) (P8 : Arv Z h0 pa3 pk10 .int (3 : Int32) ([(.int pi11), (.int pi12), (.int pi13)]) (.int 0)) (P10 : Arv Z h0 pa4 pk14 .long (3 : Int32) ([(.long pj15), (.long pj16), (.long pj17)]) (.long 0)) (P12 : Arv Z h0 pa5 pk18 .int (3 : Int32) ([(.int 0), (.int pi19), (.int pi20)]) (.int 0)) (P14 : Arv Z h0 pa6 pk21 .int (3 : Int32) ([(.int 0), (.int 0), (.int 0)]) (.int 0)) :
    MetB l M24 prog_105_method_5_code 6 (some .int) ws (rmk 0 0 0 0) Z h0 #[(.ref pa1), (.ref pa2), (.int 0), (.int 1)] (Q_au24_7 Z wINTEGER wDOUBLE wBOOLEAN wDEFAULTCAPACITY_EMPTY_ELEMENTDATA kwDEFAULTCAPACITY_EMPTY_ELEMENTDATA pa1 pa2 pa3 pa4 pa5 pa6 pk7 pj8 pj9 pk10 pi11 pi12 pi13 pk14 pj15 pj16 pj17 pk18 pi19 pi20 pk21 h0 n0) := by
  refine own_body (plainFor_of_name pn_com_example_lanc_lanc_model_VariableLayout) ?_
  intro p e s m below meth c s₁ hx hby hml hown hnm hret0 hlk0 hZ X0 e0
  have N0 := Fr.nil n0
  have pre0 : ∀ t, Steps p.tables e below (s₁.setTop (mkF m 0 #[(vr pa1), (vr pa2), (vi 0), (vi 1), .unset, .unset] [])) t → Steps p.tables e below (s₁.setTop (entryFrame m #[(.ref pa1), (.ref pa2), (.int 0), (.int 1)] 6)) t := fun t k => castTop (ef_au24_7 m pa1 pa2 (0 : Int32) (1 : Int32)) k
  have hS0 := hS
  obtain ⟨S_wINTEGER, E_wINTEGER, S_wDOUBLE, E_wDOUBLE, S_wBOOLEAN, E_wBOOLEAN, F_ordinal_wINTEGER, F_ordinal_wDOUBLE, F_ordinal_wBOOLEAN, S_wDEFAULTCAPACITY_EMPTY_ELEMENTDATA, E_wDEFAULTCAPACITY_EMPTY_ELEMENTDATA, V_wDEFAULTCAPACITY_EMPTY_ELEMENTDATA⟩ := hS0
  obtain ⟨T1, X1, e1, st1⟩ := getF X0 hx hZ hown (host := "") (Or.inl (ow hw 125 rfl)) Via.refl e0 P4 (g := (mkF m 3 #[(vr pa1), (vr pa2), (vi 0), (vi 1), .unset, .unset] [(.ref pa1), (.int 0), (.ref pa2)])) rfl rfl (hb hby d24_3)
  obtain ⟨cl2, Ar2, qc2, Sz2, Nn2, Ha2, Gg2⟩ := (id P14)
  have hin2 : ¬ ((1 : Int32) < 0 ∨ cl2.slots.size ≤ ((1 : Int32)).toNatClampNeg) := inb_of Sz2 ⟨by decide, by decide⟩
  have hat2 : cl2.slots[((1 : Int32)).toNatClampNeg]? = some (.int 0) := Ha2.at hin2 rfl
  obtain ⟨cl3, Ar3, qc3, Sz3, Nn3, Ha3, Gg3⟩ := (id P6)
  have hin3 : ¬ ((0 : Int32) < 0 ∨ cl3.slots.size ≤ ((0 : Int32)).toNatClampNeg) := inb_of Sz3 ⟨by decide, by decide⟩
  have hat3 : cl3.slots[((0 : Int32)).toNatClampNeg]? = some (.long pj8) := Ha3.at hin3 rfl
  obtain ⟨T4, X4, e4, st4⟩ := getF X1 hx hZ hown (host := "") (Or.inl (ow hw 127 rfl)) Via.refl e1 P3 (g := (mkF m 11 #[(vr pa1), (vr pa2), (vi 0), (vi 1), .unset, .unset] [(.ref pa1), (.long pj8)])) rfl rfl (hb hby d24_11)
  obtain ⟨cl5, Ar5, qc5, Sz5, Nn5, Ha5, Gg5⟩ := (id P12)
  have hin5 : ¬ ((1 : Int32) < 0 ∨ cl5.slots.size ≤ ((1 : Int32)).toNatClampNeg) := inb_of Sz5 ⟨by decide, by decide⟩
  have hat5 : cl5.slots[((1 : Int32)).toNatClampNeg]? = some (.int pi19) := Ha5.at hin5 rfl
  obtain ⟨T6, X6, e6, st6⟩ := getF X4 hx hZ hown (host := "") (Or.inl (ow hw 130 rfl)) Via.refl e4 P2 (g := (mkF m 18 #[(vr pa1), (vr pa2), (vi 0), (vi 1), .unset, .unset] [(.ref pa1), (.long ((pj8.toUInt64 >>> (pi19 &&& 0x3f).toInt64.toUInt64).toInt64))])) rfl rfl (hb hby d24_18)
  obtain ⟨cl7, Ar7, qc7, Sz7, Nn7, Ha7, Gg7⟩ := (id P10)
  have hin7 : ¬ ((1 : Int32) < 0 ∨ cl7.slots.size ≤ ((1 : Int32)).toNatClampNeg) := inb_of Sz7 ⟨by decide, by decide⟩
  have hat7 : cl7.slots[((1 : Int32)).toNatClampNeg]? = some (.long pj16) := Ha7.at hin7 rfl
  obtain ⟨T8, X8, e8, st8⟩ := getF X6 hx hZ hown (host := "") (Or.inl (ow hw 123 rfl)) Via.refl e6 P1 (g := (mkF m 27 #[(vr pa1), (vr pa2), (vi 0), (vi 1), .val (.long (((pj8.toUInt64 >>> (pi19 &&& 0x3f).toInt64.toUInt64).toInt64) &&& pj16)), .second] [(.ref pa1)])) rfl rfl (hb hby d24_27)
  obtain ⟨cl9, Ar9, qc9, Sz9, Nn9, Ha9, Gg9⟩ := (id P8)
  have hin9 : ¬ ((1 : Int32) < 0 ∨ cl9.slots.size ≤ ((1 : Int32)).toNatClampNeg) := inb_of Sz9 ⟨by decide, by decide⟩
  have hat9 : cl9.slots[((1 : Int32)).toNatClampNeg]? = some (.int pi12) := Ha9.at hin9 rfl
  obtain ⟨fs, hr, hrun, hended, hW, hsame⟩ := X8.leave (v := some (.int (pi12 + ((((pj8.toUInt64 >>> (pi19 &&& 0x3f).toInt64.toUInt64).toInt64) &&& pj16).toInt32)))) (fun h => by rw [hret0] at h; cases h)
  refine ⟨_, _, pre0 _ ?_, hrun, hended, _, _, rfl, ?_, ⟨_, rfl⟩, hW, hsame.mono (by decide) (by decide)⟩
  · skip
    show Steps p.tables e below (s₁.setTop (mkF m 0 #[(vr pa1), (vr pa2), (vi 0), (vi 1), .unset, .unset] [])) _
    refine XS.aloadN X0.here hx rfl (hb hby d24_0) rfl rfl ?_
    refine XS.iloadN X0.here hx rfl (hb hby d24_1) rfl ?_
    refine XS.aloadN X0.here hx rfl (hb hby d24_2) rfl rfl ?_
    refine st1 _ ?_
    refine XS.iloadN X1.here hx rfl (hb hby d24_6) rfl ?_
    refine X1.iaload hx (j := (1 : Int32)) (v := (.int 0)) (by rw [e1]; exact Ar2.1) (State.isArrayOf_alike hZ.alike Ar2.2.1) Ar2.2.2 hin2 hat2 (g := (mkF m 7 #[(vr pa1), (vr pa2), (vi 0), (vi 1), .unset, .unset] [(.int 1), (.ref pa6), (.int 0), (.ref pa2)])) rfl rfl (hb hby d24_7) _ ?_
    show Steps p.tables e below (T1.setTop (mkF m 8 #[(vr pa1), (vr pa2), (vi 0), (vi 1), .unset, .unset] [(.int 0), (.int 0), (.ref pa2)])) _
    refine XS.iadd X1.here hx rfl (hb hby d24_8) rfl ?_
    refine X1.laload hx (j := (0 : Int32)) (v := (.long pj8)) (by rw [e1]; exact Ar3.1) (State.isArrayOf_alike hZ.alike Ar3.2.1) Ar3.2.2 hin3 hat3 (g := (mkF m 9 #[(vr pa1), (vr pa2), (vi 0), (vi 1), .unset, .unset] [(.int 0), (.ref pa2)])) rfl rfl (hb hby d24_9) _ ?_
    refine XS.aloadN X1.here hx rfl (hb hby d24_10) rfl rfl ?_
    refine st4 _ ?_
    refine XS.iloadN X4.here hx rfl (hb hby d24_14) rfl ?_
    refine X4.iaload hx (j := (1 : Int32)) (v := (.int pi19)) (by rw [e4]; exact Ar5.1) (State.isArrayOf_alike hZ.alike Ar5.2.1) Ar5.2.2 hin5 hat5 (g := (mkF m 15 #[(vr pa1), (vr pa2), (vi 0), (vi 1), .unset, .unset] [(.int 1), (.ref pa5), (.long pj8)])) rfl rfl (hb hby d24_15) _ ?_
    show Steps p.tables e below (T4.setTop (mkF m 16 #[(vr pa1), (vr pa2), (vi 0), (vi 1), .unset, .unset] [(.int pi19), (.long pj8)])) _
    refine XS.lushr X4.here hx rfl (hb hby d24_16) rfl ?_
    refine XS.aloadN X4.here hx rfl (hb hby d24_17) rfl rfl ?_
    refine st6 _ ?_
    refine XS.iloadN X6.here hx rfl (hb hby d24_21) rfl ?_
    refine X6.laload hx (j := (1 : Int32)) (v := (.long pj16)) (by rw [e6]; exact Ar7.1) (State.isArrayOf_alike hZ.alike Ar7.2.1) Ar7.2.2 hin7 hat7 (g := (mkF m 22 #[(vr pa1), (vr pa2), (vi 0), (vi 1), .unset, .unset] [(.int 1), (.ref pa4), (.long ((pj8.toUInt64 >>> (pi19 &&& 0x3f).toInt64.toUInt64).toInt64))])) rfl rfl (hb hby d24_22) _ ?_
    refine XS.land X6.here hx rfl (hb hby d24_23) rfl ?_
    show Steps p.tables e below (T6.setTop (mkF m 24 #[(vr pa1), (vr pa2), (vi 0), (vi 1), .unset, .unset] [(.long (((pj8.toUInt64 >>> (pi19 &&& 0x3f).toInt64.toUInt64).toInt64) &&& pj16))])) _
    refine XS.lstore X6.here hx rfl (hb hby d24_24) rfl (l' := #[(vr pa1), (vr pa2), (vi 0), (vi 1), .val (.long (((pj8.toUInt64 >>> (pi19 &&& 0x3f).toInt64.toUInt64).toInt64) &&& pj16)), .second]) rfl ?_
    refine XS.aloadN X6.here hx rfl (hb hby d24_26) rfl rfl ?_
    refine st8 _ ?_
    refine XS.iloadN X8.here hx rfl (hb hby d24_30) rfl ?_
    refine X8.iaload hx (j := (1 : Int32)) (v := (.int pi12)) (by rw [e8]; exact Ar9.1) (State.isArrayOf_alike hZ.alike Ar9.2.1) Ar9.2.2 hin9 hat9 (g := (mkF m 31 #[(vr pa1), (vr pa2), (vi 0), (vi 1), .val (.long (((pj8.toUInt64 >>> (pi19 &&& 0x3f).toInt64.toUInt64).toInt64) &&& pj16)), .second] [(.int 1), (.ref pa3)])) rfl rfl (hb hby d24_31) _ ?_
    refine XS.lload X8.here hx rfl (hb hby d24_32) rfl ?_
    show Steps p.tables e below (T8.setTop (mkF m 34 #[(vr pa1), (vr pa2), (vi 0), (vi 1), .val (.long (((pj8.toUInt64 >>> (pi19 &&& 0x3f).toInt64.toUInt64).toInt64) &&& pj16)), .second] [(.long (((pj8.toUInt64 >>> (pi19 &&& 0x3f).toInt64.toUInt64).toInt64) &&& pj16)), (.int pi12)])) _
    refine XS.l2i X8.here hx rfl (hb hby d24_34) rfl ?_
    refine XS.iadd X8.here hx rfl (hb hby d24_35) rfl ?_
    exact retI X8 hx hret0 (hb hby d24_36) hr
  · show Q_au24_7 Z wINTEGER wDOUBLE wBOOLEAN wDEFAULTCAPACITY_EMPTY_ELEMENTDATA kwDEFAULTCAPACITY_EMPTY_ELEMENTDATA pa1 pa2 pa3 pa4 pa5 pa6 pk7 pj8 pj9 pk10 pi11 pi12 pi13 pk14 pj15 pj16 pj17 pk18 pi19 pi20 pk21 h0 n0 _ T8.heap _
    rw [e8]
    exact ⟨rfl, N0, rfl⟩
theorem ef_au24_8 (m : MethodId) (x0 : Addr) (x1 : Addr) (x2 : Int32) (x3 : Int32)  : entryFrame m #[(.ref x0), (.ref x1), (.int x2), (.int x3)] 6 = mkF m 0 #[(vr x0), (vr x1), (vi x2), (vi x3), .unset, .unset] [] := by first | (simp [entryFrame, mkF, argsToLocals, Value.category]; done) | rfl
def Q_au24_8 (Z : State) (wINTEGER : Addr) (wDOUBLE : Addr) (wBOOLEAN : Addr) (wDEFAULTCAPACITY_EMPTY_ELEMENTDATA : Addr) (kwDEFAULTCAPACITY_EMPTY_ELEMENTDATA : ClassId) (pa1 : Addr) (pa2 : Addr) (pa3 : Addr) (pa4 : Addr) (pa5 : Addr) (pa6 : Addr) (pk7 : ClassId) (pj8 : Int64) (pj9 : Int64) (pk10 : ClassId) (pi11 : Int32) (pi12 : Int32) (pi13 : Int32) (pk14 : ClassId) (pj15 : Int64) (pj16 : Int64) (pj17 : Int64) (pk18 : ClassId) (pi19 : Int32) (pi20 : Int32) (pk21 : ClassId) (h0 : Heap) (n0 : Nat) (v : Option Value) (h : Heap) (L : List Loc) : Prop := v = some (.int (pi13 + ((((pj8.toUInt64 >>> (pi20 &&& 0x3f).toInt64.toUInt64).toInt64) &&& pj17).toInt32))) ∧ Fr n0 L ∧ h = h0
theorem au24_8 (l : Launch) (Z : State) (a0 : Array Value) (hw : ∀ d ∈ tables_1, d.before a0 Z = true) (ws : List Jvm.Cond) (wINTEGER : Addr) (wDOUBLE : Addr) (wBOOLEAN : Addr) (wDEFAULTCAPACITY_EMPTY_ELEMENTDATA : Addr) (kwDEFAULTCAPACITY_EMPTY_ELEMENTDATA : ClassId) (hS : SS Z wINTEGER wDOUBLE wBOOLEAN wDEFAULTCAPACITY_EMPTY_ELEMENTDATA kwDEFAULTCAPACITY_EMPTY_ELEMENTDATA) (pa1 : Addr) (pa2 : Addr) (pa3 : Addr) (pa4 : Addr) (pa5 : Addr) (pa6 : Addr) (pk7 : ClassId) (pj8 : Int64) (pj9 : Int64) (pk10 : ClassId) (pi11 : Int32) (pi12 : Int32) (pi13 : Int32) (pk14 : ClassId) (pj15 : Int64) (pj16 : Int64) (pj17 : Int64) (pk18 : ClassId) (pi19 : Int32) (pi20 : Int32) (pk21 : ClassId) (h0 : Heap) (n0 : Nat) (O0 : Old Z n0 h0) (P1 : Fld Z h0 pa1 s9n "low" "[I" (.ref pa3)) (P2 : Fld Z h0 pa1 s9n "mask" "[J" (.ref pa4)) (P3 : Fld Z h0 pa1 s9n "shift" "[I" (.ref pa5)) (P4 : Fld Z h0 pa1 s9n "word" "[I" (.ref pa6)) (P6 : Arv Z h0 pa2 pk7 .long (4 : Int32) ([(.long pj8), (.long pj9), (.long pj9), (.long pj9)]) (.long 0)) (P8 : Arv Z h0 pa3 pk10 .int (3 : Int32) ([(.int pi11), (.int pi12), (.int pi13)]) (.int 0)) (P10 : Arv Z h0 pa4 pk14 .long (3 : Int32) ([(.long pj15), (.long pj16), (.long pj17)]) (.long 0)) (P12 : Arv Z h0 pa5 pk18 .int (3 : Int32) ([(.int 0), (.int pi19), (.int pi20)]) (.int 0)) (P14 : Arv Z h0 pa6 pk21 .int (3 : Int32) ([(.int 0), (.int 0), (.int 0)]) (.int 0)) :
    MetB l M24 prog_105_method_5_code 6 (some .int) ws (rmk 0 0 0 0) Z h0 #[(.ref pa1), (.ref pa2), (.int 0), (.int 2)] (Q_au24_8 Z wINTEGER wDOUBLE wBOOLEAN wDEFAULTCAPACITY_EMPTY_ELEMENTDATA kwDEFAULTCAPACITY_EMPTY_ELEMENTDATA pa1 pa2 pa3 pa4 pa5 pa6 pk7 pj8 pj9 pk10 pi11 pi12 pi13 pk14 pj15 pj16 pj17 pk18 pi19 pi20 pk21 h0 n0) := by
  refine own_body (plainFor_of_name pn_com_example_lanc_lanc_model_VariableLayout) ?_
  intro p e s m below meth c s₁ hx hby hml hown hnm hret0 hlk0 hZ X0 e0
  have N0 := Fr.nil n0
  have pre0 : ∀ t, Steps p.tables e below (s₁.setTop (mkF m 0 #[(vr pa1), (vr pa2), (vi 0), (vi 2), .unset, .unset] [])) t → Steps p.tables e below (s₁.setTop (entryFrame m #[(.ref pa1), (.ref pa2), (.int 0), (.int 2)] 6)) t := fun t k => castTop (ef_au24_8 m pa1 pa2 (0 : Int32) (2 : Int32)) k
  have hS0 := hS
  obtain ⟨S_wINTEGER, E_wINTEGER, S_wDOUBLE, E_wDOUBLE, S_wBOOLEAN, E_wBOOLEAN, F_ordinal_wINTEGER, F_ordinal_wDOUBLE, F_ordinal_wBOOLEAN, S_wDEFAULTCAPACITY_EMPTY_ELEMENTDATA, E_wDEFAULTCAPACITY_EMPTY_ELEMENTDATA, V_wDEFAULTCAPACITY_EMPTY_ELEMENTDATA⟩ := hS0
  obtain ⟨T1, X1, e1, st1⟩ := getF X0 hx hZ hown (host := "") (Or.inl (ow hw 125 rfl)) Via.refl e0 P4 (g := (mkF m 3 #[(vr pa1), (vr pa2), (vi 0), (vi 2), .unset, .unset] [(.ref pa1), (.int 0), (.ref pa2)])) rfl rfl (hb hby d24_3)
  obtain ⟨cl2, Ar2, qc2, Sz2, Nn2, Ha2, Gg2⟩ := (id P14)
  have hin2 : ¬ ((2 : Int32) < 0 ∨ cl2.slots.size ≤ ((2 : Int32)).toNatClampNeg) := inb_of Sz2 ⟨by decide, by decide⟩
  have hat2 : cl2.slots[((2 : Int32)).toNatClampNeg]? = some (.int 0) := Ha2.at hin2 rfl
  obtain ⟨cl3, Ar3, qc3, Sz3, Nn3, Ha3, Gg3⟩ := (id P6)
  have hin3 : ¬ ((0 : Int32) < 0 ∨ cl3.slots.size ≤ ((0 : Int32)).toNatClampNeg) := inb_of Sz3 ⟨by decide, by decide⟩
  have hat3 : cl3.slots[((0 : Int32)).toNatClampNeg]? = some (.long pj8) := Ha3.at hin3 rfl
  obtain ⟨T4, X4, e4, st4⟩ := getF X1 hx hZ hown (host := "") (Or.inl (ow hw 127 rfl)) Via.refl e1 P3 (g := (mkF m 11 #[(vr pa1), (vr pa2), (vi 0), (vi 2), .unset, .unset] [(.ref pa1), (.long pj8)])) rfl rfl (hb hby d24_11)
  obtain ⟨cl5, Ar5, qc5, Sz5, Nn5, Ha5, Gg5⟩ := (id P12)
  have hin5 : ¬ ((2 : Int32) < 0 ∨ cl5.slots.size ≤ ((2 : Int32)).toNatClampNeg) := inb_of Sz5 ⟨by decide, by decide⟩
  have hat5 : cl5.slots[((2 : Int32)).toNatClampNeg]? = some (.int pi20) := Ha5.at hin5 rfl
  obtain ⟨T6, X6, e6, st6⟩ := getF X4 hx hZ hown (host := "") (Or.inl (ow hw 130 rfl)) Via.refl e4 P2 (g := (mkF m 18 #[(vr pa1), (vr pa2), (vi 0), (vi 2), .unset, .unset] [(.ref pa1), (.long ((pj8.toUInt64 >>> (pi20 &&& 0x3f).toInt64.toUInt64).toInt64))])) rfl rfl (hb hby d24_18)
  obtain ⟨cl7, Ar7, qc7, Sz7, Nn7, Ha7, Gg7⟩ := (id P10)
  have hin7 : ¬ ((2 : Int32) < 0 ∨ cl7.slots.size ≤ ((2 : Int32)).toNatClampNeg) := inb_of Sz7 ⟨by decide, by decide⟩
  have hat7 : cl7.slots[((2 : Int32)).toNatClampNeg]? = some (.long pj17) := Ha7.at hin7 rfl
  obtain ⟨T8, X8, e8, st8⟩ := getF X6 hx hZ hown (host := "") (Or.inl (ow hw 123 rfl)) Via.refl e6 P1 (g := (mkF m 27 #[(vr pa1), (vr pa2), (vi 0), (vi 2), .val (.long (((pj8.toUInt64 >>> (pi20 &&& 0x3f).toInt64.toUInt64).toInt64) &&& pj17)), .second] [(.ref pa1)])) rfl rfl (hb hby d24_27)
  obtain ⟨cl9, Ar9, qc9, Sz9, Nn9, Ha9, Gg9⟩ := (id P8)
  have hin9 : ¬ ((2 : Int32) < 0 ∨ cl9.slots.size ≤ ((2 : Int32)).toNatClampNeg) := inb_of Sz9 ⟨by decide, by decide⟩
  have hat9 : cl9.slots[((2 : Int32)).toNatClampNeg]? = some (.int pi13) := Ha9.at hin9 rfl
  obtain ⟨fs, hr, hrun, hended, hW, hsame⟩ := X8.leave (v := some (.int (pi13 + ((((pj8.toUInt64 >>> (pi20 &&& 0x3f).toInt64.toUInt64).toInt64) &&& pj17).toInt32)))) (fun h => by rw [hret0] at h; cases h)
  refine ⟨_, _, pre0 _ ?_, hrun, hended, _, _, rfl, ?_, ⟨_, rfl⟩, hW, hsame.mono (by decide) (by decide)⟩
  · skip
    show Steps p.tables e below (s₁.setTop (mkF m 0 #[(vr pa1), (vr pa2), (vi 0), (vi 2), .unset, .unset] [])) _
    refine XS.aloadN X0.here hx rfl (hb hby d24_0) rfl rfl ?_
    refine XS.iloadN X0.here hx rfl (hb hby d24_1) rfl ?_
    refine XS.aloadN X0.here hx rfl (hb hby d24_2) rfl rfl ?_
    refine st1 _ ?_
    refine XS.iloadN X1.here hx rfl (hb hby d24_6) rfl ?_
    refine X1.iaload hx (j := (2 : Int32)) (v := (.int 0)) (by rw [e1]; exact Ar2.1) (State.isArrayOf_alike hZ.alike Ar2.2.1) Ar2.2.2 hin2 hat2 (g := (mkF m 7 #[(vr pa1), (vr pa2), (vi 0), (vi 2), .unset, .unset] [(.int 2), (.ref pa6), (.int 0), (.ref pa2)])) rfl rfl (hb hby d24_7) _ ?_
    show Steps p.tables e below (T1.setTop (mkF m 8 #[(vr pa1), (vr pa2), (vi 0), (vi 2), .unset, .unset] [(.int 0), (.int 0), (.ref pa2)])) _
    refine XS.iadd X1.here hx rfl (hb hby d24_8) rfl ?_
    refine X1.laload hx (j := (0 : Int32)) (v := (.long pj8)) (by rw [e1]; exact Ar3.1) (State.isArrayOf_alike hZ.alike Ar3.2.1) Ar3.2.2 hin3 hat3 (g := (mkF m 9 #[(vr pa1), (vr pa2), (vi 0), (vi 2), .unset, .unset] [(.int 0), (.ref pa2)])) rfl rfl (hb hby d24_9) _ ?_
    refine XS.aloadN X1.here hx rfl (hb hby d24_10) rfl rfl ?_
    refine st4 _ ?_
    refine XS.iloadN X4.here hx rfl (hb hby d24_14) rfl ?_
    refine X4.iaload hx (j := (2 : Int32)) (v := (.int pi20)) (by rw [e4]; exact Ar5.1) (State.isArrayOf_alike hZ.alike Ar5.2.1) Ar5.2.2 hin5 hat5 (g := (mkF m 15 #[(vr pa1), (vr pa2), (vi 0), (vi 2), .unset, .unset] [(.int 2), (.ref pa5), (.long pj8)])) rfl rfl (hb hby d24_15) _ ?_
    show Steps p.tables e below (T4.setTop (mkF m 16 #[(vr pa1), (vr pa2), (vi 0), (vi 2), .unset, .unset] [(.int pi20), (.long pj8)])) _
    refine XS.lushr X4.here hx rfl (hb hby d24_16) rfl ?_
    refine XS.aloadN X4.here hx rfl (hb hby d24_17) rfl rfl ?_
    refine st6 _ ?_
    refine XS.iloadN X6.here hx rfl (hb hby d24_21) rfl ?_
    refine X6.laload hx (j := (2 : Int32)) (v := (.long pj17)) (by rw [e6]; exact Ar7.1) (State.isArrayOf_alike hZ.alike Ar7.2.1) Ar7.2.2 hin7 hat7 (g := (mkF m 22 #[(vr pa1), (vr pa2), (vi 0), (vi 2), .unset, .unset] [(.int 2), (.ref pa4), (.long ((pj8.toUInt64 >>> (pi20 &&& 0x3f).toInt64.toUInt64).toInt64))])) rfl rfl (hb hby d24_22) _ ?_
    refine XS.land X6.here hx rfl (hb hby d24_23) rfl ?_
    show Steps p.tables e below (T6.setTop (mkF m 24 #[(vr pa1), (vr pa2), (vi 0), (vi 2), .unset, .unset] [(.long (((pj8.toUInt64 >>> (pi20 &&& 0x3f).toInt64.toUInt64).toInt64) &&& pj17))])) _
    refine XS.lstore X6.here hx rfl (hb hby d24_24) rfl (l' := #[(vr pa1), (vr pa2), (vi 0), (vi 2), .val (.long (((pj8.toUInt64 >>> (pi20 &&& 0x3f).toInt64.toUInt64).toInt64) &&& pj17)), .second]) rfl ?_
    refine XS.aloadN X6.here hx rfl (hb hby d24_26) rfl rfl ?_
    refine st8 _ ?_
    refine XS.iloadN X8.here hx rfl (hb hby d24_30) rfl ?_
    refine X8.iaload hx (j := (2 : Int32)) (v := (.int pi13)) (by rw [e8]; exact Ar9.1) (State.isArrayOf_alike hZ.alike Ar9.2.1) Ar9.2.2 hin9 hat9 (g := (mkF m 31 #[(vr pa1), (vr pa2), (vi 0), (vi 2), .val (.long (((pj8.toUInt64 >>> (pi20 &&& 0x3f).toInt64.toUInt64).toInt64) &&& pj17)), .second] [(.int 2), (.ref pa3)])) rfl rfl (hb hby d24_31) _ ?_
    refine XS.lload X8.here hx rfl (hb hby d24_32) rfl ?_
    show Steps p.tables e below (T8.setTop (mkF m 34 #[(vr pa1), (vr pa2), (vi 0), (vi 2), .val (.long (((pj8.toUInt64 >>> (pi20 &&& 0x3f).toInt64.toUInt64).toInt64) &&& pj17)), .second] [(.long (((pj8.toUInt64 >>> (pi20 &&& 0x3f).toInt64.toUInt64).toInt64) &&& pj17)), (.int pi13)])) _
    refine XS.l2i X8.here hx rfl (hb hby d24_34) rfl ?_
    refine XS.iadd X8.here hx rfl (hb hby d24_35) rfl ?_
    exact retI X8 hx hret0 (hb hby d24_36) hr
  · show Q_au24_8 Z wINTEGER wDOUBLE wBOOLEAN wDEFAULTCAPACITY_EMPTY_ELEMENTDATA kwDEFAULTCAPACITY_EMPTY_ELEMENTDATA pa1 pa2 pa3 pa4 pa5 pa6 pk7 pj8 pj9 pk10 pi11 pi12 pi13 pk14 pj15 pj16 pj17 pk18 pi19 pi20 pk21 h0 n0 _ T8.heap _
    rw [e8]
    exact ⟨rfl, N0, rfl⟩
theorem ef_au24_9 (m : MethodId) (x0 : Addr) (x1 : Addr) (x2 : Int32) (x3 : Int32)  : entryFrame m #[(.ref x0), (.ref x1), (.int x2), (.int x3)] 6 = mkF m 0 #[(vr x0), (vr x1), (vi x2), (vi x3), .unset, .unset] [] := by first | (simp [entryFrame, mkF, argsToLocals, Value.category]; done) | rfl
def Q_au24_9 (Z : State) (wINTEGER : Addr) (wDOUBLE : Addr) (wBOOLEAN : Addr) (wDEFAULTCAPACITY_EMPTY_ELEMENTDATA : Addr) (kwDEFAULTCAPACITY_EMPTY_ELEMENTDATA : ClassId) (pa1 : Addr) (pa2 : Addr) (pa3 : Addr) (pa4 : Addr) (pa5 : Addr) (pa6 : Addr) (pk7 : ClassId) (pj8 : Int64) (pj9 : Int64) (pk10 : ClassId) (pi11 : Int32) (pi12 : Int32) (pi13 : Int32) (pk14 : ClassId) (pj15 : Int64) (pj16 : Int64) (pj17 : Int64) (pk18 : ClassId) (pi19 : Int32) (pi20 : Int32) (pk21 : ClassId) (h0 : Heap) (n0 : Nat) (v : Option Value) (h : Heap) (L : List Loc) : Prop := v = some (.int (pi11 + ((((pj9.toUInt64 >>> ((0 : Int32) &&& 0x3f).toInt64.toUInt64).toInt64) &&& pj15).toInt32))) ∧ Fr n0 L ∧ h = h0
theorem au24_9 (l : Launch) (Z : State) (a0 : Array Value) (hw : ∀ d ∈ tables_1, d.before a0 Z = true) (ws : List Jvm.Cond) (wINTEGER : Addr) (wDOUBLE : Addr) (wBOOLEAN : Addr) (wDEFAULTCAPACITY_EMPTY_ELEMENTDATA : Addr) (kwDEFAULTCAPACITY_EMPTY_ELEMENTDATA : ClassId) (hS : SS Z wINTEGER wDOUBLE wBOOLEAN wDEFAULTCAPACITY_EMPTY_ELEMENTDATA kwDEFAULTCAPACITY_EMPTY_ELEMENTDATA) (pa1 : Addr) (pa2 : Addr) (pa3 : Addr) (pa4 : Addr) (pa5 : Addr) (pa6 : Addr) (pk7 : ClassId) (pj8 : Int64) (pj9 : Int64) (pk10 : ClassId) (pi11 : Int32) (pi12 : Int32) (pi13 : Int32) (pk14 : ClassId) (pj15 : Int64) (pj16 : Int64) (pj17 : Int64) (pk18 : ClassId) (pi19 : Int32) (pi20 : Int32) (pk21 : ClassId) (h0 : Heap) (n0 : Nat) (O0 : Old Z n0 h0) (P1 : Fld Z h0 pa1 s9n "low" "[I" (.ref pa3)) (P2 : Fld Z h0 pa1 s9n "mask" "[J" (.ref pa4)) (P3 : Fld Z h0 pa1 s9n "shift" "[I" (.ref pa5)) (P4 : Fld Z h0 pa1 s9n "word" "[I" (.ref pa6)) (P6 : Arv Z h0 pa2 pk7 .long (4 : Int32) ([(.long pj8), (.long pj9), (.long pj8), (.long pj8)]) (.long 0)) (P8 : Arv Z h0 pa3 pk10 .int (3 : Int32) ([(.int pi11), (.int pi12), (.int pi13)]) (.int 0)) (P10 : Arv Z h0 pa4 pk14 .long (3 : Int32) ([(.long pj15), (.long pj16), (.long pj17)]) (.long 0)) (P12 : Arv Z h0 pa5 pk18 .int (3 : Int32) ([(.int 0), (.int pi19), (.int pi20)]) (.int 0)) (P14 : Arv Z h0 pa6 pk21 .int (3 : Int32) ([(.int 0), (.int 0), (.int 0)]) (.int 0)) :
    MetB l M24 prog_105_method_5_code 6 (some .int) ws (rmk 0 0 0 0) Z h0 #[(.ref pa1), (.ref pa2), (.int 1), (.int 0)] (Q_au24_9 Z wINTEGER wDOUBLE wBOOLEAN wDEFAULTCAPACITY_EMPTY_ELEMENTDATA kwDEFAULTCAPACITY_EMPTY_ELEMENTDATA pa1 pa2 pa3 pa4 pa5 pa6 pk7 pj8 pj9 pk10 pi11 pi12 pi13 pk14 pj15 pj16 pj17 pk18 pi19 pi20 pk21 h0 n0) := by
  refine own_body (plainFor_of_name pn_com_example_lanc_lanc_model_VariableLayout) ?_
  intro p e s m below meth c s₁ hx hby hml hown hnm hret0 hlk0 hZ X0 e0
  have N0 := Fr.nil n0
  have pre0 : ∀ t, Steps p.tables e below (s₁.setTop (mkF m 0 #[(vr pa1), (vr pa2), (vi 1), (vi 0), .unset, .unset] [])) t → Steps p.tables e below (s₁.setTop (entryFrame m #[(.ref pa1), (.ref pa2), (.int 1), (.int 0)] 6)) t := fun t k => castTop (ef_au24_9 m pa1 pa2 (1 : Int32) (0 : Int32)) k
  have hS0 := hS
  obtain ⟨S_wINTEGER, E_wINTEGER, S_wDOUBLE, E_wDOUBLE, S_wBOOLEAN, E_wBOOLEAN, F_ordinal_wINTEGER, F_ordinal_wDOUBLE, F_ordinal_wBOOLEAN, S_wDEFAULTCAPACITY_EMPTY_ELEMENTDATA, E_wDEFAULTCAPACITY_EMPTY_ELEMENTDATA, V_wDEFAULTCAPACITY_EMPTY_ELEMENTDATA⟩ := hS0
  obtain ⟨T1, X1, e1, st1⟩ := getF X0 hx hZ hown (host := "") (Or.inl (ow hw 125 rfl)) Via.refl e0 P4 (g := (mkF m 3 #[(vr pa1), (vr pa2), (vi 1), (vi 0), .unset, .unset] [(.ref pa1), (.int 1), (.ref pa2)])) rfl rfl (hb hby d24_3)
  obtain ⟨cl2, Ar2, qc2, Sz2, Nn2, Ha2, Gg2⟩ := (id P14)
  have hin2 : ¬ ((0 : Int32) < 0 ∨ cl2.slots.size ≤ ((0 : Int32)).toNatClampNeg) := inb_of Sz2 ⟨by decide, by decide⟩
  have hat2 : cl2.slots[((0 : Int32)).toNatClampNeg]? = some (.int 0) := Ha2.at hin2 rfl
  obtain ⟨cl3, Ar3, qc3, Sz3, Nn3, Ha3, Gg3⟩ := (id P6)
  have hin3 : ¬ ((1 : Int32) < 0 ∨ cl3.slots.size ≤ ((1 : Int32)).toNatClampNeg) := inb_of Sz3 ⟨by decide, by decide⟩
  have hat3 : cl3.slots[((1 : Int32)).toNatClampNeg]? = some (.long pj9) := Ha3.at hin3 rfl
  obtain ⟨T4, X4, e4, st4⟩ := getF X1 hx hZ hown (host := "") (Or.inl (ow hw 127 rfl)) Via.refl e1 P3 (g := (mkF m 11 #[(vr pa1), (vr pa2), (vi 1), (vi 0), .unset, .unset] [(.ref pa1), (.long pj9)])) rfl rfl (hb hby d24_11)
  obtain ⟨cl5, Ar5, qc5, Sz5, Nn5, Ha5, Gg5⟩ := (id P12)
  have hin5 : ¬ ((0 : Int32) < 0 ∨ cl5.slots.size ≤ ((0 : Int32)).toNatClampNeg) := inb_of Sz5 ⟨by decide, by decide⟩
  have hat5 : cl5.slots[((0 : Int32)).toNatClampNeg]? = some (.int 0) := Ha5.at hin5 rfl
  obtain ⟨T6, X6, e6, st6⟩ := getF X4 hx hZ hown (host := "") (Or.inl (ow hw 130 rfl)) Via.refl e4 P2 (g := (mkF m 18 #[(vr pa1), (vr pa2), (vi 1), (vi 0), .unset, .unset] [(.ref pa1), (.long ((pj9.toUInt64 >>> ((0 : Int32) &&& 0x3f).toInt64.toUInt64).toInt64))])) rfl rfl (hb hby d24_18)
  obtain ⟨cl7, Ar7, qc7, Sz7, Nn7, Ha7, Gg7⟩ := (id P10)
  have hin7 : ¬ ((0 : Int32) < 0 ∨ cl7.slots.size ≤ ((0 : Int32)).toNatClampNeg) := inb_of Sz7 ⟨by decide, by decide⟩
  have hat7 : cl7.slots[((0 : Int32)).toNatClampNeg]? = some (.long pj15) := Ha7.at hin7 rfl
  obtain ⟨T8, X8, e8, st8⟩ := getF X6 hx hZ hown (host := "") (Or.inl (ow hw 123 rfl)) Via.refl e6 P1 (g := (mkF m 27 #[(vr pa1), (vr pa2), (vi 1), (vi 0), .val (.long (((pj9.toUInt64 >>> ((0 : Int32) &&& 0x3f).toInt64.toUInt64).toInt64) &&& pj15)), .second] [(.ref pa1)])) rfl rfl (hb hby d24_27)
  obtain ⟨cl9, Ar9, qc9, Sz9, Nn9, Ha9, Gg9⟩ := (id P8)
  have hin9 : ¬ ((0 : Int32) < 0 ∨ cl9.slots.size ≤ ((0 : Int32)).toNatClampNeg) := inb_of Sz9 ⟨by decide, by decide⟩
  have hat9 : cl9.slots[((0 : Int32)).toNatClampNeg]? = some (.int pi11) := Ha9.at hin9 rfl
  obtain ⟨fs, hr, hrun, hended, hW, hsame⟩ := X8.leave (v := some (.int (pi11 + ((((pj9.toUInt64 >>> ((0 : Int32) &&& 0x3f).toInt64.toUInt64).toInt64) &&& pj15).toInt32)))) (fun h => by rw [hret0] at h; cases h)
  refine ⟨_, _, pre0 _ ?_, hrun, hended, _, _, rfl, ?_, ⟨_, rfl⟩, hW, hsame.mono (by decide) (by decide)⟩
  · skip
    show Steps p.tables e below (s₁.setTop (mkF m 0 #[(vr pa1), (vr pa2), (vi 1), (vi 0), .unset, .unset] [])) _
    refine XS.aloadN X0.here hx rfl (hb hby d24_0) rfl rfl ?_
    refine XS.iloadN X0.here hx rfl (hb hby d24_1) rfl ?_
    refine XS.aloadN X0.here hx rfl (hb hby d24_2) rfl rfl ?_
    refine st1 _ ?_
    refine XS.iloadN X1.here hx rfl (hb hby d24_6) rfl ?_
    refine X1.iaload hx (j := (0 : Int32)) (v := (.int 0)) (by rw [e1]; exact Ar2.1) (State.isArrayOf_alike hZ.alike Ar2.2.1) Ar2.2.2 hin2 hat2 (g := (mkF m 7 #[(vr pa1), (vr pa2), (vi 1), (vi 0), .unset, .unset] [(.int 0), (.ref pa6), (.int 1), (.ref pa2)])) rfl rfl (hb hby d24_7) _ ?_
    show Steps p.tables e below (T1.setTop (mkF m 8 #[(vr pa1), (vr pa2), (vi 1), (vi 0), .unset, .unset] [(.int 0), (.int 1), (.ref pa2)])) _
    refine XS.iadd X1.here hx rfl (hb hby d24_8) rfl ?_
    refine X1.laload hx (j := (1 : Int32)) (v := (.long pj9)) (by rw [e1]; exact Ar3.1) (State.isArrayOf_alike hZ.alike Ar3.2.1) Ar3.2.2 hin3 hat3 (g := (mkF m 9 #[(vr pa1), (vr pa2), (vi 1), (vi 0), .unset, .unset] [(.int 1), (.ref pa2)])) rfl rfl (hb hby d24_9) _ ?_
    refine XS.aloadN X1.here hx rfl (hb hby d24_10) rfl rfl ?_
    refine st4 _ ?_
    refine XS.iloadN X4.here hx rfl (hb hby d24_14) rfl ?_
    refine X4.iaload hx (j := (0 : Int32)) (v := (.int 0)) (by rw [e4]; exact Ar5.1) (State.isArrayOf_alike hZ.alike Ar5.2.1) Ar5.2.2 hin5 hat5 (g := (mkF m 15 #[(vr pa1), (vr pa2), (vi 1), (vi 0), .unset, .unset] [(.int 0), (.ref pa5), (.long pj9)])) rfl rfl (hb hby d24_15) _ ?_
    show Steps p.tables e below (T4.setTop (mkF m 16 #[(vr pa1), (vr pa2), (vi 1), (vi 0), .unset, .unset] [(.int 0), (.long pj9)])) _
    refine XS.lushr X4.here hx rfl (hb hby d24_16) rfl ?_
    refine XS.aloadN X4.here hx rfl (hb hby d24_17) rfl rfl ?_
    refine st6 _ ?_
    refine XS.iloadN X6.here hx rfl (hb hby d24_21) rfl ?_
    refine X6.laload hx (j := (0 : Int32)) (v := (.long pj15)) (by rw [e6]; exact Ar7.1) (State.isArrayOf_alike hZ.alike Ar7.2.1) Ar7.2.2 hin7 hat7 (g := (mkF m 22 #[(vr pa1), (vr pa2), (vi 1), (vi 0), .unset, .unset] [(.int 0), (.ref pa4), (.long ((pj9.toUInt64 >>> ((0 : Int32) &&& 0x3f).toInt64.toUInt64).toInt64))])) rfl rfl (hb hby d24_22) _ ?_
    refine XS.land X6.here hx rfl (hb hby d24_23) rfl ?_
    show Steps p.tables e below (T6.setTop (mkF m 24 #[(vr pa1), (vr pa2), (vi 1), (vi 0), .unset, .unset] [(.long (((pj9.toUInt64 >>> ((0 : Int32) &&& 0x3f).toInt64.toUInt64).toInt64) &&& pj15))])) _
    refine XS.lstore X6.here hx rfl (hb hby d24_24) rfl (l' := #[(vr pa1), (vr pa2), (vi 1), (vi 0), .val (.long (((pj9.toUInt64 >>> ((0 : Int32) &&& 0x3f).toInt64.toUInt64).toInt64) &&& pj15)), .second]) rfl ?_
    refine XS.aloadN X6.here hx rfl (hb hby d24_26) rfl rfl ?_
    refine st8 _ ?_
    refine XS.iloadN X8.here hx rfl (hb hby d24_30) rfl ?_
    refine X8.iaload hx (j := (0 : Int32)) (v := (.int pi11)) (by rw [e8]; exact Ar9.1) (State.isArrayOf_alike hZ.alike Ar9.2.1) Ar9.2.2 hin9 hat9 (g := (mkF m 31 #[(vr pa1), (vr pa2), (vi 1), (vi 0), .val (.long (((pj9.toUInt64 >>> ((0 : Int32) &&& 0x3f).toInt64.toUInt64).toInt64) &&& pj15)), .second] [(.int 0), (.ref pa3)])) rfl rfl (hb hby d24_31) _ ?_
    refine XS.lload X8.here hx rfl (hb hby d24_32) rfl ?_
    show Steps p.tables e below (T8.setTop (mkF m 34 #[(vr pa1), (vr pa2), (vi 1), (vi 0), .val (.long (((pj9.toUInt64 >>> ((0 : Int32) &&& 0x3f).toInt64.toUInt64).toInt64) &&& pj15)), .second] [(.long (((pj9.toUInt64 >>> ((0 : Int32) &&& 0x3f).toInt64.toUInt64).toInt64) &&& pj15)), (.int pi11)])) _
    refine XS.l2i X8.here hx rfl (hb hby d24_34) rfl ?_
    refine XS.iadd X8.here hx rfl (hb hby d24_35) rfl ?_
    exact retI X8 hx hret0 (hb hby d24_36) hr
  · show Q_au24_9 Z wINTEGER wDOUBLE wBOOLEAN wDEFAULTCAPACITY_EMPTY_ELEMENTDATA kwDEFAULTCAPACITY_EMPTY_ELEMENTDATA pa1 pa2 pa3 pa4 pa5 pa6 pk7 pj8 pj9 pk10 pi11 pi12 pi13 pk14 pj15 pj16 pj17 pk18 pi19 pi20 pk21 h0 n0 _ T8.heap _
    rw [e8]
    exact ⟨rfl, N0, rfl⟩
theorem ef_au24_10 (m : MethodId) (x0 : Addr) (x1 : Addr) (x2 : Int32) (x3 : Int32)  : entryFrame m #[(.ref x0), (.ref x1), (.int x2), (.int x3)] 6 = mkF m 0 #[(vr x0), (vr x1), (vi x2), (vi x3), .unset, .unset] [] := by first | (simp [entryFrame, mkF, argsToLocals, Value.category]; done) | rfl
def Q_au24_10 (Z : State) (wINTEGER : Addr) (wDOUBLE : Addr) (wBOOLEAN : Addr) (wDEFAULTCAPACITY_EMPTY_ELEMENTDATA : Addr) (kwDEFAULTCAPACITY_EMPTY_ELEMENTDATA : ClassId) (pa1 : Addr) (pa2 : Addr) (pa3 : Addr) (pa4 : Addr) (pa5 : Addr) (pa6 : Addr) (pk7 : ClassId) (pj8 : Int64) (pj9 : Int64) (pk10 : ClassId) (pi11 : Int32) (pi12 : Int32) (pi13 : Int32) (pk14 : ClassId) (pj15 : Int64) (pj16 : Int64) (pj17 : Int64) (pk18 : ClassId) (pi19 : Int32) (pi20 : Int32) (pk21 : ClassId) (h0 : Heap) (n0 : Nat) (v : Option Value) (h : Heap) (L : List Loc) : Prop := v = some (.int (pi12 + ((((pj9.toUInt64 >>> (pi19 &&& 0x3f).toInt64.toUInt64).toInt64) &&& pj16).toInt32))) ∧ Fr n0 L ∧ h = h0
theorem au24_10 (l : Launch) (Z : State) (a0 : Array Value) (hw : ∀ d ∈ tables_1, d.before a0 Z = true) (ws : List Jvm.Cond) (wINTEGER : Addr) (wDOUBLE : Addr) (wBOOLEAN : Addr) (wDEFAULTCAPACITY_EMPTY_ELEMENTDATA : Addr) (kwDEFAULTCAPACITY_EMPTY_ELEMENTDATA : ClassId) (hS : SS Z wINTEGER wDOUBLE wBOOLEAN wDEFAULTCAPACITY_EMPTY_ELEMENTDATA kwDEFAULTCAPACITY_EMPTY_ELEMENTDATA) (pa1 : Addr) (pa2 : Addr) (pa3 : Addr) (pa4 : Addr) (pa5 : Addr) (pa6 : Addr) (pk7 : ClassId) (pj8 : Int64) (pj9 : Int64) (pk10 : ClassId) (pi11 : Int32) (pi12 : Int32) (pi13 : Int32) (pk14 : ClassId) (pj15 : Int64) (pj16 : Int64) (pj17 : Int64) (pk18 : ClassId) (pi19 : Int32) (pi20 : Int32) (pk21 : ClassId) (h0 : Heap) (n0 : Nat) (O0 : Old Z n0 h0) (P1 : Fld Z h0 pa1 s9n "low" "[I" (.ref pa3)) (P2 : Fld Z h0 pa1 s9n "mask" "[J" (.ref pa4)) (P3 : Fld Z h0 pa1 s9n "shift" "[I" (.ref pa5)) (P4 : Fld Z h0 pa1 s9n "word" "[I" (.ref pa6)) (P6 : Arv Z h0 pa2 pk7 .long (4 : Int32) ([(.long pj8), (.long pj9), (.long pj8), (.long pj8)]) (.long 0)) (P8 : Arv Z h0 pa3 pk10 .int (3 : Int32) ([(.int pi11), (.int pi12), (.int pi13)]) (.int 0)) (P10 : Arv Z h0 pa4 pk14 .long (3 : Int32) ([(.long pj15), (.long pj16), (.long pj17)]) (.long 0)) (P12 : Arv Z h0 pa5 pk18 .int (3 : Int32) ([(.int 0), (.int pi19), (.int pi20)]) (.int 0)) (P14 : Arv Z h0 pa6 pk21 .int (3 : Int32) ([(.int 0), (.int 0), (.int 0)]) (.int 0)) :
    MetB l M24 prog_105_method_5_code 6 (some .int) ws (rmk 0 0 0 0) Z h0 #[(.ref pa1), (.ref pa2), (.int 1), (.int 1)] (Q_au24_10 Z wINTEGER wDOUBLE wBOOLEAN wDEFAULTCAPACITY_EMPTY_ELEMENTDATA kwDEFAULTCAPACITY_EMPTY_ELEMENTDATA pa1 pa2 pa3 pa4 pa5 pa6 pk7 pj8 pj9 pk10 pi11 pi12 pi13 pk14 pj15 pj16 pj17 pk18 pi19 pi20 pk21 h0 n0) := by
  refine own_body (plainFor_of_name pn_com_example_lanc_lanc_model_VariableLayout) ?_
  intro p e s m below meth c s₁ hx hby hml hown hnm hret0 hlk0 hZ X0 e0
  have N0 := Fr.nil n0
  have pre0 : ∀ t, Steps p.tables e below (s₁.setTop (mkF m 0 #[(vr pa1), (vr pa2), (vi 1), (vi 1), .unset, .unset] [])) t → Steps p.tables e below (s₁.setTop (entryFrame m #[(.ref pa1), (.ref pa2), (.int 1), (.int 1)] 6)) t := fun t k => castTop (ef_au24_10 m pa1 pa2 (1 : Int32) (1 : Int32)) k
  have hS0 := hS
  obtain ⟨S_wINTEGER, E_wINTEGER, S_wDOUBLE, E_wDOUBLE, S_wBOOLEAN, E_wBOOLEAN, F_ordinal_wINTEGER, F_ordinal_wDOUBLE, F_ordinal_wBOOLEAN, S_wDEFAULTCAPACITY_EMPTY_ELEMENTDATA, E_wDEFAULTCAPACITY_EMPTY_ELEMENTDATA, V_wDEFAULTCAPACITY_EMPTY_ELEMENTDATA⟩ := hS0
  obtain ⟨T1, X1, e1, st1⟩ := getF X0 hx hZ hown (host := "") (Or.inl (ow hw 125 rfl)) Via.refl e0 P4 (g := (mkF m 3 #[(vr pa1), (vr pa2), (vi 1), (vi 1), .unset, .unset] [(.ref pa1), (.int 1), (.ref pa2)])) rfl rfl (hb hby d24_3)
  obtain ⟨cl2, Ar2, qc2, Sz2, Nn2, Ha2, Gg2⟩ := (id P14)
  have hin2 : ¬ ((1 : Int32) < 0 ∨ cl2.slots.size ≤ ((1 : Int32)).toNatClampNeg) := inb_of Sz2 ⟨by decide, by decide⟩
  have hat2 : cl2.slots[((1 : Int32)).toNatClampNeg]? = some (.int 0) := Ha2.at hin2 rfl
  obtain ⟨cl3, Ar3, qc3, Sz3, Nn3, Ha3, Gg3⟩ := (id P6)
  have hin3 : ¬ ((1 : Int32) < 0 ∨ cl3.slots.size ≤ ((1 : Int32)).toNatClampNeg) := inb_of Sz3 ⟨by decide, by decide⟩
  have hat3 : cl3.slots[((1 : Int32)).toNatClampNeg]? = some (.long pj9) := Ha3.at hin3 rfl
  obtain ⟨T4, X4, e4, st4⟩ := getF X1 hx hZ hown (host := "") (Or.inl (ow hw 127 rfl)) Via.refl e1 P3 (g := (mkF m 11 #[(vr pa1), (vr pa2), (vi 1), (vi 1), .unset, .unset] [(.ref pa1), (.long pj9)])) rfl rfl (hb hby d24_11)
  obtain ⟨cl5, Ar5, qc5, Sz5, Nn5, Ha5, Gg5⟩ := (id P12)
  have hin5 : ¬ ((1 : Int32) < 0 ∨ cl5.slots.size ≤ ((1 : Int32)).toNatClampNeg) := inb_of Sz5 ⟨by decide, by decide⟩
  have hat5 : cl5.slots[((1 : Int32)).toNatClampNeg]? = some (.int pi19) := Ha5.at hin5 rfl
  obtain ⟨T6, X6, e6, st6⟩ := getF X4 hx hZ hown (host := "") (Or.inl (ow hw 130 rfl)) Via.refl e4 P2 (g := (mkF m 18 #[(vr pa1), (vr pa2), (vi 1), (vi 1), .unset, .unset] [(.ref pa1), (.long ((pj9.toUInt64 >>> (pi19 &&& 0x3f).toInt64.toUInt64).toInt64))])) rfl rfl (hb hby d24_18)
  obtain ⟨cl7, Ar7, qc7, Sz7, Nn7, Ha7, Gg7⟩ := (id P10)
  have hin7 : ¬ ((1 : Int32) < 0 ∨ cl7.slots.size ≤ ((1 : Int32)).toNatClampNeg) := inb_of Sz7 ⟨by decide, by decide⟩
  have hat7 : cl7.slots[((1 : Int32)).toNatClampNeg]? = some (.long pj16) := Ha7.at hin7 rfl
  obtain ⟨T8, X8, e8, st8⟩ := getF X6 hx hZ hown (host := "") (Or.inl (ow hw 123 rfl)) Via.refl e6 P1 (g := (mkF m 27 #[(vr pa1), (vr pa2), (vi 1), (vi 1), .val (.long (((pj9.toUInt64 >>> (pi19 &&& 0x3f).toInt64.toUInt64).toInt64) &&& pj16)), .second] [(.ref pa1)])) rfl rfl (hb hby d24_27)
  obtain ⟨cl9, Ar9, qc9, Sz9, Nn9, Ha9, Gg9⟩ := (id P8)
  have hin9 : ¬ ((1 : Int32) < 0 ∨ cl9.slots.size ≤ ((1 : Int32)).toNatClampNeg) := inb_of Sz9 ⟨by decide, by decide⟩
  have hat9 : cl9.slots[((1 : Int32)).toNatClampNeg]? = some (.int pi12) := Ha9.at hin9 rfl
  obtain ⟨fs, hr, hrun, hended, hW, hsame⟩ := X8.leave (v := some (.int (pi12 + ((((pj9.toUInt64 >>> (pi19 &&& 0x3f).toInt64.toUInt64).toInt64) &&& pj16).toInt32)))) (fun h => by rw [hret0] at h; cases h)
  refine ⟨_, _, pre0 _ ?_, hrun, hended, _, _, rfl, ?_, ⟨_, rfl⟩, hW, hsame.mono (by decide) (by decide)⟩
  · skip
    show Steps p.tables e below (s₁.setTop (mkF m 0 #[(vr pa1), (vr pa2), (vi 1), (vi 1), .unset, .unset] [])) _
    refine XS.aloadN X0.here hx rfl (hb hby d24_0) rfl rfl ?_
    refine XS.iloadN X0.here hx rfl (hb hby d24_1) rfl ?_
    refine XS.aloadN X0.here hx rfl (hb hby d24_2) rfl rfl ?_
    refine st1 _ ?_
    refine XS.iloadN X1.here hx rfl (hb hby d24_6) rfl ?_
    refine X1.iaload hx (j := (1 : Int32)) (v := (.int 0)) (by rw [e1]; exact Ar2.1) (State.isArrayOf_alike hZ.alike Ar2.2.1) Ar2.2.2 hin2 hat2 (g := (mkF m 7 #[(vr pa1), (vr pa2), (vi 1), (vi 1), .unset, .unset] [(.int 1), (.ref pa6), (.int 1), (.ref pa2)])) rfl rfl (hb hby d24_7) _ ?_
    show Steps p.tables e below (T1.setTop (mkF m 8 #[(vr pa1), (vr pa2), (vi 1), (vi 1), .unset, .unset] [(.int 0), (.int 1), (.ref pa2)])) _
    refine XS.iadd X1.here hx rfl (hb hby d24_8) rfl ?_
    refine X1.laload hx (j := (1 : Int32)) (v := (.long pj9)) (by rw [e1]; exact Ar3.1) (State.isArrayOf_alike hZ.alike Ar3.2.1) Ar3.2.2 hin3 hat3 (g := (mkF m 9 #[(vr pa1), (vr pa2), (vi 1), (vi 1), .unset, .unset] [(.int 1), (.ref pa2)])) rfl rfl (hb hby d24_9) _ ?_
    refine XS.aloadN X1.here hx rfl (hb hby d24_10) rfl rfl ?_
    refine st4 _ ?_
    refine XS.iloadN X4.here hx rfl (hb hby d24_14) rfl ?_
    refine X4.iaload hx (j := (1 : Int32)) (v := (.int pi19)) (by rw [e4]; exact Ar5.1) (State.isArrayOf_alike hZ.alike Ar5.2.1) Ar5.2.2 hin5 hat5 (g := (mkF m 15 #[(vr pa1), (vr pa2), (vi 1), (vi 1), .unset, .unset] [(.int 1), (.ref pa5), (.long pj9)])) rfl rfl (hb hby d24_15) _ ?_
    show Steps p.tables e below (T4.setTop (mkF m 16 #[(vr pa1), (vr pa2), (vi 1), (vi 1), .unset, .unset] [(.int pi19), (.long pj9)])) _
    refine XS.lushr X4.here hx rfl (hb hby d24_16) rfl ?_
    refine XS.aloadN X4.here hx rfl (hb hby d24_17) rfl rfl ?_
    refine st6 _ ?_
    refine XS.iloadN X6.here hx rfl (hb hby d24_21) rfl ?_
    refine X6.laload hx (j := (1 : Int32)) (v := (.long pj16)) (by rw [e6]; exact Ar7.1) (State.isArrayOf_alike hZ.alike Ar7.2.1) Ar7.2.2 hin7 hat7 (g := (mkF m 22 #[(vr pa1), (vr pa2), (vi 1), (vi 1), .unset, .unset] [(.int 1), (.ref pa4), (.long ((pj9.toUInt64 >>> (pi19 &&& 0x3f).toInt64.toUInt64).toInt64))])) rfl rfl (hb hby d24_22) _ ?_
    refine XS.land X6.here hx rfl (hb hby d24_23) rfl ?_
    show Steps p.tables e below (T6.setTop (mkF m 24 #[(vr pa1), (vr pa2), (vi 1), (vi 1), .unset, .unset] [(.long (((pj9.toUInt64 >>> (pi19 &&& 0x3f).toInt64.toUInt64).toInt64) &&& pj16))])) _
    refine XS.lstore X6.here hx rfl (hb hby d24_24) rfl (l' := #[(vr pa1), (vr pa2), (vi 1), (vi 1), .val (.long (((pj9.toUInt64 >>> (pi19 &&& 0x3f).toInt64.toUInt64).toInt64) &&& pj16)), .second]) rfl ?_
    refine XS.aloadN X6.here hx rfl (hb hby d24_26) rfl rfl ?_
    refine st8 _ ?_
    refine XS.iloadN X8.here hx rfl (hb hby d24_30) rfl ?_
    refine X8.iaload hx (j := (1 : Int32)) (v := (.int pi12)) (by rw [e8]; exact Ar9.1) (State.isArrayOf_alike hZ.alike Ar9.2.1) Ar9.2.2 hin9 hat9 (g := (mkF m 31 #[(vr pa1), (vr pa2), (vi 1), (vi 1), .val (.long (((pj9.toUInt64 >>> (pi19 &&& 0x3f).toInt64.toUInt64).toInt64) &&& pj16)), .second] [(.int 1), (.ref pa3)])) rfl rfl (hb hby d24_31) _ ?_
    refine XS.lload X8.here hx rfl (hb hby d24_32) rfl ?_
    show Steps p.tables e below (T8.setTop (mkF m 34 #[(vr pa1), (vr pa2), (vi 1), (vi 1), .val (.long (((pj9.toUInt64 >>> (pi19 &&& 0x3f).toInt64.toUInt64).toInt64) &&& pj16)), .second] [(.long (((pj9.toUInt64 >>> (pi19 &&& 0x3f).toInt64.toUInt64).toInt64) &&& pj16)), (.int pi12)])) _
    refine XS.l2i X8.here hx rfl (hb hby d24_34) rfl ?_
    refine XS.iadd X8.here hx rfl (hb hby d24_35) rfl ?_
    exact retI X8 hx hret0 (hb hby d24_36) hr
  · show Q_au24_10 Z wINTEGER wDOUBLE wBOOLEAN wDEFAULTCAPACITY_EMPTY_ELEMENTDATA kwDEFAULTCAPACITY_EMPTY_ELEMENTDATA pa1 pa2 pa3 pa4 pa5 pa6 pk7 pj8 pj9 pk10 pi11 pi12 pi13 pk14 pj15 pj16 pj17 pk18 pi19 pi20 pk21 h0 n0 _ T8.heap _
    rw [e8]
    exact ⟨rfl, N0, rfl⟩
theorem ef_au24_11 (m : MethodId) (x0 : Addr) (x1 : Addr) (x2 : Int32) (x3 : Int32)  : entryFrame m #[(.ref x0), (.ref x1), (.int x2), (.int x3)] 6 = mkF m 0 #[(vr x0), (vr x1), (vi x2), (vi x3), .unset, .unset] [] := by first | (simp [entryFrame, mkF, argsToLocals, Value.category]; done) | rfl
def Q_au24_11 (Z : State) (wINTEGER : Addr) (wDOUBLE : Addr) (wBOOLEAN : Addr) (wDEFAULTCAPACITY_EMPTY_ELEMENTDATA : Addr) (kwDEFAULTCAPACITY_EMPTY_ELEMENTDATA : ClassId) (pa1 : Addr) (pa2 : Addr) (pa3 : Addr) (pa4 : Addr) (pa5 : Addr) (pa6 : Addr) (pk7 : ClassId) (pj8 : Int64) (pj9 : Int64) (pk10 : ClassId) (pi11 : Int32) (pi12 : Int32) (pi13 : Int32) (pk14 : ClassId) (pj15 : Int64) (pj16 : Int64) (pj17 : Int64) (pk18 : ClassId) (pi19 : Int32) (pi20 : Int32) (pk21 : ClassId) (h0 : Heap) (n0 : Nat) (v : Option Value) (h : Heap) (L : List Loc) : Prop := v = some (.int (pi13 + ((((pj9.toUInt64 >>> (pi20 &&& 0x3f).toInt64.toUInt64).toInt64) &&& pj17).toInt32))) ∧ Fr n0 L ∧ h = h0
theorem au24_11 (l : Launch) (Z : State) (a0 : Array Value) (hw : ∀ d ∈ tables_1, d.before a0 Z = true) (ws : List Jvm.Cond) (wINTEGER : Addr) (wDOUBLE : Addr) (wBOOLEAN : Addr) (wDEFAULTCAPACITY_EMPTY_ELEMENTDATA : Addr) (kwDEFAULTCAPACITY_EMPTY_ELEMENTDATA : ClassId) (hS : SS Z wINTEGER wDOUBLE wBOOLEAN wDEFAULTCAPACITY_EMPTY_ELEMENTDATA kwDEFAULTCAPACITY_EMPTY_ELEMENTDATA) (pa1 : Addr) (pa2 : Addr) (pa3 : Addr) (pa4 : Addr) (pa5 : Addr) (pa6 : Addr) (pk7 : ClassId) (pj8 : Int64) (pj9 : Int64) (pk10 : ClassId) (pi11 : Int32) (pi12 : Int32) (pi13 : Int32) (pk14 : ClassId) (pj15 : Int64) (pj16 : Int64) (pj17 : Int64) (pk18 : ClassId) (pi19 : Int32) (pi20 : Int32) (pk21 : ClassId) (h0 : Heap) (n0 : Nat) (O0 : Old Z n0 h0) (P1 : Fld Z h0 pa1 s9n "low" "[I" (.ref pa3)) (P2 : Fld Z h0 pa1 s9n "mask" "[J" (.ref pa4)) (P3 : Fld Z h0 pa1 s9n "shift" "[I" (.ref pa5)) (P4 : Fld Z h0 pa1 s9n "word" "[I" (.ref pa6)) (P6 : Arv Z h0 pa2 pk7 .long (4 : Int32) ([(.long pj8), (.long pj9), (.long pj8), (.long pj8)]) (.long 0)) (P8 : Arv Z h0 pa3 pk10 .int (3 : Int32) ([(.int pi11), (.int pi12), (.int pi13)]) (.int 0)) (P10 : Arv Z h0 pa4 pk14 .long (3 : Int32) ([(.long pj15), (.long pj16), (.long pj17)]) (.long 0)) (P12 : Arv Z h0 pa5 pk18 .int (3 : Int32) ([(.int 0), (.int pi19), (.int pi20)]) (.int 0)) (P14 : Arv Z h0 pa6 pk21 .int (3 : Int32) ([(.int 0), (.int 0), (.int 0)]) (.int 0)) :
    MetB l M24 prog_105_method_5_code 6 (some .int) ws (rmk 0 0 0 0) Z h0 #[(.ref pa1), (.ref pa2), (.int 1), (.int 2)] (Q_au24_11 Z wINTEGER wDOUBLE wBOOLEAN wDEFAULTCAPACITY_EMPTY_ELEMENTDATA kwDEFAULTCAPACITY_EMPTY_ELEMENTDATA pa1 pa2 pa3 pa4 pa5 pa6 pk7 pj8 pj9 pk10 pi11 pi12 pi13 pk14 pj15 pj16 pj17 pk18 pi19 pi20 pk21 h0 n0) := by
  refine own_body (plainFor_of_name pn_com_example_lanc_lanc_model_VariableLayout) ?_
  intro p e s m below meth c s₁ hx hby hml hown hnm hret0 hlk0 hZ X0 e0
  have N0 := Fr.nil n0
  have pre0 : ∀ t, Steps p.tables e below (s₁.setTop (mkF m 0 #[(vr pa1), (vr pa2), (vi 1), (vi 2), .unset, .unset] [])) t → Steps p.tables e below (s₁.setTop (entryFrame m #[(.ref pa1), (.ref pa2), (.int 1), (.int 2)] 6)) t := fun t k => castTop (ef_au24_11 m pa1 pa2 (1 : Int32) (2 : Int32)) k
  have hS0 := hS
  obtain ⟨S_wINTEGER, E_wINTEGER, S_wDOUBLE, E_wDOUBLE, S_wBOOLEAN, E_wBOOLEAN, F_ordinal_wINTEGER, F_ordinal_wDOUBLE, F_ordinal_wBOOLEAN, S_wDEFAULTCAPACITY_EMPTY_ELEMENTDATA, E_wDEFAULTCAPACITY_EMPTY_ELEMENTDATA, V_wDEFAULTCAPACITY_EMPTY_ELEMENTDATA⟩ := hS0
  obtain ⟨T1, X1, e1, st1⟩ := getF X0 hx hZ hown (host := "") (Or.inl (ow hw 125 rfl)) Via.refl e0 P4 (g := (mkF m 3 #[(vr pa1), (vr pa2), (vi 1), (vi 2), .unset, .unset] [(.ref pa1), (.int 1), (.ref pa2)])) rfl rfl (hb hby d24_3)
  obtain ⟨cl2, Ar2, qc2, Sz2, Nn2, Ha2, Gg2⟩ := (id P14)
  have hin2 : ¬ ((2 : Int32) < 0 ∨ cl2.slots.size ≤ ((2 : Int32)).toNatClampNeg) := inb_of Sz2 ⟨by decide, by decide⟩
  have hat2 : cl2.slots[((2 : Int32)).toNatClampNeg]? = some (.int 0) := Ha2.at hin2 rfl
  obtain ⟨cl3, Ar3, qc3, Sz3, Nn3, Ha3, Gg3⟩ := (id P6)
  have hin3 : ¬ ((1 : Int32) < 0 ∨ cl3.slots.size ≤ ((1 : Int32)).toNatClampNeg) := inb_of Sz3 ⟨by decide, by decide⟩
  have hat3 : cl3.slots[((1 : Int32)).toNatClampNeg]? = some (.long pj9) := Ha3.at hin3 rfl
  obtain ⟨T4, X4, e4, st4⟩ := getF X1 hx hZ hown (host := "") (Or.inl (ow hw 127 rfl)) Via.refl e1 P3 (g := (mkF m 11 #[(vr pa1), (vr pa2), (vi 1), (vi 2), .unset, .unset] [(.ref pa1), (.long pj9)])) rfl rfl (hb hby d24_11)
  obtain ⟨cl5, Ar5, qc5, Sz5, Nn5, Ha5, Gg5⟩ := (id P12)
  have hin5 : ¬ ((2 : Int32) < 0 ∨ cl5.slots.size ≤ ((2 : Int32)).toNatClampNeg) := inb_of Sz5 ⟨by decide, by decide⟩
  have hat5 : cl5.slots[((2 : Int32)).toNatClampNeg]? = some (.int pi20) := Ha5.at hin5 rfl
  obtain ⟨T6, X6, e6, st6⟩ := getF X4 hx hZ hown (host := "") (Or.inl (ow hw 130 rfl)) Via.refl e4 P2 (g := (mkF m 18 #[(vr pa1), (vr pa2), (vi 1), (vi 2), .unset, .unset] [(.ref pa1), (.long ((pj9.toUInt64 >>> (pi20 &&& 0x3f).toInt64.toUInt64).toInt64))])) rfl rfl (hb hby d24_18)
  obtain ⟨cl7, Ar7, qc7, Sz7, Nn7, Ha7, Gg7⟩ := (id P10)
  have hin7 : ¬ ((2 : Int32) < 0 ∨ cl7.slots.size ≤ ((2 : Int32)).toNatClampNeg) := inb_of Sz7 ⟨by decide, by decide⟩
  have hat7 : cl7.slots[((2 : Int32)).toNatClampNeg]? = some (.long pj17) := Ha7.at hin7 rfl
  obtain ⟨T8, X8, e8, st8⟩ := getF X6 hx hZ hown (host := "") (Or.inl (ow hw 123 rfl)) Via.refl e6 P1 (g := (mkF m 27 #[(vr pa1), (vr pa2), (vi 1), (vi 2), .val (.long (((pj9.toUInt64 >>> (pi20 &&& 0x3f).toInt64.toUInt64).toInt64) &&& pj17)), .second] [(.ref pa1)])) rfl rfl (hb hby d24_27)
  obtain ⟨cl9, Ar9, qc9, Sz9, Nn9, Ha9, Gg9⟩ := (id P8)
  have hin9 : ¬ ((2 : Int32) < 0 ∨ cl9.slots.size ≤ ((2 : Int32)).toNatClampNeg) := inb_of Sz9 ⟨by decide, by decide⟩
  have hat9 : cl9.slots[((2 : Int32)).toNatClampNeg]? = some (.int pi13) := Ha9.at hin9 rfl
  obtain ⟨fs, hr, hrun, hended, hW, hsame⟩ := X8.leave (v := some (.int (pi13 + ((((pj9.toUInt64 >>> (pi20 &&& 0x3f).toInt64.toUInt64).toInt64) &&& pj17).toInt32)))) (fun h => by rw [hret0] at h; cases h)
  refine ⟨_, _, pre0 _ ?_, hrun, hended, _, _, rfl, ?_, ⟨_, rfl⟩, hW, hsame.mono (by decide) (by decide)⟩
  · skip
    show Steps p.tables e below (s₁.setTop (mkF m 0 #[(vr pa1), (vr pa2), (vi 1), (vi 2), .unset, .unset] [])) _
    refine XS.aloadN X0.here hx rfl (hb hby d24_0) rfl rfl ?_
    refine XS.iloadN X0.here hx rfl (hb hby d24_1) rfl ?_
    refine XS.aloadN X0.here hx rfl (hb hby d24_2) rfl rfl ?_
    refine st1 _ ?_
    refine XS.iloadN X1.here hx rfl (hb hby d24_6) rfl ?_
    refine X1.iaload hx (j := (2 : Int32)) (v := (.int 0)) (by rw [e1]; exact Ar2.1) (State.isArrayOf_alike hZ.alike Ar2.2.1) Ar2.2.2 hin2 hat2 (g := (mkF m 7 #[(vr pa1), (vr pa2), (vi 1), (vi 2), .unset, .unset] [(.int 2), (.ref pa6), (.int 1), (.ref pa2)])) rfl rfl (hb hby d24_7) _ ?_
    show Steps p.tables e below (T1.setTop (mkF m 8 #[(vr pa1), (vr pa2), (vi 1), (vi 2), .unset, .unset] [(.int 0), (.int 1), (.ref pa2)])) _
    refine XS.iadd X1.here hx rfl (hb hby d24_8) rfl ?_
    refine X1.laload hx (j := (1 : Int32)) (v := (.long pj9)) (by rw [e1]; exact Ar3.1) (State.isArrayOf_alike hZ.alike Ar3.2.1) Ar3.2.2 hin3 hat3 (g := (mkF m 9 #[(vr pa1), (vr pa2), (vi 1), (vi 2), .unset, .unset] [(.int 1), (.ref pa2)])) rfl rfl (hb hby d24_9) _ ?_
    refine XS.aloadN X1.here hx rfl (hb hby d24_10) rfl rfl ?_
    refine st4 _ ?_
    refine XS.iloadN X4.here hx rfl (hb hby d24_14) rfl ?_
    refine X4.iaload hx (j := (2 : Int32)) (v := (.int pi20)) (by rw [e4]; exact Ar5.1) (State.isArrayOf_alike hZ.alike Ar5.2.1) Ar5.2.2 hin5 hat5 (g := (mkF m 15 #[(vr pa1), (vr pa2), (vi 1), (vi 2), .unset, .unset] [(.int 2), (.ref pa5), (.long pj9)])) rfl rfl (hb hby d24_15) _ ?_
    show Steps p.tables e below (T4.setTop (mkF m 16 #[(vr pa1), (vr pa2), (vi 1), (vi 2), .unset, .unset] [(.int pi20), (.long pj9)])) _
    refine XS.lushr X4.here hx rfl (hb hby d24_16) rfl ?_
    refine XS.aloadN X4.here hx rfl (hb hby d24_17) rfl rfl ?_
    refine st6 _ ?_
    refine XS.iloadN X6.here hx rfl (hb hby d24_21) rfl ?_
    refine X6.laload hx (j := (2 : Int32)) (v := (.long pj17)) (by rw [e6]; exact Ar7.1) (State.isArrayOf_alike hZ.alike Ar7.2.1) Ar7.2.2 hin7 hat7 (g := (mkF m 22 #[(vr pa1), (vr pa2), (vi 1), (vi 2), .unset, .unset] [(.int 2), (.ref pa4), (.long ((pj9.toUInt64 >>> (pi20 &&& 0x3f).toInt64.toUInt64).toInt64))])) rfl rfl (hb hby d24_22) _ ?_
    refine XS.land X6.here hx rfl (hb hby d24_23) rfl ?_
    show Steps p.tables e below (T6.setTop (mkF m 24 #[(vr pa1), (vr pa2), (vi 1), (vi 2), .unset, .unset] [(.long (((pj9.toUInt64 >>> (pi20 &&& 0x3f).toInt64.toUInt64).toInt64) &&& pj17))])) _
    refine XS.lstore X6.here hx rfl (hb hby d24_24) rfl (l' := #[(vr pa1), (vr pa2), (vi 1), (vi 2), .val (.long (((pj9.toUInt64 >>> (pi20 &&& 0x3f).toInt64.toUInt64).toInt64) &&& pj17)), .second]) rfl ?_
    refine XS.aloadN X6.here hx rfl (hb hby d24_26) rfl rfl ?_
    refine st8 _ ?_
    refine XS.iloadN X8.here hx rfl (hb hby d24_30) rfl ?_
    refine X8.iaload hx (j := (2 : Int32)) (v := (.int pi13)) (by rw [e8]; exact Ar9.1) (State.isArrayOf_alike hZ.alike Ar9.2.1) Ar9.2.2 hin9 hat9 (g := (mkF m 31 #[(vr pa1), (vr pa2), (vi 1), (vi 2), .val (.long (((pj9.toUInt64 >>> (pi20 &&& 0x3f).toInt64.toUInt64).toInt64) &&& pj17)), .second] [(.int 2), (.ref pa3)])) rfl rfl (hb hby d24_31) _ ?_
    refine XS.lload X8.here hx rfl (hb hby d24_32) rfl ?_
    show Steps p.tables e below (T8.setTop (mkF m 34 #[(vr pa1), (vr pa2), (vi 1), (vi 2), .val (.long (((pj9.toUInt64 >>> (pi20 &&& 0x3f).toInt64.toUInt64).toInt64) &&& pj17)), .second] [(.long (((pj9.toUInt64 >>> (pi20 &&& 0x3f).toInt64.toUInt64).toInt64) &&& pj17)), (.int pi13)])) _
    refine XS.l2i X8.here hx rfl (hb hby d24_34) rfl ?_
    refine XS.iadd X8.here hx rfl (hb hby d24_35) rfl ?_
    exact retI X8 hx hret0 (hb hby d24_36) hr
  · show Q_au24_11 Z wINTEGER wDOUBLE wBOOLEAN wDEFAULTCAPACITY_EMPTY_ELEMENTDATA kwDEFAULTCAPACITY_EMPTY_ELEMENTDATA pa1 pa2 pa3 pa4 pa5 pa6 pk7 pj8 pj9 pk10 pi11 pi12 pi13 pk14 pj15 pj16 pj17 pk18 pi19 pi20 pk21 h0 n0 _ T8.heap _
    rw [e8]
    exact ⟨rfl, N0, rfl⟩
def Q_rm0 (Z : State) (wINTEGER : Addr) (wDOUBLE : Addr) (wBOOLEAN : Addr) (wDEFAULTCAPACITY_EMPTY_ELEMENTDATA : Addr) (kwDEFAULTCAPACITY_EMPTY_ELEMENTDATA : ClassId) (p0 : Int64) (p1 : Int64) (p2 : Int32) (p3 : Int32) (p4 : Int32) (p5 : Int32) (h0 : Heap) (n0 : Nat) (v : Option Value) (h : Heap) (L : List Loc) : Prop := v = some (.int 1) ∧ Fr n0 L
theorem rm0 (l : Launch) (Z : State) (a0 : Array Value) (hw : ∀ d ∈ tables_1, d.before a0 Z = true) (ws : List Jvm.Cond) (wINTEGER : Addr) (wDOUBLE : Addr) (wBOOLEAN : Addr) (wDEFAULTCAPACITY_EMPTY_ELEMENTDATA : Addr) (kwDEFAULTCAPACITY_EMPTY_ELEMENTDATA : ClassId) (hS : SS Z wINTEGER wDOUBLE wBOOLEAN wDEFAULTCAPACITY_EMPTY_ELEMENTDATA kwDEFAULTCAPACITY_EMPTY_ELEMENTDATA) (p0 : Int64) (p1 : Int64) (p2 : Int32) (p3 : Int32) (p4 : Int32) (p5 : Int32) (h0 : Heap) (n0 : Nat) (O0 : Old Z n0 h0)  :
    MetBW l x code maxLocals ret ws room_1 Z h0 #[(.long p0), (.long p1), (.int p2), (.int p3), (.int p4), (.int p5)] (Q_rm0 Z wINTEGER wDOUBLE wBOOLEAN wDEFAULTCAPACITY_EMPTY_ELEMENTDATA kwDEFAULTCAPACITY_EMPTY_ELEMENTDATA p0 p1 p2 p3 p4 p5 h0 n0) := by
  refine own_bodyW (plainFor_of_name pn_com_example_lanc_lanc_model_VariableLayoutValuePinLaw) ?_
  intro p e s m below meth c s₁ hx hby hml hown hnm hret0 hlk0 hZ X0 e0 hS1
  have N0 := Fr.nil n0
  have pre0 : ∀ t, Steps p.tables e below (s₁.setTop (mkF m 0 #[(vl p0), .second, (vl p1), .second, (vi p2), (vi p3), (vi p4), (vi p5), .unset, .unset, .unset, .unset, .unset, .unset, .unset, .unset, .unset, .unset, .unset, .unset, .unset, .unset, .unset, .unset, .unset, .unset, .unset, .unset, .unset, .unset, .unset, .unset, .unset, .unset, .unset, .unset, .unset, .unset, .unset, .unset] [])) t → Steps p.tables e below (s₁.setTop (entryFrame m #[(.long p0), (.long p1), (.int p2), (.int p3), (.int p4), (.int p5)] maxLocals)) t := fun t k => castTop (ef_rm0 m p0 p1 p2 p3 p4 p5) k
  have hS0 := hS
  obtain ⟨S_wINTEGER, E_wINTEGER, S_wDOUBLE, E_wDOUBLE, S_wBOOLEAN, E_wBOOLEAN, F_ordinal_wINTEGER, F_ordinal_wDOUBLE, F_ordinal_wBOOLEAN, S_wDEFAULTCAPACITY_EMPTY_ELEMENTDATA, E_wDEFAULTCAPACITY_EMPTY_ELEMENTDATA, V_wDEFAULTCAPACITY_EMPTY_ELEMENTDATA⟩ := hS0
  obtain ⟨k0, hk0⟩ : ∃ z : Int32, z = ((p5 &&& (63 : Int32)) % (33 : Int32)) := ⟨_, rfl⟩
  have pre1 : ∀ t, Steps p.tables e below (s₁.setTop (mkF m 10 #[(vl p0), .second, (vl p1), .second, (vi p2), (vi p3), (vi p4), (vi p5), (vi k0), .unset, .unset, .unset, .unset, .unset, .unset, .unset, .unset, .unset, .unset, .unset, .unset, .unset, .unset, .unset, .unset, .unset, .unset, .unset, .unset, .unset, .unset, .unset, .unset, .unset, .unset, .unset, .unset, .unset, .unset, .unset] [])) t → Steps p.tables e below (s₁.setTop (entryFrame m #[(.long p0), (.long p1), (.int p2), (.int p3), (.int p4), (.int p5)] maxLocals)) t := by
    intro t k
    rw [hk0] at k
    refine pre0 t ?_
    show Steps p.tables e below (s₁.setTop (mkF m 0 #[(vl p0), .second, (vl p1), .second, (vi p2), (vi p3), (vi p4), (vi p5), .unset, .unset, .unset, .unset, .unset, .unset, .unset, .unset, .unset, .unset, .unset, .unset, .unset, .unset, .unset, .unset, .unset, .unset, .unset, .unset, .unset, .unset, .unset, .unset, .unset, .unset, .unset, .unset, .unset, .unset, .unset, .unset] [])) _
    refine XS.iload X0.here hx rfl (hb hby at_0) rfl ?_
    refine XS.bipush X0.here hx rfl (hb hby at_2) ?_
    refine XS.iand X0.here hx rfl (hb hby at_4) rfl ?_
    refine XS.bipush X0.here hx rfl (hb hby at_5) ?_
    refine iremM X0 hx rfl (hb hby at_7) rfl (by decide) ?_
    refine XS.istore X0.here hx rfl (hb hby at_8) rfl (l' := #[(vl p0), .second, (vl p1), .second, (vi p2), (vi p3), (vi p4), (vi p5), .val (.int ((p5 &&& (63 : Int32)) % (33 : Int32))), .unset, .unset, .unset, .unset, .unset, .unset, .unset, .unset, .unset, .unset, .unset, .unset, .unset, .unset, .unset, .unset, .unset, .unset, .unset, .unset, .unset, .unset, .unset, .unset, .unset, .unset, .unset, .unset, .unset, .unset, .unset]) rfl ?_
    exact k
  obtain ⟨k1, hk1⟩ : ∃ z : Int32, z = ((((p5.toUInt32 >>> ((6 : Int32) &&& 31).toUInt32).toInt32) &&& (63 : Int32)) % (33 : Int32)) := ⟨_, rfl⟩
  have pre2 : ∀ t, Steps p.tables e below (s₁.setTop (mkF m 23 #[(vl p0), .second, (vl p1), .second, (vi p2), (vi p3), (vi p4), (vi p5), (vi k0), (vi k1), .unset, .unset, .unset, .unset, .unset, .unset, .unset, .unset, .unset, .unset, .unset, .unset, .unset, .unset, .unset, .unset, .unset, .unset, .unset, .unset, .unset, .unset, .unset, .unset, .unset, .unset, .unset, .unset, .unset, .unset] [])) t → Steps p.tables e below (s₁.setTop (entryFrame m #[(.long p0), (.long p1), (.int p2), (.int p3), (.int p4), (.int p5)] maxLocals)) t := by
    intro t k
    rw [hk1] at k
    refine pre1 t ?_
    show Steps p.tables e below (s₁.setTop (mkF m 10 #[(vl p0), .second, (vl p1), .second, (vi p2), (vi p3), (vi p4), (vi p5), (vi k0), .unset, .unset, .unset, .unset, .unset, .unset, .unset, .unset, .unset, .unset, .unset, .unset, .unset, .unset, .unset, .unset, .unset, .unset, .unset, .unset, .unset, .unset, .unset, .unset, .unset, .unset, .unset, .unset, .unset, .unset, .unset] [])) _
    refine XS.iload X0.here hx rfl (hb hby at_10) rfl ?_
    refine XS.bipush X0.here hx rfl (hb hby at_12) ?_
    refine XS.iushr X0.here hx rfl (hb hby at_14) rfl ?_
    refine XS.bipush X0.here hx rfl (hb hby at_15) ?_
    refine XS.iand X0.here hx rfl (hb hby at_17) rfl ?_
    refine XS.bipush X0.here hx rfl (hb hby at_18) ?_
    show Steps p.tables e below (s₁.setTop (mkF m 20 #[(vl p0), .second, (vl p1), .second, (vi p2), (vi p3), (vi p4), (vi p5), (vi k0), .unset, .unset, .unset, .unset, .unset, .unset, .unset, .unset, .unset, .unset, .unset, .unset, .unset, .unset, .unset, .unset, .unset, .unset, .unset, .unset, .unset, .unset, .unset, .unset, .unset, .unset, .unset, .unset, .unset, .unset, .unset] [(.int 33), (.int (((p5.toUInt32 >>> ((6 : Int32) &&& 31).toUInt32).toInt32) &&& (63 : Int32)))])) _
    refine iremM X0 hx rfl (hb hby at_20) rfl (by decide) ?_
    refine XS.istore X0.here hx rfl (hb hby at_21) rfl (l' := #[(vl p0), .second, (vl p1), .second, (vi p2), (vi p3), (vi p4), (vi p5), (vi k0), .val (.int ((((p5.toUInt32 >>> ((6 : Int32) &&& 31).toUInt32).toInt32) &&& (63 : Int32)) % (33 : Int32))), .unset, .unset, .unset, .unset, .unset, .unset, .unset, .unset, .unset, .unset, .unset, .unset, .unset, .unset, .unset, .unset, .unset, .unset, .unset, .unset, .unset, .unset, .unset, .unset, .unset, .unset, .unset, .unset, .unset, .unset]) rfl ?_
    exact k
  obtain ⟨k2, hk2⟩ : ∃ z : Int32, z = ((((p5.toUInt32 >>> ((12 : Int32) &&& 31).toUInt32).toInt32) &&& (63 : Int32)) % (33 : Int32)) := ⟨_, rfl⟩
  have pre3 : ∀ t, Steps p.tables e below (s₁.setTop (mkF m 36 #[(vl p0), .second, (vl p1), .second, (vi p2), (vi p3), (vi p4), (vi p5), (vi k0), (vi k1), (vi k2), .unset, .unset, .unset, .unset, .unset, .unset, .unset, .unset, .unset, .unset, .unset, .unset, .unset, .unset, .unset, .unset, .unset, .unset, .unset, .unset, .unset, .unset, .unset, .unset, .unset, .unset, .unset, .unset, .unset] [])) t → Steps p.tables e below (s₁.setTop (entryFrame m #[(.long p0), (.long p1), (.int p2), (.int p3), (.int p4), (.int p5)] maxLocals)) t := by
    intro t k
    rw [hk2] at k
    refine pre2 t ?_
    show Steps p.tables e below (s₁.setTop (mkF m 23 #[(vl p0), .second, (vl p1), .second, (vi p2), (vi p3), (vi p4), (vi p5), (vi k0), (vi k1), .unset, .unset, .unset, .unset, .unset, .unset, .unset, .unset, .unset, .unset, .unset, .unset, .unset, .unset, .unset, .unset, .unset, .unset, .unset, .unset, .unset, .unset, .unset, .unset, .unset, .unset, .unset, .unset, .unset, .unset] [])) _
    refine XS.iload X0.here hx rfl (hb hby at_23) rfl ?_
    refine XS.bipush X0.here hx rfl (hb hby at_25) ?_
    refine XS.iushr X0.here hx rfl (hb hby at_27) rfl ?_
    refine XS.bipush X0.here hx rfl (hb hby at_28) ?_
    refine XS.iand X0.here hx rfl (hb hby at_30) rfl ?_
    refine XS.bipush X0.here hx rfl (hb hby at_31) ?_
    show Steps p.tables e below (s₁.setTop (mkF m 33 #[(vl p0), .second, (vl p1), .second, (vi p2), (vi p3), (vi p4), (vi p5), (vi k0), (vi k1), .unset, .unset, .unset, .unset, .unset, .unset, .unset, .unset, .unset, .unset, .unset, .unset, .unset, .unset, .unset, .unset, .unset, .unset, .unset, .unset, .unset, .unset, .unset, .unset, .unset, .unset, .unset, .unset, .unset, .unset] [(.int 33), (.int (((p5.toUInt32 >>> ((12 : Int32) &&& 31).toUInt32).toInt32) &&& (63 : Int32)))])) _
    refine iremM X0 hx rfl (hb hby at_33) rfl (by decide) ?_
    refine XS.istore X0.here hx rfl (hb hby at_34) rfl (l' := #[(vl p0), .second, (vl p1), .second, (vi p2), (vi p3), (vi p4), (vi p5), (vi k0), (vi k1), .val (.int ((((p5.toUInt32 >>> ((12 : Int32) &&& 31).toUInt32).toInt32) &&& (63 : Int32)) % (33 : Int32))), .unset, .unset, .unset, .unset, .unset, .unset, .unset, .unset, .unset, .unset, .unset, .unset, .unset, .unset, .unset, .unset, .unset, .unset, .unset, .unset, .unset, .unset, .unset, .unset, .unset, .unset, .unset, .unset, .unset]) rfl ?_
    exact k
  obtain ⟨yo, hyo⟩ : ∃ z : Int32, z = (((p5.toUInt32 >>> ((18 : Int32) &&& 31).toUInt32).toInt32) &&& (1 : Int32)) := ⟨_, rfl⟩
  have pre4 : ∀ t, Steps p.tables e below (s₁.setTop (mkF m 45 #[(vl p0), .second, (vl p1), .second, (vi p2), (vi p3), (vi p4), (vi p5), (vi k0), (vi k1), (vi k2), (vi yo), .unset, .unset, .unset, .unset, .unset, .unset, .unset, .unset, .unset, .unset, .unset, .unset, .unset, .unset, .unset, .unset, .unset, .unset, .unset, .unset, .unset, .unset, .unset, .unset, .unset, .unset, .unset, .unset] [])) t → Steps p.tables e below (s₁.setTop (entryFrame m #[(.long p0), (.long p1), (.int p2), (.int p3), (.int p4), (.int p5)] maxLocals)) t := by
    intro t k
    rw [hyo] at k
    refine pre3 t ?_
    show Steps p.tables e below (s₁.setTop (mkF m 36 #[(vl p0), .second, (vl p1), .second, (vi p2), (vi p3), (vi p4), (vi p5), (vi k0), (vi k1), (vi k2), .unset, .unset, .unset, .unset, .unset, .unset, .unset, .unset, .unset, .unset, .unset, .unset, .unset, .unset, .unset, .unset, .unset, .unset, .unset, .unset, .unset, .unset, .unset, .unset, .unset, .unset, .unset, .unset, .unset] [])) _
    refine XS.iload X0.here hx rfl (hb hby at_36) rfl ?_
    refine XS.bipush X0.here hx rfl (hb hby at_38) ?_
    refine XS.iushr X0.here hx rfl (hb hby at_40) rfl ?_
    refine XS.iconst X0.here hx rfl (hb hby at_41) ?_
    refine XS.iand X0.here hx rfl (hb hby at_42) rfl ?_
    refine XS.istore X0.here hx rfl (hb hby at_43) rfl (l' := #[(vl p0), .second, (vl p1), .second, (vi p2), (vi p3), (vi p4), (vi p5), (vi k0), (vi k1), (vi k2), .val (.int (((p5.toUInt32 >>> ((18 : Int32) &&& 31).toUInt32).toInt32) &&& (1 : Int32))), .unset, .unset, .unset, .unset, .unset, .unset, .unset, .unset, .unset, .unset, .unset, .unset, .unset, .unset, .unset, .unset, .unset, .unset, .unset, .unset, .unset, .unset, .unset, .unset, .unset, .unset, .unset, .unset]) rfl ?_
    exact k
  have hK0 : inK k0 := by rw [hk0]; exact own_inK _
  have hK1 : inK k1 := by rw [hk1]; exact own_inK _
  have hK2 : inK k2 := by rw [hk2]; exact own_inK _
  have ho01 : yo = (0 : Int32) ∨ yo = (1 : Int32) := by rw [hyo]; exact and_one _
  obtain ⟨_, _, ⟨T5, L5, k5, n5⟩, -, X5, ⟨Lc5, hQ5, l5, y5, z5⟩, st5⟩ := Jvm.LawKit.callS X0 hx (y := M0) hown (mvT hZ (ow hw 0 rfl)) (mvT hZ (ow hw 1 rfl)) (mvT hZ (ow hw 2 rfl)) (mvT hZ (ow hw 3 rfl)) (by decide) (backOf (W := 0) (rmOnes l Z a0 hw [] wINTEGER wDOUBLE wBOOLEAN wDEFAULTCAPACITY_EMPTY_ELEMENTDATA kwDEFAULTCAPACITY_EMPTY_ELEMENTDATA hS k0 h0 n0 O0 ) hZ (ow hw 3 rfl) (ow hw 2 rfl) (by decide) (by decide)) (g := (mkF m 47 #[(vl p0), .second, (vl p1), .second, (vi p2), (vi p3), (vi p4), (vi p5), (vi k0), (vi k1), (vi k2), (vi yo), .unset, .unset, .unset, .unset, .unset, .unset, .unset, .unset, .unset, .unset, .unset, .unset, .unset, .unset, .unset, .unset, .unset, .unset, .unset, .unset, .unset, .unset, .unset, .unset, .unset, .unset, .unset, .unset] [(.int k0)])) rfl (by rw [hml]; rfl) (argsL := [(.int k0)]) (rest := []) (lenOf pd_1 rfl) rfl (by show 2 * 0 + _ ≤ _; exact Nat.le_of_eq rfl) (hb hby at_47) (fun _ _ => ⟨rfl, e0, (by decide : 0 + 0 ≤ _), (by decide : 0 + 0 ≤ _)⟩)
  dsimp only [Pt.U, Pt.locs, Pt.cells, Pt.slots] at X5 l5 y5 z5 st5 hQ5
  subst y5 z5
  obtain ⟨r_5, rfl, Nq5, K5q, p5_0⟩ := hQ5
  have N5 : Fr n0 L5 := (congrArg (Fr n0) l5).mpr (Fr.app N0 Nq5)
  obtain ⟨_, _, ⟨T6, L6, k6, n6⟩, -, X6, ⟨Lc6, hQ6, l6, y6, z6⟩, st6⟩ := Jvm.LawKit.callS X5 hx (y := M0) hown (mvT hZ (ow hw 0 rfl)) (mvT hZ (ow hw 1 rfl)) (mvT hZ (ow hw 2 rfl)) (mvT hZ (ow hw 3 rfl)) (by decide) (backOf (W := 0) (rmOnes l Z a0 hw [] wINTEGER wDOUBLE wBOOLEAN wDEFAULTCAPACITY_EMPTY_ELEMENTDATA kwDEFAULTCAPACITY_EMPTY_ELEMENTDATA hS k1 h0 n0 O0 ) hZ (ow hw 3 rfl) (ow hw 2 rfl) (by decide) (by decide)) (g := (mkF m 54 #[(vl p0), .second, (vl p1), .second, (vi p2), (vi p3), (vi p4), (vi p5), (vi k0), (vi k1), (vi k2), (vi yo), (vl r_5), .second, .unset, .unset, .unset, .unset, .unset, .unset, .unset, .unset, .unset, .unset, .unset, .unset, .unset, .unset, .unset, .unset, .unset, .unset, .unset, .unset, .unset, .unset, .unset, .unset, .unset, .unset] [(.int k1)])) rfl (by rw [hml]; rfl) (argsL := [(.int k1)]) (rest := []) (lenOf pd_1 rfl) rfl (by show 2 * 0 + _ ≤ _; exact Nat.le_of_eq rfl) (hb hby at_54) (fun _ _ => ⟨rfl, K5q, (by decide : 0 + 0 ≤ _), (by decide : 0 + 0 ≤ _)⟩)
  dsimp only [Pt.U, Pt.locs, Pt.cells, Pt.slots] at X6 l6 y6 z6 st6 hQ6
  subst y6 z6
  obtain ⟨r_6, rfl, Nq6, K6q, p6_0⟩ := hQ6
  have N6 : Fr n0 L6 := (congrArg (Fr n0) l6).mpr (Fr.app N5 Nq6)
  obtain ⟨_, _, ⟨T7, L7, k7, n7⟩, -, X7, ⟨Lc7, hQ7, l7, y7, z7⟩, st7⟩ := Jvm.LawKit.callS X6 hx (y := M0) hown (mvT hZ (ow hw 0 rfl)) (mvT hZ (ow hw 1 rfl)) (mvT hZ (ow hw 2 rfl)) (mvT hZ (ow hw 3 rfl)) (by decide) (backOf (W := 0) (rmOnes l Z a0 hw [] wINTEGER wDOUBLE wBOOLEAN wDEFAULTCAPACITY_EMPTY_ELEMENTDATA kwDEFAULTCAPACITY_EMPTY_ELEMENTDATA hS k2 h0 n0 O0 ) hZ (ow hw 3 rfl) (ow hw 2 rfl) (by decide) (by decide)) (g := (mkF m 61 #[(vl p0), .second, (vl p1), .second, (vi p2), (vi p3), (vi p4), (vi p5), (vi k0), (vi k1), (vi k2), (vi yo), (vl r_5), .second, (vl r_6), .second, .unset, .unset, .unset, .unset, .unset, .unset, .unset, .unset, .unset, .unset, .unset, .unset, .unset, .unset, .unset, .unset, .unset, .unset, .unset, .unset, .unset, .unset, .unset, .unset] [(.int k2)])) rfl (by rw [hml]; rfl) (argsL := [(.int k2)]) (rest := []) (lenOf pd_1 rfl) rfl (by show 2 * 0 + _ ≤ _; exact Nat.le_of_eq rfl) (hb hby at_61) (fun _ _ => ⟨rfl, K6q, (by decide : 0 + 0 ≤ _), (by decide : 0 + 0 ≤ _)⟩)
  dsimp only [Pt.U, Pt.locs, Pt.cells, Pt.slots] at X7 l7 y7 z7 st7 hQ7
  subst y7 z7
  obtain ⟨r_7, rfl, Nq7, K7q, p7_0⟩ := hQ7
  have N7 : Fr n0 L7 := (congrArg (Fr n0) l7).mpr (Fr.app N6 Nq7)
  obtain ⟨_, _, ⟨T8, L8, k8, n8⟩, -, X8, ⟨Lc8, hQ8, l8, y8, z8⟩, st8⟩ := Jvm.LawKit.callS X7 hx (y := M1) hown (mvT hZ (ow hw 5 rfl)) (mvT hZ (ow hw 6 rfl)) (mvT hZ (ow hw 7 rfl)) (mvT hZ (ow hw 8 rfl)) (by decide) (backOf (W := 0) (rmMin l Z a0 hw [] wINTEGER wDOUBLE wBOOLEAN wDEFAULTCAPACITY_EMPTY_ELEMENTDATA kwDEFAULTCAPACITY_EMPTY_ELEMENTDATA hS (p2.toInt64) ((2147483647 : Int64) - r_5) h0 n0 O0 ) hZ (ow hw 8 rfl) (ow hw 7 rfl) (by decide) (by decide)) (g := (mkF m 75 #[(vl p0), .second, (vl p1), .second, (vi p2), (vi p3), (vi p4), (vi p5), (vi k0), (vi k1), (vi k2), (vi yo), (vl r_5), .second, (vl r_6), .second, (vl r_7), .second, .unset, .unset, .unset, .unset, .unset, .unset, .unset, .unset, .unset, .unset, .unset, .unset, .unset, .unset, .unset, .unset, .unset, .unset, .unset, .unset, .unset, .unset] [(.long ((2147483647 : Int64) - r_5)), (.long (p2.toInt64))])) rfl (by rw [hml]; rfl) (argsL := [(.long (p2.toInt64)), (.long ((2147483647 : Int64) - r_5))]) (rest := []) (lenOf pd_2 rfl) rfl (by show 2 * 0 + _ ≤ _; exact Nat.le_of_eq rfl) (hb hby at_75) (fun _ _ => ⟨rfl, K7q, (by decide : 0 + 0 ≤ _), (by decide : 0 + 0 ≤ _)⟩)
  dsimp only [Pt.U, Pt.locs, Pt.cells, Pt.slots] at X8 l8 y8 z8 st8 hQ8
  subst y8 z8
  obtain ⟨r_8, rfl, Nq8, K8q, p8_0⟩ := hQ8
  have N8 : Fr n0 L8 := (congrArg (Fr n0) l8).mpr (Fr.app N7 Nq8)
  obtain ⟨_, _, ⟨T9, L9, k9, n9⟩, -, X9, ⟨Lc9, hQ9, l9, y9, z9⟩, st9⟩ := Jvm.LawKit.callS X8 hx (y := M1) hown (mvT hZ (ow hw 5 rfl)) (mvT hZ (ow hw 6 rfl)) (mvT hZ (ow hw 7 rfl)) (mvT hZ (ow hw 8 rfl)) (by decide) (backOf (W := 0) (rmMin l Z a0 hw [] wINTEGER wDOUBLE wBOOLEAN wDEFAULTCAPACITY_EMPTY_ELEMENTDATA kwDEFAULTCAPACITY_EMPTY_ELEMENTDATA hS (p3.toInt64) ((2147483647 : Int64) - r_6) h0 n0 O0 ) hZ (ow hw 8 rfl) (ow hw 7 rfl) (by decide) (by decide)) (g := (mkF m 89 #[(vl p0), .second, (vl p1), .second, (vi p2), (vi p3), (vi p4), (vi p5), (vi k0), (vi k1), (vi k2), (vi yo), (vl r_5), .second, (vl r_6), .second, (vl r_7), .second, (vl r_8), .second, .unset, .unset, .unset, .unset, .unset, .unset, .unset, .unset, .unset, .unset, .unset, .unset, .unset, .unset, .unset, .unset, .unset, .unset, .unset, .unset] [(.long ((2147483647 : Int64) - r_6)), (.long (p3.toInt64))])) rfl (by rw [hml]; rfl) (argsL := [(.long (p3.toInt64)), (.long ((2147483647 : Int64) - r_6))]) (rest := []) (lenOf pd_2 rfl) rfl (by show 2 * 0 + _ ≤ _; exact Nat.le_of_eq rfl) (hb hby at_89) (fun _ _ => ⟨rfl, K8q, (by decide : 0 + 0 ≤ _), (by decide : 0 + 0 ≤ _)⟩)
  dsimp only [Pt.U, Pt.locs, Pt.cells, Pt.slots] at X9 l9 y9 z9 st9 hQ9
  subst y9 z9
  obtain ⟨r_9, rfl, Nq9, K9q, p9_0⟩ := hQ9
  have N9 : Fr n0 L9 := (congrArg (Fr n0) l9).mpr (Fr.app N8 Nq9)
  obtain ⟨_, _, ⟨T10, L10, k10, n10⟩, -, X10, ⟨Lc10, hQ10, l10, y10, z10⟩, st10⟩ := Jvm.LawKit.callS X9 hx (y := M1) hown (mvT hZ (ow hw 5 rfl)) (mvT hZ (ow hw 6 rfl)) (mvT hZ (ow hw 7 rfl)) (mvT hZ (ow hw 8 rfl)) (by decide) (backOf (W := 0) (rmMin l Z a0 hw [] wINTEGER wDOUBLE wBOOLEAN wDEFAULTCAPACITY_EMPTY_ELEMENTDATA kwDEFAULTCAPACITY_EMPTY_ELEMENTDATA hS (p4.toInt64) ((2147483647 : Int64) - r_7) h0 n0 O0 ) hZ (ow hw 8 rfl) (ow hw 7 rfl) (by decide) (by decide)) (g := (mkF m 103 #[(vl p0), .second, (vl p1), .second, (vi p2), (vi p3), (vi p4), (vi p5), (vi k0), (vi k1), (vi k2), (vi yo), (vl r_5), .second, (vl r_6), .second, (vl r_7), .second, (vl r_8), .second, (vl r_9), .second, .unset, .unset, .unset, .unset, .unset, .unset, .unset, .unset, .unset, .unset, .unset, .unset, .unset, .unset, .unset, .unset, .unset, .unset] [(.long ((2147483647 : Int64) - r_7)), (.long (p4.toInt64))])) rfl (by rw [hml]; rfl) (argsL := [(.long (p4.toInt64)), (.long ((2147483647 : Int64) - r_7))]) (rest := []) (lenOf pd_2 rfl) rfl (by show 2 * 0 + _ ≤ _; exact Nat.le_of_eq rfl) (hb hby at_103) (fun _ _ => ⟨rfl, K9q, (by decide : 0 + 0 ≤ _), (by decide : 0 + 0 ≤ _)⟩)
  dsimp only [Pt.U, Pt.locs, Pt.cells, Pt.slots] at X10 l10 y10 z10 st10 hQ10
  subst y10 z10
  obtain ⟨r_10, rfl, Nq10, K10q, p10_0⟩ := hQ10
  have N10 : Fr n0 L10 := (congrArg (Fr n0) l10).mpr (Fr.app N9 Nq10)
  obtain ⟨f0, hf0⟩ : ∃ z : Int64, z = (p0 &&& r_5) := ⟨_, rfl⟩
  have pre11 : ∀ t, Steps p.tables e below (T10.setTop (mkF m 114 #[(vl p0), .second, (vl p1), .second, (vi p2), (vi p3), (vi p4), (vi p5), (vi k0), (vi k1), (vi k2), (vi yo), (vl r_5), .second, (vl r_6), .second, (vl r_7), .second, (vl r_8), .second, (vl r_9), .second, (vl r_10), .second, (vl f0), .second, .unset, .unset, .unset, .unset, .unset, .unset, .unset, .unset, .unset, .unset, .unset, .unset, .unset, .unset] [])) t → Steps p.tables e below (s₁.setTop (entryFrame m #[(.long p0), (.long p1), (.int p2), (.int p3), (.int p4), (.int p5)] maxLocals)) t := by
    intro t k
    rw [hf0] at k
    refine pre4 t ?_
    show Steps p.tables e below (s₁.setTop (mkF m 45 #[(vl p0), .second, (vl p1), .second, (vi p2), (vi p3), (vi p4), (vi p5), (vi k0), (vi k1), (vi k2), (vi yo), .unset, .unset, .unset, .unset, .unset, .unset, .unset, .unset, .unset, .unset, .unset, .unset, .unset, .unset, .unset, .unset, .unset, .unset, .unset, .unset, .unset, .unset, .unset, .unset, .unset, .unset, .unset, .unset] [])) _
    refine XS.iload X0.here hx rfl (hb hby at_45) rfl ?_
    refine st5 _ ?_
    refine XS.lstore X5.here hx rfl (hb hby at_50) rfl (l' := #[(vl p0), .second, (vl p1), .second, (vi p2), (vi p3), (vi p4), (vi p5), (vi k0), (vi k1), (vi k2), (vi yo), (vl r_5), .second, .unset, .unset, .unset, .unset, .unset, .unset, .unset, .unset, .unset, .unset, .unset, .unset, .unset, .unset, .unset, .unset, .unset, .unset, .unset, .unset, .unset, .unset, .unset, .unset, .unset, .unset]) rfl ?_
    refine XS.iload X5.here hx rfl (hb hby at_52) rfl ?_
    refine st6 _ ?_
    refine XS.lstore X6.here hx rfl (hb hby at_57) rfl (l' := #[(vl p0), .second, (vl p1), .second, (vi p2), (vi p3), (vi p4), (vi p5), (vi k0), (vi k1), (vi k2), (vi yo), (vl r_5), .second, (vl r_6), .second, .unset, .unset, .unset, .unset, .unset, .unset, .unset, .unset, .unset, .unset, .unset, .unset, .unset, .unset, .unset, .unset, .unset, .unset, .unset, .unset, .unset, .unset, .unset, .unset]) rfl ?_
    show Steps p.tables e below (T6.setTop (mkF m 59 #[(vl p0), .second, (vl p1), .second, (vi p2), (vi p3), (vi p4), (vi p5), (vi k0), (vi k1), (vi k2), (vi yo), (vl r_5), .second, (vl r_6), .second, .unset, .unset, .unset, .unset, .unset, .unset, .unset, .unset, .unset, .unset, .unset, .unset, .unset, .unset, .unset, .unset, .unset, .unset, .unset, .unset, .unset, .unset, .unset, .unset] [])) _
    refine XS.iload X6.here hx rfl (hb hby at_59) rfl ?_
    refine st7 _ ?_
    refine XS.lstore X7.here hx rfl (hb hby at_64) rfl (l' := #[(vl p0), .second, (vl p1), .second, (vi p2), (vi p3), (vi p4), (vi p5), (vi k0), (vi k1), (vi k2), (vi yo), (vl r_5), .second, (vl r_6), .second, (vl r_7), .second, .unset, .unset, .unset, .unset, .unset, .unset, .unset, .unset, .unset, .unset, .unset, .unset, .unset, .unset, .unset, .unset, .unset, .unset, .unset, .unset, .unset, .unset]) rfl ?_
    refine XS.iload X7.here hx rfl (hb hby at_66) rfl ?_
    refine XS.i2l X7.here hx rfl (hb hby at_68) rfl ?_
    refine X7.ldc2Long hx hown (mvT hZ (ow hw 4 rfl)) (g := (mkF m 69 #[(vl p0), .second, (vl p1), .second, (vi p2), (vi p3), (vi p4), (vi p5), (vi k0), (vi k1), (vi k2), (vi yo), (vl r_5), .second, (vl r_6), .second, (vl r_7), .second, .unset, .unset, .unset, .unset, .unset, .unset, .unset, .unset, .unset, .unset, .unset, .unset, .unset, .unset, .unset, .unset, .unset, .unset, .unset, .unset, .unset, .unset] [(.long (p2.toInt64))])) rfl (hb hby at_69) _ ?_
    show Steps p.tables e below (T7.setTop (mkF m 72 #[(vl p0), .second, (vl p1), .second, (vi p2), (vi p3), (vi p4), (vi p5), (vi k0), (vi k1), (vi k2), (vi yo), (vl r_5), .second, (vl r_6), .second, (vl r_7), .second, .unset, .unset, .unset, .unset, .unset, .unset, .unset, .unset, .unset, .unset, .unset, .unset, .unset, .unset, .unset, .unset, .unset, .unset, .unset, .unset, .unset, .unset] [(.long 2147483647), (.long (p2.toInt64))])) _
    refine XS.lload X7.here hx rfl (hb hby at_72) rfl ?_
    refine XS.lsub X7.here hx rfl (hb hby at_74) rfl ?_
    refine st8 _ ?_
    refine XS.lstore X8.here hx rfl (hb hby at_78) rfl (l' := #[(vl p0), .second, (vl p1), .second, (vi p2), (vi p3), (vi p4), (vi p5), (vi k0), (vi k1), (vi k2), (vi yo), (vl r_5), .second, (vl r_6), .second, (vl r_7), .second, (vl r_8), .second, .unset, .unset, .unset, .unset, .unset, .unset, .unset, .unset, .unset, .unset, .unset, .unset, .unset, .unset, .unset, .unset, .unset, .unset, .unset, .unset]) rfl ?_
    refine XS.iload X8.here hx rfl (hb hby at_80) rfl ?_
    refine XS.i2l X8.here hx rfl (hb hby at_82) rfl ?_
    show Steps p.tables e below (T8.setTop (mkF m 83 #[(vl p0), .second, (vl p1), .second, (vi p2), (vi p3), (vi p4), (vi p5), (vi k0), (vi k1), (vi k2), (vi yo), (vl r_5), .second, (vl r_6), .second, (vl r_7), .second, (vl r_8), .second, .unset, .unset, .unset, .unset, .unset, .unset, .unset, .unset, .unset, .unset, .unset, .unset, .unset, .unset, .unset, .unset, .unset, .unset, .unset, .unset] [(.long (p3.toInt64))])) _
    refine X8.ldc2Long hx hown (mvT hZ (ow hw 4 rfl)) (g := (mkF m 83 #[(vl p0), .second, (vl p1), .second, (vi p2), (vi p3), (vi p4), (vi p5), (vi k0), (vi k1), (vi k2), (vi yo), (vl r_5), .second, (vl r_6), .second, (vl r_7), .second, (vl r_8), .second, .unset, .unset, .unset, .unset, .unset, .unset, .unset, .unset, .unset, .unset, .unset, .unset, .unset, .unset, .unset, .unset, .unset, .unset, .unset, .unset] [(.long (p3.toInt64))])) rfl (hb hby at_83) _ ?_
    refine XS.lload X8.here hx rfl (hb hby at_86) rfl ?_
    refine XS.lsub X8.here hx rfl (hb hby at_88) rfl ?_
    refine st9 _ ?_
    refine XS.lstore X9.here hx rfl (hb hby at_92) rfl (l' := #[(vl p0), .second, (vl p1), .second, (vi p2), (vi p3), (vi p4), (vi p5), (vi k0), (vi k1), (vi k2), (vi yo), (vl r_5), .second, (vl r_6), .second, (vl r_7), .second, (vl r_8), .second, (vl r_9), .second, .unset, .unset, .unset, .unset, .unset, .unset, .unset, .unset, .unset, .unset, .unset, .unset, .unset, .unset, .unset, .unset, .unset, .unset]) rfl ?_
    refine XS.iload X9.here hx rfl (hb hby at_94) rfl ?_
    show Steps p.tables e below (T9.setTop (mkF m 96 #[(vl p0), .second, (vl p1), .second, (vi p2), (vi p3), (vi p4), (vi p5), (vi k0), (vi k1), (vi k2), (vi yo), (vl r_5), .second, (vl r_6), .second, (vl r_7), .second, (vl r_8), .second, (vl r_9), .second, .unset, .unset, .unset, .unset, .unset, .unset, .unset, .unset, .unset, .unset, .unset, .unset, .unset, .unset, .unset, .unset, .unset, .unset] [(.int p4)])) _
    refine XS.i2l X9.here hx rfl (hb hby at_96) rfl ?_
    refine X9.ldc2Long hx hown (mvT hZ (ow hw 4 rfl)) (g := (mkF m 97 #[(vl p0), .second, (vl p1), .second, (vi p2), (vi p3), (vi p4), (vi p5), (vi k0), (vi k1), (vi k2), (vi yo), (vl r_5), .second, (vl r_6), .second, (vl r_7), .second, (vl r_8), .second, (vl r_9), .second, .unset, .unset, .unset, .unset, .unset, .unset, .unset, .unset, .unset, .unset, .unset, .unset, .unset, .unset, .unset, .unset, .unset, .unset] [(.long (p4.toInt64))])) rfl (hb hby at_97) _ ?_
    refine XS.lload X9.here hx rfl (hb hby at_100) rfl ?_
    refine XS.lsub X9.here hx rfl (hb hby at_102) rfl ?_
    refine st10 _ ?_
    refine XS.lstore X10.here hx rfl (hb hby at_106) rfl (l' := #[(vl p0), .second, (vl p1), .second, (vi p2), (vi p3), (vi p4), (vi p5), (vi k0), (vi k1), (vi k2), (vi yo), (vl r_5), .second, (vl r_6), .second, (vl r_7), .second, (vl r_8), .second, (vl r_9), .second, (vl r_10), .second, .unset, .unset, .unset, .unset, .unset, .unset, .unset, .unset, .unset, .unset, .unset, .unset, .unset, .unset, .unset, .unset]) rfl ?_
    show Steps p.tables e below (T10.setTop (mkF m 108 #[(vl p0), .second, (vl p1), .second, (vi p2), (vi p3), (vi p4), (vi p5), (vi k0), (vi k1), (vi k2), (vi yo), (vl r_5), .second, (vl r_6), .second, (vl r_7), .second, (vl r_8), .second, (vl r_9), .second, (vl r_10), .second, .unset, .unset, .unset, .unset, .unset, .unset, .unset, .unset, .unset, .unset, .unset, .unset, .unset, .unset, .unset, .unset] [])) _
    refine XS.lloadN X10.here hx rfl (hb hby at_108) rfl ?_
    refine XS.lload X10.here hx rfl (hb hby at_109) rfl ?_
    refine XS.land X10.here hx rfl (hb hby at_111) rfl ?_
    refine XS.lstore X10.here hx rfl (hb hby at_112) rfl (l' := #[(vl p0), .second, (vl p1), .second, (vi p2), (vi p3), (vi p4), (vi p5), (vi k0), (vi k1), (vi k2), (vi yo), (vl r_5), .second, (vl r_6), .second, (vl r_7), .second, (vl r_8), .second, (vl r_9), .second, (vl r_10), .second, .val (.long (p0 &&& r_5)), .second, .unset, .unset, .unset, .unset, .unset, .unset, .unset, .unset, .unset, .unset, .unset, .unset, .unset, .unset]) rfl ?_
    exact k
  obtain ⟨f1, hf1⟩ : ∃ z : Int64, z = (((p0.toUInt64 >>> ((32 : Int32) &&& 0x3f).toInt64.toUInt64).toInt64) &&& r_6) := ⟨_, rfl⟩
  have pre12 : ∀ t, Steps p.tables e below (T10.setTop (mkF m 123 #[(vl p0), .second, (vl p1), .second, (vi p2), (vi p3), (vi p4), (vi p5), (vi k0), (vi k1), (vi k2), (vi yo), (vl r_5), .second, (vl r_6), .second, (vl r_7), .second, (vl r_8), .second, (vl r_9), .second, (vl r_10), .second, (vl f0), .second, (vl f1), .second, .unset, .unset, .unset, .unset, .unset, .unset, .unset, .unset, .unset, .unset, .unset, .unset] [])) t → Steps p.tables e below (s₁.setTop (entryFrame m #[(.long p0), (.long p1), (.int p2), (.int p3), (.int p4), (.int p5)] maxLocals)) t := by
    intro t k
    rw [hf1] at k
    refine pre11 t ?_
    show Steps p.tables e below (T10.setTop (mkF m 114 #[(vl p0), .second, (vl p1), .second, (vi p2), (vi p3), (vi p4), (vi p5), (vi k0), (vi k1), (vi k2), (vi yo), (vl r_5), .second, (vl r_6), .second, (vl r_7), .second, (vl r_8), .second, (vl r_9), .second, (vl r_10), .second, (vl f0), .second, .unset, .unset, .unset, .unset, .unset, .unset, .unset, .unset, .unset, .unset, .unset, .unset, .unset, .unset] [])) _
    refine XS.lloadN X10.here hx rfl (hb hby at_114) rfl ?_
    refine XS.bipush X10.here hx rfl (hb hby at_115) ?_
    refine XS.lushr X10.here hx rfl (hb hby at_117) rfl ?_
    refine XS.lload X10.here hx rfl (hb hby at_118) rfl ?_
    refine XS.land X10.here hx rfl (hb hby at_120) rfl ?_
    refine XS.lstore X10.here hx rfl (hb hby at_121) rfl (l' := #[(vl p0), .second, (vl p1), .second, (vi p2), (vi p3), (vi p4), (vi p5), (vi k0), (vi k1), (vi k2), (vi yo), (vl r_5), .second, (vl r_6), .second, (vl r_7), .second, (vl r_8), .second, (vl r_9), .second, (vl r_10), .second, (vl f0), .second, .val (.long (((p0.toUInt64 >>> ((32 : Int32) &&& 0x3f).toInt64.toUInt64).toInt64) &&& r_6)), .second, .unset, .unset, .unset, .unset, .unset, .unset, .unset, .unset, .unset, .unset, .unset, .unset]) rfl ?_
    exact k
  obtain ⟨f2, hf2⟩ : ∃ z : Int64, z = (p1 &&& r_7) := ⟨_, rfl⟩
  have pre13 : ∀ t, Steps p.tables e below (T10.setTop (mkF m 129 #[(vl p0), .second, (vl p1), .second, (vi p2), (vi p3), (vi p4), (vi p5), (vi k0), (vi k1), (vi k2), (vi yo), (vl r_5), .second, (vl r_6), .second, (vl r_7), .second, (vl r_8), .second, (vl r_9), .second, (vl r_10), .second, (vl f0), .second, (vl f1), .second, (vl f2), .second, .unset, .unset, .unset, .unset, .unset, .unset, .unset, .unset, .unset, .unset] [])) t → Steps p.tables e below (s₁.setTop (entryFrame m #[(.long p0), (.long p1), (.int p2), (.int p3), (.int p4), (.int p5)] maxLocals)) t := by
    intro t k
    rw [hf2] at k
    refine pre12 t ?_
    show Steps p.tables e below (T10.setTop (mkF m 123 #[(vl p0), .second, (vl p1), .second, (vi p2), (vi p3), (vi p4), (vi p5), (vi k0), (vi k1), (vi k2), (vi yo), (vl r_5), .second, (vl r_6), .second, (vl r_7), .second, (vl r_8), .second, (vl r_9), .second, (vl r_10), .second, (vl f0), .second, (vl f1), .second, .unset, .unset, .unset, .unset, .unset, .unset, .unset, .unset, .unset, .unset, .unset, .unset] [])) _
    refine XS.lloadN X10.here hx rfl (hb hby at_123) rfl ?_
    refine XS.lload X10.here hx rfl (hb hby at_124) rfl ?_
    refine XS.land X10.here hx rfl (hb hby at_126) rfl ?_
    refine XS.lstore X10.here hx rfl (hb hby at_127) rfl (l' := #[(vl p0), .second, (vl p1), .second, (vi p2), (vi p3), (vi p4), (vi p5), (vi k0), (vi k1), (vi k2), (vi yo), (vl r_5), .second, (vl r_6), .second, (vl r_7), .second, (vl r_8), .second, (vl r_9), .second, (vl r_10), .second, (vl f0), .second, (vl f1), .second, .val (.long (p1 &&& r_7)), .second, .unset, .unset, .unset, .unset, .unset, .unset, .unset, .unset, .unset, .unset]) rfl ?_
    exact k
  have hA : ¬ (64 : Int32) < ((0 : Int32) + k0) := own_a64 hK0
  have hB : ¬ (64 : Int32) < (((0 : Int32) + k0) + k1) := own_b64 hK0 hK1
  have pre14 : ∀ t, Steps p.tables e below (T10.setTop (mkF m 139 #[(vl p0), .second, (vl p1), .second, (vi p2), (vi p3), (vi p4), (vi p5), (vi k0), (vi k1), (vi k2), (vi yo), (vl r_5), .second, (vl r_6), .second, (vl r_7), .second, (vl r_8), .second, (vl r_9), .second, (vl r_10), .second, (vl f0), .second, (vl f1), .second, (vl f2), .second, .unset, .unset, .unset, .unset, .unset, .unset, .unset, .unset, .unset, .unset] [(.int 64), (.int ((k0 + k1) + k2))])) t → Steps p.tables e below (s₁.setTop (entryFrame m #[(.long p0), (.long p1), (.int p2), (.int p3), (.int p4), (.int p5)] maxLocals)) t := by
    intro t k
    refine pre13 t ?_
    show Steps p.tables e below (T10.setTop (mkF m 129 #[(vl p0), .second, (vl p1), .second, (vi p2), (vi p3), (vi p4), (vi p5), (vi k0), (vi k1), (vi k2), (vi yo), (vl r_5), .second, (vl r_6), .second, (vl r_7), .second, (vl r_8), .second, (vl r_9), .second, (vl r_10), .second, (vl f0), .second, (vl f1), .second, (vl f2), .second, .unset, .unset, .unset, .unset, .unset, .unset, .unset, .unset, .unset, .unset] [])) _
    refine XS.iload X10.here hx rfl (hb hby at_129) rfl ?_
    refine XS.iload X10.here hx rfl (hb hby at_131) rfl ?_
    refine XS.iadd X10.here hx rfl (hb hby at_133) rfl ?_
    refine XS.iload X10.here hx rfl (hb hby at_134) rfl ?_
    refine XS.iadd X10.here hx rfl (hb hby at_136) rfl ?_
    refine XS.bipush X10.here hx rfl (hb hby at_137) ?_
    exact k
  rcases Decidable.em ((64 : Int32) < ((k0 + k1) + k2)) with hsp | hsp
  · skip
    have hC : (64 : Int32) < ((((0 : Int32) + k0) + k1) + k2) := by rw [Int32.zero_add]; exact hsp
    obtain ⟨_, _, ⟨T15, L15, k15, n15⟩, -, X15, ⟨Lc15, hQ15, l15, y15, z15⟩, st15⟩ := Jvm.LawKit.callS X10 hx (y := M0) hown (mvT hZ (ow hw 0 rfl)) (mvT hZ (ow hw 1 rfl)) (mvT hZ (ow hw 2 rfl)) (mvT hZ (ow hw 3 rfl)) (by decide) (backOf (W := 4) (rmOnes l Z a0 hw [] wINTEGER wDOUBLE wBOOLEAN wDEFAULTCAPACITY_EMPTY_ELEMENTDATA kwDEFAULTCAPACITY_EMPTY_ELEMENTDATA hS (k0 + k1) h0 n0 O0 ) hZ (ow hw 3 rfl) (ow hw 2 rfl) (by decide) (by decide)) (g := (mkF m 201 #[(vl p0), .second, (vl p1), .second, (vi p2), (vi p3), (vi p4), (vi p5), (vi k0), (vi k1), (vi k2), (vi yo), (vl r_5), .second, (vl r_6), .second, (vl r_7), .second, (vl r_8), .second, (vl r_9), .second, (vl r_10), .second, (vl f0), .second, (vl f1), .second, (vl f2), .second, (vi 1), .val (.int (k0 + k1)), .unset, .unset, .unset, .unset, .unset, .unset, .unset, .unset] [(.int (k0 + k1)), (.long p0), (.long ((f0 ||| (f1 <<< (k0 &&& 0x3f).toInt64)) ||| (0 : Int64)))])) rfl (by rw [hml]; rfl) (argsL := [(.int (k0 + k1))]) (rest := [(.long p0), (.long ((f0 ||| (f1 <<< (k0 &&& 0x3f).toInt64)) ||| (0 : Int64)))]) (lenOf pd_1 rfl) rfl (by show 2 * 0 + _ ≤ _; exact Nat.le_of_eq rfl) (hb hby at_201) (fun _ _ => ⟨rfl, K10q, (by decide : 0 + 0 ≤ _), (by decide : 0 + 0 ≤ _)⟩)
    dsimp only [Pt.U, Pt.locs, Pt.cells, Pt.slots] at X15 l15 y15 z15 st15 hQ15
    subst y15 z15
    obtain ⟨r_15, rfl, Nq15, K15q, p15_0⟩ := hQ15
    have N15 : Fr n0 L15 := (congrArg (Fr n0) l15).mpr (Fr.app N10 Nq15)
    obtain ⟨yw, hyw⟩ : ∃ z : Int64, z = (((f0 ||| (f1 <<< (k0 &&& 0x3f).toInt64)) ||| (0 : Int64)) ||| (p0 &&& (r_15 ^^^ (-1 : Int64)))) := ⟨_, rfl⟩
    have pre16 : ∀ t, Steps p.tables e below (T15.setTop (mkF m 212 #[(vl p0), .second, (vl p1), .second, (vi p2), (vi p3), (vi p4), (vi p5), (vi k0), (vi k1), (vi k2), (vi yo), (vl r_5), .second, (vl r_6), .second, (vl r_7), .second, (vl r_8), .second, (vl r_9), .second, (vl r_10), .second, (vl f0), .second, (vl f1), .second, (vl f2), .second, (vi 1), .val (.int (k0 + k1)), (vl yw), .second, .unset, .unset, .unset, .unset, .unset, .unset] [])) t → Steps p.tables e below (s₁.setTop (entryFrame m #[(.long p0), (.long p1), (.int p2), (.int p3), (.int p4), (.int p5)] maxLocals)) t := by
      intro t k
      rw [hyw] at k
      refine pre14 t ?_
      show Steps p.tables e below (T10.setTop (mkF m 139 #[(vl p0), .second, (vl p1), .second, (vi p2), (vi p3), (vi p4), (vi p5), (vi k0), (vi k1), (vi k2), (vi yo), (vl r_5), .second, (vl r_6), .second, (vl r_7), .second, (vl r_8), .second, (vl r_9), .second, (vl r_10), .second, (vl f0), .second, (vl f1), .second, (vl f2), .second, .unset, .unset, .unset, .unset, .unset, .unset, .unset, .unset, .unset, .unset] [(.int 64), (.int ((k0 + k1) + k2))])) _
      refine XS.icmpNo X10.here hx rfl (hb hby at_139) rfl (tlt (hsp : (64 : Int32) < ((k0 + k1) + k2))).2.2.2 ?_
      refine XS.iconst X10.here hx rfl (hb hby at_142) ?_
      refine XS.goto X10.here hx rfl (pc0 := 143) (pc' := 147) rfl (hb hby at_143) (by decide) (by decide) ?_
      refine XS.istore X10.here hx rfl (hb hby at_147) rfl (l' := #[(vl p0), .second, (vl p1), .second, (vi p2), (vi p3), (vi p4), (vi p5), (vi k0), (vi k1), (vi k2), (vi yo), (vl r_5), .second, (vl r_6), .second, (vl r_7), .second, (vl r_8), .second, (vl r_9), .second, (vl r_10), .second, (vl f0), .second, (vl f1), .second, (vl f2), .second, (vi 1), .unset, .unset, .unset, .unset, .unset, .unset, .unset, .unset, .unset]) rfl ?_
      refine XS.iload X10.here hx rfl (hb hby at_149) rfl ?_
      refine XS.ifNo X10.here hx rfl (hb hby at_151) rfl ((if0 _ _).trans (feq (by decide : ¬ ((1 : Int32) = (0 : Int32)))).1) ?_
      show Steps p.tables e below (T10.setTop (mkF m 154 #[(vl p0), .second, (vl p1), .second, (vi p2), (vi p3), (vi p4), (vi p5), (vi k0), (vi k1), (vi k2), (vi yo), (vl r_5), .second, (vl r_6), .second, (vl r_7), .second, (vl r_8), .second, (vl r_9), .second, (vl r_10), .second, (vl f0), .second, (vl f1), .second, (vl f2), .second, (vi 1), .unset, .unset, .unset, .unset, .unset, .unset, .unset, .unset, .unset] [])) _
      refine XS.iload X10.here hx rfl (hb hby at_154) rfl ?_
      refine XS.iload X10.here hx rfl (hb hby at_156) rfl ?_
      refine XS.iadd X10.here hx rfl (hb hby at_158) rfl ?_
      refine XS.goto X10.here hx rfl (pc0 := 159) (pc' := 170) rfl (hb hby at_159) (by decide) (by decide) ?_
      refine XS.istore X10.here hx rfl (hb hby at_170) rfl (l' := #[(vl p0), .second, (vl p1), .second, (vi p2), (vi p3), (vi p4), (vi p5), (vi k0), (vi k1), (vi k2), (vi yo), (vl r_5), .second, (vl r_6), .second, (vl r_7), .second, (vl r_8), .second, (vl r_9), .second, (vl r_10), .second, (vl f0), .second, (vl f1), .second, (vl f2), .second, (vi 1), .val (.int (k0 + k1)), .unset, .unset, .unset, .unset, .unset, .unset, .unset, .unset]) rfl ?_
      refine XS.lload X10.here hx rfl (hb hby at_172) rfl ?_
      show Steps p.tables e below (T10.setTop (mkF m 174 #[(vl p0), .second, (vl p1), .second, (vi p2), (vi p3), (vi p4), (vi p5), (vi k0), (vi k1), (vi k2), (vi yo), (vl r_5), .second, (vl r_6), .second, (vl r_7), .second, (vl r_8), .second, (vl r_9), .second, (vl r_10), .second, (vl f0), .second, (vl f1), .second, (vl f2), .second, (vi 1), .val (.int (k0 + k1)), .unset, .unset, .unset, .unset, .unset, .unset, .unset, .unset] [(.long f0)])) _
      refine XS.lload X10.here hx rfl (hb hby at_174) rfl ?_
      refine XS.iload X10.here hx rfl (hb hby at_176) rfl ?_
      refine XS.lshl X10.here hx rfl (hb hby at_178) rfl ?_
      refine XS.lor X10.here hx rfl (hb hby at_179) rfl ?_
      refine XS.iload X10.here hx rfl (hb hby at_180) rfl ?_
      refine XS.ifNo X10.here hx rfl (hb hby at_182) rfl ((if0 _ _).trans (feq (by decide : ¬ ((1 : Int32) = (0 : Int32)))).1) ?_
      show Steps p.tables e below (T10.setTop (mkF m 185 #[(vl p0), .second, (vl p1), .second, (vi p2), (vi p3), (vi p4), (vi p5), (vi k0), (vi k1), (vi k2), (vi yo), (vl r_5), .second, (vl r_6), .second, (vl r_7), .second, (vl r_8), .second, (vl r_9), .second, (vl r_10), .second, (vl f0), .second, (vl f1), .second, (vl f2), .second, (vi 1), .val (.int (k0 + k1)), .unset, .unset, .unset, .unset, .unset, .unset, .unset, .unset] [(.long (f0 ||| (f1 <<< (k0 &&& 0x3f).toInt64)))])) _
      refine XS.lconst X10.here hx rfl (hb hby at_185) ?_
      refine XS.goto X10.here hx rfl (pc0 := 186) (pc' := 197) rfl (hb hby at_186) (by decide) (by decide) ?_
      refine XS.lor X10.here hx rfl (hb hby at_197) rfl ?_
      refine XS.lloadN X10.here hx rfl (hb hby at_198) rfl ?_
      refine XS.iload X10.here hx rfl (hb hby at_199) rfl ?_
      refine st15 _ ?_
      show Steps p.tables e below (T15.setTop (mkF m 204 #[(vl p0), .second, (vl p1), .second, (vi p2), (vi p3), (vi p4), (vi p5), (vi k0), (vi k1), (vi k2), (vi yo), (vl r_5), .second, (vl r_6), .second, (vl r_7), .second, (vl r_8), .second, (vl r_9), .second, (vl r_10), .second, (vl f0), .second, (vl f1), .second, (vl f2), .second, (vi 1), .val (.int (k0 + k1)), .unset, .unset, .unset, .unset, .unset, .unset, .unset, .unset] [(.long r_15), (.long p0), (.long ((f0 ||| (f1 <<< (k0 &&& 0x3f).toInt64)) ||| (0 : Int64)))])) _
      refine X15.ldc2Long hx hown (mvT hZ (ow hw 9 rfl)) (g := (mkF m 204 #[(vl p0), .second, (vl p1), .second, (vi p2), (vi p3), (vi p4), (vi p5), (vi k0), (vi k1), (vi k2), (vi yo), (vl r_5), .second, (vl r_6), .second, (vl r_7), .second, (vl r_8), .second, (vl r_9), .second, (vl r_10), .second, (vl f0), .second, (vl f1), .second, (vl f2), .second, (vi 1), .val (.int (k0 + k1)), .unset, .unset, .unset, .unset, .unset, .unset, .unset, .unset] [(.long r_15), (.long p0), (.long ((f0 ||| (f1 <<< (k0 &&& 0x3f).toInt64)) ||| (0 : Int64)))])) rfl (hb hby at_204) _ ?_
      refine XS.lxor X15.here hx rfl (hb hby at_207) rfl ?_
      refine XS.land X15.here hx rfl (hb hby at_208) rfl ?_
      refine XS.lor X15.here hx rfl (hb hby at_209) rfl ?_
      refine XS.lstore X15.here hx rfl (hb hby at_210) rfl (l' := #[(vl p0), .second, (vl p1), .second, (vi p2), (vi p3), (vi p4), (vi p5), (vi k0), (vi k1), (vi k2), (vi yo), (vl r_5), .second, (vl r_6), .second, (vl r_7), .second, (vl r_8), .second, (vl r_9), .second, (vl r_10), .second, (vl f0), .second, (vl f1), .second, (vl f2), .second, (vi 1), .val (.int (k0 + k1)), .val (.long (((f0 ||| (f1 <<< (k0 &&& 0x3f).toInt64)) ||| (0 : Int64)) ||| (p0 &&& (r_15 ^^^ (-1 : Int64))))), .second, .unset, .unset, .unset, .unset, .unset, .unset]) rfl ?_
      exact k
    obtain ⟨T17, h17, X17, e17, E17, A17, D17, -, st17⟩ := newO X15 hx hZ hown (ow hw 10 rfl) (ow hw 11 rfl) (ow hw 12 rfl) K15q (g := (mkF m 212 #[(vl p0), .second, (vl p1), .second, (vi p2), (vi p3), (vi p4), (vi p5), (vi k0), (vi k1), (vi k2), (vi yo), (vl r_5), .second, (vl r_6), .second, (vl r_7), .second, (vl r_8), .second, (vl r_9), .second, (vl r_10), .second, (vl f0), .second, (vl f1), .second, (vl f2), .second, (vi 1), .val (.int (k0 + k1)), (vl yw), .second, .unset, .unset, .unset, .unset, .unset, .unset] [])) rfl (hb hby at_212) (by decide) (by decide)
    obtain ⟨b17, g17⟩ : ∃ z, z = h0.size := ⟨_, rfl⟩
    rw [← g17] at A17 D17 st17
    have g18 : n0 ≤ b17 := Nat.le_trans (own_sz O0) (Nat.le_of_eq g17.symm)
    have O19 : Old Z n0 h17 := O0.ext E17
    have f20 : Fld Z h17 b17 s5n "modCount" "I" (.int 0) := D17 (Or.inl (ow hw 32 rfl)) (ty := .int) (by decide)
    have f21 : Fld Z h17 b17 s2n "elementData" s3n .null := D17 (Or.inl (ow hw 35 rfl)) (ty := (.array (.object s4n))) (by decide)
    have f22 : Fld Z h17 b17 s2n "size" "I" (.int 0) := D17 (Or.inl (ow hw 83 rfl)) (ty := .int) (by decide)
    obtain ⟨_, _, ⟨T23, L23, k23, n23⟩, -, X23, ⟨Lc23, hQ23, l23, y23, z23⟩, st23⟩ := X17.specialBack hx (y := M7) rfl hown (mvT hZ (ow hw 13 rfl)) (mvT hZ (ow hw 14 rfl)) (mvT hZ (ow hw 15 rfl)) (by decide) (backOf (W := 1) (au3_0 l Z a0 hw [] wINTEGER wDOUBLE wBOOLEAN wDEFAULTCAPACITY_EMPTY_ELEMENTDATA kwDEFAULTCAPACITY_EMPTY_ELEMENTDATA hS b17 h17 n0 O19 A17 f20 f21 f22 g18) hZ (ow hw 15 rfl) (ow hw 12 rfl) (by decide) (by decide)) (g := (mkF m 216 #[(vl p0), .second, (vl p1), .second, (vi p2), (vi p3), (vi p4), (vi p5), (vi k0), (vi k1), (vi k2), (vi yo), (vl r_5), .second, (vl r_6), .second, (vl r_7), .second, (vl r_8), .second, (vl r_9), .second, (vl r_10), .second, (vl f0), .second, (vl f1), .second, (vl f2), .second, (vi 1), .val (.int (k0 + k1)), (vl yw), .second, .unset, .unset, .unset, .unset, .unset, .unset] [(.ref b17), (.ref b17)])) rfl (by rw [hml]; rfl) (Steps.refl _) (a := b17) (argsL := []) (rest := [(.ref b17)]) (lenOf pd_3 rfl) rfl (by show 2 * 0 + _ ≤ _; exact Nat.le_of_eq rfl) (hb hby at_216) (fun _ _ => ⟨rfl, e17, (by decide : 1 + 0 ≤ _), (by decide : 3 + 0 ≤ _)⟩)
    dsimp only [Pt.U, Pt.locs, Pt.cells, Pt.slots] at X23 l23 y23 z23 st23 hQ23
    subst y23 z23
    obtain ⟨rfl, Nq23, K23q, p23_0, p23_1, p23_2, p23_3⟩ := hQ23
    have N23 : Fr n0 L23 := (congrArg (Fr n0) l23).mpr (Fr.app N15 Nq23)
    have O24 : Old Z n0 T23.heap := O19.keep K23q (allS g18 all0)
    obtain ⟨T25, h25, X25, e25, E25, A25, D25, -, st25⟩ := newO X23 hx hZ hown (ow hw 36 rfl) (ow hw 37 rfl) (ow hw 38 rfl) rfl (g := (mkF m 223 #[(vl p0), .second, (vl p1), .second, (vi p2), (vi p3), (vi p4), (vi p5), (vi k0), (vi k1), (vi k2), (vi yo), (vl r_5), .second, (vl r_6), .second, (vl r_7), .second, (vl r_8), .second, (vl r_9), .second, (vl r_10), .second, (vl f0), .second, (vl f1), .second, (vl f2), .second, (vi 1), .val (.int (k0 + k1)), (vl yw), .second, (vr b17), .unset, .unset, .unset, .unset, .unset] [(.ref b17)])) rfl (hb hby at_223) (by decide) (by decide)
    obtain ⟨b25, g25⟩ : ∃ z, z = T23.heap.size := ⟨_, rfl⟩
    rw [← g25] at A25 D25 st25
    have ne26 : b17 ≠ b25 := Nat.ne_of_lt (Nat.lt_of_lt_of_le p23_0.lt (Nat.le_of_eq g25.symm))
    have g27 : n0 ≤ b25 := Nat.le_trans (own_sz O24) (Nat.le_of_eq g25.symm)
    have O28 : Old Z n0 h25 := O24.ext E25
    have f29 : Fld Z h25 b25 s6n "name" s7n .null := D25 (Or.inr (ow hw 64 rfl)) (ty := (.object s8n)) (by decide)
    have f30 : Fld Z h25 b25 s6n "type" s1n .null := D25 (Or.inr (ow hw 66 rfl)) (ty := (.object s0n)) (by decide)
    have f31 : Fld Z h25 b25 s6n "low" "I" (.int 0) := D25 (Or.inr (ow hw 68 rfl)) (ty := .int) (by decide)
    have f32 : Fld Z h25 b25 s6n "high" "I" (.int 0) := D25 (Or.inr (ow hw 70 rfl)) (ty := .int) (by decide)
    have hk34 : _ ≤ h25.size := (Nat.le_trans (Nat.le_trans (Nat.le_trans (Nat.le_refl _) E17.1) K23q.1) E25.1)
    obtain ⟨b33, T33, h33, kk33, X33, e33, E33, hS33, hk33, hZ, hown, st33⟩ := ldcS X25 hx hZ hown (ow hw 39 rfl) (own_wS hw) e25 hS1 hk34 (g := (mkF m 227 #[(vl p0), .second, (vl p1), .second, (vi p2), (vi p3), (vi p4), (vi p5), (vi k0), (vi k1), (vi k2), (vi yo), (vl r_5), .second, (vl r_6), .second, (vl r_7), .second, (vl r_8), .second, (vl r_9), .second, (vl r_10), .second, (vl f0), .second, (vl f1), .second, (vl f2), .second, (vi 1), .val (.int (k0 + k1)), (vl yw), .second, (vr b17), .unset, .unset, .unset, .unset, .unset] [(.ref b25), (.ref b25), (.ref b17)])) rfl (hb hby at_227) (n := 4) (by decide) (by decide) (by decide) (by decide)
    have O35 : Old Z n0 h33 := O28.ext E33
    obtain ⟨T36, X36, e36, st36⟩ := getS2 X33 hx hZ hown (host := "") (Or.inl (ow hw 47 rfl)) Via.refl e33 (S_wINTEGER.ext O35.2) (g := (mkF m 229 #[(vl p0), .second, (vl p1), .second, (vi p2), (vi p3), (vi p4), (vi p5), (vi k0), (vi k1), (vi k2), (vi yo), (vl r_5), .second, (vl r_6), .second, (vl r_7), .second, (vl r_8), .second, (vl r_9), .second, (vl r_10), .second, (vl f0), .second, (vl f1), .second, (vl f2), .second, (vi 1), .val (.int (k0 + k1)), (vl yw), .second, (vr b17), .unset, .unset, .unset, .unset, .unset] [(.ref b33), (.ref b25), (.ref b25), (.ref b17)])) rfl (hb hby at_229)
    obtain ⟨yl0, hyl0⟩ : ∃ z : Int32, z = (r_8.toInt32) := ⟨_, rfl⟩
    have pre37 : ∀ t, Steps p.tables e below (T36.setTop (mkF m 235 #[(vl p0), .second, (vl p1), .second, (vi p2), (vi p3), (vi p4), (vi p5), (vi k0), (vi k1), (vi k2), (vi yo), (vl r_5), .second, (vl r_6), .second, (vl r_7), .second, (vl r_8), .second, (vl r_9), .second, (vl r_10), .second, (vl f0), .second, (vl f1), .second, (vl f2), .second, (vi 1), .val (.int (k0 + k1)), (vl yw), .second, (vr b17), .unset, .unset, .unset, .unset, .unset] [(.int yl0), (.ref wINTEGER), (.ref b33), (.ref b25), (.ref b25), (.ref b17)])) t → Steps p.tables e below (s₁.setTop (entryFrame m #[(.long p0), (.long p1), (.int p2), (.int p3), (.int p4), (.int p5)] maxLocals)) t := by
      intro t k
      rw [hyl0] at k
      refine pre16 t ?_
      show Steps p.tables e below (T15.setTop (mkF m 212 #[(vl p0), .second, (vl p1), .second, (vi p2), (vi p3), (vi p4), (vi p5), (vi k0), (vi k1), (vi k2), (vi yo), (vl r_5), .second, (vl r_6), .second, (vl r_7), .second, (vl r_8), .second, (vl r_9), .second, (vl r_10), .second, (vl f0), .second, (vl f1), .second, (vl f2), .second, (vi 1), .val (.int (k0 + k1)), (vl yw), .second, .unset, .unset, .unset, .unset, .unset, .unset] [])) _
      refine st17 _ ?_
      refine XS.dup X17.here hx rfl (hb hby at_215) rfl rfl ?_
      refine st23.trans ?_
      refine XS.astore X23.here hx rfl (hb hby at_219) rfl rfl (l' := #[(vl p0), .second, (vl p1), .second, (vi p2), (vi p3), (vi p4), (vi p5), (vi k0), (vi k1), (vi k2), (vi yo), (vl r_5), .second, (vl r_6), .second, (vl r_7), .second, (vl r_8), .second, (vl r_9), .second, (vl r_10), .second, (vl f0), .second, (vl f1), .second, (vl f2), .second, (vi 1), .val (.int (k0 + k1)), (vl yw), .second, (vr b17), .unset, .unset, .unset, .unset, .unset]) rfl ?_
      refine XS.aload X23.here hx rfl (hb hby at_221) rfl rfl ?_
      refine st25 _ ?_
      show Steps p.tables e below (T25.setTop (mkF m 226 #[(vl p0), .second, (vl p1), .second, (vi p2), (vi p3), (vi p4), (vi p5), (vi k0), (vi k1), (vi k2), (vi yo), (vl r_5), .second, (vl r_6), .second, (vl r_7), .second, (vl r_8), .second, (vl r_9), .second, (vl r_10), .second, (vl f0), .second, (vl f1), .second, (vl f2), .second, (vi 1), .val (.int (k0 + k1)), (vl yw), .second, (vr b17), .unset, .unset, .unset, .unset, .unset] [(.ref b25), (.ref b17)])) _
      refine XS.dup X25.here hx rfl (hb hby at_226) rfl rfl ?_
      refine st33 _ ?_
      refine st36 _ ?_
      refine XS.lload X36.here hx rfl (hb hby at_232) rfl ?_
      refine XS.l2i X36.here hx rfl (hb hby at_234) rfl ?_
      exact k
    obtain ⟨yh0, hyh0⟩ : ∃ z : Int32, z = ((r_8 + r_5).toInt32) := ⟨_, rfl⟩
    have pre38 : ∀ t, Steps p.tables e below (T36.setTop (mkF m 241 #[(vl p0), .second, (vl p1), .second, (vi p2), (vi p3), (vi p4), (vi p5), (vi k0), (vi k1), (vi k2), (vi yo), (vl r_5), .second, (vl r_6), .second, (vl r_7), .second, (vl r_8), .second, (vl r_9), .second, (vl r_10), .second, (vl f0), .second, (vl f1), .second, (vl f2), .second, (vi 1), .val (.int (k0 + k1)), (vl yw), .second, (vr b17), .unset, .unset, .unset, .unset, .unset] [(.int yh0), (.int yl0), (.ref wINTEGER), (.ref b33), (.ref b25), (.ref b25), (.ref b17)])) t → Steps p.tables e below (s₁.setTop (entryFrame m #[(.long p0), (.long p1), (.int p2), (.int p3), (.int p4), (.int p5)] maxLocals)) t := by
      intro t k
      rw [hyh0] at k
      refine pre37 t ?_
      show Steps p.tables e below (T36.setTop (mkF m 235 #[(vl p0), .second, (vl p1), .second, (vi p2), (vi p3), (vi p4), (vi p5), (vi k0), (vi k1), (vi k2), (vi yo), (vl r_5), .second, (vl r_6), .second, (vl r_7), .second, (vl r_8), .second, (vl r_9), .second, (vl r_10), .second, (vl f0), .second, (vl f1), .second, (vl f2), .second, (vi 1), .val (.int (k0 + k1)), (vl yw), .second, (vr b17), .unset, .unset, .unset, .unset, .unset] [(.int yl0), (.ref wINTEGER), (.ref b33), (.ref b25), (.ref b25), (.ref b17)])) _
      refine XS.lload X36.here hx rfl (hb hby at_235) rfl ?_
      refine XS.lload X36.here hx rfl (hb hby at_237) rfl ?_
      refine XS.ladd X36.here hx rfl (hb hby at_239) rfl ?_
      refine XS.l2i X36.here hx rfl (hb hby at_240) rfl ?_
      exact k
    have hle0 : ¬ yh0 < yl0 := (own_span hK0 p5_0 p8_0 hyl0 hyh0).1
    have hbt0 : bitsV yl0 yh0 = k0 := own_bits hK0 p5_0 p8_0 hyl0 hyh0
    have f39 : Exa Z h33 b25 s6n := (A25.ext E33)
    have f40 : Fld Z h33 b25 s6n "high" "I" (.int 0) := (f32.ext E33)
    have f41 : Fld Z h33 b25 s6n "low" "I" (.int 0) := (f31.ext E33)
    have f42 : Fld Z h33 b25 s6n "name" s7n .null := (f29.ext E33)
    have f43 : Fld Z h33 b25 s6n "type" s1n .null := (f30.ext E33)
    obtain ⟨_, _, ⟨T44, L44, k44, n44⟩, -, X44, ⟨Lc44, hQ44, l44, y44, z44⟩, st44⟩ := X36.specialBack hx (y := M9) rfl hown (mvT hZ (ow hw 50 rfl)) (mvT hZ (ow hw 51 rfl)) (mvT hZ (ow hw 52 rfl)) (by decide) (backOf (W := 2) (au7_0 l Z a0 hw [] wINTEGER wDOUBLE wBOOLEAN wDEFAULTCAPACITY_EMPTY_ELEMENTDATA kwDEFAULTCAPACITY_EMPTY_ELEMENTDATA hS b25 b33 yl0 yh0 h33 n0 O35 f39 f40 f41 f42 f43 hle0 g27) hZ (ow hw 52 rfl) (ow hw 38 rfl) (by decide) (by decide)) (g := (mkF m 241 #[(vl p0), .second, (vl p1), .second, (vi p2), (vi p3), (vi p4), (vi p5), (vi k0), (vi k1), (vi k2), (vi yo), (vl r_5), .second, (vl r_6), .second, (vl r_7), .second, (vl r_8), .second, (vl r_9), .second, (vl r_10), .second, (vl f0), .second, (vl f1), .second, (vl f2), .second, (vi 1), .val (.int (k0 + k1)), (vl yw), .second, (vr b17), .unset, .unset, .unset, .unset, .unset] [(.int yh0), (.int yl0), (.ref wINTEGER), (.ref b33), (.ref b25), (.ref b25), (.ref b17)])) rfl (by rw [hml]; rfl) (Steps.refl _) (a := b25) (argsL := [(.ref b33), (.ref wINTEGER), (.int yl0), (.int yh0)]) (rest := [(.ref b25), (.ref b17)]) (lenOf pd_4 rfl) rfl (by show 2 * 0 + _ ≤ _; exact Nat.le_of_eq rfl) (hb hby at_241) (fun _ _ => ⟨rfl, e36, (by decide : 4 + 0 ≤ _), (by decide : 15 + 0 ≤ _)⟩)
    dsimp only [Pt.U, Pt.locs, Pt.cells, Pt.slots] at X44 l44 y44 z44 st44 hQ44
    subst y44 z44
    obtain ⟨rfl, Nq44, K44q, p44_0, p44_1, p44_2, p44_3, p44_4⟩ := hQ44
    have N44 : Fr n0 L44 := (congrArg (Fr n0) l44).mpr (Fr.app N23 Nq44)
    have O45 : Old Z n0 T44.heap := O35.keep K44q (allS g27 all0)
    have f46 : Exa Z T44.heap b17 s2n := (((p23_0.ext E25).ext E33).keep K44q)
    have f47 : Fld Z T44.heap b17 s5n "modCount" "I" (.int 0) := (((p23_1.ext E25).ext E33).keep K44q (ninS ne26 nin0))
    have f48 : Fld Z T44.heap b17 s2n "elementData" s3n (.ref wDEFAULTCAPACITY_EMPTY_ELEMENTDATA) := (((p23_2.ext E25).ext E33).keep K44q (ninS ne26 nin0))
    have f49 : Fld Z T44.heap b17 s2n "size" "I" (.int 0) := (((p23_3.ext E25).ext E33).keep K44q (ninS ne26 nin0))
    obtain ⟨cq50, kq50, q50a, q50b, q50c⟩ := isOf hZ rfl f46
    obtain ⟨_, _, ⟨T50, L50, k50, n50⟩, -, X50, ⟨Lc50, hQ50, l50, y50, z50⟩, st50⟩ := X44.interfaceBack hx (xi := M25) (y := M13) hown (mvT hZ (ow hw 71 rfl)) (mvT hZ (ow hw 72 rfl)) (mvT hZ (ow hw 73 rfl)) (mvT hZ (ow hw 74 rfl)) (mvT hZ (ow hw 75 rfl)) (mvT hZ (ow hw 76 rfl)) (mvT hZ (ow hw 77 rfl)) (mvT hZ (ow hw 78 rfl)) (by decide) (backOf (W := 0) (au9_0 l Z a0 hw [] wINTEGER wDOUBLE wBOOLEAN wDEFAULTCAPACITY_EMPTY_ELEMENTDATA kwDEFAULTCAPACITY_EMPTY_ELEMENTDATA hS b17 b25 T44.heap n0 O45 f46 f47 f48 f49 p44_0 g18) hZ (ow hw 79 rfl) (ow hw 12 rfl) (by decide) (by decide)) q50a q50b q50c (g := (mkF m 244 #[(vl p0), .second, (vl p1), .second, (vi p2), (vi p3), (vi p4), (vi p5), (vi k0), (vi k1), (vi k2), (vi yo), (vl r_5), .second, (vl r_6), .second, (vl r_7), .second, (vl r_8), .second, (vl r_9), .second, (vl r_10), .second, (vl f0), .second, (vl f1), .second, (vl f2), .second, (vi 1), .val (.int (k0 + k1)), (vl yw), .second, (vr b17), .unset, .unset, .unset, .unset, .unset] [(.ref b25), (.ref b17)])) rfl (by rw [hml]; rfl) (Steps.refl _) (argsL := [(.ref b25)]) (rest := []) (lenOf pd_9 rfl) rfl (by show 2 * 0 + _ ≤ _; exact Nat.le_of_eq rfl) (hb hby at_244) (fun _ _ => ⟨rfl, rfl, (by decide : 4 + 1 ≤ _), (by decide : 15 + 10 ≤ _)⟩)
    dsimp only [Pt.U, Pt.locs, Pt.cells, Pt.slots] at X50 l50 y50 z50 st50 hQ50
    subst y50 z50
    obtain ⟨e1_50, e2_50, rfl, Nq50, K50q, p50_0, p50_1, p50_2, p50_3, p50_4, p50_5, p50_6, p50_7⟩ := hQ50
    have N50 : Fr n0 L50 := (congrArg (Fr n0) l50).mpr (Fr.app N44 Nq50)
    have ne51 : b17 ≠ e1_50 := Nat.ne_of_lt (Nat.lt_of_lt_of_le f46.lt p50_4)
    have ne52 : b25 ≠ e1_50 := Nat.ne_of_lt (Nat.lt_of_lt_of_le p44_0.lt p50_4)
    have g53 : n0 ≤ e1_50 := Nat.le_trans (own_sz O45) p50_4
    have O54 : Old Z n0 T50.heap := O45.keep K50q (allS g18 all0)
    obtain ⟨T55, h55, X55, e55, E55, A55, D55, -, st55⟩ := newO X50 hx hZ hown (ow hw 36 rfl) (ow hw 37 rfl) (ow hw 38 rfl) rfl (g := (mkF m 252 #[(vl p0), .second, (vl p1), .second, (vi p2), (vi p3), (vi p4), (vi p5), (vi k0), (vi k1), (vi k2), (vi yo), (vl r_5), .second, (vl r_6), .second, (vl r_7), .second, (vl r_8), .second, (vl r_9), .second, (vl r_10), .second, (vl f0), .second, (vl f1), .second, (vl f2), .second, (vi 1), .val (.int (k0 + k1)), (vl yw), .second, (vr b17), .unset, .unset, .unset, .unset, .unset] [(.ref b17)])) rfl (hb hby at_252) (by decide) (by decide)
    obtain ⟨b55, g55⟩ : ∃ z, z = T50.heap.size := ⟨_, rfl⟩
    rw [← g55] at A55 D55 st55
    have ne56 : b17 ≠ b55 := Nat.ne_of_lt (Nat.lt_of_lt_of_le p50_0.lt (Nat.le_of_eq g55.symm))
    have f58 : Exa Z T50.heap b25 s6n := (p44_0.keep K50q)
    have ne57 : b25 ≠ b55 := Nat.ne_of_lt (Nat.lt_of_lt_of_le f58.lt (Nat.le_of_eq g55.symm))
    have ne59 : e1_50 ≠ b55 := Nat.ne_of_lt (Nat.lt_of_lt_of_le p50_5.lt (Nat.le_of_eq g55.symm))
    have g60 : n0 ≤ b55 := Nat.le_trans (own_sz O54) (Nat.le_of_eq g55.symm)
    have O61 : Old Z n0 h55 := O54.ext E55
    have f62 : Fld Z h55 b55 s6n "name" s7n .null := D55 (Or.inr (ow hw 64 rfl)) (ty := (.object s8n)) (by decide)
    have f63 : Fld Z h55 b55 s6n "type" s1n .null := D55 (Or.inr (ow hw 66 rfl)) (ty := (.object s0n)) (by decide)
    have f64 : Fld Z h55 b55 s6n "low" "I" (.int 0) := D55 (Or.inr (ow hw 68 rfl)) (ty := .int) (by decide)
    have f65 : Fld Z h55 b55 s6n "high" "I" (.int 0) := D55 (Or.inr (ow hw 70 rfl)) (ty := .int) (by decide)
    have hk67 : _ ≤ h55.size := (Nat.le_trans (Nat.le_trans (Nat.le_trans hk33 K44q.1) K50q.1) E55.1)
    obtain ⟨b66, T66, h66, kk66, X66, e66, E66, hS66, hk66, hZ, hown, st66⟩ := ldcS X55 hx hZ hown (ow hw 105 rfl) (own_wS hw) e55 hS33 hk67 (g := (mkF m 256 #[(vl p0), .second, (vl p1), .second, (vi p2), (vi p3), (vi p4), (vi p5), (vi k0), (vi k1), (vi k2), (vi yo), (vl r_5), .second, (vl r_6), .second, (vl r_7), .second, (vl r_8), .second, (vl r_9), .second, (vl r_10), .second, (vl f0), .second, (vl f1), .second, (vl f2), .second, (vi 1), .val (.int (k0 + k1)), (vl yw), .second, (vr b17), .unset, .unset, .unset, .unset, .unset] [(.ref b55), (.ref b55), (.ref b17)])) rfl (hb hby at_256) (n := 4) (by decide) (by decide) (by decide) (by decide)
    have O68 : Old Z n0 h66 := O61.ext E66
    obtain ⟨T69, X69, e69, st69⟩ := getS2 X66 hx hZ hown (host := "") (Or.inl (ow hw 47 rfl)) Via.refl e66 (S_wINTEGER.ext O68.2) (g := (mkF m 258 #[(vl p0), .second, (vl p1), .second, (vi p2), (vi p3), (vi p4), (vi p5), (vi k0), (vi k1), (vi k2), (vi yo), (vl r_5), .second, (vl r_6), .second, (vl r_7), .second, (vl r_8), .second, (vl r_9), .second, (vl r_10), .second, (vl f0), .second, (vl f1), .second, (vl f2), .second, (vi 1), .val (.int (k0 + k1)), (vl yw), .second, (vr b17), .unset, .unset, .unset, .unset, .unset] [(.ref b66), (.ref b55), (.ref b55), (.ref b17)])) rfl (hb hby at_258)
    obtain ⟨yl1, hyl1⟩ : ∃ z : Int32, z = (r_9.toInt32) := ⟨_, rfl⟩
    have pre70 : ∀ t, Steps p.tables e below (T69.setTop (mkF m 264 #[(vl p0), .second, (vl p1), .second, (vi p2), (vi p3), (vi p4), (vi p5), (vi k0), (vi k1), (vi k2), (vi yo), (vl r_5), .second, (vl r_6), .second, (vl r_7), .second, (vl r_8), .second, (vl r_9), .second, (vl r_10), .second, (vl f0), .second, (vl f1), .second, (vl f2), .second, (vi 1), .val (.int (k0 + k1)), (vl yw), .second, (vr b17), .unset, .unset, .unset, .unset, .unset] [(.int yl1), (.ref wINTEGER), (.ref b66), (.ref b55), (.ref b55), (.ref b17)])) t → Steps p.tables e below (s₁.setTop (entryFrame m #[(.long p0), (.long p1), (.int p2), (.int p3), (.int p4), (.int p5)] maxLocals)) t := by
      intro t k
      rw [hyl1] at k
      refine pre38 t ?_
      show Steps p.tables e below (T36.setTop (mkF m 241 #[(vl p0), .second, (vl p1), .second, (vi p2), (vi p3), (vi p4), (vi p5), (vi k0), (vi k1), (vi k2), (vi yo), (vl r_5), .second, (vl r_6), .second, (vl r_7), .second, (vl r_8), .second, (vl r_9), .second, (vl r_10), .second, (vl f0), .second, (vl f1), .second, (vl f2), .second, (vi 1), .val (.int (k0 + k1)), (vl yw), .second, (vr b17), .unset, .unset, .unset, .unset, .unset] [(.int yh0), (.int yl0), (.ref wINTEGER), (.ref b33), (.ref b25), (.ref b25), (.ref b17)])) _
      refine st44.trans ?_
      refine st50.trans ?_
      refine XS.pop X50.here hx rfl (hb hby at_249) rfl rfl ?_
      refine XS.aload X50.here hx rfl (hb hby at_250) rfl rfl ?_
      refine st55 _ ?_
      refine XS.dup X55.here hx rfl (hb hby at_255) rfl rfl ?_
      show Steps p.tables e below (T55.setTop (mkF m 256 #[(vl p0), .second, (vl p1), .second, (vi p2), (vi p3), (vi p4), (vi p5), (vi k0), (vi k1), (vi k2), (vi yo), (vl r_5), .second, (vl r_6), .second, (vl r_7), .second, (vl r_8), .second, (vl r_9), .second, (vl r_10), .second, (vl f0), .second, (vl f1), .second, (vl f2), .second, (vi 1), .val (.int (k0 + k1)), (vl yw), .second, (vr b17), .unset, .unset, .unset, .unset, .unset] [(.ref b55), (.ref b55), (.ref b17)])) _
      refine st66 _ ?_
      refine st69 _ ?_
      refine XS.lload X69.here hx rfl (hb hby at_261) rfl ?_
      refine XS.l2i X69.here hx rfl (hb hby at_263) rfl ?_
      exact k
    obtain ⟨yh1, hyh1⟩ : ∃ z : Int32, z = ((r_9 + r_6).toInt32) := ⟨_, rfl⟩
    have pre71 : ∀ t, Steps p.tables e below (T69.setTop (mkF m 270 #[(vl p0), .second, (vl p1), .second, (vi p2), (vi p3), (vi p4), (vi p5), (vi k0), (vi k1), (vi k2), (vi yo), (vl r_5), .second, (vl r_6), .second, (vl r_7), .second, (vl r_8), .second, (vl r_9), .second, (vl r_10), .second, (vl f0), .second, (vl f1), .second, (vl f2), .second, (vi 1), .val (.int (k0 + k1)), (vl yw), .second, (vr b17), .unset, .unset, .unset, .unset, .unset] [(.int yh1), (.int yl1), (.ref wINTEGER), (.ref b66), (.ref b55), (.ref b55), (.ref b17)])) t → Steps p.tables e below (s₁.setTop (entryFrame m #[(.long p0), (.long p1), (.int p2), (.int p3), (.int p4), (.int p5)] maxLocals)) t := by
      intro t k
      rw [hyh1] at k
      refine pre70 t ?_
      show Steps p.tables e below (T69.setTop (mkF m 264 #[(vl p0), .second, (vl p1), .second, (vi p2), (vi p3), (vi p4), (vi p5), (vi k0), (vi k1), (vi k2), (vi yo), (vl r_5), .second, (vl r_6), .second, (vl r_7), .second, (vl r_8), .second, (vl r_9), .second, (vl r_10), .second, (vl f0), .second, (vl f1), .second, (vl f2), .second, (vi 1), .val (.int (k0 + k1)), (vl yw), .second, (vr b17), .unset, .unset, .unset, .unset, .unset] [(.int yl1), (.ref wINTEGER), (.ref b66), (.ref b55), (.ref b55), (.ref b17)])) _
      refine XS.lload X69.here hx rfl (hb hby at_264) rfl ?_
      refine XS.lload X69.here hx rfl (hb hby at_266) rfl ?_
      refine XS.ladd X69.here hx rfl (hb hby at_268) rfl ?_
      refine XS.l2i X69.here hx rfl (hb hby at_269) rfl ?_
      exact k
    have hle1 : ¬ yh1 < yl1 := (own_span hK1 p6_0 p9_0 hyl1 hyh1).1
    have hbt1 : bitsV yl1 yh1 = k1 := own_bits hK1 p6_0 p9_0 hyl1 hyh1
    have f72 : Exa Z h66 b55 s6n := (A55.ext E66)
    have f73 : Fld Z h66 b55 s6n "high" "I" (.int 0) := (f65.ext E66)
    have f74 : Fld Z h66 b55 s6n "low" "I" (.int 0) := (f64.ext E66)
    have f75 : Fld Z h66 b55 s6n "name" s7n .null := (f62.ext E66)
    have f76 : Fld Z h66 b55 s6n "type" s1n .null := (f63.ext E66)
    obtain ⟨_, _, ⟨T77, L77, k77, n77⟩, -, X77, ⟨Lc77, hQ77, l77, y77, z77⟩, st77⟩ := X69.specialBack hx (y := M9) rfl hown (mvT hZ (ow hw 50 rfl)) (mvT hZ (ow hw 51 rfl)) (mvT hZ (ow hw 52 rfl)) (by decide) (backOf (W := 2) (au7_0 l Z a0 hw [] wINTEGER wDOUBLE wBOOLEAN wDEFAULTCAPACITY_EMPTY_ELEMENTDATA kwDEFAULTCAPACITY_EMPTY_ELEMENTDATA hS b55 b66 yl1 yh1 h66 n0 O68 f72 f73 f74 f75 f76 hle1 g60) hZ (ow hw 52 rfl) (ow hw 38 rfl) (by decide) (by decide)) (g := (mkF m 270 #[(vl p0), .second, (vl p1), .second, (vi p2), (vi p3), (vi p4), (vi p5), (vi k0), (vi k1), (vi k2), (vi yo), (vl r_5), .second, (vl r_6), .second, (vl r_7), .second, (vl r_8), .second, (vl r_9), .second, (vl r_10), .second, (vl f0), .second, (vl f1), .second, (vl f2), .second, (vi 1), .val (.int (k0 + k1)), (vl yw), .second, (vr b17), .unset, .unset, .unset, .unset, .unset] [(.int yh1), (.int yl1), (.ref wINTEGER), (.ref b66), (.ref b55), (.ref b55), (.ref b17)])) rfl (by rw [hml]; rfl) (Steps.refl _) (a := b55) (argsL := [(.ref b66), (.ref wINTEGER), (.int yl1), (.int yh1)]) (rest := [(.ref b55), (.ref b17)]) (lenOf pd_4 rfl) rfl (by show 2 * 0 + _ ≤ _; exact Nat.le_of_eq rfl) (hb hby at_270) (fun _ _ => ⟨rfl, e69, (by decide : 8 + 0 ≤ _), (by decide : 37 + 0 ≤ _)⟩)
    dsimp only [Pt.U, Pt.locs, Pt.cells, Pt.slots] at X77 l77 y77 z77 st77 hQ77
    subst y77 z77
    obtain ⟨rfl, Nq77, K77q, p77_0, p77_1, p77_2, p77_3, p77_4⟩ := hQ77
    have N77 : Fr n0 L77 := (congrArg (Fr n0) l77).mpr (Fr.app N50 Nq77)
    have O78 : Old Z n0 T77.heap := O68.keep K77q (allS g60 all0)
    have f79 : Exa Z T77.heap b17 s2n := (((p50_0.ext E55).ext E66).keep K77q)
    have f80 : Fld Z T77.heap b17 s5n "modCount" "I" (.int 1) := (((p50_1.ext E55).ext E66).keep K77q (ninS ne56 nin0))
    have f81 : Fld Z T77.heap b17 s2n "elementData" s3n (.ref e1_50) := (((p50_2.ext E55).ext E66).keep K77q (ninS ne56 nin0))
    have f82 : Fld Z T77.heap b17 s2n "size" "I" (.int 1) := (((p50_3.ext E55).ext E66).keep K77q (ninS ne56 nin0))
    have f83 : Arv Z T77.heap e1_50 e2_50 (.object s4n) (10 : Int32) ([(.ref b25), .null, .null, .null, .null, .null, .null, .null, .null, .null]) .null := (((p50_6.ext E55).ext E66).keep K77q (ninS ne59 nin0))
    have f84 : Exa Z T77.heap e1_50 s3n := (((p50_5.ext E55).ext E66).keep K77q)
    obtain ⟨cq85, kq85, q85a, q85b, q85c⟩ := isOf hZ rfl f79
    obtain ⟨_, _, ⟨T85, L85, k85, n85⟩, -, X85, ⟨Lc85, hQ85, l85, y85, z85⟩, st85⟩ := X77.interfaceBack hx (xi := M25) (y := M13) hown (mvT hZ (ow hw 71 rfl)) (mvT hZ (ow hw 72 rfl)) (mvT hZ (ow hw 73 rfl)) (mvT hZ (ow hw 74 rfl)) (mvT hZ (ow hw 75 rfl)) (mvT hZ (ow hw 76 rfl)) (mvT hZ (ow hw 77 rfl)) (mvT hZ (ow hw 78 rfl)) (by decide) (backOf (W := 0) (au9_1 l Z a0 hw [] wINTEGER wDOUBLE wBOOLEAN wDEFAULTCAPACITY_EMPTY_ELEMENTDATA kwDEFAULTCAPACITY_EMPTY_ELEMENTDATA hS b17 b55 e1_50 e2_50 b25 T77.heap n0 O78 f79 f80 f81 f82 p77_0 f83 p50_7 f84 g18 g53 ne51) hZ (ow hw 79 rfl) (ow hw 12 rfl) (by decide) (by decide)) q85a q85b q85c (g := (mkF m 273 #[(vl p0), .second, (vl p1), .second, (vi p2), (vi p3), (vi p4), (vi p5), (vi k0), (vi k1), (vi k2), (vi yo), (vl r_5), .second, (vl r_6), .second, (vl r_7), .second, (vl r_8), .second, (vl r_9), .second, (vl r_10), .second, (vl f0), .second, (vl f1), .second, (vl f2), .second, (vi 1), .val (.int (k0 + k1)), (vl yw), .second, (vr b17), .unset, .unset, .unset, .unset, .unset] [(.ref b55), (.ref b17)])) rfl (by rw [hml]; rfl) (Steps.refl _) (argsL := [(.ref b55)]) (rest := []) (lenOf pd_9 rfl) rfl (by show 2 * 0 + _ ≤ _; exact Nat.le_of_eq rfl) (hb hby at_273) (fun _ _ => ⟨rfl, rfl, (by decide : 8 + 0 ≤ _), (by decide : 37 + 0 ≤ _)⟩)
    dsimp only [Pt.U, Pt.locs, Pt.cells, Pt.slots] at X85 l85 y85 z85 st85 hQ85
    subst y85 z85
    obtain ⟨rfl, Nq85, K85q, p85_0, p85_1, p85_2, p85_3, p85_4, p85_5, p85_6⟩ := hQ85
    have N85 : Fr n0 L85 := (congrArg (Fr n0) l85).mpr (Fr.app N77 Nq85)
    have O86 : Old Z n0 T85.heap := O78.keep K85q (allS g18 (allS g53 all0))
    obtain ⟨T87, h87, X87, e87, E87, A87, D87, -, st87⟩ := newO X85 hx hZ hown (ow hw 36 rfl) (ow hw 37 rfl) (ow hw 38 rfl) rfl (g := (mkF m 281 #[(vl p0), .second, (vl p1), .second, (vi p2), (vi p3), (vi p4), (vi p5), (vi k0), (vi k1), (vi k2), (vi yo), (vl r_5), .second, (vl r_6), .second, (vl r_7), .second, (vl r_8), .second, (vl r_9), .second, (vl r_10), .second, (vl f0), .second, (vl f1), .second, (vl f2), .second, (vi 1), .val (.int (k0 + k1)), (vl yw), .second, (vr b17), .unset, .unset, .unset, .unset, .unset] [(.ref b17)])) rfl (hb hby at_281) (by decide) (by decide)
    obtain ⟨b87, g87⟩ : ∃ z, z = T85.heap.size := ⟨_, rfl⟩
    rw [← g87] at A87 D87 st87
    have ne88 : b17 ≠ b87 := Nat.ne_of_lt (Nat.lt_of_lt_of_le p85_0.lt (Nat.le_of_eq g87.symm))
    have f90 : Exa Z T85.heap b25 s6n := ((((f58.ext E55).ext E66).keep K77q).keep K85q)
    have ne89 : b25 ≠ b87 := Nat.ne_of_lt (Nat.lt_of_lt_of_le f90.lt (Nat.le_of_eq g87.symm))
    have ne91 : e1_50 ≠ b87 := Nat.ne_of_lt (Nat.lt_of_lt_of_le p85_4.lt (Nat.le_of_eq g87.symm))
    have f93 : Exa Z T85.heap b55 s6n := (p77_0.keep K85q)
    have ne92 : b55 ≠ b87 := Nat.ne_of_lt (Nat.lt_of_lt_of_le f93.lt (Nat.le_of_eq g87.symm))
    have g94 : n0 ≤ b87 := Nat.le_trans (own_sz O86) (Nat.le_of_eq g87.symm)
    have O95 : Old Z n0 h87 := O86.ext E87
    have f96 : Fld Z h87 b87 s6n "name" s7n .null := D87 (Or.inr (ow hw 64 rfl)) (ty := (.object s8n)) (by decide)
    have f97 : Fld Z h87 b87 s6n "type" s1n .null := D87 (Or.inr (ow hw 66 rfl)) (ty := (.object s0n)) (by decide)
    have f98 : Fld Z h87 b87 s6n "low" "I" (.int 0) := D87 (Or.inr (ow hw 68 rfl)) (ty := .int) (by decide)
    have f99 : Fld Z h87 b87 s6n "high" "I" (.int 0) := D87 (Or.inr (ow hw 70 rfl)) (ty := .int) (by decide)
    have hk101 : _ ≤ h87.size := (Nat.le_trans (Nat.le_trans (Nat.le_trans hk66 K77q.1) K85q.1) E87.1)
    obtain ⟨b100, T100, h100, kk100, X100, e100, E100, hS100, hk100, hZ, hown, st100⟩ := ldcS X87 hx hZ hown (ow hw 106 rfl) (own_wS hw) e87 hS66 hk101 (g := (mkF m 285 #[(vl p0), .second, (vl p1), .second, (vi p2), (vi p3), (vi p4), (vi p5), (vi k0), (vi k1), (vi k2), (vi yo), (vl r_5), .second, (vl r_6), .second, (vl r_7), .second, (vl r_8), .second, (vl r_9), .second, (vl r_10), .second, (vl f0), .second, (vl f1), .second, (vl f2), .second, (vi 1), .val (.int (k0 + k1)), (vl yw), .second, (vr b17), .unset, .unset, .unset, .unset, .unset] [(.ref b87), (.ref b87), (.ref b17)])) rfl (hb hby at_285) (n := 4) (by decide) (by decide) (by decide) (by decide)
    have O102 : Old Z n0 h100 := O95.ext E100
    obtain ⟨T103, X103, e103, st103⟩ := getS2 X100 hx hZ hown (host := "") (Or.inl (ow hw 47 rfl)) Via.refl e100 (S_wINTEGER.ext O102.2) (g := (mkF m 287 #[(vl p0), .second, (vl p1), .second, (vi p2), (vi p3), (vi p4), (vi p5), (vi k0), (vi k1), (vi k2), (vi yo), (vl r_5), .second, (vl r_6), .second, (vl r_7), .second, (vl r_8), .second, (vl r_9), .second, (vl r_10), .second, (vl f0), .second, (vl f1), .second, (vl f2), .second, (vi 1), .val (.int (k0 + k1)), (vl yw), .second, (vr b17), .unset, .unset, .unset, .unset, .unset] [(.ref b100), (.ref b87), (.ref b87), (.ref b17)])) rfl (hb hby at_287)
    obtain ⟨yl2, hyl2⟩ : ∃ z : Int32, z = (r_10.toInt32) := ⟨_, rfl⟩
    have pre104 : ∀ t, Steps p.tables e below (T103.setTop (mkF m 293 #[(vl p0), .second, (vl p1), .second, (vi p2), (vi p3), (vi p4), (vi p5), (vi k0), (vi k1), (vi k2), (vi yo), (vl r_5), .second, (vl r_6), .second, (vl r_7), .second, (vl r_8), .second, (vl r_9), .second, (vl r_10), .second, (vl f0), .second, (vl f1), .second, (vl f2), .second, (vi 1), .val (.int (k0 + k1)), (vl yw), .second, (vr b17), .unset, .unset, .unset, .unset, .unset] [(.int yl2), (.ref wINTEGER), (.ref b100), (.ref b87), (.ref b87), (.ref b17)])) t → Steps p.tables e below (s₁.setTop (entryFrame m #[(.long p0), (.long p1), (.int p2), (.int p3), (.int p4), (.int p5)] maxLocals)) t := by
      intro t k
      rw [hyl2] at k
      refine pre71 t ?_
      show Steps p.tables e below (T69.setTop (mkF m 270 #[(vl p0), .second, (vl p1), .second, (vi p2), (vi p3), (vi p4), (vi p5), (vi k0), (vi k1), (vi k2), (vi yo), (vl r_5), .second, (vl r_6), .second, (vl r_7), .second, (vl r_8), .second, (vl r_9), .second, (vl r_10), .second, (vl f0), .second, (vl f1), .second, (vl f2), .second, (vi 1), .val (.int (k0 + k1)), (vl yw), .second, (vr b17), .unset, .unset, .unset, .unset, .unset] [(.int yh1), (.int yl1), (.ref wINTEGER), (.ref b66), (.ref b55), (.ref b55), (.ref b17)])) _
      refine st77.trans ?_
      refine st85.trans ?_
      refine XS.pop X85.here hx rfl (hb hby at_278) rfl rfl ?_
      refine XS.aload X85.here hx rfl (hb hby at_279) rfl rfl ?_
      refine st87 _ ?_
      refine XS.dup X87.here hx rfl (hb hby at_284) rfl rfl ?_
      show Steps p.tables e below (T87.setTop (mkF m 285 #[(vl p0), .second, (vl p1), .second, (vi p2), (vi p3), (vi p4), (vi p5), (vi k0), (vi k1), (vi k2), (vi yo), (vl r_5), .second, (vl r_6), .second, (vl r_7), .second, (vl r_8), .second, (vl r_9), .second, (vl r_10), .second, (vl f0), .second, (vl f1), .second, (vl f2), .second, (vi 1), .val (.int (k0 + k1)), (vl yw), .second, (vr b17), .unset, .unset, .unset, .unset, .unset] [(.ref b87), (.ref b87), (.ref b17)])) _
      refine st100 _ ?_
      refine st103 _ ?_
      refine XS.lload X103.here hx rfl (hb hby at_290) rfl ?_
      refine XS.l2i X103.here hx rfl (hb hby at_292) rfl ?_
      exact k
    obtain ⟨yh2, hyh2⟩ : ∃ z : Int32, z = ((r_10 + r_7).toInt32) := ⟨_, rfl⟩
    have pre105 : ∀ t, Steps p.tables e below (T103.setTop (mkF m 299 #[(vl p0), .second, (vl p1), .second, (vi p2), (vi p3), (vi p4), (vi p5), (vi k0), (vi k1), (vi k2), (vi yo), (vl r_5), .second, (vl r_6), .second, (vl r_7), .second, (vl r_8), .second, (vl r_9), .second, (vl r_10), .second, (vl f0), .second, (vl f1), .second, (vl f2), .second, (vi 1), .val (.int (k0 + k1)), (vl yw), .second, (vr b17), .unset, .unset, .unset, .unset, .unset] [(.int yh2), (.int yl2), (.ref wINTEGER), (.ref b100), (.ref b87), (.ref b87), (.ref b17)])) t → Steps p.tables e below (s₁.setTop (entryFrame m #[(.long p0), (.long p1), (.int p2), (.int p3), (.int p4), (.int p5)] maxLocals)) t := by
      intro t k
      rw [hyh2] at k
      refine pre104 t ?_
      show Steps p.tables e below (T103.setTop (mkF m 293 #[(vl p0), .second, (vl p1), .second, (vi p2), (vi p3), (vi p4), (vi p5), (vi k0), (vi k1), (vi k2), (vi yo), (vl r_5), .second, (vl r_6), .second, (vl r_7), .second, (vl r_8), .second, (vl r_9), .second, (vl r_10), .second, (vl f0), .second, (vl f1), .second, (vl f2), .second, (vi 1), .val (.int (k0 + k1)), (vl yw), .second, (vr b17), .unset, .unset, .unset, .unset, .unset] [(.int yl2), (.ref wINTEGER), (.ref b100), (.ref b87), (.ref b87), (.ref b17)])) _
      refine XS.lload X103.here hx rfl (hb hby at_293) rfl ?_
      refine XS.lload X103.here hx rfl (hb hby at_295) rfl ?_
      refine XS.ladd X103.here hx rfl (hb hby at_297) rfl ?_
      refine XS.l2i X103.here hx rfl (hb hby at_298) rfl ?_
      exact k
    have hle2 : ¬ yh2 < yl2 := (own_span hK2 p7_0 p10_0 hyl2 hyh2).1
    have hbt2 : bitsV yl2 yh2 = k2 := own_bits hK2 p7_0 p10_0 hyl2 hyh2
    have f106 : Exa Z h100 b87 s6n := (A87.ext E100)
    have f107 : Fld Z h100 b87 s6n "high" "I" (.int 0) := (f99.ext E100)
    have f108 : Fld Z h100 b87 s6n "low" "I" (.int 0) := (f98.ext E100)
    have f109 : Fld Z h100 b87 s6n "name" s7n .null := (f96.ext E100)
    have f110 : Fld Z h100 b87 s6n "type" s1n .null := (f97.ext E100)
    obtain ⟨_, _, ⟨T111, L111, k111, n111⟩, -, X111, ⟨Lc111, hQ111, l111, y111, z111⟩, st111⟩ := X103.specialBack hx (y := M9) rfl hown (mvT hZ (ow hw 50 rfl)) (mvT hZ (ow hw 51 rfl)) (mvT hZ (ow hw 52 rfl)) (by decide) (backOf (W := 2) (au7_0 l Z a0 hw [] wINTEGER wDOUBLE wBOOLEAN wDEFAULTCAPACITY_EMPTY_ELEMENTDATA kwDEFAULTCAPACITY_EMPTY_ELEMENTDATA hS b87 b100 yl2 yh2 h100 n0 O102 f106 f107 f108 f109 f110 hle2 g94) hZ (ow hw 52 rfl) (ow hw 38 rfl) (by decide) (by decide)) (g := (mkF m 299 #[(vl p0), .second, (vl p1), .second, (vi p2), (vi p3), (vi p4), (vi p5), (vi k0), (vi k1), (vi k2), (vi yo), (vl r_5), .second, (vl r_6), .second, (vl r_7), .second, (vl r_8), .second, (vl r_9), .second, (vl r_10), .second, (vl f0), .second, (vl f1), .second, (vl f2), .second, (vi 1), .val (.int (k0 + k1)), (vl yw), .second, (vr b17), .unset, .unset, .unset, .unset, .unset] [(.int yh2), (.int yl2), (.ref wINTEGER), (.ref b100), (.ref b87), (.ref b87), (.ref b17)])) rfl (by rw [hml]; rfl) (Steps.refl _) (a := b87) (argsL := [(.ref b100), (.ref wINTEGER), (.int yl2), (.int yh2)]) (rest := [(.ref b87), (.ref b17)]) (lenOf pd_4 rfl) rfl (by show 2 * 0 + _ ≤ _; exact Nat.le_of_eq rfl) (hb hby at_299) (fun _ _ => ⟨rfl, e103, (by decide : 11 + 0 ≤ _), (by decide : 49 + 0 ≤ _)⟩)
    dsimp only [Pt.U, Pt.locs, Pt.cells, Pt.slots] at X111 l111 y111 z111 st111 hQ111
    subst y111 z111
    obtain ⟨rfl, Nq111, K111q, p111_0, p111_1, p111_2, p111_3, p111_4⟩ := hQ111
    have N111 : Fr n0 L111 := (congrArg (Fr n0) l111).mpr (Fr.app N85 Nq111)
    have O112 : Old Z n0 T111.heap := O102.keep K111q (allS g94 all0)
    have f113 : Exa Z T111.heap b17 s2n := (((p85_0.ext E87).ext E100).keep K111q)
    have f114 : Fld Z T111.heap b17 s5n "modCount" "I" (.int 2) := (((p85_1.ext E87).ext E100).keep K111q (ninS ne88 nin0))
    have f115 : Fld Z T111.heap b17 s2n "elementData" s3n (.ref e1_50) := (((p85_2.ext E87).ext E100).keep K111q (ninS ne88 nin0))
    have f116 : Fld Z T111.heap b17 s2n "size" "I" (.int 2) := (((p85_3.ext E87).ext E100).keep K111q (ninS ne88 nin0))
    have f117 : Arv Z T111.heap e1_50 e2_50 (.object s4n) (10 : Int32) ([(.ref b25), (.ref b55), .null, .null, .null, .null, .null, .null, .null, .null]) .null := (((p85_5.ext E87).ext E100).keep K111q (ninS ne91 nin0))
    have f118 : Exa Z T111.heap e1_50 s3n := (((p85_4.ext E87).ext E100).keep K111q)
    obtain ⟨cq119, kq119, q119a, q119b, q119c⟩ := isOf hZ rfl f113
    obtain ⟨_, _, ⟨T119, L119, k119, n119⟩, -, X119, ⟨Lc119, hQ119, l119, y119, z119⟩, st119⟩ := X111.interfaceBack hx (xi := M25) (y := M13) hown (mvT hZ (ow hw 71 rfl)) (mvT hZ (ow hw 72 rfl)) (mvT hZ (ow hw 73 rfl)) (mvT hZ (ow hw 74 rfl)) (mvT hZ (ow hw 75 rfl)) (mvT hZ (ow hw 76 rfl)) (mvT hZ (ow hw 77 rfl)) (mvT hZ (ow hw 78 rfl)) (by decide) (backOf (W := 0) (au9_2 l Z a0 hw [] wINTEGER wDOUBLE wBOOLEAN wDEFAULTCAPACITY_EMPTY_ELEMENTDATA kwDEFAULTCAPACITY_EMPTY_ELEMENTDATA hS b17 b87 e1_50 e2_50 b25 b55 T111.heap n0 O112 f113 f114 f115 f116 p111_0 f117 p85_6 f118 g18 g53 ne51) hZ (ow hw 79 rfl) (ow hw 12 rfl) (by decide) (by decide)) q119a q119b q119c (g := (mkF m 302 #[(vl p0), .second, (vl p1), .second, (vi p2), (vi p3), (vi p4), (vi p5), (vi k0), (vi k1), (vi k2), (vi yo), (vl r_5), .second, (vl r_6), .second, (vl r_7), .second, (vl r_8), .second, (vl r_9), .second, (vl r_10), .second, (vl f0), .second, (vl f1), .second, (vl f2), .second, (vi 1), .val (.int (k0 + k1)), (vl yw), .second, (vr b17), .unset, .unset, .unset, .unset, .unset] [(.ref b87), (.ref b17)])) rfl (by rw [hml]; rfl) (Steps.refl _) (argsL := [(.ref b87)]) (rest := []) (lenOf pd_9 rfl) rfl (by show 2 * 0 + _ ≤ _; exact Nat.le_of_eq rfl) (hb hby at_302) (fun _ _ => ⟨rfl, rfl, (by decide : 11 + 0 ≤ _), (by decide : 49 + 0 ≤ _)⟩)
    dsimp only [Pt.U, Pt.locs, Pt.cells, Pt.slots] at X119 l119 y119 z119 st119 hQ119
    subst y119 z119
    obtain ⟨rfl, Nq119, K119q, p119_0, p119_1, p119_2, p119_3, p119_4, p119_5, p119_6⟩ := hQ119
    have N119 : Fr n0 L119 := (congrArg (Fr n0) l119).mpr (Fr.app N111 Nq119)
    have O120 : Old Z n0 T119.heap := O112.keep K119q (allS g18 (allS g53 all0))
    obtain ⟨T121, h121, X121, e121, E121, A121, D121, -, st121⟩ := newO X119 hx hZ hown (ow hw 107 rfl) (ow hw 108 rfl) (ow hw 109 rfl) rfl (g := (mkF m 308 #[(vl p0), .second, (vl p1), .second, (vi p2), (vi p3), (vi p4), (vi p5), (vi k0), (vi k1), (vi k2), (vi yo), (vl r_5), .second, (vl r_6), .second, (vl r_7), .second, (vl r_8), .second, (vl r_9), .second, (vl r_10), .second, (vl f0), .second, (vl f1), .second, (vl f2), .second, (vi 1), .val (.int (k0 + k1)), (vl yw), .second, (vr b17), .unset, .unset, .unset, .unset, .unset] [])) rfl (hb hby at_308) (by decide) (by decide)
    obtain ⟨b121, g121⟩ : ∃ z, z = T119.heap.size := ⟨_, rfl⟩
    rw [← g121] at A121 D121 st121
    have ne122 : b17 ≠ b121 := Nat.ne_of_lt (Nat.lt_of_lt_of_le p119_0.lt (Nat.le_of_eq g121.symm))
    have f124 : Exa Z T119.heap b25 s6n := ((((f90.ext E87).ext E100).keep K111q).keep K119q)
    have ne123 : b25 ≠ b121 := Nat.ne_of_lt (Nat.lt_of_lt_of_le f124.lt (Nat.le_of_eq g121.symm))
    have ne125 : e1_50 ≠ b121 := Nat.ne_of_lt (Nat.lt_of_lt_of_le p119_4.lt (Nat.le_of_eq g121.symm))
    have f127 : Exa Z T119.heap b55 s6n := ((((f93.ext E87).ext E100).keep K111q).keep K119q)
    have ne126 : b55 ≠ b121 := Nat.ne_of_lt (Nat.lt_of_lt_of_le f127.lt (Nat.le_of_eq g121.symm))
    have f129 : Exa Z T119.heap b87 s6n := (p111_0.keep K119q)
    have ne128 : b87 ≠ b121 := Nat.ne_of_lt (Nat.lt_of_lt_of_le f129.lt (Nat.le_of_eq g121.symm))
    have g130 : n0 ≤ b121 := Nat.le_trans (own_sz O120) (Nat.le_of_eq g121.symm)
    have O131 : Old Z n0 h121 := O120.ext E121
    have f132 : Fld Z h121 b121 s9n "low" "[I" .null := D121 (Or.inr (ow hw 124 rfl)) (ty := (.array .int)) (by decide)
    have f133 : Fld Z h121 b121 s9n "word" "[I" .null := D121 (Or.inr (ow hw 126 rfl)) (ty := (.array .int)) (by decide)
    have f134 : Fld Z h121 b121 s9n "shift" "[I" .null := D121 (Or.inr (ow hw 128 rfl)) (ty := (.array .int)) (by decide)
    have f135 : Fld Z h121 b121 s9n "mask" "[J" .null := D121 (Or.inr (ow hw 131 rfl)) (ty := (.array .long)) (by decide)
    have f136 : Fld Z h121 b121 s9n s10n "I" (.int 0) := D121 (Or.inr (ow hw 176 rfl)) (ty := .int) (by decide)
    have f137 : Exa Z h121 b17 s2n := (p119_0.ext E121)
    have f138 : Fld Z h121 b17 s2n "elementData" s3n (.ref e1_50) := (p119_2.ext E121)
    have f139 : Fld Z h121 b17 s2n "size" "I" (.int 3) := (p119_3.ext E121)
    have f140 : Arv Z h121 e1_50 e2_50 (.object s4n) (10 : Int32) ([(.ref b25), (.ref b55), (.ref b87), .null, .null, .null, .null, .null, .null, .null]) .null := (p119_5.ext E121)
    have f141 : Exa Z h121 b25 s6n := (f124.ext E121)
    have f142 : Fld Z h121 b25 s6n "high" "I" (.int yh0) := ((((((((((p44_1.keep K50q (ninS (Ne.symm ne26) nin0)).ext E55).ext E66).keep K77q (ninS ne57 nin0)).keep K85q (ninS (Ne.symm ne26) (ninS ne52 nin0))).ext E87).ext E100).keep K111q (ninS ne89 nin0)).keep K119q (ninS (Ne.symm ne26) (ninS ne52 nin0))).ext E121)
    have f143 : Fld Z h121 b25 s6n "low" "I" (.int yl0) := ((((((((((p44_2.keep K50q (ninS (Ne.symm ne26) nin0)).ext E55).ext E66).keep K77q (ninS ne57 nin0)).keep K85q (ninS (Ne.symm ne26) (ninS ne52 nin0))).ext E87).ext E100).keep K111q (ninS ne89 nin0)).keep K119q (ninS (Ne.symm ne26) (ninS ne52 nin0))).ext E121)
    have f144 : Exa Z h121 b55 s6n := (f127.ext E121)
    have f145 : Fld Z h121 b55 s6n "high" "I" (.int yh1) := ((((((p77_1.keep K85q (ninS (Ne.symm ne56) (ninS (Ne.symm ne59) nin0))).ext E87).ext E100).keep K111q (ninS ne92 nin0)).keep K119q (ninS (Ne.symm ne56) (ninS (Ne.symm ne59) nin0))).ext E121)
    have f146 : Fld Z h121 b55 s6n "low" "I" (.int yl1) := ((((((p77_2.keep K85q (ninS (Ne.symm ne56) (ninS (Ne.symm ne59) nin0))).ext E87).ext E100).keep K111q (ninS ne92 nin0)).keep K119q (ninS (Ne.symm ne56) (ninS (Ne.symm ne59) nin0))).ext E121)
    have f147 : Exa Z h121 b87 s6n := (f129.ext E121)
    have f148 : Fld Z h121 b87 s6n "high" "I" (.int yh2) := ((p111_1.keep K119q (ninS (Ne.symm ne88) (ninS (Ne.symm ne91) nin0))).ext E121)
    have f149 : Fld Z h121 b87 s6n "low" "I" (.int yl2) := ((p111_2.keep K119q (ninS (Ne.symm ne88) (ninS (Ne.symm ne91) nin0))).ext E121)
    obtain ⟨_, _, ⟨T150, L150, k150, n150⟩, -, X150, ⟨Lc150, hQ150, l150, y150, z150⟩, st150⟩ := X121.specialBack hx (y := M21) rfl hown (mvT hZ (ow hw 110 rfl)) (mvT hZ (ow hw 111 rfl)) (mvT hZ (ow hw 112 rfl)) (by decide) (backOf (W := 1) (au14_0 l Z a0 hw [] wINTEGER wDOUBLE wBOOLEAN wDEFAULTCAPACITY_EMPTY_ELEMENTDATA kwDEFAULTCAPACITY_EMPTY_ELEMENTDATA hS b121 b17 k0 k1 k2 e1_50 e2_50 b25 b55 b87 yh0 yl0 yh1 yl1 yh2 yl2 h121 n0 O131 A121 f132 f135 f134 f133 f136 f137 f138 f139 f140 f141 f142 f143 f144 f145 f146 f147 f148 f149 hA hB hC hbt0 hbt1 hbt2 g130 (Ne.symm ne122) (Ne.symm ne125) (Ne.symm ne123) (Ne.symm ne126) (Ne.symm ne128)) hZ (ow hw 112 rfl) (ow hw 109 rfl) (by decide) (by decide)) (g := (mkF m 314 #[(vl p0), .second, (vl p1), .second, (vi p2), (vi p3), (vi p4), (vi p5), (vi k0), (vi k1), (vi k2), (vi yo), (vl r_5), .second, (vl r_6), .second, (vl r_7), .second, (vl r_8), .second, (vl r_9), .second, (vl r_10), .second, (vl f0), .second, (vl f1), .second, (vl f2), .second, (vi 1), .val (.int (k0 + k1)), (vl yw), .second, (vr b17), .unset, .unset, .unset, .unset, .unset] [(.ref b17), (.ref b121), (.ref b121)])) rfl (by rw [hml]; rfl) (Steps.refl _) (a := b121) (argsL := [(.ref b17)]) (rest := [(.ref b121)]) (lenOf pd_14 rfl) rfl (by show 2 * 0 + _ ≤ _; exact Nat.le_of_eq rfl) (hb hby at_314) (fun _ _ => ⟨rfl, e121, (by decide : 12 + 4 ≤ _), (by decide : 54 + 12 ≤ _)⟩)
    dsimp only [Pt.U, Pt.locs, Pt.cells, Pt.slots] at X150 l150 y150 z150 st150 hQ150
    subst y150 z150
    obtain ⟨e1_150, e2_150, e3_150, e4_150, e5_150, e6_150, e7_150, e8_150, rfl, Nq150, K150q, p150_0, p150_1, p150_2, p150_3, p150_4, p150_5, p150_6, p150_7, p150_8, p150_9, p150_10, p150_11, p150_12, p150_13, p150_14, p150_15, p150_16, p150_17, p150_18, p150_19, p150_20, p150_21, p150_22, p150_23⟩ := hQ150
    have N150 : Fr n0 L150 := (congrArg (Fr n0) l150).mpr (Fr.app N119 Nq150)
    have ne151 : b17 ≠ e1_150 := Nat.ne_of_lt (Nat.lt_of_lt_of_le f137.lt p150_6)
    have ne152 : b25 ≠ e1_150 := Nat.ne_of_lt (Nat.lt_of_lt_of_le f141.lt p150_6)
    have f154 : Exa Z h121 e1_50 s3n := (p119_4.ext E121)
    have ne153 : e1_50 ≠ e1_150 := Nat.ne_of_lt (Nat.lt_of_lt_of_le f154.lt p150_6)
    have ne155 : b55 ≠ e1_150 := Nat.ne_of_lt (Nat.lt_of_lt_of_le f144.lt p150_6)
    have ne156 : b87 ≠ e1_150 := Nat.ne_of_lt (Nat.lt_of_lt_of_le f147.lt p150_6)
    have ne157 : b121 ≠ e1_150 := Nat.ne_of_lt (Nat.lt_of_lt_of_le A121.lt p150_6)
    have g158 : n0 ≤ e1_150 := Nat.le_trans (own_sz O131) p150_6
    have ne159 : b17 ≠ e2_150 := Nat.ne_of_lt (Nat.lt_of_lt_of_le f137.lt p150_9)
    have ne160 : b25 ≠ e2_150 := Nat.ne_of_lt (Nat.lt_of_lt_of_le f141.lt p150_9)
    have ne161 : e1_50 ≠ e2_150 := Nat.ne_of_lt (Nat.lt_of_lt_of_le f154.lt p150_9)
    have ne162 : b55 ≠ e2_150 := Nat.ne_of_lt (Nat.lt_of_lt_of_le f144.lt p150_9)
    have ne163 : b87 ≠ e2_150 := Nat.ne_of_lt (Nat.lt_of_lt_of_le f147.lt p150_9)
    have ne164 : b121 ≠ e2_150 := Nat.ne_of_lt (Nat.lt_of_lt_of_le A121.lt p150_9)
    have g165 : n0 ≤ e2_150 := Nat.le_trans (own_sz O131) p150_9
    have ne166 : b17 ≠ e3_150 := Nat.ne_of_lt (Nat.lt_of_lt_of_le f137.lt p150_12)
    have ne167 : b25 ≠ e3_150 := Nat.ne_of_lt (Nat.lt_of_lt_of_le f141.lt p150_12)
    have ne168 : e1_50 ≠ e3_150 := Nat.ne_of_lt (Nat.lt_of_lt_of_le f154.lt p150_12)
    have ne169 : b55 ≠ e3_150 := Nat.ne_of_lt (Nat.lt_of_lt_of_le f144.lt p150_12)
    have ne170 : b87 ≠ e3_150 := Nat.ne_of_lt (Nat.lt_of_lt_of_le f147.lt p150_12)
    have ne171 : b121 ≠ e3_150 := Nat.ne_of_lt (Nat.lt_of_lt_of_le A121.lt p150_12)
    have g172 : n0 ≤ e3_150 := Nat.le_trans (own_sz O131) p150_12
    have ne173 : b17 ≠ e4_150 := Nat.ne_of_lt (Nat.lt_of_lt_of_le f137.lt p150_15)
    have ne174 : b25 ≠ e4_150 := Nat.ne_of_lt (Nat.lt_of_lt_of_le f141.lt p150_15)
    have ne175 : e1_50 ≠ e4_150 := Nat.ne_of_lt (Nat.lt_of_lt_of_le f154.lt p150_15)
    have ne176 : b55 ≠ e4_150 := Nat.ne_of_lt (Nat.lt_of_lt_of_le f144.lt p150_15)
    have ne177 : b87 ≠ e4_150 := Nat.ne_of_lt (Nat.lt_of_lt_of_le f147.lt p150_15)
    have ne178 : b121 ≠ e4_150 := Nat.ne_of_lt (Nat.lt_of_lt_of_le A121.lt p150_15)
    have g179 : n0 ≤ e4_150 := Nat.le_trans (own_sz O131) p150_15
    have O180 : Old Z n0 T150.heap := O131.keep K150q (allS g130 all0)
    obtain ⟨T181, h181, k181, X181, e181, E181, A181, Z181, st181⟩ := newPE X150 hx hZ (ow hw 129 rfl) rfl (g := (mkF m 320 #[(vl p0), .second, (vl p1), .second, (vi p2), (vi p3), (vi p4), (vi p5), (vi k0), (vi k1), (vi k2), (vi yo), (vl r_5), .second, (vl r_6), .second, (vl r_7), .second, (vl r_8), .second, (vl r_9), .second, (vl r_10), .second, (vl f0), .second, (vl f1), .second, (vl f2), .second, (vi 1), .val (.int (k0 + k1)), (vl yw), .second, (vr b17), (vr b121), .unset, .unset, .unset, .unset] [(.int 4)])) rfl (hb hby at_320) rfl (by decide) (cap := 4) (by decide) (by decide) (by decide) (by decide) (ad := "[J") rfl
    obtain ⟨b181, g181⟩ : ∃ z, z = T150.heap.size := ⟨_, rfl⟩
    rw [← g181] at A181 Z181 st181
    have f183 : Exa Z T150.heap b17 s2n := (f137.keep K150q)
    have ne182 : b17 ≠ b181 := Nat.ne_of_lt (Nat.lt_of_lt_of_le f183.lt (Nat.le_of_eq g181.symm))
    have f185 : Exa Z T150.heap b25 s6n := (f141.keep K150q)
    have ne184 : b25 ≠ b181 := Nat.ne_of_lt (Nat.lt_of_lt_of_le f185.lt (Nat.le_of_eq g181.symm))
    have f187 : Exa Z T150.heap e1_50 s3n := (f154.keep K150q)
    have ne186 : e1_50 ≠ b181 := Nat.ne_of_lt (Nat.lt_of_lt_of_le f187.lt (Nat.le_of_eq g181.symm))
    have f189 : Exa Z T150.heap b55 s6n := (f144.keep K150q)
    have ne188 : b55 ≠ b181 := Nat.ne_of_lt (Nat.lt_of_lt_of_le f189.lt (Nat.le_of_eq g181.symm))
    have f191 : Exa Z T150.heap b87 s6n := (f147.keep K150q)
    have ne190 : b87 ≠ b181 := Nat.ne_of_lt (Nat.lt_of_lt_of_le f191.lt (Nat.le_of_eq g181.symm))
    have ne192 : b121 ≠ b181 := Nat.ne_of_lt (Nat.lt_of_lt_of_le p150_0.lt (Nat.le_of_eq g181.symm))
    have ne193 : e1_150 ≠ b181 := Nat.ne_of_lt (Nat.lt_of_lt_of_le p150_7.lt (Nat.le_of_eq g181.symm))
    have ne194 : e2_150 ≠ b181 := Nat.ne_of_lt (Nat.lt_of_lt_of_le p150_10.lt (Nat.le_of_eq g181.symm))
    have ne195 : e3_150 ≠ b181 := Nat.ne_of_lt (Nat.lt_of_lt_of_le p150_13.lt (Nat.le_of_eq g181.symm))
    have ne196 : e4_150 ≠ b181 := Nat.ne_of_lt (Nat.lt_of_lt_of_le p150_16.lt (Nat.le_of_eq g181.symm))
    have g197 : n0 ≤ b181 := Nat.le_trans (own_sz O180) (Nat.le_of_eq g181.symm)
    have O198 : Old Z n0 h181 := O180.ext E181
    have V181 : Arv Z h181 b181 k181 .long (4 : Int32) ([(.long 0), (.long 0), (.long 0), (.long 0)]) (.long 0) := (Arv.new A181 (by decide)).pad (pad_rep [] (.long 0) 4)
    obtain ⟨cl199, Ar199, qc199, Sz199, Nn199, Ha199, Gg199⟩ := (id V181)
    have hin199 : ¬ ((0 : Int32) < 0 ∨ cl199.slots.size ≤ ((0 : Int32)).toNatClampNeg) := inb_of Sz199 ⟨by decide, by decide⟩
    obtain ⟨T199, h199, X199, e199, W199, st199⟩ := stJ X181 hx hZ e181 Ar199 (j := (0 : Int32)) hin199 (g := (mkF m 333 #[(vl p0), .second, (vl p1), .second, (vi p2), (vi p3), (vi p4), (vi p5), (vi k0), (vi k1), (vi k2), (vi yo), (vl r_5), .second, (vl r_6), .second, (vl r_7), .second, (vl r_8), .second, (vl r_9), .second, (vl r_10), .second, (vl f0), .second, (vl f1), .second, (vl f2), .second, (vi 1), .val (.int (k0 + k1)), (vl yw), .second, (vr b17), (vr b121), (vr b181), .unset, .unset, .unset] [(.long (yw ^^^ (-1 : Int64))), (.int 0), (.ref b181)])) rfl rfl (hb hby at_333)
    have O200 : Old Z n0 h199 := O198.wr W199 g197
    have V199 : Arv Z h199 b181 k181 .long (4 : Int32) ([(.long (yw ^^^ (-1 : Int64))), (.long 0), (.long 0), (.long 0)]) (.long 0) := (Arv.set Ar199 qc199 Sz199 Nn199 Ha199 Gg199 (v := (.long (yw ^^^ (-1 : Int64)))) rfl W199 0 rfl (Nat.le_of_ble_eq_true rfl))
    have N199 := Fr.snoc X199 N150 g197
    obtain ⟨cl201, Ar201, qc201, Sz201, Nn201, Ha201, Gg201⟩ := (id V199)
    have hin201 : ¬ ((1 : Int32) < 0 ∨ cl201.slots.size ≤ ((1 : Int32)).toNatClampNeg) := inb_of Sz201 ⟨by decide, by decide⟩
    obtain ⟨T201, h201, X201, e201, W201, st201⟩ := stJ X199 hx hZ e199 Ar201 (j := (1 : Int32)) hin201 (g := (mkF m 343 #[(vl p0), .second, (vl p1), .second, (vi p2), (vi p3), (vi p4), (vi p5), (vi k0), (vi k1), (vi k2), (vi yo), (vl r_5), .second, (vl r_6), .second, (vl r_7), .second, (vl r_8), .second, (vl r_9), .second, (vl r_10), .second, (vl f0), .second, (vl f1), .second, (vl f2), .second, (vi 1), .val (.int (k0 + k1)), (vl yw), .second, (vr b17), (vr b121), (vr b181), .unset, .unset, .unset] [(.long (yw ^^^ (-1 : Int64))), (.int 1), (.ref b181)])) rfl rfl (hb hby at_343)
    have O202 : Old Z n0 h201 := O200.wr W201 g197
    have V201 : Arv Z h201 b181 k181 .long (4 : Int32) ([(.long (yw ^^^ (-1 : Int64))), (.long (yw ^^^ (-1 : Int64))), (.long 0), (.long 0)]) (.long 0) := (Arv.set Ar201 qc201 Sz201 Nn201 Ha201 Gg201 (v := (.long (yw ^^^ (-1 : Int64)))) rfl W201 1 rfl (Nat.le_of_ble_eq_true rfl))
    have N201 := Fr.snoc X201 N199 g197
    obtain ⟨cl203, Ar203, qc203, Sz203, Nn203, Ha203, Gg203⟩ := (id V201)
    have hin203 : ¬ ((2 : Int32) < 0 ∨ cl203.slots.size ≤ ((2 : Int32)).toNatClampNeg) := inb_of Sz203 ⟨by decide, by decide⟩
    obtain ⟨T203, h203, X203, e203, W203, st203⟩ := stJ X201 hx hZ e201 Ar203 (j := (2 : Int32)) hin203 (g := (mkF m 353 #[(vl p0), .second, (vl p1), .second, (vi p2), (vi p3), (vi p4), (vi p5), (vi k0), (vi k1), (vi k2), (vi yo), (vl r_5), .second, (vl r_6), .second, (vl r_7), .second, (vl r_8), .second, (vl r_9), .second, (vl r_10), .second, (vl f0), .second, (vl f1), .second, (vl f2), .second, (vi 1), .val (.int (k0 + k1)), (vl yw), .second, (vr b17), (vr b121), (vr b181), .unset, .unset, .unset] [(.long (yw ^^^ (-1 : Int64))), (.int 2), (.ref b181)])) rfl rfl (hb hby at_353)
    have O204 : Old Z n0 h203 := O202.wr W203 g197
    have V203 : Arv Z h203 b181 k181 .long (4 : Int32) ([(.long (yw ^^^ (-1 : Int64))), (.long (yw ^^^ (-1 : Int64))), (.long (yw ^^^ (-1 : Int64))), (.long 0)]) (.long 0) := (Arv.set Ar203 qc203 Sz203 Nn203 Ha203 Gg203 (v := (.long (yw ^^^ (-1 : Int64)))) rfl W203 2 rfl (Nat.le_of_ble_eq_true rfl))
    have N203 := Fr.snoc X203 N201 g197
    obtain ⟨cl205, Ar205, qc205, Sz205, Nn205, Ha205, Gg205⟩ := (id V203)
    have hin205 : ¬ ((3 : Int32) < 0 ∨ cl205.slots.size ≤ ((3 : Int32)).toNatClampNeg) := inb_of Sz205 ⟨by decide, by decide⟩
    obtain ⟨T205, h205, X205, e205, W205, st205⟩ := stJ X203 hx hZ e203 Ar205 (j := (3 : Int32)) hin205 (g := (mkF m 363 #[(vl p0), .second, (vl p1), .second, (vi p2), (vi p3), (vi p4), (vi p5), (vi k0), (vi k1), (vi k2), (vi yo), (vl r_5), .second, (vl r_6), .second, (vl r_7), .second, (vl r_8), .second, (vl r_9), .second, (vl r_10), .second, (vl f0), .second, (vl f1), .second, (vl f2), .second, (vi 1), .val (.int (k0 + k1)), (vl yw), .second, (vr b17), (vr b121), (vr b181), .unset, .unset, .unset] [(.long (yw ^^^ (-1 : Int64))), (.int 3), (.ref b181)])) rfl rfl (hb hby at_363)
    have O206 : Old Z n0 h205 := O204.wr W205 g197
    have V205 : Arv Z h205 b181 k181 .long (4 : Int32) ([(.long (yw ^^^ (-1 : Int64))), (.long (yw ^^^ (-1 : Int64))), (.long (yw ^^^ (-1 : Int64))), (.long (yw ^^^ (-1 : Int64)))]) (.long 0) := (Arv.set Ar205 qc205 Sz205 Nn205 Ha205 Gg205 (v := (.long (yw ^^^ (-1 : Int64)))) rfl W205 3 rfl (Nat.le_of_ble_eq_true rfl))
    have N205 := Fr.snoc X205 N203 g197
    have pre207 : ∀ t, Steps p.tables e below (T205.setTop (mkF m 364 #[(vl p0), .second, (vl p1), .second, (vi p2), (vi p3), (vi p4), (vi p5), (vi k0), (vi k1), (vi k2), (vi yo), (vl r_5), .second, (vl r_6), .second, (vl r_7), .second, (vl r_8), .second, (vl r_9), .second, (vl r_10), .second, (vl f0), .second, (vl f1), .second, (vl f2), .second, (vi 1), .val (.int (k0 + k1)), (vl yw), .second, (vr b17), (vr b121), (vr b181), .unset, .unset, .unset] [])) t → Steps p.tables e below (s₁.setTop (entryFrame m #[(.long p0), (.long p1), (.int p2), (.int p3), (.int p4), (.int p5)] maxLocals)) t := by
      intro t k
      refine pre105 t ?_
      show Steps p.tables e below (T103.setTop (mkF m 299 #[(vl p0), .second, (vl p1), .second, (vi p2), (vi p3), (vi p4), (vi p5), (vi k0), (vi k1), (vi k2), (vi yo), (vl r_5), .second, (vl r_6), .second, (vl r_7), .second, (vl r_8), .second, (vl r_9), .second, (vl r_10), .second, (vl f0), .second, (vl f1), .second, (vl f2), .second, (vi 1), .val (.int (k0 + k1)), (vl yw), .second, (vr b17), .unset, .unset, .unset, .unset, .unset] [(.int yh2), (.int yl2), (.ref wINTEGER), (.ref b100), (.ref b87), (.ref b87), (.ref b17)])) _
      refine st111.trans ?_
      refine st119.trans ?_
      refine XS.pop X119.here hx rfl (hb hby at_307) rfl rfl ?_
      refine st121 _ ?_
      refine XS.dup X121.here hx rfl (hb hby at_311) rfl rfl ?_
      refine XS.aload X121.here hx rfl (hb hby at_312) rfl rfl ?_
      show Steps p.tables e below (T121.setTop (mkF m 314 #[(vl p0), .second, (vl p1), .second, (vi p2), (vi p3), (vi p4), (vi p5), (vi k0), (vi k1), (vi k2), (vi yo), (vl r_5), .second, (vl r_6), .second, (vl r_7), .second, (vl r_8), .second, (vl r_9), .second, (vl r_10), .second, (vl f0), .second, (vl f1), .second, (vl f2), .second, (vi 1), .val (.int (k0 + k1)), (vl yw), .second, (vr b17), .unset, .unset, .unset, .unset, .unset] [(.ref b17), (.ref b121), (.ref b121)])) _
      refine st150.trans ?_
      refine XS.astore X150.here hx rfl (hb hby at_317) rfl rfl (l' := #[(vl p0), .second, (vl p1), .second, (vi p2), (vi p3), (vi p4), (vi p5), (vi k0), (vi k1), (vi k2), (vi yo), (vl r_5), .second, (vl r_6), .second, (vl r_7), .second, (vl r_8), .second, (vl r_9), .second, (vl r_10), .second, (vl f0), .second, (vl f1), .second, (vl f2), .second, (vi 1), .val (.int (k0 + k1)), (vl yw), .second, (vr b17), (vr b121), .unset, .unset, .unset, .unset]) rfl ?_
      refine XS.iconst X150.here hx rfl (hb hby at_319) ?_
      refine st181 _ ?_
      refine XS.astore X181.here hx rfl (hb hby at_322) rfl rfl (l' := #[(vl p0), .second, (vl p1), .second, (vi p2), (vi p3), (vi p4), (vi p5), (vi k0), (vi k1), (vi k2), (vi yo), (vl r_5), .second, (vl r_6), .second, (vl r_7), .second, (vl r_8), .second, (vl r_9), .second, (vl r_10), .second, (vl f0), .second, (vl f1), .second, (vl f2), .second, (vi 1), .val (.int (k0 + k1)), (vl yw), .second, (vr b17), (vr b121), (vr b181), .unset, .unset, .unset]) rfl ?_
      refine XS.aload X181.here hx rfl (hb hby at_324) rfl rfl ?_
      show Steps p.tables e below (T181.setTop (mkF m 326 #[(vl p0), .second, (vl p1), .second, (vi p2), (vi p3), (vi p4), (vi p5), (vi k0), (vi k1), (vi k2), (vi yo), (vl r_5), .second, (vl r_6), .second, (vl r_7), .second, (vl r_8), .second, (vl r_9), .second, (vl r_10), .second, (vl f0), .second, (vl f1), .second, (vl f2), .second, (vi 1), .val (.int (k0 + k1)), (vl yw), .second, (vr b17), (vr b121), (vr b181), .unset, .unset, .unset] [(.ref b181)])) _
      refine XS.iconst X181.here hx rfl (hb hby at_326) ?_
      refine XS.lload X181.here hx rfl (hb hby at_327) rfl ?_
      refine X181.ldc2Long hx hown (mvT hZ (ow hw 9 rfl)) (g := (mkF m 329 #[(vl p0), .second, (vl p1), .second, (vi p2), (vi p3), (vi p4), (vi p5), (vi k0), (vi k1), (vi k2), (vi yo), (vl r_5), .second, (vl r_6), .second, (vl r_7), .second, (vl r_8), .second, (vl r_9), .second, (vl r_10), .second, (vl f0), .second, (vl f1), .second, (vl f2), .second, (vi 1), .val (.int (k0 + k1)), (vl yw), .second, (vr b17), (vr b121), (vr b181), .unset, .unset, .unset] [(.long yw), (.int 0), (.ref b181)])) rfl (hb hby at_329) _ ?_
      refine XS.lxor X181.here hx rfl (hb hby at_332) rfl ?_
      refine st199 _ ?_
      refine XS.aload X199.here hx rfl (hb hby at_334) rfl rfl ?_
      show Steps p.tables e below (T199.setTop (mkF m 336 #[(vl p0), .second, (vl p1), .second, (vi p2), (vi p3), (vi p4), (vi p5), (vi k0), (vi k1), (vi k2), (vi yo), (vl r_5), .second, (vl r_6), .second, (vl r_7), .second, (vl r_8), .second, (vl r_9), .second, (vl r_10), .second, (vl f0), .second, (vl f1), .second, (vl f2), .second, (vi 1), .val (.int (k0 + k1)), (vl yw), .second, (vr b17), (vr b121), (vr b181), .unset, .unset, .unset] [(.ref b181)])) _
      refine XS.iconst X199.here hx rfl (hb hby at_336) ?_
      refine XS.lload X199.here hx rfl (hb hby at_337) rfl ?_
      refine X199.ldc2Long hx hown (mvT hZ (ow hw 9 rfl)) (g := (mkF m 339 #[(vl p0), .second, (vl p1), .second, (vi p2), (vi p3), (vi p4), (vi p5), (vi k0), (vi k1), (vi k2), (vi yo), (vl r_5), .second, (vl r_6), .second, (vl r_7), .second, (vl r_8), .second, (vl r_9), .second, (vl r_10), .second, (vl f0), .second, (vl f1), .second, (vl f2), .second, (vi 1), .val (.int (k0 + k1)), (vl yw), .second, (vr b17), (vr b121), (vr b181), .unset, .unset, .unset] [(.long yw), (.int 1), (.ref b181)])) rfl (hb hby at_339) _ ?_
      refine XS.lxor X199.here hx rfl (hb hby at_342) rfl ?_
      refine st201 _ ?_
      refine XS.aload X201.here hx rfl (hb hby at_344) rfl rfl ?_
      show Steps p.tables e below (T201.setTop (mkF m 346 #[(vl p0), .second, (vl p1), .second, (vi p2), (vi p3), (vi p4), (vi p5), (vi k0), (vi k1), (vi k2), (vi yo), (vl r_5), .second, (vl r_6), .second, (vl r_7), .second, (vl r_8), .second, (vl r_9), .second, (vl r_10), .second, (vl f0), .second, (vl f1), .second, (vl f2), .second, (vi 1), .val (.int (k0 + k1)), (vl yw), .second, (vr b17), (vr b121), (vr b181), .unset, .unset, .unset] [(.ref b181)])) _
      refine XS.iconst X201.here hx rfl (hb hby at_346) ?_
      refine XS.lload X201.here hx rfl (hb hby at_347) rfl ?_
      refine X201.ldc2Long hx hown (mvT hZ (ow hw 9 rfl)) (g := (mkF m 349 #[(vl p0), .second, (vl p1), .second, (vi p2), (vi p3), (vi p4), (vi p5), (vi k0), (vi k1), (vi k2), (vi yo), (vl r_5), .second, (vl r_6), .second, (vl r_7), .second, (vl r_8), .second, (vl r_9), .second, (vl r_10), .second, (vl f0), .second, (vl f1), .second, (vl f2), .second, (vi 1), .val (.int (k0 + k1)), (vl yw), .second, (vr b17), (vr b121), (vr b181), .unset, .unset, .unset] [(.long yw), (.int 2), (.ref b181)])) rfl (hb hby at_349) _ ?_
      refine XS.lxor X201.here hx rfl (hb hby at_352) rfl ?_
      refine st203 _ ?_
      refine XS.aload X203.here hx rfl (hb hby at_354) rfl rfl ?_
      show Steps p.tables e below (T203.setTop (mkF m 356 #[(vl p0), .second, (vl p1), .second, (vi p2), (vi p3), (vi p4), (vi p5), (vi k0), (vi k1), (vi k2), (vi yo), (vl r_5), .second, (vl r_6), .second, (vl r_7), .second, (vl r_8), .second, (vl r_9), .second, (vl r_10), .second, (vl f0), .second, (vl f1), .second, (vl f2), .second, (vi 1), .val (.int (k0 + k1)), (vl yw), .second, (vr b17), (vr b121), (vr b181), .unset, .unset, .unset] [(.ref b181)])) _
      refine XS.iconst X203.here hx rfl (hb hby at_356) ?_
      refine XS.lload X203.here hx rfl (hb hby at_357) rfl ?_
      refine X203.ldc2Long hx hown (mvT hZ (ow hw 9 rfl)) (g := (mkF m 359 #[(vl p0), .second, (vl p1), .second, (vi p2), (vi p3), (vi p4), (vi p5), (vi k0), (vi k1), (vi k2), (vi yo), (vl r_5), .second, (vl r_6), .second, (vl r_7), .second, (vl r_8), .second, (vl r_9), .second, (vl r_10), .second, (vl f0), .second, (vl f1), .second, (vl f2), .second, (vi 1), .val (.int (k0 + k1)), (vl yw), .second, (vr b17), (vr b121), (vr b181), .unset, .unset, .unset] [(.long yw), (.int 3), (.ref b181)])) rfl (hb hby at_359) _ ?_
      refine XS.lxor X203.here hx rfl (hb hby at_362) rfl ?_
      refine st205 _ ?_
      exact k
    rcases (id (ho01)) with hk208 | hk208
    · skip
      have pre209 : ∀ t, Steps p.tables e below (T205.setTop (mkF m 364 #[(vl p0), .second, (vl p1), .second, (vi p2), (vi p3), (vi p4), (vi p5), (vi k0), (vi k1), (vi k2), (vi 0), (vl r_5), .second, (vl r_6), .second, (vl r_7), .second, (vl r_8), .second, (vl r_9), .second, (vl r_10), .second, (vl f0), .second, (vl f1), .second, (vl f2), .second, (vi 1), .val (.int (k0 + k1)), (vl yw), .second, (vr b17), (vr b121), (vr b181), .unset, .unset, .unset] [])) t → Steps p.tables e below (s₁.setTop (entryFrame m #[(.long p0), (.long p1), (.int p2), (.int p3), (.int p4), (.int p5)] maxLocals)) t := by
        intro t k
        refine pre207 t ?_
        rw [hk208]
        exact k
      obtain ⟨cl210, Ar210, qc210, Sz210, Nn210, Ha210, Gg210⟩ := (id V205)
      have hin210 : ¬ ((0 : Int32) < 0 ∨ cl210.slots.size ≤ ((0 : Int32)).toNatClampNeg) := inb_of Sz210 ⟨by decide, by decide⟩
      obtain ⟨T210, h210, X210, e210, W210, st210⟩ := stJ X205 hx hZ e205 Ar210 (j := (0 : Int32)) hin210 (g := (mkF m 370 #[(vl p0), .second, (vl p1), .second, (vi p2), (vi p3), (vi p4), (vi p5), (vi k0), (vi k1), (vi k2), (vi 0), (vl r_5), .second, (vl r_6), .second, (vl r_7), .second, (vl r_8), .second, (vl r_9), .second, (vl r_10), .second, (vl f0), .second, (vl f1), .second, (vl f2), .second, (vi 1), .val (.int (k0 + k1)), (vl yw), .second, (vr b17), (vr b121), (vr b181), .unset, .unset, .unset] [(.long yw), (.int 0), (.ref b181)])) rfl rfl (hb hby at_370)
      have O211 : Old Z n0 h210 := O206.wr W210 g197
      have V210 : Arv Z h210 b181 k181 .long (4 : Int32) ([(.long yw), (.long (yw ^^^ (-1 : Int64))), (.long (yw ^^^ (-1 : Int64))), (.long (yw ^^^ (-1 : Int64)))]) (.long 0) := (Arv.set Ar210 qc210 Sz210 Nn210 Ha210 Gg210 (v := (.long yw)) rfl W210 0 rfl (Nat.le_of_ble_eq_true rfl))
      have N210 := Fr.snoc X210 N205 g197
      obtain ⟨cl212, Ar212, qc212, Sz212, Nn212, Ha212, Gg212⟩ := (id V210)
      have hin212 : ¬ ((1 : Int32) < 0 ∨ cl212.slots.size ≤ ((1 : Int32)).toNatClampNeg) := inb_of Sz212 ⟨by decide, by decide⟩
      obtain ⟨T212, h212, X212, e212, W212, st212⟩ := stJ X210 hx hZ e210 Ar212 (j := (1 : Int32)) hin212 (g := (mkF m 383 #[(vl p0), .second, (vl p1), .second, (vi p2), (vi p3), (vi p4), (vi p5), (vi k0), (vi k1), (vi k2), (vi 0), (vl r_5), .second, (vl r_6), .second, (vl r_7), .second, (vl r_8), .second, (vl r_9), .second, (vl r_10), .second, (vl f0), .second, (vl f1), .second, (vl f2), .second, (vi 1), .val (.int (k0 + k1)), (vl yw), .second, (vr b17), (vr b121), (vr b181), .unset, .unset, .unset] [(.long p1), (.int 1), (.ref b181)])) rfl rfl (hb hby at_383)
      have O213 : Old Z n0 h212 := O211.wr W212 g197
      have V212 : Arv Z h212 b181 k181 .long (4 : Int32) ([(.long yw), (.long p1), (.long (yw ^^^ (-1 : Int64))), (.long (yw ^^^ (-1 : Int64)))]) (.long 0) := (Arv.set Ar212 qc212 Sz212 Nn212 Ha212 Gg212 (v := (.long p1)) rfl W212 1 rfl (Nat.le_of_ble_eq_true rfl))
      have N212 := Fr.snoc X212 N210 g197
      have f214 : Fld Z h212 b121 s9n "low" "[I" (.ref e1_150) := (((((((p150_1.ext E181).other W199 (Or.inl ne192)).other W201 (Or.inl ne192)).other W203 (Or.inl ne192)).other W205 (Or.inl ne192)).other W210 (Or.inl ne192)).other W212 (Or.inl ne192))
      have f215 : Fld Z h212 b121 s9n "mask" "[J" (.ref e2_150) := (((((((p150_2.ext E181).other W199 (Or.inl ne192)).other W201 (Or.inl ne192)).other W203 (Or.inl ne192)).other W205 (Or.inl ne192)).other W210 (Or.inl ne192)).other W212 (Or.inl ne192))
      have f216 : Fld Z h212 b121 s9n "shift" "[I" (.ref e3_150) := (((((((p150_3.ext E181).other W199 (Or.inl ne192)).other W201 (Or.inl ne192)).other W203 (Or.inl ne192)).other W205 (Or.inl ne192)).other W210 (Or.inl ne192)).other W212 (Or.inl ne192))
      have f217 : Fld Z h212 b121 s9n "word" "[I" (.ref e4_150) := (((((((p150_4.ext E181).other W199 (Or.inl ne192)).other W201 (Or.inl ne192)).other W203 (Or.inl ne192)).other W205 (Or.inl ne192)).other W210 (Or.inl ne192)).other W212 (Or.inl ne192))
      have f218 : Arv Z h212 e1_150 e5_150 .int (3 : Int32) ([(.int yl0), (.int yl1), (.int yl2)]) (.int 0) := (((((((p150_8.ext E181).other W199 ne193).other W201 ne193).other W203 ne193).other W205 ne193).other W210 ne193).other W212 ne193)
      have f219 : Arv Z h212 e2_150 e6_150 .long (3 : Int32) ([(.long (maskV k0)), (.long (maskV k1)), (.long (maskV k2))]) (.long 0) := (((((((p150_11.ext E181).other W199 ne194).other W201 ne194).other W203 ne194).other W205 ne194).other W210 ne194).other W212 ne194)
      have f220 : Arv Z h212 e3_150 e7_150 .int (3 : Int32) ([(.int 0), (.int ((0 : Int32) + k0)), (.int 0)]) (.int 0) := (((((((p150_14.ext E181).other W199 ne195).other W201 ne195).other W203 ne195).other W205 ne195).other W210 ne195).other W212 ne195)
      have f221 : Arv Z h212 e4_150 e8_150 .int (3 : Int32) ([(.int 0), (.int 0), (.int 1)]) (.int 0) := (((((((p150_17.ext E181).other W199 ne196).other W201 ne196).other W203 ne196).other W205 ne196).other W210 ne196).other W212 ne196)
      have f223 : Exa Z h212 b121 s9n := (((((((p150_0.ext E181).wr W199).wr W201).wr W203).wr W205).wr W210).wr W212)
      obtain ⟨cq222, kq222, q222a, q222b, q222c⟩ := isOf hZ e212 f223
      obtain ⟨_, _, ⟨T222, L222, k222, n222⟩, -, X222, ⟨Lc222, hQ222, l222, y222, z222⟩, st222⟩ := X212.virtualBack hx (y := M24) (z := M24) hown (mvT hZ (ow hw 177 rfl)) (mvT hZ (ow hw 178 rfl)) (notFace_of_selects (args := #[]) (mvT hZ (ow hw 180 rfl))) (mvT hZ (ow hw 180 rfl)) (mvT hZ (ow hw 179 rfl)) (by decide) (backOf (W := 0) (au24_0 l Z a0 hw [] wINTEGER wDOUBLE wBOOLEAN wDEFAULTCAPACITY_EMPTY_ELEMENTDATA kwDEFAULTCAPACITY_EMPTY_ELEMENTDATA hS b121 b181 e1_150 e2_150 e3_150 e4_150 k181 yw p1 (yw ^^^ (-1 : Int64)) e5_150 yl0 yl1 yl2 e6_150 (maskV k0) (maskV k1) (maskV k2) e7_150 ((0 : Int32) + k0) e8_150 h212 n0 O213 f214 f215 f216 f217 V212 f218 f219 f220 f221) hZ (ow hw 181 rfl) (ow hw 109 rfl) (by decide) (by decide)) q222a q222c (g := (mkF m 391 #[(vl p0), .second, (vl p1), .second, (vi p2), (vi p3), (vi p4), (vi p5), (vi k0), (vi k1), (vi k2), (vi 0), (vl r_5), .second, (vl r_6), .second, (vl r_7), .second, (vl r_8), .second, (vl r_9), .second, (vl r_10), .second, (vl f0), .second, (vl f1), .second, (vl f2), .second, (vi 1), .val (.int (k0 + k1)), (vl yw), .second, (vr b17), (vr b121), (vr b181), .unset, .unset, .unset] [(.int 0), (.int 0), (.ref b181), (.ref b121)])) rfl (by rw [hml]; rfl) (Steps.refl _) (argsL := [(.ref b181), (.int 0), (.int 0)]) (rest := []) (lenOf pd_15 rfl) rfl (by show 2 * 0 + _ ≤ _; exact Nat.le_of_eq rfl) (hb hby at_391) (fun _ _ => ⟨rfl, e212, (by decide : 17 + 0 ≤ _), (by decide : 70 + 0 ≤ _)⟩)
      dsimp only [Pt.U, Pt.locs, Pt.cells, Pt.slots] at X222 l222 y222 z222 st222 hQ222
      subst y222 z222
      obtain ⟨rfl, Nq222, K222q⟩ := hQ222
      have N222 : Fr n0 L222 := (congrArg (Fr n0) l222).mpr (Fr.app N212 Nq222)
      obtain ⟨cq224, kq224, q224a, q224b, q224c⟩ := isOf hZ K222q f223
      obtain ⟨_, _, ⟨T224, L224, k224, n224⟩, -, X224, ⟨Lc224, hQ224, l224, y224, z224⟩, st224⟩ := X222.virtualBack hx (y := M24) (z := M24) hown (mvT hZ (ow hw 177 rfl)) (mvT hZ (ow hw 178 rfl)) (notFace_of_selects (args := #[]) (mvT hZ (ow hw 180 rfl))) (mvT hZ (ow hw 180 rfl)) (mvT hZ (ow hw 179 rfl)) (by decide) (backOf (W := 0) (au24_1 l Z a0 hw [] wINTEGER wDOUBLE wBOOLEAN wDEFAULTCAPACITY_EMPTY_ELEMENTDATA kwDEFAULTCAPACITY_EMPTY_ELEMENTDATA hS b121 b181 e1_150 e2_150 e3_150 e4_150 k181 yw p1 (yw ^^^ (-1 : Int64)) e5_150 yl0 yl1 yl2 e6_150 (maskV k0) (maskV k1) (maskV k2) e7_150 ((0 : Int32) + k0) e8_150 h212 n0 O213 f214 f215 f216 f217 V212 f218 f219 f220 f221) hZ (ow hw 181 rfl) (ow hw 109 rfl) (by decide) (by decide)) q224a q224c (g := (mkF m 403 #[(vl p0), .second, (vl p1), .second, (vi p2), (vi p3), (vi p4), (vi p5), (vi k0), (vi k1), (vi k2), (vi 0), (vl r_5), .second, (vl r_6), .second, (vl r_7), .second, (vl r_8), .second, (vl r_9), .second, (vl r_10), .second, (vl f0), .second, (vl f1), .second, (vl f2), .second, (vi 1), .val (.int (k0 + k1)), (vl yw), .second, (vr b17), (vr b121), (vr b181), .val (.int (yl0 + ((((yw.toUInt64 >>> ((0 : Int32) &&& 0x3f).toInt64.toUInt64).toInt64) &&& (maskV k0)).toInt32))), .unset, .unset] [(.int 1), (.int 0), (.ref b181), (.ref b121)])) rfl (by rw [hml]; rfl) (Steps.refl _) (argsL := [(.ref b181), (.int 0), (.int 1)]) (rest := []) (lenOf pd_15 rfl) rfl (by show 2 * 0 + _ ≤ _; exact Nat.le_of_eq rfl) (hb hby at_403) (fun _ _ => ⟨rfl, K222q, (by decide : 17 + 0 ≤ _), (by decide : 70 + 0 ≤ _)⟩)
      dsimp only [Pt.U, Pt.locs, Pt.cells, Pt.slots] at X224 l224 y224 z224 st224 hQ224
      subst y224 z224
      obtain ⟨rfl, Nq224, K224q⟩ := hQ224
      have N224 : Fr n0 L224 := (congrArg (Fr n0) l224).mpr (Fr.app N222 Nq224)
      obtain ⟨cq225, kq225, q225a, q225b, q225c⟩ := isOf hZ K224q f223
      obtain ⟨_, _, ⟨T225, L225, k225, n225⟩, -, X225, ⟨Lc225, hQ225, l225, y225, z225⟩, st225⟩ := X224.virtualBack hx (y := M24) (z := M24) hown (mvT hZ (ow hw 177 rfl)) (mvT hZ (ow hw 178 rfl)) (notFace_of_selects (args := #[]) (mvT hZ (ow hw 180 rfl))) (mvT hZ (ow hw 180 rfl)) (mvT hZ (ow hw 179 rfl)) (by decide) (backOf (W := 0) (au24_2 l Z a0 hw [] wINTEGER wDOUBLE wBOOLEAN wDEFAULTCAPACITY_EMPTY_ELEMENTDATA kwDEFAULTCAPACITY_EMPTY_ELEMENTDATA hS b121 b181 e1_150 e2_150 e3_150 e4_150 k181 yw p1 (yw ^^^ (-1 : Int64)) e5_150 yl0 yl1 yl2 e6_150 (maskV k0) (maskV k1) (maskV k2) e7_150 ((0 : Int32) + k0) e8_150 h212 n0 O213 f214 f215 f216 f217 V212 f218 f219 f220 f221) hZ (ow hw 181 rfl) (ow hw 109 rfl) (by decide) (by decide)) q225a q225c (g := (mkF m 415 #[(vl p0), .second, (vl p1), .second, (vi p2), (vi p3), (vi p4), (vi p5), (vi k0), (vi k1), (vi k2), (vi 0), (vl r_5), .second, (vl r_6), .second, (vl r_7), .second, (vl r_8), .second, (vl r_9), .second, (vl r_10), .second, (vl f0), .second, (vl f1), .second, (vl f2), .second, (vi 1), .val (.int (k0 + k1)), (vl yw), .second, (vr b17), (vr b121), (vr b181), .val (.int (yl0 + ((((yw.toUInt64 >>> ((0 : Int32) &&& 0x3f).toInt64.toUInt64).toInt64) &&& (maskV k0)).toInt32))), .val (.int (yl1 + ((((yw.toUInt64 >>> (((0 : Int32) + k0) &&& 0x3f).toInt64.toUInt64).toInt64) &&& (maskV k1)).toInt32))), .unset] [(.int 2), (.int 0), (.ref b181), (.ref b121)])) rfl (by rw [hml]; rfl) (Steps.refl _) (argsL := [(.ref b181), (.int 0), (.int 2)]) (rest := []) (lenOf pd_15 rfl) rfl (by show 2 * 0 + _ ≤ _; exact Nat.le_of_eq rfl) (hb hby at_415) (fun _ _ => ⟨rfl, K224q, (by decide : 17 + 0 ≤ _), (by decide : 70 + 0 ≤ _)⟩)
      dsimp only [Pt.U, Pt.locs, Pt.cells, Pt.slots] at X225 l225 y225 z225 st225 hQ225
      subst y225 z225
      obtain ⟨rfl, Nq225, K225q⟩ := hQ225
      have N225 : Fr n0 L225 := (congrArg (Fr n0) l225).mpr (Fr.app N224 Nq225)
      have hfin := own_fS hK0 hK1 hK2 p5_0 p6_0 p7_0 hf0 hf1 hf2 p15_0 hyw
      have hk226 : _ ≤ h212.size := (Nat.le_trans (Nat.le_trans (Nat.le_trans (Nat.le_trans (Nat.le_trans (Nat.le_trans (Nat.le_trans (Nat.le_trans (Nat.le_trans (Nat.le_trans (Nat.le_trans hk100 K111q.1) K119q.1) E121.1) K150q.1) E181.1) (Nat.le_of_eq W199.size.symm)) (Nat.le_of_eq W201.size.symm)) (Nat.le_of_eq W203.size.symm)) (Nat.le_of_eq W205.size.symm)) (Nat.le_of_eq W210.size.symm)) (Nat.le_of_eq W212.size.symm))
      obtain ⟨fs, hr, hrun, hended, hRW⟩ := X225.leaveW hS100 (by rw [K225q]; exact hk226) (v := some (.int 1)) (fun h => by rw [hret0] at h; cases h)
      refine ⟨_, _, pre209 _ ?_, hrun, hended, _, _, rfl, ?_, hRW.1, hRW.2.1, hRW.2.2.1, hRW.2.2.2.mono (by decide) (by decide)⟩
      · skip
        show Steps p.tables e below (T205.setTop (mkF m 364 #[(vl p0), .second, (vl p1), .second, (vi p2), (vi p3), (vi p4), (vi p5), (vi k0), (vi k1), (vi k2), (vi 0), (vl r_5), .second, (vl r_6), .second, (vl r_7), .second, (vl r_8), .second, (vl r_9), .second, (vl r_10), .second, (vl f0), .second, (vl f1), .second, (vl f2), .second, (vi 1), .val (.int (k0 + k1)), (vl yw), .second, (vr b17), (vr b121), (vr b181), .unset, .unset, .unset] [])) _
        refine XS.aload X205.here hx rfl (hb hby at_364) rfl rfl ?_
        refine XS.iload X205.here hx rfl (hb hby at_366) rfl ?_
        refine XS.lload X205.here hx rfl (hb hby at_368) rfl ?_
        refine st210 _ ?_
        refine XS.iload X210.here hx rfl (hb hby at_371) rfl ?_
        refine XS.ifNo X210.here hx rfl (hb hby at_373) rfl ((if0 _ _).trans (feq (by decide : ¬ ((1 : Int32) = (0 : Int32)))).1) ?_
        show Steps p.tables e below (T210.setTop (mkF m 376 #[(vl p0), .second, (vl p1), .second, (vi p2), (vi p3), (vi p4), (vi p5), (vi k0), (vi k1), (vi k2), (vi 0), (vl r_5), .second, (vl r_6), .second, (vl r_7), .second, (vl r_8), .second, (vl r_9), .second, (vl r_10), .second, (vl f0), .second, (vl f1), .second, (vl f2), .second, (vi 1), .val (.int (k0 + k1)), (vl yw), .second, (vr b17), (vr b121), (vr b181), .unset, .unset, .unset] [])) _
        refine XS.aload X210.here hx rfl (hb hby at_376) rfl rfl ?_
        refine XS.iload X210.here hx rfl (hb hby at_378) rfl ?_
        refine XS.iconst X210.here hx rfl (hb hby at_380) ?_
        refine XS.iadd X210.here hx rfl (hb hby at_381) rfl ?_
        refine XS.lloadN X210.here hx rfl (hb hby at_382) rfl ?_
        refine st212 _ ?_
        show Steps p.tables e below (T212.setTop (mkF m 384 #[(vl p0), .second, (vl p1), .second, (vi p2), (vi p3), (vi p4), (vi p5), (vi k0), (vi k1), (vi k2), (vi 0), (vl r_5), .second, (vl r_6), .second, (vl r_7), .second, (vl r_8), .second, (vl r_9), .second, (vl r_10), .second, (vl f0), .second, (vl f1), .second, (vl f2), .second, (vi 1), .val (.int (k0 + k1)), (vl yw), .second, (vr b17), (vr b121), (vr b181), .unset, .unset, .unset] [])) _
        refine XS.aload X212.here hx rfl (hb hby at_384) rfl rfl ?_
        refine XS.aload X212.here hx rfl (hb hby at_386) rfl rfl ?_
        refine XS.iload X212.here hx rfl (hb hby at_388) rfl ?_
        refine XS.iconst X212.here hx rfl (hb hby at_390) ?_
        refine st222.trans ?_
        refine XS.istore X222.here hx rfl (hb hby at_394) rfl (l' := #[(vl p0), .second, (vl p1), .second, (vi p2), (vi p3), (vi p4), (vi p5), (vi k0), (vi k1), (vi k2), (vi 0), (vl r_5), .second, (vl r_6), .second, (vl r_7), .second, (vl r_8), .second, (vl r_9), .second, (vl r_10), .second, (vl f0), .second, (vl f1), .second, (vl f2), .second, (vi 1), .val (.int (k0 + k1)), (vl yw), .second, (vr b17), (vr b121), (vr b181), .val (.int (yl0 + ((((yw.toUInt64 >>> ((0 : Int32) &&& 0x3f).toInt64.toUInt64).toInt64) &&& (maskV k0)).toInt32))), .unset, .unset]) rfl ?_
        show Steps p.tables e below (T222.setTop (mkF m 396 #[(vl p0), .second, (vl p1), .second, (vi p2), (vi p3), (vi p4), (vi p5), (vi k0), (vi k1), (vi k2), (vi 0), (vl r_5), .second, (vl r_6), .second, (vl r_7), .second, (vl r_8), .second, (vl r_9), .second, (vl r_10), .second, (vl f0), .second, (vl f1), .second, (vl f2), .second, (vi 1), .val (.int (k0 + k1)), (vl yw), .second, (vr b17), (vr b121), (vr b181), .val (.int (yl0 + ((((yw.toUInt64 >>> ((0 : Int32) &&& 0x3f).toInt64.toUInt64).toInt64) &&& (maskV k0)).toInt32))), .unset, .unset] [])) _
        refine XS.aload X222.here hx rfl (hb hby at_396) rfl rfl ?_
        refine XS.aload X222.here hx rfl (hb hby at_398) rfl rfl ?_
        refine XS.iload X222.here hx rfl (hb hby at_400) rfl ?_
        refine XS.iconst X222.here hx rfl (hb hby at_402) ?_
        refine st224.trans ?_
        refine XS.istore X224.here hx rfl (hb hby at_406) rfl (l' := #[(vl p0), .second, (vl p1), .second, (vi p2), (vi p3), (vi p4), (vi p5), (vi k0), (vi k1), (vi k2), (vi 0), (vl r_5), .second, (vl r_6), .second, (vl r_7), .second, (vl r_8), .second, (vl r_9), .second, (vl r_10), .second, (vl f0), .second, (vl f1), .second, (vl f2), .second, (vi 1), .val (.int (k0 + k1)), (vl yw), .second, (vr b17), (vr b121), (vr b181), .val (.int (yl0 + ((((yw.toUInt64 >>> ((0 : Int32) &&& 0x3f).toInt64.toUInt64).toInt64) &&& (maskV k0)).toInt32))), .val (.int (yl1 + ((((yw.toUInt64 >>> (((0 : Int32) + k0) &&& 0x3f).toInt64.toUInt64).toInt64) &&& (maskV k1)).toInt32))), .unset]) rfl ?_
        show Steps p.tables e below (T224.setTop (mkF m 408 #[(vl p0), .second, (vl p1), .second, (vi p2), (vi p3), (vi p4), (vi p5), (vi k0), (vi k1), (vi k2), (vi 0), (vl r_5), .second, (vl r_6), .second, (vl r_7), .second, (vl r_8), .second, (vl r_9), .second, (vl r_10), .second, (vl f0), .second, (vl f1), .second, (vl f2), .second, (vi 1), .val (.int (k0 + k1)), (vl yw), .second, (vr b17), (vr b121), (vr b181), .val (.int (yl0 + ((((yw.toUInt64 >>> ((0 : Int32) &&& 0x3f).toInt64.toUInt64).toInt64) &&& (maskV k0)).toInt32))), .val (.int (yl1 + ((((yw.toUInt64 >>> (((0 : Int32) + k0) &&& 0x3f).toInt64.toUInt64).toInt64) &&& (maskV k1)).toInt32))), .unset] [])) _
        refine XS.aload X224.here hx rfl (hb hby at_408) rfl rfl ?_
        refine XS.aload X224.here hx rfl (hb hby at_410) rfl rfl ?_
        refine XS.iload X224.here hx rfl (hb hby at_412) rfl ?_
        refine XS.iconst X224.here hx rfl (hb hby at_414) ?_
        refine st225.trans ?_
        refine XS.istore X225.here hx rfl (hb hby at_418) rfl (l' := #[(vl p0), .second, (vl p1), .second, (vi p2), (vi p3), (vi p4), (vi p5), (vi k0), (vi k1), (vi k2), (vi 0), (vl r_5), .second, (vl r_6), .second, (vl r_7), .second, (vl r_8), .second, (vl r_9), .second, (vl r_10), .second, (vl f0), .second, (vl f1), .second, (vl f2), .second, (vi 1), .val (.int (k0 + k1)), (vl yw), .second, (vr b17), (vr b121), (vr b181), .val (.int (yl0 + ((((yw.toUInt64 >>> ((0 : Int32) &&& 0x3f).toInt64.toUInt64).toInt64) &&& (maskV k0)).toInt32))), .val (.int (yl1 + ((((yw.toUInt64 >>> (((0 : Int32) + k0) &&& 0x3f).toInt64.toUInt64).toInt64) &&& (maskV k1)).toInt32))), .val (.int (yl2 + ((((p1.toUInt64 >>> ((0 : Int32) &&& 0x3f).toInt64.toUInt64).toInt64) &&& (maskV k2)).toInt32)))]) rfl ?_
        show Steps p.tables e below (T225.setTop (mkF m 420 #[(vl p0), .second, (vl p1), .second, (vi p2), (vi p3), (vi p4), (vi p5), (vi k0), (vi k1), (vi k2), (vi 0), (vl r_5), .second, (vl r_6), .second, (vl r_7), .second, (vl r_8), .second, (vl r_9), .second, (vl r_10), .second, (vl f0), .second, (vl f1), .second, (vl f2), .second, (vi 1), .val (.int (k0 + k1)), (vl yw), .second, (vr b17), (vr b121), (vr b181), .val (.int (yl0 + ((((yw.toUInt64 >>> ((0 : Int32) &&& 0x3f).toInt64.toUInt64).toInt64) &&& (maskV k0)).toInt32))), .val (.int (yl1 + ((((yw.toUInt64 >>> (((0 : Int32) + k0) &&& 0x3f).toInt64.toUInt64).toInt64) &&& (maskV k1)).toInt32))), .val (.int (yl2 + ((((p1.toUInt64 >>> ((0 : Int32) &&& 0x3f).toInt64.toUInt64).toInt64) &&& (maskV k2)).toInt32)))] [])) _
        refine XS.iload X225.here hx rfl (hb hby at_420) rfl ?_
        refine XS.lload X225.here hx rfl (hb hby at_422) rfl ?_
        refine XS.lload X225.here hx rfl (hb hby at_424) rfl ?_
        refine XS.ladd X225.here hx rfl (hb hby at_426) rfl ?_
        refine XS.l2i X225.here hx rfl (hb hby at_427) rfl ?_
        refine XS.icmpNo X225.here hx rfl (hb hby at_428) rfl (teq (by rw [own_sh0, hfin.1, hyl0, own_toI32] : (yl0 + ((((yw.toUInt64 >>> ((0 : Int32) &&& 0x3f).toInt64.toUInt64).toInt64) &&& (maskV k0)).toInt32)) = ((r_8 + f0).toInt32))).2 ?_
        show Steps p.tables e below (T225.setTop (mkF m 431 #[(vl p0), .second, (vl p1), .second, (vi p2), (vi p3), (vi p4), (vi p5), (vi k0), (vi k1), (vi k2), (vi 0), (vl r_5), .second, (vl r_6), .second, (vl r_7), .second, (vl r_8), .second, (vl r_9), .second, (vl r_10), .second, (vl f0), .second, (vl f1), .second, (vl f2), .second, (vi 1), .val (.int (k0 + k1)), (vl yw), .second, (vr b17), (vr b121), (vr b181), .val (.int (yl0 + ((((yw.toUInt64 >>> ((0 : Int32) &&& 0x3f).toInt64.toUInt64).toInt64) &&& (maskV k0)).toInt32))), .val (.int (yl1 + ((((yw.toUInt64 >>> (((0 : Int32) + k0) &&& 0x3f).toInt64.toUInt64).toInt64) &&& (maskV k1)).toInt32))), .val (.int (yl2 + ((((p1.toUInt64 >>> ((0 : Int32) &&& 0x3f).toInt64.toUInt64).toInt64) &&& (maskV k2)).toInt32)))] [])) _
        refine XS.iload X225.here hx rfl (hb hby at_431) rfl ?_
        refine XS.lload X225.here hx rfl (hb hby at_433) rfl ?_
        refine XS.lload X225.here hx rfl (hb hby at_435) rfl ?_
        refine XS.ladd X225.here hx rfl (hb hby at_437) rfl ?_
        refine XS.l2i X225.here hx rfl (hb hby at_438) rfl ?_
        refine XS.icmpNo X225.here hx rfl (hb hby at_439) rfl (teq (by rw [hfin.2.1, hyl1, own_toI32] : (yl1 + ((((yw.toUInt64 >>> (((0 : Int32) + k0) &&& 0x3f).toInt64.toUInt64).toInt64) &&& (maskV k1)).toInt32)) = ((r_9 + f1).toInt32))).2 ?_
        show Steps p.tables e below (T225.setTop (mkF m 442 #[(vl p0), .second, (vl p1), .second, (vi p2), (vi p3), (vi p4), (vi p5), (vi k0), (vi k1), (vi k2), (vi 0), (vl r_5), .second, (vl r_6), .second, (vl r_7), .second, (vl r_8), .second, (vl r_9), .second, (vl r_10), .second, (vl f0), .second, (vl f1), .second, (vl f2), .second, (vi 1), .val (.int (k0 + k1)), (vl yw), .second, (vr b17), (vr b121), (vr b181), .val (.int (yl0 + ((((yw.toUInt64 >>> ((0 : Int32) &&& 0x3f).toInt64.toUInt64).toInt64) &&& (maskV k0)).toInt32))), .val (.int (yl1 + ((((yw.toUInt64 >>> (((0 : Int32) + k0) &&& 0x3f).toInt64.toUInt64).toInt64) &&& (maskV k1)).toInt32))), .val (.int (yl2 + ((((p1.toUInt64 >>> ((0 : Int32) &&& 0x3f).toInt64.toUInt64).toInt64) &&& (maskV k2)).toInt32)))] [])) _
        refine XS.iload X225.here hx rfl (hb hby at_442) rfl ?_
        refine XS.lload X225.here hx rfl (hb hby at_444) rfl ?_
        refine XS.lload X225.here hx rfl (hb hby at_446) rfl ?_
        refine XS.ladd X225.here hx rfl (hb hby at_448) rfl ?_
        refine XS.l2i X225.here hx rfl (hb hby at_449) rfl ?_
        refine XS.icmpNo X225.here hx rfl (hb hby at_450) rfl (teq (by rw [own_sh0, hfin.2.2, hyl2, own_toI32] : (yl2 + ((((p1.toUInt64 >>> ((0 : Int32) &&& 0x3f).toInt64.toUInt64).toInt64) &&& (maskV k2)).toInt32)) = ((r_10 + f2).toInt32))).2 ?_
        show Steps p.tables e below (T225.setTop (mkF m 453 #[(vl p0), .second, (vl p1), .second, (vi p2), (vi p3), (vi p4), (vi p5), (vi k0), (vi k1), (vi k2), (vi 0), (vl r_5), .second, (vl r_6), .second, (vl r_7), .second, (vl r_8), .second, (vl r_9), .second, (vl r_10), .second, (vl f0), .second, (vl f1), .second, (vl f2), .second, (vi 1), .val (.int (k0 + k1)), (vl yw), .second, (vr b17), (vr b121), (vr b181), .val (.int (yl0 + ((((yw.toUInt64 >>> ((0 : Int32) &&& 0x3f).toInt64.toUInt64).toInt64) &&& (maskV k0)).toInt32))), .val (.int (yl1 + ((((yw.toUInt64 >>> (((0 : Int32) + k0) &&& 0x3f).toInt64.toUInt64).toInt64) &&& (maskV k1)).toInt32))), .val (.int (yl2 + ((((p1.toUInt64 >>> ((0 : Int32) &&& 0x3f).toInt64.toUInt64).toInt64) &&& (maskV k2)).toInt32)))] [])) _
        refine XS.iconst X225.here hx rfl (hb hby at_453) ?_
        refine XS.goto X225.here hx rfl (pc0 := 454) (pc' := 458) rfl (hb hby at_454) (by decide) (by decide) ?_
        exact retN X225 hx (t := .boolean) hret0 (by simp) (hb hby at_458) hr
      · show Q_rm0 Z wINTEGER wDOUBLE wBOOLEAN wDEFAULTCAPACITY_EMPTY_ELEMENTDATA kwDEFAULTCAPACITY_EMPTY_ELEMENTDATA p0 p1 p2 p3 p4 p5 h0 n0 _ T225.heap _
        rw [K225q]
        exact ⟨rfl, N225⟩
    · skip
      have pre227 : ∀ t, Steps p.tables e below (T205.setTop (mkF m 364 #[(vl p0), .second, (vl p1), .second, (vi p2), (vi p3), (vi p4), (vi p5), (vi k0), (vi k1), (vi k2), (vi 1), (vl r_5), .second, (vl r_6), .second, (vl r_7), .second, (vl r_8), .second, (vl r_9), .second, (vl r_10), .second, (vl f0), .second, (vl f1), .second, (vl f2), .second, (vi 1), .val (.int (k0 + k1)), (vl yw), .second, (vr b17), (vr b121), (vr b181), .unset, .unset, .unset] [])) t → Steps p.tables e below (s₁.setTop (entryFrame m #[(.long p0), (.long p1), (.int p2), (.int p3), (.int p4), (.int p5)] maxLocals)) t := by
        intro t k
        refine pre207 t ?_
        rw [hk208]
        exact k
      obtain ⟨cl228, Ar228, qc228, Sz228, Nn228, Ha228, Gg228⟩ := (id V205)
      have hin228 : ¬ ((1 : Int32) < 0 ∨ cl228.slots.size ≤ ((1 : Int32)).toNatClampNeg) := inb_of Sz228 ⟨by decide, by decide⟩
      obtain ⟨T228, h228, X228, e228, W228, st228⟩ := stJ X205 hx hZ e205 Ar228 (j := (1 : Int32)) hin228 (g := (mkF m 370 #[(vl p0), .second, (vl p1), .second, (vi p2), (vi p3), (vi p4), (vi p5), (vi k0), (vi k1), (vi k2), (vi 1), (vl r_5), .second, (vl r_6), .second, (vl r_7), .second, (vl r_8), .second, (vl r_9), .second, (vl r_10), .second, (vl f0), .second, (vl f1), .second, (vl f2), .second, (vi 1), .val (.int (k0 + k1)), (vl yw), .second, (vr b17), (vr b121), (vr b181), .unset, .unset, .unset] [(.long yw), (.int 1), (.ref b181)])) rfl rfl (hb hby at_370)
      have O229 : Old Z n0 h228 := O206.wr W228 g197
      have V228 : Arv Z h228 b181 k181 .long (4 : Int32) ([(.long (yw ^^^ (-1 : Int64))), (.long yw), (.long (yw ^^^ (-1 : Int64))), (.long (yw ^^^ (-1 : Int64)))]) (.long 0) := (Arv.set Ar228 qc228 Sz228 Nn228 Ha228 Gg228 (v := (.long yw)) rfl W228 1 rfl (Nat.le_of_ble_eq_true rfl))
      have N228 := Fr.snoc X228 N205 g197
      obtain ⟨cl230, Ar230, qc230, Sz230, Nn230, Ha230, Gg230⟩ := (id V228)
      have hin230 : ¬ ((2 : Int32) < 0 ∨ cl230.slots.size ≤ ((2 : Int32)).toNatClampNeg) := inb_of Sz230 ⟨by decide, by decide⟩
      obtain ⟨T230, h230, X230, e230, W230, st230⟩ := stJ X228 hx hZ e228 Ar230 (j := (2 : Int32)) hin230 (g := (mkF m 383 #[(vl p0), .second, (vl p1), .second, (vi p2), (vi p3), (vi p4), (vi p5), (vi k0), (vi k1), (vi k2), (vi 1), (vl r_5), .second, (vl r_6), .second, (vl r_7), .second, (vl r_8), .second, (vl r_9), .second, (vl r_10), .second, (vl f0), .second, (vl f1), .second, (vl f2), .second, (vi 1), .val (.int (k0 + k1)), (vl yw), .second, (vr b17), (vr b121), (vr b181), .unset, .unset, .unset] [(.long p1), (.int 2), (.ref b181)])) rfl rfl (hb hby at_383)
      have O231 : Old Z n0 h230 := O229.wr W230 g197
      have V230 : Arv Z h230 b181 k181 .long (4 : Int32) ([(.long (yw ^^^ (-1 : Int64))), (.long yw), (.long p1), (.long (yw ^^^ (-1 : Int64)))]) (.long 0) := (Arv.set Ar230 qc230 Sz230 Nn230 Ha230 Gg230 (v := (.long p1)) rfl W230 2 rfl (Nat.le_of_ble_eq_true rfl))
      have N230 := Fr.snoc X230 N228 g197
      have f232 : Fld Z h230 b121 s9n "low" "[I" (.ref e1_150) := (((((((p150_1.ext E181).other W199 (Or.inl ne192)).other W201 (Or.inl ne192)).other W203 (Or.inl ne192)).other W205 (Or.inl ne192)).other W228 (Or.inl ne192)).other W230 (Or.inl ne192))
      have f233 : Fld Z h230 b121 s9n "mask" "[J" (.ref e2_150) := (((((((p150_2.ext E181).other W199 (Or.inl ne192)).other W201 (Or.inl ne192)).other W203 (Or.inl ne192)).other W205 (Or.inl ne192)).other W228 (Or.inl ne192)).other W230 (Or.inl ne192))
      have f234 : Fld Z h230 b121 s9n "shift" "[I" (.ref e3_150) := (((((((p150_3.ext E181).other W199 (Or.inl ne192)).other W201 (Or.inl ne192)).other W203 (Or.inl ne192)).other W205 (Or.inl ne192)).other W228 (Or.inl ne192)).other W230 (Or.inl ne192))
      have f235 : Fld Z h230 b121 s9n "word" "[I" (.ref e4_150) := (((((((p150_4.ext E181).other W199 (Or.inl ne192)).other W201 (Or.inl ne192)).other W203 (Or.inl ne192)).other W205 (Or.inl ne192)).other W228 (Or.inl ne192)).other W230 (Or.inl ne192))
      have f236 : Arv Z h230 e1_150 e5_150 .int (3 : Int32) ([(.int yl0), (.int yl1), (.int yl2)]) (.int 0) := (((((((p150_8.ext E181).other W199 ne193).other W201 ne193).other W203 ne193).other W205 ne193).other W228 ne193).other W230 ne193)
      have f237 : Arv Z h230 e2_150 e6_150 .long (3 : Int32) ([(.long (maskV k0)), (.long (maskV k1)), (.long (maskV k2))]) (.long 0) := (((((((p150_11.ext E181).other W199 ne194).other W201 ne194).other W203 ne194).other W205 ne194).other W228 ne194).other W230 ne194)
      have f238 : Arv Z h230 e3_150 e7_150 .int (3 : Int32) ([(.int 0), (.int ((0 : Int32) + k0)), (.int 0)]) (.int 0) := (((((((p150_14.ext E181).other W199 ne195).other W201 ne195).other W203 ne195).other W205 ne195).other W228 ne195).other W230 ne195)
      have f239 : Arv Z h230 e4_150 e8_150 .int (3 : Int32) ([(.int 0), (.int 0), (.int 1)]) (.int 0) := (((((((p150_17.ext E181).other W199 ne196).other W201 ne196).other W203 ne196).other W205 ne196).other W228 ne196).other W230 ne196)
      have f241 : Exa Z h230 b121 s9n := (((((((p150_0.ext E181).wr W199).wr W201).wr W203).wr W205).wr W228).wr W230)
      obtain ⟨cq240, kq240, q240a, q240b, q240c⟩ := isOf hZ e230 f241
      obtain ⟨_, _, ⟨T240, L240, k240, n240⟩, -, X240, ⟨Lc240, hQ240, l240, y240, z240⟩, st240⟩ := X230.virtualBack hx (y := M24) (z := M24) hown (mvT hZ (ow hw 177 rfl)) (mvT hZ (ow hw 178 rfl)) (notFace_of_selects (args := #[]) (mvT hZ (ow hw 180 rfl))) (mvT hZ (ow hw 180 rfl)) (mvT hZ (ow hw 179 rfl)) (by decide) (backOf (W := 0) (au24_3 l Z a0 hw [] wINTEGER wDOUBLE wBOOLEAN wDEFAULTCAPACITY_EMPTY_ELEMENTDATA kwDEFAULTCAPACITY_EMPTY_ELEMENTDATA hS b121 b181 e1_150 e2_150 e3_150 e4_150 k181 (yw ^^^ (-1 : Int64)) yw p1 e5_150 yl0 yl1 yl2 e6_150 (maskV k0) (maskV k1) (maskV k2) e7_150 ((0 : Int32) + k0) e8_150 h230 n0 O231 f232 f233 f234 f235 V230 f236 f237 f238 f239) hZ (ow hw 181 rfl) (ow hw 109 rfl) (by decide) (by decide)) q240a q240c (g := (mkF m 391 #[(vl p0), .second, (vl p1), .second, (vi p2), (vi p3), (vi p4), (vi p5), (vi k0), (vi k1), (vi k2), (vi 1), (vl r_5), .second, (vl r_6), .second, (vl r_7), .second, (vl r_8), .second, (vl r_9), .second, (vl r_10), .second, (vl f0), .second, (vl f1), .second, (vl f2), .second, (vi 1), .val (.int (k0 + k1)), (vl yw), .second, (vr b17), (vr b121), (vr b181), .unset, .unset, .unset] [(.int 0), (.int 1), (.ref b181), (.ref b121)])) rfl (by rw [hml]; rfl) (Steps.refl _) (argsL := [(.ref b181), (.int 1), (.int 0)]) (rest := []) (lenOf pd_15 rfl) rfl (by show 2 * 0 + _ ≤ _; exact Nat.le_of_eq rfl) (hb hby at_391) (fun _ _ => ⟨rfl, e230, (by decide : 17 + 0 ≤ _), (by decide : 70 + 0 ≤ _)⟩)
      dsimp only [Pt.U, Pt.locs, Pt.cells, Pt.slots] at X240 l240 y240 z240 st240 hQ240
      subst y240 z240
      obtain ⟨rfl, Nq240, K240q⟩ := hQ240
      have N240 : Fr n0 L240 := (congrArg (Fr n0) l240).mpr (Fr.app N230 Nq240)
      obtain ⟨cq242, kq242, q242a, q242b, q242c⟩ := isOf hZ K240q f241
      obtain ⟨_, _, ⟨T242, L242, k242, n242⟩, -, X242, ⟨Lc242, hQ242, l242, y242, z242⟩, st242⟩ := X240.virtualBack hx (y := M24) (z := M24) hown (mvT hZ (ow hw 177 rfl)) (mvT hZ (ow hw 178 rfl)) (notFace_of_selects (args := #[]) (mvT hZ (ow hw 180 rfl))) (mvT hZ (ow hw 180 rfl)) (mvT hZ (ow hw 179 rfl)) (by decide) (backOf (W := 0) (au24_4 l Z a0 hw [] wINTEGER wDOUBLE wBOOLEAN wDEFAULTCAPACITY_EMPTY_ELEMENTDATA kwDEFAULTCAPACITY_EMPTY_ELEMENTDATA hS b121 b181 e1_150 e2_150 e3_150 e4_150 k181 (yw ^^^ (-1 : Int64)) yw p1 e5_150 yl0 yl1 yl2 e6_150 (maskV k0) (maskV k1) (maskV k2) e7_150 ((0 : Int32) + k0) e8_150 h230 n0 O231 f232 f233 f234 f235 V230 f236 f237 f238 f239) hZ (ow hw 181 rfl) (ow hw 109 rfl) (by decide) (by decide)) q242a q242c (g := (mkF m 403 #[(vl p0), .second, (vl p1), .second, (vi p2), (vi p3), (vi p4), (vi p5), (vi k0), (vi k1), (vi k2), (vi 1), (vl r_5), .second, (vl r_6), .second, (vl r_7), .second, (vl r_8), .second, (vl r_9), .second, (vl r_10), .second, (vl f0), .second, (vl f1), .second, (vl f2), .second, (vi 1), .val (.int (k0 + k1)), (vl yw), .second, (vr b17), (vr b121), (vr b181), .val (.int (yl0 + ((((yw.toUInt64 >>> ((0 : Int32) &&& 0x3f).toInt64.toUInt64).toInt64) &&& (maskV k0)).toInt32))), .unset, .unset] [(.int 1), (.int 1), (.ref b181), (.ref b121)])) rfl (by rw [hml]; rfl) (Steps.refl _) (argsL := [(.ref b181), (.int 1), (.int 1)]) (rest := []) (lenOf pd_15 rfl) rfl (by show 2 * 0 + _ ≤ _; exact Nat.le_of_eq rfl) (hb hby at_403) (fun _ _ => ⟨rfl, K240q, (by decide : 17 + 0 ≤ _), (by decide : 70 + 0 ≤ _)⟩)
      dsimp only [Pt.U, Pt.locs, Pt.cells, Pt.slots] at X242 l242 y242 z242 st242 hQ242
      subst y242 z242
      obtain ⟨rfl, Nq242, K242q⟩ := hQ242
      have N242 : Fr n0 L242 := (congrArg (Fr n0) l242).mpr (Fr.app N240 Nq242)
      obtain ⟨cq243, kq243, q243a, q243b, q243c⟩ := isOf hZ K242q f241
      obtain ⟨_, _, ⟨T243, L243, k243, n243⟩, -, X243, ⟨Lc243, hQ243, l243, y243, z243⟩, st243⟩ := X242.virtualBack hx (y := M24) (z := M24) hown (mvT hZ (ow hw 177 rfl)) (mvT hZ (ow hw 178 rfl)) (notFace_of_selects (args := #[]) (mvT hZ (ow hw 180 rfl))) (mvT hZ (ow hw 180 rfl)) (mvT hZ (ow hw 179 rfl)) (by decide) (backOf (W := 0) (au24_5 l Z a0 hw [] wINTEGER wDOUBLE wBOOLEAN wDEFAULTCAPACITY_EMPTY_ELEMENTDATA kwDEFAULTCAPACITY_EMPTY_ELEMENTDATA hS b121 b181 e1_150 e2_150 e3_150 e4_150 k181 (yw ^^^ (-1 : Int64)) yw p1 e5_150 yl0 yl1 yl2 e6_150 (maskV k0) (maskV k1) (maskV k2) e7_150 ((0 : Int32) + k0) e8_150 h230 n0 O231 f232 f233 f234 f235 V230 f236 f237 f238 f239) hZ (ow hw 181 rfl) (ow hw 109 rfl) (by decide) (by decide)) q243a q243c (g := (mkF m 415 #[(vl p0), .second, (vl p1), .second, (vi p2), (vi p3), (vi p4), (vi p5), (vi k0), (vi k1), (vi k2), (vi 1), (vl r_5), .second, (vl r_6), .second, (vl r_7), .second, (vl r_8), .second, (vl r_9), .second, (vl r_10), .second, (vl f0), .second, (vl f1), .second, (vl f2), .second, (vi 1), .val (.int (k0 + k1)), (vl yw), .second, (vr b17), (vr b121), (vr b181), .val (.int (yl0 + ((((yw.toUInt64 >>> ((0 : Int32) &&& 0x3f).toInt64.toUInt64).toInt64) &&& (maskV k0)).toInt32))), .val (.int (yl1 + ((((yw.toUInt64 >>> (((0 : Int32) + k0) &&& 0x3f).toInt64.toUInt64).toInt64) &&& (maskV k1)).toInt32))), .unset] [(.int 2), (.int 1), (.ref b181), (.ref b121)])) rfl (by rw [hml]; rfl) (Steps.refl _) (argsL := [(.ref b181), (.int 1), (.int 2)]) (rest := []) (lenOf pd_15 rfl) rfl (by show 2 * 0 + _ ≤ _; exact Nat.le_of_eq rfl) (hb hby at_415) (fun _ _ => ⟨rfl, K242q, (by decide : 17 + 0 ≤ _), (by decide : 70 + 0 ≤ _)⟩)
      dsimp only [Pt.U, Pt.locs, Pt.cells, Pt.slots] at X243 l243 y243 z243 st243 hQ243
      subst y243 z243
      obtain ⟨rfl, Nq243, K243q⟩ := hQ243
      have N243 : Fr n0 L243 := (congrArg (Fr n0) l243).mpr (Fr.app N242 Nq243)
      have hfin := own_fS hK0 hK1 hK2 p5_0 p6_0 p7_0 hf0 hf1 hf2 p15_0 hyw
      have hk244 : _ ≤ h230.size := (Nat.le_trans (Nat.le_trans (Nat.le_trans (Nat.le_trans (Nat.le_trans (Nat.le_trans (Nat.le_trans (Nat.le_trans (Nat.le_trans (Nat.le_trans (Nat.le_trans hk100 K111q.1) K119q.1) E121.1) K150q.1) E181.1) (Nat.le_of_eq W199.size.symm)) (Nat.le_of_eq W201.size.symm)) (Nat.le_of_eq W203.size.symm)) (Nat.le_of_eq W205.size.symm)) (Nat.le_of_eq W228.size.symm)) (Nat.le_of_eq W230.size.symm))
      obtain ⟨fs, hr, hrun, hended, hRW⟩ := X243.leaveW hS100 (by rw [K243q]; exact hk244) (v := some (.int 1)) (fun h => by rw [hret0] at h; cases h)
      refine ⟨_, _, pre227 _ ?_, hrun, hended, _, _, rfl, ?_, hRW.1, hRW.2.1, hRW.2.2.1, hRW.2.2.2.mono (by decide) (by decide)⟩
      · skip
        show Steps p.tables e below (T205.setTop (mkF m 364 #[(vl p0), .second, (vl p1), .second, (vi p2), (vi p3), (vi p4), (vi p5), (vi k0), (vi k1), (vi k2), (vi 1), (vl r_5), .second, (vl r_6), .second, (vl r_7), .second, (vl r_8), .second, (vl r_9), .second, (vl r_10), .second, (vl f0), .second, (vl f1), .second, (vl f2), .second, (vi 1), .val (.int (k0 + k1)), (vl yw), .second, (vr b17), (vr b121), (vr b181), .unset, .unset, .unset] [])) _
        refine XS.aload X205.here hx rfl (hb hby at_364) rfl rfl ?_
        refine XS.iload X205.here hx rfl (hb hby at_366) rfl ?_
        refine XS.lload X205.here hx rfl (hb hby at_368) rfl ?_
        refine st228 _ ?_
        refine XS.iload X228.here hx rfl (hb hby at_371) rfl ?_
        refine XS.ifNo X228.here hx rfl (hb hby at_373) rfl ((if0 _ _).trans (feq (by decide : ¬ ((1 : Int32) = (0 : Int32)))).1) ?_
        show Steps p.tables e below (T228.setTop (mkF m 376 #[(vl p0), .second, (vl p1), .second, (vi p2), (vi p3), (vi p4), (vi p5), (vi k0), (vi k1), (vi k2), (vi 1), (vl r_5), .second, (vl r_6), .second, (vl r_7), .second, (vl r_8), .second, (vl r_9), .second, (vl r_10), .second, (vl f0), .second, (vl f1), .second, (vl f2), .second, (vi 1), .val (.int (k0 + k1)), (vl yw), .second, (vr b17), (vr b121), (vr b181), .unset, .unset, .unset] [])) _
        refine XS.aload X228.here hx rfl (hb hby at_376) rfl rfl ?_
        refine XS.iload X228.here hx rfl (hb hby at_378) rfl ?_
        refine XS.iconst X228.here hx rfl (hb hby at_380) ?_
        refine XS.iadd X228.here hx rfl (hb hby at_381) rfl ?_
        refine XS.lloadN X228.here hx rfl (hb hby at_382) rfl ?_
        refine st230 _ ?_
        show Steps p.tables e below (T230.setTop (mkF m 384 #[(vl p0), .second, (vl p1), .second, (vi p2), (vi p3), (vi p4), (vi p5), (vi k0), (vi k1), (vi k2), (vi 1), (vl r_5), .second, (vl r_6), .second, (vl r_7), .second, (vl r_8), .second, (vl r_9), .second, (vl r_10), .second, (vl f0), .second, (vl f1), .second, (vl f2), .second, (vi 1), .val (.int (k0 + k1)), (vl yw), .second, (vr b17), (vr b121), (vr b181), .unset, .unset, .unset] [])) _
        refine XS.aload X230.here hx rfl (hb hby at_384) rfl rfl ?_
        refine XS.aload X230.here hx rfl (hb hby at_386) rfl rfl ?_
        refine XS.iload X230.here hx rfl (hb hby at_388) rfl ?_
        refine XS.iconst X230.here hx rfl (hb hby at_390) ?_
        refine st240.trans ?_
        refine XS.istore X240.here hx rfl (hb hby at_394) rfl (l' := #[(vl p0), .second, (vl p1), .second, (vi p2), (vi p3), (vi p4), (vi p5), (vi k0), (vi k1), (vi k2), (vi 1), (vl r_5), .second, (vl r_6), .second, (vl r_7), .second, (vl r_8), .second, (vl r_9), .second, (vl r_10), .second, (vl f0), .second, (vl f1), .second, (vl f2), .second, (vi 1), .val (.int (k0 + k1)), (vl yw), .second, (vr b17), (vr b121), (vr b181), .val (.int (yl0 + ((((yw.toUInt64 >>> ((0 : Int32) &&& 0x3f).toInt64.toUInt64).toInt64) &&& (maskV k0)).toInt32))), .unset, .unset]) rfl ?_
        show Steps p.tables e below (T240.setTop (mkF m 396 #[(vl p0), .second, (vl p1), .second, (vi p2), (vi p3), (vi p4), (vi p5), (vi k0), (vi k1), (vi k2), (vi 1), (vl r_5), .second, (vl r_6), .second, (vl r_7), .second, (vl r_8), .second, (vl r_9), .second, (vl r_10), .second, (vl f0), .second, (vl f1), .second, (vl f2), .second, (vi 1), .val (.int (k0 + k1)), (vl yw), .second, (vr b17), (vr b121), (vr b181), .val (.int (yl0 + ((((yw.toUInt64 >>> ((0 : Int32) &&& 0x3f).toInt64.toUInt64).toInt64) &&& (maskV k0)).toInt32))), .unset, .unset] [])) _
        refine XS.aload X240.here hx rfl (hb hby at_396) rfl rfl ?_
        refine XS.aload X240.here hx rfl (hb hby at_398) rfl rfl ?_
        refine XS.iload X240.here hx rfl (hb hby at_400) rfl ?_
        refine XS.iconst X240.here hx rfl (hb hby at_402) ?_
        refine st242.trans ?_
        refine XS.istore X242.here hx rfl (hb hby at_406) rfl (l' := #[(vl p0), .second, (vl p1), .second, (vi p2), (vi p3), (vi p4), (vi p5), (vi k0), (vi k1), (vi k2), (vi 1), (vl r_5), .second, (vl r_6), .second, (vl r_7), .second, (vl r_8), .second, (vl r_9), .second, (vl r_10), .second, (vl f0), .second, (vl f1), .second, (vl f2), .second, (vi 1), .val (.int (k0 + k1)), (vl yw), .second, (vr b17), (vr b121), (vr b181), .val (.int (yl0 + ((((yw.toUInt64 >>> ((0 : Int32) &&& 0x3f).toInt64.toUInt64).toInt64) &&& (maskV k0)).toInt32))), .val (.int (yl1 + ((((yw.toUInt64 >>> (((0 : Int32) + k0) &&& 0x3f).toInt64.toUInt64).toInt64) &&& (maskV k1)).toInt32))), .unset]) rfl ?_
        show Steps p.tables e below (T242.setTop (mkF m 408 #[(vl p0), .second, (vl p1), .second, (vi p2), (vi p3), (vi p4), (vi p5), (vi k0), (vi k1), (vi k2), (vi 1), (vl r_5), .second, (vl r_6), .second, (vl r_7), .second, (vl r_8), .second, (vl r_9), .second, (vl r_10), .second, (vl f0), .second, (vl f1), .second, (vl f2), .second, (vi 1), .val (.int (k0 + k1)), (vl yw), .second, (vr b17), (vr b121), (vr b181), .val (.int (yl0 + ((((yw.toUInt64 >>> ((0 : Int32) &&& 0x3f).toInt64.toUInt64).toInt64) &&& (maskV k0)).toInt32))), .val (.int (yl1 + ((((yw.toUInt64 >>> (((0 : Int32) + k0) &&& 0x3f).toInt64.toUInt64).toInt64) &&& (maskV k1)).toInt32))), .unset] [])) _
        refine XS.aload X242.here hx rfl (hb hby at_408) rfl rfl ?_
        refine XS.aload X242.here hx rfl (hb hby at_410) rfl rfl ?_
        refine XS.iload X242.here hx rfl (hb hby at_412) rfl ?_
        refine XS.iconst X242.here hx rfl (hb hby at_414) ?_
        refine st243.trans ?_
        refine XS.istore X243.here hx rfl (hb hby at_418) rfl (l' := #[(vl p0), .second, (vl p1), .second, (vi p2), (vi p3), (vi p4), (vi p5), (vi k0), (vi k1), (vi k2), (vi 1), (vl r_5), .second, (vl r_6), .second, (vl r_7), .second, (vl r_8), .second, (vl r_9), .second, (vl r_10), .second, (vl f0), .second, (vl f1), .second, (vl f2), .second, (vi 1), .val (.int (k0 + k1)), (vl yw), .second, (vr b17), (vr b121), (vr b181), .val (.int (yl0 + ((((yw.toUInt64 >>> ((0 : Int32) &&& 0x3f).toInt64.toUInt64).toInt64) &&& (maskV k0)).toInt32))), .val (.int (yl1 + ((((yw.toUInt64 >>> (((0 : Int32) + k0) &&& 0x3f).toInt64.toUInt64).toInt64) &&& (maskV k1)).toInt32))), .val (.int (yl2 + ((((p1.toUInt64 >>> ((0 : Int32) &&& 0x3f).toInt64.toUInt64).toInt64) &&& (maskV k2)).toInt32)))]) rfl ?_
        show Steps p.tables e below (T243.setTop (mkF m 420 #[(vl p0), .second, (vl p1), .second, (vi p2), (vi p3), (vi p4), (vi p5), (vi k0), (vi k1), (vi k2), (vi 1), (vl r_5), .second, (vl r_6), .second, (vl r_7), .second, (vl r_8), .second, (vl r_9), .second, (vl r_10), .second, (vl f0), .second, (vl f1), .second, (vl f2), .second, (vi 1), .val (.int (k0 + k1)), (vl yw), .second, (vr b17), (vr b121), (vr b181), .val (.int (yl0 + ((((yw.toUInt64 >>> ((0 : Int32) &&& 0x3f).toInt64.toUInt64).toInt64) &&& (maskV k0)).toInt32))), .val (.int (yl1 + ((((yw.toUInt64 >>> (((0 : Int32) + k0) &&& 0x3f).toInt64.toUInt64).toInt64) &&& (maskV k1)).toInt32))), .val (.int (yl2 + ((((p1.toUInt64 >>> ((0 : Int32) &&& 0x3f).toInt64.toUInt64).toInt64) &&& (maskV k2)).toInt32)))] [])) _
        refine XS.iload X243.here hx rfl (hb hby at_420) rfl ?_
        refine XS.lload X243.here hx rfl (hb hby at_422) rfl ?_
        refine XS.lload X243.here hx rfl (hb hby at_424) rfl ?_
        refine XS.ladd X243.here hx rfl (hb hby at_426) rfl ?_
        refine XS.l2i X243.here hx rfl (hb hby at_427) rfl ?_
        refine XS.icmpNo X243.here hx rfl (hb hby at_428) rfl (teq (by rw [own_sh0, hfin.1, hyl0, own_toI32] : (yl0 + ((((yw.toUInt64 >>> ((0 : Int32) &&& 0x3f).toInt64.toUInt64).toInt64) &&& (maskV k0)).toInt32)) = ((r_8 + f0).toInt32))).2 ?_
        show Steps p.tables e below (T243.setTop (mkF m 431 #[(vl p0), .second, (vl p1), .second, (vi p2), (vi p3), (vi p4), (vi p5), (vi k0), (vi k1), (vi k2), (vi 1), (vl r_5), .second, (vl r_6), .second, (vl r_7), .second, (vl r_8), .second, (vl r_9), .second, (vl r_10), .second, (vl f0), .second, (vl f1), .second, (vl f2), .second, (vi 1), .val (.int (k0 + k1)), (vl yw), .second, (vr b17), (vr b121), (vr b181), .val (.int (yl0 + ((((yw.toUInt64 >>> ((0 : Int32) &&& 0x3f).toInt64.toUInt64).toInt64) &&& (maskV k0)).toInt32))), .val (.int (yl1 + ((((yw.toUInt64 >>> (((0 : Int32) + k0) &&& 0x3f).toInt64.toUInt64).toInt64) &&& (maskV k1)).toInt32))), .val (.int (yl2 + ((((p1.toUInt64 >>> ((0 : Int32) &&& 0x3f).toInt64.toUInt64).toInt64) &&& (maskV k2)).toInt32)))] [])) _
        refine XS.iload X243.here hx rfl (hb hby at_431) rfl ?_
        refine XS.lload X243.here hx rfl (hb hby at_433) rfl ?_
        refine XS.lload X243.here hx rfl (hb hby at_435) rfl ?_
        refine XS.ladd X243.here hx rfl (hb hby at_437) rfl ?_
        refine XS.l2i X243.here hx rfl (hb hby at_438) rfl ?_
        refine XS.icmpNo X243.here hx rfl (hb hby at_439) rfl (teq (by rw [hfin.2.1, hyl1, own_toI32] : (yl1 + ((((yw.toUInt64 >>> (((0 : Int32) + k0) &&& 0x3f).toInt64.toUInt64).toInt64) &&& (maskV k1)).toInt32)) = ((r_9 + f1).toInt32))).2 ?_
        show Steps p.tables e below (T243.setTop (mkF m 442 #[(vl p0), .second, (vl p1), .second, (vi p2), (vi p3), (vi p4), (vi p5), (vi k0), (vi k1), (vi k2), (vi 1), (vl r_5), .second, (vl r_6), .second, (vl r_7), .second, (vl r_8), .second, (vl r_9), .second, (vl r_10), .second, (vl f0), .second, (vl f1), .second, (vl f2), .second, (vi 1), .val (.int (k0 + k1)), (vl yw), .second, (vr b17), (vr b121), (vr b181), .val (.int (yl0 + ((((yw.toUInt64 >>> ((0 : Int32) &&& 0x3f).toInt64.toUInt64).toInt64) &&& (maskV k0)).toInt32))), .val (.int (yl1 + ((((yw.toUInt64 >>> (((0 : Int32) + k0) &&& 0x3f).toInt64.toUInt64).toInt64) &&& (maskV k1)).toInt32))), .val (.int (yl2 + ((((p1.toUInt64 >>> ((0 : Int32) &&& 0x3f).toInt64.toUInt64).toInt64) &&& (maskV k2)).toInt32)))] [])) _
        refine XS.iload X243.here hx rfl (hb hby at_442) rfl ?_
        refine XS.lload X243.here hx rfl (hb hby at_444) rfl ?_
        refine XS.lload X243.here hx rfl (hb hby at_446) rfl ?_
        refine XS.ladd X243.here hx rfl (hb hby at_448) rfl ?_
        refine XS.l2i X243.here hx rfl (hb hby at_449) rfl ?_
        refine XS.icmpNo X243.here hx rfl (hb hby at_450) rfl (teq (by rw [own_sh0, hfin.2.2, hyl2, own_toI32] : (yl2 + ((((p1.toUInt64 >>> ((0 : Int32) &&& 0x3f).toInt64.toUInt64).toInt64) &&& (maskV k2)).toInt32)) = ((r_10 + f2).toInt32))).2 ?_
        show Steps p.tables e below (T243.setTop (mkF m 453 #[(vl p0), .second, (vl p1), .second, (vi p2), (vi p3), (vi p4), (vi p5), (vi k0), (vi k1), (vi k2), (vi 1), (vl r_5), .second, (vl r_6), .second, (vl r_7), .second, (vl r_8), .second, (vl r_9), .second, (vl r_10), .second, (vl f0), .second, (vl f1), .second, (vl f2), .second, (vi 1), .val (.int (k0 + k1)), (vl yw), .second, (vr b17), (vr b121), (vr b181), .val (.int (yl0 + ((((yw.toUInt64 >>> ((0 : Int32) &&& 0x3f).toInt64.toUInt64).toInt64) &&& (maskV k0)).toInt32))), .val (.int (yl1 + ((((yw.toUInt64 >>> (((0 : Int32) + k0) &&& 0x3f).toInt64.toUInt64).toInt64) &&& (maskV k1)).toInt32))), .val (.int (yl2 + ((((p1.toUInt64 >>> ((0 : Int32) &&& 0x3f).toInt64.toUInt64).toInt64) &&& (maskV k2)).toInt32)))] [])) _
        refine XS.iconst X243.here hx rfl (hb hby at_453) ?_
        refine XS.goto X243.here hx rfl (pc0 := 454) (pc' := 458) rfl (hb hby at_454) (by decide) (by decide) ?_
        exact retN X243 hx (t := .boolean) hret0 (by simp) (hb hby at_458) hr
      · show Q_rm0 Z wINTEGER wDOUBLE wBOOLEAN wDEFAULTCAPACITY_EMPTY_ELEMENTDATA kwDEFAULTCAPACITY_EMPTY_ELEMENTDATA p0 p1 p2 p3 p4 p5 h0 n0 _ T243.heap _
        rw [K243q]
        exact ⟨rfl, N243⟩
  · skip
    have hC : ¬ (64 : Int32) < ((((0 : Int32) + k0) + k1) + k2) := by rw [Int32.zero_add]; exact hsp
    obtain ⟨_, _, ⟨T245, L245, k245, n245⟩, -, X245, ⟨Lc245, hQ245, l245, y245, z245⟩, st245⟩ := Jvm.LawKit.callS X10 hx (y := M0) hown (mvT hZ (ow hw 0 rfl)) (mvT hZ (ow hw 1 rfl)) (mvT hZ (ow hw 2 rfl)) (mvT hZ (ow hw 3 rfl)) (by decide) (backOf (W := 4) (rmOnes l Z a0 hw [] wINTEGER wDOUBLE wBOOLEAN wDEFAULTCAPACITY_EMPTY_ELEMENTDATA kwDEFAULTCAPACITY_EMPTY_ELEMENTDATA hS ((k0 + k1) + k2) h0 n0 O0 ) hZ (ow hw 3 rfl) (ow hw 2 rfl) (by decide) (by decide)) (g := (mkF m 201 #[(vl p0), .second, (vl p1), .second, (vi p2), (vi p3), (vi p4), (vi p5), (vi k0), (vi k1), (vi k2), (vi yo), (vl r_5), .second, (vl r_6), .second, (vl r_7), .second, (vl r_8), .second, (vl r_9), .second, (vl r_10), .second, (vl f0), .second, (vl f1), .second, (vl f2), .second, (vi 0), .val (.int ((k0 + k1) + k2)), .unset, .unset, .unset, .unset, .unset, .unset, .unset, .unset] [(.int ((k0 + k1) + k2)), (.long p0), (.long ((f0 ||| (f1 <<< (k0 &&& 0x3f).toInt64)) ||| (f2 <<< ((k0 + k1) &&& 0x3f).toInt64)))])) rfl (by rw [hml]; rfl) (argsL := [(.int ((k0 + k1) + k2))]) (rest := [(.long p0), (.long ((f0 ||| (f1 <<< (k0 &&& 0x3f).toInt64)) ||| (f2 <<< ((k0 + k1) &&& 0x3f).toInt64)))]) (lenOf pd_1 rfl) rfl (by show 2 * 0 + _ ≤ _; exact Nat.le_of_eq rfl) (hb hby at_201) (fun _ _ => ⟨rfl, K10q, (by decide : 0 + 0 ≤ _), (by decide : 0 + 0 ≤ _)⟩)
    dsimp only [Pt.U, Pt.locs, Pt.cells, Pt.slots] at X245 l245 y245 z245 st245 hQ245
    subst y245 z245
    obtain ⟨r_245, rfl, Nq245, K245q, p245_0⟩ := hQ245
    have N245 : Fr n0 L245 := (congrArg (Fr n0) l245).mpr (Fr.app N10 Nq245)
    obtain ⟨yw, hyw⟩ : ∃ z : Int64, z = (((f0 ||| (f1 <<< (k0 &&& 0x3f).toInt64)) ||| (f2 <<< ((k0 + k1) &&& 0x3f).toInt64)) ||| (p0 &&& (r_245 ^^^ (-1 : Int64)))) := ⟨_, rfl⟩
    have pre246 : ∀ t, Steps p.tables e below (T245.setTop (mkF m 212 #[(vl p0), .second, (vl p1), .second, (vi p2), (vi p3), (vi p4), (vi p5), (vi k0), (vi k1), (vi k2), (vi yo), (vl r_5), .second, (vl r_6), .second, (vl r_7), .second, (vl r_8), .second, (vl r_9), .second, (vl r_10), .second, (vl f0), .second, (vl f1), .second, (vl f2), .second, (vi 0), .val (.int ((k0 + k1) + k2)), (vl yw), .second, .unset, .unset, .unset, .unset, .unset, .unset] [])) t → Steps p.tables e below (s₁.setTop (entryFrame m #[(.long p0), (.long p1), (.int p2), (.int p3), (.int p4), (.int p5)] maxLocals)) t := by
      intro t k
      rw [hyw] at k
      refine pre14 t ?_
      show Steps p.tables e below (T10.setTop (mkF m 139 #[(vl p0), .second, (vl p1), .second, (vi p2), (vi p3), (vi p4), (vi p5), (vi k0), (vi k1), (vi k2), (vi yo), (vl r_5), .second, (vl r_6), .second, (vl r_7), .second, (vl r_8), .second, (vl r_9), .second, (vl r_10), .second, (vl f0), .second, (vl f1), .second, (vl f2), .second, .unset, .unset, .unset, .unset, .unset, .unset, .unset, .unset, .unset, .unset] [(.int 64), (.int ((k0 + k1) + k2))])) _
      refine XS.icmpYes X10.here hx rfl (pc0 := 139) (pc' := 146) rfl (hb hby at_139) rfl (flt (hsp : ¬ ((64 : Int32) < ((k0 + k1) + k2)))).2.2.2 (by decide) (by decide) ?_
      refine XS.iconst X10.here hx rfl (hb hby at_146) ?_
      refine XS.istore X10.here hx rfl (hb hby at_147) rfl (l' := #[(vl p0), .second, (vl p1), .second, (vi p2), (vi p3), (vi p4), (vi p5), (vi k0), (vi k1), (vi k2), (vi yo), (vl r_5), .second, (vl r_6), .second, (vl r_7), .second, (vl r_8), .second, (vl r_9), .second, (vl r_10), .second, (vl f0), .second, (vl f1), .second, (vl f2), .second, (vi 0), .unset, .unset, .unset, .unset, .unset, .unset, .unset, .unset, .unset]) rfl ?_
      refine XS.iload X10.here hx rfl (hb hby at_149) rfl ?_
      refine XS.ifYes X10.here hx rfl (pc0 := 151) (pc' := 162) rfl (hb hby at_151) rfl ((if0 _ _).trans (teq (by decide : (0 : Int32) = (0 : Int32))).1) (by decide) (by decide) ?_
      refine XS.iload X10.here hx rfl (hb hby at_162) rfl ?_
      show Steps p.tables e below (T10.setTop (mkF m 164 #[(vl p0), .second, (vl p1), .second, (vi p2), (vi p3), (vi p4), (vi p5), (vi k0), (vi k1), (vi k2), (vi yo), (vl r_5), .second, (vl r_6), .second, (vl r_7), .second, (vl r_8), .second, (vl r_9), .second, (vl r_10), .second, (vl f0), .second, (vl f1), .second, (vl f2), .second, (vi 0), .unset, .unset, .unset, .unset, .unset, .unset, .unset, .unset, .unset] [(.int k0)])) _
      refine XS.iload X10.here hx rfl (hb hby at_164) rfl ?_
      refine XS.iadd X10.here hx rfl (hb hby at_166) rfl ?_
      refine XS.iload X10.here hx rfl (hb hby at_167) rfl ?_
      refine XS.iadd X10.here hx rfl (hb hby at_169) rfl ?_
      refine XS.istore X10.here hx rfl (hb hby at_170) rfl (l' := #[(vl p0), .second, (vl p1), .second, (vi p2), (vi p3), (vi p4), (vi p5), (vi k0), (vi k1), (vi k2), (vi yo), (vl r_5), .second, (vl r_6), .second, (vl r_7), .second, (vl r_8), .second, (vl r_9), .second, (vl r_10), .second, (vl f0), .second, (vl f1), .second, (vl f2), .second, (vi 0), .val (.int ((k0 + k1) + k2)), .unset, .unset, .unset, .unset, .unset, .unset, .unset, .unset]) rfl ?_
      refine XS.lload X10.here hx rfl (hb hby at_172) rfl ?_
      show Steps p.tables e below (T10.setTop (mkF m 174 #[(vl p0), .second, (vl p1), .second, (vi p2), (vi p3), (vi p4), (vi p5), (vi k0), (vi k1), (vi k2), (vi yo), (vl r_5), .second, (vl r_6), .second, (vl r_7), .second, (vl r_8), .second, (vl r_9), .second, (vl r_10), .second, (vl f0), .second, (vl f1), .second, (vl f2), .second, (vi 0), .val (.int ((k0 + k1) + k2)), .unset, .unset, .unset, .unset, .unset, .unset, .unset, .unset] [(.long f0)])) _
      refine XS.lload X10.here hx rfl (hb hby at_174) rfl ?_
      refine XS.iload X10.here hx rfl (hb hby at_176) rfl ?_
      refine XS.lshl X10.here hx rfl (hb hby at_178) rfl ?_
      refine XS.lor X10.here hx rfl (hb hby at_179) rfl ?_
      refine XS.iload X10.here hx rfl (hb hby at_180) rfl ?_
      refine XS.ifYes X10.here hx rfl (pc0 := 182) (pc' := 189) rfl (hb hby at_182) rfl ((if0 _ _).trans (teq (by decide : (0 : Int32) = (0 : Int32))).1) (by decide) (by decide) ?_
      show Steps p.tables e below (T10.setTop (mkF m 189 #[(vl p0), .second, (vl p1), .second, (vi p2), (vi p3), (vi p4), (vi p5), (vi k0), (vi k1), (vi k2), (vi yo), (vl r_5), .second, (vl r_6), .second, (vl r_7), .second, (vl r_8), .second, (vl r_9), .second, (vl r_10), .second, (vl f0), .second, (vl f1), .second, (vl f2), .second, (vi 0), .val (.int ((k0 + k1) + k2)), .unset, .unset, .unset, .unset, .unset, .unset, .unset, .unset] [(.long (f0 ||| (f1 <<< (k0 &&& 0x3f).toInt64)))])) _
      refine XS.lload X10.here hx rfl (hb hby at_189) rfl ?_
      refine XS.iload X10.here hx rfl (hb hby at_191) rfl ?_
      refine XS.iload X10.here hx rfl (hb hby at_193) rfl ?_
      refine XS.iadd X10.here hx rfl (hb hby at_195) rfl ?_
      refine XS.lshl X10.here hx rfl (hb hby at_196) rfl ?_
      refine XS.lor X10.here hx rfl (hb hby at_197) rfl ?_
      show Steps p.tables e below (T10.setTop (mkF m 198 #[(vl p0), .second, (vl p1), .second, (vi p2), (vi p3), (vi p4), (vi p5), (vi k0), (vi k1), (vi k2), (vi yo), (vl r_5), .second, (vl r_6), .second, (vl r_7), .second, (vl r_8), .second, (vl r_9), .second, (vl r_10), .second, (vl f0), .second, (vl f1), .second, (vl f2), .second, (vi 0), .val (.int ((k0 + k1) + k2)), .unset, .unset, .unset, .unset, .unset, .unset, .unset, .unset] [(.long ((f0 ||| (f1 <<< (k0 &&& 0x3f).toInt64)) ||| (f2 <<< ((k0 + k1) &&& 0x3f).toInt64)))])) _
      refine XS.lloadN X10.here hx rfl (hb hby at_198) rfl ?_
      refine XS.iload X10.here hx rfl (hb hby at_199) rfl ?_
      refine st245 _ ?_
      refine X245.ldc2Long hx hown (mvT hZ (ow hw 9 rfl)) (g := (mkF m 204 #[(vl p0), .second, (vl p1), .second, (vi p2), (vi p3), (vi p4), (vi p5), (vi k0), (vi k1), (vi k2), (vi yo), (vl r_5), .second, (vl r_6), .second, (vl r_7), .second, (vl r_8), .second, (vl r_9), .second, (vl r_10), .second, (vl f0), .second, (vl f1), .second, (vl f2), .second, (vi 0), .val (.int ((k0 + k1) + k2)), .unset, .unset, .unset, .unset, .unset, .unset, .unset, .unset] [(.long r_245), (.long p0), (.long ((f0 ||| (f1 <<< (k0 &&& 0x3f).toInt64)) ||| (f2 <<< ((k0 + k1) &&& 0x3f).toInt64)))])) rfl (hb hby at_204) _ ?_
      refine XS.lxor X245.here hx rfl (hb hby at_207) rfl ?_
      refine XS.land X245.here hx rfl (hb hby at_208) rfl ?_
      show Steps p.tables e below (T245.setTop (mkF m 209 #[(vl p0), .second, (vl p1), .second, (vi p2), (vi p3), (vi p4), (vi p5), (vi k0), (vi k1), (vi k2), (vi yo), (vl r_5), .second, (vl r_6), .second, (vl r_7), .second, (vl r_8), .second, (vl r_9), .second, (vl r_10), .second, (vl f0), .second, (vl f1), .second, (vl f2), .second, (vi 0), .val (.int ((k0 + k1) + k2)), .unset, .unset, .unset, .unset, .unset, .unset, .unset, .unset] [(.long (p0 &&& (r_245 ^^^ (-1 : Int64)))), (.long ((f0 ||| (f1 <<< (k0 &&& 0x3f).toInt64)) ||| (f2 <<< ((k0 + k1) &&& 0x3f).toInt64)))])) _
      refine XS.lor X245.here hx rfl (hb hby at_209) rfl ?_
      refine XS.lstore X245.here hx rfl (hb hby at_210) rfl (l' := #[(vl p0), .second, (vl p1), .second, (vi p2), (vi p3), (vi p4), (vi p5), (vi k0), (vi k1), (vi k2), (vi yo), (vl r_5), .second, (vl r_6), .second, (vl r_7), .second, (vl r_8), .second, (vl r_9), .second, (vl r_10), .second, (vl f0), .second, (vl f1), .second, (vl f2), .second, (vi 0), .val (.int ((k0 + k1) + k2)), .val (.long (((f0 ||| (f1 <<< (k0 &&& 0x3f).toInt64)) ||| (f2 <<< ((k0 + k1) &&& 0x3f).toInt64)) ||| (p0 &&& (r_245 ^^^ (-1 : Int64))))), .second, .unset, .unset, .unset, .unset, .unset, .unset]) rfl ?_
      exact k
    obtain ⟨T247, h247, X247, e247, E247, A247, D247, -, st247⟩ := newO X245 hx hZ hown (ow hw 10 rfl) (ow hw 11 rfl) (ow hw 12 rfl) K245q (g := (mkF m 212 #[(vl p0), .second, (vl p1), .second, (vi p2), (vi p3), (vi p4), (vi p5), (vi k0), (vi k1), (vi k2), (vi yo), (vl r_5), .second, (vl r_6), .second, (vl r_7), .second, (vl r_8), .second, (vl r_9), .second, (vl r_10), .second, (vl f0), .second, (vl f1), .second, (vl f2), .second, (vi 0), .val (.int ((k0 + k1) + k2)), (vl yw), .second, .unset, .unset, .unset, .unset, .unset, .unset] [])) rfl (hb hby at_212) (by decide) (by decide)
    obtain ⟨b247, g247⟩ : ∃ z, z = h0.size := ⟨_, rfl⟩
    rw [← g247] at A247 D247 st247
    have g248 : n0 ≤ b247 := Nat.le_trans (own_sz O0) (Nat.le_of_eq g247.symm)
    have O249 : Old Z n0 h247 := O0.ext E247
    have f250 : Fld Z h247 b247 s5n "modCount" "I" (.int 0) := D247 (Or.inl (ow hw 32 rfl)) (ty := .int) (by decide)
    have f251 : Fld Z h247 b247 s2n "elementData" s3n .null := D247 (Or.inl (ow hw 35 rfl)) (ty := (.array (.object s4n))) (by decide)
    have f252 : Fld Z h247 b247 s2n "size" "I" (.int 0) := D247 (Or.inl (ow hw 83 rfl)) (ty := .int) (by decide)
    obtain ⟨_, _, ⟨T253, L253, k253, n253⟩, -, X253, ⟨Lc253, hQ253, l253, y253, z253⟩, st253⟩ := X247.specialBack hx (y := M7) rfl hown (mvT hZ (ow hw 13 rfl)) (mvT hZ (ow hw 14 rfl)) (mvT hZ (ow hw 15 rfl)) (by decide) (backOf (W := 1) (au3_0 l Z a0 hw [] wINTEGER wDOUBLE wBOOLEAN wDEFAULTCAPACITY_EMPTY_ELEMENTDATA kwDEFAULTCAPACITY_EMPTY_ELEMENTDATA hS b247 h247 n0 O249 A247 f250 f251 f252 g248) hZ (ow hw 15 rfl) (ow hw 12 rfl) (by decide) (by decide)) (g := (mkF m 216 #[(vl p0), .second, (vl p1), .second, (vi p2), (vi p3), (vi p4), (vi p5), (vi k0), (vi k1), (vi k2), (vi yo), (vl r_5), .second, (vl r_6), .second, (vl r_7), .second, (vl r_8), .second, (vl r_9), .second, (vl r_10), .second, (vl f0), .second, (vl f1), .second, (vl f2), .second, (vi 0), .val (.int ((k0 + k1) + k2)), (vl yw), .second, .unset, .unset, .unset, .unset, .unset, .unset] [(.ref b247), (.ref b247)])) rfl (by rw [hml]; rfl) (Steps.refl _) (a := b247) (argsL := []) (rest := [(.ref b247)]) (lenOf pd_3 rfl) rfl (by show 2 * 0 + _ ≤ _; exact Nat.le_of_eq rfl) (hb hby at_216) (fun _ _ => ⟨rfl, e247, (by decide : 1 + 0 ≤ _), (by decide : 3 + 0 ≤ _)⟩)
    dsimp only [Pt.U, Pt.locs, Pt.cells, Pt.slots] at X253 l253 y253 z253 st253 hQ253
    subst y253 z253
    obtain ⟨rfl, Nq253, K253q, p253_0, p253_1, p253_2, p253_3⟩ := hQ253
    have N253 : Fr n0 L253 := (congrArg (Fr n0) l253).mpr (Fr.app N245 Nq253)
    have O254 : Old Z n0 T253.heap := O249.keep K253q (allS g248 all0)
    obtain ⟨T255, h255, X255, e255, E255, A255, D255, -, st255⟩ := newO X253 hx hZ hown (ow hw 36 rfl) (ow hw 37 rfl) (ow hw 38 rfl) rfl (g := (mkF m 223 #[(vl p0), .second, (vl p1), .second, (vi p2), (vi p3), (vi p4), (vi p5), (vi k0), (vi k1), (vi k2), (vi yo), (vl r_5), .second, (vl r_6), .second, (vl r_7), .second, (vl r_8), .second, (vl r_9), .second, (vl r_10), .second, (vl f0), .second, (vl f1), .second, (vl f2), .second, (vi 0), .val (.int ((k0 + k1) + k2)), (vl yw), .second, (vr b247), .unset, .unset, .unset, .unset, .unset] [(.ref b247)])) rfl (hb hby at_223) (by decide) (by decide)
    obtain ⟨b255, g255⟩ : ∃ z, z = T253.heap.size := ⟨_, rfl⟩
    rw [← g255] at A255 D255 st255
    have ne256 : b247 ≠ b255 := Nat.ne_of_lt (Nat.lt_of_lt_of_le p253_0.lt (Nat.le_of_eq g255.symm))
    have g257 : n0 ≤ b255 := Nat.le_trans (own_sz O254) (Nat.le_of_eq g255.symm)
    have O258 : Old Z n0 h255 := O254.ext E255
    have f259 : Fld Z h255 b255 s6n "name" s7n .null := D255 (Or.inr (ow hw 64 rfl)) (ty := (.object s8n)) (by decide)
    have f260 : Fld Z h255 b255 s6n "type" s1n .null := D255 (Or.inr (ow hw 66 rfl)) (ty := (.object s0n)) (by decide)
    have f261 : Fld Z h255 b255 s6n "low" "I" (.int 0) := D255 (Or.inr (ow hw 68 rfl)) (ty := .int) (by decide)
    have f262 : Fld Z h255 b255 s6n "high" "I" (.int 0) := D255 (Or.inr (ow hw 70 rfl)) (ty := .int) (by decide)
    have hk264 : _ ≤ h255.size := (Nat.le_trans (Nat.le_trans (Nat.le_trans (Nat.le_refl _) E247.1) K253q.1) E255.1)
    obtain ⟨b263, T263, h263, kk263, X263, e263, E263, hS263, hk263, hZ, hown, st263⟩ := ldcS X255 hx hZ hown (ow hw 39 rfl) (own_wS hw) e255 hS1 hk264 (g := (mkF m 227 #[(vl p0), .second, (vl p1), .second, (vi p2), (vi p3), (vi p4), (vi p5), (vi k0), (vi k1), (vi k2), (vi yo), (vl r_5), .second, (vl r_6), .second, (vl r_7), .second, (vl r_8), .second, (vl r_9), .second, (vl r_10), .second, (vl f0), .second, (vl f1), .second, (vl f2), .second, (vi 0), .val (.int ((k0 + k1) + k2)), (vl yw), .second, (vr b247), .unset, .unset, .unset, .unset, .unset] [(.ref b255), (.ref b255), (.ref b247)])) rfl (hb hby at_227) (n := 4) (by decide) (by decide) (by decide) (by decide)
    have O265 : Old Z n0 h263 := O258.ext E263
    obtain ⟨T266, X266, e266, st266⟩ := getS2 X263 hx hZ hown (host := "") (Or.inl (ow hw 47 rfl)) Via.refl e263 (S_wINTEGER.ext O265.2) (g := (mkF m 229 #[(vl p0), .second, (vl p1), .second, (vi p2), (vi p3), (vi p4), (vi p5), (vi k0), (vi k1), (vi k2), (vi yo), (vl r_5), .second, (vl r_6), .second, (vl r_7), .second, (vl r_8), .second, (vl r_9), .second, (vl r_10), .second, (vl f0), .second, (vl f1), .second, (vl f2), .second, (vi 0), .val (.int ((k0 + k1) + k2)), (vl yw), .second, (vr b247), .unset, .unset, .unset, .unset, .unset] [(.ref b263), (.ref b255), (.ref b255), (.ref b247)])) rfl (hb hby at_229)
    obtain ⟨yl0, hyl0⟩ : ∃ z : Int32, z = (r_8.toInt32) := ⟨_, rfl⟩
    have pre267 : ∀ t, Steps p.tables e below (T266.setTop (mkF m 235 #[(vl p0), .second, (vl p1), .second, (vi p2), (vi p3), (vi p4), (vi p5), (vi k0), (vi k1), (vi k2), (vi yo), (vl r_5), .second, (vl r_6), .second, (vl r_7), .second, (vl r_8), .second, (vl r_9), .second, (vl r_10), .second, (vl f0), .second, (vl f1), .second, (vl f2), .second, (vi 0), .val (.int ((k0 + k1) + k2)), (vl yw), .second, (vr b247), .unset, .unset, .unset, .unset, .unset] [(.int yl0), (.ref wINTEGER), (.ref b263), (.ref b255), (.ref b255), (.ref b247)])) t → Steps p.tables e below (s₁.setTop (entryFrame m #[(.long p0), (.long p1), (.int p2), (.int p3), (.int p4), (.int p5)] maxLocals)) t := by
      intro t k
      rw [hyl0] at k
      refine pre246 t ?_
      show Steps p.tables e below (T245.setTop (mkF m 212 #[(vl p0), .second, (vl p1), .second, (vi p2), (vi p3), (vi p4), (vi p5), (vi k0), (vi k1), (vi k2), (vi yo), (vl r_5), .second, (vl r_6), .second, (vl r_7), .second, (vl r_8), .second, (vl r_9), .second, (vl r_10), .second, (vl f0), .second, (vl f1), .second, (vl f2), .second, (vi 0), .val (.int ((k0 + k1) + k2)), (vl yw), .second, .unset, .unset, .unset, .unset, .unset, .unset] [])) _
      refine st247 _ ?_
      refine XS.dup X247.here hx rfl (hb hby at_215) rfl rfl ?_
      refine st253.trans ?_
      refine XS.astore X253.here hx rfl (hb hby at_219) rfl rfl (l' := #[(vl p0), .second, (vl p1), .second, (vi p2), (vi p3), (vi p4), (vi p5), (vi k0), (vi k1), (vi k2), (vi yo), (vl r_5), .second, (vl r_6), .second, (vl r_7), .second, (vl r_8), .second, (vl r_9), .second, (vl r_10), .second, (vl f0), .second, (vl f1), .second, (vl f2), .second, (vi 0), .val (.int ((k0 + k1) + k2)), (vl yw), .second, (vr b247), .unset, .unset, .unset, .unset, .unset]) rfl ?_
      refine XS.aload X253.here hx rfl (hb hby at_221) rfl rfl ?_
      refine st255 _ ?_
      show Steps p.tables e below (T255.setTop (mkF m 226 #[(vl p0), .second, (vl p1), .second, (vi p2), (vi p3), (vi p4), (vi p5), (vi k0), (vi k1), (vi k2), (vi yo), (vl r_5), .second, (vl r_6), .second, (vl r_7), .second, (vl r_8), .second, (vl r_9), .second, (vl r_10), .second, (vl f0), .second, (vl f1), .second, (vl f2), .second, (vi 0), .val (.int ((k0 + k1) + k2)), (vl yw), .second, (vr b247), .unset, .unset, .unset, .unset, .unset] [(.ref b255), (.ref b247)])) _
      refine XS.dup X255.here hx rfl (hb hby at_226) rfl rfl ?_
      refine st263 _ ?_
      refine st266 _ ?_
      refine XS.lload X266.here hx rfl (hb hby at_232) rfl ?_
      refine XS.l2i X266.here hx rfl (hb hby at_234) rfl ?_
      exact k
    obtain ⟨yh0, hyh0⟩ : ∃ z : Int32, z = ((r_8 + r_5).toInt32) := ⟨_, rfl⟩
    have pre268 : ∀ t, Steps p.tables e below (T266.setTop (mkF m 241 #[(vl p0), .second, (vl p1), .second, (vi p2), (vi p3), (vi p4), (vi p5), (vi k0), (vi k1), (vi k2), (vi yo), (vl r_5), .second, (vl r_6), .second, (vl r_7), .second, (vl r_8), .second, (vl r_9), .second, (vl r_10), .second, (vl f0), .second, (vl f1), .second, (vl f2), .second, (vi 0), .val (.int ((k0 + k1) + k2)), (vl yw), .second, (vr b247), .unset, .unset, .unset, .unset, .unset] [(.int yh0), (.int yl0), (.ref wINTEGER), (.ref b263), (.ref b255), (.ref b255), (.ref b247)])) t → Steps p.tables e below (s₁.setTop (entryFrame m #[(.long p0), (.long p1), (.int p2), (.int p3), (.int p4), (.int p5)] maxLocals)) t := by
      intro t k
      rw [hyh0] at k
      refine pre267 t ?_
      show Steps p.tables e below (T266.setTop (mkF m 235 #[(vl p0), .second, (vl p1), .second, (vi p2), (vi p3), (vi p4), (vi p5), (vi k0), (vi k1), (vi k2), (vi yo), (vl r_5), .second, (vl r_6), .second, (vl r_7), .second, (vl r_8), .second, (vl r_9), .second, (vl r_10), .second, (vl f0), .second, (vl f1), .second, (vl f2), .second, (vi 0), .val (.int ((k0 + k1) + k2)), (vl yw), .second, (vr b247), .unset, .unset, .unset, .unset, .unset] [(.int yl0), (.ref wINTEGER), (.ref b263), (.ref b255), (.ref b255), (.ref b247)])) _
      refine XS.lload X266.here hx rfl (hb hby at_235) rfl ?_
      refine XS.lload X266.here hx rfl (hb hby at_237) rfl ?_
      refine XS.ladd X266.here hx rfl (hb hby at_239) rfl ?_
      refine XS.l2i X266.here hx rfl (hb hby at_240) rfl ?_
      exact k
    have hle0 : ¬ yh0 < yl0 := (own_span hK0 p5_0 p8_0 hyl0 hyh0).1
    have hbt0 : bitsV yl0 yh0 = k0 := own_bits hK0 p5_0 p8_0 hyl0 hyh0
    have f269 : Exa Z h263 b255 s6n := (A255.ext E263)
    have f270 : Fld Z h263 b255 s6n "high" "I" (.int 0) := (f262.ext E263)
    have f271 : Fld Z h263 b255 s6n "low" "I" (.int 0) := (f261.ext E263)
    have f272 : Fld Z h263 b255 s6n "name" s7n .null := (f259.ext E263)
    have f273 : Fld Z h263 b255 s6n "type" s1n .null := (f260.ext E263)
    obtain ⟨_, _, ⟨T274, L274, k274, n274⟩, -, X274, ⟨Lc274, hQ274, l274, y274, z274⟩, st274⟩ := X266.specialBack hx (y := M9) rfl hown (mvT hZ (ow hw 50 rfl)) (mvT hZ (ow hw 51 rfl)) (mvT hZ (ow hw 52 rfl)) (by decide) (backOf (W := 2) (au7_0 l Z a0 hw [] wINTEGER wDOUBLE wBOOLEAN wDEFAULTCAPACITY_EMPTY_ELEMENTDATA kwDEFAULTCAPACITY_EMPTY_ELEMENTDATA hS b255 b263 yl0 yh0 h263 n0 O265 f269 f270 f271 f272 f273 hle0 g257) hZ (ow hw 52 rfl) (ow hw 38 rfl) (by decide) (by decide)) (g := (mkF m 241 #[(vl p0), .second, (vl p1), .second, (vi p2), (vi p3), (vi p4), (vi p5), (vi k0), (vi k1), (vi k2), (vi yo), (vl r_5), .second, (vl r_6), .second, (vl r_7), .second, (vl r_8), .second, (vl r_9), .second, (vl r_10), .second, (vl f0), .second, (vl f1), .second, (vl f2), .second, (vi 0), .val (.int ((k0 + k1) + k2)), (vl yw), .second, (vr b247), .unset, .unset, .unset, .unset, .unset] [(.int yh0), (.int yl0), (.ref wINTEGER), (.ref b263), (.ref b255), (.ref b255), (.ref b247)])) rfl (by rw [hml]; rfl) (Steps.refl _) (a := b255) (argsL := [(.ref b263), (.ref wINTEGER), (.int yl0), (.int yh0)]) (rest := [(.ref b255), (.ref b247)]) (lenOf pd_4 rfl) rfl (by show 2 * 0 + _ ≤ _; exact Nat.le_of_eq rfl) (hb hby at_241) (fun _ _ => ⟨rfl, e266, (by decide : 4 + 0 ≤ _), (by decide : 15 + 0 ≤ _)⟩)
    dsimp only [Pt.U, Pt.locs, Pt.cells, Pt.slots] at X274 l274 y274 z274 st274 hQ274
    subst y274 z274
    obtain ⟨rfl, Nq274, K274q, p274_0, p274_1, p274_2, p274_3, p274_4⟩ := hQ274
    have N274 : Fr n0 L274 := (congrArg (Fr n0) l274).mpr (Fr.app N253 Nq274)
    have O275 : Old Z n0 T274.heap := O265.keep K274q (allS g257 all0)
    have f276 : Exa Z T274.heap b247 s2n := (((p253_0.ext E255).ext E263).keep K274q)
    have f277 : Fld Z T274.heap b247 s5n "modCount" "I" (.int 0) := (((p253_1.ext E255).ext E263).keep K274q (ninS ne256 nin0))
    have f278 : Fld Z T274.heap b247 s2n "elementData" s3n (.ref wDEFAULTCAPACITY_EMPTY_ELEMENTDATA) := (((p253_2.ext E255).ext E263).keep K274q (ninS ne256 nin0))
    have f279 : Fld Z T274.heap b247 s2n "size" "I" (.int 0) := (((p253_3.ext E255).ext E263).keep K274q (ninS ne256 nin0))
    obtain ⟨cq280, kq280, q280a, q280b, q280c⟩ := isOf hZ rfl f276
    obtain ⟨_, _, ⟨T280, L280, k280, n280⟩, -, X280, ⟨Lc280, hQ280, l280, y280, z280⟩, st280⟩ := X274.interfaceBack hx (xi := M25) (y := M13) hown (mvT hZ (ow hw 71 rfl)) (mvT hZ (ow hw 72 rfl)) (mvT hZ (ow hw 73 rfl)) (mvT hZ (ow hw 74 rfl)) (mvT hZ (ow hw 75 rfl)) (mvT hZ (ow hw 76 rfl)) (mvT hZ (ow hw 77 rfl)) (mvT hZ (ow hw 78 rfl)) (by decide) (backOf (W := 0) (au9_0 l Z a0 hw [] wINTEGER wDOUBLE wBOOLEAN wDEFAULTCAPACITY_EMPTY_ELEMENTDATA kwDEFAULTCAPACITY_EMPTY_ELEMENTDATA hS b247 b255 T274.heap n0 O275 f276 f277 f278 f279 p274_0 g248) hZ (ow hw 79 rfl) (ow hw 12 rfl) (by decide) (by decide)) q280a q280b q280c (g := (mkF m 244 #[(vl p0), .second, (vl p1), .second, (vi p2), (vi p3), (vi p4), (vi p5), (vi k0), (vi k1), (vi k2), (vi yo), (vl r_5), .second, (vl r_6), .second, (vl r_7), .second, (vl r_8), .second, (vl r_9), .second, (vl r_10), .second, (vl f0), .second, (vl f1), .second, (vl f2), .second, (vi 0), .val (.int ((k0 + k1) + k2)), (vl yw), .second, (vr b247), .unset, .unset, .unset, .unset, .unset] [(.ref b255), (.ref b247)])) rfl (by rw [hml]; rfl) (Steps.refl _) (argsL := [(.ref b255)]) (rest := []) (lenOf pd_9 rfl) rfl (by show 2 * 0 + _ ≤ _; exact Nat.le_of_eq rfl) (hb hby at_244) (fun _ _ => ⟨rfl, rfl, (by decide : 4 + 1 ≤ _), (by decide : 15 + 10 ≤ _)⟩)
    dsimp only [Pt.U, Pt.locs, Pt.cells, Pt.slots] at X280 l280 y280 z280 st280 hQ280
    subst y280 z280
    obtain ⟨e1_280, e2_280, rfl, Nq280, K280q, p280_0, p280_1, p280_2, p280_3, p280_4, p280_5, p280_6, p280_7⟩ := hQ280
    have N280 : Fr n0 L280 := (congrArg (Fr n0) l280).mpr (Fr.app N274 Nq280)
    have ne281 : b247 ≠ e1_280 := Nat.ne_of_lt (Nat.lt_of_lt_of_le f276.lt p280_4)
    have ne282 : b255 ≠ e1_280 := Nat.ne_of_lt (Nat.lt_of_lt_of_le p274_0.lt p280_4)
    have g283 : n0 ≤ e1_280 := Nat.le_trans (own_sz O275) p280_4
    have O284 : Old Z n0 T280.heap := O275.keep K280q (allS g248 all0)
    obtain ⟨T285, h285, X285, e285, E285, A285, D285, -, st285⟩ := newO X280 hx hZ hown (ow hw 36 rfl) (ow hw 37 rfl) (ow hw 38 rfl) rfl (g := (mkF m 252 #[(vl p0), .second, (vl p1), .second, (vi p2), (vi p3), (vi p4), (vi p5), (vi k0), (vi k1), (vi k2), (vi yo), (vl r_5), .second, (vl r_6), .second, (vl r_7), .second, (vl r_8), .second, (vl r_9), .second, (vl r_10), .second, (vl f0), .second, (vl f1), .second, (vl f2), .second, (vi 0), .val (.int ((k0 + k1) + k2)), (vl yw), .second, (vr b247), .unset, .unset, .unset, .unset, .unset] [(.ref b247)])) rfl (hb hby at_252) (by decide) (by decide)
    obtain ⟨b285, g285⟩ : ∃ z, z = T280.heap.size := ⟨_, rfl⟩
    rw [← g285] at A285 D285 st285
    have ne286 : b247 ≠ b285 := Nat.ne_of_lt (Nat.lt_of_lt_of_le p280_0.lt (Nat.le_of_eq g285.symm))
    have f288 : Exa Z T280.heap b255 s6n := (p274_0.keep K280q)
    have ne287 : b255 ≠ b285 := Nat.ne_of_lt (Nat.lt_of_lt_of_le f288.lt (Nat.le_of_eq g285.symm))
    have ne289 : e1_280 ≠ b285 := Nat.ne_of_lt (Nat.lt_of_lt_of_le p280_5.lt (Nat.le_of_eq g285.symm))
    have g290 : n0 ≤ b285 := Nat.le_trans (own_sz O284) (Nat.le_of_eq g285.symm)
    have O291 : Old Z n0 h285 := O284.ext E285
    have f292 : Fld Z h285 b285 s6n "name" s7n .null := D285 (Or.inr (ow hw 64 rfl)) (ty := (.object s8n)) (by decide)
    have f293 : Fld Z h285 b285 s6n "type" s1n .null := D285 (Or.inr (ow hw 66 rfl)) (ty := (.object s0n)) (by decide)
    have f294 : Fld Z h285 b285 s6n "low" "I" (.int 0) := D285 (Or.inr (ow hw 68 rfl)) (ty := .int) (by decide)
    have f295 : Fld Z h285 b285 s6n "high" "I" (.int 0) := D285 (Or.inr (ow hw 70 rfl)) (ty := .int) (by decide)
    have hk297 : _ ≤ h285.size := (Nat.le_trans (Nat.le_trans (Nat.le_trans hk263 K274q.1) K280q.1) E285.1)
    obtain ⟨b296, T296, h296, kk296, X296, e296, E296, hS296, hk296, hZ, hown, st296⟩ := ldcS X285 hx hZ hown (ow hw 105 rfl) (own_wS hw) e285 hS263 hk297 (g := (mkF m 256 #[(vl p0), .second, (vl p1), .second, (vi p2), (vi p3), (vi p4), (vi p5), (vi k0), (vi k1), (vi k2), (vi yo), (vl r_5), .second, (vl r_6), .second, (vl r_7), .second, (vl r_8), .second, (vl r_9), .second, (vl r_10), .second, (vl f0), .second, (vl f1), .second, (vl f2), .second, (vi 0), .val (.int ((k0 + k1) + k2)), (vl yw), .second, (vr b247), .unset, .unset, .unset, .unset, .unset] [(.ref b285), (.ref b285), (.ref b247)])) rfl (hb hby at_256) (n := 4) (by decide) (by decide) (by decide) (by decide)
    have O298 : Old Z n0 h296 := O291.ext E296
    obtain ⟨T299, X299, e299, st299⟩ := getS2 X296 hx hZ hown (host := "") (Or.inl (ow hw 47 rfl)) Via.refl e296 (S_wINTEGER.ext O298.2) (g := (mkF m 258 #[(vl p0), .second, (vl p1), .second, (vi p2), (vi p3), (vi p4), (vi p5), (vi k0), (vi k1), (vi k2), (vi yo), (vl r_5), .second, (vl r_6), .second, (vl r_7), .second, (vl r_8), .second, (vl r_9), .second, (vl r_10), .second, (vl f0), .second, (vl f1), .second, (vl f2), .second, (vi 0), .val (.int ((k0 + k1) + k2)), (vl yw), .second, (vr b247), .unset, .unset, .unset, .unset, .unset] [(.ref b296), (.ref b285), (.ref b285), (.ref b247)])) rfl (hb hby at_258)
    obtain ⟨yl1, hyl1⟩ : ∃ z : Int32, z = (r_9.toInt32) := ⟨_, rfl⟩
    have pre300 : ∀ t, Steps p.tables e below (T299.setTop (mkF m 264 #[(vl p0), .second, (vl p1), .second, (vi p2), (vi p3), (vi p4), (vi p5), (vi k0), (vi k1), (vi k2), (vi yo), (vl r_5), .second, (vl r_6), .second, (vl r_7), .second, (vl r_8), .second, (vl r_9), .second, (vl r_10), .second, (vl f0), .second, (vl f1), .second, (vl f2), .second, (vi 0), .val (.int ((k0 + k1) + k2)), (vl yw), .second, (vr b247), .unset, .unset, .unset, .unset, .unset] [(.int yl1), (.ref wINTEGER), (.ref b296), (.ref b285), (.ref b285), (.ref b247)])) t → Steps p.tables e below (s₁.setTop (entryFrame m #[(.long p0), (.long p1), (.int p2), (.int p3), (.int p4), (.int p5)] maxLocals)) t := by
      intro t k
      rw [hyl1] at k
      refine pre268 t ?_
      show Steps p.tables e below (T266.setTop (mkF m 241 #[(vl p0), .second, (vl p1), .second, (vi p2), (vi p3), (vi p4), (vi p5), (vi k0), (vi k1), (vi k2), (vi yo), (vl r_5), .second, (vl r_6), .second, (vl r_7), .second, (vl r_8), .second, (vl r_9), .second, (vl r_10), .second, (vl f0), .second, (vl f1), .second, (vl f2), .second, (vi 0), .val (.int ((k0 + k1) + k2)), (vl yw), .second, (vr b247), .unset, .unset, .unset, .unset, .unset] [(.int yh0), (.int yl0), (.ref wINTEGER), (.ref b263), (.ref b255), (.ref b255), (.ref b247)])) _
      refine st274.trans ?_
      refine st280.trans ?_
      refine XS.pop X280.here hx rfl (hb hby at_249) rfl rfl ?_
      refine XS.aload X280.here hx rfl (hb hby at_250) rfl rfl ?_
      refine st285 _ ?_
      refine XS.dup X285.here hx rfl (hb hby at_255) rfl rfl ?_
      show Steps p.tables e below (T285.setTop (mkF m 256 #[(vl p0), .second, (vl p1), .second, (vi p2), (vi p3), (vi p4), (vi p5), (vi k0), (vi k1), (vi k2), (vi yo), (vl r_5), .second, (vl r_6), .second, (vl r_7), .second, (vl r_8), .second, (vl r_9), .second, (vl r_10), .second, (vl f0), .second, (vl f1), .second, (vl f2), .second, (vi 0), .val (.int ((k0 + k1) + k2)), (vl yw), .second, (vr b247), .unset, .unset, .unset, .unset, .unset] [(.ref b285), (.ref b285), (.ref b247)])) _
      refine st296 _ ?_
      refine st299 _ ?_
      refine XS.lload X299.here hx rfl (hb hby at_261) rfl ?_
      refine XS.l2i X299.here hx rfl (hb hby at_263) rfl ?_
      exact k
    obtain ⟨yh1, hyh1⟩ : ∃ z : Int32, z = ((r_9 + r_6).toInt32) := ⟨_, rfl⟩
    have pre301 : ∀ t, Steps p.tables e below (T299.setTop (mkF m 270 #[(vl p0), .second, (vl p1), .second, (vi p2), (vi p3), (vi p4), (vi p5), (vi k0), (vi k1), (vi k2), (vi yo), (vl r_5), .second, (vl r_6), .second, (vl r_7), .second, (vl r_8), .second, (vl r_9), .second, (vl r_10), .second, (vl f0), .second, (vl f1), .second, (vl f2), .second, (vi 0), .val (.int ((k0 + k1) + k2)), (vl yw), .second, (vr b247), .unset, .unset, .unset, .unset, .unset] [(.int yh1), (.int yl1), (.ref wINTEGER), (.ref b296), (.ref b285), (.ref b285), (.ref b247)])) t → Steps p.tables e below (s₁.setTop (entryFrame m #[(.long p0), (.long p1), (.int p2), (.int p3), (.int p4), (.int p5)] maxLocals)) t := by
      intro t k
      rw [hyh1] at k
      refine pre300 t ?_
      show Steps p.tables e below (T299.setTop (mkF m 264 #[(vl p0), .second, (vl p1), .second, (vi p2), (vi p3), (vi p4), (vi p5), (vi k0), (vi k1), (vi k2), (vi yo), (vl r_5), .second, (vl r_6), .second, (vl r_7), .second, (vl r_8), .second, (vl r_9), .second, (vl r_10), .second, (vl f0), .second, (vl f1), .second, (vl f2), .second, (vi 0), .val (.int ((k0 + k1) + k2)), (vl yw), .second, (vr b247), .unset, .unset, .unset, .unset, .unset] [(.int yl1), (.ref wINTEGER), (.ref b296), (.ref b285), (.ref b285), (.ref b247)])) _
      refine XS.lload X299.here hx rfl (hb hby at_264) rfl ?_
      refine XS.lload X299.here hx rfl (hb hby at_266) rfl ?_
      refine XS.ladd X299.here hx rfl (hb hby at_268) rfl ?_
      refine XS.l2i X299.here hx rfl (hb hby at_269) rfl ?_
      exact k
    have hle1 : ¬ yh1 < yl1 := (own_span hK1 p6_0 p9_0 hyl1 hyh1).1
    have hbt1 : bitsV yl1 yh1 = k1 := own_bits hK1 p6_0 p9_0 hyl1 hyh1
    have f302 : Exa Z h296 b285 s6n := (A285.ext E296)
    have f303 : Fld Z h296 b285 s6n "high" "I" (.int 0) := (f295.ext E296)
    have f304 : Fld Z h296 b285 s6n "low" "I" (.int 0) := (f294.ext E296)
    have f305 : Fld Z h296 b285 s6n "name" s7n .null := (f292.ext E296)
    have f306 : Fld Z h296 b285 s6n "type" s1n .null := (f293.ext E296)
    obtain ⟨_, _, ⟨T307, L307, k307, n307⟩, -, X307, ⟨Lc307, hQ307, l307, y307, z307⟩, st307⟩ := X299.specialBack hx (y := M9) rfl hown (mvT hZ (ow hw 50 rfl)) (mvT hZ (ow hw 51 rfl)) (mvT hZ (ow hw 52 rfl)) (by decide) (backOf (W := 2) (au7_0 l Z a0 hw [] wINTEGER wDOUBLE wBOOLEAN wDEFAULTCAPACITY_EMPTY_ELEMENTDATA kwDEFAULTCAPACITY_EMPTY_ELEMENTDATA hS b285 b296 yl1 yh1 h296 n0 O298 f302 f303 f304 f305 f306 hle1 g290) hZ (ow hw 52 rfl) (ow hw 38 rfl) (by decide) (by decide)) (g := (mkF m 270 #[(vl p0), .second, (vl p1), .second, (vi p2), (vi p3), (vi p4), (vi p5), (vi k0), (vi k1), (vi k2), (vi yo), (vl r_5), .second, (vl r_6), .second, (vl r_7), .second, (vl r_8), .second, (vl r_9), .second, (vl r_10), .second, (vl f0), .second, (vl f1), .second, (vl f2), .second, (vi 0), .val (.int ((k0 + k1) + k2)), (vl yw), .second, (vr b247), .unset, .unset, .unset, .unset, .unset] [(.int yh1), (.int yl1), (.ref wINTEGER), (.ref b296), (.ref b285), (.ref b285), (.ref b247)])) rfl (by rw [hml]; rfl) (Steps.refl _) (a := b285) (argsL := [(.ref b296), (.ref wINTEGER), (.int yl1), (.int yh1)]) (rest := [(.ref b285), (.ref b247)]) (lenOf pd_4 rfl) rfl (by show 2 * 0 + _ ≤ _; exact Nat.le_of_eq rfl) (hb hby at_270) (fun _ _ => ⟨rfl, e299, (by decide : 8 + 0 ≤ _), (by decide : 37 + 0 ≤ _)⟩)
    dsimp only [Pt.U, Pt.locs, Pt.cells, Pt.slots] at X307 l307 y307 z307 st307 hQ307
    subst y307 z307
    obtain ⟨rfl, Nq307, K307q, p307_0, p307_1, p307_2, p307_3, p307_4⟩ := hQ307
    have N307 : Fr n0 L307 := (congrArg (Fr n0) l307).mpr (Fr.app N280 Nq307)
    have O308 : Old Z n0 T307.heap := O298.keep K307q (allS g290 all0)
    have f309 : Exa Z T307.heap b247 s2n := (((p280_0.ext E285).ext E296).keep K307q)
    have f310 : Fld Z T307.heap b247 s5n "modCount" "I" (.int 1) := (((p280_1.ext E285).ext E296).keep K307q (ninS ne286 nin0))
    have f311 : Fld Z T307.heap b247 s2n "elementData" s3n (.ref e1_280) := (((p280_2.ext E285).ext E296).keep K307q (ninS ne286 nin0))
    have f312 : Fld Z T307.heap b247 s2n "size" "I" (.int 1) := (((p280_3.ext E285).ext E296).keep K307q (ninS ne286 nin0))
    have f313 : Arv Z T307.heap e1_280 e2_280 (.object s4n) (10 : Int32) ([(.ref b255), .null, .null, .null, .null, .null, .null, .null, .null, .null]) .null := (((p280_6.ext E285).ext E296).keep K307q (ninS ne289 nin0))
    have f314 : Exa Z T307.heap e1_280 s3n := (((p280_5.ext E285).ext E296).keep K307q)
    obtain ⟨cq315, kq315, q315a, q315b, q315c⟩ := isOf hZ rfl f309
    obtain ⟨_, _, ⟨T315, L315, k315, n315⟩, -, X315, ⟨Lc315, hQ315, l315, y315, z315⟩, st315⟩ := X307.interfaceBack hx (xi := M25) (y := M13) hown (mvT hZ (ow hw 71 rfl)) (mvT hZ (ow hw 72 rfl)) (mvT hZ (ow hw 73 rfl)) (mvT hZ (ow hw 74 rfl)) (mvT hZ (ow hw 75 rfl)) (mvT hZ (ow hw 76 rfl)) (mvT hZ (ow hw 77 rfl)) (mvT hZ (ow hw 78 rfl)) (by decide) (backOf (W := 0) (au9_1 l Z a0 hw [] wINTEGER wDOUBLE wBOOLEAN wDEFAULTCAPACITY_EMPTY_ELEMENTDATA kwDEFAULTCAPACITY_EMPTY_ELEMENTDATA hS b247 b285 e1_280 e2_280 b255 T307.heap n0 O308 f309 f310 f311 f312 p307_0 f313 p280_7 f314 g248 g283 ne281) hZ (ow hw 79 rfl) (ow hw 12 rfl) (by decide) (by decide)) q315a q315b q315c (g := (mkF m 273 #[(vl p0), .second, (vl p1), .second, (vi p2), (vi p3), (vi p4), (vi p5), (vi k0), (vi k1), (vi k2), (vi yo), (vl r_5), .second, (vl r_6), .second, (vl r_7), .second, (vl r_8), .second, (vl r_9), .second, (vl r_10), .second, (vl f0), .second, (vl f1), .second, (vl f2), .second, (vi 0), .val (.int ((k0 + k1) + k2)), (vl yw), .second, (vr b247), .unset, .unset, .unset, .unset, .unset] [(.ref b285), (.ref b247)])) rfl (by rw [hml]; rfl) (Steps.refl _) (argsL := [(.ref b285)]) (rest := []) (lenOf pd_9 rfl) rfl (by show 2 * 0 + _ ≤ _; exact Nat.le_of_eq rfl) (hb hby at_273) (fun _ _ => ⟨rfl, rfl, (by decide : 8 + 0 ≤ _), (by decide : 37 + 0 ≤ _)⟩)
    dsimp only [Pt.U, Pt.locs, Pt.cells, Pt.slots] at X315 l315 y315 z315 st315 hQ315
    subst y315 z315
    obtain ⟨rfl, Nq315, K315q, p315_0, p315_1, p315_2, p315_3, p315_4, p315_5, p315_6⟩ := hQ315
    have N315 : Fr n0 L315 := (congrArg (Fr n0) l315).mpr (Fr.app N307 Nq315)
    have O316 : Old Z n0 T315.heap := O308.keep K315q (allS g248 (allS g283 all0))
    obtain ⟨T317, h317, X317, e317, E317, A317, D317, -, st317⟩ := newO X315 hx hZ hown (ow hw 36 rfl) (ow hw 37 rfl) (ow hw 38 rfl) rfl (g := (mkF m 281 #[(vl p0), .second, (vl p1), .second, (vi p2), (vi p3), (vi p4), (vi p5), (vi k0), (vi k1), (vi k2), (vi yo), (vl r_5), .second, (vl r_6), .second, (vl r_7), .second, (vl r_8), .second, (vl r_9), .second, (vl r_10), .second, (vl f0), .second, (vl f1), .second, (vl f2), .second, (vi 0), .val (.int ((k0 + k1) + k2)), (vl yw), .second, (vr b247), .unset, .unset, .unset, .unset, .unset] [(.ref b247)])) rfl (hb hby at_281) (by decide) (by decide)
    obtain ⟨b317, g317⟩ : ∃ z, z = T315.heap.size := ⟨_, rfl⟩
    rw [← g317] at A317 D317 st317
    have ne318 : b247 ≠ b317 := Nat.ne_of_lt (Nat.lt_of_lt_of_le p315_0.lt (Nat.le_of_eq g317.symm))
    have f320 : Exa Z T315.heap b255 s6n := ((((f288.ext E285).ext E296).keep K307q).keep K315q)
    have ne319 : b255 ≠ b317 := Nat.ne_of_lt (Nat.lt_of_lt_of_le f320.lt (Nat.le_of_eq g317.symm))
    have ne321 : e1_280 ≠ b317 := Nat.ne_of_lt (Nat.lt_of_lt_of_le p315_4.lt (Nat.le_of_eq g317.symm))
    have f323 : Exa Z T315.heap b285 s6n := (p307_0.keep K315q)
    have ne322 : b285 ≠ b317 := Nat.ne_of_lt (Nat.lt_of_lt_of_le f323.lt (Nat.le_of_eq g317.symm))
    have g324 : n0 ≤ b317 := Nat.le_trans (own_sz O316) (Nat.le_of_eq g317.symm)
    have O325 : Old Z n0 h317 := O316.ext E317
    have f326 : Fld Z h317 b317 s6n "name" s7n .null := D317 (Or.inr (ow hw 64 rfl)) (ty := (.object s8n)) (by decide)
    have f327 : Fld Z h317 b317 s6n "type" s1n .null := D317 (Or.inr (ow hw 66 rfl)) (ty := (.object s0n)) (by decide)
    have f328 : Fld Z h317 b317 s6n "low" "I" (.int 0) := D317 (Or.inr (ow hw 68 rfl)) (ty := .int) (by decide)
    have f329 : Fld Z h317 b317 s6n "high" "I" (.int 0) := D317 (Or.inr (ow hw 70 rfl)) (ty := .int) (by decide)
    have hk331 : _ ≤ h317.size := (Nat.le_trans (Nat.le_trans (Nat.le_trans hk296 K307q.1) K315q.1) E317.1)
    obtain ⟨b330, T330, h330, kk330, X330, e330, E330, hS330, hk330, hZ, hown, st330⟩ := ldcS X317 hx hZ hown (ow hw 106 rfl) (own_wS hw) e317 hS296 hk331 (g := (mkF m 285 #[(vl p0), .second, (vl p1), .second, (vi p2), (vi p3), (vi p4), (vi p5), (vi k0), (vi k1), (vi k2), (vi yo), (vl r_5), .second, (vl r_6), .second, (vl r_7), .second, (vl r_8), .second, (vl r_9), .second, (vl r_10), .second, (vl f0), .second, (vl f1), .second, (vl f2), .second, (vi 0), .val (.int ((k0 + k1) + k2)), (vl yw), .second, (vr b247), .unset, .unset, .unset, .unset, .unset] [(.ref b317), (.ref b317), (.ref b247)])) rfl (hb hby at_285) (n := 4) (by decide) (by decide) (by decide) (by decide)
    have O332 : Old Z n0 h330 := O325.ext E330
    obtain ⟨T333, X333, e333, st333⟩ := getS2 X330 hx hZ hown (host := "") (Or.inl (ow hw 47 rfl)) Via.refl e330 (S_wINTEGER.ext O332.2) (g := (mkF m 287 #[(vl p0), .second, (vl p1), .second, (vi p2), (vi p3), (vi p4), (vi p5), (vi k0), (vi k1), (vi k2), (vi yo), (vl r_5), .second, (vl r_6), .second, (vl r_7), .second, (vl r_8), .second, (vl r_9), .second, (vl r_10), .second, (vl f0), .second, (vl f1), .second, (vl f2), .second, (vi 0), .val (.int ((k0 + k1) + k2)), (vl yw), .second, (vr b247), .unset, .unset, .unset, .unset, .unset] [(.ref b330), (.ref b317), (.ref b317), (.ref b247)])) rfl (hb hby at_287)
    obtain ⟨yl2, hyl2⟩ : ∃ z : Int32, z = (r_10.toInt32) := ⟨_, rfl⟩
    have pre334 : ∀ t, Steps p.tables e below (T333.setTop (mkF m 293 #[(vl p0), .second, (vl p1), .second, (vi p2), (vi p3), (vi p4), (vi p5), (vi k0), (vi k1), (vi k2), (vi yo), (vl r_5), .second, (vl r_6), .second, (vl r_7), .second, (vl r_8), .second, (vl r_9), .second, (vl r_10), .second, (vl f0), .second, (vl f1), .second, (vl f2), .second, (vi 0), .val (.int ((k0 + k1) + k2)), (vl yw), .second, (vr b247), .unset, .unset, .unset, .unset, .unset] [(.int yl2), (.ref wINTEGER), (.ref b330), (.ref b317), (.ref b317), (.ref b247)])) t → Steps p.tables e below (s₁.setTop (entryFrame m #[(.long p0), (.long p1), (.int p2), (.int p3), (.int p4), (.int p5)] maxLocals)) t := by
      intro t k
      rw [hyl2] at k
      refine pre301 t ?_
      show Steps p.tables e below (T299.setTop (mkF m 270 #[(vl p0), .second, (vl p1), .second, (vi p2), (vi p3), (vi p4), (vi p5), (vi k0), (vi k1), (vi k2), (vi yo), (vl r_5), .second, (vl r_6), .second, (vl r_7), .second, (vl r_8), .second, (vl r_9), .second, (vl r_10), .second, (vl f0), .second, (vl f1), .second, (vl f2), .second, (vi 0), .val (.int ((k0 + k1) + k2)), (vl yw), .second, (vr b247), .unset, .unset, .unset, .unset, .unset] [(.int yh1), (.int yl1), (.ref wINTEGER), (.ref b296), (.ref b285), (.ref b285), (.ref b247)])) _
      refine st307.trans ?_
      refine st315.trans ?_
      refine XS.pop X315.here hx rfl (hb hby at_278) rfl rfl ?_
      refine XS.aload X315.here hx rfl (hb hby at_279) rfl rfl ?_
      refine st317 _ ?_
      refine XS.dup X317.here hx rfl (hb hby at_284) rfl rfl ?_
      show Steps p.tables e below (T317.setTop (mkF m 285 #[(vl p0), .second, (vl p1), .second, (vi p2), (vi p3), (vi p4), (vi p5), (vi k0), (vi k1), (vi k2), (vi yo), (vl r_5), .second, (vl r_6), .second, (vl r_7), .second, (vl r_8), .second, (vl r_9), .second, (vl r_10), .second, (vl f0), .second, (vl f1), .second, (vl f2), .second, (vi 0), .val (.int ((k0 + k1) + k2)), (vl yw), .second, (vr b247), .unset, .unset, .unset, .unset, .unset] [(.ref b317), (.ref b317), (.ref b247)])) _
      refine st330 _ ?_
      refine st333 _ ?_
      refine XS.lload X333.here hx rfl (hb hby at_290) rfl ?_
      refine XS.l2i X333.here hx rfl (hb hby at_292) rfl ?_
      exact k
    obtain ⟨yh2, hyh2⟩ : ∃ z : Int32, z = ((r_10 + r_7).toInt32) := ⟨_, rfl⟩
    have pre335 : ∀ t, Steps p.tables e below (T333.setTop (mkF m 299 #[(vl p0), .second, (vl p1), .second, (vi p2), (vi p3), (vi p4), (vi p5), (vi k0), (vi k1), (vi k2), (vi yo), (vl r_5), .second, (vl r_6), .second, (vl r_7), .second, (vl r_8), .second, (vl r_9), .second, (vl r_10), .second, (vl f0), .second, (vl f1), .second, (vl f2), .second, (vi 0), .val (.int ((k0 + k1) + k2)), (vl yw), .second, (vr b247), .unset, .unset, .unset, .unset, .unset] [(.int yh2), (.int yl2), (.ref wINTEGER), (.ref b330), (.ref b317), (.ref b317), (.ref b247)])) t → Steps p.tables e below (s₁.setTop (entryFrame m #[(.long p0), (.long p1), (.int p2), (.int p3), (.int p4), (.int p5)] maxLocals)) t := by
      intro t k
      rw [hyh2] at k
      refine pre334 t ?_
      show Steps p.tables e below (T333.setTop (mkF m 293 #[(vl p0), .second, (vl p1), .second, (vi p2), (vi p3), (vi p4), (vi p5), (vi k0), (vi k1), (vi k2), (vi yo), (vl r_5), .second, (vl r_6), .second, (vl r_7), .second, (vl r_8), .second, (vl r_9), .second, (vl r_10), .second, (vl f0), .second, (vl f1), .second, (vl f2), .second, (vi 0), .val (.int ((k0 + k1) + k2)), (vl yw), .second, (vr b247), .unset, .unset, .unset, .unset, .unset] [(.int yl2), (.ref wINTEGER), (.ref b330), (.ref b317), (.ref b317), (.ref b247)])) _
      refine XS.lload X333.here hx rfl (hb hby at_293) rfl ?_
      refine XS.lload X333.here hx rfl (hb hby at_295) rfl ?_
      refine XS.ladd X333.here hx rfl (hb hby at_297) rfl ?_
      refine XS.l2i X333.here hx rfl (hb hby at_298) rfl ?_
      exact k
    have hle2 : ¬ yh2 < yl2 := (own_span hK2 p7_0 p10_0 hyl2 hyh2).1
    have hbt2 : bitsV yl2 yh2 = k2 := own_bits hK2 p7_0 p10_0 hyl2 hyh2
    have f336 : Exa Z h330 b317 s6n := (A317.ext E330)
    have f337 : Fld Z h330 b317 s6n "high" "I" (.int 0) := (f329.ext E330)
    have f338 : Fld Z h330 b317 s6n "low" "I" (.int 0) := (f328.ext E330)
    have f339 : Fld Z h330 b317 s6n "name" s7n .null := (f326.ext E330)
    have f340 : Fld Z h330 b317 s6n "type" s1n .null := (f327.ext E330)
    obtain ⟨_, _, ⟨T341, L341, k341, n341⟩, -, X341, ⟨Lc341, hQ341, l341, y341, z341⟩, st341⟩ := X333.specialBack hx (y := M9) rfl hown (mvT hZ (ow hw 50 rfl)) (mvT hZ (ow hw 51 rfl)) (mvT hZ (ow hw 52 rfl)) (by decide) (backOf (W := 2) (au7_0 l Z a0 hw [] wINTEGER wDOUBLE wBOOLEAN wDEFAULTCAPACITY_EMPTY_ELEMENTDATA kwDEFAULTCAPACITY_EMPTY_ELEMENTDATA hS b317 b330 yl2 yh2 h330 n0 O332 f336 f337 f338 f339 f340 hle2 g324) hZ (ow hw 52 rfl) (ow hw 38 rfl) (by decide) (by decide)) (g := (mkF m 299 #[(vl p0), .second, (vl p1), .second, (vi p2), (vi p3), (vi p4), (vi p5), (vi k0), (vi k1), (vi k2), (vi yo), (vl r_5), .second, (vl r_6), .second, (vl r_7), .second, (vl r_8), .second, (vl r_9), .second, (vl r_10), .second, (vl f0), .second, (vl f1), .second, (vl f2), .second, (vi 0), .val (.int ((k0 + k1) + k2)), (vl yw), .second, (vr b247), .unset, .unset, .unset, .unset, .unset] [(.int yh2), (.int yl2), (.ref wINTEGER), (.ref b330), (.ref b317), (.ref b317), (.ref b247)])) rfl (by rw [hml]; rfl) (Steps.refl _) (a := b317) (argsL := [(.ref b330), (.ref wINTEGER), (.int yl2), (.int yh2)]) (rest := [(.ref b317), (.ref b247)]) (lenOf pd_4 rfl) rfl (by show 2 * 0 + _ ≤ _; exact Nat.le_of_eq rfl) (hb hby at_299) (fun _ _ => ⟨rfl, e333, (by decide : 11 + 0 ≤ _), (by decide : 49 + 0 ≤ _)⟩)
    dsimp only [Pt.U, Pt.locs, Pt.cells, Pt.slots] at X341 l341 y341 z341 st341 hQ341
    subst y341 z341
    obtain ⟨rfl, Nq341, K341q, p341_0, p341_1, p341_2, p341_3, p341_4⟩ := hQ341
    have N341 : Fr n0 L341 := (congrArg (Fr n0) l341).mpr (Fr.app N315 Nq341)
    have O342 : Old Z n0 T341.heap := O332.keep K341q (allS g324 all0)
    have f343 : Exa Z T341.heap b247 s2n := (((p315_0.ext E317).ext E330).keep K341q)
    have f344 : Fld Z T341.heap b247 s5n "modCount" "I" (.int 2) := (((p315_1.ext E317).ext E330).keep K341q (ninS ne318 nin0))
    have f345 : Fld Z T341.heap b247 s2n "elementData" s3n (.ref e1_280) := (((p315_2.ext E317).ext E330).keep K341q (ninS ne318 nin0))
    have f346 : Fld Z T341.heap b247 s2n "size" "I" (.int 2) := (((p315_3.ext E317).ext E330).keep K341q (ninS ne318 nin0))
    have f347 : Arv Z T341.heap e1_280 e2_280 (.object s4n) (10 : Int32) ([(.ref b255), (.ref b285), .null, .null, .null, .null, .null, .null, .null, .null]) .null := (((p315_5.ext E317).ext E330).keep K341q (ninS ne321 nin0))
    have f348 : Exa Z T341.heap e1_280 s3n := (((p315_4.ext E317).ext E330).keep K341q)
    obtain ⟨cq349, kq349, q349a, q349b, q349c⟩ := isOf hZ rfl f343
    obtain ⟨_, _, ⟨T349, L349, k349, n349⟩, -, X349, ⟨Lc349, hQ349, l349, y349, z349⟩, st349⟩ := X341.interfaceBack hx (xi := M25) (y := M13) hown (mvT hZ (ow hw 71 rfl)) (mvT hZ (ow hw 72 rfl)) (mvT hZ (ow hw 73 rfl)) (mvT hZ (ow hw 74 rfl)) (mvT hZ (ow hw 75 rfl)) (mvT hZ (ow hw 76 rfl)) (mvT hZ (ow hw 77 rfl)) (mvT hZ (ow hw 78 rfl)) (by decide) (backOf (W := 0) (au9_2 l Z a0 hw [] wINTEGER wDOUBLE wBOOLEAN wDEFAULTCAPACITY_EMPTY_ELEMENTDATA kwDEFAULTCAPACITY_EMPTY_ELEMENTDATA hS b247 b317 e1_280 e2_280 b255 b285 T341.heap n0 O342 f343 f344 f345 f346 p341_0 f347 p315_6 f348 g248 g283 ne281) hZ (ow hw 79 rfl) (ow hw 12 rfl) (by decide) (by decide)) q349a q349b q349c (g := (mkF m 302 #[(vl p0), .second, (vl p1), .second, (vi p2), (vi p3), (vi p4), (vi p5), (vi k0), (vi k1), (vi k2), (vi yo), (vl r_5), .second, (vl r_6), .second, (vl r_7), .second, (vl r_8), .second, (vl r_9), .second, (vl r_10), .second, (vl f0), .second, (vl f1), .second, (vl f2), .second, (vi 0), .val (.int ((k0 + k1) + k2)), (vl yw), .second, (vr b247), .unset, .unset, .unset, .unset, .unset] [(.ref b317), (.ref b247)])) rfl (by rw [hml]; rfl) (Steps.refl _) (argsL := [(.ref b317)]) (rest := []) (lenOf pd_9 rfl) rfl (by show 2 * 0 + _ ≤ _; exact Nat.le_of_eq rfl) (hb hby at_302) (fun _ _ => ⟨rfl, rfl, (by decide : 11 + 0 ≤ _), (by decide : 49 + 0 ≤ _)⟩)
    dsimp only [Pt.U, Pt.locs, Pt.cells, Pt.slots] at X349 l349 y349 z349 st349 hQ349
    subst y349 z349
    obtain ⟨rfl, Nq349, K349q, p349_0, p349_1, p349_2, p349_3, p349_4, p349_5, p349_6⟩ := hQ349
    have N349 : Fr n0 L349 := (congrArg (Fr n0) l349).mpr (Fr.app N341 Nq349)
    have O350 : Old Z n0 T349.heap := O342.keep K349q (allS g248 (allS g283 all0))
    obtain ⟨T351, h351, X351, e351, E351, A351, D351, -, st351⟩ := newO X349 hx hZ hown (ow hw 107 rfl) (ow hw 108 rfl) (ow hw 109 rfl) rfl (g := (mkF m 308 #[(vl p0), .second, (vl p1), .second, (vi p2), (vi p3), (vi p4), (vi p5), (vi k0), (vi k1), (vi k2), (vi yo), (vl r_5), .second, (vl r_6), .second, (vl r_7), .second, (vl r_8), .second, (vl r_9), .second, (vl r_10), .second, (vl f0), .second, (vl f1), .second, (vl f2), .second, (vi 0), .val (.int ((k0 + k1) + k2)), (vl yw), .second, (vr b247), .unset, .unset, .unset, .unset, .unset] [])) rfl (hb hby at_308) (by decide) (by decide)
    obtain ⟨b351, g351⟩ : ∃ z, z = T349.heap.size := ⟨_, rfl⟩
    rw [← g351] at A351 D351 st351
    have ne352 : b247 ≠ b351 := Nat.ne_of_lt (Nat.lt_of_lt_of_le p349_0.lt (Nat.le_of_eq g351.symm))
    have f354 : Exa Z T349.heap b255 s6n := ((((f320.ext E317).ext E330).keep K341q).keep K349q)
    have ne353 : b255 ≠ b351 := Nat.ne_of_lt (Nat.lt_of_lt_of_le f354.lt (Nat.le_of_eq g351.symm))
    have ne355 : e1_280 ≠ b351 := Nat.ne_of_lt (Nat.lt_of_lt_of_le p349_4.lt (Nat.le_of_eq g351.symm))
    have f357 : Exa Z T349.heap b285 s6n := ((((f323.ext E317).ext E330).keep K341q).keep K349q)
    have ne356 : b285 ≠ b351 := Nat.ne_of_lt (Nat.lt_of_lt_of_le f357.lt (Nat.le_of_eq g351.symm))
    have f359 : Exa Z T349.heap b317 s6n := (p341_0.keep K349q)
    have ne358 : b317 ≠ b351 := Nat.ne_of_lt (Nat.lt_of_lt_of_le f359.lt (Nat.le_of_eq g351.symm))
    have g360 : n0 ≤ b351 := Nat.le_trans (own_sz O350) (Nat.le_of_eq g351.symm)
    have O361 : Old Z n0 h351 := O350.ext E351
    have f362 : Fld Z h351 b351 s9n "low" "[I" .null := D351 (Or.inr (ow hw 124 rfl)) (ty := (.array .int)) (by decide)
    have f363 : Fld Z h351 b351 s9n "word" "[I" .null := D351 (Or.inr (ow hw 126 rfl)) (ty := (.array .int)) (by decide)
    have f364 : Fld Z h351 b351 s9n "shift" "[I" .null := D351 (Or.inr (ow hw 128 rfl)) (ty := (.array .int)) (by decide)
    have f365 : Fld Z h351 b351 s9n "mask" "[J" .null := D351 (Or.inr (ow hw 131 rfl)) (ty := (.array .long)) (by decide)
    have f366 : Fld Z h351 b351 s9n s10n "I" (.int 0) := D351 (Or.inr (ow hw 176 rfl)) (ty := .int) (by decide)
    have f367 : Exa Z h351 b247 s2n := (p349_0.ext E351)
    have f368 : Fld Z h351 b247 s2n "elementData" s3n (.ref e1_280) := (p349_2.ext E351)
    have f369 : Fld Z h351 b247 s2n "size" "I" (.int 3) := (p349_3.ext E351)
    have f370 : Arv Z h351 e1_280 e2_280 (.object s4n) (10 : Int32) ([(.ref b255), (.ref b285), (.ref b317), .null, .null, .null, .null, .null, .null, .null]) .null := (p349_5.ext E351)
    have f371 : Exa Z h351 b255 s6n := (f354.ext E351)
    have f372 : Fld Z h351 b255 s6n "high" "I" (.int yh0) := ((((((((((p274_1.keep K280q (ninS (Ne.symm ne256) nin0)).ext E285).ext E296).keep K307q (ninS ne287 nin0)).keep K315q (ninS (Ne.symm ne256) (ninS ne282 nin0))).ext E317).ext E330).keep K341q (ninS ne319 nin0)).keep K349q (ninS (Ne.symm ne256) (ninS ne282 nin0))).ext E351)
    have f373 : Fld Z h351 b255 s6n "low" "I" (.int yl0) := ((((((((((p274_2.keep K280q (ninS (Ne.symm ne256) nin0)).ext E285).ext E296).keep K307q (ninS ne287 nin0)).keep K315q (ninS (Ne.symm ne256) (ninS ne282 nin0))).ext E317).ext E330).keep K341q (ninS ne319 nin0)).keep K349q (ninS (Ne.symm ne256) (ninS ne282 nin0))).ext E351)
    have f374 : Exa Z h351 b285 s6n := (f357.ext E351)
    have f375 : Fld Z h351 b285 s6n "high" "I" (.int yh1) := ((((((p307_1.keep K315q (ninS (Ne.symm ne286) (ninS (Ne.symm ne289) nin0))).ext E317).ext E330).keep K341q (ninS ne322 nin0)).keep K349q (ninS (Ne.symm ne286) (ninS (Ne.symm ne289) nin0))).ext E351)
    have f376 : Fld Z h351 b285 s6n "low" "I" (.int yl1) := ((((((p307_2.keep K315q (ninS (Ne.symm ne286) (ninS (Ne.symm ne289) nin0))).ext E317).ext E330).keep K341q (ninS ne322 nin0)).keep K349q (ninS (Ne.symm ne286) (ninS (Ne.symm ne289) nin0))).ext E351)
    have f377 : Exa Z h351 b317 s6n := (f359.ext E351)
    have f378 : Fld Z h351 b317 s6n "high" "I" (.int yh2) := ((p341_1.keep K349q (ninS (Ne.symm ne318) (ninS (Ne.symm ne321) nin0))).ext E351)
    have f379 : Fld Z h351 b317 s6n "low" "I" (.int yl2) := ((p341_2.keep K349q (ninS (Ne.symm ne318) (ninS (Ne.symm ne321) nin0))).ext E351)
    obtain ⟨_, _, ⟨T380, L380, k380, n380⟩, -, X380, ⟨Lc380, hQ380, l380, y380, z380⟩, st380⟩ := X351.specialBack hx (y := M21) rfl hown (mvT hZ (ow hw 110 rfl)) (mvT hZ (ow hw 111 rfl)) (mvT hZ (ow hw 112 rfl)) (by decide) (backOf (W := 1) (au14_1 l Z a0 hw [] wINTEGER wDOUBLE wBOOLEAN wDEFAULTCAPACITY_EMPTY_ELEMENTDATA kwDEFAULTCAPACITY_EMPTY_ELEMENTDATA hS b351 b247 k0 k1 k2 e1_280 e2_280 b255 b285 b317 yh0 yl0 yh1 yl1 yh2 yl2 h351 n0 O361 A351 f362 f365 f364 f363 f366 f367 f368 f369 f370 f371 f372 f373 f374 f375 f376 f377 f378 f379 hA hB hC hbt0 hbt1 hbt2 g360 (Ne.symm ne352) (Ne.symm ne355) (Ne.symm ne353) (Ne.symm ne356) (Ne.symm ne358)) hZ (ow hw 112 rfl) (ow hw 109 rfl) (by decide) (by decide)) (g := (mkF m 314 #[(vl p0), .second, (vl p1), .second, (vi p2), (vi p3), (vi p4), (vi p5), (vi k0), (vi k1), (vi k2), (vi yo), (vl r_5), .second, (vl r_6), .second, (vl r_7), .second, (vl r_8), .second, (vl r_9), .second, (vl r_10), .second, (vl f0), .second, (vl f1), .second, (vl f2), .second, (vi 0), .val (.int ((k0 + k1) + k2)), (vl yw), .second, (vr b247), .unset, .unset, .unset, .unset, .unset] [(.ref b247), (.ref b351), (.ref b351)])) rfl (by rw [hml]; rfl) (Steps.refl _) (a := b351) (argsL := [(.ref b247)]) (rest := [(.ref b351)]) (lenOf pd_14 rfl) rfl (by show 2 * 0 + _ ≤ _; exact Nat.le_of_eq rfl) (hb hby at_314) (fun _ _ => ⟨rfl, e351, (by decide : 12 + 4 ≤ _), (by decide : 54 + 12 ≤ _)⟩)
    dsimp only [Pt.U, Pt.locs, Pt.cells, Pt.slots] at X380 l380 y380 z380 st380 hQ380
    subst y380 z380
    obtain ⟨e1_380, e2_380, e3_380, e4_380, e5_380, e6_380, e7_380, e8_380, rfl, Nq380, K380q, p380_0, p380_1, p380_2, p380_3, p380_4, p380_5, p380_6, p380_7, p380_8, p380_9, p380_10, p380_11, p380_12, p380_13, p380_14, p380_15, p380_16, p380_17, p380_18, p380_19, p380_20, p380_21, p380_22, p380_23⟩ := hQ380
    have N380 : Fr n0 L380 := (congrArg (Fr n0) l380).mpr (Fr.app N349 Nq380)
    have ne381 : b247 ≠ e1_380 := Nat.ne_of_lt (Nat.lt_of_lt_of_le f367.lt p380_6)
    have ne382 : b255 ≠ e1_380 := Nat.ne_of_lt (Nat.lt_of_lt_of_le f371.lt p380_6)
    have f384 : Exa Z h351 e1_280 s3n := (p349_4.ext E351)
    have ne383 : e1_280 ≠ e1_380 := Nat.ne_of_lt (Nat.lt_of_lt_of_le f384.lt p380_6)
    have ne385 : b285 ≠ e1_380 := Nat.ne_of_lt (Nat.lt_of_lt_of_le f374.lt p380_6)
    have ne386 : b317 ≠ e1_380 := Nat.ne_of_lt (Nat.lt_of_lt_of_le f377.lt p380_6)
    have ne387 : b351 ≠ e1_380 := Nat.ne_of_lt (Nat.lt_of_lt_of_le A351.lt p380_6)
    have g388 : n0 ≤ e1_380 := Nat.le_trans (own_sz O361) p380_6
    have ne389 : b247 ≠ e2_380 := Nat.ne_of_lt (Nat.lt_of_lt_of_le f367.lt p380_9)
    have ne390 : b255 ≠ e2_380 := Nat.ne_of_lt (Nat.lt_of_lt_of_le f371.lt p380_9)
    have ne391 : e1_280 ≠ e2_380 := Nat.ne_of_lt (Nat.lt_of_lt_of_le f384.lt p380_9)
    have ne392 : b285 ≠ e2_380 := Nat.ne_of_lt (Nat.lt_of_lt_of_le f374.lt p380_9)
    have ne393 : b317 ≠ e2_380 := Nat.ne_of_lt (Nat.lt_of_lt_of_le f377.lt p380_9)
    have ne394 : b351 ≠ e2_380 := Nat.ne_of_lt (Nat.lt_of_lt_of_le A351.lt p380_9)
    have g395 : n0 ≤ e2_380 := Nat.le_trans (own_sz O361) p380_9
    have ne396 : b247 ≠ e3_380 := Nat.ne_of_lt (Nat.lt_of_lt_of_le f367.lt p380_12)
    have ne397 : b255 ≠ e3_380 := Nat.ne_of_lt (Nat.lt_of_lt_of_le f371.lt p380_12)
    have ne398 : e1_280 ≠ e3_380 := Nat.ne_of_lt (Nat.lt_of_lt_of_le f384.lt p380_12)
    have ne399 : b285 ≠ e3_380 := Nat.ne_of_lt (Nat.lt_of_lt_of_le f374.lt p380_12)
    have ne400 : b317 ≠ e3_380 := Nat.ne_of_lt (Nat.lt_of_lt_of_le f377.lt p380_12)
    have ne401 : b351 ≠ e3_380 := Nat.ne_of_lt (Nat.lt_of_lt_of_le A351.lt p380_12)
    have g402 : n0 ≤ e3_380 := Nat.le_trans (own_sz O361) p380_12
    have ne403 : b247 ≠ e4_380 := Nat.ne_of_lt (Nat.lt_of_lt_of_le f367.lt p380_15)
    have ne404 : b255 ≠ e4_380 := Nat.ne_of_lt (Nat.lt_of_lt_of_le f371.lt p380_15)
    have ne405 : e1_280 ≠ e4_380 := Nat.ne_of_lt (Nat.lt_of_lt_of_le f384.lt p380_15)
    have ne406 : b285 ≠ e4_380 := Nat.ne_of_lt (Nat.lt_of_lt_of_le f374.lt p380_15)
    have ne407 : b317 ≠ e4_380 := Nat.ne_of_lt (Nat.lt_of_lt_of_le f377.lt p380_15)
    have ne408 : b351 ≠ e4_380 := Nat.ne_of_lt (Nat.lt_of_lt_of_le A351.lt p380_15)
    have g409 : n0 ≤ e4_380 := Nat.le_trans (own_sz O361) p380_15
    have O410 : Old Z n0 T380.heap := O361.keep K380q (allS g360 all0)
    obtain ⟨T411, h411, k411, X411, e411, E411, A411, Z411, st411⟩ := newPE X380 hx hZ (ow hw 129 rfl) rfl (g := (mkF m 320 #[(vl p0), .second, (vl p1), .second, (vi p2), (vi p3), (vi p4), (vi p5), (vi k0), (vi k1), (vi k2), (vi yo), (vl r_5), .second, (vl r_6), .second, (vl r_7), .second, (vl r_8), .second, (vl r_9), .second, (vl r_10), .second, (vl f0), .second, (vl f1), .second, (vl f2), .second, (vi 0), .val (.int ((k0 + k1) + k2)), (vl yw), .second, (vr b247), (vr b351), .unset, .unset, .unset, .unset] [(.int 4)])) rfl (hb hby at_320) rfl (by decide) (cap := 4) (by decide) (by decide) (by decide) (by decide) (ad := "[J") rfl
    obtain ⟨b411, g411⟩ : ∃ z, z = T380.heap.size := ⟨_, rfl⟩
    rw [← g411] at A411 Z411 st411
    have f413 : Exa Z T380.heap b247 s2n := (f367.keep K380q)
    have ne412 : b247 ≠ b411 := Nat.ne_of_lt (Nat.lt_of_lt_of_le f413.lt (Nat.le_of_eq g411.symm))
    have f415 : Exa Z T380.heap b255 s6n := (f371.keep K380q)
    have ne414 : b255 ≠ b411 := Nat.ne_of_lt (Nat.lt_of_lt_of_le f415.lt (Nat.le_of_eq g411.symm))
    have f417 : Exa Z T380.heap e1_280 s3n := (f384.keep K380q)
    have ne416 : e1_280 ≠ b411 := Nat.ne_of_lt (Nat.lt_of_lt_of_le f417.lt (Nat.le_of_eq g411.symm))
    have f419 : Exa Z T380.heap b285 s6n := (f374.keep K380q)
    have ne418 : b285 ≠ b411 := Nat.ne_of_lt (Nat.lt_of_lt_of_le f419.lt (Nat.le_of_eq g411.symm))
    have f421 : Exa Z T380.heap b317 s6n := (f377.keep K380q)
    have ne420 : b317 ≠ b411 := Nat.ne_of_lt (Nat.lt_of_lt_of_le f421.lt (Nat.le_of_eq g411.symm))
    have ne422 : b351 ≠ b411 := Nat.ne_of_lt (Nat.lt_of_lt_of_le p380_0.lt (Nat.le_of_eq g411.symm))
    have ne423 : e1_380 ≠ b411 := Nat.ne_of_lt (Nat.lt_of_lt_of_le p380_7.lt (Nat.le_of_eq g411.symm))
    have ne424 : e2_380 ≠ b411 := Nat.ne_of_lt (Nat.lt_of_lt_of_le p380_10.lt (Nat.le_of_eq g411.symm))
    have ne425 : e3_380 ≠ b411 := Nat.ne_of_lt (Nat.lt_of_lt_of_le p380_13.lt (Nat.le_of_eq g411.symm))
    have ne426 : e4_380 ≠ b411 := Nat.ne_of_lt (Nat.lt_of_lt_of_le p380_16.lt (Nat.le_of_eq g411.symm))
    have g427 : n0 ≤ b411 := Nat.le_trans (own_sz O410) (Nat.le_of_eq g411.symm)
    have O428 : Old Z n0 h411 := O410.ext E411
    have V411 : Arv Z h411 b411 k411 .long (4 : Int32) ([(.long 0), (.long 0), (.long 0), (.long 0)]) (.long 0) := (Arv.new A411 (by decide)).pad (pad_rep [] (.long 0) 4)
    obtain ⟨cl429, Ar429, qc429, Sz429, Nn429, Ha429, Gg429⟩ := (id V411)
    have hin429 : ¬ ((0 : Int32) < 0 ∨ cl429.slots.size ≤ ((0 : Int32)).toNatClampNeg) := inb_of Sz429 ⟨by decide, by decide⟩
    obtain ⟨T429, h429, X429, e429, W429, st429⟩ := stJ X411 hx hZ e411 Ar429 (j := (0 : Int32)) hin429 (g := (mkF m 333 #[(vl p0), .second, (vl p1), .second, (vi p2), (vi p3), (vi p4), (vi p5), (vi k0), (vi k1), (vi k2), (vi yo), (vl r_5), .second, (vl r_6), .second, (vl r_7), .second, (vl r_8), .second, (vl r_9), .second, (vl r_10), .second, (vl f0), .second, (vl f1), .second, (vl f2), .second, (vi 0), .val (.int ((k0 + k1) + k2)), (vl yw), .second, (vr b247), (vr b351), (vr b411), .unset, .unset, .unset] [(.long (yw ^^^ (-1 : Int64))), (.int 0), (.ref b411)])) rfl rfl (hb hby at_333)
    have O430 : Old Z n0 h429 := O428.wr W429 g427
    have V429 : Arv Z h429 b411 k411 .long (4 : Int32) ([(.long (yw ^^^ (-1 : Int64))), (.long 0), (.long 0), (.long 0)]) (.long 0) := (Arv.set Ar429 qc429 Sz429 Nn429 Ha429 Gg429 (v := (.long (yw ^^^ (-1 : Int64)))) rfl W429 0 rfl (Nat.le_of_ble_eq_true rfl))
    have N429 := Fr.snoc X429 N380 g427
    obtain ⟨cl431, Ar431, qc431, Sz431, Nn431, Ha431, Gg431⟩ := (id V429)
    have hin431 : ¬ ((1 : Int32) < 0 ∨ cl431.slots.size ≤ ((1 : Int32)).toNatClampNeg) := inb_of Sz431 ⟨by decide, by decide⟩
    obtain ⟨T431, h431, X431, e431, W431, st431⟩ := stJ X429 hx hZ e429 Ar431 (j := (1 : Int32)) hin431 (g := (mkF m 343 #[(vl p0), .second, (vl p1), .second, (vi p2), (vi p3), (vi p4), (vi p5), (vi k0), (vi k1), (vi k2), (vi yo), (vl r_5), .second, (vl r_6), .second, (vl r_7), .second, (vl r_8), .second, (vl r_9), .second, (vl r_10), .second, (vl f0), .second, (vl f1), .second, (vl f2), .second, (vi 0), .val (.int ((k0 + k1) + k2)), (vl yw), .second, (vr b247), (vr b351), (vr b411), .unset, .unset, .unset] [(.long (yw ^^^ (-1 : Int64))), (.int 1), (.ref b411)])) rfl rfl (hb hby at_343)
    have O432 : Old Z n0 h431 := O430.wr W431 g427
    have V431 : Arv Z h431 b411 k411 .long (4 : Int32) ([(.long (yw ^^^ (-1 : Int64))), (.long (yw ^^^ (-1 : Int64))), (.long 0), (.long 0)]) (.long 0) := (Arv.set Ar431 qc431 Sz431 Nn431 Ha431 Gg431 (v := (.long (yw ^^^ (-1 : Int64)))) rfl W431 1 rfl (Nat.le_of_ble_eq_true rfl))
    have N431 := Fr.snoc X431 N429 g427
    obtain ⟨cl433, Ar433, qc433, Sz433, Nn433, Ha433, Gg433⟩ := (id V431)
    have hin433 : ¬ ((2 : Int32) < 0 ∨ cl433.slots.size ≤ ((2 : Int32)).toNatClampNeg) := inb_of Sz433 ⟨by decide, by decide⟩
    obtain ⟨T433, h433, X433, e433, W433, st433⟩ := stJ X431 hx hZ e431 Ar433 (j := (2 : Int32)) hin433 (g := (mkF m 353 #[(vl p0), .second, (vl p1), .second, (vi p2), (vi p3), (vi p4), (vi p5), (vi k0), (vi k1), (vi k2), (vi yo), (vl r_5), .second, (vl r_6), .second, (vl r_7), .second, (vl r_8), .second, (vl r_9), .second, (vl r_10), .second, (vl f0), .second, (vl f1), .second, (vl f2), .second, (vi 0), .val (.int ((k0 + k1) + k2)), (vl yw), .second, (vr b247), (vr b351), (vr b411), .unset, .unset, .unset] [(.long (yw ^^^ (-1 : Int64))), (.int 2), (.ref b411)])) rfl rfl (hb hby at_353)
    have O434 : Old Z n0 h433 := O432.wr W433 g427
    have V433 : Arv Z h433 b411 k411 .long (4 : Int32) ([(.long (yw ^^^ (-1 : Int64))), (.long (yw ^^^ (-1 : Int64))), (.long (yw ^^^ (-1 : Int64))), (.long 0)]) (.long 0) := (Arv.set Ar433 qc433 Sz433 Nn433 Ha433 Gg433 (v := (.long (yw ^^^ (-1 : Int64)))) rfl W433 2 rfl (Nat.le_of_ble_eq_true rfl))
    have N433 := Fr.snoc X433 N431 g427
    obtain ⟨cl435, Ar435, qc435, Sz435, Nn435, Ha435, Gg435⟩ := (id V433)
    have hin435 : ¬ ((3 : Int32) < 0 ∨ cl435.slots.size ≤ ((3 : Int32)).toNatClampNeg) := inb_of Sz435 ⟨by decide, by decide⟩
    obtain ⟨T435, h435, X435, e435, W435, st435⟩ := stJ X433 hx hZ e433 Ar435 (j := (3 : Int32)) hin435 (g := (mkF m 363 #[(vl p0), .second, (vl p1), .second, (vi p2), (vi p3), (vi p4), (vi p5), (vi k0), (vi k1), (vi k2), (vi yo), (vl r_5), .second, (vl r_6), .second, (vl r_7), .second, (vl r_8), .second, (vl r_9), .second, (vl r_10), .second, (vl f0), .second, (vl f1), .second, (vl f2), .second, (vi 0), .val (.int ((k0 + k1) + k2)), (vl yw), .second, (vr b247), (vr b351), (vr b411), .unset, .unset, .unset] [(.long (yw ^^^ (-1 : Int64))), (.int 3), (.ref b411)])) rfl rfl (hb hby at_363)
    have O436 : Old Z n0 h435 := O434.wr W435 g427
    have V435 : Arv Z h435 b411 k411 .long (4 : Int32) ([(.long (yw ^^^ (-1 : Int64))), (.long (yw ^^^ (-1 : Int64))), (.long (yw ^^^ (-1 : Int64))), (.long (yw ^^^ (-1 : Int64)))]) (.long 0) := (Arv.set Ar435 qc435 Sz435 Nn435 Ha435 Gg435 (v := (.long (yw ^^^ (-1 : Int64)))) rfl W435 3 rfl (Nat.le_of_ble_eq_true rfl))
    have N435 := Fr.snoc X435 N433 g427
    have pre437 : ∀ t, Steps p.tables e below (T435.setTop (mkF m 364 #[(vl p0), .second, (vl p1), .second, (vi p2), (vi p3), (vi p4), (vi p5), (vi k0), (vi k1), (vi k2), (vi yo), (vl r_5), .second, (vl r_6), .second, (vl r_7), .second, (vl r_8), .second, (vl r_9), .second, (vl r_10), .second, (vl f0), .second, (vl f1), .second, (vl f2), .second, (vi 0), .val (.int ((k0 + k1) + k2)), (vl yw), .second, (vr b247), (vr b351), (vr b411), .unset, .unset, .unset] [])) t → Steps p.tables e below (s₁.setTop (entryFrame m #[(.long p0), (.long p1), (.int p2), (.int p3), (.int p4), (.int p5)] maxLocals)) t := by
      intro t k
      refine pre335 t ?_
      show Steps p.tables e below (T333.setTop (mkF m 299 #[(vl p0), .second, (vl p1), .second, (vi p2), (vi p3), (vi p4), (vi p5), (vi k0), (vi k1), (vi k2), (vi yo), (vl r_5), .second, (vl r_6), .second, (vl r_7), .second, (vl r_8), .second, (vl r_9), .second, (vl r_10), .second, (vl f0), .second, (vl f1), .second, (vl f2), .second, (vi 0), .val (.int ((k0 + k1) + k2)), (vl yw), .second, (vr b247), .unset, .unset, .unset, .unset, .unset] [(.int yh2), (.int yl2), (.ref wINTEGER), (.ref b330), (.ref b317), (.ref b317), (.ref b247)])) _
      refine st341.trans ?_
      refine st349.trans ?_
      refine XS.pop X349.here hx rfl (hb hby at_307) rfl rfl ?_
      refine st351 _ ?_
      refine XS.dup X351.here hx rfl (hb hby at_311) rfl rfl ?_
      refine XS.aload X351.here hx rfl (hb hby at_312) rfl rfl ?_
      show Steps p.tables e below (T351.setTop (mkF m 314 #[(vl p0), .second, (vl p1), .second, (vi p2), (vi p3), (vi p4), (vi p5), (vi k0), (vi k1), (vi k2), (vi yo), (vl r_5), .second, (vl r_6), .second, (vl r_7), .second, (vl r_8), .second, (vl r_9), .second, (vl r_10), .second, (vl f0), .second, (vl f1), .second, (vl f2), .second, (vi 0), .val (.int ((k0 + k1) + k2)), (vl yw), .second, (vr b247), .unset, .unset, .unset, .unset, .unset] [(.ref b247), (.ref b351), (.ref b351)])) _
      refine st380.trans ?_
      refine XS.astore X380.here hx rfl (hb hby at_317) rfl rfl (l' := #[(vl p0), .second, (vl p1), .second, (vi p2), (vi p3), (vi p4), (vi p5), (vi k0), (vi k1), (vi k2), (vi yo), (vl r_5), .second, (vl r_6), .second, (vl r_7), .second, (vl r_8), .second, (vl r_9), .second, (vl r_10), .second, (vl f0), .second, (vl f1), .second, (vl f2), .second, (vi 0), .val (.int ((k0 + k1) + k2)), (vl yw), .second, (vr b247), (vr b351), .unset, .unset, .unset, .unset]) rfl ?_
      refine XS.iconst X380.here hx rfl (hb hby at_319) ?_
      refine st411 _ ?_
      refine XS.astore X411.here hx rfl (hb hby at_322) rfl rfl (l' := #[(vl p0), .second, (vl p1), .second, (vi p2), (vi p3), (vi p4), (vi p5), (vi k0), (vi k1), (vi k2), (vi yo), (vl r_5), .second, (vl r_6), .second, (vl r_7), .second, (vl r_8), .second, (vl r_9), .second, (vl r_10), .second, (vl f0), .second, (vl f1), .second, (vl f2), .second, (vi 0), .val (.int ((k0 + k1) + k2)), (vl yw), .second, (vr b247), (vr b351), (vr b411), .unset, .unset, .unset]) rfl ?_
      refine XS.aload X411.here hx rfl (hb hby at_324) rfl rfl ?_
      show Steps p.tables e below (T411.setTop (mkF m 326 #[(vl p0), .second, (vl p1), .second, (vi p2), (vi p3), (vi p4), (vi p5), (vi k0), (vi k1), (vi k2), (vi yo), (vl r_5), .second, (vl r_6), .second, (vl r_7), .second, (vl r_8), .second, (vl r_9), .second, (vl r_10), .second, (vl f0), .second, (vl f1), .second, (vl f2), .second, (vi 0), .val (.int ((k0 + k1) + k2)), (vl yw), .second, (vr b247), (vr b351), (vr b411), .unset, .unset, .unset] [(.ref b411)])) _
      refine XS.iconst X411.here hx rfl (hb hby at_326) ?_
      refine XS.lload X411.here hx rfl (hb hby at_327) rfl ?_
      refine X411.ldc2Long hx hown (mvT hZ (ow hw 9 rfl)) (g := (mkF m 329 #[(vl p0), .second, (vl p1), .second, (vi p2), (vi p3), (vi p4), (vi p5), (vi k0), (vi k1), (vi k2), (vi yo), (vl r_5), .second, (vl r_6), .second, (vl r_7), .second, (vl r_8), .second, (vl r_9), .second, (vl r_10), .second, (vl f0), .second, (vl f1), .second, (vl f2), .second, (vi 0), .val (.int ((k0 + k1) + k2)), (vl yw), .second, (vr b247), (vr b351), (vr b411), .unset, .unset, .unset] [(.long yw), (.int 0), (.ref b411)])) rfl (hb hby at_329) _ ?_
      refine XS.lxor X411.here hx rfl (hb hby at_332) rfl ?_
      refine st429 _ ?_
      refine XS.aload X429.here hx rfl (hb hby at_334) rfl rfl ?_
      show Steps p.tables e below (T429.setTop (mkF m 336 #[(vl p0), .second, (vl p1), .second, (vi p2), (vi p3), (vi p4), (vi p5), (vi k0), (vi k1), (vi k2), (vi yo), (vl r_5), .second, (vl r_6), .second, (vl r_7), .second, (vl r_8), .second, (vl r_9), .second, (vl r_10), .second, (vl f0), .second, (vl f1), .second, (vl f2), .second, (vi 0), .val (.int ((k0 + k1) + k2)), (vl yw), .second, (vr b247), (vr b351), (vr b411), .unset, .unset, .unset] [(.ref b411)])) _
      refine XS.iconst X429.here hx rfl (hb hby at_336) ?_
      refine XS.lload X429.here hx rfl (hb hby at_337) rfl ?_
      refine X429.ldc2Long hx hown (mvT hZ (ow hw 9 rfl)) (g := (mkF m 339 #[(vl p0), .second, (vl p1), .second, (vi p2), (vi p3), (vi p4), (vi p5), (vi k0), (vi k1), (vi k2), (vi yo), (vl r_5), .second, (vl r_6), .second, (vl r_7), .second, (vl r_8), .second, (vl r_9), .second, (vl r_10), .second, (vl f0), .second, (vl f1), .second, (vl f2), .second, (vi 0), .val (.int ((k0 + k1) + k2)), (vl yw), .second, (vr b247), (vr b351), (vr b411), .unset, .unset, .unset] [(.long yw), (.int 1), (.ref b411)])) rfl (hb hby at_339) _ ?_
      refine XS.lxor X429.here hx rfl (hb hby at_342) rfl ?_
      refine st431 _ ?_
      refine XS.aload X431.here hx rfl (hb hby at_344) rfl rfl ?_
      show Steps p.tables e below (T431.setTop (mkF m 346 #[(vl p0), .second, (vl p1), .second, (vi p2), (vi p3), (vi p4), (vi p5), (vi k0), (vi k1), (vi k2), (vi yo), (vl r_5), .second, (vl r_6), .second, (vl r_7), .second, (vl r_8), .second, (vl r_9), .second, (vl r_10), .second, (vl f0), .second, (vl f1), .second, (vl f2), .second, (vi 0), .val (.int ((k0 + k1) + k2)), (vl yw), .second, (vr b247), (vr b351), (vr b411), .unset, .unset, .unset] [(.ref b411)])) _
      refine XS.iconst X431.here hx rfl (hb hby at_346) ?_
      refine XS.lload X431.here hx rfl (hb hby at_347) rfl ?_
      refine X431.ldc2Long hx hown (mvT hZ (ow hw 9 rfl)) (g := (mkF m 349 #[(vl p0), .second, (vl p1), .second, (vi p2), (vi p3), (vi p4), (vi p5), (vi k0), (vi k1), (vi k2), (vi yo), (vl r_5), .second, (vl r_6), .second, (vl r_7), .second, (vl r_8), .second, (vl r_9), .second, (vl r_10), .second, (vl f0), .second, (vl f1), .second, (vl f2), .second, (vi 0), .val (.int ((k0 + k1) + k2)), (vl yw), .second, (vr b247), (vr b351), (vr b411), .unset, .unset, .unset] [(.long yw), (.int 2), (.ref b411)])) rfl (hb hby at_349) _ ?_
      refine XS.lxor X431.here hx rfl (hb hby at_352) rfl ?_
      refine st433 _ ?_
      refine XS.aload X433.here hx rfl (hb hby at_354) rfl rfl ?_
      show Steps p.tables e below (T433.setTop (mkF m 356 #[(vl p0), .second, (vl p1), .second, (vi p2), (vi p3), (vi p4), (vi p5), (vi k0), (vi k1), (vi k2), (vi yo), (vl r_5), .second, (vl r_6), .second, (vl r_7), .second, (vl r_8), .second, (vl r_9), .second, (vl r_10), .second, (vl f0), .second, (vl f1), .second, (vl f2), .second, (vi 0), .val (.int ((k0 + k1) + k2)), (vl yw), .second, (vr b247), (vr b351), (vr b411), .unset, .unset, .unset] [(.ref b411)])) _
      refine XS.iconst X433.here hx rfl (hb hby at_356) ?_
      refine XS.lload X433.here hx rfl (hb hby at_357) rfl ?_
      refine X433.ldc2Long hx hown (mvT hZ (ow hw 9 rfl)) (g := (mkF m 359 #[(vl p0), .second, (vl p1), .second, (vi p2), (vi p3), (vi p4), (vi p5), (vi k0), (vi k1), (vi k2), (vi yo), (vl r_5), .second, (vl r_6), .second, (vl r_7), .second, (vl r_8), .second, (vl r_9), .second, (vl r_10), .second, (vl f0), .second, (vl f1), .second, (vl f2), .second, (vi 0), .val (.int ((k0 + k1) + k2)), (vl yw), .second, (vr b247), (vr b351), (vr b411), .unset, .unset, .unset] [(.long yw), (.int 3), (.ref b411)])) rfl (hb hby at_359) _ ?_
      refine XS.lxor X433.here hx rfl (hb hby at_362) rfl ?_
      refine st435 _ ?_
      exact k
    rcases (id (ho01)) with hk438 | hk438
    · skip
      have pre439 : ∀ t, Steps p.tables e below (T435.setTop (mkF m 364 #[(vl p0), .second, (vl p1), .second, (vi p2), (vi p3), (vi p4), (vi p5), (vi k0), (vi k1), (vi k2), (vi 0), (vl r_5), .second, (vl r_6), .second, (vl r_7), .second, (vl r_8), .second, (vl r_9), .second, (vl r_10), .second, (vl f0), .second, (vl f1), .second, (vl f2), .second, (vi 0), .val (.int ((k0 + k1) + k2)), (vl yw), .second, (vr b247), (vr b351), (vr b411), .unset, .unset, .unset] [])) t → Steps p.tables e below (s₁.setTop (entryFrame m #[(.long p0), (.long p1), (.int p2), (.int p3), (.int p4), (.int p5)] maxLocals)) t := by
        intro t k
        refine pre437 t ?_
        rw [hk438]
        exact k
      obtain ⟨cl440, Ar440, qc440, Sz440, Nn440, Ha440, Gg440⟩ := (id V435)
      have hin440 : ¬ ((0 : Int32) < 0 ∨ cl440.slots.size ≤ ((0 : Int32)).toNatClampNeg) := inb_of Sz440 ⟨by decide, by decide⟩
      obtain ⟨T440, h440, X440, e440, W440, st440⟩ := stJ X435 hx hZ e435 Ar440 (j := (0 : Int32)) hin440 (g := (mkF m 370 #[(vl p0), .second, (vl p1), .second, (vi p2), (vi p3), (vi p4), (vi p5), (vi k0), (vi k1), (vi k2), (vi 0), (vl r_5), .second, (vl r_6), .second, (vl r_7), .second, (vl r_8), .second, (vl r_9), .second, (vl r_10), .second, (vl f0), .second, (vl f1), .second, (vl f2), .second, (vi 0), .val (.int ((k0 + k1) + k2)), (vl yw), .second, (vr b247), (vr b351), (vr b411), .unset, .unset, .unset] [(.long yw), (.int 0), (.ref b411)])) rfl rfl (hb hby at_370)
      have O441 : Old Z n0 h440 := O436.wr W440 g427
      have V440 : Arv Z h440 b411 k411 .long (4 : Int32) ([(.long yw), (.long (yw ^^^ (-1 : Int64))), (.long (yw ^^^ (-1 : Int64))), (.long (yw ^^^ (-1 : Int64)))]) (.long 0) := (Arv.set Ar440 qc440 Sz440 Nn440 Ha440 Gg440 (v := (.long yw)) rfl W440 0 rfl (Nat.le_of_ble_eq_true rfl))
      have N440 := Fr.snoc X440 N435 g427
      have f442 : Fld Z h440 b351 s9n "low" "[I" (.ref e1_380) := ((((((p380_1.ext E411).other W429 (Or.inl ne422)).other W431 (Or.inl ne422)).other W433 (Or.inl ne422)).other W435 (Or.inl ne422)).other W440 (Or.inl ne422))
      have f443 : Fld Z h440 b351 s9n "mask" "[J" (.ref e2_380) := ((((((p380_2.ext E411).other W429 (Or.inl ne422)).other W431 (Or.inl ne422)).other W433 (Or.inl ne422)).other W435 (Or.inl ne422)).other W440 (Or.inl ne422))
      have f444 : Fld Z h440 b351 s9n "shift" "[I" (.ref e3_380) := ((((((p380_3.ext E411).other W429 (Or.inl ne422)).other W431 (Or.inl ne422)).other W433 (Or.inl ne422)).other W435 (Or.inl ne422)).other W440 (Or.inl ne422))
      have f445 : Fld Z h440 b351 s9n "word" "[I" (.ref e4_380) := ((((((p380_4.ext E411).other W429 (Or.inl ne422)).other W431 (Or.inl ne422)).other W433 (Or.inl ne422)).other W435 (Or.inl ne422)).other W440 (Or.inl ne422))
      have f446 : Arv Z h440 e1_380 e5_380 .int (3 : Int32) ([(.int yl0), (.int yl1), (.int yl2)]) (.int 0) := ((((((p380_8.ext E411).other W429 ne423).other W431 ne423).other W433 ne423).other W435 ne423).other W440 ne423)
      have f447 : Arv Z h440 e2_380 e6_380 .long (3 : Int32) ([(.long (maskV k0)), (.long (maskV k1)), (.long (maskV k2))]) (.long 0) := ((((((p380_11.ext E411).other W429 ne424).other W431 ne424).other W433 ne424).other W435 ne424).other W440 ne424)
      have f448 : Arv Z h440 e3_380 e7_380 .int (3 : Int32) ([(.int 0), (.int ((0 : Int32) + k0)), (.int (((0 : Int32) + k0) + k1))]) (.int 0) := ((((((p380_14.ext E411).other W429 ne425).other W431 ne425).other W433 ne425).other W435 ne425).other W440 ne425)
      have f449 : Arv Z h440 e4_380 e8_380 .int (3 : Int32) ([(.int 0), (.int 0), (.int 0)]) (.int 0) := ((((((p380_17.ext E411).other W429 ne426).other W431 ne426).other W433 ne426).other W435 ne426).other W440 ne426)
      have f451 : Exa Z h440 b351 s9n := ((((((p380_0.ext E411).wr W429).wr W431).wr W433).wr W435).wr W440)
      obtain ⟨cq450, kq450, q450a, q450b, q450c⟩ := isOf hZ e440 f451
      obtain ⟨_, _, ⟨T450, L450, k450, n450⟩, -, X450, ⟨Lc450, hQ450, l450, y450, z450⟩, st450⟩ := X440.virtualBack hx (y := M24) (z := M24) hown (mvT hZ (ow hw 177 rfl)) (mvT hZ (ow hw 178 rfl)) (notFace_of_selects (args := #[]) (mvT hZ (ow hw 180 rfl))) (mvT hZ (ow hw 180 rfl)) (mvT hZ (ow hw 179 rfl)) (by decide) (backOf (W := 0) (au24_6 l Z a0 hw [] wINTEGER wDOUBLE wBOOLEAN wDEFAULTCAPACITY_EMPTY_ELEMENTDATA kwDEFAULTCAPACITY_EMPTY_ELEMENTDATA hS b351 b411 e1_380 e2_380 e3_380 e4_380 k411 yw (yw ^^^ (-1 : Int64)) e5_380 yl0 yl1 yl2 e6_380 (maskV k0) (maskV k1) (maskV k2) e7_380 ((0 : Int32) + k0) (((0 : Int32) + k0) + k1) e8_380 h440 n0 O441 f442 f443 f444 f445 V440 f446 f447 f448 f449) hZ (ow hw 181 rfl) (ow hw 109 rfl) (by decide) (by decide)) q450a q450c (g := (mkF m 391 #[(vl p0), .second, (vl p1), .second, (vi p2), (vi p3), (vi p4), (vi p5), (vi k0), (vi k1), (vi k2), (vi 0), (vl r_5), .second, (vl r_6), .second, (vl r_7), .second, (vl r_8), .second, (vl r_9), .second, (vl r_10), .second, (vl f0), .second, (vl f1), .second, (vl f2), .second, (vi 0), .val (.int ((k0 + k1) + k2)), (vl yw), .second, (vr b247), (vr b351), (vr b411), .unset, .unset, .unset] [(.int 0), (.int 0), (.ref b411), (.ref b351)])) rfl (by rw [hml]; rfl) (Steps.refl _) (argsL := [(.ref b411), (.int 0), (.int 0)]) (rest := []) (lenOf pd_15 rfl) rfl (by show 2 * 0 + _ ≤ _; exact Nat.le_of_eq rfl) (hb hby at_391) (fun _ _ => ⟨rfl, e440, (by decide : 17 + 0 ≤ _), (by decide : 70 + 0 ≤ _)⟩)
      dsimp only [Pt.U, Pt.locs, Pt.cells, Pt.slots] at X450 l450 y450 z450 st450 hQ450
      subst y450 z450
      obtain ⟨rfl, Nq450, K450q⟩ := hQ450
      have N450 : Fr n0 L450 := (congrArg (Fr n0) l450).mpr (Fr.app N440 Nq450)
      obtain ⟨cq452, kq452, q452a, q452b, q452c⟩ := isOf hZ K450q f451
      obtain ⟨_, _, ⟨T452, L452, k452, n452⟩, -, X452, ⟨Lc452, hQ452, l452, y452, z452⟩, st452⟩ := X450.virtualBack hx (y := M24) (z := M24) hown (mvT hZ (ow hw 177 rfl)) (mvT hZ (ow hw 178 rfl)) (notFace_of_selects (args := #[]) (mvT hZ (ow hw 180 rfl))) (mvT hZ (ow hw 180 rfl)) (mvT hZ (ow hw 179 rfl)) (by decide) (backOf (W := 0) (au24_7 l Z a0 hw [] wINTEGER wDOUBLE wBOOLEAN wDEFAULTCAPACITY_EMPTY_ELEMENTDATA kwDEFAULTCAPACITY_EMPTY_ELEMENTDATA hS b351 b411 e1_380 e2_380 e3_380 e4_380 k411 yw (yw ^^^ (-1 : Int64)) e5_380 yl0 yl1 yl2 e6_380 (maskV k0) (maskV k1) (maskV k2) e7_380 ((0 : Int32) + k0) (((0 : Int32) + k0) + k1) e8_380 h440 n0 O441 f442 f443 f444 f445 V440 f446 f447 f448 f449) hZ (ow hw 181 rfl) (ow hw 109 rfl) (by decide) (by decide)) q452a q452c (g := (mkF m 403 #[(vl p0), .second, (vl p1), .second, (vi p2), (vi p3), (vi p4), (vi p5), (vi k0), (vi k1), (vi k2), (vi 0), (vl r_5), .second, (vl r_6), .second, (vl r_7), .second, (vl r_8), .second, (vl r_9), .second, (vl r_10), .second, (vl f0), .second, (vl f1), .second, (vl f2), .second, (vi 0), .val (.int ((k0 + k1) + k2)), (vl yw), .second, (vr b247), (vr b351), (vr b411), .val (.int (yl0 + ((((yw.toUInt64 >>> ((0 : Int32) &&& 0x3f).toInt64.toUInt64).toInt64) &&& (maskV k0)).toInt32))), .unset, .unset] [(.int 1), (.int 0), (.ref b411), (.ref b351)])) rfl (by rw [hml]; rfl) (Steps.refl _) (argsL := [(.ref b411), (.int 0), (.int 1)]) (rest := []) (lenOf pd_15 rfl) rfl (by show 2 * 0 + _ ≤ _; exact Nat.le_of_eq rfl) (hb hby at_403) (fun _ _ => ⟨rfl, K450q, (by decide : 17 + 0 ≤ _), (by decide : 70 + 0 ≤ _)⟩)
      dsimp only [Pt.U, Pt.locs, Pt.cells, Pt.slots] at X452 l452 y452 z452 st452 hQ452
      subst y452 z452
      obtain ⟨rfl, Nq452, K452q⟩ := hQ452
      have N452 : Fr n0 L452 := (congrArg (Fr n0) l452).mpr (Fr.app N450 Nq452)
      obtain ⟨cq453, kq453, q453a, q453b, q453c⟩ := isOf hZ K452q f451
      obtain ⟨_, _, ⟨T453, L453, k453, n453⟩, -, X453, ⟨Lc453, hQ453, l453, y453, z453⟩, st453⟩ := X452.virtualBack hx (y := M24) (z := M24) hown (mvT hZ (ow hw 177 rfl)) (mvT hZ (ow hw 178 rfl)) (notFace_of_selects (args := #[]) (mvT hZ (ow hw 180 rfl))) (mvT hZ (ow hw 180 rfl)) (mvT hZ (ow hw 179 rfl)) (by decide) (backOf (W := 0) (au24_8 l Z a0 hw [] wINTEGER wDOUBLE wBOOLEAN wDEFAULTCAPACITY_EMPTY_ELEMENTDATA kwDEFAULTCAPACITY_EMPTY_ELEMENTDATA hS b351 b411 e1_380 e2_380 e3_380 e4_380 k411 yw (yw ^^^ (-1 : Int64)) e5_380 yl0 yl1 yl2 e6_380 (maskV k0) (maskV k1) (maskV k2) e7_380 ((0 : Int32) + k0) (((0 : Int32) + k0) + k1) e8_380 h440 n0 O441 f442 f443 f444 f445 V440 f446 f447 f448 f449) hZ (ow hw 181 rfl) (ow hw 109 rfl) (by decide) (by decide)) q453a q453c (g := (mkF m 415 #[(vl p0), .second, (vl p1), .second, (vi p2), (vi p3), (vi p4), (vi p5), (vi k0), (vi k1), (vi k2), (vi 0), (vl r_5), .second, (vl r_6), .second, (vl r_7), .second, (vl r_8), .second, (vl r_9), .second, (vl r_10), .second, (vl f0), .second, (vl f1), .second, (vl f2), .second, (vi 0), .val (.int ((k0 + k1) + k2)), (vl yw), .second, (vr b247), (vr b351), (vr b411), .val (.int (yl0 + ((((yw.toUInt64 >>> ((0 : Int32) &&& 0x3f).toInt64.toUInt64).toInt64) &&& (maskV k0)).toInt32))), .val (.int (yl1 + ((((yw.toUInt64 >>> (((0 : Int32) + k0) &&& 0x3f).toInt64.toUInt64).toInt64) &&& (maskV k1)).toInt32))), .unset] [(.int 2), (.int 0), (.ref b411), (.ref b351)])) rfl (by rw [hml]; rfl) (Steps.refl _) (argsL := [(.ref b411), (.int 0), (.int 2)]) (rest := []) (lenOf pd_15 rfl) rfl (by show 2 * 0 + _ ≤ _; exact Nat.le_of_eq rfl) (hb hby at_415) (fun _ _ => ⟨rfl, K452q, (by decide : 17 + 0 ≤ _), (by decide : 70 + 0 ≤ _)⟩)
      dsimp only [Pt.U, Pt.locs, Pt.cells, Pt.slots] at X453 l453 y453 z453 st453 hQ453
      subst y453 z453
      obtain ⟨rfl, Nq453, K453q⟩ := hQ453
      have N453 : Fr n0 L453 := (congrArg (Fr n0) l453).mpr (Fr.app N452 Nq453)
      have hfin := own_fN hK0 hK1 hK2 p5_0 p6_0 p7_0 hf0 hf1 hf2 p245_0 hyw hsp
      have hk454 : _ ≤ h440.size := (Nat.le_trans (Nat.le_trans (Nat.le_trans (Nat.le_trans (Nat.le_trans (Nat.le_trans (Nat.le_trans (Nat.le_trans (Nat.le_trans (Nat.le_trans hk330 K341q.1) K349q.1) E351.1) K380q.1) E411.1) (Nat.le_of_eq W429.size.symm)) (Nat.le_of_eq W431.size.symm)) (Nat.le_of_eq W433.size.symm)) (Nat.le_of_eq W435.size.symm)) (Nat.le_of_eq W440.size.symm))
      obtain ⟨fs, hr, hrun, hended, hRW⟩ := X453.leaveW hS330 (by rw [K453q]; exact hk454) (v := some (.int 1)) (fun h => by rw [hret0] at h; cases h)
      refine ⟨_, _, pre439 _ ?_, hrun, hended, _, _, rfl, ?_, hRW.1, hRW.2.1, hRW.2.2.1, hRW.2.2.2.mono (by decide) (by decide)⟩
      · skip
        show Steps p.tables e below (T435.setTop (mkF m 364 #[(vl p0), .second, (vl p1), .second, (vi p2), (vi p3), (vi p4), (vi p5), (vi k0), (vi k1), (vi k2), (vi 0), (vl r_5), .second, (vl r_6), .second, (vl r_7), .second, (vl r_8), .second, (vl r_9), .second, (vl r_10), .second, (vl f0), .second, (vl f1), .second, (vl f2), .second, (vi 0), .val (.int ((k0 + k1) + k2)), (vl yw), .second, (vr b247), (vr b351), (vr b411), .unset, .unset, .unset] [])) _
        refine XS.aload X435.here hx rfl (hb hby at_364) rfl rfl ?_
        refine XS.iload X435.here hx rfl (hb hby at_366) rfl ?_
        refine XS.lload X435.here hx rfl (hb hby at_368) rfl ?_
        refine st440 _ ?_
        refine XS.iload X440.here hx rfl (hb hby at_371) rfl ?_
        refine XS.ifYes X440.here hx rfl (pc0 := 373) (pc' := 384) rfl (hb hby at_373) rfl ((if0 _ _).trans (teq (by decide : (0 : Int32) = (0 : Int32))).1) (by decide) (by decide) ?_
        show Steps p.tables e below (T440.setTop (mkF m 384 #[(vl p0), .second, (vl p1), .second, (vi p2), (vi p3), (vi p4), (vi p5), (vi k0), (vi k1), (vi k2), (vi 0), (vl r_5), .second, (vl r_6), .second, (vl r_7), .second, (vl r_8), .second, (vl r_9), .second, (vl r_10), .second, (vl f0), .second, (vl f1), .second, (vl f2), .second, (vi 0), .val (.int ((k0 + k1) + k2)), (vl yw), .second, (vr b247), (vr b351), (vr b411), .unset, .unset, .unset] [])) _
        refine XS.aload X440.here hx rfl (hb hby at_384) rfl rfl ?_
        refine XS.aload X440.here hx rfl (hb hby at_386) rfl rfl ?_
        refine XS.iload X440.here hx rfl (hb hby at_388) rfl ?_
        refine XS.iconst X440.here hx rfl (hb hby at_390) ?_
        refine st450.trans ?_
        refine XS.istore X450.here hx rfl (hb hby at_394) rfl (l' := #[(vl p0), .second, (vl p1), .second, (vi p2), (vi p3), (vi p4), (vi p5), (vi k0), (vi k1), (vi k2), (vi 0), (vl r_5), .second, (vl r_6), .second, (vl r_7), .second, (vl r_8), .second, (vl r_9), .second, (vl r_10), .second, (vl f0), .second, (vl f1), .second, (vl f2), .second, (vi 0), .val (.int ((k0 + k1) + k2)), (vl yw), .second, (vr b247), (vr b351), (vr b411), .val (.int (yl0 + ((((yw.toUInt64 >>> ((0 : Int32) &&& 0x3f).toInt64.toUInt64).toInt64) &&& (maskV k0)).toInt32))), .unset, .unset]) rfl ?_
        show Steps p.tables e below (T450.setTop (mkF m 396 #[(vl p0), .second, (vl p1), .second, (vi p2), (vi p3), (vi p4), (vi p5), (vi k0), (vi k1), (vi k2), (vi 0), (vl r_5), .second, (vl r_6), .second, (vl r_7), .second, (vl r_8), .second, (vl r_9), .second, (vl r_10), .second, (vl f0), .second, (vl f1), .second, (vl f2), .second, (vi 0), .val (.int ((k0 + k1) + k2)), (vl yw), .second, (vr b247), (vr b351), (vr b411), .val (.int (yl0 + ((((yw.toUInt64 >>> ((0 : Int32) &&& 0x3f).toInt64.toUInt64).toInt64) &&& (maskV k0)).toInt32))), .unset, .unset] [])) _
        refine XS.aload X450.here hx rfl (hb hby at_396) rfl rfl ?_
        refine XS.aload X450.here hx rfl (hb hby at_398) rfl rfl ?_
        refine XS.iload X450.here hx rfl (hb hby at_400) rfl ?_
        refine XS.iconst X450.here hx rfl (hb hby at_402) ?_
        refine st452.trans ?_
        refine XS.istore X452.here hx rfl (hb hby at_406) rfl (l' := #[(vl p0), .second, (vl p1), .second, (vi p2), (vi p3), (vi p4), (vi p5), (vi k0), (vi k1), (vi k2), (vi 0), (vl r_5), .second, (vl r_6), .second, (vl r_7), .second, (vl r_8), .second, (vl r_9), .second, (vl r_10), .second, (vl f0), .second, (vl f1), .second, (vl f2), .second, (vi 0), .val (.int ((k0 + k1) + k2)), (vl yw), .second, (vr b247), (vr b351), (vr b411), .val (.int (yl0 + ((((yw.toUInt64 >>> ((0 : Int32) &&& 0x3f).toInt64.toUInt64).toInt64) &&& (maskV k0)).toInt32))), .val (.int (yl1 + ((((yw.toUInt64 >>> (((0 : Int32) + k0) &&& 0x3f).toInt64.toUInt64).toInt64) &&& (maskV k1)).toInt32))), .unset]) rfl ?_
        show Steps p.tables e below (T452.setTop (mkF m 408 #[(vl p0), .second, (vl p1), .second, (vi p2), (vi p3), (vi p4), (vi p5), (vi k0), (vi k1), (vi k2), (vi 0), (vl r_5), .second, (vl r_6), .second, (vl r_7), .second, (vl r_8), .second, (vl r_9), .second, (vl r_10), .second, (vl f0), .second, (vl f1), .second, (vl f2), .second, (vi 0), .val (.int ((k0 + k1) + k2)), (vl yw), .second, (vr b247), (vr b351), (vr b411), .val (.int (yl0 + ((((yw.toUInt64 >>> ((0 : Int32) &&& 0x3f).toInt64.toUInt64).toInt64) &&& (maskV k0)).toInt32))), .val (.int (yl1 + ((((yw.toUInt64 >>> (((0 : Int32) + k0) &&& 0x3f).toInt64.toUInt64).toInt64) &&& (maskV k1)).toInt32))), .unset] [])) _
        refine XS.aload X452.here hx rfl (hb hby at_408) rfl rfl ?_
        refine XS.aload X452.here hx rfl (hb hby at_410) rfl rfl ?_
        refine XS.iload X452.here hx rfl (hb hby at_412) rfl ?_
        refine XS.iconst X452.here hx rfl (hb hby at_414) ?_
        refine st453.trans ?_
        refine XS.istore X453.here hx rfl (hb hby at_418) rfl (l' := #[(vl p0), .second, (vl p1), .second, (vi p2), (vi p3), (vi p4), (vi p5), (vi k0), (vi k1), (vi k2), (vi 0), (vl r_5), .second, (vl r_6), .second, (vl r_7), .second, (vl r_8), .second, (vl r_9), .second, (vl r_10), .second, (vl f0), .second, (vl f1), .second, (vl f2), .second, (vi 0), .val (.int ((k0 + k1) + k2)), (vl yw), .second, (vr b247), (vr b351), (vr b411), .val (.int (yl0 + ((((yw.toUInt64 >>> ((0 : Int32) &&& 0x3f).toInt64.toUInt64).toInt64) &&& (maskV k0)).toInt32))), .val (.int (yl1 + ((((yw.toUInt64 >>> (((0 : Int32) + k0) &&& 0x3f).toInt64.toUInt64).toInt64) &&& (maskV k1)).toInt32))), .val (.int (yl2 + ((((yw.toUInt64 >>> ((((0 : Int32) + k0) + k1) &&& 0x3f).toInt64.toUInt64).toInt64) &&& (maskV k2)).toInt32)))]) rfl ?_
        show Steps p.tables e below (T453.setTop (mkF m 420 #[(vl p0), .second, (vl p1), .second, (vi p2), (vi p3), (vi p4), (vi p5), (vi k0), (vi k1), (vi k2), (vi 0), (vl r_5), .second, (vl r_6), .second, (vl r_7), .second, (vl r_8), .second, (vl r_9), .second, (vl r_10), .second, (vl f0), .second, (vl f1), .second, (vl f2), .second, (vi 0), .val (.int ((k0 + k1) + k2)), (vl yw), .second, (vr b247), (vr b351), (vr b411), .val (.int (yl0 + ((((yw.toUInt64 >>> ((0 : Int32) &&& 0x3f).toInt64.toUInt64).toInt64) &&& (maskV k0)).toInt32))), .val (.int (yl1 + ((((yw.toUInt64 >>> (((0 : Int32) + k0) &&& 0x3f).toInt64.toUInt64).toInt64) &&& (maskV k1)).toInt32))), .val (.int (yl2 + ((((yw.toUInt64 >>> ((((0 : Int32) + k0) + k1) &&& 0x3f).toInt64.toUInt64).toInt64) &&& (maskV k2)).toInt32)))] [])) _
        refine XS.iload X453.here hx rfl (hb hby at_420) rfl ?_
        refine XS.lload X453.here hx rfl (hb hby at_422) rfl ?_
        refine XS.lload X453.here hx rfl (hb hby at_424) rfl ?_
        refine XS.ladd X453.here hx rfl (hb hby at_426) rfl ?_
        refine XS.l2i X453.here hx rfl (hb hby at_427) rfl ?_
        refine XS.icmpNo X453.here hx rfl (hb hby at_428) rfl (teq (by rw [own_sh0, hfin.1, hyl0, own_toI32] : (yl0 + ((((yw.toUInt64 >>> ((0 : Int32) &&& 0x3f).toInt64.toUInt64).toInt64) &&& (maskV k0)).toInt32)) = ((r_8 + f0).toInt32))).2 ?_
        show Steps p.tables e below (T453.setTop (mkF m 431 #[(vl p0), .second, (vl p1), .second, (vi p2), (vi p3), (vi p4), (vi p5), (vi k0), (vi k1), (vi k2), (vi 0), (vl r_5), .second, (vl r_6), .second, (vl r_7), .second, (vl r_8), .second, (vl r_9), .second, (vl r_10), .second, (vl f0), .second, (vl f1), .second, (vl f2), .second, (vi 0), .val (.int ((k0 + k1) + k2)), (vl yw), .second, (vr b247), (vr b351), (vr b411), .val (.int (yl0 + ((((yw.toUInt64 >>> ((0 : Int32) &&& 0x3f).toInt64.toUInt64).toInt64) &&& (maskV k0)).toInt32))), .val (.int (yl1 + ((((yw.toUInt64 >>> (((0 : Int32) + k0) &&& 0x3f).toInt64.toUInt64).toInt64) &&& (maskV k1)).toInt32))), .val (.int (yl2 + ((((yw.toUInt64 >>> ((((0 : Int32) + k0) + k1) &&& 0x3f).toInt64.toUInt64).toInt64) &&& (maskV k2)).toInt32)))] [])) _
        refine XS.iload X453.here hx rfl (hb hby at_431) rfl ?_
        refine XS.lload X453.here hx rfl (hb hby at_433) rfl ?_
        refine XS.lload X453.here hx rfl (hb hby at_435) rfl ?_
        refine XS.ladd X453.here hx rfl (hb hby at_437) rfl ?_
        refine XS.l2i X453.here hx rfl (hb hby at_438) rfl ?_
        refine XS.icmpNo X453.here hx rfl (hb hby at_439) rfl (teq (by rw [hfin.2.1, hyl1, own_toI32] : (yl1 + ((((yw.toUInt64 >>> (((0 : Int32) + k0) &&& 0x3f).toInt64.toUInt64).toInt64) &&& (maskV k1)).toInt32)) = ((r_9 + f1).toInt32))).2 ?_
        show Steps p.tables e below (T453.setTop (mkF m 442 #[(vl p0), .second, (vl p1), .second, (vi p2), (vi p3), (vi p4), (vi p5), (vi k0), (vi k1), (vi k2), (vi 0), (vl r_5), .second, (vl r_6), .second, (vl r_7), .second, (vl r_8), .second, (vl r_9), .second, (vl r_10), .second, (vl f0), .second, (vl f1), .second, (vl f2), .second, (vi 0), .val (.int ((k0 + k1) + k2)), (vl yw), .second, (vr b247), (vr b351), (vr b411), .val (.int (yl0 + ((((yw.toUInt64 >>> ((0 : Int32) &&& 0x3f).toInt64.toUInt64).toInt64) &&& (maskV k0)).toInt32))), .val (.int (yl1 + ((((yw.toUInt64 >>> (((0 : Int32) + k0) &&& 0x3f).toInt64.toUInt64).toInt64) &&& (maskV k1)).toInt32))), .val (.int (yl2 + ((((yw.toUInt64 >>> ((((0 : Int32) + k0) + k1) &&& 0x3f).toInt64.toUInt64).toInt64) &&& (maskV k2)).toInt32)))] [])) _
        refine XS.iload X453.here hx rfl (hb hby at_442) rfl ?_
        refine XS.lload X453.here hx rfl (hb hby at_444) rfl ?_
        refine XS.lload X453.here hx rfl (hb hby at_446) rfl ?_
        refine XS.ladd X453.here hx rfl (hb hby at_448) rfl ?_
        refine XS.l2i X453.here hx rfl (hb hby at_449) rfl ?_
        refine XS.icmpNo X453.here hx rfl (hb hby at_450) rfl (teq (by rw [hfin.2.2, hyl2, own_toI32] : (yl2 + ((((yw.toUInt64 >>> ((((0 : Int32) + k0) + k1) &&& 0x3f).toInt64.toUInt64).toInt64) &&& (maskV k2)).toInt32)) = ((r_10 + f2).toInt32))).2 ?_
        show Steps p.tables e below (T453.setTop (mkF m 453 #[(vl p0), .second, (vl p1), .second, (vi p2), (vi p3), (vi p4), (vi p5), (vi k0), (vi k1), (vi k2), (vi 0), (vl r_5), .second, (vl r_6), .second, (vl r_7), .second, (vl r_8), .second, (vl r_9), .second, (vl r_10), .second, (vl f0), .second, (vl f1), .second, (vl f2), .second, (vi 0), .val (.int ((k0 + k1) + k2)), (vl yw), .second, (vr b247), (vr b351), (vr b411), .val (.int (yl0 + ((((yw.toUInt64 >>> ((0 : Int32) &&& 0x3f).toInt64.toUInt64).toInt64) &&& (maskV k0)).toInt32))), .val (.int (yl1 + ((((yw.toUInt64 >>> (((0 : Int32) + k0) &&& 0x3f).toInt64.toUInt64).toInt64) &&& (maskV k1)).toInt32))), .val (.int (yl2 + ((((yw.toUInt64 >>> ((((0 : Int32) + k0) + k1) &&& 0x3f).toInt64.toUInt64).toInt64) &&& (maskV k2)).toInt32)))] [])) _
        refine XS.iconst X453.here hx rfl (hb hby at_453) ?_
        refine XS.goto X453.here hx rfl (pc0 := 454) (pc' := 458) rfl (hb hby at_454) (by decide) (by decide) ?_
        exact retN X453 hx (t := .boolean) hret0 (by simp) (hb hby at_458) hr
      · show Q_rm0 Z wINTEGER wDOUBLE wBOOLEAN wDEFAULTCAPACITY_EMPTY_ELEMENTDATA kwDEFAULTCAPACITY_EMPTY_ELEMENTDATA p0 p1 p2 p3 p4 p5 h0 n0 _ T453.heap _
        rw [K453q]
        exact ⟨rfl, N453⟩
    · skip
      have pre455 : ∀ t, Steps p.tables e below (T435.setTop (mkF m 364 #[(vl p0), .second, (vl p1), .second, (vi p2), (vi p3), (vi p4), (vi p5), (vi k0), (vi k1), (vi k2), (vi 1), (vl r_5), .second, (vl r_6), .second, (vl r_7), .second, (vl r_8), .second, (vl r_9), .second, (vl r_10), .second, (vl f0), .second, (vl f1), .second, (vl f2), .second, (vi 0), .val (.int ((k0 + k1) + k2)), (vl yw), .second, (vr b247), (vr b351), (vr b411), .unset, .unset, .unset] [])) t → Steps p.tables e below (s₁.setTop (entryFrame m #[(.long p0), (.long p1), (.int p2), (.int p3), (.int p4), (.int p5)] maxLocals)) t := by
        intro t k
        refine pre437 t ?_
        rw [hk438]
        exact k
      obtain ⟨cl456, Ar456, qc456, Sz456, Nn456, Ha456, Gg456⟩ := (id V435)
      have hin456 : ¬ ((1 : Int32) < 0 ∨ cl456.slots.size ≤ ((1 : Int32)).toNatClampNeg) := inb_of Sz456 ⟨by decide, by decide⟩
      obtain ⟨T456, h456, X456, e456, W456, st456⟩ := stJ X435 hx hZ e435 Ar456 (j := (1 : Int32)) hin456 (g := (mkF m 370 #[(vl p0), .second, (vl p1), .second, (vi p2), (vi p3), (vi p4), (vi p5), (vi k0), (vi k1), (vi k2), (vi 1), (vl r_5), .second, (vl r_6), .second, (vl r_7), .second, (vl r_8), .second, (vl r_9), .second, (vl r_10), .second, (vl f0), .second, (vl f1), .second, (vl f2), .second, (vi 0), .val (.int ((k0 + k1) + k2)), (vl yw), .second, (vr b247), (vr b351), (vr b411), .unset, .unset, .unset] [(.long yw), (.int 1), (.ref b411)])) rfl rfl (hb hby at_370)
      have O457 : Old Z n0 h456 := O436.wr W456 g427
      have V456 : Arv Z h456 b411 k411 .long (4 : Int32) ([(.long (yw ^^^ (-1 : Int64))), (.long yw), (.long (yw ^^^ (-1 : Int64))), (.long (yw ^^^ (-1 : Int64)))]) (.long 0) := (Arv.set Ar456 qc456 Sz456 Nn456 Ha456 Gg456 (v := (.long yw)) rfl W456 1 rfl (Nat.le_of_ble_eq_true rfl))
      have N456 := Fr.snoc X456 N435 g427
      have f458 : Fld Z h456 b351 s9n "low" "[I" (.ref e1_380) := ((((((p380_1.ext E411).other W429 (Or.inl ne422)).other W431 (Or.inl ne422)).other W433 (Or.inl ne422)).other W435 (Or.inl ne422)).other W456 (Or.inl ne422))
      have f459 : Fld Z h456 b351 s9n "mask" "[J" (.ref e2_380) := ((((((p380_2.ext E411).other W429 (Or.inl ne422)).other W431 (Or.inl ne422)).other W433 (Or.inl ne422)).other W435 (Or.inl ne422)).other W456 (Or.inl ne422))
      have f460 : Fld Z h456 b351 s9n "shift" "[I" (.ref e3_380) := ((((((p380_3.ext E411).other W429 (Or.inl ne422)).other W431 (Or.inl ne422)).other W433 (Or.inl ne422)).other W435 (Or.inl ne422)).other W456 (Or.inl ne422))
      have f461 : Fld Z h456 b351 s9n "word" "[I" (.ref e4_380) := ((((((p380_4.ext E411).other W429 (Or.inl ne422)).other W431 (Or.inl ne422)).other W433 (Or.inl ne422)).other W435 (Or.inl ne422)).other W456 (Or.inl ne422))
      have f462 : Arv Z h456 e1_380 e5_380 .int (3 : Int32) ([(.int yl0), (.int yl1), (.int yl2)]) (.int 0) := ((((((p380_8.ext E411).other W429 ne423).other W431 ne423).other W433 ne423).other W435 ne423).other W456 ne423)
      have f463 : Arv Z h456 e2_380 e6_380 .long (3 : Int32) ([(.long (maskV k0)), (.long (maskV k1)), (.long (maskV k2))]) (.long 0) := ((((((p380_11.ext E411).other W429 ne424).other W431 ne424).other W433 ne424).other W435 ne424).other W456 ne424)
      have f464 : Arv Z h456 e3_380 e7_380 .int (3 : Int32) ([(.int 0), (.int ((0 : Int32) + k0)), (.int (((0 : Int32) + k0) + k1))]) (.int 0) := ((((((p380_14.ext E411).other W429 ne425).other W431 ne425).other W433 ne425).other W435 ne425).other W456 ne425)
      have f465 : Arv Z h456 e4_380 e8_380 .int (3 : Int32) ([(.int 0), (.int 0), (.int 0)]) (.int 0) := ((((((p380_17.ext E411).other W429 ne426).other W431 ne426).other W433 ne426).other W435 ne426).other W456 ne426)
      have f467 : Exa Z h456 b351 s9n := ((((((p380_0.ext E411).wr W429).wr W431).wr W433).wr W435).wr W456)
      obtain ⟨cq466, kq466, q466a, q466b, q466c⟩ := isOf hZ e456 f467
      obtain ⟨_, _, ⟨T466, L466, k466, n466⟩, -, X466, ⟨Lc466, hQ466, l466, y466, z466⟩, st466⟩ := X456.virtualBack hx (y := M24) (z := M24) hown (mvT hZ (ow hw 177 rfl)) (mvT hZ (ow hw 178 rfl)) (notFace_of_selects (args := #[]) (mvT hZ (ow hw 180 rfl))) (mvT hZ (ow hw 180 rfl)) (mvT hZ (ow hw 179 rfl)) (by decide) (backOf (W := 0) (au24_9 l Z a0 hw [] wINTEGER wDOUBLE wBOOLEAN wDEFAULTCAPACITY_EMPTY_ELEMENTDATA kwDEFAULTCAPACITY_EMPTY_ELEMENTDATA hS b351 b411 e1_380 e2_380 e3_380 e4_380 k411 (yw ^^^ (-1 : Int64)) yw e5_380 yl0 yl1 yl2 e6_380 (maskV k0) (maskV k1) (maskV k2) e7_380 ((0 : Int32) + k0) (((0 : Int32) + k0) + k1) e8_380 h456 n0 O457 f458 f459 f460 f461 V456 f462 f463 f464 f465) hZ (ow hw 181 rfl) (ow hw 109 rfl) (by decide) (by decide)) q466a q466c (g := (mkF m 391 #[(vl p0), .second, (vl p1), .second, (vi p2), (vi p3), (vi p4), (vi p5), (vi k0), (vi k1), (vi k2), (vi 1), (vl r_5), .second, (vl r_6), .second, (vl r_7), .second, (vl r_8), .second, (vl r_9), .second, (vl r_10), .second, (vl f0), .second, (vl f1), .second, (vl f2), .second, (vi 0), .val (.int ((k0 + k1) + k2)), (vl yw), .second, (vr b247), (vr b351), (vr b411), .unset, .unset, .unset] [(.int 0), (.int 1), (.ref b411), (.ref b351)])) rfl (by rw [hml]; rfl) (Steps.refl _) (argsL := [(.ref b411), (.int 1), (.int 0)]) (rest := []) (lenOf pd_15 rfl) rfl (by show 2 * 0 + _ ≤ _; exact Nat.le_of_eq rfl) (hb hby at_391) (fun _ _ => ⟨rfl, e456, (by decide : 17 + 0 ≤ _), (by decide : 70 + 0 ≤ _)⟩)
      dsimp only [Pt.U, Pt.locs, Pt.cells, Pt.slots] at X466 l466 y466 z466 st466 hQ466
      subst y466 z466
      obtain ⟨rfl, Nq466, K466q⟩ := hQ466
      have N466 : Fr n0 L466 := (congrArg (Fr n0) l466).mpr (Fr.app N456 Nq466)
      obtain ⟨cq468, kq468, q468a, q468b, q468c⟩ := isOf hZ K466q f467
      obtain ⟨_, _, ⟨T468, L468, k468, n468⟩, -, X468, ⟨Lc468, hQ468, l468, y468, z468⟩, st468⟩ := X466.virtualBack hx (y := M24) (z := M24) hown (mvT hZ (ow hw 177 rfl)) (mvT hZ (ow hw 178 rfl)) (notFace_of_selects (args := #[]) (mvT hZ (ow hw 180 rfl))) (mvT hZ (ow hw 180 rfl)) (mvT hZ (ow hw 179 rfl)) (by decide) (backOf (W := 0) (au24_10 l Z a0 hw [] wINTEGER wDOUBLE wBOOLEAN wDEFAULTCAPACITY_EMPTY_ELEMENTDATA kwDEFAULTCAPACITY_EMPTY_ELEMENTDATA hS b351 b411 e1_380 e2_380 e3_380 e4_380 k411 (yw ^^^ (-1 : Int64)) yw e5_380 yl0 yl1 yl2 e6_380 (maskV k0) (maskV k1) (maskV k2) e7_380 ((0 : Int32) + k0) (((0 : Int32) + k0) + k1) e8_380 h456 n0 O457 f458 f459 f460 f461 V456 f462 f463 f464 f465) hZ (ow hw 181 rfl) (ow hw 109 rfl) (by decide) (by decide)) q468a q468c (g := (mkF m 403 #[(vl p0), .second, (vl p1), .second, (vi p2), (vi p3), (vi p4), (vi p5), (vi k0), (vi k1), (vi k2), (vi 1), (vl r_5), .second, (vl r_6), .second, (vl r_7), .second, (vl r_8), .second, (vl r_9), .second, (vl r_10), .second, (vl f0), .second, (vl f1), .second, (vl f2), .second, (vi 0), .val (.int ((k0 + k1) + k2)), (vl yw), .second, (vr b247), (vr b351), (vr b411), .val (.int (yl0 + ((((yw.toUInt64 >>> ((0 : Int32) &&& 0x3f).toInt64.toUInt64).toInt64) &&& (maskV k0)).toInt32))), .unset, .unset] [(.int 1), (.int 1), (.ref b411), (.ref b351)])) rfl (by rw [hml]; rfl) (Steps.refl _) (argsL := [(.ref b411), (.int 1), (.int 1)]) (rest := []) (lenOf pd_15 rfl) rfl (by show 2 * 0 + _ ≤ _; exact Nat.le_of_eq rfl) (hb hby at_403) (fun _ _ => ⟨rfl, K466q, (by decide : 17 + 0 ≤ _), (by decide : 70 + 0 ≤ _)⟩)
      dsimp only [Pt.U, Pt.locs, Pt.cells, Pt.slots] at X468 l468 y468 z468 st468 hQ468
      subst y468 z468
      obtain ⟨rfl, Nq468, K468q⟩ := hQ468
      have N468 : Fr n0 L468 := (congrArg (Fr n0) l468).mpr (Fr.app N466 Nq468)
      obtain ⟨cq469, kq469, q469a, q469b, q469c⟩ := isOf hZ K468q f467
      obtain ⟨_, _, ⟨T469, L469, k469, n469⟩, -, X469, ⟨Lc469, hQ469, l469, y469, z469⟩, st469⟩ := X468.virtualBack hx (y := M24) (z := M24) hown (mvT hZ (ow hw 177 rfl)) (mvT hZ (ow hw 178 rfl)) (notFace_of_selects (args := #[]) (mvT hZ (ow hw 180 rfl))) (mvT hZ (ow hw 180 rfl)) (mvT hZ (ow hw 179 rfl)) (by decide) (backOf (W := 0) (au24_11 l Z a0 hw [] wINTEGER wDOUBLE wBOOLEAN wDEFAULTCAPACITY_EMPTY_ELEMENTDATA kwDEFAULTCAPACITY_EMPTY_ELEMENTDATA hS b351 b411 e1_380 e2_380 e3_380 e4_380 k411 (yw ^^^ (-1 : Int64)) yw e5_380 yl0 yl1 yl2 e6_380 (maskV k0) (maskV k1) (maskV k2) e7_380 ((0 : Int32) + k0) (((0 : Int32) + k0) + k1) e8_380 h456 n0 O457 f458 f459 f460 f461 V456 f462 f463 f464 f465) hZ (ow hw 181 rfl) (ow hw 109 rfl) (by decide) (by decide)) q469a q469c (g := (mkF m 415 #[(vl p0), .second, (vl p1), .second, (vi p2), (vi p3), (vi p4), (vi p5), (vi k0), (vi k1), (vi k2), (vi 1), (vl r_5), .second, (vl r_6), .second, (vl r_7), .second, (vl r_8), .second, (vl r_9), .second, (vl r_10), .second, (vl f0), .second, (vl f1), .second, (vl f2), .second, (vi 0), .val (.int ((k0 + k1) + k2)), (vl yw), .second, (vr b247), (vr b351), (vr b411), .val (.int (yl0 + ((((yw.toUInt64 >>> ((0 : Int32) &&& 0x3f).toInt64.toUInt64).toInt64) &&& (maskV k0)).toInt32))), .val (.int (yl1 + ((((yw.toUInt64 >>> (((0 : Int32) + k0) &&& 0x3f).toInt64.toUInt64).toInt64) &&& (maskV k1)).toInt32))), .unset] [(.int 2), (.int 1), (.ref b411), (.ref b351)])) rfl (by rw [hml]; rfl) (Steps.refl _) (argsL := [(.ref b411), (.int 1), (.int 2)]) (rest := []) (lenOf pd_15 rfl) rfl (by show 2 * 0 + _ ≤ _; exact Nat.le_of_eq rfl) (hb hby at_415) (fun _ _ => ⟨rfl, K468q, (by decide : 17 + 0 ≤ _), (by decide : 70 + 0 ≤ _)⟩)
      dsimp only [Pt.U, Pt.locs, Pt.cells, Pt.slots] at X469 l469 y469 z469 st469 hQ469
      subst y469 z469
      obtain ⟨rfl, Nq469, K469q⟩ := hQ469
      have N469 : Fr n0 L469 := (congrArg (Fr n0) l469).mpr (Fr.app N468 Nq469)
      have hfin := own_fN hK0 hK1 hK2 p5_0 p6_0 p7_0 hf0 hf1 hf2 p245_0 hyw hsp
      have hk470 : _ ≤ h456.size := (Nat.le_trans (Nat.le_trans (Nat.le_trans (Nat.le_trans (Nat.le_trans (Nat.le_trans (Nat.le_trans (Nat.le_trans (Nat.le_trans (Nat.le_trans hk330 K341q.1) K349q.1) E351.1) K380q.1) E411.1) (Nat.le_of_eq W429.size.symm)) (Nat.le_of_eq W431.size.symm)) (Nat.le_of_eq W433.size.symm)) (Nat.le_of_eq W435.size.symm)) (Nat.le_of_eq W456.size.symm))
      obtain ⟨fs, hr, hrun, hended, hRW⟩ := X469.leaveW hS330 (by rw [K469q]; exact hk470) (v := some (.int 1)) (fun h => by rw [hret0] at h; cases h)
      refine ⟨_, _, pre455 _ ?_, hrun, hended, _, _, rfl, ?_, hRW.1, hRW.2.1, hRW.2.2.1, hRW.2.2.2.mono (by decide) (by decide)⟩
      · skip
        show Steps p.tables e below (T435.setTop (mkF m 364 #[(vl p0), .second, (vl p1), .second, (vi p2), (vi p3), (vi p4), (vi p5), (vi k0), (vi k1), (vi k2), (vi 1), (vl r_5), .second, (vl r_6), .second, (vl r_7), .second, (vl r_8), .second, (vl r_9), .second, (vl r_10), .second, (vl f0), .second, (vl f1), .second, (vl f2), .second, (vi 0), .val (.int ((k0 + k1) + k2)), (vl yw), .second, (vr b247), (vr b351), (vr b411), .unset, .unset, .unset] [])) _
        refine XS.aload X435.here hx rfl (hb hby at_364) rfl rfl ?_
        refine XS.iload X435.here hx rfl (hb hby at_366) rfl ?_
        refine XS.lload X435.here hx rfl (hb hby at_368) rfl ?_
        refine st456 _ ?_
        refine XS.iload X456.here hx rfl (hb hby at_371) rfl ?_
        refine XS.ifYes X456.here hx rfl (pc0 := 373) (pc' := 384) rfl (hb hby at_373) rfl ((if0 _ _).trans (teq (by decide : (0 : Int32) = (0 : Int32))).1) (by decide) (by decide) ?_
        show Steps p.tables e below (T456.setTop (mkF m 384 #[(vl p0), .second, (vl p1), .second, (vi p2), (vi p3), (vi p4), (vi p5), (vi k0), (vi k1), (vi k2), (vi 1), (vl r_5), .second, (vl r_6), .second, (vl r_7), .second, (vl r_8), .second, (vl r_9), .second, (vl r_10), .second, (vl f0), .second, (vl f1), .second, (vl f2), .second, (vi 0), .val (.int ((k0 + k1) + k2)), (vl yw), .second, (vr b247), (vr b351), (vr b411), .unset, .unset, .unset] [])) _
        refine XS.aload X456.here hx rfl (hb hby at_384) rfl rfl ?_
        refine XS.aload X456.here hx rfl (hb hby at_386) rfl rfl ?_
        refine XS.iload X456.here hx rfl (hb hby at_388) rfl ?_
        refine XS.iconst X456.here hx rfl (hb hby at_390) ?_
        refine st466.trans ?_
        refine XS.istore X466.here hx rfl (hb hby at_394) rfl (l' := #[(vl p0), .second, (vl p1), .second, (vi p2), (vi p3), (vi p4), (vi p5), (vi k0), (vi k1), (vi k2), (vi 1), (vl r_5), .second, (vl r_6), .second, (vl r_7), .second, (vl r_8), .second, (vl r_9), .second, (vl r_10), .second, (vl f0), .second, (vl f1), .second, (vl f2), .second, (vi 0), .val (.int ((k0 + k1) + k2)), (vl yw), .second, (vr b247), (vr b351), (vr b411), .val (.int (yl0 + ((((yw.toUInt64 >>> ((0 : Int32) &&& 0x3f).toInt64.toUInt64).toInt64) &&& (maskV k0)).toInt32))), .unset, .unset]) rfl ?_
        show Steps p.tables e below (T466.setTop (mkF m 396 #[(vl p0), .second, (vl p1), .second, (vi p2), (vi p3), (vi p4), (vi p5), (vi k0), (vi k1), (vi k2), (vi 1), (vl r_5), .second, (vl r_6), .second, (vl r_7), .second, (vl r_8), .second, (vl r_9), .second, (vl r_10), .second, (vl f0), .second, (vl f1), .second, (vl f2), .second, (vi 0), .val (.int ((k0 + k1) + k2)), (vl yw), .second, (vr b247), (vr b351), (vr b411), .val (.int (yl0 + ((((yw.toUInt64 >>> ((0 : Int32) &&& 0x3f).toInt64.toUInt64).toInt64) &&& (maskV k0)).toInt32))), .unset, .unset] [])) _
        refine XS.aload X466.here hx rfl (hb hby at_396) rfl rfl ?_
        refine XS.aload X466.here hx rfl (hb hby at_398) rfl rfl ?_
        refine XS.iload X466.here hx rfl (hb hby at_400) rfl ?_
        refine XS.iconst X466.here hx rfl (hb hby at_402) ?_
        refine st468.trans ?_
        refine XS.istore X468.here hx rfl (hb hby at_406) rfl (l' := #[(vl p0), .second, (vl p1), .second, (vi p2), (vi p3), (vi p4), (vi p5), (vi k0), (vi k1), (vi k2), (vi 1), (vl r_5), .second, (vl r_6), .second, (vl r_7), .second, (vl r_8), .second, (vl r_9), .second, (vl r_10), .second, (vl f0), .second, (vl f1), .second, (vl f2), .second, (vi 0), .val (.int ((k0 + k1) + k2)), (vl yw), .second, (vr b247), (vr b351), (vr b411), .val (.int (yl0 + ((((yw.toUInt64 >>> ((0 : Int32) &&& 0x3f).toInt64.toUInt64).toInt64) &&& (maskV k0)).toInt32))), .val (.int (yl1 + ((((yw.toUInt64 >>> (((0 : Int32) + k0) &&& 0x3f).toInt64.toUInt64).toInt64) &&& (maskV k1)).toInt32))), .unset]) rfl ?_
        show Steps p.tables e below (T468.setTop (mkF m 408 #[(vl p0), .second, (vl p1), .second, (vi p2), (vi p3), (vi p4), (vi p5), (vi k0), (vi k1), (vi k2), (vi 1), (vl r_5), .second, (vl r_6), .second, (vl r_7), .second, (vl r_8), .second, (vl r_9), .second, (vl r_10), .second, (vl f0), .second, (vl f1), .second, (vl f2), .second, (vi 0), .val (.int ((k0 + k1) + k2)), (vl yw), .second, (vr b247), (vr b351), (vr b411), .val (.int (yl0 + ((((yw.toUInt64 >>> ((0 : Int32) &&& 0x3f).toInt64.toUInt64).toInt64) &&& (maskV k0)).toInt32))), .val (.int (yl1 + ((((yw.toUInt64 >>> (((0 : Int32) + k0) &&& 0x3f).toInt64.toUInt64).toInt64) &&& (maskV k1)).toInt32))), .unset] [])) _
        refine XS.aload X468.here hx rfl (hb hby at_408) rfl rfl ?_
        refine XS.aload X468.here hx rfl (hb hby at_410) rfl rfl ?_
        refine XS.iload X468.here hx rfl (hb hby at_412) rfl ?_
        refine XS.iconst X468.here hx rfl (hb hby at_414) ?_
        refine st469.trans ?_
        refine XS.istore X469.here hx rfl (hb hby at_418) rfl (l' := #[(vl p0), .second, (vl p1), .second, (vi p2), (vi p3), (vi p4), (vi p5), (vi k0), (vi k1), (vi k2), (vi 1), (vl r_5), .second, (vl r_6), .second, (vl r_7), .second, (vl r_8), .second, (vl r_9), .second, (vl r_10), .second, (vl f0), .second, (vl f1), .second, (vl f2), .second, (vi 0), .val (.int ((k0 + k1) + k2)), (vl yw), .second, (vr b247), (vr b351), (vr b411), .val (.int (yl0 + ((((yw.toUInt64 >>> ((0 : Int32) &&& 0x3f).toInt64.toUInt64).toInt64) &&& (maskV k0)).toInt32))), .val (.int (yl1 + ((((yw.toUInt64 >>> (((0 : Int32) + k0) &&& 0x3f).toInt64.toUInt64).toInt64) &&& (maskV k1)).toInt32))), .val (.int (yl2 + ((((yw.toUInt64 >>> ((((0 : Int32) + k0) + k1) &&& 0x3f).toInt64.toUInt64).toInt64) &&& (maskV k2)).toInt32)))]) rfl ?_
        show Steps p.tables e below (T469.setTop (mkF m 420 #[(vl p0), .second, (vl p1), .second, (vi p2), (vi p3), (vi p4), (vi p5), (vi k0), (vi k1), (vi k2), (vi 1), (vl r_5), .second, (vl r_6), .second, (vl r_7), .second, (vl r_8), .second, (vl r_9), .second, (vl r_10), .second, (vl f0), .second, (vl f1), .second, (vl f2), .second, (vi 0), .val (.int ((k0 + k1) + k2)), (vl yw), .second, (vr b247), (vr b351), (vr b411), .val (.int (yl0 + ((((yw.toUInt64 >>> ((0 : Int32) &&& 0x3f).toInt64.toUInt64).toInt64) &&& (maskV k0)).toInt32))), .val (.int (yl1 + ((((yw.toUInt64 >>> (((0 : Int32) + k0) &&& 0x3f).toInt64.toUInt64).toInt64) &&& (maskV k1)).toInt32))), .val (.int (yl2 + ((((yw.toUInt64 >>> ((((0 : Int32) + k0) + k1) &&& 0x3f).toInt64.toUInt64).toInt64) &&& (maskV k2)).toInt32)))] [])) _
        refine XS.iload X469.here hx rfl (hb hby at_420) rfl ?_
        refine XS.lload X469.here hx rfl (hb hby at_422) rfl ?_
        refine XS.lload X469.here hx rfl (hb hby at_424) rfl ?_
        refine XS.ladd X469.here hx rfl (hb hby at_426) rfl ?_
        refine XS.l2i X469.here hx rfl (hb hby at_427) rfl ?_
        refine XS.icmpNo X469.here hx rfl (hb hby at_428) rfl (teq (by rw [own_sh0, hfin.1, hyl0, own_toI32] : (yl0 + ((((yw.toUInt64 >>> ((0 : Int32) &&& 0x3f).toInt64.toUInt64).toInt64) &&& (maskV k0)).toInt32)) = ((r_8 + f0).toInt32))).2 ?_
        show Steps p.tables e below (T469.setTop (mkF m 431 #[(vl p0), .second, (vl p1), .second, (vi p2), (vi p3), (vi p4), (vi p5), (vi k0), (vi k1), (vi k2), (vi 1), (vl r_5), .second, (vl r_6), .second, (vl r_7), .second, (vl r_8), .second, (vl r_9), .second, (vl r_10), .second, (vl f0), .second, (vl f1), .second, (vl f2), .second, (vi 0), .val (.int ((k0 + k1) + k2)), (vl yw), .second, (vr b247), (vr b351), (vr b411), .val (.int (yl0 + ((((yw.toUInt64 >>> ((0 : Int32) &&& 0x3f).toInt64.toUInt64).toInt64) &&& (maskV k0)).toInt32))), .val (.int (yl1 + ((((yw.toUInt64 >>> (((0 : Int32) + k0) &&& 0x3f).toInt64.toUInt64).toInt64) &&& (maskV k1)).toInt32))), .val (.int (yl2 + ((((yw.toUInt64 >>> ((((0 : Int32) + k0) + k1) &&& 0x3f).toInt64.toUInt64).toInt64) &&& (maskV k2)).toInt32)))] [])) _
        refine XS.iload X469.here hx rfl (hb hby at_431) rfl ?_
        refine XS.lload X469.here hx rfl (hb hby at_433) rfl ?_
        refine XS.lload X469.here hx rfl (hb hby at_435) rfl ?_
        refine XS.ladd X469.here hx rfl (hb hby at_437) rfl ?_
        refine XS.l2i X469.here hx rfl (hb hby at_438) rfl ?_
        refine XS.icmpNo X469.here hx rfl (hb hby at_439) rfl (teq (by rw [hfin.2.1, hyl1, own_toI32] : (yl1 + ((((yw.toUInt64 >>> (((0 : Int32) + k0) &&& 0x3f).toInt64.toUInt64).toInt64) &&& (maskV k1)).toInt32)) = ((r_9 + f1).toInt32))).2 ?_
        show Steps p.tables e below (T469.setTop (mkF m 442 #[(vl p0), .second, (vl p1), .second, (vi p2), (vi p3), (vi p4), (vi p5), (vi k0), (vi k1), (vi k2), (vi 1), (vl r_5), .second, (vl r_6), .second, (vl r_7), .second, (vl r_8), .second, (vl r_9), .second, (vl r_10), .second, (vl f0), .second, (vl f1), .second, (vl f2), .second, (vi 0), .val (.int ((k0 + k1) + k2)), (vl yw), .second, (vr b247), (vr b351), (vr b411), .val (.int (yl0 + ((((yw.toUInt64 >>> ((0 : Int32) &&& 0x3f).toInt64.toUInt64).toInt64) &&& (maskV k0)).toInt32))), .val (.int (yl1 + ((((yw.toUInt64 >>> (((0 : Int32) + k0) &&& 0x3f).toInt64.toUInt64).toInt64) &&& (maskV k1)).toInt32))), .val (.int (yl2 + ((((yw.toUInt64 >>> ((((0 : Int32) + k0) + k1) &&& 0x3f).toInt64.toUInt64).toInt64) &&& (maskV k2)).toInt32)))] [])) _
        refine XS.iload X469.here hx rfl (hb hby at_442) rfl ?_
        refine XS.lload X469.here hx rfl (hb hby at_444) rfl ?_
        refine XS.lload X469.here hx rfl (hb hby at_446) rfl ?_
        refine XS.ladd X469.here hx rfl (hb hby at_448) rfl ?_
        refine XS.l2i X469.here hx rfl (hb hby at_449) rfl ?_
        refine XS.icmpNo X469.here hx rfl (hb hby at_450) rfl (teq (by rw [hfin.2.2, hyl2, own_toI32] : (yl2 + ((((yw.toUInt64 >>> ((((0 : Int32) + k0) + k1) &&& 0x3f).toInt64.toUInt64).toInt64) &&& (maskV k2)).toInt32)) = ((r_10 + f2).toInt32))).2 ?_
        show Steps p.tables e below (T469.setTop (mkF m 453 #[(vl p0), .second, (vl p1), .second, (vi p2), (vi p3), (vi p4), (vi p5), (vi k0), (vi k1), (vi k2), (vi 1), (vl r_5), .second, (vl r_6), .second, (vl r_7), .second, (vl r_8), .second, (vl r_9), .second, (vl r_10), .second, (vl f0), .second, (vl f1), .second, (vl f2), .second, (vi 0), .val (.int ((k0 + k1) + k2)), (vl yw), .second, (vr b247), (vr b351), (vr b411), .val (.int (yl0 + ((((yw.toUInt64 >>> ((0 : Int32) &&& 0x3f).toInt64.toUInt64).toInt64) &&& (maskV k0)).toInt32))), .val (.int (yl1 + ((((yw.toUInt64 >>> (((0 : Int32) + k0) &&& 0x3f).toInt64.toUInt64).toInt64) &&& (maskV k1)).toInt32))), .val (.int (yl2 + ((((yw.toUInt64 >>> ((((0 : Int32) + k0) + k1) &&& 0x3f).toInt64.toUInt64).toInt64) &&& (maskV k2)).toInt32)))] [])) _
        refine XS.iconst X469.here hx rfl (hb hby at_453) ?_
        refine XS.goto X469.here hx rfl (pc0 := 454) (pc' := 458) rfl (hb hby at_454) (by decide) (by decide) ?_
        exact retN X469 hx (t := .boolean) hret0 (by simp) (hb hby at_458) hr
      · show Q_rm0 Z wINTEGER wDOUBLE wBOOLEAN wDEFAULTCAPACITY_EMPTY_ELEMENTDATA kwDEFAULTCAPACITY_EMPTY_ELEMENTDATA p0 p1 p2 p3 p4 p5 h0 n0 _ T469.heap _
        rw [K469q]
        exact ⟨rfl, N469⟩
theorem comes_1 {Post : Tables → Env → Array Value → State → Outcome → State → Prop} (hpost : ∀ tb e args s v u, (limb_1_1.after args s (.returned v) u = true ∧ limb_1_2.after args s (.returned v) u = true ∧ True) → ReturnedEndW s (.returned v) u (Jvm.fieldLocs frame_1_writes args s ++ Jvm.arrayLocs frame_1_arrays args s ++ Jvm.staticLocs frame_1_statics s) 40 3264 → Post tb e args s (.returned v) u) :
    ArmFor flags0 classFile x code maxLocals ret World_1 tables_1 room_1 Calls_1 rest_1 Pre_1 Post := by
  intro l hfl _ _ p e ha hc hk s m args below hf hA hF happ hP
  obtain ⟨hcalls, hrest, hpre⟩ := hP
  obtain ⟨-, -, -, hnamed, -, -, -, hat⟩ := (Spec.applies_iff hf).mp happ
  obtain ⟨hg, hn⟩ := and_e (Cond.before_iff.mp (show (Jvm.Cond.and given_1 narrow_1).before args s = true from hpre))
  obtain ⟨g1, g2⟩ := and_e hg
  obtain ⟨g3, g4⟩ := and_e g2
  obtain ⟨g5, g6⟩ := and_e g4
  obtain ⟨g7, g8⟩ := and_e g6
  obtain ⟨g9, g10⟩ := and_e g8
  obtain ⟨g11, g12⟩ := and_e g10
  obtain ⟨w0, w1, w2, w3, w4, w5, rfl⟩ : ∃ w0 w1 w2 w3 w4 w5 : Value, args = #[w0, w1, w2, w3, w4, w5] := by
    have hs : args.size = 6 := by simpa [Cond.value, given_1] using g1
    obtain ⟨L⟩ := args
    match L, hs with
    | [w0, w1, w2, w3, w4, w5], _ => exact ⟨w0, w1, w2, w3, w4, w5, rfl⟩
  have hw := fun d (hd : d ∈ tables_1) => atoms_spec (ws := Jvm.Cond.code x code maxLocals ret :: tables_1) hat d (List.mem_cons_of_mem _ hd)
  have hfit : Fit s := fun {y c} hc i hi => by
    obtain ⟨ha, rfl⟩ := Array.getElem?_eq_some_iff.mp hc
    have q := List.all_eq_true.mp ((Array.all_eq_true_iff_forall_mem.mp hF) _ (Array.getElem_mem ha)) i (List.mem_range.mpr hi)
    simpa [Array.getElem?_eq_getElem hi] using q
  obtain ⟨hsets, hown0⟩ := atoms_of _ (rest_1_c_eq ▸ (show rest_1_c.before _ s = true from hrest))
  have hr0 := Cond.before_iff.mp hown0
  obtain ⟨i0, ei0⟩ := isL_v g3
  obtain rfl : w0 = (.long i0) := Option.some.inj ei0
  obtain ⟨i1, ei1⟩ := isL_v g5
  obtain rfl : w1 = (.long i1) := Option.some.inj ei1
  obtain ⟨i2, ei2⟩ := is_v g7
  obtain rfl : w2 = (.int i2) := Option.some.inj ei2
  obtain ⟨i3, ei3⟩ := is_v g9
  obtain rfl : w3 = (.int i3) := Option.some.inj ei3
  obtain ⟨i4, ei4⟩ := is_v g11
  obtain rfl : w4 = (.int i4) := Option.some.inj ei4
  obtain ⟨i5, ei5⟩ := is_v g12
  obtain rfl : w5 = (.int i5) := Option.some.inj ei5
  obtain ⟨g13, g14⟩ := and_e hn
  obtain ⟨g15, g16⟩ := and_e g14
  obtain ⟨g17, g18⟩ := and_e g16
  obtain ⟨g19, g20⟩ := and_e g18
  obtain ⟨g21, g22⟩ := and_e g20
  obtain ⟨wINTEGER, ev_wINTEGER⟩ := exa_v g13
  have S_wINTEGER := Sta.start ev_wINTEGER (Or.inr ⟨(ow hw 48 rfl), (ow hw 49 rfl)⟩)
  have E_wINTEGER := Exa.start ev_wINTEGER g13
  obtain ⟨wDOUBLE, ev_wDOUBLE⟩ := exa_v g15
  have S_wDOUBLE := Sta.start ev_wDOUBLE (Or.inr ⟨(ow hw 48 rfl), (ow hw 60 rfl)⟩)
  have E_wDOUBLE := Exa.start ev_wDOUBLE g15
  obtain ⟨wBOOLEAN, ev_wBOOLEAN⟩ := exa_v g21
  have S_wBOOLEAN := Sta.start ev_wBOOLEAN (Or.inr ⟨(ow hw 48 rfl), (ow hw 62 rfl)⟩)
  have E_wBOOLEAN := Exa.start ev_wBOOLEAN g21
  have F_ordinal_wINTEGER := Fld.start ((fld_at ev_wINTEGER).symm.trans (own_eq_int g17))
  have F_ordinal_wDOUBLE := Fld.start ((fld_at ev_wDOUBLE).symm.trans (own_eq_int g19))
  have F_ordinal_wBOOLEAN := Fld.start ((fld_at ev_wBOOLEAN).symm.trans (own_eq_int g22))
  have hx_wDEFAULTCAPACITY_EMPTY_ELEMENTDATA := Cond.before_iff.mp (hsets _ (List.mem_of_getElem? (i := 7) rfl))
  obtain ⟨wDEFAULTCAPACITY_EMPTY_ELEMENTDATA, ev_wDEFAULTCAPACITY_EMPTY_ELEMENTDATA⟩ := exa_v hx_wDEFAULTCAPACITY_EMPTY_ELEMENTDATA
  have S_wDEFAULTCAPACITY_EMPTY_ELEMENTDATA := Sta.start ev_wDEFAULTCAPACITY_EMPTY_ELEMENTDATA (Or.inr ⟨(ow hw 12 rfl), (hsets _ (List.mem_of_getElem? (i := 2) rfl))⟩)
  have E_wDEFAULTCAPACITY_EMPTY_ELEMENTDATA := Exa.start ev_wDEFAULTCAPACITY_EMPTY_ELEMENTDATA hx_wDEFAULTCAPACITY_EMPTY_ELEMENTDATA
  obtain ⟨c_wDEFAULTCAPACITY_EMPTY_ELEMENTDATA, A_wDEFAULTCAPACITY_EMPTY_ELEMENTDATA⟩ := Arr.start ev_wDEFAULTCAPACITY_EMPTY_ELEMENTDATA (Cond.before_iff.mp (hsets _ (List.mem_of_getElem? (i := 6) rfl)))
  obtain ⟨sz_wDEFAULTCAPACITY_EMPTY_ELEMENTDATA, ln_wDEFAULTCAPACITY_EMPTY_ELEMENTDATA⟩ := Jvm.Free.IntBox.length_fwd (hsets _ (List.mem_of_getElem? (i := 8) rfl)) ev_wDEFAULTCAPACITY_EMPTY_ELEMENTDATA A_wDEFAULTCAPACITY_EMPTY_ELEMENTDATA.1 A_wDEFAULTCAPACITY_EMPTY_ELEMENTDATA.2.1 A_wDEFAULTCAPACITY_EMPTY_ELEMENTDATA.2.2
  obtain ⟨kwDEFAULTCAPACITY_EMPTY_ELEMENTDATA, hk_kwDEFAULTCAPACITY_EMPTY_ELEMENTDATA⟩ : ∃ z, z = c_wDEFAULTCAPACITY_EMPTY_ELEMENTDATA.cls := ⟨_, rfl⟩
  have V_wDEFAULTCAPACITY_EMPTY_ELEMENTDATA : Arv s s.heap wDEFAULTCAPACITY_EMPTY_ELEMENTDATA kwDEFAULTCAPACITY_EMPTY_ELEMENTDATA (.object s4n) (0 : Int32) [] .null := hk_kwDEFAULTCAPACITY_EMPTY_ELEMENTDATA ▸ Arv.start hfit A_wDEFAULTCAPACITY_EMPTY_ELEMENTDATA sz_wDEFAULTCAPACITY_EMPTY_ELEMENTDATA ln_wDEFAULTCAPACITY_EMPTY_ELEMENTDATA (by decide) (by decide) trivial
  have hS : SS s wINTEGER wDOUBLE wBOOLEAN wDEFAULTCAPACITY_EMPTY_ELEMENTDATA kwDEFAULTCAPACITY_EMPTY_ELEMENTDATA := ⟨S_wINTEGER, E_wINTEGER, S_wDOUBLE, E_wDOUBLE, S_wBOOLEAN, E_wBOOLEAN, F_ordinal_wINTEGER, F_ordinal_wDOUBLE, F_ordinal_wBOOLEAN, S_wDEFAULTCAPACITY_EMPTY_ELEMENTDATA, E_wDEFAULTCAPACITY_EMPTY_ELEMENTDATA, V_wDEFAULTCAPACITY_EMPTY_ELEMENTDATA⟩
  obtain ⟨n, o, h1, h2, h3, _, L, rfl, ⟨rfl, N⟩, hq⟩ := rm0 l s _ hw tables_1 wINTEGER wDOUBLE wBOOLEAN wDEFAULTCAPACITY_EMPTY_ELEMENTDATA kwDEFAULTCAPACITY_EMPTY_ELEMENTDATA hS i0 i1 i2 i3 i4 i5 s.heap s.heap.size (Old.start s)  p e ha hc hk s m _ below hf ((Spec.applies_iff_loose hf).mp happ).1 ⟨rfl, State.Warmed39.refl s, rfl⟩ trivial
  refine ⟨n, _, h1, h2, h3, hpost _ _ _ _ _ _ ⟨Cond.after_iff.mpr rfl, Cond.after_iff.mpr (eq_i res_at (Term.int_eval (1)) rfl), trivial⟩ ⟨hq.1, hq.2.1, hq.2.2.1, (hq.2.2.2.sift fun y hy => Or.inr (N y hy)).mono (by decide) (by decide)⟩⟩
theorem main_1_1 : Claimed_1_1 := comes_1 fun _ _ _ _ _ _ h hF => ⟨h.1, hF⟩
theorem main_1_2 : Claimed_1_2 := comes_1 fun _ _ _ _ _ _ h hF => ⟨h.2.1, hF⟩
end Jvm.Pilot.@@N@@
namespace Jvm.Pilot.@@N@@
open Jvm Jvm.ClassFile Sem Op Lib Jvm.Free Jvm.Stand Jvm.Pilot.@@N@@.Jvm.D
/-! MADE BY PROGRAM (witnessworld.py) out of the Statement's table words and the real class files: 35 classes; the members and pool entries that the words name. The judged class is class 1, her method 1. -/
namespace start1
open Jvm.ClassFile
def u (s : String) : CpInfo := .utf8 (stringToUtf16 s)
/-- a pool by its gaps: so many unusable entries, then the entry; so many at the end -/
def gap : Nat → List CpInfo → List CpInfo
  | 0, r => r
  | n + 1, r => .unusable :: gap n r
def poolList (es : List (Nat × CpInfo)) (last : Nat) : List CpInfo := es.foldr (fun e r => gap e.1 (e.2 :: r)) (gap last [])
def pool (es : List (Nat × CpInfo)) (last : Nat) : Array CpInfo := ⟨poolList es last⟩
def fileOf (pool : Array CpInfo) (this : Nat) (attrs : Array Attribute := #[]) (ms : Array MethodInfo := #[]) (fl : Nat := 33) (sup : Nat := 0) (ifs : Array Nat := #[]) (fds : Array FieldInfo := #[]) : ClassFile where
  minorVersion := 0
  majorVersion := 65
  constantPool := pool
  accessFlags := fl
  thisClass := this
  superClass := sup
  interfaces := ifs
  fields := fds
  methods := ms
  attributes := attrs
def plain (name : String) (sup : Option ClassId) : Class where
  name := name
  kind := .ordinary
  loader := none
  accessFlags := 33
  super := sup
  interfaces := #[]
  cf := none
  fields := #[]
  methods := #[]
  instanceTypes := #[]
  staticTypes := #[]
  resolved := #[]
  callSites := []
  init := .initialized
  statics := none
  mirror := none

def pool0 : Array CpInfo := pool [(5, u "<init>"), (0, u "()V"), (1, .class_ 10), (1, u "java/lang/Object")] 113

def k0c0 : Code := { maxStack := 0, maxLocals := 1, code := object_method_1_code, exceptionTable := #[], attributes := #[] }
def k0m0 : Method := { name := "<init>", desc := "()V", sig := { parameters := [], returnType := none }, accessFlags := 1, code := some k0c0 }
/-- java/lang/Object -/
def k0 : Class := { plain "java/lang/Object" none with
  accessFlags := 33
  interfaces := #[]
  cf := some (fileOf pool0 8 #[] #[{ accessFlags := 1, nameIndex := 5, descriptorIndex := 6, attributes := #[] }] 33 0 #[] #[])
  fields := #[]
  methods := #[k0m0]
  instanceTypes := #[]
  staticTypes := #[]
  resolved := Array.replicate 124 none
  statics := none }

def pool1 : Array CpInfo := pool [(2, .class_ 4), (0, .nameAndType 5 6), (0, u "java/lang/Object"), (0, u "<init>"), (0, u "()V"), (0, .methodref 8 9), (0, .class_ 10), (0, .nameAndType 11 12), (0, u "com/example/lanc/lanc/model/VariableLayoutValuePinLaw"), (0, u "ones"), (0, u "(I)J"), (2, .long 2147483647), (1, .methodref 18 19), (0, .class_ 20), (0, .nameAndType 21 22), (0, u "java/lang/Math"), (0, u "min"), (0, u "(JJ)J"), (0, .long 18446744073709551615), (1, .class_ 26), (0, u "java/util/ArrayList"), (0, .methodref 25 3), (0, .class_ 29), (0, u "com/example/lanc/lanc/model/StateValuations$Variable"), (0, .string 31), (0, u "a"), (0, .fieldref 33 34), (0, .class_ 35), (0, .nameAndType 36 37), (0, u "com/example/lanc/lanc/expression/Type"), (0, u "INTEGER"), (0, u "Lcom/example/lanc/lanc/expression/Type;"), (0, .methodref 28 39), (0, .nameAndType 5 40), (0, u "(Ljava/lang/String;Lcom/example/lanc/lanc/expression/Type;II)V"), (0, .interfaceMethodref 42 43), (0, .class_ 44), (0, .nameAndType 45 46), (0, u "java/util/List"), (0, u "add"), (0, u "(Ljava/lang/Object;)Z"), (0, .string 48), (0, u "b"), (0, .string 50), (0, u "c"), (0, .class_ 52), (0, u "com/example/lanc/lanc/model/VariableLayout"), (0, .methodref 51 54), (0, .nameAndType 5 55), (0, u "(Ljava/util/List;)V"), (0, .methodref 51 57), (0, .nameAndType 58 59), (0, u "value"), (0, u "([JII)I"), (2, u "law"), (0, u "(JJIIII)Z")] 9

def k1m0 : Method := { name := "<init>", desc := "()V", sig := { parameters := [], returnType := none }, accessFlags := 1, code := none }
def k1c1 : Code := { maxStack := 10, maxLocals := 40, code := code, exceptionTable := #[], attributes := #[] }
def k1m1 : Method := { name := "law", desc := "(JJIIII)Z", sig := { parameters := [.long, .long, .int, .int, .int, .int], returnType := some .boolean }, accessFlags := 9, code := some k1c1 }
def k1c2 : Code := { maxStack := 4, maxLocals := 1, code := method_3_code, exceptionTable := #[], attributes := #[] }
def k1m2 : Method := { name := "ones", desc := "(I)J", sig := { parameters := [.int], returnType := some .long }, accessFlags := 10, code := some k1c2 }
/-- com/example/lanc/lanc/model/VariableLayoutValuePinLaw -/
def k1 : Class := { plain "com/example/lanc/lanc/model/VariableLayoutValuePinLaw" (some 0) with
  accessFlags := 49
  interfaces := #[]
  cf := some (fileOf pool1 8 #[] #[{ accessFlags := 1, nameIndex := 5, descriptorIndex := 6, attributes := #[] }, { accessFlags := 9, nameIndex := 62, descriptorIndex := 63, attributes := #[] }, { accessFlags := 10, nameIndex := 11, descriptorIndex := 12, attributes := #[] }] 49 2 #[] #[])
  fields := #[]
  methods := #[k1m0, k1m1, k1m2]
  instanceTypes := #[]
  staticTypes := #[]
  resolved := Array.replicate 73 none
  statics := none }

def pool2 : Array CpInfo := pool [(1, .class_ 2), (0, u "java/lang/Math"), (1, .class_ 6), (1, u "java/lang/Object"), (0, u "<init>"), (0, u "()V"), (89, .class_ 100), (1, u "java/lang/Math$RandomNumberGeneratorHolder"), (20, u "(JJ)J"), (50, u "negativeZeroFloatBits"), (0, u "J"), (2, u "negativeZeroDoubleBits"), (21, u "max"), (2, u "min"), (43, u "$assertionsDisabled"), (0, u "Z"), (88, u "(II)I"), (2, u "twoToTheDoubleScaleDown"), (0, u "D"), (4, u "twoToTheDoubleScaleUp"), (9, u "E"), (3, u "PI"), (2, u "TAU"), (2, u "DEGREES_TO_RADIANS"), (0, u "RADIANS_TO_DEGREES")] 94

def k2m0 : Method := { name := "<init>", desc := "()V", sig := { parameters := [], returnType := none }, accessFlags := 2, code := none }
def k2c1 : Code := { maxStack := 2, maxLocals := 2, code := jdk_29_method_65_code, exceptionTable := #[], attributes := #[] }
def k2m1 : Method := { name := "max", desc := "(II)I", sig := { parameters := [.int, .int], returnType := some .int }, accessFlags := 9, code := some k2c1 }
def k2c2 : Code := { maxStack := 4, maxLocals := 4, code := jdk_29_method_70_code, exceptionTable := #[], attributes := #[] }
def k2m2 : Method := { name := "min", desc := "(JJ)J", sig := { parameters := [.long, .long], returnType := some .long }, accessFlags := 9, code := some k2c2 }
/-- java/lang/Math -/
def k2 : Class := { plain "java/lang/Math" (some 0) with
  accessFlags := 49
  interfaces := #[]
  cf := some (fileOf pool2 1 #[.nestMembers #[98]] #[{ accessFlags := 2, nameIndex := 7, descriptorIndex := 8, attributes := #[] }, { accessFlags := 9, nameIndex := 198, descriptorIndex := 335, attributes := #[] }, { accessFlags := 9, nameIndex := 201, descriptorIndex := 121, attributes := #[] }] 49 4 #[] #[{ accessFlags := 25, nameIndex := 354, descriptorIndex := 339, attributes := #[] }, { accessFlags := 25, nameIndex := 358, descriptorIndex := 339, attributes := #[] }, { accessFlags := 25, nameIndex := 361, descriptorIndex := 339, attributes := #[] }, { accessFlags := 26, nameIndex := 364, descriptorIndex := 339, attributes := #[] }, { accessFlags := 26, nameIndex := 365, descriptorIndex := 339, attributes := #[] }, { accessFlags := 26, nameIndex := 172, descriptorIndex := 173, attributes := #[] }, { accessFlags := 26, nameIndex := 176, descriptorIndex := 173, attributes := #[] }, { accessFlags := 8, nameIndex := 344, descriptorIndex := 339, attributes := #[] }, { accessFlags := 8, nameIndex := 338, descriptorIndex := 339, attributes := #[] }, { accessFlags := 4120, nameIndex := 245, descriptorIndex := 246, attributes := #[] }])
  fields := #[{ name := "E", type := .double, accessFlags := 25, slot := 0, constantValue := 0 }, { name := "PI", type := .double, accessFlags := 25, slot := 1, constantValue := 0 }, { name := "TAU", type := .double, accessFlags := 25, slot := 2, constantValue := 0 }, { name := "DEGREES_TO_RADIANS", type := .double, accessFlags := 26, slot := 3, constantValue := 0 }, { name := "RADIANS_TO_DEGREES", type := .double, accessFlags := 26, slot := 4, constantValue := 0 }, { name := "negativeZeroFloatBits", type := .long, accessFlags := 26, slot := 5, constantValue := 0 }, { name := "negativeZeroDoubleBits", type := .long, accessFlags := 26, slot := 6, constantValue := 0 }, { name := "twoToTheDoubleScaleUp", type := .double, accessFlags := 8, slot := 7, constantValue := 0 }, { name := "twoToTheDoubleScaleDown", type := .double, accessFlags := 8, slot := 8, constantValue := 0 }, { name := "$assertionsDisabled", type := .boolean, accessFlags := 4120, slot := 9, constantValue := 0 }]
  methods := #[k2m0, k2m1, k2m2]
  instanceTypes := #[]
  staticTypes := #[.double, .double, .double, .double, .double, .long, .long, .double, .double, .boolean]
  resolved := Array.replicate 460 none
  statics := none }

def pool3 : Array CpInfo := pool [(8, .class_ 10), (1, u "java/lang/Iterable"), (24, .class_ 36), (0, u "java/lang/Object")] 25

/-- java/lang/Iterable -/
def k3 : Class := { plain "java/lang/Iterable" (some 0) with
  accessFlags := 1537
  interfaces := #[]
  cf := some (fileOf pool3 8 #[] #[] 1537 35 #[] #[])
  fields := #[]
  methods := #[]
  instanceTypes := #[]
  staticTypes := #[]
  resolved := Array.replicate 62 none
  statics := none }

def pool4 : Array CpInfo := pool [(10, .class_ 12), (1, u "java/util/Collection"), (47, .class_ 61), (0, u "java/lang/Object"), (0, .class_ 63), (0, u "java/lang/Iterable")] 51

/-- java/util/Collection -/
def k4 : Class := { plain "java/util/Collection" (some 0) with
  accessFlags := 1537
  interfaces := #[3]
  cf := some (fileOf pool4 10 #[] #[] 1537 60 #[62] #[])
  fields := #[]
  methods := #[]
  instanceTypes := #[]
  staticTypes := #[]
  resolved := Array.replicate 115 none
  statics := none }

def pool5 : Array CpInfo := pool [(1, .methodref 2 3), (0, .class_ 4), (0, .nameAndType 5 6), (0, u "java/lang/Object"), (0, u "<init>"), (0, u "()V"), (1, .class_ 10), (1, u "java/util/AbstractCollection"), (66, .class_ 78), (0, u "java/util/Collection")] 81

def k5c0 : Code := { maxStack := 1, maxLocals := 1, code := jdk_22_method_1_code, exceptionTable := #[], attributes := #[] }
def k5m0 : Method := { name := "<init>", desc := "()V", sig := { parameters := [], returnType := none }, accessFlags := 4, code := some k5c0 }
/-- java/util/AbstractCollection -/
def k5 : Class := { plain "java/util/AbstractCollection" (some 0) with
  accessFlags := 1057
  interfaces := #[4]
  cf := some (fileOf pool5 8 #[] #[{ accessFlags := 4, nameIndex := 5, descriptorIndex := 6, attributes := #[] }] 1057 2 #[77] #[])
  fields := #[]
  methods := #[k5m0]
  instanceTypes := #[]
  staticTypes := #[]
  resolved := Array.replicate 160 none
  statics := none }

def pool6 : Array CpInfo := pool [(8, .class_ 10), (1, u "java/util/SequencedCollection"), (15, .class_ 27), (0, u "java/lang/Object"), (0, .class_ 29), (0, u "java/util/Collection")] 27

/-- java/util/SequencedCollection -/
def k6 : Class := { plain "java/util/SequencedCollection" (some 0) with
  accessFlags := 1537
  interfaces := #[4]
  cf := some (fileOf pool6 8 #[] #[] 1537 26 #[28] #[])
  fields := #[]
  methods := #[]
  instanceTypes := #[]
  staticTypes := #[]
  resolved := Array.replicate 57 none
  statics := none }

def pool7 : Array CpInfo := pool [(8, .class_ 10), (1, u "java/util/List"), (49, u "add"), (3, u "(Ljava/lang/Object;)Z"), (10, u "get"), (0, u "(I)Ljava/lang/Object;"), (2, u "size"), (0, u "()I"), (22, .class_ 104), (0, u "java/lang/Object"), (15, .class_ 121), (0, u "java/util/SequencedCollection")] 129

def k7m0 : Method := { name := "size", desc := "()I", sig := { parameters := [], returnType := some .int }, accessFlags := 1025, code := none }
def k7m1 : Method := { name := "add", desc := "(Ljava/lang/Object;)Z", sig := { parameters := [(.object "java/lang/Object")], returnType := some .boolean }, accessFlags := 1025, code := none }
def k7m2 : Method := { name := "get", desc := "(I)Ljava/lang/Object;", sig := { parameters := [.int], returnType := some (.object "java/lang/Object") }, accessFlags := 1025, code := none }
/-- java/util/List -/
def k7 : Class := { plain "java/util/List" (some 0) with
  accessFlags := 1537
  interfaces := #[6]
  cf := some (fileOf pool7 8 #[] #[{ accessFlags := 1025, nameIndex := 79, descriptorIndex := 80, attributes := #[] }, { accessFlags := 1025, nameIndex := 60, descriptorIndex := 64, attributes := #[] }, { accessFlags := 1025, nameIndex := 75, descriptorIndex := 76, attributes := #[] }] 1537 103 #[120] #[])
  fields := #[]
  methods := #[k7m0, k7m1, k7m2]
  instanceTypes := #[]
  staticTypes := #[]
  resolved := Array.replicate 251 none
  statics := none }

def pool8 : Array CpInfo := pool [(1, .methodref 2 3), (0, .class_ 4), (0, .nameAndType 5 6), (0, u "java/util/AbstractCollection"), (0, u "<init>"), (0, u "()V"), (0, .fieldref 8 9), (0, .class_ 10), (0, .nameAndType 11 12), (0, u "java/util/AbstractList"), (0, u "modCount"), (0, u "I"), (64, .class_ 78), (0, u "java/util/AbstractList$Itr"), (3, .class_ 83), (0, u "java/util/AbstractList$ListItr"), (9, .class_ 94), (0, u "java/util/AbstractList$RandomAccessSubList"), (3, .class_ 99), (0, u "java/util/AbstractList$SubList"), (33, .class_ 134), (0, u "java/util/List"), (73, .class_ 209), (0, u "java/util/AbstractList$SubList$1"), (0, .class_ 211), (0, u "java/util/AbstractList$RandomAccessSpliterator")] 6

def k8c0 : Code := { maxStack := 2, maxLocals := 1, code := jdk_39_method_1_code, exceptionTable := #[], attributes := #[] }
def k8m0 : Method := { name := "<init>", desc := "()V", sig := { parameters := [], returnType := none }, accessFlags := 4, code := some k8c0 }
/-- java/util/AbstractList -/
def k8 : Class := { plain "java/util/AbstractList" (some 5) with
  accessFlags := 1057
  interfaces := #[7]
  cf := some (fileOf pool8 8 #[.nestMembers #[93, 98, 208, 210, 82, 77]] #[{ accessFlags := 4, nameIndex := 5, descriptorIndex := 6, attributes := #[] }] 1057 2 #[133] #[{ accessFlags := 132, nameIndex := 11, descriptorIndex := 12, attributes := #[] }])
  fields := #[{ name := "modCount", type := .int, accessFlags := 132, slot := 0, constantValue := 0 }]
  methods := #[k8m0]
  instanceTypes := #[.int]
  staticTypes := #[]
  resolved := Array.replicate 218 none
  statics := none }

def pool9 : Array CpInfo := pool [(1, .class_ 2), (0, u "java/util/RandomAccess"), (0, .class_ 4), (0, u "java/lang/Object")] 2

/-- java/util/RandomAccess -/
def k9 : Class := { plain "java/util/RandomAccess" (some 0) with
  accessFlags := 1537
  interfaces := #[]
  cf := some (fileOf pool9 1 #[] #[] 1537 3 #[] #[])
  fields := #[]
  methods := #[]
  instanceTypes := #[]
  staticTypes := #[]
  resolved := Array.replicate 7 none
  statics := none }

def pool10 : Array CpInfo := pool [(1, .class_ 2), (0, u "java/lang/Cloneable"), (0, .class_ 4), (0, u "java/lang/Object")] 2

/-- java/lang/Cloneable -/
def k10 : Class := { plain "java/lang/Cloneable" (some 0) with
  accessFlags := 1537
  interfaces := #[]
  cf := some (fileOf pool10 1 #[] #[] 1537 3 #[] #[])
  fields := #[]
  methods := #[]
  instanceTypes := #[]
  staticTypes := #[]
  resolved := Array.replicate 7 none
  statics := none }

def pool11 : Array CpInfo := pool [(1, .class_ 2), (0, u "java/io/Serializable"), (0, .class_ 4), (0, u "java/lang/Object")] 2

/-- java/io/Serializable -/
def k11 : Class := { plain "java/io/Serializable" (some 0) with
  accessFlags := 1537
  interfaces := #[]
  cf := some (fileOf pool11 1 #[] #[] 1537 3 #[] #[])
  fields := #[]
  methods := #[]
  instanceTypes := #[]
  staticTypes := #[]
  resolved := Array.replicate 7 none
  statics := none }

def pool12 : Array CpInfo := pool [(1, .methodref 2 3), (0, .class_ 4), (0, .nameAndType 5 6), (0, u "java/util/AbstractList"), (0, u "<init>"), (0, u "()V"), (0, .class_ 8), (0, u "java/lang/Object"), (0, .fieldref 10 11), (0, .class_ 12), (0, .nameAndType 13 14), (0, u "java/util/ArrayList"), (0, u "elementData"), (0, u "[Ljava/lang/Object;"), (2, u "EMPTY_ELEMENTDATA"), (21, .fieldref 10 40), (0, .nameAndType 41 14), (0, u "DEFAULTCAPACITY_EMPTY_ELEMENTDATA"), (5, u "()[Ljava/lang/Object;"), (0, .fieldref 10 49), (0, .nameAndType 50 51), (0, u "size"), (0, u "I"), (11, .fieldref 10 64), (0, .nameAndType 65 51), (0, u "modCount"), (3, .methodref 10 70), (0, .nameAndType 71 72), (0, u "grow"), (0, u "(I)[Ljava/lang/Object;"), (6, .methodref 80 81), (0, .class_ 82), (0, .nameAndType 83 84), (0, u "java/lang/Math"), (0, u "max"), (0, u "(II)I"), (11, u "(Ljava/lang/Object;)Z"), (21, .methodref 119 120), (0, .class_ 121), (0, .nameAndType 122 84), (0, u "java/util/Objects"), (0, u "checkIndex"), (0, .methodref 10 124), (0, .nameAndType 13 125), (0, u "(I)Ljava/lang/Object;"), (3, .methodref 10 130), (0, .nameAndType 71 47), (0, .methodref 10 132), (0, .nameAndType 133 134), (0, u "add"), (0, u "(Ljava/lang/Object;[Ljava/lang/Object;I)V"), (13, .class_ 149), (0, u "java/util/List"), (36, u "()I"), (75, .class_ 263), (0, u "java/util/ArrayList$ListItr"), (3, .class_ 268), (0, u "java/util/ArrayList$Itr"), (7, .class_ 277), (0, u "java/util/ArrayList$SubList"), (12, .class_ 291), (0, u "java/util/ArrayList$ArrayListSpliterator"), (37, .class_ 330), (0, u "java/util/RandomAccess"), (0, .class_ 332), (0, u "java/lang/Cloneable"), (0, .class_ 334), (0, u "java/io/Serializable"), (0, u "serialVersionUID"), (0, u "J"), (3, u "DEFAULT_CAPACITY"), (40, u "get"), (118, .class_ 501), (0, u "java/util/ArrayList$SubList$2"), (0, .class_ 503), (0, u "java/util/ArrayList$SubList$1")] 5

def k12c0 : Code := { maxStack := 2, maxLocals := 1, code := jdk_38_method_2_code, exceptionTable := #[], attributes := #[] }
def k12m0 : Method := { name := "<init>", desc := "()V", sig := { parameters := [], returnType := none }, accessFlags := 1, code := some k12c0 }
def k12c1 : Code := { maxStack := 4, maxLocals := 4, code := jdk_38_method_6_code, exceptionTable := #[], attributes := #[] }
def k12m1 : Method := { name := "grow", desc := "(I)[Ljava/lang/Object;", sig := { parameters := [.int], returnType := some (.array (.object "java/lang/Object")) }, accessFlags := 2, code := some k12c1 }
def k12c2 : Code := { maxStack := 3, maxLocals := 1, code := jdk_38_method_7_code, exceptionTable := #[], attributes := #[] }
def k12m2 : Method := { name := "grow", desc := "()[Ljava/lang/Object;", sig := { parameters := [], returnType := some (.array (.object "java/lang/Object")) }, accessFlags := 2, code := some k12c2 }
def k12c3 : Code := { maxStack := 1, maxLocals := 1, code := jdk_38_method_8_code, exceptionTable := #[], attributes := #[] }
def k12m3 : Method := { name := "size", desc := "()I", sig := { parameters := [], returnType := some .int }, accessFlags := 1, code := some k12c3 }
def k12c4 : Code := { maxStack := 2, maxLocals := 2, code := jdk_38_method_18_code, exceptionTable := #[], attributes := #[] }
def k12m4 : Method := { name := "elementData", desc := "(I)Ljava/lang/Object;", sig := { parameters := [.int], returnType := some (.object "java/lang/Object") }, accessFlags := 0, code := some k12c4 }
def k12c5 : Code := { maxStack := 2, maxLocals := 2, code := jdk_38_method_20_code, exceptionTable := #[], attributes := #[] }
def k12m5 : Method := { name := "get", desc := "(I)Ljava/lang/Object;", sig := { parameters := [.int], returnType := some (.object "java/lang/Object") }, accessFlags := 1, code := some k12c5 }
def k12c6 : Code := { maxStack := 3, maxLocals := 4, code := jdk_38_method_24_code, exceptionTable := #[], attributes := #[] }
def k12m6 : Method := { name := "add", desc := "(Ljava/lang/Object;[Ljava/lang/Object;I)V", sig := { parameters := [(.object "java/lang/Object"), (.array (.object "java/lang/Object")), .int], returnType := none }, accessFlags := 2, code := some k12c6 }
def k12c7 : Code := { maxStack := 4, maxLocals := 2, code := jdk_38_method_25_code, exceptionTable := #[], attributes := #[] }
def k12m7 : Method := { name := "add", desc := "(Ljava/lang/Object;)Z", sig := { parameters := [(.object "java/lang/Object")], returnType := some .boolean }, accessFlags := 1, code := some k12c7 }
/-- java/util/ArrayList -/
def k12 : Class := { plain "java/util/ArrayList" (some 8) with
  accessFlags := 33
  interfaces := #[7, 9, 10, 11]
  cf := some (fileOf pool12 10 #[.nestMembers #[290, 276, 500, 502, 262, 267]] #[{ accessFlags := 1, nameIndex := 5, descriptorIndex := 6, attributes := #[] }, { accessFlags := 2, nameIndex := 71, descriptorIndex := 72, attributes := #[] }, { accessFlags := 2, nameIndex := 71, descriptorIndex := 47, attributes := #[] }, { accessFlags := 1, nameIndex := 50, descriptorIndex := 186, attributes := #[] }, { accessFlags := 0, nameIndex := 13, descriptorIndex := 125, attributes := #[] }, { accessFlags := 1, nameIndex := 381, descriptorIndex := 125, attributes := #[] }, { accessFlags := 2, nameIndex := 133, descriptorIndex := 134, attributes := #[] }, { accessFlags := 1, nameIndex := 133, descriptorIndex := 96, attributes := #[] }] 33 2 #[148, 329, 331, 333] #[{ accessFlags := 26, nameIndex := 335, descriptorIndex := 336, attributes := #[] }, { accessFlags := 26, nameIndex := 340, descriptorIndex := 51, attributes := #[] }, { accessFlags := 26, nameIndex := 17, descriptorIndex := 14, attributes := #[] }, { accessFlags := 26, nameIndex := 41, descriptorIndex := 14, attributes := #[] }, { accessFlags := 128, nameIndex := 13, descriptorIndex := 14, attributes := #[] }, { accessFlags := 2, nameIndex := 50, descriptorIndex := 51, attributes := #[] }])
  fields := #[{ name := "serialVersionUID", type := .long, accessFlags := 26, slot := 0, constantValue := 0 }, { name := "DEFAULT_CAPACITY", type := .int, accessFlags := 26, slot := 1, constantValue := 0 }, { name := "EMPTY_ELEMENTDATA", type := (.array (.object "java/lang/Object")), accessFlags := 26, slot := 2, constantValue := 0 }, { name := "DEFAULTCAPACITY_EMPTY_ELEMENTDATA", type := (.array (.object "java/lang/Object")), accessFlags := 26, slot := 3, constantValue := 0 }, { name := "elementData", type := (.array (.object "java/lang/Object")), accessFlags := 128, slot := 1, constantValue := 0 }, { name := "size", type := .int, accessFlags := 2, slot := 2, constantValue := 0 }]
  methods := #[k12m0, k12m1, k12m2, k12m3, k12m4, k12m5, k12m6, k12m7]
  instanceTypes := #[.int, (.array (.object "java/lang/Object")), .int]
  staticTypes := #[.long, .int, (.array (.object "java/lang/Object")), (.array (.object "java/lang/Object"))]
  resolved := Array.replicate 509 none
  statics := some 0 }

def pool13 : Array CpInfo := pool [(1, .methodref 2 3), (0, .class_ 4), (0, .nameAndType 5 6), (0, u "java/lang/Object"), (0, u "<init>"), (0, u "()V"), (0, .class_ 8), (0, u "java/lang/Record")] 13

def k13c0 : Code := { maxStack := 1, maxLocals := 1, code := jdk_30_method_1_code, exceptionTable := #[], attributes := #[] }
def k13m0 : Method := { name := "<init>", desc := "()V", sig := { parameters := [], returnType := none }, accessFlags := 4, code := some k13c0 }
/-- java/lang/Record -/
def k13 : Class := { plain "java/lang/Record" (some 0) with
  accessFlags := 1057
  interfaces := #[]
  cf := some (fileOf pool13 7 #[] #[{ accessFlags := 4, nameIndex := 5, descriptorIndex := 6, attributes := #[] }] 1057 2 #[] #[])
  fields := #[]
  methods := #[k13m0]
  instanceTypes := #[]
  staticTypes := #[]
  resolved := Array.replicate 22 none
  statics := none }

def pool14 : Array CpInfo := pool [(1, .methodref 2 3), (0, .class_ 4), (0, .nameAndType 5 6), (0, u "java/lang/Record"), (0, u "<init>"), (0, u "()V"), (0, .fieldref 8 9), (0, .class_ 10), (0, .nameAndType 11 12), (0, u "com/example/lanc/lanc/expression/Type"), (0, u "DOUBLE"), (0, u "Lcom/example/lanc/lanc/expression/Type;"), (0, .fieldref 8 14), (0, .nameAndType 15 12), (0, u "BOOLEAN"), (15, .fieldref 32 33), (0, .class_ 34), (0, .nameAndType 35 36), (0, u "com/example/lanc/lanc/model/StateValuations$Variable"), (0, u "name"), (0, u "Ljava/lang/String;"), (0, .fieldref 32 38), (0, .nameAndType 39 12), (0, u "type"), (0, .fieldref 32 41), (0, .nameAndType 42 43), (0, u "low"), (0, u "I"), (0, .fieldref 32 45), (0, .nameAndType 46 43), (0, u "high"), (22, u "(Ljava/lang/String;Lcom/example/lanc/lanc/expression/Type;II)V"), (6, u "()I"), (5, .class_ 83), (0, u "com/example/lanc/lanc/model/StateValuations")] 30

def k14c0 : Code := { maxStack := 5, maxLocals := 5, code := prog_104_method_1_code, exceptionTable := #[], attributes := #[] }
def k14m0 : Method := { name := "<init>", desc := "(Ljava/lang/String;Lcom/example/lanc/lanc/expression/Type;II)V", sig := { parameters := [(.object "java/lang/String"), (.object "com/example/lanc/lanc/expression/Type"), .int, .int], returnType := none }, accessFlags := 1, code := some k14c0 }
def k14c1 : Code := { maxStack := 1, maxLocals := 1, code := prog_104_method_8_code, exceptionTable := #[], attributes := #[] }
def k14m1 : Method := { name := "low", desc := "()I", sig := { parameters := [], returnType := some .int }, accessFlags := 1, code := some k14c1 }
def k14c2 : Code := { maxStack := 1, maxLocals := 1, code := prog_104_method_9_code, exceptionTable := #[], attributes := #[] }
def k14m2 : Method := { name := "high", desc := "()I", sig := { parameters := [], returnType := some .int }, accessFlags := 1, code := some k14c2 }
/-- com/example/lanc/lanc/model/StateValuations$Variable -/
def k14 : Class := { plain "com/example/lanc/lanc/model/StateValuations$Variable" (some 13) with
  accessFlags := 49
  interfaces := #[]
  cf := some (fileOf pool14 32 #[.nestHost 82] #[{ accessFlags := 1, nameIndex := 5, descriptorIndex := 69, attributes := #[] }, { accessFlags := 1, nameIndex := 42, descriptorIndex := 76, attributes := #[] }, { accessFlags := 1, nameIndex := 46, descriptorIndex := 76, attributes := #[] }] 49 2 #[] #[{ accessFlags := 18, nameIndex := 35, descriptorIndex := 36, attributes := #[] }, { accessFlags := 18, nameIndex := 39, descriptorIndex := 12, attributes := #[] }, { accessFlags := 18, nameIndex := 42, descriptorIndex := 43, attributes := #[] }, { accessFlags := 18, nameIndex := 46, descriptorIndex := 43, attributes := #[] }])
  fields := #[{ name := "name", type := (.object "java/lang/String"), accessFlags := 18, slot := 0, constantValue := 0 }, { name := "type", type := (.object "com/example/lanc/lanc/expression/Type"), accessFlags := 18, slot := 1, constantValue := 0 }, { name := "low", type := .int, accessFlags := 18, slot := 2, constantValue := 0 }, { name := "high", type := .int, accessFlags := 18, slot := 3, constantValue := 0 }]
  methods := #[k14m0, k14m1, k14m2]
  instanceTypes := #[(.object "java/lang/String"), (.object "com/example/lanc/lanc/expression/Type"), .int, .int]
  staticTypes := #[]
  resolved := Array.replicate 114 none
  statics := none }

def pool15 : Array CpInfo := pool [(1, .class_ 2), (0, u "java/lang/Comparable"), (0, .class_ 4), (0, u "java/lang/Object")] 7

/-- java/lang/Comparable -/
def k15 : Class := { plain "java/lang/Comparable" (some 0) with
  accessFlags := 1537
  interfaces := #[]
  cf := some (fileOf pool15 1 #[] #[] 1537 3 #[] #[])
  fields := #[]
  methods := #[]
  instanceTypes := #[]
  staticTypes := #[]
  resolved := Array.replicate 12 none
  statics := none }

def pool16 : Array CpInfo := pool [(2, .class_ 4), (1, u "java/lang/CharSequence"), (42, .class_ 48), (0, u "java/lang/CharSequence$1CodePointIterator"), (10, .class_ 60), (0, u "java/lang/CharSequence$1CharIterator"), (5, .class_ 67), (0, u "java/lang/Object")] 63

/-- java/lang/CharSequence -/
def k16 : Class := { plain "java/lang/CharSequence" (some 0) with
  accessFlags := 1537
  interfaces := #[]
  cf := some (fileOf pool16 2 #[.nestMembers #[47, 59]] #[] 1537 66 #[] #[])
  fields := #[]
  methods := #[]
  instanceTypes := #[]
  staticTypes := #[]
  resolved := Array.replicate 131 none
  statics := none }

def pool17 : Array CpInfo := pool [(1, .class_ 2), (0, u "java/lang/constant/Constable"), (0, .class_ 4), (0, u "java/lang/Object")] 6

/-- java/lang/constant/Constable -/
def k17 : Class := { plain "java/lang/constant/Constable" (some 0) with
  accessFlags := 1537
  interfaces := #[]
  cf := some (fileOf pool17 1 #[] #[] 1537 3 #[] #[])
  fields := #[]
  methods := #[]
  instanceTypes := #[]
  staticTypes := #[]
  resolved := Array.replicate 11 none
  statics := none }

def pool18 : Array CpInfo := pool [(1, .class_ 2), (0, u "java/lang/constant/ConstantDesc"), (0, .class_ 4), (0, u "java/lang/Object")] 32

/-- java/lang/constant/ConstantDesc -/
def k18 : Class := { plain "java/lang/constant/ConstantDesc" (some 0) with
  accessFlags := 1537
  interfaces := #[]
  cf := some (fileOf pool18 1 #[] #[] 1537 3 #[] #[])
  fields := #[]
  methods := #[]
  instanceTypes := #[]
  staticTypes := #[]
  resolved := Array.replicate 37 none
  statics := none }

def pool19 : Array CpInfo := pool [(2, .class_ 4), (1, u "java/lang/Object"), (0, u "<init>"), (0, u "()V"), (3, .class_ 12), (1, u "java/lang/String"), (0, u "value"), (0, u "[B"), (2, u "coder"), (0, u "B"), (2, u "hash"), (0, u "I"), (2, u "hashIsZero"), (0, u "Z"), (13, u "COMPACT_STRINGS"), (534, .class_ 576), (0, u "java/lang/CharSequence"), (22, u "CASE_INSENSITIVE_ORDER"), (0, u "Ljava/util/Comparator;"), (500, u "serialPersistentFields"), (0, u "[Ljava/io/ObjectStreamField;"), (0, .class_ 1104), (0, u "java/lang/String$CaseInsensitiveComparator"), (1, .class_ 1107), (0, u "java/io/Serializable"), (0, .class_ 1109), (0, u "java/lang/Comparable"), (0, .class_ 1111), (0, u "java/lang/constant/Constable"), (0, .class_ 1113), (0, u "java/lang/constant/ConstantDesc"), (2, u "serialVersionUID"), (0, u "J"), (3, u "REPL"), (0, u "C"), (2, u "LATIN1"), (1, u "UTF16")] 323

def k19m0 : Method := { name := "<init>", desc := "()V", sig := { parameters := [], returnType := none }, accessFlags := 1, code := none }
/-- java/lang/String -/
def k19 : Class := { plain "java/lang/String" (some 0) with
  accessFlags := 49
  interfaces := #[11, 15, 16, 17, 18]
  cf := some (fileOf pool19 10 #[.nestMembers #[1103]] #[{ accessFlags := 1, nameIndex := 5, descriptorIndex := 6, attributes := #[] }] 49 2 #[1106, 1108, 575, 1110, 1112] #[{ accessFlags := 18, nameIndex := 13, descriptorIndex := 14, attributes := #[] }, { accessFlags := 18, nameIndex := 17, descriptorIndex := 18, attributes := #[] }, { accessFlags := 2, nameIndex := 21, descriptorIndex := 22, attributes := #[] }, { accessFlags := 2, nameIndex := 25, descriptorIndex := 26, attributes := #[] }, { accessFlags := 26, nameIndex := 1116, descriptorIndex := 1117, attributes := #[] }, { accessFlags := 24, nameIndex := 40, descriptorIndex := 26, attributes := #[] }, { accessFlags := 26, nameIndex := 1101, descriptorIndex := 1102, attributes := #[] }, { accessFlags := 26, nameIndex := 1121, descriptorIndex := 1122, attributes := #[] }, { accessFlags := 25, nameIndex := 599, descriptorIndex := 600, attributes := #[] }, { accessFlags := 24, nameIndex := 1125, descriptorIndex := 18, attributes := #[] }, { accessFlags := 24, nameIndex := 1127, descriptorIndex := 18, attributes := #[] }])
  fields := #[{ name := "value", type := (.array .byte), accessFlags := 18, slot := 0, constantValue := 0 }, { name := "coder", type := .byte, accessFlags := 18, slot := 1, constantValue := 0 }, { name := "hash", type := .int, accessFlags := 2, slot := 2, constantValue := 0 }, { name := "hashIsZero", type := .boolean, accessFlags := 2, slot := 3, constantValue := 0 }, { name := "serialVersionUID", type := .long, accessFlags := 26, slot := 0, constantValue := 0 }, { name := "COMPACT_STRINGS", type := .boolean, accessFlags := 24, slot := 1, constantValue := 0 }, { name := "serialPersistentFields", type := (.array (.object "java/io/ObjectStreamField")), accessFlags := 26, slot := 2, constantValue := 0 }, { name := "REPL", type := .char, accessFlags := 26, slot := 3, constantValue := 0 }, { name := "CASE_INSENSITIVE_ORDER", type := (.object "java/util/Comparator"), accessFlags := 25, slot := 4, constantValue := 0 }, { name := "LATIN1", type := .byte, accessFlags := 24, slot := 5, constantValue := 0 }, { name := "UTF16", type := .byte, accessFlags := 24, slot := 6, constantValue := 0 }]
  methods := #[k19m0]
  instanceTypes := #[(.array .byte), .byte, .int, .boolean]
  staticTypes := #[.long, .boolean, (.array (.object "java/io/ObjectStreamField")), .char, (.object "java/util/Comparator"), .byte, .byte]
  resolved := Array.replicate 1451 none
  statics := none }

def pool20 : Array CpInfo := pool [(2, .class_ 4), (1, u "java/lang/Enum"), (0, u "name"), (0, u "Ljava/lang/String;"), (2, u "ordinal"), (0, u "I"), (1, .class_ 14), (1, u "java/lang/Object"), (4, u "hash"), (86, .class_ 108), (1, u "java/lang/Enum$EnumDesc"), (2, .class_ 112), (0, u "java/lang/constant/Constable"), (0, .class_ 114), (0, u "java/lang/Comparable"), (0, .class_ 116), (0, u "java/io/Serializable")] 87

/-- java/lang/Enum -/
def k20 : Class := { plain "java/lang/Enum" (some 0) with
  accessFlags := 1057
  interfaces := #[17, 15, 11]
  cf := some (fileOf pool20 2 #[.nestMembers #[106]] #[] 1057 12 #[111, 113, 115] #[{ accessFlags := 18, nameIndex := 5, descriptorIndex := 6, attributes := #[] }, { accessFlags := 18, nameIndex := 9, descriptorIndex := 10, attributes := #[] }, { accessFlags := 2, nameIndex := 19, descriptorIndex := 10, attributes := #[] }])
  fields := #[{ name := "name", type := (.object "java/lang/String"), accessFlags := 18, slot := 0, constantValue := 0 }, { name := "ordinal", type := .int, accessFlags := 18, slot := 1, constantValue := 0 }, { name := "hash", type := .int, accessFlags := 2, slot := 2, constantValue := 0 }]
  methods := #[]
  instanceTypes := #[(.object "java/lang/String"), .int, .int]
  staticTypes := #[]
  resolved := Array.replicate 204 none
  statics := none }

def pool21 : Array CpInfo := pool [(1, .class_ 2), (0, u "com/example/lanc/lanc/expression/Type"), (2, u "BOOLEAN"), (0, u "Lcom/example/lanc/lanc/expression/Type;"), (2, u "INTEGER"), (2, u "DOUBLE"), (2, u "$VALUES"), (0, u "[Lcom/example/lanc/lanc/expression/Type;"), (6, .class_ 25), (1, u "java/lang/Enum"), (8, u "keyword"), (0, u "Ljava/lang/String;")] 32

/-- com/example/lanc/lanc/expression/Type -/
def k21 : Class := { plain "com/example/lanc/lanc/expression/Type" (some 20) with
  accessFlags := 16433
  interfaces := #[]
  cf := some (fileOf pool21 1 #[] #[] 16433 23 #[] #[{ accessFlags := 16409, nameIndex := 5, descriptorIndex := 6, attributes := #[] }, { accessFlags := 16409, nameIndex := 9, descriptorIndex := 6, attributes := #[] }, { accessFlags := 16409, nameIndex := 12, descriptorIndex := 6, attributes := #[] }, { accessFlags := 18, nameIndex := 34, descriptorIndex := 35, attributes := #[] }, { accessFlags := 4122, nameIndex := 15, descriptorIndex := 16, attributes := #[] }])
  fields := #[{ name := "BOOLEAN", type := (.object "com/example/lanc/lanc/expression/Type"), accessFlags := 16409, slot := 0, constantValue := 0 }, { name := "INTEGER", type := (.object "com/example/lanc/lanc/expression/Type"), accessFlags := 16409, slot := 1, constantValue := 0 }, { name := "DOUBLE", type := (.object "com/example/lanc/lanc/expression/Type"), accessFlags := 16409, slot := 2, constantValue := 0 }, { name := "keyword", type := (.object "java/lang/String"), accessFlags := 18, slot := 3, constantValue := 0 }, { name := "$VALUES", type := (.array (.object "com/example/lanc/lanc/expression/Type")), accessFlags := 4122, slot := 3, constantValue := 0 }]
  methods := #[]
  instanceTypes := #[(.object "java/lang/String"), .int, .int, (.object "java/lang/String")]
  staticTypes := #[(.object "com/example/lanc/lanc/expression/Type"), (.object "com/example/lanc/lanc/expression/Type"), (.object "com/example/lanc/lanc/expression/Type"), (.array (.object "com/example/lanc/lanc/expression/Type"))]
  resolved := Array.replicate 68 none
  statics := some 1 }

def pool22 : Array CpInfo := pool [(1, .methodref 2 3), (0, .class_ 4), (0, .nameAndType 5 6), (0, u "java/lang/Object"), (0, u "<init>"), (0, u "()V"), (0, .interfaceMethodref 8 9), (0, .class_ 10), (0, .nameAndType 11 12), (0, u "java/util/List"), (0, u "size"), (0, u "()I"), (0, .fieldref 14 15), (0, .class_ 16), (0, .nameAndType 17 18), (0, u "com/example/lanc/lanc/model/VariableLayout"), (0, u "low"), (0, u "[I"), (0, .fieldref 14 20), (0, .nameAndType 21 18), (0, u "word"), (0, .fieldref 14 23), (0, .nameAndType 24 18), (0, u "shift"), (0, .fieldref 14 26), (0, .nameAndType 27 28), (0, u "mask"), (0, u "[J"), (0, .interfaceMethodref 8 30), (0, .nameAndType 31 32), (0, u "get"), (0, u "(I)Ljava/lang/Object;"), (0, .class_ 34), (0, u "com/example/lanc/lanc/model/StateValuations$Variable"), (0, .methodref 33 36), (0, .nameAndType 37 12), (0, u "high"), (0, .methodref 33 39), (0, .nameAndType 17 12), (0, .class_ 41), (0, u "java/lang/Long"), (0, .methodref 40 43), (0, .nameAndType 44 45), (0, u "numberOfLeadingZeros"), (0, u "(J)I"), (0, .long 18446744073709551615), (1, .fieldref 14 49), (0, .nameAndType 50 51), (0, u "wordsPerState"), (0, u "I"), (2, u "value"), (0, u "([JII)I"), (0, u "(Ljava/util/List;)V")] 16

def k22c0 : Code := { maxStack := 6, maxLocals := 10, code := prog_105_method_1_code, exceptionTable := #[], attributes := #[] }
def k22m0 : Method := { name := "<init>", desc := "(Ljava/util/List;)V", sig := { parameters := [(.object "java/util/List")], returnType := none }, accessFlags := 1, code := some k22c0 }
def k22c1 : Code := { maxStack := 4, maxLocals := 6, code := prog_105_method_5_code, exceptionTable := #[], attributes := #[] }
def k22m1 : Method := { name := "value", desc := "([JII)I", sig := { parameters := [(.array .long), .int, .int], returnType := some .int }, accessFlags := 1, code := some k22c1 }
/-- com/example/lanc/lanc/model/VariableLayout -/
def k22 : Class := { plain "com/example/lanc/lanc/model/VariableLayout" (some 0) with
  accessFlags := 49
  interfaces := #[]
  cf := some (fileOf pool22 14 #[] #[{ accessFlags := 1, nameIndex := 5, descriptorIndex := 56, attributes := #[] }, { accessFlags := 1, nameIndex := 54, descriptorIndex := 55, attributes := #[] }] 49 2 #[] #[{ accessFlags := 18, nameIndex := 17, descriptorIndex := 18, attributes := #[] }, { accessFlags := 18, nameIndex := 21, descriptorIndex := 18, attributes := #[] }, { accessFlags := 18, nameIndex := 24, descriptorIndex := 18, attributes := #[] }, { accessFlags := 18, nameIndex := 27, descriptorIndex := 28, attributes := #[] }, { accessFlags := 18, nameIndex := 50, descriptorIndex := 51, attributes := #[] }])
  fields := #[{ name := "low", type := (.array .int), accessFlags := 18, slot := 0, constantValue := 0 }, { name := "word", type := (.array .int), accessFlags := 18, slot := 1, constantValue := 0 }, { name := "shift", type := (.array .int), accessFlags := 18, slot := 2, constantValue := 0 }, { name := "mask", type := (.array .long), accessFlags := 18, slot := 3, constantValue := 0 }, { name := "wordsPerState", type := .int, accessFlags := 18, slot := 4, constantValue := 0 }]
  methods := #[k22m0, k22m1]
  instanceTypes := #[(.array .int), (.array .int), (.array .int), (.array .long), .int]
  staticTypes := #[]
  resolved := Array.replicate 73 none
  statics := none }

def pool23 : Array CpInfo := pool [(2, .class_ 4), (1, u "java/lang/Object"), (0, u "<init>"), (0, u "()V"), (35, .class_ 44), (1, u "java/util/Objects"), (60, .methodref 106 107), (0, .class_ 108), (0, .nameAndType 109 110), (0, u "jdk/internal/util/Preconditions"), (0, u "checkIndex"), (0, u "(IILjava/util/function/BiFunction;)I"), (60, u "(II)I")] 12

def k23m0 : Method := { name := "<init>", desc := "()V", sig := { parameters := [], returnType := none }, accessFlags := 2, code := none }
def k23c1 : Code := { maxStack := 3, maxLocals := 2, code := jdk_31_method_17_code, exceptionTable := #[], attributes := #[] }
def k23m1 : Method := { name := "checkIndex", desc := "(II)I", sig := { parameters := [.int, .int], returnType := some .int }, accessFlags := 9, code := some k23c1 }
/-- java/util/Objects -/
def k23 : Class := { plain "java/util/Objects" (some 0) with
  accessFlags := 49
  interfaces := #[]
  cf := some (fileOf pool23 42 #[] #[{ accessFlags := 2, nameIndex := 5, descriptorIndex := 6, attributes := #[] }, { accessFlags := 9, nameIndex := 109, descriptorIndex := 171, attributes := #[] }] 49 2 #[] #[])
  fields := #[]
  methods := #[k23m0, k23m1]
  instanceTypes := #[]
  staticTypes := #[]
  resolved := Array.replicate 184 none
  statics := none }

def pool24 : Array CpInfo := pool [(2, .class_ 4), (1, u "java/lang/Object"), (0, u "<init>"), (0, u "()V"), (17, .class_ 26), (1, u "jdk/internal/util/Preconditions"), (6, u "checkIndex"), (21, .class_ 56), (0, u "jdk/internal/util/Preconditions$4"), (57, .class_ 115), (0, u "jdk/internal/util/Preconditions$1"), (7, u "SIOOBE_FORMATTER"), (0, u "Ljava/util/function/BiFunction;"), (0, .class_ 126), (0, u "jdk/internal/util/Preconditions$2"), (3, u "AIOOBE_FORMATTER"), (0, .class_ 132), (0, u "jdk/internal/util/Preconditions$3"), (3, u "IOOBE_FORMATTER"), (41, u "(IILjava/util/function/BiFunction;)I")] 15

def k24m0 : Method := { name := "<init>", desc := "()V", sig := { parameters := [], returnType := none }, accessFlags := 1, code := none }
def k24c1 : Code := { maxStack := 3, maxLocals := 3, code := jdk_41_method_11_code, exceptionTable := #[], attributes := #[] }
def k24m1 : Method := { name := "checkIndex", desc := "(IILjava/util/function/BiFunction;)I", sig := { parameters := [.int, .int, (.object "java/util/function/BiFunction")], returnType := some .int }, accessFlags := 9, code := some k24c1 }
/-- jdk/internal/util/Preconditions -/
def k24 : Class := { plain "jdk/internal/util/Preconditions" (some 0) with
  accessFlags := 33
  interfaces := #[]
  cf := some (fileOf pool24 24 #[.nestMembers #[55, 131, 125, 114]] #[{ accessFlags := 1, nameIndex := 5, descriptorIndex := 6, attributes := #[] }, { accessFlags := 9, nameIndex := 33, descriptorIndex := 178, attributes := #[] }] 33 2 #[] #[{ accessFlags := 25, nameIndex := 123, descriptorIndex := 124, attributes := #[] }, { accessFlags := 25, nameIndex := 130, descriptorIndex := 124, attributes := #[] }, { accessFlags := 25, nameIndex := 136, descriptorIndex := 124, attributes := #[] }])
  fields := #[{ name := "SIOOBE_FORMATTER", type := (.object "java/util/function/BiFunction"), accessFlags := 25, slot := 0, constantValue := 0 }, { name := "AIOOBE_FORMATTER", type := (.object "java/util/function/BiFunction"), accessFlags := 25, slot := 1, constantValue := 0 }, { name := "IOOBE_FORMATTER", type := (.object "java/util/function/BiFunction"), accessFlags := 25, slot := 2, constantValue := 0 }]
  methods := #[k24m0, k24m1]
  instanceTypes := #[]
  staticTypes := #[(.object "java/util/function/BiFunction"), (.object "java/util/function/BiFunction"), (.object "java/util/function/BiFunction")]
  resolved := Array.replicate 194 none
  statics := none }

def pool25 : Array CpInfo := pool [(2, .class_ 4), (1, u "java/lang/Object"), (0, u "<init>"), (0, u "()V"), (1, .class_ 10), (1, u "java/lang/Number"), (2, .class_ 14), (0, u "java/io/Serializable"), (0, u "serialVersionUID"), (0, u "J")] 20

def k25m0 : Method := { name := "<init>", desc := "()V", sig := { parameters := [], returnType := none }, accessFlags := 1, code := none }
/-- java/lang/Number -/
def k25 : Class := { plain "java/lang/Number" (some 0) with
  accessFlags := 1057
  interfaces := #[11]
  cf := some (fileOf pool25 8 #[] #[{ accessFlags := 1, nameIndex := 5, descriptorIndex := 6, attributes := #[] }] 1057 2 #[13] #[{ accessFlags := 26, nameIndex := 15, descriptorIndex := 16, attributes := #[] }])
  fields := #[{ name := "serialVersionUID", type := .long, accessFlags := 26, slot := 0, constantValue := 0 }]
  methods := #[k25m0]
  instanceTypes := #[]
  staticTypes := #[.long]
  resolved := Array.replicate 37 none
  statics := none }

def pool26 : Array CpInfo := pool [(1, .class_ 2), (0, u "java/lang/Long"), (15, .class_ 20), (1, u "java/lang/Integer"), (79, u "numberOfLeadingZeros"), (0, u "(J)I"), (133, .class_ 237), (1, u "java/lang/Long$LongCache"), (33, .class_ 272), (0, u "java/lang/Number"), (2, u "value"), (0, u "J"), (31, .methodref 18 309), (0, .nameAndType 100 310), (0, u "(I)I"), (50, u "TYPE"), (0, u "Ljava/lang/Class;"), (0, .class_ 364), (0, u "java/lang/Comparable"), (0, .class_ 366), (0, u "java/lang/constant/Constable"), (0, .class_ 368), (0, u "java/lang/constant/ConstantDesc"), (0, u "MIN_VALUE"), (1, u "MAX_VALUE"), (4, u "SIZE"), (0, u "I"), (1, u "BYTES"), (1, u "serialVersionUID")] 142

def k26c0 : Code := { maxStack := 3, maxLocals := 3, code := jdk_35_method_48_code, exceptionTable := #[], attributes := #[] }
def k26m0 : Method := { name := "numberOfLeadingZeros", desc := "(J)I", sig := { parameters := [.long], returnType := some .int }, accessFlags := 9, code := some k26c0 }
/-- java/lang/Long -/
def k26 : Class := { plain "java/lang/Long" (some 25) with
  accessFlags := 49
  interfaces := #[15, 17, 18]
  cf := some (fileOf pool26 1 #[.nestMembers #[235]] #[{ accessFlags := 9, nameIndex := 100, descriptorIndex := 101, attributes := #[] }] 49 271 #[363, 365, 367] #[{ accessFlags := 25, nameIndex := 369, descriptorIndex := 276, attributes := #[] }, { accessFlags := 25, nameIndex := 371, descriptorIndex := 276, attributes := #[] }, { accessFlags := 25, nameIndex := 361, descriptorIndex := 362, attributes := #[] }, { accessFlags := 18, nameIndex := 275, descriptorIndex := 276, attributes := #[] }, { accessFlags := 25, nameIndex := 376, descriptorIndex := 377, attributes := #[] }, { accessFlags := 25, nameIndex := 379, descriptorIndex := 377, attributes := #[] }, { accessFlags := 26, nameIndex := 381, descriptorIndex := 276, attributes := #[] }])
  fields := #[{ name := "MIN_VALUE", type := .long, accessFlags := 25, slot := 0, constantValue := 0 }, { name := "MAX_VALUE", type := .long, accessFlags := 25, slot := 1, constantValue := 0 }, { name := "TYPE", type := (.object "java/lang/Class"), accessFlags := 25, slot := 2, constantValue := 0 }, { name := "value", type := .long, accessFlags := 18, slot := 0, constantValue := 0 }, { name := "SIZE", type := .int, accessFlags := 25, slot := 3, constantValue := 0 }, { name := "BYTES", type := .int, accessFlags := 25, slot := 4, constantValue := 0 }, { name := "serialVersionUID", type := .long, accessFlags := 26, slot := 5, constantValue := 0 }]
  methods := #[k26m0]
  instanceTypes := #[.long]
  staticTypes := #[.long, .long, (.object "java/lang/Class"), .int, .int, .long]
  resolved := Array.replicate 524 none
  statics := none }

def pool27 : Array CpInfo := pool [(1, .class_ 2), (0, u "java/lang/Integer"), (16, u "digits"), (0, u "[C"), (32, u "numberOfLeadingZeros"), (0, u "(I)I"), (30, u "DigitOnes"), (0, u "[B"), (2, u "DigitTens"), (99, .class_ 190), (0, u "java/lang/Integer$IntegerCache"), (3, u "I"), (8, .class_ 204), (0, u "java/lang/Number"), (2, u "value"), (56, .integer 65536), (37, u "TYPE"), (0, u "Ljava/lang/Class;"), (0, .class_ 305), (0, u "java/lang/Comparable"), (0, .class_ 307), (0, u "java/lang/constant/Constable"), (0, .class_ 309), (0, u "java/lang/constant/ConstantDesc"), (0, u "MIN_VALUE"), (1, u "MAX_VALUE"), (3, u "SIZE"), (1, u "BYTES"), (1, u "serialVersionUID"), (0, u "J")] 131

def k27c0 : Code := { maxStack := 3, maxLocals := 2, code := jdk_33_method_47_code, exceptionTable := #[], attributes := #[] }
def k27m0 : Method := { name := "numberOfLeadingZeros", desc := "(I)I", sig := { parameters := [.int], returnType := some .int }, accessFlags := 9, code := some k27c0 }
/-- java/lang/Integer -/
def k27 : Class := { plain "java/lang/Integer" (some 25) with
  accessFlags := 49
  interfaces := #[15, 17, 18]
  cf := some (fileOf pool27 1 #[.nestMembers #[189]] #[{ accessFlags := 9, nameIndex := 53, descriptorIndex := 54, attributes := #[] }] 49 203 #[304, 306, 308] #[{ accessFlags := 25, nameIndex := 310, descriptorIndex := 194, attributes := #[] }, { accessFlags := 25, nameIndex := 312, descriptorIndex := 194, attributes := #[] }, { accessFlags := 25, nameIndex := 302, descriptorIndex := 303, attributes := #[] }, { accessFlags := 24, nameIndex := 19, descriptorIndex := 20, attributes := #[] }, { accessFlags := 24, nameIndex := 89, descriptorIndex := 86, attributes := #[] }, { accessFlags := 24, nameIndex := 85, descriptorIndex := 86, attributes := #[] }, { accessFlags := 18, nameIndex := 207, descriptorIndex := 194, attributes := #[] }, { accessFlags := 25, nameIndex := 316, descriptorIndex := 194, attributes := #[] }, { accessFlags := 25, nameIndex := 318, descriptorIndex := 194, attributes := #[] }, { accessFlags := 26, nameIndex := 320, descriptorIndex := 321, attributes := #[] }])
  fields := #[{ name := "MIN_VALUE", type := .int, accessFlags := 25, slot := 0, constantValue := 0 }, { name := "MAX_VALUE", type := .int, accessFlags := 25, slot := 1, constantValue := 0 }, { name := "TYPE", type := (.object "java/lang/Class"), accessFlags := 25, slot := 2, constantValue := 0 }, { name := "digits", type := (.array .char), accessFlags := 24, slot := 3, constantValue := 0 }, { name := "DigitTens", type := (.array .byte), accessFlags := 24, slot := 4, constantValue := 0 }, { name := "DigitOnes", type := (.array .byte), accessFlags := 24, slot := 5, constantValue := 0 }, { name := "value", type := .int, accessFlags := 18, slot := 0, constantValue := 0 }, { name := "SIZE", type := .int, accessFlags := 25, slot := 6, constantValue := 0 }, { name := "BYTES", type := .int, accessFlags := 25, slot := 7, constantValue := 0 }, { name := "serialVersionUID", type := .long, accessFlags := 26, slot := 8, constantValue := 0 }]
  methods := #[k27m0]
  instanceTypes := #[.int]
  staticTypes := #[.int, .int, (.object "java/lang/Class"), (.array .char), (.array .byte), (.array .byte), .int, .int, .long]
  resolved := Array.replicate 453 none
  statics := none }

/-- the primitive byte -/
def k28 : Class := { plain "byte" none with kind := .primitive 'B', accessFlags := 0x411 }
/-- [B -/
def k29 : Class := { plain "[B" (some 0) with kind := .array 28 .byte, interfaces := #[10, 11], accessFlags := 1041 }

/-- the primitive int -/
def k30 : Class := { plain "int" none with kind := .primitive 'I', accessFlags := 0x411 }
/-- [I -/
def k31 : Class := { plain "[I" (some 0) with kind := .array 30 .int, interfaces := #[10, 11], accessFlags := 1041 }

/-- the primitive long -/
def k32 : Class := { plain "long" none with kind := .primitive 'J', accessFlags := 0x411 }
/-- [J -/
def k33 : Class := { plain "[J" (some 0) with kind := .array 32 .long, interfaces := #[10, 11], accessFlags := 1041 }

/-- [Ljava/lang/Object; -/
def k34 : Class := { plain "[Ljava/lang/Object;" (some 0) with kind := .array 0 (.object "java/lang/Object"), interfaces := #[10, 11], accessFlags := 1041 }

def heap : Heap := #[{ cls := 12, slots := #[.long 0, .int 0, .ref 5, .ref 6], vm := .statics 12 },
  { cls := 21, slots := #[.ref 2, .ref 3, .ref 4, .null], vm := .statics 21 },
  { cls := 21, slots := #[.null, .int 0, .int 0, .null], vm := .none },
  { cls := 21, slots := #[.null, .int 1, .int 0, .null], vm := .none },
  { cls := 21, slots := #[.null, .int 2, .int 0, .null], vm := .none },
  { cls := 34, slots := #[], vm := .none },
  { cls := 34, slots := #[], vm := .none }]
def classes : Array Class := #[k0, k1, k2, k3, k4, k5, k6, k7, k8, k9, k10, k11, k12, k13, k14, k15, k16, k17, k18, k19, k20, k21, k22, k23, k24, k25, k26, k27, k28, k29, k30, k31, k32, k33, k34]
def interned : List (Array UInt16 × Addr) := []
def slotsUsed : Nat := 20
def theMethod : MethodId := ⟨1, 1⟩
def args0 : Array Value := #[.long 5, .long 6, .int 3, .int 4, .int 5, .int 4225]
def aboutOver (below : List Frame) : State where
  vm := { classes := classes, interned := interned.toArray }
  heap := heap
  slotsUsed := slotsUsed
  threads := #[{ frames := .invoking theMethod args0 :: below }]
def below0 : List Frame := [.native { method := ⟨0, 0⟩, args := #[] }]
def about1 : State := aboutOver below0
def p0 : Program := .bare "" "" ""
def e0 : Env := launch0.env 0 0 0
theorem w_frames : about1.frames = Frame.invoking theMethod args0 :: below0 := rfl
set_option maxRecDepth 65536 in
theorem w_args : argsFit about1.vm theMethod args0 = true := by decide +kernel
set_option maxRecDepth 65536 in
theorem w_heap : heapFits about1 = true := by decide +kernel
set_option maxRecDepth 65536 in
theorem w_runnable : about1.curStatus? = some .runnable := by decide +kernel
set_option maxRecDepth 65536 in
theorem w_alone : about1.alone = true := by decide +kernel
set_option maxRecDepth 65536 in
theorem w_named : about1.methodNamed? x = some theMethod := by decide +kernel
set_option maxRecDepth 65536 in
theorem w_hears : about1.hears theMethod below0 = true := by decide +kernel
set_option maxRecDepth 65536 in
theorem w_ripe : about1.ripe theMethod args0 below0 = true := by decide +kernel
theorem w_running : about1.status = .running := rfl
set_option maxRecDepth 65536 in
theorem w_room : about1.hasRoom e0.platform room_1 = true :=
  launch0.hasRoom_least _ room_1 (by decide +kernel) (by decide +kernel) (by decide +kernel) (by decide +kernel) (by decide +kernel) (by decide +kernel)
theorem allAtoms_all (ts : List Jvm.Cond) (a : Array Jvm.Value) (st : Jvm.State) : (allAtoms ts).before a st = ts.all (fun c => c.before a st) := by
  induction ts with
  | nil => rfl
  | cons c t ih =>
    show (Jvm.Cond.and c (allAtoms t)).before a st = _
    rw [Jvm.Cond.before_and, ih, List.all_cons]
def words1 : List Jvm.Cond := Jvm.Cond.code x code maxLocals ret :: tables_1
/-- a 'code' word, met by the world's own term for the bytes: nothing is compared byte by byte -/
theorem code_word {y : MethodName} {bytes : ByteArray} {mx : Nat} {rt : Option FieldType} {a : Array Value} {s : State} {m : MethodId} {meth : Method} {c : Code} (h1 : s.methodNamed? y = some m) (h2 : s.vm.method? m = some meth) (h3 : meth.code = some c) (h4 : c.code = bytes)
    (h5 : (c.maxLocals == mx && c.exceptionTable.isEmpty && decide (c.maxStack ≤ mostOperands) && decide (meth.sig.returnType = rt) && !meth.locks && decide (parseMethodDescriptor y.desc = some meth.sig)) = true) : (Jvm.Cond.code y bytes mx rt).before a s = true := by
  simp only [Bool.and_eq_true, beq_iff_eq, Bool.not_eq_true', decide_eq_true_eq] at h5
  obtain ⟨⟨⟨⟨⟨g1, g2⟩, g3⟩, g4⟩, g5⟩, g6⟩ := h5
  simp [Cond.before, Cond.holds, Cond.value, h1, h2, h3, h4, g1, g2, g3, g4, g5, g6]
def isCode : Jvm.Cond → Bool
  | .code _ _ _ _ => true
  | _ => false
theorem all_split {L : List Jvm.Cond} {P : Jvm.Cond → Bool} (h1 : L.all (fun c => isCode c || P c) = true) (h2 : ∀ c ∈ L.filter isCode, P c = true) : L.all P = true := by
  refine List.all_eq_true.mpr fun c hc => ?_
  have h := List.all_eq_true.mp h1 c hc
  rcases Bool.eq_false_or_eq_true (isCode c) with hi | hi
  · exact h2 c (List.mem_filter.mpr ⟨hc, hi⟩)
  · simpa [hi] using h
set_option maxRecDepth 65536 in
theorem w_c0 : (Jvm.Cond.code x code maxLocals ret).before args0 about1 = true := code_word (m := ⟨1, 1⟩) (meth := k1m1) (c := k1c1) (by decide +kernel) rfl rfl rfl (by decide +kernel)
set_option maxRecDepth 65536 in
theorem w_c1 : (Jvm.Cond.code ({ cls := "com/example/lanc/lanc/model/VariableLayoutValuePinLaw", name := "ones", desc := "(I)J" } : Jvm.MethodName) method_3_code (1 : Nat) (Option.some Jvm.ClassFile.FieldType.long)).before args0 about1 = true := code_word (m := ⟨1, 2⟩) (meth := k1m2) (c := k1c2) (by decide +kernel) rfl rfl rfl (by decide +kernel)
set_option maxRecDepth 65536 in
theorem w_c2 : (Jvm.Cond.code ({ cls := "java/lang/Math", name := "min", desc := "(JJ)J" } : Jvm.MethodName) jdk_29_method_70_code (4 : Nat) (Option.some Jvm.ClassFile.FieldType.long)).before args0 about1 = true := code_word (m := ⟨2, 2⟩) (meth := k2m2) (c := k2c2) (by decide +kernel) rfl rfl rfl (by decide +kernel)
set_option maxRecDepth 65536 in
theorem w_c3 : (Jvm.Cond.code ({ cls := "java/util/ArrayList", name := "<init>", desc := "()V" } : Jvm.MethodName) jdk_38_method_2_code (1 : Nat) (Option.none : Option Jvm.ClassFile.FieldType)).before args0 about1 = true := code_word (m := ⟨12, 0⟩) (meth := k12m0) (c := k12c0) (by decide +kernel) rfl rfl rfl (by decide +kernel)
set_option maxRecDepth 65536 in
theorem w_c4 : (Jvm.Cond.code ({ cls := "java/util/AbstractList", name := "<init>", desc := "()V" } : Jvm.MethodName) jdk_39_method_1_code (1 : Nat) (Option.none : Option Jvm.ClassFile.FieldType)).before args0 about1 = true := code_word (m := ⟨8, 0⟩) (meth := k8m0) (c := k8c0) (by decide +kernel) rfl rfl rfl (by decide +kernel)
set_option maxRecDepth 65536 in
theorem w_c5 : (Jvm.Cond.code ({ cls := "java/util/AbstractCollection", name := "<init>", desc := "()V" } : Jvm.MethodName) jdk_22_method_1_code (1 : Nat) (Option.none : Option Jvm.ClassFile.FieldType)).before args0 about1 = true := code_word (m := ⟨5, 0⟩) (meth := k5m0) (c := k5c0) (by decide +kernel) rfl rfl rfl (by decide +kernel)
set_option maxRecDepth 65536 in
theorem w_c6 : (Jvm.Cond.code ({ cls := "java/lang/Object", name := "<init>", desc := "()V" } : Jvm.MethodName) object_method_1_code (1 : Nat) (Option.none : Option Jvm.ClassFile.FieldType)).before args0 about1 = true := code_word (m := ⟨0, 0⟩) (meth := k0m0) (c := k0c0) (by decide +kernel) rfl rfl rfl (by decide +kernel)
set_option maxRecDepth 65536 in
theorem w_c7 : (Jvm.Cond.code ({ cls := "com/example/lanc/lanc/model/StateValuations$Variable", name := "<init>", desc := "(Ljava/lang/String;Lcom/example/lanc/lanc/expression/Type;II)V" } : Jvm.MethodName) prog_104_method_1_code (5 : Nat) (Option.none : Option Jvm.ClassFile.FieldType)).before args0 about1 = true := code_word (m := ⟨14, 0⟩) (meth := k14m0) (c := k14c0) (by decide +kernel) rfl rfl rfl (by decide +kernel)
set_option maxRecDepth 65536 in
theorem w_c8 : (Jvm.Cond.code ({ cls := "java/lang/Record", name := "<init>", desc := "()V" } : Jvm.MethodName) jdk_30_method_1_code (1 : Nat) (Option.none : Option Jvm.ClassFile.FieldType)).before args0 about1 = true := code_word (m := ⟨13, 0⟩) (meth := k13m0) (c := k13c0) (by decide +kernel) rfl rfl rfl (by decide +kernel)
set_option maxRecDepth 65536 in
theorem w_c9 : (Jvm.Cond.code ({ cls := "java/util/ArrayList", name := "add", desc := "(Ljava/lang/Object;)Z" } : Jvm.MethodName) jdk_38_method_25_code (2 : Nat) (Option.some Jvm.ClassFile.FieldType.boolean)).before args0 about1 = true := code_word (m := ⟨12, 7⟩) (meth := k12m7) (c := k12c7) (by decide +kernel) rfl rfl rfl (by decide +kernel)
set_option maxRecDepth 65536 in
theorem w_c10 : (Jvm.Cond.code ({ cls := "java/util/ArrayList", name := "add", desc := "(Ljava/lang/Object;[Ljava/lang/Object;I)V" } : Jvm.MethodName) jdk_38_method_24_code (4 : Nat) (Option.none : Option Jvm.ClassFile.FieldType)).before args0 about1 = true := code_word (m := ⟨12, 6⟩) (meth := k12m6) (c := k12c6) (by decide +kernel) rfl rfl rfl (by decide +kernel)
set_option maxRecDepth 65536 in
theorem w_c11 : (Jvm.Cond.code ({ cls := "java/util/ArrayList", name := "grow", desc := "()[Ljava/lang/Object;" } : Jvm.MethodName) jdk_38_method_7_code (1 : Nat) (Option.some (Jvm.ClassFile.FieldType.array (Jvm.ClassFile.FieldType.object "java/lang/Object")))).before args0 about1 = true := code_word (m := ⟨12, 2⟩) (meth := k12m2) (c := k12c2) (by decide +kernel) rfl rfl rfl (by decide +kernel)
set_option maxRecDepth 65536 in
theorem w_c12 : (Jvm.Cond.code ({ cls := "java/util/ArrayList", name := "grow", desc := "(I)[Ljava/lang/Object;" } : Jvm.MethodName) jdk_38_method_6_code (4 : Nat) (Option.some (Jvm.ClassFile.FieldType.array (Jvm.ClassFile.FieldType.object "java/lang/Object")))).before args0 about1 = true := code_word (m := ⟨12, 1⟩) (meth := k12m1) (c := k12c1) (by decide +kernel) rfl rfl rfl (by decide +kernel)
set_option maxRecDepth 65536 in
theorem w_c13 : (Jvm.Cond.code ({ cls := "java/lang/Math", name := "max", desc := "(II)I" } : Jvm.MethodName) jdk_29_method_65_code (2 : Nat) (Option.some Jvm.ClassFile.FieldType.int)).before args0 about1 = true := code_word (m := ⟨2, 1⟩) (meth := k2m1) (c := k2c1) (by decide +kernel) rfl rfl rfl (by decide +kernel)
set_option maxRecDepth 65536 in
theorem w_c14 : (Jvm.Cond.code ({ cls := "com/example/lanc/lanc/model/VariableLayout", name := "<init>", desc := "(Ljava/util/List;)V" } : Jvm.MethodName) prog_105_method_1_code (10 : Nat) (Option.none : Option Jvm.ClassFile.FieldType)).before args0 about1 = true := code_word (m := ⟨22, 0⟩) (meth := k22m0) (c := k22c0) (by decide +kernel) rfl rfl rfl (by decide +kernel)
set_option maxRecDepth 65536 in
theorem w_c15 : (Jvm.Cond.code ({ cls := "java/util/ArrayList", name := "size", desc := "()I" } : Jvm.MethodName) jdk_38_method_8_code (1 : Nat) (Option.some Jvm.ClassFile.FieldType.int)).before args0 about1 = true := code_word (m := ⟨12, 3⟩) (meth := k12m3) (c := k12c3) (by decide +kernel) rfl rfl rfl (by decide +kernel)
set_option maxRecDepth 65536 in
theorem w_c16 : (Jvm.Cond.code ({ cls := "java/util/ArrayList", name := "get", desc := "(I)Ljava/lang/Object;" } : Jvm.MethodName) jdk_38_method_20_code (2 : Nat) (Option.some (Jvm.ClassFile.FieldType.object "java/lang/Object"))).before args0 about1 = true := code_word (m := ⟨12, 5⟩) (meth := k12m5) (c := k12c5) (by decide +kernel) rfl rfl rfl (by decide +kernel)
set_option maxRecDepth 65536 in
theorem w_c17 : (Jvm.Cond.code ({ cls := "java/util/Objects", name := "checkIndex", desc := "(II)I" } : Jvm.MethodName) jdk_31_method_17_code (2 : Nat) (Option.some Jvm.ClassFile.FieldType.int)).before args0 about1 = true := code_word (m := ⟨23, 1⟩) (meth := k23m1) (c := k23c1) (by decide +kernel) rfl rfl rfl (by decide +kernel)
set_option maxRecDepth 65536 in
theorem w_c18 : (Jvm.Cond.code ({ cls := "jdk/internal/util/Preconditions", name := "checkIndex", desc := "(IILjava/util/function/BiFunction;)I" } : Jvm.MethodName) jdk_41_method_11_code (3 : Nat) (Option.some Jvm.ClassFile.FieldType.int)).before args0 about1 = true := code_word (m := ⟨24, 1⟩) (meth := k24m1) (c := k24c1) (by decide +kernel) rfl rfl rfl (by decide +kernel)
set_option maxRecDepth 65536 in
theorem w_c19 : (Jvm.Cond.code ({ cls := "java/util/ArrayList", name := "elementData", desc := "(I)Ljava/lang/Object;" } : Jvm.MethodName) jdk_38_method_18_code (2 : Nat) (Option.some (Jvm.ClassFile.FieldType.object "java/lang/Object"))).before args0 about1 = true := code_word (m := ⟨12, 4⟩) (meth := k12m4) (c := k12c4) (by decide +kernel) rfl rfl rfl (by decide +kernel)
set_option maxRecDepth 65536 in
theorem w_c20 : (Jvm.Cond.code ({ cls := "com/example/lanc/lanc/model/StateValuations$Variable", name := "high", desc := "()I" } : Jvm.MethodName) prog_104_method_9_code (1 : Nat) (Option.some Jvm.ClassFile.FieldType.int)).before args0 about1 = true := code_word (m := ⟨14, 2⟩) (meth := k14m2) (c := k14c2) (by decide +kernel) rfl rfl rfl (by decide +kernel)
set_option maxRecDepth 65536 in
theorem w_c21 : (Jvm.Cond.code ({ cls := "com/example/lanc/lanc/model/StateValuations$Variable", name := "low", desc := "()I" } : Jvm.MethodName) prog_104_method_8_code (1 : Nat) (Option.some Jvm.ClassFile.FieldType.int)).before args0 about1 = true := code_word (m := ⟨14, 1⟩) (meth := k14m1) (c := k14c1) (by decide +kernel) rfl rfl rfl (by decide +kernel)
set_option maxRecDepth 65536 in
theorem w_c22 : (Jvm.Cond.code ({ cls := "java/lang/Long", name := "numberOfLeadingZeros", desc := "(J)I" } : Jvm.MethodName) jdk_35_method_48_code (3 : Nat) (Option.some Jvm.ClassFile.FieldType.int)).before args0 about1 = true := code_word (m := ⟨26, 0⟩) (meth := k26m0) (c := k26c0) (by decide +kernel) rfl rfl rfl (by decide +kernel)
set_option maxRecDepth 65536 in
theorem w_c23 : (Jvm.Cond.code ({ cls := "java/lang/Integer", name := "numberOfLeadingZeros", desc := "(I)I" } : Jvm.MethodName) jdk_33_method_47_code (2 : Nat) (Option.some Jvm.ClassFile.FieldType.int)).before args0 about1 = true := code_word (m := ⟨27, 0⟩) (meth := k27m0) (c := k27c0) (by decide +kernel) rfl rfl rfl (by decide +kernel)
set_option maxRecDepth 65536 in
theorem w_c24 : (Jvm.Cond.code ({ cls := "com/example/lanc/lanc/model/VariableLayout", name := "value", desc := "([JII)I" } : Jvm.MethodName) prog_105_method_5_code (6 : Nat) (Option.some Jvm.ClassFile.FieldType.int)).before args0 about1 = true := code_word (m := ⟨22, 1⟩) (meth := k22m1) (c := k22c1) (by decide +kernel) rfl rfl rfl (by decide +kernel)
def codes1 : List Jvm.Cond := [Jvm.Cond.code x code maxLocals ret, Jvm.Cond.code ({ cls := "com/example/lanc/lanc/model/VariableLayoutValuePinLaw", name := "ones", desc := "(I)J" } : Jvm.MethodName) method_3_code (1 : Nat) (Option.some Jvm.ClassFile.FieldType.long), Jvm.Cond.code ({ cls := "java/lang/Math", name := "min", desc := "(JJ)J" } : Jvm.MethodName) jdk_29_method_70_code (4 : Nat) (Option.some Jvm.ClassFile.FieldType.long), Jvm.Cond.code ({ cls := "java/util/ArrayList", name := "<init>", desc := "()V" } : Jvm.MethodName) jdk_38_method_2_code (1 : Nat) (Option.none : Option Jvm.ClassFile.FieldType), Jvm.Cond.code ({ cls := "java/util/AbstractList", name := "<init>", desc := "()V" } : Jvm.MethodName) jdk_39_method_1_code (1 : Nat) (Option.none : Option Jvm.ClassFile.FieldType), Jvm.Cond.code ({ cls := "java/util/AbstractCollection", name := "<init>", desc := "()V" } : Jvm.MethodName) jdk_22_method_1_code (1 : Nat) (Option.none : Option Jvm.ClassFile.FieldType), Jvm.Cond.code ({ cls := "java/lang/Object", name := "<init>", desc := "()V" } : Jvm.MethodName) object_method_1_code (1 : Nat) (Option.none : Option Jvm.ClassFile.FieldType), Jvm.Cond.code ({ cls := "com/example/lanc/lanc/model/StateValuations$Variable", name := "<init>", desc := "(Ljava/lang/String;Lcom/example/lanc/lanc/expression/Type;II)V" } : Jvm.MethodName) prog_104_method_1_code (5 : Nat) (Option.none : Option Jvm.ClassFile.FieldType), Jvm.Cond.code ({ cls := "java/lang/Record", name := "<init>", desc := "()V" } : Jvm.MethodName) jdk_30_method_1_code (1 : Nat) (Option.none : Option Jvm.ClassFile.FieldType), Jvm.Cond.code ({ cls := "java/util/ArrayList", name := "add", desc := "(Ljava/lang/Object;)Z" } : Jvm.MethodName) jdk_38_method_25_code (2 : Nat) (Option.some Jvm.ClassFile.FieldType.boolean), Jvm.Cond.code ({ cls := "java/util/ArrayList", name := "add", desc := "(Ljava/lang/Object;[Ljava/lang/Object;I)V" } : Jvm.MethodName) jdk_38_method_24_code (4 : Nat) (Option.none : Option Jvm.ClassFile.FieldType), Jvm.Cond.code ({ cls := "java/util/ArrayList", name := "grow", desc := "()[Ljava/lang/Object;" } : Jvm.MethodName) jdk_38_method_7_code (1 : Nat) (Option.some (Jvm.ClassFile.FieldType.array (Jvm.ClassFile.FieldType.object "java/lang/Object"))), Jvm.Cond.code ({ cls := "java/util/ArrayList", name := "grow", desc := "(I)[Ljava/lang/Object;" } : Jvm.MethodName) jdk_38_method_6_code (4 : Nat) (Option.some (Jvm.ClassFile.FieldType.array (Jvm.ClassFile.FieldType.object "java/lang/Object"))), Jvm.Cond.code ({ cls := "java/lang/Math", name := "max", desc := "(II)I" } : Jvm.MethodName) jdk_29_method_65_code (2 : Nat) (Option.some Jvm.ClassFile.FieldType.int), Jvm.Cond.code ({ cls := "com/example/lanc/lanc/model/VariableLayout", name := "<init>", desc := "(Ljava/util/List;)V" } : Jvm.MethodName) prog_105_method_1_code (10 : Nat) (Option.none : Option Jvm.ClassFile.FieldType), Jvm.Cond.code ({ cls := "java/util/ArrayList", name := "size", desc := "()I" } : Jvm.MethodName) jdk_38_method_8_code (1 : Nat) (Option.some Jvm.ClassFile.FieldType.int), Jvm.Cond.code ({ cls := "java/util/ArrayList", name := "get", desc := "(I)Ljava/lang/Object;" } : Jvm.MethodName) jdk_38_method_20_code (2 : Nat) (Option.some (Jvm.ClassFile.FieldType.object "java/lang/Object")), Jvm.Cond.code ({ cls := "java/util/Objects", name := "checkIndex", desc := "(II)I" } : Jvm.MethodName) jdk_31_method_17_code (2 : Nat) (Option.some Jvm.ClassFile.FieldType.int), Jvm.Cond.code ({ cls := "jdk/internal/util/Preconditions", name := "checkIndex", desc := "(IILjava/util/function/BiFunction;)I" } : Jvm.MethodName) jdk_41_method_11_code (3 : Nat) (Option.some Jvm.ClassFile.FieldType.int), Jvm.Cond.code ({ cls := "java/util/ArrayList", name := "elementData", desc := "(I)Ljava/lang/Object;" } : Jvm.MethodName) jdk_38_method_18_code (2 : Nat) (Option.some (Jvm.ClassFile.FieldType.object "java/lang/Object")), Jvm.Cond.code ({ cls := "com/example/lanc/lanc/model/StateValuations$Variable", name := "high", desc := "()I" } : Jvm.MethodName) prog_104_method_9_code (1 : Nat) (Option.some Jvm.ClassFile.FieldType.int), Jvm.Cond.code ({ cls := "com/example/lanc/lanc/model/StateValuations$Variable", name := "low", desc := "()I" } : Jvm.MethodName) prog_104_method_8_code (1 : Nat) (Option.some Jvm.ClassFile.FieldType.int), Jvm.Cond.code ({ cls := "java/lang/Long", name := "numberOfLeadingZeros", desc := "(J)I" } : Jvm.MethodName) jdk_35_method_48_code (3 : Nat) (Option.some Jvm.ClassFile.FieldType.int), Jvm.Cond.code ({ cls := "java/lang/Integer", name := "numberOfLeadingZeros", desc := "(I)I" } : Jvm.MethodName) jdk_33_method_47_code (2 : Nat) (Option.some Jvm.ClassFile.FieldType.int), Jvm.Cond.code ({ cls := "com/example/lanc/lanc/model/VariableLayout", name := "value", desc := "([JII)I" } : Jvm.MethodName) prog_105_method_5_code (6 : Nat) (Option.some Jvm.ClassFile.FieldType.int)]
set_option maxRecDepth 65536 in
theorem codes_eq : words1.filter isCode = codes1 := rfl
theorem w_codes : ∀ c ∈ words1.filter isCode, c.before args0 about1 = true := by
  rw [codes_eq]
  intro c hc
  simp only [codes1, List.mem_cons, List.not_mem_nil, or_false] at hc
  rcases hc with rfl | rfl | rfl | rfl | rfl | rfl | rfl | rfl | rfl | rfl | rfl | rfl | rfl | rfl | rfl | rfl | rfl | rfl | rfl | rfl | rfl | rfl | rfl | rfl | rfl
  · exact w_c0
  · exact w_c1
  · exact w_c2
  · exact w_c3
  · exact w_c4
  · exact w_c5
  · exact w_c6
  · exact w_c7
  · exact w_c8
  · exact w_c9
  · exact w_c10
  · exact w_c11
  · exact w_c12
  · exact w_c13
  · exact w_c14
  · exact w_c15
  · exact w_c16
  · exact w_c17
  · exact w_c18
  · exact w_c19
  · exact w_c20
  · exact w_c21
  · exact w_c22
  · exact w_c23
  · exact w_c24
set_option maxRecDepth 65536 in
theorem w_t1 : (words1.take 24).all (fun c => isCode c || c.before args0 about1) = true := by decide +kernel
set_option maxRecDepth 65536 in
theorem w_t2 : ((words1.drop 24).take 24).all (fun c => isCode c || c.before args0 about1) = true := by decide +kernel
set_option maxRecDepth 65536 in
theorem w_t3 : (((words1.drop 24).drop 24).take 24).all (fun c => isCode c || c.before args0 about1) = true := by decide +kernel
set_option maxRecDepth 65536 in
theorem w_t4 : ((((words1.drop 24).drop 24).drop 24).take 24).all (fun c => isCode c || c.before args0 about1) = true := by decide +kernel
set_option maxRecDepth 65536 in
theorem w_t5 : (((((words1.drop 24).drop 24).drop 24).drop 24).take 24).all (fun c => isCode c || c.before args0 about1) = true := by decide +kernel
set_option maxRecDepth 65536 in
theorem w_t6 : ((((((words1.drop 24).drop 24).drop 24).drop 24).drop 24).take 24).all (fun c => isCode c || c.before args0 about1) = true := by decide +kernel
set_option maxRecDepth 65536 in
theorem w_t7 : (((((((words1.drop 24).drop 24).drop 24).drop 24).drop 24).drop 24).take 24).all (fun c => isCode c || c.before args0 about1) = true := by decide +kernel
set_option maxRecDepth 65536 in
theorem w_t8 : (((((((words1.drop 24).drop 24).drop 24).drop 24).drop 24).drop 24).drop 24).all (fun c => isCode c || c.before args0 about1) = true := by decide +kernel
theorem w_tables : (allAtoms (Jvm.Cond.code x code maxLocals ret :: tables_1)).before args0 about1 = true := by
  rw [allAtoms_all]
  show words1.all (fun c => c.before args0 about1) = true
  refine all_split ?_ w_codes
  rw [← List.take_append_drop 24 words1, List.all_append, w_t1, ← List.take_append_drop 24 (words1.drop 24), List.all_append, w_t2, ← List.take_append_drop 24 ((words1.drop 24).drop 24), List.all_append, w_t3, ← List.take_append_drop 24 (((words1.drop 24).drop 24).drop 24), List.all_append, w_t4, ← List.take_append_drop 24 ((((words1.drop 24).drop 24).drop 24).drop 24), List.all_append, w_t5, ← List.take_append_drop 24 (((((words1.drop 24).drop 24).drop 24).drop 24).drop 24), List.all_append, w_t6, ← List.take_append_drop 24 ((((((words1.drop 24).drop 24).drop 24).drop 24).drop 24).drop 24), List.all_append, w_t7, w_t8]
  rfl
set_option maxRecDepth 65536 in
theorem w_rest : rest_1_c.before args0 about1 = true := by decide +kernel
set_option maxRecDepth 65536 in
theorem w_case : (Jvm.Cond.and given_1 narrow_1).before args0 about1 = true := by decide +kernel
theorem w_applies : (headSpec (Jvm.Cond.code x code maxLocals ret :: tables_1) room_1).applies x e0.platform about1 = true :=
  (Spec.applies_iff w_frames).mpr ⟨w_running, w_runnable, w_alone, w_named, w_hears, w_ripe, w_room, w_tables⟩
theorem atStart : AtStart classFile x code maxLocals ret World_1 tables_1 room_1 Calls_1 rest_1 Pre_1 launch0 p0 e0 about1 theMethod args0 below0 :=
  ⟨lists_1, trivial, launch0.admits_env _ _ _, launch0.least_env, fairChoices_fair.cas, fairChoices_fair.clock, w_frames, w_args, w_heap, w_applies, trivial, w_rest, w_case⟩
end start1
theorem witness_1 : WitnessClaimed_1 := ⟨start1.p0, start1.e0, start1.about1, start1.theMethod, start1.args0, start1.below0, start1.atStart⟩
end Jvm.Pilot.@@N@@
