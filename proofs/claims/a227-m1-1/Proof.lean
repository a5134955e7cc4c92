import JvmDerived
import JvmDerived.Pilot.@@N@@Statement
import JvmDerived.Pilot.@@N@@Code
set_option linter.unusedVariables false
set_option linter.unusedSimpArgs false
namespace Jvm.RoadKit
open Sem ClassFile Op Lib Jvm.Stand Jvm.Free Jvm.LawKit
section New
variable {p : Program} {l : Launch} {e : Env} {R : Room} {s : State} {m : MethodId} {args : Array Value} {below : List Frame} {meth : Method} {c : Code} {T : State} {locs : List Loc} {cells slots : Nat}
theorem retI (X : Stand p l e R s m args below meth c T locs cells slots) (hx : p.tables.exec = Jvm.exec) {pc : Nat} {Ls : Array Slot} {z : Int32} {rest : List Value} (hret : meth.sig.returnType = some .int) (hd : decode c.code pc = .ok (.ireturn, 1)) {fs : List Frame}
    (hl : ∀ (f : JFrame) (acts : List Action), f.method = m → f.locked = none → f.entered = [] → (doReturn e (T.setTop f) acts (some (.int z))).1 = T.setFrames fs) : Steps p.tables e below (T.setTop (mkF m pc Ls (.int z :: rest))) (T.setFrames fs) := by
  have hm' : T.vm.method? m = some meth := X.method'
  have hn : narrow .int (.int z) = .int z := rfl
  show Steps p.tables e below (T.setTop { method := m, pc := pc, locals := Ls, stack := _ :: rest, locked := none }) _
  jvm_step X.here [X.here.top, hx, hd, hm', hret, hn]
  first | (intro acts; rw [hl _ acts rfl rfl rfl]) | rw [hl _ _ rfl rfl rfl]
  exact Steps.refl _
theorem retL (X : Stand p l e R s m args below meth c T locs cells slots) (hx : p.tables.exec = Jvm.exec) {pc : Nat} {Ls : Array Slot} {z : Int64} {rest : List Value} (hret : meth.sig.returnType = some .long) (hd : decode c.code pc = .ok (.lreturn, 1)) {fs : List Frame}
    (hl : ∀ (f : JFrame) (acts : List Action), f.method = m → f.locked = none → f.entered = [] → (doReturn e (T.setTop f) acts (some (.long z))).1 = T.setFrames fs) : Steps p.tables e below (T.setTop (mkF m pc Ls (.long z :: rest))) (T.setFrames fs) := by
  have hm' : T.vm.method? m = some meth := X.method'
  have hn : narrow .long (.long z) = .long z := rfl
  show Steps p.tables e below (T.setTop { method := m, pc := pc, locals := Ls, stack := _ :: rest, locked := none }) _
  jvm_step X.here [X.here.top, hx, hd, hm', hret, hn]
  first | (intro acts; rw [hl _ acts rfl rfl rfl]) | rw [hl _ _ rfl rfl rfl]
  exact Steps.refl _
end New
end Jvm.RoadKit
namespace Jvm.Pilot.@@N@@
open Jvm Jvm.ClassFile Sem Op Lib Jvm.Free Jvm.Stand Jvm.LawKit Jvm.RoadKit Bundle Jvm.Pilot.@@N@@.Jvm.D
set_option maxRecDepth 65536
set_option maxHeartbeats 40000000
theorem ow {Z : State} {a0 : Array Value} (hw : ∀ d ∈ tables_1, d.before a0 Z = true) (i : Nat) {d : Jvm.Cond} (h : tables_1[i]? = some d) : d.before a0 Z = true := hw d (List.mem_of_getElem? h)
abbrev rmk (f c s l : Nat) : Room := { frames := f, cells := c, slots := s, locals := l }
abbrev MetB (l : Launch) (y : MethodName) (bytes : ByteArray) (maxL : Nat) (ret : Option FieldType) (ws : List Jvm.Cond) (rm : Room) (Z : State) (h0 : Heap) (as' : Array Value) (Q : Option Value → Heap → List Loc → Prop) : Prop :=
  MetFree l y (head1 (Jvm.Cond.code y bytes maxL ret :: ws) rm) (fun a U => a = as' ∧ Z.Warmed39 U.vm ∧ U.heap = h0) (fun _ _ _ _ _ => True) (fun _ U o U' => ∃ v L, o = .returned v ∧ Q v U'.heap L ∧ FrameEnd U o U' L rm.cells rm.slots)
theorem own_body {l : Launch} {y : MethodName} {bytes : ByteArray} {maxL : Nat} {ret : Option FieldType} {ws : List Jvm.Cond} {rm : Room} {Z : State} {h0 : Heap} {as' : Array Value} {Q : Option Value → Heap → List Loc → Prop} (hpl : plainFor y = true)
    (body : ∀ (p : Program) (e : Env) (s : State) (m : MethodId) (below : List Frame) (meth : Method) (c : Code) (s₁ : State), p.tables.exec = Jvm.exec → c.code = bytes → c.maxLocals = maxL → s.vm.findClass y.cls = some m.cls → meth.name = y.name → meth.sig.returnType = ret → meth.locks = false → Z.Warmed39 s.vm → Stand p l e rm s m as' below meth c s₁ [] 0 0 → s₁.heap = h0 →
      ∃ s₂ o, Steps p.tables e below (s₁.setTop (entryFrame m as' maxL)) s₂ ∧ s₂.status = .running ∧ Ended s₂ below o ∧ ∃ v L, o = .returned v ∧ Q v s₂.heap L ∧ FrameEnd s o s₂ L rm.cells rm.slots) : MetB l y bytes maxL ret ws rm Z h0 as' Q := by
  refine MetFree.of_bodySF hpl hisR ?_
  intro p e s m args below meth c s₁ Bd hml0 hP hK
  obtain ⟨rfl, hZ, hh⟩ := hP
  exact body p e s m below meth c s₁ Bd.exec Bd.bytes hml0 (findClass_of_methodNamed Bd.named) (name_of_methodNamed Bd.named Bd.method).1 Bd.returns Bd.notSynchronized hZ (Stand.of_body Bd) (by rw [← hh, Bd.state]; rfl)
abbrev MetBW (l : Launch) (y : MethodName) (bytes : ByteArray) (maxL : Nat) (ret : Option FieldType) (ws : List Jvm.Cond) (rm : Room) (Z : State) (h0 : Heap) (as' : Array Value) (Q : Option Value → Heap → List Loc → Prop) : Prop :=
  MetFree l y (head1 (Jvm.Cond.code y bytes maxL ret :: ws) rm) (fun a U => a = as' ∧ Z.Warmed39 U.vm ∧ U.heap = h0) (fun _ _ _ _ _ => True) (fun _ U o U' => ∃ v L, o = .returned v ∧ Q v U'.heap L ∧ ReturnedEndW U o U' L rm.cells rm.slots)
theorem own_bodyW {l : Launch} {y : MethodName} {bytes : ByteArray} {maxL : Nat} {ret : Option FieldType} {ws : List Jvm.Cond} {rm : Room} {Z : State} {h0 : Heap} {as' : Array Value} {Q : Option Value → Heap → List Loc → Prop} (hpl : plainFor y = true)
    (body : ∀ (p : Program) (e : Env) (s : State) (m : MethodId) (below : List Frame) (meth : Method) (c : Code) (s₁ : State), p.tables.exec = Jvm.exec → c.code = bytes → c.maxLocals = maxL → (s.setVm s.vm).vm.findClass y.cls = some m.cls → meth.name = y.name → meth.sig.returnType = ret → meth.locks = false → Z.Warmed39 (s.setVm s.vm).vm → Stand p l e rm (s.setVm s.vm) m as' below meth c s₁ [] 0 0 → s₁.heap = h0 → s.Since s.vm h0.size →
      ∃ s₂ o, Steps p.tables e below (s₁.setTop (entryFrame m as' maxL)) s₂ ∧ s₂.status = .running ∧ Ended s₂ below o ∧ ∃ v L, o = .returned v ∧ Q v s₂.heap L ∧ ReturnedEndW s o s₂ L rm.cells rm.slots) : MetBW l y bytes maxL ret ws rm Z h0 as' Q := by
  refine MetFree.of_bodySF hpl hisR ?_
  intro p e s m args below meth c s₁ Bd hml0 hP hK
  obtain ⟨rfl, hZ, hh⟩ := hP
  exact body p e s m below meth c s₁ Bd.exec Bd.bytes hml0 (findClass_of_methodNamed Bd.named) (name_of_methodNamed Bd.named Bd.method).1 Bd.returns Bd.notSynchronized hZ (Stand.of_body Bd) (by rw [← hh, Bd.state]; rfl) ((State.WarmedH.refl s).since _)
abbrev vr (a : Addr) : Slot := .val (.ref a)
abbrev vi (a : Int32) : Slot := .val (.int a)
abbrev vl (a : Int64) : Slot := .val (.long a)
theorem own_sz {Z : State} {n0 : Nat} {h : Heap} (O : Old Z n0 h) : n0 ≤ h.size := O.1 ▸ O.2.1
theorem own_eq_int {args : Array Value} {first s : State} {o : Option Outcome} {idx : List Nat} {t : Term} {k : Int32} (h : (Jvm.Cond.eq t (.int k)).value args first o s idx = some true) : t.eval args first o idx s = some (.int k) := by
  simp only [Jvm.Cond.value, Term.eval] at h
  cases ht : t.eval args first o idx s with
  | none => simp [ht] at h
  | some x => cases x <;> simp [ht] at h ⊢; exact h
theorem own_eq_long {args : Array Value} {first s : State} {o : Option Outcome} {idx : List Nat} {t : Term} {k : Int64} (h : (Jvm.Cond.eq t (.long k)).value args first o s idx = some true) : t.eval args first o idx s = some (.long k) := by
  simp only [Jvm.Cond.value, Term.eval] at h
  cases ht : t.eval args first o idx s with
  | none => simp [ht] at h
  | some x => cases x <;> simp [ht] at h ⊢; exact h
theorem own_selp {s : State} {args : Array Value} {y : MethodName} {n : Nat} (wi : (Jvm.Cond.instantiable y.cls n).before args s = true) (wp : (Jvm.Cond.privateMethod y).before args s = true) (wm : (Jvm.Cond.instanceMethod y).before args s = true) (hy : y.cls ≠ "java/lang/invoke/MethodHandle" ∧ y.cls ≠ "java/lang/invoke/VarHandle") : (Jvm.Cond.selects y.cls y y).before args s = true := by
  obtain ⟨c, k, hc, hk, -, hni, -, -⟩ := Cond.instantiable_spec wi
  exact selects_self_of_private hc hk (Bool.or_eq_false_iff.mp hni).1 (Cond.privateMethod_at wp) wm hy
theorem own_getR {p : Program} {l : Launch} {e : Env} {R : Room} {s : State} {m : MethodId} {args : Array Value} {below : List Frame} {meth : Method} {c : Code} {T : State} {locs : List Loc} {cells slots : Nat} {Z : State} {a0 : Array Value} {h : Heap} (X : Stand p l e R s m args below meth c T locs cells slots) (hx : p.tables.exec = Jvm.exec) (hZ : Z.Warmed39 s.vm) {own R0 n d : String} {index : Nat} (hown : s.vm.findClass own = some m.cls) (w : (Jvm.Cond.fieldRef own index R0 n d).before a0 Z = true)
    (eT : T.heap = h) {a : Addr} {v : Value} (F : Fld Z h a R0 n d v) {g : JFrame} (hg : g.method = m) {rest : List Value} (hs : g.stack = .ref a :: rest) (hd : decode c.code g.pc = .ok (.getfield index, 3)) : ∃ T', Stand p l e R s m args below meth c T' locs cells slots ∧ T'.heap = h ∧ ∀ target, Steps p.tables e below (T'.setTop { g with pc := g.pc + 3, stack := v :: rest }) target → Steps p.tables e below (T.setTop g) target := by
  obtain ⟨cell, cf, k, i, f, h1, h2, h3, h4, -, -, h7⟩ := F
  have wT := Cond.fieldRef_warmed39 (wtrans hZ X.warmed) w
  obtain ⟨c', k', i', f', q1, q2⟩ := Cond.fieldRef_spec (cur := m.cls) (by show T.vm.findClass own = some m.cls; rw [X.warmed.alike.findClass]; exact hown) wT
  obtain ⟨k'', hf', -⟩ := State.fieldFound?_setVm (s := Z) (wtrans hZ X.warmed).alike h2
  cases hf'.symm.trans q1
  exact ⟨T, X, eT, fun target k => (X.getfieldR hx hg q2 h3 hs (by rw [eT]; exact h1) h4 h7 hd (Steps.refl _)).trans k⟩
theorem own_cloneV {p : Program} {l : Launch} {e : Env} {R : Room} {s : State} {m : MethodId} {args : Array Value} {below : List Frame} {meth : Method} {c : Code} {T : State} {locs : List Loc} {cells slots : Nat} {Z : State} {h : Heap} {a : Addr} {ty : FieldType} (X : Stand p l e R s m args below meth c T locs cells slots) (hx : p.tables.exec = Jvm.exec) (hZ : Z.Warmed39 s.vm) {a0 : Array Value} {own ad : String} {index : Nat} (hown : s.vm.findClass own = some m.cls)
    (w1 : (Jvm.Cond.methodLink own index ⟨ad, "clone", "()Ljava/lang/Object;"⟩).before a0 Z = true) (w2 : (Jvm.Cond.sameMethod ad "java/lang/Object" "clone" "()Ljava/lang/Object;").before a0 Z = true) (w3 : (Jvm.Cond.native ⟨"java/lang/Object", "clone", "()Ljava/lang/Object;"⟩).before a0 Z = true)
    (w4 : (Jvm.Cond.instanceMethod ⟨"java/lang/Object", "clone", "()Ljava/lang/Object;"⟩).before a0 Z = true) (w5 : (Jvm.Cond.selects ad ⟨ad, "clone", "()Ljava/lang/Object;"⟩ ⟨"java/lang/Object", "clone", "()Ljava/lang/Object;"⟩).before a0 Z = true) (w6 : (Jvm.Cond.castable ad "java/lang/Cloneable").before a0 Z = true)
    (eT : T.heap = h) {k : ClassId} {z : Int32} {vs : List Value} {dv : Value} (F : Arv Z h a k ty z vs dv) (E : Exa Z h a ad) {g : JFrame} (hg : g.method = m) (hsize : g.locals.size = c.maxLocals) {rest : List Value} (hst : g.stack = .ref a :: rest) (hd : decode c.code g.pc = .ok (.invokevirtual index, 3))
    (hf : 1 ≤ R.frames) {W cap : Nat} (hW : 2 * g.monitorRoom + (rest.map fun v => v.category).sum ≤ W) (hl : W + 14 ≤ R.locals) (hcap : z.toNatClampNeg ≤ cap) (hc : cells + 1 ≤ R.cells) (hsl : slots + cap ≤ R.slots) :
    ∃ T' h', Stand p l e R s m args below meth c T' locs (cells + 1) (slots + cap) ∧ T'.heap = h' ∧ Ext h h' ∧ Arv Z h' h.size k ty z vs dv ∧ Exa Z h' h.size ad ∧
      ∀ target, Steps p.tables e below (T'.setTop { g with pc := g.pc + 3, stack := .ref h.size :: rest }) target → Steps p.tables e below (T.setTop g) target := by
  obtain ⟨cl, A, q1, S, q3, H, G⟩ := F
  obtain ⟨T', h', X', e', ex, A', E', st⟩ := cloneA X hx hZ hown w1 w2 w3 w4 w5 w6 eT A E (fitC_of A fun i hi v hv => by rw [H i hi] at hv; cases hv; exact G i hi) hg hsize hst hd hf hW hl (by rw [S]; exact hcap) hc hsl
  exact ⟨T', h', X', e', ex, ⟨cloneOf cl, A', q1, S, q3, H, G⟩, E', st⟩
theorem own_cast {Z : State} {h : Heap} {a : Addr} {k : ClassId} {ty : FieldType} {z : Int32} {vs vs' : List Value} {dv : Value} (e : vs = vs') (F : Arv Z h a k ty z vs dv) : Arv Z h a k ty z vs' dv := e ▸ F
theorem own_lc (x : Int64) : lcmpW x x = 0 := (lw_eq x x).mpr rfl
theorem own_b01 {P : Prop} [Decidable P] {y a b : Int32} (h : y = if P then a else b) : y = a ∨ y = b := by rw [h]; split; exact Or.inl rfl; exact Or.inr rfl
abbrev M0 : MethodName := ⟨"com/example/lanc/lanc/model/VariableLayoutPackPinLaw", "span", "(JIZ)J"⟩
abbrev M1 : MethodName := ⟨"com/example/lanc/lanc/model/VariableLayoutPackPinLaw", "low", "(JJZ)J"⟩
abbrev M2 : MethodName := ⟨"com/example/lanc/lanc/model/VariableLayoutPackPinLaw", "pick", "(JJI)I"⟩
abbrev M3 : MethodName := ⟨"java/lang/Math", "max", "(II)I"⟩
abbrev M4 : MethodName := ⟨"java/lang/Integer", "numberOfLeadingZeros", "(I)I"⟩
abbrev M5 : MethodName := ⟨"java/lang/Long", "numberOfLeadingZeros", "(J)I"⟩
abbrev M6 : MethodName := ⟨"java/lang/Record", "<init>", "()V"⟩
abbrev M7 : MethodName := ⟨"com/example/lanc/lanc/model/StateValuations$Variable", "<init>", "(Ljava/lang/String;Lcom/example/lanc/lanc/expression/Type;II)V"⟩
abbrev M8 : MethodName := ⟨"com/example/lanc/lanc/model/VariableLayoutPackPinLaw", "variable", "(Ljava/lang/String;JJZ)Lcom/example/lanc/lanc/model/StateValuations$Variable;"⟩
abbrev M9 : MethodName := ⟨"com/example/lanc/lanc/model/VariableLayoutPackPinLaw", "slot", "([J[JIIIJ)Z"⟩
abbrev M10 : MethodName := ⟨"java/util/AbstractCollection", "<init>", "()V"⟩
abbrev M11 : MethodName := ⟨"java/util/AbstractList", "<init>", "()V"⟩
abbrev M12 : MethodName := ⟨"java/util/ArrayList", "<init>", "()V"⟩
abbrev M13 : MethodName := ⟨"java/util/ArrayList", "grow", "(I)[Ljava/lang/Object;"⟩
abbrev M14 : MethodName := ⟨"java/util/ArrayList", "grow", "()[Ljava/lang/Object;"⟩
abbrev M15 : MethodName := ⟨"java/util/ArrayList", "add", "(Ljava/lang/Object;[Ljava/lang/Object;I)V"⟩
abbrev M16 : MethodName := ⟨"java/util/ArrayList", "add", "(Ljava/lang/Object;)Z"⟩
abbrev M17 : MethodName := ⟨"java/util/ArrayList", "size", "()I"⟩
abbrev M18 : MethodName := ⟨"jdk/internal/util/Preconditions", "checkIndex", "(IILjava/util/function/BiFunction;)I"⟩
abbrev M19 : MethodName := ⟨"java/util/Objects", "checkIndex", "(II)I"⟩
abbrev M20 : MethodName := ⟨"java/util/ArrayList", "elementData", "(I)Ljava/lang/Object;"⟩
abbrev M21 : MethodName := ⟨"java/util/ArrayList", "get", "(I)Ljava/lang/Object;"⟩
abbrev M22 : MethodName := ⟨"com/example/lanc/lanc/model/StateValuations$Variable", "high", "()I"⟩
abbrev M23 : MethodName := ⟨"com/example/lanc/lanc/model/StateValuations$Variable", "low", "()I"⟩
abbrev M24 : MethodName := ⟨"com/example/lanc/lanc/model/VariableLayout", "<init>", "(Ljava/util/List;)V"⟩
abbrev M25 : MethodName := ⟨"java/util/List", "size", "()I"⟩
abbrev M26 : MethodName := ⟨"java/util/List", "get", "(I)Ljava/lang/Object;"⟩
abbrev M27 : MethodName := ⟨"com/example/lanc/lanc/model/VariableLayout", "pack", "([I[JI)V"⟩
abbrev M28 : MethodName := ⟨"com/example/lanc/lanc/model/VariableLayout", "wordsPerState", "()I"⟩
abbrev M29 : MethodName := ⟨"com/example/lanc/lanc/model/VariableLayout", "value", "([JII)I"⟩
abbrev M30 : MethodName := ⟨"java/util/List", "add", "(Ljava/lang/Object;)Z"⟩
abbrev s0n : String := "com/example/lanc/lanc/expression/Type"
abbrev s1n : String := "Lcom/example/lanc/lanc/expression/Type;"
abbrev s2n : String := "java/util/ArrayList"
abbrev s3n : String := "[Ljava/lang/Object;"
abbrev s4n : String := "java/lang/Object"
abbrev s5n : String := "com/example/lanc/lanc/model/StateValuations$Variable"
abbrev s6n : String := "Ljava/lang/String;"
abbrev s7n : String := "java/lang/String"
abbrev s8n : String := "java/util/AbstractList"
abbrev s9n : String := "com/example/lanc/lanc/model/VariableLayout"
abbrev s10n : String := "wordsPerState"
def onesV (k : Int32) : Int64 := if k < (64 : Int32) then (((1 : Int64) <<< (k &&& 0x3f).toInt64) - (1 : Int64)) else (-1 : Int64)
def minV (a b : Int64) : Int64 := if (0 : Int32) < (lcmpW a b) then b else a
def maskV (k : Int32) : Int64 := if k = (0 : Int32) then (0 : Int64) else (((-1 : Int64).toUInt64 >>> (((64 : Int32) - k) &&& 0x3f).toInt64.toUInt64).toInt64)
def nlz32 (x : Int32) : Int32 := if (0 : Int32) < x then
    let n1 := (if x < (65536 : Int32) then (31 : Int32) else (15 : Int32))
    let x1 := (if x < (65536 : Int32) then x else ((x.toUInt32 >>> ((16 : Int32) &&& 31).toUInt32).toInt32))
    let n2 := (if x1 < (256 : Int32) then n1 else (n1 + (-8 : Int32)))
    let x2 := (if x1 < (256 : Int32) then x1 else ((x1.toUInt32 >>> ((8 : Int32) &&& 31).toUInt32).toInt32))
    let n3 := (if x2 < (16 : Int32) then n2 else (n2 + (-4 : Int32)))
    let x3 := (if x2 < (16 : Int32) then x2 else ((x2.toUInt32 >>> ((4 : Int32) &&& 31).toUInt32).toInt32))
    let n4 := (if x3 < (4 : Int32) then n3 else (n3 + (-2 : Int32)))
    let x4 := (if x3 < (4 : Int32) then x3 else ((x3.toUInt32 >>> ((2 : Int32) &&& 31).toUInt32).toInt32))
    (n4 - ((x4.toUInt32 >>> ((1 : Int32) &&& 31).toUInt32).toInt32))
  else if x = (0 : Int32) then (32 : Int32) else (0 : Int32)
def nlz64 (x : Int64) : Int32 := if (((x.toUInt64 >>> ((32 : Int32) &&& 0x3f).toInt64.toUInt64).toInt64).toInt32) = (0 : Int32) then ((32 : Int32) + nlz32 (x.toInt32)) else nlz32 (((x.toUInt64 >>> ((32 : Int32) &&& 0x3f).toInt64.toUInt64).toInt64).toInt32)
abbrev bitsV (l h : Int32) : Int32 := ((64 : Int32) - nlz64 ((h.toInt64) - (l.toInt64)))
def inK (k : Int32) : Prop := ∃ n : Nat, n ≤ 32 ∧ k = Int32.ofNat n
theorem own_ofN (n : Nat) (h : n ≤ 128) : (Int32.ofNat n).toInt = n := by
  have q : ∀ n : Fin 129, (Int32.ofNat n.val).toInt = (n.val : Int) := by decide +kernel
  exact q ⟨n, by omega⟩
theorem own_inK (x : Int32) : inK ((x &&& 63) % 33) := by
  have h1 := c_mask x 63 6 (by decide) (by decide)
  have h2 := (c_irem (x &&& 63) 33 33 (by decide)).1 (by omega)
  refine ⟨((x &&& 63) % 33).toInt.toNat, by omega, Int32.toInt_inj.mp ?_⟩
  rw [own_ofN _ (by omega)]; omega
theorem own_add (a b : Nat) : Int32.ofNat a + Int32.ofNat b = Int32.ofNat (a + b) := (Int32.ofNat_add a b).symm
theorem own_bit1 (n i : Nat) (hn : n ≤ 64) : (onesV (Int32.ofNat n)).toBitVec.getLsbD i = decide (i < n) := by
  have q : ∀ n : Fin 65, ∀ i : Fin 64, (onesV (Int32.ofNat n.val)).toBitVec.getLsbD i.val = decide (i.val < n.val) := by decide +kernel
  rcases Nat.lt_or_ge i 64 with h | h
  · exact q ⟨n, by omega⟩ ⟨i, h⟩
  · rw [BitVec.getLsbD_of_ge _ _ h]; symm; simp; omega
theorem own_mask (n : Nat) (hn : n ≤ 64) : maskV (Int32.ofNat n) = onesV (Int32.ofNat n) := by
  have q : ∀ n : Fin 65, maskV (Int32.ofNat n.val) = onesV (Int32.ofNat n.val) := by decide +kernel
  exact q ⟨n, by omega⟩
theorem own_m64 (n : Nat) (h : n ≤ 128) : (Int32.ofNat n).toBitVec.toNat % 64 = n % 64 := by
  have q : ∀ n : Fin 129, (Int32.ofNat n.val).toBitVec.toNat % 64 = n.val % 64 := by decide +kernel
  exact q ⟨n, by omega⟩
theorem own_shl (x : Int64) (n : Nat) (h : n ≤ 128) : (x <<< (Int32.ofNat n &&& 0x3f).toInt64).toBitVec = x.toBitVec <<< (n % 64) := by
  obtain ⟨h1, h2⟩ := sm64 (Int32.ofNat n) (n % 64) (own_m64 n h)
  rw [Int64.toBitVec_shiftLeft, h1, BitVec.shiftLeft_eq', smod64 _ h2]
theorem own_shr (x : Int64) (n : Nat) (h : n ≤ 128) : ((x.toUInt64 >>> (Int32.ofNat n &&& 0x3f).toInt64.toUInt64).toInt64).toBitVec = x.toBitVec >>> (n % 64) := by
  obtain ⟨h1, h2⟩ := sm64 (Int32.ofNat n) (n % 64) (own_m64 n h)
  have e : ((x.toUInt64 >>> (Int32.ofNat n &&& 0x3f).toInt64.toUInt64).toInt64).toBitVec = x.toBitVec >>> ((Int32.ofNat n &&& 0x3f).toInt64.toBitVec % 64) := rfl
  rw [e, h1, BitVec.ushiftRight_eq', BitVec.toNat_umod, BitVec.toNat_ofNat]
  congr 1
  have : (64#64).toNat = 64 := rfl
  show (n % 64) % 2 ^ 64 % 64 = n % 64
  omega
theorem own_nlz (n : Nat) (hn : n ≤ 32) : ((64 : Int32) - nlz64 (onesV (Int32.ofNat n))) = Int32.ofNat n := by
  have q : ∀ n : Fin 33, ((64 : Int32) - nlz64 (onesV (Int32.ofNat n.val))) = Int32.ofNat n.val := by decide +kernel
  exact q ⟨n, by omega⟩
theorem own_onesR (n : Nat) (hn : n ≤ 32) : 0 ≤ (onesV (Int32.ofNat n)).toInt ∧ (onesV (Int32.ofNat n)).toInt ≤ 4294967295 := by
  have q : ∀ n : Fin 33, 0 ≤ (onesV (Int32.ofNat n.val)).toInt ∧ (onesV (Int32.ofNat n.val)).toInt ≤ 4294967295 := by decide +kernel
  exact q ⟨n, by omega⟩
theorem own_span {k l : Int32} {m lo : Int64} {yl yh : Int32} (hk : inK k) (hm : m = onesV k) (hlo : lo = minV (l.toInt64) ((2147483647 : Int64) - m)) (hl : yl = lo.toInt32) (hh : yh = (lo + m).toInt32) : ¬ yh < yl ∧ yh.toInt64 - yl.toInt64 = m := by
  obtain ⟨n, hn, rfl⟩ := hk
  have h1 := own_onesR n hn
  rw [← hm] at h1
  have h2 := c_i2l l
  have h3 := c_lsub 2147483647 m
  have h4 : (2147483647 : Int64).toInt = 2147483647 := by decide
  have h5 := Int32.toInt_lt l
  have h6 := Int32.le_toInt l
  have h7 := Int64.toInt_lt ((2147483647 : Int64) - m)
  have h8 := Int64.le_toInt ((2147483647 : Int64) - m)
  have h9 : (-2147483648 : Int) ≤ lo.toInt ∧ lo.toInt + m.toInt ≤ 2147483647 := by
    rw [hlo]; unfold minV; split
    · omega
    · rename_i h; rw [lw_gt] at h; rw [Int64.lt_iff_toInt_lt] at h; omega
  have a1 := c_ladd lo m
  have a2 := Int64.toInt_lt (lo + m)
  have a3 := Int64.le_toInt (lo + m)
  have b1 := c_l2i lo
  have b2 := c_l2i (lo + m)
  rw [← hl] at b1
  rw [← hh] at b2
  have b3 := Int32.toInt_lt yl
  have b4 := Int32.le_toInt yl
  have b5 := Int32.toInt_lt yh
  have b6 := Int32.le_toInt yh
  have e1 : yl.toInt = lo.toInt := by omega
  have e2 : yh.toInt = lo.toInt + m.toInt := by omega
  refine ⟨by rw [Int32.lt_iff_toInt_lt]; omega, Int64.toInt_inj.mp ?_⟩
  have c1 := c_lsub yh.toInt64 yl.toInt64
  rw [c_i2l, c_i2l] at c1
  have c2 := Int64.toInt_lt (yh.toInt64 - yl.toInt64)
  have c3 := Int64.le_toInt (yh.toInt64 - yl.toInt64)
  omega
theorem own_bits {k l : Int32} {m lo : Int64} {yl yh : Int32} (hk : inK k) (hm : m = onesV k) (hlo : lo = minV (l.toInt64) ((2147483647 : Int64) - m)) (hl : yl = lo.toInt32) (hh : yh = (lo + m).toInt32) : bitsV yl yh = k := by
  have h := (own_span hk hm hlo hl hh).2
  obtain ⟨n, hn, rfl⟩ := hk
  show (64 : Int32) - nlz64 (yh.toInt64 - yl.toInt64) = _
  rw [h, hm]; exact own_nlz n hn
theorem own_le64 {n : Nat} (h : n ≤ 128) : ((64 : Int32) < Int32.ofNat n) ↔ 64 < n := by
  rw [Int32.lt_iff_toInt_lt, own_ofN n h]
  have : (64 : Int32).toInt = 64 := by decide
  omega
theorem own_a64 {k0 : Int32} (h0 : inK k0) : ¬ (64 : Int32) < ((0 : Int32) + k0) := by
  obtain ⟨n, hn, rfl⟩ := h0
  rw [Int32.zero_add, own_le64 (by omega)]; omega
theorem own_b64 {k0 k1 : Int32} (h0 : inK k0) (h1 : inK k1) : ¬ (64 : Int32) < (((0 : Int32) + k0) + k1) := by
  obtain ⟨n, hn, rfl⟩ := h0
  obtain ⟨n', hn', rfl⟩ := h1
  rw [Int32.zero_add, own_add, own_le64 (by omega)]; omega
theorem own_toI32 (a b : Int64) : a.toInt32 + b.toInt32 = (a + b).toInt32 := (Int64.toInt32_add a b).symm
theorem own_not (x : Int64) : (x ^^^ (-1 : Int64)).toBitVec = ~~~ x.toBitVec := by
  show x.toBitVec ^^^ (-1 : Int64).toBitVec = _
  rw [show (-1 : Int64).toBitVec = BitVec.allOnes 64 from rfl, BitVec.xor_allOnes]
/-- the first word's low bits -/
theorem own_g0 (p a t : Int64) (n0 n1 u : Nat) (h0 : n0 ≤ 32) (h1 : n1 ≤ 32) (hu : n0 + n1 ≤ u) (hu' : u ≤ 64) (ht : ∀ i, i < n0 + n1 → t.toBitVec.getLsbD i = false) :
    (((((p &&& onesV (Int32.ofNat n0)) ||| ((a &&& onesV (Int32.ofNat n1)) <<< (Int32.ofNat n0 &&& 0x3f).toInt64)) ||| t) ||| (p &&& (onesV (Int32.ofNat u) ^^^ (-1 : Int64)))) &&& maskV (Int32.ofNat n0)) = p &&& onesV (Int32.ofNat n0) := by
  apply Int64.toBitVec_inj.mp
  rw [own_mask n0 (by omega)]
  simp only [Int64.toBitVec_and, Int64.toBitVec_or, own_shl _ n0 (by omega), own_not]
  apply BitVec.eq_of_getLsbD_eq
  intro i hi
  simp only [BitVec.getLsbD_and, BitVec.getLsbD_or, BitVec.getLsbD_shiftLeft, BitVec.getLsbD_not, own_bit1 n0 i (by omega), own_bit1 u i hu']
  by_cases h : i < n0
  · have e1 : i < n0 % 64 := by omega
    have e2 : i < u := by omega
    simp [h, e1, e2, ht i (by omega)]
  · simp [h]
theorem own_g1 (p a t : Int64) (n0 n1 u : Nat) (h0 : n0 ≤ 32) (h1 : n1 ≤ 32) (hu : n0 + n1 ≤ u) (hu' : u ≤ 64) (ht : ∀ i, i < n0 + n1 → t.toBitVec.getLsbD i = false) :
    (((((((p &&& onesV (Int32.ofNat n0)) ||| ((a &&& onesV (Int32.ofNat n1)) <<< (Int32.ofNat n0 &&& 0x3f).toInt64)) ||| t) ||| (p &&& (onesV (Int32.ofNat u) ^^^ (-1 : Int64)))).toUInt64 >>> (Int32.ofNat n0 &&& 0x3f).toInt64.toUInt64).toInt64) &&& maskV (Int32.ofNat n1)) = a &&& onesV (Int32.ofNat n1) := by
  apply Int64.toBitVec_inj.mp
  rw [own_mask n1 (by omega)]
  simp only [Int64.toBitVec_and, Int64.toBitVec_or, own_shl _ n0 (by omega), own_shr _ n0 (by omega), own_not]
  apply BitVec.eq_of_getLsbD_eq
  intro i hi
  simp only [BitVec.getLsbD_and, BitVec.getLsbD_or, BitVec.getLsbD_ushiftRight, BitVec.getLsbD_shiftLeft, BitVec.getLsbD_not, own_bit1 n1 i (by omega), own_bit1 n0 _ (by omega : n0 ≤ 64), own_bit1 n1 _ (by omega : n1 ≤ 64), own_bit1 u _ hu']
  by_cases h : i < n1
  · have e0 : n0 % 64 = n0 := by omega
    have e2 : n0 + i < u := by omega
    have e3 : ¬ (n0 + i < n0) := by omega
    have e4 : n0 + i < 64 := by omega
    have e5 : n0 + i - n0 = i := by omega
    rw [e0, ht (n0 + i) (by omega)]
    simp [h, e2, e3, e4, e5]
  · simp [h]
/-- the third field within the first word -/
theorem own_g2 (p a q : Int64) (n0 n1 n2 : Nat) (h0 : n0 ≤ 32) (h1 : n1 ≤ 32) (h2 : n2 ≤ 32) (hu : n0 + n1 + n2 ≤ 64) :
    (((((((p &&& onesV (Int32.ofNat n0)) ||| ((a &&& onesV (Int32.ofNat n1)) <<< (Int32.ofNat n0 &&& 0x3f).toInt64)) ||| ((q &&& onesV (Int32.ofNat n2)) <<< (Int32.ofNat (n0 + n1) &&& 0x3f).toInt64)) ||| (p &&& (onesV (Int32.ofNat (n0 + n1 + n2)) ^^^ (-1 : Int64)))).toUInt64 >>> (Int32.ofNat (n0 + n1) &&& 0x3f).toInt64.toUInt64).toInt64) &&& maskV (Int32.ofNat n2)) = q &&& onesV (Int32.ofNat n2) := by
  apply Int64.toBitVec_inj.mp
  rw [own_mask n2 (by omega)]
  simp only [Int64.toBitVec_and, Int64.toBitVec_or, own_shl _ n0 (by omega), own_shl _ (n0 + n1) (by omega), own_shr _ (n0 + n1) (by omega), own_not]
  apply BitVec.eq_of_getLsbD_eq
  intro i hi
  simp only [BitVec.getLsbD_and, BitVec.getLsbD_or, BitVec.getLsbD_ushiftRight, BitVec.getLsbD_shiftLeft, BitVec.getLsbD_not, own_bit1 n1 _ (by omega : n1 ≤ 64), own_bit1 n0 _ (by omega : n0 ≤ 64), own_bit1 n2 _ (by omega : n2 ≤ 64), own_bit1 (n0 + n1 + n2) _ hu]
  by_cases h : i < n2
  · have e0 : (n0 + n1) % 64 = n0 + n1 := by omega
    have e2 : n0 + n1 + i < n0 + n1 + n2 := by omega
    have e3 : ¬ (n0 + n1 + i < n0) := by omega
    have e4 : n0 + n1 + i < 64 := by omega
    have e5 : n0 + n1 + i - (n0 + n1) = i := by omega
    have e6 : n0 % 64 = n0 := by omega
    have e7 : ¬ (n0 + n1 + i - n0 < n1) := by omega
    simp [h, e0, e2, e3, e4, e5, e6, e7]
  · simp [h]
theorem own_t2 (q : Int64) (n0 n1 n2 : Nat) (h0 : n0 ≤ 32) (h1 : n1 ≤ 32) (h2 : n2 ≤ 32) (hu : n0 + n1 + n2 ≤ 64) : ∀ i, i < n0 + n1 → ((q &&& onesV (Int32.ofNat n2)) <<< (Int32.ofNat (n0 + n1) &&& 0x3f).toInt64).toBitVec.getLsbD i = false := by
  intro i hi
  rw [own_shl _ (n0 + n1) (by omega), Int64.toBitVec_and, BitVec.getLsbD_shiftLeft, BitVec.getLsbD_and, own_bit1 n2 _ (by omega)]
  rcases Nat.lt_or_ge (n0 + n1) 64 with h | h
  · have e : (n0 + n1) % 64 = n0 + n1 := by omega
    simp [e, hi]
  · have e : n2 = 0 := by omega
    simp [e]
theorem own_sh0 (x : Int64) : ((x.toUInt64 >>> ((0 : Int32) &&& 0x3f).toInt64.toUInt64).toInt64) = x := by
  apply Int64.toBitVec_inj.mp
  have h := own_shr x 0 (by omega)
  rw [show (0 : Int32) = Int32.ofNat 0 from rfl, h]; simp
theorem own_fS {p q a f0 f1 f2 m0 m1 m2 o yw : Int64} {k0 k1 k2 : Int32} (hK0 : inK k0) (hK1 : inK k1) (hK2 : inK k2) (hm0 : m0 = onesV k0) (hm1 : m1 = onesV k1) (hm2 : m2 = onesV k2) (hf0 : f0 = p &&& m0) (hf1 : f1 = a &&& m1) (hf2 : f2 = q &&& m2) (ho : o = onesV (k0 + k1))
    (hyw : yw = (((f0 ||| (f1 <<< (k0 &&& 0x3f).toInt64)) ||| (0 : Int64)) ||| (p &&& (o ^^^ (-1 : Int64))))) :
    (yw &&& maskV k0) = f0 ∧ (((yw.toUInt64 >>> (((0 : Int32) + k0) &&& 0x3f).toInt64.toUInt64).toInt64) &&& maskV k1) = f1 ∧ (q &&& maskV k2) = f2 := by
  obtain ⟨n0, h0, rfl⟩ := hK0
  obtain ⟨n1, h1, rfl⟩ := hK1
  obtain ⟨n2, h2, rfl⟩ := hK2
  rw [own_add] at ho
  have ht : ∀ i, i < n0 + n1 → (0 : Int64).toBitVec.getLsbD i = false := fun i _ => by simp
  subst hm0 hm1 hm2 ho hf0 hf1 hf2 hyw
  refine ⟨own_g0 p a 0 n0 n1 (n0 + n1) h0 h1 (Nat.le_refl _) (by omega) ht, ?_, by rw [own_mask n2 (by omega)]⟩
  rw [Int32.zero_add]
  exact own_g1 p a 0 n0 n1 (n0 + n1) h0 h1 (Nat.le_refl _) (by omega) ht
theorem own_fN {p q a f0 f1 f2 m0 m1 m2 o yw : Int64} {k0 k1 k2 : Int32} (hK0 : inK k0) (hK1 : inK k1) (hK2 : inK k2) (hm0 : m0 = onesV k0) (hm1 : m1 = onesV k1) (hm2 : m2 = onesV k2) (hf0 : f0 = p &&& m0) (hf1 : f1 = a &&& m1) (hf2 : f2 = q &&& m2) (ho : o = onesV ((k0 + k1) + k2))
    (hyw : yw = (((f0 ||| (f1 <<< (k0 &&& 0x3f).toInt64)) ||| (f2 <<< ((k0 + k1) &&& 0x3f).toInt64)) ||| (p &&& (o ^^^ (-1 : Int64))))) (hsp : ¬ (64 : Int32) < ((k0 + k1) + k2)) :
    (yw &&& maskV k0) = f0 ∧ (((yw.toUInt64 >>> (((0 : Int32) + k0) &&& 0x3f).toInt64.toUInt64).toInt64) &&& maskV k1) = f1 ∧ (((yw.toUInt64 >>> ((((0 : Int32) + k0) + k1) &&& 0x3f).toInt64.toUInt64).toInt64) &&& maskV k2) = f2 := by
  obtain ⟨n0, h0, rfl⟩ := hK0
  obtain ⟨n1, h1, rfl⟩ := hK1
  obtain ⟨n2, h2, rfl⟩ := hK2
  rw [own_add, own_add] at ho hsp
  rw [own_le64 (by omega)] at hsp
  rw [own_add] at hyw
  rw [Int32.zero_add, own_add]
  have ht := own_t2 q n0 n1 n2 h0 h1 h2 (by omega)
  subst hm0 hm1 hm2 ho hf0 hf1 hf2 hyw
  exact ⟨own_g0 p a _ n0 n1 (n0 + n1 + n2) h0 h1 (by omega) (by omega) ht, own_g1 p a _ n0 n1 (n0 + n1 + n2) h0 h1 (by omega) (by omega) ht, own_g2 p a q n0 n1 n2 h0 h1 h2 (by omega)⟩
def spanV (x : Int64) (k b : Int32) : Int64 := if b = (0 : Int32) then (((x &&& (4294967295 : Int64)).toUInt64 >>> (k &&& 0x3f).toInt64.toUInt64).toInt64) else (1 : Int64)
def lowV (x sp : Int64) (b : Int32) : Int64 := if b = (0 : Int32) then (if (0 : Int32) < (lcmpW ((x >>> ((32 : Int32) &&& 0x3f).toInt64) + sp) (2147483647 : Int64)) then ((2147483647 : Int64) - sp) else (x >>> ((32 : Int32) &&& 0x3f).toInt64)) else (0 : Int64)
def pickV (lo sp : Int64) (s : Int32) : Int32 := ((lo + (((s.toInt64) &&& (4294967295 : Int64)) - (((s.toInt64) &&& (4294967295 : Int64)) / (sp + (1 : Int64))) * (sp + (1 : Int64)))).toInt32)
def fld (w : Int64) (v l s : Int32) : Int64 := (w ||| (((v.toInt64) - (l.toInt64)) <<< (s &&& 0x3f).toInt64))
def sA (o i : Int32) (x y : Int64) : Int64 := if o = i then x else y
def sB (o i : Int32) (x z y : Int64) : Int64 := if o = i then x else if o + (1 : Int32) = i then z else y
abbrev inO (o : Int32) : Prop := o = 0 ∨ o = 1 ∨ o = 2 ∨ o = 3
abbrev inB (x : Int32) : Prop := x = 0 ∨ x = 1
def slotOk (j o n : Int32) (g a b : Int64) : Prop := (j < o ∨ ¬ j < (o + n) → a = g ∧ b = (g ^^^ (-1 : Int64))) ∧ (¬ j < o → j < (o + n) → a = b)
theorem own_O (x : Int32) : inO (x &&& 3) := by
  have h := c_mask x 3 2 (by decide) (by decide)
  have h3 : (x &&& 3).toInt = 0 ∨ (x &&& 3).toInt = 1 ∨ (x &&& 3).toInt = 2 ∨ (x &&& 3).toInt = 3 := by omega
  rcases h3 with h | h | h | h
  · exact Or.inl (Int32.toInt_inj.mp (h.trans (by decide)))
  · exact Or.inr (Or.inl (Int32.toInt_inj.mp (h.trans (by decide))))
  · exact Or.inr (Or.inr (Or.inl (Int32.toInt_inj.mp (h.trans (by decide)))))
  · exact Or.inr (Or.inr (Or.inr (Int32.toInt_inj.mp (h.trans (by decide)))))
theorem own_spR (x : Int64) (n : Nat) (hn : n ≤ 32) : 0 ≤ (((x &&& (4294967295 : Int64)).toUInt64 >>> (Int32.ofNat n &&& 0x3f).toInt64.toUInt64).toInt64).toInt ∧ (((x &&& (4294967295 : Int64)).toUInt64 >>> (Int32.ofNat n &&& 0x3f).toInt64.toUInt64).toInt64).toInt ≤ 4294967295 := by
  have h1 : (x &&& (4294967295 : Int64)).toInt = x.toInt % 4294967296 := c_maskL x 4294967295 32 (by decide) (by decide)
  rcases Nat.eq_zero_or_pos n with h | h
  · subst h
    have := own_sh0 (x &&& (4294967295 : Int64))
    rw [show Int32.ofNat 0 = (0 : Int32) from rfl, this]; omega
  · have h2 := c_lushr (x &&& (4294967295 : Int64)) (Int32.ofNat n) n ((own_m64 n (by omega)).trans (by omega)) h
    have hp : (0 : Int) ≤ ((2 ^ n : Nat) : Int) := Int.natCast_nonneg _
    have h3 : (0 : Int) ≤ ((x &&& (4294967295 : Int64)).toInt % 18446744073709551616) / ((2 ^ n : Nat) : Int) := Int.ediv_nonneg (by omega) hp
    have h4 : ((x &&& (4294967295 : Int64)).toInt % 18446744073709551616) / ((2 ^ n : Nat) : Int) ≤ (x &&& (4294967295 : Int64)).toInt % 18446744073709551616 := Int.ediv_le_self _ (by omega)
    rw [h2]; generalize ((x &&& (4294967295 : Int64)).toInt % 18446744073709551616) / ((2 ^ n : Nat) : Int) = q at *
    omega
theorem own_loR (x sp : Int64) (q : 0 ≤ sp.toInt ∧ sp.toInt ≤ 4294967295) (y : Int64) (hy : y.toInt = x.toInt / 4294967296) : -2147483648 ≤ (if (0 : Int32) < (lcmpW (y + sp) (2147483647 : Int64)) then ((2147483647 : Int64) - sp) else y).toInt ∧ (if (0 : Int32) < (lcmpW (y + sp) (2147483647 : Int64)) then ((2147483647 : Int64) - sp) else y).toInt + sp.toInt ≤ 2147483647 := by
  have e1 : (2147483647 : Int64).toInt = 2147483647 := by decide
  have h2 := Int64.toInt_lt x
  have h3 := Int64.le_toInt x
  have h4 := c_ladd y sp
  have h5 := Int64.toInt_lt (y + sp)
  have h6 := Int64.le_toInt (y + sp)
  split
  · have h7 := c_lsub 2147483647 sp
    have h8 := Int64.toInt_lt ((2147483647 : Int64) - sp)
    have h9 := Int64.le_toInt ((2147483647 : Int64) - sp)
    omega
  · rename_i h; rw [lw_gt, Int64.lt_iff_toInt_lt] at h; omega
theorem own_rng {x sp lo : Int64} {k b : Int32} (hk : inK k) (hs : sp = spanV x k b) (hl : lo = lowV x sp b) : (0 ≤ sp.toInt ∧ sp.toInt ≤ 4294967295) ∧ (-2147483648 ≤ lo.toInt ∧ lo.toInt + sp.toInt ≤ 2147483647) ∧ (b = 0 ∨ (lo = 0 ∧ sp = 1)) := by
  obtain ⟨n, hn, rfl⟩ := hk
  by_cases hb : b = (0 : Int32)
  · have q1 : 0 ≤ sp.toInt ∧ sp.toInt ≤ 4294967295 := by
      rw [hs, spanV, if_pos hb]; exact own_spR x n hn
    refine ⟨q1, ?_, Or.inl hb⟩
    rw [hl, lowV, if_pos hb]
    exact own_loR x sp q1 _ (c_lshr x 32 32 (by decide))
  · rw [spanV, if_neg hb] at hs
    rw [lowV, if_neg hb] at hl
    subst hs hl
    exact ⟨⟨by decide, by decide⟩, ⟨by decide, by decide⟩, Or.inr ⟨rfl, rfl⟩⟩
theorem own_sp1 {sp : Int64} (h : 0 ≤ sp.toInt ∧ sp.toInt ≤ 4294967295) : (sp + (1 : Int64)) ≠ 0 := by
  intro e
  have h1 := c_ladd sp 1
  have e2 : (1 : Int64).toInt = 1 := by decide
  have e3 : (0 : Int64).toInt = 0 := by decide
  rw [e] at h1; omega
theorem own_pick {lo sp : Int64} {s yl v : Int32} (h : 0 ≤ sp.toInt ∧ sp.toInt ≤ 4294967295) (h2 : -2147483648 ≤ lo.toInt ∧ lo.toInt + sp.toInt ≤ 2147483647) (hy : yl = lo.toInt32) (hv : v = pickV lo sp s) : 0 ≤ (v.toInt64 - yl.toInt64).toInt ∧ (v.toInt64 - yl.toInt64).toInt ≤ sp.toInt := by
  have e2 : (1 : Int64).toInt = 1 := by decide
  have a1 := c_maskL s.toInt64 4294967295 32 (by decide) (by decide)
  have a2 := c_ladd sp 1
  have a3 := Int64.toInt_lt (sp + 1)
  have a4 := Int64.le_toInt (sp + 1)
  have a5 : (sp + 1).toInt = sp.toInt + 1 := by omega
  have a6 := (c_lrem ((s.toInt64) &&& (4294967295 : Int64)) (sp + 1) (sp.toInt + 1) a5).1 (by omega)
  have a7 : 0 ≤ ((s.toInt64) &&& (4294967295 : Int64)).toInt % (sp.toInt + 1) := Int.emod_nonneg _ (by omega)
  have a8 : ((s.toInt64) &&& (4294967295 : Int64)).toInt % (sp.toInt + 1) < sp.toInt + 1 := Int.emod_lt_of_pos _ (by omega)
  generalize hr : (((s.toInt64) &&& (4294967295 : Int64)) - (((s.toInt64) &&& (4294967295 : Int64)) / (sp + (1 : Int64))) * (sp + (1 : Int64))) = r at a6
  have hv' : v = (lo + r).toInt32 := by rw [hv, pickV, hr]
  have b1 := c_ladd lo r
  have b2 := Int64.toInt_lt (lo + r)
  have b3 := Int64.le_toInt (lo + r)
  have b4 := c_l2i (lo + r)
  rw [← hv'] at b4
  have b5 := c_l2i lo
  rw [← hy] at b5
  have b6 := Int32.toInt_lt v
  have b7 := Int32.le_toInt v
  have b8 := Int32.toInt_lt yl
  have b9 := Int32.le_toInt yl
  have c1 := c_lsub v.toInt64 yl.toInt64
  rw [c_i2l, c_i2l] at c1
  have c2 := Int64.toInt_lt (v.toInt64 - yl.toInt64)
  have c3 := Int64.le_toInt (v.toInt64 - yl.toInt64)
  omega
theorem own_span2 {lo sp : Int64} {yl yh : Int32} (h : 0 ≤ sp.toInt ∧ sp.toInt ≤ 4294967295) (h2 : -2147483648 ≤ lo.toInt ∧ lo.toInt + sp.toInt ≤ 2147483647) (hl : yl = lo.toInt32) (hh : yh = (lo + sp).toInt32) : ¬ yh < yl ∧ yh.toInt64 - yl.toInt64 = sp := by
  have a1 := c_ladd lo sp
  have a2 := Int64.toInt_lt (lo + sp)
  have a3 := Int64.le_toInt (lo + sp)
  have b1 := c_l2i lo
  have b2 := c_l2i (lo + sp)
  rw [← hl] at b1
  rw [← hh] at b2
  have b3 := Int32.toInt_lt yl
  have b4 := Int32.le_toInt yl
  have b5 := Int32.toInt_lt yh
  have b6 := Int32.le_toInt yh
  have e1 : yl.toInt = lo.toInt := by omega
  have e2 : yh.toInt = lo.toInt + sp.toInt := by omega
  refine ⟨by rw [Int32.lt_iff_toInt_lt]; omega, Int64.toInt_inj.mp ?_⟩
  have c1 := c_lsub yh.toInt64 yl.toInt64
  rw [c_i2l, c_i2l] at c1
  have c2 := Int64.toInt_lt (yh.toInt64 - yl.toInt64)
  have c3 := Int64.le_toInt (yh.toInt64 - yl.toInt64)
  omega
/-- one step of the search for the highest bit -/
theorem own_step (x n B q d : Int32) (S : Nat) (h0 : 0 < x.toInt) (hB : B.toInt = (2 ^ S : Nat)) (hS : 0 < S) (hS' : S ≤ 16) (hx : x.toInt < (2 ^ (2 * S) : Nat)) (hq : q.toBitVec.toNat % 32 = S) (hd : d.toInt = -S) (hn : 0 ≤ n.toInt ∧ n.toInt ≤ 31) :
    ∃ e : Nat, (e = 0 ∨ e = S) ∧ (((if x < B then n else (n + d)).toInt - (n.toInt - e)) % 4294967296 = 0) ∧ (if x < B then x else ((x.toUInt32 >>> (q &&& 31).toUInt32).toInt32)).toInt = x.toInt / (2 ^ e : Nat) ∧ 0 < (if x < B then x else ((x.toUInt32 >>> (q &&& 31).toUInt32).toInt32)).toInt ∧ (if x < B then x else ((x.toUInt32 >>> (q &&& 31).toUInt32).toInt32)).toInt < (2 ^ S : Nat) := by
  by_cases h : x < B
  · rw [if_pos h, if_pos h]
    rw [Int32.lt_iff_toInt_lt, hB] at h
    exact ⟨0, Or.inl rfl, by omega, by simp, h0, h⟩
  · rw [if_neg h, if_neg h]
    rw [Int32.lt_iff_toInt_lt, hB] at h
    have h1 := c_iushr x q S hq hS
    have h2 : x.toInt % 4294967296 = x.toInt := by have := Int32.toInt_lt x; omega
    rw [h2] at h1
    have hp : (0 : Int) < (2 ^ S : Nat) := by exact_mod_cast Nat.two_pow_pos S
    have h3 := c_iadd n d
    refine ⟨S, Or.inr rfl, by omega, h1, ?_, ?_⟩
    · rw [h1]; exact Int.lt_of_lt_of_le Int.zero_lt_one ((Int.le_ediv_iff_mul_le hp).mpr (by omega))
    · rw [h1]; refine Int.ediv_lt_of_lt_mul hp ?_
      rw [show (2 * S) = S + S by omega, Nat.pow_add] at hx
      exact_mod_cast hx
def nlzD (n x : Int32) : Int32 := (n - ((x.toUInt32 >>> ((1 : Int32) &&& 31).toUInt32).toInt32))
def nlzC (n x : Int32) : Int32 := nlzD (if x < (4 : Int32) then n else (n + (-2 : Int32))) (if x < (4 : Int32) then x else ((x.toUInt32 >>> ((2 : Int32) &&& 31).toUInt32).toInt32))
def nlzB (n x : Int32) : Int32 := nlzC (if x < (16 : Int32) then n else (n + (-4 : Int32))) (if x < (16 : Int32) then x else ((x.toUInt32 >>> ((4 : Int32) &&& 31).toUInt32).toInt32))
def nlzA (n x : Int32) : Int32 := nlzB (if x < (256 : Int32) then n else (n + (-8 : Int32))) (if x < (256 : Int32) then x else ((x.toUInt32 >>> ((8 : Int32) &&& 31).toUInt32).toInt32))
theorem own_nlzE (x : Int32) (hp : (0 : Int32) < x) : nlz32 x = nlzA (if x < (65536 : Int32) then (31 : Int32) else (15 : Int32)) (if x < (65536 : Int32) then x else ((x.toUInt32 >>> ((16 : Int32) &&& 31).toUInt32).toInt32)) := by
  unfold nlz32; rw [if_pos hp]; rfl
theorem own_fin5 {x x1 x2 x3 x4 G R : Int} {e1 e2 e3 e4 : Nat} (d1 : e1 = 0 ∨ e1 = 16) (d2 : e2 = 0 ∨ e2 = 8) (d3 : e3 = 0 ∨ e3 = 4) (d4 : e4 = 0 ∨ e4 = 2) (b1 : x1 = x / (2 ^ e1 : Nat)) (b2 : x2 = x1 / (2 ^ e2 : Nat)) (b3 : x3 = x2 / (2 ^ e3 : Nat)) (b4 : x4 = x3 / (2 ^ e4 : Nat)) (f4 : x4 < 4) (c4 : 0 < x4) (g : G = x4 / 2) (hR : R = 31 - e1 - e2 - e3 - e4 - G) : ∃ n : Nat, n ≤ 32 ∧ R = 32 - n ∧ x < (2 ^ n : Nat) := by
  have hG : G = 0 ∨ G = 1 := by omega
  rcases hG with h | h
  · refine ⟨e1 + e2 + e3 + e4 + 1, by omega, by omega, ?_⟩
    rcases d1 with rfl | rfl <;> rcases d2 with rfl | rfl <;> rcases d3 with rfl | rfl <;> rcases d4 with rfl | rfl <;> simp only [Nat.reducePow, Nat.reduceAdd] at b1 b2 b3 b4 ⊢ <;> omega
  · refine ⟨e1 + e2 + e3 + e4 + 2, by omega, by omega, ?_⟩
    rcases d1 with rfl | rfl <;> rcases d2 with rfl | rfl <;> rcases d3 with rfl | rfl <;> rcases d4 with rfl | rfl <;> simp only [Nat.reducePow, Nat.reduceAdd] at b1 b2 b3 b4 ⊢ <;> omega
theorem own_nlz32 (x : Int32) (h0 : 0 < x.toInt) : ∃ n : Nat, n ≤ 32 ∧ (nlz32 x).toInt = 32 - n ∧ x.toInt < (2 ^ n : Nat) := by
  have hx := Int32.toInt_lt x
  have hz : (0 : Int32).toInt = 0 := by decide
  have hp : (0 : Int32) < x := by rw [Int32.lt_iff_toInt_lt, hz]; exact h0
  rw [own_nlzE x hp]
  have e31 : (if x < (65536 : Int32) then (31 : Int32) else (15 : Int32)) = (if x < (65536 : Int32) then (31 : Int32) else ((31 : Int32) + (-16 : Int32))) := by rw [show (31 : Int32) + (-16 : Int32) = 15 by decide]
  rw [e31]
  obtain ⟨e1, d1, a1, b1, c1, f1⟩ := own_step x 31 65536 16 (-16) 16 h0 (by decide) (by decide) (by decide) (by omega) (by decide) (by decide) (by decide)
  generalize (if x < (65536 : Int32) then (31 : Int32) else ((31 : Int32) + (-16 : Int32))) = n1 at *
  generalize (if x < (65536 : Int32) then x else ((x.toUInt32 >>> ((16 : Int32) &&& 31).toUInt32).toInt32)) = x1 at *
  have t1 := Int32.toInt_lt n1
  have t1' := Int32.le_toInt n1
  have q31 : (31 : Int32).toInt = 31 := by decide
  rw [nlzA]
  obtain ⟨e2, d2, a2, b2, c2, f2⟩ := own_step x1 n1 256 8 (-8) 8 c1 (by decide) (by decide) (by decide) (by omega) (by decide) (by decide) (by omega)
  generalize (if x1 < (256 : Int32) then n1 else (n1 + (-8 : Int32))) = n2 at *
  generalize (if x1 < (256 : Int32) then x1 else ((x1.toUInt32 >>> ((8 : Int32) &&& 31).toUInt32).toInt32)) = x2 at *
  have t2 := Int32.toInt_lt n2
  have t2' := Int32.le_toInt n2
  rw [nlzB]
  obtain ⟨e3, d3, a3, b3, c3, f3⟩ := own_step x2 n2 16 4 (-4) 4 c2 (by decide) (by decide) (by decide) (by omega) (by decide) (by decide) (by omega)
  generalize (if x2 < (16 : Int32) then n2 else (n2 + (-4 : Int32))) = n3 at *
  generalize (if x2 < (16 : Int32) then x2 else ((x2.toUInt32 >>> ((4 : Int32) &&& 31).toUInt32).toInt32)) = x3 at *
  have t3 := Int32.toInt_lt n3
  have t3' := Int32.le_toInt n3
  rw [nlzC]
  obtain ⟨e4, d4, a4, b4, c4, f4⟩ := own_step x3 n3 4 2 (-2) 2 c3 (by decide) (by decide) (by decide) (by omega) (by decide) (by decide) (by omega)
  generalize (if x3 < (4 : Int32) then n3 else (n3 + (-2 : Int32))) = n4 at *
  generalize (if x3 < (4 : Int32) then x3 else ((x3.toUInt32 >>> ((2 : Int32) &&& 31).toUInt32).toInt32)) = x4 at *
  have t4 := Int32.toInt_lt n4
  have t4' := Int32.le_toInt n4
  have g : ((x4.toUInt32 >>> ((1 : Int32) &&& 31).toUInt32).toInt32).toInt = (x4.toInt % 4294967296) / 2 := c_iushr x4 1 1 (by decide) (by decide)
  have k := c_isub n4 ((x4.toUInt32 >>> ((1 : Int32) &&& 31).toUInt32).toInt32)
  rw [nlzD]
  have u := Int32.toInt_lt (n4 - ((x4.toUInt32 >>> ((1 : Int32) &&& 31).toUInt32).toInt32))
  have u' := Int32.le_toInt (n4 - ((x4.toUInt32 >>> ((1 : Int32) &&& 31).toUInt32).toInt32))
  have g' : ((x4.toUInt32 >>> ((1 : Int32) &&& 31).toUInt32).toInt32).toInt = x4.toInt / 2 := by omega
  have f4' : x4.toInt < 4 := f4
  exact own_fin5 d1 d2 d3 d4 b1 b2 b3 b4 f4' c4 g' (by omega)
theorem own_nlzR (m : Int64) (h : 0 ≤ m.toInt ∧ m.toInt ≤ 4294967295) : ∃ n : Nat, n ≤ 32 ∧ ((64 : Int32) - nlz64 m) = Int32.ofNat n ∧ m.toInt < (2 ^ n : Nat) := by
  have z0 : (0 : Int32).toInt = 0 := by decide
  have z32 : (32 : Int32).toInt = 32 := by decide
  have z64 : (64 : Int32).toInt = 64 := by decide
  have h1 : (((m.toUInt64 >>> ((32 : Int32) &&& 0x3f).toInt64.toUInt64).toInt64)).toInt = (m.toInt % 18446744073709551616) / 4294967296 := c_lushr m 32 32 (by decide) (by decide)
  have h2 := c_l2i ((m.toUInt64 >>> ((32 : Int32) &&& 0x3f).toInt64.toUInt64).toInt64)
  have h3 : (((m.toUInt64 >>> ((32 : Int32) &&& 0x3f).toInt64.toUInt64).toInt64).toInt32) = (0 : Int32) := Int32.toInt_inj.mp (by
    have a := Int32.toInt_lt (((m.toUInt64 >>> ((32 : Int32) &&& 0x3f).toInt64.toUInt64).toInt64).toInt32)
    have b := Int32.le_toInt (((m.toUInt64 >>> ((32 : Int32) &&& 0x3f).toInt64.toUInt64).toInt64).toInt32)
    omega)
  rw [nlz64, if_pos h3]
  have k := c_l2i m
  have k1 := Int32.toInt_lt m.toInt32
  have k2 := Int32.le_toInt m.toInt32
  by_cases hp : 0 < m.toInt32.toInt
  · obtain ⟨n, hn, hr, hx⟩ := own_nlz32 m.toInt32 hp
    refine ⟨n, hn, Int32.toInt_inj.mp ?_, by omega⟩
    rw [own_ofN n (by omega)]
    have a1 := c_iadd 32 (nlz32 m.toInt32)
    have a2 := Int32.toInt_lt (32 + nlz32 m.toInt32)
    have a3 := Int32.le_toInt (32 + nlz32 m.toInt32)
    have b1 := c_isub 64 (32 + nlz32 m.toInt32)
    have b2 := Int32.toInt_lt (64 - (32 + nlz32 m.toInt32))
    have b3 := Int32.le_toInt (64 - (32 + nlz32 m.toInt32))
    omega
  · have hp' : ¬ (0 : Int32) < m.toInt32 := by rw [Int32.lt_iff_toInt_lt, z0]; exact hp
    by_cases hz : m.toInt32 = (0 : Int32)
    · refine ⟨0, by omega, ?_, ?_⟩
      · rw [nlz32, if_neg hp', if_pos hz]; decide
      · rw [hz, z0] at k; simp; omega
    · refine ⟨32, by omega, ?_, ?_⟩
      · rw [nlz32, if_neg hp', if_neg hz]; decide
      · simp; omega
theorem own_kk {lo sp : Int64} {yl yh : Int32} (h : 0 ≤ sp.toInt ∧ sp.toInt ≤ 4294967295) (h2 : -2147483648 ≤ lo.toInt ∧ lo.toInt + sp.toInt ≤ 2147483647) (hl : yl = lo.toInt32) (hh : yh = (lo + sp).toInt32) {k : Int32} (hk : k = bitsV yl yh) : ∃ n : Nat, n ≤ 32 ∧ k = Int32.ofNat n ∧ sp.toInt < (2 ^ n : Nat) := by
  obtain ⟨n, hn, e, q⟩ := own_nlzR sp h
  refine ⟨n, hn, ?_, q⟩
  rw [hk, ← e, ← (own_span2 h h2 hl hh).2]
/-- a field: its value less its low, and its bits -/
def FOk (v l k : Int32) : Prop := ∃ n : Nat, n ≤ 32 ∧ k = Int32.ofNat n ∧ (v.toInt64 - l.toInt64) = (v.toInt64 - l.toInt64) &&& onesV (Int32.ofNat n)
theorem own_dm (d : Int64) (n : Nat) (hn : n ≤ 32) (h : 0 ≤ d.toInt) (h2 : d.toInt < (2 ^ n : Nat)) : d = d &&& onesV (Int32.ofNat n) := by
  apply Int64.toBitVec_inj.mp
  rw [Int64.toBitVec_and]
  apply BitVec.eq_of_getLsbD_eq
  intro i hi
  rw [BitVec.getLsbD_and, own_bit1 n i (by omega)]
  by_cases c : i < n
  · simp [c]
  · simp only [c, decide_false, Bool.and_false]
    have e : d.toInt = d.toBitVec.toInt := rfl
    rw [BitVec.toInt_eq_toNat_cond] at e
    have hs := d.toBitVec.isLt
    have h3 : d.toBitVec.toNat < 2 ^ n := by
      have hp : (2 ^ n : Nat) ≤ 2 ^ 32 := Nat.pow_le_pow_right (by omega) hn
      split at e
      · omega
      · omega
    exact Nat.testBit_lt_two_pow (Nat.lt_of_lt_of_le h3 (Nat.pow_le_pow_right (by omega) (by omega)))
theorem own_FOk {lo sp : Int64} {s yl yh v k : Int32} (h : 0 ≤ sp.toInt ∧ sp.toInt ≤ 4294967295) (h2 : -2147483648 ≤ lo.toInt ∧ lo.toInt + sp.toInt ≤ 2147483647) (hl : yl = lo.toInt32) (hh : yh = (lo + sp).toInt32) (hk : k = bitsV yl yh) (hv : v = pickV lo sp s) : FOk v yl k := by
  obtain ⟨n, hn, e, q⟩ := own_kk h h2 hl hh hk
  have p := own_pick h h2 hl hv
  exact ⟨n, hn, e, own_dm _ n hn p.1 (by omega)⟩
theorem own_FK {v l k : Int32} (h : FOk v l k) : inK k := by obtain ⟨n, hn, e, -⟩ := h; exact ⟨n, hn, e⟩
theorem own_zz {d : Int64} {n u : Nat} (hn : n ≤ u) (hu : u ≤ 64) (h : d = d &&& onesV (Int32.ofNat n)) : d &&& (onesV (Int32.ofNat u) ^^^ (-1 : Int64)) = 0 := by
  rw [h]
  apply Int64.toBitVec_inj.mp
  simp only [Int64.toBitVec_and, own_not]
  apply BitVec.eq_of_getLsbD_eq
  intro i hi
  simp only [BitVec.getLsbD_and, BitVec.getLsbD_not, own_bit1 n i (by omega), own_bit1 u i hu]
  by_cases c : i < n
  · have : i < u := by omega
    simp [c, this]
  · simp [c]
theorem own_val {X : Int64} {v l : Int32} (h : X = v.toInt64 - l.toInt64) : (l + X.toInt32) = v := by
  rw [h]
  apply Int32.toInt_inj.mp
  have a1 := c_lsub v.toInt64 l.toInt64
  rw [c_i2l, c_i2l] at a1
  have a2 := c_l2i (v.toInt64 - l.toInt64)
  have a3 := c_iadd l (v.toInt64 - l.toInt64).toInt32
  have a4 := Int32.toInt_lt v
  have a5 := Int32.le_toInt v
  have a6 := Int32.toInt_lt (l + (v.toInt64 - l.toInt64).toInt32)
  have a7 := Int32.le_toInt (l + (v.toInt64 - l.toInt64).toInt32)
  omega
theorem own_sl0 (x : Int64) : x <<< ((0 : Int32) &&& 0x3f).toInt64 = x := by
  apply Int64.toBitVec_inj.mp
  have h := own_shl x 0 (by omega)
  rw [show (0 : Int32) = Int32.ofNat 0 from rfl, h]; simp
/-- all three in one word -/
theorem own_bN {v0 l0 k0 v1 l1 k1 v2 l2 k2 : Int32} (h0 : FOk v0 l0 k0) (h1 : FOk v1 l1 k1) (h2 : FOk v2 l2 k2) (hs : ¬ (64 : Int32) < ((k0 + k1) + k2)) {W : Int64} (hW : W = fld (fld (fld (0 : Int64) v0 l0 (0 : Int32)) v1 l1 ((0 : Int32) + k0)) v2 l2 (((0 : Int32) + k0) + k1)) :
    (l0 + ((((W.toUInt64 >>> ((0 : Int32) &&& 0x3f).toInt64.toUInt64).toInt64) &&& (maskV k0)).toInt32)) = v0 ∧ (l1 + ((((W.toUInt64 >>> (((0 : Int32) + k0) &&& 0x3f).toInt64.toUInt64).toInt64) &&& (maskV k1)).toInt32)) = v1 ∧ (l2 + ((((W.toUInt64 >>> ((((0 : Int32) + k0) + k1) &&& 0x3f).toInt64.toUInt64).toInt64) &&& (maskV k2)).toInt32)) = v2 := by
  obtain ⟨n0, g0, rfl, e0⟩ := h0
  obtain ⟨n1, g1, rfl, e1⟩ := h1
  obtain ⟨n2, g2, rfl, e2⟩ := h2
  rw [own_add, own_add, own_le64 (by omega)] at hs
  have z := own_zz (n := n0) (u := n0 + n1 + n2) (by omega) (by omega) e0
  have ew : W = ((((v0.toInt64 - l0.toInt64) &&& onesV (Int32.ofNat n0)) ||| (((v1.toInt64 - l1.toInt64) &&& onesV (Int32.ofNat n1)) <<< (Int32.ofNat n0 &&& 0x3f).toInt64)) ||| (((v2.toInt64 - l2.toInt64) &&& onesV (Int32.ofNat n2)) <<< (Int32.ofNat (n0 + n1) &&& 0x3f).toInt64)) ||| ((v0.toInt64 - l0.toInt64) &&& (onesV (Int32.ofNat (n0 + n1 + n2)) ^^^ (-1 : Int64))) := by
    rw [z, ← e0, ← e1, ← e2, hW]
    simp only [fld, own_sl0, Int32.zero_add, own_add, Int64.zero_or, Int64.or_zero]
  have ht := own_t2 (v2.toInt64 - l2.toInt64) n0 n1 n2 g0 g1 g2 (by omega)
  rw [own_sh0, Int32.zero_add, own_add]
  refine ⟨own_val ?_, own_val ?_, own_val ?_⟩
  · rw [ew]; exact (own_g0 _ _ _ n0 n1 (n0 + n1 + n2) g0 g1 (by omega) (by omega) ht).trans e0.symm
  · rw [ew]; exact (own_g1 _ _ _ n0 n1 (n0 + n1 + n2) g0 g1 (by omega) (by omega) ht).trans e1.symm
  · rw [ew]; exact (own_g2 _ _ _ n0 n1 n2 g0 g1 g2 (by omega)).trans e2.symm
theorem own_bS {v0 l0 k0 v1 l1 k1 v2 l2 k2 : Int32} (h0 : FOk v0 l0 k0) (h1 : FOk v1 l1 k1) (h2 : FOk v2 l2 k2) {W Y : Int64} (hW : W = fld (fld (0 : Int64) v0 l0 (0 : Int32)) v1 l1 ((0 : Int32) + k0)) (hY : Y = fld (0 : Int64) v2 l2 (0 : Int32)) :
    (l0 + ((((W.toUInt64 >>> ((0 : Int32) &&& 0x3f).toInt64.toUInt64).toInt64) &&& (maskV k0)).toInt32)) = v0 ∧ (l1 + ((((W.toUInt64 >>> (((0 : Int32) + k0) &&& 0x3f).toInt64.toUInt64).toInt64) &&& (maskV k1)).toInt32)) = v1 ∧ (l2 + ((((Y.toUInt64 >>> ((0 : Int32) &&& 0x3f).toInt64.toUInt64).toInt64) &&& (maskV k2)).toInt32)) = v2 := by
  obtain ⟨n0, g0, rfl, e0⟩ := h0
  obtain ⟨n1, g1, rfl, e1⟩ := h1
  obtain ⟨n2, g2, rfl, e2⟩ := h2
  have z := own_zz (n := n0) (u := n0 + n1) (by omega) (by omega) e0
  have ew : W = ((((v0.toInt64 - l0.toInt64) &&& onesV (Int32.ofNat n0)) ||| (((v1.toInt64 - l1.toInt64) &&& onesV (Int32.ofNat n1)) <<< (Int32.ofNat n0 &&& 0x3f).toInt64)) ||| (0 : Int64)) ||| ((v0.toInt64 - l0.toInt64) &&& (onesV (Int32.ofNat (n0 + n1)) ^^^ (-1 : Int64))) := by
    rw [z, ← e0, ← e1, hW]
    simp only [fld, own_sl0, Int32.zero_add, Int64.zero_or, Int64.or_zero]
  have ht : ∀ i, i < n0 + n1 → (0 : Int64).toBitVec.getLsbD i = false := fun i _ => by simp
  rw [own_sh0, own_sh0, Int32.zero_add]
  refine ⟨own_val ?_, own_val ?_, own_val ?_⟩
  · rw [ew]; exact (own_g0 _ _ _ n0 n1 (n0 + n1) g0 g1 (by omega) (by omega) ht).trans e0.symm
  · rw [ew]; exact (own_g1 _ _ _ n0 n1 (n0 + n1) g0 g1 (by omega) (by omega) ht).trans e1.symm
  · rw [hY]; simp only [fld, own_sl0, Int64.zero_or]; rw [own_mask n2 (by omega)]; exact e2.symm
-- arrays of six with one or two places written at an offset
theorem own_inb6 {cl : Cell} {o : Int32} {i : Int32} (h : inO o) (hi : i = 0 ∨ i = 1) (S : cl.slots.size = (6 : Int32).toNatClampNeg) : ¬ ((o + i) < 0 ∨ cl.slots.size ≤ (o + i).toNatClampNeg) := by
  rcases h with rfl | rfl | rfl | rfl <;> rcases hi with rfl | rfl <;> exact inb_of S ⟨by decide, by decide⟩
theorem own_lt6 {o i : Int32} {a b c d e f : Value} (h : inO o) (hi : i = 0 ∨ i = 1) : (o + i).toNatClampNeg < [a, b, c, d, e, f].length := by
  rcases h with rfl | rfl | rfl | rfl <;> rcases hi with rfl | rfl <;> exact Nat.le_of_ble_eq_true rfl
abbrev LA (o : Int32) (x g : Int64) : List Value := [.long (sA o (0 : Int32) x g), .long (sA o (1 : Int32) x g), .long (sA o (2 : Int32) x g), .long (sA o (3 : Int32) x g), .long (sA o (4 : Int32) x g), .long (sA o (5 : Int32) x g)]
abbrev LB (o : Int32) (x z g : Int64) : List Value := [.long (sB o (0 : Int32) x z g), .long (sB o (1 : Int32) x z g), .long (sB o (2 : Int32) x z g), .long (sB o (3 : Int32) x z g), .long (sB o (4 : Int32) x z g), .long (sB o (5 : Int32) x z g)]
theorem own_set0 {o : Int32} {x g : Int64} (h : inO o) : [Value.long g, .long g, .long g, .long g, .long g, .long g].set (o + (0 : Int32)).toNatClampNeg (.long x) = LA o x g := by rcases h with rfl | rfl | rfl | rfl <;> rfl
theorem own_setA0 {o : Int32} {x y g : Int64} (h : inO o) : (LA o x g).set (o + (0 : Int32)).toNatClampNeg (.long y) = LA o y g := by rcases h with rfl | rfl | rfl | rfl <;> rfl
theorem own_setA1 {o : Int32} {x y g : Int64} (h : inO o) : (LA o x g).set (o + (1 : Int32)).toNatClampNeg (.long y) = LB o x y g := by rcases h with rfl | rfl | rfl | rfl <;> rfl
theorem own_setB0 {o : Int32} {x z y g : Int64} (h : inO o) : (LB o x z g).set (o + (0 : Int32)).toNatClampNeg (.long y) = LB o y z g := by rcases h with rfl | rfl | rfl | rfl <;> rfl
theorem own_setB1 {o : Int32} {x z y g : Int64} (h : inO o) : (LB o x z g).set (o + (1 : Int32)).toNatClampNeg (.long y) = LB o x y g := by rcases h with rfl | rfl | rfl | rfl <;> rfl
theorem own_getA0 {o : Int32} {x g : Int64} {dv : Value} (h : inO o) : (LA o x g).getD (o + (0 : Int32)).toNatClampNeg dv = .long x := by rcases h with rfl | rfl | rfl | rfl <;> rfl
theorem own_getB0 {o : Int32} {x z g : Int64} {dv : Value} (h : inO o) : (LB o x z g).getD (o + (0 : Int32)).toNatClampNeg dv = .long x := by rcases h with rfl | rfl | rfl | rfl <;> rfl
theorem own_getB1 {o : Int32} {x z g : Int64} {dv : Value} (h : inO o) : (LB o x z g).getD (o + (1 : Int32)).toNatClampNeg dv = .long z := by rcases h with rfl | rfl | rfl | rfl <;> rfl
theorem own_slL {j o n : Int32} {g a b : Int64} (h : slotOk j o n g a b) (c : j < o ∨ ¬ j < (o + n)) : a = g ∧ b = (g ^^^ (-1 : Int64)) := h.1 c
theorem own_slR {j o n : Int32} {g a b : Int64} (h : slotOk j o n g a b) (c : ¬ j < o) (c' : j < (o + n)) : a = b := h.2 c c'
theorem own_slA {o : Int32} (j : Fin 6) {W g : Int64} (h : inO o) : slotOk (Int32.ofNat j.val) o (1 : Int32) g (sA o (Int32.ofNat j.val) W g) (sA o (Int32.ofNat j.val) W (g ^^^ (-1 : Int64))) := by
  have q : ∀ (j : Fin 6) (o : Int32), inO o → (Int32.ofNat j.val < o ∨ ¬ Int32.ofNat j.val < (o + (1 : Int32)) → ¬ o = Int32.ofNat j.val) ∧ (¬ Int32.ofNat j.val < o → Int32.ofNat j.val < (o + (1 : Int32)) → o = Int32.ofNat j.val) := by
    intro j o h; revert j; rcases h with rfl | rfl | rfl | rfl <;> decide +kernel
  obtain ⟨a, b⟩ := q j o h
  refine ⟨fun c => ?_, fun c c' => ?_⟩
  · simp [sA, a c]
  · simp [sA, b c c']
theorem own_slB {o : Int32} (j : Fin 6) {W Y g : Int64} (h : inO o) : slotOk (Int32.ofNat j.val) o (2 : Int32) g (sB o (Int32.ofNat j.val) W Y g) (sB o (Int32.ofNat j.val) W Y (g ^^^ (-1 : Int64))) := by
  have q : ∀ (j : Fin 6) (o : Int32), inO o → (Int32.ofNat j.val < o ∨ ¬ Int32.ofNat j.val < (o + (2 : Int32)) → ¬ o = Int32.ofNat j.val ∧ ¬ o + (1 : Int32) = Int32.ofNat j.val) ∧ (¬ Int32.ofNat j.val < o → Int32.ofNat j.val < (o + (2 : Int32)) → o = Int32.ofNat j.val ∨ o + (1 : Int32) = Int32.ofNat j.val) := by
    intro j o h; revert j; rcases h with rfl | rfl | rfl | rfl <;> decide +kernel
  obtain ⟨a, b⟩ := q j o h
  refine ⟨fun c => ?_, fun c c' => ?_⟩
  · simp [sB, a c]
  · by_cases e : o = Int32.ofNat j.val
    · simp [sB, e]
    · have e' := (b c c').resolve_left e
      simp [sB, e, e']
theorem own_le6 {o : Int32} (h : inO o) : ¬ (6 : Int32) < (o + (1 : Int32)) ∧ ¬ (6 : Int32) < (o + (2 : Int32)) := by rcases h with rfl | rfl | rfl | rfl <;> decide
theorem own_ifb {P : Prop} [Decidable P] {y : Int32} (h : y = if P then (0 : Int32) else (1 : Int32)) : inB y := by rw [h]; split; exact Or.inl rfl; exact Or.inr rfl
abbrev inJ (j : Int32) : Prop := j = 0 ∨ j = 1 ∨ j = 2 ∨ j = 3 ∨ j = 4 ∨ j = 5
def sel6 (j : Int32) (a b c d e f : Int64) : Int64 := if j = 0 then a else if j = 1 then b else if j = 2 then c else if j = 3 then d else if j = 4 then e else f
theorem own_inbJ {cl : Cell} {j : Int32} (h : inJ j) (S : cl.slots.size = (6 : Int32).toNatClampNeg) : ¬ (j < 0 ∨ cl.slots.size ≤ j.toNatClampNeg) := by rcases h with rfl | rfl | rfl | rfl | rfl | rfl <;> exact inb_of S ⟨by decide, by decide⟩
theorem own_getJ {j : Int32} {a b c d e f : Int64} {dv : Value} (h : inJ j) : [Value.long a, .long b, .long c, .long d, .long e, .long f].getD j.toNatClampNeg dv = .long (sel6 j a b c d e f) := by rcases h with rfl | rfl | rfl | rfl | rfl | rfl <;> rfl
theorem own_wS {Z : State} {a0 : Array Value} (hw : ∀ d ∈ tables_1, d.before a0 Z = true) : ∀ a ∈ Bundle.stringAtoms, a.before a0 Z = true := by
  intro a ha
  simp only [Bundle.stringAtoms, List.mem_cons, List.not_mem_nil, or_false] at ha
  rcases ha with rfl | rfl | rfl | rfl | rfl | rfl | rfl
  · first | exact (ow hw 40 rfl) | exact (ow hw 41 rfl) | exact (ow hw 42 rfl) | exact (ow hw 43 rfl) | exact (ow hw 44 rfl) | exact (ow hw 45 rfl) | exact (ow hw 46 rfl)
  · first | exact (ow hw 40 rfl) | exact (ow hw 41 rfl) | exact (ow hw 42 rfl) | exact (ow hw 43 rfl) | exact (ow hw 44 rfl) | exact (ow hw 45 rfl) | exact (ow hw 46 rfl)
  · first | exact (ow hw 40 rfl) | exact (ow hw 41 rfl) | exact (ow hw 42 rfl) | exact (ow hw 43 rfl) | exact (ow hw 44 rfl) | exact (ow hw 45 rfl) | exact (ow hw 46 rfl)
  · first | exact (ow hw 40 rfl) | exact (ow hw 41 rfl) | exact (ow hw 42 rfl) | exact (ow hw 43 rfl) | exact (ow hw 44 rfl) | exact (ow hw 45 rfl) | exact (ow hw 46 rfl)
  · first | exact (ow hw 40 rfl) | exact (ow hw 41 rfl) | exact (ow hw 42 rfl) | exact (ow hw 43 rfl) | exact (ow hw 44 rfl) | exact (ow hw 45 rfl) | exact (ow hw 46 rfl)
  · first | exact (ow hw 40 rfl) | exact (ow hw 41 rfl) | exact (ow hw 42 rfl) | exact (ow hw 43 rfl) | exact (ow hw 44 rfl) | exact (ow hw 45 rfl) | exact (ow hw 46 rfl)
  · first | exact (ow hw 40 rfl) | exact (ow hw 41 rfl) | exact (ow hw 42 rfl) | exact (ow hw 43 rfl) | exact (ow hw 44 rfl) | exact (ow hw 45 rfl) | exact (ow hw 46 rfl)
def SS (Z : State) (wINTEGER : Addr) (wDOUBLE : Addr) (wBOOLEAN : Addr) (wD : Addr) (kwD : ClassId) : Prop := Sta Z Z.heap s0n "INTEGER" s1n (.ref wINTEGER) ∧ Exa Z Z.heap wINTEGER s0n ∧ Sta Z Z.heap s0n "DOUBLE" s1n (.ref wDOUBLE) ∧ Exa Z Z.heap wDOUBLE s0n ∧ Sta Z Z.heap s0n "BOOLEAN" s1n (.ref wBOOLEAN) ∧ Exa Z Z.heap wBOOLEAN s0n ∧ Fld Z Z.heap wINTEGER "java/lang/Enum" "ordinal" "I" (.int 1) ∧ Fld Z Z.heap wDOUBLE "java/lang/Enum" "ordinal" "I" (.int 2) ∧ Fld Z Z.heap wBOOLEAN "java/lang/Enum" "ordinal" "I" (.int 0) ∧ Sta Z Z.heap s2n "DEFAULTCAPACITY_EMPTY_ELEMENTDATA" s3n (.ref wD) ∧ Exa Z Z.heap wD s3n ∧ Arv Z Z.heap wD kwD (.object s4n) (0 : Int32) ([]) .null
theorem ef_rmSpan (m : MethodId) (x0 : Int64) (x1 : Int32) (x2 : Int32)  : entryFrame m #[(.long x0), (.int x1), (.int x2)] 4 = mkF m 0 #[(vl x0), .second, (vi x1), (vi x2)] [] := by first | (simp [entryFrame, mkF, argsToLocals, Value.category]; done) | rfl
theorem pn_com_example_lanc_lanc_model_VariableLayoutPackPinLaw : plainName "com/example/lanc/lanc/model/VariableLayoutPackPinLaw" = true := by first | (simp [plainName, overriddenIn]; done) | decide +kernel
theorem d1_0 : decode method_2_code 0 = .ok (.iload_n 3, 1) := by decide +kernel
theorem d1_1 : decode method_2_code 1 = .ok (.ifCond .eq 7, 3) := by decide +kernel
theorem d1_8 : decode method_2_code 8 = .ok (.lload_n 0, 1) := by decide +kernel
theorem d1_9 : decode method_2_code 9 = .ok (.ldc2_w 7, 3) := by decide +kernel
theorem d1_12 : decode method_2_code 12 = .ok (.land, 1) := by decide +kernel
theorem d1_13 : decode method_2_code 13 = .ok (.iload_n 2, 1) := by decide +kernel
theorem d1_14 : decode method_2_code 14 = .ok (.lushr, 1) := by decide +kernel
theorem d1_15 : decode method_2_code 15 = .ok (.lreturn, 1) := by decide +kernel
theorem d1_4 : decode method_2_code 4 = .ok (.lconst 1, 1) := by decide +kernel
theorem d1_5 : decode method_2_code 5 = .ok (.goto 10, 3) := by decide +kernel
def Q_rmSpan (Z : State) (wINTEGER : Addr) (wDOUBLE : Addr) (wBOOLEAN : Addr) (wD : Addr) (kwD : ClassId) (p1 : Int64) (p2 : Int32) (p3 : Int32) (h0 : Heap) (n0 : Nat) (v : Option Value) (h : Heap) (L : List Loc) : Prop := ∃ (r : Int64), v = some (.long r) ∧ Fr n0 L ∧ h = h0 ∧ r = spanV p1 p2 p3
theorem rmSpan (l : Launch) (Z : State) (a0 : Array Value) (hw : ∀ d ∈ tables_1, d.before a0 Z = true) (ws : List Jvm.Cond) (wINTEGER : Addr) (wDOUBLE : Addr) (wBOOLEAN : Addr) (wD : Addr) (kwD : ClassId) (hS : SS Z wINTEGER wDOUBLE wBOOLEAN wD kwD) (p1 : Int64) (p2 : Int32) (p3 : Int32) (h0 : Heap) (n0 : Nat) (O0 : Old Z n0 h0)  :
    MetB l M0 method_2_code 4 (some .long) ws (rmk 0 0 0 0) Z h0 #[(.long p1), (.int p2), (.int p3)] (Q_rmSpan Z wINTEGER wDOUBLE wBOOLEAN wD kwD p1 p2 p3 h0 n0) := by
  refine own_body (plainFor_of_name pn_com_example_lanc_lanc_model_VariableLayoutPackPinLaw) ?_
  intro p e s m below meth c s₁ hx hby hml hown hnm hret0 hlk0 hZ X0 e0
  have N0 := Fr.nil n0
  have pre0 : ∀ t, Steps p.tables e below (s₁.setTop (mkF m 0 #[(vl p1), .second, (vi p2), (vi p3)] [])) t → Steps p.tables e below (s₁.setTop (entryFrame m #[(.long p1), (.int p2), (.int p3)] 4)) t := fun t k => castTop (ef_rmSpan m p1 p2 p3) k
  have hS0 := hS
  obtain ⟨S_wINTEGER, E_wINTEGER, S_wDOUBLE, E_wDOUBLE, S_wBOOLEAN, E_wBOOLEAN, F_ordinal_wINTEGER, F_ordinal_wDOUBLE, F_ordinal_wBOOLEAN, S_wD, E_wD, V_wD⟩ := hS0
  have pre1 : ∀ t, Steps p.tables e below (s₁.setTop (mkF m 1 #[(vl p1), .second, (vi p2), (vi p3)] [(.int p3)])) t → Steps p.tables e below (s₁.setTop (entryFrame m #[(.long p1), (.int p2), (.int p3)] 4)) t := by
    intro t k
    refine pre0 t ?_
    show Steps p.tables e below (s₁.setTop (mkF m 0 #[(vl p1), .second, (vi p2), (vi p3)] [])) _
    refine XS.iloadN X0.here hx rfl (hb hby d1_0) rfl ?_
    exact k
  rcases Decidable.em (p3 = (0 : Int32)) with hc2 | hc2
  · skip
    obtain ⟨fs, hr, hrun, hended, hW, hsame⟩ := X0.leave (v := some (.long (((p1 &&& (4294967295 : Int64)).toUInt64 >>> (p2 &&& 0x3f).toInt64.toUInt64).toInt64))) (fun h => by rw [hret0] at h; cases h)
    refine ⟨_, _, pre1 _ ?_, hrun, hended, _, _, rfl, ?_, ⟨_, rfl⟩, hW, hsame.mono (by decide) (by decide)⟩
    · skip
      refine XS.ifYes X0.here hx rfl (pc0 := 1) (pc' := 8) rfl (hb hby d1_1) rfl ((if0 _ _).trans (teq hc2).1) (by decide) (by decide) ?_
      refine XS.lloadN X0.here hx rfl (hb hby d1_8) rfl ?_
      refine X0.ldc2Long hx hown (mvT hZ (ow hw 4 rfl)) (g := (mkF m 9 #[(vl p1), .second, (vi p2), (vi p3)] [(.long p1)])) rfl (hb hby d1_9) _ ?_
      refine XS.land X0.here hx rfl (hb hby d1_12) rfl ?_
      refine XS.iloadN X0.here hx rfl (hb hby d1_13) rfl ?_
      refine XS.lushr X0.here hx rfl (hb hby d1_14) rfl ?_
      exact retL X0 hx hret0 (hb hby d1_15) hr
    · show Q_rmSpan Z wINTEGER wDOUBLE wBOOLEAN wD kwD p1 p2 p3 h0 n0 _ s₁.heap _
      rw [e0]
      exact ⟨(((p1 &&& (4294967295 : Int64)).toUInt64 >>> (p2 &&& 0x3f).toInt64.toUInt64).toInt64), rfl, N0, rfl, (by rw [spanV, if_pos hc2])⟩
  · skip
    obtain ⟨fs, hr, hrun, hended, hW, hsame⟩ := X0.leave (v := some (.long 1)) (fun h => by rw [hret0] at h; cases h)
    refine ⟨_, _, pre1 _ ?_, hrun, hended, _, _, rfl, ?_, ⟨_, rfl⟩, hW, hsame.mono (by decide) (by decide)⟩
    · skip
      refine XS.ifNo X0.here hx rfl (hb hby d1_1) rfl ((if0 _ _).trans (feq hc2).1) ?_
      refine XS.lconst X0.here hx rfl (hb hby d1_4) ?_
      refine XS.goto X0.here hx rfl (pc0 := 5) (pc' := 15) rfl (hb hby d1_5) (by decide) (by decide) ?_
      exact retL X0 hx hret0 (hb hby d1_15) hr
    · show Q_rmSpan Z wINTEGER wDOUBLE wBOOLEAN wD kwD p1 p2 p3 h0 n0 _ s₁.heap _
      rw [e0]
      exact ⟨(1 : Int64), rfl, N0, rfl, (by rw [spanV, if_neg hc2])⟩
theorem ef_rmLow (m : MethodId) (x0 : Int64) (x1 : Int64) (x2 : Int32)  : entryFrame m #[(.long x0), (.long x1), (.int x2)] 7 = mkF m 0 #[(vl x0), .second, (vl x1), .second, (vi x2), .unset, .unset] [] := by first | (simp [entryFrame, mkF, argsToLocals, Value.category]; done) | rfl
theorem d2_0 : decode method_3_code 0 = .ok (.iload 4, 2) := by decide +kernel
theorem d2_2 : decode method_3_code 2 = .ok (.ifCond .eq 5, 3) := by decide +kernel
theorem d2_7 : decode method_3_code 7 = .ok (.lload_n 0, 1) := by decide +kernel
theorem d2_8 : decode method_3_code 8 = .ok (.bipush 32, 2) := by decide +kernel
theorem d2_10 : decode method_3_code 10 = .ok (.lshr, 1) := by decide +kernel
theorem d2_11 : decode method_3_code 11 = .ok (.lstore 5, 2) := by decide +kernel
theorem d2_13 : decode method_3_code 13 = .ok (.lload 5, 2) := by decide +kernel
theorem d2_15 : decode method_3_code 15 = .ok (.lload_n 2, 1) := by decide +kernel
theorem d2_16 : decode method_3_code 16 = .ok (.ladd, 1) := by decide +kernel
theorem d2_17 : decode method_3_code 17 = .ok (.ldc2_w 11, 3) := by decide +kernel
theorem d2_20 : decode method_3_code 20 = .ok (.lcmp, 1) := by decide +kernel
theorem d2_21 : decode method_3_code 21 = .ok (.ifCond .le 11, 3) := by decide +kernel
theorem d2_24 : decode method_3_code 24 = .ok (.ldc2_w 11, 3) := by decide +kernel
theorem d2_27 : decode method_3_code 27 = .ok (.lload_n 2, 1) := by decide +kernel
theorem d2_28 : decode method_3_code 28 = .ok (.lsub, 1) := by decide +kernel
theorem d2_29 : decode method_3_code 29 = .ok (.goto 5, 3) := by decide +kernel
theorem d2_34 : decode method_3_code 34 = .ok (.lreturn, 1) := by decide +kernel
theorem d2_32 : decode method_3_code 32 = .ok (.lload 5, 2) := by decide +kernel
theorem d2_5 : decode method_3_code 5 = .ok (.lconst 0, 1) := by decide +kernel
theorem d2_6 : decode method_3_code 6 = .ok (.lreturn, 1) := by decide +kernel
def Q_rmLow (Z : State) (wINTEGER : Addr) (wDOUBLE : Addr) (wBOOLEAN : Addr) (wD : Addr) (kwD : ClassId) (p1 : Int64) (p2 : Int64) (p3 : Int32) (h0 : Heap) (n0 : Nat) (v : Option Value) (h : Heap) (L : List Loc) : Prop := ∃ (r : Int64), v = some (.long r) ∧ Fr n0 L ∧ h = h0 ∧ r = lowV p1 p2 p3
theorem rmLow (l : Launch) (Z : State) (a0 : Array Value) (hw : ∀ d ∈ tables_1, d.before a0 Z = true) (ws : List Jvm.Cond) (wINTEGER : Addr) (wDOUBLE : Addr) (wBOOLEAN : Addr) (wD : Addr) (kwD : ClassId) (hS : SS Z wINTEGER wDOUBLE wBOOLEAN wD kwD) (p1 : Int64) (p2 : Int64) (p3 : Int32) (h0 : Heap) (n0 : Nat) (O0 : Old Z n0 h0)  :
    MetB l M1 method_3_code 7 (some .long) ws (rmk 0 0 0 0) Z h0 #[(.long p1), (.long p2), (.int p3)] (Q_rmLow Z wINTEGER wDOUBLE wBOOLEAN wD kwD p1 p2 p3 h0 n0) := by
  refine own_body (plainFor_of_name pn_com_example_lanc_lanc_model_VariableLayoutPackPinLaw) ?_
  intro p e s m below meth c s₁ hx hby hml hown hnm hret0 hlk0 hZ X0 e0
  have N0 := Fr.nil n0
  have pre0 : ∀ t, Steps p.tables e below (s₁.setTop (mkF m 0 #[(vl p1), .second, (vl p2), .second, (vi p3), .unset, .unset] [])) t → Steps p.tables e below (s₁.setTop (entryFrame m #[(.long p1), (.long p2), (.int p3)] 7)) t := fun t k => castTop (ef_rmLow m p1 p2 p3) k
  have hS0 := hS
  obtain ⟨S_wINTEGER, E_wINTEGER, S_wDOUBLE, E_wDOUBLE, S_wBOOLEAN, E_wBOOLEAN, F_ordinal_wINTEGER, F_ordinal_wDOUBLE, F_ordinal_wBOOLEAN, S_wD, E_wD, V_wD⟩ := hS0
  have pre1 : ∀ t, Steps p.tables e below (s₁.setTop (mkF m 2 #[(vl p1), .second, (vl p2), .second, (vi p3), .unset, .unset] [(.int p3)])) t → Steps p.tables e below (s₁.setTop (entryFrame m #[(.long p1), (.long p2), (.int p3)] 7)) t := by
    intro t k
    refine pre0 t ?_
    show Steps p.tables e below (s₁.setTop (mkF m 0 #[(vl p1), .second, (vl p2), .second, (vi p3), .unset, .unset] [])) _
    refine XS.iload X0.here hx rfl (hb hby d2_0) rfl ?_
    exact k
  rcases Decidable.em (p3 = (0 : Int32)) with hc2 | hc2
  · skip
    have pre3 : ∀ t, Steps p.tables e below (s₁.setTop (mkF m 21 #[(vl p1), .second, (vl p2), .second, (vi p3), .val (.long (p1 >>> ((32 : Int32) &&& 0x3f).toInt64)), .second] [(.int (lcmpW ((p1 >>> ((32 : Int32) &&& 0x3f).toInt64) + p2) (2147483647 : Int64)))])) t → Steps p.tables e below (s₁.setTop (entryFrame m #[(.long p1), (.long p2), (.int p3)] 7)) t := by
      intro t k
      refine pre1 t ?_
      refine XS.ifYes X0.here hx rfl (pc0 := 2) (pc' := 7) rfl (hb hby d2_2) rfl ((if0 _ _).trans (teq hc2).1) (by decide) (by decide) ?_
      refine XS.lloadN X0.here hx rfl (hb hby d2_7) rfl ?_
      refine XS.bipush X0.here hx rfl (hb hby d2_8) ?_
      refine XS.lshr X0.here hx rfl (hb hby d2_10) rfl ?_
      refine XS.lstore X0.here hx rfl (hb hby d2_11) rfl (l' := #[(vl p1), .second, (vl p2), .second, (vi p3), .val (.long (p1 >>> ((32 : Int32) &&& 0x3f).toInt64)), .second]) rfl ?_
      refine XS.lload X0.here hx rfl (hb hby d2_13) rfl ?_
      refine XS.lloadN X0.here hx rfl (hb hby d2_15) rfl ?_
      refine XS.ladd X0.here hx rfl (hb hby d2_16) rfl ?_
      refine X0.ldc2Long hx hown (mvT hZ (ow hw 8 rfl)) (g := (mkF m 17 #[(vl p1), .second, (vl p2), .second, (vi p3), .val (.long (p1 >>> ((32 : Int32) &&& 0x3f).toInt64)), .second] [(.long ((p1 >>> ((32 : Int32) &&& 0x3f).toInt64) + p2))])) rfl (hb hby d2_17) _ ?_
      refine XS.lcmp X0.here hx rfl (hb hby d2_20) rfl ?_
      exact k
    rcases Decidable.em ((0 : Int32) < (lcmpW ((p1 >>> ((32 : Int32) &&& 0x3f).toInt64) + p2) (2147483647 : Int64))) with hc4 | hc4
    · skip
      obtain ⟨fs, hr, hrun, hended, hW, hsame⟩ := X0.leave (v := some (.long ((2147483647 : Int64) - p2))) (fun h => by rw [hret0] at h; cases h)
      refine ⟨_, _, pre3 _ ?_, hrun, hended, _, _, rfl, ?_, ⟨_, rfl⟩, hW, hsame.mono (by decide) (by decide)⟩
      · skip
        refine XS.ifNo X0.here hx rfl (hb hby d2_21) rfl ((if0 _ _).trans (tlt hc4).2.2.2) ?_
        refine X0.ldc2Long hx hown (mvT hZ (ow hw 8 rfl)) (g := (mkF m 24 #[(vl p1), .second, (vl p2), .second, (vi p3), .val (.long (p1 >>> ((32 : Int32) &&& 0x3f).toInt64)), .second] [])) rfl (hb hby d2_24) _ ?_
        refine XS.lloadN X0.here hx rfl (hb hby d2_27) rfl ?_
        show Steps p.tables e below (s₁.setTop (mkF m 28 #[(vl p1), .second, (vl p2), .second, (vi p3), .val (.long (p1 >>> ((32 : Int32) &&& 0x3f).toInt64)), .second] [(.long p2), (.long 2147483647)])) _
        refine XS.lsub X0.here hx rfl (hb hby d2_28) rfl ?_
        refine XS.goto X0.here hx rfl (pc0 := 29) (pc' := 34) rfl (hb hby d2_29) (by decide) (by decide) ?_
        exact retL X0 hx hret0 (hb hby d2_34) hr
      · show Q_rmLow Z wINTEGER wDOUBLE wBOOLEAN wD kwD p1 p2 p3 h0 n0 _ s₁.heap _
        rw [e0]
        exact ⟨((2147483647 : Int64) - p2), rfl, N0, rfl, (by rw [lowV, if_pos hc2, if_pos hc4])⟩
    · skip
      obtain ⟨fs, hr, hrun, hended, hW, hsame⟩ := X0.leave (v := some (.long (p1 >>> ((32 : Int32) &&& 0x3f).toInt64))) (fun h => by rw [hret0] at h; cases h)
      refine ⟨_, _, pre3 _ ?_, hrun, hended, _, _, rfl, ?_, ⟨_, rfl⟩, hW, hsame.mono (by decide) (by decide)⟩
      · skip
        refine XS.ifYes X0.here hx rfl (pc0 := 21) (pc' := 32) rfl (hb hby d2_21) rfl ((if0 _ _).trans (flt hc4).2.2.2) (by decide) (by decide) ?_
        refine XS.lload X0.here hx rfl (hb hby d2_32) rfl ?_
        exact retL X0 hx hret0 (hb hby d2_34) hr
      · show Q_rmLow Z wINTEGER wDOUBLE wBOOLEAN wD kwD p1 p2 p3 h0 n0 _ s₁.heap _
        rw [e0]
        exact ⟨(p1 >>> ((32 : Int32) &&& 0x3f).toInt64), rfl, N0, rfl, (by rw [lowV, if_pos hc2, if_neg hc4])⟩
  · skip
    obtain ⟨fs, hr, hrun, hended, hW, hsame⟩ := X0.leave (v := some (.long 0)) (fun h => by rw [hret0] at h; cases h)
    refine ⟨_, _, pre1 _ ?_, hrun, hended, _, _, rfl, ?_, ⟨_, rfl⟩, hW, hsame.mono (by decide) (by decide)⟩
    · skip
      refine XS.ifNo X0.here hx rfl (hb hby d2_2) rfl ((if0 _ _).trans (feq hc2).1) ?_
      refine XS.lconst X0.here hx rfl (hb hby d2_5) ?_
      exact retL X0 hx hret0 (hb hby d2_6) hr
    · show Q_rmLow Z wINTEGER wDOUBLE wBOOLEAN wD kwD p1 p2 p3 h0 n0 _ s₁.heap _
      rw [e0]
      exact ⟨(0 : Int64), rfl, N0, rfl, (by rw [lowV, if_neg hc2])⟩
theorem ef_rmPick (m : MethodId) (x0 : Int64) (x1 : Int64) (x2 : Int32)  : entryFrame m #[(.long x0), (.long x1), (.int x2)] 7 = mkF m 0 #[(vl x0), .second, (vl x1), .second, (vi x2), .unset, .unset] [] := by first | (simp [entryFrame, mkF, argsToLocals, Value.category]; done) | rfl
theorem d3_0 : decode method_4_code 0 = .ok (.iload 4, 2) := by decide +kernel
theorem d3_2 : decode method_4_code 2 = .ok (.i2l, 1) := by decide +kernel
theorem d3_3 : decode method_4_code 3 = .ok (.ldc2_w 7, 3) := by decide +kernel
theorem d3_6 : decode method_4_code 6 = .ok (.land, 1) := by decide +kernel
theorem d3_7 : decode method_4_code 7 = .ok (.lload_n 2, 1) := by decide +kernel
theorem d3_8 : decode method_4_code 8 = .ok (.lconst 1, 1) := by decide +kernel
theorem d3_9 : decode method_4_code 9 = .ok (.ladd, 1) := by decide +kernel
theorem d3_10 : decode method_4_code 10 = .ok (.lrem, 1) := by decide +kernel
theorem d3_11 : decode method_4_code 11 = .ok (.lstore 5, 2) := by decide +kernel
theorem d3_13 : decode method_4_code 13 = .ok (.lload_n 0, 1) := by decide +kernel
theorem d3_14 : decode method_4_code 14 = .ok (.lload 5, 2) := by decide +kernel
theorem d3_16 : decode method_4_code 16 = .ok (.ladd, 1) := by decide +kernel
theorem d3_17 : decode method_4_code 17 = .ok (.l2i, 1) := by decide +kernel
theorem d3_18 : decode method_4_code 18 = .ok (.ireturn, 1) := by decide +kernel
def Q_rmPick (Z : State) (wINTEGER : Addr) (wDOUBLE : Addr) (wBOOLEAN : Addr) (wD : Addr) (kwD : ClassId) (p1 : Int64) (p2 : Int64) (p3 : Int32) (h0 : Heap) (n0 : Nat) (v : Option Value) (h : Heap) (L : List Loc) : Prop := ∃ (r : Int32), v = some (.int r) ∧ Fr n0 L ∧ h = h0 ∧ r = pickV p1 p2 p3
theorem rmPick (l : Launch) (Z : State) (a0 : Array Value) (hw : ∀ d ∈ tables_1, d.before a0 Z = true) (ws : List Jvm.Cond) (wINTEGER : Addr) (wDOUBLE : Addr) (wBOOLEAN : Addr) (wD : Addr) (kwD : ClassId) (hS : SS Z wINTEGER wDOUBLE wBOOLEAN wD kwD) (p1 : Int64) (p2 : Int64) (p3 : Int32) (h0 : Heap) (n0 : Nat) (O0 : Old Z n0 h0) (P0 : (p2 + (1 : Int64)) ≠ 0) :
    MetB l M2 method_4_code 7 (some .int) ws (rmk 0 0 0 0) Z h0 #[(.long p1), (.long p2), (.int p3)] (Q_rmPick Z wINTEGER wDOUBLE wBOOLEAN wD kwD p1 p2 p3 h0 n0) := by
  refine own_body (plainFor_of_name pn_com_example_lanc_lanc_model_VariableLayoutPackPinLaw) ?_
  intro p e s m below meth c s₁ hx hby hml hown hnm hret0 hlk0 hZ X0 e0
  have N0 := Fr.nil n0
  have pre0 : ∀ t, Steps p.tables e below (s₁.setTop (mkF m 0 #[(vl p1), .second, (vl p2), .second, (vi p3), .unset, .unset] [])) t → Steps p.tables e below (s₁.setTop (entryFrame m #[(.long p1), (.long p2), (.int p3)] 7)) t := fun t k => castTop (ef_rmPick m p1 p2 p3) k
  have hS0 := hS
  obtain ⟨S_wINTEGER, E_wINTEGER, S_wDOUBLE, E_wDOUBLE, S_wBOOLEAN, E_wBOOLEAN, F_ordinal_wINTEGER, F_ordinal_wDOUBLE, F_ordinal_wBOOLEAN, S_wD, E_wD, V_wD⟩ := hS0
  obtain ⟨fs, hr, hrun, hended, hW, hsame⟩ := X0.leave (v := some (.int ((p1 + (((p3.toInt64) &&& (4294967295 : Int64)) - (((p3.toInt64) &&& (4294967295 : Int64)) / (p2 + (1 : Int64))) * (p2 + (1 : Int64)))).toInt32))) (fun h => by rw [hret0] at h; cases h)
  refine ⟨_, _, pre0 _ ?_, hrun, hended, _, _, rfl, ?_, ⟨_, rfl⟩, hW, hsame.mono (by decide) (by decide)⟩
  · skip
    show Steps p.tables e below (s₁.setTop (mkF m 0 #[(vl p1), .second, (vl p2), .second, (vi p3), .unset, .unset] [])) _
    refine XS.iload X0.here hx rfl (hb hby d3_0) rfl ?_
    refine XS.i2l X0.here hx rfl (hb hby d3_2) rfl ?_
    refine X0.ldc2Long hx hown (mvT hZ (ow hw 4 rfl)) (g := (mkF m 3 #[(vl p1), .second, (vl p2), .second, (vi p3), .unset, .unset] [(.long (p3.toInt64))])) rfl (hb hby d3_3) _ ?_
    refine XS.land X0.here hx rfl (hb hby d3_6) rfl ?_
    refine XS.lloadN X0.here hx rfl (hb hby d3_7) rfl ?_
    refine XS.lconst X0.here hx rfl (hb hby d3_8) ?_
    refine XS.ladd X0.here hx rfl (hb hby d3_9) rfl ?_
    refine XS.lrem X0.here hx rfl (hb hby d3_10) rfl P0 ?_
    refine XS.lstore X0.here hx rfl (hb hby d3_11) rfl (l' := #[(vl p1), .second, (vl p2), .second, (vi p3), .val (.long (((p3.toInt64) &&& (4294967295 : Int64)) - (((p3.toInt64) &&& (4294967295 : Int64)) / (p2 + (1 : Int64))) * (p2 + (1 : Int64)))), .second]) rfl ?_
    refine XS.lloadN X0.here hx rfl (hb hby d3_13) rfl ?_
    refine XS.lload X0.here hx rfl (hb hby d3_14) rfl ?_
    refine XS.ladd X0.here hx rfl (hb hby d3_16) rfl ?_
    refine XS.l2i X0.here hx rfl (hb hby d3_17) rfl ?_
    exact retI X0 hx hret0 (hb hby d3_18) hr
  · show Q_rmPick Z wINTEGER wDOUBLE wBOOLEAN wD kwD p1 p2 p3 h0 n0 _ s₁.heap _
    rw [e0]
    exact ⟨((p1 + (((p3.toInt64) &&& (4294967295 : Int64)) - (((p3.toInt64) &&& (4294967295 : Int64)) / (p2 + (1 : Int64))) * (p2 + (1 : Int64)))).toInt32), rfl, N0, rfl, rfl⟩
theorem ef_rmMax (m : MethodId) (x0 : Int32) (x1 : Int32)  : entryFrame m #[(.int x0), (.int x1)] 2 = mkF m 0 #[(vi x0), (vi x1)] [] := by first | (simp [entryFrame, mkF, argsToLocals, Value.category]; done) | rfl
theorem d15_0 : decode jdk_29_method_65_code 0 = .ok (.iload_n 0, 1) := by decide +kernel
theorem d15_1 : decode jdk_29_method_65_code 1 = .ok (.iload_n 1, 1) := by decide +kernel
theorem d15_2 : decode jdk_29_method_65_code 2 = .ok (.if_icmp .lt 7, 3) := by decide +kernel
theorem d15_9 : decode jdk_29_method_65_code 9 = .ok (.iload_n 1, 1) := by decide +kernel
theorem d15_10 : decode jdk_29_method_65_code 10 = .ok (.ireturn, 1) := by decide +kernel
theorem d15_5 : decode jdk_29_method_65_code 5 = .ok (.iload_n 0, 1) := by decide +kernel
theorem d15_6 : decode jdk_29_method_65_code 6 = .ok (.goto 4, 3) := by decide +kernel
def Q_rmMax (Z : State) (wINTEGER : Addr) (wDOUBLE : Addr) (wBOOLEAN : Addr) (wD : Addr) (kwD : ClassId) (p1 : Int32) (p2 : Int32) (h0 : Heap) (n0 : Nat) (v : Option Value) (h : Heap) (L : List Loc) : Prop := ∃ (r : Int32), v = some (.int r) ∧ Fr n0 L ∧ h = h0 ∧ r = (if p1 < p2 then p2 else p1)
theorem rmMax (l : Launch) (Z : State) (a0 : Array Value) (hw : ∀ d ∈ tables_1, d.before a0 Z = true) (ws : List Jvm.Cond) (wINTEGER : Addr) (wDOUBLE : Addr) (wBOOLEAN : Addr) (wD : Addr) (kwD : ClassId) (hS : SS Z wINTEGER wDOUBLE wBOOLEAN wD kwD) (p1 : Int32) (p2 : Int32) (h0 : Heap) (n0 : Nat) (O0 : Old Z n0 h0)  :
    MetB l M3 jdk_29_method_65_code 2 (some .int) ws (rmk 0 0 0 0) Z h0 #[(.int p1), (.int p2)] (Q_rmMax Z wINTEGER wDOUBLE wBOOLEAN wD kwD p1 p2 h0 n0) := by
  refine own_body (Jvm.Free.JP.mathPlain rfl (by decide +kernel)) ?_
  intro p e s m below meth c s₁ hx hby hml hown hnm hret0 hlk0 hZ X0 e0
  have N0 := Fr.nil n0
  have pre0 : ∀ t, Steps p.tables e below (s₁.setTop (mkF m 0 #[(vi p1), (vi p2)] [])) t → Steps p.tables e below (s₁.setTop (entryFrame m #[(.int p1), (.int p2)] 2)) t := fun t k => castTop (ef_rmMax m p1 p2) k
  have hS0 := hS
  obtain ⟨S_wINTEGER, E_wINTEGER, S_wDOUBLE, E_wDOUBLE, S_wBOOLEAN, E_wBOOLEAN, F_ordinal_wINTEGER, F_ordinal_wDOUBLE, F_ordinal_wBOOLEAN, S_wD, E_wD, V_wD⟩ := hS0
  have pre1 : ∀ t, Steps p.tables e below (s₁.setTop (mkF m 2 #[(vi p1), (vi p2)] [(.int p2), (.int p1)])) t → Steps p.tables e below (s₁.setTop (entryFrame m #[(.int p1), (.int p2)] 2)) t := by
    intro t k
    refine pre0 t ?_
    show Steps p.tables e below (s₁.setTop (mkF m 0 #[(vi p1), (vi p2)] [])) _
    refine XS.iloadN X0.here hx rfl (hb hby d15_0) rfl ?_
    refine XS.iloadN X0.here hx rfl (hb hby d15_1) rfl ?_
    exact k
  rcases Decidable.em (p1 < p2) with hc2 | hc2
  · skip
    obtain ⟨fs, hr, hrun, hended, hW, hsame⟩ := X0.leave (v := some (.int p2)) (fun h => by rw [hret0] at h; cases h)
    refine ⟨_, _, pre1 _ ?_, hrun, hended, _, _, rfl, ?_, ⟨_, rfl⟩, hW, hsame.mono (by decide) (by decide)⟩
    · skip
      refine XS.icmpYes X0.here hx rfl (pc0 := 2) (pc' := 9) rfl (hb hby d15_2) rfl (tlt hc2).1 (by decide) (by decide) ?_
      refine XS.iloadN X0.here hx rfl (hb hby d15_9) rfl ?_
      exact retI X0 hx hret0 (hb hby d15_10) hr
    · show Q_rmMax Z wINTEGER wDOUBLE wBOOLEAN wD kwD p1 p2 h0 n0 _ s₁.heap _
      rw [e0]
      exact ⟨p2, rfl, N0, rfl, (by simp [if_true, hc2])⟩
  · skip
    obtain ⟨fs, hr, hrun, hended, hW, hsame⟩ := X0.leave (v := some (.int p1)) (fun h => by rw [hret0] at h; cases h)
    refine ⟨_, _, pre1 _ ?_, hrun, hended, _, _, rfl, ?_, ⟨_, rfl⟩, hW, hsame.mono (by decide) (by decide)⟩
    · skip
      refine XS.icmpNo X0.here hx rfl (hb hby d15_2) rfl (flt hc2).1 ?_
      refine XS.iloadN X0.here hx rfl (hb hby d15_5) rfl ?_
      refine XS.goto X0.here hx rfl (pc0 := 6) (pc' := 10) rfl (hb hby d15_6) (by decide) (by decide) ?_
      exact retI X0 hx hret0 (hb hby d15_10) hr
    · show Q_rmMax Z wINTEGER wDOUBLE wBOOLEAN wD kwD p1 p2 h0 n0 _ s₁.heap _
      rw [e0]
      exact ⟨p1, rfl, N0, rfl, (by simp [if_true, hc2])⟩
theorem ef_rmNlz32 (m : MethodId) (x0 : Int32)  : entryFrame m #[(.int x0)] 2 = mkF m 0 #[(vi x0), .unset] [] := by first | (simp [entryFrame, mkF, argsToLocals, Value.category]; done) | rfl
theorem pn_java_lang_Integer : plainName "java/lang/Integer" = true := by first | (simp [plainName, overriddenIn]; done) | decide +kernel
theorem d25_0 : decode jdk_33_method_47_code 0 = .ok (.iload_n 0, 1) := by decide +kernel
theorem d25_1 : decode jdk_33_method_47_code 1 = .ok (.ifCond .gt 14, 3) := by decide +kernel
theorem d25_15 : decode jdk_33_method_47_code 15 = .ok (.bipush 31, 2) := by decide +kernel
theorem d25_17 : decode jdk_33_method_47_code 17 = .ok (.istore_n 1, 1) := by decide +kernel
theorem d25_18 : decode jdk_33_method_47_code 18 = .ok (.iload_n 0, 1) := by decide +kernel
theorem d25_19 : decode jdk_33_method_47_code 19 = .ok (.ldc_w 264, 3) := by decide +kernel
theorem d25_22 : decode jdk_33_method_47_code 22 = .ok (.if_icmp .lt 11, 3) := by decide +kernel
theorem d25_25 : decode jdk_33_method_47_code 25 = .ok (.iinc 1 (-16), 3) := by decide +kernel
theorem d25_28 : decode jdk_33_method_47_code 28 = .ok (.iload_n 0, 1) := by decide +kernel
theorem d25_29 : decode jdk_33_method_47_code 29 = .ok (.bipush 16, 2) := by decide +kernel
theorem d25_31 : decode jdk_33_method_47_code 31 = .ok (.iushr, 1) := by decide +kernel
theorem d25_32 : decode jdk_33_method_47_code 32 = .ok (.istore_n 0, 1) := by decide +kernel
theorem d25_33 : decode jdk_33_method_47_code 33 = .ok (.iload_n 0, 1) := by decide +kernel
theorem d25_34 : decode jdk_33_method_47_code 34 = .ok (.sipush 256, 3) := by decide +kernel
theorem d25_37 : decode jdk_33_method_47_code 37 = .ok (.if_icmp .lt 11, 3) := by decide +kernel
theorem d25_40 : decode jdk_33_method_47_code 40 = .ok (.iinc 1 (-8), 3) := by decide +kernel
theorem d25_43 : decode jdk_33_method_47_code 43 = .ok (.iload_n 0, 1) := by decide +kernel
theorem d25_44 : decode jdk_33_method_47_code 44 = .ok (.bipush 8, 2) := by decide +kernel
theorem d25_46 : decode jdk_33_method_47_code 46 = .ok (.iushr, 1) := by decide +kernel
theorem d25_47 : decode jdk_33_method_47_code 47 = .ok (.istore_n 0, 1) := by decide +kernel
theorem d25_48 : decode jdk_33_method_47_code 48 = .ok (.iload_n 0, 1) := by decide +kernel
theorem d25_49 : decode jdk_33_method_47_code 49 = .ok (.bipush 16, 2) := by decide +kernel
theorem d25_51 : decode jdk_33_method_47_code 51 = .ok (.if_icmp .lt 10, 3) := by decide +kernel
theorem d25_54 : decode jdk_33_method_47_code 54 = .ok (.iinc 1 (-4), 3) := by decide +kernel
theorem d25_57 : decode jdk_33_method_47_code 57 = .ok (.iload_n 0, 1) := by decide +kernel
theorem d25_58 : decode jdk_33_method_47_code 58 = .ok (.iconst 4, 1) := by decide +kernel
theorem d25_59 : decode jdk_33_method_47_code 59 = .ok (.iushr, 1) := by decide +kernel
theorem d25_60 : decode jdk_33_method_47_code 60 = .ok (.istore_n 0, 1) := by decide +kernel
theorem d25_61 : decode jdk_33_method_47_code 61 = .ok (.iload_n 0, 1) := by decide +kernel
theorem d25_62 : decode jdk_33_method_47_code 62 = .ok (.iconst 4, 1) := by decide +kernel
theorem d25_63 : decode jdk_33_method_47_code 63 = .ok (.if_icmp .lt 10, 3) := by decide +kernel
theorem d25_66 : decode jdk_33_method_47_code 66 = .ok (.iinc 1 (-2), 3) := by decide +kernel
theorem d25_69 : decode jdk_33_method_47_code 69 = .ok (.iload_n 0, 1) := by decide +kernel
theorem d25_70 : decode jdk_33_method_47_code 70 = .ok (.iconst 2, 1) := by decide +kernel
theorem d25_71 : decode jdk_33_method_47_code 71 = .ok (.iushr, 1) := by decide +kernel
theorem d25_72 : decode jdk_33_method_47_code 72 = .ok (.istore_n 0, 1) := by decide +kernel
theorem d25_73 : decode jdk_33_method_47_code 73 = .ok (.iload_n 1, 1) := by decide +kernel
theorem d25_74 : decode jdk_33_method_47_code 74 = .ok (.iload_n 0, 1) := by decide +kernel
theorem d25_75 : decode jdk_33_method_47_code 75 = .ok (.iconst 1, 1) := by decide +kernel
theorem d25_76 : decode jdk_33_method_47_code 76 = .ok (.iushr, 1) := by decide +kernel
theorem d25_77 : decode jdk_33_method_47_code 77 = .ok (.isub, 1) := by decide +kernel
theorem d25_78 : decode jdk_33_method_47_code 78 = .ok (.ireturn, 1) := by decide +kernel
theorem d25_4 : decode jdk_33_method_47_code 4 = .ok (.iload_n 0, 1) := by decide +kernel
theorem d25_5 : decode jdk_33_method_47_code 5 = .ok (.ifCond .ne 8, 3) := by decide +kernel
theorem d25_8 : decode jdk_33_method_47_code 8 = .ok (.bipush 32, 2) := by decide +kernel
theorem d25_10 : decode jdk_33_method_47_code 10 = .ok (.goto 4, 3) := by decide +kernel
theorem d25_14 : decode jdk_33_method_47_code 14 = .ok (.ireturn, 1) := by decide +kernel
theorem d25_13 : decode jdk_33_method_47_code 13 = .ok (.iconst 0, 1) := by decide +kernel
def Q_rmNlz32 (Z : State) (wINTEGER : Addr) (wDOUBLE : Addr) (wBOOLEAN : Addr) (wD : Addr) (kwD : ClassId) (p1 : Int32) (h0 : Heap) (n0 : Nat) (v : Option Value) (h : Heap) (L : List Loc) : Prop := ∃ (r : Int32), v = some (.int r) ∧ Fr n0 L ∧ h = h0 ∧ r = nlz32 p1
theorem rmNlz32 (l : Launch) (Z : State) (a0 : Array Value) (hw : ∀ d ∈ tables_1, d.before a0 Z = true) (ws : List Jvm.Cond) (wINTEGER : Addr) (wDOUBLE : Addr) (wBOOLEAN : Addr) (wD : Addr) (kwD : ClassId) (hS : SS Z wINTEGER wDOUBLE wBOOLEAN wD kwD) (p1 : Int32) (h0 : Heap) (n0 : Nat) (O0 : Old Z n0 h0)  :
    MetB l M4 jdk_33_method_47_code 2 (some .int) ws (rmk 0 0 0 0) Z h0 #[(.int p1)] (Q_rmNlz32 Z wINTEGER wDOUBLE wBOOLEAN wD kwD p1 h0 n0) := by
  refine own_body (plainFor_of_name pn_java_lang_Integer) ?_
  intro p e s m below meth c s₁ hx hby hml hown hnm hret0 hlk0 hZ X0 e0
  have N0 := Fr.nil n0
  have pre0 : ∀ t, Steps p.tables e below (s₁.setTop (mkF m 0 #[(vi p1), .unset] [])) t → Steps p.tables e below (s₁.setTop (entryFrame m #[(.int p1)] 2)) t := fun t k => castTop (ef_rmNlz32 m p1) k
  have hS0 := hS
  obtain ⟨S_wINTEGER, E_wINTEGER, S_wDOUBLE, E_wDOUBLE, S_wBOOLEAN, E_wBOOLEAN, F_ordinal_wINTEGER, F_ordinal_wDOUBLE, F_ordinal_wBOOLEAN, S_wD, E_wD, V_wD⟩ := hS0
  have pre1 : ∀ t, Steps p.tables e below (s₁.setTop (mkF m 1 #[(vi p1), .unset] [(.int p1)])) t → Steps p.tables e below (s₁.setTop (entryFrame m #[(.int p1)] 2)) t := by
    intro t k
    refine pre0 t ?_
    show Steps p.tables e below (s₁.setTop (mkF m 0 #[(vi p1), .unset] [])) _
    refine XS.iloadN X0.here hx rfl (hb hby d25_0) rfl ?_
    exact k
  rcases Decidable.em ((0 : Int32) < p1) with hc2 | hc2
  · skip
    have pre3 : ∀ t, Steps p.tables e below (s₁.setTop (mkF m 22 #[(vi p1), (vi 31)] [(.int 65536), (.int p1)])) t → Steps p.tables e below (s₁.setTop (entryFrame m #[(.int p1)] 2)) t := by
      intro t k
      refine pre1 t ?_
      refine XS.ifYes X0.here hx rfl (pc0 := 1) (pc' := 15) rfl (hb hby d25_1) rfl ((if0 _ _).trans (tlt hc2).2.2.1) (by decide) (by decide) ?_
      refine XS.bipush X0.here hx rfl (hb hby d25_15) ?_
      refine XS.istoreN X0.here hx rfl (hb hby d25_17) rfl (l' := #[(vi p1), (vi 31)]) rfl ?_
      refine XS.iloadN X0.here hx rfl (hb hby d25_18) rfl ?_
      refine X0.ldcwInt hx hown (mvT hZ (ow hw 179 rfl)) (g := (mkF m 19 #[(vi p1), (vi 31)] [(.int p1)])) rfl (hb hby d25_19) _ ?_
      exact k
    obtain ⟨x1, hx1⟩ : ∃ z : Int32, z = (if p1 < (65536 : Int32) then p1 else ((p1.toUInt32 >>> ((16 : Int32) &&& 31).toUInt32).toInt32)) := ⟨_, rfl⟩
    obtain ⟨n1, hn1⟩ : ∃ z : Int32, z = (if p1 < (65536 : Int32) then (31 : Int32) else (15 : Int32)) := ⟨_, rfl⟩
    have pre5 : ∀ t, Steps p.tables e below (s₁.setTop (mkF m 33 #[(vi x1), (vi n1)] [])) t → Steps p.tables e below (s₁.setTop (entryFrame m #[(.int p1)] 2)) t := by
      intro t k
      rw [hx1] at k
      rw [hn1] at k
      refine pre3 t ?_
      show Steps p.tables e below (s₁.setTop (mkF m 22 #[(vi p1), (vi 31)] [(.int 65536), (.int p1)])) _
      rcases Decidable.em (p1 < (65536 : Int32)) with hm4 | hm4
      · first | simp only [if_pos hm4] at k | skip
        refine XS.icmpYes X0.here hx rfl (pc0 := 22) (pc' := 33) rfl (hb hby d25_22) rfl (tlt hm4).1 (by decide) (by decide) ?_
        exact k
      · first | simp only [if_neg hm4] at k | skip
        refine XS.icmpNo X0.here hx rfl (hb hby d25_22) rfl (flt hm4).1 ?_
        refine XS.iinc X0.here hx rfl (hb hby d25_25) rfl (l' := #[(vi p1), (vi 15)]) rfl ?_
        refine XS.iloadN X0.here hx rfl (hb hby d25_28) rfl ?_
        refine XS.bipush X0.here hx rfl (hb hby d25_29) ?_
        refine XS.iushr X0.here hx rfl (hb hby d25_31) rfl ?_
        refine XS.istoreN X0.here hx rfl (hb hby d25_32) rfl (l' := #[.val (.int ((p1.toUInt32 >>> ((16 : Int32) &&& 31).toUInt32).toInt32)), (vi 15)]) rfl ?_
        exact k
    have pre6 : ∀ t, Steps p.tables e below (s₁.setTop (mkF m 37 #[(vi x1), (vi n1)] [(.int 256), (.int x1)])) t → Steps p.tables e below (s₁.setTop (entryFrame m #[(.int p1)] 2)) t := by
      intro t k
      refine pre5 t ?_
      show Steps p.tables e below (s₁.setTop (mkF m 33 #[(vi x1), (vi n1)] [])) _
      refine XS.iloadN X0.here hx rfl (hb hby d25_33) rfl ?_
      refine XS.sipush X0.here hx rfl (hb hby d25_34) ?_
      exact k
    obtain ⟨x2, hx2⟩ : ∃ z : Int32, z = (if x1 < (256 : Int32) then x1 else ((x1.toUInt32 >>> ((8 : Int32) &&& 31).toUInt32).toInt32)) := ⟨_, rfl⟩
    obtain ⟨n2, hn2⟩ : ∃ z : Int32, z = (if x1 < (256 : Int32) then n1 else (n1 + (-8 : Int32))) := ⟨_, rfl⟩
    have pre8 : ∀ t, Steps p.tables e below (s₁.setTop (mkF m 48 #[(vi x2), (vi n2)] [])) t → Steps p.tables e below (s₁.setTop (entryFrame m #[(.int p1)] 2)) t := by
      intro t k
      rw [hx2] at k
      rw [hn2] at k
      refine pre6 t ?_
      show Steps p.tables e below (s₁.setTop (mkF m 37 #[(vi x1), (vi n1)] [(.int 256), (.int x1)])) _
      rcases Decidable.em (x1 < (256 : Int32)) with hm7 | hm7
      · first | simp only [if_pos hm7] at k | skip
        refine XS.icmpYes X0.here hx rfl (pc0 := 37) (pc' := 48) rfl (hb hby d25_37) rfl (tlt hm7).1 (by decide) (by decide) ?_
        exact k
      · first | simp only [if_neg hm7] at k | skip
        refine XS.icmpNo X0.here hx rfl (hb hby d25_37) rfl (flt hm7).1 ?_
        refine XS.iinc X0.here hx rfl (hb hby d25_40) rfl (l' := #[(vi x1), .val (.int (n1 + (-8 : Int32)))]) rfl ?_
        refine XS.iloadN X0.here hx rfl (hb hby d25_43) rfl ?_
        refine XS.bipush X0.here hx rfl (hb hby d25_44) ?_
        refine XS.iushr X0.here hx rfl (hb hby d25_46) rfl ?_
        refine XS.istoreN X0.here hx rfl (hb hby d25_47) rfl (l' := #[.val (.int ((x1.toUInt32 >>> ((8 : Int32) &&& 31).toUInt32).toInt32)), .val (.int (n1 + (-8 : Int32)))]) rfl ?_
        exact k
    have pre9 : ∀ t, Steps p.tables e below (s₁.setTop (mkF m 51 #[(vi x2), (vi n2)] [(.int 16), (.int x2)])) t → Steps p.tables e below (s₁.setTop (entryFrame m #[(.int p1)] 2)) t := by
      intro t k
      refine pre8 t ?_
      show Steps p.tables e below (s₁.setTop (mkF m 48 #[(vi x2), (vi n2)] [])) _
      refine XS.iloadN X0.here hx rfl (hb hby d25_48) rfl ?_
      refine XS.bipush X0.here hx rfl (hb hby d25_49) ?_
      exact k
    obtain ⟨x3, hx3⟩ : ∃ z : Int32, z = (if x2 < (16 : Int32) then x2 else ((x2.toUInt32 >>> ((4 : Int32) &&& 31).toUInt32).toInt32)) := ⟨_, rfl⟩
    obtain ⟨n3, hn3⟩ : ∃ z : Int32, z = (if x2 < (16 : Int32) then n2 else (n2 + (-4 : Int32))) := ⟨_, rfl⟩
    have pre11 : ∀ t, Steps p.tables e below (s₁.setTop (mkF m 61 #[(vi x3), (vi n3)] [])) t → Steps p.tables e below (s₁.setTop (entryFrame m #[(.int p1)] 2)) t := by
      intro t k
      rw [hx3] at k
      rw [hn3] at k
      refine pre9 t ?_
      show Steps p.tables e below (s₁.setTop (mkF m 51 #[(vi x2), (vi n2)] [(.int 16), (.int x2)])) _
      rcases Decidable.em (x2 < (16 : Int32)) with hm10 | hm10
      · first | simp only [if_pos hm10] at k | skip
        refine XS.icmpYes X0.here hx rfl (pc0 := 51) (pc' := 61) rfl (hb hby d25_51) rfl (tlt hm10).1 (by decide) (by decide) ?_
        exact k
      · first | simp only [if_neg hm10] at k | skip
        refine XS.icmpNo X0.here hx rfl (hb hby d25_51) rfl (flt hm10).1 ?_
        refine XS.iinc X0.here hx rfl (hb hby d25_54) rfl (l' := #[(vi x2), .val (.int (n2 + (-4 : Int32)))]) rfl ?_
        refine XS.iloadN X0.here hx rfl (hb hby d25_57) rfl ?_
        refine XS.iconst X0.here hx rfl (hb hby d25_58) ?_
        refine XS.iushr X0.here hx rfl (hb hby d25_59) rfl ?_
        refine XS.istoreN X0.here hx rfl (hb hby d25_60) rfl (l' := #[.val (.int ((x2.toUInt32 >>> ((4 : Int32) &&& 31).toUInt32).toInt32)), .val (.int (n2 + (-4 : Int32)))]) rfl ?_
        exact k
    have pre12 : ∀ t, Steps p.tables e below (s₁.setTop (mkF m 63 #[(vi x3), (vi n3)] [(.int 4), (.int x3)])) t → Steps p.tables e below (s₁.setTop (entryFrame m #[(.int p1)] 2)) t := by
      intro t k
      refine pre11 t ?_
      show Steps p.tables e below (s₁.setTop (mkF m 61 #[(vi x3), (vi n3)] [])) _
      refine XS.iloadN X0.here hx rfl (hb hby d25_61) rfl ?_
      refine XS.iconst X0.here hx rfl (hb hby d25_62) ?_
      exact k
    obtain ⟨x4, hx4⟩ : ∃ z : Int32, z = (if x3 < (4 : Int32) then x3 else ((x3.toUInt32 >>> ((2 : Int32) &&& 31).toUInt32).toInt32)) := ⟨_, rfl⟩
    obtain ⟨n4, hn4⟩ : ∃ z : Int32, z = (if x3 < (4 : Int32) then n3 else (n3 + (-2 : Int32))) := ⟨_, rfl⟩
    have pre14 : ∀ t, Steps p.tables e below (s₁.setTop (mkF m 73 #[(vi x4), (vi n4)] [])) t → Steps p.tables e below (s₁.setTop (entryFrame m #[(.int p1)] 2)) t := by
      intro t k
      rw [hx4] at k
      rw [hn4] at k
      refine pre12 t ?_
      show Steps p.tables e below (s₁.setTop (mkF m 63 #[(vi x3), (vi n3)] [(.int 4), (.int x3)])) _
      rcases Decidable.em (x3 < (4 : Int32)) with hm13 | hm13
      · first | simp only [if_pos hm13] at k | skip
        refine XS.icmpYes X0.here hx rfl (pc0 := 63) (pc' := 73) rfl (hb hby d25_63) rfl (tlt hm13).1 (by decide) (by decide) ?_
        exact k
      · first | simp only [if_neg hm13] at k | skip
        refine XS.icmpNo X0.here hx rfl (hb hby d25_63) rfl (flt hm13).1 ?_
        refine XS.iinc X0.here hx rfl (hb hby d25_66) rfl (l' := #[(vi x3), .val (.int (n3 + (-2 : Int32)))]) rfl ?_
        refine XS.iloadN X0.here hx rfl (hb hby d25_69) rfl ?_
        refine XS.iconst X0.here hx rfl (hb hby d25_70) ?_
        refine XS.iushr X0.here hx rfl (hb hby d25_71) rfl ?_
        refine XS.istoreN X0.here hx rfl (hb hby d25_72) rfl (l' := #[.val (.int ((x3.toUInt32 >>> ((2 : Int32) &&& 31).toUInt32).toInt32)), .val (.int (n3 + (-2 : Int32)))]) rfl ?_
        exact k
    obtain ⟨fs, hr, hrun, hended, hW, hsame⟩ := X0.leave (v := some (.int (n4 - ((x4.toUInt32 >>> ((1 : Int32) &&& 31).toUInt32).toInt32)))) (fun h => by rw [hret0] at h; cases h)
    refine ⟨_, _, pre14 _ ?_, hrun, hended, _, _, rfl, ?_, ⟨_, rfl⟩, hW, hsame.mono (by decide) (by decide)⟩
    · skip
      show Steps p.tables e below (s₁.setTop (mkF m 73 #[(vi x4), (vi n4)] [])) _
      refine XS.iloadN X0.here hx rfl (hb hby d25_73) rfl ?_
      refine XS.iloadN X0.here hx rfl (hb hby d25_74) rfl ?_
      refine XS.iconst X0.here hx rfl (hb hby d25_75) ?_
      refine XS.iushr X0.here hx rfl (hb hby d25_76) rfl ?_
      refine XS.isub X0.here hx rfl (hb hby d25_77) rfl ?_
      exact retI X0 hx hret0 (hb hby d25_78) hr
    · show Q_rmNlz32 Z wINTEGER wDOUBLE wBOOLEAN wD kwD p1 h0 n0 _ s₁.heap _
      rw [e0]
      exact ⟨(n4 - ((x4.toUInt32 >>> ((1 : Int32) &&& 31).toUInt32).toInt32)), rfl, N0, rfl, (by rw [hn4, hx4, hn3, hx3, hn2, hx2, hn1, hx1]; unfold nlz32; rw [if_pos hc2])⟩
  · skip
    have pre15 : ∀ t, Steps p.tables e below (s₁.setTop (mkF m 5 #[(vi p1), .unset] [(.int p1)])) t → Steps p.tables e below (s₁.setTop (entryFrame m #[(.int p1)] 2)) t := by
      intro t k
      refine pre1 t ?_
      refine XS.ifNo X0.here hx rfl (hb hby d25_1) rfl ((if0 _ _).trans (flt hc2).2.2.1) ?_
      refine XS.iloadN X0.here hx rfl (hb hby d25_4) rfl ?_
      exact k
    rcases Decidable.em (p1 = (0 : Int32)) with hc16 | hc16
    · skip
      obtain ⟨fs, hr, hrun, hended, hW, hsame⟩ := X0.leave (v := some (.int 32)) (fun h => by rw [hret0] at h; cases h)
      refine ⟨_, _, pre15 _ ?_, hrun, hended, _, _, rfl, ?_, ⟨_, rfl⟩, hW, hsame.mono (by decide) (by decide)⟩
      · skip
        refine XS.ifNo X0.here hx rfl (hb hby d25_5) rfl ((if0 _ _).trans (teq hc16).2) ?_
        refine XS.bipush X0.here hx rfl (hb hby d25_8) ?_
        refine XS.goto X0.here hx rfl (pc0 := 10) (pc' := 14) rfl (hb hby d25_10) (by decide) (by decide) ?_
        exact retI X0 hx hret0 (hb hby d25_14) hr
      · show Q_rmNlz32 Z wINTEGER wDOUBLE wBOOLEAN wD kwD p1 h0 n0 _ s₁.heap _
        rw [e0]
        exact ⟨(32 : Int32), rfl, N0, rfl, (by simp [nlz32, hc2, hc16])⟩
    · skip
      obtain ⟨fs, hr, hrun, hended, hW, hsame⟩ := X0.leave (v := some (.int 0)) (fun h => by rw [hret0] at h; cases h)
      refine ⟨_, _, pre15 _ ?_, hrun, hended, _, _, rfl, ?_, ⟨_, rfl⟩, hW, hsame.mono (by decide) (by decide)⟩
      · skip
        refine XS.ifYes X0.here hx rfl (pc0 := 5) (pc' := 13) rfl (hb hby d25_5) rfl ((if0 _ _).trans (feq hc16).2) (by decide) (by decide) ?_
        refine XS.iconst X0.here hx rfl (hb hby d25_13) ?_
        exact retI X0 hx hret0 (hb hby d25_14) hr
      · show Q_rmNlz32 Z wINTEGER wDOUBLE wBOOLEAN wD kwD p1 h0 n0 _ s₁.heap _
        rw [e0]
        exact ⟨(0 : Int32), rfl, N0, rfl, (by simp [nlz32, hc2, hc16])⟩
theorem ef_rmNlz64 (m : MethodId) (x0 : Int64)  : entryFrame m #[(.long x0)] 3 = mkF m 0 #[(vl x0), .second, .unset] [] := by first | (simp [entryFrame, mkF, argsToLocals, Value.category]; done) | rfl
theorem pn_java_lang_Long : plainName "java/lang/Long" = true := by first | (simp [plainName, overriddenIn]; done) | decide +kernel
theorem d24_0 : decode jdk_35_method_48_code 0 = .ok (.lload_n 0, 1) := by decide +kernel
theorem d24_1 : decode jdk_35_method_48_code 1 = .ok (.bipush 32, 2) := by decide +kernel
theorem d24_3 : decode jdk_35_method_48_code 3 = .ok (.lushr, 1) := by decide +kernel
theorem d24_4 : decode jdk_35_method_48_code 4 = .ok (.l2i, 1) := by decide +kernel
theorem d24_5 : decode jdk_35_method_48_code 5 = .ok (.istore_n 2, 1) := by decide +kernel
theorem d24_6 : decode jdk_35_method_48_code 6 = .ok (.iload_n 2, 1) := by decide +kernel
theorem d24_7 : decode jdk_35_method_48_code 7 = .ok (.ifCond .ne 14, 3) := by decide +kernel
theorem d24_10 : decode jdk_35_method_48_code 10 = .ok (.bipush 32, 2) := by decide +kernel
theorem d24_12 : decode jdk_35_method_48_code 12 = .ok (.lload_n 0, 1) := by decide +kernel
theorem d24_13 : decode jdk_35_method_48_code 13 = .ok (.l2i, 1) := by decide +kernel
theorem d24_14 : decode jdk_35_method_48_code 14 = .ok (.invokestatic 308, 3) := by decide +kernel
theorem pd_0 : parseMethodDescriptor "(I)I" = some ⟨[.int], some .int⟩ := by decide +kernel
theorem d24_17 : decode jdk_35_method_48_code 17 = .ok (.iadd, 1) := by decide +kernel
theorem d24_18 : decode jdk_35_method_48_code 18 = .ok (.goto 7, 3) := by decide +kernel
theorem d24_25 : decode jdk_35_method_48_code 25 = .ok (.ireturn, 1) := by decide +kernel
theorem d24_21 : decode jdk_35_method_48_code 21 = .ok (.iload_n 2, 1) := by decide +kernel
theorem d24_22 : decode jdk_35_method_48_code 22 = .ok (.invokestatic 308, 3) := by decide +kernel
def Q_rmNlz64 (Z : State) (wINTEGER : Addr) (wDOUBLE : Addr) (wBOOLEAN : Addr) (wD : Addr) (kwD : ClassId) (p1 : Int64) (h0 : Heap) (n0 : Nat) (v : Option Value) (h : Heap) (L : List Loc) : Prop := ∃ (r : Int32), v = some (.int r) ∧ Fr n0 L ∧ h = h0 ∧ r = nlz64 p1
theorem rmNlz64 (l : Launch) (Z : State) (a0 : Array Value) (hw : ∀ d ∈ tables_1, d.before a0 Z = true) (ws : List Jvm.Cond) (wINTEGER : Addr) (wDOUBLE : Addr) (wBOOLEAN : Addr) (wD : Addr) (kwD : ClassId) (hS : SS Z wINTEGER wDOUBLE wBOOLEAN wD kwD) (p1 : Int64) (h0 : Heap) (n0 : Nat) (O0 : Old Z n0 h0)  :
    MetB l M5 jdk_35_method_48_code 3 (some .int) ws (rmk 1 0 0 14) Z h0 #[(.long p1)] (Q_rmNlz64 Z wINTEGER wDOUBLE wBOOLEAN wD kwD p1 h0 n0) := by
  refine own_body (plainFor_of_name pn_java_lang_Long) ?_
  intro p e s m below meth c s₁ hx hby hml hown hnm hret0 hlk0 hZ X0 e0
  have N0 := Fr.nil n0
  have pre0 : ∀ t, Steps p.tables e below (s₁.setTop (mkF m 0 #[(vl p1), .second, .unset] [])) t → Steps p.tables e below (s₁.setTop (entryFrame m #[(.long p1)] 3)) t := fun t k => castTop (ef_rmNlz64 m p1) k
  have hS0 := hS
  obtain ⟨S_wINTEGER, E_wINTEGER, S_wDOUBLE, E_wDOUBLE, S_wBOOLEAN, E_wBOOLEAN, F_ordinal_wINTEGER, F_ordinal_wDOUBLE, F_ordinal_wBOOLEAN, S_wD, E_wD, V_wD⟩ := hS0
  have pre1 : ∀ t, Steps p.tables e below (s₁.setTop (mkF m 7 #[(vl p1), .second, .val (.int (((p1.toUInt64 >>> ((32 : Int32) &&& 0x3f).toInt64.toUInt64).toInt64).toInt32))] [(.int (((p1.toUInt64 >>> ((32 : Int32) &&& 0x3f).toInt64.toUInt64).toInt64).toInt32))])) t → Steps p.tables e below (s₁.setTop (entryFrame m #[(.long p1)] 3)) t := by
    intro t k
    refine pre0 t ?_
    show Steps p.tables e below (s₁.setTop (mkF m 0 #[(vl p1), .second, .unset] [])) _
    refine XS.lloadN X0.here hx rfl (hb hby d24_0) rfl ?_
    refine XS.bipush X0.here hx rfl (hb hby d24_1) ?_
    refine XS.lushr X0.here hx rfl (hb hby d24_3) rfl ?_
    refine XS.l2i X0.here hx rfl (hb hby d24_4) rfl ?_
    refine XS.istoreN X0.here hx rfl (hb hby d24_5) rfl (l' := #[(vl p1), .second, .val (.int (((p1.toUInt64 >>> ((32 : Int32) &&& 0x3f).toInt64.toUInt64).toInt64).toInt32))]) rfl ?_
    refine XS.iloadN X0.here hx rfl (hb hby d24_6) rfl ?_
    exact k
  rcases Decidable.em ((((p1.toUInt64 >>> ((32 : Int32) &&& 0x3f).toInt64.toUInt64).toInt64).toInt32) = (0 : Int32)) with hc2 | hc2
  · skip
    obtain ⟨_, _, ⟨T3, L3, k3, n3⟩, -, X3, ⟨Lc3, hQ3, l3, y3, z3⟩, st3⟩ := Jvm.LawKit.callS X0 hx (y := M4) hown (mvT hZ (ow hw 175 rfl)) (mvT hZ (ow hw 176 rfl)) (mvT hZ (ow hw 177 rfl)) (mvT hZ (ow hw 178 rfl)) (by decide) (backOf (W := 1) (rmNlz32 l Z a0 hw [] wINTEGER wDOUBLE wBOOLEAN wD kwD hS (p1.toInt32) h0 n0 O0 ) hZ (ow hw 178 rfl) (ow hw 177 rfl) (by decide) (by decide)) (g := (mkF m 14 #[(vl p1), .second, .val (.int (((p1.toUInt64 >>> ((32 : Int32) &&& 0x3f).toInt64.toUInt64).toInt64).toInt32))] [(.int (p1.toInt32)), (.int 32)])) rfl (by rw [hml]; rfl) (argsL := [(.int (p1.toInt32))]) (rest := [(.int 32)]) (lenOf pd_0 rfl) rfl (by show 2 * 0 + _ ≤ _; exact Nat.le_of_eq rfl) (hb hby d24_14) (fun _ _ => ⟨rfl, e0, (by decide : 0 + 0 ≤ _), (by decide : 0 + 0 ≤ _)⟩)
    dsimp only [Pt.U, Pt.locs, Pt.cells, Pt.slots] at X3 l3 y3 z3 st3 hQ3
    subst y3 z3
    obtain ⟨r_3, rfl, Nq3, K3q, p3_0⟩ := hQ3
    have N3 : Fr n0 L3 := (congrArg (Fr n0) l3).mpr (Fr.app N0 Nq3)
    obtain ⟨fs, hr, hrun, hended, hW, hsame⟩ := X3.leave (v := some (.int ((32 : Int32) + r_3))) (fun h => by rw [hret0] at h; cases h)
    refine ⟨_, _, pre1 _ ?_, hrun, hended, _, _, rfl, ?_, ⟨_, rfl⟩, hW, hsame.mono (by decide) (by decide)⟩
    · skip
      refine XS.ifNo X0.here hx rfl (hb hby d24_7) rfl ((if0 _ _).trans (teq hc2).2) ?_
      refine XS.bipush X0.here hx rfl (hb hby d24_10) ?_
      refine XS.lloadN X0.here hx rfl (hb hby d24_12) rfl ?_
      refine XS.l2i X0.here hx rfl (hb hby d24_13) rfl ?_
      refine st3 _ ?_
      refine XS.iadd X3.here hx rfl (hb hby d24_17) rfl ?_
      refine XS.goto X3.here hx rfl (pc0 := 18) (pc' := 25) rfl (hb hby d24_18) (by decide) (by decide) ?_
      exact retI X3 hx hret0 (hb hby d24_25) hr
    · show Q_rmNlz64 Z wINTEGER wDOUBLE wBOOLEAN wD kwD p1 h0 n0 _ T3.heap _
      rw [K3q]
      exact ⟨((32 : Int32) + r_3), rfl, N3, rfl, (by unfold nlz64; rw [if_pos hc2, p3_0])⟩
  · skip
    obtain ⟨_, _, ⟨T4, L4, k4, n4⟩, -, X4, ⟨Lc4, hQ4, l4, y4, z4⟩, st4⟩ := Jvm.LawKit.callS X0 hx (y := M4) hown (mvT hZ (ow hw 175 rfl)) (mvT hZ (ow hw 176 rfl)) (mvT hZ (ow hw 177 rfl)) (mvT hZ (ow hw 178 rfl)) (by decide) (backOf (W := 0) (rmNlz32 l Z a0 hw [] wINTEGER wDOUBLE wBOOLEAN wD kwD hS (((p1.toUInt64 >>> ((32 : Int32) &&& 0x3f).toInt64.toUInt64).toInt64).toInt32) h0 n0 O0 ) hZ (ow hw 178 rfl) (ow hw 177 rfl) (by decide) (by decide)) (g := (mkF m 22 #[(vl p1), .second, .val (.int (((p1.toUInt64 >>> ((32 : Int32) &&& 0x3f).toInt64.toUInt64).toInt64).toInt32))] [(.int (((p1.toUInt64 >>> ((32 : Int32) &&& 0x3f).toInt64.toUInt64).toInt64).toInt32))])) rfl (by rw [hml]; rfl) (argsL := [(.int (((p1.toUInt64 >>> ((32 : Int32) &&& 0x3f).toInt64.toUInt64).toInt64).toInt32))]) (rest := []) (lenOf pd_0 rfl) rfl (by show 2 * 0 + _ ≤ _; exact Nat.le_of_eq rfl) (hb hby d24_22) (fun _ _ => ⟨rfl, e0, (by decide : 0 + 0 ≤ _), (by decide : 0 + 0 ≤ _)⟩)
    dsimp only [Pt.U, Pt.locs, Pt.cells, Pt.slots] at X4 l4 y4 z4 st4 hQ4
    subst y4 z4
    obtain ⟨r_4, rfl, Nq4, K4q, p4_0⟩ := hQ4
    have N4 : Fr n0 L4 := (congrArg (Fr n0) l4).mpr (Fr.app N0 Nq4)
    obtain ⟨fs, hr, hrun, hended, hW, hsame⟩ := X4.leave (v := some (.int r_4)) (fun h => by rw [hret0] at h; cases h)
    refine ⟨_, _, pre1 _ ?_, hrun, hended, _, _, rfl, ?_, ⟨_, rfl⟩, hW, hsame.mono (by decide) (by decide)⟩
    · skip
      refine XS.ifYes X0.here hx rfl (pc0 := 7) (pc' := 21) rfl (hb hby d24_7) rfl ((if0 _ _).trans (feq hc2).2) (by decide) (by decide) ?_
      refine XS.iloadN X0.here hx rfl (hb hby d24_21) rfl ?_
      refine st4 _ ?_
      exact retI X4 hx hret0 (hb hby d24_25) hr
    · show Q_rmNlz64 Z wINTEGER wDOUBLE wBOOLEAN wD kwD p1 h0 n0 _ T4.heap _
      rw [K4q]
      exact ⟨r_4, rfl, N4, rfl, (by unfold nlz64; rw [if_neg hc2, p4_0])⟩
theorem ef_rmVar (m : MethodId) (x0 : Addr) (x1 : Int64) (x2 : Int64) (x3 : Int32)  : entryFrame m #[(.ref x0), (.long x1), (.long x2), (.int x3)] 6 = mkF m 0 #[(vr x0), (vl x1), .second, (vl x2), .second, (vi x3)] [] := by first | (simp [entryFrame, mkF, argsToLocals, Value.category]; done) | rfl
theorem d8_0 : decode method_5_code 0 = .ok (.new 13, 3) := by decide +kernel
theorem d8_3 : decode method_5_code 3 = .ok (.dup, 1) := by decide +kernel
theorem d8_4 : decode method_5_code 4 = .ok (.aload_n 0, 1) := by decide +kernel
theorem d8_5 : decode method_5_code 5 = .ok (.iload 5, 2) := by decide +kernel
theorem d8_7 : decode method_5_code 7 = .ok (.ifCond .eq 9, 3) := by decide +kernel
theorem d8_16 : decode method_5_code 16 = .ok (.getstatic 21, 3) := by decide +kernel
theorem d8_19 : decode method_5_code 19 = .ok (.lload_n 1, 1) := by decide +kernel
theorem d8_20 : decode method_5_code 20 = .ok (.l2i, 1) := by decide +kernel
theorem d8_21 : decode method_5_code 21 = .ok (.lload_n 1, 1) := by decide +kernel
theorem d8_22 : decode method_5_code 22 = .ok (.lload_n 3, 1) := by decide +kernel
theorem d8_23 : decode method_5_code 23 = .ok (.ladd, 1) := by decide +kernel
theorem d8_24 : decode method_5_code 24 = .ok (.l2i, 1) := by decide +kernel
theorem d8_25 : decode method_5_code 25 = .ok (.invokespecial 24, 3) := by decide +kernel
theorem ef_au9_0 (m : MethodId) (x0 : Addr) (x1 : Addr) (x2 : Addr) (x3 : Int32) (x4 : Int32)  : entryFrame m #[(.ref x0), (.ref x1), (.ref x2), (.int x3), (.int x4)] 5 = mkF m 0 #[(vr x0), (vr x1), (vr x2), (vi x3), (vi x4)] [] := by first | (simp [entryFrame, mkF, argsToLocals, Value.category]; done) | rfl
theorem pn_com_example_lanc_lanc_model_StateValuations_Variable : plainName "com/example/lanc/lanc/model/StateValuations$Variable" = true := by first | (simp [plainName, overriddenIn]; done) | decide +kernel
theorem d9_0 : decode prog_104_method_1_code 0 = .ok (.aload_n 0, 1) := by decide +kernel
theorem d9_1 : decode prog_104_method_1_code 1 = .ok (.invokespecial 1, 3) := by decide +kernel
theorem ef_au10_0 (m : MethodId) (x0 : Addr)  : entryFrame m #[(.ref x0)] 1 = mkF m 0 #[(vr x0)] [] := by first | (simp [entryFrame, mkF, argsToLocals, Value.category]; done) | rfl
theorem pn_java_lang_Record : plainName "java/lang/Record" = true := by first | (simp [plainName, overriddenIn]; done) | decide +kernel
theorem d10_0 : decode jdk_30_method_1_code 0 = .ok (.aload_n 0, 1) := by decide +kernel
theorem d10_1 : decode jdk_30_method_1_code 1 = .ok (.invokespecial 1, 3) := by decide +kernel
theorem d10_4 : decode jdk_30_method_1_code 4 = .ok (.return_, 1) := by decide +kernel
def Q_au10_0 (Z : State) (wINTEGER : Addr) (wDOUBLE : Addr) (wBOOLEAN : Addr) (wD : Addr) (kwD : ClassId) (pa1 : Addr) (h0 : Heap) (n0 : Nat) (v : Option Value) (h : Heap) (L : List Loc) : Prop := v = none ∧ Fr n0 L ∧ h = h0
theorem au10_0 (l : Launch) (Z : State) (a0 : Array Value) (hw : ∀ d ∈ tables_1, d.before a0 Z = true) (ws : List Jvm.Cond) (wINTEGER : Addr) (wDOUBLE : Addr) (wBOOLEAN : Addr) (wD : Addr) (kwD : ClassId) (hS : SS Z wINTEGER wDOUBLE wBOOLEAN wD kwD) (pa1 : Addr) (h0 : Heap) (n0 : Nat) (O0 : Old Z n0 h0)  :
    MetB l M6 jdk_30_method_1_code 1 none ws (rmk 1 0 0 12) Z h0 #[(.ref pa1)] (Q_au10_0 Z wINTEGER wDOUBLE wBOOLEAN wD kwD pa1 h0 n0) := by
  refine own_body (plainFor_of_name pn_java_lang_Record) ?_
  intro p e s m below meth c s₁ hx hby hml hown hnm hret0 hlk0 hZ X0 e0
  have N0 := Fr.nil n0
  have pre0 : ∀ t, Steps p.tables e below (s₁.setTop (mkF m 0 #[(vr pa1)] [])) t → Steps p.tables e below (s₁.setTop (entryFrame m #[(.ref pa1)] 1)) t := fun t k => castTop (ef_au10_0 m pa1) k
  have hS0 := hS
  obtain ⟨S_wINTEGER, E_wINTEGER, S_wDOUBLE, E_wDOUBLE, S_wBOOLEAN, E_wBOOLEAN, F_ordinal_wINTEGER, F_ordinal_wDOUBLE, F_ordinal_wBOOLEAN, S_wD, E_wD, V_wD⟩ := hS0
  obtain ⟨T1, X1, e1, st1⟩ := initO X0 hx hZ hown (ow hw 64 rfl) (ow hw 32 rfl) (ow hw 33 rfl) e0 (g := (mkF m 1 #[(vr pa1)] [(.ref pa1)])) rfl (by rw [hml]; rfl) rfl (hb hby d10_1) (by decide) (W := 0) (by show 2 * 0 + _ ≤ _; exact Nat.le_of_eq rfl) (by decide)
  obtain ⟨fs, hr, hrun, hended, hW, hsame⟩ := X1.leave (v := none) (fun _ => rfl)
  refine ⟨_, _, pre0 _ ?_, hrun, hended, _, _, rfl, ?_, ⟨_, rfl⟩, hW, hsame.mono (by decide) (by decide)⟩
  · skip
    show Steps p.tables e below (s₁.setTop (mkF m 0 #[(vr pa1)] [])) _
    refine XS.aloadN X0.here hx rfl (hb hby d10_0) rfl rfl ?_
    refine st1 _ ?_
    exact X1.returnOut hx hret0 (hb hby d10_4) hr
  · show Q_au10_0 Z wINTEGER wDOUBLE wBOOLEAN wD kwD pa1 h0 n0 _ T1.heap _
    rw [e1]
    exact ⟨rfl, N0, rfl⟩
theorem pd_1 : parseMethodDescriptor "()V" = some ⟨[], none⟩ := by decide +kernel
theorem d9_4 : decode prog_104_method_1_code 4 = .ok (.aload_n 2, 1) := by decide +kernel
theorem d9_5 : decode prog_104_method_1_code 5 = .ok (.getstatic 7, 3) := by decide +kernel
theorem d9_8 : decode prog_104_method_1_code 8 = .ok (.if_acmp .eq 26, 3) := by decide +kernel
theorem d9_11 : decode prog_104_method_1_code 11 = .ok (.iload_n 3, 1) := by decide +kernel
theorem d9_12 : decode prog_104_method_1_code 12 = .ok (.iload 4, 2) := by decide +kernel
theorem d9_14 : decode prog_104_method_1_code 14 = .ok (.if_icmp .gt 20, 3) := by decide +kernel
theorem d9_17 : decode prog_104_method_1_code 17 = .ok (.aload_n 2, 1) := by decide +kernel
theorem d9_18 : decode prog_104_method_1_code 18 = .ok (.getstatic 13, 3) := by decide +kernel
theorem d9_21 : decode prog_104_method_1_code 21 = .ok (.if_acmp .ne 33, 3) := by decide +kernel
theorem d9_54 : decode prog_104_method_1_code 54 = .ok (.aload_n 0, 1) := by decide +kernel
theorem d9_55 : decode prog_104_method_1_code 55 = .ok (.aload_n 1, 1) := by decide +kernel
theorem d9_56 : decode prog_104_method_1_code 56 = .ok (.putfield 31, 3) := by decide +kernel
theorem d9_59 : decode prog_104_method_1_code 59 = .ok (.aload_n 0, 1) := by decide +kernel
theorem d9_60 : decode prog_104_method_1_code 60 = .ok (.aload_n 2, 1) := by decide +kernel
theorem d9_61 : decode prog_104_method_1_code 61 = .ok (.putfield 37, 3) := by decide +kernel
theorem d9_64 : decode prog_104_method_1_code 64 = .ok (.aload_n 0, 1) := by decide +kernel
theorem d9_65 : decode prog_104_method_1_code 65 = .ok (.iload_n 3, 1) := by decide +kernel
theorem d9_66 : decode prog_104_method_1_code 66 = .ok (.putfield 40, 3) := by decide +kernel
theorem d9_69 : decode prog_104_method_1_code 69 = .ok (.aload_n 0, 1) := by decide +kernel
theorem d9_70 : decode prog_104_method_1_code 70 = .ok (.iload 4, 2) := by decide +kernel
theorem d9_72 : decode prog_104_method_1_code 72 = .ok (.putfield 44, 3) := by decide +kernel
theorem d9_75 : decode prog_104_method_1_code 75 = .ok (.return_, 1) := by decide +kernel
def Q_au9_0 (Z : State) (wINTEGER : Addr) (wDOUBLE : Addr) (wBOOLEAN : Addr) (wD : Addr) (kwD : ClassId) (pa1 : Addr) (pa2 : Addr) (pi3 : Int32) (pi4 : Int32) (h0 : Heap) (n0 : Nat) (v : Option Value) (h : Heap) (L : List Loc) : Prop := v = none ∧ Fr n0 L ∧ Keep h0 h [pa1] ∧ Exa Z h pa1 s5n ∧ Fld Z h pa1 s5n "high" "I" (.int pi4) ∧ Fld Z h pa1 s5n "low" "I" (.int pi3) ∧ Fld Z h pa1 s5n "name" s6n (.ref pa2) ∧ Fld Z h pa1 s5n "type" s1n (.ref wINTEGER)
theorem au9_0 (l : Launch) (Z : State) (a0 : Array Value) (hw : ∀ d ∈ tables_1, d.before a0 Z = true) (ws : List Jvm.Cond) (wINTEGER : Addr) (wDOUBLE : Addr) (wBOOLEAN : Addr) (wD : Addr) (kwD : ClassId) (hS : SS Z wINTEGER wDOUBLE wBOOLEAN wD kwD) (pa1 : Addr) (pa2 : Addr) (pi3 : Int32) (pi4 : Int32) (h0 : Heap) (n0 : Nat) (O0 : Old Z n0 h0) (P0 : Exa Z h0 pa1 s5n) (P1 : Fld Z h0 pa1 s5n "high" "I" (.int 0)) (P2 : Fld Z h0 pa1 s5n "low" "I" (.int 0)) (P3 : Fld Z h0 pa1 s5n "name" s6n .null) (P4 : Fld Z h0 pa1 s5n "type" s1n .null) (P5 : ¬ pi4 < pi3) (P6 : n0 ≤ pa1) :
    MetB l M7 prog_104_method_1_code 5 none ws (rmk 2 0 0 24) Z h0 #[(.ref pa1), (.ref pa2), (.ref wINTEGER), (.int pi3), (.int pi4)] (Q_au9_0 Z wINTEGER wDOUBLE wBOOLEAN wD kwD pa1 pa2 pi3 pi4 h0 n0) := by
  refine own_body (plainFor_of_name pn_com_example_lanc_lanc_model_StateValuations_Variable) ?_
  intro p e s m below meth c s₁ hx hby hml hown hnm hret0 hlk0 hZ X0 e0
  have N0 := Fr.nil n0
  have pre0 : ∀ t, Steps p.tables e below (s₁.setTop (mkF m 0 #[(vr pa1), (vr pa2), (vr wINTEGER), (vi pi3), (vi pi4)] [])) t → Steps p.tables e below (s₁.setTop (entryFrame m #[(.ref pa1), (.ref pa2), (.ref wINTEGER), (.int pi3), (.int pi4)] 5)) t := fun t k => castTop (ef_au9_0 m pa1 pa2 wINTEGER pi3 pi4) k
  have K0 := Keep.refl h0 [pa1]
  have hS0 := hS
  obtain ⟨S_wINTEGER, E_wINTEGER, S_wDOUBLE, E_wDOUBLE, S_wBOOLEAN, E_wBOOLEAN, F_ordinal_wINTEGER, F_ordinal_wDOUBLE, F_ordinal_wBOOLEAN, S_wD, E_wD, V_wD⟩ := hS0
  obtain ⟨_, _, ⟨T1, L1, k1, n1⟩, -, X1, ⟨Lc1, hQ1, l1, y1, z1⟩, st1⟩ := X0.specialBack hx (y := M6) rfl hown (mvT hZ (ow hw 59 rfl)) (mvT hZ (ow hw 60 rfl)) (mvT hZ (ow hw 63 rfl)) (by decide) (backOf (W := 0) (au10_0 l Z a0 hw [] wINTEGER wDOUBLE wBOOLEAN wD kwD hS pa1 h0 n0 O0 ) hZ (ow hw 63 rfl) (ow hw 62 rfl) (by decide) (by decide)) (g := (mkF m 1 #[(vr pa1), (vr pa2), (vr wINTEGER), (vi pi3), (vi pi4)] [(.ref pa1)])) rfl (by rw [hml]; rfl) (Steps.refl _) (a := pa1) (argsL := []) (rest := []) (lenOf pd_1 rfl) rfl (by show 2 * 0 + _ ≤ _; exact Nat.le_of_eq rfl) (hb hby d9_1) (fun _ _ => ⟨rfl, e0, (by decide : 0 + 0 ≤ _), (by decide : 0 + 0 ≤ _)⟩)
  dsimp only [Pt.U, Pt.locs, Pt.cells, Pt.slots] at X1 l1 y1 z1 st1 hQ1
  subst y1 z1
  obtain ⟨rfl, Nq1, K1q⟩ := hQ1
  have N1 : Fr n0 L1 := (congrArg (Fr n0) l1).mpr (Fr.app N0 Nq1)
  obtain ⟨T2, X2, e2, st2⟩ := getS2 X1 hx hZ hown (host := "") (Or.inl (ow hw 65 rfl)) Via.refl K1q (S_wDOUBLE.ext O0.2) (g := (mkF m 5 #[(vr pa1), (vr pa2), (vr wINTEGER), (vi pi3), (vi pi4)] [(.ref wINTEGER)])) rfl (hb hby d9_5)
  have ne3 : wINTEGER ≠ wDOUBLE := Fld.ne F_ordinal_wINTEGER F_ordinal_wDOUBLE (by decide)
  obtain ⟨T4, X4, e4, st4⟩ := getS2 X2 hx hZ hown (host := "") (Or.inl (ow hw 67 rfl)) Via.refl e2 (S_wBOOLEAN.ext O0.2) (g := (mkF m 18 #[(vr pa1), (vr pa2), (vr wINTEGER), (vi pi3), (vi pi4)] [(.ref wINTEGER)])) rfl (hb hby d9_18)
  have ne5 : wINTEGER ≠ wBOOLEAN := Fld.ne F_ordinal_wINTEGER F_ordinal_wBOOLEAN (by decide)
  obtain ⟨T6, h6, X6, e6, W6, st6⟩ := putF X4 hx hZ hown (host := "") (Or.inl (ow hw 69 rfl)) Via.refl e4 P3 P0 (Or.inr ⟨(ow hw 70 rfl), rfl, hnm⟩) (ow hw 51 rfl) (ty := (.object s7n)) (by decide) rfl rfl (g := (mkF m 56 #[(vr pa1), (vr pa2), (vr wINTEGER), (vi pi3), (vi pi4)] [(.ref pa2), (.ref pa1)])) rfl rfl (hb hby d9_56)
  have N6 := Fr.snoc X6 N1 P6
  have O7 : Old Z n0 h6 := O0.wr W6 P6
  have K7 : Keep h0 h6 [pa1] := K0.wr W6 (Or.inl (List.mem_of_getElem? (i := 0) rfl))
  have Fw6 : Fld Z h6 pa1 s5n "name" s6n (.ref pa2) := P3.same W6
  have f8 : Exa Z h6 pa1 s5n := (P0.wr W6)
  have f9 : Fld Z h6 pa1 s5n "type" s1n .null := (P4.other W6 (Or.inr (slot_ne (Or.inr (ow hw 72 rfl)) (Or.inr (ow hw 70 rfl)) (by decide) (t := (.object s0n)) (t' := (.object s7n)) (by decide) (by decide))))
  obtain ⟨T10, h10, X10, e10, W10, st10⟩ := putF X6 hx hZ hown (host := "") (Or.inl (ow hw 71 rfl)) Via.refl e6 f9 f8 (Or.inr ⟨(ow hw 72 rfl), rfl, hnm⟩) (ow hw 51 rfl) (ty := (.object s0n)) (by decide) rfl rfl (g := (mkF m 61 #[(vr pa1), (vr pa2), (vr wINTEGER), (vi pi3), (vi pi4)] [(.ref wINTEGER), (.ref pa1)])) rfl rfl (hb hby d9_61)
  have N10 := Fr.snoc X10 N6 P6
  have O11 : Old Z n0 h10 := O7.wr W10 P6
  have K11 : Keep h0 h10 [pa1] := K7.wr W10 (Or.inl (List.mem_of_getElem? (i := 0) rfl))
  have Fw10 : Fld Z h10 pa1 s5n "type" s1n (.ref wINTEGER) := f9.same W10
  have f12 : Exa Z h10 pa1 s5n := (f8.wr W10)
  have f13 : Fld Z h10 pa1 s5n "low" "I" (.int 0) := ((P2.other W6 (Or.inr (slot_ne (Or.inr (ow hw 74 rfl)) (Or.inr (ow hw 70 rfl)) (by decide) (t := .int) (t' := (.object s7n)) (by decide) (by decide)))).other W10 (Or.inr (slot_ne (Or.inr (ow hw 74 rfl)) (Or.inr (ow hw 72 rfl)) (by decide) (t := .int) (t' := (.object s0n)) (by decide) (by decide))))
  obtain ⟨T14, h14, X14, e14, W14, st14⟩ := putF X10 hx hZ hown (host := "") (Or.inl (ow hw 73 rfl)) Via.refl e10 f13 f12 (Or.inr ⟨(ow hw 74 rfl), rfl, hnm⟩) (ow hw 51 rfl) (ty := .int) (by decide) rfl rfl (g := (mkF m 66 #[(vr pa1), (vr pa2), (vr wINTEGER), (vi pi3), (vi pi4)] [(.int pi3), (.ref pa1)])) rfl rfl (hb hby d9_66)
  have N14 := Fr.snoc X14 N10 P6
  have O15 : Old Z n0 h14 := O11.wr W14 P6
  have K15 : Keep h0 h14 [pa1] := K11.wr W14 (Or.inl (List.mem_of_getElem? (i := 0) rfl))
  have Fw14 : Fld Z h14 pa1 s5n "low" "I" (.int pi3) := f13.same W14
  have f16 : Exa Z h14 pa1 s5n := (f12.wr W14)
  have f17 : Fld Z h14 pa1 s5n "high" "I" (.int 0) := (((P1.other W6 (Or.inr (slot_ne (Or.inr (ow hw 76 rfl)) (Or.inr (ow hw 70 rfl)) (by decide) (t := .int) (t' := (.object s7n)) (by decide) (by decide)))).other W10 (Or.inr (slot_ne (Or.inr (ow hw 76 rfl)) (Or.inr (ow hw 72 rfl)) (by decide) (t := .int) (t' := (.object s0n)) (by decide) (by decide)))).other W14 (Or.inr (slot_ne (Or.inr (ow hw 76 rfl)) (Or.inr (ow hw 74 rfl)) (by decide) (t := .int) (t' := .int) (by decide) (by decide))))
  obtain ⟨T18, h18, X18, e18, W18, st18⟩ := putF X14 hx hZ hown (host := "") (Or.inl (ow hw 75 rfl)) Via.refl e14 f17 f16 (Or.inr ⟨(ow hw 76 rfl), rfl, hnm⟩) (ow hw 51 rfl) (ty := .int) (by decide) rfl rfl (g := (mkF m 72 #[(vr pa1), (vr pa2), (vr wINTEGER), (vi pi3), (vi pi4)] [(.int pi4), (.ref pa1)])) rfl rfl (hb hby d9_72)
  have N18 := Fr.snoc X18 N14 P6
  have O19 : Old Z n0 h18 := O15.wr W18 P6
  have K19 : Keep h0 h18 [pa1] := K15.wr W18 (Or.inl (List.mem_of_getElem? (i := 0) rfl))
  have Fw18 : Fld Z h18 pa1 s5n "high" "I" (.int pi4) := f17.same W18
  have f20 : Exa Z h18 pa1 s5n := (f16.wr W18)
  have f21 : Fld Z h18 pa1 s5n "low" "I" (.int pi3) := (Fw14.other W18 (Or.inr (slot_ne (Or.inr (ow hw 74 rfl)) (Or.inr (ow hw 76 rfl)) (by decide) (t := .int) (t' := .int) (by decide) (by decide))))
  have f22 : Fld Z h18 pa1 s5n "name" s6n (.ref pa2) := (((Fw6.other W10 (Or.inr (slot_ne (Or.inr (ow hw 70 rfl)) (Or.inr (ow hw 72 rfl)) (by decide) (t := (.object s7n)) (t' := (.object s0n)) (by decide) (by decide)))).other W14 (Or.inr (slot_ne (Or.inr (ow hw 70 rfl)) (Or.inr (ow hw 74 rfl)) (by decide) (t := (.object s7n)) (t' := .int) (by decide) (by decide)))).other W18 (Or.inr (slot_ne (Or.inr (ow hw 70 rfl)) (Or.inr (ow hw 76 rfl)) (by decide) (t := (.object s7n)) (t' := .int) (by decide) (by decide))))
  have f23 : Fld Z h18 pa1 s5n "type" s1n (.ref wINTEGER) := ((Fw10.other W14 (Or.inr (slot_ne (Or.inr (ow hw 72 rfl)) (Or.inr (ow hw 74 rfl)) (by decide) (t := (.object s0n)) (t' := .int) (by decide) (by decide)))).other W18 (Or.inr (slot_ne (Or.inr (ow hw 72 rfl)) (Or.inr (ow hw 76 rfl)) (by decide) (t := (.object s0n)) (t' := .int) (by decide) (by decide))))
  obtain ⟨fs, hr, hrun, hended, hW, hsame⟩ := X18.leave (v := none) (fun _ => rfl)
  refine ⟨_, _, pre0 _ ?_, hrun, hended, _, _, rfl, ?_, ⟨_, rfl⟩, hW, hsame.mono (by decide) (by decide)⟩
  · skip
    show Steps p.tables e below (s₁.setTop (mkF m 0 #[(vr pa1), (vr pa2), (vr wINTEGER), (vi pi3), (vi pi4)] [])) _
    refine XS.aloadN X0.here hx rfl (hb hby d9_0) rfl rfl ?_
    refine st1.trans ?_
    refine XS.aloadN X1.here hx rfl (hb hby d9_4) rfl rfl ?_
    refine st2 _ ?_
    refine Jvm.RoadKit.acmp (g := (mkF m 8 #[(vr pa1), (vr pa2), (vr wINTEGER), (vi pi3), (vi pi4)] [(.ref wDOUBLE), (.ref wINTEGER)])) X2 hx rfl rfl rfl (pc0 := 8) (pc' := 11) (same := false) rfl (hb hby d9_8) rfl (decide_eq_false fun q => ne3 (Value.ref.inj q)) (by decide) (by decide) ?_
    refine XS.iloadN X2.here hx rfl (hb hby d9_11) rfl ?_
    refine XS.iload X2.here hx rfl (hb hby d9_12) rfl ?_
    refine XS.icmpNo X2.here hx rfl (hb hby d9_14) rfl (flt (P5 : ¬ (pi4 < pi3))).2.2.1 ?_
    refine XS.aloadN X2.here hx rfl (hb hby d9_17) rfl rfl ?_
    refine st4 _ ?_
    refine Jvm.RoadKit.acmp (g := (mkF m 21 #[(vr pa1), (vr pa2), (vr wINTEGER), (vi pi3), (vi pi4)] [(.ref wBOOLEAN), (.ref wINTEGER)])) X4 hx rfl rfl rfl (pc0 := 21) (pc' := 54) (same := false) rfl (hb hby d9_21) rfl (decide_eq_false fun q => ne5 (Value.ref.inj q)) (by decide) (by decide) ?_
    refine XS.aloadN X4.here hx rfl (hb hby d9_54) rfl rfl ?_
    refine XS.aloadN X4.here hx rfl (hb hby d9_55) rfl rfl ?_
    refine st6 _ ?_
    show Steps p.tables e below (T6.setTop (mkF m 59 #[(vr pa1), (vr pa2), (vr wINTEGER), (vi pi3), (vi pi4)] [])) _
    refine XS.aloadN X6.here hx rfl (hb hby d9_59) rfl rfl ?_
    refine XS.aloadN X6.here hx rfl (hb hby d9_60) rfl rfl ?_
    refine st10 _ ?_
    refine XS.aloadN X10.here hx rfl (hb hby d9_64) rfl rfl ?_
    refine XS.iloadN X10.here hx rfl (hb hby d9_65) rfl ?_
    refine st14 _ ?_
    refine XS.aloadN X14.here hx rfl (hb hby d9_69) rfl rfl ?_
    refine XS.iload X14.here hx rfl (hb hby d9_70) rfl ?_
    refine st18 _ ?_
    exact X18.returnOut hx hret0 (hb hby d9_75) hr
  · show Q_au9_0 Z wINTEGER wDOUBLE wBOOLEAN wD kwD pa1 pa2 pi3 pi4 h0 n0 _ T18.heap _
    rw [e18]
    exact ⟨rfl, N18, K19, f20, Fw18, f21, f22, f23⟩
theorem pd_2 : parseMethodDescriptor "(Ljava/lang/String;Lcom/example/lanc/lanc/expression/Type;II)V" = some ⟨[(.object "java/lang/String"), (.object "com/example/lanc/lanc/expression/Type"), .int, .int], none⟩ := by decide +kernel
theorem d8_28 : decode method_5_code 28 = .ok (.areturn, 1) := by decide +kernel
theorem d8_10 : decode method_5_code 10 = .ok (.getstatic 15, 3) := by decide +kernel
theorem d8_13 : decode method_5_code 13 = .ok (.goto 6, 3) := by decide +kernel
theorem ef_au9_1 (m : MethodId) (x0 : Addr) (x1 : Addr) (x2 : Addr) (x3 : Int32) (x4 : Int32)  : entryFrame m #[(.ref x0), (.ref x1), (.ref x2), (.int x3), (.int x4)] 5 = mkF m 0 #[(vr x0), (vr x1), (vr x2), (vi x3), (vi x4)] [] := by first | (simp [entryFrame, mkF, argsToLocals, Value.category]; done) | rfl
theorem d9_24 : decode prog_104_method_1_code 24 = .ok (.iload_n 3, 1) := by decide +kernel
theorem d9_25 : decode prog_104_method_1_code 25 = .ok (.ifCond .ne 9, 3) := by decide +kernel
theorem d9_28 : decode prog_104_method_1_code 28 = .ok (.iload 4, 2) := by decide +kernel
theorem d9_30 : decode prog_104_method_1_code 30 = .ok (.iconst 1, 1) := by decide +kernel
theorem d9_31 : decode prog_104_method_1_code 31 = .ok (.if_icmp .eq 23, 3) := by decide +kernel
def Q_au9_1 (Z : State) (wINTEGER : Addr) (wDOUBLE : Addr) (wBOOLEAN : Addr) (wD : Addr) (kwD : ClassId) (pa1 : Addr) (pa2 : Addr) (pi3 : Int32) (pi4 : Int32) (h0 : Heap) (n0 : Nat) (v : Option Value) (h : Heap) (L : List Loc) : Prop := v = none ∧ Fr n0 L ∧ Keep h0 h [pa1] ∧ Exa Z h pa1 s5n ∧ Fld Z h pa1 s5n "high" "I" (.int pi4) ∧ Fld Z h pa1 s5n "low" "I" (.int pi3) ∧ Fld Z h pa1 s5n "name" s6n (.ref pa2) ∧ Fld Z h pa1 s5n "type" s1n (.ref wBOOLEAN)
theorem au9_1 (l : Launch) (Z : State) (a0 : Array Value) (hw : ∀ d ∈ tables_1, d.before a0 Z = true) (ws : List Jvm.Cond) (wINTEGER : Addr) (wDOUBLE : Addr) (wBOOLEAN : Addr) (wD : Addr) (kwD : ClassId) (hS : SS Z wINTEGER wDOUBLE wBOOLEAN wD kwD) (pa1 : Addr) (pa2 : Addr) (pi3 : Int32) (pi4 : Int32) (h0 : Heap) (n0 : Nat) (O0 : Old Z n0 h0) (P0 : Exa Z h0 pa1 s5n) (P1 : Fld Z h0 pa1 s5n "high" "I" (.int 0)) (P2 : Fld Z h0 pa1 s5n "low" "I" (.int 0)) (P3 : Fld Z h0 pa1 s5n "name" s6n .null) (P4 : Fld Z h0 pa1 s5n "type" s1n .null) (P5 : ¬ pi4 < pi3) (P6 : pi3 = (0 : Int32)) (P7 : pi4 = (1 : Int32)) (P8 : n0 ≤ pa1) :
    MetB l M7 prog_104_method_1_code 5 none ws (rmk 2 0 0 24) Z h0 #[(.ref pa1), (.ref pa2), (.ref wBOOLEAN), (.int pi3), (.int pi4)] (Q_au9_1 Z wINTEGER wDOUBLE wBOOLEAN wD kwD pa1 pa2 pi3 pi4 h0 n0) := by
  refine own_body (plainFor_of_name pn_com_example_lanc_lanc_model_StateValuations_Variable) ?_
  intro p e s m below meth c s₁ hx hby hml hown hnm hret0 hlk0 hZ X0 e0
  have N0 := Fr.nil n0
  have pre0 : ∀ t, Steps p.tables e below (s₁.setTop (mkF m 0 #[(vr pa1), (vr pa2), (vr wBOOLEAN), (vi pi3), (vi pi4)] [])) t → Steps p.tables e below (s₁.setTop (entryFrame m #[(.ref pa1), (.ref pa2), (.ref wBOOLEAN), (.int pi3), (.int pi4)] 5)) t := fun t k => castTop (ef_au9_1 m pa1 pa2 wBOOLEAN pi3 pi4) k
  have K0 := Keep.refl h0 [pa1]
  have hS0 := hS
  obtain ⟨S_wINTEGER, E_wINTEGER, S_wDOUBLE, E_wDOUBLE, S_wBOOLEAN, E_wBOOLEAN, F_ordinal_wINTEGER, F_ordinal_wDOUBLE, F_ordinal_wBOOLEAN, S_wD, E_wD, V_wD⟩ := hS0
  obtain ⟨_, _, ⟨T1, L1, k1, n1⟩, -, X1, ⟨Lc1, hQ1, l1, y1, z1⟩, st1⟩ := X0.specialBack hx (y := M6) rfl hown (mvT hZ (ow hw 59 rfl)) (mvT hZ (ow hw 60 rfl)) (mvT hZ (ow hw 63 rfl)) (by decide) (backOf (W := 0) (au10_0 l Z a0 hw [] wINTEGER wDOUBLE wBOOLEAN wD kwD hS pa1 h0 n0 O0 ) hZ (ow hw 63 rfl) (ow hw 62 rfl) (by decide) (by decide)) (g := (mkF m 1 #[(vr pa1), (vr pa2), (vr wBOOLEAN), (vi pi3), (vi pi4)] [(.ref pa1)])) rfl (by rw [hml]; rfl) (Steps.refl _) (a := pa1) (argsL := []) (rest := []) (lenOf pd_1 rfl) rfl (by show 2 * 0 + _ ≤ _; exact Nat.le_of_eq rfl) (hb hby d9_1) (fun _ _ => ⟨rfl, e0, (by decide : 0 + 0 ≤ _), (by decide : 0 + 0 ≤ _)⟩)
  dsimp only [Pt.U, Pt.locs, Pt.cells, Pt.slots] at X1 l1 y1 z1 st1 hQ1
  subst y1 z1
  obtain ⟨rfl, Nq1, K1q⟩ := hQ1
  have N1 : Fr n0 L1 := (congrArg (Fr n0) l1).mpr (Fr.app N0 Nq1)
  obtain ⟨T2, X2, e2, st2⟩ := getS2 X1 hx hZ hown (host := "") (Or.inl (ow hw 65 rfl)) Via.refl K1q (S_wDOUBLE.ext O0.2) (g := (mkF m 5 #[(vr pa1), (vr pa2), (vr wBOOLEAN), (vi pi3), (vi pi4)] [(.ref wBOOLEAN)])) rfl (hb hby d9_5)
  have ne3 : wBOOLEAN ≠ wDOUBLE := Fld.ne F_ordinal_wBOOLEAN F_ordinal_wDOUBLE (by decide)
  obtain ⟨T4, X4, e4, st4⟩ := getS2 X2 hx hZ hown (host := "") (Or.inl (ow hw 67 rfl)) Via.refl e2 (S_wBOOLEAN.ext O0.2) (g := (mkF m 18 #[(vr pa1), (vr pa2), (vr wBOOLEAN), (vi pi3), (vi pi4)] [(.ref wBOOLEAN)])) rfl (hb hby d9_18)
  obtain ⟨T5, h5, X5, e5, W5, st5⟩ := putF X4 hx hZ hown (host := "") (Or.inl (ow hw 69 rfl)) Via.refl e4 P3 P0 (Or.inr ⟨(ow hw 70 rfl), rfl, hnm⟩) (ow hw 51 rfl) (ty := (.object s7n)) (by decide) rfl rfl (g := (mkF m 56 #[(vr pa1), (vr pa2), (vr wBOOLEAN), (vi pi3), (vi pi4)] [(.ref pa2), (.ref pa1)])) rfl rfl (hb hby d9_56)
  have N5 := Fr.snoc X5 N1 P8
  have O6 : Old Z n0 h5 := O0.wr W5 P8
  have K6 : Keep h0 h5 [pa1] := K0.wr W5 (Or.inl (List.mem_of_getElem? (i := 0) rfl))
  have Fw5 : Fld Z h5 pa1 s5n "name" s6n (.ref pa2) := P3.same W5
  have f7 : Exa Z h5 pa1 s5n := (P0.wr W5)
  have f8 : Fld Z h5 pa1 s5n "type" s1n .null := (P4.other W5 (Or.inr (slot_ne (Or.inr (ow hw 72 rfl)) (Or.inr (ow hw 70 rfl)) (by decide) (t := (.object s0n)) (t' := (.object s7n)) (by decide) (by decide))))
  obtain ⟨T9, h9, X9, e9, W9, st9⟩ := putF X5 hx hZ hown (host := "") (Or.inl (ow hw 71 rfl)) Via.refl e5 f8 f7 (Or.inr ⟨(ow hw 72 rfl), rfl, hnm⟩) (ow hw 51 rfl) (ty := (.object s0n)) (by decide) rfl rfl (g := (mkF m 61 #[(vr pa1), (vr pa2), (vr wBOOLEAN), (vi pi3), (vi pi4)] [(.ref wBOOLEAN), (.ref pa1)])) rfl rfl (hb hby d9_61)
  have N9 := Fr.snoc X9 N5 P8
  have O10 : Old Z n0 h9 := O6.wr W9 P8
  have K10 : Keep h0 h9 [pa1] := K6.wr W9 (Or.inl (List.mem_of_getElem? (i := 0) rfl))
  have Fw9 : Fld Z h9 pa1 s5n "type" s1n (.ref wBOOLEAN) := f8.same W9
  have f11 : Exa Z h9 pa1 s5n := (f7.wr W9)
  have f12 : Fld Z h9 pa1 s5n "low" "I" (.int 0) := ((P2.other W5 (Or.inr (slot_ne (Or.inr (ow hw 74 rfl)) (Or.inr (ow hw 70 rfl)) (by decide) (t := .int) (t' := (.object s7n)) (by decide) (by decide)))).other W9 (Or.inr (slot_ne (Or.inr (ow hw 74 rfl)) (Or.inr (ow hw 72 rfl)) (by decide) (t := .int) (t' := (.object s0n)) (by decide) (by decide))))
  obtain ⟨T13, h13, X13, e13, W13, st13⟩ := putF X9 hx hZ hown (host := "") (Or.inl (ow hw 73 rfl)) Via.refl e9 f12 f11 (Or.inr ⟨(ow hw 74 rfl), rfl, hnm⟩) (ow hw 51 rfl) (ty := .int) (by decide) rfl rfl (g := (mkF m 66 #[(vr pa1), (vr pa2), (vr wBOOLEAN), (vi pi3), (vi pi4)] [(.int pi3), (.ref pa1)])) rfl rfl (hb hby d9_66)
  have N13 := Fr.snoc X13 N9 P8
  have O14 : Old Z n0 h13 := O10.wr W13 P8
  have K14 : Keep h0 h13 [pa1] := K10.wr W13 (Or.inl (List.mem_of_getElem? (i := 0) rfl))
  have Fw13 : Fld Z h13 pa1 s5n "low" "I" (.int pi3) := f12.same W13
  have f15 : Exa Z h13 pa1 s5n := (f11.wr W13)
  have f16 : Fld Z h13 pa1 s5n "high" "I" (.int 0) := (((P1.other W5 (Or.inr (slot_ne (Or.inr (ow hw 76 rfl)) (Or.inr (ow hw 70 rfl)) (by decide) (t := .int) (t' := (.object s7n)) (by decide) (by decide)))).other W9 (Or.inr (slot_ne (Or.inr (ow hw 76 rfl)) (Or.inr (ow hw 72 rfl)) (by decide) (t := .int) (t' := (.object s0n)) (by decide) (by decide)))).other W13 (Or.inr (slot_ne (Or.inr (ow hw 76 rfl)) (Or.inr (ow hw 74 rfl)) (by decide) (t := .int) (t' := .int) (by decide) (by decide))))
  obtain ⟨T17, h17, X17, e17, W17, st17⟩ := putF X13 hx hZ hown (host := "") (Or.inl (ow hw 75 rfl)) Via.refl e13 f16 f15 (Or.inr ⟨(ow hw 76 rfl), rfl, hnm⟩) (ow hw 51 rfl) (ty := .int) (by decide) rfl rfl (g := (mkF m 72 #[(vr pa1), (vr pa2), (vr wBOOLEAN), (vi pi3), (vi pi4)] [(.int pi4), (.ref pa1)])) rfl rfl (hb hby d9_72)
  have N17 := Fr.snoc X17 N13 P8
  have O18 : Old Z n0 h17 := O14.wr W17 P8
  have K18 : Keep h0 h17 [pa1] := K14.wr W17 (Or.inl (List.mem_of_getElem? (i := 0) rfl))
  have Fw17 : Fld Z h17 pa1 s5n "high" "I" (.int pi4) := f16.same W17
  have f19 : Exa Z h17 pa1 s5n := (f15.wr W17)
  have f20 : Fld Z h17 pa1 s5n "low" "I" (.int pi3) := (Fw13.other W17 (Or.inr (slot_ne (Or.inr (ow hw 74 rfl)) (Or.inr (ow hw 76 rfl)) (by decide) (t := .int) (t' := .int) (by decide) (by decide))))
  have f21 : Fld Z h17 pa1 s5n "name" s6n (.ref pa2) := (((Fw5.other W9 (Or.inr (slot_ne (Or.inr (ow hw 70 rfl)) (Or.inr (ow hw 72 rfl)) (by decide) (t := (.object s7n)) (t' := (.object s0n)) (by decide) (by decide)))).other W13 (Or.inr (slot_ne (Or.inr (ow hw 70 rfl)) (Or.inr (ow hw 74 rfl)) (by decide) (t := (.object s7n)) (t' := .int) (by decide) (by decide)))).other W17 (Or.inr (slot_ne (Or.inr (ow hw 70 rfl)) (Or.inr (ow hw 76 rfl)) (by decide) (t := (.object s7n)) (t' := .int) (by decide) (by decide))))
  have f22 : Fld Z h17 pa1 s5n "type" s1n (.ref wBOOLEAN) := ((Fw9.other W13 (Or.inr (slot_ne (Or.inr (ow hw 72 rfl)) (Or.inr (ow hw 74 rfl)) (by decide) (t := (.object s0n)) (t' := .int) (by decide) (by decide)))).other W17 (Or.inr (slot_ne (Or.inr (ow hw 72 rfl)) (Or.inr (ow hw 76 rfl)) (by decide) (t := (.object s0n)) (t' := .int) (by decide) (by decide))))
  obtain ⟨fs, hr, hrun, hended, hW, hsame⟩ := X17.leave (v := none) (fun _ => rfl)
  refine ⟨_, _, pre0 _ ?_, hrun, hended, _, _, rfl, ?_, ⟨_, rfl⟩, hW, hsame.mono (by decide) (by decide)⟩
  · skip
    show Steps p.tables e below (s₁.setTop (mkF m 0 #[(vr pa1), (vr pa2), (vr wBOOLEAN), (vi pi3), (vi pi4)] [])) _
    refine XS.aloadN X0.here hx rfl (hb hby d9_0) rfl rfl ?_
    refine st1.trans ?_
    refine XS.aloadN X1.here hx rfl (hb hby d9_4) rfl rfl ?_
    refine st2 _ ?_
    refine Jvm.RoadKit.acmp (g := (mkF m 8 #[(vr pa1), (vr pa2), (vr wBOOLEAN), (vi pi3), (vi pi4)] [(.ref wDOUBLE), (.ref wBOOLEAN)])) X2 hx rfl rfl rfl (pc0 := 8) (pc' := 11) (same := false) rfl (hb hby d9_8) rfl (decide_eq_false fun q => ne3 (Value.ref.inj q)) (by decide) (by decide) ?_
    refine XS.iloadN X2.here hx rfl (hb hby d9_11) rfl ?_
    refine XS.iload X2.here hx rfl (hb hby d9_12) rfl ?_
    refine XS.icmpNo X2.here hx rfl (hb hby d9_14) rfl (flt (P5 : ¬ (pi4 < pi3))).2.2.1 ?_
    refine XS.aloadN X2.here hx rfl (hb hby d9_17) rfl rfl ?_
    refine st4 _ ?_
    refine Jvm.RoadKit.acmp (g := (mkF m 21 #[(vr pa1), (vr pa2), (vr wBOOLEAN), (vi pi3), (vi pi4)] [(.ref wBOOLEAN), (.ref wBOOLEAN)])) X4 hx rfl rfl rfl (pc0 := 21) (pc' := 24) (same := true) rfl (hb hby d9_21) rfl (decide_eq_true rfl) (by decide) (by decide) ?_
    refine XS.iloadN X4.here hx rfl (hb hby d9_24) rfl ?_
    refine XS.ifNo X4.here hx rfl (hb hby d9_25) rfl ((if0 _ _).trans (teq (P6 : pi3 = (0 : Int32))).2) ?_
    refine XS.iload X4.here hx rfl (hb hby d9_28) rfl ?_
    show Steps p.tables e below (T4.setTop (mkF m 30 #[(vr pa1), (vr pa2), (vr wBOOLEAN), (vi pi3), (vi pi4)] [(.int pi4)])) _
    refine XS.iconst X4.here hx rfl (hb hby d9_30) ?_
    refine XS.icmpYes X4.here hx rfl (pc0 := 31) (pc' := 54) rfl (hb hby d9_31) rfl (teq (P7 : pi4 = (1 : Int32))).1 (by decide) (by decide) ?_
    refine XS.aloadN X4.here hx rfl (hb hby d9_54) rfl rfl ?_
    refine XS.aloadN X4.here hx rfl (hb hby d9_55) rfl rfl ?_
    refine st5 _ ?_
    refine XS.aloadN X5.here hx rfl (hb hby d9_59) rfl rfl ?_
    refine XS.aloadN X5.here hx rfl (hb hby d9_60) rfl rfl ?_
    refine st9 _ ?_
    refine XS.aloadN X9.here hx rfl (hb hby d9_64) rfl rfl ?_
    refine XS.iloadN X9.here hx rfl (hb hby d9_65) rfl ?_
    refine st13 _ ?_
    refine XS.aloadN X13.here hx rfl (hb hby d9_69) rfl rfl ?_
    refine XS.iload X13.here hx rfl (hb hby d9_70) rfl ?_
    refine st17 _ ?_
    show Steps p.tables e below (T17.setTop (mkF m 75 #[(vr pa1), (vr pa2), (vr wBOOLEAN), (vi pi3), (vi pi4)] [])) _
    exact X17.returnOut hx hret0 (hb hby d9_75) hr
  · show Q_au9_1 Z wINTEGER wDOUBLE wBOOLEAN wD kwD pa1 pa2 pi3 pi4 h0 n0 _ T17.heap _
    rw [e17]
    exact ⟨rfl, N17, K18, f19, Fw17, f20, f21, f22⟩
def Q_rmVar (Z : State) (wINTEGER : Addr) (wDOUBLE : Addr) (wBOOLEAN : Addr) (wD : Addr) (kwD : ClassId) (a1 : Addr) (q1 : Int64) (q2 : Int64) (p3 : Int32) (h0 : Heap) (n0 : Nat) (v : Option Value) (h : Heap) (L : List Loc) : Prop := ∃ (r : Addr) (t : Addr) (zl : Int32) (zh : Int32), v = some (.ref r) ∧ Fr n0 L ∧ Keep h0 h [] ∧ h0.size ≤ r ∧ Exa Z h r s5n ∧ Fld Z h r s5n "name" s6n (.ref a1) ∧ Fld Z h r s5n "type" s1n (.ref t) ∧ Fld Z h r s5n "low" "I" (.int zl) ∧ Fld Z h r s5n "high" "I" (.int zh) ∧ zl = (q1.toInt32) ∧ zh = ((q1 + q2).toInt32)
theorem rmVar (l : Launch) (Z : State) (a0 : Array Value) (hw : ∀ d ∈ tables_1, d.before a0 Z = true) (ws : List Jvm.Cond) (wINTEGER : Addr) (wDOUBLE : Addr) (wBOOLEAN : Addr) (wD : Addr) (kwD : ClassId) (hS : SS Z wINTEGER wDOUBLE wBOOLEAN wD kwD) (a1 : Addr) (q1 : Int64) (q2 : Int64) (p3 : Int32) (h0 : Heap) (n0 : Nat) (O0 : Old Z n0 h0) (P0 : ¬ ((q1 + q2).toInt32) < (q1.toInt32)) (P1 : p3 = (0 : Int32) ∨ (q1 = (0 : Int64) ∧ q2 = (1 : Int64))) :
    MetB l M8 method_5_code 6 (some (.object s5n)) ws (rmk 3 1 4 41) Z h0 #[(.ref a1), (.long q1), (.long q2), (.int p3)] (Q_rmVar Z wINTEGER wDOUBLE wBOOLEAN wD kwD a1 q1 q2 p3 h0 n0) := by
  refine own_body (plainFor_of_name pn_com_example_lanc_lanc_model_VariableLayoutPackPinLaw) ?_
  intro p e s m below meth c s₁ hx hby hml hown hnm hret0 hlk0 hZ X0 e0
  have N0 := Fr.nil n0
  have pre0 : ∀ t, Steps p.tables e below (s₁.setTop (mkF m 0 #[(vr a1), (vl q1), .second, (vl q2), .second, (vi p3)] [])) t → Steps p.tables e below (s₁.setTop (entryFrame m #[(.ref a1), (.long q1), (.long q2), (.int p3)] 6)) t := fun t k => castTop (ef_rmVar m a1 q1 q2 p3) k
  have K0 := Keep.refl h0 []
  have hS0 := hS
  obtain ⟨S_wINTEGER, E_wINTEGER, S_wDOUBLE, E_wDOUBLE, S_wBOOLEAN, E_wBOOLEAN, F_ordinal_wINTEGER, F_ordinal_wDOUBLE, F_ordinal_wBOOLEAN, S_wD, E_wD, V_wD⟩ := hS0
  obtain ⟨T1, h1, X1, e1, E1, A1, D1, -, st1⟩ := newO X0 hx hZ hown (ow hw 50 rfl) (ow hw 51 rfl) (ow hw 52 rfl) e0 (g := (mkF m 0 #[(vr a1), (vl q1), .second, (vl q2), .second, (vi p3)] [])) rfl (hb hby d8_0) (by decide) (by decide)
  obtain ⟨b1, g1⟩ : ∃ z, z = h0.size := ⟨_, rfl⟩
  rw [← g1] at A1 D1 st1
  have g2 : n0 ≤ b1 := Nat.le_trans (own_sz O0) (Nat.le_of_eq g1.symm)
  have sz3 : h0.size ≤ b1 := Nat.le_trans K0.1 (Nat.le_of_eq g1.symm)
  have O4 : Old Z n0 h1 := O0.ext E1
  have K4 : Keep h0 h1 [] := K0.ext E1
  have f5 : Fld Z h1 b1 s5n "name" s6n .null := D1 (Or.inr (ow hw 70 rfl)) (ty := (.object s7n)) (by decide)
  have f6 : Fld Z h1 b1 s5n "type" s1n .null := D1 (Or.inr (ow hw 72 rfl)) (ty := (.object s0n)) (by decide)
  have f7 : Fld Z h1 b1 s5n "low" "I" (.int 0) := D1 (Or.inr (ow hw 74 rfl)) (ty := .int) (by decide)
  have f8 : Fld Z h1 b1 s5n "high" "I" (.int 0) := D1 (Or.inr (ow hw 76 rfl)) (ty := .int) (by decide)
  have pre9 : ∀ t, Steps p.tables e below (T1.setTop (mkF m 7 #[(vr a1), (vl q1), .second, (vl q2), .second, (vi p3)] [(.int p3), (.ref a1), (.ref b1), (.ref b1)])) t → Steps p.tables e below (s₁.setTop (entryFrame m #[(.ref a1), (.long q1), (.long q2), (.int p3)] 6)) t := by
    intro t k
    refine pre0 t ?_
    show Steps p.tables e below (s₁.setTop (mkF m 0 #[(vr a1), (vl q1), .second, (vl q2), .second, (vi p3)] [])) _
    refine st1 _ ?_
    refine XS.dup X1.here hx rfl (hb hby d8_3) rfl rfl ?_
    refine XS.aloadN X1.here hx rfl (hb hby d8_4) rfl rfl ?_
    refine XS.iload X1.here hx rfl (hb hby d8_5) rfl ?_
    exact k
  rcases Decidable.em (p3 = (0 : Int32)) with hc10 | hc10
  · skip
    obtain ⟨T11, X11, e11, st11⟩ := getS2 X1 hx hZ hown (host := "") (Or.inl (ow hw 53 rfl)) Via.refl e1 (S_wINTEGER.ext O4.2) (g := (mkF m 16 #[(vr a1), (vl q1), .second, (vl q2), .second, (vi p3)] [(.ref a1), (.ref b1), (.ref b1)])) rfl (hb hby d8_16)
    obtain ⟨wl, hwl⟩ : ∃ z : Int32, z = (q1.toInt32) := ⟨_, rfl⟩
    have pre12 : ∀ t, Steps p.tables e below (T11.setTop (mkF m 21 #[(vr a1), (vl q1), .second, (vl q2), .second, (vi p3)] [(.int wl), (.ref wINTEGER), (.ref a1), (.ref b1), (.ref b1)])) t → Steps p.tables e below (s₁.setTop (entryFrame m #[(.ref a1), (.long q1), (.long q2), (.int p3)] 6)) t := by
      intro t k
      rw [hwl] at k
      refine pre9 t ?_
      refine XS.ifYes X1.here hx rfl (pc0 := 7) (pc' := 16) rfl (hb hby d8_7) rfl ((if0 _ _).trans (teq hc10).1) (by decide) (by decide) ?_
      refine st11 _ ?_
      refine XS.lloadN X11.here hx rfl (hb hby d8_19) rfl ?_
      refine XS.l2i X11.here hx rfl (hb hby d8_20) rfl ?_
      exact k
    obtain ⟨wh, hwh⟩ : ∃ z : Int32, z = ((q1 + q2).toInt32) := ⟨_, rfl⟩
    have pre13 : ∀ t, Steps p.tables e below (T11.setTop (mkF m 25 #[(vr a1), (vl q1), .second, (vl q2), .second, (vi p3)] [(.int wh), (.int wl), (.ref wINTEGER), (.ref a1), (.ref b1), (.ref b1)])) t → Steps p.tables e below (s₁.setTop (entryFrame m #[(.ref a1), (.long q1), (.long q2), (.int p3)] 6)) t := by
      intro t k
      rw [hwh] at k
      refine pre12 t ?_
      show Steps p.tables e below (T11.setTop (mkF m 21 #[(vr a1), (vl q1), .second, (vl q2), .second, (vi p3)] [(.int wl), (.ref wINTEGER), (.ref a1), (.ref b1), (.ref b1)])) _
      refine XS.lloadN X11.here hx rfl (hb hby d8_21) rfl ?_
      refine XS.lloadN X11.here hx rfl (hb hby d8_22) rfl ?_
      refine XS.ladd X11.here hx rfl (hb hby d8_23) rfl ?_
      refine XS.l2i X11.here hx rfl (hb hby d8_24) rfl ?_
      exact k
    have hle : ¬ wh < wl := by rw [hwh, hwl]; exact P0
    obtain ⟨_, _, ⟨T14, L14, k14, n14⟩, -, X14, ⟨Lc14, hQ14, l14, y14, z14⟩, st14⟩ := X11.specialBack hx (y := M7) rfl hown (mvT hZ (ow hw 56 rfl)) (mvT hZ (ow hw 57 rfl)) (mvT hZ (ow hw 58 rfl)) (by decide) (backOf (W := 1) (au9_0 l Z a0 hw [] wINTEGER wDOUBLE wBOOLEAN wD kwD hS b1 a1 wl wh h1 n0 O4 A1 f8 f7 f5 f6 hle g2) hZ (ow hw 58 rfl) (ow hw 52 rfl) (by decide) (by decide)) (g := (mkF m 25 #[(vr a1), (vl q1), .second, (vl q2), .second, (vi p3)] [(.int wh), (.int wl), (.ref wINTEGER), (.ref a1), (.ref b1), (.ref b1)])) rfl (by rw [hml]; rfl) (Steps.refl _) (a := b1) (argsL := [(.ref a1), (.ref wINTEGER), (.int wl), (.int wh)]) (rest := [(.ref b1)]) (lenOf pd_2 rfl) rfl (by show 2 * 0 + _ ≤ _; exact Nat.le_of_eq rfl) (hb hby d8_25) (fun _ _ => ⟨rfl, e11, (by decide : 1 + 0 ≤ _), (by decide : 4 + 0 ≤ _)⟩)
    dsimp only [Pt.U, Pt.locs, Pt.cells, Pt.slots] at X14 l14 y14 z14 st14 hQ14
    subst y14 z14
    obtain ⟨rfl, Nq14, K14q, p14_0, p14_1, p14_2, p14_3, p14_4⟩ := hQ14
    have N14 : Fr n0 L14 := (congrArg (Fr n0) l14).mpr (Fr.app N0 Nq14)
    have O15 : Old Z n0 T14.heap := O4.keep K14q (allS g2 all0)
    have K15 : Keep h0 T14.heap [] := K4.trans K14q (allS (Or.inr sz3) all0)
    obtain ⟨fs, hr, hrun, hended, hW, hsame⟩ := X14.leave (v := some (.ref b1)) (fun h => by rw [hret0] at h; cases h)
    refine ⟨_, _, pre13 _ ?_, hrun, hended, _, _, rfl, ?_, ⟨_, rfl⟩, hW, hsame.mono (by decide) (by decide)⟩
    · skip
      show Steps p.tables e below (T11.setTop (mkF m 25 #[(vr a1), (vl q1), .second, (vl q2), .second, (vi p3)] [(.int wh), (.int wl), (.ref wINTEGER), (.ref a1), (.ref b1), (.ref b1)])) _
      refine st14.trans ?_
      jvm_step X14.here [X14.here.top, hx, (hb hby d8_28), X14.method', hret0, Value.isRef, FieldType.isReference]
      first | (intro acts; rw [hr _ acts rfl rfl rfl]) | rw [hr _ _ rfl rfl rfl]
      exact Steps.refl _
    · show Q_rmVar Z wINTEGER wDOUBLE wBOOLEAN wD kwD a1 q1 q2 p3 h0 n0 _ T14.heap _
      exact ⟨b1, wINTEGER, wl, wh, rfl, N14, K15, sz3, p14_0, p14_3, p14_4, p14_2, p14_1, hwl, hwh⟩
  · skip
    obtain ⟨T16, X16, e16, st16⟩ := getS2 X1 hx hZ hown (host := "") (Or.inl (ow hw 202 rfl)) Via.refl e1 (S_wBOOLEAN.ext O4.2) (g := (mkF m 10 #[(vr a1), (vl q1), .second, (vl q2), .second, (vi p3)] [(.ref a1), (.ref b1), (.ref b1)])) rfl (hb hby d8_10)
    obtain ⟨wl, hwl⟩ : ∃ z : Int32, z = (q1.toInt32) := ⟨_, rfl⟩
    have pre17 : ∀ t, Steps p.tables e below (T16.setTop (mkF m 21 #[(vr a1), (vl q1), .second, (vl q2), .second, (vi p3)] [(.int wl), (.ref wBOOLEAN), (.ref a1), (.ref b1), (.ref b1)])) t → Steps p.tables e below (s₁.setTop (entryFrame m #[(.ref a1), (.long q1), (.long q2), (.int p3)] 6)) t := by
      intro t k
      rw [hwl] at k
      refine pre9 t ?_
      refine XS.ifNo X1.here hx rfl (hb hby d8_7) rfl ((if0 _ _).trans (feq hc10).1) ?_
      refine st16 _ ?_
      refine XS.goto X16.here hx rfl (pc0 := 13) (pc' := 19) rfl (hb hby d8_13) (by decide) (by decide) ?_
      refine XS.lloadN X16.here hx rfl (hb hby d8_19) rfl ?_
      refine XS.l2i X16.here hx rfl (hb hby d8_20) rfl ?_
      exact k
    obtain ⟨wh, hwh⟩ : ∃ z : Int32, z = ((q1 + q2).toInt32) := ⟨_, rfl⟩
    have pre18 : ∀ t, Steps p.tables e below (T16.setTop (mkF m 25 #[(vr a1), (vl q1), .second, (vl q2), .second, (vi p3)] [(.int wh), (.int wl), (.ref wBOOLEAN), (.ref a1), (.ref b1), (.ref b1)])) t → Steps p.tables e below (s₁.setTop (entryFrame m #[(.ref a1), (.long q1), (.long q2), (.int p3)] 6)) t := by
      intro t k
      rw [hwh] at k
      refine pre17 t ?_
      show Steps p.tables e below (T16.setTop (mkF m 21 #[(vr a1), (vl q1), .second, (vl q2), .second, (vi p3)] [(.int wl), (.ref wBOOLEAN), (.ref a1), (.ref b1), (.ref b1)])) _
      refine XS.lloadN X16.here hx rfl (hb hby d8_21) rfl ?_
      refine XS.lloadN X16.here hx rfl (hb hby d8_22) rfl ?_
      refine XS.ladd X16.here hx rfl (hb hby d8_23) rfl ?_
      refine XS.l2i X16.here hx rfl (hb hby d8_24) rfl ?_
      exact k
    have hle : ¬ wh < wl := by rw [hwh, hwl]; exact P0
    have hl0 : wl = (0 : Int32) := by rw [hwl, (P1.resolve_left hc10).1]; decide
    have hh1 : wh = (1 : Int32) := by rw [hwh, (P1.resolve_left hc10).1, (P1.resolve_left hc10).2]; decide
    obtain ⟨_, _, ⟨T19, L19, k19, n19⟩, -, X19, ⟨Lc19, hQ19, l19, y19, z19⟩, st19⟩ := X16.specialBack hx (y := M7) rfl hown (mvT hZ (ow hw 56 rfl)) (mvT hZ (ow hw 57 rfl)) (mvT hZ (ow hw 58 rfl)) (by decide) (backOf (W := 1) (au9_1 l Z a0 hw [] wINTEGER wDOUBLE wBOOLEAN wD kwD hS b1 a1 wl wh h1 n0 O4 A1 f8 f7 f5 f6 hle hl0 hh1 g2) hZ (ow hw 58 rfl) (ow hw 52 rfl) (by decide) (by decide)) (g := (mkF m 25 #[(vr a1), (vl q1), .second, (vl q2), .second, (vi p3)] [(.int wh), (.int wl), (.ref wBOOLEAN), (.ref a1), (.ref b1), (.ref b1)])) rfl (by rw [hml]; rfl) (Steps.refl _) (a := b1) (argsL := [(.ref a1), (.ref wBOOLEAN), (.int wl), (.int wh)]) (rest := [(.ref b1)]) (lenOf pd_2 rfl) rfl (by show 2 * 0 + _ ≤ _; exact Nat.le_of_eq rfl) (hb hby d8_25) (fun _ _ => ⟨rfl, e16, (by decide : 1 + 0 ≤ _), (by decide : 4 + 0 ≤ _)⟩)
    dsimp only [Pt.U, Pt.locs, Pt.cells, Pt.slots] at X19 l19 y19 z19 st19 hQ19
    subst y19 z19
    obtain ⟨rfl, Nq19, K19q, p19_0, p19_1, p19_2, p19_3, p19_4⟩ := hQ19
    have N19 : Fr n0 L19 := (congrArg (Fr n0) l19).mpr (Fr.app N0 Nq19)
    have O20 : Old Z n0 T19.heap := O4.keep K19q (allS g2 all0)
    have K20 : Keep h0 T19.heap [] := K4.trans K19q (allS (Or.inr sz3) all0)
    obtain ⟨fs, hr, hrun, hended, hW, hsame⟩ := X19.leave (v := some (.ref b1)) (fun h => by rw [hret0] at h; cases h)
    refine ⟨_, _, pre18 _ ?_, hrun, hended, _, _, rfl, ?_, ⟨_, rfl⟩, hW, hsame.mono (by decide) (by decide)⟩
    · skip
      show Steps p.tables e below (T16.setTop (mkF m 25 #[(vr a1), (vl q1), .second, (vl q2), .second, (vi p3)] [(.int wh), (.int wl), (.ref wBOOLEAN), (.ref a1), (.ref b1), (.ref b1)])) _
      refine st19.trans ?_
      jvm_step X19.here [X19.here.top, hx, (hb hby d8_28), X19.method', hret0, Value.isRef, FieldType.isReference]
      first | (intro acts; rw [hr _ acts rfl rfl rfl]) | rw [hr _ _ rfl rfl rfl]
      exact Steps.refl _
    · show Q_rmVar Z wINTEGER wDOUBLE wBOOLEAN wD kwD a1 q1 q2 p3 h0 n0 _ T19.heap _
      exact ⟨b1, wBOOLEAN, wl, wh, rfl, N19, K20, sz3, p19_0, p19_3, p19_4, p19_2, p19_1, hwl, hwh⟩
theorem ef_rmSlot (m : MethodId) (x0 : Addr) (x1 : Addr) (x2 : Int32) (x3 : Int32) (x4 : Int32) (x5 : Int64)  : entryFrame m #[(.ref x0), (.ref x1), (.int x2), (.int x3), (.int x4), (.long x5)] 7 = mkF m 0 #[(vr x0), (vr x1), (vi x2), (vi x3), (vi x4), (vl x5), .second] [] := by first | (simp [entryFrame, mkF, argsToLocals, Value.category]; done) | rfl
theorem d28_0 : decode method_6_code 0 = .ok (.iload_n 2, 1) := by decide +kernel
theorem d28_1 : decode method_6_code 1 = .ok (.iload_n 3, 1) := by decide +kernel
theorem d28_2 : decode method_6_code 2 = .ok (.if_icmp .lt 11, 3) := by decide +kernel
theorem d28_13 : decode method_6_code 13 = .ok (.aload_n 0, 1) := by decide +kernel
theorem d28_14 : decode method_6_code 14 = .ok (.iload_n 2, 1) := by decide +kernel
theorem d28_15 : decode method_6_code 15 = .ok (.laload, 1) := by decide +kernel
theorem d28_16 : decode method_6_code 16 = .ok (.lload 5, 2) := by decide +kernel
theorem d28_18 : decode method_6_code 18 = .ok (.lcmp, 1) := by decide +kernel
theorem d28_19 : decode method_6_code 19 = .ok (.ifCond .ne 20, 3) := by decide +kernel
theorem d28_22 : decode method_6_code 22 = .ok (.aload_n 1, 1) := by decide +kernel
theorem d28_23 : decode method_6_code 23 = .ok (.iload_n 2, 1) := by decide +kernel
theorem d28_24 : decode method_6_code 24 = .ok (.laload, 1) := by decide +kernel
theorem d28_25 : decode method_6_code 25 = .ok (.lload 5, 2) := by decide +kernel
theorem d28_27 : decode method_6_code 27 = .ok (.ldc2_w 27, 3) := by decide +kernel
theorem d28_30 : decode method_6_code 30 = .ok (.lxor, 1) := by decide +kernel
theorem d28_31 : decode method_6_code 31 = .ok (.lcmp, 1) := by decide +kernel
theorem d28_32 : decode method_6_code 32 = .ok (.ifCond .ne 7, 3) := by decide +kernel
theorem d28_35 : decode method_6_code 35 = .ok (.iconst 1, 1) := by decide +kernel
theorem d28_36 : decode method_6_code 36 = .ok (.goto 4, 3) := by decide +kernel
theorem d28_40 : decode method_6_code 40 = .ok (.ireturn, 1) := by decide +kernel
theorem d28_5 : decode method_6_code 5 = .ok (.iload_n 2, 1) := by decide +kernel
theorem d28_6 : decode method_6_code 6 = .ok (.iload_n 3, 1) := by decide +kernel
theorem d28_7 : decode method_6_code 7 = .ok (.iload 4, 2) := by decide +kernel
theorem d28_9 : decode method_6_code 9 = .ok (.iadd, 1) := by decide +kernel
theorem d28_10 : decode method_6_code 10 = .ok (.if_icmp .lt 31, 3) := by decide +kernel
theorem d28_41 : decode method_6_code 41 = .ok (.aload_n 0, 1) := by decide +kernel
theorem d28_42 : decode method_6_code 42 = .ok (.iload_n 2, 1) := by decide +kernel
theorem d28_43 : decode method_6_code 43 = .ok (.laload, 1) := by decide +kernel
theorem d28_44 : decode method_6_code 44 = .ok (.aload_n 1, 1) := by decide +kernel
theorem d28_45 : decode method_6_code 45 = .ok (.iload_n 2, 1) := by decide +kernel
theorem d28_46 : decode method_6_code 46 = .ok (.laload, 1) := by decide +kernel
theorem d28_47 : decode method_6_code 47 = .ok (.lcmp, 1) := by decide +kernel
theorem d28_48 : decode method_6_code 48 = .ok (.ifCond .ne 7, 3) := by decide +kernel
theorem d28_51 : decode method_6_code 51 = .ok (.iconst 1, 1) := by decide +kernel
theorem d28_52 : decode method_6_code 52 = .ok (.goto 4, 3) := by decide +kernel
theorem d28_56 : decode method_6_code 56 = .ok (.ireturn, 1) := by decide +kernel
def Q_rmSlot (Z : State) (wINTEGER : Addr) (wDOUBLE : Addr) (wBOOLEAN : Addr) (wD : Addr) (kwD : ClassId) (a1 : Addr) (a2 : Addr) (k1 : ClassId) (k2 : ClassId) (j : Int32) (o : Int32) (n : Int32) (g : Int64) (ea0 : Int64) (ea1 : Int64) (ea2 : Int64) (ea3 : Int64) (ea4 : Int64) (ea5 : Int64) (fa0 : Int64) (fa1 : Int64) (fa2 : Int64) (fa3 : Int64) (fa4 : Int64) (fa5 : Int64) (h0 : Heap) (n0 : Nat) (v : Option Value) (h : Heap) (L : List Loc) : Prop := v = some (.int 1) ∧ Fr n0 L ∧ h = h0
theorem rmSlot (l : Launch) (Z : State) (a0 : Array Value) (hw : ∀ d ∈ tables_1, d.before a0 Z = true) (ws : List Jvm.Cond) (wINTEGER : Addr) (wDOUBLE : Addr) (wBOOLEAN : Addr) (wD : Addr) (kwD : ClassId) (hS : SS Z wINTEGER wDOUBLE wBOOLEAN wD kwD) (a1 : Addr) (a2 : Addr) (k1 : ClassId) (k2 : ClassId) (j : Int32) (o : Int32) (n : Int32) (g : Int64) (ea0 : Int64) (ea1 : Int64) (ea2 : Int64) (ea3 : Int64) (ea4 : Int64) (ea5 : Int64) (fa0 : Int64) (fa1 : Int64) (fa2 : Int64) (fa3 : Int64) (fa4 : Int64) (fa5 : Int64) (h0 : Heap) (n0 : Nat) (O0 : Old Z n0 h0) (P0 : Arv Z h0 a1 k1 .long (6 : Int32) ([(.long ea0), (.long ea1), (.long ea2), (.long ea3), (.long ea4), (.long ea5)]) (.long 0)) (P1 : Arv Z h0 a2 k2 .long (6 : Int32) ([(.long fa0), (.long fa1), (.long fa2), (.long fa3), (.long fa4), (.long fa5)]) (.long 0)) (P2 : inJ j) (P3 : slotOk j o n g (sel6 j ea0 ea1 ea2 ea3 ea4 ea5) (sel6 j fa0 fa1 fa2 fa3 fa4 fa5)) :
    MetB l M9 method_6_code 7 (some .boolean) ws (rmk 0 0 0 0) Z h0 #[(.ref a1), (.ref a2), (.int j), (.int o), (.int n), (.long g)] (Q_rmSlot Z wINTEGER wDOUBLE wBOOLEAN wD kwD a1 a2 k1 k2 j o n g ea0 ea1 ea2 ea3 ea4 ea5 fa0 fa1 fa2 fa3 fa4 fa5 h0 n0) := by
  refine own_body (plainFor_of_name pn_com_example_lanc_lanc_model_VariableLayoutPackPinLaw) ?_
  intro p e s m below meth c s₁ hx hby hml hown hnm hret0 hlk0 hZ X0 e0
  have N0 := Fr.nil n0
  have pre0 : ∀ t, Steps p.tables e below (s₁.setTop (mkF m 0 #[(vr a1), (vr a2), (vi j), (vi o), (vi n), (vl g), .second] [])) t → Steps p.tables e below (s₁.setTop (entryFrame m #[(.ref a1), (.ref a2), (.int j), (.int o), (.int n), (.long g)] 7)) t := fun t k => castTop (ef_rmSlot m a1 a2 j o n g) k
  have hS0 := hS
  obtain ⟨S_wINTEGER, E_wINTEGER, S_wDOUBLE, E_wDOUBLE, S_wBOOLEAN, E_wBOOLEAN, F_ordinal_wINTEGER, F_ordinal_wDOUBLE, F_ordinal_wBOOLEAN, S_wD, E_wD, V_wD⟩ := hS0
  have pre1 : ∀ t, Steps p.tables e below (s₁.setTop (mkF m 2 #[(vr a1), (vr a2), (vi j), (vi o), (vi n), (vl g), .second] [(.int o), (.int j)])) t → Steps p.tables e below (s₁.setTop (entryFrame m #[(.ref a1), (.ref a2), (.int j), (.int o), (.int n), (.long g)] 7)) t := by
    intro t k
    refine pre0 t ?_
    show Steps p.tables e below (s₁.setTop (mkF m 0 #[(vr a1), (vr a2), (vi j), (vi o), (vi n), (vl g), .second] [])) _
    refine XS.iloadN X0.here hx rfl (hb hby d28_0) rfl ?_
    refine XS.iloadN X0.here hx rfl (hb hby d28_1) rfl ?_
    exact k
  rcases Decidable.em (j < o) with hc2 | hc2
  · skip
    obtain ⟨cl3, Ar3, qc3, Sz3, Nn3, Ha3, Gg3⟩ := (id P0)
    have hin3 : ¬ (j < 0 ∨ cl3.slots.size ≤ (j).toNatClampNeg) := own_inbJ P2 Sz3
    have hat3 : cl3.slots[(j).toNatClampNeg]? = some (.long (sel6 j ea0 ea1 ea2 ea3 ea4 ea5)) := Ha3.at hin3 (own_getJ P2)
    obtain ⟨cl4, Ar4, qc4, Sz4, Nn4, Ha4, Gg4⟩ := (id P1)
    have hin4 : ¬ (j < 0 ∨ cl4.slots.size ≤ (j).toNatClampNeg) := own_inbJ P2 Sz4
    have hat4 : cl4.slots[(j).toNatClampNeg]? = some (.long (sel6 j fa0 fa1 fa2 fa3 fa4 fa5)) := Ha4.at hin4 (own_getJ P2)
    obtain ⟨fs, hr, hrun, hended, hW, hsame⟩ := X0.leave (v := some (.int 1)) (fun h => by rw [hret0] at h; cases h)
    refine ⟨_, _, pre1 _ ?_, hrun, hended, _, _, rfl, ?_, ⟨_, rfl⟩, hW, hsame.mono (by decide) (by decide)⟩
    · skip
      refine XS.icmpYes X0.here hx rfl (pc0 := 2) (pc' := 13) rfl (hb hby d28_2) rfl (tlt hc2).1 (by decide) (by decide) ?_
      refine XS.aloadN X0.here hx rfl (hb hby d28_13) rfl rfl ?_
      refine XS.iloadN X0.here hx rfl (hb hby d28_14) rfl ?_
      refine X0.laload hx (j := j) (v := (.long (sel6 j ea0 ea1 ea2 ea3 ea4 ea5))) (by rw [e0]; exact Ar3.1) (State.isArrayOf_alike hZ.alike Ar3.2.1) Ar3.2.2 hin3 hat3 (g := (mkF m 15 #[(vr a1), (vr a2), (vi j), (vi o), (vi n), (vl g), .second] [(.int j), (.ref a1)])) rfl rfl (hb hby d28_15) _ ?_
      refine XS.lload X0.here hx rfl (hb hby d28_16) rfl ?_
      refine XS.lcmp X0.here hx rfl (hb hby d28_18) rfl ?_
      refine XS.ifNo X0.here hx rfl (hb hby d28_19) rfl ((if0 _ _).trans (teq ((lw_eq _ _).mpr (own_slL P3 (Or.inl hc2)).1 : (lcmpW (sel6 j ea0 ea1 ea2 ea3 ea4 ea5) g) = (0 : Int32))).2) ?_
      refine XS.aloadN X0.here hx rfl (hb hby d28_22) rfl rfl ?_
      refine XS.iloadN X0.here hx rfl (hb hby d28_23) rfl ?_
      refine X0.laload hx (j := j) (v := (.long (sel6 j fa0 fa1 fa2 fa3 fa4 fa5))) (by rw [e0]; exact Ar4.1) (State.isArrayOf_alike hZ.alike Ar4.2.1) Ar4.2.2 hin4 hat4 (g := (mkF m 24 #[(vr a1), (vr a2), (vi j), (vi o), (vi n), (vl g), .second] [(.int j), (.ref a2)])) rfl rfl (hb hby d28_24) _ ?_
      refine XS.lload X0.here hx rfl (hb hby d28_25) rfl ?_
      refine X0.ldc2Long hx hown (mvT hZ (ow hw 183 rfl)) (g := (mkF m 27 #[(vr a1), (vr a2), (vi j), (vi o), (vi n), (vl g), .second] [(.long g), (.long (sel6 j fa0 fa1 fa2 fa3 fa4 fa5))])) rfl (hb hby d28_27) _ ?_
      show Steps p.tables e below (s₁.setTop (mkF m 30 #[(vr a1), (vr a2), (vi j), (vi o), (vi n), (vl g), .second] [(.long (-1 : Int64)), (.long g), (.long (sel6 j fa0 fa1 fa2 fa3 fa4 fa5))])) _
      refine XS.lxor X0.here hx rfl (hb hby d28_30) rfl ?_
      refine XS.lcmp X0.here hx rfl (hb hby d28_31) rfl ?_
      refine XS.ifNo X0.here hx rfl (hb hby d28_32) rfl ((if0 _ _).trans (teq ((lw_eq _ _).mpr (own_slL P3 (Or.inl hc2)).2 : (lcmpW (sel6 j fa0 fa1 fa2 fa3 fa4 fa5) (g ^^^ (-1 : Int64))) = (0 : Int32))).2) ?_
      refine XS.iconst X0.here hx rfl (hb hby d28_35) ?_
      refine XS.goto X0.here hx rfl (pc0 := 36) (pc' := 40) rfl (hb hby d28_36) (by decide) (by decide) ?_
      exact retN X0 hx (t := .boolean) hret0 (by simp) (hb hby d28_40) hr
    · show Q_rmSlot Z wINTEGER wDOUBLE wBOOLEAN wD kwD a1 a2 k1 k2 j o n g ea0 ea1 ea2 ea3 ea4 ea5 fa0 fa1 fa2 fa3 fa4 fa5 h0 n0 _ s₁.heap _
      rw [e0]
      exact ⟨rfl, N0, rfl⟩
  · skip
    have pre5 : ∀ t, Steps p.tables e below (s₁.setTop (mkF m 10 #[(vr a1), (vr a2), (vi j), (vi o), (vi n), (vl g), .second] [(.int (o + n)), (.int j)])) t → Steps p.tables e below (s₁.setTop (entryFrame m #[(.ref a1), (.ref a2), (.int j), (.int o), (.int n), (.long g)] 7)) t := by
      intro t k
      refine pre1 t ?_
      refine XS.icmpNo X0.here hx rfl (hb hby d28_2) rfl (flt hc2).1 ?_
      refine XS.iloadN X0.here hx rfl (hb hby d28_5) rfl ?_
      refine XS.iloadN X0.here hx rfl (hb hby d28_6) rfl ?_
      refine XS.iload X0.here hx rfl (hb hby d28_7) rfl ?_
      refine XS.iadd X0.here hx rfl (hb hby d28_9) rfl ?_
      exact k
    rcases Decidable.em (j < (o + n)) with hc6 | hc6
    · skip
      obtain ⟨cl7, Ar7, qc7, Sz7, Nn7, Ha7, Gg7⟩ := (id P0)
      have hin7 : ¬ (j < 0 ∨ cl7.slots.size ≤ (j).toNatClampNeg) := own_inbJ P2 Sz7
      have hat7 : cl7.slots[(j).toNatClampNeg]? = some (.long (sel6 j ea0 ea1 ea2 ea3 ea4 ea5)) := Ha7.at hin7 (own_getJ P2)
      obtain ⟨cl8, Ar8, qc8, Sz8, Nn8, Ha8, Gg8⟩ := (id P1)
      have hin8 : ¬ (j < 0 ∨ cl8.slots.size ≤ (j).toNatClampNeg) := own_inbJ P2 Sz8
      have hat8 : cl8.slots[(j).toNatClampNeg]? = some (.long (sel6 j fa0 fa1 fa2 fa3 fa4 fa5)) := Ha8.at hin8 (own_getJ P2)
      obtain ⟨fs, hr, hrun, hended, hW, hsame⟩ := X0.leave (v := some (.int 1)) (fun h => by rw [hret0] at h; cases h)
      refine ⟨_, _, pre5 _ ?_, hrun, hended, _, _, rfl, ?_, ⟨_, rfl⟩, hW, hsame.mono (by decide) (by decide)⟩
      · skip
        refine XS.icmpYes X0.here hx rfl (pc0 := 10) (pc' := 41) rfl (hb hby d28_10) rfl (tlt hc6).1 (by decide) (by decide) ?_
        refine XS.aloadN X0.here hx rfl (hb hby d28_41) rfl rfl ?_
        refine XS.iloadN X0.here hx rfl (hb hby d28_42) rfl ?_
        refine X0.laload hx (j := j) (v := (.long (sel6 j ea0 ea1 ea2 ea3 ea4 ea5))) (by rw [e0]; exact Ar7.1) (State.isArrayOf_alike hZ.alike Ar7.2.1) Ar7.2.2 hin7 hat7 (g := (mkF m 43 #[(vr a1), (vr a2), (vi j), (vi o), (vi n), (vl g), .second] [(.int j), (.ref a1)])) rfl rfl (hb hby d28_43) _ ?_
        refine XS.aloadN X0.here hx rfl (hb hby d28_44) rfl rfl ?_
        refine XS.iloadN X0.here hx rfl (hb hby d28_45) rfl ?_
        refine X0.laload hx (j := j) (v := (.long (sel6 j fa0 fa1 fa2 fa3 fa4 fa5))) (by rw [e0]; exact Ar8.1) (State.isArrayOf_alike hZ.alike Ar8.2.1) Ar8.2.2 hin8 hat8 (g := (mkF m 46 #[(vr a1), (vr a2), (vi j), (vi o), (vi n), (vl g), .second] [(.int j), (.ref a2), (.long (sel6 j ea0 ea1 ea2 ea3 ea4 ea5))])) rfl rfl (hb hby d28_46) _ ?_
        show Steps p.tables e below (s₁.setTop (mkF m 47 #[(vr a1), (vr a2), (vi j), (vi o), (vi n), (vl g), .second] [(.long (sel6 j fa0 fa1 fa2 fa3 fa4 fa5)), (.long (sel6 j ea0 ea1 ea2 ea3 ea4 ea5))])) _
        refine XS.lcmp X0.here hx rfl (hb hby d28_47) rfl ?_
        refine XS.ifNo X0.here hx rfl (hb hby d28_48) rfl ((if0 _ _).trans (teq ((lw_eq _ _).mpr (own_slR P3 hc2 hc6) : (lcmpW (sel6 j ea0 ea1 ea2 ea3 ea4 ea5) (sel6 j fa0 fa1 fa2 fa3 fa4 fa5)) = (0 : Int32))).2) ?_
        refine XS.iconst X0.here hx rfl (hb hby d28_51) ?_
        refine XS.goto X0.here hx rfl (pc0 := 52) (pc' := 56) rfl (hb hby d28_52) (by decide) (by decide) ?_
        exact retN X0 hx (t := .boolean) hret0 (by simp) (hb hby d28_56) hr
      · show Q_rmSlot Z wINTEGER wDOUBLE wBOOLEAN wD kwD a1 a2 k1 k2 j o n g ea0 ea1 ea2 ea3 ea4 ea5 fa0 fa1 fa2 fa3 fa4 fa5 h0 n0 _ s₁.heap _
        rw [e0]
        exact ⟨rfl, N0, rfl⟩
    · skip
      obtain ⟨cl9, Ar9, qc9, Sz9, Nn9, Ha9, Gg9⟩ := (id P0)
      have hin9 : ¬ (j < 0 ∨ cl9.slots.size ≤ (j).toNatClampNeg) := own_inbJ P2 Sz9
      have hat9 : cl9.slots[(j).toNatClampNeg]? = some (.long (sel6 j ea0 ea1 ea2 ea3 ea4 ea5)) := Ha9.at hin9 (own_getJ P2)
      obtain ⟨cl10, Ar10, qc10, Sz10, Nn10, Ha10, Gg10⟩ := (id P1)
      have hin10 : ¬ (j < 0 ∨ cl10.slots.size ≤ (j).toNatClampNeg) := own_inbJ P2 Sz10
      have hat10 : cl10.slots[(j).toNatClampNeg]? = some (.long (sel6 j fa0 fa1 fa2 fa3 fa4 fa5)) := Ha10.at hin10 (own_getJ P2)
      obtain ⟨fs, hr, hrun, hended, hW, hsame⟩ := X0.leave (v := some (.int 1)) (fun h => by rw [hret0] at h; cases h)
      refine ⟨_, _, pre5 _ ?_, hrun, hended, _, _, rfl, ?_, ⟨_, rfl⟩, hW, hsame.mono (by decide) (by decide)⟩
      · skip
        refine XS.icmpNo X0.here hx rfl (hb hby d28_10) rfl (flt hc6).1 ?_
        refine XS.aloadN X0.here hx rfl (hb hby d28_13) rfl rfl ?_
        refine XS.iloadN X0.here hx rfl (hb hby d28_14) rfl ?_
        refine X0.laload hx (j := j) (v := (.long (sel6 j ea0 ea1 ea2 ea3 ea4 ea5))) (by rw [e0]; exact Ar9.1) (State.isArrayOf_alike hZ.alike Ar9.2.1) Ar9.2.2 hin9 hat9 (g := (mkF m 15 #[(vr a1), (vr a2), (vi j), (vi o), (vi n), (vl g), .second] [(.int j), (.ref a1)])) rfl rfl (hb hby d28_15) _ ?_
        refine XS.lload X0.here hx rfl (hb hby d28_16) rfl ?_
        refine XS.lcmp X0.here hx rfl (hb hby d28_18) rfl ?_
        refine XS.ifNo X0.here hx rfl (hb hby d28_19) rfl ((if0 _ _).trans (teq ((lw_eq _ _).mpr (own_slL P3 (Or.inr hc6)).1 : (lcmpW (sel6 j ea0 ea1 ea2 ea3 ea4 ea5) g) = (0 : Int32))).2) ?_
        show Steps p.tables e below (s₁.setTop (mkF m 22 #[(vr a1), (vr a2), (vi j), (vi o), (vi n), (vl g), .second] [])) _
        refine XS.aloadN X0.here hx rfl (hb hby d28_22) rfl rfl ?_
        refine XS.iloadN X0.here hx rfl (hb hby d28_23) rfl ?_
        refine X0.laload hx (j := j) (v := (.long (sel6 j fa0 fa1 fa2 fa3 fa4 fa5))) (by rw [e0]; exact Ar10.1) (State.isArrayOf_alike hZ.alike Ar10.2.1) Ar10.2.2 hin10 hat10 (g := (mkF m 24 #[(vr a1), (vr a2), (vi j), (vi o), (vi n), (vl g), .second] [(.int j), (.ref a2)])) rfl rfl (hb hby d28_24) _ ?_
        refine XS.lload X0.here hx rfl (hb hby d28_25) rfl ?_
        refine X0.ldc2Long hx hown (mvT hZ (ow hw 183 rfl)) (g := (mkF m 27 #[(vr a1), (vr a2), (vi j), (vi o), (vi n), (vl g), .second] [(.long g), (.long (sel6 j fa0 fa1 fa2 fa3 fa4 fa5))])) rfl (hb hby d28_27) _ ?_
        refine XS.lxor X0.here hx rfl (hb hby d28_30) rfl ?_
        refine XS.lcmp X0.here hx rfl (hb hby d28_31) rfl ?_
        refine XS.ifNo X0.here hx rfl (hb hby d28_32) rfl ((if0 _ _).trans (teq ((lw_eq _ _).mpr (own_slL P3 (Or.inr hc6)).2 : (lcmpW (sel6 j fa0 fa1 fa2 fa3 fa4 fa5) (g ^^^ (-1 : Int64))) = (0 : Int32))).2) ?_
        refine XS.iconst X0.here hx rfl (hb hby d28_35) ?_
        refine XS.goto X0.here hx rfl (pc0 := 36) (pc' := 40) rfl (hb hby d28_36) (by decide) (by decide) ?_
        exact retN X0 hx (t := .boolean) hret0 (by simp) (hb hby d28_40) hr
      · show Q_rmSlot Z wINTEGER wDOUBLE wBOOLEAN wD kwD a1 a2 k1 k2 j o n g ea0 ea1 ea2 ea3 ea4 ea5 fa0 fa1 fa2 fa3 fa4 fa5 h0 n0 _ s₁.heap _
        rw [e0]
        exact ⟨rfl, N0, rfl⟩
theorem ef_rm0 (m : MethodId) (x0 : Int64) (x1 : Int64) (x2 : Int64) (x3 : Int64) (x4 : Int64) (x5 : Int32)  : entryFrame m #[(.long x0), (.long x1), (.long x2), (.long x3), (.long x4), (.int x5)] maxLocals = mkF m 0 #[(vl x0), .second, (vl x1), .second, (vl x2), .second, (vl x3), .second, (vl x4), .second, (vi x5), .unset, .unset, .unset, .unset, .unset, .unset, .unset, .unset, .unset, .unset, .unset, .unset, .unset, .unset, .unset, .unset, .unset, .unset, .unset, .unset, .unset, .unset, .unset, .unset, .unset, .unset, .unset] [] := by first | (simp [entryFrame, mkF, argsToLocals, Value.category, maxLocals]; done) | rfl
theorem pd_3 : parseMethodDescriptor "(JIZ)J" = some ⟨[.long, .int, .boolean], some .long⟩ := by decide +kernel
theorem pd_4 : parseMethodDescriptor "(JJZ)J" = some ⟨[.long, .long, .boolean], some .long⟩ := by decide +kernel
theorem pd_5 : parseMethodDescriptor "(JJI)I" = some ⟨[.long, .long, .int], some .int⟩ := by decide +kernel
theorem ef_au4_0 (m : MethodId) (x0 : Addr)  : entryFrame m #[(.ref x0)] 1 = mkF m 0 #[(vr x0)] [] := by first | (simp [entryFrame, mkF, argsToLocals, Value.category]; done) | rfl
theorem pn_java_util_ArrayList : plainName "java/util/ArrayList" = true := by first | (simp [plainName, overriddenIn]; done) | decide +kernel
theorem d4_0 : decode jdk_38_method_2_code 0 = .ok (.aload_n 0, 1) := by decide +kernel
theorem d4_1 : decode jdk_38_method_2_code 1 = .ok (.invokespecial 1, 3) := by decide +kernel
theorem ef_au5_0 (m : MethodId) (x0 : Addr)  : entryFrame m #[(.ref x0)] 1 = mkF m 0 #[(vr x0)] [] := by first | (simp [entryFrame, mkF, argsToLocals, Value.category]; done) | rfl
theorem pn_java_util_AbstractList : plainName "java/util/AbstractList" = true := by first | (simp [plainName, overriddenIn]; done) | decide +kernel
theorem d5_0 : decode jdk_39_method_1_code 0 = .ok (.aload_n 0, 1) := by decide +kernel
theorem d5_1 : decode jdk_39_method_1_code 1 = .ok (.invokespecial 1, 3) := by decide +kernel
theorem ef_au6_0 (m : MethodId) (x0 : Addr)  : entryFrame m #[(.ref x0)] 1 = mkF m 0 #[(vr x0)] [] := by first | (simp [entryFrame, mkF, argsToLocals, Value.category]; done) | rfl
theorem pn_java_util_AbstractCollection : plainName "java/util/AbstractCollection" = true := by first | (simp [plainName, overriddenIn]; done) | decide +kernel
theorem d6_0 : decode jdk_22_method_1_code 0 = .ok (.aload_n 0, 1) := by decide +kernel
theorem d6_1 : decode jdk_22_method_1_code 1 = .ok (.invokespecial 1, 3) := by decide +kernel
theorem d6_4 : decode jdk_22_method_1_code 4 = .ok (.return_, 1) := by decide +kernel
def Q_au6_0 (Z : State) (wINTEGER : Addr) (wDOUBLE : Addr) (wBOOLEAN : Addr) (wD : Addr) (kwD : ClassId) (pa1 : Addr) (h0 : Heap) (n0 : Nat) (v : Option Value) (h : Heap) (L : List Loc) : Prop := v = none ∧ Fr n0 L ∧ h = h0
theorem au6_0 (l : Launch) (Z : State) (a0 : Array Value) (hw : ∀ d ∈ tables_1, d.before a0 Z = true) (ws : List Jvm.Cond) (wINTEGER : Addr) (wDOUBLE : Addr) (wBOOLEAN : Addr) (wD : Addr) (kwD : ClassId) (hS : SS Z wINTEGER wDOUBLE wBOOLEAN wD kwD) (pa1 : Addr) (h0 : Heap) (n0 : Nat) (O0 : Old Z n0 h0)  :
    MetB l M10 jdk_22_method_1_code 1 none ws (rmk 1 0 0 12) Z h0 #[(.ref pa1)] (Q_au6_0 Z wINTEGER wDOUBLE wBOOLEAN wD kwD pa1 h0 n0) := by
  refine own_body (plainFor_of_name pn_java_util_AbstractCollection) ?_
  intro p e s m below meth c s₁ hx hby hml hown hnm hret0 hlk0 hZ X0 e0
  have N0 := Fr.nil n0
  have pre0 : ∀ t, Steps p.tables e below (s₁.setTop (mkF m 0 #[(vr pa1)] [])) t → Steps p.tables e below (s₁.setTop (entryFrame m #[(.ref pa1)] 1)) t := fun t k => castTop (ef_au6_0 m pa1) k
  have hS0 := hS
  obtain ⟨S_wINTEGER, E_wINTEGER, S_wDOUBLE, E_wDOUBLE, S_wBOOLEAN, E_wBOOLEAN, F_ordinal_wINTEGER, F_ordinal_wDOUBLE, F_ordinal_wBOOLEAN, S_wD, E_wD, V_wD⟩ := hS0
  obtain ⟨T1, X1, e1, st1⟩ := initO X0 hx hZ hown (ow hw 31 rfl) (ow hw 32 rfl) (ow hw 33 rfl) e0 (g := (mkF m 1 #[(vr pa1)] [(.ref pa1)])) rfl (by rw [hml]; rfl) rfl (hb hby d6_1) (by decide) (W := 0) (by show 2 * 0 + _ ≤ _; exact Nat.le_of_eq rfl) (by decide)
  obtain ⟨fs, hr, hrun, hended, hW, hsame⟩ := X1.leave (v := none) (fun _ => rfl)
  refine ⟨_, _, pre0 _ ?_, hrun, hended, _, _, rfl, ?_, ⟨_, rfl⟩, hW, hsame.mono (by decide) (by decide)⟩
  · skip
    show Steps p.tables e below (s₁.setTop (mkF m 0 #[(vr pa1)] [])) _
    refine XS.aloadN X0.here hx rfl (hb hby d6_0) rfl rfl ?_
    refine st1 _ ?_
    exact X1.returnOut hx hret0 (hb hby d6_4) hr
  · show Q_au6_0 Z wINTEGER wDOUBLE wBOOLEAN wD kwD pa1 h0 n0 _ T1.heap _
    rw [e1]
    exact ⟨rfl, N0, rfl⟩
theorem d5_4 : decode jdk_39_method_1_code 4 = .ok (.aload_n 0, 1) := by decide +kernel
theorem d5_5 : decode jdk_39_method_1_code 5 = .ok (.iconst 0, 1) := by decide +kernel
theorem d5_6 : decode jdk_39_method_1_code 6 = .ok (.putfield 7, 3) := by decide +kernel
theorem d5_9 : decode jdk_39_method_1_code 9 = .ok (.return_, 1) := by decide +kernel
def Q_au5_0 (Z : State) (wINTEGER : Addr) (wDOUBLE : Addr) (wBOOLEAN : Addr) (wD : Addr) (kwD : ClassId) (pa1 : Addr) (h0 : Heap) (n0 : Nat) (v : Option Value) (h : Heap) (L : List Loc) : Prop := v = none ∧ Fr n0 L ∧ Keep h0 h [pa1] ∧ Exa Z h pa1 s2n ∧ Fld Z h pa1 s8n "modCount" "I" (.int 0) ∧ Fld Z h pa1 s2n "elementData" s3n .null ∧ Fld Z h pa1 s2n "size" "I" (.int 0)
theorem au5_0 (l : Launch) (Z : State) (a0 : Array Value) (hw : ∀ d ∈ tables_1, d.before a0 Z = true) (ws : List Jvm.Cond) (wINTEGER : Addr) (wDOUBLE : Addr) (wBOOLEAN : Addr) (wD : Addr) (kwD : ClassId) (hS : SS Z wINTEGER wDOUBLE wBOOLEAN wD kwD) (pa1 : Addr) (h0 : Heap) (n0 : Nat) (O0 : Old Z n0 h0) (P0 : Exa Z h0 pa1 s2n) (P1 : Fld Z h0 pa1 s8n "modCount" "I" (.int 0)) (P2 : Fld Z h0 pa1 s2n "elementData" s3n .null) (P3 : Fld Z h0 pa1 s2n "size" "I" (.int 0)) (P4 : n0 ≤ pa1) :
    MetB l M11 jdk_39_method_1_code 1 none ws (rmk 2 0 0 24) Z h0 #[(.ref pa1)] (Q_au5_0 Z wINTEGER wDOUBLE wBOOLEAN wD kwD pa1 h0 n0) := by
  refine own_body (plainFor_of_name pn_java_util_AbstractList) ?_
  intro p e s m below meth c s₁ hx hby hml hown hnm hret0 hlk0 hZ X0 e0
  have N0 := Fr.nil n0
  have pre0 : ∀ t, Steps p.tables e below (s₁.setTop (mkF m 0 #[(vr pa1)] [])) t → Steps p.tables e below (s₁.setTop (entryFrame m #[(.ref pa1)] 1)) t := fun t k => castTop (ef_au5_0 m pa1) k
  have K0 := Keep.refl h0 [pa1]
  have hS0 := hS
  obtain ⟨S_wINTEGER, E_wINTEGER, S_wDOUBLE, E_wDOUBLE, S_wBOOLEAN, E_wBOOLEAN, F_ordinal_wINTEGER, F_ordinal_wDOUBLE, F_ordinal_wBOOLEAN, S_wD, E_wD, V_wD⟩ := hS0
  obtain ⟨_, _, ⟨T1, L1, k1, n1⟩, -, X1, ⟨Lc1, hQ1, l1, y1, z1⟩, st1⟩ := X0.specialBack hx (y := M10) rfl hown (mvT hZ (ow hw 25 rfl)) (mvT hZ (ow hw 26 rfl)) (mvT hZ (ow hw 30 rfl)) (by decide) (backOf (W := 0) (au6_0 l Z a0 hw [] wINTEGER wDOUBLE wBOOLEAN wD kwD hS pa1 h0 n0 O0 ) hZ (ow hw 30 rfl) (ow hw 29 rfl) (by decide) (by decide)) (g := (mkF m 1 #[(vr pa1)] [(.ref pa1)])) rfl (by rw [hml]; rfl) (Steps.refl _) (a := pa1) (argsL := []) (rest := []) (lenOf pd_1 rfl) rfl (by show 2 * 0 + _ ≤ _; exact Nat.le_of_eq rfl) (hb hby d5_1) (fun _ _ => ⟨rfl, e0, (by decide : 0 + 0 ≤ _), (by decide : 0 + 0 ≤ _)⟩)
  dsimp only [Pt.U, Pt.locs, Pt.cells, Pt.slots] at X1 l1 y1 z1 st1 hQ1
  subst y1 z1
  obtain ⟨rfl, Nq1, K1q⟩ := hQ1
  have N1 : Fr n0 L1 := (congrArg (Fr n0) l1).mpr (Fr.app N0 Nq1)
  obtain ⟨T2, h2, X2, e2, W2, st2⟩ := putF X1 hx hZ hown (host := "") (Or.inl (ow hw 34 rfl)) Via.refl K1q P1 P0 (Or.inl (ow hw 35 rfl)) (ow hw 14 rfl) (ty := .int) (by decide) rfl rfl (g := (mkF m 6 #[(vr pa1)] [(.int 0), (.ref pa1)])) rfl rfl (hb hby d5_6)
  have N2 := Fr.snoc X2 N1 P4
  have O3 : Old Z n0 h2 := O0.wr W2 P4
  have K3 : Keep h0 h2 [pa1] := K0.wr W2 (Or.inl (List.mem_of_getElem? (i := 0) rfl))
  have Fw2 : Fld Z h2 pa1 s8n "modCount" "I" (.int 0) := P1.same W2
  have f4 : Exa Z h2 pa1 s2n := (P0.wr W2)
  have f5 : Fld Z h2 pa1 s2n "elementData" s3n .null := (P2.other W2 (Or.inr (slot_ne (Or.inl (ow hw 38 rfl)) (Or.inl (ow hw 35 rfl)) (by decide) (t := (.array (.object s4n))) (t' := .int) (by decide) (by decide))))
  have f6 : Fld Z h2 pa1 s2n "size" "I" (.int 0) := (P3.other W2 (Or.inr (slot_ne (Or.inl (ow hw 89 rfl)) (Or.inl (ow hw 35 rfl)) (by decide) (t := .int) (t' := .int) (by decide) (by decide))))
  obtain ⟨fs, hr, hrun, hended, hW, hsame⟩ := X2.leave (v := none) (fun _ => rfl)
  refine ⟨_, _, pre0 _ ?_, hrun, hended, _, _, rfl, ?_, ⟨_, rfl⟩, hW, hsame.mono (by decide) (by decide)⟩
  · skip
    show Steps p.tables e below (s₁.setTop (mkF m 0 #[(vr pa1)] [])) _
    refine XS.aloadN X0.here hx rfl (hb hby d5_0) rfl rfl ?_
    refine st1.trans ?_
    refine XS.aloadN X1.here hx rfl (hb hby d5_4) rfl rfl ?_
    refine XS.iconst X1.here hx rfl (hb hby d5_5) ?_
    refine st2 _ ?_
    exact X2.returnOut hx hret0 (hb hby d5_9) hr
  · show Q_au5_0 Z wINTEGER wDOUBLE wBOOLEAN wD kwD pa1 h0 n0 _ T2.heap _
    rw [e2]
    exact ⟨rfl, N2, K3, f4, Fw2, f5, f6⟩
theorem d4_4 : decode jdk_38_method_2_code 4 = .ok (.aload_n 0, 1) := by decide +kernel
theorem d4_5 : decode jdk_38_method_2_code 5 = .ok (.getstatic 39, 3) := by decide +kernel
theorem d4_8 : decode jdk_38_method_2_code 8 = .ok (.putfield 9, 3) := by decide +kernel
theorem d4_11 : decode jdk_38_method_2_code 11 = .ok (.return_, 1) := by decide +kernel
def Q_au4_0 (Z : State) (wINTEGER : Addr) (wDOUBLE : Addr) (wBOOLEAN : Addr) (wD : Addr) (kwD : ClassId) (pa1 : Addr) (h0 : Heap) (n0 : Nat) (v : Option Value) (h : Heap) (L : List Loc) : Prop := v = none ∧ Fr n0 L ∧ Keep h0 h [pa1] ∧ Exa Z h pa1 s2n ∧ Fld Z h pa1 s8n "modCount" "I" (.int 0) ∧ Fld Z h pa1 s2n "elementData" s3n (.ref wD) ∧ Fld Z h pa1 s2n "size" "I" (.int 0)
theorem au4_0 (l : Launch) (Z : State) (a0 : Array Value) (hw : ∀ d ∈ tables_1, d.before a0 Z = true) (ws : List Jvm.Cond) (wINTEGER : Addr) (wDOUBLE : Addr) (wBOOLEAN : Addr) (wD : Addr) (kwD : ClassId) (hS : SS Z wINTEGER wDOUBLE wBOOLEAN wD kwD) (pa1 : Addr) (h0 : Heap) (n0 : Nat) (O0 : Old Z n0 h0) (P0 : Exa Z h0 pa1 s2n) (P1 : Fld Z h0 pa1 s8n "modCount" "I" (.int 0)) (P2 : Fld Z h0 pa1 s2n "elementData" s3n .null) (P3 : Fld Z h0 pa1 s2n "size" "I" (.int 0)) (P4 : n0 ≤ pa1) :
    MetB l M12 jdk_38_method_2_code 1 none ws (rmk 3 0 0 36) Z h0 #[(.ref pa1)] (Q_au4_0 Z wINTEGER wDOUBLE wBOOLEAN wD kwD pa1 h0 n0) := by
  refine own_body (plainFor_of_name pn_java_util_ArrayList) ?_
  intro p e s m below meth c s₁ hx hby hml hown hnm hret0 hlk0 hZ X0 e0
  have N0 := Fr.nil n0
  have pre0 : ∀ t, Steps p.tables e below (s₁.setTop (mkF m 0 #[(vr pa1)] [])) t → Steps p.tables e below (s₁.setTop (entryFrame m #[(.ref pa1)] 1)) t := fun t k => castTop (ef_au4_0 m pa1) k
  have K0 := Keep.refl h0 [pa1]
  have hS0 := hS
  obtain ⟨S_wINTEGER, E_wINTEGER, S_wDOUBLE, E_wDOUBLE, S_wBOOLEAN, E_wBOOLEAN, F_ordinal_wINTEGER, F_ordinal_wDOUBLE, F_ordinal_wBOOLEAN, S_wD, E_wD, V_wD⟩ := hS0
  obtain ⟨_, _, ⟨T1, L1, k1, n1⟩, -, X1, ⟨Lc1, hQ1, l1, y1, z1⟩, st1⟩ := X0.specialBack hx (y := M11) rfl hown (mvT hZ (ow hw 19 rfl)) (mvT hZ (ow hw 20 rfl)) (mvT hZ (ow hw 24 rfl)) (by decide) (backOf (W := 0) (au5_0 l Z a0 hw [] wINTEGER wDOUBLE wBOOLEAN wD kwD hS pa1 h0 n0 O0 P0 P1 P2 P3 P4) hZ (ow hw 24 rfl) (ow hw 23 rfl) (by decide) (by decide)) (g := (mkF m 1 #[(vr pa1)] [(.ref pa1)])) rfl (by rw [hml]; rfl) (Steps.refl _) (a := pa1) (argsL := []) (rest := []) (lenOf pd_1 rfl) rfl (by show 2 * 0 + _ ≤ _; exact Nat.le_of_eq rfl) (hb hby d4_1) (fun _ _ => ⟨rfl, e0, (by decide : 0 + 0 ≤ _), (by decide : 0 + 0 ≤ _)⟩)
  dsimp only [Pt.U, Pt.locs, Pt.cells, Pt.slots] at X1 l1 y1 z1 st1 hQ1
  subst y1 z1
  obtain ⟨rfl, Nq1, K1q, p1_0, p1_1, p1_2, p1_3⟩ := hQ1
  have N1 : Fr n0 L1 := (congrArg (Fr n0) l1).mpr (Fr.app N0 Nq1)
  have O2 : Old Z n0 T1.heap := O0.keep K1q (allS P4 all0)
  have K2 : Keep h0 T1.heap [pa1] := K0.trans K1q (allS (Or.inl (List.mem_of_getElem? (i := 0) rfl)) all0)
  obtain ⟨T3, X3, e3, st3⟩ := getS2 X1 hx hZ hown (host := "") (Or.inl (ow hw 36 rfl)) Via.refl rfl (S_wD.ext O2.2) (g := (mkF m 5 #[(vr pa1)] [(.ref pa1)])) rfl (hb hby d4_5)
  obtain ⟨T4, h4, X4, e4, W4, st4⟩ := putF X3 hx hZ hown (host := "") (Or.inl (ow hw 37 rfl)) Via.refl e3 p1_2 p1_0 (Or.inl (ow hw 38 rfl)) (ow hw 14 rfl) (ty := (.array (.object s4n))) (by decide) rfl rfl (g := (mkF m 8 #[(vr pa1)] [(.ref wD), (.ref pa1)])) rfl rfl (hb hby d4_8)
  have N4 := Fr.snoc X4 N1 P4
  have O5 : Old Z n0 h4 := O2.wr W4 P4
  have K5 : Keep h0 h4 [pa1] := K2.wr W4 (Or.inl (List.mem_of_getElem? (i := 0) rfl))
  have Fw4 : Fld Z h4 pa1 s2n "elementData" s3n (.ref wD) := p1_2.same W4
  have f6 : Exa Z h4 pa1 s2n := (p1_0.wr W4)
  have f7 : Fld Z h4 pa1 s8n "modCount" "I" (.int 0) := (p1_1.other W4 (Or.inr (slot_ne (Or.inl (ow hw 35 rfl)) (Or.inl (ow hw 38 rfl)) (by decide) (t := .int) (t' := (.array (.object s4n))) (by decide) (by decide))))
  have f8 : Fld Z h4 pa1 s2n "size" "I" (.int 0) := (p1_3.other W4 (Or.inr (slot_ne (Or.inl (ow hw 89 rfl)) (Or.inl (ow hw 38 rfl)) (by decide) (t := .int) (t' := (.array (.object s4n))) (by decide) (by decide))))
  obtain ⟨fs, hr, hrun, hended, hW, hsame⟩ := X4.leave (v := none) (fun _ => rfl)
  refine ⟨_, _, pre0 _ ?_, hrun, hended, _, _, rfl, ?_, ⟨_, rfl⟩, hW, hsame.mono (by decide) (by decide)⟩
  · skip
    show Steps p.tables e below (s₁.setTop (mkF m 0 #[(vr pa1)] [])) _
    refine XS.aloadN X0.here hx rfl (hb hby d4_0) rfl rfl ?_
    refine st1.trans ?_
    refine XS.aloadN X1.here hx rfl (hb hby d4_4) rfl rfl ?_
    refine st3 _ ?_
    refine st4 _ ?_
    exact X4.returnOut hx hret0 (hb hby d4_11) hr
  · show Q_au4_0 Z wINTEGER wDOUBLE wBOOLEAN wD kwD pa1 h0 n0 _ T4.heap _
    rw [e4]
    exact ⟨rfl, N4, K5, f6, f7, Fw4, f8⟩
theorem pd_6 : parseMethodDescriptor "(Ljava/lang/String;JJZ)Lcom/example/lanc/lanc/model/StateValuations$Variable;" = some ⟨[(.object "java/lang/String"), .long, .long, .boolean], some (.object "com/example/lanc/lanc/model/StateValuations$Variable")⟩ := by decide +kernel
theorem ef_au11_0 (m : MethodId) (x0 : Addr) (x1 : Addr)  : entryFrame m #[(.ref x0), (.ref x1)] 2 = mkF m 0 #[(vr x0), (vr x1)] [] := by first | (simp [entryFrame, mkF, argsToLocals, Value.category]; done) | rfl
theorem d11_0 : decode jdk_38_method_25_code 0 = .ok (.aload_n 0, 1) := by decide +kernel
theorem d11_1 : decode jdk_38_method_25_code 1 = .ok (.dup, 1) := by decide +kernel
theorem d11_2 : decode jdk_38_method_25_code 2 = .ok (.getfield 63, 3) := by decide +kernel
theorem d11_5 : decode jdk_38_method_25_code 5 = .ok (.iconst 1, 1) := by decide +kernel
theorem d11_6 : decode jdk_38_method_25_code 6 = .ok (.iadd, 1) := by decide +kernel
theorem d11_7 : decode jdk_38_method_25_code 7 = .ok (.putfield 63, 3) := by decide +kernel
theorem d11_10 : decode jdk_38_method_25_code 10 = .ok (.aload_n 0, 1) := by decide +kernel
theorem d11_11 : decode jdk_38_method_25_code 11 = .ok (.aload_n 1, 1) := by decide +kernel
theorem d11_12 : decode jdk_38_method_25_code 12 = .ok (.aload_n 0, 1) := by decide +kernel
theorem d11_13 : decode jdk_38_method_25_code 13 = .ok (.getfield 9, 3) := by decide +kernel
theorem d11_16 : decode jdk_38_method_25_code 16 = .ok (.aload_n 0, 1) := by decide +kernel
theorem d11_17 : decode jdk_38_method_25_code 17 = .ok (.getfield 48, 3) := by decide +kernel
theorem d11_20 : decode jdk_38_method_25_code 20 = .ok (.invokevirtual 131, 3) := by decide +kernel
theorem ef_au12_0 (m : MethodId) (x0 : Addr) (x1 : Addr) (x2 : Addr) (x3 : Int32)  : entryFrame m #[(.ref x0), (.ref x1), (.ref x2), (.int x3)] 4 = mkF m 0 #[(vr x0), (vr x1), (vr x2), (vi x3)] [] := by first | (simp [entryFrame, mkF, argsToLocals, Value.category]; done) | rfl
theorem d12_0 : decode jdk_38_method_24_code 0 = .ok (.iload_n 3, 1) := by decide +kernel
theorem d12_1 : decode jdk_38_method_24_code 1 = .ok (.aload_n 2, 1) := by decide +kernel
theorem d12_2 : decode jdk_38_method_24_code 2 = .ok (.arraylength, 1) := by decide +kernel
theorem d12_3 : decode jdk_38_method_24_code 3 = .ok (.if_icmp .ne 8, 3) := by decide +kernel
theorem d12_6 : decode jdk_38_method_24_code 6 = .ok (.aload_n 0, 1) := by decide +kernel
theorem d12_7 : decode jdk_38_method_24_code 7 = .ok (.invokevirtual 129, 3) := by decide +kernel
theorem ef_au13_0 (m : MethodId) (x0 : Addr)  : entryFrame m #[(.ref x0)] 1 = mkF m 0 #[(vr x0)] [] := by first | (simp [entryFrame, mkF, argsToLocals, Value.category]; done) | rfl
theorem d13_0 : decode jdk_38_method_7_code 0 = .ok (.aload_n 0, 1) := by decide +kernel
theorem d13_1 : decode jdk_38_method_7_code 1 = .ok (.aload_n 0, 1) := by decide +kernel
theorem d13_2 : decode jdk_38_method_7_code 2 = .ok (.getfield 48, 3) := by decide +kernel
theorem d13_5 : decode jdk_38_method_7_code 5 = .ok (.iconst 1, 1) := by decide +kernel
theorem d13_6 : decode jdk_38_method_7_code 6 = .ok (.iadd, 1) := by decide +kernel
theorem d13_7 : decode jdk_38_method_7_code 7 = .ok (.invokevirtual 69, 3) := by decide +kernel
theorem ef_au14_0 (m : MethodId) (x0 : Addr) (x1 : Int32)  : entryFrame m #[(.ref x0), (.int x1)] 4 = mkF m 0 #[(vr x0), (vi x1), .unset, .unset] [] := by first | (simp [entryFrame, mkF, argsToLocals, Value.category]; done) | rfl
theorem d14_0 : decode jdk_38_method_6_code 0 = .ok (.aload_n 0, 1) := by decide +kernel
theorem d14_1 : decode jdk_38_method_6_code 1 = .ok (.getfield 9, 3) := by decide +kernel
theorem d14_4 : decode jdk_38_method_6_code 4 = .ok (.arraylength, 1) := by decide +kernel
theorem d14_5 : decode jdk_38_method_6_code 5 = .ok (.istore_n 2, 1) := by decide +kernel
theorem d14_6 : decode jdk_38_method_6_code 6 = .ok (.iload_n 2, 1) := by decide +kernel
theorem d14_7 : decode jdk_38_method_6_code 7 = .ok (.ifCond .gt 13, 3) := by decide +kernel
theorem d14_10 : decode jdk_38_method_6_code 10 = .ok (.aload_n 0, 1) := by decide +kernel
theorem d14_11 : decode jdk_38_method_6_code 11 = .ok (.getfield 9, 3) := by decide +kernel
theorem d14_14 : decode jdk_38_method_6_code 14 = .ok (.getstatic 39, 3) := by decide +kernel
theorem d14_17 : decode jdk_38_method_6_code 17 = .ok (.if_acmp .eq 28, 3) := by decide +kernel
theorem d14_45 : decode jdk_38_method_6_code 45 = .ok (.aload_n 0, 1) := by decide +kernel
theorem d14_46 : decode jdk_38_method_6_code 46 = .ok (.bipush 10, 2) := by decide +kernel
theorem d14_48 : decode jdk_38_method_6_code 48 = .ok (.iload_n 1, 1) := by decide +kernel
theorem d14_49 : decode jdk_38_method_6_code 49 = .ok (.invokestatic 79, 3) := by decide +kernel
theorem ef_au15_0 (m : MethodId) (x0 : Int32) (x1 : Int32)  : entryFrame m #[(.int x0), (.int x1)] 2 = mkF m 0 #[(vi x0), (vi x1)] [] := by first | (simp [entryFrame, mkF, argsToLocals, Value.category]; done) | rfl
def Q_au15_0 (Z : State) (wINTEGER : Addr) (wDOUBLE : Addr) (wBOOLEAN : Addr) (wD : Addr) (kwD : ClassId)  (h0 : Heap) (n0 : Nat) (v : Option Value) (h : Heap) (L : List Loc) : Prop := v = some (.int 10) ∧ Fr n0 L ∧ h = h0
theorem au15_0 (l : Launch) (Z : State) (a0 : Array Value) (hw : ∀ d ∈ tables_1, d.before a0 Z = true) (ws : List Jvm.Cond) (wINTEGER : Addr) (wDOUBLE : Addr) (wBOOLEAN : Addr) (wD : Addr) (kwD : ClassId) (hS : SS Z wINTEGER wDOUBLE wBOOLEAN wD kwD)  (h0 : Heap) (n0 : Nat) (O0 : Old Z n0 h0)  :
    MetB l M3 jdk_29_method_65_code 2 (some .int) ws (rmk 0 0 0 0) Z h0 #[(.int 10), (.int 1)] (Q_au15_0 Z wINTEGER wDOUBLE wBOOLEAN wD kwD  h0 n0) := by
  refine own_body (Jvm.Free.JP.mathPlain rfl (by decide +kernel)) ?_
  intro p e s m below meth c s₁ hx hby hml hown hnm hret0 hlk0 hZ X0 e0
  have N0 := Fr.nil n0
  have pre0 : ∀ t, Steps p.tables e below (s₁.setTop (mkF m 0 #[(vi 10), (vi 1)] [])) t → Steps p.tables e below (s₁.setTop (entryFrame m #[(.int 10), (.int 1)] 2)) t := fun t k => castTop (ef_au15_0 m (10 : Int32) (1 : Int32)) k
  have hS0 := hS
  obtain ⟨S_wINTEGER, E_wINTEGER, S_wDOUBLE, E_wDOUBLE, S_wBOOLEAN, E_wBOOLEAN, F_ordinal_wINTEGER, F_ordinal_wDOUBLE, F_ordinal_wBOOLEAN, S_wD, E_wD, V_wD⟩ := hS0
  obtain ⟨fs, hr, hrun, hended, hW, hsame⟩ := X0.leave (v := some (.int 10)) (fun h => by rw [hret0] at h; cases h)
  refine ⟨_, _, pre0 _ ?_, hrun, hended, _, _, rfl, ?_, ⟨_, rfl⟩, hW, hsame.mono (by decide) (by decide)⟩
  · skip
    show Steps p.tables e below (s₁.setTop (mkF m 0 #[(vi 10), (vi 1)] [])) _
    refine XS.iloadN X0.here hx rfl (hb hby d15_0) rfl ?_
    refine XS.iloadN X0.here hx rfl (hb hby d15_1) rfl ?_
    refine XS.icmpNo X0.here hx rfl (hb hby d15_2) rfl (flt (by decide : ¬ ((10 : Int32) < (1 : Int32)))).1 ?_
    refine XS.iloadN X0.here hx rfl (hb hby d15_5) rfl ?_
    refine XS.goto X0.here hx rfl (pc0 := 6) (pc' := 10) rfl (hb hby d15_6) (by decide) (by decide) ?_
    exact retI X0 hx hret0 (hb hby d15_10) hr
  · show Q_au15_0 Z wINTEGER wDOUBLE wBOOLEAN wD kwD  h0 n0 _ s₁.heap _
    rw [e0]
    exact ⟨rfl, N0, rfl⟩
theorem pd_7 : parseMethodDescriptor "(II)I" = some ⟨[.int, .int], some .int⟩ := by decide +kernel
theorem d14_52 : decode jdk_38_method_6_code 52 = .ok (.anewarray 7, 3) := by decide +kernel
theorem d14_55 : decode jdk_38_method_6_code 55 = .ok (.dup_x1, 1) := by decide +kernel
theorem d14_56 : decode jdk_38_method_6_code 56 = .ok (.putfield 9, 3) := by decide +kernel
theorem d14_59 : decode jdk_38_method_6_code 59 = .ok (.areturn, 1) := by decide +kernel
def Q_au14_0 (Z : State) (wINTEGER : Addr) (wDOUBLE : Addr) (wBOOLEAN : Addr) (wD : Addr) (kwD : ClassId) (pa1 : Addr) (h0 : Heap) (n0 : Nat) (v : Option Value) (h : Heap) (L : List Loc) : Prop := ∃ (e1 : Addr) (e2 : ClassId), v = some (.ref e1) ∧ Fr n0 L ∧ Keep h0 h [pa1] ∧ Exa Z h pa1 s2n ∧ Fld Z h pa1 s8n "modCount" "I" (.int 1) ∧ Fld Z h pa1 s2n "elementData" s3n (.ref e1) ∧ Fld Z h pa1 s2n "size" "I" (.int 0) ∧ h0.size ≤ e1 ∧ Exa Z h e1 s3n ∧ Arv Z h e1 e2 (.object s4n) (10 : Int32) ([.null, .null, .null, .null, .null, .null, .null, .null, .null, .null]) .null ∧ Ovr Z e2 s4n
theorem au14_0 (l : Launch) (Z : State) (a0 : Array Value) (hw : ∀ d ∈ tables_1, d.before a0 Z = true) (ws : List Jvm.Cond) (wINTEGER : Addr) (wDOUBLE : Addr) (wBOOLEAN : Addr) (wD : Addr) (kwD : ClassId) (hS : SS Z wINTEGER wDOUBLE wBOOLEAN wD kwD) (pa1 : Addr) (h0 : Heap) (n0 : Nat) (O0 : Old Z n0 h0) (P0 : Exa Z h0 pa1 s2n) (P1 : Fld Z h0 pa1 s8n "modCount" "I" (.int 1)) (P2 : Fld Z h0 pa1 s2n "elementData" s3n (.ref wD)) (P3 : Fld Z h0 pa1 s2n "size" "I" (.int 0)) (P4 : n0 ≤ pa1) :
    MetB l M13 jdk_38_method_6_code 4 (some (.array (.object s4n))) ws (rmk 1 1 10 14) Z h0 #[(.ref pa1), (.int 1)] (Q_au14_0 Z wINTEGER wDOUBLE wBOOLEAN wD kwD pa1 h0 n0) := by
  refine own_body (plainFor_of_name pn_java_util_ArrayList) ?_
  intro p e s m below meth c s₁ hx hby hml hown hnm hret0 hlk0 hZ X0 e0
  have N0 := Fr.nil n0
  have pre0 : ∀ t, Steps p.tables e below (s₁.setTop (mkF m 0 #[(vr pa1), (vi 1), .unset, .unset] [])) t → Steps p.tables e below (s₁.setTop (entryFrame m #[(.ref pa1), (.int 1)] 4)) t := fun t k => castTop (ef_au14_0 m pa1 (1 : Int32)) k
  have K0 := Keep.refl h0 [pa1]
  have hS0 := hS
  obtain ⟨S_wINTEGER, E_wINTEGER, S_wDOUBLE, E_wDOUBLE, S_wBOOLEAN, E_wBOOLEAN, F_ordinal_wINTEGER, F_ordinal_wDOUBLE, F_ordinal_wBOOLEAN, S_wD, E_wD, V_wD⟩ := hS0
  obtain ⟨T1, X1, e1, st1⟩ := getF X0 hx hZ hown (host := "") (Or.inl (ow hw 37 rfl)) Via.refl e0 P2 (g := (mkF m 1 #[(vr pa1), (vi 1), .unset, .unset] [(.ref pa1)])) rfl rfl (hb hby d14_1)
  obtain ⟨cl2, Ar2, -, Sz2, Nn2, -, -⟩ := (id (V_wD.ext O0.2))
  obtain ⟨T3, X3, e3, st3⟩ := getF X1 hx hZ hown (host := "") (Or.inl (ow hw 37 rfl)) Via.refl e1 P2 (g := (mkF m 11 #[(vr pa1), (vi 1), (vi 0), .unset] [(.ref pa1)])) rfl rfl (hb hby d14_11)
  obtain ⟨T4, X4, e4, st4⟩ := getS2 X3 hx hZ hown (host := "") (Or.inl (ow hw 36 rfl)) Via.refl e3 (S_wD.ext O0.2) (g := (mkF m 14 #[(vr pa1), (vi 1), (vi 0), .unset] [(.ref wD)])) rfl (hb hby d14_14)
  obtain ⟨_, _, ⟨T5, L5, k5, n5⟩, -, X5, ⟨Lc5, hQ5, l5, y5, z5⟩, st5⟩ := Jvm.LawKit.callS X4 hx (y := M3) hown (mvT hZ (ow hw 105 rfl)) (mvT hZ (ow hw 106 rfl)) (mvT hZ (ow hw 107 rfl)) (mvT hZ (ow hw 108 rfl)) (by decide) (backOf (W := 1) (au15_0 l Z a0 hw [] wINTEGER wDOUBLE wBOOLEAN wD kwD hS  h0 n0 O0 ) hZ (ow hw 108 rfl) (ow hw 107 rfl) (by decide) (by decide)) (g := (mkF m 49 #[(vr pa1), (vi 1), (vi 0), .unset] [(.int 1), (.int 10), (.ref pa1)])) rfl (by rw [hml]; rfl) (argsL := [(.int 10), (.int 1)]) (rest := [(.ref pa1)]) (lenOf pd_7 rfl) rfl (by show 2 * 0 + _ ≤ _; exact Nat.le_of_eq rfl) (hb hby d14_49) (fun _ _ => ⟨rfl, e4, (by decide : 0 + 0 ≤ _), (by decide : 0 + 0 ≤ _)⟩)
  dsimp only [Pt.U, Pt.locs, Pt.cells, Pt.slots] at X5 l5 y5 z5 st5 hQ5
  subst y5 z5
  obtain ⟨rfl, Nq5, K5q⟩ := hQ5
  have N5 : Fr n0 L5 := (congrArg (Fr n0) l5).mpr (Fr.app N0 Nq5)
  obtain ⟨T6, h6, k6, X6, e6, E6, A6, Z6, O6, st6⟩ := newRE X5 hx hZ hown (ow hw 109 rfl) (ow hw 110 rfl) K5q (g := (mkF m 52 #[(vr pa1), (vi 1), (vi 0), .unset] [(.int 10), (.ref pa1)])) rfl (hb hby d14_52) rfl (by decide) (cap := 10) (by decide) (by decide) (by decide) (by decide) (ad := s3n) rfl
  obtain ⟨b6, g6⟩ : ∃ z, z = h0.size := ⟨_, rfl⟩
  rw [← g6] at A6 Z6 st6
  have ne7 : pa1 ≠ b6 := Nat.ne_of_lt (Nat.lt_of_lt_of_le P0.lt (Nat.le_of_eq g6.symm))
  have g8 : n0 ≤ b6 := Nat.le_trans (own_sz O0) (Nat.le_of_eq g6.symm)
  have sz9 : h0.size ≤ b6 := Nat.le_trans K0.1 (Nat.le_of_eq g6.symm)
  have O10 : Old Z n0 h6 := O0.ext E6
  have K10 : Keep h0 h6 [pa1] := K0.ext E6
  have V6 : Arv Z h6 b6 k6 (.object s4n) (10 : Int32) ([.null, .null, .null, .null, .null, .null, .null, .null, .null, .null]) .null := (Arv.new A6 (by decide)).pad (pad_rep [] .null 10)
  have f11 : Exa Z h6 pa1 s2n := (P0.ext E6)
  have f12 : Fld Z h6 pa1 s2n "elementData" s3n (.ref wD) := (P2.ext E6)
  obtain ⟨T13, h13, X13, e13, W13, st13⟩ := putF X6 hx hZ hown (host := "") (Or.inl (ow hw 37 rfl)) Via.refl e6 f12 f11 (Or.inl (ow hw 38 rfl)) (ow hw 14 rfl) (ty := (.array (.object s4n))) (by decide) rfl rfl (g := (mkF m 56 #[(vr pa1), (vi 1), (vi 0), .unset] [(.ref b6), (.ref pa1), (.ref b6)])) rfl rfl (hb hby d14_56)
  have N13 := Fr.snoc X13 N5 P4
  have O14 : Old Z n0 h13 := O10.wr W13 P4
  have K14 : Keep h0 h13 [pa1] := K10.wr W13 (Or.inl (List.mem_of_getElem? (i := 0) rfl))
  have Fw13 : Fld Z h13 pa1 s2n "elementData" s3n (.ref b6) := f12.same W13
  have f15 : Exa Z h13 pa1 s2n := (f11.wr W13)
  have f16 : Fld Z h13 pa1 s8n "modCount" "I" (.int 1) := ((P1.ext E6).other W13 (Or.inr (slot_ne (Or.inl (ow hw 35 rfl)) (Or.inl (ow hw 38 rfl)) (by decide) (t := .int) (t' := (.array (.object s4n))) (by decide) (by decide))))
  have f17 : Fld Z h13 pa1 s2n "size" "I" (.int 0) := ((P3.ext E6).other W13 (Or.inr (slot_ne (Or.inl (ow hw 89 rfl)) (Or.inl (ow hw 38 rfl)) (by decide) (t := .int) (t' := (.array (.object s4n))) (by decide) (by decide))))
  have f18 : Exa Z h13 b6 s3n := (Z6.wr W13)
  have f19 : Arv Z h13 b6 k6 (.object s4n) (10 : Int32) ([.null, .null, .null, .null, .null, .null, .null, .null, .null, .null]) .null := (V6.other W13 (Ne.symm ne7))
  obtain ⟨fs, hr, hrun, hended, hW, hsame⟩ := X13.leave (v := some (.ref b6)) (fun h => by rw [hret0] at h; cases h)
  refine ⟨_, _, pre0 _ ?_, hrun, hended, _, _, rfl, ?_, ⟨_, rfl⟩, hW, hsame.mono (by decide) (by decide)⟩
  · skip
    show Steps p.tables e below (s₁.setTop (mkF m 0 #[(vr pa1), (vi 1), .unset, .unset] [])) _
    refine XS.aloadN X0.here hx rfl (hb hby d14_0) rfl rfl ?_
    refine st1 _ ?_
    refine X1.arraylength hx (by rw [e1]; exact Ar2.1) (State.isArrayOf_alike hZ.alike Ar2.2.1) (g := (mkF m 4 #[(vr pa1), (vi 1), .unset, .unset] [(.ref wD)])) rfl rfl (hb hby d14_4) _ ?_
    rw [len_of Sz2 Nn2]
    refine XS.istoreN X1.here hx rfl (hb hby d14_5) rfl (l' := #[(vr pa1), (vi 1), (vi 0), .unset]) rfl ?_
    refine XS.iloadN X1.here hx rfl (hb hby d14_6) rfl ?_
    refine XS.ifNo X1.here hx rfl (hb hby d14_7) rfl ((if0 _ _).trans (flt (by decide : ¬ ((0 : Int32) < (0 : Int32)))).2.2.1) ?_
    refine XS.aloadN X1.here hx rfl (hb hby d14_10) rfl rfl ?_
    refine st3 _ ?_
    refine st4 _ ?_
    refine Jvm.RoadKit.acmp (g := (mkF m 17 #[(vr pa1), (vi 1), (vi 0), .unset] [(.ref wD), (.ref wD)])) X4 hx rfl rfl rfl (pc0 := 17) (pc' := 45) (same := true) rfl (hb hby d14_17) rfl (decide_eq_true rfl) (by decide) (by decide) ?_
    refine XS.aloadN X4.here hx rfl (hb hby d14_45) rfl rfl ?_
    refine XS.bipush X4.here hx rfl (hb hby d14_46) ?_
    refine XS.iloadN X4.here hx rfl (hb hby d14_48) rfl ?_
    refine st5 _ ?_
    show Steps p.tables e below (T5.setTop (mkF m 52 #[(vr pa1), (vi 1), (vi 0), .unset] [(.int 10), (.ref pa1)])) _
    refine st6 _ ?_
    refine XS.dupX1 X6.here hx rfl (hb hby d14_55) rfl rfl rfl ?_
    refine st13 _ ?_
    jvm_step X13.here [X13.here.top, hx, (hb hby d14_59), X13.method', hret0, Value.isRef, FieldType.isReference]
    first | (intro acts; rw [hr _ acts rfl rfl rfl]) | rw [hr _ _ rfl rfl rfl]
    exact Steps.refl _
  · show Q_au14_0 Z wINTEGER wDOUBLE wBOOLEAN wD kwD pa1 h0 n0 _ T13.heap _
    rw [e13]
    exact ⟨b6, k6, rfl, N13, K14, f15, f16, Fw13, f17, sz9, f18, f19, O6⟩
theorem pd_8 : parseMethodDescriptor "(I)[Ljava/lang/Object;" = some ⟨[.int], some (.array (.object "java/lang/Object"))⟩ := by decide +kernel
theorem d13_10 : decode jdk_38_method_7_code 10 = .ok (.areturn, 1) := by decide +kernel
def Q_au13_0 (Z : State) (wINTEGER : Addr) (wDOUBLE : Addr) (wBOOLEAN : Addr) (wD : Addr) (kwD : ClassId) (pa1 : Addr) (h0 : Heap) (n0 : Nat) (v : Option Value) (h : Heap) (L : List Loc) : Prop := ∃ (e1 : Addr) (e2 : ClassId), v = some (.ref e1) ∧ Fr n0 L ∧ Keep h0 h [pa1] ∧ Exa Z h pa1 s2n ∧ Fld Z h pa1 s8n "modCount" "I" (.int 1) ∧ Fld Z h pa1 s2n "elementData" s3n (.ref e1) ∧ Fld Z h pa1 s2n "size" "I" (.int 0) ∧ h0.size ≤ e1 ∧ Exa Z h e1 s3n ∧ Arv Z h e1 e2 (.object s4n) (10 : Int32) ([.null, .null, .null, .null, .null, .null, .null, .null, .null, .null]) .null ∧ Ovr Z e2 s4n
theorem au13_0 (l : Launch) (Z : State) (a0 : Array Value) (hw : ∀ d ∈ tables_1, d.before a0 Z = true) (ws : List Jvm.Cond) (wINTEGER : Addr) (wDOUBLE : Addr) (wBOOLEAN : Addr) (wD : Addr) (kwD : ClassId) (hS : SS Z wINTEGER wDOUBLE wBOOLEAN wD kwD) (pa1 : Addr) (h0 : Heap) (n0 : Nat) (O0 : Old Z n0 h0) (P0 : Exa Z h0 pa1 s2n) (P1 : Fld Z h0 pa1 s8n "modCount" "I" (.int 1)) (P2 : Fld Z h0 pa1 s2n "elementData" s3n (.ref wD)) (P3 : Fld Z h0 pa1 s2n "size" "I" (.int 0)) (P4 : n0 ≤ pa1) :
    MetB l M14 jdk_38_method_7_code 1 (some (.array (.object s4n))) ws (rmk 2 1 10 29) Z h0 #[(.ref pa1)] (Q_au13_0 Z wINTEGER wDOUBLE wBOOLEAN wD kwD pa1 h0 n0) := by
  refine own_body (plainFor_of_name pn_java_util_ArrayList) ?_
  intro p e s m below meth c s₁ hx hby hml hown hnm hret0 hlk0 hZ X0 e0
  have N0 := Fr.nil n0
  have pre0 : ∀ t, Steps p.tables e below (s₁.setTop (mkF m 0 #[(vr pa1)] [])) t → Steps p.tables e below (s₁.setTop (entryFrame m #[(.ref pa1)] 1)) t := fun t k => castTop (ef_au13_0 m pa1) k
  have K0 := Keep.refl h0 [pa1]
  have hS0 := hS
  obtain ⟨S_wINTEGER, E_wINTEGER, S_wDOUBLE, E_wDOUBLE, S_wBOOLEAN, E_wBOOLEAN, F_ordinal_wINTEGER, F_ordinal_wDOUBLE, F_ordinal_wBOOLEAN, S_wD, E_wD, V_wD⟩ := hS0
  obtain ⟨T1, X1, e1, st1⟩ := getF X0 hx hZ hown (host := "") (Or.inl (ow hw 88 rfl)) Via.refl e0 P3 (g := (mkF m 2 #[(vr pa1)] [(.ref pa1), (.ref pa1)])) rfl rfl (hb hby d13_2)
  obtain ⟨cq2, q2, q2'⟩ := P0.cell
  obtain ⟨_, _, ⟨T2, L2, k2, n2⟩, -, X2, ⟨Lc2, hQ2, l2, y2, z2⟩, st2⟩ := X1.privateBack hx (y := M13) hown (mvT hZ (ow hw 100 rfl)) (mvT hZ (ow hw 101 rfl)) (mvT hZ (ow hw 103 rfl)) (Cond.privateMethod_at (mvP hZ (ow hw 102 rfl) (args := #[]))) (mvT hZ (ow hw 104 rfl)) (by decide) (backOf (W := 0) (au14_0 l Z a0 hw [] wINTEGER wDOUBLE wBOOLEAN wD kwD hS pa1 h0 n0 O0 P0 P1 P2 P3 P4) hZ (ow hw 104 rfl) (ow hw 15 rfl) (by decide) (by decide)) (g := (mkF m 7 #[(vr pa1)] [(.int 1), (.ref pa1)])) rfl (by rw [hml]; rfl) (Steps.refl _) (a := pa1) (by rw [e1]; exact q2) q2' (argsL := [(.int 1)]) (rest := []) (lenOf pd_8 rfl) rfl (by show 2 * 0 + _ ≤ _; exact Nat.le_of_eq rfl) (hb hby d13_7) (fun _ _ => ⟨rfl, e1, (by decide : 0 + 1 ≤ _), (by decide : 0 + 10 ≤ _)⟩)
  dsimp only [Pt.U, Pt.locs, Pt.cells, Pt.slots] at X2 l2 y2 z2 st2 hQ2
  subst y2 z2
  obtain ⟨e1_2, e2_2, rfl, Nq2, K2q, p2_0, p2_1, p2_2, p2_3, p2_4, p2_5, p2_6, p2_7⟩ := hQ2
  have N2 : Fr n0 L2 := (congrArg (Fr n0) l2).mpr (Fr.app N0 Nq2)
  have ne3 : pa1 ≠ e1_2 := Nat.ne_of_lt (Nat.lt_of_lt_of_le P0.lt p2_4)
  have g4 : n0 ≤ e1_2 := Nat.le_trans (own_sz O0) p2_4
  have sz5 : h0.size ≤ e1_2 := Nat.le_trans K0.1 p2_4
  have O6 : Old Z n0 T2.heap := O0.keep K2q (allS P4 all0)
  have K6 : Keep h0 T2.heap [pa1] := K0.trans K2q (allS (Or.inl (List.mem_of_getElem? (i := 0) rfl)) all0)
  obtain ⟨fs, hr, hrun, hended, hW, hsame⟩ := X2.leave (v := some (.ref e1_2)) (fun h => by rw [hret0] at h; cases h)
  refine ⟨_, _, pre0 _ ?_, hrun, hended, _, _, rfl, ?_, ⟨_, rfl⟩, hW, hsame.mono (by decide) (by decide)⟩
  · skip
    show Steps p.tables e below (s₁.setTop (mkF m 0 #[(vr pa1)] [])) _
    refine XS.aloadN X0.here hx rfl (hb hby d13_0) rfl rfl ?_
    refine XS.aloadN X0.here hx rfl (hb hby d13_1) rfl rfl ?_
    refine st1 _ ?_
    refine XS.iconst X1.here hx rfl (hb hby d13_5) ?_
    refine XS.iadd X1.here hx rfl (hb hby d13_6) rfl ?_
    refine st2.trans ?_
    jvm_step X2.here [X2.here.top, hx, (hb hby d13_10), X2.method', hret0, Value.isRef, FieldType.isReference]
    first | (intro acts; rw [hr _ acts rfl rfl rfl]) | rw [hr _ _ rfl rfl rfl]
    exact Steps.refl _
  · show Q_au13_0 Z wINTEGER wDOUBLE wBOOLEAN wD kwD pa1 h0 n0 _ T2.heap _
    exact ⟨e1_2, e2_2, rfl, N2, K6, p2_0, p2_1, p2_2, p2_3, sz5, p2_5, p2_6, p2_7⟩
theorem pd_9 : parseMethodDescriptor "()[Ljava/lang/Object;" = some ⟨[], some (.array (.object "java/lang/Object"))⟩ := by decide +kernel
theorem d12_10 : decode jdk_38_method_24_code 10 = .ok (.astore_n 2, 1) := by decide +kernel
theorem d12_11 : decode jdk_38_method_24_code 11 = .ok (.aload_n 2, 1) := by decide +kernel
theorem d12_12 : decode jdk_38_method_24_code 12 = .ok (.iload_n 3, 1) := by decide +kernel
theorem d12_13 : decode jdk_38_method_24_code 13 = .ok (.aload_n 1, 1) := by decide +kernel
theorem d12_14 : decode jdk_38_method_24_code 14 = .ok (.aastore, 1) := by decide +kernel
theorem d12_15 : decode jdk_38_method_24_code 15 = .ok (.aload_n 0, 1) := by decide +kernel
theorem d12_16 : decode jdk_38_method_24_code 16 = .ok (.iload_n 3, 1) := by decide +kernel
theorem d12_17 : decode jdk_38_method_24_code 17 = .ok (.iconst 1, 1) := by decide +kernel
theorem d12_18 : decode jdk_38_method_24_code 18 = .ok (.iadd, 1) := by decide +kernel
theorem d12_19 : decode jdk_38_method_24_code 19 = .ok (.putfield 48, 3) := by decide +kernel
theorem d12_22 : decode jdk_38_method_24_code 22 = .ok (.return_, 1) := by decide +kernel
def Q_au12_0 (Z : State) (wINTEGER : Addr) (wDOUBLE : Addr) (wBOOLEAN : Addr) (wD : Addr) (kwD : ClassId) (pa1 : Addr) (pa2 : Addr) (h0 : Heap) (n0 : Nat) (v : Option Value) (h : Heap) (L : List Loc) : Prop := ∃ (e1 : Addr) (e2 : ClassId), v = none ∧ Fr n0 L ∧ Keep h0 h [pa1] ∧ Exa Z h pa1 s2n ∧ Fld Z h pa1 s8n "modCount" "I" (.int 1) ∧ Fld Z h pa1 s2n "elementData" s3n (.ref e1) ∧ Fld Z h pa1 s2n "size" "I" (.int 1) ∧ h0.size ≤ e1 ∧ Exa Z h e1 s3n ∧ Arv Z h e1 e2 (.object s4n) (10 : Int32) ([(.ref pa2), .null, .null, .null, .null, .null, .null, .null, .null, .null]) .null ∧ Ovr Z e2 s4n
theorem au12_0 (l : Launch) (Z : State) (a0 : Array Value) (hw : ∀ d ∈ tables_1, d.before a0 Z = true) (ws : List Jvm.Cond) (wINTEGER : Addr) (wDOUBLE : Addr) (wBOOLEAN : Addr) (wD : Addr) (kwD : ClassId) (hS : SS Z wINTEGER wDOUBLE wBOOLEAN wD kwD) (pa1 : Addr) (pa2 : Addr) (h0 : Heap) (n0 : Nat) (O0 : Old Z n0 h0) (P0 : Exa Z h0 pa1 s2n) (P1 : Fld Z h0 pa1 s8n "modCount" "I" (.int 1)) (P2 : Fld Z h0 pa1 s2n "elementData" s3n (.ref wD)) (P3 : Fld Z h0 pa1 s2n "size" "I" (.int 0)) (P4 : Exa Z h0 pa2 s5n) (P9 : n0 ≤ pa1) :
    MetB l M15 jdk_38_method_24_code 4 none ws (rmk 3 1 10 41) Z h0 #[(.ref pa1), (.ref pa2), (.ref wD), (.int 0)] (Q_au12_0 Z wINTEGER wDOUBLE wBOOLEAN wD kwD pa1 pa2 h0 n0) := by
  refine own_body (plainFor_of_name pn_java_util_ArrayList) ?_
  intro p e s m below meth c s₁ hx hby hml hown hnm hret0 hlk0 hZ X0 e0
  have N0 := Fr.nil n0
  have pre0 : ∀ t, Steps p.tables e below (s₁.setTop (mkF m 0 #[(vr pa1), (vr pa2), (vr wD), (vi 0)] [])) t → Steps p.tables e below (s₁.setTop (entryFrame m #[(.ref pa1), (.ref pa2), (.ref wD), (.int 0)] 4)) t := fun t k => castTop (ef_au12_0 m pa1 pa2 wD (0 : Int32)) k
  have K0 := Keep.refl h0 [pa1]
  have hS0 := hS
  obtain ⟨S_wINTEGER, E_wINTEGER, S_wDOUBLE, E_wDOUBLE, S_wBOOLEAN, E_wBOOLEAN, F_ordinal_wINTEGER, F_ordinal_wDOUBLE, F_ordinal_wBOOLEAN, S_wD, E_wD, V_wD⟩ := hS0
  obtain ⟨cl1, Ar1, -, Sz1, Nn1, -, -⟩ := (id (V_wD.ext O0.2))
  obtain ⟨cq2, q2, q2'⟩ := P0.cell
  obtain ⟨_, _, ⟨T2, L2, k2, n2⟩, -, X2, ⟨Lc2, hQ2, l2, y2, z2⟩, st2⟩ := X0.privateBack hx (y := M14) hown (mvT hZ (ow hw 95 rfl)) (mvT hZ (ow hw 96 rfl)) (mvT hZ (ow hw 98 rfl)) (Cond.privateMethod_at (mvP hZ (ow hw 97 rfl) (args := #[]))) (mvT hZ (ow hw 99 rfl)) (by decide) (backOf (W := 0) (au13_0 l Z a0 hw [] wINTEGER wDOUBLE wBOOLEAN wD kwD hS pa1 h0 n0 O0 P0 P1 P2 P3 P9) hZ (ow hw 99 rfl) (ow hw 15 rfl) (by decide) (by decide)) (g := (mkF m 7 #[(vr pa1), (vr pa2), (vr wD), (vi 0)] [(.ref pa1)])) rfl (by rw [hml]; rfl) (Steps.refl _) (a := pa1) (by rw [e0]; exact q2) q2' (argsL := []) (rest := []) (lenOf pd_9 rfl) rfl (by show 2 * 0 + _ ≤ _; exact Nat.le_of_eq rfl) (hb hby d12_7) (fun _ _ => ⟨rfl, e0, (by decide : 0 + 1 ≤ _), (by decide : 0 + 10 ≤ _)⟩)
  dsimp only [Pt.U, Pt.locs, Pt.cells, Pt.slots] at X2 l2 y2 z2 st2 hQ2
  subst y2 z2
  obtain ⟨e1_2, e2_2, rfl, Nq2, K2q, p2_0, p2_1, p2_2, p2_3, p2_4, p2_5, p2_6, p2_7⟩ := hQ2
  have N2 : Fr n0 L2 := (congrArg (Fr n0) l2).mpr (Fr.app N0 Nq2)
  have ne3 : pa1 ≠ e1_2 := Nat.ne_of_lt (Nat.lt_of_lt_of_le P0.lt p2_4)
  have ne4 : pa2 ≠ e1_2 := Nat.ne_of_lt (Nat.lt_of_lt_of_le P4.lt p2_4)
  have g5 : n0 ≤ e1_2 := Nat.le_trans (own_sz O0) p2_4
  have sz6 : h0.size ≤ e1_2 := Nat.le_trans K0.1 p2_4
  have O7 : Old Z n0 T2.heap := O0.keep K2q (allS P9 all0)
  have K7 : Keep h0 T2.heap [pa1] := K0.trans K2q (allS (Or.inl (List.mem_of_getElem? (i := 0) rfl)) all0)
  have f9 : Exa Z T2.heap pa2 s5n := (P4.keep K2q)
  obtain ⟨cl8, Ar8, qc8, Sz8, Nn8, Ha8, Gg8⟩ := (id p2_6)
  have hin8 : ¬ ((0 : Int32) < 0 ∨ cl8.slots.size ≤ ((0 : Int32)).toNatClampNeg) := inb_of Sz8 ⟨by decide, by decide⟩
  obtain ⟨T8, h8, X8, e8, W8, st8⟩ := stR X2 hx hZ rfl Ar8 (j := (0 : Int32)) hin8 rfl (Sto.ofV Ar8 qc8 p2_7 (Ins.of_exa f9 (ow hw 111 rfl))) (g := (mkF m 14 #[(vr pa1), (vr pa2), (vr e1_2), (vi 0)] [(.ref pa2), (.int 0), (.ref e1_2)])) rfl rfl (hb hby d12_14)
  have O10 : Old Z n0 h8 := O7.wr W8 g5
  have K10 : Keep h0 h8 [pa1] := K7.wr W8 (Or.inr sz6)
  have V8 : Arv Z h8 e1_2 e2_2 (.object s4n) (10 : Int32) ([(.ref pa2), .null, .null, .null, .null, .null, .null, .null, .null, .null]) .null := Arv.set Ar8 qc8 Sz8 Nn8 Ha8 Gg8 (v := (.ref pa2)) rfl W8 0 rfl (Nat.le_of_ble_eq_true rfl)
  have N8 := Fr.snoc X8 N2 g5
  have f11 : Exa Z h8 pa1 s2n := (p2_0.wr W8)
  have f12 : Fld Z h8 pa1 s2n "size" "I" (.int 0) := (p2_3.other W8 (Or.inl ne3))
  obtain ⟨T13, h13, X13, e13, W13, st13⟩ := putF X8 hx hZ hown (host := "") (Or.inl (ow hw 88 rfl)) Via.refl e8 f12 f11 (Or.inl (ow hw 89 rfl)) (ow hw 14 rfl) (ty := .int) (by decide) rfl rfl (g := (mkF m 19 #[(vr pa1), (vr pa2), (vr e1_2), (vi 0)] [(.int 1), (.ref pa1)])) rfl rfl (hb hby d12_19)
  have N13 := Fr.snoc X13 N8 P9
  have O14 : Old Z n0 h13 := O10.wr W13 P9
  have K14 : Keep h0 h13 [pa1] := K10.wr W13 (Or.inl (List.mem_of_getElem? (i := 0) rfl))
  have Fw13 : Fld Z h13 pa1 s2n "size" "I" (.int 1) := f12.same W13
  have f15 : Exa Z h13 pa1 s2n := (f11.wr W13)
  have f16 : Fld Z h13 pa1 s8n "modCount" "I" (.int 1) := ((p2_1.other W8 (Or.inl ne3)).other W13 (Or.inr (slot_ne (Or.inl (ow hw 35 rfl)) (Or.inl (ow hw 89 rfl)) (by decide) (t := .int) (t' := .int) (by decide) (by decide))))
  have f17 : Fld Z h13 pa1 s2n "elementData" s3n (.ref e1_2) := ((p2_2.other W8 (Or.inl ne3)).other W13 (Or.inr (slot_ne (Or.inl (ow hw 38 rfl)) (Or.inl (ow hw 89 rfl)) (by decide) (t := (.array (.object s4n))) (t' := .int) (by decide) (by decide))))
  have f18 : Exa Z h13 e1_2 s3n := ((p2_5.wr W8).wr W13)
  have f19 : Arv Z h13 e1_2 e2_2 (.object s4n) (10 : Int32) ([(.ref pa2), .null, .null, .null, .null, .null, .null, .null, .null, .null]) .null := (V8.other W13 (Ne.symm ne3))
  obtain ⟨fs, hr, hrun, hended, hW, hsame⟩ := X13.leave (v := none) (fun _ => rfl)
  refine ⟨_, _, pre0 _ ?_, hrun, hended, _, _, rfl, ?_, ⟨_, rfl⟩, hW, hsame.mono (by decide) (by decide)⟩
  · skip
    show Steps p.tables e below (s₁.setTop (mkF m 0 #[(vr pa1), (vr pa2), (vr wD), (vi 0)] [])) _
    refine XS.iloadN X0.here hx rfl (hb hby d12_0) rfl ?_
    refine XS.aloadN X0.here hx rfl (hb hby d12_1) rfl rfl ?_
    refine X0.arraylength hx (by rw [e0]; exact Ar1.1) (State.isArrayOf_alike hZ.alike Ar1.2.1) (g := (mkF m 2 #[(vr pa1), (vr pa2), (vr wD), (vi 0)] [(.ref wD), (.int 0)])) rfl rfl (hb hby d12_2) _ ?_
    rw [len_of Sz1 Nn1]
    refine XS.icmpNo X0.here hx rfl (hb hby d12_3) rfl (teq (by decide : (0 : Int32) = (0 : Int32))).2 ?_
    refine XS.aloadN X0.here hx rfl (hb hby d12_6) rfl rfl ?_
    refine st2.trans ?_
    refine XS.astoreN X2.here hx rfl (hb hby d12_10) rfl rfl (l' := #[(vr pa1), (vr pa2), (vr e1_2), (vi 0)]) rfl ?_
    refine XS.aloadN X2.here hx rfl (hb hby d12_11) rfl rfl ?_
    refine XS.iloadN X2.here hx rfl (hb hby d12_12) rfl ?_
    refine XS.aloadN X2.here hx rfl (hb hby d12_13) rfl rfl ?_
    refine st8 _ ?_
    refine XS.aloadN X8.here hx rfl (hb hby d12_15) rfl rfl ?_
    refine XS.iloadN X8.here hx rfl (hb hby d12_16) rfl ?_
    refine XS.iconst X8.here hx rfl (hb hby d12_17) ?_
    show Steps p.tables e below (T8.setTop (mkF m 18 #[(vr pa1), (vr pa2), (vr e1_2), (vi 0)] [(.int 1), (.int 0), (.ref pa1)])) _
    refine XS.iadd X8.here hx rfl (hb hby d12_18) rfl ?_
    refine st13 _ ?_
    exact X13.returnOut hx hret0 (hb hby d12_22) hr
  · show Q_au12_0 Z wINTEGER wDOUBLE wBOOLEAN wD kwD pa1 pa2 h0 n0 _ T13.heap _
    rw [e13]
    exact ⟨e1_2, e2_2, rfl, N13, K14, f15, f16, f17, Fw13, sz6, f18, f19, p2_7⟩
theorem pd_10 : parseMethodDescriptor "(Ljava/lang/Object;[Ljava/lang/Object;I)V" = some ⟨[(.object "java/lang/Object"), (.array (.object "java/lang/Object")), .int], none⟩ := by decide +kernel
theorem d11_23 : decode jdk_38_method_25_code 23 = .ok (.iconst 1, 1) := by decide +kernel
theorem d11_24 : decode jdk_38_method_25_code 24 = .ok (.ireturn, 1) := by decide +kernel
def Q_au11_0 (Z : State) (wINTEGER : Addr) (wDOUBLE : Addr) (wBOOLEAN : Addr) (wD : Addr) (kwD : ClassId) (pa1 : Addr) (pa2 : Addr) (h0 : Heap) (n0 : Nat) (v : Option Value) (h : Heap) (L : List Loc) : Prop := ∃ (e1 : Addr) (e2 : ClassId), v = some (.int 1) ∧ Fr n0 L ∧ Keep h0 h [pa1] ∧ Exa Z h pa1 s2n ∧ Fld Z h pa1 s8n "modCount" "I" (.int 1) ∧ Fld Z h pa1 s2n "elementData" s3n (.ref e1) ∧ Fld Z h pa1 s2n "size" "I" (.int 1) ∧ h0.size ≤ e1 ∧ Exa Z h e1 s3n ∧ Arv Z h e1 e2 (.object s4n) (10 : Int32) ([(.ref pa2), .null, .null, .null, .null, .null, .null, .null, .null, .null]) .null ∧ Ovr Z e2 s4n
theorem au11_0 (l : Launch) (Z : State) (a0 : Array Value) (hw : ∀ d ∈ tables_1, d.before a0 Z = true) (ws : List Jvm.Cond) (wINTEGER : Addr) (wDOUBLE : Addr) (wBOOLEAN : Addr) (wD : Addr) (kwD : ClassId) (hS : SS Z wINTEGER wDOUBLE wBOOLEAN wD kwD) (pa1 : Addr) (pa2 : Addr) (h0 : Heap) (n0 : Nat) (O0 : Old Z n0 h0) (P0 : Exa Z h0 pa1 s2n) (P1 : Fld Z h0 pa1 s8n "modCount" "I" (.int 0)) (P2 : Fld Z h0 pa1 s2n "elementData" s3n (.ref wD)) (P3 : Fld Z h0 pa1 s2n "size" "I" (.int 0)) (P4 : Exa Z h0 pa2 s5n) (P9 : n0 ≤ pa1) :
    MetB l M16 jdk_38_method_25_code 2 (some .boolean) ws (rmk 4 1 10 56) Z h0 #[(.ref pa1), (.ref pa2)] (Q_au11_0 Z wINTEGER wDOUBLE wBOOLEAN wD kwD pa1 pa2 h0 n0) := by
  refine own_body (plainFor_of_name pn_java_util_ArrayList) ?_
  intro p e s m below meth c s₁ hx hby hml hown hnm hret0 hlk0 hZ X0 e0
  have N0 := Fr.nil n0
  have pre0 : ∀ t, Steps p.tables e below (s₁.setTop (mkF m 0 #[(vr pa1), (vr pa2)] [])) t → Steps p.tables e below (s₁.setTop (entryFrame m #[(.ref pa1), (.ref pa2)] 2)) t := fun t k => castTop (ef_au11_0 m pa1 pa2) k
  have K0 := Keep.refl h0 [pa1]
  have hS0 := hS
  obtain ⟨S_wINTEGER, E_wINTEGER, S_wDOUBLE, E_wDOUBLE, S_wBOOLEAN, E_wBOOLEAN, F_ordinal_wINTEGER, F_ordinal_wDOUBLE, F_ordinal_wBOOLEAN, S_wD, E_wD, V_wD⟩ := hS0
  obtain ⟨T1, X1, e1, st1⟩ := getF X0 hx hZ hown (host := "") (Or.inl (ow hw 86 rfl)) (Via.of (ow hw 87 rfl)) e0 P1 (g := (mkF m 2 #[(vr pa1), (vr pa2)] [(.ref pa1), (.ref pa1)])) rfl rfl (hb hby d11_2)
  obtain ⟨T2, h2, X2, e2, W2, st2⟩ := putF X1 hx hZ hown (host := "") (Or.inl (ow hw 86 rfl)) (Via.of (ow hw 87 rfl)) e1 P1 P0 (Or.inl (ow hw 35 rfl)) (ow hw 14 rfl) (ty := .int) (by decide) rfl rfl (g := (mkF m 7 #[(vr pa1), (vr pa2)] [(.int 1), (.ref pa1)])) rfl rfl (hb hby d11_7)
  have N2 := Fr.snoc X2 N0 P9
  have O3 : Old Z n0 h2 := O0.wr W2 P9
  have K3 : Keep h0 h2 [pa1] := K0.wr W2 (Or.inl (List.mem_of_getElem? (i := 0) rfl))
  have Fw2 : Fld Z h2 pa1 s8n "modCount" "I" (.int 1) := P1.same W2
  have f4 : Fld Z h2 pa1 s2n "elementData" s3n (.ref wD) := (P2.other W2 (Or.inr (slot_ne (Or.inl (ow hw 38 rfl)) (Or.inl (ow hw 35 rfl)) (by decide) (t := (.array (.object s4n))) (t' := .int) (by decide) (by decide))))
  obtain ⟨T5, X5, e5, st5⟩ := getF X2 hx hZ hown (host := "") (Or.inl (ow hw 37 rfl)) Via.refl e2 f4 (g := (mkF m 13 #[(vr pa1), (vr pa2)] [(.ref pa1), (.ref pa2), (.ref pa1)])) rfl rfl (hb hby d11_13)
  have f6 : Fld Z h2 pa1 s2n "size" "I" (.int 0) := (P3.other W2 (Or.inr (slot_ne (Or.inl (ow hw 89 rfl)) (Or.inl (ow hw 35 rfl)) (by decide) (t := .int) (t' := .int) (by decide) (by decide))))
  obtain ⟨T7, X7, e7, st7⟩ := getF X5 hx hZ hown (host := "") (Or.inl (ow hw 88 rfl)) Via.refl e5 f6 (g := (mkF m 17 #[(vr pa1), (vr pa2)] [(.ref pa1), (.ref wD), (.ref pa2), (.ref pa1)])) rfl rfl (hb hby d11_17)
  have f8 : Exa Z h2 pa1 s2n := (P0.wr W2)
  have f9 : Exa Z h2 pa2 s5n := (P4.wr W2)
  obtain ⟨cq10, q10, q10'⟩ := f8.cell
  obtain ⟨_, _, ⟨T10, L10, k10, n10⟩, -, X10, ⟨Lc10, hQ10, l10, y10, z10⟩, st10⟩ := X7.privateBack hx (y := M15) hown (mvT hZ (ow hw 90 rfl)) (mvT hZ (ow hw 91 rfl)) (mvT hZ (ow hw 93 rfl)) (Cond.privateMethod_at (mvP hZ (ow hw 92 rfl) (args := #[]))) (mvT hZ (ow hw 94 rfl)) (by decide) (backOf (W := 0) (au12_0 l Z a0 hw [] wINTEGER wDOUBLE wBOOLEAN wD kwD hS pa1 pa2 h2 n0 O3 f8 Fw2 f4 f6 f9 P9) hZ (ow hw 94 rfl) (ow hw 15 rfl) (by decide) (by decide)) (g := (mkF m 20 #[(vr pa1), (vr pa2)] [(.int 0), (.ref wD), (.ref pa2), (.ref pa1)])) rfl (by rw [hml]; rfl) (Steps.refl _) (a := pa1) (by rw [e7]; exact q10) q10' (argsL := [(.ref pa2), (.ref wD), (.int 0)]) (rest := []) (lenOf pd_10 rfl) rfl (by show 2 * 0 + _ ≤ _; exact Nat.le_of_eq rfl) (hb hby d11_20) (fun _ _ => ⟨rfl, e7, (by decide : 0 + 1 ≤ _), (by decide : 0 + 10 ≤ _)⟩)
  dsimp only [Pt.U, Pt.locs, Pt.cells, Pt.slots] at X10 l10 y10 z10 st10 hQ10
  subst y10 z10
  obtain ⟨e1_10, e2_10, rfl, Nq10, K10q, p10_0, p10_1, p10_2, p10_3, p10_4, p10_5, p10_6, p10_7⟩ := hQ10
  have N10 : Fr n0 L10 := (congrArg (Fr n0) l10).mpr (Fr.app N2 Nq10)
  have ne11 : pa1 ≠ e1_10 := Nat.ne_of_lt (Nat.lt_of_lt_of_le f8.lt p10_4)
  have ne12 : pa2 ≠ e1_10 := Nat.ne_of_lt (Nat.lt_of_lt_of_le f9.lt p10_4)
  have g13 : n0 ≤ e1_10 := Nat.le_trans (own_sz O3) p10_4
  have sz14 : h0.size ≤ e1_10 := Nat.le_trans K3.1 p10_4
  have O15 : Old Z n0 T10.heap := O3.keep K10q (allS P9 all0)
  have K15 : Keep h0 T10.heap [pa1] := K3.trans K10q (allS (Or.inl (List.mem_of_getElem? (i := 0) rfl)) all0)
  obtain ⟨fs, hr, hrun, hended, hW, hsame⟩ := X10.leave (v := some (.int 1)) (fun h => by rw [hret0] at h; cases h)
  refine ⟨_, _, pre0 _ ?_, hrun, hended, _, _, rfl, ?_, ⟨_, rfl⟩, hW, hsame.mono (by decide) (by decide)⟩
  · skip
    show Steps p.tables e below (s₁.setTop (mkF m 0 #[(vr pa1), (vr pa2)] [])) _
    refine XS.aloadN X0.here hx rfl (hb hby d11_0) rfl rfl ?_
    refine XS.dup X0.here hx rfl (hb hby d11_1) rfl rfl ?_
    refine st1 _ ?_
    refine XS.iconst X1.here hx rfl (hb hby d11_5) ?_
    refine XS.iadd X1.here hx rfl (hb hby d11_6) rfl ?_
    refine st2 _ ?_
    refine XS.aloadN X2.here hx rfl (hb hby d11_10) rfl rfl ?_
    refine XS.aloadN X2.here hx rfl (hb hby d11_11) rfl rfl ?_
    refine XS.aloadN X2.here hx rfl (hb hby d11_12) rfl rfl ?_
    refine st5 _ ?_
    refine XS.aloadN X5.here hx rfl (hb hby d11_16) rfl rfl ?_
    refine st7 _ ?_
    refine st10.trans ?_
    refine XS.iconst X10.here hx rfl (hb hby d11_23) ?_
    show Steps p.tables e below (T10.setTop (mkF m 24 #[(vr pa1), (vr pa2)] [(.int 1)])) _
    exact retN X10 hx (t := .boolean) hret0 (by simp) (hb hby d11_24) hr
  · show Q_au11_0 Z wINTEGER wDOUBLE wBOOLEAN wD kwD pa1 pa2 h0 n0 _ T10.heap _
    exact ⟨e1_10, e2_10, rfl, N10, K15, p10_0, p10_1, p10_2, p10_3, sz14, p10_5, p10_6, p10_7⟩
theorem pd_11 : parseMethodDescriptor "(Ljava/lang/Object;)Z" = some ⟨[(.object "java/lang/Object")], some .boolean⟩ := by decide +kernel
theorem ef_au11_1 (m : MethodId) (x0 : Addr) (x1 : Addr)  : entryFrame m #[(.ref x0), (.ref x1)] 2 = mkF m 0 #[(vr x0), (vr x1)] [] := by first | (simp [entryFrame, mkF, argsToLocals, Value.category]; done) | rfl
theorem ef_au12_1 (m : MethodId) (x0 : Addr) (x1 : Addr) (x2 : Addr) (x3 : Int32)  : entryFrame m #[(.ref x0), (.ref x1), (.ref x2), (.int x3)] 4 = mkF m 0 #[(vr x0), (vr x1), (vr x2), (vi x3)] [] := by first | (simp [entryFrame, mkF, argsToLocals, Value.category]; done) | rfl
def Q_au12_1 (Z : State) (wINTEGER : Addr) (wDOUBLE : Addr) (wBOOLEAN : Addr) (wD : Addr) (kwD : ClassId) (pa1 : Addr) (pa2 : Addr) (pa3 : Addr) (pk8 : ClassId) (pa9 : Addr) (h0 : Heap) (n0 : Nat) (v : Option Value) (h : Heap) (L : List Loc) : Prop := v = none ∧ Fr n0 L ∧ Keep h0 h [pa3, pa1] ∧ Exa Z h pa3 s3n ∧ Arv Z h pa3 pk8 (.object s4n) (10 : Int32) ([(.ref pa9), (.ref pa2), .null, .null, .null, .null, .null, .null, .null, .null]) .null ∧ Ovr Z pk8 s4n ∧ Exa Z h pa1 s2n ∧ Fld Z h pa1 s8n "modCount" "I" (.int 2) ∧ Fld Z h pa1 s2n "elementData" s3n (.ref pa3) ∧ Fld Z h pa1 s2n "size" "I" (.int 2)
theorem au12_1 (l : Launch) (Z : State) (a0 : Array Value) (hw : ∀ d ∈ tables_1, d.before a0 Z = true) (ws : List Jvm.Cond) (wINTEGER : Addr) (wDOUBLE : Addr) (wBOOLEAN : Addr) (wD : Addr) (kwD : ClassId) (hS : SS Z wINTEGER wDOUBLE wBOOLEAN wD kwD) (pa1 : Addr) (pa2 : Addr) (pa3 : Addr) (pk8 : ClassId) (pa9 : Addr) (h0 : Heap) (n0 : Nat) (O0 : Old Z n0 h0) (P0 : Exa Z h0 pa1 s2n) (P1 : Fld Z h0 pa1 s8n "modCount" "I" (.int 2)) (P2 : Fld Z h0 pa1 s2n "elementData" s3n (.ref pa3)) (P3 : Fld Z h0 pa1 s2n "size" "I" (.int 1)) (P4 : Exa Z h0 pa2 s5n) (P9 : Arv Z h0 pa3 pk8 (.object s4n) (10 : Int32) ([(.ref pa9), .null, .null, .null, .null, .null, .null, .null, .null, .null]) .null) (P10 : Ovr Z pk8 s4n) (P11 : Exa Z h0 pa3 s3n) (P17 : n0 ≤ pa1) (P19 : n0 ≤ pa3) (P22 : pa1 ≠ pa3) :
    MetB l M15 jdk_38_method_24_code 4 none ws (rmk 0 0 0 0) Z h0 #[(.ref pa1), (.ref pa2), (.ref pa3), (.int 1)] (Q_au12_1 Z wINTEGER wDOUBLE wBOOLEAN wD kwD pa1 pa2 pa3 pk8 pa9 h0 n0) := by
  refine own_body (plainFor_of_name pn_java_util_ArrayList) ?_
  intro p e s m below meth c s₁ hx hby hml hown hnm hret0 hlk0 hZ X0 e0
  have N0 := Fr.nil n0
  have pre0 : ∀ t, Steps p.tables e below (s₁.setTop (mkF m 0 #[(vr pa1), (vr pa2), (vr pa3), (vi 1)] [])) t → Steps p.tables e below (s₁.setTop (entryFrame m #[(.ref pa1), (.ref pa2), (.ref pa3), (.int 1)] 4)) t := fun t k => castTop (ef_au12_1 m pa1 pa2 pa3 (1 : Int32)) k
  have K0 := Keep.refl h0 [pa3, pa1]
  have hS0 := hS
  obtain ⟨S_wINTEGER, E_wINTEGER, S_wDOUBLE, E_wDOUBLE, S_wBOOLEAN, E_wBOOLEAN, F_ordinal_wINTEGER, F_ordinal_wDOUBLE, F_ordinal_wBOOLEAN, S_wD, E_wD, V_wD⟩ := hS0
  obtain ⟨cl1, Ar1, -, Sz1, Nn1, -, -⟩ := (id P9)
  obtain ⟨cl2, Ar2, qc2, Sz2, Nn2, Ha2, Gg2⟩ := (id P9)
  have hin2 : ¬ ((1 : Int32) < 0 ∨ cl2.slots.size ≤ ((1 : Int32)).toNatClampNeg) := inb_of Sz2 ⟨by decide, by decide⟩
  obtain ⟨T2, h2, X2, e2, W2, st2⟩ := stR X0 hx hZ e0 Ar2 (j := (1 : Int32)) hin2 rfl (Sto.ofV Ar2 qc2 P10 (Ins.of_exa P4 (ow hw 111 rfl))) (g := (mkF m 14 #[(vr pa1), (vr pa2), (vr pa3), (vi 1)] [(.ref pa2), (.int 1), (.ref pa3)])) rfl rfl (hb hby d12_14)
  have O3 : Old Z n0 h2 := O0.wr W2 P19
  have K3 : Keep h0 h2 [pa3, pa1] := K0.wr W2 (Or.inl (List.mem_of_getElem? (i := 0) rfl))
  have V2 : Arv Z h2 pa3 pk8 (.object s4n) (10 : Int32) ([(.ref pa9), (.ref pa2), .null, .null, .null, .null, .null, .null, .null, .null]) .null := Arv.set Ar2 qc2 Sz2 Nn2 Ha2 Gg2 (v := (.ref pa2)) rfl W2 1 rfl (Nat.le_of_ble_eq_true rfl)
  have N2 := Fr.snoc X2 N0 P19
  have f4 : Exa Z h2 pa1 s2n := (P0.wr W2)
  have f5 : Fld Z h2 pa1 s2n "size" "I" (.int 1) := (P3.other W2 (Or.inl P22))
  obtain ⟨T6, h6, X6, e6, W6, st6⟩ := putF X2 hx hZ hown (host := "") (Or.inl (ow hw 88 rfl)) Via.refl e2 f5 f4 (Or.inl (ow hw 89 rfl)) (ow hw 14 rfl) (ty := .int) (by decide) rfl rfl (g := (mkF m 19 #[(vr pa1), (vr pa2), (vr pa3), (vi 1)] [(.int 2), (.ref pa1)])) rfl rfl (hb hby d12_19)
  have N6 := Fr.snoc X6 N2 P17
  have O7 : Old Z n0 h6 := O3.wr W6 P17
  have K7 : Keep h0 h6 [pa3, pa1] := K3.wr W6 (Or.inl (List.mem_of_getElem? (i := 1) rfl))
  have Fw6 : Fld Z h6 pa1 s2n "size" "I" (.int 2) := f5.same W6
  have f8 : Exa Z h6 pa3 s3n := ((P11.wr W2).wr W6)
  have f9 : Arv Z h6 pa3 pk8 (.object s4n) (10 : Int32) ([(.ref pa9), (.ref pa2), .null, .null, .null, .null, .null, .null, .null, .null]) .null := (V2.other W6 (Ne.symm P22))
  have f10 : Exa Z h6 pa1 s2n := (f4.wr W6)
  have f11 : Fld Z h6 pa1 s8n "modCount" "I" (.int 2) := ((P1.other W2 (Or.inl P22)).other W6 (Or.inr (slot_ne (Or.inl (ow hw 35 rfl)) (Or.inl (ow hw 89 rfl)) (by decide) (t := .int) (t' := .int) (by decide) (by decide))))
  have f12 : Fld Z h6 pa1 s2n "elementData" s3n (.ref pa3) := ((P2.other W2 (Or.inl P22)).other W6 (Or.inr (slot_ne (Or.inl (ow hw 38 rfl)) (Or.inl (ow hw 89 rfl)) (by decide) (t := (.array (.object s4n))) (t' := .int) (by decide) (by decide))))
  obtain ⟨fs, hr, hrun, hended, hW, hsame⟩ := X6.leave (v := none) (fun _ => rfl)
  refine ⟨_, _, pre0 _ ?_, hrun, hended, _, _, rfl, ?_, ⟨_, rfl⟩, hW, hsame.mono (by decide) (by decide)⟩
  · skip
    show Steps p.tables e below (s₁.setTop (mkF m 0 #[(vr pa1), (vr pa2), (vr pa3), (vi 1)] [])) _
    refine XS.iloadN X0.here hx rfl (hb hby d12_0) rfl ?_
    refine XS.aloadN X0.here hx rfl (hb hby d12_1) rfl rfl ?_
    refine X0.arraylength hx (by rw [e0]; exact Ar1.1) (State.isArrayOf_alike hZ.alike Ar1.2.1) (g := (mkF m 2 #[(vr pa1), (vr pa2), (vr pa3), (vi 1)] [(.ref pa3), (.int 1)])) rfl rfl (hb hby d12_2) _ ?_
    rw [len_of Sz1 Nn1]
    refine XS.icmpYes X0.here hx rfl (pc0 := 3) (pc' := 11) rfl (hb hby d12_3) rfl (feq (by decide : ¬ ((1 : Int32) = (10 : Int32)))).2 (by decide) (by decide) ?_
    refine XS.aloadN X0.here hx rfl (hb hby d12_11) rfl rfl ?_
    refine XS.iloadN X0.here hx rfl (hb hby d12_12) rfl ?_
    refine XS.aloadN X0.here hx rfl (hb hby d12_13) rfl rfl ?_
    refine st2 _ ?_
    refine XS.aloadN X2.here hx rfl (hb hby d12_15) rfl rfl ?_
    refine XS.iloadN X2.here hx rfl (hb hby d12_16) rfl ?_
    refine XS.iconst X2.here hx rfl (hb hby d12_17) ?_
    refine XS.iadd X2.here hx rfl (hb hby d12_18) rfl ?_
    refine st6 _ ?_
    exact X6.returnOut hx hret0 (hb hby d12_22) hr
  · show Q_au12_1 Z wINTEGER wDOUBLE wBOOLEAN wD kwD pa1 pa2 pa3 pk8 pa9 h0 n0 _ T6.heap _
    rw [e6]
    exact ⟨rfl, N6, K7, f8, f9, P10, f10, f11, f12, Fw6⟩
def Q_au11_1 (Z : State) (wINTEGER : Addr) (wDOUBLE : Addr) (wBOOLEAN : Addr) (wD : Addr) (kwD : ClassId) (pa1 : Addr) (pa2 : Addr) (pa3 : Addr) (pk8 : ClassId) (pa9 : Addr) (h0 : Heap) (n0 : Nat) (v : Option Value) (h : Heap) (L : List Loc) : Prop := v = some (.int 1) ∧ Fr n0 L ∧ Keep h0 h [pa1, pa3] ∧ Exa Z h pa1 s2n ∧ Fld Z h pa1 s8n "modCount" "I" (.int 2) ∧ Fld Z h pa1 s2n "elementData" s3n (.ref pa3) ∧ Fld Z h pa1 s2n "size" "I" (.int 2) ∧ Exa Z h pa3 s3n ∧ Arv Z h pa3 pk8 (.object s4n) (10 : Int32) ([(.ref pa9), (.ref pa2), .null, .null, .null, .null, .null, .null, .null, .null]) .null ∧ Ovr Z pk8 s4n
theorem au11_1 (l : Launch) (Z : State) (a0 : Array Value) (hw : ∀ d ∈ tables_1, d.before a0 Z = true) (ws : List Jvm.Cond) (wINTEGER : Addr) (wDOUBLE : Addr) (wBOOLEAN : Addr) (wD : Addr) (kwD : ClassId) (hS : SS Z wINTEGER wDOUBLE wBOOLEAN wD kwD) (pa1 : Addr) (pa2 : Addr) (pa3 : Addr) (pk8 : ClassId) (pa9 : Addr) (h0 : Heap) (n0 : Nat) (O0 : Old Z n0 h0) (P0 : Exa Z h0 pa1 s2n) (P1 : Fld Z h0 pa1 s8n "modCount" "I" (.int 1)) (P2 : Fld Z h0 pa1 s2n "elementData" s3n (.ref pa3)) (P3 : Fld Z h0 pa1 s2n "size" "I" (.int 1)) (P4 : Exa Z h0 pa2 s5n) (P9 : Arv Z h0 pa3 pk8 (.object s4n) (10 : Int32) ([(.ref pa9), .null, .null, .null, .null, .null, .null, .null, .null, .null]) .null) (P10 : Ovr Z pk8 s4n) (P11 : Exa Z h0 pa3 s3n) (P17 : n0 ≤ pa1) (P19 : n0 ≤ pa3) (P22 : pa1 ≠ pa3) :
    MetB l M16 jdk_38_method_25_code 2 (some .boolean) ws (rmk 1 0 0 15) Z h0 #[(.ref pa1), (.ref pa2)] (Q_au11_1 Z wINTEGER wDOUBLE wBOOLEAN wD kwD pa1 pa2 pa3 pk8 pa9 h0 n0) := by
  refine own_body (plainFor_of_name pn_java_util_ArrayList) ?_
  intro p e s m below meth c s₁ hx hby hml hown hnm hret0 hlk0 hZ X0 e0
  have N0 := Fr.nil n0
  have pre0 : ∀ t, Steps p.tables e below (s₁.setTop (mkF m 0 #[(vr pa1), (vr pa2)] [])) t → Steps p.tables e below (s₁.setTop (entryFrame m #[(.ref pa1), (.ref pa2)] 2)) t := fun t k => castTop (ef_au11_1 m pa1 pa2) k
  have K0 := Keep.refl h0 [pa1, pa3]
  have hS0 := hS
  obtain ⟨S_wINTEGER, E_wINTEGER, S_wDOUBLE, E_wDOUBLE, S_wBOOLEAN, E_wBOOLEAN, F_ordinal_wINTEGER, F_ordinal_wDOUBLE, F_ordinal_wBOOLEAN, S_wD, E_wD, V_wD⟩ := hS0
  obtain ⟨T1, X1, e1, st1⟩ := getF X0 hx hZ hown (host := "") (Or.inl (ow hw 86 rfl)) (Via.of (ow hw 87 rfl)) e0 P1 (g := (mkF m 2 #[(vr pa1), (vr pa2)] [(.ref pa1), (.ref pa1)])) rfl rfl (hb hby d11_2)
  obtain ⟨T2, h2, X2, e2, W2, st2⟩ := putF X1 hx hZ hown (host := "") (Or.inl (ow hw 86 rfl)) (Via.of (ow hw 87 rfl)) e1 P1 P0 (Or.inl (ow hw 35 rfl)) (ow hw 14 rfl) (ty := .int) (by decide) rfl rfl (g := (mkF m 7 #[(vr pa1), (vr pa2)] [(.int 2), (.ref pa1)])) rfl rfl (hb hby d11_7)
  have N2 := Fr.snoc X2 N0 P17
  have O3 : Old Z n0 h2 := O0.wr W2 P17
  have K3 : Keep h0 h2 [pa1, pa3] := K0.wr W2 (Or.inl (List.mem_of_getElem? (i := 0) rfl))
  have Fw2 : Fld Z h2 pa1 s8n "modCount" "I" (.int 2) := P1.same W2
  have f4 : Fld Z h2 pa1 s2n "elementData" s3n (.ref pa3) := (P2.other W2 (Or.inr (slot_ne (Or.inl (ow hw 38 rfl)) (Or.inl (ow hw 35 rfl)) (by decide) (t := (.array (.object s4n))) (t' := .int) (by decide) (by decide))))
  obtain ⟨T5, X5, e5, st5⟩ := getF X2 hx hZ hown (host := "") (Or.inl (ow hw 37 rfl)) Via.refl e2 f4 (g := (mkF m 13 #[(vr pa1), (vr pa2)] [(.ref pa1), (.ref pa2), (.ref pa1)])) rfl rfl (hb hby d11_13)
  have f6 : Fld Z h2 pa1 s2n "size" "I" (.int 1) := (P3.other W2 (Or.inr (slot_ne (Or.inl (ow hw 89 rfl)) (Or.inl (ow hw 35 rfl)) (by decide) (t := .int) (t' := .int) (by decide) (by decide))))
  obtain ⟨T7, X7, e7, st7⟩ := getF X5 hx hZ hown (host := "") (Or.inl (ow hw 88 rfl)) Via.refl e5 f6 (g := (mkF m 17 #[(vr pa1), (vr pa2)] [(.ref pa1), (.ref pa3), (.ref pa2), (.ref pa1)])) rfl rfl (hb hby d11_17)
  have f8 : Exa Z h2 pa1 s2n := (P0.wr W2)
  have f9 : Exa Z h2 pa2 s5n := (P4.wr W2)
  have f10 : Arv Z h2 pa3 pk8 (.object s4n) (10 : Int32) ([(.ref pa9), .null, .null, .null, .null, .null, .null, .null, .null, .null]) .null := (P9.other W2 (Ne.symm P22))
  have f11 : Exa Z h2 pa3 s3n := (P11.wr W2)
  obtain ⟨cq12, q12, q12'⟩ := f8.cell
  obtain ⟨_, _, ⟨T12, L12, k12, n12⟩, -, X12, ⟨Lc12, hQ12, l12, y12, z12⟩, st12⟩ := X7.privateBack hx (y := M15) hown (mvT hZ (ow hw 90 rfl)) (mvT hZ (ow hw 91 rfl)) (mvT hZ (ow hw 93 rfl)) (Cond.privateMethod_at (mvP hZ (ow hw 92 rfl) (args := #[]))) (mvT hZ (ow hw 94 rfl)) (by decide) (backOf (W := 0) (au12_1 l Z a0 hw [] wINTEGER wDOUBLE wBOOLEAN wD kwD hS pa1 pa2 pa3 pk8 pa9 h2 n0 O3 f8 Fw2 f4 f6 f9 f10 P10 f11 P17 P19 P22) hZ (ow hw 94 rfl) (ow hw 15 rfl) (by decide) (by decide)) (g := (mkF m 20 #[(vr pa1), (vr pa2)] [(.int 1), (.ref pa3), (.ref pa2), (.ref pa1)])) rfl (by rw [hml]; rfl) (Steps.refl _) (a := pa1) (by rw [e7]; exact q12) q12' (argsL := [(.ref pa2), (.ref pa3), (.int 1)]) (rest := []) (lenOf pd_10 rfl) rfl (by show 2 * 0 + _ ≤ _; exact Nat.le_of_eq rfl) (hb hby d11_20) (fun _ _ => ⟨rfl, e7, (by decide : 0 + 0 ≤ _), (by decide : 0 + 0 ≤ _)⟩)
  dsimp only [Pt.U, Pt.locs, Pt.cells, Pt.slots] at X12 l12 y12 z12 st12 hQ12
  subst y12 z12
  obtain ⟨rfl, Nq12, K12q, p12_0, p12_1, p12_2, p12_3, p12_4, p12_5, p12_6⟩ := hQ12
  have N12 : Fr n0 L12 := (congrArg (Fr n0) l12).mpr (Fr.app N2 Nq12)
  have O13 : Old Z n0 T12.heap := O3.keep K12q (allS P19 (allS P17 all0))
  have K13 : Keep h0 T12.heap [pa1, pa3] := K3.trans K12q (allS (Or.inl (List.mem_of_getElem? (i := 1) rfl)) (allS (Or.inl (List.mem_of_getElem? (i := 0) rfl)) all0))
  obtain ⟨fs, hr, hrun, hended, hW, hsame⟩ := X12.leave (v := some (.int 1)) (fun h => by rw [hret0] at h; cases h)
  refine ⟨_, _, pre0 _ ?_, hrun, hended, _, _, rfl, ?_, ⟨_, rfl⟩, hW, hsame.mono (by decide) (by decide)⟩
  · skip
    show Steps p.tables e below (s₁.setTop (mkF m 0 #[(vr pa1), (vr pa2)] [])) _
    refine XS.aloadN X0.here hx rfl (hb hby d11_0) rfl rfl ?_
    refine XS.dup X0.here hx rfl (hb hby d11_1) rfl rfl ?_
    refine st1 _ ?_
    refine XS.iconst X1.here hx rfl (hb hby d11_5) ?_
    refine XS.iadd X1.here hx rfl (hb hby d11_6) rfl ?_
    refine st2 _ ?_
    refine XS.aloadN X2.here hx rfl (hb hby d11_10) rfl rfl ?_
    refine XS.aloadN X2.here hx rfl (hb hby d11_11) rfl rfl ?_
    refine XS.aloadN X2.here hx rfl (hb hby d11_12) rfl rfl ?_
    refine st5 _ ?_
    refine XS.aloadN X5.here hx rfl (hb hby d11_16) rfl rfl ?_
    refine st7 _ ?_
    refine st12.trans ?_
    refine XS.iconst X12.here hx rfl (hb hby d11_23) ?_
    show Steps p.tables e below (T12.setTop (mkF m 24 #[(vr pa1), (vr pa2)] [(.int 1)])) _
    exact retN X12 hx (t := .boolean) hret0 (by simp) (hb hby d11_24) hr
  · show Q_au11_1 Z wINTEGER wDOUBLE wBOOLEAN wD kwD pa1 pa2 pa3 pk8 pa9 h0 n0 _ T12.heap _
    exact ⟨rfl, N12, K13, p12_3, p12_4, p12_5, p12_6, p12_0, p12_1, p12_2⟩
theorem ef_au11_2 (m : MethodId) (x0 : Addr) (x1 : Addr)  : entryFrame m #[(.ref x0), (.ref x1)] 2 = mkF m 0 #[(vr x0), (vr x1)] [] := by first | (simp [entryFrame, mkF, argsToLocals, Value.category]; done) | rfl
theorem ef_au12_2 (m : MethodId) (x0 : Addr) (x1 : Addr) (x2 : Addr) (x3 : Int32)  : entryFrame m #[(.ref x0), (.ref x1), (.ref x2), (.int x3)] 4 = mkF m 0 #[(vr x0), (vr x1), (vr x2), (vi x3)] [] := by first | (simp [entryFrame, mkF, argsToLocals, Value.category]; done) | rfl
def Q_au12_2 (Z : State) (wINTEGER : Addr) (wDOUBLE : Addr) (wBOOLEAN : Addr) (wD : Addr) (kwD : ClassId) (pa1 : Addr) (pa2 : Addr) (pa3 : Addr) (pk8 : ClassId) (pa9 : Addr) (pa10 : Addr) (h0 : Heap) (n0 : Nat) (v : Option Value) (h : Heap) (L : List Loc) : Prop := v = none ∧ Fr n0 L ∧ Keep h0 h [pa3, pa1] ∧ Exa Z h pa3 s3n ∧ Arv Z h pa3 pk8 (.object s4n) (10 : Int32) ([(.ref pa9), (.ref pa10), (.ref pa2), .null, .null, .null, .null, .null, .null, .null]) .null ∧ Ovr Z pk8 s4n ∧ Exa Z h pa1 s2n ∧ Fld Z h pa1 s8n "modCount" "I" (.int 3) ∧ Fld Z h pa1 s2n "elementData" s3n (.ref pa3) ∧ Fld Z h pa1 s2n "size" "I" (.int 3)
theorem au12_2 (l : Launch) (Z : State) (a0 : Array Value) (hw : ∀ d ∈ tables_1, d.before a0 Z = true) (ws : List Jvm.Cond) (wINTEGER : Addr) (wDOUBLE : Addr) (wBOOLEAN : Addr) (wD : Addr) (kwD : ClassId) (hS : SS Z wINTEGER wDOUBLE wBOOLEAN wD kwD) (pa1 : Addr) (pa2 : Addr) (pa3 : Addr) (pk8 : ClassId) (pa9 : Addr) (pa10 : Addr) (h0 : Heap) (n0 : Nat) (O0 : Old Z n0 h0) (P0 : Exa Z h0 pa1 s2n) (P1 : Fld Z h0 pa1 s8n "modCount" "I" (.int 3)) (P2 : Fld Z h0 pa1 s2n "elementData" s3n (.ref pa3)) (P3 : Fld Z h0 pa1 s2n "size" "I" (.int 2)) (P4 : Exa Z h0 pa2 s5n) (P9 : Arv Z h0 pa3 pk8 (.object s4n) (10 : Int32) ([(.ref pa9), (.ref pa10), .null, .null, .null, .null, .null, .null, .null, .null]) .null) (P10 : Ovr Z pk8 s4n) (P11 : Exa Z h0 pa3 s3n) (P22 : n0 ≤ pa1) (P24 : n0 ≤ pa3) (P28 : pa1 ≠ pa3) :
    MetB l M15 jdk_38_method_24_code 4 none ws (rmk 0 0 0 0) Z h0 #[(.ref pa1), (.ref pa2), (.ref pa3), (.int 2)] (Q_au12_2 Z wINTEGER wDOUBLE wBOOLEAN wD kwD pa1 pa2 pa3 pk8 pa9 pa10 h0 n0) := by
  refine own_body (plainFor_of_name pn_java_util_ArrayList) ?_
  intro p e s m below meth c s₁ hx hby hml hown hnm hret0 hlk0 hZ X0 e0
  have N0 := Fr.nil n0
  have pre0 : ∀ t, Steps p.tables e below (s₁.setTop (mkF m 0 #[(vr pa1), (vr pa2), (vr pa3), (vi 2)] [])) t → Steps p.tables e below (s₁.setTop (entryFrame m #[(.ref pa1), (.ref pa2), (.ref pa3), (.int 2)] 4)) t := fun t k => castTop (ef_au12_2 m pa1 pa2 pa3 (2 : Int32)) k
  have K0 := Keep.refl h0 [pa3, pa1]
  have hS0 := hS
  obtain ⟨S_wINTEGER, E_wINTEGER, S_wDOUBLE, E_wDOUBLE, S_wBOOLEAN, E_wBOOLEAN, F_ordinal_wINTEGER, F_ordinal_wDOUBLE, F_ordinal_wBOOLEAN, S_wD, E_wD, V_wD⟩ := hS0
  obtain ⟨cl1, Ar1, -, Sz1, Nn1, -, -⟩ := (id P9)
  obtain ⟨cl2, Ar2, qc2, Sz2, Nn2, Ha2, Gg2⟩ := (id P9)
  have hin2 : ¬ ((2 : Int32) < 0 ∨ cl2.slots.size ≤ ((2 : Int32)).toNatClampNeg) := inb_of Sz2 ⟨by decide, by decide⟩
  obtain ⟨T2, h2, X2, e2, W2, st2⟩ := stR X0 hx hZ e0 Ar2 (j := (2 : Int32)) hin2 rfl (Sto.ofV Ar2 qc2 P10 (Ins.of_exa P4 (ow hw 111 rfl))) (g := (mkF m 14 #[(vr pa1), (vr pa2), (vr pa3), (vi 2)] [(.ref pa2), (.int 2), (.ref pa3)])) rfl rfl (hb hby d12_14)
  have O3 : Old Z n0 h2 := O0.wr W2 P24
  have K3 : Keep h0 h2 [pa3, pa1] := K0.wr W2 (Or.inl (List.mem_of_getElem? (i := 0) rfl))
  have V2 : Arv Z h2 pa3 pk8 (.object s4n) (10 : Int32) ([(.ref pa9), (.ref pa10), (.ref pa2), .null, .null, .null, .null, .null, .null, .null]) .null := Arv.set Ar2 qc2 Sz2 Nn2 Ha2 Gg2 (v := (.ref pa2)) rfl W2 2 rfl (Nat.le_of_ble_eq_true rfl)
  have N2 := Fr.snoc X2 N0 P24
  have f4 : Exa Z h2 pa1 s2n := (P0.wr W2)
  have f5 : Fld Z h2 pa1 s2n "size" "I" (.int 2) := (P3.other W2 (Or.inl P28))
  obtain ⟨T6, h6, X6, e6, W6, st6⟩ := putF X2 hx hZ hown (host := "") (Or.inl (ow hw 88 rfl)) Via.refl e2 f5 f4 (Or.inl (ow hw 89 rfl)) (ow hw 14 rfl) (ty := .int) (by decide) rfl rfl (g := (mkF m 19 #[(vr pa1), (vr pa2), (vr pa3), (vi 2)] [(.int 3), (.ref pa1)])) rfl rfl (hb hby d12_19)
  have N6 := Fr.snoc X6 N2 P22
  have O7 : Old Z n0 h6 := O3.wr W6 P22
  have K7 : Keep h0 h6 [pa3, pa1] := K3.wr W6 (Or.inl (List.mem_of_getElem? (i := 1) rfl))
  have Fw6 : Fld Z h6 pa1 s2n "size" "I" (.int 3) := f5.same W6
  have f8 : Exa Z h6 pa3 s3n := ((P11.wr W2).wr W6)
  have f9 : Arv Z h6 pa3 pk8 (.object s4n) (10 : Int32) ([(.ref pa9), (.ref pa10), (.ref pa2), .null, .null, .null, .null, .null, .null, .null]) .null := (V2.other W6 (Ne.symm P28))
  have f10 : Exa Z h6 pa1 s2n := (f4.wr W6)
  have f11 : Fld Z h6 pa1 s8n "modCount" "I" (.int 3) := ((P1.other W2 (Or.inl P28)).other W6 (Or.inr (slot_ne (Or.inl (ow hw 35 rfl)) (Or.inl (ow hw 89 rfl)) (by decide) (t := .int) (t' := .int) (by decide) (by decide))))
  have f12 : Fld Z h6 pa1 s2n "elementData" s3n (.ref pa3) := ((P2.other W2 (Or.inl P28)).other W6 (Or.inr (slot_ne (Or.inl (ow hw 38 rfl)) (Or.inl (ow hw 89 rfl)) (by decide) (t := (.array (.object s4n))) (t' := .int) (by decide) (by decide))))
  obtain ⟨fs, hr, hrun, hended, hW, hsame⟩ := X6.leave (v := none) (fun _ => rfl)
  refine ⟨_, _, pre0 _ ?_, hrun, hended, _, _, rfl, ?_, ⟨_, rfl⟩, hW, hsame.mono (by decide) (by decide)⟩
  · skip
    show Steps p.tables e below (s₁.setTop (mkF m 0 #[(vr pa1), (vr pa2), (vr pa3), (vi 2)] [])) _
    refine XS.iloadN X0.here hx rfl (hb hby d12_0) rfl ?_
    refine XS.aloadN X0.here hx rfl (hb hby d12_1) rfl rfl ?_
    refine X0.arraylength hx (by rw [e0]; exact Ar1.1) (State.isArrayOf_alike hZ.alike Ar1.2.1) (g := (mkF m 2 #[(vr pa1), (vr pa2), (vr pa3), (vi 2)] [(.ref pa3), (.int 2)])) rfl rfl (hb hby d12_2) _ ?_
    rw [len_of Sz1 Nn1]
    refine XS.icmpYes X0.here hx rfl (pc0 := 3) (pc' := 11) rfl (hb hby d12_3) rfl (feq (by decide : ¬ ((2 : Int32) = (10 : Int32)))).2 (by decide) (by decide) ?_
    refine XS.aloadN X0.here hx rfl (hb hby d12_11) rfl rfl ?_
    refine XS.iloadN X0.here hx rfl (hb hby d12_12) rfl ?_
    refine XS.aloadN X0.here hx rfl (hb hby d12_13) rfl rfl ?_
    refine st2 _ ?_
    refine XS.aloadN X2.here hx rfl (hb hby d12_15) rfl rfl ?_
    refine XS.iloadN X2.here hx rfl (hb hby d12_16) rfl ?_
    refine XS.iconst X2.here hx rfl (hb hby d12_17) ?_
    refine XS.iadd X2.here hx rfl (hb hby d12_18) rfl ?_
    refine st6 _ ?_
    exact X6.returnOut hx hret0 (hb hby d12_22) hr
  · show Q_au12_2 Z wINTEGER wDOUBLE wBOOLEAN wD kwD pa1 pa2 pa3 pk8 pa9 pa10 h0 n0 _ T6.heap _
    rw [e6]
    exact ⟨rfl, N6, K7, f8, f9, P10, f10, f11, f12, Fw6⟩
def Q_au11_2 (Z : State) (wINTEGER : Addr) (wDOUBLE : Addr) (wBOOLEAN : Addr) (wD : Addr) (kwD : ClassId) (pa1 : Addr) (pa2 : Addr) (pa3 : Addr) (pk8 : ClassId) (pa9 : Addr) (pa10 : Addr) (h0 : Heap) (n0 : Nat) (v : Option Value) (h : Heap) (L : List Loc) : Prop := v = some (.int 1) ∧ Fr n0 L ∧ Keep h0 h [pa1, pa3] ∧ Exa Z h pa1 s2n ∧ Fld Z h pa1 s8n "modCount" "I" (.int 3) ∧ Fld Z h pa1 s2n "elementData" s3n (.ref pa3) ∧ Fld Z h pa1 s2n "size" "I" (.int 3) ∧ Exa Z h pa3 s3n ∧ Arv Z h pa3 pk8 (.object s4n) (10 : Int32) ([(.ref pa9), (.ref pa10), (.ref pa2), .null, .null, .null, .null, .null, .null, .null]) .null ∧ Ovr Z pk8 s4n
theorem au11_2 (l : Launch) (Z : State) (a0 : Array Value) (hw : ∀ d ∈ tables_1, d.before a0 Z = true) (ws : List Jvm.Cond) (wINTEGER : Addr) (wDOUBLE : Addr) (wBOOLEAN : Addr) (wD : Addr) (kwD : ClassId) (hS : SS Z wINTEGER wDOUBLE wBOOLEAN wD kwD) (pa1 : Addr) (pa2 : Addr) (pa3 : Addr) (pk8 : ClassId) (pa9 : Addr) (pa10 : Addr) (h0 : Heap) (n0 : Nat) (O0 : Old Z n0 h0) (P0 : Exa Z h0 pa1 s2n) (P1 : Fld Z h0 pa1 s8n "modCount" "I" (.int 2)) (P2 : Fld Z h0 pa1 s2n "elementData" s3n (.ref pa3)) (P3 : Fld Z h0 pa1 s2n "size" "I" (.int 2)) (P4 : Exa Z h0 pa2 s5n) (P9 : Arv Z h0 pa3 pk8 (.object s4n) (10 : Int32) ([(.ref pa9), (.ref pa10), .null, .null, .null, .null, .null, .null, .null, .null]) .null) (P10 : Ovr Z pk8 s4n) (P11 : Exa Z h0 pa3 s3n) (P22 : n0 ≤ pa1) (P24 : n0 ≤ pa3) (P28 : pa1 ≠ pa3) :
    MetB l M16 jdk_38_method_25_code 2 (some .boolean) ws (rmk 1 0 0 15) Z h0 #[(.ref pa1), (.ref pa2)] (Q_au11_2 Z wINTEGER wDOUBLE wBOOLEAN wD kwD pa1 pa2 pa3 pk8 pa9 pa10 h0 n0) := by
  refine own_body (plainFor_of_name pn_java_util_ArrayList) ?_
  intro p e s m below meth c s₁ hx hby hml hown hnm hret0 hlk0 hZ X0 e0
  have N0 := Fr.nil n0
  have pre0 : ∀ t, Steps p.tables e below (s₁.setTop (mkF m 0 #[(vr pa1), (vr pa2)] [])) t → Steps p.tables e below (s₁.setTop (entryFrame m #[(.ref pa1), (.ref pa2)] 2)) t := fun t k => castTop (ef_au11_2 m pa1 pa2) k
  have K0 := Keep.refl h0 [pa1, pa3]
  have hS0 := hS
  obtain ⟨S_wINTEGER, E_wINTEGER, S_wDOUBLE, E_wDOUBLE, S_wBOOLEAN, E_wBOOLEAN, F_ordinal_wINTEGER, F_ordinal_wDOUBLE, F_ordinal_wBOOLEAN, S_wD, E_wD, V_wD⟩ := hS0
  obtain ⟨T1, X1, e1, st1⟩ := getF X0 hx hZ hown (host := "") (Or.inl (ow hw 86 rfl)) (Via.of (ow hw 87 rfl)) e0 P1 (g := (mkF m 2 #[(vr pa1), (vr pa2)] [(.ref pa1), (.ref pa1)])) rfl rfl (hb hby d11_2)
  obtain ⟨T2, h2, X2, e2, W2, st2⟩ := putF X1 hx hZ hown (host := "") (Or.inl (ow hw 86 rfl)) (Via.of (ow hw 87 rfl)) e1 P1 P0 (Or.inl (ow hw 35 rfl)) (ow hw 14 rfl) (ty := .int) (by decide) rfl rfl (g := (mkF m 7 #[(vr pa1), (vr pa2)] [(.int 3), (.ref pa1)])) rfl rfl (hb hby d11_7)
  have N2 := Fr.snoc X2 N0 P22
  have O3 : Old Z n0 h2 := O0.wr W2 P22
  have K3 : Keep h0 h2 [pa1, pa3] := K0.wr W2 (Or.inl (List.mem_of_getElem? (i := 0) rfl))
  have Fw2 : Fld Z h2 pa1 s8n "modCount" "I" (.int 3) := P1.same W2
  have f4 : Fld Z h2 pa1 s2n "elementData" s3n (.ref pa3) := (P2.other W2 (Or.inr (slot_ne (Or.inl (ow hw 38 rfl)) (Or.inl (ow hw 35 rfl)) (by decide) (t := (.array (.object s4n))) (t' := .int) (by decide) (by decide))))
  obtain ⟨T5, X5, e5, st5⟩ := getF X2 hx hZ hown (host := "") (Or.inl (ow hw 37 rfl)) Via.refl e2 f4 (g := (mkF m 13 #[(vr pa1), (vr pa2)] [(.ref pa1), (.ref pa2), (.ref pa1)])) rfl rfl (hb hby d11_13)
  have f6 : Fld Z h2 pa1 s2n "size" "I" (.int 2) := (P3.other W2 (Or.inr (slot_ne (Or.inl (ow hw 89 rfl)) (Or.inl (ow hw 35 rfl)) (by decide) (t := .int) (t' := .int) (by decide) (by decide))))
  obtain ⟨T7, X7, e7, st7⟩ := getF X5 hx hZ hown (host := "") (Or.inl (ow hw 88 rfl)) Via.refl e5 f6 (g := (mkF m 17 #[(vr pa1), (vr pa2)] [(.ref pa1), (.ref pa3), (.ref pa2), (.ref pa1)])) rfl rfl (hb hby d11_17)
  have f8 : Exa Z h2 pa1 s2n := (P0.wr W2)
  have f9 : Exa Z h2 pa2 s5n := (P4.wr W2)
  have f10 : Arv Z h2 pa3 pk8 (.object s4n) (10 : Int32) ([(.ref pa9), (.ref pa10), .null, .null, .null, .null, .null, .null, .null, .null]) .null := (P9.other W2 (Ne.symm P28))
  have f11 : Exa Z h2 pa3 s3n := (P11.wr W2)
  obtain ⟨cq12, q12, q12'⟩ := f8.cell
  obtain ⟨_, _, ⟨T12, L12, k12, n12⟩, -, X12, ⟨Lc12, hQ12, l12, y12, z12⟩, st12⟩ := X7.privateBack hx (y := M15) hown (mvT hZ (ow hw 90 rfl)) (mvT hZ (ow hw 91 rfl)) (mvT hZ (ow hw 93 rfl)) (Cond.privateMethod_at (mvP hZ (ow hw 92 rfl) (args := #[]))) (mvT hZ (ow hw 94 rfl)) (by decide) (backOf (W := 0) (au12_2 l Z a0 hw [] wINTEGER wDOUBLE wBOOLEAN wD kwD hS pa1 pa2 pa3 pk8 pa9 pa10 h2 n0 O3 f8 Fw2 f4 f6 f9 f10 P10 f11 P22 P24 P28) hZ (ow hw 94 rfl) (ow hw 15 rfl) (by decide) (by decide)) (g := (mkF m 20 #[(vr pa1), (vr pa2)] [(.int 2), (.ref pa3), (.ref pa2), (.ref pa1)])) rfl (by rw [hml]; rfl) (Steps.refl _) (a := pa1) (by rw [e7]; exact q12) q12' (argsL := [(.ref pa2), (.ref pa3), (.int 2)]) (rest := []) (lenOf pd_10 rfl) rfl (by show 2 * 0 + _ ≤ _; exact Nat.le_of_eq rfl) (hb hby d11_20) (fun _ _ => ⟨rfl, e7, (by decide : 0 + 0 ≤ _), (by decide : 0 + 0 ≤ _)⟩)
  dsimp only [Pt.U, Pt.locs, Pt.cells, Pt.slots] at X12 l12 y12 z12 st12 hQ12
  subst y12 z12
  obtain ⟨rfl, Nq12, K12q, p12_0, p12_1, p12_2, p12_3, p12_4, p12_5, p12_6⟩ := hQ12
  have N12 : Fr n0 L12 := (congrArg (Fr n0) l12).mpr (Fr.app N2 Nq12)
  have O13 : Old Z n0 T12.heap := O3.keep K12q (allS P24 (allS P22 all0))
  have K13 : Keep h0 T12.heap [pa1, pa3] := K3.trans K12q (allS (Or.inl (List.mem_of_getElem? (i := 1) rfl)) (allS (Or.inl (List.mem_of_getElem? (i := 0) rfl)) all0))
  obtain ⟨fs, hr, hrun, hended, hW, hsame⟩ := X12.leave (v := some (.int 1)) (fun h => by rw [hret0] at h; cases h)
  refine ⟨_, _, pre0 _ ?_, hrun, hended, _, _, rfl, ?_, ⟨_, rfl⟩, hW, hsame.mono (by decide) (by decide)⟩
  · skip
    show Steps p.tables e below (s₁.setTop (mkF m 0 #[(vr pa1), (vr pa2)] [])) _
    refine XS.aloadN X0.here hx rfl (hb hby d11_0) rfl rfl ?_
    refine XS.dup X0.here hx rfl (hb hby d11_1) rfl rfl ?_
    refine st1 _ ?_
    refine XS.iconst X1.here hx rfl (hb hby d11_5) ?_
    refine XS.iadd X1.here hx rfl (hb hby d11_6) rfl ?_
    refine st2 _ ?_
    refine XS.aloadN X2.here hx rfl (hb hby d11_10) rfl rfl ?_
    refine XS.aloadN X2.here hx rfl (hb hby d11_11) rfl rfl ?_
    refine XS.aloadN X2.here hx rfl (hb hby d11_12) rfl rfl ?_
    refine st5 _ ?_
    refine XS.aloadN X5.here hx rfl (hb hby d11_16) rfl rfl ?_
    refine st7 _ ?_
    refine st12.trans ?_
    refine XS.iconst X12.here hx rfl (hb hby d11_23) ?_
    show Steps p.tables e below (T12.setTop (mkF m 24 #[(vr pa1), (vr pa2)] [(.int 1)])) _
    exact retN X12 hx (t := .boolean) hret0 (by simp) (hb hby d11_24) hr
  · show Q_au11_2 Z wINTEGER wDOUBLE wBOOLEAN wD kwD pa1 pa2 pa3 pk8 pa9 pa10 h0 n0 _ T12.heap _
    exact ⟨rfl, N12, K13, p12_3, p12_4, p12_5, p12_6, p12_0, p12_1, p12_2⟩
theorem ef_au16_0 (m : MethodId) (x0 : Addr) (x1 : Addr)  : entryFrame m #[(.ref x0), (.ref x1)] 10 = mkF m 0 #[(vr x0), (vr x1), .unset, .unset, .unset, .unset, .unset, .unset, .unset, .unset] [] := by first | (simp [entryFrame, mkF, argsToLocals, Value.category]; done) | rfl
theorem pn_com_example_lanc_lanc_model_VariableLayout : plainName "com/example/lanc/lanc/model/VariableLayout" = true := by first | (simp [plainName, overriddenIn]; done) | decide +kernel
theorem d16_0 : decode prog_105_method_1_code 0 = .ok (.aload_n 0, 1) := by decide +kernel
theorem d16_1 : decode prog_105_method_1_code 1 = .ok (.invokespecial 1, 3) := by decide +kernel
theorem d16_4 : decode prog_105_method_1_code 4 = .ok (.aload_n 1, 1) := by decide +kernel
theorem d16_5 : decode prog_105_method_1_code 5 = .ok (.invokeinterface 7 1, 5) := by decide +kernel
theorem ef_au17_0 (m : MethodId) (x0 : Addr)  : entryFrame m #[(.ref x0)] 1 = mkF m 0 #[(vr x0)] [] := by first | (simp [entryFrame, mkF, argsToLocals, Value.category]; done) | rfl
theorem d17_0 : decode jdk_38_method_8_code 0 = .ok (.aload_n 0, 1) := by decide +kernel
theorem d17_1 : decode jdk_38_method_8_code 1 = .ok (.getfield 48, 3) := by decide +kernel
theorem d17_4 : decode jdk_38_method_8_code 4 = .ok (.ireturn, 1) := by decide +kernel
def Q_au17_0 (Z : State) (wINTEGER : Addr) (wDOUBLE : Addr) (wBOOLEAN : Addr) (wD : Addr) (kwD : ClassId) (pa1 : Addr) (h0 : Heap) (n0 : Nat) (v : Option Value) (h : Heap) (L : List Loc) : Prop := v = some (.int 3) ∧ Fr n0 L ∧ h = h0
theorem au17_0 (l : Launch) (Z : State) (a0 : Array Value) (hw : ∀ d ∈ tables_1, d.before a0 Z = true) (ws : List Jvm.Cond) (wINTEGER : Addr) (wDOUBLE : Addr) (wBOOLEAN : Addr) (wD : Addr) (kwD : ClassId) (hS : SS Z wINTEGER wDOUBLE wBOOLEAN wD kwD) (pa1 : Addr) (h0 : Heap) (n0 : Nat) (O0 : Old Z n0 h0) (P3 : Fld Z h0 pa1 s2n "size" "I" (.int 3)) :
    MetB l M17 jdk_38_method_8_code 1 (some .int) ws (rmk 0 0 0 0) Z h0 #[(.ref pa1)] (Q_au17_0 Z wINTEGER wDOUBLE wBOOLEAN wD kwD pa1 h0 n0) := by
  refine own_body (plainFor_of_name pn_java_util_ArrayList) ?_
  intro p e s m below meth c s₁ hx hby hml hown hnm hret0 hlk0 hZ X0 e0
  have N0 := Fr.nil n0
  have pre0 : ∀ t, Steps p.tables e below (s₁.setTop (mkF m 0 #[(vr pa1)] [])) t → Steps p.tables e below (s₁.setTop (entryFrame m #[(.ref pa1)] 1)) t := fun t k => castTop (ef_au17_0 m pa1) k
  have hS0 := hS
  obtain ⟨S_wINTEGER, E_wINTEGER, S_wDOUBLE, E_wDOUBLE, S_wBOOLEAN, E_wBOOLEAN, F_ordinal_wINTEGER, F_ordinal_wDOUBLE, F_ordinal_wBOOLEAN, S_wD, E_wD, V_wD⟩ := hS0
  obtain ⟨T1, X1, e1, st1⟩ := getF X0 hx hZ hown (host := "") (Or.inl (ow hw 88 rfl)) Via.refl e0 P3 (g := (mkF m 1 #[(vr pa1)] [(.ref pa1)])) rfl rfl (hb hby d17_1)
  obtain ⟨fs, hr, hrun, hended, hW, hsame⟩ := X1.leave (v := some (.int 3)) (fun h => by rw [hret0] at h; cases h)
  refine ⟨_, _, pre0 _ ?_, hrun, hended, _, _, rfl, ?_, ⟨_, rfl⟩, hW, hsame.mono (by decide) (by decide)⟩
  · skip
    show Steps p.tables e below (s₁.setTop (mkF m 0 #[(vr pa1)] [])) _
    refine XS.aloadN X0.here hx rfl (hb hby d17_0) rfl rfl ?_
    refine st1 _ ?_
    exact retI X1 hx hret0 (hb hby d17_4) hr
  · show Q_au17_0 Z wINTEGER wDOUBLE wBOOLEAN wD kwD pa1 h0 n0 _ T1.heap _
    rw [e1]
    exact ⟨rfl, N0, rfl⟩
theorem pd_12 : parseMethodDescriptor "()I" = some ⟨[], some .int⟩ := by decide +kernel
theorem d16_10 : decode prog_105_method_1_code 10 = .ok (.istore_n 2, 1) := by decide +kernel
theorem d16_11 : decode prog_105_method_1_code 11 = .ok (.aload_n 0, 1) := by decide +kernel
theorem d16_12 : decode prog_105_method_1_code 12 = .ok (.iload_n 2, 1) := by decide +kernel
theorem d16_13 : decode prog_105_method_1_code 13 = .ok (.newarray .int, 2) := by decide +kernel
theorem d16_15 : decode prog_105_method_1_code 15 = .ok (.putfield 13, 3) := by decide +kernel
theorem d16_18 : decode prog_105_method_1_code 18 = .ok (.aload_n 0, 1) := by decide +kernel
theorem d16_19 : decode prog_105_method_1_code 19 = .ok (.iload_n 2, 1) := by decide +kernel
theorem d16_20 : decode prog_105_method_1_code 20 = .ok (.newarray .int, 2) := by decide +kernel
theorem d16_22 : decode prog_105_method_1_code 22 = .ok (.putfield 19, 3) := by decide +kernel
theorem d16_25 : decode prog_105_method_1_code 25 = .ok (.aload_n 0, 1) := by decide +kernel
theorem d16_26 : decode prog_105_method_1_code 26 = .ok (.iload_n 2, 1) := by decide +kernel
theorem d16_27 : decode prog_105_method_1_code 27 = .ok (.newarray .int, 2) := by decide +kernel
theorem d16_29 : decode prog_105_method_1_code 29 = .ok (.putfield 22, 3) := by decide +kernel
theorem d16_32 : decode prog_105_method_1_code 32 = .ok (.aload_n 0, 1) := by decide +kernel
theorem d16_33 : decode prog_105_method_1_code 33 = .ok (.iload_n 2, 1) := by decide +kernel
theorem d16_34 : decode prog_105_method_1_code 34 = .ok (.newarray .long, 2) := by decide +kernel
theorem d16_36 : decode prog_105_method_1_code 36 = .ok (.putfield 25, 3) := by decide +kernel
theorem d16_39 : decode prog_105_method_1_code 39 = .ok (.iconst 1, 1) := by decide +kernel
theorem d16_40 : decode prog_105_method_1_code 40 = .ok (.istore_n 3, 1) := by decide +kernel
theorem d16_41 : decode prog_105_method_1_code 41 = .ok (.iconst 0, 1) := by decide +kernel
theorem d16_42 : decode prog_105_method_1_code 42 = .ok (.istore 4, 2) := by decide +kernel
theorem d16_44 : decode prog_105_method_1_code 44 = .ok (.iconst 0, 1) := by decide +kernel
theorem d16_45 : decode prog_105_method_1_code 45 = .ok (.istore 5, 2) := by decide +kernel
theorem d16_47 : decode prog_105_method_1_code 47 = .ok (.iload 5, 2) := by decide +kernel
theorem d16_49 : decode prog_105_method_1_code 49 = .ok (.iload_n 2, 1) := by decide +kernel
theorem d16_50 : decode prog_105_method_1_code 50 = .ok (.if_icmp .ge 126, 3) := by decide +kernel
theorem d16_53 : decode prog_105_method_1_code 53 = .ok (.aload_n 1, 1) := by decide +kernel
theorem d16_54 : decode prog_105_method_1_code 54 = .ok (.iload 5, 2) := by decide +kernel
theorem d16_56 : decode prog_105_method_1_code 56 = .ok (.invokeinterface 29 2, 5) := by decide +kernel
theorem ef_au18_0 (m : MethodId) (x0 : Addr) (x1 : Int32)  : entryFrame m #[(.ref x0), (.int x1)] 2 = mkF m 0 #[(vr x0), (vi x1)] [] := by first | (simp [entryFrame, mkF, argsToLocals, Value.category]; done) | rfl
theorem d18_0 : decode jdk_38_method_20_code 0 = .ok (.iload_n 1, 1) := by decide +kernel
theorem d18_1 : decode jdk_38_method_20_code 1 = .ok (.aload_n 0, 1) := by decide +kernel
theorem d18_2 : decode jdk_38_method_20_code 2 = .ok (.getfield 48, 3) := by decide +kernel
theorem d18_5 : decode jdk_38_method_20_code 5 = .ok (.invokestatic 118, 3) := by decide +kernel
theorem ef_au19_0 (m : MethodId) (x0 : Int32) (x1 : Int32)  : entryFrame m #[(.int x0), (.int x1)] 2 = mkF m 0 #[(vi x0), (vi x1)] [] := by first | (simp [entryFrame, mkF, argsToLocals, Value.category]; done) | rfl
theorem pn_java_util_Objects : plainName "java/util/Objects" = true := by first | (simp [plainName, overriddenIn]; done) | decide +kernel
theorem d19_0 : decode jdk_31_method_17_code 0 = .ok (.iload_n 0, 1) := by decide +kernel
theorem d19_1 : decode jdk_31_method_17_code 1 = .ok (.iload_n 1, 1) := by decide +kernel
theorem d19_2 : decode jdk_31_method_17_code 2 = .ok (.aconst_null, 1) := by decide +kernel
theorem d19_3 : decode jdk_31_method_17_code 3 = .ok (.invokestatic 105, 3) := by decide +kernel
theorem ef_au20_0 (m : MethodId) (x0 : Int32) (x1 : Int32)  : entryFrame m #[(.int x0), (.int x1), .null] 3 = mkF m 0 #[(vi x0), (vi x1), .val .null] [] := by first | (simp [entryFrame, mkF, argsToLocals, Value.category]; done) | rfl
theorem pn_jdk_internal_util_Preconditions : plainName "jdk/internal/util/Preconditions" = true := by first | (simp [plainName, overriddenIn]; done) | decide +kernel
theorem d20_0 : decode jdk_41_method_11_code 0 = .ok (.iload_n 0, 1) := by decide +kernel
theorem d20_1 : decode jdk_41_method_11_code 1 = .ok (.ifCond .lt 8, 3) := by decide +kernel
theorem d20_4 : decode jdk_41_method_11_code 4 = .ok (.iload_n 0, 1) := by decide +kernel
theorem d20_5 : decode jdk_41_method_11_code 5 = .ok (.iload_n 1, 1) := by decide +kernel
theorem d20_6 : decode jdk_41_method_11_code 6 = .ok (.if_icmp .lt 10, 3) := by decide +kernel
theorem d20_16 : decode jdk_41_method_11_code 16 = .ok (.iload_n 0, 1) := by decide +kernel
theorem d20_17 : decode jdk_41_method_11_code 17 = .ok (.ireturn, 1) := by decide +kernel
def Q_au20_0 (Z : State) (wINTEGER : Addr) (wDOUBLE : Addr) (wBOOLEAN : Addr) (wD : Addr) (kwD : ClassId)  (h0 : Heap) (n0 : Nat) (v : Option Value) (h : Heap) (L : List Loc) : Prop := v = some (.int 0) ∧ Fr n0 L ∧ h = h0
theorem au20_0 (l : Launch) (Z : State) (a0 : Array Value) (hw : ∀ d ∈ tables_1, d.before a0 Z = true) (ws : List Jvm.Cond) (wINTEGER : Addr) (wDOUBLE : Addr) (wBOOLEAN : Addr) (wD : Addr) (kwD : ClassId) (hS : SS Z wINTEGER wDOUBLE wBOOLEAN wD kwD)  (h0 : Heap) (n0 : Nat) (O0 : Old Z n0 h0)  :
    MetB l M18 jdk_41_method_11_code 3 (some .int) ws (rmk 0 0 0 0) Z h0 #[(.int 0), (.int 3), .null] (Q_au20_0 Z wINTEGER wDOUBLE wBOOLEAN wD kwD  h0 n0) := by
  refine own_body (plainFor_of_name pn_jdk_internal_util_Preconditions) ?_
  intro p e s m below meth c s₁ hx hby hml hown hnm hret0 hlk0 hZ X0 e0
  have N0 := Fr.nil n0
  have pre0 : ∀ t, Steps p.tables e below (s₁.setTop (mkF m 0 #[(vi 0), (vi 3), .val .null] [])) t → Steps p.tables e below (s₁.setTop (entryFrame m #[(.int 0), (.int 3), .null] 3)) t := fun t k => castTop (ef_au20_0 m (0 : Int32) (3 : Int32)) k
  have hS0 := hS
  obtain ⟨S_wINTEGER, E_wINTEGER, S_wDOUBLE, E_wDOUBLE, S_wBOOLEAN, E_wBOOLEAN, F_ordinal_wINTEGER, F_ordinal_wDOUBLE, F_ordinal_wBOOLEAN, S_wD, E_wD, V_wD⟩ := hS0
  obtain ⟨fs, hr, hrun, hended, hW, hsame⟩ := X0.leave (v := some (.int 0)) (fun h => by rw [hret0] at h; cases h)
  refine ⟨_, _, pre0 _ ?_, hrun, hended, _, _, rfl, ?_, ⟨_, rfl⟩, hW, hsame.mono (by decide) (by decide)⟩
  · skip
    show Steps p.tables e below (s₁.setTop (mkF m 0 #[(vi 0), (vi 3), .val .null] [])) _
    refine XS.iloadN X0.here hx rfl (hb hby d20_0) rfl ?_
    refine XS.ifNo X0.here hx rfl (hb hby d20_1) rfl ((if0 _ _).trans (flt (by decide : ¬ ((0 : Int32) < (0 : Int32)))).1) ?_
    refine XS.iloadN X0.here hx rfl (hb hby d20_4) rfl ?_
    refine XS.iloadN X0.here hx rfl (hb hby d20_5) rfl ?_
    refine XS.icmpYes X0.here hx rfl (pc0 := 6) (pc' := 16) rfl (hb hby d20_6) rfl (tlt (by decide : (0 : Int32) < (3 : Int32))).1 (by decide) (by decide) ?_
    refine XS.iloadN X0.here hx rfl (hb hby d20_16) rfl ?_
    exact retI X0 hx hret0 (hb hby d20_17) hr
  · show Q_au20_0 Z wINTEGER wDOUBLE wBOOLEAN wD kwD  h0 n0 _ s₁.heap _
    rw [e0]
    exact ⟨rfl, N0, rfl⟩
theorem pd_13 : parseMethodDescriptor "(IILjava/util/function/BiFunction;)I" = some ⟨[.int, .int, (.object "java/util/function/BiFunction")], some .int⟩ := by decide +kernel
theorem d19_6 : decode jdk_31_method_17_code 6 = .ok (.ireturn, 1) := by decide +kernel
def Q_au19_0 (Z : State) (wINTEGER : Addr) (wDOUBLE : Addr) (wBOOLEAN : Addr) (wD : Addr) (kwD : ClassId)  (h0 : Heap) (n0 : Nat) (v : Option Value) (h : Heap) (L : List Loc) : Prop := v = some (.int 0) ∧ Fr n0 L ∧ h = h0
theorem au19_0 (l : Launch) (Z : State) (a0 : Array Value) (hw : ∀ d ∈ tables_1, d.before a0 Z = true) (ws : List Jvm.Cond) (wINTEGER : Addr) (wDOUBLE : Addr) (wBOOLEAN : Addr) (wD : Addr) (kwD : ClassId) (hS : SS Z wINTEGER wDOUBLE wBOOLEAN wD kwD)  (h0 : Heap) (n0 : Nat) (O0 : Old Z n0 h0)  :
    MetB l M19 jdk_31_method_17_code 2 (some .int) ws (rmk 1 0 0 14) Z h0 #[(.int 0), (.int 3)] (Q_au19_0 Z wINTEGER wDOUBLE wBOOLEAN wD kwD  h0 n0) := by
  refine own_body (plainFor_of_name pn_java_util_Objects) ?_
  intro p e s m below meth c s₁ hx hby hml hown hnm hret0 hlk0 hZ X0 e0
  have N0 := Fr.nil n0
  have pre0 : ∀ t, Steps p.tables e below (s₁.setTop (mkF m 0 #[(vi 0), (vi 3)] [])) t → Steps p.tables e below (s₁.setTop (entryFrame m #[(.int 0), (.int 3)] 2)) t := fun t k => castTop (ef_au19_0 m (0 : Int32) (3 : Int32)) k
  have hS0 := hS
  obtain ⟨S_wINTEGER, E_wINTEGER, S_wDOUBLE, E_wDOUBLE, S_wBOOLEAN, E_wBOOLEAN, F_ordinal_wINTEGER, F_ordinal_wDOUBLE, F_ordinal_wBOOLEAN, S_wD, E_wD, V_wD⟩ := hS0
  obtain ⟨_, _, ⟨T1, L1, k1, n1⟩, -, X1, ⟨Lc1, hQ1, l1, y1, z1⟩, st1⟩ := Jvm.LawKit.callS X0 hx (y := M18) hown (mvT hZ (ow hw 150 rfl)) (mvT hZ (ow hw 151 rfl)) (mvT hZ (ow hw 152 rfl)) (mvT hZ (ow hw 153 rfl)) (by decide) (backOf (W := 0) (au20_0 l Z a0 hw [] wINTEGER wDOUBLE wBOOLEAN wD kwD hS  h0 n0 O0 ) hZ (ow hw 153 rfl) (ow hw 152 rfl) (by decide) (by decide)) (g := (mkF m 3 #[(vi 0), (vi 3)] [.null, (.int 3), (.int 0)])) rfl (by rw [hml]; rfl) (argsL := [(.int 0), (.int 3), .null]) (rest := []) (lenOf pd_13 rfl) rfl (by show 2 * 0 + _ ≤ _; exact Nat.le_of_eq rfl) (hb hby d19_3) (fun _ _ => ⟨rfl, e0, (by decide : 0 + 0 ≤ _), (by decide : 0 + 0 ≤ _)⟩)
  dsimp only [Pt.U, Pt.locs, Pt.cells, Pt.slots] at X1 l1 y1 z1 st1 hQ1
  subst y1 z1
  obtain ⟨rfl, Nq1, K1q⟩ := hQ1
  have N1 : Fr n0 L1 := (congrArg (Fr n0) l1).mpr (Fr.app N0 Nq1)
  obtain ⟨fs, hr, hrun, hended, hW, hsame⟩ := X1.leave (v := some (.int 0)) (fun h => by rw [hret0] at h; cases h)
  refine ⟨_, _, pre0 _ ?_, hrun, hended, _, _, rfl, ?_, ⟨_, rfl⟩, hW, hsame.mono (by decide) (by decide)⟩
  · skip
    show Steps p.tables e below (s₁.setTop (mkF m 0 #[(vi 0), (vi 3)] [])) _
    refine XS.iloadN X0.here hx rfl (hb hby d19_0) rfl ?_
    refine XS.iloadN X0.here hx rfl (hb hby d19_1) rfl ?_
    refine XS.aconstNull X0.here hx rfl (hb hby d19_2) ?_
    refine st1 _ ?_
    exact retI X1 hx hret0 (hb hby d19_6) hr
  · show Q_au19_0 Z wINTEGER wDOUBLE wBOOLEAN wD kwD  h0 n0 _ T1.heap _
    rw [K1q]
    exact ⟨rfl, N1, rfl⟩
theorem d18_8 : decode jdk_38_method_20_code 8 = .ok (.pop, 1) := by decide +kernel
theorem d18_9 : decode jdk_38_method_20_code 9 = .ok (.aload_n 0, 1) := by decide +kernel
theorem d18_10 : decode jdk_38_method_20_code 10 = .ok (.iload_n 1, 1) := by decide +kernel
theorem d18_11 : decode jdk_38_method_20_code 11 = .ok (.invokevirtual 123, 3) := by decide +kernel
theorem ef_au21_0 (m : MethodId) (x0 : Addr) (x1 : Int32)  : entryFrame m #[(.ref x0), (.int x1)] 2 = mkF m 0 #[(vr x0), (vi x1)] [] := by first | (simp [entryFrame, mkF, argsToLocals, Value.category]; done) | rfl
theorem d21_0 : decode jdk_38_method_18_code 0 = .ok (.aload_n 0, 1) := by decide +kernel
theorem d21_1 : decode jdk_38_method_18_code 1 = .ok (.getfield 9, 3) := by decide +kernel
theorem d21_4 : decode jdk_38_method_18_code 4 = .ok (.iload_n 1, 1) := by decide +kernel
theorem d21_5 : decode jdk_38_method_18_code 5 = .ok (.aaload, 1) := by decide +kernel
theorem d21_6 : decode jdk_38_method_18_code 6 = .ok (.areturn, 1) := by decide +kernel
def Q_au21_0 (Z : State) (wINTEGER : Addr) (wDOUBLE : Addr) (wBOOLEAN : Addr) (wD : Addr) (kwD : ClassId) (pa1 : Addr) (pa2 : Addr) (pk3 : ClassId) (pa4 : Addr) (pa5 : Addr) (pa6 : Addr) (h0 : Heap) (n0 : Nat) (v : Option Value) (h : Heap) (L : List Loc) : Prop := v = some (.ref pa4) ∧ Fr n0 L ∧ h = h0
theorem au21_0 (l : Launch) (Z : State) (a0 : Array Value) (hw : ∀ d ∈ tables_1, d.before a0 Z = true) (ws : List Jvm.Cond) (wINTEGER : Addr) (wDOUBLE : Addr) (wBOOLEAN : Addr) (wD : Addr) (kwD : ClassId) (hS : SS Z wINTEGER wDOUBLE wBOOLEAN wD kwD) (pa1 : Addr) (pa2 : Addr) (pk3 : ClassId) (pa4 : Addr) (pa5 : Addr) (pa6 : Addr) (h0 : Heap) (n0 : Nat) (O0 : Old Z n0 h0) (P2 : Fld Z h0 pa1 s2n "elementData" s3n (.ref pa2)) (P4 : Arv Z h0 pa2 pk3 (.object s4n) (10 : Int32) ([(.ref pa4), (.ref pa5), (.ref pa6), .null, .null, .null, .null, .null, .null, .null]) .null) :
    MetB l M20 jdk_38_method_18_code 2 (some (.object s4n)) ws (rmk 0 0 0 0) Z h0 #[(.ref pa1), (.int 0)] (Q_au21_0 Z wINTEGER wDOUBLE wBOOLEAN wD kwD pa1 pa2 pk3 pa4 pa5 pa6 h0 n0) := by
  refine own_body (plainFor_of_name pn_java_util_ArrayList) ?_
  intro p e s m below meth c s₁ hx hby hml hown hnm hret0 hlk0 hZ X0 e0
  have N0 := Fr.nil n0
  have pre0 : ∀ t, Steps p.tables e below (s₁.setTop (mkF m 0 #[(vr pa1), (vi 0)] [])) t → Steps p.tables e below (s₁.setTop (entryFrame m #[(.ref pa1), (.int 0)] 2)) t := fun t k => castTop (ef_au21_0 m pa1 (0 : Int32)) k
  have hS0 := hS
  obtain ⟨S_wINTEGER, E_wINTEGER, S_wDOUBLE, E_wDOUBLE, S_wBOOLEAN, E_wBOOLEAN, F_ordinal_wINTEGER, F_ordinal_wDOUBLE, F_ordinal_wBOOLEAN, S_wD, E_wD, V_wD⟩ := hS0
  obtain ⟨T1, X1, e1, st1⟩ := getF X0 hx hZ hown (host := "") (Or.inl (ow hw 37 rfl)) Via.refl e0 P2 (g := (mkF m 1 #[(vr pa1), (vi 0)] [(.ref pa1)])) rfl rfl (hb hby d21_1)
  obtain ⟨cl2, Ar2, qc2, Sz2, Nn2, Ha2, Gg2⟩ := (id P4)
  have hin2 : ¬ ((0 : Int32) < 0 ∨ cl2.slots.size ≤ ((0 : Int32)).toNatClampNeg) := inb_of Sz2 ⟨by decide, by decide⟩
  have hat2 : cl2.slots[((0 : Int32)).toNatClampNeg]? = some (.ref pa4) := Ha2.at hin2 rfl
  obtain ⟨fs, hr, hrun, hended, hW, hsame⟩ := X1.leave (v := some (.ref pa4)) (fun h => by rw [hret0] at h; cases h)
  refine ⟨_, _, pre0 _ ?_, hrun, hended, _, _, rfl, ?_, ⟨_, rfl⟩, hW, hsame.mono (by decide) (by decide)⟩
  · skip
    show Steps p.tables e below (s₁.setTop (mkF m 0 #[(vr pa1), (vi 0)] [])) _
    refine XS.aloadN X0.here hx rfl (hb hby d21_0) rfl rfl ?_
    refine st1 _ ?_
    refine XS.iloadN X1.here hx rfl (hb hby d21_4) rfl ?_
    refine X1.aaload hx (j := (0 : Int32)) (v := (.ref pa4)) (by rw [e1]; exact Ar2.1) (State.isArrayOf_alike hZ.alike Ar2.2.1) rfl Ar2.2.2 hin2 hat2 (g := (mkF m 5 #[(vr pa1), (vi 0)] [(.int 0), (.ref pa2)])) rfl rfl (hb hby d21_5) _ ?_
    jvm_step X1.here [X1.here.top, hx, (hb hby d21_6), X1.method', hret0, Value.isRef, FieldType.isReference]
    first | (intro acts; rw [hr _ acts rfl rfl rfl]) | rw [hr _ _ rfl rfl rfl]
    exact Steps.refl _
  · show Q_au21_0 Z wINTEGER wDOUBLE wBOOLEAN wD kwD pa1 pa2 pk3 pa4 pa5 pa6 h0 n0 _ T1.heap _
    rw [e1]
    exact ⟨rfl, N0, rfl⟩
theorem pd_14 : parseMethodDescriptor "(I)Ljava/lang/Object;" = some ⟨[.int], some (.object "java/lang/Object")⟩ := by decide +kernel
theorem d18_14 : decode jdk_38_method_20_code 14 = .ok (.areturn, 1) := by decide +kernel
def Q_au18_0 (Z : State) (wINTEGER : Addr) (wDOUBLE : Addr) (wBOOLEAN : Addr) (wD : Addr) (kwD : ClassId) (pa1 : Addr) (pa2 : Addr) (pk3 : ClassId) (pa4 : Addr) (pa5 : Addr) (pa6 : Addr) (h0 : Heap) (n0 : Nat) (v : Option Value) (h : Heap) (L : List Loc) : Prop := v = some (.ref pa4) ∧ Fr n0 L ∧ h = h0
theorem au18_0 (l : Launch) (Z : State) (a0 : Array Value) (hw : ∀ d ∈ tables_1, d.before a0 Z = true) (ws : List Jvm.Cond) (wINTEGER : Addr) (wDOUBLE : Addr) (wBOOLEAN : Addr) (wD : Addr) (kwD : ClassId) (hS : SS Z wINTEGER wDOUBLE wBOOLEAN wD kwD) (pa1 : Addr) (pa2 : Addr) (pk3 : ClassId) (pa4 : Addr) (pa5 : Addr) (pa6 : Addr) (h0 : Heap) (n0 : Nat) (O0 : Old Z n0 h0) (P0 : Exa Z h0 pa1 s2n) (P2 : Fld Z h0 pa1 s2n "elementData" s3n (.ref pa2)) (P3 : Fld Z h0 pa1 s2n "size" "I" (.int 3)) (P4 : Arv Z h0 pa2 pk3 (.object s4n) (10 : Int32) ([(.ref pa4), (.ref pa5), (.ref pa6), .null, .null, .null, .null, .null, .null, .null]) .null) :
    MetB l M21 jdk_38_method_20_code 2 (some (.object s4n)) ws (rmk 2 0 0 27) Z h0 #[(.ref pa1), (.int 0)] (Q_au18_0 Z wINTEGER wDOUBLE wBOOLEAN wD kwD pa1 pa2 pk3 pa4 pa5 pa6 h0 n0) := by
  refine own_body (plainFor_of_name pn_java_util_ArrayList) ?_
  intro p e s m below meth c s₁ hx hby hml hown hnm hret0 hlk0 hZ X0 e0
  have N0 := Fr.nil n0
  have pre0 : ∀ t, Steps p.tables e below (s₁.setTop (mkF m 0 #[(vr pa1), (vi 0)] [])) t → Steps p.tables e below (s₁.setTop (entryFrame m #[(.ref pa1), (.int 0)] 2)) t := fun t k => castTop (ef_au18_0 m pa1 (0 : Int32)) k
  have hS0 := hS
  obtain ⟨S_wINTEGER, E_wINTEGER, S_wDOUBLE, E_wDOUBLE, S_wBOOLEAN, E_wBOOLEAN, F_ordinal_wINTEGER, F_ordinal_wDOUBLE, F_ordinal_wBOOLEAN, S_wD, E_wD, V_wD⟩ := hS0
  obtain ⟨T1, X1, e1, st1⟩ := getF X0 hx hZ hown (host := "") (Or.inl (ow hw 88 rfl)) Via.refl e0 P3 (g := (mkF m 2 #[(vr pa1), (vi 0)] [(.ref pa1), (.int 0)])) rfl rfl (hb hby d18_2)
  obtain ⟨_, _, ⟨T2, L2, k2, n2⟩, -, X2, ⟨Lc2, hQ2, l2, y2, z2⟩, st2⟩ := Jvm.LawKit.callS X1 hx (y := M19) hown (mvT hZ (ow hw 146 rfl)) (mvT hZ (ow hw 147 rfl)) (mvT hZ (ow hw 148 rfl)) (mvT hZ (ow hw 149 rfl)) (by decide) (backOf (W := 0) (au19_0 l Z a0 hw [] wINTEGER wDOUBLE wBOOLEAN wD kwD hS  h0 n0 O0 ) hZ (ow hw 149 rfl) (ow hw 148 rfl) (by decide) (by decide)) (g := (mkF m 5 #[(vr pa1), (vi 0)] [(.int 3), (.int 0)])) rfl (by rw [hml]; rfl) (argsL := [(.int 0), (.int 3)]) (rest := []) (lenOf pd_7 rfl) rfl (by show 2 * 0 + _ ≤ _; exact Nat.le_of_eq rfl) (hb hby d18_5) (fun _ _ => ⟨rfl, e1, (by decide : 0 + 0 ≤ _), (by decide : 0 + 0 ≤ _)⟩)
  dsimp only [Pt.U, Pt.locs, Pt.cells, Pt.slots] at X2 l2 y2 z2 st2 hQ2
  subst y2 z2
  obtain ⟨rfl, Nq2, K2q⟩ := hQ2
  have N2 : Fr n0 L2 := (congrArg (Fr n0) l2).mpr (Fr.app N0 Nq2)
  obtain ⟨cq3, kq3, q3a, q3b, q3c⟩ := isOf hZ K2q P0
  obtain ⟨_, _, ⟨T3, L3, k3, n3⟩, -, X3, ⟨Lc3, hQ3, l3, y3, z3⟩, st3⟩ := X2.virtualBack hx (y := M20) (z := M20) hown (mvT hZ (ow hw 154 rfl)) (mvT hZ (ow hw 155 rfl)) (notFace_of_selects (args := #[]) (mvT hZ (ow hw 157 rfl))) (mvT hZ (ow hw 157 rfl)) (mvT hZ (ow hw 156 rfl)) (by decide) (backOf (W := 0) (au21_0 l Z a0 hw [] wINTEGER wDOUBLE wBOOLEAN wD kwD hS pa1 pa2 pk3 pa4 pa5 pa6 h0 n0 O0 P2 P4) hZ (ow hw 158 rfl) (ow hw 15 rfl) (by decide) (by decide)) q3a q3c (g := (mkF m 11 #[(vr pa1), (vi 0)] [(.int 0), (.ref pa1)])) rfl (by rw [hml]; rfl) (Steps.refl _) (argsL := [(.int 0)]) (rest := []) (lenOf pd_14 rfl) rfl (by show 2 * 0 + _ ≤ _; exact Nat.le_of_eq rfl) (hb hby d18_11) (fun _ _ => ⟨rfl, K2q, (by decide : 0 + 0 ≤ _), (by decide : 0 + 0 ≤ _)⟩)
  dsimp only [Pt.U, Pt.locs, Pt.cells, Pt.slots] at X3 l3 y3 z3 st3 hQ3
  subst y3 z3
  obtain ⟨rfl, Nq3, K3q⟩ := hQ3
  have N3 : Fr n0 L3 := (congrArg (Fr n0) l3).mpr (Fr.app N2 Nq3)
  obtain ⟨fs, hr, hrun, hended, hW, hsame⟩ := X3.leave (v := some (.ref pa4)) (fun h => by rw [hret0] at h; cases h)
  refine ⟨_, _, pre0 _ ?_, hrun, hended, _, _, rfl, ?_, ⟨_, rfl⟩, hW, hsame.mono (by decide) (by decide)⟩
  · skip
    show Steps p.tables e below (s₁.setTop (mkF m 0 #[(vr pa1), (vi 0)] [])) _
    refine XS.iloadN X0.here hx rfl (hb hby d18_0) rfl ?_
    refine XS.aloadN X0.here hx rfl (hb hby d18_1) rfl rfl ?_
    refine st1 _ ?_
    refine st2 _ ?_
    refine XS.pop X2.here hx rfl (hb hby d18_8) rfl rfl ?_
    refine XS.aloadN X2.here hx rfl (hb hby d18_9) rfl rfl ?_
    refine XS.iloadN X2.here hx rfl (hb hby d18_10) rfl ?_
    refine st3.trans ?_
    jvm_step X3.here [X3.here.top, hx, (hb hby d18_14), X3.method', hret0, Value.isRef, FieldType.isReference]
    first | (intro acts; rw [hr _ acts rfl rfl rfl]) | rw [hr _ _ rfl rfl rfl]
    exact Steps.refl _
  · show Q_au18_0 Z wINTEGER wDOUBLE wBOOLEAN wD kwD pa1 pa2 pk3 pa4 pa5 pa6 h0 n0 _ T3.heap _
    rw [K3q]
    exact ⟨rfl, N3, rfl⟩
theorem d16_61 : decode prog_105_method_1_code 61 = .ok (.checkcast 33, 3) := by decide +kernel
theorem d16_64 : decode prog_105_method_1_code 64 = .ok (.astore 6, 2) := by decide +kernel
theorem d16_66 : decode prog_105_method_1_code 66 = .ok (.aload 6, 2) := by decide +kernel
theorem d16_68 : decode prog_105_method_1_code 68 = .ok (.invokevirtual 35, 3) := by decide +kernel
theorem ef_au22_0 (m : MethodId) (x0 : Addr)  : entryFrame m #[(.ref x0)] 1 = mkF m 0 #[(vr x0)] [] := by first | (simp [entryFrame, mkF, argsToLocals, Value.category]; done) | rfl
theorem d22_0 : decode prog_104_method_9_code 0 = .ok (.aload_n 0, 1) := by decide +kernel
theorem d22_1 : decode prog_104_method_9_code 1 = .ok (.getfield 44, 3) := by decide +kernel
theorem d22_4 : decode prog_104_method_9_code 4 = .ok (.ireturn, 1) := by decide +kernel
def Q_au22_0 (Z : State) (wINTEGER : Addr) (wDOUBLE : Addr) (wBOOLEAN : Addr) (wD : Addr) (kwD : ClassId) (pa1 : Addr) (pi2 : Int32) (h0 : Heap) (n0 : Nat) (v : Option Value) (h : Heap) (L : List Loc) : Prop := v = some (.int pi2) ∧ Fr n0 L ∧ h = h0
theorem au22_0 (l : Launch) (Z : State) (a0 : Array Value) (hw : ∀ d ∈ tables_1, d.before a0 Z = true) (ws : List Jvm.Cond) (wINTEGER : Addr) (wDOUBLE : Addr) (wBOOLEAN : Addr) (wD : Addr) (kwD : ClassId) (hS : SS Z wINTEGER wDOUBLE wBOOLEAN wD kwD) (pa1 : Addr) (pi2 : Int32) (h0 : Heap) (n0 : Nat) (O0 : Old Z n0 h0) (P1 : Fld Z h0 pa1 s5n "high" "I" (.int pi2)) :
    MetB l M22 prog_104_method_9_code 1 (some .int) ws (rmk 0 0 0 0) Z h0 #[(.ref pa1)] (Q_au22_0 Z wINTEGER wDOUBLE wBOOLEAN wD kwD pa1 pi2 h0 n0) := by
  refine own_body (plainFor_of_name pn_com_example_lanc_lanc_model_StateValuations_Variable) ?_
  intro p e s m below meth c s₁ hx hby hml hown hnm hret0 hlk0 hZ X0 e0
  have N0 := Fr.nil n0
  have pre0 : ∀ t, Steps p.tables e below (s₁.setTop (mkF m 0 #[(vr pa1)] [])) t → Steps p.tables e below (s₁.setTop (entryFrame m #[(.ref pa1)] 1)) t := fun t k => castTop (ef_au22_0 m pa1) k
  have hS0 := hS
  obtain ⟨S_wINTEGER, E_wINTEGER, S_wDOUBLE, E_wDOUBLE, S_wBOOLEAN, E_wBOOLEAN, F_ordinal_wINTEGER, F_ordinal_wDOUBLE, F_ordinal_wBOOLEAN, S_wD, E_wD, V_wD⟩ := hS0
  obtain ⟨T1, X1, e1, st1⟩ := getF X0 hx hZ hown (host := "") (Or.inl (ow hw 75 rfl)) Via.refl e0 P1 (g := (mkF m 1 #[(vr pa1)] [(.ref pa1)])) rfl rfl (hb hby d22_1)
  obtain ⟨fs, hr, hrun, hended, hW, hsame⟩ := X1.leave (v := some (.int pi2)) (fun h => by rw [hret0] at h; cases h)
  refine ⟨_, _, pre0 _ ?_, hrun, hended, _, _, rfl, ?_, ⟨_, rfl⟩, hW, hsame.mono (by decide) (by decide)⟩
  · skip
    show Steps p.tables e below (s₁.setTop (mkF m 0 #[(vr pa1)] [])) _
    refine XS.aloadN X0.here hx rfl (hb hby d22_0) rfl rfl ?_
    refine st1 _ ?_
    exact retI X1 hx hret0 (hb hby d22_4) hr
  · show Q_au22_0 Z wINTEGER wDOUBLE wBOOLEAN wD kwD pa1 pi2 h0 n0 _ T1.heap _
    rw [e1]
    exact ⟨rfl, N0, rfl⟩
theorem d16_71 : decode prog_105_method_1_code 71 = .ok (.i2l, 1) := by decide +kernel
theorem d16_72 : decode prog_105_method_1_code 72 = .ok (.aload 6, 2) := by decide +kernel
theorem d16_74 : decode prog_105_method_1_code 74 = .ok (.invokevirtual 38, 3) := by decide +kernel
theorem ef_au23_0 (m : MethodId) (x0 : Addr)  : entryFrame m #[(.ref x0)] 1 = mkF m 0 #[(vr x0)] [] := by first | (simp [entryFrame, mkF, argsToLocals, Value.category]; done) | rfl
theorem d23_0 : decode prog_104_method_8_code 0 = .ok (.aload_n 0, 1) := by decide +kernel
theorem d23_1 : decode prog_104_method_8_code 1 = .ok (.getfield 40, 3) := by decide +kernel
theorem d23_4 : decode prog_104_method_8_code 4 = .ok (.ireturn, 1) := by decide +kernel
def Q_au23_0 (Z : State) (wINTEGER : Addr) (wDOUBLE : Addr) (wBOOLEAN : Addr) (wD : Addr) (kwD : ClassId) (pa1 : Addr) (pi3 : Int32) (h0 : Heap) (n0 : Nat) (v : Option Value) (h : Heap) (L : List Loc) : Prop := v = some (.int pi3) ∧ Fr n0 L ∧ h = h0
theorem au23_0 (l : Launch) (Z : State) (a0 : Array Value) (hw : ∀ d ∈ tables_1, d.before a0 Z = true) (ws : List Jvm.Cond) (wINTEGER : Addr) (wDOUBLE : Addr) (wBOOLEAN : Addr) (wD : Addr) (kwD : ClassId) (hS : SS Z wINTEGER wDOUBLE wBOOLEAN wD kwD) (pa1 : Addr) (pi3 : Int32) (h0 : Heap) (n0 : Nat) (O0 : Old Z n0 h0) (P2 : Fld Z h0 pa1 s5n "low" "I" (.int pi3)) :
    MetB l M23 prog_104_method_8_code 1 (some .int) ws (rmk 0 0 0 0) Z h0 #[(.ref pa1)] (Q_au23_0 Z wINTEGER wDOUBLE wBOOLEAN wD kwD pa1 pi3 h0 n0) := by
  refine own_body (plainFor_of_name pn_com_example_lanc_lanc_model_StateValuations_Variable) ?_
  intro p e s m below meth c s₁ hx hby hml hown hnm hret0 hlk0 hZ X0 e0
  have N0 := Fr.nil n0
  have pre0 : ∀ t, Steps p.tables e below (s₁.setTop (mkF m 0 #[(vr pa1)] [])) t → Steps p.tables e below (s₁.setTop (entryFrame m #[(.ref pa1)] 1)) t := fun t k => castTop (ef_au23_0 m pa1) k
  have hS0 := hS
  obtain ⟨S_wINTEGER, E_wINTEGER, S_wDOUBLE, E_wDOUBLE, S_wBOOLEAN, E_wBOOLEAN, F_ordinal_wINTEGER, F_ordinal_wDOUBLE, F_ordinal_wBOOLEAN, S_wD, E_wD, V_wD⟩ := hS0
  obtain ⟨T1, X1, e1, st1⟩ := getF X0 hx hZ hown (host := "") (Or.inl (ow hw 73 rfl)) Via.refl e0 P2 (g := (mkF m 1 #[(vr pa1)] [(.ref pa1)])) rfl rfl (hb hby d23_1)
  obtain ⟨fs, hr, hrun, hended, hW, hsame⟩ := X1.leave (v := some (.int pi3)) (fun h => by rw [hret0] at h; cases h)
  refine ⟨_, _, pre0 _ ?_, hrun, hended, _, _, rfl, ?_, ⟨_, rfl⟩, hW, hsame.mono (by decide) (by decide)⟩
  · skip
    show Steps p.tables e below (s₁.setTop (mkF m 0 #[(vr pa1)] [])) _
    refine XS.aloadN X0.here hx rfl (hb hby d23_0) rfl rfl ?_
    refine st1 _ ?_
    exact retI X1 hx hret0 (hb hby d23_4) hr
  · show Q_au23_0 Z wINTEGER wDOUBLE wBOOLEAN wD kwD pa1 pi3 h0 n0 _ T1.heap _
    rw [e1]
    exact ⟨rfl, N0, rfl⟩
theorem d16_77 : decode prog_105_method_1_code 77 = .ok (.i2l, 1) := by decide +kernel
theorem d16_78 : decode prog_105_method_1_code 78 = .ok (.lsub, 1) := by decide +kernel
theorem d16_79 : decode prog_105_method_1_code 79 = .ok (.lstore 7, 2) := by decide +kernel
theorem d16_81 : decode prog_105_method_1_code 81 = .ok (.bipush 64, 2) := by decide +kernel
theorem d16_83 : decode prog_105_method_1_code 83 = .ok (.lload 7, 2) := by decide +kernel
theorem d16_85 : decode prog_105_method_1_code 85 = .ok (.invokestatic 42, 3) := by decide +kernel
theorem pd_15 : parseMethodDescriptor "(J)I" = some ⟨[.long], some .int⟩ := by decide +kernel
theorem d16_88 : decode prog_105_method_1_code 88 = .ok (.isub, 1) := by decide +kernel
theorem d16_89 : decode prog_105_method_1_code 89 = .ok (.istore 9, 2) := by decide +kernel
theorem d16_91 : decode prog_105_method_1_code 91 = .ok (.iload 4, 2) := by decide +kernel
theorem d16_93 : decode prog_105_method_1_code 93 = .ok (.iload 9, 2) := by decide +kernel
theorem d16_95 : decode prog_105_method_1_code 95 = .ok (.iadd, 1) := by decide +kernel
theorem d16_96 : decode prog_105_method_1_code 96 = .ok (.bipush 64, 2) := by decide +kernel
theorem d16_98 : decode prog_105_method_1_code 98 = .ok (.if_icmp .le 9, 3) := by decide +kernel
theorem d16_107 : decode prog_105_method_1_code 107 = .ok (.aload_n 0, 1) := by decide +kernel
theorem d16_108 : decode prog_105_method_1_code 108 = .ok (.getfield 13, 3) := by decide +kernel
theorem d16_111 : decode prog_105_method_1_code 111 = .ok (.iload 5, 2) := by decide +kernel
theorem d16_113 : decode prog_105_method_1_code 113 = .ok (.aload 6, 2) := by decide +kernel
theorem d16_115 : decode prog_105_method_1_code 115 = .ok (.invokevirtual 38, 3) := by decide +kernel
theorem d16_118 : decode prog_105_method_1_code 118 = .ok (.iastore, 1) := by decide +kernel
theorem d16_119 : decode prog_105_method_1_code 119 = .ok (.aload_n 0, 1) := by decide +kernel
theorem d16_120 : decode prog_105_method_1_code 120 = .ok (.getfield 19, 3) := by decide +kernel
theorem d16_123 : decode prog_105_method_1_code 123 = .ok (.iload 5, 2) := by decide +kernel
theorem d16_125 : decode prog_105_method_1_code 125 = .ok (.iload_n 3, 1) := by decide +kernel
theorem d16_126 : decode prog_105_method_1_code 126 = .ok (.iconst 1, 1) := by decide +kernel
theorem d16_127 : decode prog_105_method_1_code 127 = .ok (.isub, 1) := by decide +kernel
theorem d16_128 : decode prog_105_method_1_code 128 = .ok (.iastore, 1) := by decide +kernel
theorem d16_129 : decode prog_105_method_1_code 129 = .ok (.aload_n 0, 1) := by decide +kernel
theorem d16_130 : decode prog_105_method_1_code 130 = .ok (.getfield 22, 3) := by decide +kernel
theorem d16_133 : decode prog_105_method_1_code 133 = .ok (.iload 5, 2) := by decide +kernel
theorem d16_135 : decode prog_105_method_1_code 135 = .ok (.iload 4, 2) := by decide +kernel
theorem d16_137 : decode prog_105_method_1_code 137 = .ok (.iastore, 1) := by decide +kernel
theorem d16_138 : decode prog_105_method_1_code 138 = .ok (.aload_n 0, 1) := by decide +kernel
theorem d16_139 : decode prog_105_method_1_code 139 = .ok (.getfield 25, 3) := by decide +kernel
theorem d16_142 : decode prog_105_method_1_code 142 = .ok (.iload 5, 2) := by decide +kernel
theorem d16_144 : decode prog_105_method_1_code 144 = .ok (.iload 9, 2) := by decide +kernel
theorem d16_146 : decode prog_105_method_1_code 146 = .ok (.ifCond .ne 7, 3) := by decide +kernel
theorem d16_149 : decode prog_105_method_1_code 149 = .ok (.lconst 0, 1) := by decide +kernel
theorem d16_150 : decode prog_105_method_1_code 150 = .ok (.goto 12, 3) := by decide +kernel
theorem d16_153 : decode prog_105_method_1_code 153 = .ok (.ldc2_w 46, 3) := by decide +kernel
theorem d16_156 : decode prog_105_method_1_code 156 = .ok (.bipush 64, 2) := by decide +kernel
theorem d16_158 : decode prog_105_method_1_code 158 = .ok (.iload 9, 2) := by decide +kernel
theorem d16_160 : decode prog_105_method_1_code 160 = .ok (.isub, 1) := by decide +kernel
theorem d16_161 : decode prog_105_method_1_code 161 = .ok (.lushr, 1) := by decide +kernel
theorem d16_162 : decode prog_105_method_1_code 162 = .ok (.lastore, 1) := by decide +kernel
theorem d16_163 : decode prog_105_method_1_code 163 = .ok (.iload 4, 2) := by decide +kernel
theorem d16_165 : decode prog_105_method_1_code 165 = .ok (.iload 9, 2) := by decide +kernel
theorem d16_167 : decode prog_105_method_1_code 167 = .ok (.iadd, 1) := by decide +kernel
theorem d16_168 : decode prog_105_method_1_code 168 = .ok (.istore 4, 2) := by decide +kernel
theorem d16_170 : decode prog_105_method_1_code 170 = .ok (.iinc 5 1, 3) := by decide +kernel
theorem d16_173 : decode prog_105_method_1_code 173 = .ok (.goto (-126), 3) := by decide +kernel
theorem ef_au18_1 (m : MethodId) (x0 : Addr) (x1 : Int32)  : entryFrame m #[(.ref x0), (.int x1)] 2 = mkF m 0 #[(vr x0), (vi x1)] [] := by first | (simp [entryFrame, mkF, argsToLocals, Value.category]; done) | rfl
theorem ef_au19_1 (m : MethodId) (x0 : Int32) (x1 : Int32)  : entryFrame m #[(.int x0), (.int x1)] 2 = mkF m 0 #[(vi x0), (vi x1)] [] := by first | (simp [entryFrame, mkF, argsToLocals, Value.category]; done) | rfl
theorem ef_au20_1 (m : MethodId) (x0 : Int32) (x1 : Int32)  : entryFrame m #[(.int x0), (.int x1), .null] 3 = mkF m 0 #[(vi x0), (vi x1), .val .null] [] := by first | (simp [entryFrame, mkF, argsToLocals, Value.category]; done) | rfl
def Q_au20_1 (Z : State) (wINTEGER : Addr) (wDOUBLE : Addr) (wBOOLEAN : Addr) (wD : Addr) (kwD : ClassId)  (h0 : Heap) (n0 : Nat) (v : Option Value) (h : Heap) (L : List Loc) : Prop := v = some (.int 1) ∧ Fr n0 L ∧ h = h0
theorem au20_1 (l : Launch) (Z : State) (a0 : Array Value) (hw : ∀ d ∈ tables_1, d.before a0 Z = true) (ws : List Jvm.Cond) (wINTEGER : Addr) (wDOUBLE : Addr) (wBOOLEAN : Addr) (wD : Addr) (kwD : ClassId) (hS : SS Z wINTEGER wDOUBLE wBOOLEAN wD kwD)  (h0 : Heap) (n0 : Nat) (O0 : Old Z n0 h0)  :
    MetB l M18 jdk_41_method_11_code 3 (some .int) ws (rmk 0 0 0 0) Z h0 #[(.int 1), (.int 3), .null] (Q_au20_1 Z wINTEGER wDOUBLE wBOOLEAN wD kwD  h0 n0) := by
  refine own_body (plainFor_of_name pn_jdk_internal_util_Preconditions) ?_
  intro p e s m below meth c s₁ hx hby hml hown hnm hret0 hlk0 hZ X0 e0
  have N0 := Fr.nil n0
  have pre0 : ∀ t, Steps p.tables e below (s₁.setTop (mkF m 0 #[(vi 1), (vi 3), .val .null] [])) t → Steps p.tables e below (s₁.setTop (entryFrame m #[(.int 1), (.int 3), .null] 3)) t := fun t k => castTop (ef_au20_1 m (1 : Int32) (3 : Int32)) k
  have hS0 := hS
  obtain ⟨S_wINTEGER, E_wINTEGER, S_wDOUBLE, E_wDOUBLE, S_wBOOLEAN, E_wBOOLEAN, F_ordinal_wINTEGER, F_ordinal_wDOUBLE, F_ordinal_wBOOLEAN, S_wD, E_wD, V_wD⟩ := hS0
  obtain ⟨fs, hr, hrun, hended, hW, hsame⟩ := X0.leave (v := some (.int 1)) (fun h => by rw [hret0] at h; cases h)
  refine ⟨_, _, pre0 _ ?_, hrun, hended, _, _, rfl, ?_, ⟨_, rfl⟩, hW, hsame.mono (by decide) (by decide)⟩
  · skip
    show Steps p.tables e below (s₁.setTop (mkF m 0 #[(vi 1), (vi 3), .val .null] [])) _
    refine XS.iloadN X0.here hx rfl (hb hby d20_0) rfl ?_
    refine XS.ifNo X0.here hx rfl (hb hby d20_1) rfl ((if0 _ _).trans (flt (by decide : ¬ ((1 : Int32) < (0 : Int32)))).1) ?_
    refine XS.iloadN X0.here hx rfl (hb hby d20_4) rfl ?_
    refine XS.iloadN X0.here hx rfl (hb hby d20_5) rfl ?_
    refine XS.icmpYes X0.here hx rfl (pc0 := 6) (pc' := 16) rfl (hb hby d20_6) rfl (tlt (by decide : (1 : Int32) < (3 : Int32))).1 (by decide) (by decide) ?_
    refine XS.iloadN X0.here hx rfl (hb hby d20_16) rfl ?_
    exact retI X0 hx hret0 (hb hby d20_17) hr
  · show Q_au20_1 Z wINTEGER wDOUBLE wBOOLEAN wD kwD  h0 n0 _ s₁.heap _
    rw [e0]
    exact ⟨rfl, N0, rfl⟩
def Q_au19_1 (Z : State) (wINTEGER : Addr) (wDOUBLE : Addr) (wBOOLEAN : Addr) (wD : Addr) (kwD : ClassId)  (h0 : Heap) (n0 : Nat) (v : Option Value) (h : Heap) (L : List Loc) : Prop := v = some (.int 1) ∧ Fr n0 L ∧ h = h0
theorem au19_1 (l : Launch) (Z : State) (a0 : Array Value) (hw : ∀ d ∈ tables_1, d.before a0 Z = true) (ws : List Jvm.Cond) (wINTEGER : Addr) (wDOUBLE : Addr) (wBOOLEAN : Addr) (wD : Addr) (kwD : ClassId) (hS : SS Z wINTEGER wDOUBLE wBOOLEAN wD kwD)  (h0 : Heap) (n0 : Nat) (O0 : Old Z n0 h0)  :
    MetB l M19 jdk_31_method_17_code 2 (some .int) ws (rmk 1 0 0 14) Z h0 #[(.int 1), (.int 3)] (Q_au19_1 Z wINTEGER wDOUBLE wBOOLEAN wD kwD  h0 n0) := by
  refine own_body (plainFor_of_name pn_java_util_Objects) ?_
  intro p e s m below meth c s₁ hx hby hml hown hnm hret0 hlk0 hZ X0 e0
  have N0 := Fr.nil n0
  have pre0 : ∀ t, Steps p.tables e below (s₁.setTop (mkF m 0 #[(vi 1), (vi 3)] [])) t → Steps p.tables e below (s₁.setTop (entryFrame m #[(.int 1), (.int 3)] 2)) t := fun t k => castTop (ef_au19_1 m (1 : Int32) (3 : Int32)) k
  have hS0 := hS
  obtain ⟨S_wINTEGER, E_wINTEGER, S_wDOUBLE, E_wDOUBLE, S_wBOOLEAN, E_wBOOLEAN, F_ordinal_wINTEGER, F_ordinal_wDOUBLE, F_ordinal_wBOOLEAN, S_wD, E_wD, V_wD⟩ := hS0
  obtain ⟨_, _, ⟨T1, L1, k1, n1⟩, -, X1, ⟨Lc1, hQ1, l1, y1, z1⟩, st1⟩ := Jvm.LawKit.callS X0 hx (y := M18) hown (mvT hZ (ow hw 150 rfl)) (mvT hZ (ow hw 151 rfl)) (mvT hZ (ow hw 152 rfl)) (mvT hZ (ow hw 153 rfl)) (by decide) (backOf (W := 0) (au20_1 l Z a0 hw [] wINTEGER wDOUBLE wBOOLEAN wD kwD hS  h0 n0 O0 ) hZ (ow hw 153 rfl) (ow hw 152 rfl) (by decide) (by decide)) (g := (mkF m 3 #[(vi 1), (vi 3)] [.null, (.int 3), (.int 1)])) rfl (by rw [hml]; rfl) (argsL := [(.int 1), (.int 3), .null]) (rest := []) (lenOf pd_13 rfl) rfl (by show 2 * 0 + _ ≤ _; exact Nat.le_of_eq rfl) (hb hby d19_3) (fun _ _ => ⟨rfl, e0, (by decide : 0 + 0 ≤ _), (by decide : 0 + 0 ≤ _)⟩)
  dsimp only [Pt.U, Pt.locs, Pt.cells, Pt.slots] at X1 l1 y1 z1 st1 hQ1
  subst y1 z1
  obtain ⟨rfl, Nq1, K1q⟩ := hQ1
  have N1 : Fr n0 L1 := (congrArg (Fr n0) l1).mpr (Fr.app N0 Nq1)
  obtain ⟨fs, hr, hrun, hended, hW, hsame⟩ := X1.leave (v := some (.int 1)) (fun h => by rw [hret0] at h; cases h)
  refine ⟨_, _, pre0 _ ?_, hrun, hended, _, _, rfl, ?_, ⟨_, rfl⟩, hW, hsame.mono (by decide) (by decide)⟩
  · skip
    show Steps p.tables e below (s₁.setTop (mkF m 0 #[(vi 1), (vi 3)] [])) _
    refine XS.iloadN X0.here hx rfl (hb hby d19_0) rfl ?_
    refine XS.iloadN X0.here hx rfl (hb hby d19_1) rfl ?_
    refine XS.aconstNull X0.here hx rfl (hb hby d19_2) ?_
    refine st1 _ ?_
    exact retI X1 hx hret0 (hb hby d19_6) hr
  · show Q_au19_1 Z wINTEGER wDOUBLE wBOOLEAN wD kwD  h0 n0 _ T1.heap _
    rw [K1q]
    exact ⟨rfl, N1, rfl⟩
theorem ef_au21_1 (m : MethodId) (x0 : Addr) (x1 : Int32)  : entryFrame m #[(.ref x0), (.int x1)] 2 = mkF m 0 #[(vr x0), (vi x1)] [] := by first | (simp [entryFrame, mkF, argsToLocals, Value.category]; done) | rfl
def Q_au21_1 (Z : State) (wINTEGER : Addr) (wDOUBLE : Addr) (wBOOLEAN : Addr) (wD : Addr) (kwD : ClassId) (pa1 : Addr) (pa2 : Addr) (pk3 : ClassId) (pa4 : Addr) (pa5 : Addr) (pa6 : Addr) (h0 : Heap) (n0 : Nat) (v : Option Value) (h : Heap) (L : List Loc) : Prop := v = some (.ref pa5) ∧ Fr n0 L ∧ h = h0
theorem au21_1 (l : Launch) (Z : State) (a0 : Array Value) (hw : ∀ d ∈ tables_1, d.before a0 Z = true) (ws : List Jvm.Cond) (wINTEGER : Addr) (wDOUBLE : Addr) (wBOOLEAN : Addr) (wD : Addr) (kwD : ClassId) (hS : SS Z wINTEGER wDOUBLE wBOOLEAN wD kwD) (pa1 : Addr) (pa2 : Addr) (pk3 : ClassId) (pa4 : Addr) (pa5 : Addr) (pa6 : Addr) (h0 : Heap) (n0 : Nat) (O0 : Old Z n0 h0) (P2 : Fld Z h0 pa1 s2n "elementData" s3n (.ref pa2)) (P4 : Arv Z h0 pa2 pk3 (.object s4n) (10 : Int32) ([(.ref pa4), (.ref pa5), (.ref pa6), .null, .null, .null, .null, .null, .null, .null]) .null) :
    MetB l M20 jdk_38_method_18_code 2 (some (.object s4n)) ws (rmk 0 0 0 0) Z h0 #[(.ref pa1), (.int 1)] (Q_au21_1 Z wINTEGER wDOUBLE wBOOLEAN wD kwD pa1 pa2 pk3 pa4 pa5 pa6 h0 n0) := by
  refine own_body (plainFor_of_name pn_java_util_ArrayList) ?_
  intro p e s m below meth c s₁ hx hby hml hown hnm hret0 hlk0 hZ X0 e0
  have N0 := Fr.nil n0
  have pre0 : ∀ t, Steps p.tables e below (s₁.setTop (mkF m 0 #[(vr pa1), (vi 1)] [])) t → Steps p.tables e below (s₁.setTop (entryFrame m #[(.ref pa1), (.int 1)] 2)) t := fun t k => castTop (ef_au21_1 m pa1 (1 : Int32)) k
  have hS0 := hS
  obtain ⟨S_wINTEGER, E_wINTEGER, S_wDOUBLE, E_wDOUBLE, S_wBOOLEAN, E_wBOOLEAN, F_ordinal_wINTEGER, F_ordinal_wDOUBLE, F_ordinal_wBOOLEAN, S_wD, E_wD, V_wD⟩ := hS0
  obtain ⟨T1, X1, e1, st1⟩ := getF X0 hx hZ hown (host := "") (Or.inl (ow hw 37 rfl)) Via.refl e0 P2 (g := (mkF m 1 #[(vr pa1), (vi 1)] [(.ref pa1)])) rfl rfl (hb hby d21_1)
  obtain ⟨cl2, Ar2, qc2, Sz2, Nn2, Ha2, Gg2⟩ := (id P4)
  have hin2 : ¬ ((1 : Int32) < 0 ∨ cl2.slots.size ≤ ((1 : Int32)).toNatClampNeg) := inb_of Sz2 ⟨by decide, by decide⟩
  have hat2 : cl2.slots[((1 : Int32)).toNatClampNeg]? = some (.ref pa5) := Ha2.at hin2 rfl
  obtain ⟨fs, hr, hrun, hended, hW, hsame⟩ := X1.leave (v := some (.ref pa5)) (fun h => by rw [hret0] at h; cases h)
  refine ⟨_, _, pre0 _ ?_, hrun, hended, _, _, rfl, ?_, ⟨_, rfl⟩, hW, hsame.mono (by decide) (by decide)⟩
  · skip
    show Steps p.tables e below (s₁.setTop (mkF m 0 #[(vr pa1), (vi 1)] [])) _
    refine XS.aloadN X0.here hx rfl (hb hby d21_0) rfl rfl ?_
    refine st1 _ ?_
    refine XS.iloadN X1.here hx rfl (hb hby d21_4) rfl ?_
    refine X1.aaload hx (j := (1 : Int32)) (v := (.ref pa5)) (by rw [e1]; exact Ar2.1) (State.isArrayOf_alike hZ.alike Ar2.2.1) rfl Ar2.2.2 hin2 hat2 (g := (mkF m 5 #[(vr pa1), (vi 1)] [(.int 1), (.ref pa2)])) rfl rfl (hb hby d21_5) _ ?_
    jvm_step X1.here [X1.here.top, hx, (hb hby d21_6), X1.method', hret0, Value.isRef, FieldType.isReference]
    first | (intro acts; rw [hr _ acts rfl rfl rfl]) | rw [hr _ _ rfl rfl rfl]
    exact Steps.refl _
  · show Q_au21_1 Z wINTEGER wDOUBLE wBOOLEAN wD kwD pa1 pa2 pk3 pa4 pa5 pa6 h0 n0 _ T1.heap _
    rw [e1]
    exact ⟨rfl, N0, rfl⟩
def Q_au18_1 (Z : State) (wINTEGER : Addr) (wDOUBLE : Addr) (wBOOLEAN : Addr) (wD : Addr) (kwD : ClassId) (pa1 : Addr) (pa2 : Addr) (pk3 : ClassId) (pa4 : Addr) (pa5 : Addr) (pa6 : Addr) (h0 : Heap) (n0 : Nat) (v : Option Value) (h : Heap) (L : List Loc) : Prop := v = some (.ref pa5) ∧ Fr n0 L ∧ h = h0
theorem au18_1 (l : Launch) (Z : State) (a0 : Array Value) (hw : ∀ d ∈ tables_1, d.before a0 Z = true) (ws : List Jvm.Cond) (wINTEGER : Addr) (wDOUBLE : Addr) (wBOOLEAN : Addr) (wD : Addr) (kwD : ClassId) (hS : SS Z wINTEGER wDOUBLE wBOOLEAN wD kwD) (pa1 : Addr) (pa2 : Addr) (pk3 : ClassId) (pa4 : Addr) (pa5 : Addr) (pa6 : Addr) (h0 : Heap) (n0 : Nat) (O0 : Old Z n0 h0) (P0 : Exa Z h0 pa1 s2n) (P2 : Fld Z h0 pa1 s2n "elementData" s3n (.ref pa2)) (P3 : Fld Z h0 pa1 s2n "size" "I" (.int 3)) (P4 : Arv Z h0 pa2 pk3 (.object s4n) (10 : Int32) ([(.ref pa4), (.ref pa5), (.ref pa6), .null, .null, .null, .null, .null, .null, .null]) .null) :
    MetB l M21 jdk_38_method_20_code 2 (some (.object s4n)) ws (rmk 2 0 0 27) Z h0 #[(.ref pa1), (.int 1)] (Q_au18_1 Z wINTEGER wDOUBLE wBOOLEAN wD kwD pa1 pa2 pk3 pa4 pa5 pa6 h0 n0) := by
  refine own_body (plainFor_of_name pn_java_util_ArrayList) ?_
  intro p e s m below meth c s₁ hx hby hml hown hnm hret0 hlk0 hZ X0 e0
  have N0 := Fr.nil n0
  have pre0 : ∀ t, Steps p.tables e below (s₁.setTop (mkF m 0 #[(vr pa1), (vi 1)] [])) t → Steps p.tables e below (s₁.setTop (entryFrame m #[(.ref pa1), (.int 1)] 2)) t := fun t k => castTop (ef_au18_1 m pa1 (1 : Int32)) k
  have hS0 := hS
  obtain ⟨S_wINTEGER, E_wINTEGER, S_wDOUBLE, E_wDOUBLE, S_wBOOLEAN, E_wBOOLEAN, F_ordinal_wINTEGER, F_ordinal_wDOUBLE, F_ordinal_wBOOLEAN, S_wD, E_wD, V_wD⟩ := hS0
  obtain ⟨T1, X1, e1, st1⟩ := getF X0 hx hZ hown (host := "") (Or.inl (ow hw 88 rfl)) Via.refl e0 P3 (g := (mkF m 2 #[(vr pa1), (vi 1)] [(.ref pa1), (.int 1)])) rfl rfl (hb hby d18_2)
  obtain ⟨_, _, ⟨T2, L2, k2, n2⟩, -, X2, ⟨Lc2, hQ2, l2, y2, z2⟩, st2⟩ := Jvm.LawKit.callS X1 hx (y := M19) hown (mvT hZ (ow hw 146 rfl)) (mvT hZ (ow hw 147 rfl)) (mvT hZ (ow hw 148 rfl)) (mvT hZ (ow hw 149 rfl)) (by decide) (backOf (W := 0) (au19_1 l Z a0 hw [] wINTEGER wDOUBLE wBOOLEAN wD kwD hS  h0 n0 O0 ) hZ (ow hw 149 rfl) (ow hw 148 rfl) (by decide) (by decide)) (g := (mkF m 5 #[(vr pa1), (vi 1)] [(.int 3), (.int 1)])) rfl (by rw [hml]; rfl) (argsL := [(.int 1), (.int 3)]) (rest := []) (lenOf pd_7 rfl) rfl (by show 2 * 0 + _ ≤ _; exact Nat.le_of_eq rfl) (hb hby d18_5) (fun _ _ => ⟨rfl, e1, (by decide : 0 + 0 ≤ _), (by decide : 0 + 0 ≤ _)⟩)
  dsimp only [Pt.U, Pt.locs, Pt.cells, Pt.slots] at X2 l2 y2 z2 st2 hQ2
  subst y2 z2
  obtain ⟨rfl, Nq2, K2q⟩ := hQ2
  have N2 : Fr n0 L2 := (congrArg (Fr n0) l2).mpr (Fr.app N0 Nq2)
  obtain ⟨cq3, kq3, q3a, q3b, q3c⟩ := isOf hZ K2q P0
  obtain ⟨_, _, ⟨T3, L3, k3, n3⟩, -, X3, ⟨Lc3, hQ3, l3, y3, z3⟩, st3⟩ := X2.virtualBack hx (y := M20) (z := M20) hown (mvT hZ (ow hw 154 rfl)) (mvT hZ (ow hw 155 rfl)) (notFace_of_selects (args := #[]) (mvT hZ (ow hw 157 rfl))) (mvT hZ (ow hw 157 rfl)) (mvT hZ (ow hw 156 rfl)) (by decide) (backOf (W := 0) (au21_1 l Z a0 hw [] wINTEGER wDOUBLE wBOOLEAN wD kwD hS pa1 pa2 pk3 pa4 pa5 pa6 h0 n0 O0 P2 P4) hZ (ow hw 158 rfl) (ow hw 15 rfl) (by decide) (by decide)) q3a q3c (g := (mkF m 11 #[(vr pa1), (vi 1)] [(.int 1), (.ref pa1)])) rfl (by rw [hml]; rfl) (Steps.refl _) (argsL := [(.int 1)]) (rest := []) (lenOf pd_14 rfl) rfl (by show 2 * 0 + _ ≤ _; exact Nat.le_of_eq rfl) (hb hby d18_11) (fun _ _ => ⟨rfl, K2q, (by decide : 0 + 0 ≤ _), (by decide : 0 + 0 ≤ _)⟩)
  dsimp only [Pt.U, Pt.locs, Pt.cells, Pt.slots] at X3 l3 y3 z3 st3 hQ3
  subst y3 z3
  obtain ⟨rfl, Nq3, K3q⟩ := hQ3
  have N3 : Fr n0 L3 := (congrArg (Fr n0) l3).mpr (Fr.app N2 Nq3)
  obtain ⟨fs, hr, hrun, hended, hW, hsame⟩ := X3.leave (v := some (.ref pa5)) (fun h => by rw [hret0] at h; cases h)
  refine ⟨_, _, pre0 _ ?_, hrun, hended, _, _, rfl, ?_, ⟨_, rfl⟩, hW, hsame.mono (by decide) (by decide)⟩
  · skip
    show Steps p.tables e below (s₁.setTop (mkF m 0 #[(vr pa1), (vi 1)] [])) _
    refine XS.iloadN X0.here hx rfl (hb hby d18_0) rfl ?_
    refine XS.aloadN X0.here hx rfl (hb hby d18_1) rfl rfl ?_
    refine st1 _ ?_
    refine st2 _ ?_
    refine XS.pop X2.here hx rfl (hb hby d18_8) rfl rfl ?_
    refine XS.aloadN X2.here hx rfl (hb hby d18_9) rfl rfl ?_
    refine XS.iloadN X2.here hx rfl (hb hby d18_10) rfl ?_
    refine st3.trans ?_
    jvm_step X3.here [X3.here.top, hx, (hb hby d18_14), X3.method', hret0, Value.isRef, FieldType.isReference]
    first | (intro acts; rw [hr _ acts rfl rfl rfl]) | rw [hr _ _ rfl rfl rfl]
    exact Steps.refl _
  · show Q_au18_1 Z wINTEGER wDOUBLE wBOOLEAN wD kwD pa1 pa2 pk3 pa4 pa5 pa6 h0 n0 _ T3.heap _
    rw [K3q]
    exact ⟨rfl, N3, rfl⟩
theorem ef_au18_2 (m : MethodId) (x0 : Addr) (x1 : Int32)  : entryFrame m #[(.ref x0), (.int x1)] 2 = mkF m 0 #[(vr x0), (vi x1)] [] := by first | (simp [entryFrame, mkF, argsToLocals, Value.category]; done) | rfl
theorem ef_au19_2 (m : MethodId) (x0 : Int32) (x1 : Int32)  : entryFrame m #[(.int x0), (.int x1)] 2 = mkF m 0 #[(vi x0), (vi x1)] [] := by first | (simp [entryFrame, mkF, argsToLocals, Value.category]; done) | rfl
theorem ef_au20_2 (m : MethodId) (x0 : Int32) (x1 : Int32)  : entryFrame m #[(.int x0), (.int x1), .null] 3 = mkF m 0 #[(vi x0), (vi x1), .val .null] [] := by first | (simp [entryFrame, mkF, argsToLocals, Value.category]; done) | rfl
def Q_au20_2 (Z : State) (wINTEGER : Addr) (wDOUBLE : Addr) (wBOOLEAN : Addr) (wD : Addr) (kwD : ClassId)  (h0 : Heap) (n0 : Nat) (v : Option Value) (h : Heap) (L : List Loc) : Prop := v = some (.int 2) ∧ Fr n0 L ∧ h = h0
theorem au20_2 (l : Launch) (Z : State) (a0 : Array Value) (hw : ∀ d ∈ tables_1, d.before a0 Z = true) (ws : List Jvm.Cond) (wINTEGER : Addr) (wDOUBLE : Addr) (wBOOLEAN : Addr) (wD : Addr) (kwD : ClassId) (hS : SS Z wINTEGER wDOUBLE wBOOLEAN wD kwD)  (h0 : Heap) (n0 : Nat) (O0 : Old Z n0 h0)  :
    MetB l M18 jdk_41_method_11_code 3 (some .int) ws (rmk 0 0 0 0) Z h0 #[(.int 2), (.int 3), .null] (Q_au20_2 Z wINTEGER wDOUBLE wBOOLEAN wD kwD  h0 n0) := by
  refine own_body (plainFor_of_name pn_jdk_internal_util_Preconditions) ?_
  intro p e s m below meth c s₁ hx hby hml hown hnm hret0 hlk0 hZ X0 e0
  have N0 := Fr.nil n0
  have pre0 : ∀ t, Steps p.tables e below (s₁.setTop (mkF m 0 #[(vi 2), (vi 3), .val .null] [])) t → Steps p.tables e below (s₁.setTop (entryFrame m #[(.int 2), (.int 3), .null] 3)) t := fun t k => castTop (ef_au20_2 m (2 : Int32) (3 : Int32)) k
  have hS0 := hS
  obtain ⟨S_wINTEGER, E_wINTEGER, S_wDOUBLE, E_wDOUBLE, S_wBOOLEAN, E_wBOOLEAN, F_ordinal_wINTEGER, F_ordinal_wDOUBLE, F_ordinal_wBOOLEAN, S_wD, E_wD, V_wD⟩ := hS0
  obtain ⟨fs, hr, hrun, hended, hW, hsame⟩ := X0.leave (v := some (.int 2)) (fun h => by rw [hret0] at h; cases h)
  refine ⟨_, _, pre0 _ ?_, hrun, hended, _, _, rfl, ?_, ⟨_, rfl⟩, hW, hsame.mono (by decide) (by decide)⟩
  · skip
    show Steps p.tables e below (s₁.setTop (mkF m 0 #[(vi 2), (vi 3), .val .null] [])) _
    refine XS.iloadN X0.here hx rfl (hb hby d20_0) rfl ?_
    refine XS.ifNo X0.here hx rfl (hb hby d20_1) rfl ((if0 _ _).trans (flt (by decide : ¬ ((2 : Int32) < (0 : Int32)))).1) ?_
    refine XS.iloadN X0.here hx rfl (hb hby d20_4) rfl ?_
    refine XS.iloadN X0.here hx rfl (hb hby d20_5) rfl ?_
    refine XS.icmpYes X0.here hx rfl (pc0 := 6) (pc' := 16) rfl (hb hby d20_6) rfl (tlt (by decide : (2 : Int32) < (3 : Int32))).1 (by decide) (by decide) ?_
    refine XS.iloadN X0.here hx rfl (hb hby d20_16) rfl ?_
    exact retI X0 hx hret0 (hb hby d20_17) hr
  · show Q_au20_2 Z wINTEGER wDOUBLE wBOOLEAN wD kwD  h0 n0 _ s₁.heap _
    rw [e0]
    exact ⟨rfl, N0, rfl⟩
def Q_au19_2 (Z : State) (wINTEGER : Addr) (wDOUBLE : Addr) (wBOOLEAN : Addr) (wD : Addr) (kwD : ClassId)  (h0 : Heap) (n0 : Nat) (v : Option Value) (h : Heap) (L : List Loc) : Prop := v = some (.int 2) ∧ Fr n0 L ∧ h = h0
theorem au19_2 (l : Launch) (Z : State) (a0 : Array Value) (hw : ∀ d ∈ tables_1, d.before a0 Z = true) (ws : List Jvm.Cond) (wINTEGER : Addr) (wDOUBLE : Addr) (wBOOLEAN : Addr) (wD : Addr) (kwD : ClassId) (hS : SS Z wINTEGER wDOUBLE wBOOLEAN wD kwD)  (h0 : Heap) (n0 : Nat) (O0 : Old Z n0 h0)  :
    MetB l M19 jdk_31_method_17_code 2 (some .int) ws (rmk 1 0 0 14) Z h0 #[(.int 2), (.int 3)] (Q_au19_2 Z wINTEGER wDOUBLE wBOOLEAN wD kwD  h0 n0) := by
  refine own_body (plainFor_of_name pn_java_util_Objects) ?_
  intro p e s m below meth c s₁ hx hby hml hown hnm hret0 hlk0 hZ X0 e0
  have N0 := Fr.nil n0
  have pre0 : ∀ t, Steps p.tables e below (s₁.setTop (mkF m 0 #[(vi 2), (vi 3)] [])) t → Steps p.tables e below (s₁.setTop (entryFrame m #[(.int 2), (.int 3)] 2)) t := fun t k => castTop (ef_au19_2 m (2 : Int32) (3 : Int32)) k
  have hS0 := hS
  obtain ⟨S_wINTEGER, E_wINTEGER, S_wDOUBLE, E_wDOUBLE, S_wBOOLEAN, E_wBOOLEAN, F_ordinal_wINTEGER, F_ordinal_wDOUBLE, F_ordinal_wBOOLEAN, S_wD, E_wD, V_wD⟩ := hS0
  obtain ⟨_, _, ⟨T1, L1, k1, n1⟩, -, X1, ⟨Lc1, hQ1, l1, y1, z1⟩, st1⟩ := Jvm.LawKit.callS X0 hx (y := M18) hown (mvT hZ (ow hw 150 rfl)) (mvT hZ (ow hw 151 rfl)) (mvT hZ (ow hw 152 rfl)) (mvT hZ (ow hw 153 rfl)) (by decide) (backOf (W := 0) (au20_2 l Z a0 hw [] wINTEGER wDOUBLE wBOOLEAN wD kwD hS  h0 n0 O0 ) hZ (ow hw 153 rfl) (ow hw 152 rfl) (by decide) (by decide)) (g := (mkF m 3 #[(vi 2), (vi 3)] [.null, (.int 3), (.int 2)])) rfl (by rw [hml]; rfl) (argsL := [(.int 2), (.int 3), .null]) (rest := []) (lenOf pd_13 rfl) rfl (by show 2 * 0 + _ ≤ _; exact Nat.le_of_eq rfl) (hb hby d19_3) (fun _ _ => ⟨rfl, e0, (by decide : 0 + 0 ≤ _), (by decide : 0 + 0 ≤ _)⟩)
  dsimp only [Pt.U, Pt.locs, Pt.cells, Pt.slots] at X1 l1 y1 z1 st1 hQ1
  subst y1 z1
  obtain ⟨rfl, Nq1, K1q⟩ := hQ1
  have N1 : Fr n0 L1 := (congrArg (Fr n0) l1).mpr (Fr.app N0 Nq1)
  obtain ⟨fs, hr, hrun, hended, hW, hsame⟩ := X1.leave (v := some (.int 2)) (fun h => by rw [hret0] at h; cases h)
  refine ⟨_, _, pre0 _ ?_, hrun, hended, _, _, rfl, ?_, ⟨_, rfl⟩, hW, hsame.mono (by decide) (by decide)⟩
  · skip
    show Steps p.tables e below (s₁.setTop (mkF m 0 #[(vi 2), (vi 3)] [])) _
    refine XS.iloadN X0.here hx rfl (hb hby d19_0) rfl ?_
    refine XS.iloadN X0.here hx rfl (hb hby d19_1) rfl ?_
    refine XS.aconstNull X0.here hx rfl (hb hby d19_2) ?_
    refine st1 _ ?_
    exact retI X1 hx hret0 (hb hby d19_6) hr
  · show Q_au19_2 Z wINTEGER wDOUBLE wBOOLEAN wD kwD  h0 n0 _ T1.heap _
    rw [K1q]
    exact ⟨rfl, N1, rfl⟩
theorem ef_au21_2 (m : MethodId) (x0 : Addr) (x1 : Int32)  : entryFrame m #[(.ref x0), (.int x1)] 2 = mkF m 0 #[(vr x0), (vi x1)] [] := by first | (simp [entryFrame, mkF, argsToLocals, Value.category]; done) | rfl
def Q_au21_2 (Z : State) (wINTEGER : Addr) (wDOUBLE : Addr) (wBOOLEAN : Addr) (wD : Addr) (kwD : ClassId) (pa1 : Addr) (pa2 : Addr) (pk3 : ClassId) (pa4 : Addr) (pa5 : Addr) (pa6 : Addr) (h0 : Heap) (n0 : Nat) (v : Option Value) (h : Heap) (L : List Loc) : Prop := v = some (.ref pa6) ∧ Fr n0 L ∧ h = h0
theorem au21_2 (l : Launch) (Z : State) (a0 : Array Value) (hw : ∀ d ∈ tables_1, d.before a0 Z = true) (ws : List Jvm.Cond) (wINTEGER : Addr) (wDOUBLE : Addr) (wBOOLEAN : Addr) (wD : Addr) (kwD : ClassId) (hS : SS Z wINTEGER wDOUBLE wBOOLEAN wD kwD) (pa1 : Addr) (pa2 : Addr) (pk3 : ClassId) (pa4 : Addr) (pa5 : Addr) (pa6 : Addr) (h0 : Heap) (n0 : Nat) (O0 : Old Z n0 h0) (P2 : Fld Z h0 pa1 s2n "elementData" s3n (.ref pa2)) (P4 : Arv Z h0 pa2 pk3 (.object s4n) (10 : Int32) ([(.ref pa4), (.ref pa5), (.ref pa6), .null, .null, .null, .null, .null, .null, .null]) .null) :
    MetB l M20 jdk_38_method_18_code 2 (some (.object s4n)) ws (rmk 0 0 0 0) Z h0 #[(.ref pa1), (.int 2)] (Q_au21_2 Z wINTEGER wDOUBLE wBOOLEAN wD kwD pa1 pa2 pk3 pa4 pa5 pa6 h0 n0) := by
  refine own_body (plainFor_of_name pn_java_util_ArrayList) ?_
  intro p e s m below meth c s₁ hx hby hml hown hnm hret0 hlk0 hZ X0 e0
  have N0 := Fr.nil n0
  have pre0 : ∀ t, Steps p.tables e below (s₁.setTop (mkF m 0 #[(vr pa1), (vi 2)] [])) t → Steps p.tables e below (s₁.setTop (entryFrame m #[(.ref pa1), (.int 2)] 2)) t := fun t k => castTop (ef_au21_2 m pa1 (2 : Int32)) k
  have hS0 := hS
  obtain ⟨S_wINTEGER, E_wINTEGER, S_wDOUBLE, E_wDOUBLE, S_wBOOLEAN, E_wBOOLEAN, F_ordinal_wINTEGER, F_ordinal_wDOUBLE, F_ordinal_wBOOLEAN, S_wD, E_wD, V_wD⟩ := hS0
  obtain ⟨T1, X1, e1, st1⟩ := getF X0 hx hZ hown (host := "") (Or.inl (ow hw 37 rfl)) Via.refl e0 P2 (g := (mkF m 1 #[(vr pa1), (vi 2)] [(.ref pa1)])) rfl rfl (hb hby d21_1)
  obtain ⟨cl2, Ar2, qc2, Sz2, Nn2, Ha2, Gg2⟩ := (id P4)
  have hin2 : ¬ ((2 : Int32) < 0 ∨ cl2.slots.size ≤ ((2 : Int32)).toNatClampNeg) := inb_of Sz2 ⟨by decide, by decide⟩
  have hat2 : cl2.slots[((2 : Int32)).toNatClampNeg]? = some (.ref pa6) := Ha2.at hin2 rfl
  obtain ⟨fs, hr, hrun, hended, hW, hsame⟩ := X1.leave (v := some (.ref pa6)) (fun h => by rw [hret0] at h; cases h)
  refine ⟨_, _, pre0 _ ?_, hrun, hended, _, _, rfl, ?_, ⟨_, rfl⟩, hW, hsame.mono (by decide) (by decide)⟩
  · skip
    show Steps p.tables e below (s₁.setTop (mkF m 0 #[(vr pa1), (vi 2)] [])) _
    refine XS.aloadN X0.here hx rfl (hb hby d21_0) rfl rfl ?_
    refine st1 _ ?_
    refine XS.iloadN X1.here hx rfl (hb hby d21_4) rfl ?_
    refine X1.aaload hx (j := (2 : Int32)) (v := (.ref pa6)) (by rw [e1]; exact Ar2.1) (State.isArrayOf_alike hZ.alike Ar2.2.1) rfl Ar2.2.2 hin2 hat2 (g := (mkF m 5 #[(vr pa1), (vi 2)] [(.int 2), (.ref pa2)])) rfl rfl (hb hby d21_5) _ ?_
    jvm_step X1.here [X1.here.top, hx, (hb hby d21_6), X1.method', hret0, Value.isRef, FieldType.isReference]
    first | (intro acts; rw [hr _ acts rfl rfl rfl]) | rw [hr _ _ rfl rfl rfl]
    exact Steps.refl _
  · show Q_au21_2 Z wINTEGER wDOUBLE wBOOLEAN wD kwD pa1 pa2 pk3 pa4 pa5 pa6 h0 n0 _ T1.heap _
    rw [e1]
    exact ⟨rfl, N0, rfl⟩
def Q_au18_2 (Z : State) (wINTEGER : Addr) (wDOUBLE : Addr) (wBOOLEAN : Addr) (wD : Addr) (kwD : ClassId) (pa1 : Addr) (pa2 : Addr) (pk3 : ClassId) (pa4 : Addr) (pa5 : Addr) (pa6 : Addr) (h0 : Heap) (n0 : Nat) (v : Option Value) (h : Heap) (L : List Loc) : Prop := v = some (.ref pa6) ∧ Fr n0 L ∧ h = h0
theorem au18_2 (l : Launch) (Z : State) (a0 : Array Value) (hw : ∀ d ∈ tables_1, d.before a0 Z = true) (ws : List Jvm.Cond) (wINTEGER : Addr) (wDOUBLE : Addr) (wBOOLEAN : Addr) (wD : Addr) (kwD : ClassId) (hS : SS Z wINTEGER wDOUBLE wBOOLEAN wD kwD) (pa1 : Addr) (pa2 : Addr) (pk3 : ClassId) (pa4 : Addr) (pa5 : Addr) (pa6 : Addr) (h0 : Heap) (n0 : Nat) (O0 : Old Z n0 h0) (P0 : Exa Z h0 pa1 s2n) (P2 : Fld Z h0 pa1 s2n "elementData" s3n (.ref pa2)) (P3 : Fld Z h0 pa1 s2n "size" "I" (.int 3)) (P4 : Arv Z h0 pa2 pk3 (.object s4n) (10 : Int32) ([(.ref pa4), (.ref pa5), (.ref pa6), .null, .null, .null, .null, .null, .null, .null]) .null) :
    MetB l M21 jdk_38_method_20_code 2 (some (.object s4n)) ws (rmk 2 0 0 27) Z h0 #[(.ref pa1), (.int 2)] (Q_au18_2 Z wINTEGER wDOUBLE wBOOLEAN wD kwD pa1 pa2 pk3 pa4 pa5 pa6 h0 n0) := by
  refine own_body (plainFor_of_name pn_java_util_ArrayList) ?_
  intro p e s m below meth c s₁ hx hby hml hown hnm hret0 hlk0 hZ X0 e0
  have N0 := Fr.nil n0
  have pre0 : ∀ t, Steps p.tables e below (s₁.setTop (mkF m 0 #[(vr pa1), (vi 2)] [])) t → Steps p.tables e below (s₁.setTop (entryFrame m #[(.ref pa1), (.int 2)] 2)) t := fun t k => castTop (ef_au18_2 m pa1 (2 : Int32)) k
  have hS0 := hS
  obtain ⟨S_wINTEGER, E_wINTEGER, S_wDOUBLE, E_wDOUBLE, S_wBOOLEAN, E_wBOOLEAN, F_ordinal_wINTEGER, F_ordinal_wDOUBLE, F_ordinal_wBOOLEAN, S_wD, E_wD, V_wD⟩ := hS0
  obtain ⟨T1, X1, e1, st1⟩ := getF X0 hx hZ hown (host := "") (Or.inl (ow hw 88 rfl)) Via.refl e0 P3 (g := (mkF m 2 #[(vr pa1), (vi 2)] [(.ref pa1), (.int 2)])) rfl rfl (hb hby d18_2)
  obtain ⟨_, _, ⟨T2, L2, k2, n2⟩, -, X2, ⟨Lc2, hQ2, l2, y2, z2⟩, st2⟩ := Jvm.LawKit.callS X1 hx (y := M19) hown (mvT hZ (ow hw 146 rfl)) (mvT hZ (ow hw 147 rfl)) (mvT hZ (ow hw 148 rfl)) (mvT hZ (ow hw 149 rfl)) (by decide) (backOf (W := 0) (au19_2 l Z a0 hw [] wINTEGER wDOUBLE wBOOLEAN wD kwD hS  h0 n0 O0 ) hZ (ow hw 149 rfl) (ow hw 148 rfl) (by decide) (by decide)) (g := (mkF m 5 #[(vr pa1), (vi 2)] [(.int 3), (.int 2)])) rfl (by rw [hml]; rfl) (argsL := [(.int 2), (.int 3)]) (rest := []) (lenOf pd_7 rfl) rfl (by show 2 * 0 + _ ≤ _; exact Nat.le_of_eq rfl) (hb hby d18_5) (fun _ _ => ⟨rfl, e1, (by decide : 0 + 0 ≤ _), (by decide : 0 + 0 ≤ _)⟩)
  dsimp only [Pt.U, Pt.locs, Pt.cells, Pt.slots] at X2 l2 y2 z2 st2 hQ2
  subst y2 z2
  obtain ⟨rfl, Nq2, K2q⟩ := hQ2
  have N2 : Fr n0 L2 := (congrArg (Fr n0) l2).mpr (Fr.app N0 Nq2)
  obtain ⟨cq3, kq3, q3a, q3b, q3c⟩ := isOf hZ K2q P0
  obtain ⟨_, _, ⟨T3, L3, k3, n3⟩, -, X3, ⟨Lc3, hQ3, l3, y3, z3⟩, st3⟩ := X2.virtualBack hx (y := M20) (z := M20) hown (mvT hZ (ow hw 154 rfl)) (mvT hZ (ow hw 155 rfl)) (notFace_of_selects (args := #[]) (mvT hZ (ow hw 157 rfl))) (mvT hZ (ow hw 157 rfl)) (mvT hZ (ow hw 156 rfl)) (by decide) (backOf (W := 0) (au21_2 l Z a0 hw [] wINTEGER wDOUBLE wBOOLEAN wD kwD hS pa1 pa2 pk3 pa4 pa5 pa6 h0 n0 O0 P2 P4) hZ (ow hw 158 rfl) (ow hw 15 rfl) (by decide) (by decide)) q3a q3c (g := (mkF m 11 #[(vr pa1), (vi 2)] [(.int 2), (.ref pa1)])) rfl (by rw [hml]; rfl) (Steps.refl _) (argsL := [(.int 2)]) (rest := []) (lenOf pd_14 rfl) rfl (by show 2 * 0 + _ ≤ _; exact Nat.le_of_eq rfl) (hb hby d18_11) (fun _ _ => ⟨rfl, K2q, (by decide : 0 + 0 ≤ _), (by decide : 0 + 0 ≤ _)⟩)
  dsimp only [Pt.U, Pt.locs, Pt.cells, Pt.slots] at X3 l3 y3 z3 st3 hQ3
  subst y3 z3
  obtain ⟨rfl, Nq3, K3q⟩ := hQ3
  have N3 : Fr n0 L3 := (congrArg (Fr n0) l3).mpr (Fr.app N2 Nq3)
  obtain ⟨fs, hr, hrun, hended, hW, hsame⟩ := X3.leave (v := some (.ref pa6)) (fun h => by rw [hret0] at h; cases h)
  refine ⟨_, _, pre0 _ ?_, hrun, hended, _, _, rfl, ?_, ⟨_, rfl⟩, hW, hsame.mono (by decide) (by decide)⟩
  · skip
    show Steps p.tables e below (s₁.setTop (mkF m 0 #[(vr pa1), (vi 2)] [])) _
    refine XS.iloadN X0.here hx rfl (hb hby d18_0) rfl ?_
    refine XS.aloadN X0.here hx rfl (hb hby d18_1) rfl rfl ?_
    refine st1 _ ?_
    refine st2 _ ?_
    refine XS.pop X2.here hx rfl (hb hby d18_8) rfl rfl ?_
    refine XS.aloadN X2.here hx rfl (hb hby d18_9) rfl rfl ?_
    refine XS.iloadN X2.here hx rfl (hb hby d18_10) rfl ?_
    refine st3.trans ?_
    jvm_step X3.here [X3.here.top, hx, (hb hby d18_14), X3.method', hret0, Value.isRef, FieldType.isReference]
    first | (intro acts; rw [hr _ acts rfl rfl rfl]) | rw [hr _ _ rfl rfl rfl]
    exact Steps.refl _
  · show Q_au18_2 Z wINTEGER wDOUBLE wBOOLEAN wD kwD pa1 pa2 pk3 pa4 pa5 pa6 h0 n0 _ T3.heap _
    rw [K3q]
    exact ⟨rfl, N3, rfl⟩
theorem d16_101 : decode prog_105_method_1_code 101 = .ok (.iinc 3 1, 3) := by decide +kernel
theorem d16_104 : decode prog_105_method_1_code 104 = .ok (.iconst 0, 1) := by decide +kernel
theorem d16_105 : decode prog_105_method_1_code 105 = .ok (.istore 4, 2) := by decide +kernel
theorem d16_176 : decode prog_105_method_1_code 176 = .ok (.aload_n 0, 1) := by decide +kernel
theorem d16_177 : decode prog_105_method_1_code 177 = .ok (.iload_n 3, 1) := by decide +kernel
theorem d16_178 : decode prog_105_method_1_code 178 = .ok (.putfield 48, 3) := by decide +kernel
theorem d16_181 : decode prog_105_method_1_code 181 = .ok (.return_, 1) := by decide +kernel
def Q_au16_0 (Z : State) (wINTEGER : Addr) (wDOUBLE : Addr) (wBOOLEAN : Addr) (wD : Addr) (kwD : ClassId) (pa1 : Addr) (pa2 : Addr) (pi3 : Int32) (pi4 : Int32) (pi5 : Int32) (pa6 : Addr) (pk7 : ClassId) (pa8 : Addr) (pa9 : Addr) (pa10 : Addr) (pi11 : Int32) (pi12 : Int32) (pi15 : Int32) (pi16 : Int32) (pi19 : Int32) (pi20 : Int32) (h0 : Heap) (n0 : Nat) (v : Option Value) (h : Heap) (L : List Loc) : Prop := ∃ (e1 : Addr) (e2 : Addr) (e3 : Addr) (e4 : Addr) (e5 : ClassId) (e6 : ClassId) (e7 : ClassId) (e8 : ClassId), v = none ∧ Fr n0 L ∧ Keep h0 h [pa1] ∧ Exa Z h pa1 s9n ∧ Fld Z h pa1 s9n "low" "[I" (.ref e1) ∧ Fld Z h pa1 s9n "mask" "[J" (.ref e2) ∧ Fld Z h pa1 s9n "shift" "[I" (.ref e3) ∧ Fld Z h pa1 s9n "word" "[I" (.ref e4) ∧ Fld Z h pa1 s9n s10n "I" (.int 2) ∧ h0.size ≤ e1 ∧ Exa Z h e1 "[I" ∧ Arv Z h e1 e5 .int (3 : Int32) ([(.int pi12), (.int pi16), (.int pi20)]) (.int 0) ∧ h0.size ≤ e2 ∧ Exa Z h e2 "[J" ∧ Arv Z h e2 e6 .long (3 : Int32) ([(.long (maskV pi3)), (.long (maskV pi4)), (.long (maskV pi5))]) (.long 0) ∧ h0.size ≤ e3 ∧ Exa Z h e3 "[I" ∧ Arv Z h e3 e7 .int (3 : Int32) ([(.int 0), (.int ((0 : Int32) + pi3)), (.int 0)]) (.int 0) ∧ h0.size ≤ e4 ∧ Exa Z h e4 "[I" ∧ Arv Z h e4 e8 .int (3 : Int32) ([(.int 0), (.int 0), (.int 1)]) (.int 0) ∧ e1 ≠ e2 ∧ e1 ≠ e3 ∧ e1 ≠ e4 ∧ e2 ≠ e3 ∧ e2 ≠ e4 ∧ e3 ≠ e4
theorem au16_0 (l : Launch) (Z : State) (a0 : Array Value) (hw : ∀ d ∈ tables_1, d.before a0 Z = true) (ws : List Jvm.Cond) (wINTEGER : Addr) (wDOUBLE : Addr) (wBOOLEAN : Addr) (wD : Addr) (kwD : ClassId) (hS : SS Z wINTEGER wDOUBLE wBOOLEAN wD kwD) (pa1 : Addr) (pa2 : Addr) (pi3 : Int32) (pi4 : Int32) (pi5 : Int32) (pa6 : Addr) (pk7 : ClassId) (pa8 : Addr) (pa9 : Addr) (pa10 : Addr) (pi11 : Int32) (pi12 : Int32) (pi15 : Int32) (pi16 : Int32) (pi19 : Int32) (pi20 : Int32) (h0 : Heap) (n0 : Nat) (O0 : Old Z n0 h0) (P0 : Exa Z h0 pa1 s9n) (P1 : Fld Z h0 pa1 s9n "low" "[I" .null) (P2 : Fld Z h0 pa1 s9n "mask" "[J" .null) (P3 : Fld Z h0 pa1 s9n "shift" "[I" .null) (P4 : Fld Z h0 pa1 s9n "word" "[I" .null) (P5 : Fld Z h0 pa1 s9n s10n "I" (.int 0)) (P6 : Exa Z h0 pa2 s2n) (P8 : Fld Z h0 pa2 s2n "elementData" s3n (.ref pa6)) (P9 : Fld Z h0 pa2 s2n "size" "I" (.int 3)) (P10 : Arv Z h0 pa6 pk7 (.object s4n) (10 : Int32) ([(.ref pa8), (.ref pa9), (.ref pa10), .null, .null, .null, .null, .null, .null, .null]) .null) (P13 : Exa Z h0 pa8 s5n) (P14 : Fld Z h0 pa8 s5n "high" "I" (.int pi11)) (P15 : Fld Z h0 pa8 s5n "low" "I" (.int pi12)) (P18 : Exa Z h0 pa9 s5n) (P19 : Fld Z h0 pa9 s5n "high" "I" (.int pi15)) (P20 : Fld Z h0 pa9 s5n "low" "I" (.int pi16)) (P23 : Exa Z h0 pa10 s5n) (P24 : Fld Z h0 pa10 s5n "high" "I" (.int pi19)) (P25 : Fld Z h0 pa10 s5n "low" "I" (.int pi20)) (P28 : bitsV pi12 pi11 = pi3) (P30 : bitsV pi16 pi15 = pi4) (P32 : bitsV pi20 pi19 = pi5) (P34 : ¬ (64 : Int32) < ((0 : Int32) + pi3)) (P35 : ¬ (64 : Int32) < (((0 : Int32) + pi3) + pi4)) (P37 : (64 : Int32) < ((((0 : Int32) + pi3) + pi4) + pi5)) (P38 : n0 ≤ pa1) (P44 : pa1 ≠ pa2) (P45 : pa1 ≠ pa6) (P46 : pa1 ≠ pa8) (P47 : pa1 ≠ pa9) (P48 : pa1 ≠ pa10) :
    MetB l M24 prog_105_method_1_code 10 none ws (rmk 3 4 12 40) Z h0 #[(.ref pa1), (.ref pa2)] (Q_au16_0 Z wINTEGER wDOUBLE wBOOLEAN wD kwD pa1 pa2 pi3 pi4 pi5 pa6 pk7 pa8 pa9 pa10 pi11 pi12 pi15 pi16 pi19 pi20 h0 n0) := by
  refine own_body (plainFor_of_name pn_com_example_lanc_lanc_model_VariableLayout) ?_
  intro p e s m below meth c s₁ hx hby hml hown hnm hret0 hlk0 hZ X0 e0
  have N0 := Fr.nil n0
  have pre0 : ∀ t, Steps p.tables e below (s₁.setTop (mkF m 0 #[(vr pa1), (vr pa2), .unset, .unset, .unset, .unset, .unset, .unset, .unset, .unset] [])) t → Steps p.tables e below (s₁.setTop (entryFrame m #[(.ref pa1), (.ref pa2)] 10)) t := fun t k => castTop (ef_au16_0 m pa1 pa2) k
  have K0 := Keep.refl h0 [pa1]
  have hS0 := hS
  obtain ⟨S_wINTEGER, E_wINTEGER, S_wDOUBLE, E_wDOUBLE, S_wBOOLEAN, E_wBOOLEAN, F_ordinal_wINTEGER, F_ordinal_wDOUBLE, F_ordinal_wBOOLEAN, S_wD, E_wD, V_wD⟩ := hS0
  obtain ⟨T1, X1, e1, st1⟩ := initO X0 hx hZ hown (ow hw 120 rfl) (ow hw 32 rfl) (ow hw 33 rfl) e0 (g := (mkF m 1 #[(vr pa1), (vr pa2), .unset, .unset, .unset, .unset, .unset, .unset, .unset, .unset] [(.ref pa1)])) rfl (by rw [hml]; rfl) rfl (hb hby d16_1) (by decide) (W := 0) (by show 2 * 0 + _ ≤ _; exact Nat.le_of_eq rfl) (by decide)
  obtain ⟨cq2, kq2, q2a, q2b, q2c⟩ := isOf hZ e1 P6
  obtain ⟨_, _, ⟨T2, L2, k2, n2⟩, -, X2, ⟨Lc2, hQ2, l2, y2, z2⟩, st2⟩ := X1.interfaceBack hx (xi := M25) (y := M17) hown (mvT hZ (ow hw 121 rfl)) (mvT hZ (ow hw 122 rfl)) (mvT hZ (ow hw 123 rfl)) (mvT hZ (ow hw 124 rfl)) (mvT hZ (ow hw 125 rfl)) (mvT hZ (ow hw 126 rfl)) (mvT hZ (ow hw 127 rfl)) (mvT hZ (ow hw 84 rfl)) (by decide) (backOf (W := 0) (au17_0 l Z a0 hw [] wINTEGER wDOUBLE wBOOLEAN wD kwD hS pa2 h0 n0 O0 P9) hZ (ow hw 128 rfl) (ow hw 15 rfl) (by decide) (by decide)) q2a q2b q2c (g := (mkF m 5 #[(vr pa1), (vr pa2), .unset, .unset, .unset, .unset, .unset, .unset, .unset, .unset] [(.ref pa2)])) rfl (by rw [hml]; rfl) (Steps.refl _) (argsL := []) (rest := []) (lenOf pd_12 rfl) rfl (by show 2 * 0 + _ ≤ _; exact Nat.le_of_eq rfl) (hb hby d16_5) (fun _ _ => ⟨rfl, e1, (by decide : 0 + 0 ≤ _), (by decide : 0 + 0 ≤ _)⟩)
  dsimp only [Pt.U, Pt.locs, Pt.cells, Pt.slots] at X2 l2 y2 z2 st2 hQ2
  subst y2 z2
  obtain ⟨rfl, Nq2, K2q⟩ := hQ2
  have N2 : Fr n0 L2 := (congrArg (Fr n0) l2).mpr (Fr.app N0 Nq2)
  obtain ⟨T3, h3, k3, X3, e3, E3, A3, Z3, st3⟩ := newPE X2 hx hZ (ow hw 9 rfl) K2q (g := (mkF m 13 #[(vr pa1), (vr pa2), (vi 3), .unset, .unset, .unset, .unset, .unset, .unset, .unset] [(.int 3), (.ref pa1)])) rfl (hb hby d16_13) rfl (by decide) (cap := 3) (by decide) (by decide) (by decide) (by decide) (ad := "[I") rfl
  obtain ⟨b3, g3⟩ : ∃ z, z = h0.size := ⟨_, rfl⟩
  rw [← g3] at A3 Z3 st3
  have ne4 : pa1 ≠ b3 := Nat.ne_of_lt (Nat.lt_of_lt_of_le P0.lt (Nat.le_of_eq g3.symm))
  have ne5 : pa2 ≠ b3 := Nat.ne_of_lt (Nat.lt_of_lt_of_le P6.lt (Nat.le_of_eq g3.symm))
  have ne6 : pa6 ≠ b3 := Nat.ne_of_lt (Nat.lt_of_lt_of_le P10.lt (Nat.le_of_eq g3.symm))
  have ne7 : pa8 ≠ b3 := Nat.ne_of_lt (Nat.lt_of_lt_of_le P13.lt (Nat.le_of_eq g3.symm))
  have ne8 : pa9 ≠ b3 := Nat.ne_of_lt (Nat.lt_of_lt_of_le P18.lt (Nat.le_of_eq g3.symm))
  have ne9 : pa10 ≠ b3 := Nat.ne_of_lt (Nat.lt_of_lt_of_le P23.lt (Nat.le_of_eq g3.symm))
  have g10 : n0 ≤ b3 := Nat.le_trans (own_sz O0) (Nat.le_of_eq g3.symm)
  have sz11 : h0.size ≤ b3 := Nat.le_trans K0.1 (Nat.le_of_eq g3.symm)
  have O12 : Old Z n0 h3 := O0.ext E3
  have K12 : Keep h0 h3 [pa1] := K0.ext E3
  have V3 : Arv Z h3 b3 k3 .int (3 : Int32) ([(.int 0), (.int 0), (.int 0)]) (.int 0) := (Arv.new A3 (by decide)).pad (pad_rep [] (.int 0) 3)
  have f13 : Exa Z h3 pa1 s9n := (P0.ext E3)
  have f14 : Fld Z h3 pa1 s9n "low" "[I" .null := (P1.ext E3)
  obtain ⟨T15, h15, X15, e15, W15, st15⟩ := putF X3 hx hZ hown (host := "") (Or.inl (ow hw 129 rfl)) Via.refl e3 f14 f13 (Or.inr ⟨(ow hw 130 rfl), rfl, hnm⟩) (ow hw 115 rfl) (ty := (.array .int)) (by decide) rfl rfl (g := (mkF m 15 #[(vr pa1), (vr pa2), (vi 3), .unset, .unset, .unset, .unset, .unset, .unset, .unset] [(.ref b3), (.ref pa1)])) rfl rfl (hb hby d16_15)
  have N15 := Fr.snoc X15 N2 P38
  have O16 : Old Z n0 h15 := O12.wr W15 P38
  have K16 : Keep h0 h15 [pa1] := K12.wr W15 (Or.inl (List.mem_of_getElem? (i := 0) rfl))
  have Fw15 : Fld Z h15 pa1 s9n "low" "[I" (.ref b3) := f14.same W15
  obtain ⟨T17, h17, k17, X17, e17, E17, A17, Z17, st17⟩ := newPE X15 hx hZ (ow hw 9 rfl) e15 (g := (mkF m 20 #[(vr pa1), (vr pa2), (vi 3), .unset, .unset, .unset, .unset, .unset, .unset, .unset] [(.int 3), (.ref pa1)])) rfl (hb hby d16_20) rfl (by decide) (cap := 3) (by decide) (by decide) (by decide) (by decide) (ad := "[I") rfl
  obtain ⟨b17, g17⟩ : ∃ z, z = h15.size := ⟨_, rfl⟩
  rw [← g17] at A17 Z17 st17
  have f19 : Exa Z h15 pa1 s9n := (f13.wr W15)
  have ne18 : pa1 ≠ b17 := Nat.ne_of_lt (Nat.lt_of_lt_of_le f19.lt (Nat.le_of_eq g17.symm))
  have f21 : Exa Z h15 pa2 s2n := ((P6.ext E3).wr W15)
  have ne20 : pa2 ≠ b17 := Nat.ne_of_lt (Nat.lt_of_lt_of_le f21.lt (Nat.le_of_eq g17.symm))
  have f23 : Arv Z h15 pa6 pk7 (.object s4n) (10 : Int32) ([(.ref pa8), (.ref pa9), (.ref pa10), .null, .null, .null, .null, .null, .null, .null]) .null := ((P10.ext E3).other W15 (Ne.symm P45))
  have ne22 : pa6 ≠ b17 := Nat.ne_of_lt (Nat.lt_of_lt_of_le f23.lt (Nat.le_of_eq g17.symm))
  have f25 : Exa Z h15 pa8 s5n := ((P13.ext E3).wr W15)
  have ne24 : pa8 ≠ b17 := Nat.ne_of_lt (Nat.lt_of_lt_of_le f25.lt (Nat.le_of_eq g17.symm))
  have f27 : Exa Z h15 pa9 s5n := ((P18.ext E3).wr W15)
  have ne26 : pa9 ≠ b17 := Nat.ne_of_lt (Nat.lt_of_lt_of_le f27.lt (Nat.le_of_eq g17.symm))
  have f29 : Exa Z h15 pa10 s5n := ((P23.ext E3).wr W15)
  have ne28 : pa10 ≠ b17 := Nat.ne_of_lt (Nat.lt_of_lt_of_le f29.lt (Nat.le_of_eq g17.symm))
  have f31 : Arv Z h15 b3 k3 .int (3 : Int32) ([(.int 0), (.int 0), (.int 0)]) (.int 0) := (V3.other W15 (Ne.symm ne4))
  have ne30 : b3 ≠ b17 := Nat.ne_of_lt (Nat.lt_of_lt_of_le f31.lt (Nat.le_of_eq g17.symm))
  have g32 : n0 ≤ b17 := Nat.le_trans (own_sz O16) (Nat.le_of_eq g17.symm)
  have sz33 : h0.size ≤ b17 := Nat.le_trans K16.1 (Nat.le_of_eq g17.symm)
  have O34 : Old Z n0 h17 := O16.ext E17
  have K34 : Keep h0 h17 [pa1] := K16.ext E17
  have V17 : Arv Z h17 b17 k17 .int (3 : Int32) ([(.int 0), (.int 0), (.int 0)]) (.int 0) := (Arv.new A17 (by decide)).pad (pad_rep [] (.int 0) 3)
  have f35 : Exa Z h17 pa1 s9n := (f19.ext E17)
  have f36 : Fld Z h17 pa1 s9n "word" "[I" .null := (((P4.ext E3).other W15 (Or.inr (slot_ne (Or.inr (ow hw 132 rfl)) (Or.inr (ow hw 130 rfl)) (by decide) (t := (.array .int)) (t' := (.array .int)) (by decide) (by decide)))).ext E17)
  obtain ⟨T37, h37, X37, e37, W37, st37⟩ := putF X17 hx hZ hown (host := "") (Or.inl (ow hw 131 rfl)) Via.refl e17 f36 f35 (Or.inr ⟨(ow hw 132 rfl), rfl, hnm⟩) (ow hw 115 rfl) (ty := (.array .int)) (by decide) rfl rfl (g := (mkF m 22 #[(vr pa1), (vr pa2), (vi 3), .unset, .unset, .unset, .unset, .unset, .unset, .unset] [(.ref b17), (.ref pa1)])) rfl rfl (hb hby d16_22)
  have N37 := Fr.snoc X37 N15 P38
  have O38 : Old Z n0 h37 := O34.wr W37 P38
  have K38 : Keep h0 h37 [pa1] := K34.wr W37 (Or.inl (List.mem_of_getElem? (i := 0) rfl))
  have Fw37 : Fld Z h37 pa1 s9n "word" "[I" (.ref b17) := f36.same W37
  obtain ⟨T39, h39, k39, X39, e39, E39, A39, Z39, st39⟩ := newPE X37 hx hZ (ow hw 9 rfl) e37 (g := (mkF m 27 #[(vr pa1), (vr pa2), (vi 3), .unset, .unset, .unset, .unset, .unset, .unset, .unset] [(.int 3), (.ref pa1)])) rfl (hb hby d16_27) rfl (by decide) (cap := 3) (by decide) (by decide) (by decide) (by decide) (ad := "[I") rfl
  obtain ⟨b39, g39⟩ : ∃ z, z = h37.size := ⟨_, rfl⟩
  rw [← g39] at A39 Z39 st39
  have f41 : Exa Z h37 pa1 s9n := (f35.wr W37)
  have ne40 : pa1 ≠ b39 := Nat.ne_of_lt (Nat.lt_of_lt_of_le f41.lt (Nat.le_of_eq g39.symm))
  have f43 : Exa Z h37 pa2 s2n := ((f21.ext E17).wr W37)
  have ne42 : pa2 ≠ b39 := Nat.ne_of_lt (Nat.lt_of_lt_of_le f43.lt (Nat.le_of_eq g39.symm))
  have f45 : Arv Z h37 pa6 pk7 (.object s4n) (10 : Int32) ([(.ref pa8), (.ref pa9), (.ref pa10), .null, .null, .null, .null, .null, .null, .null]) .null := ((f23.ext E17).other W37 (Ne.symm P45))
  have ne44 : pa6 ≠ b39 := Nat.ne_of_lt (Nat.lt_of_lt_of_le f45.lt (Nat.le_of_eq g39.symm))
  have f47 : Exa Z h37 pa8 s5n := ((f25.ext E17).wr W37)
  have ne46 : pa8 ≠ b39 := Nat.ne_of_lt (Nat.lt_of_lt_of_le f47.lt (Nat.le_of_eq g39.symm))
  have f49 : Exa Z h37 pa9 s5n := ((f27.ext E17).wr W37)
  have ne48 : pa9 ≠ b39 := Nat.ne_of_lt (Nat.lt_of_lt_of_le f49.lt (Nat.le_of_eq g39.symm))
  have f51 : Exa Z h37 pa10 s5n := ((f29.ext E17).wr W37)
  have ne50 : pa10 ≠ b39 := Nat.ne_of_lt (Nat.lt_of_lt_of_le f51.lt (Nat.le_of_eq g39.symm))
  have f53 : Arv Z h37 b3 k3 .int (3 : Int32) ([(.int 0), (.int 0), (.int 0)]) (.int 0) := ((f31.ext E17).other W37 (Ne.symm ne4))
  have ne52 : b3 ≠ b39 := Nat.ne_of_lt (Nat.lt_of_lt_of_le f53.lt (Nat.le_of_eq g39.symm))
  have f55 : Arv Z h37 b17 k17 .int (3 : Int32) ([(.int 0), (.int 0), (.int 0)]) (.int 0) := (V17.other W37 (Ne.symm ne18))
  have ne54 : b17 ≠ b39 := Nat.ne_of_lt (Nat.lt_of_lt_of_le f55.lt (Nat.le_of_eq g39.symm))
  have g56 : n0 ≤ b39 := Nat.le_trans (own_sz O38) (Nat.le_of_eq g39.symm)
  have sz57 : h0.size ≤ b39 := Nat.le_trans K38.1 (Nat.le_of_eq g39.symm)
  have O58 : Old Z n0 h39 := O38.ext E39
  have K58 : Keep h0 h39 [pa1] := K38.ext E39
  have V39 : Arv Z h39 b39 k39 .int (3 : Int32) ([(.int 0), (.int 0), (.int 0)]) (.int 0) := (Arv.new A39 (by decide)).pad (pad_rep [] (.int 0) 3)
  have f59 : Exa Z h39 pa1 s9n := (f41.ext E39)
  have f60 : Fld Z h39 pa1 s9n "shift" "[I" .null := (((((P3.ext E3).other W15 (Or.inr (slot_ne (Or.inr (ow hw 134 rfl)) (Or.inr (ow hw 130 rfl)) (by decide) (t := (.array .int)) (t' := (.array .int)) (by decide) (by decide)))).ext E17).other W37 (Or.inr (slot_ne (Or.inr (ow hw 134 rfl)) (Or.inr (ow hw 132 rfl)) (by decide) (t := (.array .int)) (t' := (.array .int)) (by decide) (by decide)))).ext E39)
  obtain ⟨T61, h61, X61, e61, W61, st61⟩ := putF X39 hx hZ hown (host := "") (Or.inl (ow hw 133 rfl)) Via.refl e39 f60 f59 (Or.inr ⟨(ow hw 134 rfl), rfl, hnm⟩) (ow hw 115 rfl) (ty := (.array .int)) (by decide) rfl rfl (g := (mkF m 29 #[(vr pa1), (vr pa2), (vi 3), .unset, .unset, .unset, .unset, .unset, .unset, .unset] [(.ref b39), (.ref pa1)])) rfl rfl (hb hby d16_29)
  have N61 := Fr.snoc X61 N37 P38
  have O62 : Old Z n0 h61 := O58.wr W61 P38
  have K62 : Keep h0 h61 [pa1] := K58.wr W61 (Or.inl (List.mem_of_getElem? (i := 0) rfl))
  have Fw61 : Fld Z h61 pa1 s9n "shift" "[I" (.ref b39) := f60.same W61
  obtain ⟨T63, h63, k63, X63, e63, E63, A63, Z63, st63⟩ := newPE X61 hx hZ (ow hw 135 rfl) e61 (g := (mkF m 34 #[(vr pa1), (vr pa2), (vi 3), .unset, .unset, .unset, .unset, .unset, .unset, .unset] [(.int 3), (.ref pa1)])) rfl (hb hby d16_34) rfl (by decide) (cap := 3) (by decide) (by decide) (by decide) (by decide) (ad := "[J") rfl
  obtain ⟨b63, g63⟩ : ∃ z, z = h61.size := ⟨_, rfl⟩
  rw [← g63] at A63 Z63 st63
  have f65 : Exa Z h61 pa1 s9n := (f59.wr W61)
  have ne64 : pa1 ≠ b63 := Nat.ne_of_lt (Nat.lt_of_lt_of_le f65.lt (Nat.le_of_eq g63.symm))
  have f67 : Exa Z h61 pa2 s2n := ((f43.ext E39).wr W61)
  have ne66 : pa2 ≠ b63 := Nat.ne_of_lt (Nat.lt_of_lt_of_le f67.lt (Nat.le_of_eq g63.symm))
  have f69 : Arv Z h61 pa6 pk7 (.object s4n) (10 : Int32) ([(.ref pa8), (.ref pa9), (.ref pa10), .null, .null, .null, .null, .null, .null, .null]) .null := ((f45.ext E39).other W61 (Ne.symm P45))
  have ne68 : pa6 ≠ b63 := Nat.ne_of_lt (Nat.lt_of_lt_of_le f69.lt (Nat.le_of_eq g63.symm))
  have f71 : Exa Z h61 pa8 s5n := ((f47.ext E39).wr W61)
  have ne70 : pa8 ≠ b63 := Nat.ne_of_lt (Nat.lt_of_lt_of_le f71.lt (Nat.le_of_eq g63.symm))
  have f73 : Exa Z h61 pa9 s5n := ((f49.ext E39).wr W61)
  have ne72 : pa9 ≠ b63 := Nat.ne_of_lt (Nat.lt_of_lt_of_le f73.lt (Nat.le_of_eq g63.symm))
  have f75 : Exa Z h61 pa10 s5n := ((f51.ext E39).wr W61)
  have ne74 : pa10 ≠ b63 := Nat.ne_of_lt (Nat.lt_of_lt_of_le f75.lt (Nat.le_of_eq g63.symm))
  have f77 : Arv Z h61 b3 k3 .int (3 : Int32) ([(.int 0), (.int 0), (.int 0)]) (.int 0) := ((f53.ext E39).other W61 (Ne.symm ne4))
  have ne76 : b3 ≠ b63 := Nat.ne_of_lt (Nat.lt_of_lt_of_le f77.lt (Nat.le_of_eq g63.symm))
  have f79 : Arv Z h61 b17 k17 .int (3 : Int32) ([(.int 0), (.int 0), (.int 0)]) (.int 0) := ((f55.ext E39).other W61 (Ne.symm ne18))
  have ne78 : b17 ≠ b63 := Nat.ne_of_lt (Nat.lt_of_lt_of_le f79.lt (Nat.le_of_eq g63.symm))
  have f81 : Arv Z h61 b39 k39 .int (3 : Int32) ([(.int 0), (.int 0), (.int 0)]) (.int 0) := (V39.other W61 (Ne.symm ne40))
  have ne80 : b39 ≠ b63 := Nat.ne_of_lt (Nat.lt_of_lt_of_le f81.lt (Nat.le_of_eq g63.symm))
  have g82 : n0 ≤ b63 := Nat.le_trans (own_sz O62) (Nat.le_of_eq g63.symm)
  have sz83 : h0.size ≤ b63 := Nat.le_trans K62.1 (Nat.le_of_eq g63.symm)
  have O84 : Old Z n0 h63 := O62.ext E63
  have K84 : Keep h0 h63 [pa1] := K62.ext E63
  have V63 : Arv Z h63 b63 k63 .long (3 : Int32) ([(.long 0), (.long 0), (.long 0)]) (.long 0) := (Arv.new A63 (by decide)).pad (pad_rep [] (.long 0) 3)
  have f85 : Exa Z h63 pa1 s9n := (f65.ext E63)
  have f86 : Fld Z h63 pa1 s9n "mask" "[J" .null := (((((((P2.ext E3).other W15 (Or.inr (slot_ne (Or.inr (ow hw 137 rfl)) (Or.inr (ow hw 130 rfl)) (by decide) (t := (.array .long)) (t' := (.array .int)) (by decide) (by decide)))).ext E17).other W37 (Or.inr (slot_ne (Or.inr (ow hw 137 rfl)) (Or.inr (ow hw 132 rfl)) (by decide) (t := (.array .long)) (t' := (.array .int)) (by decide) (by decide)))).ext E39).other W61 (Or.inr (slot_ne (Or.inr (ow hw 137 rfl)) (Or.inr (ow hw 134 rfl)) (by decide) (t := (.array .long)) (t' := (.array .int)) (by decide) (by decide)))).ext E63)
  obtain ⟨T87, h87, X87, e87, W87, st87⟩ := putF X63 hx hZ hown (host := "") (Or.inl (ow hw 136 rfl)) Via.refl e63 f86 f85 (Or.inr ⟨(ow hw 137 rfl), rfl, hnm⟩) (ow hw 115 rfl) (ty := (.array .long)) (by decide) rfl rfl (g := (mkF m 36 #[(vr pa1), (vr pa2), (vi 3), .unset, .unset, .unset, .unset, .unset, .unset, .unset] [(.ref b63), (.ref pa1)])) rfl rfl (hb hby d16_36)
  have N87 := Fr.snoc X87 N61 P38
  have O88 : Old Z n0 h87 := O84.wr W87 P38
  have K88 : Keep h0 h87 [pa1] := K84.wr W87 (Or.inl (List.mem_of_getElem? (i := 0) rfl))
  have Fw87 : Fld Z h87 pa1 s9n "mask" "[J" (.ref b63) := f86.same W87
  have f89 : Exa Z h87 pa2 s2n := ((f67.ext E63).wr W87)
  have f90 : Fld Z h87 pa2 s2n "elementData" s3n (.ref pa6) := ((((((((P8.ext E3).other W15 (Or.inl (Ne.symm P44))).ext E17).other W37 (Or.inl (Ne.symm P44))).ext E39).other W61 (Or.inl (Ne.symm P44))).ext E63).other W87 (Or.inl (Ne.symm P44)))
  have f91 : Fld Z h87 pa2 s2n "size" "I" (.int 3) := ((((((((P9.ext E3).other W15 (Or.inl (Ne.symm P44))).ext E17).other W37 (Or.inl (Ne.symm P44))).ext E39).other W61 (Or.inl (Ne.symm P44))).ext E63).other W87 (Or.inl (Ne.symm P44)))
  have f92 : Arv Z h87 pa6 pk7 (.object s4n) (10 : Int32) ([(.ref pa8), (.ref pa9), (.ref pa10), .null, .null, .null, .null, .null, .null, .null]) .null := ((f69.ext E63).other W87 (Ne.symm P45))
  obtain ⟨cq93, kq93, q93a, q93b, q93c⟩ := isOf hZ e87 f89
  obtain ⟨_, _, ⟨T93, L93, k93, n93⟩, -, X93, ⟨Lc93, hQ93, l93, y93, z93⟩, st93⟩ := X87.interfaceBack hx (xi := M26) (y := M21) hown (mvT hZ (ow hw 138 rfl)) (mvT hZ (ow hw 139 rfl)) (mvT hZ (ow hw 140 rfl)) (mvT hZ (ow hw 141 rfl)) (mvT hZ (ow hw 142 rfl)) (mvT hZ (ow hw 143 rfl)) (mvT hZ (ow hw 144 rfl)) (mvT hZ (ow hw 84 rfl)) (by decide) (backOf (W := 0) (au18_0 l Z a0 hw [] wINTEGER wDOUBLE wBOOLEAN wD kwD hS pa2 pa6 pk7 pa8 pa9 pa10 h87 n0 O88 f89 f90 f91 f92) hZ (ow hw 145 rfl) (ow hw 15 rfl) (by decide) (by decide)) q93a q93b q93c (g := (mkF m 56 #[(vr pa1), (vr pa2), (vi 3), (vi 1), (vi 0), (vi 0), .unset, .unset, .unset, .unset] [(.int 0), (.ref pa2)])) rfl (by rw [hml]; rfl) (Steps.refl _) (argsL := [(.int 0)]) (rest := []) (lenOf pd_14 rfl) rfl (by show 2 * 0 + _ ≤ _; exact Nat.le_of_eq rfl) (hb hby d16_56) (fun _ _ => ⟨rfl, e87, (by decide : 4 + 0 ≤ _), (by decide : 12 + 0 ≤ _)⟩)
  dsimp only [Pt.U, Pt.locs, Pt.cells, Pt.slots] at X93 l93 y93 z93 st93 hQ93
  subst y93 z93
  obtain ⟨rfl, Nq93, K93q⟩ := hQ93
  have N93 : Fr n0 L93 := (congrArg (Fr n0) l93).mpr (Fr.app N87 Nq93)
  have f94 : Exa Z h87 pa8 s5n := ((f71.ext E63).wr W87)
  obtain ⟨T95, X95, e95, st95⟩ := castY X93 hx hZ hown (ow hw 159 rfl) K93q (Ins.self f94) (g := (mkF m 61 #[(vr pa1), (vr pa2), (vi 3), (vi 1), (vi 0), (vi 0), .unset, .unset, .unset, .unset] [(.ref pa8)])) rfl rfl (hb hby d16_61)
  have f96 : Fld Z h87 pa8 s5n "high" "I" (.int pi11) := ((((((((P14.ext E3).other W15 (Or.inl (Ne.symm P46))).ext E17).other W37 (Or.inl (Ne.symm P46))).ext E39).other W61 (Or.inl (Ne.symm P46))).ext E63).other W87 (Or.inl (Ne.symm P46)))
  obtain ⟨cq97, kq97, q97a, q97b, q97c⟩ := isOf hZ e95 f94
  obtain ⟨_, _, ⟨T97, L97, k97, n97⟩, -, X97, ⟨Lc97, hQ97, l97, y97, z97⟩, st97⟩ := X95.virtualBack hx (y := M22) (z := M22) hown (mvT hZ (ow hw 161 rfl)) (mvT hZ (ow hw 162 rfl)) (notFace_of_selects (args := #[]) (mvT hZ (ow hw 164 rfl))) (mvT hZ (ow hw 164 rfl)) (mvT hZ (ow hw 163 rfl)) (by decide) (backOf (W := 0) (au22_0 l Z a0 hw [] wINTEGER wDOUBLE wBOOLEAN wD kwD hS pa8 pi11 h87 n0 O88 f96) hZ (ow hw 165 rfl) (ow hw 52 rfl) (by decide) (by decide)) q97a q97c (g := (mkF m 68 #[(vr pa1), (vr pa2), (vi 3), (vi 1), (vi 0), (vi 0), (vr pa8), .unset, .unset, .unset] [(.ref pa8)])) rfl (by rw [hml]; rfl) (Steps.refl _) (argsL := []) (rest := []) (lenOf pd_12 rfl) rfl (by show 2 * 0 + _ ≤ _; exact Nat.le_of_eq rfl) (hb hby d16_68) (fun _ _ => ⟨rfl, e95, (by decide : 4 + 0 ≤ _), (by decide : 12 + 0 ≤ _)⟩)
  dsimp only [Pt.U, Pt.locs, Pt.cells, Pt.slots] at X97 l97 y97 z97 st97 hQ97
  subst y97 z97
  obtain ⟨rfl, Nq97, K97q⟩ := hQ97
  have N97 : Fr n0 L97 := (congrArg (Fr n0) l97).mpr (Fr.app N93 Nq97)
  have f98 : Fld Z h87 pa8 s5n "low" "I" (.int pi12) := ((((((((P15.ext E3).other W15 (Or.inl (Ne.symm P46))).ext E17).other W37 (Or.inl (Ne.symm P46))).ext E39).other W61 (Or.inl (Ne.symm P46))).ext E63).other W87 (Or.inl (Ne.symm P46)))
  obtain ⟨cq99, kq99, q99a, q99b, q99c⟩ := isOf hZ K97q f94
  obtain ⟨_, _, ⟨T99, L99, k99, n99⟩, -, X99, ⟨Lc99, hQ99, l99, y99, z99⟩, st99⟩ := X97.virtualBack hx (y := M23) (z := M23) hown (mvT hZ (ow hw 166 rfl)) (mvT hZ (ow hw 167 rfl)) (notFace_of_selects (args := #[]) (mvT hZ (ow hw 169 rfl))) (mvT hZ (ow hw 169 rfl)) (mvT hZ (ow hw 168 rfl)) (by decide) (backOf (W := 2) (au23_0 l Z a0 hw [] wINTEGER wDOUBLE wBOOLEAN wD kwD hS pa8 pi12 h87 n0 O88 f98) hZ (ow hw 170 rfl) (ow hw 52 rfl) (by decide) (by decide)) q99a q99c (g := (mkF m 74 #[(vr pa1), (vr pa2), (vi 3), (vi 1), (vi 0), (vi 0), (vr pa8), .unset, .unset, .unset] [(.ref pa8), (.long (pi11.toInt64))])) rfl (by rw [hml]; rfl) (Steps.refl _) (argsL := []) (rest := [(.long (pi11.toInt64))]) (lenOf pd_12 rfl) rfl (by show 2 * 0 + _ ≤ _; exact Nat.le_of_eq rfl) (hb hby d16_74) (fun _ _ => ⟨rfl, K97q, (by decide : 4 + 0 ≤ _), (by decide : 12 + 0 ≤ _)⟩)
  dsimp only [Pt.U, Pt.locs, Pt.cells, Pt.slots] at X99 l99 y99 z99 st99 hQ99
  subst y99 z99
  obtain ⟨rfl, Nq99, K99q⟩ := hQ99
  have N99 : Fr n0 L99 := (congrArg (Fr n0) l99).mpr (Fr.app N97 Nq99)
  obtain ⟨_, _, ⟨T100, L100, k100, n100⟩, -, X100, ⟨Lc100, hQ100, l100, y100, z100⟩, st100⟩ := Jvm.LawKit.callS X99 hx (y := M5) hown (mvT hZ (ow hw 171 rfl)) (mvT hZ (ow hw 172 rfl)) (mvT hZ (ow hw 173 rfl)) (mvT hZ (ow hw 174 rfl)) (by decide) (backOf (W := 1) (rmNlz64 l Z a0 hw [] wINTEGER wDOUBLE wBOOLEAN wD kwD hS ((pi11.toInt64) - (pi12.toInt64)) h87 n0 O88 ) hZ (ow hw 174 rfl) (ow hw 173 rfl) (by decide) (by decide)) (g := (mkF m 85 #[(vr pa1), (vr pa2), (vi 3), (vi 1), (vi 0), (vi 0), (vr pa8), .val (.long ((pi11.toInt64) - (pi12.toInt64))), .second, .unset] [(.long ((pi11.toInt64) - (pi12.toInt64))), (.int 64)])) rfl (by rw [hml]; rfl) (argsL := [(.long ((pi11.toInt64) - (pi12.toInt64)))]) (rest := [(.int 64)]) (lenOf pd_15 rfl) rfl (by show 2 * 0 + _ ≤ _; exact Nat.le_of_eq rfl) (hb hby d16_85) (fun _ _ => ⟨rfl, K99q, (by decide : 4 + 0 ≤ _), (by decide : 12 + 0 ≤ _)⟩)
  dsimp only [Pt.U, Pt.locs, Pt.cells, Pt.slots] at X100 l100 y100 z100 st100 hQ100
  subst y100 z100
  obtain ⟨r_100, rfl, Nq100, K100q, p100_0⟩ := hQ100
  have N100 : Fr n0 L100 := (congrArg (Fr n0) l100).mpr (Fr.app N99 Nq100)
  have hb101 : ((64 : Int32) - r_100) = pi3 := by rw [p100_0]; exact P28
  have pre102 : ∀ t, Steps p.tables e below (T100.setTop (mkF m 89 #[(vr pa1), (vr pa2), (vi 3), (vi 1), (vi 0), (vi 0), (vr pa8), .val (.long ((pi11.toInt64) - (pi12.toInt64))), .second, .unset] [(.int pi3)])) t → Steps p.tables e below (s₁.setTop (entryFrame m #[(.ref pa1), (.ref pa2)] 10)) t := by
    intro t k
    refine pre0 t ?_
    show Steps p.tables e below (s₁.setTop (mkF m 0 #[(vr pa1), (vr pa2), .unset, .unset, .unset, .unset, .unset, .unset, .unset, .unset] [])) _
    refine XS.aloadN X0.here hx rfl (hb hby d16_0) rfl rfl ?_
    refine st1 _ ?_
    refine XS.aloadN X1.here hx rfl (hb hby d16_4) rfl rfl ?_
    refine st2.trans ?_
    refine XS.istoreN X2.here hx rfl (hb hby d16_10) rfl (l' := #[(vr pa1), (vr pa2), (vi 3), .unset, .unset, .unset, .unset, .unset, .unset, .unset]) rfl ?_
    refine XS.aloadN X2.here hx rfl (hb hby d16_11) rfl rfl ?_
    refine XS.iloadN X2.here hx rfl (hb hby d16_12) rfl ?_
    refine st3 _ ?_
    refine st15 _ ?_
    refine XS.aloadN X15.here hx rfl (hb hby d16_18) rfl rfl ?_
    refine XS.iloadN X15.here hx rfl (hb hby d16_19) rfl ?_
    refine st17 _ ?_
    refine st37 _ ?_
    refine XS.aloadN X37.here hx rfl (hb hby d16_25) rfl rfl ?_
    show Steps p.tables e below (T37.setTop (mkF m 26 #[(vr pa1), (vr pa2), (vi 3), .unset, .unset, .unset, .unset, .unset, .unset, .unset] [(.ref pa1)])) _
    refine XS.iloadN X37.here hx rfl (hb hby d16_26) rfl ?_
    refine st39 _ ?_
    refine st61 _ ?_
    refine XS.aloadN X61.here hx rfl (hb hby d16_32) rfl rfl ?_
    refine XS.iloadN X61.here hx rfl (hb hby d16_33) rfl ?_
    refine st63 _ ?_
    refine st87 _ ?_
    refine XS.iconst X87.here hx rfl (hb hby d16_39) ?_
    refine XS.istoreN X87.here hx rfl (hb hby d16_40) rfl (l' := #[(vr pa1), (vr pa2), (vi 3), (vi 1), .unset, .unset, .unset, .unset, .unset, .unset]) rfl ?_
    refine XS.iconst X87.here hx rfl (hb hby d16_41) ?_
    refine XS.istore X87.here hx rfl (hb hby d16_42) rfl (l' := #[(vr pa1), (vr pa2), (vi 3), (vi 1), (vi 0), .unset, .unset, .unset, .unset, .unset]) rfl ?_
    refine XS.iconst X87.here hx rfl (hb hby d16_44) ?_
    refine XS.istore X87.here hx rfl (hb hby d16_45) rfl (l' := #[(vr pa1), (vr pa2), (vi 3), (vi 1), (vi 0), (vi 0), .unset, .unset, .unset, .unset]) rfl ?_
    refine XS.iload X87.here hx rfl (hb hby d16_47) rfl ?_
    show Steps p.tables e below (T87.setTop (mkF m 49 #[(vr pa1), (vr pa2), (vi 3), (vi 1), (vi 0), (vi 0), .unset, .unset, .unset, .unset] [(.int 0)])) _
    refine XS.iloadN X87.here hx rfl (hb hby d16_49) rfl ?_
    refine XS.icmpNo X87.here hx rfl (hb hby d16_50) rfl (tlt (by decide : (0 : Int32) < (3 : Int32))).2.1 ?_
    refine XS.aloadN X87.here hx rfl (hb hby d16_53) rfl rfl ?_
    refine XS.iload X87.here hx rfl (hb hby d16_54) rfl ?_
    refine st93.trans ?_
    refine st95 _ ?_
    refine XS.astore X95.here hx rfl (hb hby d16_64) rfl rfl (l' := #[(vr pa1), (vr pa2), (vi 3), (vi 1), (vi 0), (vi 0), (vr pa8), .unset, .unset, .unset]) rfl ?_
    refine XS.aload X95.here hx rfl (hb hby d16_66) rfl rfl ?_
    refine st97.trans ?_
    refine XS.i2l X97.here hx rfl (hb hby d16_71) rfl ?_
    refine XS.aload X97.here hx rfl (hb hby d16_72) rfl rfl ?_
    refine st99.trans ?_
    refine XS.i2l X99.here hx rfl (hb hby d16_77) rfl ?_
    refine XS.lsub X99.here hx rfl (hb hby d16_78) rfl ?_
    show Steps p.tables e below (T99.setTop (mkF m 79 #[(vr pa1), (vr pa2), (vi 3), (vi 1), (vi 0), (vi 0), (vr pa8), .unset, .unset, .unset] [(.long ((pi11.toInt64) - (pi12.toInt64)))])) _
    refine XS.lstore X99.here hx rfl (hb hby d16_79) rfl (l' := #[(vr pa1), (vr pa2), (vi 3), (vi 1), (vi 0), (vi 0), (vr pa8), .val (.long ((pi11.toInt64) - (pi12.toInt64))), .second, .unset]) rfl ?_
    refine XS.bipush X99.here hx rfl (hb hby d16_81) ?_
    refine XS.lload X99.here hx rfl (hb hby d16_83) rfl ?_
    refine st100 _ ?_
    refine XS.isub X100.here hx rfl (hb hby d16_88) rfl ?_
    rw [hb101]
    exact k
  have f103 : Fld Z h87 pa1 s9n "low" "[I" (.ref b3) := ((((((Fw15.ext E17).other W37 (Or.inr (slot_ne (Or.inr (ow hw 130 rfl)) (Or.inr (ow hw 132 rfl)) (by decide) (t := (.array .int)) (t' := (.array .int)) (by decide) (by decide)))).ext E39).other W61 (Or.inr (slot_ne (Or.inr (ow hw 130 rfl)) (Or.inr (ow hw 134 rfl)) (by decide) (t := (.array .int)) (t' := (.array .int)) (by decide) (by decide)))).ext E63).other W87 (Or.inr (slot_ne (Or.inr (ow hw 130 rfl)) (Or.inr (ow hw 137 rfl)) (by decide) (t := (.array .int)) (t' := (.array .long)) (by decide) (by decide))))
  obtain ⟨T104, X104, e104, st104⟩ := getF X100 hx hZ hown (host := "") (Or.inl (ow hw 129 rfl)) Via.refl K100q f103 (g := (mkF m 108 #[(vr pa1), (vr pa2), (vi 3), (vi 1), (vi 0), (vi 0), (vr pa8), .val (.long ((pi11.toInt64) - (pi12.toInt64))), .second, (vi pi3)] [(.ref pa1)])) rfl rfl (hb hby d16_108)
  obtain ⟨cq105, kq105, q105a, q105b, q105c⟩ := isOf hZ e104 f94
  obtain ⟨_, _, ⟨T105, L105, k105, n105⟩, -, X105, ⟨Lc105, hQ105, l105, y105, z105⟩, st105⟩ := X104.virtualBack hx (y := M23) (z := M23) hown (mvT hZ (ow hw 166 rfl)) (mvT hZ (ow hw 167 rfl)) (notFace_of_selects (args := #[]) (mvT hZ (ow hw 169 rfl))) (mvT hZ (ow hw 169 rfl)) (mvT hZ (ow hw 168 rfl)) (by decide) (backOf (W := 2) (au23_0 l Z a0 hw [] wINTEGER wDOUBLE wBOOLEAN wD kwD hS pa8 pi12 h87 n0 O88 f98) hZ (ow hw 170 rfl) (ow hw 52 rfl) (by decide) (by decide)) q105a q105c (g := (mkF m 115 #[(vr pa1), (vr pa2), (vi 3), (vi 1), (vi 0), (vi 0), (vr pa8), .val (.long ((pi11.toInt64) - (pi12.toInt64))), .second, (vi pi3)] [(.ref pa8), (.int 0), (.ref b3)])) rfl (by rw [hml]; rfl) (Steps.refl _) (argsL := []) (rest := [(.int 0), (.ref b3)]) (lenOf pd_12 rfl) rfl (by show 2 * 0 + _ ≤ _; exact Nat.le_of_eq rfl) (hb hby d16_115) (fun _ _ => ⟨rfl, e104, (by decide : 4 + 0 ≤ _), (by decide : 12 + 0 ≤ _)⟩)
  dsimp only [Pt.U, Pt.locs, Pt.cells, Pt.slots] at X105 l105 y105 z105 st105 hQ105
  subst y105 z105
  obtain ⟨rfl, Nq105, K105q⟩ := hQ105
  have N105 : Fr n0 L105 := (congrArg (Fr n0) l105).mpr (Fr.app N100 Nq105)
  have f106 : Arv Z h87 b3 k3 .int (3 : Int32) ([(.int 0), (.int 0), (.int 0)]) (.int 0) := ((f77.ext E63).other W87 (Ne.symm ne4))
  obtain ⟨cl107, Ar107, qc107, Sz107, Nn107, Ha107, Gg107⟩ := (id f106)
  have hin107 : ¬ ((0 : Int32) < 0 ∨ cl107.slots.size ≤ ((0 : Int32)).toNatClampNeg) := inb_of Sz107 ⟨by decide, by decide⟩
  obtain ⟨T107, h107, X107, e107, W107, st107⟩ := stI X105 hx hZ K105q Ar107 (j := (0 : Int32)) hin107 (g := (mkF m 118 #[(vr pa1), (vr pa2), (vi 3), (vi 1), (vi 0), (vi 0), (vr pa8), .val (.long ((pi11.toInt64) - (pi12.toInt64))), .second, (vi pi3)] [(.int pi12), (.int 0), (.ref b3)])) rfl rfl (hb hby d16_118)
  have O108 : Old Z n0 h107 := O88.wr W107 g10
  have K108 : Keep h0 h107 [pa1] := K88.wr W107 (Or.inr sz11)
  have V107 : Arv Z h107 b3 k3 .int (3 : Int32) ([(.int pi12), (.int 0), (.int 0)]) (.int 0) := (Arv.set Ar107 qc107 Sz107 Nn107 Ha107 Gg107 (v := (.int pi12)) rfl W107 0 rfl (Nat.le_of_ble_eq_true rfl))
  have N107 := Fr.snoc X107 N105 g10
  have f109 : Fld Z h107 pa1 s9n "word" "[I" (.ref b17) := (((((Fw37.ext E39).other W61 (Or.inr (slot_ne (Or.inr (ow hw 132 rfl)) (Or.inr (ow hw 134 rfl)) (by decide) (t := (.array .int)) (t' := (.array .int)) (by decide) (by decide)))).ext E63).other W87 (Or.inr (slot_ne (Or.inr (ow hw 132 rfl)) (Or.inr (ow hw 137 rfl)) (by decide) (t := (.array .int)) (t' := (.array .long)) (by decide) (by decide)))).other W107 (Or.inl ne4))
  obtain ⟨T110, X110, e110, st110⟩ := getF X107 hx hZ hown (host := "") (Or.inl (ow hw 131 rfl)) Via.refl e107 f109 (g := (mkF m 120 #[(vr pa1), (vr pa2), (vi 3), (vi 1), (vi 0), (vi 0), (vr pa8), .val (.long ((pi11.toInt64) - (pi12.toInt64))), .second, (vi pi3)] [(.ref pa1)])) rfl rfl (hb hby d16_120)
  have f111 : Arv Z h107 b17 k17 .int (3 : Int32) ([(.int 0), (.int 0), (.int 0)]) (.int 0) := (((f79.ext E63).other W87 (Ne.symm ne18)).other W107 (Ne.symm ne30))
  obtain ⟨cl112, Ar112, qc112, Sz112, Nn112, Ha112, Gg112⟩ := (id f111)
  have hin112 : ¬ ((0 : Int32) < 0 ∨ cl112.slots.size ≤ ((0 : Int32)).toNatClampNeg) := inb_of Sz112 ⟨by decide, by decide⟩
  obtain ⟨T112, h112, X112, e112, W112, st112⟩ := stI X110 hx hZ e110 Ar112 (j := (0 : Int32)) hin112 (g := (mkF m 128 #[(vr pa1), (vr pa2), (vi 3), (vi 1), (vi 0), (vi 0), (vr pa8), .val (.long ((pi11.toInt64) - (pi12.toInt64))), .second, (vi pi3)] [(.int 0), (.int 0), (.ref b17)])) rfl rfl (hb hby d16_128)
  have O113 : Old Z n0 h112 := O108.wr W112 g32
  have K113 : Keep h0 h112 [pa1] := K108.wr W112 (Or.inr sz33)
  have V112 : Arv Z h112 b17 k17 .int (3 : Int32) ([(.int 0), (.int 0), (.int 0)]) (.int 0) := (Arv.set Ar112 qc112 Sz112 Nn112 Ha112 Gg112 (v := (.int 0)) rfl W112 0 rfl (Nat.le_of_ble_eq_true rfl))
  have N112 := Fr.snoc X112 N107 g32
  have f114 : Fld Z h112 pa1 s9n "shift" "[I" (.ref b39) := ((((Fw61.ext E63).other W87 (Or.inr (slot_ne (Or.inr (ow hw 134 rfl)) (Or.inr (ow hw 137 rfl)) (by decide) (t := (.array .int)) (t' := (.array .long)) (by decide) (by decide)))).other W107 (Or.inl ne4)).other W112 (Or.inl ne18))
  obtain ⟨T115, X115, e115, st115⟩ := getF X112 hx hZ hown (host := "") (Or.inl (ow hw 133 rfl)) Via.refl e112 f114 (g := (mkF m 130 #[(vr pa1), (vr pa2), (vi 3), (vi 1), (vi 0), (vi 0), (vr pa8), .val (.long ((pi11.toInt64) - (pi12.toInt64))), .second, (vi pi3)] [(.ref pa1)])) rfl rfl (hb hby d16_130)
  have f116 : Arv Z h112 b39 k39 .int (3 : Int32) ([(.int 0), (.int 0), (.int 0)]) (.int 0) := ((((f81.ext E63).other W87 (Ne.symm ne40)).other W107 (Ne.symm ne52)).other W112 (Ne.symm ne54))
  obtain ⟨cl117, Ar117, qc117, Sz117, Nn117, Ha117, Gg117⟩ := (id f116)
  have hin117 : ¬ ((0 : Int32) < 0 ∨ cl117.slots.size ≤ ((0 : Int32)).toNatClampNeg) := inb_of Sz117 ⟨by decide, by decide⟩
  obtain ⟨T117, h117, X117, e117, W117, st117⟩ := stI X115 hx hZ e115 Ar117 (j := (0 : Int32)) hin117 (g := (mkF m 137 #[(vr pa1), (vr pa2), (vi 3), (vi 1), (vi 0), (vi 0), (vr pa8), .val (.long ((pi11.toInt64) - (pi12.toInt64))), .second, (vi pi3)] [(.int 0), (.int 0), (.ref b39)])) rfl rfl (hb hby d16_137)
  have O118 : Old Z n0 h117 := O113.wr W117 g56
  have K118 : Keep h0 h117 [pa1] := K113.wr W117 (Or.inr sz57)
  have V117 : Arv Z h117 b39 k39 .int (3 : Int32) ([(.int 0), (.int 0), (.int 0)]) (.int 0) := (Arv.set Ar117 qc117 Sz117 Nn117 Ha117 Gg117 (v := (.int 0)) rfl W117 0 rfl (Nat.le_of_ble_eq_true rfl))
  have N117 := Fr.snoc X117 N112 g56
  have f119 : Fld Z h117 pa1 s9n "mask" "[J" (.ref b63) := (((Fw87.other W107 (Or.inl ne4)).other W112 (Or.inl ne18)).other W117 (Or.inl ne40))
  obtain ⟨T120, X120, e120, st120⟩ := getF X117 hx hZ hown (host := "") (Or.inl (ow hw 136 rfl)) Via.refl e117 f119 (g := (mkF m 139 #[(vr pa1), (vr pa2), (vi 3), (vi 1), (vi 0), (vi 0), (vr pa8), .val (.long ((pi11.toInt64) - (pi12.toInt64))), .second, (vi pi3)] [(.ref pa1)])) rfl rfl (hb hby d16_139)
  have pre121 : ∀ t, Steps p.tables e below (T120.setTop (mkF m 146 #[(vr pa1), (vr pa2), (vi 3), (vi 1), (vi 0), (vi 0), (vr pa8), .val (.long ((pi11.toInt64) - (pi12.toInt64))), .second, (vi pi3)] [(.int pi3), (.int 0), (.ref b63)])) t → Steps p.tables e below (s₁.setTop (entryFrame m #[(.ref pa1), (.ref pa2)] 10)) t := by
    intro t k
    refine pre102 t ?_
    show Steps p.tables e below (T100.setTop (mkF m 89 #[(vr pa1), (vr pa2), (vi 3), (vi 1), (vi 0), (vi 0), (vr pa8), .val (.long ((pi11.toInt64) - (pi12.toInt64))), .second, .unset] [(.int pi3)])) _
    refine XS.istore X100.here hx rfl (hb hby d16_89) rfl (l' := #[(vr pa1), (vr pa2), (vi 3), (vi 1), (vi 0), (vi 0), (vr pa8), .val (.long ((pi11.toInt64) - (pi12.toInt64))), .second, (vi pi3)]) rfl ?_
    refine XS.iload X100.here hx rfl (hb hby d16_91) rfl ?_
    refine XS.iload X100.here hx rfl (hb hby d16_93) rfl ?_
    refine XS.iadd X100.here hx rfl (hb hby d16_95) rfl ?_
    refine XS.bipush X100.here hx rfl (hb hby d16_96) ?_
    refine XS.icmpYes X100.here hx rfl (pc0 := 98) (pc' := 107) rfl (hb hby d16_98) rfl (flt (P34 : ¬ ((64 : Int32) < ((0 : Int32) + pi3)))).2.2.2 (by decide) (by decide) ?_
    refine XS.aloadN X100.here hx rfl (hb hby d16_107) rfl rfl ?_
    refine st104 _ ?_
    refine XS.iload X104.here hx rfl (hb hby d16_111) rfl ?_
    refine XS.aload X104.here hx rfl (hb hby d16_113) rfl rfl ?_
    refine st105.trans ?_
    refine st107 _ ?_
    refine XS.aloadN X107.here hx rfl (hb hby d16_119) rfl rfl ?_
    refine st110 _ ?_
    show Steps p.tables e below (T110.setTop (mkF m 123 #[(vr pa1), (vr pa2), (vi 3), (vi 1), (vi 0), (vi 0), (vr pa8), .val (.long ((pi11.toInt64) - (pi12.toInt64))), .second, (vi pi3)] [(.ref b17)])) _
    refine XS.iload X110.here hx rfl (hb hby d16_123) rfl ?_
    refine XS.iloadN X110.here hx rfl (hb hby d16_125) rfl ?_
    refine XS.iconst X110.here hx rfl (hb hby d16_126) ?_
    refine XS.isub X110.here hx rfl (hb hby d16_127) rfl ?_
    refine st112 _ ?_
    refine XS.aloadN X112.here hx rfl (hb hby d16_129) rfl rfl ?_
    refine st115 _ ?_
    refine XS.iload X115.here hx rfl (hb hby d16_133) rfl ?_
    refine XS.iload X115.here hx rfl (hb hby d16_135) rfl ?_
    refine st117 _ ?_
    refine XS.aloadN X117.here hx rfl (hb hby d16_138) rfl rfl ?_
    refine st120 _ ?_
    refine XS.iload X120.here hx rfl (hb hby d16_142) rfl ?_
    refine XS.iload X120.here hx rfl (hb hby d16_144) rfl ?_
    exact k
  obtain ⟨y123, hy123⟩ : ∃ z : Int64, z = (if pi3 = (0 : Int32) then (0 : Int64) else (((-1 : Int64).toUInt64 >>> (((64 : Int32) - pi3) &&& 0x3f).toInt64.toUInt64).toInt64)) := ⟨_, rfl⟩
  have pre124 : ∀ t, Steps p.tables e below (T120.setTop (mkF m 162 #[(vr pa1), (vr pa2), (vi 3), (vi 1), (vi 0), (vi 0), (vr pa8), .val (.long ((pi11.toInt64) - (pi12.toInt64))), .second, (vi pi3)] [(.long y123), (.int 0), (.ref b63)])) t → Steps p.tables e below (s₁.setTop (entryFrame m #[(.ref pa1), (.ref pa2)] 10)) t := by
    intro t k
    rw [hy123] at k
    refine pre121 t ?_
    show Steps p.tables e below (T120.setTop (mkF m 146 #[(vr pa1), (vr pa2), (vi 3), (vi 1), (vi 0), (vi 0), (vr pa8), .val (.long ((pi11.toInt64) - (pi12.toInt64))), .second, (vi pi3)] [(.int pi3), (.int 0), (.ref b63)])) _
    rcases Decidable.em (pi3 = (0 : Int32)) with hm122 | hm122
    · first | simp only [if_pos hm122] at k | skip
      refine XS.ifNo X120.here hx rfl (hb hby d16_146) rfl ((if0 _ _).trans (teq hm122).2) ?_
      refine XS.lconst X120.here hx rfl (hb hby d16_149) ?_
      refine XS.goto X120.here hx rfl (pc0 := 150) (pc' := 162) rfl (hb hby d16_150) (by decide) (by decide) ?_
      exact k
    · first | simp only [if_neg hm122] at k | skip
      refine XS.ifYes X120.here hx rfl (pc0 := 146) (pc' := 153) rfl (hb hby d16_146) rfl ((if0 _ _).trans (feq hm122).2) (by decide) (by decide) ?_
      refine X120.ldc2Long hx hown (mvT hZ (ow hw 180 rfl)) (g := (mkF m 153 #[(vr pa1), (vr pa2), (vi 3), (vi 1), (vi 0), (vi 0), (vr pa8), .val (.long ((pi11.toInt64) - (pi12.toInt64))), .second, (vi pi3)] [(.int 0), (.ref b63)])) rfl (hb hby d16_153) _ ?_
      refine XS.bipush X120.here hx rfl (hb hby d16_156) ?_
      refine XS.iload X120.here hx rfl (hb hby d16_158) rfl ?_
      refine XS.isub X120.here hx rfl (hb hby d16_160) rfl ?_
      refine XS.lushr X120.here hx rfl (hb hby d16_161) rfl ?_
      exact k
  have hm125 : y123 = maskV pi3 := hy123
  have pre126 : ∀ t, Steps p.tables e below (T120.setTop (mkF m 162 #[(vr pa1), (vr pa2), (vi 3), (vi 1), (vi 0), (vi 0), (vr pa8), .val (.long ((pi11.toInt64) - (pi12.toInt64))), .second, (vi pi3)] [(.long (maskV pi3)), (.int 0), (.ref b63)])) t → Steps p.tables e below (s₁.setTop (entryFrame m #[(.ref pa1), (.ref pa2)] 10)) t := by
    intro t k
    refine pre124 t ?_
    rw [hm125]
    exact k
  have f127 : Arv Z h117 b63 k63 .long (3 : Int32) ([(.long 0), (.long 0), (.long 0)]) (.long 0) := ((((V63.other W87 (Ne.symm ne64)).other W107 (Ne.symm ne76)).other W112 (Ne.symm ne78)).other W117 (Ne.symm ne80))
  obtain ⟨cl128, Ar128, qc128, Sz128, Nn128, Ha128, Gg128⟩ := (id f127)
  have hin128 : ¬ ((0 : Int32) < 0 ∨ cl128.slots.size ≤ ((0 : Int32)).toNatClampNeg) := inb_of Sz128 ⟨by decide, by decide⟩
  obtain ⟨T128, h128, X128, e128, W128, st128⟩ := stJ X120 hx hZ e120 Ar128 (j := (0 : Int32)) hin128 (g := (mkF m 162 #[(vr pa1), (vr pa2), (vi 3), (vi 1), (vi 0), (vi 0), (vr pa8), .val (.long ((pi11.toInt64) - (pi12.toInt64))), .second, (vi pi3)] [(.long (maskV pi3)), (.int 0), (.ref b63)])) rfl rfl (hb hby d16_162)
  have O129 : Old Z n0 h128 := O118.wr W128 g82
  have K129 : Keep h0 h128 [pa1] := K118.wr W128 (Or.inr sz83)
  have V128 : Arv Z h128 b63 k63 .long (3 : Int32) ([(.long (maskV pi3)), (.long 0), (.long 0)]) (.long 0) := (Arv.set Ar128 qc128 Sz128 Nn128 Ha128 Gg128 (v := (.long (maskV pi3))) rfl W128 0 rfl (Nat.le_of_ble_eq_true rfl))
  have N128 := Fr.snoc X128 N117 g82
  have f130 : Exa Z h128 pa2 s2n := ((((f89.wr W107).wr W112).wr W117).wr W128)
  have f131 : Fld Z h128 pa2 s2n "elementData" s3n (.ref pa6) := ((((f90.other W107 (Or.inl ne5)).other W112 (Or.inl ne20)).other W117 (Or.inl ne42)).other W128 (Or.inl ne66))
  have f132 : Fld Z h128 pa2 s2n "size" "I" (.int 3) := ((((f91.other W107 (Or.inl ne5)).other W112 (Or.inl ne20)).other W117 (Or.inl ne42)).other W128 (Or.inl ne66))
  have f133 : Arv Z h128 pa6 pk7 (.object s4n) (10 : Int32) ([(.ref pa8), (.ref pa9), (.ref pa10), .null, .null, .null, .null, .null, .null, .null]) .null := ((((f92.other W107 ne6).other W112 ne22).other W117 ne44).other W128 ne68)
  obtain ⟨cq134, kq134, q134a, q134b, q134c⟩ := isOf hZ e128 f130
  obtain ⟨_, _, ⟨T134, L134, k134, n134⟩, -, X134, ⟨Lc134, hQ134, l134, y134, z134⟩, st134⟩ := X128.interfaceBack hx (xi := M26) (y := M21) hown (mvT hZ (ow hw 138 rfl)) (mvT hZ (ow hw 139 rfl)) (mvT hZ (ow hw 140 rfl)) (mvT hZ (ow hw 141 rfl)) (mvT hZ (ow hw 142 rfl)) (mvT hZ (ow hw 143 rfl)) (mvT hZ (ow hw 144 rfl)) (mvT hZ (ow hw 84 rfl)) (by decide) (backOf (W := 0) (au18_1 l Z a0 hw [] wINTEGER wDOUBLE wBOOLEAN wD kwD hS pa2 pa6 pk7 pa8 pa9 pa10 h128 n0 O129 f130 f131 f132 f133) hZ (ow hw 145 rfl) (ow hw 15 rfl) (by decide) (by decide)) q134a q134b q134c (g := (mkF m 56 #[(vr pa1), (vr pa2), (vi 3), (vi 1), .val (.int ((0 : Int32) + pi3)), (vi 1), (vr pa8), .val (.long ((pi11.toInt64) - (pi12.toInt64))), .second, (vi pi3)] [(.int 1), (.ref pa2)])) rfl (by rw [hml]; rfl) (Steps.refl _) (argsL := [(.int 1)]) (rest := []) (lenOf pd_14 rfl) rfl (by show 2 * 0 + _ ≤ _; exact Nat.le_of_eq rfl) (hb hby d16_56) (fun _ _ => ⟨rfl, e128, (by decide : 4 + 0 ≤ _), (by decide : 12 + 0 ≤ _)⟩)
  dsimp only [Pt.U, Pt.locs, Pt.cells, Pt.slots] at X134 l134 y134 z134 st134 hQ134
  subst y134 z134
  obtain ⟨rfl, Nq134, K134q⟩ := hQ134
  have N134 : Fr n0 L134 := (congrArg (Fr n0) l134).mpr (Fr.app N128 Nq134)
  have f135 : Exa Z h128 pa9 s5n := ((((((f73.ext E63).wr W87).wr W107).wr W112).wr W117).wr W128)
  obtain ⟨T136, X136, e136, st136⟩ := castY X134 hx hZ hown (ow hw 159 rfl) K134q (Ins.self f135) (g := (mkF m 61 #[(vr pa1), (vr pa2), (vi 3), (vi 1), .val (.int ((0 : Int32) + pi3)), (vi 1), (vr pa8), .val (.long ((pi11.toInt64) - (pi12.toInt64))), .second, (vi pi3)] [(.ref pa9)])) rfl rfl (hb hby d16_61)
  have f137 : Fld Z h128 pa9 s5n "high" "I" (.int pi15) := ((((((((((((P19.ext E3).other W15 (Or.inl (Ne.symm P47))).ext E17).other W37 (Or.inl (Ne.symm P47))).ext E39).other W61 (Or.inl (Ne.symm P47))).ext E63).other W87 (Or.inl (Ne.symm P47))).other W107 (Or.inl ne8)).other W112 (Or.inl ne26)).other W117 (Or.inl ne48)).other W128 (Or.inl ne72))
  obtain ⟨cq138, kq138, q138a, q138b, q138c⟩ := isOf hZ e136 f135
  obtain ⟨_, _, ⟨T138, L138, k138, n138⟩, -, X138, ⟨Lc138, hQ138, l138, y138, z138⟩, st138⟩ := X136.virtualBack hx (y := M22) (z := M22) hown (mvT hZ (ow hw 161 rfl)) (mvT hZ (ow hw 162 rfl)) (notFace_of_selects (args := #[]) (mvT hZ (ow hw 164 rfl))) (mvT hZ (ow hw 164 rfl)) (mvT hZ (ow hw 163 rfl)) (by decide) (backOf (W := 0) (au22_0 l Z a0 hw [] wINTEGER wDOUBLE wBOOLEAN wD kwD hS pa9 pi15 h128 n0 O129 f137) hZ (ow hw 165 rfl) (ow hw 52 rfl) (by decide) (by decide)) q138a q138c (g := (mkF m 68 #[(vr pa1), (vr pa2), (vi 3), (vi 1), .val (.int ((0 : Int32) + pi3)), (vi 1), (vr pa9), .val (.long ((pi11.toInt64) - (pi12.toInt64))), .second, (vi pi3)] [(.ref pa9)])) rfl (by rw [hml]; rfl) (Steps.refl _) (argsL := []) (rest := []) (lenOf pd_12 rfl) rfl (by show 2 * 0 + _ ≤ _; exact Nat.le_of_eq rfl) (hb hby d16_68) (fun _ _ => ⟨rfl, e136, (by decide : 4 + 0 ≤ _), (by decide : 12 + 0 ≤ _)⟩)
  dsimp only [Pt.U, Pt.locs, Pt.cells, Pt.slots] at X138 l138 y138 z138 st138 hQ138
  subst y138 z138
  obtain ⟨rfl, Nq138, K138q⟩ := hQ138
  have N138 : Fr n0 L138 := (congrArg (Fr n0) l138).mpr (Fr.app N134 Nq138)
  have f139 : Fld Z h128 pa9 s5n "low" "I" (.int pi16) := ((((((((((((P20.ext E3).other W15 (Or.inl (Ne.symm P47))).ext E17).other W37 (Or.inl (Ne.symm P47))).ext E39).other W61 (Or.inl (Ne.symm P47))).ext E63).other W87 (Or.inl (Ne.symm P47))).other W107 (Or.inl ne8)).other W112 (Or.inl ne26)).other W117 (Or.inl ne48)).other W128 (Or.inl ne72))
  obtain ⟨cq140, kq140, q140a, q140b, q140c⟩ := isOf hZ K138q f135
  obtain ⟨_, _, ⟨T140, L140, k140, n140⟩, -, X140, ⟨Lc140, hQ140, l140, y140, z140⟩, st140⟩ := X138.virtualBack hx (y := M23) (z := M23) hown (mvT hZ (ow hw 166 rfl)) (mvT hZ (ow hw 167 rfl)) (notFace_of_selects (args := #[]) (mvT hZ (ow hw 169 rfl))) (mvT hZ (ow hw 169 rfl)) (mvT hZ (ow hw 168 rfl)) (by decide) (backOf (W := 2) (au23_0 l Z a0 hw [] wINTEGER wDOUBLE wBOOLEAN wD kwD hS pa9 pi16 h128 n0 O129 f139) hZ (ow hw 170 rfl) (ow hw 52 rfl) (by decide) (by decide)) q140a q140c (g := (mkF m 74 #[(vr pa1), (vr pa2), (vi 3), (vi 1), .val (.int ((0 : Int32) + pi3)), (vi 1), (vr pa9), .val (.long ((pi11.toInt64) - (pi12.toInt64))), .second, (vi pi3)] [(.ref pa9), (.long (pi15.toInt64))])) rfl (by rw [hml]; rfl) (Steps.refl _) (argsL := []) (rest := [(.long (pi15.toInt64))]) (lenOf pd_12 rfl) rfl (by show 2 * 0 + _ ≤ _; exact Nat.le_of_eq rfl) (hb hby d16_74) (fun _ _ => ⟨rfl, K138q, (by decide : 4 + 0 ≤ _), (by decide : 12 + 0 ≤ _)⟩)
  dsimp only [Pt.U, Pt.locs, Pt.cells, Pt.slots] at X140 l140 y140 z140 st140 hQ140
  subst y140 z140
  obtain ⟨rfl, Nq140, K140q⟩ := hQ140
  have N140 : Fr n0 L140 := (congrArg (Fr n0) l140).mpr (Fr.app N138 Nq140)
  obtain ⟨_, _, ⟨T141, L141, k141, n141⟩, -, X141, ⟨Lc141, hQ141, l141, y141, z141⟩, st141⟩ := Jvm.LawKit.callS X140 hx (y := M5) hown (mvT hZ (ow hw 171 rfl)) (mvT hZ (ow hw 172 rfl)) (mvT hZ (ow hw 173 rfl)) (mvT hZ (ow hw 174 rfl)) (by decide) (backOf (W := 1) (rmNlz64 l Z a0 hw [] wINTEGER wDOUBLE wBOOLEAN wD kwD hS ((pi15.toInt64) - (pi16.toInt64)) h128 n0 O129 ) hZ (ow hw 174 rfl) (ow hw 173 rfl) (by decide) (by decide)) (g := (mkF m 85 #[(vr pa1), (vr pa2), (vi 3), (vi 1), .val (.int ((0 : Int32) + pi3)), (vi 1), (vr pa9), .val (.long ((pi15.toInt64) - (pi16.toInt64))), .second, (vi pi3)] [(.long ((pi15.toInt64) - (pi16.toInt64))), (.int 64)])) rfl (by rw [hml]; rfl) (argsL := [(.long ((pi15.toInt64) - (pi16.toInt64)))]) (rest := [(.int 64)]) (lenOf pd_15 rfl) rfl (by show 2 * 0 + _ ≤ _; exact Nat.le_of_eq rfl) (hb hby d16_85) (fun _ _ => ⟨rfl, K140q, (by decide : 4 + 0 ≤ _), (by decide : 12 + 0 ≤ _)⟩)
  dsimp only [Pt.U, Pt.locs, Pt.cells, Pt.slots] at X141 l141 y141 z141 st141 hQ141
  subst y141 z141
  obtain ⟨r_141, rfl, Nq141, K141q, p141_0⟩ := hQ141
  have N141 : Fr n0 L141 := (congrArg (Fr n0) l141).mpr (Fr.app N140 Nq141)
  have hb142 : ((64 : Int32) - r_141) = pi4 := by rw [p141_0]; exact P30
  have pre143 : ∀ t, Steps p.tables e below (T141.setTop (mkF m 89 #[(vr pa1), (vr pa2), (vi 3), (vi 1), .val (.int ((0 : Int32) + pi3)), (vi 1), (vr pa9), .val (.long ((pi15.toInt64) - (pi16.toInt64))), .second, (vi pi3)] [(.int pi4)])) t → Steps p.tables e below (s₁.setTop (entryFrame m #[(.ref pa1), (.ref pa2)] 10)) t := by
    intro t k
    refine pre126 t ?_
    show Steps p.tables e below (T120.setTop (mkF m 162 #[(vr pa1), (vr pa2), (vi 3), (vi 1), (vi 0), (vi 0), (vr pa8), .val (.long ((pi11.toInt64) - (pi12.toInt64))), .second, (vi pi3)] [(.long (maskV pi3)), (.int 0), (.ref b63)])) _
    refine st128 _ ?_
    refine XS.iload X128.here hx rfl (hb hby d16_163) rfl ?_
    refine XS.iload X128.here hx rfl (hb hby d16_165) rfl ?_
    refine XS.iadd X128.here hx rfl (hb hby d16_167) rfl ?_
    refine XS.istore X128.here hx rfl (hb hby d16_168) rfl (l' := #[(vr pa1), (vr pa2), (vi 3), (vi 1), .val (.int ((0 : Int32) + pi3)), (vi 0), (vr pa8), .val (.long ((pi11.toInt64) - (pi12.toInt64))), .second, (vi pi3)]) rfl ?_
    refine XS.iinc X128.here hx rfl (hb hby d16_170) rfl (l' := #[(vr pa1), (vr pa2), (vi 3), (vi 1), .val (.int ((0 : Int32) + pi3)), (vi 1), (vr pa8), .val (.long ((pi11.toInt64) - (pi12.toInt64))), .second, (vi pi3)]) rfl ?_
    refine XS.goto X128.here hx rfl (pc0 := 173) (pc' := 47) rfl (hb hby d16_173) (by decide) (by decide) ?_
    refine XS.iload X128.here hx rfl (hb hby d16_47) rfl ?_
    refine XS.iloadN X128.here hx rfl (hb hby d16_49) rfl ?_
    refine XS.icmpNo X128.here hx rfl (hb hby d16_50) rfl (tlt (by decide : (1 : Int32) < (3 : Int32))).2.1 ?_
    refine XS.aloadN X128.here hx rfl (hb hby d16_53) rfl rfl ?_
    refine XS.iload X128.here hx rfl (hb hby d16_54) rfl ?_
    refine st134.trans ?_
    refine st136 _ ?_
    show Steps p.tables e below (T136.setTop (mkF m 64 #[(vr pa1), (vr pa2), (vi 3), (vi 1), .val (.int ((0 : Int32) + pi3)), (vi 1), (vr pa8), .val (.long ((pi11.toInt64) - (pi12.toInt64))), .second, (vi pi3)] [(.ref pa9)])) _
    refine XS.astore X136.here hx rfl (hb hby d16_64) rfl rfl (l' := #[(vr pa1), (vr pa2), (vi 3), (vi 1), .val (.int ((0 : Int32) + pi3)), (vi 1), (vr pa9), .val (.long ((pi11.toInt64) - (pi12.toInt64))), .second, (vi pi3)]) rfl ?_
    refine XS.aload X136.here hx rfl (hb hby d16_66) rfl rfl ?_
    refine st138.trans ?_
    refine XS.i2l X138.here hx rfl (hb hby d16_71) rfl ?_
    refine XS.aload X138.here hx rfl (hb hby d16_72) rfl rfl ?_
    refine st140.trans ?_
    refine XS.i2l X140.here hx rfl (hb hby d16_77) rfl ?_
    refine XS.lsub X140.here hx rfl (hb hby d16_78) rfl ?_
    refine XS.lstore X140.here hx rfl (hb hby d16_79) rfl (l' := #[(vr pa1), (vr pa2), (vi 3), (vi 1), .val (.int ((0 : Int32) + pi3)), (vi 1), (vr pa9), .val (.long ((pi15.toInt64) - (pi16.toInt64))), .second, (vi pi3)]) rfl ?_
    refine XS.bipush X140.here hx rfl (hb hby d16_81) ?_
    refine XS.lload X140.here hx rfl (hb hby d16_83) rfl ?_
    refine st141 _ ?_
    refine XS.isub X141.here hx rfl (hb hby d16_88) rfl ?_
    rw [hb142]
    exact k
  have f144 : Fld Z h128 pa1 s9n "low" "[I" (.ref b3) := ((((f103.other W107 (Or.inl ne4)).other W112 (Or.inl ne18)).other W117 (Or.inl ne40)).other W128 (Or.inl ne64))
  obtain ⟨T145, X145, e145, st145⟩ := getF X141 hx hZ hown (host := "") (Or.inl (ow hw 129 rfl)) Via.refl K141q f144 (g := (mkF m 108 #[(vr pa1), (vr pa2), (vi 3), (vi 1), .val (.int ((0 : Int32) + pi3)), (vi 1), (vr pa9), .val (.long ((pi15.toInt64) - (pi16.toInt64))), .second, (vi pi4)] [(.ref pa1)])) rfl rfl (hb hby d16_108)
  obtain ⟨cq146, kq146, q146a, q146b, q146c⟩ := isOf hZ e145 f135
  obtain ⟨_, _, ⟨T146, L146, k146, n146⟩, -, X146, ⟨Lc146, hQ146, l146, y146, z146⟩, st146⟩ := X145.virtualBack hx (y := M23) (z := M23) hown (mvT hZ (ow hw 166 rfl)) (mvT hZ (ow hw 167 rfl)) (notFace_of_selects (args := #[]) (mvT hZ (ow hw 169 rfl))) (mvT hZ (ow hw 169 rfl)) (mvT hZ (ow hw 168 rfl)) (by decide) (backOf (W := 2) (au23_0 l Z a0 hw [] wINTEGER wDOUBLE wBOOLEAN wD kwD hS pa9 pi16 h128 n0 O129 f139) hZ (ow hw 170 rfl) (ow hw 52 rfl) (by decide) (by decide)) q146a q146c (g := (mkF m 115 #[(vr pa1), (vr pa2), (vi 3), (vi 1), .val (.int ((0 : Int32) + pi3)), (vi 1), (vr pa9), .val (.long ((pi15.toInt64) - (pi16.toInt64))), .second, (vi pi4)] [(.ref pa9), (.int 1), (.ref b3)])) rfl (by rw [hml]; rfl) (Steps.refl _) (argsL := []) (rest := [(.int 1), (.ref b3)]) (lenOf pd_12 rfl) rfl (by show 2 * 0 + _ ≤ _; exact Nat.le_of_eq rfl) (hb hby d16_115) (fun _ _ => ⟨rfl, e145, (by decide : 4 + 0 ≤ _), (by decide : 12 + 0 ≤ _)⟩)
  dsimp only [Pt.U, Pt.locs, Pt.cells, Pt.slots] at X146 l146 y146 z146 st146 hQ146
  subst y146 z146
  obtain ⟨rfl, Nq146, K146q⟩ := hQ146
  have N146 : Fr n0 L146 := (congrArg (Fr n0) l146).mpr (Fr.app N141 Nq146)
  have f147 : Arv Z h128 b3 k3 .int (3 : Int32) ([(.int pi12), (.int 0), (.int 0)]) (.int 0) := (((V107.other W112 ne30).other W117 ne52).other W128 ne76)
  obtain ⟨cl148, Ar148, qc148, Sz148, Nn148, Ha148, Gg148⟩ := (id f147)
  have hin148 : ¬ ((1 : Int32) < 0 ∨ cl148.slots.size ≤ ((1 : Int32)).toNatClampNeg) := inb_of Sz148 ⟨by decide, by decide⟩
  obtain ⟨T148, h148, X148, e148, W148, st148⟩ := stI X146 hx hZ K146q Ar148 (j := (1 : Int32)) hin148 (g := (mkF m 118 #[(vr pa1), (vr pa2), (vi 3), (vi 1), .val (.int ((0 : Int32) + pi3)), (vi 1), (vr pa9), .val (.long ((pi15.toInt64) - (pi16.toInt64))), .second, (vi pi4)] [(.int pi16), (.int 1), (.ref b3)])) rfl rfl (hb hby d16_118)
  have O149 : Old Z n0 h148 := O129.wr W148 g10
  have K149 : Keep h0 h148 [pa1] := K129.wr W148 (Or.inr sz11)
  have V148 : Arv Z h148 b3 k3 .int (3 : Int32) ([(.int pi12), (.int pi16), (.int 0)]) (.int 0) := (Arv.set Ar148 qc148 Sz148 Nn148 Ha148 Gg148 (v := (.int pi16)) rfl W148 1 rfl (Nat.le_of_ble_eq_true rfl))
  have N148 := Fr.snoc X148 N146 g10
  have f150 : Fld Z h148 pa1 s9n "word" "[I" (.ref b17) := ((((f109.other W112 (Or.inl ne18)).other W117 (Or.inl ne40)).other W128 (Or.inl ne64)).other W148 (Or.inl ne4))
  obtain ⟨T151, X151, e151, st151⟩ := getF X148 hx hZ hown (host := "") (Or.inl (ow hw 131 rfl)) Via.refl e148 f150 (g := (mkF m 120 #[(vr pa1), (vr pa2), (vi 3), (vi 1), .val (.int ((0 : Int32) + pi3)), (vi 1), (vr pa9), .val (.long ((pi15.toInt64) - (pi16.toInt64))), .second, (vi pi4)] [(.ref pa1)])) rfl rfl (hb hby d16_120)
  have f152 : Arv Z h148 b17 k17 .int (3 : Int32) ([(.int 0), (.int 0), (.int 0)]) (.int 0) := (((V112.other W117 ne54).other W128 ne78).other W148 (Ne.symm ne30))
  obtain ⟨cl153, Ar153, qc153, Sz153, Nn153, Ha153, Gg153⟩ := (id f152)
  have hin153 : ¬ ((1 : Int32) < 0 ∨ cl153.slots.size ≤ ((1 : Int32)).toNatClampNeg) := inb_of Sz153 ⟨by decide, by decide⟩
  obtain ⟨T153, h153, X153, e153, W153, st153⟩ := stI X151 hx hZ e151 Ar153 (j := (1 : Int32)) hin153 (g := (mkF m 128 #[(vr pa1), (vr pa2), (vi 3), (vi 1), .val (.int ((0 : Int32) + pi3)), (vi 1), (vr pa9), .val (.long ((pi15.toInt64) - (pi16.toInt64))), .second, (vi pi4)] [(.int 0), (.int 1), (.ref b17)])) rfl rfl (hb hby d16_128)
  have O154 : Old Z n0 h153 := O149.wr W153 g32
  have K154 : Keep h0 h153 [pa1] := K149.wr W153 (Or.inr sz33)
  have V153 : Arv Z h153 b17 k17 .int (3 : Int32) ([(.int 0), (.int 0), (.int 0)]) (.int 0) := (Arv.set Ar153 qc153 Sz153 Nn153 Ha153 Gg153 (v := (.int 0)) rfl W153 1 rfl (Nat.le_of_ble_eq_true rfl))
  have N153 := Fr.snoc X153 N148 g32
  have f155 : Fld Z h153 pa1 s9n "shift" "[I" (.ref b39) := ((((f114.other W117 (Or.inl ne40)).other W128 (Or.inl ne64)).other W148 (Or.inl ne4)).other W153 (Or.inl ne18))
  obtain ⟨T156, X156, e156, st156⟩ := getF X153 hx hZ hown (host := "") (Or.inl (ow hw 133 rfl)) Via.refl e153 f155 (g := (mkF m 130 #[(vr pa1), (vr pa2), (vi 3), (vi 1), .val (.int ((0 : Int32) + pi3)), (vi 1), (vr pa9), .val (.long ((pi15.toInt64) - (pi16.toInt64))), .second, (vi pi4)] [(.ref pa1)])) rfl rfl (hb hby d16_130)
  have f157 : Arv Z h153 b39 k39 .int (3 : Int32) ([(.int 0), (.int 0), (.int 0)]) (.int 0) := (((V117.other W128 ne80).other W148 (Ne.symm ne52)).other W153 (Ne.symm ne54))
  obtain ⟨cl158, Ar158, qc158, Sz158, Nn158, Ha158, Gg158⟩ := (id f157)
  have hin158 : ¬ ((1 : Int32) < 0 ∨ cl158.slots.size ≤ ((1 : Int32)).toNatClampNeg) := inb_of Sz158 ⟨by decide, by decide⟩
  obtain ⟨T158, h158, X158, e158, W158, st158⟩ := stI X156 hx hZ e156 Ar158 (j := (1 : Int32)) hin158 (g := (mkF m 137 #[(vr pa1), (vr pa2), (vi 3), (vi 1), .val (.int ((0 : Int32) + pi3)), (vi 1), (vr pa9), .val (.long ((pi15.toInt64) - (pi16.toInt64))), .second, (vi pi4)] [(.int ((0 : Int32) + pi3)), (.int 1), (.ref b39)])) rfl rfl (hb hby d16_137)
  have O159 : Old Z n0 h158 := O154.wr W158 g56
  have K159 : Keep h0 h158 [pa1] := K154.wr W158 (Or.inr sz57)
  have V158 : Arv Z h158 b39 k39 .int (3 : Int32) ([(.int 0), (.int ((0 : Int32) + pi3)), (.int 0)]) (.int 0) := (Arv.set Ar158 qc158 Sz158 Nn158 Ha158 Gg158 (v := (.int ((0 : Int32) + pi3))) rfl W158 1 rfl (Nat.le_of_ble_eq_true rfl))
  have N158 := Fr.snoc X158 N153 g56
  have f160 : Fld Z h158 pa1 s9n "mask" "[J" (.ref b63) := ((((f119.other W128 (Or.inl ne64)).other W148 (Or.inl ne4)).other W153 (Or.inl ne18)).other W158 (Or.inl ne40))
  obtain ⟨T161, X161, e161, st161⟩ := getF X158 hx hZ hown (host := "") (Or.inl (ow hw 136 rfl)) Via.refl e158 f160 (g := (mkF m 139 #[(vr pa1), (vr pa2), (vi 3), (vi 1), .val (.int ((0 : Int32) + pi3)), (vi 1), (vr pa9), .val (.long ((pi15.toInt64) - (pi16.toInt64))), .second, (vi pi4)] [(.ref pa1)])) rfl rfl (hb hby d16_139)
  have pre162 : ∀ t, Steps p.tables e below (T161.setTop (mkF m 146 #[(vr pa1), (vr pa2), (vi 3), (vi 1), .val (.int ((0 : Int32) + pi3)), (vi 1), (vr pa9), .val (.long ((pi15.toInt64) - (pi16.toInt64))), .second, (vi pi4)] [(.int pi4), (.int 1), (.ref b63)])) t → Steps p.tables e below (s₁.setTop (entryFrame m #[(.ref pa1), (.ref pa2)] 10)) t := by
    intro t k
    refine pre143 t ?_
    show Steps p.tables e below (T141.setTop (mkF m 89 #[(vr pa1), (vr pa2), (vi 3), (vi 1), .val (.int ((0 : Int32) + pi3)), (vi 1), (vr pa9), .val (.long ((pi15.toInt64) - (pi16.toInt64))), .second, (vi pi3)] [(.int pi4)])) _
    refine XS.istore X141.here hx rfl (hb hby d16_89) rfl (l' := #[(vr pa1), (vr pa2), (vi 3), (vi 1), .val (.int ((0 : Int32) + pi3)), (vi 1), (vr pa9), .val (.long ((pi15.toInt64) - (pi16.toInt64))), .second, (vi pi4)]) rfl ?_
    refine XS.iload X141.here hx rfl (hb hby d16_91) rfl ?_
    refine XS.iload X141.here hx rfl (hb hby d16_93) rfl ?_
    refine XS.iadd X141.here hx rfl (hb hby d16_95) rfl ?_
    refine XS.bipush X141.here hx rfl (hb hby d16_96) ?_
    refine XS.icmpYes X141.here hx rfl (pc0 := 98) (pc' := 107) rfl (hb hby d16_98) rfl (flt (P35 : ¬ ((64 : Int32) < (((0 : Int32) + pi3) + pi4)))).2.2.2 (by decide) (by decide) ?_
    refine XS.aloadN X141.here hx rfl (hb hby d16_107) rfl rfl ?_
    refine st145 _ ?_
    refine XS.iload X145.here hx rfl (hb hby d16_111) rfl ?_
    refine XS.aload X145.here hx rfl (hb hby d16_113) rfl rfl ?_
    refine st146.trans ?_
    refine st148 _ ?_
    refine XS.aloadN X148.here hx rfl (hb hby d16_119) rfl rfl ?_
    refine st151 _ ?_
    show Steps p.tables e below (T151.setTop (mkF m 123 #[(vr pa1), (vr pa2), (vi 3), (vi 1), .val (.int ((0 : Int32) + pi3)), (vi 1), (vr pa9), .val (.long ((pi15.toInt64) - (pi16.toInt64))), .second, (vi pi4)] [(.ref b17)])) _
    refine XS.iload X151.here hx rfl (hb hby d16_123) rfl ?_
    refine XS.iloadN X151.here hx rfl (hb hby d16_125) rfl ?_
    refine XS.iconst X151.here hx rfl (hb hby d16_126) ?_
    refine XS.isub X151.here hx rfl (hb hby d16_127) rfl ?_
    refine st153 _ ?_
    refine XS.aloadN X153.here hx rfl (hb hby d16_129) rfl rfl ?_
    refine st156 _ ?_
    refine XS.iload X156.here hx rfl (hb hby d16_133) rfl ?_
    refine XS.iload X156.here hx rfl (hb hby d16_135) rfl ?_
    refine st158 _ ?_
    refine XS.aloadN X158.here hx rfl (hb hby d16_138) rfl rfl ?_
    refine st161 _ ?_
    refine XS.iload X161.here hx rfl (hb hby d16_142) rfl ?_
    refine XS.iload X161.here hx rfl (hb hby d16_144) rfl ?_
    exact k
  obtain ⟨y164, hy164⟩ : ∃ z : Int64, z = (if pi4 = (0 : Int32) then (0 : Int64) else (((-1 : Int64).toUInt64 >>> (((64 : Int32) - pi4) &&& 0x3f).toInt64.toUInt64).toInt64)) := ⟨_, rfl⟩
  have pre165 : ∀ t, Steps p.tables e below (T161.setTop (mkF m 162 #[(vr pa1), (vr pa2), (vi 3), (vi 1), .val (.int ((0 : Int32) + pi3)), (vi 1), (vr pa9), .val (.long ((pi15.toInt64) - (pi16.toInt64))), .second, (vi pi4)] [(.long y164), (.int 1), (.ref b63)])) t → Steps p.tables e below (s₁.setTop (entryFrame m #[(.ref pa1), (.ref pa2)] 10)) t := by
    intro t k
    rw [hy164] at k
    refine pre162 t ?_
    show Steps p.tables e below (T161.setTop (mkF m 146 #[(vr pa1), (vr pa2), (vi 3), (vi 1), .val (.int ((0 : Int32) + pi3)), (vi 1), (vr pa9), .val (.long ((pi15.toInt64) - (pi16.toInt64))), .second, (vi pi4)] [(.int pi4), (.int 1), (.ref b63)])) _
    rcases Decidable.em (pi4 = (0 : Int32)) with hm163 | hm163
    · first | simp only [if_pos hm163] at k | skip
      refine XS.ifNo X161.here hx rfl (hb hby d16_146) rfl ((if0 _ _).trans (teq hm163).2) ?_
      refine XS.lconst X161.here hx rfl (hb hby d16_149) ?_
      refine XS.goto X161.here hx rfl (pc0 := 150) (pc' := 162) rfl (hb hby d16_150) (by decide) (by decide) ?_
      exact k
    · first | simp only [if_neg hm163] at k | skip
      refine XS.ifYes X161.here hx rfl (pc0 := 146) (pc' := 153) rfl (hb hby d16_146) rfl ((if0 _ _).trans (feq hm163).2) (by decide) (by decide) ?_
      refine X161.ldc2Long hx hown (mvT hZ (ow hw 180 rfl)) (g := (mkF m 153 #[(vr pa1), (vr pa2), (vi 3), (vi 1), .val (.int ((0 : Int32) + pi3)), (vi 1), (vr pa9), .val (.long ((pi15.toInt64) - (pi16.toInt64))), .second, (vi pi4)] [(.int 1), (.ref b63)])) rfl (hb hby d16_153) _ ?_
      refine XS.bipush X161.here hx rfl (hb hby d16_156) ?_
      refine XS.iload X161.here hx rfl (hb hby d16_158) rfl ?_
      refine XS.isub X161.here hx rfl (hb hby d16_160) rfl ?_
      refine XS.lushr X161.here hx rfl (hb hby d16_161) rfl ?_
      exact k
  have hm166 : y164 = maskV pi4 := hy164
  have pre167 : ∀ t, Steps p.tables e below (T161.setTop (mkF m 162 #[(vr pa1), (vr pa2), (vi 3), (vi 1), .val (.int ((0 : Int32) + pi3)), (vi 1), (vr pa9), .val (.long ((pi15.toInt64) - (pi16.toInt64))), .second, (vi pi4)] [(.long (maskV pi4)), (.int 1), (.ref b63)])) t → Steps p.tables e below (s₁.setTop (entryFrame m #[(.ref pa1), (.ref pa2)] 10)) t := by
    intro t k
    refine pre165 t ?_
    rw [hm166]
    exact k
  have f168 : Arv Z h158 b63 k63 .long (3 : Int32) ([(.long (maskV pi3)), (.long 0), (.long 0)]) (.long 0) := (((V128.other W148 (Ne.symm ne76)).other W153 (Ne.symm ne78)).other W158 (Ne.symm ne80))
  obtain ⟨cl169, Ar169, qc169, Sz169, Nn169, Ha169, Gg169⟩ := (id f168)
  have hin169 : ¬ ((1 : Int32) < 0 ∨ cl169.slots.size ≤ ((1 : Int32)).toNatClampNeg) := inb_of Sz169 ⟨by decide, by decide⟩
  obtain ⟨T169, h169, X169, e169, W169, st169⟩ := stJ X161 hx hZ e161 Ar169 (j := (1 : Int32)) hin169 (g := (mkF m 162 #[(vr pa1), (vr pa2), (vi 3), (vi 1), .val (.int ((0 : Int32) + pi3)), (vi 1), (vr pa9), .val (.long ((pi15.toInt64) - (pi16.toInt64))), .second, (vi pi4)] [(.long (maskV pi4)), (.int 1), (.ref b63)])) rfl rfl (hb hby d16_162)
  have O170 : Old Z n0 h169 := O159.wr W169 g82
  have K170 : Keep h0 h169 [pa1] := K159.wr W169 (Or.inr sz83)
  have V169 : Arv Z h169 b63 k63 .long (3 : Int32) ([(.long (maskV pi3)), (.long (maskV pi4)), (.long 0)]) (.long 0) := (Arv.set Ar169 qc169 Sz169 Nn169 Ha169 Gg169 (v := (.long (maskV pi4))) rfl W169 1 rfl (Nat.le_of_ble_eq_true rfl))
  have N169 := Fr.snoc X169 N158 g82
  have f171 : Exa Z h169 pa2 s2n := ((((f130.wr W148).wr W153).wr W158).wr W169)
  have f172 : Fld Z h169 pa2 s2n "elementData" s3n (.ref pa6) := ((((f131.other W148 (Or.inl ne5)).other W153 (Or.inl ne20)).other W158 (Or.inl ne42)).other W169 (Or.inl ne66))
  have f173 : Fld Z h169 pa2 s2n "size" "I" (.int 3) := ((((f132.other W148 (Or.inl ne5)).other W153 (Or.inl ne20)).other W158 (Or.inl ne42)).other W169 (Or.inl ne66))
  have f174 : Arv Z h169 pa6 pk7 (.object s4n) (10 : Int32) ([(.ref pa8), (.ref pa9), (.ref pa10), .null, .null, .null, .null, .null, .null, .null]) .null := ((((f133.other W148 ne6).other W153 ne22).other W158 ne44).other W169 ne68)
  obtain ⟨cq175, kq175, q175a, q175b, q175c⟩ := isOf hZ e169 f171
  obtain ⟨_, _, ⟨T175, L175, k175, n175⟩, -, X175, ⟨Lc175, hQ175, l175, y175, z175⟩, st175⟩ := X169.interfaceBack hx (xi := M26) (y := M21) hown (mvT hZ (ow hw 138 rfl)) (mvT hZ (ow hw 139 rfl)) (mvT hZ (ow hw 140 rfl)) (mvT hZ (ow hw 141 rfl)) (mvT hZ (ow hw 142 rfl)) (mvT hZ (ow hw 143 rfl)) (mvT hZ (ow hw 144 rfl)) (mvT hZ (ow hw 84 rfl)) (by decide) (backOf (W := 0) (au18_2 l Z a0 hw [] wINTEGER wDOUBLE wBOOLEAN wD kwD hS pa2 pa6 pk7 pa8 pa9 pa10 h169 n0 O170 f171 f172 f173 f174) hZ (ow hw 145 rfl) (ow hw 15 rfl) (by decide) (by decide)) q175a q175b q175c (g := (mkF m 56 #[(vr pa1), (vr pa2), (vi 3), (vi 1), .val (.int (((0 : Int32) + pi3) + pi4)), (vi 2), (vr pa9), .val (.long ((pi15.toInt64) - (pi16.toInt64))), .second, (vi pi4)] [(.int 2), (.ref pa2)])) rfl (by rw [hml]; rfl) (Steps.refl _) (argsL := [(.int 2)]) (rest := []) (lenOf pd_14 rfl) rfl (by show 2 * 0 + _ ≤ _; exact Nat.le_of_eq rfl) (hb hby d16_56) (fun _ _ => ⟨rfl, e169, (by decide : 4 + 0 ≤ _), (by decide : 12 + 0 ≤ _)⟩)
  dsimp only [Pt.U, Pt.locs, Pt.cells, Pt.slots] at X175 l175 y175 z175 st175 hQ175
  subst y175 z175
  obtain ⟨rfl, Nq175, K175q⟩ := hQ175
  have N175 : Fr n0 L175 := (congrArg (Fr n0) l175).mpr (Fr.app N169 Nq175)
  have f176 : Exa Z h169 pa10 s5n := ((((((((((f75.ext E63).wr W87).wr W107).wr W112).wr W117).wr W128).wr W148).wr W153).wr W158).wr W169)
  obtain ⟨T177, X177, e177, st177⟩ := castY X175 hx hZ hown (ow hw 159 rfl) K175q (Ins.self f176) (g := (mkF m 61 #[(vr pa1), (vr pa2), (vi 3), (vi 1), .val (.int (((0 : Int32) + pi3) + pi4)), (vi 2), (vr pa9), .val (.long ((pi15.toInt64) - (pi16.toInt64))), .second, (vi pi4)] [(.ref pa10)])) rfl rfl (hb hby d16_61)
  have f178 : Fld Z h169 pa10 s5n "high" "I" (.int pi19) := ((((((((((((((((P24.ext E3).other W15 (Or.inl (Ne.symm P48))).ext E17).other W37 (Or.inl (Ne.symm P48))).ext E39).other W61 (Or.inl (Ne.symm P48))).ext E63).other W87 (Or.inl (Ne.symm P48))).other W107 (Or.inl ne9)).other W112 (Or.inl ne28)).other W117 (Or.inl ne50)).other W128 (Or.inl ne74)).other W148 (Or.inl ne9)).other W153 (Or.inl ne28)).other W158 (Or.inl ne50)).other W169 (Or.inl ne74))
  obtain ⟨cq179, kq179, q179a, q179b, q179c⟩ := isOf hZ e177 f176
  obtain ⟨_, _, ⟨T179, L179, k179, n179⟩, -, X179, ⟨Lc179, hQ179, l179, y179, z179⟩, st179⟩ := X177.virtualBack hx (y := M22) (z := M22) hown (mvT hZ (ow hw 161 rfl)) (mvT hZ (ow hw 162 rfl)) (notFace_of_selects (args := #[]) (mvT hZ (ow hw 164 rfl))) (mvT hZ (ow hw 164 rfl)) (mvT hZ (ow hw 163 rfl)) (by decide) (backOf (W := 0) (au22_0 l Z a0 hw [] wINTEGER wDOUBLE wBOOLEAN wD kwD hS pa10 pi19 h169 n0 O170 f178) hZ (ow hw 165 rfl) (ow hw 52 rfl) (by decide) (by decide)) q179a q179c (g := (mkF m 68 #[(vr pa1), (vr pa2), (vi 3), (vi 1), .val (.int (((0 : Int32) + pi3) + pi4)), (vi 2), (vr pa10), .val (.long ((pi15.toInt64) - (pi16.toInt64))), .second, (vi pi4)] [(.ref pa10)])) rfl (by rw [hml]; rfl) (Steps.refl _) (argsL := []) (rest := []) (lenOf pd_12 rfl) rfl (by show 2 * 0 + _ ≤ _; exact Nat.le_of_eq rfl) (hb hby d16_68) (fun _ _ => ⟨rfl, e177, (by decide : 4 + 0 ≤ _), (by decide : 12 + 0 ≤ _)⟩)
  dsimp only [Pt.U, Pt.locs, Pt.cells, Pt.slots] at X179 l179 y179 z179 st179 hQ179
  subst y179 z179
  obtain ⟨rfl, Nq179, K179q⟩ := hQ179
  have N179 : Fr n0 L179 := (congrArg (Fr n0) l179).mpr (Fr.app N175 Nq179)
  have f180 : Fld Z h169 pa10 s5n "low" "I" (.int pi20) := ((((((((((((((((P25.ext E3).other W15 (Or.inl (Ne.symm P48))).ext E17).other W37 (Or.inl (Ne.symm P48))).ext E39).other W61 (Or.inl (Ne.symm P48))).ext E63).other W87 (Or.inl (Ne.symm P48))).other W107 (Or.inl ne9)).other W112 (Or.inl ne28)).other W117 (Or.inl ne50)).other W128 (Or.inl ne74)).other W148 (Or.inl ne9)).other W153 (Or.inl ne28)).other W158 (Or.inl ne50)).other W169 (Or.inl ne74))
  obtain ⟨cq181, kq181, q181a, q181b, q181c⟩ := isOf hZ K179q f176
  obtain ⟨_, _, ⟨T181, L181, k181, n181⟩, -, X181, ⟨Lc181, hQ181, l181, y181, z181⟩, st181⟩ := X179.virtualBack hx (y := M23) (z := M23) hown (mvT hZ (ow hw 166 rfl)) (mvT hZ (ow hw 167 rfl)) (notFace_of_selects (args := #[]) (mvT hZ (ow hw 169 rfl))) (mvT hZ (ow hw 169 rfl)) (mvT hZ (ow hw 168 rfl)) (by decide) (backOf (W := 2) (au23_0 l Z a0 hw [] wINTEGER wDOUBLE wBOOLEAN wD kwD hS pa10 pi20 h169 n0 O170 f180) hZ (ow hw 170 rfl) (ow hw 52 rfl) (by decide) (by decide)) q181a q181c (g := (mkF m 74 #[(vr pa1), (vr pa2), (vi 3), (vi 1), .val (.int (((0 : Int32) + pi3) + pi4)), (vi 2), (vr pa10), .val (.long ((pi15.toInt64) - (pi16.toInt64))), .second, (vi pi4)] [(.ref pa10), (.long (pi19.toInt64))])) rfl (by rw [hml]; rfl) (Steps.refl _) (argsL := []) (rest := [(.long (pi19.toInt64))]) (lenOf pd_12 rfl) rfl (by show 2 * 0 + _ ≤ _; exact Nat.le_of_eq rfl) (hb hby d16_74) (fun _ _ => ⟨rfl, K179q, (by decide : 4 + 0 ≤ _), (by decide : 12 + 0 ≤ _)⟩)
  dsimp only [Pt.U, Pt.locs, Pt.cells, Pt.slots] at X181 l181 y181 z181 st181 hQ181
  subst y181 z181
  obtain ⟨rfl, Nq181, K181q⟩ := hQ181
  have N181 : Fr n0 L181 := (congrArg (Fr n0) l181).mpr (Fr.app N179 Nq181)
  obtain ⟨_, _, ⟨T182, L182, k182, n182⟩, -, X182, ⟨Lc182, hQ182, l182, y182, z182⟩, st182⟩ := Jvm.LawKit.callS X181 hx (y := M5) hown (mvT hZ (ow hw 171 rfl)) (mvT hZ (ow hw 172 rfl)) (mvT hZ (ow hw 173 rfl)) (mvT hZ (ow hw 174 rfl)) (by decide) (backOf (W := 1) (rmNlz64 l Z a0 hw [] wINTEGER wDOUBLE wBOOLEAN wD kwD hS ((pi19.toInt64) - (pi20.toInt64)) h169 n0 O170 ) hZ (ow hw 174 rfl) (ow hw 173 rfl) (by decide) (by decide)) (g := (mkF m 85 #[(vr pa1), (vr pa2), (vi 3), (vi 1), .val (.int (((0 : Int32) + pi3) + pi4)), (vi 2), (vr pa10), .val (.long ((pi19.toInt64) - (pi20.toInt64))), .second, (vi pi4)] [(.long ((pi19.toInt64) - (pi20.toInt64))), (.int 64)])) rfl (by rw [hml]; rfl) (argsL := [(.long ((pi19.toInt64) - (pi20.toInt64)))]) (rest := [(.int 64)]) (lenOf pd_15 rfl) rfl (by show 2 * 0 + _ ≤ _; exact Nat.le_of_eq rfl) (hb hby d16_85) (fun _ _ => ⟨rfl, K181q, (by decide : 4 + 0 ≤ _), (by decide : 12 + 0 ≤ _)⟩)
  dsimp only [Pt.U, Pt.locs, Pt.cells, Pt.slots] at X182 l182 y182 z182 st182 hQ182
  subst y182 z182
  obtain ⟨r_182, rfl, Nq182, K182q, p182_0⟩ := hQ182
  have N182 : Fr n0 L182 := (congrArg (Fr n0) l182).mpr (Fr.app N181 Nq182)
  have hb183 : ((64 : Int32) - r_182) = pi5 := by rw [p182_0]; exact P32
  have pre184 : ∀ t, Steps p.tables e below (T182.setTop (mkF m 89 #[(vr pa1), (vr pa2), (vi 3), (vi 1), .val (.int (((0 : Int32) + pi3) + pi4)), (vi 2), (vr pa10), .val (.long ((pi19.toInt64) - (pi20.toInt64))), .second, (vi pi4)] [(.int pi5)])) t → Steps p.tables e below (s₁.setTop (entryFrame m #[(.ref pa1), (.ref pa2)] 10)) t := by
    intro t k
    refine pre167 t ?_
    show Steps p.tables e below (T161.setTop (mkF m 162 #[(vr pa1), (vr pa2), (vi 3), (vi 1), .val (.int ((0 : Int32) + pi3)), (vi 1), (vr pa9), .val (.long ((pi15.toInt64) - (pi16.toInt64))), .second, (vi pi4)] [(.long (maskV pi4)), (.int 1), (.ref b63)])) _
    refine st169 _ ?_
    refine XS.iload X169.here hx rfl (hb hby d16_163) rfl ?_
    refine XS.iload X169.here hx rfl (hb hby d16_165) rfl ?_
    refine XS.iadd X169.here hx rfl (hb hby d16_167) rfl ?_
    refine XS.istore X169.here hx rfl (hb hby d16_168) rfl (l' := #[(vr pa1), (vr pa2), (vi 3), (vi 1), .val (.int (((0 : Int32) + pi3) + pi4)), (vi 1), (vr pa9), .val (.long ((pi15.toInt64) - (pi16.toInt64))), .second, (vi pi4)]) rfl ?_
    refine XS.iinc X169.here hx rfl (hb hby d16_170) rfl (l' := #[(vr pa1), (vr pa2), (vi 3), (vi 1), .val (.int (((0 : Int32) + pi3) + pi4)), (vi 2), (vr pa9), .val (.long ((pi15.toInt64) - (pi16.toInt64))), .second, (vi pi4)]) rfl ?_
    refine XS.goto X169.here hx rfl (pc0 := 173) (pc' := 47) rfl (hb hby d16_173) (by decide) (by decide) ?_
    refine XS.iload X169.here hx rfl (hb hby d16_47) rfl ?_
    refine XS.iloadN X169.here hx rfl (hb hby d16_49) rfl ?_
    refine XS.icmpNo X169.here hx rfl (hb hby d16_50) rfl (tlt (by decide : (2 : Int32) < (3 : Int32))).2.1 ?_
    refine XS.aloadN X169.here hx rfl (hb hby d16_53) rfl rfl ?_
    refine XS.iload X169.here hx rfl (hb hby d16_54) rfl ?_
    refine st175.trans ?_
    refine st177 _ ?_
    show Steps p.tables e below (T177.setTop (mkF m 64 #[(vr pa1), (vr pa2), (vi 3), (vi 1), .val (.int (((0 : Int32) + pi3) + pi4)), (vi 2), (vr pa9), .val (.long ((pi15.toInt64) - (pi16.toInt64))), .second, (vi pi4)] [(.ref pa10)])) _
    refine XS.astore X177.here hx rfl (hb hby d16_64) rfl rfl (l' := #[(vr pa1), (vr pa2), (vi 3), (vi 1), .val (.int (((0 : Int32) + pi3) + pi4)), (vi 2), (vr pa10), .val (.long ((pi15.toInt64) - (pi16.toInt64))), .second, (vi pi4)]) rfl ?_
    refine XS.aload X177.here hx rfl (hb hby d16_66) rfl rfl ?_
    refine st179.trans ?_
    refine XS.i2l X179.here hx rfl (hb hby d16_71) rfl ?_
    refine XS.aload X179.here hx rfl (hb hby d16_72) rfl rfl ?_
    refine st181.trans ?_
    refine XS.i2l X181.here hx rfl (hb hby d16_77) rfl ?_
    refine XS.lsub X181.here hx rfl (hb hby d16_78) rfl ?_
    refine XS.lstore X181.here hx rfl (hb hby d16_79) rfl (l' := #[(vr pa1), (vr pa2), (vi 3), (vi 1), .val (.int (((0 : Int32) + pi3) + pi4)), (vi 2), (vr pa10), .val (.long ((pi19.toInt64) - (pi20.toInt64))), .second, (vi pi4)]) rfl ?_
    refine XS.bipush X181.here hx rfl (hb hby d16_81) ?_
    refine XS.lload X181.here hx rfl (hb hby d16_83) rfl ?_
    refine st182 _ ?_
    refine XS.isub X182.here hx rfl (hb hby d16_88) rfl ?_
    rw [hb183]
    exact k
  have f185 : Fld Z h169 pa1 s9n "low" "[I" (.ref b3) := ((((f144.other W148 (Or.inl ne4)).other W153 (Or.inl ne18)).other W158 (Or.inl ne40)).other W169 (Or.inl ne64))
  obtain ⟨T186, X186, e186, st186⟩ := getF X182 hx hZ hown (host := "") (Or.inl (ow hw 129 rfl)) Via.refl K182q f185 (g := (mkF m 108 #[(vr pa1), (vr pa2), (vi 3), (vi 2), (vi 0), (vi 2), (vr pa10), .val (.long ((pi19.toInt64) - (pi20.toInt64))), .second, (vi pi5)] [(.ref pa1)])) rfl rfl (hb hby d16_108)
  obtain ⟨cq187, kq187, q187a, q187b, q187c⟩ := isOf hZ e186 f176
  obtain ⟨_, _, ⟨T187, L187, k187, n187⟩, -, X187, ⟨Lc187, hQ187, l187, y187, z187⟩, st187⟩ := X186.virtualBack hx (y := M23) (z := M23) hown (mvT hZ (ow hw 166 rfl)) (mvT hZ (ow hw 167 rfl)) (notFace_of_selects (args := #[]) (mvT hZ (ow hw 169 rfl))) (mvT hZ (ow hw 169 rfl)) (mvT hZ (ow hw 168 rfl)) (by decide) (backOf (W := 2) (au23_0 l Z a0 hw [] wINTEGER wDOUBLE wBOOLEAN wD kwD hS pa10 pi20 h169 n0 O170 f180) hZ (ow hw 170 rfl) (ow hw 52 rfl) (by decide) (by decide)) q187a q187c (g := (mkF m 115 #[(vr pa1), (vr pa2), (vi 3), (vi 2), (vi 0), (vi 2), (vr pa10), .val (.long ((pi19.toInt64) - (pi20.toInt64))), .second, (vi pi5)] [(.ref pa10), (.int 2), (.ref b3)])) rfl (by rw [hml]; rfl) (Steps.refl _) (argsL := []) (rest := [(.int 2), (.ref b3)]) (lenOf pd_12 rfl) rfl (by show 2 * 0 + _ ≤ _; exact Nat.le_of_eq rfl) (hb hby d16_115) (fun _ _ => ⟨rfl, e186, (by decide : 4 + 0 ≤ _), (by decide : 12 + 0 ≤ _)⟩)
  dsimp only [Pt.U, Pt.locs, Pt.cells, Pt.slots] at X187 l187 y187 z187 st187 hQ187
  subst y187 z187
  obtain ⟨rfl, Nq187, K187q⟩ := hQ187
  have N187 : Fr n0 L187 := (congrArg (Fr n0) l187).mpr (Fr.app N182 Nq187)
  have f188 : Arv Z h169 b3 k3 .int (3 : Int32) ([(.int pi12), (.int pi16), (.int 0)]) (.int 0) := (((V148.other W153 ne30).other W158 ne52).other W169 ne76)
  obtain ⟨cl189, Ar189, qc189, Sz189, Nn189, Ha189, Gg189⟩ := (id f188)
  have hin189 : ¬ ((2 : Int32) < 0 ∨ cl189.slots.size ≤ ((2 : Int32)).toNatClampNeg) := inb_of Sz189 ⟨by decide, by decide⟩
  obtain ⟨T189, h189, X189, e189, W189, st189⟩ := stI X187 hx hZ K187q Ar189 (j := (2 : Int32)) hin189 (g := (mkF m 118 #[(vr pa1), (vr pa2), (vi 3), (vi 2), (vi 0), (vi 2), (vr pa10), .val (.long ((pi19.toInt64) - (pi20.toInt64))), .second, (vi pi5)] [(.int pi20), (.int 2), (.ref b3)])) rfl rfl (hb hby d16_118)
  have O190 : Old Z n0 h189 := O170.wr W189 g10
  have K190 : Keep h0 h189 [pa1] := K170.wr W189 (Or.inr sz11)
  have V189 : Arv Z h189 b3 k3 .int (3 : Int32) ([(.int pi12), (.int pi16), (.int pi20)]) (.int 0) := (Arv.set Ar189 qc189 Sz189 Nn189 Ha189 Gg189 (v := (.int pi20)) rfl W189 2 rfl (Nat.le_of_ble_eq_true rfl))
  have N189 := Fr.snoc X189 N187 g10
  have f191 : Fld Z h189 pa1 s9n "word" "[I" (.ref b17) := ((((f150.other W153 (Or.inl ne18)).other W158 (Or.inl ne40)).other W169 (Or.inl ne64)).other W189 (Or.inl ne4))
  obtain ⟨T192, X192, e192, st192⟩ := getF X189 hx hZ hown (host := "") (Or.inl (ow hw 131 rfl)) Via.refl e189 f191 (g := (mkF m 120 #[(vr pa1), (vr pa2), (vi 3), (vi 2), (vi 0), (vi 2), (vr pa10), .val (.long ((pi19.toInt64) - (pi20.toInt64))), .second, (vi pi5)] [(.ref pa1)])) rfl rfl (hb hby d16_120)
  have f193 : Arv Z h189 b17 k17 .int (3 : Int32) ([(.int 0), (.int 0), (.int 0)]) (.int 0) := (((V153.other W158 ne54).other W169 ne78).other W189 (Ne.symm ne30))
  obtain ⟨cl194, Ar194, qc194, Sz194, Nn194, Ha194, Gg194⟩ := (id f193)
  have hin194 : ¬ ((2 : Int32) < 0 ∨ cl194.slots.size ≤ ((2 : Int32)).toNatClampNeg) := inb_of Sz194 ⟨by decide, by decide⟩
  obtain ⟨T194, h194, X194, e194, W194, st194⟩ := stI X192 hx hZ e192 Ar194 (j := (2 : Int32)) hin194 (g := (mkF m 128 #[(vr pa1), (vr pa2), (vi 3), (vi 2), (vi 0), (vi 2), (vr pa10), .val (.long ((pi19.toInt64) - (pi20.toInt64))), .second, (vi pi5)] [(.int 1), (.int 2), (.ref b17)])) rfl rfl (hb hby d16_128)
  have O195 : Old Z n0 h194 := O190.wr W194 g32
  have K195 : Keep h0 h194 [pa1] := K190.wr W194 (Or.inr sz33)
  have V194 : Arv Z h194 b17 k17 .int (3 : Int32) ([(.int 0), (.int 0), (.int 1)]) (.int 0) := (Arv.set Ar194 qc194 Sz194 Nn194 Ha194 Gg194 (v := (.int 1)) rfl W194 2 rfl (Nat.le_of_ble_eq_true rfl))
  have N194 := Fr.snoc X194 N189 g32
  have f196 : Fld Z h194 pa1 s9n "shift" "[I" (.ref b39) := ((((f155.other W158 (Or.inl ne40)).other W169 (Or.inl ne64)).other W189 (Or.inl ne4)).other W194 (Or.inl ne18))
  obtain ⟨T197, X197, e197, st197⟩ := getF X194 hx hZ hown (host := "") (Or.inl (ow hw 133 rfl)) Via.refl e194 f196 (g := (mkF m 130 #[(vr pa1), (vr pa2), (vi 3), (vi 2), (vi 0), (vi 2), (vr pa10), .val (.long ((pi19.toInt64) - (pi20.toInt64))), .second, (vi pi5)] [(.ref pa1)])) rfl rfl (hb hby d16_130)
  have f198 : Arv Z h194 b39 k39 .int (3 : Int32) ([(.int 0), (.int ((0 : Int32) + pi3)), (.int 0)]) (.int 0) := (((V158.other W169 ne80).other W189 (Ne.symm ne52)).other W194 (Ne.symm ne54))
  obtain ⟨cl199, Ar199, qc199, Sz199, Nn199, Ha199, Gg199⟩ := (id f198)
  have hin199 : ¬ ((2 : Int32) < 0 ∨ cl199.slots.size ≤ ((2 : Int32)).toNatClampNeg) := inb_of Sz199 ⟨by decide, by decide⟩
  obtain ⟨T199, h199, X199, e199, W199, st199⟩ := stI X197 hx hZ e197 Ar199 (j := (2 : Int32)) hin199 (g := (mkF m 137 #[(vr pa1), (vr pa2), (vi 3), (vi 2), (vi 0), (vi 2), (vr pa10), .val (.long ((pi19.toInt64) - (pi20.toInt64))), .second, (vi pi5)] [(.int 0), (.int 2), (.ref b39)])) rfl rfl (hb hby d16_137)
  have O200 : Old Z n0 h199 := O195.wr W199 g56
  have K200 : Keep h0 h199 [pa1] := K195.wr W199 (Or.inr sz57)
  have V199 : Arv Z h199 b39 k39 .int (3 : Int32) ([(.int 0), (.int ((0 : Int32) + pi3)), (.int 0)]) (.int 0) := (Arv.set Ar199 qc199 Sz199 Nn199 Ha199 Gg199 (v := (.int 0)) rfl W199 2 rfl (Nat.le_of_ble_eq_true rfl))
  have N199 := Fr.snoc X199 N194 g56
  have f201 : Fld Z h199 pa1 s9n "mask" "[J" (.ref b63) := ((((f160.other W169 (Or.inl ne64)).other W189 (Or.inl ne4)).other W194 (Or.inl ne18)).other W199 (Or.inl ne40))
  obtain ⟨T202, X202, e202, st202⟩ := getF X199 hx hZ hown (host := "") (Or.inl (ow hw 136 rfl)) Via.refl e199 f201 (g := (mkF m 139 #[(vr pa1), (vr pa2), (vi 3), (vi 2), (vi 0), (vi 2), (vr pa10), .val (.long ((pi19.toInt64) - (pi20.toInt64))), .second, (vi pi5)] [(.ref pa1)])) rfl rfl (hb hby d16_139)
  have pre203 : ∀ t, Steps p.tables e below (T202.setTop (mkF m 146 #[(vr pa1), (vr pa2), (vi 3), (vi 2), (vi 0), (vi 2), (vr pa10), .val (.long ((pi19.toInt64) - (pi20.toInt64))), .second, (vi pi5)] [(.int pi5), (.int 2), (.ref b63)])) t → Steps p.tables e below (s₁.setTop (entryFrame m #[(.ref pa1), (.ref pa2)] 10)) t := by
    intro t k
    refine pre184 t ?_
    show Steps p.tables e below (T182.setTop (mkF m 89 #[(vr pa1), (vr pa2), (vi 3), (vi 1), .val (.int (((0 : Int32) + pi3) + pi4)), (vi 2), (vr pa10), .val (.long ((pi19.toInt64) - (pi20.toInt64))), .second, (vi pi4)] [(.int pi5)])) _
    refine XS.istore X182.here hx rfl (hb hby d16_89) rfl (l' := #[(vr pa1), (vr pa2), (vi 3), (vi 1), .val (.int (((0 : Int32) + pi3) + pi4)), (vi 2), (vr pa10), .val (.long ((pi19.toInt64) - (pi20.toInt64))), .second, (vi pi5)]) rfl ?_
    refine XS.iload X182.here hx rfl (hb hby d16_91) rfl ?_
    refine XS.iload X182.here hx rfl (hb hby d16_93) rfl ?_
    refine XS.iadd X182.here hx rfl (hb hby d16_95) rfl ?_
    refine XS.bipush X182.here hx rfl (hb hby d16_96) ?_
    refine XS.icmpNo X182.here hx rfl (hb hby d16_98) rfl (tlt (P37 : (64 : Int32) < ((((0 : Int32) + pi3) + pi4) + pi5))).2.2.2 ?_
    refine XS.iinc X182.here hx rfl (hb hby d16_101) rfl (l' := #[(vr pa1), (vr pa2), (vi 3), (vi 2), .val (.int (((0 : Int32) + pi3) + pi4)), (vi 2), (vr pa10), .val (.long ((pi19.toInt64) - (pi20.toInt64))), .second, (vi pi5)]) rfl ?_
    refine XS.iconst X182.here hx rfl (hb hby d16_104) ?_
    refine XS.istore X182.here hx rfl (hb hby d16_105) rfl (l' := #[(vr pa1), (vr pa2), (vi 3), (vi 2), (vi 0), (vi 2), (vr pa10), .val (.long ((pi19.toInt64) - (pi20.toInt64))), .second, (vi pi5)]) rfl ?_
    refine XS.aloadN X182.here hx rfl (hb hby d16_107) rfl rfl ?_
    refine st186 _ ?_
    refine XS.iload X186.here hx rfl (hb hby d16_111) rfl ?_
    refine XS.aload X186.here hx rfl (hb hby d16_113) rfl rfl ?_
    refine st187.trans ?_
    show Steps p.tables e below (T187.setTop (mkF m 118 #[(vr pa1), (vr pa2), (vi 3), (vi 2), (vi 0), (vi 2), (vr pa10), .val (.long ((pi19.toInt64) - (pi20.toInt64))), .second, (vi pi5)] [(.int pi20), (.int 2), (.ref b3)])) _
    refine st189 _ ?_
    refine XS.aloadN X189.here hx rfl (hb hby d16_119) rfl rfl ?_
    refine st192 _ ?_
    refine XS.iload X192.here hx rfl (hb hby d16_123) rfl ?_
    refine XS.iloadN X192.here hx rfl (hb hby d16_125) rfl ?_
    refine XS.iconst X192.here hx rfl (hb hby d16_126) ?_
    refine XS.isub X192.here hx rfl (hb hby d16_127) rfl ?_
    refine st194 _ ?_
    refine XS.aloadN X194.here hx rfl (hb hby d16_129) rfl rfl ?_
    refine st197 _ ?_
    refine XS.iload X197.here hx rfl (hb hby d16_133) rfl ?_
    refine XS.iload X197.here hx rfl (hb hby d16_135) rfl ?_
    refine st199 _ ?_
    refine XS.aloadN X199.here hx rfl (hb hby d16_138) rfl rfl ?_
    show Steps p.tables e below (T199.setTop (mkF m 139 #[(vr pa1), (vr pa2), (vi 3), (vi 2), (vi 0), (vi 2), (vr pa10), .val (.long ((pi19.toInt64) - (pi20.toInt64))), .second, (vi pi5)] [(.ref pa1)])) _
    refine st202 _ ?_
    refine XS.iload X202.here hx rfl (hb hby d16_142) rfl ?_
    refine XS.iload X202.here hx rfl (hb hby d16_144) rfl ?_
    exact k
  obtain ⟨y205, hy205⟩ : ∃ z : Int64, z = (if pi5 = (0 : Int32) then (0 : Int64) else (((-1 : Int64).toUInt64 >>> (((64 : Int32) - pi5) &&& 0x3f).toInt64.toUInt64).toInt64)) := ⟨_, rfl⟩
  have pre206 : ∀ t, Steps p.tables e below (T202.setTop (mkF m 162 #[(vr pa1), (vr pa2), (vi 3), (vi 2), (vi 0), (vi 2), (vr pa10), .val (.long ((pi19.toInt64) - (pi20.toInt64))), .second, (vi pi5)] [(.long y205), (.int 2), (.ref b63)])) t → Steps p.tables e below (s₁.setTop (entryFrame m #[(.ref pa1), (.ref pa2)] 10)) t := by
    intro t k
    rw [hy205] at k
    refine pre203 t ?_
    show Steps p.tables e below (T202.setTop (mkF m 146 #[(vr pa1), (vr pa2), (vi 3), (vi 2), (vi 0), (vi 2), (vr pa10), .val (.long ((pi19.toInt64) - (pi20.toInt64))), .second, (vi pi5)] [(.int pi5), (.int 2), (.ref b63)])) _
    rcases Decidable.em (pi5 = (0 : Int32)) with hm204 | hm204
    · first | simp only [if_pos hm204] at k | skip
      refine XS.ifNo X202.here hx rfl (hb hby d16_146) rfl ((if0 _ _).trans (teq hm204).2) ?_
      refine XS.lconst X202.here hx rfl (hb hby d16_149) ?_
      refine XS.goto X202.here hx rfl (pc0 := 150) (pc' := 162) rfl (hb hby d16_150) (by decide) (by decide) ?_
      exact k
    · first | simp only [if_neg hm204] at k | skip
      refine XS.ifYes X202.here hx rfl (pc0 := 146) (pc' := 153) rfl (hb hby d16_146) rfl ((if0 _ _).trans (feq hm204).2) (by decide) (by decide) ?_
      refine X202.ldc2Long hx hown (mvT hZ (ow hw 180 rfl)) (g := (mkF m 153 #[(vr pa1), (vr pa2), (vi 3), (vi 2), (vi 0), (vi 2), (vr pa10), .val (.long ((pi19.toInt64) - (pi20.toInt64))), .second, (vi pi5)] [(.int 2), (.ref b63)])) rfl (hb hby d16_153) _ ?_
      refine XS.bipush X202.here hx rfl (hb hby d16_156) ?_
      refine XS.iload X202.here hx rfl (hb hby d16_158) rfl ?_
      refine XS.isub X202.here hx rfl (hb hby d16_160) rfl ?_
      refine XS.lushr X202.here hx rfl (hb hby d16_161) rfl ?_
      exact k
  have hm207 : y205 = maskV pi5 := hy205
  have pre208 : ∀ t, Steps p.tables e below (T202.setTop (mkF m 162 #[(vr pa1), (vr pa2), (vi 3), (vi 2), (vi 0), (vi 2), (vr pa10), .val (.long ((pi19.toInt64) - (pi20.toInt64))), .second, (vi pi5)] [(.long (maskV pi5)), (.int 2), (.ref b63)])) t → Steps p.tables e below (s₁.setTop (entryFrame m #[(.ref pa1), (.ref pa2)] 10)) t := by
    intro t k
    refine pre206 t ?_
    rw [hm207]
    exact k
  have f209 : Arv Z h199 b63 k63 .long (3 : Int32) ([(.long (maskV pi3)), (.long (maskV pi4)), (.long 0)]) (.long 0) := (((V169.other W189 (Ne.symm ne76)).other W194 (Ne.symm ne78)).other W199 (Ne.symm ne80))
  obtain ⟨cl210, Ar210, qc210, Sz210, Nn210, Ha210, Gg210⟩ := (id f209)
  have hin210 : ¬ ((2 : Int32) < 0 ∨ cl210.slots.size ≤ ((2 : Int32)).toNatClampNeg) := inb_of Sz210 ⟨by decide, by decide⟩
  obtain ⟨T210, h210, X210, e210, W210, st210⟩ := stJ X202 hx hZ e202 Ar210 (j := (2 : Int32)) hin210 (g := (mkF m 162 #[(vr pa1), (vr pa2), (vi 3), (vi 2), (vi 0), (vi 2), (vr pa10), .val (.long ((pi19.toInt64) - (pi20.toInt64))), .second, (vi pi5)] [(.long (maskV pi5)), (.int 2), (.ref b63)])) rfl rfl (hb hby d16_162)
  have O211 : Old Z n0 h210 := O200.wr W210 g82
  have K211 : Keep h0 h210 [pa1] := K200.wr W210 (Or.inr sz83)
  have V210 : Arv Z h210 b63 k63 .long (3 : Int32) ([(.long (maskV pi3)), (.long (maskV pi4)), (.long (maskV pi5))]) (.long 0) := (Arv.set Ar210 qc210 Sz210 Nn210 Ha210 Gg210 (v := (.long (maskV pi5))) rfl W210 2 rfl (Nat.le_of_ble_eq_true rfl))
  have N210 := Fr.snoc X210 N199 g82
  have f212 : Exa Z h210 pa1 s9n := (((((((((((((f85.wr W87).wr W107).wr W112).wr W117).wr W128).wr W148).wr W153).wr W158).wr W169).wr W189).wr W194).wr W199).wr W210)
  have f213 : Fld Z h210 pa1 s9n s10n "I" (.int 0) := ((((((((((((((((((((P5.ext E3).other W15 (Or.inr (slot_ne (Or.inr (ow hw 182 rfl)) (Or.inr (ow hw 130 rfl)) (by decide) (t := .int) (t' := (.array .int)) (by decide) (by decide)))).ext E17).other W37 (Or.inr (slot_ne (Or.inr (ow hw 182 rfl)) (Or.inr (ow hw 132 rfl)) (by decide) (t := .int) (t' := (.array .int)) (by decide) (by decide)))).ext E39).other W61 (Or.inr (slot_ne (Or.inr (ow hw 182 rfl)) (Or.inr (ow hw 134 rfl)) (by decide) (t := .int) (t' := (.array .int)) (by decide) (by decide)))).ext E63).other W87 (Or.inr (slot_ne (Or.inr (ow hw 182 rfl)) (Or.inr (ow hw 137 rfl)) (by decide) (t := .int) (t' := (.array .long)) (by decide) (by decide)))).other W107 (Or.inl ne4)).other W112 (Or.inl ne18)).other W117 (Or.inl ne40)).other W128 (Or.inl ne64)).other W148 (Or.inl ne4)).other W153 (Or.inl ne18)).other W158 (Or.inl ne40)).other W169 (Or.inl ne64)).other W189 (Or.inl ne4)).other W194 (Or.inl ne18)).other W199 (Or.inl ne40)).other W210 (Or.inl ne64))
  obtain ⟨T214, h214, X214, e214, W214, st214⟩ := putF X210 hx hZ hown (host := "") (Or.inl (ow hw 181 rfl)) Via.refl e210 f213 f212 (Or.inr ⟨(ow hw 182 rfl), rfl, hnm⟩) (ow hw 115 rfl) (ty := .int) (by decide) rfl rfl (g := (mkF m 178 #[(vr pa1), (vr pa2), (vi 3), (vi 2), .val (.int ((0 : Int32) + pi5)), (vi 3), (vr pa10), .val (.long ((pi19.toInt64) - (pi20.toInt64))), .second, (vi pi5)] [(.int 2), (.ref pa1)])) rfl rfl (hb hby d16_178)
  have N214 := Fr.snoc X214 N210 P38
  have O215 : Old Z n0 h214 := O211.wr W214 P38
  have K215 : Keep h0 h214 [pa1] := K211.wr W214 (Or.inl (List.mem_of_getElem? (i := 0) rfl))
  have Fw214 : Fld Z h214 pa1 s9n s10n "I" (.int 2) := f213.same W214
  have f216 : Exa Z h214 pa1 s9n := (f212.wr W214)
  have f217 : Fld Z h214 pa1 s9n "low" "[I" (.ref b3) := (((((f185.other W189 (Or.inl ne4)).other W194 (Or.inl ne18)).other W199 (Or.inl ne40)).other W210 (Or.inl ne64)).other W214 (Or.inr (slot_ne (Or.inr (ow hw 130 rfl)) (Or.inr (ow hw 182 rfl)) (by decide) (t := (.array .int)) (t' := .int) (by decide) (by decide))))
  have f218 : Fld Z h214 pa1 s9n "mask" "[J" (.ref b63) := ((f201.other W210 (Or.inl ne64)).other W214 (Or.inr (slot_ne (Or.inr (ow hw 137 rfl)) (Or.inr (ow hw 182 rfl)) (by decide) (t := (.array .long)) (t' := .int) (by decide) (by decide))))
  have f219 : Fld Z h214 pa1 s9n "shift" "[I" (.ref b39) := (((f196.other W199 (Or.inl ne40)).other W210 (Or.inl ne64)).other W214 (Or.inr (slot_ne (Or.inr (ow hw 134 rfl)) (Or.inr (ow hw 182 rfl)) (by decide) (t := (.array .int)) (t' := .int) (by decide) (by decide))))
  have f220 : Fld Z h214 pa1 s9n "word" "[I" (.ref b17) := ((((f191.other W194 (Or.inl ne18)).other W199 (Or.inl ne40)).other W210 (Or.inl ne64)).other W214 (Or.inr (slot_ne (Or.inr (ow hw 132 rfl)) (Or.inr (ow hw 182 rfl)) (by decide) (t := (.array .int)) (t' := .int) (by decide) (by decide))))
  have f221 : Exa Z h214 b3 "[I" := ((((((((((((((((((((Z3.wr W15).ext E17).wr W37).ext E39).wr W61).ext E63).wr W87).wr W107).wr W112).wr W117).wr W128).wr W148).wr W153).wr W158).wr W169).wr W189).wr W194).wr W199).wr W210).wr W214)
  have f222 : Arv Z h214 b3 k3 .int (3 : Int32) ([(.int pi12), (.int pi16), (.int pi20)]) (.int 0) := ((((V189.other W194 ne30).other W199 ne52).other W210 ne76).other W214 (Ne.symm ne4))
  have f223 : Exa Z h214 b63 "[J" := ((((((((((((((Z63.wr W87).wr W107).wr W112).wr W117).wr W128).wr W148).wr W153).wr W158).wr W169).wr W189).wr W194).wr W199).wr W210).wr W214)
  have f224 : Arv Z h214 b63 k63 .long (3 : Int32) ([(.long (maskV pi3)), (.long (maskV pi4)), (.long (maskV pi5))]) (.long 0) := (V210.other W214 (Ne.symm ne64))
  have f225 : Exa Z h214 b39 "[I" := ((((((((((((((((Z39.wr W61).ext E63).wr W87).wr W107).wr W112).wr W117).wr W128).wr W148).wr W153).wr W158).wr W169).wr W189).wr W194).wr W199).wr W210).wr W214)
  have f226 : Arv Z h214 b39 k39 .int (3 : Int32) ([(.int 0), (.int ((0 : Int32) + pi3)), (.int 0)]) (.int 0) := ((V199.other W210 ne80).other W214 (Ne.symm ne40))
  have f227 : Exa Z h214 b17 "[I" := ((((((((((((((((((Z17.wr W37).ext E39).wr W61).ext E63).wr W87).wr W107).wr W112).wr W117).wr W128).wr W148).wr W153).wr W158).wr W169).wr W189).wr W194).wr W199).wr W210).wr W214)
  have f228 : Arv Z h214 b17 k17 .int (3 : Int32) ([(.int 0), (.int 0), (.int 1)]) (.int 0) := (((V194.other W199 ne54).other W210 ne78).other W214 (Ne.symm ne18))
  obtain ⟨fs, hr, hrun, hended, hW, hsame⟩ := X214.leave (v := none) (fun _ => rfl)
  refine ⟨_, _, pre208 _ ?_, hrun, hended, _, _, rfl, ?_, ⟨_, rfl⟩, hW, hsame.mono (by decide) (by decide)⟩
  · skip
    show Steps p.tables e below (T202.setTop (mkF m 162 #[(vr pa1), (vr pa2), (vi 3), (vi 2), (vi 0), (vi 2), (vr pa10), .val (.long ((pi19.toInt64) - (pi20.toInt64))), .second, (vi pi5)] [(.long (maskV pi5)), (.int 2), (.ref b63)])) _
    refine st210 _ ?_
    refine XS.iload X210.here hx rfl (hb hby d16_163) rfl ?_
    refine XS.iload X210.here hx rfl (hb hby d16_165) rfl ?_
    refine XS.iadd X210.here hx rfl (hb hby d16_167) rfl ?_
    refine XS.istore X210.here hx rfl (hb hby d16_168) rfl (l' := #[(vr pa1), (vr pa2), (vi 3), (vi 2), .val (.int ((0 : Int32) + pi5)), (vi 2), (vr pa10), .val (.long ((pi19.toInt64) - (pi20.toInt64))), .second, (vi pi5)]) rfl ?_
    refine XS.iinc X210.here hx rfl (hb hby d16_170) rfl (l' := #[(vr pa1), (vr pa2), (vi 3), (vi 2), .val (.int ((0 : Int32) + pi5)), (vi 3), (vr pa10), .val (.long ((pi19.toInt64) - (pi20.toInt64))), .second, (vi pi5)]) rfl ?_
    refine XS.goto X210.here hx rfl (pc0 := 173) (pc' := 47) rfl (hb hby d16_173) (by decide) (by decide) ?_
    refine XS.iload X210.here hx rfl (hb hby d16_47) rfl ?_
    refine XS.iloadN X210.here hx rfl (hb hby d16_49) rfl ?_
    refine XS.icmpYes X210.here hx rfl (pc0 := 50) (pc' := 176) rfl (hb hby d16_50) rfl (flt (by decide : ¬ ((3 : Int32) < (3 : Int32)))).2.1 (by decide) (by decide) ?_
    refine XS.aloadN X210.here hx rfl (hb hby d16_176) rfl rfl ?_
    refine XS.iloadN X210.here hx rfl (hb hby d16_177) rfl ?_
    refine st214 _ ?_
    exact X214.returnOut hx hret0 (hb hby d16_181) hr
  · show Q_au16_0 Z wINTEGER wDOUBLE wBOOLEAN wD kwD pa1 pa2 pi3 pi4 pi5 pa6 pk7 pa8 pa9 pa10 pi11 pi12 pi15 pi16 pi19 pi20 h0 n0 _ T214.heap _
    rw [e214]
    exact ⟨b3, b63, b39, b17, k3, k63, k39, k17, rfl, N214, K215, f216, f217, f218, f219, f220, Fw214, sz11, f221, f222, sz83, f223, f224, sz57, f225, f226, sz33, f227, f228, ne76, ne52, ne30, (Ne.symm ne80), (Ne.symm ne78), (Ne.symm ne54)⟩
theorem pd_16 : parseMethodDescriptor "(Ljava/util/List;)V" = some ⟨[(.object "java/util/List")], none⟩ := by decide +kernel
theorem ef_au26_0 (m : MethodId) (x0 : Addr) (x1 : Addr) (x2 : Addr) (x3 : Int32)  : entryFrame m #[(.ref x0), (.ref x1), (.ref x2), (.int x3)] 5 = mkF m 0 #[(vr x0), (vr x1), (vr x2), (vi x3), .unset] [] := by first | (simp [entryFrame, mkF, argsToLocals, Value.category]; done) | rfl
theorem d26_0 : decode prog_105_method_3_code 0 = .ok (.iconst 0, 1) := by decide +kernel
theorem d26_1 : decode prog_105_method_3_code 1 = .ok (.istore 4, 2) := by decide +kernel
theorem d26_3 : decode prog_105_method_3_code 3 = .ok (.iload 4, 2) := by decide +kernel
theorem d26_5 : decode prog_105_method_3_code 5 = .ok (.aload_n 0, 1) := by decide +kernel
theorem d26_6 : decode prog_105_method_3_code 6 = .ok (.getfield 48, 3) := by decide +kernel
theorem d26_9 : decode prog_105_method_3_code 9 = .ok (.if_icmp .ge 16, 3) := by decide +kernel
theorem d26_12 : decode prog_105_method_3_code 12 = .ok (.aload_n 2, 1) := by decide +kernel
theorem d26_13 : decode prog_105_method_3_code 13 = .ok (.iload_n 3, 1) := by decide +kernel
theorem d26_14 : decode prog_105_method_3_code 14 = .ok (.iload 4, 2) := by decide +kernel
theorem d26_16 : decode prog_105_method_3_code 16 = .ok (.iadd, 1) := by decide +kernel
theorem d26_17 : decode prog_105_method_3_code 17 = .ok (.lconst 0, 1) := by decide +kernel
theorem d26_18 : decode prog_105_method_3_code 18 = .ok (.lastore, 1) := by decide +kernel
theorem d26_19 : decode prog_105_method_3_code 19 = .ok (.iinc 4 1, 3) := by decide +kernel
theorem d26_22 : decode prog_105_method_3_code 22 = .ok (.goto (-19), 3) := by decide +kernel
theorem d26_25 : decode prog_105_method_3_code 25 = .ok (.iconst 0, 1) := by decide +kernel
theorem d26_26 : decode prog_105_method_3_code 26 = .ok (.istore 4, 2) := by decide +kernel
theorem d26_28 : decode prog_105_method_3_code 28 = .ok (.iload 4, 2) := by decide +kernel
theorem d26_30 : decode prog_105_method_3_code 30 = .ok (.aload_n 0, 1) := by decide +kernel
theorem d26_31 : decode prog_105_method_3_code 31 = .ok (.getfield 13, 3) := by decide +kernel
theorem d26_34 : decode prog_105_method_3_code 34 = .ok (.arraylength, 1) := by decide +kernel
theorem d26_35 : decode prog_105_method_3_code 35 = .ok (.if_icmp .ge 45, 3) := by decide +kernel
theorem d26_38 : decode prog_105_method_3_code 38 = .ok (.aload_n 2, 1) := by decide +kernel
theorem d26_39 : decode prog_105_method_3_code 39 = .ok (.iload_n 3, 1) := by decide +kernel
theorem d26_40 : decode prog_105_method_3_code 40 = .ok (.aload_n 0, 1) := by decide +kernel
theorem d26_41 : decode prog_105_method_3_code 41 = .ok (.getfield 19, 3) := by decide +kernel
theorem d26_44 : decode prog_105_method_3_code 44 = .ok (.iload 4, 2) := by decide +kernel
theorem d26_46 : decode prog_105_method_3_code 46 = .ok (.iaload, 1) := by decide +kernel
theorem d26_47 : decode prog_105_method_3_code 47 = .ok (.iadd, 1) := by decide +kernel
theorem d26_48 : decode prog_105_method_3_code 48 = .ok (.dup2, 1) := by decide +kernel
theorem d26_49 : decode prog_105_method_3_code 49 = .ok (.laload, 1) := by decide +kernel
theorem d26_50 : decode prog_105_method_3_code 50 = .ok (.aload_n 1, 1) := by decide +kernel
theorem d26_51 : decode prog_105_method_3_code 51 = .ok (.iload 4, 2) := by decide +kernel
theorem d26_53 : decode prog_105_method_3_code 53 = .ok (.iaload, 1) := by decide +kernel
theorem d26_54 : decode prog_105_method_3_code 54 = .ok (.i2l, 1) := by decide +kernel
theorem d26_55 : decode prog_105_method_3_code 55 = .ok (.aload_n 0, 1) := by decide +kernel
theorem d26_56 : decode prog_105_method_3_code 56 = .ok (.getfield 13, 3) := by decide +kernel
theorem d26_59 : decode prog_105_method_3_code 59 = .ok (.iload 4, 2) := by decide +kernel
theorem d26_61 : decode prog_105_method_3_code 61 = .ok (.iaload, 1) := by decide +kernel
theorem d26_62 : decode prog_105_method_3_code 62 = .ok (.i2l, 1) := by decide +kernel
theorem d26_63 : decode prog_105_method_3_code 63 = .ok (.lsub, 1) := by decide +kernel
theorem d26_64 : decode prog_105_method_3_code 64 = .ok (.aload_n 0, 1) := by decide +kernel
theorem d26_65 : decode prog_105_method_3_code 65 = .ok (.getfield 22, 3) := by decide +kernel
theorem d26_68 : decode prog_105_method_3_code 68 = .ok (.iload 4, 2) := by decide +kernel
theorem d26_70 : decode prog_105_method_3_code 70 = .ok (.iaload, 1) := by decide +kernel
theorem d26_71 : decode prog_105_method_3_code 71 = .ok (.lshl, 1) := by decide +kernel
theorem d26_72 : decode prog_105_method_3_code 72 = .ok (.lor, 1) := by decide +kernel
theorem d26_73 : decode prog_105_method_3_code 73 = .ok (.lastore, 1) := by decide +kernel
theorem d26_74 : decode prog_105_method_3_code 74 = .ok (.iinc 4 1, 3) := by decide +kernel
theorem d26_77 : decode prog_105_method_3_code 77 = .ok (.goto (-49), 3) := by decide +kernel
theorem d26_80 : decode prog_105_method_3_code 80 = .ok (.return_, 1) := by decide +kernel
def Q_au26_0 (Z : State) (wINTEGER : Addr) (wDOUBLE : Addr) (wBOOLEAN : Addr) (wD : Addr) (kwD : ClassId) (pa1 : Addr) (pa2 : Addr) (pa3 : Addr) (pi4 : Int32) (pa5 : Addr) (pa7 : Addr) (pa8 : Addr) (pk9 : ClassId) (pi10 : Int32) (pi11 : Int32) (pi12 : Int32) (pk13 : ClassId) (pj14 : Int64) (pk15 : ClassId) (pi16 : Int32) (pi17 : Int32) (pi18 : Int32) (pk23 : ClassId) (pi24 : Int32) (pk25 : ClassId) (h0 : Heap) (n0 : Nat) (v : Option Value) (h : Heap) (L : List Loc) : Prop := v = none ∧ Fr n0 L ∧ Keep h0 h [pa3] ∧ Exa Z h pa3 "[J" ∧ Arv Z h pa3 pk13 .long (6 : Int32) ([(.long (sB pi4 (0 : Int32) (fld (fld (0 : Int64) pi10 pi16 (0 : Int32)) pi11 pi17 pi24) (fld (0 : Int64) pi12 pi18 (0 : Int32)) pj14)), (.long (sB pi4 (1 : Int32) (fld (fld (0 : Int64) pi10 pi16 (0 : Int32)) pi11 pi17 pi24) (fld (0 : Int64) pi12 pi18 (0 : Int32)) pj14)), (.long (sB pi4 (2 : Int32) (fld (fld (0 : Int64) pi10 pi16 (0 : Int32)) pi11 pi17 pi24) (fld (0 : Int64) pi12 pi18 (0 : Int32)) pj14)), (.long (sB pi4 (3 : Int32) (fld (fld (0 : Int64) pi10 pi16 (0 : Int32)) pi11 pi17 pi24) (fld (0 : Int64) pi12 pi18 (0 : Int32)) pj14)), (.long (sB pi4 (4 : Int32) (fld (fld (0 : Int64) pi10 pi16 (0 : Int32)) pi11 pi17 pi24) (fld (0 : Int64) pi12 pi18 (0 : Int32)) pj14)), (.long (sB pi4 (5 : Int32) (fld (fld (0 : Int64) pi10 pi16 (0 : Int32)) pi11 pi17 pi24) (fld (0 : Int64) pi12 pi18 (0 : Int32)) pj14))]) (.long 0)
theorem au26_0 (l : Launch) (Z : State) (a0 : Array Value) (hw : ∀ d ∈ tables_1, d.before a0 Z = true) (ws : List Jvm.Cond) (wINTEGER : Addr) (wDOUBLE : Addr) (wBOOLEAN : Addr) (wD : Addr) (kwD : ClassId) (hS : SS Z wINTEGER wDOUBLE wBOOLEAN wD kwD) (pa1 : Addr) (pa2 : Addr) (pa3 : Addr) (pi4 : Int32) (pa5 : Addr) (pa7 : Addr) (pa8 : Addr) (pk9 : ClassId) (pi10 : Int32) (pi11 : Int32) (pi12 : Int32) (pk13 : ClassId) (pj14 : Int64) (pk15 : ClassId) (pi16 : Int32) (pi17 : Int32) (pi18 : Int32) (pk23 : ClassId) (pi24 : Int32) (pk25 : ClassId) (h0 : Heap) (n0 : Nat) (O0 : Old Z n0 h0) (P1 : Fld Z h0 pa1 s9n "low" "[I" (.ref pa5)) (P3 : Fld Z h0 pa1 s9n "shift" "[I" (.ref pa7)) (P4 : Fld Z h0 pa1 s9n "word" "[I" (.ref pa8)) (P5 : Fld Z h0 pa1 s9n s10n "I" (.int 2)) (P6 : Arv Z h0 pa2 pk9 .int (3 : Int32) ([(.int pi10), (.int pi11), (.int pi12)]) (.int 0)) (P8 : Arv Z h0 pa3 pk13 .long (6 : Int32) ([(.long pj14), (.long pj14), (.long pj14), (.long pj14), (.long pj14), (.long pj14)]) (.long 0)) (P9 : Exa Z h0 pa3 "[J") (P10 : Arv Z h0 pa5 pk15 .int (3 : Int32) ([(.int pi16), (.int pi17), (.int pi18)]) (.int 0)) (P14 : Arv Z h0 pa7 pk23 .int (3 : Int32) ([(.int 0), (.int pi24), (.int 0)]) (.int 0)) (P16 : Arv Z h0 pa8 pk25 .int (3 : Int32) ([(.int 0), (.int 0), (.int 1)]) (.int 0)) (P18 : inO pi4) (P23 : n0 ≤ pa3) (P29 : pa1 ≠ pa3) (P34 : pa2 ≠ pa3) (P39 : pa3 ≠ pa5) (P41 : pa3 ≠ pa7) (P42 : pa3 ≠ pa8) :
    MetB l M27 prog_105_method_3_code 5 none ws (rmk 0 0 0 0) Z h0 #[(.ref pa1), (.ref pa2), (.ref pa3), (.int pi4)] (Q_au26_0 Z wINTEGER wDOUBLE wBOOLEAN wD kwD pa1 pa2 pa3 pi4 pa5 pa7 pa8 pk9 pi10 pi11 pi12 pk13 pj14 pk15 pi16 pi17 pi18 pk23 pi24 pk25 h0 n0) := by
  refine own_body (plainFor_of_name pn_com_example_lanc_lanc_model_VariableLayout) ?_
  intro p e s m below meth c s₁ hx hby hml hown hnm hret0 hlk0 hZ X0 e0
  have N0 := Fr.nil n0
  have pre0 : ∀ t, Steps p.tables e below (s₁.setTop (mkF m 0 #[(vr pa1), (vr pa2), (vr pa3), (vi pi4), .unset] [])) t → Steps p.tables e below (s₁.setTop (entryFrame m #[(.ref pa1), (.ref pa2), (.ref pa3), (.int pi4)] 5)) t := fun t k => castTop (ef_au26_0 m pa1 pa2 pa3 pi4) k
  have K0 := Keep.refl h0 [pa3]
  have hS0 := hS
  obtain ⟨S_wINTEGER, E_wINTEGER, S_wDOUBLE, E_wDOUBLE, S_wBOOLEAN, E_wBOOLEAN, F_ordinal_wINTEGER, F_ordinal_wDOUBLE, F_ordinal_wBOOLEAN, S_wD, E_wD, V_wD⟩ := hS0
  obtain ⟨T1, X1, e1, st1⟩ := getF X0 hx hZ hown (host := "") (Or.inl (ow hw 181 rfl)) Via.refl e0 P5 (g := (mkF m 6 #[(vr pa1), (vr pa2), (vr pa3), (vi pi4), (vi 0)] [(.ref pa1), (.int 0)])) rfl rfl (hb hby d26_6)
  obtain ⟨cl2, Ar2, qc2, Sz2, Nn2, Ha2, Gg2⟩ := (id P8)
  have hin2 : ¬ ((pi4 + (0 : Int32)) < 0 ∨ cl2.slots.size ≤ ((pi4 + (0 : Int32))).toNatClampNeg) := own_inb6 P18 (Or.inl rfl) Sz2
  obtain ⟨T2, h2, X2, e2, W2, st2⟩ := stJ X1 hx hZ e1 Ar2 (j := (pi4 + (0 : Int32))) hin2 (g := (mkF m 18 #[(vr pa1), (vr pa2), (vr pa3), (vi pi4), (vi 0)] [(.long 0), (.int (pi4 + (0 : Int32))), (.ref pa3)])) rfl rfl (hb hby d26_18)
  have O3 : Old Z n0 h2 := O0.wr W2 P23
  have K3 : Keep h0 h2 [pa3] := K0.wr W2 (Or.inl (List.mem_of_getElem? (i := 0) rfl))
  have V2 : Arv Z h2 pa3 pk13 .long (6 : Int32) ([(.long (sA pi4 (0 : Int32) (0 : Int64) pj14)), (.long (sA pi4 (1 : Int32) (0 : Int64) pj14)), (.long (sA pi4 (2 : Int32) (0 : Int64) pj14)), (.long (sA pi4 (3 : Int32) (0 : Int64) pj14)), (.long (sA pi4 (4 : Int32) (0 : Int64) pj14)), (.long (sA pi4 (5 : Int32) (0 : Int64) pj14))]) (.long 0) := own_cast (own_set0 P18) (Arv.set Ar2 qc2 Sz2 Nn2 Ha2 Gg2 (v := (.long 0)) rfl W2 ((pi4 + (0 : Int32))).toNatClampNeg rfl (own_lt6 P18 (Or.inl rfl)))
  have N2 := Fr.snoc X2 N0 P23
  have f4 : Fld Z h2 pa1 s9n s10n "I" (.int 2) := (P5.other W2 (Or.inl P29))
  obtain ⟨T5, X5, e5, st5⟩ := getF X2 hx hZ hown (host := "") (Or.inl (ow hw 181 rfl)) Via.refl e2 f4 (g := (mkF m 6 #[(vr pa1), (vr pa2), (vr pa3), (vi pi4), (vi 1)] [(.ref pa1), (.int 1)])) rfl rfl (hb hby d26_6)
  obtain ⟨cl6, Ar6, qc6, Sz6, Nn6, Ha6, Gg6⟩ := (id V2)
  have hin6 : ¬ ((pi4 + (1 : Int32)) < 0 ∨ cl6.slots.size ≤ ((pi4 + (1 : Int32))).toNatClampNeg) := own_inb6 P18 (Or.inr rfl) Sz6
  obtain ⟨T6, h6, X6, e6, W6, st6⟩ := stJ X5 hx hZ e5 Ar6 (j := (pi4 + (1 : Int32))) hin6 (g := (mkF m 18 #[(vr pa1), (vr pa2), (vr pa3), (vi pi4), (vi 1)] [(.long 0), (.int (pi4 + (1 : Int32))), (.ref pa3)])) rfl rfl (hb hby d26_18)
  have O7 : Old Z n0 h6 := O3.wr W6 P23
  have K7 : Keep h0 h6 [pa3] := K3.wr W6 (Or.inl (List.mem_of_getElem? (i := 0) rfl))
  have V6 : Arv Z h6 pa3 pk13 .long (6 : Int32) ([(.long (sB pi4 (0 : Int32) (0 : Int64) (0 : Int64) pj14)), (.long (sB pi4 (1 : Int32) (0 : Int64) (0 : Int64) pj14)), (.long (sB pi4 (2 : Int32) (0 : Int64) (0 : Int64) pj14)), (.long (sB pi4 (3 : Int32) (0 : Int64) (0 : Int64) pj14)), (.long (sB pi4 (4 : Int32) (0 : Int64) (0 : Int64) pj14)), (.long (sB pi4 (5 : Int32) (0 : Int64) (0 : Int64) pj14))]) (.long 0) := own_cast (own_setA1 P18) (Arv.set Ar6 qc6 Sz6 Nn6 Ha6 Gg6 (v := (.long 0)) rfl W6 ((pi4 + (1 : Int32))).toNatClampNeg rfl (own_lt6 P18 (Or.inr rfl)))
  have N6 := Fr.snoc X6 N2 P23
  have f8 : Fld Z h6 pa1 s9n s10n "I" (.int 2) := (f4.other W6 (Or.inl P29))
  obtain ⟨T9, X9, e9, st9⟩ := getF X6 hx hZ hown (host := "") (Or.inl (ow hw 181 rfl)) Via.refl e6 f8 (g := (mkF m 6 #[(vr pa1), (vr pa2), (vr pa3), (vi pi4), (vi 2)] [(.ref pa1), (.int 2)])) rfl rfl (hb hby d26_6)
  have f10 : Fld Z h6 pa1 s9n "low" "[I" (.ref pa5) := ((P1.other W2 (Or.inl P29)).other W6 (Or.inl P29))
  obtain ⟨T11, X11, e11, st11⟩ := getF X9 hx hZ hown (host := "") (Or.inl (ow hw 129 rfl)) Via.refl e9 f10 (g := (mkF m 31 #[(vr pa1), (vr pa2), (vr pa3), (vi pi4), (vi 0)] [(.ref pa1), (.int 0)])) rfl rfl (hb hby d26_31)
  have f12 : Arv Z h6 pa5 pk15 .int (3 : Int32) ([(.int pi16), (.int pi17), (.int pi18)]) (.int 0) := ((P10.other W2 (Ne.symm P39)).other W6 (Ne.symm P39))
  obtain ⟨cl13, Ar13, -, Sz13, Nn13, -, -⟩ := (id f12)
  have f14 : Fld Z h6 pa1 s9n "word" "[I" (.ref pa8) := ((P4.other W2 (Or.inl P29)).other W6 (Or.inl P29))
  obtain ⟨T15, X15, e15, st15⟩ := getF X11 hx hZ hown (host := "") (Or.inl (ow hw 131 rfl)) Via.refl e11 f14 (g := (mkF m 41 #[(vr pa1), (vr pa2), (vr pa3), (vi pi4), (vi 0)] [(.ref pa1), (.int pi4), (.ref pa3)])) rfl rfl (hb hby d26_41)
  have f16 : Arv Z h6 pa8 pk25 .int (3 : Int32) ([(.int 0), (.int 0), (.int 1)]) (.int 0) := ((P16.other W2 (Ne.symm P42)).other W6 (Ne.symm P42))
  obtain ⟨cl17, Ar17, qc17, Sz17, Nn17, Ha17, Gg17⟩ := (id f16)
  have hin17 : ¬ ((0 : Int32) < 0 ∨ cl17.slots.size ≤ ((0 : Int32)).toNatClampNeg) := inb_of Sz17 ⟨by decide, by decide⟩
  have hat17 : cl17.slots[((0 : Int32)).toNatClampNeg]? = some (.int 0) := Ha17.at hin17 rfl
  obtain ⟨cl18, Ar18, qc18, Sz18, Nn18, Ha18, Gg18⟩ := (id V6)
  have hin18 : ¬ ((pi4 + (0 : Int32)) < 0 ∨ cl18.slots.size ≤ ((pi4 + (0 : Int32))).toNatClampNeg) := own_inb6 P18 (Or.inl rfl) Sz18
  have hat18 : cl18.slots[((pi4 + (0 : Int32))).toNatClampNeg]? = some (.long 0) := Ha18.at hin18 (own_getB0 P18)
  have f19 : Arv Z h6 pa2 pk9 .int (3 : Int32) ([(.int pi10), (.int pi11), (.int pi12)]) (.int 0) := ((P6.other W2 P34).other W6 P34)
  obtain ⟨cl20, Ar20, qc20, Sz20, Nn20, Ha20, Gg20⟩ := (id f19)
  have hin20 : ¬ ((0 : Int32) < 0 ∨ cl20.slots.size ≤ ((0 : Int32)).toNatClampNeg) := inb_of Sz20 ⟨by decide, by decide⟩
  have hat20 : cl20.slots[((0 : Int32)).toNatClampNeg]? = some (.int pi10) := Ha20.at hin20 rfl
  obtain ⟨T21, X21, e21, st21⟩ := getF X15 hx hZ hown (host := "") (Or.inl (ow hw 129 rfl)) Via.refl e15 f10 (g := (mkF m 56 #[(vr pa1), (vr pa2), (vr pa3), (vi pi4), (vi 0)] [(.ref pa1), (.long (pi10.toInt64)), (.long 0), (.int (pi4 + (0 : Int32))), (.ref pa3)])) rfl rfl (hb hby d26_56)
  obtain ⟨cl22, Ar22, qc22, Sz22, Nn22, Ha22, Gg22⟩ := (id f12)
  have hin22 : ¬ ((0 : Int32) < 0 ∨ cl22.slots.size ≤ ((0 : Int32)).toNatClampNeg) := inb_of Sz22 ⟨by decide, by decide⟩
  have hat22 : cl22.slots[((0 : Int32)).toNatClampNeg]? = some (.int pi16) := Ha22.at hin22 rfl
  have f23 : Fld Z h6 pa1 s9n "shift" "[I" (.ref pa7) := ((P3.other W2 (Or.inl P29)).other W6 (Or.inl P29))
  obtain ⟨T24, X24, e24, st24⟩ := getF X21 hx hZ hown (host := "") (Or.inl (ow hw 133 rfl)) Via.refl e21 f23 (g := (mkF m 65 #[(vr pa1), (vr pa2), (vr pa3), (vi pi4), (vi 0)] [(.ref pa1), (.long ((pi10.toInt64) - (pi16.toInt64))), (.long 0), (.int (pi4 + (0 : Int32))), (.ref pa3)])) rfl rfl (hb hby d26_65)
  have f25 : Arv Z h6 pa7 pk23 .int (3 : Int32) ([(.int 0), (.int pi24), (.int 0)]) (.int 0) := ((P14.other W2 (Ne.symm P41)).other W6 (Ne.symm P41))
  obtain ⟨cl26, Ar26, qc26, Sz26, Nn26, Ha26, Gg26⟩ := (id f25)
  have hin26 : ¬ ((0 : Int32) < 0 ∨ cl26.slots.size ≤ ((0 : Int32)).toNatClampNeg) := inb_of Sz26 ⟨by decide, by decide⟩
  have hat26 : cl26.slots[((0 : Int32)).toNatClampNeg]? = some (.int 0) := Ha26.at hin26 rfl
  have pre27 : ∀ t, Steps p.tables e below (T24.setTop (mkF m 73 #[(vr pa1), (vr pa2), (vr pa3), (vi pi4), (vi 0)] [(.long (fld (0 : Int64) pi10 pi16 (0 : Int32))), (.int (pi4 + (0 : Int32))), (.ref pa3)])) t → Steps p.tables e below (s₁.setTop (entryFrame m #[(.ref pa1), (.ref pa2), (.ref pa3), (.int pi4)] 5)) t := by
    intro t k
    refine pre0 t ?_
    show Steps p.tables e below (s₁.setTop (mkF m 0 #[(vr pa1), (vr pa2), (vr pa3), (vi pi4), .unset] [])) _
    refine XS.iconst X0.here hx rfl (hb hby d26_0) ?_
    refine XS.istore X0.here hx rfl (hb hby d26_1) rfl (l' := #[(vr pa1), (vr pa2), (vr pa3), (vi pi4), (vi 0)]) rfl ?_
    refine XS.iload X0.here hx rfl (hb hby d26_3) rfl ?_
    refine XS.aloadN X0.here hx rfl (hb hby d26_5) rfl rfl ?_
    refine st1 _ ?_
    refine XS.icmpNo X1.here hx rfl (hb hby d26_9) rfl (tlt (by decide : (0 : Int32) < (2 : Int32))).2.1 ?_
    refine XS.aloadN X1.here hx rfl (hb hby d26_12) rfl rfl ?_
    refine XS.iloadN X1.here hx rfl (hb hby d26_13) rfl ?_
    refine XS.iload X1.here hx rfl (hb hby d26_14) rfl ?_
    refine XS.iadd X1.here hx rfl (hb hby d26_16) rfl ?_
    refine XS.lconst X1.here hx rfl (hb hby d26_17) ?_
    refine st2 _ ?_
    refine XS.iinc X2.here hx rfl (hb hby d26_19) rfl (l' := #[(vr pa1), (vr pa2), (vr pa3), (vi pi4), (vi 1)]) rfl ?_
    refine XS.goto X2.here hx rfl (pc0 := 22) (pc' := 3) rfl (hb hby d26_22) (by decide) (by decide) ?_
    show Steps p.tables e below (T2.setTop (mkF m 3 #[(vr pa1), (vr pa2), (vr pa3), (vi pi4), (vi 1)] [])) _
    refine XS.iload X2.here hx rfl (hb hby d26_3) rfl ?_
    refine XS.aloadN X2.here hx rfl (hb hby d26_5) rfl rfl ?_
    refine st5 _ ?_
    refine XS.icmpNo X5.here hx rfl (hb hby d26_9) rfl (tlt (by decide : (1 : Int32) < (2 : Int32))).2.1 ?_
    refine XS.aloadN X5.here hx rfl (hb hby d26_12) rfl rfl ?_
    refine XS.iloadN X5.here hx rfl (hb hby d26_13) rfl ?_
    refine XS.iload X5.here hx rfl (hb hby d26_14) rfl ?_
    refine XS.iadd X5.here hx rfl (hb hby d26_16) rfl ?_
    refine XS.lconst X5.here hx rfl (hb hby d26_17) ?_
    refine st6 _ ?_
    refine XS.iinc X6.here hx rfl (hb hby d26_19) rfl (l' := #[(vr pa1), (vr pa2), (vr pa3), (vi pi4), (vi 2)]) rfl ?_
    refine XS.goto X6.here hx rfl (pc0 := 22) (pc' := 3) rfl (hb hby d26_22) (by decide) (by decide) ?_
    refine XS.iload X6.here hx rfl (hb hby d26_3) rfl ?_
    refine XS.aloadN X6.here hx rfl (hb hby d26_5) rfl rfl ?_
    show Steps p.tables e below (T6.setTop (mkF m 6 #[(vr pa1), (vr pa2), (vr pa3), (vi pi4), (vi 2)] [(.ref pa1), (.int 2)])) _
    refine st9 _ ?_
    refine XS.icmpYes X9.here hx rfl (pc0 := 9) (pc' := 25) rfl (hb hby d26_9) rfl (flt (by decide : ¬ ((2 : Int32) < (2 : Int32)))).2.1 (by decide) (by decide) ?_
    refine XS.iconst X9.here hx rfl (hb hby d26_25) ?_
    refine XS.istore X9.here hx rfl (hb hby d26_26) rfl (l' := #[(vr pa1), (vr pa2), (vr pa3), (vi pi4), (vi 0)]) rfl ?_
    refine XS.iload X9.here hx rfl (hb hby d26_28) rfl ?_
    refine XS.aloadN X9.here hx rfl (hb hby d26_30) rfl rfl ?_
    refine st11 _ ?_
    refine X11.arraylength hx (by rw [e11]; exact Ar13.1) (State.isArrayOf_alike hZ.alike Ar13.2.1) (g := (mkF m 34 #[(vr pa1), (vr pa2), (vr pa3), (vi pi4), (vi 0)] [(.ref pa5), (.int 0)])) rfl rfl (hb hby d26_34) _ ?_
    rw [len_of Sz13 Nn13]
    refine XS.icmpNo X11.here hx rfl (hb hby d26_35) rfl (tlt (by decide : (0 : Int32) < (3 : Int32))).2.1 ?_
    refine XS.aloadN X11.here hx rfl (hb hby d26_38) rfl rfl ?_
    refine XS.iloadN X11.here hx rfl (hb hby d26_39) rfl ?_
    refine XS.aloadN X11.here hx rfl (hb hby d26_40) rfl rfl ?_
    refine st15 _ ?_
    refine XS.iload X15.here hx rfl (hb hby d26_44) rfl ?_
    show Steps p.tables e below (T15.setTop (mkF m 46 #[(vr pa1), (vr pa2), (vr pa3), (vi pi4), (vi 0)] [(.int 0), (.ref pa8), (.int pi4), (.ref pa3)])) _
    refine X15.iaload hx (j := (0 : Int32)) (v := (.int 0)) (by rw [e15]; exact Ar17.1) (State.isArrayOf_alike hZ.alike Ar17.2.1) Ar17.2.2 hin17 hat17 (g := (mkF m 46 #[(vr pa1), (vr pa2), (vr pa3), (vi pi4), (vi 0)] [(.int 0), (.ref pa8), (.int pi4), (.ref pa3)])) rfl rfl (hb hby d26_46) _ ?_
    refine XS.iadd X15.here hx rfl (hb hby d26_47) rfl ?_
    refine XT.dup2 X15.here hx rfl (hb hby d26_48) rfl rfl rfl ?_
    refine X15.laload hx (j := (pi4 + (0 : Int32))) (v := (.long 0)) (by rw [e15]; exact Ar18.1) (State.isArrayOf_alike hZ.alike Ar18.2.1) Ar18.2.2 hin18 hat18 (g := (mkF m 49 #[(vr pa1), (vr pa2), (vr pa3), (vi pi4), (vi 0)] [(.int (pi4 + (0 : Int32))), (.ref pa3), (.int (pi4 + (0 : Int32))), (.ref pa3)])) rfl rfl (hb hby d26_49) _ ?_
    refine XS.aloadN X15.here hx rfl (hb hby d26_50) rfl rfl ?_
    refine XS.iload X15.here hx rfl (hb hby d26_51) rfl ?_
    refine X15.iaload hx (j := (0 : Int32)) (v := (.int pi10)) (by rw [e15]; exact Ar20.1) (State.isArrayOf_alike hZ.alike Ar20.2.1) Ar20.2.2 hin20 hat20 (g := (mkF m 53 #[(vr pa1), (vr pa2), (vr pa3), (vi pi4), (vi 0)] [(.int 0), (.ref pa2), (.long 0), (.int (pi4 + (0 : Int32))), (.ref pa3)])) rfl rfl (hb hby d26_53) _ ?_
    refine XS.i2l X15.here hx rfl (hb hby d26_54) rfl ?_
    refine XS.aloadN X15.here hx rfl (hb hby d26_55) rfl rfl ?_
    refine st21 _ ?_
    refine XS.iload X21.here hx rfl (hb hby d26_59) rfl ?_
    refine X21.iaload hx (j := (0 : Int32)) (v := (.int pi16)) (by rw [e21]; exact Ar22.1) (State.isArrayOf_alike hZ.alike Ar22.2.1) Ar22.2.2 hin22 hat22 (g := (mkF m 61 #[(vr pa1), (vr pa2), (vr pa3), (vi pi4), (vi 0)] [(.int 0), (.ref pa5), (.long (pi10.toInt64)), (.long 0), (.int (pi4 + (0 : Int32))), (.ref pa3)])) rfl rfl (hb hby d26_61) _ ?_
    refine XS.i2l X21.here hx rfl (hb hby d26_62) rfl ?_
    refine XS.lsub X21.here hx rfl (hb hby d26_63) rfl ?_
    show Steps p.tables e below (T21.setTop (mkF m 64 #[(vr pa1), (vr pa2), (vr pa3), (vi pi4), (vi 0)] [(.long ((pi10.toInt64) - (pi16.toInt64))), (.long 0), (.int (pi4 + (0 : Int32))), (.ref pa3)])) _
    refine XS.aloadN X21.here hx rfl (hb hby d26_64) rfl rfl ?_
    refine st24 _ ?_
    refine XS.iload X24.here hx rfl (hb hby d26_68) rfl ?_
    refine X24.iaload hx (j := (0 : Int32)) (v := (.int 0)) (by rw [e24]; exact Ar26.1) (State.isArrayOf_alike hZ.alike Ar26.2.1) Ar26.2.2 hin26 hat26 (g := (mkF m 70 #[(vr pa1), (vr pa2), (vr pa3), (vi pi4), (vi 0)] [(.int 0), (.ref pa7), (.long ((pi10.toInt64) - (pi16.toInt64))), (.long 0), (.int (pi4 + (0 : Int32))), (.ref pa3)])) rfl rfl (hb hby d26_70) _ ?_
    refine XS.lshl X24.here hx rfl (hb hby d26_71) rfl ?_
    refine XS.lor X24.here hx rfl (hb hby d26_72) rfl ?_
    rw [(show ((0 : Int64) ||| (((pi10.toInt64) - (pi16.toInt64)) <<< ((0 : Int32) &&& 0x3f).toInt64)) = (fld (0 : Int64) pi10 pi16 (0 : Int32)) from rfl)]
    exact k
  obtain ⟨cl28, Ar28, qc28, Sz28, Nn28, Ha28, Gg28⟩ := (id V6)
  have hin28 : ¬ ((pi4 + (0 : Int32)) < 0 ∨ cl28.slots.size ≤ ((pi4 + (0 : Int32))).toNatClampNeg) := own_inb6 P18 (Or.inl rfl) Sz28
  obtain ⟨T28, h28, X28, e28, W28, st28⟩ := stJ X24 hx hZ e24 Ar28 (j := (pi4 + (0 : Int32))) hin28 (g := (mkF m 73 #[(vr pa1), (vr pa2), (vr pa3), (vi pi4), (vi 0)] [(.long (fld (0 : Int64) pi10 pi16 (0 : Int32))), (.int (pi4 + (0 : Int32))), (.ref pa3)])) rfl rfl (hb hby d26_73)
  have O29 : Old Z n0 h28 := O7.wr W28 P23
  have K29 : Keep h0 h28 [pa3] := K7.wr W28 (Or.inl (List.mem_of_getElem? (i := 0) rfl))
  have V28 : Arv Z h28 pa3 pk13 .long (6 : Int32) ([(.long (sB pi4 (0 : Int32) (fld (0 : Int64) pi10 pi16 (0 : Int32)) (0 : Int64) pj14)), (.long (sB pi4 (1 : Int32) (fld (0 : Int64) pi10 pi16 (0 : Int32)) (0 : Int64) pj14)), (.long (sB pi4 (2 : Int32) (fld (0 : Int64) pi10 pi16 (0 : Int32)) (0 : Int64) pj14)), (.long (sB pi4 (3 : Int32) (fld (0 : Int64) pi10 pi16 (0 : Int32)) (0 : Int64) pj14)), (.long (sB pi4 (4 : Int32) (fld (0 : Int64) pi10 pi16 (0 : Int32)) (0 : Int64) pj14)), (.long (sB pi4 (5 : Int32) (fld (0 : Int64) pi10 pi16 (0 : Int32)) (0 : Int64) pj14))]) (.long 0) := own_cast (own_setB0 P18) (Arv.set Ar28 qc28 Sz28 Nn28 Ha28 Gg28 (v := (.long (fld (0 : Int64) pi10 pi16 (0 : Int32)))) rfl W28 ((pi4 + (0 : Int32))).toNatClampNeg rfl (own_lt6 P18 (Or.inl rfl)))
  have N28 := Fr.snoc X28 N6 P23
  have f30 : Fld Z h28 pa1 s9n "low" "[I" (.ref pa5) := (f10.other W28 (Or.inl P29))
  obtain ⟨T31, X31, e31, st31⟩ := getF X28 hx hZ hown (host := "") (Or.inl (ow hw 129 rfl)) Via.refl e28 f30 (g := (mkF m 31 #[(vr pa1), (vr pa2), (vr pa3), (vi pi4), (vi 1)] [(.ref pa1), (.int 1)])) rfl rfl (hb hby d26_31)
  have f32 : Arv Z h28 pa5 pk15 .int (3 : Int32) ([(.int pi16), (.int pi17), (.int pi18)]) (.int 0) := (f12.other W28 (Ne.symm P39))
  obtain ⟨cl33, Ar33, -, Sz33, Nn33, -, -⟩ := (id f32)
  have f34 : Fld Z h28 pa1 s9n "word" "[I" (.ref pa8) := (f14.other W28 (Or.inl P29))
  obtain ⟨T35, X35, e35, st35⟩ := getF X31 hx hZ hown (host := "") (Or.inl (ow hw 131 rfl)) Via.refl e31 f34 (g := (mkF m 41 #[(vr pa1), (vr pa2), (vr pa3), (vi pi4), (vi 1)] [(.ref pa1), (.int pi4), (.ref pa3)])) rfl rfl (hb hby d26_41)
  have f36 : Arv Z h28 pa8 pk25 .int (3 : Int32) ([(.int 0), (.int 0), (.int 1)]) (.int 0) := (f16.other W28 (Ne.symm P42))
  obtain ⟨cl37, Ar37, qc37, Sz37, Nn37, Ha37, Gg37⟩ := (id f36)
  have hin37 : ¬ ((1 : Int32) < 0 ∨ cl37.slots.size ≤ ((1 : Int32)).toNatClampNeg) := inb_of Sz37 ⟨by decide, by decide⟩
  have hat37 : cl37.slots[((1 : Int32)).toNatClampNeg]? = some (.int 0) := Ha37.at hin37 rfl
  obtain ⟨cl38, Ar38, qc38, Sz38, Nn38, Ha38, Gg38⟩ := (id V28)
  have hin38 : ¬ ((pi4 + (0 : Int32)) < 0 ∨ cl38.slots.size ≤ ((pi4 + (0 : Int32))).toNatClampNeg) := own_inb6 P18 (Or.inl rfl) Sz38
  have hat38 : cl38.slots[((pi4 + (0 : Int32))).toNatClampNeg]? = some (.long (fld (0 : Int64) pi10 pi16 (0 : Int32))) := Ha38.at hin38 (own_getB0 P18)
  have f39 : Arv Z h28 pa2 pk9 .int (3 : Int32) ([(.int pi10), (.int pi11), (.int pi12)]) (.int 0) := (f19.other W28 P34)
  obtain ⟨cl40, Ar40, qc40, Sz40, Nn40, Ha40, Gg40⟩ := (id f39)
  have hin40 : ¬ ((1 : Int32) < 0 ∨ cl40.slots.size ≤ ((1 : Int32)).toNatClampNeg) := inb_of Sz40 ⟨by decide, by decide⟩
  have hat40 : cl40.slots[((1 : Int32)).toNatClampNeg]? = some (.int pi11) := Ha40.at hin40 rfl
  obtain ⟨T41, X41, e41, st41⟩ := getF X35 hx hZ hown (host := "") (Or.inl (ow hw 129 rfl)) Via.refl e35 f30 (g := (mkF m 56 #[(vr pa1), (vr pa2), (vr pa3), (vi pi4), (vi 1)] [(.ref pa1), (.long (pi11.toInt64)), (.long (fld (0 : Int64) pi10 pi16 (0 : Int32))), (.int (pi4 + (0 : Int32))), (.ref pa3)])) rfl rfl (hb hby d26_56)
  obtain ⟨cl42, Ar42, qc42, Sz42, Nn42, Ha42, Gg42⟩ := (id f32)
  have hin42 : ¬ ((1 : Int32) < 0 ∨ cl42.slots.size ≤ ((1 : Int32)).toNatClampNeg) := inb_of Sz42 ⟨by decide, by decide⟩
  have hat42 : cl42.slots[((1 : Int32)).toNatClampNeg]? = some (.int pi17) := Ha42.at hin42 rfl
  have f43 : Fld Z h28 pa1 s9n "shift" "[I" (.ref pa7) := (f23.other W28 (Or.inl P29))
  obtain ⟨T44, X44, e44, st44⟩ := getF X41 hx hZ hown (host := "") (Or.inl (ow hw 133 rfl)) Via.refl e41 f43 (g := (mkF m 65 #[(vr pa1), (vr pa2), (vr pa3), (vi pi4), (vi 1)] [(.ref pa1), (.long ((pi11.toInt64) - (pi17.toInt64))), (.long (fld (0 : Int64) pi10 pi16 (0 : Int32))), (.int (pi4 + (0 : Int32))), (.ref pa3)])) rfl rfl (hb hby d26_65)
  have f45 : Arv Z h28 pa7 pk23 .int (3 : Int32) ([(.int 0), (.int pi24), (.int 0)]) (.int 0) := (f25.other W28 (Ne.symm P41))
  obtain ⟨cl46, Ar46, qc46, Sz46, Nn46, Ha46, Gg46⟩ := (id f45)
  have hin46 : ¬ ((1 : Int32) < 0 ∨ cl46.slots.size ≤ ((1 : Int32)).toNatClampNeg) := inb_of Sz46 ⟨by decide, by decide⟩
  have hat46 : cl46.slots[((1 : Int32)).toNatClampNeg]? = some (.int pi24) := Ha46.at hin46 rfl
  have pre47 : ∀ t, Steps p.tables e below (T44.setTop (mkF m 73 #[(vr pa1), (vr pa2), (vr pa3), (vi pi4), (vi 1)] [(.long (fld (fld (0 : Int64) pi10 pi16 (0 : Int32)) pi11 pi17 pi24)), (.int (pi4 + (0 : Int32))), (.ref pa3)])) t → Steps p.tables e below (s₁.setTop (entryFrame m #[(.ref pa1), (.ref pa2), (.ref pa3), (.int pi4)] 5)) t := by
    intro t k
    refine pre27 t ?_
    show Steps p.tables e below (T24.setTop (mkF m 73 #[(vr pa1), (vr pa2), (vr pa3), (vi pi4), (vi 0)] [(.long (fld (0 : Int64) pi10 pi16 (0 : Int32))), (.int (pi4 + (0 : Int32))), (.ref pa3)])) _
    refine st28 _ ?_
    refine XS.iinc X28.here hx rfl (hb hby d26_74) rfl (l' := #[(vr pa1), (vr pa2), (vr pa3), (vi pi4), (vi 1)]) rfl ?_
    refine XS.goto X28.here hx rfl (pc0 := 77) (pc' := 28) rfl (hb hby d26_77) (by decide) (by decide) ?_
    refine XS.iload X28.here hx rfl (hb hby d26_28) rfl ?_
    refine XS.aloadN X28.here hx rfl (hb hby d26_30) rfl rfl ?_
    refine st31 _ ?_
    refine X31.arraylength hx (by rw [e31]; exact Ar33.1) (State.isArrayOf_alike hZ.alike Ar33.2.1) (g := (mkF m 34 #[(vr pa1), (vr pa2), (vr pa3), (vi pi4), (vi 1)] [(.ref pa5), (.int 1)])) rfl rfl (hb hby d26_34) _ ?_
    rw [len_of Sz33 Nn33]
    refine XS.icmpNo X31.here hx rfl (hb hby d26_35) rfl (tlt (by decide : (1 : Int32) < (3 : Int32))).2.1 ?_
    refine XS.aloadN X31.here hx rfl (hb hby d26_38) rfl rfl ?_
    refine XS.iloadN X31.here hx rfl (hb hby d26_39) rfl ?_
    refine XS.aloadN X31.here hx rfl (hb hby d26_40) rfl rfl ?_
    refine st35 _ ?_
    refine XS.iload X35.here hx rfl (hb hby d26_44) rfl ?_
    refine X35.iaload hx (j := (1 : Int32)) (v := (.int 0)) (by rw [e35]; exact Ar37.1) (State.isArrayOf_alike hZ.alike Ar37.2.1) Ar37.2.2 hin37 hat37 (g := (mkF m 46 #[(vr pa1), (vr pa2), (vr pa3), (vi pi4), (vi 1)] [(.int 1), (.ref pa8), (.int pi4), (.ref pa3)])) rfl rfl (hb hby d26_46) _ ?_
    show Steps p.tables e below (T35.setTop (mkF m 47 #[(vr pa1), (vr pa2), (vr pa3), (vi pi4), (vi 1)] [(.int 0), (.int pi4), (.ref pa3)])) _
    refine XS.iadd X35.here hx rfl (hb hby d26_47) rfl ?_
    refine XT.dup2 X35.here hx rfl (hb hby d26_48) rfl rfl rfl ?_
    refine X35.laload hx (j := (pi4 + (0 : Int32))) (v := (.long (fld (0 : Int64) pi10 pi16 (0 : Int32)))) (by rw [e35]; exact Ar38.1) (State.isArrayOf_alike hZ.alike Ar38.2.1) Ar38.2.2 hin38 hat38 (g := (mkF m 49 #[(vr pa1), (vr pa2), (vr pa3), (vi pi4), (vi 1)] [(.int (pi4 + (0 : Int32))), (.ref pa3), (.int (pi4 + (0 : Int32))), (.ref pa3)])) rfl rfl (hb hby d26_49) _ ?_
    refine XS.aloadN X35.here hx rfl (hb hby d26_50) rfl rfl ?_
    refine XS.iload X35.here hx rfl (hb hby d26_51) rfl ?_
    refine X35.iaload hx (j := (1 : Int32)) (v := (.int pi11)) (by rw [e35]; exact Ar40.1) (State.isArrayOf_alike hZ.alike Ar40.2.1) Ar40.2.2 hin40 hat40 (g := (mkF m 53 #[(vr pa1), (vr pa2), (vr pa3), (vi pi4), (vi 1)] [(.int 1), (.ref pa2), (.long (fld (0 : Int64) pi10 pi16 (0 : Int32))), (.int (pi4 + (0 : Int32))), (.ref pa3)])) rfl rfl (hb hby d26_53) _ ?_
    refine XS.i2l X35.here hx rfl (hb hby d26_54) rfl ?_
    refine XS.aloadN X35.here hx rfl (hb hby d26_55) rfl rfl ?_
    refine st41 _ ?_
    refine XS.iload X41.here hx rfl (hb hby d26_59) rfl ?_
    refine X41.iaload hx (j := (1 : Int32)) (v := (.int pi17)) (by rw [e41]; exact Ar42.1) (State.isArrayOf_alike hZ.alike Ar42.2.1) Ar42.2.2 hin42 hat42 (g := (mkF m 61 #[(vr pa1), (vr pa2), (vr pa3), (vi pi4), (vi 1)] [(.int 1), (.ref pa5), (.long (pi11.toInt64)), (.long (fld (0 : Int64) pi10 pi16 (0 : Int32))), (.int (pi4 + (0 : Int32))), (.ref pa3)])) rfl rfl (hb hby d26_61) _ ?_
    refine XS.i2l X41.here hx rfl (hb hby d26_62) rfl ?_
    refine XS.lsub X41.here hx rfl (hb hby d26_63) rfl ?_
    refine XS.aloadN X41.here hx rfl (hb hby d26_64) rfl rfl ?_
    show Steps p.tables e below (T41.setTop (mkF m 65 #[(vr pa1), (vr pa2), (vr pa3), (vi pi4), (vi 1)] [(.ref pa1), (.long ((pi11.toInt64) - (pi17.toInt64))), (.long (fld (0 : Int64) pi10 pi16 (0 : Int32))), (.int (pi4 + (0 : Int32))), (.ref pa3)])) _
    refine st44 _ ?_
    refine XS.iload X44.here hx rfl (hb hby d26_68) rfl ?_
    refine X44.iaload hx (j := (1 : Int32)) (v := (.int pi24)) (by rw [e44]; exact Ar46.1) (State.isArrayOf_alike hZ.alike Ar46.2.1) Ar46.2.2 hin46 hat46 (g := (mkF m 70 #[(vr pa1), (vr pa2), (vr pa3), (vi pi4), (vi 1)] [(.int 1), (.ref pa7), (.long ((pi11.toInt64) - (pi17.toInt64))), (.long (fld (0 : Int64) pi10 pi16 (0 : Int32))), (.int (pi4 + (0 : Int32))), (.ref pa3)])) rfl rfl (hb hby d26_70) _ ?_
    refine XS.lshl X44.here hx rfl (hb hby d26_71) rfl ?_
    refine XS.lor X44.here hx rfl (hb hby d26_72) rfl ?_
    rw [(show ((fld (0 : Int64) pi10 pi16 (0 : Int32)) ||| (((pi11.toInt64) - (pi17.toInt64)) <<< (pi24 &&& 0x3f).toInt64)) = (fld (fld (0 : Int64) pi10 pi16 (0 : Int32)) pi11 pi17 pi24) from rfl)]
    exact k
  obtain ⟨cl48, Ar48, qc48, Sz48, Nn48, Ha48, Gg48⟩ := (id V28)
  have hin48 : ¬ ((pi4 + (0 : Int32)) < 0 ∨ cl48.slots.size ≤ ((pi4 + (0 : Int32))).toNatClampNeg) := own_inb6 P18 (Or.inl rfl) Sz48
  obtain ⟨T48, h48, X48, e48, W48, st48⟩ := stJ X44 hx hZ e44 Ar48 (j := (pi4 + (0 : Int32))) hin48 (g := (mkF m 73 #[(vr pa1), (vr pa2), (vr pa3), (vi pi4), (vi 1)] [(.long (fld (fld (0 : Int64) pi10 pi16 (0 : Int32)) pi11 pi17 pi24)), (.int (pi4 + (0 : Int32))), (.ref pa3)])) rfl rfl (hb hby d26_73)
  have O49 : Old Z n0 h48 := O29.wr W48 P23
  have K49 : Keep h0 h48 [pa3] := K29.wr W48 (Or.inl (List.mem_of_getElem? (i := 0) rfl))
  have V48 : Arv Z h48 pa3 pk13 .long (6 : Int32) ([(.long (sB pi4 (0 : Int32) (fld (fld (0 : Int64) pi10 pi16 (0 : Int32)) pi11 pi17 pi24) (0 : Int64) pj14)), (.long (sB pi4 (1 : Int32) (fld (fld (0 : Int64) pi10 pi16 (0 : Int32)) pi11 pi17 pi24) (0 : Int64) pj14)), (.long (sB pi4 (2 : Int32) (fld (fld (0 : Int64) pi10 pi16 (0 : Int32)) pi11 pi17 pi24) (0 : Int64) pj14)), (.long (sB pi4 (3 : Int32) (fld (fld (0 : Int64) pi10 pi16 (0 : Int32)) pi11 pi17 pi24) (0 : Int64) pj14)), (.long (sB pi4 (4 : Int32) (fld (fld (0 : Int64) pi10 pi16 (0 : Int32)) pi11 pi17 pi24) (0 : Int64) pj14)), (.long (sB pi4 (5 : Int32) (fld (fld (0 : Int64) pi10 pi16 (0 : Int32)) pi11 pi17 pi24) (0 : Int64) pj14))]) (.long 0) := own_cast (own_setB0 P18) (Arv.set Ar48 qc48 Sz48 Nn48 Ha48 Gg48 (v := (.long (fld (fld (0 : Int64) pi10 pi16 (0 : Int32)) pi11 pi17 pi24))) rfl W48 ((pi4 + (0 : Int32))).toNatClampNeg rfl (own_lt6 P18 (Or.inl rfl)))
  have N48 := Fr.snoc X48 N28 P23
  have f50 : Fld Z h48 pa1 s9n "low" "[I" (.ref pa5) := (f30.other W48 (Or.inl P29))
  obtain ⟨T51, X51, e51, st51⟩ := getF X48 hx hZ hown (host := "") (Or.inl (ow hw 129 rfl)) Via.refl e48 f50 (g := (mkF m 31 #[(vr pa1), (vr pa2), (vr pa3), (vi pi4), (vi 2)] [(.ref pa1), (.int 2)])) rfl rfl (hb hby d26_31)
  have f52 : Arv Z h48 pa5 pk15 .int (3 : Int32) ([(.int pi16), (.int pi17), (.int pi18)]) (.int 0) := (f32.other W48 (Ne.symm P39))
  obtain ⟨cl53, Ar53, -, Sz53, Nn53, -, -⟩ := (id f52)
  have f54 : Fld Z h48 pa1 s9n "word" "[I" (.ref pa8) := (f34.other W48 (Or.inl P29))
  obtain ⟨T55, X55, e55, st55⟩ := getF X51 hx hZ hown (host := "") (Or.inl (ow hw 131 rfl)) Via.refl e51 f54 (g := (mkF m 41 #[(vr pa1), (vr pa2), (vr pa3), (vi pi4), (vi 2)] [(.ref pa1), (.int pi4), (.ref pa3)])) rfl rfl (hb hby d26_41)
  have f56 : Arv Z h48 pa8 pk25 .int (3 : Int32) ([(.int 0), (.int 0), (.int 1)]) (.int 0) := (f36.other W48 (Ne.symm P42))
  obtain ⟨cl57, Ar57, qc57, Sz57, Nn57, Ha57, Gg57⟩ := (id f56)
  have hin57 : ¬ ((2 : Int32) < 0 ∨ cl57.slots.size ≤ ((2 : Int32)).toNatClampNeg) := inb_of Sz57 ⟨by decide, by decide⟩
  have hat57 : cl57.slots[((2 : Int32)).toNatClampNeg]? = some (.int 1) := Ha57.at hin57 rfl
  obtain ⟨cl58, Ar58, qc58, Sz58, Nn58, Ha58, Gg58⟩ := (id V48)
  have hin58 : ¬ ((pi4 + (1 : Int32)) < 0 ∨ cl58.slots.size ≤ ((pi4 + (1 : Int32))).toNatClampNeg) := own_inb6 P18 (Or.inr rfl) Sz58
  have hat58 : cl58.slots[((pi4 + (1 : Int32))).toNatClampNeg]? = some (.long 0) := Ha58.at hin58 (own_getB1 P18)
  have f59 : Arv Z h48 pa2 pk9 .int (3 : Int32) ([(.int pi10), (.int pi11), (.int pi12)]) (.int 0) := (f39.other W48 P34)
  obtain ⟨cl60, Ar60, qc60, Sz60, Nn60, Ha60, Gg60⟩ := (id f59)
  have hin60 : ¬ ((2 : Int32) < 0 ∨ cl60.slots.size ≤ ((2 : Int32)).toNatClampNeg) := inb_of Sz60 ⟨by decide, by decide⟩
  have hat60 : cl60.slots[((2 : Int32)).toNatClampNeg]? = some (.int pi12) := Ha60.at hin60 rfl
  obtain ⟨T61, X61, e61, st61⟩ := getF X55 hx hZ hown (host := "") (Or.inl (ow hw 129 rfl)) Via.refl e55 f50 (g := (mkF m 56 #[(vr pa1), (vr pa2), (vr pa3), (vi pi4), (vi 2)] [(.ref pa1), (.long (pi12.toInt64)), (.long 0), (.int (pi4 + (1 : Int32))), (.ref pa3)])) rfl rfl (hb hby d26_56)
  obtain ⟨cl62, Ar62, qc62, Sz62, Nn62, Ha62, Gg62⟩ := (id f52)
  have hin62 : ¬ ((2 : Int32) < 0 ∨ cl62.slots.size ≤ ((2 : Int32)).toNatClampNeg) := inb_of Sz62 ⟨by decide, by decide⟩
  have hat62 : cl62.slots[((2 : Int32)).toNatClampNeg]? = some (.int pi18) := Ha62.at hin62 rfl
  have f63 : Fld Z h48 pa1 s9n "shift" "[I" (.ref pa7) := (f43.other W48 (Or.inl P29))
  obtain ⟨T64, X64, e64, st64⟩ := getF X61 hx hZ hown (host := "") (Or.inl (ow hw 133 rfl)) Via.refl e61 f63 (g := (mkF m 65 #[(vr pa1), (vr pa2), (vr pa3), (vi pi4), (vi 2)] [(.ref pa1), (.long ((pi12.toInt64) - (pi18.toInt64))), (.long 0), (.int (pi4 + (1 : Int32))), (.ref pa3)])) rfl rfl (hb hby d26_65)
  have f65 : Arv Z h48 pa7 pk23 .int (3 : Int32) ([(.int 0), (.int pi24), (.int 0)]) (.int 0) := (f45.other W48 (Ne.symm P41))
  obtain ⟨cl66, Ar66, qc66, Sz66, Nn66, Ha66, Gg66⟩ := (id f65)
  have hin66 : ¬ ((2 : Int32) < 0 ∨ cl66.slots.size ≤ ((2 : Int32)).toNatClampNeg) := inb_of Sz66 ⟨by decide, by decide⟩
  have hat66 : cl66.slots[((2 : Int32)).toNatClampNeg]? = some (.int 0) := Ha66.at hin66 rfl
  have pre67 : ∀ t, Steps p.tables e below (T64.setTop (mkF m 73 #[(vr pa1), (vr pa2), (vr pa3), (vi pi4), (vi 2)] [(.long (fld (0 : Int64) pi12 pi18 (0 : Int32))), (.int (pi4 + (1 : Int32))), (.ref pa3)])) t → Steps p.tables e below (s₁.setTop (entryFrame m #[(.ref pa1), (.ref pa2), (.ref pa3), (.int pi4)] 5)) t := by
    intro t k
    refine pre47 t ?_
    show Steps p.tables e below (T44.setTop (mkF m 73 #[(vr pa1), (vr pa2), (vr pa3), (vi pi4), (vi 1)] [(.long (fld (fld (0 : Int64) pi10 pi16 (0 : Int32)) pi11 pi17 pi24)), (.int (pi4 + (0 : Int32))), (.ref pa3)])) _
    refine st48 _ ?_
    refine XS.iinc X48.here hx rfl (hb hby d26_74) rfl (l' := #[(vr pa1), (vr pa2), (vr pa3), (vi pi4), (vi 2)]) rfl ?_
    refine XS.goto X48.here hx rfl (pc0 := 77) (pc' := 28) rfl (hb hby d26_77) (by decide) (by decide) ?_
    refine XS.iload X48.here hx rfl (hb hby d26_28) rfl ?_
    refine XS.aloadN X48.here hx rfl (hb hby d26_30) rfl rfl ?_
    refine st51 _ ?_
    refine X51.arraylength hx (by rw [e51]; exact Ar53.1) (State.isArrayOf_alike hZ.alike Ar53.2.1) (g := (mkF m 34 #[(vr pa1), (vr pa2), (vr pa3), (vi pi4), (vi 2)] [(.ref pa5), (.int 2)])) rfl rfl (hb hby d26_34) _ ?_
    rw [len_of Sz53 Nn53]
    refine XS.icmpNo X51.here hx rfl (hb hby d26_35) rfl (tlt (by decide : (2 : Int32) < (3 : Int32))).2.1 ?_
    refine XS.aloadN X51.here hx rfl (hb hby d26_38) rfl rfl ?_
    refine XS.iloadN X51.here hx rfl (hb hby d26_39) rfl ?_
    refine XS.aloadN X51.here hx rfl (hb hby d26_40) rfl rfl ?_
    refine st55 _ ?_
    refine XS.iload X55.here hx rfl (hb hby d26_44) rfl ?_
    refine X55.iaload hx (j := (2 : Int32)) (v := (.int 1)) (by rw [e55]; exact Ar57.1) (State.isArrayOf_alike hZ.alike Ar57.2.1) Ar57.2.2 hin57 hat57 (g := (mkF m 46 #[(vr pa1), (vr pa2), (vr pa3), (vi pi4), (vi 2)] [(.int 2), (.ref pa8), (.int pi4), (.ref pa3)])) rfl rfl (hb hby d26_46) _ ?_
    show Steps p.tables e below (T55.setTop (mkF m 47 #[(vr pa1), (vr pa2), (vr pa3), (vi pi4), (vi 2)] [(.int 1), (.int pi4), (.ref pa3)])) _
    refine XS.iadd X55.here hx rfl (hb hby d26_47) rfl ?_
    refine XT.dup2 X55.here hx rfl (hb hby d26_48) rfl rfl rfl ?_
    refine X55.laload hx (j := (pi4 + (1 : Int32))) (v := (.long 0)) (by rw [e55]; exact Ar58.1) (State.isArrayOf_alike hZ.alike Ar58.2.1) Ar58.2.2 hin58 hat58 (g := (mkF m 49 #[(vr pa1), (vr pa2), (vr pa3), (vi pi4), (vi 2)] [(.int (pi4 + (1 : Int32))), (.ref pa3), (.int (pi4 + (1 : Int32))), (.ref pa3)])) rfl rfl (hb hby d26_49) _ ?_
    refine XS.aloadN X55.here hx rfl (hb hby d26_50) rfl rfl ?_
    refine XS.iload X55.here hx rfl (hb hby d26_51) rfl ?_
    refine X55.iaload hx (j := (2 : Int32)) (v := (.int pi12)) (by rw [e55]; exact Ar60.1) (State.isArrayOf_alike hZ.alike Ar60.2.1) Ar60.2.2 hin60 hat60 (g := (mkF m 53 #[(vr pa1), (vr pa2), (vr pa3), (vi pi4), (vi 2)] [(.int 2), (.ref pa2), (.long 0), (.int (pi4 + (1 : Int32))), (.ref pa3)])) rfl rfl (hb hby d26_53) _ ?_
    refine XS.i2l X55.here hx rfl (hb hby d26_54) rfl ?_
    refine XS.aloadN X55.here hx rfl (hb hby d26_55) rfl rfl ?_
    refine st61 _ ?_
    refine XS.iload X61.here hx rfl (hb hby d26_59) rfl ?_
    refine X61.iaload hx (j := (2 : Int32)) (v := (.int pi18)) (by rw [e61]; exact Ar62.1) (State.isArrayOf_alike hZ.alike Ar62.2.1) Ar62.2.2 hin62 hat62 (g := (mkF m 61 #[(vr pa1), (vr pa2), (vr pa3), (vi pi4), (vi 2)] [(.int 2), (.ref pa5), (.long (pi12.toInt64)), (.long 0), (.int (pi4 + (1 : Int32))), (.ref pa3)])) rfl rfl (hb hby d26_61) _ ?_
    refine XS.i2l X61.here hx rfl (hb hby d26_62) rfl ?_
    refine XS.lsub X61.here hx rfl (hb hby d26_63) rfl ?_
    refine XS.aloadN X61.here hx rfl (hb hby d26_64) rfl rfl ?_
    show Steps p.tables e below (T61.setTop (mkF m 65 #[(vr pa1), (vr pa2), (vr pa3), (vi pi4), (vi 2)] [(.ref pa1), (.long ((pi12.toInt64) - (pi18.toInt64))), (.long 0), (.int (pi4 + (1 : Int32))), (.ref pa3)])) _
    refine st64 _ ?_
    refine XS.iload X64.here hx rfl (hb hby d26_68) rfl ?_
    refine X64.iaload hx (j := (2 : Int32)) (v := (.int 0)) (by rw [e64]; exact Ar66.1) (State.isArrayOf_alike hZ.alike Ar66.2.1) Ar66.2.2 hin66 hat66 (g := (mkF m 70 #[(vr pa1), (vr pa2), (vr pa3), (vi pi4), (vi 2)] [(.int 2), (.ref pa7), (.long ((pi12.toInt64) - (pi18.toInt64))), (.long 0), (.int (pi4 + (1 : Int32))), (.ref pa3)])) rfl rfl (hb hby d26_70) _ ?_
    refine XS.lshl X64.here hx rfl (hb hby d26_71) rfl ?_
    refine XS.lor X64.here hx rfl (hb hby d26_72) rfl ?_
    rw [(show ((0 : Int64) ||| (((pi12.toInt64) - (pi18.toInt64)) <<< ((0 : Int32) &&& 0x3f).toInt64)) = (fld (0 : Int64) pi12 pi18 (0 : Int32)) from rfl)]
    exact k
  obtain ⟨cl68, Ar68, qc68, Sz68, Nn68, Ha68, Gg68⟩ := (id V48)
  have hin68 : ¬ ((pi4 + (1 : Int32)) < 0 ∨ cl68.slots.size ≤ ((pi4 + (1 : Int32))).toNatClampNeg) := own_inb6 P18 (Or.inr rfl) Sz68
  obtain ⟨T68, h68, X68, e68, W68, st68⟩ := stJ X64 hx hZ e64 Ar68 (j := (pi4 + (1 : Int32))) hin68 (g := (mkF m 73 #[(vr pa1), (vr pa2), (vr pa3), (vi pi4), (vi 2)] [(.long (fld (0 : Int64) pi12 pi18 (0 : Int32))), (.int (pi4 + (1 : Int32))), (.ref pa3)])) rfl rfl (hb hby d26_73)
  have O69 : Old Z n0 h68 := O49.wr W68 P23
  have K69 : Keep h0 h68 [pa3] := K49.wr W68 (Or.inl (List.mem_of_getElem? (i := 0) rfl))
  have V68 : Arv Z h68 pa3 pk13 .long (6 : Int32) ([(.long (sB pi4 (0 : Int32) (fld (fld (0 : Int64) pi10 pi16 (0 : Int32)) pi11 pi17 pi24) (fld (0 : Int64) pi12 pi18 (0 : Int32)) pj14)), (.long (sB pi4 (1 : Int32) (fld (fld (0 : Int64) pi10 pi16 (0 : Int32)) pi11 pi17 pi24) (fld (0 : Int64) pi12 pi18 (0 : Int32)) pj14)), (.long (sB pi4 (2 : Int32) (fld (fld (0 : Int64) pi10 pi16 (0 : Int32)) pi11 pi17 pi24) (fld (0 : Int64) pi12 pi18 (0 : Int32)) pj14)), (.long (sB pi4 (3 : Int32) (fld (fld (0 : Int64) pi10 pi16 (0 : Int32)) pi11 pi17 pi24) (fld (0 : Int64) pi12 pi18 (0 : Int32)) pj14)), (.long (sB pi4 (4 : Int32) (fld (fld (0 : Int64) pi10 pi16 (0 : Int32)) pi11 pi17 pi24) (fld (0 : Int64) pi12 pi18 (0 : Int32)) pj14)), (.long (sB pi4 (5 : Int32) (fld (fld (0 : Int64) pi10 pi16 (0 : Int32)) pi11 pi17 pi24) (fld (0 : Int64) pi12 pi18 (0 : Int32)) pj14))]) (.long 0) := own_cast (own_setB1 P18) (Arv.set Ar68 qc68 Sz68 Nn68 Ha68 Gg68 (v := (.long (fld (0 : Int64) pi12 pi18 (0 : Int32)))) rfl W68 ((pi4 + (1 : Int32))).toNatClampNeg rfl (own_lt6 P18 (Or.inr rfl)))
  have N68 := Fr.snoc X68 N48 P23
  have f70 : Fld Z h68 pa1 s9n "low" "[I" (.ref pa5) := (f50.other W68 (Or.inl P29))
  obtain ⟨T71, X71, e71, st71⟩ := getF X68 hx hZ hown (host := "") (Or.inl (ow hw 129 rfl)) Via.refl e68 f70 (g := (mkF m 31 #[(vr pa1), (vr pa2), (vr pa3), (vi pi4), (vi 3)] [(.ref pa1), (.int 3)])) rfl rfl (hb hby d26_31)
  have f72 : Arv Z h68 pa5 pk15 .int (3 : Int32) ([(.int pi16), (.int pi17), (.int pi18)]) (.int 0) := (f52.other W68 (Ne.symm P39))
  obtain ⟨cl73, Ar73, -, Sz73, Nn73, -, -⟩ := (id f72)
  have f74 : Exa Z h68 pa3 "[J" := (((((P9.wr W2).wr W6).wr W28).wr W48).wr W68)
  obtain ⟨fs, hr, hrun, hended, hW, hsame⟩ := X71.leave (v := none) (fun _ => rfl)
  refine ⟨_, _, pre67 _ ?_, hrun, hended, _, _, rfl, ?_, ⟨_, rfl⟩, hW, hsame.mono (by decide) (by decide)⟩
  · skip
    show Steps p.tables e below (T64.setTop (mkF m 73 #[(vr pa1), (vr pa2), (vr pa3), (vi pi4), (vi 2)] [(.long (fld (0 : Int64) pi12 pi18 (0 : Int32))), (.int (pi4 + (1 : Int32))), (.ref pa3)])) _
    refine st68 _ ?_
    refine XS.iinc X68.here hx rfl (hb hby d26_74) rfl (l' := #[(vr pa1), (vr pa2), (vr pa3), (vi pi4), (vi 3)]) rfl ?_
    refine XS.goto X68.here hx rfl (pc0 := 77) (pc' := 28) rfl (hb hby d26_77) (by decide) (by decide) ?_
    refine XS.iload X68.here hx rfl (hb hby d26_28) rfl ?_
    refine XS.aloadN X68.here hx rfl (hb hby d26_30) rfl rfl ?_
    refine st71 _ ?_
    refine X71.arraylength hx (by rw [e71]; exact Ar73.1) (State.isArrayOf_alike hZ.alike Ar73.2.1) (g := (mkF m 34 #[(vr pa1), (vr pa2), (vr pa3), (vi pi4), (vi 3)] [(.ref pa5), (.int 3)])) rfl rfl (hb hby d26_34) _ ?_
    rw [len_of Sz73 Nn73]
    refine XS.icmpYes X71.here hx rfl (pc0 := 35) (pc' := 80) rfl (hb hby d26_35) rfl (flt (by decide : ¬ ((3 : Int32) < (3 : Int32)))).2.1 (by decide) (by decide) ?_
    exact X71.returnOut hx hret0 (hb hby d26_80) hr
  · show Q_au26_0 Z wINTEGER wDOUBLE wBOOLEAN wD kwD pa1 pa2 pa3 pi4 pa5 pa7 pa8 pk9 pi10 pi11 pi12 pk13 pj14 pk15 pi16 pi17 pi18 pk23 pi24 pk25 h0 n0 _ T71.heap _
    rw [e71]
    exact ⟨rfl, N68, K69, f74, V68⟩
theorem pd_17 : parseMethodDescriptor "([I[JI)V" = some ⟨[(.array .int), (.array .long), .int], none⟩ := by decide +kernel
theorem ef_au27_0 (m : MethodId) (x0 : Addr)  : entryFrame m #[(.ref x0)] 1 = mkF m 0 #[(vr x0)] [] := by first | (simp [entryFrame, mkF, argsToLocals, Value.category]; done) | rfl
theorem d27_0 : decode prog_105_method_2_code 0 = .ok (.aload_n 0, 1) := by decide +kernel
theorem d27_1 : decode prog_105_method_2_code 1 = .ok (.getfield 48, 3) := by decide +kernel
theorem d27_4 : decode prog_105_method_2_code 4 = .ok (.ireturn, 1) := by decide +kernel
def Q_au27_0 (Z : State) (wINTEGER : Addr) (wDOUBLE : Addr) (wBOOLEAN : Addr) (wD : Addr) (kwD : ClassId) (pa1 : Addr) (h0 : Heap) (n0 : Nat) (v : Option Value) (h : Heap) (L : List Loc) : Prop := v = some (.int 2) ∧ Fr n0 L ∧ h = h0
theorem au27_0 (l : Launch) (Z : State) (a0 : Array Value) (hw : ∀ d ∈ tables_1, d.before a0 Z = true) (ws : List Jvm.Cond) (wINTEGER : Addr) (wDOUBLE : Addr) (wBOOLEAN : Addr) (wD : Addr) (kwD : ClassId) (hS : SS Z wINTEGER wDOUBLE wBOOLEAN wD kwD) (pa1 : Addr) (h0 : Heap) (n0 : Nat) (O0 : Old Z n0 h0) (P5 : Fld Z h0 pa1 s9n s10n "I" (.int 2)) :
    MetB l M28 prog_105_method_2_code 1 (some .int) ws (rmk 0 0 0 0) Z h0 #[(.ref pa1)] (Q_au27_0 Z wINTEGER wDOUBLE wBOOLEAN wD kwD pa1 h0 n0) := by
  refine own_body (plainFor_of_name pn_com_example_lanc_lanc_model_VariableLayout) ?_
  intro p e s m below meth c s₁ hx hby hml hown hnm hret0 hlk0 hZ X0 e0
  have N0 := Fr.nil n0
  have pre0 : ∀ t, Steps p.tables e below (s₁.setTop (mkF m 0 #[(vr pa1)] [])) t → Steps p.tables e below (s₁.setTop (entryFrame m #[(.ref pa1)] 1)) t := fun t k => castTop (ef_au27_0 m pa1) k
  have hS0 := hS
  obtain ⟨S_wINTEGER, E_wINTEGER, S_wDOUBLE, E_wDOUBLE, S_wBOOLEAN, E_wBOOLEAN, F_ordinal_wINTEGER, F_ordinal_wDOUBLE, F_ordinal_wBOOLEAN, S_wD, E_wD, V_wD⟩ := hS0
  obtain ⟨T1, X1, e1, st1⟩ := getF X0 hx hZ hown (host := "") (Or.inl (ow hw 181 rfl)) Via.refl e0 P5 (g := (mkF m 1 #[(vr pa1)] [(.ref pa1)])) rfl rfl (hb hby d27_1)
  obtain ⟨fs, hr, hrun, hended, hW, hsame⟩ := X1.leave (v := some (.int 2)) (fun h => by rw [hret0] at h; cases h)
  refine ⟨_, _, pre0 _ ?_, hrun, hended, _, _, rfl, ?_, ⟨_, rfl⟩, hW, hsame.mono (by decide) (by decide)⟩
  · skip
    show Steps p.tables e below (s₁.setTop (mkF m 0 #[(vr pa1)] [])) _
    refine XS.aloadN X0.here hx rfl (hb hby d27_0) rfl rfl ?_
    refine st1 _ ?_
    exact retI X1 hx hret0 (hb hby d27_4) hr
  · show Q_au27_0 Z wINTEGER wDOUBLE wBOOLEAN wD kwD pa1 h0 n0 _ T1.heap _
    rw [e1]
    exact ⟨rfl, N0, rfl⟩
theorem pd_18 : parseMethodDescriptor "([J[JIIIJ)Z" = some ⟨[(.array .long), (.array .long), .int, .int, .int, .long], some .boolean⟩ := by decide +kernel
theorem ef_au29_0 (m : MethodId) (x0 : Addr) (x1 : Addr) (x2 : Int32) (x3 : Int32)  : entryFrame m #[(.ref x0), (.ref x1), (.int x2), (.int x3)] 6 = mkF m 0 #[(vr x0), (vr x1), (vi x2), (vi x3), .unset, .unset] [] := by first | (simp [entryFrame, mkF, argsToLocals, Value.category]; done) | rfl
theorem d29_0 : decode prog_105_method_5_code 0 = .ok (.aload_n 1, 1) := by decide +kernel
theorem d29_1 : decode prog_105_method_5_code 1 = .ok (.iload_n 2, 1) := by decide +kernel
theorem d29_2 : decode prog_105_method_5_code 2 = .ok (.aload_n 0, 1) := by decide +kernel
theorem d29_3 : decode prog_105_method_5_code 3 = .ok (.getfield 19, 3) := by decide +kernel
theorem d29_6 : decode prog_105_method_5_code 6 = .ok (.iload_n 3, 1) := by decide +kernel
theorem d29_7 : decode prog_105_method_5_code 7 = .ok (.iaload, 1) := by decide +kernel
theorem d29_8 : decode prog_105_method_5_code 8 = .ok (.iadd, 1) := by decide +kernel
theorem d29_9 : decode prog_105_method_5_code 9 = .ok (.laload, 1) := by decide +kernel
theorem d29_10 : decode prog_105_method_5_code 10 = .ok (.aload_n 0, 1) := by decide +kernel
theorem d29_11 : decode prog_105_method_5_code 11 = .ok (.getfield 22, 3) := by decide +kernel
theorem d29_14 : decode prog_105_method_5_code 14 = .ok (.iload_n 3, 1) := by decide +kernel
theorem d29_15 : decode prog_105_method_5_code 15 = .ok (.iaload, 1) := by decide +kernel
theorem d29_16 : decode prog_105_method_5_code 16 = .ok (.lushr, 1) := by decide +kernel
theorem d29_17 : decode prog_105_method_5_code 17 = .ok (.aload_n 0, 1) := by decide +kernel
theorem d29_18 : decode prog_105_method_5_code 18 = .ok (.getfield 25, 3) := by decide +kernel
theorem d29_21 : decode prog_105_method_5_code 21 = .ok (.iload_n 3, 1) := by decide +kernel
theorem d29_22 : decode prog_105_method_5_code 22 = .ok (.laload, 1) := by decide +kernel
theorem d29_23 : decode prog_105_method_5_code 23 = .ok (.land, 1) := by decide +kernel
theorem d29_24 : decode prog_105_method_5_code 24 = .ok (.lstore 4, 2) := by decide +kernel
theorem d29_26 : decode prog_105_method_5_code 26 = .ok (.aload_n 0, 1) := by decide +kernel
theorem d29_27 : decode prog_105_method_5_code 27 = .ok (.getfield 13, 3) := by decide +kernel
theorem d29_30 : decode prog_105_method_5_code 30 = .ok (.iload_n 3, 1) := by decide +kernel
theorem d29_31 : decode prog_105_method_5_code 31 = .ok (.iaload, 1) := by decide +kernel
theorem d29_32 : decode prog_105_method_5_code 32 = .ok (.lload 4, 2) := by decide +kernel
theorem d29_34 : decode prog_105_method_5_code 34 = .ok (.l2i, 1) := by decide +kernel
theorem d29_35 : decode prog_105_method_5_code 35 = .ok (.iadd, 1) := by decide +kernel
theorem d29_36 : decode prog_105_method_5_code 36 = .ok (.ireturn, 1) := by decide +kernel
def Q_au29_0 (Z : State) (wINTEGER : Addr) (wDOUBLE : Addr) (wBOOLEAN : Addr) (wD : Addr) (kwD : ClassId) (pa1 : Addr) (pa2 : Addr) (pi3 : Int32) (pa4 : Addr) (pa5 : Addr) (pa6 : Addr) (pa7 : Addr) (pk8 : ClassId) (pj9 : Int64) (pj10 : Int64) (pj11 : Int64) (pk12 : ClassId) (pi13 : Int32) (pi14 : Int32) (pi15 : Int32) (pk16 : ClassId) (pj17 : Int64) (pj18 : Int64) (pj19 : Int64) (pk20 : ClassId) (pi21 : Int32) (pk22 : ClassId) (h0 : Heap) (n0 : Nat) (v : Option Value) (h : Heap) (L : List Loc) : Prop := v = some (.int (pi13 + ((((pj9.toUInt64 >>> ((0 : Int32) &&& 0x3f).toInt64.toUInt64).toInt64) &&& pj17).toInt32))) ∧ Fr n0 L ∧ h = h0
theorem au29_0 (l : Launch) (Z : State) (a0 : Array Value) (hw : ∀ d ∈ tables_1, d.before a0 Z = true) (ws : List Jvm.Cond) (wINTEGER : Addr) (wDOUBLE : Addr) (wBOOLEAN : Addr) (wD : Addr) (kwD : ClassId) (hS : SS Z wINTEGER wDOUBLE wBOOLEAN wD kwD) (pa1 : Addr) (pa2 : Addr) (pi3 : Int32) (pa4 : Addr) (pa5 : Addr) (pa6 : Addr) (pa7 : Addr) (pk8 : ClassId) (pj9 : Int64) (pj10 : Int64) (pj11 : Int64) (pk12 : ClassId) (pi13 : Int32) (pi14 : Int32) (pi15 : Int32) (pk16 : ClassId) (pj17 : Int64) (pj18 : Int64) (pj19 : Int64) (pk20 : ClassId) (pi21 : Int32) (pk22 : ClassId) (h0 : Heap) (n0 : Nat) (O0 : Old Z n0 h0) (P1 : Fld Z h0 pa1 s9n "low" "[I" (.ref pa4)) (P2 : Fld Z h0 pa1 s9n "mask" "[J" (.ref pa5)) (P3 : Fld Z h0 pa1 s9n "shift" "[I" (.ref pa6)) (P4 : Fld Z h0 pa1 s9n "word" "[I" (.ref pa7)) (P6 : Arv Z h0 pa2 pk8 .long (6 : Int32) ([(.long (sB pi3 (0 : Int32) pj9 pj10 pj11)), (.long (sB pi3 (1 : Int32) pj9 pj10 pj11)), (.long (sB pi3 (2 : Int32) pj9 pj10 pj11)), (.long (sB pi3 (3 : Int32) pj9 pj10 pj11)), (.long (sB pi3 (4 : Int32) pj9 pj10 pj11)), (.long (sB pi3 (5 : Int32) pj9 pj10 pj11))]) (.long 0)) (P8 : Arv Z h0 pa4 pk12 .int (3 : Int32) ([(.int pi13), (.int pi14), (.int pi15)]) (.int 0)) (P10 : Arv Z h0 pa5 pk16 .long (3 : Int32) ([(.long pj17), (.long pj18), (.long pj19)]) (.long 0)) (P12 : Arv Z h0 pa6 pk20 .int (3 : Int32) ([(.int 0), (.int pi21), (.int 0)]) (.int 0)) (P14 : Arv Z h0 pa7 pk22 .int (3 : Int32) ([(.int 0), (.int 0), (.int 1)]) (.int 0)) (P16 : inO pi3) :
    MetB l M29 prog_105_method_5_code 6 (some .int) ws (rmk 0 0 0 0) Z h0 #[(.ref pa1), (.ref pa2), (.int pi3), (.int 0)] (Q_au29_0 Z wINTEGER wDOUBLE wBOOLEAN wD kwD pa1 pa2 pi3 pa4 pa5 pa6 pa7 pk8 pj9 pj10 pj11 pk12 pi13 pi14 pi15 pk16 pj17 pj18 pj19 pk20 pi21 pk22 h0 n0) := by
  refine own_body (plainFor_of_name pn_com_example_lanc_lanc_model_VariableLayout) ?_
  intro p e s m below meth c s₁ hx hby hml hown hnm hret0 hlk0 hZ X0 e0
  have N0 := Fr.nil n0
  have pre0 : ∀ t, Steps p.tables e below (s₁.setTop (mkF m 0 #[(vr pa1), (vr pa2), (vi pi3), (vi 0), .unset, .unset] [])) t → Steps p.tables e below (s₁.setTop (entryFrame m #[(.ref pa1), (.ref pa2), (.int pi3), (.int 0)] 6)) t := fun t k => castTop (ef_au29_0 m pa1 pa2 pi3 (0 : Int32)) k
  have hS0 := hS
  obtain ⟨S_wINTEGER, E_wINTEGER, S_wDOUBLE, E_wDOUBLE, S_wBOOLEAN, E_wBOOLEAN, F_ordinal_wINTEGER, F_ordinal_wDOUBLE, F_ordinal_wBOOLEAN, S_wD, E_wD, V_wD⟩ := hS0
  obtain ⟨T1, X1, e1, st1⟩ := getF X0 hx hZ hown (host := "") (Or.inl (ow hw 131 rfl)) Via.refl e0 P4 (g := (mkF m 3 #[(vr pa1), (vr pa2), (vi pi3), (vi 0), .unset, .unset] [(.ref pa1), (.int pi3), (.ref pa2)])) rfl rfl (hb hby d29_3)
  obtain ⟨cl2, Ar2, qc2, Sz2, Nn2, Ha2, Gg2⟩ := (id P14)
  have hin2 : ¬ ((0 : Int32) < 0 ∨ cl2.slots.size ≤ ((0 : Int32)).toNatClampNeg) := inb_of Sz2 ⟨by decide, by decide⟩
  have hat2 : cl2.slots[((0 : Int32)).toNatClampNeg]? = some (.int 0) := Ha2.at hin2 rfl
  obtain ⟨cl3, Ar3, qc3, Sz3, Nn3, Ha3, Gg3⟩ := (id P6)
  have hin3 : ¬ ((pi3 + (0 : Int32)) < 0 ∨ cl3.slots.size ≤ ((pi3 + (0 : Int32))).toNatClampNeg) := own_inb6 P16 (Or.inl rfl) Sz3
  have hat3 : cl3.slots[((pi3 + (0 : Int32))).toNatClampNeg]? = some (.long pj9) := Ha3.at hin3 (own_getB0 P16)
  obtain ⟨T4, X4, e4, st4⟩ := getF X1 hx hZ hown (host := "") (Or.inl (ow hw 133 rfl)) Via.refl e1 P3 (g := (mkF m 11 #[(vr pa1), (vr pa2), (vi pi3), (vi 0), .unset, .unset] [(.ref pa1), (.long pj9)])) rfl rfl (hb hby d29_11)
  obtain ⟨cl5, Ar5, qc5, Sz5, Nn5, Ha5, Gg5⟩ := (id P12)
  have hin5 : ¬ ((0 : Int32) < 0 ∨ cl5.slots.size ≤ ((0 : Int32)).toNatClampNeg) := inb_of Sz5 ⟨by decide, by decide⟩
  have hat5 : cl5.slots[((0 : Int32)).toNatClampNeg]? = some (.int 0) := Ha5.at hin5 rfl
  obtain ⟨T6, X6, e6, st6⟩ := getF X4 hx hZ hown (host := "") (Or.inl (ow hw 136 rfl)) Via.refl e4 P2 (g := (mkF m 18 #[(vr pa1), (vr pa2), (vi pi3), (vi 0), .unset, .unset] [(.ref pa1), (.long ((pj9.toUInt64 >>> ((0 : Int32) &&& 0x3f).toInt64.toUInt64).toInt64))])) rfl rfl (hb hby d29_18)
  obtain ⟨cl7, Ar7, qc7, Sz7, Nn7, Ha7, Gg7⟩ := (id P10)
  have hin7 : ¬ ((0 : Int32) < 0 ∨ cl7.slots.size ≤ ((0 : Int32)).toNatClampNeg) := inb_of Sz7 ⟨by decide, by decide⟩
  have hat7 : cl7.slots[((0 : Int32)).toNatClampNeg]? = some (.long pj17) := Ha7.at hin7 rfl
  obtain ⟨T8, X8, e8, st8⟩ := getF X6 hx hZ hown (host := "") (Or.inl (ow hw 129 rfl)) Via.refl e6 P1 (g := (mkF m 27 #[(vr pa1), (vr pa2), (vi pi3), (vi 0), .val (.long (((pj9.toUInt64 >>> ((0 : Int32) &&& 0x3f).toInt64.toUInt64).toInt64) &&& pj17)), .second] [(.ref pa1)])) rfl rfl (hb hby d29_27)
  obtain ⟨cl9, Ar9, qc9, Sz9, Nn9, Ha9, Gg9⟩ := (id P8)
  have hin9 : ¬ ((0 : Int32) < 0 ∨ cl9.slots.size ≤ ((0 : Int32)).toNatClampNeg) := inb_of Sz9 ⟨by decide, by decide⟩
  have hat9 : cl9.slots[((0 : Int32)).toNatClampNeg]? = some (.int pi13) := Ha9.at hin9 rfl
  obtain ⟨fs, hr, hrun, hended, hW, hsame⟩ := X8.leave (v := some (.int (pi13 + ((((pj9.toUInt64 >>> ((0 : Int32) &&& 0x3f).toInt64.toUInt64).toInt64) &&& pj17).toInt32)))) (fun h => by rw [hret0] at h; cases h)
  refine ⟨_, _, pre0 _ ?_, hrun, hended, _, _, rfl, ?_, ⟨_, rfl⟩, hW, hsame.mono (by decide) (by decide)⟩
  · skip
    show Steps p.tables e below (s₁.setTop (mkF m 0 #[(vr pa1), (vr pa2), (vi pi3), (vi 0), .unset, .unset] [])) _
    refine XS.aloadN X0.here hx rfl (hb hby d29_0) rfl rfl ?_
    refine XS.iloadN X0.here hx rfl (hb hby d29_1) rfl ?_
    refine XS.aloadN X0.here hx rfl (hb hby d29_2) rfl rfl ?_
    refine st1 _ ?_
    refine XS.iloadN X1.here hx rfl (hb hby d29_6) rfl ?_
    refine X1.iaload hx (j := (0 : Int32)) (v := (.int 0)) (by rw [e1]; exact Ar2.1) (State.isArrayOf_alike hZ.alike Ar2.2.1) Ar2.2.2 hin2 hat2 (g := (mkF m 7 #[(vr pa1), (vr pa2), (vi pi3), (vi 0), .unset, .unset] [(.int 0), (.ref pa7), (.int pi3), (.ref pa2)])) rfl rfl (hb hby d29_7) _ ?_
    refine XS.iadd X1.here hx rfl (hb hby d29_8) rfl ?_
    refine X1.laload hx (j := (pi3 + (0 : Int32))) (v := (.long pj9)) (by rw [e1]; exact Ar3.1) (State.isArrayOf_alike hZ.alike Ar3.2.1) Ar3.2.2 hin3 hat3 (g := (mkF m 9 #[(vr pa1), (vr pa2), (vi pi3), (vi 0), .unset, .unset] [(.int (pi3 + (0 : Int32))), (.ref pa2)])) rfl rfl (hb hby d29_9) _ ?_
    refine XS.aloadN X1.here hx rfl (hb hby d29_10) rfl rfl ?_
    refine st4 _ ?_
    refine XS.iloadN X4.here hx rfl (hb hby d29_14) rfl ?_
    refine X4.iaload hx (j := (0 : Int32)) (v := (.int 0)) (by rw [e4]; exact Ar5.1) (State.isArrayOf_alike hZ.alike Ar5.2.1) Ar5.2.2 hin5 hat5 (g := (mkF m 15 #[(vr pa1), (vr pa2), (vi pi3), (vi 0), .unset, .unset] [(.int 0), (.ref pa6), (.long pj9)])) rfl rfl (hb hby d29_15) _ ?_
    refine XS.lushr X4.here hx rfl (hb hby d29_16) rfl ?_
    refine XS.aloadN X4.here hx rfl (hb hby d29_17) rfl rfl ?_
    show Steps p.tables e below (T4.setTop (mkF m 18 #[(vr pa1), (vr pa2), (vi pi3), (vi 0), .unset, .unset] [(.ref pa1), (.long ((pj9.toUInt64 >>> ((0 : Int32) &&& 0x3f).toInt64.toUInt64).toInt64))])) _
    refine st6 _ ?_
    refine XS.iloadN X6.here hx rfl (hb hby d29_21) rfl ?_
    refine X6.laload hx (j := (0 : Int32)) (v := (.long pj17)) (by rw [e6]; exact Ar7.1) (State.isArrayOf_alike hZ.alike Ar7.2.1) Ar7.2.2 hin7 hat7 (g := (mkF m 22 #[(vr pa1), (vr pa2), (vi pi3), (vi 0), .unset, .unset] [(.int 0), (.ref pa5), (.long ((pj9.toUInt64 >>> ((0 : Int32) &&& 0x3f).toInt64.toUInt64).toInt64))])) rfl rfl (hb hby d29_22) _ ?_
    refine XS.land X6.here hx rfl (hb hby d29_23) rfl ?_
    refine XS.lstore X6.here hx rfl (hb hby d29_24) rfl (l' := #[(vr pa1), (vr pa2), (vi pi3), (vi 0), .val (.long (((pj9.toUInt64 >>> ((0 : Int32) &&& 0x3f).toInt64.toUInt64).toInt64) &&& pj17)), .second]) rfl ?_
    refine XS.aloadN X6.here hx rfl (hb hby d29_26) rfl rfl ?_
    refine st8 _ ?_
    refine XS.iloadN X8.here hx rfl (hb hby d29_30) rfl ?_
    refine X8.iaload hx (j := (0 : Int32)) (v := (.int pi13)) (by rw [e8]; exact Ar9.1) (State.isArrayOf_alike hZ.alike Ar9.2.1) Ar9.2.2 hin9 hat9 (g := (mkF m 31 #[(vr pa1), (vr pa2), (vi pi3), (vi 0), .val (.long (((pj9.toUInt64 >>> ((0 : Int32) &&& 0x3f).toInt64.toUInt64).toInt64) &&& pj17)), .second] [(.int 0), (.ref pa4)])) rfl rfl (hb hby d29_31) _ ?_
    refine XS.lload X8.here hx rfl (hb hby d29_32) rfl ?_
    refine XS.l2i X8.here hx rfl (hb hby d29_34) rfl ?_
    refine XS.iadd X8.here hx rfl (hb hby d29_35) rfl ?_
    exact retI X8 hx hret0 (hb hby d29_36) hr
  · show Q_au29_0 Z wINTEGER wDOUBLE wBOOLEAN wD kwD pa1 pa2 pi3 pa4 pa5 pa6 pa7 pk8 pj9 pj10 pj11 pk12 pi13 pi14 pi15 pk16 pj17 pj18 pj19 pk20 pi21 pk22 h0 n0 _ T8.heap _
    rw [e8]
    exact ⟨rfl, N0, rfl⟩
theorem pd_19 : parseMethodDescriptor "([JII)I" = some ⟨[(.array .long), .int, .int], some .int⟩ := by decide +kernel
theorem ef_au29_1 (m : MethodId) (x0 : Addr) (x1 : Addr) (x2 : Int32) (x3 : Int32)  : entryFrame m #[(.ref x0), (.ref x1), (.int x2), (.int x3)] 6 = mkF m 0 #[(vr x0), (vr x1), (vi x2), (vi x3), .unset, .unset] [] := by first | (simp [entryFrame, mkF, argsToLocals, Value.category]; done) | rfl
def Q_au29_1 (Z : State) (wINTEGER : Addr) (wDOUBLE : Addr) (wBOOLEAN : Addr) (wD : Addr) (kwD : ClassId) (pa1 : Addr) (pa2 : Addr) (pi3 : Int32) (pa4 : Addr) (pa5 : Addr) (pa6 : Addr) (pa7 : Addr) (pk8 : ClassId) (pj9 : Int64) (pj10 : Int64) (pj11 : Int64) (pk12 : ClassId) (pi13 : Int32) (pi14 : Int32) (pi15 : Int32) (pk16 : ClassId) (pj17 : Int64) (pj18 : Int64) (pj19 : Int64) (pk20 : ClassId) (pi21 : Int32) (pk22 : ClassId) (h0 : Heap) (n0 : Nat) (v : Option Value) (h : Heap) (L : List Loc) : Prop := v = some (.int (pi14 + ((((pj9.toUInt64 >>> (pi21 &&& 0x3f).toInt64.toUInt64).toInt64) &&& pj18).toInt32))) ∧ Fr n0 L ∧ h = h0
theorem au29_1 (l : Launch) (Z : State) (a0 : Array Value) (hw : ∀ d ∈ tables_1, d.before a0 Z = true) (ws : List Jvm.Cond) (wINTEGER : Addr) (wDOUBLE : Addr) (wBOOLEAN : Addr) (wD : Addr) (kwD : ClassId) (hS : SS Z wINTEGER wDOUBLE wBOOLEAN wD kwD) (pa1 : Addr) (pa2 : Addr) (pi3 : Int32) (pa4 : Addr) (pa5 : Addr) (pa6 : Addr) (pa7 : Addr) (pk8 : ClassId) (pj9 : Int64) (pj10 : Int64) (pj11 : Int64) (pk12 : ClassId) (pi13 : Int32) (pi14 : Int32) (pi15 : Int32) (pk16 : ClassId) (pj17 : Int64) (pj18 : Int64) (pj19 : Int64) (pk20 : ClassId) (pi21 : Int32) (pk22 : ClassId) (h0 : Heap) (n0 : Nat) (O0 : Old Z n0 h0) (P1 : Fld Z h0 pa1 s9n "low" "[I" (.ref pa4)) (P2 : Fld Z h0 pa1 s9n "mask" "[J" (.ref pa5)) (P3 : Fld Z h0 pa1 s9n "shift" "[I" (.ref pa6)) (P4 : Fld Z h0 pa1 s9n "word" "[I" (.ref pa7)) (P6 : Arv Z h0 pa2 pk8 .long (6 : Int32) ([(.long (sB pi3 (0 : Int32) pj9 pj10 pj11)), (.long (sB pi3 (1 : Int32) pj9 pj10 pj11)), (.long (sB pi3 (2 : Int32) pj9 pj10 pj11)), (.long (sB pi3 (3 : Int32) pj9 pj10 pj11)), (.long (sB pi3 (4 : Int32) pj9 pj10 pj11)), (.long (sB pi3 (5 : Int32) pj9 pj10 pj11))]) (.long 0)) (P8 : Arv Z h0 pa4 pk12 .int (3 : Int32) ([(.int pi13), (.int pi14), (.int pi15)]) (.int 0)) (P10 : Arv Z h0 pa5 pk16 .long (3 : Int32) ([(.long pj17), (.long pj18), (.long pj19)]) (.long 0)) (P12 : Arv Z h0 pa6 pk20 .int (3 : Int32) ([(.int 0), (.int pi21), (.int 0)]) (.int 0)) (P14 : Arv Z h0 pa7 pk22 .int (3 : Int32) ([(.int 0), (.int 0), (.int 1)]) (.int 0)) (P16 : inO pi3) :
    MetB l M29 prog_105_method_5_code 6 (some .int) ws (rmk 0 0 0 0) Z h0 #[(.ref pa1), (.ref pa2), (.int pi3), (.int 1)] (Q_au29_1 Z wINTEGER wDOUBLE wBOOLEAN wD kwD pa1 pa2 pi3 pa4 pa5 pa6 pa7 pk8 pj9 pj10 pj11 pk12 pi13 pi14 pi15 pk16 pj17 pj18 pj19 pk20 pi21 pk22 h0 n0) := by
  refine own_body (plainFor_of_name pn_com_example_lanc_lanc_model_VariableLayout) ?_
  intro p e s m below meth c s₁ hx hby hml hown hnm hret0 hlk0 hZ X0 e0
  have N0 := Fr.nil n0
  have pre0 : ∀ t, Steps p.tables e below (s₁.setTop (mkF m 0 #[(vr pa1), (vr pa2), (vi pi3), (vi 1), .unset, .unset] [])) t → Steps p.tables e below (s₁.setTop (entryFrame m #[(.ref pa1), (.ref pa2), (.int pi3), (.int 1)] 6)) t := fun t k => castTop (ef_au29_1 m pa1 pa2 pi3 (1 : Int32)) k
  have hS0 := hS
  obtain ⟨S_wINTEGER, E_wINTEGER, S_wDOUBLE, E_wDOUBLE, S_wBOOLEAN, E_wBOOLEAN, F_ordinal_wINTEGER, F_ordinal_wDOUBLE, F_ordinal_wBOOLEAN, S_wD, E_wD, V_wD⟩ := hS0
  obtain ⟨T1, X1, e1, st1⟩ := getF X0 hx hZ hown (host := "") (Or.inl (ow hw 131 rfl)) Via.refl e0 P4 (g := (mkF m 3 #[(vr pa1), (vr pa2), (vi pi3), (vi 1), .unset, .unset] [(.ref pa1), (.int pi3), (.ref pa2)])) rfl rfl (hb hby d29_3)
  obtain ⟨cl2, Ar2, qc2, Sz2, Nn2, Ha2, Gg2⟩ := (id P14)
  have hin2 : ¬ ((1 : Int32) < 0 ∨ cl2.slots.size ≤ ((1 : Int32)).toNatClampNeg) := inb_of Sz2 ⟨by decide, by decide⟩
  have hat2 : cl2.slots[((1 : Int32)).toNatClampNeg]? = some (.int 0) := Ha2.at hin2 rfl
  obtain ⟨cl3, Ar3, qc3, Sz3, Nn3, Ha3, Gg3⟩ := (id P6)
  have hin3 : ¬ ((pi3 + (0 : Int32)) < 0 ∨ cl3.slots.size ≤ ((pi3 + (0 : Int32))).toNatClampNeg) := own_inb6 P16 (Or.inl rfl) Sz3
  have hat3 : cl3.slots[((pi3 + (0 : Int32))).toNatClampNeg]? = some (.long pj9) := Ha3.at hin3 (own_getB0 P16)
  obtain ⟨T4, X4, e4, st4⟩ := getF X1 hx hZ hown (host := "") (Or.inl (ow hw 133 rfl)) Via.refl e1 P3 (g := (mkF m 11 #[(vr pa1), (vr pa2), (vi pi3), (vi 1), .unset, .unset] [(.ref pa1), (.long pj9)])) rfl rfl (hb hby d29_11)
  obtain ⟨cl5, Ar5, qc5, Sz5, Nn5, Ha5, Gg5⟩ := (id P12)
  have hin5 : ¬ ((1 : Int32) < 0 ∨ cl5.slots.size ≤ ((1 : Int32)).toNatClampNeg) := inb_of Sz5 ⟨by decide, by decide⟩
  have hat5 : cl5.slots[((1 : Int32)).toNatClampNeg]? = some (.int pi21) := Ha5.at hin5 rfl
  obtain ⟨T6, X6, e6, st6⟩ := getF X4 hx hZ hown (host := "") (Or.inl (ow hw 136 rfl)) Via.refl e4 P2 (g := (mkF m 18 #[(vr pa1), (vr pa2), (vi pi3), (vi 1), .unset, .unset] [(.ref pa1), (.long ((pj9.toUInt64 >>> (pi21 &&& 0x3f).toInt64.toUInt64).toInt64))])) rfl rfl (hb hby d29_18)
  obtain ⟨cl7, Ar7, qc7, Sz7, Nn7, Ha7, Gg7⟩ := (id P10)
  have hin7 : ¬ ((1 : Int32) < 0 ∨ cl7.slots.size ≤ ((1 : Int32)).toNatClampNeg) := inb_of Sz7 ⟨by decide, by decide⟩
  have hat7 : cl7.slots[((1 : Int32)).toNatClampNeg]? = some (.long pj18) := Ha7.at hin7 rfl
  obtain ⟨T8, X8, e8, st8⟩ := getF X6 hx hZ hown (host := "") (Or.inl (ow hw 129 rfl)) Via.refl e6 P1 (g := (mkF m 27 #[(vr pa1), (vr pa2), (vi pi3), (vi 1), .val (.long (((pj9.toUInt64 >>> (pi21 &&& 0x3f).toInt64.toUInt64).toInt64) &&& pj18)), .second] [(.ref pa1)])) rfl rfl (hb hby d29_27)
  obtain ⟨cl9, Ar9, qc9, Sz9, Nn9, Ha9, Gg9⟩ := (id P8)
  have hin9 : ¬ ((1 : Int32) < 0 ∨ cl9.slots.size ≤ ((1 : Int32)).toNatClampNeg) := inb_of Sz9 ⟨by decide, by decide⟩
  have hat9 : cl9.slots[((1 : Int32)).toNatClampNeg]? = some (.int pi14) := Ha9.at hin9 rfl
  obtain ⟨fs, hr, hrun, hended, hW, hsame⟩ := X8.leave (v := some (.int (pi14 + ((((pj9.toUInt64 >>> (pi21 &&& 0x3f).toInt64.toUInt64).toInt64) &&& pj18).toInt32)))) (fun h => by rw [hret0] at h; cases h)
  refine ⟨_, _, pre0 _ ?_, hrun, hended, _, _, rfl, ?_, ⟨_, rfl⟩, hW, hsame.mono (by decide) (by decide)⟩
  · skip
    show Steps p.tables e below (s₁.setTop (mkF m 0 #[(vr pa1), (vr pa2), (vi pi3), (vi 1), .unset, .unset] [])) _
    refine XS.aloadN X0.here hx rfl (hb hby d29_0) rfl rfl ?_
    refine XS.iloadN X0.here hx rfl (hb hby d29_1) rfl ?_
    refine XS.aloadN X0.here hx rfl (hb hby d29_2) rfl rfl ?_
    refine st1 _ ?_
    refine XS.iloadN X1.here hx rfl (hb hby d29_6) rfl ?_
    refine X1.iaload hx (j := (1 : Int32)) (v := (.int 0)) (by rw [e1]; exact Ar2.1) (State.isArrayOf_alike hZ.alike Ar2.2.1) Ar2.2.2 hin2 hat2 (g := (mkF m 7 #[(vr pa1), (vr pa2), (vi pi3), (vi 1), .unset, .unset] [(.int 1), (.ref pa7), (.int pi3), (.ref pa2)])) rfl rfl (hb hby d29_7) _ ?_
    refine XS.iadd X1.here hx rfl (hb hby d29_8) rfl ?_
    refine X1.laload hx (j := (pi3 + (0 : Int32))) (v := (.long pj9)) (by rw [e1]; exact Ar3.1) (State.isArrayOf_alike hZ.alike Ar3.2.1) Ar3.2.2 hin3 hat3 (g := (mkF m 9 #[(vr pa1), (vr pa2), (vi pi3), (vi 1), .unset, .unset] [(.int (pi3 + (0 : Int32))), (.ref pa2)])) rfl rfl (hb hby d29_9) _ ?_
    refine XS.aloadN X1.here hx rfl (hb hby d29_10) rfl rfl ?_
    refine st4 _ ?_
    refine XS.iloadN X4.here hx rfl (hb hby d29_14) rfl ?_
    refine X4.iaload hx (j := (1 : Int32)) (v := (.int pi21)) (by rw [e4]; exact Ar5.1) (State.isArrayOf_alike hZ.alike Ar5.2.1) Ar5.2.2 hin5 hat5 (g := (mkF m 15 #[(vr pa1), (vr pa2), (vi pi3), (vi 1), .unset, .unset] [(.int 1), (.ref pa6), (.long pj9)])) rfl rfl (hb hby d29_15) _ ?_
    refine XS.lushr X4.here hx rfl (hb hby d29_16) rfl ?_
    refine XS.aloadN X4.here hx rfl (hb hby d29_17) rfl rfl ?_
    show Steps p.tables e below (T4.setTop (mkF m 18 #[(vr pa1), (vr pa2), (vi pi3), (vi 1), .unset, .unset] [(.ref pa1), (.long ((pj9.toUInt64 >>> (pi21 &&& 0x3f).toInt64.toUInt64).toInt64))])) _
    refine st6 _ ?_
    refine XS.iloadN X6.here hx rfl (hb hby d29_21) rfl ?_
    refine X6.laload hx (j := (1 : Int32)) (v := (.long pj18)) (by rw [e6]; exact Ar7.1) (State.isArrayOf_alike hZ.alike Ar7.2.1) Ar7.2.2 hin7 hat7 (g := (mkF m 22 #[(vr pa1), (vr pa2), (vi pi3), (vi 1), .unset, .unset] [(.int 1), (.ref pa5), (.long ((pj9.toUInt64 >>> (pi21 &&& 0x3f).toInt64.toUInt64).toInt64))])) rfl rfl (hb hby d29_22) _ ?_
    refine XS.land X6.here hx rfl (hb hby d29_23) rfl ?_
    refine XS.lstore X6.here hx rfl (hb hby d29_24) rfl (l' := #[(vr pa1), (vr pa2), (vi pi3), (vi 1), .val (.long (((pj9.toUInt64 >>> (pi21 &&& 0x3f).toInt64.toUInt64).toInt64) &&& pj18)), .second]) rfl ?_
    refine XS.aloadN X6.here hx rfl (hb hby d29_26) rfl rfl ?_
    refine st8 _ ?_
    refine XS.iloadN X8.here hx rfl (hb hby d29_30) rfl ?_
    refine X8.iaload hx (j := (1 : Int32)) (v := (.int pi14)) (by rw [e8]; exact Ar9.1) (State.isArrayOf_alike hZ.alike Ar9.2.1) Ar9.2.2 hin9 hat9 (g := (mkF m 31 #[(vr pa1), (vr pa2), (vi pi3), (vi 1), .val (.long (((pj9.toUInt64 >>> (pi21 &&& 0x3f).toInt64.toUInt64).toInt64) &&& pj18)), .second] [(.int 1), (.ref pa4)])) rfl rfl (hb hby d29_31) _ ?_
    refine XS.lload X8.here hx rfl (hb hby d29_32) rfl ?_
    refine XS.l2i X8.here hx rfl (hb hby d29_34) rfl ?_
    refine XS.iadd X8.here hx rfl (hb hby d29_35) rfl ?_
    exact retI X8 hx hret0 (hb hby d29_36) hr
  · show Q_au29_1 Z wINTEGER wDOUBLE wBOOLEAN wD kwD pa1 pa2 pi3 pa4 pa5 pa6 pa7 pk8 pj9 pj10 pj11 pk12 pi13 pi14 pi15 pk16 pj17 pj18 pj19 pk20 pi21 pk22 h0 n0 _ T8.heap _
    rw [e8]
    exact ⟨rfl, N0, rfl⟩
theorem ef_au29_2 (m : MethodId) (x0 : Addr) (x1 : Addr) (x2 : Int32) (x3 : Int32)  : entryFrame m #[(.ref x0), (.ref x1), (.int x2), (.int x3)] 6 = mkF m 0 #[(vr x0), (vr x1), (vi x2), (vi x3), .unset, .unset] [] := by first | (simp [entryFrame, mkF, argsToLocals, Value.category]; done) | rfl
def Q_au29_2 (Z : State) (wINTEGER : Addr) (wDOUBLE : Addr) (wBOOLEAN : Addr) (wD : Addr) (kwD : ClassId) (pa1 : Addr) (pa2 : Addr) (pi3 : Int32) (pa4 : Addr) (pa5 : Addr) (pa6 : Addr) (pa7 : Addr) (pk8 : ClassId) (pj9 : Int64) (pj10 : Int64) (pj11 : Int64) (pk12 : ClassId) (pi13 : Int32) (pi14 : Int32) (pi15 : Int32) (pk16 : ClassId) (pj17 : Int64) (pj18 : Int64) (pj19 : Int64) (pk20 : ClassId) (pi21 : Int32) (pk22 : ClassId) (h0 : Heap) (n0 : Nat) (v : Option Value) (h : Heap) (L : List Loc) : Prop := v = some (.int (pi15 + ((((pj10.toUInt64 >>> ((0 : Int32) &&& 0x3f).toInt64.toUInt64).toInt64) &&& pj19).toInt32))) ∧ Fr n0 L ∧ h = h0
theorem au29_2 (l : Launch) (Z : State) (a0 : Array Value) (hw : ∀ d ∈ tables_1, d.before a0 Z = true) (ws : List Jvm.Cond) (wINTEGER : Addr) (wDOUBLE : Addr) (wBOOLEAN : Addr) (wD : Addr) (kwD : ClassId) (hS : SS Z wINTEGER wDOUBLE wBOOLEAN wD kwD) (pa1 : Addr) (pa2 : Addr) (pi3 : Int32) (pa4 : Addr) (pa5 : Addr) (pa6 : Addr) (pa7 : Addr) (pk8 : ClassId) (pj9 : Int64) (pj10 : Int64) (pj11 : Int64) (pk12 : ClassId) (pi13 : Int32) (pi14 : Int32) (pi15 : Int32) (pk16 : ClassId) (pj17 : Int64) (pj18 : Int64) (pj19 : Int64) (pk20 : ClassId) (pi21 : Int32) (pk22 : ClassId) (h0 : Heap) (n0 : Nat) (O0 : Old Z n0 h0) (P1 : Fld Z h0 pa1 s9n "low" "[I" (.ref pa4)) (P2 : Fld Z h0 pa1 s9n "mask" "[J" (.ref pa5)) (P3 : Fld Z h0 pa1 s9n "shift" "[I" (.ref pa6)) (P4 : Fld Z h0 pa1 s9n "word" "[I" (.ref pa7)) (P6 : Arv Z h0 pa2 pk8 .long (6 : Int32) ([(.long (sB pi3 (0 : Int32) pj9 pj10 pj11)), (.long (sB pi3 (1 : Int32) pj9 pj10 pj11)), (.long (sB pi3 (2 : Int32) pj9 pj10 pj11)), (.long (sB pi3 (3 : Int32) pj9 pj10 pj11)), (.long (sB pi3 (4 : Int32) pj9 pj10 pj11)), (.long (sB pi3 (5 : Int32) pj9 pj10 pj11))]) (.long 0)) (P8 : Arv Z h0 pa4 pk12 .int (3 : Int32) ([(.int pi13), (.int pi14), (.int pi15)]) (.int 0)) (P10 : Arv Z h0 pa5 pk16 .long (3 : Int32) ([(.long pj17), (.long pj18), (.long pj19)]) (.long 0)) (P12 : Arv Z h0 pa6 pk20 .int (3 : Int32) ([(.int 0), (.int pi21), (.int 0)]) (.int 0)) (P14 : Arv Z h0 pa7 pk22 .int (3 : Int32) ([(.int 0), (.int 0), (.int 1)]) (.int 0)) (P16 : inO pi3) :
    MetB l M29 prog_105_method_5_code 6 (some .int) ws (rmk 0 0 0 0) Z h0 #[(.ref pa1), (.ref pa2), (.int pi3), (.int 2)] (Q_au29_2 Z wINTEGER wDOUBLE wBOOLEAN wD kwD pa1 pa2 pi3 pa4 pa5 pa6 pa7 pk8 pj9 pj10 pj11 pk12 pi13 pi14 pi15 pk16 pj17 pj18 pj19 pk20 pi21 pk22 h0 n0) := by
  refine own_body (plainFor_of_name pn_com_example_lanc_lanc_model_VariableLayout) ?_
  intro p e s m below meth c s₁ hx hby hml hown hnm hret0 hlk0 hZ X0 e0
  have N0 := Fr.nil n0
  have pre0 : ∀ t, Steps p.tables e below (s₁.setTop (mkF m 0 #[(vr pa1), (vr pa2), (vi pi3), (vi 2), .unset, .unset] [])) t → Steps p.tables e below (s₁.setTop (entryFrame m #[(.ref pa1), (.ref pa2), (.int pi3), (.int 2)] 6)) t := fun t k => castTop (ef_au29_2 m pa1 pa2 pi3 (2 : Int32)) k
  have hS0 := hS
  obtain ⟨S_wINTEGER, E_wINTEGER, S_wDOUBLE, E_wDOUBLE, S_wBOOLEAN, E_wBOOLEAN, F_ordinal_wINTEGER, F_ordinal_wDOUBLE, F_ordinal_wBOOLEAN, S_wD, E_wD, V_wD⟩ := hS0
  obtain ⟨T1, X1, e1, st1⟩ := getF X0 hx hZ hown (host := "") (Or.inl (ow hw 131 rfl)) Via.refl e0 P4 (g := (mkF m 3 #[(vr pa1), (vr pa2), (vi pi3), (vi 2), .unset, .unset] [(.ref pa1), (.int pi3), (.ref pa2)])) rfl rfl (hb hby d29_3)
  obtain ⟨cl2, Ar2, qc2, Sz2, Nn2, Ha2, Gg2⟩ := (id P14)
  have hin2 : ¬ ((2 : Int32) < 0 ∨ cl2.slots.size ≤ ((2 : Int32)).toNatClampNeg) := inb_of Sz2 ⟨by decide, by decide⟩
  have hat2 : cl2.slots[((2 : Int32)).toNatClampNeg]? = some (.int 1) := Ha2.at hin2 rfl
  obtain ⟨cl3, Ar3, qc3, Sz3, Nn3, Ha3, Gg3⟩ := (id P6)
  have hin3 : ¬ ((pi3 + (1 : Int32)) < 0 ∨ cl3.slots.size ≤ ((pi3 + (1 : Int32))).toNatClampNeg) := own_inb6 P16 (Or.inr rfl) Sz3
  have hat3 : cl3.slots[((pi3 + (1 : Int32))).toNatClampNeg]? = some (.long pj10) := Ha3.at hin3 (own_getB1 P16)
  obtain ⟨T4, X4, e4, st4⟩ := getF X1 hx hZ hown (host := "") (Or.inl (ow hw 133 rfl)) Via.refl e1 P3 (g := (mkF m 11 #[(vr pa1), (vr pa2), (vi pi3), (vi 2), .unset, .unset] [(.ref pa1), (.long pj10)])) rfl rfl (hb hby d29_11)
  obtain ⟨cl5, Ar5, qc5, Sz5, Nn5, Ha5, Gg5⟩ := (id P12)
  have hin5 : ¬ ((2 : Int32) < 0 ∨ cl5.slots.size ≤ ((2 : Int32)).toNatClampNeg) := inb_of Sz5 ⟨by decide, by decide⟩
  have hat5 : cl5.slots[((2 : Int32)).toNatClampNeg]? = some (.int 0) := Ha5.at hin5 rfl
  obtain ⟨T6, X6, e6, st6⟩ := getF X4 hx hZ hown (host := "") (Or.inl (ow hw 136 rfl)) Via.refl e4 P2 (g := (mkF m 18 #[(vr pa1), (vr pa2), (vi pi3), (vi 2), .unset, .unset] [(.ref pa1), (.long ((pj10.toUInt64 >>> ((0 : Int32) &&& 0x3f).toInt64.toUInt64).toInt64))])) rfl rfl (hb hby d29_18)
  obtain ⟨cl7, Ar7, qc7, Sz7, Nn7, Ha7, Gg7⟩ := (id P10)
  have hin7 : ¬ ((2 : Int32) < 0 ∨ cl7.slots.size ≤ ((2 : Int32)).toNatClampNeg) := inb_of Sz7 ⟨by decide, by decide⟩
  have hat7 : cl7.slots[((2 : Int32)).toNatClampNeg]? = some (.long pj19) := Ha7.at hin7 rfl
  obtain ⟨T8, X8, e8, st8⟩ := getF X6 hx hZ hown (host := "") (Or.inl (ow hw 129 rfl)) Via.refl e6 P1 (g := (mkF m 27 #[(vr pa1), (vr pa2), (vi pi3), (vi 2), .val (.long (((pj10.toUInt64 >>> ((0 : Int32) &&& 0x3f).toInt64.toUInt64).toInt64) &&& pj19)), .second] [(.ref pa1)])) rfl rfl (hb hby d29_27)
  obtain ⟨cl9, Ar9, qc9, Sz9, Nn9, Ha9, Gg9⟩ := (id P8)
  have hin9 : ¬ ((2 : Int32) < 0 ∨ cl9.slots.size ≤ ((2 : Int32)).toNatClampNeg) := inb_of Sz9 ⟨by decide, by decide⟩
  have hat9 : cl9.slots[((2 : Int32)).toNatClampNeg]? = some (.int pi15) := Ha9.at hin9 rfl
  obtain ⟨fs, hr, hrun, hended, hW, hsame⟩ := X8.leave (v := some (.int (pi15 + ((((pj10.toUInt64 >>> ((0 : Int32) &&& 0x3f).toInt64.toUInt64).toInt64) &&& pj19).toInt32)))) (fun h => by rw [hret0] at h; cases h)
  refine ⟨_, _, pre0 _ ?_, hrun, hended, _, _, rfl, ?_, ⟨_, rfl⟩, hW, hsame.mono (by decide) (by decide)⟩
  · skip
    show Steps p.tables e below (s₁.setTop (mkF m 0 #[(vr pa1), (vr pa2), (vi pi3), (vi 2), .unset, .unset] [])) _
    refine XS.aloadN X0.here hx rfl (hb hby d29_0) rfl rfl ?_
    refine XS.iloadN X0.here hx rfl (hb hby d29_1) rfl ?_
    refine XS.aloadN X0.here hx rfl (hb hby d29_2) rfl rfl ?_
    refine st1 _ ?_
    refine XS.iloadN X1.here hx rfl (hb hby d29_6) rfl ?_
    refine X1.iaload hx (j := (2 : Int32)) (v := (.int 1)) (by rw [e1]; exact Ar2.1) (State.isArrayOf_alike hZ.alike Ar2.2.1) Ar2.2.2 hin2 hat2 (g := (mkF m 7 #[(vr pa1), (vr pa2), (vi pi3), (vi 2), .unset, .unset] [(.int 2), (.ref pa7), (.int pi3), (.ref pa2)])) rfl rfl (hb hby d29_7) _ ?_
    refine XS.iadd X1.here hx rfl (hb hby d29_8) rfl ?_
    refine X1.laload hx (j := (pi3 + (1 : Int32))) (v := (.long pj10)) (by rw [e1]; exact Ar3.1) (State.isArrayOf_alike hZ.alike Ar3.2.1) Ar3.2.2 hin3 hat3 (g := (mkF m 9 #[(vr pa1), (vr pa2), (vi pi3), (vi 2), .unset, .unset] [(.int (pi3 + (1 : Int32))), (.ref pa2)])) rfl rfl (hb hby d29_9) _ ?_
    refine XS.aloadN X1.here hx rfl (hb hby d29_10) rfl rfl ?_
    refine st4 _ ?_
    refine XS.iloadN X4.here hx rfl (hb hby d29_14) rfl ?_
    refine X4.iaload hx (j := (2 : Int32)) (v := (.int 0)) (by rw [e4]; exact Ar5.1) (State.isArrayOf_alike hZ.alike Ar5.2.1) Ar5.2.2 hin5 hat5 (g := (mkF m 15 #[(vr pa1), (vr pa2), (vi pi3), (vi 2), .unset, .unset] [(.int 2), (.ref pa6), (.long pj10)])) rfl rfl (hb hby d29_15) _ ?_
    refine XS.lushr X4.here hx rfl (hb hby d29_16) rfl ?_
    refine XS.aloadN X4.here hx rfl (hb hby d29_17) rfl rfl ?_
    show Steps p.tables e below (T4.setTop (mkF m 18 #[(vr pa1), (vr pa2), (vi pi3), (vi 2), .unset, .unset] [(.ref pa1), (.long ((pj10.toUInt64 >>> ((0 : Int32) &&& 0x3f).toInt64.toUInt64).toInt64))])) _
    refine st6 _ ?_
    refine XS.iloadN X6.here hx rfl (hb hby d29_21) rfl ?_
    refine X6.laload hx (j := (2 : Int32)) (v := (.long pj19)) (by rw [e6]; exact Ar7.1) (State.isArrayOf_alike hZ.alike Ar7.2.1) Ar7.2.2 hin7 hat7 (g := (mkF m 22 #[(vr pa1), (vr pa2), (vi pi3), (vi 2), .unset, .unset] [(.int 2), (.ref pa5), (.long ((pj10.toUInt64 >>> ((0 : Int32) &&& 0x3f).toInt64.toUInt64).toInt64))])) rfl rfl (hb hby d29_22) _ ?_
    refine XS.land X6.here hx rfl (hb hby d29_23) rfl ?_
    refine XS.lstore X6.here hx rfl (hb hby d29_24) rfl (l' := #[(vr pa1), (vr pa2), (vi pi3), (vi 2), .val (.long (((pj10.toUInt64 >>> ((0 : Int32) &&& 0x3f).toInt64.toUInt64).toInt64) &&& pj19)), .second]) rfl ?_
    refine XS.aloadN X6.here hx rfl (hb hby d29_26) rfl rfl ?_
    refine st8 _ ?_
    refine XS.iloadN X8.here hx rfl (hb hby d29_30) rfl ?_
    refine X8.iaload hx (j := (2 : Int32)) (v := (.int pi15)) (by rw [e8]; exact Ar9.1) (State.isArrayOf_alike hZ.alike Ar9.2.1) Ar9.2.2 hin9 hat9 (g := (mkF m 31 #[(vr pa1), (vr pa2), (vi pi3), (vi 2), .val (.long (((pj10.toUInt64 >>> ((0 : Int32) &&& 0x3f).toInt64.toUInt64).toInt64) &&& pj19)), .second] [(.int 2), (.ref pa4)])) rfl rfl (hb hby d29_31) _ ?_
    refine XS.lload X8.here hx rfl (hb hby d29_32) rfl ?_
    refine XS.l2i X8.here hx rfl (hb hby d29_34) rfl ?_
    refine XS.iadd X8.here hx rfl (hb hby d29_35) rfl ?_
    exact retI X8 hx hret0 (hb hby d29_36) hr
  · show Q_au29_2 Z wINTEGER wDOUBLE wBOOLEAN wD kwD pa1 pa2 pi3 pa4 pa5 pa6 pa7 pk8 pj9 pj10 pj11 pk12 pi13 pi14 pi15 pk16 pj17 pj18 pj19 pk20 pi21 pk22 h0 n0 _ T8.heap _
    rw [e8]
    exact ⟨rfl, N0, rfl⟩
theorem ef_au16_1 (m : MethodId) (x0 : Addr) (x1 : Addr)  : entryFrame m #[(.ref x0), (.ref x1)] 10 = mkF m 0 #[(vr x0), (vr x1), .unset, .unset, .unset, .unset, .unset, .unset, .unset, .unset] [] := by first | (simp [entryFrame, mkF, argsToLocals, Value.category]; done) | rfl
def Q_au16_1 (Z : State) (wINTEGER : Addr) (wDOUBLE : Addr) (wBOOLEAN : Addr) (wD : Addr) (kwD : ClassId) (pa1 : Addr) (pa2 : Addr) (pi3 : Int32) (pi4 : Int32) (pi5 : Int32) (pa6 : Addr) (pk7 : ClassId) (pa8 : Addr) (pa9 : Addr) (pa10 : Addr) (pi11 : Int32) (pi12 : Int32) (pi15 : Int32) (pi16 : Int32) (pi19 : Int32) (pi20 : Int32) (h0 : Heap) (n0 : Nat) (v : Option Value) (h : Heap) (L : List Loc) : Prop := ∃ (e1 : Addr) (e2 : Addr) (e3 : Addr) (e4 : Addr) (e5 : ClassId) (e6 : ClassId) (e7 : ClassId) (e8 : ClassId), v = none ∧ Fr n0 L ∧ Keep h0 h [pa1] ∧ Exa Z h pa1 s9n ∧ Fld Z h pa1 s9n "low" "[I" (.ref e1) ∧ Fld Z h pa1 s9n "mask" "[J" (.ref e2) ∧ Fld Z h pa1 s9n "shift" "[I" (.ref e3) ∧ Fld Z h pa1 s9n "word" "[I" (.ref e4) ∧ Fld Z h pa1 s9n s10n "I" (.int 1) ∧ h0.size ≤ e1 ∧ Exa Z h e1 "[I" ∧ Arv Z h e1 e5 .int (3 : Int32) ([(.int pi12), (.int pi16), (.int pi20)]) (.int 0) ∧ h0.size ≤ e2 ∧ Exa Z h e2 "[J" ∧ Arv Z h e2 e6 .long (3 : Int32) ([(.long (maskV pi3)), (.long (maskV pi4)), (.long (maskV pi5))]) (.long 0) ∧ h0.size ≤ e3 ∧ Exa Z h e3 "[I" ∧ Arv Z h e3 e7 .int (3 : Int32) ([(.int 0), (.int ((0 : Int32) + pi3)), (.int (((0 : Int32) + pi3) + pi4))]) (.int 0) ∧ h0.size ≤ e4 ∧ Exa Z h e4 "[I" ∧ Arv Z h e4 e8 .int (3 : Int32) ([(.int 0), (.int 0), (.int 0)]) (.int 0) ∧ e1 ≠ e2 ∧ e1 ≠ e3 ∧ e1 ≠ e4 ∧ e2 ≠ e3 ∧ e2 ≠ e4 ∧ e3 ≠ e4
theorem au16_1 (l : Launch) (Z : State) (a0 : Array Value) (hw : ∀ d ∈ tables_1, d.before a0 Z = true) (ws : List Jvm.Cond) (wINTEGER : Addr) (wDOUBLE : Addr) (wBOOLEAN : Addr) (wD : Addr) (kwD : ClassId) (hS : SS Z wINTEGER wDOUBLE wBOOLEAN wD kwD) (pa1 : Addr) (pa2 : Addr) (pi3 : Int32) (pi4 : Int32) (pi5 : Int32) (pa6 : Addr) (pk7 : ClassId) (pa8 : Addr) (pa9 : Addr) (pa10 : Addr) (pi11 : Int32) (pi12 : Int32) (pi15 : Int32) (pi16 : Int32) (pi19 : Int32) (pi20 : Int32) (h0 : Heap) (n0 : Nat) (O0 : Old Z n0 h0) (P0 : Exa Z h0 pa1 s9n) (P1 : Fld Z h0 pa1 s9n "low" "[I" .null) (P2 : Fld Z h0 pa1 s9n "mask" "[J" .null) (P3 : Fld Z h0 pa1 s9n "shift" "[I" .null) (P4 : Fld Z h0 pa1 s9n "word" "[I" .null) (P5 : Fld Z h0 pa1 s9n s10n "I" (.int 0)) (P6 : Exa Z h0 pa2 s2n) (P8 : Fld Z h0 pa2 s2n "elementData" s3n (.ref pa6)) (P9 : Fld Z h0 pa2 s2n "size" "I" (.int 3)) (P10 : Arv Z h0 pa6 pk7 (.object s4n) (10 : Int32) ([(.ref pa8), (.ref pa9), (.ref pa10), .null, .null, .null, .null, .null, .null, .null]) .null) (P13 : Exa Z h0 pa8 s5n) (P14 : Fld Z h0 pa8 s5n "high" "I" (.int pi11)) (P15 : Fld Z h0 pa8 s5n "low" "I" (.int pi12)) (P18 : Exa Z h0 pa9 s5n) (P19 : Fld Z h0 pa9 s5n "high" "I" (.int pi15)) (P20 : Fld Z h0 pa9 s5n "low" "I" (.int pi16)) (P23 : Exa Z h0 pa10 s5n) (P24 : Fld Z h0 pa10 s5n "high" "I" (.int pi19)) (P25 : Fld Z h0 pa10 s5n "low" "I" (.int pi20)) (P28 : bitsV pi12 pi11 = pi3) (P30 : bitsV pi16 pi15 = pi4) (P32 : bitsV pi20 pi19 = pi5) (P34 : ¬ (64 : Int32) < ((0 : Int32) + pi3)) (P35 : ¬ (64 : Int32) < (((0 : Int32) + pi3) + pi4)) (P37 : ¬ (64 : Int32) < ((((0 : Int32) + pi3) + pi4) + pi5)) (P38 : n0 ≤ pa1) (P44 : pa1 ≠ pa2) (P45 : pa1 ≠ pa6) (P46 : pa1 ≠ pa8) (P47 : pa1 ≠ pa9) (P48 : pa1 ≠ pa10) :
    MetB l M24 prog_105_method_1_code 10 none ws (rmk 3 4 12 40) Z h0 #[(.ref pa1), (.ref pa2)] (Q_au16_1 Z wINTEGER wDOUBLE wBOOLEAN wD kwD pa1 pa2 pi3 pi4 pi5 pa6 pk7 pa8 pa9 pa10 pi11 pi12 pi15 pi16 pi19 pi20 h0 n0) := by
  refine own_body (plainFor_of_name pn_com_example_lanc_lanc_model_VariableLayout) ?_
  intro p e s m below meth c s₁ hx hby hml hown hnm hret0 hlk0 hZ X0 e0
  have N0 := Fr.nil n0
  have pre0 : ∀ t, Steps p.tables e below (s₁.setTop (mkF m 0 #[(vr pa1), (vr pa2), .unset, .unset, .unset, .unset, .unset, .unset, .unset, .unset] [])) t → Steps p.tables e below (s₁.setTop (entryFrame m #[(.ref pa1), (.ref pa2)] 10)) t := fun t k => castTop (ef_au16_1 m pa1 pa2) k
  have K0 := Keep.refl h0 [pa1]
  have hS0 := hS
  obtain ⟨S_wINTEGER, E_wINTEGER, S_wDOUBLE, E_wDOUBLE, S_wBOOLEAN, E_wBOOLEAN, F_ordinal_wINTEGER, F_ordinal_wDOUBLE, F_ordinal_wBOOLEAN, S_wD, E_wD, V_wD⟩ := hS0
  obtain ⟨T1, X1, e1, st1⟩ := initO X0 hx hZ hown (ow hw 120 rfl) (ow hw 32 rfl) (ow hw 33 rfl) e0 (g := (mkF m 1 #[(vr pa1), (vr pa2), .unset, .unset, .unset, .unset, .unset, .unset, .unset, .unset] [(.ref pa1)])) rfl (by rw [hml]; rfl) rfl (hb hby d16_1) (by decide) (W := 0) (by show 2 * 0 + _ ≤ _; exact Nat.le_of_eq rfl) (by decide)
  obtain ⟨cq2, kq2, q2a, q2b, q2c⟩ := isOf hZ e1 P6
  obtain ⟨_, _, ⟨T2, L2, k2, n2⟩, -, X2, ⟨Lc2, hQ2, l2, y2, z2⟩, st2⟩ := X1.interfaceBack hx (xi := M25) (y := M17) hown (mvT hZ (ow hw 121 rfl)) (mvT hZ (ow hw 122 rfl)) (mvT hZ (ow hw 123 rfl)) (mvT hZ (ow hw 124 rfl)) (mvT hZ (ow hw 125 rfl)) (mvT hZ (ow hw 126 rfl)) (mvT hZ (ow hw 127 rfl)) (mvT hZ (ow hw 84 rfl)) (by decide) (backOf (W := 0) (au17_0 l Z a0 hw [] wINTEGER wDOUBLE wBOOLEAN wD kwD hS pa2 h0 n0 O0 P9) hZ (ow hw 128 rfl) (ow hw 15 rfl) (by decide) (by decide)) q2a q2b q2c (g := (mkF m 5 #[(vr pa1), (vr pa2), .unset, .unset, .unset, .unset, .unset, .unset, .unset, .unset] [(.ref pa2)])) rfl (by rw [hml]; rfl) (Steps.refl _) (argsL := []) (rest := []) (lenOf pd_12 rfl) rfl (by show 2 * 0 + _ ≤ _; exact Nat.le_of_eq rfl) (hb hby d16_5) (fun _ _ => ⟨rfl, e1, (by decide : 0 + 0 ≤ _), (by decide : 0 + 0 ≤ _)⟩)
  dsimp only [Pt.U, Pt.locs, Pt.cells, Pt.slots] at X2 l2 y2 z2 st2 hQ2
  subst y2 z2
  obtain ⟨rfl, Nq2, K2q⟩ := hQ2
  have N2 : Fr n0 L2 := (congrArg (Fr n0) l2).mpr (Fr.app N0 Nq2)
  obtain ⟨T3, h3, k3, X3, e3, E3, A3, Z3, st3⟩ := newPE X2 hx hZ (ow hw 9 rfl) K2q (g := (mkF m 13 #[(vr pa1), (vr pa2), (vi 3), .unset, .unset, .unset, .unset, .unset, .unset, .unset] [(.int 3), (.ref pa1)])) rfl (hb hby d16_13) rfl (by decide) (cap := 3) (by decide) (by decide) (by decide) (by decide) (ad := "[I") rfl
  obtain ⟨b3, g3⟩ : ∃ z, z = h0.size := ⟨_, rfl⟩
  rw [← g3] at A3 Z3 st3
  have ne4 : pa1 ≠ b3 := Nat.ne_of_lt (Nat.lt_of_lt_of_le P0.lt (Nat.le_of_eq g3.symm))
  have ne5 : pa2 ≠ b3 := Nat.ne_of_lt (Nat.lt_of_lt_of_le P6.lt (Nat.le_of_eq g3.symm))
  have ne6 : pa6 ≠ b3 := Nat.ne_of_lt (Nat.lt_of_lt_of_le P10.lt (Nat.le_of_eq g3.symm))
  have ne7 : pa8 ≠ b3 := Nat.ne_of_lt (Nat.lt_of_lt_of_le P13.lt (Nat.le_of_eq g3.symm))
  have ne8 : pa9 ≠ b3 := Nat.ne_of_lt (Nat.lt_of_lt_of_le P18.lt (Nat.le_of_eq g3.symm))
  have ne9 : pa10 ≠ b3 := Nat.ne_of_lt (Nat.lt_of_lt_of_le P23.lt (Nat.le_of_eq g3.symm))
  have g10 : n0 ≤ b3 := Nat.le_trans (own_sz O0) (Nat.le_of_eq g3.symm)
  have sz11 : h0.size ≤ b3 := Nat.le_trans K0.1 (Nat.le_of_eq g3.symm)
  have O12 : Old Z n0 h3 := O0.ext E3
  have K12 : Keep h0 h3 [pa1] := K0.ext E3
  have V3 : Arv Z h3 b3 k3 .int (3 : Int32) ([(.int 0), (.int 0), (.int 0)]) (.int 0) := (Arv.new A3 (by decide)).pad (pad_rep [] (.int 0) 3)
  have f13 : Exa Z h3 pa1 s9n := (P0.ext E3)
  have f14 : Fld Z h3 pa1 s9n "low" "[I" .null := (P1.ext E3)
  obtain ⟨T15, h15, X15, e15, W15, st15⟩ := putF X3 hx hZ hown (host := "") (Or.inl (ow hw 129 rfl)) Via.refl e3 f14 f13 (Or.inr ⟨(ow hw 130 rfl), rfl, hnm⟩) (ow hw 115 rfl) (ty := (.array .int)) (by decide) rfl rfl (g := (mkF m 15 #[(vr pa1), (vr pa2), (vi 3), .unset, .unset, .unset, .unset, .unset, .unset, .unset] [(.ref b3), (.ref pa1)])) rfl rfl (hb hby d16_15)
  have N15 := Fr.snoc X15 N2 P38
  have O16 : Old Z n0 h15 := O12.wr W15 P38
  have K16 : Keep h0 h15 [pa1] := K12.wr W15 (Or.inl (List.mem_of_getElem? (i := 0) rfl))
  have Fw15 : Fld Z h15 pa1 s9n "low" "[I" (.ref b3) := f14.same W15
  obtain ⟨T17, h17, k17, X17, e17, E17, A17, Z17, st17⟩ := newPE X15 hx hZ (ow hw 9 rfl) e15 (g := (mkF m 20 #[(vr pa1), (vr pa2), (vi 3), .unset, .unset, .unset, .unset, .unset, .unset, .unset] [(.int 3), (.ref pa1)])) rfl (hb hby d16_20) rfl (by decide) (cap := 3) (by decide) (by decide) (by decide) (by decide) (ad := "[I") rfl
  obtain ⟨b17, g17⟩ : ∃ z, z = h15.size := ⟨_, rfl⟩
  rw [← g17] at A17 Z17 st17
  have f19 : Exa Z h15 pa1 s9n := (f13.wr W15)
  have ne18 : pa1 ≠ b17 := Nat.ne_of_lt (Nat.lt_of_lt_of_le f19.lt (Nat.le_of_eq g17.symm))
  have f21 : Exa Z h15 pa2 s2n := ((P6.ext E3).wr W15)
  have ne20 : pa2 ≠ b17 := Nat.ne_of_lt (Nat.lt_of_lt_of_le f21.lt (Nat.le_of_eq g17.symm))
  have f23 : Arv Z h15 pa6 pk7 (.object s4n) (10 : Int32) ([(.ref pa8), (.ref pa9), (.ref pa10), .null, .null, .null, .null, .null, .null, .null]) .null := ((P10.ext E3).other W15 (Ne.symm P45))
  have ne22 : pa6 ≠ b17 := Nat.ne_of_lt (Nat.lt_of_lt_of_le f23.lt (Nat.le_of_eq g17.symm))
  have f25 : Exa Z h15 pa8 s5n := ((P13.ext E3).wr W15)
  have ne24 : pa8 ≠ b17 := Nat.ne_of_lt (Nat.lt_of_lt_of_le f25.lt (Nat.le_of_eq g17.symm))
  have f27 : Exa Z h15 pa9 s5n := ((P18.ext E3).wr W15)
  have ne26 : pa9 ≠ b17 := Nat.ne_of_lt (Nat.lt_of_lt_of_le f27.lt (Nat.le_of_eq g17.symm))
  have f29 : Exa Z h15 pa10 s5n := ((P23.ext E3).wr W15)
  have ne28 : pa10 ≠ b17 := Nat.ne_of_lt (Nat.lt_of_lt_of_le f29.lt (Nat.le_of_eq g17.symm))
  have f31 : Arv Z h15 b3 k3 .int (3 : Int32) ([(.int 0), (.int 0), (.int 0)]) (.int 0) := (V3.other W15 (Ne.symm ne4))
  have ne30 : b3 ≠ b17 := Nat.ne_of_lt (Nat.lt_of_lt_of_le f31.lt (Nat.le_of_eq g17.symm))
  have g32 : n0 ≤ b17 := Nat.le_trans (own_sz O16) (Nat.le_of_eq g17.symm)
  have sz33 : h0.size ≤ b17 := Nat.le_trans K16.1 (Nat.le_of_eq g17.symm)
  have O34 : Old Z n0 h17 := O16.ext E17
  have K34 : Keep h0 h17 [pa1] := K16.ext E17
  have V17 : Arv Z h17 b17 k17 .int (3 : Int32) ([(.int 0), (.int 0), (.int 0)]) (.int 0) := (Arv.new A17 (by decide)).pad (pad_rep [] (.int 0) 3)
  have f35 : Exa Z h17 pa1 s9n := (f19.ext E17)
  have f36 : Fld Z h17 pa1 s9n "word" "[I" .null := (((P4.ext E3).other W15 (Or.inr (slot_ne (Or.inr (ow hw 132 rfl)) (Or.inr (ow hw 130 rfl)) (by decide) (t := (.array .int)) (t' := (.array .int)) (by decide) (by decide)))).ext E17)
  obtain ⟨T37, h37, X37, e37, W37, st37⟩ := putF X17 hx hZ hown (host := "") (Or.inl (ow hw 131 rfl)) Via.refl e17 f36 f35 (Or.inr ⟨(ow hw 132 rfl), rfl, hnm⟩) (ow hw 115 rfl) (ty := (.array .int)) (by decide) rfl rfl (g := (mkF m 22 #[(vr pa1), (vr pa2), (vi 3), .unset, .unset, .unset, .unset, .unset, .unset, .unset] [(.ref b17), (.ref pa1)])) rfl rfl (hb hby d16_22)
  have N37 := Fr.snoc X37 N15 P38
  have O38 : Old Z n0 h37 := O34.wr W37 P38
  have K38 : Keep h0 h37 [pa1] := K34.wr W37 (Or.inl (List.mem_of_getElem? (i := 0) rfl))
  have Fw37 : Fld Z h37 pa1 s9n "word" "[I" (.ref b17) := f36.same W37
  obtain ⟨T39, h39, k39, X39, e39, E39, A39, Z39, st39⟩ := newPE X37 hx hZ (ow hw 9 rfl) e37 (g := (mkF m 27 #[(vr pa1), (vr pa2), (vi 3), .unset, .unset, .unset, .unset, .unset, .unset, .unset] [(.int 3), (.ref pa1)])) rfl (hb hby d16_27) rfl (by decide) (cap := 3) (by decide) (by decide) (by decide) (by decide) (ad := "[I") rfl
  obtain ⟨b39, g39⟩ : ∃ z, z = h37.size := ⟨_, rfl⟩
  rw [← g39] at A39 Z39 st39
  have f41 : Exa Z h37 pa1 s9n := (f35.wr W37)
  have ne40 : pa1 ≠ b39 := Nat.ne_of_lt (Nat.lt_of_lt_of_le f41.lt (Nat.le_of_eq g39.symm))
  have f43 : Exa Z h37 pa2 s2n := ((f21.ext E17).wr W37)
  have ne42 : pa2 ≠ b39 := Nat.ne_of_lt (Nat.lt_of_lt_of_le f43.lt (Nat.le_of_eq g39.symm))
  have f45 : Arv Z h37 pa6 pk7 (.object s4n) (10 : Int32) ([(.ref pa8), (.ref pa9), (.ref pa10), .null, .null, .null, .null, .null, .null, .null]) .null := ((f23.ext E17).other W37 (Ne.symm P45))
  have ne44 : pa6 ≠ b39 := Nat.ne_of_lt (Nat.lt_of_lt_of_le f45.lt (Nat.le_of_eq g39.symm))
  have f47 : Exa Z h37 pa8 s5n := ((f25.ext E17).wr W37)
  have ne46 : pa8 ≠ b39 := Nat.ne_of_lt (Nat.lt_of_lt_of_le f47.lt (Nat.le_of_eq g39.symm))
  have f49 : Exa Z h37 pa9 s5n := ((f27.ext E17).wr W37)
  have ne48 : pa9 ≠ b39 := Nat.ne_of_lt (Nat.lt_of_lt_of_le f49.lt (Nat.le_of_eq g39.symm))
  have f51 : Exa Z h37 pa10 s5n := ((f29.ext E17).wr W37)
  have ne50 : pa10 ≠ b39 := Nat.ne_of_lt (Nat.lt_of_lt_of_le f51.lt (Nat.le_of_eq g39.symm))
  have f53 : Arv Z h37 b3 k3 .int (3 : Int32) ([(.int 0), (.int 0), (.int 0)]) (.int 0) := ((f31.ext E17).other W37 (Ne.symm ne4))
  have ne52 : b3 ≠ b39 := Nat.ne_of_lt (Nat.lt_of_lt_of_le f53.lt (Nat.le_of_eq g39.symm))
  have f55 : Arv Z h37 b17 k17 .int (3 : Int32) ([(.int 0), (.int 0), (.int 0)]) (.int 0) := (V17.other W37 (Ne.symm ne18))
  have ne54 : b17 ≠ b39 := Nat.ne_of_lt (Nat.lt_of_lt_of_le f55.lt (Nat.le_of_eq g39.symm))
  have g56 : n0 ≤ b39 := Nat.le_trans (own_sz O38) (Nat.le_of_eq g39.symm)
  have sz57 : h0.size ≤ b39 := Nat.le_trans K38.1 (Nat.le_of_eq g39.symm)
  have O58 : Old Z n0 h39 := O38.ext E39
  have K58 : Keep h0 h39 [pa1] := K38.ext E39
  have V39 : Arv Z h39 b39 k39 .int (3 : Int32) ([(.int 0), (.int 0), (.int 0)]) (.int 0) := (Arv.new A39 (by decide)).pad (pad_rep [] (.int 0) 3)
  have f59 : Exa Z h39 pa1 s9n := (f41.ext E39)
  have f60 : Fld Z h39 pa1 s9n "shift" "[I" .null := (((((P3.ext E3).other W15 (Or.inr (slot_ne (Or.inr (ow hw 134 rfl)) (Or.inr (ow hw 130 rfl)) (by decide) (t := (.array .int)) (t' := (.array .int)) (by decide) (by decide)))).ext E17).other W37 (Or.inr (slot_ne (Or.inr (ow hw 134 rfl)) (Or.inr (ow hw 132 rfl)) (by decide) (t := (.array .int)) (t' := (.array .int)) (by decide) (by decide)))).ext E39)
  obtain ⟨T61, h61, X61, e61, W61, st61⟩ := putF X39 hx hZ hown (host := "") (Or.inl (ow hw 133 rfl)) Via.refl e39 f60 f59 (Or.inr ⟨(ow hw 134 rfl), rfl, hnm⟩) (ow hw 115 rfl) (ty := (.array .int)) (by decide) rfl rfl (g := (mkF m 29 #[(vr pa1), (vr pa2), (vi 3), .unset, .unset, .unset, .unset, .unset, .unset, .unset] [(.ref b39), (.ref pa1)])) rfl rfl (hb hby d16_29)
  have N61 := Fr.snoc X61 N37 P38
  have O62 : Old Z n0 h61 := O58.wr W61 P38
  have K62 : Keep h0 h61 [pa1] := K58.wr W61 (Or.inl (List.mem_of_getElem? (i := 0) rfl))
  have Fw61 : Fld Z h61 pa1 s9n "shift" "[I" (.ref b39) := f60.same W61
  obtain ⟨T63, h63, k63, X63, e63, E63, A63, Z63, st63⟩ := newPE X61 hx hZ (ow hw 135 rfl) e61 (g := (mkF m 34 #[(vr pa1), (vr pa2), (vi 3), .unset, .unset, .unset, .unset, .unset, .unset, .unset] [(.int 3), (.ref pa1)])) rfl (hb hby d16_34) rfl (by decide) (cap := 3) (by decide) (by decide) (by decide) (by decide) (ad := "[J") rfl
  obtain ⟨b63, g63⟩ : ∃ z, z = h61.size := ⟨_, rfl⟩
  rw [← g63] at A63 Z63 st63
  have f65 : Exa Z h61 pa1 s9n := (f59.wr W61)
  have ne64 : pa1 ≠ b63 := Nat.ne_of_lt (Nat.lt_of_lt_of_le f65.lt (Nat.le_of_eq g63.symm))
  have f67 : Exa Z h61 pa2 s2n := ((f43.ext E39).wr W61)
  have ne66 : pa2 ≠ b63 := Nat.ne_of_lt (Nat.lt_of_lt_of_le f67.lt (Nat.le_of_eq g63.symm))
  have f69 : Arv Z h61 pa6 pk7 (.object s4n) (10 : Int32) ([(.ref pa8), (.ref pa9), (.ref pa10), .null, .null, .null, .null, .null, .null, .null]) .null := ((f45.ext E39).other W61 (Ne.symm P45))
  have ne68 : pa6 ≠ b63 := Nat.ne_of_lt (Nat.lt_of_lt_of_le f69.lt (Nat.le_of_eq g63.symm))
  have f71 : Exa Z h61 pa8 s5n := ((f47.ext E39).wr W61)
  have ne70 : pa8 ≠ b63 := Nat.ne_of_lt (Nat.lt_of_lt_of_le f71.lt (Nat.le_of_eq g63.symm))
  have f73 : Exa Z h61 pa9 s5n := ((f49.ext E39).wr W61)
  have ne72 : pa9 ≠ b63 := Nat.ne_of_lt (Nat.lt_of_lt_of_le f73.lt (Nat.le_of_eq g63.symm))
  have f75 : Exa Z h61 pa10 s5n := ((f51.ext E39).wr W61)
  have ne74 : pa10 ≠ b63 := Nat.ne_of_lt (Nat.lt_of_lt_of_le f75.lt (Nat.le_of_eq g63.symm))
  have f77 : Arv Z h61 b3 k3 .int (3 : Int32) ([(.int 0), (.int 0), (.int 0)]) (.int 0) := ((f53.ext E39).other W61 (Ne.symm ne4))
  have ne76 : b3 ≠ b63 := Nat.ne_of_lt (Nat.lt_of_lt_of_le f77.lt (Nat.le_of_eq g63.symm))
  have f79 : Arv Z h61 b17 k17 .int (3 : Int32) ([(.int 0), (.int 0), (.int 0)]) (.int 0) := ((f55.ext E39).other W61 (Ne.symm ne18))
  have ne78 : b17 ≠ b63 := Nat.ne_of_lt (Nat.lt_of_lt_of_le f79.lt (Nat.le_of_eq g63.symm))
  have f81 : Arv Z h61 b39 k39 .int (3 : Int32) ([(.int 0), (.int 0), (.int 0)]) (.int 0) := (V39.other W61 (Ne.symm ne40))
  have ne80 : b39 ≠ b63 := Nat.ne_of_lt (Nat.lt_of_lt_of_le f81.lt (Nat.le_of_eq g63.symm))
  have g82 : n0 ≤ b63 := Nat.le_trans (own_sz O62) (Nat.le_of_eq g63.symm)
  have sz83 : h0.size ≤ b63 := Nat.le_trans K62.1 (Nat.le_of_eq g63.symm)
  have O84 : Old Z n0 h63 := O62.ext E63
  have K84 : Keep h0 h63 [pa1] := K62.ext E63
  have V63 : Arv Z h63 b63 k63 .long (3 : Int32) ([(.long 0), (.long 0), (.long 0)]) (.long 0) := (Arv.new A63 (by decide)).pad (pad_rep [] (.long 0) 3)
  have f85 : Exa Z h63 pa1 s9n := (f65.ext E63)
  have f86 : Fld Z h63 pa1 s9n "mask" "[J" .null := (((((((P2.ext E3).other W15 (Or.inr (slot_ne (Or.inr (ow hw 137 rfl)) (Or.inr (ow hw 130 rfl)) (by decide) (t := (.array .long)) (t' := (.array .int)) (by decide) (by decide)))).ext E17).other W37 (Or.inr (slot_ne (Or.inr (ow hw 137 rfl)) (Or.inr (ow hw 132 rfl)) (by decide) (t := (.array .long)) (t' := (.array .int)) (by decide) (by decide)))).ext E39).other W61 (Or.inr (slot_ne (Or.inr (ow hw 137 rfl)) (Or.inr (ow hw 134 rfl)) (by decide) (t := (.array .long)) (t' := (.array .int)) (by decide) (by decide)))).ext E63)
  obtain ⟨T87, h87, X87, e87, W87, st87⟩ := putF X63 hx hZ hown (host := "") (Or.inl (ow hw 136 rfl)) Via.refl e63 f86 f85 (Or.inr ⟨(ow hw 137 rfl), rfl, hnm⟩) (ow hw 115 rfl) (ty := (.array .long)) (by decide) rfl rfl (g := (mkF m 36 #[(vr pa1), (vr pa2), (vi 3), .unset, .unset, .unset, .unset, .unset, .unset, .unset] [(.ref b63), (.ref pa1)])) rfl rfl (hb hby d16_36)
  have N87 := Fr.snoc X87 N61 P38
  have O88 : Old Z n0 h87 := O84.wr W87 P38
  have K88 : Keep h0 h87 [pa1] := K84.wr W87 (Or.inl (List.mem_of_getElem? (i := 0) rfl))
  have Fw87 : Fld Z h87 pa1 s9n "mask" "[J" (.ref b63) := f86.same W87
  have f89 : Exa Z h87 pa2 s2n := ((f67.ext E63).wr W87)
  have f90 : Fld Z h87 pa2 s2n "elementData" s3n (.ref pa6) := ((((((((P8.ext E3).other W15 (Or.inl (Ne.symm P44))).ext E17).other W37 (Or.inl (Ne.symm P44))).ext E39).other W61 (Or.inl (Ne.symm P44))).ext E63).other W87 (Or.inl (Ne.symm P44)))
  have f91 : Fld Z h87 pa2 s2n "size" "I" (.int 3) := ((((((((P9.ext E3).other W15 (Or.inl (Ne.symm P44))).ext E17).other W37 (Or.inl (Ne.symm P44))).ext E39).other W61 (Or.inl (Ne.symm P44))).ext E63).other W87 (Or.inl (Ne.symm P44)))
  have f92 : Arv Z h87 pa6 pk7 (.object s4n) (10 : Int32) ([(.ref pa8), (.ref pa9), (.ref pa10), .null, .null, .null, .null, .null, .null, .null]) .null := ((f69.ext E63).other W87 (Ne.symm P45))
  obtain ⟨cq93, kq93, q93a, q93b, q93c⟩ := isOf hZ e87 f89
  obtain ⟨_, _, ⟨T93, L93, k93, n93⟩, -, X93, ⟨Lc93, hQ93, l93, y93, z93⟩, st93⟩ := X87.interfaceBack hx (xi := M26) (y := M21) hown (mvT hZ (ow hw 138 rfl)) (mvT hZ (ow hw 139 rfl)) (mvT hZ (ow hw 140 rfl)) (mvT hZ (ow hw 141 rfl)) (mvT hZ (ow hw 142 rfl)) (mvT hZ (ow hw 143 rfl)) (mvT hZ (ow hw 144 rfl)) (mvT hZ (ow hw 84 rfl)) (by decide) (backOf (W := 0) (au18_0 l Z a0 hw [] wINTEGER wDOUBLE wBOOLEAN wD kwD hS pa2 pa6 pk7 pa8 pa9 pa10 h87 n0 O88 f89 f90 f91 f92) hZ (ow hw 145 rfl) (ow hw 15 rfl) (by decide) (by decide)) q93a q93b q93c (g := (mkF m 56 #[(vr pa1), (vr pa2), (vi 3), (vi 1), (vi 0), (vi 0), .unset, .unset, .unset, .unset] [(.int 0), (.ref pa2)])) rfl (by rw [hml]; rfl) (Steps.refl _) (argsL := [(.int 0)]) (rest := []) (lenOf pd_14 rfl) rfl (by show 2 * 0 + _ ≤ _; exact Nat.le_of_eq rfl) (hb hby d16_56) (fun _ _ => ⟨rfl, e87, (by decide : 4 + 0 ≤ _), (by decide : 12 + 0 ≤ _)⟩)
  dsimp only [Pt.U, Pt.locs, Pt.cells, Pt.slots] at X93 l93 y93 z93 st93 hQ93
  subst y93 z93
  obtain ⟨rfl, Nq93, K93q⟩ := hQ93
  have N93 : Fr n0 L93 := (congrArg (Fr n0) l93).mpr (Fr.app N87 Nq93)
  have f94 : Exa Z h87 pa8 s5n := ((f71.ext E63).wr W87)
  obtain ⟨T95, X95, e95, st95⟩ := castY X93 hx hZ hown (ow hw 159 rfl) K93q (Ins.self f94) (g := (mkF m 61 #[(vr pa1), (vr pa2), (vi 3), (vi 1), (vi 0), (vi 0), .unset, .unset, .unset, .unset] [(.ref pa8)])) rfl rfl (hb hby d16_61)
  have f96 : Fld Z h87 pa8 s5n "high" "I" (.int pi11) := ((((((((P14.ext E3).other W15 (Or.inl (Ne.symm P46))).ext E17).other W37 (Or.inl (Ne.symm P46))).ext E39).other W61 (Or.inl (Ne.symm P46))).ext E63).other W87 (Or.inl (Ne.symm P46)))
  obtain ⟨cq97, kq97, q97a, q97b, q97c⟩ := isOf hZ e95 f94
  obtain ⟨_, _, ⟨T97, L97, k97, n97⟩, -, X97, ⟨Lc97, hQ97, l97, y97, z97⟩, st97⟩ := X95.virtualBack hx (y := M22) (z := M22) hown (mvT hZ (ow hw 161 rfl)) (mvT hZ (ow hw 162 rfl)) (notFace_of_selects (args := #[]) (mvT hZ (ow hw 164 rfl))) (mvT hZ (ow hw 164 rfl)) (mvT hZ (ow hw 163 rfl)) (by decide) (backOf (W := 0) (au22_0 l Z a0 hw [] wINTEGER wDOUBLE wBOOLEAN wD kwD hS pa8 pi11 h87 n0 O88 f96) hZ (ow hw 165 rfl) (ow hw 52 rfl) (by decide) (by decide)) q97a q97c (g := (mkF m 68 #[(vr pa1), (vr pa2), (vi 3), (vi 1), (vi 0), (vi 0), (vr pa8), .unset, .unset, .unset] [(.ref pa8)])) rfl (by rw [hml]; rfl) (Steps.refl _) (argsL := []) (rest := []) (lenOf pd_12 rfl) rfl (by show 2 * 0 + _ ≤ _; exact Nat.le_of_eq rfl) (hb hby d16_68) (fun _ _ => ⟨rfl, e95, (by decide : 4 + 0 ≤ _), (by decide : 12 + 0 ≤ _)⟩)
  dsimp only [Pt.U, Pt.locs, Pt.cells, Pt.slots] at X97 l97 y97 z97 st97 hQ97
  subst y97 z97
  obtain ⟨rfl, Nq97, K97q⟩ := hQ97
  have N97 : Fr n0 L97 := (congrArg (Fr n0) l97).mpr (Fr.app N93 Nq97)
  have f98 : Fld Z h87 pa8 s5n "low" "I" (.int pi12) := ((((((((P15.ext E3).other W15 (Or.inl (Ne.symm P46))).ext E17).other W37 (Or.inl (Ne.symm P46))).ext E39).other W61 (Or.inl (Ne.symm P46))).ext E63).other W87 (Or.inl (Ne.symm P46)))
  obtain ⟨cq99, kq99, q99a, q99b, q99c⟩ := isOf hZ K97q f94
  obtain ⟨_, _, ⟨T99, L99, k99, n99⟩, -, X99, ⟨Lc99, hQ99, l99, y99, z99⟩, st99⟩ := X97.virtualBack hx (y := M23) (z := M23) hown (mvT hZ (ow hw 166 rfl)) (mvT hZ (ow hw 167 rfl)) (notFace_of_selects (args := #[]) (mvT hZ (ow hw 169 rfl))) (mvT hZ (ow hw 169 rfl)) (mvT hZ (ow hw 168 rfl)) (by decide) (backOf (W := 2) (au23_0 l Z a0 hw [] wINTEGER wDOUBLE wBOOLEAN wD kwD hS pa8 pi12 h87 n0 O88 f98) hZ (ow hw 170 rfl) (ow hw 52 rfl) (by decide) (by decide)) q99a q99c (g := (mkF m 74 #[(vr pa1), (vr pa2), (vi 3), (vi 1), (vi 0), (vi 0), (vr pa8), .unset, .unset, .unset] [(.ref pa8), (.long (pi11.toInt64))])) rfl (by rw [hml]; rfl) (Steps.refl _) (argsL := []) (rest := [(.long (pi11.toInt64))]) (lenOf pd_12 rfl) rfl (by show 2 * 0 + _ ≤ _; exact Nat.le_of_eq rfl) (hb hby d16_74) (fun _ _ => ⟨rfl, K97q, (by decide : 4 + 0 ≤ _), (by decide : 12 + 0 ≤ _)⟩)
  dsimp only [Pt.U, Pt.locs, Pt.cells, Pt.slots] at X99 l99 y99 z99 st99 hQ99
  subst y99 z99
  obtain ⟨rfl, Nq99, K99q⟩ := hQ99
  have N99 : Fr n0 L99 := (congrArg (Fr n0) l99).mpr (Fr.app N97 Nq99)
  obtain ⟨_, _, ⟨T100, L100, k100, n100⟩, -, X100, ⟨Lc100, hQ100, l100, y100, z100⟩, st100⟩ := Jvm.LawKit.callS X99 hx (y := M5) hown (mvT hZ (ow hw 171 rfl)) (mvT hZ (ow hw 172 rfl)) (mvT hZ (ow hw 173 rfl)) (mvT hZ (ow hw 174 rfl)) (by decide) (backOf (W := 1) (rmNlz64 l Z a0 hw [] wINTEGER wDOUBLE wBOOLEAN wD kwD hS ((pi11.toInt64) - (pi12.toInt64)) h87 n0 O88 ) hZ (ow hw 174 rfl) (ow hw 173 rfl) (by decide) (by decide)) (g := (mkF m 85 #[(vr pa1), (vr pa2), (vi 3), (vi 1), (vi 0), (vi 0), (vr pa8), .val (.long ((pi11.toInt64) - (pi12.toInt64))), .second, .unset] [(.long ((pi11.toInt64) - (pi12.toInt64))), (.int 64)])) rfl (by rw [hml]; rfl) (argsL := [(.long ((pi11.toInt64) - (pi12.toInt64)))]) (rest := [(.int 64)]) (lenOf pd_15 rfl) rfl (by show 2 * 0 + _ ≤ _; exact Nat.le_of_eq rfl) (hb hby d16_85) (fun _ _ => ⟨rfl, K99q, (by decide : 4 + 0 ≤ _), (by decide : 12 + 0 ≤ _)⟩)
  dsimp only [Pt.U, Pt.locs, Pt.cells, Pt.slots] at X100 l100 y100 z100 st100 hQ100
  subst y100 z100
  obtain ⟨r_100, rfl, Nq100, K100q, p100_0⟩ := hQ100
  have N100 : Fr n0 L100 := (congrArg (Fr n0) l100).mpr (Fr.app N99 Nq100)
  have hb101 : ((64 : Int32) - r_100) = pi3 := by rw [p100_0]; exact P28
  have pre102 : ∀ t, Steps p.tables e below (T100.setTop (mkF m 89 #[(vr pa1), (vr pa2), (vi 3), (vi 1), (vi 0), (vi 0), (vr pa8), .val (.long ((pi11.toInt64) - (pi12.toInt64))), .second, .unset] [(.int pi3)])) t → Steps p.tables e below (s₁.setTop (entryFrame m #[(.ref pa1), (.ref pa2)] 10)) t := by
    intro t k
    refine pre0 t ?_
    show Steps p.tables e below (s₁.setTop (mkF m 0 #[(vr pa1), (vr pa2), .unset, .unset, .unset, .unset, .unset, .unset, .unset, .unset] [])) _
    refine XS.aloadN X0.here hx rfl (hb hby d16_0) rfl rfl ?_
    refine st1 _ ?_
    refine XS.aloadN X1.here hx rfl (hb hby d16_4) rfl rfl ?_
    refine st2.trans ?_
    refine XS.istoreN X2.here hx rfl (hb hby d16_10) rfl (l' := #[(vr pa1), (vr pa2), (vi 3), .unset, .unset, .unset, .unset, .unset, .unset, .unset]) rfl ?_
    refine XS.aloadN X2.here hx rfl (hb hby d16_11) rfl rfl ?_
    refine XS.iloadN X2.here hx rfl (hb hby d16_12) rfl ?_
    refine st3 _ ?_
    refine st15 _ ?_
    refine XS.aloadN X15.here hx rfl (hb hby d16_18) rfl rfl ?_
    refine XS.iloadN X15.here hx rfl (hb hby d16_19) rfl ?_
    refine st17 _ ?_
    refine st37 _ ?_
    refine XS.aloadN X37.here hx rfl (hb hby d16_25) rfl rfl ?_
    show Steps p.tables e below (T37.setTop (mkF m 26 #[(vr pa1), (vr pa2), (vi 3), .unset, .unset, .unset, .unset, .unset, .unset, .unset] [(.ref pa1)])) _
    refine XS.iloadN X37.here hx rfl (hb hby d16_26) rfl ?_
    refine st39 _ ?_
    refine st61 _ ?_
    refine XS.aloadN X61.here hx rfl (hb hby d16_32) rfl rfl ?_
    refine XS.iloadN X61.here hx rfl (hb hby d16_33) rfl ?_
    refine st63 _ ?_
    refine st87 _ ?_
    refine XS.iconst X87.here hx rfl (hb hby d16_39) ?_
    refine XS.istoreN X87.here hx rfl (hb hby d16_40) rfl (l' := #[(vr pa1), (vr pa2), (vi 3), (vi 1), .unset, .unset, .unset, .unset, .unset, .unset]) rfl ?_
    refine XS.iconst X87.here hx rfl (hb hby d16_41) ?_
    refine XS.istore X87.here hx rfl (hb hby d16_42) rfl (l' := #[(vr pa1), (vr pa2), (vi 3), (vi 1), (vi 0), .unset, .unset, .unset, .unset, .unset]) rfl ?_
    refine XS.iconst X87.here hx rfl (hb hby d16_44) ?_
    refine XS.istore X87.here hx rfl (hb hby d16_45) rfl (l' := #[(vr pa1), (vr pa2), (vi 3), (vi 1), (vi 0), (vi 0), .unset, .unset, .unset, .unset]) rfl ?_
    refine XS.iload X87.here hx rfl (hb hby d16_47) rfl ?_
    show Steps p.tables e below (T87.setTop (mkF m 49 #[(vr pa1), (vr pa2), (vi 3), (vi 1), (vi 0), (vi 0), .unset, .unset, .unset, .unset] [(.int 0)])) _
    refine XS.iloadN X87.here hx rfl (hb hby d16_49) rfl ?_
    refine XS.icmpNo X87.here hx rfl (hb hby d16_50) rfl (tlt (by decide : (0 : Int32) < (3 : Int32))).2.1 ?_
    refine XS.aloadN X87.here hx rfl (hb hby d16_53) rfl rfl ?_
    refine XS.iload X87.here hx rfl (hb hby d16_54) rfl ?_
    refine st93.trans ?_
    refine st95 _ ?_
    refine XS.astore X95.here hx rfl (hb hby d16_64) rfl rfl (l' := #[(vr pa1), (vr pa2), (vi 3), (vi 1), (vi 0), (vi 0), (vr pa8), .unset, .unset, .unset]) rfl ?_
    refine XS.aload X95.here hx rfl (hb hby d16_66) rfl rfl ?_
    refine st97.trans ?_
    refine XS.i2l X97.here hx rfl (hb hby d16_71) rfl ?_
    refine XS.aload X97.here hx rfl (hb hby d16_72) rfl rfl ?_
    refine st99.trans ?_
    refine XS.i2l X99.here hx rfl (hb hby d16_77) rfl ?_
    refine XS.lsub X99.here hx rfl (hb hby d16_78) rfl ?_
    show Steps p.tables e below (T99.setTop (mkF m 79 #[(vr pa1), (vr pa2), (vi 3), (vi 1), (vi 0), (vi 0), (vr pa8), .unset, .unset, .unset] [(.long ((pi11.toInt64) - (pi12.toInt64)))])) _
    refine XS.lstore X99.here hx rfl (hb hby d16_79) rfl (l' := #[(vr pa1), (vr pa2), (vi 3), (vi 1), (vi 0), (vi 0), (vr pa8), .val (.long ((pi11.toInt64) - (pi12.toInt64))), .second, .unset]) rfl ?_
    refine XS.bipush X99.here hx rfl (hb hby d16_81) ?_
    refine XS.lload X99.here hx rfl (hb hby d16_83) rfl ?_
    refine st100 _ ?_
    refine XS.isub X100.here hx rfl (hb hby d16_88) rfl ?_
    rw [hb101]
    exact k
  have f103 : Fld Z h87 pa1 s9n "low" "[I" (.ref b3) := ((((((Fw15.ext E17).other W37 (Or.inr (slot_ne (Or.inr (ow hw 130 rfl)) (Or.inr (ow hw 132 rfl)) (by decide) (t := (.array .int)) (t' := (.array .int)) (by decide) (by decide)))).ext E39).other W61 (Or.inr (slot_ne (Or.inr (ow hw 130 rfl)) (Or.inr (ow hw 134 rfl)) (by decide) (t := (.array .int)) (t' := (.array .int)) (by decide) (by decide)))).ext E63).other W87 (Or.inr (slot_ne (Or.inr (ow hw 130 rfl)) (Or.inr (ow hw 137 rfl)) (by decide) (t := (.array .int)) (t' := (.array .long)) (by decide) (by decide))))
  obtain ⟨T104, X104, e104, st104⟩ := getF X100 hx hZ hown (host := "") (Or.inl (ow hw 129 rfl)) Via.refl K100q f103 (g := (mkF m 108 #[(vr pa1), (vr pa2), (vi 3), (vi 1), (vi 0), (vi 0), (vr pa8), .val (.long ((pi11.toInt64) - (pi12.toInt64))), .second, (vi pi3)] [(.ref pa1)])) rfl rfl (hb hby d16_108)
  obtain ⟨cq105, kq105, q105a, q105b, q105c⟩ := isOf hZ e104 f94
  obtain ⟨_, _, ⟨T105, L105, k105, n105⟩, -, X105, ⟨Lc105, hQ105, l105, y105, z105⟩, st105⟩ := X104.virtualBack hx (y := M23) (z := M23) hown (mvT hZ (ow hw 166 rfl)) (mvT hZ (ow hw 167 rfl)) (notFace_of_selects (args := #[]) (mvT hZ (ow hw 169 rfl))) (mvT hZ (ow hw 169 rfl)) (mvT hZ (ow hw 168 rfl)) (by decide) (backOf (W := 2) (au23_0 l Z a0 hw [] wINTEGER wDOUBLE wBOOLEAN wD kwD hS pa8 pi12 h87 n0 O88 f98) hZ (ow hw 170 rfl) (ow hw 52 rfl) (by decide) (by decide)) q105a q105c (g := (mkF m 115 #[(vr pa1), (vr pa2), (vi 3), (vi 1), (vi 0), (vi 0), (vr pa8), .val (.long ((pi11.toInt64) - (pi12.toInt64))), .second, (vi pi3)] [(.ref pa8), (.int 0), (.ref b3)])) rfl (by rw [hml]; rfl) (Steps.refl _) (argsL := []) (rest := [(.int 0), (.ref b3)]) (lenOf pd_12 rfl) rfl (by show 2 * 0 + _ ≤ _; exact Nat.le_of_eq rfl) (hb hby d16_115) (fun _ _ => ⟨rfl, e104, (by decide : 4 + 0 ≤ _), (by decide : 12 + 0 ≤ _)⟩)
  dsimp only [Pt.U, Pt.locs, Pt.cells, Pt.slots] at X105 l105 y105 z105 st105 hQ105
  subst y105 z105
  obtain ⟨rfl, Nq105, K105q⟩ := hQ105
  have N105 : Fr n0 L105 := (congrArg (Fr n0) l105).mpr (Fr.app N100 Nq105)
  have f106 : Arv Z h87 b3 k3 .int (3 : Int32) ([(.int 0), (.int 0), (.int 0)]) (.int 0) := ((f77.ext E63).other W87 (Ne.symm ne4))
  obtain ⟨cl107, Ar107, qc107, Sz107, Nn107, Ha107, Gg107⟩ := (id f106)
  have hin107 : ¬ ((0 : Int32) < 0 ∨ cl107.slots.size ≤ ((0 : Int32)).toNatClampNeg) := inb_of Sz107 ⟨by decide, by decide⟩
  obtain ⟨T107, h107, X107, e107, W107, st107⟩ := stI X105 hx hZ K105q Ar107 (j := (0 : Int32)) hin107 (g := (mkF m 118 #[(vr pa1), (vr pa2), (vi 3), (vi 1), (vi 0), (vi 0), (vr pa8), .val (.long ((pi11.toInt64) - (pi12.toInt64))), .second, (vi pi3)] [(.int pi12), (.int 0), (.ref b3)])) rfl rfl (hb hby d16_118)
  have O108 : Old Z n0 h107 := O88.wr W107 g10
  have K108 : Keep h0 h107 [pa1] := K88.wr W107 (Or.inr sz11)
  have V107 : Arv Z h107 b3 k3 .int (3 : Int32) ([(.int pi12), (.int 0), (.int 0)]) (.int 0) := (Arv.set Ar107 qc107 Sz107 Nn107 Ha107 Gg107 (v := (.int pi12)) rfl W107 0 rfl (Nat.le_of_ble_eq_true rfl))
  have N107 := Fr.snoc X107 N105 g10
  have f109 : Fld Z h107 pa1 s9n "word" "[I" (.ref b17) := (((((Fw37.ext E39).other W61 (Or.inr (slot_ne (Or.inr (ow hw 132 rfl)) (Or.inr (ow hw 134 rfl)) (by decide) (t := (.array .int)) (t' := (.array .int)) (by decide) (by decide)))).ext E63).other W87 (Or.inr (slot_ne (Or.inr (ow hw 132 rfl)) (Or.inr (ow hw 137 rfl)) (by decide) (t := (.array .int)) (t' := (.array .long)) (by decide) (by decide)))).other W107 (Or.inl ne4))
  obtain ⟨T110, X110, e110, st110⟩ := getF X107 hx hZ hown (host := "") (Or.inl (ow hw 131 rfl)) Via.refl e107 f109 (g := (mkF m 120 #[(vr pa1), (vr pa2), (vi 3), (vi 1), (vi 0), (vi 0), (vr pa8), .val (.long ((pi11.toInt64) - (pi12.toInt64))), .second, (vi pi3)] [(.ref pa1)])) rfl rfl (hb hby d16_120)
  have f111 : Arv Z h107 b17 k17 .int (3 : Int32) ([(.int 0), (.int 0), (.int 0)]) (.int 0) := (((f79.ext E63).other W87 (Ne.symm ne18)).other W107 (Ne.symm ne30))
  obtain ⟨cl112, Ar112, qc112, Sz112, Nn112, Ha112, Gg112⟩ := (id f111)
  have hin112 : ¬ ((0 : Int32) < 0 ∨ cl112.slots.size ≤ ((0 : Int32)).toNatClampNeg) := inb_of Sz112 ⟨by decide, by decide⟩
  obtain ⟨T112, h112, X112, e112, W112, st112⟩ := stI X110 hx hZ e110 Ar112 (j := (0 : Int32)) hin112 (g := (mkF m 128 #[(vr pa1), (vr pa2), (vi 3), (vi 1), (vi 0), (vi 0), (vr pa8), .val (.long ((pi11.toInt64) - (pi12.toInt64))), .second, (vi pi3)] [(.int 0), (.int 0), (.ref b17)])) rfl rfl (hb hby d16_128)
  have O113 : Old Z n0 h112 := O108.wr W112 g32
  have K113 : Keep h0 h112 [pa1] := K108.wr W112 (Or.inr sz33)
  have V112 : Arv Z h112 b17 k17 .int (3 : Int32) ([(.int 0), (.int 0), (.int 0)]) (.int 0) := (Arv.set Ar112 qc112 Sz112 Nn112 Ha112 Gg112 (v := (.int 0)) rfl W112 0 rfl (Nat.le_of_ble_eq_true rfl))
  have N112 := Fr.snoc X112 N107 g32
  have f114 : Fld Z h112 pa1 s9n "shift" "[I" (.ref b39) := ((((Fw61.ext E63).other W87 (Or.inr (slot_ne (Or.inr (ow hw 134 rfl)) (Or.inr (ow hw 137 rfl)) (by decide) (t := (.array .int)) (t' := (.array .long)) (by decide) (by decide)))).other W107 (Or.inl ne4)).other W112 (Or.inl ne18))
  obtain ⟨T115, X115, e115, st115⟩ := getF X112 hx hZ hown (host := "") (Or.inl (ow hw 133 rfl)) Via.refl e112 f114 (g := (mkF m 130 #[(vr pa1), (vr pa2), (vi 3), (vi 1), (vi 0), (vi 0), (vr pa8), .val (.long ((pi11.toInt64) - (pi12.toInt64))), .second, (vi pi3)] [(.ref pa1)])) rfl rfl (hb hby d16_130)
  have f116 : Arv Z h112 b39 k39 .int (3 : Int32) ([(.int 0), (.int 0), (.int 0)]) (.int 0) := ((((f81.ext E63).other W87 (Ne.symm ne40)).other W107 (Ne.symm ne52)).other W112 (Ne.symm ne54))
  obtain ⟨cl117, Ar117, qc117, Sz117, Nn117, Ha117, Gg117⟩ := (id f116)
  have hin117 : ¬ ((0 : Int32) < 0 ∨ cl117.slots.size ≤ ((0 : Int32)).toNatClampNeg) := inb_of Sz117 ⟨by decide, by decide⟩
  obtain ⟨T117, h117, X117, e117, W117, st117⟩ := stI X115 hx hZ e115 Ar117 (j := (0 : Int32)) hin117 (g := (mkF m 137 #[(vr pa1), (vr pa2), (vi 3), (vi 1), (vi 0), (vi 0), (vr pa8), .val (.long ((pi11.toInt64) - (pi12.toInt64))), .second, (vi pi3)] [(.int 0), (.int 0), (.ref b39)])) rfl rfl (hb hby d16_137)
  have O118 : Old Z n0 h117 := O113.wr W117 g56
  have K118 : Keep h0 h117 [pa1] := K113.wr W117 (Or.inr sz57)
  have V117 : Arv Z h117 b39 k39 .int (3 : Int32) ([(.int 0), (.int 0), (.int 0)]) (.int 0) := (Arv.set Ar117 qc117 Sz117 Nn117 Ha117 Gg117 (v := (.int 0)) rfl W117 0 rfl (Nat.le_of_ble_eq_true rfl))
  have N117 := Fr.snoc X117 N112 g56
  have f119 : Fld Z h117 pa1 s9n "mask" "[J" (.ref b63) := (((Fw87.other W107 (Or.inl ne4)).other W112 (Or.inl ne18)).other W117 (Or.inl ne40))
  obtain ⟨T120, X120, e120, st120⟩ := getF X117 hx hZ hown (host := "") (Or.inl (ow hw 136 rfl)) Via.refl e117 f119 (g := (mkF m 139 #[(vr pa1), (vr pa2), (vi 3), (vi 1), (vi 0), (vi 0), (vr pa8), .val (.long ((pi11.toInt64) - (pi12.toInt64))), .second, (vi pi3)] [(.ref pa1)])) rfl rfl (hb hby d16_139)
  have pre121 : ∀ t, Steps p.tables e below (T120.setTop (mkF m 146 #[(vr pa1), (vr pa2), (vi 3), (vi 1), (vi 0), (vi 0), (vr pa8), .val (.long ((pi11.toInt64) - (pi12.toInt64))), .second, (vi pi3)] [(.int pi3), (.int 0), (.ref b63)])) t → Steps p.tables e below (s₁.setTop (entryFrame m #[(.ref pa1), (.ref pa2)] 10)) t := by
    intro t k
    refine pre102 t ?_
    show Steps p.tables e below (T100.setTop (mkF m 89 #[(vr pa1), (vr pa2), (vi 3), (vi 1), (vi 0), (vi 0), (vr pa8), .val (.long ((pi11.toInt64) - (pi12.toInt64))), .second, .unset] [(.int pi3)])) _
    refine XS.istore X100.here hx rfl (hb hby d16_89) rfl (l' := #[(vr pa1), (vr pa2), (vi 3), (vi 1), (vi 0), (vi 0), (vr pa8), .val (.long ((pi11.toInt64) - (pi12.toInt64))), .second, (vi pi3)]) rfl ?_
    refine XS.iload X100.here hx rfl (hb hby d16_91) rfl ?_
    refine XS.iload X100.here hx rfl (hb hby d16_93) rfl ?_
    refine XS.iadd X100.here hx rfl (hb hby d16_95) rfl ?_
    refine XS.bipush X100.here hx rfl (hb hby d16_96) ?_
    refine XS.icmpYes X100.here hx rfl (pc0 := 98) (pc' := 107) rfl (hb hby d16_98) rfl (flt (P34 : ¬ ((64 : Int32) < ((0 : Int32) + pi3)))).2.2.2 (by decide) (by decide) ?_
    refine XS.aloadN X100.here hx rfl (hb hby d16_107) rfl rfl ?_
    refine st104 _ ?_
    refine XS.iload X104.here hx rfl (hb hby d16_111) rfl ?_
    refine XS.aload X104.here hx rfl (hb hby d16_113) rfl rfl ?_
    refine st105.trans ?_
    refine st107 _ ?_
    refine XS.aloadN X107.here hx rfl (hb hby d16_119) rfl rfl ?_
    refine st110 _ ?_
    show Steps p.tables e below (T110.setTop (mkF m 123 #[(vr pa1), (vr pa2), (vi 3), (vi 1), (vi 0), (vi 0), (vr pa8), .val (.long ((pi11.toInt64) - (pi12.toInt64))), .second, (vi pi3)] [(.ref b17)])) _
    refine XS.iload X110.here hx rfl (hb hby d16_123) rfl ?_
    refine XS.iloadN X110.here hx rfl (hb hby d16_125) rfl ?_
    refine XS.iconst X110.here hx rfl (hb hby d16_126) ?_
    refine XS.isub X110.here hx rfl (hb hby d16_127) rfl ?_
    refine st112 _ ?_
    refine XS.aloadN X112.here hx rfl (hb hby d16_129) rfl rfl ?_
    refine st115 _ ?_
    refine XS.iload X115.here hx rfl (hb hby d16_133) rfl ?_
    refine XS.iload X115.here hx rfl (hb hby d16_135) rfl ?_
    refine st117 _ ?_
    refine XS.aloadN X117.here hx rfl (hb hby d16_138) rfl rfl ?_
    refine st120 _ ?_
    refine XS.iload X120.here hx rfl (hb hby d16_142) rfl ?_
    refine XS.iload X120.here hx rfl (hb hby d16_144) rfl ?_
    exact k
  obtain ⟨y123, hy123⟩ : ∃ z : Int64, z = (if pi3 = (0 : Int32) then (0 : Int64) else (((-1 : Int64).toUInt64 >>> (((64 : Int32) - pi3) &&& 0x3f).toInt64.toUInt64).toInt64)) := ⟨_, rfl⟩
  have pre124 : ∀ t, Steps p.tables e below (T120.setTop (mkF m 162 #[(vr pa1), (vr pa2), (vi 3), (vi 1), (vi 0), (vi 0), (vr pa8), .val (.long ((pi11.toInt64) - (pi12.toInt64))), .second, (vi pi3)] [(.long y123), (.int 0), (.ref b63)])) t → Steps p.tables e below (s₁.setTop (entryFrame m #[(.ref pa1), (.ref pa2)] 10)) t := by
    intro t k
    rw [hy123] at k
    refine pre121 t ?_
    show Steps p.tables e below (T120.setTop (mkF m 146 #[(vr pa1), (vr pa2), (vi 3), (vi 1), (vi 0), (vi 0), (vr pa8), .val (.long ((pi11.toInt64) - (pi12.toInt64))), .second, (vi pi3)] [(.int pi3), (.int 0), (.ref b63)])) _
    rcases Decidable.em (pi3 = (0 : Int32)) with hm122 | hm122
    · first | simp only [if_pos hm122] at k | skip
      refine XS.ifNo X120.here hx rfl (hb hby d16_146) rfl ((if0 _ _).trans (teq hm122).2) ?_
      refine XS.lconst X120.here hx rfl (hb hby d16_149) ?_
      refine XS.goto X120.here hx rfl (pc0 := 150) (pc' := 162) rfl (hb hby d16_150) (by decide) (by decide) ?_
      exact k
    · first | simp only [if_neg hm122] at k | skip
      refine XS.ifYes X120.here hx rfl (pc0 := 146) (pc' := 153) rfl (hb hby d16_146) rfl ((if0 _ _).trans (feq hm122).2) (by decide) (by decide) ?_
      refine X120.ldc2Long hx hown (mvT hZ (ow hw 180 rfl)) (g := (mkF m 153 #[(vr pa1), (vr pa2), (vi 3), (vi 1), (vi 0), (vi 0), (vr pa8), .val (.long ((pi11.toInt64) - (pi12.toInt64))), .second, (vi pi3)] [(.int 0), (.ref b63)])) rfl (hb hby d16_153) _ ?_
      refine XS.bipush X120.here hx rfl (hb hby d16_156) ?_
      refine XS.iload X120.here hx rfl (hb hby d16_158) rfl ?_
      refine XS.isub X120.here hx rfl (hb hby d16_160) rfl ?_
      refine XS.lushr X120.here hx rfl (hb hby d16_161) rfl ?_
      exact k
  have hm125 : y123 = maskV pi3 := hy123
  have pre126 : ∀ t, Steps p.tables e below (T120.setTop (mkF m 162 #[(vr pa1), (vr pa2), (vi 3), (vi 1), (vi 0), (vi 0), (vr pa8), .val (.long ((pi11.toInt64) - (pi12.toInt64))), .second, (vi pi3)] [(.long (maskV pi3)), (.int 0), (.ref b63)])) t → Steps p.tables e below (s₁.setTop (entryFrame m #[(.ref pa1), (.ref pa2)] 10)) t := by
    intro t k
    refine pre124 t ?_
    rw [hm125]
    exact k
  have f127 : Arv Z h117 b63 k63 .long (3 : Int32) ([(.long 0), (.long 0), (.long 0)]) (.long 0) := ((((V63.other W87 (Ne.symm ne64)).other W107 (Ne.symm ne76)).other W112 (Ne.symm ne78)).other W117 (Ne.symm ne80))
  obtain ⟨cl128, Ar128, qc128, Sz128, Nn128, Ha128, Gg128⟩ := (id f127)
  have hin128 : ¬ ((0 : Int32) < 0 ∨ cl128.slots.size ≤ ((0 : Int32)).toNatClampNeg) := inb_of Sz128 ⟨by decide, by decide⟩
  obtain ⟨T128, h128, X128, e128, W128, st128⟩ := stJ X120 hx hZ e120 Ar128 (j := (0 : Int32)) hin128 (g := (mkF m 162 #[(vr pa1), (vr pa2), (vi 3), (vi 1), (vi 0), (vi 0), (vr pa8), .val (.long ((pi11.toInt64) - (pi12.toInt64))), .second, (vi pi3)] [(.long (maskV pi3)), (.int 0), (.ref b63)])) rfl rfl (hb hby d16_162)
  have O129 : Old Z n0 h128 := O118.wr W128 g82
  have K129 : Keep h0 h128 [pa1] := K118.wr W128 (Or.inr sz83)
  have V128 : Arv Z h128 b63 k63 .long (3 : Int32) ([(.long (maskV pi3)), (.long 0), (.long 0)]) (.long 0) := (Arv.set Ar128 qc128 Sz128 Nn128 Ha128 Gg128 (v := (.long (maskV pi3))) rfl W128 0 rfl (Nat.le_of_ble_eq_true rfl))
  have N128 := Fr.snoc X128 N117 g82
  have f130 : Exa Z h128 pa2 s2n := ((((f89.wr W107).wr W112).wr W117).wr W128)
  have f131 : Fld Z h128 pa2 s2n "elementData" s3n (.ref pa6) := ((((f90.other W107 (Or.inl ne5)).other W112 (Or.inl ne20)).other W117 (Or.inl ne42)).other W128 (Or.inl ne66))
  have f132 : Fld Z h128 pa2 s2n "size" "I" (.int 3) := ((((f91.other W107 (Or.inl ne5)).other W112 (Or.inl ne20)).other W117 (Or.inl ne42)).other W128 (Or.inl ne66))
  have f133 : Arv Z h128 pa6 pk7 (.object s4n) (10 : Int32) ([(.ref pa8), (.ref pa9), (.ref pa10), .null, .null, .null, .null, .null, .null, .null]) .null := ((((f92.other W107 ne6).other W112 ne22).other W117 ne44).other W128 ne68)
  obtain ⟨cq134, kq134, q134a, q134b, q134c⟩ := isOf hZ e128 f130
  obtain ⟨_, _, ⟨T134, L134, k134, n134⟩, -, X134, ⟨Lc134, hQ134, l134, y134, z134⟩, st134⟩ := X128.interfaceBack hx (xi := M26) (y := M21) hown (mvT hZ (ow hw 138 rfl)) (mvT hZ (ow hw 139 rfl)) (mvT hZ (ow hw 140 rfl)) (mvT hZ (ow hw 141 rfl)) (mvT hZ (ow hw 142 rfl)) (mvT hZ (ow hw 143 rfl)) (mvT hZ (ow hw 144 rfl)) (mvT hZ (ow hw 84 rfl)) (by decide) (backOf (W := 0) (au18_1 l Z a0 hw [] wINTEGER wDOUBLE wBOOLEAN wD kwD hS pa2 pa6 pk7 pa8 pa9 pa10 h128 n0 O129 f130 f131 f132 f133) hZ (ow hw 145 rfl) (ow hw 15 rfl) (by decide) (by decide)) q134a q134b q134c (g := (mkF m 56 #[(vr pa1), (vr pa2), (vi 3), (vi 1), .val (.int ((0 : Int32) + pi3)), (vi 1), (vr pa8), .val (.long ((pi11.toInt64) - (pi12.toInt64))), .second, (vi pi3)] [(.int 1), (.ref pa2)])) rfl (by rw [hml]; rfl) (Steps.refl _) (argsL := [(.int 1)]) (rest := []) (lenOf pd_14 rfl) rfl (by show 2 * 0 + _ ≤ _; exact Nat.le_of_eq rfl) (hb hby d16_56) (fun _ _ => ⟨rfl, e128, (by decide : 4 + 0 ≤ _), (by decide : 12 + 0 ≤ _)⟩)
  dsimp only [Pt.U, Pt.locs, Pt.cells, Pt.slots] at X134 l134 y134 z134 st134 hQ134
  subst y134 z134
  obtain ⟨rfl, Nq134, K134q⟩ := hQ134
  have N134 : Fr n0 L134 := (congrArg (Fr n0) l134).mpr (Fr.app N128 Nq134)
  have f135 : Exa Z h128 pa9 s5n := ((((((f73.ext E63).wr W87).wr W107).wr W112).wr W117).wr W128)
  obtain ⟨T136, X136, e136, st136⟩ := castY X134 hx hZ hown (ow hw 159 rfl) K134q (Ins.self f135) (g := (mkF m 61 #[(vr pa1), (vr pa2), (vi 3), (vi 1), .val (.int ((0 : Int32) + pi3)), (vi 1), (vr pa8), .val (.long ((pi11.toInt64) - (pi12.toInt64))), .second, (vi pi3)] [(.ref pa9)])) rfl rfl (hb hby d16_61)
  have f137 : Fld Z h128 pa9 s5n "high" "I" (.int pi15) := ((((((((((((P19.ext E3).other W15 (Or.inl (Ne.symm P47))).ext E17).other W37 (Or.inl (Ne.symm P47))).ext E39).other W61 (Or.inl (Ne.symm P47))).ext E63).other W87 (Or.inl (Ne.symm P47))).other W107 (Or.inl ne8)).other W112 (Or.inl ne26)).other W117 (Or.inl ne48)).other W128 (Or.inl ne72))
  obtain ⟨cq138, kq138, q138a, q138b, q138c⟩ := isOf hZ e136 f135
  obtain ⟨_, _, ⟨T138, L138, k138, n138⟩, -, X138, ⟨Lc138, hQ138, l138, y138, z138⟩, st138⟩ := X136.virtualBack hx (y := M22) (z := M22) hown (mvT hZ (ow hw 161 rfl)) (mvT hZ (ow hw 162 rfl)) (notFace_of_selects (args := #[]) (mvT hZ (ow hw 164 rfl))) (mvT hZ (ow hw 164 rfl)) (mvT hZ (ow hw 163 rfl)) (by decide) (backOf (W := 0) (au22_0 l Z a0 hw [] wINTEGER wDOUBLE wBOOLEAN wD kwD hS pa9 pi15 h128 n0 O129 f137) hZ (ow hw 165 rfl) (ow hw 52 rfl) (by decide) (by decide)) q138a q138c (g := (mkF m 68 #[(vr pa1), (vr pa2), (vi 3), (vi 1), .val (.int ((0 : Int32) + pi3)), (vi 1), (vr pa9), .val (.long ((pi11.toInt64) - (pi12.toInt64))), .second, (vi pi3)] [(.ref pa9)])) rfl (by rw [hml]; rfl) (Steps.refl _) (argsL := []) (rest := []) (lenOf pd_12 rfl) rfl (by show 2 * 0 + _ ≤ _; exact Nat.le_of_eq rfl) (hb hby d16_68) (fun _ _ => ⟨rfl, e136, (by decide : 4 + 0 ≤ _), (by decide : 12 + 0 ≤ _)⟩)
  dsimp only [Pt.U, Pt.locs, Pt.cells, Pt.slots] at X138 l138 y138 z138 st138 hQ138
  subst y138 z138
  obtain ⟨rfl, Nq138, K138q⟩ := hQ138
  have N138 : Fr n0 L138 := (congrArg (Fr n0) l138).mpr (Fr.app N134 Nq138)
  have f139 : Fld Z h128 pa9 s5n "low" "I" (.int pi16) := ((((((((((((P20.ext E3).other W15 (Or.inl (Ne.symm P47))).ext E17).other W37 (Or.inl (Ne.symm P47))).ext E39).other W61 (Or.inl (Ne.symm P47))).ext E63).other W87 (Or.inl (Ne.symm P47))).other W107 (Or.inl ne8)).other W112 (Or.inl ne26)).other W117 (Or.inl ne48)).other W128 (Or.inl ne72))
  obtain ⟨cq140, kq140, q140a, q140b, q140c⟩ := isOf hZ K138q f135
  obtain ⟨_, _, ⟨T140, L140, k140, n140⟩, -, X140, ⟨Lc140, hQ140, l140, y140, z140⟩, st140⟩ := X138.virtualBack hx (y := M23) (z := M23) hown (mvT hZ (ow hw 166 rfl)) (mvT hZ (ow hw 167 rfl)) (notFace_of_selects (args := #[]) (mvT hZ (ow hw 169 rfl))) (mvT hZ (ow hw 169 rfl)) (mvT hZ (ow hw 168 rfl)) (by decide) (backOf (W := 2) (au23_0 l Z a0 hw [] wINTEGER wDOUBLE wBOOLEAN wD kwD hS pa9 pi16 h128 n0 O129 f139) hZ (ow hw 170 rfl) (ow hw 52 rfl) (by decide) (by decide)) q140a q140c (g := (mkF m 74 #[(vr pa1), (vr pa2), (vi 3), (vi 1), .val (.int ((0 : Int32) + pi3)), (vi 1), (vr pa9), .val (.long ((pi11.toInt64) - (pi12.toInt64))), .second, (vi pi3)] [(.ref pa9), (.long (pi15.toInt64))])) rfl (by rw [hml]; rfl) (Steps.refl _) (argsL := []) (rest := [(.long (pi15.toInt64))]) (lenOf pd_12 rfl) rfl (by show 2 * 0 + _ ≤ _; exact Nat.le_of_eq rfl) (hb hby d16_74) (fun _ _ => ⟨rfl, K138q, (by decide : 4 + 0 ≤ _), (by decide : 12 + 0 ≤ _)⟩)
  dsimp only [Pt.U, Pt.locs, Pt.cells, Pt.slots] at X140 l140 y140 z140 st140 hQ140
  subst y140 z140
  obtain ⟨rfl, Nq140, K140q⟩ := hQ140
  have N140 : Fr n0 L140 := (congrArg (Fr n0) l140).mpr (Fr.app N138 Nq140)
  obtain ⟨_, _, ⟨T141, L141, k141, n141⟩, -, X141, ⟨Lc141, hQ141, l141, y141, z141⟩, st141⟩ := Jvm.LawKit.callS X140 hx (y := M5) hown (mvT hZ (ow hw 171 rfl)) (mvT hZ (ow hw 172 rfl)) (mvT hZ (ow hw 173 rfl)) (mvT hZ (ow hw 174 rfl)) (by decide) (backOf (W := 1) (rmNlz64 l Z a0 hw [] wINTEGER wDOUBLE wBOOLEAN wD kwD hS ((pi15.toInt64) - (pi16.toInt64)) h128 n0 O129 ) hZ (ow hw 174 rfl) (ow hw 173 rfl) (by decide) (by decide)) (g := (mkF m 85 #[(vr pa1), (vr pa2), (vi 3), (vi 1), .val (.int ((0 : Int32) + pi3)), (vi 1), (vr pa9), .val (.long ((pi15.toInt64) - (pi16.toInt64))), .second, (vi pi3)] [(.long ((pi15.toInt64) - (pi16.toInt64))), (.int 64)])) rfl (by rw [hml]; rfl) (argsL := [(.long ((pi15.toInt64) - (pi16.toInt64)))]) (rest := [(.int 64)]) (lenOf pd_15 rfl) rfl (by show 2 * 0 + _ ≤ _; exact Nat.le_of_eq rfl) (hb hby d16_85) (fun _ _ => ⟨rfl, K140q, (by decide : 4 + 0 ≤ _), (by decide : 12 + 0 ≤ _)⟩)
  dsimp only [Pt.U, Pt.locs, Pt.cells, Pt.slots] at X141 l141 y141 z141 st141 hQ141
  subst y141 z141
  obtain ⟨r_141, rfl, Nq141, K141q, p141_0⟩ := hQ141
  have N141 : Fr n0 L141 := (congrArg (Fr n0) l141).mpr (Fr.app N140 Nq141)
  have hb142 : ((64 : Int32) - r_141) = pi4 := by rw [p141_0]; exact P30
  have pre143 : ∀ t, Steps p.tables e below (T141.setTop (mkF m 89 #[(vr pa1), (vr pa2), (vi 3), (vi 1), .val (.int ((0 : Int32) + pi3)), (vi 1), (vr pa9), .val (.long ((pi15.toInt64) - (pi16.toInt64))), .second, (vi pi3)] [(.int pi4)])) t → Steps p.tables e below (s₁.setTop (entryFrame m #[(.ref pa1), (.ref pa2)] 10)) t := by
    intro t k
    refine pre126 t ?_
    show Steps p.tables e below (T120.setTop (mkF m 162 #[(vr pa1), (vr pa2), (vi 3), (vi 1), (vi 0), (vi 0), (vr pa8), .val (.long ((pi11.toInt64) - (pi12.toInt64))), .second, (vi pi3)] [(.long (maskV pi3)), (.int 0), (.ref b63)])) _
    refine st128 _ ?_
    refine XS.iload X128.here hx rfl (hb hby d16_163) rfl ?_
    refine XS.iload X128.here hx rfl (hb hby d16_165) rfl ?_
    refine XS.iadd X128.here hx rfl (hb hby d16_167) rfl ?_
    refine XS.istore X128.here hx rfl (hb hby d16_168) rfl (l' := #[(vr pa1), (vr pa2), (vi 3), (vi 1), .val (.int ((0 : Int32) + pi3)), (vi 0), (vr pa8), .val (.long ((pi11.toInt64) - (pi12.toInt64))), .second, (vi pi3)]) rfl ?_
    refine XS.iinc X128.here hx rfl (hb hby d16_170) rfl (l' := #[(vr pa1), (vr pa2), (vi 3), (vi 1), .val (.int ((0 : Int32) + pi3)), (vi 1), (vr pa8), .val (.long ((pi11.toInt64) - (pi12.toInt64))), .second, (vi pi3)]) rfl ?_
    refine XS.goto X128.here hx rfl (pc0 := 173) (pc' := 47) rfl (hb hby d16_173) (by decide) (by decide) ?_
    refine XS.iload X128.here hx rfl (hb hby d16_47) rfl ?_
    refine XS.iloadN X128.here hx rfl (hb hby d16_49) rfl ?_
    refine XS.icmpNo X128.here hx rfl (hb hby d16_50) rfl (tlt (by decide : (1 : Int32) < (3 : Int32))).2.1 ?_
    refine XS.aloadN X128.here hx rfl (hb hby d16_53) rfl rfl ?_
    refine XS.iload X128.here hx rfl (hb hby d16_54) rfl ?_
    refine st134.trans ?_
    refine st136 _ ?_
    show Steps p.tables e below (T136.setTop (mkF m 64 #[(vr pa1), (vr pa2), (vi 3), (vi 1), .val (.int ((0 : Int32) + pi3)), (vi 1), (vr pa8), .val (.long ((pi11.toInt64) - (pi12.toInt64))), .second, (vi pi3)] [(.ref pa9)])) _
    refine XS.astore X136.here hx rfl (hb hby d16_64) rfl rfl (l' := #[(vr pa1), (vr pa2), (vi 3), (vi 1), .val (.int ((0 : Int32) + pi3)), (vi 1), (vr pa9), .val (.long ((pi11.toInt64) - (pi12.toInt64))), .second, (vi pi3)]) rfl ?_
    refine XS.aload X136.here hx rfl (hb hby d16_66) rfl rfl ?_
    refine st138.trans ?_
    refine XS.i2l X138.here hx rfl (hb hby d16_71) rfl ?_
    refine XS.aload X138.here hx rfl (hb hby d16_72) rfl rfl ?_
    refine st140.trans ?_
    refine XS.i2l X140.here hx rfl (hb hby d16_77) rfl ?_
    refine XS.lsub X140.here hx rfl (hb hby d16_78) rfl ?_
    refine XS.lstore X140.here hx rfl (hb hby d16_79) rfl (l' := #[(vr pa1), (vr pa2), (vi 3), (vi 1), .val (.int ((0 : Int32) + pi3)), (vi 1), (vr pa9), .val (.long ((pi15.toInt64) - (pi16.toInt64))), .second, (vi pi3)]) rfl ?_
    refine XS.bipush X140.here hx rfl (hb hby d16_81) ?_
    refine XS.lload X140.here hx rfl (hb hby d16_83) rfl ?_
    refine st141 _ ?_
    refine XS.isub X141.here hx rfl (hb hby d16_88) rfl ?_
    rw [hb142]
    exact k
  have f144 : Fld Z h128 pa1 s9n "low" "[I" (.ref b3) := ((((f103.other W107 (Or.inl ne4)).other W112 (Or.inl ne18)).other W117 (Or.inl ne40)).other W128 (Or.inl ne64))
  obtain ⟨T145, X145, e145, st145⟩ := getF X141 hx hZ hown (host := "") (Or.inl (ow hw 129 rfl)) Via.refl K141q f144 (g := (mkF m 108 #[(vr pa1), (vr pa2), (vi 3), (vi 1), .val (.int ((0 : Int32) + pi3)), (vi 1), (vr pa9), .val (.long ((pi15.toInt64) - (pi16.toInt64))), .second, (vi pi4)] [(.ref pa1)])) rfl rfl (hb hby d16_108)
  obtain ⟨cq146, kq146, q146a, q146b, q146c⟩ := isOf hZ e145 f135
  obtain ⟨_, _, ⟨T146, L146, k146, n146⟩, -, X146, ⟨Lc146, hQ146, l146, y146, z146⟩, st146⟩ := X145.virtualBack hx (y := M23) (z := M23) hown (mvT hZ (ow hw 166 rfl)) (mvT hZ (ow hw 167 rfl)) (notFace_of_selects (args := #[]) (mvT hZ (ow hw 169 rfl))) (mvT hZ (ow hw 169 rfl)) (mvT hZ (ow hw 168 rfl)) (by decide) (backOf (W := 2) (au23_0 l Z a0 hw [] wINTEGER wDOUBLE wBOOLEAN wD kwD hS pa9 pi16 h128 n0 O129 f139) hZ (ow hw 170 rfl) (ow hw 52 rfl) (by decide) (by decide)) q146a q146c (g := (mkF m 115 #[(vr pa1), (vr pa2), (vi 3), (vi 1), .val (.int ((0 : Int32) + pi3)), (vi 1), (vr pa9), .val (.long ((pi15.toInt64) - (pi16.toInt64))), .second, (vi pi4)] [(.ref pa9), (.int 1), (.ref b3)])) rfl (by rw [hml]; rfl) (Steps.refl _) (argsL := []) (rest := [(.int 1), (.ref b3)]) (lenOf pd_12 rfl) rfl (by show 2 * 0 + _ ≤ _; exact Nat.le_of_eq rfl) (hb hby d16_115) (fun _ _ => ⟨rfl, e145, (by decide : 4 + 0 ≤ _), (by decide : 12 + 0 ≤ _)⟩)
  dsimp only [Pt.U, Pt.locs, Pt.cells, Pt.slots] at X146 l146 y146 z146 st146 hQ146
  subst y146 z146
  obtain ⟨rfl, Nq146, K146q⟩ := hQ146
  have N146 : Fr n0 L146 := (congrArg (Fr n0) l146).mpr (Fr.app N141 Nq146)
  have f147 : Arv Z h128 b3 k3 .int (3 : Int32) ([(.int pi12), (.int 0), (.int 0)]) (.int 0) := (((V107.other W112 ne30).other W117 ne52).other W128 ne76)
  obtain ⟨cl148, Ar148, qc148, Sz148, Nn148, Ha148, Gg148⟩ := (id f147)
  have hin148 : ¬ ((1 : Int32) < 0 ∨ cl148.slots.size ≤ ((1 : Int32)).toNatClampNeg) := inb_of Sz148 ⟨by decide, by decide⟩
  obtain ⟨T148, h148, X148, e148, W148, st148⟩ := stI X146 hx hZ K146q Ar148 (j := (1 : Int32)) hin148 (g := (mkF m 118 #[(vr pa1), (vr pa2), (vi 3), (vi 1), .val (.int ((0 : Int32) + pi3)), (vi 1), (vr pa9), .val (.long ((pi15.toInt64) - (pi16.toInt64))), .second, (vi pi4)] [(.int pi16), (.int 1), (.ref b3)])) rfl rfl (hb hby d16_118)
  have O149 : Old Z n0 h148 := O129.wr W148 g10
  have K149 : Keep h0 h148 [pa1] := K129.wr W148 (Or.inr sz11)
  have V148 : Arv Z h148 b3 k3 .int (3 : Int32) ([(.int pi12), (.int pi16), (.int 0)]) (.int 0) := (Arv.set Ar148 qc148 Sz148 Nn148 Ha148 Gg148 (v := (.int pi16)) rfl W148 1 rfl (Nat.le_of_ble_eq_true rfl))
  have N148 := Fr.snoc X148 N146 g10
  have f150 : Fld Z h148 pa1 s9n "word" "[I" (.ref b17) := ((((f109.other W112 (Or.inl ne18)).other W117 (Or.inl ne40)).other W128 (Or.inl ne64)).other W148 (Or.inl ne4))
  obtain ⟨T151, X151, e151, st151⟩ := getF X148 hx hZ hown (host := "") (Or.inl (ow hw 131 rfl)) Via.refl e148 f150 (g := (mkF m 120 #[(vr pa1), (vr pa2), (vi 3), (vi 1), .val (.int ((0 : Int32) + pi3)), (vi 1), (vr pa9), .val (.long ((pi15.toInt64) - (pi16.toInt64))), .second, (vi pi4)] [(.ref pa1)])) rfl rfl (hb hby d16_120)
  have f152 : Arv Z h148 b17 k17 .int (3 : Int32) ([(.int 0), (.int 0), (.int 0)]) (.int 0) := (((V112.other W117 ne54).other W128 ne78).other W148 (Ne.symm ne30))
  obtain ⟨cl153, Ar153, qc153, Sz153, Nn153, Ha153, Gg153⟩ := (id f152)
  have hin153 : ¬ ((1 : Int32) < 0 ∨ cl153.slots.size ≤ ((1 : Int32)).toNatClampNeg) := inb_of Sz153 ⟨by decide, by decide⟩
  obtain ⟨T153, h153, X153, e153, W153, st153⟩ := stI X151 hx hZ e151 Ar153 (j := (1 : Int32)) hin153 (g := (mkF m 128 #[(vr pa1), (vr pa2), (vi 3), (vi 1), .val (.int ((0 : Int32) + pi3)), (vi 1), (vr pa9), .val (.long ((pi15.toInt64) - (pi16.toInt64))), .second, (vi pi4)] [(.int 0), (.int 1), (.ref b17)])) rfl rfl (hb hby d16_128)
  have O154 : Old Z n0 h153 := O149.wr W153 g32
  have K154 : Keep h0 h153 [pa1] := K149.wr W153 (Or.inr sz33)
  have V153 : Arv Z h153 b17 k17 .int (3 : Int32) ([(.int 0), (.int 0), (.int 0)]) (.int 0) := (Arv.set Ar153 qc153 Sz153 Nn153 Ha153 Gg153 (v := (.int 0)) rfl W153 1 rfl (Nat.le_of_ble_eq_true rfl))
  have N153 := Fr.snoc X153 N148 g32
  have f155 : Fld Z h153 pa1 s9n "shift" "[I" (.ref b39) := ((((f114.other W117 (Or.inl ne40)).other W128 (Or.inl ne64)).other W148 (Or.inl ne4)).other W153 (Or.inl ne18))
  obtain ⟨T156, X156, e156, st156⟩ := getF X153 hx hZ hown (host := "") (Or.inl (ow hw 133 rfl)) Via.refl e153 f155 (g := (mkF m 130 #[(vr pa1), (vr pa2), (vi 3), (vi 1), .val (.int ((0 : Int32) + pi3)), (vi 1), (vr pa9), .val (.long ((pi15.toInt64) - (pi16.toInt64))), .second, (vi pi4)] [(.ref pa1)])) rfl rfl (hb hby d16_130)
  have f157 : Arv Z h153 b39 k39 .int (3 : Int32) ([(.int 0), (.int 0), (.int 0)]) (.int 0) := (((V117.other W128 ne80).other W148 (Ne.symm ne52)).other W153 (Ne.symm ne54))
  obtain ⟨cl158, Ar158, qc158, Sz158, Nn158, Ha158, Gg158⟩ := (id f157)
  have hin158 : ¬ ((1 : Int32) < 0 ∨ cl158.slots.size ≤ ((1 : Int32)).toNatClampNeg) := inb_of Sz158 ⟨by decide, by decide⟩
  obtain ⟨T158, h158, X158, e158, W158, st158⟩ := stI X156 hx hZ e156 Ar158 (j := (1 : Int32)) hin158 (g := (mkF m 137 #[(vr pa1), (vr pa2), (vi 3), (vi 1), .val (.int ((0 : Int32) + pi3)), (vi 1), (vr pa9), .val (.long ((pi15.toInt64) - (pi16.toInt64))), .second, (vi pi4)] [(.int ((0 : Int32) + pi3)), (.int 1), (.ref b39)])) rfl rfl (hb hby d16_137)
  have O159 : Old Z n0 h158 := O154.wr W158 g56
  have K159 : Keep h0 h158 [pa1] := K154.wr W158 (Or.inr sz57)
  have V158 : Arv Z h158 b39 k39 .int (3 : Int32) ([(.int 0), (.int ((0 : Int32) + pi3)), (.int 0)]) (.int 0) := (Arv.set Ar158 qc158 Sz158 Nn158 Ha158 Gg158 (v := (.int ((0 : Int32) + pi3))) rfl W158 1 rfl (Nat.le_of_ble_eq_true rfl))
  have N158 := Fr.snoc X158 N153 g56
  have f160 : Fld Z h158 pa1 s9n "mask" "[J" (.ref b63) := ((((f119.other W128 (Or.inl ne64)).other W148 (Or.inl ne4)).other W153 (Or.inl ne18)).other W158 (Or.inl ne40))
  obtain ⟨T161, X161, e161, st161⟩ := getF X158 hx hZ hown (host := "") (Or.inl (ow hw 136 rfl)) Via.refl e158 f160 (g := (mkF m 139 #[(vr pa1), (vr pa2), (vi 3), (vi 1), .val (.int ((0 : Int32) + pi3)), (vi 1), (vr pa9), .val (.long ((pi15.toInt64) - (pi16.toInt64))), .second, (vi pi4)] [(.ref pa1)])) rfl rfl (hb hby d16_139)
  have pre162 : ∀ t, Steps p.tables e below (T161.setTop (mkF m 146 #[(vr pa1), (vr pa2), (vi 3), (vi 1), .val (.int ((0 : Int32) + pi3)), (vi 1), (vr pa9), .val (.long ((pi15.toInt64) - (pi16.toInt64))), .second, (vi pi4)] [(.int pi4), (.int 1), (.ref b63)])) t → Steps p.tables e below (s₁.setTop (entryFrame m #[(.ref pa1), (.ref pa2)] 10)) t := by
    intro t k
    refine pre143 t ?_
    show Steps p.tables e below (T141.setTop (mkF m 89 #[(vr pa1), (vr pa2), (vi 3), (vi 1), .val (.int ((0 : Int32) + pi3)), (vi 1), (vr pa9), .val (.long ((pi15.toInt64) - (pi16.toInt64))), .second, (vi pi3)] [(.int pi4)])) _
    refine XS.istore X141.here hx rfl (hb hby d16_89) rfl (l' := #[(vr pa1), (vr pa2), (vi 3), (vi 1), .val (.int ((0 : Int32) + pi3)), (vi 1), (vr pa9), .val (.long ((pi15.toInt64) - (pi16.toInt64))), .second, (vi pi4)]) rfl ?_
    refine XS.iload X141.here hx rfl (hb hby d16_91) rfl ?_
    refine XS.iload X141.here hx rfl (hb hby d16_93) rfl ?_
    refine XS.iadd X141.here hx rfl (hb hby d16_95) rfl ?_
    refine XS.bipush X141.here hx rfl (hb hby d16_96) ?_
    refine XS.icmpYes X141.here hx rfl (pc0 := 98) (pc' := 107) rfl (hb hby d16_98) rfl (flt (P35 : ¬ ((64 : Int32) < (((0 : Int32) + pi3) + pi4)))).2.2.2 (by decide) (by decide) ?_
    refine XS.aloadN X141.here hx rfl (hb hby d16_107) rfl rfl ?_
    refine st145 _ ?_
    refine XS.iload X145.here hx rfl (hb hby d16_111) rfl ?_
    refine XS.aload X145.here hx rfl (hb hby d16_113) rfl rfl ?_
    refine st146.trans ?_
    refine st148 _ ?_
    refine XS.aloadN X148.here hx rfl (hb hby d16_119) rfl rfl ?_
    refine st151 _ ?_
    show Steps p.tables e below (T151.setTop (mkF m 123 #[(vr pa1), (vr pa2), (vi 3), (vi 1), .val (.int ((0 : Int32) + pi3)), (vi 1), (vr pa9), .val (.long ((pi15.toInt64) - (pi16.toInt64))), .second, (vi pi4)] [(.ref b17)])) _
    refine XS.iload X151.here hx rfl (hb hby d16_123) rfl ?_
    refine XS.iloadN X151.here hx rfl (hb hby d16_125) rfl ?_
    refine XS.iconst X151.here hx rfl (hb hby d16_126) ?_
    refine XS.isub X151.here hx rfl (hb hby d16_127) rfl ?_
    refine st153 _ ?_
    refine XS.aloadN X153.here hx rfl (hb hby d16_129) rfl rfl ?_
    refine st156 _ ?_
    refine XS.iload X156.here hx rfl (hb hby d16_133) rfl ?_
    refine XS.iload X156.here hx rfl (hb hby d16_135) rfl ?_
    refine st158 _ ?_
    refine XS.aloadN X158.here hx rfl (hb hby d16_138) rfl rfl ?_
    refine st161 _ ?_
    refine XS.iload X161.here hx rfl (hb hby d16_142) rfl ?_
    refine XS.iload X161.here hx rfl (hb hby d16_144) rfl ?_
    exact k
  obtain ⟨y164, hy164⟩ : ∃ z : Int64, z = (if pi4 = (0 : Int32) then (0 : Int64) else (((-1 : Int64).toUInt64 >>> (((64 : Int32) - pi4) &&& 0x3f).toInt64.toUInt64).toInt64)) := ⟨_, rfl⟩
  have pre165 : ∀ t, Steps p.tables e below (T161.setTop (mkF m 162 #[(vr pa1), (vr pa2), (vi 3), (vi 1), .val (.int ((0 : Int32) + pi3)), (vi 1), (vr pa9), .val (.long ((pi15.toInt64) - (pi16.toInt64))), .second, (vi pi4)] [(.long y164), (.int 1), (.ref b63)])) t → Steps p.tables e below (s₁.setTop (entryFrame m #[(.ref pa1), (.ref pa2)] 10)) t := by
    intro t k
    rw [hy164] at k
    refine pre162 t ?_
    show Steps p.tables e below (T161.setTop (mkF m 146 #[(vr pa1), (vr pa2), (vi 3), (vi 1), .val (.int ((0 : Int32) + pi3)), (vi 1), (vr pa9), .val (.long ((pi15.toInt64) - (pi16.toInt64))), .second, (vi pi4)] [(.int pi4), (.int 1), (.ref b63)])) _
    rcases Decidable.em (pi4 = (0 : Int32)) with hm163 | hm163
    · first | simp only [if_pos hm163] at k | skip
      refine XS.ifNo X161.here hx rfl (hb hby d16_146) rfl ((if0 _ _).trans (teq hm163).2) ?_
      refine XS.lconst X161.here hx rfl (hb hby d16_149) ?_
      refine XS.goto X161.here hx rfl (pc0 := 150) (pc' := 162) rfl (hb hby d16_150) (by decide) (by decide) ?_
      exact k
    · first | simp only [if_neg hm163] at k | skip
      refine XS.ifYes X161.here hx rfl (pc0 := 146) (pc' := 153) rfl (hb hby d16_146) rfl ((if0 _ _).trans (feq hm163).2) (by decide) (by decide) ?_
      refine X161.ldc2Long hx hown (mvT hZ (ow hw 180 rfl)) (g := (mkF m 153 #[(vr pa1), (vr pa2), (vi 3), (vi 1), .val (.int ((0 : Int32) + pi3)), (vi 1), (vr pa9), .val (.long ((pi15.toInt64) - (pi16.toInt64))), .second, (vi pi4)] [(.int 1), (.ref b63)])) rfl (hb hby d16_153) _ ?_
      refine XS.bipush X161.here hx rfl (hb hby d16_156) ?_
      refine XS.iload X161.here hx rfl (hb hby d16_158) rfl ?_
      refine XS.isub X161.here hx rfl (hb hby d16_160) rfl ?_
      refine XS.lushr X161.here hx rfl (hb hby d16_161) rfl ?_
      exact k
  have hm166 : y164 = maskV pi4 := hy164
  have pre167 : ∀ t, Steps p.tables e below (T161.setTop (mkF m 162 #[(vr pa1), (vr pa2), (vi 3), (vi 1), .val (.int ((0 : Int32) + pi3)), (vi 1), (vr pa9), .val (.long ((pi15.toInt64) - (pi16.toInt64))), .second, (vi pi4)] [(.long (maskV pi4)), (.int 1), (.ref b63)])) t → Steps p.tables e below (s₁.setTop (entryFrame m #[(.ref pa1), (.ref pa2)] 10)) t := by
    intro t k
    refine pre165 t ?_
    rw [hm166]
    exact k
  have f168 : Arv Z h158 b63 k63 .long (3 : Int32) ([(.long (maskV pi3)), (.long 0), (.long 0)]) (.long 0) := (((V128.other W148 (Ne.symm ne76)).other W153 (Ne.symm ne78)).other W158 (Ne.symm ne80))
  obtain ⟨cl169, Ar169, qc169, Sz169, Nn169, Ha169, Gg169⟩ := (id f168)
  have hin169 : ¬ ((1 : Int32) < 0 ∨ cl169.slots.size ≤ ((1 : Int32)).toNatClampNeg) := inb_of Sz169 ⟨by decide, by decide⟩
  obtain ⟨T169, h169, X169, e169, W169, st169⟩ := stJ X161 hx hZ e161 Ar169 (j := (1 : Int32)) hin169 (g := (mkF m 162 #[(vr pa1), (vr pa2), (vi 3), (vi 1), .val (.int ((0 : Int32) + pi3)), (vi 1), (vr pa9), .val (.long ((pi15.toInt64) - (pi16.toInt64))), .second, (vi pi4)] [(.long (maskV pi4)), (.int 1), (.ref b63)])) rfl rfl (hb hby d16_162)
  have O170 : Old Z n0 h169 := O159.wr W169 g82
  have K170 : Keep h0 h169 [pa1] := K159.wr W169 (Or.inr sz83)
  have V169 : Arv Z h169 b63 k63 .long (3 : Int32) ([(.long (maskV pi3)), (.long (maskV pi4)), (.long 0)]) (.long 0) := (Arv.set Ar169 qc169 Sz169 Nn169 Ha169 Gg169 (v := (.long (maskV pi4))) rfl W169 1 rfl (Nat.le_of_ble_eq_true rfl))
  have N169 := Fr.snoc X169 N158 g82
  have f171 : Exa Z h169 pa2 s2n := ((((f130.wr W148).wr W153).wr W158).wr W169)
  have f172 : Fld Z h169 pa2 s2n "elementData" s3n (.ref pa6) := ((((f131.other W148 (Or.inl ne5)).other W153 (Or.inl ne20)).other W158 (Or.inl ne42)).other W169 (Or.inl ne66))
  have f173 : Fld Z h169 pa2 s2n "size" "I" (.int 3) := ((((f132.other W148 (Or.inl ne5)).other W153 (Or.inl ne20)).other W158 (Or.inl ne42)).other W169 (Or.inl ne66))
  have f174 : Arv Z h169 pa6 pk7 (.object s4n) (10 : Int32) ([(.ref pa8), (.ref pa9), (.ref pa10), .null, .null, .null, .null, .null, .null, .null]) .null := ((((f133.other W148 ne6).other W153 ne22).other W158 ne44).other W169 ne68)
  obtain ⟨cq175, kq175, q175a, q175b, q175c⟩ := isOf hZ e169 f171
  obtain ⟨_, _, ⟨T175, L175, k175, n175⟩, -, X175, ⟨Lc175, hQ175, l175, y175, z175⟩, st175⟩ := X169.interfaceBack hx (xi := M26) (y := M21) hown (mvT hZ (ow hw 138 rfl)) (mvT hZ (ow hw 139 rfl)) (mvT hZ (ow hw 140 rfl)) (mvT hZ (ow hw 141 rfl)) (mvT hZ (ow hw 142 rfl)) (mvT hZ (ow hw 143 rfl)) (mvT hZ (ow hw 144 rfl)) (mvT hZ (ow hw 84 rfl)) (by decide) (backOf (W := 0) (au18_2 l Z a0 hw [] wINTEGER wDOUBLE wBOOLEAN wD kwD hS pa2 pa6 pk7 pa8 pa9 pa10 h169 n0 O170 f171 f172 f173 f174) hZ (ow hw 145 rfl) (ow hw 15 rfl) (by decide) (by decide)) q175a q175b q175c (g := (mkF m 56 #[(vr pa1), (vr pa2), (vi 3), (vi 1), .val (.int (((0 : Int32) + pi3) + pi4)), (vi 2), (vr pa9), .val (.long ((pi15.toInt64) - (pi16.toInt64))), .second, (vi pi4)] [(.int 2), (.ref pa2)])) rfl (by rw [hml]; rfl) (Steps.refl _) (argsL := [(.int 2)]) (rest := []) (lenOf pd_14 rfl) rfl (by show 2 * 0 + _ ≤ _; exact Nat.le_of_eq rfl) (hb hby d16_56) (fun _ _ => ⟨rfl, e169, (by decide : 4 + 0 ≤ _), (by decide : 12 + 0 ≤ _)⟩)
  dsimp only [Pt.U, Pt.locs, Pt.cells, Pt.slots] at X175 l175 y175 z175 st175 hQ175
  subst y175 z175
  obtain ⟨rfl, Nq175, K175q⟩ := hQ175
  have N175 : Fr n0 L175 := (congrArg (Fr n0) l175).mpr (Fr.app N169 Nq175)
  have f176 : Exa Z h169 pa10 s5n := ((((((((((f75.ext E63).wr W87).wr W107).wr W112).wr W117).wr W128).wr W148).wr W153).wr W158).wr W169)
  obtain ⟨T177, X177, e177, st177⟩ := castY X175 hx hZ hown (ow hw 159 rfl) K175q (Ins.self f176) (g := (mkF m 61 #[(vr pa1), (vr pa2), (vi 3), (vi 1), .val (.int (((0 : Int32) + pi3) + pi4)), (vi 2), (vr pa9), .val (.long ((pi15.toInt64) - (pi16.toInt64))), .second, (vi pi4)] [(.ref pa10)])) rfl rfl (hb hby d16_61)
  have f178 : Fld Z h169 pa10 s5n "high" "I" (.int pi19) := ((((((((((((((((P24.ext E3).other W15 (Or.inl (Ne.symm P48))).ext E17).other W37 (Or.inl (Ne.symm P48))).ext E39).other W61 (Or.inl (Ne.symm P48))).ext E63).other W87 (Or.inl (Ne.symm P48))).other W107 (Or.inl ne9)).other W112 (Or.inl ne28)).other W117 (Or.inl ne50)).other W128 (Or.inl ne74)).other W148 (Or.inl ne9)).other W153 (Or.inl ne28)).other W158 (Or.inl ne50)).other W169 (Or.inl ne74))
  obtain ⟨cq179, kq179, q179a, q179b, q179c⟩ := isOf hZ e177 f176
  obtain ⟨_, _, ⟨T179, L179, k179, n179⟩, -, X179, ⟨Lc179, hQ179, l179, y179, z179⟩, st179⟩ := X177.virtualBack hx (y := M22) (z := M22) hown (mvT hZ (ow hw 161 rfl)) (mvT hZ (ow hw 162 rfl)) (notFace_of_selects (args := #[]) (mvT hZ (ow hw 164 rfl))) (mvT hZ (ow hw 164 rfl)) (mvT hZ (ow hw 163 rfl)) (by decide) (backOf (W := 0) (au22_0 l Z a0 hw [] wINTEGER wDOUBLE wBOOLEAN wD kwD hS pa10 pi19 h169 n0 O170 f178) hZ (ow hw 165 rfl) (ow hw 52 rfl) (by decide) (by decide)) q179a q179c (g := (mkF m 68 #[(vr pa1), (vr pa2), (vi 3), (vi 1), .val (.int (((0 : Int32) + pi3) + pi4)), (vi 2), (vr pa10), .val (.long ((pi15.toInt64) - (pi16.toInt64))), .second, (vi pi4)] [(.ref pa10)])) rfl (by rw [hml]; rfl) (Steps.refl _) (argsL := []) (rest := []) (lenOf pd_12 rfl) rfl (by show 2 * 0 + _ ≤ _; exact Nat.le_of_eq rfl) (hb hby d16_68) (fun _ _ => ⟨rfl, e177, (by decide : 4 + 0 ≤ _), (by decide : 12 + 0 ≤ _)⟩)
  dsimp only [Pt.U, Pt.locs, Pt.cells, Pt.slots] at X179 l179 y179 z179 st179 hQ179
  subst y179 z179
  obtain ⟨rfl, Nq179, K179q⟩ := hQ179
  have N179 : Fr n0 L179 := (congrArg (Fr n0) l179).mpr (Fr.app N175 Nq179)
  have f180 : Fld Z h169 pa10 s5n "low" "I" (.int pi20) := ((((((((((((((((P25.ext E3).other W15 (Or.inl (Ne.symm P48))).ext E17).other W37 (Or.inl (Ne.symm P48))).ext E39).other W61 (Or.inl (Ne.symm P48))).ext E63).other W87 (Or.inl (Ne.symm P48))).other W107 (Or.inl ne9)).other W112 (Or.inl ne28)).other W117 (Or.inl ne50)).other W128 (Or.inl ne74)).other W148 (Or.inl ne9)).other W153 (Or.inl ne28)).other W158 (Or.inl ne50)).other W169 (Or.inl ne74))
  obtain ⟨cq181, kq181, q181a, q181b, q181c⟩ := isOf hZ K179q f176
  obtain ⟨_, _, ⟨T181, L181, k181, n181⟩, -, X181, ⟨Lc181, hQ181, l181, y181, z181⟩, st181⟩ := X179.virtualBack hx (y := M23) (z := M23) hown (mvT hZ (ow hw 166 rfl)) (mvT hZ (ow hw 167 rfl)) (notFace_of_selects (args := #[]) (mvT hZ (ow hw 169 rfl))) (mvT hZ (ow hw 169 rfl)) (mvT hZ (ow hw 168 rfl)) (by decide) (backOf (W := 2) (au23_0 l Z a0 hw [] wINTEGER wDOUBLE wBOOLEAN wD kwD hS pa10 pi20 h169 n0 O170 f180) hZ (ow hw 170 rfl) (ow hw 52 rfl) (by decide) (by decide)) q181a q181c (g := (mkF m 74 #[(vr pa1), (vr pa2), (vi 3), (vi 1), .val (.int (((0 : Int32) + pi3) + pi4)), (vi 2), (vr pa10), .val (.long ((pi15.toInt64) - (pi16.toInt64))), .second, (vi pi4)] [(.ref pa10), (.long (pi19.toInt64))])) rfl (by rw [hml]; rfl) (Steps.refl _) (argsL := []) (rest := [(.long (pi19.toInt64))]) (lenOf pd_12 rfl) rfl (by show 2 * 0 + _ ≤ _; exact Nat.le_of_eq rfl) (hb hby d16_74) (fun _ _ => ⟨rfl, K179q, (by decide : 4 + 0 ≤ _), (by decide : 12 + 0 ≤ _)⟩)
  dsimp only [Pt.U, Pt.locs, Pt.cells, Pt.slots] at X181 l181 y181 z181 st181 hQ181
  subst y181 z181
  obtain ⟨rfl, Nq181, K181q⟩ := hQ181
  have N181 : Fr n0 L181 := (congrArg (Fr n0) l181).mpr (Fr.app N179 Nq181)
  obtain ⟨_, _, ⟨T182, L182, k182, n182⟩, -, X182, ⟨Lc182, hQ182, l182, y182, z182⟩, st182⟩ := Jvm.LawKit.callS X181 hx (y := M5) hown (mvT hZ (ow hw 171 rfl)) (mvT hZ (ow hw 172 rfl)) (mvT hZ (ow hw 173 rfl)) (mvT hZ (ow hw 174 rfl)) (by decide) (backOf (W := 1) (rmNlz64 l Z a0 hw [] wINTEGER wDOUBLE wBOOLEAN wD kwD hS ((pi19.toInt64) - (pi20.toInt64)) h169 n0 O170 ) hZ (ow hw 174 rfl) (ow hw 173 rfl) (by decide) (by decide)) (g := (mkF m 85 #[(vr pa1), (vr pa2), (vi 3), (vi 1), .val (.int (((0 : Int32) + pi3) + pi4)), (vi 2), (vr pa10), .val (.long ((pi19.toInt64) - (pi20.toInt64))), .second, (vi pi4)] [(.long ((pi19.toInt64) - (pi20.toInt64))), (.int 64)])) rfl (by rw [hml]; rfl) (argsL := [(.long ((pi19.toInt64) - (pi20.toInt64)))]) (rest := [(.int 64)]) (lenOf pd_15 rfl) rfl (by show 2 * 0 + _ ≤ _; exact Nat.le_of_eq rfl) (hb hby d16_85) (fun _ _ => ⟨rfl, K181q, (by decide : 4 + 0 ≤ _), (by decide : 12 + 0 ≤ _)⟩)
  dsimp only [Pt.U, Pt.locs, Pt.cells, Pt.slots] at X182 l182 y182 z182 st182 hQ182
  subst y182 z182
  obtain ⟨r_182, rfl, Nq182, K182q, p182_0⟩ := hQ182
  have N182 : Fr n0 L182 := (congrArg (Fr n0) l182).mpr (Fr.app N181 Nq182)
  have hb183 : ((64 : Int32) - r_182) = pi5 := by rw [p182_0]; exact P32
  have pre184 : ∀ t, Steps p.tables e below (T182.setTop (mkF m 89 #[(vr pa1), (vr pa2), (vi 3), (vi 1), .val (.int (((0 : Int32) + pi3) + pi4)), (vi 2), (vr pa10), .val (.long ((pi19.toInt64) - (pi20.toInt64))), .second, (vi pi4)] [(.int pi5)])) t → Steps p.tables e below (s₁.setTop (entryFrame m #[(.ref pa1), (.ref pa2)] 10)) t := by
    intro t k
    refine pre167 t ?_
    show Steps p.tables e below (T161.setTop (mkF m 162 #[(vr pa1), (vr pa2), (vi 3), (vi 1), .val (.int ((0 : Int32) + pi3)), (vi 1), (vr pa9), .val (.long ((pi15.toInt64) - (pi16.toInt64))), .second, (vi pi4)] [(.long (maskV pi4)), (.int 1), (.ref b63)])) _
    refine st169 _ ?_
    refine XS.iload X169.here hx rfl (hb hby d16_163) rfl ?_
    refine XS.iload X169.here hx rfl (hb hby d16_165) rfl ?_
    refine XS.iadd X169.here hx rfl (hb hby d16_167) rfl ?_
    refine XS.istore X169.here hx rfl (hb hby d16_168) rfl (l' := #[(vr pa1), (vr pa2), (vi 3), (vi 1), .val (.int (((0 : Int32) + pi3) + pi4)), (vi 1), (vr pa9), .val (.long ((pi15.toInt64) - (pi16.toInt64))), .second, (vi pi4)]) rfl ?_
    refine XS.iinc X169.here hx rfl (hb hby d16_170) rfl (l' := #[(vr pa1), (vr pa2), (vi 3), (vi 1), .val (.int (((0 : Int32) + pi3) + pi4)), (vi 2), (vr pa9), .val (.long ((pi15.toInt64) - (pi16.toInt64))), .second, (vi pi4)]) rfl ?_
    refine XS.goto X169.here hx rfl (pc0 := 173) (pc' := 47) rfl (hb hby d16_173) (by decide) (by decide) ?_
    refine XS.iload X169.here hx rfl (hb hby d16_47) rfl ?_
    refine XS.iloadN X169.here hx rfl (hb hby d16_49) rfl ?_
    refine XS.icmpNo X169.here hx rfl (hb hby d16_50) rfl (tlt (by decide : (2 : Int32) < (3 : Int32))).2.1 ?_
    refine XS.aloadN X169.here hx rfl (hb hby d16_53) rfl rfl ?_
    refine XS.iload X169.here hx rfl (hb hby d16_54) rfl ?_
    refine st175.trans ?_
    refine st177 _ ?_
    show Steps p.tables e below (T177.setTop (mkF m 64 #[(vr pa1), (vr pa2), (vi 3), (vi 1), .val (.int (((0 : Int32) + pi3) + pi4)), (vi 2), (vr pa9), .val (.long ((pi15.toInt64) - (pi16.toInt64))), .second, (vi pi4)] [(.ref pa10)])) _
    refine XS.astore X177.here hx rfl (hb hby d16_64) rfl rfl (l' := #[(vr pa1), (vr pa2), (vi 3), (vi 1), .val (.int (((0 : Int32) + pi3) + pi4)), (vi 2), (vr pa10), .val (.long ((pi15.toInt64) - (pi16.toInt64))), .second, (vi pi4)]) rfl ?_
    refine XS.aload X177.here hx rfl (hb hby d16_66) rfl rfl ?_
    refine st179.trans ?_
    refine XS.i2l X179.here hx rfl (hb hby d16_71) rfl ?_
    refine XS.aload X179.here hx rfl (hb hby d16_72) rfl rfl ?_
    refine st181.trans ?_
    refine XS.i2l X181.here hx rfl (hb hby d16_77) rfl ?_
    refine XS.lsub X181.here hx rfl (hb hby d16_78) rfl ?_
    refine XS.lstore X181.here hx rfl (hb hby d16_79) rfl (l' := #[(vr pa1), (vr pa2), (vi 3), (vi 1), .val (.int (((0 : Int32) + pi3) + pi4)), (vi 2), (vr pa10), .val (.long ((pi19.toInt64) - (pi20.toInt64))), .second, (vi pi4)]) rfl ?_
    refine XS.bipush X181.here hx rfl (hb hby d16_81) ?_
    refine XS.lload X181.here hx rfl (hb hby d16_83) rfl ?_
    refine st182 _ ?_
    refine XS.isub X182.here hx rfl (hb hby d16_88) rfl ?_
    rw [hb183]
    exact k
  have f185 : Fld Z h169 pa1 s9n "low" "[I" (.ref b3) := ((((f144.other W148 (Or.inl ne4)).other W153 (Or.inl ne18)).other W158 (Or.inl ne40)).other W169 (Or.inl ne64))
  obtain ⟨T186, X186, e186, st186⟩ := getF X182 hx hZ hown (host := "") (Or.inl (ow hw 129 rfl)) Via.refl K182q f185 (g := (mkF m 108 #[(vr pa1), (vr pa2), (vi 3), (vi 1), .val (.int (((0 : Int32) + pi3) + pi4)), (vi 2), (vr pa10), .val (.long ((pi19.toInt64) - (pi20.toInt64))), .second, (vi pi5)] [(.ref pa1)])) rfl rfl (hb hby d16_108)
  obtain ⟨cq187, kq187, q187a, q187b, q187c⟩ := isOf hZ e186 f176
  obtain ⟨_, _, ⟨T187, L187, k187, n187⟩, -, X187, ⟨Lc187, hQ187, l187, y187, z187⟩, st187⟩ := X186.virtualBack hx (y := M23) (z := M23) hown (mvT hZ (ow hw 166 rfl)) (mvT hZ (ow hw 167 rfl)) (notFace_of_selects (args := #[]) (mvT hZ (ow hw 169 rfl))) (mvT hZ (ow hw 169 rfl)) (mvT hZ (ow hw 168 rfl)) (by decide) (backOf (W := 2) (au23_0 l Z a0 hw [] wINTEGER wDOUBLE wBOOLEAN wD kwD hS pa10 pi20 h169 n0 O170 f180) hZ (ow hw 170 rfl) (ow hw 52 rfl) (by decide) (by decide)) q187a q187c (g := (mkF m 115 #[(vr pa1), (vr pa2), (vi 3), (vi 1), .val (.int (((0 : Int32) + pi3) + pi4)), (vi 2), (vr pa10), .val (.long ((pi19.toInt64) - (pi20.toInt64))), .second, (vi pi5)] [(.ref pa10), (.int 2), (.ref b3)])) rfl (by rw [hml]; rfl) (Steps.refl _) (argsL := []) (rest := [(.int 2), (.ref b3)]) (lenOf pd_12 rfl) rfl (by show 2 * 0 + _ ≤ _; exact Nat.le_of_eq rfl) (hb hby d16_115) (fun _ _ => ⟨rfl, e186, (by decide : 4 + 0 ≤ _), (by decide : 12 + 0 ≤ _)⟩)
  dsimp only [Pt.U, Pt.locs, Pt.cells, Pt.slots] at X187 l187 y187 z187 st187 hQ187
  subst y187 z187
  obtain ⟨rfl, Nq187, K187q⟩ := hQ187
  have N187 : Fr n0 L187 := (congrArg (Fr n0) l187).mpr (Fr.app N182 Nq187)
  have f188 : Arv Z h169 b3 k3 .int (3 : Int32) ([(.int pi12), (.int pi16), (.int 0)]) (.int 0) := (((V148.other W153 ne30).other W158 ne52).other W169 ne76)
  obtain ⟨cl189, Ar189, qc189, Sz189, Nn189, Ha189, Gg189⟩ := (id f188)
  have hin189 : ¬ ((2 : Int32) < 0 ∨ cl189.slots.size ≤ ((2 : Int32)).toNatClampNeg) := inb_of Sz189 ⟨by decide, by decide⟩
  obtain ⟨T189, h189, X189, e189, W189, st189⟩ := stI X187 hx hZ K187q Ar189 (j := (2 : Int32)) hin189 (g := (mkF m 118 #[(vr pa1), (vr pa2), (vi 3), (vi 1), .val (.int (((0 : Int32) + pi3) + pi4)), (vi 2), (vr pa10), .val (.long ((pi19.toInt64) - (pi20.toInt64))), .second, (vi pi5)] [(.int pi20), (.int 2), (.ref b3)])) rfl rfl (hb hby d16_118)
  have O190 : Old Z n0 h189 := O170.wr W189 g10
  have K190 : Keep h0 h189 [pa1] := K170.wr W189 (Or.inr sz11)
  have V189 : Arv Z h189 b3 k3 .int (3 : Int32) ([(.int pi12), (.int pi16), (.int pi20)]) (.int 0) := (Arv.set Ar189 qc189 Sz189 Nn189 Ha189 Gg189 (v := (.int pi20)) rfl W189 2 rfl (Nat.le_of_ble_eq_true rfl))
  have N189 := Fr.snoc X189 N187 g10
  have f191 : Fld Z h189 pa1 s9n "word" "[I" (.ref b17) := ((((f150.other W153 (Or.inl ne18)).other W158 (Or.inl ne40)).other W169 (Or.inl ne64)).other W189 (Or.inl ne4))
  obtain ⟨T192, X192, e192, st192⟩ := getF X189 hx hZ hown (host := "") (Or.inl (ow hw 131 rfl)) Via.refl e189 f191 (g := (mkF m 120 #[(vr pa1), (vr pa2), (vi 3), (vi 1), .val (.int (((0 : Int32) + pi3) + pi4)), (vi 2), (vr pa10), .val (.long ((pi19.toInt64) - (pi20.toInt64))), .second, (vi pi5)] [(.ref pa1)])) rfl rfl (hb hby d16_120)
  have f193 : Arv Z h189 b17 k17 .int (3 : Int32) ([(.int 0), (.int 0), (.int 0)]) (.int 0) := (((V153.other W158 ne54).other W169 ne78).other W189 (Ne.symm ne30))
  obtain ⟨cl194, Ar194, qc194, Sz194, Nn194, Ha194, Gg194⟩ := (id f193)
  have hin194 : ¬ ((2 : Int32) < 0 ∨ cl194.slots.size ≤ ((2 : Int32)).toNatClampNeg) := inb_of Sz194 ⟨by decide, by decide⟩
  obtain ⟨T194, h194, X194, e194, W194, st194⟩ := stI X192 hx hZ e192 Ar194 (j := (2 : Int32)) hin194 (g := (mkF m 128 #[(vr pa1), (vr pa2), (vi 3), (vi 1), .val (.int (((0 : Int32) + pi3) + pi4)), (vi 2), (vr pa10), .val (.long ((pi19.toInt64) - (pi20.toInt64))), .second, (vi pi5)] [(.int 0), (.int 2), (.ref b17)])) rfl rfl (hb hby d16_128)
  have O195 : Old Z n0 h194 := O190.wr W194 g32
  have K195 : Keep h0 h194 [pa1] := K190.wr W194 (Or.inr sz33)
  have V194 : Arv Z h194 b17 k17 .int (3 : Int32) ([(.int 0), (.int 0), (.int 0)]) (.int 0) := (Arv.set Ar194 qc194 Sz194 Nn194 Ha194 Gg194 (v := (.int 0)) rfl W194 2 rfl (Nat.le_of_ble_eq_true rfl))
  have N194 := Fr.snoc X194 N189 g32
  have f196 : Fld Z h194 pa1 s9n "shift" "[I" (.ref b39) := ((((f155.other W158 (Or.inl ne40)).other W169 (Or.inl ne64)).other W189 (Or.inl ne4)).other W194 (Or.inl ne18))
  obtain ⟨T197, X197, e197, st197⟩ := getF X194 hx hZ hown (host := "") (Or.inl (ow hw 133 rfl)) Via.refl e194 f196 (g := (mkF m 130 #[(vr pa1), (vr pa2), (vi 3), (vi 1), .val (.int (((0 : Int32) + pi3) + pi4)), (vi 2), (vr pa10), .val (.long ((pi19.toInt64) - (pi20.toInt64))), .second, (vi pi5)] [(.ref pa1)])) rfl rfl (hb hby d16_130)
  have f198 : Arv Z h194 b39 k39 .int (3 : Int32) ([(.int 0), (.int ((0 : Int32) + pi3)), (.int 0)]) (.int 0) := (((V158.other W169 ne80).other W189 (Ne.symm ne52)).other W194 (Ne.symm ne54))
  obtain ⟨cl199, Ar199, qc199, Sz199, Nn199, Ha199, Gg199⟩ := (id f198)
  have hin199 : ¬ ((2 : Int32) < 0 ∨ cl199.slots.size ≤ ((2 : Int32)).toNatClampNeg) := inb_of Sz199 ⟨by decide, by decide⟩
  obtain ⟨T199, h199, X199, e199, W199, st199⟩ := stI X197 hx hZ e197 Ar199 (j := (2 : Int32)) hin199 (g := (mkF m 137 #[(vr pa1), (vr pa2), (vi 3), (vi 1), .val (.int (((0 : Int32) + pi3) + pi4)), (vi 2), (vr pa10), .val (.long ((pi19.toInt64) - (pi20.toInt64))), .second, (vi pi5)] [(.int (((0 : Int32) + pi3) + pi4)), (.int 2), (.ref b39)])) rfl rfl (hb hby d16_137)
  have O200 : Old Z n0 h199 := O195.wr W199 g56
  have K200 : Keep h0 h199 [pa1] := K195.wr W199 (Or.inr sz57)
  have V199 : Arv Z h199 b39 k39 .int (3 : Int32) ([(.int 0), (.int ((0 : Int32) + pi3)), (.int (((0 : Int32) + pi3) + pi4))]) (.int 0) := (Arv.set Ar199 qc199 Sz199 Nn199 Ha199 Gg199 (v := (.int (((0 : Int32) + pi3) + pi4))) rfl W199 2 rfl (Nat.le_of_ble_eq_true rfl))
  have N199 := Fr.snoc X199 N194 g56
  have f201 : Fld Z h199 pa1 s9n "mask" "[J" (.ref b63) := ((((f160.other W169 (Or.inl ne64)).other W189 (Or.inl ne4)).other W194 (Or.inl ne18)).other W199 (Or.inl ne40))
  obtain ⟨T202, X202, e202, st202⟩ := getF X199 hx hZ hown (host := "") (Or.inl (ow hw 136 rfl)) Via.refl e199 f201 (g := (mkF m 139 #[(vr pa1), (vr pa2), (vi 3), (vi 1), .val (.int (((0 : Int32) + pi3) + pi4)), (vi 2), (vr pa10), .val (.long ((pi19.toInt64) - (pi20.toInt64))), .second, (vi pi5)] [(.ref pa1)])) rfl rfl (hb hby d16_139)
  have pre203 : ∀ t, Steps p.tables e below (T202.setTop (mkF m 146 #[(vr pa1), (vr pa2), (vi 3), (vi 1), .val (.int (((0 : Int32) + pi3) + pi4)), (vi 2), (vr pa10), .val (.long ((pi19.toInt64) - (pi20.toInt64))), .second, (vi pi5)] [(.int pi5), (.int 2), (.ref b63)])) t → Steps p.tables e below (s₁.setTop (entryFrame m #[(.ref pa1), (.ref pa2)] 10)) t := by
    intro t k
    refine pre184 t ?_
    show Steps p.tables e below (T182.setTop (mkF m 89 #[(vr pa1), (vr pa2), (vi 3), (vi 1), .val (.int (((0 : Int32) + pi3) + pi4)), (vi 2), (vr pa10), .val (.long ((pi19.toInt64) - (pi20.toInt64))), .second, (vi pi4)] [(.int pi5)])) _
    refine XS.istore X182.here hx rfl (hb hby d16_89) rfl (l' := #[(vr pa1), (vr pa2), (vi 3), (vi 1), .val (.int (((0 : Int32) + pi3) + pi4)), (vi 2), (vr pa10), .val (.long ((pi19.toInt64) - (pi20.toInt64))), .second, (vi pi5)]) rfl ?_
    refine XS.iload X182.here hx rfl (hb hby d16_91) rfl ?_
    refine XS.iload X182.here hx rfl (hb hby d16_93) rfl ?_
    refine XS.iadd X182.here hx rfl (hb hby d16_95) rfl ?_
    refine XS.bipush X182.here hx rfl (hb hby d16_96) ?_
    refine XS.icmpYes X182.here hx rfl (pc0 := 98) (pc' := 107) rfl (hb hby d16_98) rfl (flt (P37 : ¬ ((64 : Int32) < ((((0 : Int32) + pi3) + pi4) + pi5)))).2.2.2 (by decide) (by decide) ?_
    refine XS.aloadN X182.here hx rfl (hb hby d16_107) rfl rfl ?_
    refine st186 _ ?_
    refine XS.iload X186.here hx rfl (hb hby d16_111) rfl ?_
    refine XS.aload X186.here hx rfl (hb hby d16_113) rfl rfl ?_
    refine st187.trans ?_
    refine st189 _ ?_
    refine XS.aloadN X189.here hx rfl (hb hby d16_119) rfl rfl ?_
    refine st192 _ ?_
    show Steps p.tables e below (T192.setTop (mkF m 123 #[(vr pa1), (vr pa2), (vi 3), (vi 1), .val (.int (((0 : Int32) + pi3) + pi4)), (vi 2), (vr pa10), .val (.long ((pi19.toInt64) - (pi20.toInt64))), .second, (vi pi5)] [(.ref b17)])) _
    refine XS.iload X192.here hx rfl (hb hby d16_123) rfl ?_
    refine XS.iloadN X192.here hx rfl (hb hby d16_125) rfl ?_
    refine XS.iconst X192.here hx rfl (hb hby d16_126) ?_
    refine XS.isub X192.here hx rfl (hb hby d16_127) rfl ?_
    refine st194 _ ?_
    refine XS.aloadN X194.here hx rfl (hb hby d16_129) rfl rfl ?_
    refine st197 _ ?_
    refine XS.iload X197.here hx rfl (hb hby d16_133) rfl ?_
    refine XS.iload X197.here hx rfl (hb hby d16_135) rfl ?_
    refine st199 _ ?_
    refine XS.aloadN X199.here hx rfl (hb hby d16_138) rfl rfl ?_
    refine st202 _ ?_
    refine XS.iload X202.here hx rfl (hb hby d16_142) rfl ?_
    refine XS.iload X202.here hx rfl (hb hby d16_144) rfl ?_
    exact k
  obtain ⟨y205, hy205⟩ : ∃ z : Int64, z = (if pi5 = (0 : Int32) then (0 : Int64) else (((-1 : Int64).toUInt64 >>> (((64 : Int32) - pi5) &&& 0x3f).toInt64.toUInt64).toInt64)) := ⟨_, rfl⟩
  have pre206 : ∀ t, Steps p.tables e below (T202.setTop (mkF m 162 #[(vr pa1), (vr pa2), (vi 3), (vi 1), .val (.int (((0 : Int32) + pi3) + pi4)), (vi 2), (vr pa10), .val (.long ((pi19.toInt64) - (pi20.toInt64))), .second, (vi pi5)] [(.long y205), (.int 2), (.ref b63)])) t → Steps p.tables e below (s₁.setTop (entryFrame m #[(.ref pa1), (.ref pa2)] 10)) t := by
    intro t k
    rw [hy205] at k
    refine pre203 t ?_
    show Steps p.tables e below (T202.setTop (mkF m 146 #[(vr pa1), (vr pa2), (vi 3), (vi 1), .val (.int (((0 : Int32) + pi3) + pi4)), (vi 2), (vr pa10), .val (.long ((pi19.toInt64) - (pi20.toInt64))), .second, (vi pi5)] [(.int pi5), (.int 2), (.ref b63)])) _
    rcases Decidable.em (pi5 = (0 : Int32)) with hm204 | hm204
    · first | simp only [if_pos hm204] at k | skip
      refine XS.ifNo X202.here hx rfl (hb hby d16_146) rfl ((if0 _ _).trans (teq hm204).2) ?_
      refine XS.lconst X202.here hx rfl (hb hby d16_149) ?_
      refine XS.goto X202.here hx rfl (pc0 := 150) (pc' := 162) rfl (hb hby d16_150) (by decide) (by decide) ?_
      exact k
    · first | simp only [if_neg hm204] at k | skip
      refine XS.ifYes X202.here hx rfl (pc0 := 146) (pc' := 153) rfl (hb hby d16_146) rfl ((if0 _ _).trans (feq hm204).2) (by decide) (by decide) ?_
      refine X202.ldc2Long hx hown (mvT hZ (ow hw 180 rfl)) (g := (mkF m 153 #[(vr pa1), (vr pa2), (vi 3), (vi 1), .val (.int (((0 : Int32) + pi3) + pi4)), (vi 2), (vr pa10), .val (.long ((pi19.toInt64) - (pi20.toInt64))), .second, (vi pi5)] [(.int 2), (.ref b63)])) rfl (hb hby d16_153) _ ?_
      refine XS.bipush X202.here hx rfl (hb hby d16_156) ?_
      refine XS.iload X202.here hx rfl (hb hby d16_158) rfl ?_
      refine XS.isub X202.here hx rfl (hb hby d16_160) rfl ?_
      refine XS.lushr X202.here hx rfl (hb hby d16_161) rfl ?_
      exact k
  have hm207 : y205 = maskV pi5 := hy205
  have pre208 : ∀ t, Steps p.tables e below (T202.setTop (mkF m 162 #[(vr pa1), (vr pa2), (vi 3), (vi 1), .val (.int (((0 : Int32) + pi3) + pi4)), (vi 2), (vr pa10), .val (.long ((pi19.toInt64) - (pi20.toInt64))), .second, (vi pi5)] [(.long (maskV pi5)), (.int 2), (.ref b63)])) t → Steps p.tables e below (s₁.setTop (entryFrame m #[(.ref pa1), (.ref pa2)] 10)) t := by
    intro t k
    refine pre206 t ?_
    rw [hm207]
    exact k
  have f209 : Arv Z h199 b63 k63 .long (3 : Int32) ([(.long (maskV pi3)), (.long (maskV pi4)), (.long 0)]) (.long 0) := (((V169.other W189 (Ne.symm ne76)).other W194 (Ne.symm ne78)).other W199 (Ne.symm ne80))
  obtain ⟨cl210, Ar210, qc210, Sz210, Nn210, Ha210, Gg210⟩ := (id f209)
  have hin210 : ¬ ((2 : Int32) < 0 ∨ cl210.slots.size ≤ ((2 : Int32)).toNatClampNeg) := inb_of Sz210 ⟨by decide, by decide⟩
  obtain ⟨T210, h210, X210, e210, W210, st210⟩ := stJ X202 hx hZ e202 Ar210 (j := (2 : Int32)) hin210 (g := (mkF m 162 #[(vr pa1), (vr pa2), (vi 3), (vi 1), .val (.int (((0 : Int32) + pi3) + pi4)), (vi 2), (vr pa10), .val (.long ((pi19.toInt64) - (pi20.toInt64))), .second, (vi pi5)] [(.long (maskV pi5)), (.int 2), (.ref b63)])) rfl rfl (hb hby d16_162)
  have O211 : Old Z n0 h210 := O200.wr W210 g82
  have K211 : Keep h0 h210 [pa1] := K200.wr W210 (Or.inr sz83)
  have V210 : Arv Z h210 b63 k63 .long (3 : Int32) ([(.long (maskV pi3)), (.long (maskV pi4)), (.long (maskV pi5))]) (.long 0) := (Arv.set Ar210 qc210 Sz210 Nn210 Ha210 Gg210 (v := (.long (maskV pi5))) rfl W210 2 rfl (Nat.le_of_ble_eq_true rfl))
  have N210 := Fr.snoc X210 N199 g82
  have f212 : Exa Z h210 pa1 s9n := (((((((((((((f85.wr W87).wr W107).wr W112).wr W117).wr W128).wr W148).wr W153).wr W158).wr W169).wr W189).wr W194).wr W199).wr W210)
  have f213 : Fld Z h210 pa1 s9n s10n "I" (.int 0) := ((((((((((((((((((((P5.ext E3).other W15 (Or.inr (slot_ne (Or.inr (ow hw 182 rfl)) (Or.inr (ow hw 130 rfl)) (by decide) (t := .int) (t' := (.array .int)) (by decide) (by decide)))).ext E17).other W37 (Or.inr (slot_ne (Or.inr (ow hw 182 rfl)) (Or.inr (ow hw 132 rfl)) (by decide) (t := .int) (t' := (.array .int)) (by decide) (by decide)))).ext E39).other W61 (Or.inr (slot_ne (Or.inr (ow hw 182 rfl)) (Or.inr (ow hw 134 rfl)) (by decide) (t := .int) (t' := (.array .int)) (by decide) (by decide)))).ext E63).other W87 (Or.inr (slot_ne (Or.inr (ow hw 182 rfl)) (Or.inr (ow hw 137 rfl)) (by decide) (t := .int) (t' := (.array .long)) (by decide) (by decide)))).other W107 (Or.inl ne4)).other W112 (Or.inl ne18)).other W117 (Or.inl ne40)).other W128 (Or.inl ne64)).other W148 (Or.inl ne4)).other W153 (Or.inl ne18)).other W158 (Or.inl ne40)).other W169 (Or.inl ne64)).other W189 (Or.inl ne4)).other W194 (Or.inl ne18)).other W199 (Or.inl ne40)).other W210 (Or.inl ne64))
  obtain ⟨T214, h214, X214, e214, W214, st214⟩ := putF X210 hx hZ hown (host := "") (Or.inl (ow hw 181 rfl)) Via.refl e210 f213 f212 (Or.inr ⟨(ow hw 182 rfl), rfl, hnm⟩) (ow hw 115 rfl) (ty := .int) (by decide) rfl rfl (g := (mkF m 178 #[(vr pa1), (vr pa2), (vi 3), (vi 1), .val (.int ((((0 : Int32) + pi3) + pi4) + pi5)), (vi 3), (vr pa10), .val (.long ((pi19.toInt64) - (pi20.toInt64))), .second, (vi pi5)] [(.int 1), (.ref pa1)])) rfl rfl (hb hby d16_178)
  have N214 := Fr.snoc X214 N210 P38
  have O215 : Old Z n0 h214 := O211.wr W214 P38
  have K215 : Keep h0 h214 [pa1] := K211.wr W214 (Or.inl (List.mem_of_getElem? (i := 0) rfl))
  have Fw214 : Fld Z h214 pa1 s9n s10n "I" (.int 1) := f213.same W214
  have f216 : Exa Z h214 pa1 s9n := (f212.wr W214)
  have f217 : Fld Z h214 pa1 s9n "low" "[I" (.ref b3) := (((((f185.other W189 (Or.inl ne4)).other W194 (Or.inl ne18)).other W199 (Or.inl ne40)).other W210 (Or.inl ne64)).other W214 (Or.inr (slot_ne (Or.inr (ow hw 130 rfl)) (Or.inr (ow hw 182 rfl)) (by decide) (t := (.array .int)) (t' := .int) (by decide) (by decide))))
  have f218 : Fld Z h214 pa1 s9n "mask" "[J" (.ref b63) := ((f201.other W210 (Or.inl ne64)).other W214 (Or.inr (slot_ne (Or.inr (ow hw 137 rfl)) (Or.inr (ow hw 182 rfl)) (by decide) (t := (.array .long)) (t' := .int) (by decide) (by decide))))
  have f219 : Fld Z h214 pa1 s9n "shift" "[I" (.ref b39) := (((f196.other W199 (Or.inl ne40)).other W210 (Or.inl ne64)).other W214 (Or.inr (slot_ne (Or.inr (ow hw 134 rfl)) (Or.inr (ow hw 182 rfl)) (by decide) (t := (.array .int)) (t' := .int) (by decide) (by decide))))
  have f220 : Fld Z h214 pa1 s9n "word" "[I" (.ref b17) := ((((f191.other W194 (Or.inl ne18)).other W199 (Or.inl ne40)).other W210 (Or.inl ne64)).other W214 (Or.inr (slot_ne (Or.inr (ow hw 132 rfl)) (Or.inr (ow hw 182 rfl)) (by decide) (t := (.array .int)) (t' := .int) (by decide) (by decide))))
  have f221 : Exa Z h214 b3 "[I" := ((((((((((((((((((((Z3.wr W15).ext E17).wr W37).ext E39).wr W61).ext E63).wr W87).wr W107).wr W112).wr W117).wr W128).wr W148).wr W153).wr W158).wr W169).wr W189).wr W194).wr W199).wr W210).wr W214)
  have f222 : Arv Z h214 b3 k3 .int (3 : Int32) ([(.int pi12), (.int pi16), (.int pi20)]) (.int 0) := ((((V189.other W194 ne30).other W199 ne52).other W210 ne76).other W214 (Ne.symm ne4))
  have f223 : Exa Z h214 b63 "[J" := ((((((((((((((Z63.wr W87).wr W107).wr W112).wr W117).wr W128).wr W148).wr W153).wr W158).wr W169).wr W189).wr W194).wr W199).wr W210).wr W214)
  have f224 : Arv Z h214 b63 k63 .long (3 : Int32) ([(.long (maskV pi3)), (.long (maskV pi4)), (.long (maskV pi5))]) (.long 0) := (V210.other W214 (Ne.symm ne64))
  have f225 : Exa Z h214 b39 "[I" := ((((((((((((((((Z39.wr W61).ext E63).wr W87).wr W107).wr W112).wr W117).wr W128).wr W148).wr W153).wr W158).wr W169).wr W189).wr W194).wr W199).wr W210).wr W214)
  have f226 : Arv Z h214 b39 k39 .int (3 : Int32) ([(.int 0), (.int ((0 : Int32) + pi3)), (.int (((0 : Int32) + pi3) + pi4))]) (.int 0) := ((V199.other W210 ne80).other W214 (Ne.symm ne40))
  have f227 : Exa Z h214 b17 "[I" := ((((((((((((((((((Z17.wr W37).ext E39).wr W61).ext E63).wr W87).wr W107).wr W112).wr W117).wr W128).wr W148).wr W153).wr W158).wr W169).wr W189).wr W194).wr W199).wr W210).wr W214)
  have f228 : Arv Z h214 b17 k17 .int (3 : Int32) ([(.int 0), (.int 0), (.int 0)]) (.int 0) := (((V194.other W199 ne54).other W210 ne78).other W214 (Ne.symm ne18))
  obtain ⟨fs, hr, hrun, hended, hW, hsame⟩ := X214.leave (v := none) (fun _ => rfl)
  refine ⟨_, _, pre208 _ ?_, hrun, hended, _, _, rfl, ?_, ⟨_, rfl⟩, hW, hsame.mono (by decide) (by decide)⟩
  · skip
    show Steps p.tables e below (T202.setTop (mkF m 162 #[(vr pa1), (vr pa2), (vi 3), (vi 1), .val (.int (((0 : Int32) + pi3) + pi4)), (vi 2), (vr pa10), .val (.long ((pi19.toInt64) - (pi20.toInt64))), .second, (vi pi5)] [(.long (maskV pi5)), (.int 2), (.ref b63)])) _
    refine st210 _ ?_
    refine XS.iload X210.here hx rfl (hb hby d16_163) rfl ?_
    refine XS.iload X210.here hx rfl (hb hby d16_165) rfl ?_
    refine XS.iadd X210.here hx rfl (hb hby d16_167) rfl ?_
    refine XS.istore X210.here hx rfl (hb hby d16_168) rfl (l' := #[(vr pa1), (vr pa2), (vi 3), (vi 1), .val (.int ((((0 : Int32) + pi3) + pi4) + pi5)), (vi 2), (vr pa10), .val (.long ((pi19.toInt64) - (pi20.toInt64))), .second, (vi pi5)]) rfl ?_
    refine XS.iinc X210.here hx rfl (hb hby d16_170) rfl (l' := #[(vr pa1), (vr pa2), (vi 3), (vi 1), .val (.int ((((0 : Int32) + pi3) + pi4) + pi5)), (vi 3), (vr pa10), .val (.long ((pi19.toInt64) - (pi20.toInt64))), .second, (vi pi5)]) rfl ?_
    refine XS.goto X210.here hx rfl (pc0 := 173) (pc' := 47) rfl (hb hby d16_173) (by decide) (by decide) ?_
    refine XS.iload X210.here hx rfl (hb hby d16_47) rfl ?_
    refine XS.iloadN X210.here hx rfl (hb hby d16_49) rfl ?_
    refine XS.icmpYes X210.here hx rfl (pc0 := 50) (pc' := 176) rfl (hb hby d16_50) rfl (flt (by decide : ¬ ((3 : Int32) < (3 : Int32)))).2.1 (by decide) (by decide) ?_
    refine XS.aloadN X210.here hx rfl (hb hby d16_176) rfl rfl ?_
    refine XS.iloadN X210.here hx rfl (hb hby d16_177) rfl ?_
    refine st214 _ ?_
    exact X214.returnOut hx hret0 (hb hby d16_181) hr
  · show Q_au16_1 Z wINTEGER wDOUBLE wBOOLEAN wD kwD pa1 pa2 pi3 pi4 pi5 pa6 pk7 pa8 pa9 pa10 pi11 pi12 pi15 pi16 pi19 pi20 h0 n0 _ T214.heap _
    rw [e214]
    exact ⟨b3, b63, b39, b17, k3, k63, k39, k17, rfl, N214, K215, f216, f217, f218, f219, f220, Fw214, sz11, f221, f222, sz83, f223, f224, sz57, f225, f226, sz33, f227, f228, ne76, ne52, ne30, (Ne.symm ne80), (Ne.symm ne78), (Ne.symm ne54)⟩
theorem ef_au26_1 (m : MethodId) (x0 : Addr) (x1 : Addr) (x2 : Addr) (x3 : Int32)  : entryFrame m #[(.ref x0), (.ref x1), (.ref x2), (.int x3)] 5 = mkF m 0 #[(vr x0), (vr x1), (vr x2), (vi x3), .unset] [] := by first | (simp [entryFrame, mkF, argsToLocals, Value.category]; done) | rfl
def Q_au26_1 (Z : State) (wINTEGER : Addr) (wDOUBLE : Addr) (wBOOLEAN : Addr) (wD : Addr) (kwD : ClassId) (pa1 : Addr) (pa2 : Addr) (pa3 : Addr) (pi4 : Int32) (pa5 : Addr) (pa7 : Addr) (pa8 : Addr) (pk9 : ClassId) (pi10 : Int32) (pi11 : Int32) (pi12 : Int32) (pk13 : ClassId) (pj14 : Int64) (pk15 : ClassId) (pi16 : Int32) (pi17 : Int32) (pi18 : Int32) (pk23 : ClassId) (pi24 : Int32) (pi25 : Int32) (pk26 : ClassId) (h0 : Heap) (n0 : Nat) (v : Option Value) (h : Heap) (L : List Loc) : Prop := v = none ∧ Fr n0 L ∧ Keep h0 h [pa3] ∧ Exa Z h pa3 "[J" ∧ Arv Z h pa3 pk13 .long (6 : Int32) ([(.long (sA pi4 (0 : Int32) (fld (fld (fld (0 : Int64) pi10 pi16 (0 : Int32)) pi11 pi17 pi24) pi12 pi18 pi25) pj14)), (.long (sA pi4 (1 : Int32) (fld (fld (fld (0 : Int64) pi10 pi16 (0 : Int32)) pi11 pi17 pi24) pi12 pi18 pi25) pj14)), (.long (sA pi4 (2 : Int32) (fld (fld (fld (0 : Int64) pi10 pi16 (0 : Int32)) pi11 pi17 pi24) pi12 pi18 pi25) pj14)), (.long (sA pi4 (3 : Int32) (fld (fld (fld (0 : Int64) pi10 pi16 (0 : Int32)) pi11 pi17 pi24) pi12 pi18 pi25) pj14)), (.long (sA pi4 (4 : Int32) (fld (fld (fld (0 : Int64) pi10 pi16 (0 : Int32)) pi11 pi17 pi24) pi12 pi18 pi25) pj14)), (.long (sA pi4 (5 : Int32) (fld (fld (fld (0 : Int64) pi10 pi16 (0 : Int32)) pi11 pi17 pi24) pi12 pi18 pi25) pj14))]) (.long 0)
theorem au26_1 (l : Launch) (Z : State) (a0 : Array Value) (hw : ∀ d ∈ tables_1, d.before a0 Z = true) (ws : List Jvm.Cond) (wINTEGER : Addr) (wDOUBLE : Addr) (wBOOLEAN : Addr) (wD : Addr) (kwD : ClassId) (hS : SS Z wINTEGER wDOUBLE wBOOLEAN wD kwD) (pa1 : Addr) (pa2 : Addr) (pa3 : Addr) (pi4 : Int32) (pa5 : Addr) (pa7 : Addr) (pa8 : Addr) (pk9 : ClassId) (pi10 : Int32) (pi11 : Int32) (pi12 : Int32) (pk13 : ClassId) (pj14 : Int64) (pk15 : ClassId) (pi16 : Int32) (pi17 : Int32) (pi18 : Int32) (pk23 : ClassId) (pi24 : Int32) (pi25 : Int32) (pk26 : ClassId) (h0 : Heap) (n0 : Nat) (O0 : Old Z n0 h0) (P1 : Fld Z h0 pa1 s9n "low" "[I" (.ref pa5)) (P3 : Fld Z h0 pa1 s9n "shift" "[I" (.ref pa7)) (P4 : Fld Z h0 pa1 s9n "word" "[I" (.ref pa8)) (P5 : Fld Z h0 pa1 s9n s10n "I" (.int 1)) (P6 : Arv Z h0 pa2 pk9 .int (3 : Int32) ([(.int pi10), (.int pi11), (.int pi12)]) (.int 0)) (P8 : Arv Z h0 pa3 pk13 .long (6 : Int32) ([(.long pj14), (.long pj14), (.long pj14), (.long pj14), (.long pj14), (.long pj14)]) (.long 0)) (P9 : Exa Z h0 pa3 "[J") (P10 : Arv Z h0 pa5 pk15 .int (3 : Int32) ([(.int pi16), (.int pi17), (.int pi18)]) (.int 0)) (P14 : Arv Z h0 pa7 pk23 .int (3 : Int32) ([(.int 0), (.int pi24), (.int pi25)]) (.int 0)) (P16 : Arv Z h0 pa8 pk26 .int (3 : Int32) ([(.int 0), (.int 0), (.int 0)]) (.int 0)) (P18 : inO pi4) (P23 : n0 ≤ pa3) (P29 : pa1 ≠ pa3) (P34 : pa2 ≠ pa3) (P39 : pa3 ≠ pa5) (P41 : pa3 ≠ pa7) (P42 : pa3 ≠ pa8) :
    MetB l M27 prog_105_method_3_code 5 none ws (rmk 0 0 0 0) Z h0 #[(.ref pa1), (.ref pa2), (.ref pa3), (.int pi4)] (Q_au26_1 Z wINTEGER wDOUBLE wBOOLEAN wD kwD pa1 pa2 pa3 pi4 pa5 pa7 pa8 pk9 pi10 pi11 pi12 pk13 pj14 pk15 pi16 pi17 pi18 pk23 pi24 pi25 pk26 h0 n0) := by
  refine own_body (plainFor_of_name pn_com_example_lanc_lanc_model_VariableLayout) ?_
  intro p e s m below meth c s₁ hx hby hml hown hnm hret0 hlk0 hZ X0 e0
  have N0 := Fr.nil n0
  have pre0 : ∀ t, Steps p.tables e below (s₁.setTop (mkF m 0 #[(vr pa1), (vr pa2), (vr pa3), (vi pi4), .unset] [])) t → Steps p.tables e below (s₁.setTop (entryFrame m #[(.ref pa1), (.ref pa2), (.ref pa3), (.int pi4)] 5)) t := fun t k => castTop (ef_au26_1 m pa1 pa2 pa3 pi4) k
  have K0 := Keep.refl h0 [pa3]
  have hS0 := hS
  obtain ⟨S_wINTEGER, E_wINTEGER, S_wDOUBLE, E_wDOUBLE, S_wBOOLEAN, E_wBOOLEAN, F_ordinal_wINTEGER, F_ordinal_wDOUBLE, F_ordinal_wBOOLEAN, S_wD, E_wD, V_wD⟩ := hS0
  obtain ⟨T1, X1, e1, st1⟩ := getF X0 hx hZ hown (host := "") (Or.inl (ow hw 181 rfl)) Via.refl e0 P5 (g := (mkF m 6 #[(vr pa1), (vr pa2), (vr pa3), (vi pi4), (vi 0)] [(.ref pa1), (.int 0)])) rfl rfl (hb hby d26_6)
  obtain ⟨cl2, Ar2, qc2, Sz2, Nn2, Ha2, Gg2⟩ := (id P8)
  have hin2 : ¬ ((pi4 + (0 : Int32)) < 0 ∨ cl2.slots.size ≤ ((pi4 + (0 : Int32))).toNatClampNeg) := own_inb6 P18 (Or.inl rfl) Sz2
  obtain ⟨T2, h2, X2, e2, W2, st2⟩ := stJ X1 hx hZ e1 Ar2 (j := (pi4 + (0 : Int32))) hin2 (g := (mkF m 18 #[(vr pa1), (vr pa2), (vr pa3), (vi pi4), (vi 0)] [(.long 0), (.int (pi4 + (0 : Int32))), (.ref pa3)])) rfl rfl (hb hby d26_18)
  have O3 : Old Z n0 h2 := O0.wr W2 P23
  have K3 : Keep h0 h2 [pa3] := K0.wr W2 (Or.inl (List.mem_of_getElem? (i := 0) rfl))
  have V2 : Arv Z h2 pa3 pk13 .long (6 : Int32) ([(.long (sA pi4 (0 : Int32) (0 : Int64) pj14)), (.long (sA pi4 (1 : Int32) (0 : Int64) pj14)), (.long (sA pi4 (2 : Int32) (0 : Int64) pj14)), (.long (sA pi4 (3 : Int32) (0 : Int64) pj14)), (.long (sA pi4 (4 : Int32) (0 : Int64) pj14)), (.long (sA pi4 (5 : Int32) (0 : Int64) pj14))]) (.long 0) := own_cast (own_set0 P18) (Arv.set Ar2 qc2 Sz2 Nn2 Ha2 Gg2 (v := (.long 0)) rfl W2 ((pi4 + (0 : Int32))).toNatClampNeg rfl (own_lt6 P18 (Or.inl rfl)))
  have N2 := Fr.snoc X2 N0 P23
  have f4 : Fld Z h2 pa1 s9n s10n "I" (.int 1) := (P5.other W2 (Or.inl P29))
  obtain ⟨T5, X5, e5, st5⟩ := getF X2 hx hZ hown (host := "") (Or.inl (ow hw 181 rfl)) Via.refl e2 f4 (g := (mkF m 6 #[(vr pa1), (vr pa2), (vr pa3), (vi pi4), (vi 1)] [(.ref pa1), (.int 1)])) rfl rfl (hb hby d26_6)
  have f6 : Fld Z h2 pa1 s9n "low" "[I" (.ref pa5) := (P1.other W2 (Or.inl P29))
  obtain ⟨T7, X7, e7, st7⟩ := getF X5 hx hZ hown (host := "") (Or.inl (ow hw 129 rfl)) Via.refl e5 f6 (g := (mkF m 31 #[(vr pa1), (vr pa2), (vr pa3), (vi pi4), (vi 0)] [(.ref pa1), (.int 0)])) rfl rfl (hb hby d26_31)
  have f8 : Arv Z h2 pa5 pk15 .int (3 : Int32) ([(.int pi16), (.int pi17), (.int pi18)]) (.int 0) := (P10.other W2 (Ne.symm P39))
  obtain ⟨cl9, Ar9, -, Sz9, Nn9, -, -⟩ := (id f8)
  have f10 : Fld Z h2 pa1 s9n "word" "[I" (.ref pa8) := (P4.other W2 (Or.inl P29))
  obtain ⟨T11, X11, e11, st11⟩ := getF X7 hx hZ hown (host := "") (Or.inl (ow hw 131 rfl)) Via.refl e7 f10 (g := (mkF m 41 #[(vr pa1), (vr pa2), (vr pa3), (vi pi4), (vi 0)] [(.ref pa1), (.int pi4), (.ref pa3)])) rfl rfl (hb hby d26_41)
  have f12 : Arv Z h2 pa8 pk26 .int (3 : Int32) ([(.int 0), (.int 0), (.int 0)]) (.int 0) := (P16.other W2 (Ne.symm P42))
  obtain ⟨cl13, Ar13, qc13, Sz13, Nn13, Ha13, Gg13⟩ := (id f12)
  have hin13 : ¬ ((0 : Int32) < 0 ∨ cl13.slots.size ≤ ((0 : Int32)).toNatClampNeg) := inb_of Sz13 ⟨by decide, by decide⟩
  have hat13 : cl13.slots[((0 : Int32)).toNatClampNeg]? = some (.int 0) := Ha13.at hin13 rfl
  obtain ⟨cl14, Ar14, qc14, Sz14, Nn14, Ha14, Gg14⟩ := (id V2)
  have hin14 : ¬ ((pi4 + (0 : Int32)) < 0 ∨ cl14.slots.size ≤ ((pi4 + (0 : Int32))).toNatClampNeg) := own_inb6 P18 (Or.inl rfl) Sz14
  have hat14 : cl14.slots[((pi4 + (0 : Int32))).toNatClampNeg]? = some (.long 0) := Ha14.at hin14 (own_getA0 P18)
  have f15 : Arv Z h2 pa2 pk9 .int (3 : Int32) ([(.int pi10), (.int pi11), (.int pi12)]) (.int 0) := (P6.other W2 P34)
  obtain ⟨cl16, Ar16, qc16, Sz16, Nn16, Ha16, Gg16⟩ := (id f15)
  have hin16 : ¬ ((0 : Int32) < 0 ∨ cl16.slots.size ≤ ((0 : Int32)).toNatClampNeg) := inb_of Sz16 ⟨by decide, by decide⟩
  have hat16 : cl16.slots[((0 : Int32)).toNatClampNeg]? = some (.int pi10) := Ha16.at hin16 rfl
  obtain ⟨T17, X17, e17, st17⟩ := getF X11 hx hZ hown (host := "") (Or.inl (ow hw 129 rfl)) Via.refl e11 f6 (g := (mkF m 56 #[(vr pa1), (vr pa2), (vr pa3), (vi pi4), (vi 0)] [(.ref pa1), (.long (pi10.toInt64)), (.long 0), (.int (pi4 + (0 : Int32))), (.ref pa3)])) rfl rfl (hb hby d26_56)
  obtain ⟨cl18, Ar18, qc18, Sz18, Nn18, Ha18, Gg18⟩ := (id f8)
  have hin18 : ¬ ((0 : Int32) < 0 ∨ cl18.slots.size ≤ ((0 : Int32)).toNatClampNeg) := inb_of Sz18 ⟨by decide, by decide⟩
  have hat18 : cl18.slots[((0 : Int32)).toNatClampNeg]? = some (.int pi16) := Ha18.at hin18 rfl
  have f19 : Fld Z h2 pa1 s9n "shift" "[I" (.ref pa7) := (P3.other W2 (Or.inl P29))
  obtain ⟨T20, X20, e20, st20⟩ := getF X17 hx hZ hown (host := "") (Or.inl (ow hw 133 rfl)) Via.refl e17 f19 (g := (mkF m 65 #[(vr pa1), (vr pa2), (vr pa3), (vi pi4), (vi 0)] [(.ref pa1), (.long ((pi10.toInt64) - (pi16.toInt64))), (.long 0), (.int (pi4 + (0 : Int32))), (.ref pa3)])) rfl rfl (hb hby d26_65)
  have f21 : Arv Z h2 pa7 pk23 .int (3 : Int32) ([(.int 0), (.int pi24), (.int pi25)]) (.int 0) := (P14.other W2 (Ne.symm P41))
  obtain ⟨cl22, Ar22, qc22, Sz22, Nn22, Ha22, Gg22⟩ := (id f21)
  have hin22 : ¬ ((0 : Int32) < 0 ∨ cl22.slots.size ≤ ((0 : Int32)).toNatClampNeg) := inb_of Sz22 ⟨by decide, by decide⟩
  have hat22 : cl22.slots[((0 : Int32)).toNatClampNeg]? = some (.int 0) := Ha22.at hin22 rfl
  have pre23 : ∀ t, Steps p.tables e below (T20.setTop (mkF m 73 #[(vr pa1), (vr pa2), (vr pa3), (vi pi4), (vi 0)] [(.long (fld (0 : Int64) pi10 pi16 (0 : Int32))), (.int (pi4 + (0 : Int32))), (.ref pa3)])) t → Steps p.tables e below (s₁.setTop (entryFrame m #[(.ref pa1), (.ref pa2), (.ref pa3), (.int pi4)] 5)) t := by
    intro t k
    refine pre0 t ?_
    show Steps p.tables e below (s₁.setTop (mkF m 0 #[(vr pa1), (vr pa2), (vr pa3), (vi pi4), .unset] [])) _
    refine XS.iconst X0.here hx rfl (hb hby d26_0) ?_
    refine XS.istore X0.here hx rfl (hb hby d26_1) rfl (l' := #[(vr pa1), (vr pa2), (vr pa3), (vi pi4), (vi 0)]) rfl ?_
    refine XS.iload X0.here hx rfl (hb hby d26_3) rfl ?_
    refine XS.aloadN X0.here hx rfl (hb hby d26_5) rfl rfl ?_
    refine st1 _ ?_
    refine XS.icmpNo X1.here hx rfl (hb hby d26_9) rfl (tlt (by decide : (0 : Int32) < (1 : Int32))).2.1 ?_
    refine XS.aloadN X1.here hx rfl (hb hby d26_12) rfl rfl ?_
    refine XS.iloadN X1.here hx rfl (hb hby d26_13) rfl ?_
    refine XS.iload X1.here hx rfl (hb hby d26_14) rfl ?_
    refine XS.iadd X1.here hx rfl (hb hby d26_16) rfl ?_
    refine XS.lconst X1.here hx rfl (hb hby d26_17) ?_
    refine st2 _ ?_
    refine XS.iinc X2.here hx rfl (hb hby d26_19) rfl (l' := #[(vr pa1), (vr pa2), (vr pa3), (vi pi4), (vi 1)]) rfl ?_
    refine XS.goto X2.here hx rfl (pc0 := 22) (pc' := 3) rfl (hb hby d26_22) (by decide) (by decide) ?_
    show Steps p.tables e below (T2.setTop (mkF m 3 #[(vr pa1), (vr pa2), (vr pa3), (vi pi4), (vi 1)] [])) _
    refine XS.iload X2.here hx rfl (hb hby d26_3) rfl ?_
    refine XS.aloadN X2.here hx rfl (hb hby d26_5) rfl rfl ?_
    refine st5 _ ?_
    refine XS.icmpYes X5.here hx rfl (pc0 := 9) (pc' := 25) rfl (hb hby d26_9) rfl (flt (by decide : ¬ ((1 : Int32) < (1 : Int32)))).2.1 (by decide) (by decide) ?_
    refine XS.iconst X5.here hx rfl (hb hby d26_25) ?_
    refine XS.istore X5.here hx rfl (hb hby d26_26) rfl (l' := #[(vr pa1), (vr pa2), (vr pa3), (vi pi4), (vi 0)]) rfl ?_
    refine XS.iload X5.here hx rfl (hb hby d26_28) rfl ?_
    refine XS.aloadN X5.here hx rfl (hb hby d26_30) rfl rfl ?_
    refine st7 _ ?_
    refine X7.arraylength hx (by rw [e7]; exact Ar9.1) (State.isArrayOf_alike hZ.alike Ar9.2.1) (g := (mkF m 34 #[(vr pa1), (vr pa2), (vr pa3), (vi pi4), (vi 0)] [(.ref pa5), (.int 0)])) rfl rfl (hb hby d26_34) _ ?_
    rw [len_of Sz9 Nn9]
    refine XS.icmpNo X7.here hx rfl (hb hby d26_35) rfl (tlt (by decide : (0 : Int32) < (3 : Int32))).2.1 ?_
    refine XS.aloadN X7.here hx rfl (hb hby d26_38) rfl rfl ?_
    refine XS.iloadN X7.here hx rfl (hb hby d26_39) rfl ?_
    refine XS.aloadN X7.here hx rfl (hb hby d26_40) rfl rfl ?_
    show Steps p.tables e below (T7.setTop (mkF m 41 #[(vr pa1), (vr pa2), (vr pa3), (vi pi4), (vi 0)] [(.ref pa1), (.int pi4), (.ref pa3)])) _
    refine st11 _ ?_
    refine XS.iload X11.here hx rfl (hb hby d26_44) rfl ?_
    refine X11.iaload hx (j := (0 : Int32)) (v := (.int 0)) (by rw [e11]; exact Ar13.1) (State.isArrayOf_alike hZ.alike Ar13.2.1) Ar13.2.2 hin13 hat13 (g := (mkF m 46 #[(vr pa1), (vr pa2), (vr pa3), (vi pi4), (vi 0)] [(.int 0), (.ref pa8), (.int pi4), (.ref pa3)])) rfl rfl (hb hby d26_46) _ ?_
    refine XS.iadd X11.here hx rfl (hb hby d26_47) rfl ?_
    refine XT.dup2 X11.here hx rfl (hb hby d26_48) rfl rfl rfl ?_
    refine X11.laload hx (j := (pi4 + (0 : Int32))) (v := (.long 0)) (by rw [e11]; exact Ar14.1) (State.isArrayOf_alike hZ.alike Ar14.2.1) Ar14.2.2 hin14 hat14 (g := (mkF m 49 #[(vr pa1), (vr pa2), (vr pa3), (vi pi4), (vi 0)] [(.int (pi4 + (0 : Int32))), (.ref pa3), (.int (pi4 + (0 : Int32))), (.ref pa3)])) rfl rfl (hb hby d26_49) _ ?_
    refine XS.aloadN X11.here hx rfl (hb hby d26_50) rfl rfl ?_
    refine XS.iload X11.here hx rfl (hb hby d26_51) rfl ?_
    refine X11.iaload hx (j := (0 : Int32)) (v := (.int pi10)) (by rw [e11]; exact Ar16.1) (State.isArrayOf_alike hZ.alike Ar16.2.1) Ar16.2.2 hin16 hat16 (g := (mkF m 53 #[(vr pa1), (vr pa2), (vr pa3), (vi pi4), (vi 0)] [(.int 0), (.ref pa2), (.long 0), (.int (pi4 + (0 : Int32))), (.ref pa3)])) rfl rfl (hb hby d26_53) _ ?_
    refine XS.i2l X11.here hx rfl (hb hby d26_54) rfl ?_
    refine XS.aloadN X11.here hx rfl (hb hby d26_55) rfl rfl ?_
    refine st17 _ ?_
    refine XS.iload X17.here hx rfl (hb hby d26_59) rfl ?_
    refine X17.iaload hx (j := (0 : Int32)) (v := (.int pi16)) (by rw [e17]; exact Ar18.1) (State.isArrayOf_alike hZ.alike Ar18.2.1) Ar18.2.2 hin18 hat18 (g := (mkF m 61 #[(vr pa1), (vr pa2), (vr pa3), (vi pi4), (vi 0)] [(.int 0), (.ref pa5), (.long (pi10.toInt64)), (.long 0), (.int (pi4 + (0 : Int32))), (.ref pa3)])) rfl rfl (hb hby d26_61) _ ?_
    show Steps p.tables e below (T17.setTop (mkF m 62 #[(vr pa1), (vr pa2), (vr pa3), (vi pi4), (vi 0)] [(.int pi16), (.long (pi10.toInt64)), (.long 0), (.int (pi4 + (0 : Int32))), (.ref pa3)])) _
    refine XS.i2l X17.here hx rfl (hb hby d26_62) rfl ?_
    refine XS.lsub X17.here hx rfl (hb hby d26_63) rfl ?_
    refine XS.aloadN X17.here hx rfl (hb hby d26_64) rfl rfl ?_
    refine st20 _ ?_
    refine XS.iload X20.here hx rfl (hb hby d26_68) rfl ?_
    refine X20.iaload hx (j := (0 : Int32)) (v := (.int 0)) (by rw [e20]; exact Ar22.1) (State.isArrayOf_alike hZ.alike Ar22.2.1) Ar22.2.2 hin22 hat22 (g := (mkF m 70 #[(vr pa1), (vr pa2), (vr pa3), (vi pi4), (vi 0)] [(.int 0), (.ref pa7), (.long ((pi10.toInt64) - (pi16.toInt64))), (.long 0), (.int (pi4 + (0 : Int32))), (.ref pa3)])) rfl rfl (hb hby d26_70) _ ?_
    refine XS.lshl X20.here hx rfl (hb hby d26_71) rfl ?_
    refine XS.lor X20.here hx rfl (hb hby d26_72) rfl ?_
    rw [(show ((0 : Int64) ||| (((pi10.toInt64) - (pi16.toInt64)) <<< ((0 : Int32) &&& 0x3f).toInt64)) = (fld (0 : Int64) pi10 pi16 (0 : Int32)) from rfl)]
    exact k
  obtain ⟨cl24, Ar24, qc24, Sz24, Nn24, Ha24, Gg24⟩ := (id V2)
  have hin24 : ¬ ((pi4 + (0 : Int32)) < 0 ∨ cl24.slots.size ≤ ((pi4 + (0 : Int32))).toNatClampNeg) := own_inb6 P18 (Or.inl rfl) Sz24
  obtain ⟨T24, h24, X24, e24, W24, st24⟩ := stJ X20 hx hZ e20 Ar24 (j := (pi4 + (0 : Int32))) hin24 (g := (mkF m 73 #[(vr pa1), (vr pa2), (vr pa3), (vi pi4), (vi 0)] [(.long (fld (0 : Int64) pi10 pi16 (0 : Int32))), (.int (pi4 + (0 : Int32))), (.ref pa3)])) rfl rfl (hb hby d26_73)
  have O25 : Old Z n0 h24 := O3.wr W24 P23
  have K25 : Keep h0 h24 [pa3] := K3.wr W24 (Or.inl (List.mem_of_getElem? (i := 0) rfl))
  have V24 : Arv Z h24 pa3 pk13 .long (6 : Int32) ([(.long (sA pi4 (0 : Int32) (fld (0 : Int64) pi10 pi16 (0 : Int32)) pj14)), (.long (sA pi4 (1 : Int32) (fld (0 : Int64) pi10 pi16 (0 : Int32)) pj14)), (.long (sA pi4 (2 : Int32) (fld (0 : Int64) pi10 pi16 (0 : Int32)) pj14)), (.long (sA pi4 (3 : Int32) (fld (0 : Int64) pi10 pi16 (0 : Int32)) pj14)), (.long (sA pi4 (4 : Int32) (fld (0 : Int64) pi10 pi16 (0 : Int32)) pj14)), (.long (sA pi4 (5 : Int32) (fld (0 : Int64) pi10 pi16 (0 : Int32)) pj14))]) (.long 0) := own_cast (own_setA0 P18) (Arv.set Ar24 qc24 Sz24 Nn24 Ha24 Gg24 (v := (.long (fld (0 : Int64) pi10 pi16 (0 : Int32)))) rfl W24 ((pi4 + (0 : Int32))).toNatClampNeg rfl (own_lt6 P18 (Or.inl rfl)))
  have N24 := Fr.snoc X24 N2 P23
  have f26 : Fld Z h24 pa1 s9n "low" "[I" (.ref pa5) := (f6.other W24 (Or.inl P29))
  obtain ⟨T27, X27, e27, st27⟩ := getF X24 hx hZ hown (host := "") (Or.inl (ow hw 129 rfl)) Via.refl e24 f26 (g := (mkF m 31 #[(vr pa1), (vr pa2), (vr pa3), (vi pi4), (vi 1)] [(.ref pa1), (.int 1)])) rfl rfl (hb hby d26_31)
  have f28 : Arv Z h24 pa5 pk15 .int (3 : Int32) ([(.int pi16), (.int pi17), (.int pi18)]) (.int 0) := (f8.other W24 (Ne.symm P39))
  obtain ⟨cl29, Ar29, -, Sz29, Nn29, -, -⟩ := (id f28)
  have f30 : Fld Z h24 pa1 s9n "word" "[I" (.ref pa8) := (f10.other W24 (Or.inl P29))
  obtain ⟨T31, X31, e31, st31⟩ := getF X27 hx hZ hown (host := "") (Or.inl (ow hw 131 rfl)) Via.refl e27 f30 (g := (mkF m 41 #[(vr pa1), (vr pa2), (vr pa3), (vi pi4), (vi 1)] [(.ref pa1), (.int pi4), (.ref pa3)])) rfl rfl (hb hby d26_41)
  have f32 : Arv Z h24 pa8 pk26 .int (3 : Int32) ([(.int 0), (.int 0), (.int 0)]) (.int 0) := (f12.other W24 (Ne.symm P42))
  obtain ⟨cl33, Ar33, qc33, Sz33, Nn33, Ha33, Gg33⟩ := (id f32)
  have hin33 : ¬ ((1 : Int32) < 0 ∨ cl33.slots.size ≤ ((1 : Int32)).toNatClampNeg) := inb_of Sz33 ⟨by decide, by decide⟩
  have hat33 : cl33.slots[((1 : Int32)).toNatClampNeg]? = some (.int 0) := Ha33.at hin33 rfl
  obtain ⟨cl34, Ar34, qc34, Sz34, Nn34, Ha34, Gg34⟩ := (id V24)
  have hin34 : ¬ ((pi4 + (0 : Int32)) < 0 ∨ cl34.slots.size ≤ ((pi4 + (0 : Int32))).toNatClampNeg) := own_inb6 P18 (Or.inl rfl) Sz34
  have hat34 : cl34.slots[((pi4 + (0 : Int32))).toNatClampNeg]? = some (.long (fld (0 : Int64) pi10 pi16 (0 : Int32))) := Ha34.at hin34 (own_getA0 P18)
  have f35 : Arv Z h24 pa2 pk9 .int (3 : Int32) ([(.int pi10), (.int pi11), (.int pi12)]) (.int 0) := (f15.other W24 P34)
  obtain ⟨cl36, Ar36, qc36, Sz36, Nn36, Ha36, Gg36⟩ := (id f35)
  have hin36 : ¬ ((1 : Int32) < 0 ∨ cl36.slots.size ≤ ((1 : Int32)).toNatClampNeg) := inb_of Sz36 ⟨by decide, by decide⟩
  have hat36 : cl36.slots[((1 : Int32)).toNatClampNeg]? = some (.int pi11) := Ha36.at hin36 rfl
  obtain ⟨T37, X37, e37, st37⟩ := getF X31 hx hZ hown (host := "") (Or.inl (ow hw 129 rfl)) Via.refl e31 f26 (g := (mkF m 56 #[(vr pa1), (vr pa2), (vr pa3), (vi pi4), (vi 1)] [(.ref pa1), (.long (pi11.toInt64)), (.long (fld (0 : Int64) pi10 pi16 (0 : Int32))), (.int (pi4 + (0 : Int32))), (.ref pa3)])) rfl rfl (hb hby d26_56)
  obtain ⟨cl38, Ar38, qc38, Sz38, Nn38, Ha38, Gg38⟩ := (id f28)
  have hin38 : ¬ ((1 : Int32) < 0 ∨ cl38.slots.size ≤ ((1 : Int32)).toNatClampNeg) := inb_of Sz38 ⟨by decide, by decide⟩
  have hat38 : cl38.slots[((1 : Int32)).toNatClampNeg]? = some (.int pi17) := Ha38.at hin38 rfl
  have f39 : Fld Z h24 pa1 s9n "shift" "[I" (.ref pa7) := (f19.other W24 (Or.inl P29))
  obtain ⟨T40, X40, e40, st40⟩ := getF X37 hx hZ hown (host := "") (Or.inl (ow hw 133 rfl)) Via.refl e37 f39 (g := (mkF m 65 #[(vr pa1), (vr pa2), (vr pa3), (vi pi4), (vi 1)] [(.ref pa1), (.long ((pi11.toInt64) - (pi17.toInt64))), (.long (fld (0 : Int64) pi10 pi16 (0 : Int32))), (.int (pi4 + (0 : Int32))), (.ref pa3)])) rfl rfl (hb hby d26_65)
  have f41 : Arv Z h24 pa7 pk23 .int (3 : Int32) ([(.int 0), (.int pi24), (.int pi25)]) (.int 0) := (f21.other W24 (Ne.symm P41))
  obtain ⟨cl42, Ar42, qc42, Sz42, Nn42, Ha42, Gg42⟩ := (id f41)
  have hin42 : ¬ ((1 : Int32) < 0 ∨ cl42.slots.size ≤ ((1 : Int32)).toNatClampNeg) := inb_of Sz42 ⟨by decide, by decide⟩
  have hat42 : cl42.slots[((1 : Int32)).toNatClampNeg]? = some (.int pi24) := Ha42.at hin42 rfl
  have pre43 : ∀ t, Steps p.tables e below (T40.setTop (mkF m 73 #[(vr pa1), (vr pa2), (vr pa3), (vi pi4), (vi 1)] [(.long (fld (fld (0 : Int64) pi10 pi16 (0 : Int32)) pi11 pi17 pi24)), (.int (pi4 + (0 : Int32))), (.ref pa3)])) t → Steps p.tables e below (s₁.setTop (entryFrame m #[(.ref pa1), (.ref pa2), (.ref pa3), (.int pi4)] 5)) t := by
    intro t k
    refine pre23 t ?_
    show Steps p.tables e below (T20.setTop (mkF m 73 #[(vr pa1), (vr pa2), (vr pa3), (vi pi4), (vi 0)] [(.long (fld (0 : Int64) pi10 pi16 (0 : Int32))), (.int (pi4 + (0 : Int32))), (.ref pa3)])) _
    refine st24 _ ?_
    refine XS.iinc X24.here hx rfl (hb hby d26_74) rfl (l' := #[(vr pa1), (vr pa2), (vr pa3), (vi pi4), (vi 1)]) rfl ?_
    refine XS.goto X24.here hx rfl (pc0 := 77) (pc' := 28) rfl (hb hby d26_77) (by decide) (by decide) ?_
    refine XS.iload X24.here hx rfl (hb hby d26_28) rfl ?_
    refine XS.aloadN X24.here hx rfl (hb hby d26_30) rfl rfl ?_
    refine st27 _ ?_
    refine X27.arraylength hx (by rw [e27]; exact Ar29.1) (State.isArrayOf_alike hZ.alike Ar29.2.1) (g := (mkF m 34 #[(vr pa1), (vr pa2), (vr pa3), (vi pi4), (vi 1)] [(.ref pa5), (.int 1)])) rfl rfl (hb hby d26_34) _ ?_
    rw [len_of Sz29 Nn29]
    refine XS.icmpNo X27.here hx rfl (hb hby d26_35) rfl (tlt (by decide : (1 : Int32) < (3 : Int32))).2.1 ?_
    refine XS.aloadN X27.here hx rfl (hb hby d26_38) rfl rfl ?_
    refine XS.iloadN X27.here hx rfl (hb hby d26_39) rfl ?_
    refine XS.aloadN X27.here hx rfl (hb hby d26_40) rfl rfl ?_
    refine st31 _ ?_
    refine XS.iload X31.here hx rfl (hb hby d26_44) rfl ?_
    refine X31.iaload hx (j := (1 : Int32)) (v := (.int 0)) (by rw [e31]; exact Ar33.1) (State.isArrayOf_alike hZ.alike Ar33.2.1) Ar33.2.2 hin33 hat33 (g := (mkF m 46 #[(vr pa1), (vr pa2), (vr pa3), (vi pi4), (vi 1)] [(.int 1), (.ref pa8), (.int pi4), (.ref pa3)])) rfl rfl (hb hby d26_46) _ ?_
    show Steps p.tables e below (T31.setTop (mkF m 47 #[(vr pa1), (vr pa2), (vr pa3), (vi pi4), (vi 1)] [(.int 0), (.int pi4), (.ref pa3)])) _
    refine XS.iadd X31.here hx rfl (hb hby d26_47) rfl ?_
    refine XT.dup2 X31.here hx rfl (hb hby d26_48) rfl rfl rfl ?_
    refine X31.laload hx (j := (pi4 + (0 : Int32))) (v := (.long (fld (0 : Int64) pi10 pi16 (0 : Int32)))) (by rw [e31]; exact Ar34.1) (State.isArrayOf_alike hZ.alike Ar34.2.1) Ar34.2.2 hin34 hat34 (g := (mkF m 49 #[(vr pa1), (vr pa2), (vr pa3), (vi pi4), (vi 1)] [(.int (pi4 + (0 : Int32))), (.ref pa3), (.int (pi4 + (0 : Int32))), (.ref pa3)])) rfl rfl (hb hby d26_49) _ ?_
    refine XS.aloadN X31.here hx rfl (hb hby d26_50) rfl rfl ?_
    refine XS.iload X31.here hx rfl (hb hby d26_51) rfl ?_
    refine X31.iaload hx (j := (1 : Int32)) (v := (.int pi11)) (by rw [e31]; exact Ar36.1) (State.isArrayOf_alike hZ.alike Ar36.2.1) Ar36.2.2 hin36 hat36 (g := (mkF m 53 #[(vr pa1), (vr pa2), (vr pa3), (vi pi4), (vi 1)] [(.int 1), (.ref pa2), (.long (fld (0 : Int64) pi10 pi16 (0 : Int32))), (.int (pi4 + (0 : Int32))), (.ref pa3)])) rfl rfl (hb hby d26_53) _ ?_
    refine XS.i2l X31.here hx rfl (hb hby d26_54) rfl ?_
    refine XS.aloadN X31.here hx rfl (hb hby d26_55) rfl rfl ?_
    refine st37 _ ?_
    refine XS.iload X37.here hx rfl (hb hby d26_59) rfl ?_
    refine X37.iaload hx (j := (1 : Int32)) (v := (.int pi17)) (by rw [e37]; exact Ar38.1) (State.isArrayOf_alike hZ.alike Ar38.2.1) Ar38.2.2 hin38 hat38 (g := (mkF m 61 #[(vr pa1), (vr pa2), (vr pa3), (vi pi4), (vi 1)] [(.int 1), (.ref pa5), (.long (pi11.toInt64)), (.long (fld (0 : Int64) pi10 pi16 (0 : Int32))), (.int (pi4 + (0 : Int32))), (.ref pa3)])) rfl rfl (hb hby d26_61) _ ?_
    refine XS.i2l X37.here hx rfl (hb hby d26_62) rfl ?_
    refine XS.lsub X37.here hx rfl (hb hby d26_63) rfl ?_
    refine XS.aloadN X37.here hx rfl (hb hby d26_64) rfl rfl ?_
    show Steps p.tables e below (T37.setTop (mkF m 65 #[(vr pa1), (vr pa2), (vr pa3), (vi pi4), (vi 1)] [(.ref pa1), (.long ((pi11.toInt64) - (pi17.toInt64))), (.long (fld (0 : Int64) pi10 pi16 (0 : Int32))), (.int (pi4 + (0 : Int32))), (.ref pa3)])) _
    refine st40 _ ?_
    refine XS.iload X40.here hx rfl (hb hby d26_68) rfl ?_
    refine X40.iaload hx (j := (1 : Int32)) (v := (.int pi24)) (by rw [e40]; exact Ar42.1) (State.isArrayOf_alike hZ.alike Ar42.2.1) Ar42.2.2 hin42 hat42 (g := (mkF m 70 #[(vr pa1), (vr pa2), (vr pa3), (vi pi4), (vi 1)] [(.int 1), (.ref pa7), (.long ((pi11.toInt64) - (pi17.toInt64))), (.long (fld (0 : Int64) pi10 pi16 (0 : Int32))), (.int (pi4 + (0 : Int32))), (.ref pa3)])) rfl rfl (hb hby d26_70) _ ?_
    refine XS.lshl X40.here hx rfl (hb hby d26_71) rfl ?_
    refine XS.lor X40.here hx rfl (hb hby d26_72) rfl ?_
    rw [(show ((fld (0 : Int64) pi10 pi16 (0 : Int32)) ||| (((pi11.toInt64) - (pi17.toInt64)) <<< (pi24 &&& 0x3f).toInt64)) = (fld (fld (0 : Int64) pi10 pi16 (0 : Int32)) pi11 pi17 pi24) from rfl)]
    exact k
  obtain ⟨cl44, Ar44, qc44, Sz44, Nn44, Ha44, Gg44⟩ := (id V24)
  have hin44 : ¬ ((pi4 + (0 : Int32)) < 0 ∨ cl44.slots.size ≤ ((pi4 + (0 : Int32))).toNatClampNeg) := own_inb6 P18 (Or.inl rfl) Sz44
  obtain ⟨T44, h44, X44, e44, W44, st44⟩ := stJ X40 hx hZ e40 Ar44 (j := (pi4 + (0 : Int32))) hin44 (g := (mkF m 73 #[(vr pa1), (vr pa2), (vr pa3), (vi pi4), (vi 1)] [(.long (fld (fld (0 : Int64) pi10 pi16 (0 : Int32)) pi11 pi17 pi24)), (.int (pi4 + (0 : Int32))), (.ref pa3)])) rfl rfl (hb hby d26_73)
  have O45 : Old Z n0 h44 := O25.wr W44 P23
  have K45 : Keep h0 h44 [pa3] := K25.wr W44 (Or.inl (List.mem_of_getElem? (i := 0) rfl))
  have V44 : Arv Z h44 pa3 pk13 .long (6 : Int32) ([(.long (sA pi4 (0 : Int32) (fld (fld (0 : Int64) pi10 pi16 (0 : Int32)) pi11 pi17 pi24) pj14)), (.long (sA pi4 (1 : Int32) (fld (fld (0 : Int64) pi10 pi16 (0 : Int32)) pi11 pi17 pi24) pj14)), (.long (sA pi4 (2 : Int32) (fld (fld (0 : Int64) pi10 pi16 (0 : Int32)) pi11 pi17 pi24) pj14)), (.long (sA pi4 (3 : Int32) (fld (fld (0 : Int64) pi10 pi16 (0 : Int32)) pi11 pi17 pi24) pj14)), (.long (sA pi4 (4 : Int32) (fld (fld (0 : Int64) pi10 pi16 (0 : Int32)) pi11 pi17 pi24) pj14)), (.long (sA pi4 (5 : Int32) (fld (fld (0 : Int64) pi10 pi16 (0 : Int32)) pi11 pi17 pi24) pj14))]) (.long 0) := own_cast (own_setA0 P18) (Arv.set Ar44 qc44 Sz44 Nn44 Ha44 Gg44 (v := (.long (fld (fld (0 : Int64) pi10 pi16 (0 : Int32)) pi11 pi17 pi24))) rfl W44 ((pi4 + (0 : Int32))).toNatClampNeg rfl (own_lt6 P18 (Or.inl rfl)))
  have N44 := Fr.snoc X44 N24 P23
  have f46 : Fld Z h44 pa1 s9n "low" "[I" (.ref pa5) := (f26.other W44 (Or.inl P29))
  obtain ⟨T47, X47, e47, st47⟩ := getF X44 hx hZ hown (host := "") (Or.inl (ow hw 129 rfl)) Via.refl e44 f46 (g := (mkF m 31 #[(vr pa1), (vr pa2), (vr pa3), (vi pi4), (vi 2)] [(.ref pa1), (.int 2)])) rfl rfl (hb hby d26_31)
  have f48 : Arv Z h44 pa5 pk15 .int (3 : Int32) ([(.int pi16), (.int pi17), (.int pi18)]) (.int 0) := (f28.other W44 (Ne.symm P39))
  obtain ⟨cl49, Ar49, -, Sz49, Nn49, -, -⟩ := (id f48)
  have f50 : Fld Z h44 pa1 s9n "word" "[I" (.ref pa8) := (f30.other W44 (Or.inl P29))
  obtain ⟨T51, X51, e51, st51⟩ := getF X47 hx hZ hown (host := "") (Or.inl (ow hw 131 rfl)) Via.refl e47 f50 (g := (mkF m 41 #[(vr pa1), (vr pa2), (vr pa3), (vi pi4), (vi 2)] [(.ref pa1), (.int pi4), (.ref pa3)])) rfl rfl (hb hby d26_41)
  have f52 : Arv Z h44 pa8 pk26 .int (3 : Int32) ([(.int 0), (.int 0), (.int 0)]) (.int 0) := (f32.other W44 (Ne.symm P42))
  obtain ⟨cl53, Ar53, qc53, Sz53, Nn53, Ha53, Gg53⟩ := (id f52)
  have hin53 : ¬ ((2 : Int32) < 0 ∨ cl53.slots.size ≤ ((2 : Int32)).toNatClampNeg) := inb_of Sz53 ⟨by decide, by decide⟩
  have hat53 : cl53.slots[((2 : Int32)).toNatClampNeg]? = some (.int 0) := Ha53.at hin53 rfl
  obtain ⟨cl54, Ar54, qc54, Sz54, Nn54, Ha54, Gg54⟩ := (id V44)
  have hin54 : ¬ ((pi4 + (0 : Int32)) < 0 ∨ cl54.slots.size ≤ ((pi4 + (0 : Int32))).toNatClampNeg) := own_inb6 P18 (Or.inl rfl) Sz54
  have hat54 : cl54.slots[((pi4 + (0 : Int32))).toNatClampNeg]? = some (.long (fld (fld (0 : Int64) pi10 pi16 (0 : Int32)) pi11 pi17 pi24)) := Ha54.at hin54 (own_getA0 P18)
  have f55 : Arv Z h44 pa2 pk9 .int (3 : Int32) ([(.int pi10), (.int pi11), (.int pi12)]) (.int 0) := (f35.other W44 P34)
  obtain ⟨cl56, Ar56, qc56, Sz56, Nn56, Ha56, Gg56⟩ := (id f55)
  have hin56 : ¬ ((2 : Int32) < 0 ∨ cl56.slots.size ≤ ((2 : Int32)).toNatClampNeg) := inb_of Sz56 ⟨by decide, by decide⟩
  have hat56 : cl56.slots[((2 : Int32)).toNatClampNeg]? = some (.int pi12) := Ha56.at hin56 rfl
  obtain ⟨T57, X57, e57, st57⟩ := getF X51 hx hZ hown (host := "") (Or.inl (ow hw 129 rfl)) Via.refl e51 f46 (g := (mkF m 56 #[(vr pa1), (vr pa2), (vr pa3), (vi pi4), (vi 2)] [(.ref pa1), (.long (pi12.toInt64)), (.long (fld (fld (0 : Int64) pi10 pi16 (0 : Int32)) pi11 pi17 pi24)), (.int (pi4 + (0 : Int32))), (.ref pa3)])) rfl rfl (hb hby d26_56)
  obtain ⟨cl58, Ar58, qc58, Sz58, Nn58, Ha58, Gg58⟩ := (id f48)
  have hin58 : ¬ ((2 : Int32) < 0 ∨ cl58.slots.size ≤ ((2 : Int32)).toNatClampNeg) := inb_of Sz58 ⟨by decide, by decide⟩
  have hat58 : cl58.slots[((2 : Int32)).toNatClampNeg]? = some (.int pi18) := Ha58.at hin58 rfl
  have f59 : Fld Z h44 pa1 s9n "shift" "[I" (.ref pa7) := (f39.other W44 (Or.inl P29))
  obtain ⟨T60, X60, e60, st60⟩ := getF X57 hx hZ hown (host := "") (Or.inl (ow hw 133 rfl)) Via.refl e57 f59 (g := (mkF m 65 #[(vr pa1), (vr pa2), (vr pa3), (vi pi4), (vi 2)] [(.ref pa1), (.long ((pi12.toInt64) - (pi18.toInt64))), (.long (fld (fld (0 : Int64) pi10 pi16 (0 : Int32)) pi11 pi17 pi24)), (.int (pi4 + (0 : Int32))), (.ref pa3)])) rfl rfl (hb hby d26_65)
  have f61 : Arv Z h44 pa7 pk23 .int (3 : Int32) ([(.int 0), (.int pi24), (.int pi25)]) (.int 0) := (f41.other W44 (Ne.symm P41))
  obtain ⟨cl62, Ar62, qc62, Sz62, Nn62, Ha62, Gg62⟩ := (id f61)
  have hin62 : ¬ ((2 : Int32) < 0 ∨ cl62.slots.size ≤ ((2 : Int32)).toNatClampNeg) := inb_of Sz62 ⟨by decide, by decide⟩
  have hat62 : cl62.slots[((2 : Int32)).toNatClampNeg]? = some (.int pi25) := Ha62.at hin62 rfl
  have pre63 : ∀ t, Steps p.tables e below (T60.setTop (mkF m 73 #[(vr pa1), (vr pa2), (vr pa3), (vi pi4), (vi 2)] [(.long (fld (fld (fld (0 : Int64) pi10 pi16 (0 : Int32)) pi11 pi17 pi24) pi12 pi18 pi25)), (.int (pi4 + (0 : Int32))), (.ref pa3)])) t → Steps p.tables e below (s₁.setTop (entryFrame m #[(.ref pa1), (.ref pa2), (.ref pa3), (.int pi4)] 5)) t := by
    intro t k
    refine pre43 t ?_
    show Steps p.tables e below (T40.setTop (mkF m 73 #[(vr pa1), (vr pa2), (vr pa3), (vi pi4), (vi 1)] [(.long (fld (fld (0 : Int64) pi10 pi16 (0 : Int32)) pi11 pi17 pi24)), (.int (pi4 + (0 : Int32))), (.ref pa3)])) _
    refine st44 _ ?_
    refine XS.iinc X44.here hx rfl (hb hby d26_74) rfl (l' := #[(vr pa1), (vr pa2), (vr pa3), (vi pi4), (vi 2)]) rfl ?_
    refine XS.goto X44.here hx rfl (pc0 := 77) (pc' := 28) rfl (hb hby d26_77) (by decide) (by decide) ?_
    refine XS.iload X44.here hx rfl (hb hby d26_28) rfl ?_
    refine XS.aloadN X44.here hx rfl (hb hby d26_30) rfl rfl ?_
    refine st47 _ ?_
    refine X47.arraylength hx (by rw [e47]; exact Ar49.1) (State.isArrayOf_alike hZ.alike Ar49.2.1) (g := (mkF m 34 #[(vr pa1), (vr pa2), (vr pa3), (vi pi4), (vi 2)] [(.ref pa5), (.int 2)])) rfl rfl (hb hby d26_34) _ ?_
    rw [len_of Sz49 Nn49]
    refine XS.icmpNo X47.here hx rfl (hb hby d26_35) rfl (tlt (by decide : (2 : Int32) < (3 : Int32))).2.1 ?_
    refine XS.aloadN X47.here hx rfl (hb hby d26_38) rfl rfl ?_
    refine XS.iloadN X47.here hx rfl (hb hby d26_39) rfl ?_
    refine XS.aloadN X47.here hx rfl (hb hby d26_40) rfl rfl ?_
    refine st51 _ ?_
    refine XS.iload X51.here hx rfl (hb hby d26_44) rfl ?_
    refine X51.iaload hx (j := (2 : Int32)) (v := (.int 0)) (by rw [e51]; exact Ar53.1) (State.isArrayOf_alike hZ.alike Ar53.2.1) Ar53.2.2 hin53 hat53 (g := (mkF m 46 #[(vr pa1), (vr pa2), (vr pa3), (vi pi4), (vi 2)] [(.int 2), (.ref pa8), (.int pi4), (.ref pa3)])) rfl rfl (hb hby d26_46) _ ?_
    show Steps p.tables e below (T51.setTop (mkF m 47 #[(vr pa1), (vr pa2), (vr pa3), (vi pi4), (vi 2)] [(.int 0), (.int pi4), (.ref pa3)])) _
    refine XS.iadd X51.here hx rfl (hb hby d26_47) rfl ?_
    refine XT.dup2 X51.here hx rfl (hb hby d26_48) rfl rfl rfl ?_
    refine X51.laload hx (j := (pi4 + (0 : Int32))) (v := (.long (fld (fld (0 : Int64) pi10 pi16 (0 : Int32)) pi11 pi17 pi24))) (by rw [e51]; exact Ar54.1) (State.isArrayOf_alike hZ.alike Ar54.2.1) Ar54.2.2 hin54 hat54 (g := (mkF m 49 #[(vr pa1), (vr pa2), (vr pa3), (vi pi4), (vi 2)] [(.int (pi4 + (0 : Int32))), (.ref pa3), (.int (pi4 + (0 : Int32))), (.ref pa3)])) rfl rfl (hb hby d26_49) _ ?_
    refine XS.aloadN X51.here hx rfl (hb hby d26_50) rfl rfl ?_
    refine XS.iload X51.here hx rfl (hb hby d26_51) rfl ?_
    refine X51.iaload hx (j := (2 : Int32)) (v := (.int pi12)) (by rw [e51]; exact Ar56.1) (State.isArrayOf_alike hZ.alike Ar56.2.1) Ar56.2.2 hin56 hat56 (g := (mkF m 53 #[(vr pa1), (vr pa2), (vr pa3), (vi pi4), (vi 2)] [(.int 2), (.ref pa2), (.long (fld (fld (0 : Int64) pi10 pi16 (0 : Int32)) pi11 pi17 pi24)), (.int (pi4 + (0 : Int32))), (.ref pa3)])) rfl rfl (hb hby d26_53) _ ?_
    refine XS.i2l X51.here hx rfl (hb hby d26_54) rfl ?_
    refine XS.aloadN X51.here hx rfl (hb hby d26_55) rfl rfl ?_
    refine st57 _ ?_
    refine XS.iload X57.here hx rfl (hb hby d26_59) rfl ?_
    refine X57.iaload hx (j := (2 : Int32)) (v := (.int pi18)) (by rw [e57]; exact Ar58.1) (State.isArrayOf_alike hZ.alike Ar58.2.1) Ar58.2.2 hin58 hat58 (g := (mkF m 61 #[(vr pa1), (vr pa2), (vr pa3), (vi pi4), (vi 2)] [(.int 2), (.ref pa5), (.long (pi12.toInt64)), (.long (fld (fld (0 : Int64) pi10 pi16 (0 : Int32)) pi11 pi17 pi24)), (.int (pi4 + (0 : Int32))), (.ref pa3)])) rfl rfl (hb hby d26_61) _ ?_
    refine XS.i2l X57.here hx rfl (hb hby d26_62) rfl ?_
    refine XS.lsub X57.here hx rfl (hb hby d26_63) rfl ?_
    refine XS.aloadN X57.here hx rfl (hb hby d26_64) rfl rfl ?_
    show Steps p.tables e below (T57.setTop (mkF m 65 #[(vr pa1), (vr pa2), (vr pa3), (vi pi4), (vi 2)] [(.ref pa1), (.long ((pi12.toInt64) - (pi18.toInt64))), (.long (fld (fld (0 : Int64) pi10 pi16 (0 : Int32)) pi11 pi17 pi24)), (.int (pi4 + (0 : Int32))), (.ref pa3)])) _
    refine st60 _ ?_
    refine XS.iload X60.here hx rfl (hb hby d26_68) rfl ?_
    refine X60.iaload hx (j := (2 : Int32)) (v := (.int pi25)) (by rw [e60]; exact Ar62.1) (State.isArrayOf_alike hZ.alike Ar62.2.1) Ar62.2.2 hin62 hat62 (g := (mkF m 70 #[(vr pa1), (vr pa2), (vr pa3), (vi pi4), (vi 2)] [(.int 2), (.ref pa7), (.long ((pi12.toInt64) - (pi18.toInt64))), (.long (fld (fld (0 : Int64) pi10 pi16 (0 : Int32)) pi11 pi17 pi24)), (.int (pi4 + (0 : Int32))), (.ref pa3)])) rfl rfl (hb hby d26_70) _ ?_
    refine XS.lshl X60.here hx rfl (hb hby d26_71) rfl ?_
    refine XS.lor X60.here hx rfl (hb hby d26_72) rfl ?_
    rw [(show ((fld (fld (0 : Int64) pi10 pi16 (0 : Int32)) pi11 pi17 pi24) ||| (((pi12.toInt64) - (pi18.toInt64)) <<< (pi25 &&& 0x3f).toInt64)) = (fld (fld (fld (0 : Int64) pi10 pi16 (0 : Int32)) pi11 pi17 pi24) pi12 pi18 pi25) from rfl)]
    exact k
  obtain ⟨cl64, Ar64, qc64, Sz64, Nn64, Ha64, Gg64⟩ := (id V44)
  have hin64 : ¬ ((pi4 + (0 : Int32)) < 0 ∨ cl64.slots.size ≤ ((pi4 + (0 : Int32))).toNatClampNeg) := own_inb6 P18 (Or.inl rfl) Sz64
  obtain ⟨T64, h64, X64, e64, W64, st64⟩ := stJ X60 hx hZ e60 Ar64 (j := (pi4 + (0 : Int32))) hin64 (g := (mkF m 73 #[(vr pa1), (vr pa2), (vr pa3), (vi pi4), (vi 2)] [(.long (fld (fld (fld (0 : Int64) pi10 pi16 (0 : Int32)) pi11 pi17 pi24) pi12 pi18 pi25)), (.int (pi4 + (0 : Int32))), (.ref pa3)])) rfl rfl (hb hby d26_73)
  have O65 : Old Z n0 h64 := O45.wr W64 P23
  have K65 : Keep h0 h64 [pa3] := K45.wr W64 (Or.inl (List.mem_of_getElem? (i := 0) rfl))
  have V64 : Arv Z h64 pa3 pk13 .long (6 : Int32) ([(.long (sA pi4 (0 : Int32) (fld (fld (fld (0 : Int64) pi10 pi16 (0 : Int32)) pi11 pi17 pi24) pi12 pi18 pi25) pj14)), (.long (sA pi4 (1 : Int32) (fld (fld (fld (0 : Int64) pi10 pi16 (0 : Int32)) pi11 pi17 pi24) pi12 pi18 pi25) pj14)), (.long (sA pi4 (2 : Int32) (fld (fld (fld (0 : Int64) pi10 pi16 (0 : Int32)) pi11 pi17 pi24) pi12 pi18 pi25) pj14)), (.long (sA pi4 (3 : Int32) (fld (fld (fld (0 : Int64) pi10 pi16 (0 : Int32)) pi11 pi17 pi24) pi12 pi18 pi25) pj14)), (.long (sA pi4 (4 : Int32) (fld (fld (fld (0 : Int64) pi10 pi16 (0 : Int32)) pi11 pi17 pi24) pi12 pi18 pi25) pj14)), (.long (sA pi4 (5 : Int32) (fld (fld (fld (0 : Int64) pi10 pi16 (0 : Int32)) pi11 pi17 pi24) pi12 pi18 pi25) pj14))]) (.long 0) := own_cast (own_setA0 P18) (Arv.set Ar64 qc64 Sz64 Nn64 Ha64 Gg64 (v := (.long (fld (fld (fld (0 : Int64) pi10 pi16 (0 : Int32)) pi11 pi17 pi24) pi12 pi18 pi25))) rfl W64 ((pi4 + (0 : Int32))).toNatClampNeg rfl (own_lt6 P18 (Or.inl rfl)))
  have N64 := Fr.snoc X64 N44 P23
  have f66 : Fld Z h64 pa1 s9n "low" "[I" (.ref pa5) := (f46.other W64 (Or.inl P29))
  obtain ⟨T67, X67, e67, st67⟩ := getF X64 hx hZ hown (host := "") (Or.inl (ow hw 129 rfl)) Via.refl e64 f66 (g := (mkF m 31 #[(vr pa1), (vr pa2), (vr pa3), (vi pi4), (vi 3)] [(.ref pa1), (.int 3)])) rfl rfl (hb hby d26_31)
  have f68 : Arv Z h64 pa5 pk15 .int (3 : Int32) ([(.int pi16), (.int pi17), (.int pi18)]) (.int 0) := (f48.other W64 (Ne.symm P39))
  obtain ⟨cl69, Ar69, -, Sz69, Nn69, -, -⟩ := (id f68)
  have f70 : Exa Z h64 pa3 "[J" := ((((P9.wr W2).wr W24).wr W44).wr W64)
  obtain ⟨fs, hr, hrun, hended, hW, hsame⟩ := X67.leave (v := none) (fun _ => rfl)
  refine ⟨_, _, pre63 _ ?_, hrun, hended, _, _, rfl, ?_, ⟨_, rfl⟩, hW, hsame.mono (by decide) (by decide)⟩
  · skip
    show Steps p.tables e below (T60.setTop (mkF m 73 #[(vr pa1), (vr pa2), (vr pa3), (vi pi4), (vi 2)] [(.long (fld (fld (fld (0 : Int64) pi10 pi16 (0 : Int32)) pi11 pi17 pi24) pi12 pi18 pi25)), (.int (pi4 + (0 : Int32))), (.ref pa3)])) _
    refine st64 _ ?_
    refine XS.iinc X64.here hx rfl (hb hby d26_74) rfl (l' := #[(vr pa1), (vr pa2), (vr pa3), (vi pi4), (vi 3)]) rfl ?_
    refine XS.goto X64.here hx rfl (pc0 := 77) (pc' := 28) rfl (hb hby d26_77) (by decide) (by decide) ?_
    refine XS.iload X64.here hx rfl (hb hby d26_28) rfl ?_
    refine XS.aloadN X64.here hx rfl (hb hby d26_30) rfl rfl ?_
    refine st67 _ ?_
    refine X67.arraylength hx (by rw [e67]; exact Ar69.1) (State.isArrayOf_alike hZ.alike Ar69.2.1) (g := (mkF m 34 #[(vr pa1), (vr pa2), (vr pa3), (vi pi4), (vi 3)] [(.ref pa5), (.int 3)])) rfl rfl (hb hby d26_34) _ ?_
    rw [len_of Sz69 Nn69]
    refine XS.icmpYes X67.here hx rfl (pc0 := 35) (pc' := 80) rfl (hb hby d26_35) rfl (flt (by decide : ¬ ((3 : Int32) < (3 : Int32)))).2.1 (by decide) (by decide) ?_
    exact X67.returnOut hx hret0 (hb hby d26_80) hr
  · show Q_au26_1 Z wINTEGER wDOUBLE wBOOLEAN wD kwD pa1 pa2 pa3 pi4 pa5 pa7 pa8 pk9 pi10 pi11 pi12 pk13 pj14 pk15 pi16 pi17 pi18 pk23 pi24 pi25 pk26 h0 n0 _ T67.heap _
    rw [e67]
    exact ⟨rfl, N64, K65, f70, V64⟩
theorem ef_au27_1 (m : MethodId) (x0 : Addr)  : entryFrame m #[(.ref x0)] 1 = mkF m 0 #[(vr x0)] [] := by first | (simp [entryFrame, mkF, argsToLocals, Value.category]; done) | rfl
def Q_au27_1 (Z : State) (wINTEGER : Addr) (wDOUBLE : Addr) (wBOOLEAN : Addr) (wD : Addr) (kwD : ClassId) (pa1 : Addr) (h0 : Heap) (n0 : Nat) (v : Option Value) (h : Heap) (L : List Loc) : Prop := v = some (.int 1) ∧ Fr n0 L ∧ h = h0
theorem au27_1 (l : Launch) (Z : State) (a0 : Array Value) (hw : ∀ d ∈ tables_1, d.before a0 Z = true) (ws : List Jvm.Cond) (wINTEGER : Addr) (wDOUBLE : Addr) (wBOOLEAN : Addr) (wD : Addr) (kwD : ClassId) (hS : SS Z wINTEGER wDOUBLE wBOOLEAN wD kwD) (pa1 : Addr) (h0 : Heap) (n0 : Nat) (O0 : Old Z n0 h0) (P5 : Fld Z h0 pa1 s9n s10n "I" (.int 1)) :
    MetB l M28 prog_105_method_2_code 1 (some .int) ws (rmk 0 0 0 0) Z h0 #[(.ref pa1)] (Q_au27_1 Z wINTEGER wDOUBLE wBOOLEAN wD kwD pa1 h0 n0) := by
  refine own_body (plainFor_of_name pn_com_example_lanc_lanc_model_VariableLayout) ?_
  intro p e s m below meth c s₁ hx hby hml hown hnm hret0 hlk0 hZ X0 e0
  have N0 := Fr.nil n0
  have pre0 : ∀ t, Steps p.tables e below (s₁.setTop (mkF m 0 #[(vr pa1)] [])) t → Steps p.tables e below (s₁.setTop (entryFrame m #[(.ref pa1)] 1)) t := fun t k => castTop (ef_au27_1 m pa1) k
  have hS0 := hS
  obtain ⟨S_wINTEGER, E_wINTEGER, S_wDOUBLE, E_wDOUBLE, S_wBOOLEAN, E_wBOOLEAN, F_ordinal_wINTEGER, F_ordinal_wDOUBLE, F_ordinal_wBOOLEAN, S_wD, E_wD, V_wD⟩ := hS0
  obtain ⟨T1, X1, e1, st1⟩ := getF X0 hx hZ hown (host := "") (Or.inl (ow hw 181 rfl)) Via.refl e0 P5 (g := (mkF m 1 #[(vr pa1)] [(.ref pa1)])) rfl rfl (hb hby d27_1)
  obtain ⟨fs, hr, hrun, hended, hW, hsame⟩ := X1.leave (v := some (.int 1)) (fun h => by rw [hret0] at h; cases h)
  refine ⟨_, _, pre0 _ ?_, hrun, hended, _, _, rfl, ?_, ⟨_, rfl⟩, hW, hsame.mono (by decide) (by decide)⟩
  · skip
    show Steps p.tables e below (s₁.setTop (mkF m 0 #[(vr pa1)] [])) _
    refine XS.aloadN X0.here hx rfl (hb hby d27_0) rfl rfl ?_
    refine st1 _ ?_
    exact retI X1 hx hret0 (hb hby d27_4) hr
  · show Q_au27_1 Z wINTEGER wDOUBLE wBOOLEAN wD kwD pa1 h0 n0 _ T1.heap _
    rw [e1]
    exact ⟨rfl, N0, rfl⟩
theorem ef_au29_3 (m : MethodId) (x0 : Addr) (x1 : Addr) (x2 : Int32) (x3 : Int32)  : entryFrame m #[(.ref x0), (.ref x1), (.int x2), (.int x3)] 6 = mkF m 0 #[(vr x0), (vr x1), (vi x2), (vi x3), .unset, .unset] [] := by first | (simp [entryFrame, mkF, argsToLocals, Value.category]; done) | rfl
def Q_au29_3 (Z : State) (wINTEGER : Addr) (wDOUBLE : Addr) (wBOOLEAN : Addr) (wD : Addr) (kwD : ClassId) (pa1 : Addr) (pa2 : Addr) (pi3 : Int32) (pa4 : Addr) (pa5 : Addr) (pa6 : Addr) (pa7 : Addr) (pk8 : ClassId) (pj9 : Int64) (pj10 : Int64) (pk11 : ClassId) (pi12 : Int32) (pi13 : Int32) (pi14 : Int32) (pk15 : ClassId) (pj16 : Int64) (pj17 : Int64) (pj18 : Int64) (pk19 : ClassId) (pi20 : Int32) (pi21 : Int32) (pk22 : ClassId) (h0 : Heap) (n0 : Nat) (v : Option Value) (h : Heap) (L : List Loc) : Prop := v = some (.int (pi12 + ((((pj9.toUInt64 >>> ((0 : Int32) &&& 0x3f).toInt64.toUInt64).toInt64) &&& pj16).toInt32))) ∧ Fr n0 L ∧ h = h0
theorem au29_3 (l : Launch) (Z : State) (a0 : Array Value) (hw : ∀ d ∈ tables_1, d.before a0 Z = true) (ws : List Jvm.Cond) (wINTEGER : Addr) (wDOUBLE : Addr) (wBOOLEAN : Addr) (wD : Addr) (kwD : ClassId) (hS : SS Z wINTEGER wDOUBLE wBOOLEAN wD kwD) (pa1 : Addr) (pa2 : Addr) (pi3 : Int32) (pa4 : Addr) (pa5 : Addr) (pa6 : Addr) (pa7 : Addr) (pk8 : ClassId) (pj9 : Int64) (pj10 : Int64) (pk11 : ClassId) (pi12 : Int32) (pi13 : Int32) (pi14 : Int32) (pk15 : ClassId) (pj16 : Int64) (pj17 : Int64) (pj18 : Int64) (pk19 : ClassId) (pi20 : Int32) (pi21 : Int32) (pk22 : ClassId) (h0 : Heap) (n0 : Nat) (O0 : Old Z n0 h0) (P1 : Fld Z h0 pa1 s9n "low" "[I" (.ref pa4)) (P2 : Fld Z h0 pa1 s9n "mask" "[J" (.ref pa5)) (P3 : Fld Z h0 pa1 s9n "shift" "[I" (.ref pa6)) (P4 : Fld Z h0 pa1 s9n "word" "[I" (.ref pa7)) (P6 : Arv Z h0 pa2 pk8 .long (6 : Int32) ([(.long (sA pi3 (0 : Int32) pj9 pj10)), (.long (sA pi3 (1 : Int32) pj9 pj10)), (.long (sA pi3 (2 : Int32) pj9 pj10)), (.long (sA pi3 (3 : Int32) pj9 pj10)), (.long (sA pi3 (4 : Int32) pj9 pj10)), (.long (sA pi3 (5 : Int32) pj9 pj10))]) (.long 0)) (P8 : Arv Z h0 pa4 pk11 .int (3 : Int32) ([(.int pi12), (.int pi13), (.int pi14)]) (.int 0)) (P10 : Arv Z h0 pa5 pk15 .long (3 : Int32) ([(.long pj16), (.long pj17), (.long pj18)]) (.long 0)) (P12 : Arv Z h0 pa6 pk19 .int (3 : Int32) ([(.int 0), (.int pi20), (.int pi21)]) (.int 0)) (P14 : Arv Z h0 pa7 pk22 .int (3 : Int32) ([(.int 0), (.int 0), (.int 0)]) (.int 0)) (P16 : inO pi3) :
    MetB l M29 prog_105_method_5_code 6 (some .int) ws (rmk 0 0 0 0) Z h0 #[(.ref pa1), (.ref pa2), (.int pi3), (.int 0)] (Q_au29_3 Z wINTEGER wDOUBLE wBOOLEAN wD kwD pa1 pa2 pi3 pa4 pa5 pa6 pa7 pk8 pj9 pj10 pk11 pi12 pi13 pi14 pk15 pj16 pj17 pj18 pk19 pi20 pi21 pk22 h0 n0) := by
  refine own_body (plainFor_of_name pn_com_example_lanc_lanc_model_VariableLayout) ?_
  intro p e s m below meth c s₁ hx hby hml hown hnm hret0 hlk0 hZ X0 e0
  have N0 := Fr.nil n0
  have pre0 : ∀ t, Steps p.tables e below (s₁.setTop (mkF m 0 #[(vr pa1), (vr pa2), (vi pi3), (vi 0), .unset, .unset] [])) t → Steps p.tables e below (s₁.setTop (entryFrame m #[(.ref pa1), (.ref pa2), (.int pi3), (.int 0)] 6)) t := fun t k => castTop (ef_au29_3 m pa1 pa2 pi3 (0 : Int32)) k
  have hS0 := hS
  obtain ⟨S_wINTEGER, E_wINTEGER, S_wDOUBLE, E_wDOUBLE, S_wBOOLEAN, E_wBOOLEAN, F_ordinal_wINTEGER, F_ordinal_wDOUBLE, F_ordinal_wBOOLEAN, S_wD, E_wD, V_wD⟩ := hS0
  obtain ⟨T1, X1, e1, st1⟩ := getF X0 hx hZ hown (host := "") (Or.inl (ow hw 131 rfl)) Via.refl e0 P4 (g := (mkF m 3 #[(vr pa1), (vr pa2), (vi pi3), (vi 0), .unset, .unset] [(.ref pa1), (.int pi3), (.ref pa2)])) rfl rfl (hb hby d29_3)
  obtain ⟨cl2, Ar2, qc2, Sz2, Nn2, Ha2, Gg2⟩ := (id P14)
  have hin2 : ¬ ((0 : Int32) < 0 ∨ cl2.slots.size ≤ ((0 : Int32)).toNatClampNeg) := inb_of Sz2 ⟨by decide, by decide⟩
  have hat2 : cl2.slots[((0 : Int32)).toNatClampNeg]? = some (.int 0) := Ha2.at hin2 rfl
  obtain ⟨cl3, Ar3, qc3, Sz3, Nn3, Ha3, Gg3⟩ := (id P6)
  have hin3 : ¬ ((pi3 + (0 : Int32)) < 0 ∨ cl3.slots.size ≤ ((pi3 + (0 : Int32))).toNatClampNeg) := own_inb6 P16 (Or.inl rfl) Sz3
  have hat3 : cl3.slots[((pi3 + (0 : Int32))).toNatClampNeg]? = some (.long pj9) := Ha3.at hin3 (own_getA0 P16)
  obtain ⟨T4, X4, e4, st4⟩ := getF X1 hx hZ hown (host := "") (Or.inl (ow hw 133 rfl)) Via.refl e1 P3 (g := (mkF m 11 #[(vr pa1), (vr pa2), (vi pi3), (vi 0), .unset, .unset] [(.ref pa1), (.long pj9)])) rfl rfl (hb hby d29_11)
  obtain ⟨cl5, Ar5, qc5, Sz5, Nn5, Ha5, Gg5⟩ := (id P12)
  have hin5 : ¬ ((0 : Int32) < 0 ∨ cl5.slots.size ≤ ((0 : Int32)).toNatClampNeg) := inb_of Sz5 ⟨by decide, by decide⟩
  have hat5 : cl5.slots[((0 : Int32)).toNatClampNeg]? = some (.int 0) := Ha5.at hin5 rfl
  obtain ⟨T6, X6, e6, st6⟩ := getF X4 hx hZ hown (host := "") (Or.inl (ow hw 136 rfl)) Via.refl e4 P2 (g := (mkF m 18 #[(vr pa1), (vr pa2), (vi pi3), (vi 0), .unset, .unset] [(.ref pa1), (.long ((pj9.toUInt64 >>> ((0 : Int32) &&& 0x3f).toInt64.toUInt64).toInt64))])) rfl rfl (hb hby d29_18)
  obtain ⟨cl7, Ar7, qc7, Sz7, Nn7, Ha7, Gg7⟩ := (id P10)
  have hin7 : ¬ ((0 : Int32) < 0 ∨ cl7.slots.size ≤ ((0 : Int32)).toNatClampNeg) := inb_of Sz7 ⟨by decide, by decide⟩
  have hat7 : cl7.slots[((0 : Int32)).toNatClampNeg]? = some (.long pj16) := Ha7.at hin7 rfl
  obtain ⟨T8, X8, e8, st8⟩ := getF X6 hx hZ hown (host := "") (Or.inl (ow hw 129 rfl)) Via.refl e6 P1 (g := (mkF m 27 #[(vr pa1), (vr pa2), (vi pi3), (vi 0), .val (.long (((pj9.toUInt64 >>> ((0 : Int32) &&& 0x3f).toInt64.toUInt64).toInt64) &&& pj16)), .second] [(.ref pa1)])) rfl rfl (hb hby d29_27)
  obtain ⟨cl9, Ar9, qc9, Sz9, Nn9, Ha9, Gg9⟩ := (id P8)
  have hin9 : ¬ ((0 : Int32) < 0 ∨ cl9.slots.size ≤ ((0 : Int32)).toNatClampNeg) := inb_of Sz9 ⟨by decide, by decide⟩
  have hat9 : cl9.slots[((0 : Int32)).toNatClampNeg]? = some (.int pi12) := Ha9.at hin9 rfl
  obtain ⟨fs, hr, hrun, hended, hW, hsame⟩ := X8.leave (v := some (.int (pi12 + ((((pj9.toUInt64 >>> ((0 : Int32) &&& 0x3f).toInt64.toUInt64).toInt64) &&& pj16).toInt32)))) (fun h => by rw [hret0] at h; cases h)
  refine ⟨_, _, pre0 _ ?_, hrun, hended, _, _, rfl, ?_, ⟨_, rfl⟩, hW, hsame.mono (by decide) (by decide)⟩
  · skip
    show Steps p.tables e below (s₁.setTop (mkF m 0 #[(vr pa1), (vr pa2), (vi pi3), (vi 0), .unset, .unset] [])) _
    refine XS.aloadN X0.here hx rfl (hb hby d29_0) rfl rfl ?_
    refine XS.iloadN X0.here hx rfl (hb hby d29_1) rfl ?_
    refine XS.aloadN X0.here hx rfl (hb hby d29_2) rfl rfl ?_
    refine st1 _ ?_
    refine XS.iloadN X1.here hx rfl (hb hby d29_6) rfl ?_
    refine X1.iaload hx (j := (0 : Int32)) (v := (.int 0)) (by rw [e1]; exact Ar2.1) (State.isArrayOf_alike hZ.alike Ar2.2.1) Ar2.2.2 hin2 hat2 (g := (mkF m 7 #[(vr pa1), (vr pa2), (vi pi3), (vi 0), .unset, .unset] [(.int 0), (.ref pa7), (.int pi3), (.ref pa2)])) rfl rfl (hb hby d29_7) _ ?_
    refine XS.iadd X1.here hx rfl (hb hby d29_8) rfl ?_
    refine X1.laload hx (j := (pi3 + (0 : Int32))) (v := (.long pj9)) (by rw [e1]; exact Ar3.1) (State.isArrayOf_alike hZ.alike Ar3.2.1) Ar3.2.2 hin3 hat3 (g := (mkF m 9 #[(vr pa1), (vr pa2), (vi pi3), (vi 0), .unset, .unset] [(.int (pi3 + (0 : Int32))), (.ref pa2)])) rfl rfl (hb hby d29_9) _ ?_
    refine XS.aloadN X1.here hx rfl (hb hby d29_10) rfl rfl ?_
    refine st4 _ ?_
    refine XS.iloadN X4.here hx rfl (hb hby d29_14) rfl ?_
    refine X4.iaload hx (j := (0 : Int32)) (v := (.int 0)) (by rw [e4]; exact Ar5.1) (State.isArrayOf_alike hZ.alike Ar5.2.1) Ar5.2.2 hin5 hat5 (g := (mkF m 15 #[(vr pa1), (vr pa2), (vi pi3), (vi 0), .unset, .unset] [(.int 0), (.ref pa6), (.long pj9)])) rfl rfl (hb hby d29_15) _ ?_
    refine XS.lushr X4.here hx rfl (hb hby d29_16) rfl ?_
    refine XS.aloadN X4.here hx rfl (hb hby d29_17) rfl rfl ?_
    show Steps p.tables e below (T4.setTop (mkF m 18 #[(vr pa1), (vr pa2), (vi pi3), (vi 0), .unset, .unset] [(.ref pa1), (.long ((pj9.toUInt64 >>> ((0 : Int32) &&& 0x3f).toInt64.toUInt64).toInt64))])) _
    refine st6 _ ?_
    refine XS.iloadN X6.here hx rfl (hb hby d29_21) rfl ?_
    refine X6.laload hx (j := (0 : Int32)) (v := (.long pj16)) (by rw [e6]; exact Ar7.1) (State.isArrayOf_alike hZ.alike Ar7.2.1) Ar7.2.2 hin7 hat7 (g := (mkF m 22 #[(vr pa1), (vr pa2), (vi pi3), (vi 0), .unset, .unset] [(.int 0), (.ref pa5), (.long ((pj9.toUInt64 >>> ((0 : Int32) &&& 0x3f).toInt64.toUInt64).toInt64))])) rfl rfl (hb hby d29_22) _ ?_
    refine XS.land X6.here hx rfl (hb hby d29_23) rfl ?_
    refine XS.lstore X6.here hx rfl (hb hby d29_24) rfl (l' := #[(vr pa1), (vr pa2), (vi pi3), (vi 0), .val (.long (((pj9.toUInt64 >>> ((0 : Int32) &&& 0x3f).toInt64.toUInt64).toInt64) &&& pj16)), .second]) rfl ?_
    refine XS.aloadN X6.here hx rfl (hb hby d29_26) rfl rfl ?_
    refine st8 _ ?_
    refine XS.iloadN X8.here hx rfl (hb hby d29_30) rfl ?_
    refine X8.iaload hx (j := (0 : Int32)) (v := (.int pi12)) (by rw [e8]; exact Ar9.1) (State.isArrayOf_alike hZ.alike Ar9.2.1) Ar9.2.2 hin9 hat9 (g := (mkF m 31 #[(vr pa1), (vr pa2), (vi pi3), (vi 0), .val (.long (((pj9.toUInt64 >>> ((0 : Int32) &&& 0x3f).toInt64.toUInt64).toInt64) &&& pj16)), .second] [(.int 0), (.ref pa4)])) rfl rfl (hb hby d29_31) _ ?_
    refine XS.lload X8.here hx rfl (hb hby d29_32) rfl ?_
    refine XS.l2i X8.here hx rfl (hb hby d29_34) rfl ?_
    refine XS.iadd X8.here hx rfl (hb hby d29_35) rfl ?_
    exact retI X8 hx hret0 (hb hby d29_36) hr
  · show Q_au29_3 Z wINTEGER wDOUBLE wBOOLEAN wD kwD pa1 pa2 pi3 pa4 pa5 pa6 pa7 pk8 pj9 pj10 pk11 pi12 pi13 pi14 pk15 pj16 pj17 pj18 pk19 pi20 pi21 pk22 h0 n0 _ T8.heap _
    rw [e8]
    exact ⟨rfl, N0, rfl⟩
theorem ef_au29_4 (m : MethodId) (x0 : Addr) (x1 : Addr) (x2 : Int32) (x3 : Int32)  : entryFrame m #[(.ref x0), (.ref x1), (.int x2), (.int x3)] 6 = mkF m 0 #[(vr x0), (vr x1), (vi x2), (vi x3), .unset, .unset] [] := by first | (simp [entryFrame, mkF, argsToLocals, Value.category]; done) | rfl
def Q_au29_4 (Z : State) (wINTEGER : Addr) (wDOUBLE : Addr) (wBOOLEAN : Addr) (wD : Addr) (kwD : ClassId) (pa1 : Addr) (pa2 : Addr) (pi3 : Int32) (pa4 : Addr) (pa5 : Addr) (pa6 : Addr) (pa7 : Addr) (pk8 : ClassId) (pj9 : Int64) (pj10 : Int64) (pk11 : ClassId) (pi12 : Int32) (pi13 : Int32) (pi14 : Int32) (pk15 : ClassId) (pj16 : Int64) (pj17 : Int64) (pj18 : Int64) (pk19 : ClassId) (pi20 : Int32) (pi21 : Int32) (pk22 : ClassId) (h0 : Heap) (n0 : Nat) (v : Option Value) (h : Heap) (L : List Loc) : Prop := v = some (.int (pi13 + ((((pj9.toUInt64 >>> (pi20 &&& 0x3f).toInt64.toUInt64).toInt64) &&& pj17).toInt32))) ∧ Fr n0 L ∧ h = h0
theorem au29_4 (l : Launch) (Z : State) (a0 : Array Value) (hw : ∀ d ∈ tables_1, d.before a0 Z = true) (ws : List Jvm.Cond) (wINTEGER : Addr) (wDOUBLE : Addr) (wBOOLEAN : Addr) (wD : Addr) (kwD : ClassId) (hS : SS Z wINTEGER wDOUBLE wBOOLEAN wD kwD) (pa1 : Addr) (pa2 : Addr) (pi3 : Int32) (pa4 : Addr) (pa5 : Addr) (pa6 : Addr) (pa7 : Addr) (pk8 : ClassId) (pj9 : Int64) (pj10 : Int64) (pk11 : ClassId) (pi12 : Int32) (pi13 : Int32) (pi14 : Int32) (pk15 : ClassId) (pj16 : Int64) (pj17 : Int64) (pj18 : Int64) (pk19 : ClassId) (pi20 : Int32) (pi21 : Int32) (pk22 : ClassId) (h0 : Heap) (n0 : Nat) (O0 : Old Z n0 h0) (P1 : Fld Z h0 pa1 s9n "low" "[I" (.ref pa4)) (P2 : Fld Z h0 pa1 s9n "mask" "[J" (.ref pa5)) (P3 : Fld Z h0 pa1 s9n "shift" "[I" (.ref pa6)) (P4 : Fld Z h0 pa1 s9n "word" "[I" (.ref pa7)) (P6 : Arv Z h0 pa2 pk8 .long (6 : Int32) ([(.long (sA pi3 (0 : Int32) pj9 pj10)), (.long (sA pi3 (1 : Int32) pj9 pj10)), (.long (sA pi3 (2 : Int32) pj9 pj10)), (.long (sA pi3 (3 : Int32) pj9 pj10)), (.long (sA pi3 (4 : Int32) pj9 pj10)), (.long (sA pi3 (5 : Int32) pj9 pj10))]) (.long 0)) (P8 : Arv Z h0 pa4 pk11 .int (3 : Int32) ([(.int pi12), (.int pi13), (.int pi14)]) (.int 0)) (P10 : Arv Z h0 pa5 pk15 .long (3 : Int32) ([(.long pj16), (.long pj17), (.long pj18)]) (.long 0)) (P12 : Arv Z h0 pa6 pk19 .int (3 : Int32) ([(.int 0), (.int pi20), (.int pi21)]) (.int 0)) (P14 : Arv Z h0 pa7 pk22 .int (3 : Int32) ([(.int 0), (.int 0), (.int 0)]) (.int 0)) (P16 : inO pi3) :
    MetB l M29 prog_105_method_5_code 6 (some .int) ws (rmk 0 0 0 0) Z h0 #[(.ref pa1), (.ref pa2), (.int pi3), (.int 1)] (Q_au29_4 Z wINTEGER wDOUBLE wBOOLEAN wD kwD pa1 pa2 pi3 pa4 pa5 pa6 pa7 pk8 pj9 pj10 pk11 pi12 pi13 pi14 pk15 pj16 pj17 pj18 pk19 pi20 pi21 pk22 h0 n0) := by
  refine own_body (plainFor_of_name pn_com_example_lanc_lanc_model_VariableLayout) ?_
  intro p e s m below meth c s₁ hx hby hml hown hnm hret0 hlk0 hZ X0 e0
  have N0 := Fr.nil n0
  have pre0 : ∀ t, Steps p.tables e below (s₁.setTop (mkF m 0 #[(vr pa1), (vr pa2), (vi pi3), (vi 1), .unset, .unset] [])) t → Steps p.tables e below (s₁.setTop (entryFrame m #[(.ref pa1), (.ref pa2), (.int pi3), (.int 1)] 6)) t := fun t k => castTop (ef_au29_4 m pa1 pa2 pi3 (1 : Int32)) k
  have hS0 := hS
  obtain ⟨S_wINTEGER, E_wINTEGER, S_wDOUBLE, E_wDOUBLE, S_wBOOLEAN, E_wBOOLEAN, F_ordinal_wINTEGER, F_ordinal_wDOUBLE, F_ordinal_wBOOLEAN, S_wD, E_wD, V_wD⟩ := hS0
  obtain ⟨T1, X1, e1, st1⟩ := getF X0 hx hZ hown (host := "") (Or.inl (ow hw 131 rfl)) Via.refl e0 P4 (g := (mkF m 3 #[(vr pa1), (vr pa2), (vi pi3), (vi 1), .unset, .unset] [(.ref pa1), (.int pi3), (.ref pa2)])) rfl rfl (hb hby d29_3)
  obtain ⟨cl2, Ar2, qc2, Sz2, Nn2, Ha2, Gg2⟩ := (id P14)
  have hin2 : ¬ ((1 : Int32) < 0 ∨ cl2.slots.size ≤ ((1 : Int32)).toNatClampNeg) := inb_of Sz2 ⟨by decide, by decide⟩
  have hat2 : cl2.slots[((1 : Int32)).toNatClampNeg]? = some (.int 0) := Ha2.at hin2 rfl
  obtain ⟨cl3, Ar3, qc3, Sz3, Nn3, Ha3, Gg3⟩ := (id P6)
  have hin3 : ¬ ((pi3 + (0 : Int32)) < 0 ∨ cl3.slots.size ≤ ((pi3 + (0 : Int32))).toNatClampNeg) := own_inb6 P16 (Or.inl rfl) Sz3
  have hat3 : cl3.slots[((pi3 + (0 : Int32))).toNatClampNeg]? = some (.long pj9) := Ha3.at hin3 (own_getA0 P16)
  obtain ⟨T4, X4, e4, st4⟩ := getF X1 hx hZ hown (host := "") (Or.inl (ow hw 133 rfl)) Via.refl e1 P3 (g := (mkF m 11 #[(vr pa1), (vr pa2), (vi pi3), (vi 1), .unset, .unset] [(.ref pa1), (.long pj9)])) rfl rfl (hb hby d29_11)
  obtain ⟨cl5, Ar5, qc5, Sz5, Nn5, Ha5, Gg5⟩ := (id P12)
  have hin5 : ¬ ((1 : Int32) < 0 ∨ cl5.slots.size ≤ ((1 : Int32)).toNatClampNeg) := inb_of Sz5 ⟨by decide, by decide⟩
  have hat5 : cl5.slots[((1 : Int32)).toNatClampNeg]? = some (.int pi20) := Ha5.at hin5 rfl
  obtain ⟨T6, X6, e6, st6⟩ := getF X4 hx hZ hown (host := "") (Or.inl (ow hw 136 rfl)) Via.refl e4 P2 (g := (mkF m 18 #[(vr pa1), (vr pa2), (vi pi3), (vi 1), .unset, .unset] [(.ref pa1), (.long ((pj9.toUInt64 >>> (pi20 &&& 0x3f).toInt64.toUInt64).toInt64))])) rfl rfl (hb hby d29_18)
  obtain ⟨cl7, Ar7, qc7, Sz7, Nn7, Ha7, Gg7⟩ := (id P10)
  have hin7 : ¬ ((1 : Int32) < 0 ∨ cl7.slots.size ≤ ((1 : Int32)).toNatClampNeg) := inb_of Sz7 ⟨by decide, by decide⟩
  have hat7 : cl7.slots[((1 : Int32)).toNatClampNeg]? = some (.long pj17) := Ha7.at hin7 rfl
  obtain ⟨T8, X8, e8, st8⟩ := getF X6 hx hZ hown (host := "") (Or.inl (ow hw 129 rfl)) Via.refl e6 P1 (g := (mkF m 27 #[(vr pa1), (vr pa2), (vi pi3), (vi 1), .val (.long (((pj9.toUInt64 >>> (pi20 &&& 0x3f).toInt64.toUInt64).toInt64) &&& pj17)), .second] [(.ref pa1)])) rfl rfl (hb hby d29_27)
  obtain ⟨cl9, Ar9, qc9, Sz9, Nn9, Ha9, Gg9⟩ := (id P8)
  have hin9 : ¬ ((1 : Int32) < 0 ∨ cl9.slots.size ≤ ((1 : Int32)).toNatClampNeg) := inb_of Sz9 ⟨by decide, by decide⟩
  have hat9 : cl9.slots[((1 : Int32)).toNatClampNeg]? = some (.int pi13) := Ha9.at hin9 rfl
  obtain ⟨fs, hr, hrun, hended, hW, hsame⟩ := X8.leave (v := some (.int (pi13 + ((((pj9.toUInt64 >>> (pi20 &&& 0x3f).toInt64.toUInt64).toInt64) &&& pj17).toInt32)))) (fun h => by rw [hret0] at h; cases h)
  refine ⟨_, _, pre0 _ ?_, hrun, hended, _, _, rfl, ?_, ⟨_, rfl⟩, hW, hsame.mono (by decide) (by decide)⟩
  · skip
    show Steps p.tables e below (s₁.setTop (mkF m 0 #[(vr pa1), (vr pa2), (vi pi3), (vi 1), .unset, .unset] [])) _
    refine XS.aloadN X0.here hx rfl (hb hby d29_0) rfl rfl ?_
    refine XS.iloadN X0.here hx rfl (hb hby d29_1) rfl ?_
    refine XS.aloadN X0.here hx rfl (hb hby d29_2) rfl rfl ?_
    refine st1 _ ?_
    refine XS.iloadN X1.here hx rfl (hb hby d29_6) rfl ?_
    refine X1.iaload hx (j := (1 : Int32)) (v := (.int 0)) (by rw [e1]; exact Ar2.1) (State.isArrayOf_alike hZ.alike Ar2.2.1) Ar2.2.2 hin2 hat2 (g := (mkF m 7 #[(vr pa1), (vr pa2), (vi pi3), (vi 1), .unset, .unset] [(.int 1), (.ref pa7), (.int pi3), (.ref pa2)])) rfl rfl (hb hby d29_7) _ ?_
    refine XS.iadd X1.here hx rfl (hb hby d29_8) rfl ?_
    refine X1.laload hx (j := (pi3 + (0 : Int32))) (v := (.long pj9)) (by rw [e1]; exact Ar3.1) (State.isArrayOf_alike hZ.alike Ar3.2.1) Ar3.2.2 hin3 hat3 (g := (mkF m 9 #[(vr pa1), (vr pa2), (vi pi3), (vi 1), .unset, .unset] [(.int (pi3 + (0 : Int32))), (.ref pa2)])) rfl rfl (hb hby d29_9) _ ?_
    refine XS.aloadN X1.here hx rfl (hb hby d29_10) rfl rfl ?_
    refine st4 _ ?_
    refine XS.iloadN X4.here hx rfl (hb hby d29_14) rfl ?_
    refine X4.iaload hx (j := (1 : Int32)) (v := (.int pi20)) (by rw [e4]; exact Ar5.1) (State.isArrayOf_alike hZ.alike Ar5.2.1) Ar5.2.2 hin5 hat5 (g := (mkF m 15 #[(vr pa1), (vr pa2), (vi pi3), (vi 1), .unset, .unset] [(.int 1), (.ref pa6), (.long pj9)])) rfl rfl (hb hby d29_15) _ ?_
    refine XS.lushr X4.here hx rfl (hb hby d29_16) rfl ?_
    refine XS.aloadN X4.here hx rfl (hb hby d29_17) rfl rfl ?_
    show Steps p.tables e below (T4.setTop (mkF m 18 #[(vr pa1), (vr pa2), (vi pi3), (vi 1), .unset, .unset] [(.ref pa1), (.long ((pj9.toUInt64 >>> (pi20 &&& 0x3f).toInt64.toUInt64).toInt64))])) _
    refine st6 _ ?_
    refine XS.iloadN X6.here hx rfl (hb hby d29_21) rfl ?_
    refine X6.laload hx (j := (1 : Int32)) (v := (.long pj17)) (by rw [e6]; exact Ar7.1) (State.isArrayOf_alike hZ.alike Ar7.2.1) Ar7.2.2 hin7 hat7 (g := (mkF m 22 #[(vr pa1), (vr pa2), (vi pi3), (vi 1), .unset, .unset] [(.int 1), (.ref pa5), (.long ((pj9.toUInt64 >>> (pi20 &&& 0x3f).toInt64.toUInt64).toInt64))])) rfl rfl (hb hby d29_22) _ ?_
    refine XS.land X6.here hx rfl (hb hby d29_23) rfl ?_
    refine XS.lstore X6.here hx rfl (hb hby d29_24) rfl (l' := #[(vr pa1), (vr pa2), (vi pi3), (vi 1), .val (.long (((pj9.toUInt64 >>> (pi20 &&& 0x3f).toInt64.toUInt64).toInt64) &&& pj17)), .second]) rfl ?_
    refine XS.aloadN X6.here hx rfl (hb hby d29_26) rfl rfl ?_
    refine st8 _ ?_
    refine XS.iloadN X8.here hx rfl (hb hby d29_30) rfl ?_
    refine X8.iaload hx (j := (1 : Int32)) (v := (.int pi13)) (by rw [e8]; exact Ar9.1) (State.isArrayOf_alike hZ.alike Ar9.2.1) Ar9.2.2 hin9 hat9 (g := (mkF m 31 #[(vr pa1), (vr pa2), (vi pi3), (vi 1), .val (.long (((pj9.toUInt64 >>> (pi20 &&& 0x3f).toInt64.toUInt64).toInt64) &&& pj17)), .second] [(.int 1), (.ref pa4)])) rfl rfl (hb hby d29_31) _ ?_
    refine XS.lload X8.here hx rfl (hb hby d29_32) rfl ?_
    refine XS.l2i X8.here hx rfl (hb hby d29_34) rfl ?_
    refine XS.iadd X8.here hx rfl (hb hby d29_35) rfl ?_
    exact retI X8 hx hret0 (hb hby d29_36) hr
  · show Q_au29_4 Z wINTEGER wDOUBLE wBOOLEAN wD kwD pa1 pa2 pi3 pa4 pa5 pa6 pa7 pk8 pj9 pj10 pk11 pi12 pi13 pi14 pk15 pj16 pj17 pj18 pk19 pi20 pi21 pk22 h0 n0 _ T8.heap _
    rw [e8]
    exact ⟨rfl, N0, rfl⟩
theorem ef_au29_5 (m : MethodId) (x0 : Addr) (x1 : Addr) (x2 : Int32) (x3 : Int32)  : entryFrame m #[(.ref x0), (.ref x1), (.int x2), (.int x3)] 6 = mkF m 0 #[(vr x0), (vr x1), (vi x2), (vi x3), .unset, .unset] [] := by first | (simp [entryFrame, mkF, argsToLocals, Value.category]; done) | rfl
def Q_au29_5 (Z : State) (wINTEGER : Addr) (wDOUBLE : Addr) (wBOOLEAN : Addr) (wD : Addr) (kwD : ClassId) (pa1 : Addr) (pa2 : Addr) (pi3 : Int32) (pa4 : Addr) (pa5 : Addr) (pa6 : Addr) (pa7 : Addr) (pk8 : ClassId) (pj9 : Int64) (pj10 : Int64) (pk11 : ClassId) (pi12 : Int32) (pi13 : Int32) (pi14 : Int32) (pk15 : ClassId) (pj16 : Int64) (pj17 : Int64) (pj18 : Int64) (pk19 : ClassId) (pi20 : Int32) (pi21 : Int32) (pk22 : ClassId) (h0 : Heap) (n0 : Nat) (v : Option Value) (h : Heap) (L : List Loc) : Prop := v = some (.int (pi14 + ((((pj9.toUInt64 >>> (pi21 &&& 0x3f).toInt64.toUInt64).toInt64) &&& pj18).toInt32))) ∧ Fr n0 L ∧ h = h0
theorem au29_5 (l : Launch) (Z : State) (a0 : Array Value) (hw : ∀ d ∈ tables_1, d.before a0 Z = true) (ws : List Jvm.Cond) (wINTEGER : Addr) (wDOUBLE : Addr) (wBOOLEAN : Addr) (wD : Addr) (kwD : ClassId) (hS : SS Z wINTEGER wDOUBLE wBOOLEAN wD kwD) (pa1 : Addr) (pa2 : Addr) (pi3 : Int32) (pa4 : Addr) (pa5 : Addr) (pa6 : Addr) (pa7 : Addr) (pk8 : ClassId) (pj9 : Int64) (pj10 : Int64) (pk11 : ClassId) (pi12 : Int32) (pi13 : Int32) (pi14 : Int32) (pk15 : ClassId) (pj16 : Int64) (pj17 : Int64) (pj18 : Int64) (pk19 : ClassId) (pi20 : Int32) (pi21 : Int32) (pk22 : ClassId) (h0 : Heap) (n0 : Nat) (O0 : Old Z n0 h0) (P1 : Fld Z h0 pa1 s9n "low" "[I" (.ref pa4)) (P2 : Fld Z h0 pa1 s9n "mask" "[J" (.ref pa5)) (P3 : Fld Z h0 pa1 s9n "shift" "[I" (.ref pa6)) (P4 : Fld Z h0 pa1 s9n "word" "[I" (.ref pa7)) (P6 : Arv Z h0 pa2 pk8 .long (6 : Int32) ([(.long (sA pi3 (0 : Int32) pj9 pj10)), (.long (sA pi3 (1 : Int32) pj9 pj10)), (.long (sA pi3 (2 : Int32) pj9 pj10)), (.long (sA pi3 (3 : Int32) pj9 pj10)), (.long (sA pi3 (4 : Int32) pj9 pj10)), (.long (sA pi3 (5 : Int32) pj9 pj10))]) (.long 0)) (P8 : Arv Z h0 pa4 pk11 .int (3 : Int32) ([(.int pi12), (.int pi13), (.int pi14)]) (.int 0)) (P10 : Arv Z h0 pa5 pk15 .long (3 : Int32) ([(.long pj16), (.long pj17), (.long pj18)]) (.long 0)) (P12 : Arv Z h0 pa6 pk19 .int (3 : Int32) ([(.int 0), (.int pi20), (.int pi21)]) (.int 0)) (P14 : Arv Z h0 pa7 pk22 .int (3 : Int32) ([(.int 0), (.int 0), (.int 0)]) (.int 0)) (P16 : inO pi3) :
    MetB l M29 prog_105_method_5_code 6 (some .int) ws (rmk 0 0 0 0) Z h0 #[(.ref pa1), (.ref pa2), (.int pi3), (.int 2)] (Q_au29_5 Z wINTEGER wDOUBLE wBOOLEAN wD kwD pa1 pa2 pi3 pa4 pa5 pa6 pa7 pk8 pj9 pj10 pk11 pi12 pi13 pi14 pk15 pj16 pj17 pj18 pk19 pi20 pi21 pk22 h0 n0) := by
  refine own_body (plainFor_of_name pn_com_example_lanc_lanc_model_VariableLayout) ?_
  intro p e s m below meth c s₁ hx hby hml hown hnm hret0 hlk0 hZ X0 e0
  have N0 := Fr.nil n0
  have pre0 : ∀ t, Steps p.tables e below (s₁.setTop (mkF m 0 #[(vr pa1), (vr pa2), (vi pi3), (vi 2), .unset, .unset] [])) t → Steps p.tables e below (s₁.setTop (entryFrame m #[(.ref pa1), (.ref pa2), (.int pi3), (.int 2)] 6)) t := fun t k => castTop (ef_au29_5 m pa1 pa2 pi3 (2 : Int32)) k
  have hS0 := hS
  obtain ⟨S_wINTEGER, E_wINTEGER, S_wDOUBLE, E_wDOUBLE, S_wBOOLEAN, E_wBOOLEAN, F_ordinal_wINTEGER, F_ordinal_wDOUBLE, F_ordinal_wBOOLEAN, S_wD, E_wD, V_wD⟩ := hS0
  obtain ⟨T1, X1, e1, st1⟩ := getF X0 hx hZ hown (host := "") (Or.inl (ow hw 131 rfl)) Via.refl e0 P4 (g := (mkF m 3 #[(vr pa1), (vr pa2), (vi pi3), (vi 2), .unset, .unset] [(.ref pa1), (.int pi3), (.ref pa2)])) rfl rfl (hb hby d29_3)
  obtain ⟨cl2, Ar2, qc2, Sz2, Nn2, Ha2, Gg2⟩ := (id P14)
  have hin2 : ¬ ((2 : Int32) < 0 ∨ cl2.slots.size ≤ ((2 : Int32)).toNatClampNeg) := inb_of Sz2 ⟨by decide, by decide⟩
  have hat2 : cl2.slots[((2 : Int32)).toNatClampNeg]? = some (.int 0) := Ha2.at hin2 rfl
  obtain ⟨cl3, Ar3, qc3, Sz3, Nn3, Ha3, Gg3⟩ := (id P6)
  have hin3 : ¬ ((pi3 + (0 : Int32)) < 0 ∨ cl3.slots.size ≤ ((pi3 + (0 : Int32))).toNatClampNeg) := own_inb6 P16 (Or.inl rfl) Sz3
  have hat3 : cl3.slots[((pi3 + (0 : Int32))).toNatClampNeg]? = some (.long pj9) := Ha3.at hin3 (own_getA0 P16)
  obtain ⟨T4, X4, e4, st4⟩ := getF X1 hx hZ hown (host := "") (Or.inl (ow hw 133 rfl)) Via.refl e1 P3 (g := (mkF m 11 #[(vr pa1), (vr pa2), (vi pi3), (vi 2), .unset, .unset] [(.ref pa1), (.long pj9)])) rfl rfl (hb hby d29_11)
  obtain ⟨cl5, Ar5, qc5, Sz5, Nn5, Ha5, Gg5⟩ := (id P12)
  have hin5 : ¬ ((2 : Int32) < 0 ∨ cl5.slots.size ≤ ((2 : Int32)).toNatClampNeg) := inb_of Sz5 ⟨by decide, by decide⟩
  have hat5 : cl5.slots[((2 : Int32)).toNatClampNeg]? = some (.int pi21) := Ha5.at hin5 rfl
  obtain ⟨T6, X6, e6, st6⟩ := getF X4 hx hZ hown (host := "") (Or.inl (ow hw 136 rfl)) Via.refl e4 P2 (g := (mkF m 18 #[(vr pa1), (vr pa2), (vi pi3), (vi 2), .unset, .unset] [(.ref pa1), (.long ((pj9.toUInt64 >>> (pi21 &&& 0x3f).toInt64.toUInt64).toInt64))])) rfl rfl (hb hby d29_18)
  obtain ⟨cl7, Ar7, qc7, Sz7, Nn7, Ha7, Gg7⟩ := (id P10)
  have hin7 : ¬ ((2 : Int32) < 0 ∨ cl7.slots.size ≤ ((2 : Int32)).toNatClampNeg) := inb_of Sz7 ⟨by decide, by decide⟩
  have hat7 : cl7.slots[((2 : Int32)).toNatClampNeg]? = some (.long pj18) := Ha7.at hin7 rfl
  obtain ⟨T8, X8, e8, st8⟩ := getF X6 hx hZ hown (host := "") (Or.inl (ow hw 129 rfl)) Via.refl e6 P1 (g := (mkF m 27 #[(vr pa1), (vr pa2), (vi pi3), (vi 2), .val (.long (((pj9.toUInt64 >>> (pi21 &&& 0x3f).toInt64.toUInt64).toInt64) &&& pj18)), .second] [(.ref pa1)])) rfl rfl (hb hby d29_27)
  obtain ⟨cl9, Ar9, qc9, Sz9, Nn9, Ha9, Gg9⟩ := (id P8)
  have hin9 : ¬ ((2 : Int32) < 0 ∨ cl9.slots.size ≤ ((2 : Int32)).toNatClampNeg) := inb_of Sz9 ⟨by decide, by decide⟩
  have hat9 : cl9.slots[((2 : Int32)).toNatClampNeg]? = some (.int pi14) := Ha9.at hin9 rfl
  obtain ⟨fs, hr, hrun, hended, hW, hsame⟩ := X8.leave (v := some (.int (pi14 + ((((pj9.toUInt64 >>> (pi21 &&& 0x3f).toInt64.toUInt64).toInt64) &&& pj18).toInt32)))) (fun h => by rw [hret0] at h; cases h)
  refine ⟨_, _, pre0 _ ?_, hrun, hended, _, _, rfl, ?_, ⟨_, rfl⟩, hW, hsame.mono (by decide) (by decide)⟩
  · skip
    show Steps p.tables e below (s₁.setTop (mkF m 0 #[(vr pa1), (vr pa2), (vi pi3), (vi 2), .unset, .unset] [])) _
    refine XS.aloadN X0.here hx rfl (hb hby d29_0) rfl rfl ?_
    refine XS.iloadN X0.here hx rfl (hb hby d29_1) rfl ?_
    refine XS.aloadN X0.here hx rfl (hb hby d29_2) rfl rfl ?_
    refine st1 _ ?_
    refine XS.iloadN X1.here hx rfl (hb hby d29_6) rfl ?_
    refine X1.iaload hx (j := (2 : Int32)) (v := (.int 0)) (by rw [e1]; exact Ar2.1) (State.isArrayOf_alike hZ.alike Ar2.2.1) Ar2.2.2 hin2 hat2 (g := (mkF m 7 #[(vr pa1), (vr pa2), (vi pi3), (vi 2), .unset, .unset] [(.int 2), (.ref pa7), (.int pi3), (.ref pa2)])) rfl rfl (hb hby d29_7) _ ?_
    refine XS.iadd X1.here hx rfl (hb hby d29_8) rfl ?_
    refine X1.laload hx (j := (pi3 + (0 : Int32))) (v := (.long pj9)) (by rw [e1]; exact Ar3.1) (State.isArrayOf_alike hZ.alike Ar3.2.1) Ar3.2.2 hin3 hat3 (g := (mkF m 9 #[(vr pa1), (vr pa2), (vi pi3), (vi 2), .unset, .unset] [(.int (pi3 + (0 : Int32))), (.ref pa2)])) rfl rfl (hb hby d29_9) _ ?_
    refine XS.aloadN X1.here hx rfl (hb hby d29_10) rfl rfl ?_
    refine st4 _ ?_
    refine XS.iloadN X4.here hx rfl (hb hby d29_14) rfl ?_
    refine X4.iaload hx (j := (2 : Int32)) (v := (.int pi21)) (by rw [e4]; exact Ar5.1) (State.isArrayOf_alike hZ.alike Ar5.2.1) Ar5.2.2 hin5 hat5 (g := (mkF m 15 #[(vr pa1), (vr pa2), (vi pi3), (vi 2), .unset, .unset] [(.int 2), (.ref pa6), (.long pj9)])) rfl rfl (hb hby d29_15) _ ?_
    refine XS.lushr X4.here hx rfl (hb hby d29_16) rfl ?_
    refine XS.aloadN X4.here hx rfl (hb hby d29_17) rfl rfl ?_
    show Steps p.tables e below (T4.setTop (mkF m 18 #[(vr pa1), (vr pa2), (vi pi3), (vi 2), .unset, .unset] [(.ref pa1), (.long ((pj9.toUInt64 >>> (pi21 &&& 0x3f).toInt64.toUInt64).toInt64))])) _
    refine st6 _ ?_
    refine XS.iloadN X6.here hx rfl (hb hby d29_21) rfl ?_
    refine X6.laload hx (j := (2 : Int32)) (v := (.long pj18)) (by rw [e6]; exact Ar7.1) (State.isArrayOf_alike hZ.alike Ar7.2.1) Ar7.2.2 hin7 hat7 (g := (mkF m 22 #[(vr pa1), (vr pa2), (vi pi3), (vi 2), .unset, .unset] [(.int 2), (.ref pa5), (.long ((pj9.toUInt64 >>> (pi21 &&& 0x3f).toInt64.toUInt64).toInt64))])) rfl rfl (hb hby d29_22) _ ?_
    refine XS.land X6.here hx rfl (hb hby d29_23) rfl ?_
    refine XS.lstore X6.here hx rfl (hb hby d29_24) rfl (l' := #[(vr pa1), (vr pa2), (vi pi3), (vi 2), .val (.long (((pj9.toUInt64 >>> (pi21 &&& 0x3f).toInt64.toUInt64).toInt64) &&& pj18)), .second]) rfl ?_
    refine XS.aloadN X6.here hx rfl (hb hby d29_26) rfl rfl ?_
    refine st8 _ ?_
    refine XS.iloadN X8.here hx rfl (hb hby d29_30) rfl ?_
    refine X8.iaload hx (j := (2 : Int32)) (v := (.int pi14)) (by rw [e8]; exact Ar9.1) (State.isArrayOf_alike hZ.alike Ar9.2.1) Ar9.2.2 hin9 hat9 (g := (mkF m 31 #[(vr pa1), (vr pa2), (vi pi3), (vi 2), .val (.long (((pj9.toUInt64 >>> (pi21 &&& 0x3f).toInt64.toUInt64).toInt64) &&& pj18)), .second] [(.int 2), (.ref pa4)])) rfl rfl (hb hby d29_31) _ ?_
    refine XS.lload X8.here hx rfl (hb hby d29_32) rfl ?_
    refine XS.l2i X8.here hx rfl (hb hby d29_34) rfl ?_
    refine XS.iadd X8.here hx rfl (hb hby d29_35) rfl ?_
    exact retI X8 hx hret0 (hb hby d29_36) hr
  · show Q_au29_5 Z wINTEGER wDOUBLE wBOOLEAN wD kwD pa1 pa2 pi3 pa4 pa5 pa6 pa7 pk8 pj9 pj10 pk11 pi12 pi13 pi14 pk15 pj16 pj17 pj18 pk19 pi20 pi21 pk22 h0 n0 _ T8.heap _
    rw [e8]
    exact ⟨rfl, N0, rfl⟩
def Q_rm0 (Z : State) (wINTEGER : Addr) (wDOUBLE : Addr) (wBOOLEAN : Addr) (wD : Addr) (kwD : ClassId) (p0 : Int64) (p1 : Int64) (p2 : Int64) (p3 : Int64) (p4 : Int64) (p5 : Int32) (h0 : Heap) (n0 : Nat) (v : Option Value) (h : Heap) (L : List Loc) : Prop := v = some (.int 1) ∧ Fr n0 L
theorem rm0 (l : Launch) (Z : State) (a0 : Array Value) (hw : ∀ d ∈ tables_1, d.before a0 Z = true) (ws : List Jvm.Cond) (wINTEGER : Addr) (wDOUBLE : Addr) (wBOOLEAN : Addr) (wD : Addr) (kwD : ClassId) (hS : SS Z wINTEGER wDOUBLE wBOOLEAN wD kwD) (p0 : Int64) (p1 : Int64) (p2 : Int64) (p3 : Int64) (p4 : Int64) (p5 : Int32) (h0 : Heap) (n0 : Nat) (O0 : Old Z n0 h0)  :
    MetBW l x code maxLocals ret ws room_1 Z h0 #[(.long p0), (.long p1), (.long p2), (.long p3), (.long p4), (.int p5)] (Q_rm0 Z wINTEGER wDOUBLE wBOOLEAN wD kwD p0 p1 p2 p3 p4 p5 h0 n0) := by
  refine own_bodyW (plainFor_of_name pn_com_example_lanc_lanc_model_VariableLayoutPackPinLaw) ?_
  intro p e s m below meth c s₁ hx hby hml hown hnm hret0 hlk0 hZ X0 e0 hS1
  have N0 := Fr.nil n0
  have pre0 : ∀ t, Steps p.tables e below (s₁.setTop (mkF m 0 #[(vl p0), .second, (vl p1), .second, (vl p2), .second, (vl p3), .second, (vl p4), .second, (vi p5), .unset, .unset, .unset, .unset, .unset, .unset, .unset, .unset, .unset, .unset, .unset, .unset, .unset, .unset, .unset, .unset, .unset, .unset, .unset, .unset, .unset, .unset, .unset, .unset, .unset, .unset, .unset] [])) t → Steps p.tables e below (s₁.setTop (entryFrame m #[(.long p0), (.long p1), (.long p2), (.long p3), (.long p4), (.int p5)] maxLocals)) t := fun t k => castTop (ef_rm0 m p0 p1 p2 p3 p4 p5) k
  have hS0 := hS
  obtain ⟨S_wINTEGER, E_wINTEGER, S_wDOUBLE, E_wDOUBLE, S_wBOOLEAN, E_wBOOLEAN, F_ordinal_wINTEGER, F_ordinal_wDOUBLE, F_ordinal_wBOOLEAN, S_wD, E_wD, V_wD⟩ := hS0
  obtain ⟨kk0, hkk0⟩ : ∃ z : Int32, z = ((p5 &&& (63 : Int32)) % (33 : Int32)) := ⟨_, rfl⟩
  have pre1 : ∀ t, Steps p.tables e below (s₁.setTop (mkF m 10 #[(vl p0), .second, (vl p1), .second, (vl p2), .second, (vl p3), .second, (vl p4), .second, (vi p5), (vi kk0), .unset, .unset, .unset, .unset, .unset, .unset, .unset, .unset, .unset, .unset, .unset, .unset, .unset, .unset, .unset, .unset, .unset, .unset, .unset, .unset, .unset, .unset, .unset, .unset, .unset, .unset] [])) t → Steps p.tables e below (s₁.setTop (entryFrame m #[(.long p0), (.long p1), (.long p2), (.long p3), (.long p4), (.int p5)] maxLocals)) t := by
    intro t k
    rw [hkk0] at k
    refine pre0 t ?_
    show Steps p.tables e below (s₁.setTop (mkF m 0 #[(vl p0), .second, (vl p1), .second, (vl p2), .second, (vl p3), .second, (vl p4), .second, (vi p5), .unset, .unset, .unset, .unset, .unset, .unset, .unset, .unset, .unset, .unset, .unset, .unset, .unset, .unset, .unset, .unset, .unset, .unset, .unset, .unset, .unset, .unset, .unset, .unset, .unset, .unset, .unset] [])) _
    refine XS.iload X0.here hx rfl (hb hby at_0) rfl ?_
    refine XS.bipush X0.here hx rfl (hb hby at_2) ?_
    refine XS.iand X0.here hx rfl (hb hby at_4) rfl ?_
    refine XS.bipush X0.here hx rfl (hb hby at_5) ?_
    refine iremM X0 hx rfl (hb hby at_7) rfl (by decide) ?_
    refine XS.istore X0.here hx rfl (hb hby at_8) rfl (l' := #[(vl p0), .second, (vl p1), .second, (vl p2), .second, (vl p3), .second, (vl p4), .second, (vi p5), .val (.int ((p5 &&& (63 : Int32)) % (33 : Int32))), .unset, .unset, .unset, .unset, .unset, .unset, .unset, .unset, .unset, .unset, .unset, .unset, .unset, .unset, .unset, .unset, .unset, .unset, .unset, .unset, .unset, .unset, .unset, .unset, .unset, .unset]) rfl ?_
    exact k
  obtain ⟨kk1, hkk1⟩ : ∃ z : Int32, z = ((((p5.toUInt32 >>> ((6 : Int32) &&& 31).toUInt32).toInt32) &&& (63 : Int32)) % (33 : Int32)) := ⟨_, rfl⟩
  have pre2 : ∀ t, Steps p.tables e below (s₁.setTop (mkF m 23 #[(vl p0), .second, (vl p1), .second, (vl p2), .second, (vl p3), .second, (vl p4), .second, (vi p5), (vi kk0), (vi kk1), .unset, .unset, .unset, .unset, .unset, .unset, .unset, .unset, .unset, .unset, .unset, .unset, .unset, .unset, .unset, .unset, .unset, .unset, .unset, .unset, .unset, .unset, .unset, .unset, .unset] [])) t → Steps p.tables e below (s₁.setTop (entryFrame m #[(.long p0), (.long p1), (.long p2), (.long p3), (.long p4), (.int p5)] maxLocals)) t := by
    intro t k
    rw [hkk1] at k
    refine pre1 t ?_
    show Steps p.tables e below (s₁.setTop (mkF m 10 #[(vl p0), .second, (vl p1), .second, (vl p2), .second, (vl p3), .second, (vl p4), .second, (vi p5), (vi kk0), .unset, .unset, .unset, .unset, .unset, .unset, .unset, .unset, .unset, .unset, .unset, .unset, .unset, .unset, .unset, .unset, .unset, .unset, .unset, .unset, .unset, .unset, .unset, .unset, .unset, .unset] [])) _
    refine XS.iload X0.here hx rfl (hb hby at_10) rfl ?_
    refine XS.bipush X0.here hx rfl (hb hby at_12) ?_
    refine XS.iushr X0.here hx rfl (hb hby at_14) rfl ?_
    refine XS.bipush X0.here hx rfl (hb hby at_15) ?_
    refine XS.iand X0.here hx rfl (hb hby at_17) rfl ?_
    refine XS.bipush X0.here hx rfl (hb hby at_18) ?_
    refine iremM X0 hx rfl (hb hby at_20) rfl (by decide) ?_
    refine XS.istore X0.here hx rfl (hb hby at_21) rfl (l' := #[(vl p0), .second, (vl p1), .second, (vl p2), .second, (vl p3), .second, (vl p4), .second, (vi p5), (vi kk0), .val (.int ((((p5.toUInt32 >>> ((6 : Int32) &&& 31).toUInt32).toInt32) &&& (63 : Int32)) % (33 : Int32))), .unset, .unset, .unset, .unset, .unset, .unset, .unset, .unset, .unset, .unset, .unset, .unset, .unset, .unset, .unset, .unset, .unset, .unset, .unset, .unset, .unset, .unset, .unset, .unset, .unset]) rfl ?_
    exact k
  obtain ⟨kk2, hkk2⟩ : ∃ z : Int32, z = ((((p5.toUInt32 >>> ((12 : Int32) &&& 31).toUInt32).toInt32) &&& (63 : Int32)) % (33 : Int32)) := ⟨_, rfl⟩
  have pre3 : ∀ t, Steps p.tables e below (s₁.setTop (mkF m 36 #[(vl p0), .second, (vl p1), .second, (vl p2), .second, (vl p3), .second, (vl p4), .second, (vi p5), (vi kk0), (vi kk1), (vi kk2), .unset, .unset, .unset, .unset, .unset, .unset, .unset, .unset, .unset, .unset, .unset, .unset, .unset, .unset, .unset, .unset, .unset, .unset, .unset, .unset, .unset, .unset, .unset, .unset] [])) t → Steps p.tables e below (s₁.setTop (entryFrame m #[(.long p0), (.long p1), (.long p2), (.long p3), (.long p4), (.int p5)] maxLocals)) t := by
    intro t k
    rw [hkk2] at k
    refine pre2 t ?_
    show Steps p.tables e below (s₁.setTop (mkF m 23 #[(vl p0), .second, (vl p1), .second, (vl p2), .second, (vl p3), .second, (vl p4), .second, (vi p5), (vi kk0), (vi kk1), .unset, .unset, .unset, .unset, .unset, .unset, .unset, .unset, .unset, .unset, .unset, .unset, .unset, .unset, .unset, .unset, .unset, .unset, .unset, .unset, .unset, .unset, .unset, .unset, .unset] [])) _
    refine XS.iload X0.here hx rfl (hb hby at_23) rfl ?_
    refine XS.bipush X0.here hx rfl (hb hby at_25) ?_
    refine XS.iushr X0.here hx rfl (hb hby at_27) rfl ?_
    refine XS.bipush X0.here hx rfl (hb hby at_28) ?_
    refine XS.iand X0.here hx rfl (hb hby at_30) rfl ?_
    refine XS.bipush X0.here hx rfl (hb hby at_31) ?_
    refine iremM X0 hx rfl (hb hby at_33) rfl (by decide) ?_
    refine XS.istore X0.here hx rfl (hb hby at_34) rfl (l' := #[(vl p0), .second, (vl p1), .second, (vl p2), .second, (vl p3), .second, (vl p4), .second, (vi p5), (vi kk0), (vi kk1), .val (.int ((((p5.toUInt32 >>> ((12 : Int32) &&& 31).toUInt32).toInt32) &&& (63 : Int32)) % (33 : Int32))), .unset, .unset, .unset, .unset, .unset, .unset, .unset, .unset, .unset, .unset, .unset, .unset, .unset, .unset, .unset, .unset, .unset, .unset, .unset, .unset, .unset, .unset, .unset, .unset]) rfl ?_
    exact k
  obtain ⟨yo, hyo⟩ : ∃ z : Int32, z = (((p5.toUInt32 >>> ((18 : Int32) &&& 31).toUInt32).toInt32) &&& (3 : Int32)) := ⟨_, rfl⟩
  have pre4 : ∀ t, Steps p.tables e below (s₁.setTop (mkF m 45 #[(vl p0), .second, (vl p1), .second, (vl p2), .second, (vl p3), .second, (vl p4), .second, (vi p5), (vi kk0), (vi kk1), (vi kk2), (vi yo), .unset, .unset, .unset, .unset, .unset, .unset, .unset, .unset, .unset, .unset, .unset, .unset, .unset, .unset, .unset, .unset, .unset, .unset, .unset, .unset, .unset, .unset, .unset] [])) t → Steps p.tables e below (s₁.setTop (entryFrame m #[(.long p0), (.long p1), (.long p2), (.long p3), (.long p4), (.int p5)] maxLocals)) t := by
    intro t k
    rw [hyo] at k
    refine pre3 t ?_
    show Steps p.tables e below (s₁.setTop (mkF m 36 #[(vl p0), .second, (vl p1), .second, (vl p2), .second, (vl p3), .second, (vl p4), .second, (vi p5), (vi kk0), (vi kk1), (vi kk2), .unset, .unset, .unset, .unset, .unset, .unset, .unset, .unset, .unset, .unset, .unset, .unset, .unset, .unset, .unset, .unset, .unset, .unset, .unset, .unset, .unset, .unset, .unset, .unset] [])) _
    refine XS.iload X0.here hx rfl (hb hby at_36) rfl ?_
    refine XS.bipush X0.here hx rfl (hb hby at_38) ?_
    refine XS.iushr X0.here hx rfl (hb hby at_40) rfl ?_
    refine XS.iconst X0.here hx rfl (hb hby at_41) ?_
    refine XS.iand X0.here hx rfl (hb hby at_42) rfl ?_
    refine XS.istore X0.here hx rfl (hb hby at_43) rfl (l' := #[(vl p0), .second, (vl p1), .second, (vl p2), .second, (vl p3), .second, (vl p4), .second, (vi p5), (vi kk0), (vi kk1), (vi kk2), .val (.int (((p5.toUInt32 >>> ((18 : Int32) &&& 31).toUInt32).toInt32) &&& (3 : Int32))), .unset, .unset, .unset, .unset, .unset, .unset, .unset, .unset, .unset, .unset, .unset, .unset, .unset, .unset, .unset, .unset, .unset, .unset, .unset, .unset, .unset, .unset, .unset]) rfl ?_
    exact k
  have hKK0 : inK kk0 := by rw [hkk0]; exact own_inK _
  have hKK1 : inK kk1 := by rw [hkk1]; exact own_inK _
  have hKK2 : inK kk2 := by rw [hkk2]; exact own_inK _
  have hO : inO yo := by rw [hyo]; exact own_O _
  have hle61 : ¬ (6 : Int32) < (yo + (1 : Int32)) := (own_le6 hO).1
  have hle62 : ¬ (6 : Int32) < (yo + (2 : Int32)) := (own_le6 hO).2
  have pre5 : ∀ t, Steps p.tables e below (s₁.setTop (mkF m 52 #[(vl p0), .second, (vl p1), .second, (vl p2), .second, (vl p3), .second, (vl p4), .second, (vi p5), (vi kk0), (vi kk1), (vi kk2), (vi yo), .unset, .unset, .unset, .unset, .unset, .unset, .unset, .unset, .unset, .unset, .unset, .unset, .unset, .unset, .unset, .unset, .unset, .unset, .unset, .unset, .unset, .unset, .unset] [(.int (((p5.toUInt32 >>> ((20 : Int32) &&& 31).toUInt32).toInt32) &&& (1 : Int32)))])) t → Steps p.tables e below (s₁.setTop (entryFrame m #[(.long p0), (.long p1), (.long p2), (.long p3), (.long p4), (.int p5)] maxLocals)) t := by
    intro t k
    refine pre4 t ?_
    show Steps p.tables e below (s₁.setTop (mkF m 45 #[(vl p0), .second, (vl p1), .second, (vl p2), .second, (vl p3), .second, (vl p4), .second, (vi p5), (vi kk0), (vi kk1), (vi kk2), (vi yo), .unset, .unset, .unset, .unset, .unset, .unset, .unset, .unset, .unset, .unset, .unset, .unset, .unset, .unset, .unset, .unset, .unset, .unset, .unset, .unset, .unset, .unset, .unset] [])) _
    refine XS.iload X0.here hx rfl (hb hby at_45) rfl ?_
    refine XS.bipush X0.here hx rfl (hb hby at_47) ?_
    refine XS.iushr X0.here hx rfl (hb hby at_49) rfl ?_
    refine XS.iconst X0.here hx rfl (hb hby at_50) ?_
    refine XS.iand X0.here hx rfl (hb hby at_51) rfl ?_
    exact k
  obtain ⟨yb0, hyb0⟩ : ∃ z : Int32, z = (if (((p5.toUInt32 >>> ((20 : Int32) &&& 31).toUInt32).toInt32) &&& (1 : Int32)) = (0 : Int32) then (0 : Int32) else (1 : Int32)) := ⟨_, rfl⟩
  have pre7 : ∀ t, Steps p.tables e below (s₁.setTop (mkF m 60 #[(vl p0), .second, (vl p1), .second, (vl p2), .second, (vl p3), .second, (vl p4), .second, (vi p5), (vi kk0), (vi kk1), (vi kk2), (vi yo), .unset, .unset, .unset, .unset, .unset, .unset, .unset, .unset, .unset, .unset, .unset, .unset, .unset, .unset, .unset, .unset, .unset, .unset, .unset, .unset, .unset, .unset, .unset] [(.int yb0)])) t → Steps p.tables e below (s₁.setTop (entryFrame m #[(.long p0), (.long p1), (.long p2), (.long p3), (.long p4), (.int p5)] maxLocals)) t := by
    intro t k
    rw [hyb0] at k
    refine pre5 t ?_
    show Steps p.tables e below (s₁.setTop (mkF m 52 #[(vl p0), .second, (vl p1), .second, (vl p2), .second, (vl p3), .second, (vl p4), .second, (vi p5), (vi kk0), (vi kk1), (vi kk2), (vi yo), .unset, .unset, .unset, .unset, .unset, .unset, .unset, .unset, .unset, .unset, .unset, .unset, .unset, .unset, .unset, .unset, .unset, .unset, .unset, .unset, .unset, .unset, .unset] [(.int (((p5.toUInt32 >>> ((20 : Int32) &&& 31).toUInt32).toInt32) &&& (1 : Int32)))])) _
    rcases Decidable.em ((((p5.toUInt32 >>> ((20 : Int32) &&& 31).toUInt32).toInt32) &&& (1 : Int32)) = (0 : Int32)) with hm6 | hm6
    · first | simp only [if_pos hm6] at k | skip
      refine XS.ifYes X0.here hx rfl (pc0 := 52) (pc' := 59) rfl (hb hby at_52) rfl ((if0 _ _).trans (teq hm6).1) (by decide) (by decide) ?_
      refine XS.iconst X0.here hx rfl (hb hby at_59) ?_
      exact k
    · first | simp only [if_neg hm6] at k | skip
      refine XS.ifNo X0.here hx rfl (hb hby at_52) rfl ((if0 _ _).trans (feq hm6).1) ?_
      refine XS.iconst X0.here hx rfl (hb hby at_55) ?_
      refine XS.goto X0.here hx rfl (pc0 := 56) (pc' := 60) rfl (hb hby at_56) (by decide) (by decide) ?_
      exact k
  have pre8 : ∀ t, Steps p.tables e below (s₁.setTop (mkF m 69 #[(vl p0), .second, (vl p1), .second, (vl p2), .second, (vl p3), .second, (vl p4), .second, (vi p5), (vi kk0), (vi kk1), (vi kk2), (vi yo), (vi yb0), .unset, .unset, .unset, .unset, .unset, .unset, .unset, .unset, .unset, .unset, .unset, .unset, .unset, .unset, .unset, .unset, .unset, .unset, .unset, .unset, .unset, .unset] [(.int (((p5.toUInt32 >>> ((21 : Int32) &&& 31).toUInt32).toInt32) &&& (1 : Int32)))])) t → Steps p.tables e below (s₁.setTop (entryFrame m #[(.long p0), (.long p1), (.long p2), (.long p3), (.long p4), (.int p5)] maxLocals)) t := by
    intro t k
    refine pre7 t ?_
    show Steps p.tables e below (s₁.setTop (mkF m 60 #[(vl p0), .second, (vl p1), .second, (vl p2), .second, (vl p3), .second, (vl p4), .second, (vi p5), (vi kk0), (vi kk1), (vi kk2), (vi yo), .unset, .unset, .unset, .unset, .unset, .unset, .unset, .unset, .unset, .unset, .unset, .unset, .unset, .unset, .unset, .unset, .unset, .unset, .unset, .unset, .unset, .unset, .unset] [(.int yb0)])) _
    refine XS.istore X0.here hx rfl (hb hby at_60) rfl (l' := #[(vl p0), .second, (vl p1), .second, (vl p2), .second, (vl p3), .second, (vl p4), .second, (vi p5), (vi kk0), (vi kk1), (vi kk2), (vi yo), (vi yb0), .unset, .unset, .unset, .unset, .unset, .unset, .unset, .unset, .unset, .unset, .unset, .unset, .unset, .unset, .unset, .unset, .unset, .unset, .unset, .unset, .unset, .unset]) rfl ?_
    refine XS.iload X0.here hx rfl (hb hby at_62) rfl ?_
    refine XS.bipush X0.here hx rfl (hb hby at_64) ?_
    refine XS.iushr X0.here hx rfl (hb hby at_66) rfl ?_
    refine XS.iconst X0.here hx rfl (hb hby at_67) ?_
    refine XS.iand X0.here hx rfl (hb hby at_68) rfl ?_
    exact k
  obtain ⟨yb1, hyb1⟩ : ∃ z : Int32, z = (if (((p5.toUInt32 >>> ((21 : Int32) &&& 31).toUInt32).toInt32) &&& (1 : Int32)) = (0 : Int32) then (0 : Int32) else (1 : Int32)) := ⟨_, rfl⟩
  have pre10 : ∀ t, Steps p.tables e below (s₁.setTop (mkF m 77 #[(vl p0), .second, (vl p1), .second, (vl p2), .second, (vl p3), .second, (vl p4), .second, (vi p5), (vi kk0), (vi kk1), (vi kk2), (vi yo), (vi yb0), .unset, .unset, .unset, .unset, .unset, .unset, .unset, .unset, .unset, .unset, .unset, .unset, .unset, .unset, .unset, .unset, .unset, .unset, .unset, .unset, .unset, .unset] [(.int yb1)])) t → Steps p.tables e below (s₁.setTop (entryFrame m #[(.long p0), (.long p1), (.long p2), (.long p3), (.long p4), (.int p5)] maxLocals)) t := by
    intro t k
    rw [hyb1] at k
    refine pre8 t ?_
    show Steps p.tables e below (s₁.setTop (mkF m 69 #[(vl p0), .second, (vl p1), .second, (vl p2), .second, (vl p3), .second, (vl p4), .second, (vi p5), (vi kk0), (vi kk1), (vi kk2), (vi yo), (vi yb0), .unset, .unset, .unset, .unset, .unset, .unset, .unset, .unset, .unset, .unset, .unset, .unset, .unset, .unset, .unset, .unset, .unset, .unset, .unset, .unset, .unset, .unset] [(.int (((p5.toUInt32 >>> ((21 : Int32) &&& 31).toUInt32).toInt32) &&& (1 : Int32)))])) _
    rcases Decidable.em ((((p5.toUInt32 >>> ((21 : Int32) &&& 31).toUInt32).toInt32) &&& (1 : Int32)) = (0 : Int32)) with hm9 | hm9
    · first | simp only [if_pos hm9] at k | skip
      refine XS.ifYes X0.here hx rfl (pc0 := 69) (pc' := 76) rfl (hb hby at_69) rfl ((if0 _ _).trans (teq hm9).1) (by decide) (by decide) ?_
      refine XS.iconst X0.here hx rfl (hb hby at_76) ?_
      exact k
    · first | simp only [if_neg hm9] at k | skip
      refine XS.ifNo X0.here hx rfl (hb hby at_69) rfl ((if0 _ _).trans (feq hm9).1) ?_
      refine XS.iconst X0.here hx rfl (hb hby at_72) ?_
      refine XS.goto X0.here hx rfl (pc0 := 73) (pc' := 77) rfl (hb hby at_73) (by decide) (by decide) ?_
      exact k
  have pre11 : ∀ t, Steps p.tables e below (s₁.setTop (mkF m 86 #[(vl p0), .second, (vl p1), .second, (vl p2), .second, (vl p3), .second, (vl p4), .second, (vi p5), (vi kk0), (vi kk1), (vi kk2), (vi yo), (vi yb0), (vi yb1), .unset, .unset, .unset, .unset, .unset, .unset, .unset, .unset, .unset, .unset, .unset, .unset, .unset, .unset, .unset, .unset, .unset, .unset, .unset, .unset, .unset] [(.int (((p5.toUInt32 >>> ((22 : Int32) &&& 31).toUInt32).toInt32) &&& (1 : Int32)))])) t → Steps p.tables e below (s₁.setTop (entryFrame m #[(.long p0), (.long p1), (.long p2), (.long p3), (.long p4), (.int p5)] maxLocals)) t := by
    intro t k
    refine pre10 t ?_
    show Steps p.tables e below (s₁.setTop (mkF m 77 #[(vl p0), .second, (vl p1), .second, (vl p2), .second, (vl p3), .second, (vl p4), .second, (vi p5), (vi kk0), (vi kk1), (vi kk2), (vi yo), (vi yb0), .unset, .unset, .unset, .unset, .unset, .unset, .unset, .unset, .unset, .unset, .unset, .unset, .unset, .unset, .unset, .unset, .unset, .unset, .unset, .unset, .unset, .unset] [(.int yb1)])) _
    refine XS.istore X0.here hx rfl (hb hby at_77) rfl (l' := #[(vl p0), .second, (vl p1), .second, (vl p2), .second, (vl p3), .second, (vl p4), .second, (vi p5), (vi kk0), (vi kk1), (vi kk2), (vi yo), (vi yb0), (vi yb1), .unset, .unset, .unset, .unset, .unset, .unset, .unset, .unset, .unset, .unset, .unset, .unset, .unset, .unset, .unset, .unset, .unset, .unset, .unset, .unset, .unset]) rfl ?_
    refine XS.iload X0.here hx rfl (hb hby at_79) rfl ?_
    refine XS.bipush X0.here hx rfl (hb hby at_81) ?_
    refine XS.iushr X0.here hx rfl (hb hby at_83) rfl ?_
    refine XS.iconst X0.here hx rfl (hb hby at_84) ?_
    refine XS.iand X0.here hx rfl (hb hby at_85) rfl ?_
    exact k
  obtain ⟨yb2, hyb2⟩ : ∃ z : Int32, z = (if (((p5.toUInt32 >>> ((22 : Int32) &&& 31).toUInt32).toInt32) &&& (1 : Int32)) = (0 : Int32) then (0 : Int32) else (1 : Int32)) := ⟨_, rfl⟩
  have pre13 : ∀ t, Steps p.tables e below (s₁.setTop (mkF m 94 #[(vl p0), .second, (vl p1), .second, (vl p2), .second, (vl p3), .second, (vl p4), .second, (vi p5), (vi kk0), (vi kk1), (vi kk2), (vi yo), (vi yb0), (vi yb1), .unset, .unset, .unset, .unset, .unset, .unset, .unset, .unset, .unset, .unset, .unset, .unset, .unset, .unset, .unset, .unset, .unset, .unset, .unset, .unset, .unset] [(.int yb2)])) t → Steps p.tables e below (s₁.setTop (entryFrame m #[(.long p0), (.long p1), (.long p2), (.long p3), (.long p4), (.int p5)] maxLocals)) t := by
    intro t k
    rw [hyb2] at k
    refine pre11 t ?_
    show Steps p.tables e below (s₁.setTop (mkF m 86 #[(vl p0), .second, (vl p1), .second, (vl p2), .second, (vl p3), .second, (vl p4), .second, (vi p5), (vi kk0), (vi kk1), (vi kk2), (vi yo), (vi yb0), (vi yb1), .unset, .unset, .unset, .unset, .unset, .unset, .unset, .unset, .unset, .unset, .unset, .unset, .unset, .unset, .unset, .unset, .unset, .unset, .unset, .unset, .unset] [(.int (((p5.toUInt32 >>> ((22 : Int32) &&& 31).toUInt32).toInt32) &&& (1 : Int32)))])) _
    rcases Decidable.em ((((p5.toUInt32 >>> ((22 : Int32) &&& 31).toUInt32).toInt32) &&& (1 : Int32)) = (0 : Int32)) with hm12 | hm12
    · first | simp only [if_pos hm12] at k | skip
      refine XS.ifYes X0.here hx rfl (pc0 := 86) (pc' := 93) rfl (hb hby at_86) rfl ((if0 _ _).trans (teq hm12).1) (by decide) (by decide) ?_
      refine XS.iconst X0.here hx rfl (hb hby at_93) ?_
      exact k
    · first | simp only [if_neg hm12] at k | skip
      refine XS.ifNo X0.here hx rfl (hb hby at_86) rfl ((if0 _ _).trans (feq hm12).1) ?_
      refine XS.iconst X0.here hx rfl (hb hby at_89) ?_
      refine XS.goto X0.here hx rfl (pc0 := 90) (pc' := 94) rfl (hb hby at_90) (by decide) (by decide) ?_
      exact k
  obtain ⟨_, _, ⟨T14, L14, k14, n14⟩, -, X14, ⟨Lc14, hQ14, l14, y14, z14⟩, st14⟩ := Jvm.LawKit.callS X0 hx (y := M0) hown (mvT hZ (ow hw 0 rfl)) (mvT hZ (ow hw 1 rfl)) (mvT hZ (ow hw 2 rfl)) (mvT hZ (ow hw 3 rfl)) (by decide) (backOf (W := 0) (rmSpan l Z a0 hw [] wINTEGER wDOUBLE wBOOLEAN wD kwD hS p0 kk0 yb0 h0 n0 O0 ) hZ (ow hw 3 rfl) (ow hw 2 rfl) (by decide) (by decide)) (g := (mkF m 101 #[(vl p0), .second, (vl p1), .second, (vl p2), .second, (vl p3), .second, (vl p4), .second, (vi p5), (vi kk0), (vi kk1), (vi kk2), (vi yo), (vi yb0), (vi yb1), (vi yb2), .unset, .unset, .unset, .unset, .unset, .unset, .unset, .unset, .unset, .unset, .unset, .unset, .unset, .unset, .unset, .unset, .unset, .unset, .unset, .unset] [(.int yb0), (.int kk0), (.long p0)])) rfl (by rw [hml]; rfl) (argsL := [(.long p0), (.int kk0), (.int yb0)]) (rest := []) (lenOf pd_3 rfl) rfl (by show 2 * 0 + _ ≤ _; exact Nat.le_of_eq rfl) (hb hby at_101) (fun _ _ => ⟨rfl, e0, (by decide : 0 + 0 ≤ _), (by decide : 0 + 0 ≤ _)⟩)
  dsimp only [Pt.U, Pt.locs, Pt.cells, Pt.slots] at X14 l14 y14 z14 st14 hQ14
  subst y14 z14
  obtain ⟨r_14, rfl, Nq14, K14q, p14_0⟩ := hQ14
  have N14 : Fr n0 L14 := (congrArg (Fr n0) l14).mpr (Fr.app N0 Nq14)
  obtain ⟨_, _, ⟨T15, L15, k15, n15⟩, -, X15, ⟨Lc15, hQ15, l15, y15, z15⟩, st15⟩ := Jvm.LawKit.callS X14 hx (y := M1) hown (mvT hZ (ow hw 5 rfl)) (mvT hZ (ow hw 6 rfl)) (mvT hZ (ow hw 2 rfl)) (mvT hZ (ow hw 7 rfl)) (by decide) (backOf (W := 0) (rmLow l Z a0 hw [] wINTEGER wDOUBLE wBOOLEAN wD kwD hS p0 r_14 yb0 h0 n0 O0 ) hZ (ow hw 7 rfl) (ow hw 2 rfl) (by decide) (by decide)) (g := (mkF m 111 #[(vl p0), .second, (vl p1), .second, (vl p2), .second, (vl p3), .second, (vl p4), .second, (vi p5), (vi kk0), (vi kk1), (vi kk2), (vi yo), (vi yb0), (vi yb1), (vi yb2), (vl r_14), .second, .unset, .unset, .unset, .unset, .unset, .unset, .unset, .unset, .unset, .unset, .unset, .unset, .unset, .unset, .unset, .unset, .unset, .unset] [(.int yb0), (.long r_14), (.long p0)])) rfl (by rw [hml]; rfl) (argsL := [(.long p0), (.long r_14), (.int yb0)]) (rest := []) (lenOf pd_4 rfl) rfl (by show 2 * 0 + _ ≤ _; exact Nat.le_of_eq rfl) (hb hby at_111) (fun _ _ => ⟨rfl, K14q, (by decide : 0 + 0 ≤ _), (by decide : 0 + 0 ≤ _)⟩)
  dsimp only [Pt.U, Pt.locs, Pt.cells, Pt.slots] at X15 l15 y15 z15 st15 hQ15
  subst y15 z15
  obtain ⟨r_15, rfl, Nq15, K15q, p15_0⟩ := hQ15
  have N15 : Fr n0 L15 := (congrArg (Fr n0) l15).mpr (Fr.app N14 Nq15)
  obtain ⟨_, _, ⟨T16, L16, k16, n16⟩, -, X16, ⟨Lc16, hQ16, l16, y16, z16⟩, st16⟩ := Jvm.LawKit.callS X15 hx (y := M0) hown (mvT hZ (ow hw 0 rfl)) (mvT hZ (ow hw 1 rfl)) (mvT hZ (ow hw 2 rfl)) (mvT hZ (ow hw 3 rfl)) (by decide) (backOf (W := 0) (rmSpan l Z a0 hw [] wINTEGER wDOUBLE wBOOLEAN wD kwD hS p1 kk1 yb1 h0 n0 O0 ) hZ (ow hw 3 rfl) (ow hw 2 rfl) (by decide) (by decide)) (g := (mkF m 121 #[(vl p0), .second, (vl p1), .second, (vl p2), .second, (vl p3), .second, (vl p4), .second, (vi p5), (vi kk0), (vi kk1), (vi kk2), (vi yo), (vi yb0), (vi yb1), (vi yb2), (vl r_14), .second, (vl r_15), .second, .unset, .unset, .unset, .unset, .unset, .unset, .unset, .unset, .unset, .unset, .unset, .unset, .unset, .unset, .unset, .unset] [(.int yb1), (.int kk1), (.long p1)])) rfl (by rw [hml]; rfl) (argsL := [(.long p1), (.int kk1), (.int yb1)]) (rest := []) (lenOf pd_3 rfl) rfl (by show 2 * 0 + _ ≤ _; exact Nat.le_of_eq rfl) (hb hby at_121) (fun _ _ => ⟨rfl, K15q, (by decide : 0 + 0 ≤ _), (by decide : 0 + 0 ≤ _)⟩)
  dsimp only [Pt.U, Pt.locs, Pt.cells, Pt.slots] at X16 l16 y16 z16 st16 hQ16
  subst y16 z16
  obtain ⟨r_16, rfl, Nq16, K16q, p16_0⟩ := hQ16
  have N16 : Fr n0 L16 := (congrArg (Fr n0) l16).mpr (Fr.app N15 Nq16)
  obtain ⟨_, _, ⟨T17, L17, k17, n17⟩, -, X17, ⟨Lc17, hQ17, l17, y17, z17⟩, st17⟩ := Jvm.LawKit.callS X16 hx (y := M1) hown (mvT hZ (ow hw 5 rfl)) (mvT hZ (ow hw 6 rfl)) (mvT hZ (ow hw 2 rfl)) (mvT hZ (ow hw 7 rfl)) (by decide) (backOf (W := 0) (rmLow l Z a0 hw [] wINTEGER wDOUBLE wBOOLEAN wD kwD hS p1 r_16 yb1 h0 n0 O0 ) hZ (ow hw 7 rfl) (ow hw 2 rfl) (by decide) (by decide)) (g := (mkF m 131 #[(vl p0), .second, (vl p1), .second, (vl p2), .second, (vl p3), .second, (vl p4), .second, (vi p5), (vi kk0), (vi kk1), (vi kk2), (vi yo), (vi yb0), (vi yb1), (vi yb2), (vl r_14), .second, (vl r_15), .second, (vl r_16), .second, .unset, .unset, .unset, .unset, .unset, .unset, .unset, .unset, .unset, .unset, .unset, .unset, .unset, .unset] [(.int yb1), (.long r_16), (.long p1)])) rfl (by rw [hml]; rfl) (argsL := [(.long p1), (.long r_16), (.int yb1)]) (rest := []) (lenOf pd_4 rfl) rfl (by show 2 * 0 + _ ≤ _; exact Nat.le_of_eq rfl) (hb hby at_131) (fun _ _ => ⟨rfl, K16q, (by decide : 0 + 0 ≤ _), (by decide : 0 + 0 ≤ _)⟩)
  dsimp only [Pt.U, Pt.locs, Pt.cells, Pt.slots] at X17 l17 y17 z17 st17 hQ17
  subst y17 z17
  obtain ⟨r_17, rfl, Nq17, K17q, p17_0⟩ := hQ17
  have N17 : Fr n0 L17 := (congrArg (Fr n0) l17).mpr (Fr.app N16 Nq17)
  obtain ⟨_, _, ⟨T18, L18, k18, n18⟩, -, X18, ⟨Lc18, hQ18, l18, y18, z18⟩, st18⟩ := Jvm.LawKit.callS X17 hx (y := M0) hown (mvT hZ (ow hw 0 rfl)) (mvT hZ (ow hw 1 rfl)) (mvT hZ (ow hw 2 rfl)) (mvT hZ (ow hw 3 rfl)) (by decide) (backOf (W := 0) (rmSpan l Z a0 hw [] wINTEGER wDOUBLE wBOOLEAN wD kwD hS p2 kk2 yb2 h0 n0 O0 ) hZ (ow hw 3 rfl) (ow hw 2 rfl) (by decide) (by decide)) (g := (mkF m 142 #[(vl p0), .second, (vl p1), .second, (vl p2), .second, (vl p3), .second, (vl p4), .second, (vi p5), (vi kk0), (vi kk1), (vi kk2), (vi yo), (vi yb0), (vi yb1), (vi yb2), (vl r_14), .second, (vl r_15), .second, (vl r_16), .second, (vl r_17), .second, .unset, .unset, .unset, .unset, .unset, .unset, .unset, .unset, .unset, .unset, .unset, .unset] [(.int yb2), (.int kk2), (.long p2)])) rfl (by rw [hml]; rfl) (argsL := [(.long p2), (.int kk2), (.int yb2)]) (rest := []) (lenOf pd_3 rfl) rfl (by show 2 * 0 + _ ≤ _; exact Nat.le_of_eq rfl) (hb hby at_142) (fun _ _ => ⟨rfl, K17q, (by decide : 0 + 0 ≤ _), (by decide : 0 + 0 ≤ _)⟩)
  dsimp only [Pt.U, Pt.locs, Pt.cells, Pt.slots] at X18 l18 y18 z18 st18 hQ18
  subst y18 z18
  obtain ⟨r_18, rfl, Nq18, K18q, p18_0⟩ := hQ18
  have N18 : Fr n0 L18 := (congrArg (Fr n0) l18).mpr (Fr.app N17 Nq18)
  obtain ⟨_, _, ⟨T19, L19, k19, n19⟩, -, X19, ⟨Lc19, hQ19, l19, y19, z19⟩, st19⟩ := Jvm.LawKit.callS X18 hx (y := M1) hown (mvT hZ (ow hw 5 rfl)) (mvT hZ (ow hw 6 rfl)) (mvT hZ (ow hw 2 rfl)) (mvT hZ (ow hw 7 rfl)) (by decide) (backOf (W := 0) (rmLow l Z a0 hw [] wINTEGER wDOUBLE wBOOLEAN wD kwD hS p2 r_18 yb2 h0 n0 O0 ) hZ (ow hw 7 rfl) (ow hw 2 rfl) (by decide) (by decide)) (g := (mkF m 153 #[(vl p0), .second, (vl p1), .second, (vl p2), .second, (vl p3), .second, (vl p4), .second, (vi p5), (vi kk0), (vi kk1), (vi kk2), (vi yo), (vi yb0), (vi yb1), (vi yb2), (vl r_14), .second, (vl r_15), .second, (vl r_16), .second, (vl r_17), .second, (vl r_18), .second, .unset, .unset, .unset, .unset, .unset, .unset, .unset, .unset, .unset, .unset] [(.int yb2), (.long r_18), (.long p2)])) rfl (by rw [hml]; rfl) (argsL := [(.long p2), (.long r_18), (.int yb2)]) (rest := []) (lenOf pd_4 rfl) rfl (by show 2 * 0 + _ ≤ _; exact Nat.le_of_eq rfl) (hb hby at_153) (fun _ _ => ⟨rfl, K18q, (by decide : 0 + 0 ≤ _), (by decide : 0 + 0 ≤ _)⟩)
  dsimp only [Pt.U, Pt.locs, Pt.cells, Pt.slots] at X19 l19 y19 z19 st19 hQ19
  subst y19 z19
  obtain ⟨r_19, rfl, Nq19, K19q, p19_0⟩ := hQ19
  have N19 : Fr n0 L19 := (congrArg (Fr n0) l19).mpr (Fr.app N18 Nq19)
  have hR0 := own_rng hKK0 p14_0 p15_0
  have hR1 := own_rng hKK1 p16_0 p17_0
  have hR2 := own_rng hKK2 p18_0 p19_0
  obtain ⟨T20, h20, k20, X20, e20, E20, A20, Z20, st20⟩ := newPE X19 hx hZ (ow hw 9 rfl) K19q (g := (mkF m 159 #[(vl p0), .second, (vl p1), .second, (vl p2), .second, (vl p3), .second, (vl p4), .second, (vi p5), (vi kk0), (vi kk1), (vi kk2), (vi yo), (vi yb0), (vi yb1), (vi yb2), (vl r_14), .second, (vl r_15), .second, (vl r_16), .second, (vl r_17), .second, (vl r_18), .second, (vl r_19), .second, .unset, .unset, .unset, .unset, .unset, .unset, .unset, .unset] [(.int 3)])) rfl (hb hby at_159) rfl (by decide) (cap := 3) (by decide) (by decide) (by decide) (by decide) (ad := "[I") rfl
  obtain ⟨b20, g20⟩ : ∃ z, z = h0.size := ⟨_, rfl⟩
  rw [← g20] at A20 Z20 st20
  have g21 : n0 ≤ b20 := Nat.le_trans (own_sz O0) (Nat.le_of_eq g20.symm)
  have O22 : Old Z n0 h20 := O0.ext E20
  have V20 : Arv Z h20 b20 k20 .int (3 : Int32) ([(.int 0), (.int 0), (.int 0)]) (.int 0) := (Arv.new A20 (by decide)).pad (pad_rep [] (.int 0) 3)
  obtain ⟨_, _, ⟨T23, L23, k23, n23⟩, -, X23, ⟨Lc23, hQ23, l23, y23, z23⟩, st23⟩ := Jvm.LawKit.callS X20 hx (y := M2) hown (mvT hZ (ow hw 10 rfl)) (mvT hZ (ow hw 11 rfl)) (mvT hZ (ow hw 2 rfl)) (mvT hZ (ow hw 12 rfl)) (by decide) (backOf (W := 2) (rmPick l Z a0 hw [] wINTEGER wDOUBLE wBOOLEAN wD kwD hS r_15 r_14 (((p3.toUInt64 >>> ((32 : Int32) &&& 0x3f).toInt64.toUInt64).toInt64).toInt32) h20 n0 O22 (own_sp1 hR0.1)) hZ (ow hw 12 rfl) (ow hw 2 rfl) (by decide) (by decide)) (g := (mkF m 176 #[(vl p0), .second, (vl p1), .second, (vl p2), .second, (vl p3), .second, (vl p4), .second, (vi p5), (vi kk0), (vi kk1), (vi kk2), (vi yo), (vi yb0), (vi yb1), (vi yb2), (vl r_14), .second, (vl r_15), .second, (vl r_16), .second, (vl r_17), .second, (vl r_18), .second, (vl r_19), .second, (vr b20), .unset, .unset, .unset, .unset, .unset, .unset, .unset] [(.int (((p3.toUInt64 >>> ((32 : Int32) &&& 0x3f).toInt64.toUInt64).toInt64).toInt32)), (.long r_14), (.long r_15), (.int 0), (.ref b20)])) rfl (by rw [hml]; rfl) (argsL := [(.long r_15), (.long r_14), (.int (((p3.toUInt64 >>> ((32 : Int32) &&& 0x3f).toInt64.toUInt64).toInt64).toInt32))]) (rest := [(.int 0), (.ref b20)]) (lenOf pd_5 rfl) rfl (by show 2 * 0 + _ ≤ _; exact Nat.le_of_eq rfl) (hb hby at_176) (fun _ _ => ⟨rfl, e20, (by decide : 1 + 0 ≤ _), (by decide : 3 + 0 ≤ _)⟩)
  dsimp only [Pt.U, Pt.locs, Pt.cells, Pt.slots] at X23 l23 y23 z23 st23 hQ23
  subst y23 z23
  obtain ⟨r_23, rfl, Nq23, K23q, p23_0⟩ := hQ23
  have N23 : Fr n0 L23 := (congrArg (Fr n0) l23).mpr (Fr.app N19 Nq23)
  obtain ⟨cl24, Ar24, qc24, Sz24, Nn24, Ha24, Gg24⟩ := (id V20)
  have hin24 : ¬ ((0 : Int32) < 0 ∨ cl24.slots.size ≤ ((0 : Int32)).toNatClampNeg) := inb_of Sz24 ⟨by decide, by decide⟩
  obtain ⟨T24, h24, X24, e24, W24, st24⟩ := stI X23 hx hZ K23q Ar24 (j := (0 : Int32)) hin24 (g := (mkF m 179 #[(vl p0), .second, (vl p1), .second, (vl p2), .second, (vl p3), .second, (vl p4), .second, (vi p5), (vi kk0), (vi kk1), (vi kk2), (vi yo), (vi yb0), (vi yb1), (vi yb2), (vl r_14), .second, (vl r_15), .second, (vl r_16), .second, (vl r_17), .second, (vl r_18), .second, (vl r_19), .second, (vr b20), .unset, .unset, .unset, .unset, .unset, .unset, .unset] [(.int r_23), (.int 0), (.ref b20)])) rfl rfl (hb hby at_179)
  have O25 : Old Z n0 h24 := O22.wr W24 g21
  have V24 : Arv Z h24 b20 k20 .int (3 : Int32) ([(.int r_23), (.int 0), (.int 0)]) (.int 0) := (Arv.set Ar24 qc24 Sz24 Nn24 Ha24 Gg24 (v := (.int r_23)) rfl W24 0 rfl (Nat.le_of_ble_eq_true rfl))
  have N24 := Fr.snoc X24 N23 g21
  obtain ⟨_, _, ⟨T26, L26, k26, n26⟩, -, X26, ⟨Lc26, hQ26, l26, y26, z26⟩, st26⟩ := Jvm.LawKit.callS X24 hx (y := M2) hown (mvT hZ (ow hw 10 rfl)) (mvT hZ (ow hw 11 rfl)) (mvT hZ (ow hw 2 rfl)) (mvT hZ (ow hw 12 rfl)) (by decide) (backOf (W := 2) (rmPick l Z a0 hw [] wINTEGER wDOUBLE wBOOLEAN wD kwD hS r_17 r_16 (p3.toInt32) h24 n0 O25 (own_sp1 hR1.1)) hZ (ow hw 12 rfl) (ow hw 2 rfl) (by decide) (by decide)) (g := (mkF m 190 #[(vl p0), .second, (vl p1), .second, (vl p2), .second, (vl p3), .second, (vl p4), .second, (vi p5), (vi kk0), (vi kk1), (vi kk2), (vi yo), (vi yb0), (vi yb1), (vi yb2), (vl r_14), .second, (vl r_15), .second, (vl r_16), .second, (vl r_17), .second, (vl r_18), .second, (vl r_19), .second, (vr b20), .unset, .unset, .unset, .unset, .unset, .unset, .unset] [(.int (p3.toInt32)), (.long r_16), (.long r_17), (.int 1), (.ref b20)])) rfl (by rw [hml]; rfl) (argsL := [(.long r_17), (.long r_16), (.int (p3.toInt32))]) (rest := [(.int 1), (.ref b20)]) (lenOf pd_5 rfl) rfl (by show 2 * 0 + _ ≤ _; exact Nat.le_of_eq rfl) (hb hby at_190) (fun _ _ => ⟨rfl, e24, (by decide : 1 + 0 ≤ _), (by decide : 3 + 0 ≤ _)⟩)
  dsimp only [Pt.U, Pt.locs, Pt.cells, Pt.slots] at X26 l26 y26 z26 st26 hQ26
  subst y26 z26
  obtain ⟨r_26, rfl, Nq26, K26q, p26_0⟩ := hQ26
  have N26 : Fr n0 L26 := (congrArg (Fr n0) l26).mpr (Fr.app N24 Nq26)
  obtain ⟨cl27, Ar27, qc27, Sz27, Nn27, Ha27, Gg27⟩ := (id V24)
  have hin27 : ¬ ((1 : Int32) < 0 ∨ cl27.slots.size ≤ ((1 : Int32)).toNatClampNeg) := inb_of Sz27 ⟨by decide, by decide⟩
  obtain ⟨T27, h27, X27, e27, W27, st27⟩ := stI X26 hx hZ K26q Ar27 (j := (1 : Int32)) hin27 (g := (mkF m 193 #[(vl p0), .second, (vl p1), .second, (vl p2), .second, (vl p3), .second, (vl p4), .second, (vi p5), (vi kk0), (vi kk1), (vi kk2), (vi yo), (vi yb0), (vi yb1), (vi yb2), (vl r_14), .second, (vl r_15), .second, (vl r_16), .second, (vl r_17), .second, (vl r_18), .second, (vl r_19), .second, (vr b20), .unset, .unset, .unset, .unset, .unset, .unset, .unset] [(.int r_26), (.int 1), (.ref b20)])) rfl rfl (hb hby at_193)
  have O28 : Old Z n0 h27 := O25.wr W27 g21
  have V27 : Arv Z h27 b20 k20 .int (3 : Int32) ([(.int r_23), (.int r_26), (.int 0)]) (.int 0) := (Arv.set Ar27 qc27 Sz27 Nn27 Ha27 Gg27 (v := (.int r_26)) rfl W27 1 rfl (Nat.le_of_ble_eq_true rfl))
  have N27 := Fr.snoc X27 N26 g21
  obtain ⟨_, _, ⟨T29, L29, k29, n29⟩, -, X29, ⟨Lc29, hQ29, l29, y29, z29⟩, st29⟩ := Jvm.LawKit.callS X27 hx (y := M2) hown (mvT hZ (ow hw 10 rfl)) (mvT hZ (ow hw 11 rfl)) (mvT hZ (ow hw 2 rfl)) (mvT hZ (ow hw 12 rfl)) (by decide) (backOf (W := 2) (rmPick l Z a0 hw [] wINTEGER wDOUBLE wBOOLEAN wD kwD hS r_19 r_18 (p4.toInt32) h27 n0 O28 (own_sp1 hR2.1)) hZ (ow hw 12 rfl) (ow hw 2 rfl) (by decide) (by decide)) (g := (mkF m 204 #[(vl p0), .second, (vl p1), .second, (vl p2), .second, (vl p3), .second, (vl p4), .second, (vi p5), (vi kk0), (vi kk1), (vi kk2), (vi yo), (vi yb0), (vi yb1), (vi yb2), (vl r_14), .second, (vl r_15), .second, (vl r_16), .second, (vl r_17), .second, (vl r_18), .second, (vl r_19), .second, (vr b20), .unset, .unset, .unset, .unset, .unset, .unset, .unset] [(.int (p4.toInt32)), (.long r_18), (.long r_19), (.int 2), (.ref b20)])) rfl (by rw [hml]; rfl) (argsL := [(.long r_19), (.long r_18), (.int (p4.toInt32))]) (rest := [(.int 2), (.ref b20)]) (lenOf pd_5 rfl) rfl (by show 2 * 0 + _ ≤ _; exact Nat.le_of_eq rfl) (hb hby at_204) (fun _ _ => ⟨rfl, e27, (by decide : 1 + 0 ≤ _), (by decide : 3 + 0 ≤ _)⟩)
  dsimp only [Pt.U, Pt.locs, Pt.cells, Pt.slots] at X29 l29 y29 z29 st29 hQ29
  subst y29 z29
  obtain ⟨r_29, rfl, Nq29, K29q, p29_0⟩ := hQ29
  have N29 : Fr n0 L29 := (congrArg (Fr n0) l29).mpr (Fr.app N27 Nq29)
  obtain ⟨cl30, Ar30, qc30, Sz30, Nn30, Ha30, Gg30⟩ := (id V27)
  have hin30 : ¬ ((2 : Int32) < 0 ∨ cl30.slots.size ≤ ((2 : Int32)).toNatClampNeg) := inb_of Sz30 ⟨by decide, by decide⟩
  obtain ⟨T30, h30, X30, e30, W30, st30⟩ := stI X29 hx hZ K29q Ar30 (j := (2 : Int32)) hin30 (g := (mkF m 207 #[(vl p0), .second, (vl p1), .second, (vl p2), .second, (vl p3), .second, (vl p4), .second, (vi p5), (vi kk0), (vi kk1), (vi kk2), (vi yo), (vi yb0), (vi yb1), (vi yb2), (vl r_14), .second, (vl r_15), .second, (vl r_16), .second, (vl r_17), .second, (vl r_18), .second, (vl r_19), .second, (vr b20), .unset, .unset, .unset, .unset, .unset, .unset, .unset] [(.int r_29), (.int 2), (.ref b20)])) rfl rfl (hb hby at_207)
  have O31 : Old Z n0 h30 := O28.wr W30 g21
  have V30 : Arv Z h30 b20 k20 .int (3 : Int32) ([(.int r_23), (.int r_26), (.int r_29)]) (.int 0) := (Arv.set Ar30 qc30 Sz30 Nn30 Ha30 Gg30 (v := (.int r_29)) rfl W30 2 rfl (Nat.le_of_ble_eq_true rfl))
  have N30 := Fr.snoc X30 N29 g21
  obtain ⟨T32, h32, X32, e32, E32, A32, D32, -, st32⟩ := newO X30 hx hZ hown (ow hw 13 rfl) (ow hw 14 rfl) (ow hw 15 rfl) e30 (g := (mkF m 208 #[(vl p0), .second, (vl p1), .second, (vl p2), .second, (vl p3), .second, (vl p4), .second, (vi p5), (vi kk0), (vi kk1), (vi kk2), (vi yo), (vi yb0), (vi yb1), (vi yb2), (vl r_14), .second, (vl r_15), .second, (vl r_16), .second, (vl r_17), .second, (vl r_18), .second, (vl r_19), .second, (vr b20), .unset, .unset, .unset, .unset, .unset, .unset, .unset] [])) rfl (hb hby at_208) (by decide) (by decide)
  obtain ⟨b32, g32⟩ : ∃ z, z = h30.size := ⟨_, rfl⟩
  rw [← g32] at A32 D32 st32
  have ne33 : b20 ≠ b32 := Nat.ne_of_lt (Nat.lt_of_lt_of_le V30.lt (Nat.le_of_eq g32.symm))
  have g34 : n0 ≤ b32 := Nat.le_trans (own_sz O31) (Nat.le_of_eq g32.symm)
  have O35 : Old Z n0 h32 := O31.ext E32
  have f36 : Fld Z h32 b32 s8n "modCount" "I" (.int 0) := D32 (Or.inl (ow hw 35 rfl)) (ty := .int) (by decide)
  have f37 : Fld Z h32 b32 s2n "elementData" s3n .null := D32 (Or.inl (ow hw 38 rfl)) (ty := (.array (.object s4n))) (by decide)
  have f38 : Fld Z h32 b32 s2n "size" "I" (.int 0) := D32 (Or.inl (ow hw 89 rfl)) (ty := .int) (by decide)
  obtain ⟨_, _, ⟨T39, L39, k39, n39⟩, -, X39, ⟨Lc39, hQ39, l39, y39, z39⟩, st39⟩ := X32.specialBack hx (y := M12) rfl hown (mvT hZ (ow hw 16 rfl)) (mvT hZ (ow hw 17 rfl)) (mvT hZ (ow hw 18 rfl)) (by decide) (backOf (W := 1) (au4_0 l Z a0 hw [] wINTEGER wDOUBLE wBOOLEAN wD kwD hS b32 h32 n0 O35 A32 f36 f37 f38 g34) hZ (ow hw 18 rfl) (ow hw 15 rfl) (by decide) (by decide)) (g := (mkF m 212 #[(vl p0), .second, (vl p1), .second, (vl p2), .second, (vl p3), .second, (vl p4), .second, (vi p5), (vi kk0), (vi kk1), (vi kk2), (vi yo), (vi yb0), (vi yb1), (vi yb2), (vl r_14), .second, (vl r_15), .second, (vl r_16), .second, (vl r_17), .second, (vl r_18), .second, (vl r_19), .second, (vr b20), .unset, .unset, .unset, .unset, .unset, .unset, .unset] [(.ref b32), (.ref b32)])) rfl (by rw [hml]; rfl) (Steps.refl _) (a := b32) (argsL := []) (rest := [(.ref b32)]) (lenOf pd_1 rfl) rfl (by show 2 * 0 + _ ≤ _; exact Nat.le_of_eq rfl) (hb hby at_212) (fun _ _ => ⟨rfl, e32, (by decide : 2 + 0 ≤ _), (by decide : 6 + 0 ≤ _)⟩)
  dsimp only [Pt.U, Pt.locs, Pt.cells, Pt.slots] at X39 l39 y39 z39 st39 hQ39
  subst y39 z39
  obtain ⟨rfl, Nq39, K39q, p39_0, p39_1, p39_2, p39_3⟩ := hQ39
  have N39 : Fr n0 L39 := (congrArg (Fr n0) l39).mpr (Fr.app N30 Nq39)
  have O40 : Old Z n0 T39.heap := O35.keep K39q (allS g34 all0)
  have hk42 : _ ≤ T39.heap.size := (Nat.le_trans (Nat.le_trans (Nat.le_trans (Nat.le_trans (Nat.le_trans (Nat.le_trans (Nat.le_refl _) E20.1) (Nat.le_of_eq W24.size.symm)) (Nat.le_of_eq W27.size.symm)) (Nat.le_of_eq W30.size.symm)) E32.1) K39q.1)
  obtain ⟨b41, T41, h41, kk41, X41, e41, E41, hS41, hk41, hZ, hown, st41⟩ := ldcS X39 hx hZ hown (ow hw 39 rfl) (own_wS hw) rfl hS1 hk42 (g := (mkF m 219 #[(vl p0), .second, (vl p1), .second, (vl p2), .second, (vl p3), .second, (vl p4), .second, (vi p5), (vi kk0), (vi kk1), (vi kk2), (vi yo), (vi yb0), (vi yb1), (vi yb2), (vl r_14), .second, (vl r_15), .second, (vl r_16), .second, (vl r_17), .second, (vl r_18), .second, (vl r_19), .second, (vr b20), (vr b32), .unset, .unset, .unset, .unset, .unset, .unset] [(.ref b32)])) rfl (hb hby at_219) (n := 4) (by decide) (by decide) (by decide) (by decide)
  have O43 : Old Z n0 h41 := O40.ext E41
  obtain ⟨_, _, ⟨T44, L44, k44, n44⟩, -, X44, ⟨Lc44, hQ44, l44, y44, z44⟩, st44⟩ := Jvm.LawKit.callS X41 hx (y := M8) hown (mvT hZ (ow hw 47 rfl)) (mvT hZ (ow hw 48 rfl)) (mvT hZ (ow hw 2 rfl)) (mvT hZ (ow hw 49 rfl)) (by decide) (backOf (W := 1) (rmVar l Z a0 hw [] wINTEGER wDOUBLE wBOOLEAN wD kwD hS b41 r_15 r_14 yb0 h41 n0 O43 ((own_span2 hR0.1 hR0.2.1 rfl rfl).1) hR0.2.2) hZ (ow hw 49 rfl) (ow hw 2 rfl) (by decide) (by decide)) (g := (mkF m 227 #[(vl p0), .second, (vl p1), .second, (vl p2), .second, (vl p3), .second, (vl p4), .second, (vi p5), (vi kk0), (vi kk1), (vi kk2), (vi yo), (vi yb0), (vi yb1), (vi yb2), (vl r_14), .second, (vl r_15), .second, (vl r_16), .second, (vl r_17), .second, (vl r_18), .second, (vl r_19), .second, (vr b20), (vr b32), .unset, .unset, .unset, .unset, .unset, .unset] [(.int yb0), (.long r_14), (.long r_15), (.ref b41), (.ref b32)])) rfl (by rw [hml]; rfl) (argsL := [(.ref b41), (.long r_15), (.long r_14), (.int yb0)]) (rest := [(.ref b32)]) (lenOf pd_6 rfl) rfl (by show 2 * 0 + _ ≤ _; exact Nat.le_of_eq rfl) (hb hby at_227) (fun _ _ => ⟨rfl, e41, (by decide : 4 + 1 ≤ _), (by decide : 14 + 4 ≤ _)⟩)
  dsimp only [Pt.U, Pt.locs, Pt.cells, Pt.slots] at X44 l44 y44 z44 st44 hQ44
  subst y44 z44
  obtain ⟨r_44, t_44, zl_44, zh_44, rfl, Nq44, K44q, p44_0, p44_1, p44_2, p44_3, p44_4, p44_5, p44_6, p44_7⟩ := hQ44
  have N44 : Fr n0 L44 := (congrArg (Fr n0) l44).mpr (Fr.app N39 Nq44)
  have f46 : Arv Z h41 b20 k20 .int (3 : Int32) ([(.int r_23), (.int r_26), (.int r_29)]) (.int 0) := (((V30.ext E32).keep K39q (ninS ne33 nin0)).ext E41)
  have ne45 : b20 ≠ r_44 := Nat.ne_of_lt (Nat.lt_of_lt_of_le f46.lt p44_0)
  have f48 : Exa Z h41 b32 s2n := (p39_0.ext E41)
  have ne47 : b32 ≠ r_44 := Nat.ne_of_lt (Nat.lt_of_lt_of_le f48.lt p44_0)
  have g49 : n0 ≤ r_44 := Nat.le_trans (own_sz O43) p44_0
  have O50 : Old Z n0 T44.heap := O43.keep K44q all0
  have f51 : Exa Z T44.heap b32 s2n := (f48.keep K44q)
  have f52 : Fld Z T44.heap b32 s8n "modCount" "I" (.int 0) := ((p39_1.ext E41).keep K44q nin0)
  have f53 : Fld Z T44.heap b32 s2n "elementData" s3n (.ref wD) := ((p39_2.ext E41).keep K44q nin0)
  have f54 : Fld Z T44.heap b32 s2n "size" "I" (.int 0) := ((p39_3.ext E41).keep K44q nin0)
  obtain ⟨cq55, kq55, q55a, q55b, q55c⟩ := isOf hZ rfl f51
  obtain ⟨_, _, ⟨T55, L55, k55, n55⟩, -, X55, ⟨Lc55, hQ55, l55, y55, z55⟩, st55⟩ := X44.interfaceBack hx (xi := M30) (y := M16) hown (mvT hZ (ow hw 77 rfl)) (mvT hZ (ow hw 78 rfl)) (mvT hZ (ow hw 79 rfl)) (mvT hZ (ow hw 80 rfl)) (mvT hZ (ow hw 81 rfl)) (mvT hZ (ow hw 82 rfl)) (mvT hZ (ow hw 83 rfl)) (mvT hZ (ow hw 84 rfl)) (by decide) (backOf (W := 0) (au11_0 l Z a0 hw [] wINTEGER wDOUBLE wBOOLEAN wD kwD hS b32 r_44 T44.heap n0 O50 f51 f52 f53 f54 p44_1 g34) hZ (ow hw 85 rfl) (ow hw 15 rfl) (by decide) (by decide)) q55a q55b q55c (g := (mkF m 230 #[(vl p0), .second, (vl p1), .second, (vl p2), .second, (vl p3), .second, (vl p4), .second, (vi p5), (vi kk0), (vi kk1), (vi kk2), (vi yo), (vi yb0), (vi yb1), (vi yb2), (vl r_14), .second, (vl r_15), .second, (vl r_16), .second, (vl r_17), .second, (vl r_18), .second, (vl r_19), .second, (vr b20), (vr b32), .unset, .unset, .unset, .unset, .unset, .unset] [(.ref r_44), (.ref b32)])) rfl (by rw [hml]; rfl) (Steps.refl _) (argsL := [(.ref r_44)]) (rest := []) (lenOf pd_11 rfl) rfl (by show 2 * 0 + _ ≤ _; exact Nat.le_of_eq rfl) (hb hby at_230) (fun _ _ => ⟨rfl, rfl, (by decide : 5 + 1 ≤ _), (by decide : 18 + 10 ≤ _)⟩)
  dsimp only [Pt.U, Pt.locs, Pt.cells, Pt.slots] at X55 l55 y55 z55 st55 hQ55
  subst y55 z55
  obtain ⟨e1_55, e2_55, rfl, Nq55, K55q, p55_0, p55_1, p55_2, p55_3, p55_4, p55_5, p55_6, p55_7⟩ := hQ55
  have N55 : Fr n0 L55 := (congrArg (Fr n0) l55).mpr (Fr.app N44 Nq55)
  have f57 : Arv Z T44.heap b20 k20 .int (3 : Int32) ([(.int r_23), (.int r_26), (.int r_29)]) (.int 0) := (f46.keep K44q nin0)
  have ne56 : b20 ≠ e1_55 := Nat.ne_of_lt (Nat.lt_of_lt_of_le f57.lt p55_4)
  have ne58 : b32 ≠ e1_55 := Nat.ne_of_lt (Nat.lt_of_lt_of_le f51.lt p55_4)
  have ne59 : r_44 ≠ e1_55 := Nat.ne_of_lt (Nat.lt_of_lt_of_le p44_1.lt p55_4)
  have g60 : n0 ≤ e1_55 := Nat.le_trans (own_sz O50) p55_4
  have O61 : Old Z n0 T55.heap := O50.keep K55q (allS g34 all0)
  have hk63 : _ ≤ T55.heap.size := (Nat.le_trans (Nat.le_trans hk41 K44q.1) K55q.1)
  obtain ⟨b62, T62, h62, kk62, X62, e62, E62, hS62, hk62, hZ, hown, st62⟩ := ldcS X55 hx hZ hown (ow hw 112 rfl) (own_wS hw) rfl hS41 hk63 (g := (mkF m 238 #[(vl p0), .second, (vl p1), .second, (vl p2), .second, (vl p3), .second, (vl p4), .second, (vi p5), (vi kk0), (vi kk1), (vi kk2), (vi yo), (vi yb0), (vi yb1), (vi yb2), (vl r_14), .second, (vl r_15), .second, (vl r_16), .second, (vl r_17), .second, (vl r_18), .second, (vl r_19), .second, (vr b20), (vr b32), .unset, .unset, .unset, .unset, .unset, .unset] [(.ref b32)])) rfl (hb hby at_238) (n := 4) (by decide) (by decide) (by decide) (by decide)
  have O64 : Old Z n0 h62 := O61.ext E62
  obtain ⟨_, _, ⟨T65, L65, k65, n65⟩, -, X65, ⟨Lc65, hQ65, l65, y65, z65⟩, st65⟩ := Jvm.LawKit.callS X62 hx (y := M8) hown (mvT hZ (ow hw 47 rfl)) (mvT hZ (ow hw 48 rfl)) (mvT hZ (ow hw 2 rfl)) (mvT hZ (ow hw 49 rfl)) (by decide) (backOf (W := 1) (rmVar l Z a0 hw [] wINTEGER wDOUBLE wBOOLEAN wD kwD hS b62 r_17 r_16 yb1 h62 n0 O64 ((own_span2 hR1.1 hR1.2.1 rfl rfl).1) hR1.2.2) hZ (ow hw 49 rfl) (ow hw 2 rfl) (by decide) (by decide)) (g := (mkF m 246 #[(vl p0), .second, (vl p1), .second, (vl p2), .second, (vl p3), .second, (vl p4), .second, (vi p5), (vi kk0), (vi kk1), (vi kk2), (vi yo), (vi yb0), (vi yb1), (vi yb2), (vl r_14), .second, (vl r_15), .second, (vl r_16), .second, (vl r_17), .second, (vl r_18), .second, (vl r_19), .second, (vr b20), (vr b32), .unset, .unset, .unset, .unset, .unset, .unset] [(.int yb1), (.long r_16), (.long r_17), (.ref b62), (.ref b32)])) rfl (by rw [hml]; rfl) (argsL := [(.ref b62), (.long r_17), (.long r_16), (.int yb1)]) (rest := [(.ref b32)]) (lenOf pd_6 rfl) rfl (by show 2 * 0 + _ ≤ _; exact Nat.le_of_eq rfl) (hb hby at_246) (fun _ _ => ⟨rfl, e62, (by decide : 8 + 1 ≤ _), (by decide : 36 + 4 ≤ _)⟩)
  dsimp only [Pt.U, Pt.locs, Pt.cells, Pt.slots] at X65 l65 y65 z65 st65 hQ65
  subst y65 z65
  obtain ⟨r_65, t_65, zl_65, zh_65, rfl, Nq65, K65q, p65_0, p65_1, p65_2, p65_3, p65_4, p65_5, p65_6, p65_7⟩ := hQ65
  have N65 : Fr n0 L65 := (congrArg (Fr n0) l65).mpr (Fr.app N55 Nq65)
  have f67 : Arv Z h62 b20 k20 .int (3 : Int32) ([(.int r_23), (.int r_26), (.int r_29)]) (.int 0) := ((f57.keep K55q (ninS ne33 nin0)).ext E62)
  have ne66 : b20 ≠ r_65 := Nat.ne_of_lt (Nat.lt_of_lt_of_le f67.lt p65_0)
  have f69 : Exa Z h62 b32 s2n := (p55_0.ext E62)
  have ne68 : b32 ≠ r_65 := Nat.ne_of_lt (Nat.lt_of_lt_of_le f69.lt p65_0)
  have f71 : Exa Z h62 r_44 s5n := ((p44_1.keep K55q).ext E62)
  have ne70 : r_44 ≠ r_65 := Nat.ne_of_lt (Nat.lt_of_lt_of_le f71.lt p65_0)
  have f73 : Exa Z h62 e1_55 s3n := (p55_5.ext E62)
  have ne72 : e1_55 ≠ r_65 := Nat.ne_of_lt (Nat.lt_of_lt_of_le f73.lt p65_0)
  have g74 : n0 ≤ r_65 := Nat.le_trans (own_sz O64) p65_0
  have O75 : Old Z n0 T65.heap := O64.keep K65q all0
  have f76 : Exa Z T65.heap b32 s2n := (f69.keep K65q)
  have f77 : Fld Z T65.heap b32 s8n "modCount" "I" (.int 1) := ((p55_1.ext E62).keep K65q nin0)
  have f78 : Fld Z T65.heap b32 s2n "elementData" s3n (.ref e1_55) := ((p55_2.ext E62).keep K65q nin0)
  have f79 : Fld Z T65.heap b32 s2n "size" "I" (.int 1) := ((p55_3.ext E62).keep K65q nin0)
  have f80 : Arv Z T65.heap e1_55 e2_55 (.object s4n) (10 : Int32) ([(.ref r_44), .null, .null, .null, .null, .null, .null, .null, .null, .null]) .null := ((p55_6.ext E62).keep K65q nin0)
  have f81 : Exa Z T65.heap e1_55 s3n := (f73.keep K65q)
  obtain ⟨cq82, kq82, q82a, q82b, q82c⟩ := isOf hZ rfl f76
  obtain ⟨_, _, ⟨T82, L82, k82, n82⟩, -, X82, ⟨Lc82, hQ82, l82, y82, z82⟩, st82⟩ := X65.interfaceBack hx (xi := M30) (y := M16) hown (mvT hZ (ow hw 77 rfl)) (mvT hZ (ow hw 78 rfl)) (mvT hZ (ow hw 79 rfl)) (mvT hZ (ow hw 80 rfl)) (mvT hZ (ow hw 81 rfl)) (mvT hZ (ow hw 82 rfl)) (mvT hZ (ow hw 83 rfl)) (mvT hZ (ow hw 84 rfl)) (by decide) (backOf (W := 0) (au11_1 l Z a0 hw [] wINTEGER wDOUBLE wBOOLEAN wD kwD hS b32 r_65 e1_55 e2_55 r_44 T65.heap n0 O75 f76 f77 f78 f79 p65_1 f80 p55_7 f81 g34 g60 ne58) hZ (ow hw 85 rfl) (ow hw 15 rfl) (by decide) (by decide)) q82a q82b q82c (g := (mkF m 249 #[(vl p0), .second, (vl p1), .second, (vl p2), .second, (vl p3), .second, (vl p4), .second, (vi p5), (vi kk0), (vi kk1), (vi kk2), (vi yo), (vi yb0), (vi yb1), (vi yb2), (vl r_14), .second, (vl r_15), .second, (vl r_16), .second, (vl r_17), .second, (vl r_18), .second, (vl r_19), .second, (vr b20), (vr b32), .unset, .unset, .unset, .unset, .unset, .unset] [(.ref r_65), (.ref b32)])) rfl (by rw [hml]; rfl) (Steps.refl _) (argsL := [(.ref r_65)]) (rest := []) (lenOf pd_11 rfl) rfl (by show 2 * 0 + _ ≤ _; exact Nat.le_of_eq rfl) (hb hby at_249) (fun _ _ => ⟨rfl, rfl, (by decide : 9 + 0 ≤ _), (by decide : 40 + 0 ≤ _)⟩)
  dsimp only [Pt.U, Pt.locs, Pt.cells, Pt.slots] at X82 l82 y82 z82 st82 hQ82
  subst y82 z82
  obtain ⟨rfl, Nq82, K82q, p82_0, p82_1, p82_2, p82_3, p82_4, p82_5, p82_6⟩ := hQ82
  have N82 : Fr n0 L82 := (congrArg (Fr n0) l82).mpr (Fr.app N65 Nq82)
  have O83 : Old Z n0 T82.heap := O75.keep K82q (allS g34 (allS g60 all0))
  have hk85 : _ ≤ T82.heap.size := (Nat.le_trans (Nat.le_trans hk62 K65q.1) K82q.1)
  obtain ⟨b84, T84, h84, kk84, X84, e84, E84, hS84, hk84, hZ, hown, st84⟩ := ldcS X82 hx hZ hown (ow hw 113 rfl) (own_wS hw) rfl hS62 hk85 (g := (mkF m 257 #[(vl p0), .second, (vl p1), .second, (vl p2), .second, (vl p3), .second, (vl p4), .second, (vi p5), (vi kk0), (vi kk1), (vi kk2), (vi yo), (vi yb0), (vi yb1), (vi yb2), (vl r_14), .second, (vl r_15), .second, (vl r_16), .second, (vl r_17), .second, (vl r_18), .second, (vl r_19), .second, (vr b20), (vr b32), .unset, .unset, .unset, .unset, .unset, .unset] [(.ref b32)])) rfl (hb hby at_257) (n := 4) (by decide) (by decide) (by decide) (by decide)
  have O86 : Old Z n0 h84 := O83.ext E84
  obtain ⟨_, _, ⟨T87, L87, k87, n87⟩, -, X87, ⟨Lc87, hQ87, l87, y87, z87⟩, st87⟩ := Jvm.LawKit.callS X84 hx (y := M8) hown (mvT hZ (ow hw 47 rfl)) (mvT hZ (ow hw 48 rfl)) (mvT hZ (ow hw 2 rfl)) (mvT hZ (ow hw 49 rfl)) (by decide) (backOf (W := 1) (rmVar l Z a0 hw [] wINTEGER wDOUBLE wBOOLEAN wD kwD hS b84 r_19 r_18 yb2 h84 n0 O86 ((own_span2 hR2.1 hR2.2.1 rfl rfl).1) hR2.2.2) hZ (ow hw 49 rfl) (ow hw 2 rfl) (by decide) (by decide)) (g := (mkF m 265 #[(vl p0), .second, (vl p1), .second, (vl p2), .second, (vl p3), .second, (vl p4), .second, (vi p5), (vi kk0), (vi kk1), (vi kk2), (vi yo), (vi yb0), (vi yb1), (vi yb2), (vl r_14), .second, (vl r_15), .second, (vl r_16), .second, (vl r_17), .second, (vl r_18), .second, (vl r_19), .second, (vr b20), (vr b32), .unset, .unset, .unset, .unset, .unset, .unset] [(.int yb2), (.long r_18), (.long r_19), (.ref b84), (.ref b32)])) rfl (by rw [hml]; rfl) (argsL := [(.ref b84), (.long r_19), (.long r_18), (.int yb2)]) (rest := [(.ref b32)]) (lenOf pd_6 rfl) rfl (by show 2 * 0 + _ ≤ _; exact Nat.le_of_eq rfl) (hb hby at_265) (fun _ _ => ⟨rfl, e84, (by decide : 11 + 1 ≤ _), (by decide : 48 + 4 ≤ _)⟩)
  dsimp only [Pt.U, Pt.locs, Pt.cells, Pt.slots] at X87 l87 y87 z87 st87 hQ87
  subst y87 z87
  obtain ⟨r_87, t_87, zl_87, zh_87, rfl, Nq87, K87q, p87_0, p87_1, p87_2, p87_3, p87_4, p87_5, p87_6, p87_7⟩ := hQ87
  have N87 : Fr n0 L87 := (congrArg (Fr n0) l87).mpr (Fr.app N82 Nq87)
  have f89 : Arv Z h84 b20 k20 .int (3 : Int32) ([(.int r_23), (.int r_26), (.int r_29)]) (.int 0) := (((f67.keep K65q nin0).keep K82q (ninS ne33 (ninS ne56 nin0))).ext E84)
  have ne88 : b20 ≠ r_87 := Nat.ne_of_lt (Nat.lt_of_lt_of_le f89.lt p87_0)
  have f91 : Exa Z h84 b32 s2n := (p82_0.ext E84)
  have ne90 : b32 ≠ r_87 := Nat.ne_of_lt (Nat.lt_of_lt_of_le f91.lt p87_0)
  have f93 : Exa Z h84 r_44 s5n := (((f71.keep K65q).keep K82q).ext E84)
  have ne92 : r_44 ≠ r_87 := Nat.ne_of_lt (Nat.lt_of_lt_of_le f93.lt p87_0)
  have f95 : Exa Z h84 e1_55 s3n := (p82_4.ext E84)
  have ne94 : e1_55 ≠ r_87 := Nat.ne_of_lt (Nat.lt_of_lt_of_le f95.lt p87_0)
  have f97 : Exa Z h84 r_65 s5n := ((p65_1.keep K82q).ext E84)
  have ne96 : r_65 ≠ r_87 := Nat.ne_of_lt (Nat.lt_of_lt_of_le f97.lt p87_0)
  have g98 : n0 ≤ r_87 := Nat.le_trans (own_sz O86) p87_0
  have O99 : Old Z n0 T87.heap := O86.keep K87q all0
  have f100 : Exa Z T87.heap b32 s2n := (f91.keep K87q)
  have f101 : Fld Z T87.heap b32 s8n "modCount" "I" (.int 2) := ((p82_1.ext E84).keep K87q nin0)
  have f102 : Fld Z T87.heap b32 s2n "elementData" s3n (.ref e1_55) := ((p82_2.ext E84).keep K87q nin0)
  have f103 : Fld Z T87.heap b32 s2n "size" "I" (.int 2) := ((p82_3.ext E84).keep K87q nin0)
  have f104 : Arv Z T87.heap e1_55 e2_55 (.object s4n) (10 : Int32) ([(.ref r_44), (.ref r_65), .null, .null, .null, .null, .null, .null, .null, .null]) .null := ((p82_5.ext E84).keep K87q nin0)
  have f105 : Exa Z T87.heap e1_55 s3n := (f95.keep K87q)
  obtain ⟨cq106, kq106, q106a, q106b, q106c⟩ := isOf hZ rfl f100
  obtain ⟨_, _, ⟨T106, L106, k106, n106⟩, -, X106, ⟨Lc106, hQ106, l106, y106, z106⟩, st106⟩ := X87.interfaceBack hx (xi := M30) (y := M16) hown (mvT hZ (ow hw 77 rfl)) (mvT hZ (ow hw 78 rfl)) (mvT hZ (ow hw 79 rfl)) (mvT hZ (ow hw 80 rfl)) (mvT hZ (ow hw 81 rfl)) (mvT hZ (ow hw 82 rfl)) (mvT hZ (ow hw 83 rfl)) (mvT hZ (ow hw 84 rfl)) (by decide) (backOf (W := 0) (au11_2 l Z a0 hw [] wINTEGER wDOUBLE wBOOLEAN wD kwD hS b32 r_87 e1_55 e2_55 r_44 r_65 T87.heap n0 O99 f100 f101 f102 f103 p87_1 f104 p82_6 f105 g34 g60 ne58) hZ (ow hw 85 rfl) (ow hw 15 rfl) (by decide) (by decide)) q106a q106b q106c (g := (mkF m 268 #[(vl p0), .second, (vl p1), .second, (vl p2), .second, (vl p3), .second, (vl p4), .second, (vi p5), (vi kk0), (vi kk1), (vi kk2), (vi yo), (vi yb0), (vi yb1), (vi yb2), (vl r_14), .second, (vl r_15), .second, (vl r_16), .second, (vl r_17), .second, (vl r_18), .second, (vl r_19), .second, (vr b20), (vr b32), .unset, .unset, .unset, .unset, .unset, .unset] [(.ref r_87), (.ref b32)])) rfl (by rw [hml]; rfl) (Steps.refl _) (argsL := [(.ref r_87)]) (rest := []) (lenOf pd_11 rfl) rfl (by show 2 * 0 + _ ≤ _; exact Nat.le_of_eq rfl) (hb hby at_268) (fun _ _ => ⟨rfl, rfl, (by decide : 12 + 0 ≤ _), (by decide : 52 + 0 ≤ _)⟩)
  dsimp only [Pt.U, Pt.locs, Pt.cells, Pt.slots] at X106 l106 y106 z106 st106 hQ106
  subst y106 z106
  obtain ⟨rfl, Nq106, K106q, p106_0, p106_1, p106_2, p106_3, p106_4, p106_5, p106_6⟩ := hQ106
  have N106 : Fr n0 L106 := (congrArg (Fr n0) l106).mpr (Fr.app N87 Nq106)
  have O107 : Old Z n0 T106.heap := O99.keep K106q (allS g34 (allS g60 all0))
  obtain ⟨k0, hk0⟩ : ∃ z, z = bitsV zl_44 zh_44 := ⟨_, rfl⟩
  have hbt0 : bitsV zl_44 zh_44 = k0 := hk0.symm
  have hF0 : FOk r_23 zl_44 k0 := own_FOk hR0.1 hR0.2.1 p44_6 p44_7 hk0 p23_0
  have hK0 : inK k0 := own_FK hF0
  obtain ⟨k1, hk1⟩ : ∃ z, z = bitsV zl_65 zh_65 := ⟨_, rfl⟩
  have hbt1 : bitsV zl_65 zh_65 = k1 := hk1.symm
  have hF1 : FOk r_26 zl_65 k1 := own_FOk hR1.1 hR1.2.1 p65_6 p65_7 hk1 p26_0
  have hK1 : inK k1 := own_FK hF1
  obtain ⟨k2, hk2⟩ : ∃ z, z = bitsV zl_87 zh_87 := ⟨_, rfl⟩
  have hbt2 : bitsV zl_87 zh_87 = k2 := hk2.symm
  have hF2 : FOk r_29 zl_87 k2 := own_FOk hR2.1 hR2.2.1 p87_6 p87_7 hk2 p29_0
  have hK2 : inK k2 := own_FK hF2
  have hA : ¬ (64 : Int32) < ((0 : Int32) + k0) := own_a64 hK0
  have hB : ¬ (64 : Int32) < (((0 : Int32) + k0) + k1) := own_b64 hK0 hK1
  have pre108 : ∀ t, Steps p.tables e below (T106.setTop (mkF m 274 #[(vl p0), .second, (vl p1), .second, (vl p2), .second, (vl p3), .second, (vl p4), .second, (vi p5), (vi kk0), (vi kk1), (vi kk2), (vi yo), (vi yb0), (vi yb1), (vi yb2), (vl r_14), .second, (vl r_15), .second, (vl r_16), .second, (vl r_17), .second, (vl r_18), .second, (vl r_19), .second, (vr b20), (vr b32), .unset, .unset, .unset, .unset, .unset, .unset] [])) t → Steps p.tables e below (s₁.setTop (entryFrame m #[(.long p0), (.long p1), (.long p2), (.long p3), (.long p4), (.int p5)] maxLocals)) t := by
    intro t k
    refine pre13 t ?_
    show Steps p.tables e below (s₁.setTop (mkF m 94 #[(vl p0), .second, (vl p1), .second, (vl p2), .second, (vl p3), .second, (vl p4), .second, (vi p5), (vi kk0), (vi kk1), (vi kk2), (vi yo), (vi yb0), (vi yb1), .unset, .unset, .unset, .unset, .unset, .unset, .unset, .unset, .unset, .unset, .unset, .unset, .unset, .unset, .unset, .unset, .unset, .unset, .unset, .unset, .unset] [(.int yb2)])) _
    refine XS.istore X0.here hx rfl (hb hby at_94) rfl (l' := #[(vl p0), .second, (vl p1), .second, (vl p2), .second, (vl p3), .second, (vl p4), .second, (vi p5), (vi kk0), (vi kk1), (vi kk2), (vi yo), (vi yb0), (vi yb1), (vi yb2), .unset, .unset, .unset, .unset, .unset, .unset, .unset, .unset, .unset, .unset, .unset, .unset, .unset, .unset, .unset, .unset, .unset, .unset, .unset, .unset]) rfl ?_
    refine XS.lloadN X0.here hx rfl (hb hby at_96) rfl ?_
    refine XS.iload X0.here hx rfl (hb hby at_97) rfl ?_
    refine XS.iload X0.here hx rfl (hb hby at_99) rfl ?_
    refine st14 _ ?_
    refine XS.lstore X14.here hx rfl (hb hby at_104) rfl (l' := #[(vl p0), .second, (vl p1), .second, (vl p2), .second, (vl p3), .second, (vl p4), .second, (vi p5), (vi kk0), (vi kk1), (vi kk2), (vi yo), (vi yb0), (vi yb1), (vi yb2), (vl r_14), .second, .unset, .unset, .unset, .unset, .unset, .unset, .unset, .unset, .unset, .unset, .unset, .unset, .unset, .unset, .unset, .unset, .unset, .unset]) rfl ?_
    refine XS.lloadN X14.here hx rfl (hb hby at_106) rfl ?_
    refine XS.lload X14.here hx rfl (hb hby at_107) rfl ?_
    refine XS.iload X14.here hx rfl (hb hby at_109) rfl ?_
    refine st15 _ ?_
    refine XS.lstore X15.here hx rfl (hb hby at_114) rfl (l' := #[(vl p0), .second, (vl p1), .second, (vl p2), .second, (vl p3), .second, (vl p4), .second, (vi p5), (vi kk0), (vi kk1), (vi kk2), (vi yo), (vi yb0), (vi yb1), (vi yb2), (vl r_14), .second, (vl r_15), .second, .unset, .unset, .unset, .unset, .unset, .unset, .unset, .unset, .unset, .unset, .unset, .unset, .unset, .unset, .unset, .unset]) rfl ?_
    refine XS.lloadN X15.here hx rfl (hb hby at_116) rfl ?_
    refine XS.iload X15.here hx rfl (hb hby at_117) rfl ?_
    refine XS.iload X15.here hx rfl (hb hby at_119) rfl ?_
    show Steps p.tables e below (T15.setTop (mkF m 121 #[(vl p0), .second, (vl p1), .second, (vl p2), .second, (vl p3), .second, (vl p4), .second, (vi p5), (vi kk0), (vi kk1), (vi kk2), (vi yo), (vi yb0), (vi yb1), (vi yb2), (vl r_14), .second, (vl r_15), .second, .unset, .unset, .unset, .unset, .unset, .unset, .unset, .unset, .unset, .unset, .unset, .unset, .unset, .unset, .unset, .unset] [(.int yb1), (.int kk1), (.long p1)])) _
    refine st16 _ ?_
    refine XS.lstore X16.here hx rfl (hb hby at_124) rfl (l' := #[(vl p0), .second, (vl p1), .second, (vl p2), .second, (vl p3), .second, (vl p4), .second, (vi p5), (vi kk0), (vi kk1), (vi kk2), (vi yo), (vi yb0), (vi yb1), (vi yb2), (vl r_14), .second, (vl r_15), .second, (vl r_16), .second, .unset, .unset, .unset, .unset, .unset, .unset, .unset, .unset, .unset, .unset, .unset, .unset, .unset, .unset]) rfl ?_
    refine XS.lloadN X16.here hx rfl (hb hby at_126) rfl ?_
    refine XS.lload X16.here hx rfl (hb hby at_127) rfl ?_
    refine XS.iload X16.here hx rfl (hb hby at_129) rfl ?_
    refine st17 _ ?_
    refine XS.lstore X17.here hx rfl (hb hby at_134) rfl (l' := #[(vl p0), .second, (vl p1), .second, (vl p2), .second, (vl p3), .second, (vl p4), .second, (vi p5), (vi kk0), (vi kk1), (vi kk2), (vi yo), (vi yb0), (vi yb1), (vi yb2), (vl r_14), .second, (vl r_15), .second, (vl r_16), .second, (vl r_17), .second, .unset, .unset, .unset, .unset, .unset, .unset, .unset, .unset, .unset, .unset, .unset, .unset]) rfl ?_
    refine XS.lload X17.here hx rfl (hb hby at_136) rfl ?_
    refine XS.iload X17.here hx rfl (hb hby at_138) rfl ?_
    refine XS.iload X17.here hx rfl (hb hby at_140) rfl ?_
    refine st18 _ ?_
    refine XS.lstore X18.here hx rfl (hb hby at_145) rfl (l' := #[(vl p0), .second, (vl p1), .second, (vl p2), .second, (vl p3), .second, (vl p4), .second, (vi p5), (vi kk0), (vi kk1), (vi kk2), (vi yo), (vi yb0), (vi yb1), (vi yb2), (vl r_14), .second, (vl r_15), .second, (vl r_16), .second, (vl r_17), .second, (vl r_18), .second, .unset, .unset, .unset, .unset, .unset, .unset, .unset, .unset, .unset, .unset]) rfl ?_
    refine XS.lload X18.here hx rfl (hb hby at_147) rfl ?_
    refine XS.lload X18.here hx rfl (hb hby at_149) rfl ?_
    show Steps p.tables e below (T18.setTop (mkF m 151 #[(vl p0), .second, (vl p1), .second, (vl p2), .second, (vl p3), .second, (vl p4), .second, (vi p5), (vi kk0), (vi kk1), (vi kk2), (vi yo), (vi yb0), (vi yb1), (vi yb2), (vl r_14), .second, (vl r_15), .second, (vl r_16), .second, (vl r_17), .second, (vl r_18), .second, .unset, .unset, .unset, .unset, .unset, .unset, .unset, .unset, .unset, .unset] [(.long r_18), (.long p2)])) _
    refine XS.iload X18.here hx rfl (hb hby at_151) rfl ?_
    refine st19 _ ?_
    refine XS.lstore X19.here hx rfl (hb hby at_156) rfl (l' := #[(vl p0), .second, (vl p1), .second, (vl p2), .second, (vl p3), .second, (vl p4), .second, (vi p5), (vi kk0), (vi kk1), (vi kk2), (vi yo), (vi yb0), (vi yb1), (vi yb2), (vl r_14), .second, (vl r_15), .second, (vl r_16), .second, (vl r_17), .second, (vl r_18), .second, (vl r_19), .second, .unset, .unset, .unset, .unset, .unset, .unset, .unset, .unset]) rfl ?_
    refine XS.iconst X19.here hx rfl (hb hby at_158) ?_
    refine st20 _ ?_
    refine XS.astore X20.here hx rfl (hb hby at_161) rfl rfl (l' := #[(vl p0), .second, (vl p1), .second, (vl p2), .second, (vl p3), .second, (vl p4), .second, (vi p5), (vi kk0), (vi kk1), (vi kk2), (vi yo), (vi yb0), (vi yb1), (vi yb2), (vl r_14), .second, (vl r_15), .second, (vl r_16), .second, (vl r_17), .second, (vl r_18), .second, (vl r_19), .second, (vr b20), .unset, .unset, .unset, .unset, .unset, .unset, .unset]) rfl ?_
    refine XS.aload X20.here hx rfl (hb hby at_163) rfl rfl ?_
    refine XS.iconst X20.here hx rfl (hb hby at_165) ?_
    refine XS.lload X20.here hx rfl (hb hby at_166) rfl ?_
    refine XS.lload X20.here hx rfl (hb hby at_168) rfl ?_
    refine XS.lload X20.here hx rfl (hb hby at_170) rfl ?_
    refine XS.bipush X20.here hx rfl (hb hby at_172) ?_
    refine XS.lushr X20.here hx rfl (hb hby at_174) rfl ?_
    refine XS.l2i X20.here hx rfl (hb hby at_175) rfl ?_
    show Steps p.tables e below (T20.setTop (mkF m 176 #[(vl p0), .second, (vl p1), .second, (vl p2), .second, (vl p3), .second, (vl p4), .second, (vi p5), (vi kk0), (vi kk1), (vi kk2), (vi yo), (vi yb0), (vi yb1), (vi yb2), (vl r_14), .second, (vl r_15), .second, (vl r_16), .second, (vl r_17), .second, (vl r_18), .second, (vl r_19), .second, (vr b20), .unset, .unset, .unset, .unset, .unset, .unset, .unset] [(.int (((p3.toUInt64 >>> ((32 : Int32) &&& 0x3f).toInt64.toUInt64).toInt64).toInt32)), (.long r_14), (.long r_15), (.int 0), (.ref b20)])) _
    refine st23 _ ?_
    refine st24 _ ?_
    refine XS.aload X24.here hx rfl (hb hby at_180) rfl rfl ?_
    refine XS.iconst X24.here hx rfl (hb hby at_182) ?_
    refine XS.lload X24.here hx rfl (hb hby at_183) rfl ?_
    refine XS.lload X24.here hx rfl (hb hby at_185) rfl ?_
    refine XS.lload X24.here hx rfl (hb hby at_187) rfl ?_
    refine XS.l2i X24.here hx rfl (hb hby at_189) rfl ?_
    refine st26 _ ?_
    refine st27 _ ?_
    refine XS.aload X27.here hx rfl (hb hby at_194) rfl rfl ?_
    refine XS.iconst X27.here hx rfl (hb hby at_196) ?_
    refine XS.lload X27.here hx rfl (hb hby at_197) rfl ?_
    refine XS.lload X27.here hx rfl (hb hby at_199) rfl ?_
    show Steps p.tables e below (T27.setTop (mkF m 201 #[(vl p0), .second, (vl p1), .second, (vl p2), .second, (vl p3), .second, (vl p4), .second, (vi p5), (vi kk0), (vi kk1), (vi kk2), (vi yo), (vi yb0), (vi yb1), (vi yb2), (vl r_14), .second, (vl r_15), .second, (vl r_16), .second, (vl r_17), .second, (vl r_18), .second, (vl r_19), .second, (vr b20), .unset, .unset, .unset, .unset, .unset, .unset, .unset] [(.long r_18), (.long r_19), (.int 2), (.ref b20)])) _
    refine XS.lload X27.here hx rfl (hb hby at_201) rfl ?_
    refine XS.l2i X27.here hx rfl (hb hby at_203) rfl ?_
    refine st29 _ ?_
    refine st30 _ ?_
    refine st32 _ ?_
    refine XS.dup X32.here hx rfl (hb hby at_211) rfl rfl ?_
    refine st39.trans ?_
    refine XS.astore X39.here hx rfl (hb hby at_215) rfl rfl (l' := #[(vl p0), .second, (vl p1), .second, (vl p2), .second, (vl p3), .second, (vl p4), .second, (vi p5), (vi kk0), (vi kk1), (vi kk2), (vi yo), (vi yb0), (vi yb1), (vi yb2), (vl r_14), .second, (vl r_15), .second, (vl r_16), .second, (vl r_17), .second, (vl r_18), .second, (vl r_19), .second, (vr b20), (vr b32), .unset, .unset, .unset, .unset, .unset, .unset]) rfl ?_
    refine XS.aload X39.here hx rfl (hb hby at_217) rfl rfl ?_
    refine st41 _ ?_
    refine XS.lload X41.here hx rfl (hb hby at_221) rfl ?_
    refine XS.lload X41.here hx rfl (hb hby at_223) rfl ?_
    refine XS.iload X41.here hx rfl (hb hby at_225) rfl ?_
    refine st44 _ ?_
    show Steps p.tables e below (T44.setTop (mkF m 230 #[(vl p0), .second, (vl p1), .second, (vl p2), .second, (vl p3), .second, (vl p4), .second, (vi p5), (vi kk0), (vi kk1), (vi kk2), (vi yo), (vi yb0), (vi yb1), (vi yb2), (vl r_14), .second, (vl r_15), .second, (vl r_16), .second, (vl r_17), .second, (vl r_18), .second, (vl r_19), .second, (vr b20), (vr b32), .unset, .unset, .unset, .unset, .unset, .unset] [(.ref r_44), (.ref b32)])) _
    refine st55.trans ?_
    refine XS.pop X55.here hx rfl (hb hby at_235) rfl rfl ?_
    refine XS.aload X55.here hx rfl (hb hby at_236) rfl rfl ?_
    refine st62 _ ?_
    refine XS.lload X62.here hx rfl (hb hby at_240) rfl ?_
    refine XS.lload X62.here hx rfl (hb hby at_242) rfl ?_
    refine XS.iload X62.here hx rfl (hb hby at_244) rfl ?_
    refine st65 _ ?_
    refine st82.trans ?_
    refine XS.pop X82.here hx rfl (hb hby at_254) rfl rfl ?_
    refine XS.aload X82.here hx rfl (hb hby at_255) rfl rfl ?_
    refine st84 _ ?_
    refine XS.lload X84.here hx rfl (hb hby at_259) rfl ?_
    refine XS.lload X84.here hx rfl (hb hby at_261) rfl ?_
    show Steps p.tables e below (T84.setTop (mkF m 263 #[(vl p0), .second, (vl p1), .second, (vl p2), .second, (vl p3), .second, (vl p4), .second, (vi p5), (vi kk0), (vi kk1), (vi kk2), (vi yo), (vi yb0), (vi yb1), (vi yb2), (vl r_14), .second, (vl r_15), .second, (vl r_16), .second, (vl r_17), .second, (vl r_18), .second, (vl r_19), .second, (vr b20), (vr b32), .unset, .unset, .unset, .unset, .unset, .unset] [(.long r_18), (.long r_19), (.ref b84), (.ref b32)])) _
    refine XS.iload X84.here hx rfl (hb hby at_263) rfl ?_
    refine st87 _ ?_
    refine st106.trans ?_
    refine XS.pop X106.here hx rfl (hb hby at_273) rfl rfl ?_
    exact k
  rcases Decidable.em ((64 : Int32) < ((k0 + k1) + k2)) with hsp | hsp
  · skip
    have hC : (64 : Int32) < ((((0 : Int32) + k0) + k1) + k2) := by rw [Int32.zero_add]; exact hsp
    obtain ⟨T109, h109, X109, e109, E109, A109, D109, -, st109⟩ := newO X106 hx hZ hown (ow hw 114 rfl) (ow hw 115 rfl) (ow hw 116 rfl) rfl (g := (mkF m 274 #[(vl p0), .second, (vl p1), .second, (vl p2), .second, (vl p3), .second, (vl p4), .second, (vi p5), (vi kk0), (vi kk1), (vi kk2), (vi yo), (vi yb0), (vi yb1), (vi yb2), (vl r_14), .second, (vl r_15), .second, (vl r_16), .second, (vl r_17), .second, (vl r_18), .second, (vl r_19), .second, (vr b20), (vr b32), .unset, .unset, .unset, .unset, .unset, .unset] [])) rfl (hb hby at_274) (by decide) (by decide)
    obtain ⟨b109, g109⟩ : ∃ z, z = T106.heap.size := ⟨_, rfl⟩
    rw [← g109] at A109 D109 st109
    have f111 : Arv Z T106.heap b20 k20 .int (3 : Int32) ([(.int r_23), (.int r_26), (.int r_29)]) (.int 0) := ((f89.keep K87q nin0).keep K106q (ninS ne33 (ninS ne56 nin0)))
    have ne110 : b20 ≠ b109 := Nat.ne_of_lt (Nat.lt_of_lt_of_le f111.lt (Nat.le_of_eq g109.symm))
    have ne112 : b32 ≠ b109 := Nat.ne_of_lt (Nat.lt_of_lt_of_le p106_0.lt (Nat.le_of_eq g109.symm))
    have f114 : Exa Z T106.heap r_44 s5n := ((f93.keep K87q).keep K106q)
    have ne113 : r_44 ≠ b109 := Nat.ne_of_lt (Nat.lt_of_lt_of_le f114.lt (Nat.le_of_eq g109.symm))
    have ne115 : e1_55 ≠ b109 := Nat.ne_of_lt (Nat.lt_of_lt_of_le p106_4.lt (Nat.le_of_eq g109.symm))
    have f117 : Exa Z T106.heap r_65 s5n := ((f97.keep K87q).keep K106q)
    have ne116 : r_65 ≠ b109 := Nat.ne_of_lt (Nat.lt_of_lt_of_le f117.lt (Nat.le_of_eq g109.symm))
    have f119 : Exa Z T106.heap r_87 s5n := (p87_1.keep K106q)
    have ne118 : r_87 ≠ b109 := Nat.ne_of_lt (Nat.lt_of_lt_of_le f119.lt (Nat.le_of_eq g109.symm))
    have g120 : n0 ≤ b109 := Nat.le_trans (own_sz O107) (Nat.le_of_eq g109.symm)
    have O121 : Old Z n0 h109 := O107.ext E109
    have f122 : Fld Z h109 b109 s9n "low" "[I" .null := D109 (Or.inr (ow hw 130 rfl)) (ty := (.array .int)) (by decide)
    have f123 : Fld Z h109 b109 s9n "word" "[I" .null := D109 (Or.inr (ow hw 132 rfl)) (ty := (.array .int)) (by decide)
    have f124 : Fld Z h109 b109 s9n "shift" "[I" .null := D109 (Or.inr (ow hw 134 rfl)) (ty := (.array .int)) (by decide)
    have f125 : Fld Z h109 b109 s9n "mask" "[J" .null := D109 (Or.inr (ow hw 137 rfl)) (ty := (.array .long)) (by decide)
    have f126 : Fld Z h109 b109 s9n s10n "I" (.int 0) := D109 (Or.inr (ow hw 182 rfl)) (ty := .int) (by decide)
    have f127 : Exa Z h109 b32 s2n := (p106_0.ext E109)
    have f128 : Fld Z h109 b32 s2n "elementData" s3n (.ref e1_55) := (p106_2.ext E109)
    have f129 : Fld Z h109 b32 s2n "size" "I" (.int 3) := (p106_3.ext E109)
    have f130 : Arv Z h109 e1_55 e2_55 (.object s4n) (10 : Int32) ([(.ref r_44), (.ref r_65), (.ref r_87), .null, .null, .null, .null, .null, .null, .null]) .null := (p106_5.ext E109)
    have f131 : Exa Z h109 r_44 s5n := (f114.ext E109)
    have f132 : Fld Z h109 r_44 s5n "high" "I" (.int zh_44) := ((((((((p44_5.keep K55q (ninS (Ne.symm ne47) nin0)).ext E62).keep K65q nin0).keep K82q (ninS (Ne.symm ne47) (ninS ne59 nin0))).ext E84).keep K87q nin0).keep K106q (ninS (Ne.symm ne47) (ninS ne59 nin0))).ext E109)
    have f133 : Fld Z h109 r_44 s5n "low" "I" (.int zl_44) := ((((((((p44_4.keep K55q (ninS (Ne.symm ne47) nin0)).ext E62).keep K65q nin0).keep K82q (ninS (Ne.symm ne47) (ninS ne59 nin0))).ext E84).keep K87q nin0).keep K106q (ninS (Ne.symm ne47) (ninS ne59 nin0))).ext E109)
    have f134 : Exa Z h109 r_65 s5n := (f117.ext E109)
    have f135 : Fld Z h109 r_65 s5n "high" "I" (.int zh_65) := (((((p65_5.keep K82q (ninS (Ne.symm ne68) (ninS (Ne.symm ne72) nin0))).ext E84).keep K87q nin0).keep K106q (ninS (Ne.symm ne68) (ninS (Ne.symm ne72) nin0))).ext E109)
    have f136 : Fld Z h109 r_65 s5n "low" "I" (.int zl_65) := (((((p65_4.keep K82q (ninS (Ne.symm ne68) (ninS (Ne.symm ne72) nin0))).ext E84).keep K87q nin0).keep K106q (ninS (Ne.symm ne68) (ninS (Ne.symm ne72) nin0))).ext E109)
    have f137 : Exa Z h109 r_87 s5n := (f119.ext E109)
    have f138 : Fld Z h109 r_87 s5n "high" "I" (.int zh_87) := ((p87_5.keep K106q (ninS (Ne.symm ne90) (ninS (Ne.symm ne94) nin0))).ext E109)
    have f139 : Fld Z h109 r_87 s5n "low" "I" (.int zl_87) := ((p87_4.keep K106q (ninS (Ne.symm ne90) (ninS (Ne.symm ne94) nin0))).ext E109)
    obtain ⟨_, _, ⟨T140, L140, k140, n140⟩, -, X140, ⟨Lc140, hQ140, l140, y140, z140⟩, st140⟩ := X109.specialBack hx (y := M24) rfl hown (mvT hZ (ow hw 117 rfl)) (mvT hZ (ow hw 118 rfl)) (mvT hZ (ow hw 119 rfl)) (by decide) (backOf (W := 1) (au16_0 l Z a0 hw [] wINTEGER wDOUBLE wBOOLEAN wD kwD hS b109 b32 k0 k1 k2 e1_55 e2_55 r_44 r_65 r_87 zh_44 zl_44 zh_65 zl_65 zh_87 zl_87 h109 n0 O121 A109 f122 f125 f124 f123 f126 f127 f128 f129 f130 f131 f132 f133 f134 f135 f136 f137 f138 f139 hbt0 hbt1 hbt2 hA hB hC g120 (Ne.symm ne112) (Ne.symm ne115) (Ne.symm ne113) (Ne.symm ne116) (Ne.symm ne118)) hZ (ow hw 119 rfl) (ow hw 116 rfl) (by decide) (by decide)) (g := (mkF m 280 #[(vl p0), .second, (vl p1), .second, (vl p2), .second, (vl p3), .second, (vl p4), .second, (vi p5), (vi kk0), (vi kk1), (vi kk2), (vi yo), (vi yb0), (vi yb1), (vi yb2), (vl r_14), .second, (vl r_15), .second, (vl r_16), .second, (vl r_17), .second, (vl r_18), .second, (vl r_19), .second, (vr b20), (vr b32), .unset, .unset, .unset, .unset, .unset, .unset] [(.ref b32), (.ref b109), (.ref b109)])) rfl (by rw [hml]; rfl) (Steps.refl _) (a := b109) (argsL := [(.ref b32)]) (rest := [(.ref b109)]) (lenOf pd_16 rfl) rfl (by show 2 * 0 + _ ≤ _; exact Nat.le_of_eq rfl) (hb hby at_280) (fun _ _ => ⟨rfl, e109, (by decide : 13 + 4 ≤ _), (by decide : 57 + 12 ≤ _)⟩)
    dsimp only [Pt.U, Pt.locs, Pt.cells, Pt.slots] at X140 l140 y140 z140 st140 hQ140
    subst y140 z140
    obtain ⟨e1_140, e2_140, e3_140, e4_140, e5_140, e6_140, e7_140, e8_140, rfl, Nq140, K140q, p140_0, p140_1, p140_2, p140_3, p140_4, p140_5, p140_6, p140_7, p140_8, p140_9, p140_10, p140_11, p140_12, p140_13, p140_14, p140_15, p140_16, p140_17, p140_18, p140_19, p140_20, p140_21, p140_22, p140_23⟩ := hQ140
    have N140 : Fr n0 L140 := (congrArg (Fr n0) l140).mpr (Fr.app N106 Nq140)
    have f142 : Arv Z h109 b20 k20 .int (3 : Int32) ([(.int r_23), (.int r_26), (.int r_29)]) (.int 0) := (f111.ext E109)
    have ne141 : b20 ≠ e1_140 := Nat.ne_of_lt (Nat.lt_of_lt_of_le f142.lt p140_6)
    have ne143 : b32 ≠ e1_140 := Nat.ne_of_lt (Nat.lt_of_lt_of_le f127.lt p140_6)
    have ne144 : r_44 ≠ e1_140 := Nat.ne_of_lt (Nat.lt_of_lt_of_le f131.lt p140_6)
    have f146 : Exa Z h109 e1_55 s3n := (p106_4.ext E109)
    have ne145 : e1_55 ≠ e1_140 := Nat.ne_of_lt (Nat.lt_of_lt_of_le f146.lt p140_6)
    have ne147 : r_65 ≠ e1_140 := Nat.ne_of_lt (Nat.lt_of_lt_of_le f134.lt p140_6)
    have ne148 : r_87 ≠ e1_140 := Nat.ne_of_lt (Nat.lt_of_lt_of_le f137.lt p140_6)
    have ne149 : b109 ≠ e1_140 := Nat.ne_of_lt (Nat.lt_of_lt_of_le A109.lt p140_6)
    have g150 : n0 ≤ e1_140 := Nat.le_trans (own_sz O121) p140_6
    have ne151 : b20 ≠ e2_140 := Nat.ne_of_lt (Nat.lt_of_lt_of_le f142.lt p140_9)
    have ne152 : b32 ≠ e2_140 := Nat.ne_of_lt (Nat.lt_of_lt_of_le f127.lt p140_9)
    have ne153 : r_44 ≠ e2_140 := Nat.ne_of_lt (Nat.lt_of_lt_of_le f131.lt p140_9)
    have ne154 : e1_55 ≠ e2_140 := Nat.ne_of_lt (Nat.lt_of_lt_of_le f146.lt p140_9)
    have ne155 : r_65 ≠ e2_140 := Nat.ne_of_lt (Nat.lt_of_lt_of_le f134.lt p140_9)
    have ne156 : r_87 ≠ e2_140 := Nat.ne_of_lt (Nat.lt_of_lt_of_le f137.lt p140_9)
    have ne157 : b109 ≠ e2_140 := Nat.ne_of_lt (Nat.lt_of_lt_of_le A109.lt p140_9)
    have g158 : n0 ≤ e2_140 := Nat.le_trans (own_sz O121) p140_9
    have ne159 : b20 ≠ e3_140 := Nat.ne_of_lt (Nat.lt_of_lt_of_le f142.lt p140_12)
    have ne160 : b32 ≠ e3_140 := Nat.ne_of_lt (Nat.lt_of_lt_of_le f127.lt p140_12)
    have ne161 : r_44 ≠ e3_140 := Nat.ne_of_lt (Nat.lt_of_lt_of_le f131.lt p140_12)
    have ne162 : e1_55 ≠ e3_140 := Nat.ne_of_lt (Nat.lt_of_lt_of_le f146.lt p140_12)
    have ne163 : r_65 ≠ e3_140 := Nat.ne_of_lt (Nat.lt_of_lt_of_le f134.lt p140_12)
    have ne164 : r_87 ≠ e3_140 := Nat.ne_of_lt (Nat.lt_of_lt_of_le f137.lt p140_12)
    have ne165 : b109 ≠ e3_140 := Nat.ne_of_lt (Nat.lt_of_lt_of_le A109.lt p140_12)
    have g166 : n0 ≤ e3_140 := Nat.le_trans (own_sz O121) p140_12
    have ne167 : b20 ≠ e4_140 := Nat.ne_of_lt (Nat.lt_of_lt_of_le f142.lt p140_15)
    have ne168 : b32 ≠ e4_140 := Nat.ne_of_lt (Nat.lt_of_lt_of_le f127.lt p140_15)
    have ne169 : r_44 ≠ e4_140 := Nat.ne_of_lt (Nat.lt_of_lt_of_le f131.lt p140_15)
    have ne170 : e1_55 ≠ e4_140 := Nat.ne_of_lt (Nat.lt_of_lt_of_le f146.lt p140_15)
    have ne171 : r_65 ≠ e4_140 := Nat.ne_of_lt (Nat.lt_of_lt_of_le f134.lt p140_15)
    have ne172 : r_87 ≠ e4_140 := Nat.ne_of_lt (Nat.lt_of_lt_of_le f137.lt p140_15)
    have ne173 : b109 ≠ e4_140 := Nat.ne_of_lt (Nat.lt_of_lt_of_le A109.lt p140_15)
    have g174 : n0 ≤ e4_140 := Nat.le_trans (own_sz O121) p140_15
    have O175 : Old Z n0 T140.heap := O121.keep K140q (allS g120 all0)
    obtain ⟨T176, h176, k176, X176, e176, E176, A176, Z176, st176⟩ := newPE X140 hx hZ (ow hw 135 rfl) rfl (g := (mkF m 287 #[(vl p0), .second, (vl p1), .second, (vl p2), .second, (vl p3), .second, (vl p4), .second, (vi p5), (vi kk0), (vi kk1), (vi kk2), (vi yo), (vi yb0), (vi yb1), (vi yb2), (vl r_14), .second, (vl r_15), .second, (vl r_16), .second, (vl r_17), .second, (vl r_18), .second, (vl r_19), .second, (vr b20), (vr b32), (vr b109), .unset, .unset, .unset, .unset, .unset] [(.int 6)])) rfl (hb hby at_287) rfl (by decide) (cap := 6) (by decide) (by decide) (by decide) (by decide) (ad := "[J") rfl
    obtain ⟨b176, g176⟩ : ∃ z, z = T140.heap.size := ⟨_, rfl⟩
    rw [← g176] at A176 Z176 st176
    have f178 : Arv Z T140.heap b20 k20 .int (3 : Int32) ([(.int r_23), (.int r_26), (.int r_29)]) (.int 0) := (f142.keep K140q (ninS ne110 nin0))
    have ne177 : b20 ≠ b176 := Nat.ne_of_lt (Nat.lt_of_lt_of_le f178.lt (Nat.le_of_eq g176.symm))
    have f180 : Exa Z T140.heap b32 s2n := (f127.keep K140q)
    have ne179 : b32 ≠ b176 := Nat.ne_of_lt (Nat.lt_of_lt_of_le f180.lt (Nat.le_of_eq g176.symm))
    have f182 : Exa Z T140.heap r_44 s5n := (f131.keep K140q)
    have ne181 : r_44 ≠ b176 := Nat.ne_of_lt (Nat.lt_of_lt_of_le f182.lt (Nat.le_of_eq g176.symm))
    have f184 : Exa Z T140.heap e1_55 s3n := (f146.keep K140q)
    have ne183 : e1_55 ≠ b176 := Nat.ne_of_lt (Nat.lt_of_lt_of_le f184.lt (Nat.le_of_eq g176.symm))
    have f186 : Exa Z T140.heap r_65 s5n := (f134.keep K140q)
    have ne185 : r_65 ≠ b176 := Nat.ne_of_lt (Nat.lt_of_lt_of_le f186.lt (Nat.le_of_eq g176.symm))
    have f188 : Exa Z T140.heap r_87 s5n := (f137.keep K140q)
    have ne187 : r_87 ≠ b176 := Nat.ne_of_lt (Nat.lt_of_lt_of_le f188.lt (Nat.le_of_eq g176.symm))
    have ne189 : b109 ≠ b176 := Nat.ne_of_lt (Nat.lt_of_lt_of_le p140_0.lt (Nat.le_of_eq g176.symm))
    have ne190 : e1_140 ≠ b176 := Nat.ne_of_lt (Nat.lt_of_lt_of_le p140_7.lt (Nat.le_of_eq g176.symm))
    have ne191 : e2_140 ≠ b176 := Nat.ne_of_lt (Nat.lt_of_lt_of_le p140_10.lt (Nat.le_of_eq g176.symm))
    have ne192 : e3_140 ≠ b176 := Nat.ne_of_lt (Nat.lt_of_lt_of_le p140_13.lt (Nat.le_of_eq g176.symm))
    have ne193 : e4_140 ≠ b176 := Nat.ne_of_lt (Nat.lt_of_lt_of_le p140_16.lt (Nat.le_of_eq g176.symm))
    have g194 : n0 ≤ b176 := Nat.le_trans (own_sz O175) (Nat.le_of_eq g176.symm)
    have O195 : Old Z n0 h176 := O175.ext E176
    have V176 : Arv Z h176 b176 k176 .long (6 : Int32) ([(.long 0), (.long 0), (.long 0), (.long 0), (.long 0), (.long 0)]) (.long 0) := (Arv.new A176 (by decide)).pad (pad_rep [] (.long 0) 6)
    obtain ⟨T196, h196, k196, X196, e196, E196, A196, Z196, st196⟩ := newPE X176 hx hZ (ow hw 135 rfl) e176 (g := (mkF m 293 #[(vl p0), .second, (vl p1), .second, (vl p2), .second, (vl p3), .second, (vl p4), .second, (vi p5), (vi kk0), (vi kk1), (vi kk2), (vi yo), (vi yb0), (vi yb1), (vi yb2), (vl r_14), .second, (vl r_15), .second, (vl r_16), .second, (vl r_17), .second, (vl r_18), .second, (vl r_19), .second, (vr b20), (vr b32), (vr b109), (vr b176), .unset, .unset, .unset, .unset] [(.int 6)])) rfl (hb hby at_293) rfl (by decide) (cap := 6) (by decide) (by decide) (by decide) (by decide) (ad := "[J") rfl
    obtain ⟨b196, g196⟩ : ∃ z, z = h176.size := ⟨_, rfl⟩
    rw [← g196] at A196 Z196 st196
    have f198 : Arv Z h176 b20 k20 .int (3 : Int32) ([(.int r_23), (.int r_26), (.int r_29)]) (.int 0) := (f178.ext E176)
    have ne197 : b20 ≠ b196 := Nat.ne_of_lt (Nat.lt_of_lt_of_le f198.lt (Nat.le_of_eq g196.symm))
    have f200 : Exa Z h176 b32 s2n := (f180.ext E176)
    have ne199 : b32 ≠ b196 := Nat.ne_of_lt (Nat.lt_of_lt_of_le f200.lt (Nat.le_of_eq g196.symm))
    have f202 : Exa Z h176 r_44 s5n := (f182.ext E176)
    have ne201 : r_44 ≠ b196 := Nat.ne_of_lt (Nat.lt_of_lt_of_le f202.lt (Nat.le_of_eq g196.symm))
    have f204 : Exa Z h176 e1_55 s3n := (f184.ext E176)
    have ne203 : e1_55 ≠ b196 := Nat.ne_of_lt (Nat.lt_of_lt_of_le f204.lt (Nat.le_of_eq g196.symm))
    have f206 : Exa Z h176 r_65 s5n := (f186.ext E176)
    have ne205 : r_65 ≠ b196 := Nat.ne_of_lt (Nat.lt_of_lt_of_le f206.lt (Nat.le_of_eq g196.symm))
    have f208 : Exa Z h176 r_87 s5n := (f188.ext E176)
    have ne207 : r_87 ≠ b196 := Nat.ne_of_lt (Nat.lt_of_lt_of_le f208.lt (Nat.le_of_eq g196.symm))
    have f210 : Exa Z h176 b109 s9n := (p140_0.ext E176)
    have ne209 : b109 ≠ b196 := Nat.ne_of_lt (Nat.lt_of_lt_of_le f210.lt (Nat.le_of_eq g196.symm))
    have f212 : Exa Z h176 e1_140 "[I" := (p140_7.ext E176)
    have ne211 : e1_140 ≠ b196 := Nat.ne_of_lt (Nat.lt_of_lt_of_le f212.lt (Nat.le_of_eq g196.symm))
    have f214 : Exa Z h176 e2_140 "[J" := (p140_10.ext E176)
    have ne213 : e2_140 ≠ b196 := Nat.ne_of_lt (Nat.lt_of_lt_of_le f214.lt (Nat.le_of_eq g196.symm))
    have f216 : Exa Z h176 e3_140 "[I" := (p140_13.ext E176)
    have ne215 : e3_140 ≠ b196 := Nat.ne_of_lt (Nat.lt_of_lt_of_le f216.lt (Nat.le_of_eq g196.symm))
    have f218 : Exa Z h176 e4_140 "[I" := (p140_16.ext E176)
    have ne217 : e4_140 ≠ b196 := Nat.ne_of_lt (Nat.lt_of_lt_of_le f218.lt (Nat.le_of_eq g196.symm))
    have ne219 : b176 ≠ b196 := Nat.ne_of_lt (Nat.lt_of_lt_of_le V176.lt (Nat.le_of_eq g196.symm))
    have g220 : n0 ≤ b196 := Nat.le_trans (own_sz O195) (Nat.le_of_eq g196.symm)
    have O221 : Old Z n0 h196 := O195.ext E196
    have V196 : Arv Z h196 b196 k196 .long (6 : Int32) ([(.long 0), (.long 0), (.long 0), (.long 0), (.long 0), (.long 0)]) (.long 0) := (Arv.new A196 (by decide)).pad (pad_rep [] (.long 0) 6)
    have f222 : Arv Z h196 b176 k176 .long (6 : Int32) ([(.long 0), (.long 0), (.long 0), (.long 0), (.long 0), (.long 0)]) (.long 0) := (V176.ext E196)
    obtain ⟨cl223, Ar223, qc223, Sz223, Nn223, Ha223, Gg223⟩ := (id f222)
    have hin223 : ¬ ((0 : Int32) < 0 ∨ cl223.slots.size ≤ ((0 : Int32)).toNatClampNeg) := inb_of Sz223 ⟨by decide, by decide⟩
    obtain ⟨T223, h223, X223, e223, W223, st223⟩ := stJ X196 hx hZ e196 Ar223 (j := (0 : Int32)) hin223 (g := (mkF m 302 #[(vl p0), .second, (vl p1), .second, (vl p2), .second, (vl p3), .second, (vl p4), .second, (vi p5), (vi kk0), (vi kk1), (vi kk2), (vi yo), (vi yb0), (vi yb1), (vi yb2), (vl r_14), .second, (vl r_15), .second, (vl r_16), .second, (vl r_17), .second, (vl r_18), .second, (vl r_19), .second, (vr b20), (vr b32), (vr b109), (vr b176), (vr b196), .unset, .unset, .unset] [(.long p4), (.int 0), (.ref b176)])) rfl rfl (hb hby at_302)
    have O224 : Old Z n0 h223 := O221.wr W223 g194
    have V223 : Arv Z h223 b176 k176 .long (6 : Int32) ([(.long p4), (.long 0), (.long 0), (.long 0), (.long 0), (.long 0)]) (.long 0) := (Arv.set Ar223 qc223 Sz223 Nn223 Ha223 Gg223 (v := (.long p4)) rfl W223 0 rfl (Nat.le_of_ble_eq_true rfl))
    have N223 := Fr.snoc X223 N140 g194
    obtain ⟨cl225, Ar225, qc225, Sz225, Nn225, Ha225, Gg225⟩ := (id V223)
    have hin225 : ¬ ((1 : Int32) < 0 ∨ cl225.slots.size ≤ ((1 : Int32)).toNatClampNeg) := inb_of Sz225 ⟨by decide, by decide⟩
    obtain ⟨T225, h225, X225, e225, W225, st225⟩ := stJ X223 hx hZ e223 Ar225 (j := (1 : Int32)) hin225 (g := (mkF m 308 #[(vl p0), .second, (vl p1), .second, (vl p2), .second, (vl p3), .second, (vl p4), .second, (vi p5), (vi kk0), (vi kk1), (vi kk2), (vi yo), (vi yb0), (vi yb1), (vi yb2), (vl r_14), .second, (vl r_15), .second, (vl r_16), .second, (vl r_17), .second, (vl r_18), .second, (vl r_19), .second, (vr b20), (vr b32), (vr b109), (vr b176), (vr b196), .unset, .unset, .unset] [(.long p4), (.int 1), (.ref b176)])) rfl rfl (hb hby at_308)
    have O226 : Old Z n0 h225 := O224.wr W225 g194
    have V225 : Arv Z h225 b176 k176 .long (6 : Int32) ([(.long p4), (.long p4), (.long 0), (.long 0), (.long 0), (.long 0)]) (.long 0) := (Arv.set Ar225 qc225 Sz225 Nn225 Ha225 Gg225 (v := (.long p4)) rfl W225 1 rfl (Nat.le_of_ble_eq_true rfl))
    have N225 := Fr.snoc X225 N223 g194
    obtain ⟨cl227, Ar227, qc227, Sz227, Nn227, Ha227, Gg227⟩ := (id V225)
    have hin227 : ¬ ((2 : Int32) < 0 ∨ cl227.slots.size ≤ ((2 : Int32)).toNatClampNeg) := inb_of Sz227 ⟨by decide, by decide⟩
    obtain ⟨T227, h227, X227, e227, W227, st227⟩ := stJ X225 hx hZ e225 Ar227 (j := (2 : Int32)) hin227 (g := (mkF m 314 #[(vl p0), .second, (vl p1), .second, (vl p2), .second, (vl p3), .second, (vl p4), .second, (vi p5), (vi kk0), (vi kk1), (vi kk2), (vi yo), (vi yb0), (vi yb1), (vi yb2), (vl r_14), .second, (vl r_15), .second, (vl r_16), .second, (vl r_17), .second, (vl r_18), .second, (vl r_19), .second, (vr b20), (vr b32), (vr b109), (vr b176), (vr b196), .unset, .unset, .unset] [(.long p4), (.int 2), (.ref b176)])) rfl rfl (hb hby at_314)
    have O228 : Old Z n0 h227 := O226.wr W227 g194
    have V227 : Arv Z h227 b176 k176 .long (6 : Int32) ([(.long p4), (.long p4), (.long p4), (.long 0), (.long 0), (.long 0)]) (.long 0) := (Arv.set Ar227 qc227 Sz227 Nn227 Ha227 Gg227 (v := (.long p4)) rfl W227 2 rfl (Nat.le_of_ble_eq_true rfl))
    have N227 := Fr.snoc X227 N225 g194
    obtain ⟨cl229, Ar229, qc229, Sz229, Nn229, Ha229, Gg229⟩ := (id V227)
    have hin229 : ¬ ((3 : Int32) < 0 ∨ cl229.slots.size ≤ ((3 : Int32)).toNatClampNeg) := inb_of Sz229 ⟨by decide, by decide⟩
    obtain ⟨T229, h229, X229, e229, W229, st229⟩ := stJ X227 hx hZ e227 Ar229 (j := (3 : Int32)) hin229 (g := (mkF m 320 #[(vl p0), .second, (vl p1), .second, (vl p2), .second, (vl p3), .second, (vl p4), .second, (vi p5), (vi kk0), (vi kk1), (vi kk2), (vi yo), (vi yb0), (vi yb1), (vi yb2), (vl r_14), .second, (vl r_15), .second, (vl r_16), .second, (vl r_17), .second, (vl r_18), .second, (vl r_19), .second, (vr b20), (vr b32), (vr b109), (vr b176), (vr b196), .unset, .unset, .unset] [(.long p4), (.int 3), (.ref b176)])) rfl rfl (hb hby at_320)
    have O230 : Old Z n0 h229 := O228.wr W229 g194
    have V229 : Arv Z h229 b176 k176 .long (6 : Int32) ([(.long p4), (.long p4), (.long p4), (.long p4), (.long 0), (.long 0)]) (.long 0) := (Arv.set Ar229 qc229 Sz229 Nn229 Ha229 Gg229 (v := (.long p4)) rfl W229 3 rfl (Nat.le_of_ble_eq_true rfl))
    have N229 := Fr.snoc X229 N227 g194
    obtain ⟨cl231, Ar231, qc231, Sz231, Nn231, Ha231, Gg231⟩ := (id V229)
    have hin231 : ¬ ((4 : Int32) < 0 ∨ cl231.slots.size ≤ ((4 : Int32)).toNatClampNeg) := inb_of Sz231 ⟨by decide, by decide⟩
    obtain ⟨T231, h231, X231, e231, W231, st231⟩ := stJ X229 hx hZ e229 Ar231 (j := (4 : Int32)) hin231 (g := (mkF m 326 #[(vl p0), .second, (vl p1), .second, (vl p2), .second, (vl p3), .second, (vl p4), .second, (vi p5), (vi kk0), (vi kk1), (vi kk2), (vi yo), (vi yb0), (vi yb1), (vi yb2), (vl r_14), .second, (vl r_15), .second, (vl r_16), .second, (vl r_17), .second, (vl r_18), .second, (vl r_19), .second, (vr b20), (vr b32), (vr b109), (vr b176), (vr b196), .unset, .unset, .unset] [(.long p4), (.int 4), (.ref b176)])) rfl rfl (hb hby at_326)
    have O232 : Old Z n0 h231 := O230.wr W231 g194
    have V231 : Arv Z h231 b176 k176 .long (6 : Int32) ([(.long p4), (.long p4), (.long p4), (.long p4), (.long p4), (.long 0)]) (.long 0) := (Arv.set Ar231 qc231 Sz231 Nn231 Ha231 Gg231 (v := (.long p4)) rfl W231 4 rfl (Nat.le_of_ble_eq_true rfl))
    have N231 := Fr.snoc X231 N229 g194
    obtain ⟨cl233, Ar233, qc233, Sz233, Nn233, Ha233, Gg233⟩ := (id V231)
    have hin233 : ¬ ((5 : Int32) < 0 ∨ cl233.slots.size ≤ ((5 : Int32)).toNatClampNeg) := inb_of Sz233 ⟨by decide, by decide⟩
    obtain ⟨T233, h233, X233, e233, W233, st233⟩ := stJ X231 hx hZ e231 Ar233 (j := (5 : Int32)) hin233 (g := (mkF m 332 #[(vl p0), .second, (vl p1), .second, (vl p2), .second, (vl p3), .second, (vl p4), .second, (vi p5), (vi kk0), (vi kk1), (vi kk2), (vi yo), (vi yb0), (vi yb1), (vi yb2), (vl r_14), .second, (vl r_15), .second, (vl r_16), .second, (vl r_17), .second, (vl r_18), .second, (vl r_19), .second, (vr b20), (vr b32), (vr b109), (vr b176), (vr b196), .unset, .unset, .unset] [(.long p4), (.int 5), (.ref b176)])) rfl rfl (hb hby at_332)
    have O234 : Old Z n0 h233 := O232.wr W233 g194
    have V233 : Arv Z h233 b176 k176 .long (6 : Int32) ([(.long p4), (.long p4), (.long p4), (.long p4), (.long p4), (.long p4)]) (.long 0) := (Arv.set Ar233 qc233 Sz233 Nn233 Ha233 Gg233 (v := (.long p4)) rfl W233 5 rfl (Nat.le_of_ble_eq_true rfl))
    have N233 := Fr.snoc X233 N231 g194
    have f235 : Arv Z h233 b196 k196 .long (6 : Int32) ([(.long 0), (.long 0), (.long 0), (.long 0), (.long 0), (.long 0)]) (.long 0) := ((((((V196.other W223 (Ne.symm ne219)).other W225 (Ne.symm ne219)).other W227 (Ne.symm ne219)).other W229 (Ne.symm ne219)).other W231 (Ne.symm ne219)).other W233 (Ne.symm ne219))
    obtain ⟨cl236, Ar236, qc236, Sz236, Nn236, Ha236, Gg236⟩ := (id f235)
    have hin236 : ¬ ((0 : Int32) < 0 ∨ cl236.slots.size ≤ ((0 : Int32)).toNatClampNeg) := inb_of Sz236 ⟨by decide, by decide⟩
    obtain ⟨T236, h236, X236, e236, W236, st236⟩ := stJ X233 hx hZ e233 Ar236 (j := (0 : Int32)) hin236 (g := (mkF m 342 #[(vl p0), .second, (vl p1), .second, (vl p2), .second, (vl p3), .second, (vl p4), .second, (vi p5), (vi kk0), (vi kk1), (vi kk2), (vi yo), (vi yb0), (vi yb1), (vi yb2), (vl r_14), .second, (vl r_15), .second, (vl r_16), .second, (vl r_17), .second, (vl r_18), .second, (vl r_19), .second, (vr b20), (vr b32), (vr b109), (vr b176), (vr b196), .unset, .unset, .unset] [(.long (p4 ^^^ (-1 : Int64))), (.int 0), (.ref b196)])) rfl rfl (hb hby at_342)
    have O237 : Old Z n0 h236 := O234.wr W236 g220
    have V236 : Arv Z h236 b196 k196 .long (6 : Int32) ([(.long (p4 ^^^ (-1 : Int64))), (.long 0), (.long 0), (.long 0), (.long 0), (.long 0)]) (.long 0) := (Arv.set Ar236 qc236 Sz236 Nn236 Ha236 Gg236 (v := (.long (p4 ^^^ (-1 : Int64)))) rfl W236 0 rfl (Nat.le_of_ble_eq_true rfl))
    have N236 := Fr.snoc X236 N233 g220
    obtain ⟨cl238, Ar238, qc238, Sz238, Nn238, Ha238, Gg238⟩ := (id V236)
    have hin238 : ¬ ((1 : Int32) < 0 ∨ cl238.slots.size ≤ ((1 : Int32)).toNatClampNeg) := inb_of Sz238 ⟨by decide, by decide⟩
    obtain ⟨T238, h238, X238, e238, W238, st238⟩ := stJ X236 hx hZ e236 Ar238 (j := (1 : Int32)) hin238 (g := (mkF m 352 #[(vl p0), .second, (vl p1), .second, (vl p2), .second, (vl p3), .second, (vl p4), .second, (vi p5), (vi kk0), (vi kk1), (vi kk2), (vi yo), (vi yb0), (vi yb1), (vi yb2), (vl r_14), .second, (vl r_15), .second, (vl r_16), .second, (vl r_17), .second, (vl r_18), .second, (vl r_19), .second, (vr b20), (vr b32), (vr b109), (vr b176), (vr b196), .unset, .unset, .unset] [(.long (p4 ^^^ (-1 : Int64))), (.int 1), (.ref b196)])) rfl rfl (hb hby at_352)
    have O239 : Old Z n0 h238 := O237.wr W238 g220
    have V238 : Arv Z h238 b196 k196 .long (6 : Int32) ([(.long (p4 ^^^ (-1 : Int64))), (.long (p4 ^^^ (-1 : Int64))), (.long 0), (.long 0), (.long 0), (.long 0)]) (.long 0) := (Arv.set Ar238 qc238 Sz238 Nn238 Ha238 Gg238 (v := (.long (p4 ^^^ (-1 : Int64)))) rfl W238 1 rfl (Nat.le_of_ble_eq_true rfl))
    have N238 := Fr.snoc X238 N236 g220
    obtain ⟨cl240, Ar240, qc240, Sz240, Nn240, Ha240, Gg240⟩ := (id V238)
    have hin240 : ¬ ((2 : Int32) < 0 ∨ cl240.slots.size ≤ ((2 : Int32)).toNatClampNeg) := inb_of Sz240 ⟨by decide, by decide⟩
    obtain ⟨T240, h240, X240, e240, W240, st240⟩ := stJ X238 hx hZ e238 Ar240 (j := (2 : Int32)) hin240 (g := (mkF m 362 #[(vl p0), .second, (vl p1), .second, (vl p2), .second, (vl p3), .second, (vl p4), .second, (vi p5), (vi kk0), (vi kk1), (vi kk2), (vi yo), (vi yb0), (vi yb1), (vi yb2), (vl r_14), .second, (vl r_15), .second, (vl r_16), .second, (vl r_17), .second, (vl r_18), .second, (vl r_19), .second, (vr b20), (vr b32), (vr b109), (vr b176), (vr b196), .unset, .unset, .unset] [(.long (p4 ^^^ (-1 : Int64))), (.int 2), (.ref b196)])) rfl rfl (hb hby at_362)
    have O241 : Old Z n0 h240 := O239.wr W240 g220
    have V240 : Arv Z h240 b196 k196 .long (6 : Int32) ([(.long (p4 ^^^ (-1 : Int64))), (.long (p4 ^^^ (-1 : Int64))), (.long (p4 ^^^ (-1 : Int64))), (.long 0), (.long 0), (.long 0)]) (.long 0) := (Arv.set Ar240 qc240 Sz240 Nn240 Ha240 Gg240 (v := (.long (p4 ^^^ (-1 : Int64)))) rfl W240 2 rfl (Nat.le_of_ble_eq_true rfl))
    have N240 := Fr.snoc X240 N238 g220
    obtain ⟨cl242, Ar242, qc242, Sz242, Nn242, Ha242, Gg242⟩ := (id V240)
    have hin242 : ¬ ((3 : Int32) < 0 ∨ cl242.slots.size ≤ ((3 : Int32)).toNatClampNeg) := inb_of Sz242 ⟨by decide, by decide⟩
    obtain ⟨T242, h242, X242, e242, W242, st242⟩ := stJ X240 hx hZ e240 Ar242 (j := (3 : Int32)) hin242 (g := (mkF m 372 #[(vl p0), .second, (vl p1), .second, (vl p2), .second, (vl p3), .second, (vl p4), .second, (vi p5), (vi kk0), (vi kk1), (vi kk2), (vi yo), (vi yb0), (vi yb1), (vi yb2), (vl r_14), .second, (vl r_15), .second, (vl r_16), .second, (vl r_17), .second, (vl r_18), .second, (vl r_19), .second, (vr b20), (vr b32), (vr b109), (vr b176), (vr b196), .unset, .unset, .unset] [(.long (p4 ^^^ (-1 : Int64))), (.int 3), (.ref b196)])) rfl rfl (hb hby at_372)
    have O243 : Old Z n0 h242 := O241.wr W242 g220
    have V242 : Arv Z h242 b196 k196 .long (6 : Int32) ([(.long (p4 ^^^ (-1 : Int64))), (.long (p4 ^^^ (-1 : Int64))), (.long (p4 ^^^ (-1 : Int64))), (.long (p4 ^^^ (-1 : Int64))), (.long 0), (.long 0)]) (.long 0) := (Arv.set Ar242 qc242 Sz242 Nn242 Ha242 Gg242 (v := (.long (p4 ^^^ (-1 : Int64)))) rfl W242 3 rfl (Nat.le_of_ble_eq_true rfl))
    have N242 := Fr.snoc X242 N240 g220
    obtain ⟨cl244, Ar244, qc244, Sz244, Nn244, Ha244, Gg244⟩ := (id V242)
    have hin244 : ¬ ((4 : Int32) < 0 ∨ cl244.slots.size ≤ ((4 : Int32)).toNatClampNeg) := inb_of Sz244 ⟨by decide, by decide⟩
    obtain ⟨T244, h244, X244, e244, W244, st244⟩ := stJ X242 hx hZ e242 Ar244 (j := (4 : Int32)) hin244 (g := (mkF m 382 #[(vl p0), .second, (vl p1), .second, (vl p2), .second, (vl p3), .second, (vl p4), .second, (vi p5), (vi kk0), (vi kk1), (vi kk2), (vi yo), (vi yb0), (vi yb1), (vi yb2), (vl r_14), .second, (vl r_15), .second, (vl r_16), .second, (vl r_17), .second, (vl r_18), .second, (vl r_19), .second, (vr b20), (vr b32), (vr b109), (vr b176), (vr b196), .unset, .unset, .unset] [(.long (p4 ^^^ (-1 : Int64))), (.int 4), (.ref b196)])) rfl rfl (hb hby at_382)
    have O245 : Old Z n0 h244 := O243.wr W244 g220
    have V244 : Arv Z h244 b196 k196 .long (6 : Int32) ([(.long (p4 ^^^ (-1 : Int64))), (.long (p4 ^^^ (-1 : Int64))), (.long (p4 ^^^ (-1 : Int64))), (.long (p4 ^^^ (-1 : Int64))), (.long (p4 ^^^ (-1 : Int64))), (.long 0)]) (.long 0) := (Arv.set Ar244 qc244 Sz244 Nn244 Ha244 Gg244 (v := (.long (p4 ^^^ (-1 : Int64)))) rfl W244 4 rfl (Nat.le_of_ble_eq_true rfl))
    have N244 := Fr.snoc X244 N242 g220
    obtain ⟨cl246, Ar246, qc246, Sz246, Nn246, Ha246, Gg246⟩ := (id V244)
    have hin246 : ¬ ((5 : Int32) < 0 ∨ cl246.slots.size ≤ ((5 : Int32)).toNatClampNeg) := inb_of Sz246 ⟨by decide, by decide⟩
    obtain ⟨T246, h246, X246, e246, W246, st246⟩ := stJ X244 hx hZ e244 Ar246 (j := (5 : Int32)) hin246 (g := (mkF m 392 #[(vl p0), .second, (vl p1), .second, (vl p2), .second, (vl p3), .second, (vl p4), .second, (vi p5), (vi kk0), (vi kk1), (vi kk2), (vi yo), (vi yb0), (vi yb1), (vi yb2), (vl r_14), .second, (vl r_15), .second, (vl r_16), .second, (vl r_17), .second, (vl r_18), .second, (vl r_19), .second, (vr b20), (vr b32), (vr b109), (vr b176), (vr b196), .unset, .unset, .unset] [(.long (p4 ^^^ (-1 : Int64))), (.int 5), (.ref b196)])) rfl rfl (hb hby at_392)
    have O247 : Old Z n0 h246 := O245.wr W246 g220
    have V246 : Arv Z h246 b196 k196 .long (6 : Int32) ([(.long (p4 ^^^ (-1 : Int64))), (.long (p4 ^^^ (-1 : Int64))), (.long (p4 ^^^ (-1 : Int64))), (.long (p4 ^^^ (-1 : Int64))), (.long (p4 ^^^ (-1 : Int64))), (.long (p4 ^^^ (-1 : Int64)))]) (.long 0) := (Arv.set Ar246 qc246 Sz246 Nn246 Ha246 Gg246 (v := (.long (p4 ^^^ (-1 : Int64)))) rfl W246 5 rfl (Nat.le_of_ble_eq_true rfl))
    have N246 := Fr.snoc X246 N244 g220
    have f248 : Fld Z h246 b109 s9n "low" "[I" (.ref e1_140) := ((((((((((((((p140_1.ext E176).ext E196).other W223 (Or.inl ne189)).other W225 (Or.inl ne189)).other W227 (Or.inl ne189)).other W229 (Or.inl ne189)).other W231 (Or.inl ne189)).other W233 (Or.inl ne189)).other W236 (Or.inl ne209)).other W238 (Or.inl ne209)).other W240 (Or.inl ne209)).other W242 (Or.inl ne209)).other W244 (Or.inl ne209)).other W246 (Or.inl ne209))
    have f249 : Fld Z h246 b109 s9n "shift" "[I" (.ref e3_140) := ((((((((((((((p140_3.ext E176).ext E196).other W223 (Or.inl ne189)).other W225 (Or.inl ne189)).other W227 (Or.inl ne189)).other W229 (Or.inl ne189)).other W231 (Or.inl ne189)).other W233 (Or.inl ne189)).other W236 (Or.inl ne209)).other W238 (Or.inl ne209)).other W240 (Or.inl ne209)).other W242 (Or.inl ne209)).other W244 (Or.inl ne209)).other W246 (Or.inl ne209))
    have f250 : Fld Z h246 b109 s9n "word" "[I" (.ref e4_140) := ((((((((((((((p140_4.ext E176).ext E196).other W223 (Or.inl ne189)).other W225 (Or.inl ne189)).other W227 (Or.inl ne189)).other W229 (Or.inl ne189)).other W231 (Or.inl ne189)).other W233 (Or.inl ne189)).other W236 (Or.inl ne209)).other W238 (Or.inl ne209)).other W240 (Or.inl ne209)).other W242 (Or.inl ne209)).other W244 (Or.inl ne209)).other W246 (Or.inl ne209))
    have f251 : Fld Z h246 b109 s9n s10n "I" (.int 2) := ((((((((((((((p140_5.ext E176).ext E196).other W223 (Or.inl ne189)).other W225 (Or.inl ne189)).other W227 (Or.inl ne189)).other W229 (Or.inl ne189)).other W231 (Or.inl ne189)).other W233 (Or.inl ne189)).other W236 (Or.inl ne209)).other W238 (Or.inl ne209)).other W240 (Or.inl ne209)).other W242 (Or.inl ne209)).other W244 (Or.inl ne209)).other W246 (Or.inl ne209))
    have f252 : Arv Z h246 b20 k20 .int (3 : Int32) ([(.int r_23), (.int r_26), (.int r_29)]) (.int 0) := (((((((((((((f198.ext E196).other W223 ne177).other W225 ne177).other W227 ne177).other W229 ne177).other W231 ne177).other W233 ne177).other W236 ne197).other W238 ne197).other W240 ne197).other W242 ne197).other W244 ne197).other W246 ne197)
    have f253 : Arv Z h246 b176 k176 .long (6 : Int32) ([(.long p4), (.long p4), (.long p4), (.long p4), (.long p4), (.long p4)]) (.long 0) := ((((((V233.other W236 ne219).other W238 ne219).other W240 ne219).other W242 ne219).other W244 ne219).other W246 ne219)
    have f254 : Exa Z h246 b176 "[J" := (((((((((((((Z176.ext E196).wr W223).wr W225).wr W227).wr W229).wr W231).wr W233).wr W236).wr W238).wr W240).wr W242).wr W244).wr W246)
    have f255 : Arv Z h246 e1_140 e5_140 .int (3 : Int32) ([(.int zl_44), (.int zl_65), (.int zl_87)]) (.int 0) := ((((((((((((((p140_8.ext E176).ext E196).other W223 ne190).other W225 ne190).other W227 ne190).other W229 ne190).other W231 ne190).other W233 ne190).other W236 ne211).other W238 ne211).other W240 ne211).other W242 ne211).other W244 ne211).other W246 ne211)
    have f256 : Arv Z h246 e3_140 e7_140 .int (3 : Int32) ([(.int 0), (.int ((0 : Int32) + k0)), (.int 0)]) (.int 0) := ((((((((((((((p140_14.ext E176).ext E196).other W223 ne192).other W225 ne192).other W227 ne192).other W229 ne192).other W231 ne192).other W233 ne192).other W236 ne215).other W238 ne215).other W240 ne215).other W242 ne215).other W244 ne215).other W246 ne215)
    have f257 : Arv Z h246 e4_140 e8_140 .int (3 : Int32) ([(.int 0), (.int 0), (.int 1)]) (.int 0) := ((((((((((((((p140_17.ext E176).ext E196).other W223 ne193).other W225 ne193).other W227 ne193).other W229 ne193).other W231 ne193).other W233 ne193).other W236 ne217).other W238 ne217).other W240 ne217).other W242 ne217).other W244 ne217).other W246 ne217)
    have f259 : Exa Z h246 b109 s9n := (((((((((((((f210.ext E196).wr W223).wr W225).wr W227).wr W229).wr W231).wr W233).wr W236).wr W238).wr W240).wr W242).wr W244).wr W246)
    obtain ⟨cq258, kq258, q258a, q258b, q258c⟩ := isOf hZ e246 f259
    obtain ⟨_, _, ⟨T258, L258, k258, n258⟩, -, X258, ⟨Lc258, hQ258, l258, y258, z258⟩, st258⟩ := X246.virtualBack hx (y := M27) (z := M27) hown (mvT hZ (ow hw 184 rfl)) (mvT hZ (ow hw 185 rfl)) (notFace_of_selects (args := #[]) (mvT hZ (ow hw 187 rfl))) (mvT hZ (ow hw 187 rfl)) (mvT hZ (ow hw 186 rfl)) (by decide) (backOf (W := 0) (au26_0 l Z a0 hw [] wINTEGER wDOUBLE wBOOLEAN wD kwD hS b109 b20 b176 yo e1_140 e3_140 e4_140 k20 r_23 r_26 r_29 k176 p4 e5_140 zl_44 zl_65 zl_87 e7_140 ((0 : Int32) + k0) e8_140 h246 n0 O247 f248 f249 f250 f251 f252 f253 f254 f255 f256 f257 hO g194 ne189 ne177 (Ne.symm ne190) (Ne.symm ne192) (Ne.symm ne193)) hZ (ow hw 188 rfl) (ow hw 116 rfl) (by decide) (by decide)) q258a q258c (g := (mkF m 401 #[(vl p0), .second, (vl p1), .second, (vl p2), .second, (vl p3), .second, (vl p4), .second, (vi p5), (vi kk0), (vi kk1), (vi kk2), (vi yo), (vi yb0), (vi yb1), (vi yb2), (vl r_14), .second, (vl r_15), .second, (vl r_16), .second, (vl r_17), .second, (vl r_18), .second, (vl r_19), .second, (vr b20), (vr b32), (vr b109), (vr b176), (vr b196), .unset, .unset, .unset] [(.int yo), (.ref b176), (.ref b20), (.ref b109)])) rfl (by rw [hml]; rfl) (Steps.refl _) (argsL := [(.ref b20), (.ref b176), (.int yo)]) (rest := []) (lenOf pd_17 rfl) rfl (by show 2 * 0 + _ ≤ _; exact Nat.le_of_eq rfl) (hb hby at_401) (fun _ _ => ⟨rfl, e246, (by decide : 19 + 0 ≤ _), (by decide : 81 + 0 ≤ _)⟩)
    dsimp only [Pt.U, Pt.locs, Pt.cells, Pt.slots] at X258 l258 y258 z258 st258 hQ258
    subst y258 z258
    obtain ⟨rfl, Nq258, K258q, p258_0, p258_1⟩ := hQ258
    have N258 : Fr n0 L258 := (congrArg (Fr n0) l258).mpr (Fr.app N246 Nq258)
    have O260 : Old Z n0 T258.heap := O247.keep K258q (allS g194 all0)
    have f261 : Fld Z T258.heap b109 s9n "low" "[I" (.ref e1_140) := (f248.keep K258q (ninS ne189 nin0))
    have f262 : Fld Z T258.heap b109 s9n "shift" "[I" (.ref e3_140) := (f249.keep K258q (ninS ne189 nin0))
    have f263 : Fld Z T258.heap b109 s9n "word" "[I" (.ref e4_140) := (f250.keep K258q (ninS ne189 nin0))
    have f264 : Fld Z T258.heap b109 s9n s10n "I" (.int 2) := (f251.keep K258q (ninS ne189 nin0))
    have f265 : Arv Z T258.heap b20 k20 .int (3 : Int32) ([(.int r_23), (.int r_26), (.int r_29)]) (.int 0) := (f252.keep K258q (ninS ne177 nin0))
    have f266 : Arv Z T258.heap b196 k196 .long (6 : Int32) ([(.long (p4 ^^^ (-1 : Int64))), (.long (p4 ^^^ (-1 : Int64))), (.long (p4 ^^^ (-1 : Int64))), (.long (p4 ^^^ (-1 : Int64))), (.long (p4 ^^^ (-1 : Int64))), (.long (p4 ^^^ (-1 : Int64)))]) (.long 0) := (V246.keep K258q (ninS (Ne.symm ne219) nin0))
    have f267 : Exa Z T258.heap b196 "[J" := (((((((((((((Z196.wr W223).wr W225).wr W227).wr W229).wr W231).wr W233).wr W236).wr W238).wr W240).wr W242).wr W244).wr W246).keep K258q)
    have f268 : Arv Z T258.heap e1_140 e5_140 .int (3 : Int32) ([(.int zl_44), (.int zl_65), (.int zl_87)]) (.int 0) := (f255.keep K258q (ninS ne190 nin0))
    have f269 : Arv Z T258.heap e3_140 e7_140 .int (3 : Int32) ([(.int 0), (.int ((0 : Int32) + k0)), (.int 0)]) (.int 0) := (f256.keep K258q (ninS ne192 nin0))
    have f270 : Arv Z T258.heap e4_140 e8_140 .int (3 : Int32) ([(.int 0), (.int 0), (.int 1)]) (.int 0) := (f257.keep K258q (ninS ne193 nin0))
    have f272 : Exa Z T258.heap b109 s9n := (f259.keep K258q)
    obtain ⟨cq271, kq271, q271a, q271b, q271c⟩ := isOf hZ rfl f272
    obtain ⟨_, _, ⟨T271, L271, k271, n271⟩, -, X271, ⟨Lc271, hQ271, l271, y271, z271⟩, st271⟩ := X258.virtualBack hx (y := M27) (z := M27) hown (mvT hZ (ow hw 184 rfl)) (mvT hZ (ow hw 185 rfl)) (notFace_of_selects (args := #[]) (mvT hZ (ow hw 187 rfl))) (mvT hZ (ow hw 187 rfl)) (mvT hZ (ow hw 186 rfl)) (by decide) (backOf (W := 0) (au26_0 l Z a0 hw [] wINTEGER wDOUBLE wBOOLEAN wD kwD hS b109 b20 b196 yo e1_140 e3_140 e4_140 k20 r_23 r_26 r_29 k196 (p4 ^^^ (-1 : Int64)) e5_140 zl_44 zl_65 zl_87 e7_140 ((0 : Int32) + k0) e8_140 T258.heap n0 O260 f261 f262 f263 f264 f265 f266 f267 f268 f269 f270 hO g220 ne209 ne197 (Ne.symm ne211) (Ne.symm ne215) (Ne.symm ne217)) hZ (ow hw 188 rfl) (ow hw 116 rfl) (by decide) (by decide)) q271a q271c (g := (mkF m 412 #[(vl p0), .second, (vl p1), .second, (vl p2), .second, (vl p3), .second, (vl p4), .second, (vi p5), (vi kk0), (vi kk1), (vi kk2), (vi yo), (vi yb0), (vi yb1), (vi yb2), (vl r_14), .second, (vl r_15), .second, (vl r_16), .second, (vl r_17), .second, (vl r_18), .second, (vl r_19), .second, (vr b20), (vr b32), (vr b109), (vr b176), (vr b196), .unset, .unset, .unset] [(.int yo), (.ref b196), (.ref b20), (.ref b109)])) rfl (by rw [hml]; rfl) (Steps.refl _) (argsL := [(.ref b20), (.ref b196), (.int yo)]) (rest := []) (lenOf pd_17 rfl) rfl (by show 2 * 0 + _ ≤ _; exact Nat.le_of_eq rfl) (hb hby at_412) (fun _ _ => ⟨rfl, rfl, (by decide : 19 + 0 ≤ _), (by decide : 81 + 0 ≤ _)⟩)
    dsimp only [Pt.U, Pt.locs, Pt.cells, Pt.slots] at X271 l271 y271 z271 st271 hQ271
    subst y271 z271
    obtain ⟨rfl, Nq271, K271q, p271_0, p271_1⟩ := hQ271
    have N271 : Fr n0 L271 := (congrArg (Fr n0) l271).mpr (Fr.app N258 Nq271)
    have O273 : Old Z n0 T271.heap := O260.keep K271q (allS g220 all0)
    have f274 : Fld Z T271.heap b109 s9n s10n "I" (.int 2) := (f264.keep K271q (ninS ne209 nin0))
    have f276 : Exa Z T271.heap b109 s9n := (f272.keep K271q)
    obtain ⟨cq275, kq275, q275a, q275b, q275c⟩ := isOf hZ rfl f276
    obtain ⟨_, _, ⟨T275, L275, k275, n275⟩, -, X275, ⟨Lc275, hQ275, l275, y275, z275⟩, st275⟩ := X271.virtualBack hx (y := M28) (z := M28) hown (mvT hZ (ow hw 189 rfl)) (mvT hZ (ow hw 190 rfl)) (notFace_of_selects (args := #[]) (mvT hZ (ow hw 192 rfl))) (mvT hZ (ow hw 192 rfl)) (mvT hZ (ow hw 191 rfl)) (by decide) (backOf (W := 0) (au27_0 l Z a0 hw [] wINTEGER wDOUBLE wBOOLEAN wD kwD hS b109 T271.heap n0 O273 f274) hZ (ow hw 193 rfl) (ow hw 116 rfl) (by decide) (by decide)) q275a q275c (g := (mkF m 417 #[(vl p0), .second, (vl p1), .second, (vl p2), .second, (vl p3), .second, (vl p4), .second, (vi p5), (vi kk0), (vi kk1), (vi kk2), (vi yo), (vi yb0), (vi yb1), (vi yb2), (vl r_14), .second, (vl r_15), .second, (vl r_16), .second, (vl r_17), .second, (vl r_18), .second, (vl r_19), .second, (vr b20), (vr b32), (vr b109), (vr b176), (vr b196), .unset, .unset, .unset] [(.ref b109)])) rfl (by rw [hml]; rfl) (Steps.refl _) (argsL := []) (rest := []) (lenOf pd_12 rfl) rfl (by show 2 * 0 + _ ≤ _; exact Nat.le_of_eq rfl) (hb hby at_417) (fun _ _ => ⟨rfl, rfl, (by decide : 19 + 0 ≤ _), (by decide : 81 + 0 ≤ _)⟩)
    dsimp only [Pt.U, Pt.locs, Pt.cells, Pt.slots] at X275 l275 y275 z275 st275 hQ275
    subst y275 z275
    obtain ⟨rfl, Nq275, K275q⟩ := hQ275
    have N275 : Fr n0 L275 := (congrArg (Fr n0) l275).mpr (Fr.app N271 Nq275)
    have f277 : Arv Z T271.heap b176 k176 .long (6 : Int32) ([(.long (sB yo (0 : Int32) (fld (fld (0 : Int64) r_23 zl_44 (0 : Int32)) r_26 zl_65 ((0 : Int32) + k0)) (fld (0 : Int64) r_29 zl_87 (0 : Int32)) p4)), (.long (sB yo (1 : Int32) (fld (fld (0 : Int64) r_23 zl_44 (0 : Int32)) r_26 zl_65 ((0 : Int32) + k0)) (fld (0 : Int64) r_29 zl_87 (0 : Int32)) p4)), (.long (sB yo (2 : Int32) (fld (fld (0 : Int64) r_23 zl_44 (0 : Int32)) r_26 zl_65 ((0 : Int32) + k0)) (fld (0 : Int64) r_29 zl_87 (0 : Int32)) p4)), (.long (sB yo (3 : Int32) (fld (fld (0 : Int64) r_23 zl_44 (0 : Int32)) r_26 zl_65 ((0 : Int32) + k0)) (fld (0 : Int64) r_29 zl_87 (0 : Int32)) p4)), (.long (sB yo (4 : Int32) (fld (fld (0 : Int64) r_23 zl_44 (0 : Int32)) r_26 zl_65 ((0 : Int32) + k0)) (fld (0 : Int64) r_29 zl_87 (0 : Int32)) p4)), (.long (sB yo (5 : Int32) (fld (fld (0 : Int64) r_23 zl_44 (0 : Int32)) r_26 zl_65 ((0 : Int32) + k0)) (fld (0 : Int64) r_29 zl_87 (0 : Int32)) p4))]) (.long 0) := (p258_1.keep K271q (ninS ne219 nin0))
    obtain ⟨_, _, ⟨T278, L278, k278, n278⟩, -, X278, ⟨Lc278, hQ278, l278, y278, z278⟩, st278⟩ := Jvm.LawKit.callS X275 hx (y := M9) hown (mvT hZ (ow hw 194 rfl)) (mvT hZ (ow hw 195 rfl)) (mvT hZ (ow hw 2 rfl)) (mvT hZ (ow hw 196 rfl)) (by decide) (backOf (W := 0) (rmSlot l Z a0 hw [] wINTEGER wDOUBLE wBOOLEAN wD kwD hS b176 b196 k176 k196 (0 : Int32) yo (2 : Int32) p4 _ _ _ _ _ _ _ _ _ _ _ _ T271.heap n0 O273 f277 p271_1 (by decide) (own_slB ⟨0, by decide⟩ hO)) hZ (ow hw 196 rfl) (ow hw 2 rfl) (by decide) (by decide)) (g := (mkF m 451 #[(vl p0), .second, (vl p1), .second, (vl p2), .second, (vl p3), .second, (vl p4), .second, (vi p5), (vi kk0), (vi kk1), (vi kk2), (vi yo), (vi yb0), (vi yb1), (vi yb2), (vl r_14), .second, (vl r_15), .second, (vl r_16), .second, (vl r_17), .second, (vl r_18), .second, (vl r_19), .second, (vr b20), (vr b32), (vr b109), (vr b176), (vr b196), (vi 2), .unset, .unset] [(.long p4), (.int 2), (.int yo), (.int 0), (.ref b196), (.ref b176)])) rfl (by rw [hml]; rfl) (argsL := [(.ref b176), (.ref b196), (.int 0), (.int yo), (.int 2), (.long p4)]) (rest := []) (lenOf pd_18 rfl) rfl (by show 2 * 0 + _ ≤ _; exact Nat.le_of_eq rfl) (hb hby at_451) (fun _ _ => ⟨rfl, K275q, (by decide : 19 + 0 ≤ _), (by decide : 81 + 0 ≤ _)⟩)
    dsimp only [Pt.U, Pt.locs, Pt.cells, Pt.slots] at X278 l278 y278 z278 st278 hQ278
    subst y278 z278
    obtain ⟨rfl, Nq278, K278q⟩ := hQ278
    have N278 : Fr n0 L278 := (congrArg (Fr n0) l278).mpr (Fr.app N275 Nq278)
    obtain ⟨_, _, ⟨T279, L279, k279, n279⟩, -, X279, ⟨Lc279, hQ279, l279, y279, z279⟩, st279⟩ := Jvm.LawKit.callS X278 hx (y := M9) hown (mvT hZ (ow hw 194 rfl)) (mvT hZ (ow hw 195 rfl)) (mvT hZ (ow hw 2 rfl)) (mvT hZ (ow hw 196 rfl)) (by decide) (backOf (W := 0) (rmSlot l Z a0 hw [] wINTEGER wDOUBLE wBOOLEAN wD kwD hS b176 b196 k176 k196 (1 : Int32) yo (2 : Int32) p4 _ _ _ _ _ _ _ _ _ _ _ _ T271.heap n0 O273 f277 p271_1 (by decide) (own_slB ⟨1, by decide⟩ hO)) hZ (ow hw 196 rfl) (ow hw 2 rfl) (by decide) (by decide)) (g := (mkF m 468 #[(vl p0), .second, (vl p1), .second, (vl p2), .second, (vl p3), .second, (vl p4), .second, (vi p5), (vi kk0), (vi kk1), (vi kk2), (vi yo), (vi yb0), (vi yb1), (vi yb2), (vl r_14), .second, (vl r_15), .second, (vl r_16), .second, (vl r_17), .second, (vl r_18), .second, (vl r_19), .second, (vr b20), (vr b32), (vr b109), (vr b176), (vr b196), (vi 2), .unset, .unset] [(.long p4), (.int 2), (.int yo), (.int 1), (.ref b196), (.ref b176)])) rfl (by rw [hml]; rfl) (argsL := [(.ref b176), (.ref b196), (.int 1), (.int yo), (.int 2), (.long p4)]) (rest := []) (lenOf pd_18 rfl) rfl (by show 2 * 0 + _ ≤ _; exact Nat.le_of_eq rfl) (hb hby at_468) (fun _ _ => ⟨rfl, K278q, (by decide : 19 + 0 ≤ _), (by decide : 81 + 0 ≤ _)⟩)
    dsimp only [Pt.U, Pt.locs, Pt.cells, Pt.slots] at X279 l279 y279 z279 st279 hQ279
    subst y279 z279
    obtain ⟨rfl, Nq279, K279q⟩ := hQ279
    have N279 : Fr n0 L279 := (congrArg (Fr n0) l279).mpr (Fr.app N278 Nq279)
    obtain ⟨_, _, ⟨T280, L280, k280, n280⟩, -, X280, ⟨Lc280, hQ280, l280, y280, z280⟩, st280⟩ := Jvm.LawKit.callS X279 hx (y := M9) hown (mvT hZ (ow hw 194 rfl)) (mvT hZ (ow hw 195 rfl)) (mvT hZ (ow hw 2 rfl)) (mvT hZ (ow hw 196 rfl)) (by decide) (backOf (W := 0) (rmSlot l Z a0 hw [] wINTEGER wDOUBLE wBOOLEAN wD kwD hS b176 b196 k176 k196 (2 : Int32) yo (2 : Int32) p4 _ _ _ _ _ _ _ _ _ _ _ _ T271.heap n0 O273 f277 p271_1 (by decide) (own_slB ⟨2, by decide⟩ hO)) hZ (ow hw 196 rfl) (ow hw 2 rfl) (by decide) (by decide)) (g := (mkF m 485 #[(vl p0), .second, (vl p1), .second, (vl p2), .second, (vl p3), .second, (vl p4), .second, (vi p5), (vi kk0), (vi kk1), (vi kk2), (vi yo), (vi yb0), (vi yb1), (vi yb2), (vl r_14), .second, (vl r_15), .second, (vl r_16), .second, (vl r_17), .second, (vl r_18), .second, (vl r_19), .second, (vr b20), (vr b32), (vr b109), (vr b176), (vr b196), (vi 2), .unset, .unset] [(.long p4), (.int 2), (.int yo), (.int 2), (.ref b196), (.ref b176)])) rfl (by rw [hml]; rfl) (argsL := [(.ref b176), (.ref b196), (.int 2), (.int yo), (.int 2), (.long p4)]) (rest := []) (lenOf pd_18 rfl) rfl (by show 2 * 0 + _ ≤ _; exact Nat.le_of_eq rfl) (hb hby at_485) (fun _ _ => ⟨rfl, K279q, (by decide : 19 + 0 ≤ _), (by decide : 81 + 0 ≤ _)⟩)
    dsimp only [Pt.U, Pt.locs, Pt.cells, Pt.slots] at X280 l280 y280 z280 st280 hQ280
    subst y280 z280
    obtain ⟨rfl, Nq280, K280q⟩ := hQ280
    have N280 : Fr n0 L280 := (congrArg (Fr n0) l280).mpr (Fr.app N279 Nq280)
    obtain ⟨_, _, ⟨T281, L281, k281, n281⟩, -, X281, ⟨Lc281, hQ281, l281, y281, z281⟩, st281⟩ := Jvm.LawKit.callS X280 hx (y := M9) hown (mvT hZ (ow hw 194 rfl)) (mvT hZ (ow hw 195 rfl)) (mvT hZ (ow hw 2 rfl)) (mvT hZ (ow hw 196 rfl)) (by decide) (backOf (W := 0) (rmSlot l Z a0 hw [] wINTEGER wDOUBLE wBOOLEAN wD kwD hS b176 b196 k176 k196 (3 : Int32) yo (2 : Int32) p4 _ _ _ _ _ _ _ _ _ _ _ _ T271.heap n0 O273 f277 p271_1 (by decide) (own_slB ⟨3, by decide⟩ hO)) hZ (ow hw 196 rfl) (ow hw 2 rfl) (by decide) (by decide)) (g := (mkF m 502 #[(vl p0), .second, (vl p1), .second, (vl p2), .second, (vl p3), .second, (vl p4), .second, (vi p5), (vi kk0), (vi kk1), (vi kk2), (vi yo), (vi yb0), (vi yb1), (vi yb2), (vl r_14), .second, (vl r_15), .second, (vl r_16), .second, (vl r_17), .second, (vl r_18), .second, (vl r_19), .second, (vr b20), (vr b32), (vr b109), (vr b176), (vr b196), (vi 2), .unset, .unset] [(.long p4), (.int 2), (.int yo), (.int 3), (.ref b196), (.ref b176)])) rfl (by rw [hml]; rfl) (argsL := [(.ref b176), (.ref b196), (.int 3), (.int yo), (.int 2), (.long p4)]) (rest := []) (lenOf pd_18 rfl) rfl (by show 2 * 0 + _ ≤ _; exact Nat.le_of_eq rfl) (hb hby at_502) (fun _ _ => ⟨rfl, K280q, (by decide : 19 + 0 ≤ _), (by decide : 81 + 0 ≤ _)⟩)
    dsimp only [Pt.U, Pt.locs, Pt.cells, Pt.slots] at X281 l281 y281 z281 st281 hQ281
    subst y281 z281
    obtain ⟨rfl, Nq281, K281q⟩ := hQ281
    have N281 : Fr n0 L281 := (congrArg (Fr n0) l281).mpr (Fr.app N280 Nq281)
    obtain ⟨_, _, ⟨T282, L282, k282, n282⟩, -, X282, ⟨Lc282, hQ282, l282, y282, z282⟩, st282⟩ := Jvm.LawKit.callS X281 hx (y := M9) hown (mvT hZ (ow hw 194 rfl)) (mvT hZ (ow hw 195 rfl)) (mvT hZ (ow hw 2 rfl)) (mvT hZ (ow hw 196 rfl)) (by decide) (backOf (W := 0) (rmSlot l Z a0 hw [] wINTEGER wDOUBLE wBOOLEAN wD kwD hS b176 b196 k176 k196 (4 : Int32) yo (2 : Int32) p4 _ _ _ _ _ _ _ _ _ _ _ _ T271.heap n0 O273 f277 p271_1 (by decide) (own_slB ⟨4, by decide⟩ hO)) hZ (ow hw 196 rfl) (ow hw 2 rfl) (by decide) (by decide)) (g := (mkF m 519 #[(vl p0), .second, (vl p1), .second, (vl p2), .second, (vl p3), .second, (vl p4), .second, (vi p5), (vi kk0), (vi kk1), (vi kk2), (vi yo), (vi yb0), (vi yb1), (vi yb2), (vl r_14), .second, (vl r_15), .second, (vl r_16), .second, (vl r_17), .second, (vl r_18), .second, (vl r_19), .second, (vr b20), (vr b32), (vr b109), (vr b176), (vr b196), (vi 2), .unset, .unset] [(.long p4), (.int 2), (.int yo), (.int 4), (.ref b196), (.ref b176)])) rfl (by rw [hml]; rfl) (argsL := [(.ref b176), (.ref b196), (.int 4), (.int yo), (.int 2), (.long p4)]) (rest := []) (lenOf pd_18 rfl) rfl (by show 2 * 0 + _ ≤ _; exact Nat.le_of_eq rfl) (hb hby at_519) (fun _ _ => ⟨rfl, K281q, (by decide : 19 + 0 ≤ _), (by decide : 81 + 0 ≤ _)⟩)
    dsimp only [Pt.U, Pt.locs, Pt.cells, Pt.slots] at X282 l282 y282 z282 st282 hQ282
    subst y282 z282
    obtain ⟨rfl, Nq282, K282q⟩ := hQ282
    have N282 : Fr n0 L282 := (congrArg (Fr n0) l282).mpr (Fr.app N281 Nq282)
    obtain ⟨_, _, ⟨T283, L283, k283, n283⟩, -, X283, ⟨Lc283, hQ283, l283, y283, z283⟩, st283⟩ := Jvm.LawKit.callS X282 hx (y := M9) hown (mvT hZ (ow hw 194 rfl)) (mvT hZ (ow hw 195 rfl)) (mvT hZ (ow hw 2 rfl)) (mvT hZ (ow hw 196 rfl)) (by decide) (backOf (W := 0) (rmSlot l Z a0 hw [] wINTEGER wDOUBLE wBOOLEAN wD kwD hS b176 b196 k176 k196 (5 : Int32) yo (2 : Int32) p4 _ _ _ _ _ _ _ _ _ _ _ _ T271.heap n0 O273 f277 p271_1 (by decide) (own_slB ⟨5, by decide⟩ hO)) hZ (ow hw 196 rfl) (ow hw 2 rfl) (by decide) (by decide)) (g := (mkF m 536 #[(vl p0), .second, (vl p1), .second, (vl p2), .second, (vl p3), .second, (vl p4), .second, (vi p5), (vi kk0), (vi kk1), (vi kk2), (vi yo), (vi yb0), (vi yb1), (vi yb2), (vl r_14), .second, (vl r_15), .second, (vl r_16), .second, (vl r_17), .second, (vl r_18), .second, (vl r_19), .second, (vr b20), (vr b32), (vr b109), (vr b176), (vr b196), (vi 2), .unset, .unset] [(.long p4), (.int 2), (.int yo), (.int 5), (.ref b196), (.ref b176)])) rfl (by rw [hml]; rfl) (argsL := [(.ref b176), (.ref b196), (.int 5), (.int yo), (.int 2), (.long p4)]) (rest := []) (lenOf pd_18 rfl) rfl (by show 2 * 0 + _ ≤ _; exact Nat.le_of_eq rfl) (hb hby at_536) (fun _ _ => ⟨rfl, K282q, (by decide : 19 + 0 ≤ _), (by decide : 81 + 0 ≤ _)⟩)
    dsimp only [Pt.U, Pt.locs, Pt.cells, Pt.slots] at X283 l283 y283 z283 st283 hQ283
    subst y283 z283
    obtain ⟨rfl, Nq283, K283q⟩ := hQ283
    have N283 : Fr n0 L283 := (congrArg (Fr n0) l283).mpr (Fr.app N282 Nq283)
    have f284 : Fld Z T271.heap b109 s9n "low" "[I" (.ref e1_140) := (f261.keep K271q (ninS ne209 nin0))
    have f285 : Fld Z T271.heap b109 s9n "mask" "[J" (.ref e2_140) := ((((((((((((((((p140_2.ext E176).ext E196).other W223 (Or.inl ne189)).other W225 (Or.inl ne189)).other W227 (Or.inl ne189)).other W229 (Or.inl ne189)).other W231 (Or.inl ne189)).other W233 (Or.inl ne189)).other W236 (Or.inl ne209)).other W238 (Or.inl ne209)).other W240 (Or.inl ne209)).other W242 (Or.inl ne209)).other W244 (Or.inl ne209)).other W246 (Or.inl ne209)).keep K258q (ninS ne189 nin0)).keep K271q (ninS ne209 nin0))
    have f286 : Fld Z T271.heap b109 s9n "shift" "[I" (.ref e3_140) := (f262.keep K271q (ninS ne209 nin0))
    have f287 : Fld Z T271.heap b109 s9n "word" "[I" (.ref e4_140) := (f263.keep K271q (ninS ne209 nin0))
    have f288 : Arv Z T271.heap e1_140 e5_140 .int (3 : Int32) ([(.int zl_44), (.int zl_65), (.int zl_87)]) (.int 0) := (f268.keep K271q (ninS ne211 nin0))
    have f289 : Arv Z T271.heap e2_140 e6_140 .long (3 : Int32) ([(.long (maskV k0)), (.long (maskV k1)), (.long (maskV k2))]) (.long 0) := ((((((((((((((((p140_11.ext E176).ext E196).other W223 ne191).other W225 ne191).other W227 ne191).other W229 ne191).other W231 ne191).other W233 ne191).other W236 ne213).other W238 ne213).other W240 ne213).other W242 ne213).other W244 ne213).other W246 ne213).keep K258q (ninS ne191 nin0)).keep K271q (ninS ne213 nin0))
    have f290 : Arv Z T271.heap e3_140 e7_140 .int (3 : Int32) ([(.int 0), (.int ((0 : Int32) + k0)), (.int 0)]) (.int 0) := (f269.keep K271q (ninS ne215 nin0))
    have f291 : Arv Z T271.heap e4_140 e8_140 .int (3 : Int32) ([(.int 0), (.int 0), (.int 1)]) (.int 0) := (f270.keep K271q (ninS ne217 nin0))
    obtain ⟨cq292, kq292, q292a, q292b, q292c⟩ := isOf hZ K283q f276
    obtain ⟨_, _, ⟨T292, L292, k292, n292⟩, -, X292, ⟨Lc292, hQ292, l292, y292, z292⟩, st292⟩ := X283.virtualBack hx (y := M29) (z := M29) hown (mvT hZ (ow hw 197 rfl)) (mvT hZ (ow hw 198 rfl)) (notFace_of_selects (args := #[]) (mvT hZ (ow hw 200 rfl))) (mvT hZ (ow hw 200 rfl)) (mvT hZ (ow hw 199 rfl)) (by decide) (backOf (W := 0) (au29_0 l Z a0 hw [] wINTEGER wDOUBLE wBOOLEAN wD kwD hS b109 b176 yo e1_140 e2_140 e3_140 e4_140 k176 (fld (fld (0 : Int64) r_23 zl_44 (0 : Int32)) r_26 zl_65 ((0 : Int32) + k0)) (fld (0 : Int64) r_29 zl_87 (0 : Int32)) p4 e5_140 zl_44 zl_65 zl_87 e6_140 (maskV k0) (maskV k1) (maskV k2) e7_140 ((0 : Int32) + k0) e8_140 T271.heap n0 O273 f284 f285 f286 f287 f277 f288 f289 f290 f291 hO) hZ (ow hw 201 rfl) (ow hw 116 rfl) (by decide) (by decide)) q292a q292c (g := (mkF m 556 #[(vl p0), .second, (vl p1), .second, (vl p2), .second, (vl p3), .second, (vl p4), .second, (vi p5), (vi kk0), (vi kk1), (vi kk2), (vi yo), (vi yb0), (vi yb1), (vi yb2), (vl r_14), .second, (vl r_15), .second, (vl r_16), .second, (vl r_17), .second, (vl r_18), .second, (vl r_19), .second, (vr b20), (vr b32), (vr b109), (vr b176), (vr b196), (vi 2), (vi 1), .unset] [(.int 0), (.int yo), (.ref b176), (.ref b109)])) rfl (by rw [hml]; rfl) (Steps.refl _) (argsL := [(.ref b176), (.int yo), (.int 0)]) (rest := []) (lenOf pd_19 rfl) rfl (by show 2 * 0 + _ ≤ _; exact Nat.le_of_eq rfl) (hb hby at_556) (fun _ _ => ⟨rfl, K283q, (by decide : 19 + 0 ≤ _), (by decide : 81 + 0 ≤ _)⟩)
    dsimp only [Pt.U, Pt.locs, Pt.cells, Pt.slots] at X292 l292 y292 z292 st292 hQ292
    subst y292 z292
    obtain ⟨rfl, Nq292, K292q⟩ := hQ292
    have N292 : Fr n0 L292 := (congrArg (Fr n0) l292).mpr (Fr.app N283 Nq292)
    have f293 : Arv Z T271.heap b20 k20 .int (3 : Int32) ([(.int r_23), (.int r_26), (.int r_29)]) (.int 0) := (f265.keep K271q (ninS ne197 nin0))
    obtain ⟨cl294, Ar294, qc294, Sz294, Nn294, Ha294, Gg294⟩ := (id f293)
    have hin294 : ¬ ((0 : Int32) < 0 ∨ cl294.slots.size ≤ ((0 : Int32)).toNatClampNeg) := inb_of Sz294 ⟨by decide, by decide⟩
    have hat294 : cl294.slots[((0 : Int32)).toNatClampNeg]? = some (.int r_23) := Ha294.at hin294 rfl
    obtain ⟨cq295, kq295, q295a, q295b, q295c⟩ := isOf hZ K292q f276
    obtain ⟨_, _, ⟨T295, L295, k295, n295⟩, -, X295, ⟨Lc295, hQ295, l295, y295, z295⟩, st295⟩ := X292.virtualBack hx (y := M29) (z := M29) hown (mvT hZ (ow hw 197 rfl)) (mvT hZ (ow hw 198 rfl)) (notFace_of_selects (args := #[]) (mvT hZ (ow hw 200 rfl))) (mvT hZ (ow hw 200 rfl)) (mvT hZ (ow hw 199 rfl)) (by decide) (backOf (W := 0) (au29_1 l Z a0 hw [] wINTEGER wDOUBLE wBOOLEAN wD kwD hS b109 b176 yo e1_140 e2_140 e3_140 e4_140 k176 (fld (fld (0 : Int64) r_23 zl_44 (0 : Int32)) r_26 zl_65 ((0 : Int32) + k0)) (fld (0 : Int64) r_29 zl_87 (0 : Int32)) p4 e5_140 zl_44 zl_65 zl_87 e6_140 (maskV k0) (maskV k1) (maskV k2) e7_140 ((0 : Int32) + k0) e8_140 T271.heap n0 O273 f284 f285 f286 f287 f277 f288 f289 f290 f291 hO) hZ (ow hw 201 rfl) (ow hw 116 rfl) (by decide) (by decide)) q295a q295c (g := (mkF m 573 #[(vl p0), .second, (vl p1), .second, (vl p2), .second, (vl p3), .second, (vl p4), .second, (vi p5), (vi kk0), (vi kk1), (vi kk2), (vi yo), (vi yb0), (vi yb1), (vi yb2), (vl r_14), .second, (vl r_15), .second, (vl r_16), .second, (vl r_17), .second, (vl r_18), .second, (vl r_19), .second, (vr b20), (vr b32), (vr b109), (vr b176), (vr b196), (vi 2), (vi 1), .unset] [(.int 1), (.int yo), (.ref b176), (.ref b109)])) rfl (by rw [hml]; rfl) (Steps.refl _) (argsL := [(.ref b176), (.int yo), (.int 1)]) (rest := []) (lenOf pd_19 rfl) rfl (by show 2 * 0 + _ ≤ _; exact Nat.le_of_eq rfl) (hb hby at_573) (fun _ _ => ⟨rfl, K292q, (by decide : 19 + 0 ≤ _), (by decide : 81 + 0 ≤ _)⟩)
    dsimp only [Pt.U, Pt.locs, Pt.cells, Pt.slots] at X295 l295 y295 z295 st295 hQ295
    subst y295 z295
    obtain ⟨rfl, Nq295, K295q⟩ := hQ295
    have N295 : Fr n0 L295 := (congrArg (Fr n0) l295).mpr (Fr.app N292 Nq295)
    obtain ⟨cl296, Ar296, qc296, Sz296, Nn296, Ha296, Gg296⟩ := (id f293)
    have hin296 : ¬ ((1 : Int32) < 0 ∨ cl296.slots.size ≤ ((1 : Int32)).toNatClampNeg) := inb_of Sz296 ⟨by decide, by decide⟩
    have hat296 : cl296.slots[((1 : Int32)).toNatClampNeg]? = some (.int r_26) := Ha296.at hin296 rfl
    obtain ⟨cq297, kq297, q297a, q297b, q297c⟩ := isOf hZ K295q f276
    obtain ⟨_, _, ⟨T297, L297, k297, n297⟩, -, X297, ⟨Lc297, hQ297, l297, y297, z297⟩, st297⟩ := X295.virtualBack hx (y := M29) (z := M29) hown (mvT hZ (ow hw 197 rfl)) (mvT hZ (ow hw 198 rfl)) (notFace_of_selects (args := #[]) (mvT hZ (ow hw 200 rfl))) (mvT hZ (ow hw 200 rfl)) (mvT hZ (ow hw 199 rfl)) (by decide) (backOf (W := 0) (au29_2 l Z a0 hw [] wINTEGER wDOUBLE wBOOLEAN wD kwD hS b109 b176 yo e1_140 e2_140 e3_140 e4_140 k176 (fld (fld (0 : Int64) r_23 zl_44 (0 : Int32)) r_26 zl_65 ((0 : Int32) + k0)) (fld (0 : Int64) r_29 zl_87 (0 : Int32)) p4 e5_140 zl_44 zl_65 zl_87 e6_140 (maskV k0) (maskV k1) (maskV k2) e7_140 ((0 : Int32) + k0) e8_140 T271.heap n0 O273 f284 f285 f286 f287 f277 f288 f289 f290 f291 hO) hZ (ow hw 201 rfl) (ow hw 116 rfl) (by decide) (by decide)) q297a q297c (g := (mkF m 590 #[(vl p0), .second, (vl p1), .second, (vl p2), .second, (vl p3), .second, (vl p4), .second, (vi p5), (vi kk0), (vi kk1), (vi kk2), (vi yo), (vi yb0), (vi yb1), (vi yb2), (vl r_14), .second, (vl r_15), .second, (vl r_16), .second, (vl r_17), .second, (vl r_18), .second, (vl r_19), .second, (vr b20), (vr b32), (vr b109), (vr b176), (vr b196), (vi 2), (vi 1), .unset] [(.int 2), (.int yo), (.ref b176), (.ref b109)])) rfl (by rw [hml]; rfl) (Steps.refl _) (argsL := [(.ref b176), (.int yo), (.int 2)]) (rest := []) (lenOf pd_19 rfl) rfl (by show 2 * 0 + _ ≤ _; exact Nat.le_of_eq rfl) (hb hby at_590) (fun _ _ => ⟨rfl, K295q, (by decide : 19 + 0 ≤ _), (by decide : 81 + 0 ≤ _)⟩)
    dsimp only [Pt.U, Pt.locs, Pt.cells, Pt.slots] at X297 l297 y297 z297 st297 hQ297
    subst y297 z297
    obtain ⟨rfl, Nq297, K297q⟩ := hQ297
    have N297 : Fr n0 L297 := (congrArg (Fr n0) l297).mpr (Fr.app N295 Nq297)
    obtain ⟨cl298, Ar298, qc298, Sz298, Nn298, Ha298, Gg298⟩ := (id f293)
    have hin298 : ¬ ((2 : Int32) < 0 ∨ cl298.slots.size ≤ ((2 : Int32)).toNatClampNeg) := inb_of Sz298 ⟨by decide, by decide⟩
    have hat298 : cl298.slots[((2 : Int32)).toNatClampNeg]? = some (.int r_29) := Ha298.at hin298 rfl
    have hk299 : _ ≤ T271.heap.size := (Nat.le_trans (Nat.le_trans (Nat.le_trans (Nat.le_trans (Nat.le_trans (Nat.le_trans (Nat.le_trans (Nat.le_trans (Nat.le_trans (Nat.le_trans (Nat.le_trans (Nat.le_trans (Nat.le_trans (Nat.le_trans (Nat.le_trans (Nat.le_trans (Nat.le_trans (Nat.le_trans (Nat.le_trans (Nat.le_trans hk84 K87q.1) K106q.1) E109.1) K140q.1) E176.1) E196.1) (Nat.le_of_eq W223.size.symm)) (Nat.le_of_eq W225.size.symm)) (Nat.le_of_eq W227.size.symm)) (Nat.le_of_eq W229.size.symm)) (Nat.le_of_eq W231.size.symm)) (Nat.le_of_eq W233.size.symm)) (Nat.le_of_eq W236.size.symm)) (Nat.le_of_eq W238.size.symm)) (Nat.le_of_eq W240.size.symm)) (Nat.le_of_eq W242.size.symm)) (Nat.le_of_eq W244.size.symm)) (Nat.le_of_eq W246.size.symm)) K258q.1) K271q.1)
    obtain ⟨fs, hr, hrun, hended, hRW⟩ := X297.leaveW hS84 (by rw [K297q]; exact hk299) (v := some (.int 1)) (fun h => by rw [hret0] at h; cases h)
    refine ⟨_, _, pre108 _ ?_, hrun, hended, _, _, rfl, ?_, hRW.1, hRW.2.1, hRW.2.2.1, hRW.2.2.2.mono (by decide) (by decide)⟩
    · skip
      show Steps p.tables e below (T106.setTop (mkF m 274 #[(vl p0), .second, (vl p1), .second, (vl p2), .second, (vl p3), .second, (vl p4), .second, (vi p5), (vi kk0), (vi kk1), (vi kk2), (vi yo), (vi yb0), (vi yb1), (vi yb2), (vl r_14), .second, (vl r_15), .second, (vl r_16), .second, (vl r_17), .second, (vl r_18), .second, (vl r_19), .second, (vr b20), (vr b32), .unset, .unset, .unset, .unset, .unset, .unset] [])) _
      refine st109 _ ?_
      refine XS.dup X109.here hx rfl (hb hby at_277) rfl rfl ?_
      refine XS.aload X109.here hx rfl (hb hby at_278) rfl rfl ?_
      refine st140.trans ?_
      refine XS.astore X140.here hx rfl (hb hby at_283) rfl rfl (l' := #[(vl p0), .second, (vl p1), .second, (vl p2), .second, (vl p3), .second, (vl p4), .second, (vi p5), (vi kk0), (vi kk1), (vi kk2), (vi yo), (vi yb0), (vi yb1), (vi yb2), (vl r_14), .second, (vl r_15), .second, (vl r_16), .second, (vl r_17), .second, (vl r_18), .second, (vl r_19), .second, (vr b20), (vr b32), (vr b109), .unset, .unset, .unset, .unset, .unset]) rfl ?_
      refine XS.bipush X140.here hx rfl (hb hby at_285) ?_
      refine st176 _ ?_
      refine XS.astore X176.here hx rfl (hb hby at_289) rfl rfl (l' := #[(vl p0), .second, (vl p1), .second, (vl p2), .second, (vl p3), .second, (vl p4), .second, (vi p5), (vi kk0), (vi kk1), (vi kk2), (vi yo), (vi yb0), (vi yb1), (vi yb2), (vl r_14), .second, (vl r_15), .second, (vl r_16), .second, (vl r_17), .second, (vl r_18), .second, (vl r_19), .second, (vr b20), (vr b32), (vr b109), (vr b176), .unset, .unset, .unset, .unset]) rfl ?_
      refine XS.bipush X176.here hx rfl (hb hby at_291) ?_
      refine st196 _ ?_
      refine XS.astore X196.here hx rfl (hb hby at_295) rfl rfl (l' := #[(vl p0), .second, (vl p1), .second, (vl p2), .second, (vl p3), .second, (vl p4), .second, (vi p5), (vi kk0), (vi kk1), (vi kk2), (vi yo), (vi yb0), (vi yb1), (vi yb2), (vl r_14), .second, (vl r_15), .second, (vl r_16), .second, (vl r_17), .second, (vl r_18), .second, (vl r_19), .second, (vr b20), (vr b32), (vr b109), (vr b176), (vr b196), .unset, .unset, .unset]) rfl ?_
      refine XS.aload X196.here hx rfl (hb hby at_297) rfl rfl ?_
      refine XS.iconst X196.here hx rfl (hb hby at_299) ?_
      refine XS.lload X196.here hx rfl (hb hby at_300) rfl ?_
      show Steps p.tables e below (T196.setTop (mkF m 302 #[(vl p0), .second, (vl p1), .second, (vl p2), .second, (vl p3), .second, (vl p4), .second, (vi p5), (vi kk0), (vi kk1), (vi kk2), (vi yo), (vi yb0), (vi yb1), (vi yb2), (vl r_14), .second, (vl r_15), .second, (vl r_16), .second, (vl r_17), .second, (vl r_18), .second, (vl r_19), .second, (vr b20), (vr b32), (vr b109), (vr b176), (vr b196), .unset, .unset, .unset] [(.long p4), (.int 0), (.ref b176)])) _
      refine st223 _ ?_
      refine XS.aload X223.here hx rfl (hb hby at_303) rfl rfl ?_
      refine XS.iconst X223.here hx rfl (hb hby at_305) ?_
      refine XS.lload X223.here hx rfl (hb hby at_306) rfl ?_
      refine st225 _ ?_
      refine XS.aload X225.here hx rfl (hb hby at_309) rfl rfl ?_
      refine XS.iconst X225.here hx rfl (hb hby at_311) ?_
      refine XS.lload X225.here hx rfl (hb hby at_312) rfl ?_
      refine st227 _ ?_
      refine XS.aload X227.here hx rfl (hb hby at_315) rfl rfl ?_
      refine XS.iconst X227.here hx rfl (hb hby at_317) ?_
      refine XS.lload X227.here hx rfl (hb hby at_318) rfl ?_
      refine st229 _ ?_
      refine XS.aload X229.here hx rfl (hb hby at_321) rfl rfl ?_
      show Steps p.tables e below (T229.setTop (mkF m 323 #[(vl p0), .second, (vl p1), .second, (vl p2), .second, (vl p3), .second, (vl p4), .second, (vi p5), (vi kk0), (vi kk1), (vi kk2), (vi yo), (vi yb0), (vi yb1), (vi yb2), (vl r_14), .second, (vl r_15), .second, (vl r_16), .second, (vl r_17), .second, (vl r_18), .second, (vl r_19), .second, (vr b20), (vr b32), (vr b109), (vr b176), (vr b196), .unset, .unset, .unset] [(.ref b176)])) _
      refine XS.iconst X229.here hx rfl (hb hby at_323) ?_
      refine XS.lload X229.here hx rfl (hb hby at_324) rfl ?_
      refine st231 _ ?_
      refine XS.aload X231.here hx rfl (hb hby at_327) rfl rfl ?_
      refine XS.iconst X231.here hx rfl (hb hby at_329) ?_
      refine XS.lload X231.here hx rfl (hb hby at_330) rfl ?_
      refine st233 _ ?_
      refine XS.aload X233.here hx rfl (hb hby at_333) rfl rfl ?_
      refine XS.iconst X233.here hx rfl (hb hby at_335) ?_
      refine XS.lload X233.here hx rfl (hb hby at_336) rfl ?_
      refine X233.ldc2Long hx hown (mvT hZ (ow hw 183 rfl)) (g := (mkF m 338 #[(vl p0), .second, (vl p1), .second, (vl p2), .second, (vl p3), .second, (vl p4), .second, (vi p5), (vi kk0), (vi kk1), (vi kk2), (vi yo), (vi yb0), (vi yb1), (vi yb2), (vl r_14), .second, (vl r_15), .second, (vl r_16), .second, (vl r_17), .second, (vl r_18), .second, (vl r_19), .second, (vr b20), (vr b32), (vr b109), (vr b176), (vr b196), .unset, .unset, .unset] [(.long p4), (.int 0), (.ref b196)])) rfl (hb hby at_338) _ ?_
      refine XS.lxor X233.here hx rfl (hb hby at_341) rfl ?_
      refine st236 _ ?_
      refine XS.aload X236.here hx rfl (hb hby at_343) rfl rfl ?_
      show Steps p.tables e below (T236.setTop (mkF m 345 #[(vl p0), .second, (vl p1), .second, (vl p2), .second, (vl p3), .second, (vl p4), .second, (vi p5), (vi kk0), (vi kk1), (vi kk2), (vi yo), (vi yb0), (vi yb1), (vi yb2), (vl r_14), .second, (vl r_15), .second, (vl r_16), .second, (vl r_17), .second, (vl r_18), .second, (vl r_19), .second, (vr b20), (vr b32), (vr b109), (vr b176), (vr b196), .unset, .unset, .unset] [(.ref b196)])) _
      refine XS.iconst X236.here hx rfl (hb hby at_345) ?_
      refine XS.lload X236.here hx rfl (hb hby at_346) rfl ?_
      refine X236.ldc2Long hx hown (mvT hZ (ow hw 183 rfl)) (g := (mkF m 348 #[(vl p0), .second, (vl p1), .second, (vl p2), .second, (vl p3), .second, (vl p4), .second, (vi p5), (vi kk0), (vi kk1), (vi kk2), (vi yo), (vi yb0), (vi yb1), (vi yb2), (vl r_14), .second, (vl r_15), .second, (vl r_16), .second, (vl r_17), .second, (vl r_18), .second, (vl r_19), .second, (vr b20), (vr b32), (vr b109), (vr b176), (vr b196), .unset, .unset, .unset] [(.long p4), (.int 1), (.ref b196)])) rfl (hb hby at_348) _ ?_
      refine XS.lxor X236.here hx rfl (hb hby at_351) rfl ?_
      refine st238 _ ?_
      refine XS.aload X238.here hx rfl (hb hby at_353) rfl rfl ?_
      refine XS.iconst X238.here hx rfl (hb hby at_355) ?_
      refine XS.lload X238.here hx rfl (hb hby at_356) rfl ?_
      refine X238.ldc2Long hx hown (mvT hZ (ow hw 183 rfl)) (g := (mkF m 358 #[(vl p0), .second, (vl p1), .second, (vl p2), .second, (vl p3), .second, (vl p4), .second, (vi p5), (vi kk0), (vi kk1), (vi kk2), (vi yo), (vi yb0), (vi yb1), (vi yb2), (vl r_14), .second, (vl r_15), .second, (vl r_16), .second, (vl r_17), .second, (vl r_18), .second, (vl r_19), .second, (vr b20), (vr b32), (vr b109), (vr b176), (vr b196), .unset, .unset, .unset] [(.long p4), (.int 2), (.ref b196)])) rfl (hb hby at_358) _ ?_
      refine XS.lxor X238.here hx rfl (hb hby at_361) rfl ?_
      refine st240 _ ?_
      refine XS.aload X240.here hx rfl (hb hby at_363) rfl rfl ?_
      refine XS.iconst X240.here hx rfl (hb hby at_365) ?_
      refine XS.lload X240.here hx rfl (hb hby at_366) rfl ?_
      show Steps p.tables e below (T240.setTop (mkF m 368 #[(vl p0), .second, (vl p1), .second, (vl p2), .second, (vl p3), .second, (vl p4), .second, (vi p5), (vi kk0), (vi kk1), (vi kk2), (vi yo), (vi yb0), (vi yb1), (vi yb2), (vl r_14), .second, (vl r_15), .second, (vl r_16), .second, (vl r_17), .second, (vl r_18), .second, (vl r_19), .second, (vr b20), (vr b32), (vr b109), (vr b176), (vr b196), .unset, .unset, .unset] [(.long p4), (.int 3), (.ref b196)])) _
      refine X240.ldc2Long hx hown (mvT hZ (ow hw 183 rfl)) (g := (mkF m 368 #[(vl p0), .second, (vl p1), .second, (vl p2), .second, (vl p3), .second, (vl p4), .second, (vi p5), (vi kk0), (vi kk1), (vi kk2), (vi yo), (vi yb0), (vi yb1), (vi yb2), (vl r_14), .second, (vl r_15), .second, (vl r_16), .second, (vl r_17), .second, (vl r_18), .second, (vl r_19), .second, (vr b20), (vr b32), (vr b109), (vr b176), (vr b196), .unset, .unset, .unset] [(.long p4), (.int 3), (.ref b196)])) rfl (hb hby at_368) _ ?_
      refine XS.lxor X240.here hx rfl (hb hby at_371) rfl ?_
      refine st242 _ ?_
      refine XS.aload X242.here hx rfl (hb hby at_373) rfl rfl ?_
      refine XS.iconst X242.here hx rfl (hb hby at_375) ?_
      refine XS.lload X242.here hx rfl (hb hby at_376) rfl ?_
      refine X242.ldc2Long hx hown (mvT hZ (ow hw 183 rfl)) (g := (mkF m 378 #[(vl p0), .second, (vl p1), .second, (vl p2), .second, (vl p3), .second, (vl p4), .second, (vi p5), (vi kk0), (vi kk1), (vi kk2), (vi yo), (vi yb0), (vi yb1), (vi yb2), (vl r_14), .second, (vl r_15), .second, (vl r_16), .second, (vl r_17), .second, (vl r_18), .second, (vl r_19), .second, (vr b20), (vr b32), (vr b109), (vr b176), (vr b196), .unset, .unset, .unset] [(.long p4), (.int 4), (.ref b196)])) rfl (hb hby at_378) _ ?_
      refine XS.lxor X242.here hx rfl (hb hby at_381) rfl ?_
      refine st244 _ ?_
      refine XS.aload X244.here hx rfl (hb hby at_383) rfl rfl ?_
      refine XS.iconst X244.here hx rfl (hb hby at_385) ?_
      refine XS.lload X244.here hx rfl (hb hby at_386) rfl ?_
      refine X244.ldc2Long hx hown (mvT hZ (ow hw 183 rfl)) (g := (mkF m 388 #[(vl p0), .second, (vl p1), .second, (vl p2), .second, (vl p3), .second, (vl p4), .second, (vi p5), (vi kk0), (vi kk1), (vi kk2), (vi yo), (vi yb0), (vi yb1), (vi yb2), (vl r_14), .second, (vl r_15), .second, (vl r_16), .second, (vl r_17), .second, (vl r_18), .second, (vl r_19), .second, (vr b20), (vr b32), (vr b109), (vr b176), (vr b196), .unset, .unset, .unset] [(.long p4), (.int 5), (.ref b196)])) rfl (hb hby at_388) _ ?_
      refine XS.lxor X244.here hx rfl (hb hby at_391) rfl ?_
      show Steps p.tables e below (T244.setTop (mkF m 392 #[(vl p0), .second, (vl p1), .second, (vl p2), .second, (vl p3), .second, (vl p4), .second, (vi p5), (vi kk0), (vi kk1), (vi kk2), (vi yo), (vi yb0), (vi yb1), (vi yb2), (vl r_14), .second, (vl r_15), .second, (vl r_16), .second, (vl r_17), .second, (vl r_18), .second, (vl r_19), .second, (vr b20), (vr b32), (vr b109), (vr b176), (vr b196), .unset, .unset, .unset] [(.long (p4 ^^^ (-1 : Int64))), (.int 5), (.ref b196)])) _
      refine st246 _ ?_
      refine XS.aload X246.here hx rfl (hb hby at_393) rfl rfl ?_
      refine XS.aload X246.here hx rfl (hb hby at_395) rfl rfl ?_
      refine XS.aload X246.here hx rfl (hb hby at_397) rfl rfl ?_
      refine XS.iload X246.here hx rfl (hb hby at_399) rfl ?_
      refine st258.trans ?_
      refine XS.aload X258.here hx rfl (hb hby at_404) rfl rfl ?_
      refine XS.aload X258.here hx rfl (hb hby at_406) rfl rfl ?_
      refine XS.aload X258.here hx rfl (hb hby at_408) rfl rfl ?_
      refine XS.iload X258.here hx rfl (hb hby at_410) rfl ?_
      refine st271.trans ?_
      refine XS.aload X271.here hx rfl (hb hby at_415) rfl rfl ?_
      refine st275.trans ?_
      refine XS.istore X275.here hx rfl (hb hby at_420) rfl (l' := #[(vl p0), .second, (vl p1), .second, (vl p2), .second, (vl p3), .second, (vl p4), .second, (vi p5), (vi kk0), (vi kk1), (vi kk2), (vi yo), (vi yb0), (vi yb1), (vi yb2), (vl r_14), .second, (vl r_15), .second, (vl r_16), .second, (vl r_17), .second, (vl r_18), .second, (vl r_19), .second, (vr b20), (vr b32), (vr b109), (vr b176), (vr b196), (vi 2), .unset, .unset]) rfl ?_
      show Steps p.tables e below (T275.setTop (mkF m 422 #[(vl p0), .second, (vl p1), .second, (vl p2), .second, (vl p3), .second, (vl p4), .second, (vi p5), (vi kk0), (vi kk1), (vi kk2), (vi yo), (vi yb0), (vi yb1), (vi yb2), (vl r_14), .second, (vl r_15), .second, (vl r_16), .second, (vl r_17), .second, (vl r_18), .second, (vl r_19), .second, (vr b20), (vr b32), (vr b109), (vr b176), (vr b196), (vi 2), .unset, .unset] [])) _
      refine XS.iload X275.here hx rfl (hb hby at_422) rfl ?_
      refine XS.iconst X275.here hx rfl (hb hby at_424) ?_
      refine XS.icmpNo X275.here hx rfl (hb hby at_425) rfl (flt (by decide : ¬ ((2 : Int32) < (1 : Int32)))).1 ?_
      refine XS.iload X275.here hx rfl (hb hby at_428) rfl ?_
      refine XS.iload X275.here hx rfl (hb hby at_430) rfl ?_
      refine XS.iadd X275.here hx rfl (hb hby at_432) rfl ?_
      refine XS.bipush X275.here hx rfl (hb hby at_433) ?_
      refine XS.icmpYes X275.here hx rfl (pc0 := 435) (pc' := 440) rfl (hb hby at_435) rfl (flt (hle62 : ¬ ((6 : Int32) < (yo + (2 : Int32))))).2.2.2 (by decide) (by decide) ?_
      refine XS.aload X275.here hx rfl (hb hby at_440) rfl rfl ?_
      refine XS.aload X275.here hx rfl (hb hby at_442) rfl rfl ?_
      refine XS.iconst X275.here hx rfl (hb hby at_444) ?_
      refine XS.iload X275.here hx rfl (hb hby at_445) rfl ?_
      refine XS.iload X275.here hx rfl (hb hby at_447) rfl ?_
      refine XS.lload X275.here hx rfl (hb hby at_449) rfl ?_
      show Steps p.tables e below (T275.setTop (mkF m 451 #[(vl p0), .second, (vl p1), .second, (vl p2), .second, (vl p3), .second, (vl p4), .second, (vi p5), (vi kk0), (vi kk1), (vi kk2), (vi yo), (vi yb0), (vi yb1), (vi yb2), (vl r_14), .second, (vl r_15), .second, (vl r_16), .second, (vl r_17), .second, (vl r_18), .second, (vl r_19), .second, (vr b20), (vr b32), (vr b109), (vr b176), (vr b196), (vi 2), .unset, .unset] [(.long p4), (.int 2), (.int yo), (.int 0), (.ref b196), (.ref b176)])) _
      refine st278 _ ?_
      refine XS.ifNo X278.here hx rfl (hb hby at_454) rfl ((if0 _ _).trans (feq (by decide : ¬ ((1 : Int32) = (0 : Int32)))).1) ?_
      refine XS.aload X278.here hx rfl (hb hby at_457) rfl rfl ?_
      refine XS.aload X278.here hx rfl (hb hby at_459) rfl rfl ?_
      refine XS.iconst X278.here hx rfl (hb hby at_461) ?_
      refine XS.iload X278.here hx rfl (hb hby at_462) rfl ?_
      refine XS.iload X278.here hx rfl (hb hby at_464) rfl ?_
      refine XS.lload X278.here hx rfl (hb hby at_466) rfl ?_
      refine st279 _ ?_
      refine XS.ifNo X279.here hx rfl (hb hby at_471) rfl ((if0 _ _).trans (feq (by decide : ¬ ((1 : Int32) = (0 : Int32)))).1) ?_
      refine XS.aload X279.here hx rfl (hb hby at_474) rfl rfl ?_
      refine XS.aload X279.here hx rfl (hb hby at_476) rfl rfl ?_
      refine XS.iconst X279.here hx rfl (hb hby at_478) ?_
      refine XS.iload X279.here hx rfl (hb hby at_479) rfl ?_
      show Steps p.tables e below (T279.setTop (mkF m 481 #[(vl p0), .second, (vl p1), .second, (vl p2), .second, (vl p3), .second, (vl p4), .second, (vi p5), (vi kk0), (vi kk1), (vi kk2), (vi yo), (vi yb0), (vi yb1), (vi yb2), (vl r_14), .second, (vl r_15), .second, (vl r_16), .second, (vl r_17), .second, (vl r_18), .second, (vl r_19), .second, (vr b20), (vr b32), (vr b109), (vr b176), (vr b196), (vi 2), .unset, .unset] [(.int yo), (.int 2), (.ref b196), (.ref b176)])) _
      refine XS.iload X279.here hx rfl (hb hby at_481) rfl ?_
      refine XS.lload X279.here hx rfl (hb hby at_483) rfl ?_
      refine st280 _ ?_
      refine XS.ifNo X280.here hx rfl (hb hby at_488) rfl ((if0 _ _).trans (feq (by decide : ¬ ((1 : Int32) = (0 : Int32)))).1) ?_
      refine XS.aload X280.here hx rfl (hb hby at_491) rfl rfl ?_
      refine XS.aload X280.here hx rfl (hb hby at_493) rfl rfl ?_
      refine XS.iconst X280.here hx rfl (hb hby at_495) ?_
      refine XS.iload X280.here hx rfl (hb hby at_496) rfl ?_
      refine XS.iload X280.here hx rfl (hb hby at_498) rfl ?_
      refine XS.lload X280.here hx rfl (hb hby at_500) rfl ?_
      refine st281 _ ?_
      refine XS.ifNo X281.here hx rfl (hb hby at_505) rfl ((if0 _ _).trans (feq (by decide : ¬ ((1 : Int32) = (0 : Int32)))).1) ?_
      refine XS.aload X281.here hx rfl (hb hby at_508) rfl rfl ?_
      refine XS.aload X281.here hx rfl (hb hby at_510) rfl rfl ?_
      show Steps p.tables e below (T281.setTop (mkF m 512 #[(vl p0), .second, (vl p1), .second, (vl p2), .second, (vl p3), .second, (vl p4), .second, (vi p5), (vi kk0), (vi kk1), (vi kk2), (vi yo), (vi yb0), (vi yb1), (vi yb2), (vl r_14), .second, (vl r_15), .second, (vl r_16), .second, (vl r_17), .second, (vl r_18), .second, (vl r_19), .second, (vr b20), (vr b32), (vr b109), (vr b176), (vr b196), (vi 2), .unset, .unset] [(.ref b196), (.ref b176)])) _
      refine XS.iconst X281.here hx rfl (hb hby at_512) ?_
      refine XS.iload X281.here hx rfl (hb hby at_513) rfl ?_
      refine XS.iload X281.here hx rfl (hb hby at_515) rfl ?_
      refine XS.lload X281.here hx rfl (hb hby at_517) rfl ?_
      refine st282 _ ?_
      refine XS.ifNo X282.here hx rfl (hb hby at_522) rfl ((if0 _ _).trans (feq (by decide : ¬ ((1 : Int32) = (0 : Int32)))).1) ?_
      refine XS.aload X282.here hx rfl (hb hby at_525) rfl rfl ?_
      refine XS.aload X282.here hx rfl (hb hby at_527) rfl rfl ?_
      refine XS.iconst X282.here hx rfl (hb hby at_529) ?_
      refine XS.iload X282.here hx rfl (hb hby at_530) rfl ?_
      refine XS.iload X282.here hx rfl (hb hby at_532) rfl ?_
      refine XS.lload X282.here hx rfl (hb hby at_534) rfl ?_
      refine st283 _ ?_
      refine XS.ifNo X283.here hx rfl (hb hby at_539) rfl ((if0 _ _).trans (feq (by decide : ¬ ((1 : Int32) = (0 : Int32)))).1) ?_
      show Steps p.tables e below (T283.setTop (mkF m 542 #[(vl p0), .second, (vl p1), .second, (vl p2), .second, (vl p3), .second, (vl p4), .second, (vi p5), (vi kk0), (vi kk1), (vi kk2), (vi yo), (vi yb0), (vi yb1), (vi yb2), (vl r_14), .second, (vl r_15), .second, (vl r_16), .second, (vl r_17), .second, (vl r_18), .second, (vl r_19), .second, (vr b20), (vr b32), (vr b109), (vr b176), (vr b196), (vi 2), .unset, .unset] [])) _
      refine XS.iconst X283.here hx rfl (hb hby at_542) ?_
      refine XS.goto X283.here hx rfl (pc0 := 543) (pc' := 547) rfl (hb hby at_543) (by decide) (by decide) ?_
      refine XS.istore X283.here hx rfl (hb hby at_547) rfl (l' := #[(vl p0), .second, (vl p1), .second, (vl p2), .second, (vl p3), .second, (vl p4), .second, (vi p5), (vi kk0), (vi kk1), (vi kk2), (vi yo), (vi yb0), (vi yb1), (vi yb2), (vl r_14), .second, (vl r_15), .second, (vl r_16), .second, (vl r_17), .second, (vl r_18), .second, (vl r_19), .second, (vr b20), (vr b32), (vr b109), (vr b176), (vr b196), (vi 2), (vi 1), .unset]) rfl ?_
      refine XS.aload X283.here hx rfl (hb hby at_549) rfl rfl ?_
      refine XS.aload X283.here hx rfl (hb hby at_551) rfl rfl ?_
      refine XS.iload X283.here hx rfl (hb hby at_553) rfl ?_
      refine XS.iconst X283.here hx rfl (hb hby at_555) ?_
      refine st292.trans ?_
      refine XS.aload X292.here hx rfl (hb hby at_559) rfl rfl ?_
      refine XS.iconst X292.here hx rfl (hb hby at_561) ?_
      refine X292.iaload hx (j := (0 : Int32)) (v := (.int r_23)) (by rw [K292q]; exact Ar294.1) (State.isArrayOf_alike hZ.alike Ar294.2.1) Ar294.2.2 hin294 hat294 (g := (mkF m 562 #[(vl p0), .second, (vl p1), .second, (vl p2), .second, (vl p3), .second, (vl p4), .second, (vi p5), (vi kk0), (vi kk1), (vi kk2), (vi yo), (vi yb0), (vi yb1), (vi yb2), (vl r_14), .second, (vl r_15), .second, (vl r_16), .second, (vl r_17), .second, (vl r_18), .second, (vl r_19), .second, (vr b20), (vr b32), (vr b109), (vr b176), (vr b196), (vi 2), (vi 1), .unset] [(.int 0), (.ref b20), (.int (zl_44 + (((((fld (fld (0 : Int64) r_23 zl_44 (0 : Int32)) r_26 zl_65 ((0 : Int32) + k0)).toUInt64 >>> ((0 : Int32) &&& 0x3f).toInt64.toUInt64).toInt64) &&& (maskV k0)).toInt32)))])) rfl rfl (hb hby at_562) _ ?_
      refine XS.icmpNo X292.here hx rfl (hb hby at_563) rfl (teq ((own_bS hF0 hF1 hF2 rfl rfl).1 : (zl_44 + (((((fld (fld (0 : Int64) r_23 zl_44 (0 : Int32)) r_26 zl_65 ((0 : Int32) + k0)).toUInt64 >>> ((0 : Int32) &&& 0x3f).toInt64.toUInt64).toInt64) &&& (maskV k0)).toInt32)) = r_23)).2 ?_
      refine XS.aload X292.here hx rfl (hb hby at_566) rfl rfl ?_
      refine XS.aload X292.here hx rfl (hb hby at_568) rfl rfl ?_
      show Steps p.tables e below (T292.setTop (mkF m 570 #[(vl p0), .second, (vl p1), .second, (vl p2), .second, (vl p3), .second, (vl p4), .second, (vi p5), (vi kk0), (vi kk1), (vi kk2), (vi yo), (vi yb0), (vi yb1), (vi yb2), (vl r_14), .second, (vl r_15), .second, (vl r_16), .second, (vl r_17), .second, (vl r_18), .second, (vl r_19), .second, (vr b20), (vr b32), (vr b109), (vr b176), (vr b196), (vi 2), (vi 1), .unset] [(.ref b176), (.ref b109)])) _
      refine XS.iload X292.here hx rfl (hb hby at_570) rfl ?_
      refine XS.iconst X292.here hx rfl (hb hby at_572) ?_
      refine st295.trans ?_
      refine XS.aload X295.here hx rfl (hb hby at_576) rfl rfl ?_
      refine XS.iconst X295.here hx rfl (hb hby at_578) ?_
      refine X295.iaload hx (j := (1 : Int32)) (v := (.int r_26)) (by rw [K295q]; exact Ar296.1) (State.isArrayOf_alike hZ.alike Ar296.2.1) Ar296.2.2 hin296 hat296 (g := (mkF m 579 #[(vl p0), .second, (vl p1), .second, (vl p2), .second, (vl p3), .second, (vl p4), .second, (vi p5), (vi kk0), (vi kk1), (vi kk2), (vi yo), (vi yb0), (vi yb1), (vi yb2), (vl r_14), .second, (vl r_15), .second, (vl r_16), .second, (vl r_17), .second, (vl r_18), .second, (vl r_19), .second, (vr b20), (vr b32), (vr b109), (vr b176), (vr b196), (vi 2), (vi 1), .unset] [(.int 1), (.ref b20), (.int (zl_65 + (((((fld (fld (0 : Int64) r_23 zl_44 (0 : Int32)) r_26 zl_65 ((0 : Int32) + k0)).toUInt64 >>> (((0 : Int32) + k0) &&& 0x3f).toInt64.toUInt64).toInt64) &&& (maskV k1)).toInt32)))])) rfl rfl (hb hby at_579) _ ?_
      refine XS.icmpNo X295.here hx rfl (hb hby at_580) rfl (teq ((own_bS hF0 hF1 hF2 rfl rfl).2.1 : (zl_65 + (((((fld (fld (0 : Int64) r_23 zl_44 (0 : Int32)) r_26 zl_65 ((0 : Int32) + k0)).toUInt64 >>> (((0 : Int32) + k0) &&& 0x3f).toInt64.toUInt64).toInt64) &&& (maskV k1)).toInt32)) = r_26)).2 ?_
      refine XS.aload X295.here hx rfl (hb hby at_583) rfl rfl ?_
      refine XS.aload X295.here hx rfl (hb hby at_585) rfl rfl ?_
      refine XS.iload X295.here hx rfl (hb hby at_587) rfl ?_
      refine XS.iconst X295.here hx rfl (hb hby at_589) ?_
      refine st297.trans ?_
      refine XS.aload X297.here hx rfl (hb hby at_593) rfl rfl ?_
      refine XS.iconst X297.here hx rfl (hb hby at_595) ?_
      show Steps p.tables e below (T297.setTop (mkF m 596 #[(vl p0), .second, (vl p1), .second, (vl p2), .second, (vl p3), .second, (vl p4), .second, (vi p5), (vi kk0), (vi kk1), (vi kk2), (vi yo), (vi yb0), (vi yb1), (vi yb2), (vl r_14), .second, (vl r_15), .second, (vl r_16), .second, (vl r_17), .second, (vl r_18), .second, (vl r_19), .second, (vr b20), (vr b32), (vr b109), (vr b176), (vr b196), (vi 2), (vi 1), .unset] [(.int 2), (.ref b20), (.int (zl_87 + (((((fld (0 : Int64) r_29 zl_87 (0 : Int32)).toUInt64 >>> ((0 : Int32) &&& 0x3f).toInt64.toUInt64).toInt64) &&& (maskV k2)).toInt32)))])) _
      refine X297.iaload hx (j := (2 : Int32)) (v := (.int r_29)) (by rw [K297q]; exact Ar298.1) (State.isArrayOf_alike hZ.alike Ar298.2.1) Ar298.2.2 hin298 hat298 (g := (mkF m 596 #[(vl p0), .second, (vl p1), .second, (vl p2), .second, (vl p3), .second, (vl p4), .second, (vi p5), (vi kk0), (vi kk1), (vi kk2), (vi yo), (vi yb0), (vi yb1), (vi yb2), (vl r_14), .second, (vl r_15), .second, (vl r_16), .second, (vl r_17), .second, (vl r_18), .second, (vl r_19), .second, (vr b20), (vr b32), (vr b109), (vr b176), (vr b196), (vi 2), (vi 1), .unset] [(.int 2), (.ref b20), (.int (zl_87 + (((((fld (0 : Int64) r_29 zl_87 (0 : Int32)).toUInt64 >>> ((0 : Int32) &&& 0x3f).toInt64.toUInt64).toInt64) &&& (maskV k2)).toInt32)))])) rfl rfl (hb hby at_596) _ ?_
      refine XS.icmpNo X297.here hx rfl (hb hby at_597) rfl (teq ((own_bS hF0 hF1 hF2 rfl rfl).2.2 : (zl_87 + (((((fld (0 : Int64) r_29 zl_87 (0 : Int32)).toUInt64 >>> ((0 : Int32) &&& 0x3f).toInt64.toUInt64).toInt64) &&& (maskV k2)).toInt32)) = r_29)).2 ?_
      refine XS.iconst X297.here hx rfl (hb hby at_600) ?_
      refine XS.goto X297.here hx rfl (pc0 := 601) (pc' := 605) rfl (hb hby at_601) (by decide) (by decide) ?_
      refine XS.istore X297.here hx rfl (hb hby at_605) rfl (l' := #[(vl p0), .second, (vl p1), .second, (vl p2), .second, (vl p3), .second, (vl p4), .second, (vi p5), (vi kk0), (vi kk1), (vi kk2), (vi yo), (vi yb0), (vi yb1), (vi yb2), (vl r_14), .second, (vl r_15), .second, (vl r_16), .second, (vl r_17), .second, (vl r_18), .second, (vl r_19), .second, (vr b20), (vr b32), (vr b109), (vr b176), (vr b196), (vi 2), (vi 1), (vi 1)]) rfl ?_
      refine XS.iload X297.here hx rfl (hb hby at_607) rfl ?_
      refine XS.ifNo X297.here hx rfl (hb hby at_609) rfl ((if0 _ _).trans (feq (by decide : ¬ ((1 : Int32) = (0 : Int32)))).1) ?_
      refine XS.iload X297.here hx rfl (hb hby at_612) rfl ?_
      refine XS.ifNo X297.here hx rfl (hb hby at_614) rfl ((if0 _ _).trans (feq (by decide : ¬ ((1 : Int32) = (0 : Int32)))).1) ?_
      refine XS.iconst X297.here hx rfl (hb hby at_617) ?_
      refine XS.goto X297.here hx rfl (pc0 := 618) (pc' := 622) rfl (hb hby at_618) (by decide) (by decide) ?_
      exact retN X297 hx (t := .boolean) hret0 (by simp) (hb hby at_622) hr
    · show Q_rm0 Z wINTEGER wDOUBLE wBOOLEAN wD kwD p0 p1 p2 p3 p4 p5 h0 n0 _ T297.heap _
      rw [K297q]
      exact ⟨rfl, N297⟩
  · skip
    have hC : ¬ (64 : Int32) < ((((0 : Int32) + k0) + k1) + k2) := by rw [Int32.zero_add]; exact hsp
    obtain ⟨T300, h300, X300, e300, E300, A300, D300, -, st300⟩ := newO X106 hx hZ hown (ow hw 114 rfl) (ow hw 115 rfl) (ow hw 116 rfl) rfl (g := (mkF m 274 #[(vl p0), .second, (vl p1), .second, (vl p2), .second, (vl p3), .second, (vl p4), .second, (vi p5), (vi kk0), (vi kk1), (vi kk2), (vi yo), (vi yb0), (vi yb1), (vi yb2), (vl r_14), .second, (vl r_15), .second, (vl r_16), .second, (vl r_17), .second, (vl r_18), .second, (vl r_19), .second, (vr b20), (vr b32), .unset, .unset, .unset, .unset, .unset, .unset] [])) rfl (hb hby at_274) (by decide) (by decide)
    obtain ⟨b300, g300⟩ : ∃ z, z = T106.heap.size := ⟨_, rfl⟩
    rw [← g300] at A300 D300 st300
    have f302 : Arv Z T106.heap b20 k20 .int (3 : Int32) ([(.int r_23), (.int r_26), (.int r_29)]) (.int 0) := ((f89.keep K87q nin0).keep K106q (ninS ne33 (ninS ne56 nin0)))
    have ne301 : b20 ≠ b300 := Nat.ne_of_lt (Nat.lt_of_lt_of_le f302.lt (Nat.le_of_eq g300.symm))
    have ne303 : b32 ≠ b300 := Nat.ne_of_lt (Nat.lt_of_lt_of_le p106_0.lt (Nat.le_of_eq g300.symm))
    have f305 : Exa Z T106.heap r_44 s5n := ((f93.keep K87q).keep K106q)
    have ne304 : r_44 ≠ b300 := Nat.ne_of_lt (Nat.lt_of_lt_of_le f305.lt (Nat.le_of_eq g300.symm))
    have ne306 : e1_55 ≠ b300 := Nat.ne_of_lt (Nat.lt_of_lt_of_le p106_4.lt (Nat.le_of_eq g300.symm))
    have f308 : Exa Z T106.heap r_65 s5n := ((f97.keep K87q).keep K106q)
    have ne307 : r_65 ≠ b300 := Nat.ne_of_lt (Nat.lt_of_lt_of_le f308.lt (Nat.le_of_eq g300.symm))
    have f310 : Exa Z T106.heap r_87 s5n := (p87_1.keep K106q)
    have ne309 : r_87 ≠ b300 := Nat.ne_of_lt (Nat.lt_of_lt_of_le f310.lt (Nat.le_of_eq g300.symm))
    have g311 : n0 ≤ b300 := Nat.le_trans (own_sz O107) (Nat.le_of_eq g300.symm)
    have O312 : Old Z n0 h300 := O107.ext E300
    have f313 : Fld Z h300 b300 s9n "low" "[I" .null := D300 (Or.inr (ow hw 130 rfl)) (ty := (.array .int)) (by decide)
    have f314 : Fld Z h300 b300 s9n "word" "[I" .null := D300 (Or.inr (ow hw 132 rfl)) (ty := (.array .int)) (by decide)
    have f315 : Fld Z h300 b300 s9n "shift" "[I" .null := D300 (Or.inr (ow hw 134 rfl)) (ty := (.array .int)) (by decide)
    have f316 : Fld Z h300 b300 s9n "mask" "[J" .null := D300 (Or.inr (ow hw 137 rfl)) (ty := (.array .long)) (by decide)
    have f317 : Fld Z h300 b300 s9n s10n "I" (.int 0) := D300 (Or.inr (ow hw 182 rfl)) (ty := .int) (by decide)
    have f318 : Exa Z h300 b32 s2n := (p106_0.ext E300)
    have f319 : Fld Z h300 b32 s2n "elementData" s3n (.ref e1_55) := (p106_2.ext E300)
    have f320 : Fld Z h300 b32 s2n "size" "I" (.int 3) := (p106_3.ext E300)
    have f321 : Arv Z h300 e1_55 e2_55 (.object s4n) (10 : Int32) ([(.ref r_44), (.ref r_65), (.ref r_87), .null, .null, .null, .null, .null, .null, .null]) .null := (p106_5.ext E300)
    have f322 : Exa Z h300 r_44 s5n := (f305.ext E300)
    have f323 : Fld Z h300 r_44 s5n "high" "I" (.int zh_44) := ((((((((p44_5.keep K55q (ninS (Ne.symm ne47) nin0)).ext E62).keep K65q nin0).keep K82q (ninS (Ne.symm ne47) (ninS ne59 nin0))).ext E84).keep K87q nin0).keep K106q (ninS (Ne.symm ne47) (ninS ne59 nin0))).ext E300)
    have f324 : Fld Z h300 r_44 s5n "low" "I" (.int zl_44) := ((((((((p44_4.keep K55q (ninS (Ne.symm ne47) nin0)).ext E62).keep K65q nin0).keep K82q (ninS (Ne.symm ne47) (ninS ne59 nin0))).ext E84).keep K87q nin0).keep K106q (ninS (Ne.symm ne47) (ninS ne59 nin0))).ext E300)
    have f325 : Exa Z h300 r_65 s5n := (f308.ext E300)
    have f326 : Fld Z h300 r_65 s5n "high" "I" (.int zh_65) := (((((p65_5.keep K82q (ninS (Ne.symm ne68) (ninS (Ne.symm ne72) nin0))).ext E84).keep K87q nin0).keep K106q (ninS (Ne.symm ne68) (ninS (Ne.symm ne72) nin0))).ext E300)
    have f327 : Fld Z h300 r_65 s5n "low" "I" (.int zl_65) := (((((p65_4.keep K82q (ninS (Ne.symm ne68) (ninS (Ne.symm ne72) nin0))).ext E84).keep K87q nin0).keep K106q (ninS (Ne.symm ne68) (ninS (Ne.symm ne72) nin0))).ext E300)
    have f328 : Exa Z h300 r_87 s5n := (f310.ext E300)
    have f329 : Fld Z h300 r_87 s5n "high" "I" (.int zh_87) := ((p87_5.keep K106q (ninS (Ne.symm ne90) (ninS (Ne.symm ne94) nin0))).ext E300)
    have f330 : Fld Z h300 r_87 s5n "low" "I" (.int zl_87) := ((p87_4.keep K106q (ninS (Ne.symm ne90) (ninS (Ne.symm ne94) nin0))).ext E300)
    obtain ⟨_, _, ⟨T331, L331, k331, n331⟩, -, X331, ⟨Lc331, hQ331, l331, y331, z331⟩, st331⟩ := X300.specialBack hx (y := M24) rfl hown (mvT hZ (ow hw 117 rfl)) (mvT hZ (ow hw 118 rfl)) (mvT hZ (ow hw 119 rfl)) (by decide) (backOf (W := 1) (au16_1 l Z a0 hw [] wINTEGER wDOUBLE wBOOLEAN wD kwD hS b300 b32 k0 k1 k2 e1_55 e2_55 r_44 r_65 r_87 zh_44 zl_44 zh_65 zl_65 zh_87 zl_87 h300 n0 O312 A300 f313 f316 f315 f314 f317 f318 f319 f320 f321 f322 f323 f324 f325 f326 f327 f328 f329 f330 hbt0 hbt1 hbt2 hA hB hC g311 (Ne.symm ne303) (Ne.symm ne306) (Ne.symm ne304) (Ne.symm ne307) (Ne.symm ne309)) hZ (ow hw 119 rfl) (ow hw 116 rfl) (by decide) (by decide)) (g := (mkF m 280 #[(vl p0), .second, (vl p1), .second, (vl p2), .second, (vl p3), .second, (vl p4), .second, (vi p5), (vi kk0), (vi kk1), (vi kk2), (vi yo), (vi yb0), (vi yb1), (vi yb2), (vl r_14), .second, (vl r_15), .second, (vl r_16), .second, (vl r_17), .second, (vl r_18), .second, (vl r_19), .second, (vr b20), (vr b32), .unset, .unset, .unset, .unset, .unset, .unset] [(.ref b32), (.ref b300), (.ref b300)])) rfl (by rw [hml]; rfl) (Steps.refl _) (a := b300) (argsL := [(.ref b32)]) (rest := [(.ref b300)]) (lenOf pd_16 rfl) rfl (by show 2 * 0 + _ ≤ _; exact Nat.le_of_eq rfl) (hb hby at_280) (fun _ _ => ⟨rfl, e300, (by decide : 13 + 4 ≤ _), (by decide : 57 + 12 ≤ _)⟩)
    dsimp only [Pt.U, Pt.locs, Pt.cells, Pt.slots] at X331 l331 y331 z331 st331 hQ331
    subst y331 z331
    obtain ⟨e1_331, e2_331, e3_331, e4_331, e5_331, e6_331, e7_331, e8_331, rfl, Nq331, K331q, p331_0, p331_1, p331_2, p331_3, p331_4, p331_5, p331_6, p331_7, p331_8, p331_9, p331_10, p331_11, p331_12, p331_13, p331_14, p331_15, p331_16, p331_17, p331_18, p331_19, p331_20, p331_21, p331_22, p331_23⟩ := hQ331
    have N331 : Fr n0 L331 := (congrArg (Fr n0) l331).mpr (Fr.app N106 Nq331)
    have f333 : Arv Z h300 b20 k20 .int (3 : Int32) ([(.int r_23), (.int r_26), (.int r_29)]) (.int 0) := (f302.ext E300)
    have ne332 : b20 ≠ e1_331 := Nat.ne_of_lt (Nat.lt_of_lt_of_le f333.lt p331_6)
    have ne334 : b32 ≠ e1_331 := Nat.ne_of_lt (Nat.lt_of_lt_of_le f318.lt p331_6)
    have ne335 : r_44 ≠ e1_331 := Nat.ne_of_lt (Nat.lt_of_lt_of_le f322.lt p331_6)
    have f337 : Exa Z h300 e1_55 s3n := (p106_4.ext E300)
    have ne336 : e1_55 ≠ e1_331 := Nat.ne_of_lt (Nat.lt_of_lt_of_le f337.lt p331_6)
    have ne338 : r_65 ≠ e1_331 := Nat.ne_of_lt (Nat.lt_of_lt_of_le f325.lt p331_6)
    have ne339 : r_87 ≠ e1_331 := Nat.ne_of_lt (Nat.lt_of_lt_of_le f328.lt p331_6)
    have ne340 : b300 ≠ e1_331 := Nat.ne_of_lt (Nat.lt_of_lt_of_le A300.lt p331_6)
    have g341 : n0 ≤ e1_331 := Nat.le_trans (own_sz O312) p331_6
    have ne342 : b20 ≠ e2_331 := Nat.ne_of_lt (Nat.lt_of_lt_of_le f333.lt p331_9)
    have ne343 : b32 ≠ e2_331 := Nat.ne_of_lt (Nat.lt_of_lt_of_le f318.lt p331_9)
    have ne344 : r_44 ≠ e2_331 := Nat.ne_of_lt (Nat.lt_of_lt_of_le f322.lt p331_9)
    have ne345 : e1_55 ≠ e2_331 := Nat.ne_of_lt (Nat.lt_of_lt_of_le f337.lt p331_9)
    have ne346 : r_65 ≠ e2_331 := Nat.ne_of_lt (Nat.lt_of_lt_of_le f325.lt p331_9)
    have ne347 : r_87 ≠ e2_331 := Nat.ne_of_lt (Nat.lt_of_lt_of_le f328.lt p331_9)
    have ne348 : b300 ≠ e2_331 := Nat.ne_of_lt (Nat.lt_of_lt_of_le A300.lt p331_9)
    have g349 : n0 ≤ e2_331 := Nat.le_trans (own_sz O312) p331_9
    have ne350 : b20 ≠ e3_331 := Nat.ne_of_lt (Nat.lt_of_lt_of_le f333.lt p331_12)
    have ne351 : b32 ≠ e3_331 := Nat.ne_of_lt (Nat.lt_of_lt_of_le f318.lt p331_12)
    have ne352 : r_44 ≠ e3_331 := Nat.ne_of_lt (Nat.lt_of_lt_of_le f322.lt p331_12)
    have ne353 : e1_55 ≠ e3_331 := Nat.ne_of_lt (Nat.lt_of_lt_of_le f337.lt p331_12)
    have ne354 : r_65 ≠ e3_331 := Nat.ne_of_lt (Nat.lt_of_lt_of_le f325.lt p331_12)
    have ne355 : r_87 ≠ e3_331 := Nat.ne_of_lt (Nat.lt_of_lt_of_le f328.lt p331_12)
    have ne356 : b300 ≠ e3_331 := Nat.ne_of_lt (Nat.lt_of_lt_of_le A300.lt p331_12)
    have g357 : n0 ≤ e3_331 := Nat.le_trans (own_sz O312) p331_12
    have ne358 : b20 ≠ e4_331 := Nat.ne_of_lt (Nat.lt_of_lt_of_le f333.lt p331_15)
    have ne359 : b32 ≠ e4_331 := Nat.ne_of_lt (Nat.lt_of_lt_of_le f318.lt p331_15)
    have ne360 : r_44 ≠ e4_331 := Nat.ne_of_lt (Nat.lt_of_lt_of_le f322.lt p331_15)
    have ne361 : e1_55 ≠ e4_331 := Nat.ne_of_lt (Nat.lt_of_lt_of_le f337.lt p331_15)
    have ne362 : r_65 ≠ e4_331 := Nat.ne_of_lt (Nat.lt_of_lt_of_le f325.lt p331_15)
    have ne363 : r_87 ≠ e4_331 := Nat.ne_of_lt (Nat.lt_of_lt_of_le f328.lt p331_15)
    have ne364 : b300 ≠ e4_331 := Nat.ne_of_lt (Nat.lt_of_lt_of_le A300.lt p331_15)
    have g365 : n0 ≤ e4_331 := Nat.le_trans (own_sz O312) p331_15
    have O366 : Old Z n0 T331.heap := O312.keep K331q (allS g311 all0)
    obtain ⟨T367, h367, k367, X367, e367, E367, A367, Z367, st367⟩ := newPE X331 hx hZ (ow hw 135 rfl) rfl (g := (mkF m 287 #[(vl p0), .second, (vl p1), .second, (vl p2), .second, (vl p3), .second, (vl p4), .second, (vi p5), (vi kk0), (vi kk1), (vi kk2), (vi yo), (vi yb0), (vi yb1), (vi yb2), (vl r_14), .second, (vl r_15), .second, (vl r_16), .second, (vl r_17), .second, (vl r_18), .second, (vl r_19), .second, (vr b20), (vr b32), (vr b300), .unset, .unset, .unset, .unset, .unset] [(.int 6)])) rfl (hb hby at_287) rfl (by decide) (cap := 6) (by decide) (by decide) (by decide) (by decide) (ad := "[J") rfl
    obtain ⟨b367, g367⟩ : ∃ z, z = T331.heap.size := ⟨_, rfl⟩
    rw [← g367] at A367 Z367 st367
    have f369 : Arv Z T331.heap b20 k20 .int (3 : Int32) ([(.int r_23), (.int r_26), (.int r_29)]) (.int 0) := (f333.keep K331q (ninS ne301 nin0))
    have ne368 : b20 ≠ b367 := Nat.ne_of_lt (Nat.lt_of_lt_of_le f369.lt (Nat.le_of_eq g367.symm))
    have f371 : Exa Z T331.heap b32 s2n := (f318.keep K331q)
    have ne370 : b32 ≠ b367 := Nat.ne_of_lt (Nat.lt_of_lt_of_le f371.lt (Nat.le_of_eq g367.symm))
    have f373 : Exa Z T331.heap r_44 s5n := (f322.keep K331q)
    have ne372 : r_44 ≠ b367 := Nat.ne_of_lt (Nat.lt_of_lt_of_le f373.lt (Nat.le_of_eq g367.symm))
    have f375 : Exa Z T331.heap e1_55 s3n := (f337.keep K331q)
    have ne374 : e1_55 ≠ b367 := Nat.ne_of_lt (Nat.lt_of_lt_of_le f375.lt (Nat.le_of_eq g367.symm))
    have f377 : Exa Z T331.heap r_65 s5n := (f325.keep K331q)
    have ne376 : r_65 ≠ b367 := Nat.ne_of_lt (Nat.lt_of_lt_of_le f377.lt (Nat.le_of_eq g367.symm))
    have f379 : Exa Z T331.heap r_87 s5n := (f328.keep K331q)
    have ne378 : r_87 ≠ b367 := Nat.ne_of_lt (Nat.lt_of_lt_of_le f379.lt (Nat.le_of_eq g367.symm))
    have ne380 : b300 ≠ b367 := Nat.ne_of_lt (Nat.lt_of_lt_of_le p331_0.lt (Nat.le_of_eq g367.symm))
    have ne381 : e1_331 ≠ b367 := Nat.ne_of_lt (Nat.lt_of_lt_of_le p331_7.lt (Nat.le_of_eq g367.symm))
    have ne382 : e2_331 ≠ b367 := Nat.ne_of_lt (Nat.lt_of_lt_of_le p331_10.lt (Nat.le_of_eq g367.symm))
    have ne383 : e3_331 ≠ b367 := Nat.ne_of_lt (Nat.lt_of_lt_of_le p331_13.lt (Nat.le_of_eq g367.symm))
    have ne384 : e4_331 ≠ b367 := Nat.ne_of_lt (Nat.lt_of_lt_of_le p331_16.lt (Nat.le_of_eq g367.symm))
    have g385 : n0 ≤ b367 := Nat.le_trans (own_sz O366) (Nat.le_of_eq g367.symm)
    have O386 : Old Z n0 h367 := O366.ext E367
    have V367 : Arv Z h367 b367 k367 .long (6 : Int32) ([(.long 0), (.long 0), (.long 0), (.long 0), (.long 0), (.long 0)]) (.long 0) := (Arv.new A367 (by decide)).pad (pad_rep [] (.long 0) 6)
    obtain ⟨T387, h387, k387, X387, e387, E387, A387, Z387, st387⟩ := newPE X367 hx hZ (ow hw 135 rfl) e367 (g := (mkF m 293 #[(vl p0), .second, (vl p1), .second, (vl p2), .second, (vl p3), .second, (vl p4), .second, (vi p5), (vi kk0), (vi kk1), (vi kk2), (vi yo), (vi yb0), (vi yb1), (vi yb2), (vl r_14), .second, (vl r_15), .second, (vl r_16), .second, (vl r_17), .second, (vl r_18), .second, (vl r_19), .second, (vr b20), (vr b32), (vr b300), (vr b367), .unset, .unset, .unset, .unset] [(.int 6)])) rfl (hb hby at_293) rfl (by decide) (cap := 6) (by decide) (by decide) (by decide) (by decide) (ad := "[J") rfl
    obtain ⟨b387, g387⟩ : ∃ z, z = h367.size := ⟨_, rfl⟩
    rw [← g387] at A387 Z387 st387
    have f389 : Arv Z h367 b20 k20 .int (3 : Int32) ([(.int r_23), (.int r_26), (.int r_29)]) (.int 0) := (f369.ext E367)
    have ne388 : b20 ≠ b387 := Nat.ne_of_lt (Nat.lt_of_lt_of_le f389.lt (Nat.le_of_eq g387.symm))
    have f391 : Exa Z h367 b32 s2n := (f371.ext E367)
    have ne390 : b32 ≠ b387 := Nat.ne_of_lt (Nat.lt_of_lt_of_le f391.lt (Nat.le_of_eq g387.symm))
    have f393 : Exa Z h367 r_44 s5n := (f373.ext E367)
    have ne392 : r_44 ≠ b387 := Nat.ne_of_lt (Nat.lt_of_lt_of_le f393.lt (Nat.le_of_eq g387.symm))
    have f395 : Exa Z h367 e1_55 s3n := (f375.ext E367)
    have ne394 : e1_55 ≠ b387 := Nat.ne_of_lt (Nat.lt_of_lt_of_le f395.lt (Nat.le_of_eq g387.symm))
    have f397 : Exa Z h367 r_65 s5n := (f377.ext E367)
    have ne396 : r_65 ≠ b387 := Nat.ne_of_lt (Nat.lt_of_lt_of_le f397.lt (Nat.le_of_eq g387.symm))
    have f399 : Exa Z h367 r_87 s5n := (f379.ext E367)
    have ne398 : r_87 ≠ b387 := Nat.ne_of_lt (Nat.lt_of_lt_of_le f399.lt (Nat.le_of_eq g387.symm))
    have f401 : Exa Z h367 b300 s9n := (p331_0.ext E367)
    have ne400 : b300 ≠ b387 := Nat.ne_of_lt (Nat.lt_of_lt_of_le f401.lt (Nat.le_of_eq g387.symm))
    have f403 : Exa Z h367 e1_331 "[I" := (p331_7.ext E367)
    have ne402 : e1_331 ≠ b387 := Nat.ne_of_lt (Nat.lt_of_lt_of_le f403.lt (Nat.le_of_eq g387.symm))
    have f405 : Exa Z h367 e2_331 "[J" := (p331_10.ext E367)
    have ne404 : e2_331 ≠ b387 := Nat.ne_of_lt (Nat.lt_of_lt_of_le f405.lt (Nat.le_of_eq g387.symm))
    have f407 : Exa Z h367 e3_331 "[I" := (p331_13.ext E367)
    have ne406 : e3_331 ≠ b387 := Nat.ne_of_lt (Nat.lt_of_lt_of_le f407.lt (Nat.le_of_eq g387.symm))
    have f409 : Exa Z h367 e4_331 "[I" := (p331_16.ext E367)
    have ne408 : e4_331 ≠ b387 := Nat.ne_of_lt (Nat.lt_of_lt_of_le f409.lt (Nat.le_of_eq g387.symm))
    have ne410 : b367 ≠ b387 := Nat.ne_of_lt (Nat.lt_of_lt_of_le V367.lt (Nat.le_of_eq g387.symm))
    have g411 : n0 ≤ b387 := Nat.le_trans (own_sz O386) (Nat.le_of_eq g387.symm)
    have O412 : Old Z n0 h387 := O386.ext E387
    have V387 : Arv Z h387 b387 k387 .long (6 : Int32) ([(.long 0), (.long 0), (.long 0), (.long 0), (.long 0), (.long 0)]) (.long 0) := (Arv.new A387 (by decide)).pad (pad_rep [] (.long 0) 6)
    have f413 : Arv Z h387 b367 k367 .long (6 : Int32) ([(.long 0), (.long 0), (.long 0), (.long 0), (.long 0), (.long 0)]) (.long 0) := (V367.ext E387)
    obtain ⟨cl414, Ar414, qc414, Sz414, Nn414, Ha414, Gg414⟩ := (id f413)
    have hin414 : ¬ ((0 : Int32) < 0 ∨ cl414.slots.size ≤ ((0 : Int32)).toNatClampNeg) := inb_of Sz414 ⟨by decide, by decide⟩
    obtain ⟨T414, h414, X414, e414, W414, st414⟩ := stJ X387 hx hZ e387 Ar414 (j := (0 : Int32)) hin414 (g := (mkF m 302 #[(vl p0), .second, (vl p1), .second, (vl p2), .second, (vl p3), .second, (vl p4), .second, (vi p5), (vi kk0), (vi kk1), (vi kk2), (vi yo), (vi yb0), (vi yb1), (vi yb2), (vl r_14), .second, (vl r_15), .second, (vl r_16), .second, (vl r_17), .second, (vl r_18), .second, (vl r_19), .second, (vr b20), (vr b32), (vr b300), (vr b367), (vr b387), .unset, .unset, .unset] [(.long p4), (.int 0), (.ref b367)])) rfl rfl (hb hby at_302)
    have O415 : Old Z n0 h414 := O412.wr W414 g385
    have V414 : Arv Z h414 b367 k367 .long (6 : Int32) ([(.long p4), (.long 0), (.long 0), (.long 0), (.long 0), (.long 0)]) (.long 0) := (Arv.set Ar414 qc414 Sz414 Nn414 Ha414 Gg414 (v := (.long p4)) rfl W414 0 rfl (Nat.le_of_ble_eq_true rfl))
    have N414 := Fr.snoc X414 N331 g385
    obtain ⟨cl416, Ar416, qc416, Sz416, Nn416, Ha416, Gg416⟩ := (id V414)
    have hin416 : ¬ ((1 : Int32) < 0 ∨ cl416.slots.size ≤ ((1 : Int32)).toNatClampNeg) := inb_of Sz416 ⟨by decide, by decide⟩
    obtain ⟨T416, h416, X416, e416, W416, st416⟩ := stJ X414 hx hZ e414 Ar416 (j := (1 : Int32)) hin416 (g := (mkF m 308 #[(vl p0), .second, (vl p1), .second, (vl p2), .second, (vl p3), .second, (vl p4), .second, (vi p5), (vi kk0), (vi kk1), (vi kk2), (vi yo), (vi yb0), (vi yb1), (vi yb2), (vl r_14), .second, (vl r_15), .second, (vl r_16), .second, (vl r_17), .second, (vl r_18), .second, (vl r_19), .second, (vr b20), (vr b32), (vr b300), (vr b367), (vr b387), .unset, .unset, .unset] [(.long p4), (.int 1), (.ref b367)])) rfl rfl (hb hby at_308)
    have O417 : Old Z n0 h416 := O415.wr W416 g385
    have V416 : Arv Z h416 b367 k367 .long (6 : Int32) ([(.long p4), (.long p4), (.long 0), (.long 0), (.long 0), (.long 0)]) (.long 0) := (Arv.set Ar416 qc416 Sz416 Nn416 Ha416 Gg416 (v := (.long p4)) rfl W416 1 rfl (Nat.le_of_ble_eq_true rfl))
    have N416 := Fr.snoc X416 N414 g385
    obtain ⟨cl418, Ar418, qc418, Sz418, Nn418, Ha418, Gg418⟩ := (id V416)
    have hin418 : ¬ ((2 : Int32) < 0 ∨ cl418.slots.size ≤ ((2 : Int32)).toNatClampNeg) := inb_of Sz418 ⟨by decide, by decide⟩
    obtain ⟨T418, h418, X418, e418, W418, st418⟩ := stJ X416 hx hZ e416 Ar418 (j := (2 : Int32)) hin418 (g := (mkF m 314 #[(vl p0), .second, (vl p1), .second, (vl p2), .second, (vl p3), .second, (vl p4), .second, (vi p5), (vi kk0), (vi kk1), (vi kk2), (vi yo), (vi yb0), (vi yb1), (vi yb2), (vl r_14), .second, (vl r_15), .second, (vl r_16), .second, (vl r_17), .second, (vl r_18), .second, (vl r_19), .second, (vr b20), (vr b32), (vr b300), (vr b367), (vr b387), .unset, .unset, .unset] [(.long p4), (.int 2), (.ref b367)])) rfl rfl (hb hby at_314)
    have O419 : Old Z n0 h418 := O417.wr W418 g385
    have V418 : Arv Z h418 b367 k367 .long (6 : Int32) ([(.long p4), (.long p4), (.long p4), (.long 0), (.long 0), (.long 0)]) (.long 0) := (Arv.set Ar418 qc418 Sz418 Nn418 Ha418 Gg418 (v := (.long p4)) rfl W418 2 rfl (Nat.le_of_ble_eq_true rfl))
    have N418 := Fr.snoc X418 N416 g385
    obtain ⟨cl420, Ar420, qc420, Sz420, Nn420, Ha420, Gg420⟩ := (id V418)
    have hin420 : ¬ ((3 : Int32) < 0 ∨ cl420.slots.size ≤ ((3 : Int32)).toNatClampNeg) := inb_of Sz420 ⟨by decide, by decide⟩
    obtain ⟨T420, h420, X420, e420, W420, st420⟩ := stJ X418 hx hZ e418 Ar420 (j := (3 : Int32)) hin420 (g := (mkF m 320 #[(vl p0), .second, (vl p1), .second, (vl p2), .second, (vl p3), .second, (vl p4), .second, (vi p5), (vi kk0), (vi kk1), (vi kk2), (vi yo), (vi yb0), (vi yb1), (vi yb2), (vl r_14), .second, (vl r_15), .second, (vl r_16), .second, (vl r_17), .second, (vl r_18), .second, (vl r_19), .second, (vr b20), (vr b32), (vr b300), (vr b367), (vr b387), .unset, .unset, .unset] [(.long p4), (.int 3), (.ref b367)])) rfl rfl (hb hby at_320)
    have O421 : Old Z n0 h420 := O419.wr W420 g385
    have V420 : Arv Z h420 b367 k367 .long (6 : Int32) ([(.long p4), (.long p4), (.long p4), (.long p4), (.long 0), (.long 0)]) (.long 0) := (Arv.set Ar420 qc420 Sz420 Nn420 Ha420 Gg420 (v := (.long p4)) rfl W420 3 rfl (Nat.le_of_ble_eq_true rfl))
    have N420 := Fr.snoc X420 N418 g385
    obtain ⟨cl422, Ar422, qc422, Sz422, Nn422, Ha422, Gg422⟩ := (id V420)
    have hin422 : ¬ ((4 : Int32) < 0 ∨ cl422.slots.size ≤ ((4 : Int32)).toNatClampNeg) := inb_of Sz422 ⟨by decide, by decide⟩
    obtain ⟨T422, h422, X422, e422, W422, st422⟩ := stJ X420 hx hZ e420 Ar422 (j := (4 : Int32)) hin422 (g := (mkF m 326 #[(vl p0), .second, (vl p1), .second, (vl p2), .second, (vl p3), .second, (vl p4), .second, (vi p5), (vi kk0), (vi kk1), (vi kk2), (vi yo), (vi yb0), (vi yb1), (vi yb2), (vl r_14), .second, (vl r_15), .second, (vl r_16), .second, (vl r_17), .second, (vl r_18), .second, (vl r_19), .second, (vr b20), (vr b32), (vr b300), (vr b367), (vr b387), .unset, .unset, .unset] [(.long p4), (.int 4), (.ref b367)])) rfl rfl (hb hby at_326)
    have O423 : Old Z n0 h422 := O421.wr W422 g385
    have V422 : Arv Z h422 b367 k367 .long (6 : Int32) ([(.long p4), (.long p4), (.long p4), (.long p4), (.long p4), (.long 0)]) (.long 0) := (Arv.set Ar422 qc422 Sz422 Nn422 Ha422 Gg422 (v := (.long p4)) rfl W422 4 rfl (Nat.le_of_ble_eq_true rfl))
    have N422 := Fr.snoc X422 N420 g385
    obtain ⟨cl424, Ar424, qc424, Sz424, Nn424, Ha424, Gg424⟩ := (id V422)
    have hin424 : ¬ ((5 : Int32) < 0 ∨ cl424.slots.size ≤ ((5 : Int32)).toNatClampNeg) := inb_of Sz424 ⟨by decide, by decide⟩
    obtain ⟨T424, h424, X424, e424, W424, st424⟩ := stJ X422 hx hZ e422 Ar424 (j := (5 : Int32)) hin424 (g := (mkF m 332 #[(vl p0), .second, (vl p1), .second, (vl p2), .second, (vl p3), .second, (vl p4), .second, (vi p5), (vi kk0), (vi kk1), (vi kk2), (vi yo), (vi yb0), (vi yb1), (vi yb2), (vl r_14), .second, (vl r_15), .second, (vl r_16), .second, (vl r_17), .second, (vl r_18), .second, (vl r_19), .second, (vr b20), (vr b32), (vr b300), (vr b367), (vr b387), .unset, .unset, .unset] [(.long p4), (.int 5), (.ref b367)])) rfl rfl (hb hby at_332)
    have O425 : Old Z n0 h424 := O423.wr W424 g385
    have V424 : Arv Z h424 b367 k367 .long (6 : Int32) ([(.long p4), (.long p4), (.long p4), (.long p4), (.long p4), (.long p4)]) (.long 0) := (Arv.set Ar424 qc424 Sz424 Nn424 Ha424 Gg424 (v := (.long p4)) rfl W424 5 rfl (Nat.le_of_ble_eq_true rfl))
    have N424 := Fr.snoc X424 N422 g385
    have f426 : Arv Z h424 b387 k387 .long (6 : Int32) ([(.long 0), (.long 0), (.long 0), (.long 0), (.long 0), (.long 0)]) (.long 0) := ((((((V387.other W414 (Ne.symm ne410)).other W416 (Ne.symm ne410)).other W418 (Ne.symm ne410)).other W420 (Ne.symm ne410)).other W422 (Ne.symm ne410)).other W424 (Ne.symm ne410))
    obtain ⟨cl427, Ar427, qc427, Sz427, Nn427, Ha427, Gg427⟩ := (id f426)
    have hin427 : ¬ ((0 : Int32) < 0 ∨ cl427.slots.size ≤ ((0 : Int32)).toNatClampNeg) := inb_of Sz427 ⟨by decide, by decide⟩
    obtain ⟨T427, h427, X427, e427, W427, st427⟩ := stJ X424 hx hZ e424 Ar427 (j := (0 : Int32)) hin427 (g := (mkF m 342 #[(vl p0), .second, (vl p1), .second, (vl p2), .second, (vl p3), .second, (vl p4), .second, (vi p5), (vi kk0), (vi kk1), (vi kk2), (vi yo), (vi yb0), (vi yb1), (vi yb2), (vl r_14), .second, (vl r_15), .second, (vl r_16), .second, (vl r_17), .second, (vl r_18), .second, (vl r_19), .second, (vr b20), (vr b32), (vr b300), (vr b367), (vr b387), .unset, .unset, .unset] [(.long (p4 ^^^ (-1 : Int64))), (.int 0), (.ref b387)])) rfl rfl (hb hby at_342)
    have O428 : Old Z n0 h427 := O425.wr W427 g411
    have V427 : Arv Z h427 b387 k387 .long (6 : Int32) ([(.long (p4 ^^^ (-1 : Int64))), (.long 0), (.long 0), (.long 0), (.long 0), (.long 0)]) (.long 0) := (Arv.set Ar427 qc427 Sz427 Nn427 Ha427 Gg427 (v := (.long (p4 ^^^ (-1 : Int64)))) rfl W427 0 rfl (Nat.le_of_ble_eq_true rfl))
    have N427 := Fr.snoc X427 N424 g411
    obtain ⟨cl429, Ar429, qc429, Sz429, Nn429, Ha429, Gg429⟩ := (id V427)
    have hin429 : ¬ ((1 : Int32) < 0 ∨ cl429.slots.size ≤ ((1 : Int32)).toNatClampNeg) := inb_of Sz429 ⟨by decide, by decide⟩
    obtain ⟨T429, h429, X429, e429, W429, st429⟩ := stJ X427 hx hZ e427 Ar429 (j := (1 : Int32)) hin429 (g := (mkF m 352 #[(vl p0), .second, (vl p1), .second, (vl p2), .second, (vl p3), .second, (vl p4), .second, (vi p5), (vi kk0), (vi kk1), (vi kk2), (vi yo), (vi yb0), (vi yb1), (vi yb2), (vl r_14), .second, (vl r_15), .second, (vl r_16), .second, (vl r_17), .second, (vl r_18), .second, (vl r_19), .second, (vr b20), (vr b32), (vr b300), (vr b367), (vr b387), .unset, .unset, .unset] [(.long (p4 ^^^ (-1 : Int64))), (.int 1), (.ref b387)])) rfl rfl (hb hby at_352)
    have O430 : Old Z n0 h429 := O428.wr W429 g411
    have V429 : Arv Z h429 b387 k387 .long (6 : Int32) ([(.long (p4 ^^^ (-1 : Int64))), (.long (p4 ^^^ (-1 : Int64))), (.long 0), (.long 0), (.long 0), (.long 0)]) (.long 0) := (Arv.set Ar429 qc429 Sz429 Nn429 Ha429 Gg429 (v := (.long (p4 ^^^ (-1 : Int64)))) rfl W429 1 rfl (Nat.le_of_ble_eq_true rfl))
    have N429 := Fr.snoc X429 N427 g411
    obtain ⟨cl431, Ar431, qc431, Sz431, Nn431, Ha431, Gg431⟩ := (id V429)
    have hin431 : ¬ ((2 : Int32) < 0 ∨ cl431.slots.size ≤ ((2 : Int32)).toNatClampNeg) := inb_of Sz431 ⟨by decide, by decide⟩
    obtain ⟨T431, h431, X431, e431, W431, st431⟩ := stJ X429 hx hZ e429 Ar431 (j := (2 : Int32)) hin431 (g := (mkF m 362 #[(vl p0), .second, (vl p1), .second, (vl p2), .second, (vl p3), .second, (vl p4), .second, (vi p5), (vi kk0), (vi kk1), (vi kk2), (vi yo), (vi yb0), (vi yb1), (vi yb2), (vl r_14), .second, (vl r_15), .second, (vl r_16), .second, (vl r_17), .second, (vl r_18), .second, (vl r_19), .second, (vr b20), (vr b32), (vr b300), (vr b367), (vr b387), .unset, .unset, .unset] [(.long (p4 ^^^ (-1 : Int64))), (.int 2), (.ref b387)])) rfl rfl (hb hby at_362)
    have O432 : Old Z n0 h431 := O430.wr W431 g411
    have V431 : Arv Z h431 b387 k387 .long (6 : Int32) ([(.long (p4 ^^^ (-1 : Int64))), (.long (p4 ^^^ (-1 : Int64))), (.long (p4 ^^^ (-1 : Int64))), (.long 0), (.long 0), (.long 0)]) (.long 0) := (Arv.set Ar431 qc431 Sz431 Nn431 Ha431 Gg431 (v := (.long (p4 ^^^ (-1 : Int64)))) rfl W431 2 rfl (Nat.le_of_ble_eq_true rfl))
    have N431 := Fr.snoc X431 N429 g411
    obtain ⟨cl433, Ar433, qc433, Sz433, Nn433, Ha433, Gg433⟩ := (id V431)
    have hin433 : ¬ ((3 : Int32) < 0 ∨ cl433.slots.size ≤ ((3 : Int32)).toNatClampNeg) := inb_of Sz433 ⟨by decide, by decide⟩
    obtain ⟨T433, h433, X433, e433, W433, st433⟩ := stJ X431 hx hZ e431 Ar433 (j := (3 : Int32)) hin433 (g := (mkF m 372 #[(vl p0), .second, (vl p1), .second, (vl p2), .second, (vl p3), .second, (vl p4), .second, (vi p5), (vi kk0), (vi kk1), (vi kk2), (vi yo), (vi yb0), (vi yb1), (vi yb2), (vl r_14), .second, (vl r_15), .second, (vl r_16), .second, (vl r_17), .second, (vl r_18), .second, (vl r_19), .second, (vr b20), (vr b32), (vr b300), (vr b367), (vr b387), .unset, .unset, .unset] [(.long (p4 ^^^ (-1 : Int64))), (.int 3), (.ref b387)])) rfl rfl (hb hby at_372)
    have O434 : Old Z n0 h433 := O432.wr W433 g411
    have V433 : Arv Z h433 b387 k387 .long (6 : Int32) ([(.long (p4 ^^^ (-1 : Int64))), (.long (p4 ^^^ (-1 : Int64))), (.long (p4 ^^^ (-1 : Int64))), (.long (p4 ^^^ (-1 : Int64))), (.long 0), (.long 0)]) (.long 0) := (Arv.set Ar433 qc433 Sz433 Nn433 Ha433 Gg433 (v := (.long (p4 ^^^ (-1 : Int64)))) rfl W433 3 rfl (Nat.le_of_ble_eq_true rfl))
    have N433 := Fr.snoc X433 N431 g411
    obtain ⟨cl435, Ar435, qc435, Sz435, Nn435, Ha435, Gg435⟩ := (id V433)
    have hin435 : ¬ ((4 : Int32) < 0 ∨ cl435.slots.size ≤ ((4 : Int32)).toNatClampNeg) := inb_of Sz435 ⟨by decide, by decide⟩
    obtain ⟨T435, h435, X435, e435, W435, st435⟩ := stJ X433 hx hZ e433 Ar435 (j := (4 : Int32)) hin435 (g := (mkF m 382 #[(vl p0), .second, (vl p1), .second, (vl p2), .second, (vl p3), .second, (vl p4), .second, (vi p5), (vi kk0), (vi kk1), (vi kk2), (vi yo), (vi yb0), (vi yb1), (vi yb2), (vl r_14), .second, (vl r_15), .second, (vl r_16), .second, (vl r_17), .second, (vl r_18), .second, (vl r_19), .second, (vr b20), (vr b32), (vr b300), (vr b367), (vr b387), .unset, .unset, .unset] [(.long (p4 ^^^ (-1 : Int64))), (.int 4), (.ref b387)])) rfl rfl (hb hby at_382)
    have O436 : Old Z n0 h435 := O434.wr W435 g411
    have V435 : Arv Z h435 b387 k387 .long (6 : Int32) ([(.long (p4 ^^^ (-1 : Int64))), (.long (p4 ^^^ (-1 : Int64))), (.long (p4 ^^^ (-1 : Int64))), (.long (p4 ^^^ (-1 : Int64))), (.long (p4 ^^^ (-1 : Int64))), (.long 0)]) (.long 0) := (Arv.set Ar435 qc435 Sz435 Nn435 Ha435 Gg435 (v := (.long (p4 ^^^ (-1 : Int64)))) rfl W435 4 rfl (Nat.le_of_ble_eq_true rfl))
    have N435 := Fr.snoc X435 N433 g411
    obtain ⟨cl437, Ar437, qc437, Sz437, Nn437, Ha437, Gg437⟩ := (id V435)
    have hin437 : ¬ ((5 : Int32) < 0 ∨ cl437.slots.size ≤ ((5 : Int32)).toNatClampNeg) := inb_of Sz437 ⟨by decide, by decide⟩
    obtain ⟨T437, h437, X437, e437, W437, st437⟩ := stJ X435 hx hZ e435 Ar437 (j := (5 : Int32)) hin437 (g := (mkF m 392 #[(vl p0), .second, (vl p1), .second, (vl p2), .second, (vl p3), .second, (vl p4), .second, (vi p5), (vi kk0), (vi kk1), (vi kk2), (vi yo), (vi yb0), (vi yb1), (vi yb2), (vl r_14), .second, (vl r_15), .second, (vl r_16), .second, (vl r_17), .second, (vl r_18), .second, (vl r_19), .second, (vr b20), (vr b32), (vr b300), (vr b367), (vr b387), .unset, .unset, .unset] [(.long (p4 ^^^ (-1 : Int64))), (.int 5), (.ref b387)])) rfl rfl (hb hby at_392)
    have O438 : Old Z n0 h437 := O436.wr W437 g411
    have V437 : Arv Z h437 b387 k387 .long (6 : Int32) ([(.long (p4 ^^^ (-1 : Int64))), (.long (p4 ^^^ (-1 : Int64))), (.long (p4 ^^^ (-1 : Int64))), (.long (p4 ^^^ (-1 : Int64))), (.long (p4 ^^^ (-1 : Int64))), (.long (p4 ^^^ (-1 : Int64)))]) (.long 0) := (Arv.set Ar437 qc437 Sz437 Nn437 Ha437 Gg437 (v := (.long (p4 ^^^ (-1 : Int64)))) rfl W437 5 rfl (Nat.le_of_ble_eq_true rfl))
    have N437 := Fr.snoc X437 N435 g411
    have f439 : Fld Z h437 b300 s9n "low" "[I" (.ref e1_331) := ((((((((((((((p331_1.ext E367).ext E387).other W414 (Or.inl ne380)).other W416 (Or.inl ne380)).other W418 (Or.inl ne380)).other W420 (Or.inl ne380)).other W422 (Or.inl ne380)).other W424 (Or.inl ne380)).other W427 (Or.inl ne400)).other W429 (Or.inl ne400)).other W431 (Or.inl ne400)).other W433 (Or.inl ne400)).other W435 (Or.inl ne400)).other W437 (Or.inl ne400))
    have f440 : Fld Z h437 b300 s9n "shift" "[I" (.ref e3_331) := ((((((((((((((p331_3.ext E367).ext E387).other W414 (Or.inl ne380)).other W416 (Or.inl ne380)).other W418 (Or.inl ne380)).other W420 (Or.inl ne380)).other W422 (Or.inl ne380)).other W424 (Or.inl ne380)).other W427 (Or.inl ne400)).other W429 (Or.inl ne400)).other W431 (Or.inl ne400)).other W433 (Or.inl ne400)).other W435 (Or.inl ne400)).other W437 (Or.inl ne400))
    have f441 : Fld Z h437 b300 s9n "word" "[I" (.ref e4_331) := ((((((((((((((p331_4.ext E367).ext E387).other W414 (Or.inl ne380)).other W416 (Or.inl ne380)).other W418 (Or.inl ne380)).other W420 (Or.inl ne380)).other W422 (Or.inl ne380)).other W424 (Or.inl ne380)).other W427 (Or.inl ne400)).other W429 (Or.inl ne400)).other W431 (Or.inl ne400)).other W433 (Or.inl ne400)).other W435 (Or.inl ne400)).other W437 (Or.inl ne400))
    have f442 : Fld Z h437 b300 s9n s10n "I" (.int 1) := ((((((((((((((p331_5.ext E367).ext E387).other W414 (Or.inl ne380)).other W416 (Or.inl ne380)).other W418 (Or.inl ne380)).other W420 (Or.inl ne380)).other W422 (Or.inl ne380)).other W424 (Or.inl ne380)).other W427 (Or.inl ne400)).other W429 (Or.inl ne400)).other W431 (Or.inl ne400)).other W433 (Or.inl ne400)).other W435 (Or.inl ne400)).other W437 (Or.inl ne400))
    have f443 : Arv Z h437 b20 k20 .int (3 : Int32) ([(.int r_23), (.int r_26), (.int r_29)]) (.int 0) := (((((((((((((f389.ext E387).other W414 ne368).other W416 ne368).other W418 ne368).other W420 ne368).other W422 ne368).other W424 ne368).other W427 ne388).other W429 ne388).other W431 ne388).other W433 ne388).other W435 ne388).other W437 ne388)
    have f444 : Arv Z h437 b367 k367 .long (6 : Int32) ([(.long p4), (.long p4), (.long p4), (.long p4), (.long p4), (.long p4)]) (.long 0) := ((((((V424.other W427 ne410).other W429 ne410).other W431 ne410).other W433 ne410).other W435 ne410).other W437 ne410)
    have f445 : Exa Z h437 b367 "[J" := (((((((((((((Z367.ext E387).wr W414).wr W416).wr W418).wr W420).wr W422).wr W424).wr W427).wr W429).wr W431).wr W433).wr W435).wr W437)
    have f446 : Arv Z h437 e1_331 e5_331 .int (3 : Int32) ([(.int zl_44), (.int zl_65), (.int zl_87)]) (.int 0) := ((((((((((((((p331_8.ext E367).ext E387).other W414 ne381).other W416 ne381).other W418 ne381).other W420 ne381).other W422 ne381).other W424 ne381).other W427 ne402).other W429 ne402).other W431 ne402).other W433 ne402).other W435 ne402).other W437 ne402)
    have f447 : Arv Z h437 e3_331 e7_331 .int (3 : Int32) ([(.int 0), (.int ((0 : Int32) + k0)), (.int (((0 : Int32) + k0) + k1))]) (.int 0) := ((((((((((((((p331_14.ext E367).ext E387).other W414 ne383).other W416 ne383).other W418 ne383).other W420 ne383).other W422 ne383).other W424 ne383).other W427 ne406).other W429 ne406).other W431 ne406).other W433 ne406).other W435 ne406).other W437 ne406)
    have f448 : Arv Z h437 e4_331 e8_331 .int (3 : Int32) ([(.int 0), (.int 0), (.int 0)]) (.int 0) := ((((((((((((((p331_17.ext E367).ext E387).other W414 ne384).other W416 ne384).other W418 ne384).other W420 ne384).other W422 ne384).other W424 ne384).other W427 ne408).other W429 ne408).other W431 ne408).other W433 ne408).other W435 ne408).other W437 ne408)
    have f450 : Exa Z h437 b300 s9n := (((((((((((((f401.ext E387).wr W414).wr W416).wr W418).wr W420).wr W422).wr W424).wr W427).wr W429).wr W431).wr W433).wr W435).wr W437)
    obtain ⟨cq449, kq449, q449a, q449b, q449c⟩ := isOf hZ e437 f450
    obtain ⟨_, _, ⟨T449, L449, k449, n449⟩, -, X449, ⟨Lc449, hQ449, l449, y449, z449⟩, st449⟩ := X437.virtualBack hx (y := M27) (z := M27) hown (mvT hZ (ow hw 184 rfl)) (mvT hZ (ow hw 185 rfl)) (notFace_of_selects (args := #[]) (mvT hZ (ow hw 187 rfl))) (mvT hZ (ow hw 187 rfl)) (mvT hZ (ow hw 186 rfl)) (by decide) (backOf (W := 0) (au26_1 l Z a0 hw [] wINTEGER wDOUBLE wBOOLEAN wD kwD hS b300 b20 b367 yo e1_331 e3_331 e4_331 k20 r_23 r_26 r_29 k367 p4 e5_331 zl_44 zl_65 zl_87 e7_331 ((0 : Int32) + k0) (((0 : Int32) + k0) + k1) e8_331 h437 n0 O438 f439 f440 f441 f442 f443 f444 f445 f446 f447 f448 hO g385 ne380 ne368 (Ne.symm ne381) (Ne.symm ne383) (Ne.symm ne384)) hZ (ow hw 188 rfl) (ow hw 116 rfl) (by decide) (by decide)) q449a q449c (g := (mkF m 401 #[(vl p0), .second, (vl p1), .second, (vl p2), .second, (vl p3), .second, (vl p4), .second, (vi p5), (vi kk0), (vi kk1), (vi kk2), (vi yo), (vi yb0), (vi yb1), (vi yb2), (vl r_14), .second, (vl r_15), .second, (vl r_16), .second, (vl r_17), .second, (vl r_18), .second, (vl r_19), .second, (vr b20), (vr b32), (vr b300), (vr b367), (vr b387), .unset, .unset, .unset] [(.int yo), (.ref b367), (.ref b20), (.ref b300)])) rfl (by rw [hml]; rfl) (Steps.refl _) (argsL := [(.ref b20), (.ref b367), (.int yo)]) (rest := []) (lenOf pd_17 rfl) rfl (by show 2 * 0 + _ ≤ _; exact Nat.le_of_eq rfl) (hb hby at_401) (fun _ _ => ⟨rfl, e437, (by decide : 19 + 0 ≤ _), (by decide : 81 + 0 ≤ _)⟩)
    dsimp only [Pt.U, Pt.locs, Pt.cells, Pt.slots] at X449 l449 y449 z449 st449 hQ449
    subst y449 z449
    obtain ⟨rfl, Nq449, K449q, p449_0, p449_1⟩ := hQ449
    have N449 : Fr n0 L449 := (congrArg (Fr n0) l449).mpr (Fr.app N437 Nq449)
    have O451 : Old Z n0 T449.heap := O438.keep K449q (allS g385 all0)
    have f452 : Fld Z T449.heap b300 s9n "low" "[I" (.ref e1_331) := (f439.keep K449q (ninS ne380 nin0))
    have f453 : Fld Z T449.heap b300 s9n "shift" "[I" (.ref e3_331) := (f440.keep K449q (ninS ne380 nin0))
    have f454 : Fld Z T449.heap b300 s9n "word" "[I" (.ref e4_331) := (f441.keep K449q (ninS ne380 nin0))
    have f455 : Fld Z T449.heap b300 s9n s10n "I" (.int 1) := (f442.keep K449q (ninS ne380 nin0))
    have f456 : Arv Z T449.heap b20 k20 .int (3 : Int32) ([(.int r_23), (.int r_26), (.int r_29)]) (.int 0) := (f443.keep K449q (ninS ne368 nin0))
    have f457 : Arv Z T449.heap b387 k387 .long (6 : Int32) ([(.long (p4 ^^^ (-1 : Int64))), (.long (p4 ^^^ (-1 : Int64))), (.long (p4 ^^^ (-1 : Int64))), (.long (p4 ^^^ (-1 : Int64))), (.long (p4 ^^^ (-1 : Int64))), (.long (p4 ^^^ (-1 : Int64)))]) (.long 0) := (V437.keep K449q (ninS (Ne.symm ne410) nin0))
    have f458 : Exa Z T449.heap b387 "[J" := (((((((((((((Z387.wr W414).wr W416).wr W418).wr W420).wr W422).wr W424).wr W427).wr W429).wr W431).wr W433).wr W435).wr W437).keep K449q)
    have f459 : Arv Z T449.heap e1_331 e5_331 .int (3 : Int32) ([(.int zl_44), (.int zl_65), (.int zl_87)]) (.int 0) := (f446.keep K449q (ninS ne381 nin0))
    have f460 : Arv Z T449.heap e3_331 e7_331 .int (3 : Int32) ([(.int 0), (.int ((0 : Int32) + k0)), (.int (((0 : Int32) + k0) + k1))]) (.int 0) := (f447.keep K449q (ninS ne383 nin0))
    have f461 : Arv Z T449.heap e4_331 e8_331 .int (3 : Int32) ([(.int 0), (.int 0), (.int 0)]) (.int 0) := (f448.keep K449q (ninS ne384 nin0))
    have f463 : Exa Z T449.heap b300 s9n := (f450.keep K449q)
    obtain ⟨cq462, kq462, q462a, q462b, q462c⟩ := isOf hZ rfl f463
    obtain ⟨_, _, ⟨T462, L462, k462, n462⟩, -, X462, ⟨Lc462, hQ462, l462, y462, z462⟩, st462⟩ := X449.virtualBack hx (y := M27) (z := M27) hown (mvT hZ (ow hw 184 rfl)) (mvT hZ (ow hw 185 rfl)) (notFace_of_selects (args := #[]) (mvT hZ (ow hw 187 rfl))) (mvT hZ (ow hw 187 rfl)) (mvT hZ (ow hw 186 rfl)) (by decide) (backOf (W := 0) (au26_1 l Z a0 hw [] wINTEGER wDOUBLE wBOOLEAN wD kwD hS b300 b20 b387 yo e1_331 e3_331 e4_331 k20 r_23 r_26 r_29 k387 (p4 ^^^ (-1 : Int64)) e5_331 zl_44 zl_65 zl_87 e7_331 ((0 : Int32) + k0) (((0 : Int32) + k0) + k1) e8_331 T449.heap n0 O451 f452 f453 f454 f455 f456 f457 f458 f459 f460 f461 hO g411 ne400 ne388 (Ne.symm ne402) (Ne.symm ne406) (Ne.symm ne408)) hZ (ow hw 188 rfl) (ow hw 116 rfl) (by decide) (by decide)) q462a q462c (g := (mkF m 412 #[(vl p0), .second, (vl p1), .second, (vl p2), .second, (vl p3), .second, (vl p4), .second, (vi p5), (vi kk0), (vi kk1), (vi kk2), (vi yo), (vi yb0), (vi yb1), (vi yb2), (vl r_14), .second, (vl r_15), .second, (vl r_16), .second, (vl r_17), .second, (vl r_18), .second, (vl r_19), .second, (vr b20), (vr b32), (vr b300), (vr b367), (vr b387), .unset, .unset, .unset] [(.int yo), (.ref b387), (.ref b20), (.ref b300)])) rfl (by rw [hml]; rfl) (Steps.refl _) (argsL := [(.ref b20), (.ref b387), (.int yo)]) (rest := []) (lenOf pd_17 rfl) rfl (by show 2 * 0 + _ ≤ _; exact Nat.le_of_eq rfl) (hb hby at_412) (fun _ _ => ⟨rfl, rfl, (by decide : 19 + 0 ≤ _), (by decide : 81 + 0 ≤ _)⟩)
    dsimp only [Pt.U, Pt.locs, Pt.cells, Pt.slots] at X462 l462 y462 z462 st462 hQ462
    subst y462 z462
    obtain ⟨rfl, Nq462, K462q, p462_0, p462_1⟩ := hQ462
    have N462 : Fr n0 L462 := (congrArg (Fr n0) l462).mpr (Fr.app N449 Nq462)
    have O464 : Old Z n0 T462.heap := O451.keep K462q (allS g411 all0)
    have f465 : Fld Z T462.heap b300 s9n s10n "I" (.int 1) := (f455.keep K462q (ninS ne400 nin0))
    have f467 : Exa Z T462.heap b300 s9n := (f463.keep K462q)
    obtain ⟨cq466, kq466, q466a, q466b, q466c⟩ := isOf hZ rfl f467
    obtain ⟨_, _, ⟨T466, L466, k466, n466⟩, -, X466, ⟨Lc466, hQ466, l466, y466, z466⟩, st466⟩ := X462.virtualBack hx (y := M28) (z := M28) hown (mvT hZ (ow hw 189 rfl)) (mvT hZ (ow hw 190 rfl)) (notFace_of_selects (args := #[]) (mvT hZ (ow hw 192 rfl))) (mvT hZ (ow hw 192 rfl)) (mvT hZ (ow hw 191 rfl)) (by decide) (backOf (W := 0) (au27_1 l Z a0 hw [] wINTEGER wDOUBLE wBOOLEAN wD kwD hS b300 T462.heap n0 O464 f465) hZ (ow hw 193 rfl) (ow hw 116 rfl) (by decide) (by decide)) q466a q466c (g := (mkF m 417 #[(vl p0), .second, (vl p1), .second, (vl p2), .second, (vl p3), .second, (vl p4), .second, (vi p5), (vi kk0), (vi kk1), (vi kk2), (vi yo), (vi yb0), (vi yb1), (vi yb2), (vl r_14), .second, (vl r_15), .second, (vl r_16), .second, (vl r_17), .second, (vl r_18), .second, (vl r_19), .second, (vr b20), (vr b32), (vr b300), (vr b367), (vr b387), .unset, .unset, .unset] [(.ref b300)])) rfl (by rw [hml]; rfl) (Steps.refl _) (argsL := []) (rest := []) (lenOf pd_12 rfl) rfl (by show 2 * 0 + _ ≤ _; exact Nat.le_of_eq rfl) (hb hby at_417) (fun _ _ => ⟨rfl, rfl, (by decide : 19 + 0 ≤ _), (by decide : 81 + 0 ≤ _)⟩)
    dsimp only [Pt.U, Pt.locs, Pt.cells, Pt.slots] at X466 l466 y466 z466 st466 hQ466
    subst y466 z466
    obtain ⟨rfl, Nq466, K466q⟩ := hQ466
    have N466 : Fr n0 L466 := (congrArg (Fr n0) l466).mpr (Fr.app N462 Nq466)
    have f468 : Arv Z T462.heap b367 k367 .long (6 : Int32) ([(.long (sA yo (0 : Int32) (fld (fld (fld (0 : Int64) r_23 zl_44 (0 : Int32)) r_26 zl_65 ((0 : Int32) + k0)) r_29 zl_87 (((0 : Int32) + k0) + k1)) p4)), (.long (sA yo (1 : Int32) (fld (fld (fld (0 : Int64) r_23 zl_44 (0 : Int32)) r_26 zl_65 ((0 : Int32) + k0)) r_29 zl_87 (((0 : Int32) + k0) + k1)) p4)), (.long (sA yo (2 : Int32) (fld (fld (fld (0 : Int64) r_23 zl_44 (0 : Int32)) r_26 zl_65 ((0 : Int32) + k0)) r_29 zl_87 (((0 : Int32) + k0) + k1)) p4)), (.long (sA yo (3 : Int32) (fld (fld (fld (0 : Int64) r_23 zl_44 (0 : Int32)) r_26 zl_65 ((0 : Int32) + k0)) r_29 zl_87 (((0 : Int32) + k0) + k1)) p4)), (.long (sA yo (4 : Int32) (fld (fld (fld (0 : Int64) r_23 zl_44 (0 : Int32)) r_26 zl_65 ((0 : Int32) + k0)) r_29 zl_87 (((0 : Int32) + k0) + k1)) p4)), (.long (sA yo (5 : Int32) (fld (fld (fld (0 : Int64) r_23 zl_44 (0 : Int32)) r_26 zl_65 ((0 : Int32) + k0)) r_29 zl_87 (((0 : Int32) + k0) + k1)) p4))]) (.long 0) := (p449_1.keep K462q (ninS ne410 nin0))
    obtain ⟨_, _, ⟨T469, L469, k469, n469⟩, -, X469, ⟨Lc469, hQ469, l469, y469, z469⟩, st469⟩ := Jvm.LawKit.callS X466 hx (y := M9) hown (mvT hZ (ow hw 194 rfl)) (mvT hZ (ow hw 195 rfl)) (mvT hZ (ow hw 2 rfl)) (mvT hZ (ow hw 196 rfl)) (by decide) (backOf (W := 0) (rmSlot l Z a0 hw [] wINTEGER wDOUBLE wBOOLEAN wD kwD hS b367 b387 k367 k387 (0 : Int32) yo (1 : Int32) p4 _ _ _ _ _ _ _ _ _ _ _ _ T462.heap n0 O464 f468 p462_1 (by decide) (own_slA ⟨0, by decide⟩ hO)) hZ (ow hw 196 rfl) (ow hw 2 rfl) (by decide) (by decide)) (g := (mkF m 451 #[(vl p0), .second, (vl p1), .second, (vl p2), .second, (vl p3), .second, (vl p4), .second, (vi p5), (vi kk0), (vi kk1), (vi kk2), (vi yo), (vi yb0), (vi yb1), (vi yb2), (vl r_14), .second, (vl r_15), .second, (vl r_16), .second, (vl r_17), .second, (vl r_18), .second, (vl r_19), .second, (vr b20), (vr b32), (vr b300), (vr b367), (vr b387), (vi 1), .unset, .unset] [(.long p4), (.int 1), (.int yo), (.int 0), (.ref b387), (.ref b367)])) rfl (by rw [hml]; rfl) (argsL := [(.ref b367), (.ref b387), (.int 0), (.int yo), (.int 1), (.long p4)]) (rest := []) (lenOf pd_18 rfl) rfl (by show 2 * 0 + _ ≤ _; exact Nat.le_of_eq rfl) (hb hby at_451) (fun _ _ => ⟨rfl, K466q, (by decide : 19 + 0 ≤ _), (by decide : 81 + 0 ≤ _)⟩)
    dsimp only [Pt.U, Pt.locs, Pt.cells, Pt.slots] at X469 l469 y469 z469 st469 hQ469
    subst y469 z469
    obtain ⟨rfl, Nq469, K469q⟩ := hQ469
    have N469 : Fr n0 L469 := (congrArg (Fr n0) l469).mpr (Fr.app N466 Nq469)
    obtain ⟨_, _, ⟨T470, L470, k470, n470⟩, -, X470, ⟨Lc470, hQ470, l470, y470, z470⟩, st470⟩ := Jvm.LawKit.callS X469 hx (y := M9) hown (mvT hZ (ow hw 194 rfl)) (mvT hZ (ow hw 195 rfl)) (mvT hZ (ow hw 2 rfl)) (mvT hZ (ow hw 196 rfl)) (by decide) (backOf (W := 0) (rmSlot l Z a0 hw [] wINTEGER wDOUBLE wBOOLEAN wD kwD hS b367 b387 k367 k387 (1 : Int32) yo (1 : Int32) p4 _ _ _ _ _ _ _ _ _ _ _ _ T462.heap n0 O464 f468 p462_1 (by decide) (own_slA ⟨1, by decide⟩ hO)) hZ (ow hw 196 rfl) (ow hw 2 rfl) (by decide) (by decide)) (g := (mkF m 468 #[(vl p0), .second, (vl p1), .second, (vl p2), .second, (vl p3), .second, (vl p4), .second, (vi p5), (vi kk0), (vi kk1), (vi kk2), (vi yo), (vi yb0), (vi yb1), (vi yb2), (vl r_14), .second, (vl r_15), .second, (vl r_16), .second, (vl r_17), .second, (vl r_18), .second, (vl r_19), .second, (vr b20), (vr b32), (vr b300), (vr b367), (vr b387), (vi 1), .unset, .unset] [(.long p4), (.int 1), (.int yo), (.int 1), (.ref b387), (.ref b367)])) rfl (by rw [hml]; rfl) (argsL := [(.ref b367), (.ref b387), (.int 1), (.int yo), (.int 1), (.long p4)]) (rest := []) (lenOf pd_18 rfl) rfl (by show 2 * 0 + _ ≤ _; exact Nat.le_of_eq rfl) (hb hby at_468) (fun _ _ => ⟨rfl, K469q, (by decide : 19 + 0 ≤ _), (by decide : 81 + 0 ≤ _)⟩)
    dsimp only [Pt.U, Pt.locs, Pt.cells, Pt.slots] at X470 l470 y470 z470 st470 hQ470
    subst y470 z470
    obtain ⟨rfl, Nq470, K470q⟩ := hQ470
    have N470 : Fr n0 L470 := (congrArg (Fr n0) l470).mpr (Fr.app N469 Nq470)
    obtain ⟨_, _, ⟨T471, L471, k471, n471⟩, -, X471, ⟨Lc471, hQ471, l471, y471, z471⟩, st471⟩ := Jvm.LawKit.callS X470 hx (y := M9) hown (mvT hZ (ow hw 194 rfl)) (mvT hZ (ow hw 195 rfl)) (mvT hZ (ow hw 2 rfl)) (mvT hZ (ow hw 196 rfl)) (by decide) (backOf (W := 0) (rmSlot l Z a0 hw [] wINTEGER wDOUBLE wBOOLEAN wD kwD hS b367 b387 k367 k387 (2 : Int32) yo (1 : Int32) p4 _ _ _ _ _ _ _ _ _ _ _ _ T462.heap n0 O464 f468 p462_1 (by decide) (own_slA ⟨2, by decide⟩ hO)) hZ (ow hw 196 rfl) (ow hw 2 rfl) (by decide) (by decide)) (g := (mkF m 485 #[(vl p0), .second, (vl p1), .second, (vl p2), .second, (vl p3), .second, (vl p4), .second, (vi p5), (vi kk0), (vi kk1), (vi kk2), (vi yo), (vi yb0), (vi yb1), (vi yb2), (vl r_14), .second, (vl r_15), .second, (vl r_16), .second, (vl r_17), .second, (vl r_18), .second, (vl r_19), .second, (vr b20), (vr b32), (vr b300), (vr b367), (vr b387), (vi 1), .unset, .unset] [(.long p4), (.int 1), (.int yo), (.int 2), (.ref b387), (.ref b367)])) rfl (by rw [hml]; rfl) (argsL := [(.ref b367), (.ref b387), (.int 2), (.int yo), (.int 1), (.long p4)]) (rest := []) (lenOf pd_18 rfl) rfl (by show 2 * 0 + _ ≤ _; exact Nat.le_of_eq rfl) (hb hby at_485) (fun _ _ => ⟨rfl, K470q, (by decide : 19 + 0 ≤ _), (by decide : 81 + 0 ≤ _)⟩)
    dsimp only [Pt.U, Pt.locs, Pt.cells, Pt.slots] at X471 l471 y471 z471 st471 hQ471
    subst y471 z471
    obtain ⟨rfl, Nq471, K471q⟩ := hQ471
    have N471 : Fr n0 L471 := (congrArg (Fr n0) l471).mpr (Fr.app N470 Nq471)
    obtain ⟨_, _, ⟨T472, L472, k472, n472⟩, -, X472, ⟨Lc472, hQ472, l472, y472, z472⟩, st472⟩ := Jvm.LawKit.callS X471 hx (y := M9) hown (mvT hZ (ow hw 194 rfl)) (mvT hZ (ow hw 195 rfl)) (mvT hZ (ow hw 2 rfl)) (mvT hZ (ow hw 196 rfl)) (by decide) (backOf (W := 0) (rmSlot l Z a0 hw [] wINTEGER wDOUBLE wBOOLEAN wD kwD hS b367 b387 k367 k387 (3 : Int32) yo (1 : Int32) p4 _ _ _ _ _ _ _ _ _ _ _ _ T462.heap n0 O464 f468 p462_1 (by decide) (own_slA ⟨3, by decide⟩ hO)) hZ (ow hw 196 rfl) (ow hw 2 rfl) (by decide) (by decide)) (g := (mkF m 502 #[(vl p0), .second, (vl p1), .second, (vl p2), .second, (vl p3), .second, (vl p4), .second, (vi p5), (vi kk0), (vi kk1), (vi kk2), (vi yo), (vi yb0), (vi yb1), (vi yb2), (vl r_14), .second, (vl r_15), .second, (vl r_16), .second, (vl r_17), .second, (vl r_18), .second, (vl r_19), .second, (vr b20), (vr b32), (vr b300), (vr b367), (vr b387), (vi 1), .unset, .unset] [(.long p4), (.int 1), (.int yo), (.int 3), (.ref b387), (.ref b367)])) rfl (by rw [hml]; rfl) (argsL := [(.ref b367), (.ref b387), (.int 3), (.int yo), (.int 1), (.long p4)]) (rest := []) (lenOf pd_18 rfl) rfl (by show 2 * 0 + _ ≤ _; exact Nat.le_of_eq rfl) (hb hby at_502) (fun _ _ => ⟨rfl, K471q, (by decide : 19 + 0 ≤ _), (by decide : 81 + 0 ≤ _)⟩)
    dsimp only [Pt.U, Pt.locs, Pt.cells, Pt.slots] at X472 l472 y472 z472 st472 hQ472
    subst y472 z472
    obtain ⟨rfl, Nq472, K472q⟩ := hQ472
    have N472 : Fr n0 L472 := (congrArg (Fr n0) l472).mpr (Fr.app N471 Nq472)
    obtain ⟨_, _, ⟨T473, L473, k473, n473⟩, -, X473, ⟨Lc473, hQ473, l473, y473, z473⟩, st473⟩ := Jvm.LawKit.callS X472 hx (y := M9) hown (mvT hZ (ow hw 194 rfl)) (mvT hZ (ow hw 195 rfl)) (mvT hZ (ow hw 2 rfl)) (mvT hZ (ow hw 196 rfl)) (by decide) (backOf (W := 0) (rmSlot l Z a0 hw [] wINTEGER wDOUBLE wBOOLEAN wD kwD hS b367 b387 k367 k387 (4 : Int32) yo (1 : Int32) p4 _ _ _ _ _ _ _ _ _ _ _ _ T462.heap n0 O464 f468 p462_1 (by decide) (own_slA ⟨4, by decide⟩ hO)) hZ (ow hw 196 rfl) (ow hw 2 rfl) (by decide) (by decide)) (g := (mkF m 519 #[(vl p0), .second, (vl p1), .second, (vl p2), .second, (vl p3), .second, (vl p4), .second, (vi p5), (vi kk0), (vi kk1), (vi kk2), (vi yo), (vi yb0), (vi yb1), (vi yb2), (vl r_14), .second, (vl r_15), .second, (vl r_16), .second, (vl r_17), .second, (vl r_18), .second, (vl r_19), .second, (vr b20), (vr b32), (vr b300), (vr b367), (vr b387), (vi 1), .unset, .unset] [(.long p4), (.int 1), (.int yo), (.int 4), (.ref b387), (.ref b367)])) rfl (by rw [hml]; rfl) (argsL := [(.ref b367), (.ref b387), (.int 4), (.int yo), (.int 1), (.long p4)]) (rest := []) (lenOf pd_18 rfl) rfl (by show 2 * 0 + _ ≤ _; exact Nat.le_of_eq rfl) (hb hby at_519) (fun _ _ => ⟨rfl, K472q, (by decide : 19 + 0 ≤ _), (by decide : 81 + 0 ≤ _)⟩)
    dsimp only [Pt.U, Pt.locs, Pt.cells, Pt.slots] at X473 l473 y473 z473 st473 hQ473
    subst y473 z473
    obtain ⟨rfl, Nq473, K473q⟩ := hQ473
    have N473 : Fr n0 L473 := (congrArg (Fr n0) l473).mpr (Fr.app N472 Nq473)
    obtain ⟨_, _, ⟨T474, L474, k474, n474⟩, -, X474, ⟨Lc474, hQ474, l474, y474, z474⟩, st474⟩ := Jvm.LawKit.callS X473 hx (y := M9) hown (mvT hZ (ow hw 194 rfl)) (mvT hZ (ow hw 195 rfl)) (mvT hZ (ow hw 2 rfl)) (mvT hZ (ow hw 196 rfl)) (by decide) (backOf (W := 0) (rmSlot l Z a0 hw [] wINTEGER wDOUBLE wBOOLEAN wD kwD hS b367 b387 k367 k387 (5 : Int32) yo (1 : Int32) p4 _ _ _ _ _ _ _ _ _ _ _ _ T462.heap n0 O464 f468 p462_1 (by decide) (own_slA ⟨5, by decide⟩ hO)) hZ (ow hw 196 rfl) (ow hw 2 rfl) (by decide) (by decide)) (g := (mkF m 536 #[(vl p0), .second, (vl p1), .second, (vl p2), .second, (vl p3), .second, (vl p4), .second, (vi p5), (vi kk0), (vi kk1), (vi kk2), (vi yo), (vi yb0), (vi yb1), (vi yb2), (vl r_14), .second, (vl r_15), .second, (vl r_16), .second, (vl r_17), .second, (vl r_18), .second, (vl r_19), .second, (vr b20), (vr b32), (vr b300), (vr b367), (vr b387), (vi 1), .unset, .unset] [(.long p4), (.int 1), (.int yo), (.int 5), (.ref b387), (.ref b367)])) rfl (by rw [hml]; rfl) (argsL := [(.ref b367), (.ref b387), (.int 5), (.int yo), (.int 1), (.long p4)]) (rest := []) (lenOf pd_18 rfl) rfl (by show 2 * 0 + _ ≤ _; exact Nat.le_of_eq rfl) (hb hby at_536) (fun _ _ => ⟨rfl, K473q, (by decide : 19 + 0 ≤ _), (by decide : 81 + 0 ≤ _)⟩)
    dsimp only [Pt.U, Pt.locs, Pt.cells, Pt.slots] at X474 l474 y474 z474 st474 hQ474
    subst y474 z474
    obtain ⟨rfl, Nq474, K474q⟩ := hQ474
    have N474 : Fr n0 L474 := (congrArg (Fr n0) l474).mpr (Fr.app N473 Nq474)
    have f475 : Fld Z T462.heap b300 s9n "low" "[I" (.ref e1_331) := (f452.keep K462q (ninS ne400 nin0))
    have f476 : Fld Z T462.heap b300 s9n "mask" "[J" (.ref e2_331) := ((((((((((((((((p331_2.ext E367).ext E387).other W414 (Or.inl ne380)).other W416 (Or.inl ne380)).other W418 (Or.inl ne380)).other W420 (Or.inl ne380)).other W422 (Or.inl ne380)).other W424 (Or.inl ne380)).other W427 (Or.inl ne400)).other W429 (Or.inl ne400)).other W431 (Or.inl ne400)).other W433 (Or.inl ne400)).other W435 (Or.inl ne400)).other W437 (Or.inl ne400)).keep K449q (ninS ne380 nin0)).keep K462q (ninS ne400 nin0))
    have f477 : Fld Z T462.heap b300 s9n "shift" "[I" (.ref e3_331) := (f453.keep K462q (ninS ne400 nin0))
    have f478 : Fld Z T462.heap b300 s9n "word" "[I" (.ref e4_331) := (f454.keep K462q (ninS ne400 nin0))
    have f479 : Arv Z T462.heap e1_331 e5_331 .int (3 : Int32) ([(.int zl_44), (.int zl_65), (.int zl_87)]) (.int 0) := (f459.keep K462q (ninS ne402 nin0))
    have f480 : Arv Z T462.heap e2_331 e6_331 .long (3 : Int32) ([(.long (maskV k0)), (.long (maskV k1)), (.long (maskV k2))]) (.long 0) := ((((((((((((((((p331_11.ext E367).ext E387).other W414 ne382).other W416 ne382).other W418 ne382).other W420 ne382).other W422 ne382).other W424 ne382).other W427 ne404).other W429 ne404).other W431 ne404).other W433 ne404).other W435 ne404).other W437 ne404).keep K449q (ninS ne382 nin0)).keep K462q (ninS ne404 nin0))
    have f481 : Arv Z T462.heap e3_331 e7_331 .int (3 : Int32) ([(.int 0), (.int ((0 : Int32) + k0)), (.int (((0 : Int32) + k0) + k1))]) (.int 0) := (f460.keep K462q (ninS ne406 nin0))
    have f482 : Arv Z T462.heap e4_331 e8_331 .int (3 : Int32) ([(.int 0), (.int 0), (.int 0)]) (.int 0) := (f461.keep K462q (ninS ne408 nin0))
    obtain ⟨cq483, kq483, q483a, q483b, q483c⟩ := isOf hZ K474q f467
    obtain ⟨_, _, ⟨T483, L483, k483, n483⟩, -, X483, ⟨Lc483, hQ483, l483, y483, z483⟩, st483⟩ := X474.virtualBack hx (y := M29) (z := M29) hown (mvT hZ (ow hw 197 rfl)) (mvT hZ (ow hw 198 rfl)) (notFace_of_selects (args := #[]) (mvT hZ (ow hw 200 rfl))) (mvT hZ (ow hw 200 rfl)) (mvT hZ (ow hw 199 rfl)) (by decide) (backOf (W := 0) (au29_3 l Z a0 hw [] wINTEGER wDOUBLE wBOOLEAN wD kwD hS b300 b367 yo e1_331 e2_331 e3_331 e4_331 k367 (fld (fld (fld (0 : Int64) r_23 zl_44 (0 : Int32)) r_26 zl_65 ((0 : Int32) + k0)) r_29 zl_87 (((0 : Int32) + k0) + k1)) p4 e5_331 zl_44 zl_65 zl_87 e6_331 (maskV k0) (maskV k1) (maskV k2) e7_331 ((0 : Int32) + k0) (((0 : Int32) + k0) + k1) e8_331 T462.heap n0 O464 f475 f476 f477 f478 f468 f479 f480 f481 f482 hO) hZ (ow hw 201 rfl) (ow hw 116 rfl) (by decide) (by decide)) q483a q483c (g := (mkF m 556 #[(vl p0), .second, (vl p1), .second, (vl p2), .second, (vl p3), .second, (vl p4), .second, (vi p5), (vi kk0), (vi kk1), (vi kk2), (vi yo), (vi yb0), (vi yb1), (vi yb2), (vl r_14), .second, (vl r_15), .second, (vl r_16), .second, (vl r_17), .second, (vl r_18), .second, (vl r_19), .second, (vr b20), (vr b32), (vr b300), (vr b367), (vr b387), (vi 1), (vi 1), .unset] [(.int 0), (.int yo), (.ref b367), (.ref b300)])) rfl (by rw [hml]; rfl) (Steps.refl _) (argsL := [(.ref b367), (.int yo), (.int 0)]) (rest := []) (lenOf pd_19 rfl) rfl (by show 2 * 0 + _ ≤ _; exact Nat.le_of_eq rfl) (hb hby at_556) (fun _ _ => ⟨rfl, K474q, (by decide : 19 + 0 ≤ _), (by decide : 81 + 0 ≤ _)⟩)
    dsimp only [Pt.U, Pt.locs, Pt.cells, Pt.slots] at X483 l483 y483 z483 st483 hQ483
    subst y483 z483
    obtain ⟨rfl, Nq483, K483q⟩ := hQ483
    have N483 : Fr n0 L483 := (congrArg (Fr n0) l483).mpr (Fr.app N474 Nq483)
    have f484 : Arv Z T462.heap b20 k20 .int (3 : Int32) ([(.int r_23), (.int r_26), (.int r_29)]) (.int 0) := (f456.keep K462q (ninS ne388 nin0))
    obtain ⟨cl485, Ar485, qc485, Sz485, Nn485, Ha485, Gg485⟩ := (id f484)
    have hin485 : ¬ ((0 : Int32) < 0 ∨ cl485.slots.size ≤ ((0 : Int32)).toNatClampNeg) := inb_of Sz485 ⟨by decide, by decide⟩
    have hat485 : cl485.slots[((0 : Int32)).toNatClampNeg]? = some (.int r_23) := Ha485.at hin485 rfl
    obtain ⟨cq486, kq486, q486a, q486b, q486c⟩ := isOf hZ K483q f467
    obtain ⟨_, _, ⟨T486, L486, k486, n486⟩, -, X486, ⟨Lc486, hQ486, l486, y486, z486⟩, st486⟩ := X483.virtualBack hx (y := M29) (z := M29) hown (mvT hZ (ow hw 197 rfl)) (mvT hZ (ow hw 198 rfl)) (notFace_of_selects (args := #[]) (mvT hZ (ow hw 200 rfl))) (mvT hZ (ow hw 200 rfl)) (mvT hZ (ow hw 199 rfl)) (by decide) (backOf (W := 0) (au29_4 l Z a0 hw [] wINTEGER wDOUBLE wBOOLEAN wD kwD hS b300 b367 yo e1_331 e2_331 e3_331 e4_331 k367 (fld (fld (fld (0 : Int64) r_23 zl_44 (0 : Int32)) r_26 zl_65 ((0 : Int32) + k0)) r_29 zl_87 (((0 : Int32) + k0) + k1)) p4 e5_331 zl_44 zl_65 zl_87 e6_331 (maskV k0) (maskV k1) (maskV k2) e7_331 ((0 : Int32) + k0) (((0 : Int32) + k0) + k1) e8_331 T462.heap n0 O464 f475 f476 f477 f478 f468 f479 f480 f481 f482 hO) hZ (ow hw 201 rfl) (ow hw 116 rfl) (by decide) (by decide)) q486a q486c (g := (mkF m 573 #[(vl p0), .second, (vl p1), .second, (vl p2), .second, (vl p3), .second, (vl p4), .second, (vi p5), (vi kk0), (vi kk1), (vi kk2), (vi yo), (vi yb0), (vi yb1), (vi yb2), (vl r_14), .second, (vl r_15), .second, (vl r_16), .second, (vl r_17), .second, (vl r_18), .second, (vl r_19), .second, (vr b20), (vr b32), (vr b300), (vr b367), (vr b387), (vi 1), (vi 1), .unset] [(.int 1), (.int yo), (.ref b367), (.ref b300)])) rfl (by rw [hml]; rfl) (Steps.refl _) (argsL := [(.ref b367), (.int yo), (.int 1)]) (rest := []) (lenOf pd_19 rfl) rfl (by show 2 * 0 + _ ≤ _; exact Nat.le_of_eq rfl) (hb hby at_573) (fun _ _ => ⟨rfl, K483q, (by decide : 19 + 0 ≤ _), (by decide : 81 + 0 ≤ _)⟩)
    dsimp only [Pt.U, Pt.locs, Pt.cells, Pt.slots] at X486 l486 y486 z486 st486 hQ486
    subst y486 z486
    obtain ⟨rfl, Nq486, K486q⟩ := hQ486
    have N486 : Fr n0 L486 := (congrArg (Fr n0) l486).mpr (Fr.app N483 Nq486)
    obtain ⟨cl487, Ar487, qc487, Sz487, Nn487, Ha487, Gg487⟩ := (id f484)
    have hin487 : ¬ ((1 : Int32) < 0 ∨ cl487.slots.size ≤ ((1 : Int32)).toNatClampNeg) := inb_of Sz487 ⟨by decide, by decide⟩
    have hat487 : cl487.slots[((1 : Int32)).toNatClampNeg]? = some (.int r_26) := Ha487.at hin487 rfl
    obtain ⟨cq488, kq488, q488a, q488b, q488c⟩ := isOf hZ K486q f467
    obtain ⟨_, _, ⟨T488, L488, k488, n488⟩, -, X488, ⟨Lc488, hQ488, l488, y488, z488⟩, st488⟩ := X486.virtualBack hx (y := M29) (z := M29) hown (mvT hZ (ow hw 197 rfl)) (mvT hZ (ow hw 198 rfl)) (notFace_of_selects (args := #[]) (mvT hZ (ow hw 200 rfl))) (mvT hZ (ow hw 200 rfl)) (mvT hZ (ow hw 199 rfl)) (by decide) (backOf (W := 0) (au29_5 l Z a0 hw [] wINTEGER wDOUBLE wBOOLEAN wD kwD hS b300 b367 yo e1_331 e2_331 e3_331 e4_331 k367 (fld (fld (fld (0 : Int64) r_23 zl_44 (0 : Int32)) r_26 zl_65 ((0 : Int32) + k0)) r_29 zl_87 (((0 : Int32) + k0) + k1)) p4 e5_331 zl_44 zl_65 zl_87 e6_331 (maskV k0) (maskV k1) (maskV k2) e7_331 ((0 : Int32) + k0) (((0 : Int32) + k0) + k1) e8_331 T462.heap n0 O464 f475 f476 f477 f478 f468 f479 f480 f481 f482 hO) hZ (ow hw 201 rfl) (ow hw 116 rfl) (by decide) (by decide)) q488a q488c (g := (mkF m 590 #[(vl p0), .second, (vl p1), .second, (vl p2), .second, (vl p3), .second, (vl p4), .second, (vi p5), (vi kk0), (vi kk1), (vi kk2), (vi yo), (vi yb0), (vi yb1), (vi yb2), (vl r_14), .second, (vl r_15), .second, (vl r_16), .second, (vl r_17), .second, (vl r_18), .second, (vl r_19), .second, (vr b20), (vr b32), (vr b300), (vr b367), (vr b387), (vi 1), (vi 1), .unset] [(.int 2), (.int yo), (.ref b367), (.ref b300)])) rfl (by rw [hml]; rfl) (Steps.refl _) (argsL := [(.ref b367), (.int yo), (.int 2)]) (rest := []) (lenOf pd_19 rfl) rfl (by show 2 * 0 + _ ≤ _; exact Nat.le_of_eq rfl) (hb hby at_590) (fun _ _ => ⟨rfl, K486q, (by decide : 19 + 0 ≤ _), (by decide : 81 + 0 ≤ _)⟩)
    dsimp only [Pt.U, Pt.locs, Pt.cells, Pt.slots] at X488 l488 y488 z488 st488 hQ488
    subst y488 z488
    obtain ⟨rfl, Nq488, K488q⟩ := hQ488
    have N488 : Fr n0 L488 := (congrArg (Fr n0) l488).mpr (Fr.app N486 Nq488)
    obtain ⟨cl489, Ar489, qc489, Sz489, Nn489, Ha489, Gg489⟩ := (id f484)
    have hin489 : ¬ ((2 : Int32) < 0 ∨ cl489.slots.size ≤ ((2 : Int32)).toNatClampNeg) := inb_of Sz489 ⟨by decide, by decide⟩
    have hat489 : cl489.slots[((2 : Int32)).toNatClampNeg]? = some (.int r_29) := Ha489.at hin489 rfl
    have hk490 : _ ≤ T462.heap.size := (Nat.le_trans (Nat.le_trans (Nat.le_trans (Nat.le_trans (Nat.le_trans (Nat.le_trans (Nat.le_trans (Nat.le_trans (Nat.le_trans (Nat.le_trans (Nat.le_trans (Nat.le_trans (Nat.le_trans (Nat.le_trans (Nat.le_trans (Nat.le_trans (Nat.le_trans (Nat.le_trans (Nat.le_trans (Nat.le_trans hk84 K87q.1) K106q.1) E300.1) K331q.1) E367.1) E387.1) (Nat.le_of_eq W414.size.symm)) (Nat.le_of_eq W416.size.symm)) (Nat.le_of_eq W418.size.symm)) (Nat.le_of_eq W420.size.symm)) (Nat.le_of_eq W422.size.symm)) (Nat.le_of_eq W424.size.symm)) (Nat.le_of_eq W427.size.symm)) (Nat.le_of_eq W429.size.symm)) (Nat.le_of_eq W431.size.symm)) (Nat.le_of_eq W433.size.symm)) (Nat.le_of_eq W435.size.symm)) (Nat.le_of_eq W437.size.symm)) K449q.1) K462q.1)
    obtain ⟨fs, hr, hrun, hended, hRW⟩ := X488.leaveW hS84 (by rw [K488q]; exact hk490) (v := some (.int 1)) (fun h => by rw [hret0] at h; cases h)
    refine ⟨_, _, pre108 _ ?_, hrun, hended, _, _, rfl, ?_, hRW.1, hRW.2.1, hRW.2.2.1, hRW.2.2.2.mono (by decide) (by decide)⟩
    · skip
      show Steps p.tables e below (T106.setTop (mkF m 274 #[(vl p0), .second, (vl p1), .second, (vl p2), .second, (vl p3), .second, (vl p4), .second, (vi p5), (vi kk0), (vi kk1), (vi kk2), (vi yo), (vi yb0), (vi yb1), (vi yb2), (vl r_14), .second, (vl r_15), .second, (vl r_16), .second, (vl r_17), .second, (vl r_18), .second, (vl r_19), .second, (vr b20), (vr b32), .unset, .unset, .unset, .unset, .unset, .unset] [])) _
      refine st300 _ ?_
      refine XS.dup X300.here hx rfl (hb hby at_277) rfl rfl ?_
      refine XS.aload X300.here hx rfl (hb hby at_278) rfl rfl ?_
      refine st331.trans ?_
      refine XS.astore X331.here hx rfl (hb hby at_283) rfl rfl (l' := #[(vl p0), .second, (vl p1), .second, (vl p2), .second, (vl p3), .second, (vl p4), .second, (vi p5), (vi kk0), (vi kk1), (vi kk2), (vi yo), (vi yb0), (vi yb1), (vi yb2), (vl r_14), .second, (vl r_15), .second, (vl r_16), .second, (vl r_17), .second, (vl r_18), .second, (vl r_19), .second, (vr b20), (vr b32), (vr b300), .unset, .unset, .unset, .unset, .unset]) rfl ?_
      refine XS.bipush X331.here hx rfl (hb hby at_285) ?_
      refine st367 _ ?_
      refine XS.astore X367.here hx rfl (hb hby at_289) rfl rfl (l' := #[(vl p0), .second, (vl p1), .second, (vl p2), .second, (vl p3), .second, (vl p4), .second, (vi p5), (vi kk0), (vi kk1), (vi kk2), (vi yo), (vi yb0), (vi yb1), (vi yb2), (vl r_14), .second, (vl r_15), .second, (vl r_16), .second, (vl r_17), .second, (vl r_18), .second, (vl r_19), .second, (vr b20), (vr b32), (vr b300), (vr b367), .unset, .unset, .unset, .unset]) rfl ?_
      refine XS.bipush X367.here hx rfl (hb hby at_291) ?_
      refine st387 _ ?_
      refine XS.astore X387.here hx rfl (hb hby at_295) rfl rfl (l' := #[(vl p0), .second, (vl p1), .second, (vl p2), .second, (vl p3), .second, (vl p4), .second, (vi p5), (vi kk0), (vi kk1), (vi kk2), (vi yo), (vi yb0), (vi yb1), (vi yb2), (vl r_14), .second, (vl r_15), .second, (vl r_16), .second, (vl r_17), .second, (vl r_18), .second, (vl r_19), .second, (vr b20), (vr b32), (vr b300), (vr b367), (vr b387), .unset, .unset, .unset]) rfl ?_
      refine XS.aload X387.here hx rfl (hb hby at_297) rfl rfl ?_
      refine XS.iconst X387.here hx rfl (hb hby at_299) ?_
      refine XS.lload X387.here hx rfl (hb hby at_300) rfl ?_
      show Steps p.tables e below (T387.setTop (mkF m 302 #[(vl p0), .second, (vl p1), .second, (vl p2), .second, (vl p3), .second, (vl p4), .second, (vi p5), (vi kk0), (vi kk1), (vi kk2), (vi yo), (vi yb0), (vi yb1), (vi yb2), (vl r_14), .second, (vl r_15), .second, (vl r_16), .second, (vl r_17), .second, (vl r_18), .second, (vl r_19), .second, (vr b20), (vr b32), (vr b300), (vr b367), (vr b387), .unset, .unset, .unset] [(.long p4), (.int 0), (.ref b367)])) _
      refine st414 _ ?_
      refine XS.aload X414.here hx rfl (hb hby at_303) rfl rfl ?_
      refine XS.iconst X414.here hx rfl (hb hby at_305) ?_
      refine XS.lload X414.here hx rfl (hb hby at_306) rfl ?_
      refine st416 _ ?_
      refine XS.aload X416.here hx rfl (hb hby at_309) rfl rfl ?_
      refine XS.iconst X416.here hx rfl (hb hby at_311) ?_
      refine XS.lload X416.here hx rfl (hb hby at_312) rfl ?_
      refine st418 _ ?_
      refine XS.aload X418.here hx rfl (hb hby at_315) rfl rfl ?_
      refine XS.iconst X418.here hx rfl (hb hby at_317) ?_
      refine XS.lload X418.here hx rfl (hb hby at_318) rfl ?_
      refine st420 _ ?_
      refine XS.aload X420.here hx rfl (hb hby at_321) rfl rfl ?_
      show Steps p.tables e below (T420.setTop (mkF m 323 #[(vl p0), .second, (vl p1), .second, (vl p2), .second, (vl p3), .second, (vl p4), .second, (vi p5), (vi kk0), (vi kk1), (vi kk2), (vi yo), (vi yb0), (vi yb1), (vi yb2), (vl r_14), .second, (vl r_15), .second, (vl r_16), .second, (vl r_17), .second, (vl r_18), .second, (vl r_19), .second, (vr b20), (vr b32), (vr b300), (vr b367), (vr b387), .unset, .unset, .unset] [(.ref b367)])) _
      refine XS.iconst X420.here hx rfl (hb hby at_323) ?_
      refine XS.lload X420.here hx rfl (hb hby at_324) rfl ?_
      refine st422 _ ?_
      refine XS.aload X422.here hx rfl (hb hby at_327) rfl rfl ?_
      refine XS.iconst X422.here hx rfl (hb hby at_329) ?_
      refine XS.lload X422.here hx rfl (hb hby at_330) rfl ?_
      refine st424 _ ?_
      refine XS.aload X424.here hx rfl (hb hby at_333) rfl rfl ?_
      refine XS.iconst X424.here hx rfl (hb hby at_335) ?_
      refine XS.lload X424.here hx rfl (hb hby at_336) rfl ?_
      refine X424.ldc2Long hx hown (mvT hZ (ow hw 183 rfl)) (g := (mkF m 338 #[(vl p0), .second, (vl p1), .second, (vl p2), .second, (vl p3), .second, (vl p4), .second, (vi p5), (vi kk0), (vi kk1), (vi kk2), (vi yo), (vi yb0), (vi yb1), (vi yb2), (vl r_14), .second, (vl r_15), .second, (vl r_16), .second, (vl r_17), .second, (vl r_18), .second, (vl r_19), .second, (vr b20), (vr b32), (vr b300), (vr b367), (vr b387), .unset, .unset, .unset] [(.long p4), (.int 0), (.ref b387)])) rfl (hb hby at_338) _ ?_
      refine XS.lxor X424.here hx rfl (hb hby at_341) rfl ?_
      refine st427 _ ?_
      refine XS.aload X427.here hx rfl (hb hby at_343) rfl rfl ?_
      show Steps p.tables e below (T427.setTop (mkF m 345 #[(vl p0), .second, (vl p1), .second, (vl p2), .second, (vl p3), .second, (vl p4), .second, (vi p5), (vi kk0), (vi kk1), (vi kk2), (vi yo), (vi yb0), (vi yb1), (vi yb2), (vl r_14), .second, (vl r_15), .second, (vl r_16), .second, (vl r_17), .second, (vl r_18), .second, (vl r_19), .second, (vr b20), (vr b32), (vr b300), (vr b367), (vr b387), .unset, .unset, .unset] [(.ref b387)])) _
      refine XS.iconst X427.here hx rfl (hb hby at_345) ?_
      refine XS.lload X427.here hx rfl (hb hby at_346) rfl ?_
      refine X427.ldc2Long hx hown (mvT hZ (ow hw 183 rfl)) (g := (mkF m 348 #[(vl p0), .second, (vl p1), .second, (vl p2), .second, (vl p3), .second, (vl p4), .second, (vi p5), (vi kk0), (vi kk1), (vi kk2), (vi yo), (vi yb0), (vi yb1), (vi yb2), (vl r_14), .second, (vl r_15), .second, (vl r_16), .second, (vl r_17), .second, (vl r_18), .second, (vl r_19), .second, (vr b20), (vr b32), (vr b300), (vr b367), (vr b387), .unset, .unset, .unset] [(.long p4), (.int 1), (.ref b387)])) rfl (hb hby at_348) _ ?_
      refine XS.lxor X427.here hx rfl (hb hby at_351) rfl ?_
      refine st429 _ ?_
      refine XS.aload X429.here hx rfl (hb hby at_353) rfl rfl ?_
      refine XS.iconst X429.here hx rfl (hb hby at_355) ?_
      refine XS.lload X429.here hx rfl (hb hby at_356) rfl ?_
      refine X429.ldc2Long hx hown (mvT hZ (ow hw 183 rfl)) (g := (mkF m 358 #[(vl p0), .second, (vl p1), .second, (vl p2), .second, (vl p3), .second, (vl p4), .second, (vi p5), (vi kk0), (vi kk1), (vi kk2), (vi yo), (vi yb0), (vi yb1), (vi yb2), (vl r_14), .second, (vl r_15), .second, (vl r_16), .second, (vl r_17), .second, (vl r_18), .second, (vl r_19), .second, (vr b20), (vr b32), (vr b300), (vr b367), (vr b387), .unset, .unset, .unset] [(.long p4), (.int 2), (.ref b387)])) rfl (hb hby at_358) _ ?_
      refine XS.lxor X429.here hx rfl (hb hby at_361) rfl ?_
      refine st431 _ ?_
      refine XS.aload X431.here hx rfl (hb hby at_363) rfl rfl ?_
      refine XS.iconst X431.here hx rfl (hb hby at_365) ?_
      refine XS.lload X431.here hx rfl (hb hby at_366) rfl ?_
      show Steps p.tables e below (T431.setTop (mkF m 368 #[(vl p0), .second, (vl p1), .second, (vl p2), .second, (vl p3), .second, (vl p4), .second, (vi p5), (vi kk0), (vi kk1), (vi kk2), (vi yo), (vi yb0), (vi yb1), (vi yb2), (vl r_14), .second, (vl r_15), .second, (vl r_16), .second, (vl r_17), .second, (vl r_18), .second, (vl r_19), .second, (vr b20), (vr b32), (vr b300), (vr b367), (vr b387), .unset, .unset, .unset] [(.long p4), (.int 3), (.ref b387)])) _
      refine X431.ldc2Long hx hown (mvT hZ (ow hw 183 rfl)) (g := (mkF m 368 #[(vl p0), .second, (vl p1), .second, (vl p2), .second, (vl p3), .second, (vl p4), .second, (vi p5), (vi kk0), (vi kk1), (vi kk2), (vi yo), (vi yb0), (vi yb1), (vi yb2), (vl r_14), .second, (vl r_15), .second, (vl r_16), .second, (vl r_17), .second, (vl r_18), .second, (vl r_19), .second, (vr b20), (vr b32), (vr b300), (vr b367), (vr b387), .unset, .unset, .unset] [(.long p4), (.int 3), (.ref b387)])) rfl (hb hby at_368) _ ?_
      refine XS.lxor X431.here hx rfl (hb hby at_371) rfl ?_
      refine st433 _ ?_
      refine XS.aload X433.here hx rfl (hb hby at_373) rfl rfl ?_
      refine XS.iconst X433.here hx rfl (hb hby at_375) ?_
      refine XS.lload X433.here hx rfl (hb hby at_376) rfl ?_
      refine X433.ldc2Long hx hown (mvT hZ (ow hw 183 rfl)) (g := (mkF m 378 #[(vl p0), .second, (vl p1), .second, (vl p2), .second, (vl p3), .second, (vl p4), .second, (vi p5), (vi kk0), (vi kk1), (vi kk2), (vi yo), (vi yb0), (vi yb1), (vi yb2), (vl r_14), .second, (vl r_15), .second, (vl r_16), .second, (vl r_17), .second, (vl r_18), .second, (vl r_19), .second, (vr b20), (vr b32), (vr b300), (vr b367), (vr b387), .unset, .unset, .unset] [(.long p4), (.int 4), (.ref b387)])) rfl (hb hby at_378) _ ?_
      refine XS.lxor X433.here hx rfl (hb hby at_381) rfl ?_
      refine st435 _ ?_
      refine XS.aload X435.here hx rfl (hb hby at_383) rfl rfl ?_
      refine XS.iconst X435.here hx rfl (hb hby at_385) ?_
      refine XS.lload X435.here hx rfl (hb hby at_386) rfl ?_
      refine X435.ldc2Long hx hown (mvT hZ (ow hw 183 rfl)) (g := (mkF m 388 #[(vl p0), .second, (vl p1), .second, (vl p2), .second, (vl p3), .second, (vl p4), .second, (vi p5), (vi kk0), (vi kk1), (vi kk2), (vi yo), (vi yb0), (vi yb1), (vi yb2), (vl r_14), .second, (vl r_15), .second, (vl r_16), .second, (vl r_17), .second, (vl r_18), .second, (vl r_19), .second, (vr b20), (vr b32), (vr b300), (vr b367), (vr b387), .unset, .unset, .unset] [(.long p4), (.int 5), (.ref b387)])) rfl (hb hby at_388) _ ?_
      refine XS.lxor X435.here hx rfl (hb hby at_391) rfl ?_
      show Steps p.tables e below (T435.setTop (mkF m 392 #[(vl p0), .second, (vl p1), .second, (vl p2), .second, (vl p3), .second, (vl p4), .second, (vi p5), (vi kk0), (vi kk1), (vi kk2), (vi yo), (vi yb0), (vi yb1), (vi yb2), (vl r_14), .second, (vl r_15), .second, (vl r_16), .second, (vl r_17), .second, (vl r_18), .second, (vl r_19), .second, (vr b20), (vr b32), (vr b300), (vr b367), (vr b387), .unset, .unset, .unset] [(.long (p4 ^^^ (-1 : Int64))), (.int 5), (.ref b387)])) _
      refine st437 _ ?_
      refine XS.aload X437.here hx rfl (hb hby at_393) rfl rfl ?_
      refine XS.aload X437.here hx rfl (hb hby at_395) rfl rfl ?_
      refine XS.aload X437.here hx rfl (hb hby at_397) rfl rfl ?_
      refine XS.iload X437.here hx rfl (hb hby at_399) rfl ?_
      refine st449.trans ?_
      refine XS.aload X449.here hx rfl (hb hby at_404) rfl rfl ?_
      refine XS.aload X449.here hx rfl (hb hby at_406) rfl rfl ?_
      refine XS.aload X449.here hx rfl (hb hby at_408) rfl rfl ?_
      refine XS.iload X449.here hx rfl (hb hby at_410) rfl ?_
      refine st462.trans ?_
      refine XS.aload X462.here hx rfl (hb hby at_415) rfl rfl ?_
      refine st466.trans ?_
      refine XS.istore X466.here hx rfl (hb hby at_420) rfl (l' := #[(vl p0), .second, (vl p1), .second, (vl p2), .second, (vl p3), .second, (vl p4), .second, (vi p5), (vi kk0), (vi kk1), (vi kk2), (vi yo), (vi yb0), (vi yb1), (vi yb2), (vl r_14), .second, (vl r_15), .second, (vl r_16), .second, (vl r_17), .second, (vl r_18), .second, (vl r_19), .second, (vr b20), (vr b32), (vr b300), (vr b367), (vr b387), (vi 1), .unset, .unset]) rfl ?_
      show Steps p.tables e below (T466.setTop (mkF m 422 #[(vl p0), .second, (vl p1), .second, (vl p2), .second, (vl p3), .second, (vl p4), .second, (vi p5), (vi kk0), (vi kk1), (vi kk2), (vi yo), (vi yb0), (vi yb1), (vi yb2), (vl r_14), .second, (vl r_15), .second, (vl r_16), .second, (vl r_17), .second, (vl r_18), .second, (vl r_19), .second, (vr b20), (vr b32), (vr b300), (vr b367), (vr b387), (vi 1), .unset, .unset] [])) _
      refine XS.iload X466.here hx rfl (hb hby at_422) rfl ?_
      refine XS.iconst X466.here hx rfl (hb hby at_424) ?_
      refine XS.icmpNo X466.here hx rfl (hb hby at_425) rfl (flt (by decide : ¬ ((1 : Int32) < (1 : Int32)))).1 ?_
      refine XS.iload X466.here hx rfl (hb hby at_428) rfl ?_
      refine XS.iload X466.here hx rfl (hb hby at_430) rfl ?_
      refine XS.iadd X466.here hx rfl (hb hby at_432) rfl ?_
      refine XS.bipush X466.here hx rfl (hb hby at_433) ?_
      refine XS.icmpYes X466.here hx rfl (pc0 := 435) (pc' := 440) rfl (hb hby at_435) rfl (flt (hle61 : ¬ ((6 : Int32) < (yo + (1 : Int32))))).2.2.2 (by decide) (by decide) ?_
      refine XS.aload X466.here hx rfl (hb hby at_440) rfl rfl ?_
      refine XS.aload X466.here hx rfl (hb hby at_442) rfl rfl ?_
      refine XS.iconst X466.here hx rfl (hb hby at_444) ?_
      refine XS.iload X466.here hx rfl (hb hby at_445) rfl ?_
      refine XS.iload X466.here hx rfl (hb hby at_447) rfl ?_
      refine XS.lload X466.here hx rfl (hb hby at_449) rfl ?_
      show Steps p.tables e below (T466.setTop (mkF m 451 #[(vl p0), .second, (vl p1), .second, (vl p2), .second, (vl p3), .second, (vl p4), .second, (vi p5), (vi kk0), (vi kk1), (vi kk2), (vi yo), (vi yb0), (vi yb1), (vi yb2), (vl r_14), .second, (vl r_15), .second, (vl r_16), .second, (vl r_17), .second, (vl r_18), .second, (vl r_19), .second, (vr b20), (vr b32), (vr b300), (vr b367), (vr b387), (vi 1), .unset, .unset] [(.long p4), (.int 1), (.int yo), (.int 0), (.ref b387), (.ref b367)])) _
      refine st469 _ ?_
      refine XS.ifNo X469.here hx rfl (hb hby at_454) rfl ((if0 _ _).trans (feq (by decide : ¬ ((1 : Int32) = (0 : Int32)))).1) ?_
      refine XS.aload X469.here hx rfl (hb hby at_457) rfl rfl ?_
      refine XS.aload X469.here hx rfl (hb hby at_459) rfl rfl ?_
      refine XS.iconst X469.here hx rfl (hb hby at_461) ?_
      refine XS.iload X469.here hx rfl (hb hby at_462) rfl ?_
      refine XS.iload X469.here hx rfl (hb hby at_464) rfl ?_
      refine XS.lload X469.here hx rfl (hb hby at_466) rfl ?_
      refine st470 _ ?_
      refine XS.ifNo X470.here hx rfl (hb hby at_471) rfl ((if0 _ _).trans (feq (by decide : ¬ ((1 : Int32) = (0 : Int32)))).1) ?_
      refine XS.aload X470.here hx rfl (hb hby at_474) rfl rfl ?_
      refine XS.aload X470.here hx rfl (hb hby at_476) rfl rfl ?_
      refine XS.iconst X470.here hx rfl (hb hby at_478) ?_
      refine XS.iload X470.here hx rfl (hb hby at_479) rfl ?_
      show Steps p.tables e below (T470.setTop (mkF m 481 #[(vl p0), .second, (vl p1), .second, (vl p2), .second, (vl p3), .second, (vl p4), .second, (vi p5), (vi kk0), (vi kk1), (vi kk2), (vi yo), (vi yb0), (vi yb1), (vi yb2), (vl r_14), .second, (vl r_15), .second, (vl r_16), .second, (vl r_17), .second, (vl r_18), .second, (vl r_19), .second, (vr b20), (vr b32), (vr b300), (vr b367), (vr b387), (vi 1), .unset, .unset] [(.int yo), (.int 2), (.ref b387), (.ref b367)])) _
      refine XS.iload X470.here hx rfl (hb hby at_481) rfl ?_
      refine XS.lload X470.here hx rfl (hb hby at_483) rfl ?_
      refine st471 _ ?_
      refine XS.ifNo X471.here hx rfl (hb hby at_488) rfl ((if0 _ _).trans (feq (by decide : ¬ ((1 : Int32) = (0 : Int32)))).1) ?_
      refine XS.aload X471.here hx rfl (hb hby at_491) rfl rfl ?_
      refine XS.aload X471.here hx rfl (hb hby at_493) rfl rfl ?_
      refine XS.iconst X471.here hx rfl (hb hby at_495) ?_
      refine XS.iload X471.here hx rfl (hb hby at_496) rfl ?_
      refine XS.iload X471.here hx rfl (hb hby at_498) rfl ?_
      refine XS.lload X471.here hx rfl (hb hby at_500) rfl ?_
      refine st472 _ ?_
      refine XS.ifNo X472.here hx rfl (hb hby at_505) rfl ((if0 _ _).trans (feq (by decide : ¬ ((1 : Int32) = (0 : Int32)))).1) ?_
      refine XS.aload X472.here hx rfl (hb hby at_508) rfl rfl ?_
      refine XS.aload X472.here hx rfl (hb hby at_510) rfl rfl ?_
      show Steps p.tables e below (T472.setTop (mkF m 512 #[(vl p0), .second, (vl p1), .second, (vl p2), .second, (vl p3), .second, (vl p4), .second, (vi p5), (vi kk0), (vi kk1), (vi kk2), (vi yo), (vi yb0), (vi yb1), (vi yb2), (vl r_14), .second, (vl r_15), .second, (vl r_16), .second, (vl r_17), .second, (vl r_18), .second, (vl r_19), .second, (vr b20), (vr b32), (vr b300), (vr b367), (vr b387), (vi 1), .unset, .unset] [(.ref b387), (.ref b367)])) _
      refine XS.iconst X472.here hx rfl (hb hby at_512) ?_
      refine XS.iload X472.here hx rfl (hb hby at_513) rfl ?_
      refine XS.iload X472.here hx rfl (hb hby at_515) rfl ?_
      refine XS.lload X472.here hx rfl (hb hby at_517) rfl ?_
      refine st473 _ ?_
      refine XS.ifNo X473.here hx rfl (hb hby at_522) rfl ((if0 _ _).trans (feq (by decide : ¬ ((1 : Int32) = (0 : Int32)))).1) ?_
      refine XS.aload X473.here hx rfl (hb hby at_525) rfl rfl ?_
      refine XS.aload X473.here hx rfl (hb hby at_527) rfl rfl ?_
      refine XS.iconst X473.here hx rfl (hb hby at_529) ?_
      refine XS.iload X473.here hx rfl (hb hby at_530) rfl ?_
      refine XS.iload X473.here hx rfl (hb hby at_532) rfl ?_
      refine XS.lload X473.here hx rfl (hb hby at_534) rfl ?_
      refine st474 _ ?_
      refine XS.ifNo X474.here hx rfl (hb hby at_539) rfl ((if0 _ _).trans (feq (by decide : ¬ ((1 : Int32) = (0 : Int32)))).1) ?_
      show Steps p.tables e below (T474.setTop (mkF m 542 #[(vl p0), .second, (vl p1), .second, (vl p2), .second, (vl p3), .second, (vl p4), .second, (vi p5), (vi kk0), (vi kk1), (vi kk2), (vi yo), (vi yb0), (vi yb1), (vi yb2), (vl r_14), .second, (vl r_15), .second, (vl r_16), .second, (vl r_17), .second, (vl r_18), .second, (vl r_19), .second, (vr b20), (vr b32), (vr b300), (vr b367), (vr b387), (vi 1), .unset, .unset] [])) _
      refine XS.iconst X474.here hx rfl (hb hby at_542) ?_
      refine XS.goto X474.here hx rfl (pc0 := 543) (pc' := 547) rfl (hb hby at_543) (by decide) (by decide) ?_
      refine XS.istore X474.here hx rfl (hb hby at_547) rfl (l' := #[(vl p0), .second, (vl p1), .second, (vl p2), .second, (vl p3), .second, (vl p4), .second, (vi p5), (vi kk0), (vi kk1), (vi kk2), (vi yo), (vi yb0), (vi yb1), (vi yb2), (vl r_14), .second, (vl r_15), .second, (vl r_16), .second, (vl r_17), .second, (vl r_18), .second, (vl r_19), .second, (vr b20), (vr b32), (vr b300), (vr b367), (vr b387), (vi 1), (vi 1), .unset]) rfl ?_
      refine XS.aload X474.here hx rfl (hb hby at_549) rfl rfl ?_
      refine XS.aload X474.here hx rfl (hb hby at_551) rfl rfl ?_
      refine XS.iload X474.here hx rfl (hb hby at_553) rfl ?_
      refine XS.iconst X474.here hx rfl (hb hby at_555) ?_
      refine st483.trans ?_
      refine XS.aload X483.here hx rfl (hb hby at_559) rfl rfl ?_
      refine XS.iconst X483.here hx rfl (hb hby at_561) ?_
      refine X483.iaload hx (j := (0 : Int32)) (v := (.int r_23)) (by rw [K483q]; exact Ar485.1) (State.isArrayOf_alike hZ.alike Ar485.2.1) Ar485.2.2 hin485 hat485 (g := (mkF m 562 #[(vl p0), .second, (vl p1), .second, (vl p2), .second, (vl p3), .second, (vl p4), .second, (vi p5), (vi kk0), (vi kk1), (vi kk2), (vi yo), (vi yb0), (vi yb1), (vi yb2), (vl r_14), .second, (vl r_15), .second, (vl r_16), .second, (vl r_17), .second, (vl r_18), .second, (vl r_19), .second, (vr b20), (vr b32), (vr b300), (vr b367), (vr b387), (vi 1), (vi 1), .unset] [(.int 0), (.ref b20), (.int (zl_44 + (((((fld (fld (fld (0 : Int64) r_23 zl_44 (0 : Int32)) r_26 zl_65 ((0 : Int32) + k0)) r_29 zl_87 (((0 : Int32) + k0) + k1)).toUInt64 >>> ((0 : Int32) &&& 0x3f).toInt64.toUInt64).toInt64) &&& (maskV k0)).toInt32)))])) rfl rfl (hb hby at_562) _ ?_
      refine XS.icmpNo X483.here hx rfl (hb hby at_563) rfl (teq ((own_bN hF0 hF1 hF2 hsp rfl).1 : (zl_44 + (((((fld (fld (fld (0 : Int64) r_23 zl_44 (0 : Int32)) r_26 zl_65 ((0 : Int32) + k0)) r_29 zl_87 (((0 : Int32) + k0) + k1)).toUInt64 >>> ((0 : Int32) &&& 0x3f).toInt64.toUInt64).toInt64) &&& (maskV k0)).toInt32)) = r_23)).2 ?_
      refine XS.aload X483.here hx rfl (hb hby at_566) rfl rfl ?_
      refine XS.aload X483.here hx rfl (hb hby at_568) rfl rfl ?_
      show Steps p.tables e below (T483.setTop (mkF m 570 #[(vl p0), .second, (vl p1), .second, (vl p2), .second, (vl p3), .second, (vl p4), .second, (vi p5), (vi kk0), (vi kk1), (vi kk2), (vi yo), (vi yb0), (vi yb1), (vi yb2), (vl r_14), .second, (vl r_15), .second, (vl r_16), .second, (vl r_17), .second, (vl r_18), .second, (vl r_19), .second, (vr b20), (vr b32), (vr b300), (vr b367), (vr b387), (vi 1), (vi 1), .unset] [(.ref b367), (.ref b300)])) _
      refine XS.iload X483.here hx rfl (hb hby at_570) rfl ?_
      refine XS.iconst X483.here hx rfl (hb hby at_572) ?_
      refine st486.trans ?_
      refine XS.aload X486.here hx rfl (hb hby at_576) rfl rfl ?_
      refine XS.iconst X486.here hx rfl (hb hby at_578) ?_
      refine X486.iaload hx (j := (1 : Int32)) (v := (.int r_26)) (by rw [K486q]; exact Ar487.1) (State.isArrayOf_alike hZ.alike Ar487.2.1) Ar487.2.2 hin487 hat487 (g := (mkF m 579 #[(vl p0), .second, (vl p1), .second, (vl p2), .second, (vl p3), .second, (vl p4), .second, (vi p5), (vi kk0), (vi kk1), (vi kk2), (vi yo), (vi yb0), (vi yb1), (vi yb2), (vl r_14), .second, (vl r_15), .second, (vl r_16), .second, (vl r_17), .second, (vl r_18), .second, (vl r_19), .second, (vr b20), (vr b32), (vr b300), (vr b367), (vr b387), (vi 1), (vi 1), .unset] [(.int 1), (.ref b20), (.int (zl_65 + (((((fld (fld (fld (0 : Int64) r_23 zl_44 (0 : Int32)) r_26 zl_65 ((0 : Int32) + k0)) r_29 zl_87 (((0 : Int32) + k0) + k1)).toUInt64 >>> (((0 : Int32) + k0) &&& 0x3f).toInt64.toUInt64).toInt64) &&& (maskV k1)).toInt32)))])) rfl rfl (hb hby at_579) _ ?_
      refine XS.icmpNo X486.here hx rfl (hb hby at_580) rfl (teq ((own_bN hF0 hF1 hF2 hsp rfl).2.1 : (zl_65 + (((((fld (fld (fld (0 : Int64) r_23 zl_44 (0 : Int32)) r_26 zl_65 ((0 : Int32) + k0)) r_29 zl_87 (((0 : Int32) + k0) + k1)).toUInt64 >>> (((0 : Int32) + k0) &&& 0x3f).toInt64.toUInt64).toInt64) &&& (maskV k1)).toInt32)) = r_26)).2 ?_
      refine XS.aload X486.here hx rfl (hb hby at_583) rfl rfl ?_
      refine XS.aload X486.here hx rfl (hb hby at_585) rfl rfl ?_
      refine XS.iload X486.here hx rfl (hb hby at_587) rfl ?_
      refine XS.iconst X486.here hx rfl (hb hby at_589) ?_
      refine st488.trans ?_
      refine XS.aload X488.here hx rfl (hb hby at_593) rfl rfl ?_
      refine XS.iconst X488.here hx rfl (hb hby at_595) ?_
      show Steps p.tables e below (T488.setTop (mkF m 596 #[(vl p0), .second, (vl p1), .second, (vl p2), .second, (vl p3), .second, (vl p4), .second, (vi p5), (vi kk0), (vi kk1), (vi kk2), (vi yo), (vi yb0), (vi yb1), (vi yb2), (vl r_14), .second, (vl r_15), .second, (vl r_16), .second, (vl r_17), .second, (vl r_18), .second, (vl r_19), .second, (vr b20), (vr b32), (vr b300), (vr b367), (vr b387), (vi 1), (vi 1), .unset] [(.int 2), (.ref b20), (.int (zl_87 + (((((fld (fld (fld (0 : Int64) r_23 zl_44 (0 : Int32)) r_26 zl_65 ((0 : Int32) + k0)) r_29 zl_87 (((0 : Int32) + k0) + k1)).toUInt64 >>> ((((0 : Int32) + k0) + k1) &&& 0x3f).toInt64.toUInt64).toInt64) &&& (maskV k2)).toInt32)))])) _
      refine X488.iaload hx (j := (2 : Int32)) (v := (.int r_29)) (by rw [K488q]; exact Ar489.1) (State.isArrayOf_alike hZ.alike Ar489.2.1) Ar489.2.2 hin489 hat489 (g := (mkF m 596 #[(vl p0), .second, (vl p1), .second, (vl p2), .second, (vl p3), .second, (vl p4), .second, (vi p5), (vi kk0), (vi kk1), (vi kk2), (vi yo), (vi yb0), (vi yb1), (vi yb2), (vl r_14), .second, (vl r_15), .second, (vl r_16), .second, (vl r_17), .second, (vl r_18), .second, (vl r_19), .second, (vr b20), (vr b32), (vr b300), (vr b367), (vr b387), (vi 1), (vi 1), .unset] [(.int 2), (.ref b20), (.int (zl_87 + (((((fld (fld (fld (0 : Int64) r_23 zl_44 (0 : Int32)) r_26 zl_65 ((0 : Int32) + k0)) r_29 zl_87 (((0 : Int32) + k0) + k1)).toUInt64 >>> ((((0 : Int32) + k0) + k1) &&& 0x3f).toInt64.toUInt64).toInt64) &&& (maskV k2)).toInt32)))])) rfl rfl (hb hby at_596) _ ?_
      refine XS.icmpNo X488.here hx rfl (hb hby at_597) rfl (teq ((own_bN hF0 hF1 hF2 hsp rfl).2.2 : (zl_87 + (((((fld (fld (fld (0 : Int64) r_23 zl_44 (0 : Int32)) r_26 zl_65 ((0 : Int32) + k0)) r_29 zl_87 (((0 : Int32) + k0) + k1)).toUInt64 >>> ((((0 : Int32) + k0) + k1) &&& 0x3f).toInt64.toUInt64).toInt64) &&& (maskV k2)).toInt32)) = r_29)).2 ?_
      refine XS.iconst X488.here hx rfl (hb hby at_600) ?_
      refine XS.goto X488.here hx rfl (pc0 := 601) (pc' := 605) rfl (hb hby at_601) (by decide) (by decide) ?_
      refine XS.istore X488.here hx rfl (hb hby at_605) rfl (l' := #[(vl p0), .second, (vl p1), .second, (vl p2), .second, (vl p3), .second, (vl p4), .second, (vi p5), (vi kk0), (vi kk1), (vi kk2), (vi yo), (vi yb0), (vi yb1), (vi yb2), (vl r_14), .second, (vl r_15), .second, (vl r_16), .second, (vl r_17), .second, (vl r_18), .second, (vl r_19), .second, (vr b20), (vr b32), (vr b300), (vr b367), (vr b387), (vi 1), (vi 1), (vi 1)]) rfl ?_
      refine XS.iload X488.here hx rfl (hb hby at_607) rfl ?_
      refine XS.ifNo X488.here hx rfl (hb hby at_609) rfl ((if0 _ _).trans (feq (by decide : ¬ ((1 : Int32) = (0 : Int32)))).1) ?_
      refine XS.iload X488.here hx rfl (hb hby at_612) rfl ?_
      refine XS.ifNo X488.here hx rfl (hb hby at_614) rfl ((if0 _ _).trans (feq (by decide : ¬ ((1 : Int32) = (0 : Int32)))).1) ?_
      refine XS.iconst X488.here hx rfl (hb hby at_617) ?_
      refine XS.goto X488.here hx rfl (pc0 := 618) (pc' := 622) rfl (hb hby at_618) (by decide) (by decide) ?_
      exact retN X488 hx (t := .boolean) hret0 (by simp) (hb hby at_622) hr
    · show Q_rm0 Z wINTEGER wDOUBLE wBOOLEAN wD kwD p0 p1 p2 p3 p4 p5 h0 n0 _ T488.heap _
      rw [K488q]
      exact ⟨rfl, N488⟩
theorem comes_1 {Post : Tables → Env → Array Value → State → Outcome → State → Prop} (hpost : ∀ tb e args s v u, (limb_1_1.after args s (.returned v) u = true ∧ limb_1_2.after args s (.returned v) u = true ∧ True) → ReturnedEndW s (.returned v) u (Jvm.fieldLocs frame_1_writes args s ++ Jvm.arrayLocs frame_1_arrays args s ++ Jvm.staticLocs frame_1_statics s) 40 3264 → Post tb e args s (.returned v) u) :
    ArmFor flags0 classFile x code maxLocals ret World_1 tables_1 room_1 Calls_1 rest_1 Pre_1 Post := by
  intro l hfl _ _ p e ha hc hk s m args below hf hA hF happ hP
  obtain ⟨hcalls, hrest, hpre⟩ := hP
  obtain ⟨-, -, -, hnamed, -, -, -, hat⟩ := (Spec.applies_iff hf).mp happ
  obtain ⟨hg, hn⟩ := and_e (Cond.before_iff.mp (show (Jvm.Cond.and given_1 narrow_1).before args s = true from hpre))
  obtain ⟨g1, g2⟩ := and_e hg
  obtain ⟨g3, g4⟩ := and_e g2
  obtain ⟨g5, g6⟩ := and_e g4
  obtain ⟨g7, g8⟩ := and_e g6
  obtain ⟨g9, g10⟩ := and_e g8
  obtain ⟨g11, g12⟩ := and_e g10
  obtain ⟨w0, w1, w2, w3, w4, w5, rfl⟩ : ∃ w0 w1 w2 w3 w4 w5 : Value, args = #[w0, w1, w2, w3, w4, w5] := by
    have hs : args.size = 6 := by simpa [Cond.value, given_1] using g1
    obtain ⟨L⟩ := args
    match L, hs with
    | [w0, w1, w2, w3, w4, w5], _ => exact ⟨w0, w1, w2, w3, w4, w5, rfl⟩
  have hw := fun d (hd : d ∈ tables_1) => atoms_spec (ws := Jvm.Cond.code x code maxLocals ret :: tables_1) hat d (List.mem_cons_of_mem _ hd)
  have hfit : Fit s := fun {y c} hc i hi => by
    obtain ⟨ha, rfl⟩ := Array.getElem?_eq_some_iff.mp hc
    have q := List.all_eq_true.mp ((Array.all_eq_true_iff_forall_mem.mp hF) _ (Array.getElem_mem ha)) i (List.mem_range.mpr hi)
    simpa [Array.getElem?_eq_getElem hi] using q
  obtain ⟨hsets, hown0⟩ := atoms_of _ (rest_1_c_eq ▸ (show rest_1_c.before _ s = true from hrest))
  have hr0 := Cond.before_iff.mp hown0
  obtain ⟨i0, ei0⟩ := isL_v g3
  obtain rfl : w0 = (.long i0) := Option.some.inj ei0
  obtain ⟨i1, ei1⟩ := isL_v g5
  obtain rfl : w1 = (.long i1) := Option.some.inj ei1
  obtain ⟨i2, ei2⟩ := isL_v g7
  obtain rfl : w2 = (.long i2) := Option.some.inj ei2
  obtain ⟨i3, ei3⟩ := isL_v g9
  obtain rfl : w3 = (.long i3) := Option.some.inj ei3
  obtain ⟨i4, ei4⟩ := isL_v g11
  obtain rfl : w4 = (.long i4) := Option.some.inj ei4
  obtain ⟨i5, ei5⟩ := is_v g12
  obtain rfl : w5 = (.int i5) := Option.some.inj ei5
  obtain ⟨g13, g14⟩ := and_e hn
  obtain ⟨g15, g16⟩ := and_e g14
  obtain ⟨g17, g18⟩ := and_e g16
  obtain ⟨g19, g20⟩ := and_e g18
  obtain ⟨g21, g22⟩ := and_e g20
  obtain ⟨wINTEGER, ev_wINTEGER⟩ := exa_v g13
  have S_wINTEGER := Sta.start ev_wINTEGER (Or.inr ⟨(ow hw 54 rfl), (ow hw 55 rfl)⟩)
  have E_wINTEGER := Exa.start ev_wINTEGER g13
  obtain ⟨wDOUBLE, ev_wDOUBLE⟩ := exa_v g15
  have S_wDOUBLE := Sta.start ev_wDOUBLE (Or.inr ⟨(ow hw 54 rfl), (ow hw 66 rfl)⟩)
  have E_wDOUBLE := Exa.start ev_wDOUBLE g15
  obtain ⟨wBOOLEAN, ev_wBOOLEAN⟩ := exa_v g21
  have S_wBOOLEAN := Sta.start ev_wBOOLEAN (Or.inr ⟨(ow hw 54 rfl), (ow hw 68 rfl)⟩)
  have E_wBOOLEAN := Exa.start ev_wBOOLEAN g21
  have F_ordinal_wINTEGER := Fld.start ((fld_at ev_wINTEGER).symm.trans (own_eq_int g17))
  have F_ordinal_wDOUBLE := Fld.start ((fld_at ev_wDOUBLE).symm.trans (own_eq_int g19))
  have F_ordinal_wBOOLEAN := Fld.start ((fld_at ev_wBOOLEAN).symm.trans (own_eq_int g22))
  have hx_wD := Cond.before_iff.mp (hsets _ (List.mem_of_getElem? (i := 7) rfl))
  obtain ⟨wD, ev_wD⟩ := exa_v hx_wD
  have S_wD := Sta.start ev_wD (Or.inr ⟨(ow hw 15 rfl), (hsets _ (List.mem_of_getElem? (i := 2) rfl))⟩)
  have E_wD := Exa.start ev_wD hx_wD
  obtain ⟨c_wD, A_wD⟩ := Arr.start ev_wD (Cond.before_iff.mp (hsets _ (List.mem_of_getElem? (i := 6) rfl)))
  obtain ⟨sz_wD, ln_wD⟩ := Jvm.Free.IntBox.length_fwd (hsets _ (List.mem_of_getElem? (i := 8) rfl)) ev_wD A_wD.1 A_wD.2.1 A_wD.2.2
  obtain ⟨kwD, hk_kwD⟩ : ∃ z, z = c_wD.cls := ⟨_, rfl⟩
  have V_wD : Arv s s.heap wD kwD (.object s4n) (0 : Int32) [] .null := hk_kwD ▸ Arv.start hfit A_wD sz_wD ln_wD (by decide) (by decide) trivial
  have hS : SS s wINTEGER wDOUBLE wBOOLEAN wD kwD := ⟨S_wINTEGER, E_wINTEGER, S_wDOUBLE, E_wDOUBLE, S_wBOOLEAN, E_wBOOLEAN, F_ordinal_wINTEGER, F_ordinal_wDOUBLE, F_ordinal_wBOOLEAN, S_wD, E_wD, V_wD⟩
  obtain ⟨n, o, h1, h2, h3, _, L, rfl, ⟨rfl, N⟩, hq⟩ := rm0 l s _ hw tables_1 wINTEGER wDOUBLE wBOOLEAN wD kwD hS i0 i1 i2 i3 i4 i5 s.heap s.heap.size (Old.start s)  p e ha hc hk s m _ below hf ((Spec.applies_iff_loose hf).mp happ).1 ⟨rfl, State.Warmed39.refl s, rfl⟩ trivial
  refine ⟨n, _, h1, h2, h3, hpost _ _ _ _ _ _ ⟨Cond.after_iff.mpr rfl, Cond.after_iff.mpr (eq_i res_at (Term.int_eval (1)) rfl), trivial⟩ ⟨hq.1, hq.2.1, hq.2.2.1, (hq.2.2.2.sift fun y hy => Or.inr (N y hy)).mono (by decide) (by decide)⟩⟩
theorem main_1_1 : Claimed_1_1 := comes_1 fun _ _ _ _ _ _ h hF => ⟨h.1, hF⟩
theorem main_1_2 : Claimed_1_2 := comes_1 fun _ _ _ _ _ _ h hF => ⟨h.2.1, hF⟩
end Jvm.Pilot.@@N@@
namespace Jvm.Pilot.@@N@@
open Jvm Jvm.ClassFile Sem Op Lib Jvm.Free Jvm.Stand Jvm.Pilot.@@N@@.Jvm.D
/-! MADE BY PROGRAM (witnessworld.py) out of the Statement's table words and the real class files: 35 classes; the members and pool entries that the words name. The judged class is class 1, her method 6. -/
namespace start1
open Jvm.ClassFile
def u (s : String) : CpInfo := .utf8 (stringToUtf16 s)
/-- a pool by its gaps: so many unusable entries, then the entry; so many at the end -/
def gap : Nat → List CpInfo → List CpInfo
  | 0, r => r
  | n + 1, r => .unusable :: gap n r
def poolList (es : List (Nat × CpInfo)) (last : Nat) : List CpInfo := es.foldr (fun e r => gap e.1 (e.2 :: r)) (gap last [])
def pool (es : List (Nat × CpInfo)) (last : Nat) : Array CpInfo := ⟨poolList es last⟩
def fileOf (pool : Array CpInfo) (this : Nat) (attrs : Array Attribute := #[]) (ms : Array MethodInfo := #[]) (fl : Nat := 33) (sup : Nat := 0) (ifs : Array Nat := #[]) (fds : Array FieldInfo := #[]) : ClassFile where
  minorVersion := 0
  majorVersion := 65
  constantPool := pool
  accessFlags := fl
  thisClass := this
  superClass := sup
  interfaces := ifs
  fields := fds
  methods := ms
  attributes := attrs
def plain (name : String) (sup : Option ClassId) : Class where
  name := name
  kind := .ordinary
  loader := none
  accessFlags := 33
  super := sup
  interfaces := #[]
  cf := none
  fields := #[]
  methods := #[]
  instanceTypes := #[]
  staticTypes := #[]
  resolved := #[]
  callSites := []
  init := .initialized
  statics := none
  mirror := none

def pool0 : Array CpInfo := pool [(5, u "<init>"), (0, u "()V"), (1, .class_ 10), (1, u "java/lang/Object")] 113

def k0c0 : Code := { maxStack := 0, maxLocals := 1, code := object_method_1_code, exceptionTable := #[], attributes := #[] }
def k0m0 : Method := { name := "<init>", desc := "()V", sig := { parameters := [], returnType := none }, accessFlags := 1, code := some k0c0 }
/-- java/lang/Object -/
def k0 : Class := { plain "java/lang/Object" none with
  accessFlags := 33
  interfaces := #[]
  cf := some (fileOf pool0 8 #[] #[{ accessFlags := 1, nameIndex := 5, descriptorIndex := 6, attributes := #[] }] 33 0 #[] #[])
  fields := #[]
  methods := #[k0m0]
  instanceTypes := #[]
  staticTypes := #[]
  resolved := Array.replicate 124 none
  statics := none }

def pool1 : Array CpInfo := pool [(2, .class_ 4), (0, .nameAndType 5 6), (0, u "java/lang/Object"), (0, u "<init>"), (0, u "()V"), (0, .long 4294967295), (3, .long 2147483647), (1, .class_ 14), (0, u "com/example/lanc/lanc/model/StateValuations$Variable"), (0, .fieldref 16 17), (0, .class_ 18), (0, .nameAndType 19 20), (0, u "com/example/lanc/lanc/expression/Type"), (0, u "BOOLEAN"), (0, u "Lcom/example/lanc/lanc/expression/Type;"), (0, .fieldref 16 22), (0, .nameAndType 23 20), (0, u "INTEGER"), (0, .methodref 13 25), (0, .nameAndType 5 26), (0, u "(Ljava/lang/String;Lcom/example/lanc/lanc/expression/Type;II)V"), (0, .long 18446744073709551615), (1, .methodref 30 31), (0, .class_ 32), (0, .nameAndType 33 34), (0, u "com/example/lanc/lanc/model/VariableLayoutPackPinLaw"), (0, u "span"), (0, u "(JIZ)J"), (0, .methodref 30 36), (0, .nameAndType 37 38), (0, u "low"), (0, u "(JJZ)J"), (0, .methodref 30 40), (0, .nameAndType 41 42), (0, u "pick"), (0, u "(JJI)I"), (0, .class_ 44), (0, u "java/util/ArrayList"), (0, .methodref 43 3), (0, .string 47), (0, u "a"), (0, .methodref 30 49), (0, .nameAndType 50 51), (0, u "variable"), (0, u "(Ljava/lang/String;JJZ)Lcom/example/lanc/lanc/model/StateValuations$Variable;"), (0, .interfaceMethodref 53 54), (0, .class_ 55), (0, .nameAndType 56 57), (0, u "java/util/List"), (0, u "add"), (0, u "(Ljava/lang/Object;)Z"), (0, .string 59), (0, u "b"), (0, .string 61), (0, u "c"), (0, .class_ 63), (0, u "com/example/lanc/lanc/model/VariableLayout"), (0, .methodref 62 65), (0, .nameAndType 5 66), (0, u "(Ljava/util/List;)V"), (0, .methodref 62 68), (0, .nameAndType 69 70), (0, u "pack"), (0, u "([I[JI)V"), (0, .methodref 62 72), (0, .nameAndType 73 74), (0, u "wordsPerState"), (0, u "()I"), (0, .methodref 30 76), (0, .nameAndType 77 78), (0, u "slot"), (0, u "([J[JIIIJ)Z"), (0, .methodref 62 80), (0, .nameAndType 81 82), (0, u "value"), (0, u "([JII)I"), (5, u "law"), (0, u "(JJJJJI)Z")] 10

def k1m0 : Method := { name := "<init>", desc := "()V", sig := { parameters := [], returnType := none }, accessFlags := 2, code := none }
def k1c1 : Code := { maxStack := 4, maxLocals := 4, code := method_2_code, exceptionTable := #[], attributes := #[] }
def k1m1 : Method := { name := "span", desc := "(JIZ)J", sig := { parameters := [.long, .int, .boolean], returnType := some .long }, accessFlags := 10, code := some k1c1 }
def k1c2 : Code := { maxStack := 4, maxLocals := 7, code := method_3_code, exceptionTable := #[], attributes := #[] }
def k1m2 : Method := { name := "low", desc := "(JJZ)J", sig := { parameters := [.long, .long, .boolean], returnType := some .long }, accessFlags := 10, code := some k1c2 }
def k1c3 : Code := { maxStack := 6, maxLocals := 7, code := method_4_code, exceptionTable := #[], attributes := #[] }
def k1m3 : Method := { name := "pick", desc := "(JJI)I", sig := { parameters := [.long, .long, .int], returnType := some .int }, accessFlags := 10, code := some k1c3 }
def k1c4 : Code := { maxStack := 9, maxLocals := 6, code := method_5_code, exceptionTable := #[], attributes := #[] }
def k1m4 : Method := { name := "variable", desc := "(Ljava/lang/String;JJZ)Lcom/example/lanc/lanc/model/StateValuations$Variable;", sig := { parameters := [(.object "java/lang/String"), .long, .long, .boolean], returnType := some (.object "com/example/lanc/lanc/model/StateValuations$Variable") }, accessFlags := 10, code := some k1c4 }
def k1c5 : Code := { maxStack := 6, maxLocals := 7, code := method_6_code, exceptionTable := #[], attributes := #[] }
def k1m5 : Method := { name := "slot", desc := "([J[JIIIJ)Z", sig := { parameters := [(.array .long), (.array .long), .int, .int, .int, .long], returnType := some .boolean }, accessFlags := 10, code := some k1c5 }
def k1c6 : Code := { maxStack := 9, maxLocals := 38, code := code, exceptionTable := #[], attributes := #[] }
def k1m6 : Method := { name := "law", desc := "(JJJJJI)Z", sig := { parameters := [.long, .long, .long, .long, .long, .int], returnType := some .boolean }, accessFlags := 9, code := some k1c6 }
/-- com/example/lanc/lanc/model/VariableLayoutPackPinLaw -/
def k1 : Class := { plain "com/example/lanc/lanc/model/VariableLayoutPackPinLaw" (some 0) with
  accessFlags := 49
  interfaces := #[]
  cf := some (fileOf pool1 30 #[] #[{ accessFlags := 2, nameIndex := 5, descriptorIndex := 6, attributes := #[] }, { accessFlags := 10, nameIndex := 33, descriptorIndex := 34, attributes := #[] }, { accessFlags := 10, nameIndex := 37, descriptorIndex := 38, attributes := #[] }, { accessFlags := 10, nameIndex := 41, descriptorIndex := 42, attributes := #[] }, { accessFlags := 10, nameIndex := 50, descriptorIndex := 51, attributes := #[] }, { accessFlags := 10, nameIndex := 77, descriptorIndex := 78, attributes := #[] }, { accessFlags := 9, nameIndex := 88, descriptorIndex := 89, attributes := #[] }] 49 2 #[] #[])
  fields := #[]
  methods := #[k1m0, k1m1, k1m2, k1m3, k1m4, k1m5, k1m6]
  instanceTypes := #[]
  staticTypes := #[]
  resolved := Array.replicate 100 none
  statics := none }

def pool2 : Array CpInfo := pool [(8, .class_ 10), (1, u "java/lang/Iterable"), (24, .class_ 36), (0, u "java/lang/Object")] 25

/-- java/lang/Iterable -/
def k2 : Class := { plain "java/lang/Iterable" (some 0) with
  accessFlags := 1537
  interfaces := #[]
  cf := some (fileOf pool2 8 #[] #[] 1537 35 #[] #[])
  fields := #[]
  methods := #[]
  instanceTypes := #[]
  staticTypes := #[]
  resolved := Array.replicate 62 none
  statics := none }

def pool3 : Array CpInfo := pool [(10, .class_ 12), (1, u "java/util/Collection"), (47, .class_ 61), (0, u "java/lang/Object"), (0, .class_ 63), (0, u "java/lang/Iterable")] 51

/-- java/util/Collection -/
def k3 : Class := { plain "java/util/Collection" (some 0) with
  accessFlags := 1537
  interfaces := #[2]
  cf := some (fileOf pool3 10 #[] #[] 1537 60 #[62] #[])
  fields := #[]
  methods := #[]
  instanceTypes := #[]
  staticTypes := #[]
  resolved := Array.replicate 115 none
  statics := none }

def pool4 : Array CpInfo := pool [(1, .methodref 2 3), (0, .class_ 4), (0, .nameAndType 5 6), (0, u "java/lang/Object"), (0, u "<init>"), (0, u "()V"), (1, .class_ 10), (1, u "java/util/AbstractCollection"), (66, .class_ 78), (0, u "java/util/Collection")] 81

def k4c0 : Code := { maxStack := 1, maxLocals := 1, code := jdk_22_method_1_code, exceptionTable := #[], attributes := #[] }
def k4m0 : Method := { name := "<init>", desc := "()V", sig := { parameters := [], returnType := none }, accessFlags := 4, code := some k4c0 }
/-- java/util/AbstractCollection -/
def k4 : Class := { plain "java/util/AbstractCollection" (some 0) with
  accessFlags := 1057
  interfaces := #[3]
  cf := some (fileOf pool4 8 #[] #[{ accessFlags := 4, nameIndex := 5, descriptorIndex := 6, attributes := #[] }] 1057 2 #[77] #[])
  fields := #[]
  methods := #[k4m0]
  instanceTypes := #[]
  staticTypes := #[]
  resolved := Array.replicate 160 none
  statics := none }

def pool5 : Array CpInfo := pool [(8, .class_ 10), (1, u "java/util/SequencedCollection"), (15, .class_ 27), (0, u "java/lang/Object"), (0, .class_ 29), (0, u "java/util/Collection")] 27

/-- java/util/SequencedCollection -/
def k5 : Class := { plain "java/util/SequencedCollection" (some 0) with
  accessFlags := 1537
  interfaces := #[3]
  cf := some (fileOf pool5 8 #[] #[] 1537 26 #[28] #[])
  fields := #[]
  methods := #[]
  instanceTypes := #[]
  staticTypes := #[]
  resolved := Array.replicate 57 none
  statics := none }

def pool6 : Array CpInfo := pool [(8, .class_ 10), (1, u "java/util/List"), (49, u "add"), (3, u "(Ljava/lang/Object;)Z"), (10, u "get"), (0, u "(I)Ljava/lang/Object;"), (2, u "size"), (0, u "()I"), (22, .class_ 104), (0, u "java/lang/Object"), (15, .class_ 121), (0, u "java/util/SequencedCollection")] 129

def k6m0 : Method := { name := "size", desc := "()I", sig := { parameters := [], returnType := some .int }, accessFlags := 1025, code := none }
def k6m1 : Method := { name := "add", desc := "(Ljava/lang/Object;)Z", sig := { parameters := [(.object "java/lang/Object")], returnType := some .boolean }, accessFlags := 1025, code := none }
def k6m2 : Method := { name := "get", desc := "(I)Ljava/lang/Object;", sig := { parameters := [.int], returnType := some (.object "java/lang/Object") }, accessFlags := 1025, code := none }
/-- java/util/List -/
def k6 : Class := { plain "java/util/List" (some 0) with
  accessFlags := 1537
  interfaces := #[5]
  cf := some (fileOf pool6 8 #[] #[{ accessFlags := 1025, nameIndex := 79, descriptorIndex := 80, attributes := #[] }, { accessFlags := 1025, nameIndex := 60, descriptorIndex := 64, attributes := #[] }, { accessFlags := 1025, nameIndex := 75, descriptorIndex := 76, attributes := #[] }] 1537 103 #[120] #[])
  fields := #[]
  methods := #[k6m0, k6m1, k6m2]
  instanceTypes := #[]
  staticTypes := #[]
  resolved := Array.replicate 251 none
  statics := none }

def pool7 : Array CpInfo := pool [(1, .methodref 2 3), (0, .class_ 4), (0, .nameAndType 5 6), (0, u "java/util/AbstractCollection"), (0, u "<init>"), (0, u "()V"), (0, .fieldref 8 9), (0, .class_ 10), (0, .nameAndType 11 12), (0, u "java/util/AbstractList"), (0, u "modCount"), (0, u "I"), (64, .class_ 78), (0, u "java/util/AbstractList$Itr"), (3, .class_ 83), (0, u "java/util/AbstractList$ListItr"), (9, .class_ 94), (0, u "java/util/AbstractList$RandomAccessSubList"), (3, .class_ 99), (0, u "java/util/AbstractList$SubList"), (33, .class_ 134), (0, u "java/util/List"), (73, .class_ 209), (0, u "java/util/AbstractList$SubList$1"), (0, .class_ 211), (0, u "java/util/AbstractList$RandomAccessSpliterator")] 6

def k7c0 : Code := { maxStack := 2, maxLocals := 1, code := jdk_39_method_1_code, exceptionTable := #[], attributes := #[] }
def k7m0 : Method := { name := "<init>", desc := "()V", sig := { parameters := [], returnType := none }, accessFlags := 4, code := some k7c0 }
/-- java/util/AbstractList -/
def k7 : Class := { plain "java/util/AbstractList" (some 4) with
  accessFlags := 1057
  interfaces := #[6]
  cf := some (fileOf pool7 8 #[.nestMembers #[93, 98, 208, 210, 82, 77]] #[{ accessFlags := 4, nameIndex := 5, descriptorIndex := 6, attributes := #[] }] 1057 2 #[133] #[{ accessFlags := 132, nameIndex := 11, descriptorIndex := 12, attributes := #[] }])
  fields := #[{ name := "modCount", type := .int, accessFlags := 132, slot := 0, constantValue := 0 }]
  methods := #[k7m0]
  instanceTypes := #[.int]
  staticTypes := #[]
  resolved := Array.replicate 218 none
  statics := none }

def pool8 : Array CpInfo := pool [(1, .class_ 2), (0, u "java/util/RandomAccess"), (0, .class_ 4), (0, u "java/lang/Object")] 2

/-- java/util/RandomAccess -/
def k8 : Class := { plain "java/util/RandomAccess" (some 0) with
  accessFlags := 1537
  interfaces := #[]
  cf := some (fileOf pool8 1 #[] #[] 1537 3 #[] #[])
  fields := #[]
  methods := #[]
  instanceTypes := #[]
  staticTypes := #[]
  resolved := Array.replicate 7 none
  statics := none }

def pool9 : Array CpInfo := pool [(1, .class_ 2), (0, u "java/lang/Cloneable"), (0, .class_ 4), (0, u "java/lang/Object")] 2

/-- java/lang/Cloneable -/
def k9 : Class := { plain "java/lang/Cloneable" (some 0) with
  accessFlags := 1537
  interfaces := #[]
  cf := some (fileOf pool9 1 #[] #[] 1537 3 #[] #[])
  fields := #[]
  methods := #[]
  instanceTypes := #[]
  staticTypes := #[]
  resolved := Array.replicate 7 none
  statics := none }

def pool10 : Array CpInfo := pool [(1, .class_ 2), (0, u "java/io/Serializable"), (0, .class_ 4), (0, u "java/lang/Object")] 2

/-- java/io/Serializable -/
def k10 : Class := { plain "java/io/Serializable" (some 0) with
  accessFlags := 1537
  interfaces := #[]
  cf := some (fileOf pool10 1 #[] #[] 1537 3 #[] #[])
  fields := #[]
  methods := #[]
  instanceTypes := #[]
  staticTypes := #[]
  resolved := Array.replicate 7 none
  statics := none }

def pool11 : Array CpInfo := pool [(1, .methodref 2 3), (0, .class_ 4), (0, .nameAndType 5 6), (0, u "java/util/AbstractList"), (0, u "<init>"), (0, u "()V"), (0, .class_ 8), (0, u "java/lang/Object"), (0, .fieldref 10 11), (0, .class_ 12), (0, .nameAndType 13 14), (0, u "java/util/ArrayList"), (0, u "elementData"), (0, u "[Ljava/lang/Object;"), (2, u "EMPTY_ELEMENTDATA"), (21, .fieldref 10 40), (0, .nameAndType 41 14), (0, u "DEFAULTCAPACITY_EMPTY_ELEMENTDATA"), (5, u "()[Ljava/lang/Object;"), (0, .fieldref 10 49), (0, .nameAndType 50 51), (0, u "size"), (0, u "I"), (11, .fieldref 10 64), (0, .nameAndType 65 51), (0, u "modCount"), (3, .methodref 10 70), (0, .nameAndType 71 72), (0, u "grow"), (0, u "(I)[Ljava/lang/Object;"), (6, .methodref 80 81), (0, .class_ 82), (0, .nameAndType 83 84), (0, u "java/lang/Math"), (0, u "max"), (0, u "(II)I"), (11, u "(Ljava/lang/Object;)Z"), (21, .methodref 119 120), (0, .class_ 121), (0, .nameAndType 122 84), (0, u "java/util/Objects"), (0, u "checkIndex"), (0, .methodref 10 124), (0, .nameAndType 13 125), (0, u "(I)Ljava/lang/Object;"), (3, .methodref 10 130), (0, .nameAndType 71 47), (0, .methodref 10 132), (0, .nameAndType 133 134), (0, u "add"), (0, u "(Ljava/lang/Object;[Ljava/lang/Object;I)V"), (13, .class_ 149), (0, u "java/util/List"), (36, u "()I"), (75, .class_ 263), (0, u "java/util/ArrayList$ListItr"), (3, .class_ 268), (0, u "java/util/ArrayList$Itr"), (7, .class_ 277), (0, u "java/util/ArrayList$SubList"), (12, .class_ 291), (0, u "java/util/ArrayList$ArrayListSpliterator"), (37, .class_ 330), (0, u "java/util/RandomAccess"), (0, .class_ 332), (0, u "java/lang/Cloneable"), (0, .class_ 334), (0, u "java/io/Serializable"), (0, u "serialVersionUID"), (0, u "J"), (3, u "DEFAULT_CAPACITY"), (40, u "get"), (118, .class_ 501), (0, u "java/util/ArrayList$SubList$2"), (0, .class_ 503), (0, u "java/util/ArrayList$SubList$1")] 5

def k11c0 : Code := { maxStack := 2, maxLocals := 1, code := jdk_38_method_2_code, exceptionTable := #[], attributes := #[] }
def k11m0 : Method := { name := "<init>", desc := "()V", sig := { parameters := [], returnType := none }, accessFlags := 1, code := some k11c0 }
def k11c1 : Code := { maxStack := 4, maxLocals := 4, code := jdk_38_method_6_code, exceptionTable := #[], attributes := #[] }
def k11m1 : Method := { name := "grow", desc := "(I)[Ljava/lang/Object;", sig := { parameters := [.int], returnType := some (.array (.object "java/lang/Object")) }, accessFlags := 2, code := some k11c1 }
def k11c2 : Code := { maxStack := 3, maxLocals := 1, code := jdk_38_method_7_code, exceptionTable := #[], attributes := #[] }
def k11m2 : Method := { name := "grow", desc := "()[Ljava/lang/Object;", sig := { parameters := [], returnType := some (.array (.object "java/lang/Object")) }, accessFlags := 2, code := some k11c2 }
def k11c3 : Code := { maxStack := 1, maxLocals := 1, code := jdk_38_method_8_code, exceptionTable := #[], attributes := #[] }
def k11m3 : Method := { name := "size", desc := "()I", sig := { parameters := [], returnType := some .int }, accessFlags := 1, code := some k11c3 }
def k11c4 : Code := { maxStack := 2, maxLocals := 2, code := jdk_38_method_18_code, exceptionTable := #[], attributes := #[] }
def k11m4 : Method := { name := "elementData", desc := "(I)Ljava/lang/Object;", sig := { parameters := [.int], returnType := some (.object "java/lang/Object") }, accessFlags := 0, code := some k11c4 }
def k11c5 : Code := { maxStack := 2, maxLocals := 2, code := jdk_38_method_20_code, exceptionTable := #[], attributes := #[] }
def k11m5 : Method := { name := "get", desc := "(I)Ljava/lang/Object;", sig := { parameters := [.int], returnType := some (.object "java/lang/Object") }, accessFlags := 1, code := some k11c5 }
def k11c6 : Code := { maxStack := 3, maxLocals := 4, code := jdk_38_method_24_code, exceptionTable := #[], attributes := #[] }
def k11m6 : Method := { name := "add", desc := "(Ljava/lang/Object;[Ljava/lang/Object;I)V", sig := { parameters := [(.object "java/lang/Object"), (.array (.object "java/lang/Object")), .int], returnType := none }, accessFlags := 2, code := some k11c6 }
def k11c7 : Code := { maxStack := 4, maxLocals := 2, code := jdk_38_method_25_code, exceptionTable := #[], attributes := #[] }
def k11m7 : Method := { name := "add", desc := "(Ljava/lang/Object;)Z", sig := { parameters := [(.object "java/lang/Object")], returnType := some .boolean }, accessFlags := 1, code := some k11c7 }
/-- java/util/ArrayList -/
def k11 : Class := { plain "java/util/ArrayList" (some 7) with
  accessFlags := 33
  interfaces := #[6, 8, 9, 10]
  cf := some (fileOf pool11 10 #[.nestMembers #[290, 276, 500, 502, 262, 267]] #[{ accessFlags := 1, nameIndex := 5, descriptorIndex := 6, attributes := #[] }, { accessFlags := 2, nameIndex := 71, descriptorIndex := 72, attributes := #[] }, { accessFlags := 2, nameIndex := 71, descriptorIndex := 47, attributes := #[] }, { accessFlags := 1, nameIndex := 50, descriptorIndex := 186, attributes := #[] }, { accessFlags := 0, nameIndex := 13, descriptorIndex := 125, attributes := #[] }, { accessFlags := 1, nameIndex := 381, descriptorIndex := 125, attributes := #[] }, { accessFlags := 2, nameIndex := 133, descriptorIndex := 134, attributes := #[] }, { accessFlags := 1, nameIndex := 133, descriptorIndex := 96, attributes := #[] }] 33 2 #[148, 329, 331, 333] #[{ accessFlags := 26, nameIndex := 335, descriptorIndex := 336, attributes := #[] }, { accessFlags := 26, nameIndex := 340, descriptorIndex := 51, attributes := #[] }, { accessFlags := 26, nameIndex := 17, descriptorIndex := 14, attributes := #[] }, { accessFlags := 26, nameIndex := 41, descriptorIndex := 14, attributes := #[] }, { accessFlags := 128, nameIndex := 13, descriptorIndex := 14, attributes := #[] }, { accessFlags := 2, nameIndex := 50, descriptorIndex := 51, attributes := #[] }])
  fields := #[{ name := "serialVersionUID", type := .long, accessFlags := 26, slot := 0, constantValue := 0 }, { name := "DEFAULT_CAPACITY", type := .int, accessFlags := 26, slot := 1, constantValue := 0 }, { name := "EMPTY_ELEMENTDATA", type := (.array (.object "java/lang/Object")), accessFlags := 26, slot := 2, constantValue := 0 }, { name := "DEFAULTCAPACITY_EMPTY_ELEMENTDATA", type := (.array (.object "java/lang/Object")), accessFlags := 26, slot := 3, constantValue := 0 }, { name := "elementData", type := (.array (.object "java/lang/Object")), accessFlags := 128, slot := 1, constantValue := 0 }, { name := "size", type := .int, accessFlags := 2, slot := 2, constantValue := 0 }]
  methods := #[k11m0, k11m1, k11m2, k11m3, k11m4, k11m5, k11m6, k11m7]
  instanceTypes := #[.int, (.array (.object "java/lang/Object")), .int]
  staticTypes := #[.long, .int, (.array (.object "java/lang/Object")), (.array (.object "java/lang/Object"))]
  resolved := Array.replicate 509 none
  statics := some 0 }

def pool12 : Array CpInfo := pool [(1, .class_ 2), (0, u "java/lang/Comparable"), (0, .class_ 4), (0, u "java/lang/Object")] 7

/-- java/lang/Comparable -/
def k12 : Class := { plain "java/lang/Comparable" (some 0) with
  accessFlags := 1537
  interfaces := #[]
  cf := some (fileOf pool12 1 #[] #[] 1537 3 #[] #[])
  fields := #[]
  methods := #[]
  instanceTypes := #[]
  staticTypes := #[]
  resolved := Array.replicate 12 none
  statics := none }

def pool13 : Array CpInfo := pool [(2, .class_ 4), (1, u "java/lang/CharSequence"), (42, .class_ 48), (0, u "java/lang/CharSequence$1CodePointIterator"), (10, .class_ 60), (0, u "java/lang/CharSequence$1CharIterator"), (5, .class_ 67), (0, u "java/lang/Object")] 63

/-- java/lang/CharSequence -/
def k13 : Class := { plain "java/lang/CharSequence" (some 0) with
  accessFlags := 1537
  interfaces := #[]
  cf := some (fileOf pool13 2 #[.nestMembers #[47, 59]] #[] 1537 66 #[] #[])
  fields := #[]
  methods := #[]
  instanceTypes := #[]
  staticTypes := #[]
  resolved := Array.replicate 131 none
  statics := none }

def pool14 : Array CpInfo := pool [(1, .class_ 2), (0, u "java/lang/constant/Constable"), (0, .class_ 4), (0, u "java/lang/Object")] 6

/-- java/lang/constant/Constable -/
def k14 : Class := { plain "java/lang/constant/Constable" (some 0) with
  accessFlags := 1537
  interfaces := #[]
  cf := some (fileOf pool14 1 #[] #[] 1537 3 #[] #[])
  fields := #[]
  methods := #[]
  instanceTypes := #[]
  staticTypes := #[]
  resolved := Array.replicate 11 none
  statics := none }

def pool15 : Array CpInfo := pool [(1, .class_ 2), (0, u "java/lang/constant/ConstantDesc"), (0, .class_ 4), (0, u "java/lang/Object")] 32

/-- java/lang/constant/ConstantDesc -/
def k15 : Class := { plain "java/lang/constant/ConstantDesc" (some 0) with
  accessFlags := 1537
  interfaces := #[]
  cf := some (fileOf pool15 1 #[] #[] 1537 3 #[] #[])
  fields := #[]
  methods := #[]
  instanceTypes := #[]
  staticTypes := #[]
  resolved := Array.replicate 37 none
  statics := none }

def pool16 : Array CpInfo := pool [(2, .class_ 4), (1, u "java/lang/Object"), (0, u "<init>"), (0, u "()V"), (3, .class_ 12), (1, u "java/lang/String"), (0, u "value"), (0, u "[B"), (2, u "coder"), (0, u "B"), (2, u "hash"), (0, u "I"), (2, u "hashIsZero"), (0, u "Z"), (13, u "COMPACT_STRINGS"), (534, .class_ 576), (0, u "java/lang/CharSequence"), (22, u "CASE_INSENSITIVE_ORDER"), (0, u "Ljava/util/Comparator;"), (500, u "serialPersistentFields"), (0, u "[Ljava/io/ObjectStreamField;"), (0, .class_ 1104), (0, u "java/lang/String$CaseInsensitiveComparator"), (1, .class_ 1107), (0, u "java/io/Serializable"), (0, .class_ 1109), (0, u "java/lang/Comparable"), (0, .class_ 1111), (0, u "java/lang/constant/Constable"), (0, .class_ 1113), (0, u "java/lang/constant/ConstantDesc"), (2, u "serialVersionUID"), (0, u "J"), (3, u "REPL"), (0, u "C"), (2, u "LATIN1"), (1, u "UTF16")] 323

def k16m0 : Method := { name := "<init>", desc := "()V", sig := { parameters := [], returnType := none }, accessFlags := 1, code := none }
/-- java/lang/String -/
def k16 : Class := { plain "java/lang/String" (some 0) with
  accessFlags := 49
  interfaces := #[10, 12, 13, 14, 15]
  cf := some (fileOf pool16 10 #[.nestMembers #[1103]] #[{ accessFlags := 1, nameIndex := 5, descriptorIndex := 6, attributes := #[] }] 49 2 #[1106, 1108, 575, 1110, 1112] #[{ accessFlags := 18, nameIndex := 13, descriptorIndex := 14, attributes := #[] }, { accessFlags := 18, nameIndex := 17, descriptorIndex := 18, attributes := #[] }, { accessFlags := 2, nameIndex := 21, descriptorIndex := 22, attributes := #[] }, { accessFlags := 2, nameIndex := 25, descriptorIndex := 26, attributes := #[] }, { accessFlags := 26, nameIndex := 1116, descriptorIndex := 1117, attributes := #[] }, { accessFlags := 24, nameIndex := 40, descriptorIndex := 26, attributes := #[] }, { accessFlags := 26, nameIndex := 1101, descriptorIndex := 1102, attributes := #[] }, { accessFlags := 26, nameIndex := 1121, descriptorIndex := 1122, attributes := #[] }, { accessFlags := 25, nameIndex := 599, descriptorIndex := 600, attributes := #[] }, { accessFlags := 24, nameIndex := 1125, descriptorIndex := 18, attributes := #[] }, { accessFlags := 24, nameIndex := 1127, descriptorIndex := 18, attributes := #[] }])
  fields := #[{ name := "value", type := (.array .byte), accessFlags := 18, slot := 0, constantValue := 0 }, { name := "coder", type := .byte, accessFlags := 18, slot := 1, constantValue := 0 }, { name := "hash", type := .int, accessFlags := 2, slot := 2, constantValue := 0 }, { name := "hashIsZero", type := .boolean, accessFlags := 2, slot := 3, constantValue := 0 }, { name := "serialVersionUID", type := .long, accessFlags := 26, slot := 0, constantValue := 0 }, { name := "COMPACT_STRINGS", type := .boolean, accessFlags := 24, slot := 1, constantValue := 0 }, { name := "serialPersistentFields", type := (.array (.object "java/io/ObjectStreamField")), accessFlags := 26, slot := 2, constantValue := 0 }, { name := "REPL", type := .char, accessFlags := 26, slot := 3, constantValue := 0 }, { name := "CASE_INSENSITIVE_ORDER", type := (.object "java/util/Comparator"), accessFlags := 25, slot := 4, constantValue := 0 }, { name := "LATIN1", type := .byte, accessFlags := 24, slot := 5, constantValue := 0 }, { name := "UTF16", type := .byte, accessFlags := 24, slot := 6, constantValue := 0 }]
  methods := #[k16m0]
  instanceTypes := #[(.array .byte), .byte, .int, .boolean]
  staticTypes := #[.long, .boolean, (.array (.object "java/io/ObjectStreamField")), .char, (.object "java/util/Comparator"), .byte, .byte]
  resolved := Array.replicate 1451 none
  statics := none }

def pool17 : Array CpInfo := pool [(1, .methodref 2 3), (0, .class_ 4), (0, .nameAndType 5 6), (0, u "java/lang/Object"), (0, u "<init>"), (0, u "()V"), (0, .class_ 8), (0, u "java/lang/Record")] 13

def k17c0 : Code := { maxStack := 1, maxLocals := 1, code := jdk_30_method_1_code, exceptionTable := #[], attributes := #[] }
def k17m0 : Method := { name := "<init>", desc := "()V", sig := { parameters := [], returnType := none }, accessFlags := 4, code := some k17c0 }
/-- java/lang/Record -/
def k17 : Class := { plain "java/lang/Record" (some 0) with
  accessFlags := 1057
  interfaces := #[]
  cf := some (fileOf pool17 7 #[] #[{ accessFlags := 4, nameIndex := 5, descriptorIndex := 6, attributes := #[] }] 1057 2 #[] #[])
  fields := #[]
  methods := #[k17m0]
  instanceTypes := #[]
  staticTypes := #[]
  resolved := Array.replicate 22 none
  statics := none }

def pool18 : Array CpInfo := pool [(1, .methodref 2 3), (0, .class_ 4), (0, .nameAndType 5 6), (0, u "java/lang/Record"), (0, u "<init>"), (0, u "()V"), (0, .fieldref 8 9), (0, .class_ 10), (0, .nameAndType 11 12), (0, u "com/example/lanc/lanc/expression/Type"), (0, u "DOUBLE"), (0, u "Lcom/example/lanc/lanc/expression/Type;"), (0, .fieldref 8 14), (0, .nameAndType 15 12), (0, u "BOOLEAN"), (15, .fieldref 32 33), (0, .class_ 34), (0, .nameAndType 35 36), (0, u "com/example/lanc/lanc/model/StateValuations$Variable"), (0, u "name"), (0, u "Ljava/lang/String;"), (0, .fieldref 32 38), (0, .nameAndType 39 12), (0, u "type"), (0, .fieldref 32 41), (0, .nameAndType 42 43), (0, u "low"), (0, u "I"), (0, .fieldref 32 45), (0, .nameAndType 46 43), (0, u "high"), (22, u "(Ljava/lang/String;Lcom/example/lanc/lanc/expression/Type;II)V"), (6, u "()I"), (5, .class_ 83), (0, u "com/example/lanc/lanc/model/StateValuations")] 30

def k18c0 : Code := { maxStack := 5, maxLocals := 5, code := prog_104_method_1_code, exceptionTable := #[], attributes := #[] }
def k18m0 : Method := { name := "<init>", desc := "(Ljava/lang/String;Lcom/example/lanc/lanc/expression/Type;II)V", sig := { parameters := [(.object "java/lang/String"), (.object "com/example/lanc/lanc/expression/Type"), .int, .int], returnType := none }, accessFlags := 1, code := some k18c0 }
def k18c1 : Code := { maxStack := 1, maxLocals := 1, code := prog_104_method_8_code, exceptionTable := #[], attributes := #[] }
def k18m1 : Method := { name := "low", desc := "()I", sig := { parameters := [], returnType := some .int }, accessFlags := 1, code := some k18c1 }
def k18c2 : Code := { maxStack := 1, maxLocals := 1, code := prog_104_method_9_code, exceptionTable := #[], attributes := #[] }
def k18m2 : Method := { name := "high", desc := "()I", sig := { parameters := [], returnType := some .int }, accessFlags := 1, code := some k18c2 }
/-- com/example/lanc/lanc/model/StateValuations$Variable -/
def k18 : Class := { plain "com/example/lanc/lanc/model/StateValuations$Variable" (some 17) with
  accessFlags := 49
  interfaces := #[]
  cf := some (fileOf pool18 32 #[.nestHost 82] #[{ accessFlags := 1, nameIndex := 5, descriptorIndex := 69, attributes := #[] }, { accessFlags := 1, nameIndex := 42, descriptorIndex := 76, attributes := #[] }, { accessFlags := 1, nameIndex := 46, descriptorIndex := 76, attributes := #[] }] 49 2 #[] #[{ accessFlags := 18, nameIndex := 35, descriptorIndex := 36, attributes := #[] }, { accessFlags := 18, nameIndex := 39, descriptorIndex := 12, attributes := #[] }, { accessFlags := 18, nameIndex := 42, descriptorIndex := 43, attributes := #[] }, { accessFlags := 18, nameIndex := 46, descriptorIndex := 43, attributes := #[] }])
  fields := #[{ name := "name", type := (.object "java/lang/String"), accessFlags := 18, slot := 0, constantValue := 0 }, { name := "type", type := (.object "com/example/lanc/lanc/expression/Type"), accessFlags := 18, slot := 1, constantValue := 0 }, { name := "low", type := .int, accessFlags := 18, slot := 2, constantValue := 0 }, { name := "high", type := .int, accessFlags := 18, slot := 3, constantValue := 0 }]
  methods := #[k18m0, k18m1, k18m2]
  instanceTypes := #[(.object "java/lang/String"), (.object "com/example/lanc/lanc/expression/Type"), .int, .int]
  staticTypes := #[]
  resolved := Array.replicate 114 none
  statics := none }

def pool19 : Array CpInfo := pool [(2, .class_ 4), (1, u "java/lang/Enum"), (0, u "name"), (0, u "Ljava/lang/String;"), (2, u "ordinal"), (0, u "I"), (1, .class_ 14), (1, u "java/lang/Object"), (4, u "hash"), (86, .class_ 108), (1, u "java/lang/Enum$EnumDesc"), (2, .class_ 112), (0, u "java/lang/constant/Constable"), (0, .class_ 114), (0, u "java/lang/Comparable"), (0, .class_ 116), (0, u "java/io/Serializable")] 87

/-- java/lang/Enum -/
def k19 : Class := { plain "java/lang/Enum" (some 0) with
  accessFlags := 1057
  interfaces := #[14, 12, 10]
  cf := some (fileOf pool19 2 #[.nestMembers #[106]] #[] 1057 12 #[111, 113, 115] #[{ accessFlags := 18, nameIndex := 5, descriptorIndex := 6, attributes := #[] }, { accessFlags := 18, nameIndex := 9, descriptorIndex := 10, attributes := #[] }, { accessFlags := 2, nameIndex := 19, descriptorIndex := 10, attributes := #[] }])
  fields := #[{ name := "name", type := (.object "java/lang/String"), accessFlags := 18, slot := 0, constantValue := 0 }, { name := "ordinal", type := .int, accessFlags := 18, slot := 1, constantValue := 0 }, { name := "hash", type := .int, accessFlags := 2, slot := 2, constantValue := 0 }]
  methods := #[]
  instanceTypes := #[(.object "java/lang/String"), .int, .int]
  staticTypes := #[]
  resolved := Array.replicate 204 none
  statics := none }

def pool20 : Array CpInfo := pool [(1, .class_ 2), (0, u "com/example/lanc/lanc/expression/Type"), (2, u "BOOLEAN"), (0, u "Lcom/example/lanc/lanc/expression/Type;"), (2, u "INTEGER"), (2, u "DOUBLE"), (2, u "$VALUES"), (0, u "[Lcom/example/lanc/lanc/expression/Type;"), (6, .class_ 25), (1, u "java/lang/Enum"), (8, u "keyword"), (0, u "Ljava/lang/String;")] 32

/-- com/example/lanc/lanc/expression/Type -/
def k20 : Class := { plain "com/example/lanc/lanc/expression/Type" (some 19) with
  accessFlags := 16433
  interfaces := #[]
  cf := some (fileOf pool20 1 #[] #[] 16433 23 #[] #[{ accessFlags := 16409, nameIndex := 5, descriptorIndex := 6, attributes := #[] }, { accessFlags := 16409, nameIndex := 9, descriptorIndex := 6, attributes := #[] }, { accessFlags := 16409, nameIndex := 12, descriptorIndex := 6, attributes := #[] }, { accessFlags := 18, nameIndex := 34, descriptorIndex := 35, attributes := #[] }, { accessFlags := 4122, nameIndex := 15, descriptorIndex := 16, attributes := #[] }])
  fields := #[{ name := "BOOLEAN", type := (.object "com/example/lanc/lanc/expression/Type"), accessFlags := 16409, slot := 0, constantValue := 0 }, { name := "INTEGER", type := (.object "com/example/lanc/lanc/expression/Type"), accessFlags := 16409, slot := 1, constantValue := 0 }, { name := "DOUBLE", type := (.object "com/example/lanc/lanc/expression/Type"), accessFlags := 16409, slot := 2, constantValue := 0 }, { name := "keyword", type := (.object "java/lang/String"), accessFlags := 18, slot := 3, constantValue := 0 }, { name := "$VALUES", type := (.array (.object "com/example/lanc/lanc/expression/Type")), accessFlags := 4122, slot := 3, constantValue := 0 }]
  methods := #[]
  instanceTypes := #[(.object "java/lang/String"), .int, .int, (.object "java/lang/String")]
  staticTypes := #[(.object "com/example/lanc/lanc/expression/Type"), (.object "com/example/lanc/lanc/expression/Type"), (.object "com/example/lanc/lanc/expression/Type"), (.array (.object "com/example/lanc/lanc/expression/Type"))]
  resolved := Array.replicate 68 none
  statics := some 1 }

def pool21 : Array CpInfo := pool [(1, .class_ 2), (0, u "java/lang/Math"), (1, .class_ 6), (1, u "java/lang/Object"), (0, u "<init>"), (0, u "()V"), (89, .class_ 100), (1, u "java/lang/Math$RandomNumberGeneratorHolder"), (71, u "negativeZeroFloatBits"), (0, u "J"), (2, u "negativeZeroDoubleBits"), (21, u "max"), (46, u "$assertionsDisabled"), (0, u "Z"), (88, u "(II)I"), (2, u "twoToTheDoubleScaleDown"), (0, u "D"), (4, u "twoToTheDoubleScaleUp"), (9, u "E"), (3, u "PI"), (2, u "TAU"), (2, u "DEGREES_TO_RADIANS"), (0, u "RADIANS_TO_DEGREES")] 94

def k21m0 : Method := { name := "<init>", desc := "()V", sig := { parameters := [], returnType := none }, accessFlags := 2, code := none }
def k21c1 : Code := { maxStack := 2, maxLocals := 2, code := jdk_29_method_65_code, exceptionTable := #[], attributes := #[] }
def k21m1 : Method := { name := "max", desc := "(II)I", sig := { parameters := [.int, .int], returnType := some .int }, accessFlags := 9, code := some k21c1 }
/-- java/lang/Math -/
def k21 : Class := { plain "java/lang/Math" (some 0) with
  accessFlags := 49
  interfaces := #[]
  cf := some (fileOf pool21 1 #[.nestMembers #[98]] #[{ accessFlags := 2, nameIndex := 7, descriptorIndex := 8, attributes := #[] }, { accessFlags := 9, nameIndex := 198, descriptorIndex := 335, attributes := #[] }] 49 4 #[] #[{ accessFlags := 25, nameIndex := 354, descriptorIndex := 339, attributes := #[] }, { accessFlags := 25, nameIndex := 358, descriptorIndex := 339, attributes := #[] }, { accessFlags := 25, nameIndex := 361, descriptorIndex := 339, attributes := #[] }, { accessFlags := 26, nameIndex := 364, descriptorIndex := 339, attributes := #[] }, { accessFlags := 26, nameIndex := 365, descriptorIndex := 339, attributes := #[] }, { accessFlags := 26, nameIndex := 172, descriptorIndex := 173, attributes := #[] }, { accessFlags := 26, nameIndex := 176, descriptorIndex := 173, attributes := #[] }, { accessFlags := 8, nameIndex := 344, descriptorIndex := 339, attributes := #[] }, { accessFlags := 8, nameIndex := 338, descriptorIndex := 339, attributes := #[] }, { accessFlags := 4120, nameIndex := 245, descriptorIndex := 246, attributes := #[] }])
  fields := #[{ name := "E", type := .double, accessFlags := 25, slot := 0, constantValue := 0 }, { name := "PI", type := .double, accessFlags := 25, slot := 1, constantValue := 0 }, { name := "TAU", type := .double, accessFlags := 25, slot := 2, constantValue := 0 }, { name := "DEGREES_TO_RADIANS", type := .double, accessFlags := 26, slot := 3, constantValue := 0 }, { name := "RADIANS_TO_DEGREES", type := .double, accessFlags := 26, slot := 4, constantValue := 0 }, { name := "negativeZeroFloatBits", type := .long, accessFlags := 26, slot := 5, constantValue := 0 }, { name := "negativeZeroDoubleBits", type := .long, accessFlags := 26, slot := 6, constantValue := 0 }, { name := "twoToTheDoubleScaleUp", type := .double, accessFlags := 8, slot := 7, constantValue := 0 }, { name := "twoToTheDoubleScaleDown", type := .double, accessFlags := 8, slot := 8, constantValue := 0 }, { name := "$assertionsDisabled", type := .boolean, accessFlags := 4120, slot := 9, constantValue := 0 }]
  methods := #[k21m0, k21m1]
  instanceTypes := #[]
  staticTypes := #[.double, .double, .double, .double, .double, .long, .long, .double, .double, .boolean]
  resolved := Array.replicate 460 none
  statics := none }

def pool22 : Array CpInfo := pool [(1, .methodref 2 3), (0, .class_ 4), (0, .nameAndType 5 6), (0, u "java/lang/Object"), (0, u "<init>"), (0, u "()V"), (0, .interfaceMethodref 8 9), (0, .class_ 10), (0, .nameAndType 11 12), (0, u "java/util/List"), (0, u "size"), (0, u "()I"), (0, .fieldref 14 15), (0, .class_ 16), (0, .nameAndType 17 18), (0, u "com/example/lanc/lanc/model/VariableLayout"), (0, u "low"), (0, u "[I"), (0, .fieldref 14 20), (0, .nameAndType 21 18), (0, u "word"), (0, .fieldref 14 23), (0, .nameAndType 24 18), (0, u "shift"), (0, .fieldref 14 26), (0, .nameAndType 27 28), (0, u "mask"), (0, u "[J"), (0, .interfaceMethodref 8 30), (0, .nameAndType 31 32), (0, u "get"), (0, u "(I)Ljava/lang/Object;"), (0, .class_ 34), (0, u "com/example/lanc/lanc/model/StateValuations$Variable"), (0, .methodref 33 36), (0, .nameAndType 37 12), (0, u "high"), (0, .methodref 33 39), (0, .nameAndType 17 12), (0, .class_ 41), (0, u "java/lang/Long"), (0, .methodref 40 43), (0, .nameAndType 44 45), (0, u "numberOfLeadingZeros"), (0, u "(J)I"), (0, .long 18446744073709551615), (1, .fieldref 14 49), (0, .nameAndType 50 51), (0, u "wordsPerState"), (0, u "I"), (2, u "value"), (0, u "([JII)I"), (0, u "(Ljava/util/List;)V"), (6, u "pack"), (0, u "([I[JI)V")] 8

def k22c0 : Code := { maxStack := 6, maxLocals := 10, code := prog_105_method_1_code, exceptionTable := #[], attributes := #[] }
def k22m0 : Method := { name := "<init>", desc := "(Ljava/util/List;)V", sig := { parameters := [(.object "java/util/List")], returnType := none }, accessFlags := 1, code := some k22c0 }
def k22c1 : Code := { maxStack := 1, maxLocals := 1, code := prog_105_method_2_code, exceptionTable := #[], attributes := #[] }
def k22m1 : Method := { name := "wordsPerState", desc := "()I", sig := { parameters := [], returnType := some .int }, accessFlags := 1, code := some k22c1 }
def k22c2 : Code := { maxStack := 8, maxLocals := 5, code := prog_105_method_3_code, exceptionTable := #[], attributes := #[] }
def k22m2 : Method := { name := "pack", desc := "([I[JI)V", sig := { parameters := [(.array .int), (.array .long), .int], returnType := none }, accessFlags := 1, code := some k22c2 }
def k22c3 : Code := { maxStack := 4, maxLocals := 6, code := prog_105_method_5_code, exceptionTable := #[], attributes := #[] }
def k22m3 : Method := { name := "value", desc := "([JII)I", sig := { parameters := [(.array .long), .int, .int], returnType := some .int }, accessFlags := 1, code := some k22c3 }
/-- com/example/lanc/lanc/model/VariableLayout -/
def k22 : Class := { plain "com/example/lanc/lanc/model/VariableLayout" (some 0) with
  accessFlags := 49
  interfaces := #[]
  cf := some (fileOf pool22 14 #[] #[{ accessFlags := 1, nameIndex := 5, descriptorIndex := 56, attributes := #[] }, { accessFlags := 1, nameIndex := 50, descriptorIndex := 12, attributes := #[] }, { accessFlags := 1, nameIndex := 63, descriptorIndex := 64, attributes := #[] }, { accessFlags := 1, nameIndex := 54, descriptorIndex := 55, attributes := #[] }] 49 2 #[] #[{ accessFlags := 18, nameIndex := 17, descriptorIndex := 18, attributes := #[] }, { accessFlags := 18, nameIndex := 21, descriptorIndex := 18, attributes := #[] }, { accessFlags := 18, nameIndex := 24, descriptorIndex := 18, attributes := #[] }, { accessFlags := 18, nameIndex := 27, descriptorIndex := 28, attributes := #[] }, { accessFlags := 18, nameIndex := 50, descriptorIndex := 51, attributes := #[] }])
  fields := #[{ name := "low", type := (.array .int), accessFlags := 18, slot := 0, constantValue := 0 }, { name := "word", type := (.array .int), accessFlags := 18, slot := 1, constantValue := 0 }, { name := "shift", type := (.array .int), accessFlags := 18, slot := 2, constantValue := 0 }, { name := "mask", type := (.array .long), accessFlags := 18, slot := 3, constantValue := 0 }, { name := "wordsPerState", type := .int, accessFlags := 18, slot := 4, constantValue := 0 }]
  methods := #[k22m0, k22m1, k22m2, k22m3]
  instanceTypes := #[(.array .int), (.array .int), (.array .int), (.array .long), .int]
  staticTypes := #[]
  resolved := Array.replicate 73 none
  statics := none }

def pool23 : Array CpInfo := pool [(2, .class_ 4), (1, u "java/lang/Object"), (0, u "<init>"), (0, u "()V"), (35, .class_ 44), (1, u "java/util/Objects"), (60, .methodref 106 107), (0, .class_ 108), (0, .nameAndType 109 110), (0, u "jdk/internal/util/Preconditions"), (0, u "checkIndex"), (0, u "(IILjava/util/function/BiFunction;)I"), (60, u "(II)I")] 12

def k23m0 : Method := { name := "<init>", desc := "()V", sig := { parameters := [], returnType := none }, accessFlags := 2, code := none }
def k23c1 : Code := { maxStack := 3, maxLocals := 2, code := jdk_31_method_17_code, exceptionTable := #[], attributes := #[] }
def k23m1 : Method := { name := "checkIndex", desc := "(II)I", sig := { parameters := [.int, .int], returnType := some .int }, accessFlags := 9, code := some k23c1 }
/-- java/util/Objects -/
def k23 : Class := { plain "java/util/Objects" (some 0) with
  accessFlags := 49
  interfaces := #[]
  cf := some (fileOf pool23 42 #[] #[{ accessFlags := 2, nameIndex := 5, descriptorIndex := 6, attributes := #[] }, { accessFlags := 9, nameIndex := 109, descriptorIndex := 171, attributes := #[] }] 49 2 #[] #[])
  fields := #[]
  methods := #[k23m0, k23m1]
  instanceTypes := #[]
  staticTypes := #[]
  resolved := Array.replicate 184 none
  statics := none }

def pool24 : Array CpInfo := pool [(2, .class_ 4), (1, u "java/lang/Object"), (0, u "<init>"), (0, u "()V"), (17, .class_ 26), (1, u "jdk/internal/util/Preconditions"), (6, u "checkIndex"), (21, .class_ 56), (0, u "jdk/internal/util/Preconditions$4"), (57, .class_ 115), (0, u "jdk/internal/util/Preconditions$1"), (7, u "SIOOBE_FORMATTER"), (0, u "Ljava/util/function/BiFunction;"), (0, .class_ 126), (0, u "jdk/internal/util/Preconditions$2"), (3, u "AIOOBE_FORMATTER"), (0, .class_ 132), (0, u "jdk/internal/util/Preconditions$3"), (3, u "IOOBE_FORMATTER"), (41, u "(IILjava/util/function/BiFunction;)I")] 15

def k24m0 : Method := { name := "<init>", desc := "()V", sig := { parameters := [], returnType := none }, accessFlags := 1, code := none }
def k24c1 : Code := { maxStack := 3, maxLocals := 3, code := jdk_41_method_11_code, exceptionTable := #[], attributes := #[] }
def k24m1 : Method := { name := "checkIndex", desc := "(IILjava/util/function/BiFunction;)I", sig := { parameters := [.int, .int, (.object "java/util/function/BiFunction")], returnType := some .int }, accessFlags := 9, code := some k24c1 }
/-- jdk/internal/util/Preconditions -/
def k24 : Class := { plain "jdk/internal/util/Preconditions" (some 0) with
  accessFlags := 33
  interfaces := #[]
  cf := some (fileOf pool24 24 #[.nestMembers #[55, 131, 125, 114]] #[{ accessFlags := 1, nameIndex := 5, descriptorIndex := 6, attributes := #[] }, { accessFlags := 9, nameIndex := 33, descriptorIndex := 178, attributes := #[] }] 33 2 #[] #[{ accessFlags := 25, nameIndex := 123, descriptorIndex := 124, attributes := #[] }, { accessFlags := 25, nameIndex := 130, descriptorIndex := 124, attributes := #[] }, { accessFlags := 25, nameIndex := 136, descriptorIndex := 124, attributes := #[] }])
  fields := #[{ name := "SIOOBE_FORMATTER", type := (.object "java/util/function/BiFunction"), accessFlags := 25, slot := 0, constantValue := 0 }, { name := "AIOOBE_FORMATTER", type := (.object "java/util/function/BiFunction"), accessFlags := 25, slot := 1, constantValue := 0 }, { name := "IOOBE_FORMATTER", type := (.object "java/util/function/BiFunction"), accessFlags := 25, slot := 2, constantValue := 0 }]
  methods := #[k24m0, k24m1]
  instanceTypes := #[]
  staticTypes := #[(.object "java/util/function/BiFunction"), (.object "java/util/function/BiFunction"), (.object "java/util/function/BiFunction")]
  resolved := Array.replicate 194 none
  statics := none }

def pool25 : Array CpInfo := pool [(2, .class_ 4), (1, u "java/lang/Object"), (0, u "<init>"), (0, u "()V"), (1, .class_ 10), (1, u "java/lang/Number"), (2, .class_ 14), (0, u "java/io/Serializable"), (0, u "serialVersionUID"), (0, u "J")] 20

def k25m0 : Method := { name := "<init>", desc := "()V", sig := { parameters := [], returnType := none }, accessFlags := 1, code := none }
/-- java/lang/Number -/
def k25 : Class := { plain "java/lang/Number" (some 0) with
  accessFlags := 1057
  interfaces := #[10]
  cf := some (fileOf pool25 8 #[] #[{ accessFlags := 1, nameIndex := 5, descriptorIndex := 6, attributes := #[] }] 1057 2 #[13] #[{ accessFlags := 26, nameIndex := 15, descriptorIndex := 16, attributes := #[] }])
  fields := #[{ name := "serialVersionUID", type := .long, accessFlags := 26, slot := 0, constantValue := 0 }]
  methods := #[k25m0]
  instanceTypes := #[]
  staticTypes := #[.long]
  resolved := Array.replicate 37 none
  statics := none }

def pool26 : Array CpInfo := pool [(1, .class_ 2), (0, u "java/lang/Long"), (15, .class_ 20), (1, u "java/lang/Integer"), (79, u "numberOfLeadingZeros"), (0, u "(J)I"), (133, .class_ 237), (1, u "java/lang/Long$LongCache"), (33, .class_ 272), (0, u "java/lang/Number"), (2, u "value"), (0, u "J"), (31, .methodref 18 309), (0, .nameAndType 100 310), (0, u "(I)I"), (50, u "TYPE"), (0, u "Ljava/lang/Class;"), (0, .class_ 364), (0, u "java/lang/Comparable"), (0, .class_ 366), (0, u "java/lang/constant/Constable"), (0, .class_ 368), (0, u "java/lang/constant/ConstantDesc"), (0, u "MIN_VALUE"), (1, u "MAX_VALUE"), (4, u "SIZE"), (0, u "I"), (1, u "BYTES"), (1, u "serialVersionUID")] 142

def k26c0 : Code := { maxStack := 3, maxLocals := 3, code := jdk_35_method_48_code, exceptionTable := #[], attributes := #[] }
def k26m0 : Method := { name := "numberOfLeadingZeros", desc := "(J)I", sig := { parameters := [.long], returnType := some .int }, accessFlags := 9, code := some k26c0 }
/-- java/lang/Long -/
def k26 : Class := { plain "java/lang/Long" (some 25) with
  accessFlags := 49
  interfaces := #[12, 14, 15]
  cf := some (fileOf pool26 1 #[.nestMembers #[235]] #[{ accessFlags := 9, nameIndex := 100, descriptorIndex := 101, attributes := #[] }] 49 271 #[363, 365, 367] #[{ accessFlags := 25, nameIndex := 369, descriptorIndex := 276, attributes := #[] }, { accessFlags := 25, nameIndex := 371, descriptorIndex := 276, attributes := #[] }, { accessFlags := 25, nameIndex := 361, descriptorIndex := 362, attributes := #[] }, { accessFlags := 18, nameIndex := 275, descriptorIndex := 276, attributes := #[] }, { accessFlags := 25, nameIndex := 376, descriptorIndex := 377, attributes := #[] }, { accessFlags := 25, nameIndex := 379, descriptorIndex := 377, attributes := #[] }, { accessFlags := 26, nameIndex := 381, descriptorIndex := 276, attributes := #[] }])
  fields := #[{ name := "MIN_VALUE", type := .long, accessFlags := 25, slot := 0, constantValue := 0 }, { name := "MAX_VALUE", type := .long, accessFlags := 25, slot := 1, constantValue := 0 }, { name := "TYPE", type := (.object "java/lang/Class"), accessFlags := 25, slot := 2, constantValue := 0 }, { name := "value", type := .long, accessFlags := 18, slot := 0, constantValue := 0 }, { name := "SIZE", type := .int, accessFlags := 25, slot := 3, constantValue := 0 }, { name := "BYTES", type := .int, accessFlags := 25, slot := 4, constantValue := 0 }, { name := "serialVersionUID", type := .long, accessFlags := 26, slot := 5, constantValue := 0 }]
  methods := #[k26m0]
  instanceTypes := #[.long]
  staticTypes := #[.long, .long, (.object "java/lang/Class"), .int, .int, .long]
  resolved := Array.replicate 524 none
  statics := none }

def pool27 : Array CpInfo := pool [(1, .class_ 2), (0, u "java/lang/Integer"), (16, u "digits"), (0, u "[C"), (32, u "numberOfLeadingZeros"), (0, u "(I)I"), (30, u "DigitOnes"), (0, u "[B"), (2, u "DigitTens"), (99, .class_ 190), (0, u "java/lang/Integer$IntegerCache"), (3, u "I"), (8, .class_ 204), (0, u "java/lang/Number"), (2, u "value"), (56, .integer 65536), (37, u "TYPE"), (0, u "Ljava/lang/Class;"), (0, .class_ 305), (0, u "java/lang/Comparable"), (0, .class_ 307), (0, u "java/lang/constant/Constable"), (0, .class_ 309), (0, u "java/lang/constant/ConstantDesc"), (0, u "MIN_VALUE"), (1, u "MAX_VALUE"), (3, u "SIZE"), (1, u "BYTES"), (1, u "serialVersionUID"), (0, u "J")] 131

def k27c0 : Code := { maxStack := 3, maxLocals := 2, code := jdk_33_method_47_code, exceptionTable := #[], attributes := #[] }
def k27m0 : Method := { name := "numberOfLeadingZeros", desc := "(I)I", sig := { parameters := [.int], returnType := some .int }, accessFlags := 9, code := some k27c0 }
/-- java/lang/Integer -/
def k27 : Class := { plain "java/lang/Integer" (some 25) with
  accessFlags := 49
  interfaces := #[12, 14, 15]
  cf := some (fileOf pool27 1 #[.nestMembers #[189]] #[{ accessFlags := 9, nameIndex := 53, descriptorIndex := 54, attributes := #[] }] 49 203 #[304, 306, 308] #[{ accessFlags := 25, nameIndex := 310, descriptorIndex := 194, attributes := #[] }, { accessFlags := 25, nameIndex := 312, descriptorIndex := 194, attributes := #[] }, { accessFlags := 25, nameIndex := 302, descriptorIndex := 303, attributes := #[] }, { accessFlags := 24, nameIndex := 19, descriptorIndex := 20, attributes := #[] }, { accessFlags := 24, nameIndex := 89, descriptorIndex := 86, attributes := #[] }, { accessFlags := 24, nameIndex := 85, descriptorIndex := 86, attributes := #[] }, { accessFlags := 18, nameIndex := 207, descriptorIndex := 194, attributes := #[] }, { accessFlags := 25, nameIndex := 316, descriptorIndex := 194, attributes := #[] }, { accessFlags := 25, nameIndex := 318, descriptorIndex := 194, attributes := #[] }, { accessFlags := 26, nameIndex := 320, descriptorIndex := 321, attributes := #[] }])
  fields := #[{ name := "MIN_VALUE", type := .int, accessFlags := 25, slot := 0, constantValue := 0 }, { name := "MAX_VALUE", type := .int, accessFlags := 25, slot := 1, constantValue := 0 }, { name := "TYPE", type := (.object "java/lang/Class"), accessFlags := 25, slot := 2, constantValue := 0 }, { name := "digits", type := (.array .char), accessFlags := 24, slot := 3, constantValue := 0 }, { name := "DigitTens", type := (.array .byte), accessFlags := 24, slot := 4, constantValue := 0 }, { name := "DigitOnes", type := (.array .byte), accessFlags := 24, slot := 5, constantValue := 0 }, { name := "value", type := .int, accessFlags := 18, slot := 0, constantValue := 0 }, { name := "SIZE", type := .int, accessFlags := 25, slot := 6, constantValue := 0 }, { name := "BYTES", type := .int, accessFlags := 25, slot := 7, constantValue := 0 }, { name := "serialVersionUID", type := .long, accessFlags := 26, slot := 8, constantValue := 0 }]
  methods := #[k27m0]
  instanceTypes := #[.int]
  staticTypes := #[.int, .int, (.object "java/lang/Class"), (.array .char), (.array .byte), (.array .byte), .int, .int, .long]
  resolved := Array.replicate 453 none
  statics := none }

/-- the primitive byte -/
def k28 : Class := { plain "byte" none with kind := .primitive 'B', accessFlags := 0x411 }
/-- [B -/
def k29 : Class := { plain "[B" (some 0) with kind := .array 28 .byte, interfaces := #[9, 10], accessFlags := 1041 }

/-- the primitive int -/
def k30 : Class := { plain "int" none with kind := .primitive 'I', accessFlags := 0x411 }
/-- [I -/
def k31 : Class := { plain "[I" (some 0) with kind := .array 30 .int, interfaces := #[9, 10], accessFlags := 1041 }

/-- the primitive long -/
def k32 : Class := { plain "long" none with kind := .primitive 'J', accessFlags := 0x411 }
/-- [J -/
def k33 : Class := { plain "[J" (some 0) with kind := .array 32 .long, interfaces := #[9, 10], accessFlags := 1041 }

/-- [Ljava/lang/Object; -/
def k34 : Class := { plain "[Ljava/lang/Object;" (some 0) with kind := .array 0 (.object "java/lang/Object"), interfaces := #[9, 10], accessFlags := 1041 }

def heap : Heap := #[{ cls := 11, slots := #[.long 0, .int 0, .ref 5, .ref 6], vm := .statics 11 },
  { cls := 20, slots := #[.ref 2, .ref 3, .ref 4, .null], vm := .statics 20 },
  { cls := 20, slots := #[.null, .int 0, .int 0, .null], vm := .none },
  { cls := 20, slots := #[.null, .int 1, .int 0, .null], vm := .none },
  { cls := 20, slots := #[.null, .int 2, .int 0, .null], vm := .none },
  { cls := 34, slots := #[], vm := .none },
  { cls := 34, slots := #[], vm := .none }]
def classes : Array Class := #[k0, k1, k2, k3, k4, k5, k6, k7, k8, k9, k10, k11, k12, k13, k14, k15, k16, k17, k18, k19, k20, k21, k22, k23, k24, k25, k26, k27, k28, k29, k30, k31, k32, k33, k34]
def interned : List (Array UInt16 × Addr) := []
def slotsUsed : Nat := 20
def theMethod : MethodId := ⟨1, 6⟩
def args0 : Array Value := #[.long 5, .long 6, .long 7, .long 8, .long 9, .int 4225]
def aboutOver (below : List Frame) : State where
  vm := { classes := classes, interned := interned.toArray }
  heap := heap
  slotsUsed := slotsUsed
  threads := #[{ frames := .invoking theMethod args0 :: below }]
def below0 : List Frame := [.native { method := ⟨0, 0⟩, args := #[] }]
def about1 : State := aboutOver below0
def p0 : Program := .bare "" "" ""
def e0 : Env := launch0.env 0 0 0
theorem w_frames : about1.frames = Frame.invoking theMethod args0 :: below0 := rfl
set_option maxRecDepth 65536 in
theorem w_args : argsFit about1.vm theMethod args0 = true := by decide +kernel
set_option maxRecDepth 65536 in
theorem w_heap : heapFits about1 = true := by decide +kernel
set_option maxRecDepth 65536 in
theorem w_runnable : about1.curStatus? = some .runnable := by decide +kernel
set_option maxRecDepth 65536 in
theorem w_alone : about1.alone = true := by decide +kernel
set_option maxRecDepth 65536 in
theorem w_named : about1.methodNamed? x = some theMethod := by decide +kernel
set_option maxRecDepth 65536 in
theorem w_hears : about1.hears theMethod below0 = true := by decide +kernel
set_option maxRecDepth 65536 in
theorem w_ripe : about1.ripe theMethod args0 below0 = true := by decide +kernel
theorem w_running : about1.status = .running := rfl
set_option maxRecDepth 65536 in
theorem w_room : about1.hasRoom e0.platform room_1 = true :=
  launch0.hasRoom_least _ room_1 (by decide +kernel) (by decide +kernel) (by decide +kernel) (by decide +kernel) (by decide +kernel) (by decide +kernel)
theorem allAtoms_all (ts : List Jvm.Cond) (a : Array Jvm.Value) (st : Jvm.State) : (allAtoms ts).before a st = ts.all (fun c => c.before a st) := by
  induction ts with
  | nil => rfl
  | cons c t ih =>
    show (Jvm.Cond.and c (allAtoms t)).before a st = _
    rw [Jvm.Cond.before_and, ih, List.all_cons]
def words1 : List Jvm.Cond := Jvm.Cond.code x code maxLocals ret :: tables_1
/-- a 'code' word, met by the world's own term for the bytes: nothing is compared byte by byte -/
theorem code_word {y : MethodName} {bytes : ByteArray} {mx : Nat} {rt : Option FieldType} {a : Array Value} {s : State} {m : MethodId} {meth : Method} {c : Code} (h1 : s.methodNamed? y = some m) (h2 : s.vm.method? m = some meth) (h3 : meth.code = some c) (h4 : c.code = bytes)
    (h5 : (c.maxLocals == mx && c.exceptionTable.isEmpty && decide (c.maxStack ≤ mostOperands) && decide (meth.sig.returnType = rt) && !meth.locks && decide (parseMethodDescriptor y.desc = some meth.sig)) = true) : (Jvm.Cond.code y bytes mx rt).before a s = true := by
  simp only [Bool.and_eq_true, beq_iff_eq, Bool.not_eq_true', decide_eq_true_eq] at h5
  obtain ⟨⟨⟨⟨⟨g1, g2⟩, g3⟩, g4⟩, g5⟩, g6⟩ := h5
  simp [Cond.before, Cond.holds, Cond.value, h1, h2, h3, h4, g1, g2, g3, g4, g5, g6]
def isCode : Jvm.Cond → Bool
  | .code _ _ _ _ => true
  | _ => false
theorem all_split {L : List Jvm.Cond} {P : Jvm.Cond → Bool} (h1 : L.all (fun c => isCode c || P c) = true) (h2 : ∀ c ∈ L.filter isCode, P c = true) : L.all P = true := by
  refine List.all_eq_true.mpr fun c hc => ?_
  have h := List.all_eq_true.mp h1 c hc
  rcases Bool.eq_false_or_eq_true (isCode c) with hi | hi
  · exact h2 c (List.mem_filter.mpr ⟨hc, hi⟩)
  · simpa [hi] using h
set_option maxRecDepth 65536 in
theorem w_c0 : (Jvm.Cond.code x code maxLocals ret).before args0 about1 = true := code_word (m := ⟨1, 6⟩) (meth := k1m6) (c := k1c6) (by decide +kernel) rfl rfl rfl (by decide +kernel)
set_option maxRecDepth 65536 in
theorem w_c1 : (Jvm.Cond.code ({ cls := "com/example/lanc/lanc/model/VariableLayoutPackPinLaw", name := "span", desc := "(JIZ)J" } : Jvm.MethodName) method_2_code (4 : Nat) (Option.some Jvm.ClassFile.FieldType.long)).before args0 about1 = true := code_word (m := ⟨1, 1⟩) (meth := k1m1) (c := k1c1) (by decide +kernel) rfl rfl rfl (by decide +kernel)
set_option maxRecDepth 65536 in
theorem w_c2 : (Jvm.Cond.code ({ cls := "com/example/lanc/lanc/model/VariableLayoutPackPinLaw", name := "low", desc := "(JJZ)J" } : Jvm.MethodName) method_3_code (7 : Nat) (Option.some Jvm.ClassFile.FieldType.long)).before args0 about1 = true := code_word (m := ⟨1, 2⟩) (meth := k1m2) (c := k1c2) (by decide +kernel) rfl rfl rfl (by decide +kernel)
set_option maxRecDepth 65536 in
theorem w_c3 : (Jvm.Cond.code ({ cls := "com/example/lanc/lanc/model/VariableLayoutPackPinLaw", name := "pick", desc := "(JJI)I" } : Jvm.MethodName) method_4_code (7 : Nat) (Option.some Jvm.ClassFile.FieldType.int)).before args0 about1 = true := code_word (m := ⟨1, 3⟩) (meth := k1m3) (c := k1c3) (by decide +kernel) rfl rfl rfl (by decide +kernel)
set_option maxRecDepth 65536 in
theorem w_c4 : (Jvm.Cond.code ({ cls := "java/util/ArrayList", name := "<init>", desc := "()V" } : Jvm.MethodName) jdk_38_method_2_code (1 : Nat) (Option.none : Option Jvm.ClassFile.FieldType)).before args0 about1 = true := code_word (m := ⟨11, 0⟩) (meth := k11m0) (c := k11c0) (by decide +kernel) rfl rfl rfl (by decide +kernel)
set_option maxRecDepth 65536 in
theorem w_c5 : (Jvm.Cond.code ({ cls := "java/util/AbstractList", name := "<init>", desc := "()V" } : Jvm.MethodName) jdk_39_method_1_code (1 : Nat) (Option.none : Option Jvm.ClassFile.FieldType)).before args0 about1 = true := code_word (m := ⟨7, 0⟩) (meth := k7m0) (c := k7c0) (by decide +kernel) rfl rfl rfl (by decide +kernel)
set_option maxRecDepth 65536 in
theorem w_c6 : (Jvm.Cond.code ({ cls := "java/util/AbstractCollection", name := "<init>", desc := "()V" } : Jvm.MethodName) jdk_22_method_1_code (1 : Nat) (Option.none : Option Jvm.ClassFile.FieldType)).before args0 about1 = true := code_word (m := ⟨4, 0⟩) (meth := k4m0) (c := k4c0) (by decide +kernel) rfl rfl rfl (by decide +kernel)
set_option maxRecDepth 65536 in
theorem w_c7 : (Jvm.Cond.code ({ cls := "java/lang/Object", name := "<init>", desc := "()V" } : Jvm.MethodName) object_method_1_code (1 : Nat) (Option.none : Option Jvm.ClassFile.FieldType)).before args0 about1 = true := code_word (m := ⟨0, 0⟩) (meth := k0m0) (c := k0c0) (by decide +kernel) rfl rfl rfl (by decide +kernel)
set_option maxRecDepth 65536 in
theorem w_c8 : (Jvm.Cond.code ({ cls := "com/example/lanc/lanc/model/VariableLayoutPackPinLaw", name := "variable", desc := "(Ljava/lang/String;JJZ)Lcom/example/lanc/lanc/model/StateValuations$Variable;" } : Jvm.MethodName) method_5_code (6 : Nat) (Option.some (Jvm.ClassFile.FieldType.object "com/example/lanc/lanc/model/StateValuations$Variable"))).before args0 about1 = true := code_word (m := ⟨1, 4⟩) (meth := k1m4) (c := k1c4) (by decide +kernel) rfl rfl rfl (by decide +kernel)
set_option maxRecDepth 65536 in
theorem w_c9 : (Jvm.Cond.code ({ cls := "com/example/lanc/lanc/model/StateValuations$Variable", name := "<init>", desc := "(Ljava/lang/String;Lcom/example/lanc/lanc/expression/Type;II)V" } : Jvm.MethodName) prog_104_method_1_code (5 : Nat) (Option.none : Option Jvm.ClassFile.FieldType)).before args0 about1 = true := code_word (m := ⟨18, 0⟩) (meth := k18m0) (c := k18c0) (by decide +kernel) rfl rfl rfl (by decide +kernel)
set_option maxRecDepth 65536 in
theorem w_c10 : (Jvm.Cond.code ({ cls := "java/lang/Record", name := "<init>", desc := "()V" } : Jvm.MethodName) jdk_30_method_1_code (1 : Nat) (Option.none : Option Jvm.ClassFile.FieldType)).before args0 about1 = true := code_word (m := ⟨17, 0⟩) (meth := k17m0) (c := k17c0) (by decide +kernel) rfl rfl rfl (by decide +kernel)
set_option maxRecDepth 65536 in
theorem w_c11 : (Jvm.Cond.code ({ cls := "java/util/ArrayList", name := "add", desc := "(Ljava/lang/Object;)Z" } : Jvm.MethodName) jdk_38_method_25_code (2 : Nat) (Option.some Jvm.ClassFile.FieldType.boolean)).before args0 about1 = true := code_word (m := ⟨11, 7⟩) (meth := k11m7) (c := k11c7) (by decide +kernel) rfl rfl rfl (by decide +kernel)
set_option maxRecDepth 65536 in
theorem w_c12 : (Jvm.Cond.code ({ cls := "java/util/ArrayList", name := "add", desc := "(Ljava/lang/Object;[Ljava/lang/Object;I)V" } : Jvm.MethodName) jdk_38_method_24_code (4 : Nat) (Option.none : Option Jvm.ClassFile.FieldType)).before args0 about1 = true := code_word (m := ⟨11, 6⟩) (meth := k11m6) (c := k11c6) (by decide +kernel) rfl rfl rfl (by decide +kernel)
set_option maxRecDepth 65536 in
theorem w_c13 : (Jvm.Cond.code ({ cls := "java/util/ArrayList", name := "grow", desc := "()[Ljava/lang/Object;" } : Jvm.MethodName) jdk_38_method_7_code (1 : Nat) (Option.some (Jvm.ClassFile.FieldType.array (Jvm.ClassFile.FieldType.object "java/lang/Object")))).before args0 about1 = true := code_word (m := ⟨11, 2⟩) (meth := k11m2) (c := k11c2) (by decide +kernel) rfl rfl rfl (by decide +kernel)
set_option maxRecDepth 65536 in
theorem w_c14 : (Jvm.Cond.code ({ cls := "java/util/ArrayList", name := "grow", desc := "(I)[Ljava/lang/Object;" } : Jvm.MethodName) jdk_38_method_6_code (4 : Nat) (Option.some (Jvm.ClassFile.FieldType.array (Jvm.ClassFile.FieldType.object "java/lang/Object")))).before args0 about1 = true := code_word (m := ⟨11, 1⟩) (meth := k11m1) (c := k11c1) (by decide +kernel) rfl rfl rfl (by decide +kernel)
set_option maxRecDepth 65536 in
theorem w_c15 : (Jvm.Cond.code ({ cls := "java/lang/Math", name := "max", desc := "(II)I" } : Jvm.MethodName) jdk_29_method_65_code (2 : Nat) (Option.some Jvm.ClassFile.FieldType.int)).before args0 about1 = true := code_word (m := ⟨21, 1⟩) (meth := k21m1) (c := k21c1) (by decide +kernel) rfl rfl rfl (by decide +kernel)
set_option maxRecDepth 65536 in
theorem w_c16 : (Jvm.Cond.code ({ cls := "com/example/lanc/lanc/model/VariableLayout", name := "<init>", desc := "(Ljava/util/List;)V" } : Jvm.MethodName) prog_105_method_1_code (10 : Nat) (Option.none : Option Jvm.ClassFile.FieldType)).before args0 about1 = true := code_word (m := ⟨22, 0⟩) (meth := k22m0) (c := k22c0) (by decide +kernel) rfl rfl rfl (by decide +kernel)
set_option maxRecDepth 65536 in
theorem w_c17 : (Jvm.Cond.code ({ cls := "java/util/ArrayList", name := "size", desc := "()I" } : Jvm.MethodName) jdk_38_method_8_code (1 : Nat) (Option.some Jvm.ClassFile.FieldType.int)).before args0 about1 = true := code_word (m := ⟨11, 3⟩) (meth := k11m3) (c := k11c3) (by decide +kernel) rfl rfl rfl (by decide +kernel)
set_option maxRecDepth 65536 in
theorem w_c18 : (Jvm.Cond.code ({ cls := "java/util/ArrayList", name := "get", desc := "(I)Ljava/lang/Object;" } : Jvm.MethodName) jdk_38_method_20_code (2 : Nat) (Option.some (Jvm.ClassFile.FieldType.object "java/lang/Object"))).before args0 about1 = true := code_word (m := ⟨11, 5⟩) (meth := k11m5) (c := k11c5) (by decide +kernel) rfl rfl rfl (by decide +kernel)
set_option maxRecDepth 65536 in
theorem w_c19 : (Jvm.Cond.code ({ cls := "java/util/Objects", name := "checkIndex", desc := "(II)I" } : Jvm.MethodName) jdk_31_method_17_code (2 : Nat) (Option.some Jvm.ClassFile.FieldType.int)).before args0 about1 = true := code_word (m := ⟨23, 1⟩) (meth := k23m1) (c := k23c1) (by decide +kernel) rfl rfl rfl (by decide +kernel)
set_option maxRecDepth 65536 in
theorem w_c20 : (Jvm.Cond.code ({ cls := "jdk/internal/util/Preconditions", name := "checkIndex", desc := "(IILjava/util/function/BiFunction;)I" } : Jvm.MethodName) jdk_41_method_11_code (3 : Nat) (Option.some Jvm.ClassFile.FieldType.int)).before args0 about1 = true := code_word (m := ⟨24, 1⟩) (meth := k24m1) (c := k24c1) (by decide +kernel) rfl rfl rfl (by decide +kernel)
set_option maxRecDepth 65536 in
theorem w_c21 : (Jvm.Cond.code ({ cls := "java/util/ArrayList", name := "elementData", desc := "(I)Ljava/lang/Object;" } : Jvm.MethodName) jdk_38_method_18_code (2 : Nat) (Option.some (Jvm.ClassFile.FieldType.object "java/lang/Object"))).before args0 about1 = true := code_word (m := ⟨11, 4⟩) (meth := k11m4) (c := k11c4) (by decide +kernel) rfl rfl rfl (by decide +kernel)
set_option maxRecDepth 65536 in
theorem w_c22 : (Jvm.Cond.code ({ cls := "com/example/lanc/lanc/model/StateValuations$Variable", name := "high", desc := "()I" } : Jvm.MethodName) prog_104_method_9_code (1 : Nat) (Option.some Jvm.ClassFile.FieldType.int)).before args0 about1 = true := code_word (m := ⟨18, 2⟩) (meth := k18m2) (c := k18c2) (by decide +kernel) rfl rfl rfl (by decide +kernel)
set_option maxRecDepth 65536 in
theorem w_c23 : (Jvm.Cond.code ({ cls := "com/example/lanc/lanc/model/StateValuations$Variable", name := "low", desc := "()I" } : Jvm.MethodName) prog_104_method_8_code (1 : Nat) (Option.some Jvm.ClassFile.FieldType.int)).before args0 about1 = true := code_word (m := ⟨18, 1⟩) (meth := k18m1) (c := k18c1) (by decide +kernel) rfl rfl rfl (by decide +kernel)
set_option maxRecDepth 65536 in
theorem w_c24 : (Jvm.Cond.code ({ cls := "java/lang/Long", name := "numberOfLeadingZeros", desc := "(J)I" } : Jvm.MethodName) jdk_35_method_48_code (3 : Nat) (Option.some Jvm.ClassFile.FieldType.int)).before args0 about1 = true := code_word (m := ⟨26, 0⟩) (meth := k26m0) (c := k26c0) (by decide +kernel) rfl rfl rfl (by decide +kernel)
set_option maxRecDepth 65536 in
theorem w_c25 : (Jvm.Cond.code ({ cls := "java/lang/Integer", name := "numberOfLeadingZeros", desc := "(I)I" } : Jvm.MethodName) jdk_33_method_47_code (2 : Nat) (Option.some Jvm.ClassFile.FieldType.int)).before args0 about1 = true := code_word (m := ⟨27, 0⟩) (meth := k27m0) (c := k27c0) (by decide +kernel) rfl rfl rfl (by decide +kernel)
set_option maxRecDepth 65536 in
theorem w_c26 : (Jvm.Cond.code ({ cls := "com/example/lanc/lanc/model/VariableLayout", name := "pack", desc := "([I[JI)V" } : Jvm.MethodName) prog_105_method_3_code (5 : Nat) (Option.none : Option Jvm.ClassFile.FieldType)).before args0 about1 = true := code_word (m := ⟨22, 2⟩) (meth := k22m2) (c := k22c2) (by decide +kernel) rfl rfl rfl (by decide +kernel)
set_option maxRecDepth 65536 in
theorem w_c27 : (Jvm.Cond.code ({ cls := "com/example/lanc/lanc/model/VariableLayout", name := "wordsPerState", desc := "()I" } : Jvm.MethodName) prog_105_method_2_code (1 : Nat) (Option.some Jvm.ClassFile.FieldType.int)).before args0 about1 = true := code_word (m := ⟨22, 1⟩) (meth := k22m1) (c := k22c1) (by decide +kernel) rfl rfl rfl (by decide +kernel)
set_option maxRecDepth 65536 in
theorem w_c28 : (Jvm.Cond.code ({ cls := "com/example/lanc/lanc/model/VariableLayoutPackPinLaw", name := "slot", desc := "([J[JIIIJ)Z" } : Jvm.MethodName) method_6_code (7 : Nat) (Option.some Jvm.ClassFile.FieldType.boolean)).before args0 about1 = true := code_word (m := ⟨1, 5⟩) (meth := k1m5) (c := k1c5) (by decide +kernel) rfl rfl rfl (by decide +kernel)
set_option maxRecDepth 65536 in
theorem w_c29 : (Jvm.Cond.code ({ cls := "com/example/lanc/lanc/model/VariableLayout", name := "value", desc := "([JII)I" } : Jvm.MethodName) prog_105_method_5_code (6 : Nat) (Option.some Jvm.ClassFile.FieldType.int)).before args0 about1 = true := code_word (m := ⟨22, 3⟩) (meth := k22m3) (c := k22c3) (by decide +kernel) rfl rfl rfl (by decide +kernel)
def codes1 : List Jvm.Cond := [Jvm.Cond.code x code maxLocals ret, Jvm.Cond.code ({ cls := "com/example/lanc/lanc/model/VariableLayoutPackPinLaw", name := "span", desc := "(JIZ)J" } : Jvm.MethodName) method_2_code (4 : Nat) (Option.some Jvm.ClassFile.FieldType.long), Jvm.Cond.code ({ cls := "com/example/lanc/lanc/model/VariableLayoutPackPinLaw", name := "low", desc := "(JJZ)J" } : Jvm.MethodName) method_3_code (7 : Nat) (Option.some Jvm.ClassFile.FieldType.long), Jvm.Cond.code ({ cls := "com/example/lanc/lanc/model/VariableLayoutPackPinLaw", name := "pick", desc := "(JJI)I" } : Jvm.MethodName) method_4_code (7 : Nat) (Option.some Jvm.ClassFile.FieldType.int), Jvm.Cond.code ({ cls := "java/util/ArrayList", name := "<init>", desc := "()V" } : Jvm.MethodName) jdk_38_method_2_code (1 : Nat) (Option.none : Option Jvm.ClassFile.FieldType), Jvm.Cond.code ({ cls := "java/util/AbstractList", name := "<init>", desc := "()V" } : Jvm.MethodName) jdk_39_method_1_code (1 : Nat) (Option.none : Option Jvm.ClassFile.FieldType), Jvm.Cond.code ({ cls := "java/util/AbstractCollection", name := "<init>", desc := "()V" } : Jvm.MethodName) jdk_22_method_1_code (1 : Nat) (Option.none : Option Jvm.ClassFile.FieldType), Jvm.Cond.code ({ cls := "java/lang/Object", name := "<init>", desc := "()V" } : Jvm.MethodName) object_method_1_code (1 : Nat) (Option.none : Option Jvm.ClassFile.FieldType), Jvm.Cond.code ({ cls := "com/example/lanc/lanc/model/VariableLayoutPackPinLaw", name := "variable", desc := "(Ljava/lang/String;JJZ)Lcom/example/lanc/lanc/model/StateValuations$Variable;" } : Jvm.MethodName) method_5_code (6 : Nat) (Option.some (Jvm.ClassFile.FieldType.object "com/example/lanc/lanc/model/StateValuations$Variable")), Jvm.Cond.code ({ cls := "com/example/lanc/lanc/model/StateValuations$Variable", name := "<init>", desc := "(Ljava/lang/String;Lcom/example/lanc/lanc/expression/Type;II)V" } : Jvm.MethodName) prog_104_method_1_code (5 : Nat) (Option.none : Option Jvm.ClassFile.FieldType), Jvm.Cond.code ({ cls := "java/lang/Record", name := "<init>", desc := "()V" } : Jvm.MethodName) jdk_30_method_1_code (1 : Nat) (Option.none : Option Jvm.ClassFile.FieldType), Jvm.Cond.code ({ cls := "java/util/ArrayList", name := "add", desc := "(Ljava/lang/Object;)Z" } : Jvm.MethodName) jdk_38_method_25_code (2 : Nat) (Option.some Jvm.ClassFile.FieldType.boolean), Jvm.Cond.code ({ cls := "java/util/ArrayList", name := "add", desc := "(Ljava/lang/Object;[Ljava/lang/Object;I)V" } : Jvm.MethodName) jdk_38_method_24_code (4 : Nat) (Option.none : Option Jvm.ClassFile.FieldType), Jvm.Cond.code ({ cls := "java/util/ArrayList", name := "grow", desc := "()[Ljava/lang/Object;" } : Jvm.MethodName) jdk_38_method_7_code (1 : Nat) (Option.some (Jvm.ClassFile.FieldType.array (Jvm.ClassFile.FieldType.object "java/lang/Object"))), Jvm.Cond.code ({ cls := "java/util/ArrayList", name := "grow", desc := "(I)[Ljava/lang/Object;" } : Jvm.MethodName) jdk_38_method_6_code (4 : Nat) (Option.some (Jvm.ClassFile.FieldType.array (Jvm.ClassFile.FieldType.object "java/lang/Object"))), Jvm.Cond.code ({ cls := "java/lang/Math", name := "max", desc := "(II)I" } : Jvm.MethodName) jdk_29_method_65_code (2 : Nat) (Option.some Jvm.ClassFile.FieldType.int), Jvm.Cond.code ({ cls := "com/example/lanc/lanc/model/VariableLayout", name := "<init>", desc := "(Ljava/util/List;)V" } : Jvm.MethodName) prog_105_method_1_code (10 : Nat) (Option.none : Option Jvm.ClassFile.FieldType), Jvm.Cond.code ({ cls := "java/util/ArrayList", name := "size", desc := "()I" } : Jvm.MethodName) jdk_38_method_8_code (1 : Nat) (Option.some Jvm.ClassFile.FieldType.int), Jvm.Cond.code ({ cls := "java/util/ArrayList", name := "get", desc := "(I)Ljava/lang/Object;" } : Jvm.MethodName) jdk_38_method_20_code (2 : Nat) (Option.some (Jvm.ClassFile.FieldType.object "java/lang/Object")), Jvm.Cond.code ({ cls := "java/util/Objects", name := "checkIndex", desc := "(II)I" } : Jvm.MethodName) jdk_31_method_17_code (2 : Nat) (Option.some Jvm.ClassFile.FieldType.int), Jvm.Cond.code ({ cls := "jdk/internal/util/Preconditions", name := "checkIndex", desc := "(IILjava/util/function/BiFunction;)I" } : Jvm.MethodName) jdk_41_method_11_code (3 : Nat) (Option.some Jvm.ClassFile.FieldType.int), Jvm.Cond.code ({ cls := "java/util/ArrayList", name := "elementData", desc := "(I)Ljava/lang/Object;" } : Jvm.MethodName) jdk_38_method_18_code (2 : Nat) (Option.some (Jvm.ClassFile.FieldType.object "java/lang/Object")), Jvm.Cond.code ({ cls := "com/example/lanc/lanc/model/StateValuations$Variable", name := "high", desc := "()I" } : Jvm.MethodName) prog_104_method_9_code (1 : Nat) (Option.some Jvm.ClassFile.FieldType.int), Jvm.Cond.code ({ cls := "com/example/lanc/lanc/model/StateValuations$Variable", name := "low", desc := "()I" } : Jvm.MethodName) prog_104_method_8_code (1 : Nat) (Option.some Jvm.ClassFile.FieldType.int), Jvm.Cond.code ({ cls := "java/lang/Long", name := "numberOfLeadingZeros", desc := "(J)I" } : Jvm.MethodName) jdk_35_method_48_code (3 : Nat) (Option.some Jvm.ClassFile.FieldType.int), Jvm.Cond.code ({ cls := "java/lang/Integer", name := "numberOfLeadingZeros", desc := "(I)I" } : Jvm.MethodName) jdk_33_method_47_code (2 : Nat) (Option.some Jvm.ClassFile.FieldType.int), Jvm.Cond.code ({ cls := "com/example/lanc/lanc/model/VariableLayout", name := "pack", desc := "([I[JI)V" } : Jvm.MethodName) prog_105_method_3_code (5 : Nat) (Option.none : Option Jvm.ClassFile.FieldType), Jvm.Cond.code ({ cls := "com/example/lanc/lanc/model/VariableLayout", name := "wordsPerState", desc := "()I" } : Jvm.MethodName) prog_105_method_2_code (1 : Nat) (Option.some Jvm.ClassFile.FieldType.int), Jvm.Cond.code ({ cls := "com/example/lanc/lanc/model/VariableLayoutPackPinLaw", name := "slot", desc := "([J[JIIIJ)Z" } : Jvm.MethodName) method_6_code (7 : Nat) (Option.some Jvm.ClassFile.FieldType.boolean), Jvm.Cond.code ({ cls := "com/example/lanc/lanc/model/VariableLayout", name := "value", desc := "([JII)I" } : Jvm.MethodName) prog_105_method_5_code (6 : Nat) (Option.some Jvm.ClassFile.FieldType.int)]
set_option maxRecDepth 65536 in
theorem codes_eq : words1.filter isCode = codes1 := rfl
theorem w_codes : ∀ c ∈ words1.filter isCode, c.before args0 about1 = true := by
  rw [codes_eq]
  intro c hc
  simp only [codes1, List.mem_cons, List.not_mem_nil, or_false] at hc
  rcases hc with rfl | rfl | rfl | rfl | rfl | rfl | rfl | rfl | rfl | rfl | rfl | rfl | rfl | rfl | rfl | rfl | rfl | rfl | rfl | rfl | rfl | rfl | rfl | rfl | rfl | rfl | rfl | rfl | rfl | rfl
  · exact w_c0
  · exact w_c1
  · exact w_c2
  · exact w_c3
  · exact w_c4
  · exact w_c5
  · exact w_c6
  · exact w_c7
  · exact w_c8
  · exact w_c9
  · exact w_c10
  · exact w_c11
  · exact w_c12
  · exact w_c13
  · exact w_c14
  · exact w_c15
  · exact w_c16
  · exact w_c17
  · exact w_c18
  · exact w_c19
  · exact w_c20
  · exact w_c21
  · exact w_c22
  · exact w_c23
  · exact w_c24
  · exact w_c25
  · exact w_c26
  · exact w_c27
  · exact w_c28
  · exact w_c29
set_option maxRecDepth 65536 in
theorem w_t1 : (words1.take 24).all (fun c => isCode c || c.before args0 about1) = true := by decide +kernel
set_option maxRecDepth 65536 in
theorem w_t2 : ((words1.drop 24).take 24).all (fun c => isCode c || c.before args0 about1) = true := by decide +kernel
set_option maxRecDepth 65536 in
theorem w_t3 : (((words1.drop 24).drop 24).take 24).all (fun c => isCode c || c.before args0 about1) = true := by decide +kernel
set_option maxRecDepth 65536 in
theorem w_t4 : ((((words1.drop 24).drop 24).drop 24).take 24).all (fun c => isCode c || c.before args0 about1) = true := by decide +kernel
set_option maxRecDepth 65536 in
theorem w_t5 : (((((words1.drop 24).drop 24).drop 24).drop 24).take 24).all (fun c => isCode c || c.before args0 about1) = true := by decide +kernel
set_option maxRecDepth 65536 in
theorem w_t6 : ((((((words1.drop 24).drop 24).drop 24).drop 24).drop 24).take 24).all (fun c => isCode c || c.before args0 about1) = true := by decide +kernel
set_option maxRecDepth 65536 in
theorem w_t7 : (((((((words1.drop 24).drop 24).drop 24).drop 24).drop 24).drop 24).take 24).all (fun c => isCode c || c.before args0 about1) = true := by decide +kernel
set_option maxRecDepth 65536 in
theorem w_t8 : ((((((((words1.drop 24).drop 24).drop 24).drop 24).drop 24).drop 24).drop 24).take 24).all (fun c => isCode c || c.before args0 about1) = true := by decide +kernel
set_option maxRecDepth 65536 in
theorem w_t9 : ((((((((words1.drop 24).drop 24).drop 24).drop 24).drop 24).drop 24).drop 24).drop 24).all (fun c => isCode c || c.before args0 about1) = true := by decide +kernel
theorem w_tables : (allAtoms (Jvm.Cond.code x code maxLocals ret :: tables_1)).before args0 about1 = true := by
  rw [allAtoms_all]
  show words1.all (fun c => c.before args0 about1) = true
  refine all_split ?_ w_codes
  rw [← List.take_append_drop 24 words1, List.all_append, w_t1, ← List.take_append_drop 24 (words1.drop 24), List.all_append, w_t2, ← List.take_append_drop 24 ((words1.drop 24).drop 24), List.all_append, w_t3, ← List.take_append_drop 24 (((words1.drop 24).drop 24).drop 24), List.all_append, w_t4, ← List.take_append_drop 24 ((((words1.drop 24).drop 24).drop 24).drop 24), List.all_append, w_t5, ← List.take_append_drop 24 (((((words1.drop 24).drop 24).drop 24).drop 24).drop 24), List.all_append, w_t6, ← List.take_append_drop 24 ((((((words1.drop 24).drop 24).drop 24).drop 24).drop 24).drop 24), List.all_append, w_t7, ← List.take_append_drop 24 (((((((words1.drop 24).drop 24).drop 24).drop 24).drop 24).drop 24).drop 24), List.all_append, w_t8, w_t9]
  rfl
set_option maxRecDepth 65536 in
theorem w_rest : rest_1_c.before args0 about1 = true := by decide +kernel
set_option maxRecDepth 65536 in
theorem w_case : (Jvm.Cond.and given_1 narrow_1).before args0 about1 = true := by decide +kernel
theorem w_applies : (headSpec (Jvm.Cond.code x code maxLocals ret :: tables_1) room_1).applies x e0.platform about1 = true :=
  (Spec.applies_iff w_frames).mpr ⟨w_running, w_runnable, w_alone, w_named, w_hears, w_ripe, w_room, w_tables⟩
theorem atStart : AtStart classFile x code maxLocals ret World_1 tables_1 room_1 Calls_1 rest_1 Pre_1 launch0 p0 e0 about1 theMethod args0 below0 :=
  ⟨lists_1, trivial, launch0.admits_env _ _ _, launch0.least_env, fairChoices_fair.cas, fairChoices_fair.clock, w_frames, w_args, w_heap, w_applies, trivial, w_rest, w_case⟩
end start1
theorem witness_1 : WitnessClaimed_1 := ⟨start1.p0, start1.e0, start1.about1, start1.theMethod, start1.args0, start1.below0, start1.atStart⟩
end Jvm.Pilot.@@N@@
