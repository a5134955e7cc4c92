import JvmDerived
import JvmDerived.Pilot.@@N@@Statement
import JvmDerived.Pilot.@@N@@Code
set_option linter.unusedVariables false
set_option linter.unusedSimpArgs false
namespace Jvm.RoadKit
open Sem ClassFile Op Lib Jvm.Stand Jvm.Free Jvm.LawKit
section New
variable {p : Program} {l : Launch} {e : Env} {R : Room} {s : State} {m : MethodId} {args : Array Value} {below : List Frame} {meth : Method} {c : Code} {T : State} {locs : List Loc} {cells slots : Nat}
theorem retI (X : Stand p l e R s m args below meth c T locs cells slots) (hx : p.tables.exec = Jvm.exec) {pc : Nat} {Ls : Array Slot} {z : Int32} {rest : List Value} (hret : meth.sig.returnType = some .int) (hd : decode c.code pc = .ok (.ireturn, 1)) {fs : List Frame}
    (hl : ∀ (f : JFrame) (acts : List Action), f.method = m → f.locked = none → f.entered = [] → (doReturn e (T.setTop f) acts (some (.int z))).1 = T.setFrames fs) : Steps p.tables e below (T.setTop (mkF m pc Ls (.int z :: rest))) (T.setFrames fs) := by
  have hm' : T.vm.method? m = some meth := X.method'
  have hn : narrow .int (.int z) = .int z := rfl
  show Steps p.tables e below (T.setTop { method := m, pc := pc, locals := Ls, stack := _ :: rest, locked := none }) _
  jvm_step X.here [X.here.top, hx, hd, hm', hret, hn]
  first | (intro acts; rw [hl _ acts rfl rfl rfl]) | rw [hl _ _ rfl rfl rfl]
  exact Steps.refl _
end New
end Jvm.RoadKit
namespace Jvm.Pilot.@@N@@
open Jvm Jvm.ClassFile Sem Op Lib Jvm.Free Jvm.Stand Jvm.LawKit Jvm.RoadKit Bundle Jvm.Pilot.@@N@@.Jvm.D
set_option maxRecDepth 65536
set_option maxHeartbeats 40000000
theorem ow {Z : State} {a0 : Array Value} (hw : ∀ d ∈ tables_1, d.before a0 Z = true) (i : Nat) {d : Jvm.Cond} (h : tables_1[i]? = some d) : d.before a0 Z = true := hw d (List.mem_of_getElem? h)
abbrev rmk (f c s l : Nat) : Room := { frames := f, cells := c, slots := s, locals := l }
abbrev MetB (l : Launch) (y : MethodName) (bytes : ByteArray) (maxL : Nat) (ret : Option FieldType) (ws : List Jvm.Cond) (rm : Room) (Z : State) (h0 : Heap) (as' : Array Value) (Q : Option Value → Heap → List Loc → Prop) : Prop :=
  MetFree l y (head1 (Jvm.Cond.code y bytes maxL ret :: ws) rm) (fun a U => a = as' ∧ Z.Warmed39 U.vm ∧ U.heap = h0) (fun _ _ _ _ _ => True) (fun _ U o U' => ∃ v L, o = .returned v ∧ Q v U'.heap L ∧ FrameEnd U o U' L rm.cells rm.slots)
theorem own_body {l : Launch} {y : MethodName} {bytes : ByteArray} {maxL : Nat} {ret : Option FieldType} {ws : List Jvm.Cond} {rm : Room} {Z : State} {h0 : Heap} {as' : Array Value} {Q : Option Value → Heap → List Loc → Prop} (hpl : plainFor y = true)
    (body : ∀ (p : Program) (e : Env) (s : State) (m : MethodId) (below : List Frame) (meth : Method) (c : Code) (s₁ : State), p.tables.exec = Jvm.exec → c.code = bytes → c.maxLocals = maxL → s.vm.findClass y.cls = some m.cls → meth.name = y.name → meth.sig.returnType = ret → meth.locks = false → Z.Warmed39 s.vm → Stand p l e rm s m as' below meth c s₁ [] 0 0 → s₁.heap = h0 →
      ∃ s₂ o, Steps p.tables e below (s₁.setTop (entryFrame m as' maxL)) s₂ ∧ s₂.status = .running ∧ Ended s₂ below o ∧ ∃ v L, o = .returned v ∧ Q v s₂.heap L ∧ FrameEnd s o s₂ L rm.cells rm.slots) : MetB l y bytes maxL ret ws rm Z h0 as' Q := by
  refine MetFree.of_bodySF hpl hisR ?_
  intro p e s m args below meth c s₁ Bd hml0 hP hK
  obtain ⟨rfl, hZ, hh⟩ := hP
  exact body p e s m below meth c s₁ Bd.exec Bd.bytes hml0 (findClass_of_methodNamed Bd.named) (name_of_methodNamed Bd.named Bd.method).1 Bd.returns Bd.notSynchronized hZ (Stand.of_body Bd) (by rw [← hh, Bd.state]; rfl)
abbrev vr (a : Addr) : Slot := .val (.ref a)
abbrev vi (a : Int32) : Slot := .val (.int a)
abbrev vl (a : Int64) : Slot := .val (.long a)
theorem own_sz {Z : State} {n0 : Nat} {h : Heap} (O : Old Z n0 h) : n0 ≤ h.size := O.1 ▸ O.2.1
theorem own_eq_int {args : Array Value} {first s : State} {o : Option Outcome} {idx : List Nat} {t : Term} {k : Int32} (h : (Jvm.Cond.eq t (.int k)).value args first o s idx = some true) : t.eval args first o idx s = some (.int k) := by
  simp only [Jvm.Cond.value, Term.eval] at h
  cases ht : t.eval args first o idx s with
  | none => simp [ht] at h
  | some x => cases x <;> simp [ht] at h ⊢; exact h
theorem own_eq_long {args : Array Value} {first s : State} {o : Option Outcome} {idx : List Nat} {t : Term} {k : Int64} (h : (Jvm.Cond.eq t (.long k)).value args first o s idx = some true) : t.eval args first o idx s = some (.long k) := by
  simp only [Jvm.Cond.value, Term.eval] at h
  cases ht : t.eval args first o idx s with
  | none => simp [ht] at h
  | some x => cases x <;> simp [ht] at h ⊢; exact h
theorem own_selp {s : State} {args : Array Value} {y : MethodName} {n : Nat} (wi : (Jvm.Cond.instantiable y.cls n).before args s = true) (wp : (Jvm.Cond.privateMethod y).before args s = true) (wm : (Jvm.Cond.instanceMethod y).before args s = true) (hy : y.cls ≠ "java/lang/invoke/MethodHandle" ∧ y.cls ≠ "java/lang/invoke/VarHandle") : (Jvm.Cond.selects y.cls y y).before args s = true := by
  obtain ⟨c, k, hc, hk, -, hni, -, -⟩ := Cond.instantiable_spec wi
  exact selects_self_of_private hc hk (Bool.or_eq_false_iff.mp hni).1 (Cond.privateMethod_at wp) wm hy
theorem own_getR {p : Program} {l : Launch} {e : Env} {R : Room} {s : State} {m : MethodId} {args : Array Value} {below : List Frame} {meth : Method} {c : Code} {T : State} {locs : List Loc} {cells slots : Nat} {Z : State} {a0 : Array Value} {h : Heap} (X : Stand p l e R s m args below meth c T locs cells slots) (hx : p.tables.exec = Jvm.exec) (hZ : Z.Warmed39 s.vm) {own R0 n d : String} {index : Nat} (hown : s.vm.findClass own = some m.cls) (w : (Jvm.Cond.fieldRef own index R0 n d).before a0 Z = true)
    (eT : T.heap = h) {a : Addr} {v : Value} (F : Fld Z h a R0 n d v) {g : JFrame} (hg : g.method = m) {rest : List Value} (hs : g.stack = .ref a :: rest) (hd : decode c.code g.pc = .ok (.getfield index, 3)) : ∃ T', Stand p l e R s m args below meth c T' locs cells slots ∧ T'.heap = h ∧ ∀ target, Steps p.tables e below (T'.setTop { g with pc := g.pc + 3, stack := v :: rest }) target → Steps p.tables e below (T.setTop g) target := by
  obtain ⟨cell, cf, k, i, f, h1, h2, h3, h4, -, -, h7⟩ := F
  have wT := Cond.fieldRef_warmed39 (wtrans hZ X.warmed) w
  obtain ⟨c', k', i', f', q1, q2⟩ := Cond.fieldRef_spec (cur := m.cls) (by show T.vm.findClass own = some m.cls; rw [X.warmed.alike.findClass]; exact hown) wT
  obtain ⟨k'', hf', -⟩ := State.fieldFound?_setVm (s := Z) (wtrans hZ X.warmed).alike h2
  cases hf'.symm.trans q1
  exact ⟨T, X, eT, fun target k => (X.getfieldR hx hg q2 h3 hs (by rw [eT]; exact h1) h4 h7 hd (Steps.refl _)).trans k⟩
theorem own_lc (x : Int64) : lcmpW x x = 0 := (lw_eq x x).mpr rfl
theorem own_b01 {P : Prop} [Decidable P] {y a b : Int32} (h : y = if P then a else b) : y = a ∨ y = b := by rw [h]; split; exact Or.inl rfl; exact Or.inr rfl
abbrev M0 : MethodName := ⟨"java/util/ImmutableCollections", "listCopy", "(Ljava/util/Collection;)Ljava/util/List;"⟩
abbrev M1 : MethodName := ⟨"java/util/ArrayList", "isEmpty", "()Z"⟩
abbrev M2 : MethodName := ⟨"java/util/List", "of", "()Ljava/util/List;"⟩
abbrev M3 : MethodName := ⟨"java/util/Collection", "isEmpty", "()Z"⟩
abbrev M4 : MethodName := ⟨"com/example/loopline/loopline/engine/Scenario", "isInProgress", "()Z"⟩
abbrev M5 : MethodName := ⟨"java/util/AbstractCollection", "<init>", "()V"⟩
abbrev M6 : MethodName := ⟨"java/util/AbstractList", "<init>", "()V"⟩
abbrev M7 : MethodName := ⟨"java/util/ArrayList", "<init>", "()V"⟩
abbrev M8 : MethodName := ⟨"java/util/ArrayList", "size", "()I"⟩
abbrev M9 : MethodName := ⟨"java/util/List", "copyOf", "(Ljava/util/Collection;)Ljava/util/List;"⟩
abbrev M10 : MethodName := ⟨"com/example/loopline/loopline/engine/Scenario", "<init>", "(Ljava/util/List;Ljava/util/List;Ljava/util/List;J[[J)V"⟩
abbrev M11 : MethodName := ⟨"com/example/loopline/loopline/engine/Scenario", "<init>", "(Ljava/util/List;Ljava/util/List;Ljava/util/List;)V"⟩
abbrev M12 : MethodName := ⟨"java/util/List", "size", "()I"⟩
abbrev M13 : MethodName := ⟨"com/example/loopline/loopline/engine/Scenario", "moment", "()J"⟩
abbrev M14 : MethodName := ⟨"com/example/loopline/loopline/engine/Scenario", "inProgress", "(JLjava/util/List;Ljava/util/List;)Lcom/example/loopline/loopline/engine/Scenario;"⟩
abbrev s0n : String := "java/util/ArrayList"
abbrev s1n : String := "[Ljava/lang/Object;"
abbrev s2n : String := "java/util/ImmutableCollections$List12"
abbrev s3n : String := "java/util/List"
abbrev s4n : String := "com/example/loopline/loopline/engine/Scenario"
abbrev s5n : String := "java/util/AbstractList"
abbrev s6n : String := "java/lang/Object"
abbrev s7n : String := "Ljava/util/List;"
abbrev asg (Z : State) (C K : String) (b : Bool) : Prop := ∃ c t, Z.vm.findClass C = some c ∧ Z.vm.findClass K = some t ∧ Z.vm.assignable c t = b
theorem own_asg {Z : State} {a0 : Array Value} {C K S own : String} {i : Nat} (w1 : (Jvm.Cond.initialized own).before a0 Z = true) (w2 : (Jvm.Cond.classLink own i K).before a0 Z = true) (w3 : (Jvm.Cond.superclass C S).before a0 Z = true) : asg Z C K true ∨ asg Z C K false := by
  obtain ⟨d, hd⟩ : ∃ d, Z.vm.findClass own = some d := by
    cases hc : Z.vm.findClass own with
    | some c => exact ⟨c, rfl⟩
    | none => simp [Cond.before, Cond.holds, Cond.value, hc] at w1
  obtain ⟨t, ht, -⟩ := Cond.classLink_spec hd w2 {} rfl
  obtain ⟨c, hc⟩ := found_sup w3
  cases h : Z.vm.assignable c t
  · exact Or.inr ⟨c, t, hc, ht, h⟩
  · exact Or.inl ⟨c, t, hc, ht, h⟩
theorem own_ins {Z : State} {h : Heap} {a : Addr} {C K : String} (E : Exa Z h a C) (A : asg Z C K true) : Ins Z h a K true := by
  obtain ⟨cell, k, h1, h2, h3, h4, h5⟩ := E
  obtain ⟨c, t, a1, a2, a3⟩ := A
  cases h2.symm.trans a1
  exact ⟨cell, t, h1, a2, by rw [h4, a3]; rfl⟩
def SS (Z : State) (wDEFAULTCAPACITY_EMPTY_ELEMENTDATA : Addr) (wEMPTY_LIST : Addr) : Prop := Sta Z Z.heap s0n "DEFAULTCAPACITY_EMPTY_ELEMENTDATA" s1n (.ref wDEFAULTCAPACITY_EMPTY_ELEMENTDATA) ∧ Exa Z Z.heap wDEFAULTCAPACITY_EMPTY_ELEMENTDATA s1n ∧ Sta Z Z.heap "java/util/ImmutableCollections" "EMPTY_LIST" "Ljava/util/ImmutableCollections$ListN;" (.ref wEMPTY_LIST) ∧ Exa Z Z.heap wEMPTY_LIST "java/util/ImmutableCollections$ListN" ∧ Fld Z Z.heap wEMPTY_LIST "java/util/ImmutableCollections$ListN" "allowNulls" "Z" (.int 0)
theorem ef_rmLCT (m : MethodId) (x0 : Addr)  : entryFrame m #[(.ref x0)] 2 = mkF m 0 #[(vr x0), .unset] [] := by first | (simp [entryFrame, mkF, argsToLocals, Value.category]; done) | rfl
theorem pn_java_util_ImmutableCollections : plainName "java/util/ImmutableCollections" = true := by first | (simp [plainName, overriddenIn]; done) | decide +kernel
theorem d9_0 : decode jdk_56_method_3_code 0 = .ok (.aload_n 0, 1) := by decide +kernel
theorem d9_1 : decode jdk_56_method_3_code 1 = .ok (.instanceof 10, 3) := by decide +kernel
theorem d9_4 : decode jdk_56_method_3_code 4 = .ok (.ifCond .ne 22, 3) := by decide +kernel
theorem d9_26 : decode jdk_56_method_3_code 26 = .ok (.aload_n 0, 1) := by decide +kernel
theorem d9_27 : decode jdk_56_method_3_code 27 = .ok (.checkcast 18, 3) := by decide +kernel
theorem d9_30 : decode jdk_56_method_3_code 30 = .ok (.areturn, 1) := by decide +kernel
def Q_rmLCT (Z : State) (wDEFAULTCAPACITY_EMPTY_ELEMENTDATA : Addr) (wEMPTY_LIST : Addr) (a1 : Addr) (h0 : Heap) (n0 : Nat) (v : Option Value) (h : Heap) (L : List Loc) : Prop := v = some (.ref a1) ∧ Fr n0 L ∧ h = h0
theorem rmLCT (l : Launch) (Z : State) (a0 : Array Value) (hw : ∀ d ∈ tables_1, d.before a0 Z = true) (ws : List Jvm.Cond) (wDEFAULTCAPACITY_EMPTY_ELEMENTDATA : Addr) (wEMPTY_LIST : Addr) (hS : SS Z wDEFAULTCAPACITY_EMPTY_ELEMENTDATA wEMPTY_LIST) (a1 : Addr) (h0 : Heap) (n0 : Nat) (O0 : Old Z n0 h0) (P0 : Exa Z h0 a1 s0n) (P1 : asg Z s0n s2n true) :
    MetB l M0 jdk_56_method_3_code 2 (some (.object s3n)) ws (rmk 0 0 0 0) Z h0 #[(.ref a1)] (Q_rmLCT Z wDEFAULTCAPACITY_EMPTY_ELEMENTDATA wEMPTY_LIST a1 h0 n0) := by
  refine own_body (plainFor_of_name pn_java_util_ImmutableCollections) ?_
  intro p e s m below meth c s₁ hx hby hml hown hnm hret0 hlk0 hZ X0 e0
  have N0 := Fr.nil n0
  have pre0 : ∀ t, Steps p.tables e below (s₁.setTop (mkF m 0 #[(vr a1), .unset] [])) t → Steps p.tables e below (s₁.setTop (entryFrame m #[(.ref a1)] 2)) t := fun t k => castTop (ef_rmLCT m a1) k
  have hS0 := hS
  obtain ⟨S_wDEFAULTCAPACITY_EMPTY_ELEMENTDATA, E_wDEFAULTCAPACITY_EMPTY_ELEMENTDATA, S_wEMPTY_LIST, E_wEMPTY_LIST, F_allowNulls_wEMPTY_LIST⟩ := hS0
  obtain ⟨T1, X1, e1, st1⟩ := instY X0 hx hZ hown (ow hw 59 rfl) e0 (own_ins P0 P1) (g := (mkF m 1 #[(vr a1), .unset] [(.ref a1)])) rfl rfl (hb hby d9_1)
  obtain ⟨T2, X2, e2, st2⟩ := castY X1 hx hZ hown (ow hw 112 rfl) e1 (Ins.of_exa P0 (ow hw 40 rfl)) (g := (mkF m 27 #[(vr a1), .unset] [(.ref a1)])) rfl rfl (hb hby d9_27)
  obtain ⟨fs, hr, hrun, hended, hW, hsame⟩ := X2.leave (v := some (.ref a1)) (fun h => by rw [hret0] at h; cases h)
  refine ⟨_, _, pre0 _ ?_, hrun, hended, _, _, rfl, ?_, ⟨_, rfl⟩, hW, hsame.mono (by decide) (by decide)⟩
  · skip
    show Steps p.tables e below (s₁.setTop (mkF m 0 #[(vr a1), .unset] [])) _
    refine XS.aloadN X0.here hx rfl (hb hby d9_0) rfl rfl ?_
    refine st1 _ ?_
    refine XS.ifYes X1.here hx rfl (pc0 := 4) (pc' := 26) rfl (hb hby d9_4) rfl ((if0 _ _).trans (feq (by decide : ¬ ((1 : Int32) = (0 : Int32)))).2) (by decide) (by decide) ?_
    refine XS.aloadN X1.here hx rfl (hb hby d9_26) rfl rfl ?_
    refine st2 _ ?_
    show Steps p.tables e below (T2.setTop (mkF m 30 #[(vr a1), .unset] [(.ref a1)])) _
    jvm_step X2.here [X2.here.top, hx, (hb hby d9_30), X2.method', hret0, Value.isRef, FieldType.isReference]
    first | (intro acts; rw [hr _ acts rfl rfl rfl]) | rw [hr _ _ rfl rfl rfl]
    exact Steps.refl _
  · show Q_rmLCT Z wDEFAULTCAPACITY_EMPTY_ELEMENTDATA wEMPTY_LIST a1 h0 n0 _ T2.heap _
    rw [e2]
    exact ⟨rfl, N0, rfl⟩
theorem ef_rmIE (m : MethodId) (x0 : Addr)  : entryFrame m #[(.ref x0)] 1 = mkF m 0 #[(vr x0)] [] := by first | (simp [entryFrame, mkF, argsToLocals, Value.category]; done) | rfl
theorem pn_java_util_ArrayList : plainName "java/util/ArrayList" = true := by first | (simp [plainName, overriddenIn]; done) | decide +kernel
theorem d10_0 : decode jdk_38_method_9_code 0 = .ok (.aload_n 0, 1) := by decide +kernel
theorem d10_1 : decode jdk_38_method_9_code 1 = .ok (.getfield 48, 3) := by decide +kernel
theorem d10_4 : decode jdk_38_method_9_code 4 = .ok (.ifCond .ne 7, 3) := by decide +kernel
theorem d10_7 : decode jdk_38_method_9_code 7 = .ok (.iconst 1, 1) := by decide +kernel
theorem d10_8 : decode jdk_38_method_9_code 8 = .ok (.goto 4, 3) := by decide +kernel
theorem d10_12 : decode jdk_38_method_9_code 12 = .ok (.ireturn, 1) := by decide +kernel
def Q_rmIE (Z : State) (wDEFAULTCAPACITY_EMPTY_ELEMENTDATA : Addr) (wEMPTY_LIST : Addr) (a1 : Addr) (h0 : Heap) (n0 : Nat) (v : Option Value) (h : Heap) (L : List Loc) : Prop := v = some (.int 1) ∧ Fr n0 L ∧ h = h0
theorem rmIE (l : Launch) (Z : State) (a0 : Array Value) (hw : ∀ d ∈ tables_1, d.before a0 Z = true) (ws : List Jvm.Cond) (wDEFAULTCAPACITY_EMPTY_ELEMENTDATA : Addr) (wEMPTY_LIST : Addr) (hS : SS Z wDEFAULTCAPACITY_EMPTY_ELEMENTDATA wEMPTY_LIST) (a1 : Addr) (h0 : Heap) (n0 : Nat) (O0 : Old Z n0 h0) (P0 : Fld Z h0 a1 s0n "size" "I" (.int 0)) :
    MetB l M1 jdk_38_method_9_code 1 (some .boolean) ws (rmk 0 0 0 0) Z h0 #[(.ref a1)] (Q_rmIE Z wDEFAULTCAPACITY_EMPTY_ELEMENTDATA wEMPTY_LIST a1 h0 n0) := by
  refine own_body (plainFor_of_name pn_java_util_ArrayList) ?_
  intro p e s m below meth c s₁ hx hby hml hown hnm hret0 hlk0 hZ X0 e0
  have N0 := Fr.nil n0
  have pre0 : ∀ t, Steps p.tables e below (s₁.setTop (mkF m 0 #[(vr a1)] [])) t → Steps p.tables e below (s₁.setTop (entryFrame m #[(.ref a1)] 1)) t := fun t k => castTop (ef_rmIE m a1) k
  have hS0 := hS
  obtain ⟨S_wDEFAULTCAPACITY_EMPTY_ELEMENTDATA, E_wDEFAULTCAPACITY_EMPTY_ELEMENTDATA, S_wEMPTY_LIST, E_wEMPTY_LIST, F_allowNulls_wEMPTY_LIST⟩ := hS0
  obtain ⟨T1, X1, e1, st1⟩ := getF X0 hx hZ hown (host := "") (Or.inl (ow hw 42 rfl)) Via.refl e0 P0 (g := (mkF m 1 #[(vr a1)] [(.ref a1)])) rfl rfl (hb hby d10_1)
  obtain ⟨fs, hr, hrun, hended, hW, hsame⟩ := X1.leave (v := some (.int 1)) (fun h => by rw [hret0] at h; cases h)
  refine ⟨_, _, pre0 _ ?_, hrun, hended, _, _, rfl, ?_, ⟨_, rfl⟩, hW, hsame.mono (by decide) (by decide)⟩
  · skip
    show Steps p.tables e below (s₁.setTop (mkF m 0 #[(vr a1)] [])) _
    refine XS.aloadN X0.here hx rfl (hb hby d10_0) rfl rfl ?_
    refine st1 _ ?_
    refine XS.ifNo X1.here hx rfl (hb hby d10_4) rfl ((if0 _ _).trans (teq (by decide : (0 : Int32) = (0 : Int32))).2) ?_
    refine XS.iconst X1.here hx rfl (hb hby d10_7) ?_
    refine XS.goto X1.here hx rfl (pc0 := 8) (pc' := 12) rfl (hb hby d10_8) (by decide) (by decide) ?_
    show Steps p.tables e below (T1.setTop (mkF m 12 #[(vr a1)] [(.int 1)])) _
    exact retN X1 hx (t := .boolean) hret0 (by simp) (hb hby d10_12) hr
  · show Q_rmIE Z wDEFAULTCAPACITY_EMPTY_ELEMENTDATA wEMPTY_LIST a1 h0 n0 _ T1.heap _
    rw [e1]
    exact ⟨rfl, N0, rfl⟩
theorem ef_rmOf (m : MethodId)   : entryFrame m #[] 0 = mkF m 0 #[] [] := by first | (simp [entryFrame, mkF, argsToLocals, Value.category]; done) | rfl
theorem pn_java_util_List : plainName "java/util/List" = true := by first | (simp [plainName, overriddenIn]; done) | decide +kernel
theorem d11_0 : decode jdk_40_method_36_code 0 = .ok (.getstatic 90, 3) := by decide +kernel
theorem d11_3 : decode jdk_40_method_36_code 3 = .ok (.areturn, 1) := by decide +kernel
def Q_rmOf (Z : State) (wDEFAULTCAPACITY_EMPTY_ELEMENTDATA : Addr) (wEMPTY_LIST : Addr)  (h0 : Heap) (n0 : Nat) (v : Option Value) (h : Heap) (L : List Loc) : Prop := v = some (.ref wEMPTY_LIST) ∧ Fr n0 L ∧ h = h0
theorem rmOf (l : Launch) (Z : State) (a0 : Array Value) (hw : ∀ d ∈ tables_1, d.before a0 Z = true) (ws : List Jvm.Cond) (wDEFAULTCAPACITY_EMPTY_ELEMENTDATA : Addr) (wEMPTY_LIST : Addr) (hS : SS Z wDEFAULTCAPACITY_EMPTY_ELEMENTDATA wEMPTY_LIST)  (h0 : Heap) (n0 : Nat) (O0 : Old Z n0 h0)  :
    MetB l M2 jdk_40_method_36_code 0 (some (.object s3n)) ws (rmk 0 0 0 0) Z h0 #[] (Q_rmOf Z wDEFAULTCAPACITY_EMPTY_ELEMENTDATA wEMPTY_LIST  h0 n0) := by
  refine own_body (plainFor_of_name pn_java_util_List) ?_
  intro p e s m below meth c s₁ hx hby hml hown hnm hret0 hlk0 hZ X0 e0
  have N0 := Fr.nil n0
  have pre0 : ∀ t, Steps p.tables e below (s₁.setTop (mkF m 0 #[] [])) t → Steps p.tables e below (s₁.setTop (entryFrame m #[] 0)) t := fun t k => castTop (ef_rmOf m ) k
  have hS0 := hS
  obtain ⟨S_wDEFAULTCAPACITY_EMPTY_ELEMENTDATA, E_wDEFAULTCAPACITY_EMPTY_ELEMENTDATA, S_wEMPTY_LIST, E_wEMPTY_LIST, F_allowNulls_wEMPTY_LIST⟩ := hS0
  obtain ⟨T1, X1, e1, st1⟩ := getS2 X0 hx hZ hown (host := "") (Or.inl (ow hw 77 rfl)) Via.refl e0 (S_wEMPTY_LIST.ext O0.2) (g := (mkF m 0 #[] [])) rfl (hb hby d11_0)
  obtain ⟨fs, hr, hrun, hended, hW, hsame⟩ := X1.leave (v := some (.ref wEMPTY_LIST)) (fun h => by rw [hret0] at h; cases h)
  refine ⟨_, _, pre0 _ ?_, hrun, hended, _, _, rfl, ?_, ⟨_, rfl⟩, hW, hsame.mono (by decide) (by decide)⟩
  · skip
    show Steps p.tables e below (s₁.setTop (mkF m 0 #[] [])) _
    refine st1 _ ?_
    jvm_step X1.here [X1.here.top, hx, (hb hby d11_3), X1.method', hret0, Value.isRef, FieldType.isReference]
    first | (intro acts; rw [hr _ acts rfl rfl rfl]) | rw [hr _ _ rfl rfl rfl]
    exact Steps.refl _
  · show Q_rmOf Z wDEFAULTCAPACITY_EMPTY_ELEMENTDATA wEMPTY_LIST  h0 n0 _ T1.heap _
    rw [e1]
    exact ⟨rfl, N0, rfl⟩
theorem ef_rmLCF (m : MethodId) (x0 : Addr)  : entryFrame m #[(.ref x0)] 2 = mkF m 0 #[(vr x0), .unset] [] := by first | (simp [entryFrame, mkF, argsToLocals, Value.category]; done) | rfl
theorem d9_7 : decode jdk_56_method_3_code 7 = .ok (.aload_n 0, 1) := by decide +kernel
theorem d9_8 : decode jdk_56_method_3_code 8 = .ok (.instanceof 12, 3) := by decide +kernel
theorem d9_11 : decode jdk_56_method_3_code 11 = .ok (.ifCond .eq 20, 3) := by decide +kernel
theorem d9_31 : decode jdk_56_method_3_code 31 = .ok (.aload_n 0, 1) := by decide +kernel
theorem d9_32 : decode jdk_56_method_3_code 32 = .ok (.invokeinterface 20 1, 5) := by decide +kernel
theorem pd_0 : parseMethodDescriptor "()Z" = some ⟨[], some .boolean⟩ := by decide +kernel
theorem d9_37 : decode jdk_56_method_3_code 37 = .ok (.ifCond .eq 7, 3) := by decide +kernel
theorem d9_40 : decode jdk_56_method_3_code 40 = .ok (.invokestatic 26, 3) := by decide +kernel
theorem pd_1 : parseMethodDescriptor "()Ljava/util/List;" = some ⟨[], some (.object "java/util/List")⟩ := by decide +kernel
theorem d9_43 : decode jdk_56_method_3_code 43 = .ok (.areturn, 1) := by decide +kernel
def Q_rmLCF (Z : State) (wDEFAULTCAPACITY_EMPTY_ELEMENTDATA : Addr) (wEMPTY_LIST : Addr) (a1 : Addr) (h0 : Heap) (n0 : Nat) (v : Option Value) (h : Heap) (L : List Loc) : Prop := v = some (.ref wEMPTY_LIST) ∧ Fr n0 L ∧ h = h0
theorem rmLCF (l : Launch) (Z : State) (a0 : Array Value) (hw : ∀ d ∈ tables_1, d.before a0 Z = true) (ws : List Jvm.Cond) (wDEFAULTCAPACITY_EMPTY_ELEMENTDATA : Addr) (wEMPTY_LIST : Addr) (hS : SS Z wDEFAULTCAPACITY_EMPTY_ELEMENTDATA wEMPTY_LIST) (a1 : Addr) (h0 : Heap) (n0 : Nat) (O0 : Old Z n0 h0) (P0 : Exa Z h0 a1 s0n) (P1 : Fld Z h0 a1 s0n "size" "I" (.int 0)) (P2 : asg Z s0n s2n false) :
    MetB l M0 jdk_56_method_3_code 2 (some (.object s3n)) ws (rmk 1 0 0 12) Z h0 #[(.ref a1)] (Q_rmLCF Z wDEFAULTCAPACITY_EMPTY_ELEMENTDATA wEMPTY_LIST a1 h0 n0) := by
  refine own_body (plainFor_of_name pn_java_util_ImmutableCollections) ?_
  intro p e s m below meth c s₁ hx hby hml hown hnm hret0 hlk0 hZ X0 e0
  have N0 := Fr.nil n0
  have pre0 : ∀ t, Steps p.tables e below (s₁.setTop (mkF m 0 #[(vr a1), .unset] [])) t → Steps p.tables e below (s₁.setTop (entryFrame m #[(.ref a1)] 2)) t := fun t k => castTop (ef_rmLCF m a1) k
  have hS0 := hS
  obtain ⟨S_wDEFAULTCAPACITY_EMPTY_ELEMENTDATA, E_wDEFAULTCAPACITY_EMPTY_ELEMENTDATA, S_wEMPTY_LIST, E_wEMPTY_LIST, F_allowNulls_wEMPTY_LIST⟩ := hS0
  obtain ⟨T1, X1, e1, st1⟩ := instNo X0 hx hZ hown (ow hw 59 rfl) e0 P0 P2 (g := (mkF m 1 #[(vr a1), .unset] [(.ref a1)])) rfl rfl (hb hby d9_1)
  obtain ⟨T2, X2, e2, st2⟩ := instNo X1 hx hZ hown (ow hw 64 rfl) e1 P0 (NS.no (ow hw 60 rfl) (ow hw 106 rfl) (NS.step (ow hw 60 rfl) (NS.step (ow hw 61 rfl) (NS.step (ow hw 62 rfl) (NS.root (ow hw 63 rfl) (ow hw 106 rfl) (by decide)) (by decide)) (by decide)) (by decide)) (by decide)) (g := (mkF m 8 #[(vr a1), .unset] [(.ref a1)])) rfl rfl (hb hby d9_8)
  obtain ⟨cq3, kq3, q3a, q3b, q3c⟩ := isOf hZ e2 P0
  obtain ⟨_, _, ⟨T3, L3, k3, n3⟩, -, X3, ⟨Lc3, hQ3, l3, y3, z3⟩, st3⟩ := X2.interfaceBack hx (xi := M3) (y := M1) hown (mvT hZ (ow hw 65 rfl)) (mvT hZ (ow hw 66 rfl)) (mvT hZ (ow hw 67 rfl)) (mvT hZ (ow hw 68 rfl)) (mvT hZ (ow hw 69 rfl)) (mvT hZ (ow hw 70 rfl)) (mvT hZ (ow hw 71 rfl)) (mvT hZ (ow hw 72 rfl)) (by decide) (backOf (W := 0) (rmIE l Z a0 hw [] wDEFAULTCAPACITY_EMPTY_ELEMENTDATA wEMPTY_LIST hS a1 h0 n0 O0 P1) hZ (ow hw 73 rfl) (ow hw 5 rfl) (by decide) (by decide)) q3a q3b q3c (g := (mkF m 32 #[(vr a1), .unset] [(.ref a1)])) rfl (by rw [hml]; rfl) (Steps.refl _) (argsL := []) (rest := []) (lenOf pd_0 rfl) rfl (by show 2 * 0 + _ ≤ _; exact Nat.le_of_eq rfl) (hb hby d9_32) (fun _ _ => ⟨rfl, e2, (by decide : 0 + 0 ≤ _), (by decide : 0 + 0 ≤ _)⟩)
  dsimp only [Pt.U, Pt.locs, Pt.cells, Pt.slots] at X3 l3 y3 z3 st3 hQ3
  subst l3 y3 z3
  obtain ⟨rfl, Nq3, K3q⟩ := hQ3
  have N3 := Fr.app N0 Nq3
  obtain ⟨_, _, ⟨T4, L4, k4, n4⟩, -, X4, ⟨Lc4, hQ4, l4, y4, z4⟩, st4⟩ := Jvm.LawKit.callS X3 hx (y := M2) hown (mvT hZ (ow hw 74 rfl)) (mvT hZ (ow hw 75 rfl)) (mvT hZ (ow hw 53 rfl)) (mvT hZ (ow hw 76 rfl)) (by decide) (backOf (W := 0) (rmOf l Z a0 hw [] wDEFAULTCAPACITY_EMPTY_ELEMENTDATA wEMPTY_LIST hS  h0 n0 O0 ) hZ (ow hw 76 rfl) (ow hw 53 rfl) (by decide) (by decide)) (g := (mkF m 40 #[(vr a1), .unset] [])) rfl (by rw [hml]; rfl) (argsL := []) (rest := []) (lenOf pd_1 rfl) rfl (by show 2 * 0 + _ ≤ _; exact Nat.le_of_eq rfl) (hb hby d9_40) (fun _ _ => ⟨rfl, K3q, (by decide : 0 + 0 ≤ _), (by decide : 0 + 0 ≤ _)⟩)
  dsimp only [Pt.U, Pt.locs, Pt.cells, Pt.slots] at X4 l4 y4 z4 st4 hQ4
  subst l4 y4 z4
  obtain ⟨rfl, Nq4, K4q⟩ := hQ4
  have N4 := Fr.app N3 Nq4
  obtain ⟨fs, hr, hrun, hended, hW, hsame⟩ := X4.leave (v := some (.ref wEMPTY_LIST)) (fun h => by rw [hret0] at h; cases h)
  refine ⟨_, _, pre0 _ ?_, hrun, hended, _, _, rfl, ?_, ⟨_, rfl⟩, hW, hsame.mono (by decide) (by decide)⟩
  · skip
    show Steps p.tables e below (s₁.setTop (mkF m 0 #[(vr a1), .unset] [])) _
    refine XS.aloadN X0.here hx rfl (hb hby d9_0) rfl rfl ?_
    refine st1 _ ?_
    refine XS.ifNo X1.here hx rfl (hb hby d9_4) rfl ((if0 _ _).trans (teq (by decide : (0 : Int32) = (0 : Int32))).2) ?_
    refine XS.aloadN X1.here hx rfl (hb hby d9_7) rfl rfl ?_
    refine st2 _ ?_
    show Steps p.tables e below (T2.setTop (mkF m 11 #[(vr a1), .unset] [(.int 0)])) _
    refine XS.ifYes X2.here hx rfl (pc0 := 11) (pc' := 31) rfl (hb hby d9_11) rfl ((if0 _ _).trans (teq (by decide : (0 : Int32) = (0 : Int32))).1) (by decide) (by decide) ?_
    refine XS.aloadN X2.here hx rfl (hb hby d9_31) rfl rfl ?_
    refine st3.trans ?_
    refine XS.ifNo X3.here hx rfl (hb hby d9_37) rfl ((if0 _ _).trans (feq (by decide : ¬ ((1 : Int32) = (0 : Int32)))).1) ?_
    refine st4 _ ?_
    show Steps p.tables e below (T4.setTop (mkF m 43 #[(vr a1), .unset] [(.ref wEMPTY_LIST)])) _
    jvm_step X4.here [X4.here.top, hx, (hb hby d9_43), X4.method', hret0, Value.isRef, FieldType.isReference]
    first | (intro acts; rw [hr _ acts rfl rfl rfl]) | rw [hr _ _ rfl rfl rfl]
    exact Steps.refl _
  · show Q_rmLCF Z wDEFAULTCAPACITY_EMPTY_ELEMENTDATA wEMPTY_LIST a1 h0 n0 _ T4.heap _
    rw [K4q]
    exact ⟨rfl, N4, rfl⟩
theorem ef_rmLCN (m : MethodId) (x0 : Addr)  : entryFrame m #[(.ref x0)] 2 = mkF m 0 #[(vr x0), .unset] [] := by first | (simp [entryFrame, mkF, argsToLocals, Value.category]; done) | rfl
theorem d9_14 : decode jdk_56_method_3_code 14 = .ok (.aload_n 0, 1) := by decide +kernel
theorem d9_15 : decode jdk_56_method_3_code 15 = .ok (.checkcast 12, 3) := by decide +kernel
theorem d9_18 : decode jdk_56_method_3_code 18 = .ok (.astore_n 1, 1) := by decide +kernel
theorem d9_19 : decode jdk_56_method_3_code 19 = .ok (.aload_n 1, 1) := by decide +kernel
theorem d9_20 : decode jdk_56_method_3_code 20 = .ok (.getfield 14, 3) := by decide +kernel
theorem d9_23 : decode jdk_56_method_3_code 23 = .ok (.ifCond .ne 8, 3) := by decide +kernel
def Q_rmLCN (Z : State) (wDEFAULTCAPACITY_EMPTY_ELEMENTDATA : Addr) (wEMPTY_LIST : Addr)  (h0 : Heap) (n0 : Nat) (v : Option Value) (h : Heap) (L : List Loc) : Prop := v = some (.ref wEMPTY_LIST) ∧ Fr n0 L ∧ h = h0
theorem rmLCN (l : Launch) (Z : State) (a0 : Array Value) (hw : ∀ d ∈ tables_1, d.before a0 Z = true) (ws : List Jvm.Cond) (wDEFAULTCAPACITY_EMPTY_ELEMENTDATA : Addr) (wEMPTY_LIST : Addr) (hS : SS Z wDEFAULTCAPACITY_EMPTY_ELEMENTDATA wEMPTY_LIST)  (h0 : Heap) (n0 : Nat) (O0 : Old Z n0 h0)  :
    MetB l M0 jdk_56_method_3_code 2 (some (.object s3n)) ws (rmk 0 0 0 0) Z h0 #[(.ref wEMPTY_LIST)] (Q_rmLCN Z wDEFAULTCAPACITY_EMPTY_ELEMENTDATA wEMPTY_LIST  h0 n0) := by
  refine own_body (plainFor_of_name pn_java_util_ImmutableCollections) ?_
  intro p e s m below meth c s₁ hx hby hml hown hnm hret0 hlk0 hZ X0 e0
  have N0 := Fr.nil n0
  have pre0 : ∀ t, Steps p.tables e below (s₁.setTop (mkF m 0 #[(vr wEMPTY_LIST), .unset] [])) t → Steps p.tables e below (s₁.setTop (entryFrame m #[(.ref wEMPTY_LIST)] 2)) t := fun t k => castTop (ef_rmLCN m wEMPTY_LIST) k
  have hS0 := hS
  obtain ⟨S_wDEFAULTCAPACITY_EMPTY_ELEMENTDATA, E_wDEFAULTCAPACITY_EMPTY_ELEMENTDATA, S_wEMPTY_LIST, E_wEMPTY_LIST, F_allowNulls_wEMPTY_LIST⟩ := hS0
  rcases own_asg (C := "java/util/ImmutableCollections$ListN") (K := s2n) (ow hw 57 rfl) (ow hw 59 rfl) (ow hw 106 rfl) with hA | hA
  · skip
    obtain ⟨T1, X1, e1, st1⟩ := instY X0 hx hZ hown (ow hw 59 rfl) e0 (own_ins (E_wEMPTY_LIST.ext O0.2) hA) (g := (mkF m 1 #[(vr wEMPTY_LIST), .unset] [(.ref wEMPTY_LIST)])) rfl rfl (hb hby d9_1)
    obtain ⟨T2, X2, e2, st2⟩ := castY X1 hx hZ hown (ow hw 112 rfl) e1 (Ins.of_exa (E_wEMPTY_LIST.ext O0.2) (ow hw 113 rfl)) (g := (mkF m 27 #[(vr wEMPTY_LIST), .unset] [(.ref wEMPTY_LIST)])) rfl rfl (hb hby d9_27)
    obtain ⟨fs, hr, hrun, hended, hW, hsame⟩ := X2.leave (v := some (.ref wEMPTY_LIST)) (fun h => by rw [hret0] at h; cases h)
    refine ⟨_, _, pre0 _ ?_, hrun, hended, _, _, rfl, ?_, ⟨_, rfl⟩, hW, hsame.mono (by decide) (by decide)⟩
    · skip
      show Steps p.tables e below (s₁.setTop (mkF m 0 #[(vr wEMPTY_LIST), .unset] [])) _
      refine XS.aloadN X0.here hx rfl (hb hby d9_0) rfl rfl ?_
      refine st1 _ ?_
      refine XS.ifYes X1.here hx rfl (pc0 := 4) (pc' := 26) rfl (hb hby d9_4) rfl ((if0 _ _).trans (feq (by decide : ¬ ((1 : Int32) = (0 : Int32)))).2) (by decide) (by decide) ?_
      refine XS.aloadN X1.here hx rfl (hb hby d9_26) rfl rfl ?_
      refine st2 _ ?_
      show Steps p.tables e below (T2.setTop (mkF m 30 #[(vr wEMPTY_LIST), .unset] [(.ref wEMPTY_LIST)])) _
      jvm_step X2.here [X2.here.top, hx, (hb hby d9_30), X2.method', hret0, Value.isRef, FieldType.isReference]
      first | (intro acts; rw [hr _ acts rfl rfl rfl]) | rw [hr _ _ rfl rfl rfl]
      exact Steps.refl _
    · show Q_rmLCN Z wDEFAULTCAPACITY_EMPTY_ELEMENTDATA wEMPTY_LIST  h0 n0 _ T2.heap _
      rw [e2]
      exact ⟨rfl, N0, rfl⟩
  · skip
    obtain ⟨T3, X3, e3, st3⟩ := instNo X0 hx hZ hown (ow hw 59 rfl) e0 (E_wEMPTY_LIST.ext O0.2) hA (g := (mkF m 1 #[(vr wEMPTY_LIST), .unset] [(.ref wEMPTY_LIST)])) rfl rfl (hb hby d9_1)
    obtain ⟨T4, X4, e4, st4⟩ := instY X3 hx hZ hown (ow hw 64 rfl) e3 (Ins.self (E_wEMPTY_LIST.ext O0.2)) (g := (mkF m 8 #[(vr wEMPTY_LIST), .unset] [(.ref wEMPTY_LIST)])) rfl rfl (hb hby d9_8)
    obtain ⟨T5, X5, e5, st5⟩ := castY X4 hx hZ hown (ow hw 64 rfl) e4 (Ins.self (E_wEMPTY_LIST.ext O0.2)) (g := (mkF m 15 #[(vr wEMPTY_LIST), .unset] [(.ref wEMPTY_LIST)])) rfl rfl (hb hby d9_15)
    obtain ⟨T6, X6, e6, st6⟩ := getF X5 hx hZ hown (Or.inr (ow hw 110 rfl)) Via.refl e5 (F_allowNulls_wEMPTY_LIST.ext O0.2) (g := (mkF m 20 #[(vr wEMPTY_LIST), (vr wEMPTY_LIST)] [(.ref wEMPTY_LIST)])) rfl rfl (hb hby d9_20)
    obtain ⟨T7, X7, e7, st7⟩ := castY X6 hx hZ hown (ow hw 112 rfl) e6 (Ins.of_exa (E_wEMPTY_LIST.ext O0.2) (ow hw 113 rfl)) (g := (mkF m 27 #[(vr wEMPTY_LIST), (vr wEMPTY_LIST)] [(.ref wEMPTY_LIST)])) rfl rfl (hb hby d9_27)
    obtain ⟨fs, hr, hrun, hended, hW, hsame⟩ := X7.leave (v := some (.ref wEMPTY_LIST)) (fun h => by rw [hret0] at h; cases h)
    refine ⟨_, _, pre0 _ ?_, hrun, hended, _, _, rfl, ?_, ⟨_, rfl⟩, hW, hsame.mono (by decide) (by decide)⟩
    · skip
      show Steps p.tables e below (s₁.setTop (mkF m 0 #[(vr wEMPTY_LIST), .unset] [])) _
      refine XS.aloadN X0.here hx rfl (hb hby d9_0) rfl rfl ?_
      refine st3 _ ?_
      refine XS.ifNo X3.here hx rfl (hb hby d9_4) rfl ((if0 _ _).trans (teq (by decide : (0 : Int32) = (0 : Int32))).2) ?_
      refine XS.aloadN X3.here hx rfl (hb hby d9_7) rfl rfl ?_
      refine st4 _ ?_
      show Steps p.tables e below (T4.setTop (mkF m 11 #[(vr wEMPTY_LIST), .unset] [(.int 1)])) _
      refine XS.ifNo X4.here hx rfl (hb hby d9_11) rfl ((if0 _ _).trans (feq (by decide : ¬ ((1 : Int32) = (0 : Int32)))).1) ?_
      refine XS.aloadN X4.here hx rfl (hb hby d9_14) rfl rfl ?_
      refine st5 _ ?_
      refine XS.astoreN X5.here hx rfl (hb hby d9_18) rfl rfl (l' := #[(vr wEMPTY_LIST), (vr wEMPTY_LIST)]) rfl ?_
      refine XS.aloadN X5.here hx rfl (hb hby d9_19) rfl rfl ?_
      show Steps p.tables e below (T5.setTop (mkF m 20 #[(vr wEMPTY_LIST), (vr wEMPTY_LIST)] [(.ref wEMPTY_LIST)])) _
      refine st6 _ ?_
      refine XS.ifNo X6.here hx rfl (hb hby d9_23) rfl ((if0 _ _).trans (teq (by decide : (0 : Int32) = (0 : Int32))).2) ?_
      refine XS.aloadN X6.here hx rfl (hb hby d9_26) rfl rfl ?_
      refine st7 _ ?_
      jvm_step X7.here [X7.here.top, hx, (hb hby d9_30), X7.method', hret0, Value.isRef, FieldType.isReference]
      first | (intro acts; rw [hr _ acts rfl rfl rfl]) | rw [hr _ _ rfl rfl rfl]
      exact Steps.refl _
    · show Q_rmLCN Z wDEFAULTCAPACITY_EMPTY_ELEMENTDATA wEMPTY_LIST  h0 n0 _ T7.heap _
      rw [e7]
      exact ⟨rfl, N0, rfl⟩
theorem ef_rmIP (m : MethodId) (x0 : Addr)  : entryFrame m #[(.ref x0)] 1 = mkF m 0 #[(vr x0)] [] := by first | (simp [entryFrame, mkF, argsToLocals, Value.category]; done) | rfl
theorem pn_com_example_loopline_loopline_engine_Scenario : plainName "com/example/loopline/loopline/engine/Scenario" = true := by first | (simp [plainName, overriddenIn]; done) | decide +kernel
theorem d12_0 : decode prog_51_method_8_code 0 = .ok (.aload_n 0, 1) := by decide +kernel
theorem d12_1 : decode prog_51_method_8_code 1 = .ok (.getfield 38, 3) := by decide +kernel
theorem d12_4 : decode prog_51_method_8_code 4 = .ok (.ldc2_w 5, 3) := by decide +kernel
theorem d12_7 : decode prog_51_method_8_code 7 = .ok (.lcmp, 1) := by decide +kernel
theorem d12_8 : decode prog_51_method_8_code 8 = .ok (.ifCond .eq 7, 3) := by decide +kernel
theorem d12_15 : decode prog_51_method_8_code 15 = .ok (.iconst 0, 1) := by decide +kernel
theorem d12_16 : decode prog_51_method_8_code 16 = .ok (.ireturn, 1) := by decide +kernel
theorem d12_11 : decode prog_51_method_8_code 11 = .ok (.iconst 1, 1) := by decide +kernel
theorem d12_12 : decode prog_51_method_8_code 12 = .ok (.goto 4, 3) := by decide +kernel
def Q_rmIP (Z : State) (wDEFAULTCAPACITY_EMPTY_ELEMENTDATA : Addr) (wEMPTY_LIST : Addr) (a1 : Addr) (q1 : Int64) (h0 : Heap) (n0 : Nat) (v : Option Value) (h : Heap) (L : List Loc) : Prop := ∃ (r : Int32), v = some (.int r) ∧ Fr n0 L ∧ h = h0 ∧ r = (if (lcmpW q1 (-9223372036854775808 : Int64)) = (0 : Int32) then (0 : Int32) else (1 : Int32))
theorem rmIP (l : Launch) (Z : State) (a0 : Array Value) (hw : ∀ d ∈ tables_1, d.before a0 Z = true) (ws : List Jvm.Cond) (wDEFAULTCAPACITY_EMPTY_ELEMENTDATA : Addr) (wEMPTY_LIST : Addr) (hS : SS Z wDEFAULTCAPACITY_EMPTY_ELEMENTDATA wEMPTY_LIST) (a1 : Addr) (q1 : Int64) (h0 : Heap) (n0 : Nat) (O0 : Old Z n0 h0) (P0 : Fld Z h0 a1 s4n "moment" "J" (.long q1)) :
    MetB l M4 prog_51_method_8_code 1 (some .boolean) ws (rmk 0 0 0 0) Z h0 #[(.ref a1)] (Q_rmIP Z wDEFAULTCAPACITY_EMPTY_ELEMENTDATA wEMPTY_LIST a1 q1 h0 n0) := by
  refine own_body (plainFor_of_name pn_com_example_loopline_loopline_engine_Scenario) ?_
  intro p e s m below meth c s₁ hx hby hml hown hnm hret0 hlk0 hZ X0 e0
  have N0 := Fr.nil n0
  have pre0 : ∀ t, Steps p.tables e below (s₁.setTop (mkF m 0 #[(vr a1)] [])) t → Steps p.tables e below (s₁.setTop (entryFrame m #[(.ref a1)] 1)) t := fun t k => castTop (ef_rmIP m a1) k
  have hS0 := hS
  obtain ⟨S_wDEFAULTCAPACITY_EMPTY_ELEMENTDATA, E_wDEFAULTCAPACITY_EMPTY_ELEMENTDATA, S_wEMPTY_LIST, E_wEMPTY_LIST, F_allowNulls_wEMPTY_LIST⟩ := hS0
  obtain ⟨T1, X1, e1, st1⟩ := getF X0 hx hZ hown (host := "") (Or.inl (ow hw 84 rfl)) Via.refl e0 P0 (g := (mkF m 1 #[(vr a1)] [(.ref a1)])) rfl rfl (hb hby d12_1)
  have pre2 : ∀ t, Steps p.tables e below (T1.setTop (mkF m 8 #[(vr a1)] [(.int (lcmpW q1 (-9223372036854775808 : Int64)))])) t → Steps p.tables e below (s₁.setTop (entryFrame m #[(.ref a1)] 1)) t := by
    intro t k
    refine pre0 t ?_
    show Steps p.tables e below (s₁.setTop (mkF m 0 #[(vr a1)] [])) _
    refine XS.aloadN X0.here hx rfl (hb hby d12_0) rfl rfl ?_
    refine st1 _ ?_
    refine X1.ldc2Long hx hown (mvT hZ (ow hw 32 rfl)) (g := (mkF m 4 #[(vr a1)] [(.long q1)])) rfl (hb hby d12_4) _ ?_
    refine XS.lcmp X1.here hx rfl (hb hby d12_7) rfl ?_
    exact k
  rcases Decidable.em ((lcmpW q1 (-9223372036854775808 : Int64)) = (0 : Int32)) with hc3 | hc3
  · skip
    obtain ⟨fs, hr, hrun, hended, hW, hsame⟩ := X1.leave (v := some (.int 0)) (fun h => by rw [hret0] at h; cases h)
    refine ⟨_, _, pre2 _ ?_, hrun, hended, _, _, rfl, ?_, ⟨_, rfl⟩, hW, hsame.mono (by decide) (by decide)⟩
    · skip
      refine XS.ifYes X1.here hx rfl (pc0 := 8) (pc' := 15) rfl (hb hby d12_8) rfl ((if0 _ _).trans (teq hc3).1) (by decide) (by decide) ?_
      show Steps p.tables e below (T1.setTop (mkF m 15 #[(vr a1)] [])) _
      refine XS.iconst X1.here hx rfl (hb hby d12_15) ?_
      exact retN X1 hx (t := .boolean) hret0 (by simp) (hb hby d12_16) hr
    · show Q_rmIP Z wDEFAULTCAPACITY_EMPTY_ELEMENTDATA wEMPTY_LIST a1 q1 h0 n0 _ T1.heap _
      rw [e1]
      exact ⟨(0 : Int32), rfl, N0, rfl, (by simp [hc3])⟩
  · skip
    obtain ⟨fs, hr, hrun, hended, hW, hsame⟩ := X1.leave (v := some (.int 1)) (fun h => by rw [hret0] at h; cases h)
    refine ⟨_, _, pre2 _ ?_, hrun, hended, _, _, rfl, ?_, ⟨_, rfl⟩, hW, hsame.mono (by decide) (by decide)⟩
    · skip
      refine XS.ifNo X1.here hx rfl (hb hby d12_8) rfl ((if0 _ _).trans (feq hc3).1) ?_
      show Steps p.tables e below (T1.setTop (mkF m 11 #[(vr a1)] [])) _
      refine XS.iconst X1.here hx rfl (hb hby d12_11) ?_
      refine XS.goto X1.here hx rfl (pc0 := 12) (pc' := 16) rfl (hb hby d12_12) (by decide) (by decide) ?_
      exact retN X1 hx (t := .boolean) hret0 (by simp) (hb hby d12_16) hr
    · show Q_rmIP Z wDEFAULTCAPACITY_EMPTY_ELEMENTDATA wEMPTY_LIST a1 q1 h0 n0 _ T1.heap _
      rw [e1]
      exact ⟨(1 : Int32), rfl, N0, rfl, (by simp [hc3])⟩
theorem ef_rm0 (m : MethodId) (x0 : Int64)  : entryFrame m #[(.long x0)] maxLocals = mkF m 0 #[(vl x0), .second, .unset, .unset, .unset, .unset] [] := by first | (simp [entryFrame, mkF, argsToLocals, Value.category, maxLocals]; done) | rfl
theorem pn_com_example_loopline_loopline_engine_ScenarioIsInProgressPinLaw : plainName "com/example/loopline/loopline/engine/ScenarioIsInProgressPinLaw" = true := by first | (simp [plainName, overriddenIn]; done) | decide +kernel
theorem ef_au1_0 (m : MethodId) (x0 : Addr)  : entryFrame m #[(.ref x0)] 1 = mkF m 0 #[(vr x0)] [] := by first | (simp [entryFrame, mkF, argsToLocals, Value.category]; done) | rfl
theorem d1_0 : decode jdk_38_method_2_code 0 = .ok (.aload_n 0, 1) := by decide +kernel
theorem d1_1 : decode jdk_38_method_2_code 1 = .ok (.invokespecial 1, 3) := by decide +kernel
theorem ef_au2_0 (m : MethodId) (x0 : Addr)  : entryFrame m #[(.ref x0)] 1 = mkF m 0 #[(vr x0)] [] := by first | (simp [entryFrame, mkF, argsToLocals, Value.category]; done) | rfl
theorem pn_java_util_AbstractList : plainName "java/util/AbstractList" = true := by first | (simp [plainName, overriddenIn]; done) | decide +kernel
theorem d2_0 : decode jdk_39_method_1_code 0 = .ok (.aload_n 0, 1) := by decide +kernel
theorem d2_1 : decode jdk_39_method_1_code 1 = .ok (.invokespecial 1, 3) := by decide +kernel
theorem ef_au3_0 (m : MethodId) (x0 : Addr)  : entryFrame m #[(.ref x0)] 1 = mkF m 0 #[(vr x0)] [] := by first | (simp [entryFrame, mkF, argsToLocals, Value.category]; done) | rfl
theorem pn_java_util_AbstractCollection : plainName "java/util/AbstractCollection" = true := by first | (simp [plainName, overriddenIn]; done) | decide +kernel
theorem d3_0 : decode jdk_22_method_1_code 0 = .ok (.aload_n 0, 1) := by decide +kernel
theorem d3_1 : decode jdk_22_method_1_code 1 = .ok (.invokespecial 1, 3) := by decide +kernel
theorem d3_4 : decode jdk_22_method_1_code 4 = .ok (.return_, 1) := by decide +kernel
def Q_au3_0 (Z : State) (wDEFAULTCAPACITY_EMPTY_ELEMENTDATA : Addr) (wEMPTY_LIST : Addr) (a1 : Addr) (h0 : Heap) (n0 : Nat) (v : Option Value) (h : Heap) (L : List Loc) : Prop := v = none ∧ Fr n0 L ∧ h = h0
theorem au3_0 (l : Launch) (Z : State) (a0 : Array Value) (hw : ∀ d ∈ tables_1, d.before a0 Z = true) (ws : List Jvm.Cond) (wDEFAULTCAPACITY_EMPTY_ELEMENTDATA : Addr) (wEMPTY_LIST : Addr) (hS : SS Z wDEFAULTCAPACITY_EMPTY_ELEMENTDATA wEMPTY_LIST) (a1 : Addr) (h0 : Heap) (n0 : Nat) (O0 : Old Z n0 h0)  :
    MetB l M5 jdk_22_method_1_code 1 none ws (rmk 1 0 0 12) Z h0 #[(.ref a1)] (Q_au3_0 Z wDEFAULTCAPACITY_EMPTY_ELEMENTDATA wEMPTY_LIST a1 h0 n0) := by
  refine own_body (plainFor_of_name pn_java_util_AbstractCollection) ?_
  intro p e s m below meth c s₁ hx hby hml hown hnm hret0 hlk0 hZ X0 e0
  have N0 := Fr.nil n0
  have pre0 : ∀ t, Steps p.tables e below (s₁.setTop (mkF m 0 #[(vr a1)] [])) t → Steps p.tables e below (s₁.setTop (entryFrame m #[(.ref a1)] 1)) t := fun t k => castTop (ef_au3_0 m a1) k
  have hS0 := hS
  obtain ⟨S_wDEFAULTCAPACITY_EMPTY_ELEMENTDATA, E_wDEFAULTCAPACITY_EMPTY_ELEMENTDATA, S_wEMPTY_LIST, E_wEMPTY_LIST, F_allowNulls_wEMPTY_LIST⟩ := hS0
  obtain ⟨T1, X1, e1, st1⟩ := initO X0 hx hZ hown (ow hw 21 rfl) (ow hw 22 rfl) (ow hw 23 rfl) e0 (g := (mkF m 1 #[(vr a1)] [(.ref a1)])) rfl (by rw [hml]; rfl) rfl (hb hby d3_1) (by decide) (W := 0) (by show 2 * 0 + _ ≤ _; exact Nat.le_of_eq rfl) (by decide)
  obtain ⟨fs, hr, hrun, hended, hW, hsame⟩ := X1.leave (v := none) (fun _ => rfl)
  refine ⟨_, _, pre0 _ ?_, hrun, hended, _, _, rfl, ?_, ⟨_, rfl⟩, hW, hsame.mono (by decide) (by decide)⟩
  · skip
    show Steps p.tables e below (s₁.setTop (mkF m 0 #[(vr a1)] [])) _
    refine XS.aloadN X0.here hx rfl (hb hby d3_0) rfl rfl ?_
    refine st1 _ ?_
    exact X1.returnOut hx hret0 (hb hby d3_4) hr
  · show Q_au3_0 Z wDEFAULTCAPACITY_EMPTY_ELEMENTDATA wEMPTY_LIST a1 h0 n0 _ T1.heap _
    rw [e1]
    exact ⟨rfl, N0, rfl⟩
theorem pd_2 : parseMethodDescriptor "()V" = some ⟨[], none⟩ := by decide +kernel
theorem d2_4 : decode jdk_39_method_1_code 4 = .ok (.aload_n 0, 1) := by decide +kernel
theorem d2_5 : decode jdk_39_method_1_code 5 = .ok (.iconst 0, 1) := by decide +kernel
theorem d2_6 : decode jdk_39_method_1_code 6 = .ok (.putfield 7, 3) := by decide +kernel
theorem d2_9 : decode jdk_39_method_1_code 9 = .ok (.return_, 1) := by decide +kernel
def Q_au2_0 (Z : State) (wDEFAULTCAPACITY_EMPTY_ELEMENTDATA : Addr) (wEMPTY_LIST : Addr) (a1 : Addr) (h0 : Heap) (n0 : Nat) (v : Option Value) (h : Heap) (L : List Loc) : Prop := v = none ∧ Fr n0 L ∧ Keep h0 h [a1] ∧ Exa Z h a1 s0n ∧ Fld Z h a1 s5n "modCount" "I" (.int 0) ∧ Fld Z h a1 s0n "elementData" s1n .null ∧ Fld Z h a1 s0n "size" "I" (.int 0)
theorem au2_0 (l : Launch) (Z : State) (a0 : Array Value) (hw : ∀ d ∈ tables_1, d.before a0 Z = true) (ws : List Jvm.Cond) (wDEFAULTCAPACITY_EMPTY_ELEMENTDATA : Addr) (wEMPTY_LIST : Addr) (hS : SS Z wDEFAULTCAPACITY_EMPTY_ELEMENTDATA wEMPTY_LIST) (a1 : Addr) (h0 : Heap) (n0 : Nat) (O0 : Old Z n0 h0) (P0 : Exa Z h0 a1 s0n) (P1 : Fld Z h0 a1 s5n "modCount" "I" (.int 0)) (P2 : Fld Z h0 a1 s0n "elementData" s1n .null) (P3 : Fld Z h0 a1 s0n "size" "I" (.int 0)) (P5 : n0 ≤ a1) :
    MetB l M6 jdk_39_method_1_code 1 none ws (rmk 2 0 0 24) Z h0 #[(.ref a1)] (Q_au2_0 Z wDEFAULTCAPACITY_EMPTY_ELEMENTDATA wEMPTY_LIST a1 h0 n0) := by
  refine own_body (plainFor_of_name pn_java_util_AbstractList) ?_
  intro p e s m below meth c s₁ hx hby hml hown hnm hret0 hlk0 hZ X0 e0
  have N0 := Fr.nil n0
  have pre0 : ∀ t, Steps p.tables e below (s₁.setTop (mkF m 0 #[(vr a1)] [])) t → Steps p.tables e below (s₁.setTop (entryFrame m #[(.ref a1)] 1)) t := fun t k => castTop (ef_au2_0 m a1) k
  have K0 := Keep.refl h0 [a1]
  have hS0 := hS
  obtain ⟨S_wDEFAULTCAPACITY_EMPTY_ELEMENTDATA, E_wDEFAULTCAPACITY_EMPTY_ELEMENTDATA, S_wEMPTY_LIST, E_wEMPTY_LIST, F_allowNulls_wEMPTY_LIST⟩ := hS0
  obtain ⟨_, _, ⟨T1, L1, k1, n1⟩, -, X1, ⟨Lc1, hQ1, l1, y1, z1⟩, st1⟩ := X0.specialBack hx (y := M5) rfl hown (mvT hZ (ow hw 15 rfl)) (mvT hZ (ow hw 16 rfl)) (mvT hZ (ow hw 20 rfl)) (by decide) (backOf (W := 0) (au3_0 l Z a0 hw [] wDEFAULTCAPACITY_EMPTY_ELEMENTDATA wEMPTY_LIST hS a1 h0 n0 O0 ) hZ (ow hw 20 rfl) (ow hw 19 rfl) (by decide) (by decide)) (g := (mkF m 1 #[(vr a1)] [(.ref a1)])) rfl (by rw [hml]; rfl) (Steps.refl _) (a := a1) (argsL := []) (rest := []) (lenOf pd_2 rfl) rfl (by show 2 * 0 + _ ≤ _; exact Nat.le_of_eq rfl) (hb hby d2_1) (fun _ _ => ⟨rfl, e0, (by decide : 0 + 0 ≤ _), (by decide : 0 + 0 ≤ _)⟩)
  dsimp only [Pt.U, Pt.locs, Pt.cells, Pt.slots] at X1 l1 y1 z1 st1 hQ1
  subst l1 y1 z1
  obtain ⟨rfl, Nq1, K1q⟩ := hQ1
  have N1 := Fr.app N0 Nq1
  obtain ⟨T2, h2, X2, e2, W2, st2⟩ := putF X1 hx hZ hown (host := "") (Or.inl (ow hw 24 rfl)) Via.refl K1q P1 P0 (Or.inl (ow hw 25 rfl)) (ow hw 4 rfl) (ty := .int) (by decide) rfl rfl (g := (mkF m 6 #[(vr a1)] [(.int 0), (.ref a1)])) rfl rfl (hb hby d2_6)
  have N2 := Fr.snoc X2 N1 P5
  have O3 : Old Z n0 h2 := O0.wr W2 P5
  have K3 : Keep h0 h2 [a1] := K0.wr W2 (Or.inl (List.mem_of_getElem? (i := 0) rfl))
  have Fw2 : Fld Z h2 a1 s5n "modCount" "I" (.int 0) := P1.same W2
  have f4 : Exa Z h2 a1 s0n := (P0.wr W2)
  have f5 : Fld Z h2 a1 s0n "elementData" s1n .null := (P2.other W2 (Or.inr (slot_ne (Or.inl (ow hw 28 rfl)) (Or.inl (ow hw 25 rfl)) (by decide) (t := (.array (.object s6n))) (t' := .int) (by decide) (by decide))))
  have f6 : Fld Z h2 a1 s0n "size" "I" (.int 0) := (P3.other W2 (Or.inr (slot_ne (Or.inl (ow hw 43 rfl)) (Or.inl (ow hw 25 rfl)) (by decide) (t := .int) (t' := .int) (by decide) (by decide))))
  obtain ⟨fs, hr, hrun, hended, hW, hsame⟩ := X2.leave (v := none) (fun _ => rfl)
  refine ⟨_, _, pre0 _ ?_, hrun, hended, _, _, rfl, ?_, ⟨_, rfl⟩, hW, hsame.mono (by decide) (by decide)⟩
  · skip
    show Steps p.tables e below (s₁.setTop (mkF m 0 #[(vr a1)] [])) _
    refine XS.aloadN X0.here hx rfl (hb hby d2_0) rfl rfl ?_
    refine st1.trans ?_
    refine XS.aloadN X1.here hx rfl (hb hby d2_4) rfl rfl ?_
    refine XS.iconst X1.here hx rfl (hb hby d2_5) ?_
    refine st2 _ ?_
    show Steps p.tables e below (T2.setTop (mkF m 9 #[(vr a1)] [])) _
    exact X2.returnOut hx hret0 (hb hby d2_9) hr
  · show Q_au2_0 Z wDEFAULTCAPACITY_EMPTY_ELEMENTDATA wEMPTY_LIST a1 h0 n0 _ T2.heap _
    rw [e2]
    exact ⟨rfl, N2, K3, f4, Fw2, f5, f6⟩
theorem d1_4 : decode jdk_38_method_2_code 4 = .ok (.aload_n 0, 1) := by decide +kernel
theorem d1_5 : decode jdk_38_method_2_code 5 = .ok (.getstatic 39, 3) := by decide +kernel
theorem d1_8 : decode jdk_38_method_2_code 8 = .ok (.putfield 9, 3) := by decide +kernel
theorem d1_11 : decode jdk_38_method_2_code 11 = .ok (.return_, 1) := by decide +kernel
def Q_au1_0 (Z : State) (wDEFAULTCAPACITY_EMPTY_ELEMENTDATA : Addr) (wEMPTY_LIST : Addr) (a1 : Addr) (h0 : Heap) (n0 : Nat) (v : Option Value) (h : Heap) (L : List Loc) : Prop := v = none ∧ Fr n0 L ∧ Keep h0 h [a1] ∧ Exa Z h a1 s0n ∧ Fld Z h a1 s5n "modCount" "I" (.int 0) ∧ Fld Z h a1 s0n "elementData" s1n (.ref wDEFAULTCAPACITY_EMPTY_ELEMENTDATA) ∧ Fld Z h a1 s0n "size" "I" (.int 0)
theorem au1_0 (l : Launch) (Z : State) (a0 : Array Value) (hw : ∀ d ∈ tables_1, d.before a0 Z = true) (ws : List Jvm.Cond) (wDEFAULTCAPACITY_EMPTY_ELEMENTDATA : Addr) (wEMPTY_LIST : Addr) (hS : SS Z wDEFAULTCAPACITY_EMPTY_ELEMENTDATA wEMPTY_LIST) (a1 : Addr) (h0 : Heap) (n0 : Nat) (O0 : Old Z n0 h0) (P0 : Exa Z h0 a1 s0n) (P1 : Fld Z h0 a1 s5n "modCount" "I" (.int 0)) (P2 : Fld Z h0 a1 s0n "elementData" s1n .null) (P3 : Fld Z h0 a1 s0n "size" "I" (.int 0)) (P5 : n0 ≤ a1) :
    MetB l M7 jdk_38_method_2_code 1 none ws (rmk 3 0 0 36) Z h0 #[(.ref a1)] (Q_au1_0 Z wDEFAULTCAPACITY_EMPTY_ELEMENTDATA wEMPTY_LIST a1 h0 n0) := by
  refine own_body (plainFor_of_name pn_java_util_ArrayList) ?_
  intro p e s m below meth c s₁ hx hby hml hown hnm hret0 hlk0 hZ X0 e0
  have N0 := Fr.nil n0
  have pre0 : ∀ t, Steps p.tables e below (s₁.setTop (mkF m 0 #[(vr a1)] [])) t → Steps p.tables e below (s₁.setTop (entryFrame m #[(.ref a1)] 1)) t := fun t k => castTop (ef_au1_0 m a1) k
  have K0 := Keep.refl h0 [a1]
  have hS0 := hS
  obtain ⟨S_wDEFAULTCAPACITY_EMPTY_ELEMENTDATA, E_wDEFAULTCAPACITY_EMPTY_ELEMENTDATA, S_wEMPTY_LIST, E_wEMPTY_LIST, F_allowNulls_wEMPTY_LIST⟩ := hS0
  obtain ⟨_, _, ⟨T1, L1, k1, n1⟩, -, X1, ⟨Lc1, hQ1, l1, y1, z1⟩, st1⟩ := X0.specialBack hx (y := M6) rfl hown (mvT hZ (ow hw 9 rfl)) (mvT hZ (ow hw 10 rfl)) (mvT hZ (ow hw 14 rfl)) (by decide) (backOf (W := 0) (au2_0 l Z a0 hw [] wDEFAULTCAPACITY_EMPTY_ELEMENTDATA wEMPTY_LIST hS a1 h0 n0 O0 P0 P1 P2 P3 P5) hZ (ow hw 14 rfl) (ow hw 13 rfl) (by decide) (by decide)) (g := (mkF m 1 #[(vr a1)] [(.ref a1)])) rfl (by rw [hml]; rfl) (Steps.refl _) (a := a1) (argsL := []) (rest := []) (lenOf pd_2 rfl) rfl (by show 2 * 0 + _ ≤ _; exact Nat.le_of_eq rfl) (hb hby d1_1) (fun _ _ => ⟨rfl, e0, (by decide : 0 + 0 ≤ _), (by decide : 0 + 0 ≤ _)⟩)
  dsimp only [Pt.U, Pt.locs, Pt.cells, Pt.slots] at X1 l1 y1 z1 st1 hQ1
  subst l1 y1 z1
  obtain ⟨rfl, Nq1, K1q, p1_0, p1_1, p1_2, p1_3⟩ := hQ1
  have N1 := Fr.app N0 Nq1
  have O2 : Old Z n0 T1.heap := O0.keep K1q (allS P5 all0)
  have K2 : Keep h0 T1.heap [a1] := K0.trans K1q (allS (Or.inl (List.mem_of_getElem? (i := 0) rfl)) all0)
  obtain ⟨T3, X3, e3, st3⟩ := getS2 X1 hx hZ hown (host := "") (Or.inl (ow hw 26 rfl)) Via.refl rfl (S_wDEFAULTCAPACITY_EMPTY_ELEMENTDATA.ext O2.2) (g := (mkF m 5 #[(vr a1)] [(.ref a1)])) rfl (hb hby d1_5)
  obtain ⟨T4, h4, X4, e4, W4, st4⟩ := putF X3 hx hZ hown (host := "") (Or.inl (ow hw 27 rfl)) Via.refl e3 p1_2 p1_0 (Or.inl (ow hw 28 rfl)) (ow hw 4 rfl) (ty := (.array (.object s6n))) (by decide) rfl rfl (g := (mkF m 8 #[(vr a1)] [(.ref wDEFAULTCAPACITY_EMPTY_ELEMENTDATA), (.ref a1)])) rfl rfl (hb hby d1_8)
  have N4 := Fr.snoc X4 N1 P5
  have O5 : Old Z n0 h4 := O2.wr W4 P5
  have K5 : Keep h0 h4 [a1] := K2.wr W4 (Or.inl (List.mem_of_getElem? (i := 0) rfl))
  have Fw4 : Fld Z h4 a1 s0n "elementData" s1n (.ref wDEFAULTCAPACITY_EMPTY_ELEMENTDATA) := p1_2.same W4
  have f6 : Exa Z h4 a1 s0n := (p1_0.wr W4)
  have f7 : Fld Z h4 a1 s5n "modCount" "I" (.int 0) := (p1_1.other W4 (Or.inr (slot_ne (Or.inl (ow hw 25 rfl)) (Or.inl (ow hw 28 rfl)) (by decide) (t := .int) (t' := (.array (.object s6n))) (by decide) (by decide))))
  have f8 : Fld Z h4 a1 s0n "size" "I" (.int 0) := (p1_3.other W4 (Or.inr (slot_ne (Or.inl (ow hw 43 rfl)) (Or.inl (ow hw 28 rfl)) (by decide) (t := .int) (t' := (.array (.object s6n))) (by decide) (by decide))))
  obtain ⟨fs, hr, hrun, hended, hW, hsame⟩ := X4.leave (v := none) (fun _ => rfl)
  refine ⟨_, _, pre0 _ ?_, hrun, hended, _, _, rfl, ?_, ⟨_, rfl⟩, hW, hsame.mono (by decide) (by decide)⟩
  · skip
    show Steps p.tables e below (s₁.setTop (mkF m 0 #[(vr a1)] [])) _
    refine XS.aloadN X0.here hx rfl (hb hby d1_0) rfl rfl ?_
    refine st1.trans ?_
    refine XS.aloadN X1.here hx rfl (hb hby d1_4) rfl rfl ?_
    refine st3 _ ?_
    refine st4 _ ?_
    show Steps p.tables e below (T4.setTop (mkF m 11 #[(vr a1)] [])) _
    exact X4.returnOut hx hret0 (hb hby d1_11) hr
  · show Q_au1_0 Z wDEFAULTCAPACITY_EMPTY_ELEMENTDATA wEMPTY_LIST a1 h0 n0 _ T4.heap _
    rw [e4]
    exact ⟨rfl, N4, K5, f6, f7, Fw4, f8⟩
theorem ef_au5_0 (m : MethodId) (x0 : Addr) (x1 : Addr) (x2 : Addr) (x3 : Addr)  : entryFrame m #[(.ref x0), (.ref x1), (.ref x2), (.ref x3)] 4 = mkF m 0 #[(vr x0), (vr x1), (vr x2), (vr x3)] [] := by first | (simp [entryFrame, mkF, argsToLocals, Value.category]; done) | rfl
theorem d5_0 : decode prog_51_method_1_code 0 = .ok (.aload_n 0, 1) := by decide +kernel
theorem d5_1 : decode prog_51_method_1_code 1 = .ok (.aload_n 1, 1) := by decide +kernel
theorem d5_2 : decode prog_51_method_1_code 2 = .ok (.aload_n 2, 1) := by decide +kernel
theorem d5_3 : decode prog_51_method_1_code 3 = .ok (.aload_n 3, 1) := by decide +kernel
theorem d5_4 : decode prog_51_method_1_code 4 = .ok (.ldc2_w 5, 3) := by decide +kernel
theorem d5_7 : decode prog_51_method_1_code 7 = .ok (.aload_n 3, 1) := by decide +kernel
theorem d5_8 : decode prog_51_method_1_code 8 = .ok (.invokeinterface 7 1, 5) := by decide +kernel
theorem ef_au6_0 (m : MethodId) (x0 : Addr)  : entryFrame m #[(.ref x0)] 1 = mkF m 0 #[(vr x0)] [] := by first | (simp [entryFrame, mkF, argsToLocals, Value.category]; done) | rfl
theorem d6_0 : decode jdk_38_method_8_code 0 = .ok (.aload_n 0, 1) := by decide +kernel
theorem d6_1 : decode jdk_38_method_8_code 1 = .ok (.getfield 48, 3) := by decide +kernel
theorem d6_4 : decode jdk_38_method_8_code 4 = .ok (.ireturn, 1) := by decide +kernel
def Q_au6_0 (Z : State) (wDEFAULTCAPACITY_EMPTY_ELEMENTDATA : Addr) (wEMPTY_LIST : Addr) (a1 : Addr) (h0 : Heap) (n0 : Nat) (v : Option Value) (h : Heap) (L : List Loc) : Prop := v = some (.int 0) ∧ Fr n0 L ∧ h = h0
theorem au6_0 (l : Launch) (Z : State) (a0 : Array Value) (hw : ∀ d ∈ tables_1, d.before a0 Z = true) (ws : List Jvm.Cond) (wDEFAULTCAPACITY_EMPTY_ELEMENTDATA : Addr) (wEMPTY_LIST : Addr) (hS : SS Z wDEFAULTCAPACITY_EMPTY_ELEMENTDATA wEMPTY_LIST) (a1 : Addr) (h0 : Heap) (n0 : Nat) (O0 : Old Z n0 h0) (P3 : Fld Z h0 a1 s0n "size" "I" (.int 0)) :
    MetB l M8 jdk_38_method_8_code 1 (some .int) ws (rmk 0 0 0 0) Z h0 #[(.ref a1)] (Q_au6_0 Z wDEFAULTCAPACITY_EMPTY_ELEMENTDATA wEMPTY_LIST a1 h0 n0) := by
  refine own_body (plainFor_of_name pn_java_util_ArrayList) ?_
  intro p e s m below meth c s₁ hx hby hml hown hnm hret0 hlk0 hZ X0 e0
  have N0 := Fr.nil n0
  have pre0 : ∀ t, Steps p.tables e below (s₁.setTop (mkF m 0 #[(vr a1)] [])) t → Steps p.tables e below (s₁.setTop (entryFrame m #[(.ref a1)] 1)) t := fun t k => castTop (ef_au6_0 m a1) k
  have hS0 := hS
  obtain ⟨S_wDEFAULTCAPACITY_EMPTY_ELEMENTDATA, E_wDEFAULTCAPACITY_EMPTY_ELEMENTDATA, S_wEMPTY_LIST, E_wEMPTY_LIST, F_allowNulls_wEMPTY_LIST⟩ := hS0
  obtain ⟨T1, X1, e1, st1⟩ := getF X0 hx hZ hown (host := "") (Or.inl (ow hw 42 rfl)) Via.refl e0 P3 (g := (mkF m 1 #[(vr a1)] [(.ref a1)])) rfl rfl (hb hby d6_1)
  obtain ⟨fs, hr, hrun, hended, hW, hsame⟩ := X1.leave (v := some (.int 0)) (fun h => by rw [hret0] at h; cases h)
  refine ⟨_, _, pre0 _ ?_, hrun, hended, _, _, rfl, ?_, ⟨_, rfl⟩, hW, hsame.mono (by decide) (by decide)⟩
  · skip
    show Steps p.tables e below (s₁.setTop (mkF m 0 #[(vr a1)] [])) _
    refine XS.aloadN X0.here hx rfl (hb hby d6_0) rfl rfl ?_
    refine st1 _ ?_
    exact retI X1 hx hret0 (hb hby d6_4) hr
  · show Q_au6_0 Z wDEFAULTCAPACITY_EMPTY_ELEMENTDATA wEMPTY_LIST a1 h0 n0 _ T1.heap _
    rw [e1]
    exact ⟨rfl, N0, rfl⟩
theorem pd_3 : parseMethodDescriptor "()I" = some ⟨[], some .int⟩ := by decide +kernel
theorem d5_13 : decode prog_51_method_1_code 13 = .ok (.iconst 0, 1) := by decide +kernel
theorem d5_14 : decode prog_51_method_1_code 14 = .ok (.multianewarray 13 2, 4) := by decide +kernel
theorem d5_18 : decode prog_51_method_1_code 18 = .ok (.invokespecial 15, 3) := by decide +kernel
theorem ef_au7_0 (m : MethodId) (x0 : Addr) (x1 : Addr) (x2 : Addr) (x3 : Addr) (x4 : Int64) (x5 : Addr)  : entryFrame m #[(.ref x0), (.ref x1), (.ref x2), (.ref x3), (.long x4), (.ref x5)] 7 = mkF m 0 #[(vr x0), (vr x1), (vr x2), (vr x3), (vl x4), .second, (vr x5)] [] := by first | (simp [entryFrame, mkF, argsToLocals, Value.category]; done) | rfl
theorem d7_0 : decode prog_51_method_2_code 0 = .ok (.aload_n 0, 1) := by decide +kernel
theorem d7_1 : decode prog_51_method_2_code 1 = .ok (.invokespecial 19, 3) := by decide +kernel
theorem d7_4 : decode prog_51_method_2_code 4 = .ok (.aload_n 0, 1) := by decide +kernel
theorem d7_5 : decode prog_51_method_2_code 5 = .ok (.aload_n 1, 1) := by decide +kernel
theorem d7_6 : decode prog_51_method_2_code 6 = .ok (.invokestatic 24, 3) := by decide +kernel
theorem ef_au8_0 (m : MethodId) (x0 : Addr)  : entryFrame m #[(.ref x0)] 1 = mkF m 0 #[(vr x0)] [] := by first | (simp [entryFrame, mkF, argsToLocals, Value.category]; done) | rfl
theorem d8_0 : decode jdk_40_method_48_code 0 = .ok (.aload_n 0, 1) := by decide +kernel
theorem d8_1 : decode jdk_40_method_48_code 1 = .ok (.invokestatic 112, 3) := by decide +kernel
theorem pd_4 : parseMethodDescriptor "(Ljava/util/Collection;)Ljava/util/List;" = some ⟨[(.object "java/util/Collection")], some (.object "java/util/List")⟩ := by decide +kernel
theorem d8_4 : decode jdk_40_method_48_code 4 = .ok (.areturn, 1) := by decide +kernel
def Q_au8_0 (Z : State) (wDEFAULTCAPACITY_EMPTY_ELEMENTDATA : Addr) (wEMPTY_LIST : Addr) (a1 : Addr) (h0 : Heap) (n0 : Nat) (v : Option Value) (h : Heap) (L : List Loc) : Prop := v = some (.ref a1) ∧ Fr n0 L ∧ h = h0
theorem au8_0 (l : Launch) (Z : State) (a0 : Array Value) (hw : ∀ d ∈ tables_1, d.before a0 Z = true) (ws : List Jvm.Cond) (wDEFAULTCAPACITY_EMPTY_ELEMENTDATA : Addr) (wEMPTY_LIST : Addr) (hS : SS Z wDEFAULTCAPACITY_EMPTY_ELEMENTDATA wEMPTY_LIST) (a1 : Addr) (h0 : Heap) (n0 : Nat) (O0 : Old Z n0 h0) (P0 : Exa Z h0 a1 s0n) (P4 : asg Z s0n s2n true) :
    MetB l M9 jdk_40_method_48_code 1 (some (.object s3n)) ws (rmk 1 0 0 13) Z h0 #[(.ref a1)] (Q_au8_0 Z wDEFAULTCAPACITY_EMPTY_ELEMENTDATA wEMPTY_LIST a1 h0 n0) := by
  refine own_body (plainFor_of_name pn_java_util_List) ?_
  intro p e s m below meth c s₁ hx hby hml hown hnm hret0 hlk0 hZ X0 e0
  have N0 := Fr.nil n0
  have pre0 : ∀ t, Steps p.tables e below (s₁.setTop (mkF m 0 #[(vr a1)] [])) t → Steps p.tables e below (s₁.setTop (entryFrame m #[(.ref a1)] 1)) t := fun t k => castTop (ef_au8_0 m a1) k
  have hS0 := hS
  obtain ⟨S_wDEFAULTCAPACITY_EMPTY_ELEMENTDATA, E_wDEFAULTCAPACITY_EMPTY_ELEMENTDATA, S_wEMPTY_LIST, E_wEMPTY_LIST, F_allowNulls_wEMPTY_LIST⟩ := hS0
  obtain ⟨_, _, ⟨T1, L1, k1, n1⟩, -, X1, ⟨Lc1, hQ1, l1, y1, z1⟩, st1⟩ := Jvm.LawKit.callS X0 hx (y := M0) hown (mvT hZ (ow hw 55 rfl)) (mvT hZ (ow hw 56 rfl)) (mvT hZ (ow hw 57 rfl)) (mvT hZ (ow hw 58 rfl)) (by decide) (backOf (W := 0) (rmLCT l Z a0 hw [] wDEFAULTCAPACITY_EMPTY_ELEMENTDATA wEMPTY_LIST hS a1 h0 n0 O0 P0 P4) hZ (ow hw 58 rfl) (ow hw 57 rfl) (by decide) (by decide)) (g := (mkF m 1 #[(vr a1)] [(.ref a1)])) rfl (by rw [hml]; rfl) (argsL := [(.ref a1)]) (rest := []) (lenOf pd_4 rfl) rfl (by show 2 * 0 + _ ≤ _; exact Nat.le_of_eq rfl) (hb hby d8_1) (fun _ _ => ⟨rfl, e0, (by decide : 0 + 0 ≤ _), (by decide : 0 + 0 ≤ _)⟩)
  dsimp only [Pt.U, Pt.locs, Pt.cells, Pt.slots] at X1 l1 y1 z1 st1 hQ1
  subst l1 y1 z1
  obtain ⟨rfl, Nq1, K1q⟩ := hQ1
  have N1 := Fr.app N0 Nq1
  obtain ⟨fs, hr, hrun, hended, hW, hsame⟩ := X1.leave (v := some (.ref a1)) (fun h => by rw [hret0] at h; cases h)
  refine ⟨_, _, pre0 _ ?_, hrun, hended, _, _, rfl, ?_, ⟨_, rfl⟩, hW, hsame.mono (by decide) (by decide)⟩
  · skip
    show Steps p.tables e below (s₁.setTop (mkF m 0 #[(vr a1)] [])) _
    refine XS.aloadN X0.here hx rfl (hb hby d8_0) rfl rfl ?_
    refine st1 _ ?_
    jvm_step X1.here [X1.here.top, hx, (hb hby d8_4), X1.method', hret0, Value.isRef, FieldType.isReference]
    first | (intro acts; rw [hr _ acts rfl rfl rfl]) | rw [hr _ _ rfl rfl rfl]
    exact Steps.refl _
  · show Q_au8_0 Z wDEFAULTCAPACITY_EMPTY_ELEMENTDATA wEMPTY_LIST a1 h0 n0 _ T1.heap _
    rw [K1q]
    exact ⟨rfl, N1, rfl⟩
theorem d7_9 : decode prog_51_method_2_code 9 = .ok (.putfield 28, 3) := by decide +kernel
theorem d7_12 : decode prog_51_method_2_code 12 = .ok (.aload_n 0, 1) := by decide +kernel
theorem d7_13 : decode prog_51_method_2_code 13 = .ok (.aload_n 2, 1) := by decide +kernel
theorem d7_14 : decode prog_51_method_2_code 14 = .ok (.invokestatic 24, 3) := by decide +kernel
theorem d7_17 : decode prog_51_method_2_code 17 = .ok (.putfield 32, 3) := by decide +kernel
theorem d7_20 : decode prog_51_method_2_code 20 = .ok (.aload_n 0, 1) := by decide +kernel
theorem d7_21 : decode prog_51_method_2_code 21 = .ok (.aload_n 3, 1) := by decide +kernel
theorem d7_22 : decode prog_51_method_2_code 22 = .ok (.invokestatic 24, 3) := by decide +kernel
theorem d7_25 : decode prog_51_method_2_code 25 = .ok (.putfield 35, 3) := by decide +kernel
theorem d7_28 : decode prog_51_method_2_code 28 = .ok (.aload_n 0, 1) := by decide +kernel
theorem d7_29 : decode prog_51_method_2_code 29 = .ok (.lload 4, 2) := by decide +kernel
theorem d7_31 : decode prog_51_method_2_code 31 = .ok (.putfield 38, 3) := by decide +kernel
theorem d7_34 : decode prog_51_method_2_code 34 = .ok (.aload_n 0, 1) := by decide +kernel
theorem d7_35 : decode prog_51_method_2_code 35 = .ok (.aload 6, 2) := by decide +kernel
theorem d7_37 : decode prog_51_method_2_code 37 = .ok (.putfield 42, 3) := by decide +kernel
theorem d7_40 : decode prog_51_method_2_code 40 = .ok (.return_, 1) := by decide +kernel
def Q_au7_0 (Z : State) (wDEFAULTCAPACITY_EMPTY_ELEMENTDATA : Addr) (wEMPTY_LIST : Addr) (a1 : Addr) (a2 : Addr) (a3 : Addr) (a4 : Addr) (a5 : Addr) (h0 : Heap) (n0 : Nat) (v : Option Value) (h : Heap) (L : List Loc) : Prop := v = none ∧ Fr n0 L ∧ Keep h0 h [a1] ∧ Exa Z h a1 s4n ∧ Fld Z h a1 s4n "conflicts" s7n (.ref a3) ∧ Fld Z h a1 s4n "entered" "[[J" (.ref a5) ∧ Fld Z h a1 s4n "moment" "J" (.long (-9223372036854775808 : Int64)) ∧ Fld Z h a1 s4n "resources" s7n (.ref a2) ∧ Fld Z h a1 s4n "trains" s7n (.ref a4)
theorem au7_0 (l : Launch) (Z : State) (a0 : Array Value) (hw : ∀ d ∈ tables_1, d.before a0 Z = true) (ws : List Jvm.Cond) (wDEFAULTCAPACITY_EMPTY_ELEMENTDATA : Addr) (wEMPTY_LIST : Addr) (hS : SS Z wDEFAULTCAPACITY_EMPTY_ELEMENTDATA wEMPTY_LIST) (a1 : Addr) (a2 : Addr) (a3 : Addr) (a4 : Addr) (a5 : Addr) (h0 : Heap) (n0 : Nat) (O0 : Old Z n0 h0) (P0 : Exa Z h0 a1 s4n) (P1 : Fld Z h0 a1 s4n "conflicts" s7n .null) (P2 : Fld Z h0 a1 s4n "entered" "[[J" .null) (P3 : Fld Z h0 a1 s4n "moment" "J" (.long 0)) (P4 : Fld Z h0 a1 s4n "resources" s7n .null) (P5 : Fld Z h0 a1 s4n "trains" s7n .null) (P6 : Exa Z h0 a2 s0n) (P10 : Exa Z h0 a3 s0n) (P14 : Exa Z h0 a4 s0n) (P21 : asg Z s0n s2n true) (P22 : n0 ≤ a1) :
    MetB l M10 prog_51_method_2_code 7 none ws (rmk 2 0 0 26) Z h0 #[(.ref a1), (.ref a2), (.ref a3), (.ref a4), (.long (-9223372036854775808 : Int64)), (.ref a5)] (Q_au7_0 Z wDEFAULTCAPACITY_EMPTY_ELEMENTDATA wEMPTY_LIST a1 a2 a3 a4 a5 h0 n0) := by
  refine own_body (plainFor_of_name pn_com_example_loopline_loopline_engine_Scenario) ?_
  intro p e s m below meth c s₁ hx hby hml hown hnm hret0 hlk0 hZ X0 e0
  have N0 := Fr.nil n0
  have pre0 : ∀ t, Steps p.tables e below (s₁.setTop (mkF m 0 #[(vr a1), (vr a2), (vr a3), (vr a4), .val (.long (-9223372036854775808 : Int64)), .second, (vr a5)] [])) t → Steps p.tables e below (s₁.setTop (entryFrame m #[(.ref a1), (.ref a2), (.ref a3), (.ref a4), (.long (-9223372036854775808 : Int64)), (.ref a5)] 7)) t := fun t k => castTop (ef_au7_0 m a1 a2 a3 a4 (-9223372036854775808 : Int64) a5) k
  have K0 := Keep.refl h0 [a1]
  have hS0 := hS
  obtain ⟨S_wDEFAULTCAPACITY_EMPTY_ELEMENTDATA, E_wDEFAULTCAPACITY_EMPTY_ELEMENTDATA, S_wEMPTY_LIST, E_wEMPTY_LIST, F_allowNulls_wEMPTY_LIST⟩ := hS0
  obtain ⟨T1, X1, e1, st1⟩ := initO X0 hx hZ hown (ow hw 50 rfl) (ow hw 22 rfl) (ow hw 23 rfl) e0 (g := (mkF m 1 #[(vr a1), (vr a2), (vr a3), (vr a4), .val (.long (-9223372036854775808 : Int64)), .second, (vr a5)] [(.ref a1)])) rfl (by rw [hml]; rfl) rfl (hb hby d7_1) (by decide) (W := 0) (by show 2 * 0 + _ ≤ _; exact Nat.le_of_eq rfl) (by decide)
  obtain ⟨_, _, ⟨T2, L2, k2, n2⟩, -, X2, ⟨Lc2, hQ2, l2, y2, z2⟩, st2⟩ := Jvm.LawKit.callS X1 hx (y := M9) hown (mvT hZ (ow hw 51 rfl)) (mvT hZ (ow hw 52 rfl)) (mvT hZ (ow hw 53 rfl)) (mvT hZ (ow hw 54 rfl)) (by decide) (backOf (W := 1) (au8_0 l Z a0 hw [] wDEFAULTCAPACITY_EMPTY_ELEMENTDATA wEMPTY_LIST hS a2 h0 n0 O0 P6 P21) hZ (ow hw 54 rfl) (ow hw 53 rfl) (by decide) (by decide)) (g := (mkF m 6 #[(vr a1), (vr a2), (vr a3), (vr a4), .val (.long (-9223372036854775808 : Int64)), .second, (vr a5)] [(.ref a2), (.ref a1)])) rfl (by rw [hml]; rfl) (argsL := [(.ref a2)]) (rest := [(.ref a1)]) (lenOf pd_4 rfl) rfl (by show 2 * 0 + _ ≤ _; exact Nat.le_of_eq rfl) (hb hby d7_6) (fun _ _ => ⟨rfl, e1, (by decide : 0 + 0 ≤ _), (by decide : 0 + 0 ≤ _)⟩)
  dsimp only [Pt.U, Pt.locs, Pt.cells, Pt.slots] at X2 l2 y2 z2 st2 hQ2
  subst l2 y2 z2
  obtain ⟨rfl, Nq2, K2q⟩ := hQ2
  have N2 := Fr.app N0 Nq2
  obtain ⟨T3, h3, X3, e3, W3, st3⟩ := putF X2 hx hZ hown (host := "") (Or.inl (ow hw 78 rfl)) Via.refl K2q P4 P0 (Or.inr ⟨(ow hw 79 rfl), rfl, hnm⟩) (ow hw 1 rfl) (ty := (.object s3n)) (by decide) rfl rfl (g := (mkF m 9 #[(vr a1), (vr a2), (vr a3), (vr a4), .val (.long (-9223372036854775808 : Int64)), .second, (vr a5)] [(.ref a2), (.ref a1)])) rfl rfl (hb hby d7_9)
  have N3 := Fr.snoc X3 N2 P22
  have O4 : Old Z n0 h3 := O0.wr W3 P22
  have K4 : Keep h0 h3 [a1] := K0.wr W3 (Or.inl (List.mem_of_getElem? (i := 0) rfl))
  have Fw3 : Fld Z h3 a1 s4n "resources" s7n (.ref a2) := P4.same W3
  have f5 : Exa Z h3 a3 s0n := (P10.wr W3)
  obtain ⟨_, _, ⟨T6, L6, k6, n6⟩, -, X6, ⟨Lc6, hQ6, l6, y6, z6⟩, st6⟩ := Jvm.LawKit.callS X3 hx (y := M9) hown (mvT hZ (ow hw 51 rfl)) (mvT hZ (ow hw 52 rfl)) (mvT hZ (ow hw 53 rfl)) (mvT hZ (ow hw 54 rfl)) (by decide) (backOf (W := 1) (au8_0 l Z a0 hw [] wDEFAULTCAPACITY_EMPTY_ELEMENTDATA wEMPTY_LIST hS a3 h3 n0 O4 f5 P21) hZ (ow hw 54 rfl) (ow hw 53 rfl) (by decide) (by decide)) (g := (mkF m 14 #[(vr a1), (vr a2), (vr a3), (vr a4), .val (.long (-9223372036854775808 : Int64)), .second, (vr a5)] [(.ref a3), (.ref a1)])) rfl (by rw [hml]; rfl) (argsL := [(.ref a3)]) (rest := [(.ref a1)]) (lenOf pd_4 rfl) rfl (by show 2 * 0 + _ ≤ _; exact Nat.le_of_eq rfl) (hb hby d7_14) (fun _ _ => ⟨rfl, e3, (by decide : 0 + 0 ≤ _), (by decide : 0 + 0 ≤ _)⟩)
  dsimp only [Pt.U, Pt.locs, Pt.cells, Pt.slots] at X6 l6 y6 z6 st6 hQ6
  subst l6 y6 z6
  obtain ⟨rfl, Nq6, K6q⟩ := hQ6
  have N6 := Fr.app N3 Nq6
  have f7 : Exa Z h3 a1 s4n := (P0.wr W3)
  have f8 : Fld Z h3 a1 s4n "conflicts" s7n .null := (P1.other W3 (Or.inr (slot_ne (Or.inr (ow hw 81 rfl)) (Or.inr (ow hw 79 rfl)) (by decide) (t := (.object s3n)) (t' := (.object s3n)) (by decide) (by decide))))
  obtain ⟨T9, h9, X9, e9, W9, st9⟩ := putF X6 hx hZ hown (host := "") (Or.inl (ow hw 80 rfl)) Via.refl K6q f8 f7 (Or.inr ⟨(ow hw 81 rfl), rfl, hnm⟩) (ow hw 1 rfl) (ty := (.object s3n)) (by decide) rfl rfl (g := (mkF m 17 #[(vr a1), (vr a2), (vr a3), (vr a4), .val (.long (-9223372036854775808 : Int64)), .second, (vr a5)] [(.ref a3), (.ref a1)])) rfl rfl (hb hby d7_17)
  have N9 := Fr.snoc X9 N6 P22
  have O10 : Old Z n0 h9 := O4.wr W9 P22
  have K10 : Keep h0 h9 [a1] := K4.wr W9 (Or.inl (List.mem_of_getElem? (i := 0) rfl))
  have Fw9 : Fld Z h9 a1 s4n "conflicts" s7n (.ref a3) := f8.same W9
  have f11 : Exa Z h9 a4 s0n := ((P14.wr W3).wr W9)
  obtain ⟨_, _, ⟨T12, L12, k12, n12⟩, -, X12, ⟨Lc12, hQ12, l12, y12, z12⟩, st12⟩ := Jvm.LawKit.callS X9 hx (y := M9) hown (mvT hZ (ow hw 51 rfl)) (mvT hZ (ow hw 52 rfl)) (mvT hZ (ow hw 53 rfl)) (mvT hZ (ow hw 54 rfl)) (by decide) (backOf (W := 1) (au8_0 l Z a0 hw [] wDEFAULTCAPACITY_EMPTY_ELEMENTDATA wEMPTY_LIST hS a4 h9 n0 O10 f11 P21) hZ (ow hw 54 rfl) (ow hw 53 rfl) (by decide) (by decide)) (g := (mkF m 22 #[(vr a1), (vr a2), (vr a3), (vr a4), .val (.long (-9223372036854775808 : Int64)), .second, (vr a5)] [(.ref a4), (.ref a1)])) rfl (by rw [hml]; rfl) (argsL := [(.ref a4)]) (rest := [(.ref a1)]) (lenOf pd_4 rfl) rfl (by show 2 * 0 + _ ≤ _; exact Nat.le_of_eq rfl) (hb hby d7_22) (fun _ _ => ⟨rfl, e9, (by decide : 0 + 0 ≤ _), (by decide : 0 + 0 ≤ _)⟩)
  dsimp only [Pt.U, Pt.locs, Pt.cells, Pt.slots] at X12 l12 y12 z12 st12 hQ12
  subst l12 y12 z12
  obtain ⟨rfl, Nq12, K12q⟩ := hQ12
  have N12 := Fr.app N9 Nq12
  have f13 : Exa Z h9 a1 s4n := (f7.wr W9)
  have f14 : Fld Z h9 a1 s4n "trains" s7n .null := ((P5.other W3 (Or.inr (slot_ne (Or.inr (ow hw 83 rfl)) (Or.inr (ow hw 79 rfl)) (by decide) (t := (.object s3n)) (t' := (.object s3n)) (by decide) (by decide)))).other W9 (Or.inr (slot_ne (Or.inr (ow hw 83 rfl)) (Or.inr (ow hw 81 rfl)) (by decide) (t := (.object s3n)) (t' := (.object s3n)) (by decide) (by decide))))
  obtain ⟨T15, h15, X15, e15, W15, st15⟩ := putF X12 hx hZ hown (host := "") (Or.inl (ow hw 82 rfl)) Via.refl K12q f14 f13 (Or.inr ⟨(ow hw 83 rfl), rfl, hnm⟩) (ow hw 1 rfl) (ty := (.object s3n)) (by decide) rfl rfl (g := (mkF m 25 #[(vr a1), (vr a2), (vr a3), (vr a4), .val (.long (-9223372036854775808 : Int64)), .second, (vr a5)] [(.ref a4), (.ref a1)])) rfl rfl (hb hby d7_25)
  have N15 := Fr.snoc X15 N12 P22
  have O16 : Old Z n0 h15 := O10.wr W15 P22
  have K16 : Keep h0 h15 [a1] := K10.wr W15 (Or.inl (List.mem_of_getElem? (i := 0) rfl))
  have Fw15 : Fld Z h15 a1 s4n "trains" s7n (.ref a4) := f14.same W15
  have f17 : Exa Z h15 a1 s4n := (f13.wr W15)
  have f18 : Fld Z h15 a1 s4n "moment" "J" (.long 0) := (((P3.other W3 (Or.inr (slot_ne (Or.inr (ow hw 85 rfl)) (Or.inr (ow hw 79 rfl)) (by decide) (t := .long) (t' := (.object s3n)) (by decide) (by decide)))).other W9 (Or.inr (slot_ne (Or.inr (ow hw 85 rfl)) (Or.inr (ow hw 81 rfl)) (by decide) (t := .long) (t' := (.object s3n)) (by decide) (by decide)))).other W15 (Or.inr (slot_ne (Or.inr (ow hw 85 rfl)) (Or.inr (ow hw 83 rfl)) (by decide) (t := .long) (t' := (.object s3n)) (by decide) (by decide))))
  obtain ⟨T19, h19, X19, e19, W19, st19⟩ := putF X15 hx hZ hown (host := "") (Or.inl (ow hw 84 rfl)) Via.refl e15 f18 f17 (Or.inr ⟨(ow hw 85 rfl), rfl, hnm⟩) (ow hw 1 rfl) (ty := .long) (by decide) rfl rfl (g := (mkF m 31 #[(vr a1), (vr a2), (vr a3), (vr a4), .val (.long (-9223372036854775808 : Int64)), .second, (vr a5)] [(.long (-9223372036854775808 : Int64)), (.ref a1)])) rfl rfl (hb hby d7_31)
  have N19 := Fr.snoc X19 N15 P22
  have O20 : Old Z n0 h19 := O16.wr W19 P22
  have K20 : Keep h0 h19 [a1] := K16.wr W19 (Or.inl (List.mem_of_getElem? (i := 0) rfl))
  have Fw19 : Fld Z h19 a1 s4n "moment" "J" (.long (-9223372036854775808 : Int64)) := f18.same W19
  have f21 : Exa Z h19 a1 s4n := (f17.wr W19)
  have f22 : Fld Z h19 a1 s4n "entered" "[[J" .null := ((((P2.other W3 (Or.inr (slot_ne (Or.inr (ow hw 87 rfl)) (Or.inr (ow hw 79 rfl)) (by decide) (t := (.array (.array .long))) (t' := (.object s3n)) (by decide) (by decide)))).other W9 (Or.inr (slot_ne (Or.inr (ow hw 87 rfl)) (Or.inr (ow hw 81 rfl)) (by decide) (t := (.array (.array .long))) (t' := (.object s3n)) (by decide) (by decide)))).other W15 (Or.inr (slot_ne (Or.inr (ow hw 87 rfl)) (Or.inr (ow hw 83 rfl)) (by decide) (t := (.array (.array .long))) (t' := (.object s3n)) (by decide) (by decide)))).other W19 (Or.inr (slot_ne (Or.inr (ow hw 87 rfl)) (Or.inr (ow hw 85 rfl)) (by decide) (t := (.array (.array .long))) (t' := .long) (by decide) (by decide))))
  obtain ⟨T23, h23, X23, e23, W23, st23⟩ := putF X19 hx hZ hown (host := "") (Or.inl (ow hw 86 rfl)) Via.refl e19 f22 f21 (Or.inr ⟨(ow hw 87 rfl), rfl, hnm⟩) (ow hw 1 rfl) (ty := (.array (.array .long))) (by decide) rfl rfl (g := (mkF m 37 #[(vr a1), (vr a2), (vr a3), (vr a4), .val (.long (-9223372036854775808 : Int64)), .second, (vr a5)] [(.ref a5), (.ref a1)])) rfl rfl (hb hby d7_37)
  have N23 := Fr.snoc X23 N19 P22
  have O24 : Old Z n0 h23 := O20.wr W23 P22
  have K24 : Keep h0 h23 [a1] := K20.wr W23 (Or.inl (List.mem_of_getElem? (i := 0) rfl))
  have Fw23 : Fld Z h23 a1 s4n "entered" "[[J" (.ref a5) := f22.same W23
  have f25 : Exa Z h23 a1 s4n := (f21.wr W23)
  have f26 : Fld Z h23 a1 s4n "conflicts" s7n (.ref a3) := (((Fw9.other W15 (Or.inr (slot_ne (Or.inr (ow hw 81 rfl)) (Or.inr (ow hw 83 rfl)) (by decide) (t := (.object s3n)) (t' := (.object s3n)) (by decide) (by decide)))).other W19 (Or.inr (slot_ne (Or.inr (ow hw 81 rfl)) (Or.inr (ow hw 85 rfl)) (by decide) (t := (.object s3n)) (t' := .long) (by decide) (by decide)))).other W23 (Or.inr (slot_ne (Or.inr (ow hw 81 rfl)) (Or.inr (ow hw 87 rfl)) (by decide) (t := (.object s3n)) (t' := (.array (.array .long))) (by decide) (by decide))))
  have f27 : Fld Z h23 a1 s4n "moment" "J" (.long (-9223372036854775808 : Int64)) := (Fw19.other W23 (Or.inr (slot_ne (Or.inr (ow hw 85 rfl)) (Or.inr (ow hw 87 rfl)) (by decide) (t := .long) (t' := (.array (.array .long))) (by decide) (by decide))))
  have f28 : Fld Z h23 a1 s4n "resources" s7n (.ref a2) := ((((Fw3.other W9 (Or.inr (slot_ne (Or.inr (ow hw 79 rfl)) (Or.inr (ow hw 81 rfl)) (by decide) (t := (.object s3n)) (t' := (.object s3n)) (by decide) (by decide)))).other W15 (Or.inr (slot_ne (Or.inr (ow hw 79 rfl)) (Or.inr (ow hw 83 rfl)) (by decide) (t := (.object s3n)) (t' := (.object s3n)) (by decide) (by decide)))).other W19 (Or.inr (slot_ne (Or.inr (ow hw 79 rfl)) (Or.inr (ow hw 85 rfl)) (by decide) (t := (.object s3n)) (t' := .long) (by decide) (by decide)))).other W23 (Or.inr (slot_ne (Or.inr (ow hw 79 rfl)) (Or.inr (ow hw 87 rfl)) (by decide) (t := (.object s3n)) (t' := (.array (.array .long))) (by decide) (by decide))))
  have f29 : Fld Z h23 a1 s4n "trains" s7n (.ref a4) := ((Fw15.other W19 (Or.inr (slot_ne (Or.inr (ow hw 83 rfl)) (Or.inr (ow hw 85 rfl)) (by decide) (t := (.object s3n)) (t' := .long) (by decide) (by decide)))).other W23 (Or.inr (slot_ne (Or.inr (ow hw 83 rfl)) (Or.inr (ow hw 87 rfl)) (by decide) (t := (.object s3n)) (t' := (.array (.array .long))) (by decide) (by decide))))
  obtain ⟨fs, hr, hrun, hended, hW, hsame⟩ := X23.leave (v := none) (fun _ => rfl)
  refine ⟨_, _, pre0 _ ?_, hrun, hended, _, _, rfl, ?_, ⟨_, rfl⟩, hW, hsame.mono (by decide) (by decide)⟩
  · skip
    show Steps p.tables e below (s₁.setTop (mkF m 0 #[(vr a1), (vr a2), (vr a3), (vr a4), .val (.long (-9223372036854775808 : Int64)), .second, (vr a5)] [])) _
    refine XS.aloadN X0.here hx rfl (hb hby d7_0) rfl rfl ?_
    refine st1 _ ?_
    refine XS.aloadN X1.here hx rfl (hb hby d7_4) rfl rfl ?_
    refine XS.aloadN X1.here hx rfl (hb hby d7_5) rfl rfl ?_
    refine st2 _ ?_
    show Steps p.tables e below (T2.setTop (mkF m 9 #[(vr a1), (vr a2), (vr a3), (vr a4), .val (.long (-9223372036854775808 : Int64)), .second, (vr a5)] [(.ref a2), (.ref a1)])) _
    refine st3 _ ?_
    refine XS.aloadN X3.here hx rfl (hb hby d7_12) rfl rfl ?_
    refine XS.aloadN X3.here hx rfl (hb hby d7_13) rfl rfl ?_
    refine st6 _ ?_
    refine st9 _ ?_
    show Steps p.tables e below (T9.setTop (mkF m 20 #[(vr a1), (vr a2), (vr a3), (vr a4), .val (.long (-9223372036854775808 : Int64)), .second, (vr a5)] [])) _
    refine XS.aloadN X9.here hx rfl (hb hby d7_20) rfl rfl ?_
    refine XS.aloadN X9.here hx rfl (hb hby d7_21) rfl rfl ?_
    refine st12 _ ?_
    refine st15 _ ?_
    refine XS.aloadN X15.here hx rfl (hb hby d7_28) rfl rfl ?_
    show Steps p.tables e below (T15.setTop (mkF m 29 #[(vr a1), (vr a2), (vr a3), (vr a4), .val (.long (-9223372036854775808 : Int64)), .second, (vr a5)] [(.ref a1)])) _
    refine XS.lload X15.here hx rfl (hb hby d7_29) rfl ?_
    refine st19 _ ?_
    refine XS.aloadN X19.here hx rfl (hb hby d7_34) rfl rfl ?_
    refine XS.aload X19.here hx rfl (hb hby d7_35) rfl rfl ?_
    refine st23 _ ?_
    show Steps p.tables e below (T23.setTop (mkF m 40 #[(vr a1), (vr a2), (vr a3), (vr a4), .val (.long (-9223372036854775808 : Int64)), .second, (vr a5)] [])) _
    exact X23.returnOut hx hret0 (hb hby d7_40) hr
  · show Q_au7_0 Z wDEFAULTCAPACITY_EMPTY_ELEMENTDATA wEMPTY_LIST a1 a2 a3 a4 a5 h0 n0 _ T23.heap _
    rw [e23]
    exact ⟨rfl, N23, K24, f25, f26, Fw23, f27, f28, f29⟩
theorem pd_5 : parseMethodDescriptor "(Ljava/util/List;Ljava/util/List;Ljava/util/List;J[[J)V" = some ⟨[(.object "java/util/List"), (.object "java/util/List"), (.object "java/util/List"), .long, (.array (.array .long))], none⟩ := by decide +kernel
theorem d5_21 : decode prog_51_method_1_code 21 = .ok (.return_, 1) := by decide +kernel
def Q_au5_0 (Z : State) (wDEFAULTCAPACITY_EMPTY_ELEMENTDATA : Addr) (wEMPTY_LIST : Addr) (a1 : Addr) (a2 : Addr) (a3 : Addr) (a4 : Addr) (h0 : Heap) (n0 : Nat) (v : Option Value) (h : Heap) (L : List Loc) : Prop := ∃ (e1 : Addr) (e2 : ClassId), v = none ∧ Fr n0 L ∧ Keep h0 h [a1] ∧ Exa Z h a1 s4n ∧ Fld Z h a1 s4n "conflicts" s7n (.ref a3) ∧ Fld Z h a1 s4n "entered" "[[J" (.ref e1) ∧ Fld Z h a1 s4n "moment" "J" (.long (-9223372036854775808 : Int64)) ∧ Fld Z h a1 s4n "resources" s7n (.ref a2) ∧ Fld Z h a1 s4n "trains" s7n (.ref a4) ∧ h0.size ≤ e1 ∧ Exa Z h e1 "[[J" ∧ Arv Z h e1 e2 (.array .long) (0 : Int32) ([]) .null ∧ OvrA Z e2 .long "[J"
theorem au5_0 (l : Launch) (Z : State) (a0 : Array Value) (hw : ∀ d ∈ tables_1, d.before a0 Z = true) (ws : List Jvm.Cond) (wDEFAULTCAPACITY_EMPTY_ELEMENTDATA : Addr) (wEMPTY_LIST : Addr) (hS : SS Z wDEFAULTCAPACITY_EMPTY_ELEMENTDATA wEMPTY_LIST) (a1 : Addr) (a2 : Addr) (a3 : Addr) (a4 : Addr) (h0 : Heap) (n0 : Nat) (O0 : Old Z n0 h0) (P0 : Exa Z h0 a1 s4n) (P1 : Fld Z h0 a1 s4n "conflicts" s7n .null) (P2 : Fld Z h0 a1 s4n "entered" "[[J" .null) (P3 : Fld Z h0 a1 s4n "moment" "J" (.long 0)) (P4 : Fld Z h0 a1 s4n "resources" s7n .null) (P5 : Fld Z h0 a1 s4n "trains" s7n .null) (P6 : Exa Z h0 a2 s0n) (P10 : Exa Z h0 a3 s0n) (P14 : Exa Z h0 a4 s0n) (P17 : Fld Z h0 a4 s0n "size" "I" (.int 0)) (P18 : asg Z s0n s2n true) (P19 : n0 ≤ a1) :
    MetB l M11 prog_51_method_1_code 4 none ws (rmk 3 1 0 44) Z h0 #[(.ref a1), (.ref a2), (.ref a3), (.ref a4)] (Q_au5_0 Z wDEFAULTCAPACITY_EMPTY_ELEMENTDATA wEMPTY_LIST a1 a2 a3 a4 h0 n0) := by
  refine own_body (plainFor_of_name pn_com_example_loopline_loopline_engine_Scenario) ?_
  intro p e s m below meth c s₁ hx hby hml hown hnm hret0 hlk0 hZ X0 e0
  have N0 := Fr.nil n0
  have pre0 : ∀ t, Steps p.tables e below (s₁.setTop (mkF m 0 #[(vr a1), (vr a2), (vr a3), (vr a4)] [])) t → Steps p.tables e below (s₁.setTop (entryFrame m #[(.ref a1), (.ref a2), (.ref a3), (.ref a4)] 4)) t := fun t k => castTop (ef_au5_0 m a1 a2 a3 a4) k
  have K0 := Keep.refl h0 [a1]
  have hS0 := hS
  obtain ⟨S_wDEFAULTCAPACITY_EMPTY_ELEMENTDATA, E_wDEFAULTCAPACITY_EMPTY_ELEMENTDATA, S_wEMPTY_LIST, E_wEMPTY_LIST, F_allowNulls_wEMPTY_LIST⟩ := hS0
  obtain ⟨cq1, kq1, q1a, q1b, q1c⟩ := isOf hZ e0 P14
  obtain ⟨_, _, ⟨T1, L1, k1, n1⟩, -, X1, ⟨Lc1, hQ1, l1, y1, z1⟩, st1⟩ := X0.interfaceBack hx (xi := M12) (y := M8) hown (mvT hZ (ow hw 33 rfl)) (mvT hZ (ow hw 34 rfl)) (mvT hZ (ow hw 35 rfl)) (mvT hZ (ow hw 36 rfl)) (mvT hZ (ow hw 37 rfl)) (mvT hZ (ow hw 38 rfl)) (mvT hZ (ow hw 39 rfl)) (mvT hZ (ow hw 40 rfl)) (by decide) (backOf (W := 6) (au6_0 l Z a0 hw [] wDEFAULTCAPACITY_EMPTY_ELEMENTDATA wEMPTY_LIST hS a4 h0 n0 O0 P17) hZ (ow hw 41 rfl) (ow hw 5 rfl) (by decide) (by decide)) q1a q1b q1c (g := (mkF m 8 #[(vr a1), (vr a2), (vr a3), (vr a4)] [(.ref a4), (.long (-9223372036854775808 : Int64)), (.ref a4), (.ref a3), (.ref a2), (.ref a1)])) rfl (by rw [hml]; rfl) (Steps.refl _) (argsL := []) (rest := [(.long (-9223372036854775808 : Int64)), (.ref a4), (.ref a3), (.ref a2), (.ref a1)]) (lenOf pd_3 rfl) rfl (by show 2 * 0 + _ ≤ _; exact Nat.le_of_eq rfl) (hb hby d5_8) (fun _ _ => ⟨rfl, e0, (by decide : 0 + 0 ≤ _), (by decide : 0 + 0 ≤ _)⟩)
  dsimp only [Pt.U, Pt.locs, Pt.cells, Pt.slots] at X1 l1 y1 z1 st1 hQ1
  subst l1 y1 z1
  obtain ⟨rfl, Nq1, K1q⟩ := hQ1
  have N1 := Fr.app N0 Nq1
  obtain ⟨T2, h2, k2, c2, X2, e2, E2, A2, O2, Z2, I2, st2⟩ := gridM X1 hx hZ (C := "[J") (ad := "[[J") (ty := .long) hown (by decide) (by decide) (ow hw 44 rfl) (ow hw 45 rfl) (ow hw 46 rfl) K1q (g := (mkF m 14 #[(vr a1), (vr a2), (vr a3), (vr a4)] [(.int 0), (.int 0), (.long (-9223372036854775808 : Int64)), (.ref a4), (.ref a3), (.ref a2), (.ref a1)])) rfl (hb hby d5_14) rfl (by decide) (by decide) (xs := []) (N := 0) (by decide) rfl (cap := 0) (by decide) (by decide) (by decide) rfl rfl (by decide) (by decide)
  obtain ⟨b2, g2⟩ : ∃ z, z = h0.size := ⟨_, rfl⟩
  rw [← g2] at A2 Z2  st2
  have ne3 : a1 ≠ b2 := Nat.ne_of_lt (Nat.lt_of_lt_of_le P0.lt (Nat.le_of_eq g2.symm))
  have ne4 : a2 ≠ b2 := Nat.ne_of_lt (Nat.lt_of_lt_of_le P6.lt (Nat.le_of_eq g2.symm))
  have ne5 : a3 ≠ b2 := Nat.ne_of_lt (Nat.lt_of_lt_of_le P10.lt (Nat.le_of_eq g2.symm))
  have ne6 : a4 ≠ b2 := Nat.ne_of_lt (Nat.lt_of_lt_of_le P14.lt (Nat.le_of_eq g2.symm))
  have g7 : n0 ≤ b2 := Nat.le_trans (own_sz O0) (Nat.le_of_eq g2.symm)
  have sz8 : h0.size ≤ b2 := Nat.le_trans K0.1 (Nat.le_of_eq g2.symm)
  have O9 : Old Z n0 h2 := O0.ext E2
  have K9 : Keep h0 h2 [a1] := K0.ext E2
  have V2 : Arv Z h2 b2 k2 (.array .long) (0 : Int32) ([]) .null := A2
  have f10 : Exa Z h2 a1 s4n := (P0.ext E2)
  have f11 : Fld Z h2 a1 s4n "conflicts" s7n .null := (P1.ext E2)
  have f12 : Fld Z h2 a1 s4n "entered" "[[J" .null := (P2.ext E2)
  have f13 : Fld Z h2 a1 s4n "moment" "J" (.long 0) := (P3.ext E2)
  have f14 : Fld Z h2 a1 s4n "resources" s7n .null := (P4.ext E2)
  have f15 : Fld Z h2 a1 s4n "trains" s7n .null := (P5.ext E2)
  have f16 : Exa Z h2 a2 s0n := (P6.ext E2)
  have f17 : Exa Z h2 a3 s0n := (P10.ext E2)
  have f18 : Exa Z h2 a4 s0n := (P14.ext E2)
  obtain ⟨_, _, ⟨T19, L19, k19, n19⟩, -, X19, ⟨Lc19, hQ19, l19, y19, z19⟩, st19⟩ := X2.specialBack hx (y := M10) rfl hown (mvT hZ (ow hw 47 rfl)) (mvT hZ (ow hw 48 rfl)) (mvT hZ (ow hw 49 rfl)) (by decide) (backOf (W := 0) (au7_0 l Z a0 hw [] wDEFAULTCAPACITY_EMPTY_ELEMENTDATA wEMPTY_LIST hS a1 a2 a3 a4 b2 h2 n0 O9 f10 f11 f12 f13 f14 f15 f16 f17 f18 P18 P19) hZ (ow hw 49 rfl) (ow hw 2 rfl) (by decide) (by decide)) (g := (mkF m 18 #[(vr a1), (vr a2), (vr a3), (vr a4)] [(.ref b2), (.long (-9223372036854775808 : Int64)), (.ref a4), (.ref a3), (.ref a2), (.ref a1)])) rfl (by rw [hml]; rfl) (Steps.refl _) (a := a1) (argsL := [(.ref a2), (.ref a3), (.ref a4), (.long (-9223372036854775808 : Int64)), (.ref b2)]) (rest := []) (lenOf pd_5 rfl) rfl (by show 2 * 0 + _ ≤ _; exact Nat.le_of_eq rfl) (hb hby d5_18) (fun _ _ => ⟨rfl, e2, (by decide : 1 + 0 ≤ _), (by decide : 0 + 0 ≤ _)⟩)
  dsimp only [Pt.U, Pt.locs, Pt.cells, Pt.slots] at X19 l19 y19 z19 st19 hQ19
  subst l19 y19 z19
  obtain ⟨rfl, Nq19, K19q, p19_0, p19_1, p19_2, p19_3, p19_4, p19_5⟩ := hQ19
  have N19 := Fr.app N1 Nq19
  have O20 : Old Z n0 T19.heap := O9.keep K19q (allS P19 all0)
  have K20 : Keep h0 T19.heap [a1] := K9.trans K19q (allS (Or.inl (List.mem_of_getElem? (i := 0) rfl)) all0)
  have f21 : Exa Z T19.heap b2 "[[J" := (Z2.keep K19q)
  have f22 : Arv Z T19.heap b2 k2 (.array .long) (0 : Int32) ([]) .null := (V2.keep K19q (ninS (Ne.symm ne3) nin0))
  obtain ⟨fs, hr, hrun, hended, hW, hsame⟩ := X19.leave (v := none) (fun _ => rfl)
  refine ⟨_, _, pre0 _ ?_, hrun, hended, _, _, rfl, ?_, ⟨_, rfl⟩, hW, hsame.mono (by decide) (by decide)⟩
  · skip
    show Steps p.tables e below (s₁.setTop (mkF m 0 #[(vr a1), (vr a2), (vr a3), (vr a4)] [])) _
    refine XS.aloadN X0.here hx rfl (hb hby d5_0) rfl rfl ?_
    refine XS.aloadN X0.here hx rfl (hb hby d5_1) rfl rfl ?_
    refine XS.aloadN X0.here hx rfl (hb hby d5_2) rfl rfl ?_
    refine XS.aloadN X0.here hx rfl (hb hby d5_3) rfl rfl ?_
    refine X0.ldc2Long hx hown (mvT hZ (ow hw 32 rfl)) (g := (mkF m 4 #[(vr a1), (vr a2), (vr a3), (vr a4)] [(.ref a4), (.ref a3), (.ref a2), (.ref a1)])) rfl (hb hby d5_4) _ ?_
    show Steps p.tables e below (s₁.setTop (mkF m 7 #[(vr a1), (vr a2), (vr a3), (vr a4)] [(.long (-9223372036854775808 : Int64)), (.ref a4), (.ref a3), (.ref a2), (.ref a1)])) _
    refine XS.aloadN X0.here hx rfl (hb hby d5_7) rfl rfl ?_
    refine st1.trans ?_
    refine XS.iconst X1.here hx rfl (hb hby d5_13) ?_
    refine st2 _ ?_
    refine st19.trans ?_
    show Steps p.tables e below (T19.setTop (mkF m 21 #[(vr a1), (vr a2), (vr a3), (vr a4)] [])) _
    exact X19.returnOut hx hret0 (hb hby d5_21) hr
  · show Q_au5_0 Z wDEFAULTCAPACITY_EMPTY_ELEMENTDATA wEMPTY_LIST a1 a2 a3 a4 h0 n0 _ T19.heap _
    exact ⟨b2, k2, rfl, N19, K20, p19_0, p19_1, p19_2, p19_3, p19_4, p19_5, sz8, f21, f22, O2⟩
theorem pd_6 : parseMethodDescriptor "(Ljava/util/List;Ljava/util/List;Ljava/util/List;)V" = some ⟨[(.object "java/util/List"), (.object "java/util/List"), (.object "java/util/List")], none⟩ := by decide +kernel
theorem ef_au13_0 (m : MethodId) (x0 : Addr)  : entryFrame m #[(.ref x0)] 1 = mkF m 0 #[(vr x0)] [] := by first | (simp [entryFrame, mkF, argsToLocals, Value.category]; done) | rfl
theorem d13_0 : decode prog_51_method_9_code 0 = .ok (.aload_n 0, 1) := by decide +kernel
theorem d13_1 : decode prog_51_method_9_code 1 = .ok (.getfield 38, 3) := by decide +kernel
theorem d13_4 : decode prog_51_method_9_code 4 = .ok (.lreturn, 1) := by decide +kernel
def Q_au13_0 (Z : State) (wDEFAULTCAPACITY_EMPTY_ELEMENTDATA : Addr) (wEMPTY_LIST : Addr) (a1 : Addr) (h0 : Heap) (n0 : Nat) (v : Option Value) (h : Heap) (L : List Loc) : Prop := v = some (.long (-9223372036854775808 : Int64)) ∧ Fr n0 L ∧ h = h0
theorem au13_0 (l : Launch) (Z : State) (a0 : Array Value) (hw : ∀ d ∈ tables_1, d.before a0 Z = true) (ws : List Jvm.Cond) (wDEFAULTCAPACITY_EMPTY_ELEMENTDATA : Addr) (wEMPTY_LIST : Addr) (hS : SS Z wDEFAULTCAPACITY_EMPTY_ELEMENTDATA wEMPTY_LIST) (a1 : Addr) (h0 : Heap) (n0 : Nat) (O0 : Old Z n0 h0) (P3 : Fld Z h0 a1 s4n "moment" "J" (.long (-9223372036854775808 : Int64))) :
    MetB l M13 prog_51_method_9_code 1 (some .long) ws (rmk 0 0 0 0) Z h0 #[(.ref a1)] (Q_au13_0 Z wDEFAULTCAPACITY_EMPTY_ELEMENTDATA wEMPTY_LIST a1 h0 n0) := by
  refine own_body (plainFor_of_name pn_com_example_loopline_loopline_engine_Scenario) ?_
  intro p e s m below meth c s₁ hx hby hml hown hnm hret0 hlk0 hZ X0 e0
  have N0 := Fr.nil n0
  have pre0 : ∀ t, Steps p.tables e below (s₁.setTop (mkF m 0 #[(vr a1)] [])) t → Steps p.tables e below (s₁.setTop (entryFrame m #[(.ref a1)] 1)) t := fun t k => castTop (ef_au13_0 m a1) k
  have hS0 := hS
  obtain ⟨S_wDEFAULTCAPACITY_EMPTY_ELEMENTDATA, E_wDEFAULTCAPACITY_EMPTY_ELEMENTDATA, S_wEMPTY_LIST, E_wEMPTY_LIST, F_allowNulls_wEMPTY_LIST⟩ := hS0
  obtain ⟨T1, X1, e1, st1⟩ := getF X0 hx hZ hown (host := "") (Or.inl (ow hw 84 rfl)) Via.refl e0 P3 (g := (mkF m 1 #[(vr a1)] [(.ref a1)])) rfl rfl (hb hby d13_1)
  obtain ⟨fs, hr, hrun, hended, hW, hsame⟩ := X1.leave (v := some (.long (-9223372036854775808 : Int64))) (fun h => by rw [hret0] at h; cases h)
  refine ⟨_, _, pre0 _ ?_, hrun, hended, _, _, rfl, ?_, ⟨_, rfl⟩, hW, hsame.mono (by decide) (by decide)⟩
  · skip
    show Steps p.tables e below (s₁.setTop (mkF m 0 #[(vr a1)] [])) _
    refine XS.aloadN X0.here hx rfl (hb hby d13_0) rfl rfl ?_
    refine st1 _ ?_
    jvm_step X1.here [X1.here.top, hx, (hb hby d13_4), X1.method', hret0, narrow]
    first | (intro acts; rw [hr _ acts rfl rfl rfl]) | rw [hr _ _ rfl rfl rfl]
    exact Steps.refl _
  · show Q_au13_0 Z wDEFAULTCAPACITY_EMPTY_ELEMENTDATA wEMPTY_LIST a1 h0 n0 _ T1.heap _
    rw [e1]
    exact ⟨rfl, N0, rfl⟩
theorem pd_7 : parseMethodDescriptor "()J" = some ⟨[], some .long⟩ := by decide +kernel
theorem ef_au14_0 (m : MethodId) (x0 : Addr) (x1 : Int64) (x2 : Addr) (x3 : Addr)  : entryFrame m #[(.ref x0), (.long x1), (.ref x2), (.ref x3)] 11 = mkF m 0 #[(vr x0), (vl x1), .second, (vr x2), (vr x3), .unset, .unset, .unset, .unset, .unset, .unset] [] := by first | (simp [entryFrame, mkF, argsToLocals, Value.category]; done) | rfl
theorem d14_0 : decode prog_51_method_7_code 0 = .ok (.aload 4, 2) := by decide +kernel
theorem d14_2 : decode prog_51_method_7_code 2 = .ok (.invokeinterface 7 1, 5) := by decide +kernel
theorem d14_7 : decode prog_51_method_7_code 7 = .ok (.aload_n 3, 1) := by decide +kernel
theorem d14_8 : decode prog_51_method_7_code 8 = .ok (.invokeinterface 7 1, 5) := by decide +kernel
theorem d14_13 : decode prog_51_method_7_code 13 = .ok (.if_icmp .eq 29, 3) := by decide +kernel
theorem d14_42 : decode prog_51_method_7_code 42 = .ok (.aload_n 3, 1) := by decide +kernel
theorem d14_43 : decode prog_51_method_7_code 43 = .ok (.invokeinterface 7 1, 5) := by decide +kernel
theorem d14_48 : decode prog_51_method_7_code 48 = .ok (.anewarray 79, 3) := by decide +kernel
theorem d14_51 : decode prog_51_method_7_code 51 = .ok (.astore 5, 2) := by decide +kernel
theorem d14_53 : decode prog_51_method_7_code 53 = .ok (.iconst 0, 1) := by decide +kernel
theorem d14_54 : decode prog_51_method_7_code 54 = .ok (.istore 6, 2) := by decide +kernel
theorem d14_56 : decode prog_51_method_7_code 56 = .ok (.iload 6, 2) := by decide +kernel
theorem d14_58 : decode prog_51_method_7_code 58 = .ok (.aload 5, 2) := by decide +kernel
theorem d14_60 : decode prog_51_method_7_code 60 = .ok (.arraylength, 1) := by decide +kernel
theorem d14_61 : decode prog_51_method_7_code 61 = .ok (.if_icmp .ge 236, 3) := by decide +kernel
theorem d14_297 : decode prog_51_method_7_code 297 = .ok (.new 3, 3) := by decide +kernel
theorem d14_300 : decode prog_51_method_7_code 300 = .ok (.dup, 1) := by decide +kernel
theorem d14_301 : decode prog_51_method_7_code 301 = .ok (.aload_n 0, 1) := by decide +kernel
theorem d14_302 : decode prog_51_method_7_code 302 = .ok (.getfield 28, 3) := by decide +kernel
theorem d14_305 : decode prog_51_method_7_code 305 = .ok (.aload_n 0, 1) := by decide +kernel
theorem d14_306 : decode prog_51_method_7_code 306 = .ok (.getfield 32, 3) := by decide +kernel
theorem d14_309 : decode prog_51_method_7_code 309 = .ok (.aload_n 3, 1) := by decide +kernel
theorem d14_310 : decode prog_51_method_7_code 310 = .ok (.lload_n 1, 1) := by decide +kernel
theorem d14_311 : decode prog_51_method_7_code 311 = .ok (.aload 5, 2) := by decide +kernel
theorem d14_313 : decode prog_51_method_7_code 313 = .ok (.invokespecial 15, 3) := by decide +kernel
theorem ef_au7_1 (m : MethodId) (x0 : Addr) (x1 : Addr) (x2 : Addr) (x3 : Addr) (x4 : Int64) (x5 : Addr)  : entryFrame m #[(.ref x0), (.ref x1), (.ref x2), (.ref x3), (.long x4), (.ref x5)] 7 = mkF m 0 #[(vr x0), (vr x1), (vr x2), (vr x3), (vl x4), .second, (vr x5)] [] := by first | (simp [entryFrame, mkF, argsToLocals, Value.category]; done) | rfl
def Q_au7_1 (Z : State) (wDEFAULTCAPACITY_EMPTY_ELEMENTDATA : Addr) (wEMPTY_LIST : Addr) (a1 : Addr) (a2 : Addr) (a3 : Addr) (a4 : Addr) (q5 : Int64) (a6 : Addr) (h0 : Heap) (n0 : Nat) (v : Option Value) (h : Heap) (L : List Loc) : Prop := v = none ∧ Fr n0 L ∧ Keep h0 h [a1] ∧ Exa Z h a1 s4n ∧ Fld Z h a1 s4n "conflicts" s7n (.ref a3) ∧ Fld Z h a1 s4n "entered" "[[J" (.ref a6) ∧ Fld Z h a1 s4n "moment" "J" (.long q5) ∧ Fld Z h a1 s4n "resources" s7n (.ref a2) ∧ Fld Z h a1 s4n "trains" s7n (.ref a4)
theorem au7_1 (l : Launch) (Z : State) (a0 : Array Value) (hw : ∀ d ∈ tables_1, d.before a0 Z = true) (ws : List Jvm.Cond) (wDEFAULTCAPACITY_EMPTY_ELEMENTDATA : Addr) (wEMPTY_LIST : Addr) (hS : SS Z wDEFAULTCAPACITY_EMPTY_ELEMENTDATA wEMPTY_LIST) (a1 : Addr) (a2 : Addr) (a3 : Addr) (a4 : Addr) (q5 : Int64) (a6 : Addr) (h0 : Heap) (n0 : Nat) (O0 : Old Z n0 h0) (P0 : Exa Z h0 a1 s4n) (P1 : Fld Z h0 a1 s4n "conflicts" s7n .null) (P2 : Fld Z h0 a1 s4n "entered" "[[J" .null) (P3 : Fld Z h0 a1 s4n "moment" "J" (.long 0)) (P4 : Fld Z h0 a1 s4n "resources" s7n .null) (P5 : Fld Z h0 a1 s4n "trains" s7n .null) (P6 : Exa Z h0 a2 s0n) (P10 : Exa Z h0 a3 s0n) (P14 : Exa Z h0 a4 s0n) (P21 : asg Z s0n s2n true) (P22 : n0 ≤ a1) :
    MetB l M10 prog_51_method_2_code 7 none ws (rmk 2 0 0 26) Z h0 #[(.ref a1), (.ref a2), (.ref a3), (.ref a4), (.long q5), (.ref a6)] (Q_au7_1 Z wDEFAULTCAPACITY_EMPTY_ELEMENTDATA wEMPTY_LIST a1 a2 a3 a4 q5 a6 h0 n0) := by
  refine own_body (plainFor_of_name pn_com_example_loopline_loopline_engine_Scenario) ?_
  intro p e s m below meth c s₁ hx hby hml hown hnm hret0 hlk0 hZ X0 e0
  have N0 := Fr.nil n0
  have pre0 : ∀ t, Steps p.tables e below (s₁.setTop (mkF m 0 #[(vr a1), (vr a2), (vr a3), (vr a4), (vl q5), .second, (vr a6)] [])) t → Steps p.tables e below (s₁.setTop (entryFrame m #[(.ref a1), (.ref a2), (.ref a3), (.ref a4), (.long q5), (.ref a6)] 7)) t := fun t k => castTop (ef_au7_1 m a1 a2 a3 a4 q5 a6) k
  have K0 := Keep.refl h0 [a1]
  have hS0 := hS
  obtain ⟨S_wDEFAULTCAPACITY_EMPTY_ELEMENTDATA, E_wDEFAULTCAPACITY_EMPTY_ELEMENTDATA, S_wEMPTY_LIST, E_wEMPTY_LIST, F_allowNulls_wEMPTY_LIST⟩ := hS0
  obtain ⟨T1, X1, e1, st1⟩ := initO X0 hx hZ hown (ow hw 50 rfl) (ow hw 22 rfl) (ow hw 23 rfl) e0 (g := (mkF m 1 #[(vr a1), (vr a2), (vr a3), (vr a4), (vl q5), .second, (vr a6)] [(.ref a1)])) rfl (by rw [hml]; rfl) rfl (hb hby d7_1) (by decide) (W := 0) (by show 2 * 0 + _ ≤ _; exact Nat.le_of_eq rfl) (by decide)
  obtain ⟨_, _, ⟨T2, L2, k2, n2⟩, -, X2, ⟨Lc2, hQ2, l2, y2, z2⟩, st2⟩ := Jvm.LawKit.callS X1 hx (y := M9) hown (mvT hZ (ow hw 51 rfl)) (mvT hZ (ow hw 52 rfl)) (mvT hZ (ow hw 53 rfl)) (mvT hZ (ow hw 54 rfl)) (by decide) (backOf (W := 1) (au8_0 l Z a0 hw [] wDEFAULTCAPACITY_EMPTY_ELEMENTDATA wEMPTY_LIST hS a2 h0 n0 O0 P6 P21) hZ (ow hw 54 rfl) (ow hw 53 rfl) (by decide) (by decide)) (g := (mkF m 6 #[(vr a1), (vr a2), (vr a3), (vr a4), (vl q5), .second, (vr a6)] [(.ref a2), (.ref a1)])) rfl (by rw [hml]; rfl) (argsL := [(.ref a2)]) (rest := [(.ref a1)]) (lenOf pd_4 rfl) rfl (by show 2 * 0 + _ ≤ _; exact Nat.le_of_eq rfl) (hb hby d7_6) (fun _ _ => ⟨rfl, e1, (by decide : 0 + 0 ≤ _), (by decide : 0 + 0 ≤ _)⟩)
  dsimp only [Pt.U, Pt.locs, Pt.cells, Pt.slots] at X2 l2 y2 z2 st2 hQ2
  subst l2 y2 z2
  obtain ⟨rfl, Nq2, K2q⟩ := hQ2
  have N2 := Fr.app N0 Nq2
  obtain ⟨T3, h3, X3, e3, W3, st3⟩ := putF X2 hx hZ hown (host := "") (Or.inl (ow hw 78 rfl)) Via.refl K2q P4 P0 (Or.inr ⟨(ow hw 79 rfl), rfl, hnm⟩) (ow hw 1 rfl) (ty := (.object s3n)) (by decide) rfl rfl (g := (mkF m 9 #[(vr a1), (vr a2), (vr a3), (vr a4), (vl q5), .second, (vr a6)] [(.ref a2), (.ref a1)])) rfl rfl (hb hby d7_9)
  have N3 := Fr.snoc X3 N2 P22
  have O4 : Old Z n0 h3 := O0.wr W3 P22
  have K4 : Keep h0 h3 [a1] := K0.wr W3 (Or.inl (List.mem_of_getElem? (i := 0) rfl))
  have Fw3 : Fld Z h3 a1 s4n "resources" s7n (.ref a2) := P4.same W3
  have f5 : Exa Z h3 a3 s0n := (P10.wr W3)
  obtain ⟨_, _, ⟨T6, L6, k6, n6⟩, -, X6, ⟨Lc6, hQ6, l6, y6, z6⟩, st6⟩ := Jvm.LawKit.callS X3 hx (y := M9) hown (mvT hZ (ow hw 51 rfl)) (mvT hZ (ow hw 52 rfl)) (mvT hZ (ow hw 53 rfl)) (mvT hZ (ow hw 54 rfl)) (by decide) (backOf (W := 1) (au8_0 l Z a0 hw [] wDEFAULTCAPACITY_EMPTY_ELEMENTDATA wEMPTY_LIST hS a3 h3 n0 O4 f5 P21) hZ (ow hw 54 rfl) (ow hw 53 rfl) (by decide) (by decide)) (g := (mkF m 14 #[(vr a1), (vr a2), (vr a3), (vr a4), (vl q5), .second, (vr a6)] [(.ref a3), (.ref a1)])) rfl (by rw [hml]; rfl) (argsL := [(.ref a3)]) (rest := [(.ref a1)]) (lenOf pd_4 rfl) rfl (by show 2 * 0 + _ ≤ _; exact Nat.le_of_eq rfl) (hb hby d7_14) (fun _ _ => ⟨rfl, e3, (by decide : 0 + 0 ≤ _), (by decide : 0 + 0 ≤ _)⟩)
  dsimp only [Pt.U, Pt.locs, Pt.cells, Pt.slots] at X6 l6 y6 z6 st6 hQ6
  subst l6 y6 z6
  obtain ⟨rfl, Nq6, K6q⟩ := hQ6
  have N6 := Fr.app N3 Nq6
  have f7 : Exa Z h3 a1 s4n := (P0.wr W3)
  have f8 : Fld Z h3 a1 s4n "conflicts" s7n .null := (P1.other W3 (Or.inr (slot_ne (Or.inr (ow hw 81 rfl)) (Or.inr (ow hw 79 rfl)) (by decide) (t := (.object s3n)) (t' := (.object s3n)) (by decide) (by decide))))
  obtain ⟨T9, h9, X9, e9, W9, st9⟩ := putF X6 hx hZ hown (host := "") (Or.inl (ow hw 80 rfl)) Via.refl K6q f8 f7 (Or.inr ⟨(ow hw 81 rfl), rfl, hnm⟩) (ow hw 1 rfl) (ty := (.object s3n)) (by decide) rfl rfl (g := (mkF m 17 #[(vr a1), (vr a2), (vr a3), (vr a4), (vl q5), .second, (vr a6)] [(.ref a3), (.ref a1)])) rfl rfl (hb hby d7_17)
  have N9 := Fr.snoc X9 N6 P22
  have O10 : Old Z n0 h9 := O4.wr W9 P22
  have K10 : Keep h0 h9 [a1] := K4.wr W9 (Or.inl (List.mem_of_getElem? (i := 0) rfl))
  have Fw9 : Fld Z h9 a1 s4n "conflicts" s7n (.ref a3) := f8.same W9
  have f11 : Exa Z h9 a4 s0n := ((P14.wr W3).wr W9)
  obtain ⟨_, _, ⟨T12, L12, k12, n12⟩, -, X12, ⟨Lc12, hQ12, l12, y12, z12⟩, st12⟩ := Jvm.LawKit.callS X9 hx (y := M9) hown (mvT hZ (ow hw 51 rfl)) (mvT hZ (ow hw 52 rfl)) (mvT hZ (ow hw 53 rfl)) (mvT hZ (ow hw 54 rfl)) (by decide) (backOf (W := 1) (au8_0 l Z a0 hw [] wDEFAULTCAPACITY_EMPTY_ELEMENTDATA wEMPTY_LIST hS a4 h9 n0 O10 f11 P21) hZ (ow hw 54 rfl) (ow hw 53 rfl) (by decide) (by decide)) (g := (mkF m 22 #[(vr a1), (vr a2), (vr a3), (vr a4), (vl q5), .second, (vr a6)] [(.ref a4), (.ref a1)])) rfl (by rw [hml]; rfl) (argsL := [(.ref a4)]) (rest := [(.ref a1)]) (lenOf pd_4 rfl) rfl (by show 2 * 0 + _ ≤ _; exact Nat.le_of_eq rfl) (hb hby d7_22) (fun _ _ => ⟨rfl, e9, (by decide : 0 + 0 ≤ _), (by decide : 0 + 0 ≤ _)⟩)
  dsimp only [Pt.U, Pt.locs, Pt.cells, Pt.slots] at X12 l12 y12 z12 st12 hQ12
  subst l12 y12 z12
  obtain ⟨rfl, Nq12, K12q⟩ := hQ12
  have N12 := Fr.app N9 Nq12
  have f13 : Exa Z h9 a1 s4n := (f7.wr W9)
  have f14 : Fld Z h9 a1 s4n "trains" s7n .null := ((P5.other W3 (Or.inr (slot_ne (Or.inr (ow hw 83 rfl)) (Or.inr (ow hw 79 rfl)) (by decide) (t := (.object s3n)) (t' := (.object s3n)) (by decide) (by decide)))).other W9 (Or.inr (slot_ne (Or.inr (ow hw 83 rfl)) (Or.inr (ow hw 81 rfl)) (by decide) (t := (.object s3n)) (t' := (.object s3n)) (by decide) (by decide))))
  obtain ⟨T15, h15, X15, e15, W15, st15⟩ := putF X12 hx hZ hown (host := "") (Or.inl (ow hw 82 rfl)) Via.refl K12q f14 f13 (Or.inr ⟨(ow hw 83 rfl), rfl, hnm⟩) (ow hw 1 rfl) (ty := (.object s3n)) (by decide) rfl rfl (g := (mkF m 25 #[(vr a1), (vr a2), (vr a3), (vr a4), (vl q5), .second, (vr a6)] [(.ref a4), (.ref a1)])) rfl rfl (hb hby d7_25)
  have N15 := Fr.snoc X15 N12 P22
  have O16 : Old Z n0 h15 := O10.wr W15 P22
  have K16 : Keep h0 h15 [a1] := K10.wr W15 (Or.inl (List.mem_of_getElem? (i := 0) rfl))
  have Fw15 : Fld Z h15 a1 s4n "trains" s7n (.ref a4) := f14.same W15
  have f17 : Exa Z h15 a1 s4n := (f13.wr W15)
  have f18 : Fld Z h15 a1 s4n "moment" "J" (.long 0) := (((P3.other W3 (Or.inr (slot_ne (Or.inr (ow hw 85 rfl)) (Or.inr (ow hw 79 rfl)) (by decide) (t := .long) (t' := (.object s3n)) (by decide) (by decide)))).other W9 (Or.inr (slot_ne (Or.inr (ow hw 85 rfl)) (Or.inr (ow hw 81 rfl)) (by decide) (t := .long) (t' := (.object s3n)) (by decide) (by decide)))).other W15 (Or.inr (slot_ne (Or.inr (ow hw 85 rfl)) (Or.inr (ow hw 83 rfl)) (by decide) (t := .long) (t' := (.object s3n)) (by decide) (by decide))))
  obtain ⟨T19, h19, X19, e19, W19, st19⟩ := putF X15 hx hZ hown (host := "") (Or.inl (ow hw 84 rfl)) Via.refl e15 f18 f17 (Or.inr ⟨(ow hw 85 rfl), rfl, hnm⟩) (ow hw 1 rfl) (ty := .long) (by decide) rfl rfl (g := (mkF m 31 #[(vr a1), (vr a2), (vr a3), (vr a4), (vl q5), .second, (vr a6)] [(.long q5), (.ref a1)])) rfl rfl (hb hby d7_31)
  have N19 := Fr.snoc X19 N15 P22
  have O20 : Old Z n0 h19 := O16.wr W19 P22
  have K20 : Keep h0 h19 [a1] := K16.wr W19 (Or.inl (List.mem_of_getElem? (i := 0) rfl))
  have Fw19 : Fld Z h19 a1 s4n "moment" "J" (.long q5) := f18.same W19
  have f21 : Exa Z h19 a1 s4n := (f17.wr W19)
  have f22 : Fld Z h19 a1 s4n "entered" "[[J" .null := ((((P2.other W3 (Or.inr (slot_ne (Or.inr (ow hw 87 rfl)) (Or.inr (ow hw 79 rfl)) (by decide) (t := (.array (.array .long))) (t' := (.object s3n)) (by decide) (by decide)))).other W9 (Or.inr (slot_ne (Or.inr (ow hw 87 rfl)) (Or.inr (ow hw 81 rfl)) (by decide) (t := (.array (.array .long))) (t' := (.object s3n)) (by decide) (by decide)))).other W15 (Or.inr (slot_ne (Or.inr (ow hw 87 rfl)) (Or.inr (ow hw 83 rfl)) (by decide) (t := (.array (.array .long))) (t' := (.object s3n)) (by decide) (by decide)))).other W19 (Or.inr (slot_ne (Or.inr (ow hw 87 rfl)) (Or.inr (ow hw 85 rfl)) (by decide) (t := (.array (.array .long))) (t' := .long) (by decide) (by decide))))
  obtain ⟨T23, h23, X23, e23, W23, st23⟩ := putF X19 hx hZ hown (host := "") (Or.inl (ow hw 86 rfl)) Via.refl e19 f22 f21 (Or.inr ⟨(ow hw 87 rfl), rfl, hnm⟩) (ow hw 1 rfl) (ty := (.array (.array .long))) (by decide) rfl rfl (g := (mkF m 37 #[(vr a1), (vr a2), (vr a3), (vr a4), (vl q5), .second, (vr a6)] [(.ref a6), (.ref a1)])) rfl rfl (hb hby d7_37)
  have N23 := Fr.snoc X23 N19 P22
  have O24 : Old Z n0 h23 := O20.wr W23 P22
  have K24 : Keep h0 h23 [a1] := K20.wr W23 (Or.inl (List.mem_of_getElem? (i := 0) rfl))
  have Fw23 : Fld Z h23 a1 s4n "entered" "[[J" (.ref a6) := f22.same W23
  have f25 : Exa Z h23 a1 s4n := (f21.wr W23)
  have f26 : Fld Z h23 a1 s4n "conflicts" s7n (.ref a3) := (((Fw9.other W15 (Or.inr (slot_ne (Or.inr (ow hw 81 rfl)) (Or.inr (ow hw 83 rfl)) (by decide) (t := (.object s3n)) (t' := (.object s3n)) (by decide) (by decide)))).other W19 (Or.inr (slot_ne (Or.inr (ow hw 81 rfl)) (Or.inr (ow hw 85 rfl)) (by decide) (t := (.object s3n)) (t' := .long) (by decide) (by decide)))).other W23 (Or.inr (slot_ne (Or.inr (ow hw 81 rfl)) (Or.inr (ow hw 87 rfl)) (by decide) (t := (.object s3n)) (t' := (.array (.array .long))) (by decide) (by decide))))
  have f27 : Fld Z h23 a1 s4n "moment" "J" (.long q5) := (Fw19.other W23 (Or.inr (slot_ne (Or.inr (ow hw 85 rfl)) (Or.inr (ow hw 87 rfl)) (by decide) (t := .long) (t' := (.array (.array .long))) (by decide) (by decide))))
  have f28 : Fld Z h23 a1 s4n "resources" s7n (.ref a2) := ((((Fw3.other W9 (Or.inr (slot_ne (Or.inr (ow hw 79 rfl)) (Or.inr (ow hw 81 rfl)) (by decide) (t := (.object s3n)) (t' := (.object s3n)) (by decide) (by decide)))).other W15 (Or.inr (slot_ne (Or.inr (ow hw 79 rfl)) (Or.inr (ow hw 83 rfl)) (by decide) (t := (.object s3n)) (t' := (.object s3n)) (by decide) (by decide)))).other W19 (Or.inr (slot_ne (Or.inr (ow hw 79 rfl)) (Or.inr (ow hw 85 rfl)) (by decide) (t := (.object s3n)) (t' := .long) (by decide) (by decide)))).other W23 (Or.inr (slot_ne (Or.inr (ow hw 79 rfl)) (Or.inr (ow hw 87 rfl)) (by decide) (t := (.object s3n)) (t' := (.array (.array .long))) (by decide) (by decide))))
  have f29 : Fld Z h23 a1 s4n "trains" s7n (.ref a4) := ((Fw15.other W19 (Or.inr (slot_ne (Or.inr (ow hw 83 rfl)) (Or.inr (ow hw 85 rfl)) (by decide) (t := (.object s3n)) (t' := .long) (by decide) (by decide)))).other W23 (Or.inr (slot_ne (Or.inr (ow hw 83 rfl)) (Or.inr (ow hw 87 rfl)) (by decide) (t := (.object s3n)) (t' := (.array (.array .long))) (by decide) (by decide))))
  obtain ⟨fs, hr, hrun, hended, hW, hsame⟩ := X23.leave (v := none) (fun _ => rfl)
  refine ⟨_, _, pre0 _ ?_, hrun, hended, _, _, rfl, ?_, ⟨_, rfl⟩, hW, hsame.mono (by decide) (by decide)⟩
  · skip
    show Steps p.tables e below (s₁.setTop (mkF m 0 #[(vr a1), (vr a2), (vr a3), (vr a4), (vl q5), .second, (vr a6)] [])) _
    refine XS.aloadN X0.here hx rfl (hb hby d7_0) rfl rfl ?_
    refine st1 _ ?_
    refine XS.aloadN X1.here hx rfl (hb hby d7_4) rfl rfl ?_
    refine XS.aloadN X1.here hx rfl (hb hby d7_5) rfl rfl ?_
    refine st2 _ ?_
    show Steps p.tables e below (T2.setTop (mkF m 9 #[(vr a1), (vr a2), (vr a3), (vr a4), (vl q5), .second, (vr a6)] [(.ref a2), (.ref a1)])) _
    refine st3 _ ?_
    refine XS.aloadN X3.here hx rfl (hb hby d7_12) rfl rfl ?_
    refine XS.aloadN X3.here hx rfl (hb hby d7_13) rfl rfl ?_
    refine st6 _ ?_
    refine st9 _ ?_
    show Steps p.tables e below (T9.setTop (mkF m 20 #[(vr a1), (vr a2), (vr a3), (vr a4), (vl q5), .second, (vr a6)] [])) _
    refine XS.aloadN X9.here hx rfl (hb hby d7_20) rfl rfl ?_
    refine XS.aloadN X9.here hx rfl (hb hby d7_21) rfl rfl ?_
    refine st12 _ ?_
    refine st15 _ ?_
    refine XS.aloadN X15.here hx rfl (hb hby d7_28) rfl rfl ?_
    show Steps p.tables e below (T15.setTop (mkF m 29 #[(vr a1), (vr a2), (vr a3), (vr a4), (vl q5), .second, (vr a6)] [(.ref a1)])) _
    refine XS.lload X15.here hx rfl (hb hby d7_29) rfl ?_
    refine st19 _ ?_
    refine XS.aloadN X19.here hx rfl (hb hby d7_34) rfl rfl ?_
    refine XS.aload X19.here hx rfl (hb hby d7_35) rfl rfl ?_
    refine st23 _ ?_
    show Steps p.tables e below (T23.setTop (mkF m 40 #[(vr a1), (vr a2), (vr a3), (vr a4), (vl q5), .second, (vr a6)] [])) _
    exact X23.returnOut hx hret0 (hb hby d7_40) hr
  · show Q_au7_1 Z wDEFAULTCAPACITY_EMPTY_ELEMENTDATA wEMPTY_LIST a1 a2 a3 a4 q5 a6 h0 n0 _ T23.heap _
    rw [e23]
    exact ⟨rfl, N23, K24, f25, f26, Fw23, f27, f28, f29⟩
theorem d14_316 : decode prog_51_method_7_code 316 = .ok (.areturn, 1) := by decide +kernel
def Q_au14_0 (Z : State) (wDEFAULTCAPACITY_EMPTY_ELEMENTDATA : Addr) (wEMPTY_LIST : Addr) (a1 : Addr) (q2 : Int64) (a3 : Addr) (a4 : Addr) (a5 : Addr) (a6 : Addr) (a7 : Addr) (a8 : Addr) (k9 : ClassId) (h0 : Heap) (n0 : Nat) (v : Option Value) (h : Heap) (L : List Loc) : Prop := ∃ (e1 : Addr) (e2 : Addr) (e3 : ClassId), v = some (.ref e1) ∧ Fr n0 L ∧ Keep h0 h [] ∧ h0.size ≤ e1 ∧ Exa Z h e1 s4n ∧ Fld Z h e1 s4n "conflicts" s7n (.ref a5) ∧ Fld Z h e1 s4n "entered" "[[J" (.ref e2) ∧ Fld Z h e1 s4n "moment" "J" (.long q2) ∧ Fld Z h e1 s4n "resources" s7n (.ref a7) ∧ Fld Z h e1 s4n "trains" s7n (.ref a3) ∧ h0.size ≤ e2 ∧ Exa Z h e2 "[[J" ∧ Arv Z h e2 e3 (.array .long) (0 : Int32) ([]) .null ∧ OvrA Z e3 .long "[J"
theorem au14_0 (l : Launch) (Z : State) (a0 : Array Value) (hw : ∀ d ∈ tables_1, d.before a0 Z = true) (ws : List Jvm.Cond) (wDEFAULTCAPACITY_EMPTY_ELEMENTDATA : Addr) (wEMPTY_LIST : Addr) (hS : SS Z wDEFAULTCAPACITY_EMPTY_ELEMENTDATA wEMPTY_LIST) (a1 : Addr) (q2 : Int64) (a3 : Addr) (a4 : Addr) (a5 : Addr) (a6 : Addr) (a7 : Addr) (a8 : Addr) (k9 : ClassId) (h0 : Heap) (n0 : Nat) (O0 : Old Z n0 h0) (P0 : Exa Z h0 a1 s4n) (P1 : Fld Z h0 a1 s4n "conflicts" s7n (.ref a5)) (P4 : Fld Z h0 a1 s4n "resources" s7n (.ref a7)) (P6 : Exa Z h0 a3 s0n) (P9 : Fld Z h0 a3 s0n "size" "I" (.int 0)) (P10 : Exa Z h0 a4 s0n) (P13 : Fld Z h0 a4 s0n "size" "I" (.int 0)) (P14 : Exa Z h0 a5 s0n) (P18 : Arv Z h0 a6 k9 (.array .long) (0 : Int32) ([]) .null) (P21 : Exa Z h0 a7 s0n) (P25 : Exa Z h0 a8 s0n) (P29 : asg Z s0n s2n true) :
    MetB l M14 prog_51_method_7_code 11 (some (.object s4n)) ws (rmk 3 2 5 45) Z h0 #[(.ref a1), (.long q2), (.ref a3), (.ref a4)] (Q_au14_0 Z wDEFAULTCAPACITY_EMPTY_ELEMENTDATA wEMPTY_LIST a1 q2 a3 a4 a5 a6 a7 a8 k9 h0 n0) := by
  refine own_body (plainFor_of_name pn_com_example_loopline_loopline_engine_Scenario) ?_
  intro p e s m below meth c s₁ hx hby hml hown hnm hret0 hlk0 hZ X0 e0
  have N0 := Fr.nil n0
  have pre0 : ∀ t, Steps p.tables e below (s₁.setTop (mkF m 0 #[(vr a1), (vl q2), .second, (vr a3), (vr a4), .unset, .unset, .unset, .unset, .unset, .unset] [])) t → Steps p.tables e below (s₁.setTop (entryFrame m #[(.ref a1), (.long q2), (.ref a3), (.ref a4)] 11)) t := fun t k => castTop (ef_au14_0 m a1 q2 a3 a4) k
  have K0 := Keep.refl h0 []
  have hS0 := hS
  obtain ⟨S_wDEFAULTCAPACITY_EMPTY_ELEMENTDATA, E_wDEFAULTCAPACITY_EMPTY_ELEMENTDATA, S_wEMPTY_LIST, E_wEMPTY_LIST, F_allowNulls_wEMPTY_LIST⟩ := hS0
  obtain ⟨cq1, kq1, q1a, q1b, q1c⟩ := isOf hZ e0 P10
  obtain ⟨_, _, ⟨T1, L1, k1, n1⟩, -, X1, ⟨Lc1, hQ1, l1, y1, z1⟩, st1⟩ := X0.interfaceBack hx (xi := M12) (y := M8) hown (mvT hZ (ow hw 33 rfl)) (mvT hZ (ow hw 34 rfl)) (mvT hZ (ow hw 35 rfl)) (mvT hZ (ow hw 36 rfl)) (mvT hZ (ow hw 37 rfl)) (mvT hZ (ow hw 38 rfl)) (mvT hZ (ow hw 39 rfl)) (mvT hZ (ow hw 40 rfl)) (by decide) (backOf (W := 0) (au6_0 l Z a0 hw [] wDEFAULTCAPACITY_EMPTY_ELEMENTDATA wEMPTY_LIST hS a4 h0 n0 O0 P13) hZ (ow hw 41 rfl) (ow hw 5 rfl) (by decide) (by decide)) q1a q1b q1c (g := (mkF m 2 #[(vr a1), (vl q2), .second, (vr a3), (vr a4), .unset, .unset, .unset, .unset, .unset, .unset] [(.ref a4)])) rfl (by rw [hml]; rfl) (Steps.refl _) (argsL := []) (rest := []) (lenOf pd_3 rfl) rfl (by show 2 * 0 + _ ≤ _; exact Nat.le_of_eq rfl) (hb hby d14_2) (fun _ _ => ⟨rfl, e0, (by decide : 0 + 0 ≤ _), (by decide : 0 + 0 ≤ _)⟩)
  dsimp only [Pt.U, Pt.locs, Pt.cells, Pt.slots] at X1 l1 y1 z1 st1 hQ1
  subst l1 y1 z1
  obtain ⟨rfl, Nq1, K1q⟩ := hQ1
  have N1 := Fr.app N0 Nq1
  obtain ⟨cq2, kq2, q2a, q2b, q2c⟩ := isOf hZ K1q P6
  obtain ⟨_, _, ⟨T2, L2, k2, n2⟩, -, X2, ⟨Lc2, hQ2, l2, y2, z2⟩, st2⟩ := X1.interfaceBack hx (xi := M12) (y := M8) hown (mvT hZ (ow hw 33 rfl)) (mvT hZ (ow hw 34 rfl)) (mvT hZ (ow hw 35 rfl)) (mvT hZ (ow hw 36 rfl)) (mvT hZ (ow hw 37 rfl)) (mvT hZ (ow hw 38 rfl)) (mvT hZ (ow hw 39 rfl)) (mvT hZ (ow hw 40 rfl)) (by decide) (backOf (W := 1) (au6_0 l Z a0 hw [] wDEFAULTCAPACITY_EMPTY_ELEMENTDATA wEMPTY_LIST hS a3 h0 n0 O0 P9) hZ (ow hw 41 rfl) (ow hw 5 rfl) (by decide) (by decide)) q2a q2b q2c (g := (mkF m 8 #[(vr a1), (vl q2), .second, (vr a3), (vr a4), .unset, .unset, .unset, .unset, .unset, .unset] [(.ref a3), (.int 0)])) rfl (by rw [hml]; rfl) (Steps.refl _) (argsL := []) (rest := [(.int 0)]) (lenOf pd_3 rfl) rfl (by show 2 * 0 + _ ≤ _; exact Nat.le_of_eq rfl) (hb hby d14_8) (fun _ _ => ⟨rfl, K1q, (by decide : 0 + 0 ≤ _), (by decide : 0 + 0 ≤ _)⟩)
  dsimp only [Pt.U, Pt.locs, Pt.cells, Pt.slots] at X2 l2 y2 z2 st2 hQ2
  subst l2 y2 z2
  obtain ⟨rfl, Nq2, K2q⟩ := hQ2
  have N2 := Fr.app N1 Nq2
  obtain ⟨cq3, kq3, q3a, q3b, q3c⟩ := isOf hZ K2q P6
  obtain ⟨_, _, ⟨T3, L3, k3, n3⟩, -, X3, ⟨Lc3, hQ3, l3, y3, z3⟩, st3⟩ := X2.interfaceBack hx (xi := M12) (y := M8) hown (mvT hZ (ow hw 33 rfl)) (mvT hZ (ow hw 34 rfl)) (mvT hZ (ow hw 35 rfl)) (mvT hZ (ow hw 36 rfl)) (mvT hZ (ow hw 37 rfl)) (mvT hZ (ow hw 38 rfl)) (mvT hZ (ow hw 39 rfl)) (mvT hZ (ow hw 40 rfl)) (by decide) (backOf (W := 0) (au6_0 l Z a0 hw [] wDEFAULTCAPACITY_EMPTY_ELEMENTDATA wEMPTY_LIST hS a3 h0 n0 O0 P9) hZ (ow hw 41 rfl) (ow hw 5 rfl) (by decide) (by decide)) q3a q3b q3c (g := (mkF m 43 #[(vr a1), (vl q2), .second, (vr a3), (vr a4), .unset, .unset, .unset, .unset, .unset, .unset] [(.ref a3)])) rfl (by rw [hml]; rfl) (Steps.refl _) (argsL := []) (rest := []) (lenOf pd_3 rfl) rfl (by show 2 * 0 + _ ≤ _; exact Nat.le_of_eq rfl) (hb hby d14_43) (fun _ _ => ⟨rfl, K2q, (by decide : 0 + 0 ≤ _), (by decide : 0 + 0 ≤ _)⟩)
  dsimp only [Pt.U, Pt.locs, Pt.cells, Pt.slots] at X3 l3 y3 z3 st3 hQ3
  subst l3 y3 z3
  obtain ⟨rfl, Nq3, K3q⟩ := hQ3
  have N3 := Fr.app N2 Nq3
  obtain ⟨T4, h4, k4, X4, e4, E4, A4, Z4, O4, st4⟩ := newRA X3 hx hZ (ty := .long) hown (by decide) (ow hw 104 rfl) (ow hw 45 rfl) K3q (g := (mkF m 48 #[(vr a1), (vl q2), .second, (vr a3), (vr a4), .unset, .unset, .unset, .unset, .unset, .unset] [(.int 0)])) rfl (hb hby d14_48) rfl (by decide) (cap := 0) (by decide) (by decide) (by decide) (by decide) (ad := "[[J") rfl
  obtain ⟨b4, g4⟩ : ∃ z, z = h0.size := ⟨_, rfl⟩
  rw [← g4] at A4 Z4 st4
  have ne5 : a1 ≠ b4 := Nat.ne_of_lt (Nat.lt_of_lt_of_le P0.lt (Nat.le_of_eq g4.symm))
  have ne6 : a3 ≠ b4 := Nat.ne_of_lt (Nat.lt_of_lt_of_le P6.lt (Nat.le_of_eq g4.symm))
  have ne7 : a4 ≠ b4 := Nat.ne_of_lt (Nat.lt_of_lt_of_le P10.lt (Nat.le_of_eq g4.symm))
  have ne8 : a5 ≠ b4 := Nat.ne_of_lt (Nat.lt_of_lt_of_le P14.lt (Nat.le_of_eq g4.symm))
  have ne9 : a6 ≠ b4 := Nat.ne_of_lt (Nat.lt_of_lt_of_le P18.lt (Nat.le_of_eq g4.symm))
  have ne10 : a7 ≠ b4 := Nat.ne_of_lt (Nat.lt_of_lt_of_le P21.lt (Nat.le_of_eq g4.symm))
  have ne11 : a8 ≠ b4 := Nat.ne_of_lt (Nat.lt_of_lt_of_le P25.lt (Nat.le_of_eq g4.symm))
  have g12 : n0 ≤ b4 := Nat.le_trans (own_sz O0) (Nat.le_of_eq g4.symm)
  have sz13 : h0.size ≤ b4 := Nat.le_trans K0.1 (Nat.le_of_eq g4.symm)
  have O14 : Old Z n0 h4 := O0.ext E4
  have K14 : Keep h0 h4 [] := K0.ext E4
  have V4 : Arv Z h4 b4 k4 (.array .long) (0 : Int32) ([]) .null := (Arv.new A4 (by decide)).pad (pad_rep [] .null 0)
  obtain ⟨cl15, Ar15, -, Sz15, Nn15, -, -⟩ := (id V4)
  obtain ⟨T16, h16, X16, e16, E16, A16, D16, -, st16⟩ := newO X4 hx hZ hown (ow hw 105 rfl) (ow hw 1 rfl) (ow hw 2 rfl) e4 (g := (mkF m 297 #[(vr a1), (vl q2), .second, (vr a3), (vr a4), (vr b4), (vi 0), .unset, .unset, .unset, .unset] [])) rfl (hb hby d14_297) (by decide) (by decide)
  obtain ⟨b16, g16⟩ : ∃ z, z = h4.size := ⟨_, rfl⟩
  rw [← g16] at A16 D16 st16
  have f18 : Exa Z h4 a1 s4n := (P0.ext E4)
  have ne17 : a1 ≠ b16 := Nat.ne_of_lt (Nat.lt_of_lt_of_le f18.lt (Nat.le_of_eq g16.symm))
  have f20 : Exa Z h4 a3 s0n := (P6.ext E4)
  have ne19 : a3 ≠ b16 := Nat.ne_of_lt (Nat.lt_of_lt_of_le f20.lt (Nat.le_of_eq g16.symm))
  have f22 : Exa Z h4 a4 s0n := (P10.ext E4)
  have ne21 : a4 ≠ b16 := Nat.ne_of_lt (Nat.lt_of_lt_of_le f22.lt (Nat.le_of_eq g16.symm))
  have f24 : Exa Z h4 a5 s0n := (P14.ext E4)
  have ne23 : a5 ≠ b16 := Nat.ne_of_lt (Nat.lt_of_lt_of_le f24.lt (Nat.le_of_eq g16.symm))
  have f26 : Arv Z h4 a6 k9 (.array .long) (0 : Int32) ([]) .null := (P18.ext E4)
  have ne25 : a6 ≠ b16 := Nat.ne_of_lt (Nat.lt_of_lt_of_le f26.lt (Nat.le_of_eq g16.symm))
  have f28 : Exa Z h4 a7 s0n := (P21.ext E4)
  have ne27 : a7 ≠ b16 := Nat.ne_of_lt (Nat.lt_of_lt_of_le f28.lt (Nat.le_of_eq g16.symm))
  have f30 : Exa Z h4 a8 s0n := (P25.ext E4)
  have ne29 : a8 ≠ b16 := Nat.ne_of_lt (Nat.lt_of_lt_of_le f30.lt (Nat.le_of_eq g16.symm))
  have ne31 : b4 ≠ b16 := Nat.ne_of_lt (Nat.lt_of_lt_of_le V4.lt (Nat.le_of_eq g16.symm))
  have g32 : n0 ≤ b16 := Nat.le_trans (own_sz O14) (Nat.le_of_eq g16.symm)
  have sz33 : h0.size ≤ b16 := Nat.le_trans K14.1 (Nat.le_of_eq g16.symm)
  have O34 : Old Z n0 h16 := O14.ext E16
  have K34 : Keep h0 h16 [] := K14.ext E16
  have f35 : Fld Z h16 b16 s4n "resources" s7n .null := D16 (Or.inr (ow hw 79 rfl)) (ty := (.object s3n)) (by decide)
  have f36 : Fld Z h16 b16 s4n "conflicts" s7n .null := D16 (Or.inr (ow hw 81 rfl)) (ty := (.object s3n)) (by decide)
  have f37 : Fld Z h16 b16 s4n "trains" s7n .null := D16 (Or.inr (ow hw 83 rfl)) (ty := (.object s3n)) (by decide)
  have f38 : Fld Z h16 b16 s4n "moment" "J" (.long 0) := D16 (Or.inr (ow hw 85 rfl)) (ty := .long) (by decide)
  have f39 : Fld Z h16 b16 s4n "entered" "[[J" .null := D16 (Or.inr (ow hw 87 rfl)) (ty := (.array (.array .long))) (by decide)
  have f40 : Fld Z h16 a1 s4n "resources" s7n (.ref a7) := ((P4.ext E4).ext E16)
  obtain ⟨T41, X41, e41, st41⟩ := getF X16 hx hZ hown (host := "") (Or.inl (ow hw 78 rfl)) Via.refl e16 f40 (g := (mkF m 302 #[(vr a1), (vl q2), .second, (vr a3), (vr a4), (vr b4), (vi 0), .unset, .unset, .unset, .unset] [(.ref a1), (.ref b16), (.ref b16)])) rfl rfl (hb hby d14_302)
  have f42 : Fld Z h16 a1 s4n "conflicts" s7n (.ref a5) := ((P1.ext E4).ext E16)
  obtain ⟨T43, X43, e43, st43⟩ := getF X41 hx hZ hown (host := "") (Or.inl (ow hw 80 rfl)) Via.refl e41 f42 (g := (mkF m 306 #[(vr a1), (vl q2), .second, (vr a3), (vr a4), (vr b4), (vi 0), .unset, .unset, .unset, .unset] [(.ref a1), (.ref a7), (.ref b16), (.ref b16)])) rfl rfl (hb hby d14_306)
  have f44 : Exa Z h16 a7 s0n := (f28.ext E16)
  have f45 : Exa Z h16 a5 s0n := (f24.ext E16)
  have f46 : Exa Z h16 a3 s0n := (f20.ext E16)
  obtain ⟨_, _, ⟨T47, L47, k47, n47⟩, -, X47, ⟨Lc47, hQ47, l47, y47, z47⟩, st47⟩ := X43.specialBack hx (y := M10) rfl hown (mvT hZ (ow hw 47 rfl)) (mvT hZ (ow hw 48 rfl)) (mvT hZ (ow hw 49 rfl)) (by decide) (backOf (W := 1) (au7_1 l Z a0 hw [] wDEFAULTCAPACITY_EMPTY_ELEMENTDATA wEMPTY_LIST hS b16 a7 a5 a3 q2 b4 h16 n0 O34 A16 f36 f39 f38 f35 f37 f44 f45 f46 P29 g32) hZ (ow hw 49 rfl) (ow hw 2 rfl) (by decide) (by decide)) (g := (mkF m 313 #[(vr a1), (vl q2), .second, (vr a3), (vr a4), (vr b4), (vi 0), .unset, .unset, .unset, .unset] [(.ref b4), (.long q2), (.ref a3), (.ref a5), (.ref a7), (.ref b16), (.ref b16)])) rfl (by rw [hml]; rfl) (Steps.refl _) (a := b16) (argsL := [(.ref a7), (.ref a5), (.ref a3), (.long q2), (.ref b4)]) (rest := [(.ref b16)]) (lenOf pd_5 rfl) rfl (by show 2 * 0 + _ ≤ _; exact Nat.le_of_eq rfl) (hb hby d14_313) (fun _ _ => ⟨rfl, e43, (by decide : 2 + 0 ≤ _), (by decide : 5 + 0 ≤ _)⟩)
  dsimp only [Pt.U, Pt.locs, Pt.cells, Pt.slots] at X47 l47 y47 z47 st47 hQ47
  subst l47 y47 z47
  obtain ⟨rfl, Nq47, K47q, p47_0, p47_1, p47_2, p47_3, p47_4, p47_5⟩ := hQ47
  have N47 := Fr.app N3 Nq47
  have O48 : Old Z n0 T47.heap := O34.keep K47q (allS g32 all0)
  have K48 : Keep h0 T47.heap [] := K34.trans K47q (allS (Or.inr sz33) all0)
  have f49 : Exa Z T47.heap b4 "[[J" := ((Z4.ext E16).keep K47q)
  have f50 : Arv Z T47.heap b4 k4 (.array .long) (0 : Int32) ([]) .null := ((V4.ext E16).keep K47q (ninS ne31 nin0))
  obtain ⟨fs, hr, hrun, hended, hW, hsame⟩ := X47.leave (v := some (.ref b16)) (fun h => by rw [hret0] at h; cases h)
  refine ⟨_, _, pre0 _ ?_, hrun, hended, _, _, rfl, ?_, ⟨_, rfl⟩, hW, hsame.mono (by decide) (by decide)⟩
  · skip
    show Steps p.tables e below (s₁.setTop (mkF m 0 #[(vr a1), (vl q2), .second, (vr a3), (vr a4), .unset, .unset, .unset, .unset, .unset, .unset] [])) _
    refine XS.aload X0.here hx rfl (hb hby d14_0) rfl rfl ?_
    refine st1.trans ?_
    refine XS.aloadN X1.here hx rfl (hb hby d14_7) rfl rfl ?_
    refine st2.trans ?_
    refine XS.icmpYes X2.here hx rfl (pc0 := 13) (pc' := 42) rfl (hb hby d14_13) rfl (teq (by decide : (0 : Int32) = (0 : Int32))).1 (by decide) (by decide) ?_
    show Steps p.tables e below (T2.setTop (mkF m 42 #[(vr a1), (vl q2), .second, (vr a3), (vr a4), .unset, .unset, .unset, .unset, .unset, .unset] [])) _
    refine XS.aloadN X2.here hx rfl (hb hby d14_42) rfl rfl ?_
    refine st3.trans ?_
    refine st4 _ ?_
    refine XS.astore X4.here hx rfl (hb hby d14_51) rfl rfl (l' := #[(vr a1), (vl q2), .second, (vr a3), (vr a4), (vr b4), .unset, .unset, .unset, .unset, .unset]) rfl ?_
    refine XS.iconst X4.here hx rfl (hb hby d14_53) ?_
    show Steps p.tables e below (T4.setTop (mkF m 54 #[(vr a1), (vl q2), .second, (vr a3), (vr a4), (vr b4), .unset, .unset, .unset, .unset, .unset] [(.int 0)])) _
    refine XS.istore X4.here hx rfl (hb hby d14_54) rfl (l' := #[(vr a1), (vl q2), .second, (vr a3), (vr a4), (vr b4), (vi 0), .unset, .unset, .unset, .unset]) rfl ?_
    refine XS.iload X4.here hx rfl (hb hby d14_56) rfl ?_
    refine XS.aload X4.here hx rfl (hb hby d14_58) rfl rfl ?_
    refine X4.arraylength hx (by rw [e4]; exact Ar15.1) (State.isArrayOf_alike hZ.alike Ar15.2.1) (g := (mkF m 60 #[(vr a1), (vl q2), .second, (vr a3), (vr a4), (vr b4), (vi 0), .unset, .unset, .unset, .unset] [(.ref b4), (.int 0)])) rfl rfl (hb hby d14_60) _ ?_
    rw [len_of Sz15 Nn15]
    refine XS.icmpYes X4.here hx rfl (pc0 := 61) (pc' := 297) rfl (hb hby d14_61) rfl (flt (by decide : ¬ ((0 : Int32) < (0 : Int32)))).2.1 (by decide) (by decide) ?_
    show Steps p.tables e below (T4.setTop (mkF m 297 #[(vr a1), (vl q2), .second, (vr a3), (vr a4), (vr b4), (vi 0), .unset, .unset, .unset, .unset] [])) _
    refine st16 _ ?_
    refine XS.dup X16.here hx rfl (hb hby d14_300) rfl rfl ?_
    refine XS.aloadN X16.here hx rfl (hb hby d14_301) rfl rfl ?_
    refine st41 _ ?_
    refine XS.aloadN X41.here hx rfl (hb hby d14_305) rfl rfl ?_
    show Steps p.tables e below (T41.setTop (mkF m 306 #[(vr a1), (vl q2), .second, (vr a3), (vr a4), (vr b4), (vi 0), .unset, .unset, .unset, .unset] [(.ref a1), (.ref a7), (.ref b16), (.ref b16)])) _
    refine st43 _ ?_
    refine XS.aloadN X43.here hx rfl (hb hby d14_309) rfl rfl ?_
    refine XS.lloadN X43.here hx rfl (hb hby d14_310) rfl ?_
    refine XS.aload X43.here hx rfl (hb hby d14_311) rfl rfl ?_
    refine st47.trans ?_
    show Steps p.tables e below (T47.setTop (mkF m 316 #[(vr a1), (vl q2), .second, (vr a3), (vr a4), (vr b4), (vi 0), .unset, .unset, .unset, .unset] [(.ref b16)])) _
    jvm_step X47.here [X47.here.top, hx, (hb hby d14_316), X47.method', hret0, Value.isRef, FieldType.isReference]
    first | (intro acts; rw [hr _ acts rfl rfl rfl]) | rw [hr _ _ rfl rfl rfl]
    exact Steps.refl _
  · show Q_au14_0 Z wDEFAULTCAPACITY_EMPTY_ELEMENTDATA wEMPTY_LIST a1 q2 a3 a4 a5 a6 a7 a8 k9 h0 n0 _ T47.heap _
    exact ⟨b16, b4, k4, rfl, N47, K48, sz33, p47_0, p47_1, p47_2, p47_3, p47_4, p47_5, sz13, f49, f50, O4⟩
theorem pd_8 : parseMethodDescriptor "(JLjava/util/List;Ljava/util/List;)Lcom/example/loopline/loopline/engine/Scenario;" = some ⟨[.long, (.object "java/util/List"), (.object "java/util/List")], some (.object "com/example/loopline/loopline/engine/Scenario")⟩ := by decide +kernel
theorem ef_au13_1 (m : MethodId) (x0 : Addr)  : entryFrame m #[(.ref x0)] 1 = mkF m 0 #[(vr x0)] [] := by first | (simp [entryFrame, mkF, argsToLocals, Value.category]; done) | rfl
def Q_au13_1 (Z : State) (wDEFAULTCAPACITY_EMPTY_ELEMENTDATA : Addr) (wEMPTY_LIST : Addr) (a1 : Addr) (q4 : Int64) (h0 : Heap) (n0 : Nat) (v : Option Value) (h : Heap) (L : List Loc) : Prop := v = some (.long q4) ∧ Fr n0 L ∧ h = h0
theorem au13_1 (l : Launch) (Z : State) (a0 : Array Value) (hw : ∀ d ∈ tables_1, d.before a0 Z = true) (ws : List Jvm.Cond) (wDEFAULTCAPACITY_EMPTY_ELEMENTDATA : Addr) (wEMPTY_LIST : Addr) (hS : SS Z wDEFAULTCAPACITY_EMPTY_ELEMENTDATA wEMPTY_LIST) (a1 : Addr) (q4 : Int64) (h0 : Heap) (n0 : Nat) (O0 : Old Z n0 h0) (P3 : Fld Z h0 a1 s4n "moment" "J" (.long q4)) :
    MetB l M13 prog_51_method_9_code 1 (some .long) ws (rmk 0 0 0 0) Z h0 #[(.ref a1)] (Q_au13_1 Z wDEFAULTCAPACITY_EMPTY_ELEMENTDATA wEMPTY_LIST a1 q4 h0 n0) := by
  refine own_body (plainFor_of_name pn_com_example_loopline_loopline_engine_Scenario) ?_
  intro p e s m below meth c s₁ hx hby hml hown hnm hret0 hlk0 hZ X0 e0
  have N0 := Fr.nil n0
  have pre0 : ∀ t, Steps p.tables e below (s₁.setTop (mkF m 0 #[(vr a1)] [])) t → Steps p.tables e below (s₁.setTop (entryFrame m #[(.ref a1)] 1)) t := fun t k => castTop (ef_au13_1 m a1) k
  have hS0 := hS
  obtain ⟨S_wDEFAULTCAPACITY_EMPTY_ELEMENTDATA, E_wDEFAULTCAPACITY_EMPTY_ELEMENTDATA, S_wEMPTY_LIST, E_wEMPTY_LIST, F_allowNulls_wEMPTY_LIST⟩ := hS0
  obtain ⟨T1, X1, e1, st1⟩ := getF X0 hx hZ hown (host := "") (Or.inl (ow hw 84 rfl)) Via.refl e0 P3 (g := (mkF m 1 #[(vr a1)] [(.ref a1)])) rfl rfl (hb hby d13_1)
  obtain ⟨fs, hr, hrun, hended, hW, hsame⟩ := X1.leave (v := some (.long q4)) (fun h => by rw [hret0] at h; cases h)
  refine ⟨_, _, pre0 _ ?_, hrun, hended, _, _, rfl, ?_, ⟨_, rfl⟩, hW, hsame.mono (by decide) (by decide)⟩
  · skip
    show Steps p.tables e below (s₁.setTop (mkF m 0 #[(vr a1)] [])) _
    refine XS.aloadN X0.here hx rfl (hb hby d13_0) rfl rfl ?_
    refine st1 _ ?_
    jvm_step X1.here [X1.here.top, hx, (hb hby d13_4), X1.method', hret0, narrow]
    first | (intro acts; rw [hr _ acts rfl rfl rfl]) | rw [hr _ _ rfl rfl rfl]
    exact Steps.refl _
  · show Q_au13_1 Z wDEFAULTCAPACITY_EMPTY_ELEMENTDATA wEMPTY_LIST a1 q4 h0 n0 _ T1.heap _
    rw [e1]
    exact ⟨rfl, N0, rfl⟩
theorem ef_au5_1 (m : MethodId) (x0 : Addr) (x1 : Addr) (x2 : Addr) (x3 : Addr)  : entryFrame m #[(.ref x0), (.ref x1), (.ref x2), (.ref x3)] 4 = mkF m 0 #[(vr x0), (vr x1), (vr x2), (vr x3)] [] := by first | (simp [entryFrame, mkF, argsToLocals, Value.category]; done) | rfl
theorem ef_au7_2 (m : MethodId) (x0 : Addr) (x1 : Addr) (x2 : Addr) (x3 : Addr) (x4 : Int64) (x5 : Addr)  : entryFrame m #[(.ref x0), (.ref x1), (.ref x2), (.ref x3), (.long x4), (.ref x5)] 7 = mkF m 0 #[(vr x0), (vr x1), (vr x2), (vr x3), (vl x4), .second, (vr x5)] [] := by first | (simp [entryFrame, mkF, argsToLocals, Value.category]; done) | rfl
theorem ef_au8_1 (m : MethodId) (x0 : Addr)  : entryFrame m #[(.ref x0)] 1 = mkF m 0 #[(vr x0)] [] := by first | (simp [entryFrame, mkF, argsToLocals, Value.category]; done) | rfl
def Q_au8_1 (Z : State) (wDEFAULTCAPACITY_EMPTY_ELEMENTDATA : Addr) (wEMPTY_LIST : Addr) (a1 : Addr) (h0 : Heap) (n0 : Nat) (v : Option Value) (h : Heap) (L : List Loc) : Prop := v = some (.ref wEMPTY_LIST) ∧ Fr n0 L ∧ h = h0
theorem au8_1 (l : Launch) (Z : State) (a0 : Array Value) (hw : ∀ d ∈ tables_1, d.before a0 Z = true) (ws : List Jvm.Cond) (wDEFAULTCAPACITY_EMPTY_ELEMENTDATA : Addr) (wEMPTY_LIST : Addr) (hS : SS Z wDEFAULTCAPACITY_EMPTY_ELEMENTDATA wEMPTY_LIST) (a1 : Addr) (h0 : Heap) (n0 : Nat) (O0 : Old Z n0 h0) (P0 : Exa Z h0 a1 s0n) (P3 : Fld Z h0 a1 s0n "size" "I" (.int 0)) (P4 : asg Z s0n s2n false) :
    MetB l M9 jdk_40_method_48_code 1 (some (.object s3n)) ws (rmk 2 0 0 25) Z h0 #[(.ref a1)] (Q_au8_1 Z wDEFAULTCAPACITY_EMPTY_ELEMENTDATA wEMPTY_LIST a1 h0 n0) := by
  refine own_body (plainFor_of_name pn_java_util_List) ?_
  intro p e s m below meth c s₁ hx hby hml hown hnm hret0 hlk0 hZ X0 e0
  have N0 := Fr.nil n0
  have pre0 : ∀ t, Steps p.tables e below (s₁.setTop (mkF m 0 #[(vr a1)] [])) t → Steps p.tables e below (s₁.setTop (entryFrame m #[(.ref a1)] 1)) t := fun t k => castTop (ef_au8_1 m a1) k
  have hS0 := hS
  obtain ⟨S_wDEFAULTCAPACITY_EMPTY_ELEMENTDATA, E_wDEFAULTCAPACITY_EMPTY_ELEMENTDATA, S_wEMPTY_LIST, E_wEMPTY_LIST, F_allowNulls_wEMPTY_LIST⟩ := hS0
  obtain ⟨_, _, ⟨T1, L1, k1, n1⟩, -, X1, ⟨Lc1, hQ1, l1, y1, z1⟩, st1⟩ := Jvm.LawKit.callS X0 hx (y := M0) hown (mvT hZ (ow hw 55 rfl)) (mvT hZ (ow hw 56 rfl)) (mvT hZ (ow hw 57 rfl)) (mvT hZ (ow hw 58 rfl)) (by decide) (backOf (W := 0) (rmLCF l Z a0 hw [] wDEFAULTCAPACITY_EMPTY_ELEMENTDATA wEMPTY_LIST hS a1 h0 n0 O0 P0 P3 P4) hZ (ow hw 58 rfl) (ow hw 57 rfl) (by decide) (by decide)) (g := (mkF m 1 #[(vr a1)] [(.ref a1)])) rfl (by rw [hml]; rfl) (argsL := [(.ref a1)]) (rest := []) (lenOf pd_4 rfl) rfl (by show 2 * 0 + _ ≤ _; exact Nat.le_of_eq rfl) (hb hby d8_1) (fun _ _ => ⟨rfl, e0, (by decide : 0 + 0 ≤ _), (by decide : 0 + 0 ≤ _)⟩)
  dsimp only [Pt.U, Pt.locs, Pt.cells, Pt.slots] at X1 l1 y1 z1 st1 hQ1
  subst l1 y1 z1
  obtain ⟨rfl, Nq1, K1q⟩ := hQ1
  have N1 := Fr.app N0 Nq1
  obtain ⟨fs, hr, hrun, hended, hW, hsame⟩ := X1.leave (v := some (.ref wEMPTY_LIST)) (fun h => by rw [hret0] at h; cases h)
  refine ⟨_, _, pre0 _ ?_, hrun, hended, _, _, rfl, ?_, ⟨_, rfl⟩, hW, hsame.mono (by decide) (by decide)⟩
  · skip
    show Steps p.tables e below (s₁.setTop (mkF m 0 #[(vr a1)] [])) _
    refine XS.aloadN X0.here hx rfl (hb hby d8_0) rfl rfl ?_
    refine st1 _ ?_
    jvm_step X1.here [X1.here.top, hx, (hb hby d8_4), X1.method', hret0, Value.isRef, FieldType.isReference]
    first | (intro acts; rw [hr _ acts rfl rfl rfl]) | rw [hr _ _ rfl rfl rfl]
    exact Steps.refl _
  · show Q_au8_1 Z wDEFAULTCAPACITY_EMPTY_ELEMENTDATA wEMPTY_LIST a1 h0 n0 _ T1.heap _
    rw [K1q]
    exact ⟨rfl, N1, rfl⟩
def Q_au7_2 (Z : State) (wDEFAULTCAPACITY_EMPTY_ELEMENTDATA : Addr) (wEMPTY_LIST : Addr) (a1 : Addr) (a2 : Addr) (a3 : Addr) (a4 : Addr) (a5 : Addr) (h0 : Heap) (n0 : Nat) (v : Option Value) (h : Heap) (L : List Loc) : Prop := v = none ∧ Fr n0 L ∧ Keep h0 h [a1] ∧ Exa Z h a1 s4n ∧ Fld Z h a1 s4n "conflicts" s7n (.ref wEMPTY_LIST) ∧ Fld Z h a1 s4n "entered" "[[J" (.ref a5) ∧ Fld Z h a1 s4n "moment" "J" (.long (-9223372036854775808 : Int64)) ∧ Fld Z h a1 s4n "resources" s7n (.ref wEMPTY_LIST) ∧ Fld Z h a1 s4n "trains" s7n (.ref wEMPTY_LIST)
theorem au7_2 (l : Launch) (Z : State) (a0 : Array Value) (hw : ∀ d ∈ tables_1, d.before a0 Z = true) (ws : List Jvm.Cond) (wDEFAULTCAPACITY_EMPTY_ELEMENTDATA : Addr) (wEMPTY_LIST : Addr) (hS : SS Z wDEFAULTCAPACITY_EMPTY_ELEMENTDATA wEMPTY_LIST) (a1 : Addr) (a2 : Addr) (a3 : Addr) (a4 : Addr) (a5 : Addr) (h0 : Heap) (n0 : Nat) (O0 : Old Z n0 h0) (P0 : Exa Z h0 a1 s4n) (P1 : Fld Z h0 a1 s4n "conflicts" s7n .null) (P2 : Fld Z h0 a1 s4n "entered" "[[J" .null) (P3 : Fld Z h0 a1 s4n "moment" "J" (.long 0)) (P4 : Fld Z h0 a1 s4n "resources" s7n .null) (P5 : Fld Z h0 a1 s4n "trains" s7n .null) (P6 : Exa Z h0 a2 s0n) (P9 : Fld Z h0 a2 s0n "size" "I" (.int 0)) (P10 : Exa Z h0 a3 s0n) (P13 : Fld Z h0 a3 s0n "size" "I" (.int 0)) (P14 : Exa Z h0 a4 s0n) (P17 : Fld Z h0 a4 s0n "size" "I" (.int 0)) (P21 : asg Z s0n s2n false) (P22 : n0 ≤ a1) (P28 : a1 ≠ a3) (P29 : a1 ≠ a4) :
    MetB l M10 prog_51_method_2_code 7 none ws (rmk 3 0 0 38) Z h0 #[(.ref a1), (.ref a2), (.ref a3), (.ref a4), (.long (-9223372036854775808 : Int64)), (.ref a5)] (Q_au7_2 Z wDEFAULTCAPACITY_EMPTY_ELEMENTDATA wEMPTY_LIST a1 a2 a3 a4 a5 h0 n0) := by
  refine own_body (plainFor_of_name pn_com_example_loopline_loopline_engine_Scenario) ?_
  intro p e s m below meth c s₁ hx hby hml hown hnm hret0 hlk0 hZ X0 e0
  have N0 := Fr.nil n0
  have pre0 : ∀ t, Steps p.tables e below (s₁.setTop (mkF m 0 #[(vr a1), (vr a2), (vr a3), (vr a4), .val (.long (-9223372036854775808 : Int64)), .second, (vr a5)] [])) t → Steps p.tables e below (s₁.setTop (entryFrame m #[(.ref a1), (.ref a2), (.ref a3), (.ref a4), (.long (-9223372036854775808 : Int64)), (.ref a5)] 7)) t := fun t k => castTop (ef_au7_2 m a1 a2 a3 a4 (-9223372036854775808 : Int64) a5) k
  have K0 := Keep.refl h0 [a1]
  have hS0 := hS
  obtain ⟨S_wDEFAULTCAPACITY_EMPTY_ELEMENTDATA, E_wDEFAULTCAPACITY_EMPTY_ELEMENTDATA, S_wEMPTY_LIST, E_wEMPTY_LIST, F_allowNulls_wEMPTY_LIST⟩ := hS0
  obtain ⟨T1, X1, e1, st1⟩ := initO X0 hx hZ hown (ow hw 50 rfl) (ow hw 22 rfl) (ow hw 23 rfl) e0 (g := (mkF m 1 #[(vr a1), (vr a2), (vr a3), (vr a4), .val (.long (-9223372036854775808 : Int64)), .second, (vr a5)] [(.ref a1)])) rfl (by rw [hml]; rfl) rfl (hb hby d7_1) (by decide) (W := 0) (by show 2 * 0 + _ ≤ _; exact Nat.le_of_eq rfl) (by decide)
  obtain ⟨_, _, ⟨T2, L2, k2, n2⟩, -, X2, ⟨Lc2, hQ2, l2, y2, z2⟩, st2⟩ := Jvm.LawKit.callS X1 hx (y := M9) hown (mvT hZ (ow hw 51 rfl)) (mvT hZ (ow hw 52 rfl)) (mvT hZ (ow hw 53 rfl)) (mvT hZ (ow hw 54 rfl)) (by decide) (backOf (W := 1) (au8_1 l Z a0 hw [] wDEFAULTCAPACITY_EMPTY_ELEMENTDATA wEMPTY_LIST hS a2 h0 n0 O0 P6 P9 P21) hZ (ow hw 54 rfl) (ow hw 53 rfl) (by decide) (by decide)) (g := (mkF m 6 #[(vr a1), (vr a2), (vr a3), (vr a4), .val (.long (-9223372036854775808 : Int64)), .second, (vr a5)] [(.ref a2), (.ref a1)])) rfl (by rw [hml]; rfl) (argsL := [(.ref a2)]) (rest := [(.ref a1)]) (lenOf pd_4 rfl) rfl (by show 2 * 0 + _ ≤ _; exact Nat.le_of_eq rfl) (hb hby d7_6) (fun _ _ => ⟨rfl, e1, (by decide : 0 + 0 ≤ _), (by decide : 0 + 0 ≤ _)⟩)
  dsimp only [Pt.U, Pt.locs, Pt.cells, Pt.slots] at X2 l2 y2 z2 st2 hQ2
  subst l2 y2 z2
  obtain ⟨rfl, Nq2, K2q⟩ := hQ2
  have N2 := Fr.app N0 Nq2
  obtain ⟨T3, h3, X3, e3, W3, st3⟩ := putF X2 hx hZ hown (host := "") (Or.inl (ow hw 78 rfl)) Via.refl K2q P4 P0 (Or.inr ⟨(ow hw 79 rfl), rfl, hnm⟩) (ow hw 1 rfl) (ty := (.object s3n)) (by decide) rfl rfl (g := (mkF m 9 #[(vr a1), (vr a2), (vr a3), (vr a4), .val (.long (-9223372036854775808 : Int64)), .second, (vr a5)] [(.ref wEMPTY_LIST), (.ref a1)])) rfl rfl (hb hby d7_9)
  have N3 := Fr.snoc X3 N2 P22
  have O4 : Old Z n0 h3 := O0.wr W3 P22
  have K4 : Keep h0 h3 [a1] := K0.wr W3 (Or.inl (List.mem_of_getElem? (i := 0) rfl))
  have Fw3 : Fld Z h3 a1 s4n "resources" s7n (.ref wEMPTY_LIST) := P4.same W3
  have f5 : Exa Z h3 a3 s0n := (P10.wr W3)
  have f6 : Fld Z h3 a3 s0n "size" "I" (.int 0) := (P13.other W3 (Or.inl (Ne.symm P28)))
  obtain ⟨_, _, ⟨T7, L7, k7, n7⟩, -, X7, ⟨Lc7, hQ7, l7, y7, z7⟩, st7⟩ := Jvm.LawKit.callS X3 hx (y := M9) hown (mvT hZ (ow hw 51 rfl)) (mvT hZ (ow hw 52 rfl)) (mvT hZ (ow hw 53 rfl)) (mvT hZ (ow hw 54 rfl)) (by decide) (backOf (W := 1) (au8_1 l Z a0 hw [] wDEFAULTCAPACITY_EMPTY_ELEMENTDATA wEMPTY_LIST hS a3 h3 n0 O4 f5 f6 P21) hZ (ow hw 54 rfl) (ow hw 53 rfl) (by decide) (by decide)) (g := (mkF m 14 #[(vr a1), (vr a2), (vr a3), (vr a4), .val (.long (-9223372036854775808 : Int64)), .second, (vr a5)] [(.ref a3), (.ref a1)])) rfl (by rw [hml]; rfl) (argsL := [(.ref a3)]) (rest := [(.ref a1)]) (lenOf pd_4 rfl) rfl (by show 2 * 0 + _ ≤ _; exact Nat.le_of_eq rfl) (hb hby d7_14) (fun _ _ => ⟨rfl, e3, (by decide : 0 + 0 ≤ _), (by decide : 0 + 0 ≤ _)⟩)
  dsimp only [Pt.U, Pt.locs, Pt.cells, Pt.slots] at X7 l7 y7 z7 st7 hQ7
  subst l7 y7 z7
  obtain ⟨rfl, Nq7, K7q⟩ := hQ7
  have N7 := Fr.app N3 Nq7
  have f8 : Exa Z h3 a1 s4n := (P0.wr W3)
  have f9 : Fld Z h3 a1 s4n "conflicts" s7n .null := (P1.other W3 (Or.inr (slot_ne (Or.inr (ow hw 81 rfl)) (Or.inr (ow hw 79 rfl)) (by decide) (t := (.object s3n)) (t' := (.object s3n)) (by decide) (by decide))))
  obtain ⟨T10, h10, X10, e10, W10, st10⟩ := putF X7 hx hZ hown (host := "") (Or.inl (ow hw 80 rfl)) Via.refl K7q f9 f8 (Or.inr ⟨(ow hw 81 rfl), rfl, hnm⟩) (ow hw 1 rfl) (ty := (.object s3n)) (by decide) rfl rfl (g := (mkF m 17 #[(vr a1), (vr a2), (vr a3), (vr a4), .val (.long (-9223372036854775808 : Int64)), .second, (vr a5)] [(.ref wEMPTY_LIST), (.ref a1)])) rfl rfl (hb hby d7_17)
  have N10 := Fr.snoc X10 N7 P22
  have O11 : Old Z n0 h10 := O4.wr W10 P22
  have K11 : Keep h0 h10 [a1] := K4.wr W10 (Or.inl (List.mem_of_getElem? (i := 0) rfl))
  have Fw10 : Fld Z h10 a1 s4n "conflicts" s7n (.ref wEMPTY_LIST) := f9.same W10
  have f12 : Exa Z h10 a4 s0n := ((P14.wr W3).wr W10)
  have f13 : Fld Z h10 a4 s0n "size" "I" (.int 0) := ((P17.other W3 (Or.inl (Ne.symm P29))).other W10 (Or.inl (Ne.symm P29)))
  obtain ⟨_, _, ⟨T14, L14, k14, n14⟩, -, X14, ⟨Lc14, hQ14, l14, y14, z14⟩, st14⟩ := Jvm.LawKit.callS X10 hx (y := M9) hown (mvT hZ (ow hw 51 rfl)) (mvT hZ (ow hw 52 rfl)) (mvT hZ (ow hw 53 rfl)) (mvT hZ (ow hw 54 rfl)) (by decide) (backOf (W := 1) (au8_1 l Z a0 hw [] wDEFAULTCAPACITY_EMPTY_ELEMENTDATA wEMPTY_LIST hS a4 h10 n0 O11 f12 f13 P21) hZ (ow hw 54 rfl) (ow hw 53 rfl) (by decide) (by decide)) (g := (mkF m 22 #[(vr a1), (vr a2), (vr a3), (vr a4), .val (.long (-9223372036854775808 : Int64)), .second, (vr a5)] [(.ref a4), (.ref a1)])) rfl (by rw [hml]; rfl) (argsL := [(.ref a4)]) (rest := [(.ref a1)]) (lenOf pd_4 rfl) rfl (by show 2 * 0 + _ ≤ _; exact Nat.le_of_eq rfl) (hb hby d7_22) (fun _ _ => ⟨rfl, e10, (by decide : 0 + 0 ≤ _), (by decide : 0 + 0 ≤ _)⟩)
  dsimp only [Pt.U, Pt.locs, Pt.cells, Pt.slots] at X14 l14 y14 z14 st14 hQ14
  subst l14 y14 z14
  obtain ⟨rfl, Nq14, K14q⟩ := hQ14
  have N14 := Fr.app N10 Nq14
  have f15 : Exa Z h10 a1 s4n := (f8.wr W10)
  have f16 : Fld Z h10 a1 s4n "trains" s7n .null := ((P5.other W3 (Or.inr (slot_ne (Or.inr (ow hw 83 rfl)) (Or.inr (ow hw 79 rfl)) (by decide) (t := (.object s3n)) (t' := (.object s3n)) (by decide) (by decide)))).other W10 (Or.inr (slot_ne (Or.inr (ow hw 83 rfl)) (Or.inr (ow hw 81 rfl)) (by decide) (t := (.object s3n)) (t' := (.object s3n)) (by decide) (by decide))))
  obtain ⟨T17, h17, X17, e17, W17, st17⟩ := putF X14 hx hZ hown (host := "") (Or.inl (ow hw 82 rfl)) Via.refl K14q f16 f15 (Or.inr ⟨(ow hw 83 rfl), rfl, hnm⟩) (ow hw 1 rfl) (ty := (.object s3n)) (by decide) rfl rfl (g := (mkF m 25 #[(vr a1), (vr a2), (vr a3), (vr a4), .val (.long (-9223372036854775808 : Int64)), .second, (vr a5)] [(.ref wEMPTY_LIST), (.ref a1)])) rfl rfl (hb hby d7_25)
  have N17 := Fr.snoc X17 N14 P22
  have O18 : Old Z n0 h17 := O11.wr W17 P22
  have K18 : Keep h0 h17 [a1] := K11.wr W17 (Or.inl (List.mem_of_getElem? (i := 0) rfl))
  have Fw17 : Fld Z h17 a1 s4n "trains" s7n (.ref wEMPTY_LIST) := f16.same W17
  have f19 : Exa Z h17 a1 s4n := (f15.wr W17)
  have f20 : Fld Z h17 a1 s4n "moment" "J" (.long 0) := (((P3.other W3 (Or.inr (slot_ne (Or.inr (ow hw 85 rfl)) (Or.inr (ow hw 79 rfl)) (by decide) (t := .long) (t' := (.object s3n)) (by decide) (by decide)))).other W10 (Or.inr (slot_ne (Or.inr (ow hw 85 rfl)) (Or.inr (ow hw 81 rfl)) (by decide) (t := .long) (t' := (.object s3n)) (by decide) (by decide)))).other W17 (Or.inr (slot_ne (Or.inr (ow hw 85 rfl)) (Or.inr (ow hw 83 rfl)) (by decide) (t := .long) (t' := (.object s3n)) (by decide) (by decide))))
  obtain ⟨T21, h21, X21, e21, W21, st21⟩ := putF X17 hx hZ hown (host := "") (Or.inl (ow hw 84 rfl)) Via.refl e17 f20 f19 (Or.inr ⟨(ow hw 85 rfl), rfl, hnm⟩) (ow hw 1 rfl) (ty := .long) (by decide) rfl rfl (g := (mkF m 31 #[(vr a1), (vr a2), (vr a3), (vr a4), .val (.long (-9223372036854775808 : Int64)), .second, (vr a5)] [(.long (-9223372036854775808 : Int64)), (.ref a1)])) rfl rfl (hb hby d7_31)
  have N21 := Fr.snoc X21 N17 P22
  have O22 : Old Z n0 h21 := O18.wr W21 P22
  have K22 : Keep h0 h21 [a1] := K18.wr W21 (Or.inl (List.mem_of_getElem? (i := 0) rfl))
  have Fw21 : Fld Z h21 a1 s4n "moment" "J" (.long (-9223372036854775808 : Int64)) := f20.same W21
  have f23 : Exa Z h21 a1 s4n := (f19.wr W21)
  have f24 : Fld Z h21 a1 s4n "entered" "[[J" .null := ((((P2.other W3 (Or.inr (slot_ne (Or.inr (ow hw 87 rfl)) (Or.inr (ow hw 79 rfl)) (by decide) (t := (.array (.array .long))) (t' := (.object s3n)) (by decide) (by decide)))).other W10 (Or.inr (slot_ne (Or.inr (ow hw 87 rfl)) (Or.inr (ow hw 81 rfl)) (by decide) (t := (.array (.array .long))) (t' := (.object s3n)) (by decide) (by decide)))).other W17 (Or.inr (slot_ne (Or.inr (ow hw 87 rfl)) (Or.inr (ow hw 83 rfl)) (by decide) (t := (.array (.array .long))) (t' := (.object s3n)) (by decide) (by decide)))).other W21 (Or.inr (slot_ne (Or.inr (ow hw 87 rfl)) (Or.inr (ow hw 85 rfl)) (by decide) (t := (.array (.array .long))) (t' := .long) (by decide) (by decide))))
  obtain ⟨T25, h25, X25, e25, W25, st25⟩ := putF X21 hx hZ hown (host := "") (Or.inl (ow hw 86 rfl)) Via.refl e21 f24 f23 (Or.inr ⟨(ow hw 87 rfl), rfl, hnm⟩) (ow hw 1 rfl) (ty := (.array (.array .long))) (by decide) rfl rfl (g := (mkF m 37 #[(vr a1), (vr a2), (vr a3), (vr a4), .val (.long (-9223372036854775808 : Int64)), .second, (vr a5)] [(.ref a5), (.ref a1)])) rfl rfl (hb hby d7_37)
  have N25 := Fr.snoc X25 N21 P22
  have O26 : Old Z n0 h25 := O22.wr W25 P22
  have K26 : Keep h0 h25 [a1] := K22.wr W25 (Or.inl (List.mem_of_getElem? (i := 0) rfl))
  have Fw25 : Fld Z h25 a1 s4n "entered" "[[J" (.ref a5) := f24.same W25
  have f27 : Exa Z h25 a1 s4n := (f23.wr W25)
  have f28 : Fld Z h25 a1 s4n "conflicts" s7n (.ref wEMPTY_LIST) := (((Fw10.other W17 (Or.inr (slot_ne (Or.inr (ow hw 81 rfl)) (Or.inr (ow hw 83 rfl)) (by decide) (t := (.object s3n)) (t' := (.object s3n)) (by decide) (by decide)))).other W21 (Or.inr (slot_ne (Or.inr (ow hw 81 rfl)) (Or.inr (ow hw 85 rfl)) (by decide) (t := (.object s3n)) (t' := .long) (by decide) (by decide)))).other W25 (Or.inr (slot_ne (Or.inr (ow hw 81 rfl)) (Or.inr (ow hw 87 rfl)) (by decide) (t := (.object s3n)) (t' := (.array (.array .long))) (by decide) (by decide))))
  have f29 : Fld Z h25 a1 s4n "moment" "J" (.long (-9223372036854775808 : Int64)) := (Fw21.other W25 (Or.inr (slot_ne (Or.inr (ow hw 85 rfl)) (Or.inr (ow hw 87 rfl)) (by decide) (t := .long) (t' := (.array (.array .long))) (by decide) (by decide))))
  have f30 : Fld Z h25 a1 s4n "resources" s7n (.ref wEMPTY_LIST) := ((((Fw3.other W10 (Or.inr (slot_ne (Or.inr (ow hw 79 rfl)) (Or.inr (ow hw 81 rfl)) (by decide) (t := (.object s3n)) (t' := (.object s3n)) (by decide) (by decide)))).other W17 (Or.inr (slot_ne (Or.inr (ow hw 79 rfl)) (Or.inr (ow hw 83 rfl)) (by decide) (t := (.object s3n)) (t' := (.object s3n)) (by decide) (by decide)))).other W21 (Or.inr (slot_ne (Or.inr (ow hw 79 rfl)) (Or.inr (ow hw 85 rfl)) (by decide) (t := (.object s3n)) (t' := .long) (by decide) (by decide)))).other W25 (Or.inr (slot_ne (Or.inr (ow hw 79 rfl)) (Or.inr (ow hw 87 rfl)) (by decide) (t := (.object s3n)) (t' := (.array (.array .long))) (by decide) (by decide))))
  have f31 : Fld Z h25 a1 s4n "trains" s7n (.ref wEMPTY_LIST) := ((Fw17.other W21 (Or.inr (slot_ne (Or.inr (ow hw 83 rfl)) (Or.inr (ow hw 85 rfl)) (by decide) (t := (.object s3n)) (t' := .long) (by decide) (by decide)))).other W25 (Or.inr (slot_ne (Or.inr (ow hw 83 rfl)) (Or.inr (ow hw 87 rfl)) (by decide) (t := (.object s3n)) (t' := (.array (.array .long))) (by decide) (by decide))))
  obtain ⟨fs, hr, hrun, hended, hW, hsame⟩ := X25.leave (v := none) (fun _ => rfl)
  refine ⟨_, _, pre0 _ ?_, hrun, hended, _, _, rfl, ?_, ⟨_, rfl⟩, hW, hsame.mono (by decide) (by decide)⟩
  · skip
    show Steps p.tables e below (s₁.setTop (mkF m 0 #[(vr a1), (vr a2), (vr a3), (vr a4), .val (.long (-9223372036854775808 : Int64)), .second, (vr a5)] [])) _
    refine XS.aloadN X0.here hx rfl (hb hby d7_0) rfl rfl ?_
    refine st1 _ ?_
    refine XS.aloadN X1.here hx rfl (hb hby d7_4) rfl rfl ?_
    refine XS.aloadN X1.here hx rfl (hb hby d7_5) rfl rfl ?_
    refine st2 _ ?_
    show Steps p.tables e below (T2.setTop (mkF m 9 #[(vr a1), (vr a2), (vr a3), (vr a4), .val (.long (-9223372036854775808 : Int64)), .second, (vr a5)] [(.ref wEMPTY_LIST), (.ref a1)])) _
    refine st3 _ ?_
    refine XS.aloadN X3.here hx rfl (hb hby d7_12) rfl rfl ?_
    refine XS.aloadN X3.here hx rfl (hb hby d7_13) rfl rfl ?_
    refine st7 _ ?_
    refine st10 _ ?_
    show Steps p.tables e below (T10.setTop (mkF m 20 #[(vr a1), (vr a2), (vr a3), (vr a4), .val (.long (-9223372036854775808 : Int64)), .second, (vr a5)] [])) _
    refine XS.aloadN X10.here hx rfl (hb hby d7_20) rfl rfl ?_
    refine XS.aloadN X10.here hx rfl (hb hby d7_21) rfl rfl ?_
    refine st14 _ ?_
    refine st17 _ ?_
    refine XS.aloadN X17.here hx rfl (hb hby d7_28) rfl rfl ?_
    show Steps p.tables e below (T17.setTop (mkF m 29 #[(vr a1), (vr a2), (vr a3), (vr a4), .val (.long (-9223372036854775808 : Int64)), .second, (vr a5)] [(.ref a1)])) _
    refine XS.lload X17.here hx rfl (hb hby d7_29) rfl ?_
    refine st21 _ ?_
    refine XS.aloadN X21.here hx rfl (hb hby d7_34) rfl rfl ?_
    refine XS.aload X21.here hx rfl (hb hby d7_35) rfl rfl ?_
    refine st25 _ ?_
    show Steps p.tables e below (T25.setTop (mkF m 40 #[(vr a1), (vr a2), (vr a3), (vr a4), .val (.long (-9223372036854775808 : Int64)), .second, (vr a5)] [])) _
    exact X25.returnOut hx hret0 (hb hby d7_40) hr
  · show Q_au7_2 Z wDEFAULTCAPACITY_EMPTY_ELEMENTDATA wEMPTY_LIST a1 a2 a3 a4 a5 h0 n0 _ T25.heap _
    rw [e25]
    exact ⟨rfl, N25, K26, f27, f28, Fw25, f29, f30, f31⟩
def Q_au5_1 (Z : State) (wDEFAULTCAPACITY_EMPTY_ELEMENTDATA : Addr) (wEMPTY_LIST : Addr) (a1 : Addr) (a2 : Addr) (a3 : Addr) (a4 : Addr) (h0 : Heap) (n0 : Nat) (v : Option Value) (h : Heap) (L : List Loc) : Prop := ∃ (e1 : Addr) (e2 : ClassId), v = none ∧ Fr n0 L ∧ Keep h0 h [a1] ∧ Exa Z h a1 s4n ∧ Fld Z h a1 s4n "conflicts" s7n (.ref wEMPTY_LIST) ∧ Fld Z h a1 s4n "entered" "[[J" (.ref e1) ∧ Fld Z h a1 s4n "moment" "J" (.long (-9223372036854775808 : Int64)) ∧ Fld Z h a1 s4n "resources" s7n (.ref wEMPTY_LIST) ∧ Fld Z h a1 s4n "trains" s7n (.ref wEMPTY_LIST) ∧ h0.size ≤ e1 ∧ Exa Z h e1 "[[J" ∧ Arv Z h e1 e2 (.array .long) (0 : Int32) ([]) .null ∧ OvrA Z e2 .long "[J"
theorem au5_1 (l : Launch) (Z : State) (a0 : Array Value) (hw : ∀ d ∈ tables_1, d.before a0 Z = true) (ws : List Jvm.Cond) (wDEFAULTCAPACITY_EMPTY_ELEMENTDATA : Addr) (wEMPTY_LIST : Addr) (hS : SS Z wDEFAULTCAPACITY_EMPTY_ELEMENTDATA wEMPTY_LIST) (a1 : Addr) (a2 : Addr) (a3 : Addr) (a4 : Addr) (h0 : Heap) (n0 : Nat) (O0 : Old Z n0 h0) (P0 : Exa Z h0 a1 s4n) (P1 : Fld Z h0 a1 s4n "conflicts" s7n .null) (P2 : Fld Z h0 a1 s4n "entered" "[[J" .null) (P3 : Fld Z h0 a1 s4n "moment" "J" (.long 0)) (P4 : Fld Z h0 a1 s4n "resources" s7n .null) (P5 : Fld Z h0 a1 s4n "trains" s7n .null) (P6 : Exa Z h0 a2 s0n) (P9 : Fld Z h0 a2 s0n "size" "I" (.int 0)) (P10 : Exa Z h0 a3 s0n) (P13 : Fld Z h0 a3 s0n "size" "I" (.int 0)) (P14 : Exa Z h0 a4 s0n) (P17 : Fld Z h0 a4 s0n "size" "I" (.int 0)) (P18 : asg Z s0n s2n false) (P19 : n0 ≤ a1) (P24 : a1 ≠ a3) (P25 : a1 ≠ a4) :
    MetB l M11 prog_51_method_1_code 4 none ws (rmk 4 1 0 56) Z h0 #[(.ref a1), (.ref a2), (.ref a3), (.ref a4)] (Q_au5_1 Z wDEFAULTCAPACITY_EMPTY_ELEMENTDATA wEMPTY_LIST a1 a2 a3 a4 h0 n0) := by
  refine own_body (plainFor_of_name pn_com_example_loopline_loopline_engine_Scenario) ?_
  intro p e s m below meth c s₁ hx hby hml hown hnm hret0 hlk0 hZ X0 e0
  have N0 := Fr.nil n0
  have pre0 : ∀ t, Steps p.tables e below (s₁.setTop (mkF m 0 #[(vr a1), (vr a2), (vr a3), (vr a4)] [])) t → Steps p.tables e below (s₁.setTop (entryFrame m #[(.ref a1), (.ref a2), (.ref a3), (.ref a4)] 4)) t := fun t k => castTop (ef_au5_1 m a1 a2 a3 a4) k
  have K0 := Keep.refl h0 [a1]
  have hS0 := hS
  obtain ⟨S_wDEFAULTCAPACITY_EMPTY_ELEMENTDATA, E_wDEFAULTCAPACITY_EMPTY_ELEMENTDATA, S_wEMPTY_LIST, E_wEMPTY_LIST, F_allowNulls_wEMPTY_LIST⟩ := hS0
  obtain ⟨cq1, kq1, q1a, q1b, q1c⟩ := isOf hZ e0 P14
  obtain ⟨_, _, ⟨T1, L1, k1, n1⟩, -, X1, ⟨Lc1, hQ1, l1, y1, z1⟩, st1⟩ := X0.interfaceBack hx (xi := M12) (y := M8) hown (mvT hZ (ow hw 33 rfl)) (mvT hZ (ow hw 34 rfl)) (mvT hZ (ow hw 35 rfl)) (mvT hZ (ow hw 36 rfl)) (mvT hZ (ow hw 37 rfl)) (mvT hZ (ow hw 38 rfl)) (mvT hZ (ow hw 39 rfl)) (mvT hZ (ow hw 40 rfl)) (by decide) (backOf (W := 6) (au6_0 l Z a0 hw [] wDEFAULTCAPACITY_EMPTY_ELEMENTDATA wEMPTY_LIST hS a4 h0 n0 O0 P17) hZ (ow hw 41 rfl) (ow hw 5 rfl) (by decide) (by decide)) q1a q1b q1c (g := (mkF m 8 #[(vr a1), (vr a2), (vr a3), (vr a4)] [(.ref a4), (.long (-9223372036854775808 : Int64)), (.ref a4), (.ref a3), (.ref a2), (.ref a1)])) rfl (by rw [hml]; rfl) (Steps.refl _) (argsL := []) (rest := [(.long (-9223372036854775808 : Int64)), (.ref a4), (.ref a3), (.ref a2), (.ref a1)]) (lenOf pd_3 rfl) rfl (by show 2 * 0 + _ ≤ _; exact Nat.le_of_eq rfl) (hb hby d5_8) (fun _ _ => ⟨rfl, e0, (by decide : 0 + 0 ≤ _), (by decide : 0 + 0 ≤ _)⟩)
  dsimp only [Pt.U, Pt.locs, Pt.cells, Pt.slots] at X1 l1 y1 z1 st1 hQ1
  subst l1 y1 z1
  obtain ⟨rfl, Nq1, K1q⟩ := hQ1
  have N1 := Fr.app N0 Nq1
  obtain ⟨T2, h2, k2, c2, X2, e2, E2, A2, O2, Z2, I2, st2⟩ := gridM X1 hx hZ (C := "[J") (ad := "[[J") (ty := .long) hown (by decide) (by decide) (ow hw 44 rfl) (ow hw 45 rfl) (ow hw 46 rfl) K1q (g := (mkF m 14 #[(vr a1), (vr a2), (vr a3), (vr a4)] [(.int 0), (.int 0), (.long (-9223372036854775808 : Int64)), (.ref a4), (.ref a3), (.ref a2), (.ref a1)])) rfl (hb hby d5_14) rfl (by decide) (by decide) (xs := []) (N := 0) (by decide) rfl (cap := 0) (by decide) (by decide) (by decide) rfl rfl (by decide) (by decide)
  obtain ⟨b2, g2⟩ : ∃ z, z = h0.size := ⟨_, rfl⟩
  rw [← g2] at A2 Z2  st2
  have ne3 : a1 ≠ b2 := Nat.ne_of_lt (Nat.lt_of_lt_of_le P0.lt (Nat.le_of_eq g2.symm))
  have ne4 : a2 ≠ b2 := Nat.ne_of_lt (Nat.lt_of_lt_of_le P6.lt (Nat.le_of_eq g2.symm))
  have ne5 : a3 ≠ b2 := Nat.ne_of_lt (Nat.lt_of_lt_of_le P10.lt (Nat.le_of_eq g2.symm))
  have ne6 : a4 ≠ b2 := Nat.ne_of_lt (Nat.lt_of_lt_of_le P14.lt (Nat.le_of_eq g2.symm))
  have g7 : n0 ≤ b2 := Nat.le_trans (own_sz O0) (Nat.le_of_eq g2.symm)
  have sz8 : h0.size ≤ b2 := Nat.le_trans K0.1 (Nat.le_of_eq g2.symm)
  have O9 : Old Z n0 h2 := O0.ext E2
  have K9 : Keep h0 h2 [a1] := K0.ext E2
  have V2 : Arv Z h2 b2 k2 (.array .long) (0 : Int32) ([]) .null := A2
  have f10 : Exa Z h2 a1 s4n := (P0.ext E2)
  have f11 : Fld Z h2 a1 s4n "conflicts" s7n .null := (P1.ext E2)
  have f12 : Fld Z h2 a1 s4n "entered" "[[J" .null := (P2.ext E2)
  have f13 : Fld Z h2 a1 s4n "moment" "J" (.long 0) := (P3.ext E2)
  have f14 : Fld Z h2 a1 s4n "resources" s7n .null := (P4.ext E2)
  have f15 : Fld Z h2 a1 s4n "trains" s7n .null := (P5.ext E2)
  have f16 : Exa Z h2 a2 s0n := (P6.ext E2)
  have f17 : Fld Z h2 a2 s0n "size" "I" (.int 0) := (P9.ext E2)
  have f18 : Exa Z h2 a3 s0n := (P10.ext E2)
  have f19 : Fld Z h2 a3 s0n "size" "I" (.int 0) := (P13.ext E2)
  have f20 : Exa Z h2 a4 s0n := (P14.ext E2)
  have f21 : Fld Z h2 a4 s0n "size" "I" (.int 0) := (P17.ext E2)
  obtain ⟨_, _, ⟨T22, L22, k22, n22⟩, -, X22, ⟨Lc22, hQ22, l22, y22, z22⟩, st22⟩ := X2.specialBack hx (y := M10) rfl hown (mvT hZ (ow hw 47 rfl)) (mvT hZ (ow hw 48 rfl)) (mvT hZ (ow hw 49 rfl)) (by decide) (backOf (W := 0) (au7_2 l Z a0 hw [] wDEFAULTCAPACITY_EMPTY_ELEMENTDATA wEMPTY_LIST hS a1 a2 a3 a4 b2 h2 n0 O9 f10 f11 f12 f13 f14 f15 f16 f17 f18 f19 f20 f21 P18 P19 P24 P25) hZ (ow hw 49 rfl) (ow hw 2 rfl) (by decide) (by decide)) (g := (mkF m 18 #[(vr a1), (vr a2), (vr a3), (vr a4)] [(.ref b2), (.long (-9223372036854775808 : Int64)), (.ref a4), (.ref a3), (.ref a2), (.ref a1)])) rfl (by rw [hml]; rfl) (Steps.refl _) (a := a1) (argsL := [(.ref a2), (.ref a3), (.ref a4), (.long (-9223372036854775808 : Int64)), (.ref b2)]) (rest := []) (lenOf pd_5 rfl) rfl (by show 2 * 0 + _ ≤ _; exact Nat.le_of_eq rfl) (hb hby d5_18) (fun _ _ => ⟨rfl, e2, (by decide : 1 + 0 ≤ _), (by decide : 0 + 0 ≤ _)⟩)
  dsimp only [Pt.U, Pt.locs, Pt.cells, Pt.slots] at X22 l22 y22 z22 st22 hQ22
  subst l22 y22 z22
  obtain ⟨rfl, Nq22, K22q, p22_0, p22_1, p22_2, p22_3, p22_4, p22_5⟩ := hQ22
  have N22 := Fr.app N1 Nq22
  have O23 : Old Z n0 T22.heap := O9.keep K22q (allS P19 all0)
  have K23 : Keep h0 T22.heap [a1] := K9.trans K22q (allS (Or.inl (List.mem_of_getElem? (i := 0) rfl)) all0)
  have f24 : Exa Z T22.heap b2 "[[J" := (Z2.keep K22q)
  have f25 : Arv Z T22.heap b2 k2 (.array .long) (0 : Int32) ([]) .null := (V2.keep K22q (ninS (Ne.symm ne3) nin0))
  obtain ⟨fs, hr, hrun, hended, hW, hsame⟩ := X22.leave (v := none) (fun _ => rfl)
  refine ⟨_, _, pre0 _ ?_, hrun, hended, _, _, rfl, ?_, ⟨_, rfl⟩, hW, hsame.mono (by decide) (by decide)⟩
  · skip
    show Steps p.tables e below (s₁.setTop (mkF m 0 #[(vr a1), (vr a2), (vr a3), (vr a4)] [])) _
    refine XS.aloadN X0.here hx rfl (hb hby d5_0) rfl rfl ?_
    refine XS.aloadN X0.here hx rfl (hb hby d5_1) rfl rfl ?_
    refine XS.aloadN X0.here hx rfl (hb hby d5_2) rfl rfl ?_
    refine XS.aloadN X0.here hx rfl (hb hby d5_3) rfl rfl ?_
    refine X0.ldc2Long hx hown (mvT hZ (ow hw 32 rfl)) (g := (mkF m 4 #[(vr a1), (vr a2), (vr a3), (vr a4)] [(.ref a4), (.ref a3), (.ref a2), (.ref a1)])) rfl (hb hby d5_4) _ ?_
    show Steps p.tables e below (s₁.setTop (mkF m 7 #[(vr a1), (vr a2), (vr a3), (vr a4)] [(.long (-9223372036854775808 : Int64)), (.ref a4), (.ref a3), (.ref a2), (.ref a1)])) _
    refine XS.aloadN X0.here hx rfl (hb hby d5_7) rfl rfl ?_
    refine st1.trans ?_
    refine XS.iconst X1.here hx rfl (hb hby d5_13) ?_
    refine st2 _ ?_
    refine st22.trans ?_
    show Steps p.tables e below (T22.setTop (mkF m 21 #[(vr a1), (vr a2), (vr a3), (vr a4)] [])) _
    exact X22.returnOut hx hret0 (hb hby d5_21) hr
  · show Q_au5_1 Z wDEFAULTCAPACITY_EMPTY_ELEMENTDATA wEMPTY_LIST a1 a2 a3 a4 h0 n0 _ T22.heap _
    exact ⟨b2, k2, rfl, N22, K23, p22_0, p22_1, p22_2, p22_3, p22_4, p22_5, sz8, f24, f25, O2⟩
theorem ef_au14_1 (m : MethodId) (x0 : Addr) (x1 : Int64) (x2 : Addr) (x3 : Addr)  : entryFrame m #[(.ref x0), (.long x1), (.ref x2), (.ref x3)] 11 = mkF m 0 #[(vr x0), (vl x1), .second, (vr x2), (vr x3), .unset, .unset, .unset, .unset, .unset, .unset] [] := by first | (simp [entryFrame, mkF, argsToLocals, Value.category]; done) | rfl
theorem ef_au7_3 (m : MethodId) (x0 : Addr) (x1 : Addr) (x2 : Addr) (x3 : Addr) (x4 : Int64) (x5 : Addr)  : entryFrame m #[(.ref x0), (.ref x1), (.ref x2), (.ref x3), (.long x4), (.ref x5)] 7 = mkF m 0 #[(vr x0), (vr x1), (vr x2), (vr x3), (vl x4), .second, (vr x5)] [] := by first | (simp [entryFrame, mkF, argsToLocals, Value.category]; done) | rfl
theorem ef_au8_2 (m : MethodId) (x0 : Addr)  : entryFrame m #[(.ref x0)] 1 = mkF m 0 #[(vr x0)] [] := by first | (simp [entryFrame, mkF, argsToLocals, Value.category]; done) | rfl
def Q_au8_2 (Z : State) (wDEFAULTCAPACITY_EMPTY_ELEMENTDATA : Addr) (wEMPTY_LIST : Addr)  (h0 : Heap) (n0 : Nat) (v : Option Value) (h : Heap) (L : List Loc) : Prop := v = some (.ref wEMPTY_LIST) ∧ Fr n0 L ∧ h = h0
theorem au8_2 (l : Launch) (Z : State) (a0 : Array Value) (hw : ∀ d ∈ tables_1, d.before a0 Z = true) (ws : List Jvm.Cond) (wDEFAULTCAPACITY_EMPTY_ELEMENTDATA : Addr) (wEMPTY_LIST : Addr) (hS : SS Z wDEFAULTCAPACITY_EMPTY_ELEMENTDATA wEMPTY_LIST)  (h0 : Heap) (n0 : Nat) (O0 : Old Z n0 h0)  :
    MetB l M9 jdk_40_method_48_code 1 (some (.object s3n)) ws (rmk 1 0 0 13) Z h0 #[(.ref wEMPTY_LIST)] (Q_au8_2 Z wDEFAULTCAPACITY_EMPTY_ELEMENTDATA wEMPTY_LIST  h0 n0) := by
  refine own_body (plainFor_of_name pn_java_util_List) ?_
  intro p e s m below meth c s₁ hx hby hml hown hnm hret0 hlk0 hZ X0 e0
  have N0 := Fr.nil n0
  have pre0 : ∀ t, Steps p.tables e below (s₁.setTop (mkF m 0 #[(vr wEMPTY_LIST)] [])) t → Steps p.tables e below (s₁.setTop (entryFrame m #[(.ref wEMPTY_LIST)] 1)) t := fun t k => castTop (ef_au8_2 m wEMPTY_LIST) k
  have hS0 := hS
  obtain ⟨S_wDEFAULTCAPACITY_EMPTY_ELEMENTDATA, E_wDEFAULTCAPACITY_EMPTY_ELEMENTDATA, S_wEMPTY_LIST, E_wEMPTY_LIST, F_allowNulls_wEMPTY_LIST⟩ := hS0
  obtain ⟨_, _, ⟨T1, L1, k1, n1⟩, -, X1, ⟨Lc1, hQ1, l1, y1, z1⟩, st1⟩ := Jvm.LawKit.callS X0 hx (y := M0) hown (mvT hZ (ow hw 55 rfl)) (mvT hZ (ow hw 56 rfl)) (mvT hZ (ow hw 57 rfl)) (mvT hZ (ow hw 58 rfl)) (by decide) (backOf (W := 0) (rmLCN l Z a0 hw [] wDEFAULTCAPACITY_EMPTY_ELEMENTDATA wEMPTY_LIST hS  h0 n0 O0 ) hZ (ow hw 58 rfl) (ow hw 57 rfl) (by decide) (by decide)) (g := (mkF m 1 #[(vr wEMPTY_LIST)] [(.ref wEMPTY_LIST)])) rfl (by rw [hml]; rfl) (argsL := [(.ref wEMPTY_LIST)]) (rest := []) (lenOf pd_4 rfl) rfl (by show 2 * 0 + _ ≤ _; exact Nat.le_of_eq rfl) (hb hby d8_1) (fun _ _ => ⟨rfl, e0, (by decide : 0 + 0 ≤ _), (by decide : 0 + 0 ≤ _)⟩)
  dsimp only [Pt.U, Pt.locs, Pt.cells, Pt.slots] at X1 l1 y1 z1 st1 hQ1
  subst l1 y1 z1
  obtain ⟨rfl, Nq1, K1q⟩ := hQ1
  have N1 := Fr.app N0 Nq1
  obtain ⟨fs, hr, hrun, hended, hW, hsame⟩ := X1.leave (v := some (.ref wEMPTY_LIST)) (fun h => by rw [hret0] at h; cases h)
  refine ⟨_, _, pre0 _ ?_, hrun, hended, _, _, rfl, ?_, ⟨_, rfl⟩, hW, hsame.mono (by decide) (by decide)⟩
  · skip
    show Steps p.tables e below (s₁.setTop (mkF m 0 #[(vr wEMPTY_LIST)] [])) _
    refine XS.aloadN X0.here hx rfl (hb hby d8_0) rfl rfl ?_
    refine st1 _ ?_
    jvm_step X1.here [X1.here.top, hx, (hb hby d8_4), X1.method', hret0, Value.isRef, FieldType.isReference]
    first | (intro acts; rw [hr _ acts rfl rfl rfl]) | rw [hr _ _ rfl rfl rfl]
    exact Steps.refl _
  · show Q_au8_2 Z wDEFAULTCAPACITY_EMPTY_ELEMENTDATA wEMPTY_LIST  h0 n0 _ T1.heap _
    rw [K1q]
    exact ⟨rfl, N1, rfl⟩
def Q_au7_3 (Z : State) (wDEFAULTCAPACITY_EMPTY_ELEMENTDATA : Addr) (wEMPTY_LIST : Addr) (a1 : Addr) (a2 : Addr) (q3 : Int64) (a4 : Addr) (h0 : Heap) (n0 : Nat) (v : Option Value) (h : Heap) (L : List Loc) : Prop := v = none ∧ Fr n0 L ∧ Keep h0 h [a1] ∧ Exa Z h a1 s4n ∧ Fld Z h a1 s4n "conflicts" s7n (.ref wEMPTY_LIST) ∧ Fld Z h a1 s4n "entered" "[[J" (.ref a4) ∧ Fld Z h a1 s4n "moment" "J" (.long q3) ∧ Fld Z h a1 s4n "resources" s7n (.ref wEMPTY_LIST) ∧ Fld Z h a1 s4n "trains" s7n (.ref wEMPTY_LIST)
theorem au7_3 (l : Launch) (Z : State) (a0 : Array Value) (hw : ∀ d ∈ tables_1, d.before a0 Z = true) (ws : List Jvm.Cond) (wDEFAULTCAPACITY_EMPTY_ELEMENTDATA : Addr) (wEMPTY_LIST : Addr) (hS : SS Z wDEFAULTCAPACITY_EMPTY_ELEMENTDATA wEMPTY_LIST) (a1 : Addr) (a2 : Addr) (q3 : Int64) (a4 : Addr) (h0 : Heap) (n0 : Nat) (O0 : Old Z n0 h0) (P0 : Exa Z h0 a1 s4n) (P1 : Fld Z h0 a1 s4n "conflicts" s7n .null) (P2 : Fld Z h0 a1 s4n "entered" "[[J" .null) (P3 : Fld Z h0 a1 s4n "moment" "J" (.long 0)) (P4 : Fld Z h0 a1 s4n "resources" s7n .null) (P5 : Fld Z h0 a1 s4n "trains" s7n .null) (P6 : Exa Z h0 a2 s0n) (P9 : Fld Z h0 a2 s0n "size" "I" (.int 0)) (P13 : asg Z s0n s2n false) (P14 : n0 ≤ a1) (P17 : a1 ≠ a2) :
    MetB l M10 prog_51_method_2_code 7 none ws (rmk 3 0 0 38) Z h0 #[(.ref a1), (.ref wEMPTY_LIST), (.ref wEMPTY_LIST), (.ref a2), (.long q3), (.ref a4)] (Q_au7_3 Z wDEFAULTCAPACITY_EMPTY_ELEMENTDATA wEMPTY_LIST a1 a2 q3 a4 h0 n0) := by
  refine own_body (plainFor_of_name pn_com_example_loopline_loopline_engine_Scenario) ?_
  intro p e s m below meth c s₁ hx hby hml hown hnm hret0 hlk0 hZ X0 e0
  have N0 := Fr.nil n0
  have pre0 : ∀ t, Steps p.tables e below (s₁.setTop (mkF m 0 #[(vr a1), (vr wEMPTY_LIST), (vr wEMPTY_LIST), (vr a2), (vl q3), .second, (vr a4)] [])) t → Steps p.tables e below (s₁.setTop (entryFrame m #[(.ref a1), (.ref wEMPTY_LIST), (.ref wEMPTY_LIST), (.ref a2), (.long q3), (.ref a4)] 7)) t := fun t k => castTop (ef_au7_3 m a1 wEMPTY_LIST wEMPTY_LIST a2 q3 a4) k
  have K0 := Keep.refl h0 [a1]
  have hS0 := hS
  obtain ⟨S_wDEFAULTCAPACITY_EMPTY_ELEMENTDATA, E_wDEFAULTCAPACITY_EMPTY_ELEMENTDATA, S_wEMPTY_LIST, E_wEMPTY_LIST, F_allowNulls_wEMPTY_LIST⟩ := hS0
  obtain ⟨T1, X1, e1, st1⟩ := initO X0 hx hZ hown (ow hw 50 rfl) (ow hw 22 rfl) (ow hw 23 rfl) e0 (g := (mkF m 1 #[(vr a1), (vr wEMPTY_LIST), (vr wEMPTY_LIST), (vr a2), (vl q3), .second, (vr a4)] [(.ref a1)])) rfl (by rw [hml]; rfl) rfl (hb hby d7_1) (by decide) (W := 0) (by show 2 * 0 + _ ≤ _; exact Nat.le_of_eq rfl) (by decide)
  obtain ⟨_, _, ⟨T2, L2, k2, n2⟩, -, X2, ⟨Lc2, hQ2, l2, y2, z2⟩, st2⟩ := Jvm.LawKit.callS X1 hx (y := M9) hown (mvT hZ (ow hw 51 rfl)) (mvT hZ (ow hw 52 rfl)) (mvT hZ (ow hw 53 rfl)) (mvT hZ (ow hw 54 rfl)) (by decide) (backOf (W := 1) (au8_2 l Z a0 hw [] wDEFAULTCAPACITY_EMPTY_ELEMENTDATA wEMPTY_LIST hS  h0 n0 O0 ) hZ (ow hw 54 rfl) (ow hw 53 rfl) (by decide) (by decide)) (g := (mkF m 6 #[(vr a1), (vr wEMPTY_LIST), (vr wEMPTY_LIST), (vr a2), (vl q3), .second, (vr a4)] [(.ref wEMPTY_LIST), (.ref a1)])) rfl (by rw [hml]; rfl) (argsL := [(.ref wEMPTY_LIST)]) (rest := [(.ref a1)]) (lenOf pd_4 rfl) rfl (by show 2 * 0 + _ ≤ _; exact Nat.le_of_eq rfl) (hb hby d7_6) (fun _ _ => ⟨rfl, e1, (by decide : 0 + 0 ≤ _), (by decide : 0 + 0 ≤ _)⟩)
  dsimp only [Pt.U, Pt.locs, Pt.cells, Pt.slots] at X2 l2 y2 z2 st2 hQ2
  subst l2 y2 z2
  obtain ⟨rfl, Nq2, K2q⟩ := hQ2
  have N2 := Fr.app N0 Nq2
  obtain ⟨T3, h3, X3, e3, W3, st3⟩ := putF X2 hx hZ hown (host := "") (Or.inl (ow hw 78 rfl)) Via.refl K2q P4 P0 (Or.inr ⟨(ow hw 79 rfl), rfl, hnm⟩) (ow hw 1 rfl) (ty := (.object s3n)) (by decide) rfl rfl (g := (mkF m 9 #[(vr a1), (vr wEMPTY_LIST), (vr wEMPTY_LIST), (vr a2), (vl q3), .second, (vr a4)] [(.ref wEMPTY_LIST), (.ref a1)])) rfl rfl (hb hby d7_9)
  have N3 := Fr.snoc X3 N2 P14
  have O4 : Old Z n0 h3 := O0.wr W3 P14
  have K4 : Keep h0 h3 [a1] := K0.wr W3 (Or.inl (List.mem_of_getElem? (i := 0) rfl))
  have Fw3 : Fld Z h3 a1 s4n "resources" s7n (.ref wEMPTY_LIST) := P4.same W3
  obtain ⟨_, _, ⟨T5, L5, k5, n5⟩, -, X5, ⟨Lc5, hQ5, l5, y5, z5⟩, st5⟩ := Jvm.LawKit.callS X3 hx (y := M9) hown (mvT hZ (ow hw 51 rfl)) (mvT hZ (ow hw 52 rfl)) (mvT hZ (ow hw 53 rfl)) (mvT hZ (ow hw 54 rfl)) (by decide) (backOf (W := 1) (au8_2 l Z a0 hw [] wDEFAULTCAPACITY_EMPTY_ELEMENTDATA wEMPTY_LIST hS  h3 n0 O4 ) hZ (ow hw 54 rfl) (ow hw 53 rfl) (by decide) (by decide)) (g := (mkF m 14 #[(vr a1), (vr wEMPTY_LIST), (vr wEMPTY_LIST), (vr a2), (vl q3), .second, (vr a4)] [(.ref wEMPTY_LIST), (.ref a1)])) rfl (by rw [hml]; rfl) (argsL := [(.ref wEMPTY_LIST)]) (rest := [(.ref a1)]) (lenOf pd_4 rfl) rfl (by show 2 * 0 + _ ≤ _; exact Nat.le_of_eq rfl) (hb hby d7_14) (fun _ _ => ⟨rfl, e3, (by decide : 0 + 0 ≤ _), (by decide : 0 + 0 ≤ _)⟩)
  dsimp only [Pt.U, Pt.locs, Pt.cells, Pt.slots] at X5 l5 y5 z5 st5 hQ5
  subst l5 y5 z5
  obtain ⟨rfl, Nq5, K5q⟩ := hQ5
  have N5 := Fr.app N3 Nq5
  have f6 : Exa Z h3 a1 s4n := (P0.wr W3)
  have f7 : Fld Z h3 a1 s4n "conflicts" s7n .null := (P1.other W3 (Or.inr (slot_ne (Or.inr (ow hw 81 rfl)) (Or.inr (ow hw 79 rfl)) (by decide) (t := (.object s3n)) (t' := (.object s3n)) (by decide) (by decide))))
  obtain ⟨T8, h8, X8, e8, W8, st8⟩ := putF X5 hx hZ hown (host := "") (Or.inl (ow hw 80 rfl)) Via.refl K5q f7 f6 (Or.inr ⟨(ow hw 81 rfl), rfl, hnm⟩) (ow hw 1 rfl) (ty := (.object s3n)) (by decide) rfl rfl (g := (mkF m 17 #[(vr a1), (vr wEMPTY_LIST), (vr wEMPTY_LIST), (vr a2), (vl q3), .second, (vr a4)] [(.ref wEMPTY_LIST), (.ref a1)])) rfl rfl (hb hby d7_17)
  have N8 := Fr.snoc X8 N5 P14
  have O9 : Old Z n0 h8 := O4.wr W8 P14
  have K9 : Keep h0 h8 [a1] := K4.wr W8 (Or.inl (List.mem_of_getElem? (i := 0) rfl))
  have Fw8 : Fld Z h8 a1 s4n "conflicts" s7n (.ref wEMPTY_LIST) := f7.same W8
  have f10 : Exa Z h8 a2 s0n := ((P6.wr W3).wr W8)
  have f11 : Fld Z h8 a2 s0n "size" "I" (.int 0) := ((P9.other W3 (Or.inl (Ne.symm P17))).other W8 (Or.inl (Ne.symm P17)))
  obtain ⟨_, _, ⟨T12, L12, k12, n12⟩, -, X12, ⟨Lc12, hQ12, l12, y12, z12⟩, st12⟩ := Jvm.LawKit.callS X8 hx (y := M9) hown (mvT hZ (ow hw 51 rfl)) (mvT hZ (ow hw 52 rfl)) (mvT hZ (ow hw 53 rfl)) (mvT hZ (ow hw 54 rfl)) (by decide) (backOf (W := 1) (au8_1 l Z a0 hw [] wDEFAULTCAPACITY_EMPTY_ELEMENTDATA wEMPTY_LIST hS a2 h8 n0 O9 f10 f11 P13) hZ (ow hw 54 rfl) (ow hw 53 rfl) (by decide) (by decide)) (g := (mkF m 22 #[(vr a1), (vr wEMPTY_LIST), (vr wEMPTY_LIST), (vr a2), (vl q3), .second, (vr a4)] [(.ref a2), (.ref a1)])) rfl (by rw [hml]; rfl) (argsL := [(.ref a2)]) (rest := [(.ref a1)]) (lenOf pd_4 rfl) rfl (by show 2 * 0 + _ ≤ _; exact Nat.le_of_eq rfl) (hb hby d7_22) (fun _ _ => ⟨rfl, e8, (by decide : 0 + 0 ≤ _), (by decide : 0 + 0 ≤ _)⟩)
  dsimp only [Pt.U, Pt.locs, Pt.cells, Pt.slots] at X12 l12 y12 z12 st12 hQ12
  subst l12 y12 z12
  obtain ⟨rfl, Nq12, K12q⟩ := hQ12
  have N12 := Fr.app N8 Nq12
  have f13 : Exa Z h8 a1 s4n := (f6.wr W8)
  have f14 : Fld Z h8 a1 s4n "trains" s7n .null := ((P5.other W3 (Or.inr (slot_ne (Or.inr (ow hw 83 rfl)) (Or.inr (ow hw 79 rfl)) (by decide) (t := (.object s3n)) (t' := (.object s3n)) (by decide) (by decide)))).other W8 (Or.inr (slot_ne (Or.inr (ow hw 83 rfl)) (Or.inr (ow hw 81 rfl)) (by decide) (t := (.object s3n)) (t' := (.object s3n)) (by decide) (by decide))))
  obtain ⟨T15, h15, X15, e15, W15, st15⟩ := putF X12 hx hZ hown (host := "") (Or.inl (ow hw 82 rfl)) Via.refl K12q f14 f13 (Or.inr ⟨(ow hw 83 rfl), rfl, hnm⟩) (ow hw 1 rfl) (ty := (.object s3n)) (by decide) rfl rfl (g := (mkF m 25 #[(vr a1), (vr wEMPTY_LIST), (vr wEMPTY_LIST), (vr a2), (vl q3), .second, (vr a4)] [(.ref wEMPTY_LIST), (.ref a1)])) rfl rfl (hb hby d7_25)
  have N15 := Fr.snoc X15 N12 P14
  have O16 : Old Z n0 h15 := O9.wr W15 P14
  have K16 : Keep h0 h15 [a1] := K9.wr W15 (Or.inl (List.mem_of_getElem? (i := 0) rfl))
  have Fw15 : Fld Z h15 a1 s4n "trains" s7n (.ref wEMPTY_LIST) := f14.same W15
  have f17 : Exa Z h15 a1 s4n := (f13.wr W15)
  have f18 : Fld Z h15 a1 s4n "moment" "J" (.long 0) := (((P3.other W3 (Or.inr (slot_ne (Or.inr (ow hw 85 rfl)) (Or.inr (ow hw 79 rfl)) (by decide) (t := .long) (t' := (.object s3n)) (by decide) (by decide)))).other W8 (Or.inr (slot_ne (Or.inr (ow hw 85 rfl)) (Or.inr (ow hw 81 rfl)) (by decide) (t := .long) (t' := (.object s3n)) (by decide) (by decide)))).other W15 (Or.inr (slot_ne (Or.inr (ow hw 85 rfl)) (Or.inr (ow hw 83 rfl)) (by decide) (t := .long) (t' := (.object s3n)) (by decide) (by decide))))
  obtain ⟨T19, h19, X19, e19, W19, st19⟩ := putF X15 hx hZ hown (host := "") (Or.inl (ow hw 84 rfl)) Via.refl e15 f18 f17 (Or.inr ⟨(ow hw 85 rfl), rfl, hnm⟩) (ow hw 1 rfl) (ty := .long) (by decide) rfl rfl (g := (mkF m 31 #[(vr a1), (vr wEMPTY_LIST), (vr wEMPTY_LIST), (vr a2), (vl q3), .second, (vr a4)] [(.long q3), (.ref a1)])) rfl rfl (hb hby d7_31)
  have N19 := Fr.snoc X19 N15 P14
  have O20 : Old Z n0 h19 := O16.wr W19 P14
  have K20 : Keep h0 h19 [a1] := K16.wr W19 (Or.inl (List.mem_of_getElem? (i := 0) rfl))
  have Fw19 : Fld Z h19 a1 s4n "moment" "J" (.long q3) := f18.same W19
  have f21 : Exa Z h19 a1 s4n := (f17.wr W19)
  have f22 : Fld Z h19 a1 s4n "entered" "[[J" .null := ((((P2.other W3 (Or.inr (slot_ne (Or.inr (ow hw 87 rfl)) (Or.inr (ow hw 79 rfl)) (by decide) (t := (.array (.array .long))) (t' := (.object s3n)) (by decide) (by decide)))).other W8 (Or.inr (slot_ne (Or.inr (ow hw 87 rfl)) (Or.inr (ow hw 81 rfl)) (by decide) (t := (.array (.array .long))) (t' := (.object s3n)) (by decide) (by decide)))).other W15 (Or.inr (slot_ne (Or.inr (ow hw 87 rfl)) (Or.inr (ow hw 83 rfl)) (by decide) (t := (.array (.array .long))) (t' := (.object s3n)) (by decide) (by decide)))).other W19 (Or.inr (slot_ne (Or.inr (ow hw 87 rfl)) (Or.inr (ow hw 85 rfl)) (by decide) (t := (.array (.array .long))) (t' := .long) (by decide) (by decide))))
  obtain ⟨T23, h23, X23, e23, W23, st23⟩ := putF X19 hx hZ hown (host := "") (Or.inl (ow hw 86 rfl)) Via.refl e19 f22 f21 (Or.inr ⟨(ow hw 87 rfl), rfl, hnm⟩) (ow hw 1 rfl) (ty := (.array (.array .long))) (by decide) rfl rfl (g := (mkF m 37 #[(vr a1), (vr wEMPTY_LIST), (vr wEMPTY_LIST), (vr a2), (vl q3), .second, (vr a4)] [(.ref a4), (.ref a1)])) rfl rfl (hb hby d7_37)
  have N23 := Fr.snoc X23 N19 P14
  have O24 : Old Z n0 h23 := O20.wr W23 P14
  have K24 : Keep h0 h23 [a1] := K20.wr W23 (Or.inl (List.mem_of_getElem? (i := 0) rfl))
  have Fw23 : Fld Z h23 a1 s4n "entered" "[[J" (.ref a4) := f22.same W23
  have f25 : Exa Z h23 a1 s4n := (f21.wr W23)
  have f26 : Fld Z h23 a1 s4n "conflicts" s7n (.ref wEMPTY_LIST) := (((Fw8.other W15 (Or.inr (slot_ne (Or.inr (ow hw 81 rfl)) (Or.inr (ow hw 83 rfl)) (by decide) (t := (.object s3n)) (t' := (.object s3n)) (by decide) (by decide)))).other W19 (Or.inr (slot_ne (Or.inr (ow hw 81 rfl)) (Or.inr (ow hw 85 rfl)) (by decide) (t := (.object s3n)) (t' := .long) (by decide) (by decide)))).other W23 (Or.inr (slot_ne (Or.inr (ow hw 81 rfl)) (Or.inr (ow hw 87 rfl)) (by decide) (t := (.object s3n)) (t' := (.array (.array .long))) (by decide) (by decide))))
  have f27 : Fld Z h23 a1 s4n "moment" "J" (.long q3) := (Fw19.other W23 (Or.inr (slot_ne (Or.inr (ow hw 85 rfl)) (Or.inr (ow hw 87 rfl)) (by decide) (t := .long) (t' := (.array (.array .long))) (by decide) (by decide))))
  have f28 : Fld Z h23 a1 s4n "resources" s7n (.ref wEMPTY_LIST) := ((((Fw3.other W8 (Or.inr (slot_ne (Or.inr (ow hw 79 rfl)) (Or.inr (ow hw 81 rfl)) (by decide) (t := (.object s3n)) (t' := (.object s3n)) (by decide) (by decide)))).other W15 (Or.inr (slot_ne (Or.inr (ow hw 79 rfl)) (Or.inr (ow hw 83 rfl)) (by decide) (t := (.object s3n)) (t' := (.object s3n)) (by decide) (by decide)))).other W19 (Or.inr (slot_ne (Or.inr (ow hw 79 rfl)) (Or.inr (ow hw 85 rfl)) (by decide) (t := (.object s3n)) (t' := .long) (by decide) (by decide)))).other W23 (Or.inr (slot_ne (Or.inr (ow hw 79 rfl)) (Or.inr (ow hw 87 rfl)) (by decide) (t := (.object s3n)) (t' := (.array (.array .long))) (by decide) (by decide))))
  have f29 : Fld Z h23 a1 s4n "trains" s7n (.ref wEMPTY_LIST) := ((Fw15.other W19 (Or.inr (slot_ne (Or.inr (ow hw 83 rfl)) (Or.inr (ow hw 85 rfl)) (by decide) (t := (.object s3n)) (t' := .long) (by decide) (by decide)))).other W23 (Or.inr (slot_ne (Or.inr (ow hw 83 rfl)) (Or.inr (ow hw 87 rfl)) (by decide) (t := (.object s3n)) (t' := (.array (.array .long))) (by decide) (by decide))))
  obtain ⟨fs, hr, hrun, hended, hW, hsame⟩ := X23.leave (v := none) (fun _ => rfl)
  refine ⟨_, _, pre0 _ ?_, hrun, hended, _, _, rfl, ?_, ⟨_, rfl⟩, hW, hsame.mono (by decide) (by decide)⟩
  · skip
    show Steps p.tables e below (s₁.setTop (mkF m 0 #[(vr a1), (vr wEMPTY_LIST), (vr wEMPTY_LIST), (vr a2), (vl q3), .second, (vr a4)] [])) _
    refine XS.aloadN X0.here hx rfl (hb hby d7_0) rfl rfl ?_
    refine st1 _ ?_
    refine XS.aloadN X1.here hx rfl (hb hby d7_4) rfl rfl ?_
    refine XS.aloadN X1.here hx rfl (hb hby d7_5) rfl rfl ?_
    refine st2 _ ?_
    show Steps p.tables e below (T2.setTop (mkF m 9 #[(vr a1), (vr wEMPTY_LIST), (vr wEMPTY_LIST), (vr a2), (vl q3), .second, (vr a4)] [(.ref wEMPTY_LIST), (.ref a1)])) _
    refine st3 _ ?_
    refine XS.aloadN X3.here hx rfl (hb hby d7_12) rfl rfl ?_
    refine XS.aloadN X3.here hx rfl (hb hby d7_13) rfl rfl ?_
    refine st5 _ ?_
    refine st8 _ ?_
    show Steps p.tables e below (T8.setTop (mkF m 20 #[(vr a1), (vr wEMPTY_LIST), (vr wEMPTY_LIST), (vr a2), (vl q3), .second, (vr a4)] [])) _
    refine XS.aloadN X8.here hx rfl (hb hby d7_20) rfl rfl ?_
    refine XS.aloadN X8.here hx rfl (hb hby d7_21) rfl rfl ?_
    refine st12 _ ?_
    refine st15 _ ?_
    refine XS.aloadN X15.here hx rfl (hb hby d7_28) rfl rfl ?_
    show Steps p.tables e below (T15.setTop (mkF m 29 #[(vr a1), (vr wEMPTY_LIST), (vr wEMPTY_LIST), (vr a2), (vl q3), .second, (vr a4)] [(.ref a1)])) _
    refine XS.lload X15.here hx rfl (hb hby d7_29) rfl ?_
    refine st19 _ ?_
    refine XS.aloadN X19.here hx rfl (hb hby d7_34) rfl rfl ?_
    refine XS.aload X19.here hx rfl (hb hby d7_35) rfl rfl ?_
    refine st23 _ ?_
    show Steps p.tables e below (T23.setTop (mkF m 40 #[(vr a1), (vr wEMPTY_LIST), (vr wEMPTY_LIST), (vr a2), (vl q3), .second, (vr a4)] [])) _
    exact X23.returnOut hx hret0 (hb hby d7_40) hr
  · show Q_au7_3 Z wDEFAULTCAPACITY_EMPTY_ELEMENTDATA wEMPTY_LIST a1 a2 q3 a4 h0 n0 _ T23.heap _
    rw [e23]
    exact ⟨rfl, N23, K24, f25, f26, Fw23, f27, f28, f29⟩
def Q_au14_1 (Z : State) (wDEFAULTCAPACITY_EMPTY_ELEMENTDATA : Addr) (wEMPTY_LIST : Addr) (a1 : Addr) (q2 : Int64) (a3 : Addr) (a4 : Addr) (a5 : Addr) (k6 : ClassId) (h0 : Heap) (n0 : Nat) (v : Option Value) (h : Heap) (L : List Loc) : Prop := ∃ (e1 : Addr) (e2 : Addr) (e3 : ClassId), v = some (.ref e1) ∧ Fr n0 L ∧ Keep h0 h [] ∧ h0.size ≤ e1 ∧ Exa Z h e1 s4n ∧ Fld Z h e1 s4n "conflicts" s7n (.ref wEMPTY_LIST) ∧ Fld Z h e1 s4n "entered" "[[J" (.ref e2) ∧ Fld Z h e1 s4n "moment" "J" (.long q2) ∧ Fld Z h e1 s4n "resources" s7n (.ref wEMPTY_LIST) ∧ Fld Z h e1 s4n "trains" s7n (.ref wEMPTY_LIST) ∧ h0.size ≤ e2 ∧ Exa Z h e2 "[[J" ∧ Arv Z h e2 e3 (.array .long) (0 : Int32) ([]) .null ∧ OvrA Z e3 .long "[J"
theorem au14_1 (l : Launch) (Z : State) (a0 : Array Value) (hw : ∀ d ∈ tables_1, d.before a0 Z = true) (ws : List Jvm.Cond) (wDEFAULTCAPACITY_EMPTY_ELEMENTDATA : Addr) (wEMPTY_LIST : Addr) (hS : SS Z wDEFAULTCAPACITY_EMPTY_ELEMENTDATA wEMPTY_LIST) (a1 : Addr) (q2 : Int64) (a3 : Addr) (a4 : Addr) (a5 : Addr) (k6 : ClassId) (h0 : Heap) (n0 : Nat) (O0 : Old Z n0 h0) (P0 : Exa Z h0 a1 s4n) (P1 : Fld Z h0 a1 s4n "conflicts" s7n (.ref wEMPTY_LIST)) (P4 : Fld Z h0 a1 s4n "resources" s7n (.ref wEMPTY_LIST)) (P6 : Exa Z h0 a3 s0n) (P9 : Fld Z h0 a3 s0n "size" "I" (.int 0)) (P10 : Exa Z h0 a4 s0n) (P13 : Fld Z h0 a4 s0n "size" "I" (.int 0)) (P14 : Arv Z h0 a5 k6 (.array .long) (0 : Int32) ([]) .null) (P17 : asg Z s0n s2n false) :
    MetB l M14 prog_51_method_7_code 11 (some (.object s4n)) ws (rmk 4 2 5 57) Z h0 #[(.ref a1), (.long q2), (.ref a3), (.ref a4)] (Q_au14_1 Z wDEFAULTCAPACITY_EMPTY_ELEMENTDATA wEMPTY_LIST a1 q2 a3 a4 a5 k6 h0 n0) := by
  refine own_body (plainFor_of_name pn_com_example_loopline_loopline_engine_Scenario) ?_
  intro p e s m below meth c s₁ hx hby hml hown hnm hret0 hlk0 hZ X0 e0
  have N0 := Fr.nil n0
  have pre0 : ∀ t, Steps p.tables e below (s₁.setTop (mkF m 0 #[(vr a1), (vl q2), .second, (vr a3), (vr a4), .unset, .unset, .unset, .unset, .unset, .unset] [])) t → Steps p.tables e below (s₁.setTop (entryFrame m #[(.ref a1), (.long q2), (.ref a3), (.ref a4)] 11)) t := fun t k => castTop (ef_au14_1 m a1 q2 a3 a4) k
  have K0 := Keep.refl h0 []
  have hS0 := hS
  obtain ⟨S_wDEFAULTCAPACITY_EMPTY_ELEMENTDATA, E_wDEFAULTCAPACITY_EMPTY_ELEMENTDATA, S_wEMPTY_LIST, E_wEMPTY_LIST, F_allowNulls_wEMPTY_LIST⟩ := hS0
  obtain ⟨cq1, kq1, q1a, q1b, q1c⟩ := isOf hZ e0 P10
  obtain ⟨_, _, ⟨T1, L1, k1, n1⟩, -, X1, ⟨Lc1, hQ1, l1, y1, z1⟩, st1⟩ := X0.interfaceBack hx (xi := M12) (y := M8) hown (mvT hZ (ow hw 33 rfl)) (mvT hZ (ow hw 34 rfl)) (mvT hZ (ow hw 35 rfl)) (mvT hZ (ow hw 36 rfl)) (mvT hZ (ow hw 37 rfl)) (mvT hZ (ow hw 38 rfl)) (mvT hZ (ow hw 39 rfl)) (mvT hZ (ow hw 40 rfl)) (by decide) (backOf (W := 0) (au6_0 l Z a0 hw [] wDEFAULTCAPACITY_EMPTY_ELEMENTDATA wEMPTY_LIST hS a4 h0 n0 O0 P13) hZ (ow hw 41 rfl) (ow hw 5 rfl) (by decide) (by decide)) q1a q1b q1c (g := (mkF m 2 #[(vr a1), (vl q2), .second, (vr a3), (vr a4), .unset, .unset, .unset, .unset, .unset, .unset] [(.ref a4)])) rfl (by rw [hml]; rfl) (Steps.refl _) (argsL := []) (rest := []) (lenOf pd_3 rfl) rfl (by show 2 * 0 + _ ≤ _; exact Nat.le_of_eq rfl) (hb hby d14_2) (fun _ _ => ⟨rfl, e0, (by decide : 0 + 0 ≤ _), (by decide : 0 + 0 ≤ _)⟩)
  dsimp only [Pt.U, Pt.locs, Pt.cells, Pt.slots] at X1 l1 y1 z1 st1 hQ1
  subst l1 y1 z1
  obtain ⟨rfl, Nq1, K1q⟩ := hQ1
  have N1 := Fr.app N0 Nq1
  obtain ⟨cq2, kq2, q2a, q2b, q2c⟩ := isOf hZ K1q P6
  obtain ⟨_, _, ⟨T2, L2, k2, n2⟩, -, X2, ⟨Lc2, hQ2, l2, y2, z2⟩, st2⟩ := X1.interfaceBack hx (xi := M12) (y := M8) hown (mvT hZ (ow hw 33 rfl)) (mvT hZ (ow hw 34 rfl)) (mvT hZ (ow hw 35 rfl)) (mvT hZ (ow hw 36 rfl)) (mvT hZ (ow hw 37 rfl)) (mvT hZ (ow hw 38 rfl)) (mvT hZ (ow hw 39 rfl)) (mvT hZ (ow hw 40 rfl)) (by decide) (backOf (W := 1) (au6_0 l Z a0 hw [] wDEFAULTCAPACITY_EMPTY_ELEMENTDATA wEMPTY_LIST hS a3 h0 n0 O0 P9) hZ (ow hw 41 rfl) (ow hw 5 rfl) (by decide) (by decide)) q2a q2b q2c (g := (mkF m 8 #[(vr a1), (vl q2), .second, (vr a3), (vr a4), .unset, .unset, .unset, .unset, .unset, .unset] [(.ref a3), (.int 0)])) rfl (by rw [hml]; rfl) (Steps.refl _) (argsL := []) (rest := [(.int 0)]) (lenOf pd_3 rfl) rfl (by show 2 * 0 + _ ≤ _; exact Nat.le_of_eq rfl) (hb hby d14_8) (fun _ _ => ⟨rfl, K1q, (by decide : 0 + 0 ≤ _), (by decide : 0 + 0 ≤ _)⟩)
  dsimp only [Pt.U, Pt.locs, Pt.cells, Pt.slots] at X2 l2 y2 z2 st2 hQ2
  subst l2 y2 z2
  obtain ⟨rfl, Nq2, K2q⟩ := hQ2
  have N2 := Fr.app N1 Nq2
  obtain ⟨cq3, kq3, q3a, q3b, q3c⟩ := isOf hZ K2q P6
  obtain ⟨_, _, ⟨T3, L3, k3, n3⟩, -, X3, ⟨Lc3, hQ3, l3, y3, z3⟩, st3⟩ := X2.interfaceBack hx (xi := M12) (y := M8) hown (mvT hZ (ow hw 33 rfl)) (mvT hZ (ow hw 34 rfl)) (mvT hZ (ow hw 35 rfl)) (mvT hZ (ow hw 36 rfl)) (mvT hZ (ow hw 37 rfl)) (mvT hZ (ow hw 38 rfl)) (mvT hZ (ow hw 39 rfl)) (mvT hZ (ow hw 40 rfl)) (by decide) (backOf (W := 0) (au6_0 l Z a0 hw [] wDEFAULTCAPACITY_EMPTY_ELEMENTDATA wEMPTY_LIST hS a3 h0 n0 O0 P9) hZ (ow hw 41 rfl) (ow hw 5 rfl) (by decide) (by decide)) q3a q3b q3c (g := (mkF m 43 #[(vr a1), (vl q2), .second, (vr a3), (vr a4), .unset, .unset, .unset, .unset, .unset, .unset] [(.ref a3)])) rfl (by rw [hml]; rfl) (Steps.refl _) (argsL := []) (rest := []) (lenOf pd_3 rfl) rfl (by show 2 * 0 + _ ≤ _; exact Nat.le_of_eq rfl) (hb hby d14_43) (fun _ _ => ⟨rfl, K2q, (by decide : 0 + 0 ≤ _), (by decide : 0 + 0 ≤ _)⟩)
  dsimp only [Pt.U, Pt.locs, Pt.cells, Pt.slots] at X3 l3 y3 z3 st3 hQ3
  subst l3 y3 z3
  obtain ⟨rfl, Nq3, K3q⟩ := hQ3
  have N3 := Fr.app N2 Nq3
  obtain ⟨T4, h4, k4, X4, e4, E4, A4, Z4, O4, st4⟩ := newRA X3 hx hZ (ty := .long) hown (by decide) (ow hw 104 rfl) (ow hw 45 rfl) K3q (g := (mkF m 48 #[(vr a1), (vl q2), .second, (vr a3), (vr a4), .unset, .unset, .unset, .unset, .unset, .unset] [(.int 0)])) rfl (hb hby d14_48) rfl (by decide) (cap := 0) (by decide) (by decide) (by decide) (by decide) (ad := "[[J") rfl
  obtain ⟨b4, g4⟩ : ∃ z, z = h0.size := ⟨_, rfl⟩
  rw [← g4] at A4 Z4 st4
  have ne5 : a1 ≠ b4 := Nat.ne_of_lt (Nat.lt_of_lt_of_le P0.lt (Nat.le_of_eq g4.symm))
  have ne6 : a3 ≠ b4 := Nat.ne_of_lt (Nat.lt_of_lt_of_le P6.lt (Nat.le_of_eq g4.symm))
  have ne7 : a4 ≠ b4 := Nat.ne_of_lt (Nat.lt_of_lt_of_le P10.lt (Nat.le_of_eq g4.symm))
  have ne8 : a5 ≠ b4 := Nat.ne_of_lt (Nat.lt_of_lt_of_le P14.lt (Nat.le_of_eq g4.symm))
  have g9 : n0 ≤ b4 := Nat.le_trans (own_sz O0) (Nat.le_of_eq g4.symm)
  have sz10 : h0.size ≤ b4 := Nat.le_trans K0.1 (Nat.le_of_eq g4.symm)
  have O11 : Old Z n0 h4 := O0.ext E4
  have K11 : Keep h0 h4 [] := K0.ext E4
  have V4 : Arv Z h4 b4 k4 (.array .long) (0 : Int32) ([]) .null := (Arv.new A4 (by decide)).pad (pad_rep [] .null 0)
  obtain ⟨cl12, Ar12, -, Sz12, Nn12, -, -⟩ := (id V4)
  obtain ⟨T13, h13, X13, e13, E13, A13, D13, -, st13⟩ := newO X4 hx hZ hown (ow hw 105 rfl) (ow hw 1 rfl) (ow hw 2 rfl) e4 (g := (mkF m 297 #[(vr a1), (vl q2), .second, (vr a3), (vr a4), (vr b4), (vi 0), .unset, .unset, .unset, .unset] [])) rfl (hb hby d14_297) (by decide) (by decide)
  obtain ⟨b13, g13⟩ : ∃ z, z = h4.size := ⟨_, rfl⟩
  rw [← g13] at A13 D13 st13
  have f15 : Exa Z h4 a1 s4n := (P0.ext E4)
  have ne14 : a1 ≠ b13 := Nat.ne_of_lt (Nat.lt_of_lt_of_le f15.lt (Nat.le_of_eq g13.symm))
  have f17 : Exa Z h4 a3 s0n := (P6.ext E4)
  have ne16 : a3 ≠ b13 := Nat.ne_of_lt (Nat.lt_of_lt_of_le f17.lt (Nat.le_of_eq g13.symm))
  have f19 : Exa Z h4 a4 s0n := (P10.ext E4)
  have ne18 : a4 ≠ b13 := Nat.ne_of_lt (Nat.lt_of_lt_of_le f19.lt (Nat.le_of_eq g13.symm))
  have f21 : Arv Z h4 a5 k6 (.array .long) (0 : Int32) ([]) .null := (P14.ext E4)
  have ne20 : a5 ≠ b13 := Nat.ne_of_lt (Nat.lt_of_lt_of_le f21.lt (Nat.le_of_eq g13.symm))
  have ne22 : b4 ≠ b13 := Nat.ne_of_lt (Nat.lt_of_lt_of_le V4.lt (Nat.le_of_eq g13.symm))
  have g23 : n0 ≤ b13 := Nat.le_trans (own_sz O11) (Nat.le_of_eq g13.symm)
  have sz24 : h0.size ≤ b13 := Nat.le_trans K11.1 (Nat.le_of_eq g13.symm)
  have O25 : Old Z n0 h13 := O11.ext E13
  have K25 : Keep h0 h13 [] := K11.ext E13
  have f26 : Fld Z h13 b13 s4n "resources" s7n .null := D13 (Or.inr (ow hw 79 rfl)) (ty := (.object s3n)) (by decide)
  have f27 : Fld Z h13 b13 s4n "conflicts" s7n .null := D13 (Or.inr (ow hw 81 rfl)) (ty := (.object s3n)) (by decide)
  have f28 : Fld Z h13 b13 s4n "trains" s7n .null := D13 (Or.inr (ow hw 83 rfl)) (ty := (.object s3n)) (by decide)
  have f29 : Fld Z h13 b13 s4n "moment" "J" (.long 0) := D13 (Or.inr (ow hw 85 rfl)) (ty := .long) (by decide)
  have f30 : Fld Z h13 b13 s4n "entered" "[[J" .null := D13 (Or.inr (ow hw 87 rfl)) (ty := (.array (.array .long))) (by decide)
  have f31 : Fld Z h13 a1 s4n "resources" s7n (.ref wEMPTY_LIST) := ((P4.ext E4).ext E13)
  obtain ⟨T32, X32, e32, st32⟩ := getF X13 hx hZ hown (host := "") (Or.inl (ow hw 78 rfl)) Via.refl e13 f31 (g := (mkF m 302 #[(vr a1), (vl q2), .second, (vr a3), (vr a4), (vr b4), (vi 0), .unset, .unset, .unset, .unset] [(.ref a1), (.ref b13), (.ref b13)])) rfl rfl (hb hby d14_302)
  have f33 : Fld Z h13 a1 s4n "conflicts" s7n (.ref wEMPTY_LIST) := ((P1.ext E4).ext E13)
  obtain ⟨T34, X34, e34, st34⟩ := getF X32 hx hZ hown (host := "") (Or.inl (ow hw 80 rfl)) Via.refl e32 f33 (g := (mkF m 306 #[(vr a1), (vl q2), .second, (vr a3), (vr a4), (vr b4), (vi 0), .unset, .unset, .unset, .unset] [(.ref a1), (.ref wEMPTY_LIST), (.ref b13), (.ref b13)])) rfl rfl (hb hby d14_306)
  have f35 : Exa Z h13 a3 s0n := (f17.ext E13)
  have f36 : Fld Z h13 a3 s0n "size" "I" (.int 0) := ((P9.ext E4).ext E13)
  obtain ⟨_, _, ⟨T37, L37, k37, n37⟩, -, X37, ⟨Lc37, hQ37, l37, y37, z37⟩, st37⟩ := X34.specialBack hx (y := M10) rfl hown (mvT hZ (ow hw 47 rfl)) (mvT hZ (ow hw 48 rfl)) (mvT hZ (ow hw 49 rfl)) (by decide) (backOf (W := 1) (au7_3 l Z a0 hw [] wDEFAULTCAPACITY_EMPTY_ELEMENTDATA wEMPTY_LIST hS b13 a3 q2 b4 h13 n0 O25 A13 f27 f30 f29 f26 f28 f35 f36 P17 g23 (Ne.symm ne16)) hZ (ow hw 49 rfl) (ow hw 2 rfl) (by decide) (by decide)) (g := (mkF m 313 #[(vr a1), (vl q2), .second, (vr a3), (vr a4), (vr b4), (vi 0), .unset, .unset, .unset, .unset] [(.ref b4), (.long q2), (.ref a3), (.ref wEMPTY_LIST), (.ref wEMPTY_LIST), (.ref b13), (.ref b13)])) rfl (by rw [hml]; rfl) (Steps.refl _) (a := b13) (argsL := [(.ref wEMPTY_LIST), (.ref wEMPTY_LIST), (.ref a3), (.long q2), (.ref b4)]) (rest := [(.ref b13)]) (lenOf pd_5 rfl) rfl (by show 2 * 0 + _ ≤ _; exact Nat.le_of_eq rfl) (hb hby d14_313) (fun _ _ => ⟨rfl, e34, (by decide : 2 + 0 ≤ _), (by decide : 5 + 0 ≤ _)⟩)
  dsimp only [Pt.U, Pt.locs, Pt.cells, Pt.slots] at X37 l37 y37 z37 st37 hQ37
  subst l37 y37 z37
  obtain ⟨rfl, Nq37, K37q, p37_0, p37_1, p37_2, p37_3, p37_4, p37_5⟩ := hQ37
  have N37 := Fr.app N3 Nq37
  have O38 : Old Z n0 T37.heap := O25.keep K37q (allS g23 all0)
  have K38 : Keep h0 T37.heap [] := K25.trans K37q (allS (Or.inr sz24) all0)
  have f39 : Exa Z T37.heap b4 "[[J" := ((Z4.ext E13).keep K37q)
  have f40 : Arv Z T37.heap b4 k4 (.array .long) (0 : Int32) ([]) .null := ((V4.ext E13).keep K37q (ninS ne22 nin0))
  obtain ⟨fs, hr, hrun, hended, hW, hsame⟩ := X37.leave (v := some (.ref b13)) (fun h => by rw [hret0] at h; cases h)
  refine ⟨_, _, pre0 _ ?_, hrun, hended, _, _, rfl, ?_, ⟨_, rfl⟩, hW, hsame.mono (by decide) (by decide)⟩
  · skip
    show Steps p.tables e below (s₁.setTop (mkF m 0 #[(vr a1), (vl q2), .second, (vr a3), (vr a4), .unset, .unset, .unset, .unset, .unset, .unset] [])) _
    refine XS.aload X0.here hx rfl (hb hby d14_0) rfl rfl ?_
    refine st1.trans ?_
    refine XS.aloadN X1.here hx rfl (hb hby d14_7) rfl rfl ?_
    refine st2.trans ?_
    refine XS.icmpYes X2.here hx rfl (pc0 := 13) (pc' := 42) rfl (hb hby d14_13) rfl (teq (by decide : (0 : Int32) = (0 : Int32))).1 (by decide) (by decide) ?_
    show Steps p.tables e below (T2.setTop (mkF m 42 #[(vr a1), (vl q2), .second, (vr a3), (vr a4), .unset, .unset, .unset, .unset, .unset, .unset] [])) _
    refine XS.aloadN X2.here hx rfl (hb hby d14_42) rfl rfl ?_
    refine st3.trans ?_
    refine st4 _ ?_
    refine XS.astore X4.here hx rfl (hb hby d14_51) rfl rfl (l' := #[(vr a1), (vl q2), .second, (vr a3), (vr a4), (vr b4), .unset, .unset, .unset, .unset, .unset]) rfl ?_
    refine XS.iconst X4.here hx rfl (hb hby d14_53) ?_
    show Steps p.tables e below (T4.setTop (mkF m 54 #[(vr a1), (vl q2), .second, (vr a3), (vr a4), (vr b4), .unset, .unset, .unset, .unset, .unset] [(.int 0)])) _
    refine XS.istore X4.here hx rfl (hb hby d14_54) rfl (l' := #[(vr a1), (vl q2), .second, (vr a3), (vr a4), (vr b4), (vi 0), .unset, .unset, .unset, .unset]) rfl ?_
    refine XS.iload X4.here hx rfl (hb hby d14_56) rfl ?_
    refine XS.aload X4.here hx rfl (hb hby d14_58) rfl rfl ?_
    refine X4.arraylength hx (by rw [e4]; exact Ar12.1) (State.isArrayOf_alike hZ.alike Ar12.2.1) (g := (mkF m 60 #[(vr a1), (vl q2), .second, (vr a3), (vr a4), (vr b4), (vi 0), .unset, .unset, .unset, .unset] [(.ref b4), (.int 0)])) rfl rfl (hb hby d14_60) _ ?_
    rw [len_of Sz12 Nn12]
    refine XS.icmpYes X4.here hx rfl (pc0 := 61) (pc' := 297) rfl (hb hby d14_61) rfl (flt (by decide : ¬ ((0 : Int32) < (0 : Int32)))).2.1 (by decide) (by decide) ?_
    show Steps p.tables e below (T4.setTop (mkF m 297 #[(vr a1), (vl q2), .second, (vr a3), (vr a4), (vr b4), (vi 0), .unset, .unset, .unset, .unset] [])) _
    refine st13 _ ?_
    refine XS.dup X13.here hx rfl (hb hby d14_300) rfl rfl ?_
    refine XS.aloadN X13.here hx rfl (hb hby d14_301) rfl rfl ?_
    refine st32 _ ?_
    refine XS.aloadN X32.here hx rfl (hb hby d14_305) rfl rfl ?_
    show Steps p.tables e below (T32.setTop (mkF m 306 #[(vr a1), (vl q2), .second, (vr a3), (vr a4), (vr b4), (vi 0), .unset, .unset, .unset, .unset] [(.ref a1), (.ref wEMPTY_LIST), (.ref b13), (.ref b13)])) _
    refine st34 _ ?_
    refine XS.aloadN X34.here hx rfl (hb hby d14_309) rfl rfl ?_
    refine XS.lloadN X34.here hx rfl (hb hby d14_310) rfl ?_
    refine XS.aload X34.here hx rfl (hb hby d14_311) rfl rfl ?_
    refine st37.trans ?_
    show Steps p.tables e below (T37.setTop (mkF m 316 #[(vr a1), (vl q2), .second, (vr a3), (vr a4), (vr b4), (vi 0), .unset, .unset, .unset, .unset] [(.ref b13)])) _
    jvm_step X37.here [X37.here.top, hx, (hb hby d14_316), X37.method', hret0, Value.isRef, FieldType.isReference]
    first | (intro acts; rw [hr _ acts rfl rfl rfl]) | rw [hr _ _ rfl rfl rfl]
    exact Steps.refl _
  · show Q_au14_1 Z wDEFAULTCAPACITY_EMPTY_ELEMENTDATA wEMPTY_LIST a1 q2 a3 a4 a5 k6 h0 n0 _ T37.heap _
    exact ⟨b13, b4, k4, rfl, N37, K38, sz24, p37_0, p37_1, p37_2, p37_3, p37_4, p37_5, sz10, f39, f40, O4⟩
def Q_rm0 (Z : State) (wDEFAULTCAPACITY_EMPTY_ELEMENTDATA : Addr) (wEMPTY_LIST : Addr) (q0 : Int64) (h0 : Heap) (n0 : Nat) (v : Option Value) (h : Heap) (L : List Loc) : Prop := v = some (.int 1) ∧ Fr n0 L
theorem rm0 (l : Launch) (Z : State) (a0 : Array Value) (hw : ∀ d ∈ tables_1, d.before a0 Z = true) (ws : List Jvm.Cond) (wDEFAULTCAPACITY_EMPTY_ELEMENTDATA : Addr) (wEMPTY_LIST : Addr) (hS : SS Z wDEFAULTCAPACITY_EMPTY_ELEMENTDATA wEMPTY_LIST) (q0 : Int64) (h0 : Heap) (n0 : Nat) (O0 : Old Z n0 h0)  :
    MetB l x code maxLocals ret ws room_1 Z h0 #[(.long q0)] (Q_rm0 Z wDEFAULTCAPACITY_EMPTY_ELEMENTDATA wEMPTY_LIST q0 h0 n0) := by
  refine own_body (plainFor_of_name pn_com_example_loopline_loopline_engine_ScenarioIsInProgressPinLaw) ?_
  intro p e s m below meth c s₁ hx hby hml hown hnm hret0 hlk0 hZ X0 e0
  have N0 := Fr.nil n0
  have pre0 : ∀ t, Steps p.tables e below (s₁.setTop (mkF m 0 #[(vl q0), .second, .unset, .unset, .unset, .unset] [])) t → Steps p.tables e below (s₁.setTop (entryFrame m #[(.long q0)] maxLocals)) t := fun t k => castTop (ef_rm0 m q0) k
  have hS0 := hS
  obtain ⟨S_wDEFAULTCAPACITY_EMPTY_ELEMENTDATA, E_wDEFAULTCAPACITY_EMPTY_ELEMENTDATA, S_wEMPTY_LIST, E_wEMPTY_LIST, F_allowNulls_wEMPTY_LIST⟩ := hS0
  rcases own_asg (C := s0n) (K := s2n) (ow hw 57 rfl) (ow hw 59 rfl) (ow hw 60 rfl) with hA | hA
  · skip
    obtain ⟨T1, h1, X1, e1, E1, A1, D1, -, st1⟩ := newO X0 hx hZ hown (ow hw 0 rfl) (ow hw 1 rfl) (ow hw 2 rfl) e0 (g := (mkF m 0 #[(vl q0), .second, .unset, .unset, .unset, .unset] [])) rfl (hb hby at_0) (by decide) (by decide)
    obtain ⟨b1, g1⟩ : ∃ z, z = h0.size := ⟨_, rfl⟩
    rw [← g1] at A1 D1 st1
    have g2 : n0 ≤ b1 := Nat.le_trans (own_sz O0) (Nat.le_of_eq g1.symm)
    have O3 : Old Z n0 h1 := O0.ext E1
    have f4 : Fld Z h1 b1 s4n "resources" s7n .null := D1 (Or.inr (ow hw 79 rfl)) (ty := (.object s3n)) (by decide)
    have f5 : Fld Z h1 b1 s4n "conflicts" s7n .null := D1 (Or.inr (ow hw 81 rfl)) (ty := (.object s3n)) (by decide)
    have f6 : Fld Z h1 b1 s4n "trains" s7n .null := D1 (Or.inr (ow hw 83 rfl)) (ty := (.object s3n)) (by decide)
    have f7 : Fld Z h1 b1 s4n "moment" "J" (.long 0) := D1 (Or.inr (ow hw 85 rfl)) (ty := .long) (by decide)
    have f8 : Fld Z h1 b1 s4n "entered" "[[J" .null := D1 (Or.inr (ow hw 87 rfl)) (ty := (.array (.array .long))) (by decide)
    obtain ⟨T9, h9, X9, e9, E9, A9, D9, -, st9⟩ := newO X1 hx hZ hown (ow hw 3 rfl) (ow hw 4 rfl) (ow hw 5 rfl) e1 (g := (mkF m 4 #[(vl q0), .second, .unset, .unset, .unset, .unset] [(.ref b1), (.ref b1)])) rfl (hb hby at_4) (by decide) (by decide)
    obtain ⟨b9, g9⟩ : ∃ z, z = h1.size := ⟨_, rfl⟩
    rw [← g9] at A9 D9 st9
    have ne10 : b1 ≠ b9 := Nat.ne_of_lt (Nat.lt_of_lt_of_le A1.lt (Nat.le_of_eq g9.symm))
    have g11 : n0 ≤ b9 := Nat.le_trans (own_sz O3) (Nat.le_of_eq g9.symm)
    have O12 : Old Z n0 h9 := O3.ext E9
    have f13 : Fld Z h9 b9 s5n "modCount" "I" (.int 0) := D9 (Or.inl (ow hw 25 rfl)) (ty := .int) (by decide)
    have f14 : Fld Z h9 b9 s0n "elementData" s1n .null := D9 (Or.inl (ow hw 28 rfl)) (ty := (.array (.object s6n))) (by decide)
    have f15 : Fld Z h9 b9 s0n "size" "I" (.int 0) := D9 (Or.inl (ow hw 43 rfl)) (ty := .int) (by decide)
    obtain ⟨_, _, ⟨T16, L16, k16, n16⟩, -, X16, ⟨Lc16, hQ16, l16, y16, z16⟩, st16⟩ := X9.specialBack hx (y := M7) rfl hown (mvT hZ (ow hw 6 rfl)) (mvT hZ (ow hw 7 rfl)) (mvT hZ (ow hw 8 rfl)) (by decide) (backOf (W := 3) (au1_0 l Z a0 hw [] wDEFAULTCAPACITY_EMPTY_ELEMENTDATA wEMPTY_LIST hS b9 h9 n0 O12 A9 f13 f14 f15 g11) hZ (ow hw 8 rfl) (ow hw 5 rfl) (by decide) (by decide)) (g := (mkF m 8 #[(vl q0), .second, .unset, .unset, .unset, .unset] [(.ref b9), (.ref b9), (.ref b1), (.ref b1)])) rfl (by rw [hml]; rfl) (Steps.refl _) (a := b9) (argsL := []) (rest := [(.ref b9), (.ref b1), (.ref b1)]) (lenOf pd_2 rfl) rfl (by show 2 * 0 + _ ≤ _; exact Nat.le_of_eq rfl) (hb hby at_8) (fun _ _ => ⟨rfl, e9, (by decide : 2 + 0 ≤ _), (by decide : 8 + 0 ≤ _)⟩)
    dsimp only [Pt.U, Pt.locs, Pt.cells, Pt.slots] at X16 l16 y16 z16 st16 hQ16
    subst l16 y16 z16
    obtain ⟨rfl, Nq16, K16q, p16_0, p16_1, p16_2, p16_3⟩ := hQ16
    have N16 := Fr.app N0 Nq16
    have O17 : Old Z n0 T16.heap := O12.keep K16q (allS g11 all0)
    obtain ⟨T18, h18, X18, e18, E18, A18, D18, -, st18⟩ := newO X16 hx hZ hown (ow hw 3 rfl) (ow hw 4 rfl) (ow hw 5 rfl) rfl (g := (mkF m 11 #[(vl q0), .second, .unset, .unset, .unset, .unset] [(.ref b9), (.ref b1), (.ref b1)])) rfl (hb hby at_11) (by decide) (by decide)
    obtain ⟨b18, g18⟩ : ∃ z, z = T16.heap.size := ⟨_, rfl⟩
    rw [← g18] at A18 D18 st18
    have f20 : Exa Z T16.heap b1 s4n := ((A1.ext E9).keep K16q)
    have ne19 : b1 ≠ b18 := Nat.ne_of_lt (Nat.lt_of_lt_of_le f20.lt (Nat.le_of_eq g18.symm))
    have ne21 : b9 ≠ b18 := Nat.ne_of_lt (Nat.lt_of_lt_of_le p16_0.lt (Nat.le_of_eq g18.symm))
    have g22 : n0 ≤ b18 := Nat.le_trans (own_sz O17) (Nat.le_of_eq g18.symm)
    have O23 : Old Z n0 h18 := O17.ext E18
    have f24 : Fld Z h18 b18 s5n "modCount" "I" (.int 0) := D18 (Or.inl (ow hw 25 rfl)) (ty := .int) (by decide)
    have f25 : Fld Z h18 b18 s0n "elementData" s1n .null := D18 (Or.inl (ow hw 28 rfl)) (ty := (.array (.object s6n))) (by decide)
    have f26 : Fld Z h18 b18 s0n "size" "I" (.int 0) := D18 (Or.inl (ow hw 43 rfl)) (ty := .int) (by decide)
    obtain ⟨_, _, ⟨T27, L27, k27, n27⟩, -, X27, ⟨Lc27, hQ27, l27, y27, z27⟩, st27⟩ := X18.specialBack hx (y := M7) rfl hown (mvT hZ (ow hw 6 rfl)) (mvT hZ (ow hw 7 rfl)) (mvT hZ (ow hw 8 rfl)) (by decide) (backOf (W := 4) (au1_0 l Z a0 hw [] wDEFAULTCAPACITY_EMPTY_ELEMENTDATA wEMPTY_LIST hS b18 h18 n0 O23 A18 f24 f25 f26 g22) hZ (ow hw 8 rfl) (ow hw 5 rfl) (by decide) (by decide)) (g := (mkF m 15 #[(vl q0), .second, .unset, .unset, .unset, .unset] [(.ref b18), (.ref b18), (.ref b9), (.ref b1), (.ref b1)])) rfl (by rw [hml]; rfl) (Steps.refl _) (a := b18) (argsL := []) (rest := [(.ref b18), (.ref b9), (.ref b1), (.ref b1)]) (lenOf pd_2 rfl) rfl (by show 2 * 0 + _ ≤ _; exact Nat.le_of_eq rfl) (hb hby at_15) (fun _ _ => ⟨rfl, e18, (by decide : 3 + 0 ≤ _), (by decide : 11 + 0 ≤ _)⟩)
    dsimp only [Pt.U, Pt.locs, Pt.cells, Pt.slots] at X27 l27 y27 z27 st27 hQ27
    subst l27 y27 z27
    obtain ⟨rfl, Nq27, K27q, p27_0, p27_1, p27_2, p27_3⟩ := hQ27
    have N27 := Fr.app N16 Nq27
    have O28 : Old Z n0 T27.heap := O23.keep K27q (allS g22 all0)
    obtain ⟨T29, h29, X29, e29, E29, A29, D29, -, st29⟩ := newO X27 hx hZ hown (ow hw 3 rfl) (ow hw 4 rfl) (ow hw 5 rfl) rfl (g := (mkF m 18 #[(vl q0), .second, .unset, .unset, .unset, .unset] [(.ref b18), (.ref b9), (.ref b1), (.ref b1)])) rfl (hb hby at_18) (by decide) (by decide)
    obtain ⟨b29, g29⟩ : ∃ z, z = T27.heap.size := ⟨_, rfl⟩
    rw [← g29] at A29 D29 st29
    have f31 : Exa Z T27.heap b1 s4n := ((f20.ext E18).keep K27q)
    have ne30 : b1 ≠ b29 := Nat.ne_of_lt (Nat.lt_of_lt_of_le f31.lt (Nat.le_of_eq g29.symm))
    have f33 : Exa Z T27.heap b9 s0n := ((p16_0.ext E18).keep K27q)
    have ne32 : b9 ≠ b29 := Nat.ne_of_lt (Nat.lt_of_lt_of_le f33.lt (Nat.le_of_eq g29.symm))
    have ne34 : b18 ≠ b29 := Nat.ne_of_lt (Nat.lt_of_lt_of_le p27_0.lt (Nat.le_of_eq g29.symm))
    have g35 : n0 ≤ b29 := Nat.le_trans (own_sz O28) (Nat.le_of_eq g29.symm)
    have O36 : Old Z n0 h29 := O28.ext E29
    have f37 : Fld Z h29 b29 s5n "modCount" "I" (.int 0) := D29 (Or.inl (ow hw 25 rfl)) (ty := .int) (by decide)
    have f38 : Fld Z h29 b29 s0n "elementData" s1n .null := D29 (Or.inl (ow hw 28 rfl)) (ty := (.array (.object s6n))) (by decide)
    have f39 : Fld Z h29 b29 s0n "size" "I" (.int 0) := D29 (Or.inl (ow hw 43 rfl)) (ty := .int) (by decide)
    obtain ⟨_, _, ⟨T40, L40, k40, n40⟩, -, X40, ⟨Lc40, hQ40, l40, y40, z40⟩, st40⟩ := X29.specialBack hx (y := M7) rfl hown (mvT hZ (ow hw 6 rfl)) (mvT hZ (ow hw 7 rfl)) (mvT hZ (ow hw 8 rfl)) (by decide) (backOf (W := 5) (au1_0 l Z a0 hw [] wDEFAULTCAPACITY_EMPTY_ELEMENTDATA wEMPTY_LIST hS b29 h29 n0 O36 A29 f37 f38 f39 g35) hZ (ow hw 8 rfl) (ow hw 5 rfl) (by decide) (by decide)) (g := (mkF m 22 #[(vl q0), .second, .unset, .unset, .unset, .unset] [(.ref b29), (.ref b29), (.ref b18), (.ref b9), (.ref b1), (.ref b1)])) rfl (by rw [hml]; rfl) (Steps.refl _) (a := b29) (argsL := []) (rest := [(.ref b29), (.ref b18), (.ref b9), (.ref b1), (.ref b1)]) (lenOf pd_2 rfl) rfl (by show 2 * 0 + _ ≤ _; exact Nat.le_of_eq rfl) (hb hby at_22) (fun _ _ => ⟨rfl, e29, (by decide : 4 + 0 ≤ _), (by decide : 14 + 0 ≤ _)⟩)
    dsimp only [Pt.U, Pt.locs, Pt.cells, Pt.slots] at X40 l40 y40 z40 st40 hQ40
    subst l40 y40 z40
    obtain ⟨rfl, Nq40, K40q, p40_0, p40_1, p40_2, p40_3⟩ := hQ40
    have N40 := Fr.app N27 Nq40
    have O41 : Old Z n0 T40.heap := O36.keep K40q (allS g35 all0)
    have f42 : Exa Z T40.heap b1 s4n := ((f31.ext E29).keep K40q)
    have f43 : Fld Z T40.heap b1 s4n "conflicts" s7n .null := ((((((f5.ext E9).keep K16q (ninS ne10 nin0)).ext E18).keep K27q (ninS ne19 nin0)).ext E29).keep K40q (ninS ne30 nin0))
    have f44 : Fld Z T40.heap b1 s4n "entered" "[[J" .null := ((((((f8.ext E9).keep K16q (ninS ne10 nin0)).ext E18).keep K27q (ninS ne19 nin0)).ext E29).keep K40q (ninS ne30 nin0))
    have f45 : Fld Z T40.heap b1 s4n "moment" "J" (.long 0) := ((((((f7.ext E9).keep K16q (ninS ne10 nin0)).ext E18).keep K27q (ninS ne19 nin0)).ext E29).keep K40q (ninS ne30 nin0))
    have f46 : Fld Z T40.heap b1 s4n "resources" s7n .null := ((((((f4.ext E9).keep K16q (ninS ne10 nin0)).ext E18).keep K27q (ninS ne19 nin0)).ext E29).keep K40q (ninS ne30 nin0))
    have f47 : Fld Z T40.heap b1 s4n "trains" s7n .null := ((((((f6.ext E9).keep K16q (ninS ne10 nin0)).ext E18).keep K27q (ninS ne19 nin0)).ext E29).keep K40q (ninS ne30 nin0))
    have f48 : Exa Z T40.heap b9 s0n := ((f33.ext E29).keep K40q)
    have f49 : Exa Z T40.heap b18 s0n := ((p27_0.ext E29).keep K40q)
    obtain ⟨_, _, ⟨T50, L50, k50, n50⟩, -, X50, ⟨Lc50, hQ50, l50, y50, z50⟩, st50⟩ := X40.specialBack hx (y := M11) rfl hown (mvT hZ (ow hw 29 rfl)) (mvT hZ (ow hw 30 rfl)) (mvT hZ (ow hw 31 rfl)) (by decide) (backOf (W := 1) (au5_0 l Z a0 hw [] wDEFAULTCAPACITY_EMPTY_ELEMENTDATA wEMPTY_LIST hS b1 b9 b18 b29 T40.heap n0 O41 f42 f43 f44 f45 f46 f47 f48 f49 p40_0 p40_3 hA g2) hZ (ow hw 31 rfl) (ow hw 2 rfl) (by decide) (by decide)) (g := (mkF m 25 #[(vl q0), .second, .unset, .unset, .unset, .unset] [(.ref b29), (.ref b18), (.ref b9), (.ref b1), (.ref b1)])) rfl (by rw [hml]; rfl) (Steps.refl _) (a := b1) (argsL := [(.ref b9), (.ref b18), (.ref b29)]) (rest := [(.ref b1)]) (lenOf pd_6 rfl) rfl (by show 2 * 0 + _ ≤ _; exact Nat.le_of_eq rfl) (hb hby at_25) (fun _ _ => ⟨rfl, rfl, (by decide : 4 + 1 ≤ _), (by decide : 14 + 0 ≤ _)⟩)
    dsimp only [Pt.U, Pt.locs, Pt.cells, Pt.slots] at X50 l50 y50 z50 st50 hQ50
    subst l50 y50 z50
    obtain ⟨e1_50, e2_50, rfl, Nq50, K50q, p50_0, p50_1, p50_2, p50_3, p50_4, p50_5, p50_6, p50_7, p50_8, p50_9⟩ := hQ50
    have N50 := Fr.app N40 Nq50
    have ne51 : b1 ≠ e1_50 := Nat.ne_of_lt (Nat.lt_of_lt_of_le f42.lt p50_6)
    have ne52 : b9 ≠ e1_50 := Nat.ne_of_lt (Nat.lt_of_lt_of_le f48.lt p50_6)
    have ne53 : b18 ≠ e1_50 := Nat.ne_of_lt (Nat.lt_of_lt_of_le f49.lt p50_6)
    have ne54 : b29 ≠ e1_50 := Nat.ne_of_lt (Nat.lt_of_lt_of_le p40_0.lt p50_6)
    have g55 : n0 ≤ e1_50 := Nat.le_trans (own_sz O41) p50_6
    have O56 : Old Z n0 T50.heap := O41.keep K50q (allS g2 all0)
    obtain ⟨cq57, kq57, q57a, q57b, q57c⟩ := isOf hZ rfl p50_0
    obtain ⟨_, _, ⟨T57, L57, k57, n57⟩, -, X57, ⟨Lc57, hQ57, l57, y57, z57⟩, st57⟩ := X50.virtualBack hx (y := M4) (z := M4) hown (mvT hZ (ow hw 88 rfl)) (mvT hZ (ow hw 89 rfl)) (notFace_of_selects (args := #[]) (mvT hZ (ow hw 91 rfl))) (mvT hZ (ow hw 91 rfl)) (mvT hZ (ow hw 90 rfl)) (by decide) (backOf (W := 0) (rmIP l Z a0 hw [] wDEFAULTCAPACITY_EMPTY_ELEMENTDATA wEMPTY_LIST hS b1 (-9223372036854775808 : Int64) T50.heap n0 O56 p50_3) hZ (ow hw 92 rfl) (ow hw 2 rfl) (by decide) (by decide)) q57a q57c (g := (mkF m 30 #[(vl q0), .second, (vr b1), .unset, .unset, .unset] [(.ref b1)])) rfl (by rw [hml]; rfl) (Steps.refl _) (argsL := []) (rest := []) (lenOf pd_0 rfl) rfl (by show 2 * 0 + _ ≤ _; exact Nat.le_of_eq rfl) (hb hby at_30) (fun _ _ => ⟨rfl, rfl, (by decide : 5 + 0 ≤ _), (by decide : 14 + 0 ≤ _)⟩)
    dsimp only [Pt.U, Pt.locs, Pt.cells, Pt.slots] at X57 l57 y57 z57 st57 hQ57
    subst l57 y57 z57
    obtain ⟨r_57, rfl, Nq57, K57q, p57_0⟩ := hQ57
    have N57 := Fr.app N50 Nq57
    have pre58 : ∀ t, Steps p.tables e below (T57.setTop (mkF m 33 #[(vl q0), .second, (vr b1), .unset, .unset, .unset] [(.int 0)])) t → Steps p.tables e below (s₁.setTop (entryFrame m #[(.long q0)] maxLocals)) t := by
      intro t k
      refine pre0 t ?_
      show Steps p.tables e below (s₁.setTop (mkF m 0 #[(vl q0), .second, .unset, .unset, .unset, .unset] [])) _
      refine st1 _ ?_
      refine XS.dup X1.here hx rfl (hb hby at_3) rfl rfl ?_
      refine st9 _ ?_
      refine XS.dup X9.here hx rfl (hb hby at_7) rfl rfl ?_
      refine st16.trans ?_
      show Steps p.tables e below (T16.setTop (mkF m 11 #[(vl q0), .second, .unset, .unset, .unset, .unset] [(.ref b9), (.ref b1), (.ref b1)])) _
      refine st18 _ ?_
      refine XS.dup X18.here hx rfl (hb hby at_14) rfl rfl ?_
      refine st27.trans ?_
      refine st29 _ ?_
      refine XS.dup X29.here hx rfl (hb hby at_21) rfl rfl ?_
      show Steps p.tables e below (T29.setTop (mkF m 22 #[(vl q0), .second, .unset, .unset, .unset, .unset] [(.ref b29), (.ref b29), (.ref b18), (.ref b9), (.ref b1), (.ref b1)])) _
      refine st40.trans ?_
      refine st50.trans ?_
      refine XS.astoreN X50.here hx rfl (hb hby at_28) rfl rfl (l' := #[(vl q0), .second, (vr b1), .unset, .unset, .unset]) rfl ?_
      refine XS.aloadN X50.here hx rfl (hb hby at_29) rfl rfl ?_
      refine st57.trans ?_
      rw [p57_0.trans (if_pos (own_lc _))]
      exact k
    obtain ⟨cq59, kq59, q59a, q59b, q59c⟩ := isOf hZ K57q p50_0
    obtain ⟨_, _, ⟨T59, L59, k59, n59⟩, -, X59, ⟨Lc59, hQ59, l59, y59, z59⟩, st59⟩ := X57.virtualBack hx (y := M13) (z := M13) hown (mvT hZ (ow hw 93 rfl)) (mvT hZ (ow hw 94 rfl)) (notFace_of_selects (args := #[]) (mvT hZ (ow hw 96 rfl))) (mvT hZ (ow hw 96 rfl)) (mvT hZ (ow hw 95 rfl)) (by decide) (backOf (W := 0) (au13_0 l Z a0 hw [] wDEFAULTCAPACITY_EMPTY_ELEMENTDATA wEMPTY_LIST hS b1 T50.heap n0 O56 p50_3) hZ (ow hw 97 rfl) (ow hw 2 rfl) (by decide) (by decide)) q59a q59c (g := (mkF m 37 #[(vl q0), .second, (vr b1), .unset, .unset, .unset] [(.ref b1)])) rfl (by rw [hml]; rfl) (Steps.refl _) (argsL := []) (rest := []) (lenOf pd_7 rfl) rfl (by show 2 * 0 + _ ≤ _; exact Nat.le_of_eq rfl) (hb hby at_37) (fun _ _ => ⟨rfl, K57q, (by decide : 5 + 0 ≤ _), (by decide : 14 + 0 ≤ _)⟩)
    dsimp only [Pt.U, Pt.locs, Pt.cells, Pt.slots] at X59 l59 y59 z59 st59 hQ59
    subst l59 y59 z59
    obtain ⟨rfl, Nq59, K59q⟩ := hQ59
    have N59 := Fr.app N57 Nq59
    obtain ⟨T60, h60, X60, e60, E60, A60, D60, -, st60⟩ := newO X59 hx hZ hown (ow hw 3 rfl) (ow hw 4 rfl) (ow hw 5 rfl) K59q (g := (mkF m 55 #[(vl q0), .second, (vr b1), (vi 1), .unset, .unset] [(.long q0), (.ref b1)])) rfl (hb hby at_55) (by decide) (by decide)
    obtain ⟨b60, g60⟩ : ∃ z, z = T50.heap.size := ⟨_, rfl⟩
    rw [← g60] at A60 D60 st60
    have ne61 : b1 ≠ b60 := Nat.ne_of_lt (Nat.lt_of_lt_of_le p50_0.lt (Nat.le_of_eq g60.symm))
    have f63 : Exa Z T50.heap b9 s0n := (f48.keep K50q)
    have ne62 : b9 ≠ b60 := Nat.ne_of_lt (Nat.lt_of_lt_of_le f63.lt (Nat.le_of_eq g60.symm))
    have f65 : Exa Z T50.heap b18 s0n := (f49.keep K50q)
    have ne64 : b18 ≠ b60 := Nat.ne_of_lt (Nat.lt_of_lt_of_le f65.lt (Nat.le_of_eq g60.symm))
    have f67 : Exa Z T50.heap b29 s0n := (p40_0.keep K50q)
    have ne66 : b29 ≠ b60 := Nat.ne_of_lt (Nat.lt_of_lt_of_le f67.lt (Nat.le_of_eq g60.symm))
    have ne68 : e1_50 ≠ b60 := Nat.ne_of_lt (Nat.lt_of_lt_of_le p50_7.lt (Nat.le_of_eq g60.symm))
    have g69 : n0 ≤ b60 := Nat.le_trans (own_sz O56) (Nat.le_of_eq g60.symm)
    have O70 : Old Z n0 h60 := O56.ext E60
    have f71 : Fld Z h60 b60 s5n "modCount" "I" (.int 0) := D60 (Or.inl (ow hw 25 rfl)) (ty := .int) (by decide)
    have f72 : Fld Z h60 b60 s0n "elementData" s1n .null := D60 (Or.inl (ow hw 28 rfl)) (ty := (.array (.object s6n))) (by decide)
    have f73 : Fld Z h60 b60 s0n "size" "I" (.int 0) := D60 (Or.inl (ow hw 43 rfl)) (ty := .int) (by decide)
    obtain ⟨_, _, ⟨T74, L74, k74, n74⟩, -, X74, ⟨Lc74, hQ74, l74, y74, z74⟩, st74⟩ := X60.specialBack hx (y := M7) rfl hown (mvT hZ (ow hw 6 rfl)) (mvT hZ (ow hw 7 rfl)) (mvT hZ (ow hw 8 rfl)) (by decide) (backOf (W := 4) (au1_0 l Z a0 hw [] wDEFAULTCAPACITY_EMPTY_ELEMENTDATA wEMPTY_LIST hS b60 h60 n0 O70 A60 f71 f72 f73 g69) hZ (ow hw 8 rfl) (ow hw 5 rfl) (by decide) (by decide)) (g := (mkF m 59 #[(vl q0), .second, (vr b1), (vi 1), .unset, .unset] [(.ref b60), (.ref b60), (.long q0), (.ref b1)])) rfl (by rw [hml]; rfl) (Steps.refl _) (a := b60) (argsL := []) (rest := [(.ref b60), (.long q0), (.ref b1)]) (lenOf pd_2 rfl) rfl (by show 2 * 0 + _ ≤ _; exact Nat.le_of_eq rfl) (hb hby at_59) (fun _ _ => ⟨rfl, e60, (by decide : 6 + 0 ≤ _), (by decide : 17 + 0 ≤ _)⟩)
    dsimp only [Pt.U, Pt.locs, Pt.cells, Pt.slots] at X74 l74 y74 z74 st74 hQ74
    subst l74 y74 z74
    obtain ⟨rfl, Nq74, K74q, p74_0, p74_1, p74_2, p74_3⟩ := hQ74
    have N74 := Fr.app N59 Nq74
    have O75 : Old Z n0 T74.heap := O70.keep K74q (allS g69 all0)
    obtain ⟨T76, h76, X76, e76, E76, A76, D76, -, st76⟩ := newO X74 hx hZ hown (ow hw 3 rfl) (ow hw 4 rfl) (ow hw 5 rfl) rfl (g := (mkF m 62 #[(vl q0), .second, (vr b1), (vi 1), .unset, .unset] [(.ref b60), (.long q0), (.ref b1)])) rfl (hb hby at_62) (by decide) (by decide)
    obtain ⟨b76, g76⟩ : ∃ z, z = T74.heap.size := ⟨_, rfl⟩
    rw [← g76] at A76 D76 st76
    have f78 : Exa Z T74.heap b1 s4n := ((p50_0.ext E60).keep K74q)
    have ne77 : b1 ≠ b76 := Nat.ne_of_lt (Nat.lt_of_lt_of_le f78.lt (Nat.le_of_eq g76.symm))
    have f80 : Exa Z T74.heap b9 s0n := ((f63.ext E60).keep K74q)
    have ne79 : b9 ≠ b76 := Nat.ne_of_lt (Nat.lt_of_lt_of_le f80.lt (Nat.le_of_eq g76.symm))
    have f82 : Exa Z T74.heap b18 s0n := ((f65.ext E60).keep K74q)
    have ne81 : b18 ≠ b76 := Nat.ne_of_lt (Nat.lt_of_lt_of_le f82.lt (Nat.le_of_eq g76.symm))
    have f84 : Exa Z T74.heap b29 s0n := ((f67.ext E60).keep K74q)
    have ne83 : b29 ≠ b76 := Nat.ne_of_lt (Nat.lt_of_lt_of_le f84.lt (Nat.le_of_eq g76.symm))
    have f86 : Exa Z T74.heap e1_50 "[[J" := ((p50_7.ext E60).keep K74q)
    have ne85 : e1_50 ≠ b76 := Nat.ne_of_lt (Nat.lt_of_lt_of_le f86.lt (Nat.le_of_eq g76.symm))
    have ne87 : b60 ≠ b76 := Nat.ne_of_lt (Nat.lt_of_lt_of_le p74_0.lt (Nat.le_of_eq g76.symm))
    have g88 : n0 ≤ b76 := Nat.le_trans (own_sz O75) (Nat.le_of_eq g76.symm)
    have O89 : Old Z n0 h76 := O75.ext E76
    have f90 : Fld Z h76 b76 s5n "modCount" "I" (.int 0) := D76 (Or.inl (ow hw 25 rfl)) (ty := .int) (by decide)
    have f91 : Fld Z h76 b76 s0n "elementData" s1n .null := D76 (Or.inl (ow hw 28 rfl)) (ty := (.array (.object s6n))) (by decide)
    have f92 : Fld Z h76 b76 s0n "size" "I" (.int 0) := D76 (Or.inl (ow hw 43 rfl)) (ty := .int) (by decide)
    obtain ⟨_, _, ⟨T93, L93, k93, n93⟩, -, X93, ⟨Lc93, hQ93, l93, y93, z93⟩, st93⟩ := X76.specialBack hx (y := M7) rfl hown (mvT hZ (ow hw 6 rfl)) (mvT hZ (ow hw 7 rfl)) (mvT hZ (ow hw 8 rfl)) (by decide) (backOf (W := 5) (au1_0 l Z a0 hw [] wDEFAULTCAPACITY_EMPTY_ELEMENTDATA wEMPTY_LIST hS b76 h76 n0 O89 A76 f90 f91 f92 g88) hZ (ow hw 8 rfl) (ow hw 5 rfl) (by decide) (by decide)) (g := (mkF m 66 #[(vl q0), .second, (vr b1), (vi 1), .unset, .unset] [(.ref b76), (.ref b76), (.ref b60), (.long q0), (.ref b1)])) rfl (by rw [hml]; rfl) (Steps.refl _) (a := b76) (argsL := []) (rest := [(.ref b76), (.ref b60), (.long q0), (.ref b1)]) (lenOf pd_2 rfl) rfl (by show 2 * 0 + _ ≤ _; exact Nat.le_of_eq rfl) (hb hby at_66) (fun _ _ => ⟨rfl, e76, (by decide : 7 + 0 ≤ _), (by decide : 20 + 0 ≤ _)⟩)
    dsimp only [Pt.U, Pt.locs, Pt.cells, Pt.slots] at X93 l93 y93 z93 st93 hQ93
    subst l93 y93 z93
    obtain ⟨rfl, Nq93, K93q, p93_0, p93_1, p93_2, p93_3⟩ := hQ93
    have N93 := Fr.app N74 Nq93
    have O94 : Old Z n0 T93.heap := O89.keep K93q (allS g88 all0)
    have f95 : Exa Z T93.heap b1 s4n := ((f78.ext E76).keep K93q)
    have f96 : Fld Z T93.heap b1 s4n "conflicts" s7n (.ref b18) := ((((p50_1.ext E60).keep K74q (ninS ne61 nin0)).ext E76).keep K93q (ninS ne77 nin0))
    have f97 : Fld Z T93.heap b1 s4n "resources" s7n (.ref b9) := ((((p50_4.ext E60).keep K74q (ninS ne61 nin0)).ext E76).keep K93q (ninS ne77 nin0))
    have f98 : Exa Z T93.heap b60 s0n := ((p74_0.ext E76).keep K93q)
    have f99 : Fld Z T93.heap b60 s0n "size" "I" (.int 0) := ((p74_3.ext E76).keep K93q (ninS ne87 nin0))
    have f100 : Exa Z T93.heap b18 s0n := ((f82.ext E76).keep K93q)
    have f101 : Arv Z T93.heap e1_50 e2_50 (.array .long) (0 : Int32) ([]) .null := ((((p50_8.ext E60).keep K74q (ninS ne68 nin0)).ext E76).keep K93q (ninS ne85 nin0))
    have f102 : Exa Z T93.heap b9 s0n := ((f80.ext E76).keep K93q)
    have f103 : Exa Z T93.heap b29 s0n := ((f84.ext E76).keep K93q)
    obtain ⟨cq104, kq104, q104a, q104b, q104c⟩ := isOf hZ rfl f95
    obtain ⟨_, _, ⟨T104, L104, k104, n104⟩, -, X104, ⟨Lc104, hQ104, l104, y104, z104⟩, st104⟩ := X93.virtualBack hx (y := M14) (z := M14) hown (mvT hZ (ow hw 99 rfl)) (mvT hZ (ow hw 100 rfl)) (notFace_of_selects (args := #[]) (mvT hZ (ow hw 102 rfl))) (mvT hZ (ow hw 102 rfl)) (mvT hZ (ow hw 101 rfl)) (by decide) (backOf (W := 0) (au14_0 l Z a0 hw [] wDEFAULTCAPACITY_EMPTY_ELEMENTDATA wEMPTY_LIST hS b1 q0 b60 b76 b18 e1_50 b9 b29 e2_50 T93.heap n0 O94 f95 f96 f97 f98 f99 p93_0 p93_3 f100 f101 f102 f103 hA) hZ (ow hw 103 rfl) (ow hw 2 rfl) (by decide) (by decide)) q104a q104c (g := (mkF m 69 #[(vl q0), .second, (vr b1), (vi 1), .unset, .unset] [(.ref b76), (.ref b60), (.long q0), (.ref b1)])) rfl (by rw [hml]; rfl) (Steps.refl _) (argsL := [(.long q0), (.ref b60), (.ref b76)]) (rest := []) (lenOf pd_8 rfl) rfl (by show 2 * 0 + _ ≤ _; exact Nat.le_of_eq rfl) (hb hby at_69) (fun _ _ => ⟨rfl, rfl, (by decide : 7 + 2 ≤ _), (by decide : 20 + 5 ≤ _)⟩)
    dsimp only [Pt.U, Pt.locs, Pt.cells, Pt.slots] at X104 l104 y104 z104 st104 hQ104
    subst l104 y104 z104
    obtain ⟨e1_104, e2_104, e3_104, rfl, Nq104, K104q, p104_0, p104_1, p104_2, p104_3, p104_4, p104_5, p104_6, p104_7, p104_8, p104_9, p104_10⟩ := hQ104
    have N104 := Fr.app N93 Nq104
    have ne105 : b1 ≠ e1_104 := Nat.ne_of_lt (Nat.lt_of_lt_of_le f95.lt p104_0)
    have ne106 : b9 ≠ e1_104 := Nat.ne_of_lt (Nat.lt_of_lt_of_le f102.lt p104_0)
    have ne107 : b18 ≠ e1_104 := Nat.ne_of_lt (Nat.lt_of_lt_of_le f100.lt p104_0)
    have ne108 : b29 ≠ e1_104 := Nat.ne_of_lt (Nat.lt_of_lt_of_le f103.lt p104_0)
    have f110 : Exa Z T93.heap e1_50 "[[J" := ((f86.ext E76).keep K93q)
    have ne109 : e1_50 ≠ e1_104 := Nat.ne_of_lt (Nat.lt_of_lt_of_le f110.lt p104_0)
    have ne111 : b60 ≠ e1_104 := Nat.ne_of_lt (Nat.lt_of_lt_of_le f98.lt p104_0)
    have ne112 : b76 ≠ e1_104 := Nat.ne_of_lt (Nat.lt_of_lt_of_le p93_0.lt p104_0)
    have g113 : n0 ≤ e1_104 := Nat.le_trans (own_sz O94) p104_0
    have ne114 : b1 ≠ e2_104 := Nat.ne_of_lt (Nat.lt_of_lt_of_le f95.lt p104_7)
    have ne115 : b9 ≠ e2_104 := Nat.ne_of_lt (Nat.lt_of_lt_of_le f102.lt p104_7)
    have ne116 : b18 ≠ e2_104 := Nat.ne_of_lt (Nat.lt_of_lt_of_le f100.lt p104_7)
    have ne117 : b29 ≠ e2_104 := Nat.ne_of_lt (Nat.lt_of_lt_of_le f103.lt p104_7)
    have ne118 : e1_50 ≠ e2_104 := Nat.ne_of_lt (Nat.lt_of_lt_of_le f110.lt p104_7)
    have ne119 : b60 ≠ e2_104 := Nat.ne_of_lt (Nat.lt_of_lt_of_le f98.lt p104_7)
    have ne120 : b76 ≠ e2_104 := Nat.ne_of_lt (Nat.lt_of_lt_of_le p93_0.lt p104_7)
    have g121 : n0 ≤ e2_104 := Nat.le_trans (own_sz O94) p104_7
    have O122 : Old Z n0 T104.heap := O94.keep K104q all0
    have pre123 : ∀ t, Steps p.tables e below (T104.setTop (mkF m 79 #[(vl q0), .second, (vr b1), (vi 1), (vr e1_104), .unset] [(.int (lcmpW q0 (-9223372036854775808 : Int64)))])) t → Steps p.tables e below (s₁.setTop (entryFrame m #[(.long q0)] maxLocals)) t := by
      intro t k
      refine pre58 t ?_
      show Steps p.tables e below (T57.setTop (mkF m 33 #[(vl q0), .second, (vr b1), .unset, .unset, .unset] [(.int 0)])) _
      refine XS.ifNo X57.here hx rfl (hb hby at_33) rfl ((if0 _ _).trans (teq (by decide : (0 : Int32) = (0 : Int32))).2) ?_
      refine XS.aloadN X57.here hx rfl (hb hby at_36) rfl rfl ?_
      refine st59.trans ?_
      refine X59.ldc2Long hx hown (mvT hZ (ow hw 98 rfl)) (g := (mkF m 40 #[(vl q0), .second, (vr b1), .unset, .unset, .unset] [(.long (-9223372036854775808 : Int64))])) rfl (hb hby at_40) _ ?_
      refine XS.lcmp X59.here hx rfl (hb hby at_43) rfl ?_
      show Steps p.tables e below (T59.setTop (mkF m 44 #[(vl q0), .second, (vr b1), .unset, .unset, .unset] [(.int (lcmpW (-9223372036854775808 : Int64) (-9223372036854775808 : Int64)))])) _
      refine XS.ifNo X59.here hx rfl (hb hby at_44) rfl ((if0 _ _).trans (teq (by decide : (lcmpW (-9223372036854775808 : Int64) (-9223372036854775808 : Int64)) = (0 : Int32))).2) ?_
      refine XS.iconst X59.here hx rfl (hb hby at_47) ?_
      refine XS.goto X59.here hx rfl (pc0 := 48) (pc' := 52) rfl (hb hby at_48) (by decide) (by decide) ?_
      refine XS.istoreN X59.here hx rfl (hb hby at_52) rfl (l' := #[(vl q0), .second, (vr b1), (vi 1), .unset, .unset]) rfl ?_
      refine XS.aloadN X59.here hx rfl (hb hby at_53) rfl rfl ?_
      show Steps p.tables e below (T59.setTop (mkF m 54 #[(vl q0), .second, (vr b1), (vi 1), .unset, .unset] [(.ref b1)])) _
      refine XS.lloadN X59.here hx rfl (hb hby at_54) rfl ?_
      refine st60 _ ?_
      refine XS.dup X60.here hx rfl (hb hby at_58) rfl rfl ?_
      refine st74.trans ?_
      refine st76 _ ?_
      show Steps p.tables e below (T76.setTop (mkF m 65 #[(vl q0), .second, (vr b1), (vi 1), .unset, .unset] [(.ref b76), (.ref b60), (.long q0), (.ref b1)])) _
      refine XS.dup X76.here hx rfl (hb hby at_65) rfl rfl ?_
      refine st93.trans ?_
      refine st104.trans ?_
      refine XS.astore X104.here hx rfl (hb hby at_72) rfl rfl (l' := #[(vl q0), .second, (vr b1), (vi 1), (vr e1_104), .unset]) rfl ?_
      refine XS.lloadN X104.here hx rfl (hb hby at_74) rfl ?_
      show Steps p.tables e below (T104.setTop (mkF m 75 #[(vl q0), .second, (vr b1), (vi 1), (vr e1_104), .unset] [(.long q0)])) _
      refine X104.ldc2Long hx hown (mvT hZ (ow hw 98 rfl)) (g := (mkF m 75 #[(vl q0), .second, (vr b1), (vi 1), (vr e1_104), .unset] [(.long q0)])) rfl (hb hby at_75) _ ?_
      refine XS.lcmp X104.here hx rfl (hb hby at_78) rfl ?_
      exact k
    obtain ⟨exp, hexp⟩ : ∃ z : Int32, z = (if (lcmpW q0 (-9223372036854775808 : Int64)) = (0 : Int32) then (0 : Int32) else (1 : Int32)) := ⟨_, rfl⟩
    have pre125 : ∀ t, Steps p.tables e below (T104.setTop (mkF m 87 #[(vl q0), .second, (vr b1), (vi 1), (vr e1_104), .unset] [(.int exp)])) t → Steps p.tables e below (s₁.setTop (entryFrame m #[(.long q0)] maxLocals)) t := by
      intro t k
      rw [hexp] at k
      refine pre123 t ?_
      show Steps p.tables e below (T104.setTop (mkF m 79 #[(vl q0), .second, (vr b1), (vi 1), (vr e1_104), .unset] [(.int (lcmpW q0 (-9223372036854775808 : Int64)))])) _
      rcases Decidable.em ((lcmpW q0 (-9223372036854775808 : Int64)) = (0 : Int32)) with hm124 | hm124
      · first | simp only [if_pos hm124] at k | skip
        refine XS.ifYes X104.here hx rfl (pc0 := 79) (pc' := 86) rfl (hb hby at_79) rfl ((if0 _ _).trans (teq hm124).1) (by decide) (by decide) ?_
        refine XS.iconst X104.here hx rfl (hb hby at_86) ?_
        exact k
      · first | simp only [if_neg hm124] at k | skip
        refine XS.ifNo X104.here hx rfl (hb hby at_79) rfl ((if0 _ _).trans (feq hm124).1) ?_
        refine XS.iconst X104.here hx rfl (hb hby at_82) ?_
        refine XS.goto X104.here hx rfl (pc0 := 83) (pc' := 87) rfl (hb hby at_83) (by decide) (by decide) ?_
        exact k
    obtain ⟨cq126, kq126, q126a, q126b, q126c⟩ := isOf hZ rfl p104_1
    obtain ⟨_, _, ⟨T126, L126, k126, n126⟩, -, X126, ⟨Lc126, hQ126, l126, y126, z126⟩, st126⟩ := X104.virtualBack hx (y := M13) (z := M13) hown (mvT hZ (ow hw 93 rfl)) (mvT hZ (ow hw 94 rfl)) (notFace_of_selects (args := #[]) (mvT hZ (ow hw 96 rfl))) (mvT hZ (ow hw 96 rfl)) (mvT hZ (ow hw 95 rfl)) (by decide) (backOf (W := 0) (au13_1 l Z a0 hw [] wDEFAULTCAPACITY_EMPTY_ELEMENTDATA wEMPTY_LIST hS e1_104 q0 T104.heap n0 O122 p104_4) hZ (ow hw 97 rfl) (ow hw 2 rfl) (by decide) (by decide)) q126a q126c (g := (mkF m 95 #[(vl q0), .second, (vr b1), (vi 1), (vr e1_104), (vi exp)] [(.ref e1_104)])) rfl (by rw [hml]; rfl) (Steps.refl _) (argsL := []) (rest := []) (lenOf pd_7 rfl) rfl (by show 2 * 0 + _ ≤ _; exact Nat.le_of_eq rfl) (hb hby at_95) (fun _ _ => ⟨rfl, rfl, (by decide : 9 + 0 ≤ _), (by decide : 25 + 0 ≤ _)⟩)
    dsimp only [Pt.U, Pt.locs, Pt.cells, Pt.slots] at X126 l126 y126 z126 st126 hQ126
    subst l126 y126 z126
    obtain ⟨rfl, Nq126, K126q⟩ := hQ126
    have N126 := Fr.app N104 Nq126
    obtain ⟨cq127, kq127, q127a, q127b, q127c⟩ := isOf hZ K126q p104_1
    obtain ⟨_, _, ⟨T127, L127, k127, n127⟩, -, X127, ⟨Lc127, hQ127, l127, y127, z127⟩, st127⟩ := X126.virtualBack hx (y := M4) (z := M4) hown (mvT hZ (ow hw 88 rfl)) (mvT hZ (ow hw 89 rfl)) (notFace_of_selects (args := #[]) (mvT hZ (ow hw 91 rfl))) (mvT hZ (ow hw 91 rfl)) (mvT hZ (ow hw 90 rfl)) (by decide) (backOf (W := 0) (rmIP l Z a0 hw [] wDEFAULTCAPACITY_EMPTY_ELEMENTDATA wEMPTY_LIST hS e1_104 q0 T104.heap n0 O122 p104_4) hZ (ow hw 92 rfl) (ow hw 2 rfl) (by decide) (by decide)) q127a q127c (g := (mkF m 105 #[(vl q0), .second, (vr b1), (vi 1), (vr e1_104), (vi exp)] [(.ref e1_104)])) rfl (by rw [hml]; rfl) (Steps.refl _) (argsL := []) (rest := []) (lenOf pd_0 rfl) rfl (by show 2 * 0 + _ ≤ _; exact Nat.le_of_eq rfl) (hb hby at_105) (fun _ _ => ⟨rfl, K126q, (by decide : 9 + 0 ≤ _), (by decide : 25 + 0 ≤ _)⟩)
    dsimp only [Pt.U, Pt.locs, Pt.cells, Pt.slots] at X127 l127 y127 z127 st127 hQ127
    subst l127 y127 z127
    obtain ⟨r_127, rfl, Nq127, K127q, p127_0⟩ := hQ127
    have N127 := Fr.app N126 Nq127
    obtain ⟨fs, hr, hrun, hended, hW, hsame⟩ := X127.leave (v := some (.int 1)) (fun h => by rw [hret0] at h; cases h)
    refine ⟨_, _, pre125 _ ?_, hrun, hended, _, _, rfl, ?_, ⟨_, rfl⟩, hW, hsame.mono (by decide) (by decide)⟩
    · skip
      show Steps p.tables e below (T104.setTop (mkF m 87 #[(vl q0), .second, (vr b1), (vi 1), (vr e1_104), .unset] [(.int exp)])) _
      refine XS.istore X104.here hx rfl (hb hby at_87) rfl (l' := #[(vl q0), .second, (vr b1), (vi 1), (vr e1_104), (vi exp)]) rfl ?_
      refine XS.iloadN X104.here hx rfl (hb hby at_89) rfl ?_
      refine XS.ifNo X104.here hx rfl (hb hby at_90) rfl ((if0 _ _).trans (feq (by decide : ¬ ((1 : Int32) = (0 : Int32)))).1) ?_
      refine XS.aload X104.here hx rfl (hb hby at_93) rfl rfl ?_
      refine st126.trans ?_
      show Steps p.tables e below (T126.setTop (mkF m 98 #[(vl q0), .second, (vr b1), (vi 1), (vr e1_104), (vi exp)] [(.long q0)])) _
      refine XS.lloadN X126.here hx rfl (hb hby at_98) rfl ?_
      refine XS.lcmp X126.here hx rfl (hb hby at_99) rfl ?_
      refine XS.ifNo X126.here hx rfl (hb hby at_100) rfl ((if0 _ _).trans (teq (own_lc _ : (lcmpW q0 q0) = (0 : Int32))).2) ?_
      refine XS.aload X126.here hx rfl (hb hby at_103) rfl rfl ?_
      refine st127.trans ?_
      show Steps p.tables e below (T127.setTop (mkF m 108 #[(vl q0), .second, (vr b1), (vi 1), (vr e1_104), (vi exp)] [(.int r_127)])) _
      refine XS.iload X127.here hx rfl (hb hby at_108) rfl ?_
      refine XS.icmpNo X127.here hx rfl (hb hby at_110) rfl (teq (p127_0.trans hexp.symm : r_127 = exp)).2 ?_
      refine XS.iconst X127.here hx rfl (hb hby at_113) ?_
      refine XS.goto X127.here hx rfl (pc0 := 114) (pc' := 118) rfl (hb hby at_114) (by decide) (by decide) ?_
      exact retN X127 hx (t := .boolean) hret0 (by simp) (hb hby at_118) hr
    · show Q_rm0 Z wDEFAULTCAPACITY_EMPTY_ELEMENTDATA wEMPTY_LIST q0 h0 n0 _ T127.heap _
      rw [K127q]
      exact ⟨rfl, N127⟩
  · skip
    obtain ⟨T128, h128, X128, e128, E128, A128, D128, -, st128⟩ := newO X0 hx hZ hown (ow hw 0 rfl) (ow hw 1 rfl) (ow hw 2 rfl) e0 (g := (mkF m 0 #[(vl q0), .second, .unset, .unset, .unset, .unset] [])) rfl (hb hby at_0) (by decide) (by decide)
    obtain ⟨b128, g128⟩ : ∃ z, z = h0.size := ⟨_, rfl⟩
    rw [← g128] at A128 D128 st128
    have g129 : n0 ≤ b128 := Nat.le_trans (own_sz O0) (Nat.le_of_eq g128.symm)
    have O130 : Old Z n0 h128 := O0.ext E128
    have f131 : Fld Z h128 b128 s4n "resources" s7n .null := D128 (Or.inr (ow hw 79 rfl)) (ty := (.object s3n)) (by decide)
    have f132 : Fld Z h128 b128 s4n "conflicts" s7n .null := D128 (Or.inr (ow hw 81 rfl)) (ty := (.object s3n)) (by decide)
    have f133 : Fld Z h128 b128 s4n "trains" s7n .null := D128 (Or.inr (ow hw 83 rfl)) (ty := (.object s3n)) (by decide)
    have f134 : Fld Z h128 b128 s4n "moment" "J" (.long 0) := D128 (Or.inr (ow hw 85 rfl)) (ty := .long) (by decide)
    have f135 : Fld Z h128 b128 s4n "entered" "[[J" .null := D128 (Or.inr (ow hw 87 rfl)) (ty := (.array (.array .long))) (by decide)
    obtain ⟨T136, h136, X136, e136, E136, A136, D136, -, st136⟩ := newO X128 hx hZ hown (ow hw 3 rfl) (ow hw 4 rfl) (ow hw 5 rfl) e128 (g := (mkF m 4 #[(vl q0), .second, .unset, .unset, .unset, .unset] [(.ref b128), (.ref b128)])) rfl (hb hby at_4) (by decide) (by decide)
    obtain ⟨b136, g136⟩ : ∃ z, z = h128.size := ⟨_, rfl⟩
    rw [← g136] at A136 D136 st136
    have ne137 : b128 ≠ b136 := Nat.ne_of_lt (Nat.lt_of_lt_of_le A128.lt (Nat.le_of_eq g136.symm))
    have g138 : n0 ≤ b136 := Nat.le_trans (own_sz O130) (Nat.le_of_eq g136.symm)
    have O139 : Old Z n0 h136 := O130.ext E136
    have f140 : Fld Z h136 b136 s5n "modCount" "I" (.int 0) := D136 (Or.inl (ow hw 25 rfl)) (ty := .int) (by decide)
    have f141 : Fld Z h136 b136 s0n "elementData" s1n .null := D136 (Or.inl (ow hw 28 rfl)) (ty := (.array (.object s6n))) (by decide)
    have f142 : Fld Z h136 b136 s0n "size" "I" (.int 0) := D136 (Or.inl (ow hw 43 rfl)) (ty := .int) (by decide)
    obtain ⟨_, _, ⟨T143, L143, k143, n143⟩, -, X143, ⟨Lc143, hQ143, l143, y143, z143⟩, st143⟩ := X136.specialBack hx (y := M7) rfl hown (mvT hZ (ow hw 6 rfl)) (mvT hZ (ow hw 7 rfl)) (mvT hZ (ow hw 8 rfl)) (by decide) (backOf (W := 3) (au1_0 l Z a0 hw [] wDEFAULTCAPACITY_EMPTY_ELEMENTDATA wEMPTY_LIST hS b136 h136 n0 O139 A136 f140 f141 f142 g138) hZ (ow hw 8 rfl) (ow hw 5 rfl) (by decide) (by decide)) (g := (mkF m 8 #[(vl q0), .second, .unset, .unset, .unset, .unset] [(.ref b136), (.ref b136), (.ref b128), (.ref b128)])) rfl (by rw [hml]; rfl) (Steps.refl _) (a := b136) (argsL := []) (rest := [(.ref b136), (.ref b128), (.ref b128)]) (lenOf pd_2 rfl) rfl (by show 2 * 0 + _ ≤ _; exact Nat.le_of_eq rfl) (hb hby at_8) (fun _ _ => ⟨rfl, e136, (by decide : 2 + 0 ≤ _), (by decide : 8 + 0 ≤ _)⟩)
    dsimp only [Pt.U, Pt.locs, Pt.cells, Pt.slots] at X143 l143 y143 z143 st143 hQ143
    subst l143 y143 z143
    obtain ⟨rfl, Nq143, K143q, p143_0, p143_1, p143_2, p143_3⟩ := hQ143
    have N143 := Fr.app N0 Nq143
    have O144 : Old Z n0 T143.heap := O139.keep K143q (allS g138 all0)
    obtain ⟨T145, h145, X145, e145, E145, A145, D145, -, st145⟩ := newO X143 hx hZ hown (ow hw 3 rfl) (ow hw 4 rfl) (ow hw 5 rfl) rfl (g := (mkF m 11 #[(vl q0), .second, .unset, .unset, .unset, .unset] [(.ref b136), (.ref b128), (.ref b128)])) rfl (hb hby at_11) (by decide) (by decide)
    obtain ⟨b145, g145⟩ : ∃ z, z = T143.heap.size := ⟨_, rfl⟩
    rw [← g145] at A145 D145 st145
    have f147 : Exa Z T143.heap b128 s4n := ((A128.ext E136).keep K143q)
    have ne146 : b128 ≠ b145 := Nat.ne_of_lt (Nat.lt_of_lt_of_le f147.lt (Nat.le_of_eq g145.symm))
    have ne148 : b136 ≠ b145 := Nat.ne_of_lt (Nat.lt_of_lt_of_le p143_0.lt (Nat.le_of_eq g145.symm))
    have g149 : n0 ≤ b145 := Nat.le_trans (own_sz O144) (Nat.le_of_eq g145.symm)
    have O150 : Old Z n0 h145 := O144.ext E145
    have f151 : Fld Z h145 b145 s5n "modCount" "I" (.int 0) := D145 (Or.inl (ow hw 25 rfl)) (ty := .int) (by decide)
    have f152 : Fld Z h145 b145 s0n "elementData" s1n .null := D145 (Or.inl (ow hw 28 rfl)) (ty := (.array (.object s6n))) (by decide)
    have f153 : Fld Z h145 b145 s0n "size" "I" (.int 0) := D145 (Or.inl (ow hw 43 rfl)) (ty := .int) (by decide)
    obtain ⟨_, _, ⟨T154, L154, k154, n154⟩, -, X154, ⟨Lc154, hQ154, l154, y154, z154⟩, st154⟩ := X145.specialBack hx (y := M7) rfl hown (mvT hZ (ow hw 6 rfl)) (mvT hZ (ow hw 7 rfl)) (mvT hZ (ow hw 8 rfl)) (by decide) (backOf (W := 4) (au1_0 l Z a0 hw [] wDEFAULTCAPACITY_EMPTY_ELEMENTDATA wEMPTY_LIST hS b145 h145 n0 O150 A145 f151 f152 f153 g149) hZ (ow hw 8 rfl) (ow hw 5 rfl) (by decide) (by decide)) (g := (mkF m 15 #[(vl q0), .second, .unset, .unset, .unset, .unset] [(.ref b145), (.ref b145), (.ref b136), (.ref b128), (.ref b128)])) rfl (by rw [hml]; rfl) (Steps.refl _) (a := b145) (argsL := []) (rest := [(.ref b145), (.ref b136), (.ref b128), (.ref b128)]) (lenOf pd_2 rfl) rfl (by show 2 * 0 + _ ≤ _; exact Nat.le_of_eq rfl) (hb hby at_15) (fun _ _ => ⟨rfl, e145, (by decide : 3 + 0 ≤ _), (by decide : 11 + 0 ≤ _)⟩)
    dsimp only [Pt.U, Pt.locs, Pt.cells, Pt.slots] at X154 l154 y154 z154 st154 hQ154
    subst l154 y154 z154
    obtain ⟨rfl, Nq154, K154q, p154_0, p154_1, p154_2, p154_3⟩ := hQ154
    have N154 := Fr.app N143 Nq154
    have O155 : Old Z n0 T154.heap := O150.keep K154q (allS g149 all0)
    obtain ⟨T156, h156, X156, e156, E156, A156, D156, -, st156⟩ := newO X154 hx hZ hown (ow hw 3 rfl) (ow hw 4 rfl) (ow hw 5 rfl) rfl (g := (mkF m 18 #[(vl q0), .second, .unset, .unset, .unset, .unset] [(.ref b145), (.ref b136), (.ref b128), (.ref b128)])) rfl (hb hby at_18) (by decide) (by decide)
    obtain ⟨b156, g156⟩ : ∃ z, z = T154.heap.size := ⟨_, rfl⟩
    rw [← g156] at A156 D156 st156
    have f158 : Exa Z T154.heap b128 s4n := ((f147.ext E145).keep K154q)
    have ne157 : b128 ≠ b156 := Nat.ne_of_lt (Nat.lt_of_lt_of_le f158.lt (Nat.le_of_eq g156.symm))
    have f160 : Exa Z T154.heap b136 s0n := ((p143_0.ext E145).keep K154q)
    have ne159 : b136 ≠ b156 := Nat.ne_of_lt (Nat.lt_of_lt_of_le f160.lt (Nat.le_of_eq g156.symm))
    have ne161 : b145 ≠ b156 := Nat.ne_of_lt (Nat.lt_of_lt_of_le p154_0.lt (Nat.le_of_eq g156.symm))
    have g162 : n0 ≤ b156 := Nat.le_trans (own_sz O155) (Nat.le_of_eq g156.symm)
    have O163 : Old Z n0 h156 := O155.ext E156
    have f164 : Fld Z h156 b156 s5n "modCount" "I" (.int 0) := D156 (Or.inl (ow hw 25 rfl)) (ty := .int) (by decide)
    have f165 : Fld Z h156 b156 s0n "elementData" s1n .null := D156 (Or.inl (ow hw 28 rfl)) (ty := (.array (.object s6n))) (by decide)
    have f166 : Fld Z h156 b156 s0n "size" "I" (.int 0) := D156 (Or.inl (ow hw 43 rfl)) (ty := .int) (by decide)
    obtain ⟨_, _, ⟨T167, L167, k167, n167⟩, -, X167, ⟨Lc167, hQ167, l167, y167, z167⟩, st167⟩ := X156.specialBack hx (y := M7) rfl hown (mvT hZ (ow hw 6 rfl)) (mvT hZ (ow hw 7 rfl)) (mvT hZ (ow hw 8 rfl)) (by decide) (backOf (W := 5) (au1_0 l Z a0 hw [] wDEFAULTCAPACITY_EMPTY_ELEMENTDATA wEMPTY_LIST hS b156 h156 n0 O163 A156 f164 f165 f166 g162) hZ (ow hw 8 rfl) (ow hw 5 rfl) (by decide) (by decide)) (g := (mkF m 22 #[(vl q0), .second, .unset, .unset, .unset, .unset] [(.ref b156), (.ref b156), (.ref b145), (.ref b136), (.ref b128), (.ref b128)])) rfl (by rw [hml]; rfl) (Steps.refl _) (a := b156) (argsL := []) (rest := [(.ref b156), (.ref b145), (.ref b136), (.ref b128), (.ref b128)]) (lenOf pd_2 rfl) rfl (by show 2 * 0 + _ ≤ _; exact Nat.le_of_eq rfl) (hb hby at_22) (fun _ _ => ⟨rfl, e156, (by decide : 4 + 0 ≤ _), (by decide : 14 + 0 ≤ _)⟩)
    dsimp only [Pt.U, Pt.locs, Pt.cells, Pt.slots] at X167 l167 y167 z167 st167 hQ167
    subst l167 y167 z167
    obtain ⟨rfl, Nq167, K167q, p167_0, p167_1, p167_2, p167_3⟩ := hQ167
    have N167 := Fr.app N154 Nq167
    have O168 : Old Z n0 T167.heap := O163.keep K167q (allS g162 all0)
    have f169 : Exa Z T167.heap b128 s4n := ((f158.ext E156).keep K167q)
    have f170 : Fld Z T167.heap b128 s4n "conflicts" s7n .null := ((((((f132.ext E136).keep K143q (ninS ne137 nin0)).ext E145).keep K154q (ninS ne146 nin0)).ext E156).keep K167q (ninS ne157 nin0))
    have f171 : Fld Z T167.heap b128 s4n "entered" "[[J" .null := ((((((f135.ext E136).keep K143q (ninS ne137 nin0)).ext E145).keep K154q (ninS ne146 nin0)).ext E156).keep K167q (ninS ne157 nin0))
    have f172 : Fld Z T167.heap b128 s4n "moment" "J" (.long 0) := ((((((f134.ext E136).keep K143q (ninS ne137 nin0)).ext E145).keep K154q (ninS ne146 nin0)).ext E156).keep K167q (ninS ne157 nin0))
    have f173 : Fld Z T167.heap b128 s4n "resources" s7n .null := ((((((f131.ext E136).keep K143q (ninS ne137 nin0)).ext E145).keep K154q (ninS ne146 nin0)).ext E156).keep K167q (ninS ne157 nin0))
    have f174 : Fld Z T167.heap b128 s4n "trains" s7n .null := ((((((f133.ext E136).keep K143q (ninS ne137 nin0)).ext E145).keep K154q (ninS ne146 nin0)).ext E156).keep K167q (ninS ne157 nin0))
    have f175 : Exa Z T167.heap b136 s0n := ((f160.ext E156).keep K167q)
    have f176 : Fld Z T167.heap b136 s0n "size" "I" (.int 0) := ((((p143_3.ext E145).keep K154q (ninS ne148 nin0)).ext E156).keep K167q (ninS ne159 nin0))
    have f177 : Exa Z T167.heap b145 s0n := ((p154_0.ext E156).keep K167q)
    have f178 : Fld Z T167.heap b145 s0n "size" "I" (.int 0) := ((p154_3.ext E156).keep K167q (ninS ne161 nin0))
    obtain ⟨_, _, ⟨T179, L179, k179, n179⟩, -, X179, ⟨Lc179, hQ179, l179, y179, z179⟩, st179⟩ := X167.specialBack hx (y := M11) rfl hown (mvT hZ (ow hw 29 rfl)) (mvT hZ (ow hw 30 rfl)) (mvT hZ (ow hw 31 rfl)) (by decide) (backOf (W := 1) (au5_1 l Z a0 hw [] wDEFAULTCAPACITY_EMPTY_ELEMENTDATA wEMPTY_LIST hS b128 b136 b145 b156 T167.heap n0 O168 f169 f170 f171 f172 f173 f174 f175 f176 f177 f178 p167_0 p167_3 hA g129 ne146 ne157) hZ (ow hw 31 rfl) (ow hw 2 rfl) (by decide) (by decide)) (g := (mkF m 25 #[(vl q0), .second, .unset, .unset, .unset, .unset] [(.ref b156), (.ref b145), (.ref b136), (.ref b128), (.ref b128)])) rfl (by rw [hml]; rfl) (Steps.refl _) (a := b128) (argsL := [(.ref b136), (.ref b145), (.ref b156)]) (rest := [(.ref b128)]) (lenOf pd_6 rfl) rfl (by show 2 * 0 + _ ≤ _; exact Nat.le_of_eq rfl) (hb hby at_25) (fun _ _ => ⟨rfl, rfl, (by decide : 4 + 1 ≤ _), (by decide : 14 + 0 ≤ _)⟩)
    dsimp only [Pt.U, Pt.locs, Pt.cells, Pt.slots] at X179 l179 y179 z179 st179 hQ179
    subst l179 y179 z179
    obtain ⟨e1_179, e2_179, rfl, Nq179, K179q, p179_0, p179_1, p179_2, p179_3, p179_4, p179_5, p179_6, p179_7, p179_8, p179_9⟩ := hQ179
    have N179 := Fr.app N167 Nq179
    have ne180 : b128 ≠ e1_179 := Nat.ne_of_lt (Nat.lt_of_lt_of_le f169.lt p179_6)
    have ne181 : b136 ≠ e1_179 := Nat.ne_of_lt (Nat.lt_of_lt_of_le f175.lt p179_6)
    have ne182 : b145 ≠ e1_179 := Nat.ne_of_lt (Nat.lt_of_lt_of_le f177.lt p179_6)
    have ne183 : b156 ≠ e1_179 := Nat.ne_of_lt (Nat.lt_of_lt_of_le p167_0.lt p179_6)
    have g184 : n0 ≤ e1_179 := Nat.le_trans (own_sz O168) p179_6
    have O185 : Old Z n0 T179.heap := O168.keep K179q (allS g129 all0)
    obtain ⟨cq186, kq186, q186a, q186b, q186c⟩ := isOf hZ rfl p179_0
    obtain ⟨_, _, ⟨T186, L186, k186, n186⟩, -, X186, ⟨Lc186, hQ186, l186, y186, z186⟩, st186⟩ := X179.virtualBack hx (y := M4) (z := M4) hown (mvT hZ (ow hw 88 rfl)) (mvT hZ (ow hw 89 rfl)) (notFace_of_selects (args := #[]) (mvT hZ (ow hw 91 rfl))) (mvT hZ (ow hw 91 rfl)) (mvT hZ (ow hw 90 rfl)) (by decide) (backOf (W := 0) (rmIP l Z a0 hw [] wDEFAULTCAPACITY_EMPTY_ELEMENTDATA wEMPTY_LIST hS b128 (-9223372036854775808 : Int64) T179.heap n0 O185 p179_3) hZ (ow hw 92 rfl) (ow hw 2 rfl) (by decide) (by decide)) q186a q186c (g := (mkF m 30 #[(vl q0), .second, (vr b128), .unset, .unset, .unset] [(.ref b128)])) rfl (by rw [hml]; rfl) (Steps.refl _) (argsL := []) (rest := []) (lenOf pd_0 rfl) rfl (by show 2 * 0 + _ ≤ _; exact Nat.le_of_eq rfl) (hb hby at_30) (fun _ _ => ⟨rfl, rfl, (by decide : 5 + 0 ≤ _), (by decide : 14 + 0 ≤ _)⟩)
    dsimp only [Pt.U, Pt.locs, Pt.cells, Pt.slots] at X186 l186 y186 z186 st186 hQ186
    subst l186 y186 z186
    obtain ⟨r_186, rfl, Nq186, K186q, p186_0⟩ := hQ186
    have N186 := Fr.app N179 Nq186
    have pre187 : ∀ t, Steps p.tables e below (T186.setTop (mkF m 33 #[(vl q0), .second, (vr b128), .unset, .unset, .unset] [(.int 0)])) t → Steps p.tables e below (s₁.setTop (entryFrame m #[(.long q0)] maxLocals)) t := by
      intro t k
      refine pre0 t ?_
      show Steps p.tables e below (s₁.setTop (mkF m 0 #[(vl q0), .second, .unset, .unset, .unset, .unset] [])) _
      refine st128 _ ?_
      refine XS.dup X128.here hx rfl (hb hby at_3) rfl rfl ?_
      refine st136 _ ?_
      refine XS.dup X136.here hx rfl (hb hby at_7) rfl rfl ?_
      refine st143.trans ?_
      show Steps p.tables e below (T143.setTop (mkF m 11 #[(vl q0), .second, .unset, .unset, .unset, .unset] [(.ref b136), (.ref b128), (.ref b128)])) _
      refine st145 _ ?_
      refine XS.dup X145.here hx rfl (hb hby at_14) rfl rfl ?_
      refine st154.trans ?_
      refine st156 _ ?_
      refine XS.dup X156.here hx rfl (hb hby at_21) rfl rfl ?_
      show Steps p.tables e below (T156.setTop (mkF m 22 #[(vl q0), .second, .unset, .unset, .unset, .unset] [(.ref b156), (.ref b156), (.ref b145), (.ref b136), (.ref b128), (.ref b128)])) _
      refine st167.trans ?_
      refine st179.trans ?_
      refine XS.astoreN X179.here hx rfl (hb hby at_28) rfl rfl (l' := #[(vl q0), .second, (vr b128), .unset, .unset, .unset]) rfl ?_
      refine XS.aloadN X179.here hx rfl (hb hby at_29) rfl rfl ?_
      refine st186.trans ?_
      rw [p186_0.trans (if_pos (own_lc _))]
      exact k
    obtain ⟨cq188, kq188, q188a, q188b, q188c⟩ := isOf hZ K186q p179_0
    obtain ⟨_, _, ⟨T188, L188, k188, n188⟩, -, X188, ⟨Lc188, hQ188, l188, y188, z188⟩, st188⟩ := X186.virtualBack hx (y := M13) (z := M13) hown (mvT hZ (ow hw 93 rfl)) (mvT hZ (ow hw 94 rfl)) (notFace_of_selects (args := #[]) (mvT hZ (ow hw 96 rfl))) (mvT hZ (ow hw 96 rfl)) (mvT hZ (ow hw 95 rfl)) (by decide) (backOf (W := 0) (au13_0 l Z a0 hw [] wDEFAULTCAPACITY_EMPTY_ELEMENTDATA wEMPTY_LIST hS b128 T179.heap n0 O185 p179_3) hZ (ow hw 97 rfl) (ow hw 2 rfl) (by decide) (by decide)) q188a q188c (g := (mkF m 37 #[(vl q0), .second, (vr b128), .unset, .unset, .unset] [(.ref b128)])) rfl (by rw [hml]; rfl) (Steps.refl _) (argsL := []) (rest := []) (lenOf pd_7 rfl) rfl (by show 2 * 0 + _ ≤ _; exact Nat.le_of_eq rfl) (hb hby at_37) (fun _ _ => ⟨rfl, K186q, (by decide : 5 + 0 ≤ _), (by decide : 14 + 0 ≤ _)⟩)
    dsimp only [Pt.U, Pt.locs, Pt.cells, Pt.slots] at X188 l188 y188 z188 st188 hQ188
    subst l188 y188 z188
    obtain ⟨rfl, Nq188, K188q⟩ := hQ188
    have N188 := Fr.app N186 Nq188
    obtain ⟨T189, h189, X189, e189, E189, A189, D189, -, st189⟩ := newO X188 hx hZ hown (ow hw 3 rfl) (ow hw 4 rfl) (ow hw 5 rfl) K188q (g := (mkF m 55 #[(vl q0), .second, (vr b128), (vi 1), .unset, .unset] [(.long q0), (.ref b128)])) rfl (hb hby at_55) (by decide) (by decide)
    obtain ⟨b189, g189⟩ : ∃ z, z = T179.heap.size := ⟨_, rfl⟩
    rw [← g189] at A189 D189 st189
    have ne190 : b128 ≠ b189 := Nat.ne_of_lt (Nat.lt_of_lt_of_le p179_0.lt (Nat.le_of_eq g189.symm))
    have f192 : Exa Z T179.heap b136 s0n := (f175.keep K179q)
    have ne191 : b136 ≠ b189 := Nat.ne_of_lt (Nat.lt_of_lt_of_le f192.lt (Nat.le_of_eq g189.symm))
    have f194 : Exa Z T179.heap b145 s0n := (f177.keep K179q)
    have ne193 : b145 ≠ b189 := Nat.ne_of_lt (Nat.lt_of_lt_of_le f194.lt (Nat.le_of_eq g189.symm))
    have f196 : Exa Z T179.heap b156 s0n := (p167_0.keep K179q)
    have ne195 : b156 ≠ b189 := Nat.ne_of_lt (Nat.lt_of_lt_of_le f196.lt (Nat.le_of_eq g189.symm))
    have ne197 : e1_179 ≠ b189 := Nat.ne_of_lt (Nat.lt_of_lt_of_le p179_7.lt (Nat.le_of_eq g189.symm))
    have g198 : n0 ≤ b189 := Nat.le_trans (own_sz O185) (Nat.le_of_eq g189.symm)
    have O199 : Old Z n0 h189 := O185.ext E189
    have f200 : Fld Z h189 b189 s5n "modCount" "I" (.int 0) := D189 (Or.inl (ow hw 25 rfl)) (ty := .int) (by decide)
    have f201 : Fld Z h189 b189 s0n "elementData" s1n .null := D189 (Or.inl (ow hw 28 rfl)) (ty := (.array (.object s6n))) (by decide)
    have f202 : Fld Z h189 b189 s0n "size" "I" (.int 0) := D189 (Or.inl (ow hw 43 rfl)) (ty := .int) (by decide)
    obtain ⟨_, _, ⟨T203, L203, k203, n203⟩, -, X203, ⟨Lc203, hQ203, l203, y203, z203⟩, st203⟩ := X189.specialBack hx (y := M7) rfl hown (mvT hZ (ow hw 6 rfl)) (mvT hZ (ow hw 7 rfl)) (mvT hZ (ow hw 8 rfl)) (by decide) (backOf (W := 4) (au1_0 l Z a0 hw [] wDEFAULTCAPACITY_EMPTY_ELEMENTDATA wEMPTY_LIST hS b189 h189 n0 O199 A189 f200 f201 f202 g198) hZ (ow hw 8 rfl) (ow hw 5 rfl) (by decide) (by decide)) (g := (mkF m 59 #[(vl q0), .second, (vr b128), (vi 1), .unset, .unset] [(.ref b189), (.ref b189), (.long q0), (.ref b128)])) rfl (by rw [hml]; rfl) (Steps.refl _) (a := b189) (argsL := []) (rest := [(.ref b189), (.long q0), (.ref b128)]) (lenOf pd_2 rfl) rfl (by show 2 * 0 + _ ≤ _; exact Nat.le_of_eq rfl) (hb hby at_59) (fun _ _ => ⟨rfl, e189, (by decide : 6 + 0 ≤ _), (by decide : 17 + 0 ≤ _)⟩)
    dsimp only [Pt.U, Pt.locs, Pt.cells, Pt.slots] at X203 l203 y203 z203 st203 hQ203
    subst l203 y203 z203
    obtain ⟨rfl, Nq203, K203q, p203_0, p203_1, p203_2, p203_3⟩ := hQ203
    have N203 := Fr.app N188 Nq203
    have O204 : Old Z n0 T203.heap := O199.keep K203q (allS g198 all0)
    obtain ⟨T205, h205, X205, e205, E205, A205, D205, -, st205⟩ := newO X203 hx hZ hown (ow hw 3 rfl) (ow hw 4 rfl) (ow hw 5 rfl) rfl (g := (mkF m 62 #[(vl q0), .second, (vr b128), (vi 1), .unset, .unset] [(.ref b189), (.long q0), (.ref b128)])) rfl (hb hby at_62) (by decide) (by decide)
    obtain ⟨b205, g205⟩ : ∃ z, z = T203.heap.size := ⟨_, rfl⟩
    rw [← g205] at A205 D205 st205
    have f207 : Exa Z T203.heap b128 s4n := ((p179_0.ext E189).keep K203q)
    have ne206 : b128 ≠ b205 := Nat.ne_of_lt (Nat.lt_of_lt_of_le f207.lt (Nat.le_of_eq g205.symm))
    have f209 : Exa Z T203.heap b136 s0n := ((f192.ext E189).keep K203q)
    have ne208 : b136 ≠ b205 := Nat.ne_of_lt (Nat.lt_of_lt_of_le f209.lt (Nat.le_of_eq g205.symm))
    have f211 : Exa Z T203.heap b145 s0n := ((f194.ext E189).keep K203q)
    have ne210 : b145 ≠ b205 := Nat.ne_of_lt (Nat.lt_of_lt_of_le f211.lt (Nat.le_of_eq g205.symm))
    have f213 : Exa Z T203.heap b156 s0n := ((f196.ext E189).keep K203q)
    have ne212 : b156 ≠ b205 := Nat.ne_of_lt (Nat.lt_of_lt_of_le f213.lt (Nat.le_of_eq g205.symm))
    have f215 : Exa Z T203.heap e1_179 "[[J" := ((p179_7.ext E189).keep K203q)
    have ne214 : e1_179 ≠ b205 := Nat.ne_of_lt (Nat.lt_of_lt_of_le f215.lt (Nat.le_of_eq g205.symm))
    have ne216 : b189 ≠ b205 := Nat.ne_of_lt (Nat.lt_of_lt_of_le p203_0.lt (Nat.le_of_eq g205.symm))
    have g217 : n0 ≤ b205 := Nat.le_trans (own_sz O204) (Nat.le_of_eq g205.symm)
    have O218 : Old Z n0 h205 := O204.ext E205
    have f219 : Fld Z h205 b205 s5n "modCount" "I" (.int 0) := D205 (Or.inl (ow hw 25 rfl)) (ty := .int) (by decide)
    have f220 : Fld Z h205 b205 s0n "elementData" s1n .null := D205 (Or.inl (ow hw 28 rfl)) (ty := (.array (.object s6n))) (by decide)
    have f221 : Fld Z h205 b205 s0n "size" "I" (.int 0) := D205 (Or.inl (ow hw 43 rfl)) (ty := .int) (by decide)
    obtain ⟨_, _, ⟨T222, L222, k222, n222⟩, -, X222, ⟨Lc222, hQ222, l222, y222, z222⟩, st222⟩ := X205.specialBack hx (y := M7) rfl hown (mvT hZ (ow hw 6 rfl)) (mvT hZ (ow hw 7 rfl)) (mvT hZ (ow hw 8 rfl)) (by decide) (backOf (W := 5) (au1_0 l Z a0 hw [] wDEFAULTCAPACITY_EMPTY_ELEMENTDATA wEMPTY_LIST hS b205 h205 n0 O218 A205 f219 f220 f221 g217) hZ (ow hw 8 rfl) (ow hw 5 rfl) (by decide) (by decide)) (g := (mkF m 66 #[(vl q0), .second, (vr b128), (vi 1), .unset, .unset] [(.ref b205), (.ref b205), (.ref b189), (.long q0), (.ref b128)])) rfl (by rw [hml]; rfl) (Steps.refl _) (a := b205) (argsL := []) (rest := [(.ref b205), (.ref b189), (.long q0), (.ref b128)]) (lenOf pd_2 rfl) rfl (by show 2 * 0 + _ ≤ _; exact Nat.le_of_eq rfl) (hb hby at_66) (fun _ _ => ⟨rfl, e205, (by decide : 7 + 0 ≤ _), (by decide : 20 + 0 ≤ _)⟩)
    dsimp only [Pt.U, Pt.locs, Pt.cells, Pt.slots] at X222 l222 y222 z222 st222 hQ222
    subst l222 y222 z222
    obtain ⟨rfl, Nq222, K222q, p222_0, p222_1, p222_2, p222_3⟩ := hQ222
    have N222 := Fr.app N203 Nq222
    have O223 : Old Z n0 T222.heap := O218.keep K222q (allS g217 all0)
    have f224 : Exa Z T222.heap b128 s4n := ((f207.ext E205).keep K222q)
    have f225 : Fld Z T222.heap b128 s4n "conflicts" s7n (.ref wEMPTY_LIST) := ((((p179_1.ext E189).keep K203q (ninS ne190 nin0)).ext E205).keep K222q (ninS ne206 nin0))
    have f226 : Fld Z T222.heap b128 s4n "resources" s7n (.ref wEMPTY_LIST) := ((((p179_4.ext E189).keep K203q (ninS ne190 nin0)).ext E205).keep K222q (ninS ne206 nin0))
    have f227 : Exa Z T222.heap b189 s0n := ((p203_0.ext E205).keep K222q)
    have f228 : Fld Z T222.heap b189 s0n "size" "I" (.int 0) := ((p203_3.ext E205).keep K222q (ninS ne216 nin0))
    have f229 : Arv Z T222.heap e1_179 e2_179 (.array .long) (0 : Int32) ([]) .null := ((((p179_8.ext E189).keep K203q (ninS ne197 nin0)).ext E205).keep K222q (ninS ne214 nin0))
    obtain ⟨cq230, kq230, q230a, q230b, q230c⟩ := isOf hZ rfl f224
    obtain ⟨_, _, ⟨T230, L230, k230, n230⟩, -, X230, ⟨Lc230, hQ230, l230, y230, z230⟩, st230⟩ := X222.virtualBack hx (y := M14) (z := M14) hown (mvT hZ (ow hw 99 rfl)) (mvT hZ (ow hw 100 rfl)) (notFace_of_selects (args := #[]) (mvT hZ (ow hw 102 rfl))) (mvT hZ (ow hw 102 rfl)) (mvT hZ (ow hw 101 rfl)) (by decide) (backOf (W := 0) (au14_1 l Z a0 hw [] wDEFAULTCAPACITY_EMPTY_ELEMENTDATA wEMPTY_LIST hS b128 q0 b189 b205 e1_179 e2_179 T222.heap n0 O223 f224 f225 f226 f227 f228 p222_0 p222_3 f229 hA) hZ (ow hw 103 rfl) (ow hw 2 rfl) (by decide) (by decide)) q230a q230c (g := (mkF m 69 #[(vl q0), .second, (vr b128), (vi 1), .unset, .unset] [(.ref b205), (.ref b189), (.long q0), (.ref b128)])) rfl (by rw [hml]; rfl) (Steps.refl _) (argsL := [(.long q0), (.ref b189), (.ref b205)]) (rest := []) (lenOf pd_8 rfl) rfl (by show 2 * 0 + _ ≤ _; exact Nat.le_of_eq rfl) (hb hby at_69) (fun _ _ => ⟨rfl, rfl, (by decide : 7 + 2 ≤ _), (by decide : 20 + 5 ≤ _)⟩)
    dsimp only [Pt.U, Pt.locs, Pt.cells, Pt.slots] at X230 l230 y230 z230 st230 hQ230
    subst l230 y230 z230
    obtain ⟨e1_230, e2_230, e3_230, rfl, Nq230, K230q, p230_0, p230_1, p230_2, p230_3, p230_4, p230_5, p230_6, p230_7, p230_8, p230_9, p230_10⟩ := hQ230
    have N230 := Fr.app N222 Nq230
    have ne231 : b128 ≠ e1_230 := Nat.ne_of_lt (Nat.lt_of_lt_of_le f224.lt p230_0)
    have f233 : Exa Z T222.heap b136 s0n := ((f209.ext E205).keep K222q)
    have ne232 : b136 ≠ e1_230 := Nat.ne_of_lt (Nat.lt_of_lt_of_le f233.lt p230_0)
    have f235 : Exa Z T222.heap b145 s0n := ((f211.ext E205).keep K222q)
    have ne234 : b145 ≠ e1_230 := Nat.ne_of_lt (Nat.lt_of_lt_of_le f235.lt p230_0)
    have f237 : Exa Z T222.heap b156 s0n := ((f213.ext E205).keep K222q)
    have ne236 : b156 ≠ e1_230 := Nat.ne_of_lt (Nat.lt_of_lt_of_le f237.lt p230_0)
    have f239 : Exa Z T222.heap e1_179 "[[J" := ((f215.ext E205).keep K222q)
    have ne238 : e1_179 ≠ e1_230 := Nat.ne_of_lt (Nat.lt_of_lt_of_le f239.lt p230_0)
    have ne240 : b189 ≠ e1_230 := Nat.ne_of_lt (Nat.lt_of_lt_of_le f227.lt p230_0)
    have ne241 : b205 ≠ e1_230 := Nat.ne_of_lt (Nat.lt_of_lt_of_le p222_0.lt p230_0)
    have g242 : n0 ≤ e1_230 := Nat.le_trans (own_sz O223) p230_0
    have ne243 : b128 ≠ e2_230 := Nat.ne_of_lt (Nat.lt_of_lt_of_le f224.lt p230_7)
    have ne244 : b136 ≠ e2_230 := Nat.ne_of_lt (Nat.lt_of_lt_of_le f233.lt p230_7)
    have ne245 : b145 ≠ e2_230 := Nat.ne_of_lt (Nat.lt_of_lt_of_le f235.lt p230_7)
    have ne246 : b156 ≠ e2_230 := Nat.ne_of_lt (Nat.lt_of_lt_of_le f237.lt p230_7)
    have ne247 : e1_179 ≠ e2_230 := Nat.ne_of_lt (Nat.lt_of_lt_of_le f239.lt p230_7)
    have ne248 : b189 ≠ e2_230 := Nat.ne_of_lt (Nat.lt_of_lt_of_le f227.lt p230_7)
    have ne249 : b205 ≠ e2_230 := Nat.ne_of_lt (Nat.lt_of_lt_of_le p222_0.lt p230_7)
    have g250 : n0 ≤ e2_230 := Nat.le_trans (own_sz O223) p230_7
    have O251 : Old Z n0 T230.heap := O223.keep K230q all0
    have pre252 : ∀ t, Steps p.tables e below (T230.setTop (mkF m 79 #[(vl q0), .second, (vr b128), (vi 1), (vr e1_230), .unset] [(.int (lcmpW q0 (-9223372036854775808 : Int64)))])) t → Steps p.tables e below (s₁.setTop (entryFrame m #[(.long q0)] maxLocals)) t := by
      intro t k
      refine pre187 t ?_
      show Steps p.tables e below (T186.setTop (mkF m 33 #[(vl q0), .second, (vr b128), .unset, .unset, .unset] [(.int 0)])) _
      refine XS.ifNo X186.here hx rfl (hb hby at_33) rfl ((if0 _ _).trans (teq (by decide : (0 : Int32) = (0 : Int32))).2) ?_
      refine XS.aloadN X186.here hx rfl (hb hby at_36) rfl rfl ?_
      refine st188.trans ?_
      refine X188.ldc2Long hx hown (mvT hZ (ow hw 98 rfl)) (g := (mkF m 40 #[(vl q0), .second, (vr b128), .unset, .unset, .unset] [(.long (-9223372036854775808 : Int64))])) rfl (hb hby at_40) _ ?_
      refine XS.lcmp X188.here hx rfl (hb hby at_43) rfl ?_
      show Steps p.tables e below (T188.setTop (mkF m 44 #[(vl q0), .second, (vr b128), .unset, .unset, .unset] [(.int (lcmpW (-9223372036854775808 : Int64) (-9223372036854775808 : Int64)))])) _
      refine XS.ifNo X188.here hx rfl (hb hby at_44) rfl ((if0 _ _).trans (teq (by decide : (lcmpW (-9223372036854775808 : Int64) (-9223372036854775808 : Int64)) = (0 : Int32))).2) ?_
      refine XS.iconst X188.here hx rfl (hb hby at_47) ?_
      refine XS.goto X188.here hx rfl (pc0 := 48) (pc' := 52) rfl (hb hby at_48) (by decide) (by decide) ?_
      refine XS.istoreN X188.here hx rfl (hb hby at_52) rfl (l' := #[(vl q0), .second, (vr b128), (vi 1), .unset, .unset]) rfl ?_
      refine XS.aloadN X188.here hx rfl (hb hby at_53) rfl rfl ?_
      show Steps p.tables e below (T188.setTop (mkF m 54 #[(vl q0), .second, (vr b128), (vi 1), .unset, .unset] [(.ref b128)])) _
      refine XS.lloadN X188.here hx rfl (hb hby at_54) rfl ?_
      refine st189 _ ?_
      refine XS.dup X189.here hx rfl (hb hby at_58) rfl rfl ?_
      refine st203.trans ?_
      refine st205 _ ?_
      show Steps p.tables e below (T205.setTop (mkF m 65 #[(vl q0), .second, (vr b128), (vi 1), .unset, .unset] [(.ref b205), (.ref b189), (.long q0), (.ref b128)])) _
      refine XS.dup X205.here hx rfl (hb hby at_65) rfl rfl ?_
      refine st222.trans ?_
      refine st230.trans ?_
      refine XS.astore X230.here hx rfl (hb hby at_72) rfl rfl (l' := #[(vl q0), .second, (vr b128), (vi 1), (vr e1_230), .unset]) rfl ?_
      refine XS.lloadN X230.here hx rfl (hb hby at_74) rfl ?_
      show Steps p.tables e below (T230.setTop (mkF m 75 #[(vl q0), .second, (vr b128), (vi 1), (vr e1_230), .unset] [(.long q0)])) _
      refine X230.ldc2Long hx hown (mvT hZ (ow hw 98 rfl)) (g := (mkF m 75 #[(vl q0), .second, (vr b128), (vi 1), (vr e1_230), .unset] [(.long q0)])) rfl (hb hby at_75) _ ?_
      refine XS.lcmp X230.here hx rfl (hb hby at_78) rfl ?_
      exact k
    obtain ⟨exp, hexp⟩ : ∃ z : Int32, z = (if (lcmpW q0 (-9223372036854775808 : Int64)) = (0 : Int32) then (0 : Int32) else (1 : Int32)) := ⟨_, rfl⟩
    have pre254 : ∀ t, Steps p.tables e below (T230.setTop (mkF m 87 #[(vl q0), .second, (vr b128), (vi 1), (vr e1_230), .unset] [(.int exp)])) t → Steps p.tables e below (s₁.setTop (entryFrame m #[(.long q0)] maxLocals)) t := by
      intro t k
      rw [hexp] at k
      refine pre252 t ?_
      show Steps p.tables e below (T230.setTop (mkF m 79 #[(vl q0), .second, (vr b128), (vi 1), (vr e1_230), .unset] [(.int (lcmpW q0 (-9223372036854775808 : Int64)))])) _
      rcases Decidable.em ((lcmpW q0 (-9223372036854775808 : Int64)) = (0 : Int32)) with hm253 | hm253
      · first | simp only [if_pos hm253] at k | skip
        refine XS.ifYes X230.here hx rfl (pc0 := 79) (pc' := 86) rfl (hb hby at_79) rfl ((if0 _ _).trans (teq hm253).1) (by decide) (by decide) ?_
        refine XS.iconst X230.here hx rfl (hb hby at_86) ?_
        exact k
      · first | simp only [if_neg hm253] at k | skip
        refine XS.ifNo X230.here hx rfl (hb hby at_79) rfl ((if0 _ _).trans (feq hm253).1) ?_
        refine XS.iconst X230.here hx rfl (hb hby at_82) ?_
        refine XS.goto X230.here hx rfl (pc0 := 83) (pc' := 87) rfl (hb hby at_83) (by decide) (by decide) ?_
        exact k
    obtain ⟨cq255, kq255, q255a, q255b, q255c⟩ := isOf hZ rfl p230_1
    obtain ⟨_, _, ⟨T255, L255, k255, n255⟩, -, X255, ⟨Lc255, hQ255, l255, y255, z255⟩, st255⟩ := X230.virtualBack hx (y := M13) (z := M13) hown (mvT hZ (ow hw 93 rfl)) (mvT hZ (ow hw 94 rfl)) (notFace_of_selects (args := #[]) (mvT hZ (ow hw 96 rfl))) (mvT hZ (ow hw 96 rfl)) (mvT hZ (ow hw 95 rfl)) (by decide) (backOf (W := 0) (au13_1 l Z a0 hw [] wDEFAULTCAPACITY_EMPTY_ELEMENTDATA wEMPTY_LIST hS e1_230 q0 T230.heap n0 O251 p230_4) hZ (ow hw 97 rfl) (ow hw 2 rfl) (by decide) (by decide)) q255a q255c (g := (mkF m 95 #[(vl q0), .second, (vr b128), (vi 1), (vr e1_230), (vi exp)] [(.ref e1_230)])) rfl (by rw [hml]; rfl) (Steps.refl _) (argsL := []) (rest := []) (lenOf pd_7 rfl) rfl (by show 2 * 0 + _ ≤ _; exact Nat.le_of_eq rfl) (hb hby at_95) (fun _ _ => ⟨rfl, rfl, (by decide : 9 + 0 ≤ _), (by decide : 25 + 0 ≤ _)⟩)
    dsimp only [Pt.U, Pt.locs, Pt.cells, Pt.slots] at X255 l255 y255 z255 st255 hQ255
    subst l255 y255 z255
    obtain ⟨rfl, Nq255, K255q⟩ := hQ255
    have N255 := Fr.app N230 Nq255
    obtain ⟨cq256, kq256, q256a, q256b, q256c⟩ := isOf hZ K255q p230_1
    obtain ⟨_, _, ⟨T256, L256, k256, n256⟩, -, X256, ⟨Lc256, hQ256, l256, y256, z256⟩, st256⟩ := X255.virtualBack hx (y := M4) (z := M4) hown (mvT hZ (ow hw 88 rfl)) (mvT hZ (ow hw 89 rfl)) (notFace_of_selects (args := #[]) (mvT hZ (ow hw 91 rfl))) (mvT hZ (ow hw 91 rfl)) (mvT hZ (ow hw 90 rfl)) (by decide) (backOf (W := 0) (rmIP l Z a0 hw [] wDEFAULTCAPACITY_EMPTY_ELEMENTDATA wEMPTY_LIST hS e1_230 q0 T230.heap n0 O251 p230_4) hZ (ow hw 92 rfl) (ow hw 2 rfl) (by decide) (by decide)) q256a q256c (g := (mkF m 105 #[(vl q0), .second, (vr b128), (vi 1), (vr e1_230), (vi exp)] [(.ref e1_230)])) rfl (by rw [hml]; rfl) (Steps.refl _) (argsL := []) (rest := []) (lenOf pd_0 rfl) rfl (by show 2 * 0 + _ ≤ _; exact Nat.le_of_eq rfl) (hb hby at_105) (fun _ _ => ⟨rfl, K255q, (by decide : 9 + 0 ≤ _), (by decide : 25 + 0 ≤ _)⟩)
    dsimp only [Pt.U, Pt.locs, Pt.cells, Pt.slots] at X256 l256 y256 z256 st256 hQ256
    subst l256 y256 z256
    obtain ⟨r_256, rfl, Nq256, K256q, p256_0⟩ := hQ256
    have N256 := Fr.app N255 Nq256
    obtain ⟨fs, hr, hrun, hended, hW, hsame⟩ := X256.leave (v := some (.int 1)) (fun h => by rw [hret0] at h; cases h)
    refine ⟨_, _, pre254 _ ?_, hrun, hended, _, _, rfl, ?_, ⟨_, rfl⟩, hW, hsame.mono (by decide) (by decide)⟩
    · skip
      show Steps p.tables e below (T230.setTop (mkF m 87 #[(vl q0), .second, (vr b128), (vi 1), (vr e1_230), .unset] [(.int exp)])) _
      refine XS.istore X230.here hx rfl (hb hby at_87) rfl (l' := #[(vl q0), .second, (vr b128), (vi 1), (vr e1_230), (vi exp)]) rfl ?_
      refine XS.iloadN X230.here hx rfl (hb hby at_89) rfl ?_
      refine XS.ifNo X230.here hx rfl (hb hby at_90) rfl ((if0 _ _).trans (feq (by decide : ¬ ((1 : Int32) = (0 : Int32)))).1) ?_
      refine XS.aload X230.here hx rfl (hb hby at_93) rfl rfl ?_
      refine st255.trans ?_
      show Steps p.tables e below (T255.setTop (mkF m 98 #[(vl q0), .second, (vr b128), (vi 1), (vr e1_230), (vi exp)] [(.long q0)])) _
      refine XS.lloadN X255.here hx rfl (hb hby at_98) rfl ?_
      refine XS.lcmp X255.here hx rfl (hb hby at_99) rfl ?_
      refine XS.ifNo X255.here hx rfl (hb hby at_100) rfl ((if0 _ _).trans (teq (own_lc _ : (lcmpW q0 q0) = (0 : Int32))).2) ?_
      refine XS.aload X255.here hx rfl (hb hby at_103) rfl rfl ?_
      refine st256.trans ?_
      show Steps p.tables e below (T256.setTop (mkF m 108 #[(vl q0), .second, (vr b128), (vi 1), (vr e1_230), (vi exp)] [(.int r_256)])) _
      refine XS.iload X256.here hx rfl (hb hby at_108) rfl ?_
      refine XS.icmpNo X256.here hx rfl (hb hby at_110) rfl (teq (p256_0.trans hexp.symm : r_256 = exp)).2 ?_
      refine XS.iconst X256.here hx rfl (hb hby at_113) ?_
      refine XS.goto X256.here hx rfl (pc0 := 114) (pc' := 118) rfl (hb hby at_114) (by decide) (by decide) ?_
      exact retN X256 hx (t := .boolean) hret0 (by simp) (hb hby at_118) hr
    · show Q_rm0 Z wDEFAULTCAPACITY_EMPTY_ELEMENTDATA wEMPTY_LIST q0 h0 n0 _ T256.heap _
      rw [K256q]
      exact ⟨rfl, N256⟩
theorem comes_1 {Post : Tables → Env → Array Value → State → Outcome → State → Prop} (hpost : ∀ tb e args s v u, (limb_1_1.after args s (.returned v) u = true ∧ limb_1_2.after args s (.returned v) u = true ∧ True) → FrameEnd s (.returned v) u (Jvm.fieldLocs frame_1_writes args s ++ Jvm.arrayLocs frame_1_arrays args s ++ Jvm.staticLocs frame_1_statics s) 32 128 → Post tb e args s (.returned v) u) :
    ArmFor flags0 classFile x code maxLocals ret World_1 tables_1 room_1 Calls_1 rest_1 Pre_1 Post := by
  intro l hfl _ _ p e ha hc hk s m args below hf hA hF happ hP
  obtain ⟨hcalls, hrest, hpre⟩ := hP
  obtain ⟨-, -, -, hnamed, -, -, -, hat⟩ := (Spec.applies_iff hf).mp happ
  obtain ⟨hg, hn⟩ := and_e (Cond.before_iff.mp (show (Jvm.Cond.and given_1 narrow_1).before args s = true from hpre))
  obtain ⟨g1, g2⟩ := and_e hg
  obtain ⟨w0, rfl⟩ : ∃ w0 : Value, args = #[w0] := by
    have hs : args.size = 1 := by simpa [Cond.value, given_1] using g1
    obtain ⟨L⟩ := args
    match L, hs with
    | [w0], _ => exact ⟨w0, rfl⟩
  have hw := fun d (hd : d ∈ tables_1) => atoms_spec (ws := Jvm.Cond.code x code maxLocals ret :: tables_1) hat d (List.mem_cons_of_mem _ hd)
  have hfit : Fit s := fun {y c} hc i hi => by
    obtain ⟨ha, rfl⟩ := Array.getElem?_eq_some_iff.mp hc
    have q := List.all_eq_true.mp ((Array.all_eq_true_iff_forall_mem.mp hF) _ (Array.getElem_mem ha)) i (List.mem_range.mpr hi)
    simpa [Array.getElem?_eq_getElem hi] using q
  obtain ⟨hsets, hown0⟩ := atoms_of _ (rest_1_c_eq ▸ (show rest_1_c.before _ s = true from hrest))
  have hr0 := Cond.before_iff.mp hown0
  obtain ⟨i0, ei0⟩ := isL_v g2
  obtain rfl : w0 = (.long i0) := Option.some.inj ei0
  have hx_wDEFAULTCAPACITY_EMPTY_ELEMENTDATA := Cond.before_iff.mp (hsets _ (List.mem_of_getElem? (i := 7) rfl))
  obtain ⟨wDEFAULTCAPACITY_EMPTY_ELEMENTDATA, ev_wDEFAULTCAPACITY_EMPTY_ELEMENTDATA⟩ := exa_v hx_wDEFAULTCAPACITY_EMPTY_ELEMENTDATA
  have S_wDEFAULTCAPACITY_EMPTY_ELEMENTDATA := Sta.start ev_wDEFAULTCAPACITY_EMPTY_ELEMENTDATA (Or.inr ⟨(ow hw 5 rfl), (hsets _ (List.mem_of_getElem? (i := 2) rfl))⟩)
  have E_wDEFAULTCAPACITY_EMPTY_ELEMENTDATA := Exa.start ev_wDEFAULTCAPACITY_EMPTY_ELEMENTDATA hx_wDEFAULTCAPACITY_EMPTY_ELEMENTDATA
  have hx_wEMPTY_LIST := Cond.before_iff.mp (hsets _ (List.mem_of_getElem? (i := 11) rfl))
  obtain ⟨wEMPTY_LIST, ev_wEMPTY_LIST⟩ := exa_v hx_wEMPTY_LIST
  have S_wEMPTY_LIST := Sta.start ev_wEMPTY_LIST (Or.inl (hsets _ (List.mem_of_getElem? (i := 10) rfl)))
  have E_wEMPTY_LIST := Exa.start ev_wEMPTY_LIST hx_wEMPTY_LIST
  have F_allowNulls_wEMPTY_LIST := Fld.start ((fld_at ev_wEMPTY_LIST).symm.trans (own_eq_int (Cond.before_iff.mp (hsets _ (List.mem_of_getElem? (i := 15) rfl)))))
  have hS : SS s wDEFAULTCAPACITY_EMPTY_ELEMENTDATA wEMPTY_LIST := ⟨S_wDEFAULTCAPACITY_EMPTY_ELEMENTDATA, E_wDEFAULTCAPACITY_EMPTY_ELEMENTDATA, S_wEMPTY_LIST, E_wEMPTY_LIST, F_allowNulls_wEMPTY_LIST⟩
  obtain ⟨n, o, h1, h2, h3, _, L, rfl, ⟨rfl, N⟩, hq⟩ := rm0 l s _ hw tables_1 wDEFAULTCAPACITY_EMPTY_ELEMENTDATA wEMPTY_LIST hS i0 s.heap s.heap.size (Old.start s)  p e ha hc hk s m _ below hf ((Spec.applies_iff_loose hf).mp happ).1 ⟨rfl, State.Warmed39.refl s, rfl⟩ trivial
  refine ⟨n, _, h1, h2, h3, hpost _ _ _ _ _ _ ⟨Cond.after_iff.mpr rfl, Cond.after_iff.mpr (eq_i res_at (Term.int_eval (1)) rfl), trivial⟩ ⟨hq.1, hq.2.1, (hq.2.2.sift fun y hy => Or.inr (N y hy)).mono (by decide) (by decide)⟩⟩
theorem main_1_1 : Claimed_1_1 := comes_1 fun _ _ _ _ _ _ h hF => ⟨h.1, hF⟩
theorem main_1_2 : Claimed_1_2 := comes_1 fun _ _ _ _ _ _ h hF => ⟨h.2.1, hF⟩
end Jvm.Pilot.@@N@@
namespace Jvm.Pilot.@@N@@
open Jvm Jvm.ClassFile Sem Op Lib Jvm.Free Jvm.Stand Jvm.Pilot.@@N@@.Jvm.D
/-! MADE BY PROGRAM (witnessworld.py) out of the Statement's table words and the real class files: 25 classes; the members and pool entries that the words name. The judged class is class 1, her method 1. -/
namespace start1
open Jvm.ClassFile
def u (s : String) : CpInfo := .utf8 (stringToUtf16 s)
/-- a pool by its gaps: so many unusable entries, then the entry; so many at the end -/
def gap : Nat → List CpInfo → List CpInfo
  | 0, r => r
  | n + 1, r => .unusable :: gap n r
def poolList (es : List (Nat × CpInfo)) (last : Nat) : List CpInfo := es.foldr (fun e r => gap e.1 (e.2 :: r)) (gap last [])
def pool (es : List (Nat × CpInfo)) (last : Nat) : Array CpInfo := ⟨poolList es last⟩
def fileOf (pool : Array CpInfo) (this : Nat) (attrs : Array Attribute := #[]) (ms : Array MethodInfo := #[]) (fl : Nat := 33) (sup : Nat := 0) (ifs : Array Nat := #[]) (fds : Array FieldInfo := #[]) : ClassFile where
  minorVersion := 0
  majorVersion := 65
  constantPool := pool
  accessFlags := fl
  thisClass := this
  superClass := sup
  interfaces := ifs
  fields := fds
  methods := ms
  attributes := attrs
def plain (name : String) (sup : Option ClassId) : Class where
  name := name
  kind := .ordinary
  loader := none
  accessFlags := 33
  super := sup
  interfaces := #[]
  cf := none
  fields := #[]
  methods := #[]
  instanceTypes := #[]
  staticTypes := #[]
  resolved := #[]
  callSites := []
  init := .initialized
  statics := none
  mirror := none

def pool0 : Array CpInfo := pool [(5, u "<init>"), (0, u "()V"), (1, .class_ 10), (1, u "java/lang/Object")] 113

def k0c0 : Code := { maxStack := 0, maxLocals := 1, code := object_method_1_code, exceptionTable := #[], attributes := #[] }
def k0m0 : Method := { name := "<init>", desc := "()V", sig := { parameters := [], returnType := none }, accessFlags := 1, code := some k0c0 }
/-- java/lang/Object -/
def k0 : Class := { plain "java/lang/Object" none with
  accessFlags := 33
  interfaces := #[]
  cf := some (fileOf pool0 8 #[] #[{ accessFlags := 1, nameIndex := 5, descriptorIndex := 6, attributes := #[] }] 33 0 #[] #[])
  fields := #[]
  methods := #[k0m0]
  instanceTypes := #[]
  staticTypes := #[]
  resolved := Array.replicate 124 none
  statics := none }

def pool1 : Array CpInfo := pool [(2, .class_ 4), (0, .nameAndType 5 6), (0, u "java/lang/Object"), (0, u "<init>"), (0, u "()V"), (0, .class_ 8), (0, u "com/example/loopline/loopline/engine/Scenario"), (0, .class_ 10), (0, u "java/util/ArrayList"), (0, .methodref 9 3), (0, .methodref 7 13), (0, .nameAndType 5 14), (0, u "(Ljava/util/List;Ljava/util/List;Ljava/util/List;)V"), (0, .methodref 7 16), (0, .nameAndType 17 18), (0, u "isInProgress"), (0, u "()Z"), (0, .methodref 7 20), (0, .nameAndType 21 22), (0, u "moment"), (0, u "()J"), (2, .long 9223372036854775808), (1, .methodref 7 28), (0, .nameAndType 29 30), (0, u "inProgress"), (0, u "(JLjava/util/List;Ljava/util/List;)Lcom/example/loopline/loopline/engine/Scenario;"), (0, .class_ 32), (0, u "com/example/loopline/loopline/engine/ScenarioIsInProgressPinLaw"), (2, u "law"), (0, u "(J)Z")] 3

def k1m0 : Method := { name := "<init>", desc := "()V", sig := { parameters := [], returnType := none }, accessFlags := 1, code := none }
def k1c1 : Code := { maxStack := 6, maxLocals := 6, code := code, exceptionTable := #[], attributes := #[] }
def k1m1 : Method := { name := "law", desc := "(J)Z", sig := { parameters := [.long], returnType := some .boolean }, accessFlags := 9, code := some k1c1 }
/-- com/example/loopline/loopline/engine/ScenarioIsInProgressPinLaw -/
def k1 : Class := { plain "com/example/loopline/loopline/engine/ScenarioIsInProgressPinLaw" (some 0) with
  accessFlags := 49
  interfaces := #[]
  cf := some (fileOf pool1 31 #[] #[{ accessFlags := 1, nameIndex := 5, descriptorIndex := 6, attributes := #[] }, { accessFlags := 9, nameIndex := 35, descriptorIndex := 36, attributes := #[] }] 49 2 #[] #[])
  fields := #[]
  methods := #[k1m0, k1m1]
  instanceTypes := #[]
  staticTypes := #[]
  resolved := Array.replicate 40 none
  statics := none }

def pool2 : Array CpInfo := pool [(3, .class_ 4), (0, u "com/example/loopline/loopline/engine/Scenario"), (0, .long 9223372036854775808), (1, .interfaceMethodref 8 9), (0, .class_ 10), (0, .nameAndType 11 12), (0, u "java/util/List"), (0, u "size"), (0, u "()I"), (0, .class_ 14), (0, u "[[J"), (0, .methodref 3 16), (0, .nameAndType 17 18), (0, u "<init>"), (0, u "(Ljava/util/List;Ljava/util/List;Ljava/util/List;J[[J)V"), (0, .methodref 20 21), (0, .class_ 22), (0, .nameAndType 17 23), (0, u "java/lang/Object"), (0, u "()V"), (0, .interfaceMethodref 8 25), (0, .nameAndType 26 27), (0, u "copyOf"), (0, u "(Ljava/util/Collection;)Ljava/util/List;"), (0, .fieldref 3 29), (0, .nameAndType 30 31), (0, u "resources"), (0, u "Ljava/util/List;"), (0, .fieldref 3 33), (0, .nameAndType 34 31), (0, u "conflicts"), (0, .fieldref 3 36), (0, .nameAndType 37 31), (0, u "trains"), (0, .fieldref 3 39), (0, .nameAndType 40 41), (0, u "moment"), (0, u "J"), (0, .fieldref 3 43), (0, .nameAndType 44 14), (0, u "entered"), (34, .class_ 80), (0, u "[J"), (42, u "FROM_THE_START"), (5, u "(Ljava/util/List;Ljava/util/List;Ljava/util/List;)V"), (9, u "inProgress"), (0, u "(JLjava/util/List;Ljava/util/List;)Lcom/example/loopline/loopline/engine/Scenario;"), (4, u "isInProgress"), (0, u "()Z"), (0, u "()J")] 54

def k2c0 : Code := { maxStack := 8, maxLocals := 4, code := prog_51_method_1_code, exceptionTable := #[], attributes := #[] }
def k2m0 : Method := { name := "<init>", desc := "(Ljava/util/List;Ljava/util/List;Ljava/util/List;)V", sig := { parameters := [(.object "java/util/List"), (.object "java/util/List"), (.object "java/util/List")], returnType := none }, accessFlags := 0, code := some k2c0 }
def k2c1 : Code := { maxStack := 3, maxLocals := 7, code := prog_51_method_2_code, exceptionTable := #[], attributes := #[] }
def k2m1 : Method := { name := "<init>", desc := "(Ljava/util/List;Ljava/util/List;Ljava/util/List;J[[J)V", sig := { parameters := [(.object "java/util/List"), (.object "java/util/List"), (.object "java/util/List"), .long, (.array (.array .long))], returnType := none }, accessFlags := 2, code := some k2c1 }
def k2c2 : Code := { maxStack := 8, maxLocals := 11, code := prog_51_method_7_code, exceptionTable := #[], attributes := #[] }
def k2m2 : Method := { name := "inProgress", desc := "(JLjava/util/List;Ljava/util/List;)Lcom/example/loopline/loopline/engine/Scenario;", sig := { parameters := [.long, (.object "java/util/List"), (.object "java/util/List")], returnType := some (.object "com/example/loopline/loopline/engine/Scenario") }, accessFlags := 1, code := some k2c2 }
def k2c3 : Code := { maxStack := 4, maxLocals := 1, code := prog_51_method_8_code, exceptionTable := #[], attributes := #[] }
def k2m3 : Method := { name := "isInProgress", desc := "()Z", sig := { parameters := [], returnType := some .boolean }, accessFlags := 1, code := some k2c3 }
def k2c4 : Code := { maxStack := 2, maxLocals := 1, code := prog_51_method_9_code, exceptionTable := #[], attributes := #[] }
def k2m4 : Method := { name := "moment", desc := "()J", sig := { parameters := [], returnType := some .long }, accessFlags := 1, code := some k2c4 }
/-- com/example/loopline/loopline/engine/Scenario -/
def k2 : Class := { plain "com/example/loopline/loopline/engine/Scenario" (some 0) with
  accessFlags := 49
  interfaces := #[]
  cf := some (fileOf pool2 3 #[] #[{ accessFlags := 0, nameIndex := 17, descriptorIndex := 129, attributes := #[] }, { accessFlags := 2, nameIndex := 17, descriptorIndex := 18, attributes := #[] }, { accessFlags := 1, nameIndex := 139, descriptorIndex := 140, attributes := #[] }, { accessFlags := 1, nameIndex := 145, descriptorIndex := 146, attributes := #[] }, { accessFlags := 1, nameIndex := 40, descriptorIndex := 147, attributes := #[] }] 49 20 #[] #[{ accessFlags := 26, nameIndex := 123, descriptorIndex := 41, attributes := #[] }, { accessFlags := 18, nameIndex := 30, descriptorIndex := 31, attributes := #[] }, { accessFlags := 18, nameIndex := 34, descriptorIndex := 31, attributes := #[] }, { accessFlags := 18, nameIndex := 37, descriptorIndex := 31, attributes := #[] }, { accessFlags := 18, nameIndex := 40, descriptorIndex := 41, attributes := #[] }, { accessFlags := 18, nameIndex := 44, descriptorIndex := 14, attributes := #[] }])
  fields := #[{ name := "FROM_THE_START", type := .long, accessFlags := 26, slot := 0, constantValue := 0 }, { name := "resources", type := (.object "java/util/List"), accessFlags := 18, slot := 0, constantValue := 0 }, { name := "conflicts", type := (.object "java/util/List"), accessFlags := 18, slot := 1, constantValue := 0 }, { name := "trains", type := (.object "java/util/List"), accessFlags := 18, slot := 2, constantValue := 0 }, { name := "moment", type := .long, accessFlags := 18, slot := 3, constantValue := 0 }, { name := "entered", type := (.array (.array .long)), accessFlags := 18, slot := 4, constantValue := 0 }]
  methods := #[k2m0, k2m1, k2m2, k2m3, k2m4]
  instanceTypes := #[(.object "java/util/List"), (.object "java/util/List"), (.object "java/util/List"), .long, (.array (.array .long))]
  staticTypes := #[.long]
  resolved := Array.replicate 202 none
  statics := none }

def pool3 : Array CpInfo := pool [(8, .class_ 10), (1, u "java/lang/Iterable"), (24, .class_ 36), (0, u "java/lang/Object")] 25

/-- java/lang/Iterable -/
def k3 : Class := { plain "java/lang/Iterable" (some 0) with
  accessFlags := 1537
  interfaces := #[]
  cf := some (fileOf pool3 8 #[] #[] 1537 35 #[] #[])
  fields := #[]
  methods := #[]
  instanceTypes := #[]
  staticTypes := #[]
  resolved := Array.replicate 62 none
  statics := none }

def pool4 : Array CpInfo := pool [(10, .class_ 12), (1, u "java/util/Collection"), (17, u "()Z"), (29, .class_ 61), (0, u "java/lang/Object"), (0, .class_ 63), (0, u "java/lang/Iterable"), (2, u "isEmpty")] 48

def k4m0 : Method := { name := "isEmpty", desc := "()Z", sig := { parameters := [], returnType := some .boolean }, accessFlags := 1025, code := none }
/-- java/util/Collection -/
def k4 : Class := { plain "java/util/Collection" (some 0) with
  accessFlags := 1537
  interfaces := #[3]
  cf := some (fileOf pool4 10 #[] #[{ accessFlags := 1025, nameIndex := 66, descriptorIndex := 30, attributes := #[] }] 1537 60 #[62] #[])
  fields := #[]
  methods := #[k4m0]
  instanceTypes := #[]
  staticTypes := #[]
  resolved := Array.replicate 115 none
  statics := none }

def pool5 : Array CpInfo := pool [(1, .methodref 2 3), (0, .class_ 4), (0, .nameAndType 5 6), (0, u "java/lang/Object"), (0, u "<init>"), (0, u "()V"), (1, .class_ 10), (1, u "java/util/AbstractCollection"), (66, .class_ 78), (0, u "java/util/Collection")] 81

def k5c0 : Code := { maxStack := 1, maxLocals := 1, code := jdk_22_method_1_code, exceptionTable := #[], attributes := #[] }
def k5m0 : Method := { name := "<init>", desc := "()V", sig := { parameters := [], returnType := none }, accessFlags := 4, code := some k5c0 }
/-- java/util/AbstractCollection -/
def k5 : Class := { plain "java/util/AbstractCollection" (some 0) with
  accessFlags := 1057
  interfaces := #[4]
  cf := some (fileOf pool5 8 #[] #[{ accessFlags := 4, nameIndex := 5, descriptorIndex := 6, attributes := #[] }] 1057 2 #[77] #[])
  fields := #[]
  methods := #[k5m0]
  instanceTypes := #[]
  staticTypes := #[]
  resolved := Array.replicate 160 none
  statics := none }

def pool6 : Array CpInfo := pool [(8, .class_ 10), (1, u "java/util/SequencedCollection"), (15, .class_ 27), (0, u "java/lang/Object"), (0, .class_ 29), (0, u "java/util/Collection")] 27

/-- java/util/SequencedCollection -/
def k6 : Class := { plain "java/util/SequencedCollection" (some 0) with
  accessFlags := 1537
  interfaces := #[4]
  cf := some (fileOf pool6 8 #[] #[] 1537 26 #[28] #[])
  fields := #[]
  methods := #[]
  instanceTypes := #[]
  staticTypes := #[]
  resolved := Array.replicate 57 none
  statics := none }

def pool7 : Array CpInfo := pool [(8, .class_ 10), (1, u "java/util/List"), (68, u "size"), (0, u "()I"), (7, u "of"), (1, .fieldref 91 92), (0, .class_ 93), (0, .nameAndType 94 95), (0, u "java/util/ImmutableCollections"), (0, u "EMPTY_LIST"), (0, u "Ljava/util/ImmutableCollections$ListN;"), (7, .class_ 104), (0, u "java/lang/Object"), (7, .methodref 91 113), (0, .nameAndType 114 115), (0, u "listCopy"), (0, u "(Ljava/util/Collection;)Ljava/util/List;"), (3, u "()Ljava/util/List;"), (0, .class_ 121), (0, u "java/util/SequencedCollection"), (112, u "copyOf")] 16

def k7m0 : Method := { name := "size", desc := "()I", sig := { parameters := [], returnType := some .int }, accessFlags := 1025, code := none }
def k7c1 : Code := { maxStack := 1, maxLocals := 0, code := jdk_40_method_36_code, exceptionTable := #[], attributes := #[] }
def k7m1 : Method := { name := "of", desc := "()Ljava/util/List;", sig := { parameters := [], returnType := some (.object "java/util/List") }, accessFlags := 9, code := some k7c1 }
def k7c2 : Code := { maxStack := 1, maxLocals := 1, code := jdk_40_method_48_code, exceptionTable := #[], attributes := #[] }
def k7m2 : Method := { name := "copyOf", desc := "(Ljava/util/Collection;)Ljava/util/List;", sig := { parameters := [(.object "java/util/Collection")], returnType := some (.object "java/util/List") }, accessFlags := 9, code := some k7c2 }
/-- java/util/List -/
def k7 : Class := { plain "java/util/List" (some 0) with
  accessFlags := 1537
  interfaces := #[6]
  cf := some (fileOf pool7 8 #[] #[{ accessFlags := 1025, nameIndex := 79, descriptorIndex := 80, attributes := #[] }, { accessFlags := 9, nameIndex := 88, descriptorIndex := 119, attributes := #[] }, { accessFlags := 9, nameIndex := 234, descriptorIndex := 115, attributes := #[] }] 1537 103 #[120] #[])
  fields := #[]
  methods := #[k7m0, k7m1, k7m2]
  instanceTypes := #[]
  staticTypes := #[]
  resolved := Array.replicate 251 none
  statics := none }

def pool8 : Array CpInfo := pool [(1, .methodref 2 3), (0, .class_ 4), (0, .nameAndType 5 6), (0, u "java/util/AbstractCollection"), (0, u "<init>"), (0, u "()V"), (0, .fieldref 8 9), (0, .class_ 10), (0, .nameAndType 11 12), (0, u "java/util/AbstractList"), (0, u "modCount"), (0, u "I"), (64, .class_ 78), (0, u "java/util/AbstractList$Itr"), (3, .class_ 83), (0, u "java/util/AbstractList$ListItr"), (9, .class_ 94), (0, u "java/util/AbstractList$RandomAccessSubList"), (3, .class_ 99), (0, u "java/util/AbstractList$SubList"), (33, .class_ 134), (0, u "java/util/List"), (73, .class_ 209), (0, u "java/util/AbstractList$SubList$1"), (0, .class_ 211), (0, u "java/util/AbstractList$RandomAccessSpliterator")] 6

def k8c0 : Code := { maxStack := 2, maxLocals := 1, code := jdk_39_method_1_code, exceptionTable := #[], attributes := #[] }
def k8m0 : Method := { name := "<init>", desc := "()V", sig := { parameters := [], returnType := none }, accessFlags := 4, code := some k8c0 }
/-- java/util/AbstractList -/
def k8 : Class := { plain "java/util/AbstractList" (some 5) with
  accessFlags := 1057
  interfaces := #[7]
  cf := some (fileOf pool8 8 #[.nestMembers #[93, 98, 208, 210, 82, 77]] #[{ accessFlags := 4, nameIndex := 5, descriptorIndex := 6, attributes := #[] }] 1057 2 #[133] #[{ accessFlags := 132, nameIndex := 11, descriptorIndex := 12, attributes := #[] }])
  fields := #[{ name := "modCount", type := .int, accessFlags := 132, slot := 0, constantValue := 0 }]
  methods := #[k8m0]
  instanceTypes := #[.int]
  staticTypes := #[]
  resolved := Array.replicate 218 none
  statics := none }

def pool9 : Array CpInfo := pool [(1, .class_ 2), (0, u "java/util/RandomAccess"), (0, .class_ 4), (0, u "java/lang/Object")] 2

/-- java/util/RandomAccess -/
def k9 : Class := { plain "java/util/RandomAccess" (some 0) with
  accessFlags := 1537
  interfaces := #[]
  cf := some (fileOf pool9 1 #[] #[] 1537 3 #[] #[])
  fields := #[]
  methods := #[]
  instanceTypes := #[]
  staticTypes := #[]
  resolved := Array.replicate 7 none
  statics := none }

def pool10 : Array CpInfo := pool [(1, .class_ 2), (0, u "java/lang/Cloneable"), (0, .class_ 4), (0, u "java/lang/Object")] 2

/-- java/lang/Cloneable -/
def k10 : Class := { plain "java/lang/Cloneable" (some 0) with
  accessFlags := 1537
  interfaces := #[]
  cf := some (fileOf pool10 1 #[] #[] 1537 3 #[] #[])
  fields := #[]
  methods := #[]
  instanceTypes := #[]
  staticTypes := #[]
  resolved := Array.replicate 7 none
  statics := none }

def pool11 : Array CpInfo := pool [(1, .class_ 2), (0, u "java/io/Serializable"), (0, .class_ 4), (0, u "java/lang/Object")] 2

/-- java/io/Serializable -/
def k11 : Class := { plain "java/io/Serializable" (some 0) with
  accessFlags := 1537
  interfaces := #[]
  cf := some (fileOf pool11 1 #[] #[] 1537 3 #[] #[])
  fields := #[]
  methods := #[]
  instanceTypes := #[]
  staticTypes := #[]
  resolved := Array.replicate 7 none
  statics := none }

def pool12 : Array CpInfo := pool [(1, .methodref 2 3), (0, .class_ 4), (0, .nameAndType 5 6), (0, u "java/util/AbstractList"), (0, u "<init>"), (0, u "()V"), (2, .fieldref 10 11), (0, .class_ 12), (0, .nameAndType 13 14), (0, u "java/util/ArrayList"), (0, u "elementData"), (0, u "[Ljava/lang/Object;"), (2, u "EMPTY_ELEMENTDATA"), (21, .fieldref 10 40), (0, .nameAndType 41 14), (0, u "DEFAULTCAPACITY_EMPTY_ELEMENTDATA"), (6, .fieldref 10 49), (0, .nameAndType 50 51), (0, u "size"), (0, u "I"), (96, .class_ 149), (0, u "java/util/List"), (23, u "()Z"), (12, u "()I"), (75, .class_ 263), (0, u "java/util/ArrayList$ListItr"), (3, .class_ 268), (0, u "java/util/ArrayList$Itr"), (7, .class_ 277), (0, u "java/util/ArrayList$SubList"), (12, .class_ 291), (0, u "java/util/ArrayList$ArrayListSpliterator"), (37, .class_ 330), (0, u "java/util/RandomAccess"), (0, .class_ 332), (0, u "java/lang/Cloneable"), (0, .class_ 334), (0, u "java/io/Serializable"), (0, u "serialVersionUID"), (0, u "J"), (3, u "DEFAULT_CAPACITY"), (22, u "isEmpty"), (136, .class_ 501), (0, u "java/util/ArrayList$SubList$2"), (0, .class_ 503), (0, u "java/util/ArrayList$SubList$1")] 5

def k12c0 : Code := { maxStack := 2, maxLocals := 1, code := jdk_38_method_2_code, exceptionTable := #[], attributes := #[] }
def k12m0 : Method := { name := "<init>", desc := "()V", sig := { parameters := [], returnType := none }, accessFlags := 1, code := some k12c0 }
def k12c1 : Code := { maxStack := 1, maxLocals := 1, code := jdk_38_method_8_code, exceptionTable := #[], attributes := #[] }
def k12m1 : Method := { name := "size", desc := "()I", sig := { parameters := [], returnType := some .int }, accessFlags := 1, code := some k12c1 }
def k12c2 : Code := { maxStack := 1, maxLocals := 1, code := jdk_38_method_9_code, exceptionTable := #[], attributes := #[] }
def k12m2 : Method := { name := "isEmpty", desc := "()Z", sig := { parameters := [], returnType := some .boolean }, accessFlags := 1, code := some k12c2 }
/-- java/util/ArrayList -/
def k12 : Class := { plain "java/util/ArrayList" (some 8) with
  accessFlags := 33
  interfaces := #[7, 9, 10, 11]
  cf := some (fileOf pool12 10 #[.nestMembers #[290, 276, 500, 502, 262, 267]] #[{ accessFlags := 1, nameIndex := 5, descriptorIndex := 6, attributes := #[] }, { accessFlags := 1, nameIndex := 50, descriptorIndex := 186, attributes := #[] }, { accessFlags := 1, nameIndex := 363, descriptorIndex := 173, attributes := #[] }] 33 2 #[148, 329, 331, 333] #[{ accessFlags := 26, nameIndex := 335, descriptorIndex := 336, attributes := #[] }, { accessFlags := 26, nameIndex := 340, descriptorIndex := 51, attributes := #[] }, { accessFlags := 26, nameIndex := 17, descriptorIndex := 14, attributes := #[] }, { accessFlags := 26, nameIndex := 41, descriptorIndex := 14, attributes := #[] }, { accessFlags := 128, nameIndex := 13, descriptorIndex := 14, attributes := #[] }, { accessFlags := 2, nameIndex := 50, descriptorIndex := 51, attributes := #[] }])
  fields := #[{ name := "serialVersionUID", type := .long, accessFlags := 26, slot := 0, constantValue := 0 }, { name := "DEFAULT_CAPACITY", type := .int, accessFlags := 26, slot := 1, constantValue := 0 }, { name := "EMPTY_ELEMENTDATA", type := (.array (.object "java/lang/Object")), accessFlags := 26, slot := 2, constantValue := 0 }, { name := "DEFAULTCAPACITY_EMPTY_ELEMENTDATA", type := (.array (.object "java/lang/Object")), accessFlags := 26, slot := 3, constantValue := 0 }, { name := "elementData", type := (.array (.object "java/lang/Object")), accessFlags := 128, slot := 1, constantValue := 0 }, { name := "size", type := .int, accessFlags := 2, slot := 2, constantValue := 0 }]
  methods := #[k12m0, k12m1, k12m2]
  instanceTypes := #[.int, (.array (.object "java/lang/Object")), .int]
  staticTypes := #[.long, .int, (.array (.object "java/lang/Object")), (.array (.object "java/lang/Object"))]
  resolved := Array.replicate 509 none
  statics := some 0 }

def pool13 : Array CpInfo := pool [(2, .class_ 4), (1, u "java/lang/Object"), (0, u "<init>"), (0, u "()V"), (3, .class_ 11), (0, u "java/util/ImmutableCollections$List12"), (0, .class_ 13), (0, u "java/util/ImmutableCollections$ListN"), (0, .fieldref 12 15), (0, .nameAndType 16 17), (0, u "allowNulls"), (0, u "Z"), (0, .class_ 19), (0, u "java/util/List"), (0, .interfaceMethodref 21 22), (0, .class_ 23), (0, .nameAndType 24 25), (0, u "java/util/Collection"), (0, u "isEmpty"), (0, u "()Z"), (0, .interfaceMethodref 18 27), (0, .nameAndType 28 29), (0, u "of"), (0, u "()Ljava/util/List;"), (17, .class_ 49), (1, u "java/util/ImmutableCollections"), (0, u "$assertionsDisabled"), (5, u "[Ljava/lang/Object;"), (5, u "EMPTY_LIST"), (0, u "Ljava/util/ImmutableCollections$ListN;"), (8, u "EMPTY_LIST_NULLS"), (22, u "SALT32L"), (0, u "J"), (2, u "REVERSE"), (6, u "archivedObjects"), (2, u "EMPTY"), (0, u "Ljava/lang/Object;"), (0, .class_ 112), (0, u "java/util/ImmutableCollections$SetN"), (5, u "EMPTY_SET"), (0, u "Ljava/util/ImmutableCollections$SetN;"), (0, .class_ 121), (0, u "java/util/ImmutableCollections$MapN"), (3, u "EMPTY_MAP"), (0, u "Ljava/util/ImmutableCollections$MapN;"), (4, u "EXPAND_FACTOR"), (0, u "I"), (9, u "listCopy"), (0, u "(Ljava/util/Collection;)Ljava/util/List;"), (25, .class_ 170), (0, u "java/util/ImmutableCollections$MapN$MapNIterator"), (0, .class_ 172), (0, u "java/util/ImmutableCollections$MapN$1"), (0, .class_ 174), (0, u "java/util/ImmutableCollections$Map1"), (0, .class_ 176), (0, u "java/util/ImmutableCollections$AbstractImmutableMap"), (0, .class_ 178), (0, u "java/util/ImmutableCollections$SetN$SetNIterator"), (0, .class_ 180), (0, u "java/util/ImmutableCollections$Set12"), (0, .class_ 182), (0, u "java/util/ImmutableCollections$Set12$1"), (0, .class_ 184), (0, u "java/util/ImmutableCollections$AbstractImmutableSet"), (0, .class_ 186), (0, u "java/util/ImmutableCollections$SubList"), (0, .class_ 188), (0, u "java/util/ImmutableCollections$ListItr"), (0, .class_ 190), (0, u "java/util/ImmutableCollections$AbstractImmutableList"), (0, .class_ 192), (0, u "java/util/ImmutableCollections$AbstractImmutableCollection"), (0, .class_ 194), (0, u "java/util/ImmutableCollections$Access"), (0, .class_ 196), (0, u "java/util/ImmutableCollections$Access$1")] 16

def k13m0 : Method := { name := "<init>", desc := "()V", sig := { parameters := [], returnType := none }, accessFlags := 2, code := none }
def k13c1 : Code := { maxStack := 1, maxLocals := 2, code := jdk_56_method_3_code, exceptionTable := #[], attributes := #[] }
def k13m1 : Method := { name := "listCopy", desc := "(Ljava/util/Collection;)Ljava/util/List;", sig := { parameters := [(.object "java/util/Collection")], returnType := some (.object "java/util/List") }, accessFlags := 8, code := some k13c1 }
/-- java/util/ImmutableCollections -/
def k13 : Class := { plain "java/util/ImmutableCollections" (some 0) with
  accessFlags := 32
  interfaces := #[]
  cf := some (fileOf pool13 47 #[.nestMembers #[120, 169, 171, 173, 175, 111, 177, 179, 181, 183, 12, 10, 185, 187, 189, 191, 193, 195]] #[{ accessFlags := 2, nameIndex := 5, descriptorIndex := 6, attributes := #[] }, { accessFlags := 8, nameIndex := 142, descriptorIndex := 143, attributes := #[] }] 32 2 #[] #[{ accessFlags := 26, nameIndex := 95, descriptorIndex := 96, attributes := #[] }, { accessFlags := 26, nameIndex := 99, descriptorIndex := 17, attributes := #[] }, { accessFlags := 10, nameIndex := 106, descriptorIndex := 56, attributes := #[] }, { accessFlags := 26, nameIndex := 109, descriptorIndex := 110, attributes := #[] }, { accessFlags := 24, nameIndex := 62, descriptorIndex := 63, attributes := #[] }, { accessFlags := 24, nameIndex := 72, descriptorIndex := 63, attributes := #[] }, { accessFlags := 24, nameIndex := 118, descriptorIndex := 119, attributes := #[] }, { accessFlags := 24, nameIndex := 125, descriptorIndex := 126, attributes := #[] }, { accessFlags := 24, nameIndex := 131, descriptorIndex := 132, attributes := #[] }, { accessFlags := 4120, nameIndex := 50, descriptorIndex := 17, attributes := #[] }])
  fields := #[{ name := "SALT32L", type := .long, accessFlags := 26, slot := 0, constantValue := 0 }, { name := "REVERSE", type := .boolean, accessFlags := 26, slot := 1, constantValue := 0 }, { name := "archivedObjects", type := (.array (.object "java/lang/Object")), accessFlags := 10, slot := 2, constantValue := 0 }, { name := "EMPTY", type := (.object "java/lang/Object"), accessFlags := 26, slot := 3, constantValue := 0 }, { name := "EMPTY_LIST", type := (.object "java/util/ImmutableCollections$ListN"), accessFlags := 24, slot := 4, constantValue := 0 }, { name := "EMPTY_LIST_NULLS", type := (.object "java/util/ImmutableCollections$ListN"), accessFlags := 24, slot := 5, constantValue := 0 }, { name := "EMPTY_SET", type := (.object "java/util/ImmutableCollections$SetN"), accessFlags := 24, slot := 6, constantValue := 0 }, { name := "EMPTY_MAP", type := (.object "java/util/ImmutableCollections$MapN"), accessFlags := 24, slot := 7, constantValue := 0 }, { name := "EXPAND_FACTOR", type := .int, accessFlags := 24, slot := 8, constantValue := 0 }, { name := "$assertionsDisabled", type := .boolean, accessFlags := 4120, slot := 9, constantValue := 0 }]
  methods := #[k13m0, k13m1]
  instanceTypes := #[]
  staticTypes := #[.long, .boolean, (.array (.object "java/lang/Object")), (.object "java/lang/Object"), (.object "java/util/ImmutableCollections$ListN"), (.object "java/util/ImmutableCollections$ListN"), (.object "java/util/ImmutableCollections$SetN"), (.object "java/util/ImmutableCollections$MapN"), .int, .boolean]
  resolved := Array.replicate 213 none
  statics := some 1 }

def pool14 : Array CpInfo := pool [(2, .class_ 4), (1, u "java/util/AbstractCollection"), (0, u "<init>"), (0, u "()V"), (1, .class_ 10), (1, u "java/util/ImmutableCollections"), (2, .class_ 14), (0, u "java/util/ImmutableCollections$AbstractImmutableCollection")] 41

def k14m0 : Method := { name := "<init>", desc := "()V", sig := { parameters := [], returnType := none }, accessFlags := 0, code := none }
/-- java/util/ImmutableCollections$AbstractImmutableCollection -/
def k14 : Class := { plain "java/util/ImmutableCollections$AbstractImmutableCollection" (some 5) with
  accessFlags := 1056
  interfaces := #[]
  cf := some (fileOf pool14 13 #[.nestHost 8] #[{ accessFlags := 0, nameIndex := 5, descriptorIndex := 6, attributes := #[] }] 1056 2 #[] #[])
  fields := #[]
  methods := #[k14m0]
  instanceTypes := #[]
  staticTypes := #[]
  resolved := Array.replicate 56 none
  statics := none }

def pool15 : Array CpInfo := pool [(2, .class_ 4), (1, u "java/util/ImmutableCollections$AbstractImmutableCollection"), (0, u "<init>"), (0, u "()V"), (1, .class_ 10), (1, u "java/util/ImmutableCollections"), (3, .class_ 16), (1, u "java/util/ImmutableCollections$AbstractImmutableList"), (60, .class_ 78), (0, u "java/util/List"), (45, .class_ 125), (0, u "java/util/RandomAccess")] 70

def k15m0 : Method := { name := "<init>", desc := "()V", sig := { parameters := [], returnType := none }, accessFlags := 0, code := none }
/-- java/util/ImmutableCollections$AbstractImmutableList -/
def k15 : Class := { plain "java/util/ImmutableCollections$AbstractImmutableList" (some 14) with
  accessFlags := 1056
  interfaces := #[7, 9]
  cf := some (fileOf pool15 14 #[.nestHost 8] #[{ accessFlags := 0, nameIndex := 5, descriptorIndex := 6, attributes := #[] }] 1056 2 #[77, 124] #[])
  fields := #[]
  methods := #[k15m0]
  instanceTypes := #[]
  staticTypes := #[]
  resolved := Array.replicate 196 none
  statics := none }

def pool16 : Array CpInfo := pool [(2, .class_ 4), (1, u "java/util/ImmutableCollections$AbstractImmutableList"), (9, .class_ 16), (1, u "java/util/ImmutableCollections$List12"), (0, u "e0"), (0, u "Ljava/lang/Object;"), (1, .class_ 22), (1, u "java/util/ImmutableCollections"), (3, u "e1"), (43, .class_ 71), (0, u "java/io/Serializable")] 53

/-- java/util/ImmutableCollections$List12 -/
def k16 : Class := { plain "java/util/ImmutableCollections$List12" (some 15) with
  accessFlags := 48
  interfaces := #[11]
  cf := some (fileOf pool16 14 #[.nestHost 20] #[] 48 2 #[70] #[{ accessFlags := 18, nameIndex := 17, descriptorIndex := 18, attributes := #[] }, { accessFlags := 18, nameIndex := 26, descriptorIndex := 18, attributes := #[] }])
  fields := #[{ name := "e0", type := (.object "java/lang/Object"), accessFlags := 18, slot := 0, constantValue := 0 }, { name := "e1", type := (.object "java/lang/Object"), accessFlags := 18, slot := 1, constantValue := 0 }]
  methods := #[]
  instanceTypes := #[(.object "java/lang/Object"), (.object "java/lang/Object")]
  staticTypes := #[]
  resolved := Array.replicate 125 none
  statics := none }

def pool17 : Array CpInfo := pool [(2, .class_ 4), (1, u "java/util/ImmutableCollections$AbstractImmutableList"), (3, .class_ 10), (1, u "java/util/ImmutableCollections$ListN"), (0, u "elements"), (0, u "[Ljava/lang/Object;"), (2, u "allowNulls"), (0, u "Z"), (42, .class_ 60), (0, u "java/io/Serializable"), (53, .class_ 115), (0, u "java/util/ImmutableCollections")] 3

/-- java/util/ImmutableCollections$ListN -/
def k17 : Class := { plain "java/util/ImmutableCollections$ListN" (some 15) with
  accessFlags := 48
  interfaces := #[11]
  cf := some (fileOf pool17 8 #[.nestHost 114] #[] 48 2 #[59] #[{ accessFlags := 18, nameIndex := 11, descriptorIndex := 12, attributes := #[] }, { accessFlags := 18, nameIndex := 15, descriptorIndex := 16, attributes := #[] }])
  fields := #[{ name := "elements", type := (.array (.object "java/lang/Object")), accessFlags := 18, slot := 0, constantValue := 0 }, { name := "allowNulls", type := .boolean, accessFlags := 18, slot := 1, constantValue := 0 }]
  methods := #[]
  instanceTypes := #[(.array (.object "java/lang/Object")), .boolean]
  staticTypes := #[]
  resolved := Array.replicate 119 none
  statics := none }

/-- the primitive byte -/
def k18 : Class := { plain "byte" none with kind := .primitive 'B', accessFlags := 0x411 }
/-- [B -/
def k19 : Class := { plain "[B" (some 0) with kind := .array 18 .byte, interfaces := #[10, 11], accessFlags := 1041 }

/-- the primitive int -/
def k20 : Class := { plain "int" none with kind := .primitive 'I', accessFlags := 0x411 }
/-- [I -/
def k21 : Class := { plain "[I" (some 0) with kind := .array 20 .int, interfaces := #[10, 11], accessFlags := 1041 }

/-- the primitive long -/
def k22 : Class := { plain "long" none with kind := .primitive 'J', accessFlags := 0x411 }
/-- [J -/
def k23 : Class := { plain "[J" (some 0) with kind := .array 22 .long, interfaces := #[10, 11], accessFlags := 1041 }

/-- [Ljava/lang/Object; -/
def k24 : Class := { plain "[Ljava/lang/Object;" (some 0) with kind := .array 0 (.object "java/lang/Object"), interfaces := #[10, 11], accessFlags := 1041 }

def k25 : Class := { plain "[[J" (some 0) with kind := .array 23 (.array .long), interfaces := #[10, 11], accessFlags := 1041 }
def heap : Heap := #[{ cls := 12, slots := #[.long 0, .int 0, .ref 4, .ref 5], vm := .statics 12 },
  { cls := 13, slots := #[.long 0, .int 0, .null, .null, .ref 3, .null, .null, .null, .int 0, .int 0], vm := .statics 13 },
  { cls := 24, slots := #[], vm := .none },
  { cls := 17, slots := #[.ref 2, .int 0], vm := .none },
  { cls := 24, slots := #[], vm := .none },
  { cls := 24, slots := #[], vm := .none }]
def classes : Array Class := #[k0, k1, k2, k3, k4, k5, k6, k7, k8, k9, k10, k11, k12, k13, k14, k15, k16, k17, k18, k19, k20, k21, k22, k23, k24, k25]
def interned : List (Array UInt16 × Addr) := []
def slotsUsed : Nat := 16
def theMethod : MethodId := ⟨1, 1⟩
def args0 : Array Value := #[.long 5]
def aboutOver (below : List Frame) : State where
  vm := { classes := classes, interned := interned.toArray }
  heap := heap
  slotsUsed := slotsUsed
  threads := #[{ frames := .invoking theMethod args0 :: below }]
def below0 : List Frame := [.native { method := ⟨0, 0⟩, args := #[] }]
def about1 : State := aboutOver below0
def p0 : Program := .bare "" "" ""
def e0 : Env := launch0.env 0 0 0
theorem w_frames : about1.frames = Frame.invoking theMethod args0 :: below0 := rfl
set_option maxRecDepth 65536 in
theorem w_args : argsFit about1.vm theMethod args0 = true := by decide +kernel
set_option maxRecDepth 65536 in
theorem w_heap : heapFits about1 = true := by decide +kernel
set_option maxRecDepth 65536 in
theorem w_runnable : about1.curStatus? = some .runnable := by decide +kernel
set_option maxRecDepth 65536 in
theorem w_alone : about1.alone = true := by decide +kernel
set_option maxRecDepth 65536 in
theorem w_named : about1.methodNamed? x = some theMethod := by decide +kernel
set_option maxRecDepth 65536 in
theorem w_hears : about1.hears theMethod below0 = true := by decide +kernel
set_option maxRecDepth 65536 in
theorem w_ripe : about1.ripe theMethod args0 below0 = true := by decide +kernel
theorem w_running : about1.status = .running := rfl
set_option maxRecDepth 65536 in
theorem w_room : about1.hasRoom e0.platform room_1 = true :=
  launch0.hasRoom_least _ room_1 (by decide +kernel) (by decide +kernel) (by decide +kernel) (by decide +kernel) (by decide +kernel) (by decide +kernel)
theorem allAtoms_all (ts : List Jvm.Cond) (a : Array Jvm.Value) (st : Jvm.State) : (allAtoms ts).before a st = ts.all (fun c => c.before a st) := by
  induction ts with
  | nil => rfl
  | cons c t ih =>
    show (Jvm.Cond.and c (allAtoms t)).before a st = _
    rw [Jvm.Cond.before_and, ih, List.all_cons]
def words1 : List Jvm.Cond := Jvm.Cond.code x code maxLocals ret :: tables_1
/-- a 'code' word, met by the world's own term for the bytes: nothing is compared byte by byte -/
theorem code_word {y : MethodName} {bytes : ByteArray} {mx : Nat} {rt : Option FieldType} {a : Array Value} {s : State} {m : MethodId} {meth : Method} {c : Code} (h1 : s.methodNamed? y = some m) (h2 : s.vm.method? m = some meth) (h3 : meth.code = some c) (h4 : c.code = bytes)
    (h5 : (c.maxLocals == mx && c.exceptionTable.isEmpty && decide (c.maxStack ≤ mostOperands) && decide (meth.sig.returnType = rt) && !meth.locks && decide (parseMethodDescriptor y.desc = some meth.sig)) = true) : (Jvm.Cond.code y bytes mx rt).before a s = true := by
  simp only [Bool.and_eq_true, beq_iff_eq, Bool.not_eq_true', decide_eq_true_eq] at h5
  obtain ⟨⟨⟨⟨⟨g1, g2⟩, g3⟩, g4⟩, g5⟩, g6⟩ := h5
  simp [Cond.before, Cond.holds, Cond.value, h1, h2, h3, h4, g1, g2, g3, g4, g5, g6]
def isCode : Jvm.Cond → Bool
  | .code _ _ _ _ => true
  | _ => false
theorem all_split {L : List Jvm.Cond} {P : Jvm.Cond → Bool} (h1 : L.all (fun c => isCode c || P c) = true) (h2 : ∀ c ∈ L.filter isCode, P c = true) : L.all P = true := by
  refine List.all_eq_true.mpr fun c hc => ?_
  have h := List.all_eq_true.mp h1 c hc
  rcases Bool.eq_false_or_eq_true (isCode c) with hi | hi
  · exact h2 c (List.mem_filter.mpr ⟨hc, hi⟩)
  · simpa [hi] using h
set_option maxRecDepth 65536 in
theorem w_c0 : (Jvm.Cond.code x code maxLocals ret).before args0 about1 = true := code_word (m := ⟨1, 1⟩) (meth := k1m1) (c := k1c1) (by decide +kernel) rfl rfl rfl (by decide +kernel)
set_option maxRecDepth 65536 in
theorem w_c1 : (Jvm.Cond.code ({ cls := "java/util/ArrayList", name := "<init>", desc := "()V" } : Jvm.MethodName) jdk_38_method_2_code (1 : Nat) (Option.none : Option Jvm.ClassFile.FieldType)).before args0 about1 = true := code_word (m := ⟨12, 0⟩) (meth := k12m0) (c := k12c0) (by decide +kernel) rfl rfl rfl (by decide +kernel)
set_option maxRecDepth 65536 in
theorem w_c2 : (Jvm.Cond.code ({ cls := "java/util/AbstractList", name := "<init>", desc := "()V" } : Jvm.MethodName) jdk_39_method_1_code (1 : Nat) (Option.none : Option Jvm.ClassFile.FieldType)).before args0 about1 = true := code_word (m := ⟨8, 0⟩) (meth := k8m0) (c := k8c0) (by decide +kernel) rfl rfl rfl (by decide +kernel)
set_option maxRecDepth 65536 in
theorem w_c3 : (Jvm.Cond.code ({ cls := "java/util/AbstractCollection", name := "<init>", desc := "()V" } : Jvm.MethodName) jdk_22_method_1_code (1 : Nat) (Option.none : Option Jvm.ClassFile.FieldType)).before args0 about1 = true := code_word (m := ⟨5, 0⟩) (meth := k5m0) (c := k5c0) (by decide +kernel) rfl rfl rfl (by decide +kernel)
set_option maxRecDepth 65536 in
theorem w_c4 : (Jvm.Cond.code ({ cls := "java/lang/Object", name := "<init>", desc := "()V" } : Jvm.MethodName) object_method_1_code (1 : Nat) (Option.none : Option Jvm.ClassFile.FieldType)).before args0 about1 = true := code_word (m := ⟨0, 0⟩) (meth := k0m0) (c := k0c0) (by decide +kernel) rfl rfl rfl (by decide +kernel)
set_option maxRecDepth 65536 in
theorem w_c5 : (Jvm.Cond.code ({ cls := "com/example/loopline/loopline/engine/Scenario", name := "<init>", desc := "(Ljava/util/List;Ljava/util/List;Ljava/util/List;)V" } : Jvm.MethodName) prog_51_method_1_code (4 : Nat) (Option.none : Option Jvm.ClassFile.FieldType)).before args0 about1 = true := code_word (m := ⟨2, 0⟩) (meth := k2m0) (c := k2c0) (by decide +kernel) rfl rfl rfl (by decide +kernel)
set_option maxRecDepth 65536 in
theorem w_c6 : (Jvm.Cond.code ({ cls := "java/util/ArrayList", name := "size", desc := "()I" } : Jvm.MethodName) jdk_38_method_8_code (1 : Nat) (Option.some Jvm.ClassFile.FieldType.int)).before args0 about1 = true := code_word (m := ⟨12, 1⟩) (meth := k12m1) (c := k12c1) (by decide +kernel) rfl rfl rfl (by decide +kernel)
set_option maxRecDepth 65536 in
theorem w_c7 : (Jvm.Cond.code ({ cls := "com/example/loopline/loopline/engine/Scenario", name := "<init>", desc := "(Ljava/util/List;Ljava/util/List;Ljava/util/List;J[[J)V" } : Jvm.MethodName) prog_51_method_2_code (7 : Nat) (Option.none : Option Jvm.ClassFile.FieldType)).before args0 about1 = true := code_word (m := ⟨2, 1⟩) (meth := k2m1) (c := k2c1) (by decide +kernel) rfl rfl rfl (by decide +kernel)
set_option maxRecDepth 65536 in
theorem w_c8 : (Jvm.Cond.code ({ cls := "java/util/List", name := "copyOf", desc := "(Ljava/util/Collection;)Ljava/util/List;" } : Jvm.MethodName) jdk_40_method_48_code (1 : Nat) (Option.some (Jvm.ClassFile.FieldType.object "java/util/List"))).before args0 about1 = true := code_word (m := ⟨7, 2⟩) (meth := k7m2) (c := k7c2) (by decide +kernel) rfl rfl rfl (by decide +kernel)
set_option maxRecDepth 65536 in
theorem w_c9 : (Jvm.Cond.code ({ cls := "java/util/ImmutableCollections", name := "listCopy", desc := "(Ljava/util/Collection;)Ljava/util/List;" } : Jvm.MethodName) jdk_56_method_3_code (2 : Nat) (Option.some (Jvm.ClassFile.FieldType.object "java/util/List"))).before args0 about1 = true := code_word (m := ⟨13, 1⟩) (meth := k13m1) (c := k13c1) (by decide +kernel) rfl rfl rfl (by decide +kernel)
set_option maxRecDepth 65536 in
theorem w_c10 : (Jvm.Cond.code ({ cls := "java/util/ArrayList", name := "isEmpty", desc := "()Z" } : Jvm.MethodName) jdk_38_method_9_code (1 : Nat) (Option.some Jvm.ClassFile.FieldType.boolean)).before args0 about1 = true := code_word (m := ⟨12, 2⟩) (meth := k12m2) (c := k12c2) (by decide +kernel) rfl rfl rfl (by decide +kernel)
set_option maxRecDepth 65536 in
theorem w_c11 : (Jvm.Cond.code ({ cls := "java/util/List", name := "of", desc := "()Ljava/util/List;" } : Jvm.MethodName) jdk_40_method_36_code (0 : Nat) (Option.some (Jvm.ClassFile.FieldType.object "java/util/List"))).before args0 about1 = true := code_word (m := ⟨7, 1⟩) (meth := k7m1) (c := k7c1) (by decide +kernel) rfl rfl rfl (by decide +kernel)
set_option maxRecDepth 65536 in
theorem w_c12 : (Jvm.Cond.code ({ cls := "com/example/loopline/loopline/engine/Scenario", name := "isInProgress", desc := "()Z" } : Jvm.MethodName) prog_51_method_8_code (1 : Nat) (Option.some Jvm.ClassFile.FieldType.boolean)).before args0 about1 = true := code_word (m := ⟨2, 3⟩) (meth := k2m3) (c := k2c3) (by decide +kernel) rfl rfl rfl (by decide +kernel)
set_option maxRecDepth 65536 in
theorem w_c13 : (Jvm.Cond.code ({ cls := "com/example/loopline/loopline/engine/Scenario", name := "moment", desc := "()J" } : Jvm.MethodName) prog_51_method_9_code (1 : Nat) (Option.some Jvm.ClassFile.FieldType.long)).before args0 about1 = true := code_word (m := ⟨2, 4⟩) (meth := k2m4) (c := k2c4) (by decide +kernel) rfl rfl rfl (by decide +kernel)
set_option maxRecDepth 65536 in
theorem w_c14 : (Jvm.Cond.code ({ cls := "com/example/loopline/loopline/engine/Scenario", name := "inProgress", desc := "(JLjava/util/List;Ljava/util/List;)Lcom/example/loopline/loopline/engine/Scenario;" } : Jvm.MethodName) prog_51_method_7_code (11 : Nat) (Option.some (Jvm.ClassFile.FieldType.object "com/example/loopline/loopline/engine/Scenario"))).before args0 about1 = true := code_word (m := ⟨2, 2⟩) (meth := k2m2) (c := k2c2) (by decide +kernel) rfl rfl rfl (by decide +kernel)
def codes1 : List Jvm.Cond := [Jvm.Cond.code x code maxLocals ret, Jvm.Cond.code ({ cls := "java/util/ArrayList", name := "<init>", desc := "()V" } : Jvm.MethodName) jdk_38_method_2_code (1 : Nat) (Option.none : Option Jvm.ClassFile.FieldType), Jvm.Cond.code ({ cls := "java/util/AbstractList", name := "<init>", desc := "()V" } : Jvm.MethodName) jdk_39_method_1_code (1 : Nat) (Option.none : Option Jvm.ClassFile.FieldType), Jvm.Cond.code ({ cls := "java/util/AbstractCollection", name := "<init>", desc := "()V" } : Jvm.MethodName) jdk_22_method_1_code (1 : Nat) (Option.none : Option Jvm.ClassFile.FieldType), Jvm.Cond.code ({ cls := "java/lang/Object", name := "<init>", desc := "()V" } : Jvm.MethodName) object_method_1_code (1 : Nat) (Option.none : Option Jvm.ClassFile.FieldType), Jvm.Cond.code ({ cls := "com/example/loopline/loopline/engine/Scenario", name := "<init>", desc := "(Ljava/util/List;Ljava/util/List;Ljava/util/List;)V" } : Jvm.MethodName) prog_51_method_1_code (4 : Nat) (Option.none : Option Jvm.ClassFile.FieldType), Jvm.Cond.code ({ cls := "java/util/ArrayList", name := "size", desc := "()I" } : Jvm.MethodName) jdk_38_method_8_code (1 : Nat) (Option.some Jvm.ClassFile.FieldType.int), Jvm.Cond.code ({ cls := "com/example/loopline/loopline/engine/Scenario", name := "<init>", desc := "(Ljava/util/List;Ljava/util/List;Ljava/util/List;J[[J)V" } : Jvm.MethodName) prog_51_method_2_code (7 : Nat) (Option.none : Option Jvm.ClassFile.FieldType), Jvm.Cond.code ({ cls := "java/util/List", name := "copyOf", desc := "(Ljava/util/Collection;)Ljava/util/List;" } : Jvm.MethodName) jdk_40_method_48_code (1 : Nat) (Option.some (Jvm.ClassFile.FieldType.object "java/util/List")), Jvm.Cond.code ({ cls := "java/util/ImmutableCollections", name := "listCopy", desc := "(Ljava/util/Collection;)Ljava/util/List;" } : Jvm.MethodName) jdk_56_method_3_code (2 : Nat) (Option.some (Jvm.ClassFile.FieldType.object "java/util/List")), Jvm.Cond.code ({ cls := "java/util/ArrayList", name := "isEmpty", desc := "()Z" } : Jvm.MethodName) jdk_38_method_9_code (1 : Nat) (Option.some Jvm.ClassFile.FieldType.boolean), Jvm.Cond.code ({ cls := "java/util/List", name := "of", desc := "()Ljava/util/List;" } : Jvm.MethodName) jdk_40_method_36_code (0 : Nat) (Option.some (Jvm.ClassFile.FieldType.object "java/util/List")), Jvm.Cond.code ({ cls := "com/example/loopline/loopline/engine/Scenario", name := "isInProgress", desc := "()Z" } : Jvm.MethodName) prog_51_method_8_code (1 : Nat) (Option.some Jvm.ClassFile.FieldType.boolean), Jvm.Cond.code ({ cls := "com/example/loopline/loopline/engine/Scenario", name := "moment", desc := "()J" } : Jvm.MethodName) prog_51_method_9_code (1 : Nat) (Option.some Jvm.ClassFile.FieldType.long), Jvm.Cond.code ({ cls := "com/example/loopline/loopline/engine/Scenario", name := "inProgress", desc := "(JLjava/util/List;Ljava/util/List;)Lcom/example/loopline/loopline/engine/Scenario;" } : Jvm.MethodName) prog_51_method_7_code (11 : Nat) (Option.some (Jvm.ClassFile.FieldType.object "com/example/loopline/loopline/engine/Scenario"))]
set_option maxRecDepth 65536 in
theorem codes_eq : words1.filter isCode = codes1 := rfl
theorem w_codes : ∀ c ∈ words1.filter isCode, c.before args0 about1 = true := by
  rw [codes_eq]
  intro c hc
  simp only [codes1, List.mem_cons, List.not_mem_nil, or_false] at hc
  rcases hc with rfl | rfl | rfl | rfl | rfl | rfl | rfl | rfl | rfl | rfl | rfl | rfl | rfl | rfl | rfl
  · exact w_c0
  · exact w_c1
  · exact w_c2
  · exact w_c3
  · exact w_c4
  · exact w_c5
  · exact w_c6
  · exact w_c7
  · exact w_c8
  · exact w_c9
  · exact w_c10
  · exact w_c11
  · exact w_c12
  · exact w_c13
  · exact w_c14
set_option maxRecDepth 65536 in
theorem w_t1 : (words1.take 24).all (fun c => isCode c || c.before args0 about1) = true := by decide +kernel
set_option maxRecDepth 65536 in
theorem w_t2 : ((words1.drop 24).take 24).all (fun c => isCode c || c.before args0 about1) = true := by decide +kernel
set_option maxRecDepth 65536 in
theorem w_t3 : (((words1.drop 24).drop 24).take 24).all (fun c => isCode c || c.before args0 about1) = true := by decide +kernel
set_option maxRecDepth 65536 in
theorem w_t4 : ((((words1.drop 24).drop 24).drop 24).take 24).all (fun c => isCode c || c.before args0 about1) = true := by decide +kernel
set_option maxRecDepth 65536 in
theorem w_t5 : ((((words1.drop 24).drop 24).drop 24).drop 24).all (fun c => isCode c || c.before args0 about1) = true := by decide +kernel
theorem w_tables : (allAtoms (Jvm.Cond.code x code maxLocals ret :: tables_1)).before args0 about1 = true := by
  rw [allAtoms_all]
  show words1.all (fun c => c.before args0 about1) = true
  refine all_split ?_ w_codes
  rw [← List.take_append_drop 24 words1, List.all_append, w_t1, ← List.take_append_drop 24 (words1.drop 24), List.all_append, w_t2, ← List.take_append_drop 24 ((words1.drop 24).drop 24), List.all_append, w_t3, ← List.take_append_drop 24 (((words1.drop 24).drop 24).drop 24), List.all_append, w_t4, w_t5]
  rfl
set_option maxRecDepth 65536 in
theorem w_rest : rest_1_c.before args0 about1 = true := by decide +kernel
set_option maxRecDepth 65536 in
theorem w_case : (Jvm.Cond.and given_1 narrow_1).before args0 about1 = true := by decide +kernel
theorem w_applies : (headSpec (Jvm.Cond.code x code maxLocals ret :: tables_1) room_1).applies x e0.platform about1 = true :=
  (Spec.applies_iff w_frames).mpr ⟨w_running, w_runnable, w_alone, w_named, w_hears, w_ripe, w_room, w_tables⟩
theorem atStart : AtStart classFile x code maxLocals ret World_1 tables_1 room_1 Calls_1 rest_1 Pre_1 launch0 p0 e0 about1 theMethod args0 below0 :=
  ⟨lists_1, trivial, launch0.admits_env _ _ _, launch0.least_env, fairChoices_fair.cas, fairChoices_fair.clock, w_frames, w_args, w_heap, w_applies, trivial, w_rest, w_case⟩
end start1
theorem witness_1 : WitnessClaimed_1 := ⟨start1.p0, start1.e0, start1.about1, start1.theMethod, start1.args0, start1.below0, start1.atStart⟩
end Jvm.Pilot.@@N@@
