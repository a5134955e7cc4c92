import JvmDerived
import JvmDerived.Pilot.@@N@@Statement
import JvmDerived.Pilot.@@N@@Code
set_option linter.unusedVariables false
set_option linter.unusedSimpArgs false
namespace Jvm.RoadKit
open Sem ClassFile Op Lib Jvm.Stand Jvm.Free Jvm.LawKit
section New
variable {p : Program} {l : Launch} {e : Env} {R : Room} {s : State} {m : MethodId} {args : Array Value} {below : List Frame} {meth : Method} {c : Code} {T : State} {locs : List Loc} {cells slots : Nat}
theorem retI (X : Stand p l e R s m args below meth c T locs cells slots) (hx : p.tables.exec = Jvm.exec) {pc : Nat} {Ls : Array Slot} {z : Int32} {rest : List Value} (hret : meth.sig.returnType = some .int) (hd : decode c.code pc = .ok (.ireturn, 1)) {fs : List Frame}
    (hl : ∀ (f : JFrame) (acts : List Action), f.method = m → f.locked = none → f.entered = [] → (doReturn e (T.setTop f) acts (some (.int z))).1 = T.setFrames fs) : Steps p.tables e below (T.setTop (mkF m pc Ls (.int z :: rest))) (T.setFrames fs) := by
  have hm' : T.vm.method? m = some meth := X.method'
  have hn : narrow .int (.int z) = .int z := rfl
  show Steps p.tables e below (T.setTop { method := m, pc := pc, locals := Ls, stack := _ :: rest, locked := none }) _
  jvm_step X.here [X.here.top, hx, hd, hm', hret, hn]
  first | (intro acts; rw [hl _ acts rfl rfl rfl]) | rw [hl _ _ rfl rfl rfl]
  exact Steps.refl _
end New
end Jvm.RoadKit
namespace Jvm.Pilot.@@N@@
open Jvm Jvm.ClassFile Sem Op Lib Jvm.Free Jvm.Stand Jvm.LawKit Jvm.RoadKit Bundle Jvm.Pilot.@@N@@.Jvm.D
set_option maxRecDepth 65536
set_option maxHeartbeats 40000000
theorem ow {Z : State} {a0 : Array Value} (hw : ∀ d ∈ tables_1, d.before a0 Z = true) (i : Nat) {d : Jvm.Cond} (h : tables_1[i]? = some d) : d.before a0 Z = true := hw d (List.mem_of_getElem? h)
abbrev rmk (f c s l : Nat) : Room := { frames := f, cells := c, slots := s, locals := l }
abbrev MetB (l : Launch) (y : MethodName) (bytes : ByteArray) (maxL : Nat) (ret : Option FieldType) (ws : List Jvm.Cond) (rm : Room) (Z : State) (h0 : Heap) (as' : Array Value) (Q : Option Value → Heap → List Loc → Prop) : Prop :=
  MetFree l y (head1 (Jvm.Cond.code y bytes maxL ret :: ws) rm) (fun a U => a = as' ∧ Z.Warmed39 U.vm ∧ U.heap = h0) (fun _ _ _ _ _ => True) (fun _ U o U' => ∃ v L, o = .returned v ∧ Q v U'.heap L ∧ FrameEnd U o U' L rm.cells rm.slots)
theorem own_body {l : Launch} {y : MethodName} {bytes : ByteArray} {maxL : Nat} {ret : Option FieldType} {ws : List Jvm.Cond} {rm : Room} {Z : State} {h0 : Heap} {as' : Array Value} {Q : Option Value → Heap → List Loc → Prop} (hpl : plainFor y = true)
    (body : ∀ (p : Program) (e : Env) (s : State) (m : MethodId) (below : List Frame) (meth : Method) (c : Code) (s₁ : State), p.tables.exec = Jvm.exec → c.code = bytes → c.maxLocals = maxL → s.vm.findClass y.cls = some m.cls → meth.name = y.name → meth.sig.returnType = ret → meth.locks = false → Z.Warmed39 s.vm → Stand p l e rm s m as' below meth c s₁ [] 0 0 → s₁.heap = h0 →
      ∃ s₂ o, Steps p.tables e below (s₁.setTop (entryFrame m as' maxL)) s₂ ∧ s₂.status = .running ∧ Ended s₂ below o ∧ ∃ v L, o = .returned v ∧ Q v s₂.heap L ∧ FrameEnd s o s₂ L rm.cells rm.slots) : MetB l y bytes maxL ret ws rm Z h0 as' Q := by
  refine MetFree.of_bodySF hpl hisR ?_
  intro p e s m args below meth c s₁ Bd hml0 hP hK
  obtain ⟨rfl, hZ, hh⟩ := hP
  exact body p e s m below meth c s₁ Bd.exec Bd.bytes hml0 (findClass_of_methodNamed Bd.named) (name_of_methodNamed Bd.named Bd.method).1 Bd.returns Bd.notSynchronized hZ (Stand.of_body Bd) (by rw [← hh, Bd.state]; rfl)
abbrev vr (a : Addr) : Slot := .val (.ref a)
abbrev vi (a : Int32) : Slot := .val (.int a)
abbrev vl (a : Int64) : Slot := .val (.long a)
theorem own_sz {Z : State} {n0 : Nat} {h : Heap} (O : Old Z n0 h) : n0 ≤ h.size := O.1 ▸ O.2.1
theorem own_eq_int {args : Array Value} {first s : State} {o : Option Outcome} {idx : List Nat} {t : Term} {k : Int32} (h : (Jvm.Cond.eq t (.int k)).value args first o s idx = some true) : t.eval args first o idx s = some (.int k) := by
  simp only [Jvm.Cond.value, Term.eval] at h
  cases ht : t.eval args first o idx s with
  | none => simp [ht] at h
  | some x => cases x <;> simp [ht] at h ⊢; exact h
theorem own_eq_long {args : Array Value} {first s : State} {o : Option Outcome} {idx : List Nat} {t : Term} {k : Int64} (h : (Jvm.Cond.eq t (.long k)).value args first o s idx = some true) : t.eval args first o idx s = some (.long k) := by
  simp only [Jvm.Cond.value, Term.eval] at h
  cases ht : t.eval args first o idx s with
  | none => simp [ht] at h
  | some x => cases x <;> simp [ht] at h ⊢; exact h
theorem own_selp {s : State} {args : Array Value} {y : MethodName} {n : Nat} (wi : (Jvm.Cond.instantiable y.cls n).before args s = true) (wp : (Jvm.Cond.privateMethod y).before args s = true) (wm : (Jvm.Cond.instanceMethod y).before args s = true) (hy : y.cls ≠ "java/lang/invoke/MethodHandle" ∧ y.cls ≠ "java/lang/invoke/VarHandle") : (Jvm.Cond.selects y.cls y y).before args s = true := by
  obtain ⟨c, k, hc, hk, -, hni, -, -⟩ := Cond.instantiable_spec wi
  exact selects_self_of_private hc hk (Bool.or_eq_false_iff.mp hni).1 (Cond.privateMethod_at wp) wm hy
theorem own_getR {p : Program} {l : Launch} {e : Env} {R : Room} {s : State} {m : MethodId} {args : Array Value} {below : List Frame} {meth : Method} {c : Code} {T : State} {locs : List Loc} {cells slots : Nat} {Z : State} {a0 : Array Value} {h : Heap} (X : Stand p l e R s m args below meth c T locs cells slots) (hx : p.tables.exec = Jvm.exec) (hZ : Z.Warmed39 s.vm) {own R0 n d : String} {index : Nat} (hown : s.vm.findClass own = some m.cls) (w : (Jvm.Cond.fieldRef own index R0 n d).before a0 Z = true)
    (eT : T.heap = h) {a : Addr} {v : Value} (F : Fld Z h a R0 n d v) {g : JFrame} (hg : g.method = m) {rest : List Value} (hs : g.stack = .ref a :: rest) (hd : decode c.code g.pc = .ok (.getfield index, 3)) : ∃ T', Stand p l e R s m args below meth c T' locs cells slots ∧ T'.heap = h ∧ ∀ target, Steps p.tables e below (T'.setTop { g with pc := g.pc + 3, stack := v :: rest }) target → Steps p.tables e below (T.setTop g) target := by
  obtain ⟨cell, cf, k, i, f, h1, h2, h3, h4, -, -, h7⟩ := F
  have wT := Cond.fieldRef_warmed39 (wtrans hZ X.warmed) w
  obtain ⟨c', k', i', f', q1, q2⟩ := Cond.fieldRef_spec (cur := m.cls) (by show T.vm.findClass own = some m.cls; rw [X.warmed.alike.findClass]; exact hown) wT
  obtain ⟨k'', hf', -⟩ := State.fieldFound?_setVm (s := Z) (wtrans hZ X.warmed).alike h2
  cases hf'.symm.trans q1
  exact ⟨T, X, eT, fun target k => (X.getfieldR hx hg q2 h3 hs (by rw [eT]; exact h1) h4 h7 hd (Steps.refl _)).trans k⟩
theorem own_lc (x : Int64) : lcmpW x x = 0 := (lw_eq x x).mpr rfl
theorem own_b01 {P : Prop} [Decidable P] {y a b : Int32} (h : y = if P then a else b) : y = a ∨ y = b := by rw [h]; split; exact Or.inl rfl; exact Or.inr rfl
abbrev M0 : MethodName := ⟨"com/example/tuplecraft/tuplecraft/TruthNotPinLaw", "pick", "(I)Lcom/example/tuplecraft/tuplecraft/Truth;"⟩
abbrev M1 : MethodName := ⟨"java/lang/Enum", "ordinal", "()I"⟩
abbrev M2 : MethodName := ⟨"com/example/tuplecraft/tuplecraft/Truth", "not", "()Lcom/example/tuplecraft/tuplecraft/Truth;"⟩
abbrev M3 : MethodName := ⟨"com/example/tuplecraft/tuplecraft/Truth", "ordinal", "()I"⟩
abbrev s0n : String := "com/example/tuplecraft/tuplecraft/Truth"
def SS (Z : State) (wFALSE : Addr) (wTRUE : Addr) (wUNKNOWN : Addr) : Prop := Sta Z Z.heap s0n "FALSE" "Lcom/example/tuplecraft/tuplecraft/Truth;" (.ref wFALSE) ∧ Exa Z Z.heap wFALSE s0n ∧ Sta Z Z.heap s0n "TRUE" "Lcom/example/tuplecraft/tuplecraft/Truth;" (.ref wTRUE) ∧ Exa Z Z.heap wTRUE s0n ∧ Sta Z Z.heap s0n "UNKNOWN" "Lcom/example/tuplecraft/tuplecraft/Truth;" (.ref wUNKNOWN) ∧ Exa Z Z.heap wUNKNOWN s0n ∧ Fld Z Z.heap wFALSE "java/lang/Enum" "ordinal" "I" (.int 0) ∧ Fld Z Z.heap wTRUE "java/lang/Enum" "ordinal" "I" (.int 2) ∧ Fld Z Z.heap wUNKNOWN "java/lang/Enum" "ordinal" "I" (.int 1)
theorem own_mod3 (x : Int32) : (x &&& 2147483647) % 3 = 0 ∨ (x &&& 2147483647) % 3 = 1 ∨ (x &&& 2147483647) % 3 = 2 := by
  have h1 := c_mask x 2147483647 31 (by decide) (by decide)
  have h2 := (c_irem (x &&& 2147483647) 3 3 (by decide)).1 (by omega)
  have h3 : ((x &&& 2147483647) % 3).toInt = 0 ∨ ((x &&& 2147483647) % 3).toInt = 1 ∨ ((x &&& 2147483647) % 3).toInt = 2 := by omega
  rcases h3 with h | h | h
  · exact Or.inl (Int32.toInt_inj.mp (h.trans (by decide)))
  · exact Or.inr (Or.inl (Int32.toInt_inj.mp (h.trans (by decide))))
  · exact Or.inr (Or.inr (Int32.toInt_inj.mp (h.trans (by decide))))
theorem ef_rm1_0 (m : MethodId) (x0 : Int32)  : entryFrame m #[(.int x0)] 1 = mkF m 0 #[(vi x0)] [] := by first | (simp [entryFrame, mkF, argsToLocals, Value.category]; done) | rfl
theorem pn_com_example_tuplecraft_tuplecraft_TruthNotPinLaw : plainName "com/example/tuplecraft/tuplecraft/TruthNotPinLaw" = true := by first | (simp [plainName, overriddenIn]; done) | decide +kernel
theorem d1_0 : decode method_2_code 0 = .ok (.iload_n 0, 1) := by decide +kernel
theorem d1_1 : decode method_2_code 1 = .ok (.ifCond .ne 7, 3) := by decide +kernel
theorem d1_4 : decode method_2_code 4 = .ok (.getstatic 7, 3) := by decide +kernel
theorem d1_7 : decode method_2_code 7 = .ok (.areturn, 1) := by decide +kernel
def Q_rm1_0 (Z : State) (wFALSE : Addr) (wTRUE : Addr) (wUNKNOWN : Addr)  (h0 : Heap) (n0 : Nat) (v : Option Value) (h : Heap) (L : List Loc) : Prop := v = some (.ref wFALSE) ∧ Fr n0 L ∧ h = h0
theorem rm1_0 (l : Launch) (Z : State) (a0 : Array Value) (hw : ∀ d ∈ tables_1, d.before a0 Z = true) (ws : List Jvm.Cond) (wFALSE : Addr) (wTRUE : Addr) (wUNKNOWN : Addr) (hS : SS Z wFALSE wTRUE wUNKNOWN)  (h0 : Heap) (n0 : Nat) (O0 : Old Z n0 h0)  :
    MetB l M0 method_2_code 1 (some (.object s0n)) ws (rmk 0 0 0 0) Z h0 #[(.int 0)] (Q_rm1_0 Z wFALSE wTRUE wUNKNOWN  h0 n0) := by
  refine own_body (plainFor_of_name pn_com_example_tuplecraft_tuplecraft_TruthNotPinLaw) ?_
  intro p e s m below meth c s₁ hx hby hml hown hnm hret0 hlk0 hZ X0 e0
  have N0 := Fr.nil n0
  have pre0 : ∀ t, Steps p.tables e below (s₁.setTop (mkF m 0 #[(vi 0)] [])) t → Steps p.tables e below (s₁.setTop (entryFrame m #[(.int 0)] 1)) t := fun t k => castTop (ef_rm1_0 m (0 : Int32)) k
  have hS0 := hS
  obtain ⟨S_wFALSE, E_wFALSE, S_wTRUE, E_wTRUE, S_wUNKNOWN, E_wUNKNOWN, F_ordinal_wFALSE, F_ordinal_wTRUE, F_ordinal_wUNKNOWN⟩ := hS0
  obtain ⟨T1, X1, e1, st1⟩ := getS2 X0 hx hZ hown (host := "") (Or.inl (ow hw 5 rfl)) Via.refl e0 (S_wFALSE.ext O0.2) (g := (mkF m 4 #[(vi 0)] [])) rfl (hb hby d1_4)
  obtain ⟨fs, hr, hrun, hended, hW, hsame⟩ := X1.leave (v := some (.ref wFALSE)) (fun h => by rw [hret0] at h; cases h)
  refine ⟨_, _, pre0 _ ?_, hrun, hended, _, _, rfl, ?_, ⟨_, rfl⟩, hW, hsame.mono (by decide) (by decide)⟩
  · skip
    show Steps p.tables e below (s₁.setTop (mkF m 0 #[(vi 0)] [])) _
    refine XS.iloadN X0.here hx rfl (hb hby d1_0) rfl ?_
    refine XS.ifNo X0.here hx rfl (hb hby d1_1) rfl ((if0 _ _).trans (teq (by decide : (0 : Int32) = (0 : Int32))).2) ?_
    refine st1 _ ?_
    jvm_step X1.here [X1.here.top, hx, (hb hby d1_7), X1.method', hret0, Value.isRef, FieldType.isReference]
    first | (intro acts; rw [hr _ acts rfl rfl rfl]) | rw [hr _ _ rfl rfl rfl]
    exact Steps.refl _
  · show Q_rm1_0 Z wFALSE wTRUE wUNKNOWN  h0 n0 _ T1.heap _
    rw [e1]
    exact ⟨rfl, N0, rfl⟩
theorem ef_rm3_0 (m : MethodId) (x0 : Addr)  : entryFrame m #[(.ref x0)] 1 = mkF m 0 #[(vr x0)] [] := by first | (simp [entryFrame, mkF, argsToLocals, Value.category]; done) | rfl
theorem pn_java_lang_Enum : plainName "java/lang/Enum" = true := by first | (simp [plainName, overriddenIn]; done) | decide +kernel
theorem d3_0 : decode jdk_37_method_2_code 0 = .ok (.aload_n 0, 1) := by decide +kernel
theorem d3_1 : decode jdk_37_method_2_code 1 = .ok (.getfield 7, 3) := by decide +kernel
theorem d3_4 : decode jdk_37_method_2_code 4 = .ok (.ireturn, 1) := by decide +kernel
def Q_rm3_0 (Z : State) (wFALSE : Addr) (wTRUE : Addr) (wUNKNOWN : Addr)  (h0 : Heap) (n0 : Nat) (v : Option Value) (h : Heap) (L : List Loc) : Prop := v = some (.int 0) ∧ Fr n0 L ∧ h = h0
theorem rm3_0 (l : Launch) (Z : State) (a0 : Array Value) (hw : ∀ d ∈ tables_1, d.before a0 Z = true) (ws : List Jvm.Cond) (wFALSE : Addr) (wTRUE : Addr) (wUNKNOWN : Addr) (hS : SS Z wFALSE wTRUE wUNKNOWN)  (h0 : Heap) (n0 : Nat) (O0 : Old Z n0 h0)  :
    MetB l M1 jdk_37_method_2_code 1 (some .int) ws (rmk 0 0 0 0) Z h0 #[(.ref wFALSE)] (Q_rm3_0 Z wFALSE wTRUE wUNKNOWN  h0 n0) := by
  refine own_body (plainFor_of_name pn_java_lang_Enum) ?_
  intro p e s m below meth c s₁ hx hby hml hown hnm hret0 hlk0 hZ X0 e0
  have N0 := Fr.nil n0
  have pre0 : ∀ t, Steps p.tables e below (s₁.setTop (mkF m 0 #[(vr wFALSE)] [])) t → Steps p.tables e below (s₁.setTop (entryFrame m #[(.ref wFALSE)] 1)) t := fun t k => castTop (ef_rm3_0 m wFALSE) k
  have hS0 := hS
  obtain ⟨S_wFALSE, E_wFALSE, S_wTRUE, E_wTRUE, S_wUNKNOWN, E_wUNKNOWN, F_ordinal_wFALSE, F_ordinal_wTRUE, F_ordinal_wUNKNOWN⟩ := hS0
  obtain ⟨T1, X1, e1, st1⟩ := getF X0 hx hZ hown (host := "") (Or.inl (ow hw 20 rfl)) Via.refl e0 (F_ordinal_wFALSE.ext O0.2) (g := (mkF m 1 #[(vr wFALSE)] [(.ref wFALSE)])) rfl rfl (hb hby d3_1)
  obtain ⟨fs, hr, hrun, hended, hW, hsame⟩ := X1.leave (v := some (.int 0)) (fun h => by rw [hret0] at h; cases h)
  refine ⟨_, _, pre0 _ ?_, hrun, hended, _, _, rfl, ?_, ⟨_, rfl⟩, hW, hsame.mono (by decide) (by decide)⟩
  · skip
    show Steps p.tables e below (s₁.setTop (mkF m 0 #[(vr wFALSE)] [])) _
    refine XS.aloadN X0.here hx rfl (hb hby d3_0) rfl rfl ?_
    refine st1 _ ?_
    exact retI X1 hx hret0 (hb hby d3_4) hr
  · show Q_rm3_0 Z wFALSE wTRUE wUNKNOWN  h0 n0 _ T1.heap _
    rw [e1]
    exact ⟨rfl, N0, rfl⟩
theorem ef_rm1_1 (m : MethodId) (x0 : Int32)  : entryFrame m #[(.int x0)] 1 = mkF m 0 #[(vi x0)] [] := by first | (simp [entryFrame, mkF, argsToLocals, Value.category]; done) | rfl
theorem d1_8 : decode method_2_code 8 = .ok (.iload_n 0, 1) := by decide +kernel
theorem d1_9 : decode method_2_code 9 = .ok (.iconst 1, 1) := by decide +kernel
theorem d1_10 : decode method_2_code 10 = .ok (.if_icmp .ne 7, 3) := by decide +kernel
theorem d1_13 : decode method_2_code 13 = .ok (.getstatic 13, 3) := by decide +kernel
theorem d1_16 : decode method_2_code 16 = .ok (.areturn, 1) := by decide +kernel
def Q_rm1_1 (Z : State) (wFALSE : Addr) (wTRUE : Addr) (wUNKNOWN : Addr)  (h0 : Heap) (n0 : Nat) (v : Option Value) (h : Heap) (L : List Loc) : Prop := v = some (.ref wUNKNOWN) ∧ Fr n0 L ∧ h = h0
theorem rm1_1 (l : Launch) (Z : State) (a0 : Array Value) (hw : ∀ d ∈ tables_1, d.before a0 Z = true) (ws : List Jvm.Cond) (wFALSE : Addr) (wTRUE : Addr) (wUNKNOWN : Addr) (hS : SS Z wFALSE wTRUE wUNKNOWN)  (h0 : Heap) (n0 : Nat) (O0 : Old Z n0 h0)  :
    MetB l M0 method_2_code 1 (some (.object s0n)) ws (rmk 0 0 0 0) Z h0 #[(.int 1)] (Q_rm1_1 Z wFALSE wTRUE wUNKNOWN  h0 n0) := by
  refine own_body (plainFor_of_name pn_com_example_tuplecraft_tuplecraft_TruthNotPinLaw) ?_
  intro p e s m below meth c s₁ hx hby hml hown hnm hret0 hlk0 hZ X0 e0
  have N0 := Fr.nil n0
  have pre0 : ∀ t, Steps p.tables e below (s₁.setTop (mkF m 0 #[(vi 1)] [])) t → Steps p.tables e below (s₁.setTop (entryFrame m #[(.int 1)] 1)) t := fun t k => castTop (ef_rm1_1 m (1 : Int32)) k
  have hS0 := hS
  obtain ⟨S_wFALSE, E_wFALSE, S_wTRUE, E_wTRUE, S_wUNKNOWN, E_wUNKNOWN, F_ordinal_wFALSE, F_ordinal_wTRUE, F_ordinal_wUNKNOWN⟩ := hS0
  obtain ⟨T1, X1, e1, st1⟩ := getS2 X0 hx hZ hown (host := "") (Or.inl (ow hw 26 rfl)) Via.refl e0 (S_wUNKNOWN.ext O0.2) (g := (mkF m 13 #[(vi 1)] [])) rfl (hb hby d1_13)
  obtain ⟨fs, hr, hrun, hended, hW, hsame⟩ := X1.leave (v := some (.ref wUNKNOWN)) (fun h => by rw [hret0] at h; cases h)
  refine ⟨_, _, pre0 _ ?_, hrun, hended, _, _, rfl, ?_, ⟨_, rfl⟩, hW, hsame.mono (by decide) (by decide)⟩
  · skip
    show Steps p.tables e below (s₁.setTop (mkF m 0 #[(vi 1)] [])) _
    refine XS.iloadN X0.here hx rfl (hb hby d1_0) rfl ?_
    refine XS.ifYes X0.here hx rfl (pc0 := 1) (pc' := 8) rfl (hb hby d1_1) rfl ((if0 _ _).trans (feq (by decide : ¬ ((1 : Int32) = (0 : Int32)))).2) (by decide) (by decide) ?_
    refine XS.iloadN X0.here hx rfl (hb hby d1_8) rfl ?_
    refine XS.iconst X0.here hx rfl (hb hby d1_9) ?_
    refine XS.icmpNo X0.here hx rfl (hb hby d1_10) rfl (teq (by decide : (1 : Int32) = (1 : Int32))).2 ?_
    show Steps p.tables e below (s₁.setTop (mkF m 13 #[(vi 1)] [])) _
    refine st1 _ ?_
    jvm_step X1.here [X1.here.top, hx, (hb hby d1_16), X1.method', hret0, Value.isRef, FieldType.isReference]
    first | (intro acts; rw [hr _ acts rfl rfl rfl]) | rw [hr _ _ rfl rfl rfl]
    exact Steps.refl _
  · show Q_rm1_1 Z wFALSE wTRUE wUNKNOWN  h0 n0 _ T1.heap _
    rw [e1]
    exact ⟨rfl, N0, rfl⟩
theorem ef_rm3_1 (m : MethodId) (x0 : Addr)  : entryFrame m #[(.ref x0)] 1 = mkF m 0 #[(vr x0)] [] := by first | (simp [entryFrame, mkF, argsToLocals, Value.category]; done) | rfl
def Q_rm3_1 (Z : State) (wFALSE : Addr) (wTRUE : Addr) (wUNKNOWN : Addr)  (h0 : Heap) (n0 : Nat) (v : Option Value) (h : Heap) (L : List Loc) : Prop := v = some (.int 1) ∧ Fr n0 L ∧ h = h0
theorem rm3_1 (l : Launch) (Z : State) (a0 : Array Value) (hw : ∀ d ∈ tables_1, d.before a0 Z = true) (ws : List Jvm.Cond) (wFALSE : Addr) (wTRUE : Addr) (wUNKNOWN : Addr) (hS : SS Z wFALSE wTRUE wUNKNOWN)  (h0 : Heap) (n0 : Nat) (O0 : Old Z n0 h0)  :
    MetB l M1 jdk_37_method_2_code 1 (some .int) ws (rmk 0 0 0 0) Z h0 #[(.ref wUNKNOWN)] (Q_rm3_1 Z wFALSE wTRUE wUNKNOWN  h0 n0) := by
  refine own_body (plainFor_of_name pn_java_lang_Enum) ?_
  intro p e s m below meth c s₁ hx hby hml hown hnm hret0 hlk0 hZ X0 e0
  have N0 := Fr.nil n0
  have pre0 : ∀ t, Steps p.tables e below (s₁.setTop (mkF m 0 #[(vr wUNKNOWN)] [])) t → Steps p.tables e below (s₁.setTop (entryFrame m #[(.ref wUNKNOWN)] 1)) t := fun t k => castTop (ef_rm3_1 m wUNKNOWN) k
  have hS0 := hS
  obtain ⟨S_wFALSE, E_wFALSE, S_wTRUE, E_wTRUE, S_wUNKNOWN, E_wUNKNOWN, F_ordinal_wFALSE, F_ordinal_wTRUE, F_ordinal_wUNKNOWN⟩ := hS0
  obtain ⟨T1, X1, e1, st1⟩ := getF X0 hx hZ hown (host := "") (Or.inl (ow hw 20 rfl)) Via.refl e0 (F_ordinal_wUNKNOWN.ext O0.2) (g := (mkF m 1 #[(vr wUNKNOWN)] [(.ref wUNKNOWN)])) rfl rfl (hb hby d3_1)
  obtain ⟨fs, hr, hrun, hended, hW, hsame⟩ := X1.leave (v := some (.int 1)) (fun h => by rw [hret0] at h; cases h)
  refine ⟨_, _, pre0 _ ?_, hrun, hended, _, _, rfl, ?_, ⟨_, rfl⟩, hW, hsame.mono (by decide) (by decide)⟩
  · skip
    show Steps p.tables e below (s₁.setTop (mkF m 0 #[(vr wUNKNOWN)] [])) _
    refine XS.aloadN X0.here hx rfl (hb hby d3_0) rfl rfl ?_
    refine st1 _ ?_
    exact retI X1 hx hret0 (hb hby d3_4) hr
  · show Q_rm3_1 Z wFALSE wTRUE wUNKNOWN  h0 n0 _ T1.heap _
    rw [e1]
    exact ⟨rfl, N0, rfl⟩
theorem ef_rm1_2 (m : MethodId) (x0 : Int32)  : entryFrame m #[(.int x0)] 1 = mkF m 0 #[(vi x0)] [] := by first | (simp [entryFrame, mkF, argsToLocals, Value.category]; done) | rfl
theorem d1_17 : decode method_2_code 17 = .ok (.getstatic 16, 3) := by decide +kernel
theorem d1_20 : decode method_2_code 20 = .ok (.areturn, 1) := by decide +kernel
def Q_rm1_2 (Z : State) (wFALSE : Addr) (wTRUE : Addr) (wUNKNOWN : Addr)  (h0 : Heap) (n0 : Nat) (v : Option Value) (h : Heap) (L : List Loc) : Prop := v = some (.ref wTRUE) ∧ Fr n0 L ∧ h = h0
theorem rm1_2 (l : Launch) (Z : State) (a0 : Array Value) (hw : ∀ d ∈ tables_1, d.before a0 Z = true) (ws : List Jvm.Cond) (wFALSE : Addr) (wTRUE : Addr) (wUNKNOWN : Addr) (hS : SS Z wFALSE wTRUE wUNKNOWN)  (h0 : Heap) (n0 : Nat) (O0 : Old Z n0 h0)  :
    MetB l M0 method_2_code 1 (some (.object s0n)) ws (rmk 0 0 0 0) Z h0 #[(.int 2)] (Q_rm1_2 Z wFALSE wTRUE wUNKNOWN  h0 n0) := by
  refine own_body (plainFor_of_name pn_com_example_tuplecraft_tuplecraft_TruthNotPinLaw) ?_
  intro p e s m below meth c s₁ hx hby hml hown hnm hret0 hlk0 hZ X0 e0
  have N0 := Fr.nil n0
  have pre0 : ∀ t, Steps p.tables e below (s₁.setTop (mkF m 0 #[(vi 2)] [])) t → Steps p.tables e below (s₁.setTop (entryFrame m #[(.int 2)] 1)) t := fun t k => castTop (ef_rm1_2 m (2 : Int32)) k
  have hS0 := hS
  obtain ⟨S_wFALSE, E_wFALSE, S_wTRUE, E_wTRUE, S_wUNKNOWN, E_wUNKNOWN, F_ordinal_wFALSE, F_ordinal_wTRUE, F_ordinal_wUNKNOWN⟩ := hS0
  obtain ⟨T1, X1, e1, st1⟩ := getS2 X0 hx hZ hown (host := "") (Or.inl (ow hw 24 rfl)) Via.refl e0 (S_wTRUE.ext O0.2) (g := (mkF m 17 #[(vi 2)] [])) rfl (hb hby d1_17)
  obtain ⟨fs, hr, hrun, hended, hW, hsame⟩ := X1.leave (v := some (.ref wTRUE)) (fun h => by rw [hret0] at h; cases h)
  refine ⟨_, _, pre0 _ ?_, hrun, hended, _, _, rfl, ?_, ⟨_, rfl⟩, hW, hsame.mono (by decide) (by decide)⟩
  · skip
    show Steps p.tables e below (s₁.setTop (mkF m 0 #[(vi 2)] [])) _
    refine XS.iloadN X0.here hx rfl (hb hby d1_0) rfl ?_
    refine XS.ifYes X0.here hx rfl (pc0 := 1) (pc' := 8) rfl (hb hby d1_1) rfl ((if0 _ _).trans (feq (by decide : ¬ ((2 : Int32) = (0 : Int32)))).2) (by decide) (by decide) ?_
    refine XS.iloadN X0.here hx rfl (hb hby d1_8) rfl ?_
    refine XS.iconst X0.here hx rfl (hb hby d1_9) ?_
    refine XS.icmpYes X0.here hx rfl (pc0 := 10) (pc' := 17) rfl (hb hby d1_10) rfl (feq (by decide : ¬ ((2 : Int32) = (1 : Int32)))).2 (by decide) (by decide) ?_
    show Steps p.tables e below (s₁.setTop (mkF m 17 #[(vi 2)] [])) _
    refine st1 _ ?_
    jvm_step X1.here [X1.here.top, hx, (hb hby d1_20), X1.method', hret0, Value.isRef, FieldType.isReference]
    first | (intro acts; rw [hr _ acts rfl rfl rfl]) | rw [hr _ _ rfl rfl rfl]
    exact Steps.refl _
  · show Q_rm1_2 Z wFALSE wTRUE wUNKNOWN  h0 n0 _ T1.heap _
    rw [e1]
    exact ⟨rfl, N0, rfl⟩
theorem ef_rm3_2 (m : MethodId) (x0 : Addr)  : entryFrame m #[(.ref x0)] 1 = mkF m 0 #[(vr x0)] [] := by first | (simp [entryFrame, mkF, argsToLocals, Value.category]; done) | rfl
def Q_rm3_2 (Z : State) (wFALSE : Addr) (wTRUE : Addr) (wUNKNOWN : Addr)  (h0 : Heap) (n0 : Nat) (v : Option Value) (h : Heap) (L : List Loc) : Prop := v = some (.int 2) ∧ Fr n0 L ∧ h = h0
theorem rm3_2 (l : Launch) (Z : State) (a0 : Array Value) (hw : ∀ d ∈ tables_1, d.before a0 Z = true) (ws : List Jvm.Cond) (wFALSE : Addr) (wTRUE : Addr) (wUNKNOWN : Addr) (hS : SS Z wFALSE wTRUE wUNKNOWN)  (h0 : Heap) (n0 : Nat) (O0 : Old Z n0 h0)  :
    MetB l M1 jdk_37_method_2_code 1 (some .int) ws (rmk 0 0 0 0) Z h0 #[(.ref wTRUE)] (Q_rm3_2 Z wFALSE wTRUE wUNKNOWN  h0 n0) := by
  refine own_body (plainFor_of_name pn_java_lang_Enum) ?_
  intro p e s m below meth c s₁ hx hby hml hown hnm hret0 hlk0 hZ X0 e0
  have N0 := Fr.nil n0
  have pre0 : ∀ t, Steps p.tables e below (s₁.setTop (mkF m 0 #[(vr wTRUE)] [])) t → Steps p.tables e below (s₁.setTop (entryFrame m #[(.ref wTRUE)] 1)) t := fun t k => castTop (ef_rm3_2 m wTRUE) k
  have hS0 := hS
  obtain ⟨S_wFALSE, E_wFALSE, S_wTRUE, E_wTRUE, S_wUNKNOWN, E_wUNKNOWN, F_ordinal_wFALSE, F_ordinal_wTRUE, F_ordinal_wUNKNOWN⟩ := hS0
  obtain ⟨T1, X1, e1, st1⟩ := getF X0 hx hZ hown (host := "") (Or.inl (ow hw 20 rfl)) Via.refl e0 (F_ordinal_wTRUE.ext O0.2) (g := (mkF m 1 #[(vr wTRUE)] [(.ref wTRUE)])) rfl rfl (hb hby d3_1)
  obtain ⟨fs, hr, hrun, hended, hW, hsame⟩ := X1.leave (v := some (.int 2)) (fun h => by rw [hret0] at h; cases h)
  refine ⟨_, _, pre0 _ ?_, hrun, hended, _, _, rfl, ?_, ⟨_, rfl⟩, hW, hsame.mono (by decide) (by decide)⟩
  · skip
    show Steps p.tables e below (s₁.setTop (mkF m 0 #[(vr wTRUE)] [])) _
    refine XS.aloadN X0.here hx rfl (hb hby d3_0) rfl rfl ?_
    refine st1 _ ?_
    exact retI X1 hx hret0 (hb hby d3_4) hr
  · show Q_rm3_2 Z wFALSE wTRUE wUNKNOWN  h0 n0 _ T1.heap _
    rw [e1]
    exact ⟨rfl, N0, rfl⟩
theorem ef_rm2_0 (m : MethodId) (x0 : Addr)  : entryFrame m #[(.ref x0)] 1 = mkF m 0 #[(vr x0)] [] := by first | (simp [entryFrame, mkF, argsToLocals, Value.category]; done) | rfl
theorem pn_com_example_tuplecraft_tuplecraft_Truth : plainName "com/example/tuplecraft/tuplecraft/Truth" = true := by first | (simp [plainName, overriddenIn]; done) | decide +kernel
theorem d2_0 : decode prog_23_method_6_code 0 = .ok (.aload_n 0, 1) := by decide +kernel
theorem d2_1 : decode prog_23_method_6_code 1 = .ok (.invokevirtual 36, 3) := by decide +kernel
theorem pd_0 : parseMethodDescriptor "()I" = some ⟨[], some .int⟩ := by decide +kernel
theorem d2_4 : decode prog_23_method_6_code 4 = .ok (.tableswitch 28 0 2 #[38, 44, 50], 28) := by decide +kernel
theorem d2_42 : decode prog_23_method_6_code 42 = .ok (.getstatic 10, 3) := by decide +kernel
theorem d2_45 : decode prog_23_method_6_code 45 = .ok (.goto 12, 3) := by decide +kernel
theorem d2_57 : decode prog_23_method_6_code 57 = .ok (.areturn, 1) := by decide +kernel
def Q_rm2_0 (Z : State) (wFALSE : Addr) (wTRUE : Addr) (wUNKNOWN : Addr)  (h0 : Heap) (n0 : Nat) (v : Option Value) (h : Heap) (L : List Loc) : Prop := v = some (.ref wTRUE) ∧ Fr n0 L ∧ h = h0
theorem rm2_0 (l : Launch) (Z : State) (a0 : Array Value) (hw : ∀ d ∈ tables_1, d.before a0 Z = true) (ws : List Jvm.Cond) (wFALSE : Addr) (wTRUE : Addr) (wUNKNOWN : Addr) (hS : SS Z wFALSE wTRUE wUNKNOWN)  (h0 : Heap) (n0 : Nat) (O0 : Old Z n0 h0)  :
    MetB l M2 prog_23_method_6_code 1 (some (.object s0n)) ws (rmk 1 0 0 12) Z h0 #[(.ref wFALSE)] (Q_rm2_0 Z wFALSE wTRUE wUNKNOWN  h0 n0) := by
  refine own_body (plainFor_of_name pn_com_example_tuplecraft_tuplecraft_Truth) ?_
  intro p e s m below meth c s₁ hx hby hml hown hnm hret0 hlk0 hZ X0 e0
  have N0 := Fr.nil n0
  have pre0 : ∀ t, Steps p.tables e below (s₁.setTop (mkF m 0 #[(vr wFALSE)] [])) t → Steps p.tables e below (s₁.setTop (entryFrame m #[(.ref wFALSE)] 1)) t := fun t k => castTop (ef_rm2_0 m wFALSE) k
  have hS0 := hS
  obtain ⟨S_wFALSE, E_wFALSE, S_wTRUE, E_wTRUE, S_wUNKNOWN, E_wUNKNOWN, F_ordinal_wFALSE, F_ordinal_wTRUE, F_ordinal_wUNKNOWN⟩ := hS0
  obtain ⟨cq1, kq1, q1a, q1b, q1c⟩ := isOf hZ e0 (E_wFALSE.ext O0.2)
  obtain ⟨_, _, ⟨T1, L1, k1, n1⟩, -, X1, ⟨Lc1, hQ1, l1, y1, z1⟩, st1⟩ := X0.virtualBackUp hx (owner := "java/lang/Enum") (x := M3) (y := M1) hown (mvT hZ (ow hw 13 rfl)) (mvT hZ (ow hw 14 rfl)) (mvT hZ (ow hw 15 rfl)) (by decide) (mvT hZ (ow hw 17 rfl)) (mvT hZ (ow hw 16 rfl)) (backOf (W := 0) (rm3_0 l Z a0 hw [] wFALSE wTRUE wUNKNOWN hS  h0 n0 O0 ) hZ (ow hw 19 rfl) (ow hw 18 rfl) (by decide) (by decide)) q1a q1c (g := (mkF m 1 #[(vr wFALSE)] [(.ref wFALSE)])) rfl (by rw [hml]; rfl) (Steps.refl _) (argsL := []) (rest := []) (lenOf pd_0 rfl) rfl (by show 2 * 0 + _ ≤ _; exact Nat.le_of_eq rfl) (hb hby d2_1) (fun _ _ => ⟨rfl, e0, (by decide : 0 + 0 ≤ _), (by decide : 0 + 0 ≤ _)⟩)
  dsimp only [Pt.U, Pt.locs, Pt.cells, Pt.slots] at X1 l1 y1 z1 st1 hQ1
  subst l1 y1 z1
  obtain ⟨rfl, Nq1, K1q⟩ := hQ1
  have N1 := Fr.app N0 Nq1
  obtain ⟨T2, X2, e2, st2⟩ := getS2 X1 hx hZ hown (host := "") (Or.inl (ow hw 22 rfl)) Via.refl K1q (S_wTRUE.ext O0.2) (g := (mkF m 42 #[(vr wFALSE)] [])) rfl (hb hby d2_42)
  obtain ⟨fs, hr, hrun, hended, hW, hsame⟩ := X2.leave (v := some (.ref wTRUE)) (fun h => by rw [hret0] at h; cases h)
  refine ⟨_, _, pre0 _ ?_, hrun, hended, _, _, rfl, ?_, ⟨_, rfl⟩, hW, hsame.mono (by decide) (by decide)⟩
  · skip
    show Steps p.tables e below (s₁.setTop (mkF m 0 #[(vr wFALSE)] [])) _
    refine XS.aloadN X0.here hx rfl (hb hby d2_0) rfl rfl ?_
    refine st1.trans ?_
    refine XS.tswIn X1.here hx rfl (o := 38) (pc0 := 4) (pc' := 42) rfl (hb hby d2_4) rfl (by decide) (by decide) (by decide) (by decide) ?_
    refine st2 _ ?_
    refine XS.goto X2.here hx rfl (pc0 := 45) (pc' := 57) rfl (hb hby d2_45) (by decide) (by decide) ?_
    show Steps p.tables e below (T2.setTop (mkF m 57 #[(vr wFALSE)] [(.ref wTRUE)])) _
    jvm_step X2.here [X2.here.top, hx, (hb hby d2_57), X2.method', hret0, Value.isRef, FieldType.isReference]
    first | (intro acts; rw [hr _ acts rfl rfl rfl]) | rw [hr _ _ rfl rfl rfl]
    exact Steps.refl _
  · show Q_rm2_0 Z wFALSE wTRUE wUNKNOWN  h0 n0 _ T2.heap _
    rw [e2]
    exact ⟨rfl, N1, rfl⟩
theorem ef_rm2_1 (m : MethodId) (x0 : Addr)  : entryFrame m #[(.ref x0)] 1 = mkF m 0 #[(vr x0)] [] := by first | (simp [entryFrame, mkF, argsToLocals, Value.category]; done) | rfl
theorem d2_48 : decode prog_23_method_6_code 48 = .ok (.getstatic 7, 3) := by decide +kernel
theorem d2_51 : decode prog_23_method_6_code 51 = .ok (.goto 6, 3) := by decide +kernel
def Q_rm2_1 (Z : State) (wFALSE : Addr) (wTRUE : Addr) (wUNKNOWN : Addr)  (h0 : Heap) (n0 : Nat) (v : Option Value) (h : Heap) (L : List Loc) : Prop := v = some (.ref wUNKNOWN) ∧ Fr n0 L ∧ h = h0
theorem rm2_1 (l : Launch) (Z : State) (a0 : Array Value) (hw : ∀ d ∈ tables_1, d.before a0 Z = true) (ws : List Jvm.Cond) (wFALSE : Addr) (wTRUE : Addr) (wUNKNOWN : Addr) (hS : SS Z wFALSE wTRUE wUNKNOWN)  (h0 : Heap) (n0 : Nat) (O0 : Old Z n0 h0)  :
    MetB l M2 prog_23_method_6_code 1 (some (.object s0n)) ws (rmk 1 0 0 12) Z h0 #[(.ref wUNKNOWN)] (Q_rm2_1 Z wFALSE wTRUE wUNKNOWN  h0 n0) := by
  refine own_body (plainFor_of_name pn_com_example_tuplecraft_tuplecraft_Truth) ?_
  intro p e s m below meth c s₁ hx hby hml hown hnm hret0 hlk0 hZ X0 e0
  have N0 := Fr.nil n0
  have pre0 : ∀ t, Steps p.tables e below (s₁.setTop (mkF m 0 #[(vr wUNKNOWN)] [])) t → Steps p.tables e below (s₁.setTop (entryFrame m #[(.ref wUNKNOWN)] 1)) t := fun t k => castTop (ef_rm2_1 m wUNKNOWN) k
  have hS0 := hS
  obtain ⟨S_wFALSE, E_wFALSE, S_wTRUE, E_wTRUE, S_wUNKNOWN, E_wUNKNOWN, F_ordinal_wFALSE, F_ordinal_wTRUE, F_ordinal_wUNKNOWN⟩ := hS0
  obtain ⟨cq1, kq1, q1a, q1b, q1c⟩ := isOf hZ e0 (E_wUNKNOWN.ext O0.2)
  obtain ⟨_, _, ⟨T1, L1, k1, n1⟩, -, X1, ⟨Lc1, hQ1, l1, y1, z1⟩, st1⟩ := X0.virtualBackUp hx (owner := "java/lang/Enum") (x := M3) (y := M1) hown (mvT hZ (ow hw 13 rfl)) (mvT hZ (ow hw 14 rfl)) (mvT hZ (ow hw 15 rfl)) (by decide) (mvT hZ (ow hw 17 rfl)) (mvT hZ (ow hw 16 rfl)) (backOf (W := 0) (rm3_1 l Z a0 hw [] wFALSE wTRUE wUNKNOWN hS  h0 n0 O0 ) hZ (ow hw 19 rfl) (ow hw 18 rfl) (by decide) (by decide)) q1a q1c (g := (mkF m 1 #[(vr wUNKNOWN)] [(.ref wUNKNOWN)])) rfl (by rw [hml]; rfl) (Steps.refl _) (argsL := []) (rest := []) (lenOf pd_0 rfl) rfl (by show 2 * 0 + _ ≤ _; exact Nat.le_of_eq rfl) (hb hby d2_1) (fun _ _ => ⟨rfl, e0, (by decide : 0 + 0 ≤ _), (by decide : 0 + 0 ≤ _)⟩)
  dsimp only [Pt.U, Pt.locs, Pt.cells, Pt.slots] at X1 l1 y1 z1 st1 hQ1
  subst l1 y1 z1
  obtain ⟨rfl, Nq1, K1q⟩ := hQ1
  have N1 := Fr.app N0 Nq1
  obtain ⟨T2, X2, e2, st2⟩ := getS2 X1 hx hZ hown (host := "") (Or.inl (ow hw 28 rfl)) Via.refl K1q (S_wUNKNOWN.ext O0.2) (g := (mkF m 48 #[(vr wUNKNOWN)] [])) rfl (hb hby d2_48)
  obtain ⟨fs, hr, hrun, hended, hW, hsame⟩ := X2.leave (v := some (.ref wUNKNOWN)) (fun h => by rw [hret0] at h; cases h)
  refine ⟨_, _, pre0 _ ?_, hrun, hended, _, _, rfl, ?_, ⟨_, rfl⟩, hW, hsame.mono (by decide) (by decide)⟩
  · skip
    show Steps p.tables e below (s₁.setTop (mkF m 0 #[(vr wUNKNOWN)] [])) _
    refine XS.aloadN X0.here hx rfl (hb hby d2_0) rfl rfl ?_
    refine st1.trans ?_
    refine XS.tswIn X1.here hx rfl (o := 44) (pc0 := 4) (pc' := 48) rfl (hb hby d2_4) rfl (by decide) (by decide) (by decide) (by decide) ?_
    refine st2 _ ?_
    refine XS.goto X2.here hx rfl (pc0 := 51) (pc' := 57) rfl (hb hby d2_51) (by decide) (by decide) ?_
    show Steps p.tables e below (T2.setTop (mkF m 57 #[(vr wUNKNOWN)] [(.ref wUNKNOWN)])) _
    jvm_step X2.here [X2.here.top, hx, (hb hby d2_57), X2.method', hret0, Value.isRef, FieldType.isReference]
    first | (intro acts; rw [hr _ acts rfl rfl rfl]) | rw [hr _ _ rfl rfl rfl]
    exact Steps.refl _
  · show Q_rm2_1 Z wFALSE wTRUE wUNKNOWN  h0 n0 _ T2.heap _
    rw [e2]
    exact ⟨rfl, N1, rfl⟩
theorem ef_rm2_2 (m : MethodId) (x0 : Addr)  : entryFrame m #[(.ref x0)] 1 = mkF m 0 #[(vr x0)] [] := by first | (simp [entryFrame, mkF, argsToLocals, Value.category]; done) | rfl
theorem d2_54 : decode prog_23_method_6_code 54 = .ok (.getstatic 3, 3) := by decide +kernel
def Q_rm2_2 (Z : State) (wFALSE : Addr) (wTRUE : Addr) (wUNKNOWN : Addr)  (h0 : Heap) (n0 : Nat) (v : Option Value) (h : Heap) (L : List Loc) : Prop := v = some (.ref wFALSE) ∧ Fr n0 L ∧ h = h0
theorem rm2_2 (l : Launch) (Z : State) (a0 : Array Value) (hw : ∀ d ∈ tables_1, d.before a0 Z = true) (ws : List Jvm.Cond) (wFALSE : Addr) (wTRUE : Addr) (wUNKNOWN : Addr) (hS : SS Z wFALSE wTRUE wUNKNOWN)  (h0 : Heap) (n0 : Nat) (O0 : Old Z n0 h0)  :
    MetB l M2 prog_23_method_6_code 1 (some (.object s0n)) ws (rmk 1 0 0 12) Z h0 #[(.ref wTRUE)] (Q_rm2_2 Z wFALSE wTRUE wUNKNOWN  h0 n0) := by
  refine own_body (plainFor_of_name pn_com_example_tuplecraft_tuplecraft_Truth) ?_
  intro p e s m below meth c s₁ hx hby hml hown hnm hret0 hlk0 hZ X0 e0
  have N0 := Fr.nil n0
  have pre0 : ∀ t, Steps p.tables e below (s₁.setTop (mkF m 0 #[(vr wTRUE)] [])) t → Steps p.tables e below (s₁.setTop (entryFrame m #[(.ref wTRUE)] 1)) t := fun t k => castTop (ef_rm2_2 m wTRUE) k
  have hS0 := hS
  obtain ⟨S_wFALSE, E_wFALSE, S_wTRUE, E_wTRUE, S_wUNKNOWN, E_wUNKNOWN, F_ordinal_wFALSE, F_ordinal_wTRUE, F_ordinal_wUNKNOWN⟩ := hS0
  obtain ⟨cq1, kq1, q1a, q1b, q1c⟩ := isOf hZ e0 (E_wTRUE.ext O0.2)
  obtain ⟨_, _, ⟨T1, L1, k1, n1⟩, -, X1, ⟨Lc1, hQ1, l1, y1, z1⟩, st1⟩ := X0.virtualBackUp hx (owner := "java/lang/Enum") (x := M3) (y := M1) hown (mvT hZ (ow hw 13 rfl)) (mvT hZ (ow hw 14 rfl)) (mvT hZ (ow hw 15 rfl)) (by decide) (mvT hZ (ow hw 17 rfl)) (mvT hZ (ow hw 16 rfl)) (backOf (W := 0) (rm3_2 l Z a0 hw [] wFALSE wTRUE wUNKNOWN hS  h0 n0 O0 ) hZ (ow hw 19 rfl) (ow hw 18 rfl) (by decide) (by decide)) q1a q1c (g := (mkF m 1 #[(vr wTRUE)] [(.ref wTRUE)])) rfl (by rw [hml]; rfl) (Steps.refl _) (argsL := []) (rest := []) (lenOf pd_0 rfl) rfl (by show 2 * 0 + _ ≤ _; exact Nat.le_of_eq rfl) (hb hby d2_1) (fun _ _ => ⟨rfl, e0, (by decide : 0 + 0 ≤ _), (by decide : 0 + 0 ≤ _)⟩)
  dsimp only [Pt.U, Pt.locs, Pt.cells, Pt.slots] at X1 l1 y1 z1 st1 hQ1
  subst l1 y1 z1
  obtain ⟨rfl, Nq1, K1q⟩ := hQ1
  have N1 := Fr.app N0 Nq1
  obtain ⟨T2, X2, e2, st2⟩ := getS2 X1 hx hZ hown (host := "") (Or.inl (ow hw 25 rfl)) Via.refl K1q (S_wFALSE.ext O0.2) (g := (mkF m 54 #[(vr wTRUE)] [])) rfl (hb hby d2_54)
  obtain ⟨fs, hr, hrun, hended, hW, hsame⟩ := X2.leave (v := some (.ref wFALSE)) (fun h => by rw [hret0] at h; cases h)
  refine ⟨_, _, pre0 _ ?_, hrun, hended, _, _, rfl, ?_, ⟨_, rfl⟩, hW, hsame.mono (by decide) (by decide)⟩
  · skip
    show Steps p.tables e below (s₁.setTop (mkF m 0 #[(vr wTRUE)] [])) _
    refine XS.aloadN X0.here hx rfl (hb hby d2_0) rfl rfl ?_
    refine st1.trans ?_
    refine XS.tswIn X1.here hx rfl (o := 50) (pc0 := 4) (pc' := 54) rfl (hb hby d2_4) rfl (by decide) (by decide) (by decide) (by decide) ?_
    refine st2 _ ?_
    jvm_step X2.here [X2.here.top, hx, (hb hby d2_57), X2.method', hret0, Value.isRef, FieldType.isReference]
    first | (intro acts; rw [hr _ acts rfl rfl rfl]) | rw [hr _ _ rfl rfl rfl]
    exact Steps.refl _
  · show Q_rm2_2 Z wFALSE wTRUE wUNKNOWN  h0 n0 _ T2.heap _
    rw [e2]
    exact ⟨rfl, N1, rfl⟩
theorem ef_rm0 (m : MethodId) (x0 : Int32)  : entryFrame m #[(.int x0)] maxLocals = mkF m 0 #[(vi x0), .unset, .unset, .unset, .unset] [] := by first | (simp [entryFrame, mkF, argsToLocals, Value.category, maxLocals]; done) | rfl
theorem pd_1 : parseMethodDescriptor "(I)Lcom/example/tuplecraft/tuplecraft/Truth;" = some ⟨[.int], some (.object "com/example/tuplecraft/tuplecraft/Truth")⟩ := by decide +kernel
theorem pd_2 : parseMethodDescriptor "()Lcom/example/tuplecraft/tuplecraft/Truth;" = some ⟨[], some (.object "com/example/tuplecraft/tuplecraft/Truth")⟩ := by decide +kernel
def Q_rm0 (Z : State) (wFALSE : Addr) (wTRUE : Addr) (wUNKNOWN : Addr) (p1 : Int32) (h0 : Heap) (n0 : Nat) (v : Option Value) (h : Heap) (L : List Loc) : Prop := v = some (.int 1) ∧ Fr n0 L
theorem rm0 (l : Launch) (Z : State) (a0 : Array Value) (hw : ∀ d ∈ tables_1, d.before a0 Z = true) (ws : List Jvm.Cond) (wFALSE : Addr) (wTRUE : Addr) (wUNKNOWN : Addr) (hS : SS Z wFALSE wTRUE wUNKNOWN) (p1 : Int32) (h0 : Heap) (n0 : Nat) (O0 : Old Z n0 h0)  :
    MetB l x code maxLocals ret ws room_1 Z h0 #[(.int p1)] (Q_rm0 Z wFALSE wTRUE wUNKNOWN p1 h0 n0) := by
  refine own_body (plainFor_of_name pn_com_example_tuplecraft_tuplecraft_TruthNotPinLaw) ?_
  intro p e s m below meth c s₁ hx hby hml hown hnm hret0 hlk0 hZ X0 e0
  have N0 := Fr.nil n0
  have pre0 : ∀ t, Steps p.tables e below (s₁.setTop (mkF m 0 #[(vi p1), .unset, .unset, .unset, .unset] [])) t → Steps p.tables e below (s₁.setTop (entryFrame m #[(.int p1)] maxLocals)) t := fun t k => castTop (ef_rm0 m p1) k
  have hS0 := hS
  obtain ⟨S_wFALSE, E_wFALSE, S_wTRUE, E_wTRUE, S_wUNKNOWN, E_wUNKNOWN, F_ordinal_wFALSE, F_ordinal_wTRUE, F_ordinal_wUNKNOWN⟩ := hS0
  have pre1 : ∀ t, Steps p.tables e below (s₁.setTop (mkF m 6 #[(vi p1), .unset, .unset, .unset, .unset] [(.int ((p1 &&& (2147483647 : Int32)) % (3 : Int32)))])) t → Steps p.tables e below (s₁.setTop (entryFrame m #[(.int p1)] maxLocals)) t := by
    intro t k
    refine pre0 t ?_
    show Steps p.tables e below (s₁.setTop (mkF m 0 #[(vi p1), .unset, .unset, .unset, .unset] [])) _
    refine XS.iloadN X0.here hx rfl (hb hby at_0) rfl ?_
    refine X0.ldcInt hx hown (mvT hZ (ow hw 0 rfl)) (g := (mkF m 1 #[(vi p1), .unset, .unset, .unset, .unset] [(.int p1)])) rfl (hb hby at_1) _ ?_
    refine XS.iand X0.here hx rfl (hb hby at_3) rfl ?_
    refine XS.iconst X0.here hx rfl (hb hby at_4) ?_
    refine iremM X0 hx rfl (hb hby at_5) rfl (by decide) ?_
    exact k
  rcases own_mod3 p1 with hk2 | hk2 | hk2
  · skip
    have pre3 : ∀ t, Steps p.tables e below (s₁.setTop (mkF m 6 #[(vi p1), .unset, .unset, .unset, .unset] [(.int 0)])) t → Steps p.tables e below (s₁.setTop (entryFrame m #[(.int p1)] maxLocals)) t := by
      intro t k
      refine pre1 t ?_
      rw [hk2]
      exact k
    obtain ⟨_, _, ⟨T4, L4, k4, n4⟩, -, X4, ⟨Lc4, hQ4, l4, y4, z4⟩, st4⟩ := Jvm.LawKit.callS X0 hx (y := M0) hown (mvT hZ (ow hw 1 rfl)) (mvT hZ (ow hw 2 rfl)) (mvT hZ (ow hw 3 rfl)) (mvT hZ (ow hw 4 rfl)) (by decide) (backOf (W := 0) (rm1_0 l Z a0 hw [] wFALSE wTRUE wUNKNOWN hS  h0 n0 O0 ) hZ (ow hw 4 rfl) (ow hw 3 rfl) (by decide) (by decide)) (g := (mkF m 8 #[(vi p1), (vi 0), .unset, .unset, .unset] [(.int 0)])) rfl (by rw [hml]; rfl) (argsL := [(.int 0)]) (rest := []) (lenOf pd_1 rfl) rfl (by show 2 * 0 + _ ≤ _; exact Nat.le_of_eq rfl) (hb hby at_8) (fun _ _ => ⟨rfl, e0, (by decide : 0 + 0 ≤ _), (by decide : 0 + 0 ≤ _)⟩)
    dsimp only [Pt.U, Pt.locs, Pt.cells, Pt.slots] at X4 l4 y4 z4 st4 hQ4
    subst l4 y4 z4
    obtain ⟨rfl, Nq4, K4q⟩ := hQ4
    have N4 := Fr.app N0 Nq4
    obtain ⟨cq5, kq5, q5a, q5b, q5c⟩ := isOf hZ K4q (E_wFALSE.ext O0.2)
    obtain ⟨_, _, ⟨T5, L5, k5, n5⟩, -, X5, ⟨Lc5, hQ5, l5, y5, z5⟩, st5⟩ := X4.virtualBack hx (y := M2) (z := M2) hown (mvT hZ (ow hw 8 rfl)) (mvT hZ (ow hw 9 rfl)) (notFace_of_selects (args := #[]) (mvT hZ (ow hw 11 rfl))) (mvT hZ (ow hw 11 rfl)) (mvT hZ (ow hw 10 rfl)) (by decide) (backOf (W := 0) (rm2_0 l Z a0 hw [] wFALSE wTRUE wUNKNOWN hS  h0 n0 O0 ) hZ (ow hw 12 rfl) (ow hw 6 rfl) (by decide) (by decide)) q5a q5c (g := (mkF m 13 #[(vi p1), (vi 0), (vr wFALSE), .unset, .unset] [(.ref wFALSE)])) rfl (by rw [hml]; rfl) (Steps.refl _) (argsL := []) (rest := []) (lenOf pd_2 rfl) rfl (by show 2 * 0 + _ ≤ _; exact Nat.le_of_eq rfl) (hb hby at_13) (fun _ _ => ⟨rfl, K4q, (by decide : 0 + 0 ≤ _), (by decide : 0 + 0 ≤ _)⟩)
    dsimp only [Pt.U, Pt.locs, Pt.cells, Pt.slots] at X5 l5 y5 z5 st5 hQ5
    subst l5 y5 z5
    obtain ⟨rfl, Nq5, K5q⟩ := hQ5
    have N5 := Fr.app N4 Nq5
    obtain ⟨_, _, ⟨T6, L6, k6, n6⟩, -, X6, ⟨Lc6, hQ6, l6, y6, z6⟩, st6⟩ := Jvm.LawKit.callS X5 hx (y := M0) hown (mvT hZ (ow hw 1 rfl)) (mvT hZ (ow hw 2 rfl)) (mvT hZ (ow hw 3 rfl)) (mvT hZ (ow hw 4 rfl)) (by decide) (backOf (W := 0) (rm1_2 l Z a0 hw [] wFALSE wTRUE wUNKNOWN hS  h0 n0 O0 ) hZ (ow hw 4 rfl) (ow hw 3 rfl) (by decide) (by decide)) (g := (mkF m 20 #[(vi p1), (vi 0), (vr wFALSE), (vr wTRUE), .unset] [(.int 2)])) rfl (by rw [hml]; rfl) (argsL := [(.int 2)]) (rest := []) (lenOf pd_1 rfl) rfl (by show 2 * 0 + _ ≤ _; exact Nat.le_of_eq rfl) (hb hby at_20) (fun _ _ => ⟨rfl, K5q, (by decide : 0 + 0 ≤ _), (by decide : 0 + 0 ≤ _)⟩)
    dsimp only [Pt.U, Pt.locs, Pt.cells, Pt.slots] at X6 l6 y6 z6 st6 hQ6
    subst l6 y6 z6
    obtain ⟨rfl, Nq6, K6q⟩ := hQ6
    have N6 := Fr.app N5 Nq6
    obtain ⟨fs, hr, hrun, hended, hW, hsame⟩ := X6.leave (v := some (.int 1)) (fun h => by rw [hret0] at h; cases h)
    refine ⟨_, _, pre3 _ ?_, hrun, hended, _, _, rfl, ?_, ⟨_, rfl⟩, hW, hsame.mono (by decide) (by decide)⟩
    · skip
      show Steps p.tables e below (s₁.setTop (mkF m 6 #[(vi p1), .unset, .unset, .unset, .unset] [(.int 0)])) _
      refine XS.istoreN X0.here hx rfl (hb hby at_6) rfl (l' := #[(vi p1), (vi 0), .unset, .unset, .unset]) rfl ?_
      refine XS.iloadN X0.here hx rfl (hb hby at_7) rfl ?_
      refine st4 _ ?_
      refine XS.astoreN X4.here hx rfl (hb hby at_11) rfl rfl (l' := #[(vi p1), (vi 0), (vr wFALSE), .unset, .unset]) rfl ?_
      refine XS.aloadN X4.here hx rfl (hb hby at_12) rfl rfl ?_
      show Steps p.tables e below (T4.setTop (mkF m 13 #[(vi p1), (vi 0), (vr wFALSE), .unset, .unset] [(.ref wFALSE)])) _
      refine st5.trans ?_
      refine XS.astoreN X5.here hx rfl (hb hby at_16) rfl rfl (l' := #[(vi p1), (vi 0), (vr wFALSE), (vr wTRUE), .unset]) rfl ?_
      refine XS.iconst X5.here hx rfl (hb hby at_17) ?_
      refine XS.iloadN X5.here hx rfl (hb hby at_18) rfl ?_
      refine XS.isub X5.here hx rfl (hb hby at_19) rfl ?_
      show Steps p.tables e below (T5.setTop (mkF m 20 #[(vi p1), (vi 0), (vr wFALSE), (vr wTRUE), .unset] [(.int 2)])) _
      refine st6 _ ?_
      refine XS.astore X6.here hx rfl (hb hby at_23) rfl rfl (l' := #[(vi p1), (vi 0), (vr wFALSE), (vr wTRUE), (vr wTRUE)]) rfl ?_
      refine XS.aloadN X6.here hx rfl (hb hby at_25) rfl rfl ?_
      refine XS.aload X6.here hx rfl (hb hby at_26) rfl rfl ?_
      refine Jvm.RoadKit.acmp (g := (mkF m 28 #[(vi p1), (vi 0), (vr wFALSE), (vr wTRUE), (vr wTRUE)] [(.ref wTRUE), (.ref wTRUE)])) X6 hx rfl rfl rfl (pc0 := 28) (pc' := 31) (same := true) rfl (hb hby at_28) rfl (decide_eq_true rfl) (by decide) (by decide) ?_
      show Steps p.tables e below (T6.setTop (mkF m 31 #[(vi p1), (vi 0), (vr wFALSE), (vr wTRUE), (vr wTRUE)] [])) _
      refine XS.iconst X6.here hx rfl (hb hby at_31) ?_
      refine XS.goto X6.here hx rfl (pc0 := 32) (pc' := 36) rfl (hb hby at_32) (by decide) (by decide) ?_
      exact retN X6 hx (t := .boolean) hret0 (by simp) (hb hby at_36) hr
    · show Q_rm0 Z wFALSE wTRUE wUNKNOWN p1 h0 n0 _ T6.heap _
      rw [K6q]
      exact ⟨rfl, N6⟩
  · skip
    have pre7 : ∀ t, Steps p.tables e below (s₁.setTop (mkF m 6 #[(vi p1), .unset, .unset, .unset, .unset] [(.int 1)])) t → Steps p.tables e below (s₁.setTop (entryFrame m #[(.int p1)] maxLocals)) t := by
      intro t k
      refine pre1 t ?_
      rw [hk2]
      exact k
    obtain ⟨_, _, ⟨T8, L8, k8, n8⟩, -, X8, ⟨Lc8, hQ8, l8, y8, z8⟩, st8⟩ := Jvm.LawKit.callS X0 hx (y := M0) hown (mvT hZ (ow hw 1 rfl)) (mvT hZ (ow hw 2 rfl)) (mvT hZ (ow hw 3 rfl)) (mvT hZ (ow hw 4 rfl)) (by decide) (backOf (W := 0) (rm1_1 l Z a0 hw [] wFALSE wTRUE wUNKNOWN hS  h0 n0 O0 ) hZ (ow hw 4 rfl) (ow hw 3 rfl) (by decide) (by decide)) (g := (mkF m 8 #[(vi p1), (vi 1), .unset, .unset, .unset] [(.int 1)])) rfl (by rw [hml]; rfl) (argsL := [(.int 1)]) (rest := []) (lenOf pd_1 rfl) rfl (by show 2 * 0 + _ ≤ _; exact Nat.le_of_eq rfl) (hb hby at_8) (fun _ _ => ⟨rfl, e0, (by decide : 0 + 0 ≤ _), (by decide : 0 + 0 ≤ _)⟩)
    dsimp only [Pt.U, Pt.locs, Pt.cells, Pt.slots] at X8 l8 y8 z8 st8 hQ8
    subst l8 y8 z8
    obtain ⟨rfl, Nq8, K8q⟩ := hQ8
    have N8 := Fr.app N0 Nq8
    obtain ⟨cq9, kq9, q9a, q9b, q9c⟩ := isOf hZ K8q (E_wUNKNOWN.ext O0.2)
    obtain ⟨_, _, ⟨T9, L9, k9, n9⟩, -, X9, ⟨Lc9, hQ9, l9, y9, z9⟩, st9⟩ := X8.virtualBack hx (y := M2) (z := M2) hown (mvT hZ (ow hw 8 rfl)) (mvT hZ (ow hw 9 rfl)) (notFace_of_selects (args := #[]) (mvT hZ (ow hw 11 rfl))) (mvT hZ (ow hw 11 rfl)) (mvT hZ (ow hw 10 rfl)) (by decide) (backOf (W := 0) (rm2_1 l Z a0 hw [] wFALSE wTRUE wUNKNOWN hS  h0 n0 O0 ) hZ (ow hw 12 rfl) (ow hw 6 rfl) (by decide) (by decide)) q9a q9c (g := (mkF m 13 #[(vi p1), (vi 1), (vr wUNKNOWN), .unset, .unset] [(.ref wUNKNOWN)])) rfl (by rw [hml]; rfl) (Steps.refl _) (argsL := []) (rest := []) (lenOf pd_2 rfl) rfl (by show 2 * 0 + _ ≤ _; exact Nat.le_of_eq rfl) (hb hby at_13) (fun _ _ => ⟨rfl, K8q, (by decide : 0 + 0 ≤ _), (by decide : 0 + 0 ≤ _)⟩)
    dsimp only [Pt.U, Pt.locs, Pt.cells, Pt.slots] at X9 l9 y9 z9 st9 hQ9
    subst l9 y9 z9
    obtain ⟨rfl, Nq9, K9q⟩ := hQ9
    have N9 := Fr.app N8 Nq9
    obtain ⟨_, _, ⟨T10, L10, k10, n10⟩, -, X10, ⟨Lc10, hQ10, l10, y10, z10⟩, st10⟩ := Jvm.LawKit.callS X9 hx (y := M0) hown (mvT hZ (ow hw 1 rfl)) (mvT hZ (ow hw 2 rfl)) (mvT hZ (ow hw 3 rfl)) (mvT hZ (ow hw 4 rfl)) (by decide) (backOf (W := 0) (rm1_1 l Z a0 hw [] wFALSE wTRUE wUNKNOWN hS  h0 n0 O0 ) hZ (ow hw 4 rfl) (ow hw 3 rfl) (by decide) (by decide)) (g := (mkF m 20 #[(vi p1), (vi 1), (vr wUNKNOWN), (vr wUNKNOWN), .unset] [(.int 1)])) rfl (by rw [hml]; rfl) (argsL := [(.int 1)]) (rest := []) (lenOf pd_1 rfl) rfl (by show 2 * 0 + _ ≤ _; exact Nat.le_of_eq rfl) (hb hby at_20) (fun _ _ => ⟨rfl, K9q, (by decide : 0 + 0 ≤ _), (by decide : 0 + 0 ≤ _)⟩)
    dsimp only [Pt.U, Pt.locs, Pt.cells, Pt.slots] at X10 l10 y10 z10 st10 hQ10
    subst l10 y10 z10
    obtain ⟨rfl, Nq10, K10q⟩ := hQ10
    have N10 := Fr.app N9 Nq10
    obtain ⟨fs, hr, hrun, hended, hW, hsame⟩ := X10.leave (v := some (.int 1)) (fun h => by rw [hret0] at h; cases h)
    refine ⟨_, _, pre7 _ ?_, hrun, hended, _, _, rfl, ?_, ⟨_, rfl⟩, hW, hsame.mono (by decide) (by decide)⟩
    · skip
      show Steps p.tables e below (s₁.setTop (mkF m 6 #[(vi p1), .unset, .unset, .unset, .unset] [(.int 1)])) _
      refine XS.istoreN X0.here hx rfl (hb hby at_6) rfl (l' := #[(vi p1), (vi 1), .unset, .unset, .unset]) rfl ?_
      refine XS.iloadN X0.here hx rfl (hb hby at_7) rfl ?_
      refine st8 _ ?_
      refine XS.astoreN X8.here hx rfl (hb hby at_11) rfl rfl (l' := #[(vi p1), (vi 1), (vr wUNKNOWN), .unset, .unset]) rfl ?_
      refine XS.aloadN X8.here hx rfl (hb hby at_12) rfl rfl ?_
      show Steps p.tables e below (T8.setTop (mkF m 13 #[(vi p1), (vi 1), (vr wUNKNOWN), .unset, .unset] [(.ref wUNKNOWN)])) _
      refine st9.trans ?_
      refine XS.astoreN X9.here hx rfl (hb hby at_16) rfl rfl (l' := #[(vi p1), (vi 1), (vr wUNKNOWN), (vr wUNKNOWN), .unset]) rfl ?_
      refine XS.iconst X9.here hx rfl (hb hby at_17) ?_
      refine XS.iloadN X9.here hx rfl (hb hby at_18) rfl ?_
      refine XS.isub X9.here hx rfl (hb hby at_19) rfl ?_
      show Steps p.tables e below (T9.setTop (mkF m 20 #[(vi p1), (vi 1), (vr wUNKNOWN), (vr wUNKNOWN), .unset] [(.int 1)])) _
      refine st10 _ ?_
      refine XS.astore X10.here hx rfl (hb hby at_23) rfl rfl (l' := #[(vi p1), (vi 1), (vr wUNKNOWN), (vr wUNKNOWN), (vr wUNKNOWN)]) rfl ?_
      refine XS.aloadN X10.here hx rfl (hb hby at_25) rfl rfl ?_
      refine XS.aload X10.here hx rfl (hb hby at_26) rfl rfl ?_
      refine Jvm.RoadKit.acmp (g := (mkF m 28 #[(vi p1), (vi 1), (vr wUNKNOWN), (vr wUNKNOWN), (vr wUNKNOWN)] [(.ref wUNKNOWN), (.ref wUNKNOWN)])) X10 hx rfl rfl rfl (pc0 := 28) (pc' := 31) (same := true) rfl (hb hby at_28) rfl (decide_eq_true rfl) (by decide) (by decide) ?_
      show Steps p.tables e below (T10.setTop (mkF m 31 #[(vi p1), (vi 1), (vr wUNKNOWN), (vr wUNKNOWN), (vr wUNKNOWN)] [])) _
      refine XS.iconst X10.here hx rfl (hb hby at_31) ?_
      refine XS.goto X10.here hx rfl (pc0 := 32) (pc' := 36) rfl (hb hby at_32) (by decide) (by decide) ?_
      exact retN X10 hx (t := .boolean) hret0 (by simp) (hb hby at_36) hr
    · show Q_rm0 Z wFALSE wTRUE wUNKNOWN p1 h0 n0 _ T10.heap _
      rw [K10q]
      exact ⟨rfl, N10⟩
  · skip
    have pre11 : ∀ t, Steps p.tables e below (s₁.setTop (mkF m 6 #[(vi p1), .unset, .unset, .unset, .unset] [(.int 2)])) t → Steps p.tables e below (s₁.setTop (entryFrame m #[(.int p1)] maxLocals)) t := by
      intro t k
      refine pre1 t ?_
      rw [hk2]
      exact k
    obtain ⟨_, _, ⟨T12, L12, k12, n12⟩, -, X12, ⟨Lc12, hQ12, l12, y12, z12⟩, st12⟩ := Jvm.LawKit.callS X0 hx (y := M0) hown (mvT hZ (ow hw 1 rfl)) (mvT hZ (ow hw 2 rfl)) (mvT hZ (ow hw 3 rfl)) (mvT hZ (ow hw 4 rfl)) (by decide) (backOf (W := 0) (rm1_2 l Z a0 hw [] wFALSE wTRUE wUNKNOWN hS  h0 n0 O0 ) hZ (ow hw 4 rfl) (ow hw 3 rfl) (by decide) (by decide)) (g := (mkF m 8 #[(vi p1), (vi 2), .unset, .unset, .unset] [(.int 2)])) rfl (by rw [hml]; rfl) (argsL := [(.int 2)]) (rest := []) (lenOf pd_1 rfl) rfl (by show 2 * 0 + _ ≤ _; exact Nat.le_of_eq rfl) (hb hby at_8) (fun _ _ => ⟨rfl, e0, (by decide : 0 + 0 ≤ _), (by decide : 0 + 0 ≤ _)⟩)
    dsimp only [Pt.U, Pt.locs, Pt.cells, Pt.slots] at X12 l12 y12 z12 st12 hQ12
    subst l12 y12 z12
    obtain ⟨rfl, Nq12, K12q⟩ := hQ12
    have N12 := Fr.app N0 Nq12
    obtain ⟨cq13, kq13, q13a, q13b, q13c⟩ := isOf hZ K12q (E_wTRUE.ext O0.2)
    obtain ⟨_, _, ⟨T13, L13, k13, n13⟩, -, X13, ⟨Lc13, hQ13, l13, y13, z13⟩, st13⟩ := X12.virtualBack hx (y := M2) (z := M2) hown (mvT hZ (ow hw 8 rfl)) (mvT hZ (ow hw 9 rfl)) (notFace_of_selects (args := #[]) (mvT hZ (ow hw 11 rfl))) (mvT hZ (ow hw 11 rfl)) (mvT hZ (ow hw 10 rfl)) (by decide) (backOf (W := 0) (rm2_2 l Z a0 hw [] wFALSE wTRUE wUNKNOWN hS  h0 n0 O0 ) hZ (ow hw 12 rfl) (ow hw 6 rfl) (by decide) (by decide)) q13a q13c (g := (mkF m 13 #[(vi p1), (vi 2), (vr wTRUE), .unset, .unset] [(.ref wTRUE)])) rfl (by rw [hml]; rfl) (Steps.refl _) (argsL := []) (rest := []) (lenOf pd_2 rfl) rfl (by show 2 * 0 + _ ≤ _; exact Nat.le_of_eq rfl) (hb hby at_13) (fun _ _ => ⟨rfl, K12q, (by decide : 0 + 0 ≤ _), (by decide : 0 + 0 ≤ _)⟩)
    dsimp only [Pt.U, Pt.locs, Pt.cells, Pt.slots] at X13 l13 y13 z13 st13 hQ13
    subst l13 y13 z13
    obtain ⟨rfl, Nq13, K13q⟩ := hQ13
    have N13 := Fr.app N12 Nq13
    obtain ⟨_, _, ⟨T14, L14, k14, n14⟩, -, X14, ⟨Lc14, hQ14, l14, y14, z14⟩, st14⟩ := Jvm.LawKit.callS X13 hx (y := M0) hown (mvT hZ (ow hw 1 rfl)) (mvT hZ (ow hw 2 rfl)) (mvT hZ (ow hw 3 rfl)) (mvT hZ (ow hw 4 rfl)) (by decide) (backOf (W := 0) (rm1_0 l Z a0 hw [] wFALSE wTRUE wUNKNOWN hS  h0 n0 O0 ) hZ (ow hw 4 rfl) (ow hw 3 rfl) (by decide) (by decide)) (g := (mkF m 20 #[(vi p1), (vi 2), (vr wTRUE), (vr wFALSE), .unset] [(.int 0)])) rfl (by rw [hml]; rfl) (argsL := [(.int 0)]) (rest := []) (lenOf pd_1 rfl) rfl (by show 2 * 0 + _ ≤ _; exact Nat.le_of_eq rfl) (hb hby at_20) (fun _ _ => ⟨rfl, K13q, (by decide : 0 + 0 ≤ _), (by decide : 0 + 0 ≤ _)⟩)
    dsimp only [Pt.U, Pt.locs, Pt.cells, Pt.slots] at X14 l14 y14 z14 st14 hQ14
    subst l14 y14 z14
    obtain ⟨rfl, Nq14, K14q⟩ := hQ14
    have N14 := Fr.app N13 Nq14
    obtain ⟨fs, hr, hrun, hended, hW, hsame⟩ := X14.leave (v := some (.int 1)) (fun h => by rw [hret0] at h; cases h)
    refine ⟨_, _, pre11 _ ?_, hrun, hended, _, _, rfl, ?_, ⟨_, rfl⟩, hW, hsame.mono (by decide) (by decide)⟩
    · skip
      show Steps p.tables e below (s₁.setTop (mkF m 6 #[(vi p1), .unset, .unset, .unset, .unset] [(.int 2)])) _
      refine XS.istoreN X0.here hx rfl (hb hby at_6) rfl (l' := #[(vi p1), (vi 2), .unset, .unset, .unset]) rfl ?_
      refine XS.iloadN X0.here hx rfl (hb hby at_7) rfl ?_
      refine st12 _ ?_
      refine XS.astoreN X12.here hx rfl (hb hby at_11) rfl rfl (l' := #[(vi p1), (vi 2), (vr wTRUE), .unset, .unset]) rfl ?_
      refine XS.aloadN X12.here hx rfl (hb hby at_12) rfl rfl ?_
      show Steps p.tables e below (T12.setTop (mkF m 13 #[(vi p1), (vi 2), (vr wTRUE), .unset, .unset] [(.ref wTRUE)])) _
      refine st13.trans ?_
      refine XS.astoreN X13.here hx rfl (hb hby at_16) rfl rfl (l' := #[(vi p1), (vi 2), (vr wTRUE), (vr wFALSE), .unset]) rfl ?_
      refine XS.iconst X13.here hx rfl (hb hby at_17) ?_
      refine XS.iloadN X13.here hx rfl (hb hby at_18) rfl ?_
      refine XS.isub X13.here hx rfl (hb hby at_19) rfl ?_
      show Steps p.tables e below (T13.setTop (mkF m 20 #[(vi p1), (vi 2), (vr wTRUE), (vr wFALSE), .unset] [(.int 0)])) _
      refine st14 _ ?_
      refine XS.astore X14.here hx rfl (hb hby at_23) rfl rfl (l' := #[(vi p1), (vi 2), (vr wTRUE), (vr wFALSE), (vr wFALSE)]) rfl ?_
      refine XS.aloadN X14.here hx rfl (hb hby at_25) rfl rfl ?_
      refine XS.aload X14.here hx rfl (hb hby at_26) rfl rfl ?_
      refine Jvm.RoadKit.acmp (g := (mkF m 28 #[(vi p1), (vi 2), (vr wTRUE), (vr wFALSE), (vr wFALSE)] [(.ref wFALSE), (.ref wFALSE)])) X14 hx rfl rfl rfl (pc0 := 28) (pc' := 31) (same := true) rfl (hb hby at_28) rfl (decide_eq_true rfl) (by decide) (by decide) ?_
      show Steps p.tables e below (T14.setTop (mkF m 31 #[(vi p1), (vi 2), (vr wTRUE), (vr wFALSE), (vr wFALSE)] [])) _
      refine XS.iconst X14.here hx rfl (hb hby at_31) ?_
      refine XS.goto X14.here hx rfl (pc0 := 32) (pc' := 36) rfl (hb hby at_32) (by decide) (by decide) ?_
      exact retN X14 hx (t := .boolean) hret0 (by simp) (hb hby at_36) hr
    · show Q_rm0 Z wFALSE wTRUE wUNKNOWN p1 h0 n0 _ T14.heap _
      rw [K14q]
      exact ⟨rfl, N14⟩
theorem comes_1 {Post : Tables → Env → Array Value → State → Outcome → State → Prop} (hpost : ∀ tb e args s v u, (limb_1_1.after args s (.returned v) u = true ∧ limb_1_2.after args s (.returned v) u = true ∧ True) → FrameEnd s (.returned v) u (Jvm.fieldLocs frame_1_writes args s ++ Jvm.arrayLocs frame_1_arrays args s ++ Jvm.staticLocs frame_1_statics s) 0 0 → Post tb e args s (.returned v) u) :
    ArmFor flags0 classFile x code maxLocals ret World_1 tables_1 room_1 Calls_1 rest_1 Pre_1 Post := by
  intro l hfl _ _ p e ha hc hk s m args below hf hA hF happ hP
  obtain ⟨hcalls, hrest, hpre⟩ := hP
  obtain ⟨-, -, -, hnamed, -, -, -, hat⟩ := (Spec.applies_iff hf).mp happ
  obtain ⟨hg, hn⟩ := and_e (Cond.before_iff.mp (show (Jvm.Cond.and given_1 narrow_1).before args s = true from hpre))
  obtain ⟨g1, g2⟩ := and_e hg
  obtain ⟨w0, rfl⟩ : ∃ w0 : Value, args = #[w0] := by
    have hs : args.size = 1 := by simpa [Cond.value, given_1] using g1
    obtain ⟨L⟩ := args
    match L, hs with
    | [w0], _ => exact ⟨w0, rfl⟩
  have hw := fun d (hd : d ∈ tables_1) => atoms_spec (ws := Jvm.Cond.code x code maxLocals ret :: tables_1) hat d (List.mem_cons_of_mem _ hd)
  have hfit : Fit s := fun {y c} hc i hi => by
    obtain ⟨ha, rfl⟩ := Array.getElem?_eq_some_iff.mp hc
    have q := List.all_eq_true.mp ((Array.all_eq_true_iff_forall_mem.mp hF) _ (Array.getElem_mem ha)) i (List.mem_range.mpr hi)
    simpa [Array.getElem?_eq_getElem hi] using q
  obtain ⟨i0, ei0⟩ := is_v g2
  obtain rfl : w0 = (.int i0) := Option.some.inj ei0
  obtain ⟨g3, g4⟩ := and_e hn
  obtain ⟨g5, g6⟩ := and_e g4
  obtain ⟨g7, g8⟩ := and_e g6
  obtain ⟨g9, g10⟩ := and_e g8
  obtain ⟨g11, g12⟩ := and_e g10
  obtain ⟨wFALSE, ev_wFALSE⟩ := exa_v g3
  have S_wFALSE := Sta.start ev_wFALSE (Or.inr ⟨(ow hw 6 rfl), (ow hw 7 rfl)⟩)
  have E_wFALSE := Exa.start ev_wFALSE g3
  obtain ⟨wTRUE, ev_wTRUE⟩ := exa_v g7
  have S_wTRUE := Sta.start ev_wTRUE (Or.inr ⟨(ow hw 6 rfl), (ow hw 23 rfl)⟩)
  have E_wTRUE := Exa.start ev_wTRUE g7
  obtain ⟨wUNKNOWN, ev_wUNKNOWN⟩ := exa_v g11
  have S_wUNKNOWN := Sta.start ev_wUNKNOWN (Or.inr ⟨(ow hw 6 rfl), (ow hw 27 rfl)⟩)
  have E_wUNKNOWN := Exa.start ev_wUNKNOWN g11
  have F_ordinal_wFALSE := Fld.start ((fld_at ev_wFALSE).symm.trans (own_eq_int g5))
  have F_ordinal_wTRUE := Fld.start ((fld_at ev_wTRUE).symm.trans (own_eq_int g9))
  have F_ordinal_wUNKNOWN := Fld.start ((fld_at ev_wUNKNOWN).symm.trans (own_eq_int g12))
  have hS : SS s wFALSE wTRUE wUNKNOWN := ⟨S_wFALSE, E_wFALSE, S_wTRUE, E_wTRUE, S_wUNKNOWN, E_wUNKNOWN, F_ordinal_wFALSE, F_ordinal_wTRUE, F_ordinal_wUNKNOWN⟩
  obtain ⟨n, o, h1, h2, h3, _, L, rfl, ⟨rfl, N⟩, hq⟩ := rm0 l s _ hw tables_1 wFALSE wTRUE wUNKNOWN hS i0 s.heap s.heap.size (Old.start s)  p e ha hc hk s m _ below hf ((Spec.applies_iff_loose hf).mp happ).1 ⟨rfl, State.Warmed39.refl s, rfl⟩ trivial
  refine ⟨n, _, h1, h2, h3, hpost _ _ _ _ _ _ ⟨Cond.after_iff.mpr rfl, Cond.after_iff.mpr (eq_i res_at (Term.int_eval (1)) rfl), trivial⟩ ⟨hq.1, hq.2.1, (hq.2.2.sift fun y hy => Or.inr (N y hy)).mono (by decide) (by decide)⟩⟩
theorem main_1_1 : Claimed_1_1 := comes_1 fun _ _ _ _ _ _ h hF => ⟨h.1, hF⟩
theorem main_1_2 : Claimed_1_2 := comes_1 fun _ _ _ _ _ _ h hF => ⟨h.2.1, hF⟩
end Jvm.Pilot.@@N@@
namespace Jvm.Pilot.@@N@@
open Jvm Jvm.ClassFile Sem Op Lib Jvm.Free Jvm.Stand Jvm.Pilot.@@N@@.Jvm.D
/-! MADE BY PROGRAM (witnessworld.py) out of the Statement's table words and the real class files: 12 classes; the members and pool entries that the words name. The judged class is class 1, her method 2. -/
namespace start1
open Jvm.ClassFile
def u (s : String) : CpInfo := .utf8 (stringToUtf16 s)
/-- a pool by its gaps: so many unusable entries, then the entry; so many at the end -/
def gap : Nat → List CpInfo → List CpInfo
  | 0, r => r
  | n + 1, r => .unusable :: gap n r
def poolList (es : List (Nat × CpInfo)) (last : Nat) : List CpInfo := es.foldr (fun e r => gap e.1 (e.2 :: r)) (gap last [])
def pool (es : List (Nat × CpInfo)) (last : Nat) : Array CpInfo := ⟨poolList es last⟩
def fileOf (pool : Array CpInfo) (this : Nat) (attrs : Array Attribute := #[]) (ms : Array MethodInfo := #[]) (fl : Nat := 33) (sup : Nat := 0) (ifs : Array Nat := #[]) (fds : Array FieldInfo := #[]) : ClassFile where
  minorVersion := 0
  majorVersion := 65
  constantPool := pool
  accessFlags := fl
  thisClass := this
  superClass := sup
  interfaces := ifs
  fields := fds
  methods := ms
  attributes := attrs
def plain (name : String) (sup : Option ClassId) : Class where
  name := name
  kind := .ordinary
  loader := none
  accessFlags := 33
  super := sup
  interfaces := #[]
  cf := none
  fields := #[]
  methods := #[]
  instanceTypes := #[]
  staticTypes := #[]
  resolved := #[]
  callSites := []
  init := .initialized
  statics := none
  mirror := none

def pool0 : Array CpInfo := pool [(5, u "<init>"), (0, u "()V"), (1, .class_ 10), (1, u "java/lang/Object")] 113

def k0m0 : Method := { name := "<init>", desc := "()V", sig := { parameters := [], returnType := none }, accessFlags := 1, code := none }
/-- java/lang/Object -/
def k0 : Class := { plain "java/lang/Object" none with
  accessFlags := 33
  interfaces := #[]
  cf := some (fileOf pool0 8 #[] #[{ accessFlags := 1, nameIndex := 5, descriptorIndex := 6, attributes := #[] }] 33 0 #[] #[])
  fields := #[]
  methods := #[k0m0]
  instanceTypes := #[]
  staticTypes := #[]
  resolved := Array.replicate 124 none
  statics := none }

def pool1 : Array CpInfo := pool [(2, .class_ 4), (1, u "java/lang/Object"), (0, u "<init>"), (0, u "()V"), (0, .fieldref 8 9), (0, .class_ 10), (0, .nameAndType 11 12), (0, u "com/example/tuplecraft/tuplecraft/Truth"), (0, u "FALSE"), (0, u "Lcom/example/tuplecraft/tuplecraft/Truth;"), (0, .fieldref 8 14), (0, .nameAndType 15 12), (0, u "UNKNOWN"), (0, .fieldref 8 17), (0, .nameAndType 18 12), (0, u "TRUE"), (0, .integer 2147483647), (0, .methodref 21 22), (0, .class_ 23), (0, .nameAndType 24 25), (0, u "com/example/tuplecraft/tuplecraft/TruthNotPinLaw"), (0, u "pick"), (0, u "(I)Lcom/example/tuplecraft/tuplecraft/Truth;"), (0, .methodref 8 27), (0, .nameAndType 28 29), (0, u "not"), (0, u "()Lcom/example/tuplecraft/tuplecraft/Truth;"), (3, u "law"), (0, u "(I)Z")] 2

def k1m0 : Method := { name := "<init>", desc := "()V", sig := { parameters := [], returnType := none }, accessFlags := 2, code := none }
def k1c1 : Code := { maxStack := 2, maxLocals := 1, code := method_2_code, exceptionTable := #[], attributes := #[] }
def k1m1 : Method := { name := "pick", desc := "(I)Lcom/example/tuplecraft/tuplecraft/Truth;", sig := { parameters := [.int], returnType := some (.object "com/example/tuplecraft/tuplecraft/Truth") }, accessFlags := 10, code := some k1c1 }
def k1c2 : Code := { maxStack := 2, maxLocals := 5, code := code, exceptionTable := #[], attributes := #[] }
def k1m2 : Method := { name := "law", desc := "(I)Z", sig := { parameters := [.int], returnType := some .boolean }, accessFlags := 9, code := some k1c2 }
/-- com/example/tuplecraft/tuplecraft/TruthNotPinLaw -/
def k1 : Class := { plain "com/example/tuplecraft/tuplecraft/TruthNotPinLaw" (some 0) with
  accessFlags := 49
  interfaces := #[]
  cf := some (fileOf pool1 21 #[] #[{ accessFlags := 2, nameIndex := 5, descriptorIndex := 6, attributes := #[] }, { accessFlags := 10, nameIndex := 24, descriptorIndex := 25, attributes := #[] }, { accessFlags := 9, nameIndex := 33, descriptorIndex := 34, attributes := #[] }] 49 2 #[] #[])
  fields := #[]
  methods := #[k1m0, k1m1, k1m2]
  instanceTypes := #[]
  staticTypes := #[]
  resolved := Array.replicate 37 none
  statics := none }

def pool2 : Array CpInfo := pool [(1, .class_ 2), (0, u "java/lang/constant/Constable"), (0, .class_ 4), (0, u "java/lang/Object")] 6

/-- java/lang/constant/Constable -/
def k2 : Class := { plain "java/lang/constant/Constable" (some 0) with
  accessFlags := 1537
  interfaces := #[]
  cf := some (fileOf pool2 1 #[] #[] 1537 3 #[] #[])
  fields := #[]
  methods := #[]
  instanceTypes := #[]
  staticTypes := #[]
  resolved := Array.replicate 11 none
  statics := none }

def pool3 : Array CpInfo := pool [(1, .class_ 2), (0, u "java/lang/Comparable"), (0, .class_ 4), (0, u "java/lang/Object")] 7

/-- java/lang/Comparable -/
def k3 : Class := { plain "java/lang/Comparable" (some 0) with
  accessFlags := 1537
  interfaces := #[]
  cf := some (fileOf pool3 1 #[] #[] 1537 3 #[] #[])
  fields := #[]
  methods := #[]
  instanceTypes := #[]
  staticTypes := #[]
  resolved := Array.replicate 12 none
  statics := none }

def pool4 : Array CpInfo := pool [(1, .class_ 2), (0, u "java/io/Serializable"), (0, .class_ 4), (0, u "java/lang/Object")] 2

/-- java/io/Serializable -/
def k4 : Class := { plain "java/io/Serializable" (some 0) with
  accessFlags := 1537
  interfaces := #[]
  cf := some (fileOf pool4 1 #[] #[] 1537 3 #[] #[])
  fields := #[]
  methods := #[]
  instanceTypes := #[]
  staticTypes := #[]
  resolved := Array.replicate 7 none
  statics := none }

def pool5 : Array CpInfo := pool [(2, .class_ 4), (1, u "java/lang/Enum"), (0, u "name"), (0, u "Ljava/lang/String;"), (0, .fieldref 2 8), (0, .nameAndType 9 10), (0, u "ordinal"), (0, u "I"), (1, .class_ 14), (1, u "java/lang/Object"), (4, u "hash"), (86, .class_ 108), (1, u "java/lang/Enum$EnumDesc"), (2, .class_ 112), (0, u "java/lang/constant/Constable"), (0, .class_ 114), (0, u "java/lang/Comparable"), (0, .class_ 116), (0, u "java/io/Serializable"), (9, u "()I")] 77

def k5c0 : Code := { maxStack := 1, maxLocals := 1, code := jdk_37_method_2_code, exceptionTable := #[], attributes := #[] }
def k5m0 : Method := { name := "ordinal", desc := "()I", sig := { parameters := [], returnType := some .int }, accessFlags := 17, code := some k5c0 }
/-- java/lang/Enum -/
def k5 : Class := { plain "java/lang/Enum" (some 0) with
  accessFlags := 1057
  interfaces := #[2, 3, 4]
  cf := some (fileOf pool5 2 #[.nestMembers #[106]] #[{ accessFlags := 17, nameIndex := 9, descriptorIndex := 126, attributes := #[] }] 1057 12 #[111, 113, 115] #[{ accessFlags := 18, nameIndex := 5, descriptorIndex := 6, attributes := #[] }, { accessFlags := 18, nameIndex := 9, descriptorIndex := 10, attributes := #[] }, { accessFlags := 2, nameIndex := 19, descriptorIndex := 10, attributes := #[] }])
  fields := #[{ name := "name", type := (.object "java/lang/String"), accessFlags := 18, slot := 0, constantValue := 0 }, { name := "ordinal", type := .int, accessFlags := 18, slot := 1, constantValue := 0 }, { name := "hash", type := .int, accessFlags := 2, slot := 2, constantValue := 0 }]
  methods := #[k5m0]
  instanceTypes := #[(.object "java/lang/String"), .int, .int]
  staticTypes := #[]
  resolved := Array.replicate 204 none
  statics := none }

def pool6 : Array CpInfo := pool [(1, .class_ 2), (0, u "com/example/tuplecraft/tuplecraft/Truth"), (0, .fieldref 1 4), (0, .nameAndType 5 6), (0, u "FALSE"), (0, u "Lcom/example/tuplecraft/tuplecraft/Truth;"), (0, .fieldref 1 8), (0, .nameAndType 9 6), (0, u "UNKNOWN"), (0, .fieldref 1 11), (0, .nameAndType 12 6), (0, u "TRUE"), (2, u "$VALUES"), (0, u "[Lcom/example/tuplecraft/tuplecraft/Truth;"), (6, .class_ 25), (1, u "java/lang/Enum"), (10, .methodref 1 37), (0, .nameAndType 38 39), (0, u "ordinal"), (0, u "()I"), (24, u "not"), (0, u "()Lcom/example/tuplecraft/tuplecraft/Truth;")] 4

def k6c0 : Code := { maxStack := 4, maxLocals := 1, code := prog_23_method_6_code, exceptionTable := #[], attributes := #[] }
def k6m0 : Method := { name := "not", desc := "()Lcom/example/tuplecraft/tuplecraft/Truth;", sig := { parameters := [], returnType := some (.object "com/example/tuplecraft/tuplecraft/Truth") }, accessFlags := 0, code := some k6c0 }
/-- com/example/tuplecraft/tuplecraft/Truth -/
def k6 : Class := { plain "com/example/tuplecraft/tuplecraft/Truth" (some 5) with
  accessFlags := 16432
  interfaces := #[]
  cf := some (fileOf pool6 1 #[] #[{ accessFlags := 0, nameIndex := 64, descriptorIndex := 65, attributes := #[] }] 16432 23 #[] #[{ accessFlags := 16409, nameIndex := 5, descriptorIndex := 6, attributes := #[] }, { accessFlags := 16409, nameIndex := 9, descriptorIndex := 6, attributes := #[] }, { accessFlags := 16409, nameIndex := 12, descriptorIndex := 6, attributes := #[] }, { accessFlags := 4122, nameIndex := 15, descriptorIndex := 16, attributes := #[] }])
  fields := #[{ name := "FALSE", type := (.object "com/example/tuplecraft/tuplecraft/Truth"), accessFlags := 16409, slot := 0, constantValue := 0 }, { name := "UNKNOWN", type := (.object "com/example/tuplecraft/tuplecraft/Truth"), accessFlags := 16409, slot := 1, constantValue := 0 }, { name := "TRUE", type := (.object "com/example/tuplecraft/tuplecraft/Truth"), accessFlags := 16409, slot := 2, constantValue := 0 }, { name := "$VALUES", type := (.array (.object "com/example/tuplecraft/tuplecraft/Truth")), accessFlags := 4122, slot := 3, constantValue := 0 }]
  methods := #[k6m0]
  instanceTypes := #[(.object "java/lang/String"), .int, .int]
  staticTypes := #[(.object "com/example/tuplecraft/tuplecraft/Truth"), (.object "com/example/tuplecraft/tuplecraft/Truth"), (.object "com/example/tuplecraft/tuplecraft/Truth"), (.array (.object "com/example/tuplecraft/tuplecraft/Truth"))]
  resolved := Array.replicate 70 none
  statics := some 0 }

def pool7 : Array CpInfo := pool [(1, u "java/lang/Cloneable"), (0, .class_ 1), (0, u "java/lang/Object"), (0, .class_ 3)] 3

/-- java/lang/Cloneable -/
def k7 : Class := { plain "java/lang/Cloneable" (some 0) with
  accessFlags := 1537
  interfaces := #[]
  cf := some (fileOf pool7 2 #[] #[] 1537 4 #[] #[])
  fields := #[]
  methods := #[]
  instanceTypes := #[]
  staticTypes := #[]
  resolved := Array.replicate 8 none
  statics := none }

/-- the primitive byte -/
def k8 : Class := { plain "byte" none with kind := .primitive 'B', accessFlags := 0x411 }
/-- [B -/
def k9 : Class := { plain "[B" (some 0) with kind := .array 8 .byte, interfaces := #[7, 4], accessFlags := 1041 }

/-- the primitive int -/
def k10 : Class := { plain "int" none with kind := .primitive 'I', accessFlags := 0x411 }
/-- [I -/
def k11 : Class := { plain "[I" (some 0) with kind := .array 10 .int, interfaces := #[7, 4], accessFlags := 1041 }

def heap : Heap := #[{ cls := 6, slots := #[.ref 1, .ref 2, .ref 3, .null], vm := .statics 6 },
  { cls := 6, slots := #[.null, .int 0, .int 0], vm := .none },
  { cls := 6, slots := #[.null, .int 1, .int 0], vm := .none },
  { cls := 6, slots := #[.null, .int 2, .int 0], vm := .none }]
def classes : Array Class := #[k0, k1, k2, k3, k4, k5, k6, k7, k8, k9, k10, k11]
def interned : List (Array UInt16 × Addr) := []
def slotsUsed : Nat := 13
def theMethod : MethodId := ⟨1, 2⟩
def args0 : Array Value := #[.int 5]
def aboutOver (below : List Frame) : State where
  vm := { classes := classes, interned := interned.toArray }
  heap := heap
  slotsUsed := slotsUsed
  threads := #[{ frames := .invoking theMethod args0 :: below }]
def below0 : List Frame := [.native { method := ⟨0, 0⟩, args := #[] }]
def about1 : State := aboutOver below0
def p0 : Program := .bare "" "" ""
def e0 : Env := launch0.env 0 0 0
theorem w_frames : about1.frames = Frame.invoking theMethod args0 :: below0 := rfl
set_option maxRecDepth 65536 in
theorem w_args : argsFit about1.vm theMethod args0 = true := by decide +kernel
set_option maxRecDepth 65536 in
theorem w_heap : heapFits about1 = true := by decide +kernel
set_option maxRecDepth 65536 in
theorem w_runnable : about1.curStatus? = some .runnable := by decide +kernel
set_option maxRecDepth 65536 in
theorem w_alone : about1.alone = true := by decide +kernel
set_option maxRecDepth 65536 in
theorem w_named : about1.methodNamed? x = some theMethod := by decide +kernel
set_option maxRecDepth 65536 in
theorem w_hears : about1.hears theMethod below0 = true := by decide +kernel
set_option maxRecDepth 65536 in
theorem w_ripe : about1.ripe theMethod args0 below0 = true := by decide +kernel
theorem w_running : about1.status = .running := rfl
set_option maxRecDepth 65536 in
theorem w_room : about1.hasRoom e0.platform room_1 = true :=
  launch0.hasRoom_least _ room_1 (by decide +kernel) (by decide +kernel) (by decide +kernel) (by decide +kernel) (by decide +kernel) (by decide +kernel)
theorem allAtoms_all (ts : List Jvm.Cond) (a : Array Jvm.Value) (st : Jvm.State) : (allAtoms ts).before a st = ts.all (fun c => c.before a st) := by
  induction ts with
  | nil => rfl
  | cons c t ih =>
    show (Jvm.Cond.and c (allAtoms t)).before a st = _
    rw [Jvm.Cond.before_and, ih, List.all_cons]
def words1 : List Jvm.Cond := Jvm.Cond.code x code maxLocals ret :: tables_1
/-- a 'code' word, met by the world's own term for the bytes: nothing is compared byte by byte -/
theorem code_word {y : MethodName} {bytes : ByteArray} {mx : Nat} {rt : Option FieldType} {a : Array Value} {s : State} {m : MethodId} {meth : Method} {c : Code} (h1 : s.methodNamed? y = some m) (h2 : s.vm.method? m = some meth) (h3 : meth.code = some c) (h4 : c.code = bytes)
    (h5 : (c.maxLocals == mx && c.exceptionTable.isEmpty && decide (c.maxStack ≤ mostOperands) && decide (meth.sig.returnType = rt) && !meth.locks && decide (parseMethodDescriptor y.desc = some meth.sig)) = true) : (Jvm.Cond.code y bytes mx rt).before a s = true := by
  simp only [Bool.and_eq_true, beq_iff_eq, Bool.not_eq_true', decide_eq_true_eq] at h5
  obtain ⟨⟨⟨⟨⟨g1, g2⟩, g3⟩, g4⟩, g5⟩, g6⟩ := h5
  simp [Cond.before, Cond.holds, Cond.value, h1, h2, h3, h4, g1, g2, g3, g4, g5, g6]
def isCode : Jvm.Cond → Bool
  | .code _ _ _ _ => true
  | _ => false
theorem all_split {L : List Jvm.Cond} {P : Jvm.Cond → Bool} (h1 : L.all (fun c => isCode c || P c) = true) (h2 : ∀ c ∈ L.filter isCode, P c = true) : L.all P = true := by
  refine List.all_eq_true.mpr fun c hc => ?_
  have h := List.all_eq_true.mp h1 c hc
  rcases Bool.eq_false_or_eq_true (isCode c) with hi | hi
  · exact h2 c (List.mem_filter.mpr ⟨hc, hi⟩)
  · simpa [hi] using h
set_option maxRecDepth 65536 in
theorem w_c0 : (Jvm.Cond.code x code maxLocals ret).before args0 about1 = true := code_word (m := ⟨1, 2⟩) (meth := k1m2) (c := k1c2) (by decide +kernel) rfl rfl rfl (by decide +kernel)
set_option maxRecDepth 65536 in
theorem w_c1 : (Jvm.Cond.code ({ cls := "com/example/tuplecraft/tuplecraft/TruthNotPinLaw", name := "pick", desc := "(I)Lcom/example/tuplecraft/tuplecraft/Truth;" } : Jvm.MethodName) method_2_code (1 : Nat) (Option.some (Jvm.ClassFile.FieldType.object "com/example/tuplecraft/tuplecraft/Truth"))).before args0 about1 = true := code_word (m := ⟨1, 1⟩) (meth := k1m1) (c := k1c1) (by decide +kernel) rfl rfl rfl (by decide +kernel)
set_option maxRecDepth 65536 in
theorem w_c2 : (Jvm.Cond.code ({ cls := "com/example/tuplecraft/tuplecraft/Truth", name := "not", desc := "()Lcom/example/tuplecraft/tuplecraft/Truth;" } : Jvm.MethodName) prog_23_method_6_code (1 : Nat) (Option.some (Jvm.ClassFile.FieldType.object "com/example/tuplecraft/tuplecraft/Truth"))).before args0 about1 = true := code_word (m := ⟨6, 0⟩) (meth := k6m0) (c := k6c0) (by decide +kernel) rfl rfl rfl (by decide +kernel)
set_option maxRecDepth 65536 in
theorem w_c3 : (Jvm.Cond.code ({ cls := "java/lang/Enum", name := "ordinal", desc := "()I" } : Jvm.MethodName) jdk_37_method_2_code (1 : Nat) (Option.some Jvm.ClassFile.FieldType.int)).before args0 about1 = true := code_word (m := ⟨5, 0⟩) (meth := k5m0) (c := k5c0) (by decide +kernel) rfl rfl rfl (by decide +kernel)
def codes1 : List Jvm.Cond := [Jvm.Cond.code x code maxLocals ret, Jvm.Cond.code ({ cls := "com/example/tuplecraft/tuplecraft/TruthNotPinLaw", name := "pick", desc := "(I)Lcom/example/tuplecraft/tuplecraft/Truth;" } : Jvm.MethodName) method_2_code (1 : Nat) (Option.some (Jvm.ClassFile.FieldType.object "com/example/tuplecraft/tuplecraft/Truth")), Jvm.Cond.code ({ cls := "com/example/tuplecraft/tuplecraft/Truth", name := "not", desc := "()Lcom/example/tuplecraft/tuplecraft/Truth;" } : Jvm.MethodName) prog_23_method_6_code (1 : Nat) (Option.some (Jvm.ClassFile.FieldType.object "com/example/tuplecraft/tuplecraft/Truth")), Jvm.Cond.code ({ cls := "java/lang/Enum", name := "ordinal", desc := "()I" } : Jvm.MethodName) jdk_37_method_2_code (1 : Nat) (Option.some Jvm.ClassFile.FieldType.int)]
set_option maxRecDepth 65536 in
theorem codes_eq : words1.filter isCode = codes1 := rfl
theorem w_codes : ∀ c ∈ words1.filter isCode, c.before args0 about1 = true := by
  rw [codes_eq]
  intro c hc
  simp only [codes1, List.mem_cons, List.not_mem_nil, or_false] at hc
  rcases hc with rfl | rfl | rfl | rfl
  · exact w_c0
  · exact w_c1
  · exact w_c2
  · exact w_c3
set_option maxRecDepth 65536 in
theorem w_t1 : (words1.take 24).all (fun c => isCode c || c.before args0 about1) = true := by decide +kernel
set_option maxRecDepth 65536 in
theorem w_t2 : (words1.drop 24).all (fun c => isCode c || c.before args0 about1) = true := by decide +kernel
theorem w_tables : (allAtoms (Jvm.Cond.code x code maxLocals ret :: tables_1)).before args0 about1 = true := by
  rw [allAtoms_all]
  show words1.all (fun c => c.before args0 about1) = true
  refine all_split ?_ w_codes
  rw [← List.take_append_drop 24 words1, List.all_append, w_t1, w_t2]
  rfl
set_option maxRecDepth 65536 in
theorem w_case : (Jvm.Cond.and given_1 narrow_1).before args0 about1 = true := by decide +kernel
theorem w_applies : (headSpec (Jvm.Cond.code x code maxLocals ret :: tables_1) room_1).applies x e0.platform about1 = true :=
  (Spec.applies_iff w_frames).mpr ⟨w_running, w_runnable, w_alone, w_named, w_hears, w_ripe, w_room, w_tables⟩
theorem atStart : AtStart classFile x code maxLocals ret World_1 tables_1 room_1 Calls_1 rest_1 Pre_1 launch0 p0 e0 about1 theMethod args0 below0 :=
  ⟨lists_1, trivial, launch0.admits_env _ _ _, launch0.least_env, fairChoices_fair.cas, fairChoices_fair.clock, w_frames, w_args, w_heap, w_applies, trivial, trivial, w_case⟩
end start1
theorem witness_1 : WitnessClaimed_1 := ⟨start1.p0, start1.e0, start1.about1, start1.theMethod, start1.args0, start1.below0, start1.atStart⟩
end Jvm.Pilot.@@N@@
