import JvmDerived
import JvmDerived.Pilot.@@N@@Statement
import JvmDerived.Pilot.@@N@@Code
set_option linter.unusedVariables false
set_option linter.unusedSimpArgs false
namespace Jvm.RoadKit
open Sem ClassFile Op Lib Jvm.Stand Jvm.Free Jvm.LawKit
section New
variable {p : Program} {l : Launch} {e : Env} {R : Room} {s : State} {m : MethodId} {args : Array Value} {below : List Frame} {meth : Method} {c : Code} {T : State} {locs : List Loc} {cells slots : Nat}
theorem retI (X : Stand p l e R s m args below meth c T locs cells slots) (hx : p.tables.exec = Jvm.exec) {pc : Nat} {Ls : Array Slot} {z : Int32} {rest : List Value} (hret : meth.sig.returnType = some .int) (hd : decode c.code pc = .ok (.ireturn, 1)) {fs : List Frame}
    (hl : ∀ (f : JFrame) (acts : List Action), f.method = m → f.locked = none → f.entered = [] → (doReturn e (T.setTop f) acts (some (.int z))).1 = T.setFrames fs) : Steps p.tables e below (T.setTop (mkF m pc Ls (.int z :: rest))) (T.setFrames fs) := by
  have hm' : T.vm.method? m = some meth := X.method'
  have hn : narrow .int (.int z) = .int z := rfl
  show Steps p.tables e below (T.setTop { method := m, pc := pc, locals := Ls, stack := _ :: rest, locked := none }) _
  jvm_step X.here [X.here.top, hx, hd, hm', hret, hn]
  first | (intro acts; rw [hl _ acts rfl rfl rfl]) | rw [hl _ _ rfl rfl rfl]
  exact Steps.refl _
end New
end Jvm.RoadKit
namespace Jvm.Pilot.@@N@@
open Jvm Jvm.ClassFile Sem Op Lib Jvm.Free Jvm.Stand Jvm.LawKit Jvm.RoadKit Bundle Jvm.Pilot.@@N@@.Jvm.D
set_option maxRecDepth 65536
set_option maxHeartbeats 40000000
theorem ow {Z : State} {a0 : Array Value} (hw : ∀ d ∈ tables_1, d.before a0 Z = true) (i : Nat) {d : Jvm.Cond} (h : tables_1[i]? = some d) : d.before a0 Z = true := hw d (List.mem_of_getElem? h)
abbrev rmk (f c s l : Nat) : Room := { frames := f, cells := c, slots := s, locals := l }
abbrev MetB (l : Launch) (y : MethodName) (bytes : ByteArray) (maxL : Nat) (ret : Option FieldType) (ws : List Jvm.Cond) (rm : Room) (Z : State) (h0 : Heap) (as' : Array Value) (Q : Option Value → Heap → List Loc → Prop) : Prop :=
  MetFree l y (head1 (Jvm.Cond.code y bytes maxL ret :: ws) rm) (fun a U => a = as' ∧ Z.Warmed39 U.vm ∧ U.heap = h0) (fun _ _ _ _ _ => True) (fun _ U o U' => ∃ v L, o = .returned v ∧ Q v U'.heap L ∧ FrameEnd U o U' L rm.cells rm.slots)
theorem own_body {l : Launch} {y : MethodName} {bytes : ByteArray} {maxL : Nat} {ret : Option FieldType} {ws : List Jvm.Cond} {rm : Room} {Z : State} {h0 : Heap} {as' : Array Value} {Q : Option Value → Heap → List Loc → Prop} (hpl : plainFor y = true)
    (body : ∀ (p : Program) (e : Env) (s : State) (m : MethodId) (below : List Frame) (meth : Method) (c : Code) (s₁ : State), p.tables.exec = Jvm.exec → c.code = bytes → c.maxLocals = maxL → s.vm.findClass y.cls = some m.cls → meth.name = y.name → meth.sig.returnType = ret → meth.locks = false → Z.Warmed39 s.vm → Stand p l e rm s m as' below meth c s₁ [] 0 0 → s₁.heap = h0 →
      ∃ s₂ o, Steps p.tables e below (s₁.setTop (entryFrame m as' maxL)) s₂ ∧ s₂.status = .running ∧ Ended s₂ below o ∧ ∃ v L, o = .returned v ∧ Q v s₂.heap L ∧ FrameEnd s o s₂ L rm.cells rm.slots) : MetB l y bytes maxL ret ws rm Z h0 as' Q := by
  refine MetFree.of_bodySF hpl hisR ?_
  intro p e s m args below meth c s₁ Bd hml0 hP hK
  obtain ⟨rfl, hZ, hh⟩ := hP
  exact body p e s m below meth c s₁ Bd.exec Bd.bytes hml0 (findClass_of_methodNamed Bd.named) (name_of_methodNamed Bd.named Bd.method).1 Bd.returns Bd.notSynchronized hZ (Stand.of_body Bd) (by rw [← hh, Bd.state]; rfl)
abbrev vr (a : Addr) : Slot := .val (.ref a)
abbrev vi (a : Int32) : Slot := .val (.int a)
abbrev vl (a : Int64) : Slot := .val (.long a)
theorem own_sz {Z : State} {n0 : Nat} {h : Heap} (O : Old Z n0 h) : n0 ≤ h.size := O.1 ▸ O.2.1
theorem own_eq_int {args : Array Value} {first s : State} {o : Option Outcome} {idx : List Nat} {t : Term} {k : Int32} (h : (Jvm.Cond.eq t (.int k)).value args first o s idx = some true) : t.eval args first o idx s = some (.int k) := by
  simp only [Jvm.Cond.value, Term.eval] at h
  cases ht : t.eval args first o idx s with
  | none => simp [ht] at h
  | some x => cases x <;> simp [ht] at h ⊢; exact h
theorem own_eq_long {args : Array Value} {first s : State} {o : Option Outcome} {idx : List Nat} {t : Term} {k : Int64} (h : (Jvm.Cond.eq t (.long k)).value args first o s idx = some true) : t.eval args first o idx s = some (.long k) := by
  simp only [Jvm.Cond.value, Term.eval] at h
  cases ht : t.eval args first o idx s with
  | none => simp [ht] at h
  | some x => cases x <;> simp [ht] at h ⊢; exact h
theorem own_selp {s : State} {args : Array Value} {y : MethodName} {n : Nat} (wi : (Jvm.Cond.instantiable y.cls n).before args s = true) (wp : (Jvm.Cond.privateMethod y).before args s = true) (wm : (Jvm.Cond.instanceMethod y).before args s = true) (hy : y.cls ≠ "java/lang/invoke/MethodHandle" ∧ y.cls ≠ "java/lang/invoke/VarHandle") : (Jvm.Cond.selects y.cls y y).before args s = true := by
  obtain ⟨c, k, hc, hk, -, hni, -, -⟩ := Cond.instantiable_spec wi
  exact selects_self_of_private hc hk (Bool.or_eq_false_iff.mp hni).1 (Cond.privateMethod_at wp) wm hy
theorem own_getR {p : Program} {l : Launch} {e : Env} {R : Room} {s : State} {m : MethodId} {args : Array Value} {below : List Frame} {meth : Method} {c : Code} {T : State} {locs : List Loc} {cells slots : Nat} {Z : State} {a0 : Array Value} {h : Heap} (X : Stand p l e R s m args below meth c T locs cells slots) (hx : p.tables.exec = Jvm.exec) (hZ : Z.Warmed39 s.vm) {own R0 n d : String} {index : Nat} (hown : s.vm.findClass own = some m.cls) (w : (Jvm.Cond.fieldRef own index R0 n d).before a0 Z = true)
    (eT : T.heap = h) {a : Addr} {v : Value} (F : Fld Z h a R0 n d v) {g : JFrame} (hg : g.method = m) {rest : List Value} (hs : g.stack = .ref a :: rest) (hd : decode c.code g.pc = .ok (.getfield index, 3)) : ∃ T', Stand p l e R s m args below meth c T' locs cells slots ∧ T'.heap = h ∧ ∀ target, Steps p.tables e below (T'.setTop { g with pc := g.pc + 3, stack := v :: rest }) target → Steps p.tables e below (T.setTop g) target := by
  obtain ⟨cell, cf, k, i, f, h1, h2, h3, h4, -, -, h7⟩ := F
  have wT := Cond.fieldRef_warmed39 (wtrans hZ X.warmed) w
  obtain ⟨c', k', i', f', q1, q2⟩ := Cond.fieldRef_spec (cur := m.cls) (by show T.vm.findClass own = some m.cls; rw [X.warmed.alike.findClass]; exact hown) wT
  obtain ⟨k'', hf', -⟩ := State.fieldFound?_setVm (s := Z) (wtrans hZ X.warmed).alike h2
  cases hf'.symm.trans q1
  exact ⟨T, X, eT, fun target k => (X.getfieldR hx hg q2 h3 hs (by rw [eT]; exact h1) h4 h7 hd (Steps.refl _)).trans k⟩
theorem own_lc (x : Int64) : lcmpW x x = 0 := (lw_eq x x).mpr rfl
theorem own_b01 {P : Prop} [Decidable P] {y a b : Int32} (h : y = if P then a else b) : y = a ∨ y = b := by rw [h]; split; exact Or.inl rfl; exact Or.inr rfl
abbrev M0 : MethodName := ⟨"com/example/onceward/onceward/broker/SettledForGoodPinLaw", "pick", "(I)Lcom/example/onceward/onceward/broker/Settled;"⟩
abbrev M1 : MethodName := ⟨"com/example/onceward/onceward/broker/Settled", "forGood", "()Z"⟩
abbrev s0n : String := "com/example/onceward/onceward/broker/Settled"
abbrev s1n : String := "Lcom/example/onceward/onceward/broker/Settled;"
def SS (Z : State) (wACKNOWLEDGED : Addr) (wDEAD_LETTERED : Addr) (wSENT_BACK : Addr) (wSTORE_WAIT : Addr) (wRETRY : Addr) : Prop := Sta Z Z.heap s0n "ACKNOWLEDGED" s1n (.ref wACKNOWLEDGED) ∧ Exa Z Z.heap wACKNOWLEDGED s0n ∧ Sta Z Z.heap s0n "DEAD_LETTERED" s1n (.ref wDEAD_LETTERED) ∧ Exa Z Z.heap wDEAD_LETTERED s0n ∧ Sta Z Z.heap s0n "SENT_BACK" s1n (.ref wSENT_BACK) ∧ Exa Z Z.heap wSENT_BACK s0n ∧ Sta Z Z.heap s0n "STORE_WAIT" s1n (.ref wSTORE_WAIT) ∧ Exa Z Z.heap wSTORE_WAIT s0n ∧ Sta Z Z.heap s0n "RETRY" s1n (.ref wRETRY) ∧ Exa Z Z.heap wRETRY s0n ∧ Fld Z Z.heap wDEAD_LETTERED "java/lang/Enum" "ordinal" "I" (.int 3) ∧ Fld Z Z.heap wACKNOWLEDGED "java/lang/Enum" "ordinal" "I" (.int 0) ∧ Fld Z Z.heap wSENT_BACK "java/lang/Enum" "ordinal" "I" (.int 1) ∧ Fld Z Z.heap wSTORE_WAIT "java/lang/Enum" "ordinal" "I" (.int 4) ∧ Fld Z Z.heap wRETRY "java/lang/Enum" "ordinal" "I" (.int 2)
theorem own_mod5 (x : Int32) : (x &&& 2147483647) % 5 = 0 ∨ (x &&& 2147483647) % 5 = 1 ∨ (x &&& 2147483647) % 5 = 2 ∨ (x &&& 2147483647) % 5 = 3 ∨ (x &&& 2147483647) % 5 = 4 := by
  have h1 := c_mask x 2147483647 31 (by decide) (by decide)
  have h2 := (c_irem (x &&& 2147483647) 5 5 (by decide)).1 (by omega)
  have h3 : ((x &&& 2147483647) % 5).toInt = 0 ∨ ((x &&& 2147483647) % 5).toInt = 1 ∨ ((x &&& 2147483647) % 5).toInt = 2 ∨ ((x &&& 2147483647) % 5).toInt = 3 ∨ ((x &&& 2147483647) % 5).toInt = 4 := by omega
  rcases h3 with h | h | h | h | h
  · exact Or.inl (Int32.toInt_inj.mp (h.trans (by decide)))
  · exact Or.inr (Or.inl (Int32.toInt_inj.mp (h.trans (by decide))))
  · exact Or.inr (Or.inr (Or.inl (Int32.toInt_inj.mp (h.trans (by decide)))))
  · exact Or.inr (Or.inr (Or.inr (Or.inl (Int32.toInt_inj.mp (h.trans (by decide))))))
  · exact Or.inr (Or.inr (Or.inr (Or.inr (Int32.toInt_inj.mp (h.trans (by decide))))))
theorem ef_rm1_0 (m : MethodId) (x0 : Int32)  : entryFrame m #[(.int x0)] 1 = mkF m 0 #[(vi x0)] [] := by first | (simp [entryFrame, mkF, argsToLocals, Value.category]; done) | rfl
theorem pn_com_example_onceward_onceward_broker_SettledForGoodPinLaw : plainName "com/example/onceward/onceward/broker/SettledForGoodPinLaw" = true := by first | (simp [plainName, overriddenIn]; done) | decide +kernel
theorem d1_0 : decode method_2_code 0 = .ok (.iload_n 0, 1) := by decide +kernel
theorem d1_1 : decode method_2_code 1 = .ok (.ifCond .ne 7, 3) := by decide +kernel
theorem d1_4 : decode method_2_code 4 = .ok (.getstatic 7, 3) := by decide +kernel
theorem d1_7 : decode method_2_code 7 = .ok (.areturn, 1) := by decide +kernel
def Q_rm1_0 (Z : State) (wACKNOWLEDGED : Addr) (wDEAD_LETTERED : Addr) (wSENT_BACK : Addr) (wSTORE_WAIT : Addr) (wRETRY : Addr)  (h0 : Heap) (n0 : Nat) (v : Option Value) (h : Heap) (L : List Loc) : Prop := v = some (.ref wACKNOWLEDGED) ∧ Fr n0 L ∧ h = h0
theorem rm1_0 (l : Launch) (Z : State) (a0 : Array Value) (hw : ∀ d ∈ tables_1, d.before a0 Z = true) (ws : List Jvm.Cond) (wACKNOWLEDGED : Addr) (wDEAD_LETTERED : Addr) (wSENT_BACK : Addr) (wSTORE_WAIT : Addr) (wRETRY : Addr) (hS : SS Z wACKNOWLEDGED wDEAD_LETTERED wSENT_BACK wSTORE_WAIT wRETRY)  (h0 : Heap) (n0 : Nat) (O0 : Old Z n0 h0)  :
    MetB l M0 method_2_code 1 (some (.object s0n)) ws (rmk 0 0 0 0) Z h0 #[(.int 0)] (Q_rm1_0 Z wACKNOWLEDGED wDEAD_LETTERED wSENT_BACK wSTORE_WAIT wRETRY  h0 n0) := by
  refine own_body (plainFor_of_name pn_com_example_onceward_onceward_broker_SettledForGoodPinLaw) ?_
  intro p e s m below meth c s₁ hx hby hml hown hnm hret0 hlk0 hZ X0 e0
  have N0 := Fr.nil n0
  have pre0 : ∀ t, Steps p.tables e below (s₁.setTop (mkF m 0 #[(vi 0)] [])) t → Steps p.tables e below (s₁.setTop (entryFrame m #[(.int 0)] 1)) t := fun t k => castTop (ef_rm1_0 m (0 : Int32)) k
  have hS0 := hS
  obtain ⟨S_wACKNOWLEDGED, E_wACKNOWLEDGED, S_wDEAD_LETTERED, E_wDEAD_LETTERED, S_wSENT_BACK, E_wSENT_BACK, S_wSTORE_WAIT, E_wSTORE_WAIT, S_wRETRY, E_wRETRY, F_ordinal_wDEAD_LETTERED, F_ordinal_wACKNOWLEDGED, F_ordinal_wSENT_BACK, F_ordinal_wSTORE_WAIT, F_ordinal_wRETRY⟩ := hS0
  obtain ⟨T1, X1, e1, st1⟩ := getS2 X0 hx hZ hown (host := "") (Or.inl (ow hw 5 rfl)) Via.refl e0 (S_wACKNOWLEDGED.ext O0.2) (g := (mkF m 4 #[(vi 0)] [])) rfl (hb hby d1_4)
  obtain ⟨fs, hr, hrun, hended, hW, hsame⟩ := X1.leave (v := some (.ref wACKNOWLEDGED)) (fun h => by rw [hret0] at h; cases h)
  refine ⟨_, _, pre0 _ ?_, hrun, hended, _, _, rfl, ?_, ⟨_, rfl⟩, hW, hsame.mono (by decide) (by decide)⟩
  · skip
    show Steps p.tables e below (s₁.setTop (mkF m 0 #[(vi 0)] [])) _
    refine XS.iloadN X0.here hx rfl (hb hby d1_0) rfl ?_
    refine XS.ifNo X0.here hx rfl (hb hby d1_1) rfl ((if0 _ _).trans (teq (by decide : (0 : Int32) = (0 : Int32))).2) ?_
    refine st1 _ ?_
    jvm_step X1.here [X1.here.top, hx, (hb hby d1_7), X1.method', hret0, Value.isRef, FieldType.isReference]
    first | (intro acts; rw [hr _ acts rfl rfl rfl]) | rw [hr _ _ rfl rfl rfl]
    exact Steps.refl _
  · show Q_rm1_0 Z wACKNOWLEDGED wDEAD_LETTERED wSENT_BACK wSTORE_WAIT wRETRY  h0 n0 _ T1.heap _
    rw [e1]
    exact ⟨rfl, N0, rfl⟩
theorem ef_rm2_0 (m : MethodId) (x0 : Addr)  : entryFrame m #[(.ref x0)] 1 = mkF m 0 #[(vr x0)] [] := by first | (simp [entryFrame, mkF, argsToLocals, Value.category]; done) | rfl
theorem pn_com_example_onceward_onceward_broker_Settled : plainName "com/example/onceward/onceward/broker/Settled" = true := by first | (simp [plainName, overriddenIn]; done) | decide +kernel
theorem d2_0 : decode prog_2_method_4_code 0 = .ok (.aload_n 0, 1) := by decide +kernel
theorem d2_1 : decode prog_2_method_4_code 1 = .ok (.getstatic 3, 3) := by decide +kernel
theorem d2_4 : decode prog_2_method_4_code 4 = .ok (.if_acmp .eq 10, 3) := by decide +kernel
theorem d2_14 : decode prog_2_method_4_code 14 = .ok (.iconst 1, 1) := by decide +kernel
theorem d2_15 : decode prog_2_method_4_code 15 = .ok (.goto 4, 3) := by decide +kernel
theorem d2_19 : decode prog_2_method_4_code 19 = .ok (.ireturn, 1) := by decide +kernel
def Q_rm2_0 (Z : State) (wACKNOWLEDGED : Addr) (wDEAD_LETTERED : Addr) (wSENT_BACK : Addr) (wSTORE_WAIT : Addr) (wRETRY : Addr)  (h0 : Heap) (n0 : Nat) (v : Option Value) (h : Heap) (L : List Loc) : Prop := v = some (.int 1) ∧ Fr n0 L ∧ h = h0
theorem rm2_0 (l : Launch) (Z : State) (a0 : Array Value) (hw : ∀ d ∈ tables_1, d.before a0 Z = true) (ws : List Jvm.Cond) (wACKNOWLEDGED : Addr) (wDEAD_LETTERED : Addr) (wSENT_BACK : Addr) (wSTORE_WAIT : Addr) (wRETRY : Addr) (hS : SS Z wACKNOWLEDGED wDEAD_LETTERED wSENT_BACK wSTORE_WAIT wRETRY)  (h0 : Heap) (n0 : Nat) (O0 : Old Z n0 h0)  :
    MetB l M1 prog_2_method_4_code 1 (some .boolean) ws (rmk 0 0 0 0) Z h0 #[(.ref wACKNOWLEDGED)] (Q_rm2_0 Z wACKNOWLEDGED wDEAD_LETTERED wSENT_BACK wSTORE_WAIT wRETRY  h0 n0) := by
  refine own_body (plainFor_of_name pn_com_example_onceward_onceward_broker_Settled) ?_
  intro p e s m below meth c s₁ hx hby hml hown hnm hret0 hlk0 hZ X0 e0
  have N0 := Fr.nil n0
  have pre0 : ∀ t, Steps p.tables e below (s₁.setTop (mkF m 0 #[(vr wACKNOWLEDGED)] [])) t → Steps p.tables e below (s₁.setTop (entryFrame m #[(.ref wACKNOWLEDGED)] 1)) t := fun t k => castTop (ef_rm2_0 m wACKNOWLEDGED) k
  have hS0 := hS
  obtain ⟨S_wACKNOWLEDGED, E_wACKNOWLEDGED, S_wDEAD_LETTERED, E_wDEAD_LETTERED, S_wSENT_BACK, E_wSENT_BACK, S_wSTORE_WAIT, E_wSTORE_WAIT, S_wRETRY, E_wRETRY, F_ordinal_wDEAD_LETTERED, F_ordinal_wACKNOWLEDGED, F_ordinal_wSENT_BACK, F_ordinal_wSTORE_WAIT, F_ordinal_wRETRY⟩ := hS0
  obtain ⟨T1, X1, e1, st1⟩ := getS2 X0 hx hZ hown (host := "") (Or.inl (ow hw 14 rfl)) Via.refl e0 (S_wACKNOWLEDGED.ext O0.2) (g := (mkF m 1 #[(vr wACKNOWLEDGED)] [(.ref wACKNOWLEDGED)])) rfl (hb hby d2_1)
  obtain ⟨fs, hr, hrun, hended, hW, hsame⟩ := X1.leave (v := some (.int 1)) (fun h => by rw [hret0] at h; cases h)
  refine ⟨_, _, pre0 _ ?_, hrun, hended, _, _, rfl, ?_, ⟨_, rfl⟩, hW, hsame.mono (by decide) (by decide)⟩
  · skip
    show Steps p.tables e below (s₁.setTop (mkF m 0 #[(vr wACKNOWLEDGED)] [])) _
    refine XS.aloadN X0.here hx rfl (hb hby d2_0) rfl rfl ?_
    refine st1 _ ?_
    refine Jvm.RoadKit.acmp (g := (mkF m 4 #[(vr wACKNOWLEDGED)] [(.ref wACKNOWLEDGED), (.ref wACKNOWLEDGED)])) X1 hx rfl rfl rfl (pc0 := 4) (pc' := 14) (same := true) rfl (hb hby d2_4) rfl (decide_eq_true rfl) (by decide) (by decide) ?_
    refine XS.iconst X1.here hx rfl (hb hby d2_14) ?_
    refine XS.goto X1.here hx rfl (pc0 := 15) (pc' := 19) rfl (hb hby d2_15) (by decide) (by decide) ?_
    show Steps p.tables e below (T1.setTop (mkF m 19 #[(vr wACKNOWLEDGED)] [(.int 1)])) _
    exact retN X1 hx (t := .boolean) hret0 (by simp) (hb hby d2_19) hr
  · show Q_rm2_0 Z wACKNOWLEDGED wDEAD_LETTERED wSENT_BACK wSTORE_WAIT wRETRY  h0 n0 _ T1.heap _
    rw [e1]
    exact ⟨rfl, N0, rfl⟩
theorem ef_rm1_1 (m : MethodId) (x0 : Int32)  : entryFrame m #[(.int x0)] 1 = mkF m 0 #[(vi x0)] [] := by first | (simp [entryFrame, mkF, argsToLocals, Value.category]; done) | rfl
theorem d1_8 : decode method_2_code 8 = .ok (.iload_n 0, 1) := by decide +kernel
theorem d1_9 : decode method_2_code 9 = .ok (.iconst 1, 1) := by decide +kernel
theorem d1_10 : decode method_2_code 10 = .ok (.if_icmp .ne 7, 3) := by decide +kernel
theorem d1_13 : decode method_2_code 13 = .ok (.getstatic 13, 3) := by decide +kernel
theorem d1_16 : decode method_2_code 16 = .ok (.areturn, 1) := by decide +kernel
def Q_rm1_1 (Z : State) (wACKNOWLEDGED : Addr) (wDEAD_LETTERED : Addr) (wSENT_BACK : Addr) (wSTORE_WAIT : Addr) (wRETRY : Addr)  (h0 : Heap) (n0 : Nat) (v : Option Value) (h : Heap) (L : List Loc) : Prop := v = some (.ref wSENT_BACK) ∧ Fr n0 L ∧ h = h0
theorem rm1_1 (l : Launch) (Z : State) (a0 : Array Value) (hw : ∀ d ∈ tables_1, d.before a0 Z = true) (ws : List Jvm.Cond) (wACKNOWLEDGED : Addr) (wDEAD_LETTERED : Addr) (wSENT_BACK : Addr) (wSTORE_WAIT : Addr) (wRETRY : Addr) (hS : SS Z wACKNOWLEDGED wDEAD_LETTERED wSENT_BACK wSTORE_WAIT wRETRY)  (h0 : Heap) (n0 : Nat) (O0 : Old Z n0 h0)  :
    MetB l M0 method_2_code 1 (some (.object s0n)) ws (rmk 0 0 0 0) Z h0 #[(.int 1)] (Q_rm1_1 Z wACKNOWLEDGED wDEAD_LETTERED wSENT_BACK wSTORE_WAIT wRETRY  h0 n0) := by
  refine own_body (plainFor_of_name pn_com_example_onceward_onceward_broker_SettledForGoodPinLaw) ?_
  intro p e s m below meth c s₁ hx hby hml hown hnm hret0 hlk0 hZ X0 e0
  have N0 := Fr.nil n0
  have pre0 : ∀ t, Steps p.tables e below (s₁.setTop (mkF m 0 #[(vi 1)] [])) t → Steps p.tables e below (s₁.setTop (entryFrame m #[(.int 1)] 1)) t := fun t k => castTop (ef_rm1_1 m (1 : Int32)) k
  have hS0 := hS
  obtain ⟨S_wACKNOWLEDGED, E_wACKNOWLEDGED, S_wDEAD_LETTERED, E_wDEAD_LETTERED, S_wSENT_BACK, E_wSENT_BACK, S_wSTORE_WAIT, E_wSTORE_WAIT, S_wRETRY, E_wRETRY, F_ordinal_wDEAD_LETTERED, F_ordinal_wACKNOWLEDGED, F_ordinal_wSENT_BACK, F_ordinal_wSTORE_WAIT, F_ordinal_wRETRY⟩ := hS0
  obtain ⟨T1, X1, e1, st1⟩ := getS2 X0 hx hZ hown (host := "") (Or.inl (ow hw 18 rfl)) Via.refl e0 (S_wSENT_BACK.ext O0.2) (g := (mkF m 13 #[(vi 1)] [])) rfl (hb hby d1_13)
  obtain ⟨fs, hr, hrun, hended, hW, hsame⟩ := X1.leave (v := some (.ref wSENT_BACK)) (fun h => by rw [hret0] at h; cases h)
  refine ⟨_, _, pre0 _ ?_, hrun, hended, _, _, rfl, ?_, ⟨_, rfl⟩, hW, hsame.mono (by decide) (by decide)⟩
  · skip
    show Steps p.tables e below (s₁.setTop (mkF m 0 #[(vi 1)] [])) _
    refine XS.iloadN X0.here hx rfl (hb hby d1_0) rfl ?_
    refine XS.ifYes X0.here hx rfl (pc0 := 1) (pc' := 8) rfl (hb hby d1_1) rfl ((if0 _ _).trans (feq (by decide : ¬ ((1 : Int32) = (0 : Int32)))).2) (by decide) (by decide) ?_
    refine XS.iloadN X0.here hx rfl (hb hby d1_8) rfl ?_
    refine XS.iconst X0.here hx rfl (hb hby d1_9) ?_
    refine XS.icmpNo X0.here hx rfl (hb hby d1_10) rfl (teq (by decide : (1 : Int32) = (1 : Int32))).2 ?_
    show Steps p.tables e below (s₁.setTop (mkF m 13 #[(vi 1)] [])) _
    refine st1 _ ?_
    jvm_step X1.here [X1.here.top, hx, (hb hby d1_16), X1.method', hret0, Value.isRef, FieldType.isReference]
    first | (intro acts; rw [hr _ acts rfl rfl rfl]) | rw [hr _ _ rfl rfl rfl]
    exact Steps.refl _
  · show Q_rm1_1 Z wACKNOWLEDGED wDEAD_LETTERED wSENT_BACK wSTORE_WAIT wRETRY  h0 n0 _ T1.heap _
    rw [e1]
    exact ⟨rfl, N0, rfl⟩
theorem ef_rm2_1 (m : MethodId) (x0 : Addr)  : entryFrame m #[(.ref x0)] 1 = mkF m 0 #[(vr x0)] [] := by first | (simp [entryFrame, mkF, argsToLocals, Value.category]; done) | rfl
theorem d2_7 : decode prog_2_method_4_code 7 = .ok (.aload_n 0, 1) := by decide +kernel
theorem d2_8 : decode prog_2_method_4_code 8 = .ok (.getstatic 13, 3) := by decide +kernel
theorem d2_11 : decode prog_2_method_4_code 11 = .ok (.if_acmp .ne 7, 3) := by decide +kernel
theorem d2_18 : decode prog_2_method_4_code 18 = .ok (.iconst 0, 1) := by decide +kernel
def Q_rm2_1 (Z : State) (wACKNOWLEDGED : Addr) (wDEAD_LETTERED : Addr) (wSENT_BACK : Addr) (wSTORE_WAIT : Addr) (wRETRY : Addr)  (h0 : Heap) (n0 : Nat) (v : Option Value) (h : Heap) (L : List Loc) : Prop := v = some (.int 0) ∧ Fr n0 L ∧ h = h0
theorem rm2_1 (l : Launch) (Z : State) (a0 : Array Value) (hw : ∀ d ∈ tables_1, d.before a0 Z = true) (ws : List Jvm.Cond) (wACKNOWLEDGED : Addr) (wDEAD_LETTERED : Addr) (wSENT_BACK : Addr) (wSTORE_WAIT : Addr) (wRETRY : Addr) (hS : SS Z wACKNOWLEDGED wDEAD_LETTERED wSENT_BACK wSTORE_WAIT wRETRY)  (h0 : Heap) (n0 : Nat) (O0 : Old Z n0 h0)  :
    MetB l M1 prog_2_method_4_code 1 (some .boolean) ws (rmk 0 0 0 0) Z h0 #[(.ref wSENT_BACK)] (Q_rm2_1 Z wACKNOWLEDGED wDEAD_LETTERED wSENT_BACK wSTORE_WAIT wRETRY  h0 n0) := by
  refine own_body (plainFor_of_name pn_com_example_onceward_onceward_broker_Settled) ?_
  intro p e s m below meth c s₁ hx hby hml hown hnm hret0 hlk0 hZ X0 e0
  have N0 := Fr.nil n0
  have pre0 : ∀ t, Steps p.tables e below (s₁.setTop (mkF m 0 #[(vr wSENT_BACK)] [])) t → Steps p.tables e below (s₁.setTop (entryFrame m #[(.ref wSENT_BACK)] 1)) t := fun t k => castTop (ef_rm2_1 m wSENT_BACK) k
  have hS0 := hS
  obtain ⟨S_wACKNOWLEDGED, E_wACKNOWLEDGED, S_wDEAD_LETTERED, E_wDEAD_LETTERED, S_wSENT_BACK, E_wSENT_BACK, S_wSTORE_WAIT, E_wSTORE_WAIT, S_wRETRY, E_wRETRY, F_ordinal_wDEAD_LETTERED, F_ordinal_wACKNOWLEDGED, F_ordinal_wSENT_BACK, F_ordinal_wSTORE_WAIT, F_ordinal_wRETRY⟩ := hS0
  obtain ⟨T1, X1, e1, st1⟩ := getS2 X0 hx hZ hown (host := "") (Or.inl (ow hw 14 rfl)) Via.refl e0 (S_wACKNOWLEDGED.ext O0.2) (g := (mkF m 1 #[(vr wSENT_BACK)] [(.ref wSENT_BACK)])) rfl (hb hby d2_1)
  have ne2 : wSENT_BACK ≠ wACKNOWLEDGED := Fld.ne F_ordinal_wSENT_BACK F_ordinal_wACKNOWLEDGED (by decide)
  obtain ⟨T3, X3, e3, st3⟩ := getS2 X1 hx hZ hown (host := "") (Or.inl (ow hw 17 rfl)) Via.refl e1 (S_wDEAD_LETTERED.ext O0.2) (g := (mkF m 8 #[(vr wSENT_BACK)] [(.ref wSENT_BACK)])) rfl (hb hby d2_8)
  have ne4 : wSENT_BACK ≠ wDEAD_LETTERED := Fld.ne F_ordinal_wSENT_BACK F_ordinal_wDEAD_LETTERED (by decide)
  obtain ⟨fs, hr, hrun, hended, hW, hsame⟩ := X3.leave (v := some (.int 0)) (fun h => by rw [hret0] at h; cases h)
  refine ⟨_, _, pre0 _ ?_, hrun, hended, _, _, rfl, ?_, ⟨_, rfl⟩, hW, hsame.mono (by decide) (by decide)⟩
  · skip
    show Steps p.tables e below (s₁.setTop (mkF m 0 #[(vr wSENT_BACK)] [])) _
    refine XS.aloadN X0.here hx rfl (hb hby d2_0) rfl rfl ?_
    refine st1 _ ?_
    refine Jvm.RoadKit.acmp (g := (mkF m 4 #[(vr wSENT_BACK)] [(.ref wACKNOWLEDGED), (.ref wSENT_BACK)])) X1 hx rfl rfl rfl (pc0 := 4) (pc' := 7) (same := false) rfl (hb hby d2_4) rfl (decide_eq_false fun q => ne2 (Value.ref.inj q)) (by decide) (by decide) ?_
    refine XS.aloadN X1.here hx rfl (hb hby d2_7) rfl rfl ?_
    refine st3 _ ?_
    show Steps p.tables e below (T3.setTop (mkF m 11 #[(vr wSENT_BACK)] [(.ref wDEAD_LETTERED), (.ref wSENT_BACK)])) _
    refine Jvm.RoadKit.acmp (g := (mkF m 11 #[(vr wSENT_BACK)] [(.ref wDEAD_LETTERED), (.ref wSENT_BACK)])) X3 hx rfl rfl rfl (pc0 := 11) (pc' := 18) (same := false) rfl (hb hby d2_11) rfl (decide_eq_false fun q => ne4 (Value.ref.inj q)) (by decide) (by decide) ?_
    refine XS.iconst X3.here hx rfl (hb hby d2_18) ?_
    exact retN X3 hx (t := .boolean) hret0 (by simp) (hb hby d2_19) hr
  · show Q_rm2_1 Z wACKNOWLEDGED wDEAD_LETTERED wSENT_BACK wSTORE_WAIT wRETRY  h0 n0 _ T3.heap _
    rw [e3]
    exact ⟨rfl, N0, rfl⟩
theorem ef_rm1_2 (m : MethodId) (x0 : Int32)  : entryFrame m #[(.int x0)] 1 = mkF m 0 #[(vi x0)] [] := by first | (simp [entryFrame, mkF, argsToLocals, Value.category]; done) | rfl
theorem d1_17 : decode method_2_code 17 = .ok (.iload_n 0, 1) := by decide +kernel
theorem d1_18 : decode method_2_code 18 = .ok (.iconst 2, 1) := by decide +kernel
theorem d1_19 : decode method_2_code 19 = .ok (.if_icmp .ne 7, 3) := by decide +kernel
theorem d1_22 : decode method_2_code 22 = .ok (.getstatic 16, 3) := by decide +kernel
theorem d1_25 : decode method_2_code 25 = .ok (.areturn, 1) := by decide +kernel
def Q_rm1_2 (Z : State) (wACKNOWLEDGED : Addr) (wDEAD_LETTERED : Addr) (wSENT_BACK : Addr) (wSTORE_WAIT : Addr) (wRETRY : Addr)  (h0 : Heap) (n0 : Nat) (v : Option Value) (h : Heap) (L : List Loc) : Prop := v = some (.ref wRETRY) ∧ Fr n0 L ∧ h = h0
theorem rm1_2 (l : Launch) (Z : State) (a0 : Array Value) (hw : ∀ d ∈ tables_1, d.before a0 Z = true) (ws : List Jvm.Cond) (wACKNOWLEDGED : Addr) (wDEAD_LETTERED : Addr) (wSENT_BACK : Addr) (wSTORE_WAIT : Addr) (wRETRY : Addr) (hS : SS Z wACKNOWLEDGED wDEAD_LETTERED wSENT_BACK wSTORE_WAIT wRETRY)  (h0 : Heap) (n0 : Nat) (O0 : Old Z n0 h0)  :
    MetB l M0 method_2_code 1 (some (.object s0n)) ws (rmk 0 0 0 0) Z h0 #[(.int 2)] (Q_rm1_2 Z wACKNOWLEDGED wDEAD_LETTERED wSENT_BACK wSTORE_WAIT wRETRY  h0 n0) := by
  refine own_body (plainFor_of_name pn_com_example_onceward_onceward_broker_SettledForGoodPinLaw) ?_
  intro p e s m below meth c s₁ hx hby hml hown hnm hret0 hlk0 hZ X0 e0
  have N0 := Fr.nil n0
  have pre0 : ∀ t, Steps p.tables e below (s₁.setTop (mkF m 0 #[(vi 2)] [])) t → Steps p.tables e below (s₁.setTop (entryFrame m #[(.int 2)] 1)) t := fun t k => castTop (ef_rm1_2 m (2 : Int32)) k
  have hS0 := hS
  obtain ⟨S_wACKNOWLEDGED, E_wACKNOWLEDGED, S_wDEAD_LETTERED, E_wDEAD_LETTERED, S_wSENT_BACK, E_wSENT_BACK, S_wSTORE_WAIT, E_wSTORE_WAIT, S_wRETRY, E_wRETRY, F_ordinal_wDEAD_LETTERED, F_ordinal_wACKNOWLEDGED, F_ordinal_wSENT_BACK, F_ordinal_wSTORE_WAIT, F_ordinal_wRETRY⟩ := hS0
  obtain ⟨T1, X1, e1, st1⟩ := getS2 X0 hx hZ hown (host := "") (Or.inl (ow hw 22 rfl)) Via.refl e0 (S_wRETRY.ext O0.2) (g := (mkF m 22 #[(vi 2)] [])) rfl (hb hby d1_22)
  obtain ⟨fs, hr, hrun, hended, hW, hsame⟩ := X1.leave (v := some (.ref wRETRY)) (fun h => by rw [hret0] at h; cases h)
  refine ⟨_, _, pre0 _ ?_, hrun, hended, _, _, rfl, ?_, ⟨_, rfl⟩, hW, hsame.mono (by decide) (by decide)⟩
  · skip
    show Steps p.tables e below (s₁.setTop (mkF m 0 #[(vi 2)] [])) _
    refine XS.iloadN X0.here hx rfl (hb hby d1_0) rfl ?_
    refine XS.ifYes X0.here hx rfl (pc0 := 1) (pc' := 8) rfl (hb hby d1_1) rfl ((if0 _ _).trans (feq (by decide : ¬ ((2 : Int32) = (0 : Int32)))).2) (by decide) (by decide) ?_
    refine XS.iloadN X0.here hx rfl (hb hby d1_8) rfl ?_
    refine XS.iconst X0.here hx rfl (hb hby d1_9) ?_
    refine XS.icmpYes X0.here hx rfl (pc0 := 10) (pc' := 17) rfl (hb hby d1_10) rfl (feq (by decide : ¬ ((2 : Int32) = (1 : Int32)))).2 (by decide) (by decide) ?_
    show Steps p.tables e below (s₁.setTop (mkF m 17 #[(vi 2)] [])) _
    refine XS.iloadN X0.here hx rfl (hb hby d1_17) rfl ?_
    refine XS.iconst X0.here hx rfl (hb hby d1_18) ?_
    refine XS.icmpNo X0.here hx rfl (hb hby d1_19) rfl (teq (by decide : (2 : Int32) = (2 : Int32))).2 ?_
    refine st1 _ ?_
    jvm_step X1.here [X1.here.top, hx, (hb hby d1_25), X1.method', hret0, Value.isRef, FieldType.isReference]
    first | (intro acts; rw [hr _ acts rfl rfl rfl]) | rw [hr _ _ rfl rfl rfl]
    exact Steps.refl _
  · show Q_rm1_2 Z wACKNOWLEDGED wDEAD_LETTERED wSENT_BACK wSTORE_WAIT wRETRY  h0 n0 _ T1.heap _
    rw [e1]
    exact ⟨rfl, N0, rfl⟩
theorem ef_rm2_2 (m : MethodId) (x0 : Addr)  : entryFrame m #[(.ref x0)] 1 = mkF m 0 #[(vr x0)] [] := by first | (simp [entryFrame, mkF, argsToLocals, Value.category]; done) | rfl
def Q_rm2_2 (Z : State) (wACKNOWLEDGED : Addr) (wDEAD_LETTERED : Addr) (wSENT_BACK : Addr) (wSTORE_WAIT : Addr) (wRETRY : Addr)  (h0 : Heap) (n0 : Nat) (v : Option Value) (h : Heap) (L : List Loc) : Prop := v = some (.int 0) ∧ Fr n0 L ∧ h = h0
theorem rm2_2 (l : Launch) (Z : State) (a0 : Array Value) (hw : ∀ d ∈ tables_1, d.before a0 Z = true) (ws : List Jvm.Cond) (wACKNOWLEDGED : Addr) (wDEAD_LETTERED : Addr) (wSENT_BACK : Addr) (wSTORE_WAIT : Addr) (wRETRY : Addr) (hS : SS Z wACKNOWLEDGED wDEAD_LETTERED wSENT_BACK wSTORE_WAIT wRETRY)  (h0 : Heap) (n0 : Nat) (O0 : Old Z n0 h0)  :
    MetB l M1 prog_2_method_4_code 1 (some .boolean) ws (rmk 0 0 0 0) Z h0 #[(.ref wRETRY)] (Q_rm2_2 Z wACKNOWLEDGED wDEAD_LETTERED wSENT_BACK wSTORE_WAIT wRETRY  h0 n0) := by
  refine own_body (plainFor_of_name pn_com_example_onceward_onceward_broker_Settled) ?_
  intro p e s m below meth c s₁ hx hby hml hown hnm hret0 hlk0 hZ X0 e0
  have N0 := Fr.nil n0
  have pre0 : ∀ t, Steps p.tables e below (s₁.setTop (mkF m 0 #[(vr wRETRY)] [])) t → Steps p.tables e below (s₁.setTop (entryFrame m #[(.ref wRETRY)] 1)) t := fun t k => castTop (ef_rm2_2 m wRETRY) k
  have hS0 := hS
  obtain ⟨S_wACKNOWLEDGED, E_wACKNOWLEDGED, S_wDEAD_LETTERED, E_wDEAD_LETTERED, S_wSENT_BACK, E_wSENT_BACK, S_wSTORE_WAIT, E_wSTORE_WAIT, S_wRETRY, E_wRETRY, F_ordinal_wDEAD_LETTERED, F_ordinal_wACKNOWLEDGED, F_ordinal_wSENT_BACK, F_ordinal_wSTORE_WAIT, F_ordinal_wRETRY⟩ := hS0
  obtain ⟨T1, X1, e1, st1⟩ := getS2 X0 hx hZ hown (host := "") (Or.inl (ow hw 14 rfl)) Via.refl e0 (S_wACKNOWLEDGED.ext O0.2) (g := (mkF m 1 #[(vr wRETRY)] [(.ref wRETRY)])) rfl (hb hby d2_1)
  have ne2 : wRETRY ≠ wACKNOWLEDGED := Fld.ne F_ordinal_wRETRY F_ordinal_wACKNOWLEDGED (by decide)
  obtain ⟨T3, X3, e3, st3⟩ := getS2 X1 hx hZ hown (host := "") (Or.inl (ow hw 17 rfl)) Via.refl e1 (S_wDEAD_LETTERED.ext O0.2) (g := (mkF m 8 #[(vr wRETRY)] [(.ref wRETRY)])) rfl (hb hby d2_8)
  have ne4 : wRETRY ≠ wDEAD_LETTERED := Fld.ne F_ordinal_wRETRY F_ordinal_wDEAD_LETTERED (by decide)
  obtain ⟨fs, hr, hrun, hended, hW, hsame⟩ := X3.leave (v := some (.int 0)) (fun h => by rw [hret0] at h; cases h)
  refine ⟨_, _, pre0 _ ?_, hrun, hended, _, _, rfl, ?_, ⟨_, rfl⟩, hW, hsame.mono (by decide) (by decide)⟩
  · skip
    show Steps p.tables e below (s₁.setTop (mkF m 0 #[(vr wRETRY)] [])) _
    refine XS.aloadN X0.here hx rfl (hb hby d2_0) rfl rfl ?_
    refine st1 _ ?_
    refine Jvm.RoadKit.acmp (g := (mkF m 4 #[(vr wRETRY)] [(.ref wACKNOWLEDGED), (.ref wRETRY)])) X1 hx rfl rfl rfl (pc0 := 4) (pc' := 7) (same := false) rfl (hb hby d2_4) rfl (decide_eq_false fun q => ne2 (Value.ref.inj q)) (by decide) (by decide) ?_
    refine XS.aloadN X1.here hx rfl (hb hby d2_7) rfl rfl ?_
    refine st3 _ ?_
    show Steps p.tables e below (T3.setTop (mkF m 11 #[(vr wRETRY)] [(.ref wDEAD_LETTERED), (.ref wRETRY)])) _
    refine Jvm.RoadKit.acmp (g := (mkF m 11 #[(vr wRETRY)] [(.ref wDEAD_LETTERED), (.ref wRETRY)])) X3 hx rfl rfl rfl (pc0 := 11) (pc' := 18) (same := false) rfl (hb hby d2_11) rfl (decide_eq_false fun q => ne4 (Value.ref.inj q)) (by decide) (by decide) ?_
    refine XS.iconst X3.here hx rfl (hb hby d2_18) ?_
    exact retN X3 hx (t := .boolean) hret0 (by simp) (hb hby d2_19) hr
  · show Q_rm2_2 Z wACKNOWLEDGED wDEAD_LETTERED wSENT_BACK wSTORE_WAIT wRETRY  h0 n0 _ T3.heap _
    rw [e3]
    exact ⟨rfl, N0, rfl⟩
theorem ef_rm1_3 (m : MethodId) (x0 : Int32)  : entryFrame m #[(.int x0)] 1 = mkF m 0 #[(vi x0)] [] := by first | (simp [entryFrame, mkF, argsToLocals, Value.category]; done) | rfl
theorem d1_26 : decode method_2_code 26 = .ok (.iload_n 0, 1) := by decide +kernel
theorem d1_27 : decode method_2_code 27 = .ok (.iconst 3, 1) := by decide +kernel
theorem d1_28 : decode method_2_code 28 = .ok (.if_icmp .ne 7, 3) := by decide +kernel
theorem d1_31 : decode method_2_code 31 = .ok (.getstatic 19, 3) := by decide +kernel
theorem d1_34 : decode method_2_code 34 = .ok (.areturn, 1) := by decide +kernel
def Q_rm1_3 (Z : State) (wACKNOWLEDGED : Addr) (wDEAD_LETTERED : Addr) (wSENT_BACK : Addr) (wSTORE_WAIT : Addr) (wRETRY : Addr)  (h0 : Heap) (n0 : Nat) (v : Option Value) (h : Heap) (L : List Loc) : Prop := v = some (.ref wDEAD_LETTERED) ∧ Fr n0 L ∧ h = h0
theorem rm1_3 (l : Launch) (Z : State) (a0 : Array Value) (hw : ∀ d ∈ tables_1, d.before a0 Z = true) (ws : List Jvm.Cond) (wACKNOWLEDGED : Addr) (wDEAD_LETTERED : Addr) (wSENT_BACK : Addr) (wSTORE_WAIT : Addr) (wRETRY : Addr) (hS : SS Z wACKNOWLEDGED wDEAD_LETTERED wSENT_BACK wSTORE_WAIT wRETRY)  (h0 : Heap) (n0 : Nat) (O0 : Old Z n0 h0)  :
    MetB l M0 method_2_code 1 (some (.object s0n)) ws (rmk 0 0 0 0) Z h0 #[(.int 3)] (Q_rm1_3 Z wACKNOWLEDGED wDEAD_LETTERED wSENT_BACK wSTORE_WAIT wRETRY  h0 n0) := by
  refine own_body (plainFor_of_name pn_com_example_onceward_onceward_broker_SettledForGoodPinLaw) ?_
  intro p e s m below meth c s₁ hx hby hml hown hnm hret0 hlk0 hZ X0 e0
  have N0 := Fr.nil n0
  have pre0 : ∀ t, Steps p.tables e below (s₁.setTop (mkF m 0 #[(vi 3)] [])) t → Steps p.tables e below (s₁.setTop (entryFrame m #[(.int 3)] 1)) t := fun t k => castTop (ef_rm1_3 m (3 : Int32)) k
  have hS0 := hS
  obtain ⟨S_wACKNOWLEDGED, E_wACKNOWLEDGED, S_wDEAD_LETTERED, E_wDEAD_LETTERED, S_wSENT_BACK, E_wSENT_BACK, S_wSTORE_WAIT, E_wSTORE_WAIT, S_wRETRY, E_wRETRY, F_ordinal_wDEAD_LETTERED, F_ordinal_wACKNOWLEDGED, F_ordinal_wSENT_BACK, F_ordinal_wSTORE_WAIT, F_ordinal_wRETRY⟩ := hS0
  obtain ⟨T1, X1, e1, st1⟩ := getS2 X0 hx hZ hown (host := "") (Or.inl (ow hw 15 rfl)) Via.refl e0 (S_wDEAD_LETTERED.ext O0.2) (g := (mkF m 31 #[(vi 3)] [])) rfl (hb hby d1_31)
  obtain ⟨fs, hr, hrun, hended, hW, hsame⟩ := X1.leave (v := some (.ref wDEAD_LETTERED)) (fun h => by rw [hret0] at h; cases h)
  refine ⟨_, _, pre0 _ ?_, hrun, hended, _, _, rfl, ?_, ⟨_, rfl⟩, hW, hsame.mono (by decide) (by decide)⟩
  · skip
    show Steps p.tables e below (s₁.setTop (mkF m 0 #[(vi 3)] [])) _
    refine XS.iloadN X0.here hx rfl (hb hby d1_0) rfl ?_
    refine XS.ifYes X0.here hx rfl (pc0 := 1) (pc' := 8) rfl (hb hby d1_1) rfl ((if0 _ _).trans (feq (by decide : ¬ ((3 : Int32) = (0 : Int32)))).2) (by decide) (by decide) ?_
    refine XS.iloadN X0.here hx rfl (hb hby d1_8) rfl ?_
    refine XS.iconst X0.here hx rfl (hb hby d1_9) ?_
    refine XS.icmpYes X0.here hx rfl (pc0 := 10) (pc' := 17) rfl (hb hby d1_10) rfl (feq (by decide : ¬ ((3 : Int32) = (1 : Int32)))).2 (by decide) (by decide) ?_
    show Steps p.tables e below (s₁.setTop (mkF m 17 #[(vi 3)] [])) _
    refine XS.iloadN X0.here hx rfl (hb hby d1_17) rfl ?_
    refine XS.iconst X0.here hx rfl (hb hby d1_18) ?_
    refine XS.icmpYes X0.here hx rfl (pc0 := 19) (pc' := 26) rfl (hb hby d1_19) rfl (feq (by decide : ¬ ((3 : Int32) = (2 : Int32)))).2 (by decide) (by decide) ?_
    refine XS.iloadN X0.here hx rfl (hb hby d1_26) rfl ?_
    refine XS.iconst X0.here hx rfl (hb hby d1_27) ?_
    show Steps p.tables e below (s₁.setTop (mkF m 28 #[(vi 3)] [(.int 3), (.int 3)])) _
    refine XS.icmpNo X0.here hx rfl (hb hby d1_28) rfl (teq (by decide : (3 : Int32) = (3 : Int32))).2 ?_
    refine st1 _ ?_
    jvm_step X1.here [X1.here.top, hx, (hb hby d1_34), X1.method', hret0, Value.isRef, FieldType.isReference]
    first | (intro acts; rw [hr _ acts rfl rfl rfl]) | rw [hr _ _ rfl rfl rfl]
    exact Steps.refl _
  · show Q_rm1_3 Z wACKNOWLEDGED wDEAD_LETTERED wSENT_BACK wSTORE_WAIT wRETRY  h0 n0 _ T1.heap _
    rw [e1]
    exact ⟨rfl, N0, rfl⟩
theorem ef_rm2_3 (m : MethodId) (x0 : Addr)  : entryFrame m #[(.ref x0)] 1 = mkF m 0 #[(vr x0)] [] := by first | (simp [entryFrame, mkF, argsToLocals, Value.category]; done) | rfl
def Q_rm2_3 (Z : State) (wACKNOWLEDGED : Addr) (wDEAD_LETTERED : Addr) (wSENT_BACK : Addr) (wSTORE_WAIT : Addr) (wRETRY : Addr)  (h0 : Heap) (n0 : Nat) (v : Option Value) (h : Heap) (L : List Loc) : Prop := v = some (.int 1) ∧ Fr n0 L ∧ h = h0
theorem rm2_3 (l : Launch) (Z : State) (a0 : Array Value) (hw : ∀ d ∈ tables_1, d.before a0 Z = true) (ws : List Jvm.Cond) (wACKNOWLEDGED : Addr) (wDEAD_LETTERED : Addr) (wSENT_BACK : Addr) (wSTORE_WAIT : Addr) (wRETRY : Addr) (hS : SS Z wACKNOWLEDGED wDEAD_LETTERED wSENT_BACK wSTORE_WAIT wRETRY)  (h0 : Heap) (n0 : Nat) (O0 : Old Z n0 h0)  :
    MetB l M1 prog_2_method_4_code 1 (some .boolean) ws (rmk 0 0 0 0) Z h0 #[(.ref wDEAD_LETTERED)] (Q_rm2_3 Z wACKNOWLEDGED wDEAD_LETTERED wSENT_BACK wSTORE_WAIT wRETRY  h0 n0) := by
  refine own_body (plainFor_of_name pn_com_example_onceward_onceward_broker_Settled) ?_
  intro p e s m below meth c s₁ hx hby hml hown hnm hret0 hlk0 hZ X0 e0
  have N0 := Fr.nil n0
  have pre0 : ∀ t, Steps p.tables e below (s₁.setTop (mkF m 0 #[(vr wDEAD_LETTERED)] [])) t → Steps p.tables e below (s₁.setTop (entryFrame m #[(.ref wDEAD_LETTERED)] 1)) t := fun t k => castTop (ef_rm2_3 m wDEAD_LETTERED) k
  have hS0 := hS
  obtain ⟨S_wACKNOWLEDGED, E_wACKNOWLEDGED, S_wDEAD_LETTERED, E_wDEAD_LETTERED, S_wSENT_BACK, E_wSENT_BACK, S_wSTORE_WAIT, E_wSTORE_WAIT, S_wRETRY, E_wRETRY, F_ordinal_wDEAD_LETTERED, F_ordinal_wACKNOWLEDGED, F_ordinal_wSENT_BACK, F_ordinal_wSTORE_WAIT, F_ordinal_wRETRY⟩ := hS0
  obtain ⟨T1, X1, e1, st1⟩ := getS2 X0 hx hZ hown (host := "") (Or.inl (ow hw 14 rfl)) Via.refl e0 (S_wACKNOWLEDGED.ext O0.2) (g := (mkF m 1 #[(vr wDEAD_LETTERED)] [(.ref wDEAD_LETTERED)])) rfl (hb hby d2_1)
  have ne2 : wDEAD_LETTERED ≠ wACKNOWLEDGED := Fld.ne F_ordinal_wDEAD_LETTERED F_ordinal_wACKNOWLEDGED (by decide)
  obtain ⟨T3, X3, e3, st3⟩ := getS2 X1 hx hZ hown (host := "") (Or.inl (ow hw 17 rfl)) Via.refl e1 (S_wDEAD_LETTERED.ext O0.2) (g := (mkF m 8 #[(vr wDEAD_LETTERED)] [(.ref wDEAD_LETTERED)])) rfl (hb hby d2_8)
  obtain ⟨fs, hr, hrun, hended, hW, hsame⟩ := X3.leave (v := some (.int 1)) (fun h => by rw [hret0] at h; cases h)
  refine ⟨_, _, pre0 _ ?_, hrun, hended, _, _, rfl, ?_, ⟨_, rfl⟩, hW, hsame.mono (by decide) (by decide)⟩
  · skip
    show Steps p.tables e below (s₁.setTop (mkF m 0 #[(vr wDEAD_LETTERED)] [])) _
    refine XS.aloadN X0.here hx rfl (hb hby d2_0) rfl rfl ?_
    refine st1 _ ?_
    refine Jvm.RoadKit.acmp (g := (mkF m 4 #[(vr wDEAD_LETTERED)] [(.ref wACKNOWLEDGED), (.ref wDEAD_LETTERED)])) X1 hx rfl rfl rfl (pc0 := 4) (pc' := 7) (same := false) rfl (hb hby d2_4) rfl (decide_eq_false fun q => ne2 (Value.ref.inj q)) (by decide) (by decide) ?_
    refine XS.aloadN X1.here hx rfl (hb hby d2_7) rfl rfl ?_
    refine st3 _ ?_
    show Steps p.tables e below (T3.setTop (mkF m 11 #[(vr wDEAD_LETTERED)] [(.ref wDEAD_LETTERED), (.ref wDEAD_LETTERED)])) _
    refine Jvm.RoadKit.acmp (g := (mkF m 11 #[(vr wDEAD_LETTERED)] [(.ref wDEAD_LETTERED), (.ref wDEAD_LETTERED)])) X3 hx rfl rfl rfl (pc0 := 11) (pc' := 14) (same := true) rfl (hb hby d2_11) rfl (decide_eq_true rfl) (by decide) (by decide) ?_
    refine XS.iconst X3.here hx rfl (hb hby d2_14) ?_
    refine XS.goto X3.here hx rfl (pc0 := 15) (pc' := 19) rfl (hb hby d2_15) (by decide) (by decide) ?_
    exact retN X3 hx (t := .boolean) hret0 (by simp) (hb hby d2_19) hr
  · show Q_rm2_3 Z wACKNOWLEDGED wDEAD_LETTERED wSENT_BACK wSTORE_WAIT wRETRY  h0 n0 _ T3.heap _
    rw [e3]
    exact ⟨rfl, N0, rfl⟩
theorem ef_rm1_4 (m : MethodId) (x0 : Int32)  : entryFrame m #[(.int x0)] 1 = mkF m 0 #[(vi x0)] [] := by first | (simp [entryFrame, mkF, argsToLocals, Value.category]; done) | rfl
theorem d1_35 : decode method_2_code 35 = .ok (.getstatic 22, 3) := by decide +kernel
theorem d1_38 : decode method_2_code 38 = .ok (.areturn, 1) := by decide +kernel
def Q_rm1_4 (Z : State) (wACKNOWLEDGED : Addr) (wDEAD_LETTERED : Addr) (wSENT_BACK : Addr) (wSTORE_WAIT : Addr) (wRETRY : Addr)  (h0 : Heap) (n0 : Nat) (v : Option Value) (h : Heap) (L : List Loc) : Prop := v = some (.ref wSTORE_WAIT) ∧ Fr n0 L ∧ h = h0
theorem rm1_4 (l : Launch) (Z : State) (a0 : Array Value) (hw : ∀ d ∈ tables_1, d.before a0 Z = true) (ws : List Jvm.Cond) (wACKNOWLEDGED : Addr) (wDEAD_LETTERED : Addr) (wSENT_BACK : Addr) (wSTORE_WAIT : Addr) (wRETRY : Addr) (hS : SS Z wACKNOWLEDGED wDEAD_LETTERED wSENT_BACK wSTORE_WAIT wRETRY)  (h0 : Heap) (n0 : Nat) (O0 : Old Z n0 h0)  :
    MetB l M0 method_2_code 1 (some (.object s0n)) ws (rmk 0 0 0 0) Z h0 #[(.int 4)] (Q_rm1_4 Z wACKNOWLEDGED wDEAD_LETTERED wSENT_BACK wSTORE_WAIT wRETRY  h0 n0) := by
  refine own_body (plainFor_of_name pn_com_example_onceward_onceward_broker_SettledForGoodPinLaw) ?_
  intro p e s m below meth c s₁ hx hby hml hown hnm hret0 hlk0 hZ X0 e0
  have N0 := Fr.nil n0
  have pre0 : ∀ t, Steps p.tables e below (s₁.setTop (mkF m 0 #[(vi 4)] [])) t → Steps p.tables e below (s₁.setTop (entryFrame m #[(.int 4)] 1)) t := fun t k => castTop (ef_rm1_4 m (4 : Int32)) k
  have hS0 := hS
  obtain ⟨S_wACKNOWLEDGED, E_wACKNOWLEDGED, S_wDEAD_LETTERED, E_wDEAD_LETTERED, S_wSENT_BACK, E_wSENT_BACK, S_wSTORE_WAIT, E_wSTORE_WAIT, S_wRETRY, E_wRETRY, F_ordinal_wDEAD_LETTERED, F_ordinal_wACKNOWLEDGED, F_ordinal_wSENT_BACK, F_ordinal_wSTORE_WAIT, F_ordinal_wRETRY⟩ := hS0
  obtain ⟨T1, X1, e1, st1⟩ := getS2 X0 hx hZ hown (host := "") (Or.inl (ow hw 20 rfl)) Via.refl e0 (S_wSTORE_WAIT.ext O0.2) (g := (mkF m 35 #[(vi 4)] [])) rfl (hb hby d1_35)
  obtain ⟨fs, hr, hrun, hended, hW, hsame⟩ := X1.leave (v := some (.ref wSTORE_WAIT)) (fun h => by rw [hret0] at h; cases h)
  refine ⟨_, _, pre0 _ ?_, hrun, hended, _, _, rfl, ?_, ⟨_, rfl⟩, hW, hsame.mono (by decide) (by decide)⟩
  · skip
    show Steps p.tables e below (s₁.setTop (mkF m 0 #[(vi 4)] [])) _
    refine XS.iloadN X0.here hx rfl (hb hby d1_0) rfl ?_
    refine XS.ifYes X0.here hx rfl (pc0 := 1) (pc' := 8) rfl (hb hby d1_1) rfl ((if0 _ _).trans (feq (by decide : ¬ ((4 : Int32) = (0 : Int32)))).2) (by decide) (by decide) ?_
    refine XS.iloadN X0.here hx rfl (hb hby d1_8) rfl ?_
    refine XS.iconst X0.here hx rfl (hb hby d1_9) ?_
    refine XS.icmpYes X0.here hx rfl (pc0 := 10) (pc' := 17) rfl (hb hby d1_10) rfl (feq (by decide : ¬ ((4 : Int32) = (1 : Int32)))).2 (by decide) (by decide) ?_
    show Steps p.tables e below (s₁.setTop (mkF m 17 #[(vi 4)] [])) _
    refine XS.iloadN X0.here hx rfl (hb hby d1_17) rfl ?_
    refine XS.iconst X0.here hx rfl (hb hby d1_18) ?_
    refine XS.icmpYes X0.here hx rfl (pc0 := 19) (pc' := 26) rfl (hb hby d1_19) rfl (feq (by decide : ¬ ((4 : Int32) = (2 : Int32)))).2 (by decide) (by decide) ?_
    refine XS.iloadN X0.here hx rfl (hb hby d1_26) rfl ?_
    refine XS.iconst X0.here hx rfl (hb hby d1_27) ?_
    show Steps p.tables e below (s₁.setTop (mkF m 28 #[(vi 4)] [(.int 3), (.int 4)])) _
    refine XS.icmpYes X0.here hx rfl (pc0 := 28) (pc' := 35) rfl (hb hby d1_28) rfl (feq (by decide : ¬ ((4 : Int32) = (3 : Int32)))).2 (by decide) (by decide) ?_
    refine st1 _ ?_
    jvm_step X1.here [X1.here.top, hx, (hb hby d1_38), X1.method', hret0, Value.isRef, FieldType.isReference]
    first | (intro acts; rw [hr _ acts rfl rfl rfl]) | rw [hr _ _ rfl rfl rfl]
    exact Steps.refl _
  · show Q_rm1_4 Z wACKNOWLEDGED wDEAD_LETTERED wSENT_BACK wSTORE_WAIT wRETRY  h0 n0 _ T1.heap _
    rw [e1]
    exact ⟨rfl, N0, rfl⟩
theorem ef_rm2_4 (m : MethodId) (x0 : Addr)  : entryFrame m #[(.ref x0)] 1 = mkF m 0 #[(vr x0)] [] := by first | (simp [entryFrame, mkF, argsToLocals, Value.category]; done) | rfl
def Q_rm2_4 (Z : State) (wACKNOWLEDGED : Addr) (wDEAD_LETTERED : Addr) (wSENT_BACK : Addr) (wSTORE_WAIT : Addr) (wRETRY : Addr)  (h0 : Heap) (n0 : Nat) (v : Option Value) (h : Heap) (L : List Loc) : Prop := v = some (.int 0) ∧ Fr n0 L ∧ h = h0
theorem rm2_4 (l : Launch) (Z : State) (a0 : Array Value) (hw : ∀ d ∈ tables_1, d.before a0 Z = true) (ws : List Jvm.Cond) (wACKNOWLEDGED : Addr) (wDEAD_LETTERED : Addr) (wSENT_BACK : Addr) (wSTORE_WAIT : Addr) (wRETRY : Addr) (hS : SS Z wACKNOWLEDGED wDEAD_LETTERED wSENT_BACK wSTORE_WAIT wRETRY)  (h0 : Heap) (n0 : Nat) (O0 : Old Z n0 h0)  :
    MetB l M1 prog_2_method_4_code 1 (some .boolean) ws (rmk 0 0 0 0) Z h0 #[(.ref wSTORE_WAIT)] (Q_rm2_4 Z wACKNOWLEDGED wDEAD_LETTERED wSENT_BACK wSTORE_WAIT wRETRY  h0 n0) := by
  refine own_body (plainFor_of_name pn_com_example_onceward_onceward_broker_Settled) ?_
  intro p e s m below meth c s₁ hx hby hml hown hnm hret0 hlk0 hZ X0 e0
  have N0 := Fr.nil n0
  have pre0 : ∀ t, Steps p.tables e below (s₁.setTop (mkF m 0 #[(vr wSTORE_WAIT)] [])) t → Steps p.tables e below (s₁.setTop (entryFrame m #[(.ref wSTORE_WAIT)] 1)) t := fun t k => castTop (ef_rm2_4 m wSTORE_WAIT) k
  have hS0 := hS
  obtain ⟨S_wACKNOWLEDGED, E_wACKNOWLEDGED, S_wDEAD_LETTERED, E_wDEAD_LETTERED, S_wSENT_BACK, E_wSENT_BACK, S_wSTORE_WAIT, E_wSTORE_WAIT, S_wRETRY, E_wRETRY, F_ordinal_wDEAD_LETTERED, F_ordinal_wACKNOWLEDGED, F_ordinal_wSENT_BACK, F_ordinal_wSTORE_WAIT, F_ordinal_wRETRY⟩ := hS0
  obtain ⟨T1, X1, e1, st1⟩ := getS2 X0 hx hZ hown (host := "") (Or.inl (ow hw 14 rfl)) Via.refl e0 (S_wACKNOWLEDGED.ext O0.2) (g := (mkF m 1 #[(vr wSTORE_WAIT)] [(.ref wSTORE_WAIT)])) rfl (hb hby d2_1)
  have ne2 : wSTORE_WAIT ≠ wACKNOWLEDGED := Fld.ne F_ordinal_wSTORE_WAIT F_ordinal_wACKNOWLEDGED (by decide)
  obtain ⟨T3, X3, e3, st3⟩ := getS2 X1 hx hZ hown (host := "") (Or.inl (ow hw 17 rfl)) Via.refl e1 (S_wDEAD_LETTERED.ext O0.2) (g := (mkF m 8 #[(vr wSTORE_WAIT)] [(.ref wSTORE_WAIT)])) rfl (hb hby d2_8)
  have ne4 : wSTORE_WAIT ≠ wDEAD_LETTERED := Fld.ne F_ordinal_wSTORE_WAIT F_ordinal_wDEAD_LETTERED (by decide)
  obtain ⟨fs, hr, hrun, hended, hW, hsame⟩ := X3.leave (v := some (.int 0)) (fun h => by rw [hret0] at h; cases h)
  refine ⟨_, _, pre0 _ ?_, hrun, hended, _, _, rfl, ?_, ⟨_, rfl⟩, hW, hsame.mono (by decide) (by decide)⟩
  · skip
    show Steps p.tables e below (s₁.setTop (mkF m 0 #[(vr wSTORE_WAIT)] [])) _
    refine XS.aloadN X0.here hx rfl (hb hby d2_0) rfl rfl ?_
    refine st1 _ ?_
    refine Jvm.RoadKit.acmp (g := (mkF m 4 #[(vr wSTORE_WAIT)] [(.ref wACKNOWLEDGED), (.ref wSTORE_WAIT)])) X1 hx rfl rfl rfl (pc0 := 4) (pc' := 7) (same := false) rfl (hb hby d2_4) rfl (decide_eq_false fun q => ne2 (Value.ref.inj q)) (by decide) (by decide) ?_
    refine XS.aloadN X1.here hx rfl (hb hby d2_7) rfl rfl ?_
    refine st3 _ ?_
    show Steps p.tables e below (T3.setTop (mkF m 11 #[(vr wSTORE_WAIT)] [(.ref wDEAD_LETTERED), (.ref wSTORE_WAIT)])) _
    refine Jvm.RoadKit.acmp (g := (mkF m 11 #[(vr wSTORE_WAIT)] [(.ref wDEAD_LETTERED), (.ref wSTORE_WAIT)])) X3 hx rfl rfl rfl (pc0 := 11) (pc' := 18) (same := false) rfl (hb hby d2_11) rfl (decide_eq_false fun q => ne4 (Value.ref.inj q)) (by decide) (by decide) ?_
    refine XS.iconst X3.here hx rfl (hb hby d2_18) ?_
    exact retN X3 hx (t := .boolean) hret0 (by simp) (hb hby d2_19) hr
  · show Q_rm2_4 Z wACKNOWLEDGED wDEAD_LETTERED wSENT_BACK wSTORE_WAIT wRETRY  h0 n0 _ T3.heap _
    rw [e3]
    exact ⟨rfl, N0, rfl⟩
theorem ef_rm0 (m : MethodId) (x0 : Int32)  : entryFrame m #[(.int x0)] maxLocals = mkF m 0 #[(vi x0), .unset, .unset, .unset] [] := by first | (simp [entryFrame, mkF, argsToLocals, Value.category, maxLocals]; done) | rfl
theorem pd_0 : parseMethodDescriptor "(I)Lcom/example/onceward/onceward/broker/Settled;" = some ⟨[.int], some (.object "com/example/onceward/onceward/broker/Settled")⟩ := by decide +kernel
theorem pd_1 : parseMethodDescriptor "()Z" = some ⟨[], some .boolean⟩ := by decide +kernel
def Q_rm0 (Z : State) (wACKNOWLEDGED : Addr) (wDEAD_LETTERED : Addr) (wSENT_BACK : Addr) (wSTORE_WAIT : Addr) (wRETRY : Addr) (p1 : Int32) (h0 : Heap) (n0 : Nat) (v : Option Value) (h : Heap) (L : List Loc) : Prop := v = some (.int 1) ∧ Fr n0 L
theorem rm0 (l : Launch) (Z : State) (a0 : Array Value) (hw : ∀ d ∈ tables_1, d.before a0 Z = true) (ws : List Jvm.Cond) (wACKNOWLEDGED : Addr) (wDEAD_LETTERED : Addr) (wSENT_BACK : Addr) (wSTORE_WAIT : Addr) (wRETRY : Addr) (hS : SS Z wACKNOWLEDGED wDEAD_LETTERED wSENT_BACK wSTORE_WAIT wRETRY) (p1 : Int32) (h0 : Heap) (n0 : Nat) (O0 : Old Z n0 h0)  :
    MetB l x code maxLocals ret ws room_1 Z h0 #[(.int p1)] (Q_rm0 Z wACKNOWLEDGED wDEAD_LETTERED wSENT_BACK wSTORE_WAIT wRETRY p1 h0 n0) := by
  refine own_body (plainFor_of_name pn_com_example_onceward_onceward_broker_SettledForGoodPinLaw) ?_
  intro p e s m below meth c s₁ hx hby hml hown hnm hret0 hlk0 hZ X0 e0
  have N0 := Fr.nil n0
  have pre0 : ∀ t, Steps p.tables e below (s₁.setTop (mkF m 0 #[(vi p1), .unset, .unset, .unset] [])) t → Steps p.tables e below (s₁.setTop (entryFrame m #[(.int p1)] maxLocals)) t := fun t k => castTop (ef_rm0 m p1) k
  have hS0 := hS
  obtain ⟨S_wACKNOWLEDGED, E_wACKNOWLEDGED, S_wDEAD_LETTERED, E_wDEAD_LETTERED, S_wSENT_BACK, E_wSENT_BACK, S_wSTORE_WAIT, E_wSTORE_WAIT, S_wRETRY, E_wRETRY, F_ordinal_wDEAD_LETTERED, F_ordinal_wACKNOWLEDGED, F_ordinal_wSENT_BACK, F_ordinal_wSTORE_WAIT, F_ordinal_wRETRY⟩ := hS0
  have pre1 : ∀ t, Steps p.tables e below (s₁.setTop (mkF m 6 #[(vi p1), .unset, .unset, .unset] [(.int ((p1 &&& (2147483647 : Int32)) % (5 : Int32)))])) t → Steps p.tables e below (s₁.setTop (entryFrame m #[(.int p1)] maxLocals)) t := by
    intro t k
    refine pre0 t ?_
    show Steps p.tables e below (s₁.setTop (mkF m 0 #[(vi p1), .unset, .unset, .unset] [])) _
    refine XS.iloadN X0.here hx rfl (hb hby at_0) rfl ?_
    refine X0.ldcInt hx hown (mvT hZ (ow hw 0 rfl)) (g := (mkF m 1 #[(vi p1), .unset, .unset, .unset] [(.int p1)])) rfl (hb hby at_1) _ ?_
    refine XS.iand X0.here hx rfl (hb hby at_3) rfl ?_
    refine XS.iconst X0.here hx rfl (hb hby at_4) ?_
    refine iremM X0 hx rfl (hb hby at_5) rfl (by decide) ?_
    exact k
  rcases own_mod5 p1 with hk2 | hk2 | hk2 | hk2 | hk2
  · skip
    have pre3 : ∀ t, Steps p.tables e below (s₁.setTop (mkF m 6 #[(vi p1), .unset, .unset, .unset] [(.int 0)])) t → Steps p.tables e below (s₁.setTop (entryFrame m #[(.int p1)] maxLocals)) t := by
      intro t k
      refine pre1 t ?_
      rw [hk2]
      exact k
    obtain ⟨_, _, ⟨T4, L4, k4, n4⟩, -, X4, ⟨Lc4, hQ4, l4, y4, z4⟩, st4⟩ := Jvm.LawKit.callS X0 hx (y := M0) hown (mvT hZ (ow hw 1 rfl)) (mvT hZ (ow hw 2 rfl)) (mvT hZ (ow hw 3 rfl)) (mvT hZ (ow hw 4 rfl)) (by decide) (backOf (W := 0) (rm1_0 l Z a0 hw [] wACKNOWLEDGED wDEAD_LETTERED wSENT_BACK wSTORE_WAIT wRETRY hS  h0 n0 O0 ) hZ (ow hw 4 rfl) (ow hw 3 rfl) (by decide) (by decide)) (g := (mkF m 8 #[(vi p1), (vi 0), .unset, .unset] [(.int 0)])) rfl (by rw [hml]; rfl) (argsL := [(.int 0)]) (rest := []) (lenOf pd_0 rfl) rfl (by show 2 * 0 + _ ≤ _; exact Nat.le_of_eq rfl) (hb hby at_8) (fun _ _ => ⟨rfl, e0, (by decide : 0 + 0 ≤ _), (by decide : 0 + 0 ≤ _)⟩)
    dsimp only [Pt.U, Pt.locs, Pt.cells, Pt.slots] at X4 l4 y4 z4 st4 hQ4
    subst l4 y4 z4
    obtain ⟨rfl, Nq4, K4q⟩ := hQ4
    have N4 := Fr.app N0 Nq4
    obtain ⟨T5, h5, k5, X5, e5, E5, A5, st5⟩ := newP X4 hx hZ (ow hw 8 rfl) K4q (g := (mkF m 13 #[(vi p1), (vi 0), (vr wACKNOWLEDGED), .unset] [(.int 5)])) rfl (hb hby at_13) rfl (by decide) (cap := 5) (by decide) (by decide) (by decide) (by decide)
    obtain ⟨b5, g5⟩ : ∃ z, z = h0.size := ⟨_, rfl⟩
    rw [← g5] at A5 st5
    have g6 : n0 ≤ b5 := Nat.le_trans (own_sz O0) (Nat.le_of_eq g5.symm)
    have O7 : Old Z n0 h5 := O0.ext E5
    have V5 : Arv Z h5 b5 k5 .boolean (5 : Int32) ([(.int 0), (.int 0), (.int 0), (.int 0), (.int 0)]) (.int 0) := (Arv.new A5 (by decide)).pad (pad_rep [] (.int 0) 5)
    obtain ⟨cl8, Ar8, q8, Sz8, Nn8, Ha8, Gg8⟩ := V5
    have hin8 : ¬ ((0 : Int32) < 0 ∨ cl8.slots.size ≤ ((0 : Int32)).toNatClampNeg) := inb_of Sz8 ⟨by decide, by decide⟩
    obtain ⟨T8, h8, X8, e8, W8, st8⟩ := stZ X5 hx hZ e5 Ar8 (j := (0 : Int32)) hin8 (g := (mkF m 18 #[(vi p1), (vi 0), (vr wACKNOWLEDGED), .unset] [(.int 1), (.int 0), (.ref b5), (.ref b5)])) rfl rfl (hb hby at_18)
    have O9 : Old Z n0 h8 := O7.wr W8 g6
    have V8 : Arv Z h8 b5 k5 .boolean (5 : Int32) ([(.int 1), (.int 0), (.int 0), (.int 0), (.int 0)]) (.int 0) := Arv.set Ar8 q8 Sz8 Nn8 Ha8 Gg8 (v := (.int 1)) (by decide) W8 0 rfl (Nat.le_of_ble_eq_true rfl)
    have N8 := Fr.snoc X8 N4 g6
    obtain ⟨cl10, Ar10, q10, Sz10, Nn10, Ha10, Gg10⟩ := V8
    have hin10 : ¬ ((1 : Int32) < 0 ∨ cl10.slots.size ≤ ((1 : Int32)).toNatClampNeg) := inb_of Sz10 ⟨by decide, by decide⟩
    obtain ⟨T10, h10, X10, e10, W10, st10⟩ := stZ X8 hx hZ e8 Ar10 (j := (1 : Int32)) hin10 (g := (mkF m 22 #[(vi p1), (vi 0), (vr wACKNOWLEDGED), .unset] [(.int 0), (.int 1), (.ref b5), (.ref b5)])) rfl rfl (hb hby at_22)
    have O11 : Old Z n0 h10 := O9.wr W10 g6
    have V10 : Arv Z h10 b5 k5 .boolean (5 : Int32) ([(.int 1), (.int 0), (.int 0), (.int 0), (.int 0)]) (.int 0) := Arv.set Ar10 q10 Sz10 Nn10 Ha10 Gg10 (v := (.int 0)) (by decide) W10 1 rfl (Nat.le_of_ble_eq_true rfl)
    have N10 := Fr.snoc X10 N8 g6
    obtain ⟨cl12, Ar12, q12, Sz12, Nn12, Ha12, Gg12⟩ := V10
    have hin12 : ¬ ((2 : Int32) < 0 ∨ cl12.slots.size ≤ ((2 : Int32)).toNatClampNeg) := inb_of Sz12 ⟨by decide, by decide⟩
    obtain ⟨T12, h12, X12, e12, W12, st12⟩ := stZ X10 hx hZ e10 Ar12 (j := (2 : Int32)) hin12 (g := (mkF m 26 #[(vi p1), (vi 0), (vr wACKNOWLEDGED), .unset] [(.int 0), (.int 2), (.ref b5), (.ref b5)])) rfl rfl (hb hby at_26)
    have O13 : Old Z n0 h12 := O11.wr W12 g6
    have V12 : Arv Z h12 b5 k5 .boolean (5 : Int32) ([(.int 1), (.int 0), (.int 0), (.int 0), (.int 0)]) (.int 0) := Arv.set Ar12 q12 Sz12 Nn12 Ha12 Gg12 (v := (.int 0)) (by decide) W12 2 rfl (Nat.le_of_ble_eq_true rfl)
    have N12 := Fr.snoc X12 N10 g6
    obtain ⟨cl14, Ar14, q14, Sz14, Nn14, Ha14, Gg14⟩ := V12
    have hin14 : ¬ ((3 : Int32) < 0 ∨ cl14.slots.size ≤ ((3 : Int32)).toNatClampNeg) := inb_of Sz14 ⟨by decide, by decide⟩
    obtain ⟨T14, h14, X14, e14, W14, st14⟩ := stZ X12 hx hZ e12 Ar14 (j := (3 : Int32)) hin14 (g := (mkF m 30 #[(vi p1), (vi 0), (vr wACKNOWLEDGED), .unset] [(.int 1), (.int 3), (.ref b5), (.ref b5)])) rfl rfl (hb hby at_30)
    have O15 : Old Z n0 h14 := O13.wr W14 g6
    have V14 : Arv Z h14 b5 k5 .boolean (5 : Int32) ([(.int 1), (.int 0), (.int 0), (.int 1), (.int 0)]) (.int 0) := Arv.set Ar14 q14 Sz14 Nn14 Ha14 Gg14 (v := (.int 1)) (by decide) W14 3 rfl (Nat.le_of_ble_eq_true rfl)
    have N14 := Fr.snoc X14 N12 g6
    obtain ⟨cl16, Ar16, q16, Sz16, Nn16, Ha16, Gg16⟩ := V14
    have hin16 : ¬ ((4 : Int32) < 0 ∨ cl16.slots.size ≤ ((4 : Int32)).toNatClampNeg) := inb_of Sz16 ⟨by decide, by decide⟩
    obtain ⟨T16, h16, X16, e16, W16, st16⟩ := stZ X14 hx hZ e14 Ar16 (j := (4 : Int32)) hin16 (g := (mkF m 34 #[(vi p1), (vi 0), (vr wACKNOWLEDGED), .unset] [(.int 0), (.int 4), (.ref b5), (.ref b5)])) rfl rfl (hb hby at_34)
    have O17 : Old Z n0 h16 := O15.wr W16 g6
    have V16 : Arv Z h16 b5 k5 .boolean (5 : Int32) ([(.int 1), (.int 0), (.int 0), (.int 1), (.int 0)]) (.int 0) := Arv.set Ar16 q16 Sz16 Nn16 Ha16 Gg16 (v := (.int 0)) (by decide) W16 4 rfl (Nat.le_of_ble_eq_true rfl)
    have N16 := Fr.snoc X16 N14 g6
    obtain ⟨cq18, kq18, q18a, q18b, q18c⟩ := isOf hZ e16 (E_wACKNOWLEDGED.ext O17.2)
    obtain ⟨_, _, ⟨T18, L18, k18, n18⟩, -, X18, ⟨Lc18, hQ18, l18, y18, z18⟩, st18⟩ := X16.virtualBack hx (y := M1) (z := M1) hown (mvT hZ (ow hw 9 rfl)) (mvT hZ (ow hw 10 rfl)) (notFace_of_selects (args := #[]) (mvT hZ (ow hw 12 rfl))) (mvT hZ (ow hw 12 rfl)) (mvT hZ (ow hw 11 rfl)) (by decide) (backOf (W := 0) (rm2_0 l Z a0 hw [] wACKNOWLEDGED wDEAD_LETTERED wSENT_BACK wSTORE_WAIT wRETRY hS  h16 n0 O17 ) hZ (ow hw 13 rfl) (ow hw 6 rfl) (by decide) (by decide)) q18a q18c (g := (mkF m 37 #[(vi p1), (vi 0), (vr wACKNOWLEDGED), (vr b5)] [(.ref wACKNOWLEDGED)])) rfl (by rw [hml]; rfl) (Steps.refl _) (argsL := []) (rest := []) (lenOf pd_1 rfl) rfl (by show 2 * 0 + _ ≤ _; exact Nat.le_of_eq rfl) (hb hby at_37) (fun _ _ => ⟨rfl, e16, (by decide : 1 + 0 ≤ _), (by decide : 5 + 0 ≤ _)⟩)
    dsimp only [Pt.U, Pt.locs, Pt.cells, Pt.slots] at X18 l18 y18 z18 st18 hQ18
    subst l18 y18 z18
    obtain ⟨rfl, Nq18, K18q⟩ := hQ18
    have N18 := Fr.app N16 Nq18
    obtain ⟨cl19, Ar19, q19, Sz19, Nn19, Ha19, Gg19⟩ := V16
    have hin19 : ¬ ((0 : Int32) < 0 ∨ cl19.slots.size ≤ ((0 : Int32)).toNatClampNeg) := inb_of Sz19 ⟨by decide, by decide⟩
    have hat19 : cl19.slots[((0 : Int32)).toNatClampNeg]? = some (.int 1) := Ha19.at hin19 rfl
    obtain ⟨fs, hr, hrun, hended, hW, hsame⟩ := X18.leave (v := some (.int 1)) (fun h => by rw [hret0] at h; cases h)
    refine ⟨_, _, pre3 _ ?_, hrun, hended, _, _, rfl, ?_, ⟨_, rfl⟩, hW, hsame.mono (by decide) (by decide)⟩
    · skip
      show Steps p.tables e below (s₁.setTop (mkF m 6 #[(vi p1), .unset, .unset, .unset] [(.int 0)])) _
      refine XS.istoreN X0.here hx rfl (hb hby at_6) rfl (l' := #[(vi p1), (vi 0), .unset, .unset]) rfl ?_
      refine XS.iloadN X0.here hx rfl (hb hby at_7) rfl ?_
      refine st4 _ ?_
      refine XS.astoreN X4.here hx rfl (hb hby at_11) rfl rfl (l' := #[(vi p1), (vi 0), (vr wACKNOWLEDGED), .unset]) rfl ?_
      refine XS.iconst X4.here hx rfl (hb hby at_12) ?_
      show Steps p.tables e below (T4.setTop (mkF m 13 #[(vi p1), (vi 0), (vr wACKNOWLEDGED), .unset] [(.int 5)])) _
      refine st5 _ ?_
      refine XS.dup X5.here hx rfl (hb hby at_15) rfl rfl ?_
      refine XS.iconst X5.here hx rfl (hb hby at_16) ?_
      refine XS.iconst X5.here hx rfl (hb hby at_17) ?_
      refine st8 _ ?_
      show Steps p.tables e below (T8.setTop (mkF m 19 #[(vi p1), (vi 0), (vr wACKNOWLEDGED), .unset] [(.ref b5)])) _
      refine XS.dup X8.here hx rfl (hb hby at_19) rfl rfl ?_
      refine XS.iconst X8.here hx rfl (hb hby at_20) ?_
      refine XS.iconst X8.here hx rfl (hb hby at_21) ?_
      refine st10 _ ?_
      refine XS.dup X10.here hx rfl (hb hby at_23) rfl rfl ?_
      show Steps p.tables e below (T10.setTop (mkF m 24 #[(vi p1), (vi 0), (vr wACKNOWLEDGED), .unset] [(.ref b5), (.ref b5)])) _
      refine XS.iconst X10.here hx rfl (hb hby at_24) ?_
      refine XS.iconst X10.here hx rfl (hb hby at_25) ?_
      refine st12 _ ?_
      refine XS.dup X12.here hx rfl (hb hby at_27) rfl rfl ?_
      refine XS.iconst X12.here hx rfl (hb hby at_28) ?_
      show Steps p.tables e below (T12.setTop (mkF m 29 #[(vi p1), (vi 0), (vr wACKNOWLEDGED), .unset] [(.int 3), (.ref b5), (.ref b5)])) _
      refine XS.iconst X12.here hx rfl (hb hby at_29) ?_
      refine st14 _ ?_
      refine XS.dup X14.here hx rfl (hb hby at_31) rfl rfl ?_
      refine XS.iconst X14.here hx rfl (hb hby at_32) ?_
      refine XS.iconst X14.here hx rfl (hb hby at_33) ?_
      show Steps p.tables e below (T14.setTop (mkF m 34 #[(vi p1), (vi 0), (vr wACKNOWLEDGED), .unset] [(.int 0), (.int 4), (.ref b5), (.ref b5)])) _
      refine st16 _ ?_
      refine XS.astoreN X16.here hx rfl (hb hby at_35) rfl rfl (l' := #[(vi p1), (vi 0), (vr wACKNOWLEDGED), (vr b5)]) rfl ?_
      refine XS.aloadN X16.here hx rfl (hb hby at_36) rfl rfl ?_
      refine st18.trans ?_
      refine XS.aloadN X18.here hx rfl (hb hby at_40) rfl rfl ?_
      show Steps p.tables e below (T18.setTop (mkF m 41 #[(vi p1), (vi 0), (vr wACKNOWLEDGED), (vr b5)] [(.ref b5), (.int 1)])) _
      refine XS.iloadN X18.here hx rfl (hb hby at_41) rfl ?_
      refine X18.baloadBooleans hx (j := (0 : Int32)) (v := (.int 1)) (by rw [K18q]; exact Ar19.1) (State.isArrayOf_alike hZ.alike Ar19.2.1) Ar19.2.2 hin19 hat19 (g := (mkF m 42 #[(vi p1), (vi 0), (vr wACKNOWLEDGED), (vr b5)] [(.int 0), (.ref b5), (.int 1)])) rfl rfl (hb hby at_42) _ ?_
      refine XS.icmpNo X18.here hx rfl (hb hby at_43) rfl (teq (by decide : (1 : Int32) = (1 : Int32))).2 ?_
      refine XS.iconst X18.here hx rfl (hb hby at_46) ?_
      refine XS.goto X18.here hx rfl (pc0 := 47) (pc' := 51) rfl (hb hby at_47) (by decide) (by decide) ?_
      show Steps p.tables e below (T18.setTop (mkF m 51 #[(vi p1), (vi 0), (vr wACKNOWLEDGED), (vr b5)] [(.int 1)])) _
      exact retN X18 hx (t := .boolean) hret0 (by simp) (hb hby at_51) hr
    · show Q_rm0 Z wACKNOWLEDGED wDEAD_LETTERED wSENT_BACK wSTORE_WAIT wRETRY p1 h0 n0 _ T18.heap _
      rw [K18q]
      exact ⟨rfl, N18⟩
  · skip
    have pre20 : ∀ t, Steps p.tables e below (s₁.setTop (mkF m 6 #[(vi p1), .unset, .unset, .unset] [(.int 1)])) t → Steps p.tables e below (s₁.setTop (entryFrame m #[(.int p1)] maxLocals)) t := by
      intro t k
      refine pre1 t ?_
      rw [hk2]
      exact k
    obtain ⟨_, _, ⟨T21, L21, k21, n21⟩, -, X21, ⟨Lc21, hQ21, l21, y21, z21⟩, st21⟩ := Jvm.LawKit.callS X0 hx (y := M0) hown (mvT hZ (ow hw 1 rfl)) (mvT hZ (ow hw 2 rfl)) (mvT hZ (ow hw 3 rfl)) (mvT hZ (ow hw 4 rfl)) (by decide) (backOf (W := 0) (rm1_1 l Z a0 hw [] wACKNOWLEDGED wDEAD_LETTERED wSENT_BACK wSTORE_WAIT wRETRY hS  h0 n0 O0 ) hZ (ow hw 4 rfl) (ow hw 3 rfl) (by decide) (by decide)) (g := (mkF m 8 #[(vi p1), (vi 1), .unset, .unset] [(.int 1)])) rfl (by rw [hml]; rfl) (argsL := [(.int 1)]) (rest := []) (lenOf pd_0 rfl) rfl (by show 2 * 0 + _ ≤ _; exact Nat.le_of_eq rfl) (hb hby at_8) (fun _ _ => ⟨rfl, e0, (by decide : 0 + 0 ≤ _), (by decide : 0 + 0 ≤ _)⟩)
    dsimp only [Pt.U, Pt.locs, Pt.cells, Pt.slots] at X21 l21 y21 z21 st21 hQ21
    subst l21 y21 z21
    obtain ⟨rfl, Nq21, K21q⟩ := hQ21
    have N21 := Fr.app N0 Nq21
    obtain ⟨T22, h22, k22, X22, e22, E22, A22, st22⟩ := newP X21 hx hZ (ow hw 8 rfl) K21q (g := (mkF m 13 #[(vi p1), (vi 1), (vr wSENT_BACK), .unset] [(.int 5)])) rfl (hb hby at_13) rfl (by decide) (cap := 5) (by decide) (by decide) (by decide) (by decide)
    obtain ⟨b22, g22⟩ : ∃ z, z = h0.size := ⟨_, rfl⟩
    rw [← g22] at A22 st22
    have g23 : n0 ≤ b22 := Nat.le_trans (own_sz O0) (Nat.le_of_eq g22.symm)
    have O24 : Old Z n0 h22 := O0.ext E22
    have V22 : Arv Z h22 b22 k22 .boolean (5 : Int32) ([(.int 0), (.int 0), (.int 0), (.int 0), (.int 0)]) (.int 0) := (Arv.new A22 (by decide)).pad (pad_rep [] (.int 0) 5)
    obtain ⟨cl25, Ar25, q25, Sz25, Nn25, Ha25, Gg25⟩ := V22
    have hin25 : ¬ ((0 : Int32) < 0 ∨ cl25.slots.size ≤ ((0 : Int32)).toNatClampNeg) := inb_of Sz25 ⟨by decide, by decide⟩
    obtain ⟨T25, h25, X25, e25, W25, st25⟩ := stZ X22 hx hZ e22 Ar25 (j := (0 : Int32)) hin25 (g := (mkF m 18 #[(vi p1), (vi 1), (vr wSENT_BACK), .unset] [(.int 1), (.int 0), (.ref b22), (.ref b22)])) rfl rfl (hb hby at_18)
    have O26 : Old Z n0 h25 := O24.wr W25 g23
    have V25 : Arv Z h25 b22 k22 .boolean (5 : Int32) ([(.int 1), (.int 0), (.int 0), (.int 0), (.int 0)]) (.int 0) := Arv.set Ar25 q25 Sz25 Nn25 Ha25 Gg25 (v := (.int 1)) (by decide) W25 0 rfl (Nat.le_of_ble_eq_true rfl)
    have N25 := Fr.snoc X25 N21 g23
    obtain ⟨cl27, Ar27, q27, Sz27, Nn27, Ha27, Gg27⟩ := V25
    have hin27 : ¬ ((1 : Int32) < 0 ∨ cl27.slots.size ≤ ((1 : Int32)).toNatClampNeg) := inb_of Sz27 ⟨by decide, by decide⟩
    obtain ⟨T27, h27, X27, e27, W27, st27⟩ := stZ X25 hx hZ e25 Ar27 (j := (1 : Int32)) hin27 (g := (mkF m 22 #[(vi p1), (vi 1), (vr wSENT_BACK), .unset] [(.int 0), (.int 1), (.ref b22), (.ref b22)])) rfl rfl (hb hby at_22)
    have O28 : Old Z n0 h27 := O26.wr W27 g23
    have V27 : Arv Z h27 b22 k22 .boolean (5 : Int32) ([(.int 1), (.int 0), (.int 0), (.int 0), (.int 0)]) (.int 0) := Arv.set Ar27 q27 Sz27 Nn27 Ha27 Gg27 (v := (.int 0)) (by decide) W27 1 rfl (Nat.le_of_ble_eq_true rfl)
    have N27 := Fr.snoc X27 N25 g23
    obtain ⟨cl29, Ar29, q29, Sz29, Nn29, Ha29, Gg29⟩ := V27
    have hin29 : ¬ ((2 : Int32) < 0 ∨ cl29.slots.size ≤ ((2 : Int32)).toNatClampNeg) := inb_of Sz29 ⟨by decide, by decide⟩
    obtain ⟨T29, h29, X29, e29, W29, st29⟩ := stZ X27 hx hZ e27 Ar29 (j := (2 : Int32)) hin29 (g := (mkF m 26 #[(vi p1), (vi 1), (vr wSENT_BACK), .unset] [(.int 0), (.int 2), (.ref b22), (.ref b22)])) rfl rfl (hb hby at_26)
    have O30 : Old Z n0 h29 := O28.wr W29 g23
    have V29 : Arv Z h29 b22 k22 .boolean (5 : Int32) ([(.int 1), (.int 0), (.int 0), (.int 0), (.int 0)]) (.int 0) := Arv.set Ar29 q29 Sz29 Nn29 Ha29 Gg29 (v := (.int 0)) (by decide) W29 2 rfl (Nat.le_of_ble_eq_true rfl)
    have N29 := Fr.snoc X29 N27 g23
    obtain ⟨cl31, Ar31, q31, Sz31, Nn31, Ha31, Gg31⟩ := V29
    have hin31 : ¬ ((3 : Int32) < 0 ∨ cl31.slots.size ≤ ((3 : Int32)).toNatClampNeg) := inb_of Sz31 ⟨by decide, by decide⟩
    obtain ⟨T31, h31, X31, e31, W31, st31⟩ := stZ X29 hx hZ e29 Ar31 (j := (3 : Int32)) hin31 (g := (mkF m 30 #[(vi p1), (vi 1), (vr wSENT_BACK), .unset] [(.int 1), (.int 3), (.ref b22), (.ref b22)])) rfl rfl (hb hby at_30)
    have O32 : Old Z n0 h31 := O30.wr W31 g23
    have V31 : Arv Z h31 b22 k22 .boolean (5 : Int32) ([(.int 1), (.int 0), (.int 0), (.int 1), (.int 0)]) (.int 0) := Arv.set Ar31 q31 Sz31 Nn31 Ha31 Gg31 (v := (.int 1)) (by decide) W31 3 rfl (Nat.le_of_ble_eq_true rfl)
    have N31 := Fr.snoc X31 N29 g23
    obtain ⟨cl33, Ar33, q33, Sz33, Nn33, Ha33, Gg33⟩ := V31
    have hin33 : ¬ ((4 : Int32) < 0 ∨ cl33.slots.size ≤ ((4 : Int32)).toNatClampNeg) := inb_of Sz33 ⟨by decide, by decide⟩
    obtain ⟨T33, h33, X33, e33, W33, st33⟩ := stZ X31 hx hZ e31 Ar33 (j := (4 : Int32)) hin33 (g := (mkF m 34 #[(vi p1), (vi 1), (vr wSENT_BACK), .unset] [(.int 0), (.int 4), (.ref b22), (.ref b22)])) rfl rfl (hb hby at_34)
    have O34 : Old Z n0 h33 := O32.wr W33 g23
    have V33 : Arv Z h33 b22 k22 .boolean (5 : Int32) ([(.int 1), (.int 0), (.int 0), (.int 1), (.int 0)]) (.int 0) := Arv.set Ar33 q33 Sz33 Nn33 Ha33 Gg33 (v := (.int 0)) (by decide) W33 4 rfl (Nat.le_of_ble_eq_true rfl)
    have N33 := Fr.snoc X33 N31 g23
    obtain ⟨cq35, kq35, q35a, q35b, q35c⟩ := isOf hZ e33 (E_wSENT_BACK.ext O34.2)
    obtain ⟨_, _, ⟨T35, L35, k35, n35⟩, -, X35, ⟨Lc35, hQ35, l35, y35, z35⟩, st35⟩ := X33.virtualBack hx (y := M1) (z := M1) hown (mvT hZ (ow hw 9 rfl)) (mvT hZ (ow hw 10 rfl)) (notFace_of_selects (args := #[]) (mvT hZ (ow hw 12 rfl))) (mvT hZ (ow hw 12 rfl)) (mvT hZ (ow hw 11 rfl)) (by decide) (backOf (W := 0) (rm2_1 l Z a0 hw [] wACKNOWLEDGED wDEAD_LETTERED wSENT_BACK wSTORE_WAIT wRETRY hS  h33 n0 O34 ) hZ (ow hw 13 rfl) (ow hw 6 rfl) (by decide) (by decide)) q35a q35c (g := (mkF m 37 #[(vi p1), (vi 1), (vr wSENT_BACK), (vr b22)] [(.ref wSENT_BACK)])) rfl (by rw [hml]; rfl) (Steps.refl _) (argsL := []) (rest := []) (lenOf pd_1 rfl) rfl (by show 2 * 0 + _ ≤ _; exact Nat.le_of_eq rfl) (hb hby at_37) (fun _ _ => ⟨rfl, e33, (by decide : 1 + 0 ≤ _), (by decide : 5 + 0 ≤ _)⟩)
    dsimp only [Pt.U, Pt.locs, Pt.cells, Pt.slots] at X35 l35 y35 z35 st35 hQ35
    subst l35 y35 z35
    obtain ⟨rfl, Nq35, K35q⟩ := hQ35
    have N35 := Fr.app N33 Nq35
    obtain ⟨cl36, Ar36, q36, Sz36, Nn36, Ha36, Gg36⟩ := V33
    have hin36 : ¬ ((1 : Int32) < 0 ∨ cl36.slots.size ≤ ((1 : Int32)).toNatClampNeg) := inb_of Sz36 ⟨by decide, by decide⟩
    have hat36 : cl36.slots[((1 : Int32)).toNatClampNeg]? = some (.int 0) := Ha36.at hin36 rfl
    obtain ⟨fs, hr, hrun, hended, hW, hsame⟩ := X35.leave (v := some (.int 1)) (fun h => by rw [hret0] at h; cases h)
    refine ⟨_, _, pre20 _ ?_, hrun, hended, _, _, rfl, ?_, ⟨_, rfl⟩, hW, hsame.mono (by decide) (by decide)⟩
    · skip
      show Steps p.tables e below (s₁.setTop (mkF m 6 #[(vi p1), .unset, .unset, .unset] [(.int 1)])) _
      refine XS.istoreN X0.here hx rfl (hb hby at_6) rfl (l' := #[(vi p1), (vi 1), .unset, .unset]) rfl ?_
      refine XS.iloadN X0.here hx rfl (hb hby at_7) rfl ?_
      refine st21 _ ?_
      refine XS.astoreN X21.here hx rfl (hb hby at_11) rfl rfl (l' := #[(vi p1), (vi 1), (vr wSENT_BACK), .unset]) rfl ?_
      refine XS.iconst X21.here hx rfl (hb hby at_12) ?_
      show Steps p.tables e below (T21.setTop (mkF m 13 #[(vi p1), (vi 1), (vr wSENT_BACK), .unset] [(.int 5)])) _
      refine st22 _ ?_
      refine XS.dup X22.here hx rfl (hb hby at_15) rfl rfl ?_
      refine XS.iconst X22.here hx rfl (hb hby at_16) ?_
      refine XS.iconst X22.here hx rfl (hb hby at_17) ?_
      refine st25 _ ?_
      show Steps p.tables e below (T25.setTop (mkF m 19 #[(vi p1), (vi 1), (vr wSENT_BACK), .unset] [(.ref b22)])) _
      refine XS.dup X25.here hx rfl (hb hby at_19) rfl rfl ?_
      refine XS.iconst X25.here hx rfl (hb hby at_20) ?_
      refine XS.iconst X25.here hx rfl (hb hby at_21) ?_
      refine st27 _ ?_
      refine XS.dup X27.here hx rfl (hb hby at_23) rfl rfl ?_
      show Steps p.tables e below (T27.setTop (mkF m 24 #[(vi p1), (vi 1), (vr wSENT_BACK), .unset] [(.ref b22), (.ref b22)])) _
      refine XS.iconst X27.here hx rfl (hb hby at_24) ?_
      refine XS.iconst X27.here hx rfl (hb hby at_25) ?_
      refine st29 _ ?_
      refine XS.dup X29.here hx rfl (hb hby at_27) rfl rfl ?_
      refine XS.iconst X29.here hx rfl (hb hby at_28) ?_
      show Steps p.tables e below (T29.setTop (mkF m 29 #[(vi p1), (vi 1), (vr wSENT_BACK), .unset] [(.int 3), (.ref b22), (.ref b22)])) _
      refine XS.iconst X29.here hx rfl (hb hby at_29) ?_
      refine st31 _ ?_
      refine XS.dup X31.here hx rfl (hb hby at_31) rfl rfl ?_
      refine XS.iconst X31.here hx rfl (hb hby at_32) ?_
      refine XS.iconst X31.here hx rfl (hb hby at_33) ?_
      show Steps p.tables e below (T31.setTop (mkF m 34 #[(vi p1), (vi 1), (vr wSENT_BACK), .unset] [(.int 0), (.int 4), (.ref b22), (.ref b22)])) _
      refine st33 _ ?_
      refine XS.astoreN X33.here hx rfl (hb hby at_35) rfl rfl (l' := #[(vi p1), (vi 1), (vr wSENT_BACK), (vr b22)]) rfl ?_
      refine XS.aloadN X33.here hx rfl (hb hby at_36) rfl rfl ?_
      refine st35.trans ?_
      refine XS.aloadN X35.here hx rfl (hb hby at_40) rfl rfl ?_
      show Steps p.tables e below (T35.setTop (mkF m 41 #[(vi p1), (vi 1), (vr wSENT_BACK), (vr b22)] [(.ref b22), (.int 0)])) _
      refine XS.iloadN X35.here hx rfl (hb hby at_41) rfl ?_
      refine X35.baloadBooleans hx (j := (1 : Int32)) (v := (.int 0)) (by rw [K35q]; exact Ar36.1) (State.isArrayOf_alike hZ.alike Ar36.2.1) Ar36.2.2 hin36 hat36 (g := (mkF m 42 #[(vi p1), (vi 1), (vr wSENT_BACK), (vr b22)] [(.int 1), (.ref b22), (.int 0)])) rfl rfl (hb hby at_42) _ ?_
      refine XS.icmpNo X35.here hx rfl (hb hby at_43) rfl (teq (by decide : (0 : Int32) = (0 : Int32))).2 ?_
      refine XS.iconst X35.here hx rfl (hb hby at_46) ?_
      refine XS.goto X35.here hx rfl (pc0 := 47) (pc' := 51) rfl (hb hby at_47) (by decide) (by decide) ?_
      show Steps p.tables e below (T35.setTop (mkF m 51 #[(vi p1), (vi 1), (vr wSENT_BACK), (vr b22)] [(.int 1)])) _
      exact retN X35 hx (t := .boolean) hret0 (by simp) (hb hby at_51) hr
    · show Q_rm0 Z wACKNOWLEDGED wDEAD_LETTERED wSENT_BACK wSTORE_WAIT wRETRY p1 h0 n0 _ T35.heap _
      rw [K35q]
      exact ⟨rfl, N35⟩
  · skip
    have pre37 : ∀ t, Steps p.tables e below (s₁.setTop (mkF m 6 #[(vi p1), .unset, .unset, .unset] [(.int 2)])) t → Steps p.tables e below (s₁.setTop (entryFrame m #[(.int p1)] maxLocals)) t := by
      intro t k
      refine pre1 t ?_
      rw [hk2]
      exact k
    obtain ⟨_, _, ⟨T38, L38, k38, n38⟩, -, X38, ⟨Lc38, hQ38, l38, y38, z38⟩, st38⟩ := Jvm.LawKit.callS X0 hx (y := M0) hown (mvT hZ (ow hw 1 rfl)) (mvT hZ (ow hw 2 rfl)) (mvT hZ (ow hw 3 rfl)) (mvT hZ (ow hw 4 rfl)) (by decide) (backOf (W := 0) (rm1_2 l Z a0 hw [] wACKNOWLEDGED wDEAD_LETTERED wSENT_BACK wSTORE_WAIT wRETRY hS  h0 n0 O0 ) hZ (ow hw 4 rfl) (ow hw 3 rfl) (by decide) (by decide)) (g := (mkF m 8 #[(vi p1), (vi 2), .unset, .unset] [(.int 2)])) rfl (by rw [hml]; rfl) (argsL := [(.int 2)]) (rest := []) (lenOf pd_0 rfl) rfl (by show 2 * 0 + _ ≤ _; exact Nat.le_of_eq rfl) (hb hby at_8) (fun _ _ => ⟨rfl, e0, (by decide : 0 + 0 ≤ _), (by decide : 0 + 0 ≤ _)⟩)
    dsimp only [Pt.U, Pt.locs, Pt.cells, Pt.slots] at X38 l38 y38 z38 st38 hQ38
    subst l38 y38 z38
    obtain ⟨rfl, Nq38, K38q⟩ := hQ38
    have N38 := Fr.app N0 Nq38
    obtain ⟨T39, h39, k39, X39, e39, E39, A39, st39⟩ := newP X38 hx hZ (ow hw 8 rfl) K38q (g := (mkF m 13 #[(vi p1), (vi 2), (vr wRETRY), .unset] [(.int 5)])) rfl (hb hby at_13) rfl (by decide) (cap := 5) (by decide) (by decide) (by decide) (by decide)
    obtain ⟨b39, g39⟩ : ∃ z, z = h0.size := ⟨_, rfl⟩
    rw [← g39] at A39 st39
    have g40 : n0 ≤ b39 := Nat.le_trans (own_sz O0) (Nat.le_of_eq g39.symm)
    have O41 : Old Z n0 h39 := O0.ext E39
    have V39 : Arv Z h39 b39 k39 .boolean (5 : Int32) ([(.int 0), (.int 0), (.int 0), (.int 0), (.int 0)]) (.int 0) := (Arv.new A39 (by decide)).pad (pad_rep [] (.int 0) 5)
    obtain ⟨cl42, Ar42, q42, Sz42, Nn42, Ha42, Gg42⟩ := V39
    have hin42 : ¬ ((0 : Int32) < 0 ∨ cl42.slots.size ≤ ((0 : Int32)).toNatClampNeg) := inb_of Sz42 ⟨by decide, by decide⟩
    obtain ⟨T42, h42, X42, e42, W42, st42⟩ := stZ X39 hx hZ e39 Ar42 (j := (0 : Int32)) hin42 (g := (mkF m 18 #[(vi p1), (vi 2), (vr wRETRY), .unset] [(.int 1), (.int 0), (.ref b39), (.ref b39)])) rfl rfl (hb hby at_18)
    have O43 : Old Z n0 h42 := O41.wr W42 g40
    have V42 : Arv Z h42 b39 k39 .boolean (5 : Int32) ([(.int 1), (.int 0), (.int 0), (.int 0), (.int 0)]) (.int 0) := Arv.set Ar42 q42 Sz42 Nn42 Ha42 Gg42 (v := (.int 1)) (by decide) W42 0 rfl (Nat.le_of_ble_eq_true rfl)
    have N42 := Fr.snoc X42 N38 g40
    obtain ⟨cl44, Ar44, q44, Sz44, Nn44, Ha44, Gg44⟩ := V42
    have hin44 : ¬ ((1 : Int32) < 0 ∨ cl44.slots.size ≤ ((1 : Int32)).toNatClampNeg) := inb_of Sz44 ⟨by decide, by decide⟩
    obtain ⟨T44, h44, X44, e44, W44, st44⟩ := stZ X42 hx hZ e42 Ar44 (j := (1 : Int32)) hin44 (g := (mkF m 22 #[(vi p1), (vi 2), (vr wRETRY), .unset] [(.int 0), (.int 1), (.ref b39), (.ref b39)])) rfl rfl (hb hby at_22)
    have O45 : Old Z n0 h44 := O43.wr W44 g40
    have V44 : Arv Z h44 b39 k39 .boolean (5 : Int32) ([(.int 1), (.int 0), (.int 0), (.int 0), (.int 0)]) (.int 0) := Arv.set Ar44 q44 Sz44 Nn44 Ha44 Gg44 (v := (.int 0)) (by decide) W44 1 rfl (Nat.le_of_ble_eq_true rfl)
    have N44 := Fr.snoc X44 N42 g40
    obtain ⟨cl46, Ar46, q46, Sz46, Nn46, Ha46, Gg46⟩ := V44
    have hin46 : ¬ ((2 : Int32) < 0 ∨ cl46.slots.size ≤ ((2 : Int32)).toNatClampNeg) := inb_of Sz46 ⟨by decide, by decide⟩
    obtain ⟨T46, h46, X46, e46, W46, st46⟩ := stZ X44 hx hZ e44 Ar46 (j := (2 : Int32)) hin46 (g := (mkF m 26 #[(vi p1), (vi 2), (vr wRETRY), .unset] [(.int 0), (.int 2), (.ref b39), (.ref b39)])) rfl rfl (hb hby at_26)
    have O47 : Old Z n0 h46 := O45.wr W46 g40
    have V46 : Arv Z h46 b39 k39 .boolean (5 : Int32) ([(.int 1), (.int 0), (.int 0), (.int 0), (.int 0)]) (.int 0) := Arv.set Ar46 q46 Sz46 Nn46 Ha46 Gg46 (v := (.int 0)) (by decide) W46 2 rfl (Nat.le_of_ble_eq_true rfl)
    have N46 := Fr.snoc X46 N44 g40
    obtain ⟨cl48, Ar48, q48, Sz48, Nn48, Ha48, Gg48⟩ := V46
    have hin48 : ¬ ((3 : Int32) < 0 ∨ cl48.slots.size ≤ ((3 : Int32)).toNatClampNeg) := inb_of Sz48 ⟨by decide, by decide⟩
    obtain ⟨T48, h48, X48, e48, W48, st48⟩ := stZ X46 hx hZ e46 Ar48 (j := (3 : Int32)) hin48 (g := (mkF m 30 #[(vi p1), (vi 2), (vr wRETRY), .unset] [(.int 1), (.int 3), (.ref b39), (.ref b39)])) rfl rfl (hb hby at_30)
    have O49 : Old Z n0 h48 := O47.wr W48 g40
    have V48 : Arv Z h48 b39 k39 .boolean (5 : Int32) ([(.int 1), (.int 0), (.int 0), (.int 1), (.int 0)]) (.int 0) := Arv.set Ar48 q48 Sz48 Nn48 Ha48 Gg48 (v := (.int 1)) (by decide) W48 3 rfl (Nat.le_of_ble_eq_true rfl)
    have N48 := Fr.snoc X48 N46 g40
    obtain ⟨cl50, Ar50, q50, Sz50, Nn50, Ha50, Gg50⟩ := V48
    have hin50 : ¬ ((4 : Int32) < 0 ∨ cl50.slots.size ≤ ((4 : Int32)).toNatClampNeg) := inb_of Sz50 ⟨by decide, by decide⟩
    obtain ⟨T50, h50, X50, e50, W50, st50⟩ := stZ X48 hx hZ e48 Ar50 (j := (4 : Int32)) hin50 (g := (mkF m 34 #[(vi p1), (vi 2), (vr wRETRY), .unset] [(.int 0), (.int 4), (.ref b39), (.ref b39)])) rfl rfl (hb hby at_34)
    have O51 : Old Z n0 h50 := O49.wr W50 g40
    have V50 : Arv Z h50 b39 k39 .boolean (5 : Int32) ([(.int 1), (.int 0), (.int 0), (.int 1), (.int 0)]) (.int 0) := Arv.set Ar50 q50 Sz50 Nn50 Ha50 Gg50 (v := (.int 0)) (by decide) W50 4 rfl (Nat.le_of_ble_eq_true rfl)
    have N50 := Fr.snoc X50 N48 g40
    obtain ⟨cq52, kq52, q52a, q52b, q52c⟩ := isOf hZ e50 (E_wRETRY.ext O51.2)
    obtain ⟨_, _, ⟨T52, L52, k52, n52⟩, -, X52, ⟨Lc52, hQ52, l52, y52, z52⟩, st52⟩ := X50.virtualBack hx (y := M1) (z := M1) hown (mvT hZ (ow hw 9 rfl)) (mvT hZ (ow hw 10 rfl)) (notFace_of_selects (args := #[]) (mvT hZ (ow hw 12 rfl))) (mvT hZ (ow hw 12 rfl)) (mvT hZ (ow hw 11 rfl)) (by decide) (backOf (W := 0) (rm2_2 l Z a0 hw [] wACKNOWLEDGED wDEAD_LETTERED wSENT_BACK wSTORE_WAIT wRETRY hS  h50 n0 O51 ) hZ (ow hw 13 rfl) (ow hw 6 rfl) (by decide) (by decide)) q52a q52c (g := (mkF m 37 #[(vi p1), (vi 2), (vr wRETRY), (vr b39)] [(.ref wRETRY)])) rfl (by rw [hml]; rfl) (Steps.refl _) (argsL := []) (rest := []) (lenOf pd_1 rfl) rfl (by show 2 * 0 + _ ≤ _; exact Nat.le_of_eq rfl) (hb hby at_37) (fun _ _ => ⟨rfl, e50, (by decide : 1 + 0 ≤ _), (by decide : 5 + 0 ≤ _)⟩)
    dsimp only [Pt.U, Pt.locs, Pt.cells, Pt.slots] at X52 l52 y52 z52 st52 hQ52
    subst l52 y52 z52
    obtain ⟨rfl, Nq52, K52q⟩ := hQ52
    have N52 := Fr.app N50 Nq52
    obtain ⟨cl53, Ar53, q53, Sz53, Nn53, Ha53, Gg53⟩ := V50
    have hin53 : ¬ ((2 : Int32) < 0 ∨ cl53.slots.size ≤ ((2 : Int32)).toNatClampNeg) := inb_of Sz53 ⟨by decide, by decide⟩
    have hat53 : cl53.slots[((2 : Int32)).toNatClampNeg]? = some (.int 0) := Ha53.at hin53 rfl
    obtain ⟨fs, hr, hrun, hended, hW, hsame⟩ := X52.leave (v := some (.int 1)) (fun h => by rw [hret0] at h; cases h)
    refine ⟨_, _, pre37 _ ?_, hrun, hended, _, _, rfl, ?_, ⟨_, rfl⟩, hW, hsame.mono (by decide) (by decide)⟩
    · skip
      show Steps p.tables e below (s₁.setTop (mkF m 6 #[(vi p1), .unset, .unset, .unset] [(.int 2)])) _
      refine XS.istoreN X0.here hx rfl (hb hby at_6) rfl (l' := #[(vi p1), (vi 2), .unset, .unset]) rfl ?_
      refine XS.iloadN X0.here hx rfl (hb hby at_7) rfl ?_
      refine st38 _ ?_
      refine XS.astoreN X38.here hx rfl (hb hby at_11) rfl rfl (l' := #[(vi p1), (vi 2), (vr wRETRY), .unset]) rfl ?_
      refine XS.iconst X38.here hx rfl (hb hby at_12) ?_
      show Steps p.tables e below (T38.setTop (mkF m 13 #[(vi p1), (vi 2), (vr wRETRY), .unset] [(.int 5)])) _
      refine st39 _ ?_
      refine XS.dup X39.here hx rfl (hb hby at_15) rfl rfl ?_
      refine XS.iconst X39.here hx rfl (hb hby at_16) ?_
      refine XS.iconst X39.here hx rfl (hb hby at_17) ?_
      refine st42 _ ?_
      show Steps p.tables e below (T42.setTop (mkF m 19 #[(vi p1), (vi 2), (vr wRETRY), .unset] [(.ref b39)])) _
      refine XS.dup X42.here hx rfl (hb hby at_19) rfl rfl ?_
      refine XS.iconst X42.here hx rfl (hb hby at_20) ?_
      refine XS.iconst X42.here hx rfl (hb hby at_21) ?_
      refine st44 _ ?_
      refine XS.dup X44.here hx rfl (hb hby at_23) rfl rfl ?_
      show Steps p.tables e below (T44.setTop (mkF m 24 #[(vi p1), (vi 2), (vr wRETRY), .unset] [(.ref b39), (.ref b39)])) _
      refine XS.iconst X44.here hx rfl (hb hby at_24) ?_
      refine XS.iconst X44.here hx rfl (hb hby at_25) ?_
      refine st46 _ ?_
      refine XS.dup X46.here hx rfl (hb hby at_27) rfl rfl ?_
      refine XS.iconst X46.here hx rfl (hb hby at_28) ?_
      show Steps p.tables e below (T46.setTop (mkF m 29 #[(vi p1), (vi 2), (vr wRETRY), .unset] [(.int 3), (.ref b39), (.ref b39)])) _
      refine XS.iconst X46.here hx rfl (hb hby at_29) ?_
      refine st48 _ ?_
      refine XS.dup X48.here hx rfl (hb hby at_31) rfl rfl ?_
      refine XS.iconst X48.here hx rfl (hb hby at_32) ?_
      refine XS.iconst X48.here hx rfl (hb hby at_33) ?_
      show Steps p.tables e below (T48.setTop (mkF m 34 #[(vi p1), (vi 2), (vr wRETRY), .unset] [(.int 0), (.int 4), (.ref b39), (.ref b39)])) _
      refine st50 _ ?_
      refine XS.astoreN X50.here hx rfl (hb hby at_35) rfl rfl (l' := #[(vi p1), (vi 2), (vr wRETRY), (vr b39)]) rfl ?_
      refine XS.aloadN X50.here hx rfl (hb hby at_36) rfl rfl ?_
      refine st52.trans ?_
      refine XS.aloadN X52.here hx rfl (hb hby at_40) rfl rfl ?_
      show Steps p.tables e below (T52.setTop (mkF m 41 #[(vi p1), (vi 2), (vr wRETRY), (vr b39)] [(.ref b39), (.int 0)])) _
      refine XS.iloadN X52.here hx rfl (hb hby at_41) rfl ?_
      refine X52.baloadBooleans hx (j := (2 : Int32)) (v := (.int 0)) (by rw [K52q]; exact Ar53.1) (State.isArrayOf_alike hZ.alike Ar53.2.1) Ar53.2.2 hin53 hat53 (g := (mkF m 42 #[(vi p1), (vi 2), (vr wRETRY), (vr b39)] [(.int 2), (.ref b39), (.int 0)])) rfl rfl (hb hby at_42) _ ?_
      refine XS.icmpNo X52.here hx rfl (hb hby at_43) rfl (teq (by decide : (0 : Int32) = (0 : Int32))).2 ?_
      refine XS.iconst X52.here hx rfl (hb hby at_46) ?_
      refine XS.goto X52.here hx rfl (pc0 := 47) (pc' := 51) rfl (hb hby at_47) (by decide) (by decide) ?_
      show Steps p.tables e below (T52.setTop (mkF m 51 #[(vi p1), (vi 2), (vr wRETRY), (vr b39)] [(.int 1)])) _
      exact retN X52 hx (t := .boolean) hret0 (by simp) (hb hby at_51) hr
    · show Q_rm0 Z wACKNOWLEDGED wDEAD_LETTERED wSENT_BACK wSTORE_WAIT wRETRY p1 h0 n0 _ T52.heap _
      rw [K52q]
      exact ⟨rfl, N52⟩
  · skip
    have pre54 : ∀ t, Steps p.tables e below (s₁.setTop (mkF m 6 #[(vi p1), .unset, .unset, .unset] [(.int 3)])) t → Steps p.tables e below (s₁.setTop (entryFrame m #[(.int p1)] maxLocals)) t := by
      intro t k
      refine pre1 t ?_
      rw [hk2]
      exact k
    obtain ⟨_, _, ⟨T55, L55, k55, n55⟩, -, X55, ⟨Lc55, hQ55, l55, y55, z55⟩, st55⟩ := Jvm.LawKit.callS X0 hx (y := M0) hown (mvT hZ (ow hw 1 rfl)) (mvT hZ (ow hw 2 rfl)) (mvT hZ (ow hw 3 rfl)) (mvT hZ (ow hw 4 rfl)) (by decide) (backOf (W := 0) (rm1_3 l Z a0 hw [] wACKNOWLEDGED wDEAD_LETTERED wSENT_BACK wSTORE_WAIT wRETRY hS  h0 n0 O0 ) hZ (ow hw 4 rfl) (ow hw 3 rfl) (by decide) (by decide)) (g := (mkF m 8 #[(vi p1), (vi 3), .unset, .unset] [(.int 3)])) rfl (by rw [hml]; rfl) (argsL := [(.int 3)]) (rest := []) (lenOf pd_0 rfl) rfl (by show 2 * 0 + _ ≤ _; exact Nat.le_of_eq rfl) (hb hby at_8) (fun _ _ => ⟨rfl, e0, (by decide : 0 + 0 ≤ _), (by decide : 0 + 0 ≤ _)⟩)
    dsimp only [Pt.U, Pt.locs, Pt.cells, Pt.slots] at X55 l55 y55 z55 st55 hQ55
    subst l55 y55 z55
    obtain ⟨rfl, Nq55, K55q⟩ := hQ55
    have N55 := Fr.app N0 Nq55
    obtain ⟨T56, h56, k56, X56, e56, E56, A56, st56⟩ := newP X55 hx hZ (ow hw 8 rfl) K55q (g := (mkF m 13 #[(vi p1), (vi 3), (vr wDEAD_LETTERED), .unset] [(.int 5)])) rfl (hb hby at_13) rfl (by decide) (cap := 5) (by decide) (by decide) (by decide) (by decide)
    obtain ⟨b56, g56⟩ : ∃ z, z = h0.size := ⟨_, rfl⟩
    rw [← g56] at A56 st56
    have g57 : n0 ≤ b56 := Nat.le_trans (own_sz O0) (Nat.le_of_eq g56.symm)
    have O58 : Old Z n0 h56 := O0.ext E56
    have V56 : Arv Z h56 b56 k56 .boolean (5 : Int32) ([(.int 0), (.int 0), (.int 0), (.int 0), (.int 0)]) (.int 0) := (Arv.new A56 (by decide)).pad (pad_rep [] (.int 0) 5)
    obtain ⟨cl59, Ar59, q59, Sz59, Nn59, Ha59, Gg59⟩ := V56
    have hin59 : ¬ ((0 : Int32) < 0 ∨ cl59.slots.size ≤ ((0 : Int32)).toNatClampNeg) := inb_of Sz59 ⟨by decide, by decide⟩
    obtain ⟨T59, h59, X59, e59, W59, st59⟩ := stZ X56 hx hZ e56 Ar59 (j := (0 : Int32)) hin59 (g := (mkF m 18 #[(vi p1), (vi 3), (vr wDEAD_LETTERED), .unset] [(.int 1), (.int 0), (.ref b56), (.ref b56)])) rfl rfl (hb hby at_18)
    have O60 : Old Z n0 h59 := O58.wr W59 g57
    have V59 : Arv Z h59 b56 k56 .boolean (5 : Int32) ([(.int 1), (.int 0), (.int 0), (.int 0), (.int 0)]) (.int 0) := Arv.set Ar59 q59 Sz59 Nn59 Ha59 Gg59 (v := (.int 1)) (by decide) W59 0 rfl (Nat.le_of_ble_eq_true rfl)
    have N59 := Fr.snoc X59 N55 g57
    obtain ⟨cl61, Ar61, q61, Sz61, Nn61, Ha61, Gg61⟩ := V59
    have hin61 : ¬ ((1 : Int32) < 0 ∨ cl61.slots.size ≤ ((1 : Int32)).toNatClampNeg) := inb_of Sz61 ⟨by decide, by decide⟩
    obtain ⟨T61, h61, X61, e61, W61, st61⟩ := stZ X59 hx hZ e59 Ar61 (j := (1 : Int32)) hin61 (g := (mkF m 22 #[(vi p1), (vi 3), (vr wDEAD_LETTERED), .unset] [(.int 0), (.int 1), (.ref b56), (.ref b56)])) rfl rfl (hb hby at_22)
    have O62 : Old Z n0 h61 := O60.wr W61 g57
    have V61 : Arv Z h61 b56 k56 .boolean (5 : Int32) ([(.int 1), (.int 0), (.int 0), (.int 0), (.int 0)]) (.int 0) := Arv.set Ar61 q61 Sz61 Nn61 Ha61 Gg61 (v := (.int 0)) (by decide) W61 1 rfl (Nat.le_of_ble_eq_true rfl)
    have N61 := Fr.snoc X61 N59 g57
    obtain ⟨cl63, Ar63, q63, Sz63, Nn63, Ha63, Gg63⟩ := V61
    have hin63 : ¬ ((2 : Int32) < 0 ∨ cl63.slots.size ≤ ((2 : Int32)).toNatClampNeg) := inb_of Sz63 ⟨by decide, by decide⟩
    obtain ⟨T63, h63, X63, e63, W63, st63⟩ := stZ X61 hx hZ e61 Ar63 (j := (2 : Int32)) hin63 (g := (mkF m 26 #[(vi p1), (vi 3), (vr wDEAD_LETTERED), .unset] [(.int 0), (.int 2), (.ref b56), (.ref b56)])) rfl rfl (hb hby at_26)
    have O64 : Old Z n0 h63 := O62.wr W63 g57
    have V63 : Arv Z h63 b56 k56 .boolean (5 : Int32) ([(.int 1), (.int 0), (.int 0), (.int 0), (.int 0)]) (.int 0) := Arv.set Ar63 q63 Sz63 Nn63 Ha63 Gg63 (v := (.int 0)) (by decide) W63 2 rfl (Nat.le_of_ble_eq_true rfl)
    have N63 := Fr.snoc X63 N61 g57
    obtain ⟨cl65, Ar65, q65, Sz65, Nn65, Ha65, Gg65⟩ := V63
    have hin65 : ¬ ((3 : Int32) < 0 ∨ cl65.slots.size ≤ ((3 : Int32)).toNatClampNeg) := inb_of Sz65 ⟨by decide, by decide⟩
    obtain ⟨T65, h65, X65, e65, W65, st65⟩ := stZ X63 hx hZ e63 Ar65 (j := (3 : Int32)) hin65 (g := (mkF m 30 #[(vi p1), (vi 3), (vr wDEAD_LETTERED), .unset] [(.int 1), (.int 3), (.ref b56), (.ref b56)])) rfl rfl (hb hby at_30)
    have O66 : Old Z n0 h65 := O64.wr W65 g57
    have V65 : Arv Z h65 b56 k56 .boolean (5 : Int32) ([(.int 1), (.int 0), (.int 0), (.int 1), (.int 0)]) (.int 0) := Arv.set Ar65 q65 Sz65 Nn65 Ha65 Gg65 (v := (.int 1)) (by decide) W65 3 rfl (Nat.le_of_ble_eq_true rfl)
    have N65 := Fr.snoc X65 N63 g57
    obtain ⟨cl67, Ar67, q67, Sz67, Nn67, Ha67, Gg67⟩ := V65
    have hin67 : ¬ ((4 : Int32) < 0 ∨ cl67.slots.size ≤ ((4 : Int32)).toNatClampNeg) := inb_of Sz67 ⟨by decide, by decide⟩
    obtain ⟨T67, h67, X67, e67, W67, st67⟩ := stZ X65 hx hZ e65 Ar67 (j := (4 : Int32)) hin67 (g := (mkF m 34 #[(vi p1), (vi 3), (vr wDEAD_LETTERED), .unset] [(.int 0), (.int 4), (.ref b56), (.ref b56)])) rfl rfl (hb hby at_34)
    have O68 : Old Z n0 h67 := O66.wr W67 g57
    have V67 : Arv Z h67 b56 k56 .boolean (5 : Int32) ([(.int 1), (.int 0), (.int 0), (.int 1), (.int 0)]) (.int 0) := Arv.set Ar67 q67 Sz67 Nn67 Ha67 Gg67 (v := (.int 0)) (by decide) W67 4 rfl (Nat.le_of_ble_eq_true rfl)
    have N67 := Fr.snoc X67 N65 g57
    obtain ⟨cq69, kq69, q69a, q69b, q69c⟩ := isOf hZ e67 (E_wDEAD_LETTERED.ext O68.2)
    obtain ⟨_, _, ⟨T69, L69, k69, n69⟩, -, X69, ⟨Lc69, hQ69, l69, y69, z69⟩, st69⟩ := X67.virtualBack hx (y := M1) (z := M1) hown (mvT hZ (ow hw 9 rfl)) (mvT hZ (ow hw 10 rfl)) (notFace_of_selects (args := #[]) (mvT hZ (ow hw 12 rfl))) (mvT hZ (ow hw 12 rfl)) (mvT hZ (ow hw 11 rfl)) (by decide) (backOf (W := 0) (rm2_3 l Z a0 hw [] wACKNOWLEDGED wDEAD_LETTERED wSENT_BACK wSTORE_WAIT wRETRY hS  h67 n0 O68 ) hZ (ow hw 13 rfl) (ow hw 6 rfl) (by decide) (by decide)) q69a q69c (g := (mkF m 37 #[(vi p1), (vi 3), (vr wDEAD_LETTERED), (vr b56)] [(.ref wDEAD_LETTERED)])) rfl (by rw [hml]; rfl) (Steps.refl _) (argsL := []) (rest := []) (lenOf pd_1 rfl) rfl (by show 2 * 0 + _ ≤ _; exact Nat.le_of_eq rfl) (hb hby at_37) (fun _ _ => ⟨rfl, e67, (by decide : 1 + 0 ≤ _), (by decide : 5 + 0 ≤ _)⟩)
    dsimp only [Pt.U, Pt.locs, Pt.cells, Pt.slots] at X69 l69 y69 z69 st69 hQ69
    subst l69 y69 z69
    obtain ⟨rfl, Nq69, K69q⟩ := hQ69
    have N69 := Fr.app N67 Nq69
    obtain ⟨cl70, Ar70, q70, Sz70, Nn70, Ha70, Gg70⟩ := V67
    have hin70 : ¬ ((3 : Int32) < 0 ∨ cl70.slots.size ≤ ((3 : Int32)).toNatClampNeg) := inb_of Sz70 ⟨by decide, by decide⟩
    have hat70 : cl70.slots[((3 : Int32)).toNatClampNeg]? = some (.int 1) := Ha70.at hin70 rfl
    obtain ⟨fs, hr, hrun, hended, hW, hsame⟩ := X69.leave (v := some (.int 1)) (fun h => by rw [hret0] at h; cases h)
    refine ⟨_, _, pre54 _ ?_, hrun, hended, _, _, rfl, ?_, ⟨_, rfl⟩, hW, hsame.mono (by decide) (by decide)⟩
    · skip
      show Steps p.tables e below (s₁.setTop (mkF m 6 #[(vi p1), .unset, .unset, .unset] [(.int 3)])) _
      refine XS.istoreN X0.here hx rfl (hb hby at_6) rfl (l' := #[(vi p1), (vi 3), .unset, .unset]) rfl ?_
      refine XS.iloadN X0.here hx rfl (hb hby at_7) rfl ?_
      refine st55 _ ?_
      refine XS.astoreN X55.here hx rfl (hb hby at_11) rfl rfl (l' := #[(vi p1), (vi 3), (vr wDEAD_LETTERED), .unset]) rfl ?_
      refine XS.iconst X55.here hx rfl (hb hby at_12) ?_
      show Steps p.tables e below (T55.setTop (mkF m 13 #[(vi p1), (vi 3), (vr wDEAD_LETTERED), .unset] [(.int 5)])) _
      refine st56 _ ?_
      refine XS.dup X56.here hx rfl (hb hby at_15) rfl rfl ?_
      refine XS.iconst X56.here hx rfl (hb hby at_16) ?_
      refine XS.iconst X56.here hx rfl (hb hby at_17) ?_
      refine st59 _ ?_
      show Steps p.tables e below (T59.setTop (mkF m 19 #[(vi p1), (vi 3), (vr wDEAD_LETTERED), .unset] [(.ref b56)])) _
      refine XS.dup X59.here hx rfl (hb hby at_19) rfl rfl ?_
      refine XS.iconst X59.here hx rfl (hb hby at_20) ?_
      refine XS.iconst X59.here hx rfl (hb hby at_21) ?_
      refine st61 _ ?_
      refine XS.dup X61.here hx rfl (hb hby at_23) rfl rfl ?_
      show Steps p.tables e below (T61.setTop (mkF m 24 #[(vi p1), (vi 3), (vr wDEAD_LETTERED), .unset] [(.ref b56), (.ref b56)])) _
      refine XS.iconst X61.here hx rfl (hb hby at_24) ?_
      refine XS.iconst X61.here hx rfl (hb hby at_25) ?_
      refine st63 _ ?_
      refine XS.dup X63.here hx rfl (hb hby at_27) rfl rfl ?_
      refine XS.iconst X63.here hx rfl (hb hby at_28) ?_
      show Steps p.tables e below (T63.setTop (mkF m 29 #[(vi p1), (vi 3), (vr wDEAD_LETTERED), .unset] [(.int 3), (.ref b56), (.ref b56)])) _
      refine XS.iconst X63.here hx rfl (hb hby at_29) ?_
      refine st65 _ ?_
      refine XS.dup X65.here hx rfl (hb hby at_31) rfl rfl ?_
      refine XS.iconst X65.here hx rfl (hb hby at_32) ?_
      refine XS.iconst X65.here hx rfl (hb hby at_33) ?_
      show Steps p.tables e below (T65.setTop (mkF m 34 #[(vi p1), (vi 3), (vr wDEAD_LETTERED), .unset] [(.int 0), (.int 4), (.ref b56), (.ref b56)])) _
      refine st67 _ ?_
      refine XS.astoreN X67.here hx rfl (hb hby at_35) rfl rfl (l' := #[(vi p1), (vi 3), (vr wDEAD_LETTERED), (vr b56)]) rfl ?_
      refine XS.aloadN X67.here hx rfl (hb hby at_36) rfl rfl ?_
      refine st69.trans ?_
      refine XS.aloadN X69.here hx rfl (hb hby at_40) rfl rfl ?_
      show Steps p.tables e below (T69.setTop (mkF m 41 #[(vi p1), (vi 3), (vr wDEAD_LETTERED), (vr b56)] [(.ref b56), (.int 1)])) _
      refine XS.iloadN X69.here hx rfl (hb hby at_41) rfl ?_
      refine X69.baloadBooleans hx (j := (3 : Int32)) (v := (.int 1)) (by rw [K69q]; exact Ar70.1) (State.isArrayOf_alike hZ.alike Ar70.2.1) Ar70.2.2 hin70 hat70 (g := (mkF m 42 #[(vi p1), (vi 3), (vr wDEAD_LETTERED), (vr b56)] [(.int 3), (.ref b56), (.int 1)])) rfl rfl (hb hby at_42) _ ?_
      refine XS.icmpNo X69.here hx rfl (hb hby at_43) rfl (teq (by decide : (1 : Int32) = (1 : Int32))).2 ?_
      refine XS.iconst X69.here hx rfl (hb hby at_46) ?_
      refine XS.goto X69.here hx rfl (pc0 := 47) (pc' := 51) rfl (hb hby at_47) (by decide) (by decide) ?_
      show Steps p.tables e below (T69.setTop (mkF m 51 #[(vi p1), (vi 3), (vr wDEAD_LETTERED), (vr b56)] [(.int 1)])) _
      exact retN X69 hx (t := .boolean) hret0 (by simp) (hb hby at_51) hr
    · show Q_rm0 Z wACKNOWLEDGED wDEAD_LETTERED wSENT_BACK wSTORE_WAIT wRETRY p1 h0 n0 _ T69.heap _
      rw [K69q]
      exact ⟨rfl, N69⟩
  · skip
    have pre71 : ∀ t, Steps p.tables e below (s₁.setTop (mkF m 6 #[(vi p1), .unset, .unset, .unset] [(.int 4)])) t → Steps p.tables e below (s₁.setTop (entryFrame m #[(.int p1)] maxLocals)) t := by
      intro t k
      refine pre1 t ?_
      rw [hk2]
      exact k
    obtain ⟨_, _, ⟨T72, L72, k72, n72⟩, -, X72, ⟨Lc72, hQ72, l72, y72, z72⟩, st72⟩ := Jvm.LawKit.callS X0 hx (y := M0) hown (mvT hZ (ow hw 1 rfl)) (mvT hZ (ow hw 2 rfl)) (mvT hZ (ow hw 3 rfl)) (mvT hZ (ow hw 4 rfl)) (by decide) (backOf (W := 0) (rm1_4 l Z a0 hw [] wACKNOWLEDGED wDEAD_LETTERED wSENT_BACK wSTORE_WAIT wRETRY hS  h0 n0 O0 ) hZ (ow hw 4 rfl) (ow hw 3 rfl) (by decide) (by decide)) (g := (mkF m 8 #[(vi p1), (vi 4), .unset, .unset] [(.int 4)])) rfl (by rw [hml]; rfl) (argsL := [(.int 4)]) (rest := []) (lenOf pd_0 rfl) rfl (by show 2 * 0 + _ ≤ _; exact Nat.le_of_eq rfl) (hb hby at_8) (fun _ _ => ⟨rfl, e0, (by decide : 0 + 0 ≤ _), (by decide : 0 + 0 ≤ _)⟩)
    dsimp only [Pt.U, Pt.locs, Pt.cells, Pt.slots] at X72 l72 y72 z72 st72 hQ72
    subst l72 y72 z72
    obtain ⟨rfl, Nq72, K72q⟩ := hQ72
    have N72 := Fr.app N0 Nq72
    obtain ⟨T73, h73, k73, X73, e73, E73, A73, st73⟩ := newP X72 hx hZ (ow hw 8 rfl) K72q (g := (mkF m 13 #[(vi p1), (vi 4), (vr wSTORE_WAIT), .unset] [(.int 5)])) rfl (hb hby at_13) rfl (by decide) (cap := 5) (by decide) (by decide) (by decide) (by decide)
    obtain ⟨b73, g73⟩ : ∃ z, z = h0.size := ⟨_, rfl⟩
    rw [← g73] at A73 st73
    have g74 : n0 ≤ b73 := Nat.le_trans (own_sz O0) (Nat.le_of_eq g73.symm)
    have O75 : Old Z n0 h73 := O0.ext E73
    have V73 : Arv Z h73 b73 k73 .boolean (5 : Int32) ([(.int 0), (.int 0), (.int 0), (.int 0), (.int 0)]) (.int 0) := (Arv.new A73 (by decide)).pad (pad_rep [] (.int 0) 5)
    obtain ⟨cl76, Ar76, q76, Sz76, Nn76, Ha76, Gg76⟩ := V73
    have hin76 : ¬ ((0 : Int32) < 0 ∨ cl76.slots.size ≤ ((0 : Int32)).toNatClampNeg) := inb_of Sz76 ⟨by decide, by decide⟩
    obtain ⟨T76, h76, X76, e76, W76, st76⟩ := stZ X73 hx hZ e73 Ar76 (j := (0 : Int32)) hin76 (g := (mkF m 18 #[(vi p1), (vi 4), (vr wSTORE_WAIT), .unset] [(.int 1), (.int 0), (.ref b73), (.ref b73)])) rfl rfl (hb hby at_18)
    have O77 : Old Z n0 h76 := O75.wr W76 g74
    have V76 : Arv Z h76 b73 k73 .boolean (5 : Int32) ([(.int 1), (.int 0), (.int 0), (.int 0), (.int 0)]) (.int 0) := Arv.set Ar76 q76 Sz76 Nn76 Ha76 Gg76 (v := (.int 1)) (by decide) W76 0 rfl (Nat.le_of_ble_eq_true rfl)
    have N76 := Fr.snoc X76 N72 g74
    obtain ⟨cl78, Ar78, q78, Sz78, Nn78, Ha78, Gg78⟩ := V76
    have hin78 : ¬ ((1 : Int32) < 0 ∨ cl78.slots.size ≤ ((1 : Int32)).toNatClampNeg) := inb_of Sz78 ⟨by decide, by decide⟩
    obtain ⟨T78, h78, X78, e78, W78, st78⟩ := stZ X76 hx hZ e76 Ar78 (j := (1 : Int32)) hin78 (g := (mkF m 22 #[(vi p1), (vi 4), (vr wSTORE_WAIT), .unset] [(.int 0), (.int 1), (.ref b73), (.ref b73)])) rfl rfl (hb hby at_22)
    have O79 : Old Z n0 h78 := O77.wr W78 g74
    have V78 : Arv Z h78 b73 k73 .boolean (5 : Int32) ([(.int 1), (.int 0), (.int 0), (.int 0), (.int 0)]) (.int 0) := Arv.set Ar78 q78 Sz78 Nn78 Ha78 Gg78 (v := (.int 0)) (by decide) W78 1 rfl (Nat.le_of_ble_eq_true rfl)
    have N78 := Fr.snoc X78 N76 g74
    obtain ⟨cl80, Ar80, q80, Sz80, Nn80, Ha80, Gg80⟩ := V78
    have hin80 : ¬ ((2 : Int32) < 0 ∨ cl80.slots.size ≤ ((2 : Int32)).toNatClampNeg) := inb_of Sz80 ⟨by decide, by decide⟩
    obtain ⟨T80, h80, X80, e80, W80, st80⟩ := stZ X78 hx hZ e78 Ar80 (j := (2 : Int32)) hin80 (g := (mkF m 26 #[(vi p1), (vi 4), (vr wSTORE_WAIT), .unset] [(.int 0), (.int 2), (.ref b73), (.ref b73)])) rfl rfl (hb hby at_26)
    have O81 : Old Z n0 h80 := O79.wr W80 g74
    have V80 : Arv Z h80 b73 k73 .boolean (5 : Int32) ([(.int 1), (.int 0), (.int 0), (.int 0), (.int 0)]) (.int 0) := Arv.set Ar80 q80 Sz80 Nn80 Ha80 Gg80 (v := (.int 0)) (by decide) W80 2 rfl (Nat.le_of_ble_eq_true rfl)
    have N80 := Fr.snoc X80 N78 g74
    obtain ⟨cl82, Ar82, q82, Sz82, Nn82, Ha82, Gg82⟩ := V80
    have hin82 : ¬ ((3 : Int32) < 0 ∨ cl82.slots.size ≤ ((3 : Int32)).toNatClampNeg) := inb_of Sz82 ⟨by decide, by decide⟩
    obtain ⟨T82, h82, X82, e82, W82, st82⟩ := stZ X80 hx hZ e80 Ar82 (j := (3 : Int32)) hin82 (g := (mkF m 30 #[(vi p1), (vi 4), (vr wSTORE_WAIT), .unset] [(.int 1), (.int 3), (.ref b73), (.ref b73)])) rfl rfl (hb hby at_30)
    have O83 : Old Z n0 h82 := O81.wr W82 g74
    have V82 : Arv Z h82 b73 k73 .boolean (5 : Int32) ([(.int 1), (.int 0), (.int 0), (.int 1), (.int 0)]) (.int 0) := Arv.set Ar82 q82 Sz82 Nn82 Ha82 Gg82 (v := (.int 1)) (by decide) W82 3 rfl (Nat.le_of_ble_eq_true rfl)
    have N82 := Fr.snoc X82 N80 g74
    obtain ⟨cl84, Ar84, q84, Sz84, Nn84, Ha84, Gg84⟩ := V82
    have hin84 : ¬ ((4 : Int32) < 0 ∨ cl84.slots.size ≤ ((4 : Int32)).toNatClampNeg) := inb_of Sz84 ⟨by decide, by decide⟩
    obtain ⟨T84, h84, X84, e84, W84, st84⟩ := stZ X82 hx hZ e82 Ar84 (j := (4 : Int32)) hin84 (g := (mkF m 34 #[(vi p1), (vi 4), (vr wSTORE_WAIT), .unset] [(.int 0), (.int 4), (.ref b73), (.ref b73)])) rfl rfl (hb hby at_34)
    have O85 : Old Z n0 h84 := O83.wr W84 g74
    have V84 : Arv Z h84 b73 k73 .boolean (5 : Int32) ([(.int 1), (.int 0), (.int 0), (.int 1), (.int 0)]) (.int 0) := Arv.set Ar84 q84 Sz84 Nn84 Ha84 Gg84 (v := (.int 0)) (by decide) W84 4 rfl (Nat.le_of_ble_eq_true rfl)
    have N84 := Fr.snoc X84 N82 g74
    obtain ⟨cq86, kq86, q86a, q86b, q86c⟩ := isOf hZ e84 (E_wSTORE_WAIT.ext O85.2)
    obtain ⟨_, _, ⟨T86, L86, k86, n86⟩, -, X86, ⟨Lc86, hQ86, l86, y86, z86⟩, st86⟩ := X84.virtualBack hx (y := M1) (z := M1) hown (mvT hZ (ow hw 9 rfl)) (mvT hZ (ow hw 10 rfl)) (notFace_of_selects (args := #[]) (mvT hZ (ow hw 12 rfl))) (mvT hZ (ow hw 12 rfl)) (mvT hZ (ow hw 11 rfl)) (by decide) (backOf (W := 0) (rm2_4 l Z a0 hw [] wACKNOWLEDGED wDEAD_LETTERED wSENT_BACK wSTORE_WAIT wRETRY hS  h84 n0 O85 ) hZ (ow hw 13 rfl) (ow hw 6 rfl) (by decide) (by decide)) q86a q86c (g := (mkF m 37 #[(vi p1), (vi 4), (vr wSTORE_WAIT), (vr b73)] [(.ref wSTORE_WAIT)])) rfl (by rw [hml]; rfl) (Steps.refl _) (argsL := []) (rest := []) (lenOf pd_1 rfl) rfl (by show 2 * 0 + _ ≤ _; exact Nat.le_of_eq rfl) (hb hby at_37) (fun _ _ => ⟨rfl, e84, (by decide : 1 + 0 ≤ _), (by decide : 5 + 0 ≤ _)⟩)
    dsimp only [Pt.U, Pt.locs, Pt.cells, Pt.slots] at X86 l86 y86 z86 st86 hQ86
    subst l86 y86 z86
    obtain ⟨rfl, Nq86, K86q⟩ := hQ86
    have N86 := Fr.app N84 Nq86
    obtain ⟨cl87, Ar87, q87, Sz87, Nn87, Ha87, Gg87⟩ := V84
    have hin87 : ¬ ((4 : Int32) < 0 ∨ cl87.slots.size ≤ ((4 : Int32)).toNatClampNeg) := inb_of Sz87 ⟨by decide, by decide⟩
    have hat87 : cl87.slots[((4 : Int32)).toNatClampNeg]? = some (.int 0) := Ha87.at hin87 rfl
    obtain ⟨fs, hr, hrun, hended, hW, hsame⟩ := X86.leave (v := some (.int 1)) (fun h => by rw [hret0] at h; cases h)
    refine ⟨_, _, pre71 _ ?_, hrun, hended, _, _, rfl, ?_, ⟨_, rfl⟩, hW, hsame.mono (by decide) (by decide)⟩
    · skip
      show Steps p.tables e below (s₁.setTop (mkF m 6 #[(vi p1), .unset, .unset, .unset] [(.int 4)])) _
      refine XS.istoreN X0.here hx rfl (hb hby at_6) rfl (l' := #[(vi p1), (vi 4), .unset, .unset]) rfl ?_
      refine XS.iloadN X0.here hx rfl (hb hby at_7) rfl ?_
      refine st72 _ ?_
      refine XS.astoreN X72.here hx rfl (hb hby at_11) rfl rfl (l' := #[(vi p1), (vi 4), (vr wSTORE_WAIT), .unset]) rfl ?_
      refine XS.iconst X72.here hx rfl (hb hby at_12) ?_
      show Steps p.tables e below (T72.setTop (mkF m 13 #[(vi p1), (vi 4), (vr wSTORE_WAIT), .unset] [(.int 5)])) _
      refine st73 _ ?_
      refine XS.dup X73.here hx rfl (hb hby at_15) rfl rfl ?_
      refine XS.iconst X73.here hx rfl (hb hby at_16) ?_
      refine XS.iconst X73.here hx rfl (hb hby at_17) ?_
      refine st76 _ ?_
      show Steps p.tables e below (T76.setTop (mkF m 19 #[(vi p1), (vi 4), (vr wSTORE_WAIT), .unset] [(.ref b73)])) _
      refine XS.dup X76.here hx rfl (hb hby at_19) rfl rfl ?_
      refine XS.iconst X76.here hx rfl (hb hby at_20) ?_
      refine XS.iconst X76.here hx rfl (hb hby at_21) ?_
      refine st78 _ ?_
      refine XS.dup X78.here hx rfl (hb hby at_23) rfl rfl ?_
      show Steps p.tables e below (T78.setTop (mkF m 24 #[(vi p1), (vi 4), (vr wSTORE_WAIT), .unset] [(.ref b73), (.ref b73)])) _
      refine XS.iconst X78.here hx rfl (hb hby at_24) ?_
      refine XS.iconst X78.here hx rfl (hb hby at_25) ?_
      refine st80 _ ?_
      refine XS.dup X80.here hx rfl (hb hby at_27) rfl rfl ?_
      refine XS.iconst X80.here hx rfl (hb hby at_28) ?_
      show Steps p.tables e below (T80.setTop (mkF m 29 #[(vi p1), (vi 4), (vr wSTORE_WAIT), .unset] [(.int 3), (.ref b73), (.ref b73)])) _
      refine XS.iconst X80.here hx rfl (hb hby at_29) ?_
      refine st82 _ ?_
      refine XS.dup X82.here hx rfl (hb hby at_31) rfl rfl ?_
      refine XS.iconst X82.here hx rfl (hb hby at_32) ?_
      refine XS.iconst X82.here hx rfl (hb hby at_33) ?_
      show Steps p.tables e below (T82.setTop (mkF m 34 #[(vi p1), (vi 4), (vr wSTORE_WAIT), .unset] [(.int 0), (.int 4), (.ref b73), (.ref b73)])) _
      refine st84 _ ?_
      refine XS.astoreN X84.here hx rfl (hb hby at_35) rfl rfl (l' := #[(vi p1), (vi 4), (vr wSTORE_WAIT), (vr b73)]) rfl ?_
      refine XS.aloadN X84.here hx rfl (hb hby at_36) rfl rfl ?_
      refine st86.trans ?_
      refine XS.aloadN X86.here hx rfl (hb hby at_40) rfl rfl ?_
      show Steps p.tables e below (T86.setTop (mkF m 41 #[(vi p1), (vi 4), (vr wSTORE_WAIT), (vr b73)] [(.ref b73), (.int 0)])) _
      refine XS.iloadN X86.here hx rfl (hb hby at_41) rfl ?_
      refine X86.baloadBooleans hx (j := (4 : Int32)) (v := (.int 0)) (by rw [K86q]; exact Ar87.1) (State.isArrayOf_alike hZ.alike Ar87.2.1) Ar87.2.2 hin87 hat87 (g := (mkF m 42 #[(vi p1), (vi 4), (vr wSTORE_WAIT), (vr b73)] [(.int 4), (.ref b73), (.int 0)])) rfl rfl (hb hby at_42) _ ?_
      refine XS.icmpNo X86.here hx rfl (hb hby at_43) rfl (teq (by decide : (0 : Int32) = (0 : Int32))).2 ?_
      refine XS.iconst X86.here hx rfl (hb hby at_46) ?_
      refine XS.goto X86.here hx rfl (pc0 := 47) (pc' := 51) rfl (hb hby at_47) (by decide) (by decide) ?_
      show Steps p.tables e below (T86.setTop (mkF m 51 #[(vi p1), (vi 4), (vr wSTORE_WAIT), (vr b73)] [(.int 1)])) _
      exact retN X86 hx (t := .boolean) hret0 (by simp) (hb hby at_51) hr
    · show Q_rm0 Z wACKNOWLEDGED wDEAD_LETTERED wSENT_BACK wSTORE_WAIT wRETRY p1 h0 n0 _ T86.heap _
      rw [K86q]
      exact ⟨rfl, N86⟩
theorem comes_1 {Post : Tables → Env → Array Value → State → Outcome → State → Prop} (hpost : ∀ tb e args s v u, (limb_1_1.after args s (.returned v) u = true ∧ limb_1_2.after args s (.returned v) u = true ∧ True) → FrameEnd s (.returned v) u (Jvm.fieldLocs frame_1_writes args s ++ Jvm.arrayLocs frame_1_arrays args s ++ Jvm.staticLocs frame_1_statics s) 16 128 → Post tb e args s (.returned v) u) :
    ArmFor flags0 classFile x code maxLocals ret World_1 tables_1 room_1 Calls_1 rest_1 Pre_1 Post := by
  intro l hfl _ _ p e ha hc hk s m args below hf hA hF happ hP
  obtain ⟨hcalls, hrest, hpre⟩ := hP
  obtain ⟨-, -, -, hnamed, -, -, -, hat⟩ := (Spec.applies_iff hf).mp happ
  obtain ⟨hg, hn⟩ := and_e (Cond.before_iff.mp (show (Jvm.Cond.and given_1 narrow_1).before args s = true from hpre))
  obtain ⟨g1, g2⟩ := and_e hg
  obtain ⟨w0, rfl⟩ : ∃ w0 : Value, args = #[w0] := by
    have hs : args.size = 1 := by simpa [Cond.value, given_1] using g1
    obtain ⟨L⟩ := args
    match L, hs with
    | [w0], _ => exact ⟨w0, rfl⟩
  have hw := fun d (hd : d ∈ tables_1) => atoms_spec (ws := Jvm.Cond.code x code maxLocals ret :: tables_1) hat d (List.mem_cons_of_mem _ hd)
  have hfit : Fit s := fun {y c} hc i hi => by
    obtain ⟨ha, rfl⟩ := Array.getElem?_eq_some_iff.mp hc
    have q := List.all_eq_true.mp ((Array.all_eq_true_iff_forall_mem.mp hF) _ (Array.getElem_mem ha)) i (List.mem_range.mpr hi)
    simpa [Array.getElem?_eq_getElem hi] using q
  obtain ⟨i0, ei0⟩ := is_v g2
  obtain rfl : w0 = (.int i0) := Option.some.inj ei0
  obtain ⟨g3, g4⟩ := and_e hn
  obtain ⟨g5, g6⟩ := and_e g4
  obtain ⟨g7, g8⟩ := and_e g6
  obtain ⟨g9, g10⟩ := and_e g8
  obtain ⟨g11, g12⟩ := and_e g10
  obtain ⟨g13, g14⟩ := and_e g12
  obtain ⟨g15, g16⟩ := and_e g14
  obtain ⟨g17, g18⟩ := and_e g16
  obtain ⟨g19, g20⟩ := and_e g18
  obtain ⟨wACKNOWLEDGED, ev_wACKNOWLEDGED⟩ := exa_v g3
  have S_wACKNOWLEDGED := Sta.start ev_wACKNOWLEDGED (Or.inr ⟨(ow hw 6 rfl), (ow hw 7 rfl)⟩)
  have E_wACKNOWLEDGED := Exa.start ev_wACKNOWLEDGED g3
  obtain ⟨wDEAD_LETTERED, ev_wDEAD_LETTERED⟩ := exa_v g5
  have S_wDEAD_LETTERED := Sta.start ev_wDEAD_LETTERED (Or.inr ⟨(ow hw 6 rfl), (ow hw 16 rfl)⟩)
  have E_wDEAD_LETTERED := Exa.start ev_wDEAD_LETTERED g5
  obtain ⟨wSENT_BACK, ev_wSENT_BACK⟩ := exa_v g11
  have S_wSENT_BACK := Sta.start ev_wSENT_BACK (Or.inr ⟨(ow hw 6 rfl), (ow hw 19 rfl)⟩)
  have E_wSENT_BACK := Exa.start ev_wSENT_BACK g11
  obtain ⟨wSTORE_WAIT, ev_wSTORE_WAIT⟩ := exa_v g15
  have S_wSTORE_WAIT := Sta.start ev_wSTORE_WAIT (Or.inr ⟨(ow hw 6 rfl), (ow hw 21 rfl)⟩)
  have E_wSTORE_WAIT := Exa.start ev_wSTORE_WAIT g15
  obtain ⟨wRETRY, ev_wRETRY⟩ := exa_v g19
  have S_wRETRY := Sta.start ev_wRETRY (Or.inr ⟨(ow hw 6 rfl), (ow hw 23 rfl)⟩)
  have E_wRETRY := Exa.start ev_wRETRY g19
  have F_ordinal_wDEAD_LETTERED := Fld.start ((fld_at ev_wDEAD_LETTERED).symm.trans (own_eq_int g7))
  have F_ordinal_wACKNOWLEDGED := Fld.start ((fld_at ev_wACKNOWLEDGED).symm.trans (own_eq_int g9))
  have F_ordinal_wSENT_BACK := Fld.start ((fld_at ev_wSENT_BACK).symm.trans (own_eq_int g13))
  have F_ordinal_wSTORE_WAIT := Fld.start ((fld_at ev_wSTORE_WAIT).symm.trans (own_eq_int g17))
  have F_ordinal_wRETRY := Fld.start ((fld_at ev_wRETRY).symm.trans (own_eq_int g20))
  have hS : SS s wACKNOWLEDGED wDEAD_LETTERED wSENT_BACK wSTORE_WAIT wRETRY := ⟨S_wACKNOWLEDGED, E_wACKNOWLEDGED, S_wDEAD_LETTERED, E_wDEAD_LETTERED, S_wSENT_BACK, E_wSENT_BACK, S_wSTORE_WAIT, E_wSTORE_WAIT, S_wRETRY, E_wRETRY, F_ordinal_wDEAD_LETTERED, F_ordinal_wACKNOWLEDGED, F_ordinal_wSENT_BACK, F_ordinal_wSTORE_WAIT, F_ordinal_wRETRY⟩
  obtain ⟨n, o, h1, h2, h3, _, L, rfl, ⟨rfl, N⟩, hq⟩ := rm0 l s _ hw tables_1 wACKNOWLEDGED wDEAD_LETTERED wSENT_BACK wSTORE_WAIT wRETRY hS i0 s.heap s.heap.size (Old.start s)  p e ha hc hk s m _ below hf ((Spec.applies_iff_loose hf).mp happ).1 ⟨rfl, State.Warmed39.refl s, rfl⟩ trivial
  refine ⟨n, _, h1, h2, h3, hpost _ _ _ _ _ _ ⟨Cond.after_iff.mpr rfl, Cond.after_iff.mpr (eq_i res_at (Term.int_eval (1)) rfl), trivial⟩ ⟨hq.1, hq.2.1, (hq.2.2.sift fun y hy => Or.inr (N y hy)).mono (by decide) (by decide)⟩⟩
theorem main_1_1 : Claimed_1_1 := comes_1 fun _ _ _ _ _ _ h hF => ⟨h.1, hF⟩
theorem main_1_2 : Claimed_1_2 := comes_1 fun _ _ _ _ _ _ h hF => ⟨h.2.1, hF⟩
end Jvm.Pilot.@@N@@
namespace Jvm.Pilot.@@N@@
open Jvm Jvm.ClassFile Sem Op Lib Jvm.Free Jvm.Stand Jvm.Pilot.@@N@@.Jvm.D
/-! MADE BY PROGRAM (witnessworld.py) out of the Statement's table words and the real class files: 14 classes; the members and pool entries that the words name. The judged class is class 1, her method 2. -/
namespace start1
open Jvm.ClassFile
def u (s : String) : CpInfo := .utf8 (stringToUtf16 s)
/-- a pool by its gaps: so many unusable entries, then the entry; so many at the end -/
def gap : Nat → List CpInfo → List CpInfo
  | 0, r => r
  | n + 1, r => .unusable :: gap n r
def poolList (es : List (Nat × CpInfo)) (last : Nat) : List CpInfo := es.foldr (fun e r => gap e.1 (e.2 :: r)) (gap last [])
def pool (es : List (Nat × CpInfo)) (last : Nat) : Array CpInfo := ⟨poolList es last⟩
def fileOf (pool : Array CpInfo) (this : Nat) (attrs : Array Attribute := #[]) (ms : Array MethodInfo := #[]) (fl : Nat := 33) (sup : Nat := 0) (ifs : Array Nat := #[]) (fds : Array FieldInfo := #[]) : ClassFile where
  minorVersion := 0
  majorVersion := 65
  constantPool := pool
  accessFlags := fl
  thisClass := this
  superClass := sup
  interfaces := ifs
  fields := fds
  methods := ms
  attributes := attrs
def plain (name : String) (sup : Option ClassId) : Class where
  name := name
  kind := .ordinary
  loader := none
  accessFlags := 33
  super := sup
  interfaces := #[]
  cf := none
  fields := #[]
  methods := #[]
  instanceTypes := #[]
  staticTypes := #[]
  resolved := #[]
  callSites := []
  init := .initialized
  statics := none
  mirror := none

def pool0 : Array CpInfo := pool [(5, u "<init>"), (0, u "()V"), (1, .class_ 10), (1, u "java/lang/Object")] 113

def k0m0 : Method := { name := "<init>", desc := "()V", sig := { parameters := [], returnType := none }, accessFlags := 1, code := none }
/-- java/lang/Object -/
def k0 : Class := { plain "java/lang/Object" none with
  accessFlags := 33
  interfaces := #[]
  cf := some (fileOf pool0 8 #[] #[{ accessFlags := 1, nameIndex := 5, descriptorIndex := 6, attributes := #[] }] 33 0 #[] #[])
  fields := #[]
  methods := #[k0m0]
  instanceTypes := #[]
  staticTypes := #[]
  resolved := Array.replicate 124 none
  statics := none }

def pool1 : Array CpInfo := pool [(2, .class_ 4), (1, u "java/lang/Object"), (0, u "<init>"), (0, u "()V"), (0, .fieldref 8 9), (0, .class_ 10), (0, .nameAndType 11 12), (0, u "com/example/onceward/onceward/broker/Settled"), (0, u "ACKNOWLEDGED"), (0, u "Lcom/example/onceward/onceward/broker/Settled;"), (0, .fieldref 8 14), (0, .nameAndType 15 12), (0, u "SENT_BACK"), (0, .fieldref 8 17), (0, .nameAndType 18 12), (0, u "RETRY"), (0, .fieldref 8 20), (0, .nameAndType 21 12), (0, u "DEAD_LETTERED"), (0, .fieldref 8 23), (0, .nameAndType 24 12), (0, u "STORE_WAIT"), (0, .integer 2147483647), (0, .methodref 27 28), (0, .class_ 29), (0, .nameAndType 30 31), (0, u "com/example/onceward/onceward/broker/SettledForGoodPinLaw"), (0, u "pick"), (0, u "(I)Lcom/example/onceward/onceward/broker/Settled;"), (0, .methodref 8 33), (0, .nameAndType 34 35), (0, u "forGood"), (0, u "()Z"), (3, u "law"), (0, u "(I)Z")] 4

def k1m0 : Method := { name := "<init>", desc := "()V", sig := { parameters := [], returnType := none }, accessFlags := 1, code := none }
def k1c1 : Code := { maxStack := 2, maxLocals := 1, code := method_2_code, exceptionTable := #[], attributes := #[] }
def k1m1 : Method := { name := "pick", desc := "(I)Lcom/example/onceward/onceward/broker/Settled;", sig := { parameters := [.int], returnType := some (.object "com/example/onceward/onceward/broker/Settled") }, accessFlags := 10, code := some k1c1 }
def k1c2 : Code := { maxStack := 4, maxLocals := 4, code := code, exceptionTable := #[], attributes := #[] }
def k1m2 : Method := { name := "law", desc := "(I)Z", sig := { parameters := [.int], returnType := some .boolean }, accessFlags := 9, code := some k1c2 }
/-- com/example/onceward/onceward/broker/SettledForGoodPinLaw -/
def k1 : Class := { plain "com/example/onceward/onceward/broker/SettledForGoodPinLaw" (some 0) with
  accessFlags := 49
  interfaces := #[]
  cf := some (fileOf pool1 27 #[] #[{ accessFlags := 1, nameIndex := 5, descriptorIndex := 6, attributes := #[] }, { accessFlags := 10, nameIndex := 30, descriptorIndex := 31, attributes := #[] }, { accessFlags := 9, nameIndex := 39, descriptorIndex := 40, attributes := #[] }] 49 2 #[] #[])
  fields := #[]
  methods := #[k1m0, k1m1, k1m2]
  instanceTypes := #[]
  staticTypes := #[]
  resolved := Array.replicate 45 none
  statics := none }

def pool2 : Array CpInfo := pool [(1, .class_ 2), (0, u "java/lang/constant/Constable"), (0, .class_ 4), (0, u "java/lang/Object")] 6

/-- java/lang/constant/Constable -/
def k2 : Class := { plain "java/lang/constant/Constable" (some 0) with
  accessFlags := 1537
  interfaces := #[]
  cf := some (fileOf pool2 1 #[] #[] 1537 3 #[] #[])
  fields := #[]
  methods := #[]
  instanceTypes := #[]
  staticTypes := #[]
  resolved := Array.replicate 11 none
  statics := none }

def pool3 : Array CpInfo := pool [(1, .class_ 2), (0, u "java/lang/Comparable"), (0, .class_ 4), (0, u "java/lang/Object")] 7

/-- java/lang/Comparable -/
def k3 : Class := { plain "java/lang/Comparable" (some 0) with
  accessFlags := 1537
  interfaces := #[]
  cf := some (fileOf pool3 1 #[] #[] 1537 3 #[] #[])
  fields := #[]
  methods := #[]
  instanceTypes := #[]
  staticTypes := #[]
  resolved := Array.replicate 12 none
  statics := none }

def pool4 : Array CpInfo := pool [(1, .class_ 2), (0, u "java/io/Serializable"), (0, .class_ 4), (0, u "java/lang/Object")] 2

/-- java/io/Serializable -/
def k4 : Class := { plain "java/io/Serializable" (some 0) with
  accessFlags := 1537
  interfaces := #[]
  cf := some (fileOf pool4 1 #[] #[] 1537 3 #[] #[])
  fields := #[]
  methods := #[]
  instanceTypes := #[]
  staticTypes := #[]
  resolved := Array.replicate 7 none
  statics := none }

def pool5 : Array CpInfo := pool [(2, .class_ 4), (1, u "java/lang/Enum"), (0, u "name"), (0, u "Ljava/lang/String;"), (2, u "ordinal"), (0, u "I"), (1, .class_ 14), (1, u "java/lang/Object"), (4, u "hash"), (86, .class_ 108), (1, u "java/lang/Enum$EnumDesc"), (2, .class_ 112), (0, u "java/lang/constant/Constable"), (0, .class_ 114), (0, u "java/lang/Comparable"), (0, .class_ 116), (0, u "java/io/Serializable")] 87

/-- java/lang/Enum -/
def k5 : Class := { plain "java/lang/Enum" (some 0) with
  accessFlags := 1057
  interfaces := #[2, 3, 4]
  cf := some (fileOf pool5 2 #[.nestMembers #[106]] #[] 1057 12 #[111, 113, 115] #[{ accessFlags := 18, nameIndex := 5, descriptorIndex := 6, attributes := #[] }, { accessFlags := 18, nameIndex := 9, descriptorIndex := 10, attributes := #[] }, { accessFlags := 2, nameIndex := 19, descriptorIndex := 10, attributes := #[] }])
  fields := #[{ name := "name", type := (.object "java/lang/String"), accessFlags := 18, slot := 0, constantValue := 0 }, { name := "ordinal", type := .int, accessFlags := 18, slot := 1, constantValue := 0 }, { name := "hash", type := .int, accessFlags := 2, slot := 2, constantValue := 0 }]
  methods := #[]
  instanceTypes := #[(.object "java/lang/String"), .int, .int]
  staticTypes := #[]
  resolved := Array.replicate 204 none
  statics := none }

def pool6 : Array CpInfo := pool [(1, .class_ 2), (0, u "com/example/onceward/onceward/broker/Settled"), (0, .fieldref 1 4), (0, .nameAndType 5 6), (0, u "ACKNOWLEDGED"), (0, u "Lcom/example/onceward/onceward/broker/Settled;"), (2, u "SENT_BACK"), (2, u "RETRY"), (0, .fieldref 1 14), (0, .nameAndType 15 6), (0, u "DEAD_LETTERED"), (2, u "STORE_WAIT"), (2, u "$VALUES"), (0, u "[Lcom/example/onceward/onceward/broker/Settled;"), (6, .class_ 31), (1, u "java/lang/Enum"), (23, u "forGood"), (0, u "()Z")] 5

def k6c0 : Code := { maxStack := 2, maxLocals := 1, code := prog_2_method_4_code, exceptionTable := #[], attributes := #[] }
def k6m0 : Method := { name := "forGood", desc := "()Z", sig := { parameters := [], returnType := some .boolean }, accessFlags := 0, code := some k6c0 }
/-- com/example/onceward/onceward/broker/Settled -/
def k6 : Class := { plain "com/example/onceward/onceward/broker/Settled" (some 5) with
  accessFlags := 16432
  interfaces := #[]
  cf := some (fileOf pool6 1 #[] #[{ accessFlags := 0, nameIndex := 55, descriptorIndex := 56, attributes := #[] }] 16432 29 #[] #[{ accessFlags := 16409, nameIndex := 5, descriptorIndex := 6, attributes := #[] }, { accessFlags := 16409, nameIndex := 9, descriptorIndex := 6, attributes := #[] }, { accessFlags := 16409, nameIndex := 12, descriptorIndex := 6, attributes := #[] }, { accessFlags := 16409, nameIndex := 15, descriptorIndex := 6, attributes := #[] }, { accessFlags := 16409, nameIndex := 18, descriptorIndex := 6, attributes := #[] }, { accessFlags := 4122, nameIndex := 21, descriptorIndex := 22, attributes := #[] }])
  fields := #[{ name := "ACKNOWLEDGED", type := (.object "com/example/onceward/onceward/broker/Settled"), accessFlags := 16409, slot := 0, constantValue := 0 }, { name := "SENT_BACK", type := (.object "com/example/onceward/onceward/broker/Settled"), accessFlags := 16409, slot := 1, constantValue := 0 }, { name := "RETRY", type := (.object "com/example/onceward/onceward/broker/Settled"), accessFlags := 16409, slot := 2, constantValue := 0 }, { name := "DEAD_LETTERED", type := (.object "com/example/onceward/onceward/broker/Settled"), accessFlags := 16409, slot := 3, constantValue := 0 }, { name := "STORE_WAIT", type := (.object "com/example/onceward/onceward/broker/Settled"), accessFlags := 16409, slot := 4, constantValue := 0 }, { name := "$VALUES", type := (.array (.object "com/example/onceward/onceward/broker/Settled")), accessFlags := 4122, slot := 5, constantValue := 0 }]
  methods := #[k6m0]
  instanceTypes := #[(.object "java/lang/String"), .int, .int]
  staticTypes := #[(.object "com/example/onceward/onceward/broker/Settled"), (.object "com/example/onceward/onceward/broker/Settled"), (.object "com/example/onceward/onceward/broker/Settled"), (.object "com/example/onceward/onceward/broker/Settled"), (.object "com/example/onceward/onceward/broker/Settled"), (.array (.object "com/example/onceward/onceward/broker/Settled"))]
  resolved := Array.replicate 62 none
  statics := some 0 }

def pool7 : Array CpInfo := pool [(1, u "java/lang/Cloneable"), (0, .class_ 1), (0, u "java/lang/Object"), (0, .class_ 3)] 3

/-- java/lang/Cloneable -/
def k7 : Class := { plain "java/lang/Cloneable" (some 0) with
  accessFlags := 1537
  interfaces := #[]
  cf := some (fileOf pool7 2 #[] #[] 1537 4 #[] #[])
  fields := #[]
  methods := #[]
  instanceTypes := #[]
  staticTypes := #[]
  resolved := Array.replicate 8 none
  statics := none }

/-- the primitive boolean -/
def k8 : Class := { plain "boolean" none with kind := .primitive 'Z', accessFlags := 0x411 }
/-- [Z -/
def k9 : Class := { plain "[Z" (some 0) with kind := .array 8 .boolean, interfaces := #[7, 4], accessFlags := 1041 }

/-- the primitive byte -/
def k10 : Class := { plain "byte" none with kind := .primitive 'B', accessFlags := 0x411 }
/-- [B -/
def k11 : Class := { plain "[B" (some 0) with kind := .array 10 .byte, interfaces := #[7, 4], accessFlags := 1041 }

/-- the primitive int -/
def k12 : Class := { plain "int" none with kind := .primitive 'I', accessFlags := 0x411 }
/-- [I -/
def k13 : Class := { plain "[I" (some 0) with kind := .array 12 .int, interfaces := #[7, 4], accessFlags := 1041 }

def heap : Heap := #[{ cls := 6, slots := #[.ref 1, .ref 2, .ref 3, .ref 4, .ref 5, .null], vm := .statics 6 },
  { cls := 6, slots := #[.null, .int 0, .int 0], vm := .none },
  { cls := 6, slots := #[.null, .int 1, .int 0], vm := .none },
  { cls := 6, slots := #[.null, .int 2, .int 0], vm := .none },
  { cls := 6, slots := #[.null, .int 3, .int 0], vm := .none },
  { cls := 6, slots := #[.null, .int 4, .int 0], vm := .none }]
def classes : Array Class := #[k0, k1, k2, k3, k4, k5, k6, k7, k8, k9, k10, k11, k12, k13]
def interned : List (Array UInt16 × Addr) := []
def slotsUsed : Nat := 21
def theMethod : MethodId := ⟨1, 2⟩
def args0 : Array Value := #[.int 5]
def aboutOver (below : List Frame) : State where
  vm := { classes := classes, interned := interned.toArray }
  heap := heap
  slotsUsed := slotsUsed
  threads := #[{ frames := .invoking theMethod args0 :: below }]
def below0 : List Frame := [.native { method := ⟨0, 0⟩, args := #[] }]
def about1 : State := aboutOver below0
def p0 : Program := .bare "" "" ""
def e0 : Env := launch0.env 0 0 0
theorem w_frames : about1.frames = Frame.invoking theMethod args0 :: below0 := rfl
set_option maxRecDepth 65536 in
theorem w_args : argsFit about1.vm theMethod args0 = true := by decide +kernel
set_option maxRecDepth 65536 in
theorem w_heap : heapFits about1 = true := by decide +kernel
set_option maxRecDepth 65536 in
theorem w_runnable : about1.curStatus? = some .runnable := by decide +kernel
set_option maxRecDepth 65536 in
theorem w_alone : about1.alone = true := by decide +kernel
set_option maxRecDepth 65536 in
theorem w_named : about1.methodNamed? x = some theMethod := by decide +kernel
set_option maxRecDepth 65536 in
theorem w_hears : about1.hears theMethod below0 = true := by decide +kernel
set_option maxRecDepth 65536 in
theorem w_ripe : about1.ripe theMethod args0 below0 = true := by decide +kernel
theorem w_running : about1.status = .running := rfl
set_option maxRecDepth 65536 in
theorem w_room : about1.hasRoom e0.platform room_1 = true :=
  launch0.hasRoom_least _ room_1 (by decide +kernel) (by decide +kernel) (by decide +kernel) (by decide +kernel) (by decide +kernel) (by decide +kernel)
theorem allAtoms_all (ts : List Jvm.Cond) (a : Array Jvm.Value) (st : Jvm.State) : (allAtoms ts).before a st = ts.all (fun c => c.before a st) := by
  induction ts with
  | nil => rfl
  | cons c t ih =>
    show (Jvm.Cond.and c (allAtoms t)).before a st = _
    rw [Jvm.Cond.before_and, ih, List.all_cons]
def words1 : List Jvm.Cond := Jvm.Cond.code x code maxLocals ret :: tables_1
/-- a 'code' word, met by the world's own term for the bytes: nothing is compared byte by byte -/
theorem code_word {y : MethodName} {bytes : ByteArray} {mx : Nat} {rt : Option FieldType} {a : Array Value} {s : State} {m : MethodId} {meth : Method} {c : Code} (h1 : s.methodNamed? y = some m) (h2 : s.vm.method? m = some meth) (h3 : meth.code = some c) (h4 : c.code = bytes)
    (h5 : (c.maxLocals == mx && c.exceptionTable.isEmpty && decide (c.maxStack ≤ mostOperands) && decide (meth.sig.returnType = rt) && !meth.locks && decide (parseMethodDescriptor y.desc = some meth.sig)) = true) : (Jvm.Cond.code y bytes mx rt).before a s = true := by
  simp only [Bool.and_eq_true, beq_iff_eq, Bool.not_eq_true', decide_eq_true_eq] at h5
  obtain ⟨⟨⟨⟨⟨g1, g2⟩, g3⟩, g4⟩, g5⟩, g6⟩ := h5
  simp [Cond.before, Cond.holds, Cond.value, h1, h2, h3, h4, g1, g2, g3, g4, g5, g6]
def isCode : Jvm.Cond → Bool
  | .code _ _ _ _ => true
  | _ => false
theorem all_split {L : List Jvm.Cond} {P : Jvm.Cond → Bool} (h1 : L.all (fun c => isCode c || P c) = true) (h2 : ∀ c ∈ L.filter isCode, P c = true) : L.all P = true := by
  refine List.all_eq_true.mpr fun c hc => ?_
  have h := List.all_eq_true.mp h1 c hc
  rcases Bool.eq_false_or_eq_true (isCode c) with hi | hi
  · exact h2 c (List.mem_filter.mpr ⟨hc, hi⟩)
  · simpa [hi] using h
set_option maxRecDepth 65536 in
theorem w_c0 : (Jvm.Cond.code x code maxLocals ret).before args0 about1 = true := code_word (m := ⟨1, 2⟩) (meth := k1m2) (c := k1c2) (by decide +kernel) rfl rfl rfl (by decide +kernel)
set_option maxRecDepth 65536 in
theorem w_c1 : (Jvm.Cond.code ({ cls := "com/example/onceward/onceward/broker/SettledForGoodPinLaw", name := "pick", desc := "(I)Lcom/example/onceward/onceward/broker/Settled;" } : Jvm.MethodName) method_2_code (1 : Nat) (Option.some (Jvm.ClassFile.FieldType.object "com/example/onceward/onceward/broker/Settled"))).before args0 about1 = true := code_word (m := ⟨1, 1⟩) (meth := k1m1) (c := k1c1) (by decide +kernel) rfl rfl rfl (by decide +kernel)
set_option maxRecDepth 65536 in
theorem w_c2 : (Jvm.Cond.code ({ cls := "com/example/onceward/onceward/broker/Settled", name := "forGood", desc := "()Z" } : Jvm.MethodName) prog_2_method_4_code (1 : Nat) (Option.some Jvm.ClassFile.FieldType.boolean)).before args0 about1 = true := code_word (m := ⟨6, 0⟩) (meth := k6m0) (c := k6c0) (by decide +kernel) rfl rfl rfl (by decide +kernel)
def codes1 : List Jvm.Cond := [Jvm.Cond.code x code maxLocals ret, Jvm.Cond.code ({ cls := "com/example/onceward/onceward/broker/SettledForGoodPinLaw", name := "pick", desc := "(I)Lcom/example/onceward/onceward/broker/Settled;" } : Jvm.MethodName) method_2_code (1 : Nat) (Option.some (Jvm.ClassFile.FieldType.object "com/example/onceward/onceward/broker/Settled")), Jvm.Cond.code ({ cls := "com/example/onceward/onceward/broker/Settled", name := "forGood", desc := "()Z" } : Jvm.MethodName) prog_2_method_4_code (1 : Nat) (Option.some Jvm.ClassFile.FieldType.boolean)]
set_option maxRecDepth 65536 in
theorem codes_eq : words1.filter isCode = codes1 := rfl
theorem w_codes : ∀ c ∈ words1.filter isCode, c.before args0 about1 = true := by
  rw [codes_eq]
  intro c hc
  simp only [codes1, List.mem_cons, List.not_mem_nil, or_false] at hc
  rcases hc with rfl | rfl | rfl
  · exact w_c0
  · exact w_c1
  · exact w_c2
set_option maxRecDepth 65536 in
theorem w_t1 : (words1.take 24).all (fun c => isCode c || c.before args0 about1) = true := by decide +kernel
set_option maxRecDepth 65536 in
theorem w_t2 : (words1.drop 24).all (fun c => isCode c || c.before args0 about1) = true := by decide +kernel
theorem w_tables : (allAtoms (Jvm.Cond.code x code maxLocals ret :: tables_1)).before args0 about1 = true := by
  rw [allAtoms_all]
  show words1.all (fun c => c.before args0 about1) = true
  refine all_split ?_ w_codes
  rw [← List.take_append_drop 24 words1, List.all_append, w_t1, w_t2]
  rfl
set_option maxRecDepth 65536 in
theorem w_case : (Jvm.Cond.and given_1 narrow_1).before args0 about1 = true := by decide +kernel
theorem w_applies : (headSpec (Jvm.Cond.code x code maxLocals ret :: tables_1) room_1).applies x e0.platform about1 = true :=
  (Spec.applies_iff w_frames).mpr ⟨w_running, w_runnable, w_alone, w_named, w_hears, w_ripe, w_room, w_tables⟩
theorem atStart : AtStart classFile x code maxLocals ret World_1 tables_1 room_1 Calls_1 rest_1 Pre_1 launch0 p0 e0 about1 theMethod args0 below0 :=
  ⟨lists_1, trivial, launch0.admits_env _ _ _, launch0.least_env, fairChoices_fair.cas, fairChoices_fair.clock, w_frames, w_args, w_heap, w_applies, trivial, trivial, w_case⟩
end start1
theorem witness_1 : WitnessClaimed_1 := ⟨start1.p0, start1.e0, start1.about1, start1.theMethod, start1.args0, start1.below0, start1.atStart⟩
end Jvm.Pilot.@@N@@
