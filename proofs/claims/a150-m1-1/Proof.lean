import JvmDerived
import JvmDerived.Pilot.@@N@@Statement
import JvmDerived.Pilot.@@N@@Code
set_option linter.unusedVariables false
set_option linter.unusedSimpArgs false
namespace Jvm.RoadKit
open Sem ClassFile Op Lib Jvm.Stand Jvm.Free Jvm.LawKit
section New
variable {p : Program} {l : Launch} {e : Env} {R : Room} {s : State} {m : MethodId} {args : Array Value} {below : List Frame} {meth : Method} {c : Code} {T : State} {locs : List Loc} {cells slots : Nat}
theorem retI (X : Stand p l e R s m args below meth c T locs cells slots) (hx : p.tables.exec = Jvm.exec) {pc : Nat} {Ls : Array Slot} {z : Int32} {rest : List Value} (hret : meth.sig.returnType = some .int) (hd : decode c.code pc = .ok (.ireturn, 1)) {fs : List Frame}
    (hl : ∀ (f : JFrame) (acts : List Action), f.method = m → f.locked = none → f.entered = [] → (doReturn e (T.setTop f) acts (some (.int z))).1 = T.setFrames fs) : Steps p.tables e below (T.setTop (mkF m pc Ls (.int z :: rest))) (T.setFrames fs) := by
  have hm' : T.vm.method? m = some meth := X.method'
  have hn : narrow .int (.int z) = .int z := rfl
  show Steps p.tables e below (T.setTop { method := m, pc := pc, locals := Ls, stack := _ :: rest, locked := none }) _
  jvm_step X.here [X.here.top, hx, hd, hm', hret, hn]
  first | (intro acts; rw [hl _ acts rfl rfl rfl]) | rw [hl _ _ rfl rfl rfl]
  exact Steps.refl _
end New
end Jvm.RoadKit
namespace Jvm.Pilot.@@N@@
open Jvm Jvm.ClassFile Sem Op Lib Jvm.Free Jvm.Stand Jvm.LawKit Jvm.RoadKit Bundle Jvm.Pilot.@@N@@.Jvm.D
set_option maxRecDepth 65536
set_option maxHeartbeats 40000000
theorem ow {Z : State} {a0 : Array Value} (hw : ∀ d ∈ tables_1, d.before a0 Z = true) (i : Nat) {d : Jvm.Cond} (h : tables_1[i]? = some d) : d.before a0 Z = true := hw d (List.mem_of_getElem? h)
abbrev rmk (f c s l : Nat) : Room := { frames := f, cells := c, slots := s, locals := l }
abbrev MetB (l : Launch) (y : MethodName) (bytes : ByteArray) (maxL : Nat) (ret : Option FieldType) (ws : List Jvm.Cond) (rm : Room) (Z : State) (h0 : Heap) (as' : Array Value) (Q : Option Value → Heap → List Loc → Prop) : Prop :=
  MetFree l y (head1 (Jvm.Cond.code y bytes maxL ret :: ws) rm) (fun a U => a = as' ∧ Z.Warmed39 U.vm ∧ U.heap = h0) (fun _ _ _ _ _ => True) (fun _ U o U' => ∃ v L, o = .returned v ∧ Q v U'.heap L ∧ FrameEnd U o U' L rm.cells rm.slots)
theorem own_body {l : Launch} {y : MethodName} {bytes : ByteArray} {maxL : Nat} {ret : Option FieldType} {ws : List Jvm.Cond} {rm : Room} {Z : State} {h0 : Heap} {as' : Array Value} {Q : Option Value → Heap → List Loc → Prop} (hpl : plainFor y = true)
    (body : ∀ (p : Program) (e : Env) (s : State) (m : MethodId) (below : List Frame) (meth : Method) (c : Code) (s₁ : State), p.tables.exec = Jvm.exec → c.code = bytes → c.maxLocals = maxL → s.vm.findClass y.cls = some m.cls → meth.name = y.name → meth.sig.returnType = ret → meth.locks = false → Z.Warmed39 s.vm → Stand p l e rm s m as' below meth c s₁ [] 0 0 → s₁.heap = h0 →
      ∃ s₂ o, Steps p.tables e below (s₁.setTop (entryFrame m as' maxL)) s₂ ∧ s₂.status = .running ∧ Ended s₂ below o ∧ ∃ v L, o = .returned v ∧ Q v s₂.heap L ∧ FrameEnd s o s₂ L rm.cells rm.slots) : MetB l y bytes maxL ret ws rm Z h0 as' Q := by
  refine MetFree.of_bodySF hpl hisR ?_
  intro p e s m args below meth c s₁ Bd hml0 hP hK
  obtain ⟨rfl, hZ, hh⟩ := hP
  exact body p e s m below meth c s₁ Bd.exec Bd.bytes hml0 (findClass_of_methodNamed Bd.named) (name_of_methodNamed Bd.named Bd.method).1 Bd.returns Bd.notSynchronized hZ (Stand.of_body Bd) (by rw [← hh, Bd.state]; rfl)
abbrev vr (a : Addr) : Slot := .val (.ref a)
abbrev vi (a : Int32) : Slot := .val (.int a)
abbrev vl (a : Int64) : Slot := .val (.long a)
theorem own_sz {Z : State} {n0 : Nat} {h : Heap} (O : Old Z n0 h) : n0 ≤ h.size := O.1 ▸ O.2.1
theorem own_eq_int {args : Array Value} {first s : State} {o : Option Outcome} {idx : List Nat} {t : Term} {k : Int32} (h : (Jvm.Cond.eq t (.int k)).value args first o s idx = some true) : t.eval args first o idx s = some (.int k) := by
  simp only [Jvm.Cond.value, Term.eval] at h
  cases ht : t.eval args first o idx s with
  | none => simp [ht] at h
  | some x => cases x <;> simp [ht] at h ⊢; exact h
theorem own_eq_long {args : Array Value} {first s : State} {o : Option Outcome} {idx : List Nat} {t : Term} {k : Int64} (h : (Jvm.Cond.eq t (.long k)).value args first o s idx = some true) : t.eval args first o idx s = some (.long k) := by
  simp only [Jvm.Cond.value, Term.eval] at h
  cases ht : t.eval args first o idx s with
  | none => simp [ht] at h
  | some x => cases x <;> simp [ht] at h ⊢; exact h
theorem own_selp {s : State} {args : Array Value} {y : MethodName} {n : Nat} (wi : (Jvm.Cond.instantiable y.cls n).before args s = true) (wp : (Jvm.Cond.privateMethod y).before args s = true) (wm : (Jvm.Cond.instanceMethod y).before args s = true) (hy : y.cls ≠ "java/lang/invoke/MethodHandle" ∧ y.cls ≠ "java/lang/invoke/VarHandle") : (Jvm.Cond.selects y.cls y y).before args s = true := by
  obtain ⟨c, k, hc, hk, -, hni, -, -⟩ := Cond.instantiable_spec wi
  exact selects_self_of_private hc hk (Bool.or_eq_false_iff.mp hni).1 (Cond.privateMethod_at wp) wm hy
theorem own_getR {p : Program} {l : Launch} {e : Env} {R : Room} {s : State} {m : MethodId} {args : Array Value} {below : List Frame} {meth : Method} {c : Code} {T : State} {locs : List Loc} {cells slots : Nat} {Z : State} {a0 : Array Value} {h : Heap} (X : Stand p l e R s m args below meth c T locs cells slots) (hx : p.tables.exec = Jvm.exec) (hZ : Z.Warmed39 s.vm) {own R0 n d : String} {index : Nat} (hown : s.vm.findClass own = some m.cls) (w : (Jvm.Cond.fieldRef own index R0 n d).before a0 Z = true)
    (eT : T.heap = h) {a : Addr} {v : Value} (F : Fld Z h a R0 n d v) {g : JFrame} (hg : g.method = m) {rest : List Value} (hs : g.stack = .ref a :: rest) (hd : decode c.code g.pc = .ok (.getfield index, 3)) : ∃ T', Stand p l e R s m args below meth c T' locs cells slots ∧ T'.heap = h ∧ ∀ target, Steps p.tables e below (T'.setTop { g with pc := g.pc + 3, stack := v :: rest }) target → Steps p.tables e below (T.setTop g) target := by
  obtain ⟨cell, cf, k, i, f, h1, h2, h3, h4, -, -, h7⟩ := F
  have wT := Cond.fieldRef_warmed39 (wtrans hZ X.warmed) w
  obtain ⟨c', k', i', f', q1, q2⟩ := Cond.fieldRef_spec (cur := m.cls) (by show T.vm.findClass own = some m.cls; rw [X.warmed.alike.findClass]; exact hown) wT
  obtain ⟨k'', hf', -⟩ := State.fieldFound?_setVm (s := Z) (wtrans hZ X.warmed).alike h2
  cases hf'.symm.trans q1
  exact ⟨T, X, eT, fun target k => (X.getfieldR hx hg q2 h3 hs (by rw [eT]; exact h1) h4 h7 hd (Steps.refl _)).trans k⟩
theorem own_lc (x : Int64) : lcmpW x x = 0 := (lw_eq x x).mpr rfl
theorem own_b01 {P : Prop} [Decidable P] {y a b : Int32} (h : y = if P then a else b) : y = a ∨ y = b := by rw [h]; split; exact Or.inl rfl; exact Or.inr rfl
abbrev M0 : MethodName := ⟨"com/example/umpired/umpired/server/SessionHandle", "<init>", "(JJ)V"⟩
abbrev M1 : MethodName := ⟨"com/example/umpired/umpired/server/SessionHandle", "equals", "(Ljava/lang/Object;)Z"⟩
abbrev M2 : MethodName := ⟨"java/lang/Number", "<init>", "()V"⟩
abbrev M3 : MethodName := ⟨"java/lang/Long", "<init>", "(J)V"⟩
abbrev M4 : MethodName := ⟨"java/lang/Long", "valueOf", "(J)Ljava/lang/Long;"⟩
abbrev s0n : String := "java/lang/Long"
theorem own_eqsym (a b c d : Int64) : (if lcmpW b a = (0 : Int32) then (if lcmpW d c = (0 : Int32) then (1 : Int32) else (0 : Int32)) else (0 : Int32)) = (if lcmpW a b = (0 : Int32) then (if lcmpW c d = (0 : Int32) then (1 : Int32) else (0 : Int32)) else (0 : Int32)) := by
  have e1 : (lcmpW b a = (0 : Int32)) = (lcmpW a b = (0 : Int32)) := propext (by rw [lw_eq, lw_eq]; exact eq_comm)
  have e2 : (lcmpW d c = (0 : Int32)) = (lcmpW c d = (0 : Int32)) := propext (by rw [lw_eq, lw_eq]; exact eq_comm)
  simp only [e1, e2]
theorem own_eqself (a c : Int64) : (if lcmpW a a = (0 : Int32) then (if lcmpW c c = (0 : Int32) then (1 : Int32) else (0 : Int32)) else (0 : Int32)) = (1 : Int32) := by
  rw [if_pos ((lw_eq a a).mpr rfl), if_pos ((lw_eq c c).mpr rfl)]
theorem own_nlt {q : Int64} (h : ¬ (lcmpW q (-128 : Int64)) < (0 : Int32)) : ¬ q < -128 := fun z => h ((lw_lt _ _).mpr z)
theorem own_ngt {q : Int64} (h : ¬ (0 : Int32) < (lcmpW q (127 : Int64))) : ¬ q > 127 := fun z => h ((lw_gt _ _).mpr z)
theorem own_no (Z : State) (a0 : Array Value) {A B O K : String} {n : Nat} (w1 : (Jvm.Cond.superclass A B).before a0 Z = true) (w2 : (Jvm.Cond.superclass B O).before a0 Z = true) (w3 : (Jvm.Cond.noSuperclass O).before a0 Z = true) (wi : (Jvm.Cond.instantiable K n).before a0 Z = true)
    (h1 : A ≠ K := by decide) (h2 : B ≠ K := by decide) (h3 : O ≠ K := by decide) : ∃ c t, Z.vm.findClass A = some c ∧ Z.vm.findClass K = some t ∧ Z.vm.assignable c t = false := by
  obtain ⟨t, kt, g1, g2, g3, g4, -⟩ := Cond.instantiable_spec wi
  have r0 : NS Z O K := by
    obtain ⟨c, k, f1, f2, f3, -, -⟩ := Cond.noSuperclass_spec w3
    have ne := ids_ne f1 g1 h3
    refine ⟨c, t, f1, g1, fun fuel => ?_⟩
    cases fuel with
    | zero => rfl
    | succ f => simp [Vm.isSubclassAux, ne, f2, f3]
  have r2 := NS.step w1 (NS.step w2 r0 h2) h1
  obtain ⟨c, t', f0, f1, f2⟩ := r2
  cases f1.symm.trans g1
  obtain ⟨p, k, kp, e1, e2, e3, e4, e5, -⟩ := Cond.superclass_spec f0 w1
  have ne := ids_ne f0 g1 h1
  refine ⟨c, t, f0, g1, ?_⟩
  simp only [Bool.or_eq_false_iff] at g4
  show Z.vm.assignableAux (255 + 1) c t = false
  simp [Vm.assignableAux, ne, e2, g2, e5, g3, g4.1, Vm.isSubclass, f2]
theorem own_cache {args : Array Value} {s : State} (h : ∀ d ∈ Jvm.Free.LongBox.longClinit, d.before args s = true) :
    ∃ wc : Addr, Sta s s.heap "java/lang/Long$LongCache" "cache" "[Ljava/lang/Long;" (.ref wc) ∧ ∃ cell : Cell, Arr s s.heap wc cell (.object s0n) ∧ ∀ w : Int64, ¬ w < -128 → ¬ w > 127 → ∃ box : Addr, ¬ ((w.toInt32 + 128) < 0 ∨ cell.slots.size ≤ (w.toInt32 + 128).toNatClampNeg) ∧ cell.slots[(w.toInt32 + 128).toNatClampNeg]? = some (.ref box) ∧ Exa s s.heap box s0n := by
  have hA := Cond.before_iff.mp (h (.arrayOf Jvm.Free.LongBox.cacheT (.object s0n)) (by simp [Jvm.Free.LongBox.longClinit, Jvm.Free.LongBox.LC]))
  obtain ⟨wc, ev⟩ := arr_v hA
  have S := Sta.start ev (Or.inl (h _ (by simp [Jvm.Free.LongBox.longClinit, Jvm.Free.LongBox.LCC, Jvm.Free.LongBox.LAD])))
  obtain ⟨cell, A⟩ := Arr.start ev hA
  have hat := A.fin (Vm.Alike.refl _)
  obtain ⟨hsz, hsize⟩ := Jvm.Free.IntBox.length_fwd (h (.eq (.length Jvm.Free.LongBox.cacheT) (.int 256)) (by simp [Jvm.Free.LongBox.longClinit])) ev A.1 A.2.1 A.2.2
  have h256 : cell.slots.size = 256 := by
    have e := len_toInt hsz
    rw [hsize] at e
    have e2 : (256 : Int32).toInt = 256 := by decide
    omega
  have hall := Cond.all_elim (c := .and (.exactly (.elem Jvm.Free.LongBox.cacheT (.index 0)) s0n) (.eq (.field (.elem Jvm.Free.LongBox.cacheT (.index 0)) s0n "value" "J") (.op1 .i2l (.sub (.index 0) (.int 128))))) ev hat
    (Cond.before_iff.mp (h _ (by simp [Jvm.Free.LongBox.longClinit, Jvm.Free.LongBox.LC])))
  refine ⟨wc, S, cell, A, fun w h1 h2 => ?_⟩
  obtain ⟨hb, hlt⟩ := Jvm.Free.LongBox.place_okL w h1 h2
  obtain ⟨hex, -⟩ := and_e (hall _ (by rw [h256]; exact hlt))
  obtain ⟨hnn, hback⟩ := Jvm.Free.IntBox.place_nonneg _ hlt
  have evj : Jvm.Free.LongBox.cacheT.eval args s none [(w.toInt32 + 128).toNatClampNeg] s = some (.ref wc) := ev
  have evE : (Term.elem Jvm.Free.LongBox.cacheT (.index 0)).eval args s none [(w.toInt32 + 128).toNatClampNeg] s = cell.slots[(w.toInt32 + 128).toNatClampNeg]? := by
    simp [Term.eval, evj, hnn, hat, hback]
  obtain ⟨box, c, cb, k, e1, e2, e3, e4, e5, rfl, e7⟩ := Cond.exactly_spec (beq_iff_eq.mpr hex)
  exact ⟨box, by rw [h256]; exact hb, evE.symm.trans e1, ⟨cb, k, e3, e2, e4, e5, e7⟩⟩

def SS (Z : State) (wcache : Addr) : Prop := Sta Z Z.heap "java/lang/Long$LongCache" "cache" "[Ljava/lang/Long;" (.ref wcache) ∧ (∃ cell : Cell, Arr Z Z.heap wcache cell (.object s0n) ∧ ∀ w : Int64, ¬ w < -128 → ¬ w > 127 → ∃ box : Addr, ¬ ((w.toInt32 + 128) < 0 ∨ cell.slots.size ≤ (w.toInt32 + 128).toNatClampNeg) ∧ cell.slots[(w.toInt32 + 128).toNatClampNeg]? = some (.ref box) ∧ Exa Z Z.heap box s0n)
theorem ef_rmInit (m : MethodId) (x0 : Addr) (x1 : Int64) (x2 : Int64)  : entryFrame m #[(.ref x0), (.long x1), (.long x2)] 5 = mkF m 0 #[(vr x0), (vl x1), .second, (vl x2), .second] [] := by first | (simp [entryFrame, mkF, argsToLocals, Value.category]; done) | rfl
theorem pn_com_example_umpired_umpired_server_SessionHandle : plainName "com/example/umpired/umpired/server/SessionHandle" = true := by first | (simp [plainName, overriddenIn]; done) | decide +kernel
theorem d1_0 : decode prog_88_method_1_code 0 = .ok (.aload_n 0, 1) := by decide +kernel
theorem d1_1 : decode prog_88_method_1_code 1 = .ok (.invokespecial 1, 3) := by decide +kernel
theorem d1_4 : decode prog_88_method_1_code 4 = .ok (.aload_n 0, 1) := by decide +kernel
theorem d1_5 : decode prog_88_method_1_code 5 = .ok (.lload_n 1, 1) := by decide +kernel
theorem d1_6 : decode prog_88_method_1_code 6 = .ok (.putfield 7, 3) := by decide +kernel
theorem d1_9 : decode prog_88_method_1_code 9 = .ok (.aload_n 0, 1) := by decide +kernel
theorem d1_10 : decode prog_88_method_1_code 10 = .ok (.lload_n 3, 1) := by decide +kernel
theorem d1_11 : decode prog_88_method_1_code 11 = .ok (.putfield 13, 3) := by decide +kernel
theorem d1_14 : decode prog_88_method_1_code 14 = .ok (.return_, 1) := by decide +kernel
def Q_rmInit (Z : State) (wcache : Addr) (a1 : Addr) (q1 : Int64) (q2 : Int64) (u1 : Value) (u2 : Value) (h0 : Heap) (n0 : Nat) (v : Option Value) (h : Heap) (L : List Loc) : Prop := v = none ∧ Fr n0 L ∧ Keep h0 h [a1] ∧ Exa Z h a1 "com/example/umpired/umpired/server/SessionHandle" ∧ Fld Z h a1 "com/example/umpired/umpired/server/SessionHandle" "session" "J" (.long q1) ∧ Fld Z h a1 "com/example/umpired/umpired/server/SessionHandle" "handle" "J" (.long q2)
theorem rmInit (l : Launch) (Z : State) (a0 : Array Value) (hw : ∀ d ∈ tables_1, d.before a0 Z = true) (ws : List Jvm.Cond) (wcache : Addr) (hS : SS Z wcache) (a1 : Addr) (q1 : Int64) (q2 : Int64) (u1 : Value) (u2 : Value) (h0 : Heap) (n0 : Nat) (O0 : Old Z n0 h0) (P0 : Exa Z h0 a1 "com/example/umpired/umpired/server/SessionHandle") (P1 : n0 ≤ a1) (P2 : Fld Z h0 a1 "com/example/umpired/umpired/server/SessionHandle" "session" "J" u1) (P3 : Fld Z h0 a1 "com/example/umpired/umpired/server/SessionHandle" "handle" "J" u2) :
    MetB l M0 prog_88_method_1_code 5 none ws (rmk 1 0 0 12) Z h0 #[(.ref a1), (.long q1), (.long q2)] (Q_rmInit Z wcache a1 q1 q2 u1 u2 h0 n0) := by
  refine own_body (plainFor_of_name pn_com_example_umpired_umpired_server_SessionHandle) ?_
  intro p e s m below meth c s₁ hx hby hml hown hnm hret0 hlk0 hZ X0 e0
  have N0 := Fr.nil n0
  have pre0 : ∀ t, Steps p.tables e below (s₁.setTop (mkF m 0 #[(vr a1), (vl q1), .second, (vl q2), .second] [])) t → Steps p.tables e below (s₁.setTop (entryFrame m #[(.ref a1), (.long q1), (.long q2)] 5)) t := fun t k => castTop (ef_rmInit m a1 q1 q2) k
  have K0 := Keep.refl h0 [a1]
  have hS0 := hS
  obtain ⟨S_cache, LC0⟩ := hS0
  obtain ⟨T1, X1, e1, st1⟩ := initO X0 hx hZ hown (ow hw 6 rfl) (ow hw 7 rfl) (ow hw 8 rfl) e0 (g := (mkF m 1 #[(vr a1), (vl q1), .second, (vl q2), .second] [(.ref a1)])) rfl (by rw [hml]; rfl) rfl (hb hby d1_1) (by decide) (W := 0) (by show 2 * 0 + _ ≤ _; exact Nat.le_of_eq rfl) (by decide)
  obtain ⟨T2, h2, X2, e2, W2, st2⟩ := putF X1 hx hZ hown (host := "") (Or.inl (ow hw 9 rfl)) Via.refl e1 P2 P0 (Or.inr ⟨(ow hw 10 rfl), rfl, hnm⟩) (ow hw 1 rfl) (ty := .long) (by decide) rfl rfl (g := (mkF m 6 #[(vr a1), (vl q1), .second, (vl q2), .second] [(.long q1), (.ref a1)])) rfl rfl (hb hby d1_6)
  have N2 := Fr.snoc X2 N0 P1
  have O3 : Old Z n0 h2 := O0.wr W2 P1
  have K3 : Keep h0 h2 [a1] := K0.wr W2 (Or.inl (List.mem_of_getElem? (i := 0) rfl))
  have Fw2 : Fld Z h2 a1 "com/example/umpired/umpired/server/SessionHandle" "session" "J" (.long q1) := P2.same W2
  have f4 : Exa Z h2 a1 "com/example/umpired/umpired/server/SessionHandle" := (P0.wr W2)
  have f5 : Fld Z h2 a1 "com/example/umpired/umpired/server/SessionHandle" "handle" "J" u2 := (P3.other W2 (Or.inr (slot_ne (Or.inr (ow hw 12 rfl)) (Or.inr (ow hw 10 rfl)) (by decide) (t := .long) (t' := .long) (by decide) (by decide))))
  obtain ⟨T6, h6, X6, e6, W6, st6⟩ := putF X2 hx hZ hown (host := "") (Or.inl (ow hw 11 rfl)) Via.refl e2 f5 f4 (Or.inr ⟨(ow hw 12 rfl), rfl, hnm⟩) (ow hw 1 rfl) (ty := .long) (by decide) rfl rfl (g := (mkF m 11 #[(vr a1), (vl q1), .second, (vl q2), .second] [(.long q2), (.ref a1)])) rfl rfl (hb hby d1_11)
  have N6 := Fr.snoc X6 N2 P1
  have O7 : Old Z n0 h6 := O3.wr W6 P1
  have K7 : Keep h0 h6 [a1] := K3.wr W6 (Or.inl (List.mem_of_getElem? (i := 0) rfl))
  have Fw6 : Fld Z h6 a1 "com/example/umpired/umpired/server/SessionHandle" "handle" "J" (.long q2) := f5.same W6
  have f8 : Exa Z h6 a1 "com/example/umpired/umpired/server/SessionHandle" := (f4.wr W6)
  have f9 : Fld Z h6 a1 "com/example/umpired/umpired/server/SessionHandle" "session" "J" (.long q1) := (Fw2.other W6 (Or.inr (slot_ne (Or.inr (ow hw 10 rfl)) (Or.inr (ow hw 12 rfl)) (by decide) (t := .long) (t' := .long) (by decide) (by decide))))
  obtain ⟨fs, hr, hrun, hended, hW, hsame⟩ := X6.leave (v := none) (fun _ => rfl)
  refine ⟨_, _, pre0 _ ?_, hrun, hended, _, _, rfl, ?_, ⟨_, rfl⟩, hW, hsame.mono (by decide) (by decide)⟩
  · skip
    show Steps p.tables e below (s₁.setTop (mkF m 0 #[(vr a1), (vl q1), .second, (vl q2), .second] [])) _
    refine XS.aloadN X0.here hx rfl (hb hby d1_0) rfl rfl ?_
    refine st1 _ ?_
    refine XS.aloadN X1.here hx rfl (hb hby d1_4) rfl rfl ?_
    refine XS.lloadN X1.here hx rfl (hb hby d1_5) rfl ?_
    refine st2 _ ?_
    show Steps p.tables e below (T2.setTop (mkF m 9 #[(vr a1), (vl q1), .second, (vl q2), .second] [])) _
    refine XS.aloadN X2.here hx rfl (hb hby d1_9) rfl rfl ?_
    refine XS.lloadN X2.here hx rfl (hb hby d1_10) rfl ?_
    refine st6 _ ?_
    exact X6.returnOut hx hret0 (hb hby d1_14) hr
  · show Q_rmInit Z wcache a1 q1 q2 u1 u2 h0 n0 _ T6.heap _
    rw [e6]
    exact ⟨rfl, N6, K7, f8, f9, Fw6⟩
theorem ef_rmEq (m : MethodId) (x0 : Addr) (x1 : Addr)  : entryFrame m #[(.ref x0), (.ref x1)] 3 = mkF m 0 #[(vr x0), (vr x1), .unset] [] := by first | (simp [entryFrame, mkF, argsToLocals, Value.category]; done) | rfl
theorem d3_0 : decode prog_88_method_6_code 0 = .ok (.aload_n 1, 1) := by decide +kernel
theorem d3_1 : decode prog_88_method_6_code 1 = .ok (.instanceof 8, 3) := by decide +kernel
theorem d3_4 : decode prog_88_method_6_code 4 = .ok (.ifCond .ne 5, 3) := by decide +kernel
theorem d3_9 : decode prog_88_method_6_code 9 = .ok (.aload_n 1, 1) := by decide +kernel
theorem d3_10 : decode prog_88_method_6_code 10 = .ok (.checkcast 8, 3) := by decide +kernel
theorem d3_13 : decode prog_88_method_6_code 13 = .ok (.astore_n 2, 1) := by decide +kernel
theorem d3_14 : decode prog_88_method_6_code 14 = .ok (.aload_n 0, 1) := by decide +kernel
theorem d3_15 : decode prog_88_method_6_code 15 = .ok (.getfield 7, 3) := by decide +kernel
theorem d3_18 : decode prog_88_method_6_code 18 = .ok (.aload_n 2, 1) := by decide +kernel
theorem d3_19 : decode prog_88_method_6_code 19 = .ok (.getfield 7, 3) := by decide +kernel
theorem d3_22 : decode prog_88_method_6_code 22 = .ok (.lcmp, 1) := by decide +kernel
theorem d3_23 : decode prog_88_method_6_code 23 = .ok (.ifCond .ne 19, 3) := by decide +kernel
theorem d3_26 : decode prog_88_method_6_code 26 = .ok (.aload_n 0, 1) := by decide +kernel
theorem d3_27 : decode prog_88_method_6_code 27 = .ok (.getfield 13, 3) := by decide +kernel
theorem d3_30 : decode prog_88_method_6_code 30 = .ok (.aload_n 2, 1) := by decide +kernel
theorem d3_31 : decode prog_88_method_6_code 31 = .ok (.getfield 13, 3) := by decide +kernel
theorem d3_34 : decode prog_88_method_6_code 34 = .ok (.lcmp, 1) := by decide +kernel
theorem d3_35 : decode prog_88_method_6_code 35 = .ok (.ifCond .ne 7, 3) := by decide +kernel
theorem d3_38 : decode prog_88_method_6_code 38 = .ok (.iconst 1, 1) := by decide +kernel
theorem d3_39 : decode prog_88_method_6_code 39 = .ok (.goto 4, 3) := by decide +kernel
theorem d3_43 : decode prog_88_method_6_code 43 = .ok (.ireturn, 1) := by decide +kernel
theorem d3_42 : decode prog_88_method_6_code 42 = .ok (.iconst 0, 1) := by decide +kernel
def Q_rmEq (Z : State) (wcache : Addr) (a1 : Addr) (a2 : Addr) (q1 : Int64) (q2 : Int64) (q3 : Int64) (q4 : Int64) (h0 : Heap) (n0 : Nat) (v : Option Value) (h : Heap) (L : List Loc) : Prop := ∃ (r : Int32), v = some (.int r) ∧ Fr n0 L ∧ h = h0 ∧ r = (if lcmpW q1 q3 = (0 : Int32) then (if lcmpW q2 q4 = (0 : Int32) then (1 : Int32) else (0 : Int32)) else (0 : Int32))
theorem rmEq (l : Launch) (Z : State) (a0 : Array Value) (hw : ∀ d ∈ tables_1, d.before a0 Z = true) (ws : List Jvm.Cond) (wcache : Addr) (hS : SS Z wcache) (a1 : Addr) (a2 : Addr) (q1 : Int64) (q2 : Int64) (q3 : Int64) (q4 : Int64) (h0 : Heap) (n0 : Nat) (O0 : Old Z n0 h0) (P0 : Exa Z h0 a2 "com/example/umpired/umpired/server/SessionHandle") (P1 : Fld Z h0 a1 "com/example/umpired/umpired/server/SessionHandle" "session" "J" (.long q1)) (P2 : Fld Z h0 a1 "com/example/umpired/umpired/server/SessionHandle" "handle" "J" (.long q2)) (P3 : Fld Z h0 a2 "com/example/umpired/umpired/server/SessionHandle" "session" "J" (.long q3)) (P4 : Fld Z h0 a2 "com/example/umpired/umpired/server/SessionHandle" "handle" "J" (.long q4)) :
    MetB l M1 prog_88_method_6_code 3 (some .boolean) ws (rmk 0 0 0 0) Z h0 #[(.ref a1), (.ref a2)] (Q_rmEq Z wcache a1 a2 q1 q2 q3 q4 h0 n0) := by
  refine own_body (plainFor_of_name pn_com_example_umpired_umpired_server_SessionHandle) ?_
  intro p e s m below meth c s₁ hx hby hml hown hnm hret0 hlk0 hZ X0 e0
  have N0 := Fr.nil n0
  have pre0 : ∀ t, Steps p.tables e below (s₁.setTop (mkF m 0 #[(vr a1), (vr a2), .unset] [])) t → Steps p.tables e below (s₁.setTop (entryFrame m #[(.ref a1), (.ref a2)] 3)) t := fun t k => castTop (ef_rmEq m a1 a2) k
  have hS0 := hS
  obtain ⟨S_cache, LC0⟩ := hS0
  obtain ⟨T1, X1, e1, st1⟩ := instY X0 hx hZ hown (ow hw 18 rfl) e0 (Ins.self P0) (g := (mkF m 1 #[(vr a1), (vr a2), .unset] [(.ref a2)])) rfl rfl (hb hby d3_1)
  obtain ⟨T2, X2, e2, st2⟩ := castY X1 hx hZ hown (ow hw 18 rfl) e1 (Ins.self P0) (g := (mkF m 10 #[(vr a1), (vr a2), .unset] [(.ref a2)])) rfl rfl (hb hby d3_10)
  obtain ⟨T3, X3, e3, st3⟩ := getF X2 hx hZ hown (host := "") (Or.inl (ow hw 9 rfl)) Via.refl e2 P1 (g := (mkF m 15 #[(vr a1), (vr a2), (vr a2)] [(.ref a1)])) rfl rfl (hb hby d3_15)
  obtain ⟨T4, X4, e4, st4⟩ := getF X3 hx hZ hown (host := "") (Or.inl (ow hw 9 rfl)) Via.refl e3 P3 (g := (mkF m 19 #[(vr a1), (vr a2), (vr a2)] [(.ref a2), (.long q1)])) rfl rfl (hb hby d3_19)
  have pre5 : ∀ t, Steps p.tables e below (T4.setTop (mkF m 23 #[(vr a1), (vr a2), (vr a2)] [(.int (lcmpW q1 q3))])) t → Steps p.tables e below (s₁.setTop (entryFrame m #[(.ref a1), (.ref a2)] 3)) t := by
    intro t k
    refine pre0 t ?_
    show Steps p.tables e below (s₁.setTop (mkF m 0 #[(vr a1), (vr a2), .unset] [])) _
    refine XS.aloadN X0.here hx rfl (hb hby d3_0) rfl rfl ?_
    refine st1 _ ?_
    refine XS.ifYes X1.here hx rfl (pc0 := 4) (pc' := 9) rfl (hb hby d3_4) rfl ((if0 _ _).trans (feq (by decide : ¬ ((1 : Int32) = (0 : Int32)))).2) (by decide) (by decide) ?_
    refine XS.aloadN X1.here hx rfl (hb hby d3_9) rfl rfl ?_
    refine st2 _ ?_
    show Steps p.tables e below (T2.setTop (mkF m 13 #[(vr a1), (vr a2), .unset] [(.ref a2)])) _
    refine XS.astoreN X2.here hx rfl (hb hby d3_13) rfl rfl (l' := #[(vr a1), (vr a2), (vr a2)]) rfl ?_
    refine XS.aloadN X2.here hx rfl (hb hby d3_14) rfl rfl ?_
    refine st3 _ ?_
    refine XS.aloadN X3.here hx rfl (hb hby d3_18) rfl rfl ?_
    refine st4 _ ?_
    show Steps p.tables e below (T4.setTop (mkF m 22 #[(vr a1), (vr a2), (vr a2)] [(.long q3), (.long q1)])) _
    refine XS.lcmp X4.here hx rfl (hb hby d3_22) rfl ?_
    exact k
  rcases Decidable.em ((lcmpW q1 q3) = (0 : Int32)) with hc6 | hc6
  · skip
    obtain ⟨T7, X7, e7, st7⟩ := getF X4 hx hZ hown (host := "") (Or.inl (ow hw 11 rfl)) Via.refl e4 P2 (g := (mkF m 27 #[(vr a1), (vr a2), (vr a2)] [(.ref a1)])) rfl rfl (hb hby d3_27)
    obtain ⟨T8, X8, e8, st8⟩ := getF X7 hx hZ hown (host := "") (Or.inl (ow hw 11 rfl)) Via.refl e7 P4 (g := (mkF m 31 #[(vr a1), (vr a2), (vr a2)] [(.ref a2), (.long q2)])) rfl rfl (hb hby d3_31)
    have pre9 : ∀ t, Steps p.tables e below (T8.setTop (mkF m 35 #[(vr a1), (vr a2), (vr a2)] [(.int (lcmpW q2 q4))])) t → Steps p.tables e below (s₁.setTop (entryFrame m #[(.ref a1), (.ref a2)] 3)) t := by
      intro t k
      refine pre5 t ?_
      refine XS.ifNo X4.here hx rfl (hb hby d3_23) rfl ((if0 _ _).trans (teq hc6).2) ?_
      refine XS.aloadN X4.here hx rfl (hb hby d3_26) rfl rfl ?_
      refine st7 _ ?_
      refine XS.aloadN X7.here hx rfl (hb hby d3_30) rfl rfl ?_
      show Steps p.tables e below (T7.setTop (mkF m 31 #[(vr a1), (vr a2), (vr a2)] [(.ref a2), (.long q2)])) _
      refine st8 _ ?_
      refine XS.lcmp X8.here hx rfl (hb hby d3_34) rfl ?_
      exact k
    rcases Decidable.em ((lcmpW q2 q4) = (0 : Int32)) with hc10 | hc10
    · skip
      obtain ⟨fs, hr, hrun, hended, hW, hsame⟩ := X8.leave (v := some (.int 1)) (fun h => by rw [hret0] at h; cases h)
      refine ⟨_, _, pre9 _ ?_, hrun, hended, _, _, rfl, ?_, ⟨_, rfl⟩, hW, hsame.mono (by decide) (by decide)⟩
      · skip
        refine XS.ifNo X8.here hx rfl (hb hby d3_35) rfl ((if0 _ _).trans (teq hc10).2) ?_
        refine XS.iconst X8.here hx rfl (hb hby d3_38) ?_
        refine XS.goto X8.here hx rfl (pc0 := 39) (pc' := 43) rfl (hb hby d3_39) (by decide) (by decide) ?_
        show Steps p.tables e below (T8.setTop (mkF m 43 #[(vr a1), (vr a2), (vr a2)] [(.int 1)])) _
        exact retN X8 hx (t := .boolean) hret0 (by simp) (hb hby d3_43) hr
      · show Q_rmEq Z wcache a1 a2 q1 q2 q3 q4 h0 n0 _ T8.heap _
        rw [e8]
        exact ⟨(1 : Int32), rfl, N0, rfl, (by simp [hc6, hc10])⟩
    · skip
      obtain ⟨fs, hr, hrun, hended, hW, hsame⟩ := X8.leave (v := some (.int 0)) (fun h => by rw [hret0] at h; cases h)
      refine ⟨_, _, pre9 _ ?_, hrun, hended, _, _, rfl, ?_, ⟨_, rfl⟩, hW, hsame.mono (by decide) (by decide)⟩
      · skip
        refine XS.ifYes X8.here hx rfl (pc0 := 35) (pc' := 42) rfl (hb hby d3_35) rfl ((if0 _ _).trans (feq hc10).2) (by decide) (by decide) ?_
        refine XS.iconst X8.here hx rfl (hb hby d3_42) ?_
        exact retN X8 hx (t := .boolean) hret0 (by simp) (hb hby d3_43) hr
      · show Q_rmEq Z wcache a1 a2 q1 q2 q3 q4 h0 n0 _ T8.heap _
        rw [e8]
        exact ⟨(0 : Int32), rfl, N0, rfl, (by simp [hc6, hc10])⟩
  · skip
    obtain ⟨fs, hr, hrun, hended, hW, hsame⟩ := X4.leave (v := some (.int 0)) (fun h => by rw [hret0] at h; cases h)
    refine ⟨_, _, pre5 _ ?_, hrun, hended, _, _, rfl, ?_, ⟨_, rfl⟩, hW, hsame.mono (by decide) (by decide)⟩
    · skip
      refine XS.ifYes X4.here hx rfl (pc0 := 23) (pc' := 42) rfl (hb hby d3_23) rfl ((if0 _ _).trans (feq hc6).2) (by decide) (by decide) ?_
      refine XS.iconst X4.here hx rfl (hb hby d3_42) ?_
      exact retN X4 hx (t := .boolean) hret0 (by simp) (hb hby d3_43) hr
    · show Q_rmEq Z wcache a1 a2 q1 q2 q3 q4 h0 n0 _ T4.heap _
      rw [e4]
      exact ⟨(0 : Int32), rfl, N0, rfl, (by simp [hc6])⟩
theorem ef_rmEqN (m : MethodId) (x0 : Addr)  : entryFrame m #[(.ref x0), .null] 3 = mkF m 0 #[(vr x0), .val .null, .unset] [] := by first | (simp [entryFrame, mkF, argsToLocals, Value.category]; done) | rfl
theorem d3_7 : decode prog_88_method_6_code 7 = .ok (.iconst 0, 1) := by decide +kernel
theorem d3_8 : decode prog_88_method_6_code 8 = .ok (.ireturn, 1) := by decide +kernel
def Q_rmEqN (Z : State) (wcache : Addr) (a1 : Addr) (h0 : Heap) (n0 : Nat) (v : Option Value) (h : Heap) (L : List Loc) : Prop := v = some (.int 0) ∧ Fr n0 L ∧ h = h0
theorem rmEqN (l : Launch) (Z : State) (a0 : Array Value) (hw : ∀ d ∈ tables_1, d.before a0 Z = true) (ws : List Jvm.Cond) (wcache : Addr) (hS : SS Z wcache) (a1 : Addr) (h0 : Heap) (n0 : Nat) (O0 : Old Z n0 h0)  :
    MetB l M1 prog_88_method_6_code 3 (some .boolean) ws (rmk 0 0 0 0) Z h0 #[(.ref a1), .null] (Q_rmEqN Z wcache a1 h0 n0) := by
  refine own_body (plainFor_of_name pn_com_example_umpired_umpired_server_SessionHandle) ?_
  intro p e s m below meth c s₁ hx hby hml hown hnm hret0 hlk0 hZ X0 e0
  have N0 := Fr.nil n0
  have pre0 : ∀ t, Steps p.tables e below (s₁.setTop (mkF m 0 #[(vr a1), .val .null, .unset] [])) t → Steps p.tables e below (s₁.setTop (entryFrame m #[(.ref a1), .null] 3)) t := fun t k => castTop (ef_rmEqN m a1) k
  have hS0 := hS
  obtain ⟨S_cache, LC0⟩ := hS0
  obtain ⟨fs, hr, hrun, hended, hW, hsame⟩ := X0.leave (v := some (.int 0)) (fun h => by rw [hret0] at h; cases h)
  refine ⟨_, _, pre0 _ ?_, hrun, hended, _, _, rfl, ?_, ⟨_, rfl⟩, hW, hsame.mono (by decide) (by decide)⟩
  · skip
    show Steps p.tables e below (s₁.setTop (mkF m 0 #[(vr a1), .val .null, .unset] [])) _
    refine XS.aloadN X0.here hx rfl (hb hby d3_0) rfl rfl ?_
    refine X0.instanceofNull hx (g := (mkF m 1 #[(vr a1), .val .null, .unset] [.null])) rfl rfl (hb hby d3_1) _ ?_
    refine XS.ifNo X0.here hx rfl (hb hby d3_4) rfl ((if0 _ _).trans (teq (by decide : (0 : Int32) = (0 : Int32))).2) ?_
    refine XS.iconst X0.here hx rfl (hb hby d3_7) ?_
    exact retN X0 hx (t := .boolean) hret0 (by simp) (hb hby d3_8) hr
  · show Q_rmEqN Z wcache a1 h0 n0 _ s₁.heap _
    rw [e0]
    exact ⟨rfl, N0, rfl⟩
theorem ef_rmEqL (m : MethodId) (x0 : Addr) (x1 : Addr)  : entryFrame m #[(.ref x0), (.ref x1)] 3 = mkF m 0 #[(vr x0), (vr x1), .unset] [] := by first | (simp [entryFrame, mkF, argsToLocals, Value.category]; done) | rfl
def Q_rmEqL (Z : State) (wcache : Addr) (a1 : Addr) (a2 : Addr) (h0 : Heap) (n0 : Nat) (v : Option Value) (h : Heap) (L : List Loc) : Prop := v = some (.int 0) ∧ Fr n0 L ∧ h = h0
theorem rmEqL (l : Launch) (Z : State) (a0 : Array Value) (hw : ∀ d ∈ tables_1, d.before a0 Z = true) (ws : List Jvm.Cond) (wcache : Addr) (hS : SS Z wcache) (a1 : Addr) (a2 : Addr) (h0 : Heap) (n0 : Nat) (O0 : Old Z n0 h0) (P0 : Exa Z h0 a2 s0n) :
    MetB l M1 prog_88_method_6_code 3 (some .boolean) ws (rmk 0 0 0 0) Z h0 #[(.ref a1), (.ref a2)] (Q_rmEqL Z wcache a1 a2 h0 n0) := by
  refine own_body (plainFor_of_name pn_com_example_umpired_umpired_server_SessionHandle) ?_
  intro p e s m below meth c s₁ hx hby hml hown hnm hret0 hlk0 hZ X0 e0
  have N0 := Fr.nil n0
  have pre0 : ∀ t, Steps p.tables e below (s₁.setTop (mkF m 0 #[(vr a1), (vr a2), .unset] [])) t → Steps p.tables e below (s₁.setTop (entryFrame m #[(.ref a1), (.ref a2)] 3)) t := fun t k => castTop (ef_rmEqL m a1 a2) k
  have hS0 := hS
  obtain ⟨S_cache, LC0⟩ := hS0
  obtain ⟨T1, X1, e1, st1⟩ := instNo X0 hx hZ hown (ow hw 18 rfl) e0 P0 (own_no Z a0 (ow hw 40 rfl) (ow hw 41 rfl) (ow hw 42 rfl) (ow hw 1 rfl)) (g := (mkF m 1 #[(vr a1), (vr a2), .unset] [(.ref a2)])) rfl rfl (hb hby d3_1)
  obtain ⟨fs, hr, hrun, hended, hW, hsame⟩ := X1.leave (v := some (.int 0)) (fun h => by rw [hret0] at h; cases h)
  refine ⟨_, _, pre0 _ ?_, hrun, hended, _, _, rfl, ?_, ⟨_, rfl⟩, hW, hsame.mono (by decide) (by decide)⟩
  · skip
    show Steps p.tables e below (s₁.setTop (mkF m 0 #[(vr a1), (vr a2), .unset] [])) _
    refine XS.aloadN X0.here hx rfl (hb hby d3_0) rfl rfl ?_
    refine st1 _ ?_
    refine XS.ifNo X1.here hx rfl (hb hby d3_4) rfl ((if0 _ _).trans (teq (by decide : (0 : Int32) = (0 : Int32))).2) ?_
    refine XS.iconst X1.here hx rfl (hb hby d3_7) ?_
    exact retN X1 hx (t := .boolean) hret0 (by simp) (hb hby d3_8) hr
  · show Q_rmEqL Z wcache a1 a2 h0 n0 _ T1.heap _
    rw [e1]
    exact ⟨rfl, N0, rfl⟩
theorem ef_rmNum (m : MethodId) (x0 : Addr)  : entryFrame m #[(.ref x0)] 1 = mkF m 0 #[(vr x0)] [] := by first | (simp [entryFrame, mkF, argsToLocals, Value.category]; done) | rfl
theorem pn_java_lang_Number : plainName "java/lang/Number" = true := by first | (simp [plainName, overriddenIn]; done) | decide +kernel
theorem d6_0 : decode jdk_18_method_1_code 0 = .ok (.aload_n 0, 1) := by decide +kernel
theorem d6_1 : decode jdk_18_method_1_code 1 = .ok (.invokespecial 1, 3) := by decide +kernel
theorem d6_4 : decode jdk_18_method_1_code 4 = .ok (.return_, 1) := by decide +kernel
def Q_rmNum (Z : State) (wcache : Addr) (a1 : Addr) (h0 : Heap) (n0 : Nat) (v : Option Value) (h : Heap) (L : List Loc) : Prop := v = none ∧ Fr n0 L ∧ h = h0
theorem rmNum (l : Launch) (Z : State) (a0 : Array Value) (hw : ∀ d ∈ tables_1, d.before a0 Z = true) (ws : List Jvm.Cond) (wcache : Addr) (hS : SS Z wcache) (a1 : Addr) (h0 : Heap) (n0 : Nat) (O0 : Old Z n0 h0)  :
    MetB l M2 jdk_18_method_1_code 1 none ws (rmk 1 0 0 12) Z h0 #[(.ref a1)] (Q_rmNum Z wcache a1 h0 n0) := by
  refine own_body (plainFor_of_name pn_java_lang_Number) ?_
  intro p e s m below meth c s₁ hx hby hml hown hnm hret0 hlk0 hZ X0 e0
  have N0 := Fr.nil n0
  have pre0 : ∀ t, Steps p.tables e below (s₁.setTop (mkF m 0 #[(vr a1)] [])) t → Steps p.tables e below (s₁.setTop (entryFrame m #[(.ref a1)] 1)) t := fun t k => castTop (ef_rmNum m a1) k
  have hS0 := hS
  obtain ⟨S_cache, LC0⟩ := hS0
  obtain ⟨T1, X1, e1, st1⟩ := initO X0 hx hZ hown (ow hw 37 rfl) (ow hw 7 rfl) (ow hw 8 rfl) e0 (g := (mkF m 1 #[(vr a1)] [(.ref a1)])) rfl (by rw [hml]; rfl) rfl (hb hby d6_1) (by decide) (W := 0) (by show 2 * 0 + _ ≤ _; exact Nat.le_of_eq rfl) (by decide)
  obtain ⟨fs, hr, hrun, hended, hW, hsame⟩ := X1.leave (v := none) (fun _ => rfl)
  refine ⟨_, _, pre0 _ ?_, hrun, hended, _, _, rfl, ?_, ⟨_, rfl⟩, hW, hsame.mono (by decide) (by decide)⟩
  · skip
    show Steps p.tables e below (s₁.setTop (mkF m 0 #[(vr a1)] [])) _
    refine XS.aloadN X0.here hx rfl (hb hby d6_0) rfl rfl ?_
    refine st1 _ ?_
    exact X1.returnOut hx hret0 (hb hby d6_4) hr
  · show Q_rmNum Z wcache a1 h0 n0 _ T1.heap _
    rw [e1]
    exact ⟨rfl, N0, rfl⟩
theorem ef_rmLI (m : MethodId) (x0 : Addr) (x1 : Int64)  : entryFrame m #[(.ref x0), (.long x1)] 3 = mkF m 0 #[(vr x0), (vl x1), .second] [] := by first | (simp [entryFrame, mkF, argsToLocals, Value.category]; done) | rfl
theorem pn_java_lang_Long : plainName "java/lang/Long" = true := by first | (simp [plainName, overriddenIn]; done) | decide +kernel
theorem d5_0 : decode jdk_35_method_26_code 0 = .ok (.aload_n 0, 1) := by decide +kernel
theorem d5_1 : decode jdk_35_method_26_code 1 = .ok (.invokespecial 270, 3) := by decide +kernel
theorem pd_0 : parseMethodDescriptor "()V" = some ⟨[], none⟩ := by decide +kernel
theorem d5_4 : decode jdk_35_method_26_code 4 = .ok (.aload_n 0, 1) := by decide +kernel
theorem d5_5 : decode jdk_35_method_26_code 5 = .ok (.lload_n 1, 1) := by decide +kernel
theorem d5_6 : decode jdk_35_method_26_code 6 = .ok (.putfield 273, 3) := by decide +kernel
theorem d5_9 : decode jdk_35_method_26_code 9 = .ok (.return_, 1) := by decide +kernel
def Q_rmLI (Z : State) (wcache : Addr) (a1 : Addr) (q1 : Int64) (u1 : Value) (h0 : Heap) (n0 : Nat) (v : Option Value) (h : Heap) (L : List Loc) : Prop := v = none ∧ Fr n0 L ∧ Keep h0 h [a1] ∧ Exa Z h a1 s0n
theorem rmLI (l : Launch) (Z : State) (a0 : Array Value) (hw : ∀ d ∈ tables_1, d.before a0 Z = true) (ws : List Jvm.Cond) (wcache : Addr) (hS : SS Z wcache) (a1 : Addr) (q1 : Int64) (u1 : Value) (h0 : Heap) (n0 : Nat) (O0 : Old Z n0 h0) (P0 : Exa Z h0 a1 s0n) (P1 : n0 ≤ a1) (P2 : Fld Z h0 a1 s0n "value" "J" u1) :
    MetB l M3 jdk_35_method_26_code 3 none ws (rmk 2 0 0 24) Z h0 #[(.ref a1), (.long q1)] (Q_rmLI Z wcache a1 q1 u1 h0 n0) := by
  refine own_body (plainFor_of_name pn_java_lang_Long) ?_
  intro p e s m below meth c s₁ hx hby hml hown hnm hret0 hlk0 hZ X0 e0
  have N0 := Fr.nil n0
  have pre0 : ∀ t, Steps p.tables e below (s₁.setTop (mkF m 0 #[(vr a1), (vl q1), .second] [])) t → Steps p.tables e below (s₁.setTop (entryFrame m #[(.ref a1), (.long q1)] 3)) t := fun t k => castTop (ef_rmLI m a1 q1) k
  have K0 := Keep.refl h0 [a1]
  have hS0 := hS
  obtain ⟨S_cache, LC0⟩ := hS0
  obtain ⟨_, _, ⟨T1, L1, k1, n1⟩, -, X1, ⟨Lc1, hQ1, l1, y1, z1⟩, st1⟩ := X0.specialBack hx (y := M2) rfl hown (mvT hZ (ow hw 31 rfl)) (mvT hZ (ow hw 32 rfl)) (mvT hZ (ow hw 36 rfl)) (by decide) (backOf (W := 0) (rmNum l Z a0 hw [] wcache hS a1 h0 n0 O0 ) hZ (ow hw 36 rfl) (ow hw 35 rfl) (by decide) (by decide)) (g := (mkF m 1 #[(vr a1), (vl q1), .second] [(.ref a1)])) rfl (by rw [hml]; rfl) (Steps.refl _) (a := a1) (argsL := []) (rest := []) (lenOf pd_0 rfl) rfl (by show 2 * 0 + _ ≤ _; exact Nat.le_of_eq rfl) (hb hby d5_1) (fun _ _ => ⟨rfl, e0, (by decide : 0 + 0 ≤ _), (by decide : 0 + 0 ≤ _)⟩)
  dsimp only [Pt.U, Pt.locs, Pt.cells, Pt.slots] at X1 l1 y1 z1 st1 hQ1
  subst l1 y1 z1
  obtain ⟨rfl, Nq1, K1q⟩ := hQ1
  have N1 := Fr.app N0 Nq1
  obtain ⟨T2, h2, X2, e2, W2, st2⟩ := putF X1 hx hZ hown (host := "") (Or.inl (ow hw 38 rfl)) Via.refl K1q P2 P0 (Or.inr ⟨(ow hw 39 rfl), rfl, hnm⟩) (ow hw 26 rfl) (ty := .long) (by decide) rfl rfl (g := (mkF m 6 #[(vr a1), (vl q1), .second] [(.long q1), (.ref a1)])) rfl rfl (hb hby d5_6)
  have N2 := Fr.snoc X2 N1 P1
  have O3 : Old Z n0 h2 := O0.wr W2 P1
  have K3 : Keep h0 h2 [a1] := K0.wr W2 (Or.inl (List.mem_of_getElem? (i := 0) rfl))
  have Fw2 : Fld Z h2 a1 s0n "value" "J" (.long q1) := P2.same W2
  have f4 : Exa Z h2 a1 s0n := (P0.wr W2)
  obtain ⟨fs, hr, hrun, hended, hW, hsame⟩ := X2.leave (v := none) (fun _ => rfl)
  refine ⟨_, _, pre0 _ ?_, hrun, hended, _, _, rfl, ?_, ⟨_, rfl⟩, hW, hsame.mono (by decide) (by decide)⟩
  · skip
    show Steps p.tables e below (s₁.setTop (mkF m 0 #[(vr a1), (vl q1), .second] [])) _
    refine XS.aloadN X0.here hx rfl (hb hby d5_0) rfl rfl ?_
    refine st1.trans ?_
    refine XS.aloadN X1.here hx rfl (hb hby d5_4) rfl rfl ?_
    refine XS.lloadN X1.here hx rfl (hb hby d5_5) rfl ?_
    refine st2 _ ?_
    show Steps p.tables e below (T2.setTop (mkF m 9 #[(vr a1), (vl q1), .second] [])) _
    exact X2.returnOut hx hret0 (hb hby d5_9) hr
  · show Q_rmLI Z wcache a1 q1 u1 h0 n0 _ T2.heap _
    rw [e2]
    exact ⟨rfl, N2, K3, f4⟩
theorem ef_rmVal (m : MethodId) (x0 : Int64)  : entryFrame m #[(.long x0)] 3 = mkF m 0 #[(vl x0), .second, .unset] [] := by first | (simp [entryFrame, mkF, argsToLocals, Value.category]; done) | rfl
theorem d4_0 : decode jdk_35_method_24_code 0 = .ok (.sipush 128, 3) := by decide +kernel
theorem d4_3 : decode jdk_35_method_24_code 3 = .ok (.istore_n 2, 1) := by decide +kernel
theorem d4_4 : decode jdk_35_method_24_code 4 = .ok (.lload_n 0, 1) := by decide +kernel
theorem d4_5 : decode jdk_35_method_24_code 5 = .ok (.ldc2_w 230, 3) := by decide +kernel
theorem d4_8 : decode jdk_35_method_24_code 8 = .ok (.lcmp, 1) := by decide +kernel
theorem d4_9 : decode jdk_35_method_24_code 9 = .ok (.ifCond .lt 22, 3) := by decide +kernel
theorem d4_31 : decode jdk_35_method_24_code 31 = .ok (.new 1, 3) := by decide +kernel
theorem d4_34 : decode jdk_35_method_24_code 34 = .ok (.dup, 1) := by decide +kernel
theorem d4_35 : decode jdk_35_method_24_code 35 = .ok (.lload_n 0, 1) := by decide +kernel
theorem d4_36 : decode jdk_35_method_24_code 36 = .ok (.invokespecial 240, 3) := by decide +kernel
theorem pd_1 : parseMethodDescriptor "(J)V" = some ⟨[.long], none⟩ := by decide +kernel
theorem d4_39 : decode jdk_35_method_24_code 39 = .ok (.areturn, 1) := by decide +kernel
theorem d4_12 : decode jdk_35_method_24_code 12 = .ok (.lload_n 0, 1) := by decide +kernel
theorem d4_13 : decode jdk_35_method_24_code 13 = .ok (.ldc2_w 232, 3) := by decide +kernel
theorem d4_16 : decode jdk_35_method_24_code 16 = .ok (.lcmp, 1) := by decide +kernel
theorem d4_17 : decode jdk_35_method_24_code 17 = .ok (.ifCond .gt 14, 3) := by decide +kernel
theorem d4_20 : decode jdk_35_method_24_code 20 = .ok (.getstatic 234, 3) := by decide +kernel
theorem d4_23 : decode jdk_35_method_24_code 23 = .ok (.lload_n 0, 1) := by decide +kernel
theorem d4_24 : decode jdk_35_method_24_code 24 = .ok (.l2i, 1) := by decide +kernel
theorem d4_25 : decode jdk_35_method_24_code 25 = .ok (.sipush 128, 3) := by decide +kernel
theorem d4_28 : decode jdk_35_method_24_code 28 = .ok (.iadd, 1) := by decide +kernel
theorem d4_29 : decode jdk_35_method_24_code 29 = .ok (.aaload, 1) := by decide +kernel
theorem d4_30 : decode jdk_35_method_24_code 30 = .ok (.areturn, 1) := by decide +kernel
def Q_rmVal (Z : State) (wcache : Addr) (q1 : Int64) (h0 : Heap) (n0 : Nat) (v : Option Value) (h : Heap) (L : List Loc) : Prop := ∃ (b : Addr), v = some (.ref b) ∧ Fr n0 L ∧ Keep h0 h [] ∧ Exa Z h b s0n
theorem rmVal (l : Launch) (Z : State) (a0 : Array Value) (hw : ∀ d ∈ tables_1, d.before a0 Z = true) (ws : List Jvm.Cond) (wcache : Addr) (hS : SS Z wcache) (q1 : Int64) (h0 : Heap) (n0 : Nat) (O0 : Old Z n0 h0)  :
    MetB l M4 jdk_35_method_24_code 3 (some (.object s0n)) ws (rmk 3 1 1 39) Z h0 #[(.long q1)] (Q_rmVal Z wcache q1 h0 n0) := by
  refine own_body (plainFor_of_name pn_java_lang_Long) ?_
  intro p e s m below meth c s₁ hx hby hml hown hnm hret0 hlk0 hZ X0 e0
  have N0 := Fr.nil n0
  have pre0 : ∀ t, Steps p.tables e below (s₁.setTop (mkF m 0 #[(vl q1), .second, .unset] [])) t → Steps p.tables e below (s₁.setTop (entryFrame m #[(.long q1)] 3)) t := fun t k => castTop (ef_rmVal m q1) k
  have K0 := Keep.refl h0 []
  have hS0 := hS
  obtain ⟨S_cache, LC0⟩ := hS0
  have pre1 : ∀ t, Steps p.tables e below (s₁.setTop (mkF m 9 #[(vl q1), .second, (vi 128)] [(.int (lcmpW q1 (-128 : Int64)))])) t → Steps p.tables e below (s₁.setTop (entryFrame m #[(.long q1)] 3)) t := by
    intro t k
    refine pre0 t ?_
    show Steps p.tables e below (s₁.setTop (mkF m 0 #[(vl q1), .second, .unset] [])) _
    refine XS.sipush X0.here hx rfl (hb hby d4_0) ?_
    refine XS.istoreN X0.here hx rfl (hb hby d4_3) rfl (l' := #[(vl q1), .second, (vi 128)]) rfl ?_
    refine XS.lloadN X0.here hx rfl (hb hby d4_4) rfl ?_
    refine X0.ldc2Long hx hown (mvT hZ (ow hw 24 rfl)) (g := (mkF m 5 #[(vl q1), .second, (vi 128)] [(.long q1)])) rfl (hb hby d4_5) _ ?_
    refine XS.lcmp X0.here hx rfl (hb hby d4_8) rfl ?_
    show Steps p.tables e below (s₁.setTop (mkF m 9 #[(vl q1), .second, (vi 128)] [(.int (lcmpW q1 (-128 : Int64)))])) _
    exact k
  rcases Decidable.em ((lcmpW q1 (-128 : Int64)) < (0 : Int32)) with hc2 | hc2
  · skip
    obtain ⟨T3, h3, X3, e3, E3, A3, D3, -, st3⟩ := newO X0 hx hZ hown (ow hw 25 rfl) (ow hw 26 rfl) (ow hw 22 rfl) e0 (g := (mkF m 31 #[(vl q1), .second, (vi 128)] [])) rfl (hb hby d4_31) (by decide) (by decide)
    obtain ⟨b3, g3⟩ : ∃ z, z = h0.size := ⟨_, rfl⟩
    rw [← g3] at A3 D3 st3
    have g4 : n0 ≤ b3 := Nat.le_trans (own_sz O0) (Nat.le_of_eq g3.symm)
    have sz5 : h0.size ≤ b3 := Nat.le_trans K0.1 (Nat.le_of_eq g3.symm)
    have O6 : Old Z n0 h3 := O0.ext E3
    have K6 : Keep h0 h3 [] := K0.ext E3
    have f7 : Fld Z h3 b3 s0n "value" "J" (.long 0) := D3 (Or.inr (ow hw 39 rfl)) (ty := .long) (by decide)
    obtain ⟨_, _, ⟨T8, L8, k8, n8⟩, -, X8, ⟨Lc8, hQ8, l8, y8, z8⟩, st8⟩ := X3.specialBack hx (y := M3) rfl hown (mvT hZ (ow hw 27 rfl)) (mvT hZ (ow hw 28 rfl)) (mvT hZ (ow hw 30 rfl)) (by decide) (backOf (W := 1) (rmLI l Z a0 hw [] wcache hS b3 q1 (.long 0) h3 n0 O6 A3 g4 f7) hZ (ow hw 30 rfl) (ow hw 22 rfl) (by decide) (by decide)) (g := (mkF m 36 #[(vl q1), .second, (vi 128)] [(.long q1), (.ref b3), (.ref b3)])) rfl (by rw [hml]; rfl) (Steps.refl _) (a := b3) (argsL := [(.long q1)]) (rest := [(.ref b3)]) (lenOf pd_1 rfl) rfl (by show 2 * 0 + _ ≤ _; exact Nat.le_of_eq rfl) (hb hby d4_36) (fun _ _ => ⟨rfl, e3, (by decide : 1 + 0 ≤ _), (by decide : 1 + 0 ≤ _)⟩)
    dsimp only [Pt.U, Pt.locs, Pt.cells, Pt.slots] at X8 l8 y8 z8 st8 hQ8
    subst l8 y8 z8
    obtain ⟨rfl, Nq8, K8q, p8_0⟩ := hQ8
    have N8 := Fr.app N0 Nq8
    have O9 : Old Z n0 T8.heap := O6.keep K8q (allS g4 all0)
    have K9 : Keep h0 T8.heap [] := K6.trans K8q (allS (Or.inr sz5) all0)
    obtain ⟨fs, hr, hrun, hended, hW, hsame⟩ := X8.leave (v := some (.ref b3)) (fun h => by rw [hret0] at h; cases h)
    refine ⟨_, _, pre1 _ ?_, hrun, hended, _, _, rfl, ?_, ⟨_, rfl⟩, hW, hsame.mono (by decide) (by decide)⟩
    · skip
      refine XS.ifYes X0.here hx rfl (pc0 := 9) (pc' := 31) rfl (hb hby d4_9) rfl ((if0 _ _).trans (tlt hc2).1) (by decide) (by decide) ?_
      refine st3 _ ?_
      refine XS.dup X3.here hx rfl (hb hby d4_34) rfl rfl ?_
      refine XS.lloadN X3.here hx rfl (hb hby d4_35) rfl ?_
      refine st8.trans ?_
      show Steps p.tables e below (T8.setTop (mkF m 39 #[(vl q1), .second, (vi 128)] [(.ref b3)])) _
      jvm_step X8.here [X8.here.top, hx, (hb hby d4_39), X8.method', hret0, Value.isRef, FieldType.isReference]
      first | (intro acts; rw [hr _ acts rfl rfl rfl]) | rw [hr _ _ rfl rfl rfl]
      exact Steps.refl _
    · show Q_rmVal Z wcache q1 h0 n0 _ T8.heap _
      exact ⟨b3, rfl, N8, K9, p8_0⟩
  · skip
    have pre10 : ∀ t, Steps p.tables e below (s₁.setTop (mkF m 17 #[(vl q1), .second, (vi 128)] [(.int (lcmpW q1 (127 : Int64)))])) t → Steps p.tables e below (s₁.setTop (entryFrame m #[(.long q1)] 3)) t := by
      intro t k
      refine pre1 t ?_
      refine XS.ifNo X0.here hx rfl (hb hby d4_9) rfl ((if0 _ _).trans (flt hc2).1) ?_
      refine XS.lloadN X0.here hx rfl (hb hby d4_12) rfl ?_
      refine X0.ldc2Long hx hown (mvT hZ (ow hw 43 rfl)) (g := (mkF m 13 #[(vl q1), .second, (vi 128)] [(.long q1)])) rfl (hb hby d4_13) _ ?_
      refine XS.lcmp X0.here hx rfl (hb hby d4_16) rfl ?_
      exact k
    rcases Decidable.em ((0 : Int32) < (lcmpW q1 (127 : Int64))) with hc11 | hc11
    · skip
      obtain ⟨T12, h12, X12, e12, E12, A12, D12, -, st12⟩ := newO X0 hx hZ hown (ow hw 25 rfl) (ow hw 26 rfl) (ow hw 22 rfl) e0 (g := (mkF m 31 #[(vl q1), .second, (vi 128)] [])) rfl (hb hby d4_31) (by decide) (by decide)
      obtain ⟨b12, g12⟩ : ∃ z, z = h0.size := ⟨_, rfl⟩
      rw [← g12] at A12 D12 st12
      have g13 : n0 ≤ b12 := Nat.le_trans (own_sz O0) (Nat.le_of_eq g12.symm)
      have sz14 : h0.size ≤ b12 := Nat.le_trans K0.1 (Nat.le_of_eq g12.symm)
      have O15 : Old Z n0 h12 := O0.ext E12
      have K15 : Keep h0 h12 [] := K0.ext E12
      have f16 : Fld Z h12 b12 s0n "value" "J" (.long 0) := D12 (Or.inr (ow hw 39 rfl)) (ty := .long) (by decide)
      obtain ⟨_, _, ⟨T17, L17, k17, n17⟩, -, X17, ⟨Lc17, hQ17, l17, y17, z17⟩, st17⟩ := X12.specialBack hx (y := M3) rfl hown (mvT hZ (ow hw 27 rfl)) (mvT hZ (ow hw 28 rfl)) (mvT hZ (ow hw 30 rfl)) (by decide) (backOf (W := 1) (rmLI l Z a0 hw [] wcache hS b12 q1 (.long 0) h12 n0 O15 A12 g13 f16) hZ (ow hw 30 rfl) (ow hw 22 rfl) (by decide) (by decide)) (g := (mkF m 36 #[(vl q1), .second, (vi 128)] [(.long q1), (.ref b12), (.ref b12)])) rfl (by rw [hml]; rfl) (Steps.refl _) (a := b12) (argsL := [(.long q1)]) (rest := [(.ref b12)]) (lenOf pd_1 rfl) rfl (by show 2 * 0 + _ ≤ _; exact Nat.le_of_eq rfl) (hb hby d4_36) (fun _ _ => ⟨rfl, e12, (by decide : 1 + 0 ≤ _), (by decide : 1 + 0 ≤ _)⟩)
      dsimp only [Pt.U, Pt.locs, Pt.cells, Pt.slots] at X17 l17 y17 z17 st17 hQ17
      subst l17 y17 z17
      obtain ⟨rfl, Nq17, K17q, p17_0⟩ := hQ17
      have N17 := Fr.app N0 Nq17
      have O18 : Old Z n0 T17.heap := O15.keep K17q (allS g13 all0)
      have K18 : Keep h0 T17.heap [] := K15.trans K17q (allS (Or.inr sz14) all0)
      obtain ⟨fs, hr, hrun, hended, hW, hsame⟩ := X17.leave (v := some (.ref b12)) (fun h => by rw [hret0] at h; cases h)
      refine ⟨_, _, pre10 _ ?_, hrun, hended, _, _, rfl, ?_, ⟨_, rfl⟩, hW, hsame.mono (by decide) (by decide)⟩
      · skip
        refine XS.ifYes X0.here hx rfl (pc0 := 17) (pc' := 31) rfl (hb hby d4_17) rfl ((if0 _ _).trans (tlt hc11).2.2.1) (by decide) (by decide) ?_
        show Steps p.tables e below (s₁.setTop (mkF m 31 #[(vl q1), .second, (vi 128)] [])) _
        refine st12 _ ?_
        refine XS.dup X12.here hx rfl (hb hby d4_34) rfl rfl ?_
        refine XS.lloadN X12.here hx rfl (hb hby d4_35) rfl ?_
        refine st17.trans ?_
        jvm_step X17.here [X17.here.top, hx, (hb hby d4_39), X17.method', hret0, Value.isRef, FieldType.isReference]
        first | (intro acts; rw [hr _ acts rfl rfl rfl]) | rw [hr _ _ rfl rfl rfl]
        exact Steps.refl _
      · show Q_rmVal Z wcache q1 h0 n0 _ T17.heap _
        exact ⟨b12, rfl, N17, K18, p17_0⟩
    · skip
      obtain ⟨T19, X19, e19, st19⟩ := getS2 X0 hx hZ hown (host := "") (Or.inl (ow hw 44 rfl)) Via.refl e0 (S_cache.ext O0.2) (g := (mkF m 20 #[(vl q1), .second, (vi 128)] [])) rfl (hb hby d4_20)
      obtain ⟨cl20, Ar20, hB20⟩ := LC0
      obtain ⟨bx, hin20, hat20, EB⟩ := hB20 q1 (own_nlt hc2) (own_ngt hc11)
      have Ax20 := Ar20.ext O0.2
      obtain ⟨fs, hr, hrun, hended, hW, hsame⟩ := X19.leave (v := some (.ref bx)) (fun h => by rw [hret0] at h; cases h)
      refine ⟨_, _, pre10 _ ?_, hrun, hended, _, _, rfl, ?_, ⟨_, rfl⟩, hW, hsame.mono (by decide) (by decide)⟩
      · skip
        refine XS.ifNo X0.here hx rfl (hb hby d4_17) rfl ((if0 _ _).trans (flt hc11).2.2.1) ?_
        show Steps p.tables e below (s₁.setTop (mkF m 20 #[(vl q1), .second, (vi 128)] [])) _
        refine st19 _ ?_
        refine XS.lloadN X19.here hx rfl (hb hby d4_23) rfl ?_
        refine XS.l2i X19.here hx rfl (hb hby d4_24) rfl ?_
        refine XS.sipush X19.here hx rfl (hb hby d4_25) ?_
        refine XS.iadd X19.here hx rfl (hb hby d4_28) rfl ?_
        show Steps p.tables e below (T19.setTop (mkF m 29 #[(vl q1), .second, (vi 128)] [(.int ((q1.toInt32) + (128 : Int32))), (.ref wcache)])) _
        refine X19.aaload hx (j := ((q1.toInt32) + (128 : Int32))) (v := (.ref bx)) (by rw [e19]; exact Ax20.1) (State.isArrayOf_alike hZ.alike Ax20.2.1) rfl Ax20.2.2 hin20 hat20 (g := (mkF m 29 #[(vl q1), .second, (vi 128)] [(.int ((q1.toInt32) + (128 : Int32))), (.ref wcache)])) rfl rfl (hb hby d4_29) _ ?_
        show Steps p.tables e below (T19.setTop (mkF m 30 #[(vl q1), .second, (vi 128)] [(.ref bx)])) _
        jvm_step X19.here [X19.here.top, hx, (hb hby d4_30), X19.method', hret0, Value.isRef, FieldType.isReference]
        first | (intro acts; rw [hr _ acts rfl rfl rfl]) | rw [hr _ _ rfl rfl rfl]
        exact Steps.refl _
      · show Q_rmVal Z wcache q1 h0 n0 _ T19.heap _
        rw [e19]
        exact ⟨bx, rfl, N0, K0, (EB.ext O0.2)⟩
theorem ef_rm0 (m : MethodId) (x0 : Int64) (x1 : Int64) (x2 : Int64) (x3 : Int64) (x4 : Int32)  : entryFrame m #[(.long x0), (.long x1), (.long x2), (.long x3), (.int x4)] maxLocals = mkF m 0 #[(vl x0), .second, (vl x1), .second, (vl x2), .second, (vl x3), .second, (vi x4), .unset, .unset, .unset, .unset, .unset, .unset, .unset, .unset] [] := by first | (simp [entryFrame, mkF, argsToLocals, Value.category, maxLocals]; done) | rfl
theorem pn_com_example_umpired_umpired_server_SessionHandleEqualsPinLaw : plainName "com/example/umpired/umpired/server/SessionHandleEqualsPinLaw" = true := by first | (simp [plainName, overriddenIn]; done) | decide +kernel
theorem pd_2 : parseMethodDescriptor "(JJ)V" = some ⟨[.long, .long], none⟩ := by decide +kernel
theorem pd_3 : parseMethodDescriptor "(Ljava/lang/Object;)Z" = some ⟨[(.object "java/lang/Object")], some .boolean⟩ := by decide +kernel
theorem pd_4 : parseMethodDescriptor "(J)Ljava/lang/Long;" = some ⟨[.long], some (.object "java/lang/Long")⟩ := by decide +kernel
def Q_rm0 (Z : State) (wcache : Addr) (q1 : Int64) (q2 : Int64) (q3 : Int64) (q4 : Int64) (p5 : Int32) (h0 : Heap) (n0 : Nat) (v : Option Value) (h : Heap) (L : List Loc) : Prop := v = some (.int 1) ∧ Fr n0 L
theorem rm0 (l : Launch) (Z : State) (a0 : Array Value) (hw : ∀ d ∈ tables_1, d.before a0 Z = true) (ws : List Jvm.Cond) (wcache : Addr) (hS : SS Z wcache) (q1 : Int64) (q2 : Int64) (q3 : Int64) (q4 : Int64) (p5 : Int32) (h0 : Heap) (n0 : Nat) (O0 : Old Z n0 h0)  :
    MetB l x code maxLocals ret ws room_1 Z h0 #[(.long q1), (.long q2), (.long q3), (.long q4), (.int p5)] (Q_rm0 Z wcache q1 q2 q3 q4 p5 h0 n0) := by
  refine own_body (plainFor_of_name pn_com_example_umpired_umpired_server_SessionHandleEqualsPinLaw) ?_
  intro p e s m below meth c s₁ hx hby hml hown hnm hret0 hlk0 hZ X0 e0
  have N0 := Fr.nil n0
  have pre0 : ∀ t, Steps p.tables e below (s₁.setTop (mkF m 0 #[(vl q1), .second, (vl q2), .second, (vl q3), .second, (vl q4), .second, (vi p5), .unset, .unset, .unset, .unset, .unset, .unset, .unset, .unset] [])) t → Steps p.tables e below (s₁.setTop (entryFrame m #[(.long q1), (.long q2), (.long q3), (.long q4), (.int p5)] maxLocals)) t := fun t k => castTop (ef_rm0 m q1 q2 q3 q4 p5) k
  have hS0 := hS
  obtain ⟨S_cache, LC0⟩ := hS0
  have pre1 : ∀ t, Steps p.tables e below (s₁.setTop (mkF m 4 #[(vl q1), .second, (vl q2), .second, (vl q3), .second, (vl q4), .second, (vi p5), .unset, .unset, .unset, .unset, .unset, .unset, .unset, .unset] [(.int (p5 &&& (1 : Int32)))])) t → Steps p.tables e below (s₁.setTop (entryFrame m #[(.long q1), (.long q2), (.long q3), (.long q4), (.int p5)] maxLocals)) t := by
    intro t k
    refine pre0 t ?_
    show Steps p.tables e below (s₁.setTop (mkF m 0 #[(vl q1), .second, (vl q2), .second, (vl q3), .second, (vl q4), .second, (vi p5), .unset, .unset, .unset, .unset, .unset, .unset, .unset, .unset] [])) _
    refine XS.iload X0.here hx rfl (hb hby at_0) rfl ?_
    refine XS.iconst X0.here hx rfl (hb hby at_2) ?_
    refine XS.iand X0.here hx rfl (hb hby at_3) rfl ?_
    exact k
  obtain ⟨ys, hys⟩ : ∃ z : Int64, z = (if (p5 &&& (1 : Int32)) = (0 : Int32) then q3 else q1) := ⟨_, rfl⟩
  have pre3 : ∀ t, Steps p.tables e below (s₁.setTop (mkF m 13 #[(vl q1), .second, (vl q2), .second, (vl q3), .second, (vl q4), .second, (vi p5), .unset, .unset, .unset, .unset, .unset, .unset, .unset, .unset] [(.long ys)])) t → Steps p.tables e below (s₁.setTop (entryFrame m #[(.long q1), (.long q2), (.long q3), (.long q4), (.int p5)] maxLocals)) t := by
    intro t k
    rw [hys] at k
    refine pre1 t ?_
    show Steps p.tables e below (s₁.setTop (mkF m 4 #[(vl q1), .second, (vl q2), .second, (vl q3), .second, (vl q4), .second, (vi p5), .unset, .unset, .unset, .unset, .unset, .unset, .unset, .unset] [(.int (p5 &&& (1 : Int32)))])) _
    rcases Decidable.em ((p5 &&& (1 : Int32)) = (0 : Int32)) with hm2 | hm2
    · first | simp only [if_pos hm2] at k | skip
      refine XS.ifYes X0.here hx rfl (pc0 := 4) (pc' := 11) rfl (hb hby at_4) rfl ((if0 _ _).trans (teq hm2).1) (by decide) (by decide) ?_
      refine XS.lload X0.here hx rfl (hb hby at_11) rfl ?_
      exact k
    · first | simp only [if_neg hm2] at k | skip
      refine XS.ifNo X0.here hx rfl (hb hby at_4) rfl ((if0 _ _).trans (feq hm2).1) ?_
      refine XS.lloadN X0.here hx rfl (hb hby at_7) rfl ?_
      refine XS.goto X0.here hx rfl (pc0 := 8) (pc' := 13) rfl (hb hby at_8) (by decide) (by decide) ?_
      exact k
  have pre4 : ∀ t, Steps p.tables e below (s₁.setTop (mkF m 19 #[(vl q1), .second, (vl q2), .second, (vl q3), .second, (vl q4), .second, (vi p5), (vl ys), .second, .unset, .unset, .unset, .unset, .unset, .unset] [(.int (p5 &&& (2 : Int32)))])) t → Steps p.tables e below (s₁.setTop (entryFrame m #[(.long q1), (.long q2), (.long q3), (.long q4), (.int p5)] maxLocals)) t := by
    intro t k
    refine pre3 t ?_
    show Steps p.tables e below (s₁.setTop (mkF m 13 #[(vl q1), .second, (vl q2), .second, (vl q3), .second, (vl q4), .second, (vi p5), .unset, .unset, .unset, .unset, .unset, .unset, .unset, .unset] [(.long ys)])) _
    refine XS.lstore X0.here hx rfl (hb hby at_13) rfl (l' := #[(vl q1), .second, (vl q2), .second, (vl q3), .second, (vl q4), .second, (vi p5), (vl ys), .second, .unset, .unset, .unset, .unset, .unset, .unset]) rfl ?_
    refine XS.iload X0.here hx rfl (hb hby at_15) rfl ?_
    refine XS.iconst X0.here hx rfl (hb hby at_17) ?_
    refine XS.iand X0.here hx rfl (hb hby at_18) rfl ?_
    exact k
  obtain ⟨yh, hyh⟩ : ∃ z : Int64, z = (if (p5 &&& (2 : Int32)) = (0 : Int32) then q4 else q2) := ⟨_, rfl⟩
  have pre6 : ∀ t, Steps p.tables e below (s₁.setTop (mkF m 28 #[(vl q1), .second, (vl q2), .second, (vl q3), .second, (vl q4), .second, (vi p5), (vl ys), .second, .unset, .unset, .unset, .unset, .unset, .unset] [(.long yh)])) t → Steps p.tables e below (s₁.setTop (entryFrame m #[(.long q1), (.long q2), (.long q3), (.long q4), (.int p5)] maxLocals)) t := by
    intro t k
    rw [hyh] at k
    refine pre4 t ?_
    show Steps p.tables e below (s₁.setTop (mkF m 19 #[(vl q1), .second, (vl q2), .second, (vl q3), .second, (vl q4), .second, (vi p5), (vl ys), .second, .unset, .unset, .unset, .unset, .unset, .unset] [(.int (p5 &&& (2 : Int32)))])) _
    rcases Decidable.em ((p5 &&& (2 : Int32)) = (0 : Int32)) with hm5 | hm5
    · first | simp only [if_pos hm5] at k | skip
      refine XS.ifYes X0.here hx rfl (pc0 := 19) (pc' := 26) rfl (hb hby at_19) rfl ((if0 _ _).trans (teq hm5).1) (by decide) (by decide) ?_
      refine XS.lload X0.here hx rfl (hb hby at_26) rfl ?_
      exact k
    · first | simp only [if_neg hm5] at k | skip
      refine XS.ifNo X0.here hx rfl (hb hby at_19) rfl ((if0 _ _).trans (feq hm5).1) ?_
      refine XS.lloadN X0.here hx rfl (hb hby at_22) rfl ?_
      refine XS.goto X0.here hx rfl (pc0 := 23) (pc' := 28) rfl (hb hby at_23) (by decide) (by decide) ?_
      exact k
  obtain ⟨T7, h7, X7, e7, E7, A7, D7, -, st7⟩ := newO X0 hx hZ hown (ow hw 0 rfl) (ow hw 1 rfl) (ow hw 2 rfl) e0 (g := (mkF m 30 #[(vl q1), .second, (vl q2), .second, (vl q3), .second, (vl q4), .second, (vi p5), (vl ys), .second, (vl yh), .second, .unset, .unset, .unset, .unset] [])) rfl (hb hby at_30) (by decide) (by decide)
  obtain ⟨b7, g7⟩ : ∃ z, z = h0.size := ⟨_, rfl⟩
  rw [← g7] at A7 D7 st7
  have g8 : n0 ≤ b7 := Nat.le_trans (own_sz O0) (Nat.le_of_eq g7.symm)
  have O9 : Old Z n0 h7 := O0.ext E7
  have f10 : Fld Z h7 b7 "com/example/umpired/umpired/server/SessionHandle" "session" "J" (.long 0) := D7 (Or.inr (ow hw 10 rfl)) (ty := .long) (by decide)
  have f11 : Fld Z h7 b7 "com/example/umpired/umpired/server/SessionHandle" "handle" "J" (.long 0) := D7 (Or.inr (ow hw 12 rfl)) (ty := .long) (by decide)
  obtain ⟨_, _, ⟨T12, L12, k12, n12⟩, -, X12, ⟨Lc12, hQ12, l12, y12, z12⟩, st12⟩ := X7.specialBack hx (y := M0) rfl hown (mvT hZ (ow hw 3 rfl)) (mvT hZ (ow hw 4 rfl)) (mvT hZ (ow hw 5 rfl)) (by decide) (backOf (W := 1) (rmInit l Z a0 hw [] wcache hS b7 q1 q2 (.long 0) (.long 0) h7 n0 O9 A7 g8 f10 f11) hZ (ow hw 5 rfl) (ow hw 2 rfl) (by decide) (by decide)) (g := (mkF m 36 #[(vl q1), .second, (vl q2), .second, (vl q3), .second, (vl q4), .second, (vi p5), (vl ys), .second, (vl yh), .second, .unset, .unset, .unset, .unset] [(.long q2), (.long q1), (.ref b7), (.ref b7)])) rfl (by rw [hml]; rfl) (Steps.refl _) (a := b7) (argsL := [(.long q1), (.long q2)]) (rest := [(.ref b7)]) (lenOf pd_2 rfl) rfl (by show 2 * 0 + _ ≤ _; exact Nat.le_of_eq rfl) (hb hby at_36) (fun _ _ => ⟨rfl, e7, (by decide : 1 + 0 ≤ _), (by decide : 2 + 0 ≤ _)⟩)
  dsimp only [Pt.U, Pt.locs, Pt.cells, Pt.slots] at X12 l12 y12 z12 st12 hQ12
  subst l12 y12 z12
  obtain ⟨rfl, Nq12, K12q, p12_0, p12_1, p12_2⟩ := hQ12
  have N12 := Fr.app N0 Nq12
  have O13 : Old Z n0 T12.heap := O9.keep K12q (allS g8 all0)
  obtain ⟨T14, h14, X14, e14, E14, A14, D14, -, st14⟩ := newO X12 hx hZ hown (ow hw 0 rfl) (ow hw 1 rfl) (ow hw 2 rfl) rfl (g := (mkF m 41 #[(vl q1), .second, (vl q2), .second, (vl q3), .second, (vl q4), .second, (vi p5), (vl ys), .second, (vl yh), .second, (vr b7), .unset, .unset, .unset] [])) rfl (hb hby at_41) (by decide) (by decide)
  obtain ⟨b14, g14⟩ : ∃ z, z = T12.heap.size := ⟨_, rfl⟩
  rw [← g14] at A14 D14 st14
  have ne15 : b7 ≠ b14 := Nat.ne_of_lt (Nat.lt_of_lt_of_le p12_0.lt (Nat.le_of_eq g14.symm))
  have g16 : n0 ≤ b14 := Nat.le_trans (own_sz O13) (Nat.le_of_eq g14.symm)
  have O17 : Old Z n0 h14 := O13.ext E14
  have f18 : Fld Z h14 b14 "com/example/umpired/umpired/server/SessionHandle" "session" "J" (.long 0) := D14 (Or.inr (ow hw 10 rfl)) (ty := .long) (by decide)
  have f19 : Fld Z h14 b14 "com/example/umpired/umpired/server/SessionHandle" "handle" "J" (.long 0) := D14 (Or.inr (ow hw 12 rfl)) (ty := .long) (by decide)
  obtain ⟨_, _, ⟨T20, L20, k20, n20⟩, -, X20, ⟨Lc20, hQ20, l20, y20, z20⟩, st20⟩ := X14.specialBack hx (y := M0) rfl hown (mvT hZ (ow hw 3 rfl)) (mvT hZ (ow hw 4 rfl)) (mvT hZ (ow hw 5 rfl)) (by decide) (backOf (W := 1) (rmInit l Z a0 hw [] wcache hS b14 ys yh (.long 0) (.long 0) h14 n0 O17 A14 g16 f18 f19) hZ (ow hw 5 rfl) (ow hw 2 rfl) (by decide) (by decide)) (g := (mkF m 49 #[(vl q1), .second, (vl q2), .second, (vl q3), .second, (vl q4), .second, (vi p5), (vl ys), .second, (vl yh), .second, (vr b7), .unset, .unset, .unset] [(.long yh), (.long ys), (.ref b14), (.ref b14)])) rfl (by rw [hml]; rfl) (Steps.refl _) (a := b14) (argsL := [(.long ys), (.long yh)]) (rest := [(.ref b14)]) (lenOf pd_2 rfl) rfl (by show 2 * 0 + _ ≤ _; exact Nat.le_of_eq rfl) (hb hby at_49) (fun _ _ => ⟨rfl, e14, (by decide : 2 + 0 ≤ _), (by decide : 4 + 0 ≤ _)⟩)
  dsimp only [Pt.U, Pt.locs, Pt.cells, Pt.slots] at X20 l20 y20 z20 st20 hQ20
  subst l20 y20 z20
  obtain ⟨rfl, Nq20, K20q, p20_0, p20_1, p20_2⟩ := hQ20
  have N20 := Fr.app N12 Nq20
  have O21 : Old Z n0 T20.heap := O17.keep K20q (allS g16 all0)
  obtain ⟨kd, hkd⟩ : ∃ z : Int32, z = (((p5.toUInt32 >>> ((2 : Int32) &&& 31).toUInt32).toInt32) &&& (3 : Int32)) := ⟨_, rfl⟩
  have pre22 : ∀ t, Steps p.tables e below (T20.setTop (mkF m 62 #[(vl q1), .second, (vl q2), .second, (vl q3), .second, (vl q4), .second, (vi p5), (vl ys), .second, (vl yh), .second, (vr b7), (vr b14), (vi kd), .unset] [])) t → Steps p.tables e below (s₁.setTop (entryFrame m #[(.long q1), (.long q2), (.long q3), (.long q4), (.int p5)] maxLocals)) t := by
    intro t k
    rw [hkd] at k
    refine pre6 t ?_
    show Steps p.tables e below (s₁.setTop (mkF m 28 #[(vl q1), .second, (vl q2), .second, (vl q3), .second, (vl q4), .second, (vi p5), (vl ys), .second, .unset, .unset, .unset, .unset, .unset, .unset] [(.long yh)])) _
    refine XS.lstore X0.here hx rfl (hb hby at_28) rfl (l' := #[(vl q1), .second, (vl q2), .second, (vl q3), .second, (vl q4), .second, (vi p5), (vl ys), .second, (vl yh), .second, .unset, .unset, .unset, .unset]) rfl ?_
    refine st7 _ ?_
    refine XS.dup X7.here hx rfl (hb hby at_33) rfl rfl ?_
    refine XS.lloadN X7.here hx rfl (hb hby at_34) rfl ?_
    refine XS.lloadN X7.here hx rfl (hb hby at_35) rfl ?_
    show Steps p.tables e below (T7.setTop (mkF m 36 #[(vl q1), .second, (vl q2), .second, (vl q3), .second, (vl q4), .second, (vi p5), (vl ys), .second, (vl yh), .second, .unset, .unset, .unset, .unset] [(.long q2), (.long q1), (.ref b7), (.ref b7)])) _
    refine st12.trans ?_
    refine XS.astore X12.here hx rfl (hb hby at_39) rfl rfl (l' := #[(vl q1), .second, (vl q2), .second, (vl q3), .second, (vl q4), .second, (vi p5), (vl ys), .second, (vl yh), .second, (vr b7), .unset, .unset, .unset]) rfl ?_
    refine st14 _ ?_
    refine XS.dup X14.here hx rfl (hb hby at_44) rfl rfl ?_
    refine XS.lload X14.here hx rfl (hb hby at_45) rfl ?_
    show Steps p.tables e below (T14.setTop (mkF m 47 #[(vl q1), .second, (vl q2), .second, (vl q3), .second, (vl q4), .second, (vi p5), (vl ys), .second, (vl yh), .second, (vr b7), .unset, .unset, .unset] [(.long ys), (.ref b14), (.ref b14)])) _
    refine XS.lload X14.here hx rfl (hb hby at_47) rfl ?_
    refine st20.trans ?_
    refine XS.astore X20.here hx rfl (hb hby at_52) rfl rfl (l' := #[(vl q1), .second, (vl q2), .second, (vl q3), .second, (vl q4), .second, (vi p5), (vl ys), .second, (vl yh), .second, (vr b7), (vr b14), .unset, .unset]) rfl ?_
    refine XS.iload X20.here hx rfl (hb hby at_54) rfl ?_
    refine XS.iconst X20.here hx rfl (hb hby at_56) ?_
    show Steps p.tables e below (T20.setTop (mkF m 57 #[(vl q1), .second, (vl q2), .second, (vl q3), .second, (vl q4), .second, (vi p5), (vl ys), .second, (vl yh), .second, (vr b7), (vr b14), .unset, .unset] [(.int 2), (.int p5)])) _
    refine XS.iushr X20.here hx rfl (hb hby at_57) rfl ?_
    refine XS.iconst X20.here hx rfl (hb hby at_58) ?_
    refine XS.iand X20.here hx rfl (hb hby at_59) rfl ?_
    refine XS.istore X20.here hx rfl (hb hby at_60) rfl (l' := #[(vl q1), .second, (vl q2), .second, (vl q3), .second, (vl q4), .second, (vi p5), (vl ys), .second, (vl yh), .second, (vr b7), (vr b14), .val (.int (((p5.toUInt32 >>> ((2 : Int32) &&& 31).toUInt32).toInt32) &&& (3 : Int32))), .unset]) rfl ?_
    exact k
  have pre23 : ∀ t, Steps p.tables e below (T20.setTop (mkF m 64 #[(vl q1), .second, (vl q2), .second, (vl q3), .second, (vl q4), .second, (vi p5), (vl ys), .second, (vl yh), .second, (vr b7), (vr b14), (vi kd), .unset] [(.int kd)])) t → Steps p.tables e below (s₁.setTop (entryFrame m #[(.long q1), (.long q2), (.long q3), (.long q4), (.int p5)] maxLocals)) t := by
    intro t k
    refine pre22 t ?_
    show Steps p.tables e below (T20.setTop (mkF m 62 #[(vl q1), .second, (vl q2), .second, (vl q3), .second, (vl q4), .second, (vi p5), (vl ys), .second, (vl yh), .second, (vr b7), (vr b14), (vi kd), .unset] [])) _
    refine XS.iload X20.here hx rfl (hb hby at_62) rfl ?_
    exact k
  rcases Decidable.em (kd = (0 : Int32)) with hc24 | hc24
  · skip
    have pre25 : ∀ t, Steps p.tables e below (T20.setTop (mkF m 71 #[(vl q1), .second, (vl q2), .second, (vl q3), .second, (vl q4), .second, (vi p5), (vl ys), .second, (vl yh), .second, (vr b7), (vr b14), (vi kd), .unset] [(.int (lcmpW q1 ys))])) t → Steps p.tables e below (s₁.setTop (entryFrame m #[(.long q1), (.long q2), (.long q3), (.long q4), (.int p5)] maxLocals)) t := by
      intro t k
      refine pre23 t ?_
      refine XS.ifNo X20.here hx rfl (hb hby at_64) rfl ((if0 _ _).trans (teq hc24).2) ?_
      refine XS.lloadN X20.here hx rfl (hb hby at_67) rfl ?_
      refine XS.lload X20.here hx rfl (hb hby at_68) rfl ?_
      refine XS.lcmp X20.here hx rfl (hb hby at_70) rfl ?_
      exact k
    obtain ⟨exp, hexp⟩ : ∃ z : Int32, z = (if (lcmpW q1 ys) = (0 : Int32) then (if (lcmpW q2 yh) = (0 : Int32) then (1 : Int32) else (0 : Int32)) else (0 : Int32)) := ⟨_, rfl⟩
    have pre28 : ∀ t, Steps p.tables e below (T20.setTop (mkF m 86 #[(vl q1), .second, (vl q2), .second, (vl q3), .second, (vl q4), .second, (vi p5), (vl ys), .second, (vl yh), .second, (vr b7), (vr b14), (vi kd), .unset] [(.int exp)])) t → Steps p.tables e below (s₁.setTop (entryFrame m #[(.long q1), (.long q2), (.long q3), (.long q4), (.int p5)] maxLocals)) t := by
      intro t k
      rw [hexp] at k
      refine pre25 t ?_
      show Steps p.tables e below (T20.setTop (mkF m 71 #[(vl q1), .second, (vl q2), .second, (vl q3), .second, (vl q4), .second, (vi p5), (vl ys), .second, (vl yh), .second, (vr b7), (vr b14), (vi kd), .unset] [(.int (lcmpW q1 ys))])) _
      rcases Decidable.em ((lcmpW q1 ys) = (0 : Int32)) with hm26 | hm26
      · first | simp only [if_pos hm26] at k | skip
        refine XS.ifNo X20.here hx rfl (hb hby at_71) rfl ((if0 _ _).trans (teq hm26).2) ?_
        refine XS.lloadN X20.here hx rfl (hb hby at_74) rfl ?_
        refine XS.lload X20.here hx rfl (hb hby at_75) rfl ?_
        refine XS.lcmp X20.here hx rfl (hb hby at_77) rfl ?_
        rcases Decidable.em ((lcmpW q2 yh) = (0 : Int32)) with hm27 | hm27
        · first | simp only [if_pos hm27] at k | skip
          refine XS.ifNo X20.here hx rfl (hb hby at_78) rfl ((if0 _ _).trans (teq hm27).2) ?_
          show Steps p.tables e below (T20.setTop (mkF m 81 #[(vl q1), .second, (vl q2), .second, (vl q3), .second, (vl q4), .second, (vi p5), (vl ys), .second, (vl yh), .second, (vr b7), (vr b14), (vi kd), .unset] [])) _
          refine XS.iconst X20.here hx rfl (hb hby at_81) ?_
          refine XS.goto X20.here hx rfl (pc0 := 82) (pc' := 86) rfl (hb hby at_82) (by decide) (by decide) ?_
          exact k
        · first | simp only [if_neg hm27] at k | skip
          refine XS.ifYes X20.here hx rfl (pc0 := 78) (pc' := 85) rfl (hb hby at_78) rfl ((if0 _ _).trans (feq hm27).2) (by decide) (by decide) ?_
          show Steps p.tables e below (T20.setTop (mkF m 85 #[(vl q1), .second, (vl q2), .second, (vl q3), .second, (vl q4), .second, (vi p5), (vl ys), .second, (vl yh), .second, (vr b7), (vr b14), (vi kd), .unset] [])) _
          refine XS.iconst X20.here hx rfl (hb hby at_85) ?_
          exact k
      · first | simp only [if_neg hm26] at k | skip
        refine XS.ifYes X20.here hx rfl (pc0 := 71) (pc' := 85) rfl (hb hby at_71) rfl ((if0 _ _).trans (feq hm26).2) (by decide) (by decide) ?_
        refine XS.iconst X20.here hx rfl (hb hby at_85) ?_
        exact k
    have f29 : Fld Z T20.heap b7 "com/example/umpired/umpired/server/SessionHandle" "session" "J" (.long q1) := ((p12_1.ext E14).keep K20q (ninS ne15 nin0))
    have f30 : Fld Z T20.heap b7 "com/example/umpired/umpired/server/SessionHandle" "handle" "J" (.long q2) := ((p12_2.ext E14).keep K20q (ninS ne15 nin0))
    have f32 : Exa Z T20.heap b7 "com/example/umpired/umpired/server/SessionHandle" := ((p12_0.ext E14).keep K20q)
    obtain ⟨cq31, kq31, q31a, q31b, q31c⟩ := isOf hZ rfl f32
    obtain ⟨_, _, ⟨T31, L31, k31, n31⟩, -, X31, ⟨Lc31, hQ31, l31, y31, z31⟩, st31⟩ := X20.virtualBack hx (y := M1) (z := M1) hown (mvT hZ (ow hw 13 rfl)) (mvT hZ (ow hw 14 rfl)) (notFace_of_selects (args := #[]) (mvT hZ (ow hw 16 rfl))) (mvT hZ (ow hw 16 rfl)) (mvT hZ (ow hw 15 rfl)) (by decide) (backOf (W := 0) (rmEq l Z a0 hw [] wcache hS b7 b14 q1 q2 ys yh T20.heap n0 O21 p20_0 f29 f30 p20_1 p20_2) hZ (ow hw 17 rfl) (ow hw 2 rfl) (by decide) (by decide)) q31a q31c (g := (mkF m 92 #[(vl q1), .second, (vl q2), .second, (vl q3), .second, (vl q4), .second, (vi p5), (vl ys), .second, (vl yh), .second, (vr b7), (vr b14), (vi kd), (vi exp)] [(.ref b14), (.ref b7)])) rfl (by rw [hml]; rfl) (Steps.refl _) (argsL := [(.ref b14)]) (rest := []) (lenOf pd_3 rfl) rfl (by show 2 * 0 + _ ≤ _; exact Nat.le_of_eq rfl) (hb hby at_92) (fun _ _ => ⟨rfl, rfl, (by decide : 2 + 0 ≤ _), (by decide : 4 + 0 ≤ _)⟩)
    dsimp only [Pt.U, Pt.locs, Pt.cells, Pt.slots] at X31 l31 y31 z31 st31 hQ31
    subst l31 y31 z31
    obtain ⟨r_31, rfl, Nq31, K31q, p31_0⟩ := hQ31
    have N31 := Fr.app N20 Nq31
    obtain ⟨cq33, kq33, q33a, q33b, q33c⟩ := isOf hZ K31q p20_0
    obtain ⟨_, _, ⟨T33, L33, k33, n33⟩, -, X33, ⟨Lc33, hQ33, l33, y33, z33⟩, st33⟩ := X31.virtualBack hx (y := M1) (z := M1) hown (mvT hZ (ow hw 13 rfl)) (mvT hZ (ow hw 14 rfl)) (notFace_of_selects (args := #[]) (mvT hZ (ow hw 16 rfl))) (mvT hZ (ow hw 16 rfl)) (mvT hZ (ow hw 15 rfl)) (by decide) (backOf (W := 0) (rmEq l Z a0 hw [] wcache hS b14 b7 ys yh q1 q2 T20.heap n0 O21 f32 p20_1 p20_2 f29 f30) hZ (ow hw 17 rfl) (ow hw 2 rfl) (by decide) (by decide)) q33a q33c (g := (mkF m 104 #[(vl q1), .second, (vl q2), .second, (vl q3), .second, (vl q4), .second, (vi p5), (vl ys), .second, (vl yh), .second, (vr b7), (vr b14), (vi kd), (vi exp)] [(.ref b7), (.ref b14)])) rfl (by rw [hml]; rfl) (Steps.refl _) (argsL := [(.ref b7)]) (rest := []) (lenOf pd_3 rfl) rfl (by show 2 * 0 + _ ≤ _; exact Nat.le_of_eq rfl) (hb hby at_104) (fun _ _ => ⟨rfl, K31q, (by decide : 2 + 0 ≤ _), (by decide : 4 + 0 ≤ _)⟩)
    dsimp only [Pt.U, Pt.locs, Pt.cells, Pt.slots] at X33 l33 y33 z33 st33 hQ33
    subst l33 y33 z33
    obtain ⟨r_33, rfl, Nq33, K33q, p33_0⟩ := hQ33
    have N33 := Fr.app N31 Nq33
    obtain ⟨fs, hr, hrun, hended, hW, hsame⟩ := X33.leave (v := some (.int 1)) (fun h => by rw [hret0] at h; cases h)
    refine ⟨_, _, pre28 _ ?_, hrun, hended, _, _, rfl, ?_, ⟨_, rfl⟩, hW, hsame.mono (by decide) (by decide)⟩
    · skip
      show Steps p.tables e below (T20.setTop (mkF m 86 #[(vl q1), .second, (vl q2), .second, (vl q3), .second, (vl q4), .second, (vi p5), (vl ys), .second, (vl yh), .second, (vr b7), (vr b14), (vi kd), .unset] [(.int exp)])) _
      refine XS.istore X20.here hx rfl (hb hby at_86) rfl (l' := #[(vl q1), .second, (vl q2), .second, (vl q3), .second, (vl q4), .second, (vi p5), (vl ys), .second, (vl yh), .second, (vr b7), (vr b14), (vi kd), (vi exp)]) rfl ?_
      refine XS.aload X20.here hx rfl (hb hby at_88) rfl rfl ?_
      refine XS.aload X20.here hx rfl (hb hby at_90) rfl rfl ?_
      refine st31.trans ?_
      refine XS.iload X31.here hx rfl (hb hby at_95) rfl ?_
      show Steps p.tables e below (T31.setTop (mkF m 97 #[(vl q1), .second, (vl q2), .second, (vl q3), .second, (vl q4), .second, (vi p5), (vl ys), .second, (vl yh), .second, (vr b7), (vr b14), (vi kd), (vi exp)] [(.int exp), (.int r_31)])) _
      refine XS.icmpNo X31.here hx rfl (hb hby at_97) rfl (teq (p31_0.trans hexp.symm : r_31 = exp)).2 ?_
      refine XS.aload X31.here hx rfl (hb hby at_100) rfl rfl ?_
      refine XS.aload X31.here hx rfl (hb hby at_102) rfl rfl ?_
      refine st33.trans ?_
      refine XS.iload X33.here hx rfl (hb hby at_107) rfl ?_
      show Steps p.tables e below (T33.setTop (mkF m 109 #[(vl q1), .second, (vl q2), .second, (vl q3), .second, (vl q4), .second, (vi p5), (vl ys), .second, (vl yh), .second, (vr b7), (vr b14), (vi kd), (vi exp)] [(.int exp), (.int r_33)])) _
      refine XS.icmpNo X33.here hx rfl (hb hby at_109) rfl (teq (p33_0.trans ((own_eqsym _ _ _ _).trans hexp.symm) : r_33 = exp)).2 ?_
      refine XS.iconst X33.here hx rfl (hb hby at_112) ?_
      refine XS.goto X33.here hx rfl (pc0 := 113) (pc' := 117) rfl (hb hby at_113) (by decide) (by decide) ?_
      exact retN X33 hx (t := .boolean) hret0 (by simp) (hb hby at_117) hr
    · show Q_rm0 Z wcache q1 q2 q3 q4 p5 h0 n0 _ T33.heap _
      rw [K33q]
      exact ⟨rfl, N33⟩
  · skip
    have pre34 : ∀ t, Steps p.tables e below (T20.setTop (mkF m 121 #[(vl q1), .second, (vl q2), .second, (vl q3), .second, (vl q4), .second, (vi p5), (vl ys), .second, (vl yh), .second, (vr b7), (vr b14), (vi kd), .unset] [(.int 1), (.int kd)])) t → Steps p.tables e below (s₁.setTop (entryFrame m #[(.long q1), (.long q2), (.long q3), (.long q4), (.int p5)] maxLocals)) t := by
      intro t k
      refine pre23 t ?_
      refine XS.ifYes X20.here hx rfl (pc0 := 64) (pc' := 118) rfl (hb hby at_64) rfl ((if0 _ _).trans (feq hc24).2) (by decide) (by decide) ?_
      refine XS.iload X20.here hx rfl (hb hby at_118) rfl ?_
      refine XS.iconst X20.here hx rfl (hb hby at_120) ?_
      exact k
    rcases Decidable.em (kd = (1 : Int32)) with hc35 | hc35
    · skip
      have f37 : Exa Z T20.heap b7 "com/example/umpired/umpired/server/SessionHandle" := ((p12_0.ext E14).keep K20q)
      obtain ⟨cq36, kq36, q36a, q36b, q36c⟩ := isOf hZ rfl f37
      obtain ⟨_, _, ⟨T36, L36, k36, n36⟩, -, X36, ⟨Lc36, hQ36, l36, y36, z36⟩, st36⟩ := X20.virtualBack hx (y := M1) (z := M1) hown (mvT hZ (ow hw 13 rfl)) (mvT hZ (ow hw 14 rfl)) (notFace_of_selects (args := #[]) (mvT hZ (ow hw 16 rfl))) (mvT hZ (ow hw 16 rfl)) (mvT hZ (ow hw 15 rfl)) (by decide) (backOf (W := 0) (rmEqN l Z a0 hw [] wcache hS b7 T20.heap n0 O21 ) hZ (ow hw 17 rfl) (ow hw 2 rfl) (by decide) (by decide)) q36a q36c (g := (mkF m 127 #[(vl q1), .second, (vl q2), .second, (vl q3), .second, (vl q4), .second, (vi p5), (vl ys), .second, (vl yh), .second, (vr b7), (vr b14), (vi kd), .unset] [.null, (.ref b7)])) rfl (by rw [hml]; rfl) (Steps.refl _) (argsL := [.null]) (rest := []) (lenOf pd_3 rfl) rfl (by show 2 * 0 + _ ≤ _; exact Nat.le_of_eq rfl) (hb hby at_127) (fun _ _ => ⟨rfl, rfl, (by decide : 2 + 0 ≤ _), (by decide : 4 + 0 ≤ _)⟩)
      dsimp only [Pt.U, Pt.locs, Pt.cells, Pt.slots] at X36 l36 y36 z36 st36 hQ36
      subst l36 y36 z36
      obtain ⟨rfl, Nq36, K36q⟩ := hQ36
      have N36 := Fr.app N20 Nq36
      obtain ⟨fs, hr, hrun, hended, hW, hsame⟩ := X36.leave (v := some (.int 1)) (fun h => by rw [hret0] at h; cases h)
      refine ⟨_, _, pre34 _ ?_, hrun, hended, _, _, rfl, ?_, ⟨_, rfl⟩, hW, hsame.mono (by decide) (by decide)⟩
      · skip
        refine XS.icmpNo X20.here hx rfl (hb hby at_121) rfl (teq hc35).2 ?_
        show Steps p.tables e below (T20.setTop (mkF m 124 #[(vl q1), .second, (vl q2), .second, (vl q3), .second, (vl q4), .second, (vi p5), (vl ys), .second, (vl yh), .second, (vr b7), (vr b14), (vi kd), .unset] [])) _
        refine XS.aload X20.here hx rfl (hb hby at_124) rfl rfl ?_
        refine XS.aconstNull X20.here hx rfl (hb hby at_126) ?_
        refine st36.trans ?_
        refine XS.ifNo X36.here hx rfl (hb hby at_130) rfl ((if0 _ _).trans (teq (by decide : (0 : Int32) = (0 : Int32))).2) ?_
        refine XS.iconst X36.here hx rfl (hb hby at_133) ?_
        show Steps p.tables e below (T36.setTop (mkF m 134 #[(vl q1), .second, (vl q2), .second, (vl q3), .second, (vl q4), .second, (vi p5), (vl ys), .second, (vl yh), .second, (vr b7), (vr b14), (vi kd), .unset] [(.int 1)])) _
        refine XS.goto X36.here hx rfl (pc0 := 134) (pc' := 138) rfl (hb hby at_134) (by decide) (by decide) ?_
        exact retN X36 hx (t := .boolean) hret0 (by simp) (hb hby at_138) hr
      · show Q_rm0 Z wcache q1 q2 q3 q4 p5 h0 n0 _ T36.heap _
        rw [K36q]
        exact ⟨rfl, N36⟩
    · skip
      have pre38 : ∀ t, Steps p.tables e below (T20.setTop (mkF m 142 #[(vl q1), .second, (vl q2), .second, (vl q3), .second, (vl q4), .second, (vi p5), (vl ys), .second, (vl yh), .second, (vr b7), (vr b14), (vi kd), .unset] [(.int 2), (.int kd)])) t → Steps p.tables e below (s₁.setTop (entryFrame m #[(.long q1), (.long q2), (.long q3), (.long q4), (.int p5)] maxLocals)) t := by
        intro t k
        refine pre34 t ?_
        refine XS.icmpYes X20.here hx rfl (pc0 := 121) (pc' := 139) rfl (hb hby at_121) rfl (feq hc35).2 (by decide) (by decide) ?_
        show Steps p.tables e below (T20.setTop (mkF m 139 #[(vl q1), .second, (vl q2), .second, (vl q3), .second, (vl q4), .second, (vi p5), (vl ys), .second, (vl yh), .second, (vr b7), (vr b14), (vi kd), .unset] [])) _
        refine XS.iload X20.here hx rfl (hb hby at_139) rfl ?_
        refine XS.iconst X20.here hx rfl (hb hby at_141) ?_
        exact k
      rcases Decidable.em (kd = (2 : Int32)) with hc39 | hc39
      · skip
        obtain ⟨_, _, ⟨T40, L40, k40, n40⟩, -, X40, ⟨Lc40, hQ40, l40, y40, z40⟩, st40⟩ := Jvm.LawKit.callS X20 hx (y := M4) hown (mvT hZ (ow hw 20 rfl)) (mvT hZ (ow hw 21 rfl)) (mvT hZ (ow hw 22 rfl)) (mvT hZ (ow hw 23 rfl)) (by decide) (backOf (W := 1) (rmVal l Z a0 hw [] wcache hS q1 T20.heap n0 O21 ) hZ (ow hw 23 rfl) (ow hw 22 rfl) (by decide) (by decide)) (g := (mkF m 148 #[(vl q1), .second, (vl q2), .second, (vl q3), .second, (vl q4), .second, (vi p5), (vl ys), .second, (vl yh), .second, (vr b7), (vr b14), (vi kd), .unset] [(.long q1), (.ref b7)])) rfl (by rw [hml]; rfl) (argsL := [(.long q1)]) (rest := [(.ref b7)]) (lenOf pd_4 rfl) rfl (by show 2 * 0 + _ ≤ _; exact Nat.le_of_eq rfl) (hb hby at_148) (fun _ _ => ⟨rfl, rfl, (by decide : 2 + 1 ≤ _), (by decide : 4 + 1 ≤ _)⟩)
        dsimp only [Pt.U, Pt.locs, Pt.cells, Pt.slots] at X40 l40 y40 z40 st40 hQ40
        subst l40 y40 z40
        obtain ⟨b_40, rfl, Nq40, K40q, p40_0⟩ := hQ40
        have N40 := Fr.app N20 Nq40
        have O41 : Old Z n0 T40.heap := O21.keep K40q all0
        have f43 : Exa Z T40.heap b7 "com/example/umpired/umpired/server/SessionHandle" := (((p12_0.ext E14).keep K20q).keep K40q)
        obtain ⟨cq42, kq42, q42a, q42b, q42c⟩ := isOf hZ rfl f43
        obtain ⟨_, _, ⟨T42, L42, k42, n42⟩, -, X42, ⟨Lc42, hQ42, l42, y42, z42⟩, st42⟩ := X40.virtualBack hx (y := M1) (z := M1) hown (mvT hZ (ow hw 13 rfl)) (mvT hZ (ow hw 14 rfl)) (notFace_of_selects (args := #[]) (mvT hZ (ow hw 16 rfl))) (mvT hZ (ow hw 16 rfl)) (mvT hZ (ow hw 15 rfl)) (by decide) (backOf (W := 0) (rmEqL l Z a0 hw [] wcache hS b7 b_40 T40.heap n0 O41 p40_0) hZ (ow hw 17 rfl) (ow hw 2 rfl) (by decide) (by decide)) q42a q42c (g := (mkF m 151 #[(vl q1), .second, (vl q2), .second, (vl q3), .second, (vl q4), .second, (vi p5), (vl ys), .second, (vl yh), .second, (vr b7), (vr b14), (vi kd), .unset] [(.ref b_40), (.ref b7)])) rfl (by rw [hml]; rfl) (Steps.refl _) (argsL := [(.ref b_40)]) (rest := []) (lenOf pd_3 rfl) rfl (by show 2 * 0 + _ ≤ _; exact Nat.le_of_eq rfl) (hb hby at_151) (fun _ _ => ⟨rfl, rfl, (by decide : 3 + 0 ≤ _), (by decide : 5 + 0 ≤ _)⟩)
        dsimp only [Pt.U, Pt.locs, Pt.cells, Pt.slots] at X42 l42 y42 z42 st42 hQ42
        subst l42 y42 z42
        obtain ⟨rfl, Nq42, K42q⟩ := hQ42
        have N42 := Fr.app N40 Nq42
        obtain ⟨fs, hr, hrun, hended, hW, hsame⟩ := X42.leave (v := some (.int 1)) (fun h => by rw [hret0] at h; cases h)
        refine ⟨_, _, pre38 _ ?_, hrun, hended, _, _, rfl, ?_, ⟨_, rfl⟩, hW, hsame.mono (by decide) (by decide)⟩
        · skip
          refine XS.icmpNo X20.here hx rfl (hb hby at_142) rfl (teq hc39).2 ?_
          refine XS.aload X20.here hx rfl (hb hby at_145) rfl rfl ?_
          refine XS.lloadN X20.here hx rfl (hb hby at_147) rfl ?_
          show Steps p.tables e below (T20.setTop (mkF m 148 #[(vl q1), .second, (vl q2), .second, (vl q3), .second, (vl q4), .second, (vi p5), (vl ys), .second, (vl yh), .second, (vr b7), (vr b14), (vi kd), .unset] [(.long q1), (.ref b7)])) _
          refine st40 _ ?_
          refine st42.trans ?_
          refine XS.ifNo X42.here hx rfl (hb hby at_154) rfl ((if0 _ _).trans (teq (by decide : (0 : Int32) = (0 : Int32))).2) ?_
          refine XS.iconst X42.here hx rfl (hb hby at_157) ?_
          refine XS.goto X42.here hx rfl (pc0 := 158) (pc' := 162) rfl (hb hby at_158) (by decide) (by decide) ?_
          show Steps p.tables e below (T42.setTop (mkF m 162 #[(vl q1), .second, (vl q2), .second, (vl q3), .second, (vl q4), .second, (vi p5), (vl ys), .second, (vl yh), .second, (vr b7), (vr b14), (vi kd), .unset] [(.int 1)])) _
          exact retN X42 hx (t := .boolean) hret0 (by simp) (hb hby at_162) hr
        · show Q_rm0 Z wcache q1 q2 q3 q4 p5 h0 n0 _ T42.heap _
          rw [K42q]
          exact ⟨rfl, N42⟩
      · skip
        have f44 : Exa Z T20.heap b7 "com/example/umpired/umpired/server/SessionHandle" := ((p12_0.ext E14).keep K20q)
        have f45 : Fld Z T20.heap b7 "com/example/umpired/umpired/server/SessionHandle" "session" "J" (.long q1) := ((p12_1.ext E14).keep K20q (ninS ne15 nin0))
        have f46 : Fld Z T20.heap b7 "com/example/umpired/umpired/server/SessionHandle" "handle" "J" (.long q2) := ((p12_2.ext E14).keep K20q (ninS ne15 nin0))
        obtain ⟨cq47, kq47, q47a, q47b, q47c⟩ := isOf hZ rfl f44
        obtain ⟨_, _, ⟨T47, L47, k47, n47⟩, -, X47, ⟨Lc47, hQ47, l47, y47, z47⟩, st47⟩ := X20.virtualBack hx (y := M1) (z := M1) hown (mvT hZ (ow hw 13 rfl)) (mvT hZ (ow hw 14 rfl)) (notFace_of_selects (args := #[]) (mvT hZ (ow hw 16 rfl))) (mvT hZ (ow hw 16 rfl)) (mvT hZ (ow hw 15 rfl)) (by decide) (backOf (W := 0) (rmEq l Z a0 hw [] wcache hS b7 b7 q1 q2 q1 q2 T20.heap n0 O21 f44 f45 f46 f45 f46) hZ (ow hw 17 rfl) (ow hw 2 rfl) (by decide) (by decide)) q47a q47c (g := (mkF m 167 #[(vl q1), .second, (vl q2), .second, (vl q3), .second, (vl q4), .second, (vi p5), (vl ys), .second, (vl yh), .second, (vr b7), (vr b14), (vi kd), .unset] [(.ref b7), (.ref b7)])) rfl (by rw [hml]; rfl) (Steps.refl _) (argsL := [(.ref b7)]) (rest := []) (lenOf pd_3 rfl) rfl (by show 2 * 0 + _ ≤ _; exact Nat.le_of_eq rfl) (hb hby at_167) (fun _ _ => ⟨rfl, rfl, (by decide : 2 + 0 ≤ _), (by decide : 4 + 0 ≤ _)⟩)
        dsimp only [Pt.U, Pt.locs, Pt.cells, Pt.slots] at X47 l47 y47 z47 st47 hQ47
        subst l47 y47 z47
        obtain ⟨r_47, rfl, Nq47, K47q, p47_0⟩ := hQ47
        have N47 := Fr.app N20 Nq47
        have pre48 : ∀ t, Steps p.tables e below (T47.setTop (mkF m 170 #[(vl q1), .second, (vl q2), .second, (vl q3), .second, (vl q4), .second, (vi p5), (vl ys), .second, (vl yh), .second, (vr b7), (vr b14), (vi kd), .unset] [(.int 1)])) t → Steps p.tables e below (s₁.setTop (entryFrame m #[(.long q1), (.long q2), (.long q3), (.long q4), (.int p5)] maxLocals)) t := by
          intro t k
          refine pre38 t ?_
          refine XS.icmpYes X20.here hx rfl (pc0 := 142) (pc' := 163) rfl (hb hby at_142) rfl (feq hc39).2 (by decide) (by decide) ?_
          refine XS.aload X20.here hx rfl (hb hby at_163) rfl rfl ?_
          refine XS.aload X20.here hx rfl (hb hby at_165) rfl rfl ?_
          show Steps p.tables e below (T20.setTop (mkF m 167 #[(vl q1), .second, (vl q2), .second, (vl q3), .second, (vl q4), .second, (vi p5), (vl ys), .second, (vl yh), .second, (vr b7), (vr b14), (vi kd), .unset] [(.ref b7), (.ref b7)])) _
          refine st47.trans ?_
          rw [p47_0.trans (own_eqself _ _)]
          exact k
        obtain ⟨fs, hr, hrun, hended, hW, hsame⟩ := X47.leave (v := some (.int 1)) (fun h => by rw [hret0] at h; cases h)
        refine ⟨_, _, pre48 _ ?_, hrun, hended, _, _, rfl, ?_, ⟨_, rfl⟩, hW, hsame.mono (by decide) (by decide)⟩
        · skip
          show Steps p.tables e below (T47.setTop (mkF m 170 #[(vl q1), .second, (vl q2), .second, (vl q3), .second, (vl q4), .second, (vi p5), (vl ys), .second, (vl yh), .second, (vr b7), (vr b14), (vi kd), .unset] [(.int 1)])) _
          exact retN X47 hx (t := .boolean) hret0 (by simp) (hb hby at_170) hr
        · show Q_rm0 Z wcache q1 q2 q3 q4 p5 h0 n0 _ T47.heap _
          rw [K47q]
          exact ⟨rfl, N47⟩
theorem comes_1 {Post : Tables → Env → Array Value → State → Outcome → State → Prop} (hpost : ∀ tb e args s v u, (limb_1_1.after args s (.returned v) u = true ∧ limb_1_2.after args s (.returned v) u = true ∧ True) → FrameEnd s (.returned v) u (Jvm.fieldLocs frame_1_writes args s ++ Jvm.arrayLocs frame_1_arrays args s ++ Jvm.staticLocs frame_1_statics s) 16 128 → Post tb e args s (.returned v) u) :
    ArmFor flags0 classFile x code maxLocals ret World_1 tables_1 room_1 Calls_1 rest_1 Pre_1 Post := by
  intro l hfl _ _ p e ha hc hk s m args below hf hA hF happ hP
  obtain ⟨hcalls, hrest, hpre⟩ := hP
  obtain ⟨-, -, -, hnamed, -, -, -, hat⟩ := (Spec.applies_iff hf).mp happ
  obtain ⟨hg, hn⟩ := and_e (Cond.before_iff.mp (show (Jvm.Cond.and given_1 narrow_1).before args s = true from hpre))
  obtain ⟨g1, g2⟩ := and_e hg
  obtain ⟨g3, g4⟩ := and_e g2
  obtain ⟨g5, g6⟩ := and_e g4
  obtain ⟨g7, g8⟩ := and_e g6
  obtain ⟨g9, g10⟩ := and_e g8
  obtain ⟨w0, w1, w2, w3, w4, rfl⟩ : ∃ w0 w1 w2 w3 w4 : Value, args = #[w0, w1, w2, w3, w4] := by
    have hs : args.size = 5 := by simpa [Cond.value, given_1] using g1
    obtain ⟨L⟩ := args
    match L, hs with
    | [w0, w1, w2, w3, w4], _ => exact ⟨w0, w1, w2, w3, w4, rfl⟩
  have hw := fun d (hd : d ∈ tables_1) => atoms_spec (ws := Jvm.Cond.code x code maxLocals ret :: tables_1) hat d (List.mem_cons_of_mem _ hd)
  have hfit : Fit s := fun {y c} hc i hi => by
    obtain ⟨ha, rfl⟩ := Array.getElem?_eq_some_iff.mp hc
    have q := List.all_eq_true.mp ((Array.all_eq_true_iff_forall_mem.mp hF) _ (Array.getElem_mem ha)) i (List.mem_range.mpr hi)
    simpa [Array.getElem?_eq_getElem hi] using q
  obtain ⟨hsets, hown0⟩ := atoms_of _ (rest_1_c_eq ▸ (show rest_1_c.before _ s = true from hrest))
  have hr0 := Cond.before_iff.mp hown0
  obtain ⟨i0, ei0⟩ := isL_v g3
  obtain rfl : w0 = (.long i0) := Option.some.inj ei0
  obtain ⟨i1, ei1⟩ := isL_v g5
  obtain rfl : w1 = (.long i1) := Option.some.inj ei1
  obtain ⟨i2, ei2⟩ := isL_v g7
  obtain rfl : w2 = (.long i2) := Option.some.inj ei2
  obtain ⟨i3, ei3⟩ := isL_v g9
  obtain rfl : w3 = (.long i3) := Option.some.inj ei3
  obtain ⟨i4, ei4⟩ := is_v g10
  obtain rfl : w4 = (.int i4) := Option.some.inj ei4
  obtain ⟨wcache, S_cache, LC0⟩ := own_cache (s := s) (args := _) (fun d hd => hsets d hd)
  have hS : SS s wcache := ⟨S_cache, LC0⟩
  obtain ⟨n, o, h1, h2, h3, _, L, rfl, ⟨rfl, N⟩, hq⟩ := rm0 l s _ hw tables_1 wcache hS i0 i1 i2 i3 i4 s.heap s.heap.size (Old.start s)  p e ha hc hk s m _ below hf ((Spec.applies_iff_loose hf).mp happ).1 ⟨rfl, State.Warmed39.refl s, rfl⟩ trivial
  refine ⟨n, _, h1, h2, h3, hpost _ _ _ _ _ _ ⟨Cond.after_iff.mpr rfl, Cond.after_iff.mpr (eq_i res_at (Term.int_eval (1)) rfl), trivial⟩ ⟨hq.1, hq.2.1, (hq.2.2.sift fun y hy => Or.inr (N y hy)).mono (by decide) (by decide)⟩⟩
theorem main_1_1 : Claimed_1_1 := comes_1 fun _ _ _ _ _ _ h hF => ⟨h.1, hF⟩
theorem main_1_2 : Claimed_1_2 := comes_1 fun _ _ _ _ _ _ h hF => ⟨h.2.1, hF⟩
end Jvm.Pilot.@@N@@
namespace Jvm.Pilot.@@N@@
open Jvm Jvm.ClassFile Sem Op Lib Jvm.Free Jvm.Stand Jvm.Pilot.@@N@@.Jvm.D
/-! MADE BY PROGRAM (witnessworld.py) out of the Statement's table words and the real class files: 16 classes; the members and pool entries that the words name. The judged class is class 1, her method 1. -/
namespace start1
open Jvm.ClassFile
def u (s : String) : CpInfo := .utf8 (stringToUtf16 s)
/-- a pool by its gaps: so many unusable entries, then the entry; so many at the end -/
def gap : Nat → List CpInfo → List CpInfo
  | 0, r => r
  | n + 1, r => .unusable :: gap n r
def poolList (es : List (Nat × CpInfo)) (last : Nat) : List CpInfo := es.foldr (fun e r => gap e.1 (e.2 :: r)) (gap last [])
def pool (es : List (Nat × CpInfo)) (last : Nat) : Array CpInfo := ⟨poolList es last⟩
def fileOf (pool : Array CpInfo) (this : Nat) (attrs : Array Attribute := #[]) (ms : Array MethodInfo := #[]) (fl : Nat := 33) (sup : Nat := 0) (ifs : Array Nat := #[]) (fds : Array FieldInfo := #[]) : ClassFile where
  minorVersion := 0
  majorVersion := 65
  constantPool := pool
  accessFlags := fl
  thisClass := this
  superClass := sup
  interfaces := ifs
  fields := fds
  methods := ms
  attributes := attrs
def plain (name : String) (sup : Option ClassId) : Class where
  name := name
  kind := .ordinary
  loader := none
  accessFlags := 33
  super := sup
  interfaces := #[]
  cf := none
  fields := #[]
  methods := #[]
  instanceTypes := #[]
  staticTypes := #[]
  resolved := #[]
  callSites := []
  init := .initialized
  statics := none
  mirror := none

def pool0 : Array CpInfo := pool [(5, u "<init>"), (0, u "()V"), (1, .class_ 10), (1, u "java/lang/Object")] 113

def k0c0 : Code := { maxStack := 0, maxLocals := 1, code := object_method_1_code, exceptionTable := #[], attributes := #[] }
def k0m0 : Method := { name := "<init>", desc := "()V", sig := { parameters := [], returnType := none }, accessFlags := 1, code := some k0c0 }
/-- java/lang/Object -/
def k0 : Class := { plain "java/lang/Object" none with
  accessFlags := 33
  interfaces := #[]
  cf := some (fileOf pool0 8 #[] #[{ accessFlags := 1, nameIndex := 5, descriptorIndex := 6, attributes := #[] }] 33 0 #[] #[])
  fields := #[]
  methods := #[k0m0]
  instanceTypes := #[]
  staticTypes := #[]
  resolved := Array.replicate 124 none
  statics := none }

def pool1 : Array CpInfo := pool [(2, .class_ 4), (1, u "java/lang/Object"), (0, u "<init>"), (0, u "()V"), (0, .class_ 8), (0, u "com/example/umpired/umpired/server/SessionHandle"), (0, .methodref 7 10), (0, .nameAndType 5 11), (0, u "(JJ)V"), (0, .methodref 7 13), (0, .nameAndType 14 15), (0, u "equals"), (0, u "(Ljava/lang/Object;)Z"), (0, .methodref 17 18), (0, .class_ 19), (0, .nameAndType 20 21), (0, u "java/lang/Long"), (0, u "valueOf"), (0, u "(J)Ljava/lang/Long;"), (0, .class_ 23), (0, u "com/example/umpired/umpired/server/SessionHandleEqualsPinLaw"), (2, u "law"), (0, u "(JJJJI)Z")] 3

def k1m0 : Method := { name := "<init>", desc := "()V", sig := { parameters := [], returnType := none }, accessFlags := 1, code := none }
def k1c1 : Code := { maxStack := 6, maxLocals := 17, code := code, exceptionTable := #[], attributes := #[] }
def k1m1 : Method := { name := "law", desc := "(JJJJI)Z", sig := { parameters := [.long, .long, .long, .long, .int], returnType := some .boolean }, accessFlags := 9, code := some k1c1 }
/-- com/example/umpired/umpired/server/SessionHandleEqualsPinLaw -/
def k1 : Class := { plain "com/example/umpired/umpired/server/SessionHandleEqualsPinLaw" (some 0) with
  accessFlags := 49
  interfaces := #[]
  cf := some (fileOf pool1 22 #[] #[{ accessFlags := 1, nameIndex := 5, descriptorIndex := 6, attributes := #[] }, { accessFlags := 9, nameIndex := 26, descriptorIndex := 27, attributes := #[] }] 49 2 #[] #[])
  fields := #[]
  methods := #[k1m0, k1m1]
  instanceTypes := #[]
  staticTypes := #[]
  resolved := Array.replicate 31 none
  statics := none }

def pool2 : Array CpInfo := pool [(1, .methodref 2 3), (0, .class_ 4), (0, .nameAndType 5 6), (0, u "java/lang/Object"), (0, u "<init>"), (0, u "()V"), (0, .fieldref 8 9), (0, .class_ 10), (0, .nameAndType 11 12), (0, u "com/example/umpired/umpired/server/SessionHandle"), (0, u "session"), (0, u "J"), (0, .fieldref 8 14), (0, .nameAndType 15 12), (0, u "handle"), (14, u "(JJ)V"), (19, u "equals"), (0, u "(Ljava/lang/Object;)Z")] 21

def k2c0 : Code := { maxStack := 3, maxLocals := 5, code := prog_88_method_1_code, exceptionTable := #[], attributes := #[] }
def k2m0 : Method := { name := "<init>", desc := "(JJ)V", sig := { parameters := [.long, .long], returnType := none }, accessFlags := 0, code := some k2c0 }
def k2c1 : Code := { maxStack := 4, maxLocals := 3, code := prog_88_method_6_code, exceptionTable := #[], attributes := #[] }
def k2m1 : Method := { name := "equals", desc := "(Ljava/lang/Object;)Z", sig := { parameters := [(.object "java/lang/Object")], returnType := some .boolean }, accessFlags := 1, code := some k2c1 }
/-- com/example/umpired/umpired/server/SessionHandle -/
def k2 : Class := { plain "com/example/umpired/umpired/server/SessionHandle" (some 0) with
  accessFlags := 48
  interfaces := #[]
  cf := some (fileOf pool2 8 #[] #[{ accessFlags := 0, nameIndex := 5, descriptorIndex := 30, attributes := #[] }, { accessFlags := 1, nameIndex := 50, descriptorIndex := 51, attributes := #[] }] 48 2 #[] #[{ accessFlags := 18, nameIndex := 11, descriptorIndex := 12, attributes := #[] }, { accessFlags := 18, nameIndex := 15, descriptorIndex := 12, attributes := #[] }])
  fields := #[{ name := "session", type := .long, accessFlags := 18, slot := 0, constantValue := 0 }, { name := "handle", type := .long, accessFlags := 18, slot := 1, constantValue := 0 }]
  methods := #[k2m0, k2m1]
  instanceTypes := #[.long, .long]
  staticTypes := #[]
  resolved := Array.replicate 73 none
  statics := none }

def pool3 : Array CpInfo := pool [(1, .class_ 2), (0, u "java/io/Serializable"), (0, .class_ 4), (0, u "java/lang/Object")] 2

/-- java/io/Serializable -/
def k3 : Class := { plain "java/io/Serializable" (some 0) with
  accessFlags := 1537
  interfaces := #[]
  cf := some (fileOf pool3 1 #[] #[] 1537 3 #[] #[])
  fields := #[]
  methods := #[]
  instanceTypes := #[]
  staticTypes := #[]
  resolved := Array.replicate 7 none
  statics := none }

def pool4 : Array CpInfo := pool [(1, .methodref 2 3), (0, .class_ 4), (0, .nameAndType 5 6), (0, u "java/lang/Object"), (0, u "<init>"), (0, u "()V"), (1, .class_ 10), (1, u "java/lang/Number"), (2, .class_ 14), (0, u "java/io/Serializable"), (0, u "serialVersionUID"), (0, u "J")] 20

def k4c0 : Code := { maxStack := 1, maxLocals := 1, code := jdk_18_method_1_code, exceptionTable := #[], attributes := #[] }
def k4m0 : Method := { name := "<init>", desc := "()V", sig := { parameters := [], returnType := none }, accessFlags := 1, code := some k4c0 }
/-- java/lang/Number -/
def k4 : Class := { plain "java/lang/Number" (some 0) with
  accessFlags := 1057
  interfaces := #[3]
  cf := some (fileOf pool4 8 #[] #[{ accessFlags := 1, nameIndex := 5, descriptorIndex := 6, attributes := #[] }] 1057 2 #[13] #[{ accessFlags := 26, nameIndex := 15, descriptorIndex := 16, attributes := #[] }])
  fields := #[{ name := "serialVersionUID", type := .long, accessFlags := 26, slot := 0, constantValue := 0 }]
  methods := #[k4m0]
  instanceTypes := #[]
  staticTypes := #[.long]
  resolved := Array.replicate 37 none
  statics := none }

def pool5 : Array CpInfo := pool [(1, .class_ 2), (0, u "java/lang/Comparable"), (0, .class_ 4), (0, u "java/lang/Object")] 7

/-- java/lang/Comparable -/
def k5 : Class := { plain "java/lang/Comparable" (some 0) with
  accessFlags := 1537
  interfaces := #[]
  cf := some (fileOf pool5 1 #[] #[] 1537 3 #[] #[])
  fields := #[]
  methods := #[]
  instanceTypes := #[]
  staticTypes := #[]
  resolved := Array.replicate 12 none
  statics := none }

def pool6 : Array CpInfo := pool [(1, .class_ 2), (0, u "java/lang/constant/Constable"), (0, .class_ 4), (0, u "java/lang/Object")] 6

/-- java/lang/constant/Constable -/
def k6 : Class := { plain "java/lang/constant/Constable" (some 0) with
  accessFlags := 1537
  interfaces := #[]
  cf := some (fileOf pool6 1 #[] #[] 1537 3 #[] #[])
  fields := #[]
  methods := #[]
  instanceTypes := #[]
  staticTypes := #[]
  resolved := Array.replicate 11 none
  statics := none }

def pool7 : Array CpInfo := pool [(1, .class_ 2), (0, u "java/lang/constant/ConstantDesc"), (0, .class_ 4), (0, u "java/lang/Object")] 32

/-- java/lang/constant/ConstantDesc -/
def k7 : Class := { plain "java/lang/constant/ConstantDesc" (some 0) with
  accessFlags := 1537
  interfaces := #[]
  cf := some (fileOf pool7 1 #[] #[] 1537 3 #[] #[])
  fields := #[]
  methods := #[]
  instanceTypes := #[]
  staticTypes := #[]
  resolved := Array.replicate 37 none
  statics := none }

def pool8 : Array CpInfo := pool [(1, .class_ 2), (0, u "java/lang/Long"), (55, .nameAndType 59 60), (0, u "<init>"), (0, u "()V"), (24, u "valueOf"), (143, u "(J)Ljava/lang/Long;"), (0, .long 18446744073709551488), (1, .long 127), (1, .fieldref 235 236), (0, .class_ 237), (0, .nameAndType 238 239), (0, u "java/lang/Long$LongCache"), (0, u "cache"), (0, u "[Ljava/lang/Long;"), (0, .methodref 1 241), (0, .nameAndType 59 242), (0, u "(J)V"), (27, .methodref 271 58), (0, .class_ 272), (0, u "java/lang/Number"), (0, .fieldref 1 274), (0, .nameAndType 275 276), (0, u "value"), (0, u "J"), (84, u "TYPE"), (0, u "Ljava/lang/Class;"), (0, .class_ 364), (0, u "java/lang/Comparable"), (0, .class_ 366), (0, u "java/lang/constant/Constable"), (0, .class_ 368), (0, u "java/lang/constant/ConstantDesc"), (0, u "MIN_VALUE"), (1, u "MAX_VALUE"), (4, u "SIZE"), (0, u "I"), (1, u "BYTES"), (1, u "serialVersionUID")] 142

def k8c0 : Code := { maxStack := 4, maxLocals := 3, code := jdk_35_method_24_code, exceptionTable := #[], attributes := #[] }
def k8m0 : Method := { name := "valueOf", desc := "(J)Ljava/lang/Long;", sig := { parameters := [.long], returnType := some (.object "java/lang/Long") }, accessFlags := 9, code := some k8c0 }
def k8c1 : Code := { maxStack := 3, maxLocals := 3, code := jdk_35_method_26_code, exceptionTable := #[], attributes := #[] }
def k8m1 : Method := { name := "<init>", desc := "(J)V", sig := { parameters := [.long], returnType := none }, accessFlags := 1, code := some k8c1 }
/-- java/lang/Long -/
def k8 : Class := { plain "java/lang/Long" (some 4) with
  accessFlags := 49
  interfaces := #[5, 6, 7]
  cf := some (fileOf pool8 1 #[.nestMembers #[235]] #[{ accessFlags := 9, nameIndex := 85, descriptorIndex := 229, attributes := #[] }, { accessFlags := 1, nameIndex := 59, descriptorIndex := 242, attributes := #[] }] 49 271 #[363, 365, 367] #[{ accessFlags := 25, nameIndex := 369, descriptorIndex := 276, attributes := #[] }, { accessFlags := 25, nameIndex := 371, descriptorIndex := 276, attributes := #[] }, { accessFlags := 25, nameIndex := 361, descriptorIndex := 362, attributes := #[] }, { accessFlags := 18, nameIndex := 275, descriptorIndex := 276, attributes := #[] }, { accessFlags := 25, nameIndex := 376, descriptorIndex := 377, attributes := #[] }, { accessFlags := 25, nameIndex := 379, descriptorIndex := 377, attributes := #[] }, { accessFlags := 26, nameIndex := 381, descriptorIndex := 276, attributes := #[] }])
  fields := #[{ name := "MIN_VALUE", type := .long, accessFlags := 25, slot := 0, constantValue := 0 }, { name := "MAX_VALUE", type := .long, accessFlags := 25, slot := 1, constantValue := 0 }, { name := "TYPE", type := (.object "java/lang/Class"), accessFlags := 25, slot := 2, constantValue := 0 }, { name := "value", type := .long, accessFlags := 18, slot := 0, constantValue := 0 }, { name := "SIZE", type := .int, accessFlags := 25, slot := 3, constantValue := 0 }, { name := "BYTES", type := .int, accessFlags := 25, slot := 4, constantValue := 0 }, { name := "serialVersionUID", type := .long, accessFlags := 26, slot := 5, constantValue := 0 }]
  methods := #[k8m0, k8m1]
  instanceTypes := #[.long]
  staticTypes := #[.long, .long, (.object "java/lang/Class"), .int, .int, .long]
  resolved := Array.replicate 524 none
  statics := none }

def pool9 : Array CpInfo := pool [(2, .class_ 4), (1, u "java/lang/Object"), (0, u "<init>"), (0, u "()V"), (0, .class_ 8), (0, u "java/lang/Long"), (7, .class_ 18), (1, u "java/lang/Long$LongCache"), (0, u "$assertionsDisabled"), (0, u "Z"), (8, u "archivedCache"), (0, u "[Ljava/lang/Long;"), (7, u "cache")] 24

def k9m0 : Method := { name := "<init>", desc := "()V", sig := { parameters := [], returnType := none }, accessFlags := 2, code := none }
/-- java/lang/Long$LongCache -/
def k9 : Class := { plain "java/lang/Long$LongCache" (some 0) with
  accessFlags := 48
  interfaces := #[]
  cf := some (fileOf pool9 16 #[.nestHost 7] #[{ accessFlags := 2, nameIndex := 5, descriptorIndex := 6, attributes := #[] }] 48 2 #[] #[{ accessFlags := 24, nameIndex := 38, descriptorIndex := 30, attributes := #[] }, { accessFlags := 8, nameIndex := 29, descriptorIndex := 30, attributes := #[] }, { accessFlags := 4120, nameIndex := 19, descriptorIndex := 20, attributes := #[] }])
  fields := #[{ name := "cache", type := (.array (.object "java/lang/Long")), accessFlags := 24, slot := 0, constantValue := 0 }, { name := "archivedCache", type := (.array (.object "java/lang/Long")), accessFlags := 8, slot := 1, constantValue := 0 }, { name := "$assertionsDisabled", type := .boolean, accessFlags := 4120, slot := 2, constantValue := 0 }]
  methods := #[k9m0]
  instanceTypes := #[]
  staticTypes := #[(.array (.object "java/lang/Long")), (.array (.object "java/lang/Long")), .boolean]
  resolved := Array.replicate 63 none
  statics := some 0 }

def pool10 : Array CpInfo := pool [(1, u "java/lang/Cloneable"), (0, .class_ 1), (0, u "java/lang/Object"), (0, .class_ 3)] 3

/-- java/lang/Cloneable -/
def k10 : Class := { plain "java/lang/Cloneable" (some 0) with
  accessFlags := 1537
  interfaces := #[]
  cf := some (fileOf pool10 2 #[] #[] 1537 4 #[] #[])
  fields := #[]
  methods := #[]
  instanceTypes := #[]
  staticTypes := #[]
  resolved := Array.replicate 8 none
  statics := none }

/-- the primitive byte -/
def k11 : Class := { plain "byte" none with kind := .primitive 'B', accessFlags := 0x411 }
/-- [B -/
def k12 : Class := { plain "[B" (some 0) with kind := .array 11 .byte, interfaces := #[10, 3], accessFlags := 1041 }

/-- the primitive int -/
def k13 : Class := { plain "int" none with kind := .primitive 'I', accessFlags := 0x411 }
/-- [I -/
def k14 : Class := { plain "[I" (some 0) with kind := .array 13 .int, interfaces := #[10, 3], accessFlags := 1041 }

/-- [Ljava/lang/Long; -/
def k15 : Class := { plain "[Ljava/lang/Long;" (some 0) with kind := .array 8 (.object "java/lang/Long"), interfaces := #[10, 3], accessFlags := 1041 }

def heap : Heap := #[{ cls := 9, slots := #[.ref 1, .null, .int 0], vm := .statics 9 },
  { cls := 15, slots := #[.ref 2, .ref 3, .ref 4, .ref 5, .ref 6, .ref 7, .ref 8, .ref 9, .ref 10, .ref 11, .ref 12, .ref 13, .ref 14, .ref 15, .ref 16, .ref 17, .ref 18, .ref 19, .ref 20, .ref 21, .ref 22, .ref 23, .ref 24, .ref 25, .ref 26, .ref 27, .ref 28, .ref 29, .ref 30, .ref 31, .ref 32, .ref 33, .ref 34, .ref 35, .ref 36, .ref 37, .ref 38, .ref 39, .ref 40, .ref 41, .ref 42, .ref 43, .ref 44, .ref 45, .ref 46, .ref 47, .ref 48, .ref 49, .ref 50, .ref 51, .ref 52, .ref 53, .ref 54, .ref 55, .ref 56, .ref 57, .ref 58, .ref 59, .ref 60, .ref 61, .ref 62, .ref 63, .ref 64, .ref 65, .ref 66, .ref 67, .ref 68, .ref 69, .ref 70, .ref 71, .ref 72, .ref 73, .ref 74, .ref 75, .ref 76, .ref 77, .ref 78, .ref 79, .ref 80, .ref 81, .ref 82, .ref 83, .ref 84, .ref 85, .ref 86, .ref 87, .ref 88, .ref 89, .ref 90, .ref 91, .ref 92, .ref 93, .ref 94, .ref 95, .ref 96, .ref 97, .ref 98, .ref 99, .ref 100, .ref 101, .ref 102, .ref 103, .ref 104, .ref 105, .ref 106, .ref 107, .ref 108, .ref 109, .ref 110, .ref 111, .ref 112, .ref 113, .ref 114, .ref 115, .ref 116, .ref 117, .ref 118, .ref 119, .ref 120, .ref 121, .ref 122, .ref 123, .ref 124, .ref 125, .ref 126, .ref 127, .ref 128, .ref 129, .ref 130, .ref 131, .ref 132, .ref 133, .ref 134, .ref 135, .ref 136, .ref 137, .ref 138, .ref 139, .ref 140, .ref 141, .ref 142, .ref 143, .ref 144, .ref 145, .ref 146, .ref 147, .ref 148, .ref 149, .ref 150, .ref 151, .ref 152, .ref 153, .ref 154, .ref 155, .ref 156, .ref 157, .ref 158, .ref 159, .ref 160, .ref 161, .ref 162, .ref 163, .ref 164, .ref 165, .ref 166, .ref 167, .ref 168, .ref 169, .ref 170, .ref 171, .ref 172, .ref 173, .ref 174, .ref 175, .ref 176, .ref 177, .ref 178, .ref 179, .ref 180, .ref 181, .ref 182, .ref 183, .ref 184, .ref 185, .ref 186, .ref 187, .ref 188, .ref 189, .ref 190, .ref 191, .ref 192, .ref 193, .ref 194, .ref 195, .ref 196, .ref 197, .ref 198, .ref 199, .ref 200, .ref 201, .ref 202, .ref 203, .ref 204, .ref 205, .ref 206, .ref 207, .ref 208, .ref 209, .ref 210, .ref 211, .ref 212, .ref 213, .ref 214, .ref 215, .ref 216, .ref 217, .ref 218, .ref 219, .ref 220, .ref 221, .ref 222, .ref 223, .ref 224, .ref 225, .ref 226, .ref 227, .ref 228, .ref 229, .ref 230, .ref 231, .ref 232, .ref 233, .ref 234, .ref 235, .ref 236, .ref 237, .ref 238, .ref 239, .ref 240, .ref 241, .ref 242, .ref 243, .ref 244, .ref 245, .ref 246, .ref 247, .ref 248, .ref 249, .ref 250, .ref 251, .ref 252, .ref 253, .ref 254, .ref 255, .ref 256, .ref 257], vm := .none },
  { cls := 8, slots := #[.long (-128)], vm := .none },
  { cls := 8, slots := #[.long (-127)], vm := .none },
  { cls := 8, slots := #[.long (-126)], vm := .none },
  { cls := 8, slots := #[.long (-125)], vm := .none },
  { cls := 8, slots := #[.long (-124)], vm := .none },
  { cls := 8, slots := #[.long (-123)], vm := .none },
  { cls := 8, slots := #[.long (-122)], vm := .none },
  { cls := 8, slots := #[.long (-121)], vm := .none },
  { cls := 8, slots := #[.long (-120)], vm := .none },
  { cls := 8, slots := #[.long (-119)], vm := .none },
  { cls := 8, slots := #[.long (-118)], vm := .none },
  { cls := 8, slots := #[.long (-117)], vm := .none },
  { cls := 8, slots := #[.long (-116)], vm := .none },
  { cls := 8, slots := #[.long (-115)], vm := .none },
  { cls := 8, slots := #[.long (-114)], vm := .none },
  { cls := 8, slots := #[.long (-113)], vm := .none },
  { cls := 8, slots := #[.long (-112)], vm := .none },
  { cls := 8, slots := #[.long (-111)], vm := .none },
  { cls := 8, slots := #[.long (-110)], vm := .none },
  { cls := 8, slots := #[.long (-109)], vm := .none },
  { cls := 8, slots := #[.long (-108)], vm := .none },
  { cls := 8, slots := #[.long (-107)], vm := .none },
  { cls := 8, slots := #[.long (-106)], vm := .none },
  { cls := 8, slots := #[.long (-105)], vm := .none },
  { cls := 8, slots := #[.long (-104)], vm := .none },
  { cls := 8, slots := #[.long (-103)], vm := .none },
  { cls := 8, slots := #[.long (-102)], vm := .none },
  { cls := 8, slots := #[.long (-101)], vm := .none },
  { cls := 8, slots := #[.long (-100)], vm := .none },
  { cls := 8, slots := #[.long (-99)], vm := .none },
  { cls := 8, slots := #[.long (-98)], vm := .none },
  { cls := 8, slots := #[.long (-97)], vm := .none },
  { cls := 8, slots := #[.long (-96)], vm := .none },
  { cls := 8, slots := #[.long (-95)], vm := .none },
  { cls := 8, slots := #[.long (-94)], vm := .none },
  { cls := 8, slots := #[.long (-93)], vm := .none },
  { cls := 8, slots := #[.long (-92)], vm := .none },
  { cls := 8, slots := #[.long (-91)], vm := .none },
  { cls := 8, slots := #[.long (-90)], vm := .none },
  { cls := 8, slots := #[.long (-89)], vm := .none },
  { cls := 8, slots := #[.long (-88)], vm := .none },
  { cls := 8, slots := #[.long (-87)], vm := .none },
  { cls := 8, slots := #[.long (-86)], vm := .none },
  { cls := 8, slots := #[.long (-85)], vm := .none },
  { cls := 8, slots := #[.long (-84)], vm := .none },
  { cls := 8, slots := #[.long (-83)], vm := .none },
  { cls := 8, slots := #[.long (-82)], vm := .none },
  { cls := 8, slots := #[.long (-81)], vm := .none },
  { cls := 8, slots := #[.long (-80)], vm := .none },
  { cls := 8, slots := #[.long (-79)], vm := .none },
  { cls := 8, slots := #[.long (-78)], vm := .none },
  { cls := 8, slots := #[.long (-77)], vm := .none },
  { cls := 8, slots := #[.long (-76)], vm := .none },
  { cls := 8, slots := #[.long (-75)], vm := .none },
  { cls := 8, slots := #[.long (-74)], vm := .none },
  { cls := 8, slots := #[.long (-73)], vm := .none },
  { cls := 8, slots := #[.long (-72)], vm := .none },
  { cls := 8, slots := #[.long (-71)], vm := .none },
  { cls := 8, slots := #[.long (-70)], vm := .none },
  { cls := 8, slots := #[.long (-69)], vm := .none },
  { cls := 8, slots := #[.long (-68)], vm := .none },
  { cls := 8, slots := #[.long (-67)], vm := .none },
  { cls := 8, slots := #[.long (-66)], vm := .none },
  { cls := 8, slots := #[.long (-65)], vm := .none },
  { cls := 8, slots := #[.long (-64)], vm := .none },
  { cls := 8, slots := #[.long (-63)], vm := .none },
  { cls := 8, slots := #[.long (-62)], vm := .none },
  { cls := 8, slots := #[.long (-61)], vm := .none },
  { cls := 8, slots := #[.long (-60)], vm := .none },
  { cls := 8, slots := #[.long (-59)], vm := .none },
  { cls := 8, slots := #[.long (-58)], vm := .none },
  { cls := 8, slots := #[.long (-57)], vm := .none },
  { cls := 8, slots := #[.long (-56)], vm := .none },
  { cls := 8, slots := #[.long (-55)], vm := .none },
  { cls := 8, slots := #[.long (-54)], vm := .none },
  { cls := 8, slots := #[.long (-53)], vm := .none },
  { cls := 8, slots := #[.long (-52)], vm := .none },
  { cls := 8, slots := #[.long (-51)], vm := .none },
  { cls := 8, slots := #[.long (-50)], vm := .none },
  { cls := 8, slots := #[.long (-49)], vm := .none },
  { cls := 8, slots := #[.long (-48)], vm := .none },
  { cls := 8, slots := #[.long (-47)], vm := .none },
  { cls := 8, slots := #[.long (-46)], vm := .none },
  { cls := 8, slots := #[.long (-45)], vm := .none },
  { cls := 8, slots := #[.long (-44)], vm := .none },
  { cls := 8, slots := #[.long (-43)], vm := .none },
  { cls := 8, slots := #[.long (-42)], vm := .none },
  { cls := 8, slots := #[.long (-41)], vm := .none },
  { cls := 8, slots := #[.long (-40)], vm := .none },
  { cls := 8, slots := #[.long (-39)], vm := .none },
  { cls := 8, slots := #[.long (-38)], vm := .none },
  { cls := 8, slots := #[.long (-37)], vm := .none },
  { cls := 8, slots := #[.long (-36)], vm := .none },
  { cls := 8, slots := #[.long (-35)], vm := .none },
  { cls := 8, slots := #[.long (-34)], vm := .none },
  { cls := 8, slots := #[.long (-33)], vm := .none },
  { cls := 8, slots := #[.long (-32)], vm := .none },
  { cls := 8, slots := #[.long (-31)], vm := .none },
  { cls := 8, slots := #[.long (-30)], vm := .none },
  { cls := 8, slots := #[.long (-29)], vm := .none },
  { cls := 8, slots := #[.long (-28)], vm := .none },
  { cls := 8, slots := #[.long (-27)], vm := .none },
  { cls := 8, slots := #[.long (-26)], vm := .none },
  { cls := 8, slots := #[.long (-25)], vm := .none },
  { cls := 8, slots := #[.long (-24)], vm := .none },
  { cls := 8, slots := #[.long (-23)], vm := .none },
  { cls := 8, slots := #[.long (-22)], vm := .none },
  { cls := 8, slots := #[.long (-21)], vm := .none },
  { cls := 8, slots := #[.long (-20)], vm := .none },
  { cls := 8, slots := #[.long (-19)], vm := .none },
  { cls := 8, slots := #[.long (-18)], vm := .none },
  { cls := 8, slots := #[.long (-17)], vm := .none },
  { cls := 8, slots := #[.long (-16)], vm := .none },
  { cls := 8, slots := #[.long (-15)], vm := .none },
  { cls := 8, slots := #[.long (-14)], vm := .none },
  { cls := 8, slots := #[.long (-13)], vm := .none },
  { cls := 8, slots := #[.long (-12)], vm := .none },
  { cls := 8, slots := #[.long (-11)], vm := .none },
  { cls := 8, slots := #[.long (-10)], vm := .none },
  { cls := 8, slots := #[.long (-9)], vm := .none },
  { cls := 8, slots := #[.long (-8)], vm := .none },
  { cls := 8, slots := #[.long (-7)], vm := .none },
  { cls := 8, slots := #[.long (-6)], vm := .none },
  { cls := 8, slots := #[.long (-5)], vm := .none },
  { cls := 8, slots := #[.long (-4)], vm := .none },
  { cls := 8, slots := #[.long (-3)], vm := .none },
  { cls := 8, slots := #[.long (-2)], vm := .none },
  { cls := 8, slots := #[.long (-1)], vm := .none },
  { cls := 8, slots := #[.long (0)], vm := .none },
  { cls := 8, slots := #[.long (1)], vm := .none },
  { cls := 8, slots := #[.long (2)], vm := .none },
  { cls := 8, slots := #[.long (3)], vm := .none },
  { cls := 8, slots := #[.long (4)], vm := .none },
  { cls := 8, slots := #[.long (5)], vm := .none },
  { cls := 8, slots := #[.long (6)], vm := .none },
  { cls := 8, slots := #[.long (7)], vm := .none },
  { cls := 8, slots := #[.long (8)], vm := .none },
  { cls := 8, slots := #[.long (9)], vm := .none },
  { cls := 8, slots := #[.long (10)], vm := .none },
  { cls := 8, slots := #[.long (11)], vm := .none },
  { cls := 8, slots := #[.long (12)], vm := .none },
  { cls := 8, slots := #[.long (13)], vm := .none },
  { cls := 8, slots := #[.long (14)], vm := .none },
  { cls := 8, slots := #[.long (15)], vm := .none },
  { cls := 8, slots := #[.long (16)], vm := .none },
  { cls := 8, slots := #[.long (17)], vm := .none },
  { cls := 8, slots := #[.long (18)], vm := .none },
  { cls := 8, slots := #[.long (19)], vm := .none },
  { cls := 8, slots := #[.long (20)], vm := .none },
  { cls := 8, slots := #[.long (21)], vm := .none },
  { cls := 8, slots := #[.long (22)], vm := .none },
  { cls := 8, slots := #[.long (23)], vm := .none },
  { cls := 8, slots := #[.long (24)], vm := .none },
  { cls := 8, slots := #[.long (25)], vm := .none },
  { cls := 8, slots := #[.long (26)], vm := .none },
  { cls := 8, slots := #[.long (27)], vm := .none },
  { cls := 8, slots := #[.long (28)], vm := .none },
  { cls := 8, slots := #[.long (29)], vm := .none },
  { cls := 8, slots := #[.long (30)], vm := .none },
  { cls := 8, slots := #[.long (31)], vm := .none },
  { cls := 8, slots := #[.long (32)], vm := .none },
  { cls := 8, slots := #[.long (33)], vm := .none },
  { cls := 8, slots := #[.long (34)], vm := .none },
  { cls := 8, slots := #[.long (35)], vm := .none },
  { cls := 8, slots := #[.long (36)], vm := .none },
  { cls := 8, slots := #[.long (37)], vm := .none },
  { cls := 8, slots := #[.long (38)], vm := .none },
  { cls := 8, slots := #[.long (39)], vm := .none },
  { cls := 8, slots := #[.long (40)], vm := .none },
  { cls := 8, slots := #[.long (41)], vm := .none },
  { cls := 8, slots := #[.long (42)], vm := .none },
  { cls := 8, slots := #[.long (43)], vm := .none },
  { cls := 8, slots := #[.long (44)], vm := .none },
  { cls := 8, slots := #[.long (45)], vm := .none },
  { cls := 8, slots := #[.long (46)], vm := .none },
  { cls := 8, slots := #[.long (47)], vm := .none },
  { cls := 8, slots := #[.long (48)], vm := .none },
  { cls := 8, slots := #[.long (49)], vm := .none },
  { cls := 8, slots := #[.long (50)], vm := .none },
  { cls := 8, slots := #[.long (51)], vm := .none },
  { cls := 8, slots := #[.long (52)], vm := .none },
  { cls := 8, slots := #[.long (53)], vm := .none },
  { cls := 8, slots := #[.long (54)], vm := .none },
  { cls := 8, slots := #[.long (55)], vm := .none },
  { cls := 8, slots := #[.long (56)], vm := .none },
  { cls := 8, slots := #[.long (57)], vm := .none },
  { cls := 8, slots := #[.long (58)], vm := .none },
  { cls := 8, slots := #[.long (59)], vm := .none },
  { cls := 8, slots := #[.long (60)], vm := .none },
  { cls := 8, slots := #[.long (61)], vm := .none },
  { cls := 8, slots := #[.long (62)], vm := .none },
  { cls := 8, slots := #[.long (63)], vm := .none },
  { cls := 8, slots := #[.long (64)], vm := .none },
  { cls := 8, slots := #[.long (65)], vm := .none },
  { cls := 8, slots := #[.long (66)], vm := .none },
  { cls := 8, slots := #[.long (67)], vm := .none },
  { cls := 8, slots := #[.long (68)], vm := .none },
  { cls := 8, slots := #[.long (69)], vm := .none },
  { cls := 8, slots := #[.long (70)], vm := .none },
  { cls := 8, slots := #[.long (71)], vm := .none },
  { cls := 8, slots := #[.long (72)], vm := .none },
  { cls := 8, slots := #[.long (73)], vm := .none },
  { cls := 8, slots := #[.long (74)], vm := .none },
  { cls := 8, slots := #[.long (75)], vm := .none },
  { cls := 8, slots := #[.long (76)], vm := .none },
  { cls := 8, slots := #[.long (77)], vm := .none },
  { cls := 8, slots := #[.long (78)], vm := .none },
  { cls := 8, slots := #[.long (79)], vm := .none },
  { cls := 8, slots := #[.long (80)], vm := .none },
  { cls := 8, slots := #[.long (81)], vm := .none },
  { cls := 8, slots := #[.long (82)], vm := .none },
  { cls := 8, slots := #[.long (83)], vm := .none },
  { cls := 8, slots := #[.long (84)], vm := .none },
  { cls := 8, slots := #[.long (85)], vm := .none },
  { cls := 8, slots := #[.long (86)], vm := .none },
  { cls := 8, slots := #[.long (87)], vm := .none },
  { cls := 8, slots := #[.long (88)], vm := .none },
  { cls := 8, slots := #[.long (89)], vm := .none },
  { cls := 8, slots := #[.long (90)], vm := .none },
  { cls := 8, slots := #[.long (91)], vm := .none },
  { cls := 8, slots := #[.long (92)], vm := .none },
  { cls := 8, slots := #[.long (93)], vm := .none },
  { cls := 8, slots := #[.long (94)], vm := .none },
  { cls := 8, slots := #[.long (95)], vm := .none },
  { cls := 8, slots := #[.long (96)], vm := .none },
  { cls := 8, slots := #[.long (97)], vm := .none },
  { cls := 8, slots := #[.long (98)], vm := .none },
  { cls := 8, slots := #[.long (99)], vm := .none },
  { cls := 8, slots := #[.long (100)], vm := .none },
  { cls := 8, slots := #[.long (101)], vm := .none },
  { cls := 8, slots := #[.long (102)], vm := .none },
  { cls := 8, slots := #[.long (103)], vm := .none },
  { cls := 8, slots := #[.long (104)], vm := .none },
  { cls := 8, slots := #[.long (105)], vm := .none },
  { cls := 8, slots := #[.long (106)], vm := .none },
  { cls := 8, slots := #[.long (107)], vm := .none },
  { cls := 8, slots := #[.long (108)], vm := .none },
  { cls := 8, slots := #[.long (109)], vm := .none },
  { cls := 8, slots := #[.long (110)], vm := .none },
  { cls := 8, slots := #[.long (111)], vm := .none },
  { cls := 8, slots := #[.long (112)], vm := .none },
  { cls := 8, slots := #[.long (113)], vm := .none },
  { cls := 8, slots := #[.long (114)], vm := .none },
  { cls := 8, slots := #[.long (115)], vm := .none },
  { cls := 8, slots := #[.long (116)], vm := .none },
  { cls := 8, slots := #[.long (117)], vm := .none },
  { cls := 8, slots := #[.long (118)], vm := .none },
  { cls := 8, slots := #[.long (119)], vm := .none },
  { cls := 8, slots := #[.long (120)], vm := .none },
  { cls := 8, slots := #[.long (121)], vm := .none },
  { cls := 8, slots := #[.long (122)], vm := .none },
  { cls := 8, slots := #[.long (123)], vm := .none },
  { cls := 8, slots := #[.long (124)], vm := .none },
  { cls := 8, slots := #[.long (125)], vm := .none },
  { cls := 8, slots := #[.long (126)], vm := .none },
  { cls := 8, slots := #[.long (127)], vm := .none }]
def classes : Array Class := #[k0, k1, k2, k3, k4, k5, k6, k7, k8, k9, k10, k11, k12, k13, k14, k15]
def interned : List (Array UInt16 × Addr) := []
def slotsUsed : Nat := 515
def theMethod : MethodId := ⟨1, 1⟩
def args0 : Array Value := #[.long 5, .long 6, .long 7, .long 8, .int 3]
def aboutOver (below : List Frame) : State where
  vm := { classes := classes, interned := interned.toArray }
  heap := heap
  slotsUsed := slotsUsed
  threads := #[{ frames := .invoking theMethod args0 :: below }]
def below0 : List Frame := [.native { method := ⟨0, 0⟩, args := #[] }]
def about1 : State := aboutOver below0
def p0 : Program := .bare "" "" ""
def e0 : Env := launch0.env 0 0 0
theorem w_frames : about1.frames = Frame.invoking theMethod args0 :: below0 := rfl
set_option maxRecDepth 65536 in
theorem w_args : argsFit about1.vm theMethod args0 = true := by decide +kernel
set_option maxRecDepth 65536 in
theorem w_heap : heapFits about1 = true := by decide +kernel
set_option maxRecDepth 65536 in
theorem w_runnable : about1.curStatus? = some .runnable := by decide +kernel
set_option maxRecDepth 65536 in
theorem w_alone : about1.alone = true := by decide +kernel
set_option maxRecDepth 65536 in
theorem w_named : about1.methodNamed? x = some theMethod := by decide +kernel
set_option maxRecDepth 65536 in
theorem w_hears : about1.hears theMethod below0 = true := by decide +kernel
set_option maxRecDepth 65536 in
theorem w_ripe : about1.ripe theMethod args0 below0 = true := by decide +kernel
theorem w_running : about1.status = .running := rfl
set_option maxRecDepth 65536 in
theorem w_room : about1.hasRoom e0.platform room_1 = true :=
  launch0.hasRoom_least _ room_1 (by decide +kernel) (by decide +kernel) (by decide +kernel) (by decide +kernel) (by decide +kernel) (by decide +kernel)
theorem allAtoms_all (ts : List Jvm.Cond) (a : Array Jvm.Value) (st : Jvm.State) : (allAtoms ts).before a st = ts.all (fun c => c.before a st) := by
  induction ts with
  | nil => rfl
  | cons c t ih =>
    show (Jvm.Cond.and c (allAtoms t)).before a st = _
    rw [Jvm.Cond.before_and, ih, List.all_cons]
def words1 : List Jvm.Cond := Jvm.Cond.code x code maxLocals ret :: tables_1
/-- a 'code' word, met by the world's own term for the bytes: nothing is compared byte by byte -/
theorem code_word {y : MethodName} {bytes : ByteArray} {mx : Nat} {rt : Option FieldType} {a : Array Value} {s : State} {m : MethodId} {meth : Method} {c : Code} (h1 : s.methodNamed? y = some m) (h2 : s.vm.method? m = some meth) (h3 : meth.code = some c) (h4 : c.code = bytes)
    (h5 : (c.maxLocals == mx && c.exceptionTable.isEmpty && decide (c.maxStack ≤ mostOperands) && decide (meth.sig.returnType = rt) && !meth.locks && decide (parseMethodDescriptor y.desc = some meth.sig)) = true) : (Jvm.Cond.code y bytes mx rt).before a s = true := by
  simp only [Bool.and_eq_true, beq_iff_eq, Bool.not_eq_true', decide_eq_true_eq] at h5
  obtain ⟨⟨⟨⟨⟨g1, g2⟩, g3⟩, g4⟩, g5⟩, g6⟩ := h5
  simp [Cond.before, Cond.holds, Cond.value, h1, h2, h3, h4, g1, g2, g3, g4, g5, g6]
def isCode : Jvm.Cond → Bool
  | .code _ _ _ _ => true
  | _ => false
theorem all_split {L : List Jvm.Cond} {P : Jvm.Cond → Bool} (h1 : L.all (fun c => isCode c || P c) = true) (h2 : ∀ c ∈ L.filter isCode, P c = true) : L.all P = true := by
  refine List.all_eq_true.mpr fun c hc => ?_
  have h := List.all_eq_true.mp h1 c hc
  rcases Bool.eq_false_or_eq_true (isCode c) with hi | hi
  · exact h2 c (List.mem_filter.mpr ⟨hc, hi⟩)
  · simpa [hi] using h
set_option maxRecDepth 65536 in
theorem w_c0 : (Jvm.Cond.code x code maxLocals ret).before args0 about1 = true := code_word (m := ⟨1, 1⟩) (meth := k1m1) (c := k1c1) (by decide +kernel) rfl rfl rfl (by decide +kernel)
set_option maxRecDepth 65536 in
theorem w_c1 : (Jvm.Cond.code ({ cls := "com/example/umpired/umpired/server/SessionHandle", name := "<init>", desc := "(JJ)V" } : Jvm.MethodName) prog_88_method_1_code (5 : Nat) (Option.none : Option Jvm.ClassFile.FieldType)).before args0 about1 = true := code_word (m := ⟨2, 0⟩) (meth := k2m0) (c := k2c0) (by decide +kernel) rfl rfl rfl (by decide +kernel)
set_option maxRecDepth 65536 in
theorem w_c2 : (Jvm.Cond.code ({ cls := "java/lang/Object", name := "<init>", desc := "()V" } : Jvm.MethodName) object_method_1_code (1 : Nat) (Option.none : Option Jvm.ClassFile.FieldType)).before args0 about1 = true := code_word (m := ⟨0, 0⟩) (meth := k0m0) (c := k0c0) (by decide +kernel) rfl rfl rfl (by decide +kernel)
set_option maxRecDepth 65536 in
theorem w_c3 : (Jvm.Cond.code ({ cls := "com/example/umpired/umpired/server/SessionHandle", name := "equals", desc := "(Ljava/lang/Object;)Z" } : Jvm.MethodName) prog_88_method_6_code (3 : Nat) (Option.some Jvm.ClassFile.FieldType.boolean)).before args0 about1 = true := code_word (m := ⟨2, 1⟩) (meth := k2m1) (c := k2c1) (by decide +kernel) rfl rfl rfl (by decide +kernel)
set_option maxRecDepth 65536 in
theorem w_c4 : (Jvm.Cond.code ({ cls := "java/lang/Long", name := "valueOf", desc := "(J)Ljava/lang/Long;" } : Jvm.MethodName) jdk_35_method_24_code (3 : Nat) (Option.some (Jvm.ClassFile.FieldType.object "java/lang/Long"))).before args0 about1 = true := code_word (m := ⟨8, 0⟩) (meth := k8m0) (c := k8c0) (by decide +kernel) rfl rfl rfl (by decide +kernel)
set_option maxRecDepth 65536 in
theorem w_c5 : (Jvm.Cond.code ({ cls := "java/lang/Long", name := "<init>", desc := "(J)V" } : Jvm.MethodName) jdk_35_method_26_code (3 : Nat) (Option.none : Option Jvm.ClassFile.FieldType)).before args0 about1 = true := code_word (m := ⟨8, 1⟩) (meth := k8m1) (c := k8c1) (by decide +kernel) rfl rfl rfl (by decide +kernel)
set_option maxRecDepth 65536 in
theorem w_c6 : (Jvm.Cond.code ({ cls := "java/lang/Number", name := "<init>", desc := "()V" } : Jvm.MethodName) jdk_18_method_1_code (1 : Nat) (Option.none : Option Jvm.ClassFile.FieldType)).before args0 about1 = true := code_word (m := ⟨4, 0⟩) (meth := k4m0) (c := k4c0) (by decide +kernel) rfl rfl rfl (by decide +kernel)
def codes1 : List Jvm.Cond := [Jvm.Cond.code x code maxLocals ret, Jvm.Cond.code ({ cls := "com/example/umpired/umpired/server/SessionHandle", name := "<init>", desc := "(JJ)V" } : Jvm.MethodName) prog_88_method_1_code (5 : Nat) (Option.none : Option Jvm.ClassFile.FieldType), Jvm.Cond.code ({ cls := "java/lang/Object", name := "<init>", desc := "()V" } : Jvm.MethodName) object_method_1_code (1 : Nat) (Option.none : Option Jvm.ClassFile.FieldType), Jvm.Cond.code ({ cls := "com/example/umpired/umpired/server/SessionHandle", name := "equals", desc := "(Ljava/lang/Object;)Z" } : Jvm.MethodName) prog_88_method_6_code (3 : Nat) (Option.some Jvm.ClassFile.FieldType.boolean), Jvm.Cond.code ({ cls := "java/lang/Long", name := "valueOf", desc := "(J)Ljava/lang/Long;" } : Jvm.MethodName) jdk_35_method_24_code (3 : Nat) (Option.some (Jvm.ClassFile.FieldType.object "java/lang/Long")), Jvm.Cond.code ({ cls := "java/lang/Long", name := "<init>", desc := "(J)V" } : Jvm.MethodName) jdk_35_method_26_code (3 : Nat) (Option.none : Option Jvm.ClassFile.FieldType), Jvm.Cond.code ({ cls := "java/lang/Number", name := "<init>", desc := "()V" } : Jvm.MethodName) jdk_18_method_1_code (1 : Nat) (Option.none : Option Jvm.ClassFile.FieldType)]
set_option maxRecDepth 65536 in
theorem codes_eq : words1.filter isCode = codes1 := rfl
theorem w_codes : ∀ c ∈ words1.filter isCode, c.before args0 about1 = true := by
  rw [codes_eq]
  intro c hc
  simp only [codes1, List.mem_cons, List.not_mem_nil, or_false] at hc
  rcases hc with rfl | rfl | rfl | rfl | rfl | rfl | rfl
  · exact w_c0
  · exact w_c1
  · exact w_c2
  · exact w_c3
  · exact w_c4
  · exact w_c5
  · exact w_c6
set_option maxRecDepth 65536 in
theorem w_t1 : (words1.take 24).all (fun c => isCode c || c.before args0 about1) = true := by decide +kernel
set_option maxRecDepth 65536 in
theorem w_t2 : (words1.drop 24).all (fun c => isCode c || c.before args0 about1) = true := by decide +kernel
theorem w_tables : (allAtoms (Jvm.Cond.code x code maxLocals ret :: tables_1)).before args0 about1 = true := by
  rw [allAtoms_all]
  show words1.all (fun c => c.before args0 about1) = true
  refine all_split ?_ w_codes
  rw [← List.take_append_drop 24 words1, List.all_append, w_t1, w_t2]
  rfl
set_option maxRecDepth 65536 in
theorem w_rest : rest_1_c.before args0 about1 = true := by decide +kernel
set_option maxRecDepth 65536 in
theorem w_case : (Jvm.Cond.and given_1 narrow_1).before args0 about1 = true := by decide +kernel
theorem w_applies : (headSpec (Jvm.Cond.code x code maxLocals ret :: tables_1) room_1).applies x e0.platform about1 = true :=
  (Spec.applies_iff w_frames).mpr ⟨w_running, w_runnable, w_alone, w_named, w_hears, w_ripe, w_room, w_tables⟩
theorem atStart : AtStart classFile x code maxLocals ret World_1 tables_1 room_1 Calls_1 rest_1 Pre_1 launch0 p0 e0 about1 theMethod args0 below0 :=
  ⟨lists_1, trivial, launch0.admits_env _ _ _, launch0.least_env, fairChoices_fair.cas, fairChoices_fair.clock, w_frames, w_args, w_heap, w_applies, trivial, w_rest, w_case⟩
end start1
theorem witness_1 : WitnessClaimed_1 := ⟨start1.p0, start1.e0, start1.about1, start1.theMethod, start1.args0, start1.below0, start1.atStart⟩
end Jvm.Pilot.@@N@@
