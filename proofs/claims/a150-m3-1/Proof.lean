import JvmDerived
import JvmDerived.Pilot.@@N@@Statement
import JvmDerived.Pilot.@@N@@Code
set_option linter.unusedVariables false
set_option linter.unusedSimpArgs false
namespace Jvm.RoadKit
open Sem ClassFile Op Lib Jvm.Stand Jvm.Free Jvm.LawKit
section New
variable {p : Program} {l : Launch} {e : Env} {R : Room} {s : State} {m : MethodId} {args : Array Value} {below : List Frame} {meth : Method} {c : Code} {T : State} {locs : List Loc} {cells slots : Nat}
theorem retI (X : Stand p l e R s m args below meth c T locs cells slots) (hx : p.tables.exec = Jvm.exec) {pc : Nat} {Ls : Array Slot} {z : Int32} {rest : List Value} (hret : meth.sig.returnType = some .int) (hd : decode c.code pc = .ok (.ireturn, 1)) {fs : List Frame}
    (hl : ∀ (f : JFrame) (acts : List Action), f.method = m → f.locked = none → f.entered = [] → (doReturn e (T.setTop f) acts (some (.int z))).1 = T.setFrames fs) : Steps p.tables e below (T.setTop (mkF m pc Ls (.int z :: rest))) (T.setFrames fs) := by
  have hm' : T.vm.method? m = some meth := X.method'
  have hn : narrow .int (.int z) = .int z := rfl
  show Steps p.tables e below (T.setTop { method := m, pc := pc, locals := Ls, stack := _ :: rest, locked := none }) _
  jvm_step X.here [X.here.top, hx, hd, hm', hret, hn]
  first | (intro acts; rw [hl _ acts rfl rfl rfl]) | rw [hl _ _ rfl rfl rfl]
  exact Steps.refl _
end New
end Jvm.RoadKit
namespace Jvm.Pilot.@@N@@
open Jvm Jvm.ClassFile Sem Op Lib Jvm.Free Jvm.Stand Jvm.LawKit Jvm.RoadKit Bundle Jvm.Pilot.@@N@@.Jvm.D
set_option maxRecDepth 65536
set_option maxHeartbeats 40000000
theorem ow {Z : State} {a0 : Array Value} (hw : ∀ d ∈ tables_1, d.before a0 Z = true) (i : Nat) {d : Jvm.Cond} (h : tables_1[i]? = some d) : d.before a0 Z = true := hw d (List.mem_of_getElem? h)
abbrev rmk (f c s l : Nat) : Room := { frames := f, cells := c, slots := s, locals := l }
abbrev MetB (l : Launch) (y : MethodName) (bytes : ByteArray) (maxL : Nat) (ret : Option FieldType) (ws : List Jvm.Cond) (rm : Room) (Z : State) (h0 : Heap) (as' : Array Value) (Q : Option Value → Heap → List Loc → Prop) : Prop :=
  MetFree l y (head1 (Jvm.Cond.code y bytes maxL ret :: ws) rm) (fun a U => a = as' ∧ Z.Warmed39 U.vm ∧ U.heap = h0) (fun _ _ _ _ _ => True) (fun _ U o U' => ∃ v L, o = .returned v ∧ Q v U'.heap L ∧ FrameEnd U o U' L rm.cells rm.slots)
theorem own_body {l : Launch} {y : MethodName} {bytes : ByteArray} {maxL : Nat} {ret : Option FieldType} {ws : List Jvm.Cond} {rm : Room} {Z : State} {h0 : Heap} {as' : Array Value} {Q : Option Value → Heap → List Loc → Prop} (hpl : plainFor y = true)
    (body : ∀ (p : Program) (e : Env) (s : State) (m : MethodId) (below : List Frame) (meth : Method) (c : Code) (s₁ : State), p.tables.exec = Jvm.exec → c.code = bytes → c.maxLocals = maxL → s.vm.findClass y.cls = some m.cls → meth.name = y.name → meth.sig.returnType = ret → meth.locks = false → Z.Warmed39 s.vm → Stand p l e rm s m as' below meth c s₁ [] 0 0 → s₁.heap = h0 →
      ∃ s₂ o, Steps p.tables e below (s₁.setTop (entryFrame m as' maxL)) s₂ ∧ s₂.status = .running ∧ Ended s₂ below o ∧ ∃ v L, o = .returned v ∧ Q v s₂.heap L ∧ FrameEnd s o s₂ L rm.cells rm.slots) : MetB l y bytes maxL ret ws rm Z h0 as' Q := by
  refine MetFree.of_bodySF hpl hisR ?_
  intro p e s m args below meth c s₁ Bd hml0 hP hK
  obtain ⟨rfl, hZ, hh⟩ := hP
  exact body p e s m below meth c s₁ Bd.exec Bd.bytes hml0 (findClass_of_methodNamed Bd.named) (name_of_methodNamed Bd.named Bd.method).1 Bd.returns Bd.notSynchronized hZ (Stand.of_body Bd) (by rw [← hh, Bd.state]; rfl)
abbrev vr (a : Addr) : Slot := .val (.ref a)
abbrev vi (a : Int32) : Slot := .val (.int a)
abbrev vl (a : Int64) : Slot := .val (.long a)
theorem own_sz {Z : State} {n0 : Nat} {h : Heap} (O : Old Z n0 h) : n0 ≤ h.size := O.1 ▸ O.2.1
theorem own_eq_int {args : Array Value} {first s : State} {o : Option Outcome} {idx : List Nat} {t : Term} {k : Int32} (h : (Jvm.Cond.eq t (.int k)).value args first o s idx = some true) : t.eval args first o idx s = some (.int k) := by
  simp only [Jvm.Cond.value, Term.eval] at h
  cases ht : t.eval args first o idx s with
  | none => simp [ht] at h
  | some x => cases x <;> simp [ht] at h ⊢; exact h
theorem own_eq_long {args : Array Value} {first s : State} {o : Option Outcome} {idx : List Nat} {t : Term} {k : Int64} (h : (Jvm.Cond.eq t (.long k)).value args first o s idx = some true) : t.eval args first o idx s = some (.long k) := by
  simp only [Jvm.Cond.value, Term.eval] at h
  cases ht : t.eval args first o idx s with
  | none => simp [ht] at h
  | some x => cases x <;> simp [ht] at h ⊢; exact h
theorem own_selp {s : State} {args : Array Value} {y : MethodName} {n : Nat} (wi : (Jvm.Cond.instantiable y.cls n).before args s = true) (wp : (Jvm.Cond.privateMethod y).before args s = true) (wm : (Jvm.Cond.instanceMethod y).before args s = true) (hy : y.cls ≠ "java/lang/invoke/MethodHandle" ∧ y.cls ≠ "java/lang/invoke/VarHandle") : (Jvm.Cond.selects y.cls y y).before args s = true := by
  obtain ⟨c, k, hc, hk, -, hni, -, -⟩ := Cond.instantiable_spec wi
  exact selects_self_of_private hc hk (Bool.or_eq_false_iff.mp hni).1 (Cond.privateMethod_at wp) wm hy
theorem own_getR {p : Program} {l : Launch} {e : Env} {R : Room} {s : State} {m : MethodId} {args : Array Value} {below : List Frame} {meth : Method} {c : Code} {T : State} {locs : List Loc} {cells slots : Nat} {Z : State} {a0 : Array Value} {h : Heap} (X : Stand p l e R s m args below meth c T locs cells slots) (hx : p.tables.exec = Jvm.exec) (hZ : Z.Warmed39 s.vm) {own R0 n d : String} {index : Nat} (hown : s.vm.findClass own = some m.cls) (w : (Jvm.Cond.fieldRef own index R0 n d).before a0 Z = true)
    (eT : T.heap = h) {a : Addr} {v : Value} (F : Fld Z h a R0 n d v) {g : JFrame} (hg : g.method = m) {rest : List Value} (hs : g.stack = .ref a :: rest) (hd : decode c.code g.pc = .ok (.getfield index, 3)) : ∃ T', Stand p l e R s m args below meth c T' locs cells slots ∧ T'.heap = h ∧ ∀ target, Steps p.tables e below (T'.setTop { g with pc := g.pc + 3, stack := v :: rest }) target → Steps p.tables e below (T.setTop g) target := by
  obtain ⟨cell, cf, k, i, f, h1, h2, h3, h4, -, -, h7⟩ := F
  have wT := Cond.fieldRef_warmed39 (wtrans hZ X.warmed) w
  obtain ⟨c', k', i', f', q1, q2⟩ := Cond.fieldRef_spec (cur := m.cls) (by show T.vm.findClass own = some m.cls; rw [X.warmed.alike.findClass]; exact hown) wT
  obtain ⟨k'', hf', -⟩ := State.fieldFound?_setVm (s := Z) (wtrans hZ X.warmed).alike h2
  cases hf'.symm.trans q1
  exact ⟨T, X, eT, fun target k => (X.getfieldR hx hg q2 h3 hs (by rw [eT]; exact h1) h4 h7 hd (Steps.refl _)).trans k⟩
theorem own_lc (x : Int64) : lcmpW x x = 0 := (lw_eq x x).mpr rfl
theorem own_b01 {P : Prop} [Decidable P] {y a b : Int32} (h : y = if P then a else b) : y = a ∨ y = b := by rw [h]; split; exact Or.inl rfl; exact Or.inr rfl
abbrev M0 : MethodName := ⟨"com/example/umpired/umpired/server/SessionHandle", "equals", "(Ljava/lang/Object;)Z"⟩
abbrev M1 : MethodName := ⟨"com/example/umpired/umpired/server/NodeLock", "isHeldBackAfter", "(J)Z"⟩
abbrev M2 : MethodName := ⟨"java/util/AbstractCollection", "<init>", "()V"⟩
abbrev M3 : MethodName := ⟨"java/util/ArrayDeque", "<init>", "()V"⟩
abbrev M4 : MethodName := ⟨"com/example/umpired/umpired/server/NodeLock", "<init>", "()V"⟩
abbrev M5 : MethodName := ⟨"com/example/umpired/umpired/server/SessionHandle", "<init>", "(JJ)V"⟩
abbrev M6 : MethodName := ⟨"java/util/ArrayDeque", "sub", "(III)I"⟩
abbrev M7 : MethodName := ⟨"java/util/ArrayDeque", "size", "()I"⟩
abbrev M8 : MethodName := ⟨"java/util/ArrayDeque$DeqIterator", "<init>", "(Ljava/util/ArrayDeque;)V"⟩
abbrev M9 : MethodName := ⟨"java/util/ArrayDeque", "iterator", "()Ljava/util/Iterator;"⟩
abbrev M10 : MethodName := ⟨"java/util/ArrayDeque$DeqIterator", "hasNext", "()Z"⟩
abbrev M11 : MethodName := ⟨"com/example/umpired/umpired/server/NodeLock", "isHeldBySession", "(J)Z"⟩
abbrev M12 : MethodName := ⟨"com/example/umpired/umpired/server/NodeLock", "endSession", "(JZ)Lcom/example/umpired/umpired/server/SessionHandle;"⟩
abbrev M13 : MethodName := ⟨"java/util/Deque", "iterator", "()Ljava/util/Iterator;"⟩
abbrev M14 : MethodName := ⟨"java/util/Iterator", "hasNext", "()Z"⟩
abbrev M15 : MethodName := ⟨"com/example/umpired/umpired/server/NodeLock", "grant", "(Lcom/example/umpired/umpired/server/SessionHandle;Ljava/time/Duration;)V"⟩
abbrev M16 : MethodName := ⟨"com/example/umpired/umpired/server/NodeLock", "acquire", "(Lcom/example/umpired/umpired/server/SessionHandle;Ljava/time/Duration;Z)Lcom/example/umpired/umpired/server/NodeLock$Outcome;"⟩
abbrev M17 : MethodName := ⟨"com/example/umpired/umpired/server/SessionHandle", "session", "()J"⟩
abbrev M18 : MethodName := ⟨"java/util/ArrayDeque", "elementAt", "([Ljava/lang/Object;I)Ljava/lang/Object;"⟩
abbrev M19 : MethodName := ⟨"java/util/ArrayDeque", "pollFirst", "()Ljava/lang/Object;"⟩
abbrev M20 : MethodName := ⟨"java/util/ArrayDeque", "poll", "()Ljava/lang/Object;"⟩
abbrev M21 : MethodName := ⟨"com/example/umpired/umpired/server/NodeLock", "grantNext", "()Lcom/example/umpired/umpired/server/SessionHandle;"⟩
abbrev M22 : MethodName := ⟨"java/util/Deque", "poll", "()Ljava/lang/Object;"⟩
abbrev M23 : MethodName := ⟨"java/time/Duration", "isZero", "()Z"⟩
abbrev M24 : MethodName := ⟨"com/example/umpired/umpired/server/NodeLock", "isWaiting", "(Lcom/example/umpired/umpired/server/SessionHandle;)Z"⟩
abbrev M25 : MethodName := ⟨"com/example/umpired/umpired/server/NodeLock$Waiter", "<init>", "(Lcom/example/umpired/umpired/server/SessionHandle;Ljava/time/Duration;)V"⟩
abbrev M26 : MethodName := ⟨"java/util/ArrayDeque", "inc", "(II)I"⟩
abbrev M27 : MethodName := ⟨"java/util/ArrayDeque", "addLast", "(Ljava/lang/Object;)V"⟩
abbrev M28 : MethodName := ⟨"java/util/ArrayDeque", "add", "(Ljava/lang/Object;)Z"⟩
abbrev M29 : MethodName := ⟨"java/util/Deque", "add", "(Ljava/lang/Object;)Z"⟩
abbrev M30 : MethodName := ⟨"java/util/ArrayDeque", "nonNullElementAt", "([Ljava/lang/Object;I)Ljava/lang/Object;"⟩
abbrev M31 : MethodName := ⟨"java/util/ArrayDeque$DeqIterator", "next", "()Ljava/lang/Object;"⟩
abbrev M32 : MethodName := ⟨"java/util/ArrayDeque", "dec", "(II)I"⟩
abbrev M33 : MethodName := ⟨"java/util/ArrayDeque", "delete", "(I)Z"⟩
abbrev M34 : MethodName := ⟨"java/util/ArrayDeque$DeqIterator", "postDelete", "(Z)V"⟩
abbrev M35 : MethodName := ⟨"java/util/ArrayDeque$DeqIterator", "remove", "()V"⟩
abbrev M36 : MethodName := ⟨"java/util/Iterator", "next", "()Ljava/lang/Object;"⟩
abbrev M37 : MethodName := ⟨"java/util/Iterator", "remove", "()V"⟩
abbrev s0n : String := "Ljava/time/Duration;"
abbrev s1n : String := "java/time/Duration"
abbrev s2n : String := "com/example/umpired/umpired/server/NodeLock$Outcome"
abbrev s3n : String := "com/example/umpired/umpired/server/SessionHandle"
abbrev s4n : String := "com/example/umpired/umpired/server/NodeLock"
abbrev s5n : String := "com/example/umpired/umpired/server/NodeLockIsHeldBackAfterPinLaw"
abbrev s6n : String := "java/util/ArrayDeque"
abbrev s7n : String := "[Ljava/lang/Object;"
abbrev s8n : String := "java/lang/Object"
abbrev s9n : String := "Lcom/example/umpired/umpired/server/SessionHandle;"
abbrev s10n : String := "holderLockDelay"
abbrev s11n : String := "Ljava/util/Deque;"
abbrev s12n : String := "java/util/Deque"
abbrev s13n : String := "java/util/ArrayDeque$DeqIterator"
abbrev s14n : String := "Ljava/util/ArrayDeque;"
abbrev s15n : String := "com/example/umpired/umpired/server/NodeLock$Waiter"
def SS (Z : State) (wMAX_LOCK_DELAY : Addr) (wGRANTED : Addr) (wQUEUED : Addr) (wZERO : Addr) : Prop := Sta Z Z.heap "com/example/umpired/umpired/protocol/Limits" "MAX_LOCK_DELAY" s0n (.ref wMAX_LOCK_DELAY) ∧ Exa Z Z.heap wMAX_LOCK_DELAY s1n ∧ Sta Z Z.heap s2n "GRANTED" "Lcom/example/umpired/umpired/server/NodeLock$Outcome;" (.ref wGRANTED) ∧ Exa Z Z.heap wGRANTED s2n ∧ Sta Z Z.heap s2n "QUEUED" "Lcom/example/umpired/umpired/server/NodeLock$Outcome;" (.ref wQUEUED) ∧ Exa Z Z.heap wQUEUED s2n ∧ Fld Z Z.heap wMAX_LOCK_DELAY s1n "seconds" "J" (.long 60) ∧ Fld Z Z.heap wMAX_LOCK_DELAY s1n "nanos" "I" (.int 0) ∧ Sta Z Z.heap s1n "ZERO" s0n (.ref wZERO) ∧ Exa Z Z.heap wZERO s1n ∧ Fld Z Z.heap wZERO s1n "seconds" "J" (.long 0) ∧ Fld Z Z.heap wZERO s1n "nanos" "I" (.int 0)
theorem ef_rmEqN (m : MethodId) (x0 : Addr)  : entryFrame m #[(.ref x0), .null] 3 = mkF m 0 #[(vr x0), .val .null, .unset] [] := by first | (simp [entryFrame, mkF, argsToLocals, Value.category]; done) | rfl
theorem pn_com_example_umpired_umpired_server_SessionHandle : plainName "com/example/umpired/umpired/server/SessionHandle" = true := by first | (simp [plainName, overriddenIn]; done) | decide +kernel
theorem d15_0 : decode prog_89_method_6_code 0 = .ok (.aload_n 1, 1) := by decide +kernel
theorem d15_1 : decode prog_89_method_6_code 1 = .ok (.instanceof 8, 3) := by decide +kernel
theorem d15_4 : decode prog_89_method_6_code 4 = .ok (.ifCond .ne 5, 3) := by decide +kernel
theorem d15_7 : decode prog_89_method_6_code 7 = .ok (.iconst 0, 1) := by decide +kernel
theorem d15_8 : decode prog_89_method_6_code 8 = .ok (.ireturn, 1) := by decide +kernel
def Q_rmEqN (Z : State) (wMAX_LOCK_DELAY : Addr) (wGRANTED : Addr) (wQUEUED : Addr) (wZERO : Addr) (a1 : Addr) (h0 : Heap) (n0 : Nat) (v : Option Value) (h : Heap) (L : List Loc) : Prop := v = some (.int 0) ∧ Fr n0 L ∧ h = h0
theorem rmEqN (l : Launch) (Z : State) (a0 : Array Value) (hw : ∀ d ∈ tables_1, d.before a0 Z = true) (ws : List Jvm.Cond) (wMAX_LOCK_DELAY : Addr) (wGRANTED : Addr) (wQUEUED : Addr) (wZERO : Addr) (hS : SS Z wMAX_LOCK_DELAY wGRANTED wQUEUED wZERO) (a1 : Addr) (h0 : Heap) (n0 : Nat) (O0 : Old Z n0 h0)  :
    MetB l M0 prog_89_method_6_code 3 (some .boolean) ws (rmk 0 0 0 0) Z h0 #[(.ref a1), .null] (Q_rmEqN Z wMAX_LOCK_DELAY wGRANTED wQUEUED wZERO a1 h0 n0) := by
  refine own_body (plainFor_of_name pn_com_example_umpired_umpired_server_SessionHandle) ?_
  intro p e s m below meth c s₁ hx hby hml hown hnm hret0 hlk0 hZ X0 e0
  have N0 := Fr.nil n0
  have pre0 : ∀ t, Steps p.tables e below (s₁.setTop (mkF m 0 #[(vr a1), .val .null, .unset] [])) t → Steps p.tables e below (s₁.setTop (entryFrame m #[(.ref a1), .null] 3)) t := fun t k => castTop (ef_rmEqN m a1) k
  have hS0 := hS
  obtain ⟨S_wMAX_LOCK_DELAY, E_wMAX_LOCK_DELAY, S_wGRANTED, E_wGRANTED, S_wQUEUED, E_wQUEUED, F_seconds_wMAX_LOCK_DELAY, F_nanos_wMAX_LOCK_DELAY, S_wZERO, E_wZERO, F_seconds_wZERO, F_nanos_wZERO⟩ := hS0
  obtain ⟨fs, hr, hrun, hended, hW, hsame⟩ := X0.leave (v := some (.int 0)) (fun h => by rw [hret0] at h; cases h)
  refine ⟨_, _, pre0 _ ?_, hrun, hended, _, _, rfl, ?_, ⟨_, rfl⟩, hW, hsame.mono (by decide) (by decide)⟩
  · skip
    show Steps p.tables e below (s₁.setTop (mkF m 0 #[(vr a1), .val .null, .unset] [])) _
    refine XS.aloadN X0.here hx rfl (hb hby d15_0) rfl rfl ?_
    refine X0.instanceofNull hx (g := (mkF m 1 #[(vr a1), .val .null, .unset] [.null])) rfl rfl (hb hby d15_1) _ ?_
    refine XS.ifNo X0.here hx rfl (hb hby d15_4) rfl ((if0 _ _).trans (teq (by decide : (0 : Int32) = (0 : Int32))).2) ?_
    refine XS.iconst X0.here hx rfl (hb hby d15_7) ?_
    exact retN X0 hx (t := .boolean) hret0 (by simp) (hb hby d15_8) hr
  · show Q_rmEqN Z wMAX_LOCK_DELAY wGRANTED wQUEUED wZERO a1 h0 n0 _ s₁.heap _
    rw [e0]
    exact ⟨rfl, N0, rfl⟩
theorem ef_rmEqD (m : MethodId) (x0 : Addr) (x1 : Addr)  : entryFrame m #[(.ref x0), (.ref x1)] 3 = mkF m 0 #[(vr x0), (vr x1), .unset] [] := by first | (simp [entryFrame, mkF, argsToLocals, Value.category]; done) | rfl
theorem d15_9 : decode prog_89_method_6_code 9 = .ok (.aload_n 1, 1) := by decide +kernel
theorem d15_10 : decode prog_89_method_6_code 10 = .ok (.checkcast 8, 3) := by decide +kernel
theorem d15_13 : decode prog_89_method_6_code 13 = .ok (.astore_n 2, 1) := by decide +kernel
theorem d15_14 : decode prog_89_method_6_code 14 = .ok (.aload_n 0, 1) := by decide +kernel
theorem d15_15 : decode prog_89_method_6_code 15 = .ok (.getfield 7, 3) := by decide +kernel
theorem d15_18 : decode prog_89_method_6_code 18 = .ok (.aload_n 2, 1) := by decide +kernel
theorem d15_19 : decode prog_89_method_6_code 19 = .ok (.getfield 7, 3) := by decide +kernel
theorem d15_22 : decode prog_89_method_6_code 22 = .ok (.lcmp, 1) := by decide +kernel
theorem d15_23 : decode prog_89_method_6_code 23 = .ok (.ifCond .ne 19, 3) := by decide +kernel
theorem d15_26 : decode prog_89_method_6_code 26 = .ok (.aload_n 0, 1) := by decide +kernel
theorem d15_27 : decode prog_89_method_6_code 27 = .ok (.getfield 13, 3) := by decide +kernel
theorem d15_30 : decode prog_89_method_6_code 30 = .ok (.aload_n 2, 1) := by decide +kernel
theorem d15_31 : decode prog_89_method_6_code 31 = .ok (.getfield 13, 3) := by decide +kernel
theorem d15_34 : decode prog_89_method_6_code 34 = .ok (.lcmp, 1) := by decide +kernel
theorem d15_35 : decode prog_89_method_6_code 35 = .ok (.ifCond .ne 7, 3) := by decide +kernel
theorem d15_42 : decode prog_89_method_6_code 42 = .ok (.iconst 0, 1) := by decide +kernel
theorem d15_43 : decode prog_89_method_6_code 43 = .ok (.ireturn, 1) := by decide +kernel
def Q_rmEqD (Z : State) (wMAX_LOCK_DELAY : Addr) (wGRANTED : Addr) (wQUEUED : Addr) (wZERO : Addr) (a1 : Addr) (a2 : Addr) (q1 : Int64) (q2 : Int64) (q3 : Int64) (q4 : Int64) (h0 : Heap) (n0 : Nat) (v : Option Value) (h : Heap) (L : List Loc) : Prop := v = some (.int 0) ∧ Fr n0 L ∧ h = h0
theorem rmEqD (l : Launch) (Z : State) (a0 : Array Value) (hw : ∀ d ∈ tables_1, d.before a0 Z = true) (ws : List Jvm.Cond) (wMAX_LOCK_DELAY : Addr) (wGRANTED : Addr) (wQUEUED : Addr) (wZERO : Addr) (hS : SS Z wMAX_LOCK_DELAY wGRANTED wQUEUED wZERO) (a1 : Addr) (a2 : Addr) (q1 : Int64) (q2 : Int64) (q3 : Int64) (q4 : Int64) (h0 : Heap) (n0 : Nat) (O0 : Old Z n0 h0) (P0 : Exa Z h0 a2 s3n) (P1 : Fld Z h0 a1 s3n "session" "J" (.long q1)) (P2 : Fld Z h0 a1 s3n "handle" "J" (.long q2)) (P3 : Fld Z h0 a2 s3n "session" "J" (.long q3)) (P4 : Fld Z h0 a2 s3n "handle" "J" (.long q4)) (P5 : q2 ≠ q4) :
    MetB l M0 prog_89_method_6_code 3 (some .boolean) ws (rmk 0 0 0 0) Z h0 #[(.ref a1), (.ref a2)] (Q_rmEqD Z wMAX_LOCK_DELAY wGRANTED wQUEUED wZERO a1 a2 q1 q2 q3 q4 h0 n0) := by
  refine own_body (plainFor_of_name pn_com_example_umpired_umpired_server_SessionHandle) ?_
  intro p e s m below meth c s₁ hx hby hml hown hnm hret0 hlk0 hZ X0 e0
  have N0 := Fr.nil n0
  have pre0 : ∀ t, Steps p.tables e below (s₁.setTop (mkF m 0 #[(vr a1), (vr a2), .unset] [])) t → Steps p.tables e below (s₁.setTop (entryFrame m #[(.ref a1), (.ref a2)] 3)) t := fun t k => castTop (ef_rmEqD m a1 a2) k
  have hS0 := hS
  obtain ⟨S_wMAX_LOCK_DELAY, E_wMAX_LOCK_DELAY, S_wGRANTED, E_wGRANTED, S_wQUEUED, E_wQUEUED, F_seconds_wMAX_LOCK_DELAY, F_nanos_wMAX_LOCK_DELAY, S_wZERO, E_wZERO, F_seconds_wZERO, F_nanos_wZERO⟩ := hS0
  obtain ⟨T1, X1, e1, st1⟩ := instY X0 hx hZ hown (ow hw 133 rfl) e0 (Ins.self P0) (g := (mkF m 1 #[(vr a1), (vr a2), .unset] [(.ref a2)])) rfl rfl (hb hby d15_1)
  obtain ⟨T2, X2, e2, st2⟩ := castY X1 hx hZ hown (ow hw 133 rfl) e1 (Ins.self P0) (g := (mkF m 10 #[(vr a1), (vr a2), .unset] [(.ref a2)])) rfl rfl (hb hby d15_10)
  obtain ⟨T3, X3, e3, st3⟩ := getF X2 hx hZ hown (host := "") (Or.inl (ow hw 40 rfl)) Via.refl e2 P1 (g := (mkF m 15 #[(vr a1), (vr a2), (vr a2)] [(.ref a1)])) rfl rfl (hb hby d15_15)
  obtain ⟨T4, X4, e4, st4⟩ := getF X3 hx hZ hown (host := "") (Or.inl (ow hw 40 rfl)) Via.refl e3 P3 (g := (mkF m 19 #[(vr a1), (vr a2), (vr a2)] [(.ref a2), (.long q1)])) rfl rfl (hb hby d15_19)
  have pre5 : ∀ t, Steps p.tables e below (T4.setTop (mkF m 23 #[(vr a1), (vr a2), (vr a2)] [(.int (lcmpW q1 q3))])) t → Steps p.tables e below (s₁.setTop (entryFrame m #[(.ref a1), (.ref a2)] 3)) t := by
    intro t k
    refine pre0 t ?_
    show Steps p.tables e below (s₁.setTop (mkF m 0 #[(vr a1), (vr a2), .unset] [])) _
    refine XS.aloadN X0.here hx rfl (hb hby d15_0) rfl rfl ?_
    refine st1 _ ?_
    refine XS.ifYes X1.here hx rfl (pc0 := 4) (pc' := 9) rfl (hb hby d15_4) rfl ((if0 _ _).trans (feq (by decide : ¬ ((1 : Int32) = (0 : Int32)))).2) (by decide) (by decide) ?_
    refine XS.aloadN X1.here hx rfl (hb hby d15_9) rfl rfl ?_
    refine st2 _ ?_
    refine XS.astoreN X2.here hx rfl (hb hby d15_13) rfl rfl (l' := #[(vr a1), (vr a2), (vr a2)]) rfl ?_
    refine XS.aloadN X2.here hx rfl (hb hby d15_14) rfl rfl ?_
    refine st3 _ ?_
    show Steps p.tables e below (T3.setTop (mkF m 18 #[(vr a1), (vr a2), (vr a2)] [(.long q1)])) _
    refine XS.aloadN X3.here hx rfl (hb hby d15_18) rfl rfl ?_
    refine st4 _ ?_
    refine XS.lcmp X4.here hx rfl (hb hby d15_22) rfl ?_
    exact k
  rcases Decidable.em ((lcmpW q1 q3) = (0 : Int32)) with hc6 | hc6
  · skip
    obtain ⟨T7, X7, e7, st7⟩ := getF X4 hx hZ hown (host := "") (Or.inl (ow hw 42 rfl)) Via.refl e4 P2 (g := (mkF m 27 #[(vr a1), (vr a2), (vr a2)] [(.ref a1)])) rfl rfl (hb hby d15_27)
    obtain ⟨T8, X8, e8, st8⟩ := getF X7 hx hZ hown (host := "") (Or.inl (ow hw 42 rfl)) Via.refl e7 P4 (g := (mkF m 31 #[(vr a1), (vr a2), (vr a2)] [(.ref a2), (.long q2)])) rfl rfl (hb hby d15_31)
    obtain ⟨fs, hr, hrun, hended, hW, hsame⟩ := X8.leave (v := some (.int 0)) (fun h => by rw [hret0] at h; cases h)
    refine ⟨_, _, pre5 _ ?_, hrun, hended, _, _, rfl, ?_, ⟨_, rfl⟩, hW, hsame.mono (by decide) (by decide)⟩
    · skip
      refine XS.ifNo X4.here hx rfl (hb hby d15_23) rfl ((if0 _ _).trans (teq hc6).2) ?_
      refine XS.aloadN X4.here hx rfl (hb hby d15_26) rfl rfl ?_
      refine st7 _ ?_
      refine XS.aloadN X7.here hx rfl (hb hby d15_30) rfl rfl ?_
      refine st8 _ ?_
      show Steps p.tables e below (T8.setTop (mkF m 34 #[(vr a1), (vr a2), (vr a2)] [(.long q4), (.long q2)])) _
      refine XS.lcmp X8.here hx rfl (hb hby d15_34) rfl ?_
      refine XS.ifYes X8.here hx rfl (pc0 := 35) (pc' := 42) rfl (hb hby d15_35) rfl ((if0 _ _).trans (feq (fun z => P5 ((lw_eq _ _).mp z) : ¬ ((lcmpW q2 q4) = (0 : Int32)))).2) (by decide) (by decide) ?_
      refine XS.iconst X8.here hx rfl (hb hby d15_42) ?_
      exact retN X8 hx (t := .boolean) hret0 (by simp) (hb hby d15_43) hr
    · show Q_rmEqD Z wMAX_LOCK_DELAY wGRANTED wQUEUED wZERO a1 a2 q1 q2 q3 q4 h0 n0 _ T8.heap _
      rw [e8]
      exact ⟨rfl, N0, rfl⟩
  · skip
    obtain ⟨fs, hr, hrun, hended, hW, hsame⟩ := X4.leave (v := some (.int 0)) (fun h => by rw [hret0] at h; cases h)
    refine ⟨_, _, pre5 _ ?_, hrun, hended, _, _, rfl, ?_, ⟨_, rfl⟩, hW, hsame.mono (by decide) (by decide)⟩
    · skip
      refine XS.ifYes X4.here hx rfl (pc0 := 23) (pc' := 42) rfl (hb hby d15_23) rfl ((if0 _ _).trans (feq hc6).2) (by decide) (by decide) ?_
      refine XS.iconst X4.here hx rfl (hb hby d15_42) ?_
      exact retN X4 hx (t := .boolean) hret0 (by simp) (hb hby d15_43) hr
    · show Q_rmEqD Z wMAX_LOCK_DELAY wGRANTED wQUEUED wZERO a1 a2 q1 q2 q3 q4 h0 n0 _ T4.heap _
      rw [e4]
      exact ⟨rfl, N0, rfl⟩
theorem ef_rmHB0 (m : MethodId) (x0 : Addr) (x1 : Int64)  : entryFrame m #[(.ref x0), (.long x1)] 3 = mkF m 0 #[(vr x0), (vl x1), .second] [] := by first | (simp [entryFrame, mkF, argsToLocals, Value.category]; done) | rfl
theorem pn_com_example_umpired_umpired_server_NodeLock : plainName "com/example/umpired/umpired/server/NodeLock" = true := by first | (simp [plainName, overriddenIn]; done) | decide +kernel
theorem d6_0 : decode prog_84_method_10_code 0 = .ok (.aload_n 0, 1) := by decide +kernel
theorem d6_1 : decode prog_84_method_10_code 1 = .ok (.getfield 45, 3) := by decide +kernel
theorem d6_4 : decode prog_84_method_10_code 4 = .ok (.ifCond .eq 16, 3) := by decide +kernel
theorem d6_20 : decode prog_84_method_10_code 20 = .ok (.iconst 0, 1) := by decide +kernel
theorem d6_21 : decode prog_84_method_10_code 21 = .ok (.ireturn, 1) := by decide +kernel
def Q_rmHB0 (Z : State) (wMAX_LOCK_DELAY : Addr) (wGRANTED : Addr) (wQUEUED : Addr) (wZERO : Addr) (a1 : Addr) (q2 : Int64) (h0 : Heap) (n0 : Nat) (v : Option Value) (h : Heap) (L : List Loc) : Prop := v = some (.int 0) ∧ Fr n0 L ∧ h = h0
theorem rmHB0 (l : Launch) (Z : State) (a0 : Array Value) (hw : ∀ d ∈ tables_1, d.before a0 Z = true) (ws : List Jvm.Cond) (wMAX_LOCK_DELAY : Addr) (wGRANTED : Addr) (wQUEUED : Addr) (wZERO : Addr) (hS : SS Z wMAX_LOCK_DELAY wGRANTED wQUEUED wZERO) (a1 : Addr) (q2 : Int64) (h0 : Heap) (n0 : Nat) (O0 : Old Z n0 h0) (P0 : Fld Z h0 a1 s4n "heldBack" "Z" (.int 0)) :
    MetB l M1 prog_84_method_10_code 3 (some .boolean) ws (rmk 0 0 0 0) Z h0 #[(.ref a1), (.long q2)] (Q_rmHB0 Z wMAX_LOCK_DELAY wGRANTED wQUEUED wZERO a1 q2 h0 n0) := by
  refine own_body (plainFor_of_name pn_com_example_umpired_umpired_server_NodeLock) ?_
  intro p e s m below meth c s₁ hx hby hml hown hnm hret0 hlk0 hZ X0 e0
  have N0 := Fr.nil n0
  have pre0 : ∀ t, Steps p.tables e below (s₁.setTop (mkF m 0 #[(vr a1), (vl q2), .second] [])) t → Steps p.tables e below (s₁.setTop (entryFrame m #[(.ref a1), (.long q2)] 3)) t := fun t k => castTop (ef_rmHB0 m a1 q2) k
  have hS0 := hS
  obtain ⟨S_wMAX_LOCK_DELAY, E_wMAX_LOCK_DELAY, S_wGRANTED, E_wGRANTED, S_wQUEUED, E_wQUEUED, F_seconds_wMAX_LOCK_DELAY, F_nanos_wMAX_LOCK_DELAY, S_wZERO, E_wZERO, F_seconds_wZERO, F_nanos_wZERO⟩ := hS0
  obtain ⟨T1, X1, e1, st1⟩ := getF X0 hx hZ hown (host := "") (Or.inl (ow hw 50 rfl)) Via.refl e0 P0 (g := (mkF m 1 #[(vr a1), (vl q2), .second] [(.ref a1)])) rfl rfl (hb hby d6_1)
  obtain ⟨fs, hr, hrun, hended, hW, hsame⟩ := X1.leave (v := some (.int 0)) (fun h => by rw [hret0] at h; cases h)
  refine ⟨_, _, pre0 _ ?_, hrun, hended, _, _, rfl, ?_, ⟨_, rfl⟩, hW, hsame.mono (by decide) (by decide)⟩
  · skip
    show Steps p.tables e below (s₁.setTop (mkF m 0 #[(vr a1), (vl q2), .second] [])) _
    refine XS.aloadN X0.here hx rfl (hb hby d6_0) rfl rfl ?_
    refine st1 _ ?_
    refine XS.ifYes X1.here hx rfl (pc0 := 4) (pc' := 20) rfl (hb hby d6_4) rfl ((if0 _ _).trans (teq (by decide : (0 : Int32) = (0 : Int32))).1) (by decide) (by decide) ?_
    refine XS.iconst X1.here hx rfl (hb hby d6_20) ?_
    exact retN X1 hx (t := .boolean) hret0 (by simp) (hb hby d6_21) hr
  · show Q_rmHB0 Z wMAX_LOCK_DELAY wGRANTED wQUEUED wZERO a1 q2 h0 n0 _ T1.heap _
    rw [e1]
    exact ⟨rfl, N0, rfl⟩
theorem ef_rmHB1 (m : MethodId) (x0 : Addr) (x1 : Int64)  : entryFrame m #[(.ref x0), (.long x1)] 3 = mkF m 0 #[(vr x0), (vl x1), .second] [] := by first | (simp [entryFrame, mkF, argsToLocals, Value.category]; done) | rfl
theorem d6_7 : decode prog_84_method_10_code 7 = .ok (.aload_n 0, 1) := by decide +kernel
theorem d6_8 : decode prog_84_method_10_code 8 = .ok (.getfield 25, 3) := by decide +kernel
theorem d6_11 : decode prog_84_method_10_code 11 = .ok (.lload_n 1, 1) := by decide +kernel
theorem d6_12 : decode prog_84_method_10_code 12 = .ok (.lcmp, 1) := by decide +kernel
theorem d6_13 : decode prog_84_method_10_code 13 = .ok (.ifCond .ne 7, 3) := by decide +kernel
theorem d6_16 : decode prog_84_method_10_code 16 = .ok (.iconst 1, 1) := by decide +kernel
theorem d6_17 : decode prog_84_method_10_code 17 = .ok (.goto 4, 3) := by decide +kernel
def Q_rmHB1 (Z : State) (wMAX_LOCK_DELAY : Addr) (wGRANTED : Addr) (wQUEUED : Addr) (wZERO : Addr) (a1 : Addr) (q1 : Int64) (q2 : Int64) (h0 : Heap) (n0 : Nat) (v : Option Value) (h : Heap) (L : List Loc) : Prop := ∃ (r : Int32), v = some (.int r) ∧ Fr n0 L ∧ h = h0 ∧ r = (if (lcmpW q1 q2) = (0 : Int32) then (1 : Int32) else (0 : Int32))
theorem rmHB1 (l : Launch) (Z : State) (a0 : Array Value) (hw : ∀ d ∈ tables_1, d.before a0 Z = true) (ws : List Jvm.Cond) (wMAX_LOCK_DELAY : Addr) (wGRANTED : Addr) (wQUEUED : Addr) (wZERO : Addr) (hS : SS Z wMAX_LOCK_DELAY wGRANTED wQUEUED wZERO) (a1 : Addr) (q1 : Int64) (q2 : Int64) (h0 : Heap) (n0 : Nat) (O0 : Old Z n0 h0) (P0 : Fld Z h0 a1 s4n "heldBack" "Z" (.int 1)) (P1 : Fld Z h0 a1 s4n "generation" "J" (.long q1)) :
    MetB l M1 prog_84_method_10_code 3 (some .boolean) ws (rmk 0 0 0 0) Z h0 #[(.ref a1), (.long q2)] (Q_rmHB1 Z wMAX_LOCK_DELAY wGRANTED wQUEUED wZERO a1 q1 q2 h0 n0) := by
  refine own_body (plainFor_of_name pn_com_example_umpired_umpired_server_NodeLock) ?_
  intro p e s m below meth c s₁ hx hby hml hown hnm hret0 hlk0 hZ X0 e0
  have N0 := Fr.nil n0
  have pre0 : ∀ t, Steps p.tables e below (s₁.setTop (mkF m 0 #[(vr a1), (vl q2), .second] [])) t → Steps p.tables e below (s₁.setTop (entryFrame m #[(.ref a1), (.long q2)] 3)) t := fun t k => castTop (ef_rmHB1 m a1 q2) k
  have hS0 := hS
  obtain ⟨S_wMAX_LOCK_DELAY, E_wMAX_LOCK_DELAY, S_wGRANTED, E_wGRANTED, S_wQUEUED, E_wQUEUED, F_seconds_wMAX_LOCK_DELAY, F_nanos_wMAX_LOCK_DELAY, S_wZERO, E_wZERO, F_seconds_wZERO, F_nanos_wZERO⟩ := hS0
  obtain ⟨T1, X1, e1, st1⟩ := getF X0 hx hZ hown (host := "") (Or.inl (ow hw 50 rfl)) Via.refl e0 P0 (g := (mkF m 1 #[(vr a1), (vl q2), .second] [(.ref a1)])) rfl rfl (hb hby d6_1)
  obtain ⟨T2, X2, e2, st2⟩ := getF X1 hx hZ hown (host := "") (Or.inl (ow hw 128 rfl)) Via.refl e1 P1 (g := (mkF m 8 #[(vr a1), (vl q2), .second] [(.ref a1)])) rfl rfl (hb hby d6_8)
  have pre3 : ∀ t, Steps p.tables e below (T2.setTop (mkF m 13 #[(vr a1), (vl q2), .second] [(.int (lcmpW q1 q2))])) t → Steps p.tables e below (s₁.setTop (entryFrame m #[(.ref a1), (.long q2)] 3)) t := by
    intro t k
    refine pre0 t ?_
    show Steps p.tables e below (s₁.setTop (mkF m 0 #[(vr a1), (vl q2), .second] [])) _
    refine XS.aloadN X0.here hx rfl (hb hby d6_0) rfl rfl ?_
    refine st1 _ ?_
    refine XS.ifNo X1.here hx rfl (hb hby d6_4) rfl ((if0 _ _).trans (feq (by decide : ¬ ((1 : Int32) = (0 : Int32)))).1) ?_
    refine XS.aloadN X1.here hx rfl (hb hby d6_7) rfl rfl ?_
    refine st2 _ ?_
    refine XS.lloadN X2.here hx rfl (hb hby d6_11) rfl ?_
    refine XS.lcmp X2.here hx rfl (hb hby d6_12) rfl ?_
    exact k
  rcases Decidable.em ((lcmpW q1 q2) = (0 : Int32)) with hc4 | hc4
  · skip
    obtain ⟨fs, hr, hrun, hended, hW, hsame⟩ := X2.leave (v := some (.int 1)) (fun h => by rw [hret0] at h; cases h)
    refine ⟨_, _, pre3 _ ?_, hrun, hended, _, _, rfl, ?_, ⟨_, rfl⟩, hW, hsame.mono (by decide) (by decide)⟩
    · skip
      refine XS.ifNo X2.here hx rfl (hb hby d6_13) rfl ((if0 _ _).trans (teq hc4).2) ?_
      show Steps p.tables e below (T2.setTop (mkF m 16 #[(vr a1), (vl q2), .second] [])) _
      refine XS.iconst X2.here hx rfl (hb hby d6_16) ?_
      refine XS.goto X2.here hx rfl (pc0 := 17) (pc' := 21) rfl (hb hby d6_17) (by decide) (by decide) ?_
      exact retN X2 hx (t := .boolean) hret0 (by simp) (hb hby d6_21) hr
    · show Q_rmHB1 Z wMAX_LOCK_DELAY wGRANTED wQUEUED wZERO a1 q1 q2 h0 n0 _ T2.heap _
      rw [e2]
      exact ⟨(1 : Int32), rfl, N0, rfl, (by simp [hc4])⟩
  · skip
    obtain ⟨fs, hr, hrun, hended, hW, hsame⟩ := X2.leave (v := some (.int 0)) (fun h => by rw [hret0] at h; cases h)
    refine ⟨_, _, pre3 _ ?_, hrun, hended, _, _, rfl, ?_, ⟨_, rfl⟩, hW, hsame.mono (by decide) (by decide)⟩
    · skip
      refine XS.ifYes X2.here hx rfl (pc0 := 13) (pc' := 20) rfl (hb hby d6_13) rfl ((if0 _ _).trans (feq hc4).2) (by decide) (by decide) ?_
      show Steps p.tables e below (T2.setTop (mkF m 20 #[(vr a1), (vl q2), .second] [])) _
      refine XS.iconst X2.here hx rfl (hb hby d6_20) ?_
      exact retN X2 hx (t := .boolean) hret0 (by simp) (hb hby d6_21) hr
    · show Q_rmHB1 Z wMAX_LOCK_DELAY wGRANTED wQUEUED wZERO a1 q1 q2 h0 n0 _ T2.heap _
      rw [e2]
      exact ⟨(0 : Int32), rfl, N0, rfl, (by simp [hc4])⟩
def own_exp (a w e : Int32) (s t es q : Int64) : Int32 := if a = 0 ∧ w = 0 then 0 else if ¬ (if a = 0 then t else s) = es then 0 else if e = 0 then 0 else if (1 : Int64) = q then 1 else 0
theorem ef_rm0 (m : MethodId) (x0 : Int32) (x1 : Int64) (x2 : Int64) (x3 : Int64)  : entryFrame m #[(.int x0), (.long x1), (.long x2), (.long x3)] maxLocals = mkF m 0 #[(vi x0), (vl x1), .second, (vl x2), .second, (vl x3), .second, .unset, .unset, .unset, .unset, .unset, .unset, .unset, .unset, .unset, .unset, .unset, .unset, .unset, .unset, .unset, .unset, .unset, .unset, .unset, .unset, .unset, .unset, .unset, .unset, .unset, .unset] [] := by first | (simp [entryFrame, mkF, argsToLocals, Value.category, maxLocals]; done) | rfl
theorem pn_com_example_umpired_umpired_server_NodeLockIsHeldBackAfterPinLaw : plainName "com/example/umpired/umpired/server/NodeLockIsHeldBackAfterPinLaw" = true := by first | (simp [plainName, overriddenIn]; done) | decide +kernel
theorem ef_au1_0 (m : MethodId) (x0 : Addr)  : entryFrame m #[(.ref x0)] 1 = mkF m 0 #[(vr x0)] [] := by first | (simp [entryFrame, mkF, argsToLocals, Value.category]; done) | rfl
theorem d1_0 : decode prog_84_method_1_code 0 = .ok (.aload_n 0, 1) := by decide +kernel
theorem d1_1 : decode prog_84_method_1_code 1 = .ok (.invokespecial 1, 3) := by decide +kernel
theorem d1_4 : decode prog_84_method_1_code 4 = .ok (.aload_n 0, 1) := by decide +kernel
theorem d1_5 : decode prog_84_method_1_code 5 = .ok (.new 7, 3) := by decide +kernel
theorem d1_8 : decode prog_84_method_1_code 8 = .ok (.dup, 1) := by decide +kernel
theorem d1_9 : decode prog_84_method_1_code 9 = .ok (.invokespecial 9, 3) := by decide +kernel
theorem ef_au3_0 (m : MethodId) (x0 : Addr)  : entryFrame m #[(.ref x0)] 1 = mkF m 0 #[(vr x0)] [] := by first | (simp [entryFrame, mkF, argsToLocals, Value.category]; done) | rfl
theorem pn_java_util_ArrayDeque : plainName "java/util/ArrayDeque" = true := by first | (simp [plainName, overriddenIn]; done) | decide +kernel
theorem d3_0 : decode jdk_21_method_3_code 0 = .ok (.aload_n 0, 1) := by decide +kernel
theorem d3_1 : decode jdk_21_method_3_code 1 = .ok (.invokespecial 42, 3) := by decide +kernel
theorem ef_au4_0 (m : MethodId) (x0 : Addr)  : entryFrame m #[(.ref x0)] 1 = mkF m 0 #[(vr x0)] [] := by first | (simp [entryFrame, mkF, argsToLocals, Value.category]; done) | rfl
theorem pn_java_util_AbstractCollection : plainName "java/util/AbstractCollection" = true := by first | (simp [plainName, overriddenIn]; done) | decide +kernel
theorem d4_0 : decode jdk_22_method_1_code 0 = .ok (.aload_n 0, 1) := by decide +kernel
theorem d4_1 : decode jdk_22_method_1_code 1 = .ok (.invokespecial 1, 3) := by decide +kernel
theorem d4_4 : decode jdk_22_method_1_code 4 = .ok (.return_, 1) := by decide +kernel
def Q_au4_0 (Z : State) (wMAX_LOCK_DELAY : Addr) (wGRANTED : Addr) (wQUEUED : Addr) (wZERO : Addr) (a1 : Addr) (h0 : Heap) (n0 : Nat) (v : Option Value) (h : Heap) (L : List Loc) : Prop := v = none ∧ Fr n0 L ∧ h = h0
theorem au4_0 (l : Launch) (Z : State) (a0 : Array Value) (hw : ∀ d ∈ tables_1, d.before a0 Z = true) (ws : List Jvm.Cond) (wMAX_LOCK_DELAY : Addr) (wGRANTED : Addr) (wQUEUED : Addr) (wZERO : Addr) (hS : SS Z wMAX_LOCK_DELAY wGRANTED wQUEUED wZERO) (a1 : Addr) (h0 : Heap) (n0 : Nat) (O0 : Old Z n0 h0)  :
    MetB l M2 jdk_22_method_1_code 1 none ws (rmk 1 0 0 12) Z h0 #[(.ref a1)] (Q_au4_0 Z wMAX_LOCK_DELAY wGRANTED wQUEUED wZERO a1 h0 n0) := by
  refine own_body (plainFor_of_name pn_java_util_AbstractCollection) ?_
  intro p e s m below meth c s₁ hx hby hml hown hnm hret0 hlk0 hZ X0 e0
  have N0 := Fr.nil n0
  have pre0 : ∀ t, Steps p.tables e below (s₁.setTop (mkF m 0 #[(vr a1)] [])) t → Steps p.tables e below (s₁.setTop (entryFrame m #[(.ref a1)] 1)) t := fun t k => castTop (ef_au4_0 m a1) k
  have hS0 := hS
  obtain ⟨S_wMAX_LOCK_DELAY, E_wMAX_LOCK_DELAY, S_wGRANTED, E_wGRANTED, S_wQUEUED, E_wQUEUED, F_seconds_wMAX_LOCK_DELAY, F_nanos_wMAX_LOCK_DELAY, S_wZERO, E_wZERO, F_seconds_wZERO, F_nanos_wZERO⟩ := hS0
  obtain ⟨T1, X1, e1, st1⟩ := initO X0 hx hZ hown (ow hw 22 rfl) (ow hw 8 rfl) (ow hw 9 rfl) e0 (g := (mkF m 1 #[(vr a1)] [(.ref a1)])) rfl (by rw [hml]; rfl) rfl (hb hby d4_1) (by decide) (W := 0) (by show 2 * 0 + _ ≤ _; exact Nat.le_of_eq rfl) (by decide)
  obtain ⟨fs, hr, hrun, hended, hW, hsame⟩ := X1.leave (v := none) (fun _ => rfl)
  refine ⟨_, _, pre0 _ ?_, hrun, hended, _, _, rfl, ?_, ⟨_, rfl⟩, hW, hsame.mono (by decide) (by decide)⟩
  · skip
    show Steps p.tables e below (s₁.setTop (mkF m 0 #[(vr a1)] [])) _
    refine XS.aloadN X0.here hx rfl (hb hby d4_0) rfl rfl ?_
    refine st1 _ ?_
    exact X1.returnOut hx hret0 (hb hby d4_4) hr
  · show Q_au4_0 Z wMAX_LOCK_DELAY wGRANTED wQUEUED wZERO a1 h0 n0 _ T1.heap _
    rw [e1]
    exact ⟨rfl, N0, rfl⟩
theorem pd_0 : parseMethodDescriptor "()V" = some ⟨[], none⟩ := by decide +kernel
theorem d3_4 : decode jdk_21_method_3_code 4 = .ok (.aload_n 0, 1) := by decide +kernel
theorem d3_5 : decode jdk_21_method_3_code 5 = .ok (.bipush 17, 2) := by decide +kernel
theorem d3_7 : decode jdk_21_method_3_code 7 = .ok (.anewarray 47, 3) := by decide +kernel
theorem d3_10 : decode jdk_21_method_3_code 10 = .ok (.putfield 3, 3) := by decide +kernel
theorem d3_13 : decode jdk_21_method_3_code 13 = .ok (.return_, 1) := by decide +kernel
def Q_au3_0 (Z : State) (wMAX_LOCK_DELAY : Addr) (wGRANTED : Addr) (wQUEUED : Addr) (wZERO : Addr) (a1 : Addr) (h0 : Heap) (n0 : Nat) (v : Option Value) (h : Heap) (L : List Loc) : Prop := ∃ (e1 : Addr) (e2 : ClassId), v = none ∧ Fr n0 L ∧ Keep h0 h [a1] ∧ Exa Z h a1 s6n ∧ Fld Z h a1 s6n "elements" s7n (.ref e1) ∧ Fld Z h a1 s6n "head" "I" (.int 0) ∧ Fld Z h a1 s6n "tail" "I" (.int 0) ∧ h0.size ≤ e1 ∧ Exa Z h e1 s7n ∧ Arv Z h e1 e2 (.object s8n) (17 : Int32) ([.null, .null, .null, .null, .null, .null, .null, .null, .null, .null, .null, .null, .null, .null, .null, .null, .null]) .null ∧ Ovr Z e2 s8n
theorem au3_0 (l : Launch) (Z : State) (a0 : Array Value) (hw : ∀ d ∈ tables_1, d.before a0 Z = true) (ws : List Jvm.Cond) (wMAX_LOCK_DELAY : Addr) (wGRANTED : Addr) (wQUEUED : Addr) (wZERO : Addr) (hS : SS Z wMAX_LOCK_DELAY wGRANTED wQUEUED wZERO) (a1 : Addr) (h0 : Heap) (n0 : Nat) (O0 : Old Z n0 h0) (P0 : Exa Z h0 a1 s6n) (P1 : Fld Z h0 a1 s6n "elements" s7n .null) (P2 : Fld Z h0 a1 s6n "head" "I" (.int 0)) (P3 : Fld Z h0 a1 s6n "tail" "I" (.int 0)) (P4 : n0 ≤ a1) :
    MetB l M3 jdk_21_method_3_code 1 none ws (rmk 2 1 17 24) Z h0 #[(.ref a1)] (Q_au3_0 Z wMAX_LOCK_DELAY wGRANTED wQUEUED wZERO a1 h0 n0) := by
  refine own_body (plainFor_of_name pn_java_util_ArrayDeque) ?_
  intro p e s m below meth c s₁ hx hby hml hown hnm hret0 hlk0 hZ X0 e0
  have N0 := Fr.nil n0
  have pre0 : ∀ t, Steps p.tables e below (s₁.setTop (mkF m 0 #[(vr a1)] [])) t → Steps p.tables e below (s₁.setTop (entryFrame m #[(.ref a1)] 1)) t := fun t k => castTop (ef_au3_0 m a1) k
  have K0 := Keep.refl h0 [a1]
  have hS0 := hS
  obtain ⟨S_wMAX_LOCK_DELAY, E_wMAX_LOCK_DELAY, S_wGRANTED, E_wGRANTED, S_wQUEUED, E_wQUEUED, F_seconds_wMAX_LOCK_DELAY, F_nanos_wMAX_LOCK_DELAY, S_wZERO, E_wZERO, F_seconds_wZERO, F_nanos_wZERO⟩ := hS0
  obtain ⟨_, _, ⟨T1, L1, k1, n1⟩, -, X1, ⟨Lc1, hQ1, l1, y1, z1⟩, st1⟩ := X0.specialBack hx (y := M2) rfl hown (mvT hZ (ow hw 16 rfl)) (mvT hZ (ow hw 17 rfl)) (mvT hZ (ow hw 21 rfl)) (by decide) (backOf (W := 0) (au4_0 l Z a0 hw [] wMAX_LOCK_DELAY wGRANTED wQUEUED wZERO hS a1 h0 n0 O0 ) hZ (ow hw 21 rfl) (ow hw 20 rfl) (by decide) (by decide)) (g := (mkF m 1 #[(vr a1)] [(.ref a1)])) rfl (by rw [hml]; rfl) (Steps.refl _) (a := a1) (argsL := []) (rest := []) (lenOf pd_0 rfl) rfl (by show 2 * 0 + _ ≤ _; exact Nat.le_of_eq rfl) (hb hby d3_1) (fun _ _ => ⟨rfl, e0, (by decide : 0 + 0 ≤ _), (by decide : 0 + 0 ≤ _)⟩)
  dsimp only [Pt.U, Pt.locs, Pt.cells, Pt.slots] at X1 l1 y1 z1 st1 hQ1
  subst l1 y1 z1
  obtain ⟨rfl, Nq1, K1q⟩ := hQ1
  have N1 := Fr.app N0 Nq1
  obtain ⟨T2, h2, k2, X2, e2, E2, A2, Z2, O2, st2⟩ := newRE X1 hx hZ hown (ow hw 23 rfl) (ow hw 24 rfl) K1q (g := (mkF m 7 #[(vr a1)] [(.int 17), (.ref a1)])) rfl (hb hby d3_7) rfl (by decide) (cap := 17) (by decide) (by decide) (by decide) (by decide) (ad := s7n) rfl
  obtain ⟨b2, g2⟩ : ∃ z, z = h0.size := ⟨_, rfl⟩
  rw [← g2] at A2 Z2 st2
  have ne3 : a1 ≠ b2 := Nat.ne_of_lt (Nat.lt_of_lt_of_le P0.lt (Nat.le_of_eq g2.symm))
  have g4 : n0 ≤ b2 := Nat.le_trans (own_sz O0) (Nat.le_of_eq g2.symm)
  have sz5 : h0.size ≤ b2 := Nat.le_trans K0.1 (Nat.le_of_eq g2.symm)
  have O6 : Old Z n0 h2 := O0.ext E2
  have K6 : Keep h0 h2 [a1] := K0.ext E2
  have V2 : Arv Z h2 b2 k2 (.object s8n) (17 : Int32) ([.null, .null, .null, .null, .null, .null, .null, .null, .null, .null, .null, .null, .null, .null, .null, .null, .null]) .null := (Arv.new A2 (by decide)).pad (pad_rep [] .null 17)
  have f7 : Exa Z h2 a1 s6n := (P0.ext E2)
  have f8 : Fld Z h2 a1 s6n "elements" s7n .null := (P1.ext E2)
  obtain ⟨T9, h9, X9, e9, W9, st9⟩ := putF X2 hx hZ hown (host := "") (Or.inl (ow hw 25 rfl)) Via.refl e2 f8 f7 (Or.inl (ow hw 26 rfl)) (ow hw 11 rfl) (ty := (.array (.object s8n))) (by decide) rfl rfl (g := (mkF m 10 #[(vr a1)] [(.ref b2), (.ref a1)])) rfl rfl (hb hby d3_10)
  have N9 := Fr.snoc X9 N1 P4
  have O10 : Old Z n0 h9 := O6.wr W9 P4
  have K10 : Keep h0 h9 [a1] := K6.wr W9 (Or.inl (List.mem_of_getElem? (i := 0) rfl))
  have Fw9 : Fld Z h9 a1 s6n "elements" s7n (.ref b2) := f8.same W9
  have f11 : Exa Z h9 a1 s6n := (f7.wr W9)
  have f12 : Fld Z h9 a1 s6n "head" "I" (.int 0) := ((P2.ext E2).other W9 (Or.inr (slot_ne (Or.inl (ow hw 84 rfl)) (Or.inl (ow hw 26 rfl)) (by decide) (t := .int) (t' := (.array (.object s8n))) (by decide) (by decide))))
  have f13 : Fld Z h9 a1 s6n "tail" "I" (.int 0) := ((P3.ext E2).other W9 (Or.inr (slot_ne (Or.inl (ow hw 82 rfl)) (Or.inl (ow hw 26 rfl)) (by decide) (t := .int) (t' := (.array (.object s8n))) (by decide) (by decide))))
  have f14 : Exa Z h9 b2 s7n := (Z2.wr W9)
  have f15 : Arv Z h9 b2 k2 (.object s8n) (17 : Int32) ([.null, .null, .null, .null, .null, .null, .null, .null, .null, .null, .null, .null, .null, .null, .null, .null, .null]) .null := (V2.other W9 (Ne.symm ne3))
  obtain ⟨fs, hr, hrun, hended, hW, hsame⟩ := X9.leave (v := none) (fun _ => rfl)
  refine ⟨_, _, pre0 _ ?_, hrun, hended, _, _, rfl, ?_, ⟨_, rfl⟩, hW, hsame.mono (by decide) (by decide)⟩
  · skip
    show Steps p.tables e below (s₁.setTop (mkF m 0 #[(vr a1)] [])) _
    refine XS.aloadN X0.here hx rfl (hb hby d3_0) rfl rfl ?_
    refine st1.trans ?_
    refine XS.aloadN X1.here hx rfl (hb hby d3_4) rfl rfl ?_
    refine XS.bipush X1.here hx rfl (hb hby d3_5) ?_
    refine st2 _ ?_
    refine st9 _ ?_
    exact X9.returnOut hx hret0 (hb hby d3_13) hr
  · show Q_au3_0 Z wMAX_LOCK_DELAY wGRANTED wQUEUED wZERO a1 h0 n0 _ T9.heap _
    rw [e9]
    exact ⟨b2, k2, rfl, N9, K10, f11, Fw9, f12, f13, sz5, f14, f15, O2⟩
theorem d1_12 : decode prog_84_method_1_code 12 = .ok (.putfield 10, 3) := by decide +kernel
theorem d1_15 : decode prog_84_method_1_code 15 = .ok (.aload_n 0, 1) := by decide +kernel
theorem d1_16 : decode prog_84_method_1_code 16 = .ok (.getstatic 16, 3) := by decide +kernel
theorem d1_19 : decode prog_84_method_1_code 19 = .ok (.putfield 22, 3) := by decide +kernel
theorem d1_22 : decode prog_84_method_1_code 22 = .ok (.return_, 1) := by decide +kernel
def Q_au1_0 (Z : State) (wMAX_LOCK_DELAY : Addr) (wGRANTED : Addr) (wQUEUED : Addr) (wZERO : Addr) (a1 : Addr) (qg2 : Int64) (h0 : Heap) (n0 : Nat) (v : Option Value) (h : Heap) (L : List Loc) : Prop := ∃ (e1 : Addr) (e2 : Addr) (e3 : ClassId), v = none ∧ Fr n0 L ∧ Keep h0 h [a1] ∧ Exa Z h a1 s4n ∧ Fld Z h a1 s4n "generation" "J" (.long qg2) ∧ Fld Z h a1 s4n "heldBack" "Z" (.int 0) ∧ Fld Z h a1 s4n "holder" s9n .null ∧ Fld Z h a1 s4n s10n s0n (.ref wZERO) ∧ Fld Z h a1 s4n "waiters" s11n (.ref e1) ∧ h0.size ≤ e1 ∧ Exa Z h e1 s6n ∧ Fld Z h e1 s6n "elements" s7n (.ref e2) ∧ Fld Z h e1 s6n "head" "I" (.int 0) ∧ Fld Z h e1 s6n "tail" "I" (.int 0) ∧ h0.size ≤ e2 ∧ Exa Z h e2 s7n ∧ Arv Z h e2 e3 (.object s8n) (17 : Int32) ([.null, .null, .null, .null, .null, .null, .null, .null, .null, .null, .null, .null, .null, .null, .null, .null, .null]) .null ∧ Ovr Z e3 s8n
theorem au1_0 (l : Launch) (Z : State) (a0 : Array Value) (hw : ∀ d ∈ tables_1, d.before a0 Z = true) (ws : List Jvm.Cond) (wMAX_LOCK_DELAY : Addr) (wGRANTED : Addr) (wQUEUED : Addr) (wZERO : Addr) (hS : SS Z wMAX_LOCK_DELAY wGRANTED wQUEUED wZERO) (a1 : Addr) (qg2 : Int64) (h0 : Heap) (n0 : Nat) (O0 : Old Z n0 h0) (P0 : Exa Z h0 a1 s4n) (P1 : Fld Z h0 a1 s4n "generation" "J" (.long qg2)) (P2 : Fld Z h0 a1 s4n "heldBack" "Z" (.int 0)) (P3 : Fld Z h0 a1 s4n "holder" s9n .null) (P4 : Fld Z h0 a1 s4n s10n s0n .null) (P5 : Fld Z h0 a1 s4n "waiters" s11n .null) (P6 : n0 ≤ a1) :
    MetB l M4 prog_84_method_1_code 1 none ws (rmk 3 2 20 38) Z h0 #[(.ref a1)] (Q_au1_0 Z wMAX_LOCK_DELAY wGRANTED wQUEUED wZERO a1 qg2 h0 n0) := by
  refine own_body (plainFor_of_name pn_com_example_umpired_umpired_server_NodeLock) ?_
  intro p e s m below meth c s₁ hx hby hml hown hnm hret0 hlk0 hZ X0 e0
  have N0 := Fr.nil n0
  have pre0 : ∀ t, Steps p.tables e below (s₁.setTop (mkF m 0 #[(vr a1)] [])) t → Steps p.tables e below (s₁.setTop (entryFrame m #[(.ref a1)] 1)) t := fun t k => castTop (ef_au1_0 m a1) k
  have K0 := Keep.refl h0 [a1]
  have hS0 := hS
  obtain ⟨S_wMAX_LOCK_DELAY, E_wMAX_LOCK_DELAY, S_wGRANTED, E_wGRANTED, S_wQUEUED, E_wQUEUED, F_seconds_wMAX_LOCK_DELAY, F_nanos_wMAX_LOCK_DELAY, S_wZERO, E_wZERO, F_seconds_wZERO, F_nanos_wZERO⟩ := hS0
  obtain ⟨T1, X1, e1, st1⟩ := initO X0 hx hZ hown (ow hw 7 rfl) (ow hw 8 rfl) (ow hw 9 rfl) e0 (g := (mkF m 1 #[(vr a1)] [(.ref a1)])) rfl (by rw [hml]; rfl) rfl (hb hby d1_1) (by decide) (W := 0) (by show 2 * 0 + _ ≤ _; exact Nat.le_of_eq rfl) (by decide)
  obtain ⟨T2, h2, X2, e2, E2, A2, D2, -, st2⟩ := newO X1 hx hZ hown (ow hw 10 rfl) (ow hw 11 rfl) (ow hw 12 rfl) e1 (g := (mkF m 5 #[(vr a1)] [(.ref a1)])) rfl (hb hby d1_5) (by decide) (by decide)
  obtain ⟨b2, g2⟩ : ∃ z, z = h0.size := ⟨_, rfl⟩
  rw [← g2] at A2 D2 st2
  have ne3 : a1 ≠ b2 := Nat.ne_of_lt (Nat.lt_of_lt_of_le P0.lt (Nat.le_of_eq g2.symm))
  have g4 : n0 ≤ b2 := Nat.le_trans (own_sz O0) (Nat.le_of_eq g2.symm)
  have sz5 : h0.size ≤ b2 := Nat.le_trans K0.1 (Nat.le_of_eq g2.symm)
  have O6 : Old Z n0 h2 := O0.ext E2
  have K6 : Keep h0 h2 [a1] := K0.ext E2
  have f7 : Fld Z h2 b2 s6n "elements" s7n .null := D2 (Or.inl (ow hw 26 rfl)) (ty := (.array (.object s8n))) (by decide)
  have f8 : Fld Z h2 b2 s6n "tail" "I" (.int 0) := D2 (Or.inl (ow hw 82 rfl)) (ty := .int) (by decide)
  have f9 : Fld Z h2 b2 s6n "head" "I" (.int 0) := D2 (Or.inl (ow hw 84 rfl)) (ty := .int) (by decide)
  obtain ⟨_, _, ⟨T10, L10, k10, n10⟩, -, X10, ⟨Lc10, hQ10, l10, y10, z10⟩, st10⟩ := X2.specialBack hx (y := M3) rfl hown (mvT hZ (ow hw 13 rfl)) (mvT hZ (ow hw 14 rfl)) (mvT hZ (ow hw 15 rfl)) (by decide) (backOf (W := 2) (au3_0 l Z a0 hw [] wMAX_LOCK_DELAY wGRANTED wQUEUED wZERO hS b2 h2 n0 O6 A2 f7 f9 f8 g4) hZ (ow hw 15 rfl) (ow hw 12 rfl) (by decide) (by decide)) (g := (mkF m 9 #[(vr a1)] [(.ref b2), (.ref b2), (.ref a1)])) rfl (by rw [hml]; rfl) (Steps.refl _) (a := b2) (argsL := []) (rest := [(.ref b2), (.ref a1)]) (lenOf pd_0 rfl) rfl (by show 2 * 0 + _ ≤ _; exact Nat.le_of_eq rfl) (hb hby d1_9) (fun _ _ => ⟨rfl, e2, (by decide : 1 + 1 ≤ _), (by decide : 3 + 17 ≤ _)⟩)
  dsimp only [Pt.U, Pt.locs, Pt.cells, Pt.slots] at X10 l10 y10 z10 st10 hQ10
  subst l10 y10 z10
  obtain ⟨e1_10, e2_10, rfl, Nq10, K10q, p10_0, p10_1, p10_2, p10_3, p10_4, p10_5, p10_6, p10_7⟩ := hQ10
  have N10 := Fr.app N0 Nq10
  have f12 : Exa Z h2 a1 s4n := (P0.ext E2)
  have ne11 : a1 ≠ e1_10 := Nat.ne_of_lt (Nat.lt_of_lt_of_le f12.lt p10_4)
  have ne13 : b2 ≠ e1_10 := Nat.ne_of_lt (Nat.lt_of_lt_of_le A2.lt p10_4)
  have g14 : n0 ≤ e1_10 := Nat.le_trans (own_sz O6) p10_4
  have sz15 : h0.size ≤ e1_10 := Nat.le_trans K6.1 p10_4
  have O16 : Old Z n0 T10.heap := O6.keep K10q (allS g4 all0)
  have K16 : Keep h0 T10.heap [a1] := K6.trans K10q (allS (Or.inr sz5) all0)
  have f17 : Exa Z T10.heap a1 s4n := (f12.keep K10q)
  have f18 : Fld Z T10.heap a1 s4n "waiters" s11n .null := ((P5.ext E2).keep K10q (ninS ne3 nin0))
  obtain ⟨T19, h19, X19, e19, W19, st19⟩ := putF X10 hx hZ hown (host := "") (Or.inl (ow hw 27 rfl)) Via.refl rfl f18 f17 (Or.inr ⟨(ow hw 28 rfl), rfl, hnm⟩) (ow hw 2 rfl) (ty := (.object s12n)) (by decide) rfl rfl (g := (mkF m 12 #[(vr a1)] [(.ref b2), (.ref a1)])) rfl rfl (hb hby d1_12)
  have N19 := Fr.snoc X19 N10 P6
  have O20 : Old Z n0 h19 := O16.wr W19 P6
  have K20 : Keep h0 h19 [a1] := K16.wr W19 (Or.inl (List.mem_of_getElem? (i := 0) rfl))
  have Fw19 : Fld Z h19 a1 s4n "waiters" s11n (.ref b2) := f18.same W19
  obtain ⟨T21, X21, e21, st21⟩ := getS2 X19 hx hZ hown (host := "") (Or.inl (ow hw 29 rfl)) Via.refl e19 (S_wZERO.ext O20.2) (g := (mkF m 16 #[(vr a1)] [(.ref a1)])) rfl (hb hby d1_16)
  have f22 : Exa Z h19 a1 s4n := (f17.wr W19)
  have f23 : Fld Z h19 a1 s4n s10n s0n .null := (((P4.ext E2).keep K10q (ninS ne3 nin0)).other W19 (Or.inr (slot_ne (Or.inl (ow hw 32 rfl)) (Or.inr (ow hw 28 rfl)) (by decide) (t := (.object s1n)) (t' := (.object s12n)) (by decide) (by decide))))
  obtain ⟨T24, h24, X24, e24, W24, st24⟩ := putF X21 hx hZ hown (host := "") (Or.inl (ow hw 31 rfl)) Via.refl e21 f23 f22 (Or.inl (ow hw 32 rfl)) (ow hw 2 rfl) (ty := (.object s1n)) (by decide) rfl rfl (g := (mkF m 19 #[(vr a1)] [(.ref wZERO), (.ref a1)])) rfl rfl (hb hby d1_19)
  have N24 := Fr.snoc X24 N19 P6
  have O25 : Old Z n0 h24 := O20.wr W24 P6
  have K25 : Keep h0 h24 [a1] := K20.wr W24 (Or.inl (List.mem_of_getElem? (i := 0) rfl))
  have Fw24 : Fld Z h24 a1 s4n s10n s0n (.ref wZERO) := f23.same W24
  have f26 : Exa Z h24 a1 s4n := (f22.wr W24)
  have f27 : Fld Z h24 a1 s4n "generation" "J" (.long qg2) := ((((P1.ext E2).keep K10q (ninS ne3 nin0)).other W19 (Or.inr (slot_ne (Or.inl (ow hw 129 rfl)) (Or.inr (ow hw 28 rfl)) (by decide) (t := .long) (t' := (.object s12n)) (by decide) (by decide)))).other W24 (Or.inr (slot_ne (Or.inl (ow hw 129 rfl)) (Or.inl (ow hw 32 rfl)) (by decide) (t := .long) (t' := (.object s1n)) (by decide) (by decide))))
  have f28 : Fld Z h24 a1 s4n "heldBack" "Z" (.int 0) := ((((P2.ext E2).keep K10q (ninS ne3 nin0)).other W19 (Or.inr (slot_ne (Or.inl (ow hw 51 rfl)) (Or.inr (ow hw 28 rfl)) (by decide) (t := .boolean) (t' := (.object s12n)) (by decide) (by decide)))).other W24 (Or.inr (slot_ne (Or.inl (ow hw 51 rfl)) (Or.inl (ow hw 32 rfl)) (by decide) (t := .boolean) (t' := (.object s1n)) (by decide) (by decide))))
  have f29 : Fld Z h24 a1 s4n "holder" s9n .null := ((((P3.ext E2).keep K10q (ninS ne3 nin0)).other W19 (Or.inr (slot_ne (Or.inl (ow hw 110 rfl)) (Or.inr (ow hw 28 rfl)) (by decide) (t := (.object s3n)) (t' := (.object s12n)) (by decide) (by decide)))).other W24 (Or.inr (slot_ne (Or.inl (ow hw 110 rfl)) (Or.inl (ow hw 32 rfl)) (by decide) (t := (.object s3n)) (t' := (.object s1n)) (by decide) (by decide))))
  have f30 : Fld Z h24 a1 s4n "waiters" s11n (.ref b2) := (Fw19.other W24 (Or.inr (slot_ne (Or.inr (ow hw 28 rfl)) (Or.inl (ow hw 32 rfl)) (by decide) (t := (.object s12n)) (t' := (.object s1n)) (by decide) (by decide))))
  have f31 : Exa Z h24 b2 s6n := ((p10_0.wr W19).wr W24)
  have f32 : Fld Z h24 b2 s6n "elements" s7n (.ref e1_10) := ((p10_1.other W19 (Or.inl (Ne.symm ne3))).other W24 (Or.inl (Ne.symm ne3)))
  have f33 : Fld Z h24 b2 s6n "head" "I" (.int 0) := ((p10_2.other W19 (Or.inl (Ne.symm ne3))).other W24 (Or.inl (Ne.symm ne3)))
  have f34 : Fld Z h24 b2 s6n "tail" "I" (.int 0) := ((p10_3.other W19 (Or.inl (Ne.symm ne3))).other W24 (Or.inl (Ne.symm ne3)))
  have f35 : Exa Z h24 e1_10 s7n := ((p10_5.wr W19).wr W24)
  have f36 : Arv Z h24 e1_10 e2_10 (.object s8n) (17 : Int32) ([.null, .null, .null, .null, .null, .null, .null, .null, .null, .null, .null, .null, .null, .null, .null, .null, .null]) .null := ((p10_6.other W19 (Ne.symm ne11)).other W24 (Ne.symm ne11))
  obtain ⟨fs, hr, hrun, hended, hW, hsame⟩ := X24.leave (v := none) (fun _ => rfl)
  refine ⟨_, _, pre0 _ ?_, hrun, hended, _, _, rfl, ?_, ⟨_, rfl⟩, hW, hsame.mono (by decide) (by decide)⟩
  · skip
    show Steps p.tables e below (s₁.setTop (mkF m 0 #[(vr a1)] [])) _
    refine XS.aloadN X0.here hx rfl (hb hby d1_0) rfl rfl ?_
    refine st1 _ ?_
    refine XS.aloadN X1.here hx rfl (hb hby d1_4) rfl rfl ?_
    refine st2 _ ?_
    refine XS.dup X2.here hx rfl (hb hby d1_8) rfl rfl ?_
    refine st10.trans ?_
    refine st19 _ ?_
    refine XS.aloadN X19.here hx rfl (hb hby d1_15) rfl rfl ?_
    show Steps p.tables e below (T19.setTop (mkF m 16 #[(vr a1)] [(.ref a1)])) _
    refine st21 _ ?_
    refine st24 _ ?_
    exact X24.returnOut hx hret0 (hb hby d1_22) hr
  · show Q_au1_0 Z wMAX_LOCK_DELAY wGRANTED wQUEUED wZERO a1 qg2 h0 n0 _ T24.heap _
    rw [e24]
    exact ⟨b2, e1_10, e2_10, rfl, N24, K25, f26, f27, f28, f29, Fw24, f30, sz5, f31, f32, f33, f34, sz15, f35, f36, p10_7⟩
theorem ef_au5_0 (m : MethodId) (x0 : Addr) (x1 : Int64) (x2 : Int64)  : entryFrame m #[(.ref x0), (.long x1), (.long x2)] 5 = mkF m 0 #[(vr x0), (vl x1), .second, (vl x2), .second] [] := by first | (simp [entryFrame, mkF, argsToLocals, Value.category]; done) | rfl
theorem d5_0 : decode prog_89_method_1_code 0 = .ok (.aload_n 0, 1) := by decide +kernel
theorem d5_1 : decode prog_89_method_1_code 1 = .ok (.invokespecial 1, 3) := by decide +kernel
theorem d5_4 : decode prog_89_method_1_code 4 = .ok (.aload_n 0, 1) := by decide +kernel
theorem d5_5 : decode prog_89_method_1_code 5 = .ok (.lload_n 1, 1) := by decide +kernel
theorem d5_6 : decode prog_89_method_1_code 6 = .ok (.putfield 7, 3) := by decide +kernel
theorem d5_9 : decode prog_89_method_1_code 9 = .ok (.aload_n 0, 1) := by decide +kernel
theorem d5_10 : decode prog_89_method_1_code 10 = .ok (.lload_n 3, 1) := by decide +kernel
theorem d5_11 : decode prog_89_method_1_code 11 = .ok (.putfield 13, 3) := by decide +kernel
theorem d5_14 : decode prog_89_method_1_code 14 = .ok (.return_, 1) := by decide +kernel
def Q_au5_0 (Z : State) (wMAX_LOCK_DELAY : Addr) (wGRANTED : Addr) (wQUEUED : Addr) (wZERO : Addr) (a1 : Addr) (q2 : Int64) (h0 : Heap) (n0 : Nat) (v : Option Value) (h : Heap) (L : List Loc) : Prop := v = none ∧ Fr n0 L ∧ Keep h0 h [a1] ∧ Exa Z h a1 s3n ∧ Fld Z h a1 s3n "handle" "J" (.long 1) ∧ Fld Z h a1 s3n "session" "J" (.long q2)
theorem au5_0 (l : Launch) (Z : State) (a0 : Array Value) (hw : ∀ d ∈ tables_1, d.before a0 Z = true) (ws : List Jvm.Cond) (wMAX_LOCK_DELAY : Addr) (wGRANTED : Addr) (wQUEUED : Addr) (wZERO : Addr) (hS : SS Z wMAX_LOCK_DELAY wGRANTED wQUEUED wZERO) (a1 : Addr) (q2 : Int64) (h0 : Heap) (n0 : Nat) (O0 : Old Z n0 h0) (P0 : Exa Z h0 a1 s3n) (P1 : Fld Z h0 a1 s3n "handle" "J" (.long 0)) (P2 : Fld Z h0 a1 s3n "session" "J" (.long 0)) (P3 : n0 ≤ a1) :
    MetB l M5 prog_89_method_1_code 5 none ws (rmk 1 0 0 12) Z h0 #[(.ref a1), (.long q2), (.long 1)] (Q_au5_0 Z wMAX_LOCK_DELAY wGRANTED wQUEUED wZERO a1 q2 h0 n0) := by
  refine own_body (plainFor_of_name pn_com_example_umpired_umpired_server_SessionHandle) ?_
  intro p e s m below meth c s₁ hx hby hml hown hnm hret0 hlk0 hZ X0 e0
  have N0 := Fr.nil n0
  have pre0 : ∀ t, Steps p.tables e below (s₁.setTop (mkF m 0 #[(vr a1), (vl q2), .second, (vl 1), .second] [])) t → Steps p.tables e below (s₁.setTop (entryFrame m #[(.ref a1), (.long q2), (.long 1)] 5)) t := fun t k => castTop (ef_au5_0 m a1 q2 (1 : Int64)) k
  have K0 := Keep.refl h0 [a1]
  have hS0 := hS
  obtain ⟨S_wMAX_LOCK_DELAY, E_wMAX_LOCK_DELAY, S_wGRANTED, E_wGRANTED, S_wQUEUED, E_wQUEUED, F_seconds_wMAX_LOCK_DELAY, F_nanos_wMAX_LOCK_DELAY, S_wZERO, E_wZERO, F_seconds_wZERO, F_nanos_wZERO⟩ := hS0
  obtain ⟨T1, X1, e1, st1⟩ := initO X0 hx hZ hown (ow hw 39 rfl) (ow hw 8 rfl) (ow hw 9 rfl) e0 (g := (mkF m 1 #[(vr a1), (vl q2), .second, (vl 1), .second] [(.ref a1)])) rfl (by rw [hml]; rfl) rfl (hb hby d5_1) (by decide) (W := 0) (by show 2 * 0 + _ ≤ _; exact Nat.le_of_eq rfl) (by decide)
  obtain ⟨T2, h2, X2, e2, W2, st2⟩ := putF X1 hx hZ hown (host := "") (Or.inl (ow hw 40 rfl)) Via.refl e1 P2 P0 (Or.inr ⟨(ow hw 41 rfl), rfl, hnm⟩) (ow hw 34 rfl) (ty := .long) (by decide) rfl rfl (g := (mkF m 6 #[(vr a1), (vl q2), .second, (vl 1), .second] [(.long q2), (.ref a1)])) rfl rfl (hb hby d5_6)
  have N2 := Fr.snoc X2 N0 P3
  have O3 : Old Z n0 h2 := O0.wr W2 P3
  have K3 : Keep h0 h2 [a1] := K0.wr W2 (Or.inl (List.mem_of_getElem? (i := 0) rfl))
  have Fw2 : Fld Z h2 a1 s3n "session" "J" (.long q2) := P2.same W2
  have f4 : Exa Z h2 a1 s3n := (P0.wr W2)
  have f5 : Fld Z h2 a1 s3n "handle" "J" (.long 0) := (P1.other W2 (Or.inr (slot_ne (Or.inr (ow hw 43 rfl)) (Or.inr (ow hw 41 rfl)) (by decide) (t := .long) (t' := .long) (by decide) (by decide))))
  obtain ⟨T6, h6, X6, e6, W6, st6⟩ := putF X2 hx hZ hown (host := "") (Or.inl (ow hw 42 rfl)) Via.refl e2 f5 f4 (Or.inr ⟨(ow hw 43 rfl), rfl, hnm⟩) (ow hw 34 rfl) (ty := .long) (by decide) rfl rfl (g := (mkF m 11 #[(vr a1), (vl q2), .second, (vl 1), .second] [(.long 1), (.ref a1)])) rfl rfl (hb hby d5_11)
  have N6 := Fr.snoc X6 N2 P3
  have O7 : Old Z n0 h6 := O3.wr W6 P3
  have K7 : Keep h0 h6 [a1] := K3.wr W6 (Or.inl (List.mem_of_getElem? (i := 0) rfl))
  have Fw6 : Fld Z h6 a1 s3n "handle" "J" (.long 1) := f5.same W6
  have f8 : Exa Z h6 a1 s3n := (f4.wr W6)
  have f9 : Fld Z h6 a1 s3n "session" "J" (.long q2) := (Fw2.other W6 (Or.inr (slot_ne (Or.inr (ow hw 41 rfl)) (Or.inr (ow hw 43 rfl)) (by decide) (t := .long) (t' := .long) (by decide) (by decide))))
  obtain ⟨fs, hr, hrun, hended, hW, hsame⟩ := X6.leave (v := none) (fun _ => rfl)
  refine ⟨_, _, pre0 _ ?_, hrun, hended, _, _, rfl, ?_, ⟨_, rfl⟩, hW, hsame.mono (by decide) (by decide)⟩
  · skip
    show Steps p.tables e below (s₁.setTop (mkF m 0 #[(vr a1), (vl q2), .second, (vl 1), .second] [])) _
    refine XS.aloadN X0.here hx rfl (hb hby d5_0) rfl rfl ?_
    refine st1 _ ?_
    refine XS.aloadN X1.here hx rfl (hb hby d5_4) rfl rfl ?_
    refine XS.lloadN X1.here hx rfl (hb hby d5_5) rfl ?_
    refine st2 _ ?_
    refine XS.aloadN X2.here hx rfl (hb hby d5_9) rfl rfl ?_
    refine XS.lloadN X2.here hx rfl (hb hby d5_10) rfl ?_
    refine st6 _ ?_
    show Steps p.tables e below (T6.setTop (mkF m 14 #[(vr a1), (vl q2), .second, (vl 1), .second] [])) _
    exact X6.returnOut hx hret0 (hb hby d5_14) hr
  · show Q_au5_0 Z wMAX_LOCK_DELAY wGRANTED wQUEUED wZERO a1 q2 h0 n0 _ T6.heap _
    rw [e6]
    exact ⟨rfl, N6, K7, f8, Fw6, f9⟩
theorem pd_1 : parseMethodDescriptor "(JJ)V" = some ⟨[.long, .long], none⟩ := by decide +kernel
theorem ef_au5_1 (m : MethodId) (x0 : Addr) (x1 : Int64) (x2 : Int64)  : entryFrame m #[(.ref x0), (.long x1), (.long x2)] 5 = mkF m 0 #[(vr x0), (vl x1), .second, (vl x2), .second] [] := by first | (simp [entryFrame, mkF, argsToLocals, Value.category]; done) | rfl
def Q_au5_1 (Z : State) (wMAX_LOCK_DELAY : Addr) (wGRANTED : Addr) (wQUEUED : Addr) (wZERO : Addr) (a1 : Addr) (q2 : Int64) (h0 : Heap) (n0 : Nat) (v : Option Value) (h : Heap) (L : List Loc) : Prop := v = none ∧ Fr n0 L ∧ Keep h0 h [a1] ∧ Exa Z h a1 s3n ∧ Fld Z h a1 s3n "handle" "J" (.long 2) ∧ Fld Z h a1 s3n "session" "J" (.long q2)
theorem au5_1 (l : Launch) (Z : State) (a0 : Array Value) (hw : ∀ d ∈ tables_1, d.before a0 Z = true) (ws : List Jvm.Cond) (wMAX_LOCK_DELAY : Addr) (wGRANTED : Addr) (wQUEUED : Addr) (wZERO : Addr) (hS : SS Z wMAX_LOCK_DELAY wGRANTED wQUEUED wZERO) (a1 : Addr) (q2 : Int64) (h0 : Heap) (n0 : Nat) (O0 : Old Z n0 h0) (P0 : Exa Z h0 a1 s3n) (P1 : Fld Z h0 a1 s3n "handle" "J" (.long 0)) (P2 : Fld Z h0 a1 s3n "session" "J" (.long 0)) (P3 : n0 ≤ a1) :
    MetB l M5 prog_89_method_1_code 5 none ws (rmk 1 0 0 12) Z h0 #[(.ref a1), (.long q2), (.long 2)] (Q_au5_1 Z wMAX_LOCK_DELAY wGRANTED wQUEUED wZERO a1 q2 h0 n0) := by
  refine own_body (plainFor_of_name pn_com_example_umpired_umpired_server_SessionHandle) ?_
  intro p e s m below meth c s₁ hx hby hml hown hnm hret0 hlk0 hZ X0 e0
  have N0 := Fr.nil n0
  have pre0 : ∀ t, Steps p.tables e below (s₁.setTop (mkF m 0 #[(vr a1), (vl q2), .second, (vl 2), .second] [])) t → Steps p.tables e below (s₁.setTop (entryFrame m #[(.ref a1), (.long q2), (.long 2)] 5)) t := fun t k => castTop (ef_au5_1 m a1 q2 (2 : Int64)) k
  have K0 := Keep.refl h0 [a1]
  have hS0 := hS
  obtain ⟨S_wMAX_LOCK_DELAY, E_wMAX_LOCK_DELAY, S_wGRANTED, E_wGRANTED, S_wQUEUED, E_wQUEUED, F_seconds_wMAX_LOCK_DELAY, F_nanos_wMAX_LOCK_DELAY, S_wZERO, E_wZERO, F_seconds_wZERO, F_nanos_wZERO⟩ := hS0
  obtain ⟨T1, X1, e1, st1⟩ := initO X0 hx hZ hown (ow hw 39 rfl) (ow hw 8 rfl) (ow hw 9 rfl) e0 (g := (mkF m 1 #[(vr a1), (vl q2), .second, (vl 2), .second] [(.ref a1)])) rfl (by rw [hml]; rfl) rfl (hb hby d5_1) (by decide) (W := 0) (by show 2 * 0 + _ ≤ _; exact Nat.le_of_eq rfl) (by decide)
  obtain ⟨T2, h2, X2, e2, W2, st2⟩ := putF X1 hx hZ hown (host := "") (Or.inl (ow hw 40 rfl)) Via.refl e1 P2 P0 (Or.inr ⟨(ow hw 41 rfl), rfl, hnm⟩) (ow hw 34 rfl) (ty := .long) (by decide) rfl rfl (g := (mkF m 6 #[(vr a1), (vl q2), .second, (vl 2), .second] [(.long q2), (.ref a1)])) rfl rfl (hb hby d5_6)
  have N2 := Fr.snoc X2 N0 P3
  have O3 : Old Z n0 h2 := O0.wr W2 P3
  have K3 : Keep h0 h2 [a1] := K0.wr W2 (Or.inl (List.mem_of_getElem? (i := 0) rfl))
  have Fw2 : Fld Z h2 a1 s3n "session" "J" (.long q2) := P2.same W2
  have f4 : Exa Z h2 a1 s3n := (P0.wr W2)
  have f5 : Fld Z h2 a1 s3n "handle" "J" (.long 0) := (P1.other W2 (Or.inr (slot_ne (Or.inr (ow hw 43 rfl)) (Or.inr (ow hw 41 rfl)) (by decide) (t := .long) (t' := .long) (by decide) (by decide))))
  obtain ⟨T6, h6, X6, e6, W6, st6⟩ := putF X2 hx hZ hown (host := "") (Or.inl (ow hw 42 rfl)) Via.refl e2 f5 f4 (Or.inr ⟨(ow hw 43 rfl), rfl, hnm⟩) (ow hw 34 rfl) (ty := .long) (by decide) rfl rfl (g := (mkF m 11 #[(vr a1), (vl q2), .second, (vl 2), .second] [(.long 2), (.ref a1)])) rfl rfl (hb hby d5_11)
  have N6 := Fr.snoc X6 N2 P3
  have O7 : Old Z n0 h6 := O3.wr W6 P3
  have K7 : Keep h0 h6 [a1] := K3.wr W6 (Or.inl (List.mem_of_getElem? (i := 0) rfl))
  have Fw6 : Fld Z h6 a1 s3n "handle" "J" (.long 2) := f5.same W6
  have f8 : Exa Z h6 a1 s3n := (f4.wr W6)
  have f9 : Fld Z h6 a1 s3n "session" "J" (.long q2) := (Fw2.other W6 (Or.inr (slot_ne (Or.inr (ow hw 41 rfl)) (Or.inr (ow hw 43 rfl)) (by decide) (t := .long) (t' := .long) (by decide) (by decide))))
  obtain ⟨fs, hr, hrun, hended, hW, hsame⟩ := X6.leave (v := none) (fun _ => rfl)
  refine ⟨_, _, pre0 _ ?_, hrun, hended, _, _, rfl, ?_, ⟨_, rfl⟩, hW, hsame.mono (by decide) (by decide)⟩
  · skip
    show Steps p.tables e below (s₁.setTop (mkF m 0 #[(vr a1), (vl q2), .second, (vl 2), .second] [])) _
    refine XS.aloadN X0.here hx rfl (hb hby d5_0) rfl rfl ?_
    refine st1 _ ?_
    refine XS.aloadN X1.here hx rfl (hb hby d5_4) rfl rfl ?_
    refine XS.lloadN X1.here hx rfl (hb hby d5_5) rfl ?_
    refine st2 _ ?_
    refine XS.aloadN X2.here hx rfl (hb hby d5_9) rfl rfl ?_
    refine XS.lloadN X2.here hx rfl (hb hby d5_10) rfl ?_
    refine st6 _ ?_
    show Steps p.tables e below (T6.setTop (mkF m 14 #[(vr a1), (vl q2), .second, (vl 2), .second] [])) _
    exact X6.returnOut hx hret0 (hb hby d5_14) hr
  · show Q_au5_1 Z wMAX_LOCK_DELAY wGRANTED wQUEUED wZERO a1 q2 h0 n0 _ T6.heap _
    rw [e6]
    exact ⟨rfl, N6, K7, f8, Fw6, f9⟩
theorem pd_2 : parseMethodDescriptor "(J)Z" = some ⟨[.long], some .boolean⟩ := by decide +kernel
theorem ef_au7_0 (m : MethodId) (x0 : Addr) (x1 : Int64) (x2 : Int32)  : entryFrame m #[(.ref x0), (.long x1), (.int x2)] 6 = mkF m 0 #[(vr x0), (vl x1), .second, (vi x2), .unset, .unset] [] := by first | (simp [entryFrame, mkF, argsToLocals, Value.category]; done) | rfl
theorem d7_0 : decode prog_84_method_14_code 0 = .ok (.aload_n 0, 1) := by decide +kernel
theorem d7_1 : decode prog_84_method_14_code 1 = .ok (.getfield 10, 3) := by decide +kernel
theorem d7_4 : decode prog_84_method_14_code 4 = .ok (.invokeinterface 81 1, 5) := by decide +kernel
theorem ef_au8_0 (m : MethodId) (x0 : Addr)  : entryFrame m #[(.ref x0)] 1 = mkF m 0 #[(vr x0)] [] := by first | (simp [entryFrame, mkF, argsToLocals, Value.category]; done) | rfl
theorem d8_0 : decode jdk_21_method_39_code 0 = .ok (.new 131, 3) := by decide +kernel
theorem d8_3 : decode jdk_21_method_39_code 3 = .ok (.dup, 1) := by decide +kernel
theorem d8_4 : decode jdk_21_method_39_code 4 = .ok (.aload_n 0, 1) := by decide +kernel
theorem d8_5 : decode jdk_21_method_39_code 5 = .ok (.invokespecial 133, 3) := by decide +kernel
theorem ef_au9_0 (m : MethodId) (x0 : Addr) (x1 : Addr)  : entryFrame m #[(.ref x0), (.ref x1)] 2 = mkF m 0 #[(vr x0), (vr x1)] [] := by first | (simp [entryFrame, mkF, argsToLocals, Value.category]; done) | rfl
theorem pn_java_util_ArrayDeque_DeqIterator : plainName "java/util/ArrayDeque$DeqIterator" = true := by first | (simp [plainName, overriddenIn]; done) | decide +kernel
theorem d9_0 : decode jdk_54_method_1_code 0 = .ok (.aload_n 0, 1) := by decide +kernel
theorem d9_1 : decode jdk_54_method_1_code 1 = .ok (.aload_n 1, 1) := by decide +kernel
theorem d9_2 : decode jdk_54_method_1_code 2 = .ok (.putfield 1, 3) := by decide +kernel
theorem d9_5 : decode jdk_54_method_1_code 5 = .ok (.aload_n 0, 1) := by decide +kernel
theorem d9_6 : decode jdk_54_method_1_code 6 = .ok (.invokespecial 7, 3) := by decide +kernel
theorem d9_9 : decode jdk_54_method_1_code 9 = .ok (.aload_n 0, 1) := by decide +kernel
theorem d9_10 : decode jdk_54_method_1_code 10 = .ok (.aload_n 0, 1) := by decide +kernel
theorem d9_11 : decode jdk_54_method_1_code 11 = .ok (.getfield 1, 3) := by decide +kernel
theorem d9_14 : decode jdk_54_method_1_code 14 = .ok (.invokevirtual 13, 3) := by decide +kernel
theorem ef_au10_0 (m : MethodId) (x0 : Addr)  : entryFrame m #[(.ref x0)] 1 = mkF m 0 #[(vr x0)] [] := by first | (simp [entryFrame, mkF, argsToLocals, Value.category]; done) | rfl
theorem d10_0 : decode jdk_21_method_37_code 0 = .ok (.aload_n 0, 1) := by decide +kernel
theorem d10_1 : decode jdk_21_method_37_code 1 = .ok (.getfield 20, 3) := by decide +kernel
theorem d10_4 : decode jdk_21_method_37_code 4 = .ok (.aload_n 0, 1) := by decide +kernel
theorem d10_5 : decode jdk_21_method_37_code 5 = .ok (.getfield 24, 3) := by decide +kernel
theorem d10_8 : decode jdk_21_method_37_code 8 = .ok (.aload_n 0, 1) := by decide +kernel
theorem d10_9 : decode jdk_21_method_37_code 9 = .ok (.getfield 3, 3) := by decide +kernel
theorem d10_12 : decode jdk_21_method_37_code 12 = .ok (.arraylength, 1) := by decide +kernel
theorem d10_13 : decode jdk_21_method_37_code 13 = .ok (.invokestatic 127, 3) := by decide +kernel
theorem ef_au11_0 (m : MethodId) (x0 : Int32) (x1 : Int32) (x2 : Int32)  : entryFrame m #[(.int x0), (.int x1), (.int x2)] 3 = mkF m 0 #[(vi x0), (vi x1), (vi x2)] [] := by first | (simp [entryFrame, mkF, argsToLocals, Value.category]; done) | rfl
theorem d11_0 : decode jdk_21_method_9_code 0 = .ok (.iload_n 0, 1) := by decide +kernel
theorem d11_1 : decode jdk_21_method_9_code 1 = .ok (.iload_n 1, 1) := by decide +kernel
theorem d11_2 : decode jdk_21_method_9_code 2 = .ok (.isub, 1) := by decide +kernel
theorem d11_3 : decode jdk_21_method_9_code 3 = .ok (.dup, 1) := by decide +kernel
theorem d11_4 : decode jdk_21_method_9_code 4 = .ok (.istore_n 0, 1) := by decide +kernel
theorem d11_5 : decode jdk_21_method_9_code 5 = .ok (.ifCond .ge 7, 3) := by decide +kernel
theorem d11_12 : decode jdk_21_method_9_code 12 = .ok (.iload_n 0, 1) := by decide +kernel
theorem d11_13 : decode jdk_21_method_9_code 13 = .ok (.ireturn, 1) := by decide +kernel
def Q_au11_0 (Z : State) (wMAX_LOCK_DELAY : Addr) (wGRANTED : Addr) (wQUEUED : Addr) (wZERO : Addr)  (h0 : Heap) (n0 : Nat) (v : Option Value) (h : Heap) (L : List Loc) : Prop := v = some (.int 0) ∧ Fr n0 L ∧ h = h0
theorem au11_0 (l : Launch) (Z : State) (a0 : Array Value) (hw : ∀ d ∈ tables_1, d.before a0 Z = true) (ws : List Jvm.Cond) (wMAX_LOCK_DELAY : Addr) (wGRANTED : Addr) (wQUEUED : Addr) (wZERO : Addr) (hS : SS Z wMAX_LOCK_DELAY wGRANTED wQUEUED wZERO)  (h0 : Heap) (n0 : Nat) (O0 : Old Z n0 h0)  :
    MetB l M6 jdk_21_method_9_code 3 (some .int) ws (rmk 0 0 0 0) Z h0 #[(.int 0), (.int 0), (.int 17)] (Q_au11_0 Z wMAX_LOCK_DELAY wGRANTED wQUEUED wZERO  h0 n0) := by
  refine own_body (plainFor_of_name pn_java_util_ArrayDeque) ?_
  intro p e s m below meth c s₁ hx hby hml hown hnm hret0 hlk0 hZ X0 e0
  have N0 := Fr.nil n0
  have pre0 : ∀ t, Steps p.tables e below (s₁.setTop (mkF m 0 #[(vi 0), (vi 0), (vi 17)] [])) t → Steps p.tables e below (s₁.setTop (entryFrame m #[(.int 0), (.int 0), (.int 17)] 3)) t := fun t k => castTop (ef_au11_0 m (0 : Int32) (0 : Int32) (17 : Int32)) k
  have hS0 := hS
  obtain ⟨S_wMAX_LOCK_DELAY, E_wMAX_LOCK_DELAY, S_wGRANTED, E_wGRANTED, S_wQUEUED, E_wQUEUED, F_seconds_wMAX_LOCK_DELAY, F_nanos_wMAX_LOCK_DELAY, S_wZERO, E_wZERO, F_seconds_wZERO, F_nanos_wZERO⟩ := hS0
  obtain ⟨fs, hr, hrun, hended, hW, hsame⟩ := X0.leave (v := some (.int 0)) (fun h => by rw [hret0] at h; cases h)
  refine ⟨_, _, pre0 _ ?_, hrun, hended, _, _, rfl, ?_, ⟨_, rfl⟩, hW, hsame.mono (by decide) (by decide)⟩
  · skip
    show Steps p.tables e below (s₁.setTop (mkF m 0 #[(vi 0), (vi 0), (vi 17)] [])) _
    refine XS.iloadN X0.here hx rfl (hb hby d11_0) rfl ?_
    refine XS.iloadN X0.here hx rfl (hb hby d11_1) rfl ?_
    refine XS.isub X0.here hx rfl (hb hby d11_2) rfl ?_
    refine XS.dup X0.here hx rfl (hb hby d11_3) rfl rfl ?_
    refine XS.istoreN X0.here hx rfl (hb hby d11_4) rfl (l' := #[(vi 0), (vi 0), (vi 17)]) rfl ?_
    refine XS.ifYes X0.here hx rfl (pc0 := 5) (pc' := 12) rfl (hb hby d11_5) rfl ((if0 _ _).trans (flt (by decide : ¬ ((0 : Int32) < (0 : Int32)))).2.1) (by decide) (by decide) ?_
    refine XS.iloadN X0.here hx rfl (hb hby d11_12) rfl ?_
    exact retI X0 hx hret0 (hb hby d11_13) hr
  · show Q_au11_0 Z wMAX_LOCK_DELAY wGRANTED wQUEUED wZERO  h0 n0 _ s₁.heap _
    rw [e0]
    exact ⟨rfl, N0, rfl⟩
theorem pd_3 : parseMethodDescriptor "(III)I" = some ⟨[.int, .int, .int], some .int⟩ := by decide +kernel
theorem d10_16 : decode jdk_21_method_37_code 16 = .ok (.ireturn, 1) := by decide +kernel
def Q_au10_0 (Z : State) (wMAX_LOCK_DELAY : Addr) (wGRANTED : Addr) (wQUEUED : Addr) (wZERO : Addr) (a1 : Addr) (a2 : Addr) (k3 : ClassId) (h0 : Heap) (n0 : Nat) (v : Option Value) (h : Heap) (L : List Loc) : Prop := v = some (.int 0) ∧ Fr n0 L ∧ h = h0
theorem au10_0 (l : Launch) (Z : State) (a0 : Array Value) (hw : ∀ d ∈ tables_1, d.before a0 Z = true) (ws : List Jvm.Cond) (wMAX_LOCK_DELAY : Addr) (wGRANTED : Addr) (wQUEUED : Addr) (wZERO : Addr) (hS : SS Z wMAX_LOCK_DELAY wGRANTED wQUEUED wZERO) (a1 : Addr) (a2 : Addr) (k3 : ClassId) (h0 : Heap) (n0 : Nat) (O0 : Old Z n0 h0) (P1 : Fld Z h0 a1 s6n "elements" s7n (.ref a2)) (P2 : Fld Z h0 a1 s6n "head" "I" (.int 0)) (P3 : Fld Z h0 a1 s6n "tail" "I" (.int 0)) (P4 : Arv Z h0 a2 k3 (.object s8n) (17 : Int32) ([.null, .null, .null, .null, .null, .null, .null, .null, .null, .null, .null, .null, .null, .null, .null, .null, .null]) .null) :
    MetB l M7 jdk_21_method_37_code 1 (some .int) ws (rmk 1 0 0 14) Z h0 #[(.ref a1)] (Q_au10_0 Z wMAX_LOCK_DELAY wGRANTED wQUEUED wZERO a1 a2 k3 h0 n0) := by
  refine own_body (plainFor_of_name pn_java_util_ArrayDeque) ?_
  intro p e s m below meth c s₁ hx hby hml hown hnm hret0 hlk0 hZ X0 e0
  have N0 := Fr.nil n0
  have pre0 : ∀ t, Steps p.tables e below (s₁.setTop (mkF m 0 #[(vr a1)] [])) t → Steps p.tables e below (s₁.setTop (entryFrame m #[(.ref a1)] 1)) t := fun t k => castTop (ef_au10_0 m a1) k
  have hS0 := hS
  obtain ⟨S_wMAX_LOCK_DELAY, E_wMAX_LOCK_DELAY, S_wGRANTED, E_wGRANTED, S_wQUEUED, E_wQUEUED, F_seconds_wMAX_LOCK_DELAY, F_nanos_wMAX_LOCK_DELAY, S_wZERO, E_wZERO, F_seconds_wZERO, F_nanos_wZERO⟩ := hS0
  obtain ⟨T1, X1, e1, st1⟩ := getF X0 hx hZ hown (host := "") (Or.inl (ow hw 81 rfl)) Via.refl e0 P3 (g := (mkF m 1 #[(vr a1)] [(.ref a1)])) rfl rfl (hb hby d10_1)
  obtain ⟨T2, X2, e2, st2⟩ := getF X1 hx hZ hown (host := "") (Or.inl (ow hw 83 rfl)) Via.refl e1 P2 (g := (mkF m 5 #[(vr a1)] [(.ref a1), (.int 0)])) rfl rfl (hb hby d10_5)
  obtain ⟨T3, X3, e3, st3⟩ := getF X2 hx hZ hown (host := "") (Or.inl (ow hw 25 rfl)) Via.refl e2 P1 (g := (mkF m 9 #[(vr a1)] [(.ref a1), (.int 0), (.int 0)])) rfl rfl (hb hby d10_9)
  obtain ⟨cl4, Ar4, -, Sz4, Nn4, -, -⟩ := (id P4)
  obtain ⟨_, _, ⟨T5, L5, k5, n5⟩, -, X5, ⟨Lc5, hQ5, l5, y5, z5⟩, st5⟩ := Jvm.LawKit.callS X3 hx (y := M6) hown (mvT hZ (ow hw 85 rfl)) (mvT hZ (ow hw 86 rfl)) (mvT hZ (ow hw 12 rfl)) (mvT hZ (ow hw 87 rfl)) (by decide) (backOf (W := 0) (au11_0 l Z a0 hw [] wMAX_LOCK_DELAY wGRANTED wQUEUED wZERO hS  h0 n0 O0 ) hZ (ow hw 87 rfl) (ow hw 12 rfl) (by decide) (by decide)) (g := (mkF m 13 #[(vr a1)] [(.int 17), (.int 0), (.int 0)])) rfl (by rw [hml]; rfl) (argsL := [(.int 0), (.int 0), (.int 17)]) (rest := []) (lenOf pd_3 rfl) rfl (by show 2 * 0 + _ ≤ _; exact Nat.le_of_eq rfl) (hb hby d10_13) (fun _ _ => ⟨rfl, e3, (by decide : 0 + 0 ≤ _), (by decide : 0 + 0 ≤ _)⟩)
  dsimp only [Pt.U, Pt.locs, Pt.cells, Pt.slots] at X5 l5 y5 z5 st5 hQ5
  subst l5 y5 z5
  obtain ⟨rfl, Nq5, K5q⟩ := hQ5
  have N5 := Fr.app N0 Nq5
  obtain ⟨fs, hr, hrun, hended, hW, hsame⟩ := X5.leave (v := some (.int 0)) (fun h => by rw [hret0] at h; cases h)
  refine ⟨_, _, pre0 _ ?_, hrun, hended, _, _, rfl, ?_, ⟨_, rfl⟩, hW, hsame.mono (by decide) (by decide)⟩
  · skip
    show Steps p.tables e below (s₁.setTop (mkF m 0 #[(vr a1)] [])) _
    refine XS.aloadN X0.here hx rfl (hb hby d10_0) rfl rfl ?_
    refine st1 _ ?_
    refine XS.aloadN X1.here hx rfl (hb hby d10_4) rfl rfl ?_
    refine st2 _ ?_
    refine XS.aloadN X2.here hx rfl (hb hby d10_8) rfl rfl ?_
    refine st3 _ ?_
    refine X3.arraylength hx (by rw [e3]; exact Ar4.1) (State.isArrayOf_alike hZ.alike Ar4.2.1) (g := (mkF m 12 #[(vr a1)] [(.ref a2), (.int 0), (.int 0)])) rfl rfl (hb hby d10_12) _ ?_
    rw [len_of Sz4 Nn4]
    refine st5 _ ?_
    show Steps p.tables e below (T5.setTop (mkF m 16 #[(vr a1)] [(.int 0)])) _
    exact retI X5 hx hret0 (hb hby d10_16) hr
  · show Q_au10_0 Z wMAX_LOCK_DELAY wGRANTED wQUEUED wZERO a1 a2 k3 h0 n0 _ T5.heap _
    rw [K5q]
    exact ⟨rfl, N5, rfl⟩
theorem pd_4 : parseMethodDescriptor "()I" = some ⟨[], some .int⟩ := by decide +kernel
theorem d9_17 : decode jdk_54_method_1_code 17 = .ok (.putfield 19, 3) := by decide +kernel
theorem d9_20 : decode jdk_54_method_1_code 20 = .ok (.aload_n 0, 1) := by decide +kernel
theorem d9_21 : decode jdk_54_method_1_code 21 = .ok (.iconst (-1), 1) := by decide +kernel
theorem d9_22 : decode jdk_54_method_1_code 22 = .ok (.putfield 23, 3) := by decide +kernel
theorem d9_25 : decode jdk_54_method_1_code 25 = .ok (.aload_n 0, 1) := by decide +kernel
theorem d9_26 : decode jdk_54_method_1_code 26 = .ok (.aload_n 1, 1) := by decide +kernel
theorem d9_27 : decode jdk_54_method_1_code 27 = .ok (.getfield 26, 3) := by decide +kernel
theorem d9_30 : decode jdk_54_method_1_code 30 = .ok (.putfield 29, 3) := by decide +kernel
theorem d9_33 : decode jdk_54_method_1_code 33 = .ok (.return_, 1) := by decide +kernel
def Q_au9_0 (Z : State) (wMAX_LOCK_DELAY : Addr) (wGRANTED : Addr) (wQUEUED : Addr) (wZERO : Addr) (a1 : Addr) (a2 : Addr) (a3 : Addr) (k4 : ClassId) (h0 : Heap) (n0 : Nat) (v : Option Value) (h : Heap) (L : List Loc) : Prop := v = none ∧ Fr n0 L ∧ Keep h0 h [a1] ∧ Exa Z h a1 s13n ∧ Fld Z h a1 s13n "cursor" "I" (.int 0) ∧ Fld Z h a1 s13n "lastRet" "I" (.int (-1 : Int32)) ∧ Fld Z h a1 s13n "remaining" "I" (.int 0) ∧ Fld Z h a1 s13n "this$0" s14n (.ref a2)
theorem au9_0 (l : Launch) (Z : State) (a0 : Array Value) (hw : ∀ d ∈ tables_1, d.before a0 Z = true) (ws : List Jvm.Cond) (wMAX_LOCK_DELAY : Addr) (wGRANTED : Addr) (wQUEUED : Addr) (wZERO : Addr) (hS : SS Z wMAX_LOCK_DELAY wGRANTED wQUEUED wZERO) (a1 : Addr) (a2 : Addr) (a3 : Addr) (k4 : ClassId) (h0 : Heap) (n0 : Nat) (O0 : Old Z n0 h0) (P0 : Exa Z h0 a1 s13n) (P1 : Fld Z h0 a1 s13n "cursor" "I" (.int 0)) (P2 : Fld Z h0 a1 s13n "lastRet" "I" (.int 0)) (P3 : Fld Z h0 a1 s13n "remaining" "I" (.int 0)) (P4 : Fld Z h0 a1 s13n "this$0" s14n .null) (P5 : Exa Z h0 a2 s6n) (P6 : Fld Z h0 a2 s6n "elements" s7n (.ref a3)) (P7 : Fld Z h0 a2 s6n "head" "I" (.int 0)) (P8 : Fld Z h0 a2 s6n "tail" "I" (.int 0)) (P9 : Arv Z h0 a3 k4 (.object s8n) (17 : Int32) ([.null, .null, .null, .null, .null, .null, .null, .null, .null, .null, .null, .null, .null, .null, .null, .null, .null]) .null) (P12 : n0 ≤ a1) (P15 : a1 ≠ a2) (P16 : a1 ≠ a3) :
    MetB l M8 jdk_54_method_1_code 2 none ws (rmk 2 0 0 27) Z h0 #[(.ref a1), (.ref a2)] (Q_au9_0 Z wMAX_LOCK_DELAY wGRANTED wQUEUED wZERO a1 a2 a3 k4 h0 n0) := by
  refine own_body (plainFor_of_name pn_java_util_ArrayDeque_DeqIterator) ?_
  intro p e s m below meth c s₁ hx hby hml hown hnm hret0 hlk0 hZ X0 e0
  have N0 := Fr.nil n0
  have pre0 : ∀ t, Steps p.tables e below (s₁.setTop (mkF m 0 #[(vr a1), (vr a2)] [])) t → Steps p.tables e below (s₁.setTop (entryFrame m #[(.ref a1), (.ref a2)] 2)) t := fun t k => castTop (ef_au9_0 m a1 a2) k
  have K0 := Keep.refl h0 [a1]
  have hS0 := hS
  obtain ⟨S_wMAX_LOCK_DELAY, E_wMAX_LOCK_DELAY, S_wGRANTED, E_wGRANTED, S_wQUEUED, E_wQUEUED, F_seconds_wMAX_LOCK_DELAY, F_nanos_wMAX_LOCK_DELAY, S_wZERO, E_wZERO, F_seconds_wZERO, F_nanos_wZERO⟩ := hS0
  obtain ⟨T1, h1, X1, e1, W1, st1⟩ := putF X0 hx hZ hown (host := "") (Or.inl (ow hw 73 rfl)) Via.refl e0 P4 P0 (Or.inr ⟨(ow hw 74 rfl), rfl, hnm⟩) (ow hw 67 rfl) (ty := (.object s6n)) (by decide) rfl rfl (g := (mkF m 2 #[(vr a1), (vr a2)] [(.ref a2), (.ref a1)])) rfl rfl (hb hby d9_2)
  have N1 := Fr.snoc X1 N0 P12
  have O2 : Old Z n0 h1 := O0.wr W1 P12
  have K2 : Keep h0 h1 [a1] := K0.wr W1 (Or.inl (List.mem_of_getElem? (i := 0) rfl))
  have Fw1 : Fld Z h1 a1 s13n "this$0" s14n (.ref a2) := P4.same W1
  obtain ⟨T3, X3, e3, st3⟩ := initO X1 hx hZ hown (ow hw 75 rfl) (ow hw 8 rfl) (ow hw 9 rfl) e1 (g := (mkF m 6 #[(vr a1), (vr a2)] [(.ref a1)])) rfl (by rw [hml]; rfl) rfl (hb hby d9_6) (by decide) (W := 0) (by show 2 * 0 + _ ≤ _; exact Nat.le_of_eq rfl) (by decide)
  obtain ⟨T4, X4, e4, st4⟩ := getF X3 hx hZ hown (host := "") (Or.inl (ow hw 73 rfl)) Via.refl e3 Fw1 (g := (mkF m 11 #[(vr a1), (vr a2)] [(.ref a1), (.ref a1)])) rfl rfl (hb hby d9_11)
  have f5 : Fld Z h1 a2 s6n "elements" s7n (.ref a3) := (P6.other W1 (Or.inl (Ne.symm P15)))
  have f6 : Fld Z h1 a2 s6n "head" "I" (.int 0) := (P7.other W1 (Or.inl (Ne.symm P15)))
  have f7 : Fld Z h1 a2 s6n "tail" "I" (.int 0) := (P8.other W1 (Or.inl (Ne.symm P15)))
  have f8 : Arv Z h1 a3 k4 (.object s8n) (17 : Int32) ([.null, .null, .null, .null, .null, .null, .null, .null, .null, .null, .null, .null, .null, .null, .null, .null, .null]) .null := (P9.other W1 (Ne.symm P16))
  have f10 : Exa Z h1 a2 s6n := (P5.wr W1)
  obtain ⟨cq9, kq9, q9a, q9b, q9c⟩ := isOf hZ e4 f10
  obtain ⟨_, _, ⟨T9, L9, k9, n9⟩, -, X9, ⟨Lc9, hQ9, l9, y9, z9⟩, st9⟩ := X4.virtualBack hx (y := M7) (z := M7) hown (mvT hZ (ow hw 76 rfl)) (mvT hZ (ow hw 77 rfl)) (notFace_of_selects (args := #[]) (mvT hZ (ow hw 79 rfl))) (mvT hZ (ow hw 79 rfl)) (mvT hZ (ow hw 78 rfl)) (by decide) (backOf (W := 1) (au10_0 l Z a0 hw [] wMAX_LOCK_DELAY wGRANTED wQUEUED wZERO hS a2 a3 k4 h1 n0 O2 f5 f6 f7 f8) hZ (ow hw 80 rfl) (ow hw 12 rfl) (by decide) (by decide)) q9a q9c (g := (mkF m 14 #[(vr a1), (vr a2)] [(.ref a2), (.ref a1)])) rfl (by rw [hml]; rfl) (Steps.refl _) (argsL := []) (rest := [(.ref a1)]) (lenOf pd_4 rfl) rfl (by show 2 * 0 + _ ≤ _; exact Nat.le_of_eq rfl) (hb hby d9_14) (fun _ _ => ⟨rfl, e4, (by decide : 0 + 0 ≤ _), (by decide : 0 + 0 ≤ _)⟩)
  dsimp only [Pt.U, Pt.locs, Pt.cells, Pt.slots] at X9 l9 y9 z9 st9 hQ9
  subst l9 y9 z9
  obtain ⟨rfl, Nq9, K9q⟩ := hQ9
  have N9 := Fr.app N1 Nq9
  have f11 : Exa Z h1 a1 s13n := (P0.wr W1)
  have f12 : Fld Z h1 a1 s13n "remaining" "I" (.int 0) := (P3.other W1 (Or.inr (slot_ne (Or.inl (ow hw 89 rfl)) (Or.inr (ow hw 74 rfl)) (by decide) (t := .int) (t' := (.object s6n)) (by decide) (by decide))))
  obtain ⟨T13, h13, X13, e13, W13, st13⟩ := putF X9 hx hZ hown (host := "") (Or.inl (ow hw 88 rfl)) Via.refl K9q f12 f11 (Or.inl (ow hw 89 rfl)) (ow hw 67 rfl) (ty := .int) (by decide) rfl rfl (g := (mkF m 17 #[(vr a1), (vr a2)] [(.int 0), (.ref a1)])) rfl rfl (hb hby d9_17)
  have N13 := Fr.snoc X13 N9 P12
  have O14 : Old Z n0 h13 := O2.wr W13 P12
  have K14 : Keep h0 h13 [a1] := K2.wr W13 (Or.inl (List.mem_of_getElem? (i := 0) rfl))
  have Fw13 : Fld Z h13 a1 s13n "remaining" "I" (.int 0) := f12.same W13
  have f15 : Exa Z h13 a1 s13n := (f11.wr W13)
  have f16 : Fld Z h13 a1 s13n "lastRet" "I" (.int 0) := ((P2.other W1 (Or.inr (slot_ne (Or.inl (ow hw 91 rfl)) (Or.inr (ow hw 74 rfl)) (by decide) (t := .int) (t' := (.object s6n)) (by decide) (by decide)))).other W13 (Or.inr (slot_ne (Or.inl (ow hw 91 rfl)) (Or.inl (ow hw 89 rfl)) (by decide) (t := .int) (t' := .int) (by decide) (by decide))))
  obtain ⟨T17, h17, X17, e17, W17, st17⟩ := putF X13 hx hZ hown (host := "") (Or.inl (ow hw 90 rfl)) Via.refl e13 f16 f15 (Or.inl (ow hw 91 rfl)) (ow hw 67 rfl) (ty := .int) (by decide) rfl rfl (g := (mkF m 22 #[(vr a1), (vr a2)] [(.int (-1 : Int32)), (.ref a1)])) rfl rfl (hb hby d9_22)
  have N17 := Fr.snoc X17 N13 P12
  have O18 : Old Z n0 h17 := O14.wr W17 P12
  have K18 : Keep h0 h17 [a1] := K14.wr W17 (Or.inl (List.mem_of_getElem? (i := 0) rfl))
  have Fw17 : Fld Z h17 a1 s13n "lastRet" "I" (.int (-1 : Int32)) := f16.same W17
  have f19 : Fld Z h17 a2 s6n "head" "I" (.int 0) := ((f6.other W13 (Or.inl (Ne.symm P15))).other W17 (Or.inl (Ne.symm P15)))
  obtain ⟨T20, X20, e20, st20⟩ := getF X17 hx hZ hown (host := "") (Or.inl (ow hw 92 rfl)) Via.refl e17 f19 (g := (mkF m 27 #[(vr a1), (vr a2)] [(.ref a2), (.ref a1)])) rfl rfl (hb hby d9_27)
  have f21 : Exa Z h17 a1 s13n := (f15.wr W17)
  have f22 : Fld Z h17 a1 s13n "cursor" "I" (.int 0) := (((P1.other W1 (Or.inr (slot_ne (Or.inl (ow hw 94 rfl)) (Or.inr (ow hw 74 rfl)) (by decide) (t := .int) (t' := (.object s6n)) (by decide) (by decide)))).other W13 (Or.inr (slot_ne (Or.inl (ow hw 94 rfl)) (Or.inl (ow hw 89 rfl)) (by decide) (t := .int) (t' := .int) (by decide) (by decide)))).other W17 (Or.inr (slot_ne (Or.inl (ow hw 94 rfl)) (Or.inl (ow hw 91 rfl)) (by decide) (t := .int) (t' := .int) (by decide) (by decide))))
  obtain ⟨T23, h23, X23, e23, W23, st23⟩ := putF X20 hx hZ hown (host := "") (Or.inl (ow hw 93 rfl)) Via.refl e20 f22 f21 (Or.inl (ow hw 94 rfl)) (ow hw 67 rfl) (ty := .int) (by decide) rfl rfl (g := (mkF m 30 #[(vr a1), (vr a2)] [(.int 0), (.ref a1)])) rfl rfl (hb hby d9_30)
  have N23 := Fr.snoc X23 N17 P12
  have O24 : Old Z n0 h23 := O18.wr W23 P12
  have K24 : Keep h0 h23 [a1] := K18.wr W23 (Or.inl (List.mem_of_getElem? (i := 0) rfl))
  have Fw23 : Fld Z h23 a1 s13n "cursor" "I" (.int 0) := f22.same W23
  have f25 : Exa Z h23 a1 s13n := (f21.wr W23)
  have f26 : Fld Z h23 a1 s13n "lastRet" "I" (.int (-1 : Int32)) := (Fw17.other W23 (Or.inr (slot_ne (Or.inl (ow hw 91 rfl)) (Or.inl (ow hw 94 rfl)) (by decide) (t := .int) (t' := .int) (by decide) (by decide))))
  have f27 : Fld Z h23 a1 s13n "remaining" "I" (.int 0) := ((Fw13.other W17 (Or.inr (slot_ne (Or.inl (ow hw 89 rfl)) (Or.inl (ow hw 91 rfl)) (by decide) (t := .int) (t' := .int) (by decide) (by decide)))).other W23 (Or.inr (slot_ne (Or.inl (ow hw 89 rfl)) (Or.inl (ow hw 94 rfl)) (by decide) (t := .int) (t' := .int) (by decide) (by decide))))
  have f28 : Fld Z h23 a1 s13n "this$0" s14n (.ref a2) := (((Fw1.other W13 (Or.inr (slot_ne (Or.inr (ow hw 74 rfl)) (Or.inl (ow hw 89 rfl)) (by decide) (t := (.object s6n)) (t' := .int) (by decide) (by decide)))).other W17 (Or.inr (slot_ne (Or.inr (ow hw 74 rfl)) (Or.inl (ow hw 91 rfl)) (by decide) (t := (.object s6n)) (t' := .int) (by decide) (by decide)))).other W23 (Or.inr (slot_ne (Or.inr (ow hw 74 rfl)) (Or.inl (ow hw 94 rfl)) (by decide) (t := (.object s6n)) (t' := .int) (by decide) (by decide))))
  obtain ⟨fs, hr, hrun, hended, hW, hsame⟩ := X23.leave (v := none) (fun _ => rfl)
  refine ⟨_, _, pre0 _ ?_, hrun, hended, _, _, rfl, ?_, ⟨_, rfl⟩, hW, hsame.mono (by decide) (by decide)⟩
  · skip
    show Steps p.tables e below (s₁.setTop (mkF m 0 #[(vr a1), (vr a2)] [])) _
    refine XS.aloadN X0.here hx rfl (hb hby d9_0) rfl rfl ?_
    refine XS.aloadN X0.here hx rfl (hb hby d9_1) rfl rfl ?_
    refine st1 _ ?_
    refine XS.aloadN X1.here hx rfl (hb hby d9_5) rfl rfl ?_
    refine st3 _ ?_
    refine XS.aloadN X3.here hx rfl (hb hby d9_9) rfl rfl ?_
    refine XS.aloadN X3.here hx rfl (hb hby d9_10) rfl rfl ?_
    refine st4 _ ?_
    show Steps p.tables e below (T4.setTop (mkF m 14 #[(vr a1), (vr a2)] [(.ref a2), (.ref a1)])) _
    refine st9.trans ?_
    refine st13 _ ?_
    refine XS.aloadN X13.here hx rfl (hb hby d9_20) rfl rfl ?_
    refine XS.iconst X13.here hx rfl (hb hby d9_21) ?_
    refine st17 _ ?_
    refine XS.aloadN X17.here hx rfl (hb hby d9_25) rfl rfl ?_
    refine XS.aloadN X17.here hx rfl (hb hby d9_26) rfl rfl ?_
    refine st20 _ ?_
    show Steps p.tables e below (T20.setTop (mkF m 30 #[(vr a1), (vr a2)] [(.int 0), (.ref a1)])) _
    refine st23 _ ?_
    exact X23.returnOut hx hret0 (hb hby d9_33) hr
  · show Q_au9_0 Z wMAX_LOCK_DELAY wGRANTED wQUEUED wZERO a1 a2 a3 k4 h0 n0 _ T23.heap _
    rw [e23]
    exact ⟨rfl, N23, K24, f25, Fw23, f26, f27, f28⟩
theorem pd_5 : parseMethodDescriptor "(Ljava/util/ArrayDeque;)V" = some ⟨[(.object "java/util/ArrayDeque")], none⟩ := by decide +kernel
theorem d8_8 : decode jdk_21_method_39_code 8 = .ok (.areturn, 1) := by decide +kernel
def Q_au8_0 (Z : State) (wMAX_LOCK_DELAY : Addr) (wGRANTED : Addr) (wQUEUED : Addr) (wZERO : Addr) (a1 : Addr) (a2 : Addr) (k3 : ClassId) (h0 : Heap) (n0 : Nat) (v : Option Value) (h : Heap) (L : List Loc) : Prop := ∃ (e1 : Addr), v = some (.ref e1) ∧ Fr n0 L ∧ Keep h0 h [] ∧ h0.size ≤ e1 ∧ Exa Z h e1 s13n ∧ Fld Z h e1 s13n "cursor" "I" (.int 0) ∧ Fld Z h e1 s13n "lastRet" "I" (.int (-1 : Int32)) ∧ Fld Z h e1 s13n "remaining" "I" (.int 0) ∧ Fld Z h e1 s13n "this$0" s14n (.ref a1)
theorem au8_0 (l : Launch) (Z : State) (a0 : Array Value) (hw : ∀ d ∈ tables_1, d.before a0 Z = true) (ws : List Jvm.Cond) (wMAX_LOCK_DELAY : Addr) (wGRANTED : Addr) (wQUEUED : Addr) (wZERO : Addr) (hS : SS Z wMAX_LOCK_DELAY wGRANTED wQUEUED wZERO) (a1 : Addr) (a2 : Addr) (k3 : ClassId) (h0 : Heap) (n0 : Nat) (O0 : Old Z n0 h0) (P0 : Exa Z h0 a1 s6n) (P1 : Fld Z h0 a1 s6n "elements" s7n (.ref a2)) (P2 : Fld Z h0 a1 s6n "head" "I" (.int 0)) (P3 : Fld Z h0 a1 s6n "tail" "I" (.int 0)) (P4 : Arv Z h0 a2 k3 (.object s8n) (17 : Int32) ([.null, .null, .null, .null, .null, .null, .null, .null, .null, .null, .null, .null, .null, .null, .null, .null, .null]) .null) :
    MetB l M9 jdk_21_method_39_code 1 (some (.object "java/util/Iterator")) ws (rmk 3 1 4 41) Z h0 #[(.ref a1)] (Q_au8_0 Z wMAX_LOCK_DELAY wGRANTED wQUEUED wZERO a1 a2 k3 h0 n0) := by
  refine own_body (plainFor_of_name pn_java_util_ArrayDeque) ?_
  intro p e s m below meth c s₁ hx hby hml hown hnm hret0 hlk0 hZ X0 e0
  have N0 := Fr.nil n0
  have pre0 : ∀ t, Steps p.tables e below (s₁.setTop (mkF m 0 #[(vr a1)] [])) t → Steps p.tables e below (s₁.setTop (entryFrame m #[(.ref a1)] 1)) t := fun t k => castTop (ef_au8_0 m a1) k
  have K0 := Keep.refl h0 []
  have hS0 := hS
  obtain ⟨S_wMAX_LOCK_DELAY, E_wMAX_LOCK_DELAY, S_wGRANTED, E_wGRANTED, S_wQUEUED, E_wQUEUED, F_seconds_wMAX_LOCK_DELAY, F_nanos_wMAX_LOCK_DELAY, S_wZERO, E_wZERO, F_seconds_wZERO, F_nanos_wZERO⟩ := hS0
  obtain ⟨T1, h1, X1, e1, E1, A1, D1, -, st1⟩ := newO X0 hx hZ hown (ow hw 66 rfl) (ow hw 67 rfl) (ow hw 68 rfl) e0 (g := (mkF m 0 #[(vr a1)] [])) rfl (hb hby d8_0) (by decide) (by decide)
  obtain ⟨b1, g1⟩ : ∃ z, z = h0.size := ⟨_, rfl⟩
  rw [← g1] at A1 D1 st1
  have ne2 : a1 ≠ b1 := Nat.ne_of_lt (Nat.lt_of_lt_of_le P0.lt (Nat.le_of_eq g1.symm))
  have ne3 : a2 ≠ b1 := Nat.ne_of_lt (Nat.lt_of_lt_of_le P4.lt (Nat.le_of_eq g1.symm))
  have g4 : n0 ≤ b1 := Nat.le_trans (own_sz O0) (Nat.le_of_eq g1.symm)
  have sz5 : h0.size ≤ b1 := Nat.le_trans K0.1 (Nat.le_of_eq g1.symm)
  have O6 : Old Z n0 h1 := O0.ext E1
  have K6 : Keep h0 h1 [] := K0.ext E1
  have f7 : Fld Z h1 b1 s13n "this$0" s14n .null := D1 (Or.inr (ow hw 74 rfl)) (ty := (.object s6n)) (by decide)
  have f8 : Fld Z h1 b1 s13n "remaining" "I" (.int 0) := D1 (Or.inl (ow hw 89 rfl)) (ty := .int) (by decide)
  have f9 : Fld Z h1 b1 s13n "lastRet" "I" (.int 0) := D1 (Or.inl (ow hw 91 rfl)) (ty := .int) (by decide)
  have f10 : Fld Z h1 b1 s13n "cursor" "I" (.int 0) := D1 (Or.inl (ow hw 94 rfl)) (ty := .int) (by decide)
  have f11 : Exa Z h1 a1 s6n := (P0.ext E1)
  have f12 : Fld Z h1 a1 s6n "elements" s7n (.ref a2) := (P1.ext E1)
  have f13 : Fld Z h1 a1 s6n "head" "I" (.int 0) := (P2.ext E1)
  have f14 : Fld Z h1 a1 s6n "tail" "I" (.int 0) := (P3.ext E1)
  have f15 : Arv Z h1 a2 k3 (.object s8n) (17 : Int32) ([.null, .null, .null, .null, .null, .null, .null, .null, .null, .null, .null, .null, .null, .null, .null, .null, .null]) .null := (P4.ext E1)
  obtain ⟨_, _, ⟨T16, L16, k16, n16⟩, -, X16, ⟨Lc16, hQ16, l16, y16, z16⟩, st16⟩ := X1.specialBack hx (y := M8) rfl hown (mvT hZ (ow hw 69 rfl)) (mvT hZ (ow hw 70 rfl)) (mvT hZ (ow hw 72 rfl)) (by decide) (backOf (W := 1) (au9_0 l Z a0 hw [] wMAX_LOCK_DELAY wGRANTED wQUEUED wZERO hS b1 a1 a2 k3 h1 n0 O6 A1 f10 f9 f8 f7 f11 f12 f13 f14 f15 g4 (Ne.symm ne2) (Ne.symm ne3)) hZ (ow hw 72 rfl) (ow hw 68 rfl) (by decide) (by decide)) (g := (mkF m 5 #[(vr a1)] [(.ref a1), (.ref b1), (.ref b1)])) rfl (by rw [hml]; rfl) (Steps.refl _) (a := b1) (argsL := [(.ref a1)]) (rest := [(.ref b1)]) (lenOf pd_5 rfl) rfl (by show 2 * 0 + _ ≤ _; exact Nat.le_of_eq rfl) (hb hby d8_5) (fun _ _ => ⟨rfl, e1, (by decide : 1 + 0 ≤ _), (by decide : 4 + 0 ≤ _)⟩)
  dsimp only [Pt.U, Pt.locs, Pt.cells, Pt.slots] at X16 l16 y16 z16 st16 hQ16
  subst l16 y16 z16
  obtain ⟨rfl, Nq16, K16q, p16_0, p16_1, p16_2, p16_3, p16_4⟩ := hQ16
  have N16 := Fr.app N0 Nq16
  have O17 : Old Z n0 T16.heap := O6.keep K16q (allS g4 all0)
  have K17 : Keep h0 T16.heap [] := K6.trans K16q (allS (Or.inr sz5) all0)
  obtain ⟨fs, hr, hrun, hended, hW, hsame⟩ := X16.leave (v := some (.ref b1)) (fun h => by rw [hret0] at h; cases h)
  refine ⟨_, _, pre0 _ ?_, hrun, hended, _, _, rfl, ?_, ⟨_, rfl⟩, hW, hsame.mono (by decide) (by decide)⟩
  · skip
    show Steps p.tables e below (s₁.setTop (mkF m 0 #[(vr a1)] [])) _
    refine st1 _ ?_
    refine XS.dup X1.here hx rfl (hb hby d8_3) rfl rfl ?_
    refine XS.aloadN X1.here hx rfl (hb hby d8_4) rfl rfl ?_
    refine st16.trans ?_
    jvm_step X16.here [X16.here.top, hx, (hb hby d8_8), X16.method', hret0, Value.isRef, FieldType.isReference]
    first | (intro acts; rw [hr _ acts rfl rfl rfl]) | rw [hr _ _ rfl rfl rfl]
    exact Steps.refl _
  · show Q_au8_0 Z wMAX_LOCK_DELAY wGRANTED wQUEUED wZERO a1 a2 k3 h0 n0 _ T16.heap _
    exact ⟨b1, rfl, N16, K17, sz5, p16_0, p16_1, p16_2, p16_3, p16_4⟩
theorem pd_6 : parseMethodDescriptor "()Ljava/util/Iterator;" = some ⟨[], some (.object "java/util/Iterator")⟩ := by decide +kernel
theorem d7_9 : decode prog_84_method_14_code 9 = .ok (.astore 4, 2) := by decide +kernel
theorem d7_11 : decode prog_84_method_14_code 11 = .ok (.aload 4, 2) := by decide +kernel
theorem d7_13 : decode prog_84_method_14_code 13 = .ok (.invokeinterface 85 1, 5) := by decide +kernel
theorem ef_au12_0 (m : MethodId) (x0 : Addr)  : entryFrame m #[(.ref x0)] 1 = mkF m 0 #[(vr x0)] [] := by first | (simp [entryFrame, mkF, argsToLocals, Value.category]; done) | rfl
theorem d12_0 : decode jdk_54_method_2_code 0 = .ok (.aload_n 0, 1) := by decide +kernel
theorem d12_1 : decode jdk_54_method_2_code 1 = .ok (.getfield 19, 3) := by decide +kernel
theorem d12_4 : decode jdk_54_method_2_code 4 = .ok (.ifCond .le 7, 3) := by decide +kernel
theorem d12_11 : decode jdk_54_method_2_code 11 = .ok (.iconst 0, 1) := by decide +kernel
theorem d12_12 : decode jdk_54_method_2_code 12 = .ok (.ireturn, 1) := by decide +kernel
def Q_au12_0 (Z : State) (wMAX_LOCK_DELAY : Addr) (wGRANTED : Addr) (wQUEUED : Addr) (wZERO : Addr) (a1 : Addr) (h0 : Heap) (n0 : Nat) (v : Option Value) (h : Heap) (L : List Loc) : Prop := v = some (.int 0) ∧ Fr n0 L ∧ h = h0
theorem au12_0 (l : Launch) (Z : State) (a0 : Array Value) (hw : ∀ d ∈ tables_1, d.before a0 Z = true) (ws : List Jvm.Cond) (wMAX_LOCK_DELAY : Addr) (wGRANTED : Addr) (wQUEUED : Addr) (wZERO : Addr) (hS : SS Z wMAX_LOCK_DELAY wGRANTED wQUEUED wZERO) (a1 : Addr) (h0 : Heap) (n0 : Nat) (O0 : Old Z n0 h0) (P3 : Fld Z h0 a1 s13n "remaining" "I" (.int 0)) :
    MetB l M10 jdk_54_method_2_code 1 (some .boolean) ws (rmk 0 0 0 0) Z h0 #[(.ref a1)] (Q_au12_0 Z wMAX_LOCK_DELAY wGRANTED wQUEUED wZERO a1 h0 n0) := by
  refine own_body (plainFor_of_name pn_java_util_ArrayDeque_DeqIterator) ?_
  intro p e s m below meth c s₁ hx hby hml hown hnm hret0 hlk0 hZ X0 e0
  have N0 := Fr.nil n0
  have pre0 : ∀ t, Steps p.tables e below (s₁.setTop (mkF m 0 #[(vr a1)] [])) t → Steps p.tables e below (s₁.setTop (entryFrame m #[(.ref a1)] 1)) t := fun t k => castTop (ef_au12_0 m a1) k
  have hS0 := hS
  obtain ⟨S_wMAX_LOCK_DELAY, E_wMAX_LOCK_DELAY, S_wGRANTED, E_wGRANTED, S_wQUEUED, E_wQUEUED, F_seconds_wMAX_LOCK_DELAY, F_nanos_wMAX_LOCK_DELAY, S_wZERO, E_wZERO, F_seconds_wZERO, F_nanos_wZERO⟩ := hS0
  obtain ⟨T1, X1, e1, st1⟩ := getF X0 hx hZ hown (host := "") (Or.inl (ow hw 88 rfl)) Via.refl e0 P3 (g := (mkF m 1 #[(vr a1)] [(.ref a1)])) rfl rfl (hb hby d12_1)
  obtain ⟨fs, hr, hrun, hended, hW, hsame⟩ := X1.leave (v := some (.int 0)) (fun h => by rw [hret0] at h; cases h)
  refine ⟨_, _, pre0 _ ?_, hrun, hended, _, _, rfl, ?_, ⟨_, rfl⟩, hW, hsame.mono (by decide) (by decide)⟩
  · skip
    show Steps p.tables e below (s₁.setTop (mkF m 0 #[(vr a1)] [])) _
    refine XS.aloadN X0.here hx rfl (hb hby d12_0) rfl rfl ?_
    refine st1 _ ?_
    refine XS.ifYes X1.here hx rfl (pc0 := 4) (pc' := 11) rfl (hb hby d12_4) rfl ((if0 _ _).trans (flt (by decide : ¬ ((0 : Int32) < (0 : Int32)))).2.2.2) (by decide) (by decide) ?_
    refine XS.iconst X1.here hx rfl (hb hby d12_11) ?_
    exact retN X1 hx (t := .boolean) hret0 (by simp) (hb hby d12_12) hr
  · show Q_au12_0 Z wMAX_LOCK_DELAY wGRANTED wQUEUED wZERO a1 h0 n0 _ T1.heap _
    rw [e1]
    exact ⟨rfl, N0, rfl⟩
theorem pd_7 : parseMethodDescriptor "()Z" = some ⟨[], some .boolean⟩ := by decide +kernel
theorem d7_18 : decode prog_84_method_14_code 18 = .ok (.ifCond .eq 34, 3) := by decide +kernel
theorem d7_52 : decode prog_84_method_14_code 52 = .ok (.aconst_null, 1) := by decide +kernel
theorem d7_53 : decode prog_84_method_14_code 53 = .ok (.astore 5, 2) := by decide +kernel
theorem d7_55 : decode prog_84_method_14_code 55 = .ok (.aload_n 0, 1) := by decide +kernel
theorem d7_56 : decode prog_84_method_14_code 56 = .ok (.lload_n 1, 1) := by decide +kernel
theorem d7_57 : decode prog_84_method_14_code 57 = .ok (.invokevirtual 108, 3) := by decide +kernel
theorem ef_au13_0 (m : MethodId) (x0 : Addr) (x1 : Int64)  : entryFrame m #[(.ref x0), (.long x1)] 3 = mkF m 0 #[(vr x0), (vl x1), .second] [] := by first | (simp [entryFrame, mkF, argsToLocals, Value.category]; done) | rfl
theorem d13_0 : decode prog_84_method_7_code 0 = .ok (.aload_n 0, 1) := by decide +kernel
theorem d13_1 : decode prog_84_method_7_code 1 = .ok (.getfield 29, 3) := by decide +kernel
theorem d13_4 : decode prog_84_method_7_code 4 = .ok (.ifnull 19, 3) := by decide +kernel
theorem d13_23 : decode prog_84_method_7_code 23 = .ok (.iconst 0, 1) := by decide +kernel
theorem d13_24 : decode prog_84_method_7_code 24 = .ok (.ireturn, 1) := by decide +kernel
def Q_au13_0 (Z : State) (wMAX_LOCK_DELAY : Addr) (wGRANTED : Addr) (wQUEUED : Addr) (wZERO : Addr) (a1 : Addr) (q2 : Int64) (h0 : Heap) (n0 : Nat) (v : Option Value) (h : Heap) (L : List Loc) : Prop := v = some (.int 0) ∧ Fr n0 L ∧ h = h0
theorem au13_0 (l : Launch) (Z : State) (a0 : Array Value) (hw : ∀ d ∈ tables_1, d.before a0 Z = true) (ws : List Jvm.Cond) (wMAX_LOCK_DELAY : Addr) (wGRANTED : Addr) (wQUEUED : Addr) (wZERO : Addr) (hS : SS Z wMAX_LOCK_DELAY wGRANTED wQUEUED wZERO) (a1 : Addr) (q2 : Int64) (h0 : Heap) (n0 : Nat) (O0 : Old Z n0 h0) (P3 : Fld Z h0 a1 s4n "holder" s9n .null) :
    MetB l M11 prog_84_method_7_code 3 (some .boolean) ws (rmk 0 0 0 0) Z h0 #[(.ref a1), (.long q2)] (Q_au13_0 Z wMAX_LOCK_DELAY wGRANTED wQUEUED wZERO a1 q2 h0 n0) := by
  refine own_body (plainFor_of_name pn_com_example_umpired_umpired_server_NodeLock) ?_
  intro p e s m below meth c s₁ hx hby hml hown hnm hret0 hlk0 hZ X0 e0
  have N0 := Fr.nil n0
  have pre0 : ∀ t, Steps p.tables e below (s₁.setTop (mkF m 0 #[(vr a1), (vl q2), .second] [])) t → Steps p.tables e below (s₁.setTop (entryFrame m #[(.ref a1), (.long q2)] 3)) t := fun t k => castTop (ef_au13_0 m a1 q2) k
  have hS0 := hS
  obtain ⟨S_wMAX_LOCK_DELAY, E_wMAX_LOCK_DELAY, S_wGRANTED, E_wGRANTED, S_wQUEUED, E_wQUEUED, F_seconds_wMAX_LOCK_DELAY, F_nanos_wMAX_LOCK_DELAY, S_wZERO, E_wZERO, F_seconds_wZERO, F_nanos_wZERO⟩ := hS0
  obtain ⟨T1, X1, e1, st1⟩ := getF X0 hx hZ hown (host := "") (Or.inl (ow hw 109 rfl)) Via.refl e0 P3 (g := (mkF m 1 #[(vr a1), (vl q2), .second] [(.ref a1)])) rfl rfl (hb hby d13_1)
  obtain ⟨fs, hr, hrun, hended, hW, hsame⟩ := X1.leave (v := some (.int 0)) (fun h => by rw [hret0] at h; cases h)
  refine ⟨_, _, pre0 _ ?_, hrun, hended, _, _, rfl, ?_, ⟨_, rfl⟩, hW, hsame.mono (by decide) (by decide)⟩
  · skip
    show Steps p.tables e below (s₁.setTop (mkF m 0 #[(vr a1), (vl q2), .second] [])) _
    refine XS.aloadN X0.here hx rfl (hb hby d13_0) rfl rfl ?_
    refine st1 _ ?_
    refine XS.ifnullYes X1.here hx rfl (pc0 := 4) (pc' := 23) rfl (hb hby d13_4) rfl (by decide) (by decide) ?_
    refine XS.iconst X1.here hx rfl (hb hby d13_23) ?_
    exact retN X1 hx (t := .boolean) hret0 (by simp) (hb hby d13_24) hr
  · show Q_au13_0 Z wMAX_LOCK_DELAY wGRANTED wQUEUED wZERO a1 q2 h0 n0 _ T1.heap _
    rw [e1]
    exact ⟨rfl, N0, rfl⟩
theorem d7_60 : decode prog_84_method_14_code 60 = .ok (.ifCond .eq 48, 3) := by decide +kernel
theorem d7_108 : decode prog_84_method_14_code 108 = .ok (.aload 5, 2) := by decide +kernel
theorem d7_110 : decode prog_84_method_14_code 110 = .ok (.areturn, 1) := by decide +kernel
def Q_au7_0 (Z : State) (wMAX_LOCK_DELAY : Addr) (wGRANTED : Addr) (wQUEUED : Addr) (wZERO : Addr) (a1 : Addr) (q2 : Int64) (a4 : Addr) (a5 : Addr) (k6 : ClassId) (h0 : Heap) (n0 : Nat) (v : Option Value) (h : Heap) (L : List Loc) : Prop := v = some .null ∧ Fr n0 L ∧ Keep h0 h []
theorem au7_0 (l : Launch) (Z : State) (a0 : Array Value) (hw : ∀ d ∈ tables_1, d.before a0 Z = true) (ws : List Jvm.Cond) (wMAX_LOCK_DELAY : Addr) (wGRANTED : Addr) (wQUEUED : Addr) (wZERO : Addr) (hS : SS Z wMAX_LOCK_DELAY wGRANTED wQUEUED wZERO) (a1 : Addr) (q2 : Int64) (a4 : Addr) (a5 : Addr) (k6 : ClassId) (h0 : Heap) (n0 : Nat) (O0 : Old Z n0 h0) (P0 : Exa Z h0 a1 s4n) (P3 : Fld Z h0 a1 s4n "holder" s9n .null) (P5 : Fld Z h0 a1 s4n "waiters" s11n (.ref a4)) (P6 : Exa Z h0 a4 s6n) (P7 : Fld Z h0 a4 s6n "elements" s7n (.ref a5)) (P8 : Fld Z h0 a4 s6n "head" "I" (.int 0)) (P9 : Fld Z h0 a4 s6n "tail" "I" (.int 0)) (P10 : Arv Z h0 a5 k6 (.object s8n) (17 : Int32) ([.null, .null, .null, .null, .null, .null, .null, .null, .null, .null, .null, .null, .null, .null, .null, .null, .null]) .null) :
    MetB l M12 prog_84_method_14_code 6 (some (.object s3n)) ws (rmk 4 1 4 53) Z h0 #[(.ref a1), (.long q2), (.int 0)] (Q_au7_0 Z wMAX_LOCK_DELAY wGRANTED wQUEUED wZERO a1 q2 a4 a5 k6 h0 n0) := by
  refine own_body (plainFor_of_name pn_com_example_umpired_umpired_server_NodeLock) ?_
  intro p e s m below meth c s₁ hx hby hml hown hnm hret0 hlk0 hZ X0 e0
  have N0 := Fr.nil n0
  have pre0 : ∀ t, Steps p.tables e below (s₁.setTop (mkF m 0 #[(vr a1), (vl q2), .second, (vi 0), .unset, .unset] [])) t → Steps p.tables e below (s₁.setTop (entryFrame m #[(.ref a1), (.long q2), (.int 0)] 6)) t := fun t k => castTop (ef_au7_0 m a1 q2 (0 : Int32)) k
  have K0 := Keep.refl h0 []
  have hS0 := hS
  obtain ⟨S_wMAX_LOCK_DELAY, E_wMAX_LOCK_DELAY, S_wGRANTED, E_wGRANTED, S_wQUEUED, E_wQUEUED, F_seconds_wMAX_LOCK_DELAY, F_nanos_wMAX_LOCK_DELAY, S_wZERO, E_wZERO, F_seconds_wZERO, F_nanos_wZERO⟩ := hS0
  obtain ⟨T1, X1, e1, st1⟩ := getF X0 hx hZ hown (host := "") (Or.inl (ow hw 27 rfl)) Via.refl e0 P5 (g := (mkF m 1 #[(vr a1), (vl q2), .second, (vi 0), .unset, .unset] [(.ref a1)])) rfl rfl (hb hby d7_1)
  obtain ⟨cq2, kq2, q2a, q2b, q2c⟩ := isOf hZ e1 P6
  obtain ⟨_, _, ⟨T2, L2, k2, n2⟩, -, X2, ⟨Lc2, hQ2, l2, y2, z2⟩, st2⟩ := X1.interfaceBack hx (xi := M13) (y := M9) hown (mvT hZ (ow hw 57 rfl)) (mvT hZ (ow hw 58 rfl)) (mvT hZ (ow hw 59 rfl)) (mvT hZ (ow hw 60 rfl)) (mvT hZ (ow hw 61 rfl)) (mvT hZ (ow hw 62 rfl)) (mvT hZ (ow hw 63 rfl)) (mvT hZ (ow hw 64 rfl)) (by decide) (backOf (W := 0) (au8_0 l Z a0 hw [] wMAX_LOCK_DELAY wGRANTED wQUEUED wZERO hS a4 a5 k6 h0 n0 O0 P6 P7 P8 P9 P10) hZ (ow hw 65 rfl) (ow hw 12 rfl) (by decide) (by decide)) q2a q2b q2c (g := (mkF m 4 #[(vr a1), (vl q2), .second, (vi 0), .unset, .unset] [(.ref a4)])) rfl (by rw [hml]; rfl) (Steps.refl _) (argsL := []) (rest := []) (lenOf pd_6 rfl) rfl (by show 2 * 0 + _ ≤ _; exact Nat.le_of_eq rfl) (hb hby d7_4) (fun _ _ => ⟨rfl, e1, (by decide : 0 + 1 ≤ _), (by decide : 0 + 4 ≤ _)⟩)
  dsimp only [Pt.U, Pt.locs, Pt.cells, Pt.slots] at X2 l2 y2 z2 st2 hQ2
  subst l2 y2 z2
  obtain ⟨e1_2, rfl, Nq2, K2q, p2_0, p2_1, p2_2, p2_3, p2_4, p2_5⟩ := hQ2
  have N2 := Fr.app N0 Nq2
  have ne3 : a1 ≠ e1_2 := Nat.ne_of_lt (Nat.lt_of_lt_of_le P0.lt p2_0)
  have ne4 : a4 ≠ e1_2 := Nat.ne_of_lt (Nat.lt_of_lt_of_le P6.lt p2_0)
  have ne5 : a5 ≠ e1_2 := Nat.ne_of_lt (Nat.lt_of_lt_of_le P10.lt p2_0)
  have g6 : n0 ≤ e1_2 := Nat.le_trans (own_sz O0) p2_0
  have sz7 : h0.size ≤ e1_2 := Nat.le_trans K0.1 p2_0
  have O8 : Old Z n0 T2.heap := O0.keep K2q all0
  have K8 : Keep h0 T2.heap [] := K0.trans K2q all0
  obtain ⟨cq9, kq9, q9a, q9b, q9c⟩ := isOf hZ rfl p2_1
  obtain ⟨_, _, ⟨T9, L9, k9, n9⟩, -, X9, ⟨Lc9, hQ9, l9, y9, z9⟩, st9⟩ := X2.interfaceBack hx (xi := M14) (y := M10) hown (mvT hZ (ow hw 95 rfl)) (mvT hZ (ow hw 96 rfl)) (mvT hZ (ow hw 97 rfl)) (mvT hZ (ow hw 98 rfl)) (mvT hZ (ow hw 99 rfl)) (mvT hZ (ow hw 100 rfl)) (mvT hZ (ow hw 101 rfl)) (mvT hZ (ow hw 102 rfl)) (by decide) (backOf (W := 0) (au12_0 l Z a0 hw [] wMAX_LOCK_DELAY wGRANTED wQUEUED wZERO hS e1_2 T2.heap n0 O8 p2_4) hZ (ow hw 103 rfl) (ow hw 68 rfl) (by decide) (by decide)) q9a q9b q9c (g := (mkF m 13 #[(vr a1), (vl q2), .second, (vi 0), (vr e1_2), .unset] [(.ref e1_2)])) rfl (by rw [hml]; rfl) (Steps.refl _) (argsL := []) (rest := []) (lenOf pd_7 rfl) rfl (by show 2 * 0 + _ ≤ _; exact Nat.le_of_eq rfl) (hb hby d7_13) (fun _ _ => ⟨rfl, rfl, (by decide : 1 + 0 ≤ _), (by decide : 4 + 0 ≤ _)⟩)
  dsimp only [Pt.U, Pt.locs, Pt.cells, Pt.slots] at X9 l9 y9 z9 st9 hQ9
  subst l9 y9 z9
  obtain ⟨rfl, Nq9, K9q⟩ := hQ9
  have N9 := Fr.app N2 Nq9
  have f10 : Fld Z T2.heap a1 s4n "holder" s9n .null := (P3.keep K2q nin0)
  have f12 : Exa Z T2.heap a1 s4n := (P0.keep K2q)
  obtain ⟨cq11, kq11, q11a, q11b, q11c⟩ := isOf hZ K9q f12
  obtain ⟨_, _, ⟨T11, L11, k11, n11⟩, -, X11, ⟨Lc11, hQ11, l11, y11, z11⟩, st11⟩ := X9.virtualBack hx (y := M11) (z := M11) hown (mvT hZ (ow hw 104 rfl)) (mvT hZ (ow hw 105 rfl)) (notFace_of_selects (args := #[]) (mvT hZ (ow hw 107 rfl))) (mvT hZ (ow hw 107 rfl)) (mvT hZ (ow hw 106 rfl)) (by decide) (backOf (W := 0) (au13_0 l Z a0 hw [] wMAX_LOCK_DELAY wGRANTED wQUEUED wZERO hS a1 q2 T2.heap n0 O8 f10) hZ (ow hw 108 rfl) (ow hw 3 rfl) (by decide) (by decide)) q11a q11c (g := (mkF m 57 #[(vr a1), (vl q2), .second, (vi 0), (vr e1_2), .val .null] [(.long q2), (.ref a1)])) rfl (by rw [hml]; rfl) (Steps.refl _) (argsL := [(.long q2)]) (rest := []) (lenOf pd_2 rfl) rfl (by show 2 * 0 + _ ≤ _; exact Nat.le_of_eq rfl) (hb hby d7_57) (fun _ _ => ⟨rfl, K9q, (by decide : 1 + 0 ≤ _), (by decide : 4 + 0 ≤ _)⟩)
  dsimp only [Pt.U, Pt.locs, Pt.cells, Pt.slots] at X11 l11 y11 z11 st11 hQ11
  subst l11 y11 z11
  obtain ⟨rfl, Nq11, K11q⟩ := hQ11
  have N11 := Fr.app N9 Nq11
  obtain ⟨fs, hr, hrun, hended, hW, hsame⟩ := X11.leave (v := some .null) (fun h => by rw [hret0] at h; cases h)
  refine ⟨_, _, pre0 _ ?_, hrun, hended, _, _, rfl, ?_, ⟨_, rfl⟩, hW, hsame.mono (by decide) (by decide)⟩
  · skip
    show Steps p.tables e below (s₁.setTop (mkF m 0 #[(vr a1), (vl q2), .second, (vi 0), .unset, .unset] [])) _
    refine XS.aloadN X0.here hx rfl (hb hby d7_0) rfl rfl ?_
    refine st1 _ ?_
    refine st2.trans ?_
    refine XS.astore X2.here hx rfl (hb hby d7_9) rfl rfl (l' := #[(vr a1), (vl q2), .second, (vi 0), (vr e1_2), .unset]) rfl ?_
    refine XS.aload X2.here hx rfl (hb hby d7_11) rfl rfl ?_
    refine st9.trans ?_
    refine XS.ifYes X9.here hx rfl (pc0 := 18) (pc' := 52) rfl (hb hby d7_18) rfl ((if0 _ _).trans (teq (by decide : (0 : Int32) = (0 : Int32))).1) (by decide) (by decide) ?_
    refine XS.aconstNull X9.here hx rfl (hb hby d7_52) ?_
    show Steps p.tables e below (T9.setTop (mkF m 53 #[(vr a1), (vl q2), .second, (vi 0), (vr e1_2), .unset] [.null])) _
    refine XS.astore X9.here hx rfl (hb hby d7_53) rfl rfl (l' := #[(vr a1), (vl q2), .second, (vi 0), (vr e1_2), .val .null]) rfl ?_
    refine XS.aloadN X9.here hx rfl (hb hby d7_55) rfl rfl ?_
    refine XS.lloadN X9.here hx rfl (hb hby d7_56) rfl ?_
    refine st11.trans ?_
    refine XS.ifYes X11.here hx rfl (pc0 := 60) (pc' := 108) rfl (hb hby d7_60) rfl ((if0 _ _).trans (teq (by decide : (0 : Int32) = (0 : Int32))).1) (by decide) (by decide) ?_
    refine XS.aload X11.here hx rfl (hb hby d7_108) rfl rfl ?_
    jvm_step X11.here [X11.here.top, hx, (hb hby d7_110), X11.method', hret0, Value.isRef, FieldType.isReference]
    first | (intro acts; rw [hr _ acts rfl rfl rfl]) | rw [hr _ _ rfl rfl rfl]
    exact Steps.refl _
  · show Q_au7_0 Z wMAX_LOCK_DELAY wGRANTED wQUEUED wZERO a1 q2 a4 a5 k6 h0 n0 _ T11.heap _
    rw [K11q]
    exact ⟨rfl, N11, K8⟩
theorem pd_8 : parseMethodDescriptor "(JZ)Lcom/example/umpired/umpired/server/SessionHandle;" = some ⟨[.long, .boolean], some (.object "com/example/umpired/umpired/server/SessionHandle")⟩ := by decide +kernel
theorem own_fin {gv1 gv2 gv3 zh ze zb zr exp : Int32} {q7 q13 q14 q15 zs zg zn : Int64} (hzh : zh = (if gv1 = (0 : Int32) then (if gv2 = (0 : Int32) then (0 : Int32) else (1 : Int32)) else (1 : Int32))) (hzs : zs = (if gv1 = (0 : Int32) then q13 else q7)) (hzg : zg = (if zh = (0 : Int32) then (0 : Int64) else (1 : Int64))) (hze : ze = (if zh = (0 : Int32) then (0 : Int32) else (if (lcmpW zs q14) = (0 : Int32) then (1 : Int32) else (0 : Int32)))) (hzb : zb = (if ze = (0 : Int32) then (0 : Int32) else (if gv3 = (0 : Int32) then (0 : Int32) else (1 : Int32)))) (hzr : zr = (if gv1 = (0 : Int32) then (0 : Int32) else (if gv2 = (0 : Int32) then (0 : Int32) else (if (lcmpW q13 q14) = (0 : Int32) then (0 : Int32) else (1 : Int32))))) (hzn : zn = (if ze = (0 : Int32) then zg else (if gv3 = (0 : Int32) then (if zr = (0 : Int32) then zg else (zg + (1 : Int64))) else zg))) (hexp : exp = (if zb = (0 : Int32) then (0 : Int32) else (if (lcmpW zn q15) = (0 : Int32) then (1 : Int32) else (0 : Int32)))) : own_exp gv1 gv2 gv3 q7 q13 q14 q15 = exp := by
  subst hexp hzn hzr hzb hze hzg hzs hzh
  simp only [own_exp, lw_eq]
  by_cases c1 : gv1 = 0 <;> by_cases c2 : gv2 = 0 <;> by_cases c3 : gv3 = 0 <;> by_cases c4 : q7 = q14 <;> by_cases c5 : q13 = q14 <;> simp [c1, c2, c3, c4, c5]
theorem tl_rm0_f {p : Program} {l : Launch} {e : Env} {s : State} {m : MethodId} {below : List Frame} {meth : Method} {c : Code} {T0 : State} {locs : List Loc} {Z : State} {a0 : Array Value} {h0 : Heap} {n0 : Nat} {margs : Array Value} (hw : ∀ d ∈ tables_1, d.before a0 Z = true) (wMAX_LOCK_DELAY : Addr) (wGRANTED : Addr) (wQUEUED : Addr) (wZERO : Addr) (hS : SS Z wMAX_LOCK_DELAY wGRANTED wQUEUED wZERO) (gv1 : Int32) (gv2 : Int32) (gv3 : Int32) (gv4 : Int32) (gv5 : Int32) (p6 : Int32) (q7 : Int64) (q8 : Int64) (q9 : Int64) (p10 : Int32) (p11 : Int32) (p12 : Int32) (q13 : Int64) (q14 : Int64) (q15 : Int64) (a16 : Addr) (a17 : Addr) (a18 : Addr)
    (X0 : Stand p l e room_1 s m margs below meth c T0 locs 24 192) (hx : p.tables.exec = Jvm.exec) (hZ : Z.Warmed39 s.vm) (hby : c.code = code) (hml : c.maxLocals = 33) (hown : s.vm.findClass s5n = some m.cls) (hnm : meth.name = "law") (hret0 : meth.sig.returnType = some .boolean) (hlk0 : meth.locks = false) (e0 : T0.heap = h0) (N0 : Fr n0 locs) (O0 : Old Z n0 h0) (P0 : gv5 = own_exp gv1 gv2 gv3 q7 q13 q14 q15) (P1 : gv4 = (0 : Int32)) :
    ∃ s₂ o, Steps p.tables e below (T0.setTop (mkF m 220 #[(vi p6), (vl q7), .second, (vl q8), .second, (vl q9), .second, (vi gv1), (vi gv2), (vi gv3), (vi p10), (vi p11), (vi p12), (vl q13), .second, (vl q14), .second, (vl q15), .second, (vr a16), (vr a17), (vr a18), (vi gv4), (vi gv5), .unset, .unset, .unset, .unset, .unset, .unset, .unset, .unset, .unset] [])) s₂ ∧ s₂.status = .running ∧ Ended s₂ below o ∧ ∃ v L, o = .returned v ∧ (v = some (.int 1) ∧ Fr n0 L) ∧ FrameEnd s o s₂ L room_1.cells room_1.slots := by
  have pre0 : ∀ t, Steps p.tables e below (T0.setTop (mkF m 220 #[(vi p6), (vl q7), .second, (vl q8), .second, (vl q9), .second, (vi gv1), (vi gv2), (vi gv3), (vi p10), (vi p11), (vi p12), (vl q13), .second, (vl q14), .second, (vl q15), .second, (vr a16), (vr a17), (vr a18), (vi gv4), (vi gv5), .unset, .unset, .unset, .unset, .unset, .unset, .unset, .unset, .unset] [])) t → Steps p.tables e below (T0.setTop (mkF m 220 #[(vi p6), (vl q7), .second, (vl q8), .second, (vl q9), .second, (vi gv1), (vi gv2), (vi gv3), (vi p10), (vi p11), (vi p12), (vl q13), .second, (vl q14), .second, (vl q15), .second, (vr a16), (vr a17), (vr a18), (vi gv4), (vi gv5), .unset, .unset, .unset, .unset, .unset, .unset, .unset, .unset, .unset] [])) t := fun t k => k
  have hS0 := hS
  obtain ⟨S_wMAX_LOCK_DELAY, E_wMAX_LOCK_DELAY, S_wGRANTED, E_wGRANTED, S_wQUEUED, E_wQUEUED, F_seconds_wMAX_LOCK_DELAY, F_nanos_wMAX_LOCK_DELAY, S_wZERO, E_wZERO, F_seconds_wZERO, F_nanos_wZERO⟩ := hS0
  have pre1 : ∀ t, Steps p.tables e below (T0.setTop (mkF m 222 #[(vi p6), (vl q7), .second, (vl q8), .second, (vl q9), .second, (vi gv1), (vi gv2), (vi gv3), (vi p10), (vi p11), (vi p12), (vl q13), .second, (vl q14), .second, (vl q15), .second, (vr a16), (vr a17), (vr a18), (vi gv4), (vi gv5), .unset, .unset, .unset, .unset, .unset, .unset, .unset, .unset, .unset] [(.int gv1)])) t → Steps p.tables e below (T0.setTop (mkF m 220 #[(vi p6), (vl q7), .second, (vl q8), .second, (vl q9), .second, (vi gv1), (vi gv2), (vi gv3), (vi p10), (vi p11), (vi p12), (vl q13), .second, (vl q14), .second, (vl q15), .second, (vr a16), (vr a17), (vr a18), (vi gv4), (vi gv5), .unset, .unset, .unset, .unset, .unset, .unset, .unset, .unset, .unset] [])) t := by
    intro t k
    refine pre0 t ?_
    show Steps p.tables e below (T0.setTop (mkF m 220 #[(vi p6), (vl q7), .second, (vl q8), .second, (vl q9), .second, (vi gv1), (vi gv2), (vi gv3), (vi p10), (vi p11), (vi p12), (vl q13), .second, (vl q14), .second, (vl q15), .second, (vr a16), (vr a17), (vr a18), (vi gv4), (vi gv5), .unset, .unset, .unset, .unset, .unset, .unset, .unset, .unset, .unset] [])) _
    refine XS.iload X0.here hx rfl (hb hby at_220) rfl ?_
    exact k
  obtain ⟨zh, hzh⟩ : ∃ z : Int32, z = (if gv1 = (0 : Int32) then (if gv2 = (0 : Int32) then (0 : Int32) else (1 : Int32)) else (1 : Int32)) := ⟨_, rfl⟩
  have pre4 : ∀ t, Steps p.tables e below (T0.setTop (mkF m 235 #[(vi p6), (vl q7), .second, (vl q8), .second, (vl q9), .second, (vi gv1), (vi gv2), (vi gv3), (vi p10), (vi p11), (vi p12), (vl q13), .second, (vl q14), .second, (vl q15), .second, (vr a16), (vr a17), (vr a18), (vi gv4), (vi gv5), .unset, .unset, .unset, .unset, .unset, .unset, .unset, .unset, .unset] [(.int zh)])) t → Steps p.tables e below (T0.setTop (mkF m 220 #[(vi p6), (vl q7), .second, (vl q8), .second, (vl q9), .second, (vi gv1), (vi gv2), (vi gv3), (vi p10), (vi p11), (vi p12), (vl q13), .second, (vl q14), .second, (vl q15), .second, (vr a16), (vr a17), (vr a18), (vi gv4), (vi gv5), .unset, .unset, .unset, .unset, .unset, .unset, .unset, .unset, .unset] [])) t := by
    intro t k
    rw [hzh] at k
    refine pre1 t ?_
    show Steps p.tables e below (T0.setTop (mkF m 222 #[(vi p6), (vl q7), .second, (vl q8), .second, (vl q9), .second, (vi gv1), (vi gv2), (vi gv3), (vi p10), (vi p11), (vi p12), (vl q13), .second, (vl q14), .second, (vl q15), .second, (vr a16), (vr a17), (vr a18), (vi gv4), (vi gv5), .unset, .unset, .unset, .unset, .unset, .unset, .unset, .unset, .unset] [(.int gv1)])) _
    rcases Decidable.em (gv1 = (0 : Int32)) with hm2 | hm2
    · first | simp only [if_pos hm2] at k | skip
      refine XS.ifNo X0.here hx rfl (hb hby at_222) rfl ((if0 _ _).trans (teq hm2).2) ?_
      refine XS.iload X0.here hx rfl (hb hby at_225) rfl ?_
      rcases Decidable.em (gv2 = (0 : Int32)) with hm3 | hm3
      · first | simp only [if_pos hm3] at k | skip
        refine XS.ifYes X0.here hx rfl (pc0 := 227) (pc' := 234) rfl (hb hby at_227) rfl ((if0 _ _).trans (teq hm3).1) (by decide) (by decide) ?_
        refine XS.iconst X0.here hx rfl (hb hby at_234) ?_
        exact k
      · first | simp only [if_neg hm3] at k | skip
        refine XS.ifNo X0.here hx rfl (hb hby at_227) rfl ((if0 _ _).trans (feq hm3).1) ?_
        refine XS.iconst X0.here hx rfl (hb hby at_230) ?_
        refine XS.goto X0.here hx rfl (pc0 := 231) (pc' := 235) rfl (hb hby at_231) (by decide) (by decide) ?_
        exact k
    · first | simp only [if_neg hm2] at k | skip
      refine XS.ifYes X0.here hx rfl (pc0 := 222) (pc' := 230) rfl (hb hby at_222) rfl ((if0 _ _).trans (feq hm2).2) (by decide) (by decide) ?_
      refine XS.iconst X0.here hx rfl (hb hby at_230) ?_
      refine XS.goto X0.here hx rfl (pc0 := 231) (pc' := 235) rfl (hb hby at_231) (by decide) (by decide) ?_
      exact k
  have pre5 : ∀ t, Steps p.tables e below (T0.setTop (mkF m 239 #[(vi p6), (vl q7), .second, (vl q8), .second, (vl q9), .second, (vi gv1), (vi gv2), (vi gv3), (vi p10), (vi p11), (vi p12), (vl q13), .second, (vl q14), .second, (vl q15), .second, (vr a16), (vr a17), (vr a18), (vi gv4), (vi gv5), (vi zh), .unset, .unset, .unset, .unset, .unset, .unset, .unset, .unset] [(.int gv1)])) t → Steps p.tables e below (T0.setTop (mkF m 220 #[(vi p6), (vl q7), .second, (vl q8), .second, (vl q9), .second, (vi gv1), (vi gv2), (vi gv3), (vi p10), (vi p11), (vi p12), (vl q13), .second, (vl q14), .second, (vl q15), .second, (vr a16), (vr a17), (vr a18), (vi gv4), (vi gv5), .unset, .unset, .unset, .unset, .unset, .unset, .unset, .unset, .unset] [])) t := by
    intro t k
    refine pre4 t ?_
    show Steps p.tables e below (T0.setTop (mkF m 235 #[(vi p6), (vl q7), .second, (vl q8), .second, (vl q9), .second, (vi gv1), (vi gv2), (vi gv3), (vi p10), (vi p11), (vi p12), (vl q13), .second, (vl q14), .second, (vl q15), .second, (vr a16), (vr a17), (vr a18), (vi gv4), (vi gv5), .unset, .unset, .unset, .unset, .unset, .unset, .unset, .unset, .unset] [(.int zh)])) _
    refine XS.istore X0.here hx rfl (hb hby at_235) rfl (l' := #[(vi p6), (vl q7), .second, (vl q8), .second, (vl q9), .second, (vi gv1), (vi gv2), (vi gv3), (vi p10), (vi p11), (vi p12), (vl q13), .second, (vl q14), .second, (vl q15), .second, (vr a16), (vr a17), (vr a18), (vi gv4), (vi gv5), (vi zh), .unset, .unset, .unset, .unset, .unset, .unset, .unset, .unset]) rfl ?_
    refine XS.iload X0.here hx rfl (hb hby at_237) rfl ?_
    exact k
  obtain ⟨zs, hzs⟩ : ∃ z : Int64, z = (if gv1 = (0 : Int32) then q13 else q7) := ⟨_, rfl⟩
  have pre7 : ∀ t, Steps p.tables e below (T0.setTop (mkF m 248 #[(vi p6), (vl q7), .second, (vl q8), .second, (vl q9), .second, (vi gv1), (vi gv2), (vi gv3), (vi p10), (vi p11), (vi p12), (vl q13), .second, (vl q14), .second, (vl q15), .second, (vr a16), (vr a17), (vr a18), (vi gv4), (vi gv5), (vi zh), .unset, .unset, .unset, .unset, .unset, .unset, .unset, .unset] [(.long zs)])) t → Steps p.tables e below (T0.setTop (mkF m 220 #[(vi p6), (vl q7), .second, (vl q8), .second, (vl q9), .second, (vi gv1), (vi gv2), (vi gv3), (vi p10), (vi p11), (vi p12), (vl q13), .second, (vl q14), .second, (vl q15), .second, (vr a16), (vr a17), (vr a18), (vi gv4), (vi gv5), .unset, .unset, .unset, .unset, .unset, .unset, .unset, .unset, .unset] [])) t := by
    intro t k
    rw [hzs] at k
    refine pre5 t ?_
    show Steps p.tables e below (T0.setTop (mkF m 239 #[(vi p6), (vl q7), .second, (vl q8), .second, (vl q9), .second, (vi gv1), (vi gv2), (vi gv3), (vi p10), (vi p11), (vi p12), (vl q13), .second, (vl q14), .second, (vl q15), .second, (vr a16), (vr a17), (vr a18), (vi gv4), (vi gv5), (vi zh), .unset, .unset, .unset, .unset, .unset, .unset, .unset, .unset] [(.int gv1)])) _
    rcases Decidable.em (gv1 = (0 : Int32)) with hm6 | hm6
    · first | simp only [if_pos hm6] at k | skip
      refine XS.ifYes X0.here hx rfl (pc0 := 239) (pc' := 246) rfl (hb hby at_239) rfl ((if0 _ _).trans (teq hm6).1) (by decide) (by decide) ?_
      refine XS.lload X0.here hx rfl (hb hby at_246) rfl ?_
      exact k
    · first | simp only [if_neg hm6] at k | skip
      refine XS.ifNo X0.here hx rfl (hb hby at_239) rfl ((if0 _ _).trans (feq hm6).1) ?_
      refine XS.lloadN X0.here hx rfl (hb hby at_242) rfl ?_
      refine XS.goto X0.here hx rfl (pc0 := 243) (pc' := 248) rfl (hb hby at_243) (by decide) (by decide) ?_
      exact k
  have pre8 : ∀ t, Steps p.tables e below (T0.setTop (mkF m 252 #[(vi p6), (vl q7), .second, (vl q8), .second, (vl q9), .second, (vi gv1), (vi gv2), (vi gv3), (vi p10), (vi p11), (vi p12), (vl q13), .second, (vl q14), .second, (vl q15), .second, (vr a16), (vr a17), (vr a18), (vi gv4), (vi gv5), (vi zh), (vl zs), .second, .unset, .unset, .unset, .unset, .unset, .unset] [(.int zh)])) t → Steps p.tables e below (T0.setTop (mkF m 220 #[(vi p6), (vl q7), .second, (vl q8), .second, (vl q9), .second, (vi gv1), (vi gv2), (vi gv3), (vi p10), (vi p11), (vi p12), (vl q13), .second, (vl q14), .second, (vl q15), .second, (vr a16), (vr a17), (vr a18), (vi gv4), (vi gv5), .unset, .unset, .unset, .unset, .unset, .unset, .unset, .unset, .unset] [])) t := by
    intro t k
    refine pre7 t ?_
    show Steps p.tables e below (T0.setTop (mkF m 248 #[(vi p6), (vl q7), .second, (vl q8), .second, (vl q9), .second, (vi gv1), (vi gv2), (vi gv3), (vi p10), (vi p11), (vi p12), (vl q13), .second, (vl q14), .second, (vl q15), .second, (vr a16), (vr a17), (vr a18), (vi gv4), (vi gv5), (vi zh), .unset, .unset, .unset, .unset, .unset, .unset, .unset, .unset] [(.long zs)])) _
    refine XS.lstore X0.here hx rfl (hb hby at_248) rfl (l' := #[(vi p6), (vl q7), .second, (vl q8), .second, (vl q9), .second, (vi gv1), (vi gv2), (vi gv3), (vi p10), (vi p11), (vi p12), (vl q13), .second, (vl q14), .second, (vl q15), .second, (vr a16), (vr a17), (vr a18), (vi gv4), (vi gv5), (vi zh), (vl zs), .second, .unset, .unset, .unset, .unset, .unset, .unset]) rfl ?_
    refine XS.iload X0.here hx rfl (hb hby at_250) rfl ?_
    exact k
  obtain ⟨zg, hzg⟩ : ∃ z : Int64, z = (if zh = (0 : Int32) then (0 : Int64) else (1 : Int64)) := ⟨_, rfl⟩
  have pre10 : ∀ t, Steps p.tables e below (T0.setTop (mkF m 260 #[(vi p6), (vl q7), .second, (vl q8), .second, (vl q9), .second, (vi gv1), (vi gv2), (vi gv3), (vi p10), (vi p11), (vi p12), (vl q13), .second, (vl q14), .second, (vl q15), .second, (vr a16), (vr a17), (vr a18), (vi gv4), (vi gv5), (vi zh), (vl zs), .second, .unset, .unset, .unset, .unset, .unset, .unset] [(.long zg)])) t → Steps p.tables e below (T0.setTop (mkF m 220 #[(vi p6), (vl q7), .second, (vl q8), .second, (vl q9), .second, (vi gv1), (vi gv2), (vi gv3), (vi p10), (vi p11), (vi p12), (vl q13), .second, (vl q14), .second, (vl q15), .second, (vr a16), (vr a17), (vr a18), (vi gv4), (vi gv5), .unset, .unset, .unset, .unset, .unset, .unset, .unset, .unset, .unset] [])) t := by
    intro t k
    rw [hzg] at k
    refine pre8 t ?_
    show Steps p.tables e below (T0.setTop (mkF m 252 #[(vi p6), (vl q7), .second, (vl q8), .second, (vl q9), .second, (vi gv1), (vi gv2), (vi gv3), (vi p10), (vi p11), (vi p12), (vl q13), .second, (vl q14), .second, (vl q15), .second, (vr a16), (vr a17), (vr a18), (vi gv4), (vi gv5), (vi zh), (vl zs), .second, .unset, .unset, .unset, .unset, .unset, .unset] [(.int zh)])) _
    rcases Decidable.em (zh = (0 : Int32)) with hm9 | hm9
    · first | simp only [if_pos hm9] at k | skip
      refine XS.ifYes X0.here hx rfl (pc0 := 252) (pc' := 259) rfl (hb hby at_252) rfl ((if0 _ _).trans (teq hm9).1) (by decide) (by decide) ?_
      refine XS.lconst X0.here hx rfl (hb hby at_259) ?_
      exact k
    · first | simp only [if_neg hm9] at k | skip
      refine XS.ifNo X0.here hx rfl (hb hby at_252) rfl ((if0 _ _).trans (feq hm9).1) ?_
      refine XS.lconst X0.here hx rfl (hb hby at_255) ?_
      refine XS.goto X0.here hx rfl (pc0 := 256) (pc' := 260) rfl (hb hby at_256) (by decide) (by decide) ?_
      exact k
  have pre11 : ∀ t, Steps p.tables e below (T0.setTop (mkF m 264 #[(vi p6), (vl q7), .second, (vl q8), .second, (vl q9), .second, (vi gv1), (vi gv2), (vi gv3), (vi p10), (vi p11), (vi p12), (vl q13), .second, (vl q14), .second, (vl q15), .second, (vr a16), (vr a17), (vr a18), (vi gv4), (vi gv5), (vi zh), (vl zs), .second, (vl zg), .second, .unset, .unset, .unset, .unset] [(.int zh)])) t → Steps p.tables e below (T0.setTop (mkF m 220 #[(vi p6), (vl q7), .second, (vl q8), .second, (vl q9), .second, (vi gv1), (vi gv2), (vi gv3), (vi p10), (vi p11), (vi p12), (vl q13), .second, (vl q14), .second, (vl q15), .second, (vr a16), (vr a17), (vr a18), (vi gv4), (vi gv5), .unset, .unset, .unset, .unset, .unset, .unset, .unset, .unset, .unset] [])) t := by
    intro t k
    refine pre10 t ?_
    show Steps p.tables e below (T0.setTop (mkF m 260 #[(vi p6), (vl q7), .second, (vl q8), .second, (vl q9), .second, (vi gv1), (vi gv2), (vi gv3), (vi p10), (vi p11), (vi p12), (vl q13), .second, (vl q14), .second, (vl q15), .second, (vr a16), (vr a17), (vr a18), (vi gv4), (vi gv5), (vi zh), (vl zs), .second, .unset, .unset, .unset, .unset, .unset, .unset] [(.long zg)])) _
    refine XS.lstore X0.here hx rfl (hb hby at_260) rfl (l' := #[(vi p6), (vl q7), .second, (vl q8), .second, (vl q9), .second, (vi gv1), (vi gv2), (vi gv3), (vi p10), (vi p11), (vi p12), (vl q13), .second, (vl q14), .second, (vl q15), .second, (vr a16), (vr a17), (vr a18), (vi gv4), (vi gv5), (vi zh), (vl zs), .second, (vl zg), .second, .unset, .unset, .unset, .unset]) rfl ?_
    refine XS.iload X0.here hx rfl (hb hby at_262) rfl ?_
    exact k
  obtain ⟨ze, hze⟩ : ∃ z : Int32, z = (if zh = (0 : Int32) then (0 : Int32) else (if (lcmpW zs q14) = (0 : Int32) then (1 : Int32) else (0 : Int32))) := ⟨_, rfl⟩
  have pre14 : ∀ t, Steps p.tables e below (T0.setTop (mkF m 280 #[(vi p6), (vl q7), .second, (vl q8), .second, (vl q9), .second, (vi gv1), (vi gv2), (vi gv3), (vi p10), (vi p11), (vi p12), (vl q13), .second, (vl q14), .second, (vl q15), .second, (vr a16), (vr a17), (vr a18), (vi gv4), (vi gv5), (vi zh), (vl zs), .second, (vl zg), .second, .unset, .unset, .unset, .unset] [(.int ze)])) t → Steps p.tables e below (T0.setTop (mkF m 220 #[(vi p6), (vl q7), .second, (vl q8), .second, (vl q9), .second, (vi gv1), (vi gv2), (vi gv3), (vi p10), (vi p11), (vi p12), (vl q13), .second, (vl q14), .second, (vl q15), .second, (vr a16), (vr a17), (vr a18), (vi gv4), (vi gv5), .unset, .unset, .unset, .unset, .unset, .unset, .unset, .unset, .unset] [])) t := by
    intro t k
    rw [hze] at k
    refine pre11 t ?_
    show Steps p.tables e below (T0.setTop (mkF m 264 #[(vi p6), (vl q7), .second, (vl q8), .second, (vl q9), .second, (vi gv1), (vi gv2), (vi gv3), (vi p10), (vi p11), (vi p12), (vl q13), .second, (vl q14), .second, (vl q15), .second, (vr a16), (vr a17), (vr a18), (vi gv4), (vi gv5), (vi zh), (vl zs), .second, (vl zg), .second, .unset, .unset, .unset, .unset] [(.int zh)])) _
    rcases Decidable.em (zh = (0 : Int32)) with hm12 | hm12
    · first | simp only [if_pos hm12] at k | skip
      refine XS.ifYes X0.here hx rfl (pc0 := 264) (pc' := 279) rfl (hb hby at_264) rfl ((if0 _ _).trans (teq hm12).1) (by decide) (by decide) ?_
      refine XS.iconst X0.here hx rfl (hb hby at_279) ?_
      exact k
    · first | simp only [if_neg hm12] at k | skip
      refine XS.ifNo X0.here hx rfl (hb hby at_264) rfl ((if0 _ _).trans (feq hm12).1) ?_
      refine XS.lload X0.here hx rfl (hb hby at_267) rfl ?_
      refine XS.lload X0.here hx rfl (hb hby at_269) rfl ?_
      refine XS.lcmp X0.here hx rfl (hb hby at_271) rfl ?_
      rcases Decidable.em ((lcmpW zs q14) = (0 : Int32)) with hm13 | hm13
      · first | simp only [if_pos hm13] at k | skip
        refine XS.ifNo X0.here hx rfl (hb hby at_272) rfl ((if0 _ _).trans (teq hm13).2) ?_
        refine XS.iconst X0.here hx rfl (hb hby at_275) ?_
        refine XS.goto X0.here hx rfl (pc0 := 276) (pc' := 280) rfl (hb hby at_276) (by decide) (by decide) ?_
        exact k
      · first | simp only [if_neg hm13] at k | skip
        refine XS.ifYes X0.here hx rfl (pc0 := 272) (pc' := 279) rfl (hb hby at_272) rfl ((if0 _ _).trans (feq hm13).2) (by decide) (by decide) ?_
        refine XS.iconst X0.here hx rfl (hb hby at_279) ?_
        exact k
  have pre15 : ∀ t, Steps p.tables e below (T0.setTop (mkF m 284 #[(vi p6), (vl q7), .second, (vl q8), .second, (vl q9), .second, (vi gv1), (vi gv2), (vi gv3), (vi p10), (vi p11), (vi p12), (vl q13), .second, (vl q14), .second, (vl q15), .second, (vr a16), (vr a17), (vr a18), (vi gv4), (vi gv5), (vi zh), (vl zs), .second, (vl zg), .second, (vi ze), .unset, .unset, .unset] [(.int ze)])) t → Steps p.tables e below (T0.setTop (mkF m 220 #[(vi p6), (vl q7), .second, (vl q8), .second, (vl q9), .second, (vi gv1), (vi gv2), (vi gv3), (vi p10), (vi p11), (vi p12), (vl q13), .second, (vl q14), .second, (vl q15), .second, (vr a16), (vr a17), (vr a18), (vi gv4), (vi gv5), .unset, .unset, .unset, .unset, .unset, .unset, .unset, .unset, .unset] [])) t := by
    intro t k
    refine pre14 t ?_
    show Steps p.tables e below (T0.setTop (mkF m 280 #[(vi p6), (vl q7), .second, (vl q8), .second, (vl q9), .second, (vi gv1), (vi gv2), (vi gv3), (vi p10), (vi p11), (vi p12), (vl q13), .second, (vl q14), .second, (vl q15), .second, (vr a16), (vr a17), (vr a18), (vi gv4), (vi gv5), (vi zh), (vl zs), .second, (vl zg), .second, .unset, .unset, .unset, .unset] [(.int ze)])) _
    refine XS.istore X0.here hx rfl (hb hby at_280) rfl (l' := #[(vi p6), (vl q7), .second, (vl q8), .second, (vl q9), .second, (vi gv1), (vi gv2), (vi gv3), (vi p10), (vi p11), (vi p12), (vl q13), .second, (vl q14), .second, (vl q15), .second, (vr a16), (vr a17), (vr a18), (vi gv4), (vi gv5), (vi zh), (vl zs), .second, (vl zg), .second, (vi ze), .unset, .unset, .unset]) rfl ?_
    refine XS.iload X0.here hx rfl (hb hby at_282) rfl ?_
    exact k
  obtain ⟨zb, hzb⟩ : ∃ z : Int32, z = (if ze = (0 : Int32) then (0 : Int32) else (if gv3 = (0 : Int32) then (0 : Int32) else (1 : Int32))) := ⟨_, rfl⟩
  have pre18 : ∀ t, Steps p.tables e below (T0.setTop (mkF m 297 #[(vi p6), (vl q7), .second, (vl q8), .second, (vl q9), .second, (vi gv1), (vi gv2), (vi gv3), (vi p10), (vi p11), (vi p12), (vl q13), .second, (vl q14), .second, (vl q15), .second, (vr a16), (vr a17), (vr a18), (vi gv4), (vi gv5), (vi zh), (vl zs), .second, (vl zg), .second, (vi ze), .unset, .unset, .unset] [(.int zb)])) t → Steps p.tables e below (T0.setTop (mkF m 220 #[(vi p6), (vl q7), .second, (vl q8), .second, (vl q9), .second, (vi gv1), (vi gv2), (vi gv3), (vi p10), (vi p11), (vi p12), (vl q13), .second, (vl q14), .second, (vl q15), .second, (vr a16), (vr a17), (vr a18), (vi gv4), (vi gv5), .unset, .unset, .unset, .unset, .unset, .unset, .unset, .unset, .unset] [])) t := by
    intro t k
    rw [hzb] at k
    refine pre15 t ?_
    show Steps p.tables e below (T0.setTop (mkF m 284 #[(vi p6), (vl q7), .second, (vl q8), .second, (vl q9), .second, (vi gv1), (vi gv2), (vi gv3), (vi p10), (vi p11), (vi p12), (vl q13), .second, (vl q14), .second, (vl q15), .second, (vr a16), (vr a17), (vr a18), (vi gv4), (vi gv5), (vi zh), (vl zs), .second, (vl zg), .second, (vi ze), .unset, .unset, .unset] [(.int ze)])) _
    rcases Decidable.em (ze = (0 : Int32)) with hm16 | hm16
    · first | simp only [if_pos hm16] at k | skip
      refine XS.ifYes X0.here hx rfl (pc0 := 284) (pc' := 296) rfl (hb hby at_284) rfl ((if0 _ _).trans (teq hm16).1) (by decide) (by decide) ?_
      refine XS.iconst X0.here hx rfl (hb hby at_296) ?_
      exact k
    · first | simp only [if_neg hm16] at k | skip
      refine XS.ifNo X0.here hx rfl (hb hby at_284) rfl ((if0 _ _).trans (feq hm16).1) ?_
      refine XS.iload X0.here hx rfl (hb hby at_287) rfl ?_
      rcases Decidable.em (gv3 = (0 : Int32)) with hm17 | hm17
      · first | simp only [if_pos hm17] at k | skip
        refine XS.ifYes X0.here hx rfl (pc0 := 289) (pc' := 296) rfl (hb hby at_289) rfl ((if0 _ _).trans (teq hm17).1) (by decide) (by decide) ?_
        refine XS.iconst X0.here hx rfl (hb hby at_296) ?_
        exact k
      · first | simp only [if_neg hm17] at k | skip
        refine XS.ifNo X0.here hx rfl (hb hby at_289) rfl ((if0 _ _).trans (feq hm17).1) ?_
        refine XS.iconst X0.here hx rfl (hb hby at_292) ?_
        refine XS.goto X0.here hx rfl (pc0 := 293) (pc' := 297) rfl (hb hby at_293) (by decide) (by decide) ?_
        exact k
  have pre19 : ∀ t, Steps p.tables e below (T0.setTop (mkF m 301 #[(vi p6), (vl q7), .second, (vl q8), .second, (vl q9), .second, (vi gv1), (vi gv2), (vi gv3), (vi p10), (vi p11), (vi p12), (vl q13), .second, (vl q14), .second, (vl q15), .second, (vr a16), (vr a17), (vr a18), (vi gv4), (vi gv5), (vi zh), (vl zs), .second, (vl zg), .second, (vi ze), (vi zb), .unset, .unset] [(.int gv1)])) t → Steps p.tables e below (T0.setTop (mkF m 220 #[(vi p6), (vl q7), .second, (vl q8), .second, (vl q9), .second, (vi gv1), (vi gv2), (vi gv3), (vi p10), (vi p11), (vi p12), (vl q13), .second, (vl q14), .second, (vl q15), .second, (vr a16), (vr a17), (vr a18), (vi gv4), (vi gv5), .unset, .unset, .unset, .unset, .unset, .unset, .unset, .unset, .unset] [])) t := by
    intro t k
    refine pre18 t ?_
    show Steps p.tables e below (T0.setTop (mkF m 297 #[(vi p6), (vl q7), .second, (vl q8), .second, (vl q9), .second, (vi gv1), (vi gv2), (vi gv3), (vi p10), (vi p11), (vi p12), (vl q13), .second, (vl q14), .second, (vl q15), .second, (vr a16), (vr a17), (vr a18), (vi gv4), (vi gv5), (vi zh), (vl zs), .second, (vl zg), .second, (vi ze), .unset, .unset, .unset] [(.int zb)])) _
    refine XS.istore X0.here hx rfl (hb hby at_297) rfl (l' := #[(vi p6), (vl q7), .second, (vl q8), .second, (vl q9), .second, (vi gv1), (vi gv2), (vi gv3), (vi p10), (vi p11), (vi p12), (vl q13), .second, (vl q14), .second, (vl q15), .second, (vr a16), (vr a17), (vr a18), (vi gv4), (vi gv5), (vi zh), (vl zs), .second, (vl zg), .second, (vi ze), (vi zb), .unset, .unset]) rfl ?_
    refine XS.iload X0.here hx rfl (hb hby at_299) rfl ?_
    exact k
  obtain ⟨zr, hzr⟩ : ∃ z : Int32, z = (if gv1 = (0 : Int32) then (0 : Int32) else (if gv2 = (0 : Int32) then (0 : Int32) else (if (lcmpW q13 q14) = (0 : Int32) then (0 : Int32) else (1 : Int32)))) := ⟨_, rfl⟩
  have pre23 : ∀ t, Steps p.tables e below (T0.setTop (mkF m 322 #[(vi p6), (vl q7), .second, (vl q8), .second, (vl q9), .second, (vi gv1), (vi gv2), (vi gv3), (vi p10), (vi p11), (vi p12), (vl q13), .second, (vl q14), .second, (vl q15), .second, (vr a16), (vr a17), (vr a18), (vi gv4), (vi gv5), (vi zh), (vl zs), .second, (vl zg), .second, (vi ze), (vi zb), .unset, .unset] [(.int zr)])) t → Steps p.tables e below (T0.setTop (mkF m 220 #[(vi p6), (vl q7), .second, (vl q8), .second, (vl q9), .second, (vi gv1), (vi gv2), (vi gv3), (vi p10), (vi p11), (vi p12), (vl q13), .second, (vl q14), .second, (vl q15), .second, (vr a16), (vr a17), (vr a18), (vi gv4), (vi gv5), .unset, .unset, .unset, .unset, .unset, .unset, .unset, .unset, .unset] [])) t := by
    intro t k
    rw [hzr] at k
    refine pre19 t ?_
    show Steps p.tables e below (T0.setTop (mkF m 301 #[(vi p6), (vl q7), .second, (vl q8), .second, (vl q9), .second, (vi gv1), (vi gv2), (vi gv3), (vi p10), (vi p11), (vi p12), (vl q13), .second, (vl q14), .second, (vl q15), .second, (vr a16), (vr a17), (vr a18), (vi gv4), (vi gv5), (vi zh), (vl zs), .second, (vl zg), .second, (vi ze), (vi zb), .unset, .unset] [(.int gv1)])) _
    rcases Decidable.em (gv1 = (0 : Int32)) with hm20 | hm20
    · first | simp only [if_pos hm20] at k | skip
      refine XS.ifYes X0.here hx rfl (pc0 := 301) (pc' := 321) rfl (hb hby at_301) rfl ((if0 _ _).trans (teq hm20).1) (by decide) (by decide) ?_
      refine XS.iconst X0.here hx rfl (hb hby at_321) ?_
      exact k
    · first | simp only [if_neg hm20] at k | skip
      refine XS.ifNo X0.here hx rfl (hb hby at_301) rfl ((if0 _ _).trans (feq hm20).1) ?_
      refine XS.iload X0.here hx rfl (hb hby at_304) rfl ?_
      rcases Decidable.em (gv2 = (0 : Int32)) with hm21 | hm21
      · first | simp only [if_pos hm21] at k | skip
        refine XS.ifYes X0.here hx rfl (pc0 := 306) (pc' := 321) rfl (hb hby at_306) rfl ((if0 _ _).trans (teq hm21).1) (by decide) (by decide) ?_
        refine XS.iconst X0.here hx rfl (hb hby at_321) ?_
        exact k
      · first | simp only [if_neg hm21] at k | skip
        refine XS.ifNo X0.here hx rfl (hb hby at_306) rfl ((if0 _ _).trans (feq hm21).1) ?_
        refine XS.lload X0.here hx rfl (hb hby at_309) rfl ?_
        refine XS.lload X0.here hx rfl (hb hby at_311) rfl ?_
        refine XS.lcmp X0.here hx rfl (hb hby at_313) rfl ?_
        rcases Decidable.em ((lcmpW q13 q14) = (0 : Int32)) with hm22 | hm22
        · first | simp only [if_pos hm22] at k | skip
          refine XS.ifYes X0.here hx rfl (pc0 := 314) (pc' := 321) rfl (hb hby at_314) rfl ((if0 _ _).trans (teq hm22).1) (by decide) (by decide) ?_
          refine XS.iconst X0.here hx rfl (hb hby at_321) ?_
          exact k
        · first | simp only [if_neg hm22] at k | skip
          refine XS.ifNo X0.here hx rfl (hb hby at_314) rfl ((if0 _ _).trans (feq hm22).1) ?_
          refine XS.iconst X0.here hx rfl (hb hby at_317) ?_
          show Steps p.tables e below (T0.setTop (mkF m 318 #[(vi p6), (vl q7), .second, (vl q8), .second, (vl q9), .second, (vi gv1), (vi gv2), (vi gv3), (vi p10), (vi p11), (vi p12), (vl q13), .second, (vl q14), .second, (vl q15), .second, (vr a16), (vr a17), (vr a18), (vi gv4), (vi gv5), (vi zh), (vl zs), .second, (vl zg), .second, (vi ze), (vi zb), .unset, .unset] [(.int 1)])) _
          refine XS.goto X0.here hx rfl (pc0 := 318) (pc' := 322) rfl (hb hby at_318) (by decide) (by decide) ?_
          exact k
  have pre24 : ∀ t, Steps p.tables e below (T0.setTop (mkF m 326 #[(vi p6), (vl q7), .second, (vl q8), .second, (vl q9), .second, (vi gv1), (vi gv2), (vi gv3), (vi p10), (vi p11), (vi p12), (vl q13), .second, (vl q14), .second, (vl q15), .second, (vr a16), (vr a17), (vr a18), (vi gv4), (vi gv5), (vi zh), (vl zs), .second, (vl zg), .second, (vi ze), (vi zb), (vi zr), .unset] [(.int ze)])) t → Steps p.tables e below (T0.setTop (mkF m 220 #[(vi p6), (vl q7), .second, (vl q8), .second, (vl q9), .second, (vi gv1), (vi gv2), (vi gv3), (vi p10), (vi p11), (vi p12), (vl q13), .second, (vl q14), .second, (vl q15), .second, (vr a16), (vr a17), (vr a18), (vi gv4), (vi gv5), .unset, .unset, .unset, .unset, .unset, .unset, .unset, .unset, .unset] [])) t := by
    intro t k
    refine pre23 t ?_
    show Steps p.tables e below (T0.setTop (mkF m 322 #[(vi p6), (vl q7), .second, (vl q8), .second, (vl q9), .second, (vi gv1), (vi gv2), (vi gv3), (vi p10), (vi p11), (vi p12), (vl q13), .second, (vl q14), .second, (vl q15), .second, (vr a16), (vr a17), (vr a18), (vi gv4), (vi gv5), (vi zh), (vl zs), .second, (vl zg), .second, (vi ze), (vi zb), .unset, .unset] [(.int zr)])) _
    refine XS.istore X0.here hx rfl (hb hby at_322) rfl (l' := #[(vi p6), (vl q7), .second, (vl q8), .second, (vl q9), .second, (vi gv1), (vi gv2), (vi gv3), (vi p10), (vi p11), (vi p12), (vl q13), .second, (vl q14), .second, (vl q15), .second, (vr a16), (vr a17), (vr a18), (vi gv4), (vi gv5), (vi zh), (vl zs), .second, (vl zg), .second, (vi ze), (vi zb), (vi zr), .unset]) rfl ?_
    refine XS.iload X0.here hx rfl (hb hby at_324) rfl ?_
    exact k
  obtain ⟨zn, hzn⟩ : ∃ z : Int64, z = (if ze = (0 : Int32) then zg else (if gv3 = (0 : Int32) then (if zr = (0 : Int32) then zg else (zg + (1 : Int64))) else zg)) := ⟨_, rfl⟩
  have pre28 : ∀ t, Steps p.tables e below (T0.setTop (mkF m 345 #[(vi p6), (vl q7), .second, (vl q8), .second, (vl q9), .second, (vi gv1), (vi gv2), (vi gv3), (vi p10), (vi p11), (vi p12), (vl q13), .second, (vl q14), .second, (vl q15), .second, (vr a16), (vr a17), (vr a18), (vi gv4), (vi gv5), (vi zh), (vl zs), .second, (vl zn), .second, (vi ze), (vi zb), (vi zr), .unset] [])) t → Steps p.tables e below (T0.setTop (mkF m 220 #[(vi p6), (vl q7), .second, (vl q8), .second, (vl q9), .second, (vi gv1), (vi gv2), (vi gv3), (vi p10), (vi p11), (vi p12), (vl q13), .second, (vl q14), .second, (vl q15), .second, (vr a16), (vr a17), (vr a18), (vi gv4), (vi gv5), .unset, .unset, .unset, .unset, .unset, .unset, .unset, .unset, .unset] [])) t := by
    intro t k
    rw [hzn] at k
    refine pre24 t ?_
    show Steps p.tables e below (T0.setTop (mkF m 326 #[(vi p6), (vl q7), .second, (vl q8), .second, (vl q9), .second, (vi gv1), (vi gv2), (vi gv3), (vi p10), (vi p11), (vi p12), (vl q13), .second, (vl q14), .second, (vl q15), .second, (vr a16), (vr a17), (vr a18), (vi gv4), (vi gv5), (vi zh), (vl zs), .second, (vl zg), .second, (vi ze), (vi zb), (vi zr), .unset] [(.int ze)])) _
    rcases Decidable.em (ze = (0 : Int32)) with hm25 | hm25
    · first | simp only [if_pos hm25] at k | skip
      refine XS.ifYes X0.here hx rfl (pc0 := 326) (pc' := 345) rfl (hb hby at_326) rfl ((if0 _ _).trans (teq hm25).1) (by decide) (by decide) ?_
      exact k
    · first | simp only [if_neg hm25] at k | skip
      refine XS.ifNo X0.here hx rfl (hb hby at_326) rfl ((if0 _ _).trans (feq hm25).1) ?_
      refine XS.iload X0.here hx rfl (hb hby at_329) rfl ?_
      rcases Decidable.em (gv3 = (0 : Int32)) with hm26 | hm26
      · first | simp only [if_pos hm26] at k | skip
        refine XS.ifNo X0.here hx rfl (hb hby at_331) rfl ((if0 _ _).trans (teq hm26).2) ?_
        refine XS.iload X0.here hx rfl (hb hby at_334) rfl ?_
        rcases Decidable.em (zr = (0 : Int32)) with hm27 | hm27
        · first | simp only [if_pos hm27] at k | skip
          refine XS.ifYes X0.here hx rfl (pc0 := 336) (pc' := 345) rfl (hb hby at_336) rfl ((if0 _ _).trans (teq hm27).1) (by decide) (by decide) ?_
          exact k
        · first | simp only [if_neg hm27] at k | skip
          refine XS.ifNo X0.here hx rfl (hb hby at_336) rfl ((if0 _ _).trans (feq hm27).1) ?_
          refine XS.lload X0.here hx rfl (hb hby at_339) rfl ?_
          refine XS.lconst X0.here hx rfl (hb hby at_341) ?_
          refine XS.ladd X0.here hx rfl (hb hby at_342) rfl ?_
          show Steps p.tables e below (T0.setTop (mkF m 343 #[(vi p6), (vl q7), .second, (vl q8), .second, (vl q9), .second, (vi gv1), (vi gv2), (vi gv3), (vi p10), (vi p11), (vi p12), (vl q13), .second, (vl q14), .second, (vl q15), .second, (vr a16), (vr a17), (vr a18), (vi gv4), (vi gv5), (vi zh), (vl zs), .second, (vl zg), .second, (vi ze), (vi zb), (vi zr), .unset] [(.long (zg + (1 : Int64)))])) _
          refine XS.lstore X0.here hx rfl (hb hby at_343) rfl (l' := #[(vi p6), (vl q7), .second, (vl q8), .second, (vl q9), .second, (vi gv1), (vi gv2), (vi gv3), (vi p10), (vi p11), (vi p12), (vl q13), .second, (vl q14), .second, (vl q15), .second, (vr a16), (vr a17), (vr a18), (vi gv4), (vi gv5), (vi zh), (vl zs), .second, .val (.long (zg + (1 : Int64))), .second, (vi ze), (vi zb), (vi zr), .unset]) rfl ?_
          exact k
      · first | simp only [if_neg hm26] at k | skip
        refine XS.ifYes X0.here hx rfl (pc0 := 331) (pc' := 345) rfl (hb hby at_331) rfl ((if0 _ _).trans (feq hm26).2) (by decide) (by decide) ?_
        exact k
  have pre29 : ∀ t, Steps p.tables e below (T0.setTop (mkF m 347 #[(vi p6), (vl q7), .second, (vl q8), .second, (vl q9), .second, (vi gv1), (vi gv2), (vi gv3), (vi p10), (vi p11), (vi p12), (vl q13), .second, (vl q14), .second, (vl q15), .second, (vr a16), (vr a17), (vr a18), (vi gv4), (vi gv5), (vi zh), (vl zs), .second, (vl zn), .second, (vi ze), (vi zb), (vi zr), .unset] [(.int zb)])) t → Steps p.tables e below (T0.setTop (mkF m 220 #[(vi p6), (vl q7), .second, (vl q8), .second, (vl q9), .second, (vi gv1), (vi gv2), (vi gv3), (vi p10), (vi p11), (vi p12), (vl q13), .second, (vl q14), .second, (vl q15), .second, (vr a16), (vr a17), (vr a18), (vi gv4), (vi gv5), .unset, .unset, .unset, .unset, .unset, .unset, .unset, .unset, .unset] [])) t := by
    intro t k
    refine pre28 t ?_
    show Steps p.tables e below (T0.setTop (mkF m 345 #[(vi p6), (vl q7), .second, (vl q8), .second, (vl q9), .second, (vi gv1), (vi gv2), (vi gv3), (vi p10), (vi p11), (vi p12), (vl q13), .second, (vl q14), .second, (vl q15), .second, (vr a16), (vr a17), (vr a18), (vi gv4), (vi gv5), (vi zh), (vl zs), .second, (vl zn), .second, (vi ze), (vi zb), (vi zr), .unset] [])) _
    refine XS.iload X0.here hx rfl (hb hby at_345) rfl ?_
    exact k
  obtain ⟨exp, hexp⟩ : ∃ z : Int32, z = (if zb = (0 : Int32) then (0 : Int32) else (if (lcmpW zn q15) = (0 : Int32) then (1 : Int32) else (0 : Int32))) := ⟨_, rfl⟩
  have pre32 : ∀ t, Steps p.tables e below (T0.setTop (mkF m 363 #[(vi p6), (vl q7), .second, (vl q8), .second, (vl q9), .second, (vi gv1), (vi gv2), (vi gv3), (vi p10), (vi p11), (vi p12), (vl q13), .second, (vl q14), .second, (vl q15), .second, (vr a16), (vr a17), (vr a18), (vi gv4), (vi gv5), (vi zh), (vl zs), .second, (vl zn), .second, (vi ze), (vi zb), (vi zr), .unset] [(.int exp)])) t → Steps p.tables e below (T0.setTop (mkF m 220 #[(vi p6), (vl q7), .second, (vl q8), .second, (vl q9), .second, (vi gv1), (vi gv2), (vi gv3), (vi p10), (vi p11), (vi p12), (vl q13), .second, (vl q14), .second, (vl q15), .second, (vr a16), (vr a17), (vr a18), (vi gv4), (vi gv5), .unset, .unset, .unset, .unset, .unset, .unset, .unset, .unset, .unset] [])) t := by
    intro t k
    rw [hexp] at k
    refine pre29 t ?_
    show Steps p.tables e below (T0.setTop (mkF m 347 #[(vi p6), (vl q7), .second, (vl q8), .second, (vl q9), .second, (vi gv1), (vi gv2), (vi gv3), (vi p10), (vi p11), (vi p12), (vl q13), .second, (vl q14), .second, (vl q15), .second, (vr a16), (vr a17), (vr a18), (vi gv4), (vi gv5), (vi zh), (vl zs), .second, (vl zn), .second, (vi ze), (vi zb), (vi zr), .unset] [(.int zb)])) _
    rcases Decidable.em (zb = (0 : Int32)) with hm30 | hm30
    · first | simp only [if_pos hm30] at k | skip
      refine XS.ifYes X0.here hx rfl (pc0 := 347) (pc' := 362) rfl (hb hby at_347) rfl ((if0 _ _).trans (teq hm30).1) (by decide) (by decide) ?_
      refine XS.iconst X0.here hx rfl (hb hby at_362) ?_
      exact k
    · first | simp only [if_neg hm30] at k | skip
      refine XS.ifNo X0.here hx rfl (hb hby at_347) rfl ((if0 _ _).trans (feq hm30).1) ?_
      refine XS.lload X0.here hx rfl (hb hby at_350) rfl ?_
      refine XS.lload X0.here hx rfl (hb hby at_352) rfl ?_
      refine XS.lcmp X0.here hx rfl (hb hby at_354) rfl ?_
      rcases Decidable.em ((lcmpW zn q15) = (0 : Int32)) with hm31 | hm31
      · first | simp only [if_pos hm31] at k | skip
        refine XS.ifNo X0.here hx rfl (hb hby at_355) rfl ((if0 _ _).trans (teq hm31).2) ?_
        refine XS.iconst X0.here hx rfl (hb hby at_358) ?_
        refine XS.goto X0.here hx rfl (pc0 := 359) (pc' := 363) rfl (hb hby at_359) (by decide) (by decide) ?_
        exact k
      · first | simp only [if_neg hm31] at k | skip
        refine XS.ifYes X0.here hx rfl (pc0 := 355) (pc' := 362) rfl (hb hby at_355) rfl ((if0 _ _).trans (feq hm31).2) (by decide) (by decide) ?_
        refine XS.iconst X0.here hx rfl (hb hby at_362) ?_
        exact k
  obtain ⟨fs, hr, hrun, hended, hW, hsame⟩ := X0.leave (v := some (.int 1)) (fun h => by rw [hret0] at h; cases h)
  refine ⟨_, _, pre32 _ ?_, hrun, hended, _, _, rfl, ?_, ⟨_, rfl⟩, hW, hsame.mono (by decide) (by decide)⟩
  · skip
    show Steps p.tables e below (T0.setTop (mkF m 363 #[(vi p6), (vl q7), .second, (vl q8), .second, (vl q9), .second, (vi gv1), (vi gv2), (vi gv3), (vi p10), (vi p11), (vi p12), (vl q13), .second, (vl q14), .second, (vl q15), .second, (vr a16), (vr a17), (vr a18), (vi gv4), (vi gv5), (vi zh), (vl zs), .second, (vl zn), .second, (vi ze), (vi zb), (vi zr), .unset] [(.int exp)])) _
    refine XS.istore X0.here hx rfl (hb hby at_363) rfl (l' := #[(vi p6), (vl q7), .second, (vl q8), .second, (vl q9), .second, (vi gv1), (vi gv2), (vi gv3), (vi p10), (vi p11), (vi p12), (vl q13), .second, (vl q14), .second, (vl q15), .second, (vr a16), (vr a17), (vr a18), (vi gv4), (vi gv5), (vi zh), (vl zs), .second, (vl zn), .second, (vi ze), (vi zb), (vi zr), (vi exp)]) rfl ?_
    refine XS.iload X0.here hx rfl (hb hby at_365) rfl ?_
    refine XS.ifNo X0.here hx rfl (hb hby at_367) rfl ((if0 _ _).trans (teq (P1 : gv4 = (0 : Int32))).2) ?_
    refine XS.iload X0.here hx rfl (hb hby at_370) rfl ?_
    refine XS.iload X0.here hx rfl (hb hby at_372) rfl ?_
    refine XS.icmpNo X0.here hx rfl (hb hby at_374) rfl (teq (P0.trans (own_fin hzh hzs hzg hze hzb hzr hzn hexp) : gv5 = exp)).2 ?_
    refine XS.iconst X0.here hx rfl (hb hby at_377) ?_
    refine XS.goto X0.here hx rfl (pc0 := 378) (pc' := 382) rfl (hb hby at_378) (by decide) (by decide) ?_
    show Steps p.tables e below (T0.setTop (mkF m 382 #[(vi p6), (vl q7), .second, (vl q8), .second, (vl q9), .second, (vi gv1), (vi gv2), (vi gv3), (vi p10), (vi p11), (vi p12), (vl q13), .second, (vl q14), .second, (vl q15), .second, (vr a16), (vr a17), (vr a18), (vi gv4), (vi gv5), (vi zh), (vl zs), .second, (vl zn), .second, (vi ze), (vi zb), (vi zr), (vi exp)] [(.int 1)])) _
    exact retN X0 hx (t := .boolean) hret0 (by simp) (hb hby at_382) hr
  · skip
    exact ⟨rfl, N0⟩
theorem ef_au7_1 (m : MethodId) (x0 : Addr) (x1 : Int64) (x2 : Int32)  : entryFrame m #[(.ref x0), (.long x1), (.int x2)] 6 = mkF m 0 #[(vr x0), (vl x1), .second, (vi x2), .unset, .unset] [] := by first | (simp [entryFrame, mkF, argsToLocals, Value.category]; done) | rfl
def Q_au7_1 (Z : State) (wMAX_LOCK_DELAY : Addr) (wGRANTED : Addr) (wQUEUED : Addr) (wZERO : Addr) (a1 : Addr) (q2 : Int64) (a4 : Addr) (a5 : Addr) (k6 : ClassId) (h0 : Heap) (n0 : Nat) (v : Option Value) (h : Heap) (L : List Loc) : Prop := v = some .null ∧ Fr n0 L ∧ Keep h0 h []
theorem au7_1 (l : Launch) (Z : State) (a0 : Array Value) (hw : ∀ d ∈ tables_1, d.before a0 Z = true) (ws : List Jvm.Cond) (wMAX_LOCK_DELAY : Addr) (wGRANTED : Addr) (wQUEUED : Addr) (wZERO : Addr) (hS : SS Z wMAX_LOCK_DELAY wGRANTED wQUEUED wZERO) (a1 : Addr) (q2 : Int64) (a4 : Addr) (a5 : Addr) (k6 : ClassId) (h0 : Heap) (n0 : Nat) (O0 : Old Z n0 h0) (P0 : Exa Z h0 a1 s4n) (P3 : Fld Z h0 a1 s4n "holder" s9n .null) (P5 : Fld Z h0 a1 s4n "waiters" s11n (.ref a4)) (P6 : Exa Z h0 a4 s6n) (P7 : Fld Z h0 a4 s6n "elements" s7n (.ref a5)) (P8 : Fld Z h0 a4 s6n "head" "I" (.int 0)) (P9 : Fld Z h0 a4 s6n "tail" "I" (.int 0)) (P10 : Arv Z h0 a5 k6 (.object s8n) (17 : Int32) ([.null, .null, .null, .null, .null, .null, .null, .null, .null, .null, .null, .null, .null, .null, .null, .null, .null]) .null) :
    MetB l M12 prog_84_method_14_code 6 (some (.object s3n)) ws (rmk 4 1 4 53) Z h0 #[(.ref a1), (.long q2), (.int 1)] (Q_au7_1 Z wMAX_LOCK_DELAY wGRANTED wQUEUED wZERO a1 q2 a4 a5 k6 h0 n0) := by
  refine own_body (plainFor_of_name pn_com_example_umpired_umpired_server_NodeLock) ?_
  intro p e s m below meth c s₁ hx hby hml hown hnm hret0 hlk0 hZ X0 e0
  have N0 := Fr.nil n0
  have pre0 : ∀ t, Steps p.tables e below (s₁.setTop (mkF m 0 #[(vr a1), (vl q2), .second, (vi 1), .unset, .unset] [])) t → Steps p.tables e below (s₁.setTop (entryFrame m #[(.ref a1), (.long q2), (.int 1)] 6)) t := fun t k => castTop (ef_au7_1 m a1 q2 (1 : Int32)) k
  have K0 := Keep.refl h0 []
  have hS0 := hS
  obtain ⟨S_wMAX_LOCK_DELAY, E_wMAX_LOCK_DELAY, S_wGRANTED, E_wGRANTED, S_wQUEUED, E_wQUEUED, F_seconds_wMAX_LOCK_DELAY, F_nanos_wMAX_LOCK_DELAY, S_wZERO, E_wZERO, F_seconds_wZERO, F_nanos_wZERO⟩ := hS0
  obtain ⟨T1, X1, e1, st1⟩ := getF X0 hx hZ hown (host := "") (Or.inl (ow hw 27 rfl)) Via.refl e0 P5 (g := (mkF m 1 #[(vr a1), (vl q2), .second, (vi 1), .unset, .unset] [(.ref a1)])) rfl rfl (hb hby d7_1)
  obtain ⟨cq2, kq2, q2a, q2b, q2c⟩ := isOf hZ e1 P6
  obtain ⟨_, _, ⟨T2, L2, k2, n2⟩, -, X2, ⟨Lc2, hQ2, l2, y2, z2⟩, st2⟩ := X1.interfaceBack hx (xi := M13) (y := M9) hown (mvT hZ (ow hw 57 rfl)) (mvT hZ (ow hw 58 rfl)) (mvT hZ (ow hw 59 rfl)) (mvT hZ (ow hw 60 rfl)) (mvT hZ (ow hw 61 rfl)) (mvT hZ (ow hw 62 rfl)) (mvT hZ (ow hw 63 rfl)) (mvT hZ (ow hw 64 rfl)) (by decide) (backOf (W := 0) (au8_0 l Z a0 hw [] wMAX_LOCK_DELAY wGRANTED wQUEUED wZERO hS a4 a5 k6 h0 n0 O0 P6 P7 P8 P9 P10) hZ (ow hw 65 rfl) (ow hw 12 rfl) (by decide) (by decide)) q2a q2b q2c (g := (mkF m 4 #[(vr a1), (vl q2), .second, (vi 1), .unset, .unset] [(.ref a4)])) rfl (by rw [hml]; rfl) (Steps.refl _) (argsL := []) (rest := []) (lenOf pd_6 rfl) rfl (by show 2 * 0 + _ ≤ _; exact Nat.le_of_eq rfl) (hb hby d7_4) (fun _ _ => ⟨rfl, e1, (by decide : 0 + 1 ≤ _), (by decide : 0 + 4 ≤ _)⟩)
  dsimp only [Pt.U, Pt.locs, Pt.cells, Pt.slots] at X2 l2 y2 z2 st2 hQ2
  subst l2 y2 z2
  obtain ⟨e1_2, rfl, Nq2, K2q, p2_0, p2_1, p2_2, p2_3, p2_4, p2_5⟩ := hQ2
  have N2 := Fr.app N0 Nq2
  have ne3 : a1 ≠ e1_2 := Nat.ne_of_lt (Nat.lt_of_lt_of_le P0.lt p2_0)
  have ne4 : a4 ≠ e1_2 := Nat.ne_of_lt (Nat.lt_of_lt_of_le P6.lt p2_0)
  have ne5 : a5 ≠ e1_2 := Nat.ne_of_lt (Nat.lt_of_lt_of_le P10.lt p2_0)
  have g6 : n0 ≤ e1_2 := Nat.le_trans (own_sz O0) p2_0
  have sz7 : h0.size ≤ e1_2 := Nat.le_trans K0.1 p2_0
  have O8 : Old Z n0 T2.heap := O0.keep K2q all0
  have K8 : Keep h0 T2.heap [] := K0.trans K2q all0
  obtain ⟨cq9, kq9, q9a, q9b, q9c⟩ := isOf hZ rfl p2_1
  obtain ⟨_, _, ⟨T9, L9, k9, n9⟩, -, X9, ⟨Lc9, hQ9, l9, y9, z9⟩, st9⟩ := X2.interfaceBack hx (xi := M14) (y := M10) hown (mvT hZ (ow hw 95 rfl)) (mvT hZ (ow hw 96 rfl)) (mvT hZ (ow hw 97 rfl)) (mvT hZ (ow hw 98 rfl)) (mvT hZ (ow hw 99 rfl)) (mvT hZ (ow hw 100 rfl)) (mvT hZ (ow hw 101 rfl)) (mvT hZ (ow hw 102 rfl)) (by decide) (backOf (W := 0) (au12_0 l Z a0 hw [] wMAX_LOCK_DELAY wGRANTED wQUEUED wZERO hS e1_2 T2.heap n0 O8 p2_4) hZ (ow hw 103 rfl) (ow hw 68 rfl) (by decide) (by decide)) q9a q9b q9c (g := (mkF m 13 #[(vr a1), (vl q2), .second, (vi 1), (vr e1_2), .unset] [(.ref e1_2)])) rfl (by rw [hml]; rfl) (Steps.refl _) (argsL := []) (rest := []) (lenOf pd_7 rfl) rfl (by show 2 * 0 + _ ≤ _; exact Nat.le_of_eq rfl) (hb hby d7_13) (fun _ _ => ⟨rfl, rfl, (by decide : 1 + 0 ≤ _), (by decide : 4 + 0 ≤ _)⟩)
  dsimp only [Pt.U, Pt.locs, Pt.cells, Pt.slots] at X9 l9 y9 z9 st9 hQ9
  subst l9 y9 z9
  obtain ⟨rfl, Nq9, K9q⟩ := hQ9
  have N9 := Fr.app N2 Nq9
  have f10 : Fld Z T2.heap a1 s4n "holder" s9n .null := (P3.keep K2q nin0)
  have f12 : Exa Z T2.heap a1 s4n := (P0.keep K2q)
  obtain ⟨cq11, kq11, q11a, q11b, q11c⟩ := isOf hZ K9q f12
  obtain ⟨_, _, ⟨T11, L11, k11, n11⟩, -, X11, ⟨Lc11, hQ11, l11, y11, z11⟩, st11⟩ := X9.virtualBack hx (y := M11) (z := M11) hown (mvT hZ (ow hw 104 rfl)) (mvT hZ (ow hw 105 rfl)) (notFace_of_selects (args := #[]) (mvT hZ (ow hw 107 rfl))) (mvT hZ (ow hw 107 rfl)) (mvT hZ (ow hw 106 rfl)) (by decide) (backOf (W := 0) (au13_0 l Z a0 hw [] wMAX_LOCK_DELAY wGRANTED wQUEUED wZERO hS a1 q2 T2.heap n0 O8 f10) hZ (ow hw 108 rfl) (ow hw 3 rfl) (by decide) (by decide)) q11a q11c (g := (mkF m 57 #[(vr a1), (vl q2), .second, (vi 1), (vr e1_2), .val .null] [(.long q2), (.ref a1)])) rfl (by rw [hml]; rfl) (Steps.refl _) (argsL := [(.long q2)]) (rest := []) (lenOf pd_2 rfl) rfl (by show 2 * 0 + _ ≤ _; exact Nat.le_of_eq rfl) (hb hby d7_57) (fun _ _ => ⟨rfl, K9q, (by decide : 1 + 0 ≤ _), (by decide : 4 + 0 ≤ _)⟩)
  dsimp only [Pt.U, Pt.locs, Pt.cells, Pt.slots] at X11 l11 y11 z11 st11 hQ11
  subst l11 y11 z11
  obtain ⟨rfl, Nq11, K11q⟩ := hQ11
  have N11 := Fr.app N9 Nq11
  obtain ⟨fs, hr, hrun, hended, hW, hsame⟩ := X11.leave (v := some .null) (fun h => by rw [hret0] at h; cases h)
  refine ⟨_, _, pre0 _ ?_, hrun, hended, _, _, rfl, ?_, ⟨_, rfl⟩, hW, hsame.mono (by decide) (by decide)⟩
  · skip
    show Steps p.tables e below (s₁.setTop (mkF m 0 #[(vr a1), (vl q2), .second, (vi 1), .unset, .unset] [])) _
    refine XS.aloadN X0.here hx rfl (hb hby d7_0) rfl rfl ?_
    refine st1 _ ?_
    refine st2.trans ?_
    refine XS.astore X2.here hx rfl (hb hby d7_9) rfl rfl (l' := #[(vr a1), (vl q2), .second, (vi 1), (vr e1_2), .unset]) rfl ?_
    refine XS.aload X2.here hx rfl (hb hby d7_11) rfl rfl ?_
    refine st9.trans ?_
    refine XS.ifYes X9.here hx rfl (pc0 := 18) (pc' := 52) rfl (hb hby d7_18) rfl ((if0 _ _).trans (teq (by decide : (0 : Int32) = (0 : Int32))).1) (by decide) (by decide) ?_
    refine XS.aconstNull X9.here hx rfl (hb hby d7_52) ?_
    show Steps p.tables e below (T9.setTop (mkF m 53 #[(vr a1), (vl q2), .second, (vi 1), (vr e1_2), .unset] [.null])) _
    refine XS.astore X9.here hx rfl (hb hby d7_53) rfl rfl (l' := #[(vr a1), (vl q2), .second, (vi 1), (vr e1_2), .val .null]) rfl ?_
    refine XS.aloadN X9.here hx rfl (hb hby d7_55) rfl rfl ?_
    refine XS.lloadN X9.here hx rfl (hb hby d7_56) rfl ?_
    refine st11.trans ?_
    refine XS.ifYes X11.here hx rfl (pc0 := 60) (pc' := 108) rfl (hb hby d7_60) rfl ((if0 _ _).trans (teq (by decide : (0 : Int32) = (0 : Int32))).1) (by decide) (by decide) ?_
    refine XS.aload X11.here hx rfl (hb hby d7_108) rfl rfl ?_
    jvm_step X11.here [X11.here.top, hx, (hb hby d7_110), X11.method', hret0, Value.isRef, FieldType.isReference]
    first | (intro acts; rw [hr _ acts rfl rfl rfl]) | rw [hr _ _ rfl rfl rfl]
    exact Steps.refl _
  · show Q_au7_1 Z wMAX_LOCK_DELAY wGRANTED wQUEUED wZERO a1 q2 a4 a5 k6 h0 n0 _ T11.heap _
    rw [K11q]
    exact ⟨rfl, N11, K8⟩
theorem tl_tl_rm0_a_w {p : Program} {l : Launch} {e : Env} {s : State} {m : MethodId} {below : List Frame} {meth : Method} {c : Code} {T0 : State} {locs : List Loc} {Z : State} {a0 : Array Value} {h0 : Heap} {n0 : Nat} {margs : Array Value} (hw : ∀ d ∈ tables_1, d.before a0 Z = true) (wMAX_LOCK_DELAY : Addr) (wGRANTED : Addr) (wQUEUED : Addr) (wZERO : Addr) (hS : SS Z wMAX_LOCK_DELAY wGRANTED wQUEUED wZERO) (p1 : Int32) (q2 : Int64) (q3 : Int64) (q4 : Int64) (p5 : Int32) (p6 : Int32) (p7 : Int32) (p8 : Int32) (q9 : Int64) (q10 : Int64) (q11 : Int64) (a12 : Addr) (a13 : Addr) (a14 : Addr) (a15 : Addr) (a16 : Addr) (k17 : ClassId)
    (X0 : Stand p l e room_1 s m margs below meth c T0 locs 5 29) (hx : p.tables.exec = Jvm.exec) (hZ : Z.Warmed39 s.vm) (hby : c.code = code) (hml : c.maxLocals = 33) (hown : s.vm.findClass s5n = some m.cls) (hnm : meth.name = "law") (hret0 : meth.sig.returnType = some .boolean) (hlk0 : meth.locks = false) (e0 : T0.heap = h0) (N0 : Fr n0 locs) (O0 : Old Z n0 h0) (P0 : Exa Z h0 a12 s4n) (P2 : Fld Z h0 a12 s4n "heldBack" "Z" (.int 0)) (P3 : Fld Z h0 a12 s4n "holder" s9n .null) (P5 : Fld Z h0 a12 s4n "waiters" s11n (.ref a15)) (P12 : Exa Z h0 a15 s6n) (P13 : Fld Z h0 a15 s6n "elements" s7n (.ref a16)) (P14 : Fld Z h0 a15 s6n "head" "I" (.int 0)) (P15 : Fld Z h0 a15 s6n "tail" "I" (.int 0)) (P16 : Arv Z h0 a16 k17 (.object s8n) (17 : Int32) ([.null, .null, .null, .null, .null, .null, .null, .null, .null, .null, .null, .null, .null, .null, .null, .null, .null]) .null) (P26 : p5 = (0 : Int32) ∨ p5 = (1 : Int32)) :
    ∃ s₂ o, Steps p.tables e below (T0.setTop (mkF m 192 #[(vi p1), (vl q2), .second, (vl q3), .second, (vl q4), .second, (vi 0), (vi 0), (vi p5), (vi p6), (vi p7), (vi p8), (vl q9), .second, (vl q10), .second, (vl q11), .second, (vr a12), (vr a13), (vr a14), .unset, .unset, .unset, .unset, .unset, .unset, .unset, .unset, .unset, .unset, .unset] [])) s₂ ∧ s₂.status = .running ∧ Ended s₂ below o ∧ ∃ v L, o = .returned v ∧ (v = some (.int 1) ∧ Fr n0 L) ∧ FrameEnd s o s₂ L room_1.cells room_1.slots := by
  have pre0 : ∀ t, Steps p.tables e below (T0.setTop (mkF m 192 #[(vi p1), (vl q2), .second, (vl q3), .second, (vl q4), .second, (vi 0), (vi 0), (vi p5), (vi p6), (vi p7), (vi p8), (vl q9), .second, (vl q10), .second, (vl q11), .second, (vr a12), (vr a13), (vr a14), .unset, .unset, .unset, .unset, .unset, .unset, .unset, .unset, .unset, .unset, .unset] [])) t → Steps p.tables e below (T0.setTop (mkF m 192 #[(vi p1), (vl q2), .second, (vl q3), .second, (vl q4), .second, (vi 0), (vi 0), (vi p5), (vi p6), (vi p7), (vi p8), (vl q9), .second, (vl q10), .second, (vl q11), .second, (vr a12), (vr a13), (vr a14), .unset, .unset, .unset, .unset, .unset, .unset, .unset, .unset, .unset, .unset, .unset] [])) t := fun t k => k
  have hS0 := hS
  obtain ⟨S_wMAX_LOCK_DELAY, E_wMAX_LOCK_DELAY, S_wGRANTED, E_wGRANTED, S_wQUEUED, E_wQUEUED, F_seconds_wMAX_LOCK_DELAY, F_nanos_wMAX_LOCK_DELAY, S_wZERO, E_wZERO, F_seconds_wZERO, F_nanos_wZERO⟩ := hS0
  obtain ⟨cq1, kq1, q1a, q1b, q1c⟩ := isOf hZ e0 P0
  obtain ⟨_, _, ⟨T1, L1, k1, n1⟩, -, X1, ⟨Lc1, hQ1, l1, y1, z1⟩, st1⟩ := X0.virtualBack hx (y := M1) (z := M1) hown (mvT hZ (ow hw 45 rfl)) (mvT hZ (ow hw 46 rfl)) (notFace_of_selects (args := #[]) (mvT hZ (ow hw 48 rfl))) (mvT hZ (ow hw 48 rfl)) (mvT hZ (ow hw 47 rfl)) (by decide) (backOf (W := 0) (rmHB0 l Z a0 hw [] wMAX_LOCK_DELAY wGRANTED wQUEUED wZERO hS a12 q11 h0 n0 O0 P2) hZ (ow hw 49 rfl) (ow hw 3 rfl) (by decide) (by decide)) q1a q1c (g := (mkF m 196 #[(vi p1), (vl q2), .second, (vl q3), .second, (vl q4), .second, (vi 0), (vi 0), (vi p5), (vi p6), (vi p7), (vi p8), (vl q9), .second, (vl q10), .second, (vl q11), .second, (vr a12), (vr a13), (vr a14), .unset, .unset, .unset, .unset, .unset, .unset, .unset, .unset, .unset, .unset, .unset] [(.long q11), (.ref a12)])) rfl (by rw [hml]; rfl) (Steps.refl _) (argsL := [(.long q11)]) (rest := []) (lenOf pd_2 rfl) rfl (by show 2 * 0 + _ ≤ _; exact Nat.le_of_eq rfl) (hb hby at_196) (fun _ _ => ⟨rfl, e0, (by decide : 5 + 0 ≤ _), (by decide : 29 + 0 ≤ _)⟩)
  dsimp only [Pt.U, Pt.locs, Pt.cells, Pt.slots] at X1 l1 y1 z1 st1 hQ1
  subst l1 y1 z1
  obtain ⟨rfl, Nq1, K1q⟩ := hQ1
  have N1 := Fr.app N0 Nq1
  have pre2 : ∀ t, Steps p.tables e below (T1.setTop (mkF m 201 #[(vi p1), (vl q2), .second, (vl q3), .second, (vl q4), .second, (vi 0), (vi 0), (vi p5), (vi p6), (vi p7), (vi p8), (vl q9), .second, (vl q10), .second, (vl q11), .second, (vr a12), (vr a13), (vr a14), (vi 0), .unset, .unset, .unset, .unset, .unset, .unset, .unset, .unset, .unset, .unset] [])) t → Steps p.tables e below (T0.setTop (mkF m 192 #[(vi p1), (vl q2), .second, (vl q3), .second, (vl q4), .second, (vi 0), (vi 0), (vi p5), (vi p6), (vi p7), (vi p8), (vl q9), .second, (vl q10), .second, (vl q11), .second, (vr a12), (vr a13), (vr a14), .unset, .unset, .unset, .unset, .unset, .unset, .unset, .unset, .unset, .unset, .unset] [])) t := by
    intro t k
    refine pre0 t ?_
    show Steps p.tables e below (T0.setTop (mkF m 192 #[(vi p1), (vl q2), .second, (vl q3), .second, (vl q4), .second, (vi 0), (vi 0), (vi p5), (vi p6), (vi p7), (vi p8), (vl q9), .second, (vl q10), .second, (vl q11), .second, (vr a12), (vr a13), (vr a14), .unset, .unset, .unset, .unset, .unset, .unset, .unset, .unset, .unset, .unset, .unset] [])) _
    refine XS.aload X0.here hx rfl (hb hby at_192) rfl rfl ?_
    refine XS.lload X0.here hx rfl (hb hby at_194) rfl ?_
    refine st1.trans ?_
    refine XS.istore X1.here hx rfl (hb hby at_199) rfl (l' := #[(vi p1), (vl q2), .second, (vl q3), .second, (vl q4), .second, (vi 0), (vi 0), (vi p5), (vi p6), (vi p7), (vi p8), (vl q9), .second, (vl q10), .second, (vl q11), .second, (vr a12), (vr a13), (vr a14), (vi 0), .unset, .unset, .unset, .unset, .unset, .unset, .unset, .unset, .unset, .unset]) rfl ?_
    exact k
  rcases (id (P26)) with hk3 | hk3
  · skip
    have pre4 : ∀ t, Steps p.tables e below (T1.setTop (mkF m 201 #[(vi p1), (vl q2), .second, (vl q3), .second, (vl q4), .second, (vi 0), (vi 0), (vi 0), (vi p6), (vi p7), (vi p8), (vl q9), .second, (vl q10), .second, (vl q11), .second, (vr a12), (vr a13), (vr a14), (vi 0), .unset, .unset, .unset, .unset, .unset, .unset, .unset, .unset, .unset, .unset] [])) t → Steps p.tables e below (T0.setTop (mkF m 192 #[(vi p1), (vl q2), .second, (vl q3), .second, (vl q4), .second, (vi 0), (vi 0), (vi p5), (vi p6), (vi p7), (vi p8), (vl q9), .second, (vl q10), .second, (vl q11), .second, (vr a12), (vr a13), (vr a14), .unset, .unset, .unset, .unset, .unset, .unset, .unset, .unset, .unset, .unset, .unset] [])) t := by
      intro t k
      refine pre2 t ?_
      rw [hk3]
      exact k
    obtain ⟨cq5, kq5, q5a, q5b, q5c⟩ := isOf hZ K1q P0
    obtain ⟨_, _, ⟨T5, L5, k5, n5⟩, -, X5, ⟨Lc5, hQ5, l5, y5, z5⟩, st5⟩ := X1.virtualBack hx (y := M12) (z := M12) hown (mvT hZ (ow hw 52 rfl)) (mvT hZ (ow hw 53 rfl)) (notFace_of_selects (args := #[]) (mvT hZ (ow hw 55 rfl))) (mvT hZ (ow hw 55 rfl)) (mvT hZ (ow hw 54 rfl)) (by decide) (backOf (W := 0) (au7_0 l Z a0 hw [] wMAX_LOCK_DELAY wGRANTED wQUEUED wZERO hS a12 q10 a15 a16 k17 h0 n0 O0 P0 P3 P5 P12 P13 P14 P15 P16) hZ (ow hw 56 rfl) (ow hw 3 rfl) (by decide) (by decide)) q5a q5c (g := (mkF m 207 #[(vi p1), (vl q2), .second, (vl q3), .second, (vl q4), .second, (vi 0), (vi 0), (vi 0), (vi p6), (vi p7), (vi p8), (vl q9), .second, (vl q10), .second, (vl q11), .second, (vr a12), (vr a13), (vr a14), (vi 0), .unset, .unset, .unset, .unset, .unset, .unset, .unset, .unset, .unset, .unset] [(.int 0), (.long q10), (.ref a12)])) rfl (by rw [hml]; rfl) (Steps.refl _) (argsL := [(.long q10), (.int 0)]) (rest := []) (lenOf pd_8 rfl) rfl (by show 2 * 0 + _ ≤ _; exact Nat.le_of_eq rfl) (hb hby at_207) (fun _ _ => ⟨rfl, K1q, (by decide : 5 + 1 ≤ _), (by decide : 29 + 4 ≤ _)⟩)
    dsimp only [Pt.U, Pt.locs, Pt.cells, Pt.slots] at X5 l5 y5 z5 st5 hQ5
    subst l5 y5 z5
    obtain ⟨rfl, Nq5, K5q⟩ := hQ5
    have N5 := Fr.app N1 Nq5
    have O6 : Old Z n0 T5.heap := O0.keep K5q all0
    have f7 : Fld Z T5.heap a12 s4n "heldBack" "Z" (.int 0) := (P2.keep K5q nin0)
    have f9 : Exa Z T5.heap a12 s4n := (P0.keep K5q)
    obtain ⟨cq8, kq8, q8a, q8b, q8c⟩ := isOf hZ rfl f9
    obtain ⟨_, _, ⟨T8, L8, k8, n8⟩, -, X8, ⟨Lc8, hQ8, l8, y8, z8⟩, st8⟩ := X5.virtualBack hx (y := M1) (z := M1) hown (mvT hZ (ow hw 45 rfl)) (mvT hZ (ow hw 46 rfl)) (notFace_of_selects (args := #[]) (mvT hZ (ow hw 48 rfl))) (mvT hZ (ow hw 48 rfl)) (mvT hZ (ow hw 47 rfl)) (by decide) (backOf (W := 0) (rmHB0 l Z a0 hw [] wMAX_LOCK_DELAY wGRANTED wQUEUED wZERO hS a12 q11 T5.heap n0 O6 f7) hZ (ow hw 49 rfl) (ow hw 3 rfl) (by decide) (by decide)) q8a q8c (g := (mkF m 215 #[(vi p1), (vl q2), .second, (vl q3), .second, (vl q4), .second, (vi 0), (vi 0), (vi 0), (vi p6), (vi p7), (vi p8), (vl q9), .second, (vl q10), .second, (vl q11), .second, (vr a12), (vr a13), (vr a14), (vi 0), .unset, .unset, .unset, .unset, .unset, .unset, .unset, .unset, .unset, .unset] [(.long q11), (.ref a12)])) rfl (by rw [hml]; rfl) (Steps.refl _) (argsL := [(.long q11)]) (rest := []) (lenOf pd_2 rfl) rfl (by show 2 * 0 + _ ≤ _; exact Nat.le_of_eq rfl) (hb hby at_215) (fun _ _ => ⟨rfl, rfl, (by decide : 6 + 0 ≤ _), (by decide : 33 + 0 ≤ _)⟩)
    dsimp only [Pt.U, Pt.locs, Pt.cells, Pt.slots] at X8 l8 y8 z8 st8 hQ8
    subst l8 y8 z8
    obtain ⟨rfl, Nq8, K8q⟩ := hQ8
    have N8 := Fr.app N5 Nq8
    have pre10 : ∀ t, Steps p.tables e below (T8.setTop (mkF m 220 #[(vi p1), (vl q2), .second, (vl q3), .second, (vl q4), .second, (vi 0), (vi 0), (vi 0), (vi p6), (vi p7), (vi p8), (vl q9), .second, (vl q10), .second, (vl q11), .second, (vr a12), (vr a13), (vr a14), (vi 0), (vi 0), .unset, .unset, .unset, .unset, .unset, .unset, .unset, .unset, .unset] [])) t → Steps p.tables e below (T0.setTop (mkF m 192 #[(vi p1), (vl q2), .second, (vl q3), .second, (vl q4), .second, (vi 0), (vi 0), (vi p5), (vi p6), (vi p7), (vi p8), (vl q9), .second, (vl q10), .second, (vl q11), .second, (vr a12), (vr a13), (vr a14), .unset, .unset, .unset, .unset, .unset, .unset, .unset, .unset, .unset, .unset, .unset] [])) t := by
      intro t k
      refine pre4 t ?_
      show Steps p.tables e below (T1.setTop (mkF m 201 #[(vi p1), (vl q2), .second, (vl q3), .second, (vl q4), .second, (vi 0), (vi 0), (vi 0), (vi p6), (vi p7), (vi p8), (vl q9), .second, (vl q10), .second, (vl q11), .second, (vr a12), (vr a13), (vr a14), (vi 0), .unset, .unset, .unset, .unset, .unset, .unset, .unset, .unset, .unset, .unset] [])) _
      refine XS.aload X1.here hx rfl (hb hby at_201) rfl rfl ?_
      refine XS.lload X1.here hx rfl (hb hby at_203) rfl ?_
      refine XS.iload X1.here hx rfl (hb hby at_205) rfl ?_
      refine st5.trans ?_
      refine XS.pop X5.here hx rfl (hb hby at_210) rfl rfl ?_
      refine XS.aload X5.here hx rfl (hb hby at_211) rfl rfl ?_
      refine XS.lload X5.here hx rfl (hb hby at_213) rfl ?_
      refine st8.trans ?_
      show Steps p.tables e below (T8.setTop (mkF m 218 #[(vi p1), (vl q2), .second, (vl q3), .second, (vl q4), .second, (vi 0), (vi 0), (vi 0), (vi p6), (vi p7), (vi p8), (vl q9), .second, (vl q10), .second, (vl q11), .second, (vr a12), (vr a13), (vr a14), (vi 0), .unset, .unset, .unset, .unset, .unset, .unset, .unset, .unset, .unset, .unset] [(.int 0)])) _
      refine XS.istore X8.here hx rfl (hb hby at_218) rfl (l' := #[(vi p1), (vl q2), .second, (vl q3), .second, (vl q4), .second, (vi 0), (vi 0), (vi 0), (vi p6), (vi p7), (vi p8), (vl q9), .second, (vl q10), .second, (vl q11), .second, (vr a12), (vr a13), (vr a14), (vi 0), (vi 0), .unset, .unset, .unset, .unset, .unset, .unset, .unset, .unset, .unset]) rfl ?_
      exact k
    obtain ⟨t9, o9, hs9, hr9⟩ := tl_rm0_f hw wMAX_LOCK_DELAY wGRANTED wQUEUED wZERO hS (0 : Int32) (0 : Int32) (0 : Int32) (0 : Int32) (0 : Int32) p1 q2 q3 q4 p6 p7 p8 q9 q10 q11 a12 a13 a14 (X8.more (by decide) (by decide)) hx hZ hby hml hown hnm hret0 hlk0 K8q N8 O6 (by simp [own_exp, lw_eq]) rfl
    exact ⟨t9, o9, pre10 _ hs9, hr9⟩
  · skip
    have pre11 : ∀ t, Steps p.tables e below (T1.setTop (mkF m 201 #[(vi p1), (vl q2), .second, (vl q3), .second, (vl q4), .second, (vi 0), (vi 0), (vi 1), (vi p6), (vi p7), (vi p8), (vl q9), .second, (vl q10), .second, (vl q11), .second, (vr a12), (vr a13), (vr a14), (vi 0), .unset, .unset, .unset, .unset, .unset, .unset, .unset, .unset, .unset, .unset] [])) t → Steps p.tables e below (T0.setTop (mkF m 192 #[(vi p1), (vl q2), .second, (vl q3), .second, (vl q4), .second, (vi 0), (vi 0), (vi p5), (vi p6), (vi p7), (vi p8), (vl q9), .second, (vl q10), .second, (vl q11), .second, (vr a12), (vr a13), (vr a14), .unset, .unset, .unset, .unset, .unset, .unset, .unset, .unset, .unset, .unset, .unset] [])) t := by
      intro t k
      refine pre2 t ?_
      rw [hk3]
      exact k
    obtain ⟨cq12, kq12, q12a, q12b, q12c⟩ := isOf hZ K1q P0
    obtain ⟨_, _, ⟨T12, L12, k12, n12⟩, -, X12, ⟨Lc12, hQ12, l12, y12, z12⟩, st12⟩ := X1.virtualBack hx (y := M12) (z := M12) hown (mvT hZ (ow hw 52 rfl)) (mvT hZ (ow hw 53 rfl)) (notFace_of_selects (args := #[]) (mvT hZ (ow hw 55 rfl))) (mvT hZ (ow hw 55 rfl)) (mvT hZ (ow hw 54 rfl)) (by decide) (backOf (W := 0) (au7_1 l Z a0 hw [] wMAX_LOCK_DELAY wGRANTED wQUEUED wZERO hS a12 q10 a15 a16 k17 h0 n0 O0 P0 P3 P5 P12 P13 P14 P15 P16) hZ (ow hw 56 rfl) (ow hw 3 rfl) (by decide) (by decide)) q12a q12c (g := (mkF m 207 #[(vi p1), (vl q2), .second, (vl q3), .second, (vl q4), .second, (vi 0), (vi 0), (vi 1), (vi p6), (vi p7), (vi p8), (vl q9), .second, (vl q10), .second, (vl q11), .second, (vr a12), (vr a13), (vr a14), (vi 0), .unset, .unset, .unset, .unset, .unset, .unset, .unset, .unset, .unset, .unset] [(.int 1), (.long q10), (.ref a12)])) rfl (by rw [hml]; rfl) (Steps.refl _) (argsL := [(.long q10), (.int 1)]) (rest := []) (lenOf pd_8 rfl) rfl (by show 2 * 0 + _ ≤ _; exact Nat.le_of_eq rfl) (hb hby at_207) (fun _ _ => ⟨rfl, K1q, (by decide : 5 + 1 ≤ _), (by decide : 29 + 4 ≤ _)⟩)
    dsimp only [Pt.U, Pt.locs, Pt.cells, Pt.slots] at X12 l12 y12 z12 st12 hQ12
    subst l12 y12 z12
    obtain ⟨rfl, Nq12, K12q⟩ := hQ12
    have N12 := Fr.app N1 Nq12
    have O13 : Old Z n0 T12.heap := O0.keep K12q all0
    have f14 : Fld Z T12.heap a12 s4n "heldBack" "Z" (.int 0) := (P2.keep K12q nin0)
    have f16 : Exa Z T12.heap a12 s4n := (P0.keep K12q)
    obtain ⟨cq15, kq15, q15a, q15b, q15c⟩ := isOf hZ rfl f16
    obtain ⟨_, _, ⟨T15, L15, k15, n15⟩, -, X15, ⟨Lc15, hQ15, l15, y15, z15⟩, st15⟩ := X12.virtualBack hx (y := M1) (z := M1) hown (mvT hZ (ow hw 45 rfl)) (mvT hZ (ow hw 46 rfl)) (notFace_of_selects (args := #[]) (mvT hZ (ow hw 48 rfl))) (mvT hZ (ow hw 48 rfl)) (mvT hZ (ow hw 47 rfl)) (by decide) (backOf (W := 0) (rmHB0 l Z a0 hw [] wMAX_LOCK_DELAY wGRANTED wQUEUED wZERO hS a12 q11 T12.heap n0 O13 f14) hZ (ow hw 49 rfl) (ow hw 3 rfl) (by decide) (by decide)) q15a q15c (g := (mkF m 215 #[(vi p1), (vl q2), .second, (vl q3), .second, (vl q4), .second, (vi 0), (vi 0), (vi 1), (vi p6), (vi p7), (vi p8), (vl q9), .second, (vl q10), .second, (vl q11), .second, (vr a12), (vr a13), (vr a14), (vi 0), .unset, .unset, .unset, .unset, .unset, .unset, .unset, .unset, .unset, .unset] [(.long q11), (.ref a12)])) rfl (by rw [hml]; rfl) (Steps.refl _) (argsL := [(.long q11)]) (rest := []) (lenOf pd_2 rfl) rfl (by show 2 * 0 + _ ≤ _; exact Nat.le_of_eq rfl) (hb hby at_215) (fun _ _ => ⟨rfl, rfl, (by decide : 6 + 0 ≤ _), (by decide : 33 + 0 ≤ _)⟩)
    dsimp only [Pt.U, Pt.locs, Pt.cells, Pt.slots] at X15 l15 y15 z15 st15 hQ15
    subst l15 y15 z15
    obtain ⟨rfl, Nq15, K15q⟩ := hQ15
    have N15 := Fr.app N12 Nq15
    have pre17 : ∀ t, Steps p.tables e below (T15.setTop (mkF m 220 #[(vi p1), (vl q2), .second, (vl q3), .second, (vl q4), .second, (vi 0), (vi 0), (vi 1), (vi p6), (vi p7), (vi p8), (vl q9), .second, (vl q10), .second, (vl q11), .second, (vr a12), (vr a13), (vr a14), (vi 0), (vi 0), .unset, .unset, .unset, .unset, .unset, .unset, .unset, .unset, .unset] [])) t → Steps p.tables e below (T0.setTop (mkF m 192 #[(vi p1), (vl q2), .second, (vl q3), .second, (vl q4), .second, (vi 0), (vi 0), (vi p5), (vi p6), (vi p7), (vi p8), (vl q9), .second, (vl q10), .second, (vl q11), .second, (vr a12), (vr a13), (vr a14), .unset, .unset, .unset, .unset, .unset, .unset, .unset, .unset, .unset, .unset, .unset] [])) t := by
      intro t k
      refine pre11 t ?_
      show Steps p.tables e below (T1.setTop (mkF m 201 #[(vi p1), (vl q2), .second, (vl q3), .second, (vl q4), .second, (vi 0), (vi 0), (vi 1), (vi p6), (vi p7), (vi p8), (vl q9), .second, (vl q10), .second, (vl q11), .second, (vr a12), (vr a13), (vr a14), (vi 0), .unset, .unset, .unset, .unset, .unset, .unset, .unset, .unset, .unset, .unset] [])) _
      refine XS.aload X1.here hx rfl (hb hby at_201) rfl rfl ?_
      refine XS.lload X1.here hx rfl (hb hby at_203) rfl ?_
      refine XS.iload X1.here hx rfl (hb hby at_205) rfl ?_
      refine st12.trans ?_
      refine XS.pop X12.here hx rfl (hb hby at_210) rfl rfl ?_
      refine XS.aload X12.here hx rfl (hb hby at_211) rfl rfl ?_
      refine XS.lload X12.here hx rfl (hb hby at_213) rfl ?_
      refine st15.trans ?_
      show Steps p.tables e below (T15.setTop (mkF m 218 #[(vi p1), (vl q2), .second, (vl q3), .second, (vl q4), .second, (vi 0), (vi 0), (vi 1), (vi p6), (vi p7), (vi p8), (vl q9), .second, (vl q10), .second, (vl q11), .second, (vr a12), (vr a13), (vr a14), (vi 0), .unset, .unset, .unset, .unset, .unset, .unset, .unset, .unset, .unset, .unset] [(.int 0)])) _
      refine XS.istore X15.here hx rfl (hb hby at_218) rfl (l' := #[(vi p1), (vl q2), .second, (vl q3), .second, (vl q4), .second, (vi 0), (vi 0), (vi 1), (vi p6), (vi p7), (vi p8), (vl q9), .second, (vl q10), .second, (vl q11), .second, (vr a12), (vr a13), (vr a14), (vi 0), (vi 0), .unset, .unset, .unset, .unset, .unset, .unset, .unset, .unset, .unset]) rfl ?_
      exact k
    obtain ⟨t9, o9, hs9, hr9⟩ := tl_rm0_f hw wMAX_LOCK_DELAY wGRANTED wQUEUED wZERO hS (0 : Int32) (0 : Int32) (1 : Int32) (0 : Int32) (0 : Int32) p1 q2 q3 q4 p6 p7 p8 q9 q10 q11 a12 a13 a14 (X15.more (by decide) (by decide)) hx hZ hby hml hown hnm hret0 hlk0 K15q N15 O13 (by simp [own_exp, lw_eq]) rfl
    exact ⟨t9, o9, pre17 _ hs9, hr9⟩
theorem ef_au14_0 (m : MethodId) (x0 : Addr) (x1 : Addr) (x2 : Addr) (x3 : Int32)  : entryFrame m #[(.ref x0), (.ref x1), (.ref x2), (.int x3)] 5 = mkF m 0 #[(vr x0), (vr x1), (vr x2), (vi x3), .unset] [] := by first | (simp [entryFrame, mkF, argsToLocals, Value.category]; done) | rfl
theorem d14_0 : decode prog_84_method_3_code 0 = .ok (.aload_n 1, 1) := by decide +kernel
theorem d14_1 : decode prog_84_method_3_code 1 = .ok (.aload_n 0, 1) := by decide +kernel
theorem d14_2 : decode prog_84_method_3_code 2 = .ok (.getfield 29, 3) := by decide +kernel
theorem d14_5 : decode prog_84_method_3_code 5 = .ok (.invokevirtual 33, 3) := by decide +kernel
theorem pd_9 : parseMethodDescriptor "(Ljava/lang/Object;)Z" = some ⟨[(.object "java/lang/Object")], some .boolean⟩ := by decide +kernel
theorem d14_8 : decode prog_84_method_3_code 8 = .ok (.ifCond .eq 11, 3) := by decide +kernel
theorem d14_19 : decode prog_84_method_3_code 19 = .ok (.aload_n 0, 1) := by decide +kernel
theorem d14_20 : decode prog_84_method_3_code 20 = .ok (.getfield 29, 3) := by decide +kernel
theorem d14_23 : decode prog_84_method_3_code 23 = .ok (.ifnonnull 24, 3) := by decide +kernel
theorem d14_26 : decode prog_84_method_3_code 26 = .ok (.aload_n 0, 1) := by decide +kernel
theorem d14_27 : decode prog_84_method_3_code 27 = .ok (.getfield 45, 3) := by decide +kernel
theorem d14_30 : decode prog_84_method_3_code 30 = .ok (.ifCond .ne 17, 3) := by decide +kernel
theorem d14_33 : decode prog_84_method_3_code 33 = .ok (.aload_n 0, 1) := by decide +kernel
theorem d14_34 : decode prog_84_method_3_code 34 = .ok (.aload_n 1, 1) := by decide +kernel
theorem d14_35 : decode prog_84_method_3_code 35 = .ok (.aload_n 2, 1) := by decide +kernel
theorem d14_36 : decode prog_84_method_3_code 36 = .ok (.invokevirtual 49, 3) := by decide +kernel
theorem ef_au16_0 (m : MethodId) (x0 : Addr) (x1 : Addr) (x2 : Addr)  : entryFrame m #[(.ref x0), (.ref x1), (.ref x2)] 3 = mkF m 0 #[(vr x0), (vr x1), (vr x2)] [] := by first | (simp [entryFrame, mkF, argsToLocals, Value.category]; done) | rfl
theorem d16_0 : decode prog_84_method_23_code 0 = .ok (.aload_n 0, 1) := by decide +kernel
theorem d16_1 : decode prog_84_method_23_code 1 = .ok (.aload_n 1, 1) := by decide +kernel
theorem d16_2 : decode prog_84_method_23_code 2 = .ok (.putfield 29, 3) := by decide +kernel
theorem d16_5 : decode prog_84_method_23_code 5 = .ok (.aload_n 0, 1) := by decide +kernel
theorem d16_6 : decode prog_84_method_23_code 6 = .ok (.aload_n 2, 1) := by decide +kernel
theorem d16_7 : decode prog_84_method_23_code 7 = .ok (.putfield 22, 3) := by decide +kernel
theorem d16_10 : decode prog_84_method_23_code 10 = .ok (.aload_n 0, 1) := by decide +kernel
theorem d16_11 : decode prog_84_method_23_code 11 = .ok (.dup, 1) := by decide +kernel
theorem d16_12 : decode prog_84_method_23_code 12 = .ok (.getfield 25, 3) := by decide +kernel
theorem d16_15 : decode prog_84_method_23_code 15 = .ok (.lconst 1, 1) := by decide +kernel
theorem d16_16 : decode prog_84_method_23_code 16 = .ok (.ladd, 1) := by decide +kernel
theorem d16_17 : decode prog_84_method_23_code 17 = .ok (.putfield 25, 3) := by decide +kernel
theorem d16_20 : decode prog_84_method_23_code 20 = .ok (.return_, 1) := by decide +kernel
def Q_au16_0 (Z : State) (wMAX_LOCK_DELAY : Addr) (wGRANTED : Addr) (wQUEUED : Addr) (wZERO : Addr) (a1 : Addr) (a2 : Addr) (q3 : Int64) (a4 : Addr) (h0 : Heap) (n0 : Nat) (v : Option Value) (h : Heap) (L : List Loc) : Prop := v = none ∧ Fr n0 L ∧ Keep h0 h [a1] ∧ Exa Z h a1 s4n ∧ Fld Z h a1 s4n "generation" "J" (.long (q3 + (1 : Int64))) ∧ Fld Z h a1 s4n "heldBack" "Z" (.int 0) ∧ Fld Z h a1 s4n "holder" s9n (.ref a2) ∧ Fld Z h a1 s4n s10n s0n (.ref wMAX_LOCK_DELAY) ∧ Fld Z h a1 s4n "waiters" s11n (.ref a4)
theorem au16_0 (l : Launch) (Z : State) (a0 : Array Value) (hw : ∀ d ∈ tables_1, d.before a0 Z = true) (ws : List Jvm.Cond) (wMAX_LOCK_DELAY : Addr) (wGRANTED : Addr) (wQUEUED : Addr) (wZERO : Addr) (hS : SS Z wMAX_LOCK_DELAY wGRANTED wQUEUED wZERO) (a1 : Addr) (a2 : Addr) (q3 : Int64) (a4 : Addr) (h0 : Heap) (n0 : Nat) (O0 : Old Z n0 h0) (P0 : Exa Z h0 a1 s4n) (P1 : Fld Z h0 a1 s4n "generation" "J" (.long q3)) (P2 : Fld Z h0 a1 s4n "heldBack" "Z" (.int 0)) (P3 : Fld Z h0 a1 s4n "holder" s9n .null) (P4 : Fld Z h0 a1 s4n s10n s0n (.ref wZERO)) (P5 : Fld Z h0 a1 s4n "waiters" s11n (.ref a4)) (P16 : n0 ≤ a1) :
    MetB l M15 prog_84_method_23_code 3 none ws (rmk 0 0 0 0) Z h0 #[(.ref a1), (.ref a2), (.ref wMAX_LOCK_DELAY)] (Q_au16_0 Z wMAX_LOCK_DELAY wGRANTED wQUEUED wZERO a1 a2 q3 a4 h0 n0) := by
  refine own_body (plainFor_of_name pn_com_example_umpired_umpired_server_NodeLock) ?_
  intro p e s m below meth c s₁ hx hby hml hown hnm hret0 hlk0 hZ X0 e0
  have N0 := Fr.nil n0
  have pre0 : ∀ t, Steps p.tables e below (s₁.setTop (mkF m 0 #[(vr a1), (vr a2), (vr wMAX_LOCK_DELAY)] [])) t → Steps p.tables e below (s₁.setTop (entryFrame m #[(.ref a1), (.ref a2), (.ref wMAX_LOCK_DELAY)] 3)) t := fun t k => castTop (ef_au16_0 m a1 a2 wMAX_LOCK_DELAY) k
  have K0 := Keep.refl h0 [a1]
  have hS0 := hS
  obtain ⟨S_wMAX_LOCK_DELAY, E_wMAX_LOCK_DELAY, S_wGRANTED, E_wGRANTED, S_wQUEUED, E_wQUEUED, F_seconds_wMAX_LOCK_DELAY, F_nanos_wMAX_LOCK_DELAY, S_wZERO, E_wZERO, F_seconds_wZERO, F_nanos_wZERO⟩ := hS0
  obtain ⟨T1, h1, X1, e1, W1, st1⟩ := putF X0 hx hZ hown (host := "") (Or.inl (ow hw 109 rfl)) Via.refl e0 P3 P0 (Or.inl (ow hw 110 rfl)) (ow hw 2 rfl) (ty := (.object s3n)) (by decide) rfl rfl (g := (mkF m 2 #[(vr a1), (vr a2), (vr wMAX_LOCK_DELAY)] [(.ref a2), (.ref a1)])) rfl rfl (hb hby d16_2)
  have N1 := Fr.snoc X1 N0 P16
  have O2 : Old Z n0 h1 := O0.wr W1 P16
  have K2 : Keep h0 h1 [a1] := K0.wr W1 (Or.inl (List.mem_of_getElem? (i := 0) rfl))
  have Fw1 : Fld Z h1 a1 s4n "holder" s9n (.ref a2) := P3.same W1
  have f3 : Exa Z h1 a1 s4n := (P0.wr W1)
  have f4 : Fld Z h1 a1 s4n s10n s0n (.ref wZERO) := (P4.other W1 (Or.inr (slot_ne (Or.inl (ow hw 32 rfl)) (Or.inl (ow hw 110 rfl)) (by decide) (t := (.object s1n)) (t' := (.object s3n)) (by decide) (by decide))))
  obtain ⟨T5, h5, X5, e5, W5, st5⟩ := putF X1 hx hZ hown (host := "") (Or.inl (ow hw 31 rfl)) Via.refl e1 f4 f3 (Or.inl (ow hw 32 rfl)) (ow hw 2 rfl) (ty := (.object s1n)) (by decide) rfl rfl (g := (mkF m 7 #[(vr a1), (vr a2), (vr wMAX_LOCK_DELAY)] [(.ref wMAX_LOCK_DELAY), (.ref a1)])) rfl rfl (hb hby d16_7)
  have N5 := Fr.snoc X5 N1 P16
  have O6 : Old Z n0 h5 := O2.wr W5 P16
  have K6 : Keep h0 h5 [a1] := K2.wr W5 (Or.inl (List.mem_of_getElem? (i := 0) rfl))
  have Fw5 : Fld Z h5 a1 s4n s10n s0n (.ref wMAX_LOCK_DELAY) := f4.same W5
  have f7 : Fld Z h5 a1 s4n "generation" "J" (.long q3) := ((P1.other W1 (Or.inr (slot_ne (Or.inl (ow hw 129 rfl)) (Or.inl (ow hw 110 rfl)) (by decide) (t := .long) (t' := (.object s3n)) (by decide) (by decide)))).other W5 (Or.inr (slot_ne (Or.inl (ow hw 129 rfl)) (Or.inl (ow hw 32 rfl)) (by decide) (t := .long) (t' := (.object s1n)) (by decide) (by decide))))
  obtain ⟨T8, X8, e8, st8⟩ := getF X5 hx hZ hown (host := "") (Or.inl (ow hw 128 rfl)) Via.refl e5 f7 (g := (mkF m 12 #[(vr a1), (vr a2), (vr wMAX_LOCK_DELAY)] [(.ref a1), (.ref a1)])) rfl rfl (hb hby d16_12)
  have f9 : Exa Z h5 a1 s4n := (f3.wr W5)
  obtain ⟨T10, h10, X10, e10, W10, st10⟩ := putF X8 hx hZ hown (host := "") (Or.inl (ow hw 128 rfl)) Via.refl e8 f7 f9 (Or.inl (ow hw 129 rfl)) (ow hw 2 rfl) (ty := .long) (by decide) rfl rfl (g := (mkF m 17 #[(vr a1), (vr a2), (vr wMAX_LOCK_DELAY)] [(.long (q3 + (1 : Int64))), (.ref a1)])) rfl rfl (hb hby d16_17)
  have N10 := Fr.snoc X10 N5 P16
  have O11 : Old Z n0 h10 := O6.wr W10 P16
  have K11 : Keep h0 h10 [a1] := K6.wr W10 (Or.inl (List.mem_of_getElem? (i := 0) rfl))
  have Fw10 : Fld Z h10 a1 s4n "generation" "J" (.long (q3 + (1 : Int64))) := f7.same W10
  have f12 : Exa Z h10 a1 s4n := (f9.wr W10)
  have f13 : Fld Z h10 a1 s4n "heldBack" "Z" (.int 0) := (((P2.other W1 (Or.inr (slot_ne (Or.inl (ow hw 51 rfl)) (Or.inl (ow hw 110 rfl)) (by decide) (t := .boolean) (t' := (.object s3n)) (by decide) (by decide)))).other W5 (Or.inr (slot_ne (Or.inl (ow hw 51 rfl)) (Or.inl (ow hw 32 rfl)) (by decide) (t := .boolean) (t' := (.object s1n)) (by decide) (by decide)))).other W10 (Or.inr (slot_ne (Or.inl (ow hw 51 rfl)) (Or.inl (ow hw 129 rfl)) (by decide) (t := .boolean) (t' := .long) (by decide) (by decide))))
  have f14 : Fld Z h10 a1 s4n "holder" s9n (.ref a2) := ((Fw1.other W5 (Or.inr (slot_ne (Or.inl (ow hw 110 rfl)) (Or.inl (ow hw 32 rfl)) (by decide) (t := (.object s3n)) (t' := (.object s1n)) (by decide) (by decide)))).other W10 (Or.inr (slot_ne (Or.inl (ow hw 110 rfl)) (Or.inl (ow hw 129 rfl)) (by decide) (t := (.object s3n)) (t' := .long) (by decide) (by decide))))
  have f15 : Fld Z h10 a1 s4n s10n s0n (.ref wMAX_LOCK_DELAY) := (Fw5.other W10 (Or.inr (slot_ne (Or.inl (ow hw 32 rfl)) (Or.inl (ow hw 129 rfl)) (by decide) (t := (.object s1n)) (t' := .long) (by decide) (by decide))))
  have f16 : Fld Z h10 a1 s4n "waiters" s11n (.ref a4) := (((P5.other W1 (Or.inr (slot_ne (Or.inr (ow hw 28 rfl)) (Or.inl (ow hw 110 rfl)) (by decide) (t := (.object s12n)) (t' := (.object s3n)) (by decide) (by decide)))).other W5 (Or.inr (slot_ne (Or.inr (ow hw 28 rfl)) (Or.inl (ow hw 32 rfl)) (by decide) (t := (.object s12n)) (t' := (.object s1n)) (by decide) (by decide)))).other W10 (Or.inr (slot_ne (Or.inr (ow hw 28 rfl)) (Or.inl (ow hw 129 rfl)) (by decide) (t := (.object s12n)) (t' := .long) (by decide) (by decide))))
  obtain ⟨fs, hr, hrun, hended, hW, hsame⟩ := X10.leave (v := none) (fun _ => rfl)
  refine ⟨_, _, pre0 _ ?_, hrun, hended, _, _, rfl, ?_, ⟨_, rfl⟩, hW, hsame.mono (by decide) (by decide)⟩
  · skip
    show Steps p.tables e below (s₁.setTop (mkF m 0 #[(vr a1), (vr a2), (vr wMAX_LOCK_DELAY)] [])) _
    refine XS.aloadN X0.here hx rfl (hb hby d16_0) rfl rfl ?_
    refine XS.aloadN X0.here hx rfl (hb hby d16_1) rfl rfl ?_
    refine st1 _ ?_
    refine XS.aloadN X1.here hx rfl (hb hby d16_5) rfl rfl ?_
    refine XS.aloadN X1.here hx rfl (hb hby d16_6) rfl rfl ?_
    refine st5 _ ?_
    refine XS.aloadN X5.here hx rfl (hb hby d16_10) rfl rfl ?_
    refine XS.dup X5.here hx rfl (hb hby d16_11) rfl rfl ?_
    show Steps p.tables e below (T5.setTop (mkF m 12 #[(vr a1), (vr a2), (vr wMAX_LOCK_DELAY)] [(.ref a1), (.ref a1)])) _
    refine st8 _ ?_
    refine XS.lconst X8.here hx rfl (hb hby d16_15) ?_
    refine XS.ladd X8.here hx rfl (hb hby d16_16) rfl ?_
    refine st10 _ ?_
    exact X10.returnOut hx hret0 (hb hby d16_20) hr
  · show Q_au16_0 Z wMAX_LOCK_DELAY wGRANTED wQUEUED wZERO a1 a2 q3 a4 h0 n0 _ T10.heap _
    rw [e10]
    exact ⟨rfl, N10, K11, f12, Fw10, f13, f14, f15, f16⟩
theorem pd_10 : parseMethodDescriptor "(Lcom/example/umpired/umpired/server/SessionHandle;Ljava/time/Duration;)V" = some ⟨[(.object "com/example/umpired/umpired/server/SessionHandle"), (.object "java/time/Duration")], none⟩ := by decide +kernel
theorem d14_39 : decode prog_84_method_3_code 39 = .ok (.getstatic 39, 3) := by decide +kernel
theorem d14_42 : decode prog_84_method_3_code 42 = .ok (.astore 4, 2) := by decide +kernel
theorem d14_44 : decode prog_84_method_3_code 44 = .ok (.goto 47, 3) := by decide +kernel
theorem d14_91 : decode prog_84_method_3_code 91 = .ok (.aload 4, 2) := by decide +kernel
theorem d14_93 : decode prog_84_method_3_code 93 = .ok (.areturn, 1) := by decide +kernel
def Q_au14_0 (Z : State) (wMAX_LOCK_DELAY : Addr) (wGRANTED : Addr) (wQUEUED : Addr) (wZERO : Addr) (a1 : Addr) (a2 : Addr) (qg3 : Int64) (a4 : Addr) (h0 : Heap) (n0 : Nat) (v : Option Value) (h : Heap) (L : List Loc) : Prop := v = some (.ref wGRANTED) ∧ Fr n0 L ∧ Keep h0 h [a1] ∧ Exa Z h a1 s4n ∧ Fld Z h a1 s4n "generation" "J" (.long (qg3 + (1 : Int64))) ∧ Fld Z h a1 s4n "heldBack" "Z" (.int 0) ∧ Fld Z h a1 s4n "holder" s9n (.ref a2) ∧ Fld Z h a1 s4n s10n s0n (.ref wMAX_LOCK_DELAY) ∧ Fld Z h a1 s4n "waiters" s11n (.ref a4)
theorem au14_0 (l : Launch) (Z : State) (a0 : Array Value) (hw : ∀ d ∈ tables_1, d.before a0 Z = true) (ws : List Jvm.Cond) (wMAX_LOCK_DELAY : Addr) (wGRANTED : Addr) (wQUEUED : Addr) (wZERO : Addr) (hS : SS Z wMAX_LOCK_DELAY wGRANTED wQUEUED wZERO) (a1 : Addr) (a2 : Addr) (qg3 : Int64) (a4 : Addr) (h0 : Heap) (n0 : Nat) (O0 : Old Z n0 h0) (P0 : Exa Z h0 a1 s4n) (P1 : Fld Z h0 a1 s4n "generation" "J" (.long qg3)) (P2 : Fld Z h0 a1 s4n "heldBack" "Z" (.int 0)) (P3 : Fld Z h0 a1 s4n "holder" s9n .null) (P4 : Fld Z h0 a1 s4n s10n s0n (.ref wZERO)) (P5 : Fld Z h0 a1 s4n "waiters" s11n (.ref a4)) (P6 : Exa Z h0 a2 s3n) (P16 : n0 ≤ a1) :
    MetB l M16 prog_84_method_3_code 5 (some (.object s2n)) ws (rmk 1 0 0 14) Z h0 #[(.ref a1), (.ref a2), (.ref wMAX_LOCK_DELAY), (.int 1)] (Q_au14_0 Z wMAX_LOCK_DELAY wGRANTED wQUEUED wZERO a1 a2 qg3 a4 h0 n0) := by
  refine own_body (plainFor_of_name pn_com_example_umpired_umpired_server_NodeLock) ?_
  intro p e s m below meth c s₁ hx hby hml hown hnm hret0 hlk0 hZ X0 e0
  have N0 := Fr.nil n0
  have pre0 : ∀ t, Steps p.tables e below (s₁.setTop (mkF m 0 #[(vr a1), (vr a2), (vr wMAX_LOCK_DELAY), (vi 1), .unset] [])) t → Steps p.tables e below (s₁.setTop (entryFrame m #[(.ref a1), (.ref a2), (.ref wMAX_LOCK_DELAY), (.int 1)] 5)) t := fun t k => castTop (ef_au14_0 m a1 a2 wMAX_LOCK_DELAY (1 : Int32)) k
  have K0 := Keep.refl h0 [a1]
  have hS0 := hS
  obtain ⟨S_wMAX_LOCK_DELAY, E_wMAX_LOCK_DELAY, S_wGRANTED, E_wGRANTED, S_wQUEUED, E_wQUEUED, F_seconds_wMAX_LOCK_DELAY, F_nanos_wMAX_LOCK_DELAY, S_wZERO, E_wZERO, F_seconds_wZERO, F_nanos_wZERO⟩ := hS0
  obtain ⟨T1, X1, e1, st1⟩ := getF X0 hx hZ hown (host := "") (Or.inl (ow hw 109 rfl)) Via.refl e0 P3 (g := (mkF m 2 #[(vr a1), (vr a2), (vr wMAX_LOCK_DELAY), (vi 1), .unset] [(.ref a1), (.ref a2)])) rfl rfl (hb hby d14_2)
  obtain ⟨cq2, kq2, q2a, q2b, q2c⟩ := isOf hZ e1 P6
  obtain ⟨_, _, ⟨T2, L2, k2, n2⟩, -, X2, ⟨Lc2, hQ2, l2, y2, z2⟩, st2⟩ := X1.virtualBack hx (y := M0) (z := M0) hown (mvT hZ (ow hw 119 rfl)) (mvT hZ (ow hw 120 rfl)) (notFace_of_selects (args := #[]) (mvT hZ (ow hw 122 rfl))) (mvT hZ (ow hw 122 rfl)) (mvT hZ (ow hw 121 rfl)) (by decide) (backOf (W := 0) (rmEqN l Z a0 hw [] wMAX_LOCK_DELAY wGRANTED wQUEUED wZERO hS a2 h0 n0 O0 ) hZ (ow hw 123 rfl) (ow hw 35 rfl) (by decide) (by decide)) q2a q2c (g := (mkF m 5 #[(vr a1), (vr a2), (vr wMAX_LOCK_DELAY), (vi 1), .unset] [.null, (.ref a2)])) rfl (by rw [hml]; rfl) (Steps.refl _) (argsL := [.null]) (rest := []) (lenOf pd_9 rfl) rfl (by show 2 * 0 + _ ≤ _; exact Nat.le_of_eq rfl) (hb hby d14_5) (fun _ _ => ⟨rfl, e1, (by decide : 0 + 0 ≤ _), (by decide : 0 + 0 ≤ _)⟩)
  dsimp only [Pt.U, Pt.locs, Pt.cells, Pt.slots] at X2 l2 y2 z2 st2 hQ2
  subst l2 y2 z2
  obtain ⟨rfl, Nq2, K2q⟩ := hQ2
  have N2 := Fr.app N0 Nq2
  obtain ⟨T3, X3, e3, st3⟩ := getF X2 hx hZ hown (host := "") (Or.inl (ow hw 109 rfl)) Via.refl K2q P3 (g := (mkF m 20 #[(vr a1), (vr a2), (vr wMAX_LOCK_DELAY), (vi 1), .unset] [(.ref a1)])) rfl rfl (hb hby d14_20)
  obtain ⟨T4, X4, e4, st4⟩ := getF X3 hx hZ hown (host := "") (Or.inl (ow hw 50 rfl)) Via.refl e3 P2 (g := (mkF m 27 #[(vr a1), (vr a2), (vr wMAX_LOCK_DELAY), (vi 1), .unset] [(.ref a1)])) rfl rfl (hb hby d14_27)
  obtain ⟨cq5, q5, q5'⟩ := P0.cell
  obtain ⟨_, _, ⟨T5, L5, k5, n5⟩, -, X5, ⟨Lc5, hQ5, l5, y5, z5⟩, st5⟩ := X4.privateBack hx (y := M15) hown (mvT hZ (ow hw 124 rfl)) (mvT hZ (ow hw 125 rfl)) (own_selp (mvT hZ (ow hw 2 rfl)) (mvP hZ (ow hw 126 rfl)) (mvT hZ (ow hw 125 rfl)) (by decide)) (Cond.privateMethod_at (mvP hZ (ow hw 126 rfl) (args := #[]))) (mvT hZ (ow hw 127 rfl)) (by decide) (backOf (W := 0) (au16_0 l Z a0 hw [] wMAX_LOCK_DELAY wGRANTED wQUEUED wZERO hS a1 a2 qg3 a4 h0 n0 O0 P0 P1 P2 P3 P4 P5 P16) hZ (ow hw 127 rfl) (ow hw 3 rfl) (by decide) (by decide)) (g := (mkF m 36 #[(vr a1), (vr a2), (vr wMAX_LOCK_DELAY), (vi 1), .unset] [(.ref wMAX_LOCK_DELAY), (.ref a2), (.ref a1)])) rfl (by rw [hml]; rfl) (Steps.refl _) (a := a1) (by rw [e4]; exact q5) q5' (argsL := [(.ref a2), (.ref wMAX_LOCK_DELAY)]) (rest := []) (lenOf pd_10 rfl) rfl (by show 2 * 0 + _ ≤ _; exact Nat.le_of_eq rfl) (hb hby d14_36) (fun _ _ => ⟨rfl, e4, (by decide : 0 + 0 ≤ _), (by decide : 0 + 0 ≤ _)⟩)
  dsimp only [Pt.U, Pt.locs, Pt.cells, Pt.slots] at X5 l5 y5 z5 st5 hQ5
  subst l5 y5 z5
  obtain ⟨rfl, Nq5, K5q, p5_0, p5_1, p5_2, p5_3, p5_4, p5_5⟩ := hQ5
  have N5 := Fr.app N2 Nq5
  have O6 : Old Z n0 T5.heap := O0.keep K5q (allS P16 all0)
  have K6 : Keep h0 T5.heap [a1] := K0.trans K5q (allS (Or.inl (List.mem_of_getElem? (i := 0) rfl)) all0)
  obtain ⟨T7, X7, e7, st7⟩ := getS2 X5 hx hZ hown (host := "") (Or.inl (ow hw 130 rfl)) Via.refl rfl (S_wGRANTED.ext O6.2) (g := (mkF m 39 #[(vr a1), (vr a2), (vr wMAX_LOCK_DELAY), (vi 1), .unset] [])) rfl (hb hby d14_39)
  obtain ⟨fs, hr, hrun, hended, hW, hsame⟩ := X7.leave (v := some (.ref wGRANTED)) (fun h => by rw [hret0] at h; cases h)
  refine ⟨_, _, pre0 _ ?_, hrun, hended, _, _, rfl, ?_, ⟨_, rfl⟩, hW, hsame.mono (by decide) (by decide)⟩
  · skip
    show Steps p.tables e below (s₁.setTop (mkF m 0 #[(vr a1), (vr a2), (vr wMAX_LOCK_DELAY), (vi 1), .unset] [])) _
    refine XS.aloadN X0.here hx rfl (hb hby d14_0) rfl rfl ?_
    refine XS.aloadN X0.here hx rfl (hb hby d14_1) rfl rfl ?_
    refine st1 _ ?_
    refine st2.trans ?_
    refine XS.ifYes X2.here hx rfl (pc0 := 8) (pc' := 19) rfl (hb hby d14_8) rfl ((if0 _ _).trans (teq (by decide : (0 : Int32) = (0 : Int32))).1) (by decide) (by decide) ?_
    refine XS.aloadN X2.here hx rfl (hb hby d14_19) rfl rfl ?_
    refine st3 _ ?_
    refine XS.ifnonnullNo X3.here hx rfl (hb hby d14_23) rfl ?_
    show Steps p.tables e below (T3.setTop (mkF m 26 #[(vr a1), (vr a2), (vr wMAX_LOCK_DELAY), (vi 1), .unset] [])) _
    refine XS.aloadN X3.here hx rfl (hb hby d14_26) rfl rfl ?_
    refine st4 _ ?_
    refine XS.ifNo X4.here hx rfl (hb hby d14_30) rfl ((if0 _ _).trans (teq (by decide : (0 : Int32) = (0 : Int32))).2) ?_
    refine XS.aloadN X4.here hx rfl (hb hby d14_33) rfl rfl ?_
    refine XS.aloadN X4.here hx rfl (hb hby d14_34) rfl rfl ?_
    refine XS.aloadN X4.here hx rfl (hb hby d14_35) rfl rfl ?_
    refine st5.trans ?_
    refine st7 _ ?_
    show Steps p.tables e below (T7.setTop (mkF m 42 #[(vr a1), (vr a2), (vr wMAX_LOCK_DELAY), (vi 1), .unset] [(.ref wGRANTED)])) _
    refine XS.astore X7.here hx rfl (hb hby d14_42) rfl rfl (l' := #[(vr a1), (vr a2), (vr wMAX_LOCK_DELAY), (vi 1), (vr wGRANTED)]) rfl ?_
    refine XS.goto X7.here hx rfl (pc0 := 44) (pc' := 91) rfl (hb hby d14_44) (by decide) (by decide) ?_
    refine XS.aload X7.here hx rfl (hb hby d14_91) rfl rfl ?_
    jvm_step X7.here [X7.here.top, hx, (hb hby d14_93), X7.method', hret0, Value.isRef, FieldType.isReference]
    first | (intro acts; rw [hr _ acts rfl rfl rfl]) | rw [hr _ _ rfl rfl rfl]
    exact Steps.refl _
  · show Q_au14_0 Z wMAX_LOCK_DELAY wGRANTED wQUEUED wZERO a1 a2 qg3 a4 h0 n0 _ T7.heap _
    rw [e7]
    exact ⟨rfl, N5, K6, p5_0, p5_1, p5_2, p5_3, p5_4, p5_5⟩
theorem pd_11 : parseMethodDescriptor "(Lcom/example/umpired/umpired/server/SessionHandle;Ljava/time/Duration;Z)Lcom/example/umpired/umpired/server/NodeLock$Outcome;" = some ⟨[(.object "com/example/umpired/umpired/server/SessionHandle"), (.object "java/time/Duration"), .boolean], some (.object "com/example/umpired/umpired/server/NodeLock$Outcome")⟩ := by decide +kernel
theorem ef_au7_2 (m : MethodId) (x0 : Addr) (x1 : Int64) (x2 : Int32)  : entryFrame m #[(.ref x0), (.long x1), (.int x2)] 6 = mkF m 0 #[(vr x0), (vl x1), .second, (vi x2), .unset, .unset] [] := by first | (simp [entryFrame, mkF, argsToLocals, Value.category]; done) | rfl
theorem ef_au13_1 (m : MethodId) (x0 : Addr) (x1 : Int64)  : entryFrame m #[(.ref x0), (.long x1)] 3 = mkF m 0 #[(vr x0), (vl x1), .second] [] := by first | (simp [entryFrame, mkF, argsToLocals, Value.category]; done) | rfl
theorem d13_7 : decode prog_84_method_7_code 7 = .ok (.aload_n 0, 1) := by decide +kernel
theorem d13_8 : decode prog_84_method_7_code 8 = .ok (.getfield 29, 3) := by decide +kernel
theorem d13_11 : decode prog_84_method_7_code 11 = .ok (.invokevirtual 101, 3) := by decide +kernel
theorem ef_au24_0 (m : MethodId) (x0 : Addr)  : entryFrame m #[(.ref x0)] 1 = mkF m 0 #[(vr x0)] [] := by first | (simp [entryFrame, mkF, argsToLocals, Value.category]; done) | rfl
theorem d24_0 : decode prog_89_method_2_code 0 = .ok (.aload_n 0, 1) := by decide +kernel
theorem d24_1 : decode prog_89_method_2_code 1 = .ok (.getfield 7, 3) := by decide +kernel
theorem d24_4 : decode prog_89_method_2_code 4 = .ok (.lreturn, 1) := by decide +kernel
def Q_au24_0 (Z : State) (wMAX_LOCK_DELAY : Addr) (wGRANTED : Addr) (wQUEUED : Addr) (wZERO : Addr) (a1 : Addr) (q2 : Int64) (h0 : Heap) (n0 : Nat) (v : Option Value) (h : Heap) (L : List Loc) : Prop := v = some (.long q2) ∧ Fr n0 L ∧ h = h0
theorem au24_0 (l : Launch) (Z : State) (a0 : Array Value) (hw : ∀ d ∈ tables_1, d.before a0 Z = true) (ws : List Jvm.Cond) (wMAX_LOCK_DELAY : Addr) (wGRANTED : Addr) (wQUEUED : Addr) (wZERO : Addr) (hS : SS Z wMAX_LOCK_DELAY wGRANTED wQUEUED wZERO) (a1 : Addr) (q2 : Int64) (h0 : Heap) (n0 : Nat) (O0 : Old Z n0 h0) (P2 : Fld Z h0 a1 s3n "session" "J" (.long q2)) :
    MetB l M17 prog_89_method_2_code 1 (some .long) ws (rmk 0 0 0 0) Z h0 #[(.ref a1)] (Q_au24_0 Z wMAX_LOCK_DELAY wGRANTED wQUEUED wZERO a1 q2 h0 n0) := by
  refine own_body (plainFor_of_name pn_com_example_umpired_umpired_server_SessionHandle) ?_
  intro p e s m below meth c s₁ hx hby hml hown hnm hret0 hlk0 hZ X0 e0
  have N0 := Fr.nil n0
  have pre0 : ∀ t, Steps p.tables e below (s₁.setTop (mkF m 0 #[(vr a1)] [])) t → Steps p.tables e below (s₁.setTop (entryFrame m #[(.ref a1)] 1)) t := fun t k => castTop (ef_au24_0 m a1) k
  have hS0 := hS
  obtain ⟨S_wMAX_LOCK_DELAY, E_wMAX_LOCK_DELAY, S_wGRANTED, E_wGRANTED, S_wQUEUED, E_wQUEUED, F_seconds_wMAX_LOCK_DELAY, F_nanos_wMAX_LOCK_DELAY, S_wZERO, E_wZERO, F_seconds_wZERO, F_nanos_wZERO⟩ := hS0
  obtain ⟨T1, X1, e1, st1⟩ := getF X0 hx hZ hown (host := "") (Or.inl (ow hw 40 rfl)) Via.refl e0 P2 (g := (mkF m 1 #[(vr a1)] [(.ref a1)])) rfl rfl (hb hby d24_1)
  obtain ⟨fs, hr, hrun, hended, hW, hsame⟩ := X1.leave (v := some (.long q2)) (fun h => by rw [hret0] at h; cases h)
  refine ⟨_, _, pre0 _ ?_, hrun, hended, _, _, rfl, ?_, ⟨_, rfl⟩, hW, hsame.mono (by decide) (by decide)⟩
  · skip
    show Steps p.tables e below (s₁.setTop (mkF m 0 #[(vr a1)] [])) _
    refine XS.aloadN X0.here hx rfl (hb hby d24_0) rfl rfl ?_
    refine st1 _ ?_
    jvm_step X1.here [X1.here.top, hx, (hb hby d24_4), X1.method', hret0, narrow]
    first | (intro acts; rw [hr _ acts rfl rfl rfl]) | rw [hr _ _ rfl rfl rfl]
    exact Steps.refl _
  · show Q_au24_0 Z wMAX_LOCK_DELAY wGRANTED wQUEUED wZERO a1 q2 h0 n0 _ T1.heap _
    rw [e1]
    exact ⟨rfl, N0, rfl⟩
theorem pd_12 : parseMethodDescriptor "()J" = some ⟨[], some .long⟩ := by decide +kernel
theorem d13_14 : decode prog_84_method_7_code 14 = .ok (.lload_n 1, 1) := by decide +kernel
theorem d13_15 : decode prog_84_method_7_code 15 = .ok (.lcmp, 1) := by decide +kernel
theorem d13_16 : decode prog_84_method_7_code 16 = .ok (.ifCond .ne 7, 3) := by decide +kernel
theorem d13_19 : decode prog_84_method_7_code 19 = .ok (.iconst 1, 1) := by decide +kernel
theorem d13_20 : decode prog_84_method_7_code 20 = .ok (.goto 4, 3) := by decide +kernel
def Q_au13_1 (Z : State) (wMAX_LOCK_DELAY : Addr) (wGRANTED : Addr) (wQUEUED : Addr) (wZERO : Addr) (a1 : Addr) (q2 : Int64) (a4 : Addr) (q6 : Int64) (h0 : Heap) (n0 : Nat) (v : Option Value) (h : Heap) (L : List Loc) : Prop := v = some (.int 1) ∧ Fr n0 L ∧ h = h0
theorem au13_1 (l : Launch) (Z : State) (a0 : Array Value) (hw : ∀ d ∈ tables_1, d.before a0 Z = true) (ws : List Jvm.Cond) (wMAX_LOCK_DELAY : Addr) (wGRANTED : Addr) (wQUEUED : Addr) (wZERO : Addr) (hS : SS Z wMAX_LOCK_DELAY wGRANTED wQUEUED wZERO) (a1 : Addr) (q2 : Int64) (a4 : Addr) (q6 : Int64) (h0 : Heap) (n0 : Nat) (O0 : Old Z n0 h0) (P3 : Fld Z h0 a1 s4n "holder" s9n (.ref a4)) (P6 : Exa Z h0 a4 s3n) (P8 : Fld Z h0 a4 s3n "session" "J" (.long q6)) (P16 : q6 = q2) :
    MetB l M11 prog_84_method_7_code 3 (some .boolean) ws (rmk 1 0 0 12) Z h0 #[(.ref a1), (.long q2)] (Q_au13_1 Z wMAX_LOCK_DELAY wGRANTED wQUEUED wZERO a1 q2 a4 q6 h0 n0) := by
  refine own_body (plainFor_of_name pn_com_example_umpired_umpired_server_NodeLock) ?_
  intro p e s m below meth c s₁ hx hby hml hown hnm hret0 hlk0 hZ X0 e0
  have N0 := Fr.nil n0
  have pre0 : ∀ t, Steps p.tables e below (s₁.setTop (mkF m 0 #[(vr a1), (vl q2), .second] [])) t → Steps p.tables e below (s₁.setTop (entryFrame m #[(.ref a1), (.long q2)] 3)) t := fun t k => castTop (ef_au13_1 m a1 q2) k
  have hS0 := hS
  obtain ⟨S_wMAX_LOCK_DELAY, E_wMAX_LOCK_DELAY, S_wGRANTED, E_wGRANTED, S_wQUEUED, E_wQUEUED, F_seconds_wMAX_LOCK_DELAY, F_nanos_wMAX_LOCK_DELAY, S_wZERO, E_wZERO, F_seconds_wZERO, F_nanos_wZERO⟩ := hS0
  obtain ⟨T1, X1, e1, st1⟩ := getF X0 hx hZ hown (host := "") (Or.inl (ow hw 109 rfl)) Via.refl e0 P3 (g := (mkF m 1 #[(vr a1), (vl q2), .second] [(.ref a1)])) rfl rfl (hb hby d13_1)
  obtain ⟨T2, X2, e2, st2⟩ := getF X1 hx hZ hown (host := "") (Or.inl (ow hw 109 rfl)) Via.refl e1 P3 (g := (mkF m 8 #[(vr a1), (vl q2), .second] [(.ref a1)])) rfl rfl (hb hby d13_8)
  obtain ⟨cq3, kq3, q3a, q3b, q3c⟩ := isOf hZ e2 P6
  obtain ⟨_, _, ⟨T3, L3, k3, n3⟩, -, X3, ⟨Lc3, hQ3, l3, y3, z3⟩, st3⟩ := X2.virtualBack hx (y := M17) (z := M17) hown (mvT hZ (ow hw 184 rfl)) (mvT hZ (ow hw 185 rfl)) (notFace_of_selects (args := #[]) (mvT hZ (ow hw 187 rfl))) (mvT hZ (ow hw 187 rfl)) (mvT hZ (ow hw 186 rfl)) (by decide) (backOf (W := 0) (au24_0 l Z a0 hw [] wMAX_LOCK_DELAY wGRANTED wQUEUED wZERO hS a4 q6 h0 n0 O0 P8) hZ (ow hw 188 rfl) (ow hw 35 rfl) (by decide) (by decide)) q3a q3c (g := (mkF m 11 #[(vr a1), (vl q2), .second] [(.ref a4)])) rfl (by rw [hml]; rfl) (Steps.refl _) (argsL := []) (rest := []) (lenOf pd_12 rfl) rfl (by show 2 * 0 + _ ≤ _; exact Nat.le_of_eq rfl) (hb hby d13_11) (fun _ _ => ⟨rfl, e2, (by decide : 0 + 0 ≤ _), (by decide : 0 + 0 ≤ _)⟩)
  dsimp only [Pt.U, Pt.locs, Pt.cells, Pt.slots] at X3 l3 y3 z3 st3 hQ3
  subst l3 y3 z3
  obtain ⟨rfl, Nq3, K3q⟩ := hQ3
  have N3 := Fr.app N0 Nq3
  obtain ⟨fs, hr, hrun, hended, hW, hsame⟩ := X3.leave (v := some (.int 1)) (fun h => by rw [hret0] at h; cases h)
  refine ⟨_, _, pre0 _ ?_, hrun, hended, _, _, rfl, ?_, ⟨_, rfl⟩, hW, hsame.mono (by decide) (by decide)⟩
  · skip
    show Steps p.tables e below (s₁.setTop (mkF m 0 #[(vr a1), (vl q2), .second] [])) _
    refine XS.aloadN X0.here hx rfl (hb hby d13_0) rfl rfl ?_
    refine st1 _ ?_
    refine XS.ifnullNo X1.here hx rfl (hb hby d13_4) rfl ?_
    refine XS.aloadN X1.here hx rfl (hb hby d13_7) rfl rfl ?_
    refine st2 _ ?_
    refine st3.trans ?_
    refine XS.lloadN X3.here hx rfl (hb hby d13_14) rfl ?_
    refine XS.lcmp X3.here hx rfl (hb hby d13_15) rfl ?_
    show Steps p.tables e below (T3.setTop (mkF m 16 #[(vr a1), (vl q2), .second] [(.int (lcmpW q6 q2))])) _
    refine XS.ifNo X3.here hx rfl (hb hby d13_16) rfl ((if0 _ _).trans (teq ((lw_eq _ _).mpr P16 : (lcmpW q6 q2) = (0 : Int32))).2) ?_
    refine XS.iconst X3.here hx rfl (hb hby d13_19) ?_
    refine XS.goto X3.here hx rfl (pc0 := 20) (pc' := 24) rfl (hb hby d13_20) (by decide) (by decide) ?_
    exact retN X3 hx (t := .boolean) hret0 (by simp) (hb hby d13_24) hr
  · show Q_au13_1 Z wMAX_LOCK_DELAY wGRANTED wQUEUED wZERO a1 q2 a4 q6 h0 n0 _ T3.heap _
    rw [K3q]
    exact ⟨rfl, N3, rfl⟩
theorem d7_63 : decode prog_84_method_14_code 63 = .ok (.aload_n 0, 1) := by decide +kernel
theorem d7_64 : decode prog_84_method_14_code 64 = .ok (.aconst_null, 1) := by decide +kernel
theorem d7_65 : decode prog_84_method_14_code 65 = .ok (.putfield 29, 3) := by decide +kernel
theorem d7_68 : decode prog_84_method_14_code 68 = .ok (.aload_n 0, 1) := by decide +kernel
theorem d7_69 : decode prog_84_method_14_code 69 = .ok (.iload_n 3, 1) := by decide +kernel
theorem d7_70 : decode prog_84_method_14_code 70 = .ok (.ifCond .eq 17, 3) := by decide +kernel
theorem d7_87 : decode prog_84_method_14_code 87 = .ok (.iconst 0, 1) := by decide +kernel
theorem d7_88 : decode prog_84_method_14_code 88 = .ok (.putfield 45, 3) := by decide +kernel
theorem d7_91 : decode prog_84_method_14_code 91 = .ok (.aload_n 0, 1) := by decide +kernel
theorem d7_92 : decode prog_84_method_14_code 92 = .ok (.getfield 45, 3) := by decide +kernel
theorem d7_95 : decode prog_84_method_14_code 95 = .ok (.ifCond .eq 7, 3) := by decide +kernel
theorem d7_102 : decode prog_84_method_14_code 102 = .ok (.aload_n 0, 1) := by decide +kernel
theorem d7_103 : decode prog_84_method_14_code 103 = .ok (.invokevirtual 112, 3) := by decide +kernel
theorem ef_au30_0 (m : MethodId) (x0 : Addr)  : entryFrame m #[(.ref x0)] 2 = mkF m 0 #[(vr x0), .unset] [] := by first | (simp [entryFrame, mkF, argsToLocals, Value.category]; done) | rfl
theorem d30_0 : decode prog_84_method_22_code 0 = .ok (.aload_n 0, 1) := by decide +kernel
theorem d30_1 : decode prog_84_method_22_code 1 = .ok (.getfield 10, 3) := by decide +kernel
theorem d30_4 : decode prog_84_method_22_code 4 = .ok (.invokeinterface 188 1, 5) := by decide +kernel
theorem ef_au31_0 (m : MethodId) (x0 : Addr)  : entryFrame m #[(.ref x0)] 1 = mkF m 0 #[(vr x0)] [] := by first | (simp [entryFrame, mkF, argsToLocals, Value.category]; done) | rfl
theorem d31_0 : decode jdk_21_method_31_code 0 = .ok (.aload_n 0, 1) := by decide +kernel
theorem d31_1 : decode jdk_21_method_31_code 1 = .ok (.invokevirtual 93, 3) := by decide +kernel
theorem ef_au32_0 (m : MethodId) (x0 : Addr)  : entryFrame m #[(.ref x0)] 4 = mkF m 0 #[(vr x0), .unset, .unset, .unset] [] := by first | (simp [entryFrame, mkF, argsToLocals, Value.category]; done) | rfl
theorem d32_0 : decode jdk_21_method_20_code 0 = .ok (.aload_n 0, 1) := by decide +kernel
theorem d32_1 : decode jdk_21_method_20_code 1 = .ok (.getfield 3, 3) := by decide +kernel
theorem d32_4 : decode jdk_21_method_20_code 4 = .ok (.dup, 1) := by decide +kernel
theorem d32_5 : decode jdk_21_method_20_code 5 = .ok (.astore_n 1, 1) := by decide +kernel
theorem d32_6 : decode jdk_21_method_20_code 6 = .ok (.aload_n 0, 1) := by decide +kernel
theorem d32_7 : decode jdk_21_method_20_code 7 = .ok (.getfield 24, 3) := by decide +kernel
theorem d32_10 : decode jdk_21_method_20_code 10 = .ok (.dup, 1) := by decide +kernel
theorem d32_11 : decode jdk_21_method_20_code 11 = .ok (.istore_n 2, 1) := by decide +kernel
theorem d32_12 : decode jdk_21_method_20_code 12 = .ok (.invokestatic 103, 3) := by decide +kernel
theorem ef_au33_0 (m : MethodId) (x0 : Addr) (x1 : Int32)  : entryFrame m #[(.ref x0), (.int x1)] 2 = mkF m 0 #[(vr x0), (vi x1)] [] := by first | (simp [entryFrame, mkF, argsToLocals, Value.category]; done) | rfl
theorem d33_0 : decode jdk_21_method_10_code 0 = .ok (.aload_n 0, 1) := by decide +kernel
theorem d33_1 : decode jdk_21_method_10_code 1 = .ok (.iload_n 1, 1) := by decide +kernel
theorem d33_2 : decode jdk_21_method_10_code 2 = .ok (.aaload, 1) := by decide +kernel
theorem d33_3 : decode jdk_21_method_10_code 3 = .ok (.areturn, 1) := by decide +kernel
def Q_au33_0 (Z : State) (wMAX_LOCK_DELAY : Addr) (wGRANTED : Addr) (wQUEUED : Addr) (wZERO : Addr) (a1 : Addr) (k2 : ClassId) (h0 : Heap) (n0 : Nat) (v : Option Value) (h : Heap) (L : List Loc) : Prop := v = some .null ∧ Fr n0 L ∧ h = h0
theorem au33_0 (l : Launch) (Z : State) (a0 : Array Value) (hw : ∀ d ∈ tables_1, d.before a0 Z = true) (ws : List Jvm.Cond) (wMAX_LOCK_DELAY : Addr) (wGRANTED : Addr) (wQUEUED : Addr) (wZERO : Addr) (hS : SS Z wMAX_LOCK_DELAY wGRANTED wQUEUED wZERO) (a1 : Addr) (k2 : ClassId) (h0 : Heap) (n0 : Nat) (O0 : Old Z n0 h0) (P0 : Arv Z h0 a1 k2 (.object s8n) (17 : Int32) ([.null, .null, .null, .null, .null, .null, .null, .null, .null, .null, .null, .null, .null, .null, .null, .null, .null]) .null) :
    MetB l M18 jdk_21_method_10_code 2 (some (.object s8n)) ws (rmk 0 0 0 0) Z h0 #[(.ref a1), (.int 0)] (Q_au33_0 Z wMAX_LOCK_DELAY wGRANTED wQUEUED wZERO a1 k2 h0 n0) := by
  refine own_body (plainFor_of_name pn_java_util_ArrayDeque) ?_
  intro p e s m below meth c s₁ hx hby hml hown hnm hret0 hlk0 hZ X0 e0
  have N0 := Fr.nil n0
  have pre0 : ∀ t, Steps p.tables e below (s₁.setTop (mkF m 0 #[(vr a1), (vi 0)] [])) t → Steps p.tables e below (s₁.setTop (entryFrame m #[(.ref a1), (.int 0)] 2)) t := fun t k => castTop (ef_au33_0 m a1 (0 : Int32)) k
  have hS0 := hS
  obtain ⟨S_wMAX_LOCK_DELAY, E_wMAX_LOCK_DELAY, S_wGRANTED, E_wGRANTED, S_wQUEUED, E_wQUEUED, F_seconds_wMAX_LOCK_DELAY, F_nanos_wMAX_LOCK_DELAY, S_wZERO, E_wZERO, F_seconds_wZERO, F_nanos_wZERO⟩ := hS0
  obtain ⟨cl1, Ar1, q1, Sz1, Nn1, Ha1, Gg1⟩ := (id P0)
  have hin1 : ¬ ((0 : Int32) < 0 ∨ cl1.slots.size ≤ ((0 : Int32)).toNatClampNeg) := inb_of Sz1 ⟨by decide, by decide⟩
  have hat1 : cl1.slots[((0 : Int32)).toNatClampNeg]? = some .null := Ha1.at hin1 rfl
  obtain ⟨fs, hr, hrun, hended, hW, hsame⟩ := X0.leave (v := some .null) (fun h => by rw [hret0] at h; cases h)
  refine ⟨_, _, pre0 _ ?_, hrun, hended, _, _, rfl, ?_, ⟨_, rfl⟩, hW, hsame.mono (by decide) (by decide)⟩
  · skip
    show Steps p.tables e below (s₁.setTop (mkF m 0 #[(vr a1), (vi 0)] [])) _
    refine XS.aloadN X0.here hx rfl (hb hby d33_0) rfl rfl ?_
    refine XS.iloadN X0.here hx rfl (hb hby d33_1) rfl ?_
    refine X0.aaload hx (j := (0 : Int32)) (v := .null) (by rw [e0]; exact Ar1.1) (State.isArrayOf_alike hZ.alike Ar1.2.1) rfl Ar1.2.2 hin1 hat1 (g := (mkF m 2 #[(vr a1), (vi 0)] [(.int 0), (.ref a1)])) rfl rfl (hb hby d33_2) _ ?_
    jvm_step X0.here [X0.here.top, hx, (hb hby d33_3), X0.method', hret0, Value.isRef, FieldType.isReference]
    first | (intro acts; rw [hr _ acts rfl rfl rfl]) | rw [hr _ _ rfl rfl rfl]
    exact Steps.refl _
  · show Q_au33_0 Z wMAX_LOCK_DELAY wGRANTED wQUEUED wZERO a1 k2 h0 n0 _ s₁.heap _
    rw [e0]
    exact ⟨rfl, N0, rfl⟩
theorem pd_13 : parseMethodDescriptor "([Ljava/lang/Object;I)Ljava/lang/Object;" = some ⟨[(.array (.object "java/lang/Object")), .int], some (.object "java/lang/Object")⟩ := by decide +kernel
theorem d32_15 : decode jdk_21_method_20_code 15 = .ok (.astore_n 3, 1) := by decide +kernel
theorem d32_16 : decode jdk_21_method_20_code 16 = .ok (.aload_n 3, 1) := by decide +kernel
theorem d32_17 : decode jdk_21_method_20_code 17 = .ok (.ifnull 17, 3) := by decide +kernel
theorem d32_34 : decode jdk_21_method_20_code 34 = .ok (.aload_n 3, 1) := by decide +kernel
theorem d32_35 : decode jdk_21_method_20_code 35 = .ok (.areturn, 1) := by decide +kernel
def Q_au32_0 (Z : State) (wMAX_LOCK_DELAY : Addr) (wGRANTED : Addr) (wQUEUED : Addr) (wZERO : Addr) (a1 : Addr) (a2 : Addr) (k3 : ClassId) (h0 : Heap) (n0 : Nat) (v : Option Value) (h : Heap) (L : List Loc) : Prop := v = some .null ∧ Fr n0 L ∧ h = h0
theorem au32_0 (l : Launch) (Z : State) (a0 : Array Value) (hw : ∀ d ∈ tables_1, d.before a0 Z = true) (ws : List Jvm.Cond) (wMAX_LOCK_DELAY : Addr) (wGRANTED : Addr) (wQUEUED : Addr) (wZERO : Addr) (hS : SS Z wMAX_LOCK_DELAY wGRANTED wQUEUED wZERO) (a1 : Addr) (a2 : Addr) (k3 : ClassId) (h0 : Heap) (n0 : Nat) (O0 : Old Z n0 h0) (P1 : Fld Z h0 a1 s6n "elements" s7n (.ref a2)) (P2 : Fld Z h0 a1 s6n "head" "I" (.int 0)) (P4 : Arv Z h0 a2 k3 (.object s8n) (17 : Int32) ([.null, .null, .null, .null, .null, .null, .null, .null, .null, .null, .null, .null, .null, .null, .null, .null, .null]) .null) :
    MetB l M19 jdk_21_method_20_code 4 (some (.object s8n)) ws (rmk 1 0 0 13) Z h0 #[(.ref a1)] (Q_au32_0 Z wMAX_LOCK_DELAY wGRANTED wQUEUED wZERO a1 a2 k3 h0 n0) := by
  refine own_body (plainFor_of_name pn_java_util_ArrayDeque) ?_
  intro p e s m below meth c s₁ hx hby hml hown hnm hret0 hlk0 hZ X0 e0
  have N0 := Fr.nil n0
  have pre0 : ∀ t, Steps p.tables e below (s₁.setTop (mkF m 0 #[(vr a1), .unset, .unset, .unset] [])) t → Steps p.tables e below (s₁.setTop (entryFrame m #[(.ref a1)] 4)) t := fun t k => castTop (ef_au32_0 m a1) k
  have hS0 := hS
  obtain ⟨S_wMAX_LOCK_DELAY, E_wMAX_LOCK_DELAY, S_wGRANTED, E_wGRANTED, S_wQUEUED, E_wQUEUED, F_seconds_wMAX_LOCK_DELAY, F_nanos_wMAX_LOCK_DELAY, S_wZERO, E_wZERO, F_seconds_wZERO, F_nanos_wZERO⟩ := hS0
  obtain ⟨T1, X1, e1, st1⟩ := getF X0 hx hZ hown (host := "") (Or.inl (ow hw 25 rfl)) Via.refl e0 P1 (g := (mkF m 1 #[(vr a1), .unset, .unset, .unset] [(.ref a1)])) rfl rfl (hb hby d32_1)
  obtain ⟨T2, X2, e2, st2⟩ := getF X1 hx hZ hown (host := "") (Or.inl (ow hw 83 rfl)) Via.refl e1 P2 (g := (mkF m 7 #[(vr a1), (vr a2), .unset, .unset] [(.ref a1), (.ref a2)])) rfl rfl (hb hby d32_7)
  obtain ⟨_, _, ⟨T3, L3, k3, n3⟩, -, X3, ⟨Lc3, hQ3, l3, y3, z3⟩, st3⟩ := Jvm.LawKit.callS X2 hx (y := M18) hown (mvT hZ (ow hw 241 rfl)) (mvT hZ (ow hw 242 rfl)) (mvT hZ (ow hw 12 rfl)) (mvT hZ (ow hw 243 rfl)) (by decide) (backOf (W := 0) (au33_0 l Z a0 hw [] wMAX_LOCK_DELAY wGRANTED wQUEUED wZERO hS a2 k3 h0 n0 O0 P4) hZ (ow hw 243 rfl) (ow hw 12 rfl) (by decide) (by decide)) (g := (mkF m 12 #[(vr a1), (vr a2), (vi 0), .unset] [(.int 0), (.ref a2)])) rfl (by rw [hml]; rfl) (argsL := [(.ref a2), (.int 0)]) (rest := []) (lenOf pd_13 rfl) rfl (by show 2 * 0 + _ ≤ _; exact Nat.le_of_eq rfl) (hb hby d32_12) (fun _ _ => ⟨rfl, e2, (by decide : 0 + 0 ≤ _), (by decide : 0 + 0 ≤ _)⟩)
  dsimp only [Pt.U, Pt.locs, Pt.cells, Pt.slots] at X3 l3 y3 z3 st3 hQ3
  subst l3 y3 z3
  obtain ⟨rfl, Nq3, K3q⟩ := hQ3
  have N3 := Fr.app N0 Nq3
  obtain ⟨fs, hr, hrun, hended, hW, hsame⟩ := X3.leave (v := some .null) (fun h => by rw [hret0] at h; cases h)
  refine ⟨_, _, pre0 _ ?_, hrun, hended, _, _, rfl, ?_, ⟨_, rfl⟩, hW, hsame.mono (by decide) (by decide)⟩
  · skip
    show Steps p.tables e below (s₁.setTop (mkF m 0 #[(vr a1), .unset, .unset, .unset] [])) _
    refine XS.aloadN X0.here hx rfl (hb hby d32_0) rfl rfl ?_
    refine st1 _ ?_
    refine XS.dup X1.here hx rfl (hb hby d32_4) rfl rfl ?_
    refine XS.astoreN X1.here hx rfl (hb hby d32_5) rfl rfl (l' := #[(vr a1), (vr a2), .unset, .unset]) rfl ?_
    refine XS.aloadN X1.here hx rfl (hb hby d32_6) rfl rfl ?_
    refine st2 _ ?_
    refine XS.dup X2.here hx rfl (hb hby d32_10) rfl rfl ?_
    refine XS.istoreN X2.here hx rfl (hb hby d32_11) rfl (l' := #[(vr a1), (vr a2), (vi 0), .unset]) rfl ?_
    show Steps p.tables e below (T2.setTop (mkF m 12 #[(vr a1), (vr a2), (vi 0), .unset] [(.int 0), (.ref a2)])) _
    refine st3 _ ?_
    refine XS.astoreN X3.here hx rfl (hb hby d32_15) rfl rfl (l' := #[(vr a1), (vr a2), (vi 0), .val .null]) rfl ?_
    refine XS.aloadN X3.here hx rfl (hb hby d32_16) rfl rfl ?_
    refine XS.ifnullYes X3.here hx rfl (pc0 := 17) (pc' := 34) rfl (hb hby d32_17) rfl (by decide) (by decide) ?_
    refine XS.aloadN X3.here hx rfl (hb hby d32_34) rfl rfl ?_
    jvm_step X3.here [X3.here.top, hx, (hb hby d32_35), X3.method', hret0, Value.isRef, FieldType.isReference]
    first | (intro acts; rw [hr _ acts rfl rfl rfl]) | rw [hr _ _ rfl rfl rfl]
    exact Steps.refl _
  · show Q_au32_0 Z wMAX_LOCK_DELAY wGRANTED wQUEUED wZERO a1 a2 k3 h0 n0 _ T3.heap _
    rw [K3q]
    exact ⟨rfl, N3, rfl⟩
theorem pd_14 : parseMethodDescriptor "()Ljava/lang/Object;" = some ⟨[], some (.object "java/lang/Object")⟩ := by decide +kernel
theorem d31_4 : decode jdk_21_method_31_code 4 = .ok (.areturn, 1) := by decide +kernel
def Q_au31_0 (Z : State) (wMAX_LOCK_DELAY : Addr) (wGRANTED : Addr) (wQUEUED : Addr) (wZERO : Addr) (a1 : Addr) (a2 : Addr) (k3 : ClassId) (h0 : Heap) (n0 : Nat) (v : Option Value) (h : Heap) (L : List Loc) : Prop := v = some .null ∧ Fr n0 L ∧ h = h0
theorem au31_0 (l : Launch) (Z : State) (a0 : Array Value) (hw : ∀ d ∈ tables_1, d.before a0 Z = true) (ws : List Jvm.Cond) (wMAX_LOCK_DELAY : Addr) (wGRANTED : Addr) (wQUEUED : Addr) (wZERO : Addr) (hS : SS Z wMAX_LOCK_DELAY wGRANTED wQUEUED wZERO) (a1 : Addr) (a2 : Addr) (k3 : ClassId) (h0 : Heap) (n0 : Nat) (O0 : Old Z n0 h0) (P0 : Exa Z h0 a1 s6n) (P1 : Fld Z h0 a1 s6n "elements" s7n (.ref a2)) (P2 : Fld Z h0 a1 s6n "head" "I" (.int 0)) (P4 : Arv Z h0 a2 k3 (.object s8n) (17 : Int32) ([.null, .null, .null, .null, .null, .null, .null, .null, .null, .null, .null, .null, .null, .null, .null, .null, .null]) .null) :
    MetB l M20 jdk_21_method_31_code 1 (some (.object s8n)) ws (rmk 2 0 0 28) Z h0 #[(.ref a1)] (Q_au31_0 Z wMAX_LOCK_DELAY wGRANTED wQUEUED wZERO a1 a2 k3 h0 n0) := by
  refine own_body (plainFor_of_name pn_java_util_ArrayDeque) ?_
  intro p e s m below meth c s₁ hx hby hml hown hnm hret0 hlk0 hZ X0 e0
  have N0 := Fr.nil n0
  have pre0 : ∀ t, Steps p.tables e below (s₁.setTop (mkF m 0 #[(vr a1)] [])) t → Steps p.tables e below (s₁.setTop (entryFrame m #[(.ref a1)] 1)) t := fun t k => castTop (ef_au31_0 m a1) k
  have hS0 := hS
  obtain ⟨S_wMAX_LOCK_DELAY, E_wMAX_LOCK_DELAY, S_wGRANTED, E_wGRANTED, S_wQUEUED, E_wQUEUED, F_seconds_wMAX_LOCK_DELAY, F_nanos_wMAX_LOCK_DELAY, S_wZERO, E_wZERO, F_seconds_wZERO, F_nanos_wZERO⟩ := hS0
  obtain ⟨cq1, kq1, q1a, q1b, q1c⟩ := isOf hZ e0 P0
  obtain ⟨_, _, ⟨T1, L1, k1, n1⟩, -, X1, ⟨Lc1, hQ1, l1, y1, z1⟩, st1⟩ := X0.virtualBack hx (y := M19) (z := M19) hown (mvT hZ (ow hw 236 rfl)) (mvT hZ (ow hw 237 rfl)) (notFace_of_selects (args := #[]) (mvT hZ (ow hw 239 rfl))) (mvT hZ (ow hw 239 rfl)) (mvT hZ (ow hw 238 rfl)) (by decide) (backOf (W := 0) (au32_0 l Z a0 hw [] wMAX_LOCK_DELAY wGRANTED wQUEUED wZERO hS a1 a2 k3 h0 n0 O0 P1 P2 P4) hZ (ow hw 240 rfl) (ow hw 12 rfl) (by decide) (by decide)) q1a q1c (g := (mkF m 1 #[(vr a1)] [(.ref a1)])) rfl (by rw [hml]; rfl) (Steps.refl _) (argsL := []) (rest := []) (lenOf pd_14 rfl) rfl (by show 2 * 0 + _ ≤ _; exact Nat.le_of_eq rfl) (hb hby d31_1) (fun _ _ => ⟨rfl, e0, (by decide : 0 + 0 ≤ _), (by decide : 0 + 0 ≤ _)⟩)
  dsimp only [Pt.U, Pt.locs, Pt.cells, Pt.slots] at X1 l1 y1 z1 st1 hQ1
  subst l1 y1 z1
  obtain ⟨rfl, Nq1, K1q⟩ := hQ1
  have N1 := Fr.app N0 Nq1
  obtain ⟨fs, hr, hrun, hended, hW, hsame⟩ := X1.leave (v := some .null) (fun h => by rw [hret0] at h; cases h)
  refine ⟨_, _, pre0 _ ?_, hrun, hended, _, _, rfl, ?_, ⟨_, rfl⟩, hW, hsame.mono (by decide) (by decide)⟩
  · skip
    show Steps p.tables e below (s₁.setTop (mkF m 0 #[(vr a1)] [])) _
    refine XS.aloadN X0.here hx rfl (hb hby d31_0) rfl rfl ?_
    refine st1.trans ?_
    jvm_step X1.here [X1.here.top, hx, (hb hby d31_4), X1.method', hret0, Value.isRef, FieldType.isReference]
    first | (intro acts; rw [hr _ acts rfl rfl rfl]) | rw [hr _ _ rfl rfl rfl]
    exact Steps.refl _
  · show Q_au31_0 Z wMAX_LOCK_DELAY wGRANTED wQUEUED wZERO a1 a2 k3 h0 n0 _ T1.heap _
    rw [K1q]
    exact ⟨rfl, N1, rfl⟩
theorem d30_9 : decode prog_84_method_22_code 9 = .ok (.checkcast 57, 3) := by decide +kernel
theorem d30_12 : decode prog_84_method_22_code 12 = .ok (.astore_n 1, 1) := by decide +kernel
theorem d30_13 : decode prog_84_method_22_code 13 = .ok (.aload_n 1, 1) := by decide +kernel
theorem d30_14 : decode prog_84_method_22_code 14 = .ok (.ifnull 15, 3) := by decide +kernel
theorem d30_29 : decode prog_84_method_22_code 29 = .ok (.aload_n 1, 1) := by decide +kernel
theorem d30_30 : decode prog_84_method_22_code 30 = .ok (.ifnonnull 7, 3) := by decide +kernel
theorem d30_33 : decode prog_84_method_22_code 33 = .ok (.aconst_null, 1) := by decide +kernel
theorem d30_34 : decode prog_84_method_22_code 34 = .ok (.goto 7, 3) := by decide +kernel
theorem d30_41 : decode prog_84_method_22_code 41 = .ok (.areturn, 1) := by decide +kernel
def Q_au30_0 (Z : State) (wMAX_LOCK_DELAY : Addr) (wGRANTED : Addr) (wQUEUED : Addr) (wZERO : Addr) (a1 : Addr) (a3 : Addr) (a4 : Addr) (k5 : ClassId) (h0 : Heap) (n0 : Nat) (v : Option Value) (h : Heap) (L : List Loc) : Prop := v = some .null ∧ Fr n0 L ∧ h = h0
theorem au30_0 (l : Launch) (Z : State) (a0 : Array Value) (hw : ∀ d ∈ tables_1, d.before a0 Z = true) (ws : List Jvm.Cond) (wMAX_LOCK_DELAY : Addr) (wGRANTED : Addr) (wQUEUED : Addr) (wZERO : Addr) (hS : SS Z wMAX_LOCK_DELAY wGRANTED wQUEUED wZERO) (a1 : Addr) (a3 : Addr) (a4 : Addr) (k5 : ClassId) (h0 : Heap) (n0 : Nat) (O0 : Old Z n0 h0) (P5 : Fld Z h0 a1 s4n "waiters" s11n (.ref a3)) (P6 : Exa Z h0 a3 s6n) (P7 : Fld Z h0 a3 s6n "elements" s7n (.ref a4)) (P8 : Fld Z h0 a3 s6n "head" "I" (.int 0)) (P10 : Arv Z h0 a4 k5 (.object s8n) (17 : Int32) ([.null, .null, .null, .null, .null, .null, .null, .null, .null, .null, .null, .null, .null, .null, .null, .null, .null]) .null) :
    MetB l M21 prog_84_method_22_code 2 (some (.object s3n)) ws (rmk 3 0 0 40) Z h0 #[(.ref a1)] (Q_au30_0 Z wMAX_LOCK_DELAY wGRANTED wQUEUED wZERO a1 a3 a4 k5 h0 n0) := by
  refine own_body (plainFor_of_name pn_com_example_umpired_umpired_server_NodeLock) ?_
  intro p e s m below meth c s₁ hx hby hml hown hnm hret0 hlk0 hZ X0 e0
  have N0 := Fr.nil n0
  have pre0 : ∀ t, Steps p.tables e below (s₁.setTop (mkF m 0 #[(vr a1), .unset] [])) t → Steps p.tables e below (s₁.setTop (entryFrame m #[(.ref a1)] 2)) t := fun t k => castTop (ef_au30_0 m a1) k
  have hS0 := hS
  obtain ⟨S_wMAX_LOCK_DELAY, E_wMAX_LOCK_DELAY, S_wGRANTED, E_wGRANTED, S_wQUEUED, E_wQUEUED, F_seconds_wMAX_LOCK_DELAY, F_nanos_wMAX_LOCK_DELAY, S_wZERO, E_wZERO, F_seconds_wZERO, F_nanos_wZERO⟩ := hS0
  obtain ⟨T1, X1, e1, st1⟩ := getF X0 hx hZ hown (host := "") (Or.inl (ow hw 27 rfl)) Via.refl e0 P5 (g := (mkF m 1 #[(vr a1), .unset] [(.ref a1)])) rfl rfl (hb hby d30_1)
  obtain ⟨cq2, kq2, q2a, q2b, q2c⟩ := isOf hZ e1 P6
  obtain ⟨_, _, ⟨T2, L2, k2, n2⟩, -, X2, ⟨Lc2, hQ2, l2, y2, z2⟩, st2⟩ := X1.interfaceBack hx (xi := M22) (y := M20) hown (mvT hZ (ow hw 228 rfl)) (mvT hZ (ow hw 229 rfl)) (mvT hZ (ow hw 230 rfl)) (mvT hZ (ow hw 231 rfl)) (mvT hZ (ow hw 232 rfl)) (mvT hZ (ow hw 233 rfl)) (mvT hZ (ow hw 234 rfl)) (mvT hZ (ow hw 64 rfl)) (by decide) (backOf (W := 0) (au31_0 l Z a0 hw [] wMAX_LOCK_DELAY wGRANTED wQUEUED wZERO hS a3 a4 k5 h0 n0 O0 P6 P7 P8 P10) hZ (ow hw 235 rfl) (ow hw 12 rfl) (by decide) (by decide)) q2a q2b q2c (g := (mkF m 4 #[(vr a1), .unset] [(.ref a3)])) rfl (by rw [hml]; rfl) (Steps.refl _) (argsL := []) (rest := []) (lenOf pd_14 rfl) rfl (by show 2 * 0 + _ ≤ _; exact Nat.le_of_eq rfl) (hb hby d30_4) (fun _ _ => ⟨rfl, e1, (by decide : 0 + 0 ≤ _), (by decide : 0 + 0 ≤ _)⟩)
  dsimp only [Pt.U, Pt.locs, Pt.cells, Pt.slots] at X2 l2 y2 z2 st2 hQ2
  subst l2 y2 z2
  obtain ⟨rfl, Nq2, K2q⟩ := hQ2
  have N2 := Fr.app N0 Nq2
  obtain ⟨fs, hr, hrun, hended, hW, hsame⟩ := X2.leave (v := some .null) (fun h => by rw [hret0] at h; cases h)
  refine ⟨_, _, pre0 _ ?_, hrun, hended, _, _, rfl, ?_, ⟨_, rfl⟩, hW, hsame.mono (by decide) (by decide)⟩
  · skip
    show Steps p.tables e below (s₁.setTop (mkF m 0 #[(vr a1), .unset] [])) _
    refine XS.aloadN X0.here hx rfl (hb hby d30_0) rfl rfl ?_
    refine st1 _ ?_
    refine st2.trans ?_
    refine X2.checkcastNull hx (g := (mkF m 9 #[(vr a1), .unset] [.null])) rfl rfl (hb hby d30_9) _ ?_
    refine XS.astoreN X2.here hx rfl (hb hby d30_12) rfl rfl (l' := #[(vr a1), .val .null]) rfl ?_
    refine XS.aloadN X2.here hx rfl (hb hby d30_13) rfl rfl ?_
    refine XS.ifnullYes X2.here hx rfl (pc0 := 14) (pc' := 29) rfl (hb hby d30_14) rfl (by decide) (by decide) ?_
    refine XS.aloadN X2.here hx rfl (hb hby d30_29) rfl rfl ?_
    show Steps p.tables e below (T2.setTop (mkF m 30 #[(vr a1), .val .null] [.null])) _
    refine XS.ifnonnullNo X2.here hx rfl (hb hby d30_30) rfl ?_
    refine XS.aconstNull X2.here hx rfl (hb hby d30_33) ?_
    refine XS.goto X2.here hx rfl (pc0 := 34) (pc' := 41) rfl (hb hby d30_34) (by decide) (by decide) ?_
    jvm_step X2.here [X2.here.top, hx, (hb hby d30_41), X2.method', hret0, Value.isRef, FieldType.isReference]
    first | (intro acts; rw [hr _ acts rfl rfl rfl]) | rw [hr _ _ rfl rfl rfl]
    exact Steps.refl _
  · show Q_au30_0 Z wMAX_LOCK_DELAY wGRANTED wQUEUED wZERO a1 a3 a4 k5 h0 n0 _ T2.heap _
    rw [K2q]
    exact ⟨rfl, N2, rfl⟩
theorem pd_15 : parseMethodDescriptor "()Lcom/example/umpired/umpired/server/SessionHandle;" = some ⟨[], some (.object "com/example/umpired/umpired/server/SessionHandle")⟩ := by decide +kernel
theorem d7_106 : decode prog_84_method_14_code 106 = .ok (.astore 5, 2) := by decide +kernel
def Q_au7_2 (Z : State) (wMAX_LOCK_DELAY : Addr) (wGRANTED : Addr) (wQUEUED : Addr) (wZERO : Addr) (a1 : Addr) (q2 : Int64) (qg3 : Int64) (a4 : Addr) (a5 : Addr) (q6 : Int64) (a7 : Addr) (k8 : ClassId) (h0 : Heap) (n0 : Nat) (v : Option Value) (h : Heap) (L : List Loc) : Prop := v = some .null ∧ Fr n0 L ∧ Keep h0 h [a1] ∧ Exa Z h a1 s4n ∧ Fld Z h a1 s4n "generation" "J" (.long qg3) ∧ Fld Z h a1 s4n "heldBack" "Z" (.int 0) ∧ Fld Z h a1 s4n "holder" s9n .null ∧ Fld Z h a1 s4n s10n s0n (.ref wMAX_LOCK_DELAY) ∧ Fld Z h a1 s4n "waiters" s11n (.ref a5)
theorem au7_2 (l : Launch) (Z : State) (a0 : Array Value) (hw : ∀ d ∈ tables_1, d.before a0 Z = true) (ws : List Jvm.Cond) (wMAX_LOCK_DELAY : Addr) (wGRANTED : Addr) (wQUEUED : Addr) (wZERO : Addr) (hS : SS Z wMAX_LOCK_DELAY wGRANTED wQUEUED wZERO) (a1 : Addr) (q2 : Int64) (qg3 : Int64) (a4 : Addr) (a5 : Addr) (q6 : Int64) (a7 : Addr) (k8 : ClassId) (h0 : Heap) (n0 : Nat) (O0 : Old Z n0 h0) (P0 : Exa Z h0 a1 s4n) (P1 : Fld Z h0 a1 s4n "generation" "J" (.long qg3)) (P2 : Fld Z h0 a1 s4n "heldBack" "Z" (.int 0)) (P3 : Fld Z h0 a1 s4n "holder" s9n (.ref a4)) (P4 : Fld Z h0 a1 s4n s10n s0n (.ref wMAX_LOCK_DELAY)) (P5 : Fld Z h0 a1 s4n "waiters" s11n (.ref a5)) (P6 : Exa Z h0 a4 s3n) (P8 : Fld Z h0 a4 s3n "session" "J" (.long q6)) (P9 : Exa Z h0 a5 s6n) (P10 : Fld Z h0 a5 s6n "elements" s7n (.ref a7)) (P11 : Fld Z h0 a5 s6n "head" "I" (.int 0)) (P12 : Fld Z h0 a5 s6n "tail" "I" (.int 0)) (P13 : Arv Z h0 a7 k8 (.object s8n) (17 : Int32) ([.null, .null, .null, .null, .null, .null, .null, .null, .null, .null, .null, .null, .null, .null, .null, .null, .null]) .null) (P16 : q6 = q2) (P17 : n0 ≤ a1) (P22 : a1 ≠ a5) (P23 : a1 ≠ a7) :
    MetB l M12 prog_84_method_14_code 6 (some (.object s3n)) ws (rmk 4 1 4 53) Z h0 #[(.ref a1), (.long q2), (.int 0)] (Q_au7_2 Z wMAX_LOCK_DELAY wGRANTED wQUEUED wZERO a1 q2 qg3 a4 a5 q6 a7 k8 h0 n0) := by
  refine own_body (plainFor_of_name pn_com_example_umpired_umpired_server_NodeLock) ?_
  intro p e s m below meth c s₁ hx hby hml hown hnm hret0 hlk0 hZ X0 e0
  have N0 := Fr.nil n0
  have pre0 : ∀ t, Steps p.tables e below (s₁.setTop (mkF m 0 #[(vr a1), (vl q2), .second, (vi 0), .unset, .unset] [])) t → Steps p.tables e below (s₁.setTop (entryFrame m #[(.ref a1), (.long q2), (.int 0)] 6)) t := fun t k => castTop (ef_au7_2 m a1 q2 (0 : Int32)) k
  have K0 := Keep.refl h0 [a1]
  have hS0 := hS
  obtain ⟨S_wMAX_LOCK_DELAY, E_wMAX_LOCK_DELAY, S_wGRANTED, E_wGRANTED, S_wQUEUED, E_wQUEUED, F_seconds_wMAX_LOCK_DELAY, F_nanos_wMAX_LOCK_DELAY, S_wZERO, E_wZERO, F_seconds_wZERO, F_nanos_wZERO⟩ := hS0
  obtain ⟨T1, X1, e1, st1⟩ := getF X0 hx hZ hown (host := "") (Or.inl (ow hw 27 rfl)) Via.refl e0 P5 (g := (mkF m 1 #[(vr a1), (vl q2), .second, (vi 0), .unset, .unset] [(.ref a1)])) rfl rfl (hb hby d7_1)
  obtain ⟨cq2, kq2, q2a, q2b, q2c⟩ := isOf hZ e1 P9
  obtain ⟨_, _, ⟨T2, L2, k2, n2⟩, -, X2, ⟨Lc2, hQ2, l2, y2, z2⟩, st2⟩ := X1.interfaceBack hx (xi := M13) (y := M9) hown (mvT hZ (ow hw 57 rfl)) (mvT hZ (ow hw 58 rfl)) (mvT hZ (ow hw 59 rfl)) (mvT hZ (ow hw 60 rfl)) (mvT hZ (ow hw 61 rfl)) (mvT hZ (ow hw 62 rfl)) (mvT hZ (ow hw 63 rfl)) (mvT hZ (ow hw 64 rfl)) (by decide) (backOf (W := 0) (au8_0 l Z a0 hw [] wMAX_LOCK_DELAY wGRANTED wQUEUED wZERO hS a5 a7 k8 h0 n0 O0 P9 P10 P11 P12 P13) hZ (ow hw 65 rfl) (ow hw 12 rfl) (by decide) (by decide)) q2a q2b q2c (g := (mkF m 4 #[(vr a1), (vl q2), .second, (vi 0), .unset, .unset] [(.ref a5)])) rfl (by rw [hml]; rfl) (Steps.refl _) (argsL := []) (rest := []) (lenOf pd_6 rfl) rfl (by show 2 * 0 + _ ≤ _; exact Nat.le_of_eq rfl) (hb hby d7_4) (fun _ _ => ⟨rfl, e1, (by decide : 0 + 1 ≤ _), (by decide : 0 + 4 ≤ _)⟩)
  dsimp only [Pt.U, Pt.locs, Pt.cells, Pt.slots] at X2 l2 y2 z2 st2 hQ2
  subst l2 y2 z2
  obtain ⟨e1_2, rfl, Nq2, K2q, p2_0, p2_1, p2_2, p2_3, p2_4, p2_5⟩ := hQ2
  have N2 := Fr.app N0 Nq2
  have ne3 : a1 ≠ e1_2 := Nat.ne_of_lt (Nat.lt_of_lt_of_le P0.lt p2_0)
  have ne4 : a4 ≠ e1_2 := Nat.ne_of_lt (Nat.lt_of_lt_of_le P6.lt p2_0)
  have ne5 : a5 ≠ e1_2 := Nat.ne_of_lt (Nat.lt_of_lt_of_le P9.lt p2_0)
  have ne6 : a7 ≠ e1_2 := Nat.ne_of_lt (Nat.lt_of_lt_of_le P13.lt p2_0)
  have g7 : n0 ≤ e1_2 := Nat.le_trans (own_sz O0) p2_0
  have sz8 : h0.size ≤ e1_2 := Nat.le_trans K0.1 p2_0
  have O9 : Old Z n0 T2.heap := O0.keep K2q all0
  have K9 : Keep h0 T2.heap [a1] := K0.trans K2q all0
  obtain ⟨cq10, kq10, q10a, q10b, q10c⟩ := isOf hZ rfl p2_1
  obtain ⟨_, _, ⟨T10, L10, k10, n10⟩, -, X10, ⟨Lc10, hQ10, l10, y10, z10⟩, st10⟩ := X2.interfaceBack hx (xi := M14) (y := M10) hown (mvT hZ (ow hw 95 rfl)) (mvT hZ (ow hw 96 rfl)) (mvT hZ (ow hw 97 rfl)) (mvT hZ (ow hw 98 rfl)) (mvT hZ (ow hw 99 rfl)) (mvT hZ (ow hw 100 rfl)) (mvT hZ (ow hw 101 rfl)) (mvT hZ (ow hw 102 rfl)) (by decide) (backOf (W := 0) (au12_0 l Z a0 hw [] wMAX_LOCK_DELAY wGRANTED wQUEUED wZERO hS e1_2 T2.heap n0 O9 p2_4) hZ (ow hw 103 rfl) (ow hw 68 rfl) (by decide) (by decide)) q10a q10b q10c (g := (mkF m 13 #[(vr a1), (vl q2), .second, (vi 0), (vr e1_2), .unset] [(.ref e1_2)])) rfl (by rw [hml]; rfl) (Steps.refl _) (argsL := []) (rest := []) (lenOf pd_7 rfl) rfl (by show 2 * 0 + _ ≤ _; exact Nat.le_of_eq rfl) (hb hby d7_13) (fun _ _ => ⟨rfl, rfl, (by decide : 1 + 0 ≤ _), (by decide : 4 + 0 ≤ _)⟩)
  dsimp only [Pt.U, Pt.locs, Pt.cells, Pt.slots] at X10 l10 y10 z10 st10 hQ10
  subst l10 y10 z10
  obtain ⟨rfl, Nq10, K10q⟩ := hQ10
  have N10 := Fr.app N2 Nq10
  have f11 : Fld Z T2.heap a1 s4n "holder" s9n (.ref a4) := (P3.keep K2q nin0)
  have f12 : Exa Z T2.heap a4 s3n := (P6.keep K2q)
  have f13 : Fld Z T2.heap a4 s3n "session" "J" (.long q6) := (P8.keep K2q nin0)
  have f15 : Exa Z T2.heap a1 s4n := (P0.keep K2q)
  obtain ⟨cq14, kq14, q14a, q14b, q14c⟩ := isOf hZ K10q f15
  obtain ⟨_, _, ⟨T14, L14, k14, n14⟩, -, X14, ⟨Lc14, hQ14, l14, y14, z14⟩, st14⟩ := X10.virtualBack hx (y := M11) (z := M11) hown (mvT hZ (ow hw 104 rfl)) (mvT hZ (ow hw 105 rfl)) (notFace_of_selects (args := #[]) (mvT hZ (ow hw 107 rfl))) (mvT hZ (ow hw 107 rfl)) (mvT hZ (ow hw 106 rfl)) (by decide) (backOf (W := 0) (au13_1 l Z a0 hw [] wMAX_LOCK_DELAY wGRANTED wQUEUED wZERO hS a1 q2 a4 q6 T2.heap n0 O9 f11 f12 f13 P16) hZ (ow hw 108 rfl) (ow hw 3 rfl) (by decide) (by decide)) q14a q14c (g := (mkF m 57 #[(vr a1), (vl q2), .second, (vi 0), (vr e1_2), .val .null] [(.long q2), (.ref a1)])) rfl (by rw [hml]; rfl) (Steps.refl _) (argsL := [(.long q2)]) (rest := []) (lenOf pd_2 rfl) rfl (by show 2 * 0 + _ ≤ _; exact Nat.le_of_eq rfl) (hb hby d7_57) (fun _ _ => ⟨rfl, K10q, (by decide : 1 + 0 ≤ _), (by decide : 4 + 0 ≤ _)⟩)
  dsimp only [Pt.U, Pt.locs, Pt.cells, Pt.slots] at X14 l14 y14 z14 st14 hQ14
  subst l14 y14 z14
  obtain ⟨rfl, Nq14, K14q⟩ := hQ14
  have N14 := Fr.app N10 Nq14
  obtain ⟨T16, h16, X16, e16, W16, st16⟩ := putF X14 hx hZ hown (host := "") (Or.inl (ow hw 109 rfl)) Via.refl K14q f11 f15 (Or.inl (ow hw 110 rfl)) (ow hw 2 rfl) (ty := (.object s3n)) (by decide) rfl rfl (g := (mkF m 65 #[(vr a1), (vl q2), .second, (vi 0), (vr e1_2), .val .null] [.null, (.ref a1)])) rfl rfl (hb hby d7_65)
  have N16 := Fr.snoc X16 N14 P17
  have O17 : Old Z n0 h16 := O9.wr W16 P17
  have K17 : Keep h0 h16 [a1] := K9.wr W16 (Or.inl (List.mem_of_getElem? (i := 0) rfl))
  have Fw16 : Fld Z h16 a1 s4n "holder" s9n .null := f11.same W16
  have f18 : Exa Z h16 a1 s4n := (f15.wr W16)
  have f19 : Fld Z h16 a1 s4n "heldBack" "Z" (.int 0) := ((P2.keep K2q nin0).other W16 (Or.inr (slot_ne (Or.inl (ow hw 51 rfl)) (Or.inl (ow hw 110 rfl)) (by decide) (t := .boolean) (t' := (.object s3n)) (by decide) (by decide))))
  obtain ⟨T20, h20, X20, e20, W20, st20⟩ := putFN X16 hx hZ hown (ow hw 50 rfl) Via.refl e16 f19 f18 (Or.inl (ow hw 51 rfl)) (ow hw 2 rfl) (ty := .boolean) (v' := (.int 0)) (by decide) rfl rfl (g := (mkF m 88 #[(vr a1), (vl q2), .second, (vi 0), (vr e1_2), .val .null] [(.int 0), (.ref a1)])) rfl rfl (hb hby d7_88)
  have N20 := Fr.snoc X20 N16 P17
  have O21 : Old Z n0 h20 := O17.wr W20 P17
  have K21 : Keep h0 h20 [a1] := K17.wr W20 (Or.inl (List.mem_of_getElem? (i := 0) rfl))
  have Fw20 : Fld Z h20 a1 s4n "heldBack" "Z" (.int 0) := f19.same W20
  obtain ⟨T22, X22, e22, st22⟩ := getF X20 hx hZ hown (host := "") (Or.inl (ow hw 50 rfl)) Via.refl e20 Fw20 (g := (mkF m 92 #[(vr a1), (vl q2), .second, (vi 0), (vr e1_2), .val .null] [(.ref a1)])) rfl rfl (hb hby d7_92)
  have f23 : Fld Z h20 a1 s4n "waiters" s11n (.ref a5) := (((P5.keep K2q nin0).other W16 (Or.inr (slot_ne (Or.inr (ow hw 28 rfl)) (Or.inl (ow hw 110 rfl)) (by decide) (t := (.object s12n)) (t' := (.object s3n)) (by decide) (by decide)))).other W20 (Or.inr (slot_ne (Or.inr (ow hw 28 rfl)) (Or.inl (ow hw 51 rfl)) (by decide) (t := (.object s12n)) (t' := .boolean) (by decide) (by decide))))
  have f24 : Exa Z h20 a5 s6n := (((P9.keep K2q).wr W16).wr W20)
  have f25 : Fld Z h20 a5 s6n "elements" s7n (.ref a7) := (((P10.keep K2q nin0).other W16 (Or.inl (Ne.symm P22))).other W20 (Or.inl (Ne.symm P22)))
  have f26 : Fld Z h20 a5 s6n "head" "I" (.int 0) := (((P11.keep K2q nin0).other W16 (Or.inl (Ne.symm P22))).other W20 (Or.inl (Ne.symm P22)))
  have f27 : Arv Z h20 a7 k8 (.object s8n) (17 : Int32) ([.null, .null, .null, .null, .null, .null, .null, .null, .null, .null, .null, .null, .null, .null, .null, .null, .null]) .null := (((P13.keep K2q nin0).other W16 (Ne.symm P23)).other W20 (Ne.symm P23))
  have f29 : Exa Z h20 a1 s4n := (f18.wr W20)
  obtain ⟨cq28, q28, q28'⟩ := f29.cell
  obtain ⟨_, _, ⟨T28, L28, k28, n28⟩, -, X28, ⟨Lc28, hQ28, l28, y28, z28⟩, st28⟩ := X22.privateBack hx (y := M21) hown (mvT hZ (ow hw 224 rfl)) (mvT hZ (ow hw 225 rfl)) (own_selp (mvT hZ (ow hw 2 rfl)) (mvP hZ (ow hw 226 rfl)) (mvT hZ (ow hw 225 rfl)) (by decide)) (Cond.privateMethod_at (mvP hZ (ow hw 226 rfl) (args := #[]))) (mvT hZ (ow hw 227 rfl)) (by decide) (backOf (W := 0) (au30_0 l Z a0 hw [] wMAX_LOCK_DELAY wGRANTED wQUEUED wZERO hS a1 a5 a7 k8 h20 n0 O21 f23 f24 f25 f26 f27) hZ (ow hw 227 rfl) (ow hw 3 rfl) (by decide) (by decide)) (g := (mkF m 103 #[(vr a1), (vl q2), .second, (vi 0), (vr e1_2), .val .null] [(.ref a1)])) rfl (by rw [hml]; rfl) (Steps.refl _) (a := a1) (by rw [e22]; exact q28) q28' (argsL := []) (rest := []) (lenOf pd_15 rfl) rfl (by show 2 * 0 + _ ≤ _; exact Nat.le_of_eq rfl) (hb hby d7_103) (fun _ _ => ⟨rfl, e22, (by decide : 1 + 0 ≤ _), (by decide : 4 + 0 ≤ _)⟩)
  dsimp only [Pt.U, Pt.locs, Pt.cells, Pt.slots] at X28 l28 y28 z28 st28 hQ28
  subst l28 y28 z28
  obtain ⟨rfl, Nq28, K28q⟩ := hQ28
  have N28 := Fr.app N20 Nq28
  have f30 : Fld Z h20 a1 s4n "generation" "J" (.long qg3) := (((P1.keep K2q nin0).other W16 (Or.inr (slot_ne (Or.inl (ow hw 129 rfl)) (Or.inl (ow hw 110 rfl)) (by decide) (t := .long) (t' := (.object s3n)) (by decide) (by decide)))).other W20 (Or.inr (slot_ne (Or.inl (ow hw 129 rfl)) (Or.inl (ow hw 51 rfl)) (by decide) (t := .long) (t' := .boolean) (by decide) (by decide))))
  have f31 : Fld Z h20 a1 s4n "holder" s9n .null := (Fw16.other W20 (Or.inr (slot_ne (Or.inl (ow hw 110 rfl)) (Or.inl (ow hw 51 rfl)) (by decide) (t := (.object s3n)) (t' := .boolean) (by decide) (by decide))))
  have f32 : Fld Z h20 a1 s4n s10n s0n (.ref wMAX_LOCK_DELAY) := (((P4.keep K2q nin0).other W16 (Or.inr (slot_ne (Or.inl (ow hw 32 rfl)) (Or.inl (ow hw 110 rfl)) (by decide) (t := (.object s1n)) (t' := (.object s3n)) (by decide) (by decide)))).other W20 (Or.inr (slot_ne (Or.inl (ow hw 32 rfl)) (Or.inl (ow hw 51 rfl)) (by decide) (t := (.object s1n)) (t' := .boolean) (by decide) (by decide))))
  obtain ⟨fs, hr, hrun, hended, hW, hsame⟩ := X28.leave (v := some .null) (fun h => by rw [hret0] at h; cases h)
  refine ⟨_, _, pre0 _ ?_, hrun, hended, _, _, rfl, ?_, ⟨_, rfl⟩, hW, hsame.mono (by decide) (by decide)⟩
  · skip
    show Steps p.tables e below (s₁.setTop (mkF m 0 #[(vr a1), (vl q2), .second, (vi 0), .unset, .unset] [])) _
    refine XS.aloadN X0.here hx rfl (hb hby d7_0) rfl rfl ?_
    refine st1 _ ?_
    refine st2.trans ?_
    refine XS.astore X2.here hx rfl (hb hby d7_9) rfl rfl (l' := #[(vr a1), (vl q2), .second, (vi 0), (vr e1_2), .unset]) rfl ?_
    refine XS.aload X2.here hx rfl (hb hby d7_11) rfl rfl ?_
    refine st10.trans ?_
    refine XS.ifYes X10.here hx rfl (pc0 := 18) (pc' := 52) rfl (hb hby d7_18) rfl ((if0 _ _).trans (teq (by decide : (0 : Int32) = (0 : Int32))).1) (by decide) (by decide) ?_
    refine XS.aconstNull X10.here hx rfl (hb hby d7_52) ?_
    show Steps p.tables e below (T10.setTop (mkF m 53 #[(vr a1), (vl q2), .second, (vi 0), (vr e1_2), .unset] [.null])) _
    refine XS.astore X10.here hx rfl (hb hby d7_53) rfl rfl (l' := #[(vr a1), (vl q2), .second, (vi 0), (vr e1_2), .val .null]) rfl ?_
    refine XS.aloadN X10.here hx rfl (hb hby d7_55) rfl rfl ?_
    refine XS.lloadN X10.here hx rfl (hb hby d7_56) rfl ?_
    refine st14.trans ?_
    refine XS.ifNo X14.here hx rfl (hb hby d7_60) rfl ((if0 _ _).trans (feq (by decide : ¬ ((1 : Int32) = (0 : Int32)))).1) ?_
    refine XS.aloadN X14.here hx rfl (hb hby d7_63) rfl rfl ?_
    refine XS.aconstNull X14.here hx rfl (hb hby d7_64) ?_
    refine st16 _ ?_
    show Steps p.tables e below (T16.setTop (mkF m 68 #[(vr a1), (vl q2), .second, (vi 0), (vr e1_2), .val .null] [])) _
    refine XS.aloadN X16.here hx rfl (hb hby d7_68) rfl rfl ?_
    refine XS.iloadN X16.here hx rfl (hb hby d7_69) rfl ?_
    refine XS.ifYes X16.here hx rfl (pc0 := 70) (pc' := 87) rfl (hb hby d7_70) rfl ((if0 _ _).trans (teq (by decide : (0 : Int32) = (0 : Int32))).1) (by decide) (by decide) ?_
    refine XS.iconst X16.here hx rfl (hb hby d7_87) ?_
    refine st20 _ ?_
    refine XS.aloadN X20.here hx rfl (hb hby d7_91) rfl rfl ?_
    refine st22 _ ?_
    refine XS.ifYes X22.here hx rfl (pc0 := 95) (pc' := 102) rfl (hb hby d7_95) rfl ((if0 _ _).trans (teq (by decide : (0 : Int32) = (0 : Int32))).1) (by decide) (by decide) ?_
    show Steps p.tables e below (T22.setTop (mkF m 102 #[(vr a1), (vl q2), .second, (vi 0), (vr e1_2), .val .null] [])) _
    refine XS.aloadN X22.here hx rfl (hb hby d7_102) rfl rfl ?_
    refine st28.trans ?_
    refine XS.astore X28.here hx rfl (hb hby d7_106) rfl rfl (l' := #[(vr a1), (vl q2), .second, (vi 0), (vr e1_2), .val .null]) rfl ?_
    refine XS.aload X28.here hx rfl (hb hby d7_108) rfl rfl ?_
    jvm_step X28.here [X28.here.top, hx, (hb hby d7_110), X28.method', hret0, Value.isRef, FieldType.isReference]
    first | (intro acts; rw [hr _ acts rfl rfl rfl]) | rw [hr _ _ rfl rfl rfl]
    exact Steps.refl _
  · show Q_au7_2 Z wMAX_LOCK_DELAY wGRANTED wQUEUED wZERO a1 q2 qg3 a4 a5 q6 a7 k8 h0 n0 _ T28.heap _
    rw [K28q]
    exact ⟨rfl, N28, K21, f29, f30, Fw20, f31, f32, f23⟩
theorem ef_au7_3 (m : MethodId) (x0 : Addr) (x1 : Int64) (x2 : Int32)  : entryFrame m #[(.ref x0), (.long x1), (.int x2)] 6 = mkF m 0 #[(vr x0), (vl x1), .second, (vi x2), .unset, .unset] [] := by first | (simp [entryFrame, mkF, argsToLocals, Value.category]; done) | rfl
theorem ef_au13_2 (m : MethodId) (x0 : Addr) (x1 : Int64)  : entryFrame m #[(.ref x0), (.long x1)] 3 = mkF m 0 #[(vr x0), (vl x1), .second] [] := by first | (simp [entryFrame, mkF, argsToLocals, Value.category]; done) | rfl
def Q_au13_2 (Z : State) (wMAX_LOCK_DELAY : Addr) (wGRANTED : Addr) (wQUEUED : Addr) (wZERO : Addr) (a1 : Addr) (q2 : Int64) (a4 : Addr) (q6 : Int64) (h0 : Heap) (n0 : Nat) (v : Option Value) (h : Heap) (L : List Loc) : Prop := v = some (.int 0) ∧ Fr n0 L ∧ h = h0
theorem au13_2 (l : Launch) (Z : State) (a0 : Array Value) (hw : ∀ d ∈ tables_1, d.before a0 Z = true) (ws : List Jvm.Cond) (wMAX_LOCK_DELAY : Addr) (wGRANTED : Addr) (wQUEUED : Addr) (wZERO : Addr) (hS : SS Z wMAX_LOCK_DELAY wGRANTED wQUEUED wZERO) (a1 : Addr) (q2 : Int64) (a4 : Addr) (q6 : Int64) (h0 : Heap) (n0 : Nat) (O0 : Old Z n0 h0) (P3 : Fld Z h0 a1 s4n "holder" s9n (.ref a4)) (P6 : Exa Z h0 a4 s3n) (P8 : Fld Z h0 a4 s3n "session" "J" (.long q6)) (P16 : q6 ≠ q2) :
    MetB l M11 prog_84_method_7_code 3 (some .boolean) ws (rmk 1 0 0 12) Z h0 #[(.ref a1), (.long q2)] (Q_au13_2 Z wMAX_LOCK_DELAY wGRANTED wQUEUED wZERO a1 q2 a4 q6 h0 n0) := by
  refine own_body (plainFor_of_name pn_com_example_umpired_umpired_server_NodeLock) ?_
  intro p e s m below meth c s₁ hx hby hml hown hnm hret0 hlk0 hZ X0 e0
  have N0 := Fr.nil n0
  have pre0 : ∀ t, Steps p.tables e below (s₁.setTop (mkF m 0 #[(vr a1), (vl q2), .second] [])) t → Steps p.tables e below (s₁.setTop (entryFrame m #[(.ref a1), (.long q2)] 3)) t := fun t k => castTop (ef_au13_2 m a1 q2) k
  have hS0 := hS
  obtain ⟨S_wMAX_LOCK_DELAY, E_wMAX_LOCK_DELAY, S_wGRANTED, E_wGRANTED, S_wQUEUED, E_wQUEUED, F_seconds_wMAX_LOCK_DELAY, F_nanos_wMAX_LOCK_DELAY, S_wZERO, E_wZERO, F_seconds_wZERO, F_nanos_wZERO⟩ := hS0
  obtain ⟨T1, X1, e1, st1⟩ := getF X0 hx hZ hown (host := "") (Or.inl (ow hw 109 rfl)) Via.refl e0 P3 (g := (mkF m 1 #[(vr a1), (vl q2), .second] [(.ref a1)])) rfl rfl (hb hby d13_1)
  obtain ⟨T2, X2, e2, st2⟩ := getF X1 hx hZ hown (host := "") (Or.inl (ow hw 109 rfl)) Via.refl e1 P3 (g := (mkF m 8 #[(vr a1), (vl q2), .second] [(.ref a1)])) rfl rfl (hb hby d13_8)
  obtain ⟨cq3, kq3, q3a, q3b, q3c⟩ := isOf hZ e2 P6
  obtain ⟨_, _, ⟨T3, L3, k3, n3⟩, -, X3, ⟨Lc3, hQ3, l3, y3, z3⟩, st3⟩ := X2.virtualBack hx (y := M17) (z := M17) hown (mvT hZ (ow hw 184 rfl)) (mvT hZ (ow hw 185 rfl)) (notFace_of_selects (args := #[]) (mvT hZ (ow hw 187 rfl))) (mvT hZ (ow hw 187 rfl)) (mvT hZ (ow hw 186 rfl)) (by decide) (backOf (W := 0) (au24_0 l Z a0 hw [] wMAX_LOCK_DELAY wGRANTED wQUEUED wZERO hS a4 q6 h0 n0 O0 P8) hZ (ow hw 188 rfl) (ow hw 35 rfl) (by decide) (by decide)) q3a q3c (g := (mkF m 11 #[(vr a1), (vl q2), .second] [(.ref a4)])) rfl (by rw [hml]; rfl) (Steps.refl _) (argsL := []) (rest := []) (lenOf pd_12 rfl) rfl (by show 2 * 0 + _ ≤ _; exact Nat.le_of_eq rfl) (hb hby d13_11) (fun _ _ => ⟨rfl, e2, (by decide : 0 + 0 ≤ _), (by decide : 0 + 0 ≤ _)⟩)
  dsimp only [Pt.U, Pt.locs, Pt.cells, Pt.slots] at X3 l3 y3 z3 st3 hQ3
  subst l3 y3 z3
  obtain ⟨rfl, Nq3, K3q⟩ := hQ3
  have N3 := Fr.app N0 Nq3
  obtain ⟨fs, hr, hrun, hended, hW, hsame⟩ := X3.leave (v := some (.int 0)) (fun h => by rw [hret0] at h; cases h)
  refine ⟨_, _, pre0 _ ?_, hrun, hended, _, _, rfl, ?_, ⟨_, rfl⟩, hW, hsame.mono (by decide) (by decide)⟩
  · skip
    show Steps p.tables e below (s₁.setTop (mkF m 0 #[(vr a1), (vl q2), .second] [])) _
    refine XS.aloadN X0.here hx rfl (hb hby d13_0) rfl rfl ?_
    refine st1 _ ?_
    refine XS.ifnullNo X1.here hx rfl (hb hby d13_4) rfl ?_
    refine XS.aloadN X1.here hx rfl (hb hby d13_7) rfl rfl ?_
    refine st2 _ ?_
    refine st3.trans ?_
    refine XS.lloadN X3.here hx rfl (hb hby d13_14) rfl ?_
    refine XS.lcmp X3.here hx rfl (hb hby d13_15) rfl ?_
    show Steps p.tables e below (T3.setTop (mkF m 16 #[(vr a1), (vl q2), .second] [(.int (lcmpW q6 q2))])) _
    refine XS.ifYes X3.here hx rfl (pc0 := 16) (pc' := 23) rfl (hb hby d13_16) rfl ((if0 _ _).trans (feq (fun z => P16 ((lw_eq _ _).mp z) : ¬ ((lcmpW q6 q2) = (0 : Int32)))).2) (by decide) (by decide) ?_
    refine XS.iconst X3.here hx rfl (hb hby d13_23) ?_
    exact retN X3 hx (t := .boolean) hret0 (by simp) (hb hby d13_24) hr
  · show Q_au13_2 Z wMAX_LOCK_DELAY wGRANTED wQUEUED wZERO a1 q2 a4 q6 h0 n0 _ T3.heap _
    rw [K3q]
    exact ⟨rfl, N3, rfl⟩
def Q_au7_3 (Z : State) (wMAX_LOCK_DELAY : Addr) (wGRANTED : Addr) (wQUEUED : Addr) (wZERO : Addr) (a1 : Addr) (q2 : Int64) (a4 : Addr) (a5 : Addr) (q6 : Int64) (a7 : Addr) (k8 : ClassId) (h0 : Heap) (n0 : Nat) (v : Option Value) (h : Heap) (L : List Loc) : Prop := v = some .null ∧ Fr n0 L ∧ Keep h0 h []
theorem au7_3 (l : Launch) (Z : State) (a0 : Array Value) (hw : ∀ d ∈ tables_1, d.before a0 Z = true) (ws : List Jvm.Cond) (wMAX_LOCK_DELAY : Addr) (wGRANTED : Addr) (wQUEUED : Addr) (wZERO : Addr) (hS : SS Z wMAX_LOCK_DELAY wGRANTED wQUEUED wZERO) (a1 : Addr) (q2 : Int64) (a4 : Addr) (a5 : Addr) (q6 : Int64) (a7 : Addr) (k8 : ClassId) (h0 : Heap) (n0 : Nat) (O0 : Old Z n0 h0) (P0 : Exa Z h0 a1 s4n) (P3 : Fld Z h0 a1 s4n "holder" s9n (.ref a4)) (P5 : Fld Z h0 a1 s4n "waiters" s11n (.ref a5)) (P6 : Exa Z h0 a4 s3n) (P8 : Fld Z h0 a4 s3n "session" "J" (.long q6)) (P9 : Exa Z h0 a5 s6n) (P10 : Fld Z h0 a5 s6n "elements" s7n (.ref a7)) (P11 : Fld Z h0 a5 s6n "head" "I" (.int 0)) (P12 : Fld Z h0 a5 s6n "tail" "I" (.int 0)) (P13 : Arv Z h0 a7 k8 (.object s8n) (17 : Int32) ([.null, .null, .null, .null, .null, .null, .null, .null, .null, .null, .null, .null, .null, .null, .null, .null, .null]) .null) (P16 : q6 ≠ q2) :
    MetB l M12 prog_84_method_14_code 6 (some (.object s3n)) ws (rmk 4 1 4 53) Z h0 #[(.ref a1), (.long q2), (.int 0)] (Q_au7_3 Z wMAX_LOCK_DELAY wGRANTED wQUEUED wZERO a1 q2 a4 a5 q6 a7 k8 h0 n0) := by
  refine own_body (plainFor_of_name pn_com_example_umpired_umpired_server_NodeLock) ?_
  intro p e s m below meth c s₁ hx hby hml hown hnm hret0 hlk0 hZ X0 e0
  have N0 := Fr.nil n0
  have pre0 : ∀ t, Steps p.tables e below (s₁.setTop (mkF m 0 #[(vr a1), (vl q2), .second, (vi 0), .unset, .unset] [])) t → Steps p.tables e below (s₁.setTop (entryFrame m #[(.ref a1), (.long q2), (.int 0)] 6)) t := fun t k => castTop (ef_au7_3 m a1 q2 (0 : Int32)) k
  have K0 := Keep.refl h0 []
  have hS0 := hS
  obtain ⟨S_wMAX_LOCK_DELAY, E_wMAX_LOCK_DELAY, S_wGRANTED, E_wGRANTED, S_wQUEUED, E_wQUEUED, F_seconds_wMAX_LOCK_DELAY, F_nanos_wMAX_LOCK_DELAY, S_wZERO, E_wZERO, F_seconds_wZERO, F_nanos_wZERO⟩ := hS0
  obtain ⟨T1, X1, e1, st1⟩ := getF X0 hx hZ hown (host := "") (Or.inl (ow hw 27 rfl)) Via.refl e0 P5 (g := (mkF m 1 #[(vr a1), (vl q2), .second, (vi 0), .unset, .unset] [(.ref a1)])) rfl rfl (hb hby d7_1)
  obtain ⟨cq2, kq2, q2a, q2b, q2c⟩ := isOf hZ e1 P9
  obtain ⟨_, _, ⟨T2, L2, k2, n2⟩, -, X2, ⟨Lc2, hQ2, l2, y2, z2⟩, st2⟩ := X1.interfaceBack hx (xi := M13) (y := M9) hown (mvT hZ (ow hw 57 rfl)) (mvT hZ (ow hw 58 rfl)) (mvT hZ (ow hw 59 rfl)) (mvT hZ (ow hw 60 rfl)) (mvT hZ (ow hw 61 rfl)) (mvT hZ (ow hw 62 rfl)) (mvT hZ (ow hw 63 rfl)) (mvT hZ (ow hw 64 rfl)) (by decide) (backOf (W := 0) (au8_0 l Z a0 hw [] wMAX_LOCK_DELAY wGRANTED wQUEUED wZERO hS a5 a7 k8 h0 n0 O0 P9 P10 P11 P12 P13) hZ (ow hw 65 rfl) (ow hw 12 rfl) (by decide) (by decide)) q2a q2b q2c (g := (mkF m 4 #[(vr a1), (vl q2), .second, (vi 0), .unset, .unset] [(.ref a5)])) rfl (by rw [hml]; rfl) (Steps.refl _) (argsL := []) (rest := []) (lenOf pd_6 rfl) rfl (by show 2 * 0 + _ ≤ _; exact Nat.le_of_eq rfl) (hb hby d7_4) (fun _ _ => ⟨rfl, e1, (by decide : 0 + 1 ≤ _), (by decide : 0 + 4 ≤ _)⟩)
  dsimp only [Pt.U, Pt.locs, Pt.cells, Pt.slots] at X2 l2 y2 z2 st2 hQ2
  subst l2 y2 z2
  obtain ⟨e1_2, rfl, Nq2, K2q, p2_0, p2_1, p2_2, p2_3, p2_4, p2_5⟩ := hQ2
  have N2 := Fr.app N0 Nq2
  have ne3 : a1 ≠ e1_2 := Nat.ne_of_lt (Nat.lt_of_lt_of_le P0.lt p2_0)
  have ne4 : a4 ≠ e1_2 := Nat.ne_of_lt (Nat.lt_of_lt_of_le P6.lt p2_0)
  have ne5 : a5 ≠ e1_2 := Nat.ne_of_lt (Nat.lt_of_lt_of_le P9.lt p2_0)
  have ne6 : a7 ≠ e1_2 := Nat.ne_of_lt (Nat.lt_of_lt_of_le P13.lt p2_0)
  have g7 : n0 ≤ e1_2 := Nat.le_trans (own_sz O0) p2_0
  have sz8 : h0.size ≤ e1_2 := Nat.le_trans K0.1 p2_0
  have O9 : Old Z n0 T2.heap := O0.keep K2q all0
  have K9 : Keep h0 T2.heap [] := K0.trans K2q all0
  obtain ⟨cq10, kq10, q10a, q10b, q10c⟩ := isOf hZ rfl p2_1
  obtain ⟨_, _, ⟨T10, L10, k10, n10⟩, -, X10, ⟨Lc10, hQ10, l10, y10, z10⟩, st10⟩ := X2.interfaceBack hx (xi := M14) (y := M10) hown (mvT hZ (ow hw 95 rfl)) (mvT hZ (ow hw 96 rfl)) (mvT hZ (ow hw 97 rfl)) (mvT hZ (ow hw 98 rfl)) (mvT hZ (ow hw 99 rfl)) (mvT hZ (ow hw 100 rfl)) (mvT hZ (ow hw 101 rfl)) (mvT hZ (ow hw 102 rfl)) (by decide) (backOf (W := 0) (au12_0 l Z a0 hw [] wMAX_LOCK_DELAY wGRANTED wQUEUED wZERO hS e1_2 T2.heap n0 O9 p2_4) hZ (ow hw 103 rfl) (ow hw 68 rfl) (by decide) (by decide)) q10a q10b q10c (g := (mkF m 13 #[(vr a1), (vl q2), .second, (vi 0), (vr e1_2), .unset] [(.ref e1_2)])) rfl (by rw [hml]; rfl) (Steps.refl _) (argsL := []) (rest := []) (lenOf pd_7 rfl) rfl (by show 2 * 0 + _ ≤ _; exact Nat.le_of_eq rfl) (hb hby d7_13) (fun _ _ => ⟨rfl, rfl, (by decide : 1 + 0 ≤ _), (by decide : 4 + 0 ≤ _)⟩)
  dsimp only [Pt.U, Pt.locs, Pt.cells, Pt.slots] at X10 l10 y10 z10 st10 hQ10
  subst l10 y10 z10
  obtain ⟨rfl, Nq10, K10q⟩ := hQ10
  have N10 := Fr.app N2 Nq10
  have f11 : Fld Z T2.heap a1 s4n "holder" s9n (.ref a4) := (P3.keep K2q nin0)
  have f12 : Exa Z T2.heap a4 s3n := (P6.keep K2q)
  have f13 : Fld Z T2.heap a4 s3n "session" "J" (.long q6) := (P8.keep K2q nin0)
  have f15 : Exa Z T2.heap a1 s4n := (P0.keep K2q)
  obtain ⟨cq14, kq14, q14a, q14b, q14c⟩ := isOf hZ K10q f15
  obtain ⟨_, _, ⟨T14, L14, k14, n14⟩, -, X14, ⟨Lc14, hQ14, l14, y14, z14⟩, st14⟩ := X10.virtualBack hx (y := M11) (z := M11) hown (mvT hZ (ow hw 104 rfl)) (mvT hZ (ow hw 105 rfl)) (notFace_of_selects (args := #[]) (mvT hZ (ow hw 107 rfl))) (mvT hZ (ow hw 107 rfl)) (mvT hZ (ow hw 106 rfl)) (by decide) (backOf (W := 0) (au13_2 l Z a0 hw [] wMAX_LOCK_DELAY wGRANTED wQUEUED wZERO hS a1 q2 a4 q6 T2.heap n0 O9 f11 f12 f13 P16) hZ (ow hw 108 rfl) (ow hw 3 rfl) (by decide) (by decide)) q14a q14c (g := (mkF m 57 #[(vr a1), (vl q2), .second, (vi 0), (vr e1_2), .val .null] [(.long q2), (.ref a1)])) rfl (by rw [hml]; rfl) (Steps.refl _) (argsL := [(.long q2)]) (rest := []) (lenOf pd_2 rfl) rfl (by show 2 * 0 + _ ≤ _; exact Nat.le_of_eq rfl) (hb hby d7_57) (fun _ _ => ⟨rfl, K10q, (by decide : 1 + 0 ≤ _), (by decide : 4 + 0 ≤ _)⟩)
  dsimp only [Pt.U, Pt.locs, Pt.cells, Pt.slots] at X14 l14 y14 z14 st14 hQ14
  subst l14 y14 z14
  obtain ⟨rfl, Nq14, K14q⟩ := hQ14
  have N14 := Fr.app N10 Nq14
  obtain ⟨fs, hr, hrun, hended, hW, hsame⟩ := X14.leave (v := some .null) (fun h => by rw [hret0] at h; cases h)
  refine ⟨_, _, pre0 _ ?_, hrun, hended, _, _, rfl, ?_, ⟨_, rfl⟩, hW, hsame.mono (by decide) (by decide)⟩
  · skip
    show Steps p.tables e below (s₁.setTop (mkF m 0 #[(vr a1), (vl q2), .second, (vi 0), .unset, .unset] [])) _
    refine XS.aloadN X0.here hx rfl (hb hby d7_0) rfl rfl ?_
    refine st1 _ ?_
    refine st2.trans ?_
    refine XS.astore X2.here hx rfl (hb hby d7_9) rfl rfl (l' := #[(vr a1), (vl q2), .second, (vi 0), (vr e1_2), .unset]) rfl ?_
    refine XS.aload X2.here hx rfl (hb hby d7_11) rfl rfl ?_
    refine st10.trans ?_
    refine XS.ifYes X10.here hx rfl (pc0 := 18) (pc' := 52) rfl (hb hby d7_18) rfl ((if0 _ _).trans (teq (by decide : (0 : Int32) = (0 : Int32))).1) (by decide) (by decide) ?_
    refine XS.aconstNull X10.here hx rfl (hb hby d7_52) ?_
    show Steps p.tables e below (T10.setTop (mkF m 53 #[(vr a1), (vl q2), .second, (vi 0), (vr e1_2), .unset] [.null])) _
    refine XS.astore X10.here hx rfl (hb hby d7_53) rfl rfl (l' := #[(vr a1), (vl q2), .second, (vi 0), (vr e1_2), .val .null]) rfl ?_
    refine XS.aloadN X10.here hx rfl (hb hby d7_55) rfl rfl ?_
    refine XS.lloadN X10.here hx rfl (hb hby d7_56) rfl ?_
    refine st14.trans ?_
    refine XS.ifYes X14.here hx rfl (pc0 := 60) (pc' := 108) rfl (hb hby d7_60) rfl ((if0 _ _).trans (teq (by decide : (0 : Int32) = (0 : Int32))).1) (by decide) (by decide) ?_
    refine XS.aload X14.here hx rfl (hb hby d7_108) rfl rfl ?_
    jvm_step X14.here [X14.here.top, hx, (hb hby d7_110), X14.method', hret0, Value.isRef, FieldType.isReference]
    first | (intro acts; rw [hr _ acts rfl rfl rfl]) | rw [hr _ _ rfl rfl rfl]
    exact Steps.refl _
  · show Q_au7_3 Z wMAX_LOCK_DELAY wGRANTED wQUEUED wZERO a1 q2 a4 a5 q6 a7 k8 h0 n0 _ T14.heap _
    rw [K14q]
    exact ⟨rfl, N14, K9⟩
theorem ef_au7_4 (m : MethodId) (x0 : Addr) (x1 : Int64) (x2 : Int32)  : entryFrame m #[(.ref x0), (.long x1), (.int x2)] 6 = mkF m 0 #[(vr x0), (vl x1), .second, (vi x2), .unset, .unset] [] := by first | (simp [entryFrame, mkF, argsToLocals, Value.category]; done) | rfl
theorem d7_73 : decode prog_84_method_14_code 73 = .ok (.aload_n 0, 1) := by decide +kernel
theorem d7_74 : decode prog_84_method_14_code 74 = .ok (.getfield 22, 3) := by decide +kernel
theorem d7_77 : decode prog_84_method_14_code 77 = .ok (.invokevirtual 119, 3) := by decide +kernel
theorem ef_au25_0 (m : MethodId) (x0 : Addr)  : entryFrame m #[(.ref x0)] 1 = mkF m 0 #[(vr x0)] [] := by first | (simp [entryFrame, mkF, argsToLocals, Value.category]; done) | rfl
theorem pn_java_time_Duration : plainName "java/time/Duration" = true := by first | (simp [plainName, overriddenIn]; done) | decide +kernel
theorem d25_0 : decode jdk_2316_method_21_code 0 = .ok (.aload_n 0, 1) := by decide +kernel
theorem d25_1 : decode jdk_2316_method_21_code 1 = .ok (.getfield 221, 3) := by decide +kernel
theorem d25_4 : decode jdk_2316_method_21_code 4 = .ok (.aload_n 0, 1) := by decide +kernel
theorem d25_5 : decode jdk_2316_method_21_code 5 = .ok (.getfield 224, 3) := by decide +kernel
theorem d25_8 : decode jdk_2316_method_21_code 8 = .ok (.i2l, 1) := by decide +kernel
theorem d25_9 : decode jdk_2316_method_21_code 9 = .ok (.lor, 1) := by decide +kernel
theorem d25_10 : decode jdk_2316_method_21_code 10 = .ok (.lconst 0, 1) := by decide +kernel
theorem d25_11 : decode jdk_2316_method_21_code 11 = .ok (.lcmp, 1) := by decide +kernel
theorem d25_12 : decode jdk_2316_method_21_code 12 = .ok (.ifCond .ne 7, 3) := by decide +kernel
theorem d25_19 : decode jdk_2316_method_21_code 19 = .ok (.iconst 0, 1) := by decide +kernel
theorem d25_20 : decode jdk_2316_method_21_code 20 = .ok (.ireturn, 1) := by decide +kernel
def Q_au25_0 (Z : State) (wMAX_LOCK_DELAY : Addr) (wGRANTED : Addr) (wQUEUED : Addr) (wZERO : Addr)  (h0 : Heap) (n0 : Nat) (v : Option Value) (h : Heap) (L : List Loc) : Prop := v = some (.int 0) ∧ Fr n0 L ∧ h = h0
theorem au25_0 (l : Launch) (Z : State) (a0 : Array Value) (hw : ∀ d ∈ tables_1, d.before a0 Z = true) (ws : List Jvm.Cond) (wMAX_LOCK_DELAY : Addr) (wGRANTED : Addr) (wQUEUED : Addr) (wZERO : Addr) (hS : SS Z wMAX_LOCK_DELAY wGRANTED wQUEUED wZERO)  (h0 : Heap) (n0 : Nat) (O0 : Old Z n0 h0)  :
    MetB l M23 jdk_2316_method_21_code 1 (some .boolean) ws (rmk 0 0 0 0) Z h0 #[(.ref wMAX_LOCK_DELAY)] (Q_au25_0 Z wMAX_LOCK_DELAY wGRANTED wQUEUED wZERO  h0 n0) := by
  refine own_body (plainFor_of_name pn_java_time_Duration) ?_
  intro p e s m below meth c s₁ hx hby hml hown hnm hret0 hlk0 hZ X0 e0
  have N0 := Fr.nil n0
  have pre0 : ∀ t, Steps p.tables e below (s₁.setTop (mkF m 0 #[(vr wMAX_LOCK_DELAY)] [])) t → Steps p.tables e below (s₁.setTop (entryFrame m #[(.ref wMAX_LOCK_DELAY)] 1)) t := fun t k => castTop (ef_au25_0 m wMAX_LOCK_DELAY) k
  have hS0 := hS
  obtain ⟨S_wMAX_LOCK_DELAY, E_wMAX_LOCK_DELAY, S_wGRANTED, E_wGRANTED, S_wQUEUED, E_wQUEUED, F_seconds_wMAX_LOCK_DELAY, F_nanos_wMAX_LOCK_DELAY, S_wZERO, E_wZERO, F_seconds_wZERO, F_nanos_wZERO⟩ := hS0
  obtain ⟨T1, X1, e1, st1⟩ := getF X0 hx hZ hown (host := "") (Or.inl (ow hw 194 rfl)) Via.refl e0 (F_seconds_wMAX_LOCK_DELAY.ext O0.2) (g := (mkF m 1 #[(vr wMAX_LOCK_DELAY)] [(.ref wMAX_LOCK_DELAY)])) rfl rfl (hb hby d25_1)
  obtain ⟨T2, X2, e2, st2⟩ := getF X1 hx hZ hown (host := "") (Or.inl (ow hw 196 rfl)) Via.refl e1 (F_nanos_wMAX_LOCK_DELAY.ext O0.2) (g := (mkF m 5 #[(vr wMAX_LOCK_DELAY)] [(.ref wMAX_LOCK_DELAY), (.long 60)])) rfl rfl (hb hby d25_5)
  obtain ⟨fs, hr, hrun, hended, hW, hsame⟩ := X2.leave (v := some (.int 0)) (fun h => by rw [hret0] at h; cases h)
  refine ⟨_, _, pre0 _ ?_, hrun, hended, _, _, rfl, ?_, ⟨_, rfl⟩, hW, hsame.mono (by decide) (by decide)⟩
  · skip
    show Steps p.tables e below (s₁.setTop (mkF m 0 #[(vr wMAX_LOCK_DELAY)] [])) _
    refine XS.aloadN X0.here hx rfl (hb hby d25_0) rfl rfl ?_
    refine st1 _ ?_
    refine XS.aloadN X1.here hx rfl (hb hby d25_4) rfl rfl ?_
    refine st2 _ ?_
    refine XS.i2l X2.here hx rfl (hb hby d25_8) rfl ?_
    refine XS.lor X2.here hx rfl (hb hby d25_9) rfl ?_
    refine XS.lconst X2.here hx rfl (hb hby d25_10) ?_
    refine XS.lcmp X2.here hx rfl (hb hby d25_11) rfl ?_
    show Steps p.tables e below (T2.setTop (mkF m 12 #[(vr wMAX_LOCK_DELAY)] [(.int (lcmpW (60 : Int64) (0 : Int64)))])) _
    refine XS.ifYes X2.here hx rfl (pc0 := 12) (pc' := 19) rfl (hb hby d25_12) rfl ((if0 _ _).trans (feq (by decide : ¬ ((lcmpW (60 : Int64) (0 : Int64)) = (0 : Int32)))).2) (by decide) (by decide) ?_
    refine XS.iconst X2.here hx rfl (hb hby d25_19) ?_
    exact retN X2 hx (t := .boolean) hret0 (by simp) (hb hby d25_20) hr
  · show Q_au25_0 Z wMAX_LOCK_DELAY wGRANTED wQUEUED wZERO  h0 n0 _ T2.heap _
    rw [e2]
    exact ⟨rfl, N0, rfl⟩
theorem d7_80 : decode prog_84_method_14_code 80 = .ok (.ifCond .ne 7, 3) := by decide +kernel
theorem d7_83 : decode prog_84_method_14_code 83 = .ok (.iconst 1, 1) := by decide +kernel
theorem d7_84 : decode prog_84_method_14_code 84 = .ok (.goto 4, 3) := by decide +kernel
theorem d7_98 : decode prog_84_method_14_code 98 = .ok (.aconst_null, 1) := by decide +kernel
theorem d7_99 : decode prog_84_method_14_code 99 = .ok (.goto 7, 3) := by decide +kernel
def Q_au7_4 (Z : State) (wMAX_LOCK_DELAY : Addr) (wGRANTED : Addr) (wQUEUED : Addr) (wZERO : Addr) (a1 : Addr) (q2 : Int64) (qg3 : Int64) (a4 : Addr) (a5 : Addr) (q6 : Int64) (a7 : Addr) (k8 : ClassId) (h0 : Heap) (n0 : Nat) (v : Option Value) (h : Heap) (L : List Loc) : Prop := v = some .null ∧ Fr n0 L ∧ Keep h0 h [a1] ∧ Exa Z h a1 s4n ∧ Fld Z h a1 s4n "generation" "J" (.long qg3) ∧ Fld Z h a1 s4n "heldBack" "Z" (.int 1) ∧ Fld Z h a1 s4n "holder" s9n .null ∧ Fld Z h a1 s4n s10n s0n (.ref wMAX_LOCK_DELAY) ∧ Fld Z h a1 s4n "waiters" s11n (.ref a5)
theorem au7_4 (l : Launch) (Z : State) (a0 : Array Value) (hw : ∀ d ∈ tables_1, d.before a0 Z = true) (ws : List Jvm.Cond) (wMAX_LOCK_DELAY : Addr) (wGRANTED : Addr) (wQUEUED : Addr) (wZERO : Addr) (hS : SS Z wMAX_LOCK_DELAY wGRANTED wQUEUED wZERO) (a1 : Addr) (q2 : Int64) (qg3 : Int64) (a4 : Addr) (a5 : Addr) (q6 : Int64) (a7 : Addr) (k8 : ClassId) (h0 : Heap) (n0 : Nat) (O0 : Old Z n0 h0) (P0 : Exa Z h0 a1 s4n) (P1 : Fld Z h0 a1 s4n "generation" "J" (.long qg3)) (P2 : Fld Z h0 a1 s4n "heldBack" "Z" (.int 0)) (P3 : Fld Z h0 a1 s4n "holder" s9n (.ref a4)) (P4 : Fld Z h0 a1 s4n s10n s0n (.ref wMAX_LOCK_DELAY)) (P5 : Fld Z h0 a1 s4n "waiters" s11n (.ref a5)) (P6 : Exa Z h0 a4 s3n) (P8 : Fld Z h0 a4 s3n "session" "J" (.long q6)) (P9 : Exa Z h0 a5 s6n) (P10 : Fld Z h0 a5 s6n "elements" s7n (.ref a7)) (P11 : Fld Z h0 a5 s6n "head" "I" (.int 0)) (P12 : Fld Z h0 a5 s6n "tail" "I" (.int 0)) (P13 : Arv Z h0 a7 k8 (.object s8n) (17 : Int32) ([.null, .null, .null, .null, .null, .null, .null, .null, .null, .null, .null, .null, .null, .null, .null, .null, .null]) .null) (P16 : q6 = q2) (P17 : n0 ≤ a1) :
    MetB l M12 prog_84_method_14_code 6 (some (.object s3n)) ws (rmk 4 1 4 53) Z h0 #[(.ref a1), (.long q2), (.int 1)] (Q_au7_4 Z wMAX_LOCK_DELAY wGRANTED wQUEUED wZERO a1 q2 qg3 a4 a5 q6 a7 k8 h0 n0) := by
  refine own_body (plainFor_of_name pn_com_example_umpired_umpired_server_NodeLock) ?_
  intro p e s m below meth c s₁ hx hby hml hown hnm hret0 hlk0 hZ X0 e0
  have N0 := Fr.nil n0
  have pre0 : ∀ t, Steps p.tables e below (s₁.setTop (mkF m 0 #[(vr a1), (vl q2), .second, (vi 1), .unset, .unset] [])) t → Steps p.tables e below (s₁.setTop (entryFrame m #[(.ref a1), (.long q2), (.int 1)] 6)) t := fun t k => castTop (ef_au7_4 m a1 q2 (1 : Int32)) k
  have K0 := Keep.refl h0 [a1]
  have hS0 := hS
  obtain ⟨S_wMAX_LOCK_DELAY, E_wMAX_LOCK_DELAY, S_wGRANTED, E_wGRANTED, S_wQUEUED, E_wQUEUED, F_seconds_wMAX_LOCK_DELAY, F_nanos_wMAX_LOCK_DELAY, S_wZERO, E_wZERO, F_seconds_wZERO, F_nanos_wZERO⟩ := hS0
  obtain ⟨T1, X1, e1, st1⟩ := getF X0 hx hZ hown (host := "") (Or.inl (ow hw 27 rfl)) Via.refl e0 P5 (g := (mkF m 1 #[(vr a1), (vl q2), .second, (vi 1), .unset, .unset] [(.ref a1)])) rfl rfl (hb hby d7_1)
  obtain ⟨cq2, kq2, q2a, q2b, q2c⟩ := isOf hZ e1 P9
  obtain ⟨_, _, ⟨T2, L2, k2, n2⟩, -, X2, ⟨Lc2, hQ2, l2, y2, z2⟩, st2⟩ := X1.interfaceBack hx (xi := M13) (y := M9) hown (mvT hZ (ow hw 57 rfl)) (mvT hZ (ow hw 58 rfl)) (mvT hZ (ow hw 59 rfl)) (mvT hZ (ow hw 60 rfl)) (mvT hZ (ow hw 61 rfl)) (mvT hZ (ow hw 62 rfl)) (mvT hZ (ow hw 63 rfl)) (mvT hZ (ow hw 64 rfl)) (by decide) (backOf (W := 0) (au8_0 l Z a0 hw [] wMAX_LOCK_DELAY wGRANTED wQUEUED wZERO hS a5 a7 k8 h0 n0 O0 P9 P10 P11 P12 P13) hZ (ow hw 65 rfl) (ow hw 12 rfl) (by decide) (by decide)) q2a q2b q2c (g := (mkF m 4 #[(vr a1), (vl q2), .second, (vi 1), .unset, .unset] [(.ref a5)])) rfl (by rw [hml]; rfl) (Steps.refl _) (argsL := []) (rest := []) (lenOf pd_6 rfl) rfl (by show 2 * 0 + _ ≤ _; exact Nat.le_of_eq rfl) (hb hby d7_4) (fun _ _ => ⟨rfl, e1, (by decide : 0 + 1 ≤ _), (by decide : 0 + 4 ≤ _)⟩)
  dsimp only [Pt.U, Pt.locs, Pt.cells, Pt.slots] at X2 l2 y2 z2 st2 hQ2
  subst l2 y2 z2
  obtain ⟨e1_2, rfl, Nq2, K2q, p2_0, p2_1, p2_2, p2_3, p2_4, p2_5⟩ := hQ2
  have N2 := Fr.app N0 Nq2
  have ne3 : a1 ≠ e1_2 := Nat.ne_of_lt (Nat.lt_of_lt_of_le P0.lt p2_0)
  have ne4 : a4 ≠ e1_2 := Nat.ne_of_lt (Nat.lt_of_lt_of_le P6.lt p2_0)
  have ne5 : a5 ≠ e1_2 := Nat.ne_of_lt (Nat.lt_of_lt_of_le P9.lt p2_0)
  have ne6 : a7 ≠ e1_2 := Nat.ne_of_lt (Nat.lt_of_lt_of_le P13.lt p2_0)
  have g7 : n0 ≤ e1_2 := Nat.le_trans (own_sz O0) p2_0
  have sz8 : h0.size ≤ e1_2 := Nat.le_trans K0.1 p2_0
  have O9 : Old Z n0 T2.heap := O0.keep K2q all0
  have K9 : Keep h0 T2.heap [a1] := K0.trans K2q all0
  obtain ⟨cq10, kq10, q10a, q10b, q10c⟩ := isOf hZ rfl p2_1
  obtain ⟨_, _, ⟨T10, L10, k10, n10⟩, -, X10, ⟨Lc10, hQ10, l10, y10, z10⟩, st10⟩ := X2.interfaceBack hx (xi := M14) (y := M10) hown (mvT hZ (ow hw 95 rfl)) (mvT hZ (ow hw 96 rfl)) (mvT hZ (ow hw 97 rfl)) (mvT hZ (ow hw 98 rfl)) (mvT hZ (ow hw 99 rfl)) (mvT hZ (ow hw 100 rfl)) (mvT hZ (ow hw 101 rfl)) (mvT hZ (ow hw 102 rfl)) (by decide) (backOf (W := 0) (au12_0 l Z a0 hw [] wMAX_LOCK_DELAY wGRANTED wQUEUED wZERO hS e1_2 T2.heap n0 O9 p2_4) hZ (ow hw 103 rfl) (ow hw 68 rfl) (by decide) (by decide)) q10a q10b q10c (g := (mkF m 13 #[(vr a1), (vl q2), .second, (vi 1), (vr e1_2), .unset] [(.ref e1_2)])) rfl (by rw [hml]; rfl) (Steps.refl _) (argsL := []) (rest := []) (lenOf pd_7 rfl) rfl (by show 2 * 0 + _ ≤ _; exact Nat.le_of_eq rfl) (hb hby d7_13) (fun _ _ => ⟨rfl, rfl, (by decide : 1 + 0 ≤ _), (by decide : 4 + 0 ≤ _)⟩)
  dsimp only [Pt.U, Pt.locs, Pt.cells, Pt.slots] at X10 l10 y10 z10 st10 hQ10
  subst l10 y10 z10
  obtain ⟨rfl, Nq10, K10q⟩ := hQ10
  have N10 := Fr.app N2 Nq10
  have f11 : Fld Z T2.heap a1 s4n "holder" s9n (.ref a4) := (P3.keep K2q nin0)
  have f12 : Exa Z T2.heap a4 s3n := (P6.keep K2q)
  have f13 : Fld Z T2.heap a4 s3n "session" "J" (.long q6) := (P8.keep K2q nin0)
  have f15 : Exa Z T2.heap a1 s4n := (P0.keep K2q)
  obtain ⟨cq14, kq14, q14a, q14b, q14c⟩ := isOf hZ K10q f15
  obtain ⟨_, _, ⟨T14, L14, k14, n14⟩, -, X14, ⟨Lc14, hQ14, l14, y14, z14⟩, st14⟩ := X10.virtualBack hx (y := M11) (z := M11) hown (mvT hZ (ow hw 104 rfl)) (mvT hZ (ow hw 105 rfl)) (notFace_of_selects (args := #[]) (mvT hZ (ow hw 107 rfl))) (mvT hZ (ow hw 107 rfl)) (mvT hZ (ow hw 106 rfl)) (by decide) (backOf (W := 0) (au13_1 l Z a0 hw [] wMAX_LOCK_DELAY wGRANTED wQUEUED wZERO hS a1 q2 a4 q6 T2.heap n0 O9 f11 f12 f13 P16) hZ (ow hw 108 rfl) (ow hw 3 rfl) (by decide) (by decide)) q14a q14c (g := (mkF m 57 #[(vr a1), (vl q2), .second, (vi 1), (vr e1_2), .val .null] [(.long q2), (.ref a1)])) rfl (by rw [hml]; rfl) (Steps.refl _) (argsL := [(.long q2)]) (rest := []) (lenOf pd_2 rfl) rfl (by show 2 * 0 + _ ≤ _; exact Nat.le_of_eq rfl) (hb hby d7_57) (fun _ _ => ⟨rfl, K10q, (by decide : 1 + 0 ≤ _), (by decide : 4 + 0 ≤ _)⟩)
  dsimp only [Pt.U, Pt.locs, Pt.cells, Pt.slots] at X14 l14 y14 z14 st14 hQ14
  subst l14 y14 z14
  obtain ⟨rfl, Nq14, K14q⟩ := hQ14
  have N14 := Fr.app N10 Nq14
  obtain ⟨T16, h16, X16, e16, W16, st16⟩ := putF X14 hx hZ hown (host := "") (Or.inl (ow hw 109 rfl)) Via.refl K14q f11 f15 (Or.inl (ow hw 110 rfl)) (ow hw 2 rfl) (ty := (.object s3n)) (by decide) rfl rfl (g := (mkF m 65 #[(vr a1), (vl q2), .second, (vi 1), (vr e1_2), .val .null] [.null, (.ref a1)])) rfl rfl (hb hby d7_65)
  have N16 := Fr.snoc X16 N14 P17
  have O17 : Old Z n0 h16 := O9.wr W16 P17
  have K17 : Keep h0 h16 [a1] := K9.wr W16 (Or.inl (List.mem_of_getElem? (i := 0) rfl))
  have Fw16 : Fld Z h16 a1 s4n "holder" s9n .null := f11.same W16
  have f18 : Fld Z h16 a1 s4n s10n s0n (.ref wMAX_LOCK_DELAY) := ((P4.keep K2q nin0).other W16 (Or.inr (slot_ne (Or.inl (ow hw 32 rfl)) (Or.inl (ow hw 110 rfl)) (by decide) (t := (.object s1n)) (t' := (.object s3n)) (by decide) (by decide))))
  obtain ⟨T19, X19, e19, st19⟩ := getF X16 hx hZ hown (host := "") (Or.inl (ow hw 31 rfl)) Via.refl e16 f18 (g := (mkF m 74 #[(vr a1), (vl q2), .second, (vi 1), (vr e1_2), .val .null] [(.ref a1), (.ref a1)])) rfl rfl (hb hby d7_74)
  obtain ⟨cq20, kq20, q20a, q20b, q20c⟩ := isOf hZ e19 (E_wMAX_LOCK_DELAY.ext O17.2)
  obtain ⟨_, _, ⟨T20, L20, k20, n20⟩, -, X20, ⟨Lc20, hQ20, l20, y20, z20⟩, st20⟩ := X19.virtualBack hx (y := M23) (z := M23) hown (mvT hZ (ow hw 189 rfl)) (mvT hZ (ow hw 190 rfl)) (notFace_of_selects (args := #[]) (mvT hZ (ow hw 192 rfl))) (mvT hZ (ow hw 192 rfl)) (mvT hZ (ow hw 191 rfl)) (by decide) (backOf (W := 1) (au25_0 l Z a0 hw [] wMAX_LOCK_DELAY wGRANTED wQUEUED wZERO hS  h16 n0 O17 ) hZ (ow hw 193 rfl) (ow hw 30 rfl) (by decide) (by decide)) q20a q20c (g := (mkF m 77 #[(vr a1), (vl q2), .second, (vi 1), (vr e1_2), .val .null] [(.ref wMAX_LOCK_DELAY), (.ref a1)])) rfl (by rw [hml]; rfl) (Steps.refl _) (argsL := []) (rest := [(.ref a1)]) (lenOf pd_7 rfl) rfl (by show 2 * 0 + _ ≤ _; exact Nat.le_of_eq rfl) (hb hby d7_77) (fun _ _ => ⟨rfl, e19, (by decide : 1 + 0 ≤ _), (by decide : 4 + 0 ≤ _)⟩)
  dsimp only [Pt.U, Pt.locs, Pt.cells, Pt.slots] at X20 l20 y20 z20 st20 hQ20
  subst l20 y20 z20
  obtain ⟨rfl, Nq20, K20q⟩ := hQ20
  have N20 := Fr.app N16 Nq20
  have f21 : Exa Z h16 a1 s4n := (f15.wr W16)
  have f22 : Fld Z h16 a1 s4n "heldBack" "Z" (.int 0) := ((P2.keep K2q nin0).other W16 (Or.inr (slot_ne (Or.inl (ow hw 51 rfl)) (Or.inl (ow hw 110 rfl)) (by decide) (t := .boolean) (t' := (.object s3n)) (by decide) (by decide))))
  obtain ⟨T23, h23, X23, e23, W23, st23⟩ := putFN X20 hx hZ hown (ow hw 50 rfl) Via.refl K20q f22 f21 (Or.inl (ow hw 51 rfl)) (ow hw 2 rfl) (ty := .boolean) (v' := (.int 1)) (by decide) rfl rfl (g := (mkF m 88 #[(vr a1), (vl q2), .second, (vi 1), (vr e1_2), .val .null] [(.int 1), (.ref a1)])) rfl rfl (hb hby d7_88)
  have N23 := Fr.snoc X23 N20 P17
  have O24 : Old Z n0 h23 := O17.wr W23 P17
  have K24 : Keep h0 h23 [a1] := K17.wr W23 (Or.inl (List.mem_of_getElem? (i := 0) rfl))
  have Fw23 : Fld Z h23 a1 s4n "heldBack" "Z" (.int 1) := f22.same W23
  obtain ⟨T25, X25, e25, st25⟩ := getF X23 hx hZ hown (host := "") (Or.inl (ow hw 50 rfl)) Via.refl e23 Fw23 (g := (mkF m 92 #[(vr a1), (vl q2), .second, (vi 1), (vr e1_2), .val .null] [(.ref a1)])) rfl rfl (hb hby d7_92)
  have f26 : Exa Z h23 a1 s4n := (f21.wr W23)
  have f27 : Fld Z h23 a1 s4n "generation" "J" (.long qg3) := (((P1.keep K2q nin0).other W16 (Or.inr (slot_ne (Or.inl (ow hw 129 rfl)) (Or.inl (ow hw 110 rfl)) (by decide) (t := .long) (t' := (.object s3n)) (by decide) (by decide)))).other W23 (Or.inr (slot_ne (Or.inl (ow hw 129 rfl)) (Or.inl (ow hw 51 rfl)) (by decide) (t := .long) (t' := .boolean) (by decide) (by decide))))
  have f28 : Fld Z h23 a1 s4n "holder" s9n .null := (Fw16.other W23 (Or.inr (slot_ne (Or.inl (ow hw 110 rfl)) (Or.inl (ow hw 51 rfl)) (by decide) (t := (.object s3n)) (t' := .boolean) (by decide) (by decide))))
  have f29 : Fld Z h23 a1 s4n s10n s0n (.ref wMAX_LOCK_DELAY) := (f18.other W23 (Or.inr (slot_ne (Or.inl (ow hw 32 rfl)) (Or.inl (ow hw 51 rfl)) (by decide) (t := (.object s1n)) (t' := .boolean) (by decide) (by decide))))
  have f30 : Fld Z h23 a1 s4n "waiters" s11n (.ref a5) := (((P5.keep K2q nin0).other W16 (Or.inr (slot_ne (Or.inr (ow hw 28 rfl)) (Or.inl (ow hw 110 rfl)) (by decide) (t := (.object s12n)) (t' := (.object s3n)) (by decide) (by decide)))).other W23 (Or.inr (slot_ne (Or.inr (ow hw 28 rfl)) (Or.inl (ow hw 51 rfl)) (by decide) (t := (.object s12n)) (t' := .boolean) (by decide) (by decide))))
  obtain ⟨fs, hr, hrun, hended, hW, hsame⟩ := X25.leave (v := some .null) (fun h => by rw [hret0] at h; cases h)
  refine ⟨_, _, pre0 _ ?_, hrun, hended, _, _, rfl, ?_, ⟨_, rfl⟩, hW, hsame.mono (by decide) (by decide)⟩
  · skip
    show Steps p.tables e below (s₁.setTop (mkF m 0 #[(vr a1), (vl q2), .second, (vi 1), .unset, .unset] [])) _
    refine XS.aloadN X0.here hx rfl (hb hby d7_0) rfl rfl ?_
    refine st1 _ ?_
    refine st2.trans ?_
    refine XS.astore X2.here hx rfl (hb hby d7_9) rfl rfl (l' := #[(vr a1), (vl q2), .second, (vi 1), (vr e1_2), .unset]) rfl ?_
    refine XS.aload X2.here hx rfl (hb hby d7_11) rfl rfl ?_
    refine st10.trans ?_
    refine XS.ifYes X10.here hx rfl (pc0 := 18) (pc' := 52) rfl (hb hby d7_18) rfl ((if0 _ _).trans (teq (by decide : (0 : Int32) = (0 : Int32))).1) (by decide) (by decide) ?_
    refine XS.aconstNull X10.here hx rfl (hb hby d7_52) ?_
    show Steps p.tables e below (T10.setTop (mkF m 53 #[(vr a1), (vl q2), .second, (vi 1), (vr e1_2), .unset] [.null])) _
    refine XS.astore X10.here hx rfl (hb hby d7_53) rfl rfl (l' := #[(vr a1), (vl q2), .second, (vi 1), (vr e1_2), .val .null]) rfl ?_
    refine XS.aloadN X10.here hx rfl (hb hby d7_55) rfl rfl ?_
    refine XS.lloadN X10.here hx rfl (hb hby d7_56) rfl ?_
    refine st14.trans ?_
    refine XS.ifNo X14.here hx rfl (hb hby d7_60) rfl ((if0 _ _).trans (feq (by decide : ¬ ((1 : Int32) = (0 : Int32)))).1) ?_
    refine XS.aloadN X14.here hx rfl (hb hby d7_63) rfl rfl ?_
    refine XS.aconstNull X14.here hx rfl (hb hby d7_64) ?_
    refine st16 _ ?_
    show Steps p.tables e below (T16.setTop (mkF m 68 #[(vr a1), (vl q2), .second, (vi 1), (vr e1_2), .val .null] [])) _
    refine XS.aloadN X16.here hx rfl (hb hby d7_68) rfl rfl ?_
    refine XS.iloadN X16.here hx rfl (hb hby d7_69) rfl ?_
    refine XS.ifNo X16.here hx rfl (hb hby d7_70) rfl ((if0 _ _).trans (feq (by decide : ¬ ((1 : Int32) = (0 : Int32)))).1) ?_
    refine XS.aloadN X16.here hx rfl (hb hby d7_73) rfl rfl ?_
    refine st19 _ ?_
    refine st20.trans ?_
    refine XS.ifNo X20.here hx rfl (hb hby d7_80) rfl ((if0 _ _).trans (teq (by decide : (0 : Int32) = (0 : Int32))).2) ?_
    refine XS.iconst X20.here hx rfl (hb hby d7_83) ?_
    show Steps p.tables e below (T20.setTop (mkF m 84 #[(vr a1), (vl q2), .second, (vi 1), (vr e1_2), .val .null] [(.int 1), (.ref a1)])) _
    refine XS.goto X20.here hx rfl (pc0 := 84) (pc' := 88) rfl (hb hby d7_84) (by decide) (by decide) ?_
    refine st23 _ ?_
    refine XS.aloadN X23.here hx rfl (hb hby d7_91) rfl rfl ?_
    refine st25 _ ?_
    refine XS.ifNo X25.here hx rfl (hb hby d7_95) rfl ((if0 _ _).trans (feq (by decide : ¬ ((1 : Int32) = (0 : Int32)))).1) ?_
    refine XS.aconstNull X25.here hx rfl (hb hby d7_98) ?_
    refine XS.goto X25.here hx rfl (pc0 := 99) (pc' := 106) rfl (hb hby d7_99) (by decide) (by decide) ?_
    refine XS.astore X25.here hx rfl (hb hby d7_106) rfl rfl (l' := #[(vr a1), (vl q2), .second, (vi 1), (vr e1_2), .val .null]) rfl ?_
    show Steps p.tables e below (T25.setTop (mkF m 108 #[(vr a1), (vl q2), .second, (vi 1), (vr e1_2), .val .null] [])) _
    refine XS.aload X25.here hx rfl (hb hby d7_108) rfl rfl ?_
    jvm_step X25.here [X25.here.top, hx, (hb hby d7_110), X25.method', hret0, Value.isRef, FieldType.isReference]
    first | (intro acts; rw [hr _ acts rfl rfl rfl]) | rw [hr _ _ rfl rfl rfl]
    exact Steps.refl _
  · show Q_au7_4 Z wMAX_LOCK_DELAY wGRANTED wQUEUED wZERO a1 q2 qg3 a4 a5 q6 a7 k8 h0 n0 _ T25.heap _
    rw [e25]
    exact ⟨rfl, N23, K24, f26, f27, Fw23, f28, f29, f30⟩
theorem ef_au7_5 (m : MethodId) (x0 : Addr) (x1 : Int64) (x2 : Int32)  : entryFrame m #[(.ref x0), (.long x1), (.int x2)] 6 = mkF m 0 #[(vr x0), (vl x1), .second, (vi x2), .unset, .unset] [] := by first | (simp [entryFrame, mkF, argsToLocals, Value.category]; done) | rfl
def Q_au7_5 (Z : State) (wMAX_LOCK_DELAY : Addr) (wGRANTED : Addr) (wQUEUED : Addr) (wZERO : Addr) (a1 : Addr) (q2 : Int64) (a4 : Addr) (a5 : Addr) (q6 : Int64) (a7 : Addr) (k8 : ClassId) (h0 : Heap) (n0 : Nat) (v : Option Value) (h : Heap) (L : List Loc) : Prop := v = some .null ∧ Fr n0 L ∧ Keep h0 h []
theorem au7_5 (l : Launch) (Z : State) (a0 : Array Value) (hw : ∀ d ∈ tables_1, d.before a0 Z = true) (ws : List Jvm.Cond) (wMAX_LOCK_DELAY : Addr) (wGRANTED : Addr) (wQUEUED : Addr) (wZERO : Addr) (hS : SS Z wMAX_LOCK_DELAY wGRANTED wQUEUED wZERO) (a1 : Addr) (q2 : Int64) (a4 : Addr) (a5 : Addr) (q6 : Int64) (a7 : Addr) (k8 : ClassId) (h0 : Heap) (n0 : Nat) (O0 : Old Z n0 h0) (P0 : Exa Z h0 a1 s4n) (P3 : Fld Z h0 a1 s4n "holder" s9n (.ref a4)) (P5 : Fld Z h0 a1 s4n "waiters" s11n (.ref a5)) (P6 : Exa Z h0 a4 s3n) (P8 : Fld Z h0 a4 s3n "session" "J" (.long q6)) (P9 : Exa Z h0 a5 s6n) (P10 : Fld Z h0 a5 s6n "elements" s7n (.ref a7)) (P11 : Fld Z h0 a5 s6n "head" "I" (.int 0)) (P12 : Fld Z h0 a5 s6n "tail" "I" (.int 0)) (P13 : Arv Z h0 a7 k8 (.object s8n) (17 : Int32) ([.null, .null, .null, .null, .null, .null, .null, .null, .null, .null, .null, .null, .null, .null, .null, .null, .null]) .null) (P16 : q6 ≠ q2) :
    MetB l M12 prog_84_method_14_code 6 (some (.object s3n)) ws (rmk 4 1 4 53) Z h0 #[(.ref a1), (.long q2), (.int 1)] (Q_au7_5 Z wMAX_LOCK_DELAY wGRANTED wQUEUED wZERO a1 q2 a4 a5 q6 a7 k8 h0 n0) := by
  refine own_body (plainFor_of_name pn_com_example_umpired_umpired_server_NodeLock) ?_
  intro p e s m below meth c s₁ hx hby hml hown hnm hret0 hlk0 hZ X0 e0
  have N0 := Fr.nil n0
  have pre0 : ∀ t, Steps p.tables e below (s₁.setTop (mkF m 0 #[(vr a1), (vl q2), .second, (vi 1), .unset, .unset] [])) t → Steps p.tables e below (s₁.setTop (entryFrame m #[(.ref a1), (.long q2), (.int 1)] 6)) t := fun t k => castTop (ef_au7_5 m a1 q2 (1 : Int32)) k
  have K0 := Keep.refl h0 []
  have hS0 := hS
  obtain ⟨S_wMAX_LOCK_DELAY, E_wMAX_LOCK_DELAY, S_wGRANTED, E_wGRANTED, S_wQUEUED, E_wQUEUED, F_seconds_wMAX_LOCK_DELAY, F_nanos_wMAX_LOCK_DELAY, S_wZERO, E_wZERO, F_seconds_wZERO, F_nanos_wZERO⟩ := hS0
  obtain ⟨T1, X1, e1, st1⟩ := getF X0 hx hZ hown (host := "") (Or.inl (ow hw 27 rfl)) Via.refl e0 P5 (g := (mkF m 1 #[(vr a1), (vl q2), .second, (vi 1), .unset, .unset] [(.ref a1)])) rfl rfl (hb hby d7_1)
  obtain ⟨cq2, kq2, q2a, q2b, q2c⟩ := isOf hZ e1 P9
  obtain ⟨_, _, ⟨T2, L2, k2, n2⟩, -, X2, ⟨Lc2, hQ2, l2, y2, z2⟩, st2⟩ := X1.interfaceBack hx (xi := M13) (y := M9) hown (mvT hZ (ow hw 57 rfl)) (mvT hZ (ow hw 58 rfl)) (mvT hZ (ow hw 59 rfl)) (mvT hZ (ow hw 60 rfl)) (mvT hZ (ow hw 61 rfl)) (mvT hZ (ow hw 62 rfl)) (mvT hZ (ow hw 63 rfl)) (mvT hZ (ow hw 64 rfl)) (by decide) (backOf (W := 0) (au8_0 l Z a0 hw [] wMAX_LOCK_DELAY wGRANTED wQUEUED wZERO hS a5 a7 k8 h0 n0 O0 P9 P10 P11 P12 P13) hZ (ow hw 65 rfl) (ow hw 12 rfl) (by decide) (by decide)) q2a q2b q2c (g := (mkF m 4 #[(vr a1), (vl q2), .second, (vi 1), .unset, .unset] [(.ref a5)])) rfl (by rw [hml]; rfl) (Steps.refl _) (argsL := []) (rest := []) (lenOf pd_6 rfl) rfl (by show 2 * 0 + _ ≤ _; exact Nat.le_of_eq rfl) (hb hby d7_4) (fun _ _ => ⟨rfl, e1, (by decide : 0 + 1 ≤ _), (by decide : 0 + 4 ≤ _)⟩)
  dsimp only [Pt.U, Pt.locs, Pt.cells, Pt.slots] at X2 l2 y2 z2 st2 hQ2
  subst l2 y2 z2
  obtain ⟨e1_2, rfl, Nq2, K2q, p2_0, p2_1, p2_2, p2_3, p2_4, p2_5⟩ := hQ2
  have N2 := Fr.app N0 Nq2
  have ne3 : a1 ≠ e1_2 := Nat.ne_of_lt (Nat.lt_of_lt_of_le P0.lt p2_0)
  have ne4 : a4 ≠ e1_2 := Nat.ne_of_lt (Nat.lt_of_lt_of_le P6.lt p2_0)
  have ne5 : a5 ≠ e1_2 := Nat.ne_of_lt (Nat.lt_of_lt_of_le P9.lt p2_0)
  have ne6 : a7 ≠ e1_2 := Nat.ne_of_lt (Nat.lt_of_lt_of_le P13.lt p2_0)
  have g7 : n0 ≤ e1_2 := Nat.le_trans (own_sz O0) p2_0
  have sz8 : h0.size ≤ e1_2 := Nat.le_trans K0.1 p2_0
  have O9 : Old Z n0 T2.heap := O0.keep K2q all0
  have K9 : Keep h0 T2.heap [] := K0.trans K2q all0
  obtain ⟨cq10, kq10, q10a, q10b, q10c⟩ := isOf hZ rfl p2_1
  obtain ⟨_, _, ⟨T10, L10, k10, n10⟩, -, X10, ⟨Lc10, hQ10, l10, y10, z10⟩, st10⟩ := X2.interfaceBack hx (xi := M14) (y := M10) hown (mvT hZ (ow hw 95 rfl)) (mvT hZ (ow hw 96 rfl)) (mvT hZ (ow hw 97 rfl)) (mvT hZ (ow hw 98 rfl)) (mvT hZ (ow hw 99 rfl)) (mvT hZ (ow hw 100 rfl)) (mvT hZ (ow hw 101 rfl)) (mvT hZ (ow hw 102 rfl)) (by decide) (backOf (W := 0) (au12_0 l Z a0 hw [] wMAX_LOCK_DELAY wGRANTED wQUEUED wZERO hS e1_2 T2.heap n0 O9 p2_4) hZ (ow hw 103 rfl) (ow hw 68 rfl) (by decide) (by decide)) q10a q10b q10c (g := (mkF m 13 #[(vr a1), (vl q2), .second, (vi 1), (vr e1_2), .unset] [(.ref e1_2)])) rfl (by rw [hml]; rfl) (Steps.refl _) (argsL := []) (rest := []) (lenOf pd_7 rfl) rfl (by show 2 * 0 + _ ≤ _; exact Nat.le_of_eq rfl) (hb hby d7_13) (fun _ _ => ⟨rfl, rfl, (by decide : 1 + 0 ≤ _), (by decide : 4 + 0 ≤ _)⟩)
  dsimp only [Pt.U, Pt.locs, Pt.cells, Pt.slots] at X10 l10 y10 z10 st10 hQ10
  subst l10 y10 z10
  obtain ⟨rfl, Nq10, K10q⟩ := hQ10
  have N10 := Fr.app N2 Nq10
  have f11 : Fld Z T2.heap a1 s4n "holder" s9n (.ref a4) := (P3.keep K2q nin0)
  have f12 : Exa Z T2.heap a4 s3n := (P6.keep K2q)
  have f13 : Fld Z T2.heap a4 s3n "session" "J" (.long q6) := (P8.keep K2q nin0)
  have f15 : Exa Z T2.heap a1 s4n := (P0.keep K2q)
  obtain ⟨cq14, kq14, q14a, q14b, q14c⟩ := isOf hZ K10q f15
  obtain ⟨_, _, ⟨T14, L14, k14, n14⟩, -, X14, ⟨Lc14, hQ14, l14, y14, z14⟩, st14⟩ := X10.virtualBack hx (y := M11) (z := M11) hown (mvT hZ (ow hw 104 rfl)) (mvT hZ (ow hw 105 rfl)) (notFace_of_selects (args := #[]) (mvT hZ (ow hw 107 rfl))) (mvT hZ (ow hw 107 rfl)) (mvT hZ (ow hw 106 rfl)) (by decide) (backOf (W := 0) (au13_2 l Z a0 hw [] wMAX_LOCK_DELAY wGRANTED wQUEUED wZERO hS a1 q2 a4 q6 T2.heap n0 O9 f11 f12 f13 P16) hZ (ow hw 108 rfl) (ow hw 3 rfl) (by decide) (by decide)) q14a q14c (g := (mkF m 57 #[(vr a1), (vl q2), .second, (vi 1), (vr e1_2), .val .null] [(.long q2), (.ref a1)])) rfl (by rw [hml]; rfl) (Steps.refl _) (argsL := [(.long q2)]) (rest := []) (lenOf pd_2 rfl) rfl (by show 2 * 0 + _ ≤ _; exact Nat.le_of_eq rfl) (hb hby d7_57) (fun _ _ => ⟨rfl, K10q, (by decide : 1 + 0 ≤ _), (by decide : 4 + 0 ≤ _)⟩)
  dsimp only [Pt.U, Pt.locs, Pt.cells, Pt.slots] at X14 l14 y14 z14 st14 hQ14
  subst l14 y14 z14
  obtain ⟨rfl, Nq14, K14q⟩ := hQ14
  have N14 := Fr.app N10 Nq14
  obtain ⟨fs, hr, hrun, hended, hW, hsame⟩ := X14.leave (v := some .null) (fun h => by rw [hret0] at h; cases h)
  refine ⟨_, _, pre0 _ ?_, hrun, hended, _, _, rfl, ?_, ⟨_, rfl⟩, hW, hsame.mono (by decide) (by decide)⟩
  · skip
    show Steps p.tables e below (s₁.setTop (mkF m 0 #[(vr a1), (vl q2), .second, (vi 1), .unset, .unset] [])) _
    refine XS.aloadN X0.here hx rfl (hb hby d7_0) rfl rfl ?_
    refine st1 _ ?_
    refine st2.trans ?_
    refine XS.astore X2.here hx rfl (hb hby d7_9) rfl rfl (l' := #[(vr a1), (vl q2), .second, (vi 1), (vr e1_2), .unset]) rfl ?_
    refine XS.aload X2.here hx rfl (hb hby d7_11) rfl rfl ?_
    refine st10.trans ?_
    refine XS.ifYes X10.here hx rfl (pc0 := 18) (pc' := 52) rfl (hb hby d7_18) rfl ((if0 _ _).trans (teq (by decide : (0 : Int32) = (0 : Int32))).1) (by decide) (by decide) ?_
    refine XS.aconstNull X10.here hx rfl (hb hby d7_52) ?_
    show Steps p.tables e below (T10.setTop (mkF m 53 #[(vr a1), (vl q2), .second, (vi 1), (vr e1_2), .unset] [.null])) _
    refine XS.astore X10.here hx rfl (hb hby d7_53) rfl rfl (l' := #[(vr a1), (vl q2), .second, (vi 1), (vr e1_2), .val .null]) rfl ?_
    refine XS.aloadN X10.here hx rfl (hb hby d7_55) rfl rfl ?_
    refine XS.lloadN X10.here hx rfl (hb hby d7_56) rfl ?_
    refine st14.trans ?_
    refine XS.ifYes X14.here hx rfl (pc0 := 60) (pc' := 108) rfl (hb hby d7_60) rfl ((if0 _ _).trans (teq (by decide : (0 : Int32) = (0 : Int32))).1) (by decide) (by decide) ?_
    refine XS.aload X14.here hx rfl (hb hby d7_108) rfl rfl ?_
    jvm_step X14.here [X14.here.top, hx, (hb hby d7_110), X14.method', hret0, Value.isRef, FieldType.isReference]
    first | (intro acts; rw [hr _ acts rfl rfl rfl]) | rw [hr _ _ rfl rfl rfl]
    exact Steps.refl _
  · show Q_au7_5 Z wMAX_LOCK_DELAY wGRANTED wQUEUED wZERO a1 q2 a4 a5 q6 a7 k8 h0 n0 _ T14.heap _
    rw [K14q]
    exact ⟨rfl, N14, K9⟩
theorem tl_tl_rm0_a_w_18 {p : Program} {l : Launch} {e : Env} {s : State} {m : MethodId} {below : List Frame} {meth : Method} {c : Code} {T0 : State} {locs : List Loc} {Z : State} {a0 : Array Value} {h0 : Heap} {n0 : Nat} {margs : Array Value} (hw : ∀ d ∈ tables_1, d.before a0 Z = true) (wMAX_LOCK_DELAY : Addr) (wGRANTED : Addr) (wQUEUED : Addr) (wZERO : Addr) (hS : SS Z wMAX_LOCK_DELAY wGRANTED wQUEUED wZERO) (p1 : Int32) (q2 : Int64) (q3 : Int64) (q4 : Int64) (p5 : Int32) (p6 : Int32) (p7 : Int32) (p8 : Int32) (q9 : Int64) (q10 : Int64) (q11 : Int64) (a12 : Addr) (a13 : Addr) (a14 : Addr) (a15 : Addr) (a16 : Addr) (k17 : ClassId)
    (X0 : Stand p l e room_1 s m margs below meth c T0 locs 5 29) (hx : p.tables.exec = Jvm.exec) (hZ : Z.Warmed39 s.vm) (hby : c.code = code) (hml : c.maxLocals = 33) (hown : s.vm.findClass s5n = some m.cls) (hnm : meth.name = "law") (hret0 : meth.sig.returnType = some .boolean) (hlk0 : meth.locks = false) (e0 : T0.heap = h0) (N0 : Fr n0 locs) (O0 : Old Z n0 h0) (P0 : Exa Z h0 a12 s4n) (P1 : Fld Z h0 a12 s4n "generation" "J" (.long 1)) (P2 : Fld Z h0 a12 s4n "heldBack" "Z" (.int 0)) (P3 : Fld Z h0 a12 s4n "holder" s9n (.ref a14)) (P4 : Fld Z h0 a12 s4n s10n s0n (.ref wMAX_LOCK_DELAY)) (P5 : Fld Z h0 a12 s4n "waiters" s11n (.ref a15)) (P9 : Exa Z h0 a14 s3n) (P11 : Fld Z h0 a14 s3n "session" "J" (.long q9)) (P12 : Exa Z h0 a15 s6n) (P13 : Fld Z h0 a15 s6n "elements" s7n (.ref a16)) (P14 : Fld Z h0 a15 s6n "head" "I" (.int 0)) (P15 : Fld Z h0 a15 s6n "tail" "I" (.int 0)) (P16 : Arv Z h0 a16 k17 (.object s8n) (17 : Int32) ([.null, .null, .null, .null, .null, .null, .null, .null, .null, .null, .null, .null, .null, .null, .null, .null, .null]) .null) (P26 : p5 = (0 : Int32) ∨ p5 = (1 : Int32)) (P27 : n0 ≤ a12) (P34 : a12 ≠ a15) (P35 : a12 ≠ a16) :
    ∃ s₂ o, Steps p.tables e below (T0.setTop (mkF m 192 #[(vi p1), (vl q2), .second, (vl q3), .second, (vl q4), .second, (vi 0), (vi 1), (vi p5), (vi p6), (vi p7), (vi p8), (vl q9), .second, (vl q10), .second, (vl q11), .second, (vr a12), (vr a13), (vr a14), .unset, .unset, .unset, .unset, .unset, .unset, .unset, .unset, .unset, .unset, .unset] [])) s₂ ∧ s₂.status = .running ∧ Ended s₂ below o ∧ ∃ v L, o = .returned v ∧ (v = some (.int 1) ∧ Fr n0 L) ∧ FrameEnd s o s₂ L room_1.cells room_1.slots := by
  have pre0 : ∀ t, Steps p.tables e below (T0.setTop (mkF m 192 #[(vi p1), (vl q2), .second, (vl q3), .second, (vl q4), .second, (vi 0), (vi 1), (vi p5), (vi p6), (vi p7), (vi p8), (vl q9), .second, (vl q10), .second, (vl q11), .second, (vr a12), (vr a13), (vr a14), .unset, .unset, .unset, .unset, .unset, .unset, .unset, .unset, .unset, .unset, .unset] [])) t → Steps p.tables e below (T0.setTop (mkF m 192 #[(vi p1), (vl q2), .second, (vl q3), .second, (vl q4), .second, (vi 0), (vi 1), (vi p5), (vi p6), (vi p7), (vi p8), (vl q9), .second, (vl q10), .second, (vl q11), .second, (vr a12), (vr a13), (vr a14), .unset, .unset, .unset, .unset, .unset, .unset, .unset, .unset, .unset, .unset, .unset] [])) t := fun t k => k
  have hS0 := hS
  obtain ⟨S_wMAX_LOCK_DELAY, E_wMAX_LOCK_DELAY, S_wGRANTED, E_wGRANTED, S_wQUEUED, E_wQUEUED, F_seconds_wMAX_LOCK_DELAY, F_nanos_wMAX_LOCK_DELAY, S_wZERO, E_wZERO, F_seconds_wZERO, F_nanos_wZERO⟩ := hS0
  obtain ⟨cq1, kq1, q1a, q1b, q1c⟩ := isOf hZ e0 P0
  obtain ⟨_, _, ⟨T1, L1, k1, n1⟩, -, X1, ⟨Lc1, hQ1, l1, y1, z1⟩, st1⟩ := X0.virtualBack hx (y := M1) (z := M1) hown (mvT hZ (ow hw 45 rfl)) (mvT hZ (ow hw 46 rfl)) (notFace_of_selects (args := #[]) (mvT hZ (ow hw 48 rfl))) (mvT hZ (ow hw 48 rfl)) (mvT hZ (ow hw 47 rfl)) (by decide) (backOf (W := 0) (rmHB0 l Z a0 hw [] wMAX_LOCK_DELAY wGRANTED wQUEUED wZERO hS a12 q11 h0 n0 O0 P2) hZ (ow hw 49 rfl) (ow hw 3 rfl) (by decide) (by decide)) q1a q1c (g := (mkF m 196 #[(vi p1), (vl q2), .second, (vl q3), .second, (vl q4), .second, (vi 0), (vi 1), (vi p5), (vi p6), (vi p7), (vi p8), (vl q9), .second, (vl q10), .second, (vl q11), .second, (vr a12), (vr a13), (vr a14), .unset, .unset, .unset, .unset, .unset, .unset, .unset, .unset, .unset, .unset, .unset] [(.long q11), (.ref a12)])) rfl (by rw [hml]; rfl) (Steps.refl _) (argsL := [(.long q11)]) (rest := []) (lenOf pd_2 rfl) rfl (by show 2 * 0 + _ ≤ _; exact Nat.le_of_eq rfl) (hb hby at_196) (fun _ _ => ⟨rfl, e0, (by decide : 5 + 0 ≤ _), (by decide : 29 + 0 ≤ _)⟩)
  dsimp only [Pt.U, Pt.locs, Pt.cells, Pt.slots] at X1 l1 y1 z1 st1 hQ1
  subst l1 y1 z1
  obtain ⟨rfl, Nq1, K1q⟩ := hQ1
  have N1 := Fr.app N0 Nq1
  have pre2 : ∀ t, Steps p.tables e below (T1.setTop (mkF m 201 #[(vi p1), (vl q2), .second, (vl q3), .second, (vl q4), .second, (vi 0), (vi 1), (vi p5), (vi p6), (vi p7), (vi p8), (vl q9), .second, (vl q10), .second, (vl q11), .second, (vr a12), (vr a13), (vr a14), (vi 0), .unset, .unset, .unset, .unset, .unset, .unset, .unset, .unset, .unset, .unset] [])) t → Steps p.tables e below (T0.setTop (mkF m 192 #[(vi p1), (vl q2), .second, (vl q3), .second, (vl q4), .second, (vi 0), (vi 1), (vi p5), (vi p6), (vi p7), (vi p8), (vl q9), .second, (vl q10), .second, (vl q11), .second, (vr a12), (vr a13), (vr a14), .unset, .unset, .unset, .unset, .unset, .unset, .unset, .unset, .unset, .unset, .unset] [])) t := by
    intro t k
    refine pre0 t ?_
    show Steps p.tables e below (T0.setTop (mkF m 192 #[(vi p1), (vl q2), .second, (vl q3), .second, (vl q4), .second, (vi 0), (vi 1), (vi p5), (vi p6), (vi p7), (vi p8), (vl q9), .second, (vl q10), .second, (vl q11), .second, (vr a12), (vr a13), (vr a14), .unset, .unset, .unset, .unset, .unset, .unset, .unset, .unset, .unset, .unset, .unset] [])) _
    refine XS.aload X0.here hx rfl (hb hby at_192) rfl rfl ?_
    refine XS.lload X0.here hx rfl (hb hby at_194) rfl ?_
    refine st1.trans ?_
    refine XS.istore X1.here hx rfl (hb hby at_199) rfl (l' := #[(vi p1), (vl q2), .second, (vl q3), .second, (vl q4), .second, (vi 0), (vi 1), (vi p5), (vi p6), (vi p7), (vi p8), (vl q9), .second, (vl q10), .second, (vl q11), .second, (vr a12), (vr a13), (vr a14), (vi 0), .unset, .unset, .unset, .unset, .unset, .unset, .unset, .unset, .unset, .unset]) rfl ?_
    exact k
  rcases (id (P26)) with hk3 | hk3
  · skip
    have pre4 : ∀ t, Steps p.tables e below (T1.setTop (mkF m 201 #[(vi p1), (vl q2), .second, (vl q3), .second, (vl q4), .second, (vi 0), (vi 1), (vi 0), (vi p6), (vi p7), (vi p8), (vl q9), .second, (vl q10), .second, (vl q11), .second, (vr a12), (vr a13), (vr a14), (vi 0), .unset, .unset, .unset, .unset, .unset, .unset, .unset, .unset, .unset, .unset] [])) t → Steps p.tables e below (T0.setTop (mkF m 192 #[(vi p1), (vl q2), .second, (vl q3), .second, (vl q4), .second, (vi 0), (vi 1), (vi p5), (vi p6), (vi p7), (vi p8), (vl q9), .second, (vl q10), .second, (vl q11), .second, (vr a12), (vr a13), (vr a14), .unset, .unset, .unset, .unset, .unset, .unset, .unset, .unset, .unset, .unset, .unset] [])) t := by
      intro t k
      refine pre2 t ?_
      rw [hk3]
      exact k
    rcases Decidable.em (q9 = q10) with hq5 | hq5
    · skip
      obtain ⟨cq6, kq6, q6a, q6b, q6c⟩ := isOf hZ K1q P0
      obtain ⟨_, _, ⟨T6, L6, k6, n6⟩, -, X6, ⟨Lc6, hQ6, l6, y6, z6⟩, st6⟩ := X1.virtualBack hx (y := M12) (z := M12) hown (mvT hZ (ow hw 52 rfl)) (mvT hZ (ow hw 53 rfl)) (notFace_of_selects (args := #[]) (mvT hZ (ow hw 55 rfl))) (mvT hZ (ow hw 55 rfl)) (mvT hZ (ow hw 54 rfl)) (by decide) (backOf (W := 0) (au7_2 l Z a0 hw [] wMAX_LOCK_DELAY wGRANTED wQUEUED wZERO hS a12 q10 (1 : Int64) a14 a15 q9 a16 k17 h0 n0 O0 P0 P1 P2 P3 P4 P5 P9 P11 P12 P13 P14 P15 P16 hq5 P27 P34 P35) hZ (ow hw 56 rfl) (ow hw 3 rfl) (by decide) (by decide)) q6a q6c (g := (mkF m 207 #[(vi p1), (vl q2), .second, (vl q3), .second, (vl q4), .second, (vi 0), (vi 1), (vi 0), (vi p6), (vi p7), (vi p8), (vl q9), .second, (vl q10), .second, (vl q11), .second, (vr a12), (vr a13), (vr a14), (vi 0), .unset, .unset, .unset, .unset, .unset, .unset, .unset, .unset, .unset, .unset] [(.int 0), (.long q10), (.ref a12)])) rfl (by rw [hml]; rfl) (Steps.refl _) (argsL := [(.long q10), (.int 0)]) (rest := []) (lenOf pd_8 rfl) rfl (by show 2 * 0 + _ ≤ _; exact Nat.le_of_eq rfl) (hb hby at_207) (fun _ _ => ⟨rfl, K1q, (by decide : 5 + 1 ≤ _), (by decide : 29 + 4 ≤ _)⟩)
      dsimp only [Pt.U, Pt.locs, Pt.cells, Pt.slots] at X6 l6 y6 z6 st6 hQ6
      subst l6 y6 z6
      obtain ⟨rfl, Nq6, K6q, p6_0, p6_1, p6_2, p6_3, p6_4, p6_5⟩ := hQ6
      have N6 := Fr.app N1 Nq6
      have O7 : Old Z n0 T6.heap := O0.keep K6q (allS P27 all0)
      obtain ⟨cq8, kq8, q8a, q8b, q8c⟩ := isOf hZ rfl p6_0
      obtain ⟨_, _, ⟨T8, L8, k8, n8⟩, -, X8, ⟨Lc8, hQ8, l8, y8, z8⟩, st8⟩ := X6.virtualBack hx (y := M1) (z := M1) hown (mvT hZ (ow hw 45 rfl)) (mvT hZ (ow hw 46 rfl)) (notFace_of_selects (args := #[]) (mvT hZ (ow hw 48 rfl))) (mvT hZ (ow hw 48 rfl)) (mvT hZ (ow hw 47 rfl)) (by decide) (backOf (W := 0) (rmHB0 l Z a0 hw [] wMAX_LOCK_DELAY wGRANTED wQUEUED wZERO hS a12 q11 T6.heap n0 O7 p6_2) hZ (ow hw 49 rfl) (ow hw 3 rfl) (by decide) (by decide)) q8a q8c (g := (mkF m 215 #[(vi p1), (vl q2), .second, (vl q3), .second, (vl q4), .second, (vi 0), (vi 1), (vi 0), (vi p6), (vi p7), (vi p8), (vl q9), .second, (vl q10), .second, (vl q11), .second, (vr a12), (vr a13), (vr a14), (vi 0), .unset, .unset, .unset, .unset, .unset, .unset, .unset, .unset, .unset, .unset] [(.long q11), (.ref a12)])) rfl (by rw [hml]; rfl) (Steps.refl _) (argsL := [(.long q11)]) (rest := []) (lenOf pd_2 rfl) rfl (by show 2 * 0 + _ ≤ _; exact Nat.le_of_eq rfl) (hb hby at_215) (fun _ _ => ⟨rfl, rfl, (by decide : 6 + 0 ≤ _), (by decide : 33 + 0 ≤ _)⟩)
      dsimp only [Pt.U, Pt.locs, Pt.cells, Pt.slots] at X8 l8 y8 z8 st8 hQ8
      subst l8 y8 z8
      obtain ⟨rfl, Nq8, K8q⟩ := hQ8
      have N8 := Fr.app N6 Nq8
      have pre9 : ∀ t, Steps p.tables e below (T8.setTop (mkF m 220 #[(vi p1), (vl q2), .second, (vl q3), .second, (vl q4), .second, (vi 0), (vi 1), (vi 0), (vi p6), (vi p7), (vi p8), (vl q9), .second, (vl q10), .second, (vl q11), .second, (vr a12), (vr a13), (vr a14), (vi 0), (vi 0), .unset, .unset, .unset, .unset, .unset, .unset, .unset, .unset, .unset] [])) t → Steps p.tables e below (T0.setTop (mkF m 192 #[(vi p1), (vl q2), .second, (vl q3), .second, (vl q4), .second, (vi 0), (vi 1), (vi p5), (vi p6), (vi p7), (vi p8), (vl q9), .second, (vl q10), .second, (vl q11), .second, (vr a12), (vr a13), (vr a14), .unset, .unset, .unset, .unset, .unset, .unset, .unset, .unset, .unset, .unset, .unset] [])) t := by
        intro t k
        refine pre4 t ?_
        show Steps p.tables e below (T1.setTop (mkF m 201 #[(vi p1), (vl q2), .second, (vl q3), .second, (vl q4), .second, (vi 0), (vi 1), (vi 0), (vi p6), (vi p7), (vi p8), (vl q9), .second, (vl q10), .second, (vl q11), .second, (vr a12), (vr a13), (vr a14), (vi 0), .unset, .unset, .unset, .unset, .unset, .unset, .unset, .unset, .unset, .unset] [])) _
        refine XS.aload X1.here hx rfl (hb hby at_201) rfl rfl ?_
        refine XS.lload X1.here hx rfl (hb hby at_203) rfl ?_
        refine XS.iload X1.here hx rfl (hb hby at_205) rfl ?_
        refine st6.trans ?_
        refine XS.pop X6.here hx rfl (hb hby at_210) rfl rfl ?_
        refine XS.aload X6.here hx rfl (hb hby at_211) rfl rfl ?_
        refine XS.lload X6.here hx rfl (hb hby at_213) rfl ?_
        refine st8.trans ?_
        show Steps p.tables e below (T8.setTop (mkF m 218 #[(vi p1), (vl q2), .second, (vl q3), .second, (vl q4), .second, (vi 0), (vi 1), (vi 0), (vi p6), (vi p7), (vi p8), (vl q9), .second, (vl q10), .second, (vl q11), .second, (vr a12), (vr a13), (vr a14), (vi 0), .unset, .unset, .unset, .unset, .unset, .unset, .unset, .unset, .unset, .unset] [(.int 0)])) _
        refine XS.istore X8.here hx rfl (hb hby at_218) rfl (l' := #[(vi p1), (vl q2), .second, (vl q3), .second, (vl q4), .second, (vi 0), (vi 1), (vi 0), (vi p6), (vi p7), (vi p8), (vl q9), .second, (vl q10), .second, (vl q11), .second, (vr a12), (vr a13), (vr a14), (vi 0), (vi 0), .unset, .unset, .unset, .unset, .unset, .unset, .unset, .unset, .unset]) rfl ?_
        exact k
      obtain ⟨t9, o9, hs9, hr9⟩ := tl_rm0_f hw wMAX_LOCK_DELAY wGRANTED wQUEUED wZERO hS (0 : Int32) (1 : Int32) (0 : Int32) (0 : Int32) (0 : Int32) p1 q2 q3 q4 p6 p7 p8 q9 q10 q11 a12 a13 a14 (X8.more (by decide) (by decide)) hx hZ hby hml hown hnm hret0 hlk0 K8q N8 O7 (by simp [own_exp, lw_eq, hq5]) rfl
      exact ⟨t9, o9, pre9 _ hs9, hr9⟩
    · skip
      obtain ⟨cq10, kq10, q10a, q10b, q10c⟩ := isOf hZ K1q P0
      obtain ⟨_, _, ⟨T10, L10, k10, n10⟩, -, X10, ⟨Lc10, hQ10, l10, y10, z10⟩, st10⟩ := X1.virtualBack hx (y := M12) (z := M12) hown (mvT hZ (ow hw 52 rfl)) (mvT hZ (ow hw 53 rfl)) (notFace_of_selects (args := #[]) (mvT hZ (ow hw 55 rfl))) (mvT hZ (ow hw 55 rfl)) (mvT hZ (ow hw 54 rfl)) (by decide) (backOf (W := 0) (au7_3 l Z a0 hw [] wMAX_LOCK_DELAY wGRANTED wQUEUED wZERO hS a12 q10 a14 a15 q9 a16 k17 h0 n0 O0 P0 P3 P5 P9 P11 P12 P13 P14 P15 P16 hq5) hZ (ow hw 56 rfl) (ow hw 3 rfl) (by decide) (by decide)) q10a q10c (g := (mkF m 207 #[(vi p1), (vl q2), .second, (vl q3), .second, (vl q4), .second, (vi 0), (vi 1), (vi 0), (vi p6), (vi p7), (vi p8), (vl q9), .second, (vl q10), .second, (vl q11), .second, (vr a12), (vr a13), (vr a14), (vi 0), .unset, .unset, .unset, .unset, .unset, .unset, .unset, .unset, .unset, .unset] [(.int 0), (.long q10), (.ref a12)])) rfl (by rw [hml]; rfl) (Steps.refl _) (argsL := [(.long q10), (.int 0)]) (rest := []) (lenOf pd_8 rfl) rfl (by show 2 * 0 + _ ≤ _; exact Nat.le_of_eq rfl) (hb hby at_207) (fun _ _ => ⟨rfl, K1q, (by decide : 5 + 1 ≤ _), (by decide : 29 + 4 ≤ _)⟩)
      dsimp only [Pt.U, Pt.locs, Pt.cells, Pt.slots] at X10 l10 y10 z10 st10 hQ10
      subst l10 y10 z10
      obtain ⟨rfl, Nq10, K10q⟩ := hQ10
      have N10 := Fr.app N1 Nq10
      have O11 : Old Z n0 T10.heap := O0.keep K10q all0
      have f12 : Fld Z T10.heap a12 s4n "heldBack" "Z" (.int 0) := (P2.keep K10q nin0)
      have f14 : Exa Z T10.heap a12 s4n := (P0.keep K10q)
      obtain ⟨cq13, kq13, q13a, q13b, q13c⟩ := isOf hZ rfl f14
      obtain ⟨_, _, ⟨T13, L13, k13, n13⟩, -, X13, ⟨Lc13, hQ13, l13, y13, z13⟩, st13⟩ := X10.virtualBack hx (y := M1) (z := M1) hown (mvT hZ (ow hw 45 rfl)) (mvT hZ (ow hw 46 rfl)) (notFace_of_selects (args := #[]) (mvT hZ (ow hw 48 rfl))) (mvT hZ (ow hw 48 rfl)) (mvT hZ (ow hw 47 rfl)) (by decide) (backOf (W := 0) (rmHB0 l Z a0 hw [] wMAX_LOCK_DELAY wGRANTED wQUEUED wZERO hS a12 q11 T10.heap n0 O11 f12) hZ (ow hw 49 rfl) (ow hw 3 rfl) (by decide) (by decide)) q13a q13c (g := (mkF m 215 #[(vi p1), (vl q2), .second, (vl q3), .second, (vl q4), .second, (vi 0), (vi 1), (vi 0), (vi p6), (vi p7), (vi p8), (vl q9), .second, (vl q10), .second, (vl q11), .second, (vr a12), (vr a13), (vr a14), (vi 0), .unset, .unset, .unset, .unset, .unset, .unset, .unset, .unset, .unset, .unset] [(.long q11), (.ref a12)])) rfl (by rw [hml]; rfl) (Steps.refl _) (argsL := [(.long q11)]) (rest := []) (lenOf pd_2 rfl) rfl (by show 2 * 0 + _ ≤ _; exact Nat.le_of_eq rfl) (hb hby at_215) (fun _ _ => ⟨rfl, rfl, (by decide : 6 + 0 ≤ _), (by decide : 33 + 0 ≤ _)⟩)
      dsimp only [Pt.U, Pt.locs, Pt.cells, Pt.slots] at X13 l13 y13 z13 st13 hQ13
      subst l13 y13 z13
      obtain ⟨rfl, Nq13, K13q⟩ := hQ13
      have N13 := Fr.app N10 Nq13
      have pre15 : ∀ t, Steps p.tables e below (T13.setTop (mkF m 220 #[(vi p1), (vl q2), .second, (vl q3), .second, (vl q4), .second, (vi 0), (vi 1), (vi 0), (vi p6), (vi p7), (vi p8), (vl q9), .second, (vl q10), .second, (vl q11), .second, (vr a12), (vr a13), (vr a14), (vi 0), (vi 0), .unset, .unset, .unset, .unset, .unset, .unset, .unset, .unset, .unset] [])) t → Steps p.tables e below (T0.setTop (mkF m 192 #[(vi p1), (vl q2), .second, (vl q3), .second, (vl q4), .second, (vi 0), (vi 1), (vi p5), (vi p6), (vi p7), (vi p8), (vl q9), .second, (vl q10), .second, (vl q11), .second, (vr a12), (vr a13), (vr a14), .unset, .unset, .unset, .unset, .unset, .unset, .unset, .unset, .unset, .unset, .unset] [])) t := by
        intro t k
        refine pre4 t ?_
        show Steps p.tables e below (T1.setTop (mkF m 201 #[(vi p1), (vl q2), .second, (vl q3), .second, (vl q4), .second, (vi 0), (vi 1), (vi 0), (vi p6), (vi p7), (vi p8), (vl q9), .second, (vl q10), .second, (vl q11), .second, (vr a12), (vr a13), (vr a14), (vi 0), .unset, .unset, .unset, .unset, .unset, .unset, .unset, .unset, .unset, .unset] [])) _
        refine XS.aload X1.here hx rfl (hb hby at_201) rfl rfl ?_
        refine XS.lload X1.here hx rfl (hb hby at_203) rfl ?_
        refine XS.iload X1.here hx rfl (hb hby at_205) rfl ?_
        refine st10.trans ?_
        refine XS.pop X10.here hx rfl (hb hby at_210) rfl rfl ?_
        refine XS.aload X10.here hx rfl (hb hby at_211) rfl rfl ?_
        refine XS.lload X10.here hx rfl (hb hby at_213) rfl ?_
        refine st13.trans ?_
        show Steps p.tables e below (T13.setTop (mkF m 218 #[(vi p1), (vl q2), .second, (vl q3), .second, (vl q4), .second, (vi 0), (vi 1), (vi 0), (vi p6), (vi p7), (vi p8), (vl q9), .second, (vl q10), .second, (vl q11), .second, (vr a12), (vr a13), (vr a14), (vi 0), .unset, .unset, .unset, .unset, .unset, .unset, .unset, .unset, .unset, .unset] [(.int 0)])) _
        refine XS.istore X13.here hx rfl (hb hby at_218) rfl (l' := #[(vi p1), (vl q2), .second, (vl q3), .second, (vl q4), .second, (vi 0), (vi 1), (vi 0), (vi p6), (vi p7), (vi p8), (vl q9), .second, (vl q10), .second, (vl q11), .second, (vr a12), (vr a13), (vr a14), (vi 0), (vi 0), .unset, .unset, .unset, .unset, .unset, .unset, .unset, .unset, .unset]) rfl ?_
        exact k
      obtain ⟨t9, o9, hs9, hr9⟩ := tl_rm0_f hw wMAX_LOCK_DELAY wGRANTED wQUEUED wZERO hS (0 : Int32) (1 : Int32) (0 : Int32) (0 : Int32) (0 : Int32) p1 q2 q3 q4 p6 p7 p8 q9 q10 q11 a12 a13 a14 (X13.more (by decide) (by decide)) hx hZ hby hml hown hnm hret0 hlk0 K13q N13 O11 (by simp [own_exp, lw_eq, hq5]) rfl
      exact ⟨t9, o9, pre15 _ hs9, hr9⟩
  · skip
    have pre16 : ∀ t, Steps p.tables e below (T1.setTop (mkF m 201 #[(vi p1), (vl q2), .second, (vl q3), .second, (vl q4), .second, (vi 0), (vi 1), (vi 1), (vi p6), (vi p7), (vi p8), (vl q9), .second, (vl q10), .second, (vl q11), .second, (vr a12), (vr a13), (vr a14), (vi 0), .unset, .unset, .unset, .unset, .unset, .unset, .unset, .unset, .unset, .unset] [])) t → Steps p.tables e below (T0.setTop (mkF m 192 #[(vi p1), (vl q2), .second, (vl q3), .second, (vl q4), .second, (vi 0), (vi 1), (vi p5), (vi p6), (vi p7), (vi p8), (vl q9), .second, (vl q10), .second, (vl q11), .second, (vr a12), (vr a13), (vr a14), .unset, .unset, .unset, .unset, .unset, .unset, .unset, .unset, .unset, .unset, .unset] [])) t := by
      intro t k
      refine pre2 t ?_
      rw [hk3]
      exact k
    rcases Decidable.em (q9 = q10) with hq17 | hq17
    · skip
      obtain ⟨cq18, kq18, q18a, q18b, q18c⟩ := isOf hZ K1q P0
      obtain ⟨_, _, ⟨T18, L18, k18, n18⟩, -, X18, ⟨Lc18, hQ18, l18, y18, z18⟩, st18⟩ := X1.virtualBack hx (y := M12) (z := M12) hown (mvT hZ (ow hw 52 rfl)) (mvT hZ (ow hw 53 rfl)) (notFace_of_selects (args := #[]) (mvT hZ (ow hw 55 rfl))) (mvT hZ (ow hw 55 rfl)) (mvT hZ (ow hw 54 rfl)) (by decide) (backOf (W := 0) (au7_4 l Z a0 hw [] wMAX_LOCK_DELAY wGRANTED wQUEUED wZERO hS a12 q10 (1 : Int64) a14 a15 q9 a16 k17 h0 n0 O0 P0 P1 P2 P3 P4 P5 P9 P11 P12 P13 P14 P15 P16 hq17 P27) hZ (ow hw 56 rfl) (ow hw 3 rfl) (by decide) (by decide)) q18a q18c (g := (mkF m 207 #[(vi p1), (vl q2), .second, (vl q3), .second, (vl q4), .second, (vi 0), (vi 1), (vi 1), (vi p6), (vi p7), (vi p8), (vl q9), .second, (vl q10), .second, (vl q11), .second, (vr a12), (vr a13), (vr a14), (vi 0), .unset, .unset, .unset, .unset, .unset, .unset, .unset, .unset, .unset, .unset] [(.int 1), (.long q10), (.ref a12)])) rfl (by rw [hml]; rfl) (Steps.refl _) (argsL := [(.long q10), (.int 1)]) (rest := []) (lenOf pd_8 rfl) rfl (by show 2 * 0 + _ ≤ _; exact Nat.le_of_eq rfl) (hb hby at_207) (fun _ _ => ⟨rfl, K1q, (by decide : 5 + 1 ≤ _), (by decide : 29 + 4 ≤ _)⟩)
      dsimp only [Pt.U, Pt.locs, Pt.cells, Pt.slots] at X18 l18 y18 z18 st18 hQ18
      subst l18 y18 z18
      obtain ⟨rfl, Nq18, K18q, p18_0, p18_1, p18_2, p18_3, p18_4, p18_5⟩ := hQ18
      have N18 := Fr.app N1 Nq18
      have O19 : Old Z n0 T18.heap := O0.keep K18q (allS P27 all0)
      obtain ⟨cq20, kq20, q20a, q20b, q20c⟩ := isOf hZ rfl p18_0
      obtain ⟨_, _, ⟨T20, L20, k20, n20⟩, -, X20, ⟨Lc20, hQ20, l20, y20, z20⟩, st20⟩ := X18.virtualBack hx (y := M1) (z := M1) hown (mvT hZ (ow hw 45 rfl)) (mvT hZ (ow hw 46 rfl)) (notFace_of_selects (args := #[]) (mvT hZ (ow hw 48 rfl))) (mvT hZ (ow hw 48 rfl)) (mvT hZ (ow hw 47 rfl)) (by decide) (backOf (W := 0) (rmHB1 l Z a0 hw [] wMAX_LOCK_DELAY wGRANTED wQUEUED wZERO hS a12 (1 : Int64) q11 T18.heap n0 O19 p18_2 p18_1) hZ (ow hw 49 rfl) (ow hw 3 rfl) (by decide) (by decide)) q20a q20c (g := (mkF m 215 #[(vi p1), (vl q2), .second, (vl q3), .second, (vl q4), .second, (vi 0), (vi 1), (vi 1), (vi p6), (vi p7), (vi p8), (vl q9), .second, (vl q10), .second, (vl q11), .second, (vr a12), (vr a13), (vr a14), (vi 0), .unset, .unset, .unset, .unset, .unset, .unset, .unset, .unset, .unset, .unset] [(.long q11), (.ref a12)])) rfl (by rw [hml]; rfl) (Steps.refl _) (argsL := [(.long q11)]) (rest := []) (lenOf pd_2 rfl) rfl (by show 2 * 0 + _ ≤ _; exact Nat.le_of_eq rfl) (hb hby at_215) (fun _ _ => ⟨rfl, rfl, (by decide : 6 + 0 ≤ _), (by decide : 33 + 0 ≤ _)⟩)
      dsimp only [Pt.U, Pt.locs, Pt.cells, Pt.slots] at X20 l20 y20 z20 st20 hQ20
      subst l20 y20 z20
      obtain ⟨r_20, rfl, Nq20, K20q, p20_0⟩ := hQ20
      have N20 := Fr.app N18 Nq20
      have pre21 : ∀ t, Steps p.tables e below (T20.setTop (mkF m 220 #[(vi p1), (vl q2), .second, (vl q3), .second, (vl q4), .second, (vi 0), (vi 1), (vi 1), (vi p6), (vi p7), (vi p8), (vl q9), .second, (vl q10), .second, (vl q11), .second, (vr a12), (vr a13), (vr a14), (vi 0), (vi r_20), .unset, .unset, .unset, .unset, .unset, .unset, .unset, .unset, .unset] [])) t → Steps p.tables e below (T0.setTop (mkF m 192 #[(vi p1), (vl q2), .second, (vl q3), .second, (vl q4), .second, (vi 0), (vi 1), (vi p5), (vi p6), (vi p7), (vi p8), (vl q9), .second, (vl q10), .second, (vl q11), .second, (vr a12), (vr a13), (vr a14), .unset, .unset, .unset, .unset, .unset, .unset, .unset, .unset, .unset, .unset, .unset] [])) t := by
        intro t k
        refine pre16 t ?_
        show Steps p.tables e below (T1.setTop (mkF m 201 #[(vi p1), (vl q2), .second, (vl q3), .second, (vl q4), .second, (vi 0), (vi 1), (vi 1), (vi p6), (vi p7), (vi p8), (vl q9), .second, (vl q10), .second, (vl q11), .second, (vr a12), (vr a13), (vr a14), (vi 0), .unset, .unset, .unset, .unset, .unset, .unset, .unset, .unset, .unset, .unset] [])) _
        refine XS.aload X1.here hx rfl (hb hby at_201) rfl rfl ?_
        refine XS.lload X1.here hx rfl (hb hby at_203) rfl ?_
        refine XS.iload X1.here hx rfl (hb hby at_205) rfl ?_
        refine st18.trans ?_
        refine XS.pop X18.here hx rfl (hb hby at_210) rfl rfl ?_
        refine XS.aload X18.here hx rfl (hb hby at_211) rfl rfl ?_
        refine XS.lload X18.here hx rfl (hb hby at_213) rfl ?_
        refine st20.trans ?_
        show Steps p.tables e below (T20.setTop (mkF m 218 #[(vi p1), (vl q2), .second, (vl q3), .second, (vl q4), .second, (vi 0), (vi 1), (vi 1), (vi p6), (vi p7), (vi p8), (vl q9), .second, (vl q10), .second, (vl q11), .second, (vr a12), (vr a13), (vr a14), (vi 0), .unset, .unset, .unset, .unset, .unset, .unset, .unset, .unset, .unset, .unset] [(.int r_20)])) _
        refine XS.istore X20.here hx rfl (hb hby at_218) rfl (l' := #[(vi p1), (vl q2), .second, (vl q3), .second, (vl q4), .second, (vi 0), (vi 1), (vi 1), (vi p6), (vi p7), (vi p8), (vl q9), .second, (vl q10), .second, (vl q11), .second, (vr a12), (vr a13), (vr a14), (vi 0), (vi r_20), .unset, .unset, .unset, .unset, .unset, .unset, .unset, .unset, .unset]) rfl ?_
        exact k
      obtain ⟨t9, o9, hs9, hr9⟩ := tl_rm0_f hw wMAX_LOCK_DELAY wGRANTED wQUEUED wZERO hS (0 : Int32) (1 : Int32) (1 : Int32) (0 : Int32) r_20 p1 q2 q3 q4 p6 p7 p8 q9 q10 q11 a12 a13 a14 (X20.more (by decide) (by decide)) hx hZ hby hml hown hnm hret0 hlk0 K20q N20 O19 (by simp [own_exp, lw_eq, hq17, p20_0]) rfl
      exact ⟨t9, o9, pre21 _ hs9, hr9⟩
    · skip
      obtain ⟨cq22, kq22, q22a, q22b, q22c⟩ := isOf hZ K1q P0
      obtain ⟨_, _, ⟨T22, L22, k22, n22⟩, -, X22, ⟨Lc22, hQ22, l22, y22, z22⟩, st22⟩ := X1.virtualBack hx (y := M12) (z := M12) hown (mvT hZ (ow hw 52 rfl)) (mvT hZ (ow hw 53 rfl)) (notFace_of_selects (args := #[]) (mvT hZ (ow hw 55 rfl))) (mvT hZ (ow hw 55 rfl)) (mvT hZ (ow hw 54 rfl)) (by decide) (backOf (W := 0) (au7_5 l Z a0 hw [] wMAX_LOCK_DELAY wGRANTED wQUEUED wZERO hS a12 q10 a14 a15 q9 a16 k17 h0 n0 O0 P0 P3 P5 P9 P11 P12 P13 P14 P15 P16 hq17) hZ (ow hw 56 rfl) (ow hw 3 rfl) (by decide) (by decide)) q22a q22c (g := (mkF m 207 #[(vi p1), (vl q2), .second, (vl q3), .second, (vl q4), .second, (vi 0), (vi 1), (vi 1), (vi p6), (vi p7), (vi p8), (vl q9), .second, (vl q10), .second, (vl q11), .second, (vr a12), (vr a13), (vr a14), (vi 0), .unset, .unset, .unset, .unset, .unset, .unset, .unset, .unset, .unset, .unset] [(.int 1), (.long q10), (.ref a12)])) rfl (by rw [hml]; rfl) (Steps.refl _) (argsL := [(.long q10), (.int 1)]) (rest := []) (lenOf pd_8 rfl) rfl (by show 2 * 0 + _ ≤ _; exact Nat.le_of_eq rfl) (hb hby at_207) (fun _ _ => ⟨rfl, K1q, (by decide : 5 + 1 ≤ _), (by decide : 29 + 4 ≤ _)⟩)
      dsimp only [Pt.U, Pt.locs, Pt.cells, Pt.slots] at X22 l22 y22 z22 st22 hQ22
      subst l22 y22 z22
      obtain ⟨rfl, Nq22, K22q⟩ := hQ22
      have N22 := Fr.app N1 Nq22
      have O23 : Old Z n0 T22.heap := O0.keep K22q all0
      have f24 : Fld Z T22.heap a12 s4n "heldBack" "Z" (.int 0) := (P2.keep K22q nin0)
      have f26 : Exa Z T22.heap a12 s4n := (P0.keep K22q)
      obtain ⟨cq25, kq25, q25a, q25b, q25c⟩ := isOf hZ rfl f26
      obtain ⟨_, _, ⟨T25, L25, k25, n25⟩, -, X25, ⟨Lc25, hQ25, l25, y25, z25⟩, st25⟩ := X22.virtualBack hx (y := M1) (z := M1) hown (mvT hZ (ow hw 45 rfl)) (mvT hZ (ow hw 46 rfl)) (notFace_of_selects (args := #[]) (mvT hZ (ow hw 48 rfl))) (mvT hZ (ow hw 48 rfl)) (mvT hZ (ow hw 47 rfl)) (by decide) (backOf (W := 0) (rmHB0 l Z a0 hw [] wMAX_LOCK_DELAY wGRANTED wQUEUED wZERO hS a12 q11 T22.heap n0 O23 f24) hZ (ow hw 49 rfl) (ow hw 3 rfl) (by decide) (by decide)) q25a q25c (g := (mkF m 215 #[(vi p1), (vl q2), .second, (vl q3), .second, (vl q4), .second, (vi 0), (vi 1), (vi 1), (vi p6), (vi p7), (vi p8), (vl q9), .second, (vl q10), .second, (vl q11), .second, (vr a12), (vr a13), (vr a14), (vi 0), .unset, .unset, .unset, .unset, .unset, .unset, .unset, .unset, .unset, .unset] [(.long q11), (.ref a12)])) rfl (by rw [hml]; rfl) (Steps.refl _) (argsL := [(.long q11)]) (rest := []) (lenOf pd_2 rfl) rfl (by show 2 * 0 + _ ≤ _; exact Nat.le_of_eq rfl) (hb hby at_215) (fun _ _ => ⟨rfl, rfl, (by decide : 6 + 0 ≤ _), (by decide : 33 + 0 ≤ _)⟩)
      dsimp only [Pt.U, Pt.locs, Pt.cells, Pt.slots] at X25 l25 y25 z25 st25 hQ25
      subst l25 y25 z25
      obtain ⟨rfl, Nq25, K25q⟩ := hQ25
      have N25 := Fr.app N22 Nq25
      have pre27 : ∀ t, Steps p.tables e below (T25.setTop (mkF m 220 #[(vi p1), (vl q2), .second, (vl q3), .second, (vl q4), .second, (vi 0), (vi 1), (vi 1), (vi p6), (vi p7), (vi p8), (vl q9), .second, (vl q10), .second, (vl q11), .second, (vr a12), (vr a13), (vr a14), (vi 0), (vi 0), .unset, .unset, .unset, .unset, .unset, .unset, .unset, .unset, .unset] [])) t → Steps p.tables e below (T0.setTop (mkF m 192 #[(vi p1), (vl q2), .second, (vl q3), .second, (vl q4), .second, (vi 0), (vi 1), (vi p5), (vi p6), (vi p7), (vi p8), (vl q9), .second, (vl q10), .second, (vl q11), .second, (vr a12), (vr a13), (vr a14), .unset, .unset, .unset, .unset, .unset, .unset, .unset, .unset, .unset, .unset, .unset] [])) t := by
        intro t k
        refine pre16 t ?_
        show Steps p.tables e below (T1.setTop (mkF m 201 #[(vi p1), (vl q2), .second, (vl q3), .second, (vl q4), .second, (vi 0), (vi 1), (vi 1), (vi p6), (vi p7), (vi p8), (vl q9), .second, (vl q10), .second, (vl q11), .second, (vr a12), (vr a13), (vr a14), (vi 0), .unset, .unset, .unset, .unset, .unset, .unset, .unset, .unset, .unset, .unset] [])) _
        refine XS.aload X1.here hx rfl (hb hby at_201) rfl rfl ?_
        refine XS.lload X1.here hx rfl (hb hby at_203) rfl ?_
        refine XS.iload X1.here hx rfl (hb hby at_205) rfl ?_
        refine st22.trans ?_
        refine XS.pop X22.here hx rfl (hb hby at_210) rfl rfl ?_
        refine XS.aload X22.here hx rfl (hb hby at_211) rfl rfl ?_
        refine XS.lload X22.here hx rfl (hb hby at_213) rfl ?_
        refine st25.trans ?_
        show Steps p.tables e below (T25.setTop (mkF m 218 #[(vi p1), (vl q2), .second, (vl q3), .second, (vl q4), .second, (vi 0), (vi 1), (vi 1), (vi p6), (vi p7), (vi p8), (vl q9), .second, (vl q10), .second, (vl q11), .second, (vr a12), (vr a13), (vr a14), (vi 0), .unset, .unset, .unset, .unset, .unset, .unset, .unset, .unset, .unset, .unset] [(.int 0)])) _
        refine XS.istore X25.here hx rfl (hb hby at_218) rfl (l' := #[(vi p1), (vl q2), .second, (vl q3), .second, (vl q4), .second, (vi 0), (vi 1), (vi 1), (vi p6), (vi p7), (vi p8), (vl q9), .second, (vl q10), .second, (vl q11), .second, (vr a12), (vr a13), (vr a14), (vi 0), (vi 0), .unset, .unset, .unset, .unset, .unset, .unset, .unset, .unset, .unset]) rfl ?_
        exact k
      obtain ⟨t9, o9, hs9, hr9⟩ := tl_rm0_f hw wMAX_LOCK_DELAY wGRANTED wQUEUED wZERO hS (0 : Int32) (1 : Int32) (1 : Int32) (0 : Int32) (0 : Int32) p1 q2 q3 q4 p6 p7 p8 q9 q10 q11 a12 a13 a14 (X25.more (by decide) (by decide)) hx hZ hby hml hown hnm hret0 hlk0 K25q N25 O23 (by simp [own_exp, lw_eq, hq17]) rfl
      exact ⟨t9, o9, pre27 _ hs9, hr9⟩
theorem ef_au14_1 (m : MethodId) (x0 : Addr) (x1 : Addr) (x2 : Addr) (x3 : Int32)  : entryFrame m #[(.ref x0), (.ref x1), (.ref x2), (.int x3)] 5 = mkF m 0 #[(vr x0), (vr x1), (vr x2), (vi x3), .unset] [] := by first | (simp [entryFrame, mkF, argsToLocals, Value.category]; done) | rfl
theorem ef_au16_1 (m : MethodId) (x0 : Addr) (x1 : Addr) (x2 : Addr)  : entryFrame m #[(.ref x0), (.ref x1), (.ref x2)] 3 = mkF m 0 #[(vr x0), (vr x1), (vr x2)] [] := by first | (simp [entryFrame, mkF, argsToLocals, Value.category]; done) | rfl
def Q_au16_1 (Z : State) (wMAX_LOCK_DELAY : Addr) (wGRANTED : Addr) (wQUEUED : Addr) (wZERO : Addr) (a1 : Addr) (a2 : Addr) (q3 : Int64) (a4 : Addr) (h0 : Heap) (n0 : Nat) (v : Option Value) (h : Heap) (L : List Loc) : Prop := v = none ∧ Fr n0 L ∧ Keep h0 h [a1] ∧ Exa Z h a1 s4n ∧ Fld Z h a1 s4n "generation" "J" (.long (q3 + (1 : Int64))) ∧ Fld Z h a1 s4n "heldBack" "Z" (.int 0) ∧ Fld Z h a1 s4n "holder" s9n (.ref a2) ∧ Fld Z h a1 s4n s10n s0n (.ref wMAX_LOCK_DELAY) ∧ Fld Z h a1 s4n "waiters" s11n (.ref a4)
theorem au16_1 (l : Launch) (Z : State) (a0 : Array Value) (hw : ∀ d ∈ tables_1, d.before a0 Z = true) (ws : List Jvm.Cond) (wMAX_LOCK_DELAY : Addr) (wGRANTED : Addr) (wQUEUED : Addr) (wZERO : Addr) (hS : SS Z wMAX_LOCK_DELAY wGRANTED wQUEUED wZERO) (a1 : Addr) (a2 : Addr) (q3 : Int64) (a4 : Addr) (h0 : Heap) (n0 : Nat) (O0 : Old Z n0 h0) (P0 : Exa Z h0 a1 s4n) (P1 : Fld Z h0 a1 s4n "generation" "J" (.long q3)) (P2 : Fld Z h0 a1 s4n "heldBack" "Z" (.int 0)) (P3 : Fld Z h0 a1 s4n "holder" s9n .null) (P4 : Fld Z h0 a1 s4n s10n s0n (.ref wZERO)) (P5 : Fld Z h0 a1 s4n "waiters" s11n (.ref a4)) (P16 : n0 ≤ a1) :
    MetB l M15 prog_84_method_23_code 3 none ws (rmk 0 0 0 0) Z h0 #[(.ref a1), (.ref a2), (.ref wMAX_LOCK_DELAY)] (Q_au16_1 Z wMAX_LOCK_DELAY wGRANTED wQUEUED wZERO a1 a2 q3 a4 h0 n0) := by
  refine own_body (plainFor_of_name pn_com_example_umpired_umpired_server_NodeLock) ?_
  intro p e s m below meth c s₁ hx hby hml hown hnm hret0 hlk0 hZ X0 e0
  have N0 := Fr.nil n0
  have pre0 : ∀ t, Steps p.tables e below (s₁.setTop (mkF m 0 #[(vr a1), (vr a2), (vr wMAX_LOCK_DELAY)] [])) t → Steps p.tables e below (s₁.setTop (entryFrame m #[(.ref a1), (.ref a2), (.ref wMAX_LOCK_DELAY)] 3)) t := fun t k => castTop (ef_au16_1 m a1 a2 wMAX_LOCK_DELAY) k
  have K0 := Keep.refl h0 [a1]
  have hS0 := hS
  obtain ⟨S_wMAX_LOCK_DELAY, E_wMAX_LOCK_DELAY, S_wGRANTED, E_wGRANTED, S_wQUEUED, E_wQUEUED, F_seconds_wMAX_LOCK_DELAY, F_nanos_wMAX_LOCK_DELAY, S_wZERO, E_wZERO, F_seconds_wZERO, F_nanos_wZERO⟩ := hS0
  obtain ⟨T1, h1, X1, e1, W1, st1⟩ := putF X0 hx hZ hown (host := "") (Or.inl (ow hw 109 rfl)) Via.refl e0 P3 P0 (Or.inl (ow hw 110 rfl)) (ow hw 2 rfl) (ty := (.object s3n)) (by decide) rfl rfl (g := (mkF m 2 #[(vr a1), (vr a2), (vr wMAX_LOCK_DELAY)] [(.ref a2), (.ref a1)])) rfl rfl (hb hby d16_2)
  have N1 := Fr.snoc X1 N0 P16
  have O2 : Old Z n0 h1 := O0.wr W1 P16
  have K2 : Keep h0 h1 [a1] := K0.wr W1 (Or.inl (List.mem_of_getElem? (i := 0) rfl))
  have Fw1 : Fld Z h1 a1 s4n "holder" s9n (.ref a2) := P3.same W1
  have f3 : Exa Z h1 a1 s4n := (P0.wr W1)
  have f4 : Fld Z h1 a1 s4n s10n s0n (.ref wZERO) := (P4.other W1 (Or.inr (slot_ne (Or.inl (ow hw 32 rfl)) (Or.inl (ow hw 110 rfl)) (by decide) (t := (.object s1n)) (t' := (.object s3n)) (by decide) (by decide))))
  obtain ⟨T5, h5, X5, e5, W5, st5⟩ := putF X1 hx hZ hown (host := "") (Or.inl (ow hw 31 rfl)) Via.refl e1 f4 f3 (Or.inl (ow hw 32 rfl)) (ow hw 2 rfl) (ty := (.object s1n)) (by decide) rfl rfl (g := (mkF m 7 #[(vr a1), (vr a2), (vr wMAX_LOCK_DELAY)] [(.ref wMAX_LOCK_DELAY), (.ref a1)])) rfl rfl (hb hby d16_7)
  have N5 := Fr.snoc X5 N1 P16
  have O6 : Old Z n0 h5 := O2.wr W5 P16
  have K6 : Keep h0 h5 [a1] := K2.wr W5 (Or.inl (List.mem_of_getElem? (i := 0) rfl))
  have Fw5 : Fld Z h5 a1 s4n s10n s0n (.ref wMAX_LOCK_DELAY) := f4.same W5
  have f7 : Fld Z h5 a1 s4n "generation" "J" (.long q3) := ((P1.other W1 (Or.inr (slot_ne (Or.inl (ow hw 129 rfl)) (Or.inl (ow hw 110 rfl)) (by decide) (t := .long) (t' := (.object s3n)) (by decide) (by decide)))).other W5 (Or.inr (slot_ne (Or.inl (ow hw 129 rfl)) (Or.inl (ow hw 32 rfl)) (by decide) (t := .long) (t' := (.object s1n)) (by decide) (by decide))))
  obtain ⟨T8, X8, e8, st8⟩ := getF X5 hx hZ hown (host := "") (Or.inl (ow hw 128 rfl)) Via.refl e5 f7 (g := (mkF m 12 #[(vr a1), (vr a2), (vr wMAX_LOCK_DELAY)] [(.ref a1), (.ref a1)])) rfl rfl (hb hby d16_12)
  have f9 : Exa Z h5 a1 s4n := (f3.wr W5)
  obtain ⟨T10, h10, X10, e10, W10, st10⟩ := putF X8 hx hZ hown (host := "") (Or.inl (ow hw 128 rfl)) Via.refl e8 f7 f9 (Or.inl (ow hw 129 rfl)) (ow hw 2 rfl) (ty := .long) (by decide) rfl rfl (g := (mkF m 17 #[(vr a1), (vr a2), (vr wMAX_LOCK_DELAY)] [(.long (q3 + (1 : Int64))), (.ref a1)])) rfl rfl (hb hby d16_17)
  have N10 := Fr.snoc X10 N5 P16
  have O11 : Old Z n0 h10 := O6.wr W10 P16
  have K11 : Keep h0 h10 [a1] := K6.wr W10 (Or.inl (List.mem_of_getElem? (i := 0) rfl))
  have Fw10 : Fld Z h10 a1 s4n "generation" "J" (.long (q3 + (1 : Int64))) := f7.same W10
  have f12 : Exa Z h10 a1 s4n := (f9.wr W10)
  have f13 : Fld Z h10 a1 s4n "heldBack" "Z" (.int 0) := (((P2.other W1 (Or.inr (slot_ne (Or.inl (ow hw 51 rfl)) (Or.inl (ow hw 110 rfl)) (by decide) (t := .boolean) (t' := (.object s3n)) (by decide) (by decide)))).other W5 (Or.inr (slot_ne (Or.inl (ow hw 51 rfl)) (Or.inl (ow hw 32 rfl)) (by decide) (t := .boolean) (t' := (.object s1n)) (by decide) (by decide)))).other W10 (Or.inr (slot_ne (Or.inl (ow hw 51 rfl)) (Or.inl (ow hw 129 rfl)) (by decide) (t := .boolean) (t' := .long) (by decide) (by decide))))
  have f14 : Fld Z h10 a1 s4n "holder" s9n (.ref a2) := ((Fw1.other W5 (Or.inr (slot_ne (Or.inl (ow hw 110 rfl)) (Or.inl (ow hw 32 rfl)) (by decide) (t := (.object s3n)) (t' := (.object s1n)) (by decide) (by decide)))).other W10 (Or.inr (slot_ne (Or.inl (ow hw 110 rfl)) (Or.inl (ow hw 129 rfl)) (by decide) (t := (.object s3n)) (t' := .long) (by decide) (by decide))))
  have f15 : Fld Z h10 a1 s4n s10n s0n (.ref wMAX_LOCK_DELAY) := (Fw5.other W10 (Or.inr (slot_ne (Or.inl (ow hw 32 rfl)) (Or.inl (ow hw 129 rfl)) (by decide) (t := (.object s1n)) (t' := .long) (by decide) (by decide))))
  have f16 : Fld Z h10 a1 s4n "waiters" s11n (.ref a4) := (((P5.other W1 (Or.inr (slot_ne (Or.inr (ow hw 28 rfl)) (Or.inl (ow hw 110 rfl)) (by decide) (t := (.object s12n)) (t' := (.object s3n)) (by decide) (by decide)))).other W5 (Or.inr (slot_ne (Or.inr (ow hw 28 rfl)) (Or.inl (ow hw 32 rfl)) (by decide) (t := (.object s12n)) (t' := (.object s1n)) (by decide) (by decide)))).other W10 (Or.inr (slot_ne (Or.inr (ow hw 28 rfl)) (Or.inl (ow hw 129 rfl)) (by decide) (t := (.object s12n)) (t' := .long) (by decide) (by decide))))
  obtain ⟨fs, hr, hrun, hended, hW, hsame⟩ := X10.leave (v := none) (fun _ => rfl)
  refine ⟨_, _, pre0 _ ?_, hrun, hended, _, _, rfl, ?_, ⟨_, rfl⟩, hW, hsame.mono (by decide) (by decide)⟩
  · skip
    show Steps p.tables e below (s₁.setTop (mkF m 0 #[(vr a1), (vr a2), (vr wMAX_LOCK_DELAY)] [])) _
    refine XS.aloadN X0.here hx rfl (hb hby d16_0) rfl rfl ?_
    refine XS.aloadN X0.here hx rfl (hb hby d16_1) rfl rfl ?_
    refine st1 _ ?_
    refine XS.aloadN X1.here hx rfl (hb hby d16_5) rfl rfl ?_
    refine XS.aloadN X1.here hx rfl (hb hby d16_6) rfl rfl ?_
    refine st5 _ ?_
    refine XS.aloadN X5.here hx rfl (hb hby d16_10) rfl rfl ?_
    refine XS.dup X5.here hx rfl (hb hby d16_11) rfl rfl ?_
    show Steps p.tables e below (T5.setTop (mkF m 12 #[(vr a1), (vr a2), (vr wMAX_LOCK_DELAY)] [(.ref a1), (.ref a1)])) _
    refine st8 _ ?_
    refine XS.lconst X8.here hx rfl (hb hby d16_15) ?_
    refine XS.ladd X8.here hx rfl (hb hby d16_16) rfl ?_
    refine st10 _ ?_
    exact X10.returnOut hx hret0 (hb hby d16_20) hr
  · show Q_au16_1 Z wMAX_LOCK_DELAY wGRANTED wQUEUED wZERO a1 a2 q3 a4 h0 n0 _ T10.heap _
    rw [e10]
    exact ⟨rfl, N10, K11, f12, Fw10, f13, f14, f15, f16⟩
def Q_au14_1 (Z : State) (wMAX_LOCK_DELAY : Addr) (wGRANTED : Addr) (wQUEUED : Addr) (wZERO : Addr) (a1 : Addr) (a2 : Addr) (qg3 : Int64) (a4 : Addr) (h0 : Heap) (n0 : Nat) (v : Option Value) (h : Heap) (L : List Loc) : Prop := v = some (.ref wGRANTED) ∧ Fr n0 L ∧ Keep h0 h [a1] ∧ Exa Z h a1 s4n ∧ Fld Z h a1 s4n "generation" "J" (.long (qg3 + (1 : Int64))) ∧ Fld Z h a1 s4n "heldBack" "Z" (.int 0) ∧ Fld Z h a1 s4n "holder" s9n (.ref a2) ∧ Fld Z h a1 s4n s10n s0n (.ref wMAX_LOCK_DELAY) ∧ Fld Z h a1 s4n "waiters" s11n (.ref a4)
theorem au14_1 (l : Launch) (Z : State) (a0 : Array Value) (hw : ∀ d ∈ tables_1, d.before a0 Z = true) (ws : List Jvm.Cond) (wMAX_LOCK_DELAY : Addr) (wGRANTED : Addr) (wQUEUED : Addr) (wZERO : Addr) (hS : SS Z wMAX_LOCK_DELAY wGRANTED wQUEUED wZERO) (a1 : Addr) (a2 : Addr) (qg3 : Int64) (a4 : Addr) (h0 : Heap) (n0 : Nat) (O0 : Old Z n0 h0) (P0 : Exa Z h0 a1 s4n) (P1 : Fld Z h0 a1 s4n "generation" "J" (.long qg3)) (P2 : Fld Z h0 a1 s4n "heldBack" "Z" (.int 0)) (P3 : Fld Z h0 a1 s4n "holder" s9n .null) (P4 : Fld Z h0 a1 s4n s10n s0n (.ref wZERO)) (P5 : Fld Z h0 a1 s4n "waiters" s11n (.ref a4)) (P6 : Exa Z h0 a2 s3n) (P16 : n0 ≤ a1) :
    MetB l M16 prog_84_method_3_code 5 (some (.object s2n)) ws (rmk 1 0 0 14) Z h0 #[(.ref a1), (.ref a2), (.ref wMAX_LOCK_DELAY), (.int 0)] (Q_au14_1 Z wMAX_LOCK_DELAY wGRANTED wQUEUED wZERO a1 a2 qg3 a4 h0 n0) := by
  refine own_body (plainFor_of_name pn_com_example_umpired_umpired_server_NodeLock) ?_
  intro p e s m below meth c s₁ hx hby hml hown hnm hret0 hlk0 hZ X0 e0
  have N0 := Fr.nil n0
  have pre0 : ∀ t, Steps p.tables e below (s₁.setTop (mkF m 0 #[(vr a1), (vr a2), (vr wMAX_LOCK_DELAY), (vi 0), .unset] [])) t → Steps p.tables e below (s₁.setTop (entryFrame m #[(.ref a1), (.ref a2), (.ref wMAX_LOCK_DELAY), (.int 0)] 5)) t := fun t k => castTop (ef_au14_1 m a1 a2 wMAX_LOCK_DELAY (0 : Int32)) k
  have K0 := Keep.refl h0 [a1]
  have hS0 := hS
  obtain ⟨S_wMAX_LOCK_DELAY, E_wMAX_LOCK_DELAY, S_wGRANTED, E_wGRANTED, S_wQUEUED, E_wQUEUED, F_seconds_wMAX_LOCK_DELAY, F_nanos_wMAX_LOCK_DELAY, S_wZERO, E_wZERO, F_seconds_wZERO, F_nanos_wZERO⟩ := hS0
  obtain ⟨T1, X1, e1, st1⟩ := getF X0 hx hZ hown (host := "") (Or.inl (ow hw 109 rfl)) Via.refl e0 P3 (g := (mkF m 2 #[(vr a1), (vr a2), (vr wMAX_LOCK_DELAY), (vi 0), .unset] [(.ref a1), (.ref a2)])) rfl rfl (hb hby d14_2)
  obtain ⟨cq2, kq2, q2a, q2b, q2c⟩ := isOf hZ e1 P6
  obtain ⟨_, _, ⟨T2, L2, k2, n2⟩, -, X2, ⟨Lc2, hQ2, l2, y2, z2⟩, st2⟩ := X1.virtualBack hx (y := M0) (z := M0) hown (mvT hZ (ow hw 119 rfl)) (mvT hZ (ow hw 120 rfl)) (notFace_of_selects (args := #[]) (mvT hZ (ow hw 122 rfl))) (mvT hZ (ow hw 122 rfl)) (mvT hZ (ow hw 121 rfl)) (by decide) (backOf (W := 0) (rmEqN l Z a0 hw [] wMAX_LOCK_DELAY wGRANTED wQUEUED wZERO hS a2 h0 n0 O0 ) hZ (ow hw 123 rfl) (ow hw 35 rfl) (by decide) (by decide)) q2a q2c (g := (mkF m 5 #[(vr a1), (vr a2), (vr wMAX_LOCK_DELAY), (vi 0), .unset] [.null, (.ref a2)])) rfl (by rw [hml]; rfl) (Steps.refl _) (argsL := [.null]) (rest := []) (lenOf pd_9 rfl) rfl (by show 2 * 0 + _ ≤ _; exact Nat.le_of_eq rfl) (hb hby d14_5) (fun _ _ => ⟨rfl, e1, (by decide : 0 + 0 ≤ _), (by decide : 0 + 0 ≤ _)⟩)
  dsimp only [Pt.U, Pt.locs, Pt.cells, Pt.slots] at X2 l2 y2 z2 st2 hQ2
  subst l2 y2 z2
  obtain ⟨rfl, Nq2, K2q⟩ := hQ2
  have N2 := Fr.app N0 Nq2
  obtain ⟨T3, X3, e3, st3⟩ := getF X2 hx hZ hown (host := "") (Or.inl (ow hw 109 rfl)) Via.refl K2q P3 (g := (mkF m 20 #[(vr a1), (vr a2), (vr wMAX_LOCK_DELAY), (vi 0), .unset] [(.ref a1)])) rfl rfl (hb hby d14_20)
  obtain ⟨T4, X4, e4, st4⟩ := getF X3 hx hZ hown (host := "") (Or.inl (ow hw 50 rfl)) Via.refl e3 P2 (g := (mkF m 27 #[(vr a1), (vr a2), (vr wMAX_LOCK_DELAY), (vi 0), .unset] [(.ref a1)])) rfl rfl (hb hby d14_27)
  obtain ⟨cq5, q5, q5'⟩ := P0.cell
  obtain ⟨_, _, ⟨T5, L5, k5, n5⟩, -, X5, ⟨Lc5, hQ5, l5, y5, z5⟩, st5⟩ := X4.privateBack hx (y := M15) hown (mvT hZ (ow hw 124 rfl)) (mvT hZ (ow hw 125 rfl)) (own_selp (mvT hZ (ow hw 2 rfl)) (mvP hZ (ow hw 126 rfl)) (mvT hZ (ow hw 125 rfl)) (by decide)) (Cond.privateMethod_at (mvP hZ (ow hw 126 rfl) (args := #[]))) (mvT hZ (ow hw 127 rfl)) (by decide) (backOf (W := 0) (au16_1 l Z a0 hw [] wMAX_LOCK_DELAY wGRANTED wQUEUED wZERO hS a1 a2 qg3 a4 h0 n0 O0 P0 P1 P2 P3 P4 P5 P16) hZ (ow hw 127 rfl) (ow hw 3 rfl) (by decide) (by decide)) (g := (mkF m 36 #[(vr a1), (vr a2), (vr wMAX_LOCK_DELAY), (vi 0), .unset] [(.ref wMAX_LOCK_DELAY), (.ref a2), (.ref a1)])) rfl (by rw [hml]; rfl) (Steps.refl _) (a := a1) (by rw [e4]; exact q5) q5' (argsL := [(.ref a2), (.ref wMAX_LOCK_DELAY)]) (rest := []) (lenOf pd_10 rfl) rfl (by show 2 * 0 + _ ≤ _; exact Nat.le_of_eq rfl) (hb hby d14_36) (fun _ _ => ⟨rfl, e4, (by decide : 0 + 0 ≤ _), (by decide : 0 + 0 ≤ _)⟩)
  dsimp only [Pt.U, Pt.locs, Pt.cells, Pt.slots] at X5 l5 y5 z5 st5 hQ5
  subst l5 y5 z5
  obtain ⟨rfl, Nq5, K5q, p5_0, p5_1, p5_2, p5_3, p5_4, p5_5⟩ := hQ5
  have N5 := Fr.app N2 Nq5
  have O6 : Old Z n0 T5.heap := O0.keep K5q (allS P16 all0)
  have K6 : Keep h0 T5.heap [a1] := K0.trans K5q (allS (Or.inl (List.mem_of_getElem? (i := 0) rfl)) all0)
  obtain ⟨T7, X7, e7, st7⟩ := getS2 X5 hx hZ hown (host := "") (Or.inl (ow hw 130 rfl)) Via.refl rfl (S_wGRANTED.ext O6.2) (g := (mkF m 39 #[(vr a1), (vr a2), (vr wMAX_LOCK_DELAY), (vi 0), .unset] [])) rfl (hb hby d14_39)
  obtain ⟨fs, hr, hrun, hended, hW, hsame⟩ := X7.leave (v := some (.ref wGRANTED)) (fun h => by rw [hret0] at h; cases h)
  refine ⟨_, _, pre0 _ ?_, hrun, hended, _, _, rfl, ?_, ⟨_, rfl⟩, hW, hsame.mono (by decide) (by decide)⟩
  · skip
    show Steps p.tables e below (s₁.setTop (mkF m 0 #[(vr a1), (vr a2), (vr wMAX_LOCK_DELAY), (vi 0), .unset] [])) _
    refine XS.aloadN X0.here hx rfl (hb hby d14_0) rfl rfl ?_
    refine XS.aloadN X0.here hx rfl (hb hby d14_1) rfl rfl ?_
    refine st1 _ ?_
    refine st2.trans ?_
    refine XS.ifYes X2.here hx rfl (pc0 := 8) (pc' := 19) rfl (hb hby d14_8) rfl ((if0 _ _).trans (teq (by decide : (0 : Int32) = (0 : Int32))).1) (by decide) (by decide) ?_
    refine XS.aloadN X2.here hx rfl (hb hby d14_19) rfl rfl ?_
    refine st3 _ ?_
    refine XS.ifnonnullNo X3.here hx rfl (hb hby d14_23) rfl ?_
    show Steps p.tables e below (T3.setTop (mkF m 26 #[(vr a1), (vr a2), (vr wMAX_LOCK_DELAY), (vi 0), .unset] [])) _
    refine XS.aloadN X3.here hx rfl (hb hby d14_26) rfl rfl ?_
    refine st4 _ ?_
    refine XS.ifNo X4.here hx rfl (hb hby d14_30) rfl ((if0 _ _).trans (teq (by decide : (0 : Int32) = (0 : Int32))).2) ?_
    refine XS.aloadN X4.here hx rfl (hb hby d14_33) rfl rfl ?_
    refine XS.aloadN X4.here hx rfl (hb hby d14_34) rfl rfl ?_
    refine XS.aloadN X4.here hx rfl (hb hby d14_35) rfl rfl ?_
    refine st5.trans ?_
    refine st7 _ ?_
    show Steps p.tables e below (T7.setTop (mkF m 42 #[(vr a1), (vr a2), (vr wMAX_LOCK_DELAY), (vi 0), .unset] [(.ref wGRANTED)])) _
    refine XS.astore X7.here hx rfl (hb hby d14_42) rfl rfl (l' := #[(vr a1), (vr a2), (vr wMAX_LOCK_DELAY), (vi 0), (vr wGRANTED)]) rfl ?_
    refine XS.goto X7.here hx rfl (pc0 := 44) (pc' := 91) rfl (hb hby d14_44) (by decide) (by decide) ?_
    refine XS.aload X7.here hx rfl (hb hby d14_91) rfl rfl ?_
    jvm_step X7.here [X7.here.top, hx, (hb hby d14_93), X7.method', hret0, Value.isRef, FieldType.isReference]
    first | (intro acts; rw [hr _ acts rfl rfl rfl]) | rw [hr _ _ rfl rfl rfl]
    exact Steps.refl _
  · show Q_au14_1 Z wMAX_LOCK_DELAY wGRANTED wQUEUED wZERO a1 a2 qg3 a4 h0 n0 _ T7.heap _
    rw [e7]
    exact ⟨rfl, N5, K6, p5_0, p5_1, p5_2, p5_3, p5_4, p5_5⟩
theorem tl_tl_rm0_a_w_33 {p : Program} {l : Launch} {e : Env} {s : State} {m : MethodId} {below : List Frame} {meth : Method} {c : Code} {T0 : State} {locs : List Loc} {Z : State} {a0 : Array Value} {h0 : Heap} {n0 : Nat} {margs : Array Value} (hw : ∀ d ∈ tables_1, d.before a0 Z = true) (wMAX_LOCK_DELAY : Addr) (wGRANTED : Addr) (wQUEUED : Addr) (wZERO : Addr) (hS : SS Z wMAX_LOCK_DELAY wGRANTED wQUEUED wZERO) (p1 : Int32) (q2 : Int64) (q3 : Int64) (q4 : Int64) (p5 : Int32) (p6 : Int32) (p7 : Int32) (p8 : Int32) (q9 : Int64) (q10 : Int64) (q11 : Int64) (a12 : Addr) (a13 : Addr) (a14 : Addr) (a15 : Addr) (a16 : Addr) (k17 : ClassId)
    (X0 : Stand p l e room_1 s m margs below meth c T0 locs 5 29) (hx : p.tables.exec = Jvm.exec) (hZ : Z.Warmed39 s.vm) (hby : c.code = code) (hml : c.maxLocals = 33) (hown : s.vm.findClass s5n = some m.cls) (hnm : meth.name = "law") (hret0 : meth.sig.returnType = some .boolean) (hlk0 : meth.locks = false) (e0 : T0.heap = h0) (N0 : Fr n0 locs) (O0 : Old Z n0 h0) (P0 : Exa Z h0 a12 s4n) (P1 : Fld Z h0 a12 s4n "generation" "J" (.long 1)) (P2 : Fld Z h0 a12 s4n "heldBack" "Z" (.int 0)) (P3 : Fld Z h0 a12 s4n "holder" s9n (.ref a13)) (P4 : Fld Z h0 a12 s4n s10n s0n (.ref wMAX_LOCK_DELAY)) (P5 : Fld Z h0 a12 s4n "waiters" s11n (.ref a15)) (P6 : Exa Z h0 a13 s3n) (P8 : Fld Z h0 a13 s3n "session" "J" (.long q2)) (P12 : Exa Z h0 a15 s6n) (P13 : Fld Z h0 a15 s6n "elements" s7n (.ref a16)) (P14 : Fld Z h0 a15 s6n "head" "I" (.int 0)) (P15 : Fld Z h0 a15 s6n "tail" "I" (.int 0)) (P16 : Arv Z h0 a16 k17 (.object s8n) (17 : Int32) ([.null, .null, .null, .null, .null, .null, .null, .null, .null, .null, .null, .null, .null, .null, .null, .null, .null]) .null) (P26 : p5 = (0 : Int32) ∨ p5 = (1 : Int32)) (P27 : n0 ≤ a12) (P34 : a12 ≠ a15) (P35 : a12 ≠ a16) :
    ∃ s₂ o, Steps p.tables e below (T0.setTop (mkF m 192 #[(vi p1), (vl q2), .second, (vl q3), .second, (vl q4), .second, (vi 1), (vi 0), (vi p5), (vi p6), (vi p7), (vi p8), (vl q9), .second, (vl q10), .second, (vl q11), .second, (vr a12), (vr a13), (vr a14), .unset, .unset, .unset, .unset, .unset, .unset, .unset, .unset, .unset, .unset, .unset] [])) s₂ ∧ s₂.status = .running ∧ Ended s₂ below o ∧ ∃ v L, o = .returned v ∧ (v = some (.int 1) ∧ Fr n0 L) ∧ FrameEnd s o s₂ L room_1.cells room_1.slots := by
  have pre0 : ∀ t, Steps p.tables e below (T0.setTop (mkF m 192 #[(vi p1), (vl q2), .second, (vl q3), .second, (vl q4), .second, (vi 1), (vi 0), (vi p5), (vi p6), (vi p7), (vi p8), (vl q9), .second, (vl q10), .second, (vl q11), .second, (vr a12), (vr a13), (vr a14), .unset, .unset, .unset, .unset, .unset, .unset, .unset, .unset, .unset, .unset, .unset] [])) t → Steps p.tables e below (T0.setTop (mkF m 192 #[(vi p1), (vl q2), .second, (vl q3), .second, (vl q4), .second, (vi 1), (vi 0), (vi p5), (vi p6), (vi p7), (vi p8), (vl q9), .second, (vl q10), .second, (vl q11), .second, (vr a12), (vr a13), (vr a14), .unset, .unset, .unset, .unset, .unset, .unset, .unset, .unset, .unset, .unset, .unset] [])) t := fun t k => k
  have hS0 := hS
  obtain ⟨S_wMAX_LOCK_DELAY, E_wMAX_LOCK_DELAY, S_wGRANTED, E_wGRANTED, S_wQUEUED, E_wQUEUED, F_seconds_wMAX_LOCK_DELAY, F_nanos_wMAX_LOCK_DELAY, S_wZERO, E_wZERO, F_seconds_wZERO, F_nanos_wZERO⟩ := hS0
  obtain ⟨cq1, kq1, q1a, q1b, q1c⟩ := isOf hZ e0 P0
  obtain ⟨_, _, ⟨T1, L1, k1, n1⟩, -, X1, ⟨Lc1, hQ1, l1, y1, z1⟩, st1⟩ := X0.virtualBack hx (y := M1) (z := M1) hown (mvT hZ (ow hw 45 rfl)) (mvT hZ (ow hw 46 rfl)) (notFace_of_selects (args := #[]) (mvT hZ (ow hw 48 rfl))) (mvT hZ (ow hw 48 rfl)) (mvT hZ (ow hw 47 rfl)) (by decide) (backOf (W := 0) (rmHB0 l Z a0 hw [] wMAX_LOCK_DELAY wGRANTED wQUEUED wZERO hS a12 q11 h0 n0 O0 P2) hZ (ow hw 49 rfl) (ow hw 3 rfl) (by decide) (by decide)) q1a q1c (g := (mkF m 196 #[(vi p1), (vl q2), .second, (vl q3), .second, (vl q4), .second, (vi 1), (vi 0), (vi p5), (vi p6), (vi p7), (vi p8), (vl q9), .second, (vl q10), .second, (vl q11), .second, (vr a12), (vr a13), (vr a14), .unset, .unset, .unset, .unset, .unset, .unset, .unset, .unset, .unset, .unset, .unset] [(.long q11), (.ref a12)])) rfl (by rw [hml]; rfl) (Steps.refl _) (argsL := [(.long q11)]) (rest := []) (lenOf pd_2 rfl) rfl (by show 2 * 0 + _ ≤ _; exact Nat.le_of_eq rfl) (hb hby at_196) (fun _ _ => ⟨rfl, e0, (by decide : 5 + 0 ≤ _), (by decide : 29 + 0 ≤ _)⟩)
  dsimp only [Pt.U, Pt.locs, Pt.cells, Pt.slots] at X1 l1 y1 z1 st1 hQ1
  subst l1 y1 z1
  obtain ⟨rfl, Nq1, K1q⟩ := hQ1
  have N1 := Fr.app N0 Nq1
  have pre2 : ∀ t, Steps p.tables e below (T1.setTop (mkF m 201 #[(vi p1), (vl q2), .second, (vl q3), .second, (vl q4), .second, (vi 1), (vi 0), (vi p5), (vi p6), (vi p7), (vi p8), (vl q9), .second, (vl q10), .second, (vl q11), .second, (vr a12), (vr a13), (vr a14), (vi 0), .unset, .unset, .unset, .unset, .unset, .unset, .unset, .unset, .unset, .unset] [])) t → Steps p.tables e below (T0.setTop (mkF m 192 #[(vi p1), (vl q2), .second, (vl q3), .second, (vl q4), .second, (vi 1), (vi 0), (vi p5), (vi p6), (vi p7), (vi p8), (vl q9), .second, (vl q10), .second, (vl q11), .second, (vr a12), (vr a13), (vr a14), .unset, .unset, .unset, .unset, .unset, .unset, .unset, .unset, .unset, .unset, .unset] [])) t := by
    intro t k
    refine pre0 t ?_
    show Steps p.tables e below (T0.setTop (mkF m 192 #[(vi p1), (vl q2), .second, (vl q3), .second, (vl q4), .second, (vi 1), (vi 0), (vi p5), (vi p6), (vi p7), (vi p8), (vl q9), .second, (vl q10), .second, (vl q11), .second, (vr a12), (vr a13), (vr a14), .unset, .unset, .unset, .unset, .unset, .unset, .unset, .unset, .unset, .unset, .unset] [])) _
    refine XS.aload X0.here hx rfl (hb hby at_192) rfl rfl ?_
    refine XS.lload X0.here hx rfl (hb hby at_194) rfl ?_
    refine st1.trans ?_
    refine XS.istore X1.here hx rfl (hb hby at_199) rfl (l' := #[(vi p1), (vl q2), .second, (vl q3), .second, (vl q4), .second, (vi 1), (vi 0), (vi p5), (vi p6), (vi p7), (vi p8), (vl q9), .second, (vl q10), .second, (vl q11), .second, (vr a12), (vr a13), (vr a14), (vi 0), .unset, .unset, .unset, .unset, .unset, .unset, .unset, .unset, .unset, .unset]) rfl ?_
    exact k
  rcases (id (P26)) with hk3 | hk3
  · skip
    have pre4 : ∀ t, Steps p.tables e below (T1.setTop (mkF m 201 #[(vi p1), (vl q2), .second, (vl q3), .second, (vl q4), .second, (vi 1), (vi 0), (vi 0), (vi p6), (vi p7), (vi p8), (vl q9), .second, (vl q10), .second, (vl q11), .second, (vr a12), (vr a13), (vr a14), (vi 0), .unset, .unset, .unset, .unset, .unset, .unset, .unset, .unset, .unset, .unset] [])) t → Steps p.tables e below (T0.setTop (mkF m 192 #[(vi p1), (vl q2), .second, (vl q3), .second, (vl q4), .second, (vi 1), (vi 0), (vi p5), (vi p6), (vi p7), (vi p8), (vl q9), .second, (vl q10), .second, (vl q11), .second, (vr a12), (vr a13), (vr a14), .unset, .unset, .unset, .unset, .unset, .unset, .unset, .unset, .unset, .unset, .unset] [])) t := by
      intro t k
      refine pre2 t ?_
      rw [hk3]
      exact k
    rcases Decidable.em (q2 = q10) with hq5 | hq5
    · skip
      obtain ⟨cq6, kq6, q6a, q6b, q6c⟩ := isOf hZ K1q P0
      obtain ⟨_, _, ⟨T6, L6, k6, n6⟩, -, X6, ⟨Lc6, hQ6, l6, y6, z6⟩, st6⟩ := X1.virtualBack hx (y := M12) (z := M12) hown (mvT hZ (ow hw 52 rfl)) (mvT hZ (ow hw 53 rfl)) (notFace_of_selects (args := #[]) (mvT hZ (ow hw 55 rfl))) (mvT hZ (ow hw 55 rfl)) (mvT hZ (ow hw 54 rfl)) (by decide) (backOf (W := 0) (au7_2 l Z a0 hw [] wMAX_LOCK_DELAY wGRANTED wQUEUED wZERO hS a12 q10 (1 : Int64) a13 a15 q2 a16 k17 h0 n0 O0 P0 P1 P2 P3 P4 P5 P6 P8 P12 P13 P14 P15 P16 hq5 P27 P34 P35) hZ (ow hw 56 rfl) (ow hw 3 rfl) (by decide) (by decide)) q6a q6c (g := (mkF m 207 #[(vi p1), (vl q2), .second, (vl q3), .second, (vl q4), .second, (vi 1), (vi 0), (vi 0), (vi p6), (vi p7), (vi p8), (vl q9), .second, (vl q10), .second, (vl q11), .second, (vr a12), (vr a13), (vr a14), (vi 0), .unset, .unset, .unset, .unset, .unset, .unset, .unset, .unset, .unset, .unset] [(.int 0), (.long q10), (.ref a12)])) rfl (by rw [hml]; rfl) (Steps.refl _) (argsL := [(.long q10), (.int 0)]) (rest := []) (lenOf pd_8 rfl) rfl (by show 2 * 0 + _ ≤ _; exact Nat.le_of_eq rfl) (hb hby at_207) (fun _ _ => ⟨rfl, K1q, (by decide : 5 + 1 ≤ _), (by decide : 29 + 4 ≤ _)⟩)
      dsimp only [Pt.U, Pt.locs, Pt.cells, Pt.slots] at X6 l6 y6 z6 st6 hQ6
      subst l6 y6 z6
      obtain ⟨rfl, Nq6, K6q, p6_0, p6_1, p6_2, p6_3, p6_4, p6_5⟩ := hQ6
      have N6 := Fr.app N1 Nq6
      have O7 : Old Z n0 T6.heap := O0.keep K6q (allS P27 all0)
      obtain ⟨cq8, kq8, q8a, q8b, q8c⟩ := isOf hZ rfl p6_0
      obtain ⟨_, _, ⟨T8, L8, k8, n8⟩, -, X8, ⟨Lc8, hQ8, l8, y8, z8⟩, st8⟩ := X6.virtualBack hx (y := M1) (z := M1) hown (mvT hZ (ow hw 45 rfl)) (mvT hZ (ow hw 46 rfl)) (notFace_of_selects (args := #[]) (mvT hZ (ow hw 48 rfl))) (mvT hZ (ow hw 48 rfl)) (mvT hZ (ow hw 47 rfl)) (by decide) (backOf (W := 0) (rmHB0 l Z a0 hw [] wMAX_LOCK_DELAY wGRANTED wQUEUED wZERO hS a12 q11 T6.heap n0 O7 p6_2) hZ (ow hw 49 rfl) (ow hw 3 rfl) (by decide) (by decide)) q8a q8c (g := (mkF m 215 #[(vi p1), (vl q2), .second, (vl q3), .second, (vl q4), .second, (vi 1), (vi 0), (vi 0), (vi p6), (vi p7), (vi p8), (vl q9), .second, (vl q10), .second, (vl q11), .second, (vr a12), (vr a13), (vr a14), (vi 0), .unset, .unset, .unset, .unset, .unset, .unset, .unset, .unset, .unset, .unset] [(.long q11), (.ref a12)])) rfl (by rw [hml]; rfl) (Steps.refl _) (argsL := [(.long q11)]) (rest := []) (lenOf pd_2 rfl) rfl (by show 2 * 0 + _ ≤ _; exact Nat.le_of_eq rfl) (hb hby at_215) (fun _ _ => ⟨rfl, rfl, (by decide : 6 + 0 ≤ _), (by decide : 33 + 0 ≤ _)⟩)
      dsimp only [Pt.U, Pt.locs, Pt.cells, Pt.slots] at X8 l8 y8 z8 st8 hQ8
      subst l8 y8 z8
      obtain ⟨rfl, Nq8, K8q⟩ := hQ8
      have N8 := Fr.app N6 Nq8
      have pre9 : ∀ t, Steps p.tables e below (T8.setTop (mkF m 220 #[(vi p1), (vl q2), .second, (vl q3), .second, (vl q4), .second, (vi 1), (vi 0), (vi 0), (vi p6), (vi p7), (vi p8), (vl q9), .second, (vl q10), .second, (vl q11), .second, (vr a12), (vr a13), (vr a14), (vi 0), (vi 0), .unset, .unset, .unset, .unset, .unset, .unset, .unset, .unset, .unset] [])) t → Steps p.tables e below (T0.setTop (mkF m 192 #[(vi p1), (vl q2), .second, (vl q3), .second, (vl q4), .second, (vi 1), (vi 0), (vi p5), (vi p6), (vi p7), (vi p8), (vl q9), .second, (vl q10), .second, (vl q11), .second, (vr a12), (vr a13), (vr a14), .unset, .unset, .unset, .unset, .unset, .unset, .unset, .unset, .unset, .unset, .unset] [])) t := by
        intro t k
        refine pre4 t ?_
        show Steps p.tables e below (T1.setTop (mkF m 201 #[(vi p1), (vl q2), .second, (vl q3), .second, (vl q4), .second, (vi 1), (vi 0), (vi 0), (vi p6), (vi p7), (vi p8), (vl q9), .second, (vl q10), .second, (vl q11), .second, (vr a12), (vr a13), (vr a14), (vi 0), .unset, .unset, .unset, .unset, .unset, .unset, .unset, .unset, .unset, .unset] [])) _
        refine XS.aload X1.here hx rfl (hb hby at_201) rfl rfl ?_
        refine XS.lload X1.here hx rfl (hb hby at_203) rfl ?_
        refine XS.iload X1.here hx rfl (hb hby at_205) rfl ?_
        refine st6.trans ?_
        refine XS.pop X6.here hx rfl (hb hby at_210) rfl rfl ?_
        refine XS.aload X6.here hx rfl (hb hby at_211) rfl rfl ?_
        refine XS.lload X6.here hx rfl (hb hby at_213) rfl ?_
        refine st8.trans ?_
        show Steps p.tables e below (T8.setTop (mkF m 218 #[(vi p1), (vl q2), .second, (vl q3), .second, (vl q4), .second, (vi 1), (vi 0), (vi 0), (vi p6), (vi p7), (vi p8), (vl q9), .second, (vl q10), .second, (vl q11), .second, (vr a12), (vr a13), (vr a14), (vi 0), .unset, .unset, .unset, .unset, .unset, .unset, .unset, .unset, .unset, .unset] [(.int 0)])) _
        refine XS.istore X8.here hx rfl (hb hby at_218) rfl (l' := #[(vi p1), (vl q2), .second, (vl q3), .second, (vl q4), .second, (vi 1), (vi 0), (vi 0), (vi p6), (vi p7), (vi p8), (vl q9), .second, (vl q10), .second, (vl q11), .second, (vr a12), (vr a13), (vr a14), (vi 0), (vi 0), .unset, .unset, .unset, .unset, .unset, .unset, .unset, .unset, .unset]) rfl ?_
        exact k
      obtain ⟨t9, o9, hs9, hr9⟩ := tl_rm0_f hw wMAX_LOCK_DELAY wGRANTED wQUEUED wZERO hS (1 : Int32) (0 : Int32) (0 : Int32) (0 : Int32) (0 : Int32) p1 q2 q3 q4 p6 p7 p8 q9 q10 q11 a12 a13 a14 (X8.more (by decide) (by decide)) hx hZ hby hml hown hnm hret0 hlk0 K8q N8 O7 (by simp [own_exp, lw_eq, hq5]) rfl
      exact ⟨t9, o9, pre9 _ hs9, hr9⟩
    · skip
      obtain ⟨cq10, kq10, q10a, q10b, q10c⟩ := isOf hZ K1q P0
      obtain ⟨_, _, ⟨T10, L10, k10, n10⟩, -, X10, ⟨Lc10, hQ10, l10, y10, z10⟩, st10⟩ := X1.virtualBack hx (y := M12) (z := M12) hown (mvT hZ (ow hw 52 rfl)) (mvT hZ (ow hw 53 rfl)) (notFace_of_selects (args := #[]) (mvT hZ (ow hw 55 rfl))) (mvT hZ (ow hw 55 rfl)) (mvT hZ (ow hw 54 rfl)) (by decide) (backOf (W := 0) (au7_3 l Z a0 hw [] wMAX_LOCK_DELAY wGRANTED wQUEUED wZERO hS a12 q10 a13 a15 q2 a16 k17 h0 n0 O0 P0 P3 P5 P6 P8 P12 P13 P14 P15 P16 hq5) hZ (ow hw 56 rfl) (ow hw 3 rfl) (by decide) (by decide)) q10a q10c (g := (mkF m 207 #[(vi p1), (vl q2), .second, (vl q3), .second, (vl q4), .second, (vi 1), (vi 0), (vi 0), (vi p6), (vi p7), (vi p8), (vl q9), .second, (vl q10), .second, (vl q11), .second, (vr a12), (vr a13), (vr a14), (vi 0), .unset, .unset, .unset, .unset, .unset, .unset, .unset, .unset, .unset, .unset] [(.int 0), (.long q10), (.ref a12)])) rfl (by rw [hml]; rfl) (Steps.refl _) (argsL := [(.long q10), (.int 0)]) (rest := []) (lenOf pd_8 rfl) rfl (by show 2 * 0 + _ ≤ _; exact Nat.le_of_eq rfl) (hb hby at_207) (fun _ _ => ⟨rfl, K1q, (by decide : 5 + 1 ≤ _), (by decide : 29 + 4 ≤ _)⟩)
      dsimp only [Pt.U, Pt.locs, Pt.cells, Pt.slots] at X10 l10 y10 z10 st10 hQ10
      subst l10 y10 z10
      obtain ⟨rfl, Nq10, K10q⟩ := hQ10
      have N10 := Fr.app N1 Nq10
      have O11 : Old Z n0 T10.heap := O0.keep K10q all0
      have f12 : Fld Z T10.heap a12 s4n "heldBack" "Z" (.int 0) := (P2.keep K10q nin0)
      have f14 : Exa Z T10.heap a12 s4n := (P0.keep K10q)
      obtain ⟨cq13, kq13, q13a, q13b, q13c⟩ := isOf hZ rfl f14
      obtain ⟨_, _, ⟨T13, L13, k13, n13⟩, -, X13, ⟨Lc13, hQ13, l13, y13, z13⟩, st13⟩ := X10.virtualBack hx (y := M1) (z := M1) hown (mvT hZ (ow hw 45 rfl)) (mvT hZ (ow hw 46 rfl)) (notFace_of_selects (args := #[]) (mvT hZ (ow hw 48 rfl))) (mvT hZ (ow hw 48 rfl)) (mvT hZ (ow hw 47 rfl)) (by decide) (backOf (W := 0) (rmHB0 l Z a0 hw [] wMAX_LOCK_DELAY wGRANTED wQUEUED wZERO hS a12 q11 T10.heap n0 O11 f12) hZ (ow hw 49 rfl) (ow hw 3 rfl) (by decide) (by decide)) q13a q13c (g := (mkF m 215 #[(vi p1), (vl q2), .second, (vl q3), .second, (vl q4), .second, (vi 1), (vi 0), (vi 0), (vi p6), (vi p7), (vi p8), (vl q9), .second, (vl q10), .second, (vl q11), .second, (vr a12), (vr a13), (vr a14), (vi 0), .unset, .unset, .unset, .unset, .unset, .unset, .unset, .unset, .unset, .unset] [(.long q11), (.ref a12)])) rfl (by rw [hml]; rfl) (Steps.refl _) (argsL := [(.long q11)]) (rest := []) (lenOf pd_2 rfl) rfl (by show 2 * 0 + _ ≤ _; exact Nat.le_of_eq rfl) (hb hby at_215) (fun _ _ => ⟨rfl, rfl, (by decide : 6 + 0 ≤ _), (by decide : 33 + 0 ≤ _)⟩)
      dsimp only [Pt.U, Pt.locs, Pt.cells, Pt.slots] at X13 l13 y13 z13 st13 hQ13
      subst l13 y13 z13
      obtain ⟨rfl, Nq13, K13q⟩ := hQ13
      have N13 := Fr.app N10 Nq13
      have pre15 : ∀ t, Steps p.tables e below (T13.setTop (mkF m 220 #[(vi p1), (vl q2), .second, (vl q3), .second, (vl q4), .second, (vi 1), (vi 0), (vi 0), (vi p6), (vi p7), (vi p8), (vl q9), .second, (vl q10), .second, (vl q11), .second, (vr a12), (vr a13), (vr a14), (vi 0), (vi 0), .unset, .unset, .unset, .unset, .unset, .unset, .unset, .unset, .unset] [])) t → Steps p.tables e below (T0.setTop (mkF m 192 #[(vi p1), (vl q2), .second, (vl q3), .second, (vl q4), .second, (vi 1), (vi 0), (vi p5), (vi p6), (vi p7), (vi p8), (vl q9), .second, (vl q10), .second, (vl q11), .second, (vr a12), (vr a13), (vr a14), .unset, .unset, .unset, .unset, .unset, .unset, .unset, .unset, .unset, .unset, .unset] [])) t := by
        intro t k
        refine pre4 t ?_
        show Steps p.tables e below (T1.setTop (mkF m 201 #[(vi p1), (vl q2), .second, (vl q3), .second, (vl q4), .second, (vi 1), (vi 0), (vi 0), (vi p6), (vi p7), (vi p8), (vl q9), .second, (vl q10), .second, (vl q11), .second, (vr a12), (vr a13), (vr a14), (vi 0), .unset, .unset, .unset, .unset, .unset, .unset, .unset, .unset, .unset, .unset] [])) _
        refine XS.aload X1.here hx rfl (hb hby at_201) rfl rfl ?_
        refine XS.lload X1.here hx rfl (hb hby at_203) rfl ?_
        refine XS.iload X1.here hx rfl (hb hby at_205) rfl ?_
        refine st10.trans ?_
        refine XS.pop X10.here hx rfl (hb hby at_210) rfl rfl ?_
        refine XS.aload X10.here hx rfl (hb hby at_211) rfl rfl ?_
        refine XS.lload X10.here hx rfl (hb hby at_213) rfl ?_
        refine st13.trans ?_
        show Steps p.tables e below (T13.setTop (mkF m 218 #[(vi p1), (vl q2), .second, (vl q3), .second, (vl q4), .second, (vi 1), (vi 0), (vi 0), (vi p6), (vi p7), (vi p8), (vl q9), .second, (vl q10), .second, (vl q11), .second, (vr a12), (vr a13), (vr a14), (vi 0), .unset, .unset, .unset, .unset, .unset, .unset, .unset, .unset, .unset, .unset] [(.int 0)])) _
        refine XS.istore X13.here hx rfl (hb hby at_218) rfl (l' := #[(vi p1), (vl q2), .second, (vl q3), .second, (vl q4), .second, (vi 1), (vi 0), (vi 0), (vi p6), (vi p7), (vi p8), (vl q9), .second, (vl q10), .second, (vl q11), .second, (vr a12), (vr a13), (vr a14), (vi 0), (vi 0), .unset, .unset, .unset, .unset, .unset, .unset, .unset, .unset, .unset]) rfl ?_
        exact k
      obtain ⟨t9, o9, hs9, hr9⟩ := tl_rm0_f hw wMAX_LOCK_DELAY wGRANTED wQUEUED wZERO hS (1 : Int32) (0 : Int32) (0 : Int32) (0 : Int32) (0 : Int32) p1 q2 q3 q4 p6 p7 p8 q9 q10 q11 a12 a13 a14 (X13.more (by decide) (by decide)) hx hZ hby hml hown hnm hret0 hlk0 K13q N13 O11 (by simp [own_exp, lw_eq, hq5]) rfl
      exact ⟨t9, o9, pre15 _ hs9, hr9⟩
  · skip
    have pre16 : ∀ t, Steps p.tables e below (T1.setTop (mkF m 201 #[(vi p1), (vl q2), .second, (vl q3), .second, (vl q4), .second, (vi 1), (vi 0), (vi 1), (vi p6), (vi p7), (vi p8), (vl q9), .second, (vl q10), .second, (vl q11), .second, (vr a12), (vr a13), (vr a14), (vi 0), .unset, .unset, .unset, .unset, .unset, .unset, .unset, .unset, .unset, .unset] [])) t → Steps p.tables e below (T0.setTop (mkF m 192 #[(vi p1), (vl q2), .second, (vl q3), .second, (vl q4), .second, (vi 1), (vi 0), (vi p5), (vi p6), (vi p7), (vi p8), (vl q9), .second, (vl q10), .second, (vl q11), .second, (vr a12), (vr a13), (vr a14), .unset, .unset, .unset, .unset, .unset, .unset, .unset, .unset, .unset, .unset, .unset] [])) t := by
      intro t k
      refine pre2 t ?_
      rw [hk3]
      exact k
    rcases Decidable.em (q2 = q10) with hq17 | hq17
    · skip
      obtain ⟨cq18, kq18, q18a, q18b, q18c⟩ := isOf hZ K1q P0
      obtain ⟨_, _, ⟨T18, L18, k18, n18⟩, -, X18, ⟨Lc18, hQ18, l18, y18, z18⟩, st18⟩ := X1.virtualBack hx (y := M12) (z := M12) hown (mvT hZ (ow hw 52 rfl)) (mvT hZ (ow hw 53 rfl)) (notFace_of_selects (args := #[]) (mvT hZ (ow hw 55 rfl))) (mvT hZ (ow hw 55 rfl)) (mvT hZ (ow hw 54 rfl)) (by decide) (backOf (W := 0) (au7_4 l Z a0 hw [] wMAX_LOCK_DELAY wGRANTED wQUEUED wZERO hS a12 q10 (1 : Int64) a13 a15 q2 a16 k17 h0 n0 O0 P0 P1 P2 P3 P4 P5 P6 P8 P12 P13 P14 P15 P16 hq17 P27) hZ (ow hw 56 rfl) (ow hw 3 rfl) (by decide) (by decide)) q18a q18c (g := (mkF m 207 #[(vi p1), (vl q2), .second, (vl q3), .second, (vl q4), .second, (vi 1), (vi 0), (vi 1), (vi p6), (vi p7), (vi p8), (vl q9), .second, (vl q10), .second, (vl q11), .second, (vr a12), (vr a13), (vr a14), (vi 0), .unset, .unset, .unset, .unset, .unset, .unset, .unset, .unset, .unset, .unset] [(.int 1), (.long q10), (.ref a12)])) rfl (by rw [hml]; rfl) (Steps.refl _) (argsL := [(.long q10), (.int 1)]) (rest := []) (lenOf pd_8 rfl) rfl (by show 2 * 0 + _ ≤ _; exact Nat.le_of_eq rfl) (hb hby at_207) (fun _ _ => ⟨rfl, K1q, (by decide : 5 + 1 ≤ _), (by decide : 29 + 4 ≤ _)⟩)
      dsimp only [Pt.U, Pt.locs, Pt.cells, Pt.slots] at X18 l18 y18 z18 st18 hQ18
      subst l18 y18 z18
      obtain ⟨rfl, Nq18, K18q, p18_0, p18_1, p18_2, p18_3, p18_4, p18_5⟩ := hQ18
      have N18 := Fr.app N1 Nq18
      have O19 : Old Z n0 T18.heap := O0.keep K18q (allS P27 all0)
      obtain ⟨cq20, kq20, q20a, q20b, q20c⟩ := isOf hZ rfl p18_0
      obtain ⟨_, _, ⟨T20, L20, k20, n20⟩, -, X20, ⟨Lc20, hQ20, l20, y20, z20⟩, st20⟩ := X18.virtualBack hx (y := M1) (z := M1) hown (mvT hZ (ow hw 45 rfl)) (mvT hZ (ow hw 46 rfl)) (notFace_of_selects (args := #[]) (mvT hZ (ow hw 48 rfl))) (mvT hZ (ow hw 48 rfl)) (mvT hZ (ow hw 47 rfl)) (by decide) (backOf (W := 0) (rmHB1 l Z a0 hw [] wMAX_LOCK_DELAY wGRANTED wQUEUED wZERO hS a12 (1 : Int64) q11 T18.heap n0 O19 p18_2 p18_1) hZ (ow hw 49 rfl) (ow hw 3 rfl) (by decide) (by decide)) q20a q20c (g := (mkF m 215 #[(vi p1), (vl q2), .second, (vl q3), .second, (vl q4), .second, (vi 1), (vi 0), (vi 1), (vi p6), (vi p7), (vi p8), (vl q9), .second, (vl q10), .second, (vl q11), .second, (vr a12), (vr a13), (vr a14), (vi 0), .unset, .unset, .unset, .unset, .unset, .unset, .unset, .unset, .unset, .unset] [(.long q11), (.ref a12)])) rfl (by rw [hml]; rfl) (Steps.refl _) (argsL := [(.long q11)]) (rest := []) (lenOf pd_2 rfl) rfl (by show 2 * 0 + _ ≤ _; exact Nat.le_of_eq rfl) (hb hby at_215) (fun _ _ => ⟨rfl, rfl, (by decide : 6 + 0 ≤ _), (by decide : 33 + 0 ≤ _)⟩)
      dsimp only [Pt.U, Pt.locs, Pt.cells, Pt.slots] at X20 l20 y20 z20 st20 hQ20
      subst l20 y20 z20
      obtain ⟨r_20, rfl, Nq20, K20q, p20_0⟩ := hQ20
      have N20 := Fr.app N18 Nq20
      have pre21 : ∀ t, Steps p.tables e below (T20.setTop (mkF m 220 #[(vi p1), (vl q2), .second, (vl q3), .second, (vl q4), .second, (vi 1), (vi 0), (vi 1), (vi p6), (vi p7), (vi p8), (vl q9), .second, (vl q10), .second, (vl q11), .second, (vr a12), (vr a13), (vr a14), (vi 0), (vi r_20), .unset, .unset, .unset, .unset, .unset, .unset, .unset, .unset, .unset] [])) t → Steps p.tables e below (T0.setTop (mkF m 192 #[(vi p1), (vl q2), .second, (vl q3), .second, (vl q4), .second, (vi 1), (vi 0), (vi p5), (vi p6), (vi p7), (vi p8), (vl q9), .second, (vl q10), .second, (vl q11), .second, (vr a12), (vr a13), (vr a14), .unset, .unset, .unset, .unset, .unset, .unset, .unset, .unset, .unset, .unset, .unset] [])) t := by
        intro t k
        refine pre16 t ?_
        show Steps p.tables e below (T1.setTop (mkF m 201 #[(vi p1), (vl q2), .second, (vl q3), .second, (vl q4), .second, (vi 1), (vi 0), (vi 1), (vi p6), (vi p7), (vi p8), (vl q9), .second, (vl q10), .second, (vl q11), .second, (vr a12), (vr a13), (vr a14), (vi 0), .unset, .unset, .unset, .unset, .unset, .unset, .unset, .unset, .unset, .unset] [])) _
        refine XS.aload X1.here hx rfl (hb hby at_201) rfl rfl ?_
        refine XS.lload X1.here hx rfl (hb hby at_203) rfl ?_
        refine XS.iload X1.here hx rfl (hb hby at_205) rfl ?_
        refine st18.trans ?_
        refine XS.pop X18.here hx rfl (hb hby at_210) rfl rfl ?_
        refine XS.aload X18.here hx rfl (hb hby at_211) rfl rfl ?_
        refine XS.lload X18.here hx rfl (hb hby at_213) rfl ?_
        refine st20.trans ?_
        show Steps p.tables e below (T20.setTop (mkF m 218 #[(vi p1), (vl q2), .second, (vl q3), .second, (vl q4), .second, (vi 1), (vi 0), (vi 1), (vi p6), (vi p7), (vi p8), (vl q9), .second, (vl q10), .second, (vl q11), .second, (vr a12), (vr a13), (vr a14), (vi 0), .unset, .unset, .unset, .unset, .unset, .unset, .unset, .unset, .unset, .unset] [(.int r_20)])) _
        refine XS.istore X20.here hx rfl (hb hby at_218) rfl (l' := #[(vi p1), (vl q2), .second, (vl q3), .second, (vl q4), .second, (vi 1), (vi 0), (vi 1), (vi p6), (vi p7), (vi p8), (vl q9), .second, (vl q10), .second, (vl q11), .second, (vr a12), (vr a13), (vr a14), (vi 0), (vi r_20), .unset, .unset, .unset, .unset, .unset, .unset, .unset, .unset, .unset]) rfl ?_
        exact k
      obtain ⟨t9, o9, hs9, hr9⟩ := tl_rm0_f hw wMAX_LOCK_DELAY wGRANTED wQUEUED wZERO hS (1 : Int32) (0 : Int32) (1 : Int32) (0 : Int32) r_20 p1 q2 q3 q4 p6 p7 p8 q9 q10 q11 a12 a13 a14 (X20.more (by decide) (by decide)) hx hZ hby hml hown hnm hret0 hlk0 K20q N20 O19 (by simp [own_exp, lw_eq, hq17, p20_0]) rfl
      exact ⟨t9, o9, pre21 _ hs9, hr9⟩
    · skip
      obtain ⟨cq22, kq22, q22a, q22b, q22c⟩ := isOf hZ K1q P0
      obtain ⟨_, _, ⟨T22, L22, k22, n22⟩, -, X22, ⟨Lc22, hQ22, l22, y22, z22⟩, st22⟩ := X1.virtualBack hx (y := M12) (z := M12) hown (mvT hZ (ow hw 52 rfl)) (mvT hZ (ow hw 53 rfl)) (notFace_of_selects (args := #[]) (mvT hZ (ow hw 55 rfl))) (mvT hZ (ow hw 55 rfl)) (mvT hZ (ow hw 54 rfl)) (by decide) (backOf (W := 0) (au7_5 l Z a0 hw [] wMAX_LOCK_DELAY wGRANTED wQUEUED wZERO hS a12 q10 a13 a15 q2 a16 k17 h0 n0 O0 P0 P3 P5 P6 P8 P12 P13 P14 P15 P16 hq17) hZ (ow hw 56 rfl) (ow hw 3 rfl) (by decide) (by decide)) q22a q22c (g := (mkF m 207 #[(vi p1), (vl q2), .second, (vl q3), .second, (vl q4), .second, (vi 1), (vi 0), (vi 1), (vi p6), (vi p7), (vi p8), (vl q9), .second, (vl q10), .second, (vl q11), .second, (vr a12), (vr a13), (vr a14), (vi 0), .unset, .unset, .unset, .unset, .unset, .unset, .unset, .unset, .unset, .unset] [(.int 1), (.long q10), (.ref a12)])) rfl (by rw [hml]; rfl) (Steps.refl _) (argsL := [(.long q10), (.int 1)]) (rest := []) (lenOf pd_8 rfl) rfl (by show 2 * 0 + _ ≤ _; exact Nat.le_of_eq rfl) (hb hby at_207) (fun _ _ => ⟨rfl, K1q, (by decide : 5 + 1 ≤ _), (by decide : 29 + 4 ≤ _)⟩)
      dsimp only [Pt.U, Pt.locs, Pt.cells, Pt.slots] at X22 l22 y22 z22 st22 hQ22
      subst l22 y22 z22
      obtain ⟨rfl, Nq22, K22q⟩ := hQ22
      have N22 := Fr.app N1 Nq22
      have O23 : Old Z n0 T22.heap := O0.keep K22q all0
      have f24 : Fld Z T22.heap a12 s4n "heldBack" "Z" (.int 0) := (P2.keep K22q nin0)
      have f26 : Exa Z T22.heap a12 s4n := (P0.keep K22q)
      obtain ⟨cq25, kq25, q25a, q25b, q25c⟩ := isOf hZ rfl f26
      obtain ⟨_, _, ⟨T25, L25, k25, n25⟩, -, X25, ⟨Lc25, hQ25, l25, y25, z25⟩, st25⟩ := X22.virtualBack hx (y := M1) (z := M1) hown (mvT hZ (ow hw 45 rfl)) (mvT hZ (ow hw 46 rfl)) (notFace_of_selects (args := #[]) (mvT hZ (ow hw 48 rfl))) (mvT hZ (ow hw 48 rfl)) (mvT hZ (ow hw 47 rfl)) (by decide) (backOf (W := 0) (rmHB0 l Z a0 hw [] wMAX_LOCK_DELAY wGRANTED wQUEUED wZERO hS a12 q11 T22.heap n0 O23 f24) hZ (ow hw 49 rfl) (ow hw 3 rfl) (by decide) (by decide)) q25a q25c (g := (mkF m 215 #[(vi p1), (vl q2), .second, (vl q3), .second, (vl q4), .second, (vi 1), (vi 0), (vi 1), (vi p6), (vi p7), (vi p8), (vl q9), .second, (vl q10), .second, (vl q11), .second, (vr a12), (vr a13), (vr a14), (vi 0), .unset, .unset, .unset, .unset, .unset, .unset, .unset, .unset, .unset, .unset] [(.long q11), (.ref a12)])) rfl (by rw [hml]; rfl) (Steps.refl _) (argsL := [(.long q11)]) (rest := []) (lenOf pd_2 rfl) rfl (by show 2 * 0 + _ ≤ _; exact Nat.le_of_eq rfl) (hb hby at_215) (fun _ _ => ⟨rfl, rfl, (by decide : 6 + 0 ≤ _), (by decide : 33 + 0 ≤ _)⟩)
      dsimp only [Pt.U, Pt.locs, Pt.cells, Pt.slots] at X25 l25 y25 z25 st25 hQ25
      subst l25 y25 z25
      obtain ⟨rfl, Nq25, K25q⟩ := hQ25
      have N25 := Fr.app N22 Nq25
      have pre27 : ∀ t, Steps p.tables e below (T25.setTop (mkF m 220 #[(vi p1), (vl q2), .second, (vl q3), .second, (vl q4), .second, (vi 1), (vi 0), (vi 1), (vi p6), (vi p7), (vi p8), (vl q9), .second, (vl q10), .second, (vl q11), .second, (vr a12), (vr a13), (vr a14), (vi 0), (vi 0), .unset, .unset, .unset, .unset, .unset, .unset, .unset, .unset, .unset] [])) t → Steps p.tables e below (T0.setTop (mkF m 192 #[(vi p1), (vl q2), .second, (vl q3), .second, (vl q4), .second, (vi 1), (vi 0), (vi p5), (vi p6), (vi p7), (vi p8), (vl q9), .second, (vl q10), .second, (vl q11), .second, (vr a12), (vr a13), (vr a14), .unset, .unset, .unset, .unset, .unset, .unset, .unset, .unset, .unset, .unset, .unset] [])) t := by
        intro t k
        refine pre16 t ?_
        show Steps p.tables e below (T1.setTop (mkF m 201 #[(vi p1), (vl q2), .second, (vl q3), .second, (vl q4), .second, (vi 1), (vi 0), (vi 1), (vi p6), (vi p7), (vi p8), (vl q9), .second, (vl q10), .second, (vl q11), .second, (vr a12), (vr a13), (vr a14), (vi 0), .unset, .unset, .unset, .unset, .unset, .unset, .unset, .unset, .unset, .unset] [])) _
        refine XS.aload X1.here hx rfl (hb hby at_201) rfl rfl ?_
        refine XS.lload X1.here hx rfl (hb hby at_203) rfl ?_
        refine XS.iload X1.here hx rfl (hb hby at_205) rfl ?_
        refine st22.trans ?_
        refine XS.pop X22.here hx rfl (hb hby at_210) rfl rfl ?_
        refine XS.aload X22.here hx rfl (hb hby at_211) rfl rfl ?_
        refine XS.lload X22.here hx rfl (hb hby at_213) rfl ?_
        refine st25.trans ?_
        show Steps p.tables e below (T25.setTop (mkF m 218 #[(vi p1), (vl q2), .second, (vl q3), .second, (vl q4), .second, (vi 1), (vi 0), (vi 1), (vi p6), (vi p7), (vi p8), (vl q9), .second, (vl q10), .second, (vl q11), .second, (vr a12), (vr a13), (vr a14), (vi 0), .unset, .unset, .unset, .unset, .unset, .unset, .unset, .unset, .unset, .unset] [(.int 0)])) _
        refine XS.istore X25.here hx rfl (hb hby at_218) rfl (l' := #[(vi p1), (vl q2), .second, (vl q3), .second, (vl q4), .second, (vi 1), (vi 0), (vi 1), (vi p6), (vi p7), (vi p8), (vl q9), .second, (vl q10), .second, (vl q11), .second, (vr a12), (vr a13), (vr a14), (vi 0), (vi 0), .unset, .unset, .unset, .unset, .unset, .unset, .unset, .unset, .unset]) rfl ?_
        exact k
      obtain ⟨t9, o9, hs9, hr9⟩ := tl_rm0_f hw wMAX_LOCK_DELAY wGRANTED wQUEUED wZERO hS (1 : Int32) (0 : Int32) (1 : Int32) (0 : Int32) (0 : Int32) p1 q2 q3 q4 p6 p7 p8 q9 q10 q11 a12 a13 a14 (X25.more (by decide) (by decide)) hx hZ hby hml hown hnm hret0 hlk0 K25q N25 O23 (by simp [own_exp, lw_eq, hq17]) rfl
      exact ⟨t9, o9, pre27 _ hs9, hr9⟩
theorem ef_au14_2 (m : MethodId) (x0 : Addr) (x1 : Addr) (x2 : Addr) (x3 : Int32)  : entryFrame m #[(.ref x0), (.ref x1), (.ref x2), (.int x3)] 5 = mkF m 0 #[(vr x0), (vr x1), (vr x2), (vi x3), .unset] [] := by first | (simp [entryFrame, mkF, argsToLocals, Value.category]; done) | rfl
theorem d14_47 : decode prog_84_method_3_code 47 = .ok (.iload_n 3, 1) := by decide +kernel
theorem d14_48 : decode prog_84_method_3_code 48 = .ok (.ifCond .eq 38, 3) := by decide +kernel
theorem d14_51 : decode prog_84_method_3_code 51 = .ok (.aload_n 0, 1) := by decide +kernel
theorem d14_52 : decode prog_84_method_3_code 52 = .ok (.aload_n 1, 1) := by decide +kernel
theorem d14_53 : decode prog_84_method_3_code 53 = .ok (.invokevirtual 53, 3) := by decide +kernel
theorem ef_au17_0 (m : MethodId) (x0 : Addr) (x1 : Addr)  : entryFrame m #[(.ref x0), (.ref x1)] 4 = mkF m 0 #[(vr x0), (vr x1), .unset, .unset] [] := by first | (simp [entryFrame, mkF, argsToLocals, Value.category]; done) | rfl
theorem d17_0 : decode prog_84_method_21_code 0 = .ok (.aload_n 0, 1) := by decide +kernel
theorem d17_1 : decode prog_84_method_21_code 1 = .ok (.getfield 10, 3) := by decide +kernel
theorem d17_4 : decode prog_84_method_21_code 4 = .ok (.invokeinterface 81 1, 5) := by decide +kernel
theorem d17_9 : decode prog_84_method_21_code 9 = .ok (.astore_n 2, 1) := by decide +kernel
theorem d17_10 : decode prog_84_method_21_code 10 = .ok (.aload_n 2, 1) := by decide +kernel
theorem d17_11 : decode prog_84_method_21_code 11 = .ok (.invokeinterface 85 1, 5) := by decide +kernel
theorem d17_16 : decode prog_84_method_21_code 16 = .ok (.ifCond .eq 29, 3) := by decide +kernel
theorem d17_45 : decode prog_84_method_21_code 45 = .ok (.iconst 0, 1) := by decide +kernel
theorem d17_46 : decode prog_84_method_21_code 46 = .ok (.ireturn, 1) := by decide +kernel
def Q_au17_0 (Z : State) (wMAX_LOCK_DELAY : Addr) (wGRANTED : Addr) (wQUEUED : Addr) (wZERO : Addr) (a1 : Addr) (a2 : Addr) (a4 : Addr) (a5 : Addr) (a8 : Addr) (k9 : ClassId) (h0 : Heap) (n0 : Nat) (v : Option Value) (h : Heap) (L : List Loc) : Prop := v = some (.int 0) ∧ Fr n0 L ∧ Keep h0 h []
theorem au17_0 (l : Launch) (Z : State) (a0 : Array Value) (hw : ∀ d ∈ tables_1, d.before a0 Z = true) (ws : List Jvm.Cond) (wMAX_LOCK_DELAY : Addr) (wGRANTED : Addr) (wQUEUED : Addr) (wZERO : Addr) (hS : SS Z wMAX_LOCK_DELAY wGRANTED wQUEUED wZERO) (a1 : Addr) (a2 : Addr) (a4 : Addr) (a5 : Addr) (a8 : Addr) (k9 : ClassId) (h0 : Heap) (n0 : Nat) (O0 : Old Z n0 h0) (P0 : Exa Z h0 a1 s4n) (P5 : Fld Z h0 a1 s4n "waiters" s11n (.ref a5)) (P6 : Exa Z h0 a2 s3n) (P9 : Exa Z h0 a4 s3n) (P12 : Exa Z h0 a5 s6n) (P13 : Fld Z h0 a5 s6n "elements" s7n (.ref a8)) (P14 : Fld Z h0 a5 s6n "head" "I" (.int 0)) (P15 : Fld Z h0 a5 s6n "tail" "I" (.int 0)) (P16 : Arv Z h0 a8 k9 (.object s8n) (17 : Int32) ([.null, .null, .null, .null, .null, .null, .null, .null, .null, .null, .null, .null, .null, .null, .null, .null, .null]) .null) :
    MetB l M24 prog_84_method_21_code 4 (some .boolean) ws (rmk 4 1 4 53) Z h0 #[(.ref a1), (.ref a2)] (Q_au17_0 Z wMAX_LOCK_DELAY wGRANTED wQUEUED wZERO a1 a2 a4 a5 a8 k9 h0 n0) := by
  refine own_body (plainFor_of_name pn_com_example_umpired_umpired_server_NodeLock) ?_
  intro p e s m below meth c s₁ hx hby hml hown hnm hret0 hlk0 hZ X0 e0
  have N0 := Fr.nil n0
  have pre0 : ∀ t, Steps p.tables e below (s₁.setTop (mkF m 0 #[(vr a1), (vr a2), .unset, .unset] [])) t → Steps p.tables e below (s₁.setTop (entryFrame m #[(.ref a1), (.ref a2)] 4)) t := fun t k => castTop (ef_au17_0 m a1 a2) k
  have K0 := Keep.refl h0 []
  have hS0 := hS
  obtain ⟨S_wMAX_LOCK_DELAY, E_wMAX_LOCK_DELAY, S_wGRANTED, E_wGRANTED, S_wQUEUED, E_wQUEUED, F_seconds_wMAX_LOCK_DELAY, F_nanos_wMAX_LOCK_DELAY, S_wZERO, E_wZERO, F_seconds_wZERO, F_nanos_wZERO⟩ := hS0
  obtain ⟨T1, X1, e1, st1⟩ := getF X0 hx hZ hown (host := "") (Or.inl (ow hw 27 rfl)) Via.refl e0 P5 (g := (mkF m 1 #[(vr a1), (vr a2), .unset, .unset] [(.ref a1)])) rfl rfl (hb hby d17_1)
  obtain ⟨cq2, kq2, q2a, q2b, q2c⟩ := isOf hZ e1 P12
  obtain ⟨_, _, ⟨T2, L2, k2, n2⟩, -, X2, ⟨Lc2, hQ2, l2, y2, z2⟩, st2⟩ := X1.interfaceBack hx (xi := M13) (y := M9) hown (mvT hZ (ow hw 57 rfl)) (mvT hZ (ow hw 58 rfl)) (mvT hZ (ow hw 59 rfl)) (mvT hZ (ow hw 60 rfl)) (mvT hZ (ow hw 61 rfl)) (mvT hZ (ow hw 62 rfl)) (mvT hZ (ow hw 63 rfl)) (mvT hZ (ow hw 64 rfl)) (by decide) (backOf (W := 0) (au8_0 l Z a0 hw [] wMAX_LOCK_DELAY wGRANTED wQUEUED wZERO hS a5 a8 k9 h0 n0 O0 P12 P13 P14 P15 P16) hZ (ow hw 65 rfl) (ow hw 12 rfl) (by decide) (by decide)) q2a q2b q2c (g := (mkF m 4 #[(vr a1), (vr a2), .unset, .unset] [(.ref a5)])) rfl (by rw [hml]; rfl) (Steps.refl _) (argsL := []) (rest := []) (lenOf pd_6 rfl) rfl (by show 2 * 0 + _ ≤ _; exact Nat.le_of_eq rfl) (hb hby d17_4) (fun _ _ => ⟨rfl, e1, (by decide : 0 + 1 ≤ _), (by decide : 0 + 4 ≤ _)⟩)
  dsimp only [Pt.U, Pt.locs, Pt.cells, Pt.slots] at X2 l2 y2 z2 st2 hQ2
  subst l2 y2 z2
  obtain ⟨e1_2, rfl, Nq2, K2q, p2_0, p2_1, p2_2, p2_3, p2_4, p2_5⟩ := hQ2
  have N2 := Fr.app N0 Nq2
  have ne3 : a1 ≠ e1_2 := Nat.ne_of_lt (Nat.lt_of_lt_of_le P0.lt p2_0)
  have ne4 : a2 ≠ e1_2 := Nat.ne_of_lt (Nat.lt_of_lt_of_le P6.lt p2_0)
  have ne5 : a4 ≠ e1_2 := Nat.ne_of_lt (Nat.lt_of_lt_of_le P9.lt p2_0)
  have ne6 : a5 ≠ e1_2 := Nat.ne_of_lt (Nat.lt_of_lt_of_le P12.lt p2_0)
  have ne7 : a8 ≠ e1_2 := Nat.ne_of_lt (Nat.lt_of_lt_of_le P16.lt p2_0)
  have g8 : n0 ≤ e1_2 := Nat.le_trans (own_sz O0) p2_0
  have sz9 : h0.size ≤ e1_2 := Nat.le_trans K0.1 p2_0
  have O10 : Old Z n0 T2.heap := O0.keep K2q all0
  have K10 : Keep h0 T2.heap [] := K0.trans K2q all0
  obtain ⟨cq11, kq11, q11a, q11b, q11c⟩ := isOf hZ rfl p2_1
  obtain ⟨_, _, ⟨T11, L11, k11, n11⟩, -, X11, ⟨Lc11, hQ11, l11, y11, z11⟩, st11⟩ := X2.interfaceBack hx (xi := M14) (y := M10) hown (mvT hZ (ow hw 95 rfl)) (mvT hZ (ow hw 96 rfl)) (mvT hZ (ow hw 97 rfl)) (mvT hZ (ow hw 98 rfl)) (mvT hZ (ow hw 99 rfl)) (mvT hZ (ow hw 100 rfl)) (mvT hZ (ow hw 101 rfl)) (mvT hZ (ow hw 102 rfl)) (by decide) (backOf (W := 0) (au12_0 l Z a0 hw [] wMAX_LOCK_DELAY wGRANTED wQUEUED wZERO hS e1_2 T2.heap n0 O10 p2_4) hZ (ow hw 103 rfl) (ow hw 68 rfl) (by decide) (by decide)) q11a q11b q11c (g := (mkF m 11 #[(vr a1), (vr a2), (vr e1_2), .unset] [(.ref e1_2)])) rfl (by rw [hml]; rfl) (Steps.refl _) (argsL := []) (rest := []) (lenOf pd_7 rfl) rfl (by show 2 * 0 + _ ≤ _; exact Nat.le_of_eq rfl) (hb hby d17_11) (fun _ _ => ⟨rfl, rfl, (by decide : 1 + 0 ≤ _), (by decide : 4 + 0 ≤ _)⟩)
  dsimp only [Pt.U, Pt.locs, Pt.cells, Pt.slots] at X11 l11 y11 z11 st11 hQ11
  subst l11 y11 z11
  obtain ⟨rfl, Nq11, K11q⟩ := hQ11
  have N11 := Fr.app N2 Nq11
  obtain ⟨fs, hr, hrun, hended, hW, hsame⟩ := X11.leave (v := some (.int 0)) (fun h => by rw [hret0] at h; cases h)
  refine ⟨_, _, pre0 _ ?_, hrun, hended, _, _, rfl, ?_, ⟨_, rfl⟩, hW, hsame.mono (by decide) (by decide)⟩
  · skip
    show Steps p.tables e below (s₁.setTop (mkF m 0 #[(vr a1), (vr a2), .unset, .unset] [])) _
    refine XS.aloadN X0.here hx rfl (hb hby d17_0) rfl rfl ?_
    refine st1 _ ?_
    refine st2.trans ?_
    refine XS.astoreN X2.here hx rfl (hb hby d17_9) rfl rfl (l' := #[(vr a1), (vr a2), (vr e1_2), .unset]) rfl ?_
    refine XS.aloadN X2.here hx rfl (hb hby d17_10) rfl rfl ?_
    refine st11.trans ?_
    refine XS.ifYes X11.here hx rfl (pc0 := 16) (pc' := 45) rfl (hb hby d17_16) rfl ((if0 _ _).trans (teq (by decide : (0 : Int32) = (0 : Int32))).1) (by decide) (by decide) ?_
    refine XS.iconst X11.here hx rfl (hb hby d17_45) ?_
    show Steps p.tables e below (T11.setTop (mkF m 46 #[(vr a1), (vr a2), (vr e1_2), .unset] [(.int 0)])) _
    exact retN X11 hx (t := .boolean) hret0 (by simp) (hb hby d17_46) hr
  · show Q_au17_0 Z wMAX_LOCK_DELAY wGRANTED wQUEUED wZERO a1 a2 a4 a5 a8 k9 h0 n0 _ T11.heap _
    rw [K11q]
    exact ⟨rfl, N11, K10⟩
theorem pd_16 : parseMethodDescriptor "(Lcom/example/umpired/umpired/server/SessionHandle;)Z" = some ⟨[(.object "com/example/umpired/umpired/server/SessionHandle")], some .boolean⟩ := by decide +kernel
theorem d14_56 : decode prog_84_method_3_code 56 = .ok (.ifCond .ne 22, 3) := by decide +kernel
theorem d14_59 : decode prog_84_method_3_code 59 = .ok (.aload_n 0, 1) := by decide +kernel
theorem d14_60 : decode prog_84_method_3_code 60 = .ok (.getfield 10, 3) := by decide +kernel
theorem d14_63 : decode prog_84_method_3_code 63 = .ok (.new 57, 3) := by decide +kernel
theorem d14_66 : decode prog_84_method_3_code 66 = .ok (.dup, 1) := by decide +kernel
theorem d14_67 : decode prog_84_method_3_code 67 = .ok (.aload_n 1, 1) := by decide +kernel
theorem d14_68 : decode prog_84_method_3_code 68 = .ok (.aload_n 2, 1) := by decide +kernel
theorem d14_69 : decode prog_84_method_3_code 69 = .ok (.invokespecial 59, 3) := by decide +kernel
theorem ef_au18_0 (m : MethodId) (x0 : Addr) (x1 : Addr) (x2 : Addr)  : entryFrame m #[(.ref x0), (.ref x1), (.ref x2)] 3 = mkF m 0 #[(vr x0), (vr x1), (vr x2)] [] := by first | (simp [entryFrame, mkF, argsToLocals, Value.category]; done) | rfl
theorem pn_com_example_umpired_umpired_server_NodeLock_Waiter : plainName "com/example/umpired/umpired/server/NodeLock$Waiter" = true := by first | (simp [plainName, overriddenIn]; done) | decide +kernel
theorem d18_0 : decode prog_86_method_1_code 0 = .ok (.aload_n 0, 1) := by decide +kernel
theorem d18_1 : decode prog_86_method_1_code 1 = .ok (.invokespecial 1, 3) := by decide +kernel
theorem d18_4 : decode prog_86_method_1_code 4 = .ok (.aload_n 0, 1) := by decide +kernel
theorem d18_5 : decode prog_86_method_1_code 5 = .ok (.aload_n 1, 1) := by decide +kernel
theorem d18_6 : decode prog_86_method_1_code 6 = .ok (.putfield 7, 3) := by decide +kernel
theorem d18_9 : decode prog_86_method_1_code 9 = .ok (.aload_n 0, 1) := by decide +kernel
theorem d18_10 : decode prog_86_method_1_code 10 = .ok (.aload_n 2, 1) := by decide +kernel
theorem d18_11 : decode prog_86_method_1_code 11 = .ok (.putfield 13, 3) := by decide +kernel
theorem d18_14 : decode prog_86_method_1_code 14 = .ok (.return_, 1) := by decide +kernel
def Q_au18_0 (Z : State) (wMAX_LOCK_DELAY : Addr) (wGRANTED : Addr) (wQUEUED : Addr) (wZERO : Addr) (a1 : Addr) (a2 : Addr) (h0 : Heap) (n0 : Nat) (v : Option Value) (h : Heap) (L : List Loc) : Prop := v = none ∧ Fr n0 L ∧ Keep h0 h [a1] ∧ Exa Z h a1 s15n ∧ Fld Z h a1 s15n "lockDelay" s0n (.ref wMAX_LOCK_DELAY) ∧ Fld Z h a1 s15n "owner" s9n (.ref a2)
theorem au18_0 (l : Launch) (Z : State) (a0 : Array Value) (hw : ∀ d ∈ tables_1, d.before a0 Z = true) (ws : List Jvm.Cond) (wMAX_LOCK_DELAY : Addr) (wGRANTED : Addr) (wQUEUED : Addr) (wZERO : Addr) (hS : SS Z wMAX_LOCK_DELAY wGRANTED wQUEUED wZERO) (a1 : Addr) (a2 : Addr) (h0 : Heap) (n0 : Nat) (O0 : Old Z n0 h0) (P0 : Exa Z h0 a1 s15n) (P1 : Fld Z h0 a1 s15n "lockDelay" s0n .null) (P2 : Fld Z h0 a1 s15n "owner" s9n .null) (P6 : n0 ≤ a1) :
    MetB l M25 prog_86_method_1_code 3 none ws (rmk 1 0 0 12) Z h0 #[(.ref a1), (.ref a2), (.ref wMAX_LOCK_DELAY)] (Q_au18_0 Z wMAX_LOCK_DELAY wGRANTED wQUEUED wZERO a1 a2 h0 n0) := by
  refine own_body (plainFor_of_name pn_com_example_umpired_umpired_server_NodeLock_Waiter) ?_
  intro p e s m below meth c s₁ hx hby hml hown hnm hret0 hlk0 hZ X0 e0
  have N0 := Fr.nil n0
  have pre0 : ∀ t, Steps p.tables e below (s₁.setTop (mkF m 0 #[(vr a1), (vr a2), (vr wMAX_LOCK_DELAY)] [])) t → Steps p.tables e below (s₁.setTop (entryFrame m #[(.ref a1), (.ref a2), (.ref wMAX_LOCK_DELAY)] 3)) t := fun t k => castTop (ef_au18_0 m a1 a2 wMAX_LOCK_DELAY) k
  have K0 := Keep.refl h0 [a1]
  have hS0 := hS
  obtain ⟨S_wMAX_LOCK_DELAY, E_wMAX_LOCK_DELAY, S_wGRANTED, E_wGRANTED, S_wQUEUED, E_wQUEUED, F_seconds_wMAX_LOCK_DELAY, F_nanos_wMAX_LOCK_DELAY, S_wZERO, E_wZERO, F_seconds_wZERO, F_nanos_wZERO⟩ := hS0
  obtain ⟨T1, X1, e1, st1⟩ := initO X0 hx hZ hown (ow hw 145 rfl) (ow hw 8 rfl) (ow hw 9 rfl) e0 (g := (mkF m 1 #[(vr a1), (vr a2), (vr wMAX_LOCK_DELAY)] [(.ref a1)])) rfl (by rw [hml]; rfl) rfl (hb hby d18_1) (by decide) (W := 0) (by show 2 * 0 + _ ≤ _; exact Nat.le_of_eq rfl) (by decide)
  obtain ⟨T2, h2, X2, e2, W2, st2⟩ := putF X1 hx hZ hown (host := "") (Or.inl (ow hw 146 rfl)) Via.refl e1 P2 P0 (Or.inr ⟨(ow hw 147 rfl), rfl, hnm⟩) (ow hw 140 rfl) (ty := (.object s3n)) (by decide) rfl rfl (g := (mkF m 6 #[(vr a1), (vr a2), (vr wMAX_LOCK_DELAY)] [(.ref a2), (.ref a1)])) rfl rfl (hb hby d18_6)
  have N2 := Fr.snoc X2 N0 P6
  have O3 : Old Z n0 h2 := O0.wr W2 P6
  have K3 : Keep h0 h2 [a1] := K0.wr W2 (Or.inl (List.mem_of_getElem? (i := 0) rfl))
  have Fw2 : Fld Z h2 a1 s15n "owner" s9n (.ref a2) := P2.same W2
  have f4 : Exa Z h2 a1 s15n := (P0.wr W2)
  have f5 : Fld Z h2 a1 s15n "lockDelay" s0n .null := (P1.other W2 (Or.inr (slot_ne (Or.inr (ow hw 149 rfl)) (Or.inr (ow hw 147 rfl)) (by decide) (t := (.object s1n)) (t' := (.object s3n)) (by decide) (by decide))))
  obtain ⟨T6, h6, X6, e6, W6, st6⟩ := putF X2 hx hZ hown (host := "") (Or.inl (ow hw 148 rfl)) Via.refl e2 f5 f4 (Or.inr ⟨(ow hw 149 rfl), rfl, hnm⟩) (ow hw 140 rfl) (ty := (.object s1n)) (by decide) rfl rfl (g := (mkF m 11 #[(vr a1), (vr a2), (vr wMAX_LOCK_DELAY)] [(.ref wMAX_LOCK_DELAY), (.ref a1)])) rfl rfl (hb hby d18_11)
  have N6 := Fr.snoc X6 N2 P6
  have O7 : Old Z n0 h6 := O3.wr W6 P6
  have K7 : Keep h0 h6 [a1] := K3.wr W6 (Or.inl (List.mem_of_getElem? (i := 0) rfl))
  have Fw6 : Fld Z h6 a1 s15n "lockDelay" s0n (.ref wMAX_LOCK_DELAY) := f5.same W6
  have f8 : Exa Z h6 a1 s15n := (f4.wr W6)
  have f9 : Fld Z h6 a1 s15n "owner" s9n (.ref a2) := (Fw2.other W6 (Or.inr (slot_ne (Or.inr (ow hw 147 rfl)) (Or.inr (ow hw 149 rfl)) (by decide) (t := (.object s3n)) (t' := (.object s1n)) (by decide) (by decide))))
  obtain ⟨fs, hr, hrun, hended, hW, hsame⟩ := X6.leave (v := none) (fun _ => rfl)
  refine ⟨_, _, pre0 _ ?_, hrun, hended, _, _, rfl, ?_, ⟨_, rfl⟩, hW, hsame.mono (by decide) (by decide)⟩
  · skip
    show Steps p.tables e below (s₁.setTop (mkF m 0 #[(vr a1), (vr a2), (vr wMAX_LOCK_DELAY)] [])) _
    refine XS.aloadN X0.here hx rfl (hb hby d18_0) rfl rfl ?_
    refine st1 _ ?_
    refine XS.aloadN X1.here hx rfl (hb hby d18_4) rfl rfl ?_
    refine XS.aloadN X1.here hx rfl (hb hby d18_5) rfl rfl ?_
    refine st2 _ ?_
    refine XS.aloadN X2.here hx rfl (hb hby d18_9) rfl rfl ?_
    refine XS.aloadN X2.here hx rfl (hb hby d18_10) rfl rfl ?_
    refine st6 _ ?_
    show Steps p.tables e below (T6.setTop (mkF m 14 #[(vr a1), (vr a2), (vr wMAX_LOCK_DELAY)] [])) _
    exact X6.returnOut hx hret0 (hb hby d18_14) hr
  · show Q_au18_0 Z wMAX_LOCK_DELAY wGRANTED wQUEUED wZERO a1 a2 h0 n0 _ T6.heap _
    rw [e6]
    exact ⟨rfl, N6, K7, f8, Fw6, f9⟩
theorem d14_72 : decode prog_84_method_3_code 72 = .ok (.invokeinterface 61 2, 5) := by decide +kernel
theorem ef_au19_0 (m : MethodId) (x0 : Addr) (x1 : Addr)  : entryFrame m #[(.ref x0), (.ref x1)] 2 = mkF m 0 #[(vr x0), (vr x1)] [] := by first | (simp [entryFrame, mkF, argsToLocals, Value.category]; done) | rfl
theorem d19_0 : decode jdk_21_method_28_code 0 = .ok (.aload_n 0, 1) := by decide +kernel
theorem d19_1 : decode jdk_21_method_28_code 1 = .ok (.aload_n 1, 1) := by decide +kernel
theorem d19_2 : decode jdk_21_method_28_code 2 = .ok (.invokevirtual 90, 3) := by decide +kernel
theorem ef_au20_0 (m : MethodId) (x0 : Addr) (x1 : Addr)  : entryFrame m #[(.ref x0), (.ref x1)] 3 = mkF m 0 #[(vr x0), (vr x1), .unset] [] := by first | (simp [entryFrame, mkF, argsToLocals, Value.category]; done) | rfl
theorem d20_0 : decode jdk_21_method_13_code 0 = .ok (.aload_n 1, 1) := by decide +kernel
theorem d20_1 : decode jdk_21_method_13_code 1 = .ok (.ifnonnull 11, 3) := by decide +kernel
theorem d20_12 : decode jdk_21_method_13_code 12 = .ok (.aload_n 0, 1) := by decide +kernel
theorem d20_13 : decode jdk_21_method_13_code 13 = .ok (.getfield 3, 3) := by decide +kernel
theorem d20_16 : decode jdk_21_method_13_code 16 = .ok (.astore_n 2, 1) := by decide +kernel
theorem d20_17 : decode jdk_21_method_13_code 17 = .ok (.aload_n 2, 1) := by decide +kernel
theorem d20_18 : decode jdk_21_method_13_code 18 = .ok (.aload_n 0, 1) := by decide +kernel
theorem d20_19 : decode jdk_21_method_13_code 19 = .ok (.getfield 20, 3) := by decide +kernel
theorem d20_22 : decode jdk_21_method_13_code 22 = .ok (.aload_n 1, 1) := by decide +kernel
theorem d20_23 : decode jdk_21_method_13_code 23 = .ok (.aastore, 1) := by decide +kernel
theorem d20_24 : decode jdk_21_method_13_code 24 = .ok (.aload_n 0, 1) := by decide +kernel
theorem d20_25 : decode jdk_21_method_13_code 25 = .ok (.getfield 24, 3) := by decide +kernel
theorem d20_28 : decode jdk_21_method_13_code 28 = .ok (.aload_n 0, 1) := by decide +kernel
theorem d20_29 : decode jdk_21_method_13_code 29 = .ok (.aload_n 0, 1) := by decide +kernel
theorem d20_30 : decode jdk_21_method_13_code 30 = .ok (.getfield 20, 3) := by decide +kernel
theorem d20_33 : decode jdk_21_method_13_code 33 = .ok (.aload_n 2, 1) := by decide +kernel
theorem d20_34 : decode jdk_21_method_13_code 34 = .ok (.arraylength, 1) := by decide +kernel
theorem d20_35 : decode jdk_21_method_13_code 35 = .ok (.invokestatic 74, 3) := by decide +kernel
theorem ef_au21_0 (m : MethodId) (x0 : Int32) (x1 : Int32)  : entryFrame m #[(.int x0), (.int x1)] 2 = mkF m 0 #[(vi x0), (vi x1)] [] := by first | (simp [entryFrame, mkF, argsToLocals, Value.category]; done) | rfl
theorem d21_0 : decode jdk_21_method_6_code 0 = .ok (.iinc 0 1, 3) := by decide +kernel
theorem d21_3 : decode jdk_21_method_6_code 3 = .ok (.iload_n 0, 1) := by decide +kernel
theorem d21_4 : decode jdk_21_method_6_code 4 = .ok (.iload_n 1, 1) := by decide +kernel
theorem d21_5 : decode jdk_21_method_6_code 5 = .ok (.if_icmp .lt 5, 3) := by decide +kernel
theorem d21_10 : decode jdk_21_method_6_code 10 = .ok (.iload_n 0, 1) := by decide +kernel
theorem d21_11 : decode jdk_21_method_6_code 11 = .ok (.ireturn, 1) := by decide +kernel
def Q_au21_0 (Z : State) (wMAX_LOCK_DELAY : Addr) (wGRANTED : Addr) (wQUEUED : Addr) (wZERO : Addr)  (h0 : Heap) (n0 : Nat) (v : Option Value) (h : Heap) (L : List Loc) : Prop := v = some (.int 1) ∧ Fr n0 L ∧ h = h0
theorem au21_0 (l : Launch) (Z : State) (a0 : Array Value) (hw : ∀ d ∈ tables_1, d.before a0 Z = true) (ws : List Jvm.Cond) (wMAX_LOCK_DELAY : Addr) (wGRANTED : Addr) (wQUEUED : Addr) (wZERO : Addr) (hS : SS Z wMAX_LOCK_DELAY wGRANTED wQUEUED wZERO)  (h0 : Heap) (n0 : Nat) (O0 : Old Z n0 h0)  :
    MetB l M26 jdk_21_method_6_code 2 (some .int) ws (rmk 0 0 0 0) Z h0 #[(.int 0), (.int 17)] (Q_au21_0 Z wMAX_LOCK_DELAY wGRANTED wQUEUED wZERO  h0 n0) := by
  refine own_body (plainFor_of_name pn_java_util_ArrayDeque) ?_
  intro p e s m below meth c s₁ hx hby hml hown hnm hret0 hlk0 hZ X0 e0
  have N0 := Fr.nil n0
  have pre0 : ∀ t, Steps p.tables e below (s₁.setTop (mkF m 0 #[(vi 0), (vi 17)] [])) t → Steps p.tables e below (s₁.setTop (entryFrame m #[(.int 0), (.int 17)] 2)) t := fun t k => castTop (ef_au21_0 m (0 : Int32) (17 : Int32)) k
  have hS0 := hS
  obtain ⟨S_wMAX_LOCK_DELAY, E_wMAX_LOCK_DELAY, S_wGRANTED, E_wGRANTED, S_wQUEUED, E_wQUEUED, F_seconds_wMAX_LOCK_DELAY, F_nanos_wMAX_LOCK_DELAY, S_wZERO, E_wZERO, F_seconds_wZERO, F_nanos_wZERO⟩ := hS0
  obtain ⟨fs, hr, hrun, hended, hW, hsame⟩ := X0.leave (v := some (.int 1)) (fun h => by rw [hret0] at h; cases h)
  refine ⟨_, _, pre0 _ ?_, hrun, hended, _, _, rfl, ?_, ⟨_, rfl⟩, hW, hsame.mono (by decide) (by decide)⟩
  · skip
    show Steps p.tables e below (s₁.setTop (mkF m 0 #[(vi 0), (vi 17)] [])) _
    refine XS.iinc X0.here hx rfl (hb hby d21_0) rfl (l' := #[(vi 1), (vi 17)]) rfl ?_
    refine XS.iloadN X0.here hx rfl (hb hby d21_3) rfl ?_
    refine XS.iloadN X0.here hx rfl (hb hby d21_4) rfl ?_
    refine XS.icmpYes X0.here hx rfl (pc0 := 5) (pc' := 10) rfl (hb hby d21_5) rfl (tlt (by decide : (1 : Int32) < (17 : Int32))).1 (by decide) (by decide) ?_
    refine XS.iloadN X0.here hx rfl (hb hby d21_10) rfl ?_
    exact retI X0 hx hret0 (hb hby d21_11) hr
  · show Q_au21_0 Z wMAX_LOCK_DELAY wGRANTED wQUEUED wZERO  h0 n0 _ s₁.heap _
    rw [e0]
    exact ⟨rfl, N0, rfl⟩
theorem pd_17 : parseMethodDescriptor "(II)I" = some ⟨[.int, .int], some .int⟩ := by decide +kernel
theorem d20_38 : decode jdk_21_method_13_code 38 = .ok (.dup_x1, 1) := by decide +kernel
theorem d20_39 : decode jdk_21_method_13_code 39 = .ok (.putfield 20, 3) := by decide +kernel
theorem d20_42 : decode jdk_21_method_13_code 42 = .ok (.if_icmp .ne 8, 3) := by decide +kernel
theorem d20_50 : decode jdk_21_method_13_code 50 = .ok (.return_, 1) := by decide +kernel
def Q_au20_0 (Z : State) (wMAX_LOCK_DELAY : Addr) (wGRANTED : Addr) (wQUEUED : Addr) (wZERO : Addr) (a1 : Addr) (a2 : Addr) (a3 : Addr) (k5 : ClassId) (h0 : Heap) (n0 : Nat) (v : Option Value) (h : Heap) (L : List Loc) : Prop := v = none ∧ Fr n0 L ∧ Keep h0 h [a3, a1] ∧ Exa Z h a3 s7n ∧ Arv Z h a3 k5 (.object s8n) (17 : Int32) ([(.ref a2), .null, .null, .null, .null, .null, .null, .null, .null, .null, .null, .null, .null, .null, .null, .null, .null]) .null ∧ Ovr Z k5 s8n ∧ Exa Z h a1 s6n ∧ Fld Z h a1 s6n "elements" s7n (.ref a3) ∧ Fld Z h a1 s6n "head" "I" (.int 0) ∧ Fld Z h a1 s6n "tail" "I" (.int 1)
theorem au20_0 (l : Launch) (Z : State) (a0 : Array Value) (hw : ∀ d ∈ tables_1, d.before a0 Z = true) (ws : List Jvm.Cond) (wMAX_LOCK_DELAY : Addr) (wGRANTED : Addr) (wQUEUED : Addr) (wZERO : Addr) (hS : SS Z wMAX_LOCK_DELAY wGRANTED wQUEUED wZERO) (a1 : Addr) (a2 : Addr) (a3 : Addr) (k5 : ClassId) (h0 : Heap) (n0 : Nat) (O0 : Old Z n0 h0) (P0 : Exa Z h0 a1 s6n) (P1 : Fld Z h0 a1 s6n "elements" s7n (.ref a3)) (P2 : Fld Z h0 a1 s6n "head" "I" (.int 0)) (P3 : Fld Z h0 a1 s6n "tail" "I" (.int 0)) (P4 : Exa Z h0 a2 s15n) (P7 : Arv Z h0 a3 k5 (.object s8n) (17 : Int32) ([.null, .null, .null, .null, .null, .null, .null, .null, .null, .null, .null, .null, .null, .null, .null, .null, .null]) .null) (P8 : Ovr Z k5 s8n) (P9 : Exa Z h0 a3 s7n) (P13 : n0 ≤ a1) (P15 : n0 ≤ a3) (P18 : a1 ≠ a3) :
    MetB l M27 jdk_21_method_13_code 3 none ws (rmk 1 0 0 15) Z h0 #[(.ref a1), (.ref a2)] (Q_au20_0 Z wMAX_LOCK_DELAY wGRANTED wQUEUED wZERO a1 a2 a3 k5 h0 n0) := by
  refine own_body (plainFor_of_name pn_java_util_ArrayDeque) ?_
  intro p e s m below meth c s₁ hx hby hml hown hnm hret0 hlk0 hZ X0 e0
  have N0 := Fr.nil n0
  have pre0 : ∀ t, Steps p.tables e below (s₁.setTop (mkF m 0 #[(vr a1), (vr a2), .unset] [])) t → Steps p.tables e below (s₁.setTop (entryFrame m #[(.ref a1), (.ref a2)] 3)) t := fun t k => castTop (ef_au20_0 m a1 a2) k
  have K0 := Keep.refl h0 [a3, a1]
  have hS0 := hS
  obtain ⟨S_wMAX_LOCK_DELAY, E_wMAX_LOCK_DELAY, S_wGRANTED, E_wGRANTED, S_wQUEUED, E_wQUEUED, F_seconds_wMAX_LOCK_DELAY, F_nanos_wMAX_LOCK_DELAY, S_wZERO, E_wZERO, F_seconds_wZERO, F_nanos_wZERO⟩ := hS0
  obtain ⟨T1, X1, e1, st1⟩ := getF X0 hx hZ hown (host := "") (Or.inl (ow hw 25 rfl)) Via.refl e0 P1 (g := (mkF m 13 #[(vr a1), (vr a2), .unset] [(.ref a1)])) rfl rfl (hb hby d20_13)
  obtain ⟨T2, X2, e2, st2⟩ := getF X1 hx hZ hown (host := "") (Or.inl (ow hw 81 rfl)) Via.refl e1 P3 (g := (mkF m 19 #[(vr a1), (vr a2), (vr a3)] [(.ref a1), (.ref a3)])) rfl rfl (hb hby d20_19)
  obtain ⟨cl3, Ar3, q3, Sz3, Nn3, Ha3, Gg3⟩ := (id P7)
  have hin3 : ¬ ((0 : Int32) < 0 ∨ cl3.slots.size ≤ ((0 : Int32)).toNatClampNeg) := inb_of Sz3 ⟨by decide, by decide⟩
  obtain ⟨T3, h3, X3, e3, W3, st3⟩ := stR X2 hx hZ e2 Ar3 (j := (0 : Int32)) hin3 rfl (Sto.ofV Ar3 q3 P8 (Ins.of_exa P4 (ow hw 163 rfl))) (g := (mkF m 23 #[(vr a1), (vr a2), (vr a3)] [(.ref a2), (.int 0), (.ref a3)])) rfl rfl (hb hby d20_23)
  have O4 : Old Z n0 h3 := O0.wr W3 P15
  have K4 : Keep h0 h3 [a3, a1] := K0.wr W3 (Or.inl (List.mem_of_getElem? (i := 0) rfl))
  have V3 : Arv Z h3 a3 k5 (.object s8n) (17 : Int32) ([(.ref a2), .null, .null, .null, .null, .null, .null, .null, .null, .null, .null, .null, .null, .null, .null, .null, .null]) .null := Arv.set Ar3 q3 Sz3 Nn3 Ha3 Gg3 (v := (.ref a2)) rfl W3 0 rfl (Nat.le_of_ble_eq_true rfl)
  have N3 := Fr.snoc X3 N0 P15
  have f5 : Fld Z h3 a1 s6n "head" "I" (.int 0) := (P2.other W3 (Or.inl P18))
  obtain ⟨T6, X6, e6, st6⟩ := getF X3 hx hZ hown (host := "") (Or.inl (ow hw 83 rfl)) Via.refl e3 f5 (g := (mkF m 25 #[(vr a1), (vr a2), (vr a3)] [(.ref a1)])) rfl rfl (hb hby d20_25)
  have f7 : Fld Z h3 a1 s6n "tail" "I" (.int 0) := (P3.other W3 (Or.inl P18))
  obtain ⟨T8, X8, e8, st8⟩ := getF X6 hx hZ hown (host := "") (Or.inl (ow hw 81 rfl)) Via.refl e6 f7 (g := (mkF m 30 #[(vr a1), (vr a2), (vr a3)] [(.ref a1), (.ref a1), (.int 0)])) rfl rfl (hb hby d20_30)
  obtain ⟨cl9, Ar9, -, Sz9, Nn9, -, -⟩ := (id V3)
  obtain ⟨_, _, ⟨T10, L10, k10, n10⟩, -, X10, ⟨Lc10, hQ10, l10, y10, z10⟩, st10⟩ := Jvm.LawKit.callS X8 hx (y := M26) hown (mvT hZ (ow hw 164 rfl)) (mvT hZ (ow hw 165 rfl)) (mvT hZ (ow hw 12 rfl)) (mvT hZ (ow hw 166 rfl)) (by decide) (backOf (W := 2) (au21_0 l Z a0 hw [] wMAX_LOCK_DELAY wGRANTED wQUEUED wZERO hS  h3 n0 O4 ) hZ (ow hw 166 rfl) (ow hw 12 rfl) (by decide) (by decide)) (g := (mkF m 35 #[(vr a1), (vr a2), (vr a3)] [(.int 17), (.int 0), (.ref a1), (.int 0)])) rfl (by rw [hml]; rfl) (argsL := [(.int 0), (.int 17)]) (rest := [(.ref a1), (.int 0)]) (lenOf pd_17 rfl) rfl (by show 2 * 0 + _ ≤ _; exact Nat.le_of_eq rfl) (hb hby d20_35) (fun _ _ => ⟨rfl, e8, (by decide : 0 + 0 ≤ _), (by decide : 0 + 0 ≤ _)⟩)
  dsimp only [Pt.U, Pt.locs, Pt.cells, Pt.slots] at X10 l10 y10 z10 st10 hQ10
  subst l10 y10 z10
  obtain ⟨rfl, Nq10, K10q⟩ := hQ10
  have N10 := Fr.app N3 Nq10
  have f11 : Exa Z h3 a1 s6n := (P0.wr W3)
  obtain ⟨T12, h12, X12, e12, W12, st12⟩ := putF X10 hx hZ hown (host := "") (Or.inl (ow hw 81 rfl)) Via.refl K10q f7 f11 (Or.inl (ow hw 82 rfl)) (ow hw 11 rfl) (ty := .int) (by decide) rfl rfl (g := (mkF m 39 #[(vr a1), (vr a2), (vr a3)] [(.int 1), (.ref a1), (.int 1), (.int 0)])) rfl rfl (hb hby d20_39)
  have N12 := Fr.snoc X12 N10 P13
  have O13 : Old Z n0 h12 := O4.wr W12 P13
  have K13 : Keep h0 h12 [a3, a1] := K4.wr W12 (Or.inl (List.mem_of_getElem? (i := 1) rfl))
  have Fw12 : Fld Z h12 a1 s6n "tail" "I" (.int 1) := f7.same W12
  have f14 : Exa Z h12 a3 s7n := ((P9.wr W3).wr W12)
  have f15 : Arv Z h12 a3 k5 (.object s8n) (17 : Int32) ([(.ref a2), .null, .null, .null, .null, .null, .null, .null, .null, .null, .null, .null, .null, .null, .null, .null, .null]) .null := (V3.other W12 (Ne.symm P18))
  have f16 : Exa Z h12 a1 s6n := (f11.wr W12)
  have f17 : Fld Z h12 a1 s6n "elements" s7n (.ref a3) := ((P1.other W3 (Or.inl P18)).other W12 (Or.inr (slot_ne (Or.inl (ow hw 26 rfl)) (Or.inl (ow hw 82 rfl)) (by decide) (t := (.array (.object s8n))) (t' := .int) (by decide) (by decide))))
  have f18 : Fld Z h12 a1 s6n "head" "I" (.int 0) := (f5.other W12 (Or.inr (slot_ne (Or.inl (ow hw 84 rfl)) (Or.inl (ow hw 82 rfl)) (by decide) (t := .int) (t' := .int) (by decide) (by decide))))
  obtain ⟨fs, hr, hrun, hended, hW, hsame⟩ := X12.leave (v := none) (fun _ => rfl)
  refine ⟨_, _, pre0 _ ?_, hrun, hended, _, _, rfl, ?_, ⟨_, rfl⟩, hW, hsame.mono (by decide) (by decide)⟩
  · skip
    show Steps p.tables e below (s₁.setTop (mkF m 0 #[(vr a1), (vr a2), .unset] [])) _
    refine XS.aloadN X0.here hx rfl (hb hby d20_0) rfl rfl ?_
    refine XS.ifnonnullYes X0.here hx rfl (pc0 := 1) (pc' := 12) rfl (hb hby d20_1) rfl (by decide) (by decide) ?_
    refine XS.aloadN X0.here hx rfl (hb hby d20_12) rfl rfl ?_
    refine st1 _ ?_
    refine XS.astoreN X1.here hx rfl (hb hby d20_16) rfl rfl (l' := #[(vr a1), (vr a2), (vr a3)]) rfl ?_
    refine XS.aloadN X1.here hx rfl (hb hby d20_17) rfl rfl ?_
    refine XS.aloadN X1.here hx rfl (hb hby d20_18) rfl rfl ?_
    refine st2 _ ?_
    show Steps p.tables e below (T2.setTop (mkF m 22 #[(vr a1), (vr a2), (vr a3)] [(.int 0), (.ref a3)])) _
    refine XS.aloadN X2.here hx rfl (hb hby d20_22) rfl rfl ?_
    refine st3 _ ?_
    refine XS.aloadN X3.here hx rfl (hb hby d20_24) rfl rfl ?_
    refine st6 _ ?_
    refine XS.aloadN X6.here hx rfl (hb hby d20_28) rfl rfl ?_
    refine XS.aloadN X6.here hx rfl (hb hby d20_29) rfl rfl ?_
    refine st8 _ ?_
    refine XS.aloadN X8.here hx rfl (hb hby d20_33) rfl rfl ?_
    show Steps p.tables e below (T8.setTop (mkF m 34 #[(vr a1), (vr a2), (vr a3)] [(.ref a3), (.int 0), (.ref a1), (.int 0)])) _
    refine X8.arraylength hx (by rw [e8]; exact Ar9.1) (State.isArrayOf_alike hZ.alike Ar9.2.1) (g := (mkF m 34 #[(vr a1), (vr a2), (vr a3)] [(.ref a3), (.int 0), (.ref a1), (.int 0)])) rfl rfl (hb hby d20_34) _ ?_
    rw [len_of Sz9 Nn9]
    refine st10 _ ?_
    refine XS.dupX1 X10.here hx rfl (hb hby d20_38) rfl rfl rfl ?_
    refine st12 _ ?_
    refine XS.icmpYes X12.here hx rfl (pc0 := 42) (pc' := 50) rfl (hb hby d20_42) rfl (feq (by decide : ¬ ((0 : Int32) = (1 : Int32)))).2 (by decide) (by decide) ?_
    exact X12.returnOut hx hret0 (hb hby d20_50) hr
  · show Q_au20_0 Z wMAX_LOCK_DELAY wGRANTED wQUEUED wZERO a1 a2 a3 k5 h0 n0 _ T12.heap _
    rw [e12]
    exact ⟨rfl, N12, K13, f14, f15, P8, f16, f17, f18, Fw12⟩
theorem pd_18 : parseMethodDescriptor "(Ljava/lang/Object;)V" = some ⟨[(.object "java/lang/Object")], none⟩ := by decide +kernel
theorem d19_5 : decode jdk_21_method_28_code 5 = .ok (.iconst 1, 1) := by decide +kernel
theorem d19_6 : decode jdk_21_method_28_code 6 = .ok (.ireturn, 1) := by decide +kernel
def Q_au19_0 (Z : State) (wMAX_LOCK_DELAY : Addr) (wGRANTED : Addr) (wQUEUED : Addr) (wZERO : Addr) (a1 : Addr) (a2 : Addr) (a3 : Addr) (k5 : ClassId) (h0 : Heap) (n0 : Nat) (v : Option Value) (h : Heap) (L : List Loc) : Prop := v = some (.int 1) ∧ Fr n0 L ∧ Keep h0 h [a3, a1] ∧ Exa Z h a3 s7n ∧ Arv Z h a3 k5 (.object s8n) (17 : Int32) ([(.ref a2), .null, .null, .null, .null, .null, .null, .null, .null, .null, .null, .null, .null, .null, .null, .null, .null]) .null ∧ Ovr Z k5 s8n ∧ Exa Z h a1 s6n ∧ Fld Z h a1 s6n "elements" s7n (.ref a3) ∧ Fld Z h a1 s6n "head" "I" (.int 0) ∧ Fld Z h a1 s6n "tail" "I" (.int 1)
theorem au19_0 (l : Launch) (Z : State) (a0 : Array Value) (hw : ∀ d ∈ tables_1, d.before a0 Z = true) (ws : List Jvm.Cond) (wMAX_LOCK_DELAY : Addr) (wGRANTED : Addr) (wQUEUED : Addr) (wZERO : Addr) (hS : SS Z wMAX_LOCK_DELAY wGRANTED wQUEUED wZERO) (a1 : Addr) (a2 : Addr) (a3 : Addr) (k5 : ClassId) (h0 : Heap) (n0 : Nat) (O0 : Old Z n0 h0) (P0 : Exa Z h0 a1 s6n) (P1 : Fld Z h0 a1 s6n "elements" s7n (.ref a3)) (P2 : Fld Z h0 a1 s6n "head" "I" (.int 0)) (P3 : Fld Z h0 a1 s6n "tail" "I" (.int 0)) (P4 : Exa Z h0 a2 s15n) (P7 : Arv Z h0 a3 k5 (.object s8n) (17 : Int32) ([.null, .null, .null, .null, .null, .null, .null, .null, .null, .null, .null, .null, .null, .null, .null, .null, .null]) .null) (P8 : Ovr Z k5 s8n) (P9 : Exa Z h0 a3 s7n) (P13 : n0 ≤ a1) (P15 : n0 ≤ a3) (P18 : a1 ≠ a3) :
    MetB l M28 jdk_21_method_28_code 2 (some .boolean) ws (rmk 2 0 0 29) Z h0 #[(.ref a1), (.ref a2)] (Q_au19_0 Z wMAX_LOCK_DELAY wGRANTED wQUEUED wZERO a1 a2 a3 k5 h0 n0) := by
  refine own_body (plainFor_of_name pn_java_util_ArrayDeque) ?_
  intro p e s m below meth c s₁ hx hby hml hown hnm hret0 hlk0 hZ X0 e0
  have N0 := Fr.nil n0
  have pre0 : ∀ t, Steps p.tables e below (s₁.setTop (mkF m 0 #[(vr a1), (vr a2)] [])) t → Steps p.tables e below (s₁.setTop (entryFrame m #[(.ref a1), (.ref a2)] 2)) t := fun t k => castTop (ef_au19_0 m a1 a2) k
  have K0 := Keep.refl h0 [a3, a1]
  have hS0 := hS
  obtain ⟨S_wMAX_LOCK_DELAY, E_wMAX_LOCK_DELAY, S_wGRANTED, E_wGRANTED, S_wQUEUED, E_wQUEUED, F_seconds_wMAX_LOCK_DELAY, F_nanos_wMAX_LOCK_DELAY, S_wZERO, E_wZERO, F_seconds_wZERO, F_nanos_wZERO⟩ := hS0
  obtain ⟨cq1, kq1, q1a, q1b, q1c⟩ := isOf hZ e0 P0
  obtain ⟨_, _, ⟨T1, L1, k1, n1⟩, -, X1, ⟨Lc1, hQ1, l1, y1, z1⟩, st1⟩ := X0.virtualBack hx (y := M27) (z := M27) hown (mvT hZ (ow hw 158 rfl)) (mvT hZ (ow hw 159 rfl)) (notFace_of_selects (args := #[]) (mvT hZ (ow hw 161 rfl))) (mvT hZ (ow hw 161 rfl)) (mvT hZ (ow hw 160 rfl)) (by decide) (backOf (W := 0) (au20_0 l Z a0 hw [] wMAX_LOCK_DELAY wGRANTED wQUEUED wZERO hS a1 a2 a3 k5 h0 n0 O0 P0 P1 P2 P3 P4 P7 P8 P9 P13 P15 P18) hZ (ow hw 162 rfl) (ow hw 12 rfl) (by decide) (by decide)) q1a q1c (g := (mkF m 2 #[(vr a1), (vr a2)] [(.ref a2), (.ref a1)])) rfl (by rw [hml]; rfl) (Steps.refl _) (argsL := [(.ref a2)]) (rest := []) (lenOf pd_18 rfl) rfl (by show 2 * 0 + _ ≤ _; exact Nat.le_of_eq rfl) (hb hby d19_2) (fun _ _ => ⟨rfl, e0, (by decide : 0 + 0 ≤ _), (by decide : 0 + 0 ≤ _)⟩)
  dsimp only [Pt.U, Pt.locs, Pt.cells, Pt.slots] at X1 l1 y1 z1 st1 hQ1
  subst l1 y1 z1
  obtain ⟨rfl, Nq1, K1q, p1_0, p1_1, p1_2, p1_3, p1_4, p1_5, p1_6⟩ := hQ1
  have N1 := Fr.app N0 Nq1
  have O2 : Old Z n0 T1.heap := O0.keep K1q (allS P15 (allS P13 all0))
  have K2 : Keep h0 T1.heap [a3, a1] := K0.trans K1q (allS (Or.inl (List.mem_of_getElem? (i := 0) rfl)) (allS (Or.inl (List.mem_of_getElem? (i := 1) rfl)) all0))
  obtain ⟨fs, hr, hrun, hended, hW, hsame⟩ := X1.leave (v := some (.int 1)) (fun h => by rw [hret0] at h; cases h)
  refine ⟨_, _, pre0 _ ?_, hrun, hended, _, _, rfl, ?_, ⟨_, rfl⟩, hW, hsame.mono (by decide) (by decide)⟩
  · skip
    show Steps p.tables e below (s₁.setTop (mkF m 0 #[(vr a1), (vr a2)] [])) _
    refine XS.aloadN X0.here hx rfl (hb hby d19_0) rfl rfl ?_
    refine XS.aloadN X0.here hx rfl (hb hby d19_1) rfl rfl ?_
    refine st1.trans ?_
    refine XS.iconst X1.here hx rfl (hb hby d19_5) ?_
    exact retN X1 hx (t := .boolean) hret0 (by simp) (hb hby d19_6) hr
  · show Q_au19_0 Z wMAX_LOCK_DELAY wGRANTED wQUEUED wZERO a1 a2 a3 k5 h0 n0 _ T1.heap _
    exact ⟨rfl, N1, K2, p1_0, p1_1, p1_2, p1_3, p1_4, p1_5, p1_6⟩
theorem d14_77 : decode prog_84_method_3_code 77 = .ok (.pop, 1) := by decide +kernel
theorem d14_78 : decode prog_84_method_3_code 78 = .ok (.getstatic 66, 3) := by decide +kernel
theorem d14_81 : decode prog_84_method_3_code 81 = .ok (.astore 4, 2) := by decide +kernel
theorem d14_83 : decode prog_84_method_3_code 83 = .ok (.goto 8, 3) := by decide +kernel
def Q_au14_2 (Z : State) (wMAX_LOCK_DELAY : Addr) (wGRANTED : Addr) (wQUEUED : Addr) (wZERO : Addr) (a1 : Addr) (a2 : Addr) (a4 : Addr) (a5 : Addr) (q6 : Int64) (q7 : Int64) (a8 : Addr) (k9 : ClassId) (h0 : Heap) (n0 : Nat) (v : Option Value) (h : Heap) (L : List Loc) : Prop := ∃ (e1 : Addr), v = some (.ref wQUEUED) ∧ Fr n0 L ∧ Keep h0 h [a8, a5] ∧ Exa Z h a8 s7n ∧ Arv Z h a8 k9 (.object s8n) (17 : Int32) ([(.ref e1), .null, .null, .null, .null, .null, .null, .null, .null, .null, .null, .null, .null, .null, .null, .null, .null]) .null ∧ Ovr Z k9 s8n ∧ Exa Z h a5 s6n ∧ Fld Z h a5 s6n "elements" s7n (.ref a8) ∧ Fld Z h a5 s6n "head" "I" (.int 0) ∧ Fld Z h a5 s6n "tail" "I" (.int 1) ∧ h0.size ≤ e1 ∧ Exa Z h e1 s15n ∧ Fld Z h e1 s15n "lockDelay" s0n (.ref wMAX_LOCK_DELAY) ∧ Fld Z h e1 s15n "owner" s9n (.ref a2)
theorem au14_2 (l : Launch) (Z : State) (a0 : Array Value) (hw : ∀ d ∈ tables_1, d.before a0 Z = true) (ws : List Jvm.Cond) (wMAX_LOCK_DELAY : Addr) (wGRANTED : Addr) (wQUEUED : Addr) (wZERO : Addr) (hS : SS Z wMAX_LOCK_DELAY wGRANTED wQUEUED wZERO) (a1 : Addr) (a2 : Addr) (a4 : Addr) (a5 : Addr) (q6 : Int64) (q7 : Int64) (a8 : Addr) (k9 : ClassId) (h0 : Heap) (n0 : Nat) (O0 : Old Z n0 h0) (P0 : Exa Z h0 a1 s4n) (P3 : Fld Z h0 a1 s4n "holder" s9n (.ref a4)) (P5 : Fld Z h0 a1 s4n "waiters" s11n (.ref a5)) (P6 : Exa Z h0 a2 s3n) (P7 : Fld Z h0 a2 s3n "handle" "J" (.long 2)) (P8 : Fld Z h0 a2 s3n "session" "J" (.long q6)) (P9 : Exa Z h0 a4 s3n) (P10 : Fld Z h0 a4 s3n "handle" "J" (.long 1)) (P11 : Fld Z h0 a4 s3n "session" "J" (.long q7)) (P12 : Exa Z h0 a5 s6n) (P13 : Fld Z h0 a5 s6n "elements" s7n (.ref a8)) (P14 : Fld Z h0 a5 s6n "head" "I" (.int 0)) (P15 : Fld Z h0 a5 s6n "tail" "I" (.int 0)) (P16 : Arv Z h0 a8 k9 (.object s8n) (17 : Int32) ([.null, .null, .null, .null, .null, .null, .null, .null, .null, .null, .null, .null, .null, .null, .null, .null, .null]) .null) (P17 : Ovr Z k9 s8n) (P18 : Exa Z h0 a8 s7n) (P22 : n0 ≤ a5) (P23 : n0 ≤ a8) (P33 : a5 ≠ a8) :
    MetB l M16 prog_84_method_3_code 5 (some (.object s2n)) ws (rmk 5 2 6 68) Z h0 #[(.ref a1), (.ref a2), (.ref wMAX_LOCK_DELAY), (.int 1)] (Q_au14_2 Z wMAX_LOCK_DELAY wGRANTED wQUEUED wZERO a1 a2 a4 a5 q6 q7 a8 k9 h0 n0) := by
  refine own_body (plainFor_of_name pn_com_example_umpired_umpired_server_NodeLock) ?_
  intro p e s m below meth c s₁ hx hby hml hown hnm hret0 hlk0 hZ X0 e0
  have N0 := Fr.nil n0
  have pre0 : ∀ t, Steps p.tables e below (s₁.setTop (mkF m 0 #[(vr a1), (vr a2), (vr wMAX_LOCK_DELAY), (vi 1), .unset] [])) t → Steps p.tables e below (s₁.setTop (entryFrame m #[(.ref a1), (.ref a2), (.ref wMAX_LOCK_DELAY), (.int 1)] 5)) t := fun t k => castTop (ef_au14_2 m a1 a2 wMAX_LOCK_DELAY (1 : Int32)) k
  have K0 := Keep.refl h0 [a8, a5]
  have hS0 := hS
  obtain ⟨S_wMAX_LOCK_DELAY, E_wMAX_LOCK_DELAY, S_wGRANTED, E_wGRANTED, S_wQUEUED, E_wQUEUED, F_seconds_wMAX_LOCK_DELAY, F_nanos_wMAX_LOCK_DELAY, S_wZERO, E_wZERO, F_seconds_wZERO, F_nanos_wZERO⟩ := hS0
  obtain ⟨T1, X1, e1, st1⟩ := getF X0 hx hZ hown (host := "") (Or.inl (ow hw 109 rfl)) Via.refl e0 P3 (g := (mkF m 2 #[(vr a1), (vr a2), (vr wMAX_LOCK_DELAY), (vi 1), .unset] [(.ref a1), (.ref a2)])) rfl rfl (hb hby d14_2)
  obtain ⟨cq2, kq2, q2a, q2b, q2c⟩ := isOf hZ e1 P6
  obtain ⟨_, _, ⟨T2, L2, k2, n2⟩, -, X2, ⟨Lc2, hQ2, l2, y2, z2⟩, st2⟩ := X1.virtualBack hx (y := M0) (z := M0) hown (mvT hZ (ow hw 119 rfl)) (mvT hZ (ow hw 120 rfl)) (notFace_of_selects (args := #[]) (mvT hZ (ow hw 122 rfl))) (mvT hZ (ow hw 122 rfl)) (mvT hZ (ow hw 121 rfl)) (by decide) (backOf (W := 0) (rmEqD l Z a0 hw [] wMAX_LOCK_DELAY wGRANTED wQUEUED wZERO hS a2 a4 q6 (2 : Int64) q7 (1 : Int64) h0 n0 O0 P9 P8 P7 P11 P10 (by decide)) hZ (ow hw 123 rfl) (ow hw 35 rfl) (by decide) (by decide)) q2a q2c (g := (mkF m 5 #[(vr a1), (vr a2), (vr wMAX_LOCK_DELAY), (vi 1), .unset] [(.ref a4), (.ref a2)])) rfl (by rw [hml]; rfl) (Steps.refl _) (argsL := [(.ref a4)]) (rest := []) (lenOf pd_9 rfl) rfl (by show 2 * 0 + _ ≤ _; exact Nat.le_of_eq rfl) (hb hby d14_5) (fun _ _ => ⟨rfl, e1, (by decide : 0 + 0 ≤ _), (by decide : 0 + 0 ≤ _)⟩)
  dsimp only [Pt.U, Pt.locs, Pt.cells, Pt.slots] at X2 l2 y2 z2 st2 hQ2
  subst l2 y2 z2
  obtain ⟨rfl, Nq2, K2q⟩ := hQ2
  have N2 := Fr.app N0 Nq2
  obtain ⟨T3, X3, e3, st3⟩ := getF X2 hx hZ hown (host := "") (Or.inl (ow hw 109 rfl)) Via.refl K2q P3 (g := (mkF m 20 #[(vr a1), (vr a2), (vr wMAX_LOCK_DELAY), (vi 1), .unset] [(.ref a1)])) rfl rfl (hb hby d14_20)
  obtain ⟨cq4, q4, q4'⟩ := P0.cell
  obtain ⟨_, _, ⟨T4, L4, k4, n4⟩, -, X4, ⟨Lc4, hQ4, l4, y4, z4⟩, st4⟩ := X3.privateBack hx (y := M24) hown (mvT hZ (ow hw 135 rfl)) (mvT hZ (ow hw 136 rfl)) (own_selp (mvT hZ (ow hw 2 rfl)) (mvP hZ (ow hw 137 rfl)) (mvT hZ (ow hw 136 rfl)) (by decide)) (Cond.privateMethod_at (mvP hZ (ow hw 137 rfl) (args := #[]))) (mvT hZ (ow hw 138 rfl)) (by decide) (backOf (W := 0) (au17_0 l Z a0 hw [] wMAX_LOCK_DELAY wGRANTED wQUEUED wZERO hS a1 a2 a4 a5 a8 k9 h0 n0 O0 P0 P5 P6 P9 P12 P13 P14 P15 P16) hZ (ow hw 138 rfl) (ow hw 3 rfl) (by decide) (by decide)) (g := (mkF m 53 #[(vr a1), (vr a2), (vr wMAX_LOCK_DELAY), (vi 1), .unset] [(.ref a2), (.ref a1)])) rfl (by rw [hml]; rfl) (Steps.refl _) (a := a1) (by rw [e3]; exact q4) q4' (argsL := [(.ref a2)]) (rest := []) (lenOf pd_16 rfl) rfl (by show 2 * 0 + _ ≤ _; exact Nat.le_of_eq rfl) (hb hby d14_53) (fun _ _ => ⟨rfl, e3, (by decide : 0 + 1 ≤ _), (by decide : 0 + 4 ≤ _)⟩)
  dsimp only [Pt.U, Pt.locs, Pt.cells, Pt.slots] at X4 l4 y4 z4 st4 hQ4
  subst l4 y4 z4
  obtain ⟨rfl, Nq4, K4q⟩ := hQ4
  have N4 := Fr.app N2 Nq4
  have O5 : Old Z n0 T4.heap := O0.keep K4q all0
  have K5 : Keep h0 T4.heap [a8, a5] := K0.trans K4q all0
  have f6 : Fld Z T4.heap a1 s4n "waiters" s11n (.ref a5) := (P5.keep K4q nin0)
  obtain ⟨T7, X7, e7, st7⟩ := getF X4 hx hZ hown (host := "") (Or.inl (ow hw 27 rfl)) Via.refl rfl f6 (g := (mkF m 60 #[(vr a1), (vr a2), (vr wMAX_LOCK_DELAY), (vi 1), .unset] [(.ref a1)])) rfl rfl (hb hby d14_60)
  obtain ⟨T8, h8, X8, e8, E8, A8, D8, -, st8⟩ := newO X7 hx hZ hown (ow hw 139 rfl) (ow hw 140 rfl) (ow hw 141 rfl) e7 (g := (mkF m 63 #[(vr a1), (vr a2), (vr wMAX_LOCK_DELAY), (vi 1), .unset] [(.ref a5)])) rfl (hb hby d14_63) (by decide) (by decide)
  obtain ⟨b8, g8⟩ : ∃ z, z = T4.heap.size := ⟨_, rfl⟩
  rw [← g8] at A8 D8 st8
  have f10 : Exa Z T4.heap a1 s4n := (P0.keep K4q)
  have ne9 : a1 ≠ b8 := Nat.ne_of_lt (Nat.lt_of_lt_of_le f10.lt (Nat.le_of_eq g8.symm))
  have f12 : Exa Z T4.heap a2 s3n := (P6.keep K4q)
  have ne11 : a2 ≠ b8 := Nat.ne_of_lt (Nat.lt_of_lt_of_le f12.lt (Nat.le_of_eq g8.symm))
  have f14 : Exa Z T4.heap a4 s3n := (P9.keep K4q)
  have ne13 : a4 ≠ b8 := Nat.ne_of_lt (Nat.lt_of_lt_of_le f14.lt (Nat.le_of_eq g8.symm))
  have f16 : Exa Z T4.heap a5 s6n := (P12.keep K4q)
  have ne15 : a5 ≠ b8 := Nat.ne_of_lt (Nat.lt_of_lt_of_le f16.lt (Nat.le_of_eq g8.symm))
  have f18 : Arv Z T4.heap a8 k9 (.object s8n) (17 : Int32) ([.null, .null, .null, .null, .null, .null, .null, .null, .null, .null, .null, .null, .null, .null, .null, .null, .null]) .null := (P16.keep K4q nin0)
  have ne17 : a8 ≠ b8 := Nat.ne_of_lt (Nat.lt_of_lt_of_le f18.lt (Nat.le_of_eq g8.symm))
  have g19 : n0 ≤ b8 := Nat.le_trans (own_sz O5) (Nat.le_of_eq g8.symm)
  have sz20 : h0.size ≤ b8 := Nat.le_trans K5.1 (Nat.le_of_eq g8.symm)
  have O21 : Old Z n0 h8 := O5.ext E8
  have K21 : Keep h0 h8 [a8, a5] := K5.ext E8
  have f22 : Fld Z h8 b8 s15n "owner" s9n .null := D8 (Or.inr (ow hw 147 rfl)) (ty := (.object s3n)) (by decide)
  have f23 : Fld Z h8 b8 s15n "lockDelay" s0n .null := D8 (Or.inr (ow hw 149 rfl)) (ty := (.object s1n)) (by decide)
  obtain ⟨_, _, ⟨T24, L24, k24, n24⟩, -, X24, ⟨Lc24, hQ24, l24, y24, z24⟩, st24⟩ := X8.specialBack hx (y := M25) rfl hown (mvT hZ (ow hw 142 rfl)) (mvT hZ (ow hw 143 rfl)) (mvT hZ (ow hw 144 rfl)) (by decide) (backOf (W := 2) (au18_0 l Z a0 hw [] wMAX_LOCK_DELAY wGRANTED wQUEUED wZERO hS b8 a2 h8 n0 O21 A8 f23 f22 g19) hZ (ow hw 144 rfl) (ow hw 141 rfl) (by decide) (by decide)) (g := (mkF m 69 #[(vr a1), (vr a2), (vr wMAX_LOCK_DELAY), (vi 1), .unset] [(.ref wMAX_LOCK_DELAY), (.ref a2), (.ref b8), (.ref b8), (.ref a5)])) rfl (by rw [hml]; rfl) (Steps.refl _) (a := b8) (argsL := [(.ref a2), (.ref wMAX_LOCK_DELAY)]) (rest := [(.ref b8), (.ref a5)]) (lenOf pd_10 rfl) rfl (by show 2 * 0 + _ ≤ _; exact Nat.le_of_eq rfl) (hb hby d14_69) (fun _ _ => ⟨rfl, e8, (by decide : 2 + 0 ≤ _), (by decide : 6 + 0 ≤ _)⟩)
  dsimp only [Pt.U, Pt.locs, Pt.cells, Pt.slots] at X24 l24 y24 z24 st24 hQ24
  subst l24 y24 z24
  obtain ⟨rfl, Nq24, K24q, p24_0, p24_1, p24_2⟩ := hQ24
  have N24 := Fr.app N4 Nq24
  have O25 : Old Z n0 T24.heap := O21.keep K24q (allS g19 all0)
  have K25 : Keep h0 T24.heap [a8, a5] := K21.trans K24q (allS (Or.inr sz20) all0)
  have f26 : Exa Z T24.heap a5 s6n := ((f16.ext E8).keep K24q)
  have f27 : Fld Z T24.heap a5 s6n "elements" s7n (.ref a8) := (((P13.keep K4q nin0).ext E8).keep K24q (ninS ne15 nin0))
  have f28 : Fld Z T24.heap a5 s6n "head" "I" (.int 0) := (((P14.keep K4q nin0).ext E8).keep K24q (ninS ne15 nin0))
  have f29 : Fld Z T24.heap a5 s6n "tail" "I" (.int 0) := (((P15.keep K4q nin0).ext E8).keep K24q (ninS ne15 nin0))
  have f30 : Arv Z T24.heap a8 k9 (.object s8n) (17 : Int32) ([.null, .null, .null, .null, .null, .null, .null, .null, .null, .null, .null, .null, .null, .null, .null, .null, .null]) .null := ((f18.ext E8).keep K24q (ninS ne17 nin0))
  have f31 : Exa Z T24.heap a8 s7n := (((P18.keep K4q).ext E8).keep K24q)
  obtain ⟨cq32, kq32, q32a, q32b, q32c⟩ := isOf hZ rfl f26
  obtain ⟨_, _, ⟨T32, L32, k32, n32⟩, -, X32, ⟨Lc32, hQ32, l32, y32, z32⟩, st32⟩ := X24.interfaceBack hx (xi := M29) (y := M28) hown (mvT hZ (ow hw 150 rfl)) (mvT hZ (ow hw 151 rfl)) (mvT hZ (ow hw 152 rfl)) (mvT hZ (ow hw 153 rfl)) (mvT hZ (ow hw 154 rfl)) (mvT hZ (ow hw 155 rfl)) (mvT hZ (ow hw 156 rfl)) (mvT hZ (ow hw 64 rfl)) (by decide) (backOf (W := 0) (au19_0 l Z a0 hw [] wMAX_LOCK_DELAY wGRANTED wQUEUED wZERO hS a5 b8 a8 k9 T24.heap n0 O25 f26 f27 f28 f29 p24_0 f30 P17 f31 P22 P23 P33) hZ (ow hw 157 rfl) (ow hw 12 rfl) (by decide) (by decide)) q32a q32b q32c (g := (mkF m 72 #[(vr a1), (vr a2), (vr wMAX_LOCK_DELAY), (vi 1), .unset] [(.ref b8), (.ref a5)])) rfl (by rw [hml]; rfl) (Steps.refl _) (argsL := [(.ref b8)]) (rest := []) (lenOf pd_9 rfl) rfl (by show 2 * 0 + _ ≤ _; exact Nat.le_of_eq rfl) (hb hby d14_72) (fun _ _ => ⟨rfl, rfl, (by decide : 2 + 0 ≤ _), (by decide : 6 + 0 ≤ _)⟩)
  dsimp only [Pt.U, Pt.locs, Pt.cells, Pt.slots] at X32 l32 y32 z32 st32 hQ32
  subst l32 y32 z32
  obtain ⟨rfl, Nq32, K32q, p32_0, p32_1, p32_2, p32_3, p32_4, p32_5, p32_6⟩ := hQ32
  have N32 := Fr.app N24 Nq32
  have O33 : Old Z n0 T32.heap := O25.keep K32q (allS P23 (allS P22 all0))
  have K33 : Keep h0 T32.heap [a8, a5] := K25.trans K32q (allS (Or.inl (List.mem_of_getElem? (i := 0) rfl)) (allS (Or.inl (List.mem_of_getElem? (i := 1) rfl)) all0))
  obtain ⟨T34, X34, e34, st34⟩ := getS2 X32 hx hZ hown (host := "") (Or.inl (ow hw 167 rfl)) Via.refl rfl (S_wQUEUED.ext O33.2) (g := (mkF m 78 #[(vr a1), (vr a2), (vr wMAX_LOCK_DELAY), (vi 1), .unset] [])) rfl (hb hby d14_78)
  have f35 : Exa Z T32.heap b8 s15n := (p24_0.keep K32q)
  have f36 : Fld Z T32.heap b8 s15n "lockDelay" s0n (.ref wMAX_LOCK_DELAY) := (p24_1.keep K32q (ninS (Ne.symm ne17) (ninS (Ne.symm ne15) nin0)))
  have f37 : Fld Z T32.heap b8 s15n "owner" s9n (.ref a2) := (p24_2.keep K32q (ninS (Ne.symm ne17) (ninS (Ne.symm ne15) nin0)))
  obtain ⟨fs, hr, hrun, hended, hW, hsame⟩ := X34.leave (v := some (.ref wQUEUED)) (fun h => by rw [hret0] at h; cases h)
  refine ⟨_, _, pre0 _ ?_, hrun, hended, _, _, rfl, ?_, ⟨_, rfl⟩, hW, hsame.mono (by decide) (by decide)⟩
  · skip
    show Steps p.tables e below (s₁.setTop (mkF m 0 #[(vr a1), (vr a2), (vr wMAX_LOCK_DELAY), (vi 1), .unset] [])) _
    refine XS.aloadN X0.here hx rfl (hb hby d14_0) rfl rfl ?_
    refine XS.aloadN X0.here hx rfl (hb hby d14_1) rfl rfl ?_
    refine st1 _ ?_
    refine st2.trans ?_
    refine XS.ifYes X2.here hx rfl (pc0 := 8) (pc' := 19) rfl (hb hby d14_8) rfl ((if0 _ _).trans (teq (by decide : (0 : Int32) = (0 : Int32))).1) (by decide) (by decide) ?_
    refine XS.aloadN X2.here hx rfl (hb hby d14_19) rfl rfl ?_
    refine st3 _ ?_
    refine XS.ifnonnullYes X3.here hx rfl (pc0 := 23) (pc' := 47) rfl (hb hby d14_23) rfl (by decide) (by decide) ?_
    show Steps p.tables e below (T3.setTop (mkF m 47 #[(vr a1), (vr a2), (vr wMAX_LOCK_DELAY), (vi 1), .unset] [])) _
    refine XS.iloadN X3.here hx rfl (hb hby d14_47) rfl ?_
    refine XS.ifNo X3.here hx rfl (hb hby d14_48) rfl ((if0 _ _).trans (feq (by decide : ¬ ((1 : Int32) = (0 : Int32)))).1) ?_
    refine XS.aloadN X3.here hx rfl (hb hby d14_51) rfl rfl ?_
    refine XS.aloadN X3.here hx rfl (hb hby d14_52) rfl rfl ?_
    refine st4.trans ?_
    refine XS.ifNo X4.here hx rfl (hb hby d14_56) rfl ((if0 _ _).trans (teq (by decide : (0 : Int32) = (0 : Int32))).2) ?_
    refine XS.aloadN X4.here hx rfl (hb hby d14_59) rfl rfl ?_
    refine st7 _ ?_
    show Steps p.tables e below (T7.setTop (mkF m 63 #[(vr a1), (vr a2), (vr wMAX_LOCK_DELAY), (vi 1), .unset] [(.ref a5)])) _
    refine st8 _ ?_
    refine XS.dup X8.here hx rfl (hb hby d14_66) rfl rfl ?_
    refine XS.aloadN X8.here hx rfl (hb hby d14_67) rfl rfl ?_
    refine XS.aloadN X8.here hx rfl (hb hby d14_68) rfl rfl ?_
    refine st24.trans ?_
    refine st32.trans ?_
    refine XS.pop X32.here hx rfl (hb hby d14_77) rfl rfl ?_
    refine st34 _ ?_
    show Steps p.tables e below (T34.setTop (mkF m 81 #[(vr a1), (vr a2), (vr wMAX_LOCK_DELAY), (vi 1), .unset] [(.ref wQUEUED)])) _
    refine XS.astore X34.here hx rfl (hb hby d14_81) rfl rfl (l' := #[(vr a1), (vr a2), (vr wMAX_LOCK_DELAY), (vi 1), (vr wQUEUED)]) rfl ?_
    refine XS.goto X34.here hx rfl (pc0 := 83) (pc' := 91) rfl (hb hby d14_83) (by decide) (by decide) ?_
    refine XS.aload X34.here hx rfl (hb hby d14_91) rfl rfl ?_
    jvm_step X34.here [X34.here.top, hx, (hb hby d14_93), X34.method', hret0, Value.isRef, FieldType.isReference]
    first | (intro acts; rw [hr _ acts rfl rfl rfl]) | rw [hr _ _ rfl rfl rfl]
    exact Steps.refl _
  · show Q_au14_2 Z wMAX_LOCK_DELAY wGRANTED wQUEUED wZERO a1 a2 a4 a5 q6 q7 a8 k9 h0 n0 _ T34.heap _
    rw [e34]
    exact ⟨b8, rfl, N32, K33, p32_0, p32_1, p32_2, p32_3, p32_4, p32_5, p32_6, sz20, f35, f36, f37⟩
theorem ef_au7_6 (m : MethodId) (x0 : Addr) (x1 : Int64) (x2 : Int32)  : entryFrame m #[(.ref x0), (.long x1), (.int x2)] 6 = mkF m 0 #[(vr x0), (vl x1), .second, (vi x2), .unset, .unset] [] := by first | (simp [entryFrame, mkF, argsToLocals, Value.category]; done) | rfl
theorem ef_au8_1 (m : MethodId) (x0 : Addr)  : entryFrame m #[(.ref x0)] 1 = mkF m 0 #[(vr x0)] [] := by first | (simp [entryFrame, mkF, argsToLocals, Value.category]; done) | rfl
theorem ef_au9_1 (m : MethodId) (x0 : Addr) (x1 : Addr)  : entryFrame m #[(.ref x0), (.ref x1)] 2 = mkF m 0 #[(vr x0), (vr x1)] [] := by first | (simp [entryFrame, mkF, argsToLocals, Value.category]; done) | rfl
theorem ef_au10_1 (m : MethodId) (x0 : Addr)  : entryFrame m #[(.ref x0)] 1 = mkF m 0 #[(vr x0)] [] := by first | (simp [entryFrame, mkF, argsToLocals, Value.category]; done) | rfl
theorem ef_au11_1 (m : MethodId) (x0 : Int32) (x1 : Int32) (x2 : Int32)  : entryFrame m #[(.int x0), (.int x1), (.int x2)] 3 = mkF m 0 #[(vi x0), (vi x1), (vi x2)] [] := by first | (simp [entryFrame, mkF, argsToLocals, Value.category]; done) | rfl
def Q_au11_1 (Z : State) (wMAX_LOCK_DELAY : Addr) (wGRANTED : Addr) (wQUEUED : Addr) (wZERO : Addr)  (h0 : Heap) (n0 : Nat) (v : Option Value) (h : Heap) (L : List Loc) : Prop := v = some (.int 1) ∧ Fr n0 L ∧ h = h0
theorem au11_1 (l : Launch) (Z : State) (a0 : Array Value) (hw : ∀ d ∈ tables_1, d.before a0 Z = true) (ws : List Jvm.Cond) (wMAX_LOCK_DELAY : Addr) (wGRANTED : Addr) (wQUEUED : Addr) (wZERO : Addr) (hS : SS Z wMAX_LOCK_DELAY wGRANTED wQUEUED wZERO)  (h0 : Heap) (n0 : Nat) (O0 : Old Z n0 h0)  :
    MetB l M6 jdk_21_method_9_code 3 (some .int) ws (rmk 0 0 0 0) Z h0 #[(.int 1), (.int 0), (.int 17)] (Q_au11_1 Z wMAX_LOCK_DELAY wGRANTED wQUEUED wZERO  h0 n0) := by
  refine own_body (plainFor_of_name pn_java_util_ArrayDeque) ?_
  intro p e s m below meth c s₁ hx hby hml hown hnm hret0 hlk0 hZ X0 e0
  have N0 := Fr.nil n0
  have pre0 : ∀ t, Steps p.tables e below (s₁.setTop (mkF m 0 #[(vi 1), (vi 0), (vi 17)] [])) t → Steps p.tables e below (s₁.setTop (entryFrame m #[(.int 1), (.int 0), (.int 17)] 3)) t := fun t k => castTop (ef_au11_1 m (1 : Int32) (0 : Int32) (17 : Int32)) k
  have hS0 := hS
  obtain ⟨S_wMAX_LOCK_DELAY, E_wMAX_LOCK_DELAY, S_wGRANTED, E_wGRANTED, S_wQUEUED, E_wQUEUED, F_seconds_wMAX_LOCK_DELAY, F_nanos_wMAX_LOCK_DELAY, S_wZERO, E_wZERO, F_seconds_wZERO, F_nanos_wZERO⟩ := hS0
  obtain ⟨fs, hr, hrun, hended, hW, hsame⟩ := X0.leave (v := some (.int 1)) (fun h => by rw [hret0] at h; cases h)
  refine ⟨_, _, pre0 _ ?_, hrun, hended, _, _, rfl, ?_, ⟨_, rfl⟩, hW, hsame.mono (by decide) (by decide)⟩
  · skip
    show Steps p.tables e below (s₁.setTop (mkF m 0 #[(vi 1), (vi 0), (vi 17)] [])) _
    refine XS.iloadN X0.here hx rfl (hb hby d11_0) rfl ?_
    refine XS.iloadN X0.here hx rfl (hb hby d11_1) rfl ?_
    refine XS.isub X0.here hx rfl (hb hby d11_2) rfl ?_
    refine XS.dup X0.here hx rfl (hb hby d11_3) rfl rfl ?_
    refine XS.istoreN X0.here hx rfl (hb hby d11_4) rfl (l' := #[(vi 1), (vi 0), (vi 17)]) rfl ?_
    refine XS.ifYes X0.here hx rfl (pc0 := 5) (pc' := 12) rfl (hb hby d11_5) rfl ((if0 _ _).trans (flt (by decide : ¬ ((1 : Int32) < (0 : Int32)))).2.1) (by decide) (by decide) ?_
    refine XS.iloadN X0.here hx rfl (hb hby d11_12) rfl ?_
    exact retI X0 hx hret0 (hb hby d11_13) hr
  · show Q_au11_1 Z wMAX_LOCK_DELAY wGRANTED wQUEUED wZERO  h0 n0 _ s₁.heap _
    rw [e0]
    exact ⟨rfl, N0, rfl⟩
def Q_au10_1 (Z : State) (wMAX_LOCK_DELAY : Addr) (wGRANTED : Addr) (wQUEUED : Addr) (wZERO : Addr) (a1 : Addr) (a2 : Addr) (k3 : ClassId) (a4 : Addr) (h0 : Heap) (n0 : Nat) (v : Option Value) (h : Heap) (L : List Loc) : Prop := v = some (.int 1) ∧ Fr n0 L ∧ h = h0
theorem au10_1 (l : Launch) (Z : State) (a0 : Array Value) (hw : ∀ d ∈ tables_1, d.before a0 Z = true) (ws : List Jvm.Cond) (wMAX_LOCK_DELAY : Addr) (wGRANTED : Addr) (wQUEUED : Addr) (wZERO : Addr) (hS : SS Z wMAX_LOCK_DELAY wGRANTED wQUEUED wZERO) (a1 : Addr) (a2 : Addr) (k3 : ClassId) (a4 : Addr) (h0 : Heap) (n0 : Nat) (O0 : Old Z n0 h0) (P1 : Fld Z h0 a1 s6n "elements" s7n (.ref a2)) (P2 : Fld Z h0 a1 s6n "head" "I" (.int 0)) (P3 : Fld Z h0 a1 s6n "tail" "I" (.int 1)) (P4 : Arv Z h0 a2 k3 (.object s8n) (17 : Int32) ([(.ref a4), .null, .null, .null, .null, .null, .null, .null, .null, .null, .null, .null, .null, .null, .null, .null, .null]) .null) :
    MetB l M7 jdk_21_method_37_code 1 (some .int) ws (rmk 1 0 0 14) Z h0 #[(.ref a1)] (Q_au10_1 Z wMAX_LOCK_DELAY wGRANTED wQUEUED wZERO a1 a2 k3 a4 h0 n0) := by
  refine own_body (plainFor_of_name pn_java_util_ArrayDeque) ?_
  intro p e s m below meth c s₁ hx hby hml hown hnm hret0 hlk0 hZ X0 e0
  have N0 := Fr.nil n0
  have pre0 : ∀ t, Steps p.tables e below (s₁.setTop (mkF m 0 #[(vr a1)] [])) t → Steps p.tables e below (s₁.setTop (entryFrame m #[(.ref a1)] 1)) t := fun t k => castTop (ef_au10_1 m a1) k
  have hS0 := hS
  obtain ⟨S_wMAX_LOCK_DELAY, E_wMAX_LOCK_DELAY, S_wGRANTED, E_wGRANTED, S_wQUEUED, E_wQUEUED, F_seconds_wMAX_LOCK_DELAY, F_nanos_wMAX_LOCK_DELAY, S_wZERO, E_wZERO, F_seconds_wZERO, F_nanos_wZERO⟩ := hS0
  obtain ⟨T1, X1, e1, st1⟩ := getF X0 hx hZ hown (host := "") (Or.inl (ow hw 81 rfl)) Via.refl e0 P3 (g := (mkF m 1 #[(vr a1)] [(.ref a1)])) rfl rfl (hb hby d10_1)
  obtain ⟨T2, X2, e2, st2⟩ := getF X1 hx hZ hown (host := "") (Or.inl (ow hw 83 rfl)) Via.refl e1 P2 (g := (mkF m 5 #[(vr a1)] [(.ref a1), (.int 1)])) rfl rfl (hb hby d10_5)
  obtain ⟨T3, X3, e3, st3⟩ := getF X2 hx hZ hown (host := "") (Or.inl (ow hw 25 rfl)) Via.refl e2 P1 (g := (mkF m 9 #[(vr a1)] [(.ref a1), (.int 0), (.int 1)])) rfl rfl (hb hby d10_9)
  obtain ⟨cl4, Ar4, -, Sz4, Nn4, -, -⟩ := (id P4)
  obtain ⟨_, _, ⟨T5, L5, k5, n5⟩, -, X5, ⟨Lc5, hQ5, l5, y5, z5⟩, st5⟩ := Jvm.LawKit.callS X3 hx (y := M6) hown (mvT hZ (ow hw 85 rfl)) (mvT hZ (ow hw 86 rfl)) (mvT hZ (ow hw 12 rfl)) (mvT hZ (ow hw 87 rfl)) (by decide) (backOf (W := 0) (au11_1 l Z a0 hw [] wMAX_LOCK_DELAY wGRANTED wQUEUED wZERO hS  h0 n0 O0 ) hZ (ow hw 87 rfl) (ow hw 12 rfl) (by decide) (by decide)) (g := (mkF m 13 #[(vr a1)] [(.int 17), (.int 0), (.int 1)])) rfl (by rw [hml]; rfl) (argsL := [(.int 1), (.int 0), (.int 17)]) (rest := []) (lenOf pd_3 rfl) rfl (by show 2 * 0 + _ ≤ _; exact Nat.le_of_eq rfl) (hb hby d10_13) (fun _ _ => ⟨rfl, e3, (by decide : 0 + 0 ≤ _), (by decide : 0 + 0 ≤ _)⟩)
  dsimp only [Pt.U, Pt.locs, Pt.cells, Pt.slots] at X5 l5 y5 z5 st5 hQ5
  subst l5 y5 z5
  obtain ⟨rfl, Nq5, K5q⟩ := hQ5
  have N5 := Fr.app N0 Nq5
  obtain ⟨fs, hr, hrun, hended, hW, hsame⟩ := X5.leave (v := some (.int 1)) (fun h => by rw [hret0] at h; cases h)
  refine ⟨_, _, pre0 _ ?_, hrun, hended, _, _, rfl, ?_, ⟨_, rfl⟩, hW, hsame.mono (by decide) (by decide)⟩
  · skip
    show Steps p.tables e below (s₁.setTop (mkF m 0 #[(vr a1)] [])) _
    refine XS.aloadN X0.here hx rfl (hb hby d10_0) rfl rfl ?_
    refine st1 _ ?_
    refine XS.aloadN X1.here hx rfl (hb hby d10_4) rfl rfl ?_
    refine st2 _ ?_
    refine XS.aloadN X2.here hx rfl (hb hby d10_8) rfl rfl ?_
    refine st3 _ ?_
    refine X3.arraylength hx (by rw [e3]; exact Ar4.1) (State.isArrayOf_alike hZ.alike Ar4.2.1) (g := (mkF m 12 #[(vr a1)] [(.ref a2), (.int 0), (.int 1)])) rfl rfl (hb hby d10_12) _ ?_
    rw [len_of Sz4 Nn4]
    refine st5 _ ?_
    show Steps p.tables e below (T5.setTop (mkF m 16 #[(vr a1)] [(.int 1)])) _
    exact retI X5 hx hret0 (hb hby d10_16) hr
  · show Q_au10_1 Z wMAX_LOCK_DELAY wGRANTED wQUEUED wZERO a1 a2 k3 a4 h0 n0 _ T5.heap _
    rw [K5q]
    exact ⟨rfl, N5, rfl⟩
def Q_au9_1 (Z : State) (wMAX_LOCK_DELAY : Addr) (wGRANTED : Addr) (wQUEUED : Addr) (wZERO : Addr) (a1 : Addr) (a2 : Addr) (a3 : Addr) (k4 : ClassId) (a5 : Addr) (h0 : Heap) (n0 : Nat) (v : Option Value) (h : Heap) (L : List Loc) : Prop := v = none ∧ Fr n0 L ∧ Keep h0 h [a1] ∧ Exa Z h a1 s13n ∧ Fld Z h a1 s13n "cursor" "I" (.int 0) ∧ Fld Z h a1 s13n "lastRet" "I" (.int (-1 : Int32)) ∧ Fld Z h a1 s13n "remaining" "I" (.int 1) ∧ Fld Z h a1 s13n "this$0" s14n (.ref a2)
theorem au9_1 (l : Launch) (Z : State) (a0 : Array Value) (hw : ∀ d ∈ tables_1, d.before a0 Z = true) (ws : List Jvm.Cond) (wMAX_LOCK_DELAY : Addr) (wGRANTED : Addr) (wQUEUED : Addr) (wZERO : Addr) (hS : SS Z wMAX_LOCK_DELAY wGRANTED wQUEUED wZERO) (a1 : Addr) (a2 : Addr) (a3 : Addr) (k4 : ClassId) (a5 : Addr) (h0 : Heap) (n0 : Nat) (O0 : Old Z n0 h0) (P0 : Exa Z h0 a1 s13n) (P1 : Fld Z h0 a1 s13n "cursor" "I" (.int 0)) (P2 : Fld Z h0 a1 s13n "lastRet" "I" (.int 0)) (P3 : Fld Z h0 a1 s13n "remaining" "I" (.int 0)) (P4 : Fld Z h0 a1 s13n "this$0" s14n .null) (P5 : Exa Z h0 a2 s6n) (P6 : Fld Z h0 a2 s6n "elements" s7n (.ref a3)) (P7 : Fld Z h0 a2 s6n "head" "I" (.int 0)) (P8 : Fld Z h0 a2 s6n "tail" "I" (.int 1)) (P9 : Arv Z h0 a3 k4 (.object s8n) (17 : Int32) ([(.ref a5), .null, .null, .null, .null, .null, .null, .null, .null, .null, .null, .null, .null, .null, .null, .null, .null]) .null) (P18 : n0 ≤ a1) (P23 : a1 ≠ a2) (P24 : a1 ≠ a3) :
    MetB l M8 jdk_54_method_1_code 2 none ws (rmk 2 0 0 27) Z h0 #[(.ref a1), (.ref a2)] (Q_au9_1 Z wMAX_LOCK_DELAY wGRANTED wQUEUED wZERO a1 a2 a3 k4 a5 h0 n0) := by
  refine own_body (plainFor_of_name pn_java_util_ArrayDeque_DeqIterator) ?_
  intro p e s m below meth c s₁ hx hby hml hown hnm hret0 hlk0 hZ X0 e0
  have N0 := Fr.nil n0
  have pre0 : ∀ t, Steps p.tables e below (s₁.setTop (mkF m 0 #[(vr a1), (vr a2)] [])) t → Steps p.tables e below (s₁.setTop (entryFrame m #[(.ref a1), (.ref a2)] 2)) t := fun t k => castTop (ef_au9_1 m a1 a2) k
  have K0 := Keep.refl h0 [a1]
  have hS0 := hS
  obtain ⟨S_wMAX_LOCK_DELAY, E_wMAX_LOCK_DELAY, S_wGRANTED, E_wGRANTED, S_wQUEUED, E_wQUEUED, F_seconds_wMAX_LOCK_DELAY, F_nanos_wMAX_LOCK_DELAY, S_wZERO, E_wZERO, F_seconds_wZERO, F_nanos_wZERO⟩ := hS0
  obtain ⟨T1, h1, X1, e1, W1, st1⟩ := putF X0 hx hZ hown (host := "") (Or.inl (ow hw 73 rfl)) Via.refl e0 P4 P0 (Or.inr ⟨(ow hw 74 rfl), rfl, hnm⟩) (ow hw 67 rfl) (ty := (.object s6n)) (by decide) rfl rfl (g := (mkF m 2 #[(vr a1), (vr a2)] [(.ref a2), (.ref a1)])) rfl rfl (hb hby d9_2)
  have N1 := Fr.snoc X1 N0 P18
  have O2 : Old Z n0 h1 := O0.wr W1 P18
  have K2 : Keep h0 h1 [a1] := K0.wr W1 (Or.inl (List.mem_of_getElem? (i := 0) rfl))
  have Fw1 : Fld Z h1 a1 s13n "this$0" s14n (.ref a2) := P4.same W1
  obtain ⟨T3, X3, e3, st3⟩ := initO X1 hx hZ hown (ow hw 75 rfl) (ow hw 8 rfl) (ow hw 9 rfl) e1 (g := (mkF m 6 #[(vr a1), (vr a2)] [(.ref a1)])) rfl (by rw [hml]; rfl) rfl (hb hby d9_6) (by decide) (W := 0) (by show 2 * 0 + _ ≤ _; exact Nat.le_of_eq rfl) (by decide)
  obtain ⟨T4, X4, e4, st4⟩ := getF X3 hx hZ hown (host := "") (Or.inl (ow hw 73 rfl)) Via.refl e3 Fw1 (g := (mkF m 11 #[(vr a1), (vr a2)] [(.ref a1), (.ref a1)])) rfl rfl (hb hby d9_11)
  have f5 : Fld Z h1 a2 s6n "elements" s7n (.ref a3) := (P6.other W1 (Or.inl (Ne.symm P23)))
  have f6 : Fld Z h1 a2 s6n "head" "I" (.int 0) := (P7.other W1 (Or.inl (Ne.symm P23)))
  have f7 : Fld Z h1 a2 s6n "tail" "I" (.int 1) := (P8.other W1 (Or.inl (Ne.symm P23)))
  have f8 : Arv Z h1 a3 k4 (.object s8n) (17 : Int32) ([(.ref a5), .null, .null, .null, .null, .null, .null, .null, .null, .null, .null, .null, .null, .null, .null, .null, .null]) .null := (P9.other W1 (Ne.symm P24))
  have f10 : Exa Z h1 a2 s6n := (P5.wr W1)
  obtain ⟨cq9, kq9, q9a, q9b, q9c⟩ := isOf hZ e4 f10
  obtain ⟨_, _, ⟨T9, L9, k9, n9⟩, -, X9, ⟨Lc9, hQ9, l9, y9, z9⟩, st9⟩ := X4.virtualBack hx (y := M7) (z := M7) hown (mvT hZ (ow hw 76 rfl)) (mvT hZ (ow hw 77 rfl)) (notFace_of_selects (args := #[]) (mvT hZ (ow hw 79 rfl))) (mvT hZ (ow hw 79 rfl)) (mvT hZ (ow hw 78 rfl)) (by decide) (backOf (W := 1) (au10_1 l Z a0 hw [] wMAX_LOCK_DELAY wGRANTED wQUEUED wZERO hS a2 a3 k4 a5 h1 n0 O2 f5 f6 f7 f8) hZ (ow hw 80 rfl) (ow hw 12 rfl) (by decide) (by decide)) q9a q9c (g := (mkF m 14 #[(vr a1), (vr a2)] [(.ref a2), (.ref a1)])) rfl (by rw [hml]; rfl) (Steps.refl _) (argsL := []) (rest := [(.ref a1)]) (lenOf pd_4 rfl) rfl (by show 2 * 0 + _ ≤ _; exact Nat.le_of_eq rfl) (hb hby d9_14) (fun _ _ => ⟨rfl, e4, (by decide : 0 + 0 ≤ _), (by decide : 0 + 0 ≤ _)⟩)
  dsimp only [Pt.U, Pt.locs, Pt.cells, Pt.slots] at X9 l9 y9 z9 st9 hQ9
  subst l9 y9 z9
  obtain ⟨rfl, Nq9, K9q⟩ := hQ9
  have N9 := Fr.app N1 Nq9
  have f11 : Exa Z h1 a1 s13n := (P0.wr W1)
  have f12 : Fld Z h1 a1 s13n "remaining" "I" (.int 0) := (P3.other W1 (Or.inr (slot_ne (Or.inl (ow hw 89 rfl)) (Or.inr (ow hw 74 rfl)) (by decide) (t := .int) (t' := (.object s6n)) (by decide) (by decide))))
  obtain ⟨T13, h13, X13, e13, W13, st13⟩ := putF X9 hx hZ hown (host := "") (Or.inl (ow hw 88 rfl)) Via.refl K9q f12 f11 (Or.inl (ow hw 89 rfl)) (ow hw 67 rfl) (ty := .int) (by decide) rfl rfl (g := (mkF m 17 #[(vr a1), (vr a2)] [(.int 1), (.ref a1)])) rfl rfl (hb hby d9_17)
  have N13 := Fr.snoc X13 N9 P18
  have O14 : Old Z n0 h13 := O2.wr W13 P18
  have K14 : Keep h0 h13 [a1] := K2.wr W13 (Or.inl (List.mem_of_getElem? (i := 0) rfl))
  have Fw13 : Fld Z h13 a1 s13n "remaining" "I" (.int 1) := f12.same W13
  have f15 : Exa Z h13 a1 s13n := (f11.wr W13)
  have f16 : Fld Z h13 a1 s13n "lastRet" "I" (.int 0) := ((P2.other W1 (Or.inr (slot_ne (Or.inl (ow hw 91 rfl)) (Or.inr (ow hw 74 rfl)) (by decide) (t := .int) (t' := (.object s6n)) (by decide) (by decide)))).other W13 (Or.inr (slot_ne (Or.inl (ow hw 91 rfl)) (Or.inl (ow hw 89 rfl)) (by decide) (t := .int) (t' := .int) (by decide) (by decide))))
  obtain ⟨T17, h17, X17, e17, W17, st17⟩ := putF X13 hx hZ hown (host := "") (Or.inl (ow hw 90 rfl)) Via.refl e13 f16 f15 (Or.inl (ow hw 91 rfl)) (ow hw 67 rfl) (ty := .int) (by decide) rfl rfl (g := (mkF m 22 #[(vr a1), (vr a2)] [(.int (-1 : Int32)), (.ref a1)])) rfl rfl (hb hby d9_22)
  have N17 := Fr.snoc X17 N13 P18
  have O18 : Old Z n0 h17 := O14.wr W17 P18
  have K18 : Keep h0 h17 [a1] := K14.wr W17 (Or.inl (List.mem_of_getElem? (i := 0) rfl))
  have Fw17 : Fld Z h17 a1 s13n "lastRet" "I" (.int (-1 : Int32)) := f16.same W17
  have f19 : Fld Z h17 a2 s6n "head" "I" (.int 0) := ((f6.other W13 (Or.inl (Ne.symm P23))).other W17 (Or.inl (Ne.symm P23)))
  obtain ⟨T20, X20, e20, st20⟩ := getF X17 hx hZ hown (host := "") (Or.inl (ow hw 92 rfl)) Via.refl e17 f19 (g := (mkF m 27 #[(vr a1), (vr a2)] [(.ref a2), (.ref a1)])) rfl rfl (hb hby d9_27)
  have f21 : Exa Z h17 a1 s13n := (f15.wr W17)
  have f22 : Fld Z h17 a1 s13n "cursor" "I" (.int 0) := (((P1.other W1 (Or.inr (slot_ne (Or.inl (ow hw 94 rfl)) (Or.inr (ow hw 74 rfl)) (by decide) (t := .int) (t' := (.object s6n)) (by decide) (by decide)))).other W13 (Or.inr (slot_ne (Or.inl (ow hw 94 rfl)) (Or.inl (ow hw 89 rfl)) (by decide) (t := .int) (t' := .int) (by decide) (by decide)))).other W17 (Or.inr (slot_ne (Or.inl (ow hw 94 rfl)) (Or.inl (ow hw 91 rfl)) (by decide) (t := .int) (t' := .int) (by decide) (by decide))))
  obtain ⟨T23, h23, X23, e23, W23, st23⟩ := putF X20 hx hZ hown (host := "") (Or.inl (ow hw 93 rfl)) Via.refl e20 f22 f21 (Or.inl (ow hw 94 rfl)) (ow hw 67 rfl) (ty := .int) (by decide) rfl rfl (g := (mkF m 30 #[(vr a1), (vr a2)] [(.int 0), (.ref a1)])) rfl rfl (hb hby d9_30)
  have N23 := Fr.snoc X23 N17 P18
  have O24 : Old Z n0 h23 := O18.wr W23 P18
  have K24 : Keep h0 h23 [a1] := K18.wr W23 (Or.inl (List.mem_of_getElem? (i := 0) rfl))
  have Fw23 : Fld Z h23 a1 s13n "cursor" "I" (.int 0) := f22.same W23
  have f25 : Exa Z h23 a1 s13n := (f21.wr W23)
  have f26 : Fld Z h23 a1 s13n "lastRet" "I" (.int (-1 : Int32)) := (Fw17.other W23 (Or.inr (slot_ne (Or.inl (ow hw 91 rfl)) (Or.inl (ow hw 94 rfl)) (by decide) (t := .int) (t' := .int) (by decide) (by decide))))
  have f27 : Fld Z h23 a1 s13n "remaining" "I" (.int 1) := ((Fw13.other W17 (Or.inr (slot_ne (Or.inl (ow hw 89 rfl)) (Or.inl (ow hw 91 rfl)) (by decide) (t := .int) (t' := .int) (by decide) (by decide)))).other W23 (Or.inr (slot_ne (Or.inl (ow hw 89 rfl)) (Or.inl (ow hw 94 rfl)) (by decide) (t := .int) (t' := .int) (by decide) (by decide))))
  have f28 : Fld Z h23 a1 s13n "this$0" s14n (.ref a2) := (((Fw1.other W13 (Or.inr (slot_ne (Or.inr (ow hw 74 rfl)) (Or.inl (ow hw 89 rfl)) (by decide) (t := (.object s6n)) (t' := .int) (by decide) (by decide)))).other W17 (Or.inr (slot_ne (Or.inr (ow hw 74 rfl)) (Or.inl (ow hw 91 rfl)) (by decide) (t := (.object s6n)) (t' := .int) (by decide) (by decide)))).other W23 (Or.inr (slot_ne (Or.inr (ow hw 74 rfl)) (Or.inl (ow hw 94 rfl)) (by decide) (t := (.object s6n)) (t' := .int) (by decide) (by decide))))
  obtain ⟨fs, hr, hrun, hended, hW, hsame⟩ := X23.leave (v := none) (fun _ => rfl)
  refine ⟨_, _, pre0 _ ?_, hrun, hended, _, _, rfl, ?_, ⟨_, rfl⟩, hW, hsame.mono (by decide) (by decide)⟩
  · skip
    show Steps p.tables e below (s₁.setTop (mkF m 0 #[(vr a1), (vr a2)] [])) _
    refine XS.aloadN X0.here hx rfl (hb hby d9_0) rfl rfl ?_
    refine XS.aloadN X0.here hx rfl (hb hby d9_1) rfl rfl ?_
    refine st1 _ ?_
    refine XS.aloadN X1.here hx rfl (hb hby d9_5) rfl rfl ?_
    refine st3 _ ?_
    refine XS.aloadN X3.here hx rfl (hb hby d9_9) rfl rfl ?_
    refine XS.aloadN X3.here hx rfl (hb hby d9_10) rfl rfl ?_
    refine st4 _ ?_
    show Steps p.tables e below (T4.setTop (mkF m 14 #[(vr a1), (vr a2)] [(.ref a2), (.ref a1)])) _
    refine st9.trans ?_
    refine st13 _ ?_
    refine XS.aloadN X13.here hx rfl (hb hby d9_20) rfl rfl ?_
    refine XS.iconst X13.here hx rfl (hb hby d9_21) ?_
    refine st17 _ ?_
    refine XS.aloadN X17.here hx rfl (hb hby d9_25) rfl rfl ?_
    refine XS.aloadN X17.here hx rfl (hb hby d9_26) rfl rfl ?_
    refine st20 _ ?_
    show Steps p.tables e below (T20.setTop (mkF m 30 #[(vr a1), (vr a2)] [(.int 0), (.ref a1)])) _
    refine st23 _ ?_
    exact X23.returnOut hx hret0 (hb hby d9_33) hr
  · show Q_au9_1 Z wMAX_LOCK_DELAY wGRANTED wQUEUED wZERO a1 a2 a3 k4 a5 h0 n0 _ T23.heap _
    rw [e23]
    exact ⟨rfl, N23, K24, f25, Fw23, f26, f27, f28⟩
def Q_au8_1 (Z : State) (wMAX_LOCK_DELAY : Addr) (wGRANTED : Addr) (wQUEUED : Addr) (wZERO : Addr) (a1 : Addr) (a2 : Addr) (k3 : ClassId) (a4 : Addr) (a5 : Addr) (h0 : Heap) (n0 : Nat) (v : Option Value) (h : Heap) (L : List Loc) : Prop := ∃ (e1 : Addr), v = some (.ref e1) ∧ Fr n0 L ∧ Keep h0 h [] ∧ h0.size ≤ e1 ∧ Exa Z h e1 s13n ∧ Fld Z h e1 s13n "cursor" "I" (.int 0) ∧ Fld Z h e1 s13n "lastRet" "I" (.int (-1 : Int32)) ∧ Fld Z h e1 s13n "remaining" "I" (.int 1) ∧ Fld Z h e1 s13n "this$0" s14n (.ref a1)
theorem au8_1 (l : Launch) (Z : State) (a0 : Array Value) (hw : ∀ d ∈ tables_1, d.before a0 Z = true) (ws : List Jvm.Cond) (wMAX_LOCK_DELAY : Addr) (wGRANTED : Addr) (wQUEUED : Addr) (wZERO : Addr) (hS : SS Z wMAX_LOCK_DELAY wGRANTED wQUEUED wZERO) (a1 : Addr) (a2 : Addr) (k3 : ClassId) (a4 : Addr) (a5 : Addr) (h0 : Heap) (n0 : Nat) (O0 : Old Z n0 h0) (P0 : Exa Z h0 a1 s6n) (P1 : Fld Z h0 a1 s6n "elements" s7n (.ref a2)) (P2 : Fld Z h0 a1 s6n "head" "I" (.int 0)) (P3 : Fld Z h0 a1 s6n "tail" "I" (.int 1)) (P4 : Arv Z h0 a2 k3 (.object s8n) (17 : Int32) ([(.ref a4), .null, .null, .null, .null, .null, .null, .null, .null, .null, .null, .null, .null, .null, .null, .null, .null]) .null) (P7 : Exa Z h0 a4 s15n) (P10 : Exa Z h0 a5 s3n) :
    MetB l M9 jdk_21_method_39_code 1 (some (.object "java/util/Iterator")) ws (rmk 3 1 4 41) Z h0 #[(.ref a1)] (Q_au8_1 Z wMAX_LOCK_DELAY wGRANTED wQUEUED wZERO a1 a2 k3 a4 a5 h0 n0) := by
  refine own_body (plainFor_of_name pn_java_util_ArrayDeque) ?_
  intro p e s m below meth c s₁ hx hby hml hown hnm hret0 hlk0 hZ X0 e0
  have N0 := Fr.nil n0
  have pre0 : ∀ t, Steps p.tables e below (s₁.setTop (mkF m 0 #[(vr a1)] [])) t → Steps p.tables e below (s₁.setTop (entryFrame m #[(.ref a1)] 1)) t := fun t k => castTop (ef_au8_1 m a1) k
  have K0 := Keep.refl h0 []
  have hS0 := hS
  obtain ⟨S_wMAX_LOCK_DELAY, E_wMAX_LOCK_DELAY, S_wGRANTED, E_wGRANTED, S_wQUEUED, E_wQUEUED, F_seconds_wMAX_LOCK_DELAY, F_nanos_wMAX_LOCK_DELAY, S_wZERO, E_wZERO, F_seconds_wZERO, F_nanos_wZERO⟩ := hS0
  obtain ⟨T1, h1, X1, e1, E1, A1, D1, -, st1⟩ := newO X0 hx hZ hown (ow hw 66 rfl) (ow hw 67 rfl) (ow hw 68 rfl) e0 (g := (mkF m 0 #[(vr a1)] [])) rfl (hb hby d8_0) (by decide) (by decide)
  obtain ⟨b1, g1⟩ : ∃ z, z = h0.size := ⟨_, rfl⟩
  rw [← g1] at A1 D1 st1
  have ne2 : a1 ≠ b1 := Nat.ne_of_lt (Nat.lt_of_lt_of_le P0.lt (Nat.le_of_eq g1.symm))
  have ne3 : a2 ≠ b1 := Nat.ne_of_lt (Nat.lt_of_lt_of_le P4.lt (Nat.le_of_eq g1.symm))
  have ne4 : a4 ≠ b1 := Nat.ne_of_lt (Nat.lt_of_lt_of_le P7.lt (Nat.le_of_eq g1.symm))
  have ne5 : a5 ≠ b1 := Nat.ne_of_lt (Nat.lt_of_lt_of_le P10.lt (Nat.le_of_eq g1.symm))
  have g6 : n0 ≤ b1 := Nat.le_trans (own_sz O0) (Nat.le_of_eq g1.symm)
  have sz7 : h0.size ≤ b1 := Nat.le_trans K0.1 (Nat.le_of_eq g1.symm)
  have O8 : Old Z n0 h1 := O0.ext E1
  have K8 : Keep h0 h1 [] := K0.ext E1
  have f9 : Fld Z h1 b1 s13n "this$0" s14n .null := D1 (Or.inr (ow hw 74 rfl)) (ty := (.object s6n)) (by decide)
  have f10 : Fld Z h1 b1 s13n "remaining" "I" (.int 0) := D1 (Or.inl (ow hw 89 rfl)) (ty := .int) (by decide)
  have f11 : Fld Z h1 b1 s13n "lastRet" "I" (.int 0) := D1 (Or.inl (ow hw 91 rfl)) (ty := .int) (by decide)
  have f12 : Fld Z h1 b1 s13n "cursor" "I" (.int 0) := D1 (Or.inl (ow hw 94 rfl)) (ty := .int) (by decide)
  have f13 : Exa Z h1 a1 s6n := (P0.ext E1)
  have f14 : Fld Z h1 a1 s6n "elements" s7n (.ref a2) := (P1.ext E1)
  have f15 : Fld Z h1 a1 s6n "head" "I" (.int 0) := (P2.ext E1)
  have f16 : Fld Z h1 a1 s6n "tail" "I" (.int 1) := (P3.ext E1)
  have f17 : Arv Z h1 a2 k3 (.object s8n) (17 : Int32) ([(.ref a4), .null, .null, .null, .null, .null, .null, .null, .null, .null, .null, .null, .null, .null, .null, .null, .null]) .null := (P4.ext E1)
  obtain ⟨_, _, ⟨T18, L18, k18, n18⟩, -, X18, ⟨Lc18, hQ18, l18, y18, z18⟩, st18⟩ := X1.specialBack hx (y := M8) rfl hown (mvT hZ (ow hw 69 rfl)) (mvT hZ (ow hw 70 rfl)) (mvT hZ (ow hw 72 rfl)) (by decide) (backOf (W := 1) (au9_1 l Z a0 hw [] wMAX_LOCK_DELAY wGRANTED wQUEUED wZERO hS b1 a1 a2 k3 a4 h1 n0 O8 A1 f12 f11 f10 f9 f13 f14 f15 f16 f17 g6 (Ne.symm ne2) (Ne.symm ne3)) hZ (ow hw 72 rfl) (ow hw 68 rfl) (by decide) (by decide)) (g := (mkF m 5 #[(vr a1)] [(.ref a1), (.ref b1), (.ref b1)])) rfl (by rw [hml]; rfl) (Steps.refl _) (a := b1) (argsL := [(.ref a1)]) (rest := [(.ref b1)]) (lenOf pd_5 rfl) rfl (by show 2 * 0 + _ ≤ _; exact Nat.le_of_eq rfl) (hb hby d8_5) (fun _ _ => ⟨rfl, e1, (by decide : 1 + 0 ≤ _), (by decide : 4 + 0 ≤ _)⟩)
  dsimp only [Pt.U, Pt.locs, Pt.cells, Pt.slots] at X18 l18 y18 z18 st18 hQ18
  subst l18 y18 z18
  obtain ⟨rfl, Nq18, K18q, p18_0, p18_1, p18_2, p18_3, p18_4⟩ := hQ18
  have N18 := Fr.app N0 Nq18
  have O19 : Old Z n0 T18.heap := O8.keep K18q (allS g6 all0)
  have K19 : Keep h0 T18.heap [] := K8.trans K18q (allS (Or.inr sz7) all0)
  obtain ⟨fs, hr, hrun, hended, hW, hsame⟩ := X18.leave (v := some (.ref b1)) (fun h => by rw [hret0] at h; cases h)
  refine ⟨_, _, pre0 _ ?_, hrun, hended, _, _, rfl, ?_, ⟨_, rfl⟩, hW, hsame.mono (by decide) (by decide)⟩
  · skip
    show Steps p.tables e below (s₁.setTop (mkF m 0 #[(vr a1)] [])) _
    refine st1 _ ?_
    refine XS.dup X1.here hx rfl (hb hby d8_3) rfl rfl ?_
    refine XS.aloadN X1.here hx rfl (hb hby d8_4) rfl rfl ?_
    refine st18.trans ?_
    jvm_step X18.here [X18.here.top, hx, (hb hby d8_8), X18.method', hret0, Value.isRef, FieldType.isReference]
    first | (intro acts; rw [hr _ acts rfl rfl rfl]) | rw [hr _ _ rfl rfl rfl]
    exact Steps.refl _
  · show Q_au8_1 Z wMAX_LOCK_DELAY wGRANTED wQUEUED wZERO a1 a2 k3 a4 a5 h0 n0 _ T18.heap _
    exact ⟨b1, rfl, N18, K19, sz7, p18_0, p18_1, p18_2, p18_3, p18_4⟩
theorem ef_au12_1 (m : MethodId) (x0 : Addr)  : entryFrame m #[(.ref x0)] 1 = mkF m 0 #[(vr x0)] [] := by first | (simp [entryFrame, mkF, argsToLocals, Value.category]; done) | rfl
theorem d12_7 : decode jdk_54_method_2_code 7 = .ok (.iconst 1, 1) := by decide +kernel
theorem d12_8 : decode jdk_54_method_2_code 8 = .ok (.goto 4, 3) := by decide +kernel
def Q_au12_1 (Z : State) (wMAX_LOCK_DELAY : Addr) (wGRANTED : Addr) (wQUEUED : Addr) (wZERO : Addr) (a1 : Addr) (h0 : Heap) (n0 : Nat) (v : Option Value) (h : Heap) (L : List Loc) : Prop := v = some (.int 1) ∧ Fr n0 L ∧ h = h0
theorem au12_1 (l : Launch) (Z : State) (a0 : Array Value) (hw : ∀ d ∈ tables_1, d.before a0 Z = true) (ws : List Jvm.Cond) (wMAX_LOCK_DELAY : Addr) (wGRANTED : Addr) (wQUEUED : Addr) (wZERO : Addr) (hS : SS Z wMAX_LOCK_DELAY wGRANTED wQUEUED wZERO) (a1 : Addr) (h0 : Heap) (n0 : Nat) (O0 : Old Z n0 h0) (P3 : Fld Z h0 a1 s13n "remaining" "I" (.int 1)) :
    MetB l M10 jdk_54_method_2_code 1 (some .boolean) ws (rmk 0 0 0 0) Z h0 #[(.ref a1)] (Q_au12_1 Z wMAX_LOCK_DELAY wGRANTED wQUEUED wZERO a1 h0 n0) := by
  refine own_body (plainFor_of_name pn_java_util_ArrayDeque_DeqIterator) ?_
  intro p e s m below meth c s₁ hx hby hml hown hnm hret0 hlk0 hZ X0 e0
  have N0 := Fr.nil n0
  have pre0 : ∀ t, Steps p.tables e below (s₁.setTop (mkF m 0 #[(vr a1)] [])) t → Steps p.tables e below (s₁.setTop (entryFrame m #[(.ref a1)] 1)) t := fun t k => castTop (ef_au12_1 m a1) k
  have hS0 := hS
  obtain ⟨S_wMAX_LOCK_DELAY, E_wMAX_LOCK_DELAY, S_wGRANTED, E_wGRANTED, S_wQUEUED, E_wQUEUED, F_seconds_wMAX_LOCK_DELAY, F_nanos_wMAX_LOCK_DELAY, S_wZERO, E_wZERO, F_seconds_wZERO, F_nanos_wZERO⟩ := hS0
  obtain ⟨T1, X1, e1, st1⟩ := getF X0 hx hZ hown (host := "") (Or.inl (ow hw 88 rfl)) Via.refl e0 P3 (g := (mkF m 1 #[(vr a1)] [(.ref a1)])) rfl rfl (hb hby d12_1)
  obtain ⟨fs, hr, hrun, hended, hW, hsame⟩ := X1.leave (v := some (.int 1)) (fun h => by rw [hret0] at h; cases h)
  refine ⟨_, _, pre0 _ ?_, hrun, hended, _, _, rfl, ?_, ⟨_, rfl⟩, hW, hsame.mono (by decide) (by decide)⟩
  · skip
    show Steps p.tables e below (s₁.setTop (mkF m 0 #[(vr a1)] [])) _
    refine XS.aloadN X0.here hx rfl (hb hby d12_0) rfl rfl ?_
    refine st1 _ ?_
    refine XS.ifNo X1.here hx rfl (hb hby d12_4) rfl ((if0 _ _).trans (tlt (by decide : (0 : Int32) < (1 : Int32))).2.2.2) ?_
    refine XS.iconst X1.here hx rfl (hb hby d12_7) ?_
    refine XS.goto X1.here hx rfl (pc0 := 8) (pc' := 12) rfl (hb hby d12_8) (by decide) (by decide) ?_
    exact retN X1 hx (t := .boolean) hret0 (by simp) (hb hby d12_12) hr
  · show Q_au12_1 Z wMAX_LOCK_DELAY wGRANTED wQUEUED wZERO a1 h0 n0 _ T1.heap _
    rw [e1]
    exact ⟨rfl, N0, rfl⟩
theorem d7_21 : decode prog_84_method_14_code 21 = .ok (.aload 4, 2) := by decide +kernel
theorem d7_23 : decode prog_84_method_14_code 23 = .ok (.invokeinterface 91 1, 5) := by decide +kernel
theorem ef_au22_0 (m : MethodId) (x0 : Addr)  : entryFrame m #[(.ref x0)] 3 = mkF m 0 #[(vr x0), .unset, .unset] [] := by first | (simp [entryFrame, mkF, argsToLocals, Value.category]; done) | rfl
theorem d22_0 : decode jdk_54_method_3_code 0 = .ok (.aload_n 0, 1) := by decide +kernel
theorem d22_1 : decode jdk_54_method_3_code 1 = .ok (.getfield 19, 3) := by decide +kernel
theorem d22_4 : decode jdk_54_method_3_code 4 = .ok (.ifCond .gt 11, 3) := by decide +kernel
theorem d22_15 : decode jdk_54_method_3_code 15 = .ok (.aload_n 0, 1) := by decide +kernel
theorem d22_16 : decode jdk_54_method_3_code 16 = .ok (.getfield 1, 3) := by decide +kernel
theorem d22_19 : decode jdk_54_method_3_code 19 = .ok (.getfield 35, 3) := by decide +kernel
theorem d22_22 : decode jdk_54_method_3_code 22 = .ok (.astore_n 1, 1) := by decide +kernel
theorem d22_23 : decode jdk_54_method_3_code 23 = .ok (.aload_n 1, 1) := by decide +kernel
theorem d22_24 : decode jdk_54_method_3_code 24 = .ok (.aload_n 0, 1) := by decide +kernel
theorem d22_25 : decode jdk_54_method_3_code 25 = .ok (.getfield 29, 3) := by decide +kernel
theorem d22_28 : decode jdk_54_method_3_code 28 = .ok (.invokestatic 39, 3) := by decide +kernel
theorem ef_au23_0 (m : MethodId) (x0 : Addr) (x1 : Int32)  : entryFrame m #[(.ref x0), (.int x1)] 3 = mkF m 0 #[(vr x0), (vi x1), .unset] [] := by first | (simp [entryFrame, mkF, argsToLocals, Value.category]; done) | rfl
theorem d23_0 : decode jdk_21_method_11_code 0 = .ok (.aload_n 0, 1) := by decide +kernel
theorem d23_1 : decode jdk_21_method_11_code 1 = .ok (.iload_n 1, 1) := by decide +kernel
theorem d23_2 : decode jdk_21_method_11_code 2 = .ok (.aaload, 1) := by decide +kernel
theorem d23_3 : decode jdk_21_method_11_code 3 = .ok (.astore_n 2, 1) := by decide +kernel
theorem d23_4 : decode jdk_21_method_11_code 4 = .ok (.aload_n 2, 1) := by decide +kernel
theorem d23_5 : decode jdk_21_method_11_code 5 = .ok (.ifnonnull 11, 3) := by decide +kernel
theorem d23_16 : decode jdk_21_method_11_code 16 = .ok (.aload_n 2, 1) := by decide +kernel
theorem d23_17 : decode jdk_21_method_11_code 17 = .ok (.areturn, 1) := by decide +kernel
def Q_au23_0 (Z : State) (wMAX_LOCK_DELAY : Addr) (wGRANTED : Addr) (wQUEUED : Addr) (wZERO : Addr) (a1 : Addr) (k2 : ClassId) (a3 : Addr) (h0 : Heap) (n0 : Nat) (v : Option Value) (h : Heap) (L : List Loc) : Prop := v = some (.ref a3) ∧ Fr n0 L ∧ h = h0
theorem au23_0 (l : Launch) (Z : State) (a0 : Array Value) (hw : ∀ d ∈ tables_1, d.before a0 Z = true) (ws : List Jvm.Cond) (wMAX_LOCK_DELAY : Addr) (wGRANTED : Addr) (wQUEUED : Addr) (wZERO : Addr) (hS : SS Z wMAX_LOCK_DELAY wGRANTED wQUEUED wZERO) (a1 : Addr) (k2 : ClassId) (a3 : Addr) (h0 : Heap) (n0 : Nat) (O0 : Old Z n0 h0) (P0 : Arv Z h0 a1 k2 (.object s8n) (17 : Int32) ([(.ref a3), .null, .null, .null, .null, .null, .null, .null, .null, .null, .null, .null, .null, .null, .null, .null, .null]) .null) :
    MetB l M30 jdk_21_method_11_code 3 (some (.object s8n)) ws (rmk 0 0 0 0) Z h0 #[(.ref a1), (.int 0)] (Q_au23_0 Z wMAX_LOCK_DELAY wGRANTED wQUEUED wZERO a1 k2 a3 h0 n0) := by
  refine own_body (plainFor_of_name pn_java_util_ArrayDeque) ?_
  intro p e s m below meth c s₁ hx hby hml hown hnm hret0 hlk0 hZ X0 e0
  have N0 := Fr.nil n0
  have pre0 : ∀ t, Steps p.tables e below (s₁.setTop (mkF m 0 #[(vr a1), (vi 0), .unset] [])) t → Steps p.tables e below (s₁.setTop (entryFrame m #[(.ref a1), (.int 0)] 3)) t := fun t k => castTop (ef_au23_0 m a1 (0 : Int32)) k
  have hS0 := hS
  obtain ⟨S_wMAX_LOCK_DELAY, E_wMAX_LOCK_DELAY, S_wGRANTED, E_wGRANTED, S_wQUEUED, E_wQUEUED, F_seconds_wMAX_LOCK_DELAY, F_nanos_wMAX_LOCK_DELAY, S_wZERO, E_wZERO, F_seconds_wZERO, F_nanos_wZERO⟩ := hS0
  obtain ⟨cl1, Ar1, q1, Sz1, Nn1, Ha1, Gg1⟩ := (id P0)
  have hin1 : ¬ ((0 : Int32) < 0 ∨ cl1.slots.size ≤ ((0 : Int32)).toNatClampNeg) := inb_of Sz1 ⟨by decide, by decide⟩
  have hat1 : cl1.slots[((0 : Int32)).toNatClampNeg]? = some (.ref a3) := Ha1.at hin1 rfl
  obtain ⟨fs, hr, hrun, hended, hW, hsame⟩ := X0.leave (v := some (.ref a3)) (fun h => by rw [hret0] at h; cases h)
  refine ⟨_, _, pre0 _ ?_, hrun, hended, _, _, rfl, ?_, ⟨_, rfl⟩, hW, hsame.mono (by decide) (by decide)⟩
  · skip
    show Steps p.tables e below (s₁.setTop (mkF m 0 #[(vr a1), (vi 0), .unset] [])) _
    refine XS.aloadN X0.here hx rfl (hb hby d23_0) rfl rfl ?_
    refine XS.iloadN X0.here hx rfl (hb hby d23_1) rfl ?_
    refine X0.aaload hx (j := (0 : Int32)) (v := (.ref a3)) (by rw [e0]; exact Ar1.1) (State.isArrayOf_alike hZ.alike Ar1.2.1) rfl Ar1.2.2 hin1 hat1 (g := (mkF m 2 #[(vr a1), (vi 0), .unset] [(.int 0), (.ref a1)])) rfl rfl (hb hby d23_2) _ ?_
    refine XS.astoreN X0.here hx rfl (hb hby d23_3) rfl rfl (l' := #[(vr a1), (vi 0), (vr a3)]) rfl ?_
    refine XS.aloadN X0.here hx rfl (hb hby d23_4) rfl rfl ?_
    refine XS.ifnonnullYes X0.here hx rfl (pc0 := 5) (pc' := 16) rfl (hb hby d23_5) rfl (by decide) (by decide) ?_
    refine XS.aloadN X0.here hx rfl (hb hby d23_16) rfl rfl ?_
    jvm_step X0.here [X0.here.top, hx, (hb hby d23_17), X0.method', hret0, Value.isRef, FieldType.isReference]
    first | (intro acts; rw [hr _ acts rfl rfl rfl]) | rw [hr _ _ rfl rfl rfl]
    exact Steps.refl _
  · show Q_au23_0 Z wMAX_LOCK_DELAY wGRANTED wQUEUED wZERO a1 k2 a3 h0 n0 _ s₁.heap _
    rw [e0]
    exact ⟨rfl, N0, rfl⟩
theorem d22_31 : decode jdk_54_method_3_code 31 = .ok (.astore_n 2, 1) := by decide +kernel
theorem d22_32 : decode jdk_54_method_3_code 32 = .ok (.aload_n 0, 1) := by decide +kernel
theorem d22_33 : decode jdk_54_method_3_code 33 = .ok (.aload_n 0, 1) := by decide +kernel
theorem d22_34 : decode jdk_54_method_3_code 34 = .ok (.aload_n 0, 1) := by decide +kernel
theorem d22_35 : decode jdk_54_method_3_code 35 = .ok (.getfield 29, 3) := by decide +kernel
theorem d22_38 : decode jdk_54_method_3_code 38 = .ok (.dup_x1, 1) := by decide +kernel
theorem d22_39 : decode jdk_54_method_3_code 39 = .ok (.putfield 23, 3) := by decide +kernel
theorem d22_42 : decode jdk_54_method_3_code 42 = .ok (.aload_n 1, 1) := by decide +kernel
theorem d22_43 : decode jdk_54_method_3_code 43 = .ok (.arraylength, 1) := by decide +kernel
theorem d22_44 : decode jdk_54_method_3_code 44 = .ok (.invokestatic 43, 3) := by decide +kernel
theorem d22_47 : decode jdk_54_method_3_code 47 = .ok (.putfield 29, 3) := by decide +kernel
theorem d22_50 : decode jdk_54_method_3_code 50 = .ok (.aload_n 0, 1) := by decide +kernel
theorem d22_51 : decode jdk_54_method_3_code 51 = .ok (.dup, 1) := by decide +kernel
theorem d22_52 : decode jdk_54_method_3_code 52 = .ok (.getfield 19, 3) := by decide +kernel
theorem d22_55 : decode jdk_54_method_3_code 55 = .ok (.iconst 1, 1) := by decide +kernel
theorem d22_56 : decode jdk_54_method_3_code 56 = .ok (.isub, 1) := by decide +kernel
theorem d22_57 : decode jdk_54_method_3_code 57 = .ok (.putfield 19, 3) := by decide +kernel
theorem d22_60 : decode jdk_54_method_3_code 60 = .ok (.aload_n 2, 1) := by decide +kernel
theorem d22_61 : decode jdk_54_method_3_code 61 = .ok (.areturn, 1) := by decide +kernel
def Q_au22_0 (Z : State) (wMAX_LOCK_DELAY : Addr) (wGRANTED : Addr) (wQUEUED : Addr) (wZERO : Addr) (a1 : Addr) (a2 : Addr) (a3 : Addr) (k4 : ClassId) (a5 : Addr) (h0 : Heap) (n0 : Nat) (v : Option Value) (h : Heap) (L : List Loc) : Prop := v = some (.ref a5) ∧ Fr n0 L ∧ Keep h0 h [a1] ∧ Exa Z h a1 s13n ∧ Fld Z h a1 s13n "cursor" "I" (.int 1) ∧ Fld Z h a1 s13n "lastRet" "I" (.int 0) ∧ Fld Z h a1 s13n "remaining" "I" (.int 0) ∧ Fld Z h a1 s13n "this$0" s14n (.ref a2)
theorem au22_0 (l : Launch) (Z : State) (a0 : Array Value) (hw : ∀ d ∈ tables_1, d.before a0 Z = true) (ws : List Jvm.Cond) (wMAX_LOCK_DELAY : Addr) (wGRANTED : Addr) (wQUEUED : Addr) (wZERO : Addr) (hS : SS Z wMAX_LOCK_DELAY wGRANTED wQUEUED wZERO) (a1 : Addr) (a2 : Addr) (a3 : Addr) (k4 : ClassId) (a5 : Addr) (h0 : Heap) (n0 : Nat) (O0 : Old Z n0 h0) (P0 : Exa Z h0 a1 s13n) (P1 : Fld Z h0 a1 s13n "cursor" "I" (.int 0)) (P2 : Fld Z h0 a1 s13n "lastRet" "I" (.int (-1 : Int32))) (P3 : Fld Z h0 a1 s13n "remaining" "I" (.int 1)) (P4 : Fld Z h0 a1 s13n "this$0" s14n (.ref a2)) (P6 : Fld Z h0 a2 s6n "elements" s7n (.ref a3)) (P9 : Arv Z h0 a3 k4 (.object s8n) (17 : Int32) ([(.ref a5), .null, .null, .null, .null, .null, .null, .null, .null, .null, .null, .null, .null, .null, .null, .null, .null]) .null) (P18 : n0 ≤ a1) (P24 : a1 ≠ a3) :
    MetB l M31 jdk_54_method_3_code 3 (some (.object s8n)) ws (rmk 1 0 0 14) Z h0 #[(.ref a1)] (Q_au22_0 Z wMAX_LOCK_DELAY wGRANTED wQUEUED wZERO a1 a2 a3 k4 a5 h0 n0) := by
  refine own_body (plainFor_of_name pn_java_util_ArrayDeque_DeqIterator) ?_
  intro p e s m below meth c s₁ hx hby hml hown hnm hret0 hlk0 hZ X0 e0
  have N0 := Fr.nil n0
  have pre0 : ∀ t, Steps p.tables e below (s₁.setTop (mkF m 0 #[(vr a1), .unset, .unset] [])) t → Steps p.tables e below (s₁.setTop (entryFrame m #[(.ref a1)] 3)) t := fun t k => castTop (ef_au22_0 m a1) k
  have K0 := Keep.refl h0 [a1]
  have hS0 := hS
  obtain ⟨S_wMAX_LOCK_DELAY, E_wMAX_LOCK_DELAY, S_wGRANTED, E_wGRANTED, S_wQUEUED, E_wQUEUED, F_seconds_wMAX_LOCK_DELAY, F_nanos_wMAX_LOCK_DELAY, S_wZERO, E_wZERO, F_seconds_wZERO, F_nanos_wZERO⟩ := hS0
  obtain ⟨T1, X1, e1, st1⟩ := getF X0 hx hZ hown (host := "") (Or.inl (ow hw 88 rfl)) Via.refl e0 P3 (g := (mkF m 1 #[(vr a1), .unset, .unset] [(.ref a1)])) rfl rfl (hb hby d22_1)
  obtain ⟨T2, X2, e2, st2⟩ := getF X1 hx hZ hown (host := "") (Or.inl (ow hw 73 rfl)) Via.refl e1 P4 (g := (mkF m 16 #[(vr a1), .unset, .unset] [(.ref a1)])) rfl rfl (hb hby d22_16)
  obtain ⟨T3, X3, e3, st3⟩ := getF X2 hx hZ hown (host := "") (Or.inl (ow hw 177 rfl)) Via.refl e2 P6 (g := (mkF m 19 #[(vr a1), .unset, .unset] [(.ref a2)])) rfl rfl (hb hby d22_19)
  obtain ⟨T4, X4, e4, st4⟩ := getF X3 hx hZ hown (host := "") (Or.inl (ow hw 93 rfl)) Via.refl e3 P1 (g := (mkF m 25 #[(vr a1), (vr a3), .unset] [(.ref a1), (.ref a3)])) rfl rfl (hb hby d22_25)
  obtain ⟨_, _, ⟨T5, L5, k5, n5⟩, -, X5, ⟨Lc5, hQ5, l5, y5, z5⟩, st5⟩ := Jvm.LawKit.callS X4 hx (y := M30) hown (mvT hZ (ow hw 178 rfl)) (mvT hZ (ow hw 179 rfl)) (mvT hZ (ow hw 12 rfl)) (mvT hZ (ow hw 180 rfl)) (by decide) (backOf (W := 0) (au23_0 l Z a0 hw [] wMAX_LOCK_DELAY wGRANTED wQUEUED wZERO hS a3 k4 a5 h0 n0 O0 P9) hZ (ow hw 180 rfl) (ow hw 12 rfl) (by decide) (by decide)) (g := (mkF m 28 #[(vr a1), (vr a3), .unset] [(.int 0), (.ref a3)])) rfl (by rw [hml]; rfl) (argsL := [(.ref a3), (.int 0)]) (rest := []) (lenOf pd_13 rfl) rfl (by show 2 * 0 + _ ≤ _; exact Nat.le_of_eq rfl) (hb hby d22_28) (fun _ _ => ⟨rfl, e4, (by decide : 0 + 0 ≤ _), (by decide : 0 + 0 ≤ _)⟩)
  dsimp only [Pt.U, Pt.locs, Pt.cells, Pt.slots] at X5 l5 y5 z5 st5 hQ5
  subst l5 y5 z5
  obtain ⟨rfl, Nq5, K5q⟩ := hQ5
  have N5 := Fr.app N0 Nq5
  obtain ⟨T6, X6, e6, st6⟩ := getF X5 hx hZ hown (host := "") (Or.inl (ow hw 93 rfl)) Via.refl K5q P1 (g := (mkF m 35 #[(vr a1), (vr a3), (vr a5)] [(.ref a1), (.ref a1), (.ref a1)])) rfl rfl (hb hby d22_35)
  obtain ⟨T7, h7, X7, e7, W7, st7⟩ := putF X6 hx hZ hown (host := "") (Or.inl (ow hw 90 rfl)) Via.refl e6 P2 P0 (Or.inl (ow hw 91 rfl)) (ow hw 67 rfl) (ty := .int) (by decide) rfl rfl (g := (mkF m 39 #[(vr a1), (vr a3), (vr a5)] [(.int 0), (.ref a1), (.int 0), (.ref a1)])) rfl rfl (hb hby d22_39)
  have N7 := Fr.snoc X7 N5 P18
  have O8 : Old Z n0 h7 := O0.wr W7 P18
  have K8 : Keep h0 h7 [a1] := K0.wr W7 (Or.inl (List.mem_of_getElem? (i := 0) rfl))
  have Fw7 : Fld Z h7 a1 s13n "lastRet" "I" (.int 0) := P2.same W7
  have f9 : Arv Z h7 a3 k4 (.object s8n) (17 : Int32) ([(.ref a5), .null, .null, .null, .null, .null, .null, .null, .null, .null, .null, .null, .null, .null, .null, .null, .null]) .null := (P9.other W7 (Ne.symm P24))
  obtain ⟨cl10, Ar10, -, Sz10, Nn10, -, -⟩ := (id f9)
  obtain ⟨_, _, ⟨T11, L11, k11, n11⟩, -, X11, ⟨Lc11, hQ11, l11, y11, z11⟩, st11⟩ := Jvm.LawKit.callS X7 hx (y := M26) hown (mvT hZ (ow hw 181 rfl)) (mvT hZ (ow hw 165 rfl)) (mvT hZ (ow hw 12 rfl)) (mvT hZ (ow hw 166 rfl)) (by decide) (backOf (W := 1) (au21_0 l Z a0 hw [] wMAX_LOCK_DELAY wGRANTED wQUEUED wZERO hS  h7 n0 O8 ) hZ (ow hw 166 rfl) (ow hw 12 rfl) (by decide) (by decide)) (g := (mkF m 44 #[(vr a1), (vr a3), (vr a5)] [(.int 17), (.int 0), (.ref a1)])) rfl (by rw [hml]; rfl) (argsL := [(.int 0), (.int 17)]) (rest := [(.ref a1)]) (lenOf pd_17 rfl) rfl (by show 2 * 0 + _ ≤ _; exact Nat.le_of_eq rfl) (hb hby d22_44) (fun _ _ => ⟨rfl, e7, (by decide : 0 + 0 ≤ _), (by decide : 0 + 0 ≤ _)⟩)
  dsimp only [Pt.U, Pt.locs, Pt.cells, Pt.slots] at X11 l11 y11 z11 st11 hQ11
  subst l11 y11 z11
  obtain ⟨rfl, Nq11, K11q⟩ := hQ11
  have N11 := Fr.app N7 Nq11
  have f12 : Exa Z h7 a1 s13n := (P0.wr W7)
  have f13 : Fld Z h7 a1 s13n "cursor" "I" (.int 0) := (P1.other W7 (Or.inr (slot_ne (Or.inl (ow hw 94 rfl)) (Or.inl (ow hw 91 rfl)) (by decide) (t := .int) (t' := .int) (by decide) (by decide))))
  obtain ⟨T14, h14, X14, e14, W14, st14⟩ := putF X11 hx hZ hown (host := "") (Or.inl (ow hw 93 rfl)) Via.refl K11q f13 f12 (Or.inl (ow hw 94 rfl)) (ow hw 67 rfl) (ty := .int) (by decide) rfl rfl (g := (mkF m 47 #[(vr a1), (vr a3), (vr a5)] [(.int 1), (.ref a1)])) rfl rfl (hb hby d22_47)
  have N14 := Fr.snoc X14 N11 P18
  have O15 : Old Z n0 h14 := O8.wr W14 P18
  have K15 : Keep h0 h14 [a1] := K8.wr W14 (Or.inl (List.mem_of_getElem? (i := 0) rfl))
  have Fw14 : Fld Z h14 a1 s13n "cursor" "I" (.int 1) := f13.same W14
  have f16 : Fld Z h14 a1 s13n "remaining" "I" (.int 1) := ((P3.other W7 (Or.inr (slot_ne (Or.inl (ow hw 89 rfl)) (Or.inl (ow hw 91 rfl)) (by decide) (t := .int) (t' := .int) (by decide) (by decide)))).other W14 (Or.inr (slot_ne (Or.inl (ow hw 89 rfl)) (Or.inl (ow hw 94 rfl)) (by decide) (t := .int) (t' := .int) (by decide) (by decide))))
  obtain ⟨T17, X17, e17, st17⟩ := getF X14 hx hZ hown (host := "") (Or.inl (ow hw 88 rfl)) Via.refl e14 f16 (g := (mkF m 52 #[(vr a1), (vr a3), (vr a5)] [(.ref a1), (.ref a1)])) rfl rfl (hb hby d22_52)
  have f18 : Exa Z h14 a1 s13n := (f12.wr W14)
  obtain ⟨T19, h19, X19, e19, W19, st19⟩ := putF X17 hx hZ hown (host := "") (Or.inl (ow hw 88 rfl)) Via.refl e17 f16 f18 (Or.inl (ow hw 89 rfl)) (ow hw 67 rfl) (ty := .int) (by decide) rfl rfl (g := (mkF m 57 #[(vr a1), (vr a3), (vr a5)] [(.int 0), (.ref a1)])) rfl rfl (hb hby d22_57)
  have N19 := Fr.snoc X19 N14 P18
  have O20 : Old Z n0 h19 := O15.wr W19 P18
  have K20 : Keep h0 h19 [a1] := K15.wr W19 (Or.inl (List.mem_of_getElem? (i := 0) rfl))
  have Fw19 : Fld Z h19 a1 s13n "remaining" "I" (.int 0) := f16.same W19
  have f21 : Exa Z h19 a1 s13n := (f18.wr W19)
  have f22 : Fld Z h19 a1 s13n "cursor" "I" (.int 1) := (Fw14.other W19 (Or.inr (slot_ne (Or.inl (ow hw 94 rfl)) (Or.inl (ow hw 89 rfl)) (by decide) (t := .int) (t' := .int) (by decide) (by decide))))
  have f23 : Fld Z h19 a1 s13n "lastRet" "I" (.int 0) := ((Fw7.other W14 (Or.inr (slot_ne (Or.inl (ow hw 91 rfl)) (Or.inl (ow hw 94 rfl)) (by decide) (t := .int) (t' := .int) (by decide) (by decide)))).other W19 (Or.inr (slot_ne (Or.inl (ow hw 91 rfl)) (Or.inl (ow hw 89 rfl)) (by decide) (t := .int) (t' := .int) (by decide) (by decide))))
  have f24 : Fld Z h19 a1 s13n "this$0" s14n (.ref a2) := (((P4.other W7 (Or.inr (slot_ne (Or.inr (ow hw 74 rfl)) (Or.inl (ow hw 91 rfl)) (by decide) (t := (.object s6n)) (t' := .int) (by decide) (by decide)))).other W14 (Or.inr (slot_ne (Or.inr (ow hw 74 rfl)) (Or.inl (ow hw 94 rfl)) (by decide) (t := (.object s6n)) (t' := .int) (by decide) (by decide)))).other W19 (Or.inr (slot_ne (Or.inr (ow hw 74 rfl)) (Or.inl (ow hw 89 rfl)) (by decide) (t := (.object s6n)) (t' := .int) (by decide) (by decide))))
  obtain ⟨fs, hr, hrun, hended, hW, hsame⟩ := X19.leave (v := some (.ref a5)) (fun h => by rw [hret0] at h; cases h)
  refine ⟨_, _, pre0 _ ?_, hrun, hended, _, _, rfl, ?_, ⟨_, rfl⟩, hW, hsame.mono (by decide) (by decide)⟩
  · skip
    show Steps p.tables e below (s₁.setTop (mkF m 0 #[(vr a1), .unset, .unset] [])) _
    refine XS.aloadN X0.here hx rfl (hb hby d22_0) rfl rfl ?_
    refine st1 _ ?_
    refine XS.ifYes X1.here hx rfl (pc0 := 4) (pc' := 15) rfl (hb hby d22_4) rfl ((if0 _ _).trans (tlt (by decide : (0 : Int32) < (1 : Int32))).2.2.1) (by decide) (by decide) ?_
    refine XS.aloadN X1.here hx rfl (hb hby d22_15) rfl rfl ?_
    refine st2 _ ?_
    refine st3 _ ?_
    refine XS.astoreN X3.here hx rfl (hb hby d22_22) rfl rfl (l' := #[(vr a1), (vr a3), .unset]) rfl ?_
    refine XS.aloadN X3.here hx rfl (hb hby d22_23) rfl rfl ?_
    show Steps p.tables e below (T3.setTop (mkF m 24 #[(vr a1), (vr a3), .unset] [(.ref a3)])) _
    refine XS.aloadN X3.here hx rfl (hb hby d22_24) rfl rfl ?_
    refine st4 _ ?_
    refine st5 _ ?_
    refine XS.astoreN X5.here hx rfl (hb hby d22_31) rfl rfl (l' := #[(vr a1), (vr a3), (vr a5)]) rfl ?_
    refine XS.aloadN X5.here hx rfl (hb hby d22_32) rfl rfl ?_
    refine XS.aloadN X5.here hx rfl (hb hby d22_33) rfl rfl ?_
    refine XS.aloadN X5.here hx rfl (hb hby d22_34) rfl rfl ?_
    refine st6 _ ?_
    show Steps p.tables e below (T6.setTop (mkF m 38 #[(vr a1), (vr a3), (vr a5)] [(.int 0), (.ref a1), (.ref a1)])) _
    refine XS.dupX1 X6.here hx rfl (hb hby d22_38) rfl rfl rfl ?_
    refine st7 _ ?_
    refine XS.aloadN X7.here hx rfl (hb hby d22_42) rfl rfl ?_
    refine X7.arraylength hx (by rw [e7]; exact Ar10.1) (State.isArrayOf_alike hZ.alike Ar10.2.1) (g := (mkF m 43 #[(vr a1), (vr a3), (vr a5)] [(.ref a3), (.int 0), (.ref a1)])) rfl rfl (hb hby d22_43) _ ?_
    rw [len_of Sz10 Nn10]
    refine st11 _ ?_
    refine st14 _ ?_
    refine XS.aloadN X14.here hx rfl (hb hby d22_50) rfl rfl ?_
    refine XS.dup X14.here hx rfl (hb hby d22_51) rfl rfl ?_
    show Steps p.tables e below (T14.setTop (mkF m 52 #[(vr a1), (vr a3), (vr a5)] [(.ref a1), (.ref a1)])) _
    refine st17 _ ?_
    refine XS.iconst X17.here hx rfl (hb hby d22_55) ?_
    refine XS.isub X17.here hx rfl (hb hby d22_56) rfl ?_
    refine st19 _ ?_
    refine XS.aloadN X19.here hx rfl (hb hby d22_60) rfl rfl ?_
    jvm_step X19.here [X19.here.top, hx, (hb hby d22_61), X19.method', hret0, Value.isRef, FieldType.isReference]
    first | (intro acts; rw [hr _ acts rfl rfl rfl]) | rw [hr _ _ rfl rfl rfl]
    exact Steps.refl _
  · show Q_au22_0 Z wMAX_LOCK_DELAY wGRANTED wQUEUED wZERO a1 a2 a3 k4 a5 h0 n0 _ T19.heap _
    rw [e19]
    exact ⟨rfl, N19, K20, f21, f22, f23, Fw19, f24⟩
theorem d7_28 : decode prog_84_method_14_code 28 = .ok (.checkcast 57, 3) := by decide +kernel
theorem d7_31 : decode prog_84_method_14_code 31 = .ok (.getfield 95, 3) := by decide +kernel
theorem d7_34 : decode prog_84_method_14_code 34 = .ok (.invokevirtual 101, 3) := by decide +kernel
theorem d7_37 : decode prog_84_method_14_code 37 = .ok (.lload_n 1, 1) := by decide +kernel
theorem d7_38 : decode prog_84_method_14_code 38 = .ok (.lcmp, 1) := by decide +kernel
theorem d7_39 : decode prog_84_method_14_code 39 = .ok (.ifCond .ne (-28), 3) := by decide +kernel
theorem d7_42 : decode prog_84_method_14_code 42 = .ok (.aload 4, 2) := by decide +kernel
theorem d7_44 : decode prog_84_method_14_code 44 = .ok (.invokeinterface 116 1, 5) := by decide +kernel
theorem ef_au26_0 (m : MethodId) (x0 : Addr)  : entryFrame m #[(.ref x0)] 1 = mkF m 0 #[(vr x0)] [] := by first | (simp [entryFrame, mkF, argsToLocals, Value.category]; done) | rfl
theorem d26_0 : decode jdk_54_method_5_code 0 = .ok (.aload_n 0, 1) := by decide +kernel
theorem d26_1 : decode jdk_54_method_5_code 1 = .ok (.getfield 23, 3) := by decide +kernel
theorem d26_4 : decode jdk_54_method_5_code 4 = .ok (.ifCond .ge 11, 3) := by decide +kernel
theorem d26_15 : decode jdk_54_method_5_code 15 = .ok (.aload_n 0, 1) := by decide +kernel
theorem d26_16 : decode jdk_54_method_5_code 16 = .ok (.aload_n 0, 1) := by decide +kernel
theorem d26_17 : decode jdk_54_method_5_code 17 = .ok (.getfield 1, 3) := by decide +kernel
theorem d26_20 : decode jdk_54_method_5_code 20 = .ok (.aload_n 0, 1) := by decide +kernel
theorem d26_21 : decode jdk_54_method_5_code 21 = .ok (.getfield 23, 3) := by decide +kernel
theorem d26_24 : decode jdk_54_method_5_code 24 = .ok (.invokevirtual 53, 3) := by decide +kernel
theorem ef_au27_0 (m : MethodId) (x0 : Addr) (x1 : Int32)  : entryFrame m #[(.ref x0), (.int x1)] 8 = mkF m 0 #[(vr x0), (vi x1), .unset, .unset, .unset, .unset, .unset, .unset] [] := by first | (simp [entryFrame, mkF, argsToLocals, Value.category]; done) | rfl
theorem d27_0 : decode jdk_21_method_36_code 0 = .ok (.aload_n 0, 1) := by decide +kernel
theorem d27_1 : decode jdk_21_method_36_code 1 = .ok (.getfield 3, 3) := by decide +kernel
theorem d27_4 : decode jdk_21_method_36_code 4 = .ok (.astore_n 2, 1) := by decide +kernel
theorem d27_5 : decode jdk_21_method_36_code 5 = .ok (.aload_n 2, 1) := by decide +kernel
theorem d27_6 : decode jdk_21_method_36_code 6 = .ok (.arraylength, 1) := by decide +kernel
theorem d27_7 : decode jdk_21_method_36_code 7 = .ok (.istore_n 3, 1) := by decide +kernel
theorem d27_8 : decode jdk_21_method_36_code 8 = .ok (.iload_n 1, 1) := by decide +kernel
theorem d27_9 : decode jdk_21_method_36_code 9 = .ok (.aload_n 0, 1) := by decide +kernel
theorem d27_10 : decode jdk_21_method_36_code 10 = .ok (.getfield 24, 3) := by decide +kernel
theorem d27_13 : decode jdk_21_method_36_code 13 = .ok (.dup, 1) := by decide +kernel
theorem d27_14 : decode jdk_21_method_36_code 14 = .ok (.istore 4, 2) := by decide +kernel
theorem d27_16 : decode jdk_21_method_36_code 16 = .ok (.iload_n 3, 1) := by decide +kernel
theorem d27_17 : decode jdk_21_method_36_code 17 = .ok (.invokestatic 127, 3) := by decide +kernel
theorem d27_20 : decode jdk_21_method_36_code 20 = .ok (.istore 6, 2) := by decide +kernel
theorem d27_22 : decode jdk_21_method_36_code 22 = .ok (.aload_n 0, 1) := by decide +kernel
theorem d27_23 : decode jdk_21_method_36_code 23 = .ok (.getfield 20, 3) := by decide +kernel
theorem d27_26 : decode jdk_21_method_36_code 26 = .ok (.dup, 1) := by decide +kernel
theorem d27_27 : decode jdk_21_method_36_code 27 = .ok (.istore 5, 2) := by decide +kernel
theorem d27_29 : decode jdk_21_method_36_code 29 = .ok (.iload_n 1, 1) := by decide +kernel
theorem d27_30 : decode jdk_21_method_36_code 30 = .ok (.iload_n 3, 1) := by decide +kernel
theorem d27_31 : decode jdk_21_method_36_code 31 = .ok (.invokestatic 127, 3) := by decide +kernel
theorem d27_34 : decode jdk_21_method_36_code 34 = .ok (.iconst 1, 1) := by decide +kernel
theorem d27_35 : decode jdk_21_method_36_code 35 = .ok (.isub, 1) := by decide +kernel
theorem d27_36 : decode jdk_21_method_36_code 36 = .ok (.istore 7, 2) := by decide +kernel
theorem d27_38 : decode jdk_21_method_36_code 38 = .ok (.iload 6, 2) := by decide +kernel
theorem d27_40 : decode jdk_21_method_36_code 40 = .ok (.iload 7, 2) := by decide +kernel
theorem d27_42 : decode jdk_21_method_36_code 42 = .ok (.if_icmp .ge 75, 3) := by decide +kernel
theorem d27_117 : decode jdk_21_method_36_code 117 = .ok (.aload_n 0, 1) := by decide +kernel
theorem d27_118 : decode jdk_21_method_36_code 118 = .ok (.iload 5, 2) := by decide +kernel
theorem d27_120 : decode jdk_21_method_36_code 120 = .ok (.iload_n 3, 1) := by decide +kernel
theorem d27_121 : decode jdk_21_method_36_code 121 = .ok (.invokestatic 68, 3) := by decide +kernel
theorem ef_au28_0 (m : MethodId) (x0 : Int32) (x1 : Int32)  : entryFrame m #[(.int x0), (.int x1)] 2 = mkF m 0 #[(vi x0), (vi x1)] [] := by first | (simp [entryFrame, mkF, argsToLocals, Value.category]; done) | rfl
theorem d28_0 : decode jdk_21_method_7_code 0 = .ok (.iinc 0 (-1), 3) := by decide +kernel
theorem d28_3 : decode jdk_21_method_7_code 3 = .ok (.iload_n 0, 1) := by decide +kernel
theorem d28_4 : decode jdk_21_method_7_code 4 = .ok (.ifCond .ge 7, 3) := by decide +kernel
theorem d28_11 : decode jdk_21_method_7_code 11 = .ok (.iload_n 0, 1) := by decide +kernel
theorem d28_12 : decode jdk_21_method_7_code 12 = .ok (.ireturn, 1) := by decide +kernel
def Q_au28_0 (Z : State) (wMAX_LOCK_DELAY : Addr) (wGRANTED : Addr) (wQUEUED : Addr) (wZERO : Addr)  (h0 : Heap) (n0 : Nat) (v : Option Value) (h : Heap) (L : List Loc) : Prop := v = some (.int 0) ∧ Fr n0 L ∧ h = h0
theorem au28_0 (l : Launch) (Z : State) (a0 : Array Value) (hw : ∀ d ∈ tables_1, d.before a0 Z = true) (ws : List Jvm.Cond) (wMAX_LOCK_DELAY : Addr) (wGRANTED : Addr) (wQUEUED : Addr) (wZERO : Addr) (hS : SS Z wMAX_LOCK_DELAY wGRANTED wQUEUED wZERO)  (h0 : Heap) (n0 : Nat) (O0 : Old Z n0 h0)  :
    MetB l M32 jdk_21_method_7_code 2 (some .int) ws (rmk 0 0 0 0) Z h0 #[(.int 1), (.int 17)] (Q_au28_0 Z wMAX_LOCK_DELAY wGRANTED wQUEUED wZERO  h0 n0) := by
  refine own_body (plainFor_of_name pn_java_util_ArrayDeque) ?_
  intro p e s m below meth c s₁ hx hby hml hown hnm hret0 hlk0 hZ X0 e0
  have N0 := Fr.nil n0
  have pre0 : ∀ t, Steps p.tables e below (s₁.setTop (mkF m 0 #[(vi 1), (vi 17)] [])) t → Steps p.tables e below (s₁.setTop (entryFrame m #[(.int 1), (.int 17)] 2)) t := fun t k => castTop (ef_au28_0 m (1 : Int32) (17 : Int32)) k
  have hS0 := hS
  obtain ⟨S_wMAX_LOCK_DELAY, E_wMAX_LOCK_DELAY, S_wGRANTED, E_wGRANTED, S_wQUEUED, E_wQUEUED, F_seconds_wMAX_LOCK_DELAY, F_nanos_wMAX_LOCK_DELAY, S_wZERO, E_wZERO, F_seconds_wZERO, F_nanos_wZERO⟩ := hS0
  obtain ⟨fs, hr, hrun, hended, hW, hsame⟩ := X0.leave (v := some (.int 0)) (fun h => by rw [hret0] at h; cases h)
  refine ⟨_, _, pre0 _ ?_, hrun, hended, _, _, rfl, ?_, ⟨_, rfl⟩, hW, hsame.mono (by decide) (by decide)⟩
  · skip
    show Steps p.tables e below (s₁.setTop (mkF m 0 #[(vi 1), (vi 17)] [])) _
    refine XS.iinc X0.here hx rfl (hb hby d28_0) rfl (l' := #[(vi 0), (vi 17)]) rfl ?_
    refine XS.iloadN X0.here hx rfl (hb hby d28_3) rfl ?_
    refine XS.ifYes X0.here hx rfl (pc0 := 4) (pc' := 11) rfl (hb hby d28_4) rfl ((if0 _ _).trans (flt (by decide : ¬ ((0 : Int32) < (0 : Int32)))).2.1) (by decide) (by decide) ?_
    refine XS.iloadN X0.here hx rfl (hb hby d28_11) rfl ?_
    exact retI X0 hx hret0 (hb hby d28_12) hr
  · show Q_au28_0 Z wMAX_LOCK_DELAY wGRANTED wQUEUED wZERO  h0 n0 _ s₁.heap _
    rw [e0]
    exact ⟨rfl, N0, rfl⟩
theorem d27_124 : decode jdk_21_method_36_code 124 = .ok (.putfield 20, 3) := by decide +kernel
theorem d27_127 : decode jdk_21_method_36_code 127 = .ok (.iload_n 1, 1) := by decide +kernel
theorem d27_128 : decode jdk_21_method_36_code 128 = .ok (.aload_n 0, 1) := by decide +kernel
theorem d27_129 : decode jdk_21_method_36_code 129 = .ok (.getfield 20, 3) := by decide +kernel
theorem d27_132 : decode jdk_21_method_36_code 132 = .ok (.if_icmp .gt 17, 3) := by decide +kernel
theorem d27_135 : decode jdk_21_method_36_code 135 = .ok (.aload_n 2, 1) := by decide +kernel
theorem d27_136 : decode jdk_21_method_36_code 136 = .ok (.iload_n 1, 1) := by decide +kernel
theorem d27_137 : decode jdk_21_method_36_code 137 = .ok (.iconst 1, 1) := by decide +kernel
theorem d27_138 : decode jdk_21_method_36_code 138 = .ok (.iadd, 1) := by decide +kernel
theorem d27_139 : decode jdk_21_method_36_code 139 = .ok (.aload_n 2, 1) := by decide +kernel
theorem d27_140 : decode jdk_21_method_36_code 140 = .ok (.iload_n 1, 1) := by decide +kernel
theorem d27_141 : decode jdk_21_method_36_code 141 = .ok (.iload 7, 2) := by decide +kernel
theorem d27_143 : decode jdk_21_method_36_code 143 = .ok (.invokestatic 27, 3) := by decide +kernel
theorem d27_146 : decode jdk_21_method_36_code 146 = .ok (.goto 36, 3) := by decide +kernel
theorem d27_182 : decode jdk_21_method_36_code 182 = .ok (.aload_n 2, 1) := by decide +kernel
theorem d27_183 : decode jdk_21_method_36_code 183 = .ok (.aload_n 0, 1) := by decide +kernel
theorem d27_184 : decode jdk_21_method_36_code 184 = .ok (.getfield 20, 3) := by decide +kernel
theorem d27_187 : decode jdk_21_method_36_code 187 = .ok (.aconst_null, 1) := by decide +kernel
theorem d27_188 : decode jdk_21_method_36_code 188 = .ok (.aastore, 1) := by decide +kernel
theorem d27_189 : decode jdk_21_method_36_code 189 = .ok (.iconst 1, 1) := by decide +kernel
theorem d27_190 : decode jdk_21_method_36_code 190 = .ok (.ireturn, 1) := by decide +kernel
def Q_au27_0 (Z : State) (wMAX_LOCK_DELAY : Addr) (wGRANTED : Addr) (wQUEUED : Addr) (wZERO : Addr) (a1 : Addr) (a2 : Addr) (k3 : ClassId) (a4 : Addr) (h0 : Heap) (n0 : Nat) (v : Option Value) (h : Heap) (L : List Loc) : Prop := v = some (.int 1) ∧ Fr n0 L ∧ Keep h0 h [a1, a2] ∧ Exa Z h a1 s6n ∧ Fld Z h a1 s6n "elements" s7n (.ref a2) ∧ Fld Z h a1 s6n "head" "I" (.int 0) ∧ Fld Z h a1 s6n "tail" "I" (.int 0) ∧ Exa Z h a2 s7n ∧ Arv Z h a2 k3 (.object s8n) (17 : Int32) ([.null, .null, .null, .null, .null, .null, .null, .null, .null, .null, .null, .null, .null, .null, .null, .null, .null]) .null ∧ Ovr Z k3 s8n
theorem au27_0 (l : Launch) (Z : State) (a0 : Array Value) (hw : ∀ d ∈ tables_1, d.before a0 Z = true) (ws : List Jvm.Cond) (wMAX_LOCK_DELAY : Addr) (wGRANTED : Addr) (wQUEUED : Addr) (wZERO : Addr) (hS : SS Z wMAX_LOCK_DELAY wGRANTED wQUEUED wZERO) (a1 : Addr) (a2 : Addr) (k3 : ClassId) (a4 : Addr) (h0 : Heap) (n0 : Nat) (O0 : Old Z n0 h0) (P0 : Exa Z h0 a1 s6n) (P1 : Fld Z h0 a1 s6n "elements" s7n (.ref a2)) (P2 : Fld Z h0 a1 s6n "head" "I" (.int 0)) (P3 : Fld Z h0 a1 s6n "tail" "I" (.int 1)) (P4 : Arv Z h0 a2 k3 (.object s8n) (17 : Int32) ([(.ref a4), .null, .null, .null, .null, .null, .null, .null, .null, .null, .null, .null, .null, .null, .null, .null, .null]) .null) (P5 : Ovr Z k3 s8n) (P6 : Exa Z h0 a2 s7n) (P13 : n0 ≤ a1) (P14 : n0 ≤ a2) (P17 : a1 ≠ a2) :
    MetB l M33 jdk_21_method_36_code 8 (some .boolean) ws (rmk 1 0 0 18) Z h0 #[(.ref a1), (.int 0)] (Q_au27_0 Z wMAX_LOCK_DELAY wGRANTED wQUEUED wZERO a1 a2 k3 a4 h0 n0) := by
  refine own_body (plainFor_of_name pn_java_util_ArrayDeque) ?_
  intro p e s m below meth c s₁ hx hby hml hown hnm hret0 hlk0 hZ X0 e0
  have N0 := Fr.nil n0
  have pre0 : ∀ t, Steps p.tables e below (s₁.setTop (mkF m 0 #[(vr a1), (vi 0), .unset, .unset, .unset, .unset, .unset, .unset] [])) t → Steps p.tables e below (s₁.setTop (entryFrame m #[(.ref a1), (.int 0)] 8)) t := fun t k => castTop (ef_au27_0 m a1 (0 : Int32)) k
  have K0 := Keep.refl h0 [a1, a2]
  have hS0 := hS
  obtain ⟨S_wMAX_LOCK_DELAY, E_wMAX_LOCK_DELAY, S_wGRANTED, E_wGRANTED, S_wQUEUED, E_wQUEUED, F_seconds_wMAX_LOCK_DELAY, F_nanos_wMAX_LOCK_DELAY, S_wZERO, E_wZERO, F_seconds_wZERO, F_nanos_wZERO⟩ := hS0
  obtain ⟨T1, X1, e1, st1⟩ := getF X0 hx hZ hown (host := "") (Or.inl (ow hw 25 rfl)) Via.refl e0 P1 (g := (mkF m 1 #[(vr a1), (vi 0), .unset, .unset, .unset, .unset, .unset, .unset] [(.ref a1)])) rfl rfl (hb hby d27_1)
  obtain ⟨cl2, Ar2, -, Sz2, Nn2, -, -⟩ := (id P4)
  obtain ⟨T3, X3, e3, st3⟩ := getF X1 hx hZ hown (host := "") (Or.inl (ow hw 83 rfl)) Via.refl e1 P2 (g := (mkF m 10 #[(vr a1), (vi 0), (vr a2), (vi 17), .unset, .unset, .unset, .unset] [(.ref a1), (.int 0)])) rfl rfl (hb hby d27_10)
  obtain ⟨_, _, ⟨T4, L4, k4, n4⟩, -, X4, ⟨Lc4, hQ4, l4, y4, z4⟩, st4⟩ := Jvm.LawKit.callS X3 hx (y := M6) hown (mvT hZ (ow hw 85 rfl)) (mvT hZ (ow hw 86 rfl)) (mvT hZ (ow hw 12 rfl)) (mvT hZ (ow hw 87 rfl)) (by decide) (backOf (W := 0) (au11_0 l Z a0 hw [] wMAX_LOCK_DELAY wGRANTED wQUEUED wZERO hS  h0 n0 O0 ) hZ (ow hw 87 rfl) (ow hw 12 rfl) (by decide) (by decide)) (g := (mkF m 17 #[(vr a1), (vi 0), (vr a2), (vi 17), (vi 0), .unset, .unset, .unset] [(.int 17), (.int 0), (.int 0)])) rfl (by rw [hml]; rfl) (argsL := [(.int 0), (.int 0), (.int 17)]) (rest := []) (lenOf pd_3 rfl) rfl (by show 2 * 0 + _ ≤ _; exact Nat.le_of_eq rfl) (hb hby d27_17) (fun _ _ => ⟨rfl, e3, (by decide : 0 + 0 ≤ _), (by decide : 0 + 0 ≤ _)⟩)
  dsimp only [Pt.U, Pt.locs, Pt.cells, Pt.slots] at X4 l4 y4 z4 st4 hQ4
  subst l4 y4 z4
  obtain ⟨rfl, Nq4, K4q⟩ := hQ4
  have N4 := Fr.app N0 Nq4
  obtain ⟨T5, X5, e5, st5⟩ := getF X4 hx hZ hown (host := "") (Or.inl (ow hw 81 rfl)) Via.refl K4q P3 (g := (mkF m 23 #[(vr a1), (vi 0), (vr a2), (vi 17), (vi 0), .unset, (vi 0), .unset] [(.ref a1)])) rfl rfl (hb hby d27_23)
  obtain ⟨_, _, ⟨T6, L6, k6, n6⟩, -, X6, ⟨Lc6, hQ6, l6, y6, z6⟩, st6⟩ := Jvm.LawKit.callS X5 hx (y := M6) hown (mvT hZ (ow hw 85 rfl)) (mvT hZ (ow hw 86 rfl)) (mvT hZ (ow hw 12 rfl)) (mvT hZ (ow hw 87 rfl)) (by decide) (backOf (W := 0) (au11_1 l Z a0 hw [] wMAX_LOCK_DELAY wGRANTED wQUEUED wZERO hS  h0 n0 O0 ) hZ (ow hw 87 rfl) (ow hw 12 rfl) (by decide) (by decide)) (g := (mkF m 31 #[(vr a1), (vi 0), (vr a2), (vi 17), (vi 0), (vi 1), (vi 0), .unset] [(.int 17), (.int 0), (.int 1)])) rfl (by rw [hml]; rfl) (argsL := [(.int 1), (.int 0), (.int 17)]) (rest := []) (lenOf pd_3 rfl) rfl (by show 2 * 0 + _ ≤ _; exact Nat.le_of_eq rfl) (hb hby d27_31) (fun _ _ => ⟨rfl, e5, (by decide : 0 + 0 ≤ _), (by decide : 0 + 0 ≤ _)⟩)
  dsimp only [Pt.U, Pt.locs, Pt.cells, Pt.slots] at X6 l6 y6 z6 st6 hQ6
  subst l6 y6 z6
  obtain ⟨rfl, Nq6, K6q⟩ := hQ6
  have N6 := Fr.app N4 Nq6
  obtain ⟨_, _, ⟨T7, L7, k7, n7⟩, -, X7, ⟨Lc7, hQ7, l7, y7, z7⟩, st7⟩ := Jvm.LawKit.callS X6 hx (y := M32) hown (mvT hZ (ow hw 211 rfl)) (mvT hZ (ow hw 212 rfl)) (mvT hZ (ow hw 12 rfl)) (mvT hZ (ow hw 213 rfl)) (by decide) (backOf (W := 1) (au28_0 l Z a0 hw [] wMAX_LOCK_DELAY wGRANTED wQUEUED wZERO hS  h0 n0 O0 ) hZ (ow hw 213 rfl) (ow hw 12 rfl) (by decide) (by decide)) (g := (mkF m 121 #[(vr a1), (vi 0), (vr a2), (vi 17), (vi 0), (vi 1), (vi 0), (vi 0)] [(.int 17), (.int 1), (.ref a1)])) rfl (by rw [hml]; rfl) (argsL := [(.int 1), (.int 17)]) (rest := [(.ref a1)]) (lenOf pd_17 rfl) rfl (by show 2 * 0 + _ ≤ _; exact Nat.le_of_eq rfl) (hb hby d27_121) (fun _ _ => ⟨rfl, K6q, (by decide : 0 + 0 ≤ _), (by decide : 0 + 0 ≤ _)⟩)
  dsimp only [Pt.U, Pt.locs, Pt.cells, Pt.slots] at X7 l7 y7 z7 st7 hQ7
  subst l7 y7 z7
  obtain ⟨rfl, Nq7, K7q⟩ := hQ7
  have N7 := Fr.app N6 Nq7
  obtain ⟨T8, h8, X8, e8, W8, st8⟩ := putF X7 hx hZ hown (host := "") (Or.inl (ow hw 81 rfl)) Via.refl K7q P3 P0 (Or.inl (ow hw 82 rfl)) (ow hw 11 rfl) (ty := .int) (by decide) rfl rfl (g := (mkF m 124 #[(vr a1), (vi 0), (vr a2), (vi 17), (vi 0), (vi 1), (vi 0), (vi 0)] [(.int 0), (.ref a1)])) rfl rfl (hb hby d27_124)
  have N8 := Fr.snoc X8 N7 P13
  have O9 : Old Z n0 h8 := O0.wr W8 P13
  have K9 : Keep h0 h8 [a1, a2] := K0.wr W8 (Or.inl (List.mem_of_getElem? (i := 0) rfl))
  have Fw8 : Fld Z h8 a1 s6n "tail" "I" (.int 0) := P3.same W8
  obtain ⟨T10, X10, e10, st10⟩ := getF X8 hx hZ hown (host := "") (Or.inl (ow hw 81 rfl)) Via.refl e8 Fw8 (g := (mkF m 129 #[(vr a1), (vi 0), (vr a2), (vi 17), (vi 0), (vi 1), (vi 0), (vi 0)] [(.ref a1), (.int 0)])) rfl rfl (hb hby d27_129)
  have f12 : Arv Z h8 a2 k3 (.object s8n) (17 : Int32) ([(.ref a4), .null, .null, .null, .null, .null, .null, .null, .null, .null, .null, .null, .null, .null, .null, .null, .null]) .null := (P4.other W8 (Ne.symm P17))
  obtain ⟨T11, h11, L11, X11, e11, N11, K11q, V11, st11⟩ := cpA X10 hx hZ hown (ow hw 214 rfl) (ow hw 217 rfl) (ow hw 215 rfl) (ow hw 216 rfl) e10 f12 f12 (us := []) (Or.inr ⟨rfl, rfl, trivial⟩) (by decide) (by decide) (by decide) (by decide) (by decide) rfl (Nat.le_of_ble_eq_true rfl) N8 P14 (g := (mkF m 143 #[(vr a1), (vi 0), (vr a2), (vi 17), (vi 0), (vi 1), (vi 0), (vi 0)] [(.int 0), (.int 0), (.ref a2), (.int 1), (.ref a2)])) rfl (by rw [hml]; rfl) (rest := []) rfl (hb hby d27_143) (by decide) (W := 0) (by show 2 * 0 + _ ≤ _; exact Nat.le_of_eq rfl) (by decide)
  have O13 : Old Z n0 h11 := O9.keep K11q (allS P14 all0)
  have K13 : Keep h0 h11 [a1, a2] := K9.trans K11q (allS (Or.inl (List.mem_of_getElem? (i := 1) rfl)) all0)
  have V11' : Arv Z h11 a2 k3 (.object s8n) (17 : Int32) ([(.ref a4), .null, .null, .null, .null, .null, .null, .null, .null, .null, .null, .null, .null, .null, .null, .null, .null]) .null := V11
  have f14 : Fld Z h11 a1 s6n "tail" "I" (.int 0) := (Fw8.keep K11q (ninS P17 nin0))
  obtain ⟨T15, X15, e15, st15⟩ := getF X11 hx hZ hown (host := "") (Or.inl (ow hw 81 rfl)) Via.refl e11 f14 (g := (mkF m 184 #[(vr a1), (vi 0), (vr a2), (vi 17), (vi 0), (vi 1), (vi 0), (vi 0)] [(.ref a1), (.ref a2)])) rfl rfl (hb hby d27_184)
  obtain ⟨cl16, Ar16, q16, Sz16, Nn16, Ha16, Gg16⟩ := (id V11')
  have hin16 : ¬ ((0 : Int32) < 0 ∨ cl16.slots.size ≤ ((0 : Int32)).toNatClampNeg) := inb_of Sz16 ⟨by decide, by decide⟩
  obtain ⟨T16, h16, X16, e16, W16, st16⟩ := stR X15 hx hZ e15 Ar16 (j := (0 : Int32)) hin16 rfl (Or.inl rfl) (g := (mkF m 188 #[(vr a1), (vi 0), (vr a2), (vi 17), (vi 0), (vi 1), (vi 0), (vi 0)] [.null, (.int 0), (.ref a2)])) rfl rfl (hb hby d27_188)
  have O17 : Old Z n0 h16 := O13.wr W16 P14
  have K17 : Keep h0 h16 [a1, a2] := K13.wr W16 (Or.inl (List.mem_of_getElem? (i := 1) rfl))
  have V16 : Arv Z h16 a2 k3 (.object s8n) (17 : Int32) ([.null, .null, .null, .null, .null, .null, .null, .null, .null, .null, .null, .null, .null, .null, .null, .null, .null]) .null := Arv.set Ar16 q16 Sz16 Nn16 Ha16 Gg16 (v := .null) rfl W16 0 rfl (Nat.le_of_ble_eq_true rfl)
  have N16 := Fr.snoc X16 N11 P14
  have f18 : Exa Z h16 a1 s6n := (((P0.wr W8).keep K11q).wr W16)
  have f19 : Fld Z h16 a1 s6n "elements" s7n (.ref a2) := (((P1.other W8 (Or.inr (slot_ne (Or.inl (ow hw 26 rfl)) (Or.inl (ow hw 82 rfl)) (by decide) (t := (.array (.object s8n))) (t' := .int) (by decide) (by decide)))).keep K11q (ninS P17 nin0)).other W16 (Or.inl P17))
  have f20 : Fld Z h16 a1 s6n "head" "I" (.int 0) := (((P2.other W8 (Or.inr (slot_ne (Or.inl (ow hw 84 rfl)) (Or.inl (ow hw 82 rfl)) (by decide) (t := .int) (t' := .int) (by decide) (by decide)))).keep K11q (ninS P17 nin0)).other W16 (Or.inl P17))
  have f21 : Fld Z h16 a1 s6n "tail" "I" (.int 0) := (f14.other W16 (Or.inl P17))
  have f22 : Exa Z h16 a2 s7n := (((P6.wr W8).keep K11q).wr W16)
  obtain ⟨fs, hr, hrun, hended, hW, hsame⟩ := X16.leave (v := some (.int 1)) (fun h => by rw [hret0] at h; cases h)
  refine ⟨_, _, pre0 _ ?_, hrun, hended, _, _, rfl, ?_, ⟨_, rfl⟩, hW, hsame.mono (by decide) (by decide)⟩
  · skip
    show Steps p.tables e below (s₁.setTop (mkF m 0 #[(vr a1), (vi 0), .unset, .unset, .unset, .unset, .unset, .unset] [])) _
    refine XS.aloadN X0.here hx rfl (hb hby d27_0) rfl rfl ?_
    refine st1 _ ?_
    refine XS.astoreN X1.here hx rfl (hb hby d27_4) rfl rfl (l' := #[(vr a1), (vi 0), (vr a2), .unset, .unset, .unset, .unset, .unset]) rfl ?_
    refine XS.aloadN X1.here hx rfl (hb hby d27_5) rfl rfl ?_
    refine X1.arraylength hx (by rw [e1]; exact Ar2.1) (State.isArrayOf_alike hZ.alike Ar2.2.1) (g := (mkF m 6 #[(vr a1), (vi 0), (vr a2), .unset, .unset, .unset, .unset, .unset] [(.ref a2)])) rfl rfl (hb hby d27_6) _ ?_
    rw [len_of Sz2 Nn2]
    refine XS.istoreN X1.here hx rfl (hb hby d27_7) rfl (l' := #[(vr a1), (vi 0), (vr a2), (vi 17), .unset, .unset, .unset, .unset]) rfl ?_
    refine XS.iloadN X1.here hx rfl (hb hby d27_8) rfl ?_
    refine XS.aloadN X1.here hx rfl (hb hby d27_9) rfl rfl ?_
    show Steps p.tables e below (T1.setTop (mkF m 10 #[(vr a1), (vi 0), (vr a2), (vi 17), .unset, .unset, .unset, .unset] [(.ref a1), (.int 0)])) _
    refine st3 _ ?_
    refine XS.dup X3.here hx rfl (hb hby d27_13) rfl rfl ?_
    refine XS.istore X3.here hx rfl (hb hby d27_14) rfl (l' := #[(vr a1), (vi 0), (vr a2), (vi 17), (vi 0), .unset, .unset, .unset]) rfl ?_
    refine XS.iloadN X3.here hx rfl (hb hby d27_16) rfl ?_
    refine st4 _ ?_
    refine XS.istore X4.here hx rfl (hb hby d27_20) rfl (l' := #[(vr a1), (vi 0), (vr a2), (vi 17), (vi 0), .unset, (vi 0), .unset]) rfl ?_
    refine XS.aloadN X4.here hx rfl (hb hby d27_22) rfl rfl ?_
    refine st5 _ ?_
    show Steps p.tables e below (T5.setTop (mkF m 26 #[(vr a1), (vi 0), (vr a2), (vi 17), (vi 0), .unset, (vi 0), .unset] [(.int 1)])) _
    refine XS.dup X5.here hx rfl (hb hby d27_26) rfl rfl ?_
    refine XS.istore X5.here hx rfl (hb hby d27_27) rfl (l' := #[(vr a1), (vi 0), (vr a2), (vi 17), (vi 0), (vi 1), (vi 0), .unset]) rfl ?_
    refine XS.iloadN X5.here hx rfl (hb hby d27_29) rfl ?_
    refine XS.iloadN X5.here hx rfl (hb hby d27_30) rfl ?_
    refine st6 _ ?_
    refine XS.iconst X6.here hx rfl (hb hby d27_34) ?_
    refine XS.isub X6.here hx rfl (hb hby d27_35) rfl ?_
    refine XS.istore X6.here hx rfl (hb hby d27_36) rfl (l' := #[(vr a1), (vi 0), (vr a2), (vi 17), (vi 0), (vi 1), (vi 0), (vi 0)]) rfl ?_
    show Steps p.tables e below (T6.setTop (mkF m 38 #[(vr a1), (vi 0), (vr a2), (vi 17), (vi 0), (vi 1), (vi 0), (vi 0)] [])) _
    refine XS.iload X6.here hx rfl (hb hby d27_38) rfl ?_
    refine XS.iload X6.here hx rfl (hb hby d27_40) rfl ?_
    refine XS.icmpYes X6.here hx rfl (pc0 := 42) (pc' := 117) rfl (hb hby d27_42) rfl (flt (by decide : ¬ ((0 : Int32) < (0 : Int32)))).2.1 (by decide) (by decide) ?_
    refine XS.aloadN X6.here hx rfl (hb hby d27_117) rfl rfl ?_
    refine XS.iload X6.here hx rfl (hb hby d27_118) rfl ?_
    refine XS.iloadN X6.here hx rfl (hb hby d27_120) rfl ?_
    refine st7 _ ?_
    refine st8 _ ?_
    show Steps p.tables e below (T8.setTop (mkF m 127 #[(vr a1), (vi 0), (vr a2), (vi 17), (vi 0), (vi 1), (vi 0), (vi 0)] [])) _
    refine XS.iloadN X8.here hx rfl (hb hby d27_127) rfl ?_
    refine XS.aloadN X8.here hx rfl (hb hby d27_128) rfl rfl ?_
    refine st10 _ ?_
    refine XS.icmpNo X10.here hx rfl (hb hby d27_132) rfl (flt (by decide : ¬ ((0 : Int32) < (0 : Int32)))).2.2.1 ?_
    refine XS.aloadN X10.here hx rfl (hb hby d27_135) rfl rfl ?_
    refine XS.iloadN X10.here hx rfl (hb hby d27_136) rfl ?_
    refine XS.iconst X10.here hx rfl (hb hby d27_137) ?_
    refine XS.iadd X10.here hx rfl (hb hby d27_138) rfl ?_
    show Steps p.tables e below (T10.setTop (mkF m 139 #[(vr a1), (vi 0), (vr a2), (vi 17), (vi 0), (vi 1), (vi 0), (vi 0)] [(.int 1), (.ref a2)])) _
    refine XS.aloadN X10.here hx rfl (hb hby d27_139) rfl rfl ?_
    refine XS.iloadN X10.here hx rfl (hb hby d27_140) rfl ?_
    refine XS.iload X10.here hx rfl (hb hby d27_141) rfl ?_
    refine st11 _ ?_
    refine XS.goto X11.here hx rfl (pc0 := 146) (pc' := 182) rfl (hb hby d27_146) (by decide) (by decide) ?_
    refine XS.aloadN X11.here hx rfl (hb hby d27_182) rfl rfl ?_
    refine XS.aloadN X11.here hx rfl (hb hby d27_183) rfl rfl ?_
    refine st15 _ ?_
    show Steps p.tables e below (T15.setTop (mkF m 187 #[(vr a1), (vi 0), (vr a2), (vi 17), (vi 0), (vi 1), (vi 0), (vi 0)] [(.int 0), (.ref a2)])) _
    refine XS.aconstNull X15.here hx rfl (hb hby d27_187) ?_
    refine st16 _ ?_
    refine XS.iconst X16.here hx rfl (hb hby d27_189) ?_
    exact retN X16 hx (t := .boolean) hret0 (by simp) (hb hby d27_190) hr
  · show Q_au27_0 Z wMAX_LOCK_DELAY wGRANTED wQUEUED wZERO a1 a2 k3 a4 h0 n0 _ T16.heap _
    rw [e16]
    exact ⟨rfl, N16, K17, f18, f19, f20, f21, f22, V16, P5⟩
theorem pd_19 : parseMethodDescriptor "(I)Z" = some ⟨[.int], some .boolean⟩ := by decide +kernel
theorem d26_27 : decode jdk_54_method_5_code 27 = .ok (.invokevirtual 57, 3) := by decide +kernel
theorem ef_au29_0 (m : MethodId) (x0 : Addr) (x1 : Int32)  : entryFrame m #[(.ref x0), (.int x1)] 2 = mkF m 0 #[(vr x0), (vi x1)] [] := by first | (simp [entryFrame, mkF, argsToLocals, Value.category]; done) | rfl
theorem d29_0 : decode jdk_54_method_4_code 0 = .ok (.iload_n 1, 1) := by decide +kernel
theorem d29_1 : decode jdk_54_method_4_code 1 = .ok (.ifCond .eq 22, 3) := by decide +kernel
theorem d29_4 : decode jdk_54_method_4_code 4 = .ok (.aload_n 0, 1) := by decide +kernel
theorem d29_5 : decode jdk_54_method_4_code 5 = .ok (.aload_n 0, 1) := by decide +kernel
theorem d29_6 : decode jdk_54_method_4_code 6 = .ok (.getfield 29, 3) := by decide +kernel
theorem d29_9 : decode jdk_54_method_4_code 9 = .ok (.aload_n 0, 1) := by decide +kernel
theorem d29_10 : decode jdk_54_method_4_code 10 = .ok (.getfield 1, 3) := by decide +kernel
theorem d29_13 : decode jdk_54_method_4_code 13 = .ok (.getfield 35, 3) := by decide +kernel
theorem d29_16 : decode jdk_54_method_4_code 16 = .ok (.arraylength, 1) := by decide +kernel
theorem d29_17 : decode jdk_54_method_4_code 17 = .ok (.invokestatic 47, 3) := by decide +kernel
theorem d29_20 : decode jdk_54_method_4_code 20 = .ok (.putfield 29, 3) := by decide +kernel
theorem d29_23 : decode jdk_54_method_4_code 23 = .ok (.return_, 1) := by decide +kernel
def Q_au29_0 (Z : State) (wMAX_LOCK_DELAY : Addr) (wGRANTED : Addr) (wQUEUED : Addr) (wZERO : Addr) (a1 : Addr) (a2 : Addr) (a3 : Addr) (k4 : ClassId) (h0 : Heap) (n0 : Nat) (v : Option Value) (h : Heap) (L : List Loc) : Prop := v = none ∧ Fr n0 L ∧ Keep h0 h [a1] ∧ Exa Z h a1 s13n ∧ Fld Z h a1 s13n "cursor" "I" (.int 0) ∧ Fld Z h a1 s13n "lastRet" "I" (.int 0) ∧ Fld Z h a1 s13n "remaining" "I" (.int 0) ∧ Fld Z h a1 s13n "this$0" s14n (.ref a2)
theorem au29_0 (l : Launch) (Z : State) (a0 : Array Value) (hw : ∀ d ∈ tables_1, d.before a0 Z = true) (ws : List Jvm.Cond) (wMAX_LOCK_DELAY : Addr) (wGRANTED : Addr) (wQUEUED : Addr) (wZERO : Addr) (hS : SS Z wMAX_LOCK_DELAY wGRANTED wQUEUED wZERO) (a1 : Addr) (a2 : Addr) (a3 : Addr) (k4 : ClassId) (h0 : Heap) (n0 : Nat) (O0 : Old Z n0 h0) (P0 : Exa Z h0 a1 s13n) (P1 : Fld Z h0 a1 s13n "cursor" "I" (.int 1)) (P2 : Fld Z h0 a1 s13n "lastRet" "I" (.int 0)) (P3 : Fld Z h0 a1 s13n "remaining" "I" (.int 0)) (P4 : Fld Z h0 a1 s13n "this$0" s14n (.ref a2)) (P6 : Fld Z h0 a2 s6n "elements" s7n (.ref a3)) (P9 : Arv Z h0 a3 k4 (.object s8n) (17 : Int32) ([.null, .null, .null, .null, .null, .null, .null, .null, .null, .null, .null, .null, .null, .null, .null, .null, .null]) .null) (P12 : n0 ≤ a1) :
    MetB l M34 jdk_54_method_4_code 2 none ws (rmk 1 0 0 14) Z h0 #[(.ref a1), (.int 1)] (Q_au29_0 Z wMAX_LOCK_DELAY wGRANTED wQUEUED wZERO a1 a2 a3 k4 h0 n0) := by
  refine own_body (plainFor_of_name pn_java_util_ArrayDeque_DeqIterator) ?_
  intro p e s m below meth c s₁ hx hby hml hown hnm hret0 hlk0 hZ X0 e0
  have N0 := Fr.nil n0
  have pre0 : ∀ t, Steps p.tables e below (s₁.setTop (mkF m 0 #[(vr a1), (vi 1)] [])) t → Steps p.tables e below (s₁.setTop (entryFrame m #[(.ref a1), (.int 1)] 2)) t := fun t k => castTop (ef_au29_0 m a1 (1 : Int32)) k
  have K0 := Keep.refl h0 [a1]
  have hS0 := hS
  obtain ⟨S_wMAX_LOCK_DELAY, E_wMAX_LOCK_DELAY, S_wGRANTED, E_wGRANTED, S_wQUEUED, E_wQUEUED, F_seconds_wMAX_LOCK_DELAY, F_nanos_wMAX_LOCK_DELAY, S_wZERO, E_wZERO, F_seconds_wZERO, F_nanos_wZERO⟩ := hS0
  obtain ⟨T1, X1, e1, st1⟩ := getF X0 hx hZ hown (host := "") (Or.inl (ow hw 93 rfl)) Via.refl e0 P1 (g := (mkF m 6 #[(vr a1), (vi 1)] [(.ref a1), (.ref a1)])) rfl rfl (hb hby d29_6)
  obtain ⟨T2, X2, e2, st2⟩ := getF X1 hx hZ hown (host := "") (Or.inl (ow hw 73 rfl)) Via.refl e1 P4 (g := (mkF m 10 #[(vr a1), (vi 1)] [(.ref a1), (.int 1), (.ref a1)])) rfl rfl (hb hby d29_10)
  obtain ⟨T3, X3, e3, st3⟩ := getF X2 hx hZ hown (host := "") (Or.inl (ow hw 177 rfl)) Via.refl e2 P6 (g := (mkF m 13 #[(vr a1), (vi 1)] [(.ref a2), (.int 1), (.ref a1)])) rfl rfl (hb hby d29_13)
  obtain ⟨cl4, Ar4, -, Sz4, Nn4, -, -⟩ := (id P9)
  obtain ⟨_, _, ⟨T5, L5, k5, n5⟩, -, X5, ⟨Lc5, hQ5, l5, y5, z5⟩, st5⟩ := Jvm.LawKit.callS X3 hx (y := M32) hown (mvT hZ (ow hw 223 rfl)) (mvT hZ (ow hw 212 rfl)) (mvT hZ (ow hw 12 rfl)) (mvT hZ (ow hw 213 rfl)) (by decide) (backOf (W := 1) (au28_0 l Z a0 hw [] wMAX_LOCK_DELAY wGRANTED wQUEUED wZERO hS  h0 n0 O0 ) hZ (ow hw 213 rfl) (ow hw 12 rfl) (by decide) (by decide)) (g := (mkF m 17 #[(vr a1), (vi 1)] [(.int 17), (.int 1), (.ref a1)])) rfl (by rw [hml]; rfl) (argsL := [(.int 1), (.int 17)]) (rest := [(.ref a1)]) (lenOf pd_17 rfl) rfl (by show 2 * 0 + _ ≤ _; exact Nat.le_of_eq rfl) (hb hby d29_17) (fun _ _ => ⟨rfl, e3, (by decide : 0 + 0 ≤ _), (by decide : 0 + 0 ≤ _)⟩)
  dsimp only [Pt.U, Pt.locs, Pt.cells, Pt.slots] at X5 l5 y5 z5 st5 hQ5
  subst l5 y5 z5
  obtain ⟨rfl, Nq5, K5q⟩ := hQ5
  have N5 := Fr.app N0 Nq5
  obtain ⟨T6, h6, X6, e6, W6, st6⟩ := putF X5 hx hZ hown (host := "") (Or.inl (ow hw 93 rfl)) Via.refl K5q P1 P0 (Or.inl (ow hw 94 rfl)) (ow hw 67 rfl) (ty := .int) (by decide) rfl rfl (g := (mkF m 20 #[(vr a1), (vi 1)] [(.int 0), (.ref a1)])) rfl rfl (hb hby d29_20)
  have N6 := Fr.snoc X6 N5 P12
  have O7 : Old Z n0 h6 := O0.wr W6 P12
  have K7 : Keep h0 h6 [a1] := K0.wr W6 (Or.inl (List.mem_of_getElem? (i := 0) rfl))
  have Fw6 : Fld Z h6 a1 s13n "cursor" "I" (.int 0) := P1.same W6
  have f8 : Exa Z h6 a1 s13n := (P0.wr W6)
  have f9 : Fld Z h6 a1 s13n "lastRet" "I" (.int 0) := (P2.other W6 (Or.inr (slot_ne (Or.inl (ow hw 91 rfl)) (Or.inl (ow hw 94 rfl)) (by decide) (t := .int) (t' := .int) (by decide) (by decide))))
  have f10 : Fld Z h6 a1 s13n "remaining" "I" (.int 0) := (P3.other W6 (Or.inr (slot_ne (Or.inl (ow hw 89 rfl)) (Or.inl (ow hw 94 rfl)) (by decide) (t := .int) (t' := .int) (by decide) (by decide))))
  have f11 : Fld Z h6 a1 s13n "this$0" s14n (.ref a2) := (P4.other W6 (Or.inr (slot_ne (Or.inr (ow hw 74 rfl)) (Or.inl (ow hw 94 rfl)) (by decide) (t := (.object s6n)) (t' := .int) (by decide) (by decide))))
  obtain ⟨fs, hr, hrun, hended, hW, hsame⟩ := X6.leave (v := none) (fun _ => rfl)
  refine ⟨_, _, pre0 _ ?_, hrun, hended, _, _, rfl, ?_, ⟨_, rfl⟩, hW, hsame.mono (by decide) (by decide)⟩
  · skip
    show Steps p.tables e below (s₁.setTop (mkF m 0 #[(vr a1), (vi 1)] [])) _
    refine XS.iloadN X0.here hx rfl (hb hby d29_0) rfl ?_
    refine XS.ifNo X0.here hx rfl (hb hby d29_1) rfl ((if0 _ _).trans (feq (by decide : ¬ ((1 : Int32) = (0 : Int32)))).1) ?_
    refine XS.aloadN X0.here hx rfl (hb hby d29_4) rfl rfl ?_
    refine XS.aloadN X0.here hx rfl (hb hby d29_5) rfl rfl ?_
    refine st1 _ ?_
    refine XS.aloadN X1.here hx rfl (hb hby d29_9) rfl rfl ?_
    refine st2 _ ?_
    refine st3 _ ?_
    show Steps p.tables e below (T3.setTop (mkF m 16 #[(vr a1), (vi 1)] [(.ref a3), (.int 1), (.ref a1)])) _
    refine X3.arraylength hx (by rw [e3]; exact Ar4.1) (State.isArrayOf_alike hZ.alike Ar4.2.1) (g := (mkF m 16 #[(vr a1), (vi 1)] [(.ref a3), (.int 1), (.ref a1)])) rfl rfl (hb hby d29_16) _ ?_
    rw [len_of Sz4 Nn4]
    refine st5 _ ?_
    refine st6 _ ?_
    exact X6.returnOut hx hret0 (hb hby d29_23) hr
  · show Q_au29_0 Z wMAX_LOCK_DELAY wGRANTED wQUEUED wZERO a1 a2 a3 k4 h0 n0 _ T6.heap _
    rw [e6]
    exact ⟨rfl, N6, K7, f8, Fw6, f9, f10, f11⟩
theorem pd_20 : parseMethodDescriptor "(Z)V" = some ⟨[.boolean], none⟩ := by decide +kernel
theorem d26_30 : decode jdk_54_method_5_code 30 = .ok (.aload_n 0, 1) := by decide +kernel
theorem d26_31 : decode jdk_54_method_5_code 31 = .ok (.iconst (-1), 1) := by decide +kernel
theorem d26_32 : decode jdk_54_method_5_code 32 = .ok (.putfield 23, 3) := by decide +kernel
theorem d26_35 : decode jdk_54_method_5_code 35 = .ok (.return_, 1) := by decide +kernel
def Q_au26_0 (Z : State) (wMAX_LOCK_DELAY : Addr) (wGRANTED : Addr) (wQUEUED : Addr) (wZERO : Addr) (a1 : Addr) (a2 : Addr) (a3 : Addr) (k4 : ClassId) (a5 : Addr) (h0 : Heap) (n0 : Nat) (v : Option Value) (h : Heap) (L : List Loc) : Prop := v = none ∧ Fr n0 L ∧ Keep h0 h [a2, a3, a1] ∧ Exa Z h a2 s6n ∧ Fld Z h a2 s6n "elements" s7n (.ref a3) ∧ Fld Z h a2 s6n "head" "I" (.int 0) ∧ Fld Z h a2 s6n "tail" "I" (.int 0) ∧ Exa Z h a3 s7n ∧ Arv Z h a3 k4 (.object s8n) (17 : Int32) ([.null, .null, .null, .null, .null, .null, .null, .null, .null, .null, .null, .null, .null, .null, .null, .null, .null]) .null ∧ Ovr Z k4 s8n ∧ Exa Z h a1 s13n ∧ Fld Z h a1 s13n "cursor" "I" (.int 0) ∧ Fld Z h a1 s13n "lastRet" "I" (.int (-1 : Int32)) ∧ Fld Z h a1 s13n "remaining" "I" (.int 0) ∧ Fld Z h a1 s13n "this$0" s14n (.ref a2)
theorem au26_0 (l : Launch) (Z : State) (a0 : Array Value) (hw : ∀ d ∈ tables_1, d.before a0 Z = true) (ws : List Jvm.Cond) (wMAX_LOCK_DELAY : Addr) (wGRANTED : Addr) (wQUEUED : Addr) (wZERO : Addr) (hS : SS Z wMAX_LOCK_DELAY wGRANTED wQUEUED wZERO) (a1 : Addr) (a2 : Addr) (a3 : Addr) (k4 : ClassId) (a5 : Addr) (h0 : Heap) (n0 : Nat) (O0 : Old Z n0 h0) (P0 : Exa Z h0 a1 s13n) (P1 : Fld Z h0 a1 s13n "cursor" "I" (.int 1)) (P2 : Fld Z h0 a1 s13n "lastRet" "I" (.int 0)) (P3 : Fld Z h0 a1 s13n "remaining" "I" (.int 0)) (P4 : Fld Z h0 a1 s13n "this$0" s14n (.ref a2)) (P5 : Exa Z h0 a2 s6n) (P6 : Fld Z h0 a2 s6n "elements" s7n (.ref a3)) (P7 : Fld Z h0 a2 s6n "head" "I" (.int 0)) (P8 : Fld Z h0 a2 s6n "tail" "I" (.int 1)) (P9 : Arv Z h0 a3 k4 (.object s8n) (17 : Int32) ([(.ref a5), .null, .null, .null, .null, .null, .null, .null, .null, .null, .null, .null, .null, .null, .null, .null, .null]) .null) (P10 : Ovr Z k4 s8n) (P11 : Exa Z h0 a3 s7n) (P18 : n0 ≤ a1) (P19 : n0 ≤ a2) (P20 : n0 ≤ a3) (P23 : a1 ≠ a2) (P24 : a1 ≠ a3) (P27 : a2 ≠ a3) :
    MetB l M35 jdk_54_method_5_code 1 none ws (rmk 2 0 0 38) Z h0 #[(.ref a1)] (Q_au26_0 Z wMAX_LOCK_DELAY wGRANTED wQUEUED wZERO a1 a2 a3 k4 a5 h0 n0) := by
  refine own_body (plainFor_of_name pn_java_util_ArrayDeque_DeqIterator) ?_
  intro p e s m below meth c s₁ hx hby hml hown hnm hret0 hlk0 hZ X0 e0
  have N0 := Fr.nil n0
  have pre0 : ∀ t, Steps p.tables e below (s₁.setTop (mkF m 0 #[(vr a1)] [])) t → Steps p.tables e below (s₁.setTop (entryFrame m #[(.ref a1)] 1)) t := fun t k => castTop (ef_au26_0 m a1) k
  have K0 := Keep.refl h0 [a2, a3, a1]
  have hS0 := hS
  obtain ⟨S_wMAX_LOCK_DELAY, E_wMAX_LOCK_DELAY, S_wGRANTED, E_wGRANTED, S_wQUEUED, E_wQUEUED, F_seconds_wMAX_LOCK_DELAY, F_nanos_wMAX_LOCK_DELAY, S_wZERO, E_wZERO, F_seconds_wZERO, F_nanos_wZERO⟩ := hS0
  obtain ⟨T1, X1, e1, st1⟩ := getF X0 hx hZ hown (host := "") (Or.inl (ow hw 90 rfl)) Via.refl e0 P2 (g := (mkF m 1 #[(vr a1)] [(.ref a1)])) rfl rfl (hb hby d26_1)
  obtain ⟨T2, X2, e2, st2⟩ := getF X1 hx hZ hown (host := "") (Or.inl (ow hw 73 rfl)) Via.refl e1 P4 (g := (mkF m 17 #[(vr a1)] [(.ref a1), (.ref a1)])) rfl rfl (hb hby d26_17)
  obtain ⟨T3, X3, e3, st3⟩ := getF X2 hx hZ hown (host := "") (Or.inl (ow hw 90 rfl)) Via.refl e2 P2 (g := (mkF m 21 #[(vr a1)] [(.ref a1), (.ref a2), (.ref a1)])) rfl rfl (hb hby d26_21)
  obtain ⟨cq4, kq4, q4a, q4b, q4c⟩ := isOf hZ e3 P5
  obtain ⟨_, _, ⟨T4, L4, k4, n4⟩, -, X4, ⟨Lc4, hQ4, l4, y4, z4⟩, st4⟩ := X3.virtualBack hx (y := M33) (z := M33) hown (mvT hZ (ow hw 206 rfl)) (mvT hZ (ow hw 207 rfl)) (notFace_of_selects (args := #[]) (mvT hZ (ow hw 209 rfl))) (mvT hZ (ow hw 209 rfl)) (mvT hZ (ow hw 208 rfl)) (by decide) (backOf (W := 1) (au27_0 l Z a0 hw [] wMAX_LOCK_DELAY wGRANTED wQUEUED wZERO hS a2 a3 k4 a5 h0 n0 O0 P5 P6 P7 P8 P9 P10 P11 P19 P20 P27) hZ (ow hw 210 rfl) (ow hw 12 rfl) (by decide) (by decide)) q4a q4c (g := (mkF m 24 #[(vr a1)] [(.int 0), (.ref a2), (.ref a1)])) rfl (by rw [hml]; rfl) (Steps.refl _) (argsL := [(.int 0)]) (rest := [(.ref a1)]) (lenOf pd_19 rfl) rfl (by show 2 * 0 + _ ≤ _; exact Nat.le_of_eq rfl) (hb hby d26_24) (fun _ _ => ⟨rfl, e3, (by decide : 0 + 0 ≤ _), (by decide : 0 + 0 ≤ _)⟩)
  dsimp only [Pt.U, Pt.locs, Pt.cells, Pt.slots] at X4 l4 y4 z4 st4 hQ4
  subst l4 y4 z4
  obtain ⟨rfl, Nq4, K4q, p4_0, p4_1, p4_2, p4_3, p4_4, p4_5, p4_6⟩ := hQ4
  have N4 := Fr.app N0 Nq4
  have O5 : Old Z n0 T4.heap := O0.keep K4q (allS P19 (allS P20 all0))
  have K5 : Keep h0 T4.heap [a2, a3, a1] := K0.trans K4q (allS (Or.inl (List.mem_of_getElem? (i := 0) rfl)) (allS (Or.inl (List.mem_of_getElem? (i := 1) rfl)) all0))
  have f6 : Exa Z T4.heap a1 s13n := (P0.keep K4q)
  have f7 : Fld Z T4.heap a1 s13n "cursor" "I" (.int 1) := (P1.keep K4q (ninS P23 (ninS P24 nin0)))
  have f8 : Fld Z T4.heap a1 s13n "lastRet" "I" (.int 0) := (P2.keep K4q (ninS P23 (ninS P24 nin0)))
  have f9 : Fld Z T4.heap a1 s13n "remaining" "I" (.int 0) := (P3.keep K4q (ninS P23 (ninS P24 nin0)))
  have f10 : Fld Z T4.heap a1 s13n "this$0" s14n (.ref a2) := (P4.keep K4q (ninS P23 (ninS P24 nin0)))
  obtain ⟨cq11, kq11, q11a, q11b, q11c⟩ := isOf hZ rfl f6
  obtain ⟨_, _, ⟨T11, L11, k11, n11⟩, -, X11, ⟨Lc11, hQ11, l11, y11, z11⟩, st11⟩ := X4.virtualBack hx (y := M34) (z := M34) hown (mvT hZ (ow hw 218 rfl)) (mvT hZ (ow hw 219 rfl)) (notFace_of_selects (args := #[]) (mvT hZ (ow hw 221 rfl))) (mvT hZ (ow hw 221 rfl)) (mvT hZ (ow hw 220 rfl)) (by decide) (backOf (W := 0) (au29_0 l Z a0 hw [] wMAX_LOCK_DELAY wGRANTED wQUEUED wZERO hS a1 a2 a3 k4 T4.heap n0 O5 f6 f7 f8 f9 f10 p4_1 p4_5 P18) hZ (ow hw 222 rfl) (ow hw 68 rfl) (by decide) (by decide)) q11a q11c (g := (mkF m 27 #[(vr a1)] [(.int 1), (.ref a1)])) rfl (by rw [hml]; rfl) (Steps.refl _) (argsL := [(.int 1)]) (rest := []) (lenOf pd_20 rfl) rfl (by show 2 * 0 + _ ≤ _; exact Nat.le_of_eq rfl) (hb hby d26_27) (fun _ _ => ⟨rfl, rfl, (by decide : 0 + 0 ≤ _), (by decide : 0 + 0 ≤ _)⟩)
  dsimp only [Pt.U, Pt.locs, Pt.cells, Pt.slots] at X11 l11 y11 z11 st11 hQ11
  subst l11 y11 z11
  obtain ⟨rfl, Nq11, K11q, p11_0, p11_1, p11_2, p11_3, p11_4⟩ := hQ11
  have N11 := Fr.app N4 Nq11
  have O12 : Old Z n0 T11.heap := O5.keep K11q (allS P18 all0)
  have K12 : Keep h0 T11.heap [a2, a3, a1] := K5.trans K11q (allS (Or.inl (List.mem_of_getElem? (i := 2) rfl)) all0)
  obtain ⟨T13, h13, X13, e13, W13, st13⟩ := putF X11 hx hZ hown (host := "") (Or.inl (ow hw 90 rfl)) Via.refl rfl p11_2 p11_0 (Or.inl (ow hw 91 rfl)) (ow hw 67 rfl) (ty := .int) (by decide) rfl rfl (g := (mkF m 32 #[(vr a1)] [(.int (-1 : Int32)), (.ref a1)])) rfl rfl (hb hby d26_32)
  have N13 := Fr.snoc X13 N11 P18
  have O14 : Old Z n0 h13 := O12.wr W13 P18
  have K14 : Keep h0 h13 [a2, a3, a1] := K12.wr W13 (Or.inl (List.mem_of_getElem? (i := 2) rfl))
  have Fw13 : Fld Z h13 a1 s13n "lastRet" "I" (.int (-1 : Int32)) := p11_2.same W13
  have f15 : Exa Z h13 a2 s6n := ((p4_0.keep K11q).wr W13)
  have f16 : Fld Z h13 a2 s6n "elements" s7n (.ref a3) := ((p4_1.keep K11q (ninS (Ne.symm P23) nin0)).other W13 (Or.inl (Ne.symm P23)))
  have f17 : Fld Z h13 a2 s6n "head" "I" (.int 0) := ((p4_2.keep K11q (ninS (Ne.symm P23) nin0)).other W13 (Or.inl (Ne.symm P23)))
  have f18 : Fld Z h13 a2 s6n "tail" "I" (.int 0) := ((p4_3.keep K11q (ninS (Ne.symm P23) nin0)).other W13 (Or.inl (Ne.symm P23)))
  have f19 : Exa Z h13 a3 s7n := ((p4_4.keep K11q).wr W13)
  have f20 : Arv Z h13 a3 k4 (.object s8n) (17 : Int32) ([.null, .null, .null, .null, .null, .null, .null, .null, .null, .null, .null, .null, .null, .null, .null, .null, .null]) .null := ((p4_5.keep K11q (ninS (Ne.symm P24) nin0)).other W13 (Ne.symm P24))
  have f21 : Exa Z h13 a1 s13n := (p11_0.wr W13)
  have f22 : Fld Z h13 a1 s13n "cursor" "I" (.int 0) := (p11_1.other W13 (Or.inr (slot_ne (Or.inl (ow hw 94 rfl)) (Or.inl (ow hw 91 rfl)) (by decide) (t := .int) (t' := .int) (by decide) (by decide))))
  have f23 : Fld Z h13 a1 s13n "remaining" "I" (.int 0) := (p11_3.other W13 (Or.inr (slot_ne (Or.inl (ow hw 89 rfl)) (Or.inl (ow hw 91 rfl)) (by decide) (t := .int) (t' := .int) (by decide) (by decide))))
  have f24 : Fld Z h13 a1 s13n "this$0" s14n (.ref a2) := (p11_4.other W13 (Or.inr (slot_ne (Or.inr (ow hw 74 rfl)) (Or.inl (ow hw 91 rfl)) (by decide) (t := (.object s6n)) (t' := .int) (by decide) (by decide))))
  obtain ⟨fs, hr, hrun, hended, hW, hsame⟩ := X13.leave (v := none) (fun _ => rfl)
  refine ⟨_, _, pre0 _ ?_, hrun, hended, _, _, rfl, ?_, ⟨_, rfl⟩, hW, hsame.mono (by decide) (by decide)⟩
  · skip
    show Steps p.tables e below (s₁.setTop (mkF m 0 #[(vr a1)] [])) _
    refine XS.aloadN X0.here hx rfl (hb hby d26_0) rfl rfl ?_
    refine st1 _ ?_
    refine XS.ifYes X1.here hx rfl (pc0 := 4) (pc' := 15) rfl (hb hby d26_4) rfl ((if0 _ _).trans (flt (by decide : ¬ ((0 : Int32) < (0 : Int32)))).2.1) (by decide) (by decide) ?_
    refine XS.aloadN X1.here hx rfl (hb hby d26_15) rfl rfl ?_
    refine XS.aloadN X1.here hx rfl (hb hby d26_16) rfl rfl ?_
    refine st2 _ ?_
    refine XS.aloadN X2.here hx rfl (hb hby d26_20) rfl rfl ?_
    refine st3 _ ?_
    show Steps p.tables e below (T3.setTop (mkF m 24 #[(vr a1)] [(.int 0), (.ref a2), (.ref a1)])) _
    refine st4.trans ?_
    refine st11.trans ?_
    refine XS.aloadN X11.here hx rfl (hb hby d26_30) rfl rfl ?_
    refine XS.iconst X11.here hx rfl (hb hby d26_31) ?_
    refine st13 _ ?_
    exact X13.returnOut hx hret0 (hb hby d26_35) hr
  · show Q_au26_0 Z wMAX_LOCK_DELAY wGRANTED wQUEUED wZERO a1 a2 a3 k4 a5 h0 n0 _ T13.heap _
    rw [e13]
    exact ⟨rfl, N13, K14, f15, f16, f17, f18, f19, f20, p4_6, f21, f22, Fw13, f23, f24⟩
theorem d7_49 : decode prog_84_method_14_code 49 = .ok (.goto (-38), 3) := by decide +kernel
theorem ef_au13_3 (m : MethodId) (x0 : Addr) (x1 : Int64)  : entryFrame m #[(.ref x0), (.long x1)] 3 = mkF m 0 #[(vr x0), (vl x1), .second] [] := by first | (simp [entryFrame, mkF, argsToLocals, Value.category]; done) | rfl
def Q_au13_3 (Z : State) (wMAX_LOCK_DELAY : Addr) (wGRANTED : Addr) (wQUEUED : Addr) (wZERO : Addr) (a1 : Addr) (q2 : Int64) (a4 : Addr) (q6 : Int64) (h0 : Heap) (n0 : Nat) (v : Option Value) (h : Heap) (L : List Loc) : Prop := v = some (.int 1) ∧ Fr n0 L ∧ h = h0
theorem au13_3 (l : Launch) (Z : State) (a0 : Array Value) (hw : ∀ d ∈ tables_1, d.before a0 Z = true) (ws : List Jvm.Cond) (wMAX_LOCK_DELAY : Addr) (wGRANTED : Addr) (wQUEUED : Addr) (wZERO : Addr) (hS : SS Z wMAX_LOCK_DELAY wGRANTED wQUEUED wZERO) (a1 : Addr) (q2 : Int64) (a4 : Addr) (q6 : Int64) (h0 : Heap) (n0 : Nat) (O0 : Old Z n0 h0) (P3 : Fld Z h0 a1 s4n "holder" s9n (.ref a4)) (P6 : Exa Z h0 a4 s3n) (P8 : Fld Z h0 a4 s3n "session" "J" (.long q6)) (P16 : q6 = q2) :
    MetB l M11 prog_84_method_7_code 3 (some .boolean) ws (rmk 1 0 0 12) Z h0 #[(.ref a1), (.long q2)] (Q_au13_3 Z wMAX_LOCK_DELAY wGRANTED wQUEUED wZERO a1 q2 a4 q6 h0 n0) := by
  refine own_body (plainFor_of_name pn_com_example_umpired_umpired_server_NodeLock) ?_
  intro p e s m below meth c s₁ hx hby hml hown hnm hret0 hlk0 hZ X0 e0
  have N0 := Fr.nil n0
  have pre0 : ∀ t, Steps p.tables e below (s₁.setTop (mkF m 0 #[(vr a1), (vl q2), .second] [])) t → Steps p.tables e below (s₁.setTop (entryFrame m #[(.ref a1), (.long q2)] 3)) t := fun t k => castTop (ef_au13_3 m a1 q2) k
  have hS0 := hS
  obtain ⟨S_wMAX_LOCK_DELAY, E_wMAX_LOCK_DELAY, S_wGRANTED, E_wGRANTED, S_wQUEUED, E_wQUEUED, F_seconds_wMAX_LOCK_DELAY, F_nanos_wMAX_LOCK_DELAY, S_wZERO, E_wZERO, F_seconds_wZERO, F_nanos_wZERO⟩ := hS0
  obtain ⟨T1, X1, e1, st1⟩ := getF X0 hx hZ hown (host := "") (Or.inl (ow hw 109 rfl)) Via.refl e0 P3 (g := (mkF m 1 #[(vr a1), (vl q2), .second] [(.ref a1)])) rfl rfl (hb hby d13_1)
  obtain ⟨T2, X2, e2, st2⟩ := getF X1 hx hZ hown (host := "") (Or.inl (ow hw 109 rfl)) Via.refl e1 P3 (g := (mkF m 8 #[(vr a1), (vl q2), .second] [(.ref a1)])) rfl rfl (hb hby d13_8)
  obtain ⟨cq3, kq3, q3a, q3b, q3c⟩ := isOf hZ e2 P6
  obtain ⟨_, _, ⟨T3, L3, k3, n3⟩, -, X3, ⟨Lc3, hQ3, l3, y3, z3⟩, st3⟩ := X2.virtualBack hx (y := M17) (z := M17) hown (mvT hZ (ow hw 184 rfl)) (mvT hZ (ow hw 185 rfl)) (notFace_of_selects (args := #[]) (mvT hZ (ow hw 187 rfl))) (mvT hZ (ow hw 187 rfl)) (mvT hZ (ow hw 186 rfl)) (by decide) (backOf (W := 0) (au24_0 l Z a0 hw [] wMAX_LOCK_DELAY wGRANTED wQUEUED wZERO hS a4 q6 h0 n0 O0 P8) hZ (ow hw 188 rfl) (ow hw 35 rfl) (by decide) (by decide)) q3a q3c (g := (mkF m 11 #[(vr a1), (vl q2), .second] [(.ref a4)])) rfl (by rw [hml]; rfl) (Steps.refl _) (argsL := []) (rest := []) (lenOf pd_12 rfl) rfl (by show 2 * 0 + _ ≤ _; exact Nat.le_of_eq rfl) (hb hby d13_11) (fun _ _ => ⟨rfl, e2, (by decide : 0 + 0 ≤ _), (by decide : 0 + 0 ≤ _)⟩)
  dsimp only [Pt.U, Pt.locs, Pt.cells, Pt.slots] at X3 l3 y3 z3 st3 hQ3
  subst l3 y3 z3
  obtain ⟨rfl, Nq3, K3q⟩ := hQ3
  have N3 := Fr.app N0 Nq3
  obtain ⟨fs, hr, hrun, hended, hW, hsame⟩ := X3.leave (v := some (.int 1)) (fun h => by rw [hret0] at h; cases h)
  refine ⟨_, _, pre0 _ ?_, hrun, hended, _, _, rfl, ?_, ⟨_, rfl⟩, hW, hsame.mono (by decide) (by decide)⟩
  · skip
    show Steps p.tables e below (s₁.setTop (mkF m 0 #[(vr a1), (vl q2), .second] [])) _
    refine XS.aloadN X0.here hx rfl (hb hby d13_0) rfl rfl ?_
    refine st1 _ ?_
    refine XS.ifnullNo X1.here hx rfl (hb hby d13_4) rfl ?_
    refine XS.aloadN X1.here hx rfl (hb hby d13_7) rfl rfl ?_
    refine st2 _ ?_
    refine st3.trans ?_
    refine XS.lloadN X3.here hx rfl (hb hby d13_14) rfl ?_
    refine XS.lcmp X3.here hx rfl (hb hby d13_15) rfl ?_
    show Steps p.tables e below (T3.setTop (mkF m 16 #[(vr a1), (vl q2), .second] [(.int (lcmpW q6 q2))])) _
    refine XS.ifNo X3.here hx rfl (hb hby d13_16) rfl ((if0 _ _).trans (teq ((lw_eq _ _).mpr P16 : (lcmpW q6 q2) = (0 : Int32))).2) ?_
    refine XS.iconst X3.here hx rfl (hb hby d13_19) ?_
    refine XS.goto X3.here hx rfl (pc0 := 20) (pc' := 24) rfl (hb hby d13_20) (by decide) (by decide) ?_
    exact retN X3 hx (t := .boolean) hret0 (by simp) (hb hby d13_24) hr
  · show Q_au13_3 Z wMAX_LOCK_DELAY wGRANTED wQUEUED wZERO a1 q2 a4 q6 h0 n0 _ T3.heap _
    rw [K3q]
    exact ⟨rfl, N3, rfl⟩
def Q_au7_6 (Z : State) (wMAX_LOCK_DELAY : Addr) (wGRANTED : Addr) (wQUEUED : Addr) (wZERO : Addr) (a1 : Addr) (q2 : Int64) (qg3 : Int64) (a4 : Addr) (a5 : Addr) (q6 : Int64) (a7 : Addr) (k8 : ClassId) (a9 : Addr) (a10 : Addr) (q11 : Int64) (h0 : Heap) (n0 : Nat) (v : Option Value) (h : Heap) (L : List Loc) : Prop := v = some .null ∧ Fr n0 L ∧ Keep h0 h [a5, a7, a1] ∧ Exa Z h a5 s6n ∧ Fld Z h a5 s6n "elements" s7n (.ref a7) ∧ Fld Z h a5 s6n "head" "I" (.int 0) ∧ Fld Z h a5 s6n "tail" "I" (.int 0) ∧ Exa Z h a7 s7n ∧ Arv Z h a7 k8 (.object s8n) (17 : Int32) ([.null, .null, .null, .null, .null, .null, .null, .null, .null, .null, .null, .null, .null, .null, .null, .null, .null]) .null ∧ Ovr Z k8 s8n ∧ Exa Z h a1 s4n ∧ Fld Z h a1 s4n "generation" "J" (.long qg3) ∧ Fld Z h a1 s4n "heldBack" "Z" (.int 0) ∧ Fld Z h a1 s4n "holder" s9n .null ∧ Fld Z h a1 s4n s10n s0n (.ref wMAX_LOCK_DELAY) ∧ Fld Z h a1 s4n "waiters" s11n (.ref a5)
theorem au7_6 (l : Launch) (Z : State) (a0 : Array Value) (hw : ∀ d ∈ tables_1, d.before a0 Z = true) (ws : List Jvm.Cond) (wMAX_LOCK_DELAY : Addr) (wGRANTED : Addr) (wQUEUED : Addr) (wZERO : Addr) (hS : SS Z wMAX_LOCK_DELAY wGRANTED wQUEUED wZERO) (a1 : Addr) (q2 : Int64) (qg3 : Int64) (a4 : Addr) (a5 : Addr) (q6 : Int64) (a7 : Addr) (k8 : ClassId) (a9 : Addr) (a10 : Addr) (q11 : Int64) (h0 : Heap) (n0 : Nat) (O0 : Old Z n0 h0) (P0 : Exa Z h0 a1 s4n) (P1 : Fld Z h0 a1 s4n "generation" "J" (.long qg3)) (P2 : Fld Z h0 a1 s4n "heldBack" "Z" (.int 0)) (P3 : Fld Z h0 a1 s4n "holder" s9n (.ref a4)) (P4 : Fld Z h0 a1 s4n s10n s0n (.ref wMAX_LOCK_DELAY)) (P5 : Fld Z h0 a1 s4n "waiters" s11n (.ref a5)) (P6 : Exa Z h0 a4 s3n) (P8 : Fld Z h0 a4 s3n "session" "J" (.long q6)) (P9 : Exa Z h0 a5 s6n) (P10 : Fld Z h0 a5 s6n "elements" s7n (.ref a7)) (P11 : Fld Z h0 a5 s6n "head" "I" (.int 0)) (P12 : Fld Z h0 a5 s6n "tail" "I" (.int 1)) (P13 : Arv Z h0 a7 k8 (.object s8n) (17 : Int32) ([(.ref a9), .null, .null, .null, .null, .null, .null, .null, .null, .null, .null, .null, .null, .null, .null, .null, .null]) .null) (P14 : Ovr Z k8 s8n) (P15 : Exa Z h0 a7 s7n) (P16 : Exa Z h0 a9 s15n) (P18 : Fld Z h0 a9 s15n "owner" s9n (.ref a10)) (P19 : Exa Z h0 a10 s3n) (P21 : Fld Z h0 a10 s3n "session" "J" (.long q11)) (P22 : q6 = q2) (P23 : q11 = q2) (P24 : n0 ≤ a1) (P26 : n0 ≤ a5) (P27 : n0 ≤ a7) (P31 : a1 ≠ a5) (P32 : a1 ≠ a7) (P35 : a4 ≠ a5) (P36 : a4 ≠ a7) (P39 : a5 ≠ a7) :
    MetB l M12 prog_84_method_14_code 6 (some (.object s3n)) ws (rmk 4 1 4 53) Z h0 #[(.ref a1), (.long q2), (.int 0)] (Q_au7_6 Z wMAX_LOCK_DELAY wGRANTED wQUEUED wZERO a1 q2 qg3 a4 a5 q6 a7 k8 a9 a10 q11 h0 n0) := by
  refine own_body (plainFor_of_name pn_com_example_umpired_umpired_server_NodeLock) ?_
  intro p e s m below meth c s₁ hx hby hml hown hnm hret0 hlk0 hZ X0 e0
  have N0 := Fr.nil n0
  have pre0 : ∀ t, Steps p.tables e below (s₁.setTop (mkF m 0 #[(vr a1), (vl q2), .second, (vi 0), .unset, .unset] [])) t → Steps p.tables e below (s₁.setTop (entryFrame m #[(.ref a1), (.long q2), (.int 0)] 6)) t := fun t k => castTop (ef_au7_6 m a1 q2 (0 : Int32)) k
  have K0 := Keep.refl h0 [a5, a7, a1]
  have hS0 := hS
  obtain ⟨S_wMAX_LOCK_DELAY, E_wMAX_LOCK_DELAY, S_wGRANTED, E_wGRANTED, S_wQUEUED, E_wQUEUED, F_seconds_wMAX_LOCK_DELAY, F_nanos_wMAX_LOCK_DELAY, S_wZERO, E_wZERO, F_seconds_wZERO, F_nanos_wZERO⟩ := hS0
  obtain ⟨T1, X1, e1, st1⟩ := getF X0 hx hZ hown (host := "") (Or.inl (ow hw 27 rfl)) Via.refl e0 P5 (g := (mkF m 1 #[(vr a1), (vl q2), .second, (vi 0), .unset, .unset] [(.ref a1)])) rfl rfl (hb hby d7_1)
  obtain ⟨cq2, kq2, q2a, q2b, q2c⟩ := isOf hZ e1 P9
  obtain ⟨_, _, ⟨T2, L2, k2, n2⟩, -, X2, ⟨Lc2, hQ2, l2, y2, z2⟩, st2⟩ := X1.interfaceBack hx (xi := M13) (y := M9) hown (mvT hZ (ow hw 57 rfl)) (mvT hZ (ow hw 58 rfl)) (mvT hZ (ow hw 59 rfl)) (mvT hZ (ow hw 60 rfl)) (mvT hZ (ow hw 61 rfl)) (mvT hZ (ow hw 62 rfl)) (mvT hZ (ow hw 63 rfl)) (mvT hZ (ow hw 64 rfl)) (by decide) (backOf (W := 0) (au8_1 l Z a0 hw [] wMAX_LOCK_DELAY wGRANTED wQUEUED wZERO hS a5 a7 k8 a9 a10 h0 n0 O0 P9 P10 P11 P12 P13 P16 P19) hZ (ow hw 65 rfl) (ow hw 12 rfl) (by decide) (by decide)) q2a q2b q2c (g := (mkF m 4 #[(vr a1), (vl q2), .second, (vi 0), .unset, .unset] [(.ref a5)])) rfl (by rw [hml]; rfl) (Steps.refl _) (argsL := []) (rest := []) (lenOf pd_6 rfl) rfl (by show 2 * 0 + _ ≤ _; exact Nat.le_of_eq rfl) (hb hby d7_4) (fun _ _ => ⟨rfl, e1, (by decide : 0 + 1 ≤ _), (by decide : 0 + 4 ≤ _)⟩)
  dsimp only [Pt.U, Pt.locs, Pt.cells, Pt.slots] at X2 l2 y2 z2 st2 hQ2
  subst l2 y2 z2
  obtain ⟨e1_2, rfl, Nq2, K2q, p2_0, p2_1, p2_2, p2_3, p2_4, p2_5⟩ := hQ2
  have N2 := Fr.app N0 Nq2
  have ne3 : a1 ≠ e1_2 := Nat.ne_of_lt (Nat.lt_of_lt_of_le P0.lt p2_0)
  have ne4 : a4 ≠ e1_2 := Nat.ne_of_lt (Nat.lt_of_lt_of_le P6.lt p2_0)
  have ne5 : a5 ≠ e1_2 := Nat.ne_of_lt (Nat.lt_of_lt_of_le P9.lt p2_0)
  have ne6 : a7 ≠ e1_2 := Nat.ne_of_lt (Nat.lt_of_lt_of_le P13.lt p2_0)
  have ne7 : a9 ≠ e1_2 := Nat.ne_of_lt (Nat.lt_of_lt_of_le P16.lt p2_0)
  have ne8 : a10 ≠ e1_2 := Nat.ne_of_lt (Nat.lt_of_lt_of_le P19.lt p2_0)
  have g9 : n0 ≤ e1_2 := Nat.le_trans (own_sz O0) p2_0
  have sz10 : h0.size ≤ e1_2 := Nat.le_trans K0.1 p2_0
  have O11 : Old Z n0 T2.heap := O0.keep K2q all0
  have K11 : Keep h0 T2.heap [a5, a7, a1] := K0.trans K2q all0
  obtain ⟨cq12, kq12, q12a, q12b, q12c⟩ := isOf hZ rfl p2_1
  obtain ⟨_, _, ⟨T12, L12, k12, n12⟩, -, X12, ⟨Lc12, hQ12, l12, y12, z12⟩, st12⟩ := X2.interfaceBack hx (xi := M14) (y := M10) hown (mvT hZ (ow hw 95 rfl)) (mvT hZ (ow hw 96 rfl)) (mvT hZ (ow hw 97 rfl)) (mvT hZ (ow hw 98 rfl)) (mvT hZ (ow hw 99 rfl)) (mvT hZ (ow hw 100 rfl)) (mvT hZ (ow hw 101 rfl)) (mvT hZ (ow hw 102 rfl)) (by decide) (backOf (W := 0) (au12_1 l Z a0 hw [] wMAX_LOCK_DELAY wGRANTED wQUEUED wZERO hS e1_2 T2.heap n0 O11 p2_4) hZ (ow hw 103 rfl) (ow hw 68 rfl) (by decide) (by decide)) q12a q12b q12c (g := (mkF m 13 #[(vr a1), (vl q2), .second, (vi 0), (vr e1_2), .unset] [(.ref e1_2)])) rfl (by rw [hml]; rfl) (Steps.refl _) (argsL := []) (rest := []) (lenOf pd_7 rfl) rfl (by show 2 * 0 + _ ≤ _; exact Nat.le_of_eq rfl) (hb hby d7_13) (fun _ _ => ⟨rfl, rfl, (by decide : 1 + 0 ≤ _), (by decide : 4 + 0 ≤ _)⟩)
  dsimp only [Pt.U, Pt.locs, Pt.cells, Pt.slots] at X12 l12 y12 z12 st12 hQ12
  subst l12 y12 z12
  obtain ⟨rfl, Nq12, K12q⟩ := hQ12
  have N12 := Fr.app N2 Nq12
  have f13 : Fld Z T2.heap a5 s6n "elements" s7n (.ref a7) := (P10.keep K2q nin0)
  have f14 : Arv Z T2.heap a7 k8 (.object s8n) (17 : Int32) ([(.ref a9), .null, .null, .null, .null, .null, .null, .null, .null, .null, .null, .null, .null, .null, .null, .null, .null]) .null := (P13.keep K2q nin0)
  obtain ⟨cq15, kq15, q15a, q15b, q15c⟩ := isOf hZ K12q p2_1
  obtain ⟨_, _, ⟨T15, L15, k15, n15⟩, -, X15, ⟨Lc15, hQ15, l15, y15, z15⟩, st15⟩ := X12.interfaceBack hx (xi := M36) (y := M31) hown (mvT hZ (ow hw 169 rfl)) (mvT hZ (ow hw 170 rfl)) (mvT hZ (ow hw 171 rfl)) (mvT hZ (ow hw 172 rfl)) (mvT hZ (ow hw 173 rfl)) (mvT hZ (ow hw 174 rfl)) (mvT hZ (ow hw 175 rfl)) (mvT hZ (ow hw 102 rfl)) (by decide) (backOf (W := 0) (au22_0 l Z a0 hw [] wMAX_LOCK_DELAY wGRANTED wQUEUED wZERO hS e1_2 a5 a7 k8 a9 T2.heap n0 O11 p2_1 p2_2 p2_3 p2_4 p2_5 f13 f14 g9 (Ne.symm ne6)) hZ (ow hw 176 rfl) (ow hw 68 rfl) (by decide) (by decide)) q15a q15b q15c (g := (mkF m 23 #[(vr a1), (vl q2), .second, (vi 0), (vr e1_2), .unset] [(.ref e1_2)])) rfl (by rw [hml]; rfl) (Steps.refl _) (argsL := []) (rest := []) (lenOf pd_14 rfl) rfl (by show 2 * 0 + _ ≤ _; exact Nat.le_of_eq rfl) (hb hby d7_23) (fun _ _ => ⟨rfl, K12q, (by decide : 1 + 0 ≤ _), (by decide : 4 + 0 ≤ _)⟩)
  dsimp only [Pt.U, Pt.locs, Pt.cells, Pt.slots] at X15 l15 y15 z15 st15 hQ15
  subst l15 y15 z15
  obtain ⟨rfl, Nq15, K15q, p15_0, p15_1, p15_2, p15_3, p15_4⟩ := hQ15
  have N15 := Fr.app N12 Nq15
  have O16 : Old Z n0 T15.heap := O11.keep K15q (allS g9 all0)
  have K16 : Keep h0 T15.heap [a5, a7, a1] := K11.trans K15q (allS (Or.inr sz10) all0)
  have f17 : Exa Z T15.heap a9 s15n := ((P16.keep K2q).keep K15q)
  obtain ⟨T18, X18, e18, st18⟩ := castY X15 hx hZ hown (ow hw 139 rfl) rfl (Ins.self f17) (g := (mkF m 28 #[(vr a1), (vl q2), .second, (vi 0), (vr e1_2), .unset] [(.ref a9)])) rfl rfl (hb hby d7_28)
  have f19 : Fld Z T15.heap a9 s15n "owner" s9n (.ref a10) := ((P18.keep K2q nin0).keep K15q (ninS ne7 nin0))
  obtain ⟨T20, X20, e20, st20⟩ := own_getR X18 hx hZ hown (ow hw 183 rfl) e18 f19 (g := (mkF m 31 #[(vr a1), (vl q2), .second, (vi 0), (vr e1_2), .unset] [(.ref a9)])) rfl rfl (hb hby d7_31)
  have f21 : Fld Z T15.heap a10 s3n "session" "J" (.long q11) := ((P21.keep K2q nin0).keep K15q (ninS ne8 nin0))
  have f23 : Exa Z T15.heap a10 s3n := ((P19.keep K2q).keep K15q)
  obtain ⟨cq22, kq22, q22a, q22b, q22c⟩ := isOf hZ e20 f23
  obtain ⟨_, _, ⟨T22, L22, k22, n22⟩, -, X22, ⟨Lc22, hQ22, l22, y22, z22⟩, st22⟩ := X20.virtualBack hx (y := M17) (z := M17) hown (mvT hZ (ow hw 184 rfl)) (mvT hZ (ow hw 185 rfl)) (notFace_of_selects (args := #[]) (mvT hZ (ow hw 187 rfl))) (mvT hZ (ow hw 187 rfl)) (mvT hZ (ow hw 186 rfl)) (by decide) (backOf (W := 0) (au24_0 l Z a0 hw [] wMAX_LOCK_DELAY wGRANTED wQUEUED wZERO hS a10 q11 T15.heap n0 O16 f21) hZ (ow hw 188 rfl) (ow hw 35 rfl) (by decide) (by decide)) q22a q22c (g := (mkF m 34 #[(vr a1), (vl q2), .second, (vi 0), (vr e1_2), .unset] [(.ref a10)])) rfl (by rw [hml]; rfl) (Steps.refl _) (argsL := []) (rest := []) (lenOf pd_12 rfl) rfl (by show 2 * 0 + _ ≤ _; exact Nat.le_of_eq rfl) (hb hby d7_34) (fun _ _ => ⟨rfl, e20, (by decide : 1 + 0 ≤ _), (by decide : 4 + 0 ≤ _)⟩)
  dsimp only [Pt.U, Pt.locs, Pt.cells, Pt.slots] at X22 l22 y22 z22 st22 hQ22
  subst l22 y22 z22
  obtain ⟨rfl, Nq22, K22q⟩ := hQ22
  have N22 := Fr.app N15 Nq22
  have f24 : Exa Z T15.heap a5 s6n := ((P9.keep K2q).keep K15q)
  have f25 : Fld Z T15.heap a5 s6n "elements" s7n (.ref a7) := (f13.keep K15q (ninS ne5 nin0))
  have f26 : Fld Z T15.heap a5 s6n "head" "I" (.int 0) := ((P11.keep K2q nin0).keep K15q (ninS ne5 nin0))
  have f27 : Fld Z T15.heap a5 s6n "tail" "I" (.int 1) := ((P12.keep K2q nin0).keep K15q (ninS ne5 nin0))
  have f28 : Arv Z T15.heap a7 k8 (.object s8n) (17 : Int32) ([(.ref a9), .null, .null, .null, .null, .null, .null, .null, .null, .null, .null, .null, .null, .null, .null, .null, .null]) .null := (f14.keep K15q (ninS ne6 nin0))
  have f29 : Exa Z T15.heap a7 s7n := ((P15.keep K2q).keep K15q)
  obtain ⟨cq30, kq30, q30a, q30b, q30c⟩ := isOf hZ K22q p15_0
  obtain ⟨_, _, ⟨T30, L30, k30, n30⟩, -, X30, ⟨Lc30, hQ30, l30, y30, z30⟩, st30⟩ := X22.interfaceBack hx (xi := M37) (y := M35) hown (mvT hZ (ow hw 198 rfl)) (mvT hZ (ow hw 199 rfl)) (mvT hZ (ow hw 200 rfl)) (mvT hZ (ow hw 201 rfl)) (mvT hZ (ow hw 202 rfl)) (mvT hZ (ow hw 203 rfl)) (mvT hZ (ow hw 204 rfl)) (mvT hZ (ow hw 102 rfl)) (by decide) (backOf (W := 0) (au26_0 l Z a0 hw [] wMAX_LOCK_DELAY wGRANTED wQUEUED wZERO hS e1_2 a5 a7 k8 a9 T15.heap n0 O16 p15_0 p15_1 p15_2 p15_3 p15_4 f24 f25 f26 f27 f28 P14 f29 g9 P26 P27 (Ne.symm ne5) (Ne.symm ne6) P39) hZ (ow hw 205 rfl) (ow hw 68 rfl) (by decide) (by decide)) q30a q30b q30c (g := (mkF m 44 #[(vr a1), (vl q2), .second, (vi 0), (vr e1_2), .unset] [(.ref e1_2)])) rfl (by rw [hml]; rfl) (Steps.refl _) (argsL := []) (rest := []) (lenOf pd_0 rfl) rfl (by show 2 * 0 + _ ≤ _; exact Nat.le_of_eq rfl) (hb hby d7_44) (fun _ _ => ⟨rfl, K22q, (by decide : 1 + 0 ≤ _), (by decide : 4 + 0 ≤ _)⟩)
  dsimp only [Pt.U, Pt.locs, Pt.cells, Pt.slots] at X30 l30 y30 z30 st30 hQ30
  subst l30 y30 z30
  obtain ⟨rfl, Nq30, K30q, p30_0, p30_1, p30_2, p30_3, p30_4, p30_5, p30_6, p30_7, p30_8, p30_9, p30_10, p30_11⟩ := hQ30
  have N30 := Fr.app N22 Nq30
  have O31 : Old Z n0 T30.heap := O16.keep K30q (allS P26 (allS P27 (allS g9 all0)))
  have K31 : Keep h0 T30.heap [a5, a7, a1] := K16.trans K30q (allS (Or.inl (List.mem_of_getElem? (i := 0) rfl)) (allS (Or.inl (List.mem_of_getElem? (i := 1) rfl)) (allS (Or.inr sz10) all0)))
  obtain ⟨cq32, kq32, q32a, q32b, q32c⟩ := isOf hZ rfl p30_7
  obtain ⟨_, _, ⟨T32, L32, k32, n32⟩, -, X32, ⟨Lc32, hQ32, l32, y32, z32⟩, st32⟩ := X30.interfaceBack hx (xi := M14) (y := M10) hown (mvT hZ (ow hw 95 rfl)) (mvT hZ (ow hw 96 rfl)) (mvT hZ (ow hw 97 rfl)) (mvT hZ (ow hw 98 rfl)) (mvT hZ (ow hw 99 rfl)) (mvT hZ (ow hw 100 rfl)) (mvT hZ (ow hw 101 rfl)) (mvT hZ (ow hw 102 rfl)) (by decide) (backOf (W := 0) (au12_0 l Z a0 hw [] wMAX_LOCK_DELAY wGRANTED wQUEUED wZERO hS e1_2 T30.heap n0 O31 p30_10) hZ (ow hw 103 rfl) (ow hw 68 rfl) (by decide) (by decide)) q32a q32b q32c (g := (mkF m 13 #[(vr a1), (vl q2), .second, (vi 0), (vr e1_2), .unset] [(.ref e1_2)])) rfl (by rw [hml]; rfl) (Steps.refl _) (argsL := []) (rest := []) (lenOf pd_7 rfl) rfl (by show 2 * 0 + _ ≤ _; exact Nat.le_of_eq rfl) (hb hby d7_13) (fun _ _ => ⟨rfl, rfl, (by decide : 1 + 0 ≤ _), (by decide : 4 + 0 ≤ _)⟩)
  dsimp only [Pt.U, Pt.locs, Pt.cells, Pt.slots] at X32 l32 y32 z32 st32 hQ32
  subst l32 y32 z32
  obtain ⟨rfl, Nq32, K32q⟩ := hQ32
  have N32 := Fr.app N30 Nq32
  have f33 : Fld Z T30.heap a1 s4n "holder" s9n (.ref a4) := (((P3.keep K2q nin0).keep K15q (ninS ne3 nin0)).keep K30q (ninS P31 (ninS P32 (ninS ne3 nin0))))
  have f34 : Exa Z T30.heap a4 s3n := (((P6.keep K2q).keep K15q).keep K30q)
  have f35 : Fld Z T30.heap a4 s3n "session" "J" (.long q6) := (((P8.keep K2q nin0).keep K15q (ninS ne4 nin0)).keep K30q (ninS P35 (ninS P36 (ninS ne4 nin0))))
  have f37 : Exa Z T30.heap a1 s4n := (((P0.keep K2q).keep K15q).keep K30q)
  obtain ⟨cq36, kq36, q36a, q36b, q36c⟩ := isOf hZ K32q f37
  obtain ⟨_, _, ⟨T36, L36, k36, n36⟩, -, X36, ⟨Lc36, hQ36, l36, y36, z36⟩, st36⟩ := X32.virtualBack hx (y := M11) (z := M11) hown (mvT hZ (ow hw 104 rfl)) (mvT hZ (ow hw 105 rfl)) (notFace_of_selects (args := #[]) (mvT hZ (ow hw 107 rfl))) (mvT hZ (ow hw 107 rfl)) (mvT hZ (ow hw 106 rfl)) (by decide) (backOf (W := 0) (au13_3 l Z a0 hw [] wMAX_LOCK_DELAY wGRANTED wQUEUED wZERO hS a1 q2 a4 q6 T30.heap n0 O31 f33 f34 f35 P22) hZ (ow hw 108 rfl) (ow hw 3 rfl) (by decide) (by decide)) q36a q36c (g := (mkF m 57 #[(vr a1), (vl q2), .second, (vi 0), (vr e1_2), .val .null] [(.long q2), (.ref a1)])) rfl (by rw [hml]; rfl) (Steps.refl _) (argsL := [(.long q2)]) (rest := []) (lenOf pd_2 rfl) rfl (by show 2 * 0 + _ ≤ _; exact Nat.le_of_eq rfl) (hb hby d7_57) (fun _ _ => ⟨rfl, K32q, (by decide : 1 + 0 ≤ _), (by decide : 4 + 0 ≤ _)⟩)
  dsimp only [Pt.U, Pt.locs, Pt.cells, Pt.slots] at X36 l36 y36 z36 st36 hQ36
  subst l36 y36 z36
  obtain ⟨rfl, Nq36, K36q⟩ := hQ36
  have N36 := Fr.app N32 Nq36
  obtain ⟨T38, h38, X38, e38, W38, st38⟩ := putF X36 hx hZ hown (host := "") (Or.inl (ow hw 109 rfl)) Via.refl K36q f33 f37 (Or.inl (ow hw 110 rfl)) (ow hw 2 rfl) (ty := (.object s3n)) (by decide) rfl rfl (g := (mkF m 65 #[(vr a1), (vl q2), .second, (vi 0), (vr e1_2), .val .null] [.null, (.ref a1)])) rfl rfl (hb hby d7_65)
  have N38 := Fr.snoc X38 N36 P24
  have O39 : Old Z n0 h38 := O31.wr W38 P24
  have K39 : Keep h0 h38 [a5, a7, a1] := K31.wr W38 (Or.inl (List.mem_of_getElem? (i := 2) rfl))
  have Fw38 : Fld Z h38 a1 s4n "holder" s9n .null := f33.same W38
  have f40 : Exa Z h38 a1 s4n := (f37.wr W38)
  have f41 : Fld Z h38 a1 s4n "heldBack" "Z" (.int 0) := ((((P2.keep K2q nin0).keep K15q (ninS ne3 nin0)).keep K30q (ninS P31 (ninS P32 (ninS ne3 nin0)))).other W38 (Or.inr (slot_ne (Or.inl (ow hw 51 rfl)) (Or.inl (ow hw 110 rfl)) (by decide) (t := .boolean) (t' := (.object s3n)) (by decide) (by decide))))
  obtain ⟨T42, h42, X42, e42, W42, st42⟩ := putFN X38 hx hZ hown (ow hw 50 rfl) Via.refl e38 f41 f40 (Or.inl (ow hw 51 rfl)) (ow hw 2 rfl) (ty := .boolean) (v' := (.int 0)) (by decide) rfl rfl (g := (mkF m 88 #[(vr a1), (vl q2), .second, (vi 0), (vr e1_2), .val .null] [(.int 0), (.ref a1)])) rfl rfl (hb hby d7_88)
  have N42 := Fr.snoc X42 N38 P24
  have O43 : Old Z n0 h42 := O39.wr W42 P24
  have K43 : Keep h0 h42 [a5, a7, a1] := K39.wr W42 (Or.inl (List.mem_of_getElem? (i := 2) rfl))
  have Fw42 : Fld Z h42 a1 s4n "heldBack" "Z" (.int 0) := f41.same W42
  obtain ⟨T44, X44, e44, st44⟩ := getF X42 hx hZ hown (host := "") (Or.inl (ow hw 50 rfl)) Via.refl e42 Fw42 (g := (mkF m 92 #[(vr a1), (vl q2), .second, (vi 0), (vr e1_2), .val .null] [(.ref a1)])) rfl rfl (hb hby d7_92)
  have f45 : Fld Z h42 a1 s4n "waiters" s11n (.ref a5) := (((((P5.keep K2q nin0).keep K15q (ninS ne3 nin0)).keep K30q (ninS P31 (ninS P32 (ninS ne3 nin0)))).other W38 (Or.inr (slot_ne (Or.inr (ow hw 28 rfl)) (Or.inl (ow hw 110 rfl)) (by decide) (t := (.object s12n)) (t' := (.object s3n)) (by decide) (by decide)))).other W42 (Or.inr (slot_ne (Or.inr (ow hw 28 rfl)) (Or.inl (ow hw 51 rfl)) (by decide) (t := (.object s12n)) (t' := .boolean) (by decide) (by decide))))
  have f46 : Exa Z h42 a5 s6n := ((p30_0.wr W38).wr W42)
  have f47 : Fld Z h42 a5 s6n "elements" s7n (.ref a7) := ((p30_1.other W38 (Or.inl (Ne.symm P31))).other W42 (Or.inl (Ne.symm P31)))
  have f48 : Fld Z h42 a5 s6n "head" "I" (.int 0) := ((p30_2.other W38 (Or.inl (Ne.symm P31))).other W42 (Or.inl (Ne.symm P31)))
  have f49 : Arv Z h42 a7 k8 (.object s8n) (17 : Int32) ([.null, .null, .null, .null, .null, .null, .null, .null, .null, .null, .null, .null, .null, .null, .null, .null, .null]) .null := ((p30_5.other W38 (Ne.symm P32)).other W42 (Ne.symm P32))
  have f51 : Exa Z h42 a1 s4n := (f40.wr W42)
  obtain ⟨cq50, q50, q50'⟩ := f51.cell
  obtain ⟨_, _, ⟨T50, L50, k50, n50⟩, -, X50, ⟨Lc50, hQ50, l50, y50, z50⟩, st50⟩ := X44.privateBack hx (y := M21) hown (mvT hZ (ow hw 224 rfl)) (mvT hZ (ow hw 225 rfl)) (own_selp (mvT hZ (ow hw 2 rfl)) (mvP hZ (ow hw 226 rfl)) (mvT hZ (ow hw 225 rfl)) (by decide)) (Cond.privateMethod_at (mvP hZ (ow hw 226 rfl) (args := #[]))) (mvT hZ (ow hw 227 rfl)) (by decide) (backOf (W := 0) (au30_0 l Z a0 hw [] wMAX_LOCK_DELAY wGRANTED wQUEUED wZERO hS a1 a5 a7 k8 h42 n0 O43 f45 f46 f47 f48 f49) hZ (ow hw 227 rfl) (ow hw 3 rfl) (by decide) (by decide)) (g := (mkF m 103 #[(vr a1), (vl q2), .second, (vi 0), (vr e1_2), .val .null] [(.ref a1)])) rfl (by rw [hml]; rfl) (Steps.refl _) (a := a1) (by rw [e44]; exact q50) q50' (argsL := []) (rest := []) (lenOf pd_15 rfl) rfl (by show 2 * 0 + _ ≤ _; exact Nat.le_of_eq rfl) (hb hby d7_103) (fun _ _ => ⟨rfl, e44, (by decide : 1 + 0 ≤ _), (by decide : 4 + 0 ≤ _)⟩)
  dsimp only [Pt.U, Pt.locs, Pt.cells, Pt.slots] at X50 l50 y50 z50 st50 hQ50
  subst l50 y50 z50
  obtain ⟨rfl, Nq50, K50q⟩ := hQ50
  have N50 := Fr.app N42 Nq50
  have f52 : Fld Z h42 a5 s6n "tail" "I" (.int 0) := ((p30_3.other W38 (Or.inl (Ne.symm P31))).other W42 (Or.inl (Ne.symm P31)))
  have f53 : Exa Z h42 a7 s7n := ((p30_4.wr W38).wr W42)
  have f54 : Fld Z h42 a1 s4n "generation" "J" (.long qg3) := (((((P1.keep K2q nin0).keep K15q (ninS ne3 nin0)).keep K30q (ninS P31 (ninS P32 (ninS ne3 nin0)))).other W38 (Or.inr (slot_ne (Or.inl (ow hw 129 rfl)) (Or.inl (ow hw 110 rfl)) (by decide) (t := .long) (t' := (.object s3n)) (by decide) (by decide)))).other W42 (Or.inr (slot_ne (Or.inl (ow hw 129 rfl)) (Or.inl (ow hw 51 rfl)) (by decide) (t := .long) (t' := .boolean) (by decide) (by decide))))
  have f55 : Fld Z h42 a1 s4n "holder" s9n .null := (Fw38.other W42 (Or.inr (slot_ne (Or.inl (ow hw 110 rfl)) (Or.inl (ow hw 51 rfl)) (by decide) (t := (.object s3n)) (t' := .boolean) (by decide) (by decide))))
  have f56 : Fld Z h42 a1 s4n s10n s0n (.ref wMAX_LOCK_DELAY) := (((((P4.keep K2q nin0).keep K15q (ninS ne3 nin0)).keep K30q (ninS P31 (ninS P32 (ninS ne3 nin0)))).other W38 (Or.inr (slot_ne (Or.inl (ow hw 32 rfl)) (Or.inl (ow hw 110 rfl)) (by decide) (t := (.object s1n)) (t' := (.object s3n)) (by decide) (by decide)))).other W42 (Or.inr (slot_ne (Or.inl (ow hw 32 rfl)) (Or.inl (ow hw 51 rfl)) (by decide) (t := (.object s1n)) (t' := .boolean) (by decide) (by decide))))
  obtain ⟨fs, hr, hrun, hended, hW, hsame⟩ := X50.leave (v := some .null) (fun h => by rw [hret0] at h; cases h)
  refine ⟨_, _, pre0 _ ?_, hrun, hended, _, _, rfl, ?_, ⟨_, rfl⟩, hW, hsame.mono (by decide) (by decide)⟩
  · skip
    show Steps p.tables e below (s₁.setTop (mkF m 0 #[(vr a1), (vl q2), .second, (vi 0), .unset, .unset] [])) _
    refine XS.aloadN X0.here hx rfl (hb hby d7_0) rfl rfl ?_
    refine st1 _ ?_
    refine st2.trans ?_
    refine XS.astore X2.here hx rfl (hb hby d7_9) rfl rfl (l' := #[(vr a1), (vl q2), .second, (vi 0), (vr e1_2), .unset]) rfl ?_
    refine XS.aload X2.here hx rfl (hb hby d7_11) rfl rfl ?_
    refine st12.trans ?_
    refine XS.ifNo X12.here hx rfl (hb hby d7_18) rfl ((if0 _ _).trans (feq (by decide : ¬ ((1 : Int32) = (0 : Int32)))).1) ?_
    refine XS.aload X12.here hx rfl (hb hby d7_21) rfl rfl ?_
    show Steps p.tables e below (T12.setTop (mkF m 23 #[(vr a1), (vl q2), .second, (vi 0), (vr e1_2), .unset] [(.ref e1_2)])) _
    refine st15.trans ?_
    refine st18 _ ?_
    refine st20 _ ?_
    refine st22.trans ?_
    refine XS.lloadN X22.here hx rfl (hb hby d7_37) rfl ?_
    refine XS.lcmp X22.here hx rfl (hb hby d7_38) rfl ?_
    refine XS.ifNo X22.here hx rfl (hb hby d7_39) rfl ((if0 _ _).trans (teq ((lw_eq _ _).mpr P23 : (lcmpW q11 q2) = (0 : Int32))).2) ?_
    refine XS.aload X22.here hx rfl (hb hby d7_42) rfl rfl ?_
    show Steps p.tables e below (T22.setTop (mkF m 44 #[(vr a1), (vl q2), .second, (vi 0), (vr e1_2), .unset] [(.ref e1_2)])) _
    refine st30.trans ?_
    refine XS.goto X30.here hx rfl (pc0 := 49) (pc' := 11) rfl (hb hby d7_49) (by decide) (by decide) ?_
    refine XS.aload X30.here hx rfl (hb hby d7_11) rfl rfl ?_
    refine st32.trans ?_
    refine XS.ifYes X32.here hx rfl (pc0 := 18) (pc' := 52) rfl (hb hby d7_18) rfl ((if0 _ _).trans (teq (by decide : (0 : Int32) = (0 : Int32))).1) (by decide) (by decide) ?_
    refine XS.aconstNull X32.here hx rfl (hb hby d7_52) ?_
    refine XS.astore X32.here hx rfl (hb hby d7_53) rfl rfl (l' := #[(vr a1), (vl q2), .second, (vi 0), (vr e1_2), .val .null]) rfl ?_
    refine XS.aloadN X32.here hx rfl (hb hby d7_55) rfl rfl ?_
    show Steps p.tables e below (T32.setTop (mkF m 56 #[(vr a1), (vl q2), .second, (vi 0), (vr e1_2), .val .null] [(.ref a1)])) _
    refine XS.lloadN X32.here hx rfl (hb hby d7_56) rfl ?_
    refine st36.trans ?_
    refine XS.ifNo X36.here hx rfl (hb hby d7_60) rfl ((if0 _ _).trans (feq (by decide : ¬ ((1 : Int32) = (0 : Int32)))).1) ?_
    refine XS.aloadN X36.here hx rfl (hb hby d7_63) rfl rfl ?_
    refine XS.aconstNull X36.here hx rfl (hb hby d7_64) ?_
    refine st38 _ ?_
    refine XS.aloadN X38.here hx rfl (hb hby d7_68) rfl rfl ?_
    refine XS.iloadN X38.here hx rfl (hb hby d7_69) rfl ?_
    show Steps p.tables e below (T38.setTop (mkF m 70 #[(vr a1), (vl q2), .second, (vi 0), (vr e1_2), .val .null] [(.int 0), (.ref a1)])) _
    refine XS.ifYes X38.here hx rfl (pc0 := 70) (pc' := 87) rfl (hb hby d7_70) rfl ((if0 _ _).trans (teq (by decide : (0 : Int32) = (0 : Int32))).1) (by decide) (by decide) ?_
    refine XS.iconst X38.here hx rfl (hb hby d7_87) ?_
    refine st42 _ ?_
    refine XS.aloadN X42.here hx rfl (hb hby d7_91) rfl rfl ?_
    refine st44 _ ?_
    refine XS.ifYes X44.here hx rfl (pc0 := 95) (pc' := 102) rfl (hb hby d7_95) rfl ((if0 _ _).trans (teq (by decide : (0 : Int32) = (0 : Int32))).1) (by decide) (by decide) ?_
    refine XS.aloadN X44.here hx rfl (hb hby d7_102) rfl rfl ?_
    refine st50.trans ?_
    show Steps p.tables e below (T50.setTop (mkF m 106 #[(vr a1), (vl q2), .second, (vi 0), (vr e1_2), .val .null] [.null])) _
    refine XS.astore X50.here hx rfl (hb hby d7_106) rfl rfl (l' := #[(vr a1), (vl q2), .second, (vi 0), (vr e1_2), .val .null]) rfl ?_
    refine XS.aload X50.here hx rfl (hb hby d7_108) rfl rfl ?_
    jvm_step X50.here [X50.here.top, hx, (hb hby d7_110), X50.method', hret0, Value.isRef, FieldType.isReference]
    first | (intro acts; rw [hr _ acts rfl rfl rfl]) | rw [hr _ _ rfl rfl rfl]
    exact Steps.refl _
  · show Q_au7_6 Z wMAX_LOCK_DELAY wGRANTED wQUEUED wZERO a1 q2 qg3 a4 a5 q6 a7 k8 a9 a10 q11 h0 n0 _ T50.heap _
    rw [K50q]
    exact ⟨rfl, N50, K43, f46, f47, f48, f52, f53, f49, p30_6, f51, f54, Fw42, f55, f56, f45⟩
theorem ef_au7_7 (m : MethodId) (x0 : Addr) (x1 : Int64) (x2 : Int32)  : entryFrame m #[(.ref x0), (.long x1), (.int x2)] 6 = mkF m 0 #[(vr x0), (vl x1), .second, (vi x2), .unset, .unset] [] := by first | (simp [entryFrame, mkF, argsToLocals, Value.category]; done) | rfl
theorem ef_au13_4 (m : MethodId) (x0 : Addr) (x1 : Int64)  : entryFrame m #[(.ref x0), (.long x1)] 3 = mkF m 0 #[(vr x0), (vl x1), .second] [] := by first | (simp [entryFrame, mkF, argsToLocals, Value.category]; done) | rfl
def Q_au13_4 (Z : State) (wMAX_LOCK_DELAY : Addr) (wGRANTED : Addr) (wQUEUED : Addr) (wZERO : Addr) (a1 : Addr) (q2 : Int64) (a4 : Addr) (q6 : Int64) (h0 : Heap) (n0 : Nat) (v : Option Value) (h : Heap) (L : List Loc) : Prop := v = some (.int 1) ∧ Fr n0 L ∧ h = h0
theorem au13_4 (l : Launch) (Z : State) (a0 : Array Value) (hw : ∀ d ∈ tables_1, d.before a0 Z = true) (ws : List Jvm.Cond) (wMAX_LOCK_DELAY : Addr) (wGRANTED : Addr) (wQUEUED : Addr) (wZERO : Addr) (hS : SS Z wMAX_LOCK_DELAY wGRANTED wQUEUED wZERO) (a1 : Addr) (q2 : Int64) (a4 : Addr) (q6 : Int64) (h0 : Heap) (n0 : Nat) (O0 : Old Z n0 h0) (P3 : Fld Z h0 a1 s4n "holder" s9n (.ref a4)) (P6 : Exa Z h0 a4 s3n) (P8 : Fld Z h0 a4 s3n "session" "J" (.long q6)) (P22 : q6 = q2) :
    MetB l M11 prog_84_method_7_code 3 (some .boolean) ws (rmk 1 0 0 12) Z h0 #[(.ref a1), (.long q2)] (Q_au13_4 Z wMAX_LOCK_DELAY wGRANTED wQUEUED wZERO a1 q2 a4 q6 h0 n0) := by
  refine own_body (plainFor_of_name pn_com_example_umpired_umpired_server_NodeLock) ?_
  intro p e s m below meth c s₁ hx hby hml hown hnm hret0 hlk0 hZ X0 e0
  have N0 := Fr.nil n0
  have pre0 : ∀ t, Steps p.tables e below (s₁.setTop (mkF m 0 #[(vr a1), (vl q2), .second] [])) t → Steps p.tables e below (s₁.setTop (entryFrame m #[(.ref a1), (.long q2)] 3)) t := fun t k => castTop (ef_au13_4 m a1 q2) k
  have hS0 := hS
  obtain ⟨S_wMAX_LOCK_DELAY, E_wMAX_LOCK_DELAY, S_wGRANTED, E_wGRANTED, S_wQUEUED, E_wQUEUED, F_seconds_wMAX_LOCK_DELAY, F_nanos_wMAX_LOCK_DELAY, S_wZERO, E_wZERO, F_seconds_wZERO, F_nanos_wZERO⟩ := hS0
  obtain ⟨T1, X1, e1, st1⟩ := getF X0 hx hZ hown (host := "") (Or.inl (ow hw 109 rfl)) Via.refl e0 P3 (g := (mkF m 1 #[(vr a1), (vl q2), .second] [(.ref a1)])) rfl rfl (hb hby d13_1)
  obtain ⟨T2, X2, e2, st2⟩ := getF X1 hx hZ hown (host := "") (Or.inl (ow hw 109 rfl)) Via.refl e1 P3 (g := (mkF m 8 #[(vr a1), (vl q2), .second] [(.ref a1)])) rfl rfl (hb hby d13_8)
  obtain ⟨cq3, kq3, q3a, q3b, q3c⟩ := isOf hZ e2 P6
  obtain ⟨_, _, ⟨T3, L3, k3, n3⟩, -, X3, ⟨Lc3, hQ3, l3, y3, z3⟩, st3⟩ := X2.virtualBack hx (y := M17) (z := M17) hown (mvT hZ (ow hw 184 rfl)) (mvT hZ (ow hw 185 rfl)) (notFace_of_selects (args := #[]) (mvT hZ (ow hw 187 rfl))) (mvT hZ (ow hw 187 rfl)) (mvT hZ (ow hw 186 rfl)) (by decide) (backOf (W := 0) (au24_0 l Z a0 hw [] wMAX_LOCK_DELAY wGRANTED wQUEUED wZERO hS a4 q6 h0 n0 O0 P8) hZ (ow hw 188 rfl) (ow hw 35 rfl) (by decide) (by decide)) q3a q3c (g := (mkF m 11 #[(vr a1), (vl q2), .second] [(.ref a4)])) rfl (by rw [hml]; rfl) (Steps.refl _) (argsL := []) (rest := []) (lenOf pd_12 rfl) rfl (by show 2 * 0 + _ ≤ _; exact Nat.le_of_eq rfl) (hb hby d13_11) (fun _ _ => ⟨rfl, e2, (by decide : 0 + 0 ≤ _), (by decide : 0 + 0 ≤ _)⟩)
  dsimp only [Pt.U, Pt.locs, Pt.cells, Pt.slots] at X3 l3 y3 z3 st3 hQ3
  subst l3 y3 z3
  obtain ⟨rfl, Nq3, K3q⟩ := hQ3
  have N3 := Fr.app N0 Nq3
  obtain ⟨fs, hr, hrun, hended, hW, hsame⟩ := X3.leave (v := some (.int 1)) (fun h => by rw [hret0] at h; cases h)
  refine ⟨_, _, pre0 _ ?_, hrun, hended, _, _, rfl, ?_, ⟨_, rfl⟩, hW, hsame.mono (by decide) (by decide)⟩
  · skip
    show Steps p.tables e below (s₁.setTop (mkF m 0 #[(vr a1), (vl q2), .second] [])) _
    refine XS.aloadN X0.here hx rfl (hb hby d13_0) rfl rfl ?_
    refine st1 _ ?_
    refine XS.ifnullNo X1.here hx rfl (hb hby d13_4) rfl ?_
    refine XS.aloadN X1.here hx rfl (hb hby d13_7) rfl rfl ?_
    refine st2 _ ?_
    refine st3.trans ?_
    refine XS.lloadN X3.here hx rfl (hb hby d13_14) rfl ?_
    refine XS.lcmp X3.here hx rfl (hb hby d13_15) rfl ?_
    show Steps p.tables e below (T3.setTop (mkF m 16 #[(vr a1), (vl q2), .second] [(.int (lcmpW q6 q2))])) _
    refine XS.ifNo X3.here hx rfl (hb hby d13_16) rfl ((if0 _ _).trans (teq ((lw_eq _ _).mpr P22 : (lcmpW q6 q2) = (0 : Int32))).2) ?_
    refine XS.iconst X3.here hx rfl (hb hby d13_19) ?_
    refine XS.goto X3.here hx rfl (pc0 := 20) (pc' := 24) rfl (hb hby d13_20) (by decide) (by decide) ?_
    exact retN X3 hx (t := .boolean) hret0 (by simp) (hb hby d13_24) hr
  · show Q_au13_4 Z wMAX_LOCK_DELAY wGRANTED wQUEUED wZERO a1 q2 a4 q6 h0 n0 _ T3.heap _
    rw [K3q]
    exact ⟨rfl, N3, rfl⟩
theorem ef_au30_1 (m : MethodId) (x0 : Addr)  : entryFrame m #[(.ref x0)] 2 = mkF m 0 #[(vr x0), .unset] [] := by first | (simp [entryFrame, mkF, argsToLocals, Value.category]; done) | rfl
theorem ef_au31_1 (m : MethodId) (x0 : Addr)  : entryFrame m #[(.ref x0)] 1 = mkF m 0 #[(vr x0)] [] := by first | (simp [entryFrame, mkF, argsToLocals, Value.category]; done) | rfl
theorem ef_au32_1 (m : MethodId) (x0 : Addr)  : entryFrame m #[(.ref x0)] 4 = mkF m 0 #[(vr x0), .unset, .unset, .unset] [] := by first | (simp [entryFrame, mkF, argsToLocals, Value.category]; done) | rfl
theorem ef_au33_1 (m : MethodId) (x0 : Addr) (x1 : Int32)  : entryFrame m #[(.ref x0), (.int x1)] 2 = mkF m 0 #[(vr x0), (vi x1)] [] := by first | (simp [entryFrame, mkF, argsToLocals, Value.category]; done) | rfl
def Q_au33_1 (Z : State) (wMAX_LOCK_DELAY : Addr) (wGRANTED : Addr) (wQUEUED : Addr) (wZERO : Addr) (a1 : Addr) (k2 : ClassId) (a3 : Addr) (h0 : Heap) (n0 : Nat) (v : Option Value) (h : Heap) (L : List Loc) : Prop := v = some (.ref a3) ∧ Fr n0 L ∧ h = h0
theorem au33_1 (l : Launch) (Z : State) (a0 : Array Value) (hw : ∀ d ∈ tables_1, d.before a0 Z = true) (ws : List Jvm.Cond) (wMAX_LOCK_DELAY : Addr) (wGRANTED : Addr) (wQUEUED : Addr) (wZERO : Addr) (hS : SS Z wMAX_LOCK_DELAY wGRANTED wQUEUED wZERO) (a1 : Addr) (k2 : ClassId) (a3 : Addr) (h0 : Heap) (n0 : Nat) (O0 : Old Z n0 h0) (P0 : Arv Z h0 a1 k2 (.object s8n) (17 : Int32) ([(.ref a3), .null, .null, .null, .null, .null, .null, .null, .null, .null, .null, .null, .null, .null, .null, .null, .null]) .null) :
    MetB l M18 jdk_21_method_10_code 2 (some (.object s8n)) ws (rmk 0 0 0 0) Z h0 #[(.ref a1), (.int 0)] (Q_au33_1 Z wMAX_LOCK_DELAY wGRANTED wQUEUED wZERO a1 k2 a3 h0 n0) := by
  refine own_body (plainFor_of_name pn_java_util_ArrayDeque) ?_
  intro p e s m below meth c s₁ hx hby hml hown hnm hret0 hlk0 hZ X0 e0
  have N0 := Fr.nil n0
  have pre0 : ∀ t, Steps p.tables e below (s₁.setTop (mkF m 0 #[(vr a1), (vi 0)] [])) t → Steps p.tables e below (s₁.setTop (entryFrame m #[(.ref a1), (.int 0)] 2)) t := fun t k => castTop (ef_au33_1 m a1 (0 : Int32)) k
  have hS0 := hS
  obtain ⟨S_wMAX_LOCK_DELAY, E_wMAX_LOCK_DELAY, S_wGRANTED, E_wGRANTED, S_wQUEUED, E_wQUEUED, F_seconds_wMAX_LOCK_DELAY, F_nanos_wMAX_LOCK_DELAY, S_wZERO, E_wZERO, F_seconds_wZERO, F_nanos_wZERO⟩ := hS0
  obtain ⟨cl1, Ar1, q1, Sz1, Nn1, Ha1, Gg1⟩ := (id P0)
  have hin1 : ¬ ((0 : Int32) < 0 ∨ cl1.slots.size ≤ ((0 : Int32)).toNatClampNeg) := inb_of Sz1 ⟨by decide, by decide⟩
  have hat1 : cl1.slots[((0 : Int32)).toNatClampNeg]? = some (.ref a3) := Ha1.at hin1 rfl
  obtain ⟨fs, hr, hrun, hended, hW, hsame⟩ := X0.leave (v := some (.ref a3)) (fun h => by rw [hret0] at h; cases h)
  refine ⟨_, _, pre0 _ ?_, hrun, hended, _, _, rfl, ?_, ⟨_, rfl⟩, hW, hsame.mono (by decide) (by decide)⟩
  · skip
    show Steps p.tables e below (s₁.setTop (mkF m 0 #[(vr a1), (vi 0)] [])) _
    refine XS.aloadN X0.here hx rfl (hb hby d33_0) rfl rfl ?_
    refine XS.iloadN X0.here hx rfl (hb hby d33_1) rfl ?_
    refine X0.aaload hx (j := (0 : Int32)) (v := (.ref a3)) (by rw [e0]; exact Ar1.1) (State.isArrayOf_alike hZ.alike Ar1.2.1) rfl Ar1.2.2 hin1 hat1 (g := (mkF m 2 #[(vr a1), (vi 0)] [(.int 0), (.ref a1)])) rfl rfl (hb hby d33_2) _ ?_
    jvm_step X0.here [X0.here.top, hx, (hb hby d33_3), X0.method', hret0, Value.isRef, FieldType.isReference]
    first | (intro acts; rw [hr _ acts rfl rfl rfl]) | rw [hr _ _ rfl rfl rfl]
    exact Steps.refl _
  · show Q_au33_1 Z wMAX_LOCK_DELAY wGRANTED wQUEUED wZERO a1 k2 a3 h0 n0 _ s₁.heap _
    rw [e0]
    exact ⟨rfl, N0, rfl⟩
theorem d32_20 : decode jdk_21_method_20_code 20 = .ok (.aload_n 1, 1) := by decide +kernel
theorem d32_21 : decode jdk_21_method_20_code 21 = .ok (.iload_n 2, 1) := by decide +kernel
theorem d32_22 : decode jdk_21_method_20_code 22 = .ok (.aconst_null, 1) := by decide +kernel
theorem d32_23 : decode jdk_21_method_20_code 23 = .ok (.aastore, 1) := by decide +kernel
theorem d32_24 : decode jdk_21_method_20_code 24 = .ok (.aload_n 0, 1) := by decide +kernel
theorem d32_25 : decode jdk_21_method_20_code 25 = .ok (.iload_n 2, 1) := by decide +kernel
theorem d32_26 : decode jdk_21_method_20_code 26 = .ok (.aload_n 1, 1) := by decide +kernel
theorem d32_27 : decode jdk_21_method_20_code 27 = .ok (.arraylength, 1) := by decide +kernel
theorem d32_28 : decode jdk_21_method_20_code 28 = .ok (.invokestatic 74, 3) := by decide +kernel
theorem d32_31 : decode jdk_21_method_20_code 31 = .ok (.putfield 24, 3) := by decide +kernel
def Q_au32_1 (Z : State) (wMAX_LOCK_DELAY : Addr) (wGRANTED : Addr) (wQUEUED : Addr) (wZERO : Addr) (a1 : Addr) (a2 : Addr) (k3 : ClassId) (a4 : Addr) (h0 : Heap) (n0 : Nat) (v : Option Value) (h : Heap) (L : List Loc) : Prop := v = some (.ref a4) ∧ Fr n0 L ∧ Keep h0 h [a2, a1] ∧ Exa Z h a2 s7n ∧ Arv Z h a2 k3 (.object s8n) (17 : Int32) ([.null, .null, .null, .null, .null, .null, .null, .null, .null, .null, .null, .null, .null, .null, .null, .null, .null]) .null ∧ Ovr Z k3 s8n ∧ Exa Z h a1 s6n ∧ Fld Z h a1 s6n "elements" s7n (.ref a2) ∧ Fld Z h a1 s6n "head" "I" (.int 1) ∧ Fld Z h a1 s6n "tail" "I" (.int 1)
theorem au32_1 (l : Launch) (Z : State) (a0 : Array Value) (hw : ∀ d ∈ tables_1, d.before a0 Z = true) (ws : List Jvm.Cond) (wMAX_LOCK_DELAY : Addr) (wGRANTED : Addr) (wQUEUED : Addr) (wZERO : Addr) (hS : SS Z wMAX_LOCK_DELAY wGRANTED wQUEUED wZERO) (a1 : Addr) (a2 : Addr) (k3 : ClassId) (a4 : Addr) (h0 : Heap) (n0 : Nat) (O0 : Old Z n0 h0) (P0 : Exa Z h0 a1 s6n) (P1 : Fld Z h0 a1 s6n "elements" s7n (.ref a2)) (P2 : Fld Z h0 a1 s6n "head" "I" (.int 0)) (P3 : Fld Z h0 a1 s6n "tail" "I" (.int 1)) (P4 : Arv Z h0 a2 k3 (.object s8n) (17 : Int32) ([(.ref a4), .null, .null, .null, .null, .null, .null, .null, .null, .null, .null, .null, .null, .null, .null, .null, .null]) .null) (P5 : Ovr Z k3 s8n) (P6 : Exa Z h0 a2 s7n) (P13 : n0 ≤ a1) (P14 : n0 ≤ a2) (P17 : a1 ≠ a2) :
    MetB l M19 jdk_21_method_20_code 4 (some (.object s8n)) ws (rmk 1 0 0 14) Z h0 #[(.ref a1)] (Q_au32_1 Z wMAX_LOCK_DELAY wGRANTED wQUEUED wZERO a1 a2 k3 a4 h0 n0) := by
  refine own_body (plainFor_of_name pn_java_util_ArrayDeque) ?_
  intro p e s m below meth c s₁ hx hby hml hown hnm hret0 hlk0 hZ X0 e0
  have N0 := Fr.nil n0
  have pre0 : ∀ t, Steps p.tables e below (s₁.setTop (mkF m 0 #[(vr a1), .unset, .unset, .unset] [])) t → Steps p.tables e below (s₁.setTop (entryFrame m #[(.ref a1)] 4)) t := fun t k => castTop (ef_au32_1 m a1) k
  have K0 := Keep.refl h0 [a2, a1]
  have hS0 := hS
  obtain ⟨S_wMAX_LOCK_DELAY, E_wMAX_LOCK_DELAY, S_wGRANTED, E_wGRANTED, S_wQUEUED, E_wQUEUED, F_seconds_wMAX_LOCK_DELAY, F_nanos_wMAX_LOCK_DELAY, S_wZERO, E_wZERO, F_seconds_wZERO, F_nanos_wZERO⟩ := hS0
  obtain ⟨T1, X1, e1, st1⟩ := getF X0 hx hZ hown (host := "") (Or.inl (ow hw 25 rfl)) Via.refl e0 P1 (g := (mkF m 1 #[(vr a1), .unset, .unset, .unset] [(.ref a1)])) rfl rfl (hb hby d32_1)
  obtain ⟨T2, X2, e2, st2⟩ := getF X1 hx hZ hown (host := "") (Or.inl (ow hw 83 rfl)) Via.refl e1 P2 (g := (mkF m 7 #[(vr a1), (vr a2), .unset, .unset] [(.ref a1), (.ref a2)])) rfl rfl (hb hby d32_7)
  obtain ⟨_, _, ⟨T3, L3, k3, n3⟩, -, X3, ⟨Lc3, hQ3, l3, y3, z3⟩, st3⟩ := Jvm.LawKit.callS X2 hx (y := M18) hown (mvT hZ (ow hw 241 rfl)) (mvT hZ (ow hw 242 rfl)) (mvT hZ (ow hw 12 rfl)) (mvT hZ (ow hw 243 rfl)) (by decide) (backOf (W := 0) (au33_1 l Z a0 hw [] wMAX_LOCK_DELAY wGRANTED wQUEUED wZERO hS a2 k3 a4 h0 n0 O0 P4) hZ (ow hw 243 rfl) (ow hw 12 rfl) (by decide) (by decide)) (g := (mkF m 12 #[(vr a1), (vr a2), (vi 0), .unset] [(.int 0), (.ref a2)])) rfl (by rw [hml]; rfl) (argsL := [(.ref a2), (.int 0)]) (rest := []) (lenOf pd_13 rfl) rfl (by show 2 * 0 + _ ≤ _; exact Nat.le_of_eq rfl) (hb hby d32_12) (fun _ _ => ⟨rfl, e2, (by decide : 0 + 0 ≤ _), (by decide : 0 + 0 ≤ _)⟩)
  dsimp only [Pt.U, Pt.locs, Pt.cells, Pt.slots] at X3 l3 y3 z3 st3 hQ3
  subst l3 y3 z3
  obtain ⟨rfl, Nq3, K3q⟩ := hQ3
  have N3 := Fr.app N0 Nq3
  obtain ⟨cl4, Ar4, q4, Sz4, Nn4, Ha4, Gg4⟩ := (id P4)
  have hin4 : ¬ ((0 : Int32) < 0 ∨ cl4.slots.size ≤ ((0 : Int32)).toNatClampNeg) := inb_of Sz4 ⟨by decide, by decide⟩
  obtain ⟨T4, h4, X4, e4, W4, st4⟩ := stR X3 hx hZ K3q Ar4 (j := (0 : Int32)) hin4 rfl (Or.inl rfl) (g := (mkF m 23 #[(vr a1), (vr a2), (vi 0), (vr a4)] [.null, (.int 0), (.ref a2)])) rfl rfl (hb hby d32_23)
  have O5 : Old Z n0 h4 := O0.wr W4 P14
  have K5 : Keep h0 h4 [a2, a1] := K0.wr W4 (Or.inl (List.mem_of_getElem? (i := 0) rfl))
  have V4 : Arv Z h4 a2 k3 (.object s8n) (17 : Int32) ([.null, .null, .null, .null, .null, .null, .null, .null, .null, .null, .null, .null, .null, .null, .null, .null, .null]) .null := Arv.set Ar4 q4 Sz4 Nn4 Ha4 Gg4 (v := .null) rfl W4 0 rfl (Nat.le_of_ble_eq_true rfl)
  have N4 := Fr.snoc X4 N3 P14
  obtain ⟨cl6, Ar6, -, Sz6, Nn6, -, -⟩ := (id V4)
  obtain ⟨_, _, ⟨T7, L7, k7, n7⟩, -, X7, ⟨Lc7, hQ7, l7, y7, z7⟩, st7⟩ := Jvm.LawKit.callS X4 hx (y := M26) hown (mvT hZ (ow hw 164 rfl)) (mvT hZ (ow hw 165 rfl)) (mvT hZ (ow hw 12 rfl)) (mvT hZ (ow hw 166 rfl)) (by decide) (backOf (W := 1) (au21_0 l Z a0 hw [] wMAX_LOCK_DELAY wGRANTED wQUEUED wZERO hS  h4 n0 O5 ) hZ (ow hw 166 rfl) (ow hw 12 rfl) (by decide) (by decide)) (g := (mkF m 28 #[(vr a1), (vr a2), (vi 0), (vr a4)] [(.int 17), (.int 0), (.ref a1)])) rfl (by rw [hml]; rfl) (argsL := [(.int 0), (.int 17)]) (rest := [(.ref a1)]) (lenOf pd_17 rfl) rfl (by show 2 * 0 + _ ≤ _; exact Nat.le_of_eq rfl) (hb hby d32_28) (fun _ _ => ⟨rfl, e4, (by decide : 0 + 0 ≤ _), (by decide : 0 + 0 ≤ _)⟩)
  dsimp only [Pt.U, Pt.locs, Pt.cells, Pt.slots] at X7 l7 y7 z7 st7 hQ7
  subst l7 y7 z7
  obtain ⟨rfl, Nq7, K7q⟩ := hQ7
  have N7 := Fr.app N4 Nq7
  have f8 : Exa Z h4 a1 s6n := (P0.wr W4)
  have f9 : Fld Z h4 a1 s6n "head" "I" (.int 0) := (P2.other W4 (Or.inl P17))
  obtain ⟨T10, h10, X10, e10, W10, st10⟩ := putF X7 hx hZ hown (host := "") (Or.inl (ow hw 83 rfl)) Via.refl K7q f9 f8 (Or.inl (ow hw 84 rfl)) (ow hw 11 rfl) (ty := .int) (by decide) rfl rfl (g := (mkF m 31 #[(vr a1), (vr a2), (vi 0), (vr a4)] [(.int 1), (.ref a1)])) rfl rfl (hb hby d32_31)
  have N10 := Fr.snoc X10 N7 P13
  have O11 : Old Z n0 h10 := O5.wr W10 P13
  have K11 : Keep h0 h10 [a2, a1] := K5.wr W10 (Or.inl (List.mem_of_getElem? (i := 1) rfl))
  have Fw10 : Fld Z h10 a1 s6n "head" "I" (.int 1) := f9.same W10
  have f12 : Exa Z h10 a2 s7n := ((P6.wr W4).wr W10)
  have f13 : Arv Z h10 a2 k3 (.object s8n) (17 : Int32) ([.null, .null, .null, .null, .null, .null, .null, .null, .null, .null, .null, .null, .null, .null, .null, .null, .null]) .null := (V4.other W10 (Ne.symm P17))
  have f14 : Exa Z h10 a1 s6n := (f8.wr W10)
  have f15 : Fld Z h10 a1 s6n "elements" s7n (.ref a2) := ((P1.other W4 (Or.inl P17)).other W10 (Or.inr (slot_ne (Or.inl (ow hw 26 rfl)) (Or.inl (ow hw 84 rfl)) (by decide) (t := (.array (.object s8n))) (t' := .int) (by decide) (by decide))))
  have f16 : Fld Z h10 a1 s6n "tail" "I" (.int 1) := ((P3.other W4 (Or.inl P17)).other W10 (Or.inr (slot_ne (Or.inl (ow hw 82 rfl)) (Or.inl (ow hw 84 rfl)) (by decide) (t := .int) (t' := .int) (by decide) (by decide))))
  obtain ⟨fs, hr, hrun, hended, hW, hsame⟩ := X10.leave (v := some (.ref a4)) (fun h => by rw [hret0] at h; cases h)
  refine ⟨_, _, pre0 _ ?_, hrun, hended, _, _, rfl, ?_, ⟨_, rfl⟩, hW, hsame.mono (by decide) (by decide)⟩
  · skip
    show Steps p.tables e below (s₁.setTop (mkF m 0 #[(vr a1), .unset, .unset, .unset] [])) _
    refine XS.aloadN X0.here hx rfl (hb hby d32_0) rfl rfl ?_
    refine st1 _ ?_
    refine XS.dup X1.here hx rfl (hb hby d32_4) rfl rfl ?_
    refine XS.astoreN X1.here hx rfl (hb hby d32_5) rfl rfl (l' := #[(vr a1), (vr a2), .unset, .unset]) rfl ?_
    refine XS.aloadN X1.here hx rfl (hb hby d32_6) rfl rfl ?_
    refine st2 _ ?_
    refine XS.dup X2.here hx rfl (hb hby d32_10) rfl rfl ?_
    refine XS.istoreN X2.here hx rfl (hb hby d32_11) rfl (l' := #[(vr a1), (vr a2), (vi 0), .unset]) rfl ?_
    show Steps p.tables e below (T2.setTop (mkF m 12 #[(vr a1), (vr a2), (vi 0), .unset] [(.int 0), (.ref a2)])) _
    refine st3 _ ?_
    refine XS.astoreN X3.here hx rfl (hb hby d32_15) rfl rfl (l' := #[(vr a1), (vr a2), (vi 0), (vr a4)]) rfl ?_
    refine XS.aloadN X3.here hx rfl (hb hby d32_16) rfl rfl ?_
    refine XS.ifnullNo X3.here hx rfl (hb hby d32_17) rfl ?_
    refine XS.aloadN X3.here hx rfl (hb hby d32_20) rfl rfl ?_
    refine XS.iloadN X3.here hx rfl (hb hby d32_21) rfl ?_
    refine XS.aconstNull X3.here hx rfl (hb hby d32_22) ?_
    refine st4 _ ?_
    show Steps p.tables e below (T4.setTop (mkF m 24 #[(vr a1), (vr a2), (vi 0), (vr a4)] [])) _
    refine XS.aloadN X4.here hx rfl (hb hby d32_24) rfl rfl ?_
    refine XS.iloadN X4.here hx rfl (hb hby d32_25) rfl ?_
    refine XS.aloadN X4.here hx rfl (hb hby d32_26) rfl rfl ?_
    refine X4.arraylength hx (by rw [e4]; exact Ar6.1) (State.isArrayOf_alike hZ.alike Ar6.2.1) (g := (mkF m 27 #[(vr a1), (vr a2), (vi 0), (vr a4)] [(.ref a2), (.int 0), (.ref a1)])) rfl rfl (hb hby d32_27) _ ?_
    rw [len_of Sz6 Nn6]
    refine st7 _ ?_
    refine st10 _ ?_
    refine XS.aloadN X10.here hx rfl (hb hby d32_34) rfl rfl ?_
    jvm_step X10.here [X10.here.top, hx, (hb hby d32_35), X10.method', hret0, Value.isRef, FieldType.isReference]
    first | (intro acts; rw [hr _ acts rfl rfl rfl]) | rw [hr _ _ rfl rfl rfl]
    exact Steps.refl _
  · show Q_au32_1 Z wMAX_LOCK_DELAY wGRANTED wQUEUED wZERO a1 a2 k3 a4 h0 n0 _ T10.heap _
    rw [e10]
    exact ⟨rfl, N10, K11, f12, f13, P5, f14, f15, Fw10, f16⟩
def Q_au31_1 (Z : State) (wMAX_LOCK_DELAY : Addr) (wGRANTED : Addr) (wQUEUED : Addr) (wZERO : Addr) (a1 : Addr) (a2 : Addr) (k3 : ClassId) (a4 : Addr) (h0 : Heap) (n0 : Nat) (v : Option Value) (h : Heap) (L : List Loc) : Prop := v = some (.ref a4) ∧ Fr n0 L ∧ Keep h0 h [a2, a1] ∧ Exa Z h a2 s7n ∧ Arv Z h a2 k3 (.object s8n) (17 : Int32) ([.null, .null, .null, .null, .null, .null, .null, .null, .null, .null, .null, .null, .null, .null, .null, .null, .null]) .null ∧ Ovr Z k3 s8n ∧ Exa Z h a1 s6n ∧ Fld Z h a1 s6n "elements" s7n (.ref a2) ∧ Fld Z h a1 s6n "head" "I" (.int 1) ∧ Fld Z h a1 s6n "tail" "I" (.int 1)
theorem au31_1 (l : Launch) (Z : State) (a0 : Array Value) (hw : ∀ d ∈ tables_1, d.before a0 Z = true) (ws : List Jvm.Cond) (wMAX_LOCK_DELAY : Addr) (wGRANTED : Addr) (wQUEUED : Addr) (wZERO : Addr) (hS : SS Z wMAX_LOCK_DELAY wGRANTED wQUEUED wZERO) (a1 : Addr) (a2 : Addr) (k3 : ClassId) (a4 : Addr) (h0 : Heap) (n0 : Nat) (O0 : Old Z n0 h0) (P0 : Exa Z h0 a1 s6n) (P1 : Fld Z h0 a1 s6n "elements" s7n (.ref a2)) (P2 : Fld Z h0 a1 s6n "head" "I" (.int 0)) (P3 : Fld Z h0 a1 s6n "tail" "I" (.int 1)) (P4 : Arv Z h0 a2 k3 (.object s8n) (17 : Int32) ([(.ref a4), .null, .null, .null, .null, .null, .null, .null, .null, .null, .null, .null, .null, .null, .null, .null, .null]) .null) (P5 : Ovr Z k3 s8n) (P6 : Exa Z h0 a2 s7n) (P13 : n0 ≤ a1) (P14 : n0 ≤ a2) (P17 : a1 ≠ a2) :
    MetB l M20 jdk_21_method_31_code 1 (some (.object s8n)) ws (rmk 2 0 0 29) Z h0 #[(.ref a1)] (Q_au31_1 Z wMAX_LOCK_DELAY wGRANTED wQUEUED wZERO a1 a2 k3 a4 h0 n0) := by
  refine own_body (plainFor_of_name pn_java_util_ArrayDeque) ?_
  intro p e s m below meth c s₁ hx hby hml hown hnm hret0 hlk0 hZ X0 e0
  have N0 := Fr.nil n0
  have pre0 : ∀ t, Steps p.tables e below (s₁.setTop (mkF m 0 #[(vr a1)] [])) t → Steps p.tables e below (s₁.setTop (entryFrame m #[(.ref a1)] 1)) t := fun t k => castTop (ef_au31_1 m a1) k
  have K0 := Keep.refl h0 [a2, a1]
  have hS0 := hS
  obtain ⟨S_wMAX_LOCK_DELAY, E_wMAX_LOCK_DELAY, S_wGRANTED, E_wGRANTED, S_wQUEUED, E_wQUEUED, F_seconds_wMAX_LOCK_DELAY, F_nanos_wMAX_LOCK_DELAY, S_wZERO, E_wZERO, F_seconds_wZERO, F_nanos_wZERO⟩ := hS0
  obtain ⟨cq1, kq1, q1a, q1b, q1c⟩ := isOf hZ e0 P0
  obtain ⟨_, _, ⟨T1, L1, k1, n1⟩, -, X1, ⟨Lc1, hQ1, l1, y1, z1⟩, st1⟩ := X0.virtualBack hx (y := M19) (z := M19) hown (mvT hZ (ow hw 236 rfl)) (mvT hZ (ow hw 237 rfl)) (notFace_of_selects (args := #[]) (mvT hZ (ow hw 239 rfl))) (mvT hZ (ow hw 239 rfl)) (mvT hZ (ow hw 238 rfl)) (by decide) (backOf (W := 0) (au32_1 l Z a0 hw [] wMAX_LOCK_DELAY wGRANTED wQUEUED wZERO hS a1 a2 k3 a4 h0 n0 O0 P0 P1 P2 P3 P4 P5 P6 P13 P14 P17) hZ (ow hw 240 rfl) (ow hw 12 rfl) (by decide) (by decide)) q1a q1c (g := (mkF m 1 #[(vr a1)] [(.ref a1)])) rfl (by rw [hml]; rfl) (Steps.refl _) (argsL := []) (rest := []) (lenOf pd_14 rfl) rfl (by show 2 * 0 + _ ≤ _; exact Nat.le_of_eq rfl) (hb hby d31_1) (fun _ _ => ⟨rfl, e0, (by decide : 0 + 0 ≤ _), (by decide : 0 + 0 ≤ _)⟩)
  dsimp only [Pt.U, Pt.locs, Pt.cells, Pt.slots] at X1 l1 y1 z1 st1 hQ1
  subst l1 y1 z1
  obtain ⟨rfl, Nq1, K1q, p1_0, p1_1, p1_2, p1_3, p1_4, p1_5, p1_6⟩ := hQ1
  have N1 := Fr.app N0 Nq1
  have O2 : Old Z n0 T1.heap := O0.keep K1q (allS P14 (allS P13 all0))
  have K2 : Keep h0 T1.heap [a2, a1] := K0.trans K1q (allS (Or.inl (List.mem_of_getElem? (i := 0) rfl)) (allS (Or.inl (List.mem_of_getElem? (i := 1) rfl)) all0))
  obtain ⟨fs, hr, hrun, hended, hW, hsame⟩ := X1.leave (v := some (.ref a4)) (fun h => by rw [hret0] at h; cases h)
  refine ⟨_, _, pre0 _ ?_, hrun, hended, _, _, rfl, ?_, ⟨_, rfl⟩, hW, hsame.mono (by decide) (by decide)⟩
  · skip
    show Steps p.tables e below (s₁.setTop (mkF m 0 #[(vr a1)] [])) _
    refine XS.aloadN X0.here hx rfl (hb hby d31_0) rfl rfl ?_
    refine st1.trans ?_
    jvm_step X1.here [X1.here.top, hx, (hb hby d31_4), X1.method', hret0, Value.isRef, FieldType.isReference]
    first | (intro acts; rw [hr _ acts rfl rfl rfl]) | rw [hr _ _ rfl rfl rfl]
    exact Steps.refl _
  · show Q_au31_1 Z wMAX_LOCK_DELAY wGRANTED wQUEUED wZERO a1 a2 k3 a4 h0 n0 _ T1.heap _
    exact ⟨rfl, N1, K2, p1_0, p1_1, p1_2, p1_3, p1_4, p1_5, p1_6⟩
theorem d30_17 : decode prog_84_method_22_code 17 = .ok (.aload_n 0, 1) := by decide +kernel
theorem d30_18 : decode prog_84_method_22_code 18 = .ok (.aload_n 1, 1) := by decide +kernel
theorem d30_19 : decode prog_84_method_22_code 19 = .ok (.getfield 95, 3) := by decide +kernel
theorem d30_22 : decode prog_84_method_22_code 22 = .ok (.aload_n 1, 1) := by decide +kernel
theorem d30_23 : decode prog_84_method_22_code 23 = .ok (.getfield 185, 3) := by decide +kernel
theorem d30_26 : decode prog_84_method_22_code 26 = .ok (.invokevirtual 49, 3) := by decide +kernel
theorem ef_au16_2 (m : MethodId) (x0 : Addr) (x1 : Addr) (x2 : Addr)  : entryFrame m #[(.ref x0), (.ref x1), (.ref x2)] 3 = mkF m 0 #[(vr x0), (vr x1), (vr x2)] [] := by first | (simp [entryFrame, mkF, argsToLocals, Value.category]; done) | rfl
def Q_au16_2 (Z : State) (wMAX_LOCK_DELAY : Addr) (wGRANTED : Addr) (wQUEUED : Addr) (wZERO : Addr) (a1 : Addr) (a2 : Addr) (q3 : Int64) (a4 : Addr) (h0 : Heap) (n0 : Nat) (v : Option Value) (h : Heap) (L : List Loc) : Prop := v = none ∧ Fr n0 L ∧ Keep h0 h [a1] ∧ Exa Z h a1 s4n ∧ Fld Z h a1 s4n "generation" "J" (.long (q3 + (1 : Int64))) ∧ Fld Z h a1 s4n "heldBack" "Z" (.int 0) ∧ Fld Z h a1 s4n "holder" s9n (.ref a2) ∧ Fld Z h a1 s4n s10n s0n (.ref wMAX_LOCK_DELAY) ∧ Fld Z h a1 s4n "waiters" s11n (.ref a4)
theorem au16_2 (l : Launch) (Z : State) (a0 : Array Value) (hw : ∀ d ∈ tables_1, d.before a0 Z = true) (ws : List Jvm.Cond) (wMAX_LOCK_DELAY : Addr) (wGRANTED : Addr) (wQUEUED : Addr) (wZERO : Addr) (hS : SS Z wMAX_LOCK_DELAY wGRANTED wQUEUED wZERO) (a1 : Addr) (a2 : Addr) (q3 : Int64) (a4 : Addr) (h0 : Heap) (n0 : Nat) (O0 : Old Z n0 h0) (P0 : Exa Z h0 a1 s4n) (P1 : Fld Z h0 a1 s4n "generation" "J" (.long q3)) (P2 : Fld Z h0 a1 s4n "heldBack" "Z" (.int 0)) (P3 : Fld Z h0 a1 s4n "holder" s9n .null) (P4 : Fld Z h0 a1 s4n s10n s0n (.ref wMAX_LOCK_DELAY)) (P5 : Fld Z h0 a1 s4n "waiters" s11n (.ref a4)) (P16 : n0 ≤ a1) :
    MetB l M15 prog_84_method_23_code 3 none ws (rmk 0 0 0 0) Z h0 #[(.ref a1), (.ref a2), (.ref wMAX_LOCK_DELAY)] (Q_au16_2 Z wMAX_LOCK_DELAY wGRANTED wQUEUED wZERO a1 a2 q3 a4 h0 n0) := by
  refine own_body (plainFor_of_name pn_com_example_umpired_umpired_server_NodeLock) ?_
  intro p e s m below meth c s₁ hx hby hml hown hnm hret0 hlk0 hZ X0 e0
  have N0 := Fr.nil n0
  have pre0 : ∀ t, Steps p.tables e below (s₁.setTop (mkF m 0 #[(vr a1), (vr a2), (vr wMAX_LOCK_DELAY)] [])) t → Steps p.tables e below (s₁.setTop (entryFrame m #[(.ref a1), (.ref a2), (.ref wMAX_LOCK_DELAY)] 3)) t := fun t k => castTop (ef_au16_2 m a1 a2 wMAX_LOCK_DELAY) k
  have K0 := Keep.refl h0 [a1]
  have hS0 := hS
  obtain ⟨S_wMAX_LOCK_DELAY, E_wMAX_LOCK_DELAY, S_wGRANTED, E_wGRANTED, S_wQUEUED, E_wQUEUED, F_seconds_wMAX_LOCK_DELAY, F_nanos_wMAX_LOCK_DELAY, S_wZERO, E_wZERO, F_seconds_wZERO, F_nanos_wZERO⟩ := hS0
  obtain ⟨T1, h1, X1, e1, W1, st1⟩ := putF X0 hx hZ hown (host := "") (Or.inl (ow hw 109 rfl)) Via.refl e0 P3 P0 (Or.inl (ow hw 110 rfl)) (ow hw 2 rfl) (ty := (.object s3n)) (by decide) rfl rfl (g := (mkF m 2 #[(vr a1), (vr a2), (vr wMAX_LOCK_DELAY)] [(.ref a2), (.ref a1)])) rfl rfl (hb hby d16_2)
  have N1 := Fr.snoc X1 N0 P16
  have O2 : Old Z n0 h1 := O0.wr W1 P16
  have K2 : Keep h0 h1 [a1] := K0.wr W1 (Or.inl (List.mem_of_getElem? (i := 0) rfl))
  have Fw1 : Fld Z h1 a1 s4n "holder" s9n (.ref a2) := P3.same W1
  have f3 : Exa Z h1 a1 s4n := (P0.wr W1)
  have f4 : Fld Z h1 a1 s4n s10n s0n (.ref wMAX_LOCK_DELAY) := (P4.other W1 (Or.inr (slot_ne (Or.inl (ow hw 32 rfl)) (Or.inl (ow hw 110 rfl)) (by decide) (t := (.object s1n)) (t' := (.object s3n)) (by decide) (by decide))))
  obtain ⟨T5, h5, X5, e5, W5, st5⟩ := putF X1 hx hZ hown (host := "") (Or.inl (ow hw 31 rfl)) Via.refl e1 f4 f3 (Or.inl (ow hw 32 rfl)) (ow hw 2 rfl) (ty := (.object s1n)) (by decide) rfl rfl (g := (mkF m 7 #[(vr a1), (vr a2), (vr wMAX_LOCK_DELAY)] [(.ref wMAX_LOCK_DELAY), (.ref a1)])) rfl rfl (hb hby d16_7)
  have N5 := Fr.snoc X5 N1 P16
  have O6 : Old Z n0 h5 := O2.wr W5 P16
  have K6 : Keep h0 h5 [a1] := K2.wr W5 (Or.inl (List.mem_of_getElem? (i := 0) rfl))
  have Fw5 : Fld Z h5 a1 s4n s10n s0n (.ref wMAX_LOCK_DELAY) := f4.same W5
  have f7 : Fld Z h5 a1 s4n "generation" "J" (.long q3) := ((P1.other W1 (Or.inr (slot_ne (Or.inl (ow hw 129 rfl)) (Or.inl (ow hw 110 rfl)) (by decide) (t := .long) (t' := (.object s3n)) (by decide) (by decide)))).other W5 (Or.inr (slot_ne (Or.inl (ow hw 129 rfl)) (Or.inl (ow hw 32 rfl)) (by decide) (t := .long) (t' := (.object s1n)) (by decide) (by decide))))
  obtain ⟨T8, X8, e8, st8⟩ := getF X5 hx hZ hown (host := "") (Or.inl (ow hw 128 rfl)) Via.refl e5 f7 (g := (mkF m 12 #[(vr a1), (vr a2), (vr wMAX_LOCK_DELAY)] [(.ref a1), (.ref a1)])) rfl rfl (hb hby d16_12)
  have f9 : Exa Z h5 a1 s4n := (f3.wr W5)
  obtain ⟨T10, h10, X10, e10, W10, st10⟩ := putF X8 hx hZ hown (host := "") (Or.inl (ow hw 128 rfl)) Via.refl e8 f7 f9 (Or.inl (ow hw 129 rfl)) (ow hw 2 rfl) (ty := .long) (by decide) rfl rfl (g := (mkF m 17 #[(vr a1), (vr a2), (vr wMAX_LOCK_DELAY)] [(.long (q3 + (1 : Int64))), (.ref a1)])) rfl rfl (hb hby d16_17)
  have N10 := Fr.snoc X10 N5 P16
  have O11 : Old Z n0 h10 := O6.wr W10 P16
  have K11 : Keep h0 h10 [a1] := K6.wr W10 (Or.inl (List.mem_of_getElem? (i := 0) rfl))
  have Fw10 : Fld Z h10 a1 s4n "generation" "J" (.long (q3 + (1 : Int64))) := f7.same W10
  have f12 : Exa Z h10 a1 s4n := (f9.wr W10)
  have f13 : Fld Z h10 a1 s4n "heldBack" "Z" (.int 0) := (((P2.other W1 (Or.inr (slot_ne (Or.inl (ow hw 51 rfl)) (Or.inl (ow hw 110 rfl)) (by decide) (t := .boolean) (t' := (.object s3n)) (by decide) (by decide)))).other W5 (Or.inr (slot_ne (Or.inl (ow hw 51 rfl)) (Or.inl (ow hw 32 rfl)) (by decide) (t := .boolean) (t' := (.object s1n)) (by decide) (by decide)))).other W10 (Or.inr (slot_ne (Or.inl (ow hw 51 rfl)) (Or.inl (ow hw 129 rfl)) (by decide) (t := .boolean) (t' := .long) (by decide) (by decide))))
  have f14 : Fld Z h10 a1 s4n "holder" s9n (.ref a2) := ((Fw1.other W5 (Or.inr (slot_ne (Or.inl (ow hw 110 rfl)) (Or.inl (ow hw 32 rfl)) (by decide) (t := (.object s3n)) (t' := (.object s1n)) (by decide) (by decide)))).other W10 (Or.inr (slot_ne (Or.inl (ow hw 110 rfl)) (Or.inl (ow hw 129 rfl)) (by decide) (t := (.object s3n)) (t' := .long) (by decide) (by decide))))
  have f15 : Fld Z h10 a1 s4n s10n s0n (.ref wMAX_LOCK_DELAY) := (Fw5.other W10 (Or.inr (slot_ne (Or.inl (ow hw 32 rfl)) (Or.inl (ow hw 129 rfl)) (by decide) (t := (.object s1n)) (t' := .long) (by decide) (by decide))))
  have f16 : Fld Z h10 a1 s4n "waiters" s11n (.ref a4) := (((P5.other W1 (Or.inr (slot_ne (Or.inr (ow hw 28 rfl)) (Or.inl (ow hw 110 rfl)) (by decide) (t := (.object s12n)) (t' := (.object s3n)) (by decide) (by decide)))).other W5 (Or.inr (slot_ne (Or.inr (ow hw 28 rfl)) (Or.inl (ow hw 32 rfl)) (by decide) (t := (.object s12n)) (t' := (.object s1n)) (by decide) (by decide)))).other W10 (Or.inr (slot_ne (Or.inr (ow hw 28 rfl)) (Or.inl (ow hw 129 rfl)) (by decide) (t := (.object s12n)) (t' := .long) (by decide) (by decide))))
  obtain ⟨fs, hr, hrun, hended, hW, hsame⟩ := X10.leave (v := none) (fun _ => rfl)
  refine ⟨_, _, pre0 _ ?_, hrun, hended, _, _, rfl, ?_, ⟨_, rfl⟩, hW, hsame.mono (by decide) (by decide)⟩
  · skip
    show Steps p.tables e below (s₁.setTop (mkF m 0 #[(vr a1), (vr a2), (vr wMAX_LOCK_DELAY)] [])) _
    refine XS.aloadN X0.here hx rfl (hb hby d16_0) rfl rfl ?_
    refine XS.aloadN X0.here hx rfl (hb hby d16_1) rfl rfl ?_
    refine st1 _ ?_
    refine XS.aloadN X1.here hx rfl (hb hby d16_5) rfl rfl ?_
    refine XS.aloadN X1.here hx rfl (hb hby d16_6) rfl rfl ?_
    refine st5 _ ?_
    refine XS.aloadN X5.here hx rfl (hb hby d16_10) rfl rfl ?_
    refine XS.dup X5.here hx rfl (hb hby d16_11) rfl rfl ?_
    show Steps p.tables e below (T5.setTop (mkF m 12 #[(vr a1), (vr a2), (vr wMAX_LOCK_DELAY)] [(.ref a1), (.ref a1)])) _
    refine st8 _ ?_
    refine XS.lconst X8.here hx rfl (hb hby d16_15) ?_
    refine XS.ladd X8.here hx rfl (hb hby d16_16) rfl ?_
    refine st10 _ ?_
    exact X10.returnOut hx hret0 (hb hby d16_20) hr
  · show Q_au16_2 Z wMAX_LOCK_DELAY wGRANTED wQUEUED wZERO a1 a2 q3 a4 h0 n0 _ T10.heap _
    rw [e10]
    exact ⟨rfl, N10, K11, f12, Fw10, f13, f14, f15, f16⟩
theorem d30_37 : decode prog_84_method_22_code 37 = .ok (.aload_n 1, 1) := by decide +kernel
theorem d30_38 : decode prog_84_method_22_code 38 = .ok (.getfield 95, 3) := by decide +kernel
def Q_au30_1 (Z : State) (wMAX_LOCK_DELAY : Addr) (wGRANTED : Addr) (wQUEUED : Addr) (wZERO : Addr) (a1 : Addr) (q2 : Int64) (a3 : Addr) (a4 : Addr) (k5 : ClassId) (a6 : Addr) (a7 : Addr) (h0 : Heap) (n0 : Nat) (v : Option Value) (h : Heap) (L : List Loc) : Prop := v = some (.ref a7) ∧ Fr n0 L ∧ Keep h0 h [a4, a3, a1] ∧ Exa Z h a4 s7n ∧ Arv Z h a4 k5 (.object s8n) (17 : Int32) ([.null, .null, .null, .null, .null, .null, .null, .null, .null, .null, .null, .null, .null, .null, .null, .null, .null]) .null ∧ Ovr Z k5 s8n ∧ Exa Z h a3 s6n ∧ Fld Z h a3 s6n "elements" s7n (.ref a4) ∧ Fld Z h a3 s6n "head" "I" (.int 1) ∧ Fld Z h a3 s6n "tail" "I" (.int 1) ∧ Exa Z h a1 s4n ∧ Fld Z h a1 s4n "generation" "J" (.long (q2 + (1 : Int64))) ∧ Fld Z h a1 s4n "heldBack" "Z" (.int 0) ∧ Fld Z h a1 s4n "holder" s9n (.ref a7) ∧ Fld Z h a1 s4n s10n s0n (.ref wMAX_LOCK_DELAY) ∧ Fld Z h a1 s4n "waiters" s11n (.ref a3)
theorem au30_1 (l : Launch) (Z : State) (a0 : Array Value) (hw : ∀ d ∈ tables_1, d.before a0 Z = true) (ws : List Jvm.Cond) (wMAX_LOCK_DELAY : Addr) (wGRANTED : Addr) (wQUEUED : Addr) (wZERO : Addr) (hS : SS Z wMAX_LOCK_DELAY wGRANTED wQUEUED wZERO) (a1 : Addr) (q2 : Int64) (a3 : Addr) (a4 : Addr) (k5 : ClassId) (a6 : Addr) (a7 : Addr) (h0 : Heap) (n0 : Nat) (O0 : Old Z n0 h0) (P0 : Exa Z h0 a1 s4n) (P1 : Fld Z h0 a1 s4n "generation" "J" (.long q2)) (P2 : Fld Z h0 a1 s4n "heldBack" "Z" (.int 0)) (P3 : Fld Z h0 a1 s4n "holder" s9n .null) (P4 : Fld Z h0 a1 s4n s10n s0n (.ref wMAX_LOCK_DELAY)) (P5 : Fld Z h0 a1 s4n "waiters" s11n (.ref a3)) (P6 : Exa Z h0 a3 s6n) (P7 : Fld Z h0 a3 s6n "elements" s7n (.ref a4)) (P8 : Fld Z h0 a3 s6n "head" "I" (.int 0)) (P9 : Fld Z h0 a3 s6n "tail" "I" (.int 1)) (P10 : Arv Z h0 a4 k5 (.object s8n) (17 : Int32) ([(.ref a6), .null, .null, .null, .null, .null, .null, .null, .null, .null, .null, .null, .null, .null, .null, .null, .null]) .null) (P11 : Ovr Z k5 s8n) (P12 : Exa Z h0 a4 s7n) (P13 : Exa Z h0 a6 s15n) (P14 : Fld Z h0 a6 s15n "lockDelay" s0n (.ref wMAX_LOCK_DELAY)) (P15 : Fld Z h0 a6 s15n "owner" s9n (.ref a7)) (P19 : n0 ≤ a1) (P20 : n0 ≤ a3) (P21 : n0 ≤ a4) (P24 : a1 ≠ a3) (P25 : a1 ≠ a4) (P26 : a1 ≠ a6) (P28 : a3 ≠ a4) (P29 : a3 ≠ a6) (P31 : a4 ≠ a6) :
    MetB l M21 prog_84_method_22_code 2 (some (.object s3n)) ws (rmk 3 0 0 41) Z h0 #[(.ref a1)] (Q_au30_1 Z wMAX_LOCK_DELAY wGRANTED wQUEUED wZERO a1 q2 a3 a4 k5 a6 a7 h0 n0) := by
  refine own_body (plainFor_of_name pn_com_example_umpired_umpired_server_NodeLock) ?_
  intro p e s m below meth c s₁ hx hby hml hown hnm hret0 hlk0 hZ X0 e0
  have N0 := Fr.nil n0
  have pre0 : ∀ t, Steps p.tables e below (s₁.setTop (mkF m 0 #[(vr a1), .unset] [])) t → Steps p.tables e below (s₁.setTop (entryFrame m #[(.ref a1)] 2)) t := fun t k => castTop (ef_au30_1 m a1) k
  have K0 := Keep.refl h0 [a4, a3, a1]
  have hS0 := hS
  obtain ⟨S_wMAX_LOCK_DELAY, E_wMAX_LOCK_DELAY, S_wGRANTED, E_wGRANTED, S_wQUEUED, E_wQUEUED, F_seconds_wMAX_LOCK_DELAY, F_nanos_wMAX_LOCK_DELAY, S_wZERO, E_wZERO, F_seconds_wZERO, F_nanos_wZERO⟩ := hS0
  obtain ⟨T1, X1, e1, st1⟩ := getF X0 hx hZ hown (host := "") (Or.inl (ow hw 27 rfl)) Via.refl e0 P5 (g := (mkF m 1 #[(vr a1), .unset] [(.ref a1)])) rfl rfl (hb hby d30_1)
  obtain ⟨cq2, kq2, q2a, q2b, q2c⟩ := isOf hZ e1 P6
  obtain ⟨_, _, ⟨T2, L2, k2, n2⟩, -, X2, ⟨Lc2, hQ2, l2, y2, z2⟩, st2⟩ := X1.interfaceBack hx (xi := M22) (y := M20) hown (mvT hZ (ow hw 228 rfl)) (mvT hZ (ow hw 229 rfl)) (mvT hZ (ow hw 230 rfl)) (mvT hZ (ow hw 231 rfl)) (mvT hZ (ow hw 232 rfl)) (mvT hZ (ow hw 233 rfl)) (mvT hZ (ow hw 234 rfl)) (mvT hZ (ow hw 64 rfl)) (by decide) (backOf (W := 0) (au31_1 l Z a0 hw [] wMAX_LOCK_DELAY wGRANTED wQUEUED wZERO hS a3 a4 k5 a6 h0 n0 O0 P6 P7 P8 P9 P10 P11 P12 P20 P21 P28) hZ (ow hw 235 rfl) (ow hw 12 rfl) (by decide) (by decide)) q2a q2b q2c (g := (mkF m 4 #[(vr a1), .unset] [(.ref a3)])) rfl (by rw [hml]; rfl) (Steps.refl _) (argsL := []) (rest := []) (lenOf pd_14 rfl) rfl (by show 2 * 0 + _ ≤ _; exact Nat.le_of_eq rfl) (hb hby d30_4) (fun _ _ => ⟨rfl, e1, (by decide : 0 + 0 ≤ _), (by decide : 0 + 0 ≤ _)⟩)
  dsimp only [Pt.U, Pt.locs, Pt.cells, Pt.slots] at X2 l2 y2 z2 st2 hQ2
  subst l2 y2 z2
  obtain ⟨rfl, Nq2, K2q, p2_0, p2_1, p2_2, p2_3, p2_4, p2_5, p2_6⟩ := hQ2
  have N2 := Fr.app N0 Nq2
  have O3 : Old Z n0 T2.heap := O0.keep K2q (allS P21 (allS P20 all0))
  have K3 : Keep h0 T2.heap [a4, a3, a1] := K0.trans K2q (allS (Or.inl (List.mem_of_getElem? (i := 0) rfl)) (allS (Or.inl (List.mem_of_getElem? (i := 1) rfl)) all0))
  have f4 : Exa Z T2.heap a6 s15n := (P13.keep K2q)
  obtain ⟨T5, X5, e5, st5⟩ := castY X2 hx hZ hown (ow hw 139 rfl) rfl (Ins.self f4) (g := (mkF m 9 #[(vr a1), .unset] [(.ref a6)])) rfl rfl (hb hby d30_9)
  have f6 : Fld Z T2.heap a6 s15n "owner" s9n (.ref a7) := (P15.keep K2q (ninS (Ne.symm P31) (ninS (Ne.symm P29) nin0)))
  obtain ⟨T7, X7, e7, st7⟩ := own_getR X5 hx hZ hown (ow hw 183 rfl) e5 f6 (g := (mkF m 19 #[(vr a1), (vr a6)] [(.ref a6), (.ref a1)])) rfl rfl (hb hby d30_19)
  have f8 : Fld Z T2.heap a6 s15n "lockDelay" s0n (.ref wMAX_LOCK_DELAY) := (P14.keep K2q (ninS (Ne.symm P31) (ninS (Ne.symm P29) nin0)))
  obtain ⟨T9, X9, e9, st9⟩ := own_getR X7 hx hZ hown (ow hw 244 rfl) e7 f8 (g := (mkF m 23 #[(vr a1), (vr a6)] [(.ref a6), (.ref a7), (.ref a1)])) rfl rfl (hb hby d30_23)
  have f10 : Exa Z T2.heap a1 s4n := (P0.keep K2q)
  have f11 : Fld Z T2.heap a1 s4n "generation" "J" (.long q2) := (P1.keep K2q (ninS P25 (ninS P24 nin0)))
  have f12 : Fld Z T2.heap a1 s4n "heldBack" "Z" (.int 0) := (P2.keep K2q (ninS P25 (ninS P24 nin0)))
  have f13 : Fld Z T2.heap a1 s4n "holder" s9n .null := (P3.keep K2q (ninS P25 (ninS P24 nin0)))
  have f14 : Fld Z T2.heap a1 s4n s10n s0n (.ref wMAX_LOCK_DELAY) := (P4.keep K2q (ninS P25 (ninS P24 nin0)))
  have f15 : Fld Z T2.heap a1 s4n "waiters" s11n (.ref a3) := (P5.keep K2q (ninS P25 (ninS P24 nin0)))
  obtain ⟨cq16, q16, q16'⟩ := f10.cell
  obtain ⟨_, _, ⟨T16, L16, k16, n16⟩, -, X16, ⟨Lc16, hQ16, l16, y16, z16⟩, st16⟩ := X9.privateBack hx (y := M15) hown (mvT hZ (ow hw 124 rfl)) (mvT hZ (ow hw 125 rfl)) (own_selp (mvT hZ (ow hw 2 rfl)) (mvP hZ (ow hw 126 rfl)) (mvT hZ (ow hw 125 rfl)) (by decide)) (Cond.privateMethod_at (mvP hZ (ow hw 126 rfl) (args := #[]))) (mvT hZ (ow hw 127 rfl)) (by decide) (backOf (W := 0) (au16_2 l Z a0 hw [] wMAX_LOCK_DELAY wGRANTED wQUEUED wZERO hS a1 a7 q2 a3 T2.heap n0 O3 f10 f11 f12 f13 f14 f15 P19) hZ (ow hw 127 rfl) (ow hw 3 rfl) (by decide) (by decide)) (g := (mkF m 26 #[(vr a1), (vr a6)] [(.ref wMAX_LOCK_DELAY), (.ref a7), (.ref a1)])) rfl (by rw [hml]; rfl) (Steps.refl _) (a := a1) (by rw [e9]; exact q16) q16' (argsL := [(.ref a7), (.ref wMAX_LOCK_DELAY)]) (rest := []) (lenOf pd_10 rfl) rfl (by show 2 * 0 + _ ≤ _; exact Nat.le_of_eq rfl) (hb hby d30_26) (fun _ _ => ⟨rfl, e9, (by decide : 0 + 0 ≤ _), (by decide : 0 + 0 ≤ _)⟩)
  dsimp only [Pt.U, Pt.locs, Pt.cells, Pt.slots] at X16 l16 y16 z16 st16 hQ16
  subst l16 y16 z16
  obtain ⟨rfl, Nq16, K16q, p16_0, p16_1, p16_2, p16_3, p16_4, p16_5⟩ := hQ16
  have N16 := Fr.app N2 Nq16
  have O17 : Old Z n0 T16.heap := O3.keep K16q (allS P19 all0)
  have K17 : Keep h0 T16.heap [a4, a3, a1] := K3.trans K16q (allS (Or.inl (List.mem_of_getElem? (i := 2) rfl)) all0)
  have f18 : Fld Z T16.heap a6 s15n "owner" s9n (.ref a7) := (f6.keep K16q (ninS (Ne.symm P26) nin0))
  obtain ⟨T19, X19, e19, st19⟩ := own_getR X16 hx hZ hown (ow hw 183 rfl) rfl f18 (g := (mkF m 38 #[(vr a1), (vr a6)] [(.ref a6)])) rfl rfl (hb hby d30_38)
  have f20 : Exa Z T16.heap a4 s7n := (p2_0.keep K16q)
  have f21 : Arv Z T16.heap a4 k5 (.object s8n) (17 : Int32) ([.null, .null, .null, .null, .null, .null, .null, .null, .null, .null, .null, .null, .null, .null, .null, .null, .null]) .null := (p2_1.keep K16q (ninS (Ne.symm P25) nin0))
  have f22 : Exa Z T16.heap a3 s6n := (p2_3.keep K16q)
  have f23 : Fld Z T16.heap a3 s6n "elements" s7n (.ref a4) := (p2_4.keep K16q (ninS (Ne.symm P24) nin0))
  have f24 : Fld Z T16.heap a3 s6n "head" "I" (.int 1) := (p2_5.keep K16q (ninS (Ne.symm P24) nin0))
  have f25 : Fld Z T16.heap a3 s6n "tail" "I" (.int 1) := (p2_6.keep K16q (ninS (Ne.symm P24) nin0))
  obtain ⟨fs, hr, hrun, hended, hW, hsame⟩ := X19.leave (v := some (.ref a7)) (fun h => by rw [hret0] at h; cases h)
  refine ⟨_, _, pre0 _ ?_, hrun, hended, _, _, rfl, ?_, ⟨_, rfl⟩, hW, hsame.mono (by decide) (by decide)⟩
  · skip
    show Steps p.tables e below (s₁.setTop (mkF m 0 #[(vr a1), .unset] [])) _
    refine XS.aloadN X0.here hx rfl (hb hby d30_0) rfl rfl ?_
    refine st1 _ ?_
    refine st2.trans ?_
    refine st5 _ ?_
    refine XS.astoreN X5.here hx rfl (hb hby d30_12) rfl rfl (l' := #[(vr a1), (vr a6)]) rfl ?_
    refine XS.aloadN X5.here hx rfl (hb hby d30_13) rfl rfl ?_
    refine XS.ifnullNo X5.here hx rfl (hb hby d30_14) rfl ?_
    refine XS.aloadN X5.here hx rfl (hb hby d30_17) rfl rfl ?_
    show Steps p.tables e below (T5.setTop (mkF m 18 #[(vr a1), (vr a6)] [(.ref a1)])) _
    refine XS.aloadN X5.here hx rfl (hb hby d30_18) rfl rfl ?_
    refine st7 _ ?_
    refine XS.aloadN X7.here hx rfl (hb hby d30_22) rfl rfl ?_
    refine st9 _ ?_
    refine st16.trans ?_
    refine XS.aloadN X16.here hx rfl (hb hby d30_29) rfl rfl ?_
    refine XS.ifnonnullYes X16.here hx rfl (pc0 := 30) (pc' := 37) rfl (hb hby d30_30) rfl (by decide) (by decide) ?_
    refine XS.aloadN X16.here hx rfl (hb hby d30_37) rfl rfl ?_
    show Steps p.tables e below (T16.setTop (mkF m 38 #[(vr a1), (vr a6)] [(.ref a6)])) _
    refine st19 _ ?_
    jvm_step X19.here [X19.here.top, hx, (hb hby d30_41), X19.method', hret0, Value.isRef, FieldType.isReference]
    first | (intro acts; rw [hr _ acts rfl rfl rfl]) | rw [hr _ _ rfl rfl rfl]
    exact Steps.refl _
  · show Q_au30_1 Z wMAX_LOCK_DELAY wGRANTED wQUEUED wZERO a1 q2 a3 a4 k5 a6 a7 h0 n0 _ T19.heap _
    rw [e19]
    exact ⟨rfl, N16, K17, f20, f21, p2_2, f22, f23, f24, f25, p16_0, p16_1, p16_2, p16_3, p16_4, p16_5⟩
def Q_au7_7 (Z : State) (wMAX_LOCK_DELAY : Addr) (wGRANTED : Addr) (wQUEUED : Addr) (wZERO : Addr) (a1 : Addr) (q2 : Int64) (qg3 : Int64) (a4 : Addr) (a5 : Addr) (q6 : Int64) (a7 : Addr) (k8 : ClassId) (a9 : Addr) (a10 : Addr) (q11 : Int64) (h0 : Heap) (n0 : Nat) (v : Option Value) (h : Heap) (L : List Loc) : Prop := v = some (.ref a10) ∧ Fr n0 L ∧ Keep h0 h [a1, a7, a5] ∧ Exa Z h a1 s4n ∧ Fld Z h a1 s4n "generation" "J" (.long (qg3 + (1 : Int64))) ∧ Fld Z h a1 s4n "heldBack" "Z" (.int 0) ∧ Fld Z h a1 s4n "holder" s9n (.ref a10) ∧ Fld Z h a1 s4n s10n s0n (.ref wMAX_LOCK_DELAY) ∧ Fld Z h a1 s4n "waiters" s11n (.ref a5) ∧ Exa Z h a7 s7n ∧ Arv Z h a7 k8 (.object s8n) (17 : Int32) ([.null, .null, .null, .null, .null, .null, .null, .null, .null, .null, .null, .null, .null, .null, .null, .null, .null]) .null ∧ Ovr Z k8 s8n ∧ Exa Z h a5 s6n ∧ Fld Z h a5 s6n "elements" s7n (.ref a7) ∧ Fld Z h a5 s6n "head" "I" (.int 1) ∧ Fld Z h a5 s6n "tail" "I" (.int 1)
theorem au7_7 (l : Launch) (Z : State) (a0 : Array Value) (hw : ∀ d ∈ tables_1, d.before a0 Z = true) (ws : List Jvm.Cond) (wMAX_LOCK_DELAY : Addr) (wGRANTED : Addr) (wQUEUED : Addr) (wZERO : Addr) (hS : SS Z wMAX_LOCK_DELAY wGRANTED wQUEUED wZERO) (a1 : Addr) (q2 : Int64) (qg3 : Int64) (a4 : Addr) (a5 : Addr) (q6 : Int64) (a7 : Addr) (k8 : ClassId) (a9 : Addr) (a10 : Addr) (q11 : Int64) (h0 : Heap) (n0 : Nat) (O0 : Old Z n0 h0) (P0 : Exa Z h0 a1 s4n) (P1 : Fld Z h0 a1 s4n "generation" "J" (.long qg3)) (P2 : Fld Z h0 a1 s4n "heldBack" "Z" (.int 0)) (P3 : Fld Z h0 a1 s4n "holder" s9n (.ref a4)) (P4 : Fld Z h0 a1 s4n s10n s0n (.ref wMAX_LOCK_DELAY)) (P5 : Fld Z h0 a1 s4n "waiters" s11n (.ref a5)) (P6 : Exa Z h0 a4 s3n) (P8 : Fld Z h0 a4 s3n "session" "J" (.long q6)) (P9 : Exa Z h0 a5 s6n) (P10 : Fld Z h0 a5 s6n "elements" s7n (.ref a7)) (P11 : Fld Z h0 a5 s6n "head" "I" (.int 0)) (P12 : Fld Z h0 a5 s6n "tail" "I" (.int 1)) (P13 : Arv Z h0 a7 k8 (.object s8n) (17 : Int32) ([(.ref a9), .null, .null, .null, .null, .null, .null, .null, .null, .null, .null, .null, .null, .null, .null, .null, .null]) .null) (P14 : Ovr Z k8 s8n) (P15 : Exa Z h0 a7 s7n) (P16 : Exa Z h0 a9 s15n) (P17 : Fld Z h0 a9 s15n "lockDelay" s0n (.ref wMAX_LOCK_DELAY)) (P18 : Fld Z h0 a9 s15n "owner" s9n (.ref a10)) (P19 : Exa Z h0 a10 s3n) (P21 : Fld Z h0 a10 s3n "session" "J" (.long q11)) (P22 : q6 = q2) (P23 : q11 ≠ q2) (P24 : n0 ≤ a1) (P26 : n0 ≤ a5) (P27 : n0 ≤ a7) (P31 : a1 ≠ a5) (P32 : a1 ≠ a7) (P33 : a1 ≠ a9) (P39 : a5 ≠ a7) (P40 : a5 ≠ a9) (P42 : a7 ≠ a9) :
    MetB l M12 prog_84_method_14_code 6 (some (.object s3n)) ws (rmk 4 1 4 54) Z h0 #[(.ref a1), (.long q2), (.int 0)] (Q_au7_7 Z wMAX_LOCK_DELAY wGRANTED wQUEUED wZERO a1 q2 qg3 a4 a5 q6 a7 k8 a9 a10 q11 h0 n0) := by
  refine own_body (plainFor_of_name pn_com_example_umpired_umpired_server_NodeLock) ?_
  intro p e s m below meth c s₁ hx hby hml hown hnm hret0 hlk0 hZ X0 e0
  have N0 := Fr.nil n0
  have pre0 : ∀ t, Steps p.tables e below (s₁.setTop (mkF m 0 #[(vr a1), (vl q2), .second, (vi 0), .unset, .unset] [])) t → Steps p.tables e below (s₁.setTop (entryFrame m #[(.ref a1), (.long q2), (.int 0)] 6)) t := fun t k => castTop (ef_au7_7 m a1 q2 (0 : Int32)) k
  have K0 := Keep.refl h0 [a1, a7, a5]
  have hS0 := hS
  obtain ⟨S_wMAX_LOCK_DELAY, E_wMAX_LOCK_DELAY, S_wGRANTED, E_wGRANTED, S_wQUEUED, E_wQUEUED, F_seconds_wMAX_LOCK_DELAY, F_nanos_wMAX_LOCK_DELAY, S_wZERO, E_wZERO, F_seconds_wZERO, F_nanos_wZERO⟩ := hS0
  obtain ⟨T1, X1, e1, st1⟩ := getF X0 hx hZ hown (host := "") (Or.inl (ow hw 27 rfl)) Via.refl e0 P5 (g := (mkF m 1 #[(vr a1), (vl q2), .second, (vi 0), .unset, .unset] [(.ref a1)])) rfl rfl (hb hby d7_1)
  obtain ⟨cq2, kq2, q2a, q2b, q2c⟩ := isOf hZ e1 P9
  obtain ⟨_, _, ⟨T2, L2, k2, n2⟩, -, X2, ⟨Lc2, hQ2, l2, y2, z2⟩, st2⟩ := X1.interfaceBack hx (xi := M13) (y := M9) hown (mvT hZ (ow hw 57 rfl)) (mvT hZ (ow hw 58 rfl)) (mvT hZ (ow hw 59 rfl)) (mvT hZ (ow hw 60 rfl)) (mvT hZ (ow hw 61 rfl)) (mvT hZ (ow hw 62 rfl)) (mvT hZ (ow hw 63 rfl)) (mvT hZ (ow hw 64 rfl)) (by decide) (backOf (W := 0) (au8_1 l Z a0 hw [] wMAX_LOCK_DELAY wGRANTED wQUEUED wZERO hS a5 a7 k8 a9 a10 h0 n0 O0 P9 P10 P11 P12 P13 P16 P19) hZ (ow hw 65 rfl) (ow hw 12 rfl) (by decide) (by decide)) q2a q2b q2c (g := (mkF m 4 #[(vr a1), (vl q2), .second, (vi 0), .unset, .unset] [(.ref a5)])) rfl (by rw [hml]; rfl) (Steps.refl _) (argsL := []) (rest := []) (lenOf pd_6 rfl) rfl (by show 2 * 0 + _ ≤ _; exact Nat.le_of_eq rfl) (hb hby d7_4) (fun _ _ => ⟨rfl, e1, (by decide : 0 + 1 ≤ _), (by decide : 0 + 4 ≤ _)⟩)
  dsimp only [Pt.U, Pt.locs, Pt.cells, Pt.slots] at X2 l2 y2 z2 st2 hQ2
  subst l2 y2 z2
  obtain ⟨e1_2, rfl, Nq2, K2q, p2_0, p2_1, p2_2, p2_3, p2_4, p2_5⟩ := hQ2
  have N2 := Fr.app N0 Nq2
  have ne3 : a1 ≠ e1_2 := Nat.ne_of_lt (Nat.lt_of_lt_of_le P0.lt p2_0)
  have ne4 : a4 ≠ e1_2 := Nat.ne_of_lt (Nat.lt_of_lt_of_le P6.lt p2_0)
  have ne5 : a5 ≠ e1_2 := Nat.ne_of_lt (Nat.lt_of_lt_of_le P9.lt p2_0)
  have ne6 : a7 ≠ e1_2 := Nat.ne_of_lt (Nat.lt_of_lt_of_le P13.lt p2_0)
  have ne7 : a9 ≠ e1_2 := Nat.ne_of_lt (Nat.lt_of_lt_of_le P16.lt p2_0)
  have ne8 : a10 ≠ e1_2 := Nat.ne_of_lt (Nat.lt_of_lt_of_le P19.lt p2_0)
  have g9 : n0 ≤ e1_2 := Nat.le_trans (own_sz O0) p2_0
  have sz10 : h0.size ≤ e1_2 := Nat.le_trans K0.1 p2_0
  have O11 : Old Z n0 T2.heap := O0.keep K2q all0
  have K11 : Keep h0 T2.heap [a1, a7, a5] := K0.trans K2q all0
  obtain ⟨cq12, kq12, q12a, q12b, q12c⟩ := isOf hZ rfl p2_1
  obtain ⟨_, _, ⟨T12, L12, k12, n12⟩, -, X12, ⟨Lc12, hQ12, l12, y12, z12⟩, st12⟩ := X2.interfaceBack hx (xi := M14) (y := M10) hown (mvT hZ (ow hw 95 rfl)) (mvT hZ (ow hw 96 rfl)) (mvT hZ (ow hw 97 rfl)) (mvT hZ (ow hw 98 rfl)) (mvT hZ (ow hw 99 rfl)) (mvT hZ (ow hw 100 rfl)) (mvT hZ (ow hw 101 rfl)) (mvT hZ (ow hw 102 rfl)) (by decide) (backOf (W := 0) (au12_1 l Z a0 hw [] wMAX_LOCK_DELAY wGRANTED wQUEUED wZERO hS e1_2 T2.heap n0 O11 p2_4) hZ (ow hw 103 rfl) (ow hw 68 rfl) (by decide) (by decide)) q12a q12b q12c (g := (mkF m 13 #[(vr a1), (vl q2), .second, (vi 0), (vr e1_2), .unset] [(.ref e1_2)])) rfl (by rw [hml]; rfl) (Steps.refl _) (argsL := []) (rest := []) (lenOf pd_7 rfl) rfl (by show 2 * 0 + _ ≤ _; exact Nat.le_of_eq rfl) (hb hby d7_13) (fun _ _ => ⟨rfl, rfl, (by decide : 1 + 0 ≤ _), (by decide : 4 + 0 ≤ _)⟩)
  dsimp only [Pt.U, Pt.locs, Pt.cells, Pt.slots] at X12 l12 y12 z12 st12 hQ12
  subst l12 y12 z12
  obtain ⟨rfl, Nq12, K12q⟩ := hQ12
  have N12 := Fr.app N2 Nq12
  have f13 : Fld Z T2.heap a5 s6n "elements" s7n (.ref a7) := (P10.keep K2q nin0)
  have f14 : Arv Z T2.heap a7 k8 (.object s8n) (17 : Int32) ([(.ref a9), .null, .null, .null, .null, .null, .null, .null, .null, .null, .null, .null, .null, .null, .null, .null, .null]) .null := (P13.keep K2q nin0)
  obtain ⟨cq15, kq15, q15a, q15b, q15c⟩ := isOf hZ K12q p2_1
  obtain ⟨_, _, ⟨T15, L15, k15, n15⟩, -, X15, ⟨Lc15, hQ15, l15, y15, z15⟩, st15⟩ := X12.interfaceBack hx (xi := M36) (y := M31) hown (mvT hZ (ow hw 169 rfl)) (mvT hZ (ow hw 170 rfl)) (mvT hZ (ow hw 171 rfl)) (mvT hZ (ow hw 172 rfl)) (mvT hZ (ow hw 173 rfl)) (mvT hZ (ow hw 174 rfl)) (mvT hZ (ow hw 175 rfl)) (mvT hZ (ow hw 102 rfl)) (by decide) (backOf (W := 0) (au22_0 l Z a0 hw [] wMAX_LOCK_DELAY wGRANTED wQUEUED wZERO hS e1_2 a5 a7 k8 a9 T2.heap n0 O11 p2_1 p2_2 p2_3 p2_4 p2_5 f13 f14 g9 (Ne.symm ne6)) hZ (ow hw 176 rfl) (ow hw 68 rfl) (by decide) (by decide)) q15a q15b q15c (g := (mkF m 23 #[(vr a1), (vl q2), .second, (vi 0), (vr e1_2), .unset] [(.ref e1_2)])) rfl (by rw [hml]; rfl) (Steps.refl _) (argsL := []) (rest := []) (lenOf pd_14 rfl) rfl (by show 2 * 0 + _ ≤ _; exact Nat.le_of_eq rfl) (hb hby d7_23) (fun _ _ => ⟨rfl, K12q, (by decide : 1 + 0 ≤ _), (by decide : 4 + 0 ≤ _)⟩)
  dsimp only [Pt.U, Pt.locs, Pt.cells, Pt.slots] at X15 l15 y15 z15 st15 hQ15
  subst l15 y15 z15
  obtain ⟨rfl, Nq15, K15q, p15_0, p15_1, p15_2, p15_3, p15_4⟩ := hQ15
  have N15 := Fr.app N12 Nq15
  have O16 : Old Z n0 T15.heap := O11.keep K15q (allS g9 all0)
  have K16 : Keep h0 T15.heap [a1, a7, a5] := K11.trans K15q (allS (Or.inr sz10) all0)
  have f17 : Exa Z T15.heap a9 s15n := ((P16.keep K2q).keep K15q)
  obtain ⟨T18, X18, e18, st18⟩ := castY X15 hx hZ hown (ow hw 139 rfl) rfl (Ins.self f17) (g := (mkF m 28 #[(vr a1), (vl q2), .second, (vi 0), (vr e1_2), .unset] [(.ref a9)])) rfl rfl (hb hby d7_28)
  have f19 : Fld Z T15.heap a9 s15n "owner" s9n (.ref a10) := ((P18.keep K2q nin0).keep K15q (ninS ne7 nin0))
  obtain ⟨T20, X20, e20, st20⟩ := own_getR X18 hx hZ hown (ow hw 183 rfl) e18 f19 (g := (mkF m 31 #[(vr a1), (vl q2), .second, (vi 0), (vr e1_2), .unset] [(.ref a9)])) rfl rfl (hb hby d7_31)
  have f21 : Fld Z T15.heap a10 s3n "session" "J" (.long q11) := ((P21.keep K2q nin0).keep K15q (ninS ne8 nin0))
  have f23 : Exa Z T15.heap a10 s3n := ((P19.keep K2q).keep K15q)
  obtain ⟨cq22, kq22, q22a, q22b, q22c⟩ := isOf hZ e20 f23
  obtain ⟨_, _, ⟨T22, L22, k22, n22⟩, -, X22, ⟨Lc22, hQ22, l22, y22, z22⟩, st22⟩ := X20.virtualBack hx (y := M17) (z := M17) hown (mvT hZ (ow hw 184 rfl)) (mvT hZ (ow hw 185 rfl)) (notFace_of_selects (args := #[]) (mvT hZ (ow hw 187 rfl))) (mvT hZ (ow hw 187 rfl)) (mvT hZ (ow hw 186 rfl)) (by decide) (backOf (W := 0) (au24_0 l Z a0 hw [] wMAX_LOCK_DELAY wGRANTED wQUEUED wZERO hS a10 q11 T15.heap n0 O16 f21) hZ (ow hw 188 rfl) (ow hw 35 rfl) (by decide) (by decide)) q22a q22c (g := (mkF m 34 #[(vr a1), (vl q2), .second, (vi 0), (vr e1_2), .unset] [(.ref a10)])) rfl (by rw [hml]; rfl) (Steps.refl _) (argsL := []) (rest := []) (lenOf pd_12 rfl) rfl (by show 2 * 0 + _ ≤ _; exact Nat.le_of_eq rfl) (hb hby d7_34) (fun _ _ => ⟨rfl, e20, (by decide : 1 + 0 ≤ _), (by decide : 4 + 0 ≤ _)⟩)
  dsimp only [Pt.U, Pt.locs, Pt.cells, Pt.slots] at X22 l22 y22 z22 st22 hQ22
  subst l22 y22 z22
  obtain ⟨rfl, Nq22, K22q⟩ := hQ22
  have N22 := Fr.app N15 Nq22
  obtain ⟨cq24, kq24, q24a, q24b, q24c⟩ := isOf hZ K22q p15_0
  obtain ⟨_, _, ⟨T24, L24, k24, n24⟩, -, X24, ⟨Lc24, hQ24, l24, y24, z24⟩, st24⟩ := X22.interfaceBack hx (xi := M14) (y := M10) hown (mvT hZ (ow hw 95 rfl)) (mvT hZ (ow hw 96 rfl)) (mvT hZ (ow hw 97 rfl)) (mvT hZ (ow hw 98 rfl)) (mvT hZ (ow hw 99 rfl)) (mvT hZ (ow hw 100 rfl)) (mvT hZ (ow hw 101 rfl)) (mvT hZ (ow hw 102 rfl)) (by decide) (backOf (W := 0) (au12_0 l Z a0 hw [] wMAX_LOCK_DELAY wGRANTED wQUEUED wZERO hS e1_2 T15.heap n0 O16 p15_3) hZ (ow hw 103 rfl) (ow hw 68 rfl) (by decide) (by decide)) q24a q24b q24c (g := (mkF m 13 #[(vr a1), (vl q2), .second, (vi 0), (vr e1_2), .unset] [(.ref e1_2)])) rfl (by rw [hml]; rfl) (Steps.refl _) (argsL := []) (rest := []) (lenOf pd_7 rfl) rfl (by show 2 * 0 + _ ≤ _; exact Nat.le_of_eq rfl) (hb hby d7_13) (fun _ _ => ⟨rfl, K22q, (by decide : 1 + 0 ≤ _), (by decide : 4 + 0 ≤ _)⟩)
  dsimp only [Pt.U, Pt.locs, Pt.cells, Pt.slots] at X24 l24 y24 z24 st24 hQ24
  subst l24 y24 z24
  obtain ⟨rfl, Nq24, K24q⟩ := hQ24
  have N24 := Fr.app N22 Nq24
  have f25 : Fld Z T15.heap a1 s4n "holder" s9n (.ref a4) := ((P3.keep K2q nin0).keep K15q (ninS ne3 nin0))
  have f26 : Exa Z T15.heap a4 s3n := ((P6.keep K2q).keep K15q)
  have f27 : Fld Z T15.heap a4 s3n "session" "J" (.long q6) := ((P8.keep K2q nin0).keep K15q (ninS ne4 nin0))
  have f29 : Exa Z T15.heap a1 s4n := ((P0.keep K2q).keep K15q)
  obtain ⟨cq28, kq28, q28a, q28b, q28c⟩ := isOf hZ K24q f29
  obtain ⟨_, _, ⟨T28, L28, k28, n28⟩, -, X28, ⟨Lc28, hQ28, l28, y28, z28⟩, st28⟩ := X24.virtualBack hx (y := M11) (z := M11) hown (mvT hZ (ow hw 104 rfl)) (mvT hZ (ow hw 105 rfl)) (notFace_of_selects (args := #[]) (mvT hZ (ow hw 107 rfl))) (mvT hZ (ow hw 107 rfl)) (mvT hZ (ow hw 106 rfl)) (by decide) (backOf (W := 0) (au13_4 l Z a0 hw [] wMAX_LOCK_DELAY wGRANTED wQUEUED wZERO hS a1 q2 a4 q6 T15.heap n0 O16 f25 f26 f27 P22) hZ (ow hw 108 rfl) (ow hw 3 rfl) (by decide) (by decide)) q28a q28c (g := (mkF m 57 #[(vr a1), (vl q2), .second, (vi 0), (vr e1_2), .val .null] [(.long q2), (.ref a1)])) rfl (by rw [hml]; rfl) (Steps.refl _) (argsL := [(.long q2)]) (rest := []) (lenOf pd_2 rfl) rfl (by show 2 * 0 + _ ≤ _; exact Nat.le_of_eq rfl) (hb hby d7_57) (fun _ _ => ⟨rfl, K24q, (by decide : 1 + 0 ≤ _), (by decide : 4 + 0 ≤ _)⟩)
  dsimp only [Pt.U, Pt.locs, Pt.cells, Pt.slots] at X28 l28 y28 z28 st28 hQ28
  subst l28 y28 z28
  obtain ⟨rfl, Nq28, K28q⟩ := hQ28
  have N28 := Fr.app N24 Nq28
  obtain ⟨T30, h30, X30, e30, W30, st30⟩ := putF X28 hx hZ hown (host := "") (Or.inl (ow hw 109 rfl)) Via.refl K28q f25 f29 (Or.inl (ow hw 110 rfl)) (ow hw 2 rfl) (ty := (.object s3n)) (by decide) rfl rfl (g := (mkF m 65 #[(vr a1), (vl q2), .second, (vi 0), (vr e1_2), .val .null] [.null, (.ref a1)])) rfl rfl (hb hby d7_65)
  have N30 := Fr.snoc X30 N28 P24
  have O31 : Old Z n0 h30 := O16.wr W30 P24
  have K31 : Keep h0 h30 [a1, a7, a5] := K16.wr W30 (Or.inl (List.mem_of_getElem? (i := 0) rfl))
  have Fw30 : Fld Z h30 a1 s4n "holder" s9n .null := f25.same W30
  have f32 : Exa Z h30 a1 s4n := (f29.wr W30)
  have f33 : Fld Z h30 a1 s4n "heldBack" "Z" (.int 0) := (((P2.keep K2q nin0).keep K15q (ninS ne3 nin0)).other W30 (Or.inr (slot_ne (Or.inl (ow hw 51 rfl)) (Or.inl (ow hw 110 rfl)) (by decide) (t := .boolean) (t' := (.object s3n)) (by decide) (by decide))))
  obtain ⟨T34, h34, X34, e34, W34, st34⟩ := putFN X30 hx hZ hown (ow hw 50 rfl) Via.refl e30 f33 f32 (Or.inl (ow hw 51 rfl)) (ow hw 2 rfl) (ty := .boolean) (v' := (.int 0)) (by decide) rfl rfl (g := (mkF m 88 #[(vr a1), (vl q2), .second, (vi 0), (vr e1_2), .val .null] [(.int 0), (.ref a1)])) rfl rfl (hb hby d7_88)
  have N34 := Fr.snoc X34 N30 P24
  have O35 : Old Z n0 h34 := O31.wr W34 P24
  have K35 : Keep h0 h34 [a1, a7, a5] := K31.wr W34 (Or.inl (List.mem_of_getElem? (i := 0) rfl))
  have Fw34 : Fld Z h34 a1 s4n "heldBack" "Z" (.int 0) := f33.same W34
  obtain ⟨T36, X36, e36, st36⟩ := getF X34 hx hZ hown (host := "") (Or.inl (ow hw 50 rfl)) Via.refl e34 Fw34 (g := (mkF m 92 #[(vr a1), (vl q2), .second, (vi 0), (vr e1_2), .val .null] [(.ref a1)])) rfl rfl (hb hby d7_92)
  have f37 : Exa Z h34 a1 s4n := (f32.wr W34)
  have f38 : Fld Z h34 a1 s4n "generation" "J" (.long qg3) := ((((P1.keep K2q nin0).keep K15q (ninS ne3 nin0)).other W30 (Or.inr (slot_ne (Or.inl (ow hw 129 rfl)) (Or.inl (ow hw 110 rfl)) (by decide) (t := .long) (t' := (.object s3n)) (by decide) (by decide)))).other W34 (Or.inr (slot_ne (Or.inl (ow hw 129 rfl)) (Or.inl (ow hw 51 rfl)) (by decide) (t := .long) (t' := .boolean) (by decide) (by decide))))
  have f39 : Fld Z h34 a1 s4n "holder" s9n .null := (Fw30.other W34 (Or.inr (slot_ne (Or.inl (ow hw 110 rfl)) (Or.inl (ow hw 51 rfl)) (by decide) (t := (.object s3n)) (t' := .boolean) (by decide) (by decide))))
  have f40 : Fld Z h34 a1 s4n s10n s0n (.ref wMAX_LOCK_DELAY) := ((((P4.keep K2q nin0).keep K15q (ninS ne3 nin0)).other W30 (Or.inr (slot_ne (Or.inl (ow hw 32 rfl)) (Or.inl (ow hw 110 rfl)) (by decide) (t := (.object s1n)) (t' := (.object s3n)) (by decide) (by decide)))).other W34 (Or.inr (slot_ne (Or.inl (ow hw 32 rfl)) (Or.inl (ow hw 51 rfl)) (by decide) (t := (.object s1n)) (t' := .boolean) (by decide) (by decide))))
  have f41 : Fld Z h34 a1 s4n "waiters" s11n (.ref a5) := ((((P5.keep K2q nin0).keep K15q (ninS ne3 nin0)).other W30 (Or.inr (slot_ne (Or.inr (ow hw 28 rfl)) (Or.inl (ow hw 110 rfl)) (by decide) (t := (.object s12n)) (t' := (.object s3n)) (by decide) (by decide)))).other W34 (Or.inr (slot_ne (Or.inr (ow hw 28 rfl)) (Or.inl (ow hw 51 rfl)) (by decide) (t := (.object s12n)) (t' := .boolean) (by decide) (by decide))))
  have f42 : Exa Z h34 a5 s6n := ((((P9.keep K2q).keep K15q).wr W30).wr W34)
  have f43 : Fld Z h34 a5 s6n "elements" s7n (.ref a7) := (((f13.keep K15q (ninS ne5 nin0)).other W30 (Or.inl (Ne.symm P31))).other W34 (Or.inl (Ne.symm P31)))
  have f44 : Fld Z h34 a5 s6n "head" "I" (.int 0) := ((((P11.keep K2q nin0).keep K15q (ninS ne5 nin0)).other W30 (Or.inl (Ne.symm P31))).other W34 (Or.inl (Ne.symm P31)))
  have f45 : Fld Z h34 a5 s6n "tail" "I" (.int 1) := ((((P12.keep K2q nin0).keep K15q (ninS ne5 nin0)).other W30 (Or.inl (Ne.symm P31))).other W34 (Or.inl (Ne.symm P31)))
  have f46 : Arv Z h34 a7 k8 (.object s8n) (17 : Int32) ([(.ref a9), .null, .null, .null, .null, .null, .null, .null, .null, .null, .null, .null, .null, .null, .null, .null, .null]) .null := (((f14.keep K15q (ninS ne6 nin0)).other W30 (Ne.symm P32)).other W34 (Ne.symm P32))
  have f47 : Exa Z h34 a7 s7n := ((((P15.keep K2q).keep K15q).wr W30).wr W34)
  have f48 : Exa Z h34 a9 s15n := ((f17.wr W30).wr W34)
  have f49 : Fld Z h34 a9 s15n "lockDelay" s0n (.ref wMAX_LOCK_DELAY) := ((((P17.keep K2q nin0).keep K15q (ninS ne7 nin0)).other W30 (Or.inl (Ne.symm P33))).other W34 (Or.inl (Ne.symm P33)))
  have f50 : Fld Z h34 a9 s15n "owner" s9n (.ref a10) := ((f19.other W30 (Or.inl (Ne.symm P33))).other W34 (Or.inl (Ne.symm P33)))
  obtain ⟨cq51, q51, q51'⟩ := f37.cell
  obtain ⟨_, _, ⟨T51, L51, k51, n51⟩, -, X51, ⟨Lc51, hQ51, l51, y51, z51⟩, st51⟩ := X36.privateBack hx (y := M21) hown (mvT hZ (ow hw 224 rfl)) (mvT hZ (ow hw 225 rfl)) (own_selp (mvT hZ (ow hw 2 rfl)) (mvP hZ (ow hw 226 rfl)) (mvT hZ (ow hw 225 rfl)) (by decide)) (Cond.privateMethod_at (mvP hZ (ow hw 226 rfl) (args := #[]))) (mvT hZ (ow hw 227 rfl)) (by decide) (backOf (W := 0) (au30_1 l Z a0 hw [] wMAX_LOCK_DELAY wGRANTED wQUEUED wZERO hS a1 qg3 a5 a7 k8 a9 a10 h34 n0 O35 f37 f38 Fw34 f39 f40 f41 f42 f43 f44 f45 f46 P14 f47 f48 f49 f50 P24 P26 P27 P31 P32 P33 P39 P40 P42) hZ (ow hw 227 rfl) (ow hw 3 rfl) (by decide) (by decide)) (g := (mkF m 103 #[(vr a1), (vl q2), .second, (vi 0), (vr e1_2), .val .null] [(.ref a1)])) rfl (by rw [hml]; rfl) (Steps.refl _) (a := a1) (by rw [e36]; exact q51) q51' (argsL := []) (rest := []) (lenOf pd_15 rfl) rfl (by show 2 * 0 + _ ≤ _; exact Nat.le_of_eq rfl) (hb hby d7_103) (fun _ _ => ⟨rfl, e36, (by decide : 1 + 0 ≤ _), (by decide : 4 + 0 ≤ _)⟩)
  dsimp only [Pt.U, Pt.locs, Pt.cells, Pt.slots] at X51 l51 y51 z51 st51 hQ51
  subst l51 y51 z51
  obtain ⟨rfl, Nq51, K51q, p51_0, p51_1, p51_2, p51_3, p51_4, p51_5, p51_6, p51_7, p51_8, p51_9, p51_10, p51_11, p51_12⟩ := hQ51
  have N51 := Fr.app N34 Nq51
  have O52 : Old Z n0 T51.heap := O35.keep K51q (allS P27 (allS P26 (allS P24 all0)))
  have K52 : Keep h0 T51.heap [a1, a7, a5] := K35.trans K51q (allS (Or.inl (List.mem_of_getElem? (i := 1) rfl)) (allS (Or.inl (List.mem_of_getElem? (i := 2) rfl)) (allS (Or.inl (List.mem_of_getElem? (i := 0) rfl)) all0)))
  obtain ⟨fs, hr, hrun, hended, hW, hsame⟩ := X51.leave (v := some (.ref a10)) (fun h => by rw [hret0] at h; cases h)
  refine ⟨_, _, pre0 _ ?_, hrun, hended, _, _, rfl, ?_, ⟨_, rfl⟩, hW, hsame.mono (by decide) (by decide)⟩
  · skip
    show Steps p.tables e below (s₁.setTop (mkF m 0 #[(vr a1), (vl q2), .second, (vi 0), .unset, .unset] [])) _
    refine XS.aloadN X0.here hx rfl (hb hby d7_0) rfl rfl ?_
    refine st1 _ ?_
    refine st2.trans ?_
    refine XS.astore X2.here hx rfl (hb hby d7_9) rfl rfl (l' := #[(vr a1), (vl q2), .second, (vi 0), (vr e1_2), .unset]) rfl ?_
    refine XS.aload X2.here hx rfl (hb hby d7_11) rfl rfl ?_
    refine st12.trans ?_
    refine XS.ifNo X12.here hx rfl (hb hby d7_18) rfl ((if0 _ _).trans (feq (by decide : ¬ ((1 : Int32) = (0 : Int32)))).1) ?_
    refine XS.aload X12.here hx rfl (hb hby d7_21) rfl rfl ?_
    show Steps p.tables e below (T12.setTop (mkF m 23 #[(vr a1), (vl q2), .second, (vi 0), (vr e1_2), .unset] [(.ref e1_2)])) _
    refine st15.trans ?_
    refine st18 _ ?_
    refine st20 _ ?_
    refine st22.trans ?_
    refine XS.lloadN X22.here hx rfl (hb hby d7_37) rfl ?_
    refine XS.lcmp X22.here hx rfl (hb hby d7_38) rfl ?_
    refine XS.ifYes X22.here hx rfl (pc0 := 39) (pc' := 11) rfl (hb hby d7_39) rfl ((if0 _ _).trans (feq (fun z => P23 ((lw_eq _ _).mp z) : ¬ ((lcmpW q11 q2) = (0 : Int32)))).2) (by decide) (by decide) ?_
    refine XS.aload X22.here hx rfl (hb hby d7_11) rfl rfl ?_
    show Steps p.tables e below (T22.setTop (mkF m 13 #[(vr a1), (vl q2), .second, (vi 0), (vr e1_2), .unset] [(.ref e1_2)])) _
    refine st24.trans ?_
    refine XS.ifYes X24.here hx rfl (pc0 := 18) (pc' := 52) rfl (hb hby d7_18) rfl ((if0 _ _).trans (teq (by decide : (0 : Int32) = (0 : Int32))).1) (by decide) (by decide) ?_
    refine XS.aconstNull X24.here hx rfl (hb hby d7_52) ?_
    refine XS.astore X24.here hx rfl (hb hby d7_53) rfl rfl (l' := #[(vr a1), (vl q2), .second, (vi 0), (vr e1_2), .val .null]) rfl ?_
    refine XS.aloadN X24.here hx rfl (hb hby d7_55) rfl rfl ?_
    refine XS.lloadN X24.here hx rfl (hb hby d7_56) rfl ?_
    refine st28.trans ?_
    refine XS.ifNo X28.here hx rfl (hb hby d7_60) rfl ((if0 _ _).trans (feq (by decide : ¬ ((1 : Int32) = (0 : Int32)))).1) ?_
    show Steps p.tables e below (T28.setTop (mkF m 63 #[(vr a1), (vl q2), .second, (vi 0), (vr e1_2), .val .null] [])) _
    refine XS.aloadN X28.here hx rfl (hb hby d7_63) rfl rfl ?_
    refine XS.aconstNull X28.here hx rfl (hb hby d7_64) ?_
    refine st30 _ ?_
    refine XS.aloadN X30.here hx rfl (hb hby d7_68) rfl rfl ?_
    refine XS.iloadN X30.here hx rfl (hb hby d7_69) rfl ?_
    refine XS.ifYes X30.here hx rfl (pc0 := 70) (pc' := 87) rfl (hb hby d7_70) rfl ((if0 _ _).trans (teq (by decide : (0 : Int32) = (0 : Int32))).1) (by decide) (by decide) ?_
    refine XS.iconst X30.here hx rfl (hb hby d7_87) ?_
    refine st34 _ ?_
    show Steps p.tables e below (T34.setTop (mkF m 91 #[(vr a1), (vl q2), .second, (vi 0), (vr e1_2), .val .null] [])) _
    refine XS.aloadN X34.here hx rfl (hb hby d7_91) rfl rfl ?_
    refine st36 _ ?_
    refine XS.ifYes X36.here hx rfl (pc0 := 95) (pc' := 102) rfl (hb hby d7_95) rfl ((if0 _ _).trans (teq (by decide : (0 : Int32) = (0 : Int32))).1) (by decide) (by decide) ?_
    refine XS.aloadN X36.here hx rfl (hb hby d7_102) rfl rfl ?_
    refine st51.trans ?_
    refine XS.astore X51.here hx rfl (hb hby d7_106) rfl rfl (l' := #[(vr a1), (vl q2), .second, (vi 0), (vr e1_2), (vr a10)]) rfl ?_
    refine XS.aload X51.here hx rfl (hb hby d7_108) rfl rfl ?_
    jvm_step X51.here [X51.here.top, hx, (hb hby d7_110), X51.method', hret0, Value.isRef, FieldType.isReference]
    first | (intro acts; rw [hr _ acts rfl rfl rfl]) | rw [hr _ _ rfl rfl rfl]
    exact Steps.refl _
  · show Q_au7_7 Z wMAX_LOCK_DELAY wGRANTED wQUEUED wZERO a1 q2 qg3 a4 a5 q6 a7 k8 a9 a10 q11 h0 n0 _ T51.heap _
    exact ⟨rfl, N51, K52, p51_7, p51_8, p51_9, p51_10, p51_11, p51_12, p51_0, p51_1, p51_2, p51_3, p51_4, p51_5, p51_6⟩
theorem ef_au7_8 (m : MethodId) (x0 : Addr) (x1 : Int64) (x2 : Int32)  : entryFrame m #[(.ref x0), (.long x1), (.int x2)] 6 = mkF m 0 #[(vr x0), (vl x1), .second, (vi x2), .unset, .unset] [] := by first | (simp [entryFrame, mkF, argsToLocals, Value.category]; done) | rfl
theorem ef_au13_5 (m : MethodId) (x0 : Addr) (x1 : Int64)  : entryFrame m #[(.ref x0), (.long x1)] 3 = mkF m 0 #[(vr x0), (vl x1), .second] [] := by first | (simp [entryFrame, mkF, argsToLocals, Value.category]; done) | rfl
def Q_au13_5 (Z : State) (wMAX_LOCK_DELAY : Addr) (wGRANTED : Addr) (wQUEUED : Addr) (wZERO : Addr) (a1 : Addr) (q2 : Int64) (a4 : Addr) (q6 : Int64) (h0 : Heap) (n0 : Nat) (v : Option Value) (h : Heap) (L : List Loc) : Prop := v = some (.int 0) ∧ Fr n0 L ∧ h = h0
theorem au13_5 (l : Launch) (Z : State) (a0 : Array Value) (hw : ∀ d ∈ tables_1, d.before a0 Z = true) (ws : List Jvm.Cond) (wMAX_LOCK_DELAY : Addr) (wGRANTED : Addr) (wQUEUED : Addr) (wZERO : Addr) (hS : SS Z wMAX_LOCK_DELAY wGRANTED wQUEUED wZERO) (a1 : Addr) (q2 : Int64) (a4 : Addr) (q6 : Int64) (h0 : Heap) (n0 : Nat) (O0 : Old Z n0 h0) (P3 : Fld Z h0 a1 s4n "holder" s9n (.ref a4)) (P6 : Exa Z h0 a4 s3n) (P8 : Fld Z h0 a4 s3n "session" "J" (.long q6)) (P16 : q6 ≠ q2) :
    MetB l M11 prog_84_method_7_code 3 (some .boolean) ws (rmk 1 0 0 12) Z h0 #[(.ref a1), (.long q2)] (Q_au13_5 Z wMAX_LOCK_DELAY wGRANTED wQUEUED wZERO a1 q2 a4 q6 h0 n0) := by
  refine own_body (plainFor_of_name pn_com_example_umpired_umpired_server_NodeLock) ?_
  intro p e s m below meth c s₁ hx hby hml hown hnm hret0 hlk0 hZ X0 e0
  have N0 := Fr.nil n0
  have pre0 : ∀ t, Steps p.tables e below (s₁.setTop (mkF m 0 #[(vr a1), (vl q2), .second] [])) t → Steps p.tables e below (s₁.setTop (entryFrame m #[(.ref a1), (.long q2)] 3)) t := fun t k => castTop (ef_au13_5 m a1 q2) k
  have hS0 := hS
  obtain ⟨S_wMAX_LOCK_DELAY, E_wMAX_LOCK_DELAY, S_wGRANTED, E_wGRANTED, S_wQUEUED, E_wQUEUED, F_seconds_wMAX_LOCK_DELAY, F_nanos_wMAX_LOCK_DELAY, S_wZERO, E_wZERO, F_seconds_wZERO, F_nanos_wZERO⟩ := hS0
  obtain ⟨T1, X1, e1, st1⟩ := getF X0 hx hZ hown (host := "") (Or.inl (ow hw 109 rfl)) Via.refl e0 P3 (g := (mkF m 1 #[(vr a1), (vl q2), .second] [(.ref a1)])) rfl rfl (hb hby d13_1)
  obtain ⟨T2, X2, e2, st2⟩ := getF X1 hx hZ hown (host := "") (Or.inl (ow hw 109 rfl)) Via.refl e1 P3 (g := (mkF m 8 #[(vr a1), (vl q2), .second] [(.ref a1)])) rfl rfl (hb hby d13_8)
  obtain ⟨cq3, kq3, q3a, q3b, q3c⟩ := isOf hZ e2 P6
  obtain ⟨_, _, ⟨T3, L3, k3, n3⟩, -, X3, ⟨Lc3, hQ3, l3, y3, z3⟩, st3⟩ := X2.virtualBack hx (y := M17) (z := M17) hown (mvT hZ (ow hw 184 rfl)) (mvT hZ (ow hw 185 rfl)) (notFace_of_selects (args := #[]) (mvT hZ (ow hw 187 rfl))) (mvT hZ (ow hw 187 rfl)) (mvT hZ (ow hw 186 rfl)) (by decide) (backOf (W := 0) (au24_0 l Z a0 hw [] wMAX_LOCK_DELAY wGRANTED wQUEUED wZERO hS a4 q6 h0 n0 O0 P8) hZ (ow hw 188 rfl) (ow hw 35 rfl) (by decide) (by decide)) q3a q3c (g := (mkF m 11 #[(vr a1), (vl q2), .second] [(.ref a4)])) rfl (by rw [hml]; rfl) (Steps.refl _) (argsL := []) (rest := []) (lenOf pd_12 rfl) rfl (by show 2 * 0 + _ ≤ _; exact Nat.le_of_eq rfl) (hb hby d13_11) (fun _ _ => ⟨rfl, e2, (by decide : 0 + 0 ≤ _), (by decide : 0 + 0 ≤ _)⟩)
  dsimp only [Pt.U, Pt.locs, Pt.cells, Pt.slots] at X3 l3 y3 z3 st3 hQ3
  subst l3 y3 z3
  obtain ⟨rfl, Nq3, K3q⟩ := hQ3
  have N3 := Fr.app N0 Nq3
  obtain ⟨fs, hr, hrun, hended, hW, hsame⟩ := X3.leave (v := some (.int 0)) (fun h => by rw [hret0] at h; cases h)
  refine ⟨_, _, pre0 _ ?_, hrun, hended, _, _, rfl, ?_, ⟨_, rfl⟩, hW, hsame.mono (by decide) (by decide)⟩
  · skip
    show Steps p.tables e below (s₁.setTop (mkF m 0 #[(vr a1), (vl q2), .second] [])) _
    refine XS.aloadN X0.here hx rfl (hb hby d13_0) rfl rfl ?_
    refine st1 _ ?_
    refine XS.ifnullNo X1.here hx rfl (hb hby d13_4) rfl ?_
    refine XS.aloadN X1.here hx rfl (hb hby d13_7) rfl rfl ?_
    refine st2 _ ?_
    refine st3.trans ?_
    refine XS.lloadN X3.here hx rfl (hb hby d13_14) rfl ?_
    refine XS.lcmp X3.here hx rfl (hb hby d13_15) rfl ?_
    show Steps p.tables e below (T3.setTop (mkF m 16 #[(vr a1), (vl q2), .second] [(.int (lcmpW q6 q2))])) _
    refine XS.ifYes X3.here hx rfl (pc0 := 16) (pc' := 23) rfl (hb hby d13_16) rfl ((if0 _ _).trans (feq (fun z => P16 ((lw_eq _ _).mp z) : ¬ ((lcmpW q6 q2) = (0 : Int32)))).2) (by decide) (by decide) ?_
    refine XS.iconst X3.here hx rfl (hb hby d13_23) ?_
    exact retN X3 hx (t := .boolean) hret0 (by simp) (hb hby d13_24) hr
  · show Q_au13_5 Z wMAX_LOCK_DELAY wGRANTED wQUEUED wZERO a1 q2 a4 q6 h0 n0 _ T3.heap _
    rw [K3q]
    exact ⟨rfl, N3, rfl⟩
def Q_au7_8 (Z : State) (wMAX_LOCK_DELAY : Addr) (wGRANTED : Addr) (wQUEUED : Addr) (wZERO : Addr) (a1 : Addr) (q2 : Int64) (a4 : Addr) (a5 : Addr) (q6 : Int64) (a7 : Addr) (k8 : ClassId) (a9 : Addr) (a10 : Addr) (q11 : Int64) (h0 : Heap) (n0 : Nat) (v : Option Value) (h : Heap) (L : List Loc) : Prop := v = some .null ∧ Fr n0 L ∧ Keep h0 h [a5, a7] ∧ Exa Z h a5 s6n ∧ Fld Z h a5 s6n "elements" s7n (.ref a7) ∧ Fld Z h a5 s6n "head" "I" (.int 0) ∧ Fld Z h a5 s6n "tail" "I" (.int 0) ∧ Exa Z h a7 s7n ∧ Arv Z h a7 k8 (.object s8n) (17 : Int32) ([.null, .null, .null, .null, .null, .null, .null, .null, .null, .null, .null, .null, .null, .null, .null, .null, .null]) .null ∧ Ovr Z k8 s8n
theorem au7_8 (l : Launch) (Z : State) (a0 : Array Value) (hw : ∀ d ∈ tables_1, d.before a0 Z = true) (ws : List Jvm.Cond) (wMAX_LOCK_DELAY : Addr) (wGRANTED : Addr) (wQUEUED : Addr) (wZERO : Addr) (hS : SS Z wMAX_LOCK_DELAY wGRANTED wQUEUED wZERO) (a1 : Addr) (q2 : Int64) (a4 : Addr) (a5 : Addr) (q6 : Int64) (a7 : Addr) (k8 : ClassId) (a9 : Addr) (a10 : Addr) (q11 : Int64) (h0 : Heap) (n0 : Nat) (O0 : Old Z n0 h0) (P0 : Exa Z h0 a1 s4n) (P3 : Fld Z h0 a1 s4n "holder" s9n (.ref a4)) (P5 : Fld Z h0 a1 s4n "waiters" s11n (.ref a5)) (P6 : Exa Z h0 a4 s3n) (P8 : Fld Z h0 a4 s3n "session" "J" (.long q6)) (P9 : Exa Z h0 a5 s6n) (P10 : Fld Z h0 a5 s6n "elements" s7n (.ref a7)) (P11 : Fld Z h0 a5 s6n "head" "I" (.int 0)) (P12 : Fld Z h0 a5 s6n "tail" "I" (.int 1)) (P13 : Arv Z h0 a7 k8 (.object s8n) (17 : Int32) ([(.ref a9), .null, .null, .null, .null, .null, .null, .null, .null, .null, .null, .null, .null, .null, .null, .null, .null]) .null) (P14 : Ovr Z k8 s8n) (P15 : Exa Z h0 a7 s7n) (P16 : Exa Z h0 a9 s15n) (P18 : Fld Z h0 a9 s15n "owner" s9n (.ref a10)) (P19 : Exa Z h0 a10 s3n) (P21 : Fld Z h0 a10 s3n "session" "J" (.long q11)) (P22 : q6 ≠ q2) (P23 : q11 = q2) (P26 : n0 ≤ a5) (P27 : n0 ≤ a7) (P31 : a1 ≠ a5) (P32 : a1 ≠ a7) (P35 : a4 ≠ a5) (P36 : a4 ≠ a7) (P39 : a5 ≠ a7) :
    MetB l M12 prog_84_method_14_code 6 (some (.object s3n)) ws (rmk 4 1 4 53) Z h0 #[(.ref a1), (.long q2), (.int 0)] (Q_au7_8 Z wMAX_LOCK_DELAY wGRANTED wQUEUED wZERO a1 q2 a4 a5 q6 a7 k8 a9 a10 q11 h0 n0) := by
  refine own_body (plainFor_of_name pn_com_example_umpired_umpired_server_NodeLock) ?_
  intro p e s m below meth c s₁ hx hby hml hown hnm hret0 hlk0 hZ X0 e0
  have N0 := Fr.nil n0
  have pre0 : ∀ t, Steps p.tables e below (s₁.setTop (mkF m 0 #[(vr a1), (vl q2), .second, (vi 0), .unset, .unset] [])) t → Steps p.tables e below (s₁.setTop (entryFrame m #[(.ref a1), (.long q2), (.int 0)] 6)) t := fun t k => castTop (ef_au7_8 m a1 q2 (0 : Int32)) k
  have K0 := Keep.refl h0 [a5, a7]
  have hS0 := hS
  obtain ⟨S_wMAX_LOCK_DELAY, E_wMAX_LOCK_DELAY, S_wGRANTED, E_wGRANTED, S_wQUEUED, E_wQUEUED, F_seconds_wMAX_LOCK_DELAY, F_nanos_wMAX_LOCK_DELAY, S_wZERO, E_wZERO, F_seconds_wZERO, F_nanos_wZERO⟩ := hS0
  obtain ⟨T1, X1, e1, st1⟩ := getF X0 hx hZ hown (host := "") (Or.inl (ow hw 27 rfl)) Via.refl e0 P5 (g := (mkF m 1 #[(vr a1), (vl q2), .second, (vi 0), .unset, .unset] [(.ref a1)])) rfl rfl (hb hby d7_1)
  obtain ⟨cq2, kq2, q2a, q2b, q2c⟩ := isOf hZ e1 P9
  obtain ⟨_, _, ⟨T2, L2, k2, n2⟩, -, X2, ⟨Lc2, hQ2, l2, y2, z2⟩, st2⟩ := X1.interfaceBack hx (xi := M13) (y := M9) hown (mvT hZ (ow hw 57 rfl)) (mvT hZ (ow hw 58 rfl)) (mvT hZ (ow hw 59 rfl)) (mvT hZ (ow hw 60 rfl)) (mvT hZ (ow hw 61 rfl)) (mvT hZ (ow hw 62 rfl)) (mvT hZ (ow hw 63 rfl)) (mvT hZ (ow hw 64 rfl)) (by decide) (backOf (W := 0) (au8_1 l Z a0 hw [] wMAX_LOCK_DELAY wGRANTED wQUEUED wZERO hS a5 a7 k8 a9 a10 h0 n0 O0 P9 P10 P11 P12 P13 P16 P19) hZ (ow hw 65 rfl) (ow hw 12 rfl) (by decide) (by decide)) q2a q2b q2c (g := (mkF m 4 #[(vr a1), (vl q2), .second, (vi 0), .unset, .unset] [(.ref a5)])) rfl (by rw [hml]; rfl) (Steps.refl _) (argsL := []) (rest := []) (lenOf pd_6 rfl) rfl (by show 2 * 0 + _ ≤ _; exact Nat.le_of_eq rfl) (hb hby d7_4) (fun _ _ => ⟨rfl, e1, (by decide : 0 + 1 ≤ _), (by decide : 0 + 4 ≤ _)⟩)
  dsimp only [Pt.U, Pt.locs, Pt.cells, Pt.slots] at X2 l2 y2 z2 st2 hQ2
  subst l2 y2 z2
  obtain ⟨e1_2, rfl, Nq2, K2q, p2_0, p2_1, p2_2, p2_3, p2_4, p2_5⟩ := hQ2
  have N2 := Fr.app N0 Nq2
  have ne3 : a1 ≠ e1_2 := Nat.ne_of_lt (Nat.lt_of_lt_of_le P0.lt p2_0)
  have ne4 : a4 ≠ e1_2 := Nat.ne_of_lt (Nat.lt_of_lt_of_le P6.lt p2_0)
  have ne5 : a5 ≠ e1_2 := Nat.ne_of_lt (Nat.lt_of_lt_of_le P9.lt p2_0)
  have ne6 : a7 ≠ e1_2 := Nat.ne_of_lt (Nat.lt_of_lt_of_le P13.lt p2_0)
  have ne7 : a9 ≠ e1_2 := Nat.ne_of_lt (Nat.lt_of_lt_of_le P16.lt p2_0)
  have ne8 : a10 ≠ e1_2 := Nat.ne_of_lt (Nat.lt_of_lt_of_le P19.lt p2_0)
  have g9 : n0 ≤ e1_2 := Nat.le_trans (own_sz O0) p2_0
  have sz10 : h0.size ≤ e1_2 := Nat.le_trans K0.1 p2_0
  have O11 : Old Z n0 T2.heap := O0.keep K2q all0
  have K11 : Keep h0 T2.heap [a5, a7] := K0.trans K2q all0
  obtain ⟨cq12, kq12, q12a, q12b, q12c⟩ := isOf hZ rfl p2_1
  obtain ⟨_, _, ⟨T12, L12, k12, n12⟩, -, X12, ⟨Lc12, hQ12, l12, y12, z12⟩, st12⟩ := X2.interfaceBack hx (xi := M14) (y := M10) hown (mvT hZ (ow hw 95 rfl)) (mvT hZ (ow hw 96 rfl)) (mvT hZ (ow hw 97 rfl)) (mvT hZ (ow hw 98 rfl)) (mvT hZ (ow hw 99 rfl)) (mvT hZ (ow hw 100 rfl)) (mvT hZ (ow hw 101 rfl)) (mvT hZ (ow hw 102 rfl)) (by decide) (backOf (W := 0) (au12_1 l Z a0 hw [] wMAX_LOCK_DELAY wGRANTED wQUEUED wZERO hS e1_2 T2.heap n0 O11 p2_4) hZ (ow hw 103 rfl) (ow hw 68 rfl) (by decide) (by decide)) q12a q12b q12c (g := (mkF m 13 #[(vr a1), (vl q2), .second, (vi 0), (vr e1_2), .unset] [(.ref e1_2)])) rfl (by rw [hml]; rfl) (Steps.refl _) (argsL := []) (rest := []) (lenOf pd_7 rfl) rfl (by show 2 * 0 + _ ≤ _; exact Nat.le_of_eq rfl) (hb hby d7_13) (fun _ _ => ⟨rfl, rfl, (by decide : 1 + 0 ≤ _), (by decide : 4 + 0 ≤ _)⟩)
  dsimp only [Pt.U, Pt.locs, Pt.cells, Pt.slots] at X12 l12 y12 z12 st12 hQ12
  subst l12 y12 z12
  obtain ⟨rfl, Nq12, K12q⟩ := hQ12
  have N12 := Fr.app N2 Nq12
  have f13 : Fld Z T2.heap a5 s6n "elements" s7n (.ref a7) := (P10.keep K2q nin0)
  have f14 : Arv Z T2.heap a7 k8 (.object s8n) (17 : Int32) ([(.ref a9), .null, .null, .null, .null, .null, .null, .null, .null, .null, .null, .null, .null, .null, .null, .null, .null]) .null := (P13.keep K2q nin0)
  obtain ⟨cq15, kq15, q15a, q15b, q15c⟩ := isOf hZ K12q p2_1
  obtain ⟨_, _, ⟨T15, L15, k15, n15⟩, -, X15, ⟨Lc15, hQ15, l15, y15, z15⟩, st15⟩ := X12.interfaceBack hx (xi := M36) (y := M31) hown (mvT hZ (ow hw 169 rfl)) (mvT hZ (ow hw 170 rfl)) (mvT hZ (ow hw 171 rfl)) (mvT hZ (ow hw 172 rfl)) (mvT hZ (ow hw 173 rfl)) (mvT hZ (ow hw 174 rfl)) (mvT hZ (ow hw 175 rfl)) (mvT hZ (ow hw 102 rfl)) (by decide) (backOf (W := 0) (au22_0 l Z a0 hw [] wMAX_LOCK_DELAY wGRANTED wQUEUED wZERO hS e1_2 a5 a7 k8 a9 T2.heap n0 O11 p2_1 p2_2 p2_3 p2_4 p2_5 f13 f14 g9 (Ne.symm ne6)) hZ (ow hw 176 rfl) (ow hw 68 rfl) (by decide) (by decide)) q15a q15b q15c (g := (mkF m 23 #[(vr a1), (vl q2), .second, (vi 0), (vr e1_2), .unset] [(.ref e1_2)])) rfl (by rw [hml]; rfl) (Steps.refl _) (argsL := []) (rest := []) (lenOf pd_14 rfl) rfl (by show 2 * 0 + _ ≤ _; exact Nat.le_of_eq rfl) (hb hby d7_23) (fun _ _ => ⟨rfl, K12q, (by decide : 1 + 0 ≤ _), (by decide : 4 + 0 ≤ _)⟩)
  dsimp only [Pt.U, Pt.locs, Pt.cells, Pt.slots] at X15 l15 y15 z15 st15 hQ15
  subst l15 y15 z15
  obtain ⟨rfl, Nq15, K15q, p15_0, p15_1, p15_2, p15_3, p15_4⟩ := hQ15
  have N15 := Fr.app N12 Nq15
  have O16 : Old Z n0 T15.heap := O11.keep K15q (allS g9 all0)
  have K16 : Keep h0 T15.heap [a5, a7] := K11.trans K15q (allS (Or.inr sz10) all0)
  have f17 : Exa Z T15.heap a9 s15n := ((P16.keep K2q).keep K15q)
  obtain ⟨T18, X18, e18, st18⟩ := castY X15 hx hZ hown (ow hw 139 rfl) rfl (Ins.self f17) (g := (mkF m 28 #[(vr a1), (vl q2), .second, (vi 0), (vr e1_2), .unset] [(.ref a9)])) rfl rfl (hb hby d7_28)
  have f19 : Fld Z T15.heap a9 s15n "owner" s9n (.ref a10) := ((P18.keep K2q nin0).keep K15q (ninS ne7 nin0))
  obtain ⟨T20, X20, e20, st20⟩ := own_getR X18 hx hZ hown (ow hw 183 rfl) e18 f19 (g := (mkF m 31 #[(vr a1), (vl q2), .second, (vi 0), (vr e1_2), .unset] [(.ref a9)])) rfl rfl (hb hby d7_31)
  have f21 : Fld Z T15.heap a10 s3n "session" "J" (.long q11) := ((P21.keep K2q nin0).keep K15q (ninS ne8 nin0))
  have f23 : Exa Z T15.heap a10 s3n := ((P19.keep K2q).keep K15q)
  obtain ⟨cq22, kq22, q22a, q22b, q22c⟩ := isOf hZ e20 f23
  obtain ⟨_, _, ⟨T22, L22, k22, n22⟩, -, X22, ⟨Lc22, hQ22, l22, y22, z22⟩, st22⟩ := X20.virtualBack hx (y := M17) (z := M17) hown (mvT hZ (ow hw 184 rfl)) (mvT hZ (ow hw 185 rfl)) (notFace_of_selects (args := #[]) (mvT hZ (ow hw 187 rfl))) (mvT hZ (ow hw 187 rfl)) (mvT hZ (ow hw 186 rfl)) (by decide) (backOf (W := 0) (au24_0 l Z a0 hw [] wMAX_LOCK_DELAY wGRANTED wQUEUED wZERO hS a10 q11 T15.heap n0 O16 f21) hZ (ow hw 188 rfl) (ow hw 35 rfl) (by decide) (by decide)) q22a q22c (g := (mkF m 34 #[(vr a1), (vl q2), .second, (vi 0), (vr e1_2), .unset] [(.ref a10)])) rfl (by rw [hml]; rfl) (Steps.refl _) (argsL := []) (rest := []) (lenOf pd_12 rfl) rfl (by show 2 * 0 + _ ≤ _; exact Nat.le_of_eq rfl) (hb hby d7_34) (fun _ _ => ⟨rfl, e20, (by decide : 1 + 0 ≤ _), (by decide : 4 + 0 ≤ _)⟩)
  dsimp only [Pt.U, Pt.locs, Pt.cells, Pt.slots] at X22 l22 y22 z22 st22 hQ22
  subst l22 y22 z22
  obtain ⟨rfl, Nq22, K22q⟩ := hQ22
  have N22 := Fr.app N15 Nq22
  have f24 : Exa Z T15.heap a5 s6n := ((P9.keep K2q).keep K15q)
  have f25 : Fld Z T15.heap a5 s6n "elements" s7n (.ref a7) := (f13.keep K15q (ninS ne5 nin0))
  have f26 : Fld Z T15.heap a5 s6n "head" "I" (.int 0) := ((P11.keep K2q nin0).keep K15q (ninS ne5 nin0))
  have f27 : Fld Z T15.heap a5 s6n "tail" "I" (.int 1) := ((P12.keep K2q nin0).keep K15q (ninS ne5 nin0))
  have f28 : Arv Z T15.heap a7 k8 (.object s8n) (17 : Int32) ([(.ref a9), .null, .null, .null, .null, .null, .null, .null, .null, .null, .null, .null, .null, .null, .null, .null, .null]) .null := (f14.keep K15q (ninS ne6 nin0))
  have f29 : Exa Z T15.heap a7 s7n := ((P15.keep K2q).keep K15q)
  obtain ⟨cq30, kq30, q30a, q30b, q30c⟩ := isOf hZ K22q p15_0
  obtain ⟨_, _, ⟨T30, L30, k30, n30⟩, -, X30, ⟨Lc30, hQ30, l30, y30, z30⟩, st30⟩ := X22.interfaceBack hx (xi := M37) (y := M35) hown (mvT hZ (ow hw 198 rfl)) (mvT hZ (ow hw 199 rfl)) (mvT hZ (ow hw 200 rfl)) (mvT hZ (ow hw 201 rfl)) (mvT hZ (ow hw 202 rfl)) (mvT hZ (ow hw 203 rfl)) (mvT hZ (ow hw 204 rfl)) (mvT hZ (ow hw 102 rfl)) (by decide) (backOf (W := 0) (au26_0 l Z a0 hw [] wMAX_LOCK_DELAY wGRANTED wQUEUED wZERO hS e1_2 a5 a7 k8 a9 T15.heap n0 O16 p15_0 p15_1 p15_2 p15_3 p15_4 f24 f25 f26 f27 f28 P14 f29 g9 P26 P27 (Ne.symm ne5) (Ne.symm ne6) P39) hZ (ow hw 205 rfl) (ow hw 68 rfl) (by decide) (by decide)) q30a q30b q30c (g := (mkF m 44 #[(vr a1), (vl q2), .second, (vi 0), (vr e1_2), .unset] [(.ref e1_2)])) rfl (by rw [hml]; rfl) (Steps.refl _) (argsL := []) (rest := []) (lenOf pd_0 rfl) rfl (by show 2 * 0 + _ ≤ _; exact Nat.le_of_eq rfl) (hb hby d7_44) (fun _ _ => ⟨rfl, K22q, (by decide : 1 + 0 ≤ _), (by decide : 4 + 0 ≤ _)⟩)
  dsimp only [Pt.U, Pt.locs, Pt.cells, Pt.slots] at X30 l30 y30 z30 st30 hQ30
  subst l30 y30 z30
  obtain ⟨rfl, Nq30, K30q, p30_0, p30_1, p30_2, p30_3, p30_4, p30_5, p30_6, p30_7, p30_8, p30_9, p30_10, p30_11⟩ := hQ30
  have N30 := Fr.app N22 Nq30
  have O31 : Old Z n0 T30.heap := O16.keep K30q (allS P26 (allS P27 (allS g9 all0)))
  have K31 : Keep h0 T30.heap [a5, a7] := K16.trans K30q (allS (Or.inl (List.mem_of_getElem? (i := 0) rfl)) (allS (Or.inl (List.mem_of_getElem? (i := 1) rfl)) (allS (Or.inr sz10) all0)))
  obtain ⟨cq32, kq32, q32a, q32b, q32c⟩ := isOf hZ rfl p30_7
  obtain ⟨_, _, ⟨T32, L32, k32, n32⟩, -, X32, ⟨Lc32, hQ32, l32, y32, z32⟩, st32⟩ := X30.interfaceBack hx (xi := M14) (y := M10) hown (mvT hZ (ow hw 95 rfl)) (mvT hZ (ow hw 96 rfl)) (mvT hZ (ow hw 97 rfl)) (mvT hZ (ow hw 98 rfl)) (mvT hZ (ow hw 99 rfl)) (mvT hZ (ow hw 100 rfl)) (mvT hZ (ow hw 101 rfl)) (mvT hZ (ow hw 102 rfl)) (by decide) (backOf (W := 0) (au12_0 l Z a0 hw [] wMAX_LOCK_DELAY wGRANTED wQUEUED wZERO hS e1_2 T30.heap n0 O31 p30_10) hZ (ow hw 103 rfl) (ow hw 68 rfl) (by decide) (by decide)) q32a q32b q32c (g := (mkF m 13 #[(vr a1), (vl q2), .second, (vi 0), (vr e1_2), .unset] [(.ref e1_2)])) rfl (by rw [hml]; rfl) (Steps.refl _) (argsL := []) (rest := []) (lenOf pd_7 rfl) rfl (by show 2 * 0 + _ ≤ _; exact Nat.le_of_eq rfl) (hb hby d7_13) (fun _ _ => ⟨rfl, rfl, (by decide : 1 + 0 ≤ _), (by decide : 4 + 0 ≤ _)⟩)
  dsimp only [Pt.U, Pt.locs, Pt.cells, Pt.slots] at X32 l32 y32 z32 st32 hQ32
  subst l32 y32 z32
  obtain ⟨rfl, Nq32, K32q⟩ := hQ32
  have N32 := Fr.app N30 Nq32
  have f33 : Fld Z T30.heap a1 s4n "holder" s9n (.ref a4) := (((P3.keep K2q nin0).keep K15q (ninS ne3 nin0)).keep K30q (ninS P31 (ninS P32 (ninS ne3 nin0))))
  have f34 : Exa Z T30.heap a4 s3n := (((P6.keep K2q).keep K15q).keep K30q)
  have f35 : Fld Z T30.heap a4 s3n "session" "J" (.long q6) := (((P8.keep K2q nin0).keep K15q (ninS ne4 nin0)).keep K30q (ninS P35 (ninS P36 (ninS ne4 nin0))))
  have f37 : Exa Z T30.heap a1 s4n := (((P0.keep K2q).keep K15q).keep K30q)
  obtain ⟨cq36, kq36, q36a, q36b, q36c⟩ := isOf hZ K32q f37
  obtain ⟨_, _, ⟨T36, L36, k36, n36⟩, -, X36, ⟨Lc36, hQ36, l36, y36, z36⟩, st36⟩ := X32.virtualBack hx (y := M11) (z := M11) hown (mvT hZ (ow hw 104 rfl)) (mvT hZ (ow hw 105 rfl)) (notFace_of_selects (args := #[]) (mvT hZ (ow hw 107 rfl))) (mvT hZ (ow hw 107 rfl)) (mvT hZ (ow hw 106 rfl)) (by decide) (backOf (W := 0) (au13_5 l Z a0 hw [] wMAX_LOCK_DELAY wGRANTED wQUEUED wZERO hS a1 q2 a4 q6 T30.heap n0 O31 f33 f34 f35 P22) hZ (ow hw 108 rfl) (ow hw 3 rfl) (by decide) (by decide)) q36a q36c (g := (mkF m 57 #[(vr a1), (vl q2), .second, (vi 0), (vr e1_2), .val .null] [(.long q2), (.ref a1)])) rfl (by rw [hml]; rfl) (Steps.refl _) (argsL := [(.long q2)]) (rest := []) (lenOf pd_2 rfl) rfl (by show 2 * 0 + _ ≤ _; exact Nat.le_of_eq rfl) (hb hby d7_57) (fun _ _ => ⟨rfl, K32q, (by decide : 1 + 0 ≤ _), (by decide : 4 + 0 ≤ _)⟩)
  dsimp only [Pt.U, Pt.locs, Pt.cells, Pt.slots] at X36 l36 y36 z36 st36 hQ36
  subst l36 y36 z36
  obtain ⟨rfl, Nq36, K36q⟩ := hQ36
  have N36 := Fr.app N32 Nq36
  obtain ⟨fs, hr, hrun, hended, hW, hsame⟩ := X36.leave (v := some .null) (fun h => by rw [hret0] at h; cases h)
  refine ⟨_, _, pre0 _ ?_, hrun, hended, _, _, rfl, ?_, ⟨_, rfl⟩, hW, hsame.mono (by decide) (by decide)⟩
  · skip
    show Steps p.tables e below (s₁.setTop (mkF m 0 #[(vr a1), (vl q2), .second, (vi 0), .unset, .unset] [])) _
    refine XS.aloadN X0.here hx rfl (hb hby d7_0) rfl rfl ?_
    refine st1 _ ?_
    refine st2.trans ?_
    refine XS.astore X2.here hx rfl (hb hby d7_9) rfl rfl (l' := #[(vr a1), (vl q2), .second, (vi 0), (vr e1_2), .unset]) rfl ?_
    refine XS.aload X2.here hx rfl (hb hby d7_11) rfl rfl ?_
    refine st12.trans ?_
    refine XS.ifNo X12.here hx rfl (hb hby d7_18) rfl ((if0 _ _).trans (feq (by decide : ¬ ((1 : Int32) = (0 : Int32)))).1) ?_
    refine XS.aload X12.here hx rfl (hb hby d7_21) rfl rfl ?_
    show Steps p.tables e below (T12.setTop (mkF m 23 #[(vr a1), (vl q2), .second, (vi 0), (vr e1_2), .unset] [(.ref e1_2)])) _
    refine st15.trans ?_
    refine st18 _ ?_
    refine st20 _ ?_
    refine st22.trans ?_
    refine XS.lloadN X22.here hx rfl (hb hby d7_37) rfl ?_
    refine XS.lcmp X22.here hx rfl (hb hby d7_38) rfl ?_
    refine XS.ifNo X22.here hx rfl (hb hby d7_39) rfl ((if0 _ _).trans (teq ((lw_eq _ _).mpr P23 : (lcmpW q11 q2) = (0 : Int32))).2) ?_
    refine XS.aload X22.here hx rfl (hb hby d7_42) rfl rfl ?_
    show Steps p.tables e below (T22.setTop (mkF m 44 #[(vr a1), (vl q2), .second, (vi 0), (vr e1_2), .unset] [(.ref e1_2)])) _
    refine st30.trans ?_
    refine XS.goto X30.here hx rfl (pc0 := 49) (pc' := 11) rfl (hb hby d7_49) (by decide) (by decide) ?_
    refine XS.aload X30.here hx rfl (hb hby d7_11) rfl rfl ?_
    refine st32.trans ?_
    refine XS.ifYes X32.here hx rfl (pc0 := 18) (pc' := 52) rfl (hb hby d7_18) rfl ((if0 _ _).trans (teq (by decide : (0 : Int32) = (0 : Int32))).1) (by decide) (by decide) ?_
    refine XS.aconstNull X32.here hx rfl (hb hby d7_52) ?_
    refine XS.astore X32.here hx rfl (hb hby d7_53) rfl rfl (l' := #[(vr a1), (vl q2), .second, (vi 0), (vr e1_2), .val .null]) rfl ?_
    refine XS.aloadN X32.here hx rfl (hb hby d7_55) rfl rfl ?_
    show Steps p.tables e below (T32.setTop (mkF m 56 #[(vr a1), (vl q2), .second, (vi 0), (vr e1_2), .val .null] [(.ref a1)])) _
    refine XS.lloadN X32.here hx rfl (hb hby d7_56) rfl ?_
    refine st36.trans ?_
    refine XS.ifYes X36.here hx rfl (pc0 := 60) (pc' := 108) rfl (hb hby d7_60) rfl ((if0 _ _).trans (teq (by decide : (0 : Int32) = (0 : Int32))).1) (by decide) (by decide) ?_
    refine XS.aload X36.here hx rfl (hb hby d7_108) rfl rfl ?_
    jvm_step X36.here [X36.here.top, hx, (hb hby d7_110), X36.method', hret0, Value.isRef, FieldType.isReference]
    first | (intro acts; rw [hr _ acts rfl rfl rfl]) | rw [hr _ _ rfl rfl rfl]
    exact Steps.refl _
  · show Q_au7_8 Z wMAX_LOCK_DELAY wGRANTED wQUEUED wZERO a1 q2 a4 a5 q6 a7 k8 a9 a10 q11 h0 n0 _ T36.heap _
    rw [K36q]
    exact ⟨rfl, N36, K31, p30_0, p30_1, p30_2, p30_3, p30_4, p30_5, p30_6⟩
theorem ef_au7_9 (m : MethodId) (x0 : Addr) (x1 : Int64) (x2 : Int32)  : entryFrame m #[(.ref x0), (.long x1), (.int x2)] 6 = mkF m 0 #[(vr x0), (vl x1), .second, (vi x2), .unset, .unset] [] := by first | (simp [entryFrame, mkF, argsToLocals, Value.category]; done) | rfl
theorem ef_au13_6 (m : MethodId) (x0 : Addr) (x1 : Int64)  : entryFrame m #[(.ref x0), (.long x1)] 3 = mkF m 0 #[(vr x0), (vl x1), .second] [] := by first | (simp [entryFrame, mkF, argsToLocals, Value.category]; done) | rfl
def Q_au13_6 (Z : State) (wMAX_LOCK_DELAY : Addr) (wGRANTED : Addr) (wQUEUED : Addr) (wZERO : Addr) (a1 : Addr) (q2 : Int64) (a4 : Addr) (q6 : Int64) (h0 : Heap) (n0 : Nat) (v : Option Value) (h : Heap) (L : List Loc) : Prop := v = some (.int 0) ∧ Fr n0 L ∧ h = h0
theorem au13_6 (l : Launch) (Z : State) (a0 : Array Value) (hw : ∀ d ∈ tables_1, d.before a0 Z = true) (ws : List Jvm.Cond) (wMAX_LOCK_DELAY : Addr) (wGRANTED : Addr) (wQUEUED : Addr) (wZERO : Addr) (hS : SS Z wMAX_LOCK_DELAY wGRANTED wQUEUED wZERO) (a1 : Addr) (q2 : Int64) (a4 : Addr) (q6 : Int64) (h0 : Heap) (n0 : Nat) (O0 : Old Z n0 h0) (P3 : Fld Z h0 a1 s4n "holder" s9n (.ref a4)) (P6 : Exa Z h0 a4 s3n) (P8 : Fld Z h0 a4 s3n "session" "J" (.long q6)) (P22 : q6 ≠ q2) :
    MetB l M11 prog_84_method_7_code 3 (some .boolean) ws (rmk 1 0 0 12) Z h0 #[(.ref a1), (.long q2)] (Q_au13_6 Z wMAX_LOCK_DELAY wGRANTED wQUEUED wZERO a1 q2 a4 q6 h0 n0) := by
  refine own_body (plainFor_of_name pn_com_example_umpired_umpired_server_NodeLock) ?_
  intro p e s m below meth c s₁ hx hby hml hown hnm hret0 hlk0 hZ X0 e0
  have N0 := Fr.nil n0
  have pre0 : ∀ t, Steps p.tables e below (s₁.setTop (mkF m 0 #[(vr a1), (vl q2), .second] [])) t → Steps p.tables e below (s₁.setTop (entryFrame m #[(.ref a1), (.long q2)] 3)) t := fun t k => castTop (ef_au13_6 m a1 q2) k
  have hS0 := hS
  obtain ⟨S_wMAX_LOCK_DELAY, E_wMAX_LOCK_DELAY, S_wGRANTED, E_wGRANTED, S_wQUEUED, E_wQUEUED, F_seconds_wMAX_LOCK_DELAY, F_nanos_wMAX_LOCK_DELAY, S_wZERO, E_wZERO, F_seconds_wZERO, F_nanos_wZERO⟩ := hS0
  obtain ⟨T1, X1, e1, st1⟩ := getF X0 hx hZ hown (host := "") (Or.inl (ow hw 109 rfl)) Via.refl e0 P3 (g := (mkF m 1 #[(vr a1), (vl q2), .second] [(.ref a1)])) rfl rfl (hb hby d13_1)
  obtain ⟨T2, X2, e2, st2⟩ := getF X1 hx hZ hown (host := "") (Or.inl (ow hw 109 rfl)) Via.refl e1 P3 (g := (mkF m 8 #[(vr a1), (vl q2), .second] [(.ref a1)])) rfl rfl (hb hby d13_8)
  obtain ⟨cq3, kq3, q3a, q3b, q3c⟩ := isOf hZ e2 P6
  obtain ⟨_, _, ⟨T3, L3, k3, n3⟩, -, X3, ⟨Lc3, hQ3, l3, y3, z3⟩, st3⟩ := X2.virtualBack hx (y := M17) (z := M17) hown (mvT hZ (ow hw 184 rfl)) (mvT hZ (ow hw 185 rfl)) (notFace_of_selects (args := #[]) (mvT hZ (ow hw 187 rfl))) (mvT hZ (ow hw 187 rfl)) (mvT hZ (ow hw 186 rfl)) (by decide) (backOf (W := 0) (au24_0 l Z a0 hw [] wMAX_LOCK_DELAY wGRANTED wQUEUED wZERO hS a4 q6 h0 n0 O0 P8) hZ (ow hw 188 rfl) (ow hw 35 rfl) (by decide) (by decide)) q3a q3c (g := (mkF m 11 #[(vr a1), (vl q2), .second] [(.ref a4)])) rfl (by rw [hml]; rfl) (Steps.refl _) (argsL := []) (rest := []) (lenOf pd_12 rfl) rfl (by show 2 * 0 + _ ≤ _; exact Nat.le_of_eq rfl) (hb hby d13_11) (fun _ _ => ⟨rfl, e2, (by decide : 0 + 0 ≤ _), (by decide : 0 + 0 ≤ _)⟩)
  dsimp only [Pt.U, Pt.locs, Pt.cells, Pt.slots] at X3 l3 y3 z3 st3 hQ3
  subst l3 y3 z3
  obtain ⟨rfl, Nq3, K3q⟩ := hQ3
  have N3 := Fr.app N0 Nq3
  obtain ⟨fs, hr, hrun, hended, hW, hsame⟩ := X3.leave (v := some (.int 0)) (fun h => by rw [hret0] at h; cases h)
  refine ⟨_, _, pre0 _ ?_, hrun, hended, _, _, rfl, ?_, ⟨_, rfl⟩, hW, hsame.mono (by decide) (by decide)⟩
  · skip
    show Steps p.tables e below (s₁.setTop (mkF m 0 #[(vr a1), (vl q2), .second] [])) _
    refine XS.aloadN X0.here hx rfl (hb hby d13_0) rfl rfl ?_
    refine st1 _ ?_
    refine XS.ifnullNo X1.here hx rfl (hb hby d13_4) rfl ?_
    refine XS.aloadN X1.here hx rfl (hb hby d13_7) rfl rfl ?_
    refine st2 _ ?_
    refine st3.trans ?_
    refine XS.lloadN X3.here hx rfl (hb hby d13_14) rfl ?_
    refine XS.lcmp X3.here hx rfl (hb hby d13_15) rfl ?_
    show Steps p.tables e below (T3.setTop (mkF m 16 #[(vr a1), (vl q2), .second] [(.int (lcmpW q6 q2))])) _
    refine XS.ifYes X3.here hx rfl (pc0 := 16) (pc' := 23) rfl (hb hby d13_16) rfl ((if0 _ _).trans (feq (fun z => P22 ((lw_eq _ _).mp z) : ¬ ((lcmpW q6 q2) = (0 : Int32)))).2) (by decide) (by decide) ?_
    refine XS.iconst X3.here hx rfl (hb hby d13_23) ?_
    exact retN X3 hx (t := .boolean) hret0 (by simp) (hb hby d13_24) hr
  · show Q_au13_6 Z wMAX_LOCK_DELAY wGRANTED wQUEUED wZERO a1 q2 a4 q6 h0 n0 _ T3.heap _
    rw [K3q]
    exact ⟨rfl, N3, rfl⟩
def Q_au7_9 (Z : State) (wMAX_LOCK_DELAY : Addr) (wGRANTED : Addr) (wQUEUED : Addr) (wZERO : Addr) (a1 : Addr) (q2 : Int64) (a4 : Addr) (a5 : Addr) (q6 : Int64) (a7 : Addr) (k8 : ClassId) (a9 : Addr) (a10 : Addr) (q11 : Int64) (h0 : Heap) (n0 : Nat) (v : Option Value) (h : Heap) (L : List Loc) : Prop := v = some .null ∧ Fr n0 L ∧ Keep h0 h []
theorem au7_9 (l : Launch) (Z : State) (a0 : Array Value) (hw : ∀ d ∈ tables_1, d.before a0 Z = true) (ws : List Jvm.Cond) (wMAX_LOCK_DELAY : Addr) (wGRANTED : Addr) (wQUEUED : Addr) (wZERO : Addr) (hS : SS Z wMAX_LOCK_DELAY wGRANTED wQUEUED wZERO) (a1 : Addr) (q2 : Int64) (a4 : Addr) (a5 : Addr) (q6 : Int64) (a7 : Addr) (k8 : ClassId) (a9 : Addr) (a10 : Addr) (q11 : Int64) (h0 : Heap) (n0 : Nat) (O0 : Old Z n0 h0) (P0 : Exa Z h0 a1 s4n) (P3 : Fld Z h0 a1 s4n "holder" s9n (.ref a4)) (P5 : Fld Z h0 a1 s4n "waiters" s11n (.ref a5)) (P6 : Exa Z h0 a4 s3n) (P8 : Fld Z h0 a4 s3n "session" "J" (.long q6)) (P9 : Exa Z h0 a5 s6n) (P10 : Fld Z h0 a5 s6n "elements" s7n (.ref a7)) (P11 : Fld Z h0 a5 s6n "head" "I" (.int 0)) (P12 : Fld Z h0 a5 s6n "tail" "I" (.int 1)) (P13 : Arv Z h0 a7 k8 (.object s8n) (17 : Int32) ([(.ref a9), .null, .null, .null, .null, .null, .null, .null, .null, .null, .null, .null, .null, .null, .null, .null, .null]) .null) (P16 : Exa Z h0 a9 s15n) (P18 : Fld Z h0 a9 s15n "owner" s9n (.ref a10)) (P19 : Exa Z h0 a10 s3n) (P21 : Fld Z h0 a10 s3n "session" "J" (.long q11)) (P22 : q6 ≠ q2) (P23 : q11 ≠ q2) :
    MetB l M12 prog_84_method_14_code 6 (some (.object s3n)) ws (rmk 4 1 4 53) Z h0 #[(.ref a1), (.long q2), (.int 0)] (Q_au7_9 Z wMAX_LOCK_DELAY wGRANTED wQUEUED wZERO a1 q2 a4 a5 q6 a7 k8 a9 a10 q11 h0 n0) := by
  refine own_body (plainFor_of_name pn_com_example_umpired_umpired_server_NodeLock) ?_
  intro p e s m below meth c s₁ hx hby hml hown hnm hret0 hlk0 hZ X0 e0
  have N0 := Fr.nil n0
  have pre0 : ∀ t, Steps p.tables e below (s₁.setTop (mkF m 0 #[(vr a1), (vl q2), .second, (vi 0), .unset, .unset] [])) t → Steps p.tables e below (s₁.setTop (entryFrame m #[(.ref a1), (.long q2), (.int 0)] 6)) t := fun t k => castTop (ef_au7_9 m a1 q2 (0 : Int32)) k
  have K0 := Keep.refl h0 []
  have hS0 := hS
  obtain ⟨S_wMAX_LOCK_DELAY, E_wMAX_LOCK_DELAY, S_wGRANTED, E_wGRANTED, S_wQUEUED, E_wQUEUED, F_seconds_wMAX_LOCK_DELAY, F_nanos_wMAX_LOCK_DELAY, S_wZERO, E_wZERO, F_seconds_wZERO, F_nanos_wZERO⟩ := hS0
  obtain ⟨T1, X1, e1, st1⟩ := getF X0 hx hZ hown (host := "") (Or.inl (ow hw 27 rfl)) Via.refl e0 P5 (g := (mkF m 1 #[(vr a1), (vl q2), .second, (vi 0), .unset, .unset] [(.ref a1)])) rfl rfl (hb hby d7_1)
  obtain ⟨cq2, kq2, q2a, q2b, q2c⟩ := isOf hZ e1 P9
  obtain ⟨_, _, ⟨T2, L2, k2, n2⟩, -, X2, ⟨Lc2, hQ2, l2, y2, z2⟩, st2⟩ := X1.interfaceBack hx (xi := M13) (y := M9) hown (mvT hZ (ow hw 57 rfl)) (mvT hZ (ow hw 58 rfl)) (mvT hZ (ow hw 59 rfl)) (mvT hZ (ow hw 60 rfl)) (mvT hZ (ow hw 61 rfl)) (mvT hZ (ow hw 62 rfl)) (mvT hZ (ow hw 63 rfl)) (mvT hZ (ow hw 64 rfl)) (by decide) (backOf (W := 0) (au8_1 l Z a0 hw [] wMAX_LOCK_DELAY wGRANTED wQUEUED wZERO hS a5 a7 k8 a9 a10 h0 n0 O0 P9 P10 P11 P12 P13 P16 P19) hZ (ow hw 65 rfl) (ow hw 12 rfl) (by decide) (by decide)) q2a q2b q2c (g := (mkF m 4 #[(vr a1), (vl q2), .second, (vi 0), .unset, .unset] [(.ref a5)])) rfl (by rw [hml]; rfl) (Steps.refl _) (argsL := []) (rest := []) (lenOf pd_6 rfl) rfl (by show 2 * 0 + _ ≤ _; exact Nat.le_of_eq rfl) (hb hby d7_4) (fun _ _ => ⟨rfl, e1, (by decide : 0 + 1 ≤ _), (by decide : 0 + 4 ≤ _)⟩)
  dsimp only [Pt.U, Pt.locs, Pt.cells, Pt.slots] at X2 l2 y2 z2 st2 hQ2
  subst l2 y2 z2
  obtain ⟨e1_2, rfl, Nq2, K2q, p2_0, p2_1, p2_2, p2_3, p2_4, p2_5⟩ := hQ2
  have N2 := Fr.app N0 Nq2
  have ne3 : a1 ≠ e1_2 := Nat.ne_of_lt (Nat.lt_of_lt_of_le P0.lt p2_0)
  have ne4 : a4 ≠ e1_2 := Nat.ne_of_lt (Nat.lt_of_lt_of_le P6.lt p2_0)
  have ne5 : a5 ≠ e1_2 := Nat.ne_of_lt (Nat.lt_of_lt_of_le P9.lt p2_0)
  have ne6 : a7 ≠ e1_2 := Nat.ne_of_lt (Nat.lt_of_lt_of_le P13.lt p2_0)
  have ne7 : a9 ≠ e1_2 := Nat.ne_of_lt (Nat.lt_of_lt_of_le P16.lt p2_0)
  have ne8 : a10 ≠ e1_2 := Nat.ne_of_lt (Nat.lt_of_lt_of_le P19.lt p2_0)
  have g9 : n0 ≤ e1_2 := Nat.le_trans (own_sz O0) p2_0
  have sz10 : h0.size ≤ e1_2 := Nat.le_trans K0.1 p2_0
  have O11 : Old Z n0 T2.heap := O0.keep K2q all0
  have K11 : Keep h0 T2.heap [] := K0.trans K2q all0
  obtain ⟨cq12, kq12, q12a, q12b, q12c⟩ := isOf hZ rfl p2_1
  obtain ⟨_, _, ⟨T12, L12, k12, n12⟩, -, X12, ⟨Lc12, hQ12, l12, y12, z12⟩, st12⟩ := X2.interfaceBack hx (xi := M14) (y := M10) hown (mvT hZ (ow hw 95 rfl)) (mvT hZ (ow hw 96 rfl)) (mvT hZ (ow hw 97 rfl)) (mvT hZ (ow hw 98 rfl)) (mvT hZ (ow hw 99 rfl)) (mvT hZ (ow hw 100 rfl)) (mvT hZ (ow hw 101 rfl)) (mvT hZ (ow hw 102 rfl)) (by decide) (backOf (W := 0) (au12_1 l Z a0 hw [] wMAX_LOCK_DELAY wGRANTED wQUEUED wZERO hS e1_2 T2.heap n0 O11 p2_4) hZ (ow hw 103 rfl) (ow hw 68 rfl) (by decide) (by decide)) q12a q12b q12c (g := (mkF m 13 #[(vr a1), (vl q2), .second, (vi 0), (vr e1_2), .unset] [(.ref e1_2)])) rfl (by rw [hml]; rfl) (Steps.refl _) (argsL := []) (rest := []) (lenOf pd_7 rfl) rfl (by show 2 * 0 + _ ≤ _; exact Nat.le_of_eq rfl) (hb hby d7_13) (fun _ _ => ⟨rfl, rfl, (by decide : 1 + 0 ≤ _), (by decide : 4 + 0 ≤ _)⟩)
  dsimp only [Pt.U, Pt.locs, Pt.cells, Pt.slots] at X12 l12 y12 z12 st12 hQ12
  subst l12 y12 z12
  obtain ⟨rfl, Nq12, K12q⟩ := hQ12
  have N12 := Fr.app N2 Nq12
  have f13 : Fld Z T2.heap a5 s6n "elements" s7n (.ref a7) := (P10.keep K2q nin0)
  have f14 : Arv Z T2.heap a7 k8 (.object s8n) (17 : Int32) ([(.ref a9), .null, .null, .null, .null, .null, .null, .null, .null, .null, .null, .null, .null, .null, .null, .null, .null]) .null := (P13.keep K2q nin0)
  obtain ⟨cq15, kq15, q15a, q15b, q15c⟩ := isOf hZ K12q p2_1
  obtain ⟨_, _, ⟨T15, L15, k15, n15⟩, -, X15, ⟨Lc15, hQ15, l15, y15, z15⟩, st15⟩ := X12.interfaceBack hx (xi := M36) (y := M31) hown (mvT hZ (ow hw 169 rfl)) (mvT hZ (ow hw 170 rfl)) (mvT hZ (ow hw 171 rfl)) (mvT hZ (ow hw 172 rfl)) (mvT hZ (ow hw 173 rfl)) (mvT hZ (ow hw 174 rfl)) (mvT hZ (ow hw 175 rfl)) (mvT hZ (ow hw 102 rfl)) (by decide) (backOf (W := 0) (au22_0 l Z a0 hw [] wMAX_LOCK_DELAY wGRANTED wQUEUED wZERO hS e1_2 a5 a7 k8 a9 T2.heap n0 O11 p2_1 p2_2 p2_3 p2_4 p2_5 f13 f14 g9 (Ne.symm ne6)) hZ (ow hw 176 rfl) (ow hw 68 rfl) (by decide) (by decide)) q15a q15b q15c (g := (mkF m 23 #[(vr a1), (vl q2), .second, (vi 0), (vr e1_2), .unset] [(.ref e1_2)])) rfl (by rw [hml]; rfl) (Steps.refl _) (argsL := []) (rest := []) (lenOf pd_14 rfl) rfl (by show 2 * 0 + _ ≤ _; exact Nat.le_of_eq rfl) (hb hby d7_23) (fun _ _ => ⟨rfl, K12q, (by decide : 1 + 0 ≤ _), (by decide : 4 + 0 ≤ _)⟩)
  dsimp only [Pt.U, Pt.locs, Pt.cells, Pt.slots] at X15 l15 y15 z15 st15 hQ15
  subst l15 y15 z15
  obtain ⟨rfl, Nq15, K15q, p15_0, p15_1, p15_2, p15_3, p15_4⟩ := hQ15
  have N15 := Fr.app N12 Nq15
  have O16 : Old Z n0 T15.heap := O11.keep K15q (allS g9 all0)
  have K16 : Keep h0 T15.heap [] := K11.trans K15q (allS (Or.inr sz10) all0)
  have f17 : Exa Z T15.heap a9 s15n := ((P16.keep K2q).keep K15q)
  obtain ⟨T18, X18, e18, st18⟩ := castY X15 hx hZ hown (ow hw 139 rfl) rfl (Ins.self f17) (g := (mkF m 28 #[(vr a1), (vl q2), .second, (vi 0), (vr e1_2), .unset] [(.ref a9)])) rfl rfl (hb hby d7_28)
  have f19 : Fld Z T15.heap a9 s15n "owner" s9n (.ref a10) := ((P18.keep K2q nin0).keep K15q (ninS ne7 nin0))
  obtain ⟨T20, X20, e20, st20⟩ := own_getR X18 hx hZ hown (ow hw 183 rfl) e18 f19 (g := (mkF m 31 #[(vr a1), (vl q2), .second, (vi 0), (vr e1_2), .unset] [(.ref a9)])) rfl rfl (hb hby d7_31)
  have f21 : Fld Z T15.heap a10 s3n "session" "J" (.long q11) := ((P21.keep K2q nin0).keep K15q (ninS ne8 nin0))
  have f23 : Exa Z T15.heap a10 s3n := ((P19.keep K2q).keep K15q)
  obtain ⟨cq22, kq22, q22a, q22b, q22c⟩ := isOf hZ e20 f23
  obtain ⟨_, _, ⟨T22, L22, k22, n22⟩, -, X22, ⟨Lc22, hQ22, l22, y22, z22⟩, st22⟩ := X20.virtualBack hx (y := M17) (z := M17) hown (mvT hZ (ow hw 184 rfl)) (mvT hZ (ow hw 185 rfl)) (notFace_of_selects (args := #[]) (mvT hZ (ow hw 187 rfl))) (mvT hZ (ow hw 187 rfl)) (mvT hZ (ow hw 186 rfl)) (by decide) (backOf (W := 0) (au24_0 l Z a0 hw [] wMAX_LOCK_DELAY wGRANTED wQUEUED wZERO hS a10 q11 T15.heap n0 O16 f21) hZ (ow hw 188 rfl) (ow hw 35 rfl) (by decide) (by decide)) q22a q22c (g := (mkF m 34 #[(vr a1), (vl q2), .second, (vi 0), (vr e1_2), .unset] [(.ref a10)])) rfl (by rw [hml]; rfl) (Steps.refl _) (argsL := []) (rest := []) (lenOf pd_12 rfl) rfl (by show 2 * 0 + _ ≤ _; exact Nat.le_of_eq rfl) (hb hby d7_34) (fun _ _ => ⟨rfl, e20, (by decide : 1 + 0 ≤ _), (by decide : 4 + 0 ≤ _)⟩)
  dsimp only [Pt.U, Pt.locs, Pt.cells, Pt.slots] at X22 l22 y22 z22 st22 hQ22
  subst l22 y22 z22
  obtain ⟨rfl, Nq22, K22q⟩ := hQ22
  have N22 := Fr.app N15 Nq22
  obtain ⟨cq24, kq24, q24a, q24b, q24c⟩ := isOf hZ K22q p15_0
  obtain ⟨_, _, ⟨T24, L24, k24, n24⟩, -, X24, ⟨Lc24, hQ24, l24, y24, z24⟩, st24⟩ := X22.interfaceBack hx (xi := M14) (y := M10) hown (mvT hZ (ow hw 95 rfl)) (mvT hZ (ow hw 96 rfl)) (mvT hZ (ow hw 97 rfl)) (mvT hZ (ow hw 98 rfl)) (mvT hZ (ow hw 99 rfl)) (mvT hZ (ow hw 100 rfl)) (mvT hZ (ow hw 101 rfl)) (mvT hZ (ow hw 102 rfl)) (by decide) (backOf (W := 0) (au12_0 l Z a0 hw [] wMAX_LOCK_DELAY wGRANTED wQUEUED wZERO hS e1_2 T15.heap n0 O16 p15_3) hZ (ow hw 103 rfl) (ow hw 68 rfl) (by decide) (by decide)) q24a q24b q24c (g := (mkF m 13 #[(vr a1), (vl q2), .second, (vi 0), (vr e1_2), .unset] [(.ref e1_2)])) rfl (by rw [hml]; rfl) (Steps.refl _) (argsL := []) (rest := []) (lenOf pd_7 rfl) rfl (by show 2 * 0 + _ ≤ _; exact Nat.le_of_eq rfl) (hb hby d7_13) (fun _ _ => ⟨rfl, K22q, (by decide : 1 + 0 ≤ _), (by decide : 4 + 0 ≤ _)⟩)
  dsimp only [Pt.U, Pt.locs, Pt.cells, Pt.slots] at X24 l24 y24 z24 st24 hQ24
  subst l24 y24 z24
  obtain ⟨rfl, Nq24, K24q⟩ := hQ24
  have N24 := Fr.app N22 Nq24
  have f25 : Fld Z T15.heap a1 s4n "holder" s9n (.ref a4) := ((P3.keep K2q nin0).keep K15q (ninS ne3 nin0))
  have f26 : Exa Z T15.heap a4 s3n := ((P6.keep K2q).keep K15q)
  have f27 : Fld Z T15.heap a4 s3n "session" "J" (.long q6) := ((P8.keep K2q nin0).keep K15q (ninS ne4 nin0))
  have f29 : Exa Z T15.heap a1 s4n := ((P0.keep K2q).keep K15q)
  obtain ⟨cq28, kq28, q28a, q28b, q28c⟩ := isOf hZ K24q f29
  obtain ⟨_, _, ⟨T28, L28, k28, n28⟩, -, X28, ⟨Lc28, hQ28, l28, y28, z28⟩, st28⟩ := X24.virtualBack hx (y := M11) (z := M11) hown (mvT hZ (ow hw 104 rfl)) (mvT hZ (ow hw 105 rfl)) (notFace_of_selects (args := #[]) (mvT hZ (ow hw 107 rfl))) (mvT hZ (ow hw 107 rfl)) (mvT hZ (ow hw 106 rfl)) (by decide) (backOf (W := 0) (au13_6 l Z a0 hw [] wMAX_LOCK_DELAY wGRANTED wQUEUED wZERO hS a1 q2 a4 q6 T15.heap n0 O16 f25 f26 f27 P22) hZ (ow hw 108 rfl) (ow hw 3 rfl) (by decide) (by decide)) q28a q28c (g := (mkF m 57 #[(vr a1), (vl q2), .second, (vi 0), (vr e1_2), .val .null] [(.long q2), (.ref a1)])) rfl (by rw [hml]; rfl) (Steps.refl _) (argsL := [(.long q2)]) (rest := []) (lenOf pd_2 rfl) rfl (by show 2 * 0 + _ ≤ _; exact Nat.le_of_eq rfl) (hb hby d7_57) (fun _ _ => ⟨rfl, K24q, (by decide : 1 + 0 ≤ _), (by decide : 4 + 0 ≤ _)⟩)
  dsimp only [Pt.U, Pt.locs, Pt.cells, Pt.slots] at X28 l28 y28 z28 st28 hQ28
  subst l28 y28 z28
  obtain ⟨rfl, Nq28, K28q⟩ := hQ28
  have N28 := Fr.app N24 Nq28
  obtain ⟨fs, hr, hrun, hended, hW, hsame⟩ := X28.leave (v := some .null) (fun h => by rw [hret0] at h; cases h)
  refine ⟨_, _, pre0 _ ?_, hrun, hended, _, _, rfl, ?_, ⟨_, rfl⟩, hW, hsame.mono (by decide) (by decide)⟩
  · skip
    show Steps p.tables e below (s₁.setTop (mkF m 0 #[(vr a1), (vl q2), .second, (vi 0), .unset, .unset] [])) _
    refine XS.aloadN X0.here hx rfl (hb hby d7_0) rfl rfl ?_
    refine st1 _ ?_
    refine st2.trans ?_
    refine XS.astore X2.here hx rfl (hb hby d7_9) rfl rfl (l' := #[(vr a1), (vl q2), .second, (vi 0), (vr e1_2), .unset]) rfl ?_
    refine XS.aload X2.here hx rfl (hb hby d7_11) rfl rfl ?_
    refine st12.trans ?_
    refine XS.ifNo X12.here hx rfl (hb hby d7_18) rfl ((if0 _ _).trans (feq (by decide : ¬ ((1 : Int32) = (0 : Int32)))).1) ?_
    refine XS.aload X12.here hx rfl (hb hby d7_21) rfl rfl ?_
    show Steps p.tables e below (T12.setTop (mkF m 23 #[(vr a1), (vl q2), .second, (vi 0), (vr e1_2), .unset] [(.ref e1_2)])) _
    refine st15.trans ?_
    refine st18 _ ?_
    refine st20 _ ?_
    refine st22.trans ?_
    refine XS.lloadN X22.here hx rfl (hb hby d7_37) rfl ?_
    refine XS.lcmp X22.here hx rfl (hb hby d7_38) rfl ?_
    refine XS.ifYes X22.here hx rfl (pc0 := 39) (pc' := 11) rfl (hb hby d7_39) rfl ((if0 _ _).trans (feq (fun z => P23 ((lw_eq _ _).mp z) : ¬ ((lcmpW q11 q2) = (0 : Int32)))).2) (by decide) (by decide) ?_
    refine XS.aload X22.here hx rfl (hb hby d7_11) rfl rfl ?_
    show Steps p.tables e below (T22.setTop (mkF m 13 #[(vr a1), (vl q2), .second, (vi 0), (vr e1_2), .unset] [(.ref e1_2)])) _
    refine st24.trans ?_
    refine XS.ifYes X24.here hx rfl (pc0 := 18) (pc' := 52) rfl (hb hby d7_18) rfl ((if0 _ _).trans (teq (by decide : (0 : Int32) = (0 : Int32))).1) (by decide) (by decide) ?_
    refine XS.aconstNull X24.here hx rfl (hb hby d7_52) ?_
    refine XS.astore X24.here hx rfl (hb hby d7_53) rfl rfl (l' := #[(vr a1), (vl q2), .second, (vi 0), (vr e1_2), .val .null]) rfl ?_
    refine XS.aloadN X24.here hx rfl (hb hby d7_55) rfl rfl ?_
    refine XS.lloadN X24.here hx rfl (hb hby d7_56) rfl ?_
    refine st28.trans ?_
    refine XS.ifYes X28.here hx rfl (pc0 := 60) (pc' := 108) rfl (hb hby d7_60) rfl ((if0 _ _).trans (teq (by decide : (0 : Int32) = (0 : Int32))).1) (by decide) (by decide) ?_
    show Steps p.tables e below (T28.setTop (mkF m 108 #[(vr a1), (vl q2), .second, (vi 0), (vr e1_2), .val .null] [])) _
    refine XS.aload X28.here hx rfl (hb hby d7_108) rfl rfl ?_
    jvm_step X28.here [X28.here.top, hx, (hb hby d7_110), X28.method', hret0, Value.isRef, FieldType.isReference]
    first | (intro acts; rw [hr _ acts rfl rfl rfl]) | rw [hr _ _ rfl rfl rfl]
    exact Steps.refl _
  · show Q_au7_9 Z wMAX_LOCK_DELAY wGRANTED wQUEUED wZERO a1 q2 a4 a5 q6 a7 k8 a9 a10 q11 h0 n0 _ T28.heap _
    rw [K28q]
    exact ⟨rfl, N28, K16⟩
theorem ef_au7_10 (m : MethodId) (x0 : Addr) (x1 : Int64) (x2 : Int32)  : entryFrame m #[(.ref x0), (.long x1), (.int x2)] 6 = mkF m 0 #[(vr x0), (vl x1), .second, (vi x2), .unset, .unset] [] := by first | (simp [entryFrame, mkF, argsToLocals, Value.category]; done) | rfl
def Q_au7_10 (Z : State) (wMAX_LOCK_DELAY : Addr) (wGRANTED : Addr) (wQUEUED : Addr) (wZERO : Addr) (a1 : Addr) (q2 : Int64) (qg3 : Int64) (a4 : Addr) (a5 : Addr) (q6 : Int64) (a7 : Addr) (k8 : ClassId) (a9 : Addr) (a10 : Addr) (q11 : Int64) (h0 : Heap) (n0 : Nat) (v : Option Value) (h : Heap) (L : List Loc) : Prop := v = some .null ∧ Fr n0 L ∧ Keep h0 h [a5, a7, a1] ∧ Exa Z h a5 s6n ∧ Fld Z h a5 s6n "elements" s7n (.ref a7) ∧ Fld Z h a5 s6n "head" "I" (.int 0) ∧ Fld Z h a5 s6n "tail" "I" (.int 0) ∧ Exa Z h a7 s7n ∧ Arv Z h a7 k8 (.object s8n) (17 : Int32) ([.null, .null, .null, .null, .null, .null, .null, .null, .null, .null, .null, .null, .null, .null, .null, .null, .null]) .null ∧ Ovr Z k8 s8n ∧ Exa Z h a1 s4n ∧ Fld Z h a1 s4n "generation" "J" (.long qg3) ∧ Fld Z h a1 s4n "heldBack" "Z" (.int 1) ∧ Fld Z h a1 s4n "holder" s9n .null ∧ Fld Z h a1 s4n s10n s0n (.ref wMAX_LOCK_DELAY) ∧ Fld Z h a1 s4n "waiters" s11n (.ref a5)
theorem au7_10 (l : Launch) (Z : State) (a0 : Array Value) (hw : ∀ d ∈ tables_1, d.before a0 Z = true) (ws : List Jvm.Cond) (wMAX_LOCK_DELAY : Addr) (wGRANTED : Addr) (wQUEUED : Addr) (wZERO : Addr) (hS : SS Z wMAX_LOCK_DELAY wGRANTED wQUEUED wZERO) (a1 : Addr) (q2 : Int64) (qg3 : Int64) (a4 : Addr) (a5 : Addr) (q6 : Int64) (a7 : Addr) (k8 : ClassId) (a9 : Addr) (a10 : Addr) (q11 : Int64) (h0 : Heap) (n0 : Nat) (O0 : Old Z n0 h0) (P0 : Exa Z h0 a1 s4n) (P1 : Fld Z h0 a1 s4n "generation" "J" (.long qg3)) (P2 : Fld Z h0 a1 s4n "heldBack" "Z" (.int 0)) (P3 : Fld Z h0 a1 s4n "holder" s9n (.ref a4)) (P4 : Fld Z h0 a1 s4n s10n s0n (.ref wMAX_LOCK_DELAY)) (P5 : Fld Z h0 a1 s4n "waiters" s11n (.ref a5)) (P6 : Exa Z h0 a4 s3n) (P8 : Fld Z h0 a4 s3n "session" "J" (.long q6)) (P9 : Exa Z h0 a5 s6n) (P10 : Fld Z h0 a5 s6n "elements" s7n (.ref a7)) (P11 : Fld Z h0 a5 s6n "head" "I" (.int 0)) (P12 : Fld Z h0 a5 s6n "tail" "I" (.int 1)) (P13 : Arv Z h0 a7 k8 (.object s8n) (17 : Int32) ([(.ref a9), .null, .null, .null, .null, .null, .null, .null, .null, .null, .null, .null, .null, .null, .null, .null, .null]) .null) (P14 : Ovr Z k8 s8n) (P15 : Exa Z h0 a7 s7n) (P16 : Exa Z h0 a9 s15n) (P18 : Fld Z h0 a9 s15n "owner" s9n (.ref a10)) (P19 : Exa Z h0 a10 s3n) (P21 : Fld Z h0 a10 s3n "session" "J" (.long q11)) (P22 : q6 = q2) (P23 : q11 = q2) (P24 : n0 ≤ a1) (P26 : n0 ≤ a5) (P27 : n0 ≤ a7) (P31 : a1 ≠ a5) (P32 : a1 ≠ a7) (P35 : a4 ≠ a5) (P36 : a4 ≠ a7) (P39 : a5 ≠ a7) :
    MetB l M12 prog_84_method_14_code 6 (some (.object s3n)) ws (rmk 4 1 4 53) Z h0 #[(.ref a1), (.long q2), (.int 1)] (Q_au7_10 Z wMAX_LOCK_DELAY wGRANTED wQUEUED wZERO a1 q2 qg3 a4 a5 q6 a7 k8 a9 a10 q11 h0 n0) := by
  refine own_body (plainFor_of_name pn_com_example_umpired_umpired_server_NodeLock) ?_
  intro p e s m below meth c s₁ hx hby hml hown hnm hret0 hlk0 hZ X0 e0
  have N0 := Fr.nil n0
  have pre0 : ∀ t, Steps p.tables e below (s₁.setTop (mkF m 0 #[(vr a1), (vl q2), .second, (vi 1), .unset, .unset] [])) t → Steps p.tables e below (s₁.setTop (entryFrame m #[(.ref a1), (.long q2), (.int 1)] 6)) t := fun t k => castTop (ef_au7_10 m a1 q2 (1 : Int32)) k
  have K0 := Keep.refl h0 [a5, a7, a1]
  have hS0 := hS
  obtain ⟨S_wMAX_LOCK_DELAY, E_wMAX_LOCK_DELAY, S_wGRANTED, E_wGRANTED, S_wQUEUED, E_wQUEUED, F_seconds_wMAX_LOCK_DELAY, F_nanos_wMAX_LOCK_DELAY, S_wZERO, E_wZERO, F_seconds_wZERO, F_nanos_wZERO⟩ := hS0
  obtain ⟨T1, X1, e1, st1⟩ := getF X0 hx hZ hown (host := "") (Or.inl (ow hw 27 rfl)) Via.refl e0 P5 (g := (mkF m 1 #[(vr a1), (vl q2), .second, (vi 1), .unset, .unset] [(.ref a1)])) rfl rfl (hb hby d7_1)
  obtain ⟨cq2, kq2, q2a, q2b, q2c⟩ := isOf hZ e1 P9
  obtain ⟨_, _, ⟨T2, L2, k2, n2⟩, -, X2, ⟨Lc2, hQ2, l2, y2, z2⟩, st2⟩ := X1.interfaceBack hx (xi := M13) (y := M9) hown (mvT hZ (ow hw 57 rfl)) (mvT hZ (ow hw 58 rfl)) (mvT hZ (ow hw 59 rfl)) (mvT hZ (ow hw 60 rfl)) (mvT hZ (ow hw 61 rfl)) (mvT hZ (ow hw 62 rfl)) (mvT hZ (ow hw 63 rfl)) (mvT hZ (ow hw 64 rfl)) (by decide) (backOf (W := 0) (au8_1 l Z a0 hw [] wMAX_LOCK_DELAY wGRANTED wQUEUED wZERO hS a5 a7 k8 a9 a10 h0 n0 O0 P9 P10 P11 P12 P13 P16 P19) hZ (ow hw 65 rfl) (ow hw 12 rfl) (by decide) (by decide)) q2a q2b q2c (g := (mkF m 4 #[(vr a1), (vl q2), .second, (vi 1), .unset, .unset] [(.ref a5)])) rfl (by rw [hml]; rfl) (Steps.refl _) (argsL := []) (rest := []) (lenOf pd_6 rfl) rfl (by show 2 * 0 + _ ≤ _; exact Nat.le_of_eq rfl) (hb hby d7_4) (fun _ _ => ⟨rfl, e1, (by decide : 0 + 1 ≤ _), (by decide : 0 + 4 ≤ _)⟩)
  dsimp only [Pt.U, Pt.locs, Pt.cells, Pt.slots] at X2 l2 y2 z2 st2 hQ2
  subst l2 y2 z2
  obtain ⟨e1_2, rfl, Nq2, K2q, p2_0, p2_1, p2_2, p2_3, p2_4, p2_5⟩ := hQ2
  have N2 := Fr.app N0 Nq2
  have ne3 : a1 ≠ e1_2 := Nat.ne_of_lt (Nat.lt_of_lt_of_le P0.lt p2_0)
  have ne4 : a4 ≠ e1_2 := Nat.ne_of_lt (Nat.lt_of_lt_of_le P6.lt p2_0)
  have ne5 : a5 ≠ e1_2 := Nat.ne_of_lt (Nat.lt_of_lt_of_le P9.lt p2_0)
  have ne6 : a7 ≠ e1_2 := Nat.ne_of_lt (Nat.lt_of_lt_of_le P13.lt p2_0)
  have ne7 : a9 ≠ e1_2 := Nat.ne_of_lt (Nat.lt_of_lt_of_le P16.lt p2_0)
  have ne8 : a10 ≠ e1_2 := Nat.ne_of_lt (Nat.lt_of_lt_of_le P19.lt p2_0)
  have g9 : n0 ≤ e1_2 := Nat.le_trans (own_sz O0) p2_0
  have sz10 : h0.size ≤ e1_2 := Nat.le_trans K0.1 p2_0
  have O11 : Old Z n0 T2.heap := O0.keep K2q all0
  have K11 : Keep h0 T2.heap [a5, a7, a1] := K0.trans K2q all0
  obtain ⟨cq12, kq12, q12a, q12b, q12c⟩ := isOf hZ rfl p2_1
  obtain ⟨_, _, ⟨T12, L12, k12, n12⟩, -, X12, ⟨Lc12, hQ12, l12, y12, z12⟩, st12⟩ := X2.interfaceBack hx (xi := M14) (y := M10) hown (mvT hZ (ow hw 95 rfl)) (mvT hZ (ow hw 96 rfl)) (mvT hZ (ow hw 97 rfl)) (mvT hZ (ow hw 98 rfl)) (mvT hZ (ow hw 99 rfl)) (mvT hZ (ow hw 100 rfl)) (mvT hZ (ow hw 101 rfl)) (mvT hZ (ow hw 102 rfl)) (by decide) (backOf (W := 0) (au12_1 l Z a0 hw [] wMAX_LOCK_DELAY wGRANTED wQUEUED wZERO hS e1_2 T2.heap n0 O11 p2_4) hZ (ow hw 103 rfl) (ow hw 68 rfl) (by decide) (by decide)) q12a q12b q12c (g := (mkF m 13 #[(vr a1), (vl q2), .second, (vi 1), (vr e1_2), .unset] [(.ref e1_2)])) rfl (by rw [hml]; rfl) (Steps.refl _) (argsL := []) (rest := []) (lenOf pd_7 rfl) rfl (by show 2 * 0 + _ ≤ _; exact Nat.le_of_eq rfl) (hb hby d7_13) (fun _ _ => ⟨rfl, rfl, (by decide : 1 + 0 ≤ _), (by decide : 4 + 0 ≤ _)⟩)
  dsimp only [Pt.U, Pt.locs, Pt.cells, Pt.slots] at X12 l12 y12 z12 st12 hQ12
  subst l12 y12 z12
  obtain ⟨rfl, Nq12, K12q⟩ := hQ12
  have N12 := Fr.app N2 Nq12
  have f13 : Fld Z T2.heap a5 s6n "elements" s7n (.ref a7) := (P10.keep K2q nin0)
  have f14 : Arv Z T2.heap a7 k8 (.object s8n) (17 : Int32) ([(.ref a9), .null, .null, .null, .null, .null, .null, .null, .null, .null, .null, .null, .null, .null, .null, .null, .null]) .null := (P13.keep K2q nin0)
  obtain ⟨cq15, kq15, q15a, q15b, q15c⟩ := isOf hZ K12q p2_1
  obtain ⟨_, _, ⟨T15, L15, k15, n15⟩, -, X15, ⟨Lc15, hQ15, l15, y15, z15⟩, st15⟩ := X12.interfaceBack hx (xi := M36) (y := M31) hown (mvT hZ (ow hw 169 rfl)) (mvT hZ (ow hw 170 rfl)) (mvT hZ (ow hw 171 rfl)) (mvT hZ (ow hw 172 rfl)) (mvT hZ (ow hw 173 rfl)) (mvT hZ (ow hw 174 rfl)) (mvT hZ (ow hw 175 rfl)) (mvT hZ (ow hw 102 rfl)) (by decide) (backOf (W := 0) (au22_0 l Z a0 hw [] wMAX_LOCK_DELAY wGRANTED wQUEUED wZERO hS e1_2 a5 a7 k8 a9 T2.heap n0 O11 p2_1 p2_2 p2_3 p2_4 p2_5 f13 f14 g9 (Ne.symm ne6)) hZ (ow hw 176 rfl) (ow hw 68 rfl) (by decide) (by decide)) q15a q15b q15c (g := (mkF m 23 #[(vr a1), (vl q2), .second, (vi 1), (vr e1_2), .unset] [(.ref e1_2)])) rfl (by rw [hml]; rfl) (Steps.refl _) (argsL := []) (rest := []) (lenOf pd_14 rfl) rfl (by show 2 * 0 + _ ≤ _; exact Nat.le_of_eq rfl) (hb hby d7_23) (fun _ _ => ⟨rfl, K12q, (by decide : 1 + 0 ≤ _), (by decide : 4 + 0 ≤ _)⟩)
  dsimp only [Pt.U, Pt.locs, Pt.cells, Pt.slots] at X15 l15 y15 z15 st15 hQ15
  subst l15 y15 z15
  obtain ⟨rfl, Nq15, K15q, p15_0, p15_1, p15_2, p15_3, p15_4⟩ := hQ15
  have N15 := Fr.app N12 Nq15
  have O16 : Old Z n0 T15.heap := O11.keep K15q (allS g9 all0)
  have K16 : Keep h0 T15.heap [a5, a7, a1] := K11.trans K15q (allS (Or.inr sz10) all0)
  have f17 : Exa Z T15.heap a9 s15n := ((P16.keep K2q).keep K15q)
  obtain ⟨T18, X18, e18, st18⟩ := castY X15 hx hZ hown (ow hw 139 rfl) rfl (Ins.self f17) (g := (mkF m 28 #[(vr a1), (vl q2), .second, (vi 1), (vr e1_2), .unset] [(.ref a9)])) rfl rfl (hb hby d7_28)
  have f19 : Fld Z T15.heap a9 s15n "owner" s9n (.ref a10) := ((P18.keep K2q nin0).keep K15q (ninS ne7 nin0))
  obtain ⟨T20, X20, e20, st20⟩ := own_getR X18 hx hZ hown (ow hw 183 rfl) e18 f19 (g := (mkF m 31 #[(vr a1), (vl q2), .second, (vi 1), (vr e1_2), .unset] [(.ref a9)])) rfl rfl (hb hby d7_31)
  have f21 : Fld Z T15.heap a10 s3n "session" "J" (.long q11) := ((P21.keep K2q nin0).keep K15q (ninS ne8 nin0))
  have f23 : Exa Z T15.heap a10 s3n := ((P19.keep K2q).keep K15q)
  obtain ⟨cq22, kq22, q22a, q22b, q22c⟩ := isOf hZ e20 f23
  obtain ⟨_, _, ⟨T22, L22, k22, n22⟩, -, X22, ⟨Lc22, hQ22, l22, y22, z22⟩, st22⟩ := X20.virtualBack hx (y := M17) (z := M17) hown (mvT hZ (ow hw 184 rfl)) (mvT hZ (ow hw 185 rfl)) (notFace_of_selects (args := #[]) (mvT hZ (ow hw 187 rfl))) (mvT hZ (ow hw 187 rfl)) (mvT hZ (ow hw 186 rfl)) (by decide) (backOf (W := 0) (au24_0 l Z a0 hw [] wMAX_LOCK_DELAY wGRANTED wQUEUED wZERO hS a10 q11 T15.heap n0 O16 f21) hZ (ow hw 188 rfl) (ow hw 35 rfl) (by decide) (by decide)) q22a q22c (g := (mkF m 34 #[(vr a1), (vl q2), .second, (vi 1), (vr e1_2), .unset] [(.ref a10)])) rfl (by rw [hml]; rfl) (Steps.refl _) (argsL := []) (rest := []) (lenOf pd_12 rfl) rfl (by show 2 * 0 + _ ≤ _; exact Nat.le_of_eq rfl) (hb hby d7_34) (fun _ _ => ⟨rfl, e20, (by decide : 1 + 0 ≤ _), (by decide : 4 + 0 ≤ _)⟩)
  dsimp only [Pt.U, Pt.locs, Pt.cells, Pt.slots] at X22 l22 y22 z22 st22 hQ22
  subst l22 y22 z22
  obtain ⟨rfl, Nq22, K22q⟩ := hQ22
  have N22 := Fr.app N15 Nq22
  have f24 : Exa Z T15.heap a5 s6n := ((P9.keep K2q).keep K15q)
  have f25 : Fld Z T15.heap a5 s6n "elements" s7n (.ref a7) := (f13.keep K15q (ninS ne5 nin0))
  have f26 : Fld Z T15.heap a5 s6n "head" "I" (.int 0) := ((P11.keep K2q nin0).keep K15q (ninS ne5 nin0))
  have f27 : Fld Z T15.heap a5 s6n "tail" "I" (.int 1) := ((P12.keep K2q nin0).keep K15q (ninS ne5 nin0))
  have f28 : Arv Z T15.heap a7 k8 (.object s8n) (17 : Int32) ([(.ref a9), .null, .null, .null, .null, .null, .null, .null, .null, .null, .null, .null, .null, .null, .null, .null, .null]) .null := (f14.keep K15q (ninS ne6 nin0))
  have f29 : Exa Z T15.heap a7 s7n := ((P15.keep K2q).keep K15q)
  obtain ⟨cq30, kq30, q30a, q30b, q30c⟩ := isOf hZ K22q p15_0
  obtain ⟨_, _, ⟨T30, L30, k30, n30⟩, -, X30, ⟨Lc30, hQ30, l30, y30, z30⟩, st30⟩ := X22.interfaceBack hx (xi := M37) (y := M35) hown (mvT hZ (ow hw 198 rfl)) (mvT hZ (ow hw 199 rfl)) (mvT hZ (ow hw 200 rfl)) (mvT hZ (ow hw 201 rfl)) (mvT hZ (ow hw 202 rfl)) (mvT hZ (ow hw 203 rfl)) (mvT hZ (ow hw 204 rfl)) (mvT hZ (ow hw 102 rfl)) (by decide) (backOf (W := 0) (au26_0 l Z a0 hw [] wMAX_LOCK_DELAY wGRANTED wQUEUED wZERO hS e1_2 a5 a7 k8 a9 T15.heap n0 O16 p15_0 p15_1 p15_2 p15_3 p15_4 f24 f25 f26 f27 f28 P14 f29 g9 P26 P27 (Ne.symm ne5) (Ne.symm ne6) P39) hZ (ow hw 205 rfl) (ow hw 68 rfl) (by decide) (by decide)) q30a q30b q30c (g := (mkF m 44 #[(vr a1), (vl q2), .second, (vi 1), (vr e1_2), .unset] [(.ref e1_2)])) rfl (by rw [hml]; rfl) (Steps.refl _) (argsL := []) (rest := []) (lenOf pd_0 rfl) rfl (by show 2 * 0 + _ ≤ _; exact Nat.le_of_eq rfl) (hb hby d7_44) (fun _ _ => ⟨rfl, K22q, (by decide : 1 + 0 ≤ _), (by decide : 4 + 0 ≤ _)⟩)
  dsimp only [Pt.U, Pt.locs, Pt.cells, Pt.slots] at X30 l30 y30 z30 st30 hQ30
  subst l30 y30 z30
  obtain ⟨rfl, Nq30, K30q, p30_0, p30_1, p30_2, p30_3, p30_4, p30_5, p30_6, p30_7, p30_8, p30_9, p30_10, p30_11⟩ := hQ30
  have N30 := Fr.app N22 Nq30
  have O31 : Old Z n0 T30.heap := O16.keep K30q (allS P26 (allS P27 (allS g9 all0)))
  have K31 : Keep h0 T30.heap [a5, a7, a1] := K16.trans K30q (allS (Or.inl (List.mem_of_getElem? (i := 0) rfl)) (allS (Or.inl (List.mem_of_getElem? (i := 1) rfl)) (allS (Or.inr sz10) all0)))
  obtain ⟨cq32, kq32, q32a, q32b, q32c⟩ := isOf hZ rfl p30_7
  obtain ⟨_, _, ⟨T32, L32, k32, n32⟩, -, X32, ⟨Lc32, hQ32, l32, y32, z32⟩, st32⟩ := X30.interfaceBack hx (xi := M14) (y := M10) hown (mvT hZ (ow hw 95 rfl)) (mvT hZ (ow hw 96 rfl)) (mvT hZ (ow hw 97 rfl)) (mvT hZ (ow hw 98 rfl)) (mvT hZ (ow hw 99 rfl)) (mvT hZ (ow hw 100 rfl)) (mvT hZ (ow hw 101 rfl)) (mvT hZ (ow hw 102 rfl)) (by decide) (backOf (W := 0) (au12_0 l Z a0 hw [] wMAX_LOCK_DELAY wGRANTED wQUEUED wZERO hS e1_2 T30.heap n0 O31 p30_10) hZ (ow hw 103 rfl) (ow hw 68 rfl) (by decide) (by decide)) q32a q32b q32c (g := (mkF m 13 #[(vr a1), (vl q2), .second, (vi 1), (vr e1_2), .unset] [(.ref e1_2)])) rfl (by rw [hml]; rfl) (Steps.refl _) (argsL := []) (rest := []) (lenOf pd_7 rfl) rfl (by show 2 * 0 + _ ≤ _; exact Nat.le_of_eq rfl) (hb hby d7_13) (fun _ _ => ⟨rfl, rfl, (by decide : 1 + 0 ≤ _), (by decide : 4 + 0 ≤ _)⟩)
  dsimp only [Pt.U, Pt.locs, Pt.cells, Pt.slots] at X32 l32 y32 z32 st32 hQ32
  subst l32 y32 z32
  obtain ⟨rfl, Nq32, K32q⟩ := hQ32
  have N32 := Fr.app N30 Nq32
  have f33 : Fld Z T30.heap a1 s4n "holder" s9n (.ref a4) := (((P3.keep K2q nin0).keep K15q (ninS ne3 nin0)).keep K30q (ninS P31 (ninS P32 (ninS ne3 nin0))))
  have f34 : Exa Z T30.heap a4 s3n := (((P6.keep K2q).keep K15q).keep K30q)
  have f35 : Fld Z T30.heap a4 s3n "session" "J" (.long q6) := (((P8.keep K2q nin0).keep K15q (ninS ne4 nin0)).keep K30q (ninS P35 (ninS P36 (ninS ne4 nin0))))
  have f37 : Exa Z T30.heap a1 s4n := (((P0.keep K2q).keep K15q).keep K30q)
  obtain ⟨cq36, kq36, q36a, q36b, q36c⟩ := isOf hZ K32q f37
  obtain ⟨_, _, ⟨T36, L36, k36, n36⟩, -, X36, ⟨Lc36, hQ36, l36, y36, z36⟩, st36⟩ := X32.virtualBack hx (y := M11) (z := M11) hown (mvT hZ (ow hw 104 rfl)) (mvT hZ (ow hw 105 rfl)) (notFace_of_selects (args := #[]) (mvT hZ (ow hw 107 rfl))) (mvT hZ (ow hw 107 rfl)) (mvT hZ (ow hw 106 rfl)) (by decide) (backOf (W := 0) (au13_3 l Z a0 hw [] wMAX_LOCK_DELAY wGRANTED wQUEUED wZERO hS a1 q2 a4 q6 T30.heap n0 O31 f33 f34 f35 P22) hZ (ow hw 108 rfl) (ow hw 3 rfl) (by decide) (by decide)) q36a q36c (g := (mkF m 57 #[(vr a1), (vl q2), .second, (vi 1), (vr e1_2), .val .null] [(.long q2), (.ref a1)])) rfl (by rw [hml]; rfl) (Steps.refl _) (argsL := [(.long q2)]) (rest := []) (lenOf pd_2 rfl) rfl (by show 2 * 0 + _ ≤ _; exact Nat.le_of_eq rfl) (hb hby d7_57) (fun _ _ => ⟨rfl, K32q, (by decide : 1 + 0 ≤ _), (by decide : 4 + 0 ≤ _)⟩)
  dsimp only [Pt.U, Pt.locs, Pt.cells, Pt.slots] at X36 l36 y36 z36 st36 hQ36
  subst l36 y36 z36
  obtain ⟨rfl, Nq36, K36q⟩ := hQ36
  have N36 := Fr.app N32 Nq36
  obtain ⟨T38, h38, X38, e38, W38, st38⟩ := putF X36 hx hZ hown (host := "") (Or.inl (ow hw 109 rfl)) Via.refl K36q f33 f37 (Or.inl (ow hw 110 rfl)) (ow hw 2 rfl) (ty := (.object s3n)) (by decide) rfl rfl (g := (mkF m 65 #[(vr a1), (vl q2), .second, (vi 1), (vr e1_2), .val .null] [.null, (.ref a1)])) rfl rfl (hb hby d7_65)
  have N38 := Fr.snoc X38 N36 P24
  have O39 : Old Z n0 h38 := O31.wr W38 P24
  have K39 : Keep h0 h38 [a5, a7, a1] := K31.wr W38 (Or.inl (List.mem_of_getElem? (i := 2) rfl))
  have Fw38 : Fld Z h38 a1 s4n "holder" s9n .null := f33.same W38
  have f40 : Fld Z h38 a1 s4n s10n s0n (.ref wMAX_LOCK_DELAY) := ((((P4.keep K2q nin0).keep K15q (ninS ne3 nin0)).keep K30q (ninS P31 (ninS P32 (ninS ne3 nin0)))).other W38 (Or.inr (slot_ne (Or.inl (ow hw 32 rfl)) (Or.inl (ow hw 110 rfl)) (by decide) (t := (.object s1n)) (t' := (.object s3n)) (by decide) (by decide))))
  obtain ⟨T41, X41, e41, st41⟩ := getF X38 hx hZ hown (host := "") (Or.inl (ow hw 31 rfl)) Via.refl e38 f40 (g := (mkF m 74 #[(vr a1), (vl q2), .second, (vi 1), (vr e1_2), .val .null] [(.ref a1), (.ref a1)])) rfl rfl (hb hby d7_74)
  obtain ⟨cq42, kq42, q42a, q42b, q42c⟩ := isOf hZ e41 (E_wMAX_LOCK_DELAY.ext O39.2)
  obtain ⟨_, _, ⟨T42, L42, k42, n42⟩, -, X42, ⟨Lc42, hQ42, l42, y42, z42⟩, st42⟩ := X41.virtualBack hx (y := M23) (z := M23) hown (mvT hZ (ow hw 189 rfl)) (mvT hZ (ow hw 190 rfl)) (notFace_of_selects (args := #[]) (mvT hZ (ow hw 192 rfl))) (mvT hZ (ow hw 192 rfl)) (mvT hZ (ow hw 191 rfl)) (by decide) (backOf (W := 1) (au25_0 l Z a0 hw [] wMAX_LOCK_DELAY wGRANTED wQUEUED wZERO hS  h38 n0 O39 ) hZ (ow hw 193 rfl) (ow hw 30 rfl) (by decide) (by decide)) q42a q42c (g := (mkF m 77 #[(vr a1), (vl q2), .second, (vi 1), (vr e1_2), .val .null] [(.ref wMAX_LOCK_DELAY), (.ref a1)])) rfl (by rw [hml]; rfl) (Steps.refl _) (argsL := []) (rest := [(.ref a1)]) (lenOf pd_7 rfl) rfl (by show 2 * 0 + _ ≤ _; exact Nat.le_of_eq rfl) (hb hby d7_77) (fun _ _ => ⟨rfl, e41, (by decide : 1 + 0 ≤ _), (by decide : 4 + 0 ≤ _)⟩)
  dsimp only [Pt.U, Pt.locs, Pt.cells, Pt.slots] at X42 l42 y42 z42 st42 hQ42
  subst l42 y42 z42
  obtain ⟨rfl, Nq42, K42q⟩ := hQ42
  have N42 := Fr.app N38 Nq42
  have f43 : Exa Z h38 a1 s4n := (f37.wr W38)
  have f44 : Fld Z h38 a1 s4n "heldBack" "Z" (.int 0) := ((((P2.keep K2q nin0).keep K15q (ninS ne3 nin0)).keep K30q (ninS P31 (ninS P32 (ninS ne3 nin0)))).other W38 (Or.inr (slot_ne (Or.inl (ow hw 51 rfl)) (Or.inl (ow hw 110 rfl)) (by decide) (t := .boolean) (t' := (.object s3n)) (by decide) (by decide))))
  obtain ⟨T45, h45, X45, e45, W45, st45⟩ := putFN X42 hx hZ hown (ow hw 50 rfl) Via.refl K42q f44 f43 (Or.inl (ow hw 51 rfl)) (ow hw 2 rfl) (ty := .boolean) (v' := (.int 1)) (by decide) rfl rfl (g := (mkF m 88 #[(vr a1), (vl q2), .second, (vi 1), (vr e1_2), .val .null] [(.int 1), (.ref a1)])) rfl rfl (hb hby d7_88)
  have N45 := Fr.snoc X45 N42 P24
  have O46 : Old Z n0 h45 := O39.wr W45 P24
  have K46 : Keep h0 h45 [a5, a7, a1] := K39.wr W45 (Or.inl (List.mem_of_getElem? (i := 2) rfl))
  have Fw45 : Fld Z h45 a1 s4n "heldBack" "Z" (.int 1) := f44.same W45
  obtain ⟨T47, X47, e47, st47⟩ := getF X45 hx hZ hown (host := "") (Or.inl (ow hw 50 rfl)) Via.refl e45 Fw45 (g := (mkF m 92 #[(vr a1), (vl q2), .second, (vi 1), (vr e1_2), .val .null] [(.ref a1)])) rfl rfl (hb hby d7_92)
  have f48 : Exa Z h45 a5 s6n := ((p30_0.wr W38).wr W45)
  have f49 : Fld Z h45 a5 s6n "elements" s7n (.ref a7) := ((p30_1.other W38 (Or.inl (Ne.symm P31))).other W45 (Or.inl (Ne.symm P31)))
  have f50 : Fld Z h45 a5 s6n "head" "I" (.int 0) := ((p30_2.other W38 (Or.inl (Ne.symm P31))).other W45 (Or.inl (Ne.symm P31)))
  have f51 : Fld Z h45 a5 s6n "tail" "I" (.int 0) := ((p30_3.other W38 (Or.inl (Ne.symm P31))).other W45 (Or.inl (Ne.symm P31)))
  have f52 : Exa Z h45 a7 s7n := ((p30_4.wr W38).wr W45)
  have f53 : Arv Z h45 a7 k8 (.object s8n) (17 : Int32) ([.null, .null, .null, .null, .null, .null, .null, .null, .null, .null, .null, .null, .null, .null, .null, .null, .null]) .null := ((p30_5.other W38 (Ne.symm P32)).other W45 (Ne.symm P32))
  have f54 : Exa Z h45 a1 s4n := (f43.wr W45)
  have f55 : Fld Z h45 a1 s4n "generation" "J" (.long qg3) := (((((P1.keep K2q nin0).keep K15q (ninS ne3 nin0)).keep K30q (ninS P31 (ninS P32 (ninS ne3 nin0)))).other W38 (Or.inr (slot_ne (Or.inl (ow hw 129 rfl)) (Or.inl (ow hw 110 rfl)) (by decide) (t := .long) (t' := (.object s3n)) (by decide) (by decide)))).other W45 (Or.inr (slot_ne (Or.inl (ow hw 129 rfl)) (Or.inl (ow hw 51 rfl)) (by decide) (t := .long) (t' := .boolean) (by decide) (by decide))))
  have f56 : Fld Z h45 a1 s4n "holder" s9n .null := (Fw38.other W45 (Or.inr (slot_ne (Or.inl (ow hw 110 rfl)) (Or.inl (ow hw 51 rfl)) (by decide) (t := (.object s3n)) (t' := .boolean) (by decide) (by decide))))
  have f57 : Fld Z h45 a1 s4n s10n s0n (.ref wMAX_LOCK_DELAY) := (f40.other W45 (Or.inr (slot_ne (Or.inl (ow hw 32 rfl)) (Or.inl (ow hw 51 rfl)) (by decide) (t := (.object s1n)) (t' := .boolean) (by decide) (by decide))))
  have f58 : Fld Z h45 a1 s4n "waiters" s11n (.ref a5) := (((((P5.keep K2q nin0).keep K15q (ninS ne3 nin0)).keep K30q (ninS P31 (ninS P32 (ninS ne3 nin0)))).other W38 (Or.inr (slot_ne (Or.inr (ow hw 28 rfl)) (Or.inl (ow hw 110 rfl)) (by decide) (t := (.object s12n)) (t' := (.object s3n)) (by decide) (by decide)))).other W45 (Or.inr (slot_ne (Or.inr (ow hw 28 rfl)) (Or.inl (ow hw 51 rfl)) (by decide) (t := (.object s12n)) (t' := .boolean) (by decide) (by decide))))
  obtain ⟨fs, hr, hrun, hended, hW, hsame⟩ := X47.leave (v := some .null) (fun h => by rw [hret0] at h; cases h)
  refine ⟨_, _, pre0 _ ?_, hrun, hended, _, _, rfl, ?_, ⟨_, rfl⟩, hW, hsame.mono (by decide) (by decide)⟩
  · skip
    show Steps p.tables e below (s₁.setTop (mkF m 0 #[(vr a1), (vl q2), .second, (vi 1), .unset, .unset] [])) _
    refine XS.aloadN X0.here hx rfl (hb hby d7_0) rfl rfl ?_
    refine st1 _ ?_
    refine st2.trans ?_
    refine XS.astore X2.here hx rfl (hb hby d7_9) rfl rfl (l' := #[(vr a1), (vl q2), .second, (vi 1), (vr e1_2), .unset]) rfl ?_
    refine XS.aload X2.here hx rfl (hb hby d7_11) rfl rfl ?_
    refine st12.trans ?_
    refine XS.ifNo X12.here hx rfl (hb hby d7_18) rfl ((if0 _ _).trans (feq (by decide : ¬ ((1 : Int32) = (0 : Int32)))).1) ?_
    refine XS.aload X12.here hx rfl (hb hby d7_21) rfl rfl ?_
    show Steps p.tables e below (T12.setTop (mkF m 23 #[(vr a1), (vl q2), .second, (vi 1), (vr e1_2), .unset] [(.ref e1_2)])) _
    refine st15.trans ?_
    refine st18 _ ?_
    refine st20 _ ?_
    refine st22.trans ?_
    refine XS.lloadN X22.here hx rfl (hb hby d7_37) rfl ?_
    refine XS.lcmp X22.here hx rfl (hb hby d7_38) rfl ?_
    refine XS.ifNo X22.here hx rfl (hb hby d7_39) rfl ((if0 _ _).trans (teq ((lw_eq _ _).mpr P23 : (lcmpW q11 q2) = (0 : Int32))).2) ?_
    refine XS.aload X22.here hx rfl (hb hby d7_42) rfl rfl ?_
    show Steps p.tables e below (T22.setTop (mkF m 44 #[(vr a1), (vl q2), .second, (vi 1), (vr e1_2), .unset] [(.ref e1_2)])) _
    refine st30.trans ?_
    refine XS.goto X30.here hx rfl (pc0 := 49) (pc' := 11) rfl (hb hby d7_49) (by decide) (by decide) ?_
    refine XS.aload X30.here hx rfl (hb hby d7_11) rfl rfl ?_
    refine st32.trans ?_
    refine XS.ifYes X32.here hx rfl (pc0 := 18) (pc' := 52) rfl (hb hby d7_18) rfl ((if0 _ _).trans (teq (by decide : (0 : Int32) = (0 : Int32))).1) (by decide) (by decide) ?_
    refine XS.aconstNull X32.here hx rfl (hb hby d7_52) ?_
    refine XS.astore X32.here hx rfl (hb hby d7_53) rfl rfl (l' := #[(vr a1), (vl q2), .second, (vi 1), (vr e1_2), .val .null]) rfl ?_
    refine XS.aloadN X32.here hx rfl (hb hby d7_55) rfl rfl ?_
    show Steps p.tables e below (T32.setTop (mkF m 56 #[(vr a1), (vl q2), .second, (vi 1), (vr e1_2), .val .null] [(.ref a1)])) _
    refine XS.lloadN X32.here hx rfl (hb hby d7_56) rfl ?_
    refine st36.trans ?_
    refine XS.ifNo X36.here hx rfl (hb hby d7_60) rfl ((if0 _ _).trans (feq (by decide : ¬ ((1 : Int32) = (0 : Int32)))).1) ?_
    refine XS.aloadN X36.here hx rfl (hb hby d7_63) rfl rfl ?_
    refine XS.aconstNull X36.here hx rfl (hb hby d7_64) ?_
    refine st38 _ ?_
    refine XS.aloadN X38.here hx rfl (hb hby d7_68) rfl rfl ?_
    refine XS.iloadN X38.here hx rfl (hb hby d7_69) rfl ?_
    show Steps p.tables e below (T38.setTop (mkF m 70 #[(vr a1), (vl q2), .second, (vi 1), (vr e1_2), .val .null] [(.int 1), (.ref a1)])) _
    refine XS.ifNo X38.here hx rfl (hb hby d7_70) rfl ((if0 _ _).trans (feq (by decide : ¬ ((1 : Int32) = (0 : Int32)))).1) ?_
    refine XS.aloadN X38.here hx rfl (hb hby d7_73) rfl rfl ?_
    refine st41 _ ?_
    refine st42.trans ?_
    refine XS.ifNo X42.here hx rfl (hb hby d7_80) rfl ((if0 _ _).trans (teq (by decide : (0 : Int32) = (0 : Int32))).2) ?_
    refine XS.iconst X42.here hx rfl (hb hby d7_83) ?_
    refine XS.goto X42.here hx rfl (pc0 := 84) (pc' := 88) rfl (hb hby d7_84) (by decide) (by decide) ?_
    refine st45 _ ?_
    show Steps p.tables e below (T45.setTop (mkF m 91 #[(vr a1), (vl q2), .second, (vi 1), (vr e1_2), .val .null] [])) _
    refine XS.aloadN X45.here hx rfl (hb hby d7_91) rfl rfl ?_
    refine st47 _ ?_
    refine XS.ifNo X47.here hx rfl (hb hby d7_95) rfl ((if0 _ _).trans (feq (by decide : ¬ ((1 : Int32) = (0 : Int32)))).1) ?_
    refine XS.aconstNull X47.here hx rfl (hb hby d7_98) ?_
    refine XS.goto X47.here hx rfl (pc0 := 99) (pc' := 106) rfl (hb hby d7_99) (by decide) (by decide) ?_
    refine XS.astore X47.here hx rfl (hb hby d7_106) rfl rfl (l' := #[(vr a1), (vl q2), .second, (vi 1), (vr e1_2), .val .null]) rfl ?_
    refine XS.aload X47.here hx rfl (hb hby d7_108) rfl rfl ?_
    jvm_step X47.here [X47.here.top, hx, (hb hby d7_110), X47.method', hret0, Value.isRef, FieldType.isReference]
    first | (intro acts; rw [hr _ acts rfl rfl rfl]) | rw [hr _ _ rfl rfl rfl]
    exact Steps.refl _
  · show Q_au7_10 Z wMAX_LOCK_DELAY wGRANTED wQUEUED wZERO a1 q2 qg3 a4 a5 q6 a7 k8 a9 a10 q11 h0 n0 _ T47.heap _
    rw [e47]
    exact ⟨rfl, N45, K46, f48, f49, f50, f51, f52, f53, p30_6, f54, f55, Fw45, f56, f57, f58⟩
theorem ef_au7_11 (m : MethodId) (x0 : Addr) (x1 : Int64) (x2 : Int32)  : entryFrame m #[(.ref x0), (.long x1), (.int x2)] 6 = mkF m 0 #[(vr x0), (vl x1), .second, (vi x2), .unset, .unset] [] := by first | (simp [entryFrame, mkF, argsToLocals, Value.category]; done) | rfl
def Q_au7_11 (Z : State) (wMAX_LOCK_DELAY : Addr) (wGRANTED : Addr) (wQUEUED : Addr) (wZERO : Addr) (a1 : Addr) (q2 : Int64) (qg3 : Int64) (a4 : Addr) (a5 : Addr) (q6 : Int64) (a7 : Addr) (k8 : ClassId) (a9 : Addr) (a10 : Addr) (q11 : Int64) (h0 : Heap) (n0 : Nat) (v : Option Value) (h : Heap) (L : List Loc) : Prop := v = some .null ∧ Fr n0 L ∧ Keep h0 h [a1] ∧ Exa Z h a1 s4n ∧ Fld Z h a1 s4n "generation" "J" (.long qg3) ∧ Fld Z h a1 s4n "heldBack" "Z" (.int 1) ∧ Fld Z h a1 s4n "holder" s9n .null ∧ Fld Z h a1 s4n s10n s0n (.ref wMAX_LOCK_DELAY) ∧ Fld Z h a1 s4n "waiters" s11n (.ref a5)
theorem au7_11 (l : Launch) (Z : State) (a0 : Array Value) (hw : ∀ d ∈ tables_1, d.before a0 Z = true) (ws : List Jvm.Cond) (wMAX_LOCK_DELAY : Addr) (wGRANTED : Addr) (wQUEUED : Addr) (wZERO : Addr) (hS : SS Z wMAX_LOCK_DELAY wGRANTED wQUEUED wZERO) (a1 : Addr) (q2 : Int64) (qg3 : Int64) (a4 : Addr) (a5 : Addr) (q6 : Int64) (a7 : Addr) (k8 : ClassId) (a9 : Addr) (a10 : Addr) (q11 : Int64) (h0 : Heap) (n0 : Nat) (O0 : Old Z n0 h0) (P0 : Exa Z h0 a1 s4n) (P1 : Fld Z h0 a1 s4n "generation" "J" (.long qg3)) (P2 : Fld Z h0 a1 s4n "heldBack" "Z" (.int 0)) (P3 : Fld Z h0 a1 s4n "holder" s9n (.ref a4)) (P4 : Fld Z h0 a1 s4n s10n s0n (.ref wMAX_LOCK_DELAY)) (P5 : Fld Z h0 a1 s4n "waiters" s11n (.ref a5)) (P6 : Exa Z h0 a4 s3n) (P8 : Fld Z h0 a4 s3n "session" "J" (.long q6)) (P9 : Exa Z h0 a5 s6n) (P10 : Fld Z h0 a5 s6n "elements" s7n (.ref a7)) (P11 : Fld Z h0 a5 s6n "head" "I" (.int 0)) (P12 : Fld Z h0 a5 s6n "tail" "I" (.int 1)) (P13 : Arv Z h0 a7 k8 (.object s8n) (17 : Int32) ([(.ref a9), .null, .null, .null, .null, .null, .null, .null, .null, .null, .null, .null, .null, .null, .null, .null, .null]) .null) (P16 : Exa Z h0 a9 s15n) (P18 : Fld Z h0 a9 s15n "owner" s9n (.ref a10)) (P19 : Exa Z h0 a10 s3n) (P21 : Fld Z h0 a10 s3n "session" "J" (.long q11)) (P22 : q6 = q2) (P23 : q11 ≠ q2) (P24 : n0 ≤ a1) :
    MetB l M12 prog_84_method_14_code 6 (some (.object s3n)) ws (rmk 4 1 4 53) Z h0 #[(.ref a1), (.long q2), (.int 1)] (Q_au7_11 Z wMAX_LOCK_DELAY wGRANTED wQUEUED wZERO a1 q2 qg3 a4 a5 q6 a7 k8 a9 a10 q11 h0 n0) := by
  refine own_body (plainFor_of_name pn_com_example_umpired_umpired_server_NodeLock) ?_
  intro p e s m below meth c s₁ hx hby hml hown hnm hret0 hlk0 hZ X0 e0
  have N0 := Fr.nil n0
  have pre0 : ∀ t, Steps p.tables e below (s₁.setTop (mkF m 0 #[(vr a1), (vl q2), .second, (vi 1), .unset, .unset] [])) t → Steps p.tables e below (s₁.setTop (entryFrame m #[(.ref a1), (.long q2), (.int 1)] 6)) t := fun t k => castTop (ef_au7_11 m a1 q2 (1 : Int32)) k
  have K0 := Keep.refl h0 [a1]
  have hS0 := hS
  obtain ⟨S_wMAX_LOCK_DELAY, E_wMAX_LOCK_DELAY, S_wGRANTED, E_wGRANTED, S_wQUEUED, E_wQUEUED, F_seconds_wMAX_LOCK_DELAY, F_nanos_wMAX_LOCK_DELAY, S_wZERO, E_wZERO, F_seconds_wZERO, F_nanos_wZERO⟩ := hS0
  obtain ⟨T1, X1, e1, st1⟩ := getF X0 hx hZ hown (host := "") (Or.inl (ow hw 27 rfl)) Via.refl e0 P5 (g := (mkF m 1 #[(vr a1), (vl q2), .second, (vi 1), .unset, .unset] [(.ref a1)])) rfl rfl (hb hby d7_1)
  obtain ⟨cq2, kq2, q2a, q2b, q2c⟩ := isOf hZ e1 P9
  obtain ⟨_, _, ⟨T2, L2, k2, n2⟩, -, X2, ⟨Lc2, hQ2, l2, y2, z2⟩, st2⟩ := X1.interfaceBack hx (xi := M13) (y := M9) hown (mvT hZ (ow hw 57 rfl)) (mvT hZ (ow hw 58 rfl)) (mvT hZ (ow hw 59 rfl)) (mvT hZ (ow hw 60 rfl)) (mvT hZ (ow hw 61 rfl)) (mvT hZ (ow hw 62 rfl)) (mvT hZ (ow hw 63 rfl)) (mvT hZ (ow hw 64 rfl)) (by decide) (backOf (W := 0) (au8_1 l Z a0 hw [] wMAX_LOCK_DELAY wGRANTED wQUEUED wZERO hS a5 a7 k8 a9 a10 h0 n0 O0 P9 P10 P11 P12 P13 P16 P19) hZ (ow hw 65 rfl) (ow hw 12 rfl) (by decide) (by decide)) q2a q2b q2c (g := (mkF m 4 #[(vr a1), (vl q2), .second, (vi 1), .unset, .unset] [(.ref a5)])) rfl (by rw [hml]; rfl) (Steps.refl _) (argsL := []) (rest := []) (lenOf pd_6 rfl) rfl (by show 2 * 0 + _ ≤ _; exact Nat.le_of_eq rfl) (hb hby d7_4) (fun _ _ => ⟨rfl, e1, (by decide : 0 + 1 ≤ _), (by decide : 0 + 4 ≤ _)⟩)
  dsimp only [Pt.U, Pt.locs, Pt.cells, Pt.slots] at X2 l2 y2 z2 st2 hQ2
  subst l2 y2 z2
  obtain ⟨e1_2, rfl, Nq2, K2q, p2_0, p2_1, p2_2, p2_3, p2_4, p2_5⟩ := hQ2
  have N2 := Fr.app N0 Nq2
  have ne3 : a1 ≠ e1_2 := Nat.ne_of_lt (Nat.lt_of_lt_of_le P0.lt p2_0)
  have ne4 : a4 ≠ e1_2 := Nat.ne_of_lt (Nat.lt_of_lt_of_le P6.lt p2_0)
  have ne5 : a5 ≠ e1_2 := Nat.ne_of_lt (Nat.lt_of_lt_of_le P9.lt p2_0)
  have ne6 : a7 ≠ e1_2 := Nat.ne_of_lt (Nat.lt_of_lt_of_le P13.lt p2_0)
  have ne7 : a9 ≠ e1_2 := Nat.ne_of_lt (Nat.lt_of_lt_of_le P16.lt p2_0)
  have ne8 : a10 ≠ e1_2 := Nat.ne_of_lt (Nat.lt_of_lt_of_le P19.lt p2_0)
  have g9 : n0 ≤ e1_2 := Nat.le_trans (own_sz O0) p2_0
  have sz10 : h0.size ≤ e1_2 := Nat.le_trans K0.1 p2_0
  have O11 : Old Z n0 T2.heap := O0.keep K2q all0
  have K11 : Keep h0 T2.heap [a1] := K0.trans K2q all0
  obtain ⟨cq12, kq12, q12a, q12b, q12c⟩ := isOf hZ rfl p2_1
  obtain ⟨_, _, ⟨T12, L12, k12, n12⟩, -, X12, ⟨Lc12, hQ12, l12, y12, z12⟩, st12⟩ := X2.interfaceBack hx (xi := M14) (y := M10) hown (mvT hZ (ow hw 95 rfl)) (mvT hZ (ow hw 96 rfl)) (mvT hZ (ow hw 97 rfl)) (mvT hZ (ow hw 98 rfl)) (mvT hZ (ow hw 99 rfl)) (mvT hZ (ow hw 100 rfl)) (mvT hZ (ow hw 101 rfl)) (mvT hZ (ow hw 102 rfl)) (by decide) (backOf (W := 0) (au12_1 l Z a0 hw [] wMAX_LOCK_DELAY wGRANTED wQUEUED wZERO hS e1_2 T2.heap n0 O11 p2_4) hZ (ow hw 103 rfl) (ow hw 68 rfl) (by decide) (by decide)) q12a q12b q12c (g := (mkF m 13 #[(vr a1), (vl q2), .second, (vi 1), (vr e1_2), .unset] [(.ref e1_2)])) rfl (by rw [hml]; rfl) (Steps.refl _) (argsL := []) (rest := []) (lenOf pd_7 rfl) rfl (by show 2 * 0 + _ ≤ _; exact Nat.le_of_eq rfl) (hb hby d7_13) (fun _ _ => ⟨rfl, rfl, (by decide : 1 + 0 ≤ _), (by decide : 4 + 0 ≤ _)⟩)
  dsimp only [Pt.U, Pt.locs, Pt.cells, Pt.slots] at X12 l12 y12 z12 st12 hQ12
  subst l12 y12 z12
  obtain ⟨rfl, Nq12, K12q⟩ := hQ12
  have N12 := Fr.app N2 Nq12
  have f13 : Fld Z T2.heap a5 s6n "elements" s7n (.ref a7) := (P10.keep K2q nin0)
  have f14 : Arv Z T2.heap a7 k8 (.object s8n) (17 : Int32) ([(.ref a9), .null, .null, .null, .null, .null, .null, .null, .null, .null, .null, .null, .null, .null, .null, .null, .null]) .null := (P13.keep K2q nin0)
  obtain ⟨cq15, kq15, q15a, q15b, q15c⟩ := isOf hZ K12q p2_1
  obtain ⟨_, _, ⟨T15, L15, k15, n15⟩, -, X15, ⟨Lc15, hQ15, l15, y15, z15⟩, st15⟩ := X12.interfaceBack hx (xi := M36) (y := M31) hown (mvT hZ (ow hw 169 rfl)) (mvT hZ (ow hw 170 rfl)) (mvT hZ (ow hw 171 rfl)) (mvT hZ (ow hw 172 rfl)) (mvT hZ (ow hw 173 rfl)) (mvT hZ (ow hw 174 rfl)) (mvT hZ (ow hw 175 rfl)) (mvT hZ (ow hw 102 rfl)) (by decide) (backOf (W := 0) (au22_0 l Z a0 hw [] wMAX_LOCK_DELAY wGRANTED wQUEUED wZERO hS e1_2 a5 a7 k8 a9 T2.heap n0 O11 p2_1 p2_2 p2_3 p2_4 p2_5 f13 f14 g9 (Ne.symm ne6)) hZ (ow hw 176 rfl) (ow hw 68 rfl) (by decide) (by decide)) q15a q15b q15c (g := (mkF m 23 #[(vr a1), (vl q2), .second, (vi 1), (vr e1_2), .unset] [(.ref e1_2)])) rfl (by rw [hml]; rfl) (Steps.refl _) (argsL := []) (rest := []) (lenOf pd_14 rfl) rfl (by show 2 * 0 + _ ≤ _; exact Nat.le_of_eq rfl) (hb hby d7_23) (fun _ _ => ⟨rfl, K12q, (by decide : 1 + 0 ≤ _), (by decide : 4 + 0 ≤ _)⟩)
  dsimp only [Pt.U, Pt.locs, Pt.cells, Pt.slots] at X15 l15 y15 z15 st15 hQ15
  subst l15 y15 z15
  obtain ⟨rfl, Nq15, K15q, p15_0, p15_1, p15_2, p15_3, p15_4⟩ := hQ15
  have N15 := Fr.app N12 Nq15
  have O16 : Old Z n0 T15.heap := O11.keep K15q (allS g9 all0)
  have K16 : Keep h0 T15.heap [a1] := K11.trans K15q (allS (Or.inr sz10) all0)
  have f17 : Exa Z T15.heap a9 s15n := ((P16.keep K2q).keep K15q)
  obtain ⟨T18, X18, e18, st18⟩ := castY X15 hx hZ hown (ow hw 139 rfl) rfl (Ins.self f17) (g := (mkF m 28 #[(vr a1), (vl q2), .second, (vi 1), (vr e1_2), .unset] [(.ref a9)])) rfl rfl (hb hby d7_28)
  have f19 : Fld Z T15.heap a9 s15n "owner" s9n (.ref a10) := ((P18.keep K2q nin0).keep K15q (ninS ne7 nin0))
  obtain ⟨T20, X20, e20, st20⟩ := own_getR X18 hx hZ hown (ow hw 183 rfl) e18 f19 (g := (mkF m 31 #[(vr a1), (vl q2), .second, (vi 1), (vr e1_2), .unset] [(.ref a9)])) rfl rfl (hb hby d7_31)
  have f21 : Fld Z T15.heap a10 s3n "session" "J" (.long q11) := ((P21.keep K2q nin0).keep K15q (ninS ne8 nin0))
  have f23 : Exa Z T15.heap a10 s3n := ((P19.keep K2q).keep K15q)
  obtain ⟨cq22, kq22, q22a, q22b, q22c⟩ := isOf hZ e20 f23
  obtain ⟨_, _, ⟨T22, L22, k22, n22⟩, -, X22, ⟨Lc22, hQ22, l22, y22, z22⟩, st22⟩ := X20.virtualBack hx (y := M17) (z := M17) hown (mvT hZ (ow hw 184 rfl)) (mvT hZ (ow hw 185 rfl)) (notFace_of_selects (args := #[]) (mvT hZ (ow hw 187 rfl))) (mvT hZ (ow hw 187 rfl)) (mvT hZ (ow hw 186 rfl)) (by decide) (backOf (W := 0) (au24_0 l Z a0 hw [] wMAX_LOCK_DELAY wGRANTED wQUEUED wZERO hS a10 q11 T15.heap n0 O16 f21) hZ (ow hw 188 rfl) (ow hw 35 rfl) (by decide) (by decide)) q22a q22c (g := (mkF m 34 #[(vr a1), (vl q2), .second, (vi 1), (vr e1_2), .unset] [(.ref a10)])) rfl (by rw [hml]; rfl) (Steps.refl _) (argsL := []) (rest := []) (lenOf pd_12 rfl) rfl (by show 2 * 0 + _ ≤ _; exact Nat.le_of_eq rfl) (hb hby d7_34) (fun _ _ => ⟨rfl, e20, (by decide : 1 + 0 ≤ _), (by decide : 4 + 0 ≤ _)⟩)
  dsimp only [Pt.U, Pt.locs, Pt.cells, Pt.slots] at X22 l22 y22 z22 st22 hQ22
  subst l22 y22 z22
  obtain ⟨rfl, Nq22, K22q⟩ := hQ22
  have N22 := Fr.app N15 Nq22
  obtain ⟨cq24, kq24, q24a, q24b, q24c⟩ := isOf hZ K22q p15_0
  obtain ⟨_, _, ⟨T24, L24, k24, n24⟩, -, X24, ⟨Lc24, hQ24, l24, y24, z24⟩, st24⟩ := X22.interfaceBack hx (xi := M14) (y := M10) hown (mvT hZ (ow hw 95 rfl)) (mvT hZ (ow hw 96 rfl)) (mvT hZ (ow hw 97 rfl)) (mvT hZ (ow hw 98 rfl)) (mvT hZ (ow hw 99 rfl)) (mvT hZ (ow hw 100 rfl)) (mvT hZ (ow hw 101 rfl)) (mvT hZ (ow hw 102 rfl)) (by decide) (backOf (W := 0) (au12_0 l Z a0 hw [] wMAX_LOCK_DELAY wGRANTED wQUEUED wZERO hS e1_2 T15.heap n0 O16 p15_3) hZ (ow hw 103 rfl) (ow hw 68 rfl) (by decide) (by decide)) q24a q24b q24c (g := (mkF m 13 #[(vr a1), (vl q2), .second, (vi 1), (vr e1_2), .unset] [(.ref e1_2)])) rfl (by rw [hml]; rfl) (Steps.refl _) (argsL := []) (rest := []) (lenOf pd_7 rfl) rfl (by show 2 * 0 + _ ≤ _; exact Nat.le_of_eq rfl) (hb hby d7_13) (fun _ _ => ⟨rfl, K22q, (by decide : 1 + 0 ≤ _), (by decide : 4 + 0 ≤ _)⟩)
  dsimp only [Pt.U, Pt.locs, Pt.cells, Pt.slots] at X24 l24 y24 z24 st24 hQ24
  subst l24 y24 z24
  obtain ⟨rfl, Nq24, K24q⟩ := hQ24
  have N24 := Fr.app N22 Nq24
  have f25 : Fld Z T15.heap a1 s4n "holder" s9n (.ref a4) := ((P3.keep K2q nin0).keep K15q (ninS ne3 nin0))
  have f26 : Exa Z T15.heap a4 s3n := ((P6.keep K2q).keep K15q)
  have f27 : Fld Z T15.heap a4 s3n "session" "J" (.long q6) := ((P8.keep K2q nin0).keep K15q (ninS ne4 nin0))
  have f29 : Exa Z T15.heap a1 s4n := ((P0.keep K2q).keep K15q)
  obtain ⟨cq28, kq28, q28a, q28b, q28c⟩ := isOf hZ K24q f29
  obtain ⟨_, _, ⟨T28, L28, k28, n28⟩, -, X28, ⟨Lc28, hQ28, l28, y28, z28⟩, st28⟩ := X24.virtualBack hx (y := M11) (z := M11) hown (mvT hZ (ow hw 104 rfl)) (mvT hZ (ow hw 105 rfl)) (notFace_of_selects (args := #[]) (mvT hZ (ow hw 107 rfl))) (mvT hZ (ow hw 107 rfl)) (mvT hZ (ow hw 106 rfl)) (by decide) (backOf (W := 0) (au13_4 l Z a0 hw [] wMAX_LOCK_DELAY wGRANTED wQUEUED wZERO hS a1 q2 a4 q6 T15.heap n0 O16 f25 f26 f27 P22) hZ (ow hw 108 rfl) (ow hw 3 rfl) (by decide) (by decide)) q28a q28c (g := (mkF m 57 #[(vr a1), (vl q2), .second, (vi 1), (vr e1_2), .val .null] [(.long q2), (.ref a1)])) rfl (by rw [hml]; rfl) (Steps.refl _) (argsL := [(.long q2)]) (rest := []) (lenOf pd_2 rfl) rfl (by show 2 * 0 + _ ≤ _; exact Nat.le_of_eq rfl) (hb hby d7_57) (fun _ _ => ⟨rfl, K24q, (by decide : 1 + 0 ≤ _), (by decide : 4 + 0 ≤ _)⟩)
  dsimp only [Pt.U, Pt.locs, Pt.cells, Pt.slots] at X28 l28 y28 z28 st28 hQ28
  subst l28 y28 z28
  obtain ⟨rfl, Nq28, K28q⟩ := hQ28
  have N28 := Fr.app N24 Nq28
  obtain ⟨T30, h30, X30, e30, W30, st30⟩ := putF X28 hx hZ hown (host := "") (Or.inl (ow hw 109 rfl)) Via.refl K28q f25 f29 (Or.inl (ow hw 110 rfl)) (ow hw 2 rfl) (ty := (.object s3n)) (by decide) rfl rfl (g := (mkF m 65 #[(vr a1), (vl q2), .second, (vi 1), (vr e1_2), .val .null] [.null, (.ref a1)])) rfl rfl (hb hby d7_65)
  have N30 := Fr.snoc X30 N28 P24
  have O31 : Old Z n0 h30 := O16.wr W30 P24
  have K31 : Keep h0 h30 [a1] := K16.wr W30 (Or.inl (List.mem_of_getElem? (i := 0) rfl))
  have Fw30 : Fld Z h30 a1 s4n "holder" s9n .null := f25.same W30
  have f32 : Fld Z h30 a1 s4n s10n s0n (.ref wMAX_LOCK_DELAY) := (((P4.keep K2q nin0).keep K15q (ninS ne3 nin0)).other W30 (Or.inr (slot_ne (Or.inl (ow hw 32 rfl)) (Or.inl (ow hw 110 rfl)) (by decide) (t := (.object s1n)) (t' := (.object s3n)) (by decide) (by decide))))
  obtain ⟨T33, X33, e33, st33⟩ := getF X30 hx hZ hown (host := "") (Or.inl (ow hw 31 rfl)) Via.refl e30 f32 (g := (mkF m 74 #[(vr a1), (vl q2), .second, (vi 1), (vr e1_2), .val .null] [(.ref a1), (.ref a1)])) rfl rfl (hb hby d7_74)
  obtain ⟨cq34, kq34, q34a, q34b, q34c⟩ := isOf hZ e33 (E_wMAX_LOCK_DELAY.ext O31.2)
  obtain ⟨_, _, ⟨T34, L34, k34, n34⟩, -, X34, ⟨Lc34, hQ34, l34, y34, z34⟩, st34⟩ := X33.virtualBack hx (y := M23) (z := M23) hown (mvT hZ (ow hw 189 rfl)) (mvT hZ (ow hw 190 rfl)) (notFace_of_selects (args := #[]) (mvT hZ (ow hw 192 rfl))) (mvT hZ (ow hw 192 rfl)) (mvT hZ (ow hw 191 rfl)) (by decide) (backOf (W := 1) (au25_0 l Z a0 hw [] wMAX_LOCK_DELAY wGRANTED wQUEUED wZERO hS  h30 n0 O31 ) hZ (ow hw 193 rfl) (ow hw 30 rfl) (by decide) (by decide)) q34a q34c (g := (mkF m 77 #[(vr a1), (vl q2), .second, (vi 1), (vr e1_2), .val .null] [(.ref wMAX_LOCK_DELAY), (.ref a1)])) rfl (by rw [hml]; rfl) (Steps.refl _) (argsL := []) (rest := [(.ref a1)]) (lenOf pd_7 rfl) rfl (by show 2 * 0 + _ ≤ _; exact Nat.le_of_eq rfl) (hb hby d7_77) (fun _ _ => ⟨rfl, e33, (by decide : 1 + 0 ≤ _), (by decide : 4 + 0 ≤ _)⟩)
  dsimp only [Pt.U, Pt.locs, Pt.cells, Pt.slots] at X34 l34 y34 z34 st34 hQ34
  subst l34 y34 z34
  obtain ⟨rfl, Nq34, K34q⟩ := hQ34
  have N34 := Fr.app N30 Nq34
  have f35 : Exa Z h30 a1 s4n := (f29.wr W30)
  have f36 : Fld Z h30 a1 s4n "heldBack" "Z" (.int 0) := (((P2.keep K2q nin0).keep K15q (ninS ne3 nin0)).other W30 (Or.inr (slot_ne (Or.inl (ow hw 51 rfl)) (Or.inl (ow hw 110 rfl)) (by decide) (t := .boolean) (t' := (.object s3n)) (by decide) (by decide))))
  obtain ⟨T37, h37, X37, e37, W37, st37⟩ := putFN X34 hx hZ hown (ow hw 50 rfl) Via.refl K34q f36 f35 (Or.inl (ow hw 51 rfl)) (ow hw 2 rfl) (ty := .boolean) (v' := (.int 1)) (by decide) rfl rfl (g := (mkF m 88 #[(vr a1), (vl q2), .second, (vi 1), (vr e1_2), .val .null] [(.int 1), (.ref a1)])) rfl rfl (hb hby d7_88)
  have N37 := Fr.snoc X37 N34 P24
  have O38 : Old Z n0 h37 := O31.wr W37 P24
  have K38 : Keep h0 h37 [a1] := K31.wr W37 (Or.inl (List.mem_of_getElem? (i := 0) rfl))
  have Fw37 : Fld Z h37 a1 s4n "heldBack" "Z" (.int 1) := f36.same W37
  obtain ⟨T39, X39, e39, st39⟩ := getF X37 hx hZ hown (host := "") (Or.inl (ow hw 50 rfl)) Via.refl e37 Fw37 (g := (mkF m 92 #[(vr a1), (vl q2), .second, (vi 1), (vr e1_2), .val .null] [(.ref a1)])) rfl rfl (hb hby d7_92)
  have f40 : Exa Z h37 a1 s4n := (f35.wr W37)
  have f41 : Fld Z h37 a1 s4n "generation" "J" (.long qg3) := ((((P1.keep K2q nin0).keep K15q (ninS ne3 nin0)).other W30 (Or.inr (slot_ne (Or.inl (ow hw 129 rfl)) (Or.inl (ow hw 110 rfl)) (by decide) (t := .long) (t' := (.object s3n)) (by decide) (by decide)))).other W37 (Or.inr (slot_ne (Or.inl (ow hw 129 rfl)) (Or.inl (ow hw 51 rfl)) (by decide) (t := .long) (t' := .boolean) (by decide) (by decide))))
  have f42 : Fld Z h37 a1 s4n "holder" s9n .null := (Fw30.other W37 (Or.inr (slot_ne (Or.inl (ow hw 110 rfl)) (Or.inl (ow hw 51 rfl)) (by decide) (t := (.object s3n)) (t' := .boolean) (by decide) (by decide))))
  have f43 : Fld Z h37 a1 s4n s10n s0n (.ref wMAX_LOCK_DELAY) := (f32.other W37 (Or.inr (slot_ne (Or.inl (ow hw 32 rfl)) (Or.inl (ow hw 51 rfl)) (by decide) (t := (.object s1n)) (t' := .boolean) (by decide) (by decide))))
  have f44 : Fld Z h37 a1 s4n "waiters" s11n (.ref a5) := ((((P5.keep K2q nin0).keep K15q (ninS ne3 nin0)).other W30 (Or.inr (slot_ne (Or.inr (ow hw 28 rfl)) (Or.inl (ow hw 110 rfl)) (by decide) (t := (.object s12n)) (t' := (.object s3n)) (by decide) (by decide)))).other W37 (Or.inr (slot_ne (Or.inr (ow hw 28 rfl)) (Or.inl (ow hw 51 rfl)) (by decide) (t := (.object s12n)) (t' := .boolean) (by decide) (by decide))))
  obtain ⟨fs, hr, hrun, hended, hW, hsame⟩ := X39.leave (v := some .null) (fun h => by rw [hret0] at h; cases h)
  refine ⟨_, _, pre0 _ ?_, hrun, hended, _, _, rfl, ?_, ⟨_, rfl⟩, hW, hsame.mono (by decide) (by decide)⟩
  · skip
    show Steps p.tables e below (s₁.setTop (mkF m 0 #[(vr a1), (vl q2), .second, (vi 1), .unset, .unset] [])) _
    refine XS.aloadN X0.here hx rfl (hb hby d7_0) rfl rfl ?_
    refine st1 _ ?_
    refine st2.trans ?_
    refine XS.astore X2.here hx rfl (hb hby d7_9) rfl rfl (l' := #[(vr a1), (vl q2), .second, (vi 1), (vr e1_2), .unset]) rfl ?_
    refine XS.aload X2.here hx rfl (hb hby d7_11) rfl rfl ?_
    refine st12.trans ?_
    refine XS.ifNo X12.here hx rfl (hb hby d7_18) rfl ((if0 _ _).trans (feq (by decide : ¬ ((1 : Int32) = (0 : Int32)))).1) ?_
    refine XS.aload X12.here hx rfl (hb hby d7_21) rfl rfl ?_
    show Steps p.tables e below (T12.setTop (mkF m 23 #[(vr a1), (vl q2), .second, (vi 1), (vr e1_2), .unset] [(.ref e1_2)])) _
    refine st15.trans ?_
    refine st18 _ ?_
    refine st20 _ ?_
    refine st22.trans ?_
    refine XS.lloadN X22.here hx rfl (hb hby d7_37) rfl ?_
    refine XS.lcmp X22.here hx rfl (hb hby d7_38) rfl ?_
    refine XS.ifYes X22.here hx rfl (pc0 := 39) (pc' := 11) rfl (hb hby d7_39) rfl ((if0 _ _).trans (feq (fun z => P23 ((lw_eq _ _).mp z) : ¬ ((lcmpW q11 q2) = (0 : Int32)))).2) (by decide) (by decide) ?_
    refine XS.aload X22.here hx rfl (hb hby d7_11) rfl rfl ?_
    show Steps p.tables e below (T22.setTop (mkF m 13 #[(vr a1), (vl q2), .second, (vi 1), (vr e1_2), .unset] [(.ref e1_2)])) _
    refine st24.trans ?_
    refine XS.ifYes X24.here hx rfl (pc0 := 18) (pc' := 52) rfl (hb hby d7_18) rfl ((if0 _ _).trans (teq (by decide : (0 : Int32) = (0 : Int32))).1) (by decide) (by decide) ?_
    refine XS.aconstNull X24.here hx rfl (hb hby d7_52) ?_
    refine XS.astore X24.here hx rfl (hb hby d7_53) rfl rfl (l' := #[(vr a1), (vl q2), .second, (vi 1), (vr e1_2), .val .null]) rfl ?_
    refine XS.aloadN X24.here hx rfl (hb hby d7_55) rfl rfl ?_
    refine XS.lloadN X24.here hx rfl (hb hby d7_56) rfl ?_
    refine st28.trans ?_
    refine XS.ifNo X28.here hx rfl (hb hby d7_60) rfl ((if0 _ _).trans (feq (by decide : ¬ ((1 : Int32) = (0 : Int32)))).1) ?_
    show Steps p.tables e below (T28.setTop (mkF m 63 #[(vr a1), (vl q2), .second, (vi 1), (vr e1_2), .val .null] [])) _
    refine XS.aloadN X28.here hx rfl (hb hby d7_63) rfl rfl ?_
    refine XS.aconstNull X28.here hx rfl (hb hby d7_64) ?_
    refine st30 _ ?_
    refine XS.aloadN X30.here hx rfl (hb hby d7_68) rfl rfl ?_
    refine XS.iloadN X30.here hx rfl (hb hby d7_69) rfl ?_
    refine XS.ifNo X30.here hx rfl (hb hby d7_70) rfl ((if0 _ _).trans (feq (by decide : ¬ ((1 : Int32) = (0 : Int32)))).1) ?_
    refine XS.aloadN X30.here hx rfl (hb hby d7_73) rfl rfl ?_
    refine st33 _ ?_
    show Steps p.tables e below (T33.setTop (mkF m 77 #[(vr a1), (vl q2), .second, (vi 1), (vr e1_2), .val .null] [(.ref wMAX_LOCK_DELAY), (.ref a1)])) _
    refine st34.trans ?_
    refine XS.ifNo X34.here hx rfl (hb hby d7_80) rfl ((if0 _ _).trans (teq (by decide : (0 : Int32) = (0 : Int32))).2) ?_
    refine XS.iconst X34.here hx rfl (hb hby d7_83) ?_
    refine XS.goto X34.here hx rfl (pc0 := 84) (pc' := 88) rfl (hb hby d7_84) (by decide) (by decide) ?_
    refine st37 _ ?_
    refine XS.aloadN X37.here hx rfl (hb hby d7_91) rfl rfl ?_
    refine st39 _ ?_
    refine XS.ifNo X39.here hx rfl (hb hby d7_95) rfl ((if0 _ _).trans (feq (by decide : ¬ ((1 : Int32) = (0 : Int32)))).1) ?_
    show Steps p.tables e below (T39.setTop (mkF m 98 #[(vr a1), (vl q2), .second, (vi 1), (vr e1_2), .val .null] [])) _
    refine XS.aconstNull X39.here hx rfl (hb hby d7_98) ?_
    refine XS.goto X39.here hx rfl (pc0 := 99) (pc' := 106) rfl (hb hby d7_99) (by decide) (by decide) ?_
    refine XS.astore X39.here hx rfl (hb hby d7_106) rfl rfl (l' := #[(vr a1), (vl q2), .second, (vi 1), (vr e1_2), .val .null]) rfl ?_
    refine XS.aload X39.here hx rfl (hb hby d7_108) rfl rfl ?_
    jvm_step X39.here [X39.here.top, hx, (hb hby d7_110), X39.method', hret0, Value.isRef, FieldType.isReference]
    first | (intro acts; rw [hr _ acts rfl rfl rfl]) | rw [hr _ _ rfl rfl rfl]
    exact Steps.refl _
  · show Q_au7_11 Z wMAX_LOCK_DELAY wGRANTED wQUEUED wZERO a1 q2 qg3 a4 a5 q6 a7 k8 a9 a10 q11 h0 n0 _ T39.heap _
    rw [e39]
    exact ⟨rfl, N37, K38, f40, f41, Fw37, f42, f43, f44⟩
theorem ef_au7_12 (m : MethodId) (x0 : Addr) (x1 : Int64) (x2 : Int32)  : entryFrame m #[(.ref x0), (.long x1), (.int x2)] 6 = mkF m 0 #[(vr x0), (vl x1), .second, (vi x2), .unset, .unset] [] := by first | (simp [entryFrame, mkF, argsToLocals, Value.category]; done) | rfl
def Q_au7_12 (Z : State) (wMAX_LOCK_DELAY : Addr) (wGRANTED : Addr) (wQUEUED : Addr) (wZERO : Addr) (a1 : Addr) (q2 : Int64) (a4 : Addr) (a5 : Addr) (q6 : Int64) (a7 : Addr) (k8 : ClassId) (a9 : Addr) (a10 : Addr) (q11 : Int64) (h0 : Heap) (n0 : Nat) (v : Option Value) (h : Heap) (L : List Loc) : Prop := v = some .null ∧ Fr n0 L ∧ Keep h0 h [a5, a7] ∧ Exa Z h a5 s6n ∧ Fld Z h a5 s6n "elements" s7n (.ref a7) ∧ Fld Z h a5 s6n "head" "I" (.int 0) ∧ Fld Z h a5 s6n "tail" "I" (.int 0) ∧ Exa Z h a7 s7n ∧ Arv Z h a7 k8 (.object s8n) (17 : Int32) ([.null, .null, .null, .null, .null, .null, .null, .null, .null, .null, .null, .null, .null, .null, .null, .null, .null]) .null ∧ Ovr Z k8 s8n
theorem au7_12 (l : Launch) (Z : State) (a0 : Array Value) (hw : ∀ d ∈ tables_1, d.before a0 Z = true) (ws : List Jvm.Cond) (wMAX_LOCK_DELAY : Addr) (wGRANTED : Addr) (wQUEUED : Addr) (wZERO : Addr) (hS : SS Z wMAX_LOCK_DELAY wGRANTED wQUEUED wZERO) (a1 : Addr) (q2 : Int64) (a4 : Addr) (a5 : Addr) (q6 : Int64) (a7 : Addr) (k8 : ClassId) (a9 : Addr) (a10 : Addr) (q11 : Int64) (h0 : Heap) (n0 : Nat) (O0 : Old Z n0 h0) (P0 : Exa Z h0 a1 s4n) (P3 : Fld Z h0 a1 s4n "holder" s9n (.ref a4)) (P5 : Fld Z h0 a1 s4n "waiters" s11n (.ref a5)) (P6 : Exa Z h0 a4 s3n) (P8 : Fld Z h0 a4 s3n "session" "J" (.long q6)) (P9 : Exa Z h0 a5 s6n) (P10 : Fld Z h0 a5 s6n "elements" s7n (.ref a7)) (P11 : Fld Z h0 a5 s6n "head" "I" (.int 0)) (P12 : Fld Z h0 a5 s6n "tail" "I" (.int 1)) (P13 : Arv Z h0 a7 k8 (.object s8n) (17 : Int32) ([(.ref a9), .null, .null, .null, .null, .null, .null, .null, .null, .null, .null, .null, .null, .null, .null, .null, .null]) .null) (P14 : Ovr Z k8 s8n) (P15 : Exa Z h0 a7 s7n) (P16 : Exa Z h0 a9 s15n) (P18 : Fld Z h0 a9 s15n "owner" s9n (.ref a10)) (P19 : Exa Z h0 a10 s3n) (P21 : Fld Z h0 a10 s3n "session" "J" (.long q11)) (P22 : q6 ≠ q2) (P23 : q11 = q2) (P26 : n0 ≤ a5) (P27 : n0 ≤ a7) (P31 : a1 ≠ a5) (P32 : a1 ≠ a7) (P35 : a4 ≠ a5) (P36 : a4 ≠ a7) (P39 : a5 ≠ a7) :
    MetB l M12 prog_84_method_14_code 6 (some (.object s3n)) ws (rmk 4 1 4 53) Z h0 #[(.ref a1), (.long q2), (.int 1)] (Q_au7_12 Z wMAX_LOCK_DELAY wGRANTED wQUEUED wZERO a1 q2 a4 a5 q6 a7 k8 a9 a10 q11 h0 n0) := by
  refine own_body (plainFor_of_name pn_com_example_umpired_umpired_server_NodeLock) ?_
  intro p e s m below meth c s₁ hx hby hml hown hnm hret0 hlk0 hZ X0 e0
  have N0 := Fr.nil n0
  have pre0 : ∀ t, Steps p.tables e below (s₁.setTop (mkF m 0 #[(vr a1), (vl q2), .second, (vi 1), .unset, .unset] [])) t → Steps p.tables e below (s₁.setTop (entryFrame m #[(.ref a1), (.long q2), (.int 1)] 6)) t := fun t k => castTop (ef_au7_12 m a1 q2 (1 : Int32)) k
  have K0 := Keep.refl h0 [a5, a7]
  have hS0 := hS
  obtain ⟨S_wMAX_LOCK_DELAY, E_wMAX_LOCK_DELAY, S_wGRANTED, E_wGRANTED, S_wQUEUED, E_wQUEUED, F_seconds_wMAX_LOCK_DELAY, F_nanos_wMAX_LOCK_DELAY, S_wZERO, E_wZERO, F_seconds_wZERO, F_nanos_wZERO⟩ := hS0
  obtain ⟨T1, X1, e1, st1⟩ := getF X0 hx hZ hown (host := "") (Or.inl (ow hw 27 rfl)) Via.refl e0 P5 (g := (mkF m 1 #[(vr a1), (vl q2), .second, (vi 1), .unset, .unset] [(.ref a1)])) rfl rfl (hb hby d7_1)
  obtain ⟨cq2, kq2, q2a, q2b, q2c⟩ := isOf hZ e1 P9
  obtain ⟨_, _, ⟨T2, L2, k2, n2⟩, -, X2, ⟨Lc2, hQ2, l2, y2, z2⟩, st2⟩ := X1.interfaceBack hx (xi := M13) (y := M9) hown (mvT hZ (ow hw 57 rfl)) (mvT hZ (ow hw 58 rfl)) (mvT hZ (ow hw 59 rfl)) (mvT hZ (ow hw 60 rfl)) (mvT hZ (ow hw 61 rfl)) (mvT hZ (ow hw 62 rfl)) (mvT hZ (ow hw 63 rfl)) (mvT hZ (ow hw 64 rfl)) (by decide) (backOf (W := 0) (au8_1 l Z a0 hw [] wMAX_LOCK_DELAY wGRANTED wQUEUED wZERO hS a5 a7 k8 a9 a10 h0 n0 O0 P9 P10 P11 P12 P13 P16 P19) hZ (ow hw 65 rfl) (ow hw 12 rfl) (by decide) (by decide)) q2a q2b q2c (g := (mkF m 4 #[(vr a1), (vl q2), .second, (vi 1), .unset, .unset] [(.ref a5)])) rfl (by rw [hml]; rfl) (Steps.refl _) (argsL := []) (rest := []) (lenOf pd_6 rfl) rfl (by show 2 * 0 + _ ≤ _; exact Nat.le_of_eq rfl) (hb hby d7_4) (fun _ _ => ⟨rfl, e1, (by decide : 0 + 1 ≤ _), (by decide : 0 + 4 ≤ _)⟩)
  dsimp only [Pt.U, Pt.locs, Pt.cells, Pt.slots] at X2 l2 y2 z2 st2 hQ2
  subst l2 y2 z2
  obtain ⟨e1_2, rfl, Nq2, K2q, p2_0, p2_1, p2_2, p2_3, p2_4, p2_5⟩ := hQ2
  have N2 := Fr.app N0 Nq2
  have ne3 : a1 ≠ e1_2 := Nat.ne_of_lt (Nat.lt_of_lt_of_le P0.lt p2_0)
  have ne4 : a4 ≠ e1_2 := Nat.ne_of_lt (Nat.lt_of_lt_of_le P6.lt p2_0)
  have ne5 : a5 ≠ e1_2 := Nat.ne_of_lt (Nat.lt_of_lt_of_le P9.lt p2_0)
  have ne6 : a7 ≠ e1_2 := Nat.ne_of_lt (Nat.lt_of_lt_of_le P13.lt p2_0)
  have ne7 : a9 ≠ e1_2 := Nat.ne_of_lt (Nat.lt_of_lt_of_le P16.lt p2_0)
  have ne8 : a10 ≠ e1_2 := Nat.ne_of_lt (Nat.lt_of_lt_of_le P19.lt p2_0)
  have g9 : n0 ≤ e1_2 := Nat.le_trans (own_sz O0) p2_0
  have sz10 : h0.size ≤ e1_2 := Nat.le_trans K0.1 p2_0
  have O11 : Old Z n0 T2.heap := O0.keep K2q all0
  have K11 : Keep h0 T2.heap [a5, a7] := K0.trans K2q all0
  obtain ⟨cq12, kq12, q12a, q12b, q12c⟩ := isOf hZ rfl p2_1
  obtain ⟨_, _, ⟨T12, L12, k12, n12⟩, -, X12, ⟨Lc12, hQ12, l12, y12, z12⟩, st12⟩ := X2.interfaceBack hx (xi := M14) (y := M10) hown (mvT hZ (ow hw 95 rfl)) (mvT hZ (ow hw 96 rfl)) (mvT hZ (ow hw 97 rfl)) (mvT hZ (ow hw 98 rfl)) (mvT hZ (ow hw 99 rfl)) (mvT hZ (ow hw 100 rfl)) (mvT hZ (ow hw 101 rfl)) (mvT hZ (ow hw 102 rfl)) (by decide) (backOf (W := 0) (au12_1 l Z a0 hw [] wMAX_LOCK_DELAY wGRANTED wQUEUED wZERO hS e1_2 T2.heap n0 O11 p2_4) hZ (ow hw 103 rfl) (ow hw 68 rfl) (by decide) (by decide)) q12a q12b q12c (g := (mkF m 13 #[(vr a1), (vl q2), .second, (vi 1), (vr e1_2), .unset] [(.ref e1_2)])) rfl (by rw [hml]; rfl) (Steps.refl _) (argsL := []) (rest := []) (lenOf pd_7 rfl) rfl (by show 2 * 0 + _ ≤ _; exact Nat.le_of_eq rfl) (hb hby d7_13) (fun _ _ => ⟨rfl, rfl, (by decide : 1 + 0 ≤ _), (by decide : 4 + 0 ≤ _)⟩)
  dsimp only [Pt.U, Pt.locs, Pt.cells, Pt.slots] at X12 l12 y12 z12 st12 hQ12
  subst l12 y12 z12
  obtain ⟨rfl, Nq12, K12q⟩ := hQ12
  have N12 := Fr.app N2 Nq12
  have f13 : Fld Z T2.heap a5 s6n "elements" s7n (.ref a7) := (P10.keep K2q nin0)
  have f14 : Arv Z T2.heap a7 k8 (.object s8n) (17 : Int32) ([(.ref a9), .null, .null, .null, .null, .null, .null, .null, .null, .null, .null, .null, .null, .null, .null, .null, .null]) .null := (P13.keep K2q nin0)
  obtain ⟨cq15, kq15, q15a, q15b, q15c⟩ := isOf hZ K12q p2_1
  obtain ⟨_, _, ⟨T15, L15, k15, n15⟩, -, X15, ⟨Lc15, hQ15, l15, y15, z15⟩, st15⟩ := X12.interfaceBack hx (xi := M36) (y := M31) hown (mvT hZ (ow hw 169 rfl)) (mvT hZ (ow hw 170 rfl)) (mvT hZ (ow hw 171 rfl)) (mvT hZ (ow hw 172 rfl)) (mvT hZ (ow hw 173 rfl)) (mvT hZ (ow hw 174 rfl)) (mvT hZ (ow hw 175 rfl)) (mvT hZ (ow hw 102 rfl)) (by decide) (backOf (W := 0) (au22_0 l Z a0 hw [] wMAX_LOCK_DELAY wGRANTED wQUEUED wZERO hS e1_2 a5 a7 k8 a9 T2.heap n0 O11 p2_1 p2_2 p2_3 p2_4 p2_5 f13 f14 g9 (Ne.symm ne6)) hZ (ow hw 176 rfl) (ow hw 68 rfl) (by decide) (by decide)) q15a q15b q15c (g := (mkF m 23 #[(vr a1), (vl q2), .second, (vi 1), (vr e1_2), .unset] [(.ref e1_2)])) rfl (by rw [hml]; rfl) (Steps.refl _) (argsL := []) (rest := []) (lenOf pd_14 rfl) rfl (by show 2 * 0 + _ ≤ _; exact Nat.le_of_eq rfl) (hb hby d7_23) (fun _ _ => ⟨rfl, K12q, (by decide : 1 + 0 ≤ _), (by decide : 4 + 0 ≤ _)⟩)
  dsimp only [Pt.U, Pt.locs, Pt.cells, Pt.slots] at X15 l15 y15 z15 st15 hQ15
  subst l15 y15 z15
  obtain ⟨rfl, Nq15, K15q, p15_0, p15_1, p15_2, p15_3, p15_4⟩ := hQ15
  have N15 := Fr.app N12 Nq15
  have O16 : Old Z n0 T15.heap := O11.keep K15q (allS g9 all0)
  have K16 : Keep h0 T15.heap [a5, a7] := K11.trans K15q (allS (Or.inr sz10) all0)
  have f17 : Exa Z T15.heap a9 s15n := ((P16.keep K2q).keep K15q)
  obtain ⟨T18, X18, e18, st18⟩ := castY X15 hx hZ hown (ow hw 139 rfl) rfl (Ins.self f17) (g := (mkF m 28 #[(vr a1), (vl q2), .second, (vi 1), (vr e1_2), .unset] [(.ref a9)])) rfl rfl (hb hby d7_28)
  have f19 : Fld Z T15.heap a9 s15n "owner" s9n (.ref a10) := ((P18.keep K2q nin0).keep K15q (ninS ne7 nin0))
  obtain ⟨T20, X20, e20, st20⟩ := own_getR X18 hx hZ hown (ow hw 183 rfl) e18 f19 (g := (mkF m 31 #[(vr a1), (vl q2), .second, (vi 1), (vr e1_2), .unset] [(.ref a9)])) rfl rfl (hb hby d7_31)
  have f21 : Fld Z T15.heap a10 s3n "session" "J" (.long q11) := ((P21.keep K2q nin0).keep K15q (ninS ne8 nin0))
  have f23 : Exa Z T15.heap a10 s3n := ((P19.keep K2q).keep K15q)
  obtain ⟨cq22, kq22, q22a, q22b, q22c⟩ := isOf hZ e20 f23
  obtain ⟨_, _, ⟨T22, L22, k22, n22⟩, -, X22, ⟨Lc22, hQ22, l22, y22, z22⟩, st22⟩ := X20.virtualBack hx (y := M17) (z := M17) hown (mvT hZ (ow hw 184 rfl)) (mvT hZ (ow hw 185 rfl)) (notFace_of_selects (args := #[]) (mvT hZ (ow hw 187 rfl))) (mvT hZ (ow hw 187 rfl)) (mvT hZ (ow hw 186 rfl)) (by decide) (backOf (W := 0) (au24_0 l Z a0 hw [] wMAX_LOCK_DELAY wGRANTED wQUEUED wZERO hS a10 q11 T15.heap n0 O16 f21) hZ (ow hw 188 rfl) (ow hw 35 rfl) (by decide) (by decide)) q22a q22c (g := (mkF m 34 #[(vr a1), (vl q2), .second, (vi 1), (vr e1_2), .unset] [(.ref a10)])) rfl (by rw [hml]; rfl) (Steps.refl _) (argsL := []) (rest := []) (lenOf pd_12 rfl) rfl (by show 2 * 0 + _ ≤ _; exact Nat.le_of_eq rfl) (hb hby d7_34) (fun _ _ => ⟨rfl, e20, (by decide : 1 + 0 ≤ _), (by decide : 4 + 0 ≤ _)⟩)
  dsimp only [Pt.U, Pt.locs, Pt.cells, Pt.slots] at X22 l22 y22 z22 st22 hQ22
  subst l22 y22 z22
  obtain ⟨rfl, Nq22, K22q⟩ := hQ22
  have N22 := Fr.app N15 Nq22
  have f24 : Exa Z T15.heap a5 s6n := ((P9.keep K2q).keep K15q)
  have f25 : Fld Z T15.heap a5 s6n "elements" s7n (.ref a7) := (f13.keep K15q (ninS ne5 nin0))
  have f26 : Fld Z T15.heap a5 s6n "head" "I" (.int 0) := ((P11.keep K2q nin0).keep K15q (ninS ne5 nin0))
  have f27 : Fld Z T15.heap a5 s6n "tail" "I" (.int 1) := ((P12.keep K2q nin0).keep K15q (ninS ne5 nin0))
  have f28 : Arv Z T15.heap a7 k8 (.object s8n) (17 : Int32) ([(.ref a9), .null, .null, .null, .null, .null, .null, .null, .null, .null, .null, .null, .null, .null, .null, .null, .null]) .null := (f14.keep K15q (ninS ne6 nin0))
  have f29 : Exa Z T15.heap a7 s7n := ((P15.keep K2q).keep K15q)
  obtain ⟨cq30, kq30, q30a, q30b, q30c⟩ := isOf hZ K22q p15_0
  obtain ⟨_, _, ⟨T30, L30, k30, n30⟩, -, X30, ⟨Lc30, hQ30, l30, y30, z30⟩, st30⟩ := X22.interfaceBack hx (xi := M37) (y := M35) hown (mvT hZ (ow hw 198 rfl)) (mvT hZ (ow hw 199 rfl)) (mvT hZ (ow hw 200 rfl)) (mvT hZ (ow hw 201 rfl)) (mvT hZ (ow hw 202 rfl)) (mvT hZ (ow hw 203 rfl)) (mvT hZ (ow hw 204 rfl)) (mvT hZ (ow hw 102 rfl)) (by decide) (backOf (W := 0) (au26_0 l Z a0 hw [] wMAX_LOCK_DELAY wGRANTED wQUEUED wZERO hS e1_2 a5 a7 k8 a9 T15.heap n0 O16 p15_0 p15_1 p15_2 p15_3 p15_4 f24 f25 f26 f27 f28 P14 f29 g9 P26 P27 (Ne.symm ne5) (Ne.symm ne6) P39) hZ (ow hw 205 rfl) (ow hw 68 rfl) (by decide) (by decide)) q30a q30b q30c (g := (mkF m 44 #[(vr a1), (vl q2), .second, (vi 1), (vr e1_2), .unset] [(.ref e1_2)])) rfl (by rw [hml]; rfl) (Steps.refl _) (argsL := []) (rest := []) (lenOf pd_0 rfl) rfl (by show 2 * 0 + _ ≤ _; exact Nat.le_of_eq rfl) (hb hby d7_44) (fun _ _ => ⟨rfl, K22q, (by decide : 1 + 0 ≤ _), (by decide : 4 + 0 ≤ _)⟩)
  dsimp only [Pt.U, Pt.locs, Pt.cells, Pt.slots] at X30 l30 y30 z30 st30 hQ30
  subst l30 y30 z30
  obtain ⟨rfl, Nq30, K30q, p30_0, p30_1, p30_2, p30_3, p30_4, p30_5, p30_6, p30_7, p30_8, p30_9, p30_10, p30_11⟩ := hQ30
  have N30 := Fr.app N22 Nq30
  have O31 : Old Z n0 T30.heap := O16.keep K30q (allS P26 (allS P27 (allS g9 all0)))
  have K31 : Keep h0 T30.heap [a5, a7] := K16.trans K30q (allS (Or.inl (List.mem_of_getElem? (i := 0) rfl)) (allS (Or.inl (List.mem_of_getElem? (i := 1) rfl)) (allS (Or.inr sz10) all0)))
  obtain ⟨cq32, kq32, q32a, q32b, q32c⟩ := isOf hZ rfl p30_7
  obtain ⟨_, _, ⟨T32, L32, k32, n32⟩, -, X32, ⟨Lc32, hQ32, l32, y32, z32⟩, st32⟩ := X30.interfaceBack hx (xi := M14) (y := M10) hown (mvT hZ (ow hw 95 rfl)) (mvT hZ (ow hw 96 rfl)) (mvT hZ (ow hw 97 rfl)) (mvT hZ (ow hw 98 rfl)) (mvT hZ (ow hw 99 rfl)) (mvT hZ (ow hw 100 rfl)) (mvT hZ (ow hw 101 rfl)) (mvT hZ (ow hw 102 rfl)) (by decide) (backOf (W := 0) (au12_0 l Z a0 hw [] wMAX_LOCK_DELAY wGRANTED wQUEUED wZERO hS e1_2 T30.heap n0 O31 p30_10) hZ (ow hw 103 rfl) (ow hw 68 rfl) (by decide) (by decide)) q32a q32b q32c (g := (mkF m 13 #[(vr a1), (vl q2), .second, (vi 1), (vr e1_2), .unset] [(.ref e1_2)])) rfl (by rw [hml]; rfl) (Steps.refl _) (argsL := []) (rest := []) (lenOf pd_7 rfl) rfl (by show 2 * 0 + _ ≤ _; exact Nat.le_of_eq rfl) (hb hby d7_13) (fun _ _ => ⟨rfl, rfl, (by decide : 1 + 0 ≤ _), (by decide : 4 + 0 ≤ _)⟩)
  dsimp only [Pt.U, Pt.locs, Pt.cells, Pt.slots] at X32 l32 y32 z32 st32 hQ32
  subst l32 y32 z32
  obtain ⟨rfl, Nq32, K32q⟩ := hQ32
  have N32 := Fr.app N30 Nq32
  have f33 : Fld Z T30.heap a1 s4n "holder" s9n (.ref a4) := (((P3.keep K2q nin0).keep K15q (ninS ne3 nin0)).keep K30q (ninS P31 (ninS P32 (ninS ne3 nin0))))
  have f34 : Exa Z T30.heap a4 s3n := (((P6.keep K2q).keep K15q).keep K30q)
  have f35 : Fld Z T30.heap a4 s3n "session" "J" (.long q6) := (((P8.keep K2q nin0).keep K15q (ninS ne4 nin0)).keep K30q (ninS P35 (ninS P36 (ninS ne4 nin0))))
  have f37 : Exa Z T30.heap a1 s4n := (((P0.keep K2q).keep K15q).keep K30q)
  obtain ⟨cq36, kq36, q36a, q36b, q36c⟩ := isOf hZ K32q f37
  obtain ⟨_, _, ⟨T36, L36, k36, n36⟩, -, X36, ⟨Lc36, hQ36, l36, y36, z36⟩, st36⟩ := X32.virtualBack hx (y := M11) (z := M11) hown (mvT hZ (ow hw 104 rfl)) (mvT hZ (ow hw 105 rfl)) (notFace_of_selects (args := #[]) (mvT hZ (ow hw 107 rfl))) (mvT hZ (ow hw 107 rfl)) (mvT hZ (ow hw 106 rfl)) (by decide) (backOf (W := 0) (au13_5 l Z a0 hw [] wMAX_LOCK_DELAY wGRANTED wQUEUED wZERO hS a1 q2 a4 q6 T30.heap n0 O31 f33 f34 f35 P22) hZ (ow hw 108 rfl) (ow hw 3 rfl) (by decide) (by decide)) q36a q36c (g := (mkF m 57 #[(vr a1), (vl q2), .second, (vi 1), (vr e1_2), .val .null] [(.long q2), (.ref a1)])) rfl (by rw [hml]; rfl) (Steps.refl _) (argsL := [(.long q2)]) (rest := []) (lenOf pd_2 rfl) rfl (by show 2 * 0 + _ ≤ _; exact Nat.le_of_eq rfl) (hb hby d7_57) (fun _ _ => ⟨rfl, K32q, (by decide : 1 + 0 ≤ _), (by decide : 4 + 0 ≤ _)⟩)
  dsimp only [Pt.U, Pt.locs, Pt.cells, Pt.slots] at X36 l36 y36 z36 st36 hQ36
  subst l36 y36 z36
  obtain ⟨rfl, Nq36, K36q⟩ := hQ36
  have N36 := Fr.app N32 Nq36
  obtain ⟨fs, hr, hrun, hended, hW, hsame⟩ := X36.leave (v := some .null) (fun h => by rw [hret0] at h; cases h)
  refine ⟨_, _, pre0 _ ?_, hrun, hended, _, _, rfl, ?_, ⟨_, rfl⟩, hW, hsame.mono (by decide) (by decide)⟩
  · skip
    show Steps p.tables e below (s₁.setTop (mkF m 0 #[(vr a1), (vl q2), .second, (vi 1), .unset, .unset] [])) _
    refine XS.aloadN X0.here hx rfl (hb hby d7_0) rfl rfl ?_
    refine st1 _ ?_
    refine st2.trans ?_
    refine XS.astore X2.here hx rfl (hb hby d7_9) rfl rfl (l' := #[(vr a1), (vl q2), .second, (vi 1), (vr e1_2), .unset]) rfl ?_
    refine XS.aload X2.here hx rfl (hb hby d7_11) rfl rfl ?_
    refine st12.trans ?_
    refine XS.ifNo X12.here hx rfl (hb hby d7_18) rfl ((if0 _ _).trans (feq (by decide : ¬ ((1 : Int32) = (0 : Int32)))).1) ?_
    refine XS.aload X12.here hx rfl (hb hby d7_21) rfl rfl ?_
    show Steps p.tables e below (T12.setTop (mkF m 23 #[(vr a1), (vl q2), .second, (vi 1), (vr e1_2), .unset] [(.ref e1_2)])) _
    refine st15.trans ?_
    refine st18 _ ?_
    refine st20 _ ?_
    refine st22.trans ?_
    refine XS.lloadN X22.here hx rfl (hb hby d7_37) rfl ?_
    refine XS.lcmp X22.here hx rfl (hb hby d7_38) rfl ?_
    refine XS.ifNo X22.here hx rfl (hb hby d7_39) rfl ((if0 _ _).trans (teq ((lw_eq _ _).mpr P23 : (lcmpW q11 q2) = (0 : Int32))).2) ?_
    refine XS.aload X22.here hx rfl (hb hby d7_42) rfl rfl ?_
    show Steps p.tables e below (T22.setTop (mkF m 44 #[(vr a1), (vl q2), .second, (vi 1), (vr e1_2), .unset] [(.ref e1_2)])) _
    refine st30.trans ?_
    refine XS.goto X30.here hx rfl (pc0 := 49) (pc' := 11) rfl (hb hby d7_49) (by decide) (by decide) ?_
    refine XS.aload X30.here hx rfl (hb hby d7_11) rfl rfl ?_
    refine st32.trans ?_
    refine XS.ifYes X32.here hx rfl (pc0 := 18) (pc' := 52) rfl (hb hby d7_18) rfl ((if0 _ _).trans (teq (by decide : (0 : Int32) = (0 : Int32))).1) (by decide) (by decide) ?_
    refine XS.aconstNull X32.here hx rfl (hb hby d7_52) ?_
    refine XS.astore X32.here hx rfl (hb hby d7_53) rfl rfl (l' := #[(vr a1), (vl q2), .second, (vi 1), (vr e1_2), .val .null]) rfl ?_
    refine XS.aloadN X32.here hx rfl (hb hby d7_55) rfl rfl ?_
    show Steps p.tables e below (T32.setTop (mkF m 56 #[(vr a1), (vl q2), .second, (vi 1), (vr e1_2), .val .null] [(.ref a1)])) _
    refine XS.lloadN X32.here hx rfl (hb hby d7_56) rfl ?_
    refine st36.trans ?_
    refine XS.ifYes X36.here hx rfl (pc0 := 60) (pc' := 108) rfl (hb hby d7_60) rfl ((if0 _ _).trans (teq (by decide : (0 : Int32) = (0 : Int32))).1) (by decide) (by decide) ?_
    refine XS.aload X36.here hx rfl (hb hby d7_108) rfl rfl ?_
    jvm_step X36.here [X36.here.top, hx, (hb hby d7_110), X36.method', hret0, Value.isRef, FieldType.isReference]
    first | (intro acts; rw [hr _ acts rfl rfl rfl]) | rw [hr _ _ rfl rfl rfl]
    exact Steps.refl _
  · show Q_au7_12 Z wMAX_LOCK_DELAY wGRANTED wQUEUED wZERO a1 q2 a4 a5 q6 a7 k8 a9 a10 q11 h0 n0 _ T36.heap _
    rw [K36q]
    exact ⟨rfl, N36, K31, p30_0, p30_1, p30_2, p30_3, p30_4, p30_5, p30_6⟩
theorem ef_au7_13 (m : MethodId) (x0 : Addr) (x1 : Int64) (x2 : Int32)  : entryFrame m #[(.ref x0), (.long x1), (.int x2)] 6 = mkF m 0 #[(vr x0), (vl x1), .second, (vi x2), .unset, .unset] [] := by first | (simp [entryFrame, mkF, argsToLocals, Value.category]; done) | rfl
def Q_au7_13 (Z : State) (wMAX_LOCK_DELAY : Addr) (wGRANTED : Addr) (wQUEUED : Addr) (wZERO : Addr) (a1 : Addr) (q2 : Int64) (a4 : Addr) (a5 : Addr) (q6 : Int64) (a7 : Addr) (k8 : ClassId) (a9 : Addr) (a10 : Addr) (q11 : Int64) (h0 : Heap) (n0 : Nat) (v : Option Value) (h : Heap) (L : List Loc) : Prop := v = some .null ∧ Fr n0 L ∧ Keep h0 h []
theorem au7_13 (l : Launch) (Z : State) (a0 : Array Value) (hw : ∀ d ∈ tables_1, d.before a0 Z = true) (ws : List Jvm.Cond) (wMAX_LOCK_DELAY : Addr) (wGRANTED : Addr) (wQUEUED : Addr) (wZERO : Addr) (hS : SS Z wMAX_LOCK_DELAY wGRANTED wQUEUED wZERO) (a1 : Addr) (q2 : Int64) (a4 : Addr) (a5 : Addr) (q6 : Int64) (a7 : Addr) (k8 : ClassId) (a9 : Addr) (a10 : Addr) (q11 : Int64) (h0 : Heap) (n0 : Nat) (O0 : Old Z n0 h0) (P0 : Exa Z h0 a1 s4n) (P3 : Fld Z h0 a1 s4n "holder" s9n (.ref a4)) (P5 : Fld Z h0 a1 s4n "waiters" s11n (.ref a5)) (P6 : Exa Z h0 a4 s3n) (P8 : Fld Z h0 a4 s3n "session" "J" (.long q6)) (P9 : Exa Z h0 a5 s6n) (P10 : Fld Z h0 a5 s6n "elements" s7n (.ref a7)) (P11 : Fld Z h0 a5 s6n "head" "I" (.int 0)) (P12 : Fld Z h0 a5 s6n "tail" "I" (.int 1)) (P13 : Arv Z h0 a7 k8 (.object s8n) (17 : Int32) ([(.ref a9), .null, .null, .null, .null, .null, .null, .null, .null, .null, .null, .null, .null, .null, .null, .null, .null]) .null) (P16 : Exa Z h0 a9 s15n) (P18 : Fld Z h0 a9 s15n "owner" s9n (.ref a10)) (P19 : Exa Z h0 a10 s3n) (P21 : Fld Z h0 a10 s3n "session" "J" (.long q11)) (P22 : q6 ≠ q2) (P23 : q11 ≠ q2) :
    MetB l M12 prog_84_method_14_code 6 (some (.object s3n)) ws (rmk 4 1 4 53) Z h0 #[(.ref a1), (.long q2), (.int 1)] (Q_au7_13 Z wMAX_LOCK_DELAY wGRANTED wQUEUED wZERO a1 q2 a4 a5 q6 a7 k8 a9 a10 q11 h0 n0) := by
  refine own_body (plainFor_of_name pn_com_example_umpired_umpired_server_NodeLock) ?_
  intro p e s m below meth c s₁ hx hby hml hown hnm hret0 hlk0 hZ X0 e0
  have N0 := Fr.nil n0
  have pre0 : ∀ t, Steps p.tables e below (s₁.setTop (mkF m 0 #[(vr a1), (vl q2), .second, (vi 1), .unset, .unset] [])) t → Steps p.tables e below (s₁.setTop (entryFrame m #[(.ref a1), (.long q2), (.int 1)] 6)) t := fun t k => castTop (ef_au7_13 m a1 q2 (1 : Int32)) k
  have K0 := Keep.refl h0 []
  have hS0 := hS
  obtain ⟨S_wMAX_LOCK_DELAY, E_wMAX_LOCK_DELAY, S_wGRANTED, E_wGRANTED, S_wQUEUED, E_wQUEUED, F_seconds_wMAX_LOCK_DELAY, F_nanos_wMAX_LOCK_DELAY, S_wZERO, E_wZERO, F_seconds_wZERO, F_nanos_wZERO⟩ := hS0
  obtain ⟨T1, X1, e1, st1⟩ := getF X0 hx hZ hown (host := "") (Or.inl (ow hw 27 rfl)) Via.refl e0 P5 (g := (mkF m 1 #[(vr a1), (vl q2), .second, (vi 1), .unset, .unset] [(.ref a1)])) rfl rfl (hb hby d7_1)
  obtain ⟨cq2, kq2, q2a, q2b, q2c⟩ := isOf hZ e1 P9
  obtain ⟨_, _, ⟨T2, L2, k2, n2⟩, -, X2, ⟨Lc2, hQ2, l2, y2, z2⟩, st2⟩ := X1.interfaceBack hx (xi := M13) (y := M9) hown (mvT hZ (ow hw 57 rfl)) (mvT hZ (ow hw 58 rfl)) (mvT hZ (ow hw 59 rfl)) (mvT hZ (ow hw 60 rfl)) (mvT hZ (ow hw 61 rfl)) (mvT hZ (ow hw 62 rfl)) (mvT hZ (ow hw 63 rfl)) (mvT hZ (ow hw 64 rfl)) (by decide) (backOf (W := 0) (au8_1 l Z a0 hw [] wMAX_LOCK_DELAY wGRANTED wQUEUED wZERO hS a5 a7 k8 a9 a10 h0 n0 O0 P9 P10 P11 P12 P13 P16 P19) hZ (ow hw 65 rfl) (ow hw 12 rfl) (by decide) (by decide)) q2a q2b q2c (g := (mkF m 4 #[(vr a1), (vl q2), .second, (vi 1), .unset, .unset] [(.ref a5)])) rfl (by rw [hml]; rfl) (Steps.refl _) (argsL := []) (rest := []) (lenOf pd_6 rfl) rfl (by show 2 * 0 + _ ≤ _; exact Nat.le_of_eq rfl) (hb hby d7_4) (fun _ _ => ⟨rfl, e1, (by decide : 0 + 1 ≤ _), (by decide : 0 + 4 ≤ _)⟩)
  dsimp only [Pt.U, Pt.locs, Pt.cells, Pt.slots] at X2 l2 y2 z2 st2 hQ2
  subst l2 y2 z2
  obtain ⟨e1_2, rfl, Nq2, K2q, p2_0, p2_1, p2_2, p2_3, p2_4, p2_5⟩ := hQ2
  have N2 := Fr.app N0 Nq2
  have ne3 : a1 ≠ e1_2 := Nat.ne_of_lt (Nat.lt_of_lt_of_le P0.lt p2_0)
  have ne4 : a4 ≠ e1_2 := Nat.ne_of_lt (Nat.lt_of_lt_of_le P6.lt p2_0)
  have ne5 : a5 ≠ e1_2 := Nat.ne_of_lt (Nat.lt_of_lt_of_le P9.lt p2_0)
  have ne6 : a7 ≠ e1_2 := Nat.ne_of_lt (Nat.lt_of_lt_of_le P13.lt p2_0)
  have ne7 : a9 ≠ e1_2 := Nat.ne_of_lt (Nat.lt_of_lt_of_le P16.lt p2_0)
  have ne8 : a10 ≠ e1_2 := Nat.ne_of_lt (Nat.lt_of_lt_of_le P19.lt p2_0)
  have g9 : n0 ≤ e1_2 := Nat.le_trans (own_sz O0) p2_0
  have sz10 : h0.size ≤ e1_2 := Nat.le_trans K0.1 p2_0
  have O11 : Old Z n0 T2.heap := O0.keep K2q all0
  have K11 : Keep h0 T2.heap [] := K0.trans K2q all0
  obtain ⟨cq12, kq12, q12a, q12b, q12c⟩ := isOf hZ rfl p2_1
  obtain ⟨_, _, ⟨T12, L12, k12, n12⟩, -, X12, ⟨Lc12, hQ12, l12, y12, z12⟩, st12⟩ := X2.interfaceBack hx (xi := M14) (y := M10) hown (mvT hZ (ow hw 95 rfl)) (mvT hZ (ow hw 96 rfl)) (mvT hZ (ow hw 97 rfl)) (mvT hZ (ow hw 98 rfl)) (mvT hZ (ow hw 99 rfl)) (mvT hZ (ow hw 100 rfl)) (mvT hZ (ow hw 101 rfl)) (mvT hZ (ow hw 102 rfl)) (by decide) (backOf (W := 0) (au12_1 l Z a0 hw [] wMAX_LOCK_DELAY wGRANTED wQUEUED wZERO hS e1_2 T2.heap n0 O11 p2_4) hZ (ow hw 103 rfl) (ow hw 68 rfl) (by decide) (by decide)) q12a q12b q12c (g := (mkF m 13 #[(vr a1), (vl q2), .second, (vi 1), (vr e1_2), .unset] [(.ref e1_2)])) rfl (by rw [hml]; rfl) (Steps.refl _) (argsL := []) (rest := []) (lenOf pd_7 rfl) rfl (by show 2 * 0 + _ ≤ _; exact Nat.le_of_eq rfl) (hb hby d7_13) (fun _ _ => ⟨rfl, rfl, (by decide : 1 + 0 ≤ _), (by decide : 4 + 0 ≤ _)⟩)
  dsimp only [Pt.U, Pt.locs, Pt.cells, Pt.slots] at X12 l12 y12 z12 st12 hQ12
  subst l12 y12 z12
  obtain ⟨rfl, Nq12, K12q⟩ := hQ12
  have N12 := Fr.app N2 Nq12
  have f13 : Fld Z T2.heap a5 s6n "elements" s7n (.ref a7) := (P10.keep K2q nin0)
  have f14 : Arv Z T2.heap a7 k8 (.object s8n) (17 : Int32) ([(.ref a9), .null, .null, .null, .null, .null, .null, .null, .null, .null, .null, .null, .null, .null, .null, .null, .null]) .null := (P13.keep K2q nin0)
  obtain ⟨cq15, kq15, q15a, q15b, q15c⟩ := isOf hZ K12q p2_1
  obtain ⟨_, _, ⟨T15, L15, k15, n15⟩, -, X15, ⟨Lc15, hQ15, l15, y15, z15⟩, st15⟩ := X12.interfaceBack hx (xi := M36) (y := M31) hown (mvT hZ (ow hw 169 rfl)) (mvT hZ (ow hw 170 rfl)) (mvT hZ (ow hw 171 rfl)) (mvT hZ (ow hw 172 rfl)) (mvT hZ (ow hw 173 rfl)) (mvT hZ (ow hw 174 rfl)) (mvT hZ (ow hw 175 rfl)) (mvT hZ (ow hw 102 rfl)) (by decide) (backOf (W := 0) (au22_0 l Z a0 hw [] wMAX_LOCK_DELAY wGRANTED wQUEUED wZERO hS e1_2 a5 a7 k8 a9 T2.heap n0 O11 p2_1 p2_2 p2_3 p2_4 p2_5 f13 f14 g9 (Ne.symm ne6)) hZ (ow hw 176 rfl) (ow hw 68 rfl) (by decide) (by decide)) q15a q15b q15c (g := (mkF m 23 #[(vr a1), (vl q2), .second, (vi 1), (vr e1_2), .unset] [(.ref e1_2)])) rfl (by rw [hml]; rfl) (Steps.refl _) (argsL := []) (rest := []) (lenOf pd_14 rfl) rfl (by show 2 * 0 + _ ≤ _; exact Nat.le_of_eq rfl) (hb hby d7_23) (fun _ _ => ⟨rfl, K12q, (by decide : 1 + 0 ≤ _), (by decide : 4 + 0 ≤ _)⟩)
  dsimp only [Pt.U, Pt.locs, Pt.cells, Pt.slots] at X15 l15 y15 z15 st15 hQ15
  subst l15 y15 z15
  obtain ⟨rfl, Nq15, K15q, p15_0, p15_1, p15_2, p15_3, p15_4⟩ := hQ15
  have N15 := Fr.app N12 Nq15
  have O16 : Old Z n0 T15.heap := O11.keep K15q (allS g9 all0)
  have K16 : Keep h0 T15.heap [] := K11.trans K15q (allS (Or.inr sz10) all0)
  have f17 : Exa Z T15.heap a9 s15n := ((P16.keep K2q).keep K15q)
  obtain ⟨T18, X18, e18, st18⟩ := castY X15 hx hZ hown (ow hw 139 rfl) rfl (Ins.self f17) (g := (mkF m 28 #[(vr a1), (vl q2), .second, (vi 1), (vr e1_2), .unset] [(.ref a9)])) rfl rfl (hb hby d7_28)
  have f19 : Fld Z T15.heap a9 s15n "owner" s9n (.ref a10) := ((P18.keep K2q nin0).keep K15q (ninS ne7 nin0))
  obtain ⟨T20, X20, e20, st20⟩ := own_getR X18 hx hZ hown (ow hw 183 rfl) e18 f19 (g := (mkF m 31 #[(vr a1), (vl q2), .second, (vi 1), (vr e1_2), .unset] [(.ref a9)])) rfl rfl (hb hby d7_31)
  have f21 : Fld Z T15.heap a10 s3n "session" "J" (.long q11) := ((P21.keep K2q nin0).keep K15q (ninS ne8 nin0))
  have f23 : Exa Z T15.heap a10 s3n := ((P19.keep K2q).keep K15q)
  obtain ⟨cq22, kq22, q22a, q22b, q22c⟩ := isOf hZ e20 f23
  obtain ⟨_, _, ⟨T22, L22, k22, n22⟩, -, X22, ⟨Lc22, hQ22, l22, y22, z22⟩, st22⟩ := X20.virtualBack hx (y := M17) (z := M17) hown (mvT hZ (ow hw 184 rfl)) (mvT hZ (ow hw 185 rfl)) (notFace_of_selects (args := #[]) (mvT hZ (ow hw 187 rfl))) (mvT hZ (ow hw 187 rfl)) (mvT hZ (ow hw 186 rfl)) (by decide) (backOf (W := 0) (au24_0 l Z a0 hw [] wMAX_LOCK_DELAY wGRANTED wQUEUED wZERO hS a10 q11 T15.heap n0 O16 f21) hZ (ow hw 188 rfl) (ow hw 35 rfl) (by decide) (by decide)) q22a q22c (g := (mkF m 34 #[(vr a1), (vl q2), .second, (vi 1), (vr e1_2), .unset] [(.ref a10)])) rfl (by rw [hml]; rfl) (Steps.refl _) (argsL := []) (rest := []) (lenOf pd_12 rfl) rfl (by show 2 * 0 + _ ≤ _; exact Nat.le_of_eq rfl) (hb hby d7_34) (fun _ _ => ⟨rfl, e20, (by decide : 1 + 0 ≤ _), (by decide : 4 + 0 ≤ _)⟩)
  dsimp only [Pt.U, Pt.locs, Pt.cells, Pt.slots] at X22 l22 y22 z22 st22 hQ22
  subst l22 y22 z22
  obtain ⟨rfl, Nq22, K22q⟩ := hQ22
  have N22 := Fr.app N15 Nq22
  obtain ⟨cq24, kq24, q24a, q24b, q24c⟩ := isOf hZ K22q p15_0
  obtain ⟨_, _, ⟨T24, L24, k24, n24⟩, -, X24, ⟨Lc24, hQ24, l24, y24, z24⟩, st24⟩ := X22.interfaceBack hx (xi := M14) (y := M10) hown (mvT hZ (ow hw 95 rfl)) (mvT hZ (ow hw 96 rfl)) (mvT hZ (ow hw 97 rfl)) (mvT hZ (ow hw 98 rfl)) (mvT hZ (ow hw 99 rfl)) (mvT hZ (ow hw 100 rfl)) (mvT hZ (ow hw 101 rfl)) (mvT hZ (ow hw 102 rfl)) (by decide) (backOf (W := 0) (au12_0 l Z a0 hw [] wMAX_LOCK_DELAY wGRANTED wQUEUED wZERO hS e1_2 T15.heap n0 O16 p15_3) hZ (ow hw 103 rfl) (ow hw 68 rfl) (by decide) (by decide)) q24a q24b q24c (g := (mkF m 13 #[(vr a1), (vl q2), .second, (vi 1), (vr e1_2), .unset] [(.ref e1_2)])) rfl (by rw [hml]; rfl) (Steps.refl _) (argsL := []) (rest := []) (lenOf pd_7 rfl) rfl (by show 2 * 0 + _ ≤ _; exact Nat.le_of_eq rfl) (hb hby d7_13) (fun _ _ => ⟨rfl, K22q, (by decide : 1 + 0 ≤ _), (by decide : 4 + 0 ≤ _)⟩)
  dsimp only [Pt.U, Pt.locs, Pt.cells, Pt.slots] at X24 l24 y24 z24 st24 hQ24
  subst l24 y24 z24
  obtain ⟨rfl, Nq24, K24q⟩ := hQ24
  have N24 := Fr.app N22 Nq24
  have f25 : Fld Z T15.heap a1 s4n "holder" s9n (.ref a4) := ((P3.keep K2q nin0).keep K15q (ninS ne3 nin0))
  have f26 : Exa Z T15.heap a4 s3n := ((P6.keep K2q).keep K15q)
  have f27 : Fld Z T15.heap a4 s3n "session" "J" (.long q6) := ((P8.keep K2q nin0).keep K15q (ninS ne4 nin0))
  have f29 : Exa Z T15.heap a1 s4n := ((P0.keep K2q).keep K15q)
  obtain ⟨cq28, kq28, q28a, q28b, q28c⟩ := isOf hZ K24q f29
  obtain ⟨_, _, ⟨T28, L28, k28, n28⟩, -, X28, ⟨Lc28, hQ28, l28, y28, z28⟩, st28⟩ := X24.virtualBack hx (y := M11) (z := M11) hown (mvT hZ (ow hw 104 rfl)) (mvT hZ (ow hw 105 rfl)) (notFace_of_selects (args := #[]) (mvT hZ (ow hw 107 rfl))) (mvT hZ (ow hw 107 rfl)) (mvT hZ (ow hw 106 rfl)) (by decide) (backOf (W := 0) (au13_6 l Z a0 hw [] wMAX_LOCK_DELAY wGRANTED wQUEUED wZERO hS a1 q2 a4 q6 T15.heap n0 O16 f25 f26 f27 P22) hZ (ow hw 108 rfl) (ow hw 3 rfl) (by decide) (by decide)) q28a q28c (g := (mkF m 57 #[(vr a1), (vl q2), .second, (vi 1), (vr e1_2), .val .null] [(.long q2), (.ref a1)])) rfl (by rw [hml]; rfl) (Steps.refl _) (argsL := [(.long q2)]) (rest := []) (lenOf pd_2 rfl) rfl (by show 2 * 0 + _ ≤ _; exact Nat.le_of_eq rfl) (hb hby d7_57) (fun _ _ => ⟨rfl, K24q, (by decide : 1 + 0 ≤ _), (by decide : 4 + 0 ≤ _)⟩)
  dsimp only [Pt.U, Pt.locs, Pt.cells, Pt.slots] at X28 l28 y28 z28 st28 hQ28
  subst l28 y28 z28
  obtain ⟨rfl, Nq28, K28q⟩ := hQ28
  have N28 := Fr.app N24 Nq28
  obtain ⟨fs, hr, hrun, hended, hW, hsame⟩ := X28.leave (v := some .null) (fun h => by rw [hret0] at h; cases h)
  refine ⟨_, _, pre0 _ ?_, hrun, hended, _, _, rfl, ?_, ⟨_, rfl⟩, hW, hsame.mono (by decide) (by decide)⟩
  · skip
    show Steps p.tables e below (s₁.setTop (mkF m 0 #[(vr a1), (vl q2), .second, (vi 1), .unset, .unset] [])) _
    refine XS.aloadN X0.here hx rfl (hb hby d7_0) rfl rfl ?_
    refine st1 _ ?_
    refine st2.trans ?_
    refine XS.astore X2.here hx rfl (hb hby d7_9) rfl rfl (l' := #[(vr a1), (vl q2), .second, (vi 1), (vr e1_2), .unset]) rfl ?_
    refine XS.aload X2.here hx rfl (hb hby d7_11) rfl rfl ?_
    refine st12.trans ?_
    refine XS.ifNo X12.here hx rfl (hb hby d7_18) rfl ((if0 _ _).trans (feq (by decide : ¬ ((1 : Int32) = (0 : Int32)))).1) ?_
    refine XS.aload X12.here hx rfl (hb hby d7_21) rfl rfl ?_
    show Steps p.tables e below (T12.setTop (mkF m 23 #[(vr a1), (vl q2), .second, (vi 1), (vr e1_2), .unset] [(.ref e1_2)])) _
    refine st15.trans ?_
    refine st18 _ ?_
    refine st20 _ ?_
    refine st22.trans ?_
    refine XS.lloadN X22.here hx rfl (hb hby d7_37) rfl ?_
    refine XS.lcmp X22.here hx rfl (hb hby d7_38) rfl ?_
    refine XS.ifYes X22.here hx rfl (pc0 := 39) (pc' := 11) rfl (hb hby d7_39) rfl ((if0 _ _).trans (feq (fun z => P23 ((lw_eq _ _).mp z) : ¬ ((lcmpW q11 q2) = (0 : Int32)))).2) (by decide) (by decide) ?_
    refine XS.aload X22.here hx rfl (hb hby d7_11) rfl rfl ?_
    show Steps p.tables e below (T22.setTop (mkF m 13 #[(vr a1), (vl q2), .second, (vi 1), (vr e1_2), .unset] [(.ref e1_2)])) _
    refine st24.trans ?_
    refine XS.ifYes X24.here hx rfl (pc0 := 18) (pc' := 52) rfl (hb hby d7_18) rfl ((if0 _ _).trans (teq (by decide : (0 : Int32) = (0 : Int32))).1) (by decide) (by decide) ?_
    refine XS.aconstNull X24.here hx rfl (hb hby d7_52) ?_
    refine XS.astore X24.here hx rfl (hb hby d7_53) rfl rfl (l' := #[(vr a1), (vl q2), .second, (vi 1), (vr e1_2), .val .null]) rfl ?_
    refine XS.aloadN X24.here hx rfl (hb hby d7_55) rfl rfl ?_
    refine XS.lloadN X24.here hx rfl (hb hby d7_56) rfl ?_
    refine st28.trans ?_
    refine XS.ifYes X28.here hx rfl (pc0 := 60) (pc' := 108) rfl (hb hby d7_60) rfl ((if0 _ _).trans (teq (by decide : (0 : Int32) = (0 : Int32))).1) (by decide) (by decide) ?_
    show Steps p.tables e below (T28.setTop (mkF m 108 #[(vr a1), (vl q2), .second, (vi 1), (vr e1_2), .val .null] [])) _
    refine XS.aload X28.here hx rfl (hb hby d7_108) rfl rfl ?_
    jvm_step X28.here [X28.here.top, hx, (hb hby d7_110), X28.method', hret0, Value.isRef, FieldType.isReference]
    first | (intro acts; rw [hr _ acts rfl rfl rfl]) | rw [hr _ _ rfl rfl rfl]
    exact Steps.refl _
  · show Q_au7_13 Z wMAX_LOCK_DELAY wGRANTED wQUEUED wZERO a1 q2 a4 a5 q6 a7 k8 a9 a10 q11 h0 n0 _ T28.heap _
    rw [K28q]
    exact ⟨rfl, N28, K16⟩
theorem tl_tl_rm0_a_w_40 {p : Program} {l : Launch} {e : Env} {s : State} {m : MethodId} {below : List Frame} {meth : Method} {c : Code} {T0 : State} {locs : List Loc} {Z : State} {a0 : Array Value} {h0 : Heap} {n0 : Nat} {margs : Array Value} (hw : ∀ d ∈ tables_1, d.before a0 Z = true) (wMAX_LOCK_DELAY : Addr) (wGRANTED : Addr) (wQUEUED : Addr) (wZERO : Addr) (hS : SS Z wMAX_LOCK_DELAY wGRANTED wQUEUED wZERO) (p1 : Int32) (q2 : Int64) (q3 : Int64) (q4 : Int64) (p5 : Int32) (p6 : Int32) (p7 : Int32) (p8 : Int32) (q9 : Int64) (q10 : Int64) (q11 : Int64) (a12 : Addr) (a13 : Addr) (a14 : Addr) (a15 : Addr) (a16 : Addr) (k17 : ClassId) (a18 : Addr)
    (X0 : Stand p l e room_1 s m margs below meth c T0 locs 7 35) (hx : p.tables.exec = Jvm.exec) (hZ : Z.Warmed39 s.vm) (hby : c.code = code) (hml : c.maxLocals = 33) (hown : s.vm.findClass s5n = some m.cls) (hnm : meth.name = "law") (hret0 : meth.sig.returnType = some .boolean) (hlk0 : meth.locks = false) (e0 : T0.heap = h0) (N0 : Fr n0 locs) (O0 : Old Z n0 h0) (P0 : Exa Z h0 a12 s4n) (P1 : Fld Z h0 a12 s4n "generation" "J" (.long 1)) (P2 : Fld Z h0 a12 s4n "heldBack" "Z" (.int 0)) (P3 : Fld Z h0 a12 s4n "holder" s9n (.ref a13)) (P4 : Fld Z h0 a12 s4n s10n s0n (.ref wMAX_LOCK_DELAY)) (P5 : Fld Z h0 a12 s4n "waiters" s11n (.ref a15)) (P6 : Exa Z h0 a13 s3n) (P8 : Fld Z h0 a13 s3n "session" "J" (.long q2)) (P9 : Exa Z h0 a14 s3n) (P11 : Fld Z h0 a14 s3n "session" "J" (.long q9)) (P12 : Exa Z h0 a15 s6n) (P13 : Fld Z h0 a15 s6n "elements" s7n (.ref a16)) (P14 : Fld Z h0 a15 s6n "head" "I" (.int 0)) (P15 : Fld Z h0 a15 s6n "tail" "I" (.int 1)) (P16 : Arv Z h0 a16 k17 (.object s8n) (17 : Int32) ([(.ref a18), .null, .null, .null, .null, .null, .null, .null, .null, .null, .null, .null, .null, .null, .null, .null, .null]) .null) (P17 : Ovr Z k17 s8n) (P18 : Exa Z h0 a16 s7n) (P19 : Exa Z h0 a18 s15n) (P20 : Fld Z h0 a18 s15n "lockDelay" s0n (.ref wMAX_LOCK_DELAY)) (P21 : Fld Z h0 a18 s15n "owner" s9n (.ref a14)) (P29 : p5 = (0 : Int32) ∨ p5 = (1 : Int32)) (P30 : n0 ≤ a12) (P33 : n0 ≤ a15) (P34 : n0 ≤ a16) (P38 : a12 ≠ a15) (P39 : a12 ≠ a16) (P40 : a12 ≠ a18) (P42 : a13 ≠ a15) (P43 : a13 ≠ a16) (P48 : a15 ≠ a16) (P49 : a15 ≠ a18) (P50 : a16 ≠ a18) :
    ∃ s₂ o, Steps p.tables e below (T0.setTop (mkF m 192 #[(vi p1), (vl q2), .second, (vl q3), .second, (vl q4), .second, (vi 1), (vi 1), (vi p5), (vi p6), (vi p7), (vi p8), (vl q9), .second, (vl q10), .second, (vl q11), .second, (vr a12), (vr a13), (vr a14), .unset, .unset, .unset, .unset, .unset, .unset, .unset, .unset, .unset, .unset, .unset] [])) s₂ ∧ s₂.status = .running ∧ Ended s₂ below o ∧ ∃ v L, o = .returned v ∧ (v = some (.int 1) ∧ Fr n0 L) ∧ FrameEnd s o s₂ L room_1.cells room_1.slots := by
  have pre0 : ∀ t, Steps p.tables e below (T0.setTop (mkF m 192 #[(vi p1), (vl q2), .second, (vl q3), .second, (vl q4), .second, (vi 1), (vi 1), (vi p5), (vi p6), (vi p7), (vi p8), (vl q9), .second, (vl q10), .second, (vl q11), .second, (vr a12), (vr a13), (vr a14), .unset, .unset, .unset, .unset, .unset, .unset, .unset, .unset, .unset, .unset, .unset] [])) t → Steps p.tables e below (T0.setTop (mkF m 192 #[(vi p1), (vl q2), .second, (vl q3), .second, (vl q4), .second, (vi 1), (vi 1), (vi p5), (vi p6), (vi p7), (vi p8), (vl q9), .second, (vl q10), .second, (vl q11), .second, (vr a12), (vr a13), (vr a14), .unset, .unset, .unset, .unset, .unset, .unset, .unset, .unset, .unset, .unset, .unset] [])) t := fun t k => k
  have hS0 := hS
  obtain ⟨S_wMAX_LOCK_DELAY, E_wMAX_LOCK_DELAY, S_wGRANTED, E_wGRANTED, S_wQUEUED, E_wQUEUED, F_seconds_wMAX_LOCK_DELAY, F_nanos_wMAX_LOCK_DELAY, S_wZERO, E_wZERO, F_seconds_wZERO, F_nanos_wZERO⟩ := hS0
  obtain ⟨cq1, kq1, q1a, q1b, q1c⟩ := isOf hZ e0 P0
  obtain ⟨_, _, ⟨T1, L1, k1, n1⟩, -, X1, ⟨Lc1, hQ1, l1, y1, z1⟩, st1⟩ := X0.virtualBack hx (y := M1) (z := M1) hown (mvT hZ (ow hw 45 rfl)) (mvT hZ (ow hw 46 rfl)) (notFace_of_selects (args := #[]) (mvT hZ (ow hw 48 rfl))) (mvT hZ (ow hw 48 rfl)) (mvT hZ (ow hw 47 rfl)) (by decide) (backOf (W := 0) (rmHB0 l Z a0 hw [] wMAX_LOCK_DELAY wGRANTED wQUEUED wZERO hS a12 q11 h0 n0 O0 P2) hZ (ow hw 49 rfl) (ow hw 3 rfl) (by decide) (by decide)) q1a q1c (g := (mkF m 196 #[(vi p1), (vl q2), .second, (vl q3), .second, (vl q4), .second, (vi 1), (vi 1), (vi p5), (vi p6), (vi p7), (vi p8), (vl q9), .second, (vl q10), .second, (vl q11), .second, (vr a12), (vr a13), (vr a14), .unset, .unset, .unset, .unset, .unset, .unset, .unset, .unset, .unset, .unset, .unset] [(.long q11), (.ref a12)])) rfl (by rw [hml]; rfl) (Steps.refl _) (argsL := [(.long q11)]) (rest := []) (lenOf pd_2 rfl) rfl (by show 2 * 0 + _ ≤ _; exact Nat.le_of_eq rfl) (hb hby at_196) (fun _ _ => ⟨rfl, e0, (by decide : 7 + 0 ≤ _), (by decide : 35 + 0 ≤ _)⟩)
  dsimp only [Pt.U, Pt.locs, Pt.cells, Pt.slots] at X1 l1 y1 z1 st1 hQ1
  subst l1 y1 z1
  obtain ⟨rfl, Nq1, K1q⟩ := hQ1
  have N1 := Fr.app N0 Nq1
  have pre2 : ∀ t, Steps p.tables e below (T1.setTop (mkF m 201 #[(vi p1), (vl q2), .second, (vl q3), .second, (vl q4), .second, (vi 1), (vi 1), (vi p5), (vi p6), (vi p7), (vi p8), (vl q9), .second, (vl q10), .second, (vl q11), .second, (vr a12), (vr a13), (vr a14), (vi 0), .unset, .unset, .unset, .unset, .unset, .unset, .unset, .unset, .unset, .unset] [])) t → Steps p.tables e below (T0.setTop (mkF m 192 #[(vi p1), (vl q2), .second, (vl q3), .second, (vl q4), .second, (vi 1), (vi 1), (vi p5), (vi p6), (vi p7), (vi p8), (vl q9), .second, (vl q10), .second, (vl q11), .second, (vr a12), (vr a13), (vr a14), .unset, .unset, .unset, .unset, .unset, .unset, .unset, .unset, .unset, .unset, .unset] [])) t := by
    intro t k
    refine pre0 t ?_
    show Steps p.tables e below (T0.setTop (mkF m 192 #[(vi p1), (vl q2), .second, (vl q3), .second, (vl q4), .second, (vi 1), (vi 1), (vi p5), (vi p6), (vi p7), (vi p8), (vl q9), .second, (vl q10), .second, (vl q11), .second, (vr a12), (vr a13), (vr a14), .unset, .unset, .unset, .unset, .unset, .unset, .unset, .unset, .unset, .unset, .unset] [])) _
    refine XS.aload X0.here hx rfl (hb hby at_192) rfl rfl ?_
    refine XS.lload X0.here hx rfl (hb hby at_194) rfl ?_
    refine st1.trans ?_
    refine XS.istore X1.here hx rfl (hb hby at_199) rfl (l' := #[(vi p1), (vl q2), .second, (vl q3), .second, (vl q4), .second, (vi 1), (vi 1), (vi p5), (vi p6), (vi p7), (vi p8), (vl q9), .second, (vl q10), .second, (vl q11), .second, (vr a12), (vr a13), (vr a14), (vi 0), .unset, .unset, .unset, .unset, .unset, .unset, .unset, .unset, .unset, .unset]) rfl ?_
    exact k
  rcases (id (P29)) with hk3 | hk3
  · skip
    have pre4 : ∀ t, Steps p.tables e below (T1.setTop (mkF m 201 #[(vi p1), (vl q2), .second, (vl q3), .second, (vl q4), .second, (vi 1), (vi 1), (vi 0), (vi p6), (vi p7), (vi p8), (vl q9), .second, (vl q10), .second, (vl q11), .second, (vr a12), (vr a13), (vr a14), (vi 0), .unset, .unset, .unset, .unset, .unset, .unset, .unset, .unset, .unset, .unset] [])) t → Steps p.tables e below (T0.setTop (mkF m 192 #[(vi p1), (vl q2), .second, (vl q3), .second, (vl q4), .second, (vi 1), (vi 1), (vi p5), (vi p6), (vi p7), (vi p8), (vl q9), .second, (vl q10), .second, (vl q11), .second, (vr a12), (vr a13), (vr a14), .unset, .unset, .unset, .unset, .unset, .unset, .unset, .unset, .unset, .unset, .unset] [])) t := by
      intro t k
      refine pre2 t ?_
      rw [hk3]
      exact k
    rcases Decidable.em (q2 = q10) with hq5 | hq5
    · skip
      rcases Decidable.em (q9 = q10) with hq6 | hq6
      · skip
        obtain ⟨cq7, kq7, q7a, q7b, q7c⟩ := isOf hZ K1q P0
        obtain ⟨_, _, ⟨T7, L7, k7, n7⟩, -, X7, ⟨Lc7, hQ7, l7, y7, z7⟩, st7⟩ := X1.virtualBack hx (y := M12) (z := M12) hown (mvT hZ (ow hw 52 rfl)) (mvT hZ (ow hw 53 rfl)) (notFace_of_selects (args := #[]) (mvT hZ (ow hw 55 rfl))) (mvT hZ (ow hw 55 rfl)) (mvT hZ (ow hw 54 rfl)) (by decide) (backOf (W := 0) (au7_6 l Z a0 hw [] wMAX_LOCK_DELAY wGRANTED wQUEUED wZERO hS a12 q10 (1 : Int64) a13 a15 q2 a16 k17 a18 a14 q9 h0 n0 O0 P0 P1 P2 P3 P4 P5 P6 P8 P12 P13 P14 P15 P16 P17 P18 P19 P21 P9 P11 hq5 hq6 P30 P33 P34 P38 P39 P42 P43 P48) hZ (ow hw 56 rfl) (ow hw 3 rfl) (by decide) (by decide)) q7a q7c (g := (mkF m 207 #[(vi p1), (vl q2), .second, (vl q3), .second, (vl q4), .second, (vi 1), (vi 1), (vi 0), (vi p6), (vi p7), (vi p8), (vl q9), .second, (vl q10), .second, (vl q11), .second, (vr a12), (vr a13), (vr a14), (vi 0), .unset, .unset, .unset, .unset, .unset, .unset, .unset, .unset, .unset, .unset] [(.int 0), (.long q10), (.ref a12)])) rfl (by rw [hml]; rfl) (Steps.refl _) (argsL := [(.long q10), (.int 0)]) (rest := []) (lenOf pd_8 rfl) rfl (by show 2 * 0 + _ ≤ _; exact Nat.le_of_eq rfl) (hb hby at_207) (fun _ _ => ⟨rfl, K1q, (by decide : 7 + 1 ≤ _), (by decide : 35 + 4 ≤ _)⟩)
        dsimp only [Pt.U, Pt.locs, Pt.cells, Pt.slots] at X7 l7 y7 z7 st7 hQ7
        subst l7 y7 z7
        obtain ⟨rfl, Nq7, K7q, p7_0, p7_1, p7_2, p7_3, p7_4, p7_5, p7_6, p7_7, p7_8, p7_9, p7_10, p7_11, p7_12⟩ := hQ7
        have N7 := Fr.app N1 Nq7
        have O8 : Old Z n0 T7.heap := O0.keep K7q (allS P33 (allS P34 (allS P30 all0)))
        obtain ⟨cq9, kq9, q9a, q9b, q9c⟩ := isOf hZ rfl p7_7
        obtain ⟨_, _, ⟨T9, L9, k9, n9⟩, -, X9, ⟨Lc9, hQ9, l9, y9, z9⟩, st9⟩ := X7.virtualBack hx (y := M1) (z := M1) hown (mvT hZ (ow hw 45 rfl)) (mvT hZ (ow hw 46 rfl)) (notFace_of_selects (args := #[]) (mvT hZ (ow hw 48 rfl))) (mvT hZ (ow hw 48 rfl)) (mvT hZ (ow hw 47 rfl)) (by decide) (backOf (W := 0) (rmHB0 l Z a0 hw [] wMAX_LOCK_DELAY wGRANTED wQUEUED wZERO hS a12 q11 T7.heap n0 O8 p7_9) hZ (ow hw 49 rfl) (ow hw 3 rfl) (by decide) (by decide)) q9a q9c (g := (mkF m 215 #[(vi p1), (vl q2), .second, (vl q3), .second, (vl q4), .second, (vi 1), (vi 1), (vi 0), (vi p6), (vi p7), (vi p8), (vl q9), .second, (vl q10), .second, (vl q11), .second, (vr a12), (vr a13), (vr a14), (vi 0), .unset, .unset, .unset, .unset, .unset, .unset, .unset, .unset, .unset, .unset] [(.long q11), (.ref a12)])) rfl (by rw [hml]; rfl) (Steps.refl _) (argsL := [(.long q11)]) (rest := []) (lenOf pd_2 rfl) rfl (by show 2 * 0 + _ ≤ _; exact Nat.le_of_eq rfl) (hb hby at_215) (fun _ _ => ⟨rfl, rfl, (by decide : 8 + 0 ≤ _), (by decide : 39 + 0 ≤ _)⟩)
        dsimp only [Pt.U, Pt.locs, Pt.cells, Pt.slots] at X9 l9 y9 z9 st9 hQ9
        subst l9 y9 z9
        obtain ⟨rfl, Nq9, K9q⟩ := hQ9
        have N9 := Fr.app N7 Nq9
        have pre10 : ∀ t, Steps p.tables e below (T9.setTop (mkF m 220 #[(vi p1), (vl q2), .second, (vl q3), .second, (vl q4), .second, (vi 1), (vi 1), (vi 0), (vi p6), (vi p7), (vi p8), (vl q9), .second, (vl q10), .second, (vl q11), .second, (vr a12), (vr a13), (vr a14), (vi 0), (vi 0), .unset, .unset, .unset, .unset, .unset, .unset, .unset, .unset, .unset] [])) t → Steps p.tables e below (T0.setTop (mkF m 192 #[(vi p1), (vl q2), .second, (vl q3), .second, (vl q4), .second, (vi 1), (vi 1), (vi p5), (vi p6), (vi p7), (vi p8), (vl q9), .second, (vl q10), .second, (vl q11), .second, (vr a12), (vr a13), (vr a14), .unset, .unset, .unset, .unset, .unset, .unset, .unset, .unset, .unset, .unset, .unset] [])) t := by
          intro t k
          refine pre4 t ?_
          show Steps p.tables e below (T1.setTop (mkF m 201 #[(vi p1), (vl q2), .second, (vl q3), .second, (vl q4), .second, (vi 1), (vi 1), (vi 0), (vi p6), (vi p7), (vi p8), (vl q9), .second, (vl q10), .second, (vl q11), .second, (vr a12), (vr a13), (vr a14), (vi 0), .unset, .unset, .unset, .unset, .unset, .unset, .unset, .unset, .unset, .unset] [])) _
          refine XS.aload X1.here hx rfl (hb hby at_201) rfl rfl ?_
          refine XS.lload X1.here hx rfl (hb hby at_203) rfl ?_
          refine XS.iload X1.here hx rfl (hb hby at_205) rfl ?_
          refine st7.trans ?_
          refine XS.pop X7.here hx rfl (hb hby at_210) rfl rfl ?_
          refine XS.aload X7.here hx rfl (hb hby at_211) rfl rfl ?_
          refine XS.lload X7.here hx rfl (hb hby at_213) rfl ?_
          refine st9.trans ?_
          show Steps p.tables e below (T9.setTop (mkF m 218 #[(vi p1), (vl q2), .second, (vl q3), .second, (vl q4), .second, (vi 1), (vi 1), (vi 0), (vi p6), (vi p7), (vi p8), (vl q9), .second, (vl q10), .second, (vl q11), .second, (vr a12), (vr a13), (vr a14), (vi 0), .unset, .unset, .unset, .unset, .unset, .unset, .unset, .unset, .unset, .unset] [(.int 0)])) _
          refine XS.istore X9.here hx rfl (hb hby at_218) rfl (l' := #[(vi p1), (vl q2), .second, (vl q3), .second, (vl q4), .second, (vi 1), (vi 1), (vi 0), (vi p6), (vi p7), (vi p8), (vl q9), .second, (vl q10), .second, (vl q11), .second, (vr a12), (vr a13), (vr a14), (vi 0), (vi 0), .unset, .unset, .unset, .unset, .unset, .unset, .unset, .unset, .unset]) rfl ?_
          exact k
        obtain ⟨t9, o9, hs9, hr9⟩ := tl_rm0_f hw wMAX_LOCK_DELAY wGRANTED wQUEUED wZERO hS (1 : Int32) (1 : Int32) (0 : Int32) (0 : Int32) (0 : Int32) p1 q2 q3 q4 p6 p7 p8 q9 q10 q11 a12 a13 a14 (X9.more (by decide) (by decide)) hx hZ hby hml hown hnm hret0 hlk0 K9q N9 O8 (by simp [own_exp, lw_eq, hq5, hq6]) rfl
        exact ⟨t9, o9, pre10 _ hs9, hr9⟩
      · skip
        obtain ⟨cq11, kq11, q11a, q11b, q11c⟩ := isOf hZ K1q P0
        obtain ⟨_, _, ⟨T11, L11, k11, n11⟩, -, X11, ⟨Lc11, hQ11, l11, y11, z11⟩, st11⟩ := X1.virtualBack hx (y := M12) (z := M12) hown (mvT hZ (ow hw 52 rfl)) (mvT hZ (ow hw 53 rfl)) (notFace_of_selects (args := #[]) (mvT hZ (ow hw 55 rfl))) (mvT hZ (ow hw 55 rfl)) (mvT hZ (ow hw 54 rfl)) (by decide) (backOf (W := 0) (au7_7 l Z a0 hw [] wMAX_LOCK_DELAY wGRANTED wQUEUED wZERO hS a12 q10 (1 : Int64) a13 a15 q2 a16 k17 a18 a14 q9 h0 n0 O0 P0 P1 P2 P3 P4 P5 P6 P8 P12 P13 P14 P15 P16 P17 P18 P19 P20 P21 P9 P11 hq5 hq6 P30 P33 P34 P38 P39 P40 P48 P49 P50) hZ (ow hw 56 rfl) (ow hw 3 rfl) (by decide) (by decide)) q11a q11c (g := (mkF m 207 #[(vi p1), (vl q2), .second, (vl q3), .second, (vl q4), .second, (vi 1), (vi 1), (vi 0), (vi p6), (vi p7), (vi p8), (vl q9), .second, (vl q10), .second, (vl q11), .second, (vr a12), (vr a13), (vr a14), (vi 0), .unset, .unset, .unset, .unset, .unset, .unset, .unset, .unset, .unset, .unset] [(.int 0), (.long q10), (.ref a12)])) rfl (by rw [hml]; rfl) (Steps.refl _) (argsL := [(.long q10), (.int 0)]) (rest := []) (lenOf pd_8 rfl) rfl (by show 2 * 0 + _ ≤ _; exact Nat.le_of_eq rfl) (hb hby at_207) (fun _ _ => ⟨rfl, K1q, (by decide : 7 + 1 ≤ _), (by decide : 35 + 4 ≤ _)⟩)
        dsimp only [Pt.U, Pt.locs, Pt.cells, Pt.slots] at X11 l11 y11 z11 st11 hQ11
        subst l11 y11 z11
        obtain ⟨rfl, Nq11, K11q, p11_0, p11_1, p11_2, p11_3, p11_4, p11_5, p11_6, p11_7, p11_8, p11_9, p11_10, p11_11, p11_12⟩ := hQ11
        have N11 := Fr.app N1 Nq11
        have O12 : Old Z n0 T11.heap := O0.keep K11q (allS P30 (allS P34 (allS P33 all0)))
        have p11_1f : Fld Z T11.heap a12 s4n "generation" "J" (.long 2) := by have q := p11_1; rw [(by decide : ((1 : Int64) + (1 : Int64)) = (2 : Int64))] at q; exact q
        obtain ⟨cq13, kq13, q13a, q13b, q13c⟩ := isOf hZ rfl p11_0
        obtain ⟨_, _, ⟨T13, L13, k13, n13⟩, -, X13, ⟨Lc13, hQ13, l13, y13, z13⟩, st13⟩ := X11.virtualBack hx (y := M1) (z := M1) hown (mvT hZ (ow hw 45 rfl)) (mvT hZ (ow hw 46 rfl)) (notFace_of_selects (args := #[]) (mvT hZ (ow hw 48 rfl))) (mvT hZ (ow hw 48 rfl)) (mvT hZ (ow hw 47 rfl)) (by decide) (backOf (W := 0) (rmHB0 l Z a0 hw [] wMAX_LOCK_DELAY wGRANTED wQUEUED wZERO hS a12 q11 T11.heap n0 O12 p11_2) hZ (ow hw 49 rfl) (ow hw 3 rfl) (by decide) (by decide)) q13a q13c (g := (mkF m 215 #[(vi p1), (vl q2), .second, (vl q3), .second, (vl q4), .second, (vi 1), (vi 1), (vi 0), (vi p6), (vi p7), (vi p8), (vl q9), .second, (vl q10), .second, (vl q11), .second, (vr a12), (vr a13), (vr a14), (vi 0), .unset, .unset, .unset, .unset, .unset, .unset, .unset, .unset, .unset, .unset] [(.long q11), (.ref a12)])) rfl (by rw [hml]; rfl) (Steps.refl _) (argsL := [(.long q11)]) (rest := []) (lenOf pd_2 rfl) rfl (by show 2 * 0 + _ ≤ _; exact Nat.le_of_eq rfl) (hb hby at_215) (fun _ _ => ⟨rfl, rfl, (by decide : 8 + 0 ≤ _), (by decide : 39 + 0 ≤ _)⟩)
        dsimp only [Pt.U, Pt.locs, Pt.cells, Pt.slots] at X13 l13 y13 z13 st13 hQ13
        subst l13 y13 z13
        obtain ⟨rfl, Nq13, K13q⟩ := hQ13
        have N13 := Fr.app N11 Nq13
        have pre14 : ∀ t, Steps p.tables e below (T13.setTop (mkF m 220 #[(vi p1), (vl q2), .second, (vl q3), .second, (vl q4), .second, (vi 1), (vi 1), (vi 0), (vi p6), (vi p7), (vi p8), (vl q9), .second, (vl q10), .second, (vl q11), .second, (vr a12), (vr a13), (vr a14), (vi 0), (vi 0), .unset, .unset, .unset, .unset, .unset, .unset, .unset, .unset, .unset] [])) t → Steps p.tables e below (T0.setTop (mkF m 192 #[(vi p1), (vl q2), .second, (vl q3), .second, (vl q4), .second, (vi 1), (vi 1), (vi p5), (vi p6), (vi p7), (vi p8), (vl q9), .second, (vl q10), .second, (vl q11), .second, (vr a12), (vr a13), (vr a14), .unset, .unset, .unset, .unset, .unset, .unset, .unset, .unset, .unset, .unset, .unset] [])) t := by
          intro t k
          refine pre4 t ?_
          show Steps p.tables e below (T1.setTop (mkF m 201 #[(vi p1), (vl q2), .second, (vl q3), .second, (vl q4), .second, (vi 1), (vi 1), (vi 0), (vi p6), (vi p7), (vi p8), (vl q9), .second, (vl q10), .second, (vl q11), .second, (vr a12), (vr a13), (vr a14), (vi 0), .unset, .unset, .unset, .unset, .unset, .unset, .unset, .unset, .unset, .unset] [])) _
          refine XS.aload X1.here hx rfl (hb hby at_201) rfl rfl ?_
          refine XS.lload X1.here hx rfl (hb hby at_203) rfl ?_
          refine XS.iload X1.here hx rfl (hb hby at_205) rfl ?_
          refine st11.trans ?_
          refine XS.pop X11.here hx rfl (hb hby at_210) rfl rfl ?_
          refine XS.aload X11.here hx rfl (hb hby at_211) rfl rfl ?_
          refine XS.lload X11.here hx rfl (hb hby at_213) rfl ?_
          refine st13.trans ?_
          show Steps p.tables e below (T13.setTop (mkF m 218 #[(vi p1), (vl q2), .second, (vl q3), .second, (vl q4), .second, (vi 1), (vi 1), (vi 0), (vi p6), (vi p7), (vi p8), (vl q9), .second, (vl q10), .second, (vl q11), .second, (vr a12), (vr a13), (vr a14), (vi 0), .unset, .unset, .unset, .unset, .unset, .unset, .unset, .unset, .unset, .unset] [(.int 0)])) _
          refine XS.istore X13.here hx rfl (hb hby at_218) rfl (l' := #[(vi p1), (vl q2), .second, (vl q3), .second, (vl q4), .second, (vi 1), (vi 1), (vi 0), (vi p6), (vi p7), (vi p8), (vl q9), .second, (vl q10), .second, (vl q11), .second, (vr a12), (vr a13), (vr a14), (vi 0), (vi 0), .unset, .unset, .unset, .unset, .unset, .unset, .unset, .unset, .unset]) rfl ?_
          exact k
        obtain ⟨t9, o9, hs9, hr9⟩ := tl_rm0_f hw wMAX_LOCK_DELAY wGRANTED wQUEUED wZERO hS (1 : Int32) (1 : Int32) (0 : Int32) (0 : Int32) (0 : Int32) p1 q2 q3 q4 p6 p7 p8 q9 q10 q11 a12 a13 a14 (X13.more (by decide) (by decide)) hx hZ hby hml hown hnm hret0 hlk0 K13q N13 O12 (by simp [own_exp, lw_eq, hq5, hq6]) rfl
        exact ⟨t9, o9, pre14 _ hs9, hr9⟩
    · skip
      rcases Decidable.em (q9 = q10) with hq15 | hq15
      · skip
        obtain ⟨cq16, kq16, q16a, q16b, q16c⟩ := isOf hZ K1q P0
        obtain ⟨_, _, ⟨T16, L16, k16, n16⟩, -, X16, ⟨Lc16, hQ16, l16, y16, z16⟩, st16⟩ := X1.virtualBack hx (y := M12) (z := M12) hown (mvT hZ (ow hw 52 rfl)) (mvT hZ (ow hw 53 rfl)) (notFace_of_selects (args := #[]) (mvT hZ (ow hw 55 rfl))) (mvT hZ (ow hw 55 rfl)) (mvT hZ (ow hw 54 rfl)) (by decide) (backOf (W := 0) (au7_8 l Z a0 hw [] wMAX_LOCK_DELAY wGRANTED wQUEUED wZERO hS a12 q10 a13 a15 q2 a16 k17 a18 a14 q9 h0 n0 O0 P0 P3 P5 P6 P8 P12 P13 P14 P15 P16 P17 P18 P19 P21 P9 P11 hq5 hq15 P33 P34 P38 P39 P42 P43 P48) hZ (ow hw 56 rfl) (ow hw 3 rfl) (by decide) (by decide)) q16a q16c (g := (mkF m 207 #[(vi p1), (vl q2), .second, (vl q3), .second, (vl q4), .second, (vi 1), (vi 1), (vi 0), (vi p6), (vi p7), (vi p8), (vl q9), .second, (vl q10), .second, (vl q11), .second, (vr a12), (vr a13), (vr a14), (vi 0), .unset, .unset, .unset, .unset, .unset, .unset, .unset, .unset, .unset, .unset] [(.int 0), (.long q10), (.ref a12)])) rfl (by rw [hml]; rfl) (Steps.refl _) (argsL := [(.long q10), (.int 0)]) (rest := []) (lenOf pd_8 rfl) rfl (by show 2 * 0 + _ ≤ _; exact Nat.le_of_eq rfl) (hb hby at_207) (fun _ _ => ⟨rfl, K1q, (by decide : 7 + 1 ≤ _), (by decide : 35 + 4 ≤ _)⟩)
        dsimp only [Pt.U, Pt.locs, Pt.cells, Pt.slots] at X16 l16 y16 z16 st16 hQ16
        subst l16 y16 z16
        obtain ⟨rfl, Nq16, K16q, p16_0, p16_1, p16_2, p16_3, p16_4, p16_5, p16_6⟩ := hQ16
        have N16 := Fr.app N1 Nq16
        have O17 : Old Z n0 T16.heap := O0.keep K16q (allS P33 (allS P34 all0))
        have f18 : Fld Z T16.heap a12 s4n "heldBack" "Z" (.int 0) := (P2.keep K16q (ninS P38 (ninS P39 nin0)))
        have f20 : Exa Z T16.heap a12 s4n := (P0.keep K16q)
        obtain ⟨cq19, kq19, q19a, q19b, q19c⟩ := isOf hZ rfl f20
        obtain ⟨_, _, ⟨T19, L19, k19, n19⟩, -, X19, ⟨Lc19, hQ19, l19, y19, z19⟩, st19⟩ := X16.virtualBack hx (y := M1) (z := M1) hown (mvT hZ (ow hw 45 rfl)) (mvT hZ (ow hw 46 rfl)) (notFace_of_selects (args := #[]) (mvT hZ (ow hw 48 rfl))) (mvT hZ (ow hw 48 rfl)) (mvT hZ (ow hw 47 rfl)) (by decide) (backOf (W := 0) (rmHB0 l Z a0 hw [] wMAX_LOCK_DELAY wGRANTED wQUEUED wZERO hS a12 q11 T16.heap n0 O17 f18) hZ (ow hw 49 rfl) (ow hw 3 rfl) (by decide) (by decide)) q19a q19c (g := (mkF m 215 #[(vi p1), (vl q2), .second, (vl q3), .second, (vl q4), .second, (vi 1), (vi 1), (vi 0), (vi p6), (vi p7), (vi p8), (vl q9), .second, (vl q10), .second, (vl q11), .second, (vr a12), (vr a13), (vr a14), (vi 0), .unset, .unset, .unset, .unset, .unset, .unset, .unset, .unset, .unset, .unset] [(.long q11), (.ref a12)])) rfl (by rw [hml]; rfl) (Steps.refl _) (argsL := [(.long q11)]) (rest := []) (lenOf pd_2 rfl) rfl (by show 2 * 0 + _ ≤ _; exact Nat.le_of_eq rfl) (hb hby at_215) (fun _ _ => ⟨rfl, rfl, (by decide : 8 + 0 ≤ _), (by decide : 39 + 0 ≤ _)⟩)
        dsimp only [Pt.U, Pt.locs, Pt.cells, Pt.slots] at X19 l19 y19 z19 st19 hQ19
        subst l19 y19 z19
        obtain ⟨rfl, Nq19, K19q⟩ := hQ19
        have N19 := Fr.app N16 Nq19
        have pre21 : ∀ t, Steps p.tables e below (T19.setTop (mkF m 220 #[(vi p1), (vl q2), .second, (vl q3), .second, (vl q4), .second, (vi 1), (vi 1), (vi 0), (vi p6), (vi p7), (vi p8), (vl q9), .second, (vl q10), .second, (vl q11), .second, (vr a12), (vr a13), (vr a14), (vi 0), (vi 0), .unset, .unset, .unset, .unset, .unset, .unset, .unset, .unset, .unset] [])) t → Steps p.tables e below (T0.setTop (mkF m 192 #[(vi p1), (vl q2), .second, (vl q3), .second, (vl q4), .second, (vi 1), (vi 1), (vi p5), (vi p6), (vi p7), (vi p8), (vl q9), .second, (vl q10), .second, (vl q11), .second, (vr a12), (vr a13), (vr a14), .unset, .unset, .unset, .unset, .unset, .unset, .unset, .unset, .unset, .unset, .unset] [])) t := by
          intro t k
          refine pre4 t ?_
          show Steps p.tables e below (T1.setTop (mkF m 201 #[(vi p1), (vl q2), .second, (vl q3), .second, (vl q4), .second, (vi 1), (vi 1), (vi 0), (vi p6), (vi p7), (vi p8), (vl q9), .second, (vl q10), .second, (vl q11), .second, (vr a12), (vr a13), (vr a14), (vi 0), .unset, .unset, .unset, .unset, .unset, .unset, .unset, .unset, .unset, .unset] [])) _
          refine XS.aload X1.here hx rfl (hb hby at_201) rfl rfl ?_
          refine XS.lload X1.here hx rfl (hb hby at_203) rfl ?_
          refine XS.iload X1.here hx rfl (hb hby at_205) rfl ?_
          refine st16.trans ?_
          refine XS.pop X16.here hx rfl (hb hby at_210) rfl rfl ?_
          refine XS.aload X16.here hx rfl (hb hby at_211) rfl rfl ?_
          refine XS.lload X16.here hx rfl (hb hby at_213) rfl ?_
          refine st19.trans ?_
          show Steps p.tables e below (T19.setTop (mkF m 218 #[(vi p1), (vl q2), .second, (vl q3), .second, (vl q4), .second, (vi 1), (vi 1), (vi 0), (vi p6), (vi p7), (vi p8), (vl q9), .second, (vl q10), .second, (vl q11), .second, (vr a12), (vr a13), (vr a14), (vi 0), .unset, .unset, .unset, .unset, .unset, .unset, .unset, .unset, .unset, .unset] [(.int 0)])) _
          refine XS.istore X19.here hx rfl (hb hby at_218) rfl (l' := #[(vi p1), (vl q2), .second, (vl q3), .second, (vl q4), .second, (vi 1), (vi 1), (vi 0), (vi p6), (vi p7), (vi p8), (vl q9), .second, (vl q10), .second, (vl q11), .second, (vr a12), (vr a13), (vr a14), (vi 0), (vi 0), .unset, .unset, .unset, .unset, .unset, .unset, .unset, .unset, .unset]) rfl ?_
          exact k
        obtain ⟨t9, o9, hs9, hr9⟩ := tl_rm0_f hw wMAX_LOCK_DELAY wGRANTED wQUEUED wZERO hS (1 : Int32) (1 : Int32) (0 : Int32) (0 : Int32) (0 : Int32) p1 q2 q3 q4 p6 p7 p8 q9 q10 q11 a12 a13 a14 (X19.more (by decide) (by decide)) hx hZ hby hml hown hnm hret0 hlk0 K19q N19 O17 (by simp [own_exp, lw_eq, hq5, hq15]) rfl
        exact ⟨t9, o9, pre21 _ hs9, hr9⟩
      · skip
        obtain ⟨cq22, kq22, q22a, q22b, q22c⟩ := isOf hZ K1q P0
        obtain ⟨_, _, ⟨T22, L22, k22, n22⟩, -, X22, ⟨Lc22, hQ22, l22, y22, z22⟩, st22⟩ := X1.virtualBack hx (y := M12) (z := M12) hown (mvT hZ (ow hw 52 rfl)) (mvT hZ (ow hw 53 rfl)) (notFace_of_selects (args := #[]) (mvT hZ (ow hw 55 rfl))) (mvT hZ (ow hw 55 rfl)) (mvT hZ (ow hw 54 rfl)) (by decide) (backOf (W := 0) (au7_9 l Z a0 hw [] wMAX_LOCK_DELAY wGRANTED wQUEUED wZERO hS a12 q10 a13 a15 q2 a16 k17 a18 a14 q9 h0 n0 O0 P0 P3 P5 P6 P8 P12 P13 P14 P15 P16 P19 P21 P9 P11 hq5 hq15) hZ (ow hw 56 rfl) (ow hw 3 rfl) (by decide) (by decide)) q22a q22c (g := (mkF m 207 #[(vi p1), (vl q2), .second, (vl q3), .second, (vl q4), .second, (vi 1), (vi 1), (vi 0), (vi p6), (vi p7), (vi p8), (vl q9), .second, (vl q10), .second, (vl q11), .second, (vr a12), (vr a13), (vr a14), (vi 0), .unset, .unset, .unset, .unset, .unset, .unset, .unset, .unset, .unset, .unset] [(.int 0), (.long q10), (.ref a12)])) rfl (by rw [hml]; rfl) (Steps.refl _) (argsL := [(.long q10), (.int 0)]) (rest := []) (lenOf pd_8 rfl) rfl (by show 2 * 0 + _ ≤ _; exact Nat.le_of_eq rfl) (hb hby at_207) (fun _ _ => ⟨rfl, K1q, (by decide : 7 + 1 ≤ _), (by decide : 35 + 4 ≤ _)⟩)
        dsimp only [Pt.U, Pt.locs, Pt.cells, Pt.slots] at X22 l22 y22 z22 st22 hQ22
        subst l22 y22 z22
        obtain ⟨rfl, Nq22, K22q⟩ := hQ22
        have N22 := Fr.app N1 Nq22
        have O23 : Old Z n0 T22.heap := O0.keep K22q all0
        have f24 : Fld Z T22.heap a12 s4n "heldBack" "Z" (.int 0) := (P2.keep K22q nin0)
        have f26 : Exa Z T22.heap a12 s4n := (P0.keep K22q)
        obtain ⟨cq25, kq25, q25a, q25b, q25c⟩ := isOf hZ rfl f26
        obtain ⟨_, _, ⟨T25, L25, k25, n25⟩, -, X25, ⟨Lc25, hQ25, l25, y25, z25⟩, st25⟩ := X22.virtualBack hx (y := M1) (z := M1) hown (mvT hZ (ow hw 45 rfl)) (mvT hZ (ow hw 46 rfl)) (notFace_of_selects (args := #[]) (mvT hZ (ow hw 48 rfl))) (mvT hZ (ow hw 48 rfl)) (mvT hZ (ow hw 47 rfl)) (by decide) (backOf (W := 0) (rmHB0 l Z a0 hw [] wMAX_LOCK_DELAY wGRANTED wQUEUED wZERO hS a12 q11 T22.heap n0 O23 f24) hZ (ow hw 49 rfl) (ow hw 3 rfl) (by decide) (by decide)) q25a q25c (g := (mkF m 215 #[(vi p1), (vl q2), .second, (vl q3), .second, (vl q4), .second, (vi 1), (vi 1), (vi 0), (vi p6), (vi p7), (vi p8), (vl q9), .second, (vl q10), .second, (vl q11), .second, (vr a12), (vr a13), (vr a14), (vi 0), .unset, .unset, .unset, .unset, .unset, .unset, .unset, .unset, .unset, .unset] [(.long q11), (.ref a12)])) rfl (by rw [hml]; rfl) (Steps.refl _) (argsL := [(.long q11)]) (rest := []) (lenOf pd_2 rfl) rfl (by show 2 * 0 + _ ≤ _; exact Nat.le_of_eq rfl) (hb hby at_215) (fun _ _ => ⟨rfl, rfl, (by decide : 8 + 0 ≤ _), (by decide : 39 + 0 ≤ _)⟩)
        dsimp only [Pt.U, Pt.locs, Pt.cells, Pt.slots] at X25 l25 y25 z25 st25 hQ25
        subst l25 y25 z25
        obtain ⟨rfl, Nq25, K25q⟩ := hQ25
        have N25 := Fr.app N22 Nq25
        have pre27 : ∀ t, Steps p.tables e below (T25.setTop (mkF m 220 #[(vi p1), (vl q2), .second, (vl q3), .second, (vl q4), .second, (vi 1), (vi 1), (vi 0), (vi p6), (vi p7), (vi p8), (vl q9), .second, (vl q10), .second, (vl q11), .second, (vr a12), (vr a13), (vr a14), (vi 0), (vi 0), .unset, .unset, .unset, .unset, .unset, .unset, .unset, .unset, .unset] [])) t → Steps p.tables e below (T0.setTop (mkF m 192 #[(vi p1), (vl q2), .second, (vl q3), .second, (vl q4), .second, (vi 1), (vi 1), (vi p5), (vi p6), (vi p7), (vi p8), (vl q9), .second, (vl q10), .second, (vl q11), .second, (vr a12), (vr a13), (vr a14), .unset, .unset, .unset, .unset, .unset, .unset, .unset, .unset, .unset, .unset, .unset] [])) t := by
          intro t k
          refine pre4 t ?_
          show Steps p.tables e below (T1.setTop (mkF m 201 #[(vi p1), (vl q2), .second, (vl q3), .second, (vl q4), .second, (vi 1), (vi 1), (vi 0), (vi p6), (vi p7), (vi p8), (vl q9), .second, (vl q10), .second, (vl q11), .second, (vr a12), (vr a13), (vr a14), (vi 0), .unset, .unset, .unset, .unset, .unset, .unset, .unset, .unset, .unset, .unset] [])) _
          refine XS.aload X1.here hx rfl (hb hby at_201) rfl rfl ?_
          refine XS.lload X1.here hx rfl (hb hby at_203) rfl ?_
          refine XS.iload X1.here hx rfl (hb hby at_205) rfl ?_
          refine st22.trans ?_
          refine XS.pop X22.here hx rfl (hb hby at_210) rfl rfl ?_
          refine XS.aload X22.here hx rfl (hb hby at_211) rfl rfl ?_
          refine XS.lload X22.here hx rfl (hb hby at_213) rfl ?_
          refine st25.trans ?_
          show Steps p.tables e below (T25.setTop (mkF m 218 #[(vi p1), (vl q2), .second, (vl q3), .second, (vl q4), .second, (vi 1), (vi 1), (vi 0), (vi p6), (vi p7), (vi p8), (vl q9), .second, (vl q10), .second, (vl q11), .second, (vr a12), (vr a13), (vr a14), (vi 0), .unset, .unset, .unset, .unset, .unset, .unset, .unset, .unset, .unset, .unset] [(.int 0)])) _
          refine XS.istore X25.here hx rfl (hb hby at_218) rfl (l' := #[(vi p1), (vl q2), .second, (vl q3), .second, (vl q4), .second, (vi 1), (vi 1), (vi 0), (vi p6), (vi p7), (vi p8), (vl q9), .second, (vl q10), .second, (vl q11), .second, (vr a12), (vr a13), (vr a14), (vi 0), (vi 0), .unset, .unset, .unset, .unset, .unset, .unset, .unset, .unset, .unset]) rfl ?_
          exact k
        obtain ⟨t9, o9, hs9, hr9⟩ := tl_rm0_f hw wMAX_LOCK_DELAY wGRANTED wQUEUED wZERO hS (1 : Int32) (1 : Int32) (0 : Int32) (0 : Int32) (0 : Int32) p1 q2 q3 q4 p6 p7 p8 q9 q10 q11 a12 a13 a14 (X25.more (by decide) (by decide)) hx hZ hby hml hown hnm hret0 hlk0 K25q N25 O23 (by simp [own_exp, lw_eq, hq5, hq15]) rfl
        exact ⟨t9, o9, pre27 _ hs9, hr9⟩
  · skip
    have pre28 : ∀ t, Steps p.tables e below (T1.setTop (mkF m 201 #[(vi p1), (vl q2), .second, (vl q3), .second, (vl q4), .second, (vi 1), (vi 1), (vi 1), (vi p6), (vi p7), (vi p8), (vl q9), .second, (vl q10), .second, (vl q11), .second, (vr a12), (vr a13), (vr a14), (vi 0), .unset, .unset, .unset, .unset, .unset, .unset, .unset, .unset, .unset, .unset] [])) t → Steps p.tables e below (T0.setTop (mkF m 192 #[(vi p1), (vl q2), .second, (vl q3), .second, (vl q4), .second, (vi 1), (vi 1), (vi p5), (vi p6), (vi p7), (vi p8), (vl q9), .second, (vl q10), .second, (vl q11), .second, (vr a12), (vr a13), (vr a14), .unset, .unset, .unset, .unset, .unset, .unset, .unset, .unset, .unset, .unset, .unset] [])) t := by
      intro t k
      refine pre2 t ?_
      rw [hk3]
      exact k
    rcases Decidable.em (q2 = q10) with hq29 | hq29
    · skip
      rcases Decidable.em (q9 = q10) with hq30 | hq30
      · skip
        obtain ⟨cq31, kq31, q31a, q31b, q31c⟩ := isOf hZ K1q P0
        obtain ⟨_, _, ⟨T31, L31, k31, n31⟩, -, X31, ⟨Lc31, hQ31, l31, y31, z31⟩, st31⟩ := X1.virtualBack hx (y := M12) (z := M12) hown (mvT hZ (ow hw 52 rfl)) (mvT hZ (ow hw 53 rfl)) (notFace_of_selects (args := #[]) (mvT hZ (ow hw 55 rfl))) (mvT hZ (ow hw 55 rfl)) (mvT hZ (ow hw 54 rfl)) (by decide) (backOf (W := 0) (au7_10 l Z a0 hw [] wMAX_LOCK_DELAY wGRANTED wQUEUED wZERO hS a12 q10 (1 : Int64) a13 a15 q2 a16 k17 a18 a14 q9 h0 n0 O0 P0 P1 P2 P3 P4 P5 P6 P8 P12 P13 P14 P15 P16 P17 P18 P19 P21 P9 P11 hq29 hq30 P30 P33 P34 P38 P39 P42 P43 P48) hZ (ow hw 56 rfl) (ow hw 3 rfl) (by decide) (by decide)) q31a q31c (g := (mkF m 207 #[(vi p1), (vl q2), .second, (vl q3), .second, (vl q4), .second, (vi 1), (vi 1), (vi 1), (vi p6), (vi p7), (vi p8), (vl q9), .second, (vl q10), .second, (vl q11), .second, (vr a12), (vr a13), (vr a14), (vi 0), .unset, .unset, .unset, .unset, .unset, .unset, .unset, .unset, .unset, .unset] [(.int 1), (.long q10), (.ref a12)])) rfl (by rw [hml]; rfl) (Steps.refl _) (argsL := [(.long q10), (.int 1)]) (rest := []) (lenOf pd_8 rfl) rfl (by show 2 * 0 + _ ≤ _; exact Nat.le_of_eq rfl) (hb hby at_207) (fun _ _ => ⟨rfl, K1q, (by decide : 7 + 1 ≤ _), (by decide : 35 + 4 ≤ _)⟩)
        dsimp only [Pt.U, Pt.locs, Pt.cells, Pt.slots] at X31 l31 y31 z31 st31 hQ31
        subst l31 y31 z31
        obtain ⟨rfl, Nq31, K31q, p31_0, p31_1, p31_2, p31_3, p31_4, p31_5, p31_6, p31_7, p31_8, p31_9, p31_10, p31_11, p31_12⟩ := hQ31
        have N31 := Fr.app N1 Nq31
        have O32 : Old Z n0 T31.heap := O0.keep K31q (allS P33 (allS P34 (allS P30 all0)))
        obtain ⟨cq33, kq33, q33a, q33b, q33c⟩ := isOf hZ rfl p31_7
        obtain ⟨_, _, ⟨T33, L33, k33, n33⟩, -, X33, ⟨Lc33, hQ33, l33, y33, z33⟩, st33⟩ := X31.virtualBack hx (y := M1) (z := M1) hown (mvT hZ (ow hw 45 rfl)) (mvT hZ (ow hw 46 rfl)) (notFace_of_selects (args := #[]) (mvT hZ (ow hw 48 rfl))) (mvT hZ (ow hw 48 rfl)) (mvT hZ (ow hw 47 rfl)) (by decide) (backOf (W := 0) (rmHB1 l Z a0 hw [] wMAX_LOCK_DELAY wGRANTED wQUEUED wZERO hS a12 (1 : Int64) q11 T31.heap n0 O32 p31_9 p31_8) hZ (ow hw 49 rfl) (ow hw 3 rfl) (by decide) (by decide)) q33a q33c (g := (mkF m 215 #[(vi p1), (vl q2), .second, (vl q3), .second, (vl q4), .second, (vi 1), (vi 1), (vi 1), (vi p6), (vi p7), (vi p8), (vl q9), .second, (vl q10), .second, (vl q11), .second, (vr a12), (vr a13), (vr a14), (vi 0), .unset, .unset, .unset, .unset, .unset, .unset, .unset, .unset, .unset, .unset] [(.long q11), (.ref a12)])) rfl (by rw [hml]; rfl) (Steps.refl _) (argsL := [(.long q11)]) (rest := []) (lenOf pd_2 rfl) rfl (by show 2 * 0 + _ ≤ _; exact Nat.le_of_eq rfl) (hb hby at_215) (fun _ _ => ⟨rfl, rfl, (by decide : 8 + 0 ≤ _), (by decide : 39 + 0 ≤ _)⟩)
        dsimp only [Pt.U, Pt.locs, Pt.cells, Pt.slots] at X33 l33 y33 z33 st33 hQ33
        subst l33 y33 z33
        obtain ⟨r_33, rfl, Nq33, K33q, p33_0⟩ := hQ33
        have N33 := Fr.app N31 Nq33
        have pre34 : ∀ t, Steps p.tables e below (T33.setTop (mkF m 220 #[(vi p1), (vl q2), .second, (vl q3), .second, (vl q4), .second, (vi 1), (vi 1), (vi 1), (vi p6), (vi p7), (vi p8), (vl q9), .second, (vl q10), .second, (vl q11), .second, (vr a12), (vr a13), (vr a14), (vi 0), (vi r_33), .unset, .unset, .unset, .unset, .unset, .unset, .unset, .unset, .unset] [])) t → Steps p.tables e below (T0.setTop (mkF m 192 #[(vi p1), (vl q2), .second, (vl q3), .second, (vl q4), .second, (vi 1), (vi 1), (vi p5), (vi p6), (vi p7), (vi p8), (vl q9), .second, (vl q10), .second, (vl q11), .second, (vr a12), (vr a13), (vr a14), .unset, .unset, .unset, .unset, .unset, .unset, .unset, .unset, .unset, .unset, .unset] [])) t := by
          intro t k
          refine pre28 t ?_
          show Steps p.tables e below (T1.setTop (mkF m 201 #[(vi p1), (vl q2), .second, (vl q3), .second, (vl q4), .second, (vi 1), (vi 1), (vi 1), (vi p6), (vi p7), (vi p8), (vl q9), .second, (vl q10), .second, (vl q11), .second, (vr a12), (vr a13), (vr a14), (vi 0), .unset, .unset, .unset, .unset, .unset, .unset, .unset, .unset, .unset, .unset] [])) _
          refine XS.aload X1.here hx rfl (hb hby at_201) rfl rfl ?_
          refine XS.lload X1.here hx rfl (hb hby at_203) rfl ?_
          refine XS.iload X1.here hx rfl (hb hby at_205) rfl ?_
          refine st31.trans ?_
          refine XS.pop X31.here hx rfl (hb hby at_210) rfl rfl ?_
          refine XS.aload X31.here hx rfl (hb hby at_211) rfl rfl ?_
          refine XS.lload X31.here hx rfl (hb hby at_213) rfl ?_
          refine st33.trans ?_
          show Steps p.tables e below (T33.setTop (mkF m 218 #[(vi p1), (vl q2), .second, (vl q3), .second, (vl q4), .second, (vi 1), (vi 1), (vi 1), (vi p6), (vi p7), (vi p8), (vl q9), .second, (vl q10), .second, (vl q11), .second, (vr a12), (vr a13), (vr a14), (vi 0), .unset, .unset, .unset, .unset, .unset, .unset, .unset, .unset, .unset, .unset] [(.int r_33)])) _
          refine XS.istore X33.here hx rfl (hb hby at_218) rfl (l' := #[(vi p1), (vl q2), .second, (vl q3), .second, (vl q4), .second, (vi 1), (vi 1), (vi 1), (vi p6), (vi p7), (vi p8), (vl q9), .second, (vl q10), .second, (vl q11), .second, (vr a12), (vr a13), (vr a14), (vi 0), (vi r_33), .unset, .unset, .unset, .unset, .unset, .unset, .unset, .unset, .unset]) rfl ?_
          exact k
        obtain ⟨t9, o9, hs9, hr9⟩ := tl_rm0_f hw wMAX_LOCK_DELAY wGRANTED wQUEUED wZERO hS (1 : Int32) (1 : Int32) (1 : Int32) (0 : Int32) r_33 p1 q2 q3 q4 p6 p7 p8 q9 q10 q11 a12 a13 a14 (X33.more (by decide) (by decide)) hx hZ hby hml hown hnm hret0 hlk0 K33q N33 O32 (by simp [own_exp, lw_eq, hq29, hq30, p33_0]) rfl
        exact ⟨t9, o9, pre34 _ hs9, hr9⟩
      · skip
        obtain ⟨cq35, kq35, q35a, q35b, q35c⟩ := isOf hZ K1q P0
        obtain ⟨_, _, ⟨T35, L35, k35, n35⟩, -, X35, ⟨Lc35, hQ35, l35, y35, z35⟩, st35⟩ := X1.virtualBack hx (y := M12) (z := M12) hown (mvT hZ (ow hw 52 rfl)) (mvT hZ (ow hw 53 rfl)) (notFace_of_selects (args := #[]) (mvT hZ (ow hw 55 rfl))) (mvT hZ (ow hw 55 rfl)) (mvT hZ (ow hw 54 rfl)) (by decide) (backOf (W := 0) (au7_11 l Z a0 hw [] wMAX_LOCK_DELAY wGRANTED wQUEUED wZERO hS a12 q10 (1 : Int64) a13 a15 q2 a16 k17 a18 a14 q9 h0 n0 O0 P0 P1 P2 P3 P4 P5 P6 P8 P12 P13 P14 P15 P16 P19 P21 P9 P11 hq29 hq30 P30) hZ (ow hw 56 rfl) (ow hw 3 rfl) (by decide) (by decide)) q35a q35c (g := (mkF m 207 #[(vi p1), (vl q2), .second, (vl q3), .second, (vl q4), .second, (vi 1), (vi 1), (vi 1), (vi p6), (vi p7), (vi p8), (vl q9), .second, (vl q10), .second, (vl q11), .second, (vr a12), (vr a13), (vr a14), (vi 0), .unset, .unset, .unset, .unset, .unset, .unset, .unset, .unset, .unset, .unset] [(.int 1), (.long q10), (.ref a12)])) rfl (by rw [hml]; rfl) (Steps.refl _) (argsL := [(.long q10), (.int 1)]) (rest := []) (lenOf pd_8 rfl) rfl (by show 2 * 0 + _ ≤ _; exact Nat.le_of_eq rfl) (hb hby at_207) (fun _ _ => ⟨rfl, K1q, (by decide : 7 + 1 ≤ _), (by decide : 35 + 4 ≤ _)⟩)
        dsimp only [Pt.U, Pt.locs, Pt.cells, Pt.slots] at X35 l35 y35 z35 st35 hQ35
        subst l35 y35 z35
        obtain ⟨rfl, Nq35, K35q, p35_0, p35_1, p35_2, p35_3, p35_4, p35_5⟩ := hQ35
        have N35 := Fr.app N1 Nq35
        have O36 : Old Z n0 T35.heap := O0.keep K35q (allS P30 all0)
        obtain ⟨cq37, kq37, q37a, q37b, q37c⟩ := isOf hZ rfl p35_0
        obtain ⟨_, _, ⟨T37, L37, k37, n37⟩, -, X37, ⟨Lc37, hQ37, l37, y37, z37⟩, st37⟩ := X35.virtualBack hx (y := M1) (z := M1) hown (mvT hZ (ow hw 45 rfl)) (mvT hZ (ow hw 46 rfl)) (notFace_of_selects (args := #[]) (mvT hZ (ow hw 48 rfl))) (mvT hZ (ow hw 48 rfl)) (mvT hZ (ow hw 47 rfl)) (by decide) (backOf (W := 0) (rmHB1 l Z a0 hw [] wMAX_LOCK_DELAY wGRANTED wQUEUED wZERO hS a12 (1 : Int64) q11 T35.heap n0 O36 p35_2 p35_1) hZ (ow hw 49 rfl) (ow hw 3 rfl) (by decide) (by decide)) q37a q37c (g := (mkF m 215 #[(vi p1), (vl q2), .second, (vl q3), .second, (vl q4), .second, (vi 1), (vi 1), (vi 1), (vi p6), (vi p7), (vi p8), (vl q9), .second, (vl q10), .second, (vl q11), .second, (vr a12), (vr a13), (vr a14), (vi 0), .unset, .unset, .unset, .unset, .unset, .unset, .unset, .unset, .unset, .unset] [(.long q11), (.ref a12)])) rfl (by rw [hml]; rfl) (Steps.refl _) (argsL := [(.long q11)]) (rest := []) (lenOf pd_2 rfl) rfl (by show 2 * 0 + _ ≤ _; exact Nat.le_of_eq rfl) (hb hby at_215) (fun _ _ => ⟨rfl, rfl, (by decide : 8 + 0 ≤ _), (by decide : 39 + 0 ≤ _)⟩)
        dsimp only [Pt.U, Pt.locs, Pt.cells, Pt.slots] at X37 l37 y37 z37 st37 hQ37
        subst l37 y37 z37
        obtain ⟨r_37, rfl, Nq37, K37q, p37_0⟩ := hQ37
        have N37 := Fr.app N35 Nq37
        have pre38 : ∀ t, Steps p.tables e below (T37.setTop (mkF m 220 #[(vi p1), (vl q2), .second, (vl q3), .second, (vl q4), .second, (vi 1), (vi 1), (vi 1), (vi p6), (vi p7), (vi p8), (vl q9), .second, (vl q10), .second, (vl q11), .second, (vr a12), (vr a13), (vr a14), (vi 0), (vi r_37), .unset, .unset, .unset, .unset, .unset, .unset, .unset, .unset, .unset] [])) t → Steps p.tables e below (T0.setTop (mkF m 192 #[(vi p1), (vl q2), .second, (vl q3), .second, (vl q4), .second, (vi 1), (vi 1), (vi p5), (vi p6), (vi p7), (vi p8), (vl q9), .second, (vl q10), .second, (vl q11), .second, (vr a12), (vr a13), (vr a14), .unset, .unset, .unset, .unset, .unset, .unset, .unset, .unset, .unset, .unset, .unset] [])) t := by
          intro t k
          refine pre28 t ?_
          show Steps p.tables e below (T1.setTop (mkF m 201 #[(vi p1), (vl q2), .second, (vl q3), .second, (vl q4), .second, (vi 1), (vi 1), (vi 1), (vi p6), (vi p7), (vi p8), (vl q9), .second, (vl q10), .second, (vl q11), .second, (vr a12), (vr a13), (vr a14), (vi 0), .unset, .unset, .unset, .unset, .unset, .unset, .unset, .unset, .unset, .unset] [])) _
          refine XS.aload X1.here hx rfl (hb hby at_201) rfl rfl ?_
          refine XS.lload X1.here hx rfl (hb hby at_203) rfl ?_
          refine XS.iload X1.here hx rfl (hb hby at_205) rfl ?_
          refine st35.trans ?_
          refine XS.pop X35.here hx rfl (hb hby at_210) rfl rfl ?_
          refine XS.aload X35.here hx rfl (hb hby at_211) rfl rfl ?_
          refine XS.lload X35.here hx rfl (hb hby at_213) rfl ?_
          refine st37.trans ?_
          show Steps p.tables e below (T37.setTop (mkF m 218 #[(vi p1), (vl q2), .second, (vl q3), .second, (vl q4), .second, (vi 1), (vi 1), (vi 1), (vi p6), (vi p7), (vi p8), (vl q9), .second, (vl q10), .second, (vl q11), .second, (vr a12), (vr a13), (vr a14), (vi 0), .unset, .unset, .unset, .unset, .unset, .unset, .unset, .unset, .unset, .unset] [(.int r_37)])) _
          refine XS.istore X37.here hx rfl (hb hby at_218) rfl (l' := #[(vi p1), (vl q2), .second, (vl q3), .second, (vl q4), .second, (vi 1), (vi 1), (vi 1), (vi p6), (vi p7), (vi p8), (vl q9), .second, (vl q10), .second, (vl q11), .second, (vr a12), (vr a13), (vr a14), (vi 0), (vi r_37), .unset, .unset, .unset, .unset, .unset, .unset, .unset, .unset, .unset]) rfl ?_
          exact k
        obtain ⟨t9, o9, hs9, hr9⟩ := tl_rm0_f hw wMAX_LOCK_DELAY wGRANTED wQUEUED wZERO hS (1 : Int32) (1 : Int32) (1 : Int32) (0 : Int32) r_37 p1 q2 q3 q4 p6 p7 p8 q9 q10 q11 a12 a13 a14 (X37.more (by decide) (by decide)) hx hZ hby hml hown hnm hret0 hlk0 K37q N37 O36 (by simp [own_exp, lw_eq, hq29, hq30, p37_0]) rfl
        exact ⟨t9, o9, pre38 _ hs9, hr9⟩
    · skip
      rcases Decidable.em (q9 = q10) with hq39 | hq39
      · skip
        obtain ⟨cq40, kq40, q40a, q40b, q40c⟩ := isOf hZ K1q P0
        obtain ⟨_, _, ⟨T40, L40, k40, n40⟩, -, X40, ⟨Lc40, hQ40, l40, y40, z40⟩, st40⟩ := X1.virtualBack hx (y := M12) (z := M12) hown (mvT hZ (ow hw 52 rfl)) (mvT hZ (ow hw 53 rfl)) (notFace_of_selects (args := #[]) (mvT hZ (ow hw 55 rfl))) (mvT hZ (ow hw 55 rfl)) (mvT hZ (ow hw 54 rfl)) (by decide) (backOf (W := 0) (au7_12 l Z a0 hw [] wMAX_LOCK_DELAY wGRANTED wQUEUED wZERO hS a12 q10 a13 a15 q2 a16 k17 a18 a14 q9 h0 n0 O0 P0 P3 P5 P6 P8 P12 P13 P14 P15 P16 P17 P18 P19 P21 P9 P11 hq29 hq39 P33 P34 P38 P39 P42 P43 P48) hZ (ow hw 56 rfl) (ow hw 3 rfl) (by decide) (by decide)) q40a q40c (g := (mkF m 207 #[(vi p1), (vl q2), .second, (vl q3), .second, (vl q4), .second, (vi 1), (vi 1), (vi 1), (vi p6), (vi p7), (vi p8), (vl q9), .second, (vl q10), .second, (vl q11), .second, (vr a12), (vr a13), (vr a14), (vi 0), .unset, .unset, .unset, .unset, .unset, .unset, .unset, .unset, .unset, .unset] [(.int 1), (.long q10), (.ref a12)])) rfl (by rw [hml]; rfl) (Steps.refl _) (argsL := [(.long q10), (.int 1)]) (rest := []) (lenOf pd_8 rfl) rfl (by show 2 * 0 + _ ≤ _; exact Nat.le_of_eq rfl) (hb hby at_207) (fun _ _ => ⟨rfl, K1q, (by decide : 7 + 1 ≤ _), (by decide : 35 + 4 ≤ _)⟩)
        dsimp only [Pt.U, Pt.locs, Pt.cells, Pt.slots] at X40 l40 y40 z40 st40 hQ40
        subst l40 y40 z40
        obtain ⟨rfl, Nq40, K40q, p40_0, p40_1, p40_2, p40_3, p40_4, p40_5, p40_6⟩ := hQ40
        have N40 := Fr.app N1 Nq40
        have O41 : Old Z n0 T40.heap := O0.keep K40q (allS P33 (allS P34 all0))
        have f42 : Fld Z T40.heap a12 s4n "heldBack" "Z" (.int 0) := (P2.keep K40q (ninS P38 (ninS P39 nin0)))
        have f44 : Exa Z T40.heap a12 s4n := (P0.keep K40q)
        obtain ⟨cq43, kq43, q43a, q43b, q43c⟩ := isOf hZ rfl f44
        obtain ⟨_, _, ⟨T43, L43, k43, n43⟩, -, X43, ⟨Lc43, hQ43, l43, y43, z43⟩, st43⟩ := X40.virtualBack hx (y := M1) (z := M1) hown (mvT hZ (ow hw 45 rfl)) (mvT hZ (ow hw 46 rfl)) (notFace_of_selects (args := #[]) (mvT hZ (ow hw 48 rfl))) (mvT hZ (ow hw 48 rfl)) (mvT hZ (ow hw 47 rfl)) (by decide) (backOf (W := 0) (rmHB0 l Z a0 hw [] wMAX_LOCK_DELAY wGRANTED wQUEUED wZERO hS a12 q11 T40.heap n0 O41 f42) hZ (ow hw 49 rfl) (ow hw 3 rfl) (by decide) (by decide)) q43a q43c (g := (mkF m 215 #[(vi p1), (vl q2), .second, (vl q3), .second, (vl q4), .second, (vi 1), (vi 1), (vi 1), (vi p6), (vi p7), (vi p8), (vl q9), .second, (vl q10), .second, (vl q11), .second, (vr a12), (vr a13), (vr a14), (vi 0), .unset, .unset, .unset, .unset, .unset, .unset, .unset, .unset, .unset, .unset] [(.long q11), (.ref a12)])) rfl (by rw [hml]; rfl) (Steps.refl _) (argsL := [(.long q11)]) (rest := []) (lenOf pd_2 rfl) rfl (by show 2 * 0 + _ ≤ _; exact Nat.le_of_eq rfl) (hb hby at_215) (fun _ _ => ⟨rfl, rfl, (by decide : 8 + 0 ≤ _), (by decide : 39 + 0 ≤ _)⟩)
        dsimp only [Pt.U, Pt.locs, Pt.cells, Pt.slots] at X43 l43 y43 z43 st43 hQ43
        subst l43 y43 z43
        obtain ⟨rfl, Nq43, K43q⟩ := hQ43
        have N43 := Fr.app N40 Nq43
        have pre45 : ∀ t, Steps p.tables e below (T43.setTop (mkF m 220 #[(vi p1), (vl q2), .second, (vl q3), .second, (vl q4), .second, (vi 1), (vi 1), (vi 1), (vi p6), (vi p7), (vi p8), (vl q9), .second, (vl q10), .second, (vl q11), .second, (vr a12), (vr a13), (vr a14), (vi 0), (vi 0), .unset, .unset, .unset, .unset, .unset, .unset, .unset, .unset, .unset] [])) t → Steps p.tables e below (T0.setTop (mkF m 192 #[(vi p1), (vl q2), .second, (vl q3), .second, (vl q4), .second, (vi 1), (vi 1), (vi p5), (vi p6), (vi p7), (vi p8), (vl q9), .second, (vl q10), .second, (vl q11), .second, (vr a12), (vr a13), (vr a14), .unset, .unset, .unset, .unset, .unset, .unset, .unset, .unset, .unset, .unset, .unset] [])) t := by
          intro t k
          refine pre28 t ?_
          show Steps p.tables e below (T1.setTop (mkF m 201 #[(vi p1), (vl q2), .second, (vl q3), .second, (vl q4), .second, (vi 1), (vi 1), (vi 1), (vi p6), (vi p7), (vi p8), (vl q9), .second, (vl q10), .second, (vl q11), .second, (vr a12), (vr a13), (vr a14), (vi 0), .unset, .unset, .unset, .unset, .unset, .unset, .unset, .unset, .unset, .unset] [])) _
          refine XS.aload X1.here hx rfl (hb hby at_201) rfl rfl ?_
          refine XS.lload X1.here hx rfl (hb hby at_203) rfl ?_
          refine XS.iload X1.here hx rfl (hb hby at_205) rfl ?_
          refine st40.trans ?_
          refine XS.pop X40.here hx rfl (hb hby at_210) rfl rfl ?_
          refine XS.aload X40.here hx rfl (hb hby at_211) rfl rfl ?_
          refine XS.lload X40.here hx rfl (hb hby at_213) rfl ?_
          refine st43.trans ?_
          show Steps p.tables e below (T43.setTop (mkF m 218 #[(vi p1), (vl q2), .second, (vl q3), .second, (vl q4), .second, (vi 1), (vi 1), (vi 1), (vi p6), (vi p7), (vi p8), (vl q9), .second, (vl q10), .second, (vl q11), .second, (vr a12), (vr a13), (vr a14), (vi 0), .unset, .unset, .unset, .unset, .unset, .unset, .unset, .unset, .unset, .unset] [(.int 0)])) _
          refine XS.istore X43.here hx rfl (hb hby at_218) rfl (l' := #[(vi p1), (vl q2), .second, (vl q3), .second, (vl q4), .second, (vi 1), (vi 1), (vi 1), (vi p6), (vi p7), (vi p8), (vl q9), .second, (vl q10), .second, (vl q11), .second, (vr a12), (vr a13), (vr a14), (vi 0), (vi 0), .unset, .unset, .unset, .unset, .unset, .unset, .unset, .unset, .unset]) rfl ?_
          exact k
        obtain ⟨t9, o9, hs9, hr9⟩ := tl_rm0_f hw wMAX_LOCK_DELAY wGRANTED wQUEUED wZERO hS (1 : Int32) (1 : Int32) (1 : Int32) (0 : Int32) (0 : Int32) p1 q2 q3 q4 p6 p7 p8 q9 q10 q11 a12 a13 a14 (X43.more (by decide) (by decide)) hx hZ hby hml hown hnm hret0 hlk0 K43q N43 O41 (by simp [own_exp, lw_eq, hq29, hq39]) rfl
        exact ⟨t9, o9, pre45 _ hs9, hr9⟩
      · skip
        obtain ⟨cq46, kq46, q46a, q46b, q46c⟩ := isOf hZ K1q P0
        obtain ⟨_, _, ⟨T46, L46, k46, n46⟩, -, X46, ⟨Lc46, hQ46, l46, y46, z46⟩, st46⟩ := X1.virtualBack hx (y := M12) (z := M12) hown (mvT hZ (ow hw 52 rfl)) (mvT hZ (ow hw 53 rfl)) (notFace_of_selects (args := #[]) (mvT hZ (ow hw 55 rfl))) (mvT hZ (ow hw 55 rfl)) (mvT hZ (ow hw 54 rfl)) (by decide) (backOf (W := 0) (au7_13 l Z a0 hw [] wMAX_LOCK_DELAY wGRANTED wQUEUED wZERO hS a12 q10 a13 a15 q2 a16 k17 a18 a14 q9 h0 n0 O0 P0 P3 P5 P6 P8 P12 P13 P14 P15 P16 P19 P21 P9 P11 hq29 hq39) hZ (ow hw 56 rfl) (ow hw 3 rfl) (by decide) (by decide)) q46a q46c (g := (mkF m 207 #[(vi p1), (vl q2), .second, (vl q3), .second, (vl q4), .second, (vi 1), (vi 1), (vi 1), (vi p6), (vi p7), (vi p8), (vl q9), .second, (vl q10), .second, (vl q11), .second, (vr a12), (vr a13), (vr a14), (vi 0), .unset, .unset, .unset, .unset, .unset, .unset, .unset, .unset, .unset, .unset] [(.int 1), (.long q10), (.ref a12)])) rfl (by rw [hml]; rfl) (Steps.refl _) (argsL := [(.long q10), (.int 1)]) (rest := []) (lenOf pd_8 rfl) rfl (by show 2 * 0 + _ ≤ _; exact Nat.le_of_eq rfl) (hb hby at_207) (fun _ _ => ⟨rfl, K1q, (by decide : 7 + 1 ≤ _), (by decide : 35 + 4 ≤ _)⟩)
        dsimp only [Pt.U, Pt.locs, Pt.cells, Pt.slots] at X46 l46 y46 z46 st46 hQ46
        subst l46 y46 z46
        obtain ⟨rfl, Nq46, K46q⟩ := hQ46
        have N46 := Fr.app N1 Nq46
        have O47 : Old Z n0 T46.heap := O0.keep K46q all0
        have f48 : Fld Z T46.heap a12 s4n "heldBack" "Z" (.int 0) := (P2.keep K46q nin0)
        have f50 : Exa Z T46.heap a12 s4n := (P0.keep K46q)
        obtain ⟨cq49, kq49, q49a, q49b, q49c⟩ := isOf hZ rfl f50
        obtain ⟨_, _, ⟨T49, L49, k49, n49⟩, -, X49, ⟨Lc49, hQ49, l49, y49, z49⟩, st49⟩ := X46.virtualBack hx (y := M1) (z := M1) hown (mvT hZ (ow hw 45 rfl)) (mvT hZ (ow hw 46 rfl)) (notFace_of_selects (args := #[]) (mvT hZ (ow hw 48 rfl))) (mvT hZ (ow hw 48 rfl)) (mvT hZ (ow hw 47 rfl)) (by decide) (backOf (W := 0) (rmHB0 l Z a0 hw [] wMAX_LOCK_DELAY wGRANTED wQUEUED wZERO hS a12 q11 T46.heap n0 O47 f48) hZ (ow hw 49 rfl) (ow hw 3 rfl) (by decide) (by decide)) q49a q49c (g := (mkF m 215 #[(vi p1), (vl q2), .second, (vl q3), .second, (vl q4), .second, (vi 1), (vi 1), (vi 1), (vi p6), (vi p7), (vi p8), (vl q9), .second, (vl q10), .second, (vl q11), .second, (vr a12), (vr a13), (vr a14), (vi 0), .unset, .unset, .unset, .unset, .unset, .unset, .unset, .unset, .unset, .unset] [(.long q11), (.ref a12)])) rfl (by rw [hml]; rfl) (Steps.refl _) (argsL := [(.long q11)]) (rest := []) (lenOf pd_2 rfl) rfl (by show 2 * 0 + _ ≤ _; exact Nat.le_of_eq rfl) (hb hby at_215) (fun _ _ => ⟨rfl, rfl, (by decide : 8 + 0 ≤ _), (by decide : 39 + 0 ≤ _)⟩)
        dsimp only [Pt.U, Pt.locs, Pt.cells, Pt.slots] at X49 l49 y49 z49 st49 hQ49
        subst l49 y49 z49
        obtain ⟨rfl, Nq49, K49q⟩ := hQ49
        have N49 := Fr.app N46 Nq49
        have pre51 : ∀ t, Steps p.tables e below (T49.setTop (mkF m 220 #[(vi p1), (vl q2), .second, (vl q3), .second, (vl q4), .second, (vi 1), (vi 1), (vi 1), (vi p6), (vi p7), (vi p8), (vl q9), .second, (vl q10), .second, (vl q11), .second, (vr a12), (vr a13), (vr a14), (vi 0), (vi 0), .unset, .unset, .unset, .unset, .unset, .unset, .unset, .unset, .unset] [])) t → Steps p.tables e below (T0.setTop (mkF m 192 #[(vi p1), (vl q2), .second, (vl q3), .second, (vl q4), .second, (vi 1), (vi 1), (vi p5), (vi p6), (vi p7), (vi p8), (vl q9), .second, (vl q10), .second, (vl q11), .second, (vr a12), (vr a13), (vr a14), .unset, .unset, .unset, .unset, .unset, .unset, .unset, .unset, .unset, .unset, .unset] [])) t := by
          intro t k
          refine pre28 t ?_
          show Steps p.tables e below (T1.setTop (mkF m 201 #[(vi p1), (vl q2), .second, (vl q3), .second, (vl q4), .second, (vi 1), (vi 1), (vi 1), (vi p6), (vi p7), (vi p8), (vl q9), .second, (vl q10), .second, (vl q11), .second, (vr a12), (vr a13), (vr a14), (vi 0), .unset, .unset, .unset, .unset, .unset, .unset, .unset, .unset, .unset, .unset] [])) _
          refine XS.aload X1.here hx rfl (hb hby at_201) rfl rfl ?_
          refine XS.lload X1.here hx rfl (hb hby at_203) rfl ?_
          refine XS.iload X1.here hx rfl (hb hby at_205) rfl ?_
          refine st46.trans ?_
          refine XS.pop X46.here hx rfl (hb hby at_210) rfl rfl ?_
          refine XS.aload X46.here hx rfl (hb hby at_211) rfl rfl ?_
          refine XS.lload X46.here hx rfl (hb hby at_213) rfl ?_
          refine st49.trans ?_
          show Steps p.tables e below (T49.setTop (mkF m 218 #[(vi p1), (vl q2), .second, (vl q3), .second, (vl q4), .second, (vi 1), (vi 1), (vi 1), (vi p6), (vi p7), (vi p8), (vl q9), .second, (vl q10), .second, (vl q11), .second, (vr a12), (vr a13), (vr a14), (vi 0), .unset, .unset, .unset, .unset, .unset, .unset, .unset, .unset, .unset, .unset] [(.int 0)])) _
          refine XS.istore X49.here hx rfl (hb hby at_218) rfl (l' := #[(vi p1), (vl q2), .second, (vl q3), .second, (vl q4), .second, (vi 1), (vi 1), (vi 1), (vi p6), (vi p7), (vi p8), (vl q9), .second, (vl q10), .second, (vl q11), .second, (vr a12), (vr a13), (vr a14), (vi 0), (vi 0), .unset, .unset, .unset, .unset, .unset, .unset, .unset, .unset, .unset]) rfl ?_
          exact k
        obtain ⟨t9, o9, hs9, hr9⟩ := tl_rm0_f hw wMAX_LOCK_DELAY wGRANTED wQUEUED wZERO hS (1 : Int32) (1 : Int32) (1 : Int32) (0 : Int32) (0 : Int32) p1 q2 q3 q4 p6 p7 p8 q9 q10 q11 a12 a13 a14 (X49.more (by decide) (by decide)) hx hZ hby hml hown hnm hret0 hlk0 K49q N49 O47 (by simp [own_exp, lw_eq, hq29, hq39]) rfl
        exact ⟨t9, o9, pre51 _ hs9, hr9⟩
theorem tl_rm0_a {p : Program} {l : Launch} {e : Env} {s : State} {m : MethodId} {below : List Frame} {meth : Method} {c : Code} {T0 : State} {locs : List Loc} {Z : State} {a0 : Array Value} {h0 : Heap} {n0 : Nat} {margs : Array Value} (hw : ∀ d ∈ tables_1, d.before a0 Z = true) (wMAX_LOCK_DELAY : Addr) (wGRANTED : Addr) (wQUEUED : Addr) (wZERO : Addr) (hS : SS Z wMAX_LOCK_DELAY wGRANTED wQUEUED wZERO) (p1 : Int32) (q2 : Int64) (q3 : Int64) (q4 : Int64) (p5 : Int32) (p6 : Int32) (p7 : Int32) (p8 : Int32) (p9 : Int32) (p10 : Int32) (q11 : Int64) (q12 : Int64) (q13 : Int64) (a14 : Addr) (a15 : Addr) (a16 : Addr) (a17 : Addr) (a18 : Addr) (k19 : ClassId)
    (X0 : Stand p l e room_1 s m margs below meth c T0 locs 5 29) (hx : p.tables.exec = Jvm.exec) (hZ : Z.Warmed39 s.vm) (hby : c.code = code) (hml : c.maxLocals = 33) (hown : s.vm.findClass s5n = some m.cls) (hnm : meth.name = "law") (hret0 : meth.sig.returnType = some .boolean) (hlk0 : meth.locks = false) (e0 : T0.heap = h0) (N0 : Fr n0 locs) (O0 : Old Z n0 h0) (P0 : Exa Z h0 a14 s4n) (P1 : Fld Z h0 a14 s4n "generation" "J" (.long 0)) (P2 : Fld Z h0 a14 s4n "heldBack" "Z" (.int 0)) (P3 : Fld Z h0 a14 s4n "holder" s9n .null) (P4 : Fld Z h0 a14 s4n s10n s0n (.ref wZERO)) (P5 : Fld Z h0 a14 s4n "waiters" s11n (.ref a17)) (P6 : Exa Z h0 a15 s3n) (P7 : Fld Z h0 a15 s3n "handle" "J" (.long 1)) (P8 : Fld Z h0 a15 s3n "session" "J" (.long q2)) (P9 : Exa Z h0 a16 s3n) (P10 : Fld Z h0 a16 s3n "handle" "J" (.long 2)) (P11 : Fld Z h0 a16 s3n "session" "J" (.long q11)) (P12 : Exa Z h0 a17 s6n) (P13 : Fld Z h0 a17 s6n "elements" s7n (.ref a18)) (P14 : Fld Z h0 a17 s6n "head" "I" (.int 0)) (P15 : Fld Z h0 a17 s6n "tail" "I" (.int 0)) (P16 : Arv Z h0 a18 k19 (.object s8n) (17 : Int32) ([.null, .null, .null, .null, .null, .null, .null, .null, .null, .null, .null, .null, .null, .null, .null, .null, .null]) .null) (P17 : Ovr Z k19 s8n) (P18 : Exa Z h0 a18 s7n) (P28 : p5 = (0 : Int32) ∨ p5 = (1 : Int32)) (P29 : p6 = (0 : Int32) ∨ p6 = (1 : Int32)) (P30 : p7 = (0 : Int32) ∨ p7 = (1 : Int32)) (P31 : n0 ≤ a14) (P34 : n0 ≤ a17) (P35 : n0 ≤ a18) (P36 : a14 ≠ a15) (P37 : a14 ≠ a16) (P38 : a14 ≠ a17) (P39 : a14 ≠ a18) (P41 : a15 ≠ a17) (P42 : a15 ≠ a18) (P43 : a16 ≠ a17) (P44 : a16 ≠ a18) (P45 : a17 ≠ a18) :
    ∃ s₂ o, Steps p.tables e below (T0.setTop (mkF m 158 #[(vi p1), (vl q2), .second, (vl q3), .second, (vl q4), .second, (vi p5), (vi p6), (vi p7), (vi p8), (vi p9), (vi p10), (vl q11), .second, (vl q12), .second, (vl q13), .second, (vr a14), (vr a15), (vr a16), .unset, .unset, .unset, .unset, .unset, .unset, .unset, .unset, .unset, .unset, .unset] [])) s₂ ∧ s₂.status = .running ∧ Ended s₂ below o ∧ ∃ v L, o = .returned v ∧ (v = some (.int 1) ∧ Fr n0 L) ∧ FrameEnd s o s₂ L room_1.cells room_1.slots := by
  have pre0 : ∀ t, Steps p.tables e below (T0.setTop (mkF m 158 #[(vi p1), (vl q2), .second, (vl q3), .second, (vl q4), .second, (vi p5), (vi p6), (vi p7), (vi p8), (vi p9), (vi p10), (vl q11), .second, (vl q12), .second, (vl q13), .second, (vr a14), (vr a15), (vr a16), .unset, .unset, .unset, .unset, .unset, .unset, .unset, .unset, .unset, .unset, .unset] [])) t → Steps p.tables e below (T0.setTop (mkF m 158 #[(vi p1), (vl q2), .second, (vl q3), .second, (vl q4), .second, (vi p5), (vi p6), (vi p7), (vi p8), (vi p9), (vi p10), (vl q11), .second, (vl q12), .second, (vl q13), .second, (vr a14), (vr a15), (vr a16), .unset, .unset, .unset, .unset, .unset, .unset, .unset, .unset, .unset, .unset, .unset] [])) t := fun t k => k
  have hS0 := hS
  obtain ⟨S_wMAX_LOCK_DELAY, E_wMAX_LOCK_DELAY, S_wGRANTED, E_wGRANTED, S_wQUEUED, E_wQUEUED, F_seconds_wMAX_LOCK_DELAY, F_nanos_wMAX_LOCK_DELAY, S_wZERO, E_wZERO, F_seconds_wZERO, F_nanos_wZERO⟩ := hS0
  rcases (id (P28)) with hk1 | hk1
  · skip
    have pre2 : ∀ t, Steps p.tables e below (T0.setTop (mkF m 158 #[(vi p1), (vl q2), .second, (vl q3), .second, (vl q4), .second, (vi 0), (vi p6), (vi p7), (vi p8), (vi p9), (vi p10), (vl q11), .second, (vl q12), .second, (vl q13), .second, (vr a14), (vr a15), (vr a16), .unset, .unset, .unset, .unset, .unset, .unset, .unset, .unset, .unset, .unset, .unset] [])) t → Steps p.tables e below (T0.setTop (mkF m 158 #[(vi p1), (vl q2), .second, (vl q3), .second, (vl q4), .second, (vi p5), (vi p6), (vi p7), (vi p8), (vi p9), (vi p10), (vl q11), .second, (vl q12), .second, (vl q13), .second, (vr a14), (vr a15), (vr a16), .unset, .unset, .unset, .unset, .unset, .unset, .unset, .unset, .unset, .unset, .unset] [])) t := by
      intro t k
      refine pre0 t ?_
      rw [hk1]
      exact k
    have pre3 : ∀ t, Steps p.tables e below (T0.setTop (mkF m 175 #[(vi p1), (vl q2), .second, (vl q3), .second, (vl q4), .second, (vi 0), (vi p6), (vi p7), (vi p8), (vi p9), (vi p10), (vl q11), .second, (vl q12), .second, (vl q13), .second, (vr a14), (vr a15), (vr a16), .unset, .unset, .unset, .unset, .unset, .unset, .unset, .unset, .unset, .unset, .unset] [])) t → Steps p.tables e below (T0.setTop (mkF m 158 #[(vi p1), (vl q2), .second, (vl q3), .second, (vl q4), .second, (vi p5), (vi p6), (vi p7), (vi p8), (vi p9), (vi p10), (vl q11), .second, (vl q12), .second, (vl q13), .second, (vr a14), (vr a15), (vr a16), .unset, .unset, .unset, .unset, .unset, .unset, .unset, .unset, .unset, .unset, .unset] [])) t := by
      intro t k
      refine pre2 t ?_
      show Steps p.tables e below (T0.setTop (mkF m 158 #[(vi p1), (vl q2), .second, (vl q3), .second, (vl q4), .second, (vi 0), (vi p6), (vi p7), (vi p8), (vi p9), (vi p10), (vl q11), .second, (vl q12), .second, (vl q13), .second, (vr a14), (vr a15), (vr a16), .unset, .unset, .unset, .unset, .unset, .unset, .unset, .unset, .unset, .unset, .unset] [])) _
      refine XS.iload X0.here hx rfl (hb hby at_158) rfl ?_
      refine XS.ifYes X0.here hx rfl (pc0 := 160) (pc' := 175) rfl (hb hby at_160) rfl ((if0 _ _).trans (teq (by decide : (0 : Int32) = (0 : Int32))).1) (by decide) (by decide) ?_
      exact k
    rcases (id (P29)) with hk4 | hk4
    · skip
      have pre5 : ∀ t, Steps p.tables e below (T0.setTop (mkF m 175 #[(vi p1), (vl q2), .second, (vl q3), .second, (vl q4), .second, (vi 0), (vi 0), (vi p7), (vi p8), (vi p9), (vi p10), (vl q11), .second, (vl q12), .second, (vl q13), .second, (vr a14), (vr a15), (vr a16), .unset, .unset, .unset, .unset, .unset, .unset, .unset, .unset, .unset, .unset, .unset] [])) t → Steps p.tables e below (T0.setTop (mkF m 158 #[(vi p1), (vl q2), .second, (vl q3), .second, (vl q4), .second, (vi p5), (vi p6), (vi p7), (vi p8), (vi p9), (vi p10), (vl q11), .second, (vl q12), .second, (vl q13), .second, (vr a14), (vr a15), (vr a16), .unset, .unset, .unset, .unset, .unset, .unset, .unset, .unset, .unset, .unset, .unset] [])) t := by
        intro t k
        refine pre3 t ?_
        rw [hk4]
        exact k
      have pre6 : ∀ t, Steps p.tables e below (T0.setTop (mkF m 192 #[(vi p1), (vl q2), .second, (vl q3), .second, (vl q4), .second, (vi 0), (vi 0), (vi p7), (vi p8), (vi p9), (vi p10), (vl q11), .second, (vl q12), .second, (vl q13), .second, (vr a14), (vr a15), (vr a16), .unset, .unset, .unset, .unset, .unset, .unset, .unset, .unset, .unset, .unset, .unset] [])) t → Steps p.tables e below (T0.setTop (mkF m 158 #[(vi p1), (vl q2), .second, (vl q3), .second, (vl q4), .second, (vi p5), (vi p6), (vi p7), (vi p8), (vi p9), (vi p10), (vl q11), .second, (vl q12), .second, (vl q13), .second, (vr a14), (vr a15), (vr a16), .unset, .unset, .unset, .unset, .unset, .unset, .unset, .unset, .unset, .unset, .unset] [])) t := by
        intro t k
        refine pre5 t ?_
        show Steps p.tables e below (T0.setTop (mkF m 175 #[(vi p1), (vl q2), .second, (vl q3), .second, (vl q4), .second, (vi 0), (vi 0), (vi p7), (vi p8), (vi p9), (vi p10), (vl q11), .second, (vl q12), .second, (vl q13), .second, (vr a14), (vr a15), (vr a16), .unset, .unset, .unset, .unset, .unset, .unset, .unset, .unset, .unset, .unset, .unset] [])) _
        refine XS.iload X0.here hx rfl (hb hby at_175) rfl ?_
        refine XS.ifYes X0.here hx rfl (pc0 := 177) (pc' := 192) rfl (hb hby at_177) rfl ((if0 _ _).trans (teq (by decide : (0 : Int32) = (0 : Int32))).1) (by decide) (by decide) ?_
        exact k
      obtain ⟨t9, o9, hs9, hr9⟩ := tl_tl_rm0_a_w hw wMAX_LOCK_DELAY wGRANTED wQUEUED wZERO hS p1 q2 q3 q4 p7 p8 p9 p10 q11 q12 q13 a14 a15 a16 a17 a18 k19 X0 hx hZ hby hml hown hnm hret0 hlk0 e0 N0 O0 P0 P2 P3 P5 P12 P13 P14 P15 P16 P30
      exact ⟨t9, o9, pre6 _ hs9, hr9⟩
    · skip
      have pre7 : ∀ t, Steps p.tables e below (T0.setTop (mkF m 175 #[(vi p1), (vl q2), .second, (vl q3), .second, (vl q4), .second, (vi 0), (vi 1), (vi p7), (vi p8), (vi p9), (vi p10), (vl q11), .second, (vl q12), .second, (vl q13), .second, (vr a14), (vr a15), (vr a16), .unset, .unset, .unset, .unset, .unset, .unset, .unset, .unset, .unset, .unset, .unset] [])) t → Steps p.tables e below (T0.setTop (mkF m 158 #[(vi p1), (vl q2), .second, (vl q3), .second, (vl q4), .second, (vi p5), (vi p6), (vi p7), (vi p8), (vi p9), (vi p10), (vl q11), .second, (vl q12), .second, (vl q13), .second, (vr a14), (vr a15), (vr a16), .unset, .unset, .unset, .unset, .unset, .unset, .unset, .unset, .unset, .unset, .unset] [])) t := by
        intro t k
        refine pre3 t ?_
        rw [hk4]
        exact k
      obtain ⟨T8, X8, e8, st8⟩ := getS2 X0 hx hZ hown (host := "") (Or.inl (ow hw 111 rfl)) Via.refl e0 (S_wMAX_LOCK_DELAY.ext O0.2) (g := (mkF m 184 #[(vi p1), (vl q2), .second, (vl q3), .second, (vl q4), .second, (vi 0), (vi 1), (vi p7), (vi p8), (vi p9), (vi p10), (vl q11), .second, (vl q12), .second, (vl q13), .second, (vr a14), (vr a15), (vr a16), .unset, .unset, .unset, .unset, .unset, .unset, .unset, .unset, .unset, .unset, .unset] [(.ref a16), (.ref a14)])) rfl (hb hby at_184)
      obtain ⟨cq9, kq9, q9a, q9b, q9c⟩ := isOf hZ e8 P0
      obtain ⟨_, _, ⟨T9, L9, k9, n9⟩, -, X9, ⟨Lc9, hQ9, l9, y9, z9⟩, st9⟩ := X8.virtualBack hx (y := M16) (z := M16) hown (mvT hZ (ow hw 114 rfl)) (mvT hZ (ow hw 115 rfl)) (notFace_of_selects (args := #[]) (mvT hZ (ow hw 117 rfl))) (mvT hZ (ow hw 117 rfl)) (mvT hZ (ow hw 116 rfl)) (by decide) (backOf (W := 0) (au14_0 l Z a0 hw [] wMAX_LOCK_DELAY wGRANTED wQUEUED wZERO hS a14 a16 (0 : Int64) a17 h0 n0 O0 P0 P1 P2 P3 P4 P5 P9 P31) hZ (ow hw 118 rfl) (ow hw 3 rfl) (by decide) (by decide)) q9a q9c (g := (mkF m 188 #[(vi p1), (vl q2), .second, (vl q3), .second, (vl q4), .second, (vi 0), (vi 1), (vi p7), (vi p8), (vi p9), (vi p10), (vl q11), .second, (vl q12), .second, (vl q13), .second, (vr a14), (vr a15), (vr a16), .unset, .unset, .unset, .unset, .unset, .unset, .unset, .unset, .unset, .unset, .unset] [(.int 1), (.ref wMAX_LOCK_DELAY), (.ref a16), (.ref a14)])) rfl (by rw [hml]; rfl) (Steps.refl _) (argsL := [(.ref a16), (.ref wMAX_LOCK_DELAY), (.int 1)]) (rest := []) (lenOf pd_11 rfl) rfl (by show 2 * 0 + _ ≤ _; exact Nat.le_of_eq rfl) (hb hby at_188) (fun _ _ => ⟨rfl, e8, (by decide : 5 + 0 ≤ _), (by decide : 29 + 0 ≤ _)⟩)
      dsimp only [Pt.U, Pt.locs, Pt.cells, Pt.slots] at X9 l9 y9 z9 st9 hQ9
      subst l9 y9 z9
      obtain ⟨rfl, Nq9, K9q, p9_0, p9_1, p9_2, p9_3, p9_4, p9_5⟩ := hQ9
      have N9 := Fr.app N0 Nq9
      have O10 : Old Z n0 T9.heap := O0.keep K9q (allS P31 all0)
      have p9_1f : Fld Z T9.heap a14 s4n "generation" "J" (.long 1) := by have q := p9_1; rw [(by decide : ((0 : Int64) + (1 : Int64)) = (1 : Int64))] at q; exact q
      have pre11 : ∀ t, Steps p.tables e below (T9.setTop (mkF m 192 #[(vi p1), (vl q2), .second, (vl q3), .second, (vl q4), .second, (vi 0), (vi 1), (vi p7), (vi p8), (vi p9), (vi p10), (vl q11), .second, (vl q12), .second, (vl q13), .second, (vr a14), (vr a15), (vr a16), .unset, .unset, .unset, .unset, .unset, .unset, .unset, .unset, .unset, .unset, .unset] [])) t → Steps p.tables e below (T0.setTop (mkF m 158 #[(vi p1), (vl q2), .second, (vl q3), .second, (vl q4), .second, (vi p5), (vi p6), (vi p7), (vi p8), (vi p9), (vi p10), (vl q11), .second, (vl q12), .second, (vl q13), .second, (vr a14), (vr a15), (vr a16), .unset, .unset, .unset, .unset, .unset, .unset, .unset, .unset, .unset, .unset, .unset] [])) t := by
        intro t k
        refine pre7 t ?_
        show Steps p.tables e below (T0.setTop (mkF m 175 #[(vi p1), (vl q2), .second, (vl q3), .second, (vl q4), .second, (vi 0), (vi 1), (vi p7), (vi p8), (vi p9), (vi p10), (vl q11), .second, (vl q12), .second, (vl q13), .second, (vr a14), (vr a15), (vr a16), .unset, .unset, .unset, .unset, .unset, .unset, .unset, .unset, .unset, .unset, .unset] [])) _
        refine XS.iload X0.here hx rfl (hb hby at_175) rfl ?_
        refine XS.ifNo X0.here hx rfl (hb hby at_177) rfl ((if0 _ _).trans (feq (by decide : ¬ ((1 : Int32) = (0 : Int32)))).1) ?_
        refine XS.aload X0.here hx rfl (hb hby at_180) rfl rfl ?_
        refine XS.aload X0.here hx rfl (hb hby at_182) rfl rfl ?_
        refine st8 _ ?_
        refine XS.iconst X8.here hx rfl (hb hby at_187) ?_
        refine st9.trans ?_
        refine XS.pop X9.here hx rfl (hb hby at_191) rfl rfl ?_
        exact k
      have f12 : Exa Z T9.heap a16 s3n := (P9.keep K9q)
      have f13 : Fld Z T9.heap a16 s3n "session" "J" (.long q11) := (P11.keep K9q (ninS (Ne.symm P37) nin0))
      have f14 : Exa Z T9.heap a17 s6n := (P12.keep K9q)
      have f15 : Fld Z T9.heap a17 s6n "elements" s7n (.ref a18) := (P13.keep K9q (ninS (Ne.symm P38) nin0))
      have f16 : Fld Z T9.heap a17 s6n "head" "I" (.int 0) := (P14.keep K9q (ninS (Ne.symm P38) nin0))
      have f17 : Fld Z T9.heap a17 s6n "tail" "I" (.int 0) := (P15.keep K9q (ninS (Ne.symm P38) nin0))
      have f18 : Arv Z T9.heap a18 k19 (.object s8n) (17 : Int32) ([.null, .null, .null, .null, .null, .null, .null, .null, .null, .null, .null, .null, .null, .null, .null, .null, .null]) .null := (P16.keep K9q (ninS (Ne.symm P39) nin0))
      obtain ⟨t9, o9, hs9, hr9⟩ := tl_tl_rm0_a_w_18 hw wMAX_LOCK_DELAY wGRANTED wQUEUED wZERO hS p1 q2 q3 q4 p7 p8 p9 p10 q11 q12 q13 a14 a15 a16 a17 a18 k19 X9 hx hZ hby hml hown hnm hret0 hlk0 rfl N9 O10 p9_0 p9_1f p9_2 p9_3 p9_4 p9_5 f12 f13 f14 f15 f16 f17 f18 P30 P31 P38 P39
      exact ⟨t9, o9, pre11 _ hs9, hr9⟩
  · skip
    have pre19 : ∀ t, Steps p.tables e below (T0.setTop (mkF m 158 #[(vi p1), (vl q2), .second, (vl q3), .second, (vl q4), .second, (vi 1), (vi p6), (vi p7), (vi p8), (vi p9), (vi p10), (vl q11), .second, (vl q12), .second, (vl q13), .second, (vr a14), (vr a15), (vr a16), .unset, .unset, .unset, .unset, .unset, .unset, .unset, .unset, .unset, .unset, .unset] [])) t → Steps p.tables e below (T0.setTop (mkF m 158 #[(vi p1), (vl q2), .second, (vl q3), .second, (vl q4), .second, (vi p5), (vi p6), (vi p7), (vi p8), (vi p9), (vi p10), (vl q11), .second, (vl q12), .second, (vl q13), .second, (vr a14), (vr a15), (vr a16), .unset, .unset, .unset, .unset, .unset, .unset, .unset, .unset, .unset, .unset, .unset] [])) t := by
      intro t k
      refine pre0 t ?_
      rw [hk1]
      exact k
    obtain ⟨T20, X20, e20, st20⟩ := getS2 X0 hx hZ hown (host := "") (Or.inl (ow hw 111 rfl)) Via.refl e0 (S_wMAX_LOCK_DELAY.ext O0.2) (g := (mkF m 167 #[(vi p1), (vl q2), .second, (vl q3), .second, (vl q4), .second, (vi 1), (vi p6), (vi p7), (vi p8), (vi p9), (vi p10), (vl q11), .second, (vl q12), .second, (vl q13), .second, (vr a14), (vr a15), (vr a16), .unset, .unset, .unset, .unset, .unset, .unset, .unset, .unset, .unset, .unset, .unset] [(.ref a15), (.ref a14)])) rfl (hb hby at_167)
    obtain ⟨cq21, kq21, q21a, q21b, q21c⟩ := isOf hZ e20 P0
    obtain ⟨_, _, ⟨T21, L21, k21, n21⟩, -, X21, ⟨Lc21, hQ21, l21, y21, z21⟩, st21⟩ := X20.virtualBack hx (y := M16) (z := M16) hown (mvT hZ (ow hw 114 rfl)) (mvT hZ (ow hw 115 rfl)) (notFace_of_selects (args := #[]) (mvT hZ (ow hw 117 rfl))) (mvT hZ (ow hw 117 rfl)) (mvT hZ (ow hw 116 rfl)) (by decide) (backOf (W := 0) (au14_1 l Z a0 hw [] wMAX_LOCK_DELAY wGRANTED wQUEUED wZERO hS a14 a15 (0 : Int64) a17 h0 n0 O0 P0 P1 P2 P3 P4 P5 P6 P31) hZ (ow hw 118 rfl) (ow hw 3 rfl) (by decide) (by decide)) q21a q21c (g := (mkF m 171 #[(vi p1), (vl q2), .second, (vl q3), .second, (vl q4), .second, (vi 1), (vi p6), (vi p7), (vi p8), (vi p9), (vi p10), (vl q11), .second, (vl q12), .second, (vl q13), .second, (vr a14), (vr a15), (vr a16), .unset, .unset, .unset, .unset, .unset, .unset, .unset, .unset, .unset, .unset, .unset] [(.int 0), (.ref wMAX_LOCK_DELAY), (.ref a15), (.ref a14)])) rfl (by rw [hml]; rfl) (Steps.refl _) (argsL := [(.ref a15), (.ref wMAX_LOCK_DELAY), (.int 0)]) (rest := []) (lenOf pd_11 rfl) rfl (by show 2 * 0 + _ ≤ _; exact Nat.le_of_eq rfl) (hb hby at_171) (fun _ _ => ⟨rfl, e20, (by decide : 5 + 0 ≤ _), (by decide : 29 + 0 ≤ _)⟩)
    dsimp only [Pt.U, Pt.locs, Pt.cells, Pt.slots] at X21 l21 y21 z21 st21 hQ21
    subst l21 y21 z21
    obtain ⟨rfl, Nq21, K21q, p21_0, p21_1, p21_2, p21_3, p21_4, p21_5⟩ := hQ21
    have N21 := Fr.app N0 Nq21
    have O22 : Old Z n0 T21.heap := O0.keep K21q (allS P31 all0)
    have p21_1f : Fld Z T21.heap a14 s4n "generation" "J" (.long 1) := by have q := p21_1; rw [(by decide : ((0 : Int64) + (1 : Int64)) = (1 : Int64))] at q; exact q
    have pre23 : ∀ t, Steps p.tables e below (T21.setTop (mkF m 175 #[(vi p1), (vl q2), .second, (vl q3), .second, (vl q4), .second, (vi 1), (vi p6), (vi p7), (vi p8), (vi p9), (vi p10), (vl q11), .second, (vl q12), .second, (vl q13), .second, (vr a14), (vr a15), (vr a16), .unset, .unset, .unset, .unset, .unset, .unset, .unset, .unset, .unset, .unset, .unset] [])) t → Steps p.tables e below (T0.setTop (mkF m 158 #[(vi p1), (vl q2), .second, (vl q3), .second, (vl q4), .second, (vi p5), (vi p6), (vi p7), (vi p8), (vi p9), (vi p10), (vl q11), .second, (vl q12), .second, (vl q13), .second, (vr a14), (vr a15), (vr a16), .unset, .unset, .unset, .unset, .unset, .unset, .unset, .unset, .unset, .unset, .unset] [])) t := by
      intro t k
      refine pre19 t ?_
      show Steps p.tables e below (T0.setTop (mkF m 158 #[(vi p1), (vl q2), .second, (vl q3), .second, (vl q4), .second, (vi 1), (vi p6), (vi p7), (vi p8), (vi p9), (vi p10), (vl q11), .second, (vl q12), .second, (vl q13), .second, (vr a14), (vr a15), (vr a16), .unset, .unset, .unset, .unset, .unset, .unset, .unset, .unset, .unset, .unset, .unset] [])) _
      refine XS.iload X0.here hx rfl (hb hby at_158) rfl ?_
      refine XS.ifNo X0.here hx rfl (hb hby at_160) rfl ((if0 _ _).trans (feq (by decide : ¬ ((1 : Int32) = (0 : Int32)))).1) ?_
      refine XS.aload X0.here hx rfl (hb hby at_163) rfl rfl ?_
      refine XS.aload X0.here hx rfl (hb hby at_165) rfl rfl ?_
      refine st20 _ ?_
      refine XS.iconst X20.here hx rfl (hb hby at_170) ?_
      refine st21.trans ?_
      refine XS.pop X21.here hx rfl (hb hby at_174) rfl rfl ?_
      exact k
    rcases (id (P29)) with hk24 | hk24
    · skip
      have pre25 : ∀ t, Steps p.tables e below (T21.setTop (mkF m 175 #[(vi p1), (vl q2), .second, (vl q3), .second, (vl q4), .second, (vi 1), (vi 0), (vi p7), (vi p8), (vi p9), (vi p10), (vl q11), .second, (vl q12), .second, (vl q13), .second, (vr a14), (vr a15), (vr a16), .unset, .unset, .unset, .unset, .unset, .unset, .unset, .unset, .unset, .unset, .unset] [])) t → Steps p.tables e below (T0.setTop (mkF m 158 #[(vi p1), (vl q2), .second, (vl q3), .second, (vl q4), .second, (vi p5), (vi p6), (vi p7), (vi p8), (vi p9), (vi p10), (vl q11), .second, (vl q12), .second, (vl q13), .second, (vr a14), (vr a15), (vr a16), .unset, .unset, .unset, .unset, .unset, .unset, .unset, .unset, .unset, .unset, .unset] [])) t := by
        intro t k
        refine pre23 t ?_
        rw [hk24]
        exact k
      have pre26 : ∀ t, Steps p.tables e below (T21.setTop (mkF m 192 #[(vi p1), (vl q2), .second, (vl q3), .second, (vl q4), .second, (vi 1), (vi 0), (vi p7), (vi p8), (vi p9), (vi p10), (vl q11), .second, (vl q12), .second, (vl q13), .second, (vr a14), (vr a15), (vr a16), .unset, .unset, .unset, .unset, .unset, .unset, .unset, .unset, .unset, .unset, .unset] [])) t → Steps p.tables e below (T0.setTop (mkF m 158 #[(vi p1), (vl q2), .second, (vl q3), .second, (vl q4), .second, (vi p5), (vi p6), (vi p7), (vi p8), (vi p9), (vi p10), (vl q11), .second, (vl q12), .second, (vl q13), .second, (vr a14), (vr a15), (vr a16), .unset, .unset, .unset, .unset, .unset, .unset, .unset, .unset, .unset, .unset, .unset] [])) t := by
        intro t k
        refine pre25 t ?_
        show Steps p.tables e below (T21.setTop (mkF m 175 #[(vi p1), (vl q2), .second, (vl q3), .second, (vl q4), .second, (vi 1), (vi 0), (vi p7), (vi p8), (vi p9), (vi p10), (vl q11), .second, (vl q12), .second, (vl q13), .second, (vr a14), (vr a15), (vr a16), .unset, .unset, .unset, .unset, .unset, .unset, .unset, .unset, .unset, .unset, .unset] [])) _
        refine XS.iload X21.here hx rfl (hb hby at_175) rfl ?_
        refine XS.ifYes X21.here hx rfl (pc0 := 177) (pc' := 192) rfl (hb hby at_177) rfl ((if0 _ _).trans (teq (by decide : (0 : Int32) = (0 : Int32))).1) (by decide) (by decide) ?_
        exact k
      have f27 : Exa Z T21.heap a15 s3n := (P6.keep K21q)
      have f28 : Fld Z T21.heap a15 s3n "session" "J" (.long q2) := (P8.keep K21q (ninS (Ne.symm P36) nin0))
      have f29 : Exa Z T21.heap a17 s6n := (P12.keep K21q)
      have f30 : Fld Z T21.heap a17 s6n "elements" s7n (.ref a18) := (P13.keep K21q (ninS (Ne.symm P38) nin0))
      have f31 : Fld Z T21.heap a17 s6n "head" "I" (.int 0) := (P14.keep K21q (ninS (Ne.symm P38) nin0))
      have f32 : Fld Z T21.heap a17 s6n "tail" "I" (.int 0) := (P15.keep K21q (ninS (Ne.symm P38) nin0))
      have f33 : Arv Z T21.heap a18 k19 (.object s8n) (17 : Int32) ([.null, .null, .null, .null, .null, .null, .null, .null, .null, .null, .null, .null, .null, .null, .null, .null, .null]) .null := (P16.keep K21q (ninS (Ne.symm P39) nin0))
      obtain ⟨t9, o9, hs9, hr9⟩ := tl_tl_rm0_a_w_33 hw wMAX_LOCK_DELAY wGRANTED wQUEUED wZERO hS p1 q2 q3 q4 p7 p8 p9 p10 q11 q12 q13 a14 a15 a16 a17 a18 k19 X21 hx hZ hby hml hown hnm hret0 hlk0 rfl N21 O22 p21_0 p21_1f p21_2 p21_3 p21_4 p21_5 f27 f28 f29 f30 f31 f32 f33 P30 P31 P38 P39
      exact ⟨t9, o9, pre26 _ hs9, hr9⟩
    · skip
      have pre34 : ∀ t, Steps p.tables e below (T21.setTop (mkF m 175 #[(vi p1), (vl q2), .second, (vl q3), .second, (vl q4), .second, (vi 1), (vi 1), (vi p7), (vi p8), (vi p9), (vi p10), (vl q11), .second, (vl q12), .second, (vl q13), .second, (vr a14), (vr a15), (vr a16), .unset, .unset, .unset, .unset, .unset, .unset, .unset, .unset, .unset, .unset, .unset] [])) t → Steps p.tables e below (T0.setTop (mkF m 158 #[(vi p1), (vl q2), .second, (vl q3), .second, (vl q4), .second, (vi p5), (vi p6), (vi p7), (vi p8), (vi p9), (vi p10), (vl q11), .second, (vl q12), .second, (vl q13), .second, (vr a14), (vr a15), (vr a16), .unset, .unset, .unset, .unset, .unset, .unset, .unset, .unset, .unset, .unset, .unset] [])) t := by
        intro t k
        refine pre23 t ?_
        rw [hk24]
        exact k
      obtain ⟨T35, X35, e35, st35⟩ := getS2 X21 hx hZ hown (host := "") (Or.inl (ow hw 111 rfl)) Via.refl rfl (S_wMAX_LOCK_DELAY.ext O22.2) (g := (mkF m 184 #[(vi p1), (vl q2), .second, (vl q3), .second, (vl q4), .second, (vi 1), (vi 1), (vi p7), (vi p8), (vi p9), (vi p10), (vl q11), .second, (vl q12), .second, (vl q13), .second, (vr a14), (vr a15), (vr a16), .unset, .unset, .unset, .unset, .unset, .unset, .unset, .unset, .unset, .unset, .unset] [(.ref a16), (.ref a14)])) rfl (hb hby at_184)
      have f36 : Exa Z T21.heap a16 s3n := (P9.keep K21q)
      have f37 : Fld Z T21.heap a16 s3n "handle" "J" (.long 2) := (P10.keep K21q (ninS (Ne.symm P37) nin0))
      have f38 : Fld Z T21.heap a16 s3n "session" "J" (.long q11) := (P11.keep K21q (ninS (Ne.symm P37) nin0))
      have f39 : Exa Z T21.heap a15 s3n := (P6.keep K21q)
      have f40 : Fld Z T21.heap a15 s3n "handle" "J" (.long 1) := (P7.keep K21q (ninS (Ne.symm P36) nin0))
      have f41 : Fld Z T21.heap a15 s3n "session" "J" (.long q2) := (P8.keep K21q (ninS (Ne.symm P36) nin0))
      have f42 : Exa Z T21.heap a17 s6n := (P12.keep K21q)
      have f43 : Fld Z T21.heap a17 s6n "elements" s7n (.ref a18) := (P13.keep K21q (ninS (Ne.symm P38) nin0))
      have f44 : Fld Z T21.heap a17 s6n "head" "I" (.int 0) := (P14.keep K21q (ninS (Ne.symm P38) nin0))
      have f45 : Fld Z T21.heap a17 s6n "tail" "I" (.int 0) := (P15.keep K21q (ninS (Ne.symm P38) nin0))
      have f46 : Arv Z T21.heap a18 k19 (.object s8n) (17 : Int32) ([.null, .null, .null, .null, .null, .null, .null, .null, .null, .null, .null, .null, .null, .null, .null, .null, .null]) .null := (P16.keep K21q (ninS (Ne.symm P39) nin0))
      have f47 : Exa Z T21.heap a18 s7n := (P18.keep K21q)
      obtain ⟨cq48, kq48, q48a, q48b, q48c⟩ := isOf hZ e35 p21_0
      obtain ⟨_, _, ⟨T48, L48, k48, n48⟩, -, X48, ⟨Lc48, hQ48, l48, y48, z48⟩, st48⟩ := X35.virtualBack hx (y := M16) (z := M16) hown (mvT hZ (ow hw 114 rfl)) (mvT hZ (ow hw 115 rfl)) (notFace_of_selects (args := #[]) (mvT hZ (ow hw 117 rfl))) (mvT hZ (ow hw 117 rfl)) (mvT hZ (ow hw 116 rfl)) (by decide) (backOf (W := 0) (au14_2 l Z a0 hw [] wMAX_LOCK_DELAY wGRANTED wQUEUED wZERO hS a14 a16 a15 a17 q11 q2 a18 k19 T21.heap n0 O22 p21_0 p21_3 p21_5 f36 f37 f38 f39 f40 f41 f42 f43 f44 f45 f46 P17 f47 P34 P35 P45) hZ (ow hw 118 rfl) (ow hw 3 rfl) (by decide) (by decide)) q48a q48c (g := (mkF m 188 #[(vi p1), (vl q2), .second, (vl q3), .second, (vl q4), .second, (vi 1), (vi 1), (vi p7), (vi p8), (vi p9), (vi p10), (vl q11), .second, (vl q12), .second, (vl q13), .second, (vr a14), (vr a15), (vr a16), .unset, .unset, .unset, .unset, .unset, .unset, .unset, .unset, .unset, .unset, .unset] [(.int 1), (.ref wMAX_LOCK_DELAY), (.ref a16), (.ref a14)])) rfl (by rw [hml]; rfl) (Steps.refl _) (argsL := [(.ref a16), (.ref wMAX_LOCK_DELAY), (.int 1)]) (rest := []) (lenOf pd_11 rfl) rfl (by show 2 * 0 + _ ≤ _; exact Nat.le_of_eq rfl) (hb hby at_188) (fun _ _ => ⟨rfl, e35, (by decide : 5 + 2 ≤ _), (by decide : 29 + 6 ≤ _)⟩)
      dsimp only [Pt.U, Pt.locs, Pt.cells, Pt.slots] at X48 l48 y48 z48 st48 hQ48
      subst l48 y48 z48
      obtain ⟨e1_48, rfl, Nq48, K48q, p48_0, p48_1, p48_2, p48_3, p48_4, p48_5, p48_6, p48_7, p48_8, p48_9, p48_10⟩ := hQ48
      have N48 := Fr.app N21 Nq48
      have ne49 : a14 ≠ e1_48 := Nat.ne_of_lt (Nat.lt_of_lt_of_le p21_0.lt p48_7)
      have ne50 : a15 ≠ e1_48 := Nat.ne_of_lt (Nat.lt_of_lt_of_le f39.lt p48_7)
      have ne51 : a16 ≠ e1_48 := Nat.ne_of_lt (Nat.lt_of_lt_of_le f36.lt p48_7)
      have ne52 : a17 ≠ e1_48 := Nat.ne_of_lt (Nat.lt_of_lt_of_le f42.lt p48_7)
      have ne53 : a18 ≠ e1_48 := Nat.ne_of_lt (Nat.lt_of_lt_of_le f46.lt p48_7)
      have g54 : n0 ≤ e1_48 := Nat.le_trans (own_sz O22) p48_7
      have O55 : Old Z n0 T48.heap := O22.keep K48q (allS P35 (allS P34 all0))
      have pre56 : ∀ t, Steps p.tables e below (T48.setTop (mkF m 192 #[(vi p1), (vl q2), .second, (vl q3), .second, (vl q4), .second, (vi 1), (vi 1), (vi p7), (vi p8), (vi p9), (vi p10), (vl q11), .second, (vl q12), .second, (vl q13), .second, (vr a14), (vr a15), (vr a16), .unset, .unset, .unset, .unset, .unset, .unset, .unset, .unset, .unset, .unset, .unset] [])) t → Steps p.tables e below (T0.setTop (mkF m 158 #[(vi p1), (vl q2), .second, (vl q3), .second, (vl q4), .second, (vi p5), (vi p6), (vi p7), (vi p8), (vi p9), (vi p10), (vl q11), .second, (vl q12), .second, (vl q13), .second, (vr a14), (vr a15), (vr a16), .unset, .unset, .unset, .unset, .unset, .unset, .unset, .unset, .unset, .unset, .unset] [])) t := by
        intro t k
        refine pre34 t ?_
        show Steps p.tables e below (T21.setTop (mkF m 175 #[(vi p1), (vl q2), .second, (vl q3), .second, (vl q4), .second, (vi 1), (vi 1), (vi p7), (vi p8), (vi p9), (vi p10), (vl q11), .second, (vl q12), .second, (vl q13), .second, (vr a14), (vr a15), (vr a16), .unset, .unset, .unset, .unset, .unset, .unset, .unset, .unset, .unset, .unset, .unset] [])) _
        refine XS.iload X21.here hx rfl (hb hby at_175) rfl ?_
        refine XS.ifNo X21.here hx rfl (hb hby at_177) rfl ((if0 _ _).trans (feq (by decide : ¬ ((1 : Int32) = (0 : Int32)))).1) ?_
        refine XS.aload X21.here hx rfl (hb hby at_180) rfl rfl ?_
        refine XS.aload X21.here hx rfl (hb hby at_182) rfl rfl ?_
        refine st35 _ ?_
        refine XS.iconst X35.here hx rfl (hb hby at_187) ?_
        refine st48.trans ?_
        refine XS.pop X48.here hx rfl (hb hby at_191) rfl rfl ?_
        exact k
      have f57 : Exa Z T48.heap a14 s4n := (p21_0.keep K48q)
      have f58 : Fld Z T48.heap a14 s4n "generation" "J" (.long 1) := (p21_1f.keep K48q (ninS P39 (ninS P38 nin0)))
      have f59 : Fld Z T48.heap a14 s4n "heldBack" "Z" (.int 0) := (p21_2.keep K48q (ninS P39 (ninS P38 nin0)))
      have f60 : Fld Z T48.heap a14 s4n "holder" s9n (.ref a15) := (p21_3.keep K48q (ninS P39 (ninS P38 nin0)))
      have f61 : Fld Z T48.heap a14 s4n s10n s0n (.ref wMAX_LOCK_DELAY) := (p21_4.keep K48q (ninS P39 (ninS P38 nin0)))
      have f62 : Fld Z T48.heap a14 s4n "waiters" s11n (.ref a17) := (p21_5.keep K48q (ninS P39 (ninS P38 nin0)))
      have f63 : Exa Z T48.heap a15 s3n := (f39.keep K48q)
      have f64 : Fld Z T48.heap a15 s3n "session" "J" (.long q2) := (f41.keep K48q (ninS P42 (ninS P41 nin0)))
      have f65 : Exa Z T48.heap a16 s3n := (f36.keep K48q)
      have f66 : Fld Z T48.heap a16 s3n "session" "J" (.long q11) := (f38.keep K48q (ninS P44 (ninS P43 nin0)))
      obtain ⟨t9, o9, hs9, hr9⟩ := tl_tl_rm0_a_w_40 hw wMAX_LOCK_DELAY wGRANTED wQUEUED wZERO hS p1 q2 q3 q4 p7 p8 p9 p10 q11 q12 q13 a14 a15 a16 a17 a18 k19 e1_48 X48 hx hZ hby hml hown hnm hret0 hlk0 rfl N48 O55 f57 f58 f59 f60 f61 f62 f63 f64 f65 f66 p48_3 p48_4 p48_5 p48_6 p48_1 p48_2 p48_0 p48_8 p48_9 p48_10 P30 P31 P34 P35 P38 P39 ne49 P41 P42 P45 ne52 ne53
      exact ⟨t9, o9, pre56 _ hs9, hr9⟩
def Q_rm0 (Z : State) (wMAX_LOCK_DELAY : Addr) (wGRANTED : Addr) (wQUEUED : Addr) (wZERO : Addr) (p0 : Int32) (q1 : Int64) (q2 : Int64) (q3 : Int64) (h0 : Heap) (n0 : Nat) (v : Option Value) (h : Heap) (L : List Loc) : Prop := v = some (.int 1) ∧ Fr n0 L
theorem rm0 (l : Launch) (Z : State) (a0 : Array Value) (hw : ∀ d ∈ tables_1, d.before a0 Z = true) (ws : List Jvm.Cond) (wMAX_LOCK_DELAY : Addr) (wGRANTED : Addr) (wQUEUED : Addr) (wZERO : Addr) (hS : SS Z wMAX_LOCK_DELAY wGRANTED wQUEUED wZERO) (p0 : Int32) (q1 : Int64) (q2 : Int64) (q3 : Int64) (h0 : Heap) (n0 : Nat) (O0 : Old Z n0 h0)  :
    MetB l x code maxLocals ret ws room_1 Z h0 #[(.int p0), (.long q1), (.long q2), (.long q3)] (Q_rm0 Z wMAX_LOCK_DELAY wGRANTED wQUEUED wZERO p0 q1 q2 q3 h0 n0) := by
  refine own_body (plainFor_of_name pn_com_example_umpired_umpired_server_NodeLockIsHeldBackAfterPinLaw) ?_
  intro p e s m below meth c s₁ hx hby hml hown hnm hret0 hlk0 hZ X0 e0
  have N0 := Fr.nil n0
  have pre0 : ∀ t, Steps p.tables e below (s₁.setTop (mkF m 0 #[(vi p0), (vl q1), .second, (vl q2), .second, (vl q3), .second, .unset, .unset, .unset, .unset, .unset, .unset, .unset, .unset, .unset, .unset, .unset, .unset, .unset, .unset, .unset, .unset, .unset, .unset, .unset, .unset, .unset, .unset, .unset, .unset, .unset, .unset] [])) t → Steps p.tables e below (s₁.setTop (entryFrame m #[(.int p0), (.long q1), (.long q2), (.long q3)] maxLocals)) t := fun t k => castTop (ef_rm0 m p0 q1 q2 q3) k
  have hS0 := hS
  obtain ⟨S_wMAX_LOCK_DELAY, E_wMAX_LOCK_DELAY, S_wGRANTED, E_wGRANTED, S_wQUEUED, E_wQUEUED, F_seconds_wMAX_LOCK_DELAY, F_nanos_wMAX_LOCK_DELAY, S_wZERO, E_wZERO, F_seconds_wZERO, F_nanos_wZERO⟩ := hS0
  have pre1 : ∀ t, Steps p.tables e below (s₁.setTop (mkF m 3 #[(vi p0), (vl q1), .second, (vl q2), .second, (vl q3), .second, .unset, .unset, .unset, .unset, .unset, .unset, .unset, .unset, .unset, .unset, .unset, .unset, .unset, .unset, .unset, .unset, .unset, .unset, .unset, .unset, .unset, .unset, .unset, .unset, .unset, .unset] [(.int (p0 &&& (1 : Int32)))])) t → Steps p.tables e below (s₁.setTop (entryFrame m #[(.int p0), (.long q1), (.long q2), (.long q3)] maxLocals)) t := by
    intro t k
    refine pre0 t ?_
    show Steps p.tables e below (s₁.setTop (mkF m 0 #[(vi p0), (vl q1), .second, (vl q2), .second, (vl q3), .second, .unset, .unset, .unset, .unset, .unset, .unset, .unset, .unset, .unset, .unset, .unset, .unset, .unset, .unset, .unset, .unset, .unset, .unset, .unset, .unset, .unset, .unset, .unset, .unset, .unset, .unset] [])) _
    refine XS.iloadN X0.here hx rfl (hb hby at_0) rfl ?_
    refine XS.iconst X0.here hx rfl (hb hby at_1) ?_
    refine XS.iand X0.here hx rfl (hb hby at_2) rfl ?_
    exact k
  obtain ⟨ya, hya⟩ : ∃ z : Int32, z = (if (p0 &&& (1 : Int32)) = (0 : Int32) then (0 : Int32) else (1 : Int32)) := ⟨_, rfl⟩
  have pre3 : ∀ t, Steps p.tables e below (s₁.setTop (mkF m 11 #[(vi p0), (vl q1), .second, (vl q2), .second, (vl q3), .second, .unset, .unset, .unset, .unset, .unset, .unset, .unset, .unset, .unset, .unset, .unset, .unset, .unset, .unset, .unset, .unset, .unset, .unset, .unset, .unset, .unset, .unset, .unset, .unset, .unset, .unset] [(.int ya)])) t → Steps p.tables e below (s₁.setTop (entryFrame m #[(.int p0), (.long q1), (.long q2), (.long q3)] maxLocals)) t := by
    intro t k
    rw [hya] at k
    refine pre1 t ?_
    show Steps p.tables e below (s₁.setTop (mkF m 3 #[(vi p0), (vl q1), .second, (vl q2), .second, (vl q3), .second, .unset, .unset, .unset, .unset, .unset, .unset, .unset, .unset, .unset, .unset, .unset, .unset, .unset, .unset, .unset, .unset, .unset, .unset, .unset, .unset, .unset, .unset, .unset, .unset, .unset, .unset] [(.int (p0 &&& (1 : Int32)))])) _
    rcases Decidable.em ((p0 &&& (1 : Int32)) = (0 : Int32)) with hm2 | hm2
    · first | simp only [if_pos hm2] at k | skip
      refine XS.ifYes X0.here hx rfl (pc0 := 3) (pc' := 10) rfl (hb hby at_3) rfl ((if0 _ _).trans (teq hm2).1) (by decide) (by decide) ?_
      refine XS.iconst X0.here hx rfl (hb hby at_10) ?_
      exact k
    · first | simp only [if_neg hm2] at k | skip
      refine XS.ifNo X0.here hx rfl (hb hby at_3) rfl ((if0 _ _).trans (feq hm2).1) ?_
      refine XS.iconst X0.here hx rfl (hb hby at_6) ?_
      refine XS.goto X0.here hx rfl (pc0 := 7) (pc' := 11) rfl (hb hby at_7) (by decide) (by decide) ?_
      exact k
  have pre4 : ∀ t, Steps p.tables e below (s₁.setTop (mkF m 16 #[(vi p0), (vl q1), .second, (vl q2), .second, (vl q3), .second, (vi ya), .unset, .unset, .unset, .unset, .unset, .unset, .unset, .unset, .unset, .unset, .unset, .unset, .unset, .unset, .unset, .unset, .unset, .unset, .unset, .unset, .unset, .unset, .unset, .unset, .unset] [(.int (p0 &&& (2 : Int32)))])) t → Steps p.tables e below (s₁.setTop (entryFrame m #[(.int p0), (.long q1), (.long q2), (.long q3)] maxLocals)) t := by
    intro t k
    refine pre3 t ?_
    show Steps p.tables e below (s₁.setTop (mkF m 11 #[(vi p0), (vl q1), .second, (vl q2), .second, (vl q3), .second, .unset, .unset, .unset, .unset, .unset, .unset, .unset, .unset, .unset, .unset, .unset, .unset, .unset, .unset, .unset, .unset, .unset, .unset, .unset, .unset, .unset, .unset, .unset, .unset, .unset, .unset] [(.int ya)])) _
    refine XS.istore X0.here hx rfl (hb hby at_11) rfl (l' := #[(vi p0), (vl q1), .second, (vl q2), .second, (vl q3), .second, (vi ya), .unset, .unset, .unset, .unset, .unset, .unset, .unset, .unset, .unset, .unset, .unset, .unset, .unset, .unset, .unset, .unset, .unset, .unset, .unset, .unset, .unset, .unset, .unset, .unset, .unset]) rfl ?_
    refine XS.iloadN X0.here hx rfl (hb hby at_13) rfl ?_
    refine XS.iconst X0.here hx rfl (hb hby at_14) ?_
    refine XS.iand X0.here hx rfl (hb hby at_15) rfl ?_
    exact k
  obtain ⟨yw, hyw⟩ : ∃ z : Int32, z = (if (p0 &&& (2 : Int32)) = (0 : Int32) then (0 : Int32) else (1 : Int32)) := ⟨_, rfl⟩
  have pre6 : ∀ t, Steps p.tables e below (s₁.setTop (mkF m 24 #[(vi p0), (vl q1), .second, (vl q2), .second, (vl q3), .second, (vi ya), .unset, .unset, .unset, .unset, .unset, .unset, .unset, .unset, .unset, .unset, .unset, .unset, .unset, .unset, .unset, .unset, .unset, .unset, .unset, .unset, .unset, .unset, .unset, .unset, .unset] [(.int yw)])) t → Steps p.tables e below (s₁.setTop (entryFrame m #[(.int p0), (.long q1), (.long q2), (.long q3)] maxLocals)) t := by
    intro t k
    rw [hyw] at k
    refine pre4 t ?_
    show Steps p.tables e below (s₁.setTop (mkF m 16 #[(vi p0), (vl q1), .second, (vl q2), .second, (vl q3), .second, (vi ya), .unset, .unset, .unset, .unset, .unset, .unset, .unset, .unset, .unset, .unset, .unset, .unset, .unset, .unset, .unset, .unset, .unset, .unset, .unset, .unset, .unset, .unset, .unset, .unset, .unset] [(.int (p0 &&& (2 : Int32)))])) _
    rcases Decidable.em ((p0 &&& (2 : Int32)) = (0 : Int32)) with hm5 | hm5
    · first | simp only [if_pos hm5] at k | skip
      refine XS.ifYes X0.here hx rfl (pc0 := 16) (pc' := 23) rfl (hb hby at_16) rfl ((if0 _ _).trans (teq hm5).1) (by decide) (by decide) ?_
      refine XS.iconst X0.here hx rfl (hb hby at_23) ?_
      exact k
    · first | simp only [if_neg hm5] at k | skip
      refine XS.ifNo X0.here hx rfl (hb hby at_16) rfl ((if0 _ _).trans (feq hm5).1) ?_
      refine XS.iconst X0.here hx rfl (hb hby at_19) ?_
      refine XS.goto X0.here hx rfl (pc0 := 20) (pc' := 24) rfl (hb hby at_20) (by decide) (by decide) ?_
      exact k
  have pre7 : ∀ t, Steps p.tables e below (s₁.setTop (mkF m 29 #[(vi p0), (vl q1), .second, (vl q2), .second, (vl q3), .second, (vi ya), (vi yw), .unset, .unset, .unset, .unset, .unset, .unset, .unset, .unset, .unset, .unset, .unset, .unset, .unset, .unset, .unset, .unset, .unset, .unset, .unset, .unset, .unset, .unset, .unset, .unset] [(.int (p0 &&& (4 : Int32)))])) t → Steps p.tables e below (s₁.setTop (entryFrame m #[(.int p0), (.long q1), (.long q2), (.long q3)] maxLocals)) t := by
    intro t k
    refine pre6 t ?_
    show Steps p.tables e below (s₁.setTop (mkF m 24 #[(vi p0), (vl q1), .second, (vl q2), .second, (vl q3), .second, (vi ya), .unset, .unset, .unset, .unset, .unset, .unset, .unset, .unset, .unset, .unset, .unset, .unset, .unset, .unset, .unset, .unset, .unset, .unset, .unset, .unset, .unset, .unset, .unset, .unset, .unset] [(.int yw)])) _
    refine XS.istore X0.here hx rfl (hb hby at_24) rfl (l' := #[(vi p0), (vl q1), .second, (vl q2), .second, (vl q3), .second, (vi ya), (vi yw), .unset, .unset, .unset, .unset, .unset, .unset, .unset, .unset, .unset, .unset, .unset, .unset, .unset, .unset, .unset, .unset, .unset, .unset, .unset, .unset, .unset, .unset, .unset, .unset]) rfl ?_
    refine XS.iloadN X0.here hx rfl (hb hby at_26) rfl ?_
    refine XS.iconst X0.here hx rfl (hb hby at_27) ?_
    refine XS.iand X0.here hx rfl (hb hby at_28) rfl ?_
    exact k
  obtain ⟨ye, hye⟩ : ∃ z : Int32, z = (if (p0 &&& (4 : Int32)) = (0 : Int32) then (0 : Int32) else (1 : Int32)) := ⟨_, rfl⟩
  have pre9 : ∀ t, Steps p.tables e below (s₁.setTop (mkF m 37 #[(vi p0), (vl q1), .second, (vl q2), .second, (vl q3), .second, (vi ya), (vi yw), .unset, .unset, .unset, .unset, .unset, .unset, .unset, .unset, .unset, .unset, .unset, .unset, .unset, .unset, .unset, .unset, .unset, .unset, .unset, .unset, .unset, .unset, .unset, .unset] [(.int ye)])) t → Steps p.tables e below (s₁.setTop (entryFrame m #[(.int p0), (.long q1), (.long q2), (.long q3)] maxLocals)) t := by
    intro t k
    rw [hye] at k
    refine pre7 t ?_
    show Steps p.tables e below (s₁.setTop (mkF m 29 #[(vi p0), (vl q1), .second, (vl q2), .second, (vl q3), .second, (vi ya), (vi yw), .unset, .unset, .unset, .unset, .unset, .unset, .unset, .unset, .unset, .unset, .unset, .unset, .unset, .unset, .unset, .unset, .unset, .unset, .unset, .unset, .unset, .unset, .unset, .unset] [(.int (p0 &&& (4 : Int32)))])) _
    rcases Decidable.em ((p0 &&& (4 : Int32)) = (0 : Int32)) with hm8 | hm8
    · first | simp only [if_pos hm8] at k | skip
      refine XS.ifYes X0.here hx rfl (pc0 := 29) (pc' := 36) rfl (hb hby at_29) rfl ((if0 _ _).trans (teq hm8).1) (by decide) (by decide) ?_
      refine XS.iconst X0.here hx rfl (hb hby at_36) ?_
      exact k
    · first | simp only [if_neg hm8] at k | skip
      refine XS.ifNo X0.here hx rfl (hb hby at_29) rfl ((if0 _ _).trans (feq hm8).1) ?_
      refine XS.iconst X0.here hx rfl (hb hby at_32) ?_
      refine XS.goto X0.here hx rfl (pc0 := 33) (pc' := 37) rfl (hb hby at_33) (by decide) (by decide) ?_
      exact k
  have pre10 : ∀ t, Steps p.tables e below (s₁.setTop (mkF m 43 #[(vi p0), (vl q1), .second, (vl q2), .second, (vl q3), .second, (vi ya), (vi yw), (vi ye), .unset, .unset, .unset, .unset, .unset, .unset, .unset, .unset, .unset, .unset, .unset, .unset, .unset, .unset, .unset, .unset, .unset, .unset, .unset, .unset, .unset, .unset, .unset] [(.int (p0 &&& (8 : Int32)))])) t → Steps p.tables e below (s₁.setTop (entryFrame m #[(.int p0), (.long q1), (.long q2), (.long q3)] maxLocals)) t := by
    intro t k
    refine pre9 t ?_
    show Steps p.tables e below (s₁.setTop (mkF m 37 #[(vi p0), (vl q1), .second, (vl q2), .second, (vl q3), .second, (vi ya), (vi yw), .unset, .unset, .unset, .unset, .unset, .unset, .unset, .unset, .unset, .unset, .unset, .unset, .unset, .unset, .unset, .unset, .unset, .unset, .unset, .unset, .unset, .unset, .unset, .unset] [(.int ye)])) _
    refine XS.istore X0.here hx rfl (hb hby at_37) rfl (l' := #[(vi p0), (vl q1), .second, (vl q2), .second, (vl q3), .second, (vi ya), (vi yw), (vi ye), .unset, .unset, .unset, .unset, .unset, .unset, .unset, .unset, .unset, .unset, .unset, .unset, .unset, .unset, .unset, .unset, .unset, .unset, .unset, .unset, .unset, .unset, .unset]) rfl ?_
    refine XS.iloadN X0.here hx rfl (hb hby at_39) rfl ?_
    refine XS.bipush X0.here hx rfl (hb hby at_40) ?_
    refine XS.iand X0.here hx rfl (hb hby at_42) rfl ?_
    exact k
  obtain ⟨yf, hyf⟩ : ∃ z : Int32, z = (if (p0 &&& (8 : Int32)) = (0 : Int32) then (0 : Int32) else (1 : Int32)) := ⟨_, rfl⟩
  have pre12 : ∀ t, Steps p.tables e below (s₁.setTop (mkF m 51 #[(vi p0), (vl q1), .second, (vl q2), .second, (vl q3), .second, (vi ya), (vi yw), (vi ye), .unset, .unset, .unset, .unset, .unset, .unset, .unset, .unset, .unset, .unset, .unset, .unset, .unset, .unset, .unset, .unset, .unset, .unset, .unset, .unset, .unset, .unset, .unset] [(.int yf)])) t → Steps p.tables e below (s₁.setTop (entryFrame m #[(.int p0), (.long q1), (.long q2), (.long q3)] maxLocals)) t := by
    intro t k
    rw [hyf] at k
    refine pre10 t ?_
    show Steps p.tables e below (s₁.setTop (mkF m 43 #[(vi p0), (vl q1), .second, (vl q2), .second, (vl q3), .second, (vi ya), (vi yw), (vi ye), .unset, .unset, .unset, .unset, .unset, .unset, .unset, .unset, .unset, .unset, .unset, .unset, .unset, .unset, .unset, .unset, .unset, .unset, .unset, .unset, .unset, .unset, .unset] [(.int (p0 &&& (8 : Int32)))])) _
    rcases Decidable.em ((p0 &&& (8 : Int32)) = (0 : Int32)) with hm11 | hm11
    · first | simp only [if_pos hm11] at k | skip
      refine XS.ifYes X0.here hx rfl (pc0 := 43) (pc' := 50) rfl (hb hby at_43) rfl ((if0 _ _).trans (teq hm11).1) (by decide) (by decide) ?_
      refine XS.iconst X0.here hx rfl (hb hby at_50) ?_
      exact k
    · first | simp only [if_neg hm11] at k | skip
      refine XS.ifNo X0.here hx rfl (hb hby at_43) rfl ((if0 _ _).trans (feq hm11).1) ?_
      refine XS.iconst X0.here hx rfl (hb hby at_46) ?_
      refine XS.goto X0.here hx rfl (pc0 := 47) (pc' := 51) rfl (hb hby at_47) (by decide) (by decide) ?_
      exact k
  have pre13 : ∀ t, Steps p.tables e below (s₁.setTop (mkF m 57 #[(vi p0), (vl q1), .second, (vl q2), .second, (vl q3), .second, (vi ya), (vi yw), (vi ye), (vi yf), .unset, .unset, .unset, .unset, .unset, .unset, .unset, .unset, .unset, .unset, .unset, .unset, .unset, .unset, .unset, .unset, .unset, .unset, .unset, .unset, .unset, .unset] [(.int (p0 &&& (16 : Int32)))])) t → Steps p.tables e below (s₁.setTop (entryFrame m #[(.int p0), (.long q1), (.long q2), (.long q3)] maxLocals)) t := by
    intro t k
    refine pre12 t ?_
    show Steps p.tables e below (s₁.setTop (mkF m 51 #[(vi p0), (vl q1), .second, (vl q2), .second, (vl q3), .second, (vi ya), (vi yw), (vi ye), .unset, .unset, .unset, .unset, .unset, .unset, .unset, .unset, .unset, .unset, .unset, .unset, .unset, .unset, .unset, .unset, .unset, .unset, .unset, .unset, .unset, .unset, .unset] [(.int yf)])) _
    refine XS.istore X0.here hx rfl (hb hby at_51) rfl (l' := #[(vi p0), (vl q1), .second, (vl q2), .second, (vl q3), .second, (vi ya), (vi yw), (vi ye), (vi yf), .unset, .unset, .unset, .unset, .unset, .unset, .unset, .unset, .unset, .unset, .unset, .unset, .unset, .unset, .unset, .unset, .unset, .unset, .unset, .unset, .unset, .unset]) rfl ?_
    refine XS.iloadN X0.here hx rfl (hb hby at_53) rfl ?_
    refine XS.bipush X0.here hx rfl (hb hby at_54) ?_
    refine XS.iand X0.here hx rfl (hb hby at_56) rfl ?_
    exact k
  obtain ⟨yg, hyg⟩ : ∃ z : Int32, z = (if (p0 &&& (16 : Int32)) = (0 : Int32) then (0 : Int32) else (1 : Int32)) := ⟨_, rfl⟩
  have pre15 : ∀ t, Steps p.tables e below (s₁.setTop (mkF m 65 #[(vi p0), (vl q1), .second, (vl q2), .second, (vl q3), .second, (vi ya), (vi yw), (vi ye), (vi yf), .unset, .unset, .unset, .unset, .unset, .unset, .unset, .unset, .unset, .unset, .unset, .unset, .unset, .unset, .unset, .unset, .unset, .unset, .unset, .unset, .unset, .unset] [(.int yg)])) t → Steps p.tables e below (s₁.setTop (entryFrame m #[(.int p0), (.long q1), (.long q2), (.long q3)] maxLocals)) t := by
    intro t k
    rw [hyg] at k
    refine pre13 t ?_
    show Steps p.tables e below (s₁.setTop (mkF m 57 #[(vi p0), (vl q1), .second, (vl q2), .second, (vl q3), .second, (vi ya), (vi yw), (vi ye), (vi yf), .unset, .unset, .unset, .unset, .unset, .unset, .unset, .unset, .unset, .unset, .unset, .unset, .unset, .unset, .unset, .unset, .unset, .unset, .unset, .unset, .unset, .unset] [(.int (p0 &&& (16 : Int32)))])) _
    rcases Decidable.em ((p0 &&& (16 : Int32)) = (0 : Int32)) with hm14 | hm14
    · first | simp only [if_pos hm14] at k | skip
      refine XS.ifYes X0.here hx rfl (pc0 := 57) (pc' := 64) rfl (hb hby at_57) rfl ((if0 _ _).trans (teq hm14).1) (by decide) (by decide) ?_
      refine XS.iconst X0.here hx rfl (hb hby at_64) ?_
      exact k
    · first | simp only [if_neg hm14] at k | skip
      refine XS.ifNo X0.here hx rfl (hb hby at_57) rfl ((if0 _ _).trans (feq hm14).1) ?_
      refine XS.iconst X0.here hx rfl (hb hby at_60) ?_
      refine XS.goto X0.here hx rfl (pc0 := 61) (pc' := 65) rfl (hb hby at_61) (by decide) (by decide) ?_
      exact k
  have pre16 : ∀ t, Steps p.tables e below (s₁.setTop (mkF m 71 #[(vi p0), (vl q1), .second, (vl q2), .second, (vl q3), .second, (vi ya), (vi yw), (vi ye), (vi yf), (vi yg), .unset, .unset, .unset, .unset, .unset, .unset, .unset, .unset, .unset, .unset, .unset, .unset, .unset, .unset, .unset, .unset, .unset, .unset, .unset, .unset, .unset] [(.int (p0 &&& (32 : Int32)))])) t → Steps p.tables e below (s₁.setTop (entryFrame m #[(.int p0), (.long q1), (.long q2), (.long q3)] maxLocals)) t := by
    intro t k
    refine pre15 t ?_
    show Steps p.tables e below (s₁.setTop (mkF m 65 #[(vi p0), (vl q1), .second, (vl q2), .second, (vl q3), .second, (vi ya), (vi yw), (vi ye), (vi yf), .unset, .unset, .unset, .unset, .unset, .unset, .unset, .unset, .unset, .unset, .unset, .unset, .unset, .unset, .unset, .unset, .unset, .unset, .unset, .unset, .unset, .unset] [(.int yg)])) _
    refine XS.istore X0.here hx rfl (hb hby at_65) rfl (l' := #[(vi p0), (vl q1), .second, (vl q2), .second, (vl q3), .second, (vi ya), (vi yw), (vi ye), (vi yf), (vi yg), .unset, .unset, .unset, .unset, .unset, .unset, .unset, .unset, .unset, .unset, .unset, .unset, .unset, .unset, .unset, .unset, .unset, .unset, .unset, .unset, .unset]) rfl ?_
    refine XS.iloadN X0.here hx rfl (hb hby at_67) rfl ?_
    refine XS.bipush X0.here hx rfl (hb hby at_68) ?_
    refine XS.iand X0.here hx rfl (hb hby at_70) rfl ?_
    exact k
  obtain ⟨ym, hym⟩ : ∃ z : Int32, z = (if (p0 &&& (32 : Int32)) = (0 : Int32) then (0 : Int32) else (1 : Int32)) := ⟨_, rfl⟩
  have pre18 : ∀ t, Steps p.tables e below (s₁.setTop (mkF m 79 #[(vi p0), (vl q1), .second, (vl q2), .second, (vl q3), .second, (vi ya), (vi yw), (vi ye), (vi yf), (vi yg), .unset, .unset, .unset, .unset, .unset, .unset, .unset, .unset, .unset, .unset, .unset, .unset, .unset, .unset, .unset, .unset, .unset, .unset, .unset, .unset, .unset] [(.int ym)])) t → Steps p.tables e below (s₁.setTop (entryFrame m #[(.int p0), (.long q1), (.long q2), (.long q3)] maxLocals)) t := by
    intro t k
    rw [hym] at k
    refine pre16 t ?_
    show Steps p.tables e below (s₁.setTop (mkF m 71 #[(vi p0), (vl q1), .second, (vl q2), .second, (vl q3), .second, (vi ya), (vi yw), (vi ye), (vi yf), (vi yg), .unset, .unset, .unset, .unset, .unset, .unset, .unset, .unset, .unset, .unset, .unset, .unset, .unset, .unset, .unset, .unset, .unset, .unset, .unset, .unset, .unset] [(.int (p0 &&& (32 : Int32)))])) _
    rcases Decidable.em ((p0 &&& (32 : Int32)) = (0 : Int32)) with hm17 | hm17
    · first | simp only [if_pos hm17] at k | skip
      refine XS.ifYes X0.here hx rfl (pc0 := 71) (pc' := 78) rfl (hb hby at_71) rfl ((if0 _ _).trans (teq hm17).1) (by decide) (by decide) ?_
      refine XS.iconst X0.here hx rfl (hb hby at_78) ?_
      exact k
    · first | simp only [if_neg hm17] at k | skip
      refine XS.ifNo X0.here hx rfl (hb hby at_71) rfl ((if0 _ _).trans (feq hm17).1) ?_
      refine XS.iconst X0.here hx rfl (hb hby at_74) ?_
      refine XS.goto X0.here hx rfl (pc0 := 75) (pc' := 79) rfl (hb hby at_75) (by decide) (by decide) ?_
      exact k
  have pre19 : ∀ t, Steps p.tables e below (s₁.setTop (mkF m 83 #[(vi p0), (vl q1), .second, (vl q2), .second, (vl q3), .second, (vi ya), (vi yw), (vi ye), (vi yf), (vi yg), (vi ym), .unset, .unset, .unset, .unset, .unset, .unset, .unset, .unset, .unset, .unset, .unset, .unset, .unset, .unset, .unset, .unset, .unset, .unset, .unset, .unset] [(.int ym)])) t → Steps p.tables e below (s₁.setTop (entryFrame m #[(.int p0), (.long q1), (.long q2), (.long q3)] maxLocals)) t := by
    intro t k
    refine pre18 t ?_
    show Steps p.tables e below (s₁.setTop (mkF m 79 #[(vi p0), (vl q1), .second, (vl q2), .second, (vl q3), .second, (vi ya), (vi yw), (vi ye), (vi yf), (vi yg), .unset, .unset, .unset, .unset, .unset, .unset, .unset, .unset, .unset, .unset, .unset, .unset, .unset, .unset, .unset, .unset, .unset, .unset, .unset, .unset, .unset] [(.int ym)])) _
    refine XS.istore X0.here hx rfl (hb hby at_79) rfl (l' := #[(vi p0), (vl q1), .second, (vl q2), .second, (vl q3), .second, (vi ya), (vi yw), (vi ye), (vi yf), (vi yg), (vi ym), .unset, .unset, .unset, .unset, .unset, .unset, .unset, .unset, .unset, .unset, .unset, .unset, .unset, .unset, .unset, .unset, .unset, .unset, .unset, .unset]) rfl ?_
    refine XS.iload X0.here hx rfl (hb hby at_81) rfl ?_
    exact k
  obtain ⟨yt, hyt⟩ : ∃ z : Int64, z = (if ym = (0 : Int32) then q2 else q1) := ⟨_, rfl⟩
  have pre21 : ∀ t, Steps p.tables e below (s₁.setTop (mkF m 91 #[(vi p0), (vl q1), .second, (vl q2), .second, (vl q3), .second, (vi ya), (vi yw), (vi ye), (vi yf), (vi yg), (vi ym), .unset, .unset, .unset, .unset, .unset, .unset, .unset, .unset, .unset, .unset, .unset, .unset, .unset, .unset, .unset, .unset, .unset, .unset, .unset, .unset] [(.long yt)])) t → Steps p.tables e below (s₁.setTop (entryFrame m #[(.int p0), (.long q1), (.long q2), (.long q3)] maxLocals)) t := by
    intro t k
    rw [hyt] at k
    refine pre19 t ?_
    show Steps p.tables e below (s₁.setTop (mkF m 83 #[(vi p0), (vl q1), .second, (vl q2), .second, (vl q3), .second, (vi ya), (vi yw), (vi ye), (vi yf), (vi yg), (vi ym), .unset, .unset, .unset, .unset, .unset, .unset, .unset, .unset, .unset, .unset, .unset, .unset, .unset, .unset, .unset, .unset, .unset, .unset, .unset, .unset] [(.int ym)])) _
    rcases Decidable.em (ym = (0 : Int32)) with hm20 | hm20
    · first | simp only [if_pos hm20] at k | skip
      refine XS.ifYes X0.here hx rfl (pc0 := 83) (pc' := 90) rfl (hb hby at_83) rfl ((if0 _ _).trans (teq hm20).1) (by decide) (by decide) ?_
      refine XS.lloadN X0.here hx rfl (hb hby at_90) rfl ?_
      exact k
    · first | simp only [if_neg hm20] at k | skip
      refine XS.ifNo X0.here hx rfl (hb hby at_83) rfl ((if0 _ _).trans (feq hm20).1) ?_
      refine XS.lloadN X0.here hx rfl (hb hby at_86) rfl ?_
      refine XS.goto X0.here hx rfl (pc0 := 87) (pc' := 91) rfl (hb hby at_87) (by decide) (by decide) ?_
      exact k
  have pre22 : ∀ t, Steps p.tables e below (s₁.setTop (mkF m 95 #[(vi p0), (vl q1), .second, (vl q2), .second, (vl q3), .second, (vi ya), (vi yw), (vi ye), (vi yf), (vi yg), (vi ym), (vl yt), .second, .unset, .unset, .unset, .unset, .unset, .unset, .unset, .unset, .unset, .unset, .unset, .unset, .unset, .unset, .unset, .unset, .unset, .unset] [(.int yf)])) t → Steps p.tables e below (s₁.setTop (entryFrame m #[(.int p0), (.long q1), (.long q2), (.long q3)] maxLocals)) t := by
    intro t k
    refine pre21 t ?_
    show Steps p.tables e below (s₁.setTop (mkF m 91 #[(vi p0), (vl q1), .second, (vl q2), .second, (vl q3), .second, (vi ya), (vi yw), (vi ye), (vi yf), (vi yg), (vi ym), .unset, .unset, .unset, .unset, .unset, .unset, .unset, .unset, .unset, .unset, .unset, .unset, .unset, .unset, .unset, .unset, .unset, .unset, .unset, .unset] [(.long yt)])) _
    refine XS.lstore X0.here hx rfl (hb hby at_91) rfl (l' := #[(vi p0), (vl q1), .second, (vl q2), .second, (vl q3), .second, (vi ya), (vi yw), (vi ye), (vi yf), (vi yg), (vi ym), (vl yt), .second, .unset, .unset, .unset, .unset, .unset, .unset, .unset, .unset, .unset, .unset, .unset, .unset, .unset, .unset, .unset, .unset, .unset, .unset]) rfl ?_
    refine XS.iload X0.here hx rfl (hb hby at_93) rfl ?_
    exact k
  obtain ⟨yes, hyes⟩ : ∃ z : Int64, z = (if yf = (0 : Int32) then yt else q1) := ⟨_, rfl⟩
  have pre24 : ∀ t, Steps p.tables e below (s₁.setTop (mkF m 104 #[(vi p0), (vl q1), .second, (vl q2), .second, (vl q3), .second, (vi ya), (vi yw), (vi ye), (vi yf), (vi yg), (vi ym), (vl yt), .second, .unset, .unset, .unset, .unset, .unset, .unset, .unset, .unset, .unset, .unset, .unset, .unset, .unset, .unset, .unset, .unset, .unset, .unset] [(.long yes)])) t → Steps p.tables e below (s₁.setTop (entryFrame m #[(.int p0), (.long q1), (.long q2), (.long q3)] maxLocals)) t := by
    intro t k
    rw [hyes] at k
    refine pre22 t ?_
    show Steps p.tables e below (s₁.setTop (mkF m 95 #[(vi p0), (vl q1), .second, (vl q2), .second, (vl q3), .second, (vi ya), (vi yw), (vi ye), (vi yf), (vi yg), (vi ym), (vl yt), .second, .unset, .unset, .unset, .unset, .unset, .unset, .unset, .unset, .unset, .unset, .unset, .unset, .unset, .unset, .unset, .unset, .unset, .unset] [(.int yf)])) _
    rcases Decidable.em (yf = (0 : Int32)) with hm23 | hm23
    · first | simp only [if_pos hm23] at k | skip
      refine XS.ifYes X0.here hx rfl (pc0 := 95) (pc' := 102) rfl (hb hby at_95) rfl ((if0 _ _).trans (teq hm23).1) (by decide) (by decide) ?_
      refine XS.lload X0.here hx rfl (hb hby at_102) rfl ?_
      exact k
    · first | simp only [if_neg hm23] at k | skip
      refine XS.ifNo X0.here hx rfl (hb hby at_95) rfl ((if0 _ _).trans (feq hm23).1) ?_
      refine XS.lloadN X0.here hx rfl (hb hby at_98) rfl ?_
      refine XS.goto X0.here hx rfl (pc0 := 99) (pc' := 104) rfl (hb hby at_99) (by decide) (by decide) ?_
      exact k
  have pre25 : ∀ t, Steps p.tables e below (s₁.setTop (mkF m 108 #[(vi p0), (vl q1), .second, (vl q2), .second, (vl q3), .second, (vi ya), (vi yw), (vi ye), (vi yf), (vi yg), (vi ym), (vl yt), .second, (vl yes), .second, .unset, .unset, .unset, .unset, .unset, .unset, .unset, .unset, .unset, .unset, .unset, .unset, .unset, .unset, .unset, .unset] [(.int yg)])) t → Steps p.tables e below (s₁.setTop (entryFrame m #[(.int p0), (.long q1), (.long q2), (.long q3)] maxLocals)) t := by
    intro t k
    refine pre24 t ?_
    show Steps p.tables e below (s₁.setTop (mkF m 104 #[(vi p0), (vl q1), .second, (vl q2), .second, (vl q3), .second, (vi ya), (vi yw), (vi ye), (vi yf), (vi yg), (vi ym), (vl yt), .second, .unset, .unset, .unset, .unset, .unset, .unset, .unset, .unset, .unset, .unset, .unset, .unset, .unset, .unset, .unset, .unset, .unset, .unset] [(.long yes)])) _
    refine XS.lstore X0.here hx rfl (hb hby at_104) rfl (l' := #[(vi p0), (vl q1), .second, (vl q2), .second, (vl q3), .second, (vi ya), (vi yw), (vi ye), (vi yf), (vi yg), (vi ym), (vl yt), .second, (vl yes), .second, .unset, .unset, .unset, .unset, .unset, .unset, .unset, .unset, .unset, .unset, .unset, .unset, .unset, .unset, .unset, .unset]) rfl ?_
    refine XS.iload X0.here hx rfl (hb hby at_106) rfl ?_
    exact k
  obtain ⟨yq, hyq⟩ : ∃ z : Int64, z = (if yg = (0 : Int32) then (q3 &&& (3 : Int64)) else q3) := ⟨_, rfl⟩
  have pre27 : ∀ t, Steps p.tables e below (s₁.setTop (mkF m 122 #[(vi p0), (vl q1), .second, (vl q2), .second, (vl q3), .second, (vi ya), (vi yw), (vi ye), (vi yf), (vi yg), (vi ym), (vl yt), .second, (vl yes), .second, .unset, .unset, .unset, .unset, .unset, .unset, .unset, .unset, .unset, .unset, .unset, .unset, .unset, .unset, .unset, .unset] [(.long yq)])) t → Steps p.tables e below (s₁.setTop (entryFrame m #[(.int p0), (.long q1), (.long q2), (.long q3)] maxLocals)) t := by
    intro t k
    rw [hyq] at k
    refine pre25 t ?_
    show Steps p.tables e below (s₁.setTop (mkF m 108 #[(vi p0), (vl q1), .second, (vl q2), .second, (vl q3), .second, (vi ya), (vi yw), (vi ye), (vi yf), (vi yg), (vi ym), (vl yt), .second, (vl yes), .second, .unset, .unset, .unset, .unset, .unset, .unset, .unset, .unset, .unset, .unset, .unset, .unset, .unset, .unset, .unset, .unset] [(.int yg)])) _
    rcases Decidable.em (yg = (0 : Int32)) with hm26 | hm26
    · first | simp only [if_pos hm26] at k | skip
      refine XS.ifYes X0.here hx rfl (pc0 := 108) (pc' := 116) rfl (hb hby at_108) rfl ((if0 _ _).trans (teq hm26).1) (by decide) (by decide) ?_
      refine XS.lload X0.here hx rfl (hb hby at_116) rfl ?_
      refine X0.ldc2Long hx hown (mvT hZ (ow hw 0 rfl)) (g := (mkF m 118 #[(vi p0), (vl q1), .second, (vl q2), .second, (vl q3), .second, (vi ya), (vi yw), (vi ye), (vi yf), (vi yg), (vi ym), (vl yt), .second, (vl yes), .second, .unset, .unset, .unset, .unset, .unset, .unset, .unset, .unset, .unset, .unset, .unset, .unset, .unset, .unset, .unset, .unset] [(.long q3)])) rfl (hb hby at_118) _ ?_
      refine XS.land X0.here hx rfl (hb hby at_121) rfl ?_
      exact k
    · first | simp only [if_neg hm26] at k | skip
      refine XS.ifNo X0.here hx rfl (hb hby at_108) rfl ((if0 _ _).trans (feq hm26).1) ?_
      refine XS.lload X0.here hx rfl (hb hby at_111) rfl ?_
      refine XS.goto X0.here hx rfl (pc0 := 113) (pc' := 122) rfl (hb hby at_113) (by decide) (by decide) ?_
      exact k
  obtain ⟨T28, h28, X28, e28, E28, A28, D28, -, st28⟩ := newO X0 hx hZ hown (ow hw 1 rfl) (ow hw 2 rfl) (ow hw 3 rfl) e0 (g := (mkF m 124 #[(vi p0), (vl q1), .second, (vl q2), .second, (vl q3), .second, (vi ya), (vi yw), (vi ye), (vi yf), (vi yg), (vi ym), (vl yt), .second, (vl yes), .second, (vl yq), .second, .unset, .unset, .unset, .unset, .unset, .unset, .unset, .unset, .unset, .unset, .unset, .unset, .unset, .unset] [])) rfl (hb hby at_124) (by decide) (by decide)
  obtain ⟨b28, g28⟩ : ∃ z, z = h0.size := ⟨_, rfl⟩
  rw [← g28] at A28 D28 st28
  have g29 : n0 ≤ b28 := Nat.le_trans (own_sz O0) (Nat.le_of_eq g28.symm)
  have O30 : Old Z n0 h28 := O0.ext E28
  have f31 : Fld Z h28 b28 s4n "waiters" s11n .null := D28 (Or.inr (ow hw 28 rfl)) (ty := (.object s12n)) (by decide)
  have f32 : Fld Z h28 b28 s4n s10n s0n .null := D28 (Or.inl (ow hw 32 rfl)) (ty := (.object s1n)) (by decide)
  have f33 : Fld Z h28 b28 s4n "heldBack" "Z" (.int 0) := D28 (Or.inl (ow hw 51 rfl)) (ty := .boolean) (by decide)
  have f34 : Fld Z h28 b28 s4n "holder" s9n .null := D28 (Or.inl (ow hw 110 rfl)) (ty := (.object s3n)) (by decide)
  have f35 : Fld Z h28 b28 s4n "generation" "J" (.long 0) := D28 (Or.inl (ow hw 129 rfl)) (ty := .long) (by decide)
  obtain ⟨_, _, ⟨T36, L36, k36, n36⟩, -, X36, ⟨Lc36, hQ36, l36, y36, z36⟩, st36⟩ := X28.specialBack hx (y := M4) rfl hown (mvT hZ (ow hw 4 rfl)) (mvT hZ (ow hw 5 rfl)) (mvT hZ (ow hw 6 rfl)) (by decide) (backOf (W := 1) (au1_0 l Z a0 hw [] wMAX_LOCK_DELAY wGRANTED wQUEUED wZERO hS b28 (0 : Int64) h28 n0 O30 A28 f35 f33 f34 f32 f31 g29) hZ (ow hw 6 rfl) (ow hw 3 rfl) (by decide) (by decide)) (g := (mkF m 128 #[(vi p0), (vl q1), .second, (vl q2), .second, (vl q3), .second, (vi ya), (vi yw), (vi ye), (vi yf), (vi yg), (vi ym), (vl yt), .second, (vl yes), .second, (vl yq), .second, .unset, .unset, .unset, .unset, .unset, .unset, .unset, .unset, .unset, .unset, .unset, .unset, .unset, .unset] [(.ref b28), (.ref b28)])) rfl (by rw [hml]; rfl) (Steps.refl _) (a := b28) (argsL := []) (rest := [(.ref b28)]) (lenOf pd_0 rfl) rfl (by show 2 * 0 + _ ≤ _; exact Nat.le_of_eq rfl) (hb hby at_128) (fun _ _ => ⟨rfl, e28, (by decide : 1 + 2 ≤ _), (by decide : 5 + 20 ≤ _)⟩)
  dsimp only [Pt.U, Pt.locs, Pt.cells, Pt.slots] at X36 l36 y36 z36 st36 hQ36
  subst l36 y36 z36
  obtain ⟨e1_36, e2_36, e3_36, rfl, Nq36, K36q, p36_0, p36_1, p36_2, p36_3, p36_4, p36_5, p36_6, p36_7, p36_8, p36_9, p36_10, p36_11, p36_12, p36_13, p36_14⟩ := hQ36
  have N36 := Fr.app N0 Nq36
  have ne37 : b28 ≠ e1_36 := Nat.ne_of_lt (Nat.lt_of_lt_of_le A28.lt p36_6)
  have g38 : n0 ≤ e1_36 := Nat.le_trans (own_sz O30) p36_6
  have ne39 : b28 ≠ e2_36 := Nat.ne_of_lt (Nat.lt_of_lt_of_le A28.lt p36_11)
  have g40 : n0 ≤ e2_36 := Nat.le_trans (own_sz O30) p36_11
  have O41 : Old Z n0 T36.heap := O30.keep K36q (allS g29 all0)
  have hya01 := own_b01 hya
  have hyw01 := own_b01 hyw
  have hye01 := own_b01 hye
  obtain ⟨T42, h42, X42, e42, E42, A42, D42, -, st42⟩ := newO X36 hx hZ hown (ow hw 33 rfl) (ow hw 34 rfl) (ow hw 35 rfl) rfl (g := (mkF m 133 #[(vi p0), (vl q1), .second, (vl q2), .second, (vl q3), .second, (vi ya), (vi yw), (vi ye), (vi yf), (vi yg), (vi ym), (vl yt), .second, (vl yes), .second, (vl yq), .second, (vr b28), .unset, .unset, .unset, .unset, .unset, .unset, .unset, .unset, .unset, .unset, .unset, .unset, .unset] [])) rfl (hb hby at_133) (by decide) (by decide)
  obtain ⟨b42, g42⟩ : ∃ z, z = T36.heap.size := ⟨_, rfl⟩
  rw [← g42] at A42 D42 st42
  have ne43 : b28 ≠ b42 := Nat.ne_of_lt (Nat.lt_of_lt_of_le p36_0.lt (Nat.le_of_eq g42.symm))
  have ne44 : e1_36 ≠ b42 := Nat.ne_of_lt (Nat.lt_of_lt_of_le p36_7.lt (Nat.le_of_eq g42.symm))
  have ne45 : e2_36 ≠ b42 := Nat.ne_of_lt (Nat.lt_of_lt_of_le p36_12.lt (Nat.le_of_eq g42.symm))
  have g46 : n0 ≤ b42 := Nat.le_trans (own_sz O41) (Nat.le_of_eq g42.symm)
  have O47 : Old Z n0 h42 := O41.ext E42
  have f48 : Fld Z h42 b42 s3n "session" "J" (.long 0) := D42 (Or.inr (ow hw 41 rfl)) (ty := .long) (by decide)
  have f49 : Fld Z h42 b42 s3n "handle" "J" (.long 0) := D42 (Or.inr (ow hw 43 rfl)) (ty := .long) (by decide)
  obtain ⟨_, _, ⟨T50, L50, k50, n50⟩, -, X50, ⟨Lc50, hQ50, l50, y50, z50⟩, st50⟩ := X42.specialBack hx (y := M5) rfl hown (mvT hZ (ow hw 36 rfl)) (mvT hZ (ow hw 37 rfl)) (mvT hZ (ow hw 38 rfl)) (by decide) (backOf (W := 1) (au5_0 l Z a0 hw [] wMAX_LOCK_DELAY wGRANTED wQUEUED wZERO hS b42 q1 h42 n0 O47 A42 f49 f48 g46) hZ (ow hw 38 rfl) (ow hw 35 rfl) (by decide) (by decide)) (g := (mkF m 139 #[(vi p0), (vl q1), .second, (vl q2), .second, (vl q3), .second, (vi ya), (vi yw), (vi ye), (vi yf), (vi yg), (vi ym), (vl yt), .second, (vl yes), .second, (vl yq), .second, (vr b28), .unset, .unset, .unset, .unset, .unset, .unset, .unset, .unset, .unset, .unset, .unset, .unset, .unset] [(.long 1), (.long q1), (.ref b42), (.ref b42)])) rfl (by rw [hml]; rfl) (Steps.refl _) (a := b42) (argsL := [(.long q1), (.long 1)]) (rest := [(.ref b42)]) (lenOf pd_1 rfl) rfl (by show 2 * 0 + _ ≤ _; exact Nat.le_of_eq rfl) (hb hby at_139) (fun _ _ => ⟨rfl, e42, (by decide : 4 + 0 ≤ _), (by decide : 27 + 0 ≤ _)⟩)
  dsimp only [Pt.U, Pt.locs, Pt.cells, Pt.slots] at X50 l50 y50 z50 st50 hQ50
  subst l50 y50 z50
  obtain ⟨rfl, Nq50, K50q, p50_0, p50_1, p50_2⟩ := hQ50
  have N50 := Fr.app N36 Nq50
  have O51 : Old Z n0 T50.heap := O47.keep K50q (allS g46 all0)
  obtain ⟨T52, h52, X52, e52, E52, A52, D52, -, st52⟩ := newO X50 hx hZ hown (ow hw 33 rfl) (ow hw 34 rfl) (ow hw 35 rfl) rfl (g := (mkF m 144 #[(vi p0), (vl q1), .second, (vl q2), .second, (vl q3), .second, (vi ya), (vi yw), (vi ye), (vi yf), (vi yg), (vi ym), (vl yt), .second, (vl yes), .second, (vl yq), .second, (vr b28), (vr b42), .unset, .unset, .unset, .unset, .unset, .unset, .unset, .unset, .unset, .unset, .unset, .unset] [])) rfl (hb hby at_144) (by decide) (by decide)
  obtain ⟨b52, g52⟩ : ∃ z, z = T50.heap.size := ⟨_, rfl⟩
  rw [← g52] at A52 D52 st52
  have f54 : Exa Z T50.heap b28 s4n := ((p36_0.ext E42).keep K50q)
  have ne53 : b28 ≠ b52 := Nat.ne_of_lt (Nat.lt_of_lt_of_le f54.lt (Nat.le_of_eq g52.symm))
  have f56 : Exa Z T50.heap e1_36 s6n := ((p36_7.ext E42).keep K50q)
  have ne55 : e1_36 ≠ b52 := Nat.ne_of_lt (Nat.lt_of_lt_of_le f56.lt (Nat.le_of_eq g52.symm))
  have f58 : Exa Z T50.heap e2_36 s7n := ((p36_12.ext E42).keep K50q)
  have ne57 : e2_36 ≠ b52 := Nat.ne_of_lt (Nat.lt_of_lt_of_le f58.lt (Nat.le_of_eq g52.symm))
  have ne59 : b42 ≠ b52 := Nat.ne_of_lt (Nat.lt_of_lt_of_le p50_0.lt (Nat.le_of_eq g52.symm))
  have g60 : n0 ≤ b52 := Nat.le_trans (own_sz O51) (Nat.le_of_eq g52.symm)
  have O61 : Old Z n0 h52 := O51.ext E52
  have f62 : Fld Z h52 b52 s3n "session" "J" (.long 0) := D52 (Or.inr (ow hw 41 rfl)) (ty := .long) (by decide)
  have f63 : Fld Z h52 b52 s3n "handle" "J" (.long 0) := D52 (Or.inr (ow hw 43 rfl)) (ty := .long) (by decide)
  obtain ⟨_, _, ⟨T64, L64, k64, n64⟩, -, X64, ⟨Lc64, hQ64, l64, y64, z64⟩, st64⟩ := X52.specialBack hx (y := M5) rfl hown (mvT hZ (ow hw 36 rfl)) (mvT hZ (ow hw 37 rfl)) (mvT hZ (ow hw 38 rfl)) (by decide) (backOf (W := 1) (au5_1 l Z a0 hw [] wMAX_LOCK_DELAY wGRANTED wQUEUED wZERO hS b52 yt h52 n0 O61 A52 f63 f62 g60) hZ (ow hw 38 rfl) (ow hw 35 rfl) (by decide) (by decide)) (g := (mkF m 153 #[(vi p0), (vl q1), .second, (vl q2), .second, (vl q3), .second, (vi ya), (vi yw), (vi ye), (vi yf), (vi yg), (vi ym), (vl yt), .second, (vl yes), .second, (vl yq), .second, (vr b28), (vr b42), .unset, .unset, .unset, .unset, .unset, .unset, .unset, .unset, .unset, .unset, .unset, .unset] [(.long 2), (.long yt), (.ref b52), (.ref b52)])) rfl (by rw [hml]; rfl) (Steps.refl _) (a := b52) (argsL := [(.long yt), (.long 2)]) (rest := [(.ref b52)]) (lenOf pd_1 rfl) rfl (by show 2 * 0 + _ ≤ _; exact Nat.le_of_eq rfl) (hb hby at_153) (fun _ _ => ⟨rfl, e52, (by decide : 5 + 0 ≤ _), (by decide : 29 + 0 ≤ _)⟩)
  dsimp only [Pt.U, Pt.locs, Pt.cells, Pt.slots] at X64 l64 y64 z64 st64 hQ64
  subst l64 y64 z64
  obtain ⟨rfl, Nq64, K64q, p64_0, p64_1, p64_2⟩ := hQ64
  have N64 := Fr.app N50 Nq64
  have O65 : Old Z n0 T64.heap := O61.keep K64q (allS g60 all0)
  have pre66 : ∀ t, Steps p.tables e below (T64.setTop (mkF m 158 #[(vi p0), (vl q1), .second, (vl q2), .second, (vl q3), .second, (vi ya), (vi yw), (vi ye), (vi yf), (vi yg), (vi ym), (vl yt), .second, (vl yes), .second, (vl yq), .second, (vr b28), (vr b42), (vr b52), .unset, .unset, .unset, .unset, .unset, .unset, .unset, .unset, .unset, .unset, .unset] [])) t → Steps p.tables e below (s₁.setTop (entryFrame m #[(.int p0), (.long q1), (.long q2), (.long q3)] maxLocals)) t := by
    intro t k
    refine pre27 t ?_
    show Steps p.tables e below (s₁.setTop (mkF m 122 #[(vi p0), (vl q1), .second, (vl q2), .second, (vl q3), .second, (vi ya), (vi yw), (vi ye), (vi yf), (vi yg), (vi ym), (vl yt), .second, (vl yes), .second, .unset, .unset, .unset, .unset, .unset, .unset, .unset, .unset, .unset, .unset, .unset, .unset, .unset, .unset, .unset, .unset] [(.long yq)])) _
    refine XS.lstore X0.here hx rfl (hb hby at_122) rfl (l' := #[(vi p0), (vl q1), .second, (vl q2), .second, (vl q3), .second, (vi ya), (vi yw), (vi ye), (vi yf), (vi yg), (vi ym), (vl yt), .second, (vl yes), .second, (vl yq), .second, .unset, .unset, .unset, .unset, .unset, .unset, .unset, .unset, .unset, .unset, .unset, .unset, .unset, .unset]) rfl ?_
    refine st28 _ ?_
    refine XS.dup X28.here hx rfl (hb hby at_127) rfl rfl ?_
    refine st36.trans ?_
    refine XS.astore X36.here hx rfl (hb hby at_131) rfl rfl (l' := #[(vi p0), (vl q1), .second, (vl q2), .second, (vl q3), .second, (vi ya), (vi yw), (vi ye), (vi yf), (vi yg), (vi ym), (vl yt), .second, (vl yes), .second, (vl yq), .second, (vr b28), .unset, .unset, .unset, .unset, .unset, .unset, .unset, .unset, .unset, .unset, .unset, .unset, .unset]) rfl ?_
    refine st42 _ ?_
    refine XS.dup X42.here hx rfl (hb hby at_136) rfl rfl ?_
    refine XS.lloadN X42.here hx rfl (hb hby at_137) rfl ?_
    show Steps p.tables e below (T42.setTop (mkF m 138 #[(vi p0), (vl q1), .second, (vl q2), .second, (vl q3), .second, (vi ya), (vi yw), (vi ye), (vi yf), (vi yg), (vi ym), (vl yt), .second, (vl yes), .second, (vl yq), .second, (vr b28), .unset, .unset, .unset, .unset, .unset, .unset, .unset, .unset, .unset, .unset, .unset, .unset, .unset] [(.long q1), (.ref b42), (.ref b42)])) _
    refine XS.lconst X42.here hx rfl (hb hby at_138) ?_
    refine st50.trans ?_
    refine XS.astore X50.here hx rfl (hb hby at_142) rfl rfl (l' := #[(vi p0), (vl q1), .second, (vl q2), .second, (vl q3), .second, (vi ya), (vi yw), (vi ye), (vi yf), (vi yg), (vi ym), (vl yt), .second, (vl yes), .second, (vl yq), .second, (vr b28), (vr b42), .unset, .unset, .unset, .unset, .unset, .unset, .unset, .unset, .unset, .unset, .unset, .unset]) rfl ?_
    refine st52 _ ?_
    refine XS.dup X52.here hx rfl (hb hby at_147) rfl rfl ?_
    refine XS.lload X52.here hx rfl (hb hby at_148) rfl ?_
    refine X52.ldc2Long hx hown (mvT hZ (ow hw 44 rfl)) (g := (mkF m 150 #[(vi p0), (vl q1), .second, (vl q2), .second, (vl q3), .second, (vi ya), (vi yw), (vi ye), (vi yf), (vi yg), (vi ym), (vl yt), .second, (vl yes), .second, (vl yq), .second, (vr b28), (vr b42), .unset, .unset, .unset, .unset, .unset, .unset, .unset, .unset, .unset, .unset, .unset, .unset] [(.long yt), (.ref b52), (.ref b52)])) rfl (hb hby at_150) _ ?_
    refine st64.trans ?_
    show Steps p.tables e below (T64.setTop (mkF m 156 #[(vi p0), (vl q1), .second, (vl q2), .second, (vl q3), .second, (vi ya), (vi yw), (vi ye), (vi yf), (vi yg), (vi ym), (vl yt), .second, (vl yes), .second, (vl yq), .second, (vr b28), (vr b42), .unset, .unset, .unset, .unset, .unset, .unset, .unset, .unset, .unset, .unset, .unset, .unset] [(.ref b52)])) _
    refine XS.astore X64.here hx rfl (hb hby at_156) rfl rfl (l' := #[(vi p0), (vl q1), .second, (vl q2), .second, (vl q3), .second, (vi ya), (vi yw), (vi ye), (vi yf), (vi yg), (vi ym), (vl yt), .second, (vl yes), .second, (vl yq), .second, (vr b28), (vr b42), (vr b52), .unset, .unset, .unset, .unset, .unset, .unset, .unset, .unset, .unset, .unset, .unset]) rfl ?_
    exact k
  have f67 : Exa Z T64.heap b28 s4n := ((f54.ext E52).keep K64q)
  have f68 : Fld Z T64.heap b28 s4n "generation" "J" (.long 0) := ((((p36_1.ext E42).keep K50q (ninS ne43 nin0)).ext E52).keep K64q (ninS ne53 nin0))
  have f69 : Fld Z T64.heap b28 s4n "heldBack" "Z" (.int 0) := ((((p36_2.ext E42).keep K50q (ninS ne43 nin0)).ext E52).keep K64q (ninS ne53 nin0))
  have f70 : Fld Z T64.heap b28 s4n "holder" s9n .null := ((((p36_3.ext E42).keep K50q (ninS ne43 nin0)).ext E52).keep K64q (ninS ne53 nin0))
  have f71 : Fld Z T64.heap b28 s4n s10n s0n (.ref wZERO) := ((((p36_4.ext E42).keep K50q (ninS ne43 nin0)).ext E52).keep K64q (ninS ne53 nin0))
  have f72 : Fld Z T64.heap b28 s4n "waiters" s11n (.ref e1_36) := ((((p36_5.ext E42).keep K50q (ninS ne43 nin0)).ext E52).keep K64q (ninS ne53 nin0))
  have f73 : Exa Z T64.heap b42 s3n := ((p50_0.ext E52).keep K64q)
  have f74 : Fld Z T64.heap b42 s3n "handle" "J" (.long 1) := ((p50_1.ext E52).keep K64q (ninS ne59 nin0))
  have f75 : Fld Z T64.heap b42 s3n "session" "J" (.long q1) := ((p50_2.ext E52).keep K64q (ninS ne59 nin0))
  have f76 : Exa Z T64.heap e1_36 s6n := ((f56.ext E52).keep K64q)
  have f77 : Fld Z T64.heap e1_36 s6n "elements" s7n (.ref e2_36) := ((((p36_8.ext E42).keep K50q (ninS ne44 nin0)).ext E52).keep K64q (ninS ne55 nin0))
  have f78 : Fld Z T64.heap e1_36 s6n "head" "I" (.int 0) := ((((p36_9.ext E42).keep K50q (ninS ne44 nin0)).ext E52).keep K64q (ninS ne55 nin0))
  have f79 : Fld Z T64.heap e1_36 s6n "tail" "I" (.int 0) := ((((p36_10.ext E42).keep K50q (ninS ne44 nin0)).ext E52).keep K64q (ninS ne55 nin0))
  have f80 : Arv Z T64.heap e2_36 e3_36 (.object s8n) (17 : Int32) ([.null, .null, .null, .null, .null, .null, .null, .null, .null, .null, .null, .null, .null, .null, .null, .null, .null]) .null := ((((p36_13.ext E42).keep K50q (ninS ne45 nin0)).ext E52).keep K64q (ninS ne57 nin0))
  have f81 : Exa Z T64.heap e2_36 s7n := ((f58.ext E52).keep K64q)
  have ne82 : e1_36 ≠ e2_36 := ne_exa f76 f81 (by decide)
  obtain ⟨t9, o9, hs9, hr9⟩ := tl_rm0_a hw wMAX_LOCK_DELAY wGRANTED wQUEUED wZERO hS p0 q1 q2 q3 ya yw ye yf yg ym yt yes yq b28 b42 b52 e1_36 e2_36 e3_36 X64 hx hZ hby hml hown hnm hret0 hlk0 rfl N64 O65 f67 f68 f69 f70 f71 f72 f73 f74 f75 p64_0 p64_1 p64_2 f76 f77 f78 f79 f80 p36_14 f81 hya01 hyw01 hye01 g29 g38 g40 ne43 ne53 ne37 ne39 (Ne.symm ne44) (Ne.symm ne45) (Ne.symm ne55) (Ne.symm ne57) ne82
  exact ⟨t9, o9, pre66 _ hs9, hr9⟩
theorem comes_1 {Post : Tables → Env → Array Value → State → Outcome → State → Prop} (hpost : ∀ tb e args s v u, (limb_1_1.after args s (.returned v) u = true ∧ limb_1_2.after args s (.returned v) u = true ∧ True) → FrameEnd s (.returned v) u (Jvm.fieldLocs frame_1_writes args s ++ Jvm.arrayLocs frame_1_arrays args s ++ Jvm.staticLocs frame_1_statics s) 24 192 → Post tb e args s (.returned v) u) :
    ArmFor flags0 classFile x code maxLocals ret World_1 tables_1 room_1 Calls_1 rest_1 Pre_1 Post := by
  intro l hfl _ _ p e ha hc hk s m args below hf hA hF happ hP
  obtain ⟨hcalls, hrest, hpre⟩ := hP
  obtain ⟨-, -, -, hnamed, -, -, -, hat⟩ := (Spec.applies_iff hf).mp happ
  obtain ⟨hg, hn⟩ := and_e (Cond.before_iff.mp (show (Jvm.Cond.and given_1 narrow_1).before args s = true from hpre))
  obtain ⟨g1, g2⟩ := and_e hg
  obtain ⟨g3, g4⟩ := and_e g2
  obtain ⟨g5, g6⟩ := and_e g4
  obtain ⟨g7, g8⟩ := and_e g6
  obtain ⟨w0, w1, w2, w3, rfl⟩ : ∃ w0 w1 w2 w3 : Value, args = #[w0, w1, w2, w3] := by
    have hs : args.size = 4 := by simpa [Cond.value, given_1] using g1
    obtain ⟨L⟩ := args
    match L, hs with
    | [w0, w1, w2, w3], _ => exact ⟨w0, w1, w2, w3, rfl⟩
  have hw := fun d (hd : d ∈ tables_1) => atoms_spec (ws := Jvm.Cond.code x code maxLocals ret :: tables_1) hat d (List.mem_cons_of_mem _ hd)
  have hfit : Fit s := fun {y c} hc i hi => by
    obtain ⟨ha, rfl⟩ := Array.getElem?_eq_some_iff.mp hc
    have q := List.all_eq_true.mp ((Array.all_eq_true_iff_forall_mem.mp hF) _ (Array.getElem_mem ha)) i (List.mem_range.mpr hi)
    simpa [Array.getElem?_eq_getElem hi] using q
  obtain ⟨hsets, hown0⟩ := atoms_of _ (rest_1_c_eq ▸ (show rest_1_c.before _ s = true from hrest))
  have hr0 := Cond.before_iff.mp hown0
  obtain ⟨i0, ei0⟩ := is_v g3
  obtain rfl : w0 = (.int i0) := Option.some.inj ei0
  obtain ⟨i1, ei1⟩ := isL_v g5
  obtain rfl : w1 = (.long i1) := Option.some.inj ei1
  obtain ⟨i2, ei2⟩ := isL_v g7
  obtain rfl : w2 = (.long i2) := Option.some.inj ei2
  obtain ⟨i3, ei3⟩ := isL_v g8
  obtain rfl : w3 = (.long i3) := Option.some.inj ei3
  obtain ⟨g9, g10⟩ := and_e hn
  obtain ⟨g11, g12⟩ := and_e g10
  obtain ⟨g13, g14⟩ := and_e g12
  obtain ⟨g15, g16⟩ := and_e g14
  obtain ⟨wMAX_LOCK_DELAY, ev_wMAX_LOCK_DELAY⟩ := exa_v g9
  have S_wMAX_LOCK_DELAY := Sta.start ev_wMAX_LOCK_DELAY (Or.inr ⟨(ow hw 112 rfl), (ow hw 113 rfl)⟩)
  have E_wMAX_LOCK_DELAY := Exa.start ev_wMAX_LOCK_DELAY g9
  obtain ⟨wGRANTED, ev_wGRANTED⟩ := exa_v g11
  have S_wGRANTED := Sta.start ev_wGRANTED (Or.inr ⟨(ow hw 131 rfl), (ow hw 132 rfl)⟩)
  have E_wGRANTED := Exa.start ev_wGRANTED g11
  obtain ⟨wQUEUED, ev_wQUEUED⟩ := exa_v g13
  have S_wQUEUED := Sta.start ev_wQUEUED (Or.inr ⟨(ow hw 131 rfl), (ow hw 168 rfl)⟩)
  have E_wQUEUED := Exa.start ev_wQUEUED g13
  have F_seconds_wMAX_LOCK_DELAY := Fld.start ((fld_at ev_wMAX_LOCK_DELAY).symm.trans (own_eq_long g15))
  have F_nanos_wMAX_LOCK_DELAY := Fld.start ((fld_at ev_wMAX_LOCK_DELAY).symm.trans (own_eq_int g16))
  have hx_wZERO := Cond.before_iff.mp (hsets _ (List.mem_of_getElem? (i := 2) rfl))
  obtain ⟨wZERO, ev_wZERO⟩ := exa_v hx_wZERO
  have S_wZERO := Sta.start ev_wZERO (Or.inl (hsets _ (List.mem_of_getElem? (i := 1) rfl)))
  have E_wZERO := Exa.start ev_wZERO hx_wZERO
  have F_seconds_wZERO := Fld.start ((fld_at ev_wZERO).symm.trans (own_eq_long (Cond.before_iff.mp (hsets _ (List.mem_of_getElem? (i := 3) rfl)))))
  have F_nanos_wZERO := Fld.start ((fld_at ev_wZERO).symm.trans (own_eq_int (Cond.before_iff.mp (hsets _ (List.mem_of_getElem? (i := 4) rfl)))))
  have hS : SS s wMAX_LOCK_DELAY wGRANTED wQUEUED wZERO := ⟨S_wMAX_LOCK_DELAY, E_wMAX_LOCK_DELAY, S_wGRANTED, E_wGRANTED, S_wQUEUED, E_wQUEUED, F_seconds_wMAX_LOCK_DELAY, F_nanos_wMAX_LOCK_DELAY, S_wZERO, E_wZERO, F_seconds_wZERO, F_nanos_wZERO⟩
  obtain ⟨n, o, h1, h2, h3, _, L, rfl, ⟨rfl, N⟩, hq⟩ := rm0 l s _ hw tables_1 wMAX_LOCK_DELAY wGRANTED wQUEUED wZERO hS i0 i1 i2 i3 s.heap s.heap.size (Old.start s)  p e ha hc hk s m _ below hf ((Spec.applies_iff_loose hf).mp happ).1 ⟨rfl, State.Warmed39.refl s, rfl⟩ trivial
  refine ⟨n, _, h1, h2, h3, hpost _ _ _ _ _ _ ⟨Cond.after_iff.mpr rfl, Cond.after_iff.mpr (eq_i res_at (Term.int_eval (1)) rfl), trivial⟩ ⟨hq.1, hq.2.1, (hq.2.2.sift fun y hy => Or.inr (N y hy)).mono (by decide) (by decide)⟩⟩
theorem main_1_1 : Claimed_1_1 := comes_1 fun _ _ _ _ _ _ h hF => ⟨h.1, hF⟩
theorem main_1_2 : Claimed_1_2 := comes_1 fun _ _ _ _ _ _ h hF => ⟨h.2.1, hF⟩
end Jvm.Pilot.@@N@@
namespace Jvm.Pilot.@@N@@
open Jvm Jvm.ClassFile Sem Op Lib Jvm.Free Jvm.Stand Jvm.Pilot.@@N@@.Jvm.D
/-! MADE BY PROGRAM (witnessworld.py) out of the Statement's table words and the real class files: 29 classes; the members and pool entries that the words name. The judged class is class 1, her method 1. -/
namespace start1
open Jvm.ClassFile
def u (s : String) : CpInfo := .utf8 (stringToUtf16 s)
/-- a pool by its gaps: so many unusable entries, then the entry; so many at the end -/
def gap : Nat → List CpInfo → List CpInfo
  | 0, r => r
  | n + 1, r => .unusable :: gap n r
def poolList (es : List (Nat × CpInfo)) (last : Nat) : List CpInfo := es.foldr (fun e r => gap e.1 (e.2 :: r)) (gap last [])
def pool (es : List (Nat × CpInfo)) (last : Nat) : Array CpInfo := ⟨poolList es last⟩
def fileOf (pool : Array CpInfo) (this : Nat) (attrs : Array Attribute := #[]) (ms : Array MethodInfo := #[]) (fl : Nat := 33) (sup : Nat := 0) (ifs : Array Nat := #[]) (fds : Array FieldInfo := #[]) : ClassFile where
  minorVersion := 0
  majorVersion := 65
  constantPool := pool
  accessFlags := fl
  thisClass := this
  superClass := sup
  interfaces := ifs
  fields := fds
  methods := ms
  attributes := attrs
def plain (name : String) (sup : Option ClassId) : Class where
  name := name
  kind := .ordinary
  loader := none
  accessFlags := 33
  super := sup
  interfaces := #[]
  cf := none
  fields := #[]
  methods := #[]
  instanceTypes := #[]
  staticTypes := #[]
  resolved := #[]
  callSites := []
  init := .initialized
  statics := none
  mirror := none

def pool0 : Array CpInfo := pool [(5, u "<init>"), (0, u "()V"), (1, .class_ 10), (1, u "java/lang/Object")] 113

def k0c0 : Code := { maxStack := 0, maxLocals := 1, code := object_method_1_code, exceptionTable := #[], attributes := #[] }
def k0m0 : Method := { name := "<init>", desc := "()V", sig := { parameters := [], returnType := none }, accessFlags := 1, code := some k0c0 }
/-- java/lang/Object -/
def k0 : Class := { plain "java/lang/Object" none with
  accessFlags := 33
  interfaces := #[]
  cf := some (fileOf pool0 8 #[] #[{ accessFlags := 1, nameIndex := 5, descriptorIndex := 6, attributes := #[] }] 33 0 #[] #[])
  fields := #[]
  methods := #[k0m0]
  instanceTypes := #[]
  staticTypes := #[]
  resolved := Array.replicate 124 none
  statics := none }

def pool1 : Array CpInfo := pool [(2, .class_ 4), (0, .nameAndType 5 6), (0, u "java/lang/Object"), (0, u "<init>"), (0, u "()V"), (0, .long 3), (1, .class_ 10), (0, u "com/example/umpired/umpired/server/NodeLock"), (0, .methodref 9 3), (0, .class_ 13), (0, u "com/example/umpired/umpired/server/SessionHandle"), (0, .methodref 12 15), (0, .nameAndType 5 16), (0, u "(JJ)V"), (0, .long 2), (1, .fieldref 20 21), (0, .class_ 22), (0, .nameAndType 23 24), (0, u "com/example/umpired/umpired/protocol/Limits"), (0, u "MAX_LOCK_DELAY"), (0, u "Ljava/time/Duration;"), (0, .methodref 9 26), (0, .nameAndType 27 28), (0, u "acquire"), (0, u "(Lcom/example/umpired/umpired/server/SessionHandle;Ljava/time/Duration;Z)Lcom/example/umpired/umpired/server/NodeLock$Outcome;"), (0, .methodref 9 30), (0, .nameAndType 31 32), (0, u "isHeldBackAfter"), (0, u "(J)Z"), (0, .methodref 9 34), (0, .nameAndType 35 36), (0, u "endSession"), (0, u "(JZ)Lcom/example/umpired/umpired/server/SessionHandle;"), (0, .class_ 38), (0, u "com/example/umpired/umpired/server/NodeLockIsHeldBackAfterPinLaw"), (2, u "law"), (0, u "(IJJJ)Z")] 7

def k1m0 : Method := { name := "<init>", desc := "()V", sig := { parameters := [], returnType := none }, accessFlags := 1, code := none }
def k1c1 : Code := { maxStack := 6, maxLocals := 33, code := code, exceptionTable := #[], attributes := #[] }
def k1m1 : Method := { name := "law", desc := "(IJJJ)Z", sig := { parameters := [.int, .long, .long, .long], returnType := some .boolean }, accessFlags := 9, code := some k1c1 }
/-- com/example/umpired/umpired/server/NodeLockIsHeldBackAfterPinLaw -/
def k1 : Class := { plain "com/example/umpired/umpired/server/NodeLockIsHeldBackAfterPinLaw" (some 0) with
  accessFlags := 49
  interfaces := #[]
  cf := some (fileOf pool1 37 #[] #[{ accessFlags := 1, nameIndex := 5, descriptorIndex := 6, attributes := #[] }, { accessFlags := 9, nameIndex := 41, descriptorIndex := 42, attributes := #[] }] 49 2 #[] #[])
  fields := #[]
  methods := #[k1m0, k1m1]
  instanceTypes := #[]
  staticTypes := #[]
  resolved := Array.replicate 50 none
  statics := none }

def pool2 : Array CpInfo := pool [(1, .methodref 2 3), (0, .class_ 4), (0, .nameAndType 5 6), (0, u "java/lang/Object"), (0, u "<init>"), (0, u "()V"), (0, .class_ 8), (0, u "java/util/ArrayDeque"), (0, .methodref 7 3), (0, .fieldref 11 12), (0, .class_ 13), (0, .nameAndType 14 15), (0, u "com/example/umpired/umpired/server/NodeLock"), (0, u "waiters"), (0, u "Ljava/util/Deque;"), (0, .fieldref 17 18), (0, .class_ 19), (0, .nameAndType 20 21), (0, u "java/time/Duration"), (0, u "ZERO"), (0, u "Ljava/time/Duration;"), (0, .fieldref 11 23), (0, .nameAndType 24 21), (0, u "holderLockDelay"), (0, .fieldref 11 26), (0, .nameAndType 27 28), (0, u "generation"), (0, u "J"), (0, .fieldref 11 30), (0, .nameAndType 31 32), (0, u "holder"), (0, u "Lcom/example/umpired/umpired/server/SessionHandle;"), (0, .methodref 34 35), (0, .class_ 36), (0, .nameAndType 37 38), (0, u "com/example/umpired/umpired/server/SessionHandle"), (0, u "equals"), (0, u "(Ljava/lang/Object;)Z"), (0, .fieldref 40 41), (0, .class_ 42), (0, .nameAndType 43 44), (0, u "com/example/umpired/umpired/server/NodeLock$Outcome"), (0, u "GRANTED"), (0, u "Lcom/example/umpired/umpired/server/NodeLock$Outcome;"), (0, .fieldref 11 46), (0, .nameAndType 47 48), (0, u "heldBack"), (0, u "Z"), (0, .methodref 11 50), (0, .nameAndType 51 52), (0, u "grant"), (0, u "(Lcom/example/umpired/umpired/server/SessionHandle;Ljava/time/Duration;)V"), (0, .methodref 11 54), (0, .nameAndType 55 56), (0, u "isWaiting"), (0, u "(Lcom/example/umpired/umpired/server/SessionHandle;)Z"), (0, .class_ 58), (0, u "com/example/umpired/umpired/server/NodeLock$Waiter"), (0, .methodref 57 60), (0, .nameAndType 5 52), (0, .interfaceMethodref 62 63), (0, .class_ 64), (0, .nameAndType 65 38), (0, u "java/util/Deque"), (0, u "add"), (0, .fieldref 40 67), (0, .nameAndType 68 44), (0, u "QUEUED"), (12, .interfaceMethodref 62 82), (0, .nameAndType 83 84), (0, u "iterator"), (0, u "()Ljava/util/Iterator;"), (0, .interfaceMethodref 86 87), (0, .class_ 88), (0, .nameAndType 89 90), (0, u "java/util/Iterator"), (0, u "hasNext"), (0, u "()Z"), (0, .interfaceMethodref 86 92), (0, .nameAndType 93 94), (0, u "next"), (0, u "()Ljava/lang/Object;"), (0, .fieldref 57 96), (0, .nameAndType 97 32), (0, u "owner"), (3, .methodref 34 102), (0, .nameAndType 103 104), (0, u "session"), (0, u "()J"), (3, .methodref 11 109), (0, .nameAndType 110 111), (0, u "isHeldBySession"), (0, u "(J)Z"), (0, .methodref 11 113), (0, .nameAndType 114 115), (0, u "grantNext"), (0, u "()Lcom/example/umpired/umpired/server/SessionHandle;"), (0, .interfaceMethodref 86 117), (0, .nameAndType 118 6), (0, u "remove"), (0, .methodref 17 120), (0, .nameAndType 121 90), (0, u "isZero"), (2, u "isHeldBackAfter"), (60, .fieldref 57 186), (0, .nameAndType 187 21), (0, u "lockDelay"), (0, .interfaceMethodref 62 189), (0, .nameAndType 190 94), (0, u "poll"), (4, u "acquire"), (0, u "(Lcom/example/umpired/umpired/server/SessionHandle;Ljava/time/Duration;Z)Lcom/example/umpired/umpired/server/NodeLock$Outcome;"), (9, u "endSession"), (0, u "(JZ)Lcom/example/umpired/umpired/server/SessionHandle;")] 48

def k2c0 : Code := { maxStack := 3, maxLocals := 1, code := prog_84_method_1_code, exceptionTable := #[], attributes := #[] }
def k2m0 : Method := { name := "<init>", desc := "()V", sig := { parameters := [], returnType := none }, accessFlags := 0, code := some k2c0 }
def k2c1 : Code := { maxStack := 5, maxLocals := 5, code := prog_84_method_3_code, exceptionTable := #[], attributes := #[] }
def k2m1 : Method := { name := "acquire", desc := "(Lcom/example/umpired/umpired/server/SessionHandle;Ljava/time/Duration;Z)Lcom/example/umpired/umpired/server/NodeLock$Outcome;", sig := { parameters := [(.object "com/example/umpired/umpired/server/SessionHandle"), (.object "java/time/Duration"), .boolean], returnType := some (.object "com/example/umpired/umpired/server/NodeLock$Outcome") }, accessFlags := 0, code := some k2c1 }
def k2c2 : Code := { maxStack := 4, maxLocals := 3, code := prog_84_method_7_code, exceptionTable := #[], attributes := #[] }
def k2m2 : Method := { name := "isHeldBySession", desc := "(J)Z", sig := { parameters := [.long], returnType := some .boolean }, accessFlags := 0, code := some k2c2 }
def k2c3 : Code := { maxStack := 4, maxLocals := 3, code := prog_84_method_10_code, exceptionTable := #[], attributes := #[] }
def k2m3 : Method := { name := "isHeldBackAfter", desc := "(J)Z", sig := { parameters := [.long], returnType := some .boolean }, accessFlags := 0, code := some k2c3 }
def k2c4 : Code := { maxStack := 4, maxLocals := 6, code := prog_84_method_14_code, exceptionTable := #[], attributes := #[] }
def k2m4 : Method := { name := "endSession", desc := "(JZ)Lcom/example/umpired/umpired/server/SessionHandle;", sig := { parameters := [.long, .boolean], returnType := some (.object "com/example/umpired/umpired/server/SessionHandle") }, accessFlags := 0, code := some k2c4 }
def k2c5 : Code := { maxStack := 2, maxLocals := 4, code := prog_84_method_21_code, exceptionTable := #[], attributes := #[] }
def k2m5 : Method := { name := "isWaiting", desc := "(Lcom/example/umpired/umpired/server/SessionHandle;)Z", sig := { parameters := [(.object "com/example/umpired/umpired/server/SessionHandle")], returnType := some .boolean }, accessFlags := 2, code := some k2c5 }
def k2c6 : Code := { maxStack := 3, maxLocals := 2, code := prog_84_method_22_code, exceptionTable := #[], attributes := #[] }
def k2m6 : Method := { name := "grantNext", desc := "()Lcom/example/umpired/umpired/server/SessionHandle;", sig := { parameters := [], returnType := some (.object "com/example/umpired/umpired/server/SessionHandle") }, accessFlags := 2, code := some k2c6 }
def k2c7 : Code := { maxStack := 5, maxLocals := 3, code := prog_84_method_23_code, exceptionTable := #[], attributes := #[] }
def k2m7 : Method := { name := "grant", desc := "(Lcom/example/umpired/umpired/server/SessionHandle;Ljava/time/Duration;)V", sig := { parameters := [(.object "com/example/umpired/umpired/server/SessionHandle"), (.object "java/time/Duration")], returnType := none }, accessFlags := 2, code := some k2c7 }
/-- com/example/umpired/umpired/server/NodeLock -/
def k2 : Class := { plain "com/example/umpired/umpired/server/NodeLock" (some 0) with
  accessFlags := 48
  interfaces := #[]
  cf := some (fileOf pool2 11 #[.nestMembers #[57, 40]] #[{ accessFlags := 0, nameIndex := 5, descriptorIndex := 6, attributes := #[] }, { accessFlags := 0, nameIndex := 195, descriptorIndex := 196, attributes := #[] }, { accessFlags := 0, nameIndex := 110, descriptorIndex := 111, attributes := #[] }, { accessFlags := 0, nameIndex := 124, descriptorIndex := 111, attributes := #[] }, { accessFlags := 0, nameIndex := 206, descriptorIndex := 207, attributes := #[] }, { accessFlags := 2, nameIndex := 55, descriptorIndex := 56, attributes := #[] }, { accessFlags := 2, nameIndex := 114, descriptorIndex := 115, attributes := #[] }, { accessFlags := 2, nameIndex := 51, descriptorIndex := 52, attributes := #[] }] 48 2 #[] #[{ accessFlags := 18, nameIndex := 14, descriptorIndex := 15, attributes := #[] }, { accessFlags := 2, nameIndex := 27, descriptorIndex := 28, attributes := #[] }, { accessFlags := 2, nameIndex := 31, descriptorIndex := 32, attributes := #[] }, { accessFlags := 2, nameIndex := 24, descriptorIndex := 21, attributes := #[] }, { accessFlags := 2, nameIndex := 47, descriptorIndex := 48, attributes := #[] }])
  fields := #[{ name := "waiters", type := (.object "java/util/Deque"), accessFlags := 18, slot := 0, constantValue := 0 }, { name := "generation", type := .long, accessFlags := 2, slot := 1, constantValue := 0 }, { name := "holder", type := (.object "com/example/umpired/umpired/server/SessionHandle"), accessFlags := 2, slot := 2, constantValue := 0 }, { name := "holderLockDelay", type := (.object "java/time/Duration"), accessFlags := 2, slot := 3, constantValue := 0 }, { name := "heldBack", type := .boolean, accessFlags := 2, slot := 4, constantValue := 0 }]
  methods := #[k2m0, k2m1, k2m2, k2m3, k2m4, k2m5, k2m6, k2m7]
  instanceTypes := #[(.object "java/util/Deque"), .long, (.object "com/example/umpired/umpired/server/SessionHandle"), (.object "java/time/Duration"), .boolean]
  staticTypes := #[]
  resolved := ((Array.replicate 256 none).setIfInBounds 95 (some (.field 22 0))).setIfInBounds 185 (some (.field 22 1))
  statics := none }

def pool3 : Array CpInfo := pool [(8, .class_ 10), (1, u "java/lang/Iterable"), (24, .class_ 36), (0, u "java/lang/Object")] 25

/-- java/lang/Iterable -/
def k3 : Class := { plain "java/lang/Iterable" (some 0) with
  accessFlags := 1537
  interfaces := #[]
  cf := some (fileOf pool3 8 #[] #[] 1537 35 #[] #[])
  fields := #[]
  methods := #[]
  instanceTypes := #[]
  staticTypes := #[]
  resolved := Array.replicate 62 none
  statics := none }

def pool4 : Array CpInfo := pool [(10, .class_ 12), (1, u "java/util/Collection"), (47, .class_ 61), (0, u "java/lang/Object"), (0, .class_ 63), (0, u "java/lang/Iterable")] 51

/-- java/util/Collection -/
def k4 : Class := { plain "java/util/Collection" (some 0) with
  accessFlags := 1537
  interfaces := #[3]
  cf := some (fileOf pool4 10 #[] #[] 1537 60 #[62] #[])
  fields := #[]
  methods := #[]
  instanceTypes := #[]
  staticTypes := #[]
  resolved := Array.replicate 115 none
  statics := none }

def pool5 : Array CpInfo := pool [(1, .methodref 2 3), (0, .class_ 4), (0, .nameAndType 5 6), (0, u "java/lang/Object"), (0, u "<init>"), (0, u "()V"), (1, .class_ 10), (1, u "java/util/AbstractCollection"), (66, .class_ 78), (0, u "java/util/Collection")] 81

def k5c0 : Code := { maxStack := 1, maxLocals := 1, code := jdk_22_method_1_code, exceptionTable := #[], attributes := #[] }
def k5m0 : Method := { name := "<init>", desc := "()V", sig := { parameters := [], returnType := none }, accessFlags := 4, code := some k5c0 }
/-- java/util/AbstractCollection -/
def k5 : Class := { plain "java/util/AbstractCollection" (some 0) with
  accessFlags := 1057
  interfaces := #[4]
  cf := some (fileOf pool5 8 #[] #[{ accessFlags := 4, nameIndex := 5, descriptorIndex := 6, attributes := #[] }] 1057 2 #[77] #[])
  fields := #[]
  methods := #[k5m0]
  instanceTypes := #[]
  staticTypes := #[]
  resolved := Array.replicate 160 none
  statics := none }

def pool6 : Array CpInfo := pool [(1, .class_ 2), (0, u "java/util/Queue"), (0, .class_ 4), (0, u "java/lang/Object"), (0, .class_ 6), (0, u "java/util/Collection")] 14

/-- java/util/Queue -/
def k6 : Class := { plain "java/util/Queue" (some 0) with
  accessFlags := 1537
  interfaces := #[4]
  cf := some (fileOf pool6 1 #[] #[] 1537 3 #[5] #[])
  fields := #[]
  methods := #[]
  instanceTypes := #[]
  staticTypes := #[]
  resolved := Array.replicate 21 none
  statics := none }

def pool7 : Array CpInfo := pool [(8, .class_ 10), (1, u "java/util/SequencedCollection"), (15, .class_ 27), (0, u "java/lang/Object"), (0, .class_ 29), (0, u "java/util/Collection")] 27

/-- java/util/SequencedCollection -/
def k7 : Class := { plain "java/util/SequencedCollection" (some 0) with
  accessFlags := 1537
  interfaces := #[4]
  cf := some (fileOf pool7 8 #[] #[] 1537 26 #[28] #[])
  fields := #[]
  methods := #[]
  instanceTypes := #[]
  staticTypes := #[]
  resolved := Array.replicate 57 none
  statics := none }

def pool8 : Array CpInfo := pool [(8, .class_ 10), (1, u "java/util/Deque"), (2, .class_ 14), (0, u "java/lang/Object"), (0, .class_ 16), (0, u "java/util/Queue"), (0, .class_ 18), (0, u "java/util/SequencedCollection"), (6, u "(Ljava/lang/Object;)Z"), (3, u "()Ljava/lang/Object;"), (10, u "add"), (2, u "poll"), (10, u "iterator"), (0, u "()Ljava/util/Iterator;")] 14

def k8m0 : Method := { name := "add", desc := "(Ljava/lang/Object;)Z", sig := { parameters := [(.object "java/lang/Object")], returnType := some .boolean }, accessFlags := 1025, code := none }
def k8m1 : Method := { name := "poll", desc := "()Ljava/lang/Object;", sig := { parameters := [], returnType := some (.object "java/lang/Object") }, accessFlags := 1025, code := none }
def k8m2 : Method := { name := "iterator", desc := "()Ljava/util/Iterator;", sig := { parameters := [], returnType := some (.object "java/util/Iterator") }, accessFlags := 1025, code := none }
/-- java/util/Deque -/
def k8 : Class := { plain "java/util/Deque" (some 0) with
  accessFlags := 1537
  interfaces := #[6, 7]
  cf := some (fileOf pool8 8 #[] #[{ accessFlags := 1025, nameIndex := 40, descriptorIndex := 25, attributes := #[] }, { accessFlags := 1025, nameIndex := 43, descriptorIndex := 29, attributes := #[] }, { accessFlags := 1025, nameIndex := 54, descriptorIndex := 55, attributes := #[] }] 1537 13 #[15, 17] #[])
  fields := #[]
  methods := #[k8m0, k8m1, k8m2]
  instanceTypes := #[]
  staticTypes := #[]
  resolved := Array.replicate 70 none
  statics := none }

def pool9 : Array CpInfo := pool [(1, .class_ 2), (0, u "java/lang/Cloneable"), (0, .class_ 4), (0, u "java/lang/Object")] 2

/-- java/lang/Cloneable -/
def k9 : Class := { plain "java/lang/Cloneable" (some 0) with
  accessFlags := 1537
  interfaces := #[]
  cf := some (fileOf pool9 1 #[] #[] 1537 3 #[] #[])
  fields := #[]
  methods := #[]
  instanceTypes := #[]
  staticTypes := #[]
  resolved := Array.replicate 7 none
  statics := none }

def pool10 : Array CpInfo := pool [(1, .class_ 2), (0, u "java/io/Serializable"), (0, .class_ 4), (0, u "java/lang/Object")] 2

/-- java/io/Serializable -/
def k10 : Class := { plain "java/io/Serializable" (some 0) with
  accessFlags := 1537
  interfaces := #[]
  cf := some (fileOf pool10 1 #[] #[] 1537 3 #[] #[])
  fields := #[]
  methods := #[]
  instanceTypes := #[]
  staticTypes := #[]
  resolved := Array.replicate 7 none
  statics := none }

def pool11 : Array CpInfo := pool [(3, .fieldref 4 5), (0, .class_ 6), (0, .nameAndType 7 8), (0, u "java/util/ArrayDeque"), (0, u "elements"), (0, u "[Ljava/lang/Object;"), (4, u "(II)I"), (6, .fieldref 4 21), (0, .nameAndType 22 23), (0, u "tail"), (0, u "I"), (0, .fieldref 4 25), (0, .nameAndType 26 23), (0, u "head"), (0, .methodref 28 29), (0, .class_ 30), (0, .nameAndType 31 32), (0, u "java/lang/System"), (0, u "arraycopy"), (0, u "(Ljava/lang/Object;ILjava/lang/Object;II)V"), (6, u "<init>"), (2, .methodref 43 44), (0, .class_ 45), (0, .nameAndType 39 46), (0, u "java/util/AbstractCollection"), (0, u "()V"), (0, .class_ 48), (0, u "java/lang/Object"), (4, u "size"), (0, u "()I"), (13, .methodref 4 69), (0, .nameAndType 70 13), (0, u "dec"), (3, .methodref 4 75), (0, .nameAndType 76 13), (0, u "inc"), (12, u "(Ljava/lang/Object;)V"), (0, .methodref 4 91), (0, .nameAndType 92 89), (0, u "addLast"), (0, .methodref 4 94), (0, .nameAndType 95 96), (0, u "pollFirst"), (0, u "()Ljava/lang/Object;"), (6, .methodref 4 104), (0, .nameAndType 105 106), (0, u "elementAt"), (0, u "([Ljava/lang/Object;I)Ljava/lang/Object;"), (3, u "(Ljava/lang/Object;)Z"), (2, u "delete"), (0, u "(I)Z"), (12, .methodref 4 128), (0, .nameAndType 129 130), (0, u "sub"), (0, u "(III)I"), (0, .class_ 132), (0, u "java/util/ArrayDeque$DeqIterator"), (0, .methodref 131 134), (0, .nameAndType 39 135), (0, u "(Ljava/util/ArrayDeque;)V"), (0, .class_ 137), (0, u "java/util/ArrayDeque$DescendingIterator"), (1, .class_ 140), (0, u "java/util/ArrayDeque$DeqSpliterator"), (137, .class_ 279), (0, u "java/util/Deque"), (0, .class_ 281), (0, u "java/lang/Cloneable"), (0, .class_ 283), (0, u "java/io/Serializable"), (0, u "MAX_ARRAY_SIZE"), (1, u "serialVersionUID"), (0, u "J"), (28, u "nonNullElementAt"), (19, u "add"), (2, u "poll"), (9, u "iterator"), (0, u "()Ljava/util/Iterator;")] 87

def k11c0 : Code := { maxStack := 2, maxLocals := 1, code := jdk_21_method_3_code, exceptionTable := #[], attributes := #[] }
def k11m0 : Method := { name := "<init>", desc := "()V", sig := { parameters := [], returnType := none }, accessFlags := 1, code := some k11c0 }
def k11c1 : Code := { maxStack := 2, maxLocals := 2, code := jdk_21_method_6_code, exceptionTable := #[], attributes := #[] }
def k11m1 : Method := { name := "inc", desc := "(II)I", sig := { parameters := [.int, .int], returnType := some .int }, accessFlags := 24, code := some k11c1 }
def k11c2 : Code := { maxStack := 2, maxLocals := 2, code := jdk_21_method_7_code, exceptionTable := #[], attributes := #[] }
def k11m2 : Method := { name := "dec", desc := "(II)I", sig := { parameters := [.int, .int], returnType := some .int }, accessFlags := 24, code := some k11c2 }
def k11c3 : Code := { maxStack := 2, maxLocals := 3, code := jdk_21_method_9_code, exceptionTable := #[], attributes := #[] }
def k11m3 : Method := { name := "sub", desc := "(III)I", sig := { parameters := [.int, .int, .int], returnType := some .int }, accessFlags := 24, code := some k11c3 }
def k11c4 : Code := { maxStack := 2, maxLocals := 2, code := jdk_21_method_10_code, exceptionTable := #[], attributes := #[] }
def k11m4 : Method := { name := "elementAt", desc := "([Ljava/lang/Object;I)Ljava/lang/Object;", sig := { parameters := [(.array (.object "java/lang/Object")), .int], returnType := some (.object "java/lang/Object") }, accessFlags := 24, code := some k11c4 }
def k11c5 : Code := { maxStack := 2, maxLocals := 3, code := jdk_21_method_11_code, exceptionTable := #[], attributes := #[] }
def k11m5 : Method := { name := "nonNullElementAt", desc := "([Ljava/lang/Object;I)Ljava/lang/Object;", sig := { parameters := [(.array (.object "java/lang/Object")), .int], returnType := some (.object "java/lang/Object") }, accessFlags := 24, code := some k11c5 }
def k11c6 : Code := { maxStack := 4, maxLocals := 3, code := jdk_21_method_13_code, exceptionTable := #[], attributes := #[] }
def k11m6 : Method := { name := "addLast", desc := "(Ljava/lang/Object;)V", sig := { parameters := [(.object "java/lang/Object")], returnType := none }, accessFlags := 1, code := some k11c6 }
def k11c7 : Code := { maxStack := 3, maxLocals := 4, code := jdk_21_method_20_code, exceptionTable := #[], attributes := #[] }
def k11m7 : Method := { name := "pollFirst", desc := "()Ljava/lang/Object;", sig := { parameters := [], returnType := some (.object "java/lang/Object") }, accessFlags := 1, code := some k11c7 }
def k11c8 : Code := { maxStack := 2, maxLocals := 2, code := jdk_21_method_28_code, exceptionTable := #[], attributes := #[] }
def k11m8 : Method := { name := "add", desc := "(Ljava/lang/Object;)Z", sig := { parameters := [(.object "java/lang/Object")], returnType := some .boolean }, accessFlags := 1, code := some k11c8 }
def k11c9 : Code := { maxStack := 1, maxLocals := 1, code := jdk_21_method_31_code, exceptionTable := #[], attributes := #[] }
def k11m9 : Method := { name := "poll", desc := "()Ljava/lang/Object;", sig := { parameters := [], returnType := some (.object "java/lang/Object") }, accessFlags := 1, code := some k11c9 }
def k11c10 : Code := { maxStack := 7, maxLocals := 8, code := jdk_21_method_36_code, exceptionTable := #[], attributes := #[] }
def k11m10 : Method := { name := "delete", desc := "(I)Z", sig := { parameters := [.int], returnType := some .boolean }, accessFlags := 0, code := some k11c10 }
def k11c11 : Code := { maxStack := 3, maxLocals := 1, code := jdk_21_method_37_code, exceptionTable := #[], attributes := #[] }
def k11m11 : Method := { name := "size", desc := "()I", sig := { parameters := [], returnType := some .int }, accessFlags := 1, code := some k11c11 }
def k11c12 : Code := { maxStack := 3, maxLocals := 1, code := jdk_21_method_39_code, exceptionTable := #[], attributes := #[] }
def k11m12 : Method := { name := "iterator", desc := "()Ljava/util/Iterator;", sig := { parameters := [], returnType := some (.object "java/util/Iterator") }, accessFlags := 1, code := some k11c12 }
/-- java/util/ArrayDeque -/
def k11 : Class := { plain "java/util/ArrayDeque" (some 5) with
  accessFlags := 33
  interfaces := #[8, 9, 10]
  cf := some (fileOf pool11 4 #[.nestMembers #[139, 136, 131]] #[{ accessFlags := 1, nameIndex := 39, descriptorIndex := 46, attributes := #[] }, { accessFlags := 24, nameIndex := 76, descriptorIndex := 13, attributes := #[] }, { accessFlags := 24, nameIndex := 70, descriptorIndex := 13, attributes := #[] }, { accessFlags := 24, nameIndex := 129, descriptorIndex := 130, attributes := #[] }, { accessFlags := 24, nameIndex := 105, descriptorIndex := 106, attributes := #[] }, { accessFlags := 24, nameIndex := 316, descriptorIndex := 106, attributes := #[] }, { accessFlags := 1, nameIndex := 92, descriptorIndex := 89, attributes := #[] }, { accessFlags := 1, nameIndex := 95, descriptorIndex := 96, attributes := #[] }, { accessFlags := 1, nameIndex := 336, descriptorIndex := 110, attributes := #[] }, { accessFlags := 1, nameIndex := 339, descriptorIndex := 96, attributes := #[] }, { accessFlags := 0, nameIndex := 113, descriptorIndex := 114, attributes := #[] }, { accessFlags := 1, nameIndex := 53, descriptorIndex := 54, attributes := #[] }, { accessFlags := 1, nameIndex := 349, descriptorIndex := 350, attributes := #[] }] 33 43 #[278, 280, 282] #[{ accessFlags := 128, nameIndex := 7, descriptorIndex := 8, attributes := #[] }, { accessFlags := 128, nameIndex := 26, descriptorIndex := 23, attributes := #[] }, { accessFlags := 128, nameIndex := 22, descriptorIndex := 23, attributes := #[] }, { accessFlags := 26, nameIndex := 284, descriptorIndex := 23, attributes := #[] }, { accessFlags := 26, nameIndex := 286, descriptorIndex := 287, attributes := #[] }])
  fields := #[{ name := "elements", type := (.array (.object "java/lang/Object")), accessFlags := 128, slot := 0, constantValue := 0 }, { name := "head", type := .int, accessFlags := 128, slot := 1, constantValue := 0 }, { name := "tail", type := .int, accessFlags := 128, slot := 2, constantValue := 0 }, { name := "MAX_ARRAY_SIZE", type := .int, accessFlags := 26, slot := 0, constantValue := 0 }, { name := "serialVersionUID", type := .long, accessFlags := 26, slot := 1, constantValue := 0 }]
  methods := #[k11m0, k11m1, k11m2, k11m3, k11m4, k11m5, k11m6, k11m7, k11m8, k11m9, k11m10, k11m11, k11m12]
  instanceTypes := #[(.array (.object "java/lang/Object")), .int, .int]
  staticTypes := #[.int, .long]
  resolved := Array.replicate 438 none
  statics := none }

def pool12 : Array CpInfo := pool [(1, .class_ 2), (0, u "java/time/temporal/TemporalAmount"), (0, .class_ 4), (0, u "java/lang/Object")] 11

/-- java/time/temporal/TemporalAmount -/
def k12 : Class := { plain "java/time/temporal/TemporalAmount" (some 0) with
  accessFlags := 1537
  interfaces := #[]
  cf := some (fileOf pool12 1 #[] #[] 1537 3 #[] #[])
  fields := #[]
  methods := #[]
  instanceTypes := #[]
  staticTypes := #[]
  resolved := Array.replicate 16 none
  statics := none }

def pool13 : Array CpInfo := pool [(1, .class_ 2), (0, u "java/lang/Comparable"), (0, .class_ 4), (0, u "java/lang/Object")] 7

/-- java/lang/Comparable -/
def k13 : Class := { plain "java/lang/Comparable" (some 0) with
  accessFlags := 1537
  interfaces := #[]
  cf := some (fileOf pool13 1 #[] #[] 1537 3 #[] #[])
  fields := #[]
  methods := #[]
  instanceTypes := #[]
  staticTypes := #[]
  resolved := Array.replicate 12 none
  statics := none }

def pool14 : Array CpInfo := pool [(11, .class_ 13), (1, u "java/time/Duration"), (20, u "ZERO"), (0, u "Ljava/time/Duration;"), (13, .class_ 51), (1, u "java/time/temporal/TemporalAmount"), (13, u "()Z"), (13, .class_ 81), (1, u "java/time/Duration$Lazy"), (35, u "seconds"), (101, .class_ 220), (0, u "java/lang/Object"), (0, .fieldref 11 222), (0, .nameAndType 117 223), (0, u "J"), (0, .fieldref 11 225), (0, .nameAndType 226 227), (0, u "nanos"), (0, u "I"), (11, .class_ 241), (1, u "java/time/Duration$DurationUnits"), (27, .class_ 271), (1, u "java/time/Duration$1"), (91, u "BI_NANOS_PER_SECOND"), (0, u "Ljava/math/BigInteger;"), (120, .class_ 486), (0, u "java/lang/Comparable"), (0, .class_ 488), (0, u "java/io/Serializable"), (0, u "serialVersionUID"), (66, u "isZero")] 99

def k14c0 : Code := { maxStack := 4, maxLocals := 1, code := jdk_2316_method_21_code, exceptionTable := #[], attributes := #[] }
def k14m0 : Method := { name := "isZero", desc := "()Z", sig := { parameters := [], returnType := some .boolean }, accessFlags := 1, code := some k14c0 }
/-- java/time/Duration -/
def k14 : Class := { plain "java/time/Duration" (some 0) with
  accessFlags := 49
  interfaces := #[12, 13, 10]
  cf := some (fileOf pool14 11 #[.nestMembers #[269, 239, 79]] #[{ accessFlags := 1, nameIndex := 556, descriptorIndex := 65, attributes := #[] }] 49 219 #[49, 485, 487] #[{ accessFlags := 25, nameIndex := 34, descriptorIndex := 35, attributes := #[] }, { accessFlags := 26, nameIndex := 489, descriptorIndex := 223, attributes := #[] }, { accessFlags := 26, nameIndex := 363, descriptorIndex := 364, attributes := #[] }, { accessFlags := 18, nameIndex := 117, descriptorIndex := 223, attributes := #[] }, { accessFlags := 18, nameIndex := 226, descriptorIndex := 227, attributes := #[] }])
  fields := #[{ name := "ZERO", type := (.object "java/time/Duration"), accessFlags := 25, slot := 0, constantValue := 0 }, { name := "serialVersionUID", type := .long, accessFlags := 26, slot := 1, constantValue := 0 }, { name := "BI_NANOS_PER_SECOND", type := (.object "java/math/BigInteger"), accessFlags := 26, slot := 2, constantValue := 0 }, { name := "seconds", type := .long, accessFlags := 18, slot := 0, constantValue := 0 }, { name := "nanos", type := .int, accessFlags := 18, slot := 1, constantValue := 0 }]
  methods := #[k14m0]
  instanceTypes := #[.long, .int]
  staticTypes := #[(.object "java/time/Duration"), .long, (.object "java/math/BigInteger")]
  resolved := Array.replicate 656 none
  statics := some 0 }

def pool15 : Array CpInfo := pool [(1, .methodref 2 3), (0, .class_ 4), (0, .nameAndType 5 6), (0, u "java/lang/Object"), (0, u "<init>"), (0, u "()V"), (0, .fieldref 8 9), (0, .class_ 10), (0, .nameAndType 11 12), (0, u "com/example/umpired/umpired/server/SessionHandle"), (0, u "session"), (0, u "J"), (0, .fieldref 8 14), (0, .nameAndType 15 12), (0, u "handle"), (11, u "()J"), (2, u "(JJ)V"), (19, u "equals"), (0, u "(Ljava/lang/Object;)Z")] 21

def k15c0 : Code := { maxStack := 3, maxLocals := 5, code := prog_89_method_1_code, exceptionTable := #[], attributes := #[] }
def k15m0 : Method := { name := "<init>", desc := "(JJ)V", sig := { parameters := [.long, .long], returnType := none }, accessFlags := 0, code := some k15c0 }
def k15c1 : Code := { maxStack := 2, maxLocals := 1, code := prog_89_method_2_code, exceptionTable := #[], attributes := #[] }
def k15m1 : Method := { name := "session", desc := "()J", sig := { parameters := [], returnType := some .long }, accessFlags := 0, code := some k15c1 }
def k15c2 : Code := { maxStack := 4, maxLocals := 3, code := prog_89_method_6_code, exceptionTable := #[], attributes := #[] }
def k15m2 : Method := { name := "equals", desc := "(Ljava/lang/Object;)Z", sig := { parameters := [(.object "java/lang/Object")], returnType := some .boolean }, accessFlags := 1, code := some k15c2 }
/-- com/example/umpired/umpired/server/SessionHandle -/
def k15 : Class := { plain "com/example/umpired/umpired/server/SessionHandle" (some 0) with
  accessFlags := 48
  interfaces := #[]
  cf := some (fileOf pool15 8 #[] #[{ accessFlags := 0, nameIndex := 5, descriptorIndex := 30, attributes := #[] }, { accessFlags := 0, nameIndex := 11, descriptorIndex := 27, attributes := #[] }, { accessFlags := 1, nameIndex := 50, descriptorIndex := 51, attributes := #[] }] 48 2 #[] #[{ accessFlags := 18, nameIndex := 11, descriptorIndex := 12, attributes := #[] }, { accessFlags := 18, nameIndex := 15, descriptorIndex := 12, attributes := #[] }])
  fields := #[{ name := "session", type := .long, accessFlags := 18, slot := 0, constantValue := 0 }, { name := "handle", type := .long, accessFlags := 18, slot := 1, constantValue := 0 }]
  methods := #[k15m0, k15m1, k15m2]
  instanceTypes := #[.long, .long]
  staticTypes := #[]
  resolved := Array.replicate 73 none
  statics := none }

def pool16 : Array CpInfo := pool [(4, u "remove"), (11, .class_ 18), (1, u "java/util/Iterator"), (0, u "hasNext"), (0, u "()Z"), (2, u "next"), (0, u "()Ljava/lang/Object;"), (6, .class_ 32), (0, u "java/lang/Object"), (2, u "()V")] 17

def k16m0 : Method := { name := "hasNext", desc := "()Z", sig := { parameters := [], returnType := some .boolean }, accessFlags := 1025, code := none }
def k16m1 : Method := { name := "next", desc := "()Ljava/lang/Object;", sig := { parameters := [], returnType := some (.object "java/lang/Object") }, accessFlags := 1025, code := none }
def k16c2 : Code := { maxStack := 3, maxLocals := 1, code := ⟨#[0xbb, 0x00, 0x01, 0x59, 0x12, 0x03, 0xb7, 0x00, 0x05, 0xbf]⟩, exceptionTable := #[], attributes := #[] }
def k16m2 : Method := { name := "remove", desc := "()V", sig := { parameters := [], returnType := none }, accessFlags := 1, code := some k16c2 }
/-- java/util/Iterator -/
def k16 : Class := { plain "java/util/Iterator" (some 0) with
  accessFlags := 1537
  interfaces := #[]
  cf := some (fileOf pool16 16 #[] #[{ accessFlags := 1025, nameIndex := 19, descriptorIndex := 20, attributes := #[] }, { accessFlags := 1025, nameIndex := 23, descriptorIndex := 24, attributes := #[] }, { accessFlags := 1, nameIndex := 4, descriptorIndex := 35, attributes := #[] }] 1537 31 #[] #[])
  fields := #[]
  methods := #[k16m0, k16m1, k16m2]
  instanceTypes := #[]
  staticTypes := #[]
  resolved := Array.replicate 53 none
  statics := none }

def pool17 : Array CpInfo := pool [(1, .fieldref 2 3), (0, .class_ 4), (0, .nameAndType 5 6), (0, u "java/util/ArrayDeque$DeqIterator"), (0, u "this$0"), (0, u "Ljava/util/ArrayDeque;"), (0, .methodref 8 9), (0, .class_ 10), (0, .nameAndType 11 12), (0, u "java/lang/Object"), (0, u "<init>"), (0, u "()V"), (0, .methodref 14 15), (0, .class_ 16), (0, .nameAndType 17 18), (0, u "java/util/ArrayDeque"), (0, u "size"), (0, u "()I"), (0, .fieldref 2 20), (0, .nameAndType 21 22), (0, u "remaining"), (0, u "I"), (0, .fieldref 2 24), (0, .nameAndType 25 22), (0, u "lastRet"), (0, .fieldref 14 27), (0, .nameAndType 28 22), (0, u "head"), (0, .fieldref 2 30), (0, .nameAndType 31 22), (0, u "cursor"), (3, .fieldref 14 36), (0, .nameAndType 37 38), (0, u "elements"), (0, u "[Ljava/lang/Object;"), (0, .methodref 14 40), (0, .nameAndType 41 42), (0, u "nonNullElementAt"), (0, u "([Ljava/lang/Object;I)Ljava/lang/Object;"), (0, .methodref 14 44), (0, .nameAndType 45 46), (0, u "inc"), (0, u "(II)I"), (0, .methodref 14 48), (0, .nameAndType 49 46), (0, u "dec"), (3, .methodref 14 54), (0, .nameAndType 55 56), (0, u "delete"), (0, u "(I)Z"), (0, .methodref 2 58), (0, .nameAndType 59 60), (0, u "postDelete"), (0, u "(Z)V"), (25, .class_ 87), (0, u "java/util/Iterator"), (0, u "(Ljava/util/ArrayDeque;)V"), (8, u "hasNext"), (0, u "()Z"), (1, u "next"), (0, u "()Ljava/lang/Object;"), (8, u "remove")] 17

def k17c0 : Code := { maxStack := 2, maxLocals := 2, code := jdk_54_method_1_code, exceptionTable := #[], attributes := #[] }
def k17m0 : Method := { name := "<init>", desc := "(Ljava/util/ArrayDeque;)V", sig := { parameters := [(.object "java/util/ArrayDeque")], returnType := none }, accessFlags := 0, code := some k17c0 }
def k17c1 : Code := { maxStack := 1, maxLocals := 1, code := jdk_54_method_2_code, exceptionTable := #[], attributes := #[] }
def k17m1 : Method := { name := "hasNext", desc := "()Z", sig := { parameters := [], returnType := some .boolean }, accessFlags := 17, code := some k17c1 }
def k17c2 : Code := { maxStack := 4, maxLocals := 3, code := jdk_54_method_3_code, exceptionTable := #[], attributes := #[] }
def k17m2 : Method := { name := "next", desc := "()Ljava/lang/Object;", sig := { parameters := [], returnType := some (.object "java/lang/Object") }, accessFlags := 1, code := some k17c2 }
def k17c3 : Code := { maxStack := 3, maxLocals := 2, code := jdk_54_method_4_code, exceptionTable := #[], attributes := #[] }
def k17m3 : Method := { name := "postDelete", desc := "(Z)V", sig := { parameters := [.boolean], returnType := none }, accessFlags := 0, code := some k17c3 }
def k17c4 : Code := { maxStack := 3, maxLocals := 1, code := jdk_54_method_5_code, exceptionTable := #[], attributes := #[] }
def k17m4 : Method := { name := "remove", desc := "()V", sig := { parameters := [], returnType := none }, accessFlags := 17, code := some k17c4 }
/-- java/util/ArrayDeque$DeqIterator -/
def k17 : Class := { plain "java/util/ArrayDeque$DeqIterator" (some 0) with
  accessFlags := 32
  interfaces := #[16]
  cf := some (fileOf pool17 2 #[.nestHost 14] #[{ accessFlags := 0, nameIndex := 11, descriptorIndex := 88, attributes := #[] }, { accessFlags := 17, nameIndex := 97, descriptorIndex := 98, attributes := #[] }, { accessFlags := 1, nameIndex := 100, descriptorIndex := 101, attributes := #[] }, { accessFlags := 0, nameIndex := 59, descriptorIndex := 60, attributes := #[] }, { accessFlags := 17, nameIndex := 110, descriptorIndex := 12, attributes := #[] }] 32 8 #[86] #[{ accessFlags := 0, nameIndex := 31, descriptorIndex := 22, attributes := #[] }, { accessFlags := 0, nameIndex := 21, descriptorIndex := 22, attributes := #[] }, { accessFlags := 0, nameIndex := 25, descriptorIndex := 22, attributes := #[] }, { accessFlags := 4112, nameIndex := 5, descriptorIndex := 6, attributes := #[] }])
  fields := #[{ name := "cursor", type := .int, accessFlags := 0, slot := 0, constantValue := 0 }, { name := "remaining", type := .int, accessFlags := 0, slot := 1, constantValue := 0 }, { name := "lastRet", type := .int, accessFlags := 0, slot := 2, constantValue := 0 }, { name := "this$0", type := (.object "java/util/ArrayDeque"), accessFlags := 4112, slot := 3, constantValue := 0 }]
  methods := #[k17m0, k17m1, k17m2, k17m3, k17m4]
  instanceTypes := #[.int, .int, .int, (.object "java/util/ArrayDeque")]
  staticTypes := #[]
  resolved := Array.replicate 128 none
  statics := none }

def pool18 : Array CpInfo := pool [(2, .class_ 4), (1, u "java/lang/Object"), (0, u "<init>"), (0, u "()V"), (9, .class_ 18), (1, u "com/example/umpired/umpired/protocol/Limits"), (0, u "RESEND_WINDOW"), (0, u "Ljava/time/Duration;"), (2, u "MAX_LOCK_DELAY"), (0, u "MAX_CONTENTS_LENGTH"), (0, u "I"), (2, u "MAX_PATH_LENGTH"), (1, u "MAX_NAME_LENGTH"), (1, u "MAX_LISTING_LENGTH"), (0, u "MAX_EVENTS_PER_REPLY"), (1, u "MAX_INVALIDATIONS_PER_REPLY"), (1, u "MAX_CACHED_NAMES")] 5

def k18m0 : Method := { name := "<init>", desc := "()V", sig := { parameters := [], returnType := none }, accessFlags := 2, code := none }
/-- com/example/umpired/umpired/protocol/Limits -/
def k18 : Class := { plain "com/example/umpired/umpired/protocol/Limits" (some 0) with
  accessFlags := 49
  interfaces := #[]
  cf := some (fileOf pool18 16 #[] #[{ accessFlags := 2, nameIndex := 5, descriptorIndex := 6, attributes := #[] }] 49 2 #[] #[{ accessFlags := 25, nameIndex := 19, descriptorIndex := 20, attributes := #[] }, { accessFlags := 25, nameIndex := 24, descriptorIndex := 25, attributes := #[] }, { accessFlags := 25, nameIndex := 28, descriptorIndex := 25, attributes := #[] }, { accessFlags := 25, nameIndex := 30, descriptorIndex := 25, attributes := #[] }, { accessFlags := 25, nameIndex := 32, descriptorIndex := 25, attributes := #[] }, { accessFlags := 25, nameIndex := 23, descriptorIndex := 20, attributes := #[] }, { accessFlags := 25, nameIndex := 33, descriptorIndex := 25, attributes := #[] }, { accessFlags := 25, nameIndex := 35, descriptorIndex := 25, attributes := #[] }, { accessFlags := 25, nameIndex := 37, descriptorIndex := 25, attributes := #[] }])
  fields := #[{ name := "RESEND_WINDOW", type := (.object "java/time/Duration"), accessFlags := 25, slot := 0, constantValue := 0 }, { name := "MAX_CONTENTS_LENGTH", type := .int, accessFlags := 25, slot := 1, constantValue := 0 }, { name := "MAX_PATH_LENGTH", type := .int, accessFlags := 25, slot := 2, constantValue := 0 }, { name := "MAX_NAME_LENGTH", type := .int, accessFlags := 25, slot := 3, constantValue := 0 }, { name := "MAX_LISTING_LENGTH", type := .int, accessFlags := 25, slot := 4, constantValue := 0 }, { name := "MAX_LOCK_DELAY", type := (.object "java/time/Duration"), accessFlags := 25, slot := 5, constantValue := 0 }, { name := "MAX_EVENTS_PER_REPLY", type := .int, accessFlags := 25, slot := 6, constantValue := 0 }, { name := "MAX_INVALIDATIONS_PER_REPLY", type := .int, accessFlags := 25, slot := 7, constantValue := 0 }, { name := "MAX_CACHED_NAMES", type := .int, accessFlags := 25, slot := 8, constantValue := 0 }]
  methods := #[k18m0]
  instanceTypes := #[]
  staticTypes := #[(.object "java/time/Duration"), .int, .int, .int, .int, (.object "java/time/Duration"), .int, .int, .int]
  resolved := Array.replicate 43 none
  statics := some 1 }

def pool19 : Array CpInfo := pool [(1, .class_ 2), (0, u "java/lang/constant/Constable"), (0, .class_ 4), (0, u "java/lang/Object")] 6

/-- java/lang/constant/Constable -/
def k19 : Class := { plain "java/lang/constant/Constable" (some 0) with
  accessFlags := 1537
  interfaces := #[]
  cf := some (fileOf pool19 1 #[] #[] 1537 3 #[] #[])
  fields := #[]
  methods := #[]
  instanceTypes := #[]
  staticTypes := #[]
  resolved := Array.replicate 11 none
  statics := none }

def pool20 : Array CpInfo := pool [(2, .class_ 4), (1, u "java/lang/Enum"), (0, u "name"), (0, u "Ljava/lang/String;"), (2, u "ordinal"), (0, u "I"), (1, .class_ 14), (1, u "java/lang/Object"), (4, u "hash"), (86, .class_ 108), (1, u "java/lang/Enum$EnumDesc"), (2, .class_ 112), (0, u "java/lang/constant/Constable"), (0, .class_ 114), (0, u "java/lang/Comparable"), (0, .class_ 116), (0, u "java/io/Serializable")] 87

/-- java/lang/Enum -/
def k20 : Class := { plain "java/lang/Enum" (some 0) with
  accessFlags := 1057
  interfaces := #[19, 13, 10]
  cf := some (fileOf pool20 2 #[.nestMembers #[106]] #[] 1057 12 #[111, 113, 115] #[{ accessFlags := 18, nameIndex := 5, descriptorIndex := 6, attributes := #[] }, { accessFlags := 18, nameIndex := 9, descriptorIndex := 10, attributes := #[] }, { accessFlags := 2, nameIndex := 19, descriptorIndex := 10, attributes := #[] }])
  fields := #[{ name := "name", type := (.object "java/lang/String"), accessFlags := 18, slot := 0, constantValue := 0 }, { name := "ordinal", type := .int, accessFlags := 18, slot := 1, constantValue := 0 }, { name := "hash", type := .int, accessFlags := 2, slot := 2, constantValue := 0 }]
  methods := #[]
  instanceTypes := #[(.object "java/lang/String"), .int, .int]
  staticTypes := #[]
  resolved := Array.replicate 204 none
  statics := none }

def pool21 : Array CpInfo := pool [(1, .class_ 2), (0, u "com/example/umpired/umpired/server/NodeLock$Outcome"), (2, u "GRANTED"), (0, u "Lcom/example/umpired/umpired/server/NodeLock$Outcome;"), (2, u "QUEUED"), (2, u "BUSY"), (2, u "$VALUES"), (0, u "[Lcom/example/umpired/umpired/server/NodeLock$Outcome;"), (6, .class_ 25), (1, u "java/lang/Enum"), (26, .class_ 53), (0, u "com/example/umpired/umpired/server/NodeLock")] 2

/-- com/example/umpired/umpired/server/NodeLock$Outcome -/
def k21 : Class := { plain "com/example/umpired/umpired/server/NodeLock$Outcome" (some 20) with
  accessFlags := 16432
  interfaces := #[]
  cf := some (fileOf pool21 1 #[.nestHost 52] #[] 16432 23 #[] #[{ accessFlags := 16409, nameIndex := 5, descriptorIndex := 6, attributes := #[] }, { accessFlags := 16409, nameIndex := 9, descriptorIndex := 6, attributes := #[] }, { accessFlags := 16409, nameIndex := 12, descriptorIndex := 6, attributes := #[] }, { accessFlags := 4122, nameIndex := 15, descriptorIndex := 16, attributes := #[] }])
  fields := #[{ name := "GRANTED", type := (.object "com/example/umpired/umpired/server/NodeLock$Outcome"), accessFlags := 16409, slot := 0, constantValue := 0 }, { name := "QUEUED", type := (.object "com/example/umpired/umpired/server/NodeLock$Outcome"), accessFlags := 16409, slot := 1, constantValue := 0 }, { name := "BUSY", type := (.object "com/example/umpired/umpired/server/NodeLock$Outcome"), accessFlags := 16409, slot := 2, constantValue := 0 }, { name := "$VALUES", type := (.array (.object "com/example/umpired/umpired/server/NodeLock$Outcome")), accessFlags := 4122, slot := 3, constantValue := 0 }]
  methods := #[]
  instanceTypes := #[(.object "java/lang/String"), .int, .int]
  staticTypes := #[(.object "com/example/umpired/umpired/server/NodeLock$Outcome"), (.object "com/example/umpired/umpired/server/NodeLock$Outcome"), (.object "com/example/umpired/umpired/server/NodeLock$Outcome"), (.array (.object "com/example/umpired/umpired/server/NodeLock$Outcome"))]
  resolved := Array.replicate 56 none
  statics := some 2 }

def pool22 : Array CpInfo := pool [(1, .methodref 2 3), (0, .class_ 4), (0, .nameAndType 5 6), (0, u "java/lang/Object"), (0, u "<init>"), (0, u "()V"), (0, .fieldref 8 9), (0, .class_ 10), (0, .nameAndType 11 12), (0, u "com/example/umpired/umpired/server/NodeLock$Waiter"), (0, u "owner"), (0, u "Lcom/example/umpired/umpired/server/SessionHandle;"), (0, .fieldref 8 14), (0, .nameAndType 15 16), (0, u "lockDelay"), (0, u "Ljava/time/Duration;"), (0, u "(Lcom/example/umpired/umpired/server/SessionHandle;Ljava/time/Duration;)V"), (5, .class_ 24), (0, u "com/example/umpired/umpired/server/NodeLock")] 2

def k22c0 : Code := { maxStack := 2, maxLocals := 3, code := prog_86_method_1_code, exceptionTable := #[], attributes := #[] }
def k22m0 : Method := { name := "<init>", desc := "(Lcom/example/umpired/umpired/server/SessionHandle;Ljava/time/Duration;)V", sig := { parameters := [(.object "com/example/umpired/umpired/server/SessionHandle"), (.object "java/time/Duration")], returnType := none }, accessFlags := 0, code := some k22c0 }
/-- com/example/umpired/umpired/server/NodeLock$Waiter -/
def k22 : Class := { plain "com/example/umpired/umpired/server/NodeLock$Waiter" (some 0) with
  accessFlags := 48
  interfaces := #[]
  cf := some (fileOf pool22 8 #[.nestHost 23] #[{ accessFlags := 0, nameIndex := 5, descriptorIndex := 17, attributes := #[] }] 48 2 #[] #[{ accessFlags := 18, nameIndex := 11, descriptorIndex := 12, attributes := #[] }, { accessFlags := 18, nameIndex := 15, descriptorIndex := 16, attributes := #[] }])
  fields := #[{ name := "owner", type := (.object "com/example/umpired/umpired/server/SessionHandle"), accessFlags := 18, slot := 0, constantValue := 0 }, { name := "lockDelay", type := (.object "java/time/Duration"), accessFlags := 18, slot := 1, constantValue := 0 }]
  methods := #[k22m0]
  instanceTypes := #[(.object "com/example/umpired/umpired/server/SessionHandle"), (.object "java/time/Duration")]
  staticTypes := #[]
  resolved := Array.replicate 27 none
  statics := none }

def pool23 : Array CpInfo := pool [(2, .class_ 4), (1, u "java/lang/Object"), (0, u "<init>"), (0, u "()V"), (1, .class_ 10), (1, u "java/lang/System"), (0, u "allowSecurityManager"), (0, u "I"), (16, u "cons"), (0, u "Ljava/io/Console;"), (77, .class_ 110), (1, u "java/lang/System$CallersHolder"), (43, u "initialErrStream"), (0, u "Ljava/io/PrintStream;"), (19, u "security"), (0, u "Ljava/lang/SecurityManager;"), (31, .class_ 209), (0, u "java/lang/System$1"), (7, u "props"), (0, u "Ljava/util/Properties;"), (2, u "lineSeparator"), (0, u "Ljava/lang/String;"), (96, .class_ 321), (1, u "java/lang/System$LoggerFinder"), (5, .class_ 328), (0, u "java/lang/System$Logger"), (67, u "err"), (2, u "out"), (91, u "notSupportedJnuEncoding"), (15, u "in"), (17, u "initialIn"), (0, u "Ljava/io/InputStream;"), (35, u "bootLayer"), (0, u "Ljava/lang/ModuleLayer;"), (99, .class_ 664), (0, u "java/lang/System$2"), (9, u "NEVER"), (2, u "MAYBE"), (49, u "arraycopy"), (0, u "(Ljava/lang/Object;ILjava/lang/Object;II)V"), (72, .class_ 802), (0, u "java/lang/System$Logger$Level")] 31

def k23m0 : Method := { name := "<init>", desc := "()V", sig := { parameters := [], returnType := none }, accessFlags := 2, code := none }
def k23m1 : Method := { name := "arraycopy", desc := "(Ljava/lang/Object;ILjava/lang/Object;II)V", sig := { parameters := [(.object "java/lang/Object"), .int, (.object "java/lang/Object"), .int, .int], returnType := none }, accessFlags := 265, code := none }
/-- java/lang/System -/
def k23 : Class := { plain "java/lang/System" (some 0) with
  accessFlags := 49
  interfaces := #[]
  cf := some (fileOf pool23 8 #[.nestMembers #[319, 327, 801, 108, 663, 208]] #[{ accessFlags := 2, nameIndex := 5, descriptorIndex := 6, attributes := #[] }, { accessFlags := 265, nameIndex := 727, descriptorIndex := 728, attributes := #[] }] 49 2 #[] #[{ accessFlags := 25, nameIndex := 507, descriptorIndex := 526, attributes := #[] }, { accessFlags := 25, nameIndex := 399, descriptorIndex := 155, attributes := #[] }, { accessFlags := 25, nameIndex := 396, descriptorIndex := 155, attributes := #[] }, { accessFlags := 10, nameIndex := 525, descriptorIndex := 526, attributes := #[] }, { accessFlags := 26, nameIndex := 674, descriptorIndex := 12, attributes := #[] }, { accessFlags := 26, nameIndex := 677, descriptorIndex := 12, attributes := #[] }, { accessFlags := 10, nameIndex := 11, descriptorIndex := 12, attributes := #[] }, { accessFlags := 74, nameIndex := 175, descriptorIndex := 176, attributes := #[] }, { accessFlags := 10, nameIndex := 491, descriptorIndex := 222, attributes := #[] }, { accessFlags := 74, nameIndex := 29, descriptorIndex := 30, attributes := #[] }, { accessFlags := 74, nameIndex := 154, descriptorIndex := 155, attributes := #[] }, { accessFlags := 10, nameIndex := 217, descriptorIndex := 218, attributes := #[] }, { accessFlags := 10, nameIndex := 221, descriptorIndex := 222, attributes := #[] }, { accessFlags := 8, nameIndex := 562, descriptorIndex := 563, attributes := #[] }])
  fields := #[{ name := "in", type := (.object "java/io/InputStream"), accessFlags := 25, slot := 0, constantValue := 0 }, { name := "out", type := (.object "java/io/PrintStream"), accessFlags := 25, slot := 1, constantValue := 0 }, { name := "err", type := (.object "java/io/PrintStream"), accessFlags := 25, slot := 2, constantValue := 0 }, { name := "initialIn", type := (.object "java/io/InputStream"), accessFlags := 10, slot := 3, constantValue := 0 }, { name := "NEVER", type := .int, accessFlags := 26, slot := 4, constantValue := 0 }, { name := "MAYBE", type := .int, accessFlags := 26, slot := 5, constantValue := 0 }, { name := "allowSecurityManager", type := .int, accessFlags := 10, slot := 6, constantValue := 0 }, { name := "security", type := (.object "java/lang/SecurityManager"), accessFlags := 74, slot := 7, constantValue := 0 }, { name := "notSupportedJnuEncoding", type := (.object "java/lang/String"), accessFlags := 10, slot := 8, constantValue := 0 }, { name := "cons", type := (.object "java/io/Console"), accessFlags := 74, slot := 9, constantValue := 0 }, { name := "initialErrStream", type := (.object "java/io/PrintStream"), accessFlags := 74, slot := 10, constantValue := 0 }, { name := "props", type := (.object "java/util/Properties"), accessFlags := 10, slot := 11, constantValue := 0 }, { name := "lineSeparator", type := (.object "java/lang/String"), accessFlags := 10, slot := 12, constantValue := 0 }, { name := "bootLayer", type := (.object "java/lang/ModuleLayer"), accessFlags := 8, slot := 13, constantValue := 0 }]
  methods := #[k23m0, k23m1]
  instanceTypes := #[]
  staticTypes := #[(.object "java/io/InputStream"), (.object "java/io/PrintStream"), (.object "java/io/PrintStream"), (.object "java/io/InputStream"), .int, .int, .int, (.object "java/lang/SecurityManager"), (.object "java/lang/String"), (.object "java/io/Console"), (.object "java/io/PrintStream"), (.object "java/util/Properties"), (.object "java/lang/String"), (.object "java/lang/ModuleLayer")]
  resolved := Array.replicate 834 none
  statics := none }

/-- the primitive byte -/
def k24 : Class := { plain "byte" none with kind := .primitive 'B', accessFlags := 0x411 }
/-- [B -/
def k25 : Class := { plain "[B" (some 0) with kind := .array 24 .byte, interfaces := #[9, 10], accessFlags := 1041 }

/-- the primitive int -/
def k26 : Class := { plain "int" none with kind := .primitive 'I', accessFlags := 0x411 }
/-- [I -/
def k27 : Class := { plain "[I" (some 0) with kind := .array 26 .int, interfaces := #[9, 10], accessFlags := 1041 }

/-- [Ljava/lang/Object; -/
def k28 : Class := { plain "[Ljava/lang/Object;" (some 0) with kind := .array 0 (.object "java/lang/Object"), interfaces := #[9, 10], accessFlags := 1041 }

def heap : Heap := #[{ cls := 14, slots := #[.ref 6, .long 0, .null], vm := .statics 14 },
  { cls := 18, slots := #[.null, .int 0, .int 0, .int 0, .int 0, .ref 3, .int 0, .int 0, .int 0], vm := .statics 18 },
  { cls := 21, slots := #[.ref 4, .ref 5, .null, .null], vm := .statics 21 },
  { cls := 14, slots := #[.long 60, .int 0], vm := .none },
  { cls := 21, slots := #[.null, .int 0, .int 0], vm := .none },
  { cls := 21, slots := #[.null, .int 1, .int 0], vm := .none },
  { cls := 14, slots := #[.long 0, .int 0], vm := .none }]
def classes : Array Class := #[k0, k1, k2, k3, k4, k5, k6, k7, k8, k9, k10, k11, k12, k13, k14, k15, k16, k17, k18, k19, k20, k21, k22, k23, k24, k25, k26, k27, k28]
def interned : List (Array UInt16 × Addr) := []
def slotsUsed : Nat := 26
def theMethod : MethodId := ⟨1, 1⟩
def args0 : Array Value := #[.int 7, .long 5, .long 6, .long 1]
def aboutOver (below : List Frame) : State where
  vm := { classes := classes, interned := interned.toArray }
  heap := heap
  slotsUsed := slotsUsed
  threads := #[{ frames := .invoking theMethod args0 :: below }]
def below0 : List Frame := [.native { method := ⟨0, 0⟩, args := #[] }]
def about1 : State := aboutOver below0
def p0 : Program := .bare "" "" ""
def e0 : Env := launch0.env 0 0 0
theorem w_frames : about1.frames = Frame.invoking theMethod args0 :: below0 := rfl
set_option maxRecDepth 65536 in
theorem w_args : argsFit about1.vm theMethod args0 = true := by decide +kernel
set_option maxRecDepth 65536 in
theorem w_heap : heapFits about1 = true := by decide +kernel
set_option maxRecDepth 65536 in
theorem w_runnable : about1.curStatus? = some .runnable := by decide +kernel
set_option maxRecDepth 65536 in
theorem w_alone : about1.alone = true := by decide +kernel
set_option maxRecDepth 65536 in
theorem w_named : about1.methodNamed? x = some theMethod := by decide +kernel
set_option maxRecDepth 65536 in
theorem w_hears : about1.hears theMethod below0 = true := by decide +kernel
set_option maxRecDepth 65536 in
theorem w_ripe : about1.ripe theMethod args0 below0 = true := by decide +kernel
theorem w_running : about1.status = .running := rfl
set_option maxRecDepth 65536 in
theorem w_room : about1.hasRoom e0.platform room_1 = true :=
  launch0.hasRoom_least _ room_1 (by decide +kernel) (by decide +kernel) (by decide +kernel) (by decide +kernel) (by decide +kernel) (by decide +kernel)
theorem allAtoms_all (ts : List Jvm.Cond) (a : Array Jvm.Value) (st : Jvm.State) : (allAtoms ts).before a st = ts.all (fun c => c.before a st) := by
  induction ts with
  | nil => rfl
  | cons c t ih =>
    show (Jvm.Cond.and c (allAtoms t)).before a st = _
    rw [Jvm.Cond.before_and, ih, List.all_cons]
def words1 : List Jvm.Cond := Jvm.Cond.code x code maxLocals ret :: tables_1
/-- a 'code' word, met by the world's own term for the bytes: nothing is compared byte by byte -/
theorem code_word {y : MethodName} {bytes : ByteArray} {mx : Nat} {rt : Option FieldType} {a : Array Value} {s : State} {m : MethodId} {meth : Method} {c : Code} (h1 : s.methodNamed? y = some m) (h2 : s.vm.method? m = some meth) (h3 : meth.code = some c) (h4 : c.code = bytes)
    (h5 : (c.maxLocals == mx && c.exceptionTable.isEmpty && decide (c.maxStack ≤ mostOperands) && decide (meth.sig.returnType = rt) && !meth.locks && decide (parseMethodDescriptor y.desc = some meth.sig)) = true) : (Jvm.Cond.code y bytes mx rt).before a s = true := by
  simp only [Bool.and_eq_true, beq_iff_eq, Bool.not_eq_true', decide_eq_true_eq] at h5
  obtain ⟨⟨⟨⟨⟨g1, g2⟩, g3⟩, g4⟩, g5⟩, g6⟩ := h5
  simp [Cond.before, Cond.holds, Cond.value, h1, h2, h3, h4, g1, g2, g3, g4, g5, g6]
def isCode : Jvm.Cond → Bool
  | .code _ _ _ _ => true
  | _ => false
theorem all_split {L : List Jvm.Cond} {P : Jvm.Cond → Bool} (h1 : L.all (fun c => isCode c || P c) = true) (h2 : ∀ c ∈ L.filter isCode, P c = true) : L.all P = true := by
  refine List.all_eq_true.mpr fun c hc => ?_
  have h := List.all_eq_true.mp h1 c hc
  rcases Bool.eq_false_or_eq_true (isCode c) with hi | hi
  · exact h2 c (List.mem_filter.mpr ⟨hc, hi⟩)
  · simpa [hi] using h
set_option maxRecDepth 65536 in
theorem w_c0 : (Jvm.Cond.code x code maxLocals ret).before args0 about1 = true := code_word (m := ⟨1, 1⟩) (meth := k1m1) (c := k1c1) (by decide +kernel) rfl rfl rfl (by decide +kernel)
set_option maxRecDepth 65536 in
theorem w_c1 : (Jvm.Cond.code ({ cls := "com/example/umpired/umpired/server/NodeLock", name := "<init>", desc := "()V" } : Jvm.MethodName) prog_84_method_1_code (1 : Nat) (Option.none : Option Jvm.ClassFile.FieldType)).before args0 about1 = true := code_word (m := ⟨2, 0⟩) (meth := k2m0) (c := k2c0) (by decide +kernel) rfl rfl rfl (by decide +kernel)
set_option maxRecDepth 65536 in
theorem w_c2 : (Jvm.Cond.code ({ cls := "java/lang/Object", name := "<init>", desc := "()V" } : Jvm.MethodName) object_method_1_code (1 : Nat) (Option.none : Option Jvm.ClassFile.FieldType)).before args0 about1 = true := code_word (m := ⟨0, 0⟩) (meth := k0m0) (c := k0c0) (by decide +kernel) rfl rfl rfl (by decide +kernel)
set_option maxRecDepth 65536 in
theorem w_c3 : (Jvm.Cond.code ({ cls := "java/util/ArrayDeque", name := "<init>", desc := "()V" } : Jvm.MethodName) jdk_21_method_3_code (1 : Nat) (Option.none : Option Jvm.ClassFile.FieldType)).before args0 about1 = true := code_word (m := ⟨11, 0⟩) (meth := k11m0) (c := k11c0) (by decide +kernel) rfl rfl rfl (by decide +kernel)
set_option maxRecDepth 65536 in
theorem w_c4 : (Jvm.Cond.code ({ cls := "java/util/AbstractCollection", name := "<init>", desc := "()V" } : Jvm.MethodName) jdk_22_method_1_code (1 : Nat) (Option.none : Option Jvm.ClassFile.FieldType)).before args0 about1 = true := code_word (m := ⟨5, 0⟩) (meth := k5m0) (c := k5c0) (by decide +kernel) rfl rfl rfl (by decide +kernel)
set_option maxRecDepth 65536 in
theorem w_c5 : (Jvm.Cond.code ({ cls := "com/example/umpired/umpired/server/SessionHandle", name := "<init>", desc := "(JJ)V" } : Jvm.MethodName) prog_89_method_1_code (5 : Nat) (Option.none : Option Jvm.ClassFile.FieldType)).before args0 about1 = true := code_word (m := ⟨15, 0⟩) (meth := k15m0) (c := k15c0) (by decide +kernel) rfl rfl rfl (by decide +kernel)
set_option maxRecDepth 65536 in
theorem w_c6 : (Jvm.Cond.code ({ cls := "com/example/umpired/umpired/server/NodeLock", name := "isHeldBackAfter", desc := "(J)Z" } : Jvm.MethodName) prog_84_method_10_code (3 : Nat) (Option.some Jvm.ClassFile.FieldType.boolean)).before args0 about1 = true := code_word (m := ⟨2, 3⟩) (meth := k2m3) (c := k2c3) (by decide +kernel) rfl rfl rfl (by decide +kernel)
set_option maxRecDepth 65536 in
theorem w_c7 : (Jvm.Cond.code ({ cls := "com/example/umpired/umpired/server/NodeLock", name := "endSession", desc := "(JZ)Lcom/example/umpired/umpired/server/SessionHandle;" } : Jvm.MethodName) prog_84_method_14_code (6 : Nat) (Option.some (Jvm.ClassFile.FieldType.object "com/example/umpired/umpired/server/SessionHandle"))).before args0 about1 = true := code_word (m := ⟨2, 4⟩) (meth := k2m4) (c := k2c4) (by decide +kernel) rfl rfl rfl (by decide +kernel)
set_option maxRecDepth 65536 in
theorem w_c8 : (Jvm.Cond.code ({ cls := "java/util/ArrayDeque", name := "iterator", desc := "()Ljava/util/Iterator;" } : Jvm.MethodName) jdk_21_method_39_code (1 : Nat) (Option.some (Jvm.ClassFile.FieldType.object "java/util/Iterator"))).before args0 about1 = true := code_word (m := ⟨11, 12⟩) (meth := k11m12) (c := k11c12) (by decide +kernel) rfl rfl rfl (by decide +kernel)
set_option maxRecDepth 65536 in
theorem w_c9 : (Jvm.Cond.code ({ cls := "java/util/ArrayDeque$DeqIterator", name := "<init>", desc := "(Ljava/util/ArrayDeque;)V" } : Jvm.MethodName) jdk_54_method_1_code (2 : Nat) (Option.none : Option Jvm.ClassFile.FieldType)).before args0 about1 = true := code_word (m := ⟨17, 0⟩) (meth := k17m0) (c := k17c0) (by decide +kernel) rfl rfl rfl (by decide +kernel)
set_option maxRecDepth 65536 in
theorem w_c10 : (Jvm.Cond.code ({ cls := "java/util/ArrayDeque", name := "size", desc := "()I" } : Jvm.MethodName) jdk_21_method_37_code (1 : Nat) (Option.some Jvm.ClassFile.FieldType.int)).before args0 about1 = true := code_word (m := ⟨11, 11⟩) (meth := k11m11) (c := k11c11) (by decide +kernel) rfl rfl rfl (by decide +kernel)
set_option maxRecDepth 65536 in
theorem w_c11 : (Jvm.Cond.code ({ cls := "java/util/ArrayDeque", name := "sub", desc := "(III)I" } : Jvm.MethodName) jdk_21_method_9_code (3 : Nat) (Option.some Jvm.ClassFile.FieldType.int)).before args0 about1 = true := code_word (m := ⟨11, 3⟩) (meth := k11m3) (c := k11c3) (by decide +kernel) rfl rfl rfl (by decide +kernel)
set_option maxRecDepth 65536 in
theorem w_c12 : (Jvm.Cond.code ({ cls := "java/util/ArrayDeque$DeqIterator", name := "hasNext", desc := "()Z" } : Jvm.MethodName) jdk_54_method_2_code (1 : Nat) (Option.some Jvm.ClassFile.FieldType.boolean)).before args0 about1 = true := code_word (m := ⟨17, 1⟩) (meth := k17m1) (c := k17c1) (by decide +kernel) rfl rfl rfl (by decide +kernel)
set_option maxRecDepth 65536 in
theorem w_c13 : (Jvm.Cond.code ({ cls := "com/example/umpired/umpired/server/NodeLock", name := "isHeldBySession", desc := "(J)Z" } : Jvm.MethodName) prog_84_method_7_code (3 : Nat) (Option.some Jvm.ClassFile.FieldType.boolean)).before args0 about1 = true := code_word (m := ⟨2, 2⟩) (meth := k2m2) (c := k2c2) (by decide +kernel) rfl rfl rfl (by decide +kernel)
set_option maxRecDepth 65536 in
theorem w_c14 : (Jvm.Cond.code ({ cls := "com/example/umpired/umpired/server/NodeLock", name := "acquire", desc := "(Lcom/example/umpired/umpired/server/SessionHandle;Ljava/time/Duration;Z)Lcom/example/umpired/umpired/server/NodeLock$Outcome;" } : Jvm.MethodName) prog_84_method_3_code (5 : Nat) (Option.some (Jvm.ClassFile.FieldType.object "com/example/umpired/umpired/server/NodeLock$Outcome"))).before args0 about1 = true := code_word (m := ⟨2, 1⟩) (meth := k2m1) (c := k2c1) (by decide +kernel) rfl rfl rfl (by decide +kernel)
set_option maxRecDepth 65536 in
theorem w_c15 : (Jvm.Cond.code ({ cls := "com/example/umpired/umpired/server/SessionHandle", name := "equals", desc := "(Ljava/lang/Object;)Z" } : Jvm.MethodName) prog_89_method_6_code (3 : Nat) (Option.some Jvm.ClassFile.FieldType.boolean)).before args0 about1 = true := code_word (m := ⟨15, 2⟩) (meth := k15m2) (c := k15c2) (by decide +kernel) rfl rfl rfl (by decide +kernel)
set_option maxRecDepth 65536 in
theorem w_c16 : (Jvm.Cond.code ({ cls := "com/example/umpired/umpired/server/NodeLock", name := "grant", desc := "(Lcom/example/umpired/umpired/server/SessionHandle;Ljava/time/Duration;)V" } : Jvm.MethodName) prog_84_method_23_code (3 : Nat) (Option.none : Option Jvm.ClassFile.FieldType)).before args0 about1 = true := code_word (m := ⟨2, 7⟩) (meth := k2m7) (c := k2c7) (by decide +kernel) rfl rfl rfl (by decide +kernel)
set_option maxRecDepth 65536 in
theorem w_c17 : (Jvm.Cond.code ({ cls := "com/example/umpired/umpired/server/NodeLock", name := "isWaiting", desc := "(Lcom/example/umpired/umpired/server/SessionHandle;)Z" } : Jvm.MethodName) prog_84_method_21_code (4 : Nat) (Option.some Jvm.ClassFile.FieldType.boolean)).before args0 about1 = true := code_word (m := ⟨2, 5⟩) (meth := k2m5) (c := k2c5) (by decide +kernel) rfl rfl rfl (by decide +kernel)
set_option maxRecDepth 65536 in
theorem w_c18 : (Jvm.Cond.code ({ cls := "com/example/umpired/umpired/server/NodeLock$Waiter", name := "<init>", desc := "(Lcom/example/umpired/umpired/server/SessionHandle;Ljava/time/Duration;)V" } : Jvm.MethodName) prog_86_method_1_code (3 : Nat) (Option.none : Option Jvm.ClassFile.FieldType)).before args0 about1 = true := code_word (m := ⟨22, 0⟩) (meth := k22m0) (c := k22c0) (by decide +kernel) rfl rfl rfl (by decide +kernel)
set_option maxRecDepth 65536 in
theorem w_c19 : (Jvm.Cond.code ({ cls := "java/util/ArrayDeque", name := "add", desc := "(Ljava/lang/Object;)Z" } : Jvm.MethodName) jdk_21_method_28_code (2 : Nat) (Option.some Jvm.ClassFile.FieldType.boolean)).before args0 about1 = true := code_word (m := ⟨11, 8⟩) (meth := k11m8) (c := k11c8) (by decide +kernel) rfl rfl rfl (by decide +kernel)
set_option maxRecDepth 65536 in
theorem w_c20 : (Jvm.Cond.code ({ cls := "java/util/ArrayDeque", name := "addLast", desc := "(Ljava/lang/Object;)V" } : Jvm.MethodName) jdk_21_method_13_code (3 : Nat) (Option.none : Option Jvm.ClassFile.FieldType)).before args0 about1 = true := code_word (m := ⟨11, 6⟩) (meth := k11m6) (c := k11c6) (by decide +kernel) rfl rfl rfl (by decide +kernel)
set_option maxRecDepth 65536 in
theorem w_c21 : (Jvm.Cond.code ({ cls := "java/util/ArrayDeque", name := "inc", desc := "(II)I" } : Jvm.MethodName) jdk_21_method_6_code (2 : Nat) (Option.some Jvm.ClassFile.FieldType.int)).before args0 about1 = true := code_word (m := ⟨11, 1⟩) (meth := k11m1) (c := k11c1) (by decide +kernel) rfl rfl rfl (by decide +kernel)
set_option maxRecDepth 65536 in
theorem w_c22 : (Jvm.Cond.code ({ cls := "java/util/ArrayDeque$DeqIterator", name := "next", desc := "()Ljava/lang/Object;" } : Jvm.MethodName) jdk_54_method_3_code (3 : Nat) (Option.some (Jvm.ClassFile.FieldType.object "java/lang/Object"))).before args0 about1 = true := code_word (m := ⟨17, 2⟩) (meth := k17m2) (c := k17c2) (by decide +kernel) rfl rfl rfl (by decide +kernel)
set_option maxRecDepth 65536 in
theorem w_c23 : (Jvm.Cond.code ({ cls := "java/util/ArrayDeque", name := "nonNullElementAt", desc := "([Ljava/lang/Object;I)Ljava/lang/Object;" } : Jvm.MethodName) jdk_21_method_11_code (3 : Nat) (Option.some (Jvm.ClassFile.FieldType.object "java/lang/Object"))).before args0 about1 = true := code_word (m := ⟨11, 5⟩) (meth := k11m5) (c := k11c5) (by decide +kernel) rfl rfl rfl (by decide +kernel)
set_option maxRecDepth 65536 in
theorem w_c24 : (Jvm.Cond.code ({ cls := "com/example/umpired/umpired/server/SessionHandle", name := "session", desc := "()J" } : Jvm.MethodName) prog_89_method_2_code (1 : Nat) (Option.some Jvm.ClassFile.FieldType.long)).before args0 about1 = true := code_word (m := ⟨15, 1⟩) (meth := k15m1) (c := k15c1) (by decide +kernel) rfl rfl rfl (by decide +kernel)
set_option maxRecDepth 65536 in
theorem w_c25 : (Jvm.Cond.code ({ cls := "java/time/Duration", name := "isZero", desc := "()Z" } : Jvm.MethodName) jdk_2316_method_21_code (1 : Nat) (Option.some Jvm.ClassFile.FieldType.boolean)).before args0 about1 = true := code_word (m := ⟨14, 0⟩) (meth := k14m0) (c := k14c0) (by decide +kernel) rfl rfl rfl (by decide +kernel)
set_option maxRecDepth 65536 in
theorem w_c26 : (Jvm.Cond.code ({ cls := "java/util/ArrayDeque$DeqIterator", name := "remove", desc := "()V" } : Jvm.MethodName) jdk_54_method_5_code (1 : Nat) (Option.none : Option Jvm.ClassFile.FieldType)).before args0 about1 = true := code_word (m := ⟨17, 4⟩) (meth := k17m4) (c := k17c4) (by decide +kernel) rfl rfl rfl (by decide +kernel)
set_option maxRecDepth 65536 in
theorem w_c27 : (Jvm.Cond.code ({ cls := "java/util/ArrayDeque", name := "delete", desc := "(I)Z" } : Jvm.MethodName) jdk_21_method_36_code (8 : Nat) (Option.some Jvm.ClassFile.FieldType.boolean)).before args0 about1 = true := code_word (m := ⟨11, 10⟩) (meth := k11m10) (c := k11c10) (by decide +kernel) rfl rfl rfl (by decide +kernel)
set_option maxRecDepth 65536 in
theorem w_c28 : (Jvm.Cond.code ({ cls := "java/util/ArrayDeque", name := "dec", desc := "(II)I" } : Jvm.MethodName) jdk_21_method_7_code (2 : Nat) (Option.some Jvm.ClassFile.FieldType.int)).before args0 about1 = true := code_word (m := ⟨11, 2⟩) (meth := k11m2) (c := k11c2) (by decide +kernel) rfl rfl rfl (by decide +kernel)
set_option maxRecDepth 65536 in
theorem w_c29 : (Jvm.Cond.code ({ cls := "java/util/ArrayDeque$DeqIterator", name := "postDelete", desc := "(Z)V" } : Jvm.MethodName) jdk_54_method_4_code (2 : Nat) (Option.none : Option Jvm.ClassFile.FieldType)).before args0 about1 = true := code_word (m := ⟨17, 3⟩) (meth := k17m3) (c := k17c3) (by decide +kernel) rfl rfl rfl (by decide +kernel)
set_option maxRecDepth 65536 in
theorem w_c30 : (Jvm.Cond.code ({ cls := "com/example/umpired/umpired/server/NodeLock", name := "grantNext", desc := "()Lcom/example/umpired/umpired/server/SessionHandle;" } : Jvm.MethodName) prog_84_method_22_code (2 : Nat) (Option.some (Jvm.ClassFile.FieldType.object "com/example/umpired/umpired/server/SessionHandle"))).before args0 about1 = true := code_word (m := ⟨2, 6⟩) (meth := k2m6) (c := k2c6) (by decide +kernel) rfl rfl rfl (by decide +kernel)
set_option maxRecDepth 65536 in
theorem w_c31 : (Jvm.Cond.code ({ cls := "java/util/ArrayDeque", name := "poll", desc := "()Ljava/lang/Object;" } : Jvm.MethodName) jdk_21_method_31_code (1 : Nat) (Option.some (Jvm.ClassFile.FieldType.object "java/lang/Object"))).before args0 about1 = true := code_word (m := ⟨11, 9⟩) (meth := k11m9) (c := k11c9) (by decide +kernel) rfl rfl rfl (by decide +kernel)
set_option maxRecDepth 65536 in
theorem w_c32 : (Jvm.Cond.code ({ cls := "java/util/ArrayDeque", name := "pollFirst", desc := "()Ljava/lang/Object;" } : Jvm.MethodName) jdk_21_method_20_code (4 : Nat) (Option.some (Jvm.ClassFile.FieldType.object "java/lang/Object"))).before args0 about1 = true := code_word (m := ⟨11, 7⟩) (meth := k11m7) (c := k11c7) (by decide +kernel) rfl rfl rfl (by decide +kernel)
set_option maxRecDepth 65536 in
theorem w_c33 : (Jvm.Cond.code ({ cls := "java/util/ArrayDeque", name := "elementAt", desc := "([Ljava/lang/Object;I)Ljava/lang/Object;" } : Jvm.MethodName) jdk_21_method_10_code (2 : Nat) (Option.some (Jvm.ClassFile.FieldType.object "java/lang/Object"))).before args0 about1 = true := code_word (m := ⟨11, 4⟩) (meth := k11m4) (c := k11c4) (by decide +kernel) rfl rfl rfl (by decide +kernel)
def codes1 : List Jvm.Cond := [Jvm.Cond.code x code maxLocals ret, Jvm.Cond.code ({ cls := "com/example/umpired/umpired/server/NodeLock", name := "<init>", desc := "()V" } : Jvm.MethodName) prog_84_method_1_code (1 : Nat) (Option.none : Option Jvm.ClassFile.FieldType), Jvm.Cond.code ({ cls := "java/lang/Object", name := "<init>", desc := "()V" } : Jvm.MethodName) object_method_1_code (1 : Nat) (Option.none : Option Jvm.ClassFile.FieldType), Jvm.Cond.code ({ cls := "java/util/ArrayDeque", name := "<init>", desc := "()V" } : Jvm.MethodName) jdk_21_method_3_code (1 : Nat) (Option.none : Option Jvm.ClassFile.FieldType), Jvm.Cond.code ({ cls := "java/util/AbstractCollection", name := "<init>", desc := "()V" } : Jvm.MethodName) jdk_22_method_1_code (1 : Nat) (Option.none : Option Jvm.ClassFile.FieldType), Jvm.Cond.code ({ cls := "com/example/umpired/umpired/server/SessionHandle", name := "<init>", desc := "(JJ)V" } : Jvm.MethodName) prog_89_method_1_code (5 : Nat) (Option.none : Option Jvm.ClassFile.FieldType), Jvm.Cond.code ({ cls := "com/example/umpired/umpired/server/NodeLock", name := "isHeldBackAfter", desc := "(J)Z" } : Jvm.MethodName) prog_84_method_10_code (3 : Nat) (Option.some Jvm.ClassFile.FieldType.boolean), Jvm.Cond.code ({ cls := "com/example/umpired/umpired/server/NodeLock", name := "endSession", desc := "(JZ)Lcom/example/umpired/umpired/server/SessionHandle;" } : Jvm.MethodName) prog_84_method_14_code (6 : Nat) (Option.some (Jvm.ClassFile.FieldType.object "com/example/umpired/umpired/server/SessionHandle")), Jvm.Cond.code ({ cls := "java/util/ArrayDeque", name := "iterator", desc := "()Ljava/util/Iterator;" } : Jvm.MethodName) jdk_21_method_39_code (1 : Nat) (Option.some (Jvm.ClassFile.FieldType.object "java/util/Iterator")), Jvm.Cond.code ({ cls := "java/util/ArrayDeque$DeqIterator", name := "<init>", desc := "(Ljava/util/ArrayDeque;)V" } : Jvm.MethodName) jdk_54_method_1_code (2 : Nat) (Option.none : Option Jvm.ClassFile.FieldType), Jvm.Cond.code ({ cls := "java/util/ArrayDeque", name := "size", desc := "()I" } : Jvm.MethodName) jdk_21_method_37_code (1 : Nat) (Option.some Jvm.ClassFile.FieldType.int), Jvm.Cond.code ({ cls := "java/util/ArrayDeque", name := "sub", desc := "(III)I" } : Jvm.MethodName) jdk_21_method_9_code (3 : Nat) (Option.some Jvm.ClassFile.FieldType.int), Jvm.Cond.code ({ cls := "java/util/ArrayDeque$DeqIterator", name := "hasNext", desc := "()Z" } : Jvm.MethodName) jdk_54_method_2_code (1 : Nat) (Option.some Jvm.ClassFile.FieldType.boolean), Jvm.Cond.code ({ cls := "com/example/umpired/umpired/server/NodeLock", name := "isHeldBySession", desc := "(J)Z" } : Jvm.MethodName) prog_84_method_7_code (3 : Nat) (Option.some Jvm.ClassFile.FieldType.boolean), Jvm.Cond.code ({ cls := "com/example/umpired/umpired/server/NodeLock", name := "acquire", desc := "(Lcom/example/umpired/umpired/server/SessionHandle;Ljava/time/Duration;Z)Lcom/example/umpired/umpired/server/NodeLock$Outcome;" } : Jvm.MethodName) prog_84_method_3_code (5 : Nat) (Option.some (Jvm.ClassFile.FieldType.object "com/example/umpired/umpired/server/NodeLock$Outcome")), Jvm.Cond.code ({ cls := "com/example/umpired/umpired/server/SessionHandle", name := "equals", desc := "(Ljava/lang/Object;)Z" } : Jvm.MethodName) prog_89_method_6_code (3 : Nat) (Option.some Jvm.ClassFile.FieldType.boolean), Jvm.Cond.code ({ cls := "com/example/umpired/umpired/server/NodeLock", name := "grant", desc := "(Lcom/example/umpired/umpired/server/SessionHandle;Ljava/time/Duration;)V" } : Jvm.MethodName) prog_84_method_23_code (3 : Nat) (Option.none : Option Jvm.ClassFile.FieldType), Jvm.Cond.code ({ cls := "com/example/umpired/umpired/server/NodeLock", name := "isWaiting", desc := "(Lcom/example/umpired/umpired/server/SessionHandle;)Z" } : Jvm.MethodName) prog_84_method_21_code (4 : Nat) (Option.some Jvm.ClassFile.FieldType.boolean), Jvm.Cond.code ({ cls := "com/example/umpired/umpired/server/NodeLock$Waiter", name := "<init>", desc := "(Lcom/example/umpired/umpired/server/SessionHandle;Ljava/time/Duration;)V" } : Jvm.MethodName) prog_86_method_1_code (3 : Nat) (Option.none : Option Jvm.ClassFile.FieldType), Jvm.Cond.code ({ cls := "java/util/ArrayDeque", name := "add", desc := "(Ljava/lang/Object;)Z" } : Jvm.MethodName) jdk_21_method_28_code (2 : Nat) (Option.some Jvm.ClassFile.FieldType.boolean), Jvm.Cond.code ({ cls := "java/util/ArrayDeque", name := "addLast", desc := "(Ljava/lang/Object;)V" } : Jvm.MethodName) jdk_21_method_13_code (3 : Nat) (Option.none : Option Jvm.ClassFile.FieldType), Jvm.Cond.code ({ cls := "java/util/ArrayDeque", name := "inc", desc := "(II)I" } : Jvm.MethodName) jdk_21_method_6_code (2 : Nat) (Option.some Jvm.ClassFile.FieldType.int), Jvm.Cond.code ({ cls := "java/util/ArrayDeque$DeqIterator", name := "next", desc := "()Ljava/lang/Object;" } : Jvm.MethodName) jdk_54_method_3_code (3 : Nat) (Option.some (Jvm.ClassFile.FieldType.object "java/lang/Object")), Jvm.Cond.code ({ cls := "java/util/ArrayDeque", name := "nonNullElementAt", desc := "([Ljava/lang/Object;I)Ljava/lang/Object;" } : Jvm.MethodName) jdk_21_method_11_code (3 : Nat) (Option.some (Jvm.ClassFile.FieldType.object "java/lang/Object")), Jvm.Cond.code ({ cls := "com/example/umpired/umpired/server/SessionHandle", name := "session", desc := "()J" } : Jvm.MethodName) prog_89_method_2_code (1 : Nat) (Option.some Jvm.ClassFile.FieldType.long), Jvm.Cond.code ({ cls := "java/time/Duration", name := "isZero", desc := "()Z" } : Jvm.MethodName) jdk_2316_method_21_code (1 : Nat) (Option.some Jvm.ClassFile.FieldType.boolean), Jvm.Cond.code ({ cls := "java/util/ArrayDeque$DeqIterator", name := "remove", desc := "()V" } : Jvm.MethodName) jdk_54_method_5_code (1 : Nat) (Option.none : Option Jvm.ClassFile.FieldType), Jvm.Cond.code ({ cls := "java/util/ArrayDeque", name := "delete", desc := "(I)Z" } : Jvm.MethodName) jdk_21_method_36_code (8 : Nat) (Option.some Jvm.ClassFile.FieldType.boolean), Jvm.Cond.code ({ cls := "java/util/ArrayDeque", name := "dec", desc := "(II)I" } : Jvm.MethodName) jdk_21_method_7_code (2 : Nat) (Option.some Jvm.ClassFile.FieldType.int), Jvm.Cond.code ({ cls := "java/util/ArrayDeque$DeqIterator", name := "postDelete", desc := "(Z)V" } : Jvm.MethodName) jdk_54_method_4_code (2 : Nat) (Option.none : Option Jvm.ClassFile.FieldType), Jvm.Cond.code ({ cls := "com/example/umpired/umpired/server/NodeLock", name := "grantNext", desc := "()Lcom/example/umpired/umpired/server/SessionHandle;" } : Jvm.MethodName) prog_84_method_22_code (2 : Nat) (Option.some (Jvm.ClassFile.FieldType.object "com/example/umpired/umpired/server/SessionHandle")), Jvm.Cond.code ({ cls := "java/util/ArrayDeque", name := "poll", desc := "()Ljava/lang/Object;" } : Jvm.MethodName) jdk_21_method_31_code (1 : Nat) (Option.some (Jvm.ClassFile.FieldType.object "java/lang/Object")), Jvm.Cond.code ({ cls := "java/util/ArrayDeque", name := "pollFirst", desc := "()Ljava/lang/Object;" } : Jvm.MethodName) jdk_21_method_20_code (4 : Nat) (Option.some (Jvm.ClassFile.FieldType.object "java/lang/Object")), Jvm.Cond.code ({ cls := "java/util/ArrayDeque", name := "elementAt", desc := "([Ljava/lang/Object;I)Ljava/lang/Object;" } : Jvm.MethodName) jdk_21_method_10_code (2 : Nat) (Option.some (Jvm.ClassFile.FieldType.object "java/lang/Object"))]
set_option maxRecDepth 65536 in
theorem codes_eq : words1.filter isCode = codes1 := rfl
theorem w_codes : ∀ c ∈ words1.filter isCode, c.before args0 about1 = true := by
  rw [codes_eq]
  intro c hc
  simp only [codes1, List.mem_cons, List.not_mem_nil, or_false] at hc
  rcases hc with rfl | rfl | rfl | rfl | rfl | rfl | rfl | rfl | rfl | rfl | rfl | rfl | rfl | rfl | rfl | rfl | rfl | rfl | rfl | rfl | rfl | rfl | rfl | rfl | rfl | rfl | rfl | rfl | rfl | rfl | rfl | rfl | rfl | rfl
  · exact w_c0
  · exact w_c1
  · exact w_c2
  · exact w_c3
  · exact w_c4
  · exact w_c5
  · exact w_c6
  · exact w_c7
  · exact w_c8
  · exact w_c9
  · exact w_c10
  · exact w_c11
  · exact w_c12
  · exact w_c13
  · exact w_c14
  · exact w_c15
  · exact w_c16
  · exact w_c17
  · exact w_c18
  · exact w_c19
  · exact w_c20
  · exact w_c21
  · exact w_c22
  · exact w_c23
  · exact w_c24
  · exact w_c25
  · exact w_c26
  · exact w_c27
  · exact w_c28
  · exact w_c29
  · exact w_c30
  · exact w_c31
  · exact w_c32
  · exact w_c33
set_option maxRecDepth 65536 in
theorem w_t1 : (words1.take 24).all (fun c => isCode c || c.before args0 about1) = true := by decide +kernel
set_option maxRecDepth 65536 in
theorem w_t2 : ((words1.drop 24).take 24).all (fun c => isCode c || c.before args0 about1) = true := by decide +kernel
set_option maxRecDepth 65536 in
theorem w_t3 : (((words1.drop 24).drop 24).take 24).all (fun c => isCode c || c.before args0 about1) = true := by decide +kernel
set_option maxRecDepth 65536 in
theorem w_t4 : ((((words1.drop 24).drop 24).drop 24).take 24).all (fun c => isCode c || c.before args0 about1) = true := by decide +kernel
set_option maxRecDepth 65536 in
theorem w_t5 : (((((words1.drop 24).drop 24).drop 24).drop 24).take 24).all (fun c => isCode c || c.before args0 about1) = true := by decide +kernel
set_option maxRecDepth 65536 in
theorem w_t6 : ((((((words1.drop 24).drop 24).drop 24).drop 24).drop 24).take 24).all (fun c => isCode c || c.before args0 about1) = true := by decide +kernel
set_option maxRecDepth 65536 in
theorem w_t7 : (((((((words1.drop 24).drop 24).drop 24).drop 24).drop 24).drop 24).take 24).all (fun c => isCode c || c.before args0 about1) = true := by decide +kernel
set_option maxRecDepth 65536 in
theorem w_t8 : ((((((((words1.drop 24).drop 24).drop 24).drop 24).drop 24).drop 24).drop 24).take 24).all (fun c => isCode c || c.before args0 about1) = true := by decide +kernel
set_option maxRecDepth 65536 in
theorem w_t9 : (((((((((words1.drop 24).drop 24).drop 24).drop 24).drop 24).drop 24).drop 24).drop 24).take 24).all (fun c => isCode c || c.before args0 about1) = true := by decide +kernel
set_option maxRecDepth 65536 in
theorem w_t10 : ((((((((((words1.drop 24).drop 24).drop 24).drop 24).drop 24).drop 24).drop 24).drop 24).drop 24).take 24).all (fun c => isCode c || c.before args0 about1) = true := by decide +kernel
set_option maxRecDepth 65536 in
theorem w_t11 : ((((((((((words1.drop 24).drop 24).drop 24).drop 24).drop 24).drop 24).drop 24).drop 24).drop 24).drop 24).all (fun c => isCode c || c.before args0 about1) = true := by decide +kernel
theorem w_tables : (allAtoms (Jvm.Cond.code x code maxLocals ret :: tables_1)).before args0 about1 = true := by
  rw [allAtoms_all]
  show words1.all (fun c => c.before args0 about1) = true
  refine all_split ?_ w_codes
  rw [← List.take_append_drop 24 words1, List.all_append, w_t1, ← List.take_append_drop 24 (words1.drop 24), List.all_append, w_t2, ← List.take_append_drop 24 ((words1.drop 24).drop 24), List.all_append, w_t3, ← List.take_append_drop 24 (((words1.drop 24).drop 24).drop 24), List.all_append, w_t4, ← List.take_append_drop 24 ((((words1.drop 24).drop 24).drop 24).drop 24), List.all_append, w_t5, ← List.take_append_drop 24 (((((words1.drop 24).drop 24).drop 24).drop 24).drop 24), List.all_append, w_t6, ← List.take_append_drop 24 ((((((words1.drop 24).drop 24).drop 24).drop 24).drop 24).drop 24), List.all_append, w_t7, ← List.take_append_drop 24 (((((((words1.drop 24).drop 24).drop 24).drop 24).drop 24).drop 24).drop 24), List.all_append, w_t8, ← List.take_append_drop 24 ((((((((words1.drop 24).drop 24).drop 24).drop 24).drop 24).drop 24).drop 24).drop 24), List.all_append, w_t9, ← List.take_append_drop 24 (((((((((words1.drop 24).drop 24).drop 24).drop 24).drop 24).drop 24).drop 24).drop 24).drop 24), List.all_append, w_t10, w_t11]
  rfl
set_option maxRecDepth 65536 in
theorem w_rest : rest_1_c.before args0 about1 = true := by decide +kernel
set_option maxRecDepth 65536 in
theorem w_case : (Jvm.Cond.and given_1 narrow_1).before args0 about1 = true := by decide +kernel
theorem w_applies : (headSpec (Jvm.Cond.code x code maxLocals ret :: tables_1) room_1).applies x e0.platform about1 = true :=
  (Spec.applies_iff w_frames).mpr ⟨w_running, w_runnable, w_alone, w_named, w_hears, w_ripe, w_room, w_tables⟩
theorem atStart : AtStart classFile x code maxLocals ret World_1 tables_1 room_1 Calls_1 rest_1 Pre_1 launch0 p0 e0 about1 theMethod args0 below0 :=
  ⟨lists_1, trivial, launch0.admits_env _ _ _, launch0.least_env, fairChoices_fair.cas, fairChoices_fair.clock, w_frames, w_args, w_heap, w_applies, trivial, w_rest, w_case⟩
end start1
theorem witness_1 : WitnessClaimed_1 := ⟨start1.p0, start1.e0, start1.about1, start1.theMethod, start1.args0, start1.below0, start1.atStart⟩
end Jvm.Pilot.@@N@@
