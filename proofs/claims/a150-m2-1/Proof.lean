import JvmDerived
import JvmDerived.Pilot.@@N@@Statement
import JvmDerived.Pilot.@@N@@Code
set_option linter.unusedVariables false
set_option linter.unusedSimpArgs false
namespace Jvm.RoadKit
open Sem ClassFile Op Lib Jvm.Stand Jvm.Free Jvm.LawKit
section New
variable {p : Program} {l : Launch} {e : Env} {R : Room} {s : State} {m : MethodId} {args : Array Value} {below : List Frame} {meth : Method} {c : Code} {T : State} {locs : List Loc} {cells slots : Nat}
theorem retI (X : Stand p l e R s m args below meth c T locs cells slots) (hx : p.tables.exec = Jvm.exec) {pc : Nat} {Ls : Array Slot} {z : Int32} {rest : List Value} (hret : meth.sig.returnType = some .int) (hd : decode c.code pc = .ok (.ireturn, 1)) {fs : List Frame}
    (hl : ∀ (f : JFrame) (acts : List Action), f.method = m → f.locked = none → f.entered = [] → (doReturn e (T.setTop f) acts (some (.int z))).1 = T.setFrames fs) : Steps p.tables e below (T.setTop (mkF m pc Ls (.int z :: rest))) (T.setFrames fs) := by
  have hm' : T.vm.method? m = some meth := X.method'
  have hn : narrow .int (.int z) = .int z := rfl
  show Steps p.tables e below (T.setTop { method := m, pc := pc, locals := Ls, stack := _ :: rest, locked := none }) _
  jvm_step X.here [X.here.top, hx, hd, hm', hret, hn]
  first | (intro acts; rw [hl _ acts rfl rfl rfl]) | rw [hl _ _ rfl rfl rfl]
  exact Steps.refl _
end New
end Jvm.RoadKit
namespace Jvm.Pilot.@@N@@
open Jvm Jvm.ClassFile Sem Op Lib Jvm.Free Jvm.Stand Jvm.LawKit Jvm.RoadKit Bundle Jvm.Pilot.@@N@@.Jvm.D
set_option maxRecDepth 65536
set_option maxHeartbeats 40000000
theorem ow {Z : State} {a0 : Array Value} (hw : ∀ d ∈ tables_1, d.before a0 Z = true) (i : Nat) {d : Jvm.Cond} (h : tables_1[i]? = some d) : d.before a0 Z = true := hw d (List.mem_of_getElem? h)
abbrev rmk (f c s l : Nat) : Room := { frames := f, cells := c, slots := s, locals := l }
abbrev MetB (l : Launch) (y : MethodName) (bytes : ByteArray) (maxL : Nat) (ret : Option FieldType) (ws : List Jvm.Cond) (rm : Room) (Z : State) (h0 : Heap) (as' : Array Value) (Q : Option Value → Heap → List Loc → Prop) : Prop :=
  MetFree l y (head1 (Jvm.Cond.code y bytes maxL ret :: ws) rm) (fun a U => a = as' ∧ Z.Warmed39 U.vm ∧ U.heap = h0) (fun _ _ _ _ _ => True) (fun _ U o U' => ∃ v L, o = .returned v ∧ Q v U'.heap L ∧ FrameEnd U o U' L rm.cells rm.slots)
theorem own_body {l : Launch} {y : MethodName} {bytes : ByteArray} {maxL : Nat} {ret : Option FieldType} {ws : List Jvm.Cond} {rm : Room} {Z : State} {h0 : Heap} {as' : Array Value} {Q : Option Value → Heap → List Loc → Prop} (hpl : plainFor y = true)
    (body : ∀ (p : Program) (e : Env) (s : State) (m : MethodId) (below : List Frame) (meth : Method) (c : Code) (s₁ : State), p.tables.exec = Jvm.exec → c.code = bytes → c.maxLocals = maxL → s.vm.findClass y.cls = some m.cls → meth.name = y.name → meth.sig.returnType = ret → meth.locks = false → Z.Warmed39 s.vm → Stand p l e rm s m as' below meth c s₁ [] 0 0 → s₁.heap = h0 →
      ∃ s₂ o, Steps p.tables e below (s₁.setTop (entryFrame m as' maxL)) s₂ ∧ s₂.status = .running ∧ Ended s₂ below o ∧ ∃ v L, o = .returned v ∧ Q v s₂.heap L ∧ FrameEnd s o s₂ L rm.cells rm.slots) : MetB l y bytes maxL ret ws rm Z h0 as' Q := by
  refine MetFree.of_bodySF hpl hisR ?_
  intro p e s m args below meth c s₁ Bd hml0 hP hK
  obtain ⟨rfl, hZ, hh⟩ := hP
  exact body p e s m below meth c s₁ Bd.exec Bd.bytes hml0 (findClass_of_methodNamed Bd.named) (name_of_methodNamed Bd.named Bd.method).1 Bd.returns Bd.notSynchronized hZ (Stand.of_body Bd) (by rw [← hh, Bd.state]; rfl)
abbrev vr (a : Addr) : Slot := .val (.ref a)
abbrev vi (a : Int32) : Slot := .val (.int a)
abbrev vl (a : Int64) : Slot := .val (.long a)
theorem own_sz {Z : State} {n0 : Nat} {h : Heap} (O : Old Z n0 h) : n0 ≤ h.size := O.1 ▸ O.2.1
theorem own_eq_int {args : Array Value} {first s : State} {o : Option Outcome} {idx : List Nat} {t : Term} {k : Int32} (h : (Jvm.Cond.eq t (.int k)).value args first o s idx = some true) : t.eval args first o idx s = some (.int k) := by
  simp only [Jvm.Cond.value, Term.eval] at h
  cases ht : t.eval args first o idx s with
  | none => simp [ht] at h
  | some x => cases x <;> simp [ht] at h ⊢; exact h
theorem own_eq_long {args : Array Value} {first s : State} {o : Option Outcome} {idx : List Nat} {t : Term} {k : Int64} (h : (Jvm.Cond.eq t (.long k)).value args first o s idx = some true) : t.eval args first o idx s = some (.long k) := by
  simp only [Jvm.Cond.value, Term.eval] at h
  cases ht : t.eval args first o idx s with
  | none => simp [ht] at h
  | some x => cases x <;> simp [ht] at h ⊢; exact h
theorem own_selp {s : State} {args : Array Value} {y : MethodName} {n : Nat} (wi : (Jvm.Cond.instantiable y.cls n).before args s = true) (wp : (Jvm.Cond.privateMethod y).before args s = true) (wm : (Jvm.Cond.instanceMethod y).before args s = true) (hy : y.cls ≠ "java/lang/invoke/MethodHandle" ∧ y.cls ≠ "java/lang/invoke/VarHandle") : (Jvm.Cond.selects y.cls y y).before args s = true := by
  obtain ⟨c, k, hc, hk, -, hni, -, -⟩ := Cond.instantiable_spec wi
  exact selects_self_of_private hc hk (Bool.or_eq_false_iff.mp hni).1 (Cond.privateMethod_at wp) wm hy
theorem own_getR {p : Program} {l : Launch} {e : Env} {R : Room} {s : State} {m : MethodId} {args : Array Value} {below : List Frame} {meth : Method} {c : Code} {T : State} {locs : List Loc} {cells slots : Nat} {Z : State} {a0 : Array Value} {h : Heap} (X : Stand p l e R s m args below meth c T locs cells slots) (hx : p.tables.exec = Jvm.exec) (hZ : Z.Warmed39 s.vm) {own R0 n d : String} {index : Nat} (hown : s.vm.findClass own = some m.cls) (w : (Jvm.Cond.fieldRef own index R0 n d).before a0 Z = true)
    (eT : T.heap = h) {a : Addr} {v : Value} (F : Fld Z h a R0 n d v) {g : JFrame} (hg : g.method = m) {rest : List Value} (hs : g.stack = .ref a :: rest) (hd : decode c.code g.pc = .ok (.getfield index, 3)) : ∃ T', Stand p l e R s m args below meth c T' locs cells slots ∧ T'.heap = h ∧ ∀ target, Steps p.tables e below (T'.setTop { g with pc := g.pc + 3, stack := v :: rest }) target → Steps p.tables e below (T.setTop g) target := by
  obtain ⟨cell, cf, k, i, f, h1, h2, h3, h4, -, -, h7⟩ := F
  have wT := Cond.fieldRef_warmed39 (wtrans hZ X.warmed) w
  obtain ⟨c', k', i', f', q1, q2⟩ := Cond.fieldRef_spec (cur := m.cls) (by show T.vm.findClass own = some m.cls; rw [X.warmed.alike.findClass]; exact hown) wT
  obtain ⟨k'', hf', -⟩ := State.fieldFound?_setVm (s := Z) (wtrans hZ X.warmed).alike h2
  cases hf'.symm.trans q1
  exact ⟨T, X, eT, fun target k => (X.getfieldR hx hg q2 h3 hs (by rw [eT]; exact h1) h4 h7 hd (Steps.refl _)).trans k⟩
theorem own_lc (x : Int64) : lcmpW x x = 0 := (lw_eq x x).mpr rfl
theorem own_b01 {P : Prop} [Decidable P] {y a b : Int32} (h : y = if P then a else b) : y = a ∨ y = b := by rw [h]; split; exact Or.inl rfl; exact Or.inr rfl
abbrev M0 : MethodName := ⟨"com/example/umpired/umpired/server/SessionHandle", "equals", "(Ljava/lang/Object;)Z"⟩
abbrev M1 : MethodName := ⟨"com/example/umpired/umpired/server/NodeLock", "isHeldAt", "(J)Z"⟩
abbrev M2 : MethodName := ⟨"java/util/AbstractCollection", "<init>", "()V"⟩
abbrev M3 : MethodName := ⟨"java/util/ArrayDeque", "<init>", "()V"⟩
abbrev M4 : MethodName := ⟨"com/example/umpired/umpired/server/NodeLock", "<init>", "()V"⟩
abbrev M5 : MethodName := ⟨"com/example/umpired/umpired/server/NodeLock", "holderLockDelay", "()Ljava/time/Duration;"⟩
abbrev M6 : MethodName := ⟨"com/example/umpired/umpired/server/SessionHandle", "<init>", "(JJ)V"⟩
abbrev M7 : MethodName := ⟨"com/example/umpired/umpired/server/NodeLock", "grant", "(Lcom/example/umpired/umpired/server/SessionHandle;Ljava/time/Duration;)V"⟩
abbrev M8 : MethodName := ⟨"com/example/umpired/umpired/server/NodeLock", "acquire", "(Lcom/example/umpired/umpired/server/SessionHandle;Ljava/time/Duration;Z)Lcom/example/umpired/umpired/server/NodeLock$Outcome;"⟩
abbrev M9 : MethodName := ⟨"java/util/ArrayDeque", "elementAt", "([Ljava/lang/Object;I)Ljava/lang/Object;"⟩
abbrev M10 : MethodName := ⟨"java/util/ArrayDeque", "pollFirst", "()Ljava/lang/Object;"⟩
abbrev M11 : MethodName := ⟨"java/util/ArrayDeque", "poll", "()Ljava/lang/Object;"⟩
abbrev M12 : MethodName := ⟨"com/example/umpired/umpired/server/NodeLock", "grantNext", "()Lcom/example/umpired/umpired/server/SessionHandle;"⟩
abbrev M13 : MethodName := ⟨"java/util/Deque", "poll", "()Ljava/lang/Object;"⟩
abbrev M14 : MethodName := ⟨"com/example/umpired/umpired/server/NodeLock", "release", "()Lcom/example/umpired/umpired/server/SessionHandle;"⟩
abbrev M15 : MethodName := ⟨"java/util/ArrayDeque", "sub", "(III)I"⟩
abbrev M16 : MethodName := ⟨"java/util/ArrayDeque", "size", "()I"⟩
abbrev M17 : MethodName := ⟨"java/util/ArrayDeque$DeqIterator", "<init>", "(Ljava/util/ArrayDeque;)V"⟩
abbrev M18 : MethodName := ⟨"java/util/ArrayDeque", "iterator", "()Ljava/util/Iterator;"⟩
abbrev M19 : MethodName := ⟨"java/util/ArrayDeque$DeqIterator", "hasNext", "()Z"⟩
abbrev M20 : MethodName := ⟨"com/example/umpired/umpired/server/NodeLock", "isWaiting", "(Lcom/example/umpired/umpired/server/SessionHandle;)Z"⟩
abbrev M21 : MethodName := ⟨"java/util/Deque", "iterator", "()Ljava/util/Iterator;"⟩
abbrev M22 : MethodName := ⟨"java/util/Iterator", "hasNext", "()Z"⟩
abbrev M23 : MethodName := ⟨"com/example/umpired/umpired/server/NodeLock$Waiter", "<init>", "(Lcom/example/umpired/umpired/server/SessionHandle;Ljava/time/Duration;)V"⟩
abbrev M24 : MethodName := ⟨"java/util/ArrayDeque", "inc", "(II)I"⟩
abbrev M25 : MethodName := ⟨"java/util/ArrayDeque", "addLast", "(Ljava/lang/Object;)V"⟩
abbrev M26 : MethodName := ⟨"java/util/ArrayDeque", "add", "(Ljava/lang/Object;)Z"⟩
abbrev M27 : MethodName := ⟨"java/util/Deque", "add", "(Ljava/lang/Object;)Z"⟩
abbrev M28 : MethodName := ⟨"com/example/umpired/umpired/server/SessionHandle", "session", "()J"⟩
abbrev M29 : MethodName := ⟨"com/example/umpired/umpired/server/NodeLock", "isHeldBySession", "(J)Z"⟩
abbrev M30 : MethodName := ⟨"com/example/umpired/umpired/server/NodeLock", "endSession", "(JZ)Lcom/example/umpired/umpired/server/SessionHandle;"⟩
abbrev M31 : MethodName := ⟨"java/time/Duration", "isZero", "()Z"⟩
abbrev M32 : MethodName := ⟨"java/util/ArrayDeque", "nonNullElementAt", "([Ljava/lang/Object;I)Ljava/lang/Object;"⟩
abbrev M33 : MethodName := ⟨"java/util/ArrayDeque$DeqIterator", "next", "()Ljava/lang/Object;"⟩
abbrev M34 : MethodName := ⟨"java/util/Iterator", "next", "()Ljava/lang/Object;"⟩
abbrev M35 : MethodName := ⟨"com/example/umpired/umpired/server/NodeLock", "isHeldBackAfter", "(J)Z"⟩
abbrev M36 : MethodName := ⟨"com/example/umpired/umpired/server/NodeLock", "endHoldBack", "(J)Lcom/example/umpired/umpired/server/SessionHandle;"⟩
abbrev s0n : String := "Ljava/time/Duration;"
abbrev s1n : String := "java/time/Duration"
abbrev s2n : String := "com/example/umpired/umpired/server/NodeLock$Outcome"
abbrev s3n : String := "com/example/umpired/umpired/server/SessionHandle"
abbrev s4n : String := "com/example/umpired/umpired/server/NodeLock"
abbrev s5n : String := "Lcom/example/umpired/umpired/server/SessionHandle;"
abbrev s6n : String := "com/example/umpired/umpired/server/NodeLockIsHeldAtPinLaw"
abbrev s7n : String := "java/util/ArrayDeque"
abbrev s8n : String := "[Ljava/lang/Object;"
abbrev s9n : String := "java/lang/Object"
abbrev s10n : String := "holderLockDelay"
abbrev s11n : String := "Ljava/util/Deque;"
abbrev s12n : String := "java/util/Deque"
abbrev s13n : String := "java/util/ArrayDeque$DeqIterator"
abbrev s14n : String := "Ljava/util/ArrayDeque;"
abbrev s15n : String := "java/util/Iterator"
abbrev s16n : String := "com/example/umpired/umpired/server/NodeLock$Waiter"
def SS (Z : State) (wMAX_LOCK_DELAY : Addr) (wGRANTED : Addr) (wQUEUED : Addr) (wBUSY : Addr) (wZERO : Addr) : Prop := Sta Z Z.heap "com/example/umpired/umpired/protocol/Limits" "MAX_LOCK_DELAY" s0n (.ref wMAX_LOCK_DELAY) ∧ Exa Z Z.heap wMAX_LOCK_DELAY s1n ∧ Sta Z Z.heap s2n "GRANTED" "Lcom/example/umpired/umpired/server/NodeLock$Outcome;" (.ref wGRANTED) ∧ Exa Z Z.heap wGRANTED s2n ∧ Sta Z Z.heap s2n "QUEUED" "Lcom/example/umpired/umpired/server/NodeLock$Outcome;" (.ref wQUEUED) ∧ Exa Z Z.heap wQUEUED s2n ∧ Sta Z Z.heap s2n "BUSY" "Lcom/example/umpired/umpired/server/NodeLock$Outcome;" (.ref wBUSY) ∧ Exa Z Z.heap wBUSY s2n ∧ Fld Z Z.heap wMAX_LOCK_DELAY s1n "seconds" "J" (.long 60) ∧ Fld Z Z.heap wMAX_LOCK_DELAY s1n "nanos" "I" (.int 0) ∧ Sta Z Z.heap s1n "ZERO" s0n (.ref wZERO) ∧ Exa Z Z.heap wZERO s1n ∧ Fld Z Z.heap wZERO s1n "seconds" "J" (.long 0) ∧ Fld Z Z.heap wZERO s1n "nanos" "I" (.int 0)
theorem ef_rmEqN (m : MethodId) (x0 : Addr)  : entryFrame m #[(.ref x0), .null] 3 = mkF m 0 #[(vr x0), .val .null, .unset] [] := by first | (simp [entryFrame, mkF, argsToLocals, Value.category]; done) | rfl
theorem pn_com_example_umpired_umpired_server_SessionHandle : plainName "com/example/umpired/umpired/server/SessionHandle" = true := by first | (simp [plainName, overriddenIn]; done) | decide +kernel
theorem d9_0 : decode prog_89_method_6_code 0 = .ok (.aload_n 1, 1) := by decide +kernel
theorem d9_1 : decode prog_89_method_6_code 1 = .ok (.instanceof 8, 3) := by decide +kernel
theorem d9_4 : decode prog_89_method_6_code 4 = .ok (.ifCond .ne 5, 3) := by decide +kernel
theorem d9_7 : decode prog_89_method_6_code 7 = .ok (.iconst 0, 1) := by decide +kernel
theorem d9_8 : decode prog_89_method_6_code 8 = .ok (.ireturn, 1) := by decide +kernel
def Q_rmEqN (Z : State) (wMAX_LOCK_DELAY : Addr) (wGRANTED : Addr) (wQUEUED : Addr) (wBUSY : Addr) (wZERO : Addr) (a1 : Addr) (h0 : Heap) (n0 : Nat) (v : Option Value) (h : Heap) (L : List Loc) : Prop := v = some (.int 0) ∧ Fr n0 L ∧ h = h0
theorem rmEqN (l : Launch) (Z : State) (a0 : Array Value) (hw : ∀ d ∈ tables_1, d.before a0 Z = true) (ws : List Jvm.Cond) (wMAX_LOCK_DELAY : Addr) (wGRANTED : Addr) (wQUEUED : Addr) (wBUSY : Addr) (wZERO : Addr) (hS : SS Z wMAX_LOCK_DELAY wGRANTED wQUEUED wBUSY wZERO) (a1 : Addr) (h0 : Heap) (n0 : Nat) (O0 : Old Z n0 h0)  :
    MetB l M0 prog_89_method_6_code 3 (some .boolean) ws (rmk 0 0 0 0) Z h0 #[(.ref a1), .null] (Q_rmEqN Z wMAX_LOCK_DELAY wGRANTED wQUEUED wBUSY wZERO a1 h0 n0) := by
  refine own_body (plainFor_of_name pn_com_example_umpired_umpired_server_SessionHandle) ?_
  intro p e s m below meth c s₁ hx hby hml hown hnm hret0 hlk0 hZ X0 e0
  have N0 := Fr.nil n0
  have pre0 : ∀ t, Steps p.tables e below (s₁.setTop (mkF m 0 #[(vr a1), .val .null, .unset] [])) t → Steps p.tables e below (s₁.setTop (entryFrame m #[(.ref a1), .null] 3)) t := fun t k => castTop (ef_rmEqN m a1) k
  have hS0 := hS
  obtain ⟨S_wMAX_LOCK_DELAY, E_wMAX_LOCK_DELAY, S_wGRANTED, E_wGRANTED, S_wQUEUED, E_wQUEUED, S_wBUSY, E_wBUSY, F_seconds_wMAX_LOCK_DELAY, F_nanos_wMAX_LOCK_DELAY, S_wZERO, E_wZERO, F_seconds_wZERO, F_nanos_wZERO⟩ := hS0
  obtain ⟨fs, hr, hrun, hended, hW, hsame⟩ := X0.leave (v := some (.int 0)) (fun h => by rw [hret0] at h; cases h)
  refine ⟨_, _, pre0 _ ?_, hrun, hended, _, _, rfl, ?_, ⟨_, rfl⟩, hW, hsame.mono (by decide) (by decide)⟩
  · skip
    show Steps p.tables e below (s₁.setTop (mkF m 0 #[(vr a1), .val .null, .unset] [])) _
    refine XS.aloadN X0.here hx rfl (hb hby d9_0) rfl rfl ?_
    refine X0.instanceofNull hx (g := (mkF m 1 #[(vr a1), .val .null, .unset] [.null])) rfl rfl (hb hby d9_1) _ ?_
    refine XS.ifNo X0.here hx rfl (hb hby d9_4) rfl ((if0 _ _).trans (teq (by decide : (0 : Int32) = (0 : Int32))).2) ?_
    refine XS.iconst X0.here hx rfl (hb hby d9_7) ?_
    exact retN X0 hx (t := .boolean) hret0 (by simp) (hb hby d9_8) hr
  · show Q_rmEqN Z wMAX_LOCK_DELAY wGRANTED wQUEUED wBUSY wZERO a1 h0 n0 _ s₁.heap _
    rw [e0]
    exact ⟨rfl, N0, rfl⟩
theorem ef_rmEqS (m : MethodId) (x0 : Addr) (x1 : Addr)  : entryFrame m #[(.ref x0), (.ref x1)] 3 = mkF m 0 #[(vr x0), (vr x1), .unset] [] := by first | (simp [entryFrame, mkF, argsToLocals, Value.category]; done) | rfl
theorem d9_9 : decode prog_89_method_6_code 9 = .ok (.aload_n 1, 1) := by decide +kernel
theorem d9_10 : decode prog_89_method_6_code 10 = .ok (.checkcast 8, 3) := by decide +kernel
theorem d9_13 : decode prog_89_method_6_code 13 = .ok (.astore_n 2, 1) := by decide +kernel
theorem d9_14 : decode prog_89_method_6_code 14 = .ok (.aload_n 0, 1) := by decide +kernel
theorem d9_15 : decode prog_89_method_6_code 15 = .ok (.getfield 7, 3) := by decide +kernel
theorem d9_18 : decode prog_89_method_6_code 18 = .ok (.aload_n 2, 1) := by decide +kernel
theorem d9_19 : decode prog_89_method_6_code 19 = .ok (.getfield 7, 3) := by decide +kernel
theorem d9_22 : decode prog_89_method_6_code 22 = .ok (.lcmp, 1) := by decide +kernel
theorem d9_23 : decode prog_89_method_6_code 23 = .ok (.ifCond .ne 19, 3) := by decide +kernel
theorem d9_26 : decode prog_89_method_6_code 26 = .ok (.aload_n 0, 1) := by decide +kernel
theorem d9_27 : decode prog_89_method_6_code 27 = .ok (.getfield 13, 3) := by decide +kernel
theorem d9_30 : decode prog_89_method_6_code 30 = .ok (.aload_n 2, 1) := by decide +kernel
theorem d9_31 : decode prog_89_method_6_code 31 = .ok (.getfield 13, 3) := by decide +kernel
theorem d9_34 : decode prog_89_method_6_code 34 = .ok (.lcmp, 1) := by decide +kernel
theorem d9_35 : decode prog_89_method_6_code 35 = .ok (.ifCond .ne 7, 3) := by decide +kernel
theorem d9_38 : decode prog_89_method_6_code 38 = .ok (.iconst 1, 1) := by decide +kernel
theorem d9_39 : decode prog_89_method_6_code 39 = .ok (.goto 4, 3) := by decide +kernel
theorem d9_43 : decode prog_89_method_6_code 43 = .ok (.ireturn, 1) := by decide +kernel
def Q_rmEqS (Z : State) (wMAX_LOCK_DELAY : Addr) (wGRANTED : Addr) (wQUEUED : Addr) (wBUSY : Addr) (wZERO : Addr) (a1 : Addr) (q1 : Int64) (q2 : Int64) (h0 : Heap) (n0 : Nat) (v : Option Value) (h : Heap) (L : List Loc) : Prop := v = some (.int 1) ∧ Fr n0 L ∧ h = h0
theorem rmEqS (l : Launch) (Z : State) (a0 : Array Value) (hw : ∀ d ∈ tables_1, d.before a0 Z = true) (ws : List Jvm.Cond) (wMAX_LOCK_DELAY : Addr) (wGRANTED : Addr) (wQUEUED : Addr) (wBUSY : Addr) (wZERO : Addr) (hS : SS Z wMAX_LOCK_DELAY wGRANTED wQUEUED wBUSY wZERO) (a1 : Addr) (q1 : Int64) (q2 : Int64) (h0 : Heap) (n0 : Nat) (O0 : Old Z n0 h0) (P0 : Exa Z h0 a1 s3n) (P1 : Fld Z h0 a1 s3n "session" "J" (.long q1)) (P2 : Fld Z h0 a1 s3n "handle" "J" (.long q2)) :
    MetB l M0 prog_89_method_6_code 3 (some .boolean) ws (rmk 0 0 0 0) Z h0 #[(.ref a1), (.ref a1)] (Q_rmEqS Z wMAX_LOCK_DELAY wGRANTED wQUEUED wBUSY wZERO a1 q1 q2 h0 n0) := by
  refine own_body (plainFor_of_name pn_com_example_umpired_umpired_server_SessionHandle) ?_
  intro p e s m below meth c s₁ hx hby hml hown hnm hret0 hlk0 hZ X0 e0
  have N0 := Fr.nil n0
  have pre0 : ∀ t, Steps p.tables e below (s₁.setTop (mkF m 0 #[(vr a1), (vr a1), .unset] [])) t → Steps p.tables e below (s₁.setTop (entryFrame m #[(.ref a1), (.ref a1)] 3)) t := fun t k => castTop (ef_rmEqS m a1 a1) k
  have hS0 := hS
  obtain ⟨S_wMAX_LOCK_DELAY, E_wMAX_LOCK_DELAY, S_wGRANTED, E_wGRANTED, S_wQUEUED, E_wQUEUED, S_wBUSY, E_wBUSY, F_seconds_wMAX_LOCK_DELAY, F_nanos_wMAX_LOCK_DELAY, S_wZERO, E_wZERO, F_seconds_wZERO, F_nanos_wZERO⟩ := hS0
  obtain ⟨T1, X1, e1, st1⟩ := instY X0 hx hZ hown (ow hw 107 rfl) e0 (Ins.self P0) (g := (mkF m 1 #[(vr a1), (vr a1), .unset] [(.ref a1)])) rfl rfl (hb hby d9_1)
  obtain ⟨T2, X2, e2, st2⟩ := castY X1 hx hZ hown (ow hw 107 rfl) e1 (Ins.self P0) (g := (mkF m 10 #[(vr a1), (vr a1), .unset] [(.ref a1)])) rfl rfl (hb hby d9_10)
  obtain ⟨T3, X3, e3, st3⟩ := getF X2 hx hZ hown (host := "") (Or.inl (ow hw 42 rfl)) Via.refl e2 P1 (g := (mkF m 15 #[(vr a1), (vr a1), (vr a1)] [(.ref a1)])) rfl rfl (hb hby d9_15)
  obtain ⟨T4, X4, e4, st4⟩ := getF X3 hx hZ hown (host := "") (Or.inl (ow hw 42 rfl)) Via.refl e3 P1 (g := (mkF m 19 #[(vr a1), (vr a1), (vr a1)] [(.ref a1), (.long q1)])) rfl rfl (hb hby d9_19)
  obtain ⟨T5, X5, e5, st5⟩ := getF X4 hx hZ hown (host := "") (Or.inl (ow hw 44 rfl)) Via.refl e4 P2 (g := (mkF m 27 #[(vr a1), (vr a1), (vr a1)] [(.ref a1)])) rfl rfl (hb hby d9_27)
  obtain ⟨T6, X6, e6, st6⟩ := getF X5 hx hZ hown (host := "") (Or.inl (ow hw 44 rfl)) Via.refl e5 P2 (g := (mkF m 31 #[(vr a1), (vr a1), (vr a1)] [(.ref a1), (.long q2)])) rfl rfl (hb hby d9_31)
  obtain ⟨fs, hr, hrun, hended, hW, hsame⟩ := X6.leave (v := some (.int 1)) (fun h => by rw [hret0] at h; cases h)
  refine ⟨_, _, pre0 _ ?_, hrun, hended, _, _, rfl, ?_, ⟨_, rfl⟩, hW, hsame.mono (by decide) (by decide)⟩
  · skip
    show Steps p.tables e below (s₁.setTop (mkF m 0 #[(vr a1), (vr a1), .unset] [])) _
    refine XS.aloadN X0.here hx rfl (hb hby d9_0) rfl rfl ?_
    refine st1 _ ?_
    refine XS.ifYes X1.here hx rfl (pc0 := 4) (pc' := 9) rfl (hb hby d9_4) rfl ((if0 _ _).trans (feq (by decide : ¬ ((1 : Int32) = (0 : Int32)))).2) (by decide) (by decide) ?_
    refine XS.aloadN X1.here hx rfl (hb hby d9_9) rfl rfl ?_
    refine st2 _ ?_
    show Steps p.tables e below (T2.setTop (mkF m 13 #[(vr a1), (vr a1), .unset] [(.ref a1)])) _
    refine XS.astoreN X2.here hx rfl (hb hby d9_13) rfl rfl (l' := #[(vr a1), (vr a1), (vr a1)]) rfl ?_
    refine XS.aloadN X2.here hx rfl (hb hby d9_14) rfl rfl ?_
    refine st3 _ ?_
    refine XS.aloadN X3.here hx rfl (hb hby d9_18) rfl rfl ?_
    refine st4 _ ?_
    show Steps p.tables e below (T4.setTop (mkF m 22 #[(vr a1), (vr a1), (vr a1)] [(.long q1), (.long q1)])) _
    refine XS.lcmp X4.here hx rfl (hb hby d9_22) rfl ?_
    refine XS.ifNo X4.here hx rfl (hb hby d9_23) rfl ((if0 _ _).trans (teq (own_lc _ : (lcmpW q1 q1) = (0 : Int32))).2) ?_
    refine XS.aloadN X4.here hx rfl (hb hby d9_26) rfl rfl ?_
    refine st5 _ ?_
    refine XS.aloadN X5.here hx rfl (hb hby d9_30) rfl rfl ?_
    show Steps p.tables e below (T5.setTop (mkF m 31 #[(vr a1), (vr a1), (vr a1)] [(.ref a1), (.long q2)])) _
    refine st6 _ ?_
    refine XS.lcmp X6.here hx rfl (hb hby d9_34) rfl ?_
    refine XS.ifNo X6.here hx rfl (hb hby d9_35) rfl ((if0 _ _).trans (teq (own_lc _ : (lcmpW q2 q2) = (0 : Int32))).2) ?_
    refine XS.iconst X6.here hx rfl (hb hby d9_38) ?_
    refine XS.goto X6.here hx rfl (pc0 := 39) (pc' := 43) rfl (hb hby d9_39) (by decide) (by decide) ?_
    show Steps p.tables e below (T6.setTop (mkF m 43 #[(vr a1), (vr a1), (vr a1)] [(.int 1)])) _
    exact retN X6 hx (t := .boolean) hret0 (by simp) (hb hby d9_43) hr
  · show Q_rmEqS Z wMAX_LOCK_DELAY wGRANTED wQUEUED wBUSY wZERO a1 q1 q2 h0 n0 _ T6.heap _
    rw [e6]
    exact ⟨rfl, N0, rfl⟩
theorem ef_rmEqD (m : MethodId) (x0 : Addr) (x1 : Addr)  : entryFrame m #[(.ref x0), (.ref x1)] 3 = mkF m 0 #[(vr x0), (vr x1), .unset] [] := by first | (simp [entryFrame, mkF, argsToLocals, Value.category]; done) | rfl
theorem d9_42 : decode prog_89_method_6_code 42 = .ok (.iconst 0, 1) := by decide +kernel
def Q_rmEqD (Z : State) (wMAX_LOCK_DELAY : Addr) (wGRANTED : Addr) (wQUEUED : Addr) (wBUSY : Addr) (wZERO : Addr) (a1 : Addr) (a2 : Addr) (q1 : Int64) (q3 : Int64) (h0 : Heap) (n0 : Nat) (v : Option Value) (h : Heap) (L : List Loc) : Prop := v = some (.int 0) ∧ Fr n0 L ∧ h = h0
theorem rmEqD (l : Launch) (Z : State) (a0 : Array Value) (hw : ∀ d ∈ tables_1, d.before a0 Z = true) (ws : List Jvm.Cond) (wMAX_LOCK_DELAY : Addr) (wGRANTED : Addr) (wQUEUED : Addr) (wBUSY : Addr) (wZERO : Addr) (hS : SS Z wMAX_LOCK_DELAY wGRANTED wQUEUED wBUSY wZERO) (a1 : Addr) (a2 : Addr) (q1 : Int64) (q3 : Int64) (h0 : Heap) (n0 : Nat) (O0 : Old Z n0 h0) (P0 : Exa Z h0 a2 s3n) (P1 : Fld Z h0 a1 s3n "session" "J" (.long q1)) (P2 : Fld Z h0 a2 s3n "session" "J" (.long q3)) (P3 : q1 ≠ q3) :
    MetB l M0 prog_89_method_6_code 3 (some .boolean) ws (rmk 0 0 0 0) Z h0 #[(.ref a1), (.ref a2)] (Q_rmEqD Z wMAX_LOCK_DELAY wGRANTED wQUEUED wBUSY wZERO a1 a2 q1 q3 h0 n0) := by
  refine own_body (plainFor_of_name pn_com_example_umpired_umpired_server_SessionHandle) ?_
  intro p e s m below meth c s₁ hx hby hml hown hnm hret0 hlk0 hZ X0 e0
  have N0 := Fr.nil n0
  have pre0 : ∀ t, Steps p.tables e below (s₁.setTop (mkF m 0 #[(vr a1), (vr a2), .unset] [])) t → Steps p.tables e below (s₁.setTop (entryFrame m #[(.ref a1), (.ref a2)] 3)) t := fun t k => castTop (ef_rmEqD m a1 a2) k
  have hS0 := hS
  obtain ⟨S_wMAX_LOCK_DELAY, E_wMAX_LOCK_DELAY, S_wGRANTED, E_wGRANTED, S_wQUEUED, E_wQUEUED, S_wBUSY, E_wBUSY, F_seconds_wMAX_LOCK_DELAY, F_nanos_wMAX_LOCK_DELAY, S_wZERO, E_wZERO, F_seconds_wZERO, F_nanos_wZERO⟩ := hS0
  obtain ⟨T1, X1, e1, st1⟩ := instY X0 hx hZ hown (ow hw 107 rfl) e0 (Ins.self P0) (g := (mkF m 1 #[(vr a1), (vr a2), .unset] [(.ref a2)])) rfl rfl (hb hby d9_1)
  obtain ⟨T2, X2, e2, st2⟩ := castY X1 hx hZ hown (ow hw 107 rfl) e1 (Ins.self P0) (g := (mkF m 10 #[(vr a1), (vr a2), .unset] [(.ref a2)])) rfl rfl (hb hby d9_10)
  obtain ⟨T3, X3, e3, st3⟩ := getF X2 hx hZ hown (host := "") (Or.inl (ow hw 42 rfl)) Via.refl e2 P1 (g := (mkF m 15 #[(vr a1), (vr a2), (vr a2)] [(.ref a1)])) rfl rfl (hb hby d9_15)
  obtain ⟨T4, X4, e4, st4⟩ := getF X3 hx hZ hown (host := "") (Or.inl (ow hw 42 rfl)) Via.refl e3 P2 (g := (mkF m 19 #[(vr a1), (vr a2), (vr a2)] [(.ref a2), (.long q1)])) rfl rfl (hb hby d9_19)
  obtain ⟨fs, hr, hrun, hended, hW, hsame⟩ := X4.leave (v := some (.int 0)) (fun h => by rw [hret0] at h; cases h)
  refine ⟨_, _, pre0 _ ?_, hrun, hended, _, _, rfl, ?_, ⟨_, rfl⟩, hW, hsame.mono (by decide) (by decide)⟩
  · skip
    show Steps p.tables e below (s₁.setTop (mkF m 0 #[(vr a1), (vr a2), .unset] [])) _
    refine XS.aloadN X0.here hx rfl (hb hby d9_0) rfl rfl ?_
    refine st1 _ ?_
    refine XS.ifYes X1.here hx rfl (pc0 := 4) (pc' := 9) rfl (hb hby d9_4) rfl ((if0 _ _).trans (feq (by decide : ¬ ((1 : Int32) = (0 : Int32)))).2) (by decide) (by decide) ?_
    refine XS.aloadN X1.here hx rfl (hb hby d9_9) rfl rfl ?_
    refine st2 _ ?_
    show Steps p.tables e below (T2.setTop (mkF m 13 #[(vr a1), (vr a2), .unset] [(.ref a2)])) _
    refine XS.astoreN X2.here hx rfl (hb hby d9_13) rfl rfl (l' := #[(vr a1), (vr a2), (vr a2)]) rfl ?_
    refine XS.aloadN X2.here hx rfl (hb hby d9_14) rfl rfl ?_
    refine st3 _ ?_
    refine XS.aloadN X3.here hx rfl (hb hby d9_18) rfl rfl ?_
    refine st4 _ ?_
    show Steps p.tables e below (T4.setTop (mkF m 22 #[(vr a1), (vr a2), (vr a2)] [(.long q3), (.long q1)])) _
    refine XS.lcmp X4.here hx rfl (hb hby d9_22) rfl ?_
    refine XS.ifYes X4.here hx rfl (pc0 := 23) (pc' := 42) rfl (hb hby d9_23) rfl ((if0 _ _).trans (feq (fun z => P3 ((lw_eq _ _).mp z) : ¬ ((lcmpW q1 q3) = (0 : Int32)))).2) (by decide) (by decide) ?_
    refine XS.iconst X4.here hx rfl (hb hby d9_42) ?_
    exact retN X4 hx (t := .boolean) hret0 (by simp) (hb hby d9_43) hr
  · show Q_rmEqD Z wMAX_LOCK_DELAY wGRANTED wQUEUED wBUSY wZERO a1 a2 q1 q3 h0 n0 _ T4.heap _
    rw [e4]
    exact ⟨rfl, N0, rfl⟩
theorem ef_rmHeldN (m : MethodId) (x0 : Addr) (x1 : Int64)  : entryFrame m #[(.ref x0), (.long x1)] 3 = mkF m 0 #[(vr x0), (vl x1), .second] [] := by first | (simp [entryFrame, mkF, argsToLocals, Value.category]; done) | rfl
theorem pn_com_example_umpired_umpired_server_NodeLock : plainName "com/example/umpired/umpired/server/NodeLock" = true := by first | (simp [plainName, overriddenIn]; done) | decide +kernel
theorem d6_0 : decode prog_84_method_8_code 0 = .ok (.aload_n 0, 1) := by decide +kernel
theorem d6_1 : decode prog_84_method_8_code 1 = .ok (.getfield 29, 3) := by decide +kernel
theorem d6_4 : decode prog_84_method_8_code 4 = .ok (.ifnull 16, 3) := by decide +kernel
theorem d6_20 : decode prog_84_method_8_code 20 = .ok (.iconst 0, 1) := by decide +kernel
theorem d6_21 : decode prog_84_method_8_code 21 = .ok (.ireturn, 1) := by decide +kernel
def Q_rmHeldN (Z : State) (wMAX_LOCK_DELAY : Addr) (wGRANTED : Addr) (wQUEUED : Addr) (wBUSY : Addr) (wZERO : Addr) (a1 : Addr) (q2 : Int64) (h0 : Heap) (n0 : Nat) (v : Option Value) (h : Heap) (L : List Loc) : Prop := v = some (.int 0) ∧ Fr n0 L ∧ h = h0
theorem rmHeldN (l : Launch) (Z : State) (a0 : Array Value) (hw : ∀ d ∈ tables_1, d.before a0 Z = true) (ws : List Jvm.Cond) (wMAX_LOCK_DELAY : Addr) (wGRANTED : Addr) (wQUEUED : Addr) (wBUSY : Addr) (wZERO : Addr) (hS : SS Z wMAX_LOCK_DELAY wGRANTED wQUEUED wBUSY wZERO) (a1 : Addr) (q2 : Int64) (h0 : Heap) (n0 : Nat) (O0 : Old Z n0 h0) (P0 : Fld Z h0 a1 s4n "holder" s5n .null) :
    MetB l M1 prog_84_method_8_code 3 (some .boolean) ws (rmk 0 0 0 0) Z h0 #[(.ref a1), (.long q2)] (Q_rmHeldN Z wMAX_LOCK_DELAY wGRANTED wQUEUED wBUSY wZERO a1 q2 h0 n0) := by
  refine own_body (plainFor_of_name pn_com_example_umpired_umpired_server_NodeLock) ?_
  intro p e s m below meth c s₁ hx hby hml hown hnm hret0 hlk0 hZ X0 e0
  have N0 := Fr.nil n0
  have pre0 : ∀ t, Steps p.tables e below (s₁.setTop (mkF m 0 #[(vr a1), (vl q2), .second] [])) t → Steps p.tables e below (s₁.setTop (entryFrame m #[(.ref a1), (.long q2)] 3)) t := fun t k => castTop (ef_rmHeldN m a1 q2) k
  have hS0 := hS
  obtain ⟨S_wMAX_LOCK_DELAY, E_wMAX_LOCK_DELAY, S_wGRANTED, E_wGRANTED, S_wQUEUED, E_wQUEUED, S_wBUSY, E_wBUSY, F_seconds_wMAX_LOCK_DELAY, F_nanos_wMAX_LOCK_DELAY, S_wZERO, E_wZERO, F_seconds_wZERO, F_nanos_wZERO⟩ := hS0
  obtain ⟨T1, X1, e1, st1⟩ := getF X0 hx hZ hown (host := "") (Or.inl (ow hw 51 rfl)) Via.refl e0 P0 (g := (mkF m 1 #[(vr a1), (vl q2), .second] [(.ref a1)])) rfl rfl (hb hby d6_1)
  obtain ⟨fs, hr, hrun, hended, hW, hsame⟩ := X1.leave (v := some (.int 0)) (fun h => by rw [hret0] at h; cases h)
  refine ⟨_, _, pre0 _ ?_, hrun, hended, _, _, rfl, ?_, ⟨_, rfl⟩, hW, hsame.mono (by decide) (by decide)⟩
  · skip
    show Steps p.tables e below (s₁.setTop (mkF m 0 #[(vr a1), (vl q2), .second] [])) _
    refine XS.aloadN X0.here hx rfl (hb hby d6_0) rfl rfl ?_
    refine st1 _ ?_
    refine XS.ifnullYes X1.here hx rfl (pc0 := 4) (pc' := 20) rfl (hb hby d6_4) rfl (by decide) (by decide) ?_
    refine XS.iconst X1.here hx rfl (hb hby d6_20) ?_
    exact retN X1 hx (t := .boolean) hret0 (by simp) (hb hby d6_21) hr
  · show Q_rmHeldN Z wMAX_LOCK_DELAY wGRANTED wQUEUED wBUSY wZERO a1 q2 h0 n0 _ T1.heap _
    rw [e1]
    exact ⟨rfl, N0, rfl⟩
theorem ef_rmHeld (m : MethodId) (x0 : Addr) (x1 : Int64)  : entryFrame m #[(.ref x0), (.long x1)] 3 = mkF m 0 #[(vr x0), (vl x1), .second] [] := by first | (simp [entryFrame, mkF, argsToLocals, Value.category]; done) | rfl
theorem d6_7 : decode prog_84_method_8_code 7 = .ok (.aload_n 0, 1) := by decide +kernel
theorem d6_8 : decode prog_84_method_8_code 8 = .ok (.getfield 25, 3) := by decide +kernel
theorem d6_11 : decode prog_84_method_8_code 11 = .ok (.lload_n 1, 1) := by decide +kernel
theorem d6_12 : decode prog_84_method_8_code 12 = .ok (.lcmp, 1) := by decide +kernel
theorem d6_13 : decode prog_84_method_8_code 13 = .ok (.ifCond .ne 7, 3) := by decide +kernel
theorem d6_16 : decode prog_84_method_8_code 16 = .ok (.iconst 1, 1) := by decide +kernel
theorem d6_17 : decode prog_84_method_8_code 17 = .ok (.goto 4, 3) := by decide +kernel
def Q_rmHeld (Z : State) (wMAX_LOCK_DELAY : Addr) (wGRANTED : Addr) (wQUEUED : Addr) (wBUSY : Addr) (wZERO : Addr) (a1 : Addr) (a2 : Addr) (q1 : Int64) (q2 : Int64) (h0 : Heap) (n0 : Nat) (v : Option Value) (h : Heap) (L : List Loc) : Prop := ∃ (r : Int32), v = some (.int r) ∧ Fr n0 L ∧ h = h0 ∧ r = (if (lcmpW q1 q2) = (0 : Int32) then (1 : Int32) else (0 : Int32))
theorem rmHeld (l : Launch) (Z : State) (a0 : Array Value) (hw : ∀ d ∈ tables_1, d.before a0 Z = true) (ws : List Jvm.Cond) (wMAX_LOCK_DELAY : Addr) (wGRANTED : Addr) (wQUEUED : Addr) (wBUSY : Addr) (wZERO : Addr) (hS : SS Z wMAX_LOCK_DELAY wGRANTED wQUEUED wBUSY wZERO) (a1 : Addr) (a2 : Addr) (q1 : Int64) (q2 : Int64) (h0 : Heap) (n0 : Nat) (O0 : Old Z n0 h0) (P0 : Fld Z h0 a1 s4n "holder" s5n (.ref a2)) (P1 : Fld Z h0 a1 s4n "generation" "J" (.long q1)) :
    MetB l M1 prog_84_method_8_code 3 (some .boolean) ws (rmk 0 0 0 0) Z h0 #[(.ref a1), (.long q2)] (Q_rmHeld Z wMAX_LOCK_DELAY wGRANTED wQUEUED wBUSY wZERO a1 a2 q1 q2 h0 n0) := by
  refine own_body (plainFor_of_name pn_com_example_umpired_umpired_server_NodeLock) ?_
  intro p e s m below meth c s₁ hx hby hml hown hnm hret0 hlk0 hZ X0 e0
  have N0 := Fr.nil n0
  have pre0 : ∀ t, Steps p.tables e below (s₁.setTop (mkF m 0 #[(vr a1), (vl q2), .second] [])) t → Steps p.tables e below (s₁.setTop (entryFrame m #[(.ref a1), (.long q2)] 3)) t := fun t k => castTop (ef_rmHeld m a1 q2) k
  have hS0 := hS
  obtain ⟨S_wMAX_LOCK_DELAY, E_wMAX_LOCK_DELAY, S_wGRANTED, E_wGRANTED, S_wQUEUED, E_wQUEUED, S_wBUSY, E_wBUSY, F_seconds_wMAX_LOCK_DELAY, F_nanos_wMAX_LOCK_DELAY, S_wZERO, E_wZERO, F_seconds_wZERO, F_nanos_wZERO⟩ := hS0
  obtain ⟨T1, X1, e1, st1⟩ := getF X0 hx hZ hown (host := "") (Or.inl (ow hw 51 rfl)) Via.refl e0 P0 (g := (mkF m 1 #[(vr a1), (vl q2), .second] [(.ref a1)])) rfl rfl (hb hby d6_1)
  obtain ⟨T2, X2, e2, st2⟩ := getF X1 hx hZ hown (host := "") (Or.inl (ow hw 74 rfl)) Via.refl e1 P1 (g := (mkF m 8 #[(vr a1), (vl q2), .second] [(.ref a1)])) rfl rfl (hb hby d6_8)
  have pre3 : ∀ t, Steps p.tables e below (T2.setTop (mkF m 13 #[(vr a1), (vl q2), .second] [(.int (lcmpW q1 q2))])) t → Steps p.tables e below (s₁.setTop (entryFrame m #[(.ref a1), (.long q2)] 3)) t := by
    intro t k
    refine pre0 t ?_
    show Steps p.tables e below (s₁.setTop (mkF m 0 #[(vr a1), (vl q2), .second] [])) _
    refine XS.aloadN X0.here hx rfl (hb hby d6_0) rfl rfl ?_
    refine st1 _ ?_
    refine XS.ifnullNo X1.here hx rfl (hb hby d6_4) rfl ?_
    refine XS.aloadN X1.here hx rfl (hb hby d6_7) rfl rfl ?_
    refine st2 _ ?_
    show Steps p.tables e below (T2.setTop (mkF m 11 #[(vr a1), (vl q2), .second] [(.long q1)])) _
    refine XS.lloadN X2.here hx rfl (hb hby d6_11) rfl ?_
    refine XS.lcmp X2.here hx rfl (hb hby d6_12) rfl ?_
    exact k
  rcases Decidable.em ((lcmpW q1 q2) = (0 : Int32)) with hc4 | hc4
  · skip
    obtain ⟨fs, hr, hrun, hended, hW, hsame⟩ := X2.leave (v := some (.int 1)) (fun h => by rw [hret0] at h; cases h)
    refine ⟨_, _, pre3 _ ?_, hrun, hended, _, _, rfl, ?_, ⟨_, rfl⟩, hW, hsame.mono (by decide) (by decide)⟩
    · skip
      refine XS.ifNo X2.here hx rfl (hb hby d6_13) rfl ((if0 _ _).trans (teq hc4).2) ?_
      refine XS.iconst X2.here hx rfl (hb hby d6_16) ?_
      refine XS.goto X2.here hx rfl (pc0 := 17) (pc' := 21) rfl (hb hby d6_17) (by decide) (by decide) ?_
      show Steps p.tables e below (T2.setTop (mkF m 21 #[(vr a1), (vl q2), .second] [(.int 1)])) _
      exact retN X2 hx (t := .boolean) hret0 (by simp) (hb hby d6_21) hr
    · show Q_rmHeld Z wMAX_LOCK_DELAY wGRANTED wQUEUED wBUSY wZERO a1 a2 q1 q2 h0 n0 _ T2.heap _
      rw [e2]
      exact ⟨(1 : Int32), rfl, N0, rfl, (by simp [hc4])⟩
  · skip
    obtain ⟨fs, hr, hrun, hended, hW, hsame⟩ := X2.leave (v := some (.int 0)) (fun h => by rw [hret0] at h; cases h)
    refine ⟨_, _, pre3 _ ?_, hrun, hended, _, _, rfl, ?_, ⟨_, rfl⟩, hW, hsame.mono (by decide) (by decide)⟩
    · skip
      refine XS.ifYes X2.here hx rfl (pc0 := 13) (pc' := 20) rfl (hb hby d6_13) rfl ((if0 _ _).trans (feq hc4).2) (by decide) (by decide) ?_
      refine XS.iconst X2.here hx rfl (hb hby d6_20) ?_
      exact retN X2 hx (t := .boolean) hret0 (by simp) (hb hby d6_21) hr
    · show Q_rmHeld Z wMAX_LOCK_DELAY wGRANTED wQUEUED wBUSY wZERO a1 a2 q1 q2 h0 n0 _ T2.heap _
      rw [e2]
      exact ⟨(0 : Int32), rfl, N0, rfl, (by simp [hc4])⟩
theorem own_sym (a b : Int64) : (if (lcmpW a b) = (0 : Int32) then (1 : Int32) else (0 : Int32)) = (if (lcmpW b a) = (0 : Int32) then (1 : Int32) else (0 : Int32)) := by
  have e1 : (lcmpW a b = (0 : Int32)) = (lcmpW b a = (0 : Int32)) := propext (by rw [lw_eq, lw_eq]; exact eq_comm)
  simp only [e1]
theorem own_xor1 (x : Int64) : x ≠ x ^^^ (1 : Int64) := fun h => by
  have q := congrArg Int64.toBitVec h
  have e : (x ^^^ (1 : Int64)).toBitVec = x.toBitVec ^^^ 1#64 := rfl
  rw [e] at q
  have := congrArg (fun b => b.getLsbD 0) q
  simp at this
theorem ef_rm0 (m : MethodId) (x0 : Int32) (x1 : Int32) (x2 : Int64) (x3 : Int64) (x4 : Int64) (x5 : Int64)  : entryFrame m #[(.int x0), (.int x1), (.long x2), (.long x3), (.long x4), (.long x5)] maxLocals = mkF m 0 #[(vi x0), (vi x1), (vl x2), .second, (vl x3), .second, (vl x4), .second, (vl x5), .second, .unset, .unset, .unset, .unset, .unset, .unset, .unset, .unset, .unset, .unset, .unset, .unset] [] := by first | (simp [entryFrame, mkF, argsToLocals, Value.category, maxLocals]; done) | rfl
theorem pn_com_example_umpired_umpired_server_NodeLockIsHeldAtPinLaw : plainName "com/example/umpired/umpired/server/NodeLockIsHeldAtPinLaw" = true := by first | (simp [plainName, overriddenIn]; done) | decide +kernel
theorem ef_au1_0 (m : MethodId) (x0 : Addr)  : entryFrame m #[(.ref x0)] 1 = mkF m 0 #[(vr x0)] [] := by first | (simp [entryFrame, mkF, argsToLocals, Value.category]; done) | rfl
theorem d1_0 : decode prog_84_method_1_code 0 = .ok (.aload_n 0, 1) := by decide +kernel
theorem d1_1 : decode prog_84_method_1_code 1 = .ok (.invokespecial 1, 3) := by decide +kernel
theorem d1_4 : decode prog_84_method_1_code 4 = .ok (.aload_n 0, 1) := by decide +kernel
theorem d1_5 : decode prog_84_method_1_code 5 = .ok (.new 7, 3) := by decide +kernel
theorem d1_8 : decode prog_84_method_1_code 8 = .ok (.dup, 1) := by decide +kernel
theorem d1_9 : decode prog_84_method_1_code 9 = .ok (.invokespecial 9, 3) := by decide +kernel
theorem ef_au3_0 (m : MethodId) (x0 : Addr)  : entryFrame m #[(.ref x0)] 1 = mkF m 0 #[(vr x0)] [] := by first | (simp [entryFrame, mkF, argsToLocals, Value.category]; done) | rfl
theorem pn_java_util_ArrayDeque : plainName "java/util/ArrayDeque" = true := by first | (simp [plainName, overriddenIn]; done) | decide +kernel
theorem d3_0 : decode jdk_21_method_3_code 0 = .ok (.aload_n 0, 1) := by decide +kernel
theorem d3_1 : decode jdk_21_method_3_code 1 = .ok (.invokespecial 42, 3) := by decide +kernel
theorem ef_au4_0 (m : MethodId) (x0 : Addr)  : entryFrame m #[(.ref x0)] 1 = mkF m 0 #[(vr x0)] [] := by first | (simp [entryFrame, mkF, argsToLocals, Value.category]; done) | rfl
theorem pn_java_util_AbstractCollection : plainName "java/util/AbstractCollection" = true := by first | (simp [plainName, overriddenIn]; done) | decide +kernel
theorem d4_0 : decode jdk_22_method_1_code 0 = .ok (.aload_n 0, 1) := by decide +kernel
theorem d4_1 : decode jdk_22_method_1_code 1 = .ok (.invokespecial 1, 3) := by decide +kernel
theorem d4_4 : decode jdk_22_method_1_code 4 = .ok (.return_, 1) := by decide +kernel
def Q_au4_0 (Z : State) (wMAX_LOCK_DELAY : Addr) (wGRANTED : Addr) (wQUEUED : Addr) (wBUSY : Addr) (wZERO : Addr) (a1 : Addr) (h0 : Heap) (n0 : Nat) (v : Option Value) (h : Heap) (L : List Loc) : Prop := v = none ∧ Fr n0 L ∧ h = h0
theorem au4_0 (l : Launch) (Z : State) (a0 : Array Value) (hw : ∀ d ∈ tables_1, d.before a0 Z = true) (ws : List Jvm.Cond) (wMAX_LOCK_DELAY : Addr) (wGRANTED : Addr) (wQUEUED : Addr) (wBUSY : Addr) (wZERO : Addr) (hS : SS Z wMAX_LOCK_DELAY wGRANTED wQUEUED wBUSY wZERO) (a1 : Addr) (h0 : Heap) (n0 : Nat) (O0 : Old Z n0 h0)  :
    MetB l M2 jdk_22_method_1_code 1 none ws (rmk 1 0 0 12) Z h0 #[(.ref a1)] (Q_au4_0 Z wMAX_LOCK_DELAY wGRANTED wQUEUED wBUSY wZERO a1 h0 n0) := by
  refine own_body (plainFor_of_name pn_java_util_AbstractCollection) ?_
  intro p e s m below meth c s₁ hx hby hml hown hnm hret0 hlk0 hZ X0 e0
  have N0 := Fr.nil n0
  have pre0 : ∀ t, Steps p.tables e below (s₁.setTop (mkF m 0 #[(vr a1)] [])) t → Steps p.tables e below (s₁.setTop (entryFrame m #[(.ref a1)] 1)) t := fun t k => castTop (ef_au4_0 m a1) k
  have hS0 := hS
  obtain ⟨S_wMAX_LOCK_DELAY, E_wMAX_LOCK_DELAY, S_wGRANTED, E_wGRANTED, S_wQUEUED, E_wQUEUED, S_wBUSY, E_wBUSY, F_seconds_wMAX_LOCK_DELAY, F_nanos_wMAX_LOCK_DELAY, S_wZERO, E_wZERO, F_seconds_wZERO, F_nanos_wZERO⟩ := hS0
  obtain ⟨T1, X1, e1, st1⟩ := initO X0 hx hZ hown (ow hw 21 rfl) (ow hw 7 rfl) (ow hw 8 rfl) e0 (g := (mkF m 1 #[(vr a1)] [(.ref a1)])) rfl (by rw [hml]; rfl) rfl (hb hby d4_1) (by decide) (W := 0) (by show 2 * 0 + _ ≤ _; exact Nat.le_of_eq rfl) (by decide)
  obtain ⟨fs, hr, hrun, hended, hW, hsame⟩ := X1.leave (v := none) (fun _ => rfl)
  refine ⟨_, _, pre0 _ ?_, hrun, hended, _, _, rfl, ?_, ⟨_, rfl⟩, hW, hsame.mono (by decide) (by decide)⟩
  · skip
    show Steps p.tables e below (s₁.setTop (mkF m 0 #[(vr a1)] [])) _
    refine XS.aloadN X0.here hx rfl (hb hby d4_0) rfl rfl ?_
    refine st1 _ ?_
    exact X1.returnOut hx hret0 (hb hby d4_4) hr
  · show Q_au4_0 Z wMAX_LOCK_DELAY wGRANTED wQUEUED wBUSY wZERO a1 h0 n0 _ T1.heap _
    rw [e1]
    exact ⟨rfl, N0, rfl⟩
theorem pd_0 : parseMethodDescriptor "()V" = some ⟨[], none⟩ := by decide +kernel
theorem d3_4 : decode jdk_21_method_3_code 4 = .ok (.aload_n 0, 1) := by decide +kernel
theorem d3_5 : decode jdk_21_method_3_code 5 = .ok (.bipush 17, 2) := by decide +kernel
theorem d3_7 : decode jdk_21_method_3_code 7 = .ok (.anewarray 47, 3) := by decide +kernel
theorem d3_10 : decode jdk_21_method_3_code 10 = .ok (.putfield 3, 3) := by decide +kernel
theorem d3_13 : decode jdk_21_method_3_code 13 = .ok (.return_, 1) := by decide +kernel
def Q_au3_0 (Z : State) (wMAX_LOCK_DELAY : Addr) (wGRANTED : Addr) (wQUEUED : Addr) (wBUSY : Addr) (wZERO : Addr) (a1 : Addr) (h0 : Heap) (n0 : Nat) (v : Option Value) (h : Heap) (L : List Loc) : Prop := ∃ (e1 : Addr) (e2 : ClassId), v = none ∧ Fr n0 L ∧ Keep h0 h [a1] ∧ Exa Z h a1 s7n ∧ Fld Z h a1 s7n "elements" s8n (.ref e1) ∧ Fld Z h a1 s7n "head" "I" (.int 0) ∧ Fld Z h a1 s7n "tail" "I" (.int 0) ∧ h0.size ≤ e1 ∧ Exa Z h e1 s8n ∧ Arv Z h e1 e2 (.object s9n) (17 : Int32) ([.null, .null, .null, .null, .null, .null, .null, .null, .null, .null, .null, .null, .null, .null, .null, .null, .null]) .null ∧ Ovr Z e2 s9n
theorem au3_0 (l : Launch) (Z : State) (a0 : Array Value) (hw : ∀ d ∈ tables_1, d.before a0 Z = true) (ws : List Jvm.Cond) (wMAX_LOCK_DELAY : Addr) (wGRANTED : Addr) (wQUEUED : Addr) (wBUSY : Addr) (wZERO : Addr) (hS : SS Z wMAX_LOCK_DELAY wGRANTED wQUEUED wBUSY wZERO) (a1 : Addr) (h0 : Heap) (n0 : Nat) (O0 : Old Z n0 h0) (P0 : Exa Z h0 a1 s7n) (P1 : Fld Z h0 a1 s7n "elements" s8n .null) (P2 : Fld Z h0 a1 s7n "head" "I" (.int 0)) (P3 : Fld Z h0 a1 s7n "tail" "I" (.int 0)) (P4 : n0 ≤ a1) :
    MetB l M3 jdk_21_method_3_code 1 none ws (rmk 2 1 17 24) Z h0 #[(.ref a1)] (Q_au3_0 Z wMAX_LOCK_DELAY wGRANTED wQUEUED wBUSY wZERO a1 h0 n0) := by
  refine own_body (plainFor_of_name pn_java_util_ArrayDeque) ?_
  intro p e s m below meth c s₁ hx hby hml hown hnm hret0 hlk0 hZ X0 e0
  have N0 := Fr.nil n0
  have pre0 : ∀ t, Steps p.tables e below (s₁.setTop (mkF m 0 #[(vr a1)] [])) t → Steps p.tables e below (s₁.setTop (entryFrame m #[(.ref a1)] 1)) t := fun t k => castTop (ef_au3_0 m a1) k
  have K0 := Keep.refl h0 [a1]
  have hS0 := hS
  obtain ⟨S_wMAX_LOCK_DELAY, E_wMAX_LOCK_DELAY, S_wGRANTED, E_wGRANTED, S_wQUEUED, E_wQUEUED, S_wBUSY, E_wBUSY, F_seconds_wMAX_LOCK_DELAY, F_nanos_wMAX_LOCK_DELAY, S_wZERO, E_wZERO, F_seconds_wZERO, F_nanos_wZERO⟩ := hS0
  obtain ⟨_, _, ⟨T1, L1, k1, n1⟩, -, X1, ⟨Lc1, hQ1, l1, y1, z1⟩, st1⟩ := X0.specialBack hx (y := M2) rfl hown (mvT hZ (ow hw 15 rfl)) (mvT hZ (ow hw 16 rfl)) (mvT hZ (ow hw 20 rfl)) (by decide) (backOf (W := 0) (au4_0 l Z a0 hw [] wMAX_LOCK_DELAY wGRANTED wQUEUED wBUSY wZERO hS a1 h0 n0 O0 ) hZ (ow hw 20 rfl) (ow hw 19 rfl) (by decide) (by decide)) (g := (mkF m 1 #[(vr a1)] [(.ref a1)])) rfl (by rw [hml]; rfl) (Steps.refl _) (a := a1) (argsL := []) (rest := []) (lenOf pd_0 rfl) rfl (by show 2 * 0 + _ ≤ _; exact Nat.le_of_eq rfl) (hb hby d3_1) (fun _ _ => ⟨rfl, e0, (by decide : 0 + 0 ≤ _), (by decide : 0 + 0 ≤ _)⟩)
  dsimp only [Pt.U, Pt.locs, Pt.cells, Pt.slots] at X1 l1 y1 z1 st1 hQ1
  subst l1 y1 z1
  obtain ⟨rfl, Nq1, K1q⟩ := hQ1
  have N1 := Fr.app N0 Nq1
  obtain ⟨T2, h2, k2, X2, e2, E2, A2, Z2, O2, st2⟩ := newRE X1 hx hZ hown (ow hw 22 rfl) (ow hw 23 rfl) K1q (g := (mkF m 7 #[(vr a1)] [(.int 17), (.ref a1)])) rfl (hb hby d3_7) rfl (by decide) (cap := 17) (by decide) (by decide) (by decide) (by decide) (ad := s8n) rfl
  obtain ⟨b2, g2⟩ : ∃ z, z = h0.size := ⟨_, rfl⟩
  rw [← g2] at A2 Z2 st2
  have ne3 : a1 ≠ b2 := Nat.ne_of_lt (Nat.lt_of_lt_of_le P0.lt (Nat.le_of_eq g2.symm))
  have g4 : n0 ≤ b2 := Nat.le_trans (own_sz O0) (Nat.le_of_eq g2.symm)
  have sz5 : h0.size ≤ b2 := Nat.le_trans K0.1 (Nat.le_of_eq g2.symm)
  have O6 : Old Z n0 h2 := O0.ext E2
  have K6 : Keep h0 h2 [a1] := K0.ext E2
  have V2 : Arv Z h2 b2 k2 (.object s9n) (17 : Int32) ([.null, .null, .null, .null, .null, .null, .null, .null, .null, .null, .null, .null, .null, .null, .null, .null, .null]) .null := (Arv.new A2 (by decide)).pad (pad_rep [] .null 17)
  have f7 : Exa Z h2 a1 s7n := (P0.ext E2)
  have f8 : Fld Z h2 a1 s7n "elements" s8n .null := (P1.ext E2)
  obtain ⟨T9, h9, X9, e9, W9, st9⟩ := putF X2 hx hZ hown (host := "") (Or.inl (ow hw 24 rfl)) Via.refl e2 f8 f7 (Or.inl (ow hw 25 rfl)) (ow hw 10 rfl) (ty := (.array (.object s9n))) (by decide) rfl rfl (g := (mkF m 10 #[(vr a1)] [(.ref b2), (.ref a1)])) rfl rfl (hb hby d3_10)
  have N9 := Fr.snoc X9 N1 P4
  have O10 : Old Z n0 h9 := O6.wr W9 P4
  have K10 : Keep h0 h9 [a1] := K6.wr W9 (Or.inl (List.mem_of_getElem? (i := 0) rfl))
  have Fw9 : Fld Z h9 a1 s7n "elements" s8n (.ref b2) := f8.same W9
  have f11 : Exa Z h9 a1 s7n := (f7.wr W9)
  have f12 : Fld Z h9 a1 s7n "head" "I" (.int 0) := ((P2.ext E2).other W9 (Or.inr (slot_ne (Or.inl (ow hw 103 rfl)) (Or.inl (ow hw 25 rfl)) (by decide) (t := .int) (t' := (.array (.object s9n))) (by decide) (by decide))))
  have f13 : Fld Z h9 a1 s7n "tail" "I" (.int 0) := ((P3.ext E2).other W9 (Or.inr (slot_ne (Or.inl (ow hw 137 rfl)) (Or.inl (ow hw 25 rfl)) (by decide) (t := .int) (t' := (.array (.object s9n))) (by decide) (by decide))))
  have f14 : Exa Z h9 b2 s8n := (Z2.wr W9)
  have f15 : Arv Z h9 b2 k2 (.object s9n) (17 : Int32) ([.null, .null, .null, .null, .null, .null, .null, .null, .null, .null, .null, .null, .null, .null, .null, .null, .null]) .null := (V2.other W9 (Ne.symm ne3))
  obtain ⟨fs, hr, hrun, hended, hW, hsame⟩ := X9.leave (v := none) (fun _ => rfl)
  refine ⟨_, _, pre0 _ ?_, hrun, hended, _, _, rfl, ?_, ⟨_, rfl⟩, hW, hsame.mono (by decide) (by decide)⟩
  · skip
    show Steps p.tables e below (s₁.setTop (mkF m 0 #[(vr a1)] [])) _
    refine XS.aloadN X0.here hx rfl (hb hby d3_0) rfl rfl ?_
    refine st1.trans ?_
    refine XS.aloadN X1.here hx rfl (hb hby d3_4) rfl rfl ?_
    refine XS.bipush X1.here hx rfl (hb hby d3_5) ?_
    refine st2 _ ?_
    show Steps p.tables e below (T2.setTop (mkF m 10 #[(vr a1)] [(.ref b2), (.ref a1)])) _
    refine st9 _ ?_
    exact X9.returnOut hx hret0 (hb hby d3_13) hr
  · show Q_au3_0 Z wMAX_LOCK_DELAY wGRANTED wQUEUED wBUSY wZERO a1 h0 n0 _ T9.heap _
    rw [e9]
    exact ⟨b2, k2, rfl, N9, K10, f11, Fw9, f12, f13, sz5, f14, f15, O2⟩
theorem d1_12 : decode prog_84_method_1_code 12 = .ok (.putfield 10, 3) := by decide +kernel
theorem d1_15 : decode prog_84_method_1_code 15 = .ok (.aload_n 0, 1) := by decide +kernel
theorem d1_16 : decode prog_84_method_1_code 16 = .ok (.getstatic 16, 3) := by decide +kernel
theorem d1_19 : decode prog_84_method_1_code 19 = .ok (.putfield 22, 3) := by decide +kernel
theorem d1_22 : decode prog_84_method_1_code 22 = .ok (.return_, 1) := by decide +kernel
def Q_au1_0 (Z : State) (wMAX_LOCK_DELAY : Addr) (wGRANTED : Addr) (wQUEUED : Addr) (wBUSY : Addr) (wZERO : Addr) (a1 : Addr) (qg2 : Int64) (h0 : Heap) (n0 : Nat) (v : Option Value) (h : Heap) (L : List Loc) : Prop := ∃ (e1 : Addr) (e2 : Addr) (e3 : ClassId), v = none ∧ Fr n0 L ∧ Keep h0 h [a1] ∧ Exa Z h a1 s4n ∧ Fld Z h a1 s4n "generation" "J" (.long qg2) ∧ Fld Z h a1 s4n "heldBack" "Z" (.int 0) ∧ Fld Z h a1 s4n "holder" s5n .null ∧ Fld Z h a1 s4n s10n s0n (.ref wZERO) ∧ Fld Z h a1 s4n "waiters" s11n (.ref e1) ∧ h0.size ≤ e1 ∧ Exa Z h e1 s7n ∧ Fld Z h e1 s7n "elements" s8n (.ref e2) ∧ Fld Z h e1 s7n "head" "I" (.int 0) ∧ Fld Z h e1 s7n "tail" "I" (.int 0) ∧ h0.size ≤ e2 ∧ Exa Z h e2 s8n ∧ Arv Z h e2 e3 (.object s9n) (17 : Int32) ([.null, .null, .null, .null, .null, .null, .null, .null, .null, .null, .null, .null, .null, .null, .null, .null, .null]) .null ∧ Ovr Z e3 s9n
theorem au1_0 (l : Launch) (Z : State) (a0 : Array Value) (hw : ∀ d ∈ tables_1, d.before a0 Z = true) (ws : List Jvm.Cond) (wMAX_LOCK_DELAY : Addr) (wGRANTED : Addr) (wQUEUED : Addr) (wBUSY : Addr) (wZERO : Addr) (hS : SS Z wMAX_LOCK_DELAY wGRANTED wQUEUED wBUSY wZERO) (a1 : Addr) (qg2 : Int64) (h0 : Heap) (n0 : Nat) (O0 : Old Z n0 h0) (P0 : Exa Z h0 a1 s4n) (P1 : Fld Z h0 a1 s4n "generation" "J" (.long qg2)) (P2 : Fld Z h0 a1 s4n "heldBack" "Z" (.int 0)) (P3 : Fld Z h0 a1 s4n "holder" s5n .null) (P4 : Fld Z h0 a1 s4n s10n s0n .null) (P5 : Fld Z h0 a1 s4n "waiters" s11n .null) (P6 : n0 ≤ a1) :
    MetB l M4 prog_84_method_1_code 1 none ws (rmk 3 2 20 38) Z h0 #[(.ref a1)] (Q_au1_0 Z wMAX_LOCK_DELAY wGRANTED wQUEUED wBUSY wZERO a1 qg2 h0 n0) := by
  refine own_body (plainFor_of_name pn_com_example_umpired_umpired_server_NodeLock) ?_
  intro p e s m below meth c s₁ hx hby hml hown hnm hret0 hlk0 hZ X0 e0
  have N0 := Fr.nil n0
  have pre0 : ∀ t, Steps p.tables e below (s₁.setTop (mkF m 0 #[(vr a1)] [])) t → Steps p.tables e below (s₁.setTop (entryFrame m #[(.ref a1)] 1)) t := fun t k => castTop (ef_au1_0 m a1) k
  have K0 := Keep.refl h0 [a1]
  have hS0 := hS
  obtain ⟨S_wMAX_LOCK_DELAY, E_wMAX_LOCK_DELAY, S_wGRANTED, E_wGRANTED, S_wQUEUED, E_wQUEUED, S_wBUSY, E_wBUSY, F_seconds_wMAX_LOCK_DELAY, F_nanos_wMAX_LOCK_DELAY, S_wZERO, E_wZERO, F_seconds_wZERO, F_nanos_wZERO⟩ := hS0
  obtain ⟨T1, X1, e1, st1⟩ := initO X0 hx hZ hown (ow hw 6 rfl) (ow hw 7 rfl) (ow hw 8 rfl) e0 (g := (mkF m 1 #[(vr a1)] [(.ref a1)])) rfl (by rw [hml]; rfl) rfl (hb hby d1_1) (by decide) (W := 0) (by show 2 * 0 + _ ≤ _; exact Nat.le_of_eq rfl) (by decide)
  obtain ⟨T2, h2, X2, e2, E2, A2, D2, -, st2⟩ := newO X1 hx hZ hown (ow hw 9 rfl) (ow hw 10 rfl) (ow hw 11 rfl) e1 (g := (mkF m 5 #[(vr a1)] [(.ref a1)])) rfl (hb hby d1_5) (by decide) (by decide)
  obtain ⟨b2, g2⟩ : ∃ z, z = h0.size := ⟨_, rfl⟩
  rw [← g2] at A2 D2 st2
  have ne3 : a1 ≠ b2 := Nat.ne_of_lt (Nat.lt_of_lt_of_le P0.lt (Nat.le_of_eq g2.symm))
  have g4 : n0 ≤ b2 := Nat.le_trans (own_sz O0) (Nat.le_of_eq g2.symm)
  have sz5 : h0.size ≤ b2 := Nat.le_trans K0.1 (Nat.le_of_eq g2.symm)
  have O6 : Old Z n0 h2 := O0.ext E2
  have K6 : Keep h0 h2 [a1] := K0.ext E2
  have f7 : Fld Z h2 b2 s7n "elements" s8n .null := D2 (Or.inl (ow hw 25 rfl)) (ty := (.array (.object s9n))) (by decide)
  have f8 : Fld Z h2 b2 s7n "head" "I" (.int 0) := D2 (Or.inl (ow hw 103 rfl)) (ty := .int) (by decide)
  have f9 : Fld Z h2 b2 s7n "tail" "I" (.int 0) := D2 (Or.inl (ow hw 137 rfl)) (ty := .int) (by decide)
  obtain ⟨_, _, ⟨T10, L10, k10, n10⟩, -, X10, ⟨Lc10, hQ10, l10, y10, z10⟩, st10⟩ := X2.specialBack hx (y := M3) rfl hown (mvT hZ (ow hw 12 rfl)) (mvT hZ (ow hw 13 rfl)) (mvT hZ (ow hw 14 rfl)) (by decide) (backOf (W := 2) (au3_0 l Z a0 hw [] wMAX_LOCK_DELAY wGRANTED wQUEUED wBUSY wZERO hS b2 h2 n0 O6 A2 f7 f8 f9 g4) hZ (ow hw 14 rfl) (ow hw 11 rfl) (by decide) (by decide)) (g := (mkF m 9 #[(vr a1)] [(.ref b2), (.ref b2), (.ref a1)])) rfl (by rw [hml]; rfl) (Steps.refl _) (a := b2) (argsL := []) (rest := [(.ref b2), (.ref a1)]) (lenOf pd_0 rfl) rfl (by show 2 * 0 + _ ≤ _; exact Nat.le_of_eq rfl) (hb hby d1_9) (fun _ _ => ⟨rfl, e2, (by decide : 1 + 1 ≤ _), (by decide : 3 + 17 ≤ _)⟩)
  dsimp only [Pt.U, Pt.locs, Pt.cells, Pt.slots] at X10 l10 y10 z10 st10 hQ10
  subst l10 y10 z10
  obtain ⟨e1_10, e2_10, rfl, Nq10, K10q, p10_0, p10_1, p10_2, p10_3, p10_4, p10_5, p10_6, p10_7⟩ := hQ10
  have N10 := Fr.app N0 Nq10
  have f12 : Exa Z h2 a1 s4n := (P0.ext E2)
  have ne11 : a1 ≠ e1_10 := Nat.ne_of_lt (Nat.lt_of_lt_of_le f12.lt p10_4)
  have ne13 : b2 ≠ e1_10 := Nat.ne_of_lt (Nat.lt_of_lt_of_le A2.lt p10_4)
  have g14 : n0 ≤ e1_10 := Nat.le_trans (own_sz O6) p10_4
  have sz15 : h0.size ≤ e1_10 := Nat.le_trans K6.1 p10_4
  have O16 : Old Z n0 T10.heap := O6.keep K10q (allS g4 all0)
  have K16 : Keep h0 T10.heap [a1] := K6.trans K10q (allS (Or.inr sz5) all0)
  have f17 : Exa Z T10.heap a1 s4n := (f12.keep K10q)
  have f18 : Fld Z T10.heap a1 s4n "waiters" s11n .null := ((P5.ext E2).keep K10q (ninS ne3 nin0))
  obtain ⟨T19, h19, X19, e19, W19, st19⟩ := putF X10 hx hZ hown (host := "") (Or.inl (ow hw 26 rfl)) Via.refl rfl f18 f17 (Or.inr ⟨(ow hw 27 rfl), rfl, hnm⟩) (ow hw 1 rfl) (ty := (.object s12n)) (by decide) rfl rfl (g := (mkF m 12 #[(vr a1)] [(.ref b2), (.ref a1)])) rfl rfl (hb hby d1_12)
  have N19 := Fr.snoc X19 N10 P6
  have O20 : Old Z n0 h19 := O16.wr W19 P6
  have K20 : Keep h0 h19 [a1] := K16.wr W19 (Or.inl (List.mem_of_getElem? (i := 0) rfl))
  have Fw19 : Fld Z h19 a1 s4n "waiters" s11n (.ref b2) := f18.same W19
  obtain ⟨T21, X21, e21, st21⟩ := getS2 X19 hx hZ hown (host := "") (Or.inl (ow hw 28 rfl)) Via.refl e19 (S_wZERO.ext O20.2) (g := (mkF m 16 #[(vr a1)] [(.ref a1)])) rfl (hb hby d1_16)
  have f22 : Exa Z h19 a1 s4n := (f17.wr W19)
  have f23 : Fld Z h19 a1 s4n s10n s0n .null := (((P4.ext E2).keep K10q (ninS ne3 nin0)).other W19 (Or.inr (slot_ne (Or.inl (ow hw 31 rfl)) (Or.inr (ow hw 27 rfl)) (by decide) (t := (.object s1n)) (t' := (.object s12n)) (by decide) (by decide))))
  obtain ⟨T24, h24, X24, e24, W24, st24⟩ := putF X21 hx hZ hown (host := "") (Or.inl (ow hw 30 rfl)) Via.refl e21 f23 f22 (Or.inl (ow hw 31 rfl)) (ow hw 1 rfl) (ty := (.object s1n)) (by decide) rfl rfl (g := (mkF m 19 #[(vr a1)] [(.ref wZERO), (.ref a1)])) rfl rfl (hb hby d1_19)
  have N24 := Fr.snoc X24 N19 P6
  have O25 : Old Z n0 h24 := O20.wr W24 P6
  have K25 : Keep h0 h24 [a1] := K20.wr W24 (Or.inl (List.mem_of_getElem? (i := 0) rfl))
  have Fw24 : Fld Z h24 a1 s4n s10n s0n (.ref wZERO) := f23.same W24
  have f26 : Exa Z h24 a1 s4n := (f22.wr W24)
  have f27 : Fld Z h24 a1 s4n "generation" "J" (.long qg2) := ((((P1.ext E2).keep K10q (ninS ne3 nin0)).other W19 (Or.inr (slot_ne (Or.inl (ow hw 75 rfl)) (Or.inr (ow hw 27 rfl)) (by decide) (t := .long) (t' := (.object s12n)) (by decide) (by decide)))).other W24 (Or.inr (slot_ne (Or.inl (ow hw 75 rfl)) (Or.inl (ow hw 31 rfl)) (by decide) (t := .long) (t' := (.object s1n)) (by decide) (by decide))))
  have f28 : Fld Z h24 a1 s4n "heldBack" "Z" (.int 0) := ((((P2.ext E2).keep K10q (ninS ne3 nin0)).other W19 (Or.inr (slot_ne (Or.inl (ow hw 69 rfl)) (Or.inr (ow hw 27 rfl)) (by decide) (t := .boolean) (t' := (.object s12n)) (by decide) (by decide)))).other W24 (Or.inr (slot_ne (Or.inl (ow hw 69 rfl)) (Or.inl (ow hw 31 rfl)) (by decide) (t := .boolean) (t' := (.object s1n)) (by decide) (by decide))))
  have f29 : Fld Z h24 a1 s4n "holder" s5n .null := ((((P3.ext E2).keep K10q (ninS ne3 nin0)).other W19 (Or.inr (slot_ne (Or.inl (ow hw 52 rfl)) (Or.inr (ow hw 27 rfl)) (by decide) (t := (.object s3n)) (t' := (.object s12n)) (by decide) (by decide)))).other W24 (Or.inr (slot_ne (Or.inl (ow hw 52 rfl)) (Or.inl (ow hw 31 rfl)) (by decide) (t := (.object s3n)) (t' := (.object s1n)) (by decide) (by decide))))
  have f30 : Fld Z h24 a1 s4n "waiters" s11n (.ref b2) := (Fw19.other W24 (Or.inr (slot_ne (Or.inr (ow hw 27 rfl)) (Or.inl (ow hw 31 rfl)) (by decide) (t := (.object s12n)) (t' := (.object s1n)) (by decide) (by decide))))
  have f31 : Exa Z h24 b2 s7n := ((p10_0.wr W19).wr W24)
  have f32 : Fld Z h24 b2 s7n "elements" s8n (.ref e1_10) := ((p10_1.other W19 (Or.inl (Ne.symm ne3))).other W24 (Or.inl (Ne.symm ne3)))
  have f33 : Fld Z h24 b2 s7n "head" "I" (.int 0) := ((p10_2.other W19 (Or.inl (Ne.symm ne3))).other W24 (Or.inl (Ne.symm ne3)))
  have f34 : Fld Z h24 b2 s7n "tail" "I" (.int 0) := ((p10_3.other W19 (Or.inl (Ne.symm ne3))).other W24 (Or.inl (Ne.symm ne3)))
  have f35 : Exa Z h24 e1_10 s8n := ((p10_5.wr W19).wr W24)
  have f36 : Arv Z h24 e1_10 e2_10 (.object s9n) (17 : Int32) ([.null, .null, .null, .null, .null, .null, .null, .null, .null, .null, .null, .null, .null, .null, .null, .null, .null]) .null := ((p10_6.other W19 (Ne.symm ne11)).other W24 (Ne.symm ne11))
  obtain ⟨fs, hr, hrun, hended, hW, hsame⟩ := X24.leave (v := none) (fun _ => rfl)
  refine ⟨_, _, pre0 _ ?_, hrun, hended, _, _, rfl, ?_, ⟨_, rfl⟩, hW, hsame.mono (by decide) (by decide)⟩
  · skip
    show Steps p.tables e below (s₁.setTop (mkF m 0 #[(vr a1)] [])) _
    refine XS.aloadN X0.here hx rfl (hb hby d1_0) rfl rfl ?_
    refine st1 _ ?_
    refine XS.aloadN X1.here hx rfl (hb hby d1_4) rfl rfl ?_
    refine st2 _ ?_
    refine XS.dup X2.here hx rfl (hb hby d1_8) rfl rfl ?_
    show Steps p.tables e below (T2.setTop (mkF m 9 #[(vr a1)] [(.ref b2), (.ref b2), (.ref a1)])) _
    refine st10.trans ?_
    refine st19 _ ?_
    refine XS.aloadN X19.here hx rfl (hb hby d1_15) rfl rfl ?_
    refine st21 _ ?_
    refine st24 _ ?_
    show Steps p.tables e below (T24.setTop (mkF m 22 #[(vr a1)] [])) _
    exact X24.returnOut hx hret0 (hb hby d1_22) hr
  · show Q_au1_0 Z wMAX_LOCK_DELAY wGRANTED wQUEUED wBUSY wZERO a1 qg2 h0 n0 _ T24.heap _
    rw [e24]
    exact ⟨b2, e1_10, e2_10, rfl, N24, K25, f26, f27, f28, f29, Fw24, f30, sz5, f31, f32, f33, f34, sz15, f35, f36, p10_7⟩
theorem ef_au7_0 (m : MethodId) (x0 : Addr)  : entryFrame m #[(.ref x0)] 1 = mkF m 0 #[(vr x0)] [] := by first | (simp [entryFrame, mkF, argsToLocals, Value.category]; done) | rfl
theorem d7_0 : decode prog_84_method_15_code 0 = .ok (.aload_n 0, 1) := by decide +kernel
theorem d7_1 : decode prog_84_method_15_code 1 = .ok (.getfield 22, 3) := by decide +kernel
theorem d7_4 : decode prog_84_method_15_code 4 = .ok (.areturn, 1) := by decide +kernel
def Q_au7_0 (Z : State) (wMAX_LOCK_DELAY : Addr) (wGRANTED : Addr) (wQUEUED : Addr) (wBUSY : Addr) (wZERO : Addr) (a1 : Addr) (h0 : Heap) (n0 : Nat) (v : Option Value) (h : Heap) (L : List Loc) : Prop := v = some (.ref wZERO) ∧ Fr n0 L ∧ h = h0
theorem au7_0 (l : Launch) (Z : State) (a0 : Array Value) (hw : ∀ d ∈ tables_1, d.before a0 Z = true) (ws : List Jvm.Cond) (wMAX_LOCK_DELAY : Addr) (wGRANTED : Addr) (wQUEUED : Addr) (wBUSY : Addr) (wZERO : Addr) (hS : SS Z wMAX_LOCK_DELAY wGRANTED wQUEUED wBUSY wZERO) (a1 : Addr) (h0 : Heap) (n0 : Nat) (O0 : Old Z n0 h0) (P4 : Fld Z h0 a1 s4n s10n s0n (.ref wZERO)) :
    MetB l M5 prog_84_method_15_code 1 (some (.object s1n)) ws (rmk 0 0 0 0) Z h0 #[(.ref a1)] (Q_au7_0 Z wMAX_LOCK_DELAY wGRANTED wQUEUED wBUSY wZERO a1 h0 n0) := by
  refine own_body (plainFor_of_name pn_com_example_umpired_umpired_server_NodeLock) ?_
  intro p e s m below meth c s₁ hx hby hml hown hnm hret0 hlk0 hZ X0 e0
  have N0 := Fr.nil n0
  have pre0 : ∀ t, Steps p.tables e below (s₁.setTop (mkF m 0 #[(vr a1)] [])) t → Steps p.tables e below (s₁.setTop (entryFrame m #[(.ref a1)] 1)) t := fun t k => castTop (ef_au7_0 m a1) k
  have hS0 := hS
  obtain ⟨S_wMAX_LOCK_DELAY, E_wMAX_LOCK_DELAY, S_wGRANTED, E_wGRANTED, S_wQUEUED, E_wQUEUED, S_wBUSY, E_wBUSY, F_seconds_wMAX_LOCK_DELAY, F_nanos_wMAX_LOCK_DELAY, S_wZERO, E_wZERO, F_seconds_wZERO, F_nanos_wZERO⟩ := hS0
  obtain ⟨T1, X1, e1, st1⟩ := getF X0 hx hZ hown (host := "") (Or.inl (ow hw 30 rfl)) Via.refl e0 P4 (g := (mkF m 1 #[(vr a1)] [(.ref a1)])) rfl rfl (hb hby d7_1)
  obtain ⟨fs, hr, hrun, hended, hW, hsame⟩ := X1.leave (v := some (.ref wZERO)) (fun h => by rw [hret0] at h; cases h)
  refine ⟨_, _, pre0 _ ?_, hrun, hended, _, _, rfl, ?_, ⟨_, rfl⟩, hW, hsame.mono (by decide) (by decide)⟩
  · skip
    show Steps p.tables e below (s₁.setTop (mkF m 0 #[(vr a1)] [])) _
    refine XS.aloadN X0.here hx rfl (hb hby d7_0) rfl rfl ?_
    refine st1 _ ?_
    jvm_step X1.here [X1.here.top, hx, (hb hby d7_4), X1.method', hret0, Value.isRef, FieldType.isReference]
    first | (intro acts; rw [hr _ acts rfl rfl rfl]) | rw [hr _ _ rfl rfl rfl]
    exact Steps.refl _
  · show Q_au7_0 Z wMAX_LOCK_DELAY wGRANTED wQUEUED wBUSY wZERO a1 h0 n0 _ T1.heap _
    rw [e1]
    exact ⟨rfl, N0, rfl⟩
theorem pd_1 : parseMethodDescriptor "()Ljava/time/Duration;" = some ⟨[], some (.object "java/time/Duration")⟩ := by decide +kernel
theorem ef_au5_0 (m : MethodId) (x0 : Addr) (x1 : Int64) (x2 : Int64)  : entryFrame m #[(.ref x0), (.long x1), (.long x2)] 5 = mkF m 0 #[(vr x0), (vl x1), .second, (vl x2), .second] [] := by first | (simp [entryFrame, mkF, argsToLocals, Value.category]; done) | rfl
theorem d5_0 : decode prog_89_method_1_code 0 = .ok (.aload_n 0, 1) := by decide +kernel
theorem d5_1 : decode prog_89_method_1_code 1 = .ok (.invokespecial 1, 3) := by decide +kernel
theorem d5_4 : decode prog_89_method_1_code 4 = .ok (.aload_n 0, 1) := by decide +kernel
theorem d5_5 : decode prog_89_method_1_code 5 = .ok (.lload_n 1, 1) := by decide +kernel
theorem d5_6 : decode prog_89_method_1_code 6 = .ok (.putfield 7, 3) := by decide +kernel
theorem d5_9 : decode prog_89_method_1_code 9 = .ok (.aload_n 0, 1) := by decide +kernel
theorem d5_10 : decode prog_89_method_1_code 10 = .ok (.lload_n 3, 1) := by decide +kernel
theorem d5_11 : decode prog_89_method_1_code 11 = .ok (.putfield 13, 3) := by decide +kernel
theorem d5_14 : decode prog_89_method_1_code 14 = .ok (.return_, 1) := by decide +kernel
def Q_au5_0 (Z : State) (wMAX_LOCK_DELAY : Addr) (wGRANTED : Addr) (wQUEUED : Addr) (wBUSY : Addr) (wZERO : Addr) (a1 : Addr) (q2 : Int64) (q3 : Int64) (h0 : Heap) (n0 : Nat) (v : Option Value) (h : Heap) (L : List Loc) : Prop := v = none ∧ Fr n0 L ∧ Keep h0 h [a1] ∧ Exa Z h a1 s3n ∧ Fld Z h a1 s3n "handle" "J" (.long q3) ∧ Fld Z h a1 s3n "session" "J" (.long q2)
theorem au5_0 (l : Launch) (Z : State) (a0 : Array Value) (hw : ∀ d ∈ tables_1, d.before a0 Z = true) (ws : List Jvm.Cond) (wMAX_LOCK_DELAY : Addr) (wGRANTED : Addr) (wQUEUED : Addr) (wBUSY : Addr) (wZERO : Addr) (hS : SS Z wMAX_LOCK_DELAY wGRANTED wQUEUED wBUSY wZERO) (a1 : Addr) (q2 : Int64) (q3 : Int64) (h0 : Heap) (n0 : Nat) (O0 : Old Z n0 h0) (P0 : Exa Z h0 a1 s3n) (P1 : Fld Z h0 a1 s3n "handle" "J" (.long 0)) (P2 : Fld Z h0 a1 s3n "session" "J" (.long 0)) (P3 : n0 ≤ a1) :
    MetB l M6 prog_89_method_1_code 5 none ws (rmk 1 0 0 12) Z h0 #[(.ref a1), (.long q2), (.long q3)] (Q_au5_0 Z wMAX_LOCK_DELAY wGRANTED wQUEUED wBUSY wZERO a1 q2 q3 h0 n0) := by
  refine own_body (plainFor_of_name pn_com_example_umpired_umpired_server_SessionHandle) ?_
  intro p e s m below meth c s₁ hx hby hml hown hnm hret0 hlk0 hZ X0 e0
  have N0 := Fr.nil n0
  have pre0 : ∀ t, Steps p.tables e below (s₁.setTop (mkF m 0 #[(vr a1), (vl q2), .second, (vl q3), .second] [])) t → Steps p.tables e below (s₁.setTop (entryFrame m #[(.ref a1), (.long q2), (.long q3)] 5)) t := fun t k => castTop (ef_au5_0 m a1 q2 q3) k
  have K0 := Keep.refl h0 [a1]
  have hS0 := hS
  obtain ⟨S_wMAX_LOCK_DELAY, E_wMAX_LOCK_DELAY, S_wGRANTED, E_wGRANTED, S_wQUEUED, E_wQUEUED, S_wBUSY, E_wBUSY, F_seconds_wMAX_LOCK_DELAY, F_nanos_wMAX_LOCK_DELAY, S_wZERO, E_wZERO, F_seconds_wZERO, F_nanos_wZERO⟩ := hS0
  obtain ⟨T1, X1, e1, st1⟩ := initO X0 hx hZ hown (ow hw 41 rfl) (ow hw 7 rfl) (ow hw 8 rfl) e0 (g := (mkF m 1 #[(vr a1), (vl q2), .second, (vl q3), .second] [(.ref a1)])) rfl (by rw [hml]; rfl) rfl (hb hby d5_1) (by decide) (W := 0) (by show 2 * 0 + _ ≤ _; exact Nat.le_of_eq rfl) (by decide)
  obtain ⟨T2, h2, X2, e2, W2, st2⟩ := putF X1 hx hZ hown (host := "") (Or.inl (ow hw 42 rfl)) Via.refl e1 P2 P0 (Or.inr ⟨(ow hw 43 rfl), rfl, hnm⟩) (ow hw 36 rfl) (ty := .long) (by decide) rfl rfl (g := (mkF m 6 #[(vr a1), (vl q2), .second, (vl q3), .second] [(.long q2), (.ref a1)])) rfl rfl (hb hby d5_6)
  have N2 := Fr.snoc X2 N0 P3
  have O3 : Old Z n0 h2 := O0.wr W2 P3
  have K3 : Keep h0 h2 [a1] := K0.wr W2 (Or.inl (List.mem_of_getElem? (i := 0) rfl))
  have Fw2 : Fld Z h2 a1 s3n "session" "J" (.long q2) := P2.same W2
  have f4 : Exa Z h2 a1 s3n := (P0.wr W2)
  have f5 : Fld Z h2 a1 s3n "handle" "J" (.long 0) := (P1.other W2 (Or.inr (slot_ne (Or.inr (ow hw 45 rfl)) (Or.inr (ow hw 43 rfl)) (by decide) (t := .long) (t' := .long) (by decide) (by decide))))
  obtain ⟨T6, h6, X6, e6, W6, st6⟩ := putF X2 hx hZ hown (host := "") (Or.inl (ow hw 44 rfl)) Via.refl e2 f5 f4 (Or.inr ⟨(ow hw 45 rfl), rfl, hnm⟩) (ow hw 36 rfl) (ty := .long) (by decide) rfl rfl (g := (mkF m 11 #[(vr a1), (vl q2), .second, (vl q3), .second] [(.long q3), (.ref a1)])) rfl rfl (hb hby d5_11)
  have N6 := Fr.snoc X6 N2 P3
  have O7 : Old Z n0 h6 := O3.wr W6 P3
  have K7 : Keep h0 h6 [a1] := K3.wr W6 (Or.inl (List.mem_of_getElem? (i := 0) rfl))
  have Fw6 : Fld Z h6 a1 s3n "handle" "J" (.long q3) := f5.same W6
  have f8 : Exa Z h6 a1 s3n := (f4.wr W6)
  have f9 : Fld Z h6 a1 s3n "session" "J" (.long q2) := (Fw2.other W6 (Or.inr (slot_ne (Or.inr (ow hw 43 rfl)) (Or.inr (ow hw 45 rfl)) (by decide) (t := .long) (t' := .long) (by decide) (by decide))))
  obtain ⟨fs, hr, hrun, hended, hW, hsame⟩ := X6.leave (v := none) (fun _ => rfl)
  refine ⟨_, _, pre0 _ ?_, hrun, hended, _, _, rfl, ?_, ⟨_, rfl⟩, hW, hsame.mono (by decide) (by decide)⟩
  · skip
    show Steps p.tables e below (s₁.setTop (mkF m 0 #[(vr a1), (vl q2), .second, (vl q3), .second] [])) _
    refine XS.aloadN X0.here hx rfl (hb hby d5_0) rfl rfl ?_
    refine st1 _ ?_
    refine XS.aloadN X1.here hx rfl (hb hby d5_4) rfl rfl ?_
    refine XS.lloadN X1.here hx rfl (hb hby d5_5) rfl ?_
    refine st2 _ ?_
    show Steps p.tables e below (T2.setTop (mkF m 9 #[(vr a1), (vl q2), .second, (vl q3), .second] [])) _
    refine XS.aloadN X2.here hx rfl (hb hby d5_9) rfl rfl ?_
    refine XS.lloadN X2.here hx rfl (hb hby d5_10) rfl ?_
    refine st6 _ ?_
    exact X6.returnOut hx hret0 (hb hby d5_14) hr
  · show Q_au5_0 Z wMAX_LOCK_DELAY wGRANTED wQUEUED wBUSY wZERO a1 q2 q3 h0 n0 _ T6.heap _
    rw [e6]
    exact ⟨rfl, N6, K7, f8, Fw6, f9⟩
theorem pd_2 : parseMethodDescriptor "(JJ)V" = some ⟨[.long, .long], none⟩ := by decide +kernel
theorem pd_3 : parseMethodDescriptor "(J)Z" = some ⟨[.long], some .boolean⟩ := by decide +kernel
theorem tl_tl_rm0_d_m0 {p : Program} {l : Launch} {e : Env} {s : State} {m : MethodId} {below : List Frame} {meth : Method} {c : Code} {T0 : State} {locs : List Loc} {Z : State} {a0 : Array Value} {h0 : Heap} {n0 : Nat} {margs : Array Value} (hw : ∀ d ∈ tables_1, d.before a0 Z = true) (wMAX_LOCK_DELAY : Addr) (wGRANTED : Addr) (wQUEUED : Addr) (wBUSY : Addr) (wZERO : Addr) (hS : SS Z wMAX_LOCK_DELAY wGRANTED wQUEUED wBUSY wZERO) (p1 : Int32) (p2 : Int32) (q3 : Int64) (q4 : Int64) (q5 : Int64) (q6 : Int64) (p7 : Int32) (p8 : Int32) (p9 : Int32) (p10 : Int32) (a11 : Addr) (a12 : Addr) (a13 : Addr) (a14 : Addr)
    (X0 : Stand p l e room_1 s m margs below meth c T0 locs 5 29) (hx : p.tables.exec = Jvm.exec) (hZ : Z.Warmed39 s.vm) (hby : c.code = code) (hml : c.maxLocals = 22) (hown : s.vm.findClass s6n = some m.cls) (hnm : meth.name = "law") (hret0 : meth.sig.returnType = some .boolean) (hlk0 : meth.locks = false) (e0 : T0.heap = h0) (N0 : Fr n0 locs) (O0 : Old Z n0 h0) (P0 : Exa Z h0 a11 s4n) (P3 : Fld Z h0 a11 s4n "holder" s5n .null) :
    ∃ s₂ o, Steps p.tables e below (T0.setTop (mkF m 103 #[(vi p1), (vi p2), (vl q3), .second, (vl q4), .second, (vl q5), .second, (vl q6), .second, (vi p7), (vi p8), (vi p9), (vi p10), (vr a11), (vr a12), (vr a13), (vr a14), .unset, .unset, .unset, .unset] [])) s₂ ∧ s₂.status = .running ∧ Ended s₂ below o ∧ ∃ v L, o = .returned v ∧ (v = some (.int 1) ∧ Fr n0 L) ∧ FrameEnd s o s₂ L room_1.cells room_1.slots := by
  have pre0 : ∀ t, Steps p.tables e below (T0.setTop (mkF m 103 #[(vi p1), (vi p2), (vl q3), .second, (vl q4), .second, (vl q5), .second, (vl q6), .second, (vi p7), (vi p8), (vi p9), (vi p10), (vr a11), (vr a12), (vr a13), (vr a14), .unset, .unset, .unset, .unset] [])) t → Steps p.tables e below (T0.setTop (mkF m 103 #[(vi p1), (vi p2), (vl q3), .second, (vl q4), .second, (vl q5), .second, (vl q6), .second, (vi p7), (vi p8), (vi p9), (vi p10), (vr a11), (vr a12), (vr a13), (vr a14), .unset, .unset, .unset, .unset] [])) t := fun t k => k
  have hS0 := hS
  obtain ⟨S_wMAX_LOCK_DELAY, E_wMAX_LOCK_DELAY, S_wGRANTED, E_wGRANTED, S_wQUEUED, E_wQUEUED, S_wBUSY, E_wBUSY, F_seconds_wMAX_LOCK_DELAY, F_nanos_wMAX_LOCK_DELAY, S_wZERO, E_wZERO, F_seconds_wZERO, F_nanos_wZERO⟩ := hS0
  obtain ⟨cq1, kq1, q1a, q1b, q1c⟩ := isOf hZ e0 P0
  obtain ⟨_, _, ⟨T1, L1, k1, n1⟩, -, X1, ⟨Lc1, hQ1, l1, y1, z1⟩, st1⟩ := X0.virtualBack hx (y := M1) (z := M1) hown (mvT hZ (ow hw 46 rfl)) (mvT hZ (ow hw 47 rfl)) (notFace_of_selects (args := #[]) (mvT hZ (ow hw 49 rfl))) (mvT hZ (ow hw 49 rfl)) (mvT hZ (ow hw 48 rfl)) (by decide) (backOf (W := 0) (rmHeldN l Z a0 hw [] wMAX_LOCK_DELAY wGRANTED wQUEUED wBUSY wZERO hS a11 q6 h0 n0 O0 P3) hZ (ow hw 50 rfl) (ow hw 2 rfl) (by decide) (by decide)) q1a q1c (g := (mkF m 459 #[(vi p1), (vi p2), (vl q3), .second, (vl q4), .second, (vl q5), .second, (vl q6), .second, (vi p7), (vi p8), (vi p9), (vi p10), (vr a11), (vr a12), (vr a13), (vr a14), (vi 0), (vl 0), .second, (vi 0)] [(.long q6), (.ref a11)])) rfl (by rw [hml]; rfl) (Steps.refl _) (argsL := [(.long q6)]) (rest := []) (lenOf pd_3 rfl) rfl (by show 2 * 0 + _ ≤ _; exact Nat.le_of_eq rfl) (hb hby at_459) (fun _ _ => ⟨rfl, e0, (by decide : 5 + 0 ≤ _), (by decide : 29 + 0 ≤ _)⟩)
  dsimp only [Pt.U, Pt.locs, Pt.cells, Pt.slots] at X1 l1 y1 z1 st1 hQ1
  subst l1 y1 z1
  obtain ⟨rfl, Nq1, K1q⟩ := hQ1
  have N1 := Fr.app N0 Nq1
  obtain ⟨fs, hr, hrun, hended, hW, hsame⟩ := X1.leave (v := some (.int 1)) (fun h => by rw [hret0] at h; cases h)
  refine ⟨_, _, pre0 _ ?_, hrun, hended, _, _, rfl, ?_, ⟨_, rfl⟩, hW, hsame.mono (by decide) (by decide)⟩
  · skip
    show Steps p.tables e below (T0.setTop (mkF m 103 #[(vi p1), (vi p2), (vl q3), .second, (vl q4), .second, (vl q5), .second, (vl q6), .second, (vi p7), (vi p8), (vi p9), (vi p10), (vr a11), (vr a12), (vr a13), (vr a14), .unset, .unset, .unset, .unset] [])) _
    refine XS.iconst X0.here hx rfl (hb hby at_103) ?_
    refine XS.istore X0.here hx rfl (hb hby at_104) rfl (l' := #[(vi p1), (vi p2), (vl q3), .second, (vl q4), .second, (vl q5), .second, (vl q6), .second, (vi p7), (vi p8), (vi p9), (vi p10), (vr a11), (vr a12), (vr a13), (vr a14), (vi 0), .unset, .unset, .unset]) rfl ?_
    refine XS.lconst X0.here hx rfl (hb hby at_106) ?_
    refine XS.lstore X0.here hx rfl (hb hby at_107) rfl (l' := #[(vi p1), (vi p2), (vl q3), .second, (vl q4), .second, (vl q5), .second, (vl q6), .second, (vi p7), (vi p8), (vi p9), (vi p10), (vr a11), (vr a12), (vr a13), (vr a14), (vi 0), (vl 0), .second, .unset]) rfl ?_
    refine XS.goto X0.here hx rfl (pc0 := 109) (pc' := 435) rfl (hb hby at_109) (by decide) (by decide) ?_
    show Steps p.tables e below (T0.setTop (mkF m 435 #[(vi p1), (vi p2), (vl q3), .second, (vl q4), .second, (vl q5), .second, (vl q6), .second, (vi p7), (vi p8), (vi p9), (vi p10), (vr a11), (vr a12), (vr a13), (vr a14), (vi 0), (vl 0), .second, .unset] [])) _
    refine XS.iload X0.here hx rfl (hb hby at_435) rfl ?_
    refine XS.ifYes X0.here hx rfl (pc0 := 437) (pc' := 452) rfl (hb hby at_437) rfl ((if0 _ _).trans (teq (by decide : (0 : Int32) = (0 : Int32))).1) (by decide) (by decide) ?_
    refine XS.iconst X0.here hx rfl (hb hby at_452) ?_
    refine XS.istore X0.here hx rfl (hb hby at_453) rfl (l' := #[(vi p1), (vi p2), (vl q3), .second, (vl q4), .second, (vl q5), .second, (vl q6), .second, (vi p7), (vi p8), (vi p9), (vi p10), (vr a11), (vr a12), (vr a13), (vr a14), (vi 0), (vl 0), .second, (vi 0)]) rfl ?_
    refine XS.aload X0.here hx rfl (hb hby at_455) rfl rfl ?_
    show Steps p.tables e below (T0.setTop (mkF m 457 #[(vi p1), (vi p2), (vl q3), .second, (vl q4), .second, (vl q5), .second, (vl q6), .second, (vi p7), (vi p8), (vi p9), (vi p10), (vr a11), (vr a12), (vr a13), (vr a14), (vi 0), (vl 0), .second, (vi 0)] [(.ref a11)])) _
    refine XS.lload X0.here hx rfl (hb hby at_457) rfl ?_
    refine st1.trans ?_
    refine XS.iload X1.here hx rfl (hb hby at_462) rfl ?_
    refine XS.icmpNo X1.here hx rfl (hb hby at_464) rfl (teq (by decide : (0 : Int32) = (0 : Int32))).2 ?_
    refine XS.iconst X1.here hx rfl (hb hby at_467) ?_
    show Steps p.tables e below (T1.setTop (mkF m 468 #[(vi p1), (vi p2), (vl q3), .second, (vl q4), .second, (vl q5), .second, (vl q6), .second, (vi p7), (vi p8), (vi p9), (vi p10), (vr a11), (vr a12), (vr a13), (vr a14), (vi 0), (vl 0), .second, (vi 0)] [(.int 1)])) _
    refine XS.goto X1.here hx rfl (pc0 := 468) (pc' := 472) rfl (hb hby at_468) (by decide) (by decide) ?_
    exact retN X1 hx (t := .boolean) hret0 (by simp) (hb hby at_472) hr
  · skip
    exact ⟨rfl, N1⟩
theorem ef_au8_0 (m : MethodId) (x0 : Addr) (x1 : Addr) (x2 : Addr) (x3 : Int32)  : entryFrame m #[(.ref x0), (.ref x1), (.ref x2), (.int x3)] 5 = mkF m 0 #[(vr x0), (vr x1), (vr x2), (vi x3), .unset] [] := by first | (simp [entryFrame, mkF, argsToLocals, Value.category]; done) | rfl
theorem d8_0 : decode prog_84_method_3_code 0 = .ok (.aload_n 1, 1) := by decide +kernel
theorem d8_1 : decode prog_84_method_3_code 1 = .ok (.aload_n 0, 1) := by decide +kernel
theorem d8_2 : decode prog_84_method_3_code 2 = .ok (.getfield 29, 3) := by decide +kernel
theorem d8_5 : decode prog_84_method_3_code 5 = .ok (.invokevirtual 33, 3) := by decide +kernel
theorem pd_4 : parseMethodDescriptor "(Ljava/lang/Object;)Z" = some ⟨[(.object "java/lang/Object")], some .boolean⟩ := by decide +kernel
theorem d8_8 : decode prog_84_method_3_code 8 = .ok (.ifCond .eq 11, 3) := by decide +kernel
theorem d8_19 : decode prog_84_method_3_code 19 = .ok (.aload_n 0, 1) := by decide +kernel
theorem d8_20 : decode prog_84_method_3_code 20 = .ok (.getfield 29, 3) := by decide +kernel
theorem d8_23 : decode prog_84_method_3_code 23 = .ok (.ifnonnull 24, 3) := by decide +kernel
theorem d8_26 : decode prog_84_method_3_code 26 = .ok (.aload_n 0, 1) := by decide +kernel
theorem d8_27 : decode prog_84_method_3_code 27 = .ok (.getfield 45, 3) := by decide +kernel
theorem d8_30 : decode prog_84_method_3_code 30 = .ok (.ifCond .ne 17, 3) := by decide +kernel
theorem d8_33 : decode prog_84_method_3_code 33 = .ok (.aload_n 0, 1) := by decide +kernel
theorem d8_34 : decode prog_84_method_3_code 34 = .ok (.aload_n 1, 1) := by decide +kernel
theorem d8_35 : decode prog_84_method_3_code 35 = .ok (.aload_n 2, 1) := by decide +kernel
theorem d8_36 : decode prog_84_method_3_code 36 = .ok (.invokevirtual 49, 3) := by decide +kernel
theorem ef_au10_0 (m : MethodId) (x0 : Addr) (x1 : Addr) (x2 : Addr)  : entryFrame m #[(.ref x0), (.ref x1), (.ref x2)] 3 = mkF m 0 #[(vr x0), (vr x1), (vr x2)] [] := by first | (simp [entryFrame, mkF, argsToLocals, Value.category]; done) | rfl
theorem d10_0 : decode prog_84_method_23_code 0 = .ok (.aload_n 0, 1) := by decide +kernel
theorem d10_1 : decode prog_84_method_23_code 1 = .ok (.aload_n 1, 1) := by decide +kernel
theorem d10_2 : decode prog_84_method_23_code 2 = .ok (.putfield 29, 3) := by decide +kernel
theorem d10_5 : decode prog_84_method_23_code 5 = .ok (.aload_n 0, 1) := by decide +kernel
theorem d10_6 : decode prog_84_method_23_code 6 = .ok (.aload_n 2, 1) := by decide +kernel
theorem d10_7 : decode prog_84_method_23_code 7 = .ok (.putfield 22, 3) := by decide +kernel
theorem d10_10 : decode prog_84_method_23_code 10 = .ok (.aload_n 0, 1) := by decide +kernel
theorem d10_11 : decode prog_84_method_23_code 11 = .ok (.dup, 1) := by decide +kernel
theorem d10_12 : decode prog_84_method_23_code 12 = .ok (.getfield 25, 3) := by decide +kernel
theorem d10_15 : decode prog_84_method_23_code 15 = .ok (.lconst 1, 1) := by decide +kernel
theorem d10_16 : decode prog_84_method_23_code 16 = .ok (.ladd, 1) := by decide +kernel
theorem d10_17 : decode prog_84_method_23_code 17 = .ok (.putfield 25, 3) := by decide +kernel
theorem d10_20 : decode prog_84_method_23_code 20 = .ok (.return_, 1) := by decide +kernel
def Q_au10_0 (Z : State) (wMAX_LOCK_DELAY : Addr) (wGRANTED : Addr) (wQUEUED : Addr) (wBUSY : Addr) (wZERO : Addr) (a1 : Addr) (a2 : Addr) (a3 : Addr) (q4 : Int64) (a5 : Addr) (h0 : Heap) (n0 : Nat) (v : Option Value) (h : Heap) (L : List Loc) : Prop := v = none ∧ Fr n0 L ∧ Keep h0 h [a1] ∧ Exa Z h a1 s4n ∧ Fld Z h a1 s4n "generation" "J" (.long (q4 + (1 : Int64))) ∧ Fld Z h a1 s4n "heldBack" "Z" (.int 0) ∧ Fld Z h a1 s4n "holder" s5n (.ref a2) ∧ Fld Z h a1 s4n s10n s0n (.ref a3) ∧ Fld Z h a1 s4n "waiters" s11n (.ref a5)
theorem au10_0 (l : Launch) (Z : State) (a0 : Array Value) (hw : ∀ d ∈ tables_1, d.before a0 Z = true) (ws : List Jvm.Cond) (wMAX_LOCK_DELAY : Addr) (wGRANTED : Addr) (wQUEUED : Addr) (wBUSY : Addr) (wZERO : Addr) (hS : SS Z wMAX_LOCK_DELAY wGRANTED wQUEUED wBUSY wZERO) (a1 : Addr) (a2 : Addr) (a3 : Addr) (q4 : Int64) (a5 : Addr) (h0 : Heap) (n0 : Nat) (O0 : Old Z n0 h0) (P0 : Exa Z h0 a1 s4n) (P1 : Fld Z h0 a1 s4n "generation" "J" (.long q4)) (P2 : Fld Z h0 a1 s4n "heldBack" "Z" (.int 0)) (P3 : Fld Z h0 a1 s4n "holder" s5n .null) (P4 : Fld Z h0 a1 s4n s10n s0n (.ref wZERO)) (P5 : Fld Z h0 a1 s4n "waiters" s11n (.ref a5)) (P16 : n0 ≤ a1) :
    MetB l M7 prog_84_method_23_code 3 none ws (rmk 0 0 0 0) Z h0 #[(.ref a1), (.ref a2), (.ref a3)] (Q_au10_0 Z wMAX_LOCK_DELAY wGRANTED wQUEUED wBUSY wZERO a1 a2 a3 q4 a5 h0 n0) := by
  refine own_body (plainFor_of_name pn_com_example_umpired_umpired_server_NodeLock) ?_
  intro p e s m below meth c s₁ hx hby hml hown hnm hret0 hlk0 hZ X0 e0
  have N0 := Fr.nil n0
  have pre0 : ∀ t, Steps p.tables e below (s₁.setTop (mkF m 0 #[(vr a1), (vr a2), (vr a3)] [])) t → Steps p.tables e below (s₁.setTop (entryFrame m #[(.ref a1), (.ref a2), (.ref a3)] 3)) t := fun t k => castTop (ef_au10_0 m a1 a2 a3) k
  have K0 := Keep.refl h0 [a1]
  have hS0 := hS
  obtain ⟨S_wMAX_LOCK_DELAY, E_wMAX_LOCK_DELAY, S_wGRANTED, E_wGRANTED, S_wQUEUED, E_wQUEUED, S_wBUSY, E_wBUSY, F_seconds_wMAX_LOCK_DELAY, F_nanos_wMAX_LOCK_DELAY, S_wZERO, E_wZERO, F_seconds_wZERO, F_nanos_wZERO⟩ := hS0
  obtain ⟨T1, h1, X1, e1, W1, st1⟩ := putF X0 hx hZ hown (host := "") (Or.inl (ow hw 51 rfl)) Via.refl e0 P3 P0 (Or.inl (ow hw 52 rfl)) (ow hw 1 rfl) (ty := (.object s3n)) (by decide) rfl rfl (g := (mkF m 2 #[(vr a1), (vr a2), (vr a3)] [(.ref a2), (.ref a1)])) rfl rfl (hb hby d10_2)
  have N1 := Fr.snoc X1 N0 P16
  have O2 : Old Z n0 h1 := O0.wr W1 P16
  have K2 : Keep h0 h1 [a1] := K0.wr W1 (Or.inl (List.mem_of_getElem? (i := 0) rfl))
  have Fw1 : Fld Z h1 a1 s4n "holder" s5n (.ref a2) := P3.same W1
  have f3 : Exa Z h1 a1 s4n := (P0.wr W1)
  have f4 : Fld Z h1 a1 s4n s10n s0n (.ref wZERO) := (P4.other W1 (Or.inr (slot_ne (Or.inl (ow hw 31 rfl)) (Or.inl (ow hw 52 rfl)) (by decide) (t := (.object s1n)) (t' := (.object s3n)) (by decide) (by decide))))
  obtain ⟨T5, h5, X5, e5, W5, st5⟩ := putF X1 hx hZ hown (host := "") (Or.inl (ow hw 30 rfl)) Via.refl e1 f4 f3 (Or.inl (ow hw 31 rfl)) (ow hw 1 rfl) (ty := (.object s1n)) (by decide) rfl rfl (g := (mkF m 7 #[(vr a1), (vr a2), (vr a3)] [(.ref a3), (.ref a1)])) rfl rfl (hb hby d10_7)
  have N5 := Fr.snoc X5 N1 P16
  have O6 : Old Z n0 h5 := O2.wr W5 P16
  have K6 : Keep h0 h5 [a1] := K2.wr W5 (Or.inl (List.mem_of_getElem? (i := 0) rfl))
  have Fw5 : Fld Z h5 a1 s4n s10n s0n (.ref a3) := f4.same W5
  have f7 : Fld Z h5 a1 s4n "generation" "J" (.long q4) := ((P1.other W1 (Or.inr (slot_ne (Or.inl (ow hw 75 rfl)) (Or.inl (ow hw 52 rfl)) (by decide) (t := .long) (t' := (.object s3n)) (by decide) (by decide)))).other W5 (Or.inr (slot_ne (Or.inl (ow hw 75 rfl)) (Or.inl (ow hw 31 rfl)) (by decide) (t := .long) (t' := (.object s1n)) (by decide) (by decide))))
  obtain ⟨T8, X8, e8, st8⟩ := getF X5 hx hZ hown (host := "") (Or.inl (ow hw 74 rfl)) Via.refl e5 f7 (g := (mkF m 12 #[(vr a1), (vr a2), (vr a3)] [(.ref a1), (.ref a1)])) rfl rfl (hb hby d10_12)
  have f9 : Exa Z h5 a1 s4n := (f3.wr W5)
  obtain ⟨T10, h10, X10, e10, W10, st10⟩ := putF X8 hx hZ hown (host := "") (Or.inl (ow hw 74 rfl)) Via.refl e8 f7 f9 (Or.inl (ow hw 75 rfl)) (ow hw 1 rfl) (ty := .long) (by decide) rfl rfl (g := (mkF m 17 #[(vr a1), (vr a2), (vr a3)] [(.long (q4 + (1 : Int64))), (.ref a1)])) rfl rfl (hb hby d10_17)
  have N10 := Fr.snoc X10 N5 P16
  have O11 : Old Z n0 h10 := O6.wr W10 P16
  have K11 : Keep h0 h10 [a1] := K6.wr W10 (Or.inl (List.mem_of_getElem? (i := 0) rfl))
  have Fw10 : Fld Z h10 a1 s4n "generation" "J" (.long (q4 + (1 : Int64))) := f7.same W10
  have f12 : Exa Z h10 a1 s4n := (f9.wr W10)
  have f13 : Fld Z h10 a1 s4n "heldBack" "Z" (.int 0) := (((P2.other W1 (Or.inr (slot_ne (Or.inl (ow hw 69 rfl)) (Or.inl (ow hw 52 rfl)) (by decide) (t := .boolean) (t' := (.object s3n)) (by decide) (by decide)))).other W5 (Or.inr (slot_ne (Or.inl (ow hw 69 rfl)) (Or.inl (ow hw 31 rfl)) (by decide) (t := .boolean) (t' := (.object s1n)) (by decide) (by decide)))).other W10 (Or.inr (slot_ne (Or.inl (ow hw 69 rfl)) (Or.inl (ow hw 75 rfl)) (by decide) (t := .boolean) (t' := .long) (by decide) (by decide))))
  have f14 : Fld Z h10 a1 s4n "holder" s5n (.ref a2) := ((Fw1.other W5 (Or.inr (slot_ne (Or.inl (ow hw 52 rfl)) (Or.inl (ow hw 31 rfl)) (by decide) (t := (.object s3n)) (t' := (.object s1n)) (by decide) (by decide)))).other W10 (Or.inr (slot_ne (Or.inl (ow hw 52 rfl)) (Or.inl (ow hw 75 rfl)) (by decide) (t := (.object s3n)) (t' := .long) (by decide) (by decide))))
  have f15 : Fld Z h10 a1 s4n s10n s0n (.ref a3) := (Fw5.other W10 (Or.inr (slot_ne (Or.inl (ow hw 31 rfl)) (Or.inl (ow hw 75 rfl)) (by decide) (t := (.object s1n)) (t' := .long) (by decide) (by decide))))
  have f16 : Fld Z h10 a1 s4n "waiters" s11n (.ref a5) := (((P5.other W1 (Or.inr (slot_ne (Or.inr (ow hw 27 rfl)) (Or.inl (ow hw 52 rfl)) (by decide) (t := (.object s12n)) (t' := (.object s3n)) (by decide) (by decide)))).other W5 (Or.inr (slot_ne (Or.inr (ow hw 27 rfl)) (Or.inl (ow hw 31 rfl)) (by decide) (t := (.object s12n)) (t' := (.object s1n)) (by decide) (by decide)))).other W10 (Or.inr (slot_ne (Or.inr (ow hw 27 rfl)) (Or.inl (ow hw 75 rfl)) (by decide) (t := (.object s12n)) (t' := .long) (by decide) (by decide))))
  obtain ⟨fs, hr, hrun, hended, hW, hsame⟩ := X10.leave (v := none) (fun _ => rfl)
  refine ⟨_, _, pre0 _ ?_, hrun, hended, _, _, rfl, ?_, ⟨_, rfl⟩, hW, hsame.mono (by decide) (by decide)⟩
  · skip
    show Steps p.tables e below (s₁.setTop (mkF m 0 #[(vr a1), (vr a2), (vr a3)] [])) _
    refine XS.aloadN X0.here hx rfl (hb hby d10_0) rfl rfl ?_
    refine XS.aloadN X0.here hx rfl (hb hby d10_1) rfl rfl ?_
    refine st1 _ ?_
    refine XS.aloadN X1.here hx rfl (hb hby d10_5) rfl rfl ?_
    refine XS.aloadN X1.here hx rfl (hb hby d10_6) rfl rfl ?_
    show Steps p.tables e below (T1.setTop (mkF m 7 #[(vr a1), (vr a2), (vr a3)] [(.ref a3), (.ref a1)])) _
    refine st5 _ ?_
    refine XS.aloadN X5.here hx rfl (hb hby d10_10) rfl rfl ?_
    refine XS.dup X5.here hx rfl (hb hby d10_11) rfl rfl ?_
    refine st8 _ ?_
    refine XS.lconst X8.here hx rfl (hb hby d10_15) ?_
    show Steps p.tables e below (T8.setTop (mkF m 16 #[(vr a1), (vr a2), (vr a3)] [(.long 1), (.long q4), (.ref a1)])) _
    refine XS.ladd X8.here hx rfl (hb hby d10_16) rfl ?_
    refine st10 _ ?_
    exact X10.returnOut hx hret0 (hb hby d10_20) hr
  · show Q_au10_0 Z wMAX_LOCK_DELAY wGRANTED wQUEUED wBUSY wZERO a1 a2 a3 q4 a5 h0 n0 _ T10.heap _
    rw [e10]
    exact ⟨rfl, N10, K11, f12, Fw10, f13, f14, f15, f16⟩
theorem pd_5 : parseMethodDescriptor "(Lcom/example/umpired/umpired/server/SessionHandle;Ljava/time/Duration;)V" = some ⟨[(.object "com/example/umpired/umpired/server/SessionHandle"), (.object "java/time/Duration")], none⟩ := by decide +kernel
theorem d8_39 : decode prog_84_method_3_code 39 = .ok (.getstatic 39, 3) := by decide +kernel
theorem d8_42 : decode prog_84_method_3_code 42 = .ok (.astore 4, 2) := by decide +kernel
theorem d8_44 : decode prog_84_method_3_code 44 = .ok (.goto 47, 3) := by decide +kernel
theorem d8_91 : decode prog_84_method_3_code 91 = .ok (.aload 4, 2) := by decide +kernel
theorem d8_93 : decode prog_84_method_3_code 93 = .ok (.areturn, 1) := by decide +kernel
def Q_au8_0 (Z : State) (wMAX_LOCK_DELAY : Addr) (wGRANTED : Addr) (wQUEUED : Addr) (wBUSY : Addr) (wZERO : Addr) (a1 : Addr) (a2 : Addr) (a3 : Addr) (p4 : Int32) (qg5 : Int64) (a6 : Addr) (h0 : Heap) (n0 : Nat) (v : Option Value) (h : Heap) (L : List Loc) : Prop := v = some (.ref wGRANTED) ∧ Fr n0 L ∧ Keep h0 h [a1] ∧ Exa Z h a1 s4n ∧ Fld Z h a1 s4n "generation" "J" (.long (qg5 + (1 : Int64))) ∧ Fld Z h a1 s4n "heldBack" "Z" (.int 0) ∧ Fld Z h a1 s4n "holder" s5n (.ref a2) ∧ Fld Z h a1 s4n s10n s0n (.ref a3) ∧ Fld Z h a1 s4n "waiters" s11n (.ref a6)
theorem au8_0 (l : Launch) (Z : State) (a0 : Array Value) (hw : ∀ d ∈ tables_1, d.before a0 Z = true) (ws : List Jvm.Cond) (wMAX_LOCK_DELAY : Addr) (wGRANTED : Addr) (wQUEUED : Addr) (wBUSY : Addr) (wZERO : Addr) (hS : SS Z wMAX_LOCK_DELAY wGRANTED wQUEUED wBUSY wZERO) (a1 : Addr) (a2 : Addr) (a3 : Addr) (p4 : Int32) (qg5 : Int64) (a6 : Addr) (h0 : Heap) (n0 : Nat) (O0 : Old Z n0 h0) (P0 : Exa Z h0 a1 s4n) (P1 : Fld Z h0 a1 s4n "generation" "J" (.long qg5)) (P2 : Fld Z h0 a1 s4n "heldBack" "Z" (.int 0)) (P3 : Fld Z h0 a1 s4n "holder" s5n .null) (P4 : Fld Z h0 a1 s4n s10n s0n (.ref wZERO)) (P5 : Fld Z h0 a1 s4n "waiters" s11n (.ref a6)) (P6 : Exa Z h0 a2 s3n) (P16 : n0 ≤ a1) :
    MetB l M8 prog_84_method_3_code 5 (some (.object s2n)) ws (rmk 1 0 0 14) Z h0 #[(.ref a1), (.ref a2), (.ref a3), (.int p4)] (Q_au8_0 Z wMAX_LOCK_DELAY wGRANTED wQUEUED wBUSY wZERO a1 a2 a3 p4 qg5 a6 h0 n0) := by
  refine own_body (plainFor_of_name pn_com_example_umpired_umpired_server_NodeLock) ?_
  intro p e s m below meth c s₁ hx hby hml hown hnm hret0 hlk0 hZ X0 e0
  have N0 := Fr.nil n0
  have pre0 : ∀ t, Steps p.tables e below (s₁.setTop (mkF m 0 #[(vr a1), (vr a2), (vr a3), (vi p4), .unset] [])) t → Steps p.tables e below (s₁.setTop (entryFrame m #[(.ref a1), (.ref a2), (.ref a3), (.int p4)] 5)) t := fun t k => castTop (ef_au8_0 m a1 a2 a3 p4) k
  have K0 := Keep.refl h0 [a1]
  have hS0 := hS
  obtain ⟨S_wMAX_LOCK_DELAY, E_wMAX_LOCK_DELAY, S_wGRANTED, E_wGRANTED, S_wQUEUED, E_wQUEUED, S_wBUSY, E_wBUSY, F_seconds_wMAX_LOCK_DELAY, F_nanos_wMAX_LOCK_DELAY, S_wZERO, E_wZERO, F_seconds_wZERO, F_nanos_wZERO⟩ := hS0
  obtain ⟨T1, X1, e1, st1⟩ := getF X0 hx hZ hown (host := "") (Or.inl (ow hw 51 rfl)) Via.refl e0 P3 (g := (mkF m 2 #[(vr a1), (vr a2), (vr a3), (vi p4), .unset] [(.ref a1), (.ref a2)])) rfl rfl (hb hby d8_2)
  obtain ⟨cq2, kq2, q2a, q2b, q2c⟩ := isOf hZ e1 P6
  obtain ⟨_, _, ⟨T2, L2, k2, n2⟩, -, X2, ⟨Lc2, hQ2, l2, y2, z2⟩, st2⟩ := X1.virtualBack hx (y := M0) (z := M0) hown (mvT hZ (ow hw 63 rfl)) (mvT hZ (ow hw 64 rfl)) (notFace_of_selects (args := #[]) (mvT hZ (ow hw 66 rfl))) (mvT hZ (ow hw 66 rfl)) (mvT hZ (ow hw 65 rfl)) (by decide) (backOf (W := 0) (rmEqN l Z a0 hw [] wMAX_LOCK_DELAY wGRANTED wQUEUED wBUSY wZERO hS a2 h0 n0 O0 ) hZ (ow hw 67 rfl) (ow hw 37 rfl) (by decide) (by decide)) q2a q2c (g := (mkF m 5 #[(vr a1), (vr a2), (vr a3), (vi p4), .unset] [.null, (.ref a2)])) rfl (by rw [hml]; rfl) (Steps.refl _) (argsL := [.null]) (rest := []) (lenOf pd_4 rfl) rfl (by show 2 * 0 + _ ≤ _; exact Nat.le_of_eq rfl) (hb hby d8_5) (fun _ _ => ⟨rfl, e1, (by decide : 0 + 0 ≤ _), (by decide : 0 + 0 ≤ _)⟩)
  dsimp only [Pt.U, Pt.locs, Pt.cells, Pt.slots] at X2 l2 y2 z2 st2 hQ2
  subst l2 y2 z2
  obtain ⟨rfl, Nq2, K2q⟩ := hQ2
  have N2 := Fr.app N0 Nq2
  obtain ⟨T3, X3, e3, st3⟩ := getF X2 hx hZ hown (host := "") (Or.inl (ow hw 51 rfl)) Via.refl K2q P3 (g := (mkF m 20 #[(vr a1), (vr a2), (vr a3), (vi p4), .unset] [(.ref a1)])) rfl rfl (hb hby d8_20)
  obtain ⟨T4, X4, e4, st4⟩ := getF X3 hx hZ hown (host := "") (Or.inl (ow hw 68 rfl)) Via.refl e3 P2 (g := (mkF m 27 #[(vr a1), (vr a2), (vr a3), (vi p4), .unset] [(.ref a1)])) rfl rfl (hb hby d8_27)
  obtain ⟨cq5, q5, q5'⟩ := P0.cell
  obtain ⟨_, _, ⟨T5, L5, k5, n5⟩, -, X5, ⟨Lc5, hQ5, l5, y5, z5⟩, st5⟩ := X4.privateBack hx (y := M7) hown (mvT hZ (ow hw 70 rfl)) (mvT hZ (ow hw 71 rfl)) (own_selp (mvT hZ (ow hw 1 rfl)) (mvP hZ (ow hw 72 rfl)) (mvT hZ (ow hw 71 rfl)) (by decide)) (Cond.privateMethod_at (mvP hZ (ow hw 72 rfl) (args := #[]))) (mvT hZ (ow hw 73 rfl)) (by decide) (backOf (W := 0) (au10_0 l Z a0 hw [] wMAX_LOCK_DELAY wGRANTED wQUEUED wBUSY wZERO hS a1 a2 a3 qg5 a6 h0 n0 O0 P0 P1 P2 P3 P4 P5 P16) hZ (ow hw 73 rfl) (ow hw 2 rfl) (by decide) (by decide)) (g := (mkF m 36 #[(vr a1), (vr a2), (vr a3), (vi p4), .unset] [(.ref a3), (.ref a2), (.ref a1)])) rfl (by rw [hml]; rfl) (Steps.refl _) (a := a1) (by rw [e4]; exact q5) q5' (argsL := [(.ref a2), (.ref a3)]) (rest := []) (lenOf pd_5 rfl) rfl (by show 2 * 0 + _ ≤ _; exact Nat.le_of_eq rfl) (hb hby d8_36) (fun _ _ => ⟨rfl, e4, (by decide : 0 + 0 ≤ _), (by decide : 0 + 0 ≤ _)⟩)
  dsimp only [Pt.U, Pt.locs, Pt.cells, Pt.slots] at X5 l5 y5 z5 st5 hQ5
  subst l5 y5 z5
  obtain ⟨rfl, Nq5, K5q, p5_0, p5_1, p5_2, p5_3, p5_4, p5_5⟩ := hQ5
  have N5 := Fr.app N2 Nq5
  have O6 : Old Z n0 T5.heap := O0.keep K5q (allS P16 all0)
  have K6 : Keep h0 T5.heap [a1] := K0.trans K5q (allS (Or.inl (List.mem_of_getElem? (i := 0) rfl)) all0)
  obtain ⟨T7, X7, e7, st7⟩ := getS2 X5 hx hZ hown (host := "") (Or.inl (ow hw 76 rfl)) Via.refl rfl (S_wGRANTED.ext O6.2) (g := (mkF m 39 #[(vr a1), (vr a2), (vr a3), (vi p4), .unset] [])) rfl (hb hby d8_39)
  obtain ⟨fs, hr, hrun, hended, hW, hsame⟩ := X7.leave (v := some (.ref wGRANTED)) (fun h => by rw [hret0] at h; cases h)
  refine ⟨_, _, pre0 _ ?_, hrun, hended, _, _, rfl, ?_, ⟨_, rfl⟩, hW, hsame.mono (by decide) (by decide)⟩
  · skip
    show Steps p.tables e below (s₁.setTop (mkF m 0 #[(vr a1), (vr a2), (vr a3), (vi p4), .unset] [])) _
    refine XS.aloadN X0.here hx rfl (hb hby d8_0) rfl rfl ?_
    refine XS.aloadN X0.here hx rfl (hb hby d8_1) rfl rfl ?_
    refine st1 _ ?_
    refine st2.trans ?_
    refine XS.ifYes X2.here hx rfl (pc0 := 8) (pc' := 19) rfl (hb hby d8_8) rfl ((if0 _ _).trans (teq (by decide : (0 : Int32) = (0 : Int32))).1) (by decide) (by decide) ?_
    show Steps p.tables e below (T2.setTop (mkF m 19 #[(vr a1), (vr a2), (vr a3), (vi p4), .unset] [])) _
    refine XS.aloadN X2.here hx rfl (hb hby d8_19) rfl rfl ?_
    refine st3 _ ?_
    refine XS.ifnonnullNo X3.here hx rfl (hb hby d8_23) rfl ?_
    refine XS.aloadN X3.here hx rfl (hb hby d8_26) rfl rfl ?_
    refine st4 _ ?_
    show Steps p.tables e below (T4.setTop (mkF m 30 #[(vr a1), (vr a2), (vr a3), (vi p4), .unset] [(.int 0)])) _
    refine XS.ifNo X4.here hx rfl (hb hby d8_30) rfl ((if0 _ _).trans (teq (by decide : (0 : Int32) = (0 : Int32))).2) ?_
    refine XS.aloadN X4.here hx rfl (hb hby d8_33) rfl rfl ?_
    refine XS.aloadN X4.here hx rfl (hb hby d8_34) rfl rfl ?_
    refine XS.aloadN X4.here hx rfl (hb hby d8_35) rfl rfl ?_
    refine st5.trans ?_
    show Steps p.tables e below (T5.setTop (mkF m 39 #[(vr a1), (vr a2), (vr a3), (vi p4), .unset] [])) _
    refine st7 _ ?_
    refine XS.astore X7.here hx rfl (hb hby d8_42) rfl rfl (l' := #[(vr a1), (vr a2), (vr a3), (vi p4), (vr wGRANTED)]) rfl ?_
    refine XS.goto X7.here hx rfl (pc0 := 44) (pc' := 91) rfl (hb hby d8_44) (by decide) (by decide) ?_
    refine XS.aload X7.here hx rfl (hb hby d8_91) rfl rfl ?_
    jvm_step X7.here [X7.here.top, hx, (hb hby d8_93), X7.method', hret0, Value.isRef, FieldType.isReference]
    first | (intro acts; rw [hr _ acts rfl rfl rfl]) | rw [hr _ _ rfl rfl rfl]
    exact Steps.refl _
  · show Q_au8_0 Z wMAX_LOCK_DELAY wGRANTED wQUEUED wBUSY wZERO a1 a2 a3 p4 qg5 a6 h0 n0 _ T7.heap _
    rw [e7]
    exact ⟨rfl, N5, K6, p5_0, p5_1, p5_2, p5_3, p5_4, p5_5⟩
theorem pd_6 : parseMethodDescriptor "(Lcom/example/umpired/umpired/server/SessionHandle;Ljava/time/Duration;Z)Lcom/example/umpired/umpired/server/NodeLock$Outcome;" = some ⟨[(.object "com/example/umpired/umpired/server/SessionHandle"), (.object "java/time/Duration"), .boolean], some (.object "com/example/umpired/umpired/server/NodeLock$Outcome")⟩ := by decide +kernel
theorem ef_au8_1 (m : MethodId) (x0 : Addr) (x1 : Addr) (x2 : Addr) (x3 : Int32)  : entryFrame m #[(.ref x0), (.ref x1), (.ref x2), (.int x3)] 5 = mkF m 0 #[(vr x0), (vr x1), (vr x2), (vi x3), .unset] [] := by first | (simp [entryFrame, mkF, argsToLocals, Value.category]; done) | rfl
theorem d8_47 : decode prog_84_method_3_code 47 = .ok (.iload_n 3, 1) := by decide +kernel
theorem d8_48 : decode prog_84_method_3_code 48 = .ok (.ifCond .eq 38, 3) := by decide +kernel
theorem d8_86 : decode prog_84_method_3_code 86 = .ok (.getstatic 69, 3) := by decide +kernel
theorem d8_89 : decode prog_84_method_3_code 89 = .ok (.astore 4, 2) := by decide +kernel
def Q_au8_1 (Z : State) (wMAX_LOCK_DELAY : Addr) (wGRANTED : Addr) (wQUEUED : Addr) (wBUSY : Addr) (wZERO : Addr) (a1 : Addr) (a2 : Addr) (a3 : Addr) (a5 : Addr) (q8 : Int64) (q10 : Int64) (h0 : Heap) (n0 : Nat) (v : Option Value) (h : Heap) (L : List Loc) : Prop := v = some (.ref wBUSY) ∧ Fr n0 L ∧ h = h0
theorem au8_1 (l : Launch) (Z : State) (a0 : Array Value) (hw : ∀ d ∈ tables_1, d.before a0 Z = true) (ws : List Jvm.Cond) (wMAX_LOCK_DELAY : Addr) (wGRANTED : Addr) (wQUEUED : Addr) (wBUSY : Addr) (wZERO : Addr) (hS : SS Z wMAX_LOCK_DELAY wGRANTED wQUEUED wBUSY wZERO) (a1 : Addr) (a2 : Addr) (a3 : Addr) (a5 : Addr) (q8 : Int64) (q10 : Int64) (h0 : Heap) (n0 : Nat) (O0 : Old Z n0 h0) (P3 : Fld Z h0 a1 s4n "holder" s5n (.ref a5)) (P6 : Exa Z h0 a2 s3n) (P8 : Fld Z h0 a2 s3n "session" "J" (.long q8)) (P9 : Exa Z h0 a5 s3n) (P11 : Fld Z h0 a5 s3n "session" "J" (.long q10)) (P20 : q8 ≠ q10) :
    MetB l M8 prog_84_method_3_code 5 (some (.object s2n)) ws (rmk 1 0 0 14) Z h0 #[(.ref a1), (.ref a2), (.ref a3), (.int 0)] (Q_au8_1 Z wMAX_LOCK_DELAY wGRANTED wQUEUED wBUSY wZERO a1 a2 a3 a5 q8 q10 h0 n0) := by
  refine own_body (plainFor_of_name pn_com_example_umpired_umpired_server_NodeLock) ?_
  intro p e s m below meth c s₁ hx hby hml hown hnm hret0 hlk0 hZ X0 e0
  have N0 := Fr.nil n0
  have pre0 : ∀ t, Steps p.tables e below (s₁.setTop (mkF m 0 #[(vr a1), (vr a2), (vr a3), (vi 0), .unset] [])) t → Steps p.tables e below (s₁.setTop (entryFrame m #[(.ref a1), (.ref a2), (.ref a3), (.int 0)] 5)) t := fun t k => castTop (ef_au8_1 m a1 a2 a3 (0 : Int32)) k
  have hS0 := hS
  obtain ⟨S_wMAX_LOCK_DELAY, E_wMAX_LOCK_DELAY, S_wGRANTED, E_wGRANTED, S_wQUEUED, E_wQUEUED, S_wBUSY, E_wBUSY, F_seconds_wMAX_LOCK_DELAY, F_nanos_wMAX_LOCK_DELAY, S_wZERO, E_wZERO, F_seconds_wZERO, F_nanos_wZERO⟩ := hS0
  obtain ⟨T1, X1, e1, st1⟩ := getF X0 hx hZ hown (host := "") (Or.inl (ow hw 51 rfl)) Via.refl e0 P3 (g := (mkF m 2 #[(vr a1), (vr a2), (vr a3), (vi 0), .unset] [(.ref a1), (.ref a2)])) rfl rfl (hb hby d8_2)
  obtain ⟨cq2, kq2, q2a, q2b, q2c⟩ := isOf hZ e1 P6
  obtain ⟨_, _, ⟨T2, L2, k2, n2⟩, -, X2, ⟨Lc2, hQ2, l2, y2, z2⟩, st2⟩ := X1.virtualBack hx (y := M0) (z := M0) hown (mvT hZ (ow hw 63 rfl)) (mvT hZ (ow hw 64 rfl)) (notFace_of_selects (args := #[]) (mvT hZ (ow hw 66 rfl))) (mvT hZ (ow hw 66 rfl)) (mvT hZ (ow hw 65 rfl)) (by decide) (backOf (W := 0) (rmEqD l Z a0 hw [] wMAX_LOCK_DELAY wGRANTED wQUEUED wBUSY wZERO hS a2 a5 q8 q10 h0 n0 O0 P9 P8 P11 P20) hZ (ow hw 67 rfl) (ow hw 37 rfl) (by decide) (by decide)) q2a q2c (g := (mkF m 5 #[(vr a1), (vr a2), (vr a3), (vi 0), .unset] [(.ref a5), (.ref a2)])) rfl (by rw [hml]; rfl) (Steps.refl _) (argsL := [(.ref a5)]) (rest := []) (lenOf pd_4 rfl) rfl (by show 2 * 0 + _ ≤ _; exact Nat.le_of_eq rfl) (hb hby d8_5) (fun _ _ => ⟨rfl, e1, (by decide : 0 + 0 ≤ _), (by decide : 0 + 0 ≤ _)⟩)
  dsimp only [Pt.U, Pt.locs, Pt.cells, Pt.slots] at X2 l2 y2 z2 st2 hQ2
  subst l2 y2 z2
  obtain ⟨rfl, Nq2, K2q⟩ := hQ2
  have N2 := Fr.app N0 Nq2
  obtain ⟨T3, X3, e3, st3⟩ := getF X2 hx hZ hown (host := "") (Or.inl (ow hw 51 rfl)) Via.refl K2q P3 (g := (mkF m 20 #[(vr a1), (vr a2), (vr a3), (vi 0), .unset] [(.ref a1)])) rfl rfl (hb hby d8_20)
  obtain ⟨T4, X4, e4, st4⟩ := getS2 X3 hx hZ hown (host := "") (Or.inl (ow hw 238 rfl)) Via.refl e3 (S_wBUSY.ext O0.2) (g := (mkF m 86 #[(vr a1), (vr a2), (vr a3), (vi 0), .unset] [])) rfl (hb hby d8_86)
  obtain ⟨fs, hr, hrun, hended, hW, hsame⟩ := X4.leave (v := some (.ref wBUSY)) (fun h => by rw [hret0] at h; cases h)
  refine ⟨_, _, pre0 _ ?_, hrun, hended, _, _, rfl, ?_, ⟨_, rfl⟩, hW, hsame.mono (by decide) (by decide)⟩
  · skip
    show Steps p.tables e below (s₁.setTop (mkF m 0 #[(vr a1), (vr a2), (vr a3), (vi 0), .unset] [])) _
    refine XS.aloadN X0.here hx rfl (hb hby d8_0) rfl rfl ?_
    refine XS.aloadN X0.here hx rfl (hb hby d8_1) rfl rfl ?_
    refine st1 _ ?_
    refine st2.trans ?_
    refine XS.ifYes X2.here hx rfl (pc0 := 8) (pc' := 19) rfl (hb hby d8_8) rfl ((if0 _ _).trans (teq (by decide : (0 : Int32) = (0 : Int32))).1) (by decide) (by decide) ?_
    show Steps p.tables e below (T2.setTop (mkF m 19 #[(vr a1), (vr a2), (vr a3), (vi 0), .unset] [])) _
    refine XS.aloadN X2.here hx rfl (hb hby d8_19) rfl rfl ?_
    refine st3 _ ?_
    refine XS.ifnonnullYes X3.here hx rfl (pc0 := 23) (pc' := 47) rfl (hb hby d8_23) rfl (by decide) (by decide) ?_
    refine XS.iloadN X3.here hx rfl (hb hby d8_47) rfl ?_
    refine XS.ifYes X3.here hx rfl (pc0 := 48) (pc' := 86) rfl (hb hby d8_48) rfl ((if0 _ _).trans (teq (by decide : (0 : Int32) = (0 : Int32))).1) (by decide) (by decide) ?_
    show Steps p.tables e below (T3.setTop (mkF m 86 #[(vr a1), (vr a2), (vr a3), (vi 0), .unset] [])) _
    refine st4 _ ?_
    refine XS.astore X4.here hx rfl (hb hby d8_89) rfl rfl (l' := #[(vr a1), (vr a2), (vr a3), (vi 0), (vr wBUSY)]) rfl ?_
    refine XS.aload X4.here hx rfl (hb hby d8_91) rfl rfl ?_
    jvm_step X4.here [X4.here.top, hx, (hb hby d8_93), X4.method', hret0, Value.isRef, FieldType.isReference]
    first | (intro acts; rw [hr _ acts rfl rfl rfl]) | rw [hr _ _ rfl rfl rfl]
    exact Steps.refl _
  · show Q_au8_1 Z wMAX_LOCK_DELAY wGRANTED wQUEUED wBUSY wZERO a1 a2 a3 a5 q8 q10 h0 n0 _ T4.heap _
    rw [e4]
    exact ⟨rfl, N2, rfl⟩
theorem tl_tl_rm0_d_m1 {p : Program} {l : Launch} {e : Env} {s : State} {m : MethodId} {below : List Frame} {meth : Method} {c : Code} {T0 : State} {locs : List Loc} {Z : State} {a0 : Array Value} {h0 : Heap} {n0 : Nat} {margs : Array Value} (hw : ∀ d ∈ tables_1, d.before a0 Z = true) (wMAX_LOCK_DELAY : Addr) (wGRANTED : Addr) (wQUEUED : Addr) (wBUSY : Addr) (wZERO : Addr) (hS : SS Z wMAX_LOCK_DELAY wGRANTED wQUEUED wBUSY wZERO) (p1 : Int32) (p2 : Int32) (q3 : Int64) (q4 : Int64) (q5 : Int64) (q6 : Int64) (p7 : Int32) (p8 : Int32) (p9 : Int32) (p10 : Int32) (a11 : Addr) (a12 : Addr) (a13 : Addr) (a14 : Addr) (a15 : Addr) (q16 : Int64)
    (X0 : Stand p l e room_1 s m margs below meth c T0 locs 5 29) (hx : p.tables.exec = Jvm.exec) (hZ : Z.Warmed39 s.vm) (hby : c.code = code) (hml : c.maxLocals = 22) (hown : s.vm.findClass s6n = some m.cls) (hnm : meth.name = "law") (hret0 : meth.sig.returnType = some .boolean) (hlk0 : meth.locks = false) (e0 : T0.heap = h0) (N0 : Fr n0 locs) (O0 : Old Z n0 h0) (P0 : Exa Z h0 a11 s4n) (P1 : Fld Z h0 a11 s4n "generation" "J" (.long 0)) (P2 : Fld Z h0 a11 s4n "heldBack" "Z" (.int 0)) (P3 : Fld Z h0 a11 s4n "holder" s5n .null) (P4 : Fld Z h0 a11 s4n s10n s0n (.ref wZERO)) (P5 : Fld Z h0 a11 s4n "waiters" s11n (.ref a15)) (P6 : Exa Z h0 a13 s3n) (P8 : Fld Z h0 a13 s3n "session" "J" (.long q3)) (P9 : Exa Z h0 a14 s3n) (P11 : Fld Z h0 a14 s3n "session" "J" (.long q16)) (P24 : q16 ≠ q3) (P25 : n0 ≤ a11) (P31 : a11 ≠ a13) (P32 : a11 ≠ a14) :
    ∃ s₂ o, Steps p.tables e below (T0.setTop (mkF m 118 #[(vi p1), (vi p2), (vl q3), .second, (vl q4), .second, (vl q5), .second, (vl q6), .second, (vi p7), (vi p8), (vi p9), (vi p10), (vr a11), (vr a12), (vr a13), (vr a14), .unset, .unset, .unset, .unset] [])) s₂ ∧ s₂.status = .running ∧ Ended s₂ below o ∧ ∃ v L, o = .returned v ∧ (v = some (.int 1) ∧ Fr n0 L) ∧ FrameEnd s o s₂ L room_1.cells room_1.slots := by
  have pre0 : ∀ t, Steps p.tables e below (T0.setTop (mkF m 118 #[(vi p1), (vi p2), (vl q3), .second, (vl q4), .second, (vl q5), .second, (vl q6), .second, (vi p7), (vi p8), (vi p9), (vi p10), (vr a11), (vr a12), (vr a13), (vr a14), .unset, .unset, .unset, .unset] [])) t → Steps p.tables e below (T0.setTop (mkF m 118 #[(vi p1), (vi p2), (vl q3), .second, (vl q4), .second, (vl q5), .second, (vl q6), .second, (vi p7), (vi p8), (vi p9), (vi p10), (vr a11), (vr a12), (vr a13), (vr a14), .unset, .unset, .unset, .unset] [])) t := fun t k => k
  have hS0 := hS
  obtain ⟨S_wMAX_LOCK_DELAY, E_wMAX_LOCK_DELAY, S_wGRANTED, E_wGRANTED, S_wQUEUED, E_wQUEUED, S_wBUSY, E_wBUSY, F_seconds_wMAX_LOCK_DELAY, F_nanos_wMAX_LOCK_DELAY, S_wZERO, E_wZERO, F_seconds_wZERO, F_nanos_wZERO⟩ := hS0
  obtain ⟨cq1, kq1, q1a, q1b, q1c⟩ := isOf hZ e0 P0
  obtain ⟨_, _, ⟨T1, L1, k1, n1⟩, -, X1, ⟨Lc1, hQ1, l1, y1, z1⟩, st1⟩ := X0.virtualBack hx (y := M8) (z := M8) hown (mvT hZ (ow hw 58 rfl)) (mvT hZ (ow hw 59 rfl)) (notFace_of_selects (args := #[]) (mvT hZ (ow hw 61 rfl))) (mvT hZ (ow hw 61 rfl)) (mvT hZ (ow hw 60 rfl)) (by decide) (backOf (W := 0) (au8_0 l Z a0 hw [] wMAX_LOCK_DELAY wGRANTED wQUEUED wBUSY wZERO hS a11 a13 a12 p10 (0 : Int64) a15 h0 n0 O0 P0 P1 P2 P3 P4 P5 P6 P25) hZ (ow hw 62 rfl) (ow hw 2 rfl) (by decide) (by decide)) q1a q1c (g := (mkF m 126 #[(vi p1), (vi p2), (vl q3), .second, (vl q4), .second, (vl q5), .second, (vl q6), .second, (vi p7), (vi p8), (vi p9), (vi p10), (vr a11), (vr a12), (vr a13), (vr a14), .unset, .unset, .unset, .unset] [(.int p10), (.ref a12), (.ref a13), (.ref a11)])) rfl (by rw [hml]; rfl) (Steps.refl _) (argsL := [(.ref a13), (.ref a12), (.int p10)]) (rest := []) (lenOf pd_6 rfl) rfl (by show 2 * 0 + _ ≤ _; exact Nat.le_of_eq rfl) (hb hby at_126) (fun _ _ => ⟨rfl, e0, (by decide : 5 + 0 ≤ _), (by decide : 29 + 0 ≤ _)⟩)
  dsimp only [Pt.U, Pt.locs, Pt.cells, Pt.slots] at X1 l1 y1 z1 st1 hQ1
  subst l1 y1 z1
  obtain ⟨rfl, Nq1, K1q, p1_0, p1_1, p1_2, p1_3, p1_4, p1_5⟩ := hQ1
  have N1 := Fr.app N0 Nq1
  have O2 : Old Z n0 T1.heap := O0.keep K1q (allS P25 all0)
  have p1_1f : Fld Z T1.heap a11 s4n "generation" "J" (.long 1) := by have q := p1_1; rw [(by decide : ((0 : Int64) + (1 : Int64)) = (1 : Int64))] at q; exact q
  have f3 : Exa Z T1.heap a14 s3n := (P9.keep K1q)
  have f4 : Fld Z T1.heap a14 s3n "session" "J" (.long q16) := (P11.keep K1q (ninS (Ne.symm P32) nin0))
  have f5 : Exa Z T1.heap a13 s3n := (P6.keep K1q)
  have f6 : Fld Z T1.heap a13 s3n "session" "J" (.long q3) := (P8.keep K1q (ninS (Ne.symm P31) nin0))
  obtain ⟨cq7, kq7, q7a, q7b, q7c⟩ := isOf hZ rfl p1_0
  obtain ⟨_, _, ⟨T7, L7, k7, n7⟩, -, X7, ⟨Lc7, hQ7, l7, y7, z7⟩, st7⟩ := X1.virtualBack hx (y := M8) (z := M8) hown (mvT hZ (ow hw 58 rfl)) (mvT hZ (ow hw 59 rfl)) (notFace_of_selects (args := #[]) (mvT hZ (ow hw 61 rfl))) (mvT hZ (ow hw 61 rfl)) (mvT hZ (ow hw 60 rfl)) (by decide) (backOf (W := 0) (au8_1 l Z a0 hw [] wMAX_LOCK_DELAY wGRANTED wQUEUED wBUSY wZERO hS a11 a14 a12 a13 q16 q3 T1.heap n0 O2 p1_3 f3 f4 f5 f6 P24) hZ (ow hw 62 rfl) (ow hw 2 rfl) (by decide) (by decide)) q7a q7c (g := (mkF m 137 #[(vi p1), (vi p2), (vl q3), .second, (vl q4), .second, (vl q5), .second, (vl q6), .second, (vi p7), (vi p8), (vi p9), (vi p10), (vr a11), (vr a12), (vr a13), (vr a14), .unset, .unset, .unset, .unset] [(.int 0), (.ref a12), (.ref a14), (.ref a11)])) rfl (by rw [hml]; rfl) (Steps.refl _) (argsL := [(.ref a14), (.ref a12), (.int 0)]) (rest := []) (lenOf pd_6 rfl) rfl (by show 2 * 0 + _ ≤ _; exact Nat.le_of_eq rfl) (hb hby at_137) (fun _ _ => ⟨rfl, rfl, (by decide : 5 + 0 ≤ _), (by decide : 29 + 0 ≤ _)⟩)
  dsimp only [Pt.U, Pt.locs, Pt.cells, Pt.slots] at X7 l7 y7 z7 st7 hQ7
  subst l7 y7 z7
  obtain ⟨rfl, Nq7, K7q⟩ := hQ7
  have N7 := Fr.app N1 Nq7
  have pre8 : ∀ t, Steps p.tables e below (T7.setTop (mkF m 445 #[(vi p1), (vi p2), (vl q3), .second, (vl q4), .second, (vl q5), .second, (vl q6), .second, (vi p7), (vi p8), (vi p9), (vi p10), (vr a11), (vr a12), (vr a13), (vr a14), (vi 1), (vl 1), .second, .unset] [(.int (lcmpW q6 (1 : Int64)))])) t → Steps p.tables e below (T0.setTop (mkF m 118 #[(vi p1), (vi p2), (vl q3), .second, (vl q4), .second, (vl q5), .second, (vl q6), .second, (vi p7), (vi p8), (vi p9), (vi p10), (vr a11), (vr a12), (vr a13), (vr a14), .unset, .unset, .unset, .unset] [])) t := by
    intro t k
    refine pre0 t ?_
    show Steps p.tables e below (T0.setTop (mkF m 118 #[(vi p1), (vi p2), (vl q3), .second, (vl q4), .second, (vl q5), .second, (vl q6), .second, (vi p7), (vi p8), (vi p9), (vi p10), (vr a11), (vr a12), (vr a13), (vr a14), .unset, .unset, .unset, .unset] [])) _
    refine XS.aload X0.here hx rfl (hb hby at_118) rfl rfl ?_
    refine XS.aload X0.here hx rfl (hb hby at_120) rfl rfl ?_
    refine XS.aload X0.here hx rfl (hb hby at_122) rfl rfl ?_
    refine XS.iload X0.here hx rfl (hb hby at_124) rfl ?_
    refine st1.trans ?_
    show Steps p.tables e below (T1.setTop (mkF m 129 #[(vi p1), (vi p2), (vl q3), .second, (vl q4), .second, (vl q5), .second, (vl q6), .second, (vi p7), (vi p8), (vi p9), (vi p10), (vr a11), (vr a12), (vr a13), (vr a14), .unset, .unset, .unset, .unset] [(.ref wGRANTED)])) _
    refine XS.pop X1.here hx rfl (hb hby at_129) rfl rfl ?_
    refine XS.aload X1.here hx rfl (hb hby at_130) rfl rfl ?_
    refine XS.aload X1.here hx rfl (hb hby at_132) rfl rfl ?_
    refine XS.aload X1.here hx rfl (hb hby at_134) rfl rfl ?_
    refine XS.iconst X1.here hx rfl (hb hby at_136) ?_
    show Steps p.tables e below (T1.setTop (mkF m 137 #[(vi p1), (vi p2), (vl q3), .second, (vl q4), .second, (vl q5), .second, (vl q6), .second, (vi p7), (vi p8), (vi p9), (vi p10), (vr a11), (vr a12), (vr a13), (vr a14), .unset, .unset, .unset, .unset] [(.int 0), (.ref a12), (.ref a14), (.ref a11)])) _
    refine st7.trans ?_
    refine XS.pop X7.here hx rfl (hb hby at_140) rfl rfl ?_
    refine XS.iconst X7.here hx rfl (hb hby at_141) ?_
    refine XS.istore X7.here hx rfl (hb hby at_142) rfl (l' := #[(vi p1), (vi p2), (vl q3), .second, (vl q4), .second, (vl q5), .second, (vl q6), .second, (vi p7), (vi p8), (vi p9), (vi p10), (vr a11), (vr a12), (vr a13), (vr a14), (vi 1), .unset, .unset, .unset]) rfl ?_
    refine XS.lconst X7.here hx rfl (hb hby at_144) ?_
    show Steps p.tables e below (T7.setTop (mkF m 145 #[(vi p1), (vi p2), (vl q3), .second, (vl q4), .second, (vl q5), .second, (vl q6), .second, (vi p7), (vi p8), (vi p9), (vi p10), (vr a11), (vr a12), (vr a13), (vr a14), (vi 1), .unset, .unset, .unset] [(.long 1)])) _
    refine XS.lstore X7.here hx rfl (hb hby at_145) rfl (l' := #[(vi p1), (vi p2), (vl q3), .second, (vl q4), .second, (vl q5), .second, (vl q6), .second, (vi p7), (vi p8), (vi p9), (vi p10), (vr a11), (vr a12), (vr a13), (vr a14), (vi 1), (vl 1), .second, .unset]) rfl ?_
    refine XS.goto X7.here hx rfl (pc0 := 147) (pc' := 435) rfl (hb hby at_147) (by decide) (by decide) ?_
    refine XS.iload X7.here hx rfl (hb hby at_435) rfl ?_
    refine XS.ifNo X7.here hx rfl (hb hby at_437) rfl ((if0 _ _).trans (feq (by decide : ¬ ((1 : Int32) = (0 : Int32)))).1) ?_
    refine XS.lload X7.here hx rfl (hb hby at_440) rfl ?_
    show Steps p.tables e below (T7.setTop (mkF m 442 #[(vi p1), (vi p2), (vl q3), .second, (vl q4), .second, (vl q5), .second, (vl q6), .second, (vi p7), (vi p8), (vi p9), (vi p10), (vr a11), (vr a12), (vr a13), (vr a14), (vi 1), (vl 1), .second, .unset] [(.long q6)])) _
    refine XS.lload X7.here hx rfl (hb hby at_442) rfl ?_
    refine XS.lcmp X7.here hx rfl (hb hby at_444) rfl ?_
    exact k
  obtain ⟨exp, hexp⟩ : ∃ z : Int32, z = (if (lcmpW q6 (1 : Int64)) = (0 : Int32) then (1 : Int32) else (0 : Int32)) := ⟨_, rfl⟩
  have pre10 : ∀ t, Steps p.tables e below (T7.setTop (mkF m 453 #[(vi p1), (vi p2), (vl q3), .second, (vl q4), .second, (vl q5), .second, (vl q6), .second, (vi p7), (vi p8), (vi p9), (vi p10), (vr a11), (vr a12), (vr a13), (vr a14), (vi 1), (vl 1), .second, .unset] [(.int exp)])) t → Steps p.tables e below (T0.setTop (mkF m 118 #[(vi p1), (vi p2), (vl q3), .second, (vl q4), .second, (vl q5), .second, (vl q6), .second, (vi p7), (vi p8), (vi p9), (vi p10), (vr a11), (vr a12), (vr a13), (vr a14), .unset, .unset, .unset, .unset] [])) t := by
    intro t k
    rw [hexp] at k
    refine pre8 t ?_
    show Steps p.tables e below (T7.setTop (mkF m 445 #[(vi p1), (vi p2), (vl q3), .second, (vl q4), .second, (vl q5), .second, (vl q6), .second, (vi p7), (vi p8), (vi p9), (vi p10), (vr a11), (vr a12), (vr a13), (vr a14), (vi 1), (vl 1), .second, .unset] [(.int (lcmpW q6 (1 : Int64)))])) _
    rcases Decidable.em ((lcmpW q6 (1 : Int64)) = (0 : Int32)) with hm9 | hm9
    · first | simp only [if_pos hm9] at k | skip
      refine XS.ifNo X7.here hx rfl (hb hby at_445) rfl ((if0 _ _).trans (teq hm9).2) ?_
      refine XS.iconst X7.here hx rfl (hb hby at_448) ?_
      refine XS.goto X7.here hx rfl (pc0 := 449) (pc' := 453) rfl (hb hby at_449) (by decide) (by decide) ?_
      exact k
    · first | simp only [if_neg hm9] at k | skip
      refine XS.ifYes X7.here hx rfl (pc0 := 445) (pc' := 452) rfl (hb hby at_445) rfl ((if0 _ _).trans (feq hm9).2) (by decide) (by decide) ?_
      refine XS.iconst X7.here hx rfl (hb hby at_452) ?_
      exact k
  obtain ⟨cq11, kq11, q11a, q11b, q11c⟩ := isOf hZ K7q p1_0
  obtain ⟨_, _, ⟨T11, L11, k11, n11⟩, -, X11, ⟨Lc11, hQ11, l11, y11, z11⟩, st11⟩ := X7.virtualBack hx (y := M1) (z := M1) hown (mvT hZ (ow hw 46 rfl)) (mvT hZ (ow hw 47 rfl)) (notFace_of_selects (args := #[]) (mvT hZ (ow hw 49 rfl))) (mvT hZ (ow hw 49 rfl)) (mvT hZ (ow hw 48 rfl)) (by decide) (backOf (W := 0) (rmHeld l Z a0 hw [] wMAX_LOCK_DELAY wGRANTED wQUEUED wBUSY wZERO hS a11 a13 (1 : Int64) q6 T1.heap n0 O2 p1_3 p1_1f) hZ (ow hw 50 rfl) (ow hw 2 rfl) (by decide) (by decide)) q11a q11c (g := (mkF m 459 #[(vi p1), (vi p2), (vl q3), .second, (vl q4), .second, (vl q5), .second, (vl q6), .second, (vi p7), (vi p8), (vi p9), (vi p10), (vr a11), (vr a12), (vr a13), (vr a14), (vi 1), (vl 1), .second, (vi exp)] [(.long q6), (.ref a11)])) rfl (by rw [hml]; rfl) (Steps.refl _) (argsL := [(.long q6)]) (rest := []) (lenOf pd_3 rfl) rfl (by show 2 * 0 + _ ≤ _; exact Nat.le_of_eq rfl) (hb hby at_459) (fun _ _ => ⟨rfl, K7q, (by decide : 5 + 0 ≤ _), (by decide : 29 + 0 ≤ _)⟩)
  dsimp only [Pt.U, Pt.locs, Pt.cells, Pt.slots] at X11 l11 y11 z11 st11 hQ11
  subst l11 y11 z11
  obtain ⟨r_11, rfl, Nq11, K11q, p11_0⟩ := hQ11
  have N11 := Fr.app N7 Nq11
  obtain ⟨fs, hr, hrun, hended, hW, hsame⟩ := X11.leave (v := some (.int 1)) (fun h => by rw [hret0] at h; cases h)
  refine ⟨_, _, pre10 _ ?_, hrun, hended, _, _, rfl, ?_, ⟨_, rfl⟩, hW, hsame.mono (by decide) (by decide)⟩
  · skip
    show Steps p.tables e below (T7.setTop (mkF m 453 #[(vi p1), (vi p2), (vl q3), .second, (vl q4), .second, (vl q5), .second, (vl q6), .second, (vi p7), (vi p8), (vi p9), (vi p10), (vr a11), (vr a12), (vr a13), (vr a14), (vi 1), (vl 1), .second, .unset] [(.int exp)])) _
    refine XS.istore X7.here hx rfl (hb hby at_453) rfl (l' := #[(vi p1), (vi p2), (vl q3), .second, (vl q4), .second, (vl q5), .second, (vl q6), .second, (vi p7), (vi p8), (vi p9), (vi p10), (vr a11), (vr a12), (vr a13), (vr a14), (vi 1), (vl 1), .second, (vi exp)]) rfl ?_
    refine XS.aload X7.here hx rfl (hb hby at_455) rfl rfl ?_
    refine XS.lload X7.here hx rfl (hb hby at_457) rfl ?_
    refine st11.trans ?_
    refine XS.iload X11.here hx rfl (hb hby at_462) rfl ?_
    show Steps p.tables e below (T11.setTop (mkF m 464 #[(vi p1), (vi p2), (vl q3), .second, (vl q4), .second, (vl q5), .second, (vl q6), .second, (vi p7), (vi p8), (vi p9), (vi p10), (vr a11), (vr a12), (vr a13), (vr a14), (vi 1), (vl 1), .second, (vi exp)] [(.int exp), (.int r_11)])) _
    refine XS.icmpNo X11.here hx rfl (hb hby at_464) rfl (teq (p11_0.trans ((own_sym _ _).trans hexp.symm) : r_11 = exp)).2 ?_
    refine XS.iconst X11.here hx rfl (hb hby at_467) ?_
    refine XS.goto X11.here hx rfl (pc0 := 468) (pc' := 472) rfl (hb hby at_468) (by decide) (by decide) ?_
    exact retN X11 hx (t := .boolean) hret0 (by simp) (hb hby at_472) hr
  · skip
    exact ⟨rfl, N11⟩
theorem ef_au11_0 (m : MethodId) (x0 : Addr)  : entryFrame m #[(.ref x0)] 1 = mkF m 0 #[(vr x0)] [] := by first | (simp [entryFrame, mkF, argsToLocals, Value.category]; done) | rfl
theorem d11_0 : decode prog_84_method_13_code 0 = .ok (.aload_n 0, 1) := by decide +kernel
theorem d11_1 : decode prog_84_method_13_code 1 = .ok (.aconst_null, 1) := by decide +kernel
theorem d11_2 : decode prog_84_method_13_code 2 = .ok (.putfield 29, 3) := by decide +kernel
theorem d11_5 : decode prog_84_method_13_code 5 = .ok (.aload_n 0, 1) := by decide +kernel
theorem d11_6 : decode prog_84_method_13_code 6 = .ok (.invokevirtual 112, 3) := by decide +kernel
theorem ef_au12_0 (m : MethodId) (x0 : Addr)  : entryFrame m #[(.ref x0)] 2 = mkF m 0 #[(vr x0), .unset] [] := by first | (simp [entryFrame, mkF, argsToLocals, Value.category]; done) | rfl
theorem d12_0 : decode prog_84_method_22_code 0 = .ok (.aload_n 0, 1) := by decide +kernel
theorem d12_1 : decode prog_84_method_22_code 1 = .ok (.getfield 10, 3) := by decide +kernel
theorem d12_4 : decode prog_84_method_22_code 4 = .ok (.invokeinterface 188 1, 5) := by decide +kernel
theorem ef_au13_0 (m : MethodId) (x0 : Addr)  : entryFrame m #[(.ref x0)] 1 = mkF m 0 #[(vr x0)] [] := by first | (simp [entryFrame, mkF, argsToLocals, Value.category]; done) | rfl
theorem d13_0 : decode jdk_21_method_31_code 0 = .ok (.aload_n 0, 1) := by decide +kernel
theorem d13_1 : decode jdk_21_method_31_code 1 = .ok (.invokevirtual 93, 3) := by decide +kernel
theorem ef_au14_0 (m : MethodId) (x0 : Addr)  : entryFrame m #[(.ref x0)] 4 = mkF m 0 #[(vr x0), .unset, .unset, .unset] [] := by first | (simp [entryFrame, mkF, argsToLocals, Value.category]; done) | rfl
theorem d14_0 : decode jdk_21_method_20_code 0 = .ok (.aload_n 0, 1) := by decide +kernel
theorem d14_1 : decode jdk_21_method_20_code 1 = .ok (.getfield 3, 3) := by decide +kernel
theorem d14_4 : decode jdk_21_method_20_code 4 = .ok (.dup, 1) := by decide +kernel
theorem d14_5 : decode jdk_21_method_20_code 5 = .ok (.astore_n 1, 1) := by decide +kernel
theorem d14_6 : decode jdk_21_method_20_code 6 = .ok (.aload_n 0, 1) := by decide +kernel
theorem d14_7 : decode jdk_21_method_20_code 7 = .ok (.getfield 24, 3) := by decide +kernel
theorem d14_10 : decode jdk_21_method_20_code 10 = .ok (.dup, 1) := by decide +kernel
theorem d14_11 : decode jdk_21_method_20_code 11 = .ok (.istore_n 2, 1) := by decide +kernel
theorem d14_12 : decode jdk_21_method_20_code 12 = .ok (.invokestatic 103, 3) := by decide +kernel
theorem ef_au15_0 (m : MethodId) (x0 : Addr) (x1 : Int32)  : entryFrame m #[(.ref x0), (.int x1)] 2 = mkF m 0 #[(vr x0), (vi x1)] [] := by first | (simp [entryFrame, mkF, argsToLocals, Value.category]; done) | rfl
theorem d15_0 : decode jdk_21_method_10_code 0 = .ok (.aload_n 0, 1) := by decide +kernel
theorem d15_1 : decode jdk_21_method_10_code 1 = .ok (.iload_n 1, 1) := by decide +kernel
theorem d15_2 : decode jdk_21_method_10_code 2 = .ok (.aaload, 1) := by decide +kernel
theorem d15_3 : decode jdk_21_method_10_code 3 = .ok (.areturn, 1) := by decide +kernel
def Q_au15_0 (Z : State) (wMAX_LOCK_DELAY : Addr) (wGRANTED : Addr) (wQUEUED : Addr) (wBUSY : Addr) (wZERO : Addr) (a1 : Addr) (k2 : ClassId) (h0 : Heap) (n0 : Nat) (v : Option Value) (h : Heap) (L : List Loc) : Prop := v = some .null ∧ Fr n0 L ∧ h = h0
theorem au15_0 (l : Launch) (Z : State) (a0 : Array Value) (hw : ∀ d ∈ tables_1, d.before a0 Z = true) (ws : List Jvm.Cond) (wMAX_LOCK_DELAY : Addr) (wGRANTED : Addr) (wQUEUED : Addr) (wBUSY : Addr) (wZERO : Addr) (hS : SS Z wMAX_LOCK_DELAY wGRANTED wQUEUED wBUSY wZERO) (a1 : Addr) (k2 : ClassId) (h0 : Heap) (n0 : Nat) (O0 : Old Z n0 h0) (P0 : Arv Z h0 a1 k2 (.object s9n) (17 : Int32) ([.null, .null, .null, .null, .null, .null, .null, .null, .null, .null, .null, .null, .null, .null, .null, .null, .null]) .null) :
    MetB l M9 jdk_21_method_10_code 2 (some (.object s9n)) ws (rmk 0 0 0 0) Z h0 #[(.ref a1), (.int 0)] (Q_au15_0 Z wMAX_LOCK_DELAY wGRANTED wQUEUED wBUSY wZERO a1 k2 h0 n0) := by
  refine own_body (plainFor_of_name pn_java_util_ArrayDeque) ?_
  intro p e s m below meth c s₁ hx hby hml hown hnm hret0 hlk0 hZ X0 e0
  have N0 := Fr.nil n0
  have pre0 : ∀ t, Steps p.tables e below (s₁.setTop (mkF m 0 #[(vr a1), (vi 0)] [])) t → Steps p.tables e below (s₁.setTop (entryFrame m #[(.ref a1), (.int 0)] 2)) t := fun t k => castTop (ef_au15_0 m a1 (0 : Int32)) k
  have hS0 := hS
  obtain ⟨S_wMAX_LOCK_DELAY, E_wMAX_LOCK_DELAY, S_wGRANTED, E_wGRANTED, S_wQUEUED, E_wQUEUED, S_wBUSY, E_wBUSY, F_seconds_wMAX_LOCK_DELAY, F_nanos_wMAX_LOCK_DELAY, S_wZERO, E_wZERO, F_seconds_wZERO, F_nanos_wZERO⟩ := hS0
  obtain ⟨cl1, Ar1, q1, Sz1, Nn1, Ha1, Gg1⟩ := (id P0)
  have hin1 : ¬ ((0 : Int32) < 0 ∨ cl1.slots.size ≤ ((0 : Int32)).toNatClampNeg) := inb_of Sz1 ⟨by decide, by decide⟩
  have hat1 : cl1.slots[((0 : Int32)).toNatClampNeg]? = some .null := Ha1.at hin1 rfl
  obtain ⟨fs, hr, hrun, hended, hW, hsame⟩ := X0.leave (v := some .null) (fun h => by rw [hret0] at h; cases h)
  refine ⟨_, _, pre0 _ ?_, hrun, hended, _, _, rfl, ?_, ⟨_, rfl⟩, hW, hsame.mono (by decide) (by decide)⟩
  · skip
    show Steps p.tables e below (s₁.setTop (mkF m 0 #[(vr a1), (vi 0)] [])) _
    refine XS.aloadN X0.here hx rfl (hb hby d15_0) rfl rfl ?_
    refine XS.iloadN X0.here hx rfl (hb hby d15_1) rfl ?_
    refine X0.aaload hx (j := (0 : Int32)) (v := .null) (by rw [e0]; exact Ar1.1) (State.isArrayOf_alike hZ.alike Ar1.2.1) rfl Ar1.2.2 hin1 hat1 (g := (mkF m 2 #[(vr a1), (vi 0)] [(.int 0), (.ref a1)])) rfl rfl (hb hby d15_2) _ ?_
    jvm_step X0.here [X0.here.top, hx, (hb hby d15_3), X0.method', hret0, Value.isRef, FieldType.isReference]
    first | (intro acts; rw [hr _ acts rfl rfl rfl]) | rw [hr _ _ rfl rfl rfl]
    exact Steps.refl _
  · show Q_au15_0 Z wMAX_LOCK_DELAY wGRANTED wQUEUED wBUSY wZERO a1 k2 h0 n0 _ s₁.heap _
    rw [e0]
    exact ⟨rfl, N0, rfl⟩
theorem pd_7 : parseMethodDescriptor "([Ljava/lang/Object;I)Ljava/lang/Object;" = some ⟨[(.array (.object "java/lang/Object")), .int], some (.object "java/lang/Object")⟩ := by decide +kernel
theorem d14_15 : decode jdk_21_method_20_code 15 = .ok (.astore_n 3, 1) := by decide +kernel
theorem d14_16 : decode jdk_21_method_20_code 16 = .ok (.aload_n 3, 1) := by decide +kernel
theorem d14_17 : decode jdk_21_method_20_code 17 = .ok (.ifnull 17, 3) := by decide +kernel
theorem d14_34 : decode jdk_21_method_20_code 34 = .ok (.aload_n 3, 1) := by decide +kernel
theorem d14_35 : decode jdk_21_method_20_code 35 = .ok (.areturn, 1) := by decide +kernel
def Q_au14_0 (Z : State) (wMAX_LOCK_DELAY : Addr) (wGRANTED : Addr) (wQUEUED : Addr) (wBUSY : Addr) (wZERO : Addr) (a1 : Addr) (a2 : Addr) (k3 : ClassId) (h0 : Heap) (n0 : Nat) (v : Option Value) (h : Heap) (L : List Loc) : Prop := v = some .null ∧ Fr n0 L ∧ h = h0
theorem au14_0 (l : Launch) (Z : State) (a0 : Array Value) (hw : ∀ d ∈ tables_1, d.before a0 Z = true) (ws : List Jvm.Cond) (wMAX_LOCK_DELAY : Addr) (wGRANTED : Addr) (wQUEUED : Addr) (wBUSY : Addr) (wZERO : Addr) (hS : SS Z wMAX_LOCK_DELAY wGRANTED wQUEUED wBUSY wZERO) (a1 : Addr) (a2 : Addr) (k3 : ClassId) (h0 : Heap) (n0 : Nat) (O0 : Old Z n0 h0) (P1 : Fld Z h0 a1 s7n "elements" s8n (.ref a2)) (P2 : Fld Z h0 a1 s7n "head" "I" (.int 0)) (P4 : Arv Z h0 a2 k3 (.object s9n) (17 : Int32) ([.null, .null, .null, .null, .null, .null, .null, .null, .null, .null, .null, .null, .null, .null, .null, .null, .null]) .null) :
    MetB l M10 jdk_21_method_20_code 4 (some (.object s9n)) ws (rmk 1 0 0 13) Z h0 #[(.ref a1)] (Q_au14_0 Z wMAX_LOCK_DELAY wGRANTED wQUEUED wBUSY wZERO a1 a2 k3 h0 n0) := by
  refine own_body (plainFor_of_name pn_java_util_ArrayDeque) ?_
  intro p e s m below meth c s₁ hx hby hml hown hnm hret0 hlk0 hZ X0 e0
  have N0 := Fr.nil n0
  have pre0 : ∀ t, Steps p.tables e below (s₁.setTop (mkF m 0 #[(vr a1), .unset, .unset, .unset] [])) t → Steps p.tables e below (s₁.setTop (entryFrame m #[(.ref a1)] 4)) t := fun t k => castTop (ef_au14_0 m a1) k
  have hS0 := hS
  obtain ⟨S_wMAX_LOCK_DELAY, E_wMAX_LOCK_DELAY, S_wGRANTED, E_wGRANTED, S_wQUEUED, E_wQUEUED, S_wBUSY, E_wBUSY, F_seconds_wMAX_LOCK_DELAY, F_nanos_wMAX_LOCK_DELAY, S_wZERO, E_wZERO, F_seconds_wZERO, F_nanos_wZERO⟩ := hS0
  obtain ⟨T1, X1, e1, st1⟩ := getF X0 hx hZ hown (host := "") (Or.inl (ow hw 24 rfl)) Via.refl e0 P1 (g := (mkF m 1 #[(vr a1), .unset, .unset, .unset] [(.ref a1)])) rfl rfl (hb hby d14_1)
  obtain ⟨T2, X2, e2, st2⟩ := getF X1 hx hZ hown (host := "") (Or.inl (ow hw 102 rfl)) Via.refl e1 P2 (g := (mkF m 7 #[(vr a1), (vr a2), .unset, .unset] [(.ref a1), (.ref a2)])) rfl rfl (hb hby d14_7)
  obtain ⟨_, _, ⟨T3, L3, k3, n3⟩, -, X3, ⟨Lc3, hQ3, l3, y3, z3⟩, st3⟩ := Jvm.LawKit.callS X2 hx (y := M9) hown (mvT hZ (ow hw 104 rfl)) (mvT hZ (ow hw 105 rfl)) (mvT hZ (ow hw 11 rfl)) (mvT hZ (ow hw 106 rfl)) (by decide) (backOf (W := 0) (au15_0 l Z a0 hw [] wMAX_LOCK_DELAY wGRANTED wQUEUED wBUSY wZERO hS a2 k3 h0 n0 O0 P4) hZ (ow hw 106 rfl) (ow hw 11 rfl) (by decide) (by decide)) (g := (mkF m 12 #[(vr a1), (vr a2), (vi 0), .unset] [(.int 0), (.ref a2)])) rfl (by rw [hml]; rfl) (argsL := [(.ref a2), (.int 0)]) (rest := []) (lenOf pd_7 rfl) rfl (by show 2 * 0 + _ ≤ _; exact Nat.le_of_eq rfl) (hb hby d14_12) (fun _ _ => ⟨rfl, e2, (by decide : 0 + 0 ≤ _), (by decide : 0 + 0 ≤ _)⟩)
  dsimp only [Pt.U, Pt.locs, Pt.cells, Pt.slots] at X3 l3 y3 z3 st3 hQ3
  subst l3 y3 z3
  obtain ⟨rfl, Nq3, K3q⟩ := hQ3
  have N3 := Fr.app N0 Nq3
  obtain ⟨fs, hr, hrun, hended, hW, hsame⟩ := X3.leave (v := some .null) (fun h => by rw [hret0] at h; cases h)
  refine ⟨_, _, pre0 _ ?_, hrun, hended, _, _, rfl, ?_, ⟨_, rfl⟩, hW, hsame.mono (by decide) (by decide)⟩
  · skip
    show Steps p.tables e below (s₁.setTop (mkF m 0 #[(vr a1), .unset, .unset, .unset] [])) _
    refine XS.aloadN X0.here hx rfl (hb hby d14_0) rfl rfl ?_
    refine st1 _ ?_
    refine XS.dup X1.here hx rfl (hb hby d14_4) rfl rfl ?_
    refine XS.astoreN X1.here hx rfl (hb hby d14_5) rfl rfl (l' := #[(vr a1), (vr a2), .unset, .unset]) rfl ?_
    refine XS.aloadN X1.here hx rfl (hb hby d14_6) rfl rfl ?_
    show Steps p.tables e below (T1.setTop (mkF m 7 #[(vr a1), (vr a2), .unset, .unset] [(.ref a1), (.ref a2)])) _
    refine st2 _ ?_
    refine XS.dup X2.here hx rfl (hb hby d14_10) rfl rfl ?_
    refine XS.istoreN X2.here hx rfl (hb hby d14_11) rfl (l' := #[(vr a1), (vr a2), (vi 0), .unset]) rfl ?_
    refine st3 _ ?_
    refine XS.astoreN X3.here hx rfl (hb hby d14_15) rfl rfl (l' := #[(vr a1), (vr a2), (vi 0), .val .null]) rfl ?_
    show Steps p.tables e below (T3.setTop (mkF m 16 #[(vr a1), (vr a2), (vi 0), .val .null] [])) _
    refine XS.aloadN X3.here hx rfl (hb hby d14_16) rfl rfl ?_
    refine XS.ifnullYes X3.here hx rfl (pc0 := 17) (pc' := 34) rfl (hb hby d14_17) rfl (by decide) (by decide) ?_
    refine XS.aloadN X3.here hx rfl (hb hby d14_34) rfl rfl ?_
    jvm_step X3.here [X3.here.top, hx, (hb hby d14_35), X3.method', hret0, Value.isRef, FieldType.isReference]
    first | (intro acts; rw [hr _ acts rfl rfl rfl]) | rw [hr _ _ rfl rfl rfl]
    exact Steps.refl _
  · show Q_au14_0 Z wMAX_LOCK_DELAY wGRANTED wQUEUED wBUSY wZERO a1 a2 k3 h0 n0 _ T3.heap _
    rw [K3q]
    exact ⟨rfl, N3, rfl⟩
theorem pd_8 : parseMethodDescriptor "()Ljava/lang/Object;" = some ⟨[], some (.object "java/lang/Object")⟩ := by decide +kernel
theorem d13_4 : decode jdk_21_method_31_code 4 = .ok (.areturn, 1) := by decide +kernel
def Q_au13_0 (Z : State) (wMAX_LOCK_DELAY : Addr) (wGRANTED : Addr) (wQUEUED : Addr) (wBUSY : Addr) (wZERO : Addr) (a1 : Addr) (a2 : Addr) (k3 : ClassId) (h0 : Heap) (n0 : Nat) (v : Option Value) (h : Heap) (L : List Loc) : Prop := v = some .null ∧ Fr n0 L ∧ h = h0
theorem au13_0 (l : Launch) (Z : State) (a0 : Array Value) (hw : ∀ d ∈ tables_1, d.before a0 Z = true) (ws : List Jvm.Cond) (wMAX_LOCK_DELAY : Addr) (wGRANTED : Addr) (wQUEUED : Addr) (wBUSY : Addr) (wZERO : Addr) (hS : SS Z wMAX_LOCK_DELAY wGRANTED wQUEUED wBUSY wZERO) (a1 : Addr) (a2 : Addr) (k3 : ClassId) (h0 : Heap) (n0 : Nat) (O0 : Old Z n0 h0) (P0 : Exa Z h0 a1 s7n) (P1 : Fld Z h0 a1 s7n "elements" s8n (.ref a2)) (P2 : Fld Z h0 a1 s7n "head" "I" (.int 0)) (P4 : Arv Z h0 a2 k3 (.object s9n) (17 : Int32) ([.null, .null, .null, .null, .null, .null, .null, .null, .null, .null, .null, .null, .null, .null, .null, .null, .null]) .null) :
    MetB l M11 jdk_21_method_31_code 1 (some (.object s9n)) ws (rmk 2 0 0 28) Z h0 #[(.ref a1)] (Q_au13_0 Z wMAX_LOCK_DELAY wGRANTED wQUEUED wBUSY wZERO a1 a2 k3 h0 n0) := by
  refine own_body (plainFor_of_name pn_java_util_ArrayDeque) ?_
  intro p e s m below meth c s₁ hx hby hml hown hnm hret0 hlk0 hZ X0 e0
  have N0 := Fr.nil n0
  have pre0 : ∀ t, Steps p.tables e below (s₁.setTop (mkF m 0 #[(vr a1)] [])) t → Steps p.tables e below (s₁.setTop (entryFrame m #[(.ref a1)] 1)) t := fun t k => castTop (ef_au13_0 m a1) k
  have hS0 := hS
  obtain ⟨S_wMAX_LOCK_DELAY, E_wMAX_LOCK_DELAY, S_wGRANTED, E_wGRANTED, S_wQUEUED, E_wQUEUED, S_wBUSY, E_wBUSY, F_seconds_wMAX_LOCK_DELAY, F_nanos_wMAX_LOCK_DELAY, S_wZERO, E_wZERO, F_seconds_wZERO, F_nanos_wZERO⟩ := hS0
  obtain ⟨cq1, kq1, q1a, q1b, q1c⟩ := isOf hZ e0 P0
  obtain ⟨_, _, ⟨T1, L1, k1, n1⟩, -, X1, ⟨Lc1, hQ1, l1, y1, z1⟩, st1⟩ := X0.virtualBack hx (y := M10) (z := M10) hown (mvT hZ (ow hw 97 rfl)) (mvT hZ (ow hw 98 rfl)) (notFace_of_selects (args := #[]) (mvT hZ (ow hw 100 rfl))) (mvT hZ (ow hw 100 rfl)) (mvT hZ (ow hw 99 rfl)) (by decide) (backOf (W := 0) (au14_0 l Z a0 hw [] wMAX_LOCK_DELAY wGRANTED wQUEUED wBUSY wZERO hS a1 a2 k3 h0 n0 O0 P1 P2 P4) hZ (ow hw 101 rfl) (ow hw 11 rfl) (by decide) (by decide)) q1a q1c (g := (mkF m 1 #[(vr a1)] [(.ref a1)])) rfl (by rw [hml]; rfl) (Steps.refl _) (argsL := []) (rest := []) (lenOf pd_8 rfl) rfl (by show 2 * 0 + _ ≤ _; exact Nat.le_of_eq rfl) (hb hby d13_1) (fun _ _ => ⟨rfl, e0, (by decide : 0 + 0 ≤ _), (by decide : 0 + 0 ≤ _)⟩)
  dsimp only [Pt.U, Pt.locs, Pt.cells, Pt.slots] at X1 l1 y1 z1 st1 hQ1
  subst l1 y1 z1
  obtain ⟨rfl, Nq1, K1q⟩ := hQ1
  have N1 := Fr.app N0 Nq1
  obtain ⟨fs, hr, hrun, hended, hW, hsame⟩ := X1.leave (v := some .null) (fun h => by rw [hret0] at h; cases h)
  refine ⟨_, _, pre0 _ ?_, hrun, hended, _, _, rfl, ?_, ⟨_, rfl⟩, hW, hsame.mono (by decide) (by decide)⟩
  · skip
    show Steps p.tables e below (s₁.setTop (mkF m 0 #[(vr a1)] [])) _
    refine XS.aloadN X0.here hx rfl (hb hby d13_0) rfl rfl ?_
    refine st1.trans ?_
    jvm_step X1.here [X1.here.top, hx, (hb hby d13_4), X1.method', hret0, Value.isRef, FieldType.isReference]
    first | (intro acts; rw [hr _ acts rfl rfl rfl]) | rw [hr _ _ rfl rfl rfl]
    exact Steps.refl _
  · show Q_au13_0 Z wMAX_LOCK_DELAY wGRANTED wQUEUED wBUSY wZERO a1 a2 k3 h0 n0 _ T1.heap _
    rw [K1q]
    exact ⟨rfl, N1, rfl⟩
theorem d12_9 : decode prog_84_method_22_code 9 = .ok (.checkcast 57, 3) := by decide +kernel
theorem d12_12 : decode prog_84_method_22_code 12 = .ok (.astore_n 1, 1) := by decide +kernel
theorem d12_13 : decode prog_84_method_22_code 13 = .ok (.aload_n 1, 1) := by decide +kernel
theorem d12_14 : decode prog_84_method_22_code 14 = .ok (.ifnull 15, 3) := by decide +kernel
theorem d12_29 : decode prog_84_method_22_code 29 = .ok (.aload_n 1, 1) := by decide +kernel
theorem d12_30 : decode prog_84_method_22_code 30 = .ok (.ifnonnull 7, 3) := by decide +kernel
theorem d12_33 : decode prog_84_method_22_code 33 = .ok (.aconst_null, 1) := by decide +kernel
theorem d12_34 : decode prog_84_method_22_code 34 = .ok (.goto 7, 3) := by decide +kernel
theorem d12_41 : decode prog_84_method_22_code 41 = .ok (.areturn, 1) := by decide +kernel
def Q_au12_0 (Z : State) (wMAX_LOCK_DELAY : Addr) (wGRANTED : Addr) (wQUEUED : Addr) (wBUSY : Addr) (wZERO : Addr) (a1 : Addr) (a4 : Addr) (a5 : Addr) (k6 : ClassId) (h0 : Heap) (n0 : Nat) (v : Option Value) (h : Heap) (L : List Loc) : Prop := v = some .null ∧ Fr n0 L ∧ h = h0
theorem au12_0 (l : Launch) (Z : State) (a0 : Array Value) (hw : ∀ d ∈ tables_1, d.before a0 Z = true) (ws : List Jvm.Cond) (wMAX_LOCK_DELAY : Addr) (wGRANTED : Addr) (wQUEUED : Addr) (wBUSY : Addr) (wZERO : Addr) (hS : SS Z wMAX_LOCK_DELAY wGRANTED wQUEUED wBUSY wZERO) (a1 : Addr) (a4 : Addr) (a5 : Addr) (k6 : ClassId) (h0 : Heap) (n0 : Nat) (O0 : Old Z n0 h0) (P5 : Fld Z h0 a1 s4n "waiters" s11n (.ref a4)) (P6 : Exa Z h0 a4 s7n) (P7 : Fld Z h0 a4 s7n "elements" s8n (.ref a5)) (P8 : Fld Z h0 a4 s7n "head" "I" (.int 0)) (P10 : Arv Z h0 a5 k6 (.object s9n) (17 : Int32) ([.null, .null, .null, .null, .null, .null, .null, .null, .null, .null, .null, .null, .null, .null, .null, .null, .null]) .null) :
    MetB l M12 prog_84_method_22_code 2 (some (.object s3n)) ws (rmk 3 0 0 40) Z h0 #[(.ref a1)] (Q_au12_0 Z wMAX_LOCK_DELAY wGRANTED wQUEUED wBUSY wZERO a1 a4 a5 k6 h0 n0) := by
  refine own_body (plainFor_of_name pn_com_example_umpired_umpired_server_NodeLock) ?_
  intro p e s m below meth c s₁ hx hby hml hown hnm hret0 hlk0 hZ X0 e0
  have N0 := Fr.nil n0
  have pre0 : ∀ t, Steps p.tables e below (s₁.setTop (mkF m 0 #[(vr a1), .unset] [])) t → Steps p.tables e below (s₁.setTop (entryFrame m #[(.ref a1)] 2)) t := fun t k => castTop (ef_au12_0 m a1) k
  have hS0 := hS
  obtain ⟨S_wMAX_LOCK_DELAY, E_wMAX_LOCK_DELAY, S_wGRANTED, E_wGRANTED, S_wQUEUED, E_wQUEUED, S_wBUSY, E_wBUSY, F_seconds_wMAX_LOCK_DELAY, F_nanos_wMAX_LOCK_DELAY, S_wZERO, E_wZERO, F_seconds_wZERO, F_nanos_wZERO⟩ := hS0
  obtain ⟨T1, X1, e1, st1⟩ := getF X0 hx hZ hown (host := "") (Or.inl (ow hw 26 rfl)) Via.refl e0 P5 (g := (mkF m 1 #[(vr a1), .unset] [(.ref a1)])) rfl rfl (hb hby d12_1)
  obtain ⟨cq2, kq2, q2a, q2b, q2c⟩ := isOf hZ e1 P6
  obtain ⟨_, _, ⟨T2, L2, k2, n2⟩, -, X2, ⟨Lc2, hQ2, l2, y2, z2⟩, st2⟩ := X1.interfaceBack hx (xi := M13) (y := M11) hown (mvT hZ (ow hw 88 rfl)) (mvT hZ (ow hw 89 rfl)) (mvT hZ (ow hw 90 rfl)) (mvT hZ (ow hw 91 rfl)) (mvT hZ (ow hw 92 rfl)) (mvT hZ (ow hw 93 rfl)) (mvT hZ (ow hw 94 rfl)) (mvT hZ (ow hw 95 rfl)) (by decide) (backOf (W := 0) (au13_0 l Z a0 hw [] wMAX_LOCK_DELAY wGRANTED wQUEUED wBUSY wZERO hS a4 a5 k6 h0 n0 O0 P6 P7 P8 P10) hZ (ow hw 96 rfl) (ow hw 11 rfl) (by decide) (by decide)) q2a q2b q2c (g := (mkF m 4 #[(vr a1), .unset] [(.ref a4)])) rfl (by rw [hml]; rfl) (Steps.refl _) (argsL := []) (rest := []) (lenOf pd_8 rfl) rfl (by show 2 * 0 + _ ≤ _; exact Nat.le_of_eq rfl) (hb hby d12_4) (fun _ _ => ⟨rfl, e1, (by decide : 0 + 0 ≤ _), (by decide : 0 + 0 ≤ _)⟩)
  dsimp only [Pt.U, Pt.locs, Pt.cells, Pt.slots] at X2 l2 y2 z2 st2 hQ2
  subst l2 y2 z2
  obtain ⟨rfl, Nq2, K2q⟩ := hQ2
  have N2 := Fr.app N0 Nq2
  obtain ⟨fs, hr, hrun, hended, hW, hsame⟩ := X2.leave (v := some .null) (fun h => by rw [hret0] at h; cases h)
  refine ⟨_, _, pre0 _ ?_, hrun, hended, _, _, rfl, ?_, ⟨_, rfl⟩, hW, hsame.mono (by decide) (by decide)⟩
  · skip
    show Steps p.tables e below (s₁.setTop (mkF m 0 #[(vr a1), .unset] [])) _
    refine XS.aloadN X0.here hx rfl (hb hby d12_0) rfl rfl ?_
    refine st1 _ ?_
    refine st2.trans ?_
    refine X2.checkcastNull hx (g := (mkF m 9 #[(vr a1), .unset] [.null])) rfl rfl (hb hby d12_9) _ ?_
    refine XS.astoreN X2.here hx rfl (hb hby d12_12) rfl rfl (l' := #[(vr a1), .val .null]) rfl ?_
    show Steps p.tables e below (T2.setTop (mkF m 13 #[(vr a1), .val .null] [])) _
    refine XS.aloadN X2.here hx rfl (hb hby d12_13) rfl rfl ?_
    refine XS.ifnullYes X2.here hx rfl (pc0 := 14) (pc' := 29) rfl (hb hby d12_14) rfl (by decide) (by decide) ?_
    refine XS.aloadN X2.here hx rfl (hb hby d12_29) rfl rfl ?_
    refine XS.ifnonnullNo X2.here hx rfl (hb hby d12_30) rfl ?_
    refine XS.aconstNull X2.here hx rfl (hb hby d12_33) ?_
    show Steps p.tables e below (T2.setTop (mkF m 34 #[(vr a1), .val .null] [.null])) _
    refine XS.goto X2.here hx rfl (pc0 := 34) (pc' := 41) rfl (hb hby d12_34) (by decide) (by decide) ?_
    jvm_step X2.here [X2.here.top, hx, (hb hby d12_41), X2.method', hret0, Value.isRef, FieldType.isReference]
    first | (intro acts; rw [hr _ acts rfl rfl rfl]) | rw [hr _ _ rfl rfl rfl]
    exact Steps.refl _
  · show Q_au12_0 Z wMAX_LOCK_DELAY wGRANTED wQUEUED wBUSY wZERO a1 a4 a5 k6 h0 n0 _ T2.heap _
    rw [K2q]
    exact ⟨rfl, N2, rfl⟩
theorem pd_9 : parseMethodDescriptor "()Lcom/example/umpired/umpired/server/SessionHandle;" = some ⟨[], some (.object "com/example/umpired/umpired/server/SessionHandle")⟩ := by decide +kernel
theorem d11_9 : decode prog_84_method_13_code 9 = .ok (.areturn, 1) := by decide +kernel
def Q_au11_0 (Z : State) (wMAX_LOCK_DELAY : Addr) (wGRANTED : Addr) (wQUEUED : Addr) (wBUSY : Addr) (wZERO : Addr) (a1 : Addr) (qg2 : Int64) (a3 : Addr) (a4 : Addr) (a5 : Addr) (a8 : Addr) (k9 : ClassId) (h0 : Heap) (n0 : Nat) (v : Option Value) (h : Heap) (L : List Loc) : Prop := v = some .null ∧ Fr n0 L ∧ Keep h0 h [a1] ∧ Exa Z h a1 s4n ∧ Fld Z h a1 s4n "generation" "J" (.long qg2) ∧ Fld Z h a1 s4n "heldBack" "Z" (.int 0) ∧ Fld Z h a1 s4n "holder" s5n .null ∧ Fld Z h a1 s4n s10n s0n (.ref a4) ∧ Fld Z h a1 s4n "waiters" s11n (.ref a5)
theorem au11_0 (l : Launch) (Z : State) (a0 : Array Value) (hw : ∀ d ∈ tables_1, d.before a0 Z = true) (ws : List Jvm.Cond) (wMAX_LOCK_DELAY : Addr) (wGRANTED : Addr) (wQUEUED : Addr) (wBUSY : Addr) (wZERO : Addr) (hS : SS Z wMAX_LOCK_DELAY wGRANTED wQUEUED wBUSY wZERO) (a1 : Addr) (qg2 : Int64) (a3 : Addr) (a4 : Addr) (a5 : Addr) (a8 : Addr) (k9 : ClassId) (h0 : Heap) (n0 : Nat) (O0 : Old Z n0 h0) (P0 : Exa Z h0 a1 s4n) (P1 : Fld Z h0 a1 s4n "generation" "J" (.long qg2)) (P2 : Fld Z h0 a1 s4n "heldBack" "Z" (.int 0)) (P3 : Fld Z h0 a1 s4n "holder" s5n (.ref a3)) (P4 : Fld Z h0 a1 s4n s10n s0n (.ref a4)) (P5 : Fld Z h0 a1 s4n "waiters" s11n (.ref a5)) (P9 : Exa Z h0 a5 s7n) (P10 : Fld Z h0 a5 s7n "elements" s8n (.ref a8)) (P11 : Fld Z h0 a5 s7n "head" "I" (.int 0)) (P13 : Arv Z h0 a8 k9 (.object s9n) (17 : Int32) ([.null, .null, .null, .null, .null, .null, .null, .null, .null, .null, .null, .null, .null, .null, .null, .null, .null]) .null) (P16 : n0 ≤ a1) (P22 : a1 ≠ a5) (P23 : a1 ≠ a8) :
    MetB l M14 prog_84_method_13_code 1 (some (.object s3n)) ws (rmk 4 0 0 53) Z h0 #[(.ref a1)] (Q_au11_0 Z wMAX_LOCK_DELAY wGRANTED wQUEUED wBUSY wZERO a1 qg2 a3 a4 a5 a8 k9 h0 n0) := by
  refine own_body (plainFor_of_name pn_com_example_umpired_umpired_server_NodeLock) ?_
  intro p e s m below meth c s₁ hx hby hml hown hnm hret0 hlk0 hZ X0 e0
  have N0 := Fr.nil n0
  have pre0 : ∀ t, Steps p.tables e below (s₁.setTop (mkF m 0 #[(vr a1)] [])) t → Steps p.tables e below (s₁.setTop (entryFrame m #[(.ref a1)] 1)) t := fun t k => castTop (ef_au11_0 m a1) k
  have K0 := Keep.refl h0 [a1]
  have hS0 := hS
  obtain ⟨S_wMAX_LOCK_DELAY, E_wMAX_LOCK_DELAY, S_wGRANTED, E_wGRANTED, S_wQUEUED, E_wQUEUED, S_wBUSY, E_wBUSY, F_seconds_wMAX_LOCK_DELAY, F_nanos_wMAX_LOCK_DELAY, S_wZERO, E_wZERO, F_seconds_wZERO, F_nanos_wZERO⟩ := hS0
  obtain ⟨T1, h1, X1, e1, W1, st1⟩ := putF X0 hx hZ hown (host := "") (Or.inl (ow hw 51 rfl)) Via.refl e0 P3 P0 (Or.inl (ow hw 52 rfl)) (ow hw 1 rfl) (ty := (.object s3n)) (by decide) rfl rfl (g := (mkF m 2 #[(vr a1)] [.null, (.ref a1)])) rfl rfl (hb hby d11_2)
  have N1 := Fr.snoc X1 N0 P16
  have O2 : Old Z n0 h1 := O0.wr W1 P16
  have K2 : Keep h0 h1 [a1] := K0.wr W1 (Or.inl (List.mem_of_getElem? (i := 0) rfl))
  have Fw1 : Fld Z h1 a1 s4n "holder" s5n .null := P3.same W1
  have f3 : Fld Z h1 a1 s4n "waiters" s11n (.ref a5) := (P5.other W1 (Or.inr (slot_ne (Or.inr (ow hw 27 rfl)) (Or.inl (ow hw 52 rfl)) (by decide) (t := (.object s12n)) (t' := (.object s3n)) (by decide) (by decide))))
  have f4 : Exa Z h1 a5 s7n := (P9.wr W1)
  have f5 : Fld Z h1 a5 s7n "elements" s8n (.ref a8) := (P10.other W1 (Or.inl (Ne.symm P22)))
  have f6 : Fld Z h1 a5 s7n "head" "I" (.int 0) := (P11.other W1 (Or.inl (Ne.symm P22)))
  have f7 : Arv Z h1 a8 k9 (.object s9n) (17 : Int32) ([.null, .null, .null, .null, .null, .null, .null, .null, .null, .null, .null, .null, .null, .null, .null, .null, .null]) .null := (P13.other W1 (Ne.symm P23))
  have f9 : Exa Z h1 a1 s4n := (P0.wr W1)
  obtain ⟨cq8, q8, q8'⟩ := f9.cell
  obtain ⟨_, _, ⟨T8, L8, k8, n8⟩, -, X8, ⟨Lc8, hQ8, l8, y8, z8⟩, st8⟩ := X1.privateBack hx (y := M12) hown (mvT hZ (ow hw 84 rfl)) (mvT hZ (ow hw 85 rfl)) (own_selp (mvT hZ (ow hw 1 rfl)) (mvP hZ (ow hw 86 rfl)) (mvT hZ (ow hw 85 rfl)) (by decide)) (Cond.privateMethod_at (mvP hZ (ow hw 86 rfl) (args := #[]))) (mvT hZ (ow hw 87 rfl)) (by decide) (backOf (W := 0) (au12_0 l Z a0 hw [] wMAX_LOCK_DELAY wGRANTED wQUEUED wBUSY wZERO hS a1 a5 a8 k9 h1 n0 O2 f3 f4 f5 f6 f7) hZ (ow hw 87 rfl) (ow hw 2 rfl) (by decide) (by decide)) (g := (mkF m 6 #[(vr a1)] [(.ref a1)])) rfl (by rw [hml]; rfl) (Steps.refl _) (a := a1) (by rw [e1]; exact q8) q8' (argsL := []) (rest := []) (lenOf pd_9 rfl) rfl (by show 2 * 0 + _ ≤ _; exact Nat.le_of_eq rfl) (hb hby d11_6) (fun _ _ => ⟨rfl, e1, (by decide : 0 + 0 ≤ _), (by decide : 0 + 0 ≤ _)⟩)
  dsimp only [Pt.U, Pt.locs, Pt.cells, Pt.slots] at X8 l8 y8 z8 st8 hQ8
  subst l8 y8 z8
  obtain ⟨rfl, Nq8, K8q⟩ := hQ8
  have N8 := Fr.app N1 Nq8
  have f10 : Fld Z h1 a1 s4n "generation" "J" (.long qg2) := (P1.other W1 (Or.inr (slot_ne (Or.inl (ow hw 75 rfl)) (Or.inl (ow hw 52 rfl)) (by decide) (t := .long) (t' := (.object s3n)) (by decide) (by decide))))
  have f11 : Fld Z h1 a1 s4n "heldBack" "Z" (.int 0) := (P2.other W1 (Or.inr (slot_ne (Or.inl (ow hw 69 rfl)) (Or.inl (ow hw 52 rfl)) (by decide) (t := .boolean) (t' := (.object s3n)) (by decide) (by decide))))
  have f12 : Fld Z h1 a1 s4n s10n s0n (.ref a4) := (P4.other W1 (Or.inr (slot_ne (Or.inl (ow hw 31 rfl)) (Or.inl (ow hw 52 rfl)) (by decide) (t := (.object s1n)) (t' := (.object s3n)) (by decide) (by decide))))
  obtain ⟨fs, hr, hrun, hended, hW, hsame⟩ := X8.leave (v := some .null) (fun h => by rw [hret0] at h; cases h)
  refine ⟨_, _, pre0 _ ?_, hrun, hended, _, _, rfl, ?_, ⟨_, rfl⟩, hW, hsame.mono (by decide) (by decide)⟩
  · skip
    show Steps p.tables e below (s₁.setTop (mkF m 0 #[(vr a1)] [])) _
    refine XS.aloadN X0.here hx rfl (hb hby d11_0) rfl rfl ?_
    refine XS.aconstNull X0.here hx rfl (hb hby d11_1) ?_
    refine st1 _ ?_
    refine XS.aloadN X1.here hx rfl (hb hby d11_5) rfl rfl ?_
    refine st8.trans ?_
    show Steps p.tables e below (T8.setTop (mkF m 9 #[(vr a1)] [.null])) _
    jvm_step X8.here [X8.here.top, hx, (hb hby d11_9), X8.method', hret0, Value.isRef, FieldType.isReference]
    first | (intro acts; rw [hr _ acts rfl rfl rfl]) | rw [hr _ _ rfl rfl rfl]
    exact Steps.refl _
  · show Q_au11_0 Z wMAX_LOCK_DELAY wGRANTED wQUEUED wBUSY wZERO a1 qg2 a3 a4 a5 a8 k9 h0 n0 _ T8.heap _
    rw [K8q]
    exact ⟨rfl, N8, K2, f9, f10, f11, Fw1, f12, f3⟩
theorem tl_tl_rm0_d_m2 {p : Program} {l : Launch} {e : Env} {s : State} {m : MethodId} {below : List Frame} {meth : Method} {c : Code} {T0 : State} {locs : List Loc} {Z : State} {a0 : Array Value} {h0 : Heap} {n0 : Nat} {margs : Array Value} (hw : ∀ d ∈ tables_1, d.before a0 Z = true) (wMAX_LOCK_DELAY : Addr) (wGRANTED : Addr) (wQUEUED : Addr) (wBUSY : Addr) (wZERO : Addr) (hS : SS Z wMAX_LOCK_DELAY wGRANTED wQUEUED wBUSY wZERO) (p1 : Int32) (p2 : Int32) (q3 : Int64) (q4 : Int64) (q5 : Int64) (q6 : Int64) (p7 : Int32) (p8 : Int32) (p9 : Int32) (p10 : Int32) (a11 : Addr) (a12 : Addr) (a13 : Addr) (a14 : Addr) (a15 : Addr) (a17 : Addr) (k18 : ClassId)
    (X0 : Stand p l e room_1 s m margs below meth c T0 locs 5 29) (hx : p.tables.exec = Jvm.exec) (hZ : Z.Warmed39 s.vm) (hby : c.code = code) (hml : c.maxLocals = 22) (hown : s.vm.findClass s6n = some m.cls) (hnm : meth.name = "law") (hret0 : meth.sig.returnType = some .boolean) (hlk0 : meth.locks = false) (e0 : T0.heap = h0) (N0 : Fr n0 locs) (O0 : Old Z n0 h0) (P0 : Exa Z h0 a11 s4n) (P1 : Fld Z h0 a11 s4n "generation" "J" (.long 0)) (P2 : Fld Z h0 a11 s4n "heldBack" "Z" (.int 0)) (P3 : Fld Z h0 a11 s4n "holder" s5n .null) (P4 : Fld Z h0 a11 s4n s10n s0n (.ref wZERO)) (P5 : Fld Z h0 a11 s4n "waiters" s11n (.ref a15)) (P6 : Exa Z h0 a13 s3n) (P12 : Exa Z h0 a15 s7n) (P13 : Fld Z h0 a15 s7n "elements" s8n (.ref a17)) (P14 : Fld Z h0 a15 s7n "head" "I" (.int 0)) (P16 : Arv Z h0 a17 k18 (.object s9n) (17 : Int32) ([.null, .null, .null, .null, .null, .null, .null, .null, .null, .null, .null, .null, .null, .null, .null, .null, .null]) .null) (P25 : n0 ≤ a11) (P33 : a11 ≠ a15) (P34 : a11 ≠ a17) :
    ∃ s₂ o, Steps p.tables e below (T0.setTop (mkF m 156 #[(vi p1), (vi p2), (vl q3), .second, (vl q4), .second, (vl q5), .second, (vl q6), .second, (vi p7), (vi p8), (vi p9), (vi p10), (vr a11), (vr a12), (vr a13), (vr a14), .unset, .unset, .unset, .unset] [])) s₂ ∧ s₂.status = .running ∧ Ended s₂ below o ∧ ∃ v L, o = .returned v ∧ (v = some (.int 1) ∧ Fr n0 L) ∧ FrameEnd s o s₂ L room_1.cells room_1.slots := by
  have pre0 : ∀ t, Steps p.tables e below (T0.setTop (mkF m 156 #[(vi p1), (vi p2), (vl q3), .second, (vl q4), .second, (vl q5), .second, (vl q6), .second, (vi p7), (vi p8), (vi p9), (vi p10), (vr a11), (vr a12), (vr a13), (vr a14), .unset, .unset, .unset, .unset] [])) t → Steps p.tables e below (T0.setTop (mkF m 156 #[(vi p1), (vi p2), (vl q3), .second, (vl q4), .second, (vl q5), .second, (vl q6), .second, (vi p7), (vi p8), (vi p9), (vi p10), (vr a11), (vr a12), (vr a13), (vr a14), .unset, .unset, .unset, .unset] [])) t := fun t k => k
  have hS0 := hS
  obtain ⟨S_wMAX_LOCK_DELAY, E_wMAX_LOCK_DELAY, S_wGRANTED, E_wGRANTED, S_wQUEUED, E_wQUEUED, S_wBUSY, E_wBUSY, F_seconds_wMAX_LOCK_DELAY, F_nanos_wMAX_LOCK_DELAY, S_wZERO, E_wZERO, F_seconds_wZERO, F_nanos_wZERO⟩ := hS0
  obtain ⟨cq1, kq1, q1a, q1b, q1c⟩ := isOf hZ e0 P0
  obtain ⟨_, _, ⟨T1, L1, k1, n1⟩, -, X1, ⟨Lc1, hQ1, l1, y1, z1⟩, st1⟩ := X0.virtualBack hx (y := M8) (z := M8) hown (mvT hZ (ow hw 58 rfl)) (mvT hZ (ow hw 59 rfl)) (notFace_of_selects (args := #[]) (mvT hZ (ow hw 61 rfl))) (mvT hZ (ow hw 61 rfl)) (mvT hZ (ow hw 60 rfl)) (by decide) (backOf (W := 0) (au8_0 l Z a0 hw [] wMAX_LOCK_DELAY wGRANTED wQUEUED wBUSY wZERO hS a11 a13 a12 p10 (0 : Int64) a15 h0 n0 O0 P0 P1 P2 P3 P4 P5 P6 P25) hZ (ow hw 62 rfl) (ow hw 2 rfl) (by decide) (by decide)) q1a q1c (g := (mkF m 164 #[(vi p1), (vi p2), (vl q3), .second, (vl q4), .second, (vl q5), .second, (vl q6), .second, (vi p7), (vi p8), (vi p9), (vi p10), (vr a11), (vr a12), (vr a13), (vr a14), .unset, .unset, .unset, .unset] [(.int p10), (.ref a12), (.ref a13), (.ref a11)])) rfl (by rw [hml]; rfl) (Steps.refl _) (argsL := [(.ref a13), (.ref a12), (.int p10)]) (rest := []) (lenOf pd_6 rfl) rfl (by show 2 * 0 + _ ≤ _; exact Nat.le_of_eq rfl) (hb hby at_164) (fun _ _ => ⟨rfl, e0, (by decide : 5 + 0 ≤ _), (by decide : 29 + 0 ≤ _)⟩)
  dsimp only [Pt.U, Pt.locs, Pt.cells, Pt.slots] at X1 l1 y1 z1 st1 hQ1
  subst l1 y1 z1
  obtain ⟨rfl, Nq1, K1q, p1_0, p1_1, p1_2, p1_3, p1_4, p1_5⟩ := hQ1
  have N1 := Fr.app N0 Nq1
  have O2 : Old Z n0 T1.heap := O0.keep K1q (allS P25 all0)
  have p1_1f : Fld Z T1.heap a11 s4n "generation" "J" (.long 1) := by have q := p1_1; rw [(by decide : ((0 : Int64) + (1 : Int64)) = (1 : Int64))] at q; exact q
  have f3 : Exa Z T1.heap a15 s7n := (P12.keep K1q)
  have f4 : Fld Z T1.heap a15 s7n "elements" s8n (.ref a17) := (P13.keep K1q (ninS (Ne.symm P33) nin0))
  have f5 : Fld Z T1.heap a15 s7n "head" "I" (.int 0) := (P14.keep K1q (ninS (Ne.symm P33) nin0))
  have f6 : Arv Z T1.heap a17 k18 (.object s9n) (17 : Int32) ([.null, .null, .null, .null, .null, .null, .null, .null, .null, .null, .null, .null, .null, .null, .null, .null, .null]) .null := (P16.keep K1q (ninS (Ne.symm P34) nin0))
  obtain ⟨cq7, kq7, q7a, q7b, q7c⟩ := isOf hZ rfl p1_0
  obtain ⟨_, _, ⟨T7, L7, k7, n7⟩, -, X7, ⟨Lc7, hQ7, l7, y7, z7⟩, st7⟩ := X1.virtualBack hx (y := M14) (z := M14) hown (mvT hZ (ow hw 79 rfl)) (mvT hZ (ow hw 80 rfl)) (notFace_of_selects (args := #[]) (mvT hZ (ow hw 82 rfl))) (mvT hZ (ow hw 82 rfl)) (mvT hZ (ow hw 81 rfl)) (by decide) (backOf (W := 0) (au11_0 l Z a0 hw [] wMAX_LOCK_DELAY wGRANTED wQUEUED wBUSY wZERO hS a11 (1 : Int64) a13 a12 a15 a17 k18 T1.heap n0 O2 p1_0 p1_1f p1_2 p1_3 p1_4 p1_5 f3 f4 f5 f6 P25 P33 P34) hZ (ow hw 83 rfl) (ow hw 2 rfl) (by decide) (by decide)) q7a q7c (g := (mkF m 170 #[(vi p1), (vi p2), (vl q3), .second, (vl q4), .second, (vl q5), .second, (vl q6), .second, (vi p7), (vi p8), (vi p9), (vi p10), (vr a11), (vr a12), (vr a13), (vr a14), .unset, .unset, .unset, .unset] [(.ref a11)])) rfl (by rw [hml]; rfl) (Steps.refl _) (argsL := []) (rest := []) (lenOf pd_9 rfl) rfl (by show 2 * 0 + _ ≤ _; exact Nat.le_of_eq rfl) (hb hby at_170) (fun _ _ => ⟨rfl, rfl, (by decide : 5 + 0 ≤ _), (by decide : 29 + 0 ≤ _)⟩)
  dsimp only [Pt.U, Pt.locs, Pt.cells, Pt.slots] at X7 l7 y7 z7 st7 hQ7
  subst l7 y7 z7
  obtain ⟨rfl, Nq7, K7q, p7_0, p7_1, p7_2, p7_3, p7_4, p7_5⟩ := hQ7
  have N7 := Fr.app N1 Nq7
  have O8 : Old Z n0 T7.heap := O2.keep K7q (allS P25 all0)
  obtain ⟨cq9, kq9, q9a, q9b, q9c⟩ := isOf hZ rfl p7_0
  obtain ⟨_, _, ⟨T9, L9, k9, n9⟩, -, X9, ⟨Lc9, hQ9, l9, y9, z9⟩, st9⟩ := X7.virtualBack hx (y := M1) (z := M1) hown (mvT hZ (ow hw 46 rfl)) (mvT hZ (ow hw 47 rfl)) (notFace_of_selects (args := #[]) (mvT hZ (ow hw 49 rfl))) (mvT hZ (ow hw 49 rfl)) (mvT hZ (ow hw 48 rfl)) (by decide) (backOf (W := 0) (rmHeldN l Z a0 hw [] wMAX_LOCK_DELAY wGRANTED wQUEUED wBUSY wZERO hS a11 q6 T7.heap n0 O8 p7_3) hZ (ow hw 50 rfl) (ow hw 2 rfl) (by decide) (by decide)) q9a q9c (g := (mkF m 459 #[(vi p1), (vi p2), (vl q3), .second, (vl q4), .second, (vl q5), .second, (vl q6), .second, (vi p7), (vi p8), (vi p9), (vi p10), (vr a11), (vr a12), (vr a13), (vr a14), (vi 0), (vl 1), .second, (vi 0)] [(.long q6), (.ref a11)])) rfl (by rw [hml]; rfl) (Steps.refl _) (argsL := [(.long q6)]) (rest := []) (lenOf pd_3 rfl) rfl (by show 2 * 0 + _ ≤ _; exact Nat.le_of_eq rfl) (hb hby at_459) (fun _ _ => ⟨rfl, rfl, (by decide : 5 + 0 ≤ _), (by decide : 29 + 0 ≤ _)⟩)
  dsimp only [Pt.U, Pt.locs, Pt.cells, Pt.slots] at X9 l9 y9 z9 st9 hQ9
  subst l9 y9 z9
  obtain ⟨rfl, Nq9, K9q⟩ := hQ9
  have N9 := Fr.app N7 Nq9
  obtain ⟨fs, hr, hrun, hended, hW, hsame⟩ := X9.leave (v := some (.int 1)) (fun h => by rw [hret0] at h; cases h)
  refine ⟨_, _, pre0 _ ?_, hrun, hended, _, _, rfl, ?_, ⟨_, rfl⟩, hW, hsame.mono (by decide) (by decide)⟩
  · skip
    show Steps p.tables e below (T0.setTop (mkF m 156 #[(vi p1), (vi p2), (vl q3), .second, (vl q4), .second, (vl q5), .second, (vl q6), .second, (vi p7), (vi p8), (vi p9), (vi p10), (vr a11), (vr a12), (vr a13), (vr a14), .unset, .unset, .unset, .unset] [])) _
    refine XS.aload X0.here hx rfl (hb hby at_156) rfl rfl ?_
    refine XS.aload X0.here hx rfl (hb hby at_158) rfl rfl ?_
    refine XS.aload X0.here hx rfl (hb hby at_160) rfl rfl ?_
    refine XS.iload X0.here hx rfl (hb hby at_162) rfl ?_
    refine st1.trans ?_
    show Steps p.tables e below (T1.setTop (mkF m 167 #[(vi p1), (vi p2), (vl q3), .second, (vl q4), .second, (vl q5), .second, (vl q6), .second, (vi p7), (vi p8), (vi p9), (vi p10), (vr a11), (vr a12), (vr a13), (vr a14), .unset, .unset, .unset, .unset] [(.ref wGRANTED)])) _
    refine XS.pop X1.here hx rfl (hb hby at_167) rfl rfl ?_
    refine XS.aload X1.here hx rfl (hb hby at_168) rfl rfl ?_
    refine st7.trans ?_
    refine XS.pop X7.here hx rfl (hb hby at_173) rfl rfl ?_
    refine XS.iconst X7.here hx rfl (hb hby at_174) ?_
    show Steps p.tables e below (T7.setTop (mkF m 175 #[(vi p1), (vi p2), (vl q3), .second, (vl q4), .second, (vl q5), .second, (vl q6), .second, (vi p7), (vi p8), (vi p9), (vi p10), (vr a11), (vr a12), (vr a13), (vr a14), .unset, .unset, .unset, .unset] [(.int 0)])) _
    refine XS.istore X7.here hx rfl (hb hby at_175) rfl (l' := #[(vi p1), (vi p2), (vl q3), .second, (vl q4), .second, (vl q5), .second, (vl q6), .second, (vi p7), (vi p8), (vi p9), (vi p10), (vr a11), (vr a12), (vr a13), (vr a14), (vi 0), .unset, .unset, .unset]) rfl ?_
    refine XS.lconst X7.here hx rfl (hb hby at_177) ?_
    refine XS.lstore X7.here hx rfl (hb hby at_178) rfl (l' := #[(vi p1), (vi p2), (vl q3), .second, (vl q4), .second, (vl q5), .second, (vl q6), .second, (vi p7), (vi p8), (vi p9), (vi p10), (vr a11), (vr a12), (vr a13), (vr a14), (vi 0), (vl 1), .second, .unset]) rfl ?_
    refine XS.goto X7.here hx rfl (pc0 := 180) (pc' := 435) rfl (hb hby at_180) (by decide) (by decide) ?_
    refine XS.iload X7.here hx rfl (hb hby at_435) rfl ?_
    show Steps p.tables e below (T7.setTop (mkF m 437 #[(vi p1), (vi p2), (vl q3), .second, (vl q4), .second, (vl q5), .second, (vl q6), .second, (vi p7), (vi p8), (vi p9), (vi p10), (vr a11), (vr a12), (vr a13), (vr a14), (vi 0), (vl 1), .second, .unset] [(.int 0)])) _
    refine XS.ifYes X7.here hx rfl (pc0 := 437) (pc' := 452) rfl (hb hby at_437) rfl ((if0 _ _).trans (teq (by decide : (0 : Int32) = (0 : Int32))).1) (by decide) (by decide) ?_
    refine XS.iconst X7.here hx rfl (hb hby at_452) ?_
    refine XS.istore X7.here hx rfl (hb hby at_453) rfl (l' := #[(vi p1), (vi p2), (vl q3), .second, (vl q4), .second, (vl q5), .second, (vl q6), .second, (vi p7), (vi p8), (vi p9), (vi p10), (vr a11), (vr a12), (vr a13), (vr a14), (vi 0), (vl 1), .second, (vi 0)]) rfl ?_
    refine XS.aload X7.here hx rfl (hb hby at_455) rfl rfl ?_
    refine XS.lload X7.here hx rfl (hb hby at_457) rfl ?_
    show Steps p.tables e below (T7.setTop (mkF m 459 #[(vi p1), (vi p2), (vl q3), .second, (vl q4), .second, (vl q5), .second, (vl q6), .second, (vi p7), (vi p8), (vi p9), (vi p10), (vr a11), (vr a12), (vr a13), (vr a14), (vi 0), (vl 1), .second, (vi 0)] [(.long q6), (.ref a11)])) _
    refine st9.trans ?_
    refine XS.iload X9.here hx rfl (hb hby at_462) rfl ?_
    refine XS.icmpNo X9.here hx rfl (hb hby at_464) rfl (teq (by decide : (0 : Int32) = (0 : Int32))).2 ?_
    refine XS.iconst X9.here hx rfl (hb hby at_467) ?_
    refine XS.goto X9.here hx rfl (pc0 := 468) (pc' := 472) rfl (hb hby at_468) (by decide) (by decide) ?_
    show Steps p.tables e below (T9.setTop (mkF m 472 #[(vi p1), (vi p2), (vl q3), .second, (vl q4), .second, (vl q5), .second, (vl q6), .second, (vi p7), (vi p8), (vi p9), (vi p10), (vr a11), (vr a12), (vr a13), (vr a14), (vi 0), (vl 1), .second, (vi 0)] [(.int 1)])) _
    exact retN X9 hx (t := .boolean) hret0 (by simp) (hb hby at_472) hr
  · skip
    exact ⟨rfl, N9⟩
theorem ef_au8_2 (m : MethodId) (x0 : Addr) (x1 : Addr) (x2 : Addr) (x3 : Int32)  : entryFrame m #[(.ref x0), (.ref x1), (.ref x2), (.int x3)] 5 = mkF m 0 #[(vr x0), (vr x1), (vr x2), (vi x3), .unset] [] := by first | (simp [entryFrame, mkF, argsToLocals, Value.category]; done) | rfl
theorem d8_51 : decode prog_84_method_3_code 51 = .ok (.aload_n 0, 1) := by decide +kernel
theorem d8_52 : decode prog_84_method_3_code 52 = .ok (.aload_n 1, 1) := by decide +kernel
theorem d8_53 : decode prog_84_method_3_code 53 = .ok (.invokevirtual 53, 3) := by decide +kernel
theorem ef_au16_0 (m : MethodId) (x0 : Addr) (x1 : Addr)  : entryFrame m #[(.ref x0), (.ref x1)] 4 = mkF m 0 #[(vr x0), (vr x1), .unset, .unset] [] := by first | (simp [entryFrame, mkF, argsToLocals, Value.category]; done) | rfl
theorem d16_0 : decode prog_84_method_21_code 0 = .ok (.aload_n 0, 1) := by decide +kernel
theorem d16_1 : decode prog_84_method_21_code 1 = .ok (.getfield 10, 3) := by decide +kernel
theorem d16_4 : decode prog_84_method_21_code 4 = .ok (.invokeinterface 81 1, 5) := by decide +kernel
theorem ef_au17_0 (m : MethodId) (x0 : Addr)  : entryFrame m #[(.ref x0)] 1 = mkF m 0 #[(vr x0)] [] := by first | (simp [entryFrame, mkF, argsToLocals, Value.category]; done) | rfl
theorem d17_0 : decode jdk_21_method_39_code 0 = .ok (.new 131, 3) := by decide +kernel
theorem d17_3 : decode jdk_21_method_39_code 3 = .ok (.dup, 1) := by decide +kernel
theorem d17_4 : decode jdk_21_method_39_code 4 = .ok (.aload_n 0, 1) := by decide +kernel
theorem d17_5 : decode jdk_21_method_39_code 5 = .ok (.invokespecial 133, 3) := by decide +kernel
theorem ef_au18_0 (m : MethodId) (x0 : Addr) (x1 : Addr)  : entryFrame m #[(.ref x0), (.ref x1)] 2 = mkF m 0 #[(vr x0), (vr x1)] [] := by first | (simp [entryFrame, mkF, argsToLocals, Value.category]; done) | rfl
theorem pn_java_util_ArrayDeque_DeqIterator : plainName "java/util/ArrayDeque$DeqIterator" = true := by first | (simp [plainName, overriddenIn]; done) | decide +kernel
theorem d18_0 : decode jdk_54_method_1_code 0 = .ok (.aload_n 0, 1) := by decide +kernel
theorem d18_1 : decode jdk_54_method_1_code 1 = .ok (.aload_n 1, 1) := by decide +kernel
theorem d18_2 : decode jdk_54_method_1_code 2 = .ok (.putfield 1, 3) := by decide +kernel
theorem d18_5 : decode jdk_54_method_1_code 5 = .ok (.aload_n 0, 1) := by decide +kernel
theorem d18_6 : decode jdk_54_method_1_code 6 = .ok (.invokespecial 7, 3) := by decide +kernel
theorem d18_9 : decode jdk_54_method_1_code 9 = .ok (.aload_n 0, 1) := by decide +kernel
theorem d18_10 : decode jdk_54_method_1_code 10 = .ok (.aload_n 0, 1) := by decide +kernel
theorem d18_11 : decode jdk_54_method_1_code 11 = .ok (.getfield 1, 3) := by decide +kernel
theorem d18_14 : decode jdk_54_method_1_code 14 = .ok (.invokevirtual 13, 3) := by decide +kernel
theorem ef_au19_0 (m : MethodId) (x0 : Addr)  : entryFrame m #[(.ref x0)] 1 = mkF m 0 #[(vr x0)] [] := by first | (simp [entryFrame, mkF, argsToLocals, Value.category]; done) | rfl
theorem d19_0 : decode jdk_21_method_37_code 0 = .ok (.aload_n 0, 1) := by decide +kernel
theorem d19_1 : decode jdk_21_method_37_code 1 = .ok (.getfield 20, 3) := by decide +kernel
theorem d19_4 : decode jdk_21_method_37_code 4 = .ok (.aload_n 0, 1) := by decide +kernel
theorem d19_5 : decode jdk_21_method_37_code 5 = .ok (.getfield 24, 3) := by decide +kernel
theorem d19_8 : decode jdk_21_method_37_code 8 = .ok (.aload_n 0, 1) := by decide +kernel
theorem d19_9 : decode jdk_21_method_37_code 9 = .ok (.getfield 3, 3) := by decide +kernel
theorem d19_12 : decode jdk_21_method_37_code 12 = .ok (.arraylength, 1) := by decide +kernel
theorem d19_13 : decode jdk_21_method_37_code 13 = .ok (.invokestatic 127, 3) := by decide +kernel
theorem ef_au20_0 (m : MethodId) (x0 : Int32) (x1 : Int32) (x2 : Int32)  : entryFrame m #[(.int x0), (.int x1), (.int x2)] 3 = mkF m 0 #[(vi x0), (vi x1), (vi x2)] [] := by first | (simp [entryFrame, mkF, argsToLocals, Value.category]; done) | rfl
theorem d20_0 : decode jdk_21_method_9_code 0 = .ok (.iload_n 0, 1) := by decide +kernel
theorem d20_1 : decode jdk_21_method_9_code 1 = .ok (.iload_n 1, 1) := by decide +kernel
theorem d20_2 : decode jdk_21_method_9_code 2 = .ok (.isub, 1) := by decide +kernel
theorem d20_3 : decode jdk_21_method_9_code 3 = .ok (.dup, 1) := by decide +kernel
theorem d20_4 : decode jdk_21_method_9_code 4 = .ok (.istore_n 0, 1) := by decide +kernel
theorem d20_5 : decode jdk_21_method_9_code 5 = .ok (.ifCond .ge 7, 3) := by decide +kernel
theorem d20_12 : decode jdk_21_method_9_code 12 = .ok (.iload_n 0, 1) := by decide +kernel
theorem d20_13 : decode jdk_21_method_9_code 13 = .ok (.ireturn, 1) := by decide +kernel
def Q_au20_0 (Z : State) (wMAX_LOCK_DELAY : Addr) (wGRANTED : Addr) (wQUEUED : Addr) (wBUSY : Addr) (wZERO : Addr)  (h0 : Heap) (n0 : Nat) (v : Option Value) (h : Heap) (L : List Loc) : Prop := v = some (.int 0) ∧ Fr n0 L ∧ h = h0
theorem au20_0 (l : Launch) (Z : State) (a0 : Array Value) (hw : ∀ d ∈ tables_1, d.before a0 Z = true) (ws : List Jvm.Cond) (wMAX_LOCK_DELAY : Addr) (wGRANTED : Addr) (wQUEUED : Addr) (wBUSY : Addr) (wZERO : Addr) (hS : SS Z wMAX_LOCK_DELAY wGRANTED wQUEUED wBUSY wZERO)  (h0 : Heap) (n0 : Nat) (O0 : Old Z n0 h0)  :
    MetB l M15 jdk_21_method_9_code 3 (some .int) ws (rmk 0 0 0 0) Z h0 #[(.int 0), (.int 0), (.int 17)] (Q_au20_0 Z wMAX_LOCK_DELAY wGRANTED wQUEUED wBUSY wZERO  h0 n0) := by
  refine own_body (plainFor_of_name pn_java_util_ArrayDeque) ?_
  intro p e s m below meth c s₁ hx hby hml hown hnm hret0 hlk0 hZ X0 e0
  have N0 := Fr.nil n0
  have pre0 : ∀ t, Steps p.tables e below (s₁.setTop (mkF m 0 #[(vi 0), (vi 0), (vi 17)] [])) t → Steps p.tables e below (s₁.setTop (entryFrame m #[(.int 0), (.int 0), (.int 17)] 3)) t := fun t k => castTop (ef_au20_0 m (0 : Int32) (0 : Int32) (17 : Int32)) k
  have hS0 := hS
  obtain ⟨S_wMAX_LOCK_DELAY, E_wMAX_LOCK_DELAY, S_wGRANTED, E_wGRANTED, S_wQUEUED, E_wQUEUED, S_wBUSY, E_wBUSY, F_seconds_wMAX_LOCK_DELAY, F_nanos_wMAX_LOCK_DELAY, S_wZERO, E_wZERO, F_seconds_wZERO, F_nanos_wZERO⟩ := hS0
  obtain ⟨fs, hr, hrun, hended, hW, hsame⟩ := X0.leave (v := some (.int 0)) (fun h => by rw [hret0] at h; cases h)
  refine ⟨_, _, pre0 _ ?_, hrun, hended, _, _, rfl, ?_, ⟨_, rfl⟩, hW, hsame.mono (by decide) (by decide)⟩
  · skip
    show Steps p.tables e below (s₁.setTop (mkF m 0 #[(vi 0), (vi 0), (vi 17)] [])) _
    refine XS.iloadN X0.here hx rfl (hb hby d20_0) rfl ?_
    refine XS.iloadN X0.here hx rfl (hb hby d20_1) rfl ?_
    refine XS.isub X0.here hx rfl (hb hby d20_2) rfl ?_
    refine XS.dup X0.here hx rfl (hb hby d20_3) rfl rfl ?_
    refine XS.istoreN X0.here hx rfl (hb hby d20_4) rfl (l' := #[(vi 0), (vi 0), (vi 17)]) rfl ?_
    show Steps p.tables e below (s₁.setTop (mkF m 5 #[(vi 0), (vi 0), (vi 17)] [(.int 0)])) _
    refine XS.ifYes X0.here hx rfl (pc0 := 5) (pc' := 12) rfl (hb hby d20_5) rfl ((if0 _ _).trans (flt (by decide : ¬ ((0 : Int32) < (0 : Int32)))).2.1) (by decide) (by decide) ?_
    refine XS.iloadN X0.here hx rfl (hb hby d20_12) rfl ?_
    exact retI X0 hx hret0 (hb hby d20_13) hr
  · show Q_au20_0 Z wMAX_LOCK_DELAY wGRANTED wQUEUED wBUSY wZERO  h0 n0 _ s₁.heap _
    rw [e0]
    exact ⟨rfl, N0, rfl⟩
theorem pd_10 : parseMethodDescriptor "(III)I" = some ⟨[.int, .int, .int], some .int⟩ := by decide +kernel
theorem d19_16 : decode jdk_21_method_37_code 16 = .ok (.ireturn, 1) := by decide +kernel
def Q_au19_0 (Z : State) (wMAX_LOCK_DELAY : Addr) (wGRANTED : Addr) (wQUEUED : Addr) (wBUSY : Addr) (wZERO : Addr) (a1 : Addr) (a2 : Addr) (k3 : ClassId) (h0 : Heap) (n0 : Nat) (v : Option Value) (h : Heap) (L : List Loc) : Prop := v = some (.int 0) ∧ Fr n0 L ∧ h = h0
theorem au19_0 (l : Launch) (Z : State) (a0 : Array Value) (hw : ∀ d ∈ tables_1, d.before a0 Z = true) (ws : List Jvm.Cond) (wMAX_LOCK_DELAY : Addr) (wGRANTED : Addr) (wQUEUED : Addr) (wBUSY : Addr) (wZERO : Addr) (hS : SS Z wMAX_LOCK_DELAY wGRANTED wQUEUED wBUSY wZERO) (a1 : Addr) (a2 : Addr) (k3 : ClassId) (h0 : Heap) (n0 : Nat) (O0 : Old Z n0 h0) (P1 : Fld Z h0 a1 s7n "elements" s8n (.ref a2)) (P2 : Fld Z h0 a1 s7n "head" "I" (.int 0)) (P3 : Fld Z h0 a1 s7n "tail" "I" (.int 0)) (P4 : Arv Z h0 a2 k3 (.object s9n) (17 : Int32) ([.null, .null, .null, .null, .null, .null, .null, .null, .null, .null, .null, .null, .null, .null, .null, .null, .null]) .null) :
    MetB l M16 jdk_21_method_37_code 1 (some .int) ws (rmk 1 0 0 14) Z h0 #[(.ref a1)] (Q_au19_0 Z wMAX_LOCK_DELAY wGRANTED wQUEUED wBUSY wZERO a1 a2 k3 h0 n0) := by
  refine own_body (plainFor_of_name pn_java_util_ArrayDeque) ?_
  intro p e s m below meth c s₁ hx hby hml hown hnm hret0 hlk0 hZ X0 e0
  have N0 := Fr.nil n0
  have pre0 : ∀ t, Steps p.tables e below (s₁.setTop (mkF m 0 #[(vr a1)] [])) t → Steps p.tables e below (s₁.setTop (entryFrame m #[(.ref a1)] 1)) t := fun t k => castTop (ef_au19_0 m a1) k
  have hS0 := hS
  obtain ⟨S_wMAX_LOCK_DELAY, E_wMAX_LOCK_DELAY, S_wGRANTED, E_wGRANTED, S_wQUEUED, E_wQUEUED, S_wBUSY, E_wBUSY, F_seconds_wMAX_LOCK_DELAY, F_nanos_wMAX_LOCK_DELAY, S_wZERO, E_wZERO, F_seconds_wZERO, F_nanos_wZERO⟩ := hS0
  obtain ⟨T1, X1, e1, st1⟩ := getF X0 hx hZ hown (host := "") (Or.inl (ow hw 136 rfl)) Via.refl e0 P3 (g := (mkF m 1 #[(vr a1)] [(.ref a1)])) rfl rfl (hb hby d19_1)
  obtain ⟨T2, X2, e2, st2⟩ := getF X1 hx hZ hown (host := "") (Or.inl (ow hw 102 rfl)) Via.refl e1 P2 (g := (mkF m 5 #[(vr a1)] [(.ref a1), (.int 0)])) rfl rfl (hb hby d19_5)
  obtain ⟨T3, X3, e3, st3⟩ := getF X2 hx hZ hown (host := "") (Or.inl (ow hw 24 rfl)) Via.refl e2 P1 (g := (mkF m 9 #[(vr a1)] [(.ref a1), (.int 0), (.int 0)])) rfl rfl (hb hby d19_9)
  obtain ⟨cl4, Ar4, -, Sz4, Nn4, -, -⟩ := (id P4)
  obtain ⟨_, _, ⟨T5, L5, k5, n5⟩, -, X5, ⟨Lc5, hQ5, l5, y5, z5⟩, st5⟩ := Jvm.LawKit.callS X3 hx (y := M15) hown (mvT hZ (ow hw 138 rfl)) (mvT hZ (ow hw 139 rfl)) (mvT hZ (ow hw 11 rfl)) (mvT hZ (ow hw 140 rfl)) (by decide) (backOf (W := 0) (au20_0 l Z a0 hw [] wMAX_LOCK_DELAY wGRANTED wQUEUED wBUSY wZERO hS  h0 n0 O0 ) hZ (ow hw 140 rfl) (ow hw 11 rfl) (by decide) (by decide)) (g := (mkF m 13 #[(vr a1)] [(.int 17), (.int 0), (.int 0)])) rfl (by rw [hml]; rfl) (argsL := [(.int 0), (.int 0), (.int 17)]) (rest := []) (lenOf pd_10 rfl) rfl (by show 2 * 0 + _ ≤ _; exact Nat.le_of_eq rfl) (hb hby d19_13) (fun _ _ => ⟨rfl, e3, (by decide : 0 + 0 ≤ _), (by decide : 0 + 0 ≤ _)⟩)
  dsimp only [Pt.U, Pt.locs, Pt.cells, Pt.slots] at X5 l5 y5 z5 st5 hQ5
  subst l5 y5 z5
  obtain ⟨rfl, Nq5, K5q⟩ := hQ5
  have N5 := Fr.app N0 Nq5
  obtain ⟨fs, hr, hrun, hended, hW, hsame⟩ := X5.leave (v := some (.int 0)) (fun h => by rw [hret0] at h; cases h)
  refine ⟨_, _, pre0 _ ?_, hrun, hended, _, _, rfl, ?_, ⟨_, rfl⟩, hW, hsame.mono (by decide) (by decide)⟩
  · skip
    show Steps p.tables e below (s₁.setTop (mkF m 0 #[(vr a1)] [])) _
    refine XS.aloadN X0.here hx rfl (hb hby d19_0) rfl rfl ?_
    refine st1 _ ?_
    refine XS.aloadN X1.here hx rfl (hb hby d19_4) rfl rfl ?_
    refine st2 _ ?_
    refine XS.aloadN X2.here hx rfl (hb hby d19_8) rfl rfl ?_
    show Steps p.tables e below (T2.setTop (mkF m 9 #[(vr a1)] [(.ref a1), (.int 0), (.int 0)])) _
    refine st3 _ ?_
    refine X3.arraylength hx (by rw [e3]; exact Ar4.1) (State.isArrayOf_alike hZ.alike Ar4.2.1) (g := (mkF m 12 #[(vr a1)] [(.ref a2), (.int 0), (.int 0)])) rfl rfl (hb hby d19_12) _ ?_
    rw [len_of Sz4 Nn4]
    refine st5 _ ?_
    exact retI X5 hx hret0 (hb hby d19_16) hr
  · show Q_au19_0 Z wMAX_LOCK_DELAY wGRANTED wQUEUED wBUSY wZERO a1 a2 k3 h0 n0 _ T5.heap _
    rw [K5q]
    exact ⟨rfl, N5, rfl⟩
theorem pd_11 : parseMethodDescriptor "()I" = some ⟨[], some .int⟩ := by decide +kernel
theorem d18_17 : decode jdk_54_method_1_code 17 = .ok (.putfield 19, 3) := by decide +kernel
theorem d18_20 : decode jdk_54_method_1_code 20 = .ok (.aload_n 0, 1) := by decide +kernel
theorem d18_21 : decode jdk_54_method_1_code 21 = .ok (.iconst (-1), 1) := by decide +kernel
theorem d18_22 : decode jdk_54_method_1_code 22 = .ok (.putfield 23, 3) := by decide +kernel
theorem d18_25 : decode jdk_54_method_1_code 25 = .ok (.aload_n 0, 1) := by decide +kernel
theorem d18_26 : decode jdk_54_method_1_code 26 = .ok (.aload_n 1, 1) := by decide +kernel
theorem d18_27 : decode jdk_54_method_1_code 27 = .ok (.getfield 26, 3) := by decide +kernel
theorem d18_30 : decode jdk_54_method_1_code 30 = .ok (.putfield 29, 3) := by decide +kernel
theorem d18_33 : decode jdk_54_method_1_code 33 = .ok (.return_, 1) := by decide +kernel
def Q_au18_0 (Z : State) (wMAX_LOCK_DELAY : Addr) (wGRANTED : Addr) (wQUEUED : Addr) (wBUSY : Addr) (wZERO : Addr) (a1 : Addr) (a2 : Addr) (a3 : Addr) (k4 : ClassId) (h0 : Heap) (n0 : Nat) (v : Option Value) (h : Heap) (L : List Loc) : Prop := v = none ∧ Fr n0 L ∧ Keep h0 h [a1] ∧ Exa Z h a1 s13n ∧ Fld Z h a1 s13n "cursor" "I" (.int 0) ∧ Fld Z h a1 s13n "lastRet" "I" (.int (-1 : Int32)) ∧ Fld Z h a1 s13n "remaining" "I" (.int 0) ∧ Fld Z h a1 s13n "this$0" s14n (.ref a2)
theorem au18_0 (l : Launch) (Z : State) (a0 : Array Value) (hw : ∀ d ∈ tables_1, d.before a0 Z = true) (ws : List Jvm.Cond) (wMAX_LOCK_DELAY : Addr) (wGRANTED : Addr) (wQUEUED : Addr) (wBUSY : Addr) (wZERO : Addr) (hS : SS Z wMAX_LOCK_DELAY wGRANTED wQUEUED wBUSY wZERO) (a1 : Addr) (a2 : Addr) (a3 : Addr) (k4 : ClassId) (h0 : Heap) (n0 : Nat) (O0 : Old Z n0 h0) (P0 : Exa Z h0 a1 s13n) (P1 : Fld Z h0 a1 s13n "cursor" "I" (.int 0)) (P2 : Fld Z h0 a1 s13n "lastRet" "I" (.int 0)) (P3 : Fld Z h0 a1 s13n "remaining" "I" (.int 0)) (P4 : Fld Z h0 a1 s13n "this$0" s14n .null) (P5 : Exa Z h0 a2 s7n) (P6 : Fld Z h0 a2 s7n "elements" s8n (.ref a3)) (P7 : Fld Z h0 a2 s7n "head" "I" (.int 0)) (P8 : Fld Z h0 a2 s7n "tail" "I" (.int 0)) (P9 : Arv Z h0 a3 k4 (.object s9n) (17 : Int32) ([.null, .null, .null, .null, .null, .null, .null, .null, .null, .null, .null, .null, .null, .null, .null, .null, .null]) .null) (P12 : n0 ≤ a1) (P15 : a1 ≠ a2) (P16 : a1 ≠ a3) :
    MetB l M17 jdk_54_method_1_code 2 none ws (rmk 2 0 0 27) Z h0 #[(.ref a1), (.ref a2)] (Q_au18_0 Z wMAX_LOCK_DELAY wGRANTED wQUEUED wBUSY wZERO a1 a2 a3 k4 h0 n0) := by
  refine own_body (plainFor_of_name pn_java_util_ArrayDeque_DeqIterator) ?_
  intro p e s m below meth c s₁ hx hby hml hown hnm hret0 hlk0 hZ X0 e0
  have N0 := Fr.nil n0
  have pre0 : ∀ t, Steps p.tables e below (s₁.setTop (mkF m 0 #[(vr a1), (vr a2)] [])) t → Steps p.tables e below (s₁.setTop (entryFrame m #[(.ref a1), (.ref a2)] 2)) t := fun t k => castTop (ef_au18_0 m a1 a2) k
  have K0 := Keep.refl h0 [a1]
  have hS0 := hS
  obtain ⟨S_wMAX_LOCK_DELAY, E_wMAX_LOCK_DELAY, S_wGRANTED, E_wGRANTED, S_wQUEUED, E_wQUEUED, S_wBUSY, E_wBUSY, F_seconds_wMAX_LOCK_DELAY, F_nanos_wMAX_LOCK_DELAY, S_wZERO, E_wZERO, F_seconds_wZERO, F_nanos_wZERO⟩ := hS0
  obtain ⟨T1, h1, X1, e1, W1, st1⟩ := putF X0 hx hZ hown (host := "") (Or.inl (ow hw 128 rfl)) Via.refl e0 P4 P0 (Or.inr ⟨(ow hw 129 rfl), rfl, hnm⟩) (ow hw 122 rfl) (ty := (.object s7n)) (by decide) rfl rfl (g := (mkF m 2 #[(vr a1), (vr a2)] [(.ref a2), (.ref a1)])) rfl rfl (hb hby d18_2)
  have N1 := Fr.snoc X1 N0 P12
  have O2 : Old Z n0 h1 := O0.wr W1 P12
  have K2 : Keep h0 h1 [a1] := K0.wr W1 (Or.inl (List.mem_of_getElem? (i := 0) rfl))
  have Fw1 : Fld Z h1 a1 s13n "this$0" s14n (.ref a2) := P4.same W1
  obtain ⟨T3, X3, e3, st3⟩ := initO X1 hx hZ hown (ow hw 130 rfl) (ow hw 7 rfl) (ow hw 8 rfl) e1 (g := (mkF m 6 #[(vr a1), (vr a2)] [(.ref a1)])) rfl (by rw [hml]; rfl) rfl (hb hby d18_6) (by decide) (W := 0) (by show 2 * 0 + _ ≤ _; exact Nat.le_of_eq rfl) (by decide)
  obtain ⟨T4, X4, e4, st4⟩ := getF X3 hx hZ hown (host := "") (Or.inl (ow hw 128 rfl)) Via.refl e3 Fw1 (g := (mkF m 11 #[(vr a1), (vr a2)] [(.ref a1), (.ref a1)])) rfl rfl (hb hby d18_11)
  have f5 : Fld Z h1 a2 s7n "elements" s8n (.ref a3) := (P6.other W1 (Or.inl (Ne.symm P15)))
  have f6 : Fld Z h1 a2 s7n "head" "I" (.int 0) := (P7.other W1 (Or.inl (Ne.symm P15)))
  have f7 : Fld Z h1 a2 s7n "tail" "I" (.int 0) := (P8.other W1 (Or.inl (Ne.symm P15)))
  have f8 : Arv Z h1 a3 k4 (.object s9n) (17 : Int32) ([.null, .null, .null, .null, .null, .null, .null, .null, .null, .null, .null, .null, .null, .null, .null, .null, .null]) .null := (P9.other W1 (Ne.symm P16))
  have f10 : Exa Z h1 a2 s7n := (P5.wr W1)
  obtain ⟨cq9, kq9, q9a, q9b, q9c⟩ := isOf hZ e4 f10
  obtain ⟨_, _, ⟨T9, L9, k9, n9⟩, -, X9, ⟨Lc9, hQ9, l9, y9, z9⟩, st9⟩ := X4.virtualBack hx (y := M16) (z := M16) hown (mvT hZ (ow hw 131 rfl)) (mvT hZ (ow hw 132 rfl)) (notFace_of_selects (args := #[]) (mvT hZ (ow hw 134 rfl))) (mvT hZ (ow hw 134 rfl)) (mvT hZ (ow hw 133 rfl)) (by decide) (backOf (W := 1) (au19_0 l Z a0 hw [] wMAX_LOCK_DELAY wGRANTED wQUEUED wBUSY wZERO hS a2 a3 k4 h1 n0 O2 f5 f6 f7 f8) hZ (ow hw 135 rfl) (ow hw 11 rfl) (by decide) (by decide)) q9a q9c (g := (mkF m 14 #[(vr a1), (vr a2)] [(.ref a2), (.ref a1)])) rfl (by rw [hml]; rfl) (Steps.refl _) (argsL := []) (rest := [(.ref a1)]) (lenOf pd_11 rfl) rfl (by show 2 * 0 + _ ≤ _; exact Nat.le_of_eq rfl) (hb hby d18_14) (fun _ _ => ⟨rfl, e4, (by decide : 0 + 0 ≤ _), (by decide : 0 + 0 ≤ _)⟩)
  dsimp only [Pt.U, Pt.locs, Pt.cells, Pt.slots] at X9 l9 y9 z9 st9 hQ9
  subst l9 y9 z9
  obtain ⟨rfl, Nq9, K9q⟩ := hQ9
  have N9 := Fr.app N1 Nq9
  have f11 : Exa Z h1 a1 s13n := (P0.wr W1)
  have f12 : Fld Z h1 a1 s13n "remaining" "I" (.int 0) := (P3.other W1 (Or.inr (slot_ne (Or.inl (ow hw 142 rfl)) (Or.inr (ow hw 129 rfl)) (by decide) (t := .int) (t' := (.object s7n)) (by decide) (by decide))))
  obtain ⟨T13, h13, X13, e13, W13, st13⟩ := putF X9 hx hZ hown (host := "") (Or.inl (ow hw 141 rfl)) Via.refl K9q f12 f11 (Or.inl (ow hw 142 rfl)) (ow hw 122 rfl) (ty := .int) (by decide) rfl rfl (g := (mkF m 17 #[(vr a1), (vr a2)] [(.int 0), (.ref a1)])) rfl rfl (hb hby d18_17)
  have N13 := Fr.snoc X13 N9 P12
  have O14 : Old Z n0 h13 := O2.wr W13 P12
  have K14 : Keep h0 h13 [a1] := K2.wr W13 (Or.inl (List.mem_of_getElem? (i := 0) rfl))
  have Fw13 : Fld Z h13 a1 s13n "remaining" "I" (.int 0) := f12.same W13
  have f15 : Exa Z h13 a1 s13n := (f11.wr W13)
  have f16 : Fld Z h13 a1 s13n "lastRet" "I" (.int 0) := ((P2.other W1 (Or.inr (slot_ne (Or.inl (ow hw 144 rfl)) (Or.inr (ow hw 129 rfl)) (by decide) (t := .int) (t' := (.object s7n)) (by decide) (by decide)))).other W13 (Or.inr (slot_ne (Or.inl (ow hw 144 rfl)) (Or.inl (ow hw 142 rfl)) (by decide) (t := .int) (t' := .int) (by decide) (by decide))))
  obtain ⟨T17, h17, X17, e17, W17, st17⟩ := putF X13 hx hZ hown (host := "") (Or.inl (ow hw 143 rfl)) Via.refl e13 f16 f15 (Or.inl (ow hw 144 rfl)) (ow hw 122 rfl) (ty := .int) (by decide) rfl rfl (g := (mkF m 22 #[(vr a1), (vr a2)] [(.int (-1 : Int32)), (.ref a1)])) rfl rfl (hb hby d18_22)
  have N17 := Fr.snoc X17 N13 P12
  have O18 : Old Z n0 h17 := O14.wr W17 P12
  have K18 : Keep h0 h17 [a1] := K14.wr W17 (Or.inl (List.mem_of_getElem? (i := 0) rfl))
  have Fw17 : Fld Z h17 a1 s13n "lastRet" "I" (.int (-1 : Int32)) := f16.same W17
  have f19 : Fld Z h17 a2 s7n "head" "I" (.int 0) := ((f6.other W13 (Or.inl (Ne.symm P15))).other W17 (Or.inl (Ne.symm P15)))
  obtain ⟨T20, X20, e20, st20⟩ := getF X17 hx hZ hown (host := "") (Or.inl (ow hw 145 rfl)) Via.refl e17 f19 (g := (mkF m 27 #[(vr a1), (vr a2)] [(.ref a2), (.ref a1)])) rfl rfl (hb hby d18_27)
  have f21 : Exa Z h17 a1 s13n := (f15.wr W17)
  have f22 : Fld Z h17 a1 s13n "cursor" "I" (.int 0) := (((P1.other W1 (Or.inr (slot_ne (Or.inl (ow hw 147 rfl)) (Or.inr (ow hw 129 rfl)) (by decide) (t := .int) (t' := (.object s7n)) (by decide) (by decide)))).other W13 (Or.inr (slot_ne (Or.inl (ow hw 147 rfl)) (Or.inl (ow hw 142 rfl)) (by decide) (t := .int) (t' := .int) (by decide) (by decide)))).other W17 (Or.inr (slot_ne (Or.inl (ow hw 147 rfl)) (Or.inl (ow hw 144 rfl)) (by decide) (t := .int) (t' := .int) (by decide) (by decide))))
  obtain ⟨T23, h23, X23, e23, W23, st23⟩ := putF X20 hx hZ hown (host := "") (Or.inl (ow hw 146 rfl)) Via.refl e20 f22 f21 (Or.inl (ow hw 147 rfl)) (ow hw 122 rfl) (ty := .int) (by decide) rfl rfl (g := (mkF m 30 #[(vr a1), (vr a2)] [(.int 0), (.ref a1)])) rfl rfl (hb hby d18_30)
  have N23 := Fr.snoc X23 N17 P12
  have O24 : Old Z n0 h23 := O18.wr W23 P12
  have K24 : Keep h0 h23 [a1] := K18.wr W23 (Or.inl (List.mem_of_getElem? (i := 0) rfl))
  have Fw23 : Fld Z h23 a1 s13n "cursor" "I" (.int 0) := f22.same W23
  have f25 : Exa Z h23 a1 s13n := (f21.wr W23)
  have f26 : Fld Z h23 a1 s13n "lastRet" "I" (.int (-1 : Int32)) := (Fw17.other W23 (Or.inr (slot_ne (Or.inl (ow hw 144 rfl)) (Or.inl (ow hw 147 rfl)) (by decide) (t := .int) (t' := .int) (by decide) (by decide))))
  have f27 : Fld Z h23 a1 s13n "remaining" "I" (.int 0) := ((Fw13.other W17 (Or.inr (slot_ne (Or.inl (ow hw 142 rfl)) (Or.inl (ow hw 144 rfl)) (by decide) (t := .int) (t' := .int) (by decide) (by decide)))).other W23 (Or.inr (slot_ne (Or.inl (ow hw 142 rfl)) (Or.inl (ow hw 147 rfl)) (by decide) (t := .int) (t' := .int) (by decide) (by decide))))
  have f28 : Fld Z h23 a1 s13n "this$0" s14n (.ref a2) := (((Fw1.other W13 (Or.inr (slot_ne (Or.inr (ow hw 129 rfl)) (Or.inl (ow hw 142 rfl)) (by decide) (t := (.object s7n)) (t' := .int) (by decide) (by decide)))).other W17 (Or.inr (slot_ne (Or.inr (ow hw 129 rfl)) (Or.inl (ow hw 144 rfl)) (by decide) (t := (.object s7n)) (t' := .int) (by decide) (by decide)))).other W23 (Or.inr (slot_ne (Or.inr (ow hw 129 rfl)) (Or.inl (ow hw 147 rfl)) (by decide) (t := (.object s7n)) (t' := .int) (by decide) (by decide))))
  obtain ⟨fs, hr, hrun, hended, hW, hsame⟩ := X23.leave (v := none) (fun _ => rfl)
  refine ⟨_, _, pre0 _ ?_, hrun, hended, _, _, rfl, ?_, ⟨_, rfl⟩, hW, hsame.mono (by decide) (by decide)⟩
  · skip
    show Steps p.tables e below (s₁.setTop (mkF m 0 #[(vr a1), (vr a2)] [])) _
    refine XS.aloadN X0.here hx rfl (hb hby d18_0) rfl rfl ?_
    refine XS.aloadN X0.here hx rfl (hb hby d18_1) rfl rfl ?_
    refine st1 _ ?_
    refine XS.aloadN X1.here hx rfl (hb hby d18_5) rfl rfl ?_
    refine st3 _ ?_
    show Steps p.tables e below (T3.setTop (mkF m 9 #[(vr a1), (vr a2)] [])) _
    refine XS.aloadN X3.here hx rfl (hb hby d18_9) rfl rfl ?_
    refine XS.aloadN X3.here hx rfl (hb hby d18_10) rfl rfl ?_
    refine st4 _ ?_
    refine st9.trans ?_
    refine st13 _ ?_
    show Steps p.tables e below (T13.setTop (mkF m 20 #[(vr a1), (vr a2)] [])) _
    refine XS.aloadN X13.here hx rfl (hb hby d18_20) rfl rfl ?_
    refine XS.iconst X13.here hx rfl (hb hby d18_21) ?_
    refine st17 _ ?_
    refine XS.aloadN X17.here hx rfl (hb hby d18_25) rfl rfl ?_
    refine XS.aloadN X17.here hx rfl (hb hby d18_26) rfl rfl ?_
    show Steps p.tables e below (T17.setTop (mkF m 27 #[(vr a1), (vr a2)] [(.ref a2), (.ref a1)])) _
    refine st20 _ ?_
    refine st23 _ ?_
    exact X23.returnOut hx hret0 (hb hby d18_33) hr
  · show Q_au18_0 Z wMAX_LOCK_DELAY wGRANTED wQUEUED wBUSY wZERO a1 a2 a3 k4 h0 n0 _ T23.heap _
    rw [e23]
    exact ⟨rfl, N23, K24, f25, Fw23, f26, f27, f28⟩
theorem pd_12 : parseMethodDescriptor "(Ljava/util/ArrayDeque;)V" = some ⟨[(.object "java/util/ArrayDeque")], none⟩ := by decide +kernel
theorem d17_8 : decode jdk_21_method_39_code 8 = .ok (.areturn, 1) := by decide +kernel
def Q_au17_0 (Z : State) (wMAX_LOCK_DELAY : Addr) (wGRANTED : Addr) (wQUEUED : Addr) (wBUSY : Addr) (wZERO : Addr) (a1 : Addr) (a2 : Addr) (k3 : ClassId) (h0 : Heap) (n0 : Nat) (v : Option Value) (h : Heap) (L : List Loc) : Prop := ∃ (e1 : Addr), v = some (.ref e1) ∧ Fr n0 L ∧ Keep h0 h [] ∧ h0.size ≤ e1 ∧ Exa Z h e1 s13n ∧ Fld Z h e1 s13n "cursor" "I" (.int 0) ∧ Fld Z h e1 s13n "lastRet" "I" (.int (-1 : Int32)) ∧ Fld Z h e1 s13n "remaining" "I" (.int 0) ∧ Fld Z h e1 s13n "this$0" s14n (.ref a1)
theorem au17_0 (l : Launch) (Z : State) (a0 : Array Value) (hw : ∀ d ∈ tables_1, d.before a0 Z = true) (ws : List Jvm.Cond) (wMAX_LOCK_DELAY : Addr) (wGRANTED : Addr) (wQUEUED : Addr) (wBUSY : Addr) (wZERO : Addr) (hS : SS Z wMAX_LOCK_DELAY wGRANTED wQUEUED wBUSY wZERO) (a1 : Addr) (a2 : Addr) (k3 : ClassId) (h0 : Heap) (n0 : Nat) (O0 : Old Z n0 h0) (P0 : Exa Z h0 a1 s7n) (P1 : Fld Z h0 a1 s7n "elements" s8n (.ref a2)) (P2 : Fld Z h0 a1 s7n "head" "I" (.int 0)) (P3 : Fld Z h0 a1 s7n "tail" "I" (.int 0)) (P4 : Arv Z h0 a2 k3 (.object s9n) (17 : Int32) ([.null, .null, .null, .null, .null, .null, .null, .null, .null, .null, .null, .null, .null, .null, .null, .null, .null]) .null) :
    MetB l M18 jdk_21_method_39_code 1 (some (.object s15n)) ws (rmk 3 1 4 41) Z h0 #[(.ref a1)] (Q_au17_0 Z wMAX_LOCK_DELAY wGRANTED wQUEUED wBUSY wZERO a1 a2 k3 h0 n0) := by
  refine own_body (plainFor_of_name pn_java_util_ArrayDeque) ?_
  intro p e s m below meth c s₁ hx hby hml hown hnm hret0 hlk0 hZ X0 e0
  have N0 := Fr.nil n0
  have pre0 : ∀ t, Steps p.tables e below (s₁.setTop (mkF m 0 #[(vr a1)] [])) t → Steps p.tables e below (s₁.setTop (entryFrame m #[(.ref a1)] 1)) t := fun t k => castTop (ef_au17_0 m a1) k
  have K0 := Keep.refl h0 []
  have hS0 := hS
  obtain ⟨S_wMAX_LOCK_DELAY, E_wMAX_LOCK_DELAY, S_wGRANTED, E_wGRANTED, S_wQUEUED, E_wQUEUED, S_wBUSY, E_wBUSY, F_seconds_wMAX_LOCK_DELAY, F_nanos_wMAX_LOCK_DELAY, S_wZERO, E_wZERO, F_seconds_wZERO, F_nanos_wZERO⟩ := hS0
  obtain ⟨T1, h1, X1, e1, E1, A1, D1, -, st1⟩ := newO X0 hx hZ hown (ow hw 121 rfl) (ow hw 122 rfl) (ow hw 123 rfl) e0 (g := (mkF m 0 #[(vr a1)] [])) rfl (hb hby d17_0) (by decide) (by decide)
  obtain ⟨b1, g1⟩ : ∃ z, z = h0.size := ⟨_, rfl⟩
  rw [← g1] at A1 D1 st1
  have ne2 : a1 ≠ b1 := Nat.ne_of_lt (Nat.lt_of_lt_of_le P0.lt (Nat.le_of_eq g1.symm))
  have ne3 : a2 ≠ b1 := Nat.ne_of_lt (Nat.lt_of_lt_of_le P4.lt (Nat.le_of_eq g1.symm))
  have g4 : n0 ≤ b1 := Nat.le_trans (own_sz O0) (Nat.le_of_eq g1.symm)
  have sz5 : h0.size ≤ b1 := Nat.le_trans K0.1 (Nat.le_of_eq g1.symm)
  have O6 : Old Z n0 h1 := O0.ext E1
  have K6 : Keep h0 h1 [] := K0.ext E1
  have f7 : Fld Z h1 b1 s13n "this$0" s14n .null := D1 (Or.inr (ow hw 129 rfl)) (ty := (.object s7n)) (by decide)
  have f8 : Fld Z h1 b1 s13n "remaining" "I" (.int 0) := D1 (Or.inl (ow hw 142 rfl)) (ty := .int) (by decide)
  have f9 : Fld Z h1 b1 s13n "lastRet" "I" (.int 0) := D1 (Or.inl (ow hw 144 rfl)) (ty := .int) (by decide)
  have f10 : Fld Z h1 b1 s13n "cursor" "I" (.int 0) := D1 (Or.inl (ow hw 147 rfl)) (ty := .int) (by decide)
  have f11 : Exa Z h1 a1 s7n := (P0.ext E1)
  have f12 : Fld Z h1 a1 s7n "elements" s8n (.ref a2) := (P1.ext E1)
  have f13 : Fld Z h1 a1 s7n "head" "I" (.int 0) := (P2.ext E1)
  have f14 : Fld Z h1 a1 s7n "tail" "I" (.int 0) := (P3.ext E1)
  have f15 : Arv Z h1 a2 k3 (.object s9n) (17 : Int32) ([.null, .null, .null, .null, .null, .null, .null, .null, .null, .null, .null, .null, .null, .null, .null, .null, .null]) .null := (P4.ext E1)
  obtain ⟨_, _, ⟨T16, L16, k16, n16⟩, -, X16, ⟨Lc16, hQ16, l16, y16, z16⟩, st16⟩ := X1.specialBack hx (y := M17) rfl hown (mvT hZ (ow hw 124 rfl)) (mvT hZ (ow hw 125 rfl)) (mvT hZ (ow hw 127 rfl)) (by decide) (backOf (W := 1) (au18_0 l Z a0 hw [] wMAX_LOCK_DELAY wGRANTED wQUEUED wBUSY wZERO hS b1 a1 a2 k3 h1 n0 O6 A1 f10 f9 f8 f7 f11 f12 f13 f14 f15 g4 (Ne.symm ne2) (Ne.symm ne3)) hZ (ow hw 127 rfl) (ow hw 123 rfl) (by decide) (by decide)) (g := (mkF m 5 #[(vr a1)] [(.ref a1), (.ref b1), (.ref b1)])) rfl (by rw [hml]; rfl) (Steps.refl _) (a := b1) (argsL := [(.ref a1)]) (rest := [(.ref b1)]) (lenOf pd_12 rfl) rfl (by show 2 * 0 + _ ≤ _; exact Nat.le_of_eq rfl) (hb hby d17_5) (fun _ _ => ⟨rfl, e1, (by decide : 1 + 0 ≤ _), (by decide : 4 + 0 ≤ _)⟩)
  dsimp only [Pt.U, Pt.locs, Pt.cells, Pt.slots] at X16 l16 y16 z16 st16 hQ16
  subst l16 y16 z16
  obtain ⟨rfl, Nq16, K16q, p16_0, p16_1, p16_2, p16_3, p16_4⟩ := hQ16
  have N16 := Fr.app N0 Nq16
  have O17 : Old Z n0 T16.heap := O6.keep K16q (allS g4 all0)
  have K17 : Keep h0 T16.heap [] := K6.trans K16q (allS (Or.inr sz5) all0)
  obtain ⟨fs, hr, hrun, hended, hW, hsame⟩ := X16.leave (v := some (.ref b1)) (fun h => by rw [hret0] at h; cases h)
  refine ⟨_, _, pre0 _ ?_, hrun, hended, _, _, rfl, ?_, ⟨_, rfl⟩, hW, hsame.mono (by decide) (by decide)⟩
  · skip
    show Steps p.tables e below (s₁.setTop (mkF m 0 #[(vr a1)] [])) _
    refine st1 _ ?_
    refine XS.dup X1.here hx rfl (hb hby d17_3) rfl rfl ?_
    refine XS.aloadN X1.here hx rfl (hb hby d17_4) rfl rfl ?_
    refine st16.trans ?_
    jvm_step X16.here [X16.here.top, hx, (hb hby d17_8), X16.method', hret0, Value.isRef, FieldType.isReference]
    first | (intro acts; rw [hr _ acts rfl rfl rfl]) | rw [hr _ _ rfl rfl rfl]
    exact Steps.refl _
  · show Q_au17_0 Z wMAX_LOCK_DELAY wGRANTED wQUEUED wBUSY wZERO a1 a2 k3 h0 n0 _ T16.heap _
    exact ⟨b1, rfl, N16, K17, sz5, p16_0, p16_1, p16_2, p16_3, p16_4⟩
theorem pd_13 : parseMethodDescriptor "()Ljava/util/Iterator;" = some ⟨[], some (.object "java/util/Iterator")⟩ := by decide +kernel
theorem d16_9 : decode prog_84_method_21_code 9 = .ok (.astore_n 2, 1) := by decide +kernel
theorem d16_10 : decode prog_84_method_21_code 10 = .ok (.aload_n 2, 1) := by decide +kernel
theorem d16_11 : decode prog_84_method_21_code 11 = .ok (.invokeinterface 85 1, 5) := by decide +kernel
theorem ef_au21_0 (m : MethodId) (x0 : Addr)  : entryFrame m #[(.ref x0)] 1 = mkF m 0 #[(vr x0)] [] := by first | (simp [entryFrame, mkF, argsToLocals, Value.category]; done) | rfl
theorem d21_0 : decode jdk_54_method_2_code 0 = .ok (.aload_n 0, 1) := by decide +kernel
theorem d21_1 : decode jdk_54_method_2_code 1 = .ok (.getfield 19, 3) := by decide +kernel
theorem d21_4 : decode jdk_54_method_2_code 4 = .ok (.ifCond .le 7, 3) := by decide +kernel
theorem d21_11 : decode jdk_54_method_2_code 11 = .ok (.iconst 0, 1) := by decide +kernel
theorem d21_12 : decode jdk_54_method_2_code 12 = .ok (.ireturn, 1) := by decide +kernel
def Q_au21_0 (Z : State) (wMAX_LOCK_DELAY : Addr) (wGRANTED : Addr) (wQUEUED : Addr) (wBUSY : Addr) (wZERO : Addr) (a1 : Addr) (h0 : Heap) (n0 : Nat) (v : Option Value) (h : Heap) (L : List Loc) : Prop := v = some (.int 0) ∧ Fr n0 L ∧ h = h0
theorem au21_0 (l : Launch) (Z : State) (a0 : Array Value) (hw : ∀ d ∈ tables_1, d.before a0 Z = true) (ws : List Jvm.Cond) (wMAX_LOCK_DELAY : Addr) (wGRANTED : Addr) (wQUEUED : Addr) (wBUSY : Addr) (wZERO : Addr) (hS : SS Z wMAX_LOCK_DELAY wGRANTED wQUEUED wBUSY wZERO) (a1 : Addr) (h0 : Heap) (n0 : Nat) (O0 : Old Z n0 h0) (P3 : Fld Z h0 a1 s13n "remaining" "I" (.int 0)) :
    MetB l M19 jdk_54_method_2_code 1 (some .boolean) ws (rmk 0 0 0 0) Z h0 #[(.ref a1)] (Q_au21_0 Z wMAX_LOCK_DELAY wGRANTED wQUEUED wBUSY wZERO a1 h0 n0) := by
  refine own_body (plainFor_of_name pn_java_util_ArrayDeque_DeqIterator) ?_
  intro p e s m below meth c s₁ hx hby hml hown hnm hret0 hlk0 hZ X0 e0
  have N0 := Fr.nil n0
  have pre0 : ∀ t, Steps p.tables e below (s₁.setTop (mkF m 0 #[(vr a1)] [])) t → Steps p.tables e below (s₁.setTop (entryFrame m #[(.ref a1)] 1)) t := fun t k => castTop (ef_au21_0 m a1) k
  have hS0 := hS
  obtain ⟨S_wMAX_LOCK_DELAY, E_wMAX_LOCK_DELAY, S_wGRANTED, E_wGRANTED, S_wQUEUED, E_wQUEUED, S_wBUSY, E_wBUSY, F_seconds_wMAX_LOCK_DELAY, F_nanos_wMAX_LOCK_DELAY, S_wZERO, E_wZERO, F_seconds_wZERO, F_nanos_wZERO⟩ := hS0
  obtain ⟨T1, X1, e1, st1⟩ := getF X0 hx hZ hown (host := "") (Or.inl (ow hw 141 rfl)) Via.refl e0 P3 (g := (mkF m 1 #[(vr a1)] [(.ref a1)])) rfl rfl (hb hby d21_1)
  obtain ⟨fs, hr, hrun, hended, hW, hsame⟩ := X1.leave (v := some (.int 0)) (fun h => by rw [hret0] at h; cases h)
  refine ⟨_, _, pre0 _ ?_, hrun, hended, _, _, rfl, ?_, ⟨_, rfl⟩, hW, hsame.mono (by decide) (by decide)⟩
  · skip
    show Steps p.tables e below (s₁.setTop (mkF m 0 #[(vr a1)] [])) _
    refine XS.aloadN X0.here hx rfl (hb hby d21_0) rfl rfl ?_
    refine st1 _ ?_
    refine XS.ifYes X1.here hx rfl (pc0 := 4) (pc' := 11) rfl (hb hby d21_4) rfl ((if0 _ _).trans (flt (by decide : ¬ ((0 : Int32) < (0 : Int32)))).2.2.2) (by decide) (by decide) ?_
    refine XS.iconst X1.here hx rfl (hb hby d21_11) ?_
    exact retN X1 hx (t := .boolean) hret0 (by simp) (hb hby d21_12) hr
  · show Q_au21_0 Z wMAX_LOCK_DELAY wGRANTED wQUEUED wBUSY wZERO a1 h0 n0 _ T1.heap _
    rw [e1]
    exact ⟨rfl, N0, rfl⟩
theorem pd_14 : parseMethodDescriptor "()Z" = some ⟨[], some .boolean⟩ := by decide +kernel
theorem d16_16 : decode prog_84_method_21_code 16 = .ok (.ifCond .eq 29, 3) := by decide +kernel
theorem d16_45 : decode prog_84_method_21_code 45 = .ok (.iconst 0, 1) := by decide +kernel
theorem d16_46 : decode prog_84_method_21_code 46 = .ok (.ireturn, 1) := by decide +kernel
def Q_au16_0 (Z : State) (wMAX_LOCK_DELAY : Addr) (wGRANTED : Addr) (wQUEUED : Addr) (wBUSY : Addr) (wZERO : Addr) (a1 : Addr) (a2 : Addr) (a4 : Addr) (a6 : Addr) (a11 : Addr) (k12 : ClassId) (h0 : Heap) (n0 : Nat) (v : Option Value) (h : Heap) (L : List Loc) : Prop := v = some (.int 0) ∧ Fr n0 L ∧ Keep h0 h []
theorem au16_0 (l : Launch) (Z : State) (a0 : Array Value) (hw : ∀ d ∈ tables_1, d.before a0 Z = true) (ws : List Jvm.Cond) (wMAX_LOCK_DELAY : Addr) (wGRANTED : Addr) (wQUEUED : Addr) (wBUSY : Addr) (wZERO : Addr) (hS : SS Z wMAX_LOCK_DELAY wGRANTED wQUEUED wBUSY wZERO) (a1 : Addr) (a2 : Addr) (a4 : Addr) (a6 : Addr) (a11 : Addr) (k12 : ClassId) (h0 : Heap) (n0 : Nat) (O0 : Old Z n0 h0) (P0 : Exa Z h0 a1 s4n) (P5 : Fld Z h0 a1 s4n "waiters" s11n (.ref a6)) (P6 : Exa Z h0 a2 s3n) (P9 : Exa Z h0 a4 s3n) (P12 : Exa Z h0 a6 s7n) (P13 : Fld Z h0 a6 s7n "elements" s8n (.ref a11)) (P14 : Fld Z h0 a6 s7n "head" "I" (.int 0)) (P15 : Fld Z h0 a6 s7n "tail" "I" (.int 0)) (P16 : Arv Z h0 a11 k12 (.object s9n) (17 : Int32) ([.null, .null, .null, .null, .null, .null, .null, .null, .null, .null, .null, .null, .null, .null, .null, .null, .null]) .null) :
    MetB l M20 prog_84_method_21_code 4 (some .boolean) ws (rmk 4 1 4 53) Z h0 #[(.ref a1), (.ref a2)] (Q_au16_0 Z wMAX_LOCK_DELAY wGRANTED wQUEUED wBUSY wZERO a1 a2 a4 a6 a11 k12 h0 n0) := by
  refine own_body (plainFor_of_name pn_com_example_umpired_umpired_server_NodeLock) ?_
  intro p e s m below meth c s₁ hx hby hml hown hnm hret0 hlk0 hZ X0 e0
  have N0 := Fr.nil n0
  have pre0 : ∀ t, Steps p.tables e below (s₁.setTop (mkF m 0 #[(vr a1), (vr a2), .unset, .unset] [])) t → Steps p.tables e below (s₁.setTop (entryFrame m #[(.ref a1), (.ref a2)] 4)) t := fun t k => castTop (ef_au16_0 m a1 a2) k
  have K0 := Keep.refl h0 []
  have hS0 := hS
  obtain ⟨S_wMAX_LOCK_DELAY, E_wMAX_LOCK_DELAY, S_wGRANTED, E_wGRANTED, S_wQUEUED, E_wQUEUED, S_wBUSY, E_wBUSY, F_seconds_wMAX_LOCK_DELAY, F_nanos_wMAX_LOCK_DELAY, S_wZERO, E_wZERO, F_seconds_wZERO, F_nanos_wZERO⟩ := hS0
  obtain ⟨T1, X1, e1, st1⟩ := getF X0 hx hZ hown (host := "") (Or.inl (ow hw 26 rfl)) Via.refl e0 P5 (g := (mkF m 1 #[(vr a1), (vr a2), .unset, .unset] [(.ref a1)])) rfl rfl (hb hby d16_1)
  obtain ⟨cq2, kq2, q2a, q2b, q2c⟩ := isOf hZ e1 P12
  obtain ⟨_, _, ⟨T2, L2, k2, n2⟩, -, X2, ⟨Lc2, hQ2, l2, y2, z2⟩, st2⟩ := X1.interfaceBack hx (xi := M21) (y := M18) hown (mvT hZ (ow hw 113 rfl)) (mvT hZ (ow hw 114 rfl)) (mvT hZ (ow hw 115 rfl)) (mvT hZ (ow hw 116 rfl)) (mvT hZ (ow hw 117 rfl)) (mvT hZ (ow hw 118 rfl)) (mvT hZ (ow hw 119 rfl)) (mvT hZ (ow hw 95 rfl)) (by decide) (backOf (W := 0) (au17_0 l Z a0 hw [] wMAX_LOCK_DELAY wGRANTED wQUEUED wBUSY wZERO hS a6 a11 k12 h0 n0 O0 P12 P13 P14 P15 P16) hZ (ow hw 120 rfl) (ow hw 11 rfl) (by decide) (by decide)) q2a q2b q2c (g := (mkF m 4 #[(vr a1), (vr a2), .unset, .unset] [(.ref a6)])) rfl (by rw [hml]; rfl) (Steps.refl _) (argsL := []) (rest := []) (lenOf pd_13 rfl) rfl (by show 2 * 0 + _ ≤ _; exact Nat.le_of_eq rfl) (hb hby d16_4) (fun _ _ => ⟨rfl, e1, (by decide : 0 + 1 ≤ _), (by decide : 0 + 4 ≤ _)⟩)
  dsimp only [Pt.U, Pt.locs, Pt.cells, Pt.slots] at X2 l2 y2 z2 st2 hQ2
  subst l2 y2 z2
  obtain ⟨e1_2, rfl, Nq2, K2q, p2_0, p2_1, p2_2, p2_3, p2_4, p2_5⟩ := hQ2
  have N2 := Fr.app N0 Nq2
  have ne3 : a1 ≠ e1_2 := Nat.ne_of_lt (Nat.lt_of_lt_of_le P0.lt p2_0)
  have ne4 : a2 ≠ e1_2 := Nat.ne_of_lt (Nat.lt_of_lt_of_le P6.lt p2_0)
  have ne5 : a4 ≠ e1_2 := Nat.ne_of_lt (Nat.lt_of_lt_of_le P9.lt p2_0)
  have ne6 : a6 ≠ e1_2 := Nat.ne_of_lt (Nat.lt_of_lt_of_le P12.lt p2_0)
  have ne7 : a11 ≠ e1_2 := Nat.ne_of_lt (Nat.lt_of_lt_of_le P16.lt p2_0)
  have g8 : n0 ≤ e1_2 := Nat.le_trans (own_sz O0) p2_0
  have sz9 : h0.size ≤ e1_2 := Nat.le_trans K0.1 p2_0
  have O10 : Old Z n0 T2.heap := O0.keep K2q all0
  have K10 : Keep h0 T2.heap [] := K0.trans K2q all0
  obtain ⟨cq11, kq11, q11a, q11b, q11c⟩ := isOf hZ rfl p2_1
  obtain ⟨_, _, ⟨T11, L11, k11, n11⟩, -, X11, ⟨Lc11, hQ11, l11, y11, z11⟩, st11⟩ := X2.interfaceBack hx (xi := M22) (y := M19) hown (mvT hZ (ow hw 148 rfl)) (mvT hZ (ow hw 149 rfl)) (mvT hZ (ow hw 150 rfl)) (mvT hZ (ow hw 151 rfl)) (mvT hZ (ow hw 152 rfl)) (mvT hZ (ow hw 153 rfl)) (mvT hZ (ow hw 154 rfl)) (mvT hZ (ow hw 155 rfl)) (by decide) (backOf (W := 0) (au21_0 l Z a0 hw [] wMAX_LOCK_DELAY wGRANTED wQUEUED wBUSY wZERO hS e1_2 T2.heap n0 O10 p2_4) hZ (ow hw 156 rfl) (ow hw 123 rfl) (by decide) (by decide)) q11a q11b q11c (g := (mkF m 11 #[(vr a1), (vr a2), (vr e1_2), .unset] [(.ref e1_2)])) rfl (by rw [hml]; rfl) (Steps.refl _) (argsL := []) (rest := []) (lenOf pd_14 rfl) rfl (by show 2 * 0 + _ ≤ _; exact Nat.le_of_eq rfl) (hb hby d16_11) (fun _ _ => ⟨rfl, rfl, (by decide : 1 + 0 ≤ _), (by decide : 4 + 0 ≤ _)⟩)
  dsimp only [Pt.U, Pt.locs, Pt.cells, Pt.slots] at X11 l11 y11 z11 st11 hQ11
  subst l11 y11 z11
  obtain ⟨rfl, Nq11, K11q⟩ := hQ11
  have N11 := Fr.app N2 Nq11
  obtain ⟨fs, hr, hrun, hended, hW, hsame⟩ := X11.leave (v := some (.int 0)) (fun h => by rw [hret0] at h; cases h)
  refine ⟨_, _, pre0 _ ?_, hrun, hended, _, _, rfl, ?_, ⟨_, rfl⟩, hW, hsame.mono (by decide) (by decide)⟩
  · skip
    show Steps p.tables e below (s₁.setTop (mkF m 0 #[(vr a1), (vr a2), .unset, .unset] [])) _
    refine XS.aloadN X0.here hx rfl (hb hby d16_0) rfl rfl ?_
    refine st1 _ ?_
    refine st2.trans ?_
    refine XS.astoreN X2.here hx rfl (hb hby d16_9) rfl rfl (l' := #[(vr a1), (vr a2), (vr e1_2), .unset]) rfl ?_
    refine XS.aloadN X2.here hx rfl (hb hby d16_10) rfl rfl ?_
    show Steps p.tables e below (T2.setTop (mkF m 11 #[(vr a1), (vr a2), (vr e1_2), .unset] [(.ref e1_2)])) _
    refine st11.trans ?_
    refine XS.ifYes X11.here hx rfl (pc0 := 16) (pc' := 45) rfl (hb hby d16_16) rfl ((if0 _ _).trans (teq (by decide : (0 : Int32) = (0 : Int32))).1) (by decide) (by decide) ?_
    refine XS.iconst X11.here hx rfl (hb hby d16_45) ?_
    exact retN X11 hx (t := .boolean) hret0 (by simp) (hb hby d16_46) hr
  · show Q_au16_0 Z wMAX_LOCK_DELAY wGRANTED wQUEUED wBUSY wZERO a1 a2 a4 a6 a11 k12 h0 n0 _ T11.heap _
    rw [K11q]
    exact ⟨rfl, N11, K10⟩
theorem pd_15 : parseMethodDescriptor "(Lcom/example/umpired/umpired/server/SessionHandle;)Z" = some ⟨[(.object "com/example/umpired/umpired/server/SessionHandle")], some .boolean⟩ := by decide +kernel
theorem d8_56 : decode prog_84_method_3_code 56 = .ok (.ifCond .ne 22, 3) := by decide +kernel
theorem d8_59 : decode prog_84_method_3_code 59 = .ok (.aload_n 0, 1) := by decide +kernel
theorem d8_60 : decode prog_84_method_3_code 60 = .ok (.getfield 10, 3) := by decide +kernel
theorem d8_63 : decode prog_84_method_3_code 63 = .ok (.new 57, 3) := by decide +kernel
theorem d8_66 : decode prog_84_method_3_code 66 = .ok (.dup, 1) := by decide +kernel
theorem d8_67 : decode prog_84_method_3_code 67 = .ok (.aload_n 1, 1) := by decide +kernel
theorem d8_68 : decode prog_84_method_3_code 68 = .ok (.aload_n 2, 1) := by decide +kernel
theorem d8_69 : decode prog_84_method_3_code 69 = .ok (.invokespecial 59, 3) := by decide +kernel
theorem ef_au22_0 (m : MethodId) (x0 : Addr) (x1 : Addr) (x2 : Addr)  : entryFrame m #[(.ref x0), (.ref x1), (.ref x2)] 3 = mkF m 0 #[(vr x0), (vr x1), (vr x2)] [] := by first | (simp [entryFrame, mkF, argsToLocals, Value.category]; done) | rfl
theorem pn_com_example_umpired_umpired_server_NodeLock_Waiter : plainName "com/example/umpired/umpired/server/NodeLock$Waiter" = true := by first | (simp [plainName, overriddenIn]; done) | decide +kernel
theorem d22_0 : decode prog_86_method_1_code 0 = .ok (.aload_n 0, 1) := by decide +kernel
theorem d22_1 : decode prog_86_method_1_code 1 = .ok (.invokespecial 1, 3) := by decide +kernel
theorem d22_4 : decode prog_86_method_1_code 4 = .ok (.aload_n 0, 1) := by decide +kernel
theorem d22_5 : decode prog_86_method_1_code 5 = .ok (.aload_n 1, 1) := by decide +kernel
theorem d22_6 : decode prog_86_method_1_code 6 = .ok (.putfield 7, 3) := by decide +kernel
theorem d22_9 : decode prog_86_method_1_code 9 = .ok (.aload_n 0, 1) := by decide +kernel
theorem d22_10 : decode prog_86_method_1_code 10 = .ok (.aload_n 2, 1) := by decide +kernel
theorem d22_11 : decode prog_86_method_1_code 11 = .ok (.putfield 13, 3) := by decide +kernel
theorem d22_14 : decode prog_86_method_1_code 14 = .ok (.return_, 1) := by decide +kernel
def Q_au22_0 (Z : State) (wMAX_LOCK_DELAY : Addr) (wGRANTED : Addr) (wQUEUED : Addr) (wBUSY : Addr) (wZERO : Addr) (a1 : Addr) (a2 : Addr) (a3 : Addr) (h0 : Heap) (n0 : Nat) (v : Option Value) (h : Heap) (L : List Loc) : Prop := v = none ∧ Fr n0 L ∧ Keep h0 h [a1] ∧ Exa Z h a1 s16n ∧ Fld Z h a1 s16n "lockDelay" s0n (.ref a3) ∧ Fld Z h a1 s16n "owner" s5n (.ref a2)
theorem au22_0 (l : Launch) (Z : State) (a0 : Array Value) (hw : ∀ d ∈ tables_1, d.before a0 Z = true) (ws : List Jvm.Cond) (wMAX_LOCK_DELAY : Addr) (wGRANTED : Addr) (wQUEUED : Addr) (wBUSY : Addr) (wZERO : Addr) (hS : SS Z wMAX_LOCK_DELAY wGRANTED wQUEUED wBUSY wZERO) (a1 : Addr) (a2 : Addr) (a3 : Addr) (h0 : Heap) (n0 : Nat) (O0 : Old Z n0 h0) (P0 : Exa Z h0 a1 s16n) (P1 : Fld Z h0 a1 s16n "lockDelay" s0n .null) (P2 : Fld Z h0 a1 s16n "owner" s5n .null) (P6 : n0 ≤ a1) :
    MetB l M23 prog_86_method_1_code 3 none ws (rmk 1 0 0 12) Z h0 #[(.ref a1), (.ref a2), (.ref a3)] (Q_au22_0 Z wMAX_LOCK_DELAY wGRANTED wQUEUED wBUSY wZERO a1 a2 a3 h0 n0) := by
  refine own_body (plainFor_of_name pn_com_example_umpired_umpired_server_NodeLock_Waiter) ?_
  intro p e s m below meth c s₁ hx hby hml hown hnm hret0 hlk0 hZ X0 e0
  have N0 := Fr.nil n0
  have pre0 : ∀ t, Steps p.tables e below (s₁.setTop (mkF m 0 #[(vr a1), (vr a2), (vr a3)] [])) t → Steps p.tables e below (s₁.setTop (entryFrame m #[(.ref a1), (.ref a2), (.ref a3)] 3)) t := fun t k => castTop (ef_au22_0 m a1 a2 a3) k
  have K0 := Keep.refl h0 [a1]
  have hS0 := hS
  obtain ⟨S_wMAX_LOCK_DELAY, E_wMAX_LOCK_DELAY, S_wGRANTED, E_wGRANTED, S_wQUEUED, E_wQUEUED, S_wBUSY, E_wBUSY, F_seconds_wMAX_LOCK_DELAY, F_nanos_wMAX_LOCK_DELAY, S_wZERO, E_wZERO, F_seconds_wZERO, F_nanos_wZERO⟩ := hS0
  obtain ⟨T1, X1, e1, st1⟩ := initO X0 hx hZ hown (ow hw 163 rfl) (ow hw 7 rfl) (ow hw 8 rfl) e0 (g := (mkF m 1 #[(vr a1), (vr a2), (vr a3)] [(.ref a1)])) rfl (by rw [hml]; rfl) rfl (hb hby d22_1) (by decide) (W := 0) (by show 2 * 0 + _ ≤ _; exact Nat.le_of_eq rfl) (by decide)
  obtain ⟨T2, h2, X2, e2, W2, st2⟩ := putF X1 hx hZ hown (host := "") (Or.inl (ow hw 164 rfl)) Via.refl e1 P2 P0 (Or.inr ⟨(ow hw 165 rfl), rfl, hnm⟩) (ow hw 158 rfl) (ty := (.object s3n)) (by decide) rfl rfl (g := (mkF m 6 #[(vr a1), (vr a2), (vr a3)] [(.ref a2), (.ref a1)])) rfl rfl (hb hby d22_6)
  have N2 := Fr.snoc X2 N0 P6
  have O3 : Old Z n0 h2 := O0.wr W2 P6
  have K3 : Keep h0 h2 [a1] := K0.wr W2 (Or.inl (List.mem_of_getElem? (i := 0) rfl))
  have Fw2 : Fld Z h2 a1 s16n "owner" s5n (.ref a2) := P2.same W2
  have f4 : Exa Z h2 a1 s16n := (P0.wr W2)
  have f5 : Fld Z h2 a1 s16n "lockDelay" s0n .null := (P1.other W2 (Or.inr (slot_ne (Or.inr (ow hw 167 rfl)) (Or.inr (ow hw 165 rfl)) (by decide) (t := (.object s1n)) (t' := (.object s3n)) (by decide) (by decide))))
  obtain ⟨T6, h6, X6, e6, W6, st6⟩ := putF X2 hx hZ hown (host := "") (Or.inl (ow hw 166 rfl)) Via.refl e2 f5 f4 (Or.inr ⟨(ow hw 167 rfl), rfl, hnm⟩) (ow hw 158 rfl) (ty := (.object s1n)) (by decide) rfl rfl (g := (mkF m 11 #[(vr a1), (vr a2), (vr a3)] [(.ref a3), (.ref a1)])) rfl rfl (hb hby d22_11)
  have N6 := Fr.snoc X6 N2 P6
  have O7 : Old Z n0 h6 := O3.wr W6 P6
  have K7 : Keep h0 h6 [a1] := K3.wr W6 (Or.inl (List.mem_of_getElem? (i := 0) rfl))
  have Fw6 : Fld Z h6 a1 s16n "lockDelay" s0n (.ref a3) := f5.same W6
  have f8 : Exa Z h6 a1 s16n := (f4.wr W6)
  have f9 : Fld Z h6 a1 s16n "owner" s5n (.ref a2) := (Fw2.other W6 (Or.inr (slot_ne (Or.inr (ow hw 165 rfl)) (Or.inr (ow hw 167 rfl)) (by decide) (t := (.object s3n)) (t' := (.object s1n)) (by decide) (by decide))))
  obtain ⟨fs, hr, hrun, hended, hW, hsame⟩ := X6.leave (v := none) (fun _ => rfl)
  refine ⟨_, _, pre0 _ ?_, hrun, hended, _, _, rfl, ?_, ⟨_, rfl⟩, hW, hsame.mono (by decide) (by decide)⟩
  · skip
    show Steps p.tables e below (s₁.setTop (mkF m 0 #[(vr a1), (vr a2), (vr a3)] [])) _
    refine XS.aloadN X0.here hx rfl (hb hby d22_0) rfl rfl ?_
    refine st1 _ ?_
    refine XS.aloadN X1.here hx rfl (hb hby d22_4) rfl rfl ?_
    refine XS.aloadN X1.here hx rfl (hb hby d22_5) rfl rfl ?_
    refine st2 _ ?_
    show Steps p.tables e below (T2.setTop (mkF m 9 #[(vr a1), (vr a2), (vr a3)] [])) _
    refine XS.aloadN X2.here hx rfl (hb hby d22_9) rfl rfl ?_
    refine XS.aloadN X2.here hx rfl (hb hby d22_10) rfl rfl ?_
    refine st6 _ ?_
    exact X6.returnOut hx hret0 (hb hby d22_14) hr
  · show Q_au22_0 Z wMAX_LOCK_DELAY wGRANTED wQUEUED wBUSY wZERO a1 a2 a3 h0 n0 _ T6.heap _
    rw [e6]
    exact ⟨rfl, N6, K7, f8, Fw6, f9⟩
theorem d8_72 : decode prog_84_method_3_code 72 = .ok (.invokeinterface 61 2, 5) := by decide +kernel
theorem ef_au23_0 (m : MethodId) (x0 : Addr) (x1 : Addr)  : entryFrame m #[(.ref x0), (.ref x1)] 2 = mkF m 0 #[(vr x0), (vr x1)] [] := by first | (simp [entryFrame, mkF, argsToLocals, Value.category]; done) | rfl
theorem d23_0 : decode jdk_21_method_28_code 0 = .ok (.aload_n 0, 1) := by decide +kernel
theorem d23_1 : decode jdk_21_method_28_code 1 = .ok (.aload_n 1, 1) := by decide +kernel
theorem d23_2 : decode jdk_21_method_28_code 2 = .ok (.invokevirtual 90, 3) := by decide +kernel
theorem ef_au24_0 (m : MethodId) (x0 : Addr) (x1 : Addr)  : entryFrame m #[(.ref x0), (.ref x1)] 3 = mkF m 0 #[(vr x0), (vr x1), .unset] [] := by first | (simp [entryFrame, mkF, argsToLocals, Value.category]; done) | rfl
theorem d24_0 : decode jdk_21_method_13_code 0 = .ok (.aload_n 1, 1) := by decide +kernel
theorem d24_1 : decode jdk_21_method_13_code 1 = .ok (.ifnonnull 11, 3) := by decide +kernel
theorem d24_12 : decode jdk_21_method_13_code 12 = .ok (.aload_n 0, 1) := by decide +kernel
theorem d24_13 : decode jdk_21_method_13_code 13 = .ok (.getfield 3, 3) := by decide +kernel
theorem d24_16 : decode jdk_21_method_13_code 16 = .ok (.astore_n 2, 1) := by decide +kernel
theorem d24_17 : decode jdk_21_method_13_code 17 = .ok (.aload_n 2, 1) := by decide +kernel
theorem d24_18 : decode jdk_21_method_13_code 18 = .ok (.aload_n 0, 1) := by decide +kernel
theorem d24_19 : decode jdk_21_method_13_code 19 = .ok (.getfield 20, 3) := by decide +kernel
theorem d24_22 : decode jdk_21_method_13_code 22 = .ok (.aload_n 1, 1) := by decide +kernel
theorem d24_23 : decode jdk_21_method_13_code 23 = .ok (.aastore, 1) := by decide +kernel
theorem d24_24 : decode jdk_21_method_13_code 24 = .ok (.aload_n 0, 1) := by decide +kernel
theorem d24_25 : decode jdk_21_method_13_code 25 = .ok (.getfield 24, 3) := by decide +kernel
theorem d24_28 : decode jdk_21_method_13_code 28 = .ok (.aload_n 0, 1) := by decide +kernel
theorem d24_29 : decode jdk_21_method_13_code 29 = .ok (.aload_n 0, 1) := by decide +kernel
theorem d24_30 : decode jdk_21_method_13_code 30 = .ok (.getfield 20, 3) := by decide +kernel
theorem d24_33 : decode jdk_21_method_13_code 33 = .ok (.aload_n 2, 1) := by decide +kernel
theorem d24_34 : decode jdk_21_method_13_code 34 = .ok (.arraylength, 1) := by decide +kernel
theorem d24_35 : decode jdk_21_method_13_code 35 = .ok (.invokestatic 74, 3) := by decide +kernel
theorem ef_au25_0 (m : MethodId) (x0 : Int32) (x1 : Int32)  : entryFrame m #[(.int x0), (.int x1)] 2 = mkF m 0 #[(vi x0), (vi x1)] [] := by first | (simp [entryFrame, mkF, argsToLocals, Value.category]; done) | rfl
theorem d25_0 : decode jdk_21_method_6_code 0 = .ok (.iinc 0 1, 3) := by decide +kernel
theorem d25_3 : decode jdk_21_method_6_code 3 = .ok (.iload_n 0, 1) := by decide +kernel
theorem d25_4 : decode jdk_21_method_6_code 4 = .ok (.iload_n 1, 1) := by decide +kernel
theorem d25_5 : decode jdk_21_method_6_code 5 = .ok (.if_icmp .lt 5, 3) := by decide +kernel
theorem d25_10 : decode jdk_21_method_6_code 10 = .ok (.iload_n 0, 1) := by decide +kernel
theorem d25_11 : decode jdk_21_method_6_code 11 = .ok (.ireturn, 1) := by decide +kernel
def Q_au25_0 (Z : State) (wMAX_LOCK_DELAY : Addr) (wGRANTED : Addr) (wQUEUED : Addr) (wBUSY : Addr) (wZERO : Addr)  (h0 : Heap) (n0 : Nat) (v : Option Value) (h : Heap) (L : List Loc) : Prop := v = some (.int 1) ∧ Fr n0 L ∧ h = h0
theorem au25_0 (l : Launch) (Z : State) (a0 : Array Value) (hw : ∀ d ∈ tables_1, d.before a0 Z = true) (ws : List Jvm.Cond) (wMAX_LOCK_DELAY : Addr) (wGRANTED : Addr) (wQUEUED : Addr) (wBUSY : Addr) (wZERO : Addr) (hS : SS Z wMAX_LOCK_DELAY wGRANTED wQUEUED wBUSY wZERO)  (h0 : Heap) (n0 : Nat) (O0 : Old Z n0 h0)  :
    MetB l M24 jdk_21_method_6_code 2 (some .int) ws (rmk 0 0 0 0) Z h0 #[(.int 0), (.int 17)] (Q_au25_0 Z wMAX_LOCK_DELAY wGRANTED wQUEUED wBUSY wZERO  h0 n0) := by
  refine own_body (plainFor_of_name pn_java_util_ArrayDeque) ?_
  intro p e s m below meth c s₁ hx hby hml hown hnm hret0 hlk0 hZ X0 e0
  have N0 := Fr.nil n0
  have pre0 : ∀ t, Steps p.tables e below (s₁.setTop (mkF m 0 #[(vi 0), (vi 17)] [])) t → Steps p.tables e below (s₁.setTop (entryFrame m #[(.int 0), (.int 17)] 2)) t := fun t k => castTop (ef_au25_0 m (0 : Int32) (17 : Int32)) k
  have hS0 := hS
  obtain ⟨S_wMAX_LOCK_DELAY, E_wMAX_LOCK_DELAY, S_wGRANTED, E_wGRANTED, S_wQUEUED, E_wQUEUED, S_wBUSY, E_wBUSY, F_seconds_wMAX_LOCK_DELAY, F_nanos_wMAX_LOCK_DELAY, S_wZERO, E_wZERO, F_seconds_wZERO, F_nanos_wZERO⟩ := hS0
  obtain ⟨fs, hr, hrun, hended, hW, hsame⟩ := X0.leave (v := some (.int 1)) (fun h => by rw [hret0] at h; cases h)
  refine ⟨_, _, pre0 _ ?_, hrun, hended, _, _, rfl, ?_, ⟨_, rfl⟩, hW, hsame.mono (by decide) (by decide)⟩
  · skip
    show Steps p.tables e below (s₁.setTop (mkF m 0 #[(vi 0), (vi 17)] [])) _
    refine XS.iinc X0.here hx rfl (hb hby d25_0) rfl (l' := #[(vi 1), (vi 17)]) rfl ?_
    refine XS.iloadN X0.here hx rfl (hb hby d25_3) rfl ?_
    refine XS.iloadN X0.here hx rfl (hb hby d25_4) rfl ?_
    refine XS.icmpYes X0.here hx rfl (pc0 := 5) (pc' := 10) rfl (hb hby d25_5) rfl (tlt (by decide : (1 : Int32) < (17 : Int32))).1 (by decide) (by decide) ?_
    refine XS.iloadN X0.here hx rfl (hb hby d25_10) rfl ?_
    show Steps p.tables e below (s₁.setTop (mkF m 11 #[(vi 1), (vi 17)] [(.int 1)])) _
    exact retI X0 hx hret0 (hb hby d25_11) hr
  · show Q_au25_0 Z wMAX_LOCK_DELAY wGRANTED wQUEUED wBUSY wZERO  h0 n0 _ s₁.heap _
    rw [e0]
    exact ⟨rfl, N0, rfl⟩
theorem pd_16 : parseMethodDescriptor "(II)I" = some ⟨[.int, .int], some .int⟩ := by decide +kernel
theorem d24_38 : decode jdk_21_method_13_code 38 = .ok (.dup_x1, 1) := by decide +kernel
theorem d24_39 : decode jdk_21_method_13_code 39 = .ok (.putfield 20, 3) := by decide +kernel
theorem d24_42 : decode jdk_21_method_13_code 42 = .ok (.if_icmp .ne 8, 3) := by decide +kernel
theorem d24_50 : decode jdk_21_method_13_code 50 = .ok (.return_, 1) := by decide +kernel
def Q_au24_0 (Z : State) (wMAX_LOCK_DELAY : Addr) (wGRANTED : Addr) (wQUEUED : Addr) (wBUSY : Addr) (wZERO : Addr) (a1 : Addr) (a2 : Addr) (a3 : Addr) (k6 : ClassId) (h0 : Heap) (n0 : Nat) (v : Option Value) (h : Heap) (L : List Loc) : Prop := v = none ∧ Fr n0 L ∧ Keep h0 h [a3, a1] ∧ Exa Z h a3 s8n ∧ Arv Z h a3 k6 (.object s9n) (17 : Int32) ([(.ref a2), .null, .null, .null, .null, .null, .null, .null, .null, .null, .null, .null, .null, .null, .null, .null, .null]) .null ∧ Ovr Z k6 s9n ∧ Exa Z h a1 s7n ∧ Fld Z h a1 s7n "elements" s8n (.ref a3) ∧ Fld Z h a1 s7n "head" "I" (.int 0) ∧ Fld Z h a1 s7n "tail" "I" (.int 1)
theorem au24_0 (l : Launch) (Z : State) (a0 : Array Value) (hw : ∀ d ∈ tables_1, d.before a0 Z = true) (ws : List Jvm.Cond) (wMAX_LOCK_DELAY : Addr) (wGRANTED : Addr) (wQUEUED : Addr) (wBUSY : Addr) (wZERO : Addr) (hS : SS Z wMAX_LOCK_DELAY wGRANTED wQUEUED wBUSY wZERO) (a1 : Addr) (a2 : Addr) (a3 : Addr) (k6 : ClassId) (h0 : Heap) (n0 : Nat) (O0 : Old Z n0 h0) (P0 : Exa Z h0 a1 s7n) (P1 : Fld Z h0 a1 s7n "elements" s8n (.ref a3)) (P2 : Fld Z h0 a1 s7n "head" "I" (.int 0)) (P3 : Fld Z h0 a1 s7n "tail" "I" (.int 0)) (P4 : Exa Z h0 a2 s16n) (P7 : Arv Z h0 a3 k6 (.object s9n) (17 : Int32) ([.null, .null, .null, .null, .null, .null, .null, .null, .null, .null, .null, .null, .null, .null, .null, .null, .null]) .null) (P8 : Ovr Z k6 s9n) (P9 : Exa Z h0 a3 s8n) (P13 : n0 ≤ a1) (P15 : n0 ≤ a3) (P18 : a1 ≠ a3) :
    MetB l M25 jdk_21_method_13_code 3 none ws (rmk 1 0 0 15) Z h0 #[(.ref a1), (.ref a2)] (Q_au24_0 Z wMAX_LOCK_DELAY wGRANTED wQUEUED wBUSY wZERO a1 a2 a3 k6 h0 n0) := by
  refine own_body (plainFor_of_name pn_java_util_ArrayDeque) ?_
  intro p e s m below meth c s₁ hx hby hml hown hnm hret0 hlk0 hZ X0 e0
  have N0 := Fr.nil n0
  have pre0 : ∀ t, Steps p.tables e below (s₁.setTop (mkF m 0 #[(vr a1), (vr a2), .unset] [])) t → Steps p.tables e below (s₁.setTop (entryFrame m #[(.ref a1), (.ref a2)] 3)) t := fun t k => castTop (ef_au24_0 m a1 a2) k
  have K0 := Keep.refl h0 [a3, a1]
  have hS0 := hS
  obtain ⟨S_wMAX_LOCK_DELAY, E_wMAX_LOCK_DELAY, S_wGRANTED, E_wGRANTED, S_wQUEUED, E_wQUEUED, S_wBUSY, E_wBUSY, F_seconds_wMAX_LOCK_DELAY, F_nanos_wMAX_LOCK_DELAY, S_wZERO, E_wZERO, F_seconds_wZERO, F_nanos_wZERO⟩ := hS0
  obtain ⟨T1, X1, e1, st1⟩ := getF X0 hx hZ hown (host := "") (Or.inl (ow hw 24 rfl)) Via.refl e0 P1 (g := (mkF m 13 #[(vr a1), (vr a2), .unset] [(.ref a1)])) rfl rfl (hb hby d24_13)
  obtain ⟨T2, X2, e2, st2⟩ := getF X1 hx hZ hown (host := "") (Or.inl (ow hw 136 rfl)) Via.refl e1 P3 (g := (mkF m 19 #[(vr a1), (vr a2), (vr a3)] [(.ref a1), (.ref a3)])) rfl rfl (hb hby d24_19)
  obtain ⟨cl3, Ar3, q3, Sz3, Nn3, Ha3, Gg3⟩ := (id P7)
  have hin3 : ¬ ((0 : Int32) < 0 ∨ cl3.slots.size ≤ ((0 : Int32)).toNatClampNeg) := inb_of Sz3 ⟨by decide, by decide⟩
  obtain ⟨T3, h3, X3, e3, W3, st3⟩ := stR X2 hx hZ e2 Ar3 (j := (0 : Int32)) hin3 rfl (Sto.ofV Ar3 q3 P8 (Ins.of_exa P4 (ow hw 181 rfl))) (g := (mkF m 23 #[(vr a1), (vr a2), (vr a3)] [(.ref a2), (.int 0), (.ref a3)])) rfl rfl (hb hby d24_23)
  have O4 : Old Z n0 h3 := O0.wr W3 P15
  have K4 : Keep h0 h3 [a3, a1] := K0.wr W3 (Or.inl (List.mem_of_getElem? (i := 0) rfl))
  have V3 : Arv Z h3 a3 k6 (.object s9n) (17 : Int32) ([(.ref a2), .null, .null, .null, .null, .null, .null, .null, .null, .null, .null, .null, .null, .null, .null, .null, .null]) .null := Arv.set Ar3 q3 Sz3 Nn3 Ha3 Gg3 (v := (.ref a2)) rfl W3 0 rfl (Nat.le_of_ble_eq_true rfl)
  have N3 := Fr.snoc X3 N0 P15
  have f5 : Fld Z h3 a1 s7n "head" "I" (.int 0) := (P2.other W3 (Or.inl P18))
  obtain ⟨T6, X6, e6, st6⟩ := getF X3 hx hZ hown (host := "") (Or.inl (ow hw 102 rfl)) Via.refl e3 f5 (g := (mkF m 25 #[(vr a1), (vr a2), (vr a3)] [(.ref a1)])) rfl rfl (hb hby d24_25)
  have f7 : Fld Z h3 a1 s7n "tail" "I" (.int 0) := (P3.other W3 (Or.inl P18))
  obtain ⟨T8, X8, e8, st8⟩ := getF X6 hx hZ hown (host := "") (Or.inl (ow hw 136 rfl)) Via.refl e6 f7 (g := (mkF m 30 #[(vr a1), (vr a2), (vr a3)] [(.ref a1), (.ref a1), (.int 0)])) rfl rfl (hb hby d24_30)
  obtain ⟨cl9, Ar9, -, Sz9, Nn9, -, -⟩ := (id V3)
  obtain ⟨_, _, ⟨T10, L10, k10, n10⟩, -, X10, ⟨Lc10, hQ10, l10, y10, z10⟩, st10⟩ := Jvm.LawKit.callS X8 hx (y := M24) hown (mvT hZ (ow hw 182 rfl)) (mvT hZ (ow hw 183 rfl)) (mvT hZ (ow hw 11 rfl)) (mvT hZ (ow hw 184 rfl)) (by decide) (backOf (W := 2) (au25_0 l Z a0 hw [] wMAX_LOCK_DELAY wGRANTED wQUEUED wBUSY wZERO hS  h3 n0 O4 ) hZ (ow hw 184 rfl) (ow hw 11 rfl) (by decide) (by decide)) (g := (mkF m 35 #[(vr a1), (vr a2), (vr a3)] [(.int 17), (.int 0), (.ref a1), (.int 0)])) rfl (by rw [hml]; rfl) (argsL := [(.int 0), (.int 17)]) (rest := [(.ref a1), (.int 0)]) (lenOf pd_16 rfl) rfl (by show 2 * 0 + _ ≤ _; exact Nat.le_of_eq rfl) (hb hby d24_35) (fun _ _ => ⟨rfl, e8, (by decide : 0 + 0 ≤ _), (by decide : 0 + 0 ≤ _)⟩)
  dsimp only [Pt.U, Pt.locs, Pt.cells, Pt.slots] at X10 l10 y10 z10 st10 hQ10
  subst l10 y10 z10
  obtain ⟨rfl, Nq10, K10q⟩ := hQ10
  have N10 := Fr.app N3 Nq10
  have f11 : Exa Z h3 a1 s7n := (P0.wr W3)
  obtain ⟨T12, h12, X12, e12, W12, st12⟩ := putF X10 hx hZ hown (host := "") (Or.inl (ow hw 136 rfl)) Via.refl K10q f7 f11 (Or.inl (ow hw 137 rfl)) (ow hw 10 rfl) (ty := .int) (by decide) rfl rfl (g := (mkF m 39 #[(vr a1), (vr a2), (vr a3)] [(.int 1), (.ref a1), (.int 1), (.int 0)])) rfl rfl (hb hby d24_39)
  have N12 := Fr.snoc X12 N10 P13
  have O13 : Old Z n0 h12 := O4.wr W12 P13
  have K13 : Keep h0 h12 [a3, a1] := K4.wr W12 (Or.inl (List.mem_of_getElem? (i := 1) rfl))
  have Fw12 : Fld Z h12 a1 s7n "tail" "I" (.int 1) := f7.same W12
  have f14 : Exa Z h12 a3 s8n := ((P9.wr W3).wr W12)
  have f15 : Arv Z h12 a3 k6 (.object s9n) (17 : Int32) ([(.ref a2), .null, .null, .null, .null, .null, .null, .null, .null, .null, .null, .null, .null, .null, .null, .null, .null]) .null := (V3.other W12 (Ne.symm P18))
  have f16 : Exa Z h12 a1 s7n := (f11.wr W12)
  have f17 : Fld Z h12 a1 s7n "elements" s8n (.ref a3) := ((P1.other W3 (Or.inl P18)).other W12 (Or.inr (slot_ne (Or.inl (ow hw 25 rfl)) (Or.inl (ow hw 137 rfl)) (by decide) (t := (.array (.object s9n))) (t' := .int) (by decide) (by decide))))
  have f18 : Fld Z h12 a1 s7n "head" "I" (.int 0) := (f5.other W12 (Or.inr (slot_ne (Or.inl (ow hw 103 rfl)) (Or.inl (ow hw 137 rfl)) (by decide) (t := .int) (t' := .int) (by decide) (by decide))))
  obtain ⟨fs, hr, hrun, hended, hW, hsame⟩ := X12.leave (v := none) (fun _ => rfl)
  refine ⟨_, _, pre0 _ ?_, hrun, hended, _, _, rfl, ?_, ⟨_, rfl⟩, hW, hsame.mono (by decide) (by decide)⟩
  · skip
    show Steps p.tables e below (s₁.setTop (mkF m 0 #[(vr a1), (vr a2), .unset] [])) _
    refine XS.aloadN X0.here hx rfl (hb hby d24_0) rfl rfl ?_
    refine XS.ifnonnullYes X0.here hx rfl (pc0 := 1) (pc' := 12) rfl (hb hby d24_1) rfl (by decide) (by decide) ?_
    refine XS.aloadN X0.here hx rfl (hb hby d24_12) rfl rfl ?_
    refine st1 _ ?_
    refine XS.astoreN X1.here hx rfl (hb hby d24_16) rfl rfl (l' := #[(vr a1), (vr a2), (vr a3)]) rfl ?_
    show Steps p.tables e below (T1.setTop (mkF m 17 #[(vr a1), (vr a2), (vr a3)] [])) _
    refine XS.aloadN X1.here hx rfl (hb hby d24_17) rfl rfl ?_
    refine XS.aloadN X1.here hx rfl (hb hby d24_18) rfl rfl ?_
    refine st2 _ ?_
    refine XS.aloadN X2.here hx rfl (hb hby d24_22) rfl rfl ?_
    refine st3 _ ?_
    show Steps p.tables e below (T3.setTop (mkF m 24 #[(vr a1), (vr a2), (vr a3)] [])) _
    refine XS.aloadN X3.here hx rfl (hb hby d24_24) rfl rfl ?_
    refine st6 _ ?_
    refine XS.aloadN X6.here hx rfl (hb hby d24_28) rfl rfl ?_
    refine XS.aloadN X6.here hx rfl (hb hby d24_29) rfl rfl ?_
    refine st8 _ ?_
    show Steps p.tables e below (T8.setTop (mkF m 33 #[(vr a1), (vr a2), (vr a3)] [(.int 0), (.ref a1), (.int 0)])) _
    refine XS.aloadN X8.here hx rfl (hb hby d24_33) rfl rfl ?_
    refine X8.arraylength hx (by rw [e8]; exact Ar9.1) (State.isArrayOf_alike hZ.alike Ar9.2.1) (g := (mkF m 34 #[(vr a1), (vr a2), (vr a3)] [(.ref a3), (.int 0), (.ref a1), (.int 0)])) rfl rfl (hb hby d24_34) _ ?_
    rw [len_of Sz9 Nn9]
    refine st10 _ ?_
    refine XS.dupX1 X10.here hx rfl (hb hby d24_38) rfl rfl rfl ?_
    refine st12 _ ?_
    show Steps p.tables e below (T12.setTop (mkF m 42 #[(vr a1), (vr a2), (vr a3)] [(.int 1), (.int 0)])) _
    refine XS.icmpYes X12.here hx rfl (pc0 := 42) (pc' := 50) rfl (hb hby d24_42) rfl (feq (by decide : ¬ ((0 : Int32) = (1 : Int32)))).2 (by decide) (by decide) ?_
    exact X12.returnOut hx hret0 (hb hby d24_50) hr
  · show Q_au24_0 Z wMAX_LOCK_DELAY wGRANTED wQUEUED wBUSY wZERO a1 a2 a3 k6 h0 n0 _ T12.heap _
    rw [e12]
    exact ⟨rfl, N12, K13, f14, f15, P8, f16, f17, f18, Fw12⟩
theorem pd_17 : parseMethodDescriptor "(Ljava/lang/Object;)V" = some ⟨[(.object "java/lang/Object")], none⟩ := by decide +kernel
theorem d23_5 : decode jdk_21_method_28_code 5 = .ok (.iconst 1, 1) := by decide +kernel
theorem d23_6 : decode jdk_21_method_28_code 6 = .ok (.ireturn, 1) := by decide +kernel
def Q_au23_0 (Z : State) (wMAX_LOCK_DELAY : Addr) (wGRANTED : Addr) (wQUEUED : Addr) (wBUSY : Addr) (wZERO : Addr) (a1 : Addr) (a2 : Addr) (a3 : Addr) (k6 : ClassId) (h0 : Heap) (n0 : Nat) (v : Option Value) (h : Heap) (L : List Loc) : Prop := v = some (.int 1) ∧ Fr n0 L ∧ Keep h0 h [a3, a1] ∧ Exa Z h a3 s8n ∧ Arv Z h a3 k6 (.object s9n) (17 : Int32) ([(.ref a2), .null, .null, .null, .null, .null, .null, .null, .null, .null, .null, .null, .null, .null, .null, .null, .null]) .null ∧ Ovr Z k6 s9n ∧ Exa Z h a1 s7n ∧ Fld Z h a1 s7n "elements" s8n (.ref a3) ∧ Fld Z h a1 s7n "head" "I" (.int 0) ∧ Fld Z h a1 s7n "tail" "I" (.int 1)
theorem au23_0 (l : Launch) (Z : State) (a0 : Array Value) (hw : ∀ d ∈ tables_1, d.before a0 Z = true) (ws : List Jvm.Cond) (wMAX_LOCK_DELAY : Addr) (wGRANTED : Addr) (wQUEUED : Addr) (wBUSY : Addr) (wZERO : Addr) (hS : SS Z wMAX_LOCK_DELAY wGRANTED wQUEUED wBUSY wZERO) (a1 : Addr) (a2 : Addr) (a3 : Addr) (k6 : ClassId) (h0 : Heap) (n0 : Nat) (O0 : Old Z n0 h0) (P0 : Exa Z h0 a1 s7n) (P1 : Fld Z h0 a1 s7n "elements" s8n (.ref a3)) (P2 : Fld Z h0 a1 s7n "head" "I" (.int 0)) (P3 : Fld Z h0 a1 s7n "tail" "I" (.int 0)) (P4 : Exa Z h0 a2 s16n) (P7 : Arv Z h0 a3 k6 (.object s9n) (17 : Int32) ([.null, .null, .null, .null, .null, .null, .null, .null, .null, .null, .null, .null, .null, .null, .null, .null, .null]) .null) (P8 : Ovr Z k6 s9n) (P9 : Exa Z h0 a3 s8n) (P13 : n0 ≤ a1) (P15 : n0 ≤ a3) (P18 : a1 ≠ a3) :
    MetB l M26 jdk_21_method_28_code 2 (some .boolean) ws (rmk 2 0 0 29) Z h0 #[(.ref a1), (.ref a2)] (Q_au23_0 Z wMAX_LOCK_DELAY wGRANTED wQUEUED wBUSY wZERO a1 a2 a3 k6 h0 n0) := by
  refine own_body (plainFor_of_name pn_java_util_ArrayDeque) ?_
  intro p e s m below meth c s₁ hx hby hml hown hnm hret0 hlk0 hZ X0 e0
  have N0 := Fr.nil n0
  have pre0 : ∀ t, Steps p.tables e below (s₁.setTop (mkF m 0 #[(vr a1), (vr a2)] [])) t → Steps p.tables e below (s₁.setTop (entryFrame m #[(.ref a1), (.ref a2)] 2)) t := fun t k => castTop (ef_au23_0 m a1 a2) k
  have K0 := Keep.refl h0 [a3, a1]
  have hS0 := hS
  obtain ⟨S_wMAX_LOCK_DELAY, E_wMAX_LOCK_DELAY, S_wGRANTED, E_wGRANTED, S_wQUEUED, E_wQUEUED, S_wBUSY, E_wBUSY, F_seconds_wMAX_LOCK_DELAY, F_nanos_wMAX_LOCK_DELAY, S_wZERO, E_wZERO, F_seconds_wZERO, F_nanos_wZERO⟩ := hS0
  obtain ⟨cq1, kq1, q1a, q1b, q1c⟩ := isOf hZ e0 P0
  obtain ⟨_, _, ⟨T1, L1, k1, n1⟩, -, X1, ⟨Lc1, hQ1, l1, y1, z1⟩, st1⟩ := X0.virtualBack hx (y := M25) (z := M25) hown (mvT hZ (ow hw 176 rfl)) (mvT hZ (ow hw 177 rfl)) (notFace_of_selects (args := #[]) (mvT hZ (ow hw 179 rfl))) (mvT hZ (ow hw 179 rfl)) (mvT hZ (ow hw 178 rfl)) (by decide) (backOf (W := 0) (au24_0 l Z a0 hw [] wMAX_LOCK_DELAY wGRANTED wQUEUED wBUSY wZERO hS a1 a2 a3 k6 h0 n0 O0 P0 P1 P2 P3 P4 P7 P8 P9 P13 P15 P18) hZ (ow hw 180 rfl) (ow hw 11 rfl) (by decide) (by decide)) q1a q1c (g := (mkF m 2 #[(vr a1), (vr a2)] [(.ref a2), (.ref a1)])) rfl (by rw [hml]; rfl) (Steps.refl _) (argsL := [(.ref a2)]) (rest := []) (lenOf pd_17 rfl) rfl (by show 2 * 0 + _ ≤ _; exact Nat.le_of_eq rfl) (hb hby d23_2) (fun _ _ => ⟨rfl, e0, (by decide : 0 + 0 ≤ _), (by decide : 0 + 0 ≤ _)⟩)
  dsimp only [Pt.U, Pt.locs, Pt.cells, Pt.slots] at X1 l1 y1 z1 st1 hQ1
  subst l1 y1 z1
  obtain ⟨rfl, Nq1, K1q, p1_0, p1_1, p1_2, p1_3, p1_4, p1_5, p1_6⟩ := hQ1
  have N1 := Fr.app N0 Nq1
  have O2 : Old Z n0 T1.heap := O0.keep K1q (allS P15 (allS P13 all0))
  have K2 : Keep h0 T1.heap [a3, a1] := K0.trans K1q (allS (Or.inl (List.mem_of_getElem? (i := 0) rfl)) (allS (Or.inl (List.mem_of_getElem? (i := 1) rfl)) all0))
  obtain ⟨fs, hr, hrun, hended, hW, hsame⟩ := X1.leave (v := some (.int 1)) (fun h => by rw [hret0] at h; cases h)
  refine ⟨_, _, pre0 _ ?_, hrun, hended, _, _, rfl, ?_, ⟨_, rfl⟩, hW, hsame.mono (by decide) (by decide)⟩
  · skip
    show Steps p.tables e below (s₁.setTop (mkF m 0 #[(vr a1), (vr a2)] [])) _
    refine XS.aloadN X0.here hx rfl (hb hby d23_0) rfl rfl ?_
    refine XS.aloadN X0.here hx rfl (hb hby d23_1) rfl rfl ?_
    refine st1.trans ?_
    refine XS.iconst X1.here hx rfl (hb hby d23_5) ?_
    exact retN X1 hx (t := .boolean) hret0 (by simp) (hb hby d23_6) hr
  · show Q_au23_0 Z wMAX_LOCK_DELAY wGRANTED wQUEUED wBUSY wZERO a1 a2 a3 k6 h0 n0 _ T1.heap _
    exact ⟨rfl, N1, K2, p1_0, p1_1, p1_2, p1_3, p1_4, p1_5, p1_6⟩
theorem d8_77 : decode prog_84_method_3_code 77 = .ok (.pop, 1) := by decide +kernel
theorem d8_78 : decode prog_84_method_3_code 78 = .ok (.getstatic 66, 3) := by decide +kernel
theorem d8_81 : decode prog_84_method_3_code 81 = .ok (.astore 4, 2) := by decide +kernel
theorem d8_83 : decode prog_84_method_3_code 83 = .ok (.goto 8, 3) := by decide +kernel
def Q_au8_2 (Z : State) (wMAX_LOCK_DELAY : Addr) (wGRANTED : Addr) (wQUEUED : Addr) (wBUSY : Addr) (wZERO : Addr) (a1 : Addr) (a2 : Addr) (a3 : Addr) (a5 : Addr) (a6 : Addr) (q8 : Int64) (q10 : Int64) (a11 : Addr) (k12 : ClassId) (h0 : Heap) (n0 : Nat) (v : Option Value) (h : Heap) (L : List Loc) : Prop := ∃ (e1 : Addr), v = some (.ref wQUEUED) ∧ Fr n0 L ∧ Keep h0 h [a11, a6] ∧ Exa Z h a11 s8n ∧ Arv Z h a11 k12 (.object s9n) (17 : Int32) ([(.ref e1), .null, .null, .null, .null, .null, .null, .null, .null, .null, .null, .null, .null, .null, .null, .null, .null]) .null ∧ Ovr Z k12 s9n ∧ Exa Z h a6 s7n ∧ Fld Z h a6 s7n "elements" s8n (.ref a11) ∧ Fld Z h a6 s7n "head" "I" (.int 0) ∧ Fld Z h a6 s7n "tail" "I" (.int 1) ∧ h0.size ≤ e1 ∧ Exa Z h e1 s16n ∧ Fld Z h e1 s16n "lockDelay" s0n (.ref a3) ∧ Fld Z h e1 s16n "owner" s5n (.ref a2)
theorem au8_2 (l : Launch) (Z : State) (a0 : Array Value) (hw : ∀ d ∈ tables_1, d.before a0 Z = true) (ws : List Jvm.Cond) (wMAX_LOCK_DELAY : Addr) (wGRANTED : Addr) (wQUEUED : Addr) (wBUSY : Addr) (wZERO : Addr) (hS : SS Z wMAX_LOCK_DELAY wGRANTED wQUEUED wBUSY wZERO) (a1 : Addr) (a2 : Addr) (a3 : Addr) (a5 : Addr) (a6 : Addr) (q8 : Int64) (q10 : Int64) (a11 : Addr) (k12 : ClassId) (h0 : Heap) (n0 : Nat) (O0 : Old Z n0 h0) (P0 : Exa Z h0 a1 s4n) (P3 : Fld Z h0 a1 s4n "holder" s5n (.ref a5)) (P5 : Fld Z h0 a1 s4n "waiters" s11n (.ref a6)) (P6 : Exa Z h0 a2 s3n) (P8 : Fld Z h0 a2 s3n "session" "J" (.long q8)) (P9 : Exa Z h0 a5 s3n) (P11 : Fld Z h0 a5 s3n "session" "J" (.long q10)) (P12 : Exa Z h0 a6 s7n) (P13 : Fld Z h0 a6 s7n "elements" s8n (.ref a11)) (P14 : Fld Z h0 a6 s7n "head" "I" (.int 0)) (P15 : Fld Z h0 a6 s7n "tail" "I" (.int 0)) (P16 : Arv Z h0 a11 k12 (.object s9n) (17 : Int32) ([.null, .null, .null, .null, .null, .null, .null, .null, .null, .null, .null, .null, .null, .null, .null, .null, .null]) .null) (P17 : Ovr Z k12 s9n) (P18 : Exa Z h0 a11 s8n) (P20 : q8 ≠ q10) (P24 : n0 ≤ a6) (P25 : n0 ≤ a11) (P40 : a6 ≠ a11) :
    MetB l M8 prog_84_method_3_code 5 (some (.object s2n)) ws (rmk 5 2 6 68) Z h0 #[(.ref a1), (.ref a2), (.ref a3), (.int 1)] (Q_au8_2 Z wMAX_LOCK_DELAY wGRANTED wQUEUED wBUSY wZERO a1 a2 a3 a5 a6 q8 q10 a11 k12 h0 n0) := by
  refine own_body (plainFor_of_name pn_com_example_umpired_umpired_server_NodeLock) ?_
  intro p e s m below meth c s₁ hx hby hml hown hnm hret0 hlk0 hZ X0 e0
  have N0 := Fr.nil n0
  have pre0 : ∀ t, Steps p.tables e below (s₁.setTop (mkF m 0 #[(vr a1), (vr a2), (vr a3), (vi 1), .unset] [])) t → Steps p.tables e below (s₁.setTop (entryFrame m #[(.ref a1), (.ref a2), (.ref a3), (.int 1)] 5)) t := fun t k => castTop (ef_au8_2 m a1 a2 a3 (1 : Int32)) k
  have K0 := Keep.refl h0 [a11, a6]
  have hS0 := hS
  obtain ⟨S_wMAX_LOCK_DELAY, E_wMAX_LOCK_DELAY, S_wGRANTED, E_wGRANTED, S_wQUEUED, E_wQUEUED, S_wBUSY, E_wBUSY, F_seconds_wMAX_LOCK_DELAY, F_nanos_wMAX_LOCK_DELAY, S_wZERO, E_wZERO, F_seconds_wZERO, F_nanos_wZERO⟩ := hS0
  obtain ⟨T1, X1, e1, st1⟩ := getF X0 hx hZ hown (host := "") (Or.inl (ow hw 51 rfl)) Via.refl e0 P3 (g := (mkF m 2 #[(vr a1), (vr a2), (vr a3), (vi 1), .unset] [(.ref a1), (.ref a2)])) rfl rfl (hb hby d8_2)
  obtain ⟨cq2, kq2, q2a, q2b, q2c⟩ := isOf hZ e1 P6
  obtain ⟨_, _, ⟨T2, L2, k2, n2⟩, -, X2, ⟨Lc2, hQ2, l2, y2, z2⟩, st2⟩ := X1.virtualBack hx (y := M0) (z := M0) hown (mvT hZ (ow hw 63 rfl)) (mvT hZ (ow hw 64 rfl)) (notFace_of_selects (args := #[]) (mvT hZ (ow hw 66 rfl))) (mvT hZ (ow hw 66 rfl)) (mvT hZ (ow hw 65 rfl)) (by decide) (backOf (W := 0) (rmEqD l Z a0 hw [] wMAX_LOCK_DELAY wGRANTED wQUEUED wBUSY wZERO hS a2 a5 q8 q10 h0 n0 O0 P9 P8 P11 P20) hZ (ow hw 67 rfl) (ow hw 37 rfl) (by decide) (by decide)) q2a q2c (g := (mkF m 5 #[(vr a1), (vr a2), (vr a3), (vi 1), .unset] [(.ref a5), (.ref a2)])) rfl (by rw [hml]; rfl) (Steps.refl _) (argsL := [(.ref a5)]) (rest := []) (lenOf pd_4 rfl) rfl (by show 2 * 0 + _ ≤ _; exact Nat.le_of_eq rfl) (hb hby d8_5) (fun _ _ => ⟨rfl, e1, (by decide : 0 + 0 ≤ _), (by decide : 0 + 0 ≤ _)⟩)
  dsimp only [Pt.U, Pt.locs, Pt.cells, Pt.slots] at X2 l2 y2 z2 st2 hQ2
  subst l2 y2 z2
  obtain ⟨rfl, Nq2, K2q⟩ := hQ2
  have N2 := Fr.app N0 Nq2
  obtain ⟨T3, X3, e3, st3⟩ := getF X2 hx hZ hown (host := "") (Or.inl (ow hw 51 rfl)) Via.refl K2q P3 (g := (mkF m 20 #[(vr a1), (vr a2), (vr a3), (vi 1), .unset] [(.ref a1)])) rfl rfl (hb hby d8_20)
  obtain ⟨cq4, q4, q4'⟩ := P0.cell
  obtain ⟨_, _, ⟨T4, L4, k4, n4⟩, -, X4, ⟨Lc4, hQ4, l4, y4, z4⟩, st4⟩ := X3.privateBack hx (y := M20) hown (mvT hZ (ow hw 109 rfl)) (mvT hZ (ow hw 110 rfl)) (own_selp (mvT hZ (ow hw 1 rfl)) (mvP hZ (ow hw 111 rfl)) (mvT hZ (ow hw 110 rfl)) (by decide)) (Cond.privateMethod_at (mvP hZ (ow hw 111 rfl) (args := #[]))) (mvT hZ (ow hw 112 rfl)) (by decide) (backOf (W := 0) (au16_0 l Z a0 hw [] wMAX_LOCK_DELAY wGRANTED wQUEUED wBUSY wZERO hS a1 a2 a5 a6 a11 k12 h0 n0 O0 P0 P5 P6 P9 P12 P13 P14 P15 P16) hZ (ow hw 112 rfl) (ow hw 2 rfl) (by decide) (by decide)) (g := (mkF m 53 #[(vr a1), (vr a2), (vr a3), (vi 1), .unset] [(.ref a2), (.ref a1)])) rfl (by rw [hml]; rfl) (Steps.refl _) (a := a1) (by rw [e3]; exact q4) q4' (argsL := [(.ref a2)]) (rest := []) (lenOf pd_15 rfl) rfl (by show 2 * 0 + _ ≤ _; exact Nat.le_of_eq rfl) (hb hby d8_53) (fun _ _ => ⟨rfl, e3, (by decide : 0 + 1 ≤ _), (by decide : 0 + 4 ≤ _)⟩)
  dsimp only [Pt.U, Pt.locs, Pt.cells, Pt.slots] at X4 l4 y4 z4 st4 hQ4
  subst l4 y4 z4
  obtain ⟨rfl, Nq4, K4q⟩ := hQ4
  have N4 := Fr.app N2 Nq4
  have O5 : Old Z n0 T4.heap := O0.keep K4q all0
  have K5 : Keep h0 T4.heap [a11, a6] := K0.trans K4q all0
  have f6 : Fld Z T4.heap a1 s4n "waiters" s11n (.ref a6) := (P5.keep K4q nin0)
  obtain ⟨T7, X7, e7, st7⟩ := getF X4 hx hZ hown (host := "") (Or.inl (ow hw 26 rfl)) Via.refl rfl f6 (g := (mkF m 60 #[(vr a1), (vr a2), (vr a3), (vi 1), .unset] [(.ref a1)])) rfl rfl (hb hby d8_60)
  obtain ⟨T8, h8, X8, e8, E8, A8, D8, -, st8⟩ := newO X7 hx hZ hown (ow hw 157 rfl) (ow hw 158 rfl) (ow hw 159 rfl) e7 (g := (mkF m 63 #[(vr a1), (vr a2), (vr a3), (vi 1), .unset] [(.ref a6)])) rfl (hb hby d8_63) (by decide) (by decide)
  obtain ⟨b8, g8⟩ : ∃ z, z = T4.heap.size := ⟨_, rfl⟩
  rw [← g8] at A8 D8 st8
  have f10 : Exa Z T4.heap a1 s4n := (P0.keep K4q)
  have ne9 : a1 ≠ b8 := Nat.ne_of_lt (Nat.lt_of_lt_of_le f10.lt (Nat.le_of_eq g8.symm))
  have f12 : Exa Z T4.heap a2 s3n := (P6.keep K4q)
  have ne11 : a2 ≠ b8 := Nat.ne_of_lt (Nat.lt_of_lt_of_le f12.lt (Nat.le_of_eq g8.symm))
  have f14 : Exa Z T4.heap a5 s3n := (P9.keep K4q)
  have ne13 : a5 ≠ b8 := Nat.ne_of_lt (Nat.lt_of_lt_of_le f14.lt (Nat.le_of_eq g8.symm))
  have f16 : Exa Z T4.heap a6 s7n := (P12.keep K4q)
  have ne15 : a6 ≠ b8 := Nat.ne_of_lt (Nat.lt_of_lt_of_le f16.lt (Nat.le_of_eq g8.symm))
  have f18 : Arv Z T4.heap a11 k12 (.object s9n) (17 : Int32) ([.null, .null, .null, .null, .null, .null, .null, .null, .null, .null, .null, .null, .null, .null, .null, .null, .null]) .null := (P16.keep K4q nin0)
  have ne17 : a11 ≠ b8 := Nat.ne_of_lt (Nat.lt_of_lt_of_le f18.lt (Nat.le_of_eq g8.symm))
  have g19 : n0 ≤ b8 := Nat.le_trans (own_sz O5) (Nat.le_of_eq g8.symm)
  have sz20 : h0.size ≤ b8 := Nat.le_trans K5.1 (Nat.le_of_eq g8.symm)
  have O21 : Old Z n0 h8 := O5.ext E8
  have K21 : Keep h0 h8 [a11, a6] := K5.ext E8
  have f22 : Fld Z h8 b8 s16n "owner" s5n .null := D8 (Or.inr (ow hw 165 rfl)) (ty := (.object s3n)) (by decide)
  have f23 : Fld Z h8 b8 s16n "lockDelay" s0n .null := D8 (Or.inr (ow hw 167 rfl)) (ty := (.object s1n)) (by decide)
  obtain ⟨_, _, ⟨T24, L24, k24, n24⟩, -, X24, ⟨Lc24, hQ24, l24, y24, z24⟩, st24⟩ := X8.specialBack hx (y := M23) rfl hown (mvT hZ (ow hw 160 rfl)) (mvT hZ (ow hw 161 rfl)) (mvT hZ (ow hw 162 rfl)) (by decide) (backOf (W := 2) (au22_0 l Z a0 hw [] wMAX_LOCK_DELAY wGRANTED wQUEUED wBUSY wZERO hS b8 a2 a3 h8 n0 O21 A8 f23 f22 g19) hZ (ow hw 162 rfl) (ow hw 159 rfl) (by decide) (by decide)) (g := (mkF m 69 #[(vr a1), (vr a2), (vr a3), (vi 1), .unset] [(.ref a3), (.ref a2), (.ref b8), (.ref b8), (.ref a6)])) rfl (by rw [hml]; rfl) (Steps.refl _) (a := b8) (argsL := [(.ref a2), (.ref a3)]) (rest := [(.ref b8), (.ref a6)]) (lenOf pd_5 rfl) rfl (by show 2 * 0 + _ ≤ _; exact Nat.le_of_eq rfl) (hb hby d8_69) (fun _ _ => ⟨rfl, e8, (by decide : 2 + 0 ≤ _), (by decide : 6 + 0 ≤ _)⟩)
  dsimp only [Pt.U, Pt.locs, Pt.cells, Pt.slots] at X24 l24 y24 z24 st24 hQ24
  subst l24 y24 z24
  obtain ⟨rfl, Nq24, K24q, p24_0, p24_1, p24_2⟩ := hQ24
  have N24 := Fr.app N4 Nq24
  have O25 : Old Z n0 T24.heap := O21.keep K24q (allS g19 all0)
  have K25 : Keep h0 T24.heap [a11, a6] := K21.trans K24q (allS (Or.inr sz20) all0)
  have f26 : Exa Z T24.heap a6 s7n := ((f16.ext E8).keep K24q)
  have f27 : Fld Z T24.heap a6 s7n "elements" s8n (.ref a11) := (((P13.keep K4q nin0).ext E8).keep K24q (ninS ne15 nin0))
  have f28 : Fld Z T24.heap a6 s7n "head" "I" (.int 0) := (((P14.keep K4q nin0).ext E8).keep K24q (ninS ne15 nin0))
  have f29 : Fld Z T24.heap a6 s7n "tail" "I" (.int 0) := (((P15.keep K4q nin0).ext E8).keep K24q (ninS ne15 nin0))
  have f30 : Arv Z T24.heap a11 k12 (.object s9n) (17 : Int32) ([.null, .null, .null, .null, .null, .null, .null, .null, .null, .null, .null, .null, .null, .null, .null, .null, .null]) .null := ((f18.ext E8).keep K24q (ninS ne17 nin0))
  have f31 : Exa Z T24.heap a11 s8n := (((P18.keep K4q).ext E8).keep K24q)
  obtain ⟨cq32, kq32, q32a, q32b, q32c⟩ := isOf hZ rfl f26
  obtain ⟨_, _, ⟨T32, L32, k32, n32⟩, -, X32, ⟨Lc32, hQ32, l32, y32, z32⟩, st32⟩ := X24.interfaceBack hx (xi := M27) (y := M26) hown (mvT hZ (ow hw 168 rfl)) (mvT hZ (ow hw 169 rfl)) (mvT hZ (ow hw 170 rfl)) (mvT hZ (ow hw 171 rfl)) (mvT hZ (ow hw 172 rfl)) (mvT hZ (ow hw 173 rfl)) (mvT hZ (ow hw 174 rfl)) (mvT hZ (ow hw 95 rfl)) (by decide) (backOf (W := 0) (au23_0 l Z a0 hw [] wMAX_LOCK_DELAY wGRANTED wQUEUED wBUSY wZERO hS a6 b8 a11 k12 T24.heap n0 O25 f26 f27 f28 f29 p24_0 f30 P17 f31 P24 P25 P40) hZ (ow hw 175 rfl) (ow hw 11 rfl) (by decide) (by decide)) q32a q32b q32c (g := (mkF m 72 #[(vr a1), (vr a2), (vr a3), (vi 1), .unset] [(.ref b8), (.ref a6)])) rfl (by rw [hml]; rfl) (Steps.refl _) (argsL := [(.ref b8)]) (rest := []) (lenOf pd_4 rfl) rfl (by show 2 * 0 + _ ≤ _; exact Nat.le_of_eq rfl) (hb hby d8_72) (fun _ _ => ⟨rfl, rfl, (by decide : 2 + 0 ≤ _), (by decide : 6 + 0 ≤ _)⟩)
  dsimp only [Pt.U, Pt.locs, Pt.cells, Pt.slots] at X32 l32 y32 z32 st32 hQ32
  subst l32 y32 z32
  obtain ⟨rfl, Nq32, K32q, p32_0, p32_1, p32_2, p32_3, p32_4, p32_5, p32_6⟩ := hQ32
  have N32 := Fr.app N24 Nq32
  have O33 : Old Z n0 T32.heap := O25.keep K32q (allS P25 (allS P24 all0))
  have K33 : Keep h0 T32.heap [a11, a6] := K25.trans K32q (allS (Or.inl (List.mem_of_getElem? (i := 0) rfl)) (allS (Or.inl (List.mem_of_getElem? (i := 1) rfl)) all0))
  obtain ⟨T34, X34, e34, st34⟩ := getS2 X32 hx hZ hown (host := "") (Or.inl (ow hw 185 rfl)) Via.refl rfl (S_wQUEUED.ext O33.2) (g := (mkF m 78 #[(vr a1), (vr a2), (vr a3), (vi 1), .unset] [])) rfl (hb hby d8_78)
  have f35 : Exa Z T32.heap b8 s16n := (p24_0.keep K32q)
  have f36 : Fld Z T32.heap b8 s16n "lockDelay" s0n (.ref a3) := (p24_1.keep K32q (ninS (Ne.symm ne17) (ninS (Ne.symm ne15) nin0)))
  have f37 : Fld Z T32.heap b8 s16n "owner" s5n (.ref a2) := (p24_2.keep K32q (ninS (Ne.symm ne17) (ninS (Ne.symm ne15) nin0)))
  obtain ⟨fs, hr, hrun, hended, hW, hsame⟩ := X34.leave (v := some (.ref wQUEUED)) (fun h => by rw [hret0] at h; cases h)
  refine ⟨_, _, pre0 _ ?_, hrun, hended, _, _, rfl, ?_, ⟨_, rfl⟩, hW, hsame.mono (by decide) (by decide)⟩
  · skip
    show Steps p.tables e below (s₁.setTop (mkF m 0 #[(vr a1), (vr a2), (vr a3), (vi 1), .unset] [])) _
    refine XS.aloadN X0.here hx rfl (hb hby d8_0) rfl rfl ?_
    refine XS.aloadN X0.here hx rfl (hb hby d8_1) rfl rfl ?_
    refine st1 _ ?_
    refine st2.trans ?_
    refine XS.ifYes X2.here hx rfl (pc0 := 8) (pc' := 19) rfl (hb hby d8_8) rfl ((if0 _ _).trans (teq (by decide : (0 : Int32) = (0 : Int32))).1) (by decide) (by decide) ?_
    show Steps p.tables e below (T2.setTop (mkF m 19 #[(vr a1), (vr a2), (vr a3), (vi 1), .unset] [])) _
    refine XS.aloadN X2.here hx rfl (hb hby d8_19) rfl rfl ?_
    refine st3 _ ?_
    refine XS.ifnonnullYes X3.here hx rfl (pc0 := 23) (pc' := 47) rfl (hb hby d8_23) rfl (by decide) (by decide) ?_
    refine XS.iloadN X3.here hx rfl (hb hby d8_47) rfl ?_
    refine XS.ifNo X3.here hx rfl (hb hby d8_48) rfl ((if0 _ _).trans (feq (by decide : ¬ ((1 : Int32) = (0 : Int32)))).1) ?_
    show Steps p.tables e below (T3.setTop (mkF m 51 #[(vr a1), (vr a2), (vr a3), (vi 1), .unset] [])) _
    refine XS.aloadN X3.here hx rfl (hb hby d8_51) rfl rfl ?_
    refine XS.aloadN X3.here hx rfl (hb hby d8_52) rfl rfl ?_
    refine st4.trans ?_
    refine XS.ifNo X4.here hx rfl (hb hby d8_56) rfl ((if0 _ _).trans (teq (by decide : (0 : Int32) = (0 : Int32))).2) ?_
    refine XS.aloadN X4.here hx rfl (hb hby d8_59) rfl rfl ?_
    show Steps p.tables e below (T4.setTop (mkF m 60 #[(vr a1), (vr a2), (vr a3), (vi 1), .unset] [(.ref a1)])) _
    refine st7 _ ?_
    refine st8 _ ?_
    refine XS.dup X8.here hx rfl (hb hby d8_66) rfl rfl ?_
    refine XS.aloadN X8.here hx rfl (hb hby d8_67) rfl rfl ?_
    refine XS.aloadN X8.here hx rfl (hb hby d8_68) rfl rfl ?_
    show Steps p.tables e below (T8.setTop (mkF m 69 #[(vr a1), (vr a2), (vr a3), (vi 1), .unset] [(.ref a3), (.ref a2), (.ref b8), (.ref b8), (.ref a6)])) _
    refine st24.trans ?_
    refine st32.trans ?_
    refine XS.pop X32.here hx rfl (hb hby d8_77) rfl rfl ?_
    refine st34 _ ?_
    refine XS.astore X34.here hx rfl (hb hby d8_81) rfl rfl (l' := #[(vr a1), (vr a2), (vr a3), (vi 1), (vr wQUEUED)]) rfl ?_
    show Steps p.tables e below (T34.setTop (mkF m 83 #[(vr a1), (vr a2), (vr a3), (vi 1), (vr wQUEUED)] [])) _
    refine XS.goto X34.here hx rfl (pc0 := 83) (pc' := 91) rfl (hb hby d8_83) (by decide) (by decide) ?_
    refine XS.aload X34.here hx rfl (hb hby d8_91) rfl rfl ?_
    jvm_step X34.here [X34.here.top, hx, (hb hby d8_93), X34.method', hret0, Value.isRef, FieldType.isReference]
    first | (intro acts; rw [hr _ acts rfl rfl rfl]) | rw [hr _ _ rfl rfl rfl]
    exact Steps.refl _
  · show Q_au8_2 Z wMAX_LOCK_DELAY wGRANTED wQUEUED wBUSY wZERO a1 a2 a3 a5 a6 q8 q10 a11 k12 h0 n0 _ T34.heap _
    rw [e34]
    exact ⟨b8, rfl, N32, K33, p32_0, p32_1, p32_2, p32_3, p32_4, p32_5, p32_6, sz20, f35, f36, f37⟩
theorem ef_au11_1 (m : MethodId) (x0 : Addr)  : entryFrame m #[(.ref x0)] 1 = mkF m 0 #[(vr x0)] [] := by first | (simp [entryFrame, mkF, argsToLocals, Value.category]; done) | rfl
theorem ef_au12_1 (m : MethodId) (x0 : Addr)  : entryFrame m #[(.ref x0)] 2 = mkF m 0 #[(vr x0), .unset] [] := by first | (simp [entryFrame, mkF, argsToLocals, Value.category]; done) | rfl
theorem ef_au13_1 (m : MethodId) (x0 : Addr)  : entryFrame m #[(.ref x0)] 1 = mkF m 0 #[(vr x0)] [] := by first | (simp [entryFrame, mkF, argsToLocals, Value.category]; done) | rfl
theorem ef_au14_1 (m : MethodId) (x0 : Addr)  : entryFrame m #[(.ref x0)] 4 = mkF m 0 #[(vr x0), .unset, .unset, .unset] [] := by first | (simp [entryFrame, mkF, argsToLocals, Value.category]; done) | rfl
theorem ef_au15_1 (m : MethodId) (x0 : Addr) (x1 : Int32)  : entryFrame m #[(.ref x0), (.int x1)] 2 = mkF m 0 #[(vr x0), (vi x1)] [] := by first | (simp [entryFrame, mkF, argsToLocals, Value.category]; done) | rfl
def Q_au15_1 (Z : State) (wMAX_LOCK_DELAY : Addr) (wGRANTED : Addr) (wQUEUED : Addr) (wBUSY : Addr) (wZERO : Addr) (a1 : Addr) (k2 : ClassId) (a3 : Addr) (h0 : Heap) (n0 : Nat) (v : Option Value) (h : Heap) (L : List Loc) : Prop := v = some (.ref a3) ∧ Fr n0 L ∧ h = h0
theorem au15_1 (l : Launch) (Z : State) (a0 : Array Value) (hw : ∀ d ∈ tables_1, d.before a0 Z = true) (ws : List Jvm.Cond) (wMAX_LOCK_DELAY : Addr) (wGRANTED : Addr) (wQUEUED : Addr) (wBUSY : Addr) (wZERO : Addr) (hS : SS Z wMAX_LOCK_DELAY wGRANTED wQUEUED wBUSY wZERO) (a1 : Addr) (k2 : ClassId) (a3 : Addr) (h0 : Heap) (n0 : Nat) (O0 : Old Z n0 h0) (P0 : Arv Z h0 a1 k2 (.object s9n) (17 : Int32) ([(.ref a3), .null, .null, .null, .null, .null, .null, .null, .null, .null, .null, .null, .null, .null, .null, .null, .null]) .null) :
    MetB l M9 jdk_21_method_10_code 2 (some (.object s9n)) ws (rmk 0 0 0 0) Z h0 #[(.ref a1), (.int 0)] (Q_au15_1 Z wMAX_LOCK_DELAY wGRANTED wQUEUED wBUSY wZERO a1 k2 a3 h0 n0) := by
  refine own_body (plainFor_of_name pn_java_util_ArrayDeque) ?_
  intro p e s m below meth c s₁ hx hby hml hown hnm hret0 hlk0 hZ X0 e0
  have N0 := Fr.nil n0
  have pre0 : ∀ t, Steps p.tables e below (s₁.setTop (mkF m 0 #[(vr a1), (vi 0)] [])) t → Steps p.tables e below (s₁.setTop (entryFrame m #[(.ref a1), (.int 0)] 2)) t := fun t k => castTop (ef_au15_1 m a1 (0 : Int32)) k
  have hS0 := hS
  obtain ⟨S_wMAX_LOCK_DELAY, E_wMAX_LOCK_DELAY, S_wGRANTED, E_wGRANTED, S_wQUEUED, E_wQUEUED, S_wBUSY, E_wBUSY, F_seconds_wMAX_LOCK_DELAY, F_nanos_wMAX_LOCK_DELAY, S_wZERO, E_wZERO, F_seconds_wZERO, F_nanos_wZERO⟩ := hS0
  obtain ⟨cl1, Ar1, q1, Sz1, Nn1, Ha1, Gg1⟩ := (id P0)
  have hin1 : ¬ ((0 : Int32) < 0 ∨ cl1.slots.size ≤ ((0 : Int32)).toNatClampNeg) := inb_of Sz1 ⟨by decide, by decide⟩
  have hat1 : cl1.slots[((0 : Int32)).toNatClampNeg]? = some (.ref a3) := Ha1.at hin1 rfl
  obtain ⟨fs, hr, hrun, hended, hW, hsame⟩ := X0.leave (v := some (.ref a3)) (fun h => by rw [hret0] at h; cases h)
  refine ⟨_, _, pre0 _ ?_, hrun, hended, _, _, rfl, ?_, ⟨_, rfl⟩, hW, hsame.mono (by decide) (by decide)⟩
  · skip
    show Steps p.tables e below (s₁.setTop (mkF m 0 #[(vr a1), (vi 0)] [])) _
    refine XS.aloadN X0.here hx rfl (hb hby d15_0) rfl rfl ?_
    refine XS.iloadN X0.here hx rfl (hb hby d15_1) rfl ?_
    refine X0.aaload hx (j := (0 : Int32)) (v := (.ref a3)) (by rw [e0]; exact Ar1.1) (State.isArrayOf_alike hZ.alike Ar1.2.1) rfl Ar1.2.2 hin1 hat1 (g := (mkF m 2 #[(vr a1), (vi 0)] [(.int 0), (.ref a1)])) rfl rfl (hb hby d15_2) _ ?_
    jvm_step X0.here [X0.here.top, hx, (hb hby d15_3), X0.method', hret0, Value.isRef, FieldType.isReference]
    first | (intro acts; rw [hr _ acts rfl rfl rfl]) | rw [hr _ _ rfl rfl rfl]
    exact Steps.refl _
  · show Q_au15_1 Z wMAX_LOCK_DELAY wGRANTED wQUEUED wBUSY wZERO a1 k2 a3 h0 n0 _ s₁.heap _
    rw [e0]
    exact ⟨rfl, N0, rfl⟩
theorem d14_20 : decode jdk_21_method_20_code 20 = .ok (.aload_n 1, 1) := by decide +kernel
theorem d14_21 : decode jdk_21_method_20_code 21 = .ok (.iload_n 2, 1) := by decide +kernel
theorem d14_22 : decode jdk_21_method_20_code 22 = .ok (.aconst_null, 1) := by decide +kernel
theorem d14_23 : decode jdk_21_method_20_code 23 = .ok (.aastore, 1) := by decide +kernel
theorem d14_24 : decode jdk_21_method_20_code 24 = .ok (.aload_n 0, 1) := by decide +kernel
theorem d14_25 : decode jdk_21_method_20_code 25 = .ok (.iload_n 2, 1) := by decide +kernel
theorem d14_26 : decode jdk_21_method_20_code 26 = .ok (.aload_n 1, 1) := by decide +kernel
theorem d14_27 : decode jdk_21_method_20_code 27 = .ok (.arraylength, 1) := by decide +kernel
theorem d14_28 : decode jdk_21_method_20_code 28 = .ok (.invokestatic 74, 3) := by decide +kernel
theorem d14_31 : decode jdk_21_method_20_code 31 = .ok (.putfield 24, 3) := by decide +kernel
def Q_au14_1 (Z : State) (wMAX_LOCK_DELAY : Addr) (wGRANTED : Addr) (wQUEUED : Addr) (wBUSY : Addr) (wZERO : Addr) (a1 : Addr) (a2 : Addr) (k3 : ClassId) (a4 : Addr) (h0 : Heap) (n0 : Nat) (v : Option Value) (h : Heap) (L : List Loc) : Prop := v = some (.ref a4) ∧ Fr n0 L ∧ Keep h0 h [a2, a1] ∧ Exa Z h a2 s8n ∧ Arv Z h a2 k3 (.object s9n) (17 : Int32) ([.null, .null, .null, .null, .null, .null, .null, .null, .null, .null, .null, .null, .null, .null, .null, .null, .null]) .null ∧ Ovr Z k3 s9n ∧ Exa Z h a1 s7n ∧ Fld Z h a1 s7n "elements" s8n (.ref a2) ∧ Fld Z h a1 s7n "head" "I" (.int 1) ∧ Fld Z h a1 s7n "tail" "I" (.int 1)
theorem au14_1 (l : Launch) (Z : State) (a0 : Array Value) (hw : ∀ d ∈ tables_1, d.before a0 Z = true) (ws : List Jvm.Cond) (wMAX_LOCK_DELAY : Addr) (wGRANTED : Addr) (wQUEUED : Addr) (wBUSY : Addr) (wZERO : Addr) (hS : SS Z wMAX_LOCK_DELAY wGRANTED wQUEUED wBUSY wZERO) (a1 : Addr) (a2 : Addr) (k3 : ClassId) (a4 : Addr) (h0 : Heap) (n0 : Nat) (O0 : Old Z n0 h0) (P0 : Exa Z h0 a1 s7n) (P1 : Fld Z h0 a1 s7n "elements" s8n (.ref a2)) (P2 : Fld Z h0 a1 s7n "head" "I" (.int 0)) (P3 : Fld Z h0 a1 s7n "tail" "I" (.int 1)) (P4 : Arv Z h0 a2 k3 (.object s9n) (17 : Int32) ([(.ref a4), .null, .null, .null, .null, .null, .null, .null, .null, .null, .null, .null, .null, .null, .null, .null, .null]) .null) (P5 : Ovr Z k3 s9n) (P6 : Exa Z h0 a2 s8n) (P13 : n0 ≤ a1) (P14 : n0 ≤ a2) (P17 : a1 ≠ a2) :
    MetB l M10 jdk_21_method_20_code 4 (some (.object s9n)) ws (rmk 1 0 0 14) Z h0 #[(.ref a1)] (Q_au14_1 Z wMAX_LOCK_DELAY wGRANTED wQUEUED wBUSY wZERO a1 a2 k3 a4 h0 n0) := by
  refine own_body (plainFor_of_name pn_java_util_ArrayDeque) ?_
  intro p e s m below meth c s₁ hx hby hml hown hnm hret0 hlk0 hZ X0 e0
  have N0 := Fr.nil n0
  have pre0 : ∀ t, Steps p.tables e below (s₁.setTop (mkF m 0 #[(vr a1), .unset, .unset, .unset] [])) t → Steps p.tables e below (s₁.setTop (entryFrame m #[(.ref a1)] 4)) t := fun t k => castTop (ef_au14_1 m a1) k
  have K0 := Keep.refl h0 [a2, a1]
  have hS0 := hS
  obtain ⟨S_wMAX_LOCK_DELAY, E_wMAX_LOCK_DELAY, S_wGRANTED, E_wGRANTED, S_wQUEUED, E_wQUEUED, S_wBUSY, E_wBUSY, F_seconds_wMAX_LOCK_DELAY, F_nanos_wMAX_LOCK_DELAY, S_wZERO, E_wZERO, F_seconds_wZERO, F_nanos_wZERO⟩ := hS0
  obtain ⟨T1, X1, e1, st1⟩ := getF X0 hx hZ hown (host := "") (Or.inl (ow hw 24 rfl)) Via.refl e0 P1 (g := (mkF m 1 #[(vr a1), .unset, .unset, .unset] [(.ref a1)])) rfl rfl (hb hby d14_1)
  obtain ⟨T2, X2, e2, st2⟩ := getF X1 hx hZ hown (host := "") (Or.inl (ow hw 102 rfl)) Via.refl e1 P2 (g := (mkF m 7 #[(vr a1), (vr a2), .unset, .unset] [(.ref a1), (.ref a2)])) rfl rfl (hb hby d14_7)
  obtain ⟨_, _, ⟨T3, L3, k3, n3⟩, -, X3, ⟨Lc3, hQ3, l3, y3, z3⟩, st3⟩ := Jvm.LawKit.callS X2 hx (y := M9) hown (mvT hZ (ow hw 104 rfl)) (mvT hZ (ow hw 105 rfl)) (mvT hZ (ow hw 11 rfl)) (mvT hZ (ow hw 106 rfl)) (by decide) (backOf (W := 0) (au15_1 l Z a0 hw [] wMAX_LOCK_DELAY wGRANTED wQUEUED wBUSY wZERO hS a2 k3 a4 h0 n0 O0 P4) hZ (ow hw 106 rfl) (ow hw 11 rfl) (by decide) (by decide)) (g := (mkF m 12 #[(vr a1), (vr a2), (vi 0), .unset] [(.int 0), (.ref a2)])) rfl (by rw [hml]; rfl) (argsL := [(.ref a2), (.int 0)]) (rest := []) (lenOf pd_7 rfl) rfl (by show 2 * 0 + _ ≤ _; exact Nat.le_of_eq rfl) (hb hby d14_12) (fun _ _ => ⟨rfl, e2, (by decide : 0 + 0 ≤ _), (by decide : 0 + 0 ≤ _)⟩)
  dsimp only [Pt.U, Pt.locs, Pt.cells, Pt.slots] at X3 l3 y3 z3 st3 hQ3
  subst l3 y3 z3
  obtain ⟨rfl, Nq3, K3q⟩ := hQ3
  have N3 := Fr.app N0 Nq3
  obtain ⟨cl4, Ar4, q4, Sz4, Nn4, Ha4, Gg4⟩ := (id P4)
  have hin4 : ¬ ((0 : Int32) < 0 ∨ cl4.slots.size ≤ ((0 : Int32)).toNatClampNeg) := inb_of Sz4 ⟨by decide, by decide⟩
  obtain ⟨T4, h4, X4, e4, W4, st4⟩ := stR X3 hx hZ K3q Ar4 (j := (0 : Int32)) hin4 rfl (Or.inl rfl) (g := (mkF m 23 #[(vr a1), (vr a2), (vi 0), (vr a4)] [.null, (.int 0), (.ref a2)])) rfl rfl (hb hby d14_23)
  have O5 : Old Z n0 h4 := O0.wr W4 P14
  have K5 : Keep h0 h4 [a2, a1] := K0.wr W4 (Or.inl (List.mem_of_getElem? (i := 0) rfl))
  have V4 : Arv Z h4 a2 k3 (.object s9n) (17 : Int32) ([.null, .null, .null, .null, .null, .null, .null, .null, .null, .null, .null, .null, .null, .null, .null, .null, .null]) .null := Arv.set Ar4 q4 Sz4 Nn4 Ha4 Gg4 (v := .null) rfl W4 0 rfl (Nat.le_of_ble_eq_true rfl)
  have N4 := Fr.snoc X4 N3 P14
  obtain ⟨cl6, Ar6, -, Sz6, Nn6, -, -⟩ := (id V4)
  obtain ⟨_, _, ⟨T7, L7, k7, n7⟩, -, X7, ⟨Lc7, hQ7, l7, y7, z7⟩, st7⟩ := Jvm.LawKit.callS X4 hx (y := M24) hown (mvT hZ (ow hw 182 rfl)) (mvT hZ (ow hw 183 rfl)) (mvT hZ (ow hw 11 rfl)) (mvT hZ (ow hw 184 rfl)) (by decide) (backOf (W := 1) (au25_0 l Z a0 hw [] wMAX_LOCK_DELAY wGRANTED wQUEUED wBUSY wZERO hS  h4 n0 O5 ) hZ (ow hw 184 rfl) (ow hw 11 rfl) (by decide) (by decide)) (g := (mkF m 28 #[(vr a1), (vr a2), (vi 0), (vr a4)] [(.int 17), (.int 0), (.ref a1)])) rfl (by rw [hml]; rfl) (argsL := [(.int 0), (.int 17)]) (rest := [(.ref a1)]) (lenOf pd_16 rfl) rfl (by show 2 * 0 + _ ≤ _; exact Nat.le_of_eq rfl) (hb hby d14_28) (fun _ _ => ⟨rfl, e4, (by decide : 0 + 0 ≤ _), (by decide : 0 + 0 ≤ _)⟩)
  dsimp only [Pt.U, Pt.locs, Pt.cells, Pt.slots] at X7 l7 y7 z7 st7 hQ7
  subst l7 y7 z7
  obtain ⟨rfl, Nq7, K7q⟩ := hQ7
  have N7 := Fr.app N4 Nq7
  have f8 : Exa Z h4 a1 s7n := (P0.wr W4)
  have f9 : Fld Z h4 a1 s7n "head" "I" (.int 0) := (P2.other W4 (Or.inl P17))
  obtain ⟨T10, h10, X10, e10, W10, st10⟩ := putF X7 hx hZ hown (host := "") (Or.inl (ow hw 102 rfl)) Via.refl K7q f9 f8 (Or.inl (ow hw 103 rfl)) (ow hw 10 rfl) (ty := .int) (by decide) rfl rfl (g := (mkF m 31 #[(vr a1), (vr a2), (vi 0), (vr a4)] [(.int 1), (.ref a1)])) rfl rfl (hb hby d14_31)
  have N10 := Fr.snoc X10 N7 P13
  have O11 : Old Z n0 h10 := O5.wr W10 P13
  have K11 : Keep h0 h10 [a2, a1] := K5.wr W10 (Or.inl (List.mem_of_getElem? (i := 1) rfl))
  have Fw10 : Fld Z h10 a1 s7n "head" "I" (.int 1) := f9.same W10
  have f12 : Exa Z h10 a2 s8n := ((P6.wr W4).wr W10)
  have f13 : Arv Z h10 a2 k3 (.object s9n) (17 : Int32) ([.null, .null, .null, .null, .null, .null, .null, .null, .null, .null, .null, .null, .null, .null, .null, .null, .null]) .null := (V4.other W10 (Ne.symm P17))
  have f14 : Exa Z h10 a1 s7n := (f8.wr W10)
  have f15 : Fld Z h10 a1 s7n "elements" s8n (.ref a2) := ((P1.other W4 (Or.inl P17)).other W10 (Or.inr (slot_ne (Or.inl (ow hw 25 rfl)) (Or.inl (ow hw 103 rfl)) (by decide) (t := (.array (.object s9n))) (t' := .int) (by decide) (by decide))))
  have f16 : Fld Z h10 a1 s7n "tail" "I" (.int 1) := ((P3.other W4 (Or.inl P17)).other W10 (Or.inr (slot_ne (Or.inl (ow hw 137 rfl)) (Or.inl (ow hw 103 rfl)) (by decide) (t := .int) (t' := .int) (by decide) (by decide))))
  obtain ⟨fs, hr, hrun, hended, hW, hsame⟩ := X10.leave (v := some (.ref a4)) (fun h => by rw [hret0] at h; cases h)
  refine ⟨_, _, pre0 _ ?_, hrun, hended, _, _, rfl, ?_, ⟨_, rfl⟩, hW, hsame.mono (by decide) (by decide)⟩
  · skip
    show Steps p.tables e below (s₁.setTop (mkF m 0 #[(vr a1), .unset, .unset, .unset] [])) _
    refine XS.aloadN X0.here hx rfl (hb hby d14_0) rfl rfl ?_
    refine st1 _ ?_
    refine XS.dup X1.here hx rfl (hb hby d14_4) rfl rfl ?_
    refine XS.astoreN X1.here hx rfl (hb hby d14_5) rfl rfl (l' := #[(vr a1), (vr a2), .unset, .unset]) rfl ?_
    refine XS.aloadN X1.here hx rfl (hb hby d14_6) rfl rfl ?_
    show Steps p.tables e below (T1.setTop (mkF m 7 #[(vr a1), (vr a2), .unset, .unset] [(.ref a1), (.ref a2)])) _
    refine st2 _ ?_
    refine XS.dup X2.here hx rfl (hb hby d14_10) rfl rfl ?_
    refine XS.istoreN X2.here hx rfl (hb hby d14_11) rfl (l' := #[(vr a1), (vr a2), (vi 0), .unset]) rfl ?_
    refine st3 _ ?_
    refine XS.astoreN X3.here hx rfl (hb hby d14_15) rfl rfl (l' := #[(vr a1), (vr a2), (vi 0), (vr a4)]) rfl ?_
    show Steps p.tables e below (T3.setTop (mkF m 16 #[(vr a1), (vr a2), (vi 0), (vr a4)] [])) _
    refine XS.aloadN X3.here hx rfl (hb hby d14_16) rfl rfl ?_
    refine XS.ifnullNo X3.here hx rfl (hb hby d14_17) rfl ?_
    refine XS.aloadN X3.here hx rfl (hb hby d14_20) rfl rfl ?_
    refine XS.iloadN X3.here hx rfl (hb hby d14_21) rfl ?_
    refine XS.aconstNull X3.here hx rfl (hb hby d14_22) ?_
    show Steps p.tables e below (T3.setTop (mkF m 23 #[(vr a1), (vr a2), (vi 0), (vr a4)] [.null, (.int 0), (.ref a2)])) _
    refine st4 _ ?_
    refine XS.aloadN X4.here hx rfl (hb hby d14_24) rfl rfl ?_
    refine XS.iloadN X4.here hx rfl (hb hby d14_25) rfl ?_
    refine XS.aloadN X4.here hx rfl (hb hby d14_26) rfl rfl ?_
    refine X4.arraylength hx (by rw [e4]; exact Ar6.1) (State.isArrayOf_alike hZ.alike Ar6.2.1) (g := (mkF m 27 #[(vr a1), (vr a2), (vi 0), (vr a4)] [(.ref a2), (.int 0), (.ref a1)])) rfl rfl (hb hby d14_27) _ ?_
    rw [len_of Sz6 Nn6]
    show Steps p.tables e below (T4.setTop (mkF m 28 #[(vr a1), (vr a2), (vi 0), (vr a4)] [(.int 17), (.int 0), (.ref a1)])) _
    refine st7 _ ?_
    refine st10 _ ?_
    refine XS.aloadN X10.here hx rfl (hb hby d14_34) rfl rfl ?_
    jvm_step X10.here [X10.here.top, hx, (hb hby d14_35), X10.method', hret0, Value.isRef, FieldType.isReference]
    first | (intro acts; rw [hr _ acts rfl rfl rfl]) | rw [hr _ _ rfl rfl rfl]
    exact Steps.refl _
  · show Q_au14_1 Z wMAX_LOCK_DELAY wGRANTED wQUEUED wBUSY wZERO a1 a2 k3 a4 h0 n0 _ T10.heap _
    rw [e10]
    exact ⟨rfl, N10, K11, f12, f13, P5, f14, f15, Fw10, f16⟩
def Q_au13_1 (Z : State) (wMAX_LOCK_DELAY : Addr) (wGRANTED : Addr) (wQUEUED : Addr) (wBUSY : Addr) (wZERO : Addr) (a1 : Addr) (a2 : Addr) (k3 : ClassId) (a4 : Addr) (h0 : Heap) (n0 : Nat) (v : Option Value) (h : Heap) (L : List Loc) : Prop := v = some (.ref a4) ∧ Fr n0 L ∧ Keep h0 h [a2, a1] ∧ Exa Z h a2 s8n ∧ Arv Z h a2 k3 (.object s9n) (17 : Int32) ([.null, .null, .null, .null, .null, .null, .null, .null, .null, .null, .null, .null, .null, .null, .null, .null, .null]) .null ∧ Ovr Z k3 s9n ∧ Exa Z h a1 s7n ∧ Fld Z h a1 s7n "elements" s8n (.ref a2) ∧ Fld Z h a1 s7n "head" "I" (.int 1) ∧ Fld Z h a1 s7n "tail" "I" (.int 1)
theorem au13_1 (l : Launch) (Z : State) (a0 : Array Value) (hw : ∀ d ∈ tables_1, d.before a0 Z = true) (ws : List Jvm.Cond) (wMAX_LOCK_DELAY : Addr) (wGRANTED : Addr) (wQUEUED : Addr) (wBUSY : Addr) (wZERO : Addr) (hS : SS Z wMAX_LOCK_DELAY wGRANTED wQUEUED wBUSY wZERO) (a1 : Addr) (a2 : Addr) (k3 : ClassId) (a4 : Addr) (h0 : Heap) (n0 : Nat) (O0 : Old Z n0 h0) (P0 : Exa Z h0 a1 s7n) (P1 : Fld Z h0 a1 s7n "elements" s8n (.ref a2)) (P2 : Fld Z h0 a1 s7n "head" "I" (.int 0)) (P3 : Fld Z h0 a1 s7n "tail" "I" (.int 1)) (P4 : Arv Z h0 a2 k3 (.object s9n) (17 : Int32) ([(.ref a4), .null, .null, .null, .null, .null, .null, .null, .null, .null, .null, .null, .null, .null, .null, .null, .null]) .null) (P5 : Ovr Z k3 s9n) (P6 : Exa Z h0 a2 s8n) (P13 : n0 ≤ a1) (P14 : n0 ≤ a2) (P17 : a1 ≠ a2) :
    MetB l M11 jdk_21_method_31_code 1 (some (.object s9n)) ws (rmk 2 0 0 29) Z h0 #[(.ref a1)] (Q_au13_1 Z wMAX_LOCK_DELAY wGRANTED wQUEUED wBUSY wZERO a1 a2 k3 a4 h0 n0) := by
  refine own_body (plainFor_of_name pn_java_util_ArrayDeque) ?_
  intro p e s m below meth c s₁ hx hby hml hown hnm hret0 hlk0 hZ X0 e0
  have N0 := Fr.nil n0
  have pre0 : ∀ t, Steps p.tables e below (s₁.setTop (mkF m 0 #[(vr a1)] [])) t → Steps p.tables e below (s₁.setTop (entryFrame m #[(.ref a1)] 1)) t := fun t k => castTop (ef_au13_1 m a1) k
  have K0 := Keep.refl h0 [a2, a1]
  have hS0 := hS
  obtain ⟨S_wMAX_LOCK_DELAY, E_wMAX_LOCK_DELAY, S_wGRANTED, E_wGRANTED, S_wQUEUED, E_wQUEUED, S_wBUSY, E_wBUSY, F_seconds_wMAX_LOCK_DELAY, F_nanos_wMAX_LOCK_DELAY, S_wZERO, E_wZERO, F_seconds_wZERO, F_nanos_wZERO⟩ := hS0
  obtain ⟨cq1, kq1, q1a, q1b, q1c⟩ := isOf hZ e0 P0
  obtain ⟨_, _, ⟨T1, L1, k1, n1⟩, -, X1, ⟨Lc1, hQ1, l1, y1, z1⟩, st1⟩ := X0.virtualBack hx (y := M10) (z := M10) hown (mvT hZ (ow hw 97 rfl)) (mvT hZ (ow hw 98 rfl)) (notFace_of_selects (args := #[]) (mvT hZ (ow hw 100 rfl))) (mvT hZ (ow hw 100 rfl)) (mvT hZ (ow hw 99 rfl)) (by decide) (backOf (W := 0) (au14_1 l Z a0 hw [] wMAX_LOCK_DELAY wGRANTED wQUEUED wBUSY wZERO hS a1 a2 k3 a4 h0 n0 O0 P0 P1 P2 P3 P4 P5 P6 P13 P14 P17) hZ (ow hw 101 rfl) (ow hw 11 rfl) (by decide) (by decide)) q1a q1c (g := (mkF m 1 #[(vr a1)] [(.ref a1)])) rfl (by rw [hml]; rfl) (Steps.refl _) (argsL := []) (rest := []) (lenOf pd_8 rfl) rfl (by show 2 * 0 + _ ≤ _; exact Nat.le_of_eq rfl) (hb hby d13_1) (fun _ _ => ⟨rfl, e0, (by decide : 0 + 0 ≤ _), (by decide : 0 + 0 ≤ _)⟩)
  dsimp only [Pt.U, Pt.locs, Pt.cells, Pt.slots] at X1 l1 y1 z1 st1 hQ1
  subst l1 y1 z1
  obtain ⟨rfl, Nq1, K1q, p1_0, p1_1, p1_2, p1_3, p1_4, p1_5, p1_6⟩ := hQ1
  have N1 := Fr.app N0 Nq1
  have O2 : Old Z n0 T1.heap := O0.keep K1q (allS P14 (allS P13 all0))
  have K2 : Keep h0 T1.heap [a2, a1] := K0.trans K1q (allS (Or.inl (List.mem_of_getElem? (i := 0) rfl)) (allS (Or.inl (List.mem_of_getElem? (i := 1) rfl)) all0))
  obtain ⟨fs, hr, hrun, hended, hW, hsame⟩ := X1.leave (v := some (.ref a4)) (fun h => by rw [hret0] at h; cases h)
  refine ⟨_, _, pre0 _ ?_, hrun, hended, _, _, rfl, ?_, ⟨_, rfl⟩, hW, hsame.mono (by decide) (by decide)⟩
  · skip
    show Steps p.tables e below (s₁.setTop (mkF m 0 #[(vr a1)] [])) _
    refine XS.aloadN X0.here hx rfl (hb hby d13_0) rfl rfl ?_
    refine st1.trans ?_
    jvm_step X1.here [X1.here.top, hx, (hb hby d13_4), X1.method', hret0, Value.isRef, FieldType.isReference]
    first | (intro acts; rw [hr _ acts rfl rfl rfl]) | rw [hr _ _ rfl rfl rfl]
    exact Steps.refl _
  · show Q_au13_1 Z wMAX_LOCK_DELAY wGRANTED wQUEUED wBUSY wZERO a1 a2 k3 a4 h0 n0 _ T1.heap _
    exact ⟨rfl, N1, K2, p1_0, p1_1, p1_2, p1_3, p1_4, p1_5, p1_6⟩
theorem d12_17 : decode prog_84_method_22_code 17 = .ok (.aload_n 0, 1) := by decide +kernel
theorem d12_18 : decode prog_84_method_22_code 18 = .ok (.aload_n 1, 1) := by decide +kernel
theorem d12_19 : decode prog_84_method_22_code 19 = .ok (.getfield 95, 3) := by decide +kernel
theorem d12_22 : decode prog_84_method_22_code 22 = .ok (.aload_n 1, 1) := by decide +kernel
theorem d12_23 : decode prog_84_method_22_code 23 = .ok (.getfield 185, 3) := by decide +kernel
theorem d12_26 : decode prog_84_method_22_code 26 = .ok (.invokevirtual 49, 3) := by decide +kernel
theorem ef_au10_1 (m : MethodId) (x0 : Addr) (x1 : Addr) (x2 : Addr)  : entryFrame m #[(.ref x0), (.ref x1), (.ref x2)] 3 = mkF m 0 #[(vr x0), (vr x1), (vr x2)] [] := by first | (simp [entryFrame, mkF, argsToLocals, Value.category]; done) | rfl
def Q_au10_1 (Z : State) (wMAX_LOCK_DELAY : Addr) (wGRANTED : Addr) (wQUEUED : Addr) (wBUSY : Addr) (wZERO : Addr) (a1 : Addr) (a2 : Addr) (a3 : Addr) (q4 : Int64) (a5 : Addr) (h0 : Heap) (n0 : Nat) (v : Option Value) (h : Heap) (L : List Loc) : Prop := v = none ∧ Fr n0 L ∧ Keep h0 h [a1] ∧ Exa Z h a1 s4n ∧ Fld Z h a1 s4n "generation" "J" (.long (q4 + (1 : Int64))) ∧ Fld Z h a1 s4n "heldBack" "Z" (.int 0) ∧ Fld Z h a1 s4n "holder" s5n (.ref a2) ∧ Fld Z h a1 s4n s10n s0n (.ref a3) ∧ Fld Z h a1 s4n "waiters" s11n (.ref a5)
theorem au10_1 (l : Launch) (Z : State) (a0 : Array Value) (hw : ∀ d ∈ tables_1, d.before a0 Z = true) (ws : List Jvm.Cond) (wMAX_LOCK_DELAY : Addr) (wGRANTED : Addr) (wQUEUED : Addr) (wBUSY : Addr) (wZERO : Addr) (hS : SS Z wMAX_LOCK_DELAY wGRANTED wQUEUED wBUSY wZERO) (a1 : Addr) (a2 : Addr) (a3 : Addr) (q4 : Int64) (a5 : Addr) (h0 : Heap) (n0 : Nat) (O0 : Old Z n0 h0) (P0 : Exa Z h0 a1 s4n) (P1 : Fld Z h0 a1 s4n "generation" "J" (.long q4)) (P2 : Fld Z h0 a1 s4n "heldBack" "Z" (.int 0)) (P3 : Fld Z h0 a1 s4n "holder" s5n .null) (P4 : Fld Z h0 a1 s4n s10n s0n (.ref a3)) (P5 : Fld Z h0 a1 s4n "waiters" s11n (.ref a5)) (P16 : n0 ≤ a1) :
    MetB l M7 prog_84_method_23_code 3 none ws (rmk 0 0 0 0) Z h0 #[(.ref a1), (.ref a2), (.ref a3)] (Q_au10_1 Z wMAX_LOCK_DELAY wGRANTED wQUEUED wBUSY wZERO a1 a2 a3 q4 a5 h0 n0) := by
  refine own_body (plainFor_of_name pn_com_example_umpired_umpired_server_NodeLock) ?_
  intro p e s m below meth c s₁ hx hby hml hown hnm hret0 hlk0 hZ X0 e0
  have N0 := Fr.nil n0
  have pre0 : ∀ t, Steps p.tables e below (s₁.setTop (mkF m 0 #[(vr a1), (vr a2), (vr a3)] [])) t → Steps p.tables e below (s₁.setTop (entryFrame m #[(.ref a1), (.ref a2), (.ref a3)] 3)) t := fun t k => castTop (ef_au10_1 m a1 a2 a3) k
  have K0 := Keep.refl h0 [a1]
  have hS0 := hS
  obtain ⟨S_wMAX_LOCK_DELAY, E_wMAX_LOCK_DELAY, S_wGRANTED, E_wGRANTED, S_wQUEUED, E_wQUEUED, S_wBUSY, E_wBUSY, F_seconds_wMAX_LOCK_DELAY, F_nanos_wMAX_LOCK_DELAY, S_wZERO, E_wZERO, F_seconds_wZERO, F_nanos_wZERO⟩ := hS0
  obtain ⟨T1, h1, X1, e1, W1, st1⟩ := putF X0 hx hZ hown (host := "") (Or.inl (ow hw 51 rfl)) Via.refl e0 P3 P0 (Or.inl (ow hw 52 rfl)) (ow hw 1 rfl) (ty := (.object s3n)) (by decide) rfl rfl (g := (mkF m 2 #[(vr a1), (vr a2), (vr a3)] [(.ref a2), (.ref a1)])) rfl rfl (hb hby d10_2)
  have N1 := Fr.snoc X1 N0 P16
  have O2 : Old Z n0 h1 := O0.wr W1 P16
  have K2 : Keep h0 h1 [a1] := K0.wr W1 (Or.inl (List.mem_of_getElem? (i := 0) rfl))
  have Fw1 : Fld Z h1 a1 s4n "holder" s5n (.ref a2) := P3.same W1
  have f3 : Exa Z h1 a1 s4n := (P0.wr W1)
  have f4 : Fld Z h1 a1 s4n s10n s0n (.ref a3) := (P4.other W1 (Or.inr (slot_ne (Or.inl (ow hw 31 rfl)) (Or.inl (ow hw 52 rfl)) (by decide) (t := (.object s1n)) (t' := (.object s3n)) (by decide) (by decide))))
  obtain ⟨T5, h5, X5, e5, W5, st5⟩ := putF X1 hx hZ hown (host := "") (Or.inl (ow hw 30 rfl)) Via.refl e1 f4 f3 (Or.inl (ow hw 31 rfl)) (ow hw 1 rfl) (ty := (.object s1n)) (by decide) rfl rfl (g := (mkF m 7 #[(vr a1), (vr a2), (vr a3)] [(.ref a3), (.ref a1)])) rfl rfl (hb hby d10_7)
  have N5 := Fr.snoc X5 N1 P16
  have O6 : Old Z n0 h5 := O2.wr W5 P16
  have K6 : Keep h0 h5 [a1] := K2.wr W5 (Or.inl (List.mem_of_getElem? (i := 0) rfl))
  have Fw5 : Fld Z h5 a1 s4n s10n s0n (.ref a3) := f4.same W5
  have f7 : Fld Z h5 a1 s4n "generation" "J" (.long q4) := ((P1.other W1 (Or.inr (slot_ne (Or.inl (ow hw 75 rfl)) (Or.inl (ow hw 52 rfl)) (by decide) (t := .long) (t' := (.object s3n)) (by decide) (by decide)))).other W5 (Or.inr (slot_ne (Or.inl (ow hw 75 rfl)) (Or.inl (ow hw 31 rfl)) (by decide) (t := .long) (t' := (.object s1n)) (by decide) (by decide))))
  obtain ⟨T8, X8, e8, st8⟩ := getF X5 hx hZ hown (host := "") (Or.inl (ow hw 74 rfl)) Via.refl e5 f7 (g := (mkF m 12 #[(vr a1), (vr a2), (vr a3)] [(.ref a1), (.ref a1)])) rfl rfl (hb hby d10_12)
  have f9 : Exa Z h5 a1 s4n := (f3.wr W5)
  obtain ⟨T10, h10, X10, e10, W10, st10⟩ := putF X8 hx hZ hown (host := "") (Or.inl (ow hw 74 rfl)) Via.refl e8 f7 f9 (Or.inl (ow hw 75 rfl)) (ow hw 1 rfl) (ty := .long) (by decide) rfl rfl (g := (mkF m 17 #[(vr a1), (vr a2), (vr a3)] [(.long (q4 + (1 : Int64))), (.ref a1)])) rfl rfl (hb hby d10_17)
  have N10 := Fr.snoc X10 N5 P16
  have O11 : Old Z n0 h10 := O6.wr W10 P16
  have K11 : Keep h0 h10 [a1] := K6.wr W10 (Or.inl (List.mem_of_getElem? (i := 0) rfl))
  have Fw10 : Fld Z h10 a1 s4n "generation" "J" (.long (q4 + (1 : Int64))) := f7.same W10
  have f12 : Exa Z h10 a1 s4n := (f9.wr W10)
  have f13 : Fld Z h10 a1 s4n "heldBack" "Z" (.int 0) := (((P2.other W1 (Or.inr (slot_ne (Or.inl (ow hw 69 rfl)) (Or.inl (ow hw 52 rfl)) (by decide) (t := .boolean) (t' := (.object s3n)) (by decide) (by decide)))).other W5 (Or.inr (slot_ne (Or.inl (ow hw 69 rfl)) (Or.inl (ow hw 31 rfl)) (by decide) (t := .boolean) (t' := (.object s1n)) (by decide) (by decide)))).other W10 (Or.inr (slot_ne (Or.inl (ow hw 69 rfl)) (Or.inl (ow hw 75 rfl)) (by decide) (t := .boolean) (t' := .long) (by decide) (by decide))))
  have f14 : Fld Z h10 a1 s4n "holder" s5n (.ref a2) := ((Fw1.other W5 (Or.inr (slot_ne (Or.inl (ow hw 52 rfl)) (Or.inl (ow hw 31 rfl)) (by decide) (t := (.object s3n)) (t' := (.object s1n)) (by decide) (by decide)))).other W10 (Or.inr (slot_ne (Or.inl (ow hw 52 rfl)) (Or.inl (ow hw 75 rfl)) (by decide) (t := (.object s3n)) (t' := .long) (by decide) (by decide))))
  have f15 : Fld Z h10 a1 s4n s10n s0n (.ref a3) := (Fw5.other W10 (Or.inr (slot_ne (Or.inl (ow hw 31 rfl)) (Or.inl (ow hw 75 rfl)) (by decide) (t := (.object s1n)) (t' := .long) (by decide) (by decide))))
  have f16 : Fld Z h10 a1 s4n "waiters" s11n (.ref a5) := (((P5.other W1 (Or.inr (slot_ne (Or.inr (ow hw 27 rfl)) (Or.inl (ow hw 52 rfl)) (by decide) (t := (.object s12n)) (t' := (.object s3n)) (by decide) (by decide)))).other W5 (Or.inr (slot_ne (Or.inr (ow hw 27 rfl)) (Or.inl (ow hw 31 rfl)) (by decide) (t := (.object s12n)) (t' := (.object s1n)) (by decide) (by decide)))).other W10 (Or.inr (slot_ne (Or.inr (ow hw 27 rfl)) (Or.inl (ow hw 75 rfl)) (by decide) (t := (.object s12n)) (t' := .long) (by decide) (by decide))))
  obtain ⟨fs, hr, hrun, hended, hW, hsame⟩ := X10.leave (v := none) (fun _ => rfl)
  refine ⟨_, _, pre0 _ ?_, hrun, hended, _, _, rfl, ?_, ⟨_, rfl⟩, hW, hsame.mono (by decide) (by decide)⟩
  · skip
    show Steps p.tables e below (s₁.setTop (mkF m 0 #[(vr a1), (vr a2), (vr a3)] [])) _
    refine XS.aloadN X0.here hx rfl (hb hby d10_0) rfl rfl ?_
    refine XS.aloadN X0.here hx rfl (hb hby d10_1) rfl rfl ?_
    refine st1 _ ?_
    refine XS.aloadN X1.here hx rfl (hb hby d10_5) rfl rfl ?_
    refine XS.aloadN X1.here hx rfl (hb hby d10_6) rfl rfl ?_
    show Steps p.tables e below (T1.setTop (mkF m 7 #[(vr a1), (vr a2), (vr a3)] [(.ref a3), (.ref a1)])) _
    refine st5 _ ?_
    refine XS.aloadN X5.here hx rfl (hb hby d10_10) rfl rfl ?_
    refine XS.dup X5.here hx rfl (hb hby d10_11) rfl rfl ?_
    refine st8 _ ?_
    refine XS.lconst X8.here hx rfl (hb hby d10_15) ?_
    show Steps p.tables e below (T8.setTop (mkF m 16 #[(vr a1), (vr a2), (vr a3)] [(.long 1), (.long q4), (.ref a1)])) _
    refine XS.ladd X8.here hx rfl (hb hby d10_16) rfl ?_
    refine st10 _ ?_
    exact X10.returnOut hx hret0 (hb hby d10_20) hr
  · show Q_au10_1 Z wMAX_LOCK_DELAY wGRANTED wQUEUED wBUSY wZERO a1 a2 a3 q4 a5 h0 n0 _ T10.heap _
    rw [e10]
    exact ⟨rfl, N10, K11, f12, Fw10, f13, f14, f15, f16⟩
theorem d12_37 : decode prog_84_method_22_code 37 = .ok (.aload_n 1, 1) := by decide +kernel
theorem d12_38 : decode prog_84_method_22_code 38 = .ok (.getfield 95, 3) := by decide +kernel
def Q_au12_1 (Z : State) (wMAX_LOCK_DELAY : Addr) (wGRANTED : Addr) (wQUEUED : Addr) (wBUSY : Addr) (wZERO : Addr) (a1 : Addr) (q2 : Int64) (a3 : Addr) (a4 : Addr) (a5 : Addr) (k6 : ClassId) (a7 : Addr) (a8 : Addr) (h0 : Heap) (n0 : Nat) (v : Option Value) (h : Heap) (L : List Loc) : Prop := v = some (.ref a8) ∧ Fr n0 L ∧ Keep h0 h [a5, a4, a1] ∧ Exa Z h a5 s8n ∧ Arv Z h a5 k6 (.object s9n) (17 : Int32) ([.null, .null, .null, .null, .null, .null, .null, .null, .null, .null, .null, .null, .null, .null, .null, .null, .null]) .null ∧ Ovr Z k6 s9n ∧ Exa Z h a4 s7n ∧ Fld Z h a4 s7n "elements" s8n (.ref a5) ∧ Fld Z h a4 s7n "head" "I" (.int 1) ∧ Fld Z h a4 s7n "tail" "I" (.int 1) ∧ Exa Z h a1 s4n ∧ Fld Z h a1 s4n "generation" "J" (.long (q2 + (1 : Int64))) ∧ Fld Z h a1 s4n "heldBack" "Z" (.int 0) ∧ Fld Z h a1 s4n "holder" s5n (.ref a8) ∧ Fld Z h a1 s4n s10n s0n (.ref a3) ∧ Fld Z h a1 s4n "waiters" s11n (.ref a4)
theorem au12_1 (l : Launch) (Z : State) (a0 : Array Value) (hw : ∀ d ∈ tables_1, d.before a0 Z = true) (ws : List Jvm.Cond) (wMAX_LOCK_DELAY : Addr) (wGRANTED : Addr) (wQUEUED : Addr) (wBUSY : Addr) (wZERO : Addr) (hS : SS Z wMAX_LOCK_DELAY wGRANTED wQUEUED wBUSY wZERO) (a1 : Addr) (q2 : Int64) (a3 : Addr) (a4 : Addr) (a5 : Addr) (k6 : ClassId) (a7 : Addr) (a8 : Addr) (h0 : Heap) (n0 : Nat) (O0 : Old Z n0 h0) (P0 : Exa Z h0 a1 s4n) (P1 : Fld Z h0 a1 s4n "generation" "J" (.long q2)) (P2 : Fld Z h0 a1 s4n "heldBack" "Z" (.int 0)) (P3 : Fld Z h0 a1 s4n "holder" s5n .null) (P4 : Fld Z h0 a1 s4n s10n s0n (.ref a3)) (P5 : Fld Z h0 a1 s4n "waiters" s11n (.ref a4)) (P6 : Exa Z h0 a4 s7n) (P7 : Fld Z h0 a4 s7n "elements" s8n (.ref a5)) (P8 : Fld Z h0 a4 s7n "head" "I" (.int 0)) (P9 : Fld Z h0 a4 s7n "tail" "I" (.int 1)) (P10 : Arv Z h0 a5 k6 (.object s9n) (17 : Int32) ([(.ref a7), .null, .null, .null, .null, .null, .null, .null, .null, .null, .null, .null, .null, .null, .null, .null, .null]) .null) (P11 : Ovr Z k6 s9n) (P12 : Exa Z h0 a5 s8n) (P13 : Exa Z h0 a7 s16n) (P14 : Fld Z h0 a7 s16n "lockDelay" s0n (.ref a3)) (P15 : Fld Z h0 a7 s16n "owner" s5n (.ref a8)) (P19 : n0 ≤ a1) (P20 : n0 ≤ a4) (P21 : n0 ≤ a5) (P25 : a1 ≠ a4) (P26 : a1 ≠ a5) (P27 : a1 ≠ a7) (P33 : a4 ≠ a5) (P34 : a4 ≠ a7) (P36 : a5 ≠ a7) :
    MetB l M12 prog_84_method_22_code 2 (some (.object s3n)) ws (rmk 3 0 0 41) Z h0 #[(.ref a1)] (Q_au12_1 Z wMAX_LOCK_DELAY wGRANTED wQUEUED wBUSY wZERO a1 q2 a3 a4 a5 k6 a7 a8 h0 n0) := by
  refine own_body (plainFor_of_name pn_com_example_umpired_umpired_server_NodeLock) ?_
  intro p e s m below meth c s₁ hx hby hml hown hnm hret0 hlk0 hZ X0 e0
  have N0 := Fr.nil n0
  have pre0 : ∀ t, Steps p.tables e below (s₁.setTop (mkF m 0 #[(vr a1), .unset] [])) t → Steps p.tables e below (s₁.setTop (entryFrame m #[(.ref a1)] 2)) t := fun t k => castTop (ef_au12_1 m a1) k
  have K0 := Keep.refl h0 [a5, a4, a1]
  have hS0 := hS
  obtain ⟨S_wMAX_LOCK_DELAY, E_wMAX_LOCK_DELAY, S_wGRANTED, E_wGRANTED, S_wQUEUED, E_wQUEUED, S_wBUSY, E_wBUSY, F_seconds_wMAX_LOCK_DELAY, F_nanos_wMAX_LOCK_DELAY, S_wZERO, E_wZERO, F_seconds_wZERO, F_nanos_wZERO⟩ := hS0
  obtain ⟨T1, X1, e1, st1⟩ := getF X0 hx hZ hown (host := "") (Or.inl (ow hw 26 rfl)) Via.refl e0 P5 (g := (mkF m 1 #[(vr a1), .unset] [(.ref a1)])) rfl rfl (hb hby d12_1)
  obtain ⟨cq2, kq2, q2a, q2b, q2c⟩ := isOf hZ e1 P6
  obtain ⟨_, _, ⟨T2, L2, k2, n2⟩, -, X2, ⟨Lc2, hQ2, l2, y2, z2⟩, st2⟩ := X1.interfaceBack hx (xi := M13) (y := M11) hown (mvT hZ (ow hw 88 rfl)) (mvT hZ (ow hw 89 rfl)) (mvT hZ (ow hw 90 rfl)) (mvT hZ (ow hw 91 rfl)) (mvT hZ (ow hw 92 rfl)) (mvT hZ (ow hw 93 rfl)) (mvT hZ (ow hw 94 rfl)) (mvT hZ (ow hw 95 rfl)) (by decide) (backOf (W := 0) (au13_1 l Z a0 hw [] wMAX_LOCK_DELAY wGRANTED wQUEUED wBUSY wZERO hS a4 a5 k6 a7 h0 n0 O0 P6 P7 P8 P9 P10 P11 P12 P20 P21 P33) hZ (ow hw 96 rfl) (ow hw 11 rfl) (by decide) (by decide)) q2a q2b q2c (g := (mkF m 4 #[(vr a1), .unset] [(.ref a4)])) rfl (by rw [hml]; rfl) (Steps.refl _) (argsL := []) (rest := []) (lenOf pd_8 rfl) rfl (by show 2 * 0 + _ ≤ _; exact Nat.le_of_eq rfl) (hb hby d12_4) (fun _ _ => ⟨rfl, e1, (by decide : 0 + 0 ≤ _), (by decide : 0 + 0 ≤ _)⟩)
  dsimp only [Pt.U, Pt.locs, Pt.cells, Pt.slots] at X2 l2 y2 z2 st2 hQ2
  subst l2 y2 z2
  obtain ⟨rfl, Nq2, K2q, p2_0, p2_1, p2_2, p2_3, p2_4, p2_5, p2_6⟩ := hQ2
  have N2 := Fr.app N0 Nq2
  have O3 : Old Z n0 T2.heap := O0.keep K2q (allS P21 (allS P20 all0))
  have K3 : Keep h0 T2.heap [a5, a4, a1] := K0.trans K2q (allS (Or.inl (List.mem_of_getElem? (i := 0) rfl)) (allS (Or.inl (List.mem_of_getElem? (i := 1) rfl)) all0))
  have f4 : Exa Z T2.heap a7 s16n := (P13.keep K2q)
  obtain ⟨T5, X5, e5, st5⟩ := castY X2 hx hZ hown (ow hw 157 rfl) rfl (Ins.self f4) (g := (mkF m 9 #[(vr a1), .unset] [(.ref a7)])) rfl rfl (hb hby d12_9)
  have f6 : Fld Z T2.heap a7 s16n "owner" s5n (.ref a8) := (P15.keep K2q (ninS (Ne.symm P36) (ninS (Ne.symm P34) nin0)))
  obtain ⟨T7, X7, e7, st7⟩ := own_getR X5 hx hZ hown (ow hw 188 rfl) e5 f6 (g := (mkF m 19 #[(vr a1), (vr a7)] [(.ref a7), (.ref a1)])) rfl rfl (hb hby d12_19)
  have f8 : Fld Z T2.heap a7 s16n "lockDelay" s0n (.ref a3) := (P14.keep K2q (ninS (Ne.symm P36) (ninS (Ne.symm P34) nin0)))
  obtain ⟨T9, X9, e9, st9⟩ := own_getR X7 hx hZ hown (ow hw 189 rfl) e7 f8 (g := (mkF m 23 #[(vr a1), (vr a7)] [(.ref a7), (.ref a8), (.ref a1)])) rfl rfl (hb hby d12_23)
  have f10 : Exa Z T2.heap a1 s4n := (P0.keep K2q)
  have f11 : Fld Z T2.heap a1 s4n "generation" "J" (.long q2) := (P1.keep K2q (ninS P26 (ninS P25 nin0)))
  have f12 : Fld Z T2.heap a1 s4n "heldBack" "Z" (.int 0) := (P2.keep K2q (ninS P26 (ninS P25 nin0)))
  have f13 : Fld Z T2.heap a1 s4n "holder" s5n .null := (P3.keep K2q (ninS P26 (ninS P25 nin0)))
  have f14 : Fld Z T2.heap a1 s4n s10n s0n (.ref a3) := (P4.keep K2q (ninS P26 (ninS P25 nin0)))
  have f15 : Fld Z T2.heap a1 s4n "waiters" s11n (.ref a4) := (P5.keep K2q (ninS P26 (ninS P25 nin0)))
  obtain ⟨cq16, q16, q16'⟩ := f10.cell
  obtain ⟨_, _, ⟨T16, L16, k16, n16⟩, -, X16, ⟨Lc16, hQ16, l16, y16, z16⟩, st16⟩ := X9.privateBack hx (y := M7) hown (mvT hZ (ow hw 70 rfl)) (mvT hZ (ow hw 71 rfl)) (own_selp (mvT hZ (ow hw 1 rfl)) (mvP hZ (ow hw 72 rfl)) (mvT hZ (ow hw 71 rfl)) (by decide)) (Cond.privateMethod_at (mvP hZ (ow hw 72 rfl) (args := #[]))) (mvT hZ (ow hw 73 rfl)) (by decide) (backOf (W := 0) (au10_1 l Z a0 hw [] wMAX_LOCK_DELAY wGRANTED wQUEUED wBUSY wZERO hS a1 a8 a3 q2 a4 T2.heap n0 O3 f10 f11 f12 f13 f14 f15 P19) hZ (ow hw 73 rfl) (ow hw 2 rfl) (by decide) (by decide)) (g := (mkF m 26 #[(vr a1), (vr a7)] [(.ref a3), (.ref a8), (.ref a1)])) rfl (by rw [hml]; rfl) (Steps.refl _) (a := a1) (by rw [e9]; exact q16) q16' (argsL := [(.ref a8), (.ref a3)]) (rest := []) (lenOf pd_5 rfl) rfl (by show 2 * 0 + _ ≤ _; exact Nat.le_of_eq rfl) (hb hby d12_26) (fun _ _ => ⟨rfl, e9, (by decide : 0 + 0 ≤ _), (by decide : 0 + 0 ≤ _)⟩)
  dsimp only [Pt.U, Pt.locs, Pt.cells, Pt.slots] at X16 l16 y16 z16 st16 hQ16
  subst l16 y16 z16
  obtain ⟨rfl, Nq16, K16q, p16_0, p16_1, p16_2, p16_3, p16_4, p16_5⟩ := hQ16
  have N16 := Fr.app N2 Nq16
  have O17 : Old Z n0 T16.heap := O3.keep K16q (allS P19 all0)
  have K17 : Keep h0 T16.heap [a5, a4, a1] := K3.trans K16q (allS (Or.inl (List.mem_of_getElem? (i := 2) rfl)) all0)
  have f18 : Fld Z T16.heap a7 s16n "owner" s5n (.ref a8) := (f6.keep K16q (ninS (Ne.symm P27) nin0))
  obtain ⟨T19, X19, e19, st19⟩ := own_getR X16 hx hZ hown (ow hw 188 rfl) rfl f18 (g := (mkF m 38 #[(vr a1), (vr a7)] [(.ref a7)])) rfl rfl (hb hby d12_38)
  have f20 : Exa Z T16.heap a5 s8n := (p2_0.keep K16q)
  have f21 : Arv Z T16.heap a5 k6 (.object s9n) (17 : Int32) ([.null, .null, .null, .null, .null, .null, .null, .null, .null, .null, .null, .null, .null, .null, .null, .null, .null]) .null := (p2_1.keep K16q (ninS (Ne.symm P26) nin0))
  have f22 : Exa Z T16.heap a4 s7n := (p2_3.keep K16q)
  have f23 : Fld Z T16.heap a4 s7n "elements" s8n (.ref a5) := (p2_4.keep K16q (ninS (Ne.symm P25) nin0))
  have f24 : Fld Z T16.heap a4 s7n "head" "I" (.int 1) := (p2_5.keep K16q (ninS (Ne.symm P25) nin0))
  have f25 : Fld Z T16.heap a4 s7n "tail" "I" (.int 1) := (p2_6.keep K16q (ninS (Ne.symm P25) nin0))
  obtain ⟨fs, hr, hrun, hended, hW, hsame⟩ := X19.leave (v := some (.ref a8)) (fun h => by rw [hret0] at h; cases h)
  refine ⟨_, _, pre0 _ ?_, hrun, hended, _, _, rfl, ?_, ⟨_, rfl⟩, hW, hsame.mono (by decide) (by decide)⟩
  · skip
    show Steps p.tables e below (s₁.setTop (mkF m 0 #[(vr a1), .unset] [])) _
    refine XS.aloadN X0.here hx rfl (hb hby d12_0) rfl rfl ?_
    refine st1 _ ?_
    refine st2.trans ?_
    refine st5 _ ?_
    refine XS.astoreN X5.here hx rfl (hb hby d12_12) rfl rfl (l' := #[(vr a1), (vr a7)]) rfl ?_
    show Steps p.tables e below (T5.setTop (mkF m 13 #[(vr a1), (vr a7)] [])) _
    refine XS.aloadN X5.here hx rfl (hb hby d12_13) rfl rfl ?_
    refine XS.ifnullNo X5.here hx rfl (hb hby d12_14) rfl ?_
    refine XS.aloadN X5.here hx rfl (hb hby d12_17) rfl rfl ?_
    refine XS.aloadN X5.here hx rfl (hb hby d12_18) rfl rfl ?_
    refine st7 _ ?_
    show Steps p.tables e below (T7.setTop (mkF m 22 #[(vr a1), (vr a7)] [(.ref a8), (.ref a1)])) _
    refine XS.aloadN X7.here hx rfl (hb hby d12_22) rfl rfl ?_
    refine st9 _ ?_
    refine st16.trans ?_
    refine XS.aloadN X16.here hx rfl (hb hby d12_29) rfl rfl ?_
    refine XS.ifnonnullYes X16.here hx rfl (pc0 := 30) (pc' := 37) rfl (hb hby d12_30) rfl (by decide) (by decide) ?_
    show Steps p.tables e below (T16.setTop (mkF m 37 #[(vr a1), (vr a7)] [])) _
    refine XS.aloadN X16.here hx rfl (hb hby d12_37) rfl rfl ?_
    refine st19 _ ?_
    jvm_step X19.here [X19.here.top, hx, (hb hby d12_41), X19.method', hret0, Value.isRef, FieldType.isReference]
    first | (intro acts; rw [hr _ acts rfl rfl rfl]) | rw [hr _ _ rfl rfl rfl]
    exact Steps.refl _
  · show Q_au12_1 Z wMAX_LOCK_DELAY wGRANTED wQUEUED wBUSY wZERO a1 q2 a3 a4 a5 k6 a7 a8 h0 n0 _ T19.heap _
    rw [e19]
    exact ⟨rfl, N16, K17, f20, f21, p2_2, f22, f23, f24, f25, p16_0, p16_1, p16_2, p16_3, p16_4, p16_5⟩
def Q_au11_1 (Z : State) (wMAX_LOCK_DELAY : Addr) (wGRANTED : Addr) (wQUEUED : Addr) (wBUSY : Addr) (wZERO : Addr) (a1 : Addr) (qg2 : Int64) (a3 : Addr) (a4 : Addr) (a5 : Addr) (a8 : Addr) (k9 : ClassId) (a10 : Addr) (a11 : Addr) (h0 : Heap) (n0 : Nat) (v : Option Value) (h : Heap) (L : List Loc) : Prop := v = some (.ref a11) ∧ Fr n0 L ∧ Keep h0 h [a1, a8, a5] ∧ Exa Z h a1 s4n ∧ Fld Z h a1 s4n "generation" "J" (.long (qg2 + (1 : Int64))) ∧ Fld Z h a1 s4n "heldBack" "Z" (.int 0) ∧ Fld Z h a1 s4n "holder" s5n (.ref a11) ∧ Fld Z h a1 s4n s10n s0n (.ref a4) ∧ Fld Z h a1 s4n "waiters" s11n (.ref a5) ∧ Exa Z h a8 s8n ∧ Arv Z h a8 k9 (.object s9n) (17 : Int32) ([.null, .null, .null, .null, .null, .null, .null, .null, .null, .null, .null, .null, .null, .null, .null, .null, .null]) .null ∧ Ovr Z k9 s9n ∧ Exa Z h a5 s7n ∧ Fld Z h a5 s7n "elements" s8n (.ref a8) ∧ Fld Z h a5 s7n "head" "I" (.int 1) ∧ Fld Z h a5 s7n "tail" "I" (.int 1)
theorem au11_1 (l : Launch) (Z : State) (a0 : Array Value) (hw : ∀ d ∈ tables_1, d.before a0 Z = true) (ws : List Jvm.Cond) (wMAX_LOCK_DELAY : Addr) (wGRANTED : Addr) (wQUEUED : Addr) (wBUSY : Addr) (wZERO : Addr) (hS : SS Z wMAX_LOCK_DELAY wGRANTED wQUEUED wBUSY wZERO) (a1 : Addr) (qg2 : Int64) (a3 : Addr) (a4 : Addr) (a5 : Addr) (a8 : Addr) (k9 : ClassId) (a10 : Addr) (a11 : Addr) (h0 : Heap) (n0 : Nat) (O0 : Old Z n0 h0) (P0 : Exa Z h0 a1 s4n) (P1 : Fld Z h0 a1 s4n "generation" "J" (.long qg2)) (P2 : Fld Z h0 a1 s4n "heldBack" "Z" (.int 0)) (P3 : Fld Z h0 a1 s4n "holder" s5n (.ref a3)) (P4 : Fld Z h0 a1 s4n s10n s0n (.ref a4)) (P5 : Fld Z h0 a1 s4n "waiters" s11n (.ref a5)) (P9 : Exa Z h0 a5 s7n) (P10 : Fld Z h0 a5 s7n "elements" s8n (.ref a8)) (P11 : Fld Z h0 a5 s7n "head" "I" (.int 0)) (P12 : Fld Z h0 a5 s7n "tail" "I" (.int 1)) (P13 : Arv Z h0 a8 k9 (.object s9n) (17 : Int32) ([(.ref a10), .null, .null, .null, .null, .null, .null, .null, .null, .null, .null, .null, .null, .null, .null, .null, .null]) .null) (P14 : Ovr Z k9 s9n) (P15 : Exa Z h0 a8 s8n) (P16 : Exa Z h0 a10 s16n) (P17 : Fld Z h0 a10 s16n "lockDelay" s0n (.ref a4)) (P18 : Fld Z h0 a10 s16n "owner" s5n (.ref a11)) (P24 : n0 ≤ a1) (P26 : n0 ≤ a5) (P27 : n0 ≤ a8) (P32 : a1 ≠ a5) (P33 : a1 ≠ a8) (P34 : a1 ≠ a10) (P45 : a5 ≠ a8) (P46 : a5 ≠ a10) (P48 : a8 ≠ a10) :
    MetB l M14 prog_84_method_13_code 1 (some (.object s3n)) ws (rmk 4 0 0 54) Z h0 #[(.ref a1)] (Q_au11_1 Z wMAX_LOCK_DELAY wGRANTED wQUEUED wBUSY wZERO a1 qg2 a3 a4 a5 a8 k9 a10 a11 h0 n0) := by
  refine own_body (plainFor_of_name pn_com_example_umpired_umpired_server_NodeLock) ?_
  intro p e s m below meth c s₁ hx hby hml hown hnm hret0 hlk0 hZ X0 e0
  have N0 := Fr.nil n0
  have pre0 : ∀ t, Steps p.tables e below (s₁.setTop (mkF m 0 #[(vr a1)] [])) t → Steps p.tables e below (s₁.setTop (entryFrame m #[(.ref a1)] 1)) t := fun t k => castTop (ef_au11_1 m a1) k
  have K0 := Keep.refl h0 [a1, a8, a5]
  have hS0 := hS
  obtain ⟨S_wMAX_LOCK_DELAY, E_wMAX_LOCK_DELAY, S_wGRANTED, E_wGRANTED, S_wQUEUED, E_wQUEUED, S_wBUSY, E_wBUSY, F_seconds_wMAX_LOCK_DELAY, F_nanos_wMAX_LOCK_DELAY, S_wZERO, E_wZERO, F_seconds_wZERO, F_nanos_wZERO⟩ := hS0
  obtain ⟨T1, h1, X1, e1, W1, st1⟩ := putF X0 hx hZ hown (host := "") (Or.inl (ow hw 51 rfl)) Via.refl e0 P3 P0 (Or.inl (ow hw 52 rfl)) (ow hw 1 rfl) (ty := (.object s3n)) (by decide) rfl rfl (g := (mkF m 2 #[(vr a1)] [.null, (.ref a1)])) rfl rfl (hb hby d11_2)
  have N1 := Fr.snoc X1 N0 P24
  have O2 : Old Z n0 h1 := O0.wr W1 P24
  have K2 : Keep h0 h1 [a1, a8, a5] := K0.wr W1 (Or.inl (List.mem_of_getElem? (i := 0) rfl))
  have Fw1 : Fld Z h1 a1 s4n "holder" s5n .null := P3.same W1
  have f3 : Exa Z h1 a1 s4n := (P0.wr W1)
  have f4 : Fld Z h1 a1 s4n "generation" "J" (.long qg2) := (P1.other W1 (Or.inr (slot_ne (Or.inl (ow hw 75 rfl)) (Or.inl (ow hw 52 rfl)) (by decide) (t := .long) (t' := (.object s3n)) (by decide) (by decide))))
  have f5 : Fld Z h1 a1 s4n "heldBack" "Z" (.int 0) := (P2.other W1 (Or.inr (slot_ne (Or.inl (ow hw 69 rfl)) (Or.inl (ow hw 52 rfl)) (by decide) (t := .boolean) (t' := (.object s3n)) (by decide) (by decide))))
  have f6 : Fld Z h1 a1 s4n s10n s0n (.ref a4) := (P4.other W1 (Or.inr (slot_ne (Or.inl (ow hw 31 rfl)) (Or.inl (ow hw 52 rfl)) (by decide) (t := (.object s1n)) (t' := (.object s3n)) (by decide) (by decide))))
  have f7 : Fld Z h1 a1 s4n "waiters" s11n (.ref a5) := (P5.other W1 (Or.inr (slot_ne (Or.inr (ow hw 27 rfl)) (Or.inl (ow hw 52 rfl)) (by decide) (t := (.object s12n)) (t' := (.object s3n)) (by decide) (by decide))))
  have f8 : Exa Z h1 a5 s7n := (P9.wr W1)
  have f9 : Fld Z h1 a5 s7n "elements" s8n (.ref a8) := (P10.other W1 (Or.inl (Ne.symm P32)))
  have f10 : Fld Z h1 a5 s7n "head" "I" (.int 0) := (P11.other W1 (Or.inl (Ne.symm P32)))
  have f11 : Fld Z h1 a5 s7n "tail" "I" (.int 1) := (P12.other W1 (Or.inl (Ne.symm P32)))
  have f12 : Arv Z h1 a8 k9 (.object s9n) (17 : Int32) ([(.ref a10), .null, .null, .null, .null, .null, .null, .null, .null, .null, .null, .null, .null, .null, .null, .null, .null]) .null := (P13.other W1 (Ne.symm P33))
  have f13 : Exa Z h1 a8 s8n := (P15.wr W1)
  have f14 : Exa Z h1 a10 s16n := (P16.wr W1)
  have f15 : Fld Z h1 a10 s16n "lockDelay" s0n (.ref a4) := (P17.other W1 (Or.inl (Ne.symm P34)))
  have f16 : Fld Z h1 a10 s16n "owner" s5n (.ref a11) := (P18.other W1 (Or.inl (Ne.symm P34)))
  obtain ⟨cq17, q17, q17'⟩ := f3.cell
  obtain ⟨_, _, ⟨T17, L17, k17, n17⟩, -, X17, ⟨Lc17, hQ17, l17, y17, z17⟩, st17⟩ := X1.privateBack hx (y := M12) hown (mvT hZ (ow hw 84 rfl)) (mvT hZ (ow hw 85 rfl)) (own_selp (mvT hZ (ow hw 1 rfl)) (mvP hZ (ow hw 86 rfl)) (mvT hZ (ow hw 85 rfl)) (by decide)) (Cond.privateMethod_at (mvP hZ (ow hw 86 rfl) (args := #[]))) (mvT hZ (ow hw 87 rfl)) (by decide) (backOf (W := 0) (au12_1 l Z a0 hw [] wMAX_LOCK_DELAY wGRANTED wQUEUED wBUSY wZERO hS a1 qg2 a4 a5 a8 k9 a10 a11 h1 n0 O2 f3 f4 f5 Fw1 f6 f7 f8 f9 f10 f11 f12 P14 f13 f14 f15 f16 P24 P26 P27 P32 P33 P34 P45 P46 P48) hZ (ow hw 87 rfl) (ow hw 2 rfl) (by decide) (by decide)) (g := (mkF m 6 #[(vr a1)] [(.ref a1)])) rfl (by rw [hml]; rfl) (Steps.refl _) (a := a1) (by rw [e1]; exact q17) q17' (argsL := []) (rest := []) (lenOf pd_9 rfl) rfl (by show 2 * 0 + _ ≤ _; exact Nat.le_of_eq rfl) (hb hby d11_6) (fun _ _ => ⟨rfl, e1, (by decide : 0 + 0 ≤ _), (by decide : 0 + 0 ≤ _)⟩)
  dsimp only [Pt.U, Pt.locs, Pt.cells, Pt.slots] at X17 l17 y17 z17 st17 hQ17
  subst l17 y17 z17
  obtain ⟨rfl, Nq17, K17q, p17_0, p17_1, p17_2, p17_3, p17_4, p17_5, p17_6, p17_7, p17_8, p17_9, p17_10, p17_11, p17_12⟩ := hQ17
  have N17 := Fr.app N1 Nq17
  have O18 : Old Z n0 T17.heap := O2.keep K17q (allS P27 (allS P26 (allS P24 all0)))
  have K18 : Keep h0 T17.heap [a1, a8, a5] := K2.trans K17q (allS (Or.inl (List.mem_of_getElem? (i := 1) rfl)) (allS (Or.inl (List.mem_of_getElem? (i := 2) rfl)) (allS (Or.inl (List.mem_of_getElem? (i := 0) rfl)) all0)))
  obtain ⟨fs, hr, hrun, hended, hW, hsame⟩ := X17.leave (v := some (.ref a11)) (fun h => by rw [hret0] at h; cases h)
  refine ⟨_, _, pre0 _ ?_, hrun, hended, _, _, rfl, ?_, ⟨_, rfl⟩, hW, hsame.mono (by decide) (by decide)⟩
  · skip
    show Steps p.tables e below (s₁.setTop (mkF m 0 #[(vr a1)] [])) _
    refine XS.aloadN X0.here hx rfl (hb hby d11_0) rfl rfl ?_
    refine XS.aconstNull X0.here hx rfl (hb hby d11_1) ?_
    refine st1 _ ?_
    refine XS.aloadN X1.here hx rfl (hb hby d11_5) rfl rfl ?_
    refine st17.trans ?_
    show Steps p.tables e below (T17.setTop (mkF m 9 #[(vr a1)] [(.ref a11)])) _
    jvm_step X17.here [X17.here.top, hx, (hb hby d11_9), X17.method', hret0, Value.isRef, FieldType.isReference]
    first | (intro acts; rw [hr _ acts rfl rfl rfl]) | rw [hr _ _ rfl rfl rfl]
    exact Steps.refl _
  · show Q_au11_1 Z wMAX_LOCK_DELAY wGRANTED wQUEUED wBUSY wZERO a1 qg2 a3 a4 a5 a8 k9 a10 a11 h0 n0 _ T17.heap _
    exact ⟨rfl, N17, K18, p17_7, p17_8, p17_9, p17_10, p17_11, p17_12, p17_0, p17_1, p17_2, p17_3, p17_4, p17_5, p17_6⟩
theorem tl_tl_rm0_d_m3 {p : Program} {l : Launch} {e : Env} {s : State} {m : MethodId} {below : List Frame} {meth : Method} {c : Code} {T0 : State} {locs : List Loc} {Z : State} {a0 : Array Value} {h0 : Heap} {n0 : Nat} {margs : Array Value} (hw : ∀ d ∈ tables_1, d.before a0 Z = true) (wMAX_LOCK_DELAY : Addr) (wGRANTED : Addr) (wQUEUED : Addr) (wBUSY : Addr) (wZERO : Addr) (hS : SS Z wMAX_LOCK_DELAY wGRANTED wQUEUED wBUSY wZERO) (p1 : Int32) (p2 : Int32) (q3 : Int64) (q4 : Int64) (q5 : Int64) (q6 : Int64) (p7 : Int32) (p8 : Int32) (p9 : Int32) (p10 : Int32) (a11 : Addr) (a12 : Addr) (a13 : Addr) (a14 : Addr) (a15 : Addr) (q16 : Int64) (a17 : Addr) (k18 : ClassId)
    (X0 : Stand p l e room_1 s m margs below meth c T0 locs 5 29) (hx : p.tables.exec = Jvm.exec) (hZ : Z.Warmed39 s.vm) (hby : c.code = code) (hml : c.maxLocals = 22) (hown : s.vm.findClass s6n = some m.cls) (hnm : meth.name = "law") (hret0 : meth.sig.returnType = some .boolean) (hlk0 : meth.locks = false) (e0 : T0.heap = h0) (N0 : Fr n0 locs) (O0 : Old Z n0 h0) (P0 : Exa Z h0 a11 s4n) (P1 : Fld Z h0 a11 s4n "generation" "J" (.long 0)) (P2 : Fld Z h0 a11 s4n "heldBack" "Z" (.int 0)) (P3 : Fld Z h0 a11 s4n "holder" s5n .null) (P4 : Fld Z h0 a11 s4n s10n s0n (.ref wZERO)) (P5 : Fld Z h0 a11 s4n "waiters" s11n (.ref a15)) (P6 : Exa Z h0 a13 s3n) (P8 : Fld Z h0 a13 s3n "session" "J" (.long q3)) (P9 : Exa Z h0 a14 s3n) (P11 : Fld Z h0 a14 s3n "session" "J" (.long q16)) (P12 : Exa Z h0 a15 s7n) (P13 : Fld Z h0 a15 s7n "elements" s8n (.ref a17)) (P14 : Fld Z h0 a15 s7n "head" "I" (.int 0)) (P15 : Fld Z h0 a15 s7n "tail" "I" (.int 0)) (P16 : Arv Z h0 a17 k18 (.object s9n) (17 : Int32) ([.null, .null, .null, .null, .null, .null, .null, .null, .null, .null, .null, .null, .null, .null, .null, .null, .null]) .null) (P17 : Ovr Z k18 s9n) (P18 : Exa Z h0 a17 s8n) (P24 : q16 ≠ q3) (P25 : n0 ≤ a11) (P28 : n0 ≤ a15) (P29 : n0 ≤ a17) (P31 : a11 ≠ a13) (P32 : a11 ≠ a14) (P33 : a11 ≠ a15) (P34 : a11 ≠ a17) (P44 : a15 ≠ a17) :
    ∃ s₂ o, Steps p.tables e below (T0.setTop (mkF m 189 #[(vi p1), (vi p2), (vl q3), .second, (vl q4), .second, (vl q5), .second, (vl q6), .second, (vi p7), (vi p8), (vi p9), (vi p10), (vr a11), (vr a12), (vr a13), (vr a14), .unset, .unset, .unset, .unset] [])) s₂ ∧ s₂.status = .running ∧ Ended s₂ below o ∧ ∃ v L, o = .returned v ∧ (v = some (.int 1) ∧ Fr n0 L) ∧ FrameEnd s o s₂ L room_1.cells room_1.slots := by
  have pre0 : ∀ t, Steps p.tables e below (T0.setTop (mkF m 189 #[(vi p1), (vi p2), (vl q3), .second, (vl q4), .second, (vl q5), .second, (vl q6), .second, (vi p7), (vi p8), (vi p9), (vi p10), (vr a11), (vr a12), (vr a13), (vr a14), .unset, .unset, .unset, .unset] [])) t → Steps p.tables e below (T0.setTop (mkF m 189 #[(vi p1), (vi p2), (vl q3), .second, (vl q4), .second, (vl q5), .second, (vl q6), .second, (vi p7), (vi p8), (vi p9), (vi p10), (vr a11), (vr a12), (vr a13), (vr a14), .unset, .unset, .unset, .unset] [])) t := fun t k => k
  have hS0 := hS
  obtain ⟨S_wMAX_LOCK_DELAY, E_wMAX_LOCK_DELAY, S_wGRANTED, E_wGRANTED, S_wQUEUED, E_wQUEUED, S_wBUSY, E_wBUSY, F_seconds_wMAX_LOCK_DELAY, F_nanos_wMAX_LOCK_DELAY, S_wZERO, E_wZERO, F_seconds_wZERO, F_nanos_wZERO⟩ := hS0
  obtain ⟨cq1, kq1, q1a, q1b, q1c⟩ := isOf hZ e0 P0
  obtain ⟨_, _, ⟨T1, L1, k1, n1⟩, -, X1, ⟨Lc1, hQ1, l1, y1, z1⟩, st1⟩ := X0.virtualBack hx (y := M8) (z := M8) hown (mvT hZ (ow hw 58 rfl)) (mvT hZ (ow hw 59 rfl)) (notFace_of_selects (args := #[]) (mvT hZ (ow hw 61 rfl))) (mvT hZ (ow hw 61 rfl)) (mvT hZ (ow hw 60 rfl)) (by decide) (backOf (W := 0) (au8_0 l Z a0 hw [] wMAX_LOCK_DELAY wGRANTED wQUEUED wBUSY wZERO hS a11 a13 a12 p10 (0 : Int64) a15 h0 n0 O0 P0 P1 P2 P3 P4 P5 P6 P25) hZ (ow hw 62 rfl) (ow hw 2 rfl) (by decide) (by decide)) q1a q1c (g := (mkF m 197 #[(vi p1), (vi p2), (vl q3), .second, (vl q4), .second, (vl q5), .second, (vl q6), .second, (vi p7), (vi p8), (vi p9), (vi p10), (vr a11), (vr a12), (vr a13), (vr a14), .unset, .unset, .unset, .unset] [(.int p10), (.ref a12), (.ref a13), (.ref a11)])) rfl (by rw [hml]; rfl) (Steps.refl _) (argsL := [(.ref a13), (.ref a12), (.int p10)]) (rest := []) (lenOf pd_6 rfl) rfl (by show 2 * 0 + _ ≤ _; exact Nat.le_of_eq rfl) (hb hby at_197) (fun _ _ => ⟨rfl, e0, (by decide : 5 + 0 ≤ _), (by decide : 29 + 0 ≤ _)⟩)
  dsimp only [Pt.U, Pt.locs, Pt.cells, Pt.slots] at X1 l1 y1 z1 st1 hQ1
  subst l1 y1 z1
  obtain ⟨rfl, Nq1, K1q, p1_0, p1_1, p1_2, p1_3, p1_4, p1_5⟩ := hQ1
  have N1 := Fr.app N0 Nq1
  have O2 : Old Z n0 T1.heap := O0.keep K1q (allS P25 all0)
  have p1_1f : Fld Z T1.heap a11 s4n "generation" "J" (.long 1) := by have q := p1_1; rw [(by decide : ((0 : Int64) + (1 : Int64)) = (1 : Int64))] at q; exact q
  have f3 : Exa Z T1.heap a14 s3n := (P9.keep K1q)
  have f4 : Fld Z T1.heap a14 s3n "session" "J" (.long q16) := (P11.keep K1q (ninS (Ne.symm P32) nin0))
  have f5 : Exa Z T1.heap a13 s3n := (P6.keep K1q)
  have f6 : Fld Z T1.heap a13 s3n "session" "J" (.long q3) := (P8.keep K1q (ninS (Ne.symm P31) nin0))
  have f7 : Exa Z T1.heap a15 s7n := (P12.keep K1q)
  have f8 : Fld Z T1.heap a15 s7n "elements" s8n (.ref a17) := (P13.keep K1q (ninS (Ne.symm P33) nin0))
  have f9 : Fld Z T1.heap a15 s7n "head" "I" (.int 0) := (P14.keep K1q (ninS (Ne.symm P33) nin0))
  have f10 : Fld Z T1.heap a15 s7n "tail" "I" (.int 0) := (P15.keep K1q (ninS (Ne.symm P33) nin0))
  have f11 : Arv Z T1.heap a17 k18 (.object s9n) (17 : Int32) ([.null, .null, .null, .null, .null, .null, .null, .null, .null, .null, .null, .null, .null, .null, .null, .null, .null]) .null := (P16.keep K1q (ninS (Ne.symm P34) nin0))
  have f12 : Exa Z T1.heap a17 s8n := (P18.keep K1q)
  obtain ⟨cq13, kq13, q13a, q13b, q13c⟩ := isOf hZ rfl p1_0
  obtain ⟨_, _, ⟨T13, L13, k13, n13⟩, -, X13, ⟨Lc13, hQ13, l13, y13, z13⟩, st13⟩ := X1.virtualBack hx (y := M8) (z := M8) hown (mvT hZ (ow hw 58 rfl)) (mvT hZ (ow hw 59 rfl)) (notFace_of_selects (args := #[]) (mvT hZ (ow hw 61 rfl))) (mvT hZ (ow hw 61 rfl)) (mvT hZ (ow hw 60 rfl)) (by decide) (backOf (W := 0) (au8_2 l Z a0 hw [] wMAX_LOCK_DELAY wGRANTED wQUEUED wBUSY wZERO hS a11 a14 a12 a13 a15 q16 q3 a17 k18 T1.heap n0 O2 p1_0 p1_3 p1_5 f3 f4 f5 f6 f7 f8 f9 f10 f11 P17 f12 P24 P28 P29 P44) hZ (ow hw 62 rfl) (ow hw 2 rfl) (by decide) (by decide)) q13a q13c (g := (mkF m 208 #[(vi p1), (vi p2), (vl q3), .second, (vl q4), .second, (vl q5), .second, (vl q6), .second, (vi p7), (vi p8), (vi p9), (vi p10), (vr a11), (vr a12), (vr a13), (vr a14), .unset, .unset, .unset, .unset] [(.int 1), (.ref a12), (.ref a14), (.ref a11)])) rfl (by rw [hml]; rfl) (Steps.refl _) (argsL := [(.ref a14), (.ref a12), (.int 1)]) (rest := []) (lenOf pd_6 rfl) rfl (by show 2 * 0 + _ ≤ _; exact Nat.le_of_eq rfl) (hb hby at_208) (fun _ _ => ⟨rfl, rfl, (by decide : 5 + 2 ≤ _), (by decide : 29 + 6 ≤ _)⟩)
  dsimp only [Pt.U, Pt.locs, Pt.cells, Pt.slots] at X13 l13 y13 z13 st13 hQ13
  subst l13 y13 z13
  obtain ⟨e1_13, rfl, Nq13, K13q, p13_0, p13_1, p13_2, p13_3, p13_4, p13_5, p13_6, p13_7, p13_8, p13_9, p13_10⟩ := hQ13
  have N13 := Fr.app N1 Nq13
  have ne14 : a11 ≠ e1_13 := Nat.ne_of_lt (Nat.lt_of_lt_of_le p1_0.lt p13_7)
  have ne15 : a13 ≠ e1_13 := Nat.ne_of_lt (Nat.lt_of_lt_of_le f5.lt p13_7)
  have ne16 : a14 ≠ e1_13 := Nat.ne_of_lt (Nat.lt_of_lt_of_le f3.lt p13_7)
  have ne17 : a15 ≠ e1_13 := Nat.ne_of_lt (Nat.lt_of_lt_of_le f7.lt p13_7)
  have ne18 : a17 ≠ e1_13 := Nat.ne_of_lt (Nat.lt_of_lt_of_le f11.lt p13_7)
  have g19 : n0 ≤ e1_13 := Nat.le_trans (own_sz O2) p13_7
  have O20 : Old Z n0 T13.heap := O2.keep K13q (allS P29 (allS P28 all0))
  have f21 : Exa Z T13.heap a11 s4n := (p1_0.keep K13q)
  have f22 : Fld Z T13.heap a11 s4n "generation" "J" (.long 1) := (p1_1f.keep K13q (ninS P34 (ninS P33 nin0)))
  have f23 : Fld Z T13.heap a11 s4n "heldBack" "Z" (.int 0) := (p1_2.keep K13q (ninS P34 (ninS P33 nin0)))
  have f24 : Fld Z T13.heap a11 s4n "holder" s5n (.ref a13) := (p1_3.keep K13q (ninS P34 (ninS P33 nin0)))
  have f25 : Fld Z T13.heap a11 s4n s10n s0n (.ref a12) := (p1_4.keep K13q (ninS P34 (ninS P33 nin0)))
  have f26 : Fld Z T13.heap a11 s4n "waiters" s11n (.ref a15) := (p1_5.keep K13q (ninS P34 (ninS P33 nin0)))
  obtain ⟨cq27, kq27, q27a, q27b, q27c⟩ := isOf hZ rfl f21
  obtain ⟨_, _, ⟨T27, L27, k27, n27⟩, -, X27, ⟨Lc27, hQ27, l27, y27, z27⟩, st27⟩ := X13.virtualBack hx (y := M14) (z := M14) hown (mvT hZ (ow hw 79 rfl)) (mvT hZ (ow hw 80 rfl)) (notFace_of_selects (args := #[]) (mvT hZ (ow hw 82 rfl))) (mvT hZ (ow hw 82 rfl)) (mvT hZ (ow hw 81 rfl)) (by decide) (backOf (W := 0) (au11_1 l Z a0 hw [] wMAX_LOCK_DELAY wGRANTED wQUEUED wBUSY wZERO hS a11 (1 : Int64) a13 a12 a15 a17 k18 e1_13 a14 T13.heap n0 O20 f21 f22 f23 f24 f25 f26 p13_3 p13_4 p13_5 p13_6 p13_1 p13_2 p13_0 p13_8 p13_9 p13_10 P25 P28 P29 P33 P34 ne14 P44 ne17 ne18) hZ (ow hw 83 rfl) (ow hw 2 rfl) (by decide) (by decide)) q27a q27c (g := (mkF m 214 #[(vi p1), (vi p2), (vl q3), .second, (vl q4), .second, (vl q5), .second, (vl q6), .second, (vi p7), (vi p8), (vi p9), (vi p10), (vr a11), (vr a12), (vr a13), (vr a14), .unset, .unset, .unset, .unset] [(.ref a11)])) rfl (by rw [hml]; rfl) (Steps.refl _) (argsL := []) (rest := []) (lenOf pd_9 rfl) rfl (by show 2 * 0 + _ ≤ _; exact Nat.le_of_eq rfl) (hb hby at_214) (fun _ _ => ⟨rfl, rfl, (by decide : 7 + 0 ≤ _), (by decide : 35 + 0 ≤ _)⟩)
  dsimp only [Pt.U, Pt.locs, Pt.cells, Pt.slots] at X27 l27 y27 z27 st27 hQ27
  subst l27 y27 z27
  obtain ⟨rfl, Nq27, K27q, p27_0, p27_1, p27_2, p27_3, p27_4, p27_5, p27_6, p27_7, p27_8, p27_9, p27_10, p27_11, p27_12⟩ := hQ27
  have N27 := Fr.app N13 Nq27
  have O28 : Old Z n0 T27.heap := O20.keep K27q (allS P25 (allS P29 (allS P28 all0)))
  have p27_1f : Fld Z T27.heap a11 s4n "generation" "J" (.long 2) := by have q := p27_1; rw [(by decide : ((1 : Int64) + (1 : Int64)) = (2 : Int64))] at q; exact q
  have pre29 : ∀ t, Steps p.tables e below (T27.setTop (mkF m 445 #[(vi p1), (vi p2), (vl q3), .second, (vl q4), .second, (vl q5), .second, (vl q6), .second, (vi p7), (vi p8), (vi p9), (vi p10), (vr a11), (vr a12), (vr a13), (vr a14), (vi 1), (vl 2), .second, .unset] [(.int (lcmpW q6 (2 : Int64)))])) t → Steps p.tables e below (T0.setTop (mkF m 189 #[(vi p1), (vi p2), (vl q3), .second, (vl q4), .second, (vl q5), .second, (vl q6), .second, (vi p7), (vi p8), (vi p9), (vi p10), (vr a11), (vr a12), (vr a13), (vr a14), .unset, .unset, .unset, .unset] [])) t := by
    intro t k
    refine pre0 t ?_
    show Steps p.tables e below (T0.setTop (mkF m 189 #[(vi p1), (vi p2), (vl q3), .second, (vl q4), .second, (vl q5), .second, (vl q6), .second, (vi p7), (vi p8), (vi p9), (vi p10), (vr a11), (vr a12), (vr a13), (vr a14), .unset, .unset, .unset, .unset] [])) _
    refine XS.aload X0.here hx rfl (hb hby at_189) rfl rfl ?_
    refine XS.aload X0.here hx rfl (hb hby at_191) rfl rfl ?_
    refine XS.aload X0.here hx rfl (hb hby at_193) rfl rfl ?_
    refine XS.iload X0.here hx rfl (hb hby at_195) rfl ?_
    refine st1.trans ?_
    show Steps p.tables e below (T1.setTop (mkF m 200 #[(vi p1), (vi p2), (vl q3), .second, (vl q4), .second, (vl q5), .second, (vl q6), .second, (vi p7), (vi p8), (vi p9), (vi p10), (vr a11), (vr a12), (vr a13), (vr a14), .unset, .unset, .unset, .unset] [(.ref wGRANTED)])) _
    refine XS.pop X1.here hx rfl (hb hby at_200) rfl rfl ?_
    refine XS.aload X1.here hx rfl (hb hby at_201) rfl rfl ?_
    refine XS.aload X1.here hx rfl (hb hby at_203) rfl rfl ?_
    refine XS.aload X1.here hx rfl (hb hby at_205) rfl rfl ?_
    refine XS.iconst X1.here hx rfl (hb hby at_207) ?_
    show Steps p.tables e below (T1.setTop (mkF m 208 #[(vi p1), (vi p2), (vl q3), .second, (vl q4), .second, (vl q5), .second, (vl q6), .second, (vi p7), (vi p8), (vi p9), (vi p10), (vr a11), (vr a12), (vr a13), (vr a14), .unset, .unset, .unset, .unset] [(.int 1), (.ref a12), (.ref a14), (.ref a11)])) _
    refine st13.trans ?_
    refine XS.pop X13.here hx rfl (hb hby at_211) rfl rfl ?_
    refine XS.aload X13.here hx rfl (hb hby at_212) rfl rfl ?_
    refine st27.trans ?_
    refine XS.pop X27.here hx rfl (hb hby at_217) rfl rfl ?_
    show Steps p.tables e below (T27.setTop (mkF m 218 #[(vi p1), (vi p2), (vl q3), .second, (vl q4), .second, (vl q5), .second, (vl q6), .second, (vi p7), (vi p8), (vi p9), (vi p10), (vr a11), (vr a12), (vr a13), (vr a14), .unset, .unset, .unset, .unset] [])) _
    refine XS.iconst X27.here hx rfl (hb hby at_218) ?_
    refine XS.istore X27.here hx rfl (hb hby at_219) rfl (l' := #[(vi p1), (vi p2), (vl q3), .second, (vl q4), .second, (vl q5), .second, (vl q6), .second, (vi p7), (vi p8), (vi p9), (vi p10), (vr a11), (vr a12), (vr a13), (vr a14), (vi 1), .unset, .unset, .unset]) rfl ?_
    refine X27.ldc2Long hx hown (mvT hZ (ow hw 190 rfl)) (g := (mkF m 221 #[(vi p1), (vi p2), (vl q3), .second, (vl q4), .second, (vl q5), .second, (vl q6), .second, (vi p7), (vi p8), (vi p9), (vi p10), (vr a11), (vr a12), (vr a13), (vr a14), (vi 1), .unset, .unset, .unset] [])) rfl (hb hby at_221) _ ?_
    refine XS.lstore X27.here hx rfl (hb hby at_224) rfl (l' := #[(vi p1), (vi p2), (vl q3), .second, (vl q4), .second, (vl q5), .second, (vl q6), .second, (vi p7), (vi p8), (vi p9), (vi p10), (vr a11), (vr a12), (vr a13), (vr a14), (vi 1), (vl 2), .second, .unset]) rfl ?_
    refine XS.goto X27.here hx rfl (pc0 := 226) (pc' := 435) rfl (hb hby at_226) (by decide) (by decide) ?_
    show Steps p.tables e below (T27.setTop (mkF m 435 #[(vi p1), (vi p2), (vl q3), .second, (vl q4), .second, (vl q5), .second, (vl q6), .second, (vi p7), (vi p8), (vi p9), (vi p10), (vr a11), (vr a12), (vr a13), (vr a14), (vi 1), (vl 2), .second, .unset] [])) _
    refine XS.iload X27.here hx rfl (hb hby at_435) rfl ?_
    refine XS.ifNo X27.here hx rfl (hb hby at_437) rfl ((if0 _ _).trans (feq (by decide : ¬ ((1 : Int32) = (0 : Int32)))).1) ?_
    refine XS.lload X27.here hx rfl (hb hby at_440) rfl ?_
    refine XS.lload X27.here hx rfl (hb hby at_442) rfl ?_
    refine XS.lcmp X27.here hx rfl (hb hby at_444) rfl ?_
    exact k
  obtain ⟨exp, hexp⟩ : ∃ z : Int32, z = (if (lcmpW q6 (2 : Int64)) = (0 : Int32) then (1 : Int32) else (0 : Int32)) := ⟨_, rfl⟩
  have pre31 : ∀ t, Steps p.tables e below (T27.setTop (mkF m 453 #[(vi p1), (vi p2), (vl q3), .second, (vl q4), .second, (vl q5), .second, (vl q6), .second, (vi p7), (vi p8), (vi p9), (vi p10), (vr a11), (vr a12), (vr a13), (vr a14), (vi 1), (vl 2), .second, .unset] [(.int exp)])) t → Steps p.tables e below (T0.setTop (mkF m 189 #[(vi p1), (vi p2), (vl q3), .second, (vl q4), .second, (vl q5), .second, (vl q6), .second, (vi p7), (vi p8), (vi p9), (vi p10), (vr a11), (vr a12), (vr a13), (vr a14), .unset, .unset, .unset, .unset] [])) t := by
    intro t k
    rw [hexp] at k
    refine pre29 t ?_
    show Steps p.tables e below (T27.setTop (mkF m 445 #[(vi p1), (vi p2), (vl q3), .second, (vl q4), .second, (vl q5), .second, (vl q6), .second, (vi p7), (vi p8), (vi p9), (vi p10), (vr a11), (vr a12), (vr a13), (vr a14), (vi 1), (vl 2), .second, .unset] [(.int (lcmpW q6 (2 : Int64)))])) _
    rcases Decidable.em ((lcmpW q6 (2 : Int64)) = (0 : Int32)) with hm30 | hm30
    · first | simp only [if_pos hm30] at k | skip
      refine XS.ifNo X27.here hx rfl (hb hby at_445) rfl ((if0 _ _).trans (teq hm30).2) ?_
      refine XS.iconst X27.here hx rfl (hb hby at_448) ?_
      refine XS.goto X27.here hx rfl (pc0 := 449) (pc' := 453) rfl (hb hby at_449) (by decide) (by decide) ?_
      exact k
    · first | simp only [if_neg hm30] at k | skip
      refine XS.ifYes X27.here hx rfl (pc0 := 445) (pc' := 452) rfl (hb hby at_445) rfl ((if0 _ _).trans (feq hm30).2) (by decide) (by decide) ?_
      refine XS.iconst X27.here hx rfl (hb hby at_452) ?_
      exact k
  obtain ⟨cq32, kq32, q32a, q32b, q32c⟩ := isOf hZ rfl p27_0
  obtain ⟨_, _, ⟨T32, L32, k32, n32⟩, -, X32, ⟨Lc32, hQ32, l32, y32, z32⟩, st32⟩ := X27.virtualBack hx (y := M1) (z := M1) hown (mvT hZ (ow hw 46 rfl)) (mvT hZ (ow hw 47 rfl)) (notFace_of_selects (args := #[]) (mvT hZ (ow hw 49 rfl))) (mvT hZ (ow hw 49 rfl)) (mvT hZ (ow hw 48 rfl)) (by decide) (backOf (W := 0) (rmHeld l Z a0 hw [] wMAX_LOCK_DELAY wGRANTED wQUEUED wBUSY wZERO hS a11 a14 (2 : Int64) q6 T27.heap n0 O28 p27_3 p27_1f) hZ (ow hw 50 rfl) (ow hw 2 rfl) (by decide) (by decide)) q32a q32c (g := (mkF m 459 #[(vi p1), (vi p2), (vl q3), .second, (vl q4), .second, (vl q5), .second, (vl q6), .second, (vi p7), (vi p8), (vi p9), (vi p10), (vr a11), (vr a12), (vr a13), (vr a14), (vi 1), (vl 2), .second, (vi exp)] [(.long q6), (.ref a11)])) rfl (by rw [hml]; rfl) (Steps.refl _) (argsL := [(.long q6)]) (rest := []) (lenOf pd_3 rfl) rfl (by show 2 * 0 + _ ≤ _; exact Nat.le_of_eq rfl) (hb hby at_459) (fun _ _ => ⟨rfl, rfl, (by decide : 7 + 0 ≤ _), (by decide : 35 + 0 ≤ _)⟩)
  dsimp only [Pt.U, Pt.locs, Pt.cells, Pt.slots] at X32 l32 y32 z32 st32 hQ32
  subst l32 y32 z32
  obtain ⟨r_32, rfl, Nq32, K32q, p32_0⟩ := hQ32
  have N32 := Fr.app N27 Nq32
  obtain ⟨fs, hr, hrun, hended, hW, hsame⟩ := X32.leave (v := some (.int 1)) (fun h => by rw [hret0] at h; cases h)
  refine ⟨_, _, pre31 _ ?_, hrun, hended, _, _, rfl, ?_, ⟨_, rfl⟩, hW, hsame.mono (by decide) (by decide)⟩
  · skip
    show Steps p.tables e below (T27.setTop (mkF m 453 #[(vi p1), (vi p2), (vl q3), .second, (vl q4), .second, (vl q5), .second, (vl q6), .second, (vi p7), (vi p8), (vi p9), (vi p10), (vr a11), (vr a12), (vr a13), (vr a14), (vi 1), (vl 2), .second, .unset] [(.int exp)])) _
    refine XS.istore X27.here hx rfl (hb hby at_453) rfl (l' := #[(vi p1), (vi p2), (vl q3), .second, (vl q4), .second, (vl q5), .second, (vl q6), .second, (vi p7), (vi p8), (vi p9), (vi p10), (vr a11), (vr a12), (vr a13), (vr a14), (vi 1), (vl 2), .second, (vi exp)]) rfl ?_
    refine XS.aload X27.here hx rfl (hb hby at_455) rfl rfl ?_
    refine XS.lload X27.here hx rfl (hb hby at_457) rfl ?_
    refine st32.trans ?_
    refine XS.iload X32.here hx rfl (hb hby at_462) rfl ?_
    show Steps p.tables e below (T32.setTop (mkF m 464 #[(vi p1), (vi p2), (vl q3), .second, (vl q4), .second, (vl q5), .second, (vl q6), .second, (vi p7), (vi p8), (vi p9), (vi p10), (vr a11), (vr a12), (vr a13), (vr a14), (vi 1), (vl 2), .second, (vi exp)] [(.int exp), (.int r_32)])) _
    refine XS.icmpNo X32.here hx rfl (hb hby at_464) rfl (teq (p32_0.trans ((own_sym _ _).trans hexp.symm) : r_32 = exp)).2 ?_
    refine XS.iconst X32.here hx rfl (hb hby at_467) ?_
    refine XS.goto X32.here hx rfl (pc0 := 468) (pc' := 472) rfl (hb hby at_468) (by decide) (by decide) ?_
    exact retN X32 hx (t := .boolean) hret0 (by simp) (hb hby at_472) hr
  · skip
    exact ⟨rfl, N32⟩
theorem ef_au26_0 (m : MethodId) (x0 : Addr) (x1 : Int64) (x2 : Int32)  : entryFrame m #[(.ref x0), (.long x1), (.int x2)] 6 = mkF m 0 #[(vr x0), (vl x1), .second, (vi x2), .unset, .unset] [] := by first | (simp [entryFrame, mkF, argsToLocals, Value.category]; done) | rfl
theorem d26_0 : decode prog_84_method_14_code 0 = .ok (.aload_n 0, 1) := by decide +kernel
theorem d26_1 : decode prog_84_method_14_code 1 = .ok (.getfield 10, 3) := by decide +kernel
theorem d26_4 : decode prog_84_method_14_code 4 = .ok (.invokeinterface 81 1, 5) := by decide +kernel
theorem d26_9 : decode prog_84_method_14_code 9 = .ok (.astore 4, 2) := by decide +kernel
theorem d26_11 : decode prog_84_method_14_code 11 = .ok (.aload 4, 2) := by decide +kernel
theorem d26_13 : decode prog_84_method_14_code 13 = .ok (.invokeinterface 85 1, 5) := by decide +kernel
theorem d26_18 : decode prog_84_method_14_code 18 = .ok (.ifCond .eq 34, 3) := by decide +kernel
theorem d26_52 : decode prog_84_method_14_code 52 = .ok (.aconst_null, 1) := by decide +kernel
theorem d26_53 : decode prog_84_method_14_code 53 = .ok (.astore 5, 2) := by decide +kernel
theorem d26_55 : decode prog_84_method_14_code 55 = .ok (.aload_n 0, 1) := by decide +kernel
theorem d26_56 : decode prog_84_method_14_code 56 = .ok (.lload_n 1, 1) := by decide +kernel
theorem d26_57 : decode prog_84_method_14_code 57 = .ok (.invokevirtual 108, 3) := by decide +kernel
theorem ef_au30_0 (m : MethodId) (x0 : Addr) (x1 : Int64)  : entryFrame m #[(.ref x0), (.long x1)] 3 = mkF m 0 #[(vr x0), (vl x1), .second] [] := by first | (simp [entryFrame, mkF, argsToLocals, Value.category]; done) | rfl
theorem d30_0 : decode prog_84_method_7_code 0 = .ok (.aload_n 0, 1) := by decide +kernel
theorem d30_1 : decode prog_84_method_7_code 1 = .ok (.getfield 29, 3) := by decide +kernel
theorem d30_4 : decode prog_84_method_7_code 4 = .ok (.ifnull 19, 3) := by decide +kernel
theorem d30_7 : decode prog_84_method_7_code 7 = .ok (.aload_n 0, 1) := by decide +kernel
theorem d30_8 : decode prog_84_method_7_code 8 = .ok (.getfield 29, 3) := by decide +kernel
theorem d30_11 : decode prog_84_method_7_code 11 = .ok (.invokevirtual 101, 3) := by decide +kernel
theorem ef_au29_0 (m : MethodId) (x0 : Addr)  : entryFrame m #[(.ref x0)] 1 = mkF m 0 #[(vr x0)] [] := by first | (simp [entryFrame, mkF, argsToLocals, Value.category]; done) | rfl
theorem d29_0 : decode prog_89_method_2_code 0 = .ok (.aload_n 0, 1) := by decide +kernel
theorem d29_1 : decode prog_89_method_2_code 1 = .ok (.getfield 7, 3) := by decide +kernel
theorem d29_4 : decode prog_89_method_2_code 4 = .ok (.lreturn, 1) := by decide +kernel
def Q_au29_0 (Z : State) (wMAX_LOCK_DELAY : Addr) (wGRANTED : Addr) (wQUEUED : Addr) (wBUSY : Addr) (wZERO : Addr) (a1 : Addr) (q3 : Int64) (h0 : Heap) (n0 : Nat) (v : Option Value) (h : Heap) (L : List Loc) : Prop := v = some (.long q3) ∧ Fr n0 L ∧ h = h0
theorem au29_0 (l : Launch) (Z : State) (a0 : Array Value) (hw : ∀ d ∈ tables_1, d.before a0 Z = true) (ws : List Jvm.Cond) (wMAX_LOCK_DELAY : Addr) (wGRANTED : Addr) (wQUEUED : Addr) (wBUSY : Addr) (wZERO : Addr) (hS : SS Z wMAX_LOCK_DELAY wGRANTED wQUEUED wBUSY wZERO) (a1 : Addr) (q3 : Int64) (h0 : Heap) (n0 : Nat) (O0 : Old Z n0 h0) (P2 : Fld Z h0 a1 s3n "session" "J" (.long q3)) :
    MetB l M28 prog_89_method_2_code 1 (some .long) ws (rmk 0 0 0 0) Z h0 #[(.ref a1)] (Q_au29_0 Z wMAX_LOCK_DELAY wGRANTED wQUEUED wBUSY wZERO a1 q3 h0 n0) := by
  refine own_body (plainFor_of_name pn_com_example_umpired_umpired_server_SessionHandle) ?_
  intro p e s m below meth c s₁ hx hby hml hown hnm hret0 hlk0 hZ X0 e0
  have N0 := Fr.nil n0
  have pre0 : ∀ t, Steps p.tables e below (s₁.setTop (mkF m 0 #[(vr a1)] [])) t → Steps p.tables e below (s₁.setTop (entryFrame m #[(.ref a1)] 1)) t := fun t k => castTop (ef_au29_0 m a1) k
  have hS0 := hS
  obtain ⟨S_wMAX_LOCK_DELAY, E_wMAX_LOCK_DELAY, S_wGRANTED, E_wGRANTED, S_wQUEUED, E_wQUEUED, S_wBUSY, E_wBUSY, F_seconds_wMAX_LOCK_DELAY, F_nanos_wMAX_LOCK_DELAY, S_wZERO, E_wZERO, F_seconds_wZERO, F_nanos_wZERO⟩ := hS0
  obtain ⟨T1, X1, e1, st1⟩ := getF X0 hx hZ hown (host := "") (Or.inl (ow hw 42 rfl)) Via.refl e0 P2 (g := (mkF m 1 #[(vr a1)] [(.ref a1)])) rfl rfl (hb hby d29_1)
  obtain ⟨fs, hr, hrun, hended, hW, hsame⟩ := X1.leave (v := some (.long q3)) (fun h => by rw [hret0] at h; cases h)
  refine ⟨_, _, pre0 _ ?_, hrun, hended, _, _, rfl, ?_, ⟨_, rfl⟩, hW, hsame.mono (by decide) (by decide)⟩
  · skip
    show Steps p.tables e below (s₁.setTop (mkF m 0 #[(vr a1)] [])) _
    refine XS.aloadN X0.here hx rfl (hb hby d29_0) rfl rfl ?_
    refine st1 _ ?_
    jvm_step X1.here [X1.here.top, hx, (hb hby d29_4), X1.method', hret0, narrow]
    first | (intro acts; rw [hr _ acts rfl rfl rfl]) | rw [hr _ _ rfl rfl rfl]
    exact Steps.refl _
  · show Q_au29_0 Z wMAX_LOCK_DELAY wGRANTED wQUEUED wBUSY wZERO a1 q3 h0 n0 _ T1.heap _
    rw [e1]
    exact ⟨rfl, N0, rfl⟩
theorem pd_18 : parseMethodDescriptor "()J" = some ⟨[], some .long⟩ := by decide +kernel
theorem d30_14 : decode prog_84_method_7_code 14 = .ok (.lload_n 1, 1) := by decide +kernel
theorem d30_15 : decode prog_84_method_7_code 15 = .ok (.lcmp, 1) := by decide +kernel
theorem d30_16 : decode prog_84_method_7_code 16 = .ok (.ifCond .ne 7, 3) := by decide +kernel
theorem d30_19 : decode prog_84_method_7_code 19 = .ok (.iconst 1, 1) := by decide +kernel
theorem d30_20 : decode prog_84_method_7_code 20 = .ok (.goto 4, 3) := by decide +kernel
theorem d30_24 : decode prog_84_method_7_code 24 = .ok (.ireturn, 1) := by decide +kernel
def Q_au30_0 (Z : State) (wMAX_LOCK_DELAY : Addr) (wGRANTED : Addr) (wQUEUED : Addr) (wBUSY : Addr) (wZERO : Addr) (a1 : Addr) (q2 : Int64) (a4 : Addr) (h0 : Heap) (n0 : Nat) (v : Option Value) (h : Heap) (L : List Loc) : Prop := v = some (.int 1) ∧ Fr n0 L ∧ h = h0
theorem au30_0 (l : Launch) (Z : State) (a0 : Array Value) (hw : ∀ d ∈ tables_1, d.before a0 Z = true) (ws : List Jvm.Cond) (wMAX_LOCK_DELAY : Addr) (wGRANTED : Addr) (wQUEUED : Addr) (wBUSY : Addr) (wZERO : Addr) (hS : SS Z wMAX_LOCK_DELAY wGRANTED wQUEUED wBUSY wZERO) (a1 : Addr) (q2 : Int64) (a4 : Addr) (h0 : Heap) (n0 : Nat) (O0 : Old Z n0 h0) (P3 : Fld Z h0 a1 s4n "holder" s5n (.ref a4)) (P6 : Exa Z h0 a4 s3n) (P8 : Fld Z h0 a4 s3n "session" "J" (.long q2)) :
    MetB l M29 prog_84_method_7_code 3 (some .boolean) ws (rmk 1 0 0 12) Z h0 #[(.ref a1), (.long q2)] (Q_au30_0 Z wMAX_LOCK_DELAY wGRANTED wQUEUED wBUSY wZERO a1 q2 a4 h0 n0) := by
  refine own_body (plainFor_of_name pn_com_example_umpired_umpired_server_NodeLock) ?_
  intro p e s m below meth c s₁ hx hby hml hown hnm hret0 hlk0 hZ X0 e0
  have N0 := Fr.nil n0
  have pre0 : ∀ t, Steps p.tables e below (s₁.setTop (mkF m 0 #[(vr a1), (vl q2), .second] [])) t → Steps p.tables e below (s₁.setTop (entryFrame m #[(.ref a1), (.long q2)] 3)) t := fun t k => castTop (ef_au30_0 m a1 q2) k
  have hS0 := hS
  obtain ⟨S_wMAX_LOCK_DELAY, E_wMAX_LOCK_DELAY, S_wGRANTED, E_wGRANTED, S_wQUEUED, E_wQUEUED, S_wBUSY, E_wBUSY, F_seconds_wMAX_LOCK_DELAY, F_nanos_wMAX_LOCK_DELAY, S_wZERO, E_wZERO, F_seconds_wZERO, F_nanos_wZERO⟩ := hS0
  obtain ⟨T1, X1, e1, st1⟩ := getF X0 hx hZ hown (host := "") (Or.inl (ow hw 51 rfl)) Via.refl e0 P3 (g := (mkF m 1 #[(vr a1), (vl q2), .second] [(.ref a1)])) rfl rfl (hb hby d30_1)
  obtain ⟨T2, X2, e2, st2⟩ := getF X1 hx hZ hown (host := "") (Or.inl (ow hw 51 rfl)) Via.refl e1 P3 (g := (mkF m 8 #[(vr a1), (vl q2), .second] [(.ref a1)])) rfl rfl (hb hby d30_8)
  obtain ⟨cq3, kq3, q3a, q3b, q3c⟩ := isOf hZ e2 P6
  obtain ⟨_, _, ⟨T3, L3, k3, n3⟩, -, X3, ⟨Lc3, hQ3, l3, y3, z3⟩, st3⟩ := X2.virtualBack hx (y := M28) (z := M28) hown (mvT hZ (ow hw 209 rfl)) (mvT hZ (ow hw 210 rfl)) (notFace_of_selects (args := #[]) (mvT hZ (ow hw 212 rfl))) (mvT hZ (ow hw 212 rfl)) (mvT hZ (ow hw 211 rfl)) (by decide) (backOf (W := 0) (au29_0 l Z a0 hw [] wMAX_LOCK_DELAY wGRANTED wQUEUED wBUSY wZERO hS a4 q2 h0 n0 O0 P8) hZ (ow hw 213 rfl) (ow hw 37 rfl) (by decide) (by decide)) q3a q3c (g := (mkF m 11 #[(vr a1), (vl q2), .second] [(.ref a4)])) rfl (by rw [hml]; rfl) (Steps.refl _) (argsL := []) (rest := []) (lenOf pd_18 rfl) rfl (by show 2 * 0 + _ ≤ _; exact Nat.le_of_eq rfl) (hb hby d30_11) (fun _ _ => ⟨rfl, e2, (by decide : 0 + 0 ≤ _), (by decide : 0 + 0 ≤ _)⟩)
  dsimp only [Pt.U, Pt.locs, Pt.cells, Pt.slots] at X3 l3 y3 z3 st3 hQ3
  subst l3 y3 z3
  obtain ⟨rfl, Nq3, K3q⟩ := hQ3
  have N3 := Fr.app N0 Nq3
  obtain ⟨fs, hr, hrun, hended, hW, hsame⟩ := X3.leave (v := some (.int 1)) (fun h => by rw [hret0] at h; cases h)
  refine ⟨_, _, pre0 _ ?_, hrun, hended, _, _, rfl, ?_, ⟨_, rfl⟩, hW, hsame.mono (by decide) (by decide)⟩
  · skip
    show Steps p.tables e below (s₁.setTop (mkF m 0 #[(vr a1), (vl q2), .second] [])) _
    refine XS.aloadN X0.here hx rfl (hb hby d30_0) rfl rfl ?_
    refine st1 _ ?_
    refine XS.ifnullNo X1.here hx rfl (hb hby d30_4) rfl ?_
    refine XS.aloadN X1.here hx rfl (hb hby d30_7) rfl rfl ?_
    refine st2 _ ?_
    show Steps p.tables e below (T2.setTop (mkF m 11 #[(vr a1), (vl q2), .second] [(.ref a4)])) _
    refine st3.trans ?_
    refine XS.lloadN X3.here hx rfl (hb hby d30_14) rfl ?_
    refine XS.lcmp X3.here hx rfl (hb hby d30_15) rfl ?_
    refine XS.ifNo X3.here hx rfl (hb hby d30_16) rfl ((if0 _ _).trans (teq (own_lc _ : (lcmpW q2 q2) = (0 : Int32))).2) ?_
    refine XS.iconst X3.here hx rfl (hb hby d30_19) ?_
    show Steps p.tables e below (T3.setTop (mkF m 20 #[(vr a1), (vl q2), .second] [(.int 1)])) _
    refine XS.goto X3.here hx rfl (pc0 := 20) (pc' := 24) rfl (hb hby d30_20) (by decide) (by decide) ?_
    exact retN X3 hx (t := .boolean) hret0 (by simp) (hb hby d30_24) hr
  · show Q_au30_0 Z wMAX_LOCK_DELAY wGRANTED wQUEUED wBUSY wZERO a1 q2 a4 h0 n0 _ T3.heap _
    rw [K3q]
    exact ⟨rfl, N3, rfl⟩
theorem d26_60 : decode prog_84_method_14_code 60 = .ok (.ifCond .eq 48, 3) := by decide +kernel
theorem d26_63 : decode prog_84_method_14_code 63 = .ok (.aload_n 0, 1) := by decide +kernel
theorem d26_64 : decode prog_84_method_14_code 64 = .ok (.aconst_null, 1) := by decide +kernel
theorem d26_65 : decode prog_84_method_14_code 65 = .ok (.putfield 29, 3) := by decide +kernel
theorem d26_68 : decode prog_84_method_14_code 68 = .ok (.aload_n 0, 1) := by decide +kernel
theorem d26_69 : decode prog_84_method_14_code 69 = .ok (.iload_n 3, 1) := by decide +kernel
theorem d26_70 : decode prog_84_method_14_code 70 = .ok (.ifCond .eq 17, 3) := by decide +kernel
theorem d26_87 : decode prog_84_method_14_code 87 = .ok (.iconst 0, 1) := by decide +kernel
theorem d26_88 : decode prog_84_method_14_code 88 = .ok (.putfield 45, 3) := by decide +kernel
theorem d26_91 : decode prog_84_method_14_code 91 = .ok (.aload_n 0, 1) := by decide +kernel
theorem d26_92 : decode prog_84_method_14_code 92 = .ok (.getfield 45, 3) := by decide +kernel
theorem d26_95 : decode prog_84_method_14_code 95 = .ok (.ifCond .eq 7, 3) := by decide +kernel
theorem d26_102 : decode prog_84_method_14_code 102 = .ok (.aload_n 0, 1) := by decide +kernel
theorem d26_103 : decode prog_84_method_14_code 103 = .ok (.invokevirtual 112, 3) := by decide +kernel
theorem ef_au12_2 (m : MethodId) (x0 : Addr)  : entryFrame m #[(.ref x0)] 2 = mkF m 0 #[(vr x0), .unset] [] := by first | (simp [entryFrame, mkF, argsToLocals, Value.category]; done) | rfl
def Q_au12_2 (Z : State) (wMAX_LOCK_DELAY : Addr) (wGRANTED : Addr) (wQUEUED : Addr) (wBUSY : Addr) (wZERO : Addr) (a1 : Addr) (a3 : Addr) (a4 : Addr) (k5 : ClassId) (h0 : Heap) (n0 : Nat) (v : Option Value) (h : Heap) (L : List Loc) : Prop := v = some .null ∧ Fr n0 L ∧ h = h0
theorem au12_2 (l : Launch) (Z : State) (a0 : Array Value) (hw : ∀ d ∈ tables_1, d.before a0 Z = true) (ws : List Jvm.Cond) (wMAX_LOCK_DELAY : Addr) (wGRANTED : Addr) (wQUEUED : Addr) (wBUSY : Addr) (wZERO : Addr) (hS : SS Z wMAX_LOCK_DELAY wGRANTED wQUEUED wBUSY wZERO) (a1 : Addr) (a3 : Addr) (a4 : Addr) (k5 : ClassId) (h0 : Heap) (n0 : Nat) (O0 : Old Z n0 h0) (P5 : Fld Z h0 a1 s4n "waiters" s11n (.ref a3)) (P6 : Exa Z h0 a3 s7n) (P7 : Fld Z h0 a3 s7n "elements" s8n (.ref a4)) (P8 : Fld Z h0 a3 s7n "head" "I" (.int 0)) (P10 : Arv Z h0 a4 k5 (.object s9n) (17 : Int32) ([.null, .null, .null, .null, .null, .null, .null, .null, .null, .null, .null, .null, .null, .null, .null, .null, .null]) .null) :
    MetB l M12 prog_84_method_22_code 2 (some (.object s3n)) ws (rmk 3 0 0 40) Z h0 #[(.ref a1)] (Q_au12_2 Z wMAX_LOCK_DELAY wGRANTED wQUEUED wBUSY wZERO a1 a3 a4 k5 h0 n0) := by
  refine own_body (plainFor_of_name pn_com_example_umpired_umpired_server_NodeLock) ?_
  intro p e s m below meth c s₁ hx hby hml hown hnm hret0 hlk0 hZ X0 e0
  have N0 := Fr.nil n0
  have pre0 : ∀ t, Steps p.tables e below (s₁.setTop (mkF m 0 #[(vr a1), .unset] [])) t → Steps p.tables e below (s₁.setTop (entryFrame m #[(.ref a1)] 2)) t := fun t k => castTop (ef_au12_2 m a1) k
  have hS0 := hS
  obtain ⟨S_wMAX_LOCK_DELAY, E_wMAX_LOCK_DELAY, S_wGRANTED, E_wGRANTED, S_wQUEUED, E_wQUEUED, S_wBUSY, E_wBUSY, F_seconds_wMAX_LOCK_DELAY, F_nanos_wMAX_LOCK_DELAY, S_wZERO, E_wZERO, F_seconds_wZERO, F_nanos_wZERO⟩ := hS0
  obtain ⟨T1, X1, e1, st1⟩ := getF X0 hx hZ hown (host := "") (Or.inl (ow hw 26 rfl)) Via.refl e0 P5 (g := (mkF m 1 #[(vr a1), .unset] [(.ref a1)])) rfl rfl (hb hby d12_1)
  obtain ⟨cq2, kq2, q2a, q2b, q2c⟩ := isOf hZ e1 P6
  obtain ⟨_, _, ⟨T2, L2, k2, n2⟩, -, X2, ⟨Lc2, hQ2, l2, y2, z2⟩, st2⟩ := X1.interfaceBack hx (xi := M13) (y := M11) hown (mvT hZ (ow hw 88 rfl)) (mvT hZ (ow hw 89 rfl)) (mvT hZ (ow hw 90 rfl)) (mvT hZ (ow hw 91 rfl)) (mvT hZ (ow hw 92 rfl)) (mvT hZ (ow hw 93 rfl)) (mvT hZ (ow hw 94 rfl)) (mvT hZ (ow hw 95 rfl)) (by decide) (backOf (W := 0) (au13_0 l Z a0 hw [] wMAX_LOCK_DELAY wGRANTED wQUEUED wBUSY wZERO hS a3 a4 k5 h0 n0 O0 P6 P7 P8 P10) hZ (ow hw 96 rfl) (ow hw 11 rfl) (by decide) (by decide)) q2a q2b q2c (g := (mkF m 4 #[(vr a1), .unset] [(.ref a3)])) rfl (by rw [hml]; rfl) (Steps.refl _) (argsL := []) (rest := []) (lenOf pd_8 rfl) rfl (by show 2 * 0 + _ ≤ _; exact Nat.le_of_eq rfl) (hb hby d12_4) (fun _ _ => ⟨rfl, e1, (by decide : 0 + 0 ≤ _), (by decide : 0 + 0 ≤ _)⟩)
  dsimp only [Pt.U, Pt.locs, Pt.cells, Pt.slots] at X2 l2 y2 z2 st2 hQ2
  subst l2 y2 z2
  obtain ⟨rfl, Nq2, K2q⟩ := hQ2
  have N2 := Fr.app N0 Nq2
  obtain ⟨fs, hr, hrun, hended, hW, hsame⟩ := X2.leave (v := some .null) (fun h => by rw [hret0] at h; cases h)
  refine ⟨_, _, pre0 _ ?_, hrun, hended, _, _, rfl, ?_, ⟨_, rfl⟩, hW, hsame.mono (by decide) (by decide)⟩
  · skip
    show Steps p.tables e below (s₁.setTop (mkF m 0 #[(vr a1), .unset] [])) _
    refine XS.aloadN X0.here hx rfl (hb hby d12_0) rfl rfl ?_
    refine st1 _ ?_
    refine st2.trans ?_
    refine X2.checkcastNull hx (g := (mkF m 9 #[(vr a1), .unset] [.null])) rfl rfl (hb hby d12_9) _ ?_
    refine XS.astoreN X2.here hx rfl (hb hby d12_12) rfl rfl (l' := #[(vr a1), .val .null]) rfl ?_
    show Steps p.tables e below (T2.setTop (mkF m 13 #[(vr a1), .val .null] [])) _
    refine XS.aloadN X2.here hx rfl (hb hby d12_13) rfl rfl ?_
    refine XS.ifnullYes X2.here hx rfl (pc0 := 14) (pc' := 29) rfl (hb hby d12_14) rfl (by decide) (by decide) ?_
    refine XS.aloadN X2.here hx rfl (hb hby d12_29) rfl rfl ?_
    refine XS.ifnonnullNo X2.here hx rfl (hb hby d12_30) rfl ?_
    refine XS.aconstNull X2.here hx rfl (hb hby d12_33) ?_
    show Steps p.tables e below (T2.setTop (mkF m 34 #[(vr a1), .val .null] [.null])) _
    refine XS.goto X2.here hx rfl (pc0 := 34) (pc' := 41) rfl (hb hby d12_34) (by decide) (by decide) ?_
    jvm_step X2.here [X2.here.top, hx, (hb hby d12_41), X2.method', hret0, Value.isRef, FieldType.isReference]
    first | (intro acts; rw [hr _ acts rfl rfl rfl]) | rw [hr _ _ rfl rfl rfl]
    exact Steps.refl _
  · show Q_au12_2 Z wMAX_LOCK_DELAY wGRANTED wQUEUED wBUSY wZERO a1 a3 a4 k5 h0 n0 _ T2.heap _
    rw [K2q]
    exact ⟨rfl, N2, rfl⟩
theorem d26_106 : decode prog_84_method_14_code 106 = .ok (.astore 5, 2) := by decide +kernel
theorem d26_108 : decode prog_84_method_14_code 108 = .ok (.aload 5, 2) := by decide +kernel
theorem d26_110 : decode prog_84_method_14_code 110 = .ok (.areturn, 1) := by decide +kernel
def Q_au26_0 (Z : State) (wMAX_LOCK_DELAY : Addr) (wGRANTED : Addr) (wQUEUED : Addr) (wBUSY : Addr) (wZERO : Addr) (a1 : Addr) (q2 : Int64) (qg3 : Int64) (a4 : Addr) (a5 : Addr) (a7 : Addr) (k8 : ClassId) (h0 : Heap) (n0 : Nat) (v : Option Value) (h : Heap) (L : List Loc) : Prop := v = some .null ∧ Fr n0 L ∧ Keep h0 h [a1] ∧ Exa Z h a1 s4n ∧ Fld Z h a1 s4n "generation" "J" (.long qg3) ∧ Fld Z h a1 s4n "heldBack" "Z" (.int 0) ∧ Fld Z h a1 s4n "holder" s5n .null ∧ Fld Z h a1 s4n s10n s0n (.ref wMAX_LOCK_DELAY) ∧ Fld Z h a1 s4n "waiters" s11n (.ref a5)
theorem au26_0 (l : Launch) (Z : State) (a0 : Array Value) (hw : ∀ d ∈ tables_1, d.before a0 Z = true) (ws : List Jvm.Cond) (wMAX_LOCK_DELAY : Addr) (wGRANTED : Addr) (wQUEUED : Addr) (wBUSY : Addr) (wZERO : Addr) (hS : SS Z wMAX_LOCK_DELAY wGRANTED wQUEUED wBUSY wZERO) (a1 : Addr) (q2 : Int64) (qg3 : Int64) (a4 : Addr) (a5 : Addr) (a7 : Addr) (k8 : ClassId) (h0 : Heap) (n0 : Nat) (O0 : Old Z n0 h0) (P0 : Exa Z h0 a1 s4n) (P1 : Fld Z h0 a1 s4n "generation" "J" (.long qg3)) (P2 : Fld Z h0 a1 s4n "heldBack" "Z" (.int 0)) (P3 : Fld Z h0 a1 s4n "holder" s5n (.ref a4)) (P4 : Fld Z h0 a1 s4n s10n s0n (.ref wMAX_LOCK_DELAY)) (P5 : Fld Z h0 a1 s4n "waiters" s11n (.ref a5)) (P6 : Exa Z h0 a4 s3n) (P8 : Fld Z h0 a4 s3n "session" "J" (.long q2)) (P9 : Exa Z h0 a5 s7n) (P10 : Fld Z h0 a5 s7n "elements" s8n (.ref a7)) (P11 : Fld Z h0 a5 s7n "head" "I" (.int 0)) (P12 : Fld Z h0 a5 s7n "tail" "I" (.int 0)) (P13 : Arv Z h0 a7 k8 (.object s9n) (17 : Int32) ([.null, .null, .null, .null, .null, .null, .null, .null, .null, .null, .null, .null, .null, .null, .null, .null, .null]) .null) (P16 : n0 ≤ a1) (P21 : a1 ≠ a5) (P22 : a1 ≠ a7) :
    MetB l M30 prog_84_method_14_code 6 (some (.object s3n)) ws (rmk 4 1 4 53) Z h0 #[(.ref a1), (.long q2), (.int 0)] (Q_au26_0 Z wMAX_LOCK_DELAY wGRANTED wQUEUED wBUSY wZERO a1 q2 qg3 a4 a5 a7 k8 h0 n0) := by
  refine own_body (plainFor_of_name pn_com_example_umpired_umpired_server_NodeLock) ?_
  intro p e s m below meth c s₁ hx hby hml hown hnm hret0 hlk0 hZ X0 e0
  have N0 := Fr.nil n0
  have pre0 : ∀ t, Steps p.tables e below (s₁.setTop (mkF m 0 #[(vr a1), (vl q2), .second, (vi 0), .unset, .unset] [])) t → Steps p.tables e below (s₁.setTop (entryFrame m #[(.ref a1), (.long q2), (.int 0)] 6)) t := fun t k => castTop (ef_au26_0 m a1 q2 (0 : Int32)) k
  have K0 := Keep.refl h0 [a1]
  have hS0 := hS
  obtain ⟨S_wMAX_LOCK_DELAY, E_wMAX_LOCK_DELAY, S_wGRANTED, E_wGRANTED, S_wQUEUED, E_wQUEUED, S_wBUSY, E_wBUSY, F_seconds_wMAX_LOCK_DELAY, F_nanos_wMAX_LOCK_DELAY, S_wZERO, E_wZERO, F_seconds_wZERO, F_nanos_wZERO⟩ := hS0
  obtain ⟨T1, X1, e1, st1⟩ := getF X0 hx hZ hown (host := "") (Or.inl (ow hw 26 rfl)) Via.refl e0 P5 (g := (mkF m 1 #[(vr a1), (vl q2), .second, (vi 0), .unset, .unset] [(.ref a1)])) rfl rfl (hb hby d26_1)
  obtain ⟨cq2, kq2, q2a, q2b, q2c⟩ := isOf hZ e1 P9
  obtain ⟨_, _, ⟨T2, L2, k2, n2⟩, -, X2, ⟨Lc2, hQ2, l2, y2, z2⟩, st2⟩ := X1.interfaceBack hx (xi := M21) (y := M18) hown (mvT hZ (ow hw 113 rfl)) (mvT hZ (ow hw 114 rfl)) (mvT hZ (ow hw 115 rfl)) (mvT hZ (ow hw 116 rfl)) (mvT hZ (ow hw 117 rfl)) (mvT hZ (ow hw 118 rfl)) (mvT hZ (ow hw 119 rfl)) (mvT hZ (ow hw 95 rfl)) (by decide) (backOf (W := 0) (au17_0 l Z a0 hw [] wMAX_LOCK_DELAY wGRANTED wQUEUED wBUSY wZERO hS a5 a7 k8 h0 n0 O0 P9 P10 P11 P12 P13) hZ (ow hw 120 rfl) (ow hw 11 rfl) (by decide) (by decide)) q2a q2b q2c (g := (mkF m 4 #[(vr a1), (vl q2), .second, (vi 0), .unset, .unset] [(.ref a5)])) rfl (by rw [hml]; rfl) (Steps.refl _) (argsL := []) (rest := []) (lenOf pd_13 rfl) rfl (by show 2 * 0 + _ ≤ _; exact Nat.le_of_eq rfl) (hb hby d26_4) (fun _ _ => ⟨rfl, e1, (by decide : 0 + 1 ≤ _), (by decide : 0 + 4 ≤ _)⟩)
  dsimp only [Pt.U, Pt.locs, Pt.cells, Pt.slots] at X2 l2 y2 z2 st2 hQ2
  subst l2 y2 z2
  obtain ⟨e1_2, rfl, Nq2, K2q, p2_0, p2_1, p2_2, p2_3, p2_4, p2_5⟩ := hQ2
  have N2 := Fr.app N0 Nq2
  have ne3 : a1 ≠ e1_2 := Nat.ne_of_lt (Nat.lt_of_lt_of_le P0.lt p2_0)
  have ne4 : a4 ≠ e1_2 := Nat.ne_of_lt (Nat.lt_of_lt_of_le P6.lt p2_0)
  have ne5 : a5 ≠ e1_2 := Nat.ne_of_lt (Nat.lt_of_lt_of_le P9.lt p2_0)
  have ne6 : a7 ≠ e1_2 := Nat.ne_of_lt (Nat.lt_of_lt_of_le P13.lt p2_0)
  have g7 : n0 ≤ e1_2 := Nat.le_trans (own_sz O0) p2_0
  have sz8 : h0.size ≤ e1_2 := Nat.le_trans K0.1 p2_0
  have O9 : Old Z n0 T2.heap := O0.keep K2q all0
  have K9 : Keep h0 T2.heap [a1] := K0.trans K2q all0
  obtain ⟨cq10, kq10, q10a, q10b, q10c⟩ := isOf hZ rfl p2_1
  obtain ⟨_, _, ⟨T10, L10, k10, n10⟩, -, X10, ⟨Lc10, hQ10, l10, y10, z10⟩, st10⟩ := X2.interfaceBack hx (xi := M22) (y := M19) hown (mvT hZ (ow hw 148 rfl)) (mvT hZ (ow hw 149 rfl)) (mvT hZ (ow hw 150 rfl)) (mvT hZ (ow hw 151 rfl)) (mvT hZ (ow hw 152 rfl)) (mvT hZ (ow hw 153 rfl)) (mvT hZ (ow hw 154 rfl)) (mvT hZ (ow hw 155 rfl)) (by decide) (backOf (W := 0) (au21_0 l Z a0 hw [] wMAX_LOCK_DELAY wGRANTED wQUEUED wBUSY wZERO hS e1_2 T2.heap n0 O9 p2_4) hZ (ow hw 156 rfl) (ow hw 123 rfl) (by decide) (by decide)) q10a q10b q10c (g := (mkF m 13 #[(vr a1), (vl q2), .second, (vi 0), (vr e1_2), .unset] [(.ref e1_2)])) rfl (by rw [hml]; rfl) (Steps.refl _) (argsL := []) (rest := []) (lenOf pd_14 rfl) rfl (by show 2 * 0 + _ ≤ _; exact Nat.le_of_eq rfl) (hb hby d26_13) (fun _ _ => ⟨rfl, rfl, (by decide : 1 + 0 ≤ _), (by decide : 4 + 0 ≤ _)⟩)
  dsimp only [Pt.U, Pt.locs, Pt.cells, Pt.slots] at X10 l10 y10 z10 st10 hQ10
  subst l10 y10 z10
  obtain ⟨rfl, Nq10, K10q⟩ := hQ10
  have N10 := Fr.app N2 Nq10
  have f11 : Fld Z T2.heap a1 s4n "holder" s5n (.ref a4) := (P3.keep K2q nin0)
  have f12 : Exa Z T2.heap a4 s3n := (P6.keep K2q)
  have f13 : Fld Z T2.heap a4 s3n "session" "J" (.long q2) := (P8.keep K2q nin0)
  have f15 : Exa Z T2.heap a1 s4n := (P0.keep K2q)
  obtain ⟨cq14, kq14, q14a, q14b, q14c⟩ := isOf hZ K10q f15
  obtain ⟨_, _, ⟨T14, L14, k14, n14⟩, -, X14, ⟨Lc14, hQ14, l14, y14, z14⟩, st14⟩ := X10.virtualBack hx (y := M29) (z := M29) hown (mvT hZ (ow hw 214 rfl)) (mvT hZ (ow hw 215 rfl)) (notFace_of_selects (args := #[]) (mvT hZ (ow hw 217 rfl))) (mvT hZ (ow hw 217 rfl)) (mvT hZ (ow hw 216 rfl)) (by decide) (backOf (W := 0) (au30_0 l Z a0 hw [] wMAX_LOCK_DELAY wGRANTED wQUEUED wBUSY wZERO hS a1 q2 a4 T2.heap n0 O9 f11 f12 f13) hZ (ow hw 218 rfl) (ow hw 2 rfl) (by decide) (by decide)) q14a q14c (g := (mkF m 57 #[(vr a1), (vl q2), .second, (vi 0), (vr e1_2), .val .null] [(.long q2), (.ref a1)])) rfl (by rw [hml]; rfl) (Steps.refl _) (argsL := [(.long q2)]) (rest := []) (lenOf pd_3 rfl) rfl (by show 2 * 0 + _ ≤ _; exact Nat.le_of_eq rfl) (hb hby d26_57) (fun _ _ => ⟨rfl, K10q, (by decide : 1 + 0 ≤ _), (by decide : 4 + 0 ≤ _)⟩)
  dsimp only [Pt.U, Pt.locs, Pt.cells, Pt.slots] at X14 l14 y14 z14 st14 hQ14
  subst l14 y14 z14
  obtain ⟨rfl, Nq14, K14q⟩ := hQ14
  have N14 := Fr.app N10 Nq14
  obtain ⟨T16, h16, X16, e16, W16, st16⟩ := putF X14 hx hZ hown (host := "") (Or.inl (ow hw 51 rfl)) Via.refl K14q f11 f15 (Or.inl (ow hw 52 rfl)) (ow hw 1 rfl) (ty := (.object s3n)) (by decide) rfl rfl (g := (mkF m 65 #[(vr a1), (vl q2), .second, (vi 0), (vr e1_2), .val .null] [.null, (.ref a1)])) rfl rfl (hb hby d26_65)
  have N16 := Fr.snoc X16 N14 P16
  have O17 : Old Z n0 h16 := O9.wr W16 P16
  have K17 : Keep h0 h16 [a1] := K9.wr W16 (Or.inl (List.mem_of_getElem? (i := 0) rfl))
  have Fw16 : Fld Z h16 a1 s4n "holder" s5n .null := f11.same W16
  have f18 : Exa Z h16 a1 s4n := (f15.wr W16)
  have f19 : Fld Z h16 a1 s4n "heldBack" "Z" (.int 0) := ((P2.keep K2q nin0).other W16 (Or.inr (slot_ne (Or.inl (ow hw 69 rfl)) (Or.inl (ow hw 52 rfl)) (by decide) (t := .boolean) (t' := (.object s3n)) (by decide) (by decide))))
  obtain ⟨T20, h20, X20, e20, W20, st20⟩ := putFN X16 hx hZ hown (ow hw 68 rfl) Via.refl e16 f19 f18 (Or.inl (ow hw 69 rfl)) (ow hw 1 rfl) (ty := .boolean) (v' := (.int 0)) (by decide) rfl rfl (g := (mkF m 88 #[(vr a1), (vl q2), .second, (vi 0), (vr e1_2), .val .null] [(.int 0), (.ref a1)])) rfl rfl (hb hby d26_88)
  have N20 := Fr.snoc X20 N16 P16
  have O21 : Old Z n0 h20 := O17.wr W20 P16
  have K21 : Keep h0 h20 [a1] := K17.wr W20 (Or.inl (List.mem_of_getElem? (i := 0) rfl))
  have Fw20 : Fld Z h20 a1 s4n "heldBack" "Z" (.int 0) := f19.same W20
  obtain ⟨T22, X22, e22, st22⟩ := getF X20 hx hZ hown (host := "") (Or.inl (ow hw 68 rfl)) Via.refl e20 Fw20 (g := (mkF m 92 #[(vr a1), (vl q2), .second, (vi 0), (vr e1_2), .val .null] [(.ref a1)])) rfl rfl (hb hby d26_92)
  have f23 : Fld Z h20 a1 s4n "waiters" s11n (.ref a5) := (((P5.keep K2q nin0).other W16 (Or.inr (slot_ne (Or.inr (ow hw 27 rfl)) (Or.inl (ow hw 52 rfl)) (by decide) (t := (.object s12n)) (t' := (.object s3n)) (by decide) (by decide)))).other W20 (Or.inr (slot_ne (Or.inr (ow hw 27 rfl)) (Or.inl (ow hw 69 rfl)) (by decide) (t := (.object s12n)) (t' := .boolean) (by decide) (by decide))))
  have f24 : Exa Z h20 a5 s7n := (((P9.keep K2q).wr W16).wr W20)
  have f25 : Fld Z h20 a5 s7n "elements" s8n (.ref a7) := (((P10.keep K2q nin0).other W16 (Or.inl (Ne.symm P21))).other W20 (Or.inl (Ne.symm P21)))
  have f26 : Fld Z h20 a5 s7n "head" "I" (.int 0) := (((P11.keep K2q nin0).other W16 (Or.inl (Ne.symm P21))).other W20 (Or.inl (Ne.symm P21)))
  have f27 : Arv Z h20 a7 k8 (.object s9n) (17 : Int32) ([.null, .null, .null, .null, .null, .null, .null, .null, .null, .null, .null, .null, .null, .null, .null, .null, .null]) .null := (((P13.keep K2q nin0).other W16 (Ne.symm P22)).other W20 (Ne.symm P22))
  have f29 : Exa Z h20 a1 s4n := (f18.wr W20)
  obtain ⟨cq28, q28, q28'⟩ := f29.cell
  obtain ⟨_, _, ⟨T28, L28, k28, n28⟩, -, X28, ⟨Lc28, hQ28, l28, y28, z28⟩, st28⟩ := X22.privateBack hx (y := M12) hown (mvT hZ (ow hw 84 rfl)) (mvT hZ (ow hw 85 rfl)) (own_selp (mvT hZ (ow hw 1 rfl)) (mvP hZ (ow hw 86 rfl)) (mvT hZ (ow hw 85 rfl)) (by decide)) (Cond.privateMethod_at (mvP hZ (ow hw 86 rfl) (args := #[]))) (mvT hZ (ow hw 87 rfl)) (by decide) (backOf (W := 0) (au12_2 l Z a0 hw [] wMAX_LOCK_DELAY wGRANTED wQUEUED wBUSY wZERO hS a1 a5 a7 k8 h20 n0 O21 f23 f24 f25 f26 f27) hZ (ow hw 87 rfl) (ow hw 2 rfl) (by decide) (by decide)) (g := (mkF m 103 #[(vr a1), (vl q2), .second, (vi 0), (vr e1_2), .val .null] [(.ref a1)])) rfl (by rw [hml]; rfl) (Steps.refl _) (a := a1) (by rw [e22]; exact q28) q28' (argsL := []) (rest := []) (lenOf pd_9 rfl) rfl (by show 2 * 0 + _ ≤ _; exact Nat.le_of_eq rfl) (hb hby d26_103) (fun _ _ => ⟨rfl, e22, (by decide : 1 + 0 ≤ _), (by decide : 4 + 0 ≤ _)⟩)
  dsimp only [Pt.U, Pt.locs, Pt.cells, Pt.slots] at X28 l28 y28 z28 st28 hQ28
  subst l28 y28 z28
  obtain ⟨rfl, Nq28, K28q⟩ := hQ28
  have N28 := Fr.app N20 Nq28
  have f30 : Fld Z h20 a1 s4n "generation" "J" (.long qg3) := (((P1.keep K2q nin0).other W16 (Or.inr (slot_ne (Or.inl (ow hw 75 rfl)) (Or.inl (ow hw 52 rfl)) (by decide) (t := .long) (t' := (.object s3n)) (by decide) (by decide)))).other W20 (Or.inr (slot_ne (Or.inl (ow hw 75 rfl)) (Or.inl (ow hw 69 rfl)) (by decide) (t := .long) (t' := .boolean) (by decide) (by decide))))
  have f31 : Fld Z h20 a1 s4n "holder" s5n .null := (Fw16.other W20 (Or.inr (slot_ne (Or.inl (ow hw 52 rfl)) (Or.inl (ow hw 69 rfl)) (by decide) (t := (.object s3n)) (t' := .boolean) (by decide) (by decide))))
  have f32 : Fld Z h20 a1 s4n s10n s0n (.ref wMAX_LOCK_DELAY) := (((P4.keep K2q nin0).other W16 (Or.inr (slot_ne (Or.inl (ow hw 31 rfl)) (Or.inl (ow hw 52 rfl)) (by decide) (t := (.object s1n)) (t' := (.object s3n)) (by decide) (by decide)))).other W20 (Or.inr (slot_ne (Or.inl (ow hw 31 rfl)) (Or.inl (ow hw 69 rfl)) (by decide) (t := (.object s1n)) (t' := .boolean) (by decide) (by decide))))
  obtain ⟨fs, hr, hrun, hended, hW, hsame⟩ := X28.leave (v := some .null) (fun h => by rw [hret0] at h; cases h)
  refine ⟨_, _, pre0 _ ?_, hrun, hended, _, _, rfl, ?_, ⟨_, rfl⟩, hW, hsame.mono (by decide) (by decide)⟩
  · skip
    show Steps p.tables e below (s₁.setTop (mkF m 0 #[(vr a1), (vl q2), .second, (vi 0), .unset, .unset] [])) _
    refine XS.aloadN X0.here hx rfl (hb hby d26_0) rfl rfl ?_
    refine st1 _ ?_
    refine st2.trans ?_
    refine XS.astore X2.here hx rfl (hb hby d26_9) rfl rfl (l' := #[(vr a1), (vl q2), .second, (vi 0), (vr e1_2), .unset]) rfl ?_
    refine XS.aload X2.here hx rfl (hb hby d26_11) rfl rfl ?_
    show Steps p.tables e below (T2.setTop (mkF m 13 #[(vr a1), (vl q2), .second, (vi 0), (vr e1_2), .unset] [(.ref e1_2)])) _
    refine st10.trans ?_
    refine XS.ifYes X10.here hx rfl (pc0 := 18) (pc' := 52) rfl (hb hby d26_18) rfl ((if0 _ _).trans (teq (by decide : (0 : Int32) = (0 : Int32))).1) (by decide) (by decide) ?_
    refine XS.aconstNull X10.here hx rfl (hb hby d26_52) ?_
    refine XS.astore X10.here hx rfl (hb hby d26_53) rfl rfl (l' := #[(vr a1), (vl q2), .second, (vi 0), (vr e1_2), .val .null]) rfl ?_
    refine XS.aloadN X10.here hx rfl (hb hby d26_55) rfl rfl ?_
    show Steps p.tables e below (T10.setTop (mkF m 56 #[(vr a1), (vl q2), .second, (vi 0), (vr e1_2), .val .null] [(.ref a1)])) _
    refine XS.lloadN X10.here hx rfl (hb hby d26_56) rfl ?_
    refine st14.trans ?_
    refine XS.ifNo X14.here hx rfl (hb hby d26_60) rfl ((if0 _ _).trans (feq (by decide : ¬ ((1 : Int32) = (0 : Int32)))).1) ?_
    refine XS.aloadN X14.here hx rfl (hb hby d26_63) rfl rfl ?_
    refine XS.aconstNull X14.here hx rfl (hb hby d26_64) ?_
    show Steps p.tables e below (T14.setTop (mkF m 65 #[(vr a1), (vl q2), .second, (vi 0), (vr e1_2), .val .null] [.null, (.ref a1)])) _
    refine st16 _ ?_
    refine XS.aloadN X16.here hx rfl (hb hby d26_68) rfl rfl ?_
    refine XS.iloadN X16.here hx rfl (hb hby d26_69) rfl ?_
    refine XS.ifYes X16.here hx rfl (pc0 := 70) (pc' := 87) rfl (hb hby d26_70) rfl ((if0 _ _).trans (teq (by decide : (0 : Int32) = (0 : Int32))).1) (by decide) (by decide) ?_
    refine XS.iconst X16.here hx rfl (hb hby d26_87) ?_
    show Steps p.tables e below (T16.setTop (mkF m 88 #[(vr a1), (vl q2), .second, (vi 0), (vr e1_2), .val .null] [(.int 0), (.ref a1)])) _
    refine st20 _ ?_
    refine XS.aloadN X20.here hx rfl (hb hby d26_91) rfl rfl ?_
    refine st22 _ ?_
    refine XS.ifYes X22.here hx rfl (pc0 := 95) (pc' := 102) rfl (hb hby d26_95) rfl ((if0 _ _).trans (teq (by decide : (0 : Int32) = (0 : Int32))).1) (by decide) (by decide) ?_
    refine XS.aloadN X22.here hx rfl (hb hby d26_102) rfl rfl ?_
    show Steps p.tables e below (T22.setTop (mkF m 103 #[(vr a1), (vl q2), .second, (vi 0), (vr e1_2), .val .null] [(.ref a1)])) _
    refine st28.trans ?_
    refine XS.astore X28.here hx rfl (hb hby d26_106) rfl rfl (l' := #[(vr a1), (vl q2), .second, (vi 0), (vr e1_2), .val .null]) rfl ?_
    refine XS.aload X28.here hx rfl (hb hby d26_108) rfl rfl ?_
    jvm_step X28.here [X28.here.top, hx, (hb hby d26_110), X28.method', hret0, Value.isRef, FieldType.isReference]
    first | (intro acts; rw [hr _ acts rfl rfl rfl]) | rw [hr _ _ rfl rfl rfl]
    exact Steps.refl _
  · show Q_au26_0 Z wMAX_LOCK_DELAY wGRANTED wQUEUED wBUSY wZERO a1 q2 qg3 a4 a5 a7 k8 h0 n0 _ T28.heap _
    rw [K28q]
    exact ⟨rfl, N28, K21, f29, f30, Fw20, f31, f32, f23⟩
theorem pd_19 : parseMethodDescriptor "(JZ)Lcom/example/umpired/umpired/server/SessionHandle;" = some ⟨[.long, .boolean], some (.object "com/example/umpired/umpired/server/SessionHandle")⟩ := by decide +kernel
theorem ef_au26_1 (m : MethodId) (x0 : Addr) (x1 : Int64) (x2 : Int32)  : entryFrame m #[(.ref x0), (.long x1), (.int x2)] 6 = mkF m 0 #[(vr x0), (vl x1), .second, (vi x2), .unset, .unset] [] := by first | (simp [entryFrame, mkF, argsToLocals, Value.category]; done) | rfl
theorem d26_73 : decode prog_84_method_14_code 73 = .ok (.aload_n 0, 1) := by decide +kernel
theorem d26_74 : decode prog_84_method_14_code 74 = .ok (.getfield 22, 3) := by decide +kernel
theorem d26_77 : decode prog_84_method_14_code 77 = .ok (.invokevirtual 119, 3) := by decide +kernel
theorem ef_au31_0 (m : MethodId) (x0 : Addr)  : entryFrame m #[(.ref x0)] 1 = mkF m 0 #[(vr x0)] [] := by first | (simp [entryFrame, mkF, argsToLocals, Value.category]; done) | rfl
theorem pn_java_time_Duration : plainName "java/time/Duration" = true := by first | (simp [plainName, overriddenIn]; done) | decide +kernel
theorem d31_0 : decode jdk_2316_method_21_code 0 = .ok (.aload_n 0, 1) := by decide +kernel
theorem d31_1 : decode jdk_2316_method_21_code 1 = .ok (.getfield 221, 3) := by decide +kernel
theorem d31_4 : decode jdk_2316_method_21_code 4 = .ok (.aload_n 0, 1) := by decide +kernel
theorem d31_5 : decode jdk_2316_method_21_code 5 = .ok (.getfield 224, 3) := by decide +kernel
theorem d31_8 : decode jdk_2316_method_21_code 8 = .ok (.i2l, 1) := by decide +kernel
theorem d31_9 : decode jdk_2316_method_21_code 9 = .ok (.lor, 1) := by decide +kernel
theorem d31_10 : decode jdk_2316_method_21_code 10 = .ok (.lconst 0, 1) := by decide +kernel
theorem d31_11 : decode jdk_2316_method_21_code 11 = .ok (.lcmp, 1) := by decide +kernel
theorem d31_12 : decode jdk_2316_method_21_code 12 = .ok (.ifCond .ne 7, 3) := by decide +kernel
theorem d31_19 : decode jdk_2316_method_21_code 19 = .ok (.iconst 0, 1) := by decide +kernel
theorem d31_20 : decode jdk_2316_method_21_code 20 = .ok (.ireturn, 1) := by decide +kernel
def Q_au31_0 (Z : State) (wMAX_LOCK_DELAY : Addr) (wGRANTED : Addr) (wQUEUED : Addr) (wBUSY : Addr) (wZERO : Addr)  (h0 : Heap) (n0 : Nat) (v : Option Value) (h : Heap) (L : List Loc) : Prop := v = some (.int 0) ∧ Fr n0 L ∧ h = h0
theorem au31_0 (l : Launch) (Z : State) (a0 : Array Value) (hw : ∀ d ∈ tables_1, d.before a0 Z = true) (ws : List Jvm.Cond) (wMAX_LOCK_DELAY : Addr) (wGRANTED : Addr) (wQUEUED : Addr) (wBUSY : Addr) (wZERO : Addr) (hS : SS Z wMAX_LOCK_DELAY wGRANTED wQUEUED wBUSY wZERO)  (h0 : Heap) (n0 : Nat) (O0 : Old Z n0 h0)  :
    MetB l M31 jdk_2316_method_21_code 1 (some .boolean) ws (rmk 0 0 0 0) Z h0 #[(.ref wMAX_LOCK_DELAY)] (Q_au31_0 Z wMAX_LOCK_DELAY wGRANTED wQUEUED wBUSY wZERO  h0 n0) := by
  refine own_body (plainFor_of_name pn_java_time_Duration) ?_
  intro p e s m below meth c s₁ hx hby hml hown hnm hret0 hlk0 hZ X0 e0
  have N0 := Fr.nil n0
  have pre0 : ∀ t, Steps p.tables e below (s₁.setTop (mkF m 0 #[(vr wMAX_LOCK_DELAY)] [])) t → Steps p.tables e below (s₁.setTop (entryFrame m #[(.ref wMAX_LOCK_DELAY)] 1)) t := fun t k => castTop (ef_au31_0 m wMAX_LOCK_DELAY) k
  have hS0 := hS
  obtain ⟨S_wMAX_LOCK_DELAY, E_wMAX_LOCK_DELAY, S_wGRANTED, E_wGRANTED, S_wQUEUED, E_wQUEUED, S_wBUSY, E_wBUSY, F_seconds_wMAX_LOCK_DELAY, F_nanos_wMAX_LOCK_DELAY, S_wZERO, E_wZERO, F_seconds_wZERO, F_nanos_wZERO⟩ := hS0
  obtain ⟨T1, X1, e1, st1⟩ := getF X0 hx hZ hown (host := "") (Or.inl (ow hw 224 rfl)) Via.refl e0 (F_seconds_wMAX_LOCK_DELAY.ext O0.2) (g := (mkF m 1 #[(vr wMAX_LOCK_DELAY)] [(.ref wMAX_LOCK_DELAY)])) rfl rfl (hb hby d31_1)
  obtain ⟨T2, X2, e2, st2⟩ := getF X1 hx hZ hown (host := "") (Or.inl (ow hw 226 rfl)) Via.refl e1 (F_nanos_wMAX_LOCK_DELAY.ext O0.2) (g := (mkF m 5 #[(vr wMAX_LOCK_DELAY)] [(.ref wMAX_LOCK_DELAY), (.long 60)])) rfl rfl (hb hby d31_5)
  obtain ⟨fs, hr, hrun, hended, hW, hsame⟩ := X2.leave (v := some (.int 0)) (fun h => by rw [hret0] at h; cases h)
  refine ⟨_, _, pre0 _ ?_, hrun, hended, _, _, rfl, ?_, ⟨_, rfl⟩, hW, hsame.mono (by decide) (by decide)⟩
  · skip
    show Steps p.tables e below (s₁.setTop (mkF m 0 #[(vr wMAX_LOCK_DELAY)] [])) _
    refine XS.aloadN X0.here hx rfl (hb hby d31_0) rfl rfl ?_
    refine st1 _ ?_
    refine XS.aloadN X1.here hx rfl (hb hby d31_4) rfl rfl ?_
    refine st2 _ ?_
    refine XS.i2l X2.here hx rfl (hb hby d31_8) rfl ?_
    show Steps p.tables e below (T2.setTop (mkF m 9 #[(vr wMAX_LOCK_DELAY)] [(.long 0), (.long 60)])) _
    refine XS.lor X2.here hx rfl (hb hby d31_9) rfl ?_
    refine XS.lconst X2.here hx rfl (hb hby d31_10) ?_
    refine XS.lcmp X2.here hx rfl (hb hby d31_11) rfl ?_
    refine XS.ifYes X2.here hx rfl (pc0 := 12) (pc' := 19) rfl (hb hby d31_12) rfl ((if0 _ _).trans (feq (by decide : ¬ ((lcmpW (60 : Int64) (0 : Int64)) = (0 : Int32)))).2) (by decide) (by decide) ?_
    refine XS.iconst X2.here hx rfl (hb hby d31_19) ?_
    show Steps p.tables e below (T2.setTop (mkF m 20 #[(vr wMAX_LOCK_DELAY)] [(.int 0)])) _
    exact retN X2 hx (t := .boolean) hret0 (by simp) (hb hby d31_20) hr
  · show Q_au31_0 Z wMAX_LOCK_DELAY wGRANTED wQUEUED wBUSY wZERO  h0 n0 _ T2.heap _
    rw [e2]
    exact ⟨rfl, N0, rfl⟩
theorem d26_80 : decode prog_84_method_14_code 80 = .ok (.ifCond .ne 7, 3) := by decide +kernel
theorem d26_83 : decode prog_84_method_14_code 83 = .ok (.iconst 1, 1) := by decide +kernel
theorem d26_84 : decode prog_84_method_14_code 84 = .ok (.goto 4, 3) := by decide +kernel
theorem d26_98 : decode prog_84_method_14_code 98 = .ok (.aconst_null, 1) := by decide +kernel
theorem d26_99 : decode prog_84_method_14_code 99 = .ok (.goto 7, 3) := by decide +kernel
def Q_au26_1 (Z : State) (wMAX_LOCK_DELAY : Addr) (wGRANTED : Addr) (wQUEUED : Addr) (wBUSY : Addr) (wZERO : Addr) (a1 : Addr) (q2 : Int64) (qg3 : Int64) (a4 : Addr) (a5 : Addr) (a7 : Addr) (k8 : ClassId) (h0 : Heap) (n0 : Nat) (v : Option Value) (h : Heap) (L : List Loc) : Prop := v = some .null ∧ Fr n0 L ∧ Keep h0 h [a1] ∧ Exa Z h a1 s4n ∧ Fld Z h a1 s4n "generation" "J" (.long qg3) ∧ Fld Z h a1 s4n "heldBack" "Z" (.int 1) ∧ Fld Z h a1 s4n "holder" s5n .null ∧ Fld Z h a1 s4n s10n s0n (.ref wMAX_LOCK_DELAY) ∧ Fld Z h a1 s4n "waiters" s11n (.ref a5)
theorem au26_1 (l : Launch) (Z : State) (a0 : Array Value) (hw : ∀ d ∈ tables_1, d.before a0 Z = true) (ws : List Jvm.Cond) (wMAX_LOCK_DELAY : Addr) (wGRANTED : Addr) (wQUEUED : Addr) (wBUSY : Addr) (wZERO : Addr) (hS : SS Z wMAX_LOCK_DELAY wGRANTED wQUEUED wBUSY wZERO) (a1 : Addr) (q2 : Int64) (qg3 : Int64) (a4 : Addr) (a5 : Addr) (a7 : Addr) (k8 : ClassId) (h0 : Heap) (n0 : Nat) (O0 : Old Z n0 h0) (P0 : Exa Z h0 a1 s4n) (P1 : Fld Z h0 a1 s4n "generation" "J" (.long qg3)) (P2 : Fld Z h0 a1 s4n "heldBack" "Z" (.int 0)) (P3 : Fld Z h0 a1 s4n "holder" s5n (.ref a4)) (P4 : Fld Z h0 a1 s4n s10n s0n (.ref wMAX_LOCK_DELAY)) (P5 : Fld Z h0 a1 s4n "waiters" s11n (.ref a5)) (P6 : Exa Z h0 a4 s3n) (P8 : Fld Z h0 a4 s3n "session" "J" (.long q2)) (P9 : Exa Z h0 a5 s7n) (P10 : Fld Z h0 a5 s7n "elements" s8n (.ref a7)) (P11 : Fld Z h0 a5 s7n "head" "I" (.int 0)) (P12 : Fld Z h0 a5 s7n "tail" "I" (.int 0)) (P13 : Arv Z h0 a7 k8 (.object s9n) (17 : Int32) ([.null, .null, .null, .null, .null, .null, .null, .null, .null, .null, .null, .null, .null, .null, .null, .null, .null]) .null) (P16 : n0 ≤ a1) :
    MetB l M30 prog_84_method_14_code 6 (some (.object s3n)) ws (rmk 4 1 4 53) Z h0 #[(.ref a1), (.long q2), (.int 1)] (Q_au26_1 Z wMAX_LOCK_DELAY wGRANTED wQUEUED wBUSY wZERO a1 q2 qg3 a4 a5 a7 k8 h0 n0) := by
  refine own_body (plainFor_of_name pn_com_example_umpired_umpired_server_NodeLock) ?_
  intro p e s m below meth c s₁ hx hby hml hown hnm hret0 hlk0 hZ X0 e0
  have N0 := Fr.nil n0
  have pre0 : ∀ t, Steps p.tables e below (s₁.setTop (mkF m 0 #[(vr a1), (vl q2), .second, (vi 1), .unset, .unset] [])) t → Steps p.tables e below (s₁.setTop (entryFrame m #[(.ref a1), (.long q2), (.int 1)] 6)) t := fun t k => castTop (ef_au26_1 m a1 q2 (1 : Int32)) k
  have K0 := Keep.refl h0 [a1]
  have hS0 := hS
  obtain ⟨S_wMAX_LOCK_DELAY, E_wMAX_LOCK_DELAY, S_wGRANTED, E_wGRANTED, S_wQUEUED, E_wQUEUED, S_wBUSY, E_wBUSY, F_seconds_wMAX_LOCK_DELAY, F_nanos_wMAX_LOCK_DELAY, S_wZERO, E_wZERO, F_seconds_wZERO, F_nanos_wZERO⟩ := hS0
  obtain ⟨T1, X1, e1, st1⟩ := getF X0 hx hZ hown (host := "") (Or.inl (ow hw 26 rfl)) Via.refl e0 P5 (g := (mkF m 1 #[(vr a1), (vl q2), .second, (vi 1), .unset, .unset] [(.ref a1)])) rfl rfl (hb hby d26_1)
  obtain ⟨cq2, kq2, q2a, q2b, q2c⟩ := isOf hZ e1 P9
  obtain ⟨_, _, ⟨T2, L2, k2, n2⟩, -, X2, ⟨Lc2, hQ2, l2, y2, z2⟩, st2⟩ := X1.interfaceBack hx (xi := M21) (y := M18) hown (mvT hZ (ow hw 113 rfl)) (mvT hZ (ow hw 114 rfl)) (mvT hZ (ow hw 115 rfl)) (mvT hZ (ow hw 116 rfl)) (mvT hZ (ow hw 117 rfl)) (mvT hZ (ow hw 118 rfl)) (mvT hZ (ow hw 119 rfl)) (mvT hZ (ow hw 95 rfl)) (by decide) (backOf (W := 0) (au17_0 l Z a0 hw [] wMAX_LOCK_DELAY wGRANTED wQUEUED wBUSY wZERO hS a5 a7 k8 h0 n0 O0 P9 P10 P11 P12 P13) hZ (ow hw 120 rfl) (ow hw 11 rfl) (by decide) (by decide)) q2a q2b q2c (g := (mkF m 4 #[(vr a1), (vl q2), .second, (vi 1), .unset, .unset] [(.ref a5)])) rfl (by rw [hml]; rfl) (Steps.refl _) (argsL := []) (rest := []) (lenOf pd_13 rfl) rfl (by show 2 * 0 + _ ≤ _; exact Nat.le_of_eq rfl) (hb hby d26_4) (fun _ _ => ⟨rfl, e1, (by decide : 0 + 1 ≤ _), (by decide : 0 + 4 ≤ _)⟩)
  dsimp only [Pt.U, Pt.locs, Pt.cells, Pt.slots] at X2 l2 y2 z2 st2 hQ2
  subst l2 y2 z2
  obtain ⟨e1_2, rfl, Nq2, K2q, p2_0, p2_1, p2_2, p2_3, p2_4, p2_5⟩ := hQ2
  have N2 := Fr.app N0 Nq2
  have ne3 : a1 ≠ e1_2 := Nat.ne_of_lt (Nat.lt_of_lt_of_le P0.lt p2_0)
  have ne4 : a4 ≠ e1_2 := Nat.ne_of_lt (Nat.lt_of_lt_of_le P6.lt p2_0)
  have ne5 : a5 ≠ e1_2 := Nat.ne_of_lt (Nat.lt_of_lt_of_le P9.lt p2_0)
  have ne6 : a7 ≠ e1_2 := Nat.ne_of_lt (Nat.lt_of_lt_of_le P13.lt p2_0)
  have g7 : n0 ≤ e1_2 := Nat.le_trans (own_sz O0) p2_0
  have sz8 : h0.size ≤ e1_2 := Nat.le_trans K0.1 p2_0
  have O9 : Old Z n0 T2.heap := O0.keep K2q all0
  have K9 : Keep h0 T2.heap [a1] := K0.trans K2q all0
  obtain ⟨cq10, kq10, q10a, q10b, q10c⟩ := isOf hZ rfl p2_1
  obtain ⟨_, _, ⟨T10, L10, k10, n10⟩, -, X10, ⟨Lc10, hQ10, l10, y10, z10⟩, st10⟩ := X2.interfaceBack hx (xi := M22) (y := M19) hown (mvT hZ (ow hw 148 rfl)) (mvT hZ (ow hw 149 rfl)) (mvT hZ (ow hw 150 rfl)) (mvT hZ (ow hw 151 rfl)) (mvT hZ (ow hw 152 rfl)) (mvT hZ (ow hw 153 rfl)) (mvT hZ (ow hw 154 rfl)) (mvT hZ (ow hw 155 rfl)) (by decide) (backOf (W := 0) (au21_0 l Z a0 hw [] wMAX_LOCK_DELAY wGRANTED wQUEUED wBUSY wZERO hS e1_2 T2.heap n0 O9 p2_4) hZ (ow hw 156 rfl) (ow hw 123 rfl) (by decide) (by decide)) q10a q10b q10c (g := (mkF m 13 #[(vr a1), (vl q2), .second, (vi 1), (vr e1_2), .unset] [(.ref e1_2)])) rfl (by rw [hml]; rfl) (Steps.refl _) (argsL := []) (rest := []) (lenOf pd_14 rfl) rfl (by show 2 * 0 + _ ≤ _; exact Nat.le_of_eq rfl) (hb hby d26_13) (fun _ _ => ⟨rfl, rfl, (by decide : 1 + 0 ≤ _), (by decide : 4 + 0 ≤ _)⟩)
  dsimp only [Pt.U, Pt.locs, Pt.cells, Pt.slots] at X10 l10 y10 z10 st10 hQ10
  subst l10 y10 z10
  obtain ⟨rfl, Nq10, K10q⟩ := hQ10
  have N10 := Fr.app N2 Nq10
  have f11 : Fld Z T2.heap a1 s4n "holder" s5n (.ref a4) := (P3.keep K2q nin0)
  have f12 : Exa Z T2.heap a4 s3n := (P6.keep K2q)
  have f13 : Fld Z T2.heap a4 s3n "session" "J" (.long q2) := (P8.keep K2q nin0)
  have f15 : Exa Z T2.heap a1 s4n := (P0.keep K2q)
  obtain ⟨cq14, kq14, q14a, q14b, q14c⟩ := isOf hZ K10q f15
  obtain ⟨_, _, ⟨T14, L14, k14, n14⟩, -, X14, ⟨Lc14, hQ14, l14, y14, z14⟩, st14⟩ := X10.virtualBack hx (y := M29) (z := M29) hown (mvT hZ (ow hw 214 rfl)) (mvT hZ (ow hw 215 rfl)) (notFace_of_selects (args := #[]) (mvT hZ (ow hw 217 rfl))) (mvT hZ (ow hw 217 rfl)) (mvT hZ (ow hw 216 rfl)) (by decide) (backOf (W := 0) (au30_0 l Z a0 hw [] wMAX_LOCK_DELAY wGRANTED wQUEUED wBUSY wZERO hS a1 q2 a4 T2.heap n0 O9 f11 f12 f13) hZ (ow hw 218 rfl) (ow hw 2 rfl) (by decide) (by decide)) q14a q14c (g := (mkF m 57 #[(vr a1), (vl q2), .second, (vi 1), (vr e1_2), .val .null] [(.long q2), (.ref a1)])) rfl (by rw [hml]; rfl) (Steps.refl _) (argsL := [(.long q2)]) (rest := []) (lenOf pd_3 rfl) rfl (by show 2 * 0 + _ ≤ _; exact Nat.le_of_eq rfl) (hb hby d26_57) (fun _ _ => ⟨rfl, K10q, (by decide : 1 + 0 ≤ _), (by decide : 4 + 0 ≤ _)⟩)
  dsimp only [Pt.U, Pt.locs, Pt.cells, Pt.slots] at X14 l14 y14 z14 st14 hQ14
  subst l14 y14 z14
  obtain ⟨rfl, Nq14, K14q⟩ := hQ14
  have N14 := Fr.app N10 Nq14
  obtain ⟨T16, h16, X16, e16, W16, st16⟩ := putF X14 hx hZ hown (host := "") (Or.inl (ow hw 51 rfl)) Via.refl K14q f11 f15 (Or.inl (ow hw 52 rfl)) (ow hw 1 rfl) (ty := (.object s3n)) (by decide) rfl rfl (g := (mkF m 65 #[(vr a1), (vl q2), .second, (vi 1), (vr e1_2), .val .null] [.null, (.ref a1)])) rfl rfl (hb hby d26_65)
  have N16 := Fr.snoc X16 N14 P16
  have O17 : Old Z n0 h16 := O9.wr W16 P16
  have K17 : Keep h0 h16 [a1] := K9.wr W16 (Or.inl (List.mem_of_getElem? (i := 0) rfl))
  have Fw16 : Fld Z h16 a1 s4n "holder" s5n .null := f11.same W16
  have f18 : Fld Z h16 a1 s4n s10n s0n (.ref wMAX_LOCK_DELAY) := ((P4.keep K2q nin0).other W16 (Or.inr (slot_ne (Or.inl (ow hw 31 rfl)) (Or.inl (ow hw 52 rfl)) (by decide) (t := (.object s1n)) (t' := (.object s3n)) (by decide) (by decide))))
  obtain ⟨T19, X19, e19, st19⟩ := getF X16 hx hZ hown (host := "") (Or.inl (ow hw 30 rfl)) Via.refl e16 f18 (g := (mkF m 74 #[(vr a1), (vl q2), .second, (vi 1), (vr e1_2), .val .null] [(.ref a1), (.ref a1)])) rfl rfl (hb hby d26_74)
  obtain ⟨cq20, kq20, q20a, q20b, q20c⟩ := isOf hZ e19 (E_wMAX_LOCK_DELAY.ext O17.2)
  obtain ⟨_, _, ⟨T20, L20, k20, n20⟩, -, X20, ⟨Lc20, hQ20, l20, y20, z20⟩, st20⟩ := X19.virtualBack hx (y := M31) (z := M31) hown (mvT hZ (ow hw 219 rfl)) (mvT hZ (ow hw 220 rfl)) (notFace_of_selects (args := #[]) (mvT hZ (ow hw 222 rfl))) (mvT hZ (ow hw 222 rfl)) (mvT hZ (ow hw 221 rfl)) (by decide) (backOf (W := 1) (au31_0 l Z a0 hw [] wMAX_LOCK_DELAY wGRANTED wQUEUED wBUSY wZERO hS  h16 n0 O17 ) hZ (ow hw 223 rfl) (ow hw 29 rfl) (by decide) (by decide)) q20a q20c (g := (mkF m 77 #[(vr a1), (vl q2), .second, (vi 1), (vr e1_2), .val .null] [(.ref wMAX_LOCK_DELAY), (.ref a1)])) rfl (by rw [hml]; rfl) (Steps.refl _) (argsL := []) (rest := [(.ref a1)]) (lenOf pd_14 rfl) rfl (by show 2 * 0 + _ ≤ _; exact Nat.le_of_eq rfl) (hb hby d26_77) (fun _ _ => ⟨rfl, e19, (by decide : 1 + 0 ≤ _), (by decide : 4 + 0 ≤ _)⟩)
  dsimp only [Pt.U, Pt.locs, Pt.cells, Pt.slots] at X20 l20 y20 z20 st20 hQ20
  subst l20 y20 z20
  obtain ⟨rfl, Nq20, K20q⟩ := hQ20
  have N20 := Fr.app N16 Nq20
  have f21 : Exa Z h16 a1 s4n := (f15.wr W16)
  have f22 : Fld Z h16 a1 s4n "heldBack" "Z" (.int 0) := ((P2.keep K2q nin0).other W16 (Or.inr (slot_ne (Or.inl (ow hw 69 rfl)) (Or.inl (ow hw 52 rfl)) (by decide) (t := .boolean) (t' := (.object s3n)) (by decide) (by decide))))
  obtain ⟨T23, h23, X23, e23, W23, st23⟩ := putFN X20 hx hZ hown (ow hw 68 rfl) Via.refl K20q f22 f21 (Or.inl (ow hw 69 rfl)) (ow hw 1 rfl) (ty := .boolean) (v' := (.int 1)) (by decide) rfl rfl (g := (mkF m 88 #[(vr a1), (vl q2), .second, (vi 1), (vr e1_2), .val .null] [(.int 1), (.ref a1)])) rfl rfl (hb hby d26_88)
  have N23 := Fr.snoc X23 N20 P16
  have O24 : Old Z n0 h23 := O17.wr W23 P16
  have K24 : Keep h0 h23 [a1] := K17.wr W23 (Or.inl (List.mem_of_getElem? (i := 0) rfl))
  have Fw23 : Fld Z h23 a1 s4n "heldBack" "Z" (.int 1) := f22.same W23
  obtain ⟨T25, X25, e25, st25⟩ := getF X23 hx hZ hown (host := "") (Or.inl (ow hw 68 rfl)) Via.refl e23 Fw23 (g := (mkF m 92 #[(vr a1), (vl q2), .second, (vi 1), (vr e1_2), .val .null] [(.ref a1)])) rfl rfl (hb hby d26_92)
  have f26 : Exa Z h23 a1 s4n := (f21.wr W23)
  have f27 : Fld Z h23 a1 s4n "generation" "J" (.long qg3) := (((P1.keep K2q nin0).other W16 (Or.inr (slot_ne (Or.inl (ow hw 75 rfl)) (Or.inl (ow hw 52 rfl)) (by decide) (t := .long) (t' := (.object s3n)) (by decide) (by decide)))).other W23 (Or.inr (slot_ne (Or.inl (ow hw 75 rfl)) (Or.inl (ow hw 69 rfl)) (by decide) (t := .long) (t' := .boolean) (by decide) (by decide))))
  have f28 : Fld Z h23 a1 s4n "holder" s5n .null := (Fw16.other W23 (Or.inr (slot_ne (Or.inl (ow hw 52 rfl)) (Or.inl (ow hw 69 rfl)) (by decide) (t := (.object s3n)) (t' := .boolean) (by decide) (by decide))))
  have f29 : Fld Z h23 a1 s4n s10n s0n (.ref wMAX_LOCK_DELAY) := (f18.other W23 (Or.inr (slot_ne (Or.inl (ow hw 31 rfl)) (Or.inl (ow hw 69 rfl)) (by decide) (t := (.object s1n)) (t' := .boolean) (by decide) (by decide))))
  have f30 : Fld Z h23 a1 s4n "waiters" s11n (.ref a5) := (((P5.keep K2q nin0).other W16 (Or.inr (slot_ne (Or.inr (ow hw 27 rfl)) (Or.inl (ow hw 52 rfl)) (by decide) (t := (.object s12n)) (t' := (.object s3n)) (by decide) (by decide)))).other W23 (Or.inr (slot_ne (Or.inr (ow hw 27 rfl)) (Or.inl (ow hw 69 rfl)) (by decide) (t := (.object s12n)) (t' := .boolean) (by decide) (by decide))))
  obtain ⟨fs, hr, hrun, hended, hW, hsame⟩ := X25.leave (v := some .null) (fun h => by rw [hret0] at h; cases h)
  refine ⟨_, _, pre0 _ ?_, hrun, hended, _, _, rfl, ?_, ⟨_, rfl⟩, hW, hsame.mono (by decide) (by decide)⟩
  · skip
    show Steps p.tables e below (s₁.setTop (mkF m 0 #[(vr a1), (vl q2), .second, (vi 1), .unset, .unset] [])) _
    refine XS.aloadN X0.here hx rfl (hb hby d26_0) rfl rfl ?_
    refine st1 _ ?_
    refine st2.trans ?_
    refine XS.astore X2.here hx rfl (hb hby d26_9) rfl rfl (l' := #[(vr a1), (vl q2), .second, (vi 1), (vr e1_2), .unset]) rfl ?_
    refine XS.aload X2.here hx rfl (hb hby d26_11) rfl rfl ?_
    show Steps p.tables e below (T2.setTop (mkF m 13 #[(vr a1), (vl q2), .second, (vi 1), (vr e1_2), .unset] [(.ref e1_2)])) _
    refine st10.trans ?_
    refine XS.ifYes X10.here hx rfl (pc0 := 18) (pc' := 52) rfl (hb hby d26_18) rfl ((if0 _ _).trans (teq (by decide : (0 : Int32) = (0 : Int32))).1) (by decide) (by decide) ?_
    refine XS.aconstNull X10.here hx rfl (hb hby d26_52) ?_
    refine XS.astore X10.here hx rfl (hb hby d26_53) rfl rfl (l' := #[(vr a1), (vl q2), .second, (vi 1), (vr e1_2), .val .null]) rfl ?_
    refine XS.aloadN X10.here hx rfl (hb hby d26_55) rfl rfl ?_
    show Steps p.tables e below (T10.setTop (mkF m 56 #[(vr a1), (vl q2), .second, (vi 1), (vr e1_2), .val .null] [(.ref a1)])) _
    refine XS.lloadN X10.here hx rfl (hb hby d26_56) rfl ?_
    refine st14.trans ?_
    refine XS.ifNo X14.here hx rfl (hb hby d26_60) rfl ((if0 _ _).trans (feq (by decide : ¬ ((1 : Int32) = (0 : Int32)))).1) ?_
    refine XS.aloadN X14.here hx rfl (hb hby d26_63) rfl rfl ?_
    refine XS.aconstNull X14.here hx rfl (hb hby d26_64) ?_
    show Steps p.tables e below (T14.setTop (mkF m 65 #[(vr a1), (vl q2), .second, (vi 1), (vr e1_2), .val .null] [.null, (.ref a1)])) _
    refine st16 _ ?_
    refine XS.aloadN X16.here hx rfl (hb hby d26_68) rfl rfl ?_
    refine XS.iloadN X16.here hx rfl (hb hby d26_69) rfl ?_
    refine XS.ifNo X16.here hx rfl (hb hby d26_70) rfl ((if0 _ _).trans (feq (by decide : ¬ ((1 : Int32) = (0 : Int32)))).1) ?_
    refine XS.aloadN X16.here hx rfl (hb hby d26_73) rfl rfl ?_
    show Steps p.tables e below (T16.setTop (mkF m 74 #[(vr a1), (vl q2), .second, (vi 1), (vr e1_2), .val .null] [(.ref a1), (.ref a1)])) _
    refine st19 _ ?_
    refine st20.trans ?_
    refine XS.ifNo X20.here hx rfl (hb hby d26_80) rfl ((if0 _ _).trans (teq (by decide : (0 : Int32) = (0 : Int32))).2) ?_
    refine XS.iconst X20.here hx rfl (hb hby d26_83) ?_
    refine XS.goto X20.here hx rfl (pc0 := 84) (pc' := 88) rfl (hb hby d26_84) (by decide) (by decide) ?_
    show Steps p.tables e below (T20.setTop (mkF m 88 #[(vr a1), (vl q2), .second, (vi 1), (vr e1_2), .val .null] [(.int 1), (.ref a1)])) _
    refine st23 _ ?_
    refine XS.aloadN X23.here hx rfl (hb hby d26_91) rfl rfl ?_
    refine st25 _ ?_
    refine XS.ifNo X25.here hx rfl (hb hby d26_95) rfl ((if0 _ _).trans (feq (by decide : ¬ ((1 : Int32) = (0 : Int32)))).1) ?_
    refine XS.aconstNull X25.here hx rfl (hb hby d26_98) ?_
    show Steps p.tables e below (T25.setTop (mkF m 99 #[(vr a1), (vl q2), .second, (vi 1), (vr e1_2), .val .null] [.null])) _
    refine XS.goto X25.here hx rfl (pc0 := 99) (pc' := 106) rfl (hb hby d26_99) (by decide) (by decide) ?_
    refine XS.astore X25.here hx rfl (hb hby d26_106) rfl rfl (l' := #[(vr a1), (vl q2), .second, (vi 1), (vr e1_2), .val .null]) rfl ?_
    refine XS.aload X25.here hx rfl (hb hby d26_108) rfl rfl ?_
    jvm_step X25.here [X25.here.top, hx, (hb hby d26_110), X25.method', hret0, Value.isRef, FieldType.isReference]
    first | (intro acts; rw [hr _ acts rfl rfl rfl]) | rw [hr _ _ rfl rfl rfl]
    exact Steps.refl _
  · show Q_au26_1 Z wMAX_LOCK_DELAY wGRANTED wQUEUED wBUSY wZERO a1 q2 qg3 a4 a5 a7 k8 h0 n0 _ T25.heap _
    rw [e25]
    exact ⟨rfl, N23, K24, f26, f27, Fw23, f28, f29, f30⟩
theorem ef_au26_2 (m : MethodId) (x0 : Addr) (x1 : Int64) (x2 : Int32)  : entryFrame m #[(.ref x0), (.long x1), (.int x2)] 6 = mkF m 0 #[(vr x0), (vl x1), .second, (vi x2), .unset, .unset] [] := by first | (simp [entryFrame, mkF, argsToLocals, Value.category]; done) | rfl
theorem ef_au30_1 (m : MethodId) (x0 : Addr) (x1 : Int64)  : entryFrame m #[(.ref x0), (.long x1)] 3 = mkF m 0 #[(vr x0), (vl x1), .second] [] := by first | (simp [entryFrame, mkF, argsToLocals, Value.category]; done) | rfl
def Q_au30_1 (Z : State) (wMAX_LOCK_DELAY : Addr) (wGRANTED : Addr) (wQUEUED : Addr) (wBUSY : Addr) (wZERO : Addr) (a1 : Addr) (q2 : Int64) (a4 : Addr) (h0 : Heap) (n0 : Nat) (v : Option Value) (h : Heap) (L : List Loc) : Prop := v = some (.int 1) ∧ Fr n0 L ∧ h = h0
theorem au30_1 (l : Launch) (Z : State) (a0 : Array Value) (hw : ∀ d ∈ tables_1, d.before a0 Z = true) (ws : List Jvm.Cond) (wMAX_LOCK_DELAY : Addr) (wGRANTED : Addr) (wQUEUED : Addr) (wBUSY : Addr) (wZERO : Addr) (hS : SS Z wMAX_LOCK_DELAY wGRANTED wQUEUED wBUSY wZERO) (a1 : Addr) (q2 : Int64) (a4 : Addr) (h0 : Heap) (n0 : Nat) (O0 : Old Z n0 h0) (P3 : Fld Z h0 a1 s4n "holder" s5n (.ref a4)) (P6 : Exa Z h0 a4 s3n) (P8 : Fld Z h0 a4 s3n "session" "J" (.long q2)) :
    MetB l M29 prog_84_method_7_code 3 (some .boolean) ws (rmk 1 0 0 12) Z h0 #[(.ref a1), (.long q2)] (Q_au30_1 Z wMAX_LOCK_DELAY wGRANTED wQUEUED wBUSY wZERO a1 q2 a4 h0 n0) := by
  refine own_body (plainFor_of_name pn_com_example_umpired_umpired_server_NodeLock) ?_
  intro p e s m below meth c s₁ hx hby hml hown hnm hret0 hlk0 hZ X0 e0
  have N0 := Fr.nil n0
  have pre0 : ∀ t, Steps p.tables e below (s₁.setTop (mkF m 0 #[(vr a1), (vl q2), .second] [])) t → Steps p.tables e below (s₁.setTop (entryFrame m #[(.ref a1), (.long q2)] 3)) t := fun t k => castTop (ef_au30_1 m a1 q2) k
  have hS0 := hS
  obtain ⟨S_wMAX_LOCK_DELAY, E_wMAX_LOCK_DELAY, S_wGRANTED, E_wGRANTED, S_wQUEUED, E_wQUEUED, S_wBUSY, E_wBUSY, F_seconds_wMAX_LOCK_DELAY, F_nanos_wMAX_LOCK_DELAY, S_wZERO, E_wZERO, F_seconds_wZERO, F_nanos_wZERO⟩ := hS0
  obtain ⟨T1, X1, e1, st1⟩ := getF X0 hx hZ hown (host := "") (Or.inl (ow hw 51 rfl)) Via.refl e0 P3 (g := (mkF m 1 #[(vr a1), (vl q2), .second] [(.ref a1)])) rfl rfl (hb hby d30_1)
  obtain ⟨T2, X2, e2, st2⟩ := getF X1 hx hZ hown (host := "") (Or.inl (ow hw 51 rfl)) Via.refl e1 P3 (g := (mkF m 8 #[(vr a1), (vl q2), .second] [(.ref a1)])) rfl rfl (hb hby d30_8)
  obtain ⟨cq3, kq3, q3a, q3b, q3c⟩ := isOf hZ e2 P6
  obtain ⟨_, _, ⟨T3, L3, k3, n3⟩, -, X3, ⟨Lc3, hQ3, l3, y3, z3⟩, st3⟩ := X2.virtualBack hx (y := M28) (z := M28) hown (mvT hZ (ow hw 209 rfl)) (mvT hZ (ow hw 210 rfl)) (notFace_of_selects (args := #[]) (mvT hZ (ow hw 212 rfl))) (mvT hZ (ow hw 212 rfl)) (mvT hZ (ow hw 211 rfl)) (by decide) (backOf (W := 0) (au29_0 l Z a0 hw [] wMAX_LOCK_DELAY wGRANTED wQUEUED wBUSY wZERO hS a4 q2 h0 n0 O0 P8) hZ (ow hw 213 rfl) (ow hw 37 rfl) (by decide) (by decide)) q3a q3c (g := (mkF m 11 #[(vr a1), (vl q2), .second] [(.ref a4)])) rfl (by rw [hml]; rfl) (Steps.refl _) (argsL := []) (rest := []) (lenOf pd_18 rfl) rfl (by show 2 * 0 + _ ≤ _; exact Nat.le_of_eq rfl) (hb hby d30_11) (fun _ _ => ⟨rfl, e2, (by decide : 0 + 0 ≤ _), (by decide : 0 + 0 ≤ _)⟩)
  dsimp only [Pt.U, Pt.locs, Pt.cells, Pt.slots] at X3 l3 y3 z3 st3 hQ3
  subst l3 y3 z3
  obtain ⟨rfl, Nq3, K3q⟩ := hQ3
  have N3 := Fr.app N0 Nq3
  obtain ⟨fs, hr, hrun, hended, hW, hsame⟩ := X3.leave (v := some (.int 1)) (fun h => by rw [hret0] at h; cases h)
  refine ⟨_, _, pre0 _ ?_, hrun, hended, _, _, rfl, ?_, ⟨_, rfl⟩, hW, hsame.mono (by decide) (by decide)⟩
  · skip
    show Steps p.tables e below (s₁.setTop (mkF m 0 #[(vr a1), (vl q2), .second] [])) _
    refine XS.aloadN X0.here hx rfl (hb hby d30_0) rfl rfl ?_
    refine st1 _ ?_
    refine XS.ifnullNo X1.here hx rfl (hb hby d30_4) rfl ?_
    refine XS.aloadN X1.here hx rfl (hb hby d30_7) rfl rfl ?_
    refine st2 _ ?_
    show Steps p.tables e below (T2.setTop (mkF m 11 #[(vr a1), (vl q2), .second] [(.ref a4)])) _
    refine st3.trans ?_
    refine XS.lloadN X3.here hx rfl (hb hby d30_14) rfl ?_
    refine XS.lcmp X3.here hx rfl (hb hby d30_15) rfl ?_
    refine XS.ifNo X3.here hx rfl (hb hby d30_16) rfl ((if0 _ _).trans (teq (own_lc _ : (lcmpW q2 q2) = (0 : Int32))).2) ?_
    refine XS.iconst X3.here hx rfl (hb hby d30_19) ?_
    show Steps p.tables e below (T3.setTop (mkF m 20 #[(vr a1), (vl q2), .second] [(.int 1)])) _
    refine XS.goto X3.here hx rfl (pc0 := 20) (pc' := 24) rfl (hb hby d30_20) (by decide) (by decide) ?_
    exact retN X3 hx (t := .boolean) hret0 (by simp) (hb hby d30_24) hr
  · show Q_au30_1 Z wMAX_LOCK_DELAY wGRANTED wQUEUED wBUSY wZERO a1 q2 a4 h0 n0 _ T3.heap _
    rw [K3q]
    exact ⟨rfl, N3, rfl⟩
theorem ef_au12_3 (m : MethodId) (x0 : Addr)  : entryFrame m #[(.ref x0)] 2 = mkF m 0 #[(vr x0), .unset] [] := by first | (simp [entryFrame, mkF, argsToLocals, Value.category]; done) | rfl
def Q_au12_3 (Z : State) (wMAX_LOCK_DELAY : Addr) (wGRANTED : Addr) (wQUEUED : Addr) (wBUSY : Addr) (wZERO : Addr) (a1 : Addr) (a3 : Addr) (a4 : Addr) (k5 : ClassId) (h0 : Heap) (n0 : Nat) (v : Option Value) (h : Heap) (L : List Loc) : Prop := v = some .null ∧ Fr n0 L ∧ h = h0
theorem au12_3 (l : Launch) (Z : State) (a0 : Array Value) (hw : ∀ d ∈ tables_1, d.before a0 Z = true) (ws : List Jvm.Cond) (wMAX_LOCK_DELAY : Addr) (wGRANTED : Addr) (wQUEUED : Addr) (wBUSY : Addr) (wZERO : Addr) (hS : SS Z wMAX_LOCK_DELAY wGRANTED wQUEUED wBUSY wZERO) (a1 : Addr) (a3 : Addr) (a4 : Addr) (k5 : ClassId) (h0 : Heap) (n0 : Nat) (O0 : Old Z n0 h0) (P5 : Fld Z h0 a1 s4n "waiters" s11n (.ref a3)) (P6 : Exa Z h0 a3 s7n) (P7 : Fld Z h0 a3 s7n "elements" s8n (.ref a4)) (P8 : Fld Z h0 a3 s7n "head" "I" (.int 0)) (P10 : Arv Z h0 a4 k5 (.object s9n) (17 : Int32) ([.null, .null, .null, .null, .null, .null, .null, .null, .null, .null, .null, .null, .null, .null, .null, .null, .null]) .null) :
    MetB l M12 prog_84_method_22_code 2 (some (.object s3n)) ws (rmk 3 0 0 40) Z h0 #[(.ref a1)] (Q_au12_3 Z wMAX_LOCK_DELAY wGRANTED wQUEUED wBUSY wZERO a1 a3 a4 k5 h0 n0) := by
  refine own_body (plainFor_of_name pn_com_example_umpired_umpired_server_NodeLock) ?_
  intro p e s m below meth c s₁ hx hby hml hown hnm hret0 hlk0 hZ X0 e0
  have N0 := Fr.nil n0
  have pre0 : ∀ t, Steps p.tables e below (s₁.setTop (mkF m 0 #[(vr a1), .unset] [])) t → Steps p.tables e below (s₁.setTop (entryFrame m #[(.ref a1)] 2)) t := fun t k => castTop (ef_au12_3 m a1) k
  have hS0 := hS
  obtain ⟨S_wMAX_LOCK_DELAY, E_wMAX_LOCK_DELAY, S_wGRANTED, E_wGRANTED, S_wQUEUED, E_wQUEUED, S_wBUSY, E_wBUSY, F_seconds_wMAX_LOCK_DELAY, F_nanos_wMAX_LOCK_DELAY, S_wZERO, E_wZERO, F_seconds_wZERO, F_nanos_wZERO⟩ := hS0
  obtain ⟨T1, X1, e1, st1⟩ := getF X0 hx hZ hown (host := "") (Or.inl (ow hw 26 rfl)) Via.refl e0 P5 (g := (mkF m 1 #[(vr a1), .unset] [(.ref a1)])) rfl rfl (hb hby d12_1)
  obtain ⟨cq2, kq2, q2a, q2b, q2c⟩ := isOf hZ e1 P6
  obtain ⟨_, _, ⟨T2, L2, k2, n2⟩, -, X2, ⟨Lc2, hQ2, l2, y2, z2⟩, st2⟩ := X1.interfaceBack hx (xi := M13) (y := M11) hown (mvT hZ (ow hw 88 rfl)) (mvT hZ (ow hw 89 rfl)) (mvT hZ (ow hw 90 rfl)) (mvT hZ (ow hw 91 rfl)) (mvT hZ (ow hw 92 rfl)) (mvT hZ (ow hw 93 rfl)) (mvT hZ (ow hw 94 rfl)) (mvT hZ (ow hw 95 rfl)) (by decide) (backOf (W := 0) (au13_0 l Z a0 hw [] wMAX_LOCK_DELAY wGRANTED wQUEUED wBUSY wZERO hS a3 a4 k5 h0 n0 O0 P6 P7 P8 P10) hZ (ow hw 96 rfl) (ow hw 11 rfl) (by decide) (by decide)) q2a q2b q2c (g := (mkF m 4 #[(vr a1), .unset] [(.ref a3)])) rfl (by rw [hml]; rfl) (Steps.refl _) (argsL := []) (rest := []) (lenOf pd_8 rfl) rfl (by show 2 * 0 + _ ≤ _; exact Nat.le_of_eq rfl) (hb hby d12_4) (fun _ _ => ⟨rfl, e1, (by decide : 0 + 0 ≤ _), (by decide : 0 + 0 ≤ _)⟩)
  dsimp only [Pt.U, Pt.locs, Pt.cells, Pt.slots] at X2 l2 y2 z2 st2 hQ2
  subst l2 y2 z2
  obtain ⟨rfl, Nq2, K2q⟩ := hQ2
  have N2 := Fr.app N0 Nq2
  obtain ⟨fs, hr, hrun, hended, hW, hsame⟩ := X2.leave (v := some .null) (fun h => by rw [hret0] at h; cases h)
  refine ⟨_, _, pre0 _ ?_, hrun, hended, _, _, rfl, ?_, ⟨_, rfl⟩, hW, hsame.mono (by decide) (by decide)⟩
  · skip
    show Steps p.tables e below (s₁.setTop (mkF m 0 #[(vr a1), .unset] [])) _
    refine XS.aloadN X0.here hx rfl (hb hby d12_0) rfl rfl ?_
    refine st1 _ ?_
    refine st2.trans ?_
    refine X2.checkcastNull hx (g := (mkF m 9 #[(vr a1), .unset] [.null])) rfl rfl (hb hby d12_9) _ ?_
    refine XS.astoreN X2.here hx rfl (hb hby d12_12) rfl rfl (l' := #[(vr a1), .val .null]) rfl ?_
    show Steps p.tables e below (T2.setTop (mkF m 13 #[(vr a1), .val .null] [])) _
    refine XS.aloadN X2.here hx rfl (hb hby d12_13) rfl rfl ?_
    refine XS.ifnullYes X2.here hx rfl (pc0 := 14) (pc' := 29) rfl (hb hby d12_14) rfl (by decide) (by decide) ?_
    refine XS.aloadN X2.here hx rfl (hb hby d12_29) rfl rfl ?_
    refine XS.ifnonnullNo X2.here hx rfl (hb hby d12_30) rfl ?_
    refine XS.aconstNull X2.here hx rfl (hb hby d12_33) ?_
    show Steps p.tables e below (T2.setTop (mkF m 34 #[(vr a1), .val .null] [.null])) _
    refine XS.goto X2.here hx rfl (pc0 := 34) (pc' := 41) rfl (hb hby d12_34) (by decide) (by decide) ?_
    jvm_step X2.here [X2.here.top, hx, (hb hby d12_41), X2.method', hret0, Value.isRef, FieldType.isReference]
    first | (intro acts; rw [hr _ acts rfl rfl rfl]) | rw [hr _ _ rfl rfl rfl]
    exact Steps.refl _
  · show Q_au12_3 Z wMAX_LOCK_DELAY wGRANTED wQUEUED wBUSY wZERO a1 a3 a4 k5 h0 n0 _ T2.heap _
    rw [K2q]
    exact ⟨rfl, N2, rfl⟩
def Q_au26_2 (Z : State) (wMAX_LOCK_DELAY : Addr) (wGRANTED : Addr) (wQUEUED : Addr) (wBUSY : Addr) (wZERO : Addr) (a1 : Addr) (q2 : Int64) (qg3 : Int64) (a4 : Addr) (a5 : Addr) (a7 : Addr) (k8 : ClassId) (h0 : Heap) (n0 : Nat) (v : Option Value) (h : Heap) (L : List Loc) : Prop := v = some .null ∧ Fr n0 L ∧ Keep h0 h [a1] ∧ Exa Z h a1 s4n ∧ Fld Z h a1 s4n "generation" "J" (.long qg3) ∧ Fld Z h a1 s4n "heldBack" "Z" (.int 0) ∧ Fld Z h a1 s4n "holder" s5n .null ∧ Fld Z h a1 s4n s10n s0n (.ref wZERO) ∧ Fld Z h a1 s4n "waiters" s11n (.ref a5)
theorem au26_2 (l : Launch) (Z : State) (a0 : Array Value) (hw : ∀ d ∈ tables_1, d.before a0 Z = true) (ws : List Jvm.Cond) (wMAX_LOCK_DELAY : Addr) (wGRANTED : Addr) (wQUEUED : Addr) (wBUSY : Addr) (wZERO : Addr) (hS : SS Z wMAX_LOCK_DELAY wGRANTED wQUEUED wBUSY wZERO) (a1 : Addr) (q2 : Int64) (qg3 : Int64) (a4 : Addr) (a5 : Addr) (a7 : Addr) (k8 : ClassId) (h0 : Heap) (n0 : Nat) (O0 : Old Z n0 h0) (P0 : Exa Z h0 a1 s4n) (P1 : Fld Z h0 a1 s4n "generation" "J" (.long qg3)) (P2 : Fld Z h0 a1 s4n "heldBack" "Z" (.int 0)) (P3 : Fld Z h0 a1 s4n "holder" s5n (.ref a4)) (P4 : Fld Z h0 a1 s4n s10n s0n (.ref wZERO)) (P5 : Fld Z h0 a1 s4n "waiters" s11n (.ref a5)) (P6 : Exa Z h0 a4 s3n) (P8 : Fld Z h0 a4 s3n "session" "J" (.long q2)) (P9 : Exa Z h0 a5 s7n) (P10 : Fld Z h0 a5 s7n "elements" s8n (.ref a7)) (P11 : Fld Z h0 a5 s7n "head" "I" (.int 0)) (P12 : Fld Z h0 a5 s7n "tail" "I" (.int 0)) (P13 : Arv Z h0 a7 k8 (.object s9n) (17 : Int32) ([.null, .null, .null, .null, .null, .null, .null, .null, .null, .null, .null, .null, .null, .null, .null, .null, .null]) .null) (P16 : n0 ≤ a1) (P21 : a1 ≠ a5) (P22 : a1 ≠ a7) :
    MetB l M30 prog_84_method_14_code 6 (some (.object s3n)) ws (rmk 4 1 4 53) Z h0 #[(.ref a1), (.long q2), (.int 0)] (Q_au26_2 Z wMAX_LOCK_DELAY wGRANTED wQUEUED wBUSY wZERO a1 q2 qg3 a4 a5 a7 k8 h0 n0) := by
  refine own_body (plainFor_of_name pn_com_example_umpired_umpired_server_NodeLock) ?_
  intro p e s m below meth c s₁ hx hby hml hown hnm hret0 hlk0 hZ X0 e0
  have N0 := Fr.nil n0
  have pre0 : ∀ t, Steps p.tables e below (s₁.setTop (mkF m 0 #[(vr a1), (vl q2), .second, (vi 0), .unset, .unset] [])) t → Steps p.tables e below (s₁.setTop (entryFrame m #[(.ref a1), (.long q2), (.int 0)] 6)) t := fun t k => castTop (ef_au26_2 m a1 q2 (0 : Int32)) k
  have K0 := Keep.refl h0 [a1]
  have hS0 := hS
  obtain ⟨S_wMAX_LOCK_DELAY, E_wMAX_LOCK_DELAY, S_wGRANTED, E_wGRANTED, S_wQUEUED, E_wQUEUED, S_wBUSY, E_wBUSY, F_seconds_wMAX_LOCK_DELAY, F_nanos_wMAX_LOCK_DELAY, S_wZERO, E_wZERO, F_seconds_wZERO, F_nanos_wZERO⟩ := hS0
  obtain ⟨T1, X1, e1, st1⟩ := getF X0 hx hZ hown (host := "") (Or.inl (ow hw 26 rfl)) Via.refl e0 P5 (g := (mkF m 1 #[(vr a1), (vl q2), .second, (vi 0), .unset, .unset] [(.ref a1)])) rfl rfl (hb hby d26_1)
  obtain ⟨cq2, kq2, q2a, q2b, q2c⟩ := isOf hZ e1 P9
  obtain ⟨_, _, ⟨T2, L2, k2, n2⟩, -, X2, ⟨Lc2, hQ2, l2, y2, z2⟩, st2⟩ := X1.interfaceBack hx (xi := M21) (y := M18) hown (mvT hZ (ow hw 113 rfl)) (mvT hZ (ow hw 114 rfl)) (mvT hZ (ow hw 115 rfl)) (mvT hZ (ow hw 116 rfl)) (mvT hZ (ow hw 117 rfl)) (mvT hZ (ow hw 118 rfl)) (mvT hZ (ow hw 119 rfl)) (mvT hZ (ow hw 95 rfl)) (by decide) (backOf (W := 0) (au17_0 l Z a0 hw [] wMAX_LOCK_DELAY wGRANTED wQUEUED wBUSY wZERO hS a5 a7 k8 h0 n0 O0 P9 P10 P11 P12 P13) hZ (ow hw 120 rfl) (ow hw 11 rfl) (by decide) (by decide)) q2a q2b q2c (g := (mkF m 4 #[(vr a1), (vl q2), .second, (vi 0), .unset, .unset] [(.ref a5)])) rfl (by rw [hml]; rfl) (Steps.refl _) (argsL := []) (rest := []) (lenOf pd_13 rfl) rfl (by show 2 * 0 + _ ≤ _; exact Nat.le_of_eq rfl) (hb hby d26_4) (fun _ _ => ⟨rfl, e1, (by decide : 0 + 1 ≤ _), (by decide : 0 + 4 ≤ _)⟩)
  dsimp only [Pt.U, Pt.locs, Pt.cells, Pt.slots] at X2 l2 y2 z2 st2 hQ2
  subst l2 y2 z2
  obtain ⟨e1_2, rfl, Nq2, K2q, p2_0, p2_1, p2_2, p2_3, p2_4, p2_5⟩ := hQ2
  have N2 := Fr.app N0 Nq2
  have ne3 : a1 ≠ e1_2 := Nat.ne_of_lt (Nat.lt_of_lt_of_le P0.lt p2_0)
  have ne4 : a4 ≠ e1_2 := Nat.ne_of_lt (Nat.lt_of_lt_of_le P6.lt p2_0)
  have ne5 : a5 ≠ e1_2 := Nat.ne_of_lt (Nat.lt_of_lt_of_le P9.lt p2_0)
  have ne6 : a7 ≠ e1_2 := Nat.ne_of_lt (Nat.lt_of_lt_of_le P13.lt p2_0)
  have g7 : n0 ≤ e1_2 := Nat.le_trans (own_sz O0) p2_0
  have sz8 : h0.size ≤ e1_2 := Nat.le_trans K0.1 p2_0
  have O9 : Old Z n0 T2.heap := O0.keep K2q all0
  have K9 : Keep h0 T2.heap [a1] := K0.trans K2q all0
  obtain ⟨cq10, kq10, q10a, q10b, q10c⟩ := isOf hZ rfl p2_1
  obtain ⟨_, _, ⟨T10, L10, k10, n10⟩, -, X10, ⟨Lc10, hQ10, l10, y10, z10⟩, st10⟩ := X2.interfaceBack hx (xi := M22) (y := M19) hown (mvT hZ (ow hw 148 rfl)) (mvT hZ (ow hw 149 rfl)) (mvT hZ (ow hw 150 rfl)) (mvT hZ (ow hw 151 rfl)) (mvT hZ (ow hw 152 rfl)) (mvT hZ (ow hw 153 rfl)) (mvT hZ (ow hw 154 rfl)) (mvT hZ (ow hw 155 rfl)) (by decide) (backOf (W := 0) (au21_0 l Z a0 hw [] wMAX_LOCK_DELAY wGRANTED wQUEUED wBUSY wZERO hS e1_2 T2.heap n0 O9 p2_4) hZ (ow hw 156 rfl) (ow hw 123 rfl) (by decide) (by decide)) q10a q10b q10c (g := (mkF m 13 #[(vr a1), (vl q2), .second, (vi 0), (vr e1_2), .unset] [(.ref e1_2)])) rfl (by rw [hml]; rfl) (Steps.refl _) (argsL := []) (rest := []) (lenOf pd_14 rfl) rfl (by show 2 * 0 + _ ≤ _; exact Nat.le_of_eq rfl) (hb hby d26_13) (fun _ _ => ⟨rfl, rfl, (by decide : 1 + 0 ≤ _), (by decide : 4 + 0 ≤ _)⟩)
  dsimp only [Pt.U, Pt.locs, Pt.cells, Pt.slots] at X10 l10 y10 z10 st10 hQ10
  subst l10 y10 z10
  obtain ⟨rfl, Nq10, K10q⟩ := hQ10
  have N10 := Fr.app N2 Nq10
  have f11 : Fld Z T2.heap a1 s4n "holder" s5n (.ref a4) := (P3.keep K2q nin0)
  have f12 : Exa Z T2.heap a4 s3n := (P6.keep K2q)
  have f13 : Fld Z T2.heap a4 s3n "session" "J" (.long q2) := (P8.keep K2q nin0)
  have f15 : Exa Z T2.heap a1 s4n := (P0.keep K2q)
  obtain ⟨cq14, kq14, q14a, q14b, q14c⟩ := isOf hZ K10q f15
  obtain ⟨_, _, ⟨T14, L14, k14, n14⟩, -, X14, ⟨Lc14, hQ14, l14, y14, z14⟩, st14⟩ := X10.virtualBack hx (y := M29) (z := M29) hown (mvT hZ (ow hw 214 rfl)) (mvT hZ (ow hw 215 rfl)) (notFace_of_selects (args := #[]) (mvT hZ (ow hw 217 rfl))) (mvT hZ (ow hw 217 rfl)) (mvT hZ (ow hw 216 rfl)) (by decide) (backOf (W := 0) (au30_1 l Z a0 hw [] wMAX_LOCK_DELAY wGRANTED wQUEUED wBUSY wZERO hS a1 q2 a4 T2.heap n0 O9 f11 f12 f13) hZ (ow hw 218 rfl) (ow hw 2 rfl) (by decide) (by decide)) q14a q14c (g := (mkF m 57 #[(vr a1), (vl q2), .second, (vi 0), (vr e1_2), .val .null] [(.long q2), (.ref a1)])) rfl (by rw [hml]; rfl) (Steps.refl _) (argsL := [(.long q2)]) (rest := []) (lenOf pd_3 rfl) rfl (by show 2 * 0 + _ ≤ _; exact Nat.le_of_eq rfl) (hb hby d26_57) (fun _ _ => ⟨rfl, K10q, (by decide : 1 + 0 ≤ _), (by decide : 4 + 0 ≤ _)⟩)
  dsimp only [Pt.U, Pt.locs, Pt.cells, Pt.slots] at X14 l14 y14 z14 st14 hQ14
  subst l14 y14 z14
  obtain ⟨rfl, Nq14, K14q⟩ := hQ14
  have N14 := Fr.app N10 Nq14
  obtain ⟨T16, h16, X16, e16, W16, st16⟩ := putF X14 hx hZ hown (host := "") (Or.inl (ow hw 51 rfl)) Via.refl K14q f11 f15 (Or.inl (ow hw 52 rfl)) (ow hw 1 rfl) (ty := (.object s3n)) (by decide) rfl rfl (g := (mkF m 65 #[(vr a1), (vl q2), .second, (vi 0), (vr e1_2), .val .null] [.null, (.ref a1)])) rfl rfl (hb hby d26_65)
  have N16 := Fr.snoc X16 N14 P16
  have O17 : Old Z n0 h16 := O9.wr W16 P16
  have K17 : Keep h0 h16 [a1] := K9.wr W16 (Or.inl (List.mem_of_getElem? (i := 0) rfl))
  have Fw16 : Fld Z h16 a1 s4n "holder" s5n .null := f11.same W16
  have f18 : Exa Z h16 a1 s4n := (f15.wr W16)
  have f19 : Fld Z h16 a1 s4n "heldBack" "Z" (.int 0) := ((P2.keep K2q nin0).other W16 (Or.inr (slot_ne (Or.inl (ow hw 69 rfl)) (Or.inl (ow hw 52 rfl)) (by decide) (t := .boolean) (t' := (.object s3n)) (by decide) (by decide))))
  obtain ⟨T20, h20, X20, e20, W20, st20⟩ := putFN X16 hx hZ hown (ow hw 68 rfl) Via.refl e16 f19 f18 (Or.inl (ow hw 69 rfl)) (ow hw 1 rfl) (ty := .boolean) (v' := (.int 0)) (by decide) rfl rfl (g := (mkF m 88 #[(vr a1), (vl q2), .second, (vi 0), (vr e1_2), .val .null] [(.int 0), (.ref a1)])) rfl rfl (hb hby d26_88)
  have N20 := Fr.snoc X20 N16 P16
  have O21 : Old Z n0 h20 := O17.wr W20 P16
  have K21 : Keep h0 h20 [a1] := K17.wr W20 (Or.inl (List.mem_of_getElem? (i := 0) rfl))
  have Fw20 : Fld Z h20 a1 s4n "heldBack" "Z" (.int 0) := f19.same W20
  obtain ⟨T22, X22, e22, st22⟩ := getF X20 hx hZ hown (host := "") (Or.inl (ow hw 68 rfl)) Via.refl e20 Fw20 (g := (mkF m 92 #[(vr a1), (vl q2), .second, (vi 0), (vr e1_2), .val .null] [(.ref a1)])) rfl rfl (hb hby d26_92)
  have f23 : Fld Z h20 a1 s4n "waiters" s11n (.ref a5) := (((P5.keep K2q nin0).other W16 (Or.inr (slot_ne (Or.inr (ow hw 27 rfl)) (Or.inl (ow hw 52 rfl)) (by decide) (t := (.object s12n)) (t' := (.object s3n)) (by decide) (by decide)))).other W20 (Or.inr (slot_ne (Or.inr (ow hw 27 rfl)) (Or.inl (ow hw 69 rfl)) (by decide) (t := (.object s12n)) (t' := .boolean) (by decide) (by decide))))
  have f24 : Exa Z h20 a5 s7n := (((P9.keep K2q).wr W16).wr W20)
  have f25 : Fld Z h20 a5 s7n "elements" s8n (.ref a7) := (((P10.keep K2q nin0).other W16 (Or.inl (Ne.symm P21))).other W20 (Or.inl (Ne.symm P21)))
  have f26 : Fld Z h20 a5 s7n "head" "I" (.int 0) := (((P11.keep K2q nin0).other W16 (Or.inl (Ne.symm P21))).other W20 (Or.inl (Ne.symm P21)))
  have f27 : Arv Z h20 a7 k8 (.object s9n) (17 : Int32) ([.null, .null, .null, .null, .null, .null, .null, .null, .null, .null, .null, .null, .null, .null, .null, .null, .null]) .null := (((P13.keep K2q nin0).other W16 (Ne.symm P22)).other W20 (Ne.symm P22))
  have f29 : Exa Z h20 a1 s4n := (f18.wr W20)
  obtain ⟨cq28, q28, q28'⟩ := f29.cell
  obtain ⟨_, _, ⟨T28, L28, k28, n28⟩, -, X28, ⟨Lc28, hQ28, l28, y28, z28⟩, st28⟩ := X22.privateBack hx (y := M12) hown (mvT hZ (ow hw 84 rfl)) (mvT hZ (ow hw 85 rfl)) (own_selp (mvT hZ (ow hw 1 rfl)) (mvP hZ (ow hw 86 rfl)) (mvT hZ (ow hw 85 rfl)) (by decide)) (Cond.privateMethod_at (mvP hZ (ow hw 86 rfl) (args := #[]))) (mvT hZ (ow hw 87 rfl)) (by decide) (backOf (W := 0) (au12_3 l Z a0 hw [] wMAX_LOCK_DELAY wGRANTED wQUEUED wBUSY wZERO hS a1 a5 a7 k8 h20 n0 O21 f23 f24 f25 f26 f27) hZ (ow hw 87 rfl) (ow hw 2 rfl) (by decide) (by decide)) (g := (mkF m 103 #[(vr a1), (vl q2), .second, (vi 0), (vr e1_2), .val .null] [(.ref a1)])) rfl (by rw [hml]; rfl) (Steps.refl _) (a := a1) (by rw [e22]; exact q28) q28' (argsL := []) (rest := []) (lenOf pd_9 rfl) rfl (by show 2 * 0 + _ ≤ _; exact Nat.le_of_eq rfl) (hb hby d26_103) (fun _ _ => ⟨rfl, e22, (by decide : 1 + 0 ≤ _), (by decide : 4 + 0 ≤ _)⟩)
  dsimp only [Pt.U, Pt.locs, Pt.cells, Pt.slots] at X28 l28 y28 z28 st28 hQ28
  subst l28 y28 z28
  obtain ⟨rfl, Nq28, K28q⟩ := hQ28
  have N28 := Fr.app N20 Nq28
  have f30 : Fld Z h20 a1 s4n "generation" "J" (.long qg3) := (((P1.keep K2q nin0).other W16 (Or.inr (slot_ne (Or.inl (ow hw 75 rfl)) (Or.inl (ow hw 52 rfl)) (by decide) (t := .long) (t' := (.object s3n)) (by decide) (by decide)))).other W20 (Or.inr (slot_ne (Or.inl (ow hw 75 rfl)) (Or.inl (ow hw 69 rfl)) (by decide) (t := .long) (t' := .boolean) (by decide) (by decide))))
  have f31 : Fld Z h20 a1 s4n "holder" s5n .null := (Fw16.other W20 (Or.inr (slot_ne (Or.inl (ow hw 52 rfl)) (Or.inl (ow hw 69 rfl)) (by decide) (t := (.object s3n)) (t' := .boolean) (by decide) (by decide))))
  have f32 : Fld Z h20 a1 s4n s10n s0n (.ref wZERO) := (((P4.keep K2q nin0).other W16 (Or.inr (slot_ne (Or.inl (ow hw 31 rfl)) (Or.inl (ow hw 52 rfl)) (by decide) (t := (.object s1n)) (t' := (.object s3n)) (by decide) (by decide)))).other W20 (Or.inr (slot_ne (Or.inl (ow hw 31 rfl)) (Or.inl (ow hw 69 rfl)) (by decide) (t := (.object s1n)) (t' := .boolean) (by decide) (by decide))))
  obtain ⟨fs, hr, hrun, hended, hW, hsame⟩ := X28.leave (v := some .null) (fun h => by rw [hret0] at h; cases h)
  refine ⟨_, _, pre0 _ ?_, hrun, hended, _, _, rfl, ?_, ⟨_, rfl⟩, hW, hsame.mono (by decide) (by decide)⟩
  · skip
    show Steps p.tables e below (s₁.setTop (mkF m 0 #[(vr a1), (vl q2), .second, (vi 0), .unset, .unset] [])) _
    refine XS.aloadN X0.here hx rfl (hb hby d26_0) rfl rfl ?_
    refine st1 _ ?_
    refine st2.trans ?_
    refine XS.astore X2.here hx rfl (hb hby d26_9) rfl rfl (l' := #[(vr a1), (vl q2), .second, (vi 0), (vr e1_2), .unset]) rfl ?_
    refine XS.aload X2.here hx rfl (hb hby d26_11) rfl rfl ?_
    show Steps p.tables e below (T2.setTop (mkF m 13 #[(vr a1), (vl q2), .second, (vi 0), (vr e1_2), .unset] [(.ref e1_2)])) _
    refine st10.trans ?_
    refine XS.ifYes X10.here hx rfl (pc0 := 18) (pc' := 52) rfl (hb hby d26_18) rfl ((if0 _ _).trans (teq (by decide : (0 : Int32) = (0 : Int32))).1) (by decide) (by decide) ?_
    refine XS.aconstNull X10.here hx rfl (hb hby d26_52) ?_
    refine XS.astore X10.here hx rfl (hb hby d26_53) rfl rfl (l' := #[(vr a1), (vl q2), .second, (vi 0), (vr e1_2), .val .null]) rfl ?_
    refine XS.aloadN X10.here hx rfl (hb hby d26_55) rfl rfl ?_
    show Steps p.tables e below (T10.setTop (mkF m 56 #[(vr a1), (vl q2), .second, (vi 0), (vr e1_2), .val .null] [(.ref a1)])) _
    refine XS.lloadN X10.here hx rfl (hb hby d26_56) rfl ?_
    refine st14.trans ?_
    refine XS.ifNo X14.here hx rfl (hb hby d26_60) rfl ((if0 _ _).trans (feq (by decide : ¬ ((1 : Int32) = (0 : Int32)))).1) ?_
    refine XS.aloadN X14.here hx rfl (hb hby d26_63) rfl rfl ?_
    refine XS.aconstNull X14.here hx rfl (hb hby d26_64) ?_
    show Steps p.tables e below (T14.setTop (mkF m 65 #[(vr a1), (vl q2), .second, (vi 0), (vr e1_2), .val .null] [.null, (.ref a1)])) _
    refine st16 _ ?_
    refine XS.aloadN X16.here hx rfl (hb hby d26_68) rfl rfl ?_
    refine XS.iloadN X16.here hx rfl (hb hby d26_69) rfl ?_
    refine XS.ifYes X16.here hx rfl (pc0 := 70) (pc' := 87) rfl (hb hby d26_70) rfl ((if0 _ _).trans (teq (by decide : (0 : Int32) = (0 : Int32))).1) (by decide) (by decide) ?_
    refine XS.iconst X16.here hx rfl (hb hby d26_87) ?_
    show Steps p.tables e below (T16.setTop (mkF m 88 #[(vr a1), (vl q2), .second, (vi 0), (vr e1_2), .val .null] [(.int 0), (.ref a1)])) _
    refine st20 _ ?_
    refine XS.aloadN X20.here hx rfl (hb hby d26_91) rfl rfl ?_
    refine st22 _ ?_
    refine XS.ifYes X22.here hx rfl (pc0 := 95) (pc' := 102) rfl (hb hby d26_95) rfl ((if0 _ _).trans (teq (by decide : (0 : Int32) = (0 : Int32))).1) (by decide) (by decide) ?_
    refine XS.aloadN X22.here hx rfl (hb hby d26_102) rfl rfl ?_
    show Steps p.tables e below (T22.setTop (mkF m 103 #[(vr a1), (vl q2), .second, (vi 0), (vr e1_2), .val .null] [(.ref a1)])) _
    refine st28.trans ?_
    refine XS.astore X28.here hx rfl (hb hby d26_106) rfl rfl (l' := #[(vr a1), (vl q2), .second, (vi 0), (vr e1_2), .val .null]) rfl ?_
    refine XS.aload X28.here hx rfl (hb hby d26_108) rfl rfl ?_
    jvm_step X28.here [X28.here.top, hx, (hb hby d26_110), X28.method', hret0, Value.isRef, FieldType.isReference]
    first | (intro acts; rw [hr _ acts rfl rfl rfl]) | rw [hr _ _ rfl rfl rfl]
    exact Steps.refl _
  · show Q_au26_2 Z wMAX_LOCK_DELAY wGRANTED wQUEUED wBUSY wZERO a1 q2 qg3 a4 a5 a7 k8 h0 n0 _ T28.heap _
    rw [K28q]
    exact ⟨rfl, N28, K21, f29, f30, Fw20, f31, f32, f23⟩
theorem ef_au26_3 (m : MethodId) (x0 : Addr) (x1 : Int64) (x2 : Int32)  : entryFrame m #[(.ref x0), (.long x1), (.int x2)] 6 = mkF m 0 #[(vr x0), (vl x1), .second, (vi x2), .unset, .unset] [] := by first | (simp [entryFrame, mkF, argsToLocals, Value.category]; done) | rfl
theorem ef_au31_1 (m : MethodId) (x0 : Addr)  : entryFrame m #[(.ref x0)] 1 = mkF m 0 #[(vr x0)] [] := by first | (simp [entryFrame, mkF, argsToLocals, Value.category]; done) | rfl
theorem d31_15 : decode jdk_2316_method_21_code 15 = .ok (.iconst 1, 1) := by decide +kernel
theorem d31_16 : decode jdk_2316_method_21_code 16 = .ok (.goto 4, 3) := by decide +kernel
def Q_au31_1 (Z : State) (wMAX_LOCK_DELAY : Addr) (wGRANTED : Addr) (wQUEUED : Addr) (wBUSY : Addr) (wZERO : Addr)  (h0 : Heap) (n0 : Nat) (v : Option Value) (h : Heap) (L : List Loc) : Prop := v = some (.int 1) ∧ Fr n0 L ∧ h = h0
theorem au31_1 (l : Launch) (Z : State) (a0 : Array Value) (hw : ∀ d ∈ tables_1, d.before a0 Z = true) (ws : List Jvm.Cond) (wMAX_LOCK_DELAY : Addr) (wGRANTED : Addr) (wQUEUED : Addr) (wBUSY : Addr) (wZERO : Addr) (hS : SS Z wMAX_LOCK_DELAY wGRANTED wQUEUED wBUSY wZERO)  (h0 : Heap) (n0 : Nat) (O0 : Old Z n0 h0)  :
    MetB l M31 jdk_2316_method_21_code 1 (some .boolean) ws (rmk 0 0 0 0) Z h0 #[(.ref wZERO)] (Q_au31_1 Z wMAX_LOCK_DELAY wGRANTED wQUEUED wBUSY wZERO  h0 n0) := by
  refine own_body (plainFor_of_name pn_java_time_Duration) ?_
  intro p e s m below meth c s₁ hx hby hml hown hnm hret0 hlk0 hZ X0 e0
  have N0 := Fr.nil n0
  have pre0 : ∀ t, Steps p.tables e below (s₁.setTop (mkF m 0 #[(vr wZERO)] [])) t → Steps p.tables e below (s₁.setTop (entryFrame m #[(.ref wZERO)] 1)) t := fun t k => castTop (ef_au31_1 m wZERO) k
  have hS0 := hS
  obtain ⟨S_wMAX_LOCK_DELAY, E_wMAX_LOCK_DELAY, S_wGRANTED, E_wGRANTED, S_wQUEUED, E_wQUEUED, S_wBUSY, E_wBUSY, F_seconds_wMAX_LOCK_DELAY, F_nanos_wMAX_LOCK_DELAY, S_wZERO, E_wZERO, F_seconds_wZERO, F_nanos_wZERO⟩ := hS0
  obtain ⟨T1, X1, e1, st1⟩ := getF X0 hx hZ hown (host := "") (Or.inl (ow hw 224 rfl)) Via.refl e0 (F_seconds_wZERO.ext O0.2) (g := (mkF m 1 #[(vr wZERO)] [(.ref wZERO)])) rfl rfl (hb hby d31_1)
  obtain ⟨T2, X2, e2, st2⟩ := getF X1 hx hZ hown (host := "") (Or.inl (ow hw 226 rfl)) Via.refl e1 (F_nanos_wZERO.ext O0.2) (g := (mkF m 5 #[(vr wZERO)] [(.ref wZERO), (.long 0)])) rfl rfl (hb hby d31_5)
  obtain ⟨fs, hr, hrun, hended, hW, hsame⟩ := X2.leave (v := some (.int 1)) (fun h => by rw [hret0] at h; cases h)
  refine ⟨_, _, pre0 _ ?_, hrun, hended, _, _, rfl, ?_, ⟨_, rfl⟩, hW, hsame.mono (by decide) (by decide)⟩
  · skip
    show Steps p.tables e below (s₁.setTop (mkF m 0 #[(vr wZERO)] [])) _
    refine XS.aloadN X0.here hx rfl (hb hby d31_0) rfl rfl ?_
    refine st1 _ ?_
    refine XS.aloadN X1.here hx rfl (hb hby d31_4) rfl rfl ?_
    refine st2 _ ?_
    refine XS.i2l X2.here hx rfl (hb hby d31_8) rfl ?_
    show Steps p.tables e below (T2.setTop (mkF m 9 #[(vr wZERO)] [(.long 0), (.long 0)])) _
    refine XS.lor X2.here hx rfl (hb hby d31_9) rfl ?_
    refine XS.lconst X2.here hx rfl (hb hby d31_10) ?_
    refine XS.lcmp X2.here hx rfl (hb hby d31_11) rfl ?_
    refine XS.ifNo X2.here hx rfl (hb hby d31_12) rfl ((if0 _ _).trans (teq (by decide : (lcmpW (0 : Int64) (0 : Int64)) = (0 : Int32))).2) ?_
    refine XS.iconst X2.here hx rfl (hb hby d31_15) ?_
    show Steps p.tables e below (T2.setTop (mkF m 16 #[(vr wZERO)] [(.int 1)])) _
    refine XS.goto X2.here hx rfl (pc0 := 16) (pc' := 20) rfl (hb hby d31_16) (by decide) (by decide) ?_
    exact retN X2 hx (t := .boolean) hret0 (by simp) (hb hby d31_20) hr
  · show Q_au31_1 Z wMAX_LOCK_DELAY wGRANTED wQUEUED wBUSY wZERO  h0 n0 _ T2.heap _
    rw [e2]
    exact ⟨rfl, N0, rfl⟩
def Q_au26_3 (Z : State) (wMAX_LOCK_DELAY : Addr) (wGRANTED : Addr) (wQUEUED : Addr) (wBUSY : Addr) (wZERO : Addr) (a1 : Addr) (q2 : Int64) (qg3 : Int64) (a4 : Addr) (a5 : Addr) (a7 : Addr) (k8 : ClassId) (h0 : Heap) (n0 : Nat) (v : Option Value) (h : Heap) (L : List Loc) : Prop := v = some .null ∧ Fr n0 L ∧ Keep h0 h [a1] ∧ Exa Z h a1 s4n ∧ Fld Z h a1 s4n "generation" "J" (.long qg3) ∧ Fld Z h a1 s4n "heldBack" "Z" (.int 0) ∧ Fld Z h a1 s4n "holder" s5n .null ∧ Fld Z h a1 s4n s10n s0n (.ref wZERO) ∧ Fld Z h a1 s4n "waiters" s11n (.ref a5)
theorem au26_3 (l : Launch) (Z : State) (a0 : Array Value) (hw : ∀ d ∈ tables_1, d.before a0 Z = true) (ws : List Jvm.Cond) (wMAX_LOCK_DELAY : Addr) (wGRANTED : Addr) (wQUEUED : Addr) (wBUSY : Addr) (wZERO : Addr) (hS : SS Z wMAX_LOCK_DELAY wGRANTED wQUEUED wBUSY wZERO) (a1 : Addr) (q2 : Int64) (qg3 : Int64) (a4 : Addr) (a5 : Addr) (a7 : Addr) (k8 : ClassId) (h0 : Heap) (n0 : Nat) (O0 : Old Z n0 h0) (P0 : Exa Z h0 a1 s4n) (P1 : Fld Z h0 a1 s4n "generation" "J" (.long qg3)) (P2 : Fld Z h0 a1 s4n "heldBack" "Z" (.int 0)) (P3 : Fld Z h0 a1 s4n "holder" s5n (.ref a4)) (P4 : Fld Z h0 a1 s4n s10n s0n (.ref wZERO)) (P5 : Fld Z h0 a1 s4n "waiters" s11n (.ref a5)) (P6 : Exa Z h0 a4 s3n) (P8 : Fld Z h0 a4 s3n "session" "J" (.long q2)) (P9 : Exa Z h0 a5 s7n) (P10 : Fld Z h0 a5 s7n "elements" s8n (.ref a7)) (P11 : Fld Z h0 a5 s7n "head" "I" (.int 0)) (P12 : Fld Z h0 a5 s7n "tail" "I" (.int 0)) (P13 : Arv Z h0 a7 k8 (.object s9n) (17 : Int32) ([.null, .null, .null, .null, .null, .null, .null, .null, .null, .null, .null, .null, .null, .null, .null, .null, .null]) .null) (P16 : n0 ≤ a1) (P21 : a1 ≠ a5) (P22 : a1 ≠ a7) :
    MetB l M30 prog_84_method_14_code 6 (some (.object s3n)) ws (rmk 4 1 4 53) Z h0 #[(.ref a1), (.long q2), (.int 1)] (Q_au26_3 Z wMAX_LOCK_DELAY wGRANTED wQUEUED wBUSY wZERO a1 q2 qg3 a4 a5 a7 k8 h0 n0) := by
  refine own_body (plainFor_of_name pn_com_example_umpired_umpired_server_NodeLock) ?_
  intro p e s m below meth c s₁ hx hby hml hown hnm hret0 hlk0 hZ X0 e0
  have N0 := Fr.nil n0
  have pre0 : ∀ t, Steps p.tables e below (s₁.setTop (mkF m 0 #[(vr a1), (vl q2), .second, (vi 1), .unset, .unset] [])) t → Steps p.tables e below (s₁.setTop (entryFrame m #[(.ref a1), (.long q2), (.int 1)] 6)) t := fun t k => castTop (ef_au26_3 m a1 q2 (1 : Int32)) k
  have K0 := Keep.refl h0 [a1]
  have hS0 := hS
  obtain ⟨S_wMAX_LOCK_DELAY, E_wMAX_LOCK_DELAY, S_wGRANTED, E_wGRANTED, S_wQUEUED, E_wQUEUED, S_wBUSY, E_wBUSY, F_seconds_wMAX_LOCK_DELAY, F_nanos_wMAX_LOCK_DELAY, S_wZERO, E_wZERO, F_seconds_wZERO, F_nanos_wZERO⟩ := hS0
  obtain ⟨T1, X1, e1, st1⟩ := getF X0 hx hZ hown (host := "") (Or.inl (ow hw 26 rfl)) Via.refl e0 P5 (g := (mkF m 1 #[(vr a1), (vl q2), .second, (vi 1), .unset, .unset] [(.ref a1)])) rfl rfl (hb hby d26_1)
  obtain ⟨cq2, kq2, q2a, q2b, q2c⟩ := isOf hZ e1 P9
  obtain ⟨_, _, ⟨T2, L2, k2, n2⟩, -, X2, ⟨Lc2, hQ2, l2, y2, z2⟩, st2⟩ := X1.interfaceBack hx (xi := M21) (y := M18) hown (mvT hZ (ow hw 113 rfl)) (mvT hZ (ow hw 114 rfl)) (mvT hZ (ow hw 115 rfl)) (mvT hZ (ow hw 116 rfl)) (mvT hZ (ow hw 117 rfl)) (mvT hZ (ow hw 118 rfl)) (mvT hZ (ow hw 119 rfl)) (mvT hZ (ow hw 95 rfl)) (by decide) (backOf (W := 0) (au17_0 l Z a0 hw [] wMAX_LOCK_DELAY wGRANTED wQUEUED wBUSY wZERO hS a5 a7 k8 h0 n0 O0 P9 P10 P11 P12 P13) hZ (ow hw 120 rfl) (ow hw 11 rfl) (by decide) (by decide)) q2a q2b q2c (g := (mkF m 4 #[(vr a1), (vl q2), .second, (vi 1), .unset, .unset] [(.ref a5)])) rfl (by rw [hml]; rfl) (Steps.refl _) (argsL := []) (rest := []) (lenOf pd_13 rfl) rfl (by show 2 * 0 + _ ≤ _; exact Nat.le_of_eq rfl) (hb hby d26_4) (fun _ _ => ⟨rfl, e1, (by decide : 0 + 1 ≤ _), (by decide : 0 + 4 ≤ _)⟩)
  dsimp only [Pt.U, Pt.locs, Pt.cells, Pt.slots] at X2 l2 y2 z2 st2 hQ2
  subst l2 y2 z2
  obtain ⟨e1_2, rfl, Nq2, K2q, p2_0, p2_1, p2_2, p2_3, p2_4, p2_5⟩ := hQ2
  have N2 := Fr.app N0 Nq2
  have ne3 : a1 ≠ e1_2 := Nat.ne_of_lt (Nat.lt_of_lt_of_le P0.lt p2_0)
  have ne4 : a4 ≠ e1_2 := Nat.ne_of_lt (Nat.lt_of_lt_of_le P6.lt p2_0)
  have ne5 : a5 ≠ e1_2 := Nat.ne_of_lt (Nat.lt_of_lt_of_le P9.lt p2_0)
  have ne6 : a7 ≠ e1_2 := Nat.ne_of_lt (Nat.lt_of_lt_of_le P13.lt p2_0)
  have g7 : n0 ≤ e1_2 := Nat.le_trans (own_sz O0) p2_0
  have sz8 : h0.size ≤ e1_2 := Nat.le_trans K0.1 p2_0
  have O9 : Old Z n0 T2.heap := O0.keep K2q all0
  have K9 : Keep h0 T2.heap [a1] := K0.trans K2q all0
  obtain ⟨cq10, kq10, q10a, q10b, q10c⟩ := isOf hZ rfl p2_1
  obtain ⟨_, _, ⟨T10, L10, k10, n10⟩, -, X10, ⟨Lc10, hQ10, l10, y10, z10⟩, st10⟩ := X2.interfaceBack hx (xi := M22) (y := M19) hown (mvT hZ (ow hw 148 rfl)) (mvT hZ (ow hw 149 rfl)) (mvT hZ (ow hw 150 rfl)) (mvT hZ (ow hw 151 rfl)) (mvT hZ (ow hw 152 rfl)) (mvT hZ (ow hw 153 rfl)) (mvT hZ (ow hw 154 rfl)) (mvT hZ (ow hw 155 rfl)) (by decide) (backOf (W := 0) (au21_0 l Z a0 hw [] wMAX_LOCK_DELAY wGRANTED wQUEUED wBUSY wZERO hS e1_2 T2.heap n0 O9 p2_4) hZ (ow hw 156 rfl) (ow hw 123 rfl) (by decide) (by decide)) q10a q10b q10c (g := (mkF m 13 #[(vr a1), (vl q2), .second, (vi 1), (vr e1_2), .unset] [(.ref e1_2)])) rfl (by rw [hml]; rfl) (Steps.refl _) (argsL := []) (rest := []) (lenOf pd_14 rfl) rfl (by show 2 * 0 + _ ≤ _; exact Nat.le_of_eq rfl) (hb hby d26_13) (fun _ _ => ⟨rfl, rfl, (by decide : 1 + 0 ≤ _), (by decide : 4 + 0 ≤ _)⟩)
  dsimp only [Pt.U, Pt.locs, Pt.cells, Pt.slots] at X10 l10 y10 z10 st10 hQ10
  subst l10 y10 z10
  obtain ⟨rfl, Nq10, K10q⟩ := hQ10
  have N10 := Fr.app N2 Nq10
  have f11 : Fld Z T2.heap a1 s4n "holder" s5n (.ref a4) := (P3.keep K2q nin0)
  have f12 : Exa Z T2.heap a4 s3n := (P6.keep K2q)
  have f13 : Fld Z T2.heap a4 s3n "session" "J" (.long q2) := (P8.keep K2q nin0)
  have f15 : Exa Z T2.heap a1 s4n := (P0.keep K2q)
  obtain ⟨cq14, kq14, q14a, q14b, q14c⟩ := isOf hZ K10q f15
  obtain ⟨_, _, ⟨T14, L14, k14, n14⟩, -, X14, ⟨Lc14, hQ14, l14, y14, z14⟩, st14⟩ := X10.virtualBack hx (y := M29) (z := M29) hown (mvT hZ (ow hw 214 rfl)) (mvT hZ (ow hw 215 rfl)) (notFace_of_selects (args := #[]) (mvT hZ (ow hw 217 rfl))) (mvT hZ (ow hw 217 rfl)) (mvT hZ (ow hw 216 rfl)) (by decide) (backOf (W := 0) (au30_1 l Z a0 hw [] wMAX_LOCK_DELAY wGRANTED wQUEUED wBUSY wZERO hS a1 q2 a4 T2.heap n0 O9 f11 f12 f13) hZ (ow hw 218 rfl) (ow hw 2 rfl) (by decide) (by decide)) q14a q14c (g := (mkF m 57 #[(vr a1), (vl q2), .second, (vi 1), (vr e1_2), .val .null] [(.long q2), (.ref a1)])) rfl (by rw [hml]; rfl) (Steps.refl _) (argsL := [(.long q2)]) (rest := []) (lenOf pd_3 rfl) rfl (by show 2 * 0 + _ ≤ _; exact Nat.le_of_eq rfl) (hb hby d26_57) (fun _ _ => ⟨rfl, K10q, (by decide : 1 + 0 ≤ _), (by decide : 4 + 0 ≤ _)⟩)
  dsimp only [Pt.U, Pt.locs, Pt.cells, Pt.slots] at X14 l14 y14 z14 st14 hQ14
  subst l14 y14 z14
  obtain ⟨rfl, Nq14, K14q⟩ := hQ14
  have N14 := Fr.app N10 Nq14
  obtain ⟨T16, h16, X16, e16, W16, st16⟩ := putF X14 hx hZ hown (host := "") (Or.inl (ow hw 51 rfl)) Via.refl K14q f11 f15 (Or.inl (ow hw 52 rfl)) (ow hw 1 rfl) (ty := (.object s3n)) (by decide) rfl rfl (g := (mkF m 65 #[(vr a1), (vl q2), .second, (vi 1), (vr e1_2), .val .null] [.null, (.ref a1)])) rfl rfl (hb hby d26_65)
  have N16 := Fr.snoc X16 N14 P16
  have O17 : Old Z n0 h16 := O9.wr W16 P16
  have K17 : Keep h0 h16 [a1] := K9.wr W16 (Or.inl (List.mem_of_getElem? (i := 0) rfl))
  have Fw16 : Fld Z h16 a1 s4n "holder" s5n .null := f11.same W16
  have f18 : Fld Z h16 a1 s4n s10n s0n (.ref wZERO) := ((P4.keep K2q nin0).other W16 (Or.inr (slot_ne (Or.inl (ow hw 31 rfl)) (Or.inl (ow hw 52 rfl)) (by decide) (t := (.object s1n)) (t' := (.object s3n)) (by decide) (by decide))))
  obtain ⟨T19, X19, e19, st19⟩ := getF X16 hx hZ hown (host := "") (Or.inl (ow hw 30 rfl)) Via.refl e16 f18 (g := (mkF m 74 #[(vr a1), (vl q2), .second, (vi 1), (vr e1_2), .val .null] [(.ref a1), (.ref a1)])) rfl rfl (hb hby d26_74)
  obtain ⟨cq20, kq20, q20a, q20b, q20c⟩ := isOf hZ e19 (E_wZERO.ext O17.2)
  obtain ⟨_, _, ⟨T20, L20, k20, n20⟩, -, X20, ⟨Lc20, hQ20, l20, y20, z20⟩, st20⟩ := X19.virtualBack hx (y := M31) (z := M31) hown (mvT hZ (ow hw 219 rfl)) (mvT hZ (ow hw 220 rfl)) (notFace_of_selects (args := #[]) (mvT hZ (ow hw 222 rfl))) (mvT hZ (ow hw 222 rfl)) (mvT hZ (ow hw 221 rfl)) (by decide) (backOf (W := 1) (au31_1 l Z a0 hw [] wMAX_LOCK_DELAY wGRANTED wQUEUED wBUSY wZERO hS  h16 n0 O17 ) hZ (ow hw 223 rfl) (ow hw 29 rfl) (by decide) (by decide)) q20a q20c (g := (mkF m 77 #[(vr a1), (vl q2), .second, (vi 1), (vr e1_2), .val .null] [(.ref wZERO), (.ref a1)])) rfl (by rw [hml]; rfl) (Steps.refl _) (argsL := []) (rest := [(.ref a1)]) (lenOf pd_14 rfl) rfl (by show 2 * 0 + _ ≤ _; exact Nat.le_of_eq rfl) (hb hby d26_77) (fun _ _ => ⟨rfl, e19, (by decide : 1 + 0 ≤ _), (by decide : 4 + 0 ≤ _)⟩)
  dsimp only [Pt.U, Pt.locs, Pt.cells, Pt.slots] at X20 l20 y20 z20 st20 hQ20
  subst l20 y20 z20
  obtain ⟨rfl, Nq20, K20q⟩ := hQ20
  have N20 := Fr.app N16 Nq20
  have f21 : Exa Z h16 a1 s4n := (f15.wr W16)
  have f22 : Fld Z h16 a1 s4n "heldBack" "Z" (.int 0) := ((P2.keep K2q nin0).other W16 (Or.inr (slot_ne (Or.inl (ow hw 69 rfl)) (Or.inl (ow hw 52 rfl)) (by decide) (t := .boolean) (t' := (.object s3n)) (by decide) (by decide))))
  obtain ⟨T23, h23, X23, e23, W23, st23⟩ := putFN X20 hx hZ hown (ow hw 68 rfl) Via.refl K20q f22 f21 (Or.inl (ow hw 69 rfl)) (ow hw 1 rfl) (ty := .boolean) (v' := (.int 0)) (by decide) rfl rfl (g := (mkF m 88 #[(vr a1), (vl q2), .second, (vi 1), (vr e1_2), .val .null] [(.int 0), (.ref a1)])) rfl rfl (hb hby d26_88)
  have N23 := Fr.snoc X23 N20 P16
  have O24 : Old Z n0 h23 := O17.wr W23 P16
  have K24 : Keep h0 h23 [a1] := K17.wr W23 (Or.inl (List.mem_of_getElem? (i := 0) rfl))
  have Fw23 : Fld Z h23 a1 s4n "heldBack" "Z" (.int 0) := f22.same W23
  obtain ⟨T25, X25, e25, st25⟩ := getF X23 hx hZ hown (host := "") (Or.inl (ow hw 68 rfl)) Via.refl e23 Fw23 (g := (mkF m 92 #[(vr a1), (vl q2), .second, (vi 1), (vr e1_2), .val .null] [(.ref a1)])) rfl rfl (hb hby d26_92)
  have f26 : Fld Z h23 a1 s4n "waiters" s11n (.ref a5) := (((P5.keep K2q nin0).other W16 (Or.inr (slot_ne (Or.inr (ow hw 27 rfl)) (Or.inl (ow hw 52 rfl)) (by decide) (t := (.object s12n)) (t' := (.object s3n)) (by decide) (by decide)))).other W23 (Or.inr (slot_ne (Or.inr (ow hw 27 rfl)) (Or.inl (ow hw 69 rfl)) (by decide) (t := (.object s12n)) (t' := .boolean) (by decide) (by decide))))
  have f27 : Exa Z h23 a5 s7n := (((P9.keep K2q).wr W16).wr W23)
  have f28 : Fld Z h23 a5 s7n "elements" s8n (.ref a7) := (((P10.keep K2q nin0).other W16 (Or.inl (Ne.symm P21))).other W23 (Or.inl (Ne.symm P21)))
  have f29 : Fld Z h23 a5 s7n "head" "I" (.int 0) := (((P11.keep K2q nin0).other W16 (Or.inl (Ne.symm P21))).other W23 (Or.inl (Ne.symm P21)))
  have f30 : Arv Z h23 a7 k8 (.object s9n) (17 : Int32) ([.null, .null, .null, .null, .null, .null, .null, .null, .null, .null, .null, .null, .null, .null, .null, .null, .null]) .null := (((P13.keep K2q nin0).other W16 (Ne.symm P22)).other W23 (Ne.symm P22))
  have f32 : Exa Z h23 a1 s4n := (f21.wr W23)
  obtain ⟨cq31, q31, q31'⟩ := f32.cell
  obtain ⟨_, _, ⟨T31, L31, k31, n31⟩, -, X31, ⟨Lc31, hQ31, l31, y31, z31⟩, st31⟩ := X25.privateBack hx (y := M12) hown (mvT hZ (ow hw 84 rfl)) (mvT hZ (ow hw 85 rfl)) (own_selp (mvT hZ (ow hw 1 rfl)) (mvP hZ (ow hw 86 rfl)) (mvT hZ (ow hw 85 rfl)) (by decide)) (Cond.privateMethod_at (mvP hZ (ow hw 86 rfl) (args := #[]))) (mvT hZ (ow hw 87 rfl)) (by decide) (backOf (W := 0) (au12_3 l Z a0 hw [] wMAX_LOCK_DELAY wGRANTED wQUEUED wBUSY wZERO hS a1 a5 a7 k8 h23 n0 O24 f26 f27 f28 f29 f30) hZ (ow hw 87 rfl) (ow hw 2 rfl) (by decide) (by decide)) (g := (mkF m 103 #[(vr a1), (vl q2), .second, (vi 1), (vr e1_2), .val .null] [(.ref a1)])) rfl (by rw [hml]; rfl) (Steps.refl _) (a := a1) (by rw [e25]; exact q31) q31' (argsL := []) (rest := []) (lenOf pd_9 rfl) rfl (by show 2 * 0 + _ ≤ _; exact Nat.le_of_eq rfl) (hb hby d26_103) (fun _ _ => ⟨rfl, e25, (by decide : 1 + 0 ≤ _), (by decide : 4 + 0 ≤ _)⟩)
  dsimp only [Pt.U, Pt.locs, Pt.cells, Pt.slots] at X31 l31 y31 z31 st31 hQ31
  subst l31 y31 z31
  obtain ⟨rfl, Nq31, K31q⟩ := hQ31
  have N31 := Fr.app N23 Nq31
  have f33 : Fld Z h23 a1 s4n "generation" "J" (.long qg3) := (((P1.keep K2q nin0).other W16 (Or.inr (slot_ne (Or.inl (ow hw 75 rfl)) (Or.inl (ow hw 52 rfl)) (by decide) (t := .long) (t' := (.object s3n)) (by decide) (by decide)))).other W23 (Or.inr (slot_ne (Or.inl (ow hw 75 rfl)) (Or.inl (ow hw 69 rfl)) (by decide) (t := .long) (t' := .boolean) (by decide) (by decide))))
  have f34 : Fld Z h23 a1 s4n "holder" s5n .null := (Fw16.other W23 (Or.inr (slot_ne (Or.inl (ow hw 52 rfl)) (Or.inl (ow hw 69 rfl)) (by decide) (t := (.object s3n)) (t' := .boolean) (by decide) (by decide))))
  have f35 : Fld Z h23 a1 s4n s10n s0n (.ref wZERO) := (f18.other W23 (Or.inr (slot_ne (Or.inl (ow hw 31 rfl)) (Or.inl (ow hw 69 rfl)) (by decide) (t := (.object s1n)) (t' := .boolean) (by decide) (by decide))))
  obtain ⟨fs, hr, hrun, hended, hW, hsame⟩ := X31.leave (v := some .null) (fun h => by rw [hret0] at h; cases h)
  refine ⟨_, _, pre0 _ ?_, hrun, hended, _, _, rfl, ?_, ⟨_, rfl⟩, hW, hsame.mono (by decide) (by decide)⟩
  · skip
    show Steps p.tables e below (s₁.setTop (mkF m 0 #[(vr a1), (vl q2), .second, (vi 1), .unset, .unset] [])) _
    refine XS.aloadN X0.here hx rfl (hb hby d26_0) rfl rfl ?_
    refine st1 _ ?_
    refine st2.trans ?_
    refine XS.astore X2.here hx rfl (hb hby d26_9) rfl rfl (l' := #[(vr a1), (vl q2), .second, (vi 1), (vr e1_2), .unset]) rfl ?_
    refine XS.aload X2.here hx rfl (hb hby d26_11) rfl rfl ?_
    show Steps p.tables e below (T2.setTop (mkF m 13 #[(vr a1), (vl q2), .second, (vi 1), (vr e1_2), .unset] [(.ref e1_2)])) _
    refine st10.trans ?_
    refine XS.ifYes X10.here hx rfl (pc0 := 18) (pc' := 52) rfl (hb hby d26_18) rfl ((if0 _ _).trans (teq (by decide : (0 : Int32) = (0 : Int32))).1) (by decide) (by decide) ?_
    refine XS.aconstNull X10.here hx rfl (hb hby d26_52) ?_
    refine XS.astore X10.here hx rfl (hb hby d26_53) rfl rfl (l' := #[(vr a1), (vl q2), .second, (vi 1), (vr e1_2), .val .null]) rfl ?_
    refine XS.aloadN X10.here hx rfl (hb hby d26_55) rfl rfl ?_
    show Steps p.tables e below (T10.setTop (mkF m 56 #[(vr a1), (vl q2), .second, (vi 1), (vr e1_2), .val .null] [(.ref a1)])) _
    refine XS.lloadN X10.here hx rfl (hb hby d26_56) rfl ?_
    refine st14.trans ?_
    refine XS.ifNo X14.here hx rfl (hb hby d26_60) rfl ((if0 _ _).trans (feq (by decide : ¬ ((1 : Int32) = (0 : Int32)))).1) ?_
    refine XS.aloadN X14.here hx rfl (hb hby d26_63) rfl rfl ?_
    refine XS.aconstNull X14.here hx rfl (hb hby d26_64) ?_
    show Steps p.tables e below (T14.setTop (mkF m 65 #[(vr a1), (vl q2), .second, (vi 1), (vr e1_2), .val .null] [.null, (.ref a1)])) _
    refine st16 _ ?_
    refine XS.aloadN X16.here hx rfl (hb hby d26_68) rfl rfl ?_
    refine XS.iloadN X16.here hx rfl (hb hby d26_69) rfl ?_
    refine XS.ifNo X16.here hx rfl (hb hby d26_70) rfl ((if0 _ _).trans (feq (by decide : ¬ ((1 : Int32) = (0 : Int32)))).1) ?_
    refine XS.aloadN X16.here hx rfl (hb hby d26_73) rfl rfl ?_
    show Steps p.tables e below (T16.setTop (mkF m 74 #[(vr a1), (vl q2), .second, (vi 1), (vr e1_2), .val .null] [(.ref a1), (.ref a1)])) _
    refine st19 _ ?_
    refine st20.trans ?_
    refine XS.ifYes X20.here hx rfl (pc0 := 80) (pc' := 87) rfl (hb hby d26_80) rfl ((if0 _ _).trans (feq (by decide : ¬ ((1 : Int32) = (0 : Int32)))).2) (by decide) (by decide) ?_
    refine XS.iconst X20.here hx rfl (hb hby d26_87) ?_
    refine st23 _ ?_
    show Steps p.tables e below (T23.setTop (mkF m 91 #[(vr a1), (vl q2), .second, (vi 1), (vr e1_2), .val .null] [])) _
    refine XS.aloadN X23.here hx rfl (hb hby d26_91) rfl rfl ?_
    refine st25 _ ?_
    refine XS.ifYes X25.here hx rfl (pc0 := 95) (pc' := 102) rfl (hb hby d26_95) rfl ((if0 _ _).trans (teq (by decide : (0 : Int32) = (0 : Int32))).1) (by decide) (by decide) ?_
    refine XS.aloadN X25.here hx rfl (hb hby d26_102) rfl rfl ?_
    refine st31.trans ?_
    show Steps p.tables e below (T31.setTop (mkF m 106 #[(vr a1), (vl q2), .second, (vi 1), (vr e1_2), .val .null] [.null])) _
    refine XS.astore X31.here hx rfl (hb hby d26_106) rfl rfl (l' := #[(vr a1), (vl q2), .second, (vi 1), (vr e1_2), .val .null]) rfl ?_
    refine XS.aload X31.here hx rfl (hb hby d26_108) rfl rfl ?_
    jvm_step X31.here [X31.here.top, hx, (hb hby d26_110), X31.method', hret0, Value.isRef, FieldType.isReference]
    first | (intro acts; rw [hr _ acts rfl rfl rfl]) | rw [hr _ _ rfl rfl rfl]
    exact Steps.refl _
  · show Q_au26_3 Z wMAX_LOCK_DELAY wGRANTED wQUEUED wBUSY wZERO a1 q2 qg3 a4 a5 a7 k8 h0 n0 _ T31.heap _
    rw [K31q]
    exact ⟨rfl, N31, K24, f32, f33, Fw23, f34, f35, f26⟩
theorem tl_tl_rm0_d_m4 {p : Program} {l : Launch} {e : Env} {s : State} {m : MethodId} {below : List Frame} {meth : Method} {c : Code} {T0 : State} {locs : List Loc} {Z : State} {a0 : Array Value} {h0 : Heap} {n0 : Nat} {margs : Array Value} (hw : ∀ d ∈ tables_1, d.before a0 Z = true) (wMAX_LOCK_DELAY : Addr) (wGRANTED : Addr) (wQUEUED : Addr) (wBUSY : Addr) (wZERO : Addr) (hS : SS Z wMAX_LOCK_DELAY wGRANTED wQUEUED wBUSY wZERO) (p1 : Int32) (p2 : Int32) (q3 : Int64) (q4 : Int64) (q5 : Int64) (q6 : Int64) (p7 : Int32) (p8 : Int32) (p9 : Int32) (p10 : Int32) (a11 : Addr) (a12 : Addr) (a13 : Addr) (a14 : Addr) (a15 : Addr) (a17 : Addr) (k18 : ClassId)
    (X0 : Stand p l e room_1 s m margs below meth c T0 locs 5 29) (hx : p.tables.exec = Jvm.exec) (hZ : Z.Warmed39 s.vm) (hby : c.code = code) (hml : c.maxLocals = 22) (hown : s.vm.findClass s6n = some m.cls) (hnm : meth.name = "law") (hret0 : meth.sig.returnType = some .boolean) (hlk0 : meth.locks = false) (e0 : T0.heap = h0) (N0 : Fr n0 locs) (O0 : Old Z n0 h0) (P0 : Exa Z h0 a11 s4n) (P1 : Fld Z h0 a11 s4n "generation" "J" (.long 0)) (P2 : Fld Z h0 a11 s4n "heldBack" "Z" (.int 0)) (P3 : Fld Z h0 a11 s4n "holder" s5n .null) (P4 : Fld Z h0 a11 s4n s10n s0n (.ref wZERO)) (P5 : Fld Z h0 a11 s4n "waiters" s11n (.ref a15)) (P6 : Exa Z h0 a13 s3n) (P8 : Fld Z h0 a13 s3n "session" "J" (.long q3)) (P12 : Exa Z h0 a15 s7n) (P13 : Fld Z h0 a15 s7n "elements" s8n (.ref a17)) (P14 : Fld Z h0 a15 s7n "head" "I" (.int 0)) (P15 : Fld Z h0 a15 s7n "tail" "I" (.int 0)) (P16 : Arv Z h0 a17 k18 (.object s9n) (17 : Int32) ([.null, .null, .null, .null, .null, .null, .null, .null, .null, .null, .null, .null, .null, .null, .null, .null, .null]) .null) (P21 : p8 = (0 : Int32) ∨ p8 = (1 : Int32)) (P22 : (a12 = wMAX_LOCK_DELAY ∧ p9 = (1 : Int32)) ∨ (a12 = wZERO ∧ p9 = (0 : Int32))) (P25 : n0 ≤ a11) (P31 : a11 ≠ a13) (P33 : a11 ≠ a15) (P34 : a11 ≠ a17) :
    ∃ s₂ o, Steps p.tables e below (T0.setTop (mkF m 235 #[(vi p1), (vi p2), (vl q3), .second, (vl q4), .second, (vl q5), .second, (vl q6), .second, (vi p7), (vi p8), (vi p9), (vi p10), (vr a11), (vr a12), (vr a13), (vr a14), .unset, .unset, .unset, .unset] [])) s₂ ∧ s₂.status = .running ∧ Ended s₂ below o ∧ ∃ v L, o = .returned v ∧ (v = some (.int 1) ∧ Fr n0 L) ∧ FrameEnd s o s₂ L room_1.cells room_1.slots := by
  have pre0 : ∀ t, Steps p.tables e below (T0.setTop (mkF m 235 #[(vi p1), (vi p2), (vl q3), .second, (vl q4), .second, (vl q5), .second, (vl q6), .second, (vi p7), (vi p8), (vi p9), (vi p10), (vr a11), (vr a12), (vr a13), (vr a14), .unset, .unset, .unset, .unset] [])) t → Steps p.tables e below (T0.setTop (mkF m 235 #[(vi p1), (vi p2), (vl q3), .second, (vl q4), .second, (vl q5), .second, (vl q6), .second, (vi p7), (vi p8), (vi p9), (vi p10), (vr a11), (vr a12), (vr a13), (vr a14), .unset, .unset, .unset, .unset] [])) t := fun t k => k
  have hS0 := hS
  obtain ⟨S_wMAX_LOCK_DELAY, E_wMAX_LOCK_DELAY, S_wGRANTED, E_wGRANTED, S_wQUEUED, E_wQUEUED, S_wBUSY, E_wBUSY, F_seconds_wMAX_LOCK_DELAY, F_nanos_wMAX_LOCK_DELAY, S_wZERO, E_wZERO, F_seconds_wZERO, F_nanos_wZERO⟩ := hS0
  rcases P22 with ⟨hd1, hl2⟩ | ⟨hd1, hl2⟩
  · skip
    have pre3 : ∀ t, Steps p.tables e below (T0.setTop (mkF m 235 #[(vi p1), (vi p2), (vl q3), .second, (vl q4), .second, (vl q5), .second, (vl q6), .second, (vi p7), (vi p8), (vi p9), (vi p10), (vr a11), (vr wMAX_LOCK_DELAY), (vr a13), (vr a14), .unset, .unset, .unset, .unset] [])) t → Steps p.tables e below (T0.setTop (mkF m 235 #[(vi p1), (vi p2), (vl q3), .second, (vl q4), .second, (vl q5), .second, (vl q6), .second, (vi p7), (vi p8), (vi p9), (vi p10), (vr a11), (vr a12), (vr a13), (vr a14), .unset, .unset, .unset, .unset] [])) t := by
      intro t k
      refine pre0 t ?_
      rw [hd1]
      exact k
    have pre4 : ∀ t, Steps p.tables e below (T0.setTop (mkF m 235 #[(vi p1), (vi p2), (vl q3), .second, (vl q4), .second, (vl q5), .second, (vl q6), .second, (vi p7), (vi p8), (vi 1), (vi p10), (vr a11), (vr wMAX_LOCK_DELAY), (vr a13), (vr a14), .unset, .unset, .unset, .unset] [])) t → Steps p.tables e below (T0.setTop (mkF m 235 #[(vi p1), (vi p2), (vl q3), .second, (vl q4), .second, (vl q5), .second, (vl q6), .second, (vi p7), (vi p8), (vi p9), (vi p10), (vr a11), (vr a12), (vr a13), (vr a14), .unset, .unset, .unset, .unset] [])) t := by
      intro t k
      refine pre3 t ?_
      rw [hl2]
      exact k
    rcases (id (P21)) with hk5 | hk5
    · skip
      have pre6 : ∀ t, Steps p.tables e below (T0.setTop (mkF m 235 #[(vi p1), (vi p2), (vl q3), .second, (vl q4), .second, (vl q5), .second, (vl q6), .second, (vi p7), (vi 0), (vi 1), (vi p10), (vr a11), (vr wMAX_LOCK_DELAY), (vr a13), (vr a14), .unset, .unset, .unset, .unset] [])) t → Steps p.tables e below (T0.setTop (mkF m 235 #[(vi p1), (vi p2), (vl q3), .second, (vl q4), .second, (vl q5), .second, (vl q6), .second, (vi p7), (vi p8), (vi p9), (vi p10), (vr a11), (vr a12), (vr a13), (vr a14), .unset, .unset, .unset, .unset] [])) t := by
        intro t k
        refine pre4 t ?_
        rw [hk5]
        exact k
      obtain ⟨cq7, kq7, q7a, q7b, q7c⟩ := isOf hZ e0 P0
      obtain ⟨_, _, ⟨T7, L7, k7, n7⟩, -, X7, ⟨Lc7, hQ7, l7, y7, z7⟩, st7⟩ := X0.virtualBack hx (y := M8) (z := M8) hown (mvT hZ (ow hw 58 rfl)) (mvT hZ (ow hw 59 rfl)) (notFace_of_selects (args := #[]) (mvT hZ (ow hw 61 rfl))) (mvT hZ (ow hw 61 rfl)) (mvT hZ (ow hw 60 rfl)) (by decide) (backOf (W := 0) (au8_0 l Z a0 hw [] wMAX_LOCK_DELAY wGRANTED wQUEUED wBUSY wZERO hS a11 a13 wMAX_LOCK_DELAY p10 (0 : Int64) a15 h0 n0 O0 P0 P1 P2 P3 P4 P5 P6 P25) hZ (ow hw 62 rfl) (ow hw 2 rfl) (by decide) (by decide)) q7a q7c (g := (mkF m 243 #[(vi p1), (vi p2), (vl q3), .second, (vl q4), .second, (vl q5), .second, (vl q6), .second, (vi p7), (vi 0), (vi 1), (vi p10), (vr a11), (vr wMAX_LOCK_DELAY), (vr a13), (vr a14), .unset, .unset, .unset, .unset] [(.int p10), (.ref wMAX_LOCK_DELAY), (.ref a13), (.ref a11)])) rfl (by rw [hml]; rfl) (Steps.refl _) (argsL := [(.ref a13), (.ref wMAX_LOCK_DELAY), (.int p10)]) (rest := []) (lenOf pd_6 rfl) rfl (by show 2 * 0 + _ ≤ _; exact Nat.le_of_eq rfl) (hb hby at_243) (fun _ _ => ⟨rfl, e0, (by decide : 5 + 0 ≤ _), (by decide : 29 + 0 ≤ _)⟩)
      dsimp only [Pt.U, Pt.locs, Pt.cells, Pt.slots] at X7 l7 y7 z7 st7 hQ7
      subst l7 y7 z7
      obtain ⟨rfl, Nq7, K7q, p7_0, p7_1, p7_2, p7_3, p7_4, p7_5⟩ := hQ7
      have N7 := Fr.app N0 Nq7
      have O8 : Old Z n0 T7.heap := O0.keep K7q (allS P25 all0)
      have p7_1f : Fld Z T7.heap a11 s4n "generation" "J" (.long 1) := by have q := p7_1; rw [(by decide : ((0 : Int64) + (1 : Int64)) = (1 : Int64))] at q; exact q
      have f9 : Exa Z T7.heap a13 s3n := (P6.keep K7q)
      have f10 : Fld Z T7.heap a13 s3n "session" "J" (.long q3) := (P8.keep K7q (ninS (Ne.symm P31) nin0))
      have f11 : Exa Z T7.heap a15 s7n := (P12.keep K7q)
      have f12 : Fld Z T7.heap a15 s7n "elements" s8n (.ref a17) := (P13.keep K7q (ninS (Ne.symm P33) nin0))
      have f13 : Fld Z T7.heap a15 s7n "head" "I" (.int 0) := (P14.keep K7q (ninS (Ne.symm P33) nin0))
      have f14 : Fld Z T7.heap a15 s7n "tail" "I" (.int 0) := (P15.keep K7q (ninS (Ne.symm P33) nin0))
      have f15 : Arv Z T7.heap a17 k18 (.object s9n) (17 : Int32) ([.null, .null, .null, .null, .null, .null, .null, .null, .null, .null, .null, .null, .null, .null, .null, .null, .null]) .null := (P16.keep K7q (ninS (Ne.symm P34) nin0))
      obtain ⟨cq16, kq16, q16a, q16b, q16c⟩ := isOf hZ rfl p7_0
      obtain ⟨_, _, ⟨T16, L16, k16, n16⟩, -, X16, ⟨Lc16, hQ16, l16, y16, z16⟩, st16⟩ := X7.virtualBack hx (y := M30) (z := M30) hown (mvT hZ (ow hw 191 rfl)) (mvT hZ (ow hw 192 rfl)) (notFace_of_selects (args := #[]) (mvT hZ (ow hw 194 rfl))) (mvT hZ (ow hw 194 rfl)) (mvT hZ (ow hw 193 rfl)) (by decide) (backOf (W := 0) (au26_0 l Z a0 hw [] wMAX_LOCK_DELAY wGRANTED wQUEUED wBUSY wZERO hS a11 q3 (1 : Int64) a13 a15 a17 k18 T7.heap n0 O8 p7_0 p7_1f p7_2 p7_3 p7_4 p7_5 f9 f10 f11 f12 f13 f14 f15 P25 P33 P34) hZ (ow hw 195 rfl) (ow hw 2 rfl) (by decide) (by decide)) q16a q16c (g := (mkF m 252 #[(vi p1), (vi p2), (vl q3), .second, (vl q4), .second, (vl q5), .second, (vl q6), .second, (vi p7), (vi 0), (vi 1), (vi p10), (vr a11), (vr wMAX_LOCK_DELAY), (vr a13), (vr a14), .unset, .unset, .unset, .unset] [(.int 0), (.long q3), (.ref a11)])) rfl (by rw [hml]; rfl) (Steps.refl _) (argsL := [(.long q3), (.int 0)]) (rest := []) (lenOf pd_19 rfl) rfl (by show 2 * 0 + _ ≤ _; exact Nat.le_of_eq rfl) (hb hby at_252) (fun _ _ => ⟨rfl, rfl, (by decide : 5 + 1 ≤ _), (by decide : 29 + 4 ≤ _)⟩)
      dsimp only [Pt.U, Pt.locs, Pt.cells, Pt.slots] at X16 l16 y16 z16 st16 hQ16
      subst l16 y16 z16
      obtain ⟨rfl, Nq16, K16q, p16_0, p16_1, p16_2, p16_3, p16_4, p16_5⟩ := hQ16
      have N16 := Fr.app N7 Nq16
      have O17 : Old Z n0 T16.heap := O8.keep K16q (allS P25 all0)
      obtain ⟨cq18, kq18, q18a, q18b, q18c⟩ := isOf hZ rfl p16_0
      obtain ⟨_, _, ⟨T18, L18, k18, n18⟩, -, X18, ⟨Lc18, hQ18, l18, y18, z18⟩, st18⟩ := X16.virtualBack hx (y := M1) (z := M1) hown (mvT hZ (ow hw 46 rfl)) (mvT hZ (ow hw 47 rfl)) (notFace_of_selects (args := #[]) (mvT hZ (ow hw 49 rfl))) (mvT hZ (ow hw 49 rfl)) (mvT hZ (ow hw 48 rfl)) (by decide) (backOf (W := 0) (rmHeldN l Z a0 hw [] wMAX_LOCK_DELAY wGRANTED wQUEUED wBUSY wZERO hS a11 q6 T16.heap n0 O17 p16_3) hZ (ow hw 50 rfl) (ow hw 2 rfl) (by decide) (by decide)) q18a q18c (g := (mkF m 459 #[(vi p1), (vi p2), (vl q3), .second, (vl q4), .second, (vl q5), .second, (vl q6), .second, (vi p7), (vi 0), (vi 1), (vi p10), (vr a11), (vr wMAX_LOCK_DELAY), (vr a13), (vr a14), (vi 0), (vl 1), .second, (vi 0)] [(.long q6), (.ref a11)])) rfl (by rw [hml]; rfl) (Steps.refl _) (argsL := [(.long q6)]) (rest := []) (lenOf pd_3 rfl) rfl (by show 2 * 0 + _ ≤ _; exact Nat.le_of_eq rfl) (hb hby at_459) (fun _ _ => ⟨rfl, rfl, (by decide : 6 + 0 ≤ _), (by decide : 33 + 0 ≤ _)⟩)
      dsimp only [Pt.U, Pt.locs, Pt.cells, Pt.slots] at X18 l18 y18 z18 st18 hQ18
      subst l18 y18 z18
      obtain ⟨rfl, Nq18, K18q⟩ := hQ18
      have N18 := Fr.app N16 Nq18
      obtain ⟨fs, hr, hrun, hended, hW, hsame⟩ := X18.leave (v := some (.int 1)) (fun h => by rw [hret0] at h; cases h)
      refine ⟨_, _, pre6 _ ?_, hrun, hended, _, _, rfl, ?_, ⟨_, rfl⟩, hW, hsame.mono (by decide) (by decide)⟩
      · skip
        show Steps p.tables e below (T0.setTop (mkF m 235 #[(vi p1), (vi p2), (vl q3), .second, (vl q4), .second, (vl q5), .second, (vl q6), .second, (vi p7), (vi 0), (vi 1), (vi p10), (vr a11), (vr wMAX_LOCK_DELAY), (vr a13), (vr a14), .unset, .unset, .unset, .unset] [])) _
        refine XS.aload X0.here hx rfl (hb hby at_235) rfl rfl ?_
        refine XS.aload X0.here hx rfl (hb hby at_237) rfl rfl ?_
        refine XS.aload X0.here hx rfl (hb hby at_239) rfl rfl ?_
        refine XS.iload X0.here hx rfl (hb hby at_241) rfl ?_
        refine st7.trans ?_
        show Steps p.tables e below (T7.setTop (mkF m 246 #[(vi p1), (vi p2), (vl q3), .second, (vl q4), .second, (vl q5), .second, (vl q6), .second, (vi p7), (vi 0), (vi 1), (vi p10), (vr a11), (vr wMAX_LOCK_DELAY), (vr a13), (vr a14), .unset, .unset, .unset, .unset] [(.ref wGRANTED)])) _
        refine XS.pop X7.here hx rfl (hb hby at_246) rfl rfl ?_
        refine XS.aload X7.here hx rfl (hb hby at_247) rfl rfl ?_
        refine XS.lloadN X7.here hx rfl (hb hby at_249) rfl ?_
        refine XS.iload X7.here hx rfl (hb hby at_250) rfl ?_
        refine st16.trans ?_
        show Steps p.tables e below (T16.setTop (mkF m 255 #[(vi p1), (vi p2), (vl q3), .second, (vl q4), .second, (vl q5), .second, (vl q6), .second, (vi p7), (vi 0), (vi 1), (vi p10), (vr a11), (vr wMAX_LOCK_DELAY), (vr a13), (vr a14), .unset, .unset, .unset, .unset] [.null])) _
        refine XS.pop X16.here hx rfl (hb hby at_255) rfl rfl ?_
        refine XS.iconst X16.here hx rfl (hb hby at_256) ?_
        refine XS.istore X16.here hx rfl (hb hby at_257) rfl (l' := #[(vi p1), (vi p2), (vl q3), .second, (vl q4), .second, (vl q5), .second, (vl q6), .second, (vi p7), (vi 0), (vi 1), (vi p10), (vr a11), (vr wMAX_LOCK_DELAY), (vr a13), (vr a14), (vi 0), .unset, .unset, .unset]) rfl ?_
        refine XS.lconst X16.here hx rfl (hb hby at_259) ?_
        refine XS.lstore X16.here hx rfl (hb hby at_260) rfl (l' := #[(vi p1), (vi p2), (vl q3), .second, (vl q4), .second, (vl q5), .second, (vl q6), .second, (vi p7), (vi 0), (vi 1), (vi p10), (vr a11), (vr wMAX_LOCK_DELAY), (vr a13), (vr a14), (vi 0), (vl 1), .second, .unset]) rfl ?_
        show Steps p.tables e below (T16.setTop (mkF m 262 #[(vi p1), (vi p2), (vl q3), .second, (vl q4), .second, (vl q5), .second, (vl q6), .second, (vi p7), (vi 0), (vi 1), (vi p10), (vr a11), (vr wMAX_LOCK_DELAY), (vr a13), (vr a14), (vi 0), (vl 1), .second, .unset] [])) _
        refine XS.goto X16.here hx rfl (pc0 := 262) (pc' := 435) rfl (hb hby at_262) (by decide) (by decide) ?_
        refine XS.iload X16.here hx rfl (hb hby at_435) rfl ?_
        refine XS.ifYes X16.here hx rfl (pc0 := 437) (pc' := 452) rfl (hb hby at_437) rfl ((if0 _ _).trans (teq (by decide : (0 : Int32) = (0 : Int32))).1) (by decide) (by decide) ?_
        refine XS.iconst X16.here hx rfl (hb hby at_452) ?_
        refine XS.istore X16.here hx rfl (hb hby at_453) rfl (l' := #[(vi p1), (vi p2), (vl q3), .second, (vl q4), .second, (vl q5), .second, (vl q6), .second, (vi p7), (vi 0), (vi 1), (vi p10), (vr a11), (vr wMAX_LOCK_DELAY), (vr a13), (vr a14), (vi 0), (vl 1), .second, (vi 0)]) rfl ?_
        show Steps p.tables e below (T16.setTop (mkF m 455 #[(vi p1), (vi p2), (vl q3), .second, (vl q4), .second, (vl q5), .second, (vl q6), .second, (vi p7), (vi 0), (vi 1), (vi p10), (vr a11), (vr wMAX_LOCK_DELAY), (vr a13), (vr a14), (vi 0), (vl 1), .second, (vi 0)] [])) _
        refine XS.aload X16.here hx rfl (hb hby at_455) rfl rfl ?_
        refine XS.lload X16.here hx rfl (hb hby at_457) rfl ?_
        refine st18.trans ?_
        refine XS.iload X18.here hx rfl (hb hby at_462) rfl ?_
        refine XS.icmpNo X18.here hx rfl (hb hby at_464) rfl (teq (by decide : (0 : Int32) = (0 : Int32))).2 ?_
        show Steps p.tables e below (T18.setTop (mkF m 467 #[(vi p1), (vi p2), (vl q3), .second, (vl q4), .second, (vl q5), .second, (vl q6), .second, (vi p7), (vi 0), (vi 1), (vi p10), (vr a11), (vr wMAX_LOCK_DELAY), (vr a13), (vr a14), (vi 0), (vl 1), .second, (vi 0)] [])) _
        refine XS.iconst X18.here hx rfl (hb hby at_467) ?_
        refine XS.goto X18.here hx rfl (pc0 := 468) (pc' := 472) rfl (hb hby at_468) (by decide) (by decide) ?_
        exact retN X18 hx (t := .boolean) hret0 (by simp) (hb hby at_472) hr
      · skip
        exact ⟨rfl, N18⟩
    · skip
      have pre19 : ∀ t, Steps p.tables e below (T0.setTop (mkF m 235 #[(vi p1), (vi p2), (vl q3), .second, (vl q4), .second, (vl q5), .second, (vl q6), .second, (vi p7), (vi 1), (vi 1), (vi p10), (vr a11), (vr wMAX_LOCK_DELAY), (vr a13), (vr a14), .unset, .unset, .unset, .unset] [])) t → Steps p.tables e below (T0.setTop (mkF m 235 #[(vi p1), (vi p2), (vl q3), .second, (vl q4), .second, (vl q5), .second, (vl q6), .second, (vi p7), (vi p8), (vi p9), (vi p10), (vr a11), (vr a12), (vr a13), (vr a14), .unset, .unset, .unset, .unset] [])) t := by
        intro t k
        refine pre4 t ?_
        rw [hk5]
        exact k
      obtain ⟨cq20, kq20, q20a, q20b, q20c⟩ := isOf hZ e0 P0
      obtain ⟨_, _, ⟨T20, L20, k20, n20⟩, -, X20, ⟨Lc20, hQ20, l20, y20, z20⟩, st20⟩ := X0.virtualBack hx (y := M8) (z := M8) hown (mvT hZ (ow hw 58 rfl)) (mvT hZ (ow hw 59 rfl)) (notFace_of_selects (args := #[]) (mvT hZ (ow hw 61 rfl))) (mvT hZ (ow hw 61 rfl)) (mvT hZ (ow hw 60 rfl)) (by decide) (backOf (W := 0) (au8_0 l Z a0 hw [] wMAX_LOCK_DELAY wGRANTED wQUEUED wBUSY wZERO hS a11 a13 wMAX_LOCK_DELAY p10 (0 : Int64) a15 h0 n0 O0 P0 P1 P2 P3 P4 P5 P6 P25) hZ (ow hw 62 rfl) (ow hw 2 rfl) (by decide) (by decide)) q20a q20c (g := (mkF m 243 #[(vi p1), (vi p2), (vl q3), .second, (vl q4), .second, (vl q5), .second, (vl q6), .second, (vi p7), (vi 1), (vi 1), (vi p10), (vr a11), (vr wMAX_LOCK_DELAY), (vr a13), (vr a14), .unset, .unset, .unset, .unset] [(.int p10), (.ref wMAX_LOCK_DELAY), (.ref a13), (.ref a11)])) rfl (by rw [hml]; rfl) (Steps.refl _) (argsL := [(.ref a13), (.ref wMAX_LOCK_DELAY), (.int p10)]) (rest := []) (lenOf pd_6 rfl) rfl (by show 2 * 0 + _ ≤ _; exact Nat.le_of_eq rfl) (hb hby at_243) (fun _ _ => ⟨rfl, e0, (by decide : 5 + 0 ≤ _), (by decide : 29 + 0 ≤ _)⟩)
      dsimp only [Pt.U, Pt.locs, Pt.cells, Pt.slots] at X20 l20 y20 z20 st20 hQ20
      subst l20 y20 z20
      obtain ⟨rfl, Nq20, K20q, p20_0, p20_1, p20_2, p20_3, p20_4, p20_5⟩ := hQ20
      have N20 := Fr.app N0 Nq20
      have O21 : Old Z n0 T20.heap := O0.keep K20q (allS P25 all0)
      have p20_1f : Fld Z T20.heap a11 s4n "generation" "J" (.long 1) := by have q := p20_1; rw [(by decide : ((0 : Int64) + (1 : Int64)) = (1 : Int64))] at q; exact q
      have f22 : Exa Z T20.heap a13 s3n := (P6.keep K20q)
      have f23 : Fld Z T20.heap a13 s3n "session" "J" (.long q3) := (P8.keep K20q (ninS (Ne.symm P31) nin0))
      have f24 : Exa Z T20.heap a15 s7n := (P12.keep K20q)
      have f25 : Fld Z T20.heap a15 s7n "elements" s8n (.ref a17) := (P13.keep K20q (ninS (Ne.symm P33) nin0))
      have f26 : Fld Z T20.heap a15 s7n "head" "I" (.int 0) := (P14.keep K20q (ninS (Ne.symm P33) nin0))
      have f27 : Fld Z T20.heap a15 s7n "tail" "I" (.int 0) := (P15.keep K20q (ninS (Ne.symm P33) nin0))
      have f28 : Arv Z T20.heap a17 k18 (.object s9n) (17 : Int32) ([.null, .null, .null, .null, .null, .null, .null, .null, .null, .null, .null, .null, .null, .null, .null, .null, .null]) .null := (P16.keep K20q (ninS (Ne.symm P34) nin0))
      obtain ⟨cq29, kq29, q29a, q29b, q29c⟩ := isOf hZ rfl p20_0
      obtain ⟨_, _, ⟨T29, L29, k29, n29⟩, -, X29, ⟨Lc29, hQ29, l29, y29, z29⟩, st29⟩ := X20.virtualBack hx (y := M30) (z := M30) hown (mvT hZ (ow hw 191 rfl)) (mvT hZ (ow hw 192 rfl)) (notFace_of_selects (args := #[]) (mvT hZ (ow hw 194 rfl))) (mvT hZ (ow hw 194 rfl)) (mvT hZ (ow hw 193 rfl)) (by decide) (backOf (W := 0) (au26_1 l Z a0 hw [] wMAX_LOCK_DELAY wGRANTED wQUEUED wBUSY wZERO hS a11 q3 (1 : Int64) a13 a15 a17 k18 T20.heap n0 O21 p20_0 p20_1f p20_2 p20_3 p20_4 p20_5 f22 f23 f24 f25 f26 f27 f28 P25) hZ (ow hw 195 rfl) (ow hw 2 rfl) (by decide) (by decide)) q29a q29c (g := (mkF m 252 #[(vi p1), (vi p2), (vl q3), .second, (vl q4), .second, (vl q5), .second, (vl q6), .second, (vi p7), (vi 1), (vi 1), (vi p10), (vr a11), (vr wMAX_LOCK_DELAY), (vr a13), (vr a14), .unset, .unset, .unset, .unset] [(.int 1), (.long q3), (.ref a11)])) rfl (by rw [hml]; rfl) (Steps.refl _) (argsL := [(.long q3), (.int 1)]) (rest := []) (lenOf pd_19 rfl) rfl (by show 2 * 0 + _ ≤ _; exact Nat.le_of_eq rfl) (hb hby at_252) (fun _ _ => ⟨rfl, rfl, (by decide : 5 + 1 ≤ _), (by decide : 29 + 4 ≤ _)⟩)
      dsimp only [Pt.U, Pt.locs, Pt.cells, Pt.slots] at X29 l29 y29 z29 st29 hQ29
      subst l29 y29 z29
      obtain ⟨rfl, Nq29, K29q, p29_0, p29_1, p29_2, p29_3, p29_4, p29_5⟩ := hQ29
      have N29 := Fr.app N20 Nq29
      have O30 : Old Z n0 T29.heap := O21.keep K29q (allS P25 all0)
      obtain ⟨cq31, kq31, q31a, q31b, q31c⟩ := isOf hZ rfl p29_0
      obtain ⟨_, _, ⟨T31, L31, k31, n31⟩, -, X31, ⟨Lc31, hQ31, l31, y31, z31⟩, st31⟩ := X29.virtualBack hx (y := M1) (z := M1) hown (mvT hZ (ow hw 46 rfl)) (mvT hZ (ow hw 47 rfl)) (notFace_of_selects (args := #[]) (mvT hZ (ow hw 49 rfl))) (mvT hZ (ow hw 49 rfl)) (mvT hZ (ow hw 48 rfl)) (by decide) (backOf (W := 0) (rmHeldN l Z a0 hw [] wMAX_LOCK_DELAY wGRANTED wQUEUED wBUSY wZERO hS a11 q6 T29.heap n0 O30 p29_3) hZ (ow hw 50 rfl) (ow hw 2 rfl) (by decide) (by decide)) q31a q31c (g := (mkF m 459 #[(vi p1), (vi p2), (vl q3), .second, (vl q4), .second, (vl q5), .second, (vl q6), .second, (vi p7), (vi 1), (vi 1), (vi p10), (vr a11), (vr wMAX_LOCK_DELAY), (vr a13), (vr a14), (vi 0), (vl 1), .second, (vi 0)] [(.long q6), (.ref a11)])) rfl (by rw [hml]; rfl) (Steps.refl _) (argsL := [(.long q6)]) (rest := []) (lenOf pd_3 rfl) rfl (by show 2 * 0 + _ ≤ _; exact Nat.le_of_eq rfl) (hb hby at_459) (fun _ _ => ⟨rfl, rfl, (by decide : 6 + 0 ≤ _), (by decide : 33 + 0 ≤ _)⟩)
      dsimp only [Pt.U, Pt.locs, Pt.cells, Pt.slots] at X31 l31 y31 z31 st31 hQ31
      subst l31 y31 z31
      obtain ⟨rfl, Nq31, K31q⟩ := hQ31
      have N31 := Fr.app N29 Nq31
      obtain ⟨fs, hr, hrun, hended, hW, hsame⟩ := X31.leave (v := some (.int 1)) (fun h => by rw [hret0] at h; cases h)
      refine ⟨_, _, pre19 _ ?_, hrun, hended, _, _, rfl, ?_, ⟨_, rfl⟩, hW, hsame.mono (by decide) (by decide)⟩
      · skip
        show Steps p.tables e below (T0.setTop (mkF m 235 #[(vi p1), (vi p2), (vl q3), .second, (vl q4), .second, (vl q5), .second, (vl q6), .second, (vi p7), (vi 1), (vi 1), (vi p10), (vr a11), (vr wMAX_LOCK_DELAY), (vr a13), (vr a14), .unset, .unset, .unset, .unset] [])) _
        refine XS.aload X0.here hx rfl (hb hby at_235) rfl rfl ?_
        refine XS.aload X0.here hx rfl (hb hby at_237) rfl rfl ?_
        refine XS.aload X0.here hx rfl (hb hby at_239) rfl rfl ?_
        refine XS.iload X0.here hx rfl (hb hby at_241) rfl ?_
        refine st20.trans ?_
        show Steps p.tables e below (T20.setTop (mkF m 246 #[(vi p1), (vi p2), (vl q3), .second, (vl q4), .second, (vl q5), .second, (vl q6), .second, (vi p7), (vi 1), (vi 1), (vi p10), (vr a11), (vr wMAX_LOCK_DELAY), (vr a13), (vr a14), .unset, .unset, .unset, .unset] [(.ref wGRANTED)])) _
        refine XS.pop X20.here hx rfl (hb hby at_246) rfl rfl ?_
        refine XS.aload X20.here hx rfl (hb hby at_247) rfl rfl ?_
        refine XS.lloadN X20.here hx rfl (hb hby at_249) rfl ?_
        refine XS.iload X20.here hx rfl (hb hby at_250) rfl ?_
        refine st29.trans ?_
        show Steps p.tables e below (T29.setTop (mkF m 255 #[(vi p1), (vi p2), (vl q3), .second, (vl q4), .second, (vl q5), .second, (vl q6), .second, (vi p7), (vi 1), (vi 1), (vi p10), (vr a11), (vr wMAX_LOCK_DELAY), (vr a13), (vr a14), .unset, .unset, .unset, .unset] [.null])) _
        refine XS.pop X29.here hx rfl (hb hby at_255) rfl rfl ?_
        refine XS.iconst X29.here hx rfl (hb hby at_256) ?_
        refine XS.istore X29.here hx rfl (hb hby at_257) rfl (l' := #[(vi p1), (vi p2), (vl q3), .second, (vl q4), .second, (vl q5), .second, (vl q6), .second, (vi p7), (vi 1), (vi 1), (vi p10), (vr a11), (vr wMAX_LOCK_DELAY), (vr a13), (vr a14), (vi 0), .unset, .unset, .unset]) rfl ?_
        refine XS.lconst X29.here hx rfl (hb hby at_259) ?_
        refine XS.lstore X29.here hx rfl (hb hby at_260) rfl (l' := #[(vi p1), (vi p2), (vl q3), .second, (vl q4), .second, (vl q5), .second, (vl q6), .second, (vi p7), (vi 1), (vi 1), (vi p10), (vr a11), (vr wMAX_LOCK_DELAY), (vr a13), (vr a14), (vi 0), (vl 1), .second, .unset]) rfl ?_
        show Steps p.tables e below (T29.setTop (mkF m 262 #[(vi p1), (vi p2), (vl q3), .second, (vl q4), .second, (vl q5), .second, (vl q6), .second, (vi p7), (vi 1), (vi 1), (vi p10), (vr a11), (vr wMAX_LOCK_DELAY), (vr a13), (vr a14), (vi 0), (vl 1), .second, .unset] [])) _
        refine XS.goto X29.here hx rfl (pc0 := 262) (pc' := 435) rfl (hb hby at_262) (by decide) (by decide) ?_
        refine XS.iload X29.here hx rfl (hb hby at_435) rfl ?_
        refine XS.ifYes X29.here hx rfl (pc0 := 437) (pc' := 452) rfl (hb hby at_437) rfl ((if0 _ _).trans (teq (by decide : (0 : Int32) = (0 : Int32))).1) (by decide) (by decide) ?_
        refine XS.iconst X29.here hx rfl (hb hby at_452) ?_
        refine XS.istore X29.here hx rfl (hb hby at_453) rfl (l' := #[(vi p1), (vi p2), (vl q3), .second, (vl q4), .second, (vl q5), .second, (vl q6), .second, (vi p7), (vi 1), (vi 1), (vi p10), (vr a11), (vr wMAX_LOCK_DELAY), (vr a13), (vr a14), (vi 0), (vl 1), .second, (vi 0)]) rfl ?_
        show Steps p.tables e below (T29.setTop (mkF m 455 #[(vi p1), (vi p2), (vl q3), .second, (vl q4), .second, (vl q5), .second, (vl q6), .second, (vi p7), (vi 1), (vi 1), (vi p10), (vr a11), (vr wMAX_LOCK_DELAY), (vr a13), (vr a14), (vi 0), (vl 1), .second, (vi 0)] [])) _
        refine XS.aload X29.here hx rfl (hb hby at_455) rfl rfl ?_
        refine XS.lload X29.here hx rfl (hb hby at_457) rfl ?_
        refine st31.trans ?_
        refine XS.iload X31.here hx rfl (hb hby at_462) rfl ?_
        refine XS.icmpNo X31.here hx rfl (hb hby at_464) rfl (teq (by decide : (0 : Int32) = (0 : Int32))).2 ?_
        show Steps p.tables e below (T31.setTop (mkF m 467 #[(vi p1), (vi p2), (vl q3), .second, (vl q4), .second, (vl q5), .second, (vl q6), .second, (vi p7), (vi 1), (vi 1), (vi p10), (vr a11), (vr wMAX_LOCK_DELAY), (vr a13), (vr a14), (vi 0), (vl 1), .second, (vi 0)] [])) _
        refine XS.iconst X31.here hx rfl (hb hby at_467) ?_
        refine XS.goto X31.here hx rfl (pc0 := 468) (pc' := 472) rfl (hb hby at_468) (by decide) (by decide) ?_
        exact retN X31 hx (t := .boolean) hret0 (by simp) (hb hby at_472) hr
      · skip
        exact ⟨rfl, N31⟩
  · skip
    have pre32 : ∀ t, Steps p.tables e below (T0.setTop (mkF m 235 #[(vi p1), (vi p2), (vl q3), .second, (vl q4), .second, (vl q5), .second, (vl q6), .second, (vi p7), (vi p8), (vi p9), (vi p10), (vr a11), (vr wZERO), (vr a13), (vr a14), .unset, .unset, .unset, .unset] [])) t → Steps p.tables e below (T0.setTop (mkF m 235 #[(vi p1), (vi p2), (vl q3), .second, (vl q4), .second, (vl q5), .second, (vl q6), .second, (vi p7), (vi p8), (vi p9), (vi p10), (vr a11), (vr a12), (vr a13), (vr a14), .unset, .unset, .unset, .unset] [])) t := by
      intro t k
      refine pre0 t ?_
      rw [hd1]
      exact k
    have pre33 : ∀ t, Steps p.tables e below (T0.setTop (mkF m 235 #[(vi p1), (vi p2), (vl q3), .second, (vl q4), .second, (vl q5), .second, (vl q6), .second, (vi p7), (vi p8), (vi 0), (vi p10), (vr a11), (vr wZERO), (vr a13), (vr a14), .unset, .unset, .unset, .unset] [])) t → Steps p.tables e below (T0.setTop (mkF m 235 #[(vi p1), (vi p2), (vl q3), .second, (vl q4), .second, (vl q5), .second, (vl q6), .second, (vi p7), (vi p8), (vi p9), (vi p10), (vr a11), (vr a12), (vr a13), (vr a14), .unset, .unset, .unset, .unset] [])) t := by
      intro t k
      refine pre32 t ?_
      rw [hl2]
      exact k
    rcases (id (P21)) with hk34 | hk34
    · skip
      have pre35 : ∀ t, Steps p.tables e below (T0.setTop (mkF m 235 #[(vi p1), (vi p2), (vl q3), .second, (vl q4), .second, (vl q5), .second, (vl q6), .second, (vi p7), (vi 0), (vi 0), (vi p10), (vr a11), (vr wZERO), (vr a13), (vr a14), .unset, .unset, .unset, .unset] [])) t → Steps p.tables e below (T0.setTop (mkF m 235 #[(vi p1), (vi p2), (vl q3), .second, (vl q4), .second, (vl q5), .second, (vl q6), .second, (vi p7), (vi p8), (vi p9), (vi p10), (vr a11), (vr a12), (vr a13), (vr a14), .unset, .unset, .unset, .unset] [])) t := by
        intro t k
        refine pre33 t ?_
        rw [hk34]
        exact k
      obtain ⟨cq36, kq36, q36a, q36b, q36c⟩ := isOf hZ e0 P0
      obtain ⟨_, _, ⟨T36, L36, k36, n36⟩, -, X36, ⟨Lc36, hQ36, l36, y36, z36⟩, st36⟩ := X0.virtualBack hx (y := M8) (z := M8) hown (mvT hZ (ow hw 58 rfl)) (mvT hZ (ow hw 59 rfl)) (notFace_of_selects (args := #[]) (mvT hZ (ow hw 61 rfl))) (mvT hZ (ow hw 61 rfl)) (mvT hZ (ow hw 60 rfl)) (by decide) (backOf (W := 0) (au8_0 l Z a0 hw [] wMAX_LOCK_DELAY wGRANTED wQUEUED wBUSY wZERO hS a11 a13 wZERO p10 (0 : Int64) a15 h0 n0 O0 P0 P1 P2 P3 P4 P5 P6 P25) hZ (ow hw 62 rfl) (ow hw 2 rfl) (by decide) (by decide)) q36a q36c (g := (mkF m 243 #[(vi p1), (vi p2), (vl q3), .second, (vl q4), .second, (vl q5), .second, (vl q6), .second, (vi p7), (vi 0), (vi 0), (vi p10), (vr a11), (vr wZERO), (vr a13), (vr a14), .unset, .unset, .unset, .unset] [(.int p10), (.ref wZERO), (.ref a13), (.ref a11)])) rfl (by rw [hml]; rfl) (Steps.refl _) (argsL := [(.ref a13), (.ref wZERO), (.int p10)]) (rest := []) (lenOf pd_6 rfl) rfl (by show 2 * 0 + _ ≤ _; exact Nat.le_of_eq rfl) (hb hby at_243) (fun _ _ => ⟨rfl, e0, (by decide : 5 + 0 ≤ _), (by decide : 29 + 0 ≤ _)⟩)
      dsimp only [Pt.U, Pt.locs, Pt.cells, Pt.slots] at X36 l36 y36 z36 st36 hQ36
      subst l36 y36 z36
      obtain ⟨rfl, Nq36, K36q, p36_0, p36_1, p36_2, p36_3, p36_4, p36_5⟩ := hQ36
      have N36 := Fr.app N0 Nq36
      have O37 : Old Z n0 T36.heap := O0.keep K36q (allS P25 all0)
      have p36_1f : Fld Z T36.heap a11 s4n "generation" "J" (.long 1) := by have q := p36_1; rw [(by decide : ((0 : Int64) + (1 : Int64)) = (1 : Int64))] at q; exact q
      have f38 : Exa Z T36.heap a13 s3n := (P6.keep K36q)
      have f39 : Fld Z T36.heap a13 s3n "session" "J" (.long q3) := (P8.keep K36q (ninS (Ne.symm P31) nin0))
      have f40 : Exa Z T36.heap a15 s7n := (P12.keep K36q)
      have f41 : Fld Z T36.heap a15 s7n "elements" s8n (.ref a17) := (P13.keep K36q (ninS (Ne.symm P33) nin0))
      have f42 : Fld Z T36.heap a15 s7n "head" "I" (.int 0) := (P14.keep K36q (ninS (Ne.symm P33) nin0))
      have f43 : Fld Z T36.heap a15 s7n "tail" "I" (.int 0) := (P15.keep K36q (ninS (Ne.symm P33) nin0))
      have f44 : Arv Z T36.heap a17 k18 (.object s9n) (17 : Int32) ([.null, .null, .null, .null, .null, .null, .null, .null, .null, .null, .null, .null, .null, .null, .null, .null, .null]) .null := (P16.keep K36q (ninS (Ne.symm P34) nin0))
      obtain ⟨cq45, kq45, q45a, q45b, q45c⟩ := isOf hZ rfl p36_0
      obtain ⟨_, _, ⟨T45, L45, k45, n45⟩, -, X45, ⟨Lc45, hQ45, l45, y45, z45⟩, st45⟩ := X36.virtualBack hx (y := M30) (z := M30) hown (mvT hZ (ow hw 191 rfl)) (mvT hZ (ow hw 192 rfl)) (notFace_of_selects (args := #[]) (mvT hZ (ow hw 194 rfl))) (mvT hZ (ow hw 194 rfl)) (mvT hZ (ow hw 193 rfl)) (by decide) (backOf (W := 0) (au26_2 l Z a0 hw [] wMAX_LOCK_DELAY wGRANTED wQUEUED wBUSY wZERO hS a11 q3 (1 : Int64) a13 a15 a17 k18 T36.heap n0 O37 p36_0 p36_1f p36_2 p36_3 p36_4 p36_5 f38 f39 f40 f41 f42 f43 f44 P25 P33 P34) hZ (ow hw 195 rfl) (ow hw 2 rfl) (by decide) (by decide)) q45a q45c (g := (mkF m 252 #[(vi p1), (vi p2), (vl q3), .second, (vl q4), .second, (vl q5), .second, (vl q6), .second, (vi p7), (vi 0), (vi 0), (vi p10), (vr a11), (vr wZERO), (vr a13), (vr a14), .unset, .unset, .unset, .unset] [(.int 0), (.long q3), (.ref a11)])) rfl (by rw [hml]; rfl) (Steps.refl _) (argsL := [(.long q3), (.int 0)]) (rest := []) (lenOf pd_19 rfl) rfl (by show 2 * 0 + _ ≤ _; exact Nat.le_of_eq rfl) (hb hby at_252) (fun _ _ => ⟨rfl, rfl, (by decide : 5 + 1 ≤ _), (by decide : 29 + 4 ≤ _)⟩)
      dsimp only [Pt.U, Pt.locs, Pt.cells, Pt.slots] at X45 l45 y45 z45 st45 hQ45
      subst l45 y45 z45
      obtain ⟨rfl, Nq45, K45q, p45_0, p45_1, p45_2, p45_3, p45_4, p45_5⟩ := hQ45
      have N45 := Fr.app N36 Nq45
      have O46 : Old Z n0 T45.heap := O37.keep K45q (allS P25 all0)
      obtain ⟨cq47, kq47, q47a, q47b, q47c⟩ := isOf hZ rfl p45_0
      obtain ⟨_, _, ⟨T47, L47, k47, n47⟩, -, X47, ⟨Lc47, hQ47, l47, y47, z47⟩, st47⟩ := X45.virtualBack hx (y := M1) (z := M1) hown (mvT hZ (ow hw 46 rfl)) (mvT hZ (ow hw 47 rfl)) (notFace_of_selects (args := #[]) (mvT hZ (ow hw 49 rfl))) (mvT hZ (ow hw 49 rfl)) (mvT hZ (ow hw 48 rfl)) (by decide) (backOf (W := 0) (rmHeldN l Z a0 hw [] wMAX_LOCK_DELAY wGRANTED wQUEUED wBUSY wZERO hS a11 q6 T45.heap n0 O46 p45_3) hZ (ow hw 50 rfl) (ow hw 2 rfl) (by decide) (by decide)) q47a q47c (g := (mkF m 459 #[(vi p1), (vi p2), (vl q3), .second, (vl q4), .second, (vl q5), .second, (vl q6), .second, (vi p7), (vi 0), (vi 0), (vi p10), (vr a11), (vr wZERO), (vr a13), (vr a14), (vi 0), (vl 1), .second, (vi 0)] [(.long q6), (.ref a11)])) rfl (by rw [hml]; rfl) (Steps.refl _) (argsL := [(.long q6)]) (rest := []) (lenOf pd_3 rfl) rfl (by show 2 * 0 + _ ≤ _; exact Nat.le_of_eq rfl) (hb hby at_459) (fun _ _ => ⟨rfl, rfl, (by decide : 6 + 0 ≤ _), (by decide : 33 + 0 ≤ _)⟩)
      dsimp only [Pt.U, Pt.locs, Pt.cells, Pt.slots] at X47 l47 y47 z47 st47 hQ47
      subst l47 y47 z47
      obtain ⟨rfl, Nq47, K47q⟩ := hQ47
      have N47 := Fr.app N45 Nq47
      obtain ⟨fs, hr, hrun, hended, hW, hsame⟩ := X47.leave (v := some (.int 1)) (fun h => by rw [hret0] at h; cases h)
      refine ⟨_, _, pre35 _ ?_, hrun, hended, _, _, rfl, ?_, ⟨_, rfl⟩, hW, hsame.mono (by decide) (by decide)⟩
      · skip
        show Steps p.tables e below (T0.setTop (mkF m 235 #[(vi p1), (vi p2), (vl q3), .second, (vl q4), .second, (vl q5), .second, (vl q6), .second, (vi p7), (vi 0), (vi 0), (vi p10), (vr a11), (vr wZERO), (vr a13), (vr a14), .unset, .unset, .unset, .unset] [])) _
        refine XS.aload X0.here hx rfl (hb hby at_235) rfl rfl ?_
        refine XS.aload X0.here hx rfl (hb hby at_237) rfl rfl ?_
        refine XS.aload X0.here hx rfl (hb hby at_239) rfl rfl ?_
        refine XS.iload X0.here hx rfl (hb hby at_241) rfl ?_
        refine st36.trans ?_
        show Steps p.tables e below (T36.setTop (mkF m 246 #[(vi p1), (vi p2), (vl q3), .second, (vl q4), .second, (vl q5), .second, (vl q6), .second, (vi p7), (vi 0), (vi 0), (vi p10), (vr a11), (vr wZERO), (vr a13), (vr a14), .unset, .unset, .unset, .unset] [(.ref wGRANTED)])) _
        refine XS.pop X36.here hx rfl (hb hby at_246) rfl rfl ?_
        refine XS.aload X36.here hx rfl (hb hby at_247) rfl rfl ?_
        refine XS.lloadN X36.here hx rfl (hb hby at_249) rfl ?_
        refine XS.iload X36.here hx rfl (hb hby at_250) rfl ?_
        refine st45.trans ?_
        show Steps p.tables e below (T45.setTop (mkF m 255 #[(vi p1), (vi p2), (vl q3), .second, (vl q4), .second, (vl q5), .second, (vl q6), .second, (vi p7), (vi 0), (vi 0), (vi p10), (vr a11), (vr wZERO), (vr a13), (vr a14), .unset, .unset, .unset, .unset] [.null])) _
        refine XS.pop X45.here hx rfl (hb hby at_255) rfl rfl ?_
        refine XS.iconst X45.here hx rfl (hb hby at_256) ?_
        refine XS.istore X45.here hx rfl (hb hby at_257) rfl (l' := #[(vi p1), (vi p2), (vl q3), .second, (vl q4), .second, (vl q5), .second, (vl q6), .second, (vi p7), (vi 0), (vi 0), (vi p10), (vr a11), (vr wZERO), (vr a13), (vr a14), (vi 0), .unset, .unset, .unset]) rfl ?_
        refine XS.lconst X45.here hx rfl (hb hby at_259) ?_
        refine XS.lstore X45.here hx rfl (hb hby at_260) rfl (l' := #[(vi p1), (vi p2), (vl q3), .second, (vl q4), .second, (vl q5), .second, (vl q6), .second, (vi p7), (vi 0), (vi 0), (vi p10), (vr a11), (vr wZERO), (vr a13), (vr a14), (vi 0), (vl 1), .second, .unset]) rfl ?_
        show Steps p.tables e below (T45.setTop (mkF m 262 #[(vi p1), (vi p2), (vl q3), .second, (vl q4), .second, (vl q5), .second, (vl q6), .second, (vi p7), (vi 0), (vi 0), (vi p10), (vr a11), (vr wZERO), (vr a13), (vr a14), (vi 0), (vl 1), .second, .unset] [])) _
        refine XS.goto X45.here hx rfl (pc0 := 262) (pc' := 435) rfl (hb hby at_262) (by decide) (by decide) ?_
        refine XS.iload X45.here hx rfl (hb hby at_435) rfl ?_
        refine XS.ifYes X45.here hx rfl (pc0 := 437) (pc' := 452) rfl (hb hby at_437) rfl ((if0 _ _).trans (teq (by decide : (0 : Int32) = (0 : Int32))).1) (by decide) (by decide) ?_
        refine XS.iconst X45.here hx rfl (hb hby at_452) ?_
        refine XS.istore X45.here hx rfl (hb hby at_453) rfl (l' := #[(vi p1), (vi p2), (vl q3), .second, (vl q4), .second, (vl q5), .second, (vl q6), .second, (vi p7), (vi 0), (vi 0), (vi p10), (vr a11), (vr wZERO), (vr a13), (vr a14), (vi 0), (vl 1), .second, (vi 0)]) rfl ?_
        show Steps p.tables e below (T45.setTop (mkF m 455 #[(vi p1), (vi p2), (vl q3), .second, (vl q4), .second, (vl q5), .second, (vl q6), .second, (vi p7), (vi 0), (vi 0), (vi p10), (vr a11), (vr wZERO), (vr a13), (vr a14), (vi 0), (vl 1), .second, (vi 0)] [])) _
        refine XS.aload X45.here hx rfl (hb hby at_455) rfl rfl ?_
        refine XS.lload X45.here hx rfl (hb hby at_457) rfl ?_
        refine st47.trans ?_
        refine XS.iload X47.here hx rfl (hb hby at_462) rfl ?_
        refine XS.icmpNo X47.here hx rfl (hb hby at_464) rfl (teq (by decide : (0 : Int32) = (0 : Int32))).2 ?_
        show Steps p.tables e below (T47.setTop (mkF m 467 #[(vi p1), (vi p2), (vl q3), .second, (vl q4), .second, (vl q5), .second, (vl q6), .second, (vi p7), (vi 0), (vi 0), (vi p10), (vr a11), (vr wZERO), (vr a13), (vr a14), (vi 0), (vl 1), .second, (vi 0)] [])) _
        refine XS.iconst X47.here hx rfl (hb hby at_467) ?_
        refine XS.goto X47.here hx rfl (pc0 := 468) (pc' := 472) rfl (hb hby at_468) (by decide) (by decide) ?_
        exact retN X47 hx (t := .boolean) hret0 (by simp) (hb hby at_472) hr
      · skip
        exact ⟨rfl, N47⟩
    · skip
      have pre48 : ∀ t, Steps p.tables e below (T0.setTop (mkF m 235 #[(vi p1), (vi p2), (vl q3), .second, (vl q4), .second, (vl q5), .second, (vl q6), .second, (vi p7), (vi 1), (vi 0), (vi p10), (vr a11), (vr wZERO), (vr a13), (vr a14), .unset, .unset, .unset, .unset] [])) t → Steps p.tables e below (T0.setTop (mkF m 235 #[(vi p1), (vi p2), (vl q3), .second, (vl q4), .second, (vl q5), .second, (vl q6), .second, (vi p7), (vi p8), (vi p9), (vi p10), (vr a11), (vr a12), (vr a13), (vr a14), .unset, .unset, .unset, .unset] [])) t := by
        intro t k
        refine pre33 t ?_
        rw [hk34]
        exact k
      obtain ⟨cq49, kq49, q49a, q49b, q49c⟩ := isOf hZ e0 P0
      obtain ⟨_, _, ⟨T49, L49, k49, n49⟩, -, X49, ⟨Lc49, hQ49, l49, y49, z49⟩, st49⟩ := X0.virtualBack hx (y := M8) (z := M8) hown (mvT hZ (ow hw 58 rfl)) (mvT hZ (ow hw 59 rfl)) (notFace_of_selects (args := #[]) (mvT hZ (ow hw 61 rfl))) (mvT hZ (ow hw 61 rfl)) (mvT hZ (ow hw 60 rfl)) (by decide) (backOf (W := 0) (au8_0 l Z a0 hw [] wMAX_LOCK_DELAY wGRANTED wQUEUED wBUSY wZERO hS a11 a13 wZERO p10 (0 : Int64) a15 h0 n0 O0 P0 P1 P2 P3 P4 P5 P6 P25) hZ (ow hw 62 rfl) (ow hw 2 rfl) (by decide) (by decide)) q49a q49c (g := (mkF m 243 #[(vi p1), (vi p2), (vl q3), .second, (vl q4), .second, (vl q5), .second, (vl q6), .second, (vi p7), (vi 1), (vi 0), (vi p10), (vr a11), (vr wZERO), (vr a13), (vr a14), .unset, .unset, .unset, .unset] [(.int p10), (.ref wZERO), (.ref a13), (.ref a11)])) rfl (by rw [hml]; rfl) (Steps.refl _) (argsL := [(.ref a13), (.ref wZERO), (.int p10)]) (rest := []) (lenOf pd_6 rfl) rfl (by show 2 * 0 + _ ≤ _; exact Nat.le_of_eq rfl) (hb hby at_243) (fun _ _ => ⟨rfl, e0, (by decide : 5 + 0 ≤ _), (by decide : 29 + 0 ≤ _)⟩)
      dsimp only [Pt.U, Pt.locs, Pt.cells, Pt.slots] at X49 l49 y49 z49 st49 hQ49
      subst l49 y49 z49
      obtain ⟨rfl, Nq49, K49q, p49_0, p49_1, p49_2, p49_3, p49_4, p49_5⟩ := hQ49
      have N49 := Fr.app N0 Nq49
      have O50 : Old Z n0 T49.heap := O0.keep K49q (allS P25 all0)
      have p49_1f : Fld Z T49.heap a11 s4n "generation" "J" (.long 1) := by have q := p49_1; rw [(by decide : ((0 : Int64) + (1 : Int64)) = (1 : Int64))] at q; exact q
      have f51 : Exa Z T49.heap a13 s3n := (P6.keep K49q)
      have f52 : Fld Z T49.heap a13 s3n "session" "J" (.long q3) := (P8.keep K49q (ninS (Ne.symm P31) nin0))
      have f53 : Exa Z T49.heap a15 s7n := (P12.keep K49q)
      have f54 : Fld Z T49.heap a15 s7n "elements" s8n (.ref a17) := (P13.keep K49q (ninS (Ne.symm P33) nin0))
      have f55 : Fld Z T49.heap a15 s7n "head" "I" (.int 0) := (P14.keep K49q (ninS (Ne.symm P33) nin0))
      have f56 : Fld Z T49.heap a15 s7n "tail" "I" (.int 0) := (P15.keep K49q (ninS (Ne.symm P33) nin0))
      have f57 : Arv Z T49.heap a17 k18 (.object s9n) (17 : Int32) ([.null, .null, .null, .null, .null, .null, .null, .null, .null, .null, .null, .null, .null, .null, .null, .null, .null]) .null := (P16.keep K49q (ninS (Ne.symm P34) nin0))
      obtain ⟨cq58, kq58, q58a, q58b, q58c⟩ := isOf hZ rfl p49_0
      obtain ⟨_, _, ⟨T58, L58, k58, n58⟩, -, X58, ⟨Lc58, hQ58, l58, y58, z58⟩, st58⟩ := X49.virtualBack hx (y := M30) (z := M30) hown (mvT hZ (ow hw 191 rfl)) (mvT hZ (ow hw 192 rfl)) (notFace_of_selects (args := #[]) (mvT hZ (ow hw 194 rfl))) (mvT hZ (ow hw 194 rfl)) (mvT hZ (ow hw 193 rfl)) (by decide) (backOf (W := 0) (au26_3 l Z a0 hw [] wMAX_LOCK_DELAY wGRANTED wQUEUED wBUSY wZERO hS a11 q3 (1 : Int64) a13 a15 a17 k18 T49.heap n0 O50 p49_0 p49_1f p49_2 p49_3 p49_4 p49_5 f51 f52 f53 f54 f55 f56 f57 P25 P33 P34) hZ (ow hw 195 rfl) (ow hw 2 rfl) (by decide) (by decide)) q58a q58c (g := (mkF m 252 #[(vi p1), (vi p2), (vl q3), .second, (vl q4), .second, (vl q5), .second, (vl q6), .second, (vi p7), (vi 1), (vi 0), (vi p10), (vr a11), (vr wZERO), (vr a13), (vr a14), .unset, .unset, .unset, .unset] [(.int 1), (.long q3), (.ref a11)])) rfl (by rw [hml]; rfl) (Steps.refl _) (argsL := [(.long q3), (.int 1)]) (rest := []) (lenOf pd_19 rfl) rfl (by show 2 * 0 + _ ≤ _; exact Nat.le_of_eq rfl) (hb hby at_252) (fun _ _ => ⟨rfl, rfl, (by decide : 5 + 1 ≤ _), (by decide : 29 + 4 ≤ _)⟩)
      dsimp only [Pt.U, Pt.locs, Pt.cells, Pt.slots] at X58 l58 y58 z58 st58 hQ58
      subst l58 y58 z58
      obtain ⟨rfl, Nq58, K58q, p58_0, p58_1, p58_2, p58_3, p58_4, p58_5⟩ := hQ58
      have N58 := Fr.app N49 Nq58
      have O59 : Old Z n0 T58.heap := O50.keep K58q (allS P25 all0)
      obtain ⟨cq60, kq60, q60a, q60b, q60c⟩ := isOf hZ rfl p58_0
      obtain ⟨_, _, ⟨T60, L60, k60, n60⟩, -, X60, ⟨Lc60, hQ60, l60, y60, z60⟩, st60⟩ := X58.virtualBack hx (y := M1) (z := M1) hown (mvT hZ (ow hw 46 rfl)) (mvT hZ (ow hw 47 rfl)) (notFace_of_selects (args := #[]) (mvT hZ (ow hw 49 rfl))) (mvT hZ (ow hw 49 rfl)) (mvT hZ (ow hw 48 rfl)) (by decide) (backOf (W := 0) (rmHeldN l Z a0 hw [] wMAX_LOCK_DELAY wGRANTED wQUEUED wBUSY wZERO hS a11 q6 T58.heap n0 O59 p58_3) hZ (ow hw 50 rfl) (ow hw 2 rfl) (by decide) (by decide)) q60a q60c (g := (mkF m 459 #[(vi p1), (vi p2), (vl q3), .second, (vl q4), .second, (vl q5), .second, (vl q6), .second, (vi p7), (vi 1), (vi 0), (vi p10), (vr a11), (vr wZERO), (vr a13), (vr a14), (vi 0), (vl 1), .second, (vi 0)] [(.long q6), (.ref a11)])) rfl (by rw [hml]; rfl) (Steps.refl _) (argsL := [(.long q6)]) (rest := []) (lenOf pd_3 rfl) rfl (by show 2 * 0 + _ ≤ _; exact Nat.le_of_eq rfl) (hb hby at_459) (fun _ _ => ⟨rfl, rfl, (by decide : 6 + 0 ≤ _), (by decide : 33 + 0 ≤ _)⟩)
      dsimp only [Pt.U, Pt.locs, Pt.cells, Pt.slots] at X60 l60 y60 z60 st60 hQ60
      subst l60 y60 z60
      obtain ⟨rfl, Nq60, K60q⟩ := hQ60
      have N60 := Fr.app N58 Nq60
      obtain ⟨fs, hr, hrun, hended, hW, hsame⟩ := X60.leave (v := some (.int 1)) (fun h => by rw [hret0] at h; cases h)
      refine ⟨_, _, pre48 _ ?_, hrun, hended, _, _, rfl, ?_, ⟨_, rfl⟩, hW, hsame.mono (by decide) (by decide)⟩
      · skip
        show Steps p.tables e below (T0.setTop (mkF m 235 #[(vi p1), (vi p2), (vl q3), .second, (vl q4), .second, (vl q5), .second, (vl q6), .second, (vi p7), (vi 1), (vi 0), (vi p10), (vr a11), (vr wZERO), (vr a13), (vr a14), .unset, .unset, .unset, .unset] [])) _
        refine XS.aload X0.here hx rfl (hb hby at_235) rfl rfl ?_
        refine XS.aload X0.here hx rfl (hb hby at_237) rfl rfl ?_
        refine XS.aload X0.here hx rfl (hb hby at_239) rfl rfl ?_
        refine XS.iload X0.here hx rfl (hb hby at_241) rfl ?_
        refine st49.trans ?_
        show Steps p.tables e below (T49.setTop (mkF m 246 #[(vi p1), (vi p2), (vl q3), .second, (vl q4), .second, (vl q5), .second, (vl q6), .second, (vi p7), (vi 1), (vi 0), (vi p10), (vr a11), (vr wZERO), (vr a13), (vr a14), .unset, .unset, .unset, .unset] [(.ref wGRANTED)])) _
        refine XS.pop X49.here hx rfl (hb hby at_246) rfl rfl ?_
        refine XS.aload X49.here hx rfl (hb hby at_247) rfl rfl ?_
        refine XS.lloadN X49.here hx rfl (hb hby at_249) rfl ?_
        refine XS.iload X49.here hx rfl (hb hby at_250) rfl ?_
        refine st58.trans ?_
        show Steps p.tables e below (T58.setTop (mkF m 255 #[(vi p1), (vi p2), (vl q3), .second, (vl q4), .second, (vl q5), .second, (vl q6), .second, (vi p7), (vi 1), (vi 0), (vi p10), (vr a11), (vr wZERO), (vr a13), (vr a14), .unset, .unset, .unset, .unset] [.null])) _
        refine XS.pop X58.here hx rfl (hb hby at_255) rfl rfl ?_
        refine XS.iconst X58.here hx rfl (hb hby at_256) ?_
        refine XS.istore X58.here hx rfl (hb hby at_257) rfl (l' := #[(vi p1), (vi p2), (vl q3), .second, (vl q4), .second, (vl q5), .second, (vl q6), .second, (vi p7), (vi 1), (vi 0), (vi p10), (vr a11), (vr wZERO), (vr a13), (vr a14), (vi 0), .unset, .unset, .unset]) rfl ?_
        refine XS.lconst X58.here hx rfl (hb hby at_259) ?_
        refine XS.lstore X58.here hx rfl (hb hby at_260) rfl (l' := #[(vi p1), (vi p2), (vl q3), .second, (vl q4), .second, (vl q5), .second, (vl q6), .second, (vi p7), (vi 1), (vi 0), (vi p10), (vr a11), (vr wZERO), (vr a13), (vr a14), (vi 0), (vl 1), .second, .unset]) rfl ?_
        show Steps p.tables e below (T58.setTop (mkF m 262 #[(vi p1), (vi p2), (vl q3), .second, (vl q4), .second, (vl q5), .second, (vl q6), .second, (vi p7), (vi 1), (vi 0), (vi p10), (vr a11), (vr wZERO), (vr a13), (vr a14), (vi 0), (vl 1), .second, .unset] [])) _
        refine XS.goto X58.here hx rfl (pc0 := 262) (pc' := 435) rfl (hb hby at_262) (by decide) (by decide) ?_
        refine XS.iload X58.here hx rfl (hb hby at_435) rfl ?_
        refine XS.ifYes X58.here hx rfl (pc0 := 437) (pc' := 452) rfl (hb hby at_437) rfl ((if0 _ _).trans (teq (by decide : (0 : Int32) = (0 : Int32))).1) (by decide) (by decide) ?_
        refine XS.iconst X58.here hx rfl (hb hby at_452) ?_
        refine XS.istore X58.here hx rfl (hb hby at_453) rfl (l' := #[(vi p1), (vi p2), (vl q3), .second, (vl q4), .second, (vl q5), .second, (vl q6), .second, (vi p7), (vi 1), (vi 0), (vi p10), (vr a11), (vr wZERO), (vr a13), (vr a14), (vi 0), (vl 1), .second, (vi 0)]) rfl ?_
        show Steps p.tables e below (T58.setTop (mkF m 455 #[(vi p1), (vi p2), (vl q3), .second, (vl q4), .second, (vl q5), .second, (vl q6), .second, (vi p7), (vi 1), (vi 0), (vi p10), (vr a11), (vr wZERO), (vr a13), (vr a14), (vi 0), (vl 1), .second, (vi 0)] [])) _
        refine XS.aload X58.here hx rfl (hb hby at_455) rfl rfl ?_
        refine XS.lload X58.here hx rfl (hb hby at_457) rfl ?_
        refine st60.trans ?_
        refine XS.iload X60.here hx rfl (hb hby at_462) rfl ?_
        refine XS.icmpNo X60.here hx rfl (hb hby at_464) rfl (teq (by decide : (0 : Int32) = (0 : Int32))).2 ?_
        show Steps p.tables e below (T60.setTop (mkF m 467 #[(vi p1), (vi p2), (vl q3), .second, (vl q4), .second, (vl q5), .second, (vl q6), .second, (vi p7), (vi 1), (vi 0), (vi p10), (vr a11), (vr wZERO), (vr a13), (vr a14), (vi 0), (vl 1), .second, (vi 0)] [])) _
        refine XS.iconst X60.here hx rfl (hb hby at_467) ?_
        refine XS.goto X60.here hx rfl (pc0 := 468) (pc' := 472) rfl (hb hby at_468) (by decide) (by decide) ?_
        exact retN X60 hx (t := .boolean) hret0 (by simp) (hb hby at_472) hr
      · skip
        exact ⟨rfl, N60⟩
theorem ef_au26_4 (m : MethodId) (x0 : Addr) (x1 : Int64) (x2 : Int32)  : entryFrame m #[(.ref x0), (.long x1), (.int x2)] 6 = mkF m 0 #[(vr x0), (vl x1), .second, (vi x2), .unset, .unset] [] := by first | (simp [entryFrame, mkF, argsToLocals, Value.category]; done) | rfl
theorem ef_au17_1 (m : MethodId) (x0 : Addr)  : entryFrame m #[(.ref x0)] 1 = mkF m 0 #[(vr x0)] [] := by first | (simp [entryFrame, mkF, argsToLocals, Value.category]; done) | rfl
theorem ef_au18_1 (m : MethodId) (x0 : Addr) (x1 : Addr)  : entryFrame m #[(.ref x0), (.ref x1)] 2 = mkF m 0 #[(vr x0), (vr x1)] [] := by first | (simp [entryFrame, mkF, argsToLocals, Value.category]; done) | rfl
theorem ef_au19_1 (m : MethodId) (x0 : Addr)  : entryFrame m #[(.ref x0)] 1 = mkF m 0 #[(vr x0)] [] := by first | (simp [entryFrame, mkF, argsToLocals, Value.category]; done) | rfl
theorem ef_au20_1 (m : MethodId) (x0 : Int32) (x1 : Int32) (x2 : Int32)  : entryFrame m #[(.int x0), (.int x1), (.int x2)] 3 = mkF m 0 #[(vi x0), (vi x1), (vi x2)] [] := by first | (simp [entryFrame, mkF, argsToLocals, Value.category]; done) | rfl
def Q_au20_1 (Z : State) (wMAX_LOCK_DELAY : Addr) (wGRANTED : Addr) (wQUEUED : Addr) (wBUSY : Addr) (wZERO : Addr)  (h0 : Heap) (n0 : Nat) (v : Option Value) (h : Heap) (L : List Loc) : Prop := v = some (.int 1) ∧ Fr n0 L ∧ h = h0
theorem au20_1 (l : Launch) (Z : State) (a0 : Array Value) (hw : ∀ d ∈ tables_1, d.before a0 Z = true) (ws : List Jvm.Cond) (wMAX_LOCK_DELAY : Addr) (wGRANTED : Addr) (wQUEUED : Addr) (wBUSY : Addr) (wZERO : Addr) (hS : SS Z wMAX_LOCK_DELAY wGRANTED wQUEUED wBUSY wZERO)  (h0 : Heap) (n0 : Nat) (O0 : Old Z n0 h0)  :
    MetB l M15 jdk_21_method_9_code 3 (some .int) ws (rmk 0 0 0 0) Z h0 #[(.int 1), (.int 0), (.int 17)] (Q_au20_1 Z wMAX_LOCK_DELAY wGRANTED wQUEUED wBUSY wZERO  h0 n0) := by
  refine own_body (plainFor_of_name pn_java_util_ArrayDeque) ?_
  intro p e s m below meth c s₁ hx hby hml hown hnm hret0 hlk0 hZ X0 e0
  have N0 := Fr.nil n0
  have pre0 : ∀ t, Steps p.tables e below (s₁.setTop (mkF m 0 #[(vi 1), (vi 0), (vi 17)] [])) t → Steps p.tables e below (s₁.setTop (entryFrame m #[(.int 1), (.int 0), (.int 17)] 3)) t := fun t k => castTop (ef_au20_1 m (1 : Int32) (0 : Int32) (17 : Int32)) k
  have hS0 := hS
  obtain ⟨S_wMAX_LOCK_DELAY, E_wMAX_LOCK_DELAY, S_wGRANTED, E_wGRANTED, S_wQUEUED, E_wQUEUED, S_wBUSY, E_wBUSY, F_seconds_wMAX_LOCK_DELAY, F_nanos_wMAX_LOCK_DELAY, S_wZERO, E_wZERO, F_seconds_wZERO, F_nanos_wZERO⟩ := hS0
  obtain ⟨fs, hr, hrun, hended, hW, hsame⟩ := X0.leave (v := some (.int 1)) (fun h => by rw [hret0] at h; cases h)
  refine ⟨_, _, pre0 _ ?_, hrun, hended, _, _, rfl, ?_, ⟨_, rfl⟩, hW, hsame.mono (by decide) (by decide)⟩
  · skip
    show Steps p.tables e below (s₁.setTop (mkF m 0 #[(vi 1), (vi 0), (vi 17)] [])) _
    refine XS.iloadN X0.here hx rfl (hb hby d20_0) rfl ?_
    refine XS.iloadN X0.here hx rfl (hb hby d20_1) rfl ?_
    refine XS.isub X0.here hx rfl (hb hby d20_2) rfl ?_
    refine XS.dup X0.here hx rfl (hb hby d20_3) rfl rfl ?_
    refine XS.istoreN X0.here hx rfl (hb hby d20_4) rfl (l' := #[(vi 1), (vi 0), (vi 17)]) rfl ?_
    show Steps p.tables e below (s₁.setTop (mkF m 5 #[(vi 1), (vi 0), (vi 17)] [(.int 1)])) _
    refine XS.ifYes X0.here hx rfl (pc0 := 5) (pc' := 12) rfl (hb hby d20_5) rfl ((if0 _ _).trans (flt (by decide : ¬ ((1 : Int32) < (0 : Int32)))).2.1) (by decide) (by decide) ?_
    refine XS.iloadN X0.here hx rfl (hb hby d20_12) rfl ?_
    exact retI X0 hx hret0 (hb hby d20_13) hr
  · show Q_au20_1 Z wMAX_LOCK_DELAY wGRANTED wQUEUED wBUSY wZERO  h0 n0 _ s₁.heap _
    rw [e0]
    exact ⟨rfl, N0, rfl⟩
def Q_au19_1 (Z : State) (wMAX_LOCK_DELAY : Addr) (wGRANTED : Addr) (wQUEUED : Addr) (wBUSY : Addr) (wZERO : Addr) (a1 : Addr) (a2 : Addr) (k3 : ClassId) (a4 : Addr) (h0 : Heap) (n0 : Nat) (v : Option Value) (h : Heap) (L : List Loc) : Prop := v = some (.int 1) ∧ Fr n0 L ∧ h = h0
theorem au19_1 (l : Launch) (Z : State) (a0 : Array Value) (hw : ∀ d ∈ tables_1, d.before a0 Z = true) (ws : List Jvm.Cond) (wMAX_LOCK_DELAY : Addr) (wGRANTED : Addr) (wQUEUED : Addr) (wBUSY : Addr) (wZERO : Addr) (hS : SS Z wMAX_LOCK_DELAY wGRANTED wQUEUED wBUSY wZERO) (a1 : Addr) (a2 : Addr) (k3 : ClassId) (a4 : Addr) (h0 : Heap) (n0 : Nat) (O0 : Old Z n0 h0) (P1 : Fld Z h0 a1 s7n "elements" s8n (.ref a2)) (P2 : Fld Z h0 a1 s7n "head" "I" (.int 0)) (P3 : Fld Z h0 a1 s7n "tail" "I" (.int 1)) (P4 : Arv Z h0 a2 k3 (.object s9n) (17 : Int32) ([(.ref a4), .null, .null, .null, .null, .null, .null, .null, .null, .null, .null, .null, .null, .null, .null, .null, .null]) .null) :
    MetB l M16 jdk_21_method_37_code 1 (some .int) ws (rmk 1 0 0 14) Z h0 #[(.ref a1)] (Q_au19_1 Z wMAX_LOCK_DELAY wGRANTED wQUEUED wBUSY wZERO a1 a2 k3 a4 h0 n0) := by
  refine own_body (plainFor_of_name pn_java_util_ArrayDeque) ?_
  intro p e s m below meth c s₁ hx hby hml hown hnm hret0 hlk0 hZ X0 e0
  have N0 := Fr.nil n0
  have pre0 : ∀ t, Steps p.tables e below (s₁.setTop (mkF m 0 #[(vr a1)] [])) t → Steps p.tables e below (s₁.setTop (entryFrame m #[(.ref a1)] 1)) t := fun t k => castTop (ef_au19_1 m a1) k
  have hS0 := hS
  obtain ⟨S_wMAX_LOCK_DELAY, E_wMAX_LOCK_DELAY, S_wGRANTED, E_wGRANTED, S_wQUEUED, E_wQUEUED, S_wBUSY, E_wBUSY, F_seconds_wMAX_LOCK_DELAY, F_nanos_wMAX_LOCK_DELAY, S_wZERO, E_wZERO, F_seconds_wZERO, F_nanos_wZERO⟩ := hS0
  obtain ⟨T1, X1, e1, st1⟩ := getF X0 hx hZ hown (host := "") (Or.inl (ow hw 136 rfl)) Via.refl e0 P3 (g := (mkF m 1 #[(vr a1)] [(.ref a1)])) rfl rfl (hb hby d19_1)
  obtain ⟨T2, X2, e2, st2⟩ := getF X1 hx hZ hown (host := "") (Or.inl (ow hw 102 rfl)) Via.refl e1 P2 (g := (mkF m 5 #[(vr a1)] [(.ref a1), (.int 1)])) rfl rfl (hb hby d19_5)
  obtain ⟨T3, X3, e3, st3⟩ := getF X2 hx hZ hown (host := "") (Or.inl (ow hw 24 rfl)) Via.refl e2 P1 (g := (mkF m 9 #[(vr a1)] [(.ref a1), (.int 0), (.int 1)])) rfl rfl (hb hby d19_9)
  obtain ⟨cl4, Ar4, -, Sz4, Nn4, -, -⟩ := (id P4)
  obtain ⟨_, _, ⟨T5, L5, k5, n5⟩, -, X5, ⟨Lc5, hQ5, l5, y5, z5⟩, st5⟩ := Jvm.LawKit.callS X3 hx (y := M15) hown (mvT hZ (ow hw 138 rfl)) (mvT hZ (ow hw 139 rfl)) (mvT hZ (ow hw 11 rfl)) (mvT hZ (ow hw 140 rfl)) (by decide) (backOf (W := 0) (au20_1 l Z a0 hw [] wMAX_LOCK_DELAY wGRANTED wQUEUED wBUSY wZERO hS  h0 n0 O0 ) hZ (ow hw 140 rfl) (ow hw 11 rfl) (by decide) (by decide)) (g := (mkF m 13 #[(vr a1)] [(.int 17), (.int 0), (.int 1)])) rfl (by rw [hml]; rfl) (argsL := [(.int 1), (.int 0), (.int 17)]) (rest := []) (lenOf pd_10 rfl) rfl (by show 2 * 0 + _ ≤ _; exact Nat.le_of_eq rfl) (hb hby d19_13) (fun _ _ => ⟨rfl, e3, (by decide : 0 + 0 ≤ _), (by decide : 0 + 0 ≤ _)⟩)
  dsimp only [Pt.U, Pt.locs, Pt.cells, Pt.slots] at X5 l5 y5 z5 st5 hQ5
  subst l5 y5 z5
  obtain ⟨rfl, Nq5, K5q⟩ := hQ5
  have N5 := Fr.app N0 Nq5
  obtain ⟨fs, hr, hrun, hended, hW, hsame⟩ := X5.leave (v := some (.int 1)) (fun h => by rw [hret0] at h; cases h)
  refine ⟨_, _, pre0 _ ?_, hrun, hended, _, _, rfl, ?_, ⟨_, rfl⟩, hW, hsame.mono (by decide) (by decide)⟩
  · skip
    show Steps p.tables e below (s₁.setTop (mkF m 0 #[(vr a1)] [])) _
    refine XS.aloadN X0.here hx rfl (hb hby d19_0) rfl rfl ?_
    refine st1 _ ?_
    refine XS.aloadN X1.here hx rfl (hb hby d19_4) rfl rfl ?_
    refine st2 _ ?_
    refine XS.aloadN X2.here hx rfl (hb hby d19_8) rfl rfl ?_
    show Steps p.tables e below (T2.setTop (mkF m 9 #[(vr a1)] [(.ref a1), (.int 0), (.int 1)])) _
    refine st3 _ ?_
    refine X3.arraylength hx (by rw [e3]; exact Ar4.1) (State.isArrayOf_alike hZ.alike Ar4.2.1) (g := (mkF m 12 #[(vr a1)] [(.ref a2), (.int 0), (.int 1)])) rfl rfl (hb hby d19_12) _ ?_
    rw [len_of Sz4 Nn4]
    refine st5 _ ?_
    exact retI X5 hx hret0 (hb hby d19_16) hr
  · show Q_au19_1 Z wMAX_LOCK_DELAY wGRANTED wQUEUED wBUSY wZERO a1 a2 k3 a4 h0 n0 _ T5.heap _
    rw [K5q]
    exact ⟨rfl, N5, rfl⟩
def Q_au18_1 (Z : State) (wMAX_LOCK_DELAY : Addr) (wGRANTED : Addr) (wQUEUED : Addr) (wBUSY : Addr) (wZERO : Addr) (a1 : Addr) (a2 : Addr) (a3 : Addr) (k4 : ClassId) (a5 : Addr) (h0 : Heap) (n0 : Nat) (v : Option Value) (h : Heap) (L : List Loc) : Prop := v = none ∧ Fr n0 L ∧ Keep h0 h [a1] ∧ Exa Z h a1 s13n ∧ Fld Z h a1 s13n "cursor" "I" (.int 0) ∧ Fld Z h a1 s13n "lastRet" "I" (.int (-1 : Int32)) ∧ Fld Z h a1 s13n "remaining" "I" (.int 1) ∧ Fld Z h a1 s13n "this$0" s14n (.ref a2)
theorem au18_1 (l : Launch) (Z : State) (a0 : Array Value) (hw : ∀ d ∈ tables_1, d.before a0 Z = true) (ws : List Jvm.Cond) (wMAX_LOCK_DELAY : Addr) (wGRANTED : Addr) (wQUEUED : Addr) (wBUSY : Addr) (wZERO : Addr) (hS : SS Z wMAX_LOCK_DELAY wGRANTED wQUEUED wBUSY wZERO) (a1 : Addr) (a2 : Addr) (a3 : Addr) (k4 : ClassId) (a5 : Addr) (h0 : Heap) (n0 : Nat) (O0 : Old Z n0 h0) (P0 : Exa Z h0 a1 s13n) (P1 : Fld Z h0 a1 s13n "cursor" "I" (.int 0)) (P2 : Fld Z h0 a1 s13n "lastRet" "I" (.int 0)) (P3 : Fld Z h0 a1 s13n "remaining" "I" (.int 0)) (P4 : Fld Z h0 a1 s13n "this$0" s14n .null) (P5 : Exa Z h0 a2 s7n) (P6 : Fld Z h0 a2 s7n "elements" s8n (.ref a3)) (P7 : Fld Z h0 a2 s7n "head" "I" (.int 0)) (P8 : Fld Z h0 a2 s7n "tail" "I" (.int 1)) (P9 : Arv Z h0 a3 k4 (.object s9n) (17 : Int32) ([(.ref a5), .null, .null, .null, .null, .null, .null, .null, .null, .null, .null, .null, .null, .null, .null, .null, .null]) .null) (P18 : n0 ≤ a1) (P23 : a1 ≠ a2) (P24 : a1 ≠ a3) :
    MetB l M17 jdk_54_method_1_code 2 none ws (rmk 2 0 0 27) Z h0 #[(.ref a1), (.ref a2)] (Q_au18_1 Z wMAX_LOCK_DELAY wGRANTED wQUEUED wBUSY wZERO a1 a2 a3 k4 a5 h0 n0) := by
  refine own_body (plainFor_of_name pn_java_util_ArrayDeque_DeqIterator) ?_
  intro p e s m below meth c s₁ hx hby hml hown hnm hret0 hlk0 hZ X0 e0
  have N0 := Fr.nil n0
  have pre0 : ∀ t, Steps p.tables e below (s₁.setTop (mkF m 0 #[(vr a1), (vr a2)] [])) t → Steps p.tables e below (s₁.setTop (entryFrame m #[(.ref a1), (.ref a2)] 2)) t := fun t k => castTop (ef_au18_1 m a1 a2) k
  have K0 := Keep.refl h0 [a1]
  have hS0 := hS
  obtain ⟨S_wMAX_LOCK_DELAY, E_wMAX_LOCK_DELAY, S_wGRANTED, E_wGRANTED, S_wQUEUED, E_wQUEUED, S_wBUSY, E_wBUSY, F_seconds_wMAX_LOCK_DELAY, F_nanos_wMAX_LOCK_DELAY, S_wZERO, E_wZERO, F_seconds_wZERO, F_nanos_wZERO⟩ := hS0
  obtain ⟨T1, h1, X1, e1, W1, st1⟩ := putF X0 hx hZ hown (host := "") (Or.inl (ow hw 128 rfl)) Via.refl e0 P4 P0 (Or.inr ⟨(ow hw 129 rfl), rfl, hnm⟩) (ow hw 122 rfl) (ty := (.object s7n)) (by decide) rfl rfl (g := (mkF m 2 #[(vr a1), (vr a2)] [(.ref a2), (.ref a1)])) rfl rfl (hb hby d18_2)
  have N1 := Fr.snoc X1 N0 P18
  have O2 : Old Z n0 h1 := O0.wr W1 P18
  have K2 : Keep h0 h1 [a1] := K0.wr W1 (Or.inl (List.mem_of_getElem? (i := 0) rfl))
  have Fw1 : Fld Z h1 a1 s13n "this$0" s14n (.ref a2) := P4.same W1
  obtain ⟨T3, X3, e3, st3⟩ := initO X1 hx hZ hown (ow hw 130 rfl) (ow hw 7 rfl) (ow hw 8 rfl) e1 (g := (mkF m 6 #[(vr a1), (vr a2)] [(.ref a1)])) rfl (by rw [hml]; rfl) rfl (hb hby d18_6) (by decide) (W := 0) (by show 2 * 0 + _ ≤ _; exact Nat.le_of_eq rfl) (by decide)
  obtain ⟨T4, X4, e4, st4⟩ := getF X3 hx hZ hown (host := "") (Or.inl (ow hw 128 rfl)) Via.refl e3 Fw1 (g := (mkF m 11 #[(vr a1), (vr a2)] [(.ref a1), (.ref a1)])) rfl rfl (hb hby d18_11)
  have f5 : Fld Z h1 a2 s7n "elements" s8n (.ref a3) := (P6.other W1 (Or.inl (Ne.symm P23)))
  have f6 : Fld Z h1 a2 s7n "head" "I" (.int 0) := (P7.other W1 (Or.inl (Ne.symm P23)))
  have f7 : Fld Z h1 a2 s7n "tail" "I" (.int 1) := (P8.other W1 (Or.inl (Ne.symm P23)))
  have f8 : Arv Z h1 a3 k4 (.object s9n) (17 : Int32) ([(.ref a5), .null, .null, .null, .null, .null, .null, .null, .null, .null, .null, .null, .null, .null, .null, .null, .null]) .null := (P9.other W1 (Ne.symm P24))
  have f10 : Exa Z h1 a2 s7n := (P5.wr W1)
  obtain ⟨cq9, kq9, q9a, q9b, q9c⟩ := isOf hZ e4 f10
  obtain ⟨_, _, ⟨T9, L9, k9, n9⟩, -, X9, ⟨Lc9, hQ9, l9, y9, z9⟩, st9⟩ := X4.virtualBack hx (y := M16) (z := M16) hown (mvT hZ (ow hw 131 rfl)) (mvT hZ (ow hw 132 rfl)) (notFace_of_selects (args := #[]) (mvT hZ (ow hw 134 rfl))) (mvT hZ (ow hw 134 rfl)) (mvT hZ (ow hw 133 rfl)) (by decide) (backOf (W := 1) (au19_1 l Z a0 hw [] wMAX_LOCK_DELAY wGRANTED wQUEUED wBUSY wZERO hS a2 a3 k4 a5 h1 n0 O2 f5 f6 f7 f8) hZ (ow hw 135 rfl) (ow hw 11 rfl) (by decide) (by decide)) q9a q9c (g := (mkF m 14 #[(vr a1), (vr a2)] [(.ref a2), (.ref a1)])) rfl (by rw [hml]; rfl) (Steps.refl _) (argsL := []) (rest := [(.ref a1)]) (lenOf pd_11 rfl) rfl (by show 2 * 0 + _ ≤ _; exact Nat.le_of_eq rfl) (hb hby d18_14) (fun _ _ => ⟨rfl, e4, (by decide : 0 + 0 ≤ _), (by decide : 0 + 0 ≤ _)⟩)
  dsimp only [Pt.U, Pt.locs, Pt.cells, Pt.slots] at X9 l9 y9 z9 st9 hQ9
  subst l9 y9 z9
  obtain ⟨rfl, Nq9, K9q⟩ := hQ9
  have N9 := Fr.app N1 Nq9
  have f11 : Exa Z h1 a1 s13n := (P0.wr W1)
  have f12 : Fld Z h1 a1 s13n "remaining" "I" (.int 0) := (P3.other W1 (Or.inr (slot_ne (Or.inl (ow hw 142 rfl)) (Or.inr (ow hw 129 rfl)) (by decide) (t := .int) (t' := (.object s7n)) (by decide) (by decide))))
  obtain ⟨T13, h13, X13, e13, W13, st13⟩ := putF X9 hx hZ hown (host := "") (Or.inl (ow hw 141 rfl)) Via.refl K9q f12 f11 (Or.inl (ow hw 142 rfl)) (ow hw 122 rfl) (ty := .int) (by decide) rfl rfl (g := (mkF m 17 #[(vr a1), (vr a2)] [(.int 1), (.ref a1)])) rfl rfl (hb hby d18_17)
  have N13 := Fr.snoc X13 N9 P18
  have O14 : Old Z n0 h13 := O2.wr W13 P18
  have K14 : Keep h0 h13 [a1] := K2.wr W13 (Or.inl (List.mem_of_getElem? (i := 0) rfl))
  have Fw13 : Fld Z h13 a1 s13n "remaining" "I" (.int 1) := f12.same W13
  have f15 : Exa Z h13 a1 s13n := (f11.wr W13)
  have f16 : Fld Z h13 a1 s13n "lastRet" "I" (.int 0) := ((P2.other W1 (Or.inr (slot_ne (Or.inl (ow hw 144 rfl)) (Or.inr (ow hw 129 rfl)) (by decide) (t := .int) (t' := (.object s7n)) (by decide) (by decide)))).other W13 (Or.inr (slot_ne (Or.inl (ow hw 144 rfl)) (Or.inl (ow hw 142 rfl)) (by decide) (t := .int) (t' := .int) (by decide) (by decide))))
  obtain ⟨T17, h17, X17, e17, W17, st17⟩ := putF X13 hx hZ hown (host := "") (Or.inl (ow hw 143 rfl)) Via.refl e13 f16 f15 (Or.inl (ow hw 144 rfl)) (ow hw 122 rfl) (ty := .int) (by decide) rfl rfl (g := (mkF m 22 #[(vr a1), (vr a2)] [(.int (-1 : Int32)), (.ref a1)])) rfl rfl (hb hby d18_22)
  have N17 := Fr.snoc X17 N13 P18
  have O18 : Old Z n0 h17 := O14.wr W17 P18
  have K18 : Keep h0 h17 [a1] := K14.wr W17 (Or.inl (List.mem_of_getElem? (i := 0) rfl))
  have Fw17 : Fld Z h17 a1 s13n "lastRet" "I" (.int (-1 : Int32)) := f16.same W17
  have f19 : Fld Z h17 a2 s7n "head" "I" (.int 0) := ((f6.other W13 (Or.inl (Ne.symm P23))).other W17 (Or.inl (Ne.symm P23)))
  obtain ⟨T20, X20, e20, st20⟩ := getF X17 hx hZ hown (host := "") (Or.inl (ow hw 145 rfl)) Via.refl e17 f19 (g := (mkF m 27 #[(vr a1), (vr a2)] [(.ref a2), (.ref a1)])) rfl rfl (hb hby d18_27)
  have f21 : Exa Z h17 a1 s13n := (f15.wr W17)
  have f22 : Fld Z h17 a1 s13n "cursor" "I" (.int 0) := (((P1.other W1 (Or.inr (slot_ne (Or.inl (ow hw 147 rfl)) (Or.inr (ow hw 129 rfl)) (by decide) (t := .int) (t' := (.object s7n)) (by decide) (by decide)))).other W13 (Or.inr (slot_ne (Or.inl (ow hw 147 rfl)) (Or.inl (ow hw 142 rfl)) (by decide) (t := .int) (t' := .int) (by decide) (by decide)))).other W17 (Or.inr (slot_ne (Or.inl (ow hw 147 rfl)) (Or.inl (ow hw 144 rfl)) (by decide) (t := .int) (t' := .int) (by decide) (by decide))))
  obtain ⟨T23, h23, X23, e23, W23, st23⟩ := putF X20 hx hZ hown (host := "") (Or.inl (ow hw 146 rfl)) Via.refl e20 f22 f21 (Or.inl (ow hw 147 rfl)) (ow hw 122 rfl) (ty := .int) (by decide) rfl rfl (g := (mkF m 30 #[(vr a1), (vr a2)] [(.int 0), (.ref a1)])) rfl rfl (hb hby d18_30)
  have N23 := Fr.snoc X23 N17 P18
  have O24 : Old Z n0 h23 := O18.wr W23 P18
  have K24 : Keep h0 h23 [a1] := K18.wr W23 (Or.inl (List.mem_of_getElem? (i := 0) rfl))
  have Fw23 : Fld Z h23 a1 s13n "cursor" "I" (.int 0) := f22.same W23
  have f25 : Exa Z h23 a1 s13n := (f21.wr W23)
  have f26 : Fld Z h23 a1 s13n "lastRet" "I" (.int (-1 : Int32)) := (Fw17.other W23 (Or.inr (slot_ne (Or.inl (ow hw 144 rfl)) (Or.inl (ow hw 147 rfl)) (by decide) (t := .int) (t' := .int) (by decide) (by decide))))
  have f27 : Fld Z h23 a1 s13n "remaining" "I" (.int 1) := ((Fw13.other W17 (Or.inr (slot_ne (Or.inl (ow hw 142 rfl)) (Or.inl (ow hw 144 rfl)) (by decide) (t := .int) (t' := .int) (by decide) (by decide)))).other W23 (Or.inr (slot_ne (Or.inl (ow hw 142 rfl)) (Or.inl (ow hw 147 rfl)) (by decide) (t := .int) (t' := .int) (by decide) (by decide))))
  have f28 : Fld Z h23 a1 s13n "this$0" s14n (.ref a2) := (((Fw1.other W13 (Or.inr (slot_ne (Or.inr (ow hw 129 rfl)) (Or.inl (ow hw 142 rfl)) (by decide) (t := (.object s7n)) (t' := .int) (by decide) (by decide)))).other W17 (Or.inr (slot_ne (Or.inr (ow hw 129 rfl)) (Or.inl (ow hw 144 rfl)) (by decide) (t := (.object s7n)) (t' := .int) (by decide) (by decide)))).other W23 (Or.inr (slot_ne (Or.inr (ow hw 129 rfl)) (Or.inl (ow hw 147 rfl)) (by decide) (t := (.object s7n)) (t' := .int) (by decide) (by decide))))
  obtain ⟨fs, hr, hrun, hended, hW, hsame⟩ := X23.leave (v := none) (fun _ => rfl)
  refine ⟨_, _, pre0 _ ?_, hrun, hended, _, _, rfl, ?_, ⟨_, rfl⟩, hW, hsame.mono (by decide) (by decide)⟩
  · skip
    show Steps p.tables e below (s₁.setTop (mkF m 0 #[(vr a1), (vr a2)] [])) _
    refine XS.aloadN X0.here hx rfl (hb hby d18_0) rfl rfl ?_
    refine XS.aloadN X0.here hx rfl (hb hby d18_1) rfl rfl ?_
    refine st1 _ ?_
    refine XS.aloadN X1.here hx rfl (hb hby d18_5) rfl rfl ?_
    refine st3 _ ?_
    show Steps p.tables e below (T3.setTop (mkF m 9 #[(vr a1), (vr a2)] [])) _
    refine XS.aloadN X3.here hx rfl (hb hby d18_9) rfl rfl ?_
    refine XS.aloadN X3.here hx rfl (hb hby d18_10) rfl rfl ?_
    refine st4 _ ?_
    refine st9.trans ?_
    refine st13 _ ?_
    show Steps p.tables e below (T13.setTop (mkF m 20 #[(vr a1), (vr a2)] [])) _
    refine XS.aloadN X13.here hx rfl (hb hby d18_20) rfl rfl ?_
    refine XS.iconst X13.here hx rfl (hb hby d18_21) ?_
    refine st17 _ ?_
    refine XS.aloadN X17.here hx rfl (hb hby d18_25) rfl rfl ?_
    refine XS.aloadN X17.here hx rfl (hb hby d18_26) rfl rfl ?_
    show Steps p.tables e below (T17.setTop (mkF m 27 #[(vr a1), (vr a2)] [(.ref a2), (.ref a1)])) _
    refine st20 _ ?_
    refine st23 _ ?_
    exact X23.returnOut hx hret0 (hb hby d18_33) hr
  · show Q_au18_1 Z wMAX_LOCK_DELAY wGRANTED wQUEUED wBUSY wZERO a1 a2 a3 k4 a5 h0 n0 _ T23.heap _
    rw [e23]
    exact ⟨rfl, N23, K24, f25, Fw23, f26, f27, f28⟩
def Q_au17_1 (Z : State) (wMAX_LOCK_DELAY : Addr) (wGRANTED : Addr) (wQUEUED : Addr) (wBUSY : Addr) (wZERO : Addr) (a1 : Addr) (a2 : Addr) (k3 : ClassId) (a4 : Addr) (a6 : Addr) (h0 : Heap) (n0 : Nat) (v : Option Value) (h : Heap) (L : List Loc) : Prop := ∃ (e1 : Addr), v = some (.ref e1) ∧ Fr n0 L ∧ Keep h0 h [] ∧ h0.size ≤ e1 ∧ Exa Z h e1 s13n ∧ Fld Z h e1 s13n "cursor" "I" (.int 0) ∧ Fld Z h e1 s13n "lastRet" "I" (.int (-1 : Int32)) ∧ Fld Z h e1 s13n "remaining" "I" (.int 1) ∧ Fld Z h e1 s13n "this$0" s14n (.ref a1)
theorem au17_1 (l : Launch) (Z : State) (a0 : Array Value) (hw : ∀ d ∈ tables_1, d.before a0 Z = true) (ws : List Jvm.Cond) (wMAX_LOCK_DELAY : Addr) (wGRANTED : Addr) (wQUEUED : Addr) (wBUSY : Addr) (wZERO : Addr) (hS : SS Z wMAX_LOCK_DELAY wGRANTED wQUEUED wBUSY wZERO) (a1 : Addr) (a2 : Addr) (k3 : ClassId) (a4 : Addr) (a6 : Addr) (h0 : Heap) (n0 : Nat) (O0 : Old Z n0 h0) (P0 : Exa Z h0 a1 s7n) (P1 : Fld Z h0 a1 s7n "elements" s8n (.ref a2)) (P2 : Fld Z h0 a1 s7n "head" "I" (.int 0)) (P3 : Fld Z h0 a1 s7n "tail" "I" (.int 1)) (P4 : Arv Z h0 a2 k3 (.object s9n) (17 : Int32) ([(.ref a4), .null, .null, .null, .null, .null, .null, .null, .null, .null, .null, .null, .null, .null, .null, .null, .null]) .null) (P7 : Exa Z h0 a4 s16n) (P10 : Exa Z h0 a6 s3n) :
    MetB l M18 jdk_21_method_39_code 1 (some (.object s15n)) ws (rmk 3 1 4 41) Z h0 #[(.ref a1)] (Q_au17_1 Z wMAX_LOCK_DELAY wGRANTED wQUEUED wBUSY wZERO a1 a2 k3 a4 a6 h0 n0) := by
  refine own_body (plainFor_of_name pn_java_util_ArrayDeque) ?_
  intro p e s m below meth c s₁ hx hby hml hown hnm hret0 hlk0 hZ X0 e0
  have N0 := Fr.nil n0
  have pre0 : ∀ t, Steps p.tables e below (s₁.setTop (mkF m 0 #[(vr a1)] [])) t → Steps p.tables e below (s₁.setTop (entryFrame m #[(.ref a1)] 1)) t := fun t k => castTop (ef_au17_1 m a1) k
  have K0 := Keep.refl h0 []
  have hS0 := hS
  obtain ⟨S_wMAX_LOCK_DELAY, E_wMAX_LOCK_DELAY, S_wGRANTED, E_wGRANTED, S_wQUEUED, E_wQUEUED, S_wBUSY, E_wBUSY, F_seconds_wMAX_LOCK_DELAY, F_nanos_wMAX_LOCK_DELAY, S_wZERO, E_wZERO, F_seconds_wZERO, F_nanos_wZERO⟩ := hS0
  obtain ⟨T1, h1, X1, e1, E1, A1, D1, -, st1⟩ := newO X0 hx hZ hown (ow hw 121 rfl) (ow hw 122 rfl) (ow hw 123 rfl) e0 (g := (mkF m 0 #[(vr a1)] [])) rfl (hb hby d17_0) (by decide) (by decide)
  obtain ⟨b1, g1⟩ : ∃ z, z = h0.size := ⟨_, rfl⟩
  rw [← g1] at A1 D1 st1
  have ne2 : a1 ≠ b1 := Nat.ne_of_lt (Nat.lt_of_lt_of_le P0.lt (Nat.le_of_eq g1.symm))
  have ne3 : a2 ≠ b1 := Nat.ne_of_lt (Nat.lt_of_lt_of_le P4.lt (Nat.le_of_eq g1.symm))
  have ne4 : a4 ≠ b1 := Nat.ne_of_lt (Nat.lt_of_lt_of_le P7.lt (Nat.le_of_eq g1.symm))
  have ne5 : a6 ≠ b1 := Nat.ne_of_lt (Nat.lt_of_lt_of_le P10.lt (Nat.le_of_eq g1.symm))
  have g6 : n0 ≤ b1 := Nat.le_trans (own_sz O0) (Nat.le_of_eq g1.symm)
  have sz7 : h0.size ≤ b1 := Nat.le_trans K0.1 (Nat.le_of_eq g1.symm)
  have O8 : Old Z n0 h1 := O0.ext E1
  have K8 : Keep h0 h1 [] := K0.ext E1
  have f9 : Fld Z h1 b1 s13n "this$0" s14n .null := D1 (Or.inr (ow hw 129 rfl)) (ty := (.object s7n)) (by decide)
  have f10 : Fld Z h1 b1 s13n "remaining" "I" (.int 0) := D1 (Or.inl (ow hw 142 rfl)) (ty := .int) (by decide)
  have f11 : Fld Z h1 b1 s13n "lastRet" "I" (.int 0) := D1 (Or.inl (ow hw 144 rfl)) (ty := .int) (by decide)
  have f12 : Fld Z h1 b1 s13n "cursor" "I" (.int 0) := D1 (Or.inl (ow hw 147 rfl)) (ty := .int) (by decide)
  have f13 : Exa Z h1 a1 s7n := (P0.ext E1)
  have f14 : Fld Z h1 a1 s7n "elements" s8n (.ref a2) := (P1.ext E1)
  have f15 : Fld Z h1 a1 s7n "head" "I" (.int 0) := (P2.ext E1)
  have f16 : Fld Z h1 a1 s7n "tail" "I" (.int 1) := (P3.ext E1)
  have f17 : Arv Z h1 a2 k3 (.object s9n) (17 : Int32) ([(.ref a4), .null, .null, .null, .null, .null, .null, .null, .null, .null, .null, .null, .null, .null, .null, .null, .null]) .null := (P4.ext E1)
  obtain ⟨_, _, ⟨T18, L18, k18, n18⟩, -, X18, ⟨Lc18, hQ18, l18, y18, z18⟩, st18⟩ := X1.specialBack hx (y := M17) rfl hown (mvT hZ (ow hw 124 rfl)) (mvT hZ (ow hw 125 rfl)) (mvT hZ (ow hw 127 rfl)) (by decide) (backOf (W := 1) (au18_1 l Z a0 hw [] wMAX_LOCK_DELAY wGRANTED wQUEUED wBUSY wZERO hS b1 a1 a2 k3 a4 h1 n0 O8 A1 f12 f11 f10 f9 f13 f14 f15 f16 f17 g6 (Ne.symm ne2) (Ne.symm ne3)) hZ (ow hw 127 rfl) (ow hw 123 rfl) (by decide) (by decide)) (g := (mkF m 5 #[(vr a1)] [(.ref a1), (.ref b1), (.ref b1)])) rfl (by rw [hml]; rfl) (Steps.refl _) (a := b1) (argsL := [(.ref a1)]) (rest := [(.ref b1)]) (lenOf pd_12 rfl) rfl (by show 2 * 0 + _ ≤ _; exact Nat.le_of_eq rfl) (hb hby d17_5) (fun _ _ => ⟨rfl, e1, (by decide : 1 + 0 ≤ _), (by decide : 4 + 0 ≤ _)⟩)
  dsimp only [Pt.U, Pt.locs, Pt.cells, Pt.slots] at X18 l18 y18 z18 st18 hQ18
  subst l18 y18 z18
  obtain ⟨rfl, Nq18, K18q, p18_0, p18_1, p18_2, p18_3, p18_4⟩ := hQ18
  have N18 := Fr.app N0 Nq18
  have O19 : Old Z n0 T18.heap := O8.keep K18q (allS g6 all0)
  have K19 : Keep h0 T18.heap [] := K8.trans K18q (allS (Or.inr sz7) all0)
  obtain ⟨fs, hr, hrun, hended, hW, hsame⟩ := X18.leave (v := some (.ref b1)) (fun h => by rw [hret0] at h; cases h)
  refine ⟨_, _, pre0 _ ?_, hrun, hended, _, _, rfl, ?_, ⟨_, rfl⟩, hW, hsame.mono (by decide) (by decide)⟩
  · skip
    show Steps p.tables e below (s₁.setTop (mkF m 0 #[(vr a1)] [])) _
    refine st1 _ ?_
    refine XS.dup X1.here hx rfl (hb hby d17_3) rfl rfl ?_
    refine XS.aloadN X1.here hx rfl (hb hby d17_4) rfl rfl ?_
    refine st18.trans ?_
    jvm_step X18.here [X18.here.top, hx, (hb hby d17_8), X18.method', hret0, Value.isRef, FieldType.isReference]
    first | (intro acts; rw [hr _ acts rfl rfl rfl]) | rw [hr _ _ rfl rfl rfl]
    exact Steps.refl _
  · show Q_au17_1 Z wMAX_LOCK_DELAY wGRANTED wQUEUED wBUSY wZERO a1 a2 k3 a4 a6 h0 n0 _ T18.heap _
    exact ⟨b1, rfl, N18, K19, sz7, p18_0, p18_1, p18_2, p18_3, p18_4⟩
theorem ef_au21_1 (m : MethodId) (x0 : Addr)  : entryFrame m #[(.ref x0)] 1 = mkF m 0 #[(vr x0)] [] := by first | (simp [entryFrame, mkF, argsToLocals, Value.category]; done) | rfl
theorem d21_7 : decode jdk_54_method_2_code 7 = .ok (.iconst 1, 1) := by decide +kernel
theorem d21_8 : decode jdk_54_method_2_code 8 = .ok (.goto 4, 3) := by decide +kernel
def Q_au21_1 (Z : State) (wMAX_LOCK_DELAY : Addr) (wGRANTED : Addr) (wQUEUED : Addr) (wBUSY : Addr) (wZERO : Addr) (a1 : Addr) (h0 : Heap) (n0 : Nat) (v : Option Value) (h : Heap) (L : List Loc) : Prop := v = some (.int 1) ∧ Fr n0 L ∧ h = h0
theorem au21_1 (l : Launch) (Z : State) (a0 : Array Value) (hw : ∀ d ∈ tables_1, d.before a0 Z = true) (ws : List Jvm.Cond) (wMAX_LOCK_DELAY : Addr) (wGRANTED : Addr) (wQUEUED : Addr) (wBUSY : Addr) (wZERO : Addr) (hS : SS Z wMAX_LOCK_DELAY wGRANTED wQUEUED wBUSY wZERO) (a1 : Addr) (h0 : Heap) (n0 : Nat) (O0 : Old Z n0 h0) (P3 : Fld Z h0 a1 s13n "remaining" "I" (.int 1)) :
    MetB l M19 jdk_54_method_2_code 1 (some .boolean) ws (rmk 0 0 0 0) Z h0 #[(.ref a1)] (Q_au21_1 Z wMAX_LOCK_DELAY wGRANTED wQUEUED wBUSY wZERO a1 h0 n0) := by
  refine own_body (plainFor_of_name pn_java_util_ArrayDeque_DeqIterator) ?_
  intro p e s m below meth c s₁ hx hby hml hown hnm hret0 hlk0 hZ X0 e0
  have N0 := Fr.nil n0
  have pre0 : ∀ t, Steps p.tables e below (s₁.setTop (mkF m 0 #[(vr a1)] [])) t → Steps p.tables e below (s₁.setTop (entryFrame m #[(.ref a1)] 1)) t := fun t k => castTop (ef_au21_1 m a1) k
  have hS0 := hS
  obtain ⟨S_wMAX_LOCK_DELAY, E_wMAX_LOCK_DELAY, S_wGRANTED, E_wGRANTED, S_wQUEUED, E_wQUEUED, S_wBUSY, E_wBUSY, F_seconds_wMAX_LOCK_DELAY, F_nanos_wMAX_LOCK_DELAY, S_wZERO, E_wZERO, F_seconds_wZERO, F_nanos_wZERO⟩ := hS0
  obtain ⟨T1, X1, e1, st1⟩ := getF X0 hx hZ hown (host := "") (Or.inl (ow hw 141 rfl)) Via.refl e0 P3 (g := (mkF m 1 #[(vr a1)] [(.ref a1)])) rfl rfl (hb hby d21_1)
  obtain ⟨fs, hr, hrun, hended, hW, hsame⟩ := X1.leave (v := some (.int 1)) (fun h => by rw [hret0] at h; cases h)
  refine ⟨_, _, pre0 _ ?_, hrun, hended, _, _, rfl, ?_, ⟨_, rfl⟩, hW, hsame.mono (by decide) (by decide)⟩
  · skip
    show Steps p.tables e below (s₁.setTop (mkF m 0 #[(vr a1)] [])) _
    refine XS.aloadN X0.here hx rfl (hb hby d21_0) rfl rfl ?_
    refine st1 _ ?_
    refine XS.ifNo X1.here hx rfl (hb hby d21_4) rfl ((if0 _ _).trans (tlt (by decide : (0 : Int32) < (1 : Int32))).2.2.2) ?_
    refine XS.iconst X1.here hx rfl (hb hby d21_7) ?_
    refine XS.goto X1.here hx rfl (pc0 := 8) (pc' := 12) rfl (hb hby d21_8) (by decide) (by decide) ?_
    show Steps p.tables e below (T1.setTop (mkF m 12 #[(vr a1)] [(.int 1)])) _
    exact retN X1 hx (t := .boolean) hret0 (by simp) (hb hby d21_12) hr
  · show Q_au21_1 Z wMAX_LOCK_DELAY wGRANTED wQUEUED wBUSY wZERO a1 h0 n0 _ T1.heap _
    rw [e1]
    exact ⟨rfl, N0, rfl⟩
theorem d26_21 : decode prog_84_method_14_code 21 = .ok (.aload 4, 2) := by decide +kernel
theorem d26_23 : decode prog_84_method_14_code 23 = .ok (.invokeinterface 91 1, 5) := by decide +kernel
theorem ef_au27_0 (m : MethodId) (x0 : Addr)  : entryFrame m #[(.ref x0)] 3 = mkF m 0 #[(vr x0), .unset, .unset] [] := by first | (simp [entryFrame, mkF, argsToLocals, Value.category]; done) | rfl
theorem d27_0 : decode jdk_54_method_3_code 0 = .ok (.aload_n 0, 1) := by decide +kernel
theorem d27_1 : decode jdk_54_method_3_code 1 = .ok (.getfield 19, 3) := by decide +kernel
theorem d27_4 : decode jdk_54_method_3_code 4 = .ok (.ifCond .gt 11, 3) := by decide +kernel
theorem d27_15 : decode jdk_54_method_3_code 15 = .ok (.aload_n 0, 1) := by decide +kernel
theorem d27_16 : decode jdk_54_method_3_code 16 = .ok (.getfield 1, 3) := by decide +kernel
theorem d27_19 : decode jdk_54_method_3_code 19 = .ok (.getfield 35, 3) := by decide +kernel
theorem d27_22 : decode jdk_54_method_3_code 22 = .ok (.astore_n 1, 1) := by decide +kernel
theorem d27_23 : decode jdk_54_method_3_code 23 = .ok (.aload_n 1, 1) := by decide +kernel
theorem d27_24 : decode jdk_54_method_3_code 24 = .ok (.aload_n 0, 1) := by decide +kernel
theorem d27_25 : decode jdk_54_method_3_code 25 = .ok (.getfield 29, 3) := by decide +kernel
theorem d27_28 : decode jdk_54_method_3_code 28 = .ok (.invokestatic 39, 3) := by decide +kernel
theorem ef_au28_0 (m : MethodId) (x0 : Addr) (x1 : Int32)  : entryFrame m #[(.ref x0), (.int x1)] 3 = mkF m 0 #[(vr x0), (vi x1), .unset] [] := by first | (simp [entryFrame, mkF, argsToLocals, Value.category]; done) | rfl
theorem d28_0 : decode jdk_21_method_11_code 0 = .ok (.aload_n 0, 1) := by decide +kernel
theorem d28_1 : decode jdk_21_method_11_code 1 = .ok (.iload_n 1, 1) := by decide +kernel
theorem d28_2 : decode jdk_21_method_11_code 2 = .ok (.aaload, 1) := by decide +kernel
theorem d28_3 : decode jdk_21_method_11_code 3 = .ok (.astore_n 2, 1) := by decide +kernel
theorem d28_4 : decode jdk_21_method_11_code 4 = .ok (.aload_n 2, 1) := by decide +kernel
theorem d28_5 : decode jdk_21_method_11_code 5 = .ok (.ifnonnull 11, 3) := by decide +kernel
theorem d28_16 : decode jdk_21_method_11_code 16 = .ok (.aload_n 2, 1) := by decide +kernel
theorem d28_17 : decode jdk_21_method_11_code 17 = .ok (.areturn, 1) := by decide +kernel
def Q_au28_0 (Z : State) (wMAX_LOCK_DELAY : Addr) (wGRANTED : Addr) (wQUEUED : Addr) (wBUSY : Addr) (wZERO : Addr) (a1 : Addr) (k2 : ClassId) (a3 : Addr) (h0 : Heap) (n0 : Nat) (v : Option Value) (h : Heap) (L : List Loc) : Prop := v = some (.ref a3) ∧ Fr n0 L ∧ h = h0
theorem au28_0 (l : Launch) (Z : State) (a0 : Array Value) (hw : ∀ d ∈ tables_1, d.before a0 Z = true) (ws : List Jvm.Cond) (wMAX_LOCK_DELAY : Addr) (wGRANTED : Addr) (wQUEUED : Addr) (wBUSY : Addr) (wZERO : Addr) (hS : SS Z wMAX_LOCK_DELAY wGRANTED wQUEUED wBUSY wZERO) (a1 : Addr) (k2 : ClassId) (a3 : Addr) (h0 : Heap) (n0 : Nat) (O0 : Old Z n0 h0) (P0 : Arv Z h0 a1 k2 (.object s9n) (17 : Int32) ([(.ref a3), .null, .null, .null, .null, .null, .null, .null, .null, .null, .null, .null, .null, .null, .null, .null, .null]) .null) :
    MetB l M32 jdk_21_method_11_code 3 (some (.object s9n)) ws (rmk 0 0 0 0) Z h0 #[(.ref a1), (.int 0)] (Q_au28_0 Z wMAX_LOCK_DELAY wGRANTED wQUEUED wBUSY wZERO a1 k2 a3 h0 n0) := by
  refine own_body (plainFor_of_name pn_java_util_ArrayDeque) ?_
  intro p e s m below meth c s₁ hx hby hml hown hnm hret0 hlk0 hZ X0 e0
  have N0 := Fr.nil n0
  have pre0 : ∀ t, Steps p.tables e below (s₁.setTop (mkF m 0 #[(vr a1), (vi 0), .unset] [])) t → Steps p.tables e below (s₁.setTop (entryFrame m #[(.ref a1), (.int 0)] 3)) t := fun t k => castTop (ef_au28_0 m a1 (0 : Int32)) k
  have hS0 := hS
  obtain ⟨S_wMAX_LOCK_DELAY, E_wMAX_LOCK_DELAY, S_wGRANTED, E_wGRANTED, S_wQUEUED, E_wQUEUED, S_wBUSY, E_wBUSY, F_seconds_wMAX_LOCK_DELAY, F_nanos_wMAX_LOCK_DELAY, S_wZERO, E_wZERO, F_seconds_wZERO, F_nanos_wZERO⟩ := hS0
  obtain ⟨cl1, Ar1, q1, Sz1, Nn1, Ha1, Gg1⟩ := (id P0)
  have hin1 : ¬ ((0 : Int32) < 0 ∨ cl1.slots.size ≤ ((0 : Int32)).toNatClampNeg) := inb_of Sz1 ⟨by decide, by decide⟩
  have hat1 : cl1.slots[((0 : Int32)).toNatClampNeg]? = some (.ref a3) := Ha1.at hin1 rfl
  obtain ⟨fs, hr, hrun, hended, hW, hsame⟩ := X0.leave (v := some (.ref a3)) (fun h => by rw [hret0] at h; cases h)
  refine ⟨_, _, pre0 _ ?_, hrun, hended, _, _, rfl, ?_, ⟨_, rfl⟩, hW, hsame.mono (by decide) (by decide)⟩
  · skip
    show Steps p.tables e below (s₁.setTop (mkF m 0 #[(vr a1), (vi 0), .unset] [])) _
    refine XS.aloadN X0.here hx rfl (hb hby d28_0) rfl rfl ?_
    refine XS.iloadN X0.here hx rfl (hb hby d28_1) rfl ?_
    refine X0.aaload hx (j := (0 : Int32)) (v := (.ref a3)) (by rw [e0]; exact Ar1.1) (State.isArrayOf_alike hZ.alike Ar1.2.1) rfl Ar1.2.2 hin1 hat1 (g := (mkF m 2 #[(vr a1), (vi 0), .unset] [(.int 0), (.ref a1)])) rfl rfl (hb hby d28_2) _ ?_
    refine XS.astoreN X0.here hx rfl (hb hby d28_3) rfl rfl (l' := #[(vr a1), (vi 0), (vr a3)]) rfl ?_
    refine XS.aloadN X0.here hx rfl (hb hby d28_4) rfl rfl ?_
    show Steps p.tables e below (s₁.setTop (mkF m 5 #[(vr a1), (vi 0), (vr a3)] [(.ref a3)])) _
    refine XS.ifnonnullYes X0.here hx rfl (pc0 := 5) (pc' := 16) rfl (hb hby d28_5) rfl (by decide) (by decide) ?_
    refine XS.aloadN X0.here hx rfl (hb hby d28_16) rfl rfl ?_
    jvm_step X0.here [X0.here.top, hx, (hb hby d28_17), X0.method', hret0, Value.isRef, FieldType.isReference]
    first | (intro acts; rw [hr _ acts rfl rfl rfl]) | rw [hr _ _ rfl rfl rfl]
    exact Steps.refl _
  · show Q_au28_0 Z wMAX_LOCK_DELAY wGRANTED wQUEUED wBUSY wZERO a1 k2 a3 h0 n0 _ s₁.heap _
    rw [e0]
    exact ⟨rfl, N0, rfl⟩
theorem d27_31 : decode jdk_54_method_3_code 31 = .ok (.astore_n 2, 1) := by decide +kernel
theorem d27_32 : decode jdk_54_method_3_code 32 = .ok (.aload_n 0, 1) := by decide +kernel
theorem d27_33 : decode jdk_54_method_3_code 33 = .ok (.aload_n 0, 1) := by decide +kernel
theorem d27_34 : decode jdk_54_method_3_code 34 = .ok (.aload_n 0, 1) := by decide +kernel
theorem d27_35 : decode jdk_54_method_3_code 35 = .ok (.getfield 29, 3) := by decide +kernel
theorem d27_38 : decode jdk_54_method_3_code 38 = .ok (.dup_x1, 1) := by decide +kernel
theorem d27_39 : decode jdk_54_method_3_code 39 = .ok (.putfield 23, 3) := by decide +kernel
theorem d27_42 : decode jdk_54_method_3_code 42 = .ok (.aload_n 1, 1) := by decide +kernel
theorem d27_43 : decode jdk_54_method_3_code 43 = .ok (.arraylength, 1) := by decide +kernel
theorem d27_44 : decode jdk_54_method_3_code 44 = .ok (.invokestatic 43, 3) := by decide +kernel
theorem d27_47 : decode jdk_54_method_3_code 47 = .ok (.putfield 29, 3) := by decide +kernel
theorem d27_50 : decode jdk_54_method_3_code 50 = .ok (.aload_n 0, 1) := by decide +kernel
theorem d27_51 : decode jdk_54_method_3_code 51 = .ok (.dup, 1) := by decide +kernel
theorem d27_52 : decode jdk_54_method_3_code 52 = .ok (.getfield 19, 3) := by decide +kernel
theorem d27_55 : decode jdk_54_method_3_code 55 = .ok (.iconst 1, 1) := by decide +kernel
theorem d27_56 : decode jdk_54_method_3_code 56 = .ok (.isub, 1) := by decide +kernel
theorem d27_57 : decode jdk_54_method_3_code 57 = .ok (.putfield 19, 3) := by decide +kernel
theorem d27_60 : decode jdk_54_method_3_code 60 = .ok (.aload_n 2, 1) := by decide +kernel
theorem d27_61 : decode jdk_54_method_3_code 61 = .ok (.areturn, 1) := by decide +kernel
def Q_au27_0 (Z : State) (wMAX_LOCK_DELAY : Addr) (wGRANTED : Addr) (wQUEUED : Addr) (wBUSY : Addr) (wZERO : Addr) (a1 : Addr) (a2 : Addr) (a3 : Addr) (k4 : ClassId) (a5 : Addr) (h0 : Heap) (n0 : Nat) (v : Option Value) (h : Heap) (L : List Loc) : Prop := v = some (.ref a5) ∧ Fr n0 L ∧ Keep h0 h [a1] ∧ Exa Z h a1 s13n ∧ Fld Z h a1 s13n "cursor" "I" (.int 1) ∧ Fld Z h a1 s13n "lastRet" "I" (.int 0) ∧ Fld Z h a1 s13n "remaining" "I" (.int 0) ∧ Fld Z h a1 s13n "this$0" s14n (.ref a2)
theorem au27_0 (l : Launch) (Z : State) (a0 : Array Value) (hw : ∀ d ∈ tables_1, d.before a0 Z = true) (ws : List Jvm.Cond) (wMAX_LOCK_DELAY : Addr) (wGRANTED : Addr) (wQUEUED : Addr) (wBUSY : Addr) (wZERO : Addr) (hS : SS Z wMAX_LOCK_DELAY wGRANTED wQUEUED wBUSY wZERO) (a1 : Addr) (a2 : Addr) (a3 : Addr) (k4 : ClassId) (a5 : Addr) (h0 : Heap) (n0 : Nat) (O0 : Old Z n0 h0) (P0 : Exa Z h0 a1 s13n) (P1 : Fld Z h0 a1 s13n "cursor" "I" (.int 0)) (P2 : Fld Z h0 a1 s13n "lastRet" "I" (.int (-1 : Int32))) (P3 : Fld Z h0 a1 s13n "remaining" "I" (.int 1)) (P4 : Fld Z h0 a1 s13n "this$0" s14n (.ref a2)) (P6 : Fld Z h0 a2 s7n "elements" s8n (.ref a3)) (P9 : Arv Z h0 a3 k4 (.object s9n) (17 : Int32) ([(.ref a5), .null, .null, .null, .null, .null, .null, .null, .null, .null, .null, .null, .null, .null, .null, .null, .null]) .null) (P18 : n0 ≤ a1) (P24 : a1 ≠ a3) :
    MetB l M33 jdk_54_method_3_code 3 (some (.object s9n)) ws (rmk 1 0 0 14) Z h0 #[(.ref a1)] (Q_au27_0 Z wMAX_LOCK_DELAY wGRANTED wQUEUED wBUSY wZERO a1 a2 a3 k4 a5 h0 n0) := by
  refine own_body (plainFor_of_name pn_java_util_ArrayDeque_DeqIterator) ?_
  intro p e s m below meth c s₁ hx hby hml hown hnm hret0 hlk0 hZ X0 e0
  have N0 := Fr.nil n0
  have pre0 : ∀ t, Steps p.tables e below (s₁.setTop (mkF m 0 #[(vr a1), .unset, .unset] [])) t → Steps p.tables e below (s₁.setTop (entryFrame m #[(.ref a1)] 3)) t := fun t k => castTop (ef_au27_0 m a1) k
  have K0 := Keep.refl h0 [a1]
  have hS0 := hS
  obtain ⟨S_wMAX_LOCK_DELAY, E_wMAX_LOCK_DELAY, S_wGRANTED, E_wGRANTED, S_wQUEUED, E_wQUEUED, S_wBUSY, E_wBUSY, F_seconds_wMAX_LOCK_DELAY, F_nanos_wMAX_LOCK_DELAY, S_wZERO, E_wZERO, F_seconds_wZERO, F_nanos_wZERO⟩ := hS0
  obtain ⟨T1, X1, e1, st1⟩ := getF X0 hx hZ hown (host := "") (Or.inl (ow hw 141 rfl)) Via.refl e0 P3 (g := (mkF m 1 #[(vr a1), .unset, .unset] [(.ref a1)])) rfl rfl (hb hby d27_1)
  obtain ⟨T2, X2, e2, st2⟩ := getF X1 hx hZ hown (host := "") (Or.inl (ow hw 128 rfl)) Via.refl e1 P4 (g := (mkF m 16 #[(vr a1), .unset, .unset] [(.ref a1)])) rfl rfl (hb hby d27_16)
  obtain ⟨T3, X3, e3, st3⟩ := getF X2 hx hZ hown (host := "") (Or.inl (ow hw 204 rfl)) Via.refl e2 P6 (g := (mkF m 19 #[(vr a1), .unset, .unset] [(.ref a2)])) rfl rfl (hb hby d27_19)
  obtain ⟨T4, X4, e4, st4⟩ := getF X3 hx hZ hown (host := "") (Or.inl (ow hw 146 rfl)) Via.refl e3 P1 (g := (mkF m 25 #[(vr a1), (vr a3), .unset] [(.ref a1), (.ref a3)])) rfl rfl (hb hby d27_25)
  obtain ⟨_, _, ⟨T5, L5, k5, n5⟩, -, X5, ⟨Lc5, hQ5, l5, y5, z5⟩, st5⟩ := Jvm.LawKit.callS X4 hx (y := M32) hown (mvT hZ (ow hw 205 rfl)) (mvT hZ (ow hw 206 rfl)) (mvT hZ (ow hw 11 rfl)) (mvT hZ (ow hw 207 rfl)) (by decide) (backOf (W := 0) (au28_0 l Z a0 hw [] wMAX_LOCK_DELAY wGRANTED wQUEUED wBUSY wZERO hS a3 k4 a5 h0 n0 O0 P9) hZ (ow hw 207 rfl) (ow hw 11 rfl) (by decide) (by decide)) (g := (mkF m 28 #[(vr a1), (vr a3), .unset] [(.int 0), (.ref a3)])) rfl (by rw [hml]; rfl) (argsL := [(.ref a3), (.int 0)]) (rest := []) (lenOf pd_7 rfl) rfl (by show 2 * 0 + _ ≤ _; exact Nat.le_of_eq rfl) (hb hby d27_28) (fun _ _ => ⟨rfl, e4, (by decide : 0 + 0 ≤ _), (by decide : 0 + 0 ≤ _)⟩)
  dsimp only [Pt.U, Pt.locs, Pt.cells, Pt.slots] at X5 l5 y5 z5 st5 hQ5
  subst l5 y5 z5
  obtain ⟨rfl, Nq5, K5q⟩ := hQ5
  have N5 := Fr.app N0 Nq5
  obtain ⟨T6, X6, e6, st6⟩ := getF X5 hx hZ hown (host := "") (Or.inl (ow hw 146 rfl)) Via.refl K5q P1 (g := (mkF m 35 #[(vr a1), (vr a3), (vr a5)] [(.ref a1), (.ref a1), (.ref a1)])) rfl rfl (hb hby d27_35)
  obtain ⟨T7, h7, X7, e7, W7, st7⟩ := putF X6 hx hZ hown (host := "") (Or.inl (ow hw 143 rfl)) Via.refl e6 P2 P0 (Or.inl (ow hw 144 rfl)) (ow hw 122 rfl) (ty := .int) (by decide) rfl rfl (g := (mkF m 39 #[(vr a1), (vr a3), (vr a5)] [(.int 0), (.ref a1), (.int 0), (.ref a1)])) rfl rfl (hb hby d27_39)
  have N7 := Fr.snoc X7 N5 P18
  have O8 : Old Z n0 h7 := O0.wr W7 P18
  have K8 : Keep h0 h7 [a1] := K0.wr W7 (Or.inl (List.mem_of_getElem? (i := 0) rfl))
  have Fw7 : Fld Z h7 a1 s13n "lastRet" "I" (.int 0) := P2.same W7
  have f9 : Arv Z h7 a3 k4 (.object s9n) (17 : Int32) ([(.ref a5), .null, .null, .null, .null, .null, .null, .null, .null, .null, .null, .null, .null, .null, .null, .null, .null]) .null := (P9.other W7 (Ne.symm P24))
  obtain ⟨cl10, Ar10, -, Sz10, Nn10, -, -⟩ := (id f9)
  obtain ⟨_, _, ⟨T11, L11, k11, n11⟩, -, X11, ⟨Lc11, hQ11, l11, y11, z11⟩, st11⟩ := Jvm.LawKit.callS X7 hx (y := M24) hown (mvT hZ (ow hw 208 rfl)) (mvT hZ (ow hw 183 rfl)) (mvT hZ (ow hw 11 rfl)) (mvT hZ (ow hw 184 rfl)) (by decide) (backOf (W := 1) (au25_0 l Z a0 hw [] wMAX_LOCK_DELAY wGRANTED wQUEUED wBUSY wZERO hS  h7 n0 O8 ) hZ (ow hw 184 rfl) (ow hw 11 rfl) (by decide) (by decide)) (g := (mkF m 44 #[(vr a1), (vr a3), (vr a5)] [(.int 17), (.int 0), (.ref a1)])) rfl (by rw [hml]; rfl) (argsL := [(.int 0), (.int 17)]) (rest := [(.ref a1)]) (lenOf pd_16 rfl) rfl (by show 2 * 0 + _ ≤ _; exact Nat.le_of_eq rfl) (hb hby d27_44) (fun _ _ => ⟨rfl, e7, (by decide : 0 + 0 ≤ _), (by decide : 0 + 0 ≤ _)⟩)
  dsimp only [Pt.U, Pt.locs, Pt.cells, Pt.slots] at X11 l11 y11 z11 st11 hQ11
  subst l11 y11 z11
  obtain ⟨rfl, Nq11, K11q⟩ := hQ11
  have N11 := Fr.app N7 Nq11
  have f12 : Exa Z h7 a1 s13n := (P0.wr W7)
  have f13 : Fld Z h7 a1 s13n "cursor" "I" (.int 0) := (P1.other W7 (Or.inr (slot_ne (Or.inl (ow hw 147 rfl)) (Or.inl (ow hw 144 rfl)) (by decide) (t := .int) (t' := .int) (by decide) (by decide))))
  obtain ⟨T14, h14, X14, e14, W14, st14⟩ := putF X11 hx hZ hown (host := "") (Or.inl (ow hw 146 rfl)) Via.refl K11q f13 f12 (Or.inl (ow hw 147 rfl)) (ow hw 122 rfl) (ty := .int) (by decide) rfl rfl (g := (mkF m 47 #[(vr a1), (vr a3), (vr a5)] [(.int 1), (.ref a1)])) rfl rfl (hb hby d27_47)
  have N14 := Fr.snoc X14 N11 P18
  have O15 : Old Z n0 h14 := O8.wr W14 P18
  have K15 : Keep h0 h14 [a1] := K8.wr W14 (Or.inl (List.mem_of_getElem? (i := 0) rfl))
  have Fw14 : Fld Z h14 a1 s13n "cursor" "I" (.int 1) := f13.same W14
  have f16 : Fld Z h14 a1 s13n "remaining" "I" (.int 1) := ((P3.other W7 (Or.inr (slot_ne (Or.inl (ow hw 142 rfl)) (Or.inl (ow hw 144 rfl)) (by decide) (t := .int) (t' := .int) (by decide) (by decide)))).other W14 (Or.inr (slot_ne (Or.inl (ow hw 142 rfl)) (Or.inl (ow hw 147 rfl)) (by decide) (t := .int) (t' := .int) (by decide) (by decide))))
  obtain ⟨T17, X17, e17, st17⟩ := getF X14 hx hZ hown (host := "") (Or.inl (ow hw 141 rfl)) Via.refl e14 f16 (g := (mkF m 52 #[(vr a1), (vr a3), (vr a5)] [(.ref a1), (.ref a1)])) rfl rfl (hb hby d27_52)
  have f18 : Exa Z h14 a1 s13n := (f12.wr W14)
  obtain ⟨T19, h19, X19, e19, W19, st19⟩ := putF X17 hx hZ hown (host := "") (Or.inl (ow hw 141 rfl)) Via.refl e17 f16 f18 (Or.inl (ow hw 142 rfl)) (ow hw 122 rfl) (ty := .int) (by decide) rfl rfl (g := (mkF m 57 #[(vr a1), (vr a3), (vr a5)] [(.int 0), (.ref a1)])) rfl rfl (hb hby d27_57)
  have N19 := Fr.snoc X19 N14 P18
  have O20 : Old Z n0 h19 := O15.wr W19 P18
  have K20 : Keep h0 h19 [a1] := K15.wr W19 (Or.inl (List.mem_of_getElem? (i := 0) rfl))
  have Fw19 : Fld Z h19 a1 s13n "remaining" "I" (.int 0) := f16.same W19
  have f21 : Exa Z h19 a1 s13n := (f18.wr W19)
  have f22 : Fld Z h19 a1 s13n "cursor" "I" (.int 1) := (Fw14.other W19 (Or.inr (slot_ne (Or.inl (ow hw 147 rfl)) (Or.inl (ow hw 142 rfl)) (by decide) (t := .int) (t' := .int) (by decide) (by decide))))
  have f23 : Fld Z h19 a1 s13n "lastRet" "I" (.int 0) := ((Fw7.other W14 (Or.inr (slot_ne (Or.inl (ow hw 144 rfl)) (Or.inl (ow hw 147 rfl)) (by decide) (t := .int) (t' := .int) (by decide) (by decide)))).other W19 (Or.inr (slot_ne (Or.inl (ow hw 144 rfl)) (Or.inl (ow hw 142 rfl)) (by decide) (t := .int) (t' := .int) (by decide) (by decide))))
  have f24 : Fld Z h19 a1 s13n "this$0" s14n (.ref a2) := (((P4.other W7 (Or.inr (slot_ne (Or.inr (ow hw 129 rfl)) (Or.inl (ow hw 144 rfl)) (by decide) (t := (.object s7n)) (t' := .int) (by decide) (by decide)))).other W14 (Or.inr (slot_ne (Or.inr (ow hw 129 rfl)) (Or.inl (ow hw 147 rfl)) (by decide) (t := (.object s7n)) (t' := .int) (by decide) (by decide)))).other W19 (Or.inr (slot_ne (Or.inr (ow hw 129 rfl)) (Or.inl (ow hw 142 rfl)) (by decide) (t := (.object s7n)) (t' := .int) (by decide) (by decide))))
  obtain ⟨fs, hr, hrun, hended, hW, hsame⟩ := X19.leave (v := some (.ref a5)) (fun h => by rw [hret0] at h; cases h)
  refine ⟨_, _, pre0 _ ?_, hrun, hended, _, _, rfl, ?_, ⟨_, rfl⟩, hW, hsame.mono (by decide) (by decide)⟩
  · skip
    show Steps p.tables e below (s₁.setTop (mkF m 0 #[(vr a1), .unset, .unset] [])) _
    refine XS.aloadN X0.here hx rfl (hb hby d27_0) rfl rfl ?_
    refine st1 _ ?_
    refine XS.ifYes X1.here hx rfl (pc0 := 4) (pc' := 15) rfl (hb hby d27_4) rfl ((if0 _ _).trans (tlt (by decide : (0 : Int32) < (1 : Int32))).2.2.1) (by decide) (by decide) ?_
    refine XS.aloadN X1.here hx rfl (hb hby d27_15) rfl rfl ?_
    refine st2 _ ?_
    show Steps p.tables e below (T2.setTop (mkF m 19 #[(vr a1), .unset, .unset] [(.ref a2)])) _
    refine st3 _ ?_
    refine XS.astoreN X3.here hx rfl (hb hby d27_22) rfl rfl (l' := #[(vr a1), (vr a3), .unset]) rfl ?_
    refine XS.aloadN X3.here hx rfl (hb hby d27_23) rfl rfl ?_
    refine XS.aloadN X3.here hx rfl (hb hby d27_24) rfl rfl ?_
    refine st4 _ ?_
    show Steps p.tables e below (T4.setTop (mkF m 28 #[(vr a1), (vr a3), .unset] [(.int 0), (.ref a3)])) _
    refine st5 _ ?_
    refine XS.astoreN X5.here hx rfl (hb hby d27_31) rfl rfl (l' := #[(vr a1), (vr a3), (vr a5)]) rfl ?_
    refine XS.aloadN X5.here hx rfl (hb hby d27_32) rfl rfl ?_
    refine XS.aloadN X5.here hx rfl (hb hby d27_33) rfl rfl ?_
    refine XS.aloadN X5.here hx rfl (hb hby d27_34) rfl rfl ?_
    show Steps p.tables e below (T5.setTop (mkF m 35 #[(vr a1), (vr a3), (vr a5)] [(.ref a1), (.ref a1), (.ref a1)])) _
    refine st6 _ ?_
    refine XS.dupX1 X6.here hx rfl (hb hby d27_38) rfl rfl rfl ?_
    refine st7 _ ?_
    refine XS.aloadN X7.here hx rfl (hb hby d27_42) rfl rfl ?_
    refine X7.arraylength hx (by rw [e7]; exact Ar10.1) (State.isArrayOf_alike hZ.alike Ar10.2.1) (g := (mkF m 43 #[(vr a1), (vr a3), (vr a5)] [(.ref a3), (.int 0), (.ref a1)])) rfl rfl (hb hby d27_43) _ ?_
    rw [len_of Sz10 Nn10]
    show Steps p.tables e below (T7.setTop (mkF m 44 #[(vr a1), (vr a3), (vr a5)] [(.int 17), (.int 0), (.ref a1)])) _
    refine st11 _ ?_
    refine st14 _ ?_
    refine XS.aloadN X14.here hx rfl (hb hby d27_50) rfl rfl ?_
    refine XS.dup X14.here hx rfl (hb hby d27_51) rfl rfl ?_
    refine st17 _ ?_
    show Steps p.tables e below (T17.setTop (mkF m 55 #[(vr a1), (vr a3), (vr a5)] [(.int 1), (.ref a1)])) _
    refine XS.iconst X17.here hx rfl (hb hby d27_55) ?_
    refine XS.isub X17.here hx rfl (hb hby d27_56) rfl ?_
    refine st19 _ ?_
    refine XS.aloadN X19.here hx rfl (hb hby d27_60) rfl rfl ?_
    jvm_step X19.here [X19.here.top, hx, (hb hby d27_61), X19.method', hret0, Value.isRef, FieldType.isReference]
    first | (intro acts; rw [hr _ acts rfl rfl rfl]) | rw [hr _ _ rfl rfl rfl]
    exact Steps.refl _
  · show Q_au27_0 Z wMAX_LOCK_DELAY wGRANTED wQUEUED wBUSY wZERO a1 a2 a3 k4 a5 h0 n0 _ T19.heap _
    rw [e19]
    exact ⟨rfl, N19, K20, f21, f22, f23, Fw19, f24⟩
theorem d26_28 : decode prog_84_method_14_code 28 = .ok (.checkcast 57, 3) := by decide +kernel
theorem d26_31 : decode prog_84_method_14_code 31 = .ok (.getfield 95, 3) := by decide +kernel
theorem d26_34 : decode prog_84_method_14_code 34 = .ok (.invokevirtual 101, 3) := by decide +kernel
theorem d26_37 : decode prog_84_method_14_code 37 = .ok (.lload_n 1, 1) := by decide +kernel
theorem d26_38 : decode prog_84_method_14_code 38 = .ok (.lcmp, 1) := by decide +kernel
theorem d26_39 : decode prog_84_method_14_code 39 = .ok (.ifCond .ne (-28), 3) := by decide +kernel
theorem ef_au30_2 (m : MethodId) (x0 : Addr) (x1 : Int64)  : entryFrame m #[(.ref x0), (.long x1)] 3 = mkF m 0 #[(vr x0), (vl x1), .second] [] := by first | (simp [entryFrame, mkF, argsToLocals, Value.category]; done) | rfl
def Q_au30_2 (Z : State) (wMAX_LOCK_DELAY : Addr) (wGRANTED : Addr) (wQUEUED : Addr) (wBUSY : Addr) (wZERO : Addr) (a1 : Addr) (q2 : Int64) (a4 : Addr) (h0 : Heap) (n0 : Nat) (v : Option Value) (h : Heap) (L : List Loc) : Prop := v = some (.int 1) ∧ Fr n0 L ∧ h = h0
theorem au30_2 (l : Launch) (Z : State) (a0 : Array Value) (hw : ∀ d ∈ tables_1, d.before a0 Z = true) (ws : List Jvm.Cond) (wMAX_LOCK_DELAY : Addr) (wGRANTED : Addr) (wQUEUED : Addr) (wBUSY : Addr) (wZERO : Addr) (hS : SS Z wMAX_LOCK_DELAY wGRANTED wQUEUED wBUSY wZERO) (a1 : Addr) (q2 : Int64) (a4 : Addr) (h0 : Heap) (n0 : Nat) (O0 : Old Z n0 h0) (P3 : Fld Z h0 a1 s4n "holder" s5n (.ref a4)) (P6 : Exa Z h0 a4 s3n) (P8 : Fld Z h0 a4 s3n "session" "J" (.long q2)) :
    MetB l M29 prog_84_method_7_code 3 (some .boolean) ws (rmk 1 0 0 12) Z h0 #[(.ref a1), (.long q2)] (Q_au30_2 Z wMAX_LOCK_DELAY wGRANTED wQUEUED wBUSY wZERO a1 q2 a4 h0 n0) := by
  refine own_body (plainFor_of_name pn_com_example_umpired_umpired_server_NodeLock) ?_
  intro p e s m below meth c s₁ hx hby hml hown hnm hret0 hlk0 hZ X0 e0
  have N0 := Fr.nil n0
  have pre0 : ∀ t, Steps p.tables e below (s₁.setTop (mkF m 0 #[(vr a1), (vl q2), .second] [])) t → Steps p.tables e below (s₁.setTop (entryFrame m #[(.ref a1), (.long q2)] 3)) t := fun t k => castTop (ef_au30_2 m a1 q2) k
  have hS0 := hS
  obtain ⟨S_wMAX_LOCK_DELAY, E_wMAX_LOCK_DELAY, S_wGRANTED, E_wGRANTED, S_wQUEUED, E_wQUEUED, S_wBUSY, E_wBUSY, F_seconds_wMAX_LOCK_DELAY, F_nanos_wMAX_LOCK_DELAY, S_wZERO, E_wZERO, F_seconds_wZERO, F_nanos_wZERO⟩ := hS0
  obtain ⟨T1, X1, e1, st1⟩ := getF X0 hx hZ hown (host := "") (Or.inl (ow hw 51 rfl)) Via.refl e0 P3 (g := (mkF m 1 #[(vr a1), (vl q2), .second] [(.ref a1)])) rfl rfl (hb hby d30_1)
  obtain ⟨T2, X2, e2, st2⟩ := getF X1 hx hZ hown (host := "") (Or.inl (ow hw 51 rfl)) Via.refl e1 P3 (g := (mkF m 8 #[(vr a1), (vl q2), .second] [(.ref a1)])) rfl rfl (hb hby d30_8)
  obtain ⟨cq3, kq3, q3a, q3b, q3c⟩ := isOf hZ e2 P6
  obtain ⟨_, _, ⟨T3, L3, k3, n3⟩, -, X3, ⟨Lc3, hQ3, l3, y3, z3⟩, st3⟩ := X2.virtualBack hx (y := M28) (z := M28) hown (mvT hZ (ow hw 209 rfl)) (mvT hZ (ow hw 210 rfl)) (notFace_of_selects (args := #[]) (mvT hZ (ow hw 212 rfl))) (mvT hZ (ow hw 212 rfl)) (mvT hZ (ow hw 211 rfl)) (by decide) (backOf (W := 0) (au29_0 l Z a0 hw [] wMAX_LOCK_DELAY wGRANTED wQUEUED wBUSY wZERO hS a4 q2 h0 n0 O0 P8) hZ (ow hw 213 rfl) (ow hw 37 rfl) (by decide) (by decide)) q3a q3c (g := (mkF m 11 #[(vr a1), (vl q2), .second] [(.ref a4)])) rfl (by rw [hml]; rfl) (Steps.refl _) (argsL := []) (rest := []) (lenOf pd_18 rfl) rfl (by show 2 * 0 + _ ≤ _; exact Nat.le_of_eq rfl) (hb hby d30_11) (fun _ _ => ⟨rfl, e2, (by decide : 0 + 0 ≤ _), (by decide : 0 + 0 ≤ _)⟩)
  dsimp only [Pt.U, Pt.locs, Pt.cells, Pt.slots] at X3 l3 y3 z3 st3 hQ3
  subst l3 y3 z3
  obtain ⟨rfl, Nq3, K3q⟩ := hQ3
  have N3 := Fr.app N0 Nq3
  obtain ⟨fs, hr, hrun, hended, hW, hsame⟩ := X3.leave (v := some (.int 1)) (fun h => by rw [hret0] at h; cases h)
  refine ⟨_, _, pre0 _ ?_, hrun, hended, _, _, rfl, ?_, ⟨_, rfl⟩, hW, hsame.mono (by decide) (by decide)⟩
  · skip
    show Steps p.tables e below (s₁.setTop (mkF m 0 #[(vr a1), (vl q2), .second] [])) _
    refine XS.aloadN X0.here hx rfl (hb hby d30_0) rfl rfl ?_
    refine st1 _ ?_
    refine XS.ifnullNo X1.here hx rfl (hb hby d30_4) rfl ?_
    refine XS.aloadN X1.here hx rfl (hb hby d30_7) rfl rfl ?_
    refine st2 _ ?_
    show Steps p.tables e below (T2.setTop (mkF m 11 #[(vr a1), (vl q2), .second] [(.ref a4)])) _
    refine st3.trans ?_
    refine XS.lloadN X3.here hx rfl (hb hby d30_14) rfl ?_
    refine XS.lcmp X3.here hx rfl (hb hby d30_15) rfl ?_
    refine XS.ifNo X3.here hx rfl (hb hby d30_16) rfl ((if0 _ _).trans (teq (own_lc _ : (lcmpW q2 q2) = (0 : Int32))).2) ?_
    refine XS.iconst X3.here hx rfl (hb hby d30_19) ?_
    show Steps p.tables e below (T3.setTop (mkF m 20 #[(vr a1), (vl q2), .second] [(.int 1)])) _
    refine XS.goto X3.here hx rfl (pc0 := 20) (pc' := 24) rfl (hb hby d30_20) (by decide) (by decide) ?_
    exact retN X3 hx (t := .boolean) hret0 (by simp) (hb hby d30_24) hr
  · show Q_au30_2 Z wMAX_LOCK_DELAY wGRANTED wQUEUED wBUSY wZERO a1 q2 a4 h0 n0 _ T3.heap _
    rw [K3q]
    exact ⟨rfl, N3, rfl⟩
def Q_au26_4 (Z : State) (wMAX_LOCK_DELAY : Addr) (wGRANTED : Addr) (wQUEUED : Addr) (wBUSY : Addr) (wZERO : Addr) (a1 : Addr) (q2 : Int64) (qg3 : Int64) (a4 : Addr) (a5 : Addr) (a7 : Addr) (k8 : ClassId) (a9 : Addr) (a11 : Addr) (q13 : Int64) (h0 : Heap) (n0 : Nat) (v : Option Value) (h : Heap) (L : List Loc) : Prop := v = some .null ∧ Fr n0 L ∧ Keep h0 h [a1] ∧ Exa Z h a1 s4n ∧ Fld Z h a1 s4n "generation" "J" (.long qg3) ∧ Fld Z h a1 s4n "heldBack" "Z" (.int 1) ∧ Fld Z h a1 s4n "holder" s5n .null ∧ Fld Z h a1 s4n s10n s0n (.ref wMAX_LOCK_DELAY) ∧ Fld Z h a1 s4n "waiters" s11n (.ref a5)
theorem au26_4 (l : Launch) (Z : State) (a0 : Array Value) (hw : ∀ d ∈ tables_1, d.before a0 Z = true) (ws : List Jvm.Cond) (wMAX_LOCK_DELAY : Addr) (wGRANTED : Addr) (wQUEUED : Addr) (wBUSY : Addr) (wZERO : Addr) (hS : SS Z wMAX_LOCK_DELAY wGRANTED wQUEUED wBUSY wZERO) (a1 : Addr) (q2 : Int64) (qg3 : Int64) (a4 : Addr) (a5 : Addr) (a7 : Addr) (k8 : ClassId) (a9 : Addr) (a11 : Addr) (q13 : Int64) (h0 : Heap) (n0 : Nat) (O0 : Old Z n0 h0) (P0 : Exa Z h0 a1 s4n) (P1 : Fld Z h0 a1 s4n "generation" "J" (.long qg3)) (P2 : Fld Z h0 a1 s4n "heldBack" "Z" (.int 0)) (P3 : Fld Z h0 a1 s4n "holder" s5n (.ref a4)) (P4 : Fld Z h0 a1 s4n s10n s0n (.ref wMAX_LOCK_DELAY)) (P5 : Fld Z h0 a1 s4n "waiters" s11n (.ref a5)) (P6 : Exa Z h0 a4 s3n) (P8 : Fld Z h0 a4 s3n "session" "J" (.long q2)) (P9 : Exa Z h0 a5 s7n) (P10 : Fld Z h0 a5 s7n "elements" s8n (.ref a7)) (P11 : Fld Z h0 a5 s7n "head" "I" (.int 0)) (P12 : Fld Z h0 a5 s7n "tail" "I" (.int 1)) (P13 : Arv Z h0 a7 k8 (.object s9n) (17 : Int32) ([(.ref a9), .null, .null, .null, .null, .null, .null, .null, .null, .null, .null, .null, .null, .null, .null, .null, .null]) .null) (P16 : Exa Z h0 a9 s16n) (P18 : Fld Z h0 a9 s16n "owner" s5n (.ref a11)) (P19 : Exa Z h0 a11 s3n) (P21 : Fld Z h0 a11 s3n "session" "J" (.long q13)) (P22 : q2 ≠ q13) (P24 : n0 ≤ a1) :
    MetB l M30 prog_84_method_14_code 6 (some (.object s3n)) ws (rmk 4 1 4 53) Z h0 #[(.ref a1), (.long q2), (.int 1)] (Q_au26_4 Z wMAX_LOCK_DELAY wGRANTED wQUEUED wBUSY wZERO a1 q2 qg3 a4 a5 a7 k8 a9 a11 q13 h0 n0) := by
  refine own_body (plainFor_of_name pn_com_example_umpired_umpired_server_NodeLock) ?_
  intro p e s m below meth c s₁ hx hby hml hown hnm hret0 hlk0 hZ X0 e0
  have N0 := Fr.nil n0
  have pre0 : ∀ t, Steps p.tables e below (s₁.setTop (mkF m 0 #[(vr a1), (vl q2), .second, (vi 1), .unset, .unset] [])) t → Steps p.tables e below (s₁.setTop (entryFrame m #[(.ref a1), (.long q2), (.int 1)] 6)) t := fun t k => castTop (ef_au26_4 m a1 q2 (1 : Int32)) k
  have K0 := Keep.refl h0 [a1]
  have hS0 := hS
  obtain ⟨S_wMAX_LOCK_DELAY, E_wMAX_LOCK_DELAY, S_wGRANTED, E_wGRANTED, S_wQUEUED, E_wQUEUED, S_wBUSY, E_wBUSY, F_seconds_wMAX_LOCK_DELAY, F_nanos_wMAX_LOCK_DELAY, S_wZERO, E_wZERO, F_seconds_wZERO, F_nanos_wZERO⟩ := hS0
  obtain ⟨T1, X1, e1, st1⟩ := getF X0 hx hZ hown (host := "") (Or.inl (ow hw 26 rfl)) Via.refl e0 P5 (g := (mkF m 1 #[(vr a1), (vl q2), .second, (vi 1), .unset, .unset] [(.ref a1)])) rfl rfl (hb hby d26_1)
  obtain ⟨cq2, kq2, q2a, q2b, q2c⟩ := isOf hZ e1 P9
  obtain ⟨_, _, ⟨T2, L2, k2, n2⟩, -, X2, ⟨Lc2, hQ2, l2, y2, z2⟩, st2⟩ := X1.interfaceBack hx (xi := M21) (y := M18) hown (mvT hZ (ow hw 113 rfl)) (mvT hZ (ow hw 114 rfl)) (mvT hZ (ow hw 115 rfl)) (mvT hZ (ow hw 116 rfl)) (mvT hZ (ow hw 117 rfl)) (mvT hZ (ow hw 118 rfl)) (mvT hZ (ow hw 119 rfl)) (mvT hZ (ow hw 95 rfl)) (by decide) (backOf (W := 0) (au17_1 l Z a0 hw [] wMAX_LOCK_DELAY wGRANTED wQUEUED wBUSY wZERO hS a5 a7 k8 a9 a11 h0 n0 O0 P9 P10 P11 P12 P13 P16 P19) hZ (ow hw 120 rfl) (ow hw 11 rfl) (by decide) (by decide)) q2a q2b q2c (g := (mkF m 4 #[(vr a1), (vl q2), .second, (vi 1), .unset, .unset] [(.ref a5)])) rfl (by rw [hml]; rfl) (Steps.refl _) (argsL := []) (rest := []) (lenOf pd_13 rfl) rfl (by show 2 * 0 + _ ≤ _; exact Nat.le_of_eq rfl) (hb hby d26_4) (fun _ _ => ⟨rfl, e1, (by decide : 0 + 1 ≤ _), (by decide : 0 + 4 ≤ _)⟩)
  dsimp only [Pt.U, Pt.locs, Pt.cells, Pt.slots] at X2 l2 y2 z2 st2 hQ2
  subst l2 y2 z2
  obtain ⟨e1_2, rfl, Nq2, K2q, p2_0, p2_1, p2_2, p2_3, p2_4, p2_5⟩ := hQ2
  have N2 := Fr.app N0 Nq2
  have ne3 : a1 ≠ e1_2 := Nat.ne_of_lt (Nat.lt_of_lt_of_le P0.lt p2_0)
  have ne4 : a4 ≠ e1_2 := Nat.ne_of_lt (Nat.lt_of_lt_of_le P6.lt p2_0)
  have ne5 : a5 ≠ e1_2 := Nat.ne_of_lt (Nat.lt_of_lt_of_le P9.lt p2_0)
  have ne6 : a7 ≠ e1_2 := Nat.ne_of_lt (Nat.lt_of_lt_of_le P13.lt p2_0)
  have ne7 : a9 ≠ e1_2 := Nat.ne_of_lt (Nat.lt_of_lt_of_le P16.lt p2_0)
  have ne8 : a11 ≠ e1_2 := Nat.ne_of_lt (Nat.lt_of_lt_of_le P19.lt p2_0)
  have g9 : n0 ≤ e1_2 := Nat.le_trans (own_sz O0) p2_0
  have sz10 : h0.size ≤ e1_2 := Nat.le_trans K0.1 p2_0
  have O11 : Old Z n0 T2.heap := O0.keep K2q all0
  have K11 : Keep h0 T2.heap [a1] := K0.trans K2q all0
  obtain ⟨cq12, kq12, q12a, q12b, q12c⟩ := isOf hZ rfl p2_1
  obtain ⟨_, _, ⟨T12, L12, k12, n12⟩, -, X12, ⟨Lc12, hQ12, l12, y12, z12⟩, st12⟩ := X2.interfaceBack hx (xi := M22) (y := M19) hown (mvT hZ (ow hw 148 rfl)) (mvT hZ (ow hw 149 rfl)) (mvT hZ (ow hw 150 rfl)) (mvT hZ (ow hw 151 rfl)) (mvT hZ (ow hw 152 rfl)) (mvT hZ (ow hw 153 rfl)) (mvT hZ (ow hw 154 rfl)) (mvT hZ (ow hw 155 rfl)) (by decide) (backOf (W := 0) (au21_1 l Z a0 hw [] wMAX_LOCK_DELAY wGRANTED wQUEUED wBUSY wZERO hS e1_2 T2.heap n0 O11 p2_4) hZ (ow hw 156 rfl) (ow hw 123 rfl) (by decide) (by decide)) q12a q12b q12c (g := (mkF m 13 #[(vr a1), (vl q2), .second, (vi 1), (vr e1_2), .unset] [(.ref e1_2)])) rfl (by rw [hml]; rfl) (Steps.refl _) (argsL := []) (rest := []) (lenOf pd_14 rfl) rfl (by show 2 * 0 + _ ≤ _; exact Nat.le_of_eq rfl) (hb hby d26_13) (fun _ _ => ⟨rfl, rfl, (by decide : 1 + 0 ≤ _), (by decide : 4 + 0 ≤ _)⟩)
  dsimp only [Pt.U, Pt.locs, Pt.cells, Pt.slots] at X12 l12 y12 z12 st12 hQ12
  subst l12 y12 z12
  obtain ⟨rfl, Nq12, K12q⟩ := hQ12
  have N12 := Fr.app N2 Nq12
  have f13 : Fld Z T2.heap a5 s7n "elements" s8n (.ref a7) := (P10.keep K2q nin0)
  have f14 : Arv Z T2.heap a7 k8 (.object s9n) (17 : Int32) ([(.ref a9), .null, .null, .null, .null, .null, .null, .null, .null, .null, .null, .null, .null, .null, .null, .null, .null]) .null := (P13.keep K2q nin0)
  obtain ⟨cq15, kq15, q15a, q15b, q15c⟩ := isOf hZ K12q p2_1
  obtain ⟨_, _, ⟨T15, L15, k15, n15⟩, -, X15, ⟨Lc15, hQ15, l15, y15, z15⟩, st15⟩ := X12.interfaceBack hx (xi := M34) (y := M33) hown (mvT hZ (ow hw 196 rfl)) (mvT hZ (ow hw 197 rfl)) (mvT hZ (ow hw 198 rfl)) (mvT hZ (ow hw 199 rfl)) (mvT hZ (ow hw 200 rfl)) (mvT hZ (ow hw 201 rfl)) (mvT hZ (ow hw 202 rfl)) (mvT hZ (ow hw 155 rfl)) (by decide) (backOf (W := 0) (au27_0 l Z a0 hw [] wMAX_LOCK_DELAY wGRANTED wQUEUED wBUSY wZERO hS e1_2 a5 a7 k8 a9 T2.heap n0 O11 p2_1 p2_2 p2_3 p2_4 p2_5 f13 f14 g9 (Ne.symm ne6)) hZ (ow hw 203 rfl) (ow hw 123 rfl) (by decide) (by decide)) q15a q15b q15c (g := (mkF m 23 #[(vr a1), (vl q2), .second, (vi 1), (vr e1_2), .unset] [(.ref e1_2)])) rfl (by rw [hml]; rfl) (Steps.refl _) (argsL := []) (rest := []) (lenOf pd_8 rfl) rfl (by show 2 * 0 + _ ≤ _; exact Nat.le_of_eq rfl) (hb hby d26_23) (fun _ _ => ⟨rfl, K12q, (by decide : 1 + 0 ≤ _), (by decide : 4 + 0 ≤ _)⟩)
  dsimp only [Pt.U, Pt.locs, Pt.cells, Pt.slots] at X15 l15 y15 z15 st15 hQ15
  subst l15 y15 z15
  obtain ⟨rfl, Nq15, K15q, p15_0, p15_1, p15_2, p15_3, p15_4⟩ := hQ15
  have N15 := Fr.app N12 Nq15
  have O16 : Old Z n0 T15.heap := O11.keep K15q (allS g9 all0)
  have K16 : Keep h0 T15.heap [a1] := K11.trans K15q (allS (Or.inr sz10) all0)
  have f17 : Exa Z T15.heap a9 s16n := ((P16.keep K2q).keep K15q)
  obtain ⟨T18, X18, e18, st18⟩ := castY X15 hx hZ hown (ow hw 157 rfl) rfl (Ins.self f17) (g := (mkF m 28 #[(vr a1), (vl q2), .second, (vi 1), (vr e1_2), .unset] [(.ref a9)])) rfl rfl (hb hby d26_28)
  have f19 : Fld Z T15.heap a9 s16n "owner" s5n (.ref a11) := ((P18.keep K2q nin0).keep K15q (ninS ne7 nin0))
  obtain ⟨T20, X20, e20, st20⟩ := own_getR X18 hx hZ hown (ow hw 188 rfl) e18 f19 (g := (mkF m 31 #[(vr a1), (vl q2), .second, (vi 1), (vr e1_2), .unset] [(.ref a9)])) rfl rfl (hb hby d26_31)
  have f21 : Fld Z T15.heap a11 s3n "session" "J" (.long q13) := ((P21.keep K2q nin0).keep K15q (ninS ne8 nin0))
  have f23 : Exa Z T15.heap a11 s3n := ((P19.keep K2q).keep K15q)
  obtain ⟨cq22, kq22, q22a, q22b, q22c⟩ := isOf hZ e20 f23
  obtain ⟨_, _, ⟨T22, L22, k22, n22⟩, -, X22, ⟨Lc22, hQ22, l22, y22, z22⟩, st22⟩ := X20.virtualBack hx (y := M28) (z := M28) hown (mvT hZ (ow hw 209 rfl)) (mvT hZ (ow hw 210 rfl)) (notFace_of_selects (args := #[]) (mvT hZ (ow hw 212 rfl))) (mvT hZ (ow hw 212 rfl)) (mvT hZ (ow hw 211 rfl)) (by decide) (backOf (W := 0) (au29_0 l Z a0 hw [] wMAX_LOCK_DELAY wGRANTED wQUEUED wBUSY wZERO hS a11 q13 T15.heap n0 O16 f21) hZ (ow hw 213 rfl) (ow hw 37 rfl) (by decide) (by decide)) q22a q22c (g := (mkF m 34 #[(vr a1), (vl q2), .second, (vi 1), (vr e1_2), .unset] [(.ref a11)])) rfl (by rw [hml]; rfl) (Steps.refl _) (argsL := []) (rest := []) (lenOf pd_18 rfl) rfl (by show 2 * 0 + _ ≤ _; exact Nat.le_of_eq rfl) (hb hby d26_34) (fun _ _ => ⟨rfl, e20, (by decide : 1 + 0 ≤ _), (by decide : 4 + 0 ≤ _)⟩)
  dsimp only [Pt.U, Pt.locs, Pt.cells, Pt.slots] at X22 l22 y22 z22 st22 hQ22
  subst l22 y22 z22
  obtain ⟨rfl, Nq22, K22q⟩ := hQ22
  have N22 := Fr.app N15 Nq22
  obtain ⟨cq24, kq24, q24a, q24b, q24c⟩ := isOf hZ K22q p15_0
  obtain ⟨_, _, ⟨T24, L24, k24, n24⟩, -, X24, ⟨Lc24, hQ24, l24, y24, z24⟩, st24⟩ := X22.interfaceBack hx (xi := M22) (y := M19) hown (mvT hZ (ow hw 148 rfl)) (mvT hZ (ow hw 149 rfl)) (mvT hZ (ow hw 150 rfl)) (mvT hZ (ow hw 151 rfl)) (mvT hZ (ow hw 152 rfl)) (mvT hZ (ow hw 153 rfl)) (mvT hZ (ow hw 154 rfl)) (mvT hZ (ow hw 155 rfl)) (by decide) (backOf (W := 0) (au21_0 l Z a0 hw [] wMAX_LOCK_DELAY wGRANTED wQUEUED wBUSY wZERO hS e1_2 T15.heap n0 O16 p15_3) hZ (ow hw 156 rfl) (ow hw 123 rfl) (by decide) (by decide)) q24a q24b q24c (g := (mkF m 13 #[(vr a1), (vl q2), .second, (vi 1), (vr e1_2), .unset] [(.ref e1_2)])) rfl (by rw [hml]; rfl) (Steps.refl _) (argsL := []) (rest := []) (lenOf pd_14 rfl) rfl (by show 2 * 0 + _ ≤ _; exact Nat.le_of_eq rfl) (hb hby d26_13) (fun _ _ => ⟨rfl, K22q, (by decide : 1 + 0 ≤ _), (by decide : 4 + 0 ≤ _)⟩)
  dsimp only [Pt.U, Pt.locs, Pt.cells, Pt.slots] at X24 l24 y24 z24 st24 hQ24
  subst l24 y24 z24
  obtain ⟨rfl, Nq24, K24q⟩ := hQ24
  have N24 := Fr.app N22 Nq24
  have f25 : Fld Z T15.heap a1 s4n "holder" s5n (.ref a4) := ((P3.keep K2q nin0).keep K15q (ninS ne3 nin0))
  have f26 : Exa Z T15.heap a4 s3n := ((P6.keep K2q).keep K15q)
  have f27 : Fld Z T15.heap a4 s3n "session" "J" (.long q2) := ((P8.keep K2q nin0).keep K15q (ninS ne4 nin0))
  have f29 : Exa Z T15.heap a1 s4n := ((P0.keep K2q).keep K15q)
  obtain ⟨cq28, kq28, q28a, q28b, q28c⟩ := isOf hZ K24q f29
  obtain ⟨_, _, ⟨T28, L28, k28, n28⟩, -, X28, ⟨Lc28, hQ28, l28, y28, z28⟩, st28⟩ := X24.virtualBack hx (y := M29) (z := M29) hown (mvT hZ (ow hw 214 rfl)) (mvT hZ (ow hw 215 rfl)) (notFace_of_selects (args := #[]) (mvT hZ (ow hw 217 rfl))) (mvT hZ (ow hw 217 rfl)) (mvT hZ (ow hw 216 rfl)) (by decide) (backOf (W := 0) (au30_2 l Z a0 hw [] wMAX_LOCK_DELAY wGRANTED wQUEUED wBUSY wZERO hS a1 q2 a4 T15.heap n0 O16 f25 f26 f27) hZ (ow hw 218 rfl) (ow hw 2 rfl) (by decide) (by decide)) q28a q28c (g := (mkF m 57 #[(vr a1), (vl q2), .second, (vi 1), (vr e1_2), .val .null] [(.long q2), (.ref a1)])) rfl (by rw [hml]; rfl) (Steps.refl _) (argsL := [(.long q2)]) (rest := []) (lenOf pd_3 rfl) rfl (by show 2 * 0 + _ ≤ _; exact Nat.le_of_eq rfl) (hb hby d26_57) (fun _ _ => ⟨rfl, K24q, (by decide : 1 + 0 ≤ _), (by decide : 4 + 0 ≤ _)⟩)
  dsimp only [Pt.U, Pt.locs, Pt.cells, Pt.slots] at X28 l28 y28 z28 st28 hQ28
  subst l28 y28 z28
  obtain ⟨rfl, Nq28, K28q⟩ := hQ28
  have N28 := Fr.app N24 Nq28
  obtain ⟨T30, h30, X30, e30, W30, st30⟩ := putF X28 hx hZ hown (host := "") (Or.inl (ow hw 51 rfl)) Via.refl K28q f25 f29 (Or.inl (ow hw 52 rfl)) (ow hw 1 rfl) (ty := (.object s3n)) (by decide) rfl rfl (g := (mkF m 65 #[(vr a1), (vl q2), .second, (vi 1), (vr e1_2), .val .null] [.null, (.ref a1)])) rfl rfl (hb hby d26_65)
  have N30 := Fr.snoc X30 N28 P24
  have O31 : Old Z n0 h30 := O16.wr W30 P24
  have K31 : Keep h0 h30 [a1] := K16.wr W30 (Or.inl (List.mem_of_getElem? (i := 0) rfl))
  have Fw30 : Fld Z h30 a1 s4n "holder" s5n .null := f25.same W30
  have f32 : Fld Z h30 a1 s4n s10n s0n (.ref wMAX_LOCK_DELAY) := (((P4.keep K2q nin0).keep K15q (ninS ne3 nin0)).other W30 (Or.inr (slot_ne (Or.inl (ow hw 31 rfl)) (Or.inl (ow hw 52 rfl)) (by decide) (t := (.object s1n)) (t' := (.object s3n)) (by decide) (by decide))))
  obtain ⟨T33, X33, e33, st33⟩ := getF X30 hx hZ hown (host := "") (Or.inl (ow hw 30 rfl)) Via.refl e30 f32 (g := (mkF m 74 #[(vr a1), (vl q2), .second, (vi 1), (vr e1_2), .val .null] [(.ref a1), (.ref a1)])) rfl rfl (hb hby d26_74)
  obtain ⟨cq34, kq34, q34a, q34b, q34c⟩ := isOf hZ e33 (E_wMAX_LOCK_DELAY.ext O31.2)
  obtain ⟨_, _, ⟨T34, L34, k34, n34⟩, -, X34, ⟨Lc34, hQ34, l34, y34, z34⟩, st34⟩ := X33.virtualBack hx (y := M31) (z := M31) hown (mvT hZ (ow hw 219 rfl)) (mvT hZ (ow hw 220 rfl)) (notFace_of_selects (args := #[]) (mvT hZ (ow hw 222 rfl))) (mvT hZ (ow hw 222 rfl)) (mvT hZ (ow hw 221 rfl)) (by decide) (backOf (W := 1) (au31_0 l Z a0 hw [] wMAX_LOCK_DELAY wGRANTED wQUEUED wBUSY wZERO hS  h30 n0 O31 ) hZ (ow hw 223 rfl) (ow hw 29 rfl) (by decide) (by decide)) q34a q34c (g := (mkF m 77 #[(vr a1), (vl q2), .second, (vi 1), (vr e1_2), .val .null] [(.ref wMAX_LOCK_DELAY), (.ref a1)])) rfl (by rw [hml]; rfl) (Steps.refl _) (argsL := []) (rest := [(.ref a1)]) (lenOf pd_14 rfl) rfl (by show 2 * 0 + _ ≤ _; exact Nat.le_of_eq rfl) (hb hby d26_77) (fun _ _ => ⟨rfl, e33, (by decide : 1 + 0 ≤ _), (by decide : 4 + 0 ≤ _)⟩)
  dsimp only [Pt.U, Pt.locs, Pt.cells, Pt.slots] at X34 l34 y34 z34 st34 hQ34
  subst l34 y34 z34
  obtain ⟨rfl, Nq34, K34q⟩ := hQ34
  have N34 := Fr.app N30 Nq34
  have f35 : Exa Z h30 a1 s4n := (f29.wr W30)
  have f36 : Fld Z h30 a1 s4n "heldBack" "Z" (.int 0) := (((P2.keep K2q nin0).keep K15q (ninS ne3 nin0)).other W30 (Or.inr (slot_ne (Or.inl (ow hw 69 rfl)) (Or.inl (ow hw 52 rfl)) (by decide) (t := .boolean) (t' := (.object s3n)) (by decide) (by decide))))
  obtain ⟨T37, h37, X37, e37, W37, st37⟩ := putFN X34 hx hZ hown (ow hw 68 rfl) Via.refl K34q f36 f35 (Or.inl (ow hw 69 rfl)) (ow hw 1 rfl) (ty := .boolean) (v' := (.int 1)) (by decide) rfl rfl (g := (mkF m 88 #[(vr a1), (vl q2), .second, (vi 1), (vr e1_2), .val .null] [(.int 1), (.ref a1)])) rfl rfl (hb hby d26_88)
  have N37 := Fr.snoc X37 N34 P24
  have O38 : Old Z n0 h37 := O31.wr W37 P24
  have K38 : Keep h0 h37 [a1] := K31.wr W37 (Or.inl (List.mem_of_getElem? (i := 0) rfl))
  have Fw37 : Fld Z h37 a1 s4n "heldBack" "Z" (.int 1) := f36.same W37
  obtain ⟨T39, X39, e39, st39⟩ := getF X37 hx hZ hown (host := "") (Or.inl (ow hw 68 rfl)) Via.refl e37 Fw37 (g := (mkF m 92 #[(vr a1), (vl q2), .second, (vi 1), (vr e1_2), .val .null] [(.ref a1)])) rfl rfl (hb hby d26_92)
  have f40 : Exa Z h37 a1 s4n := (f35.wr W37)
  have f41 : Fld Z h37 a1 s4n "generation" "J" (.long qg3) := ((((P1.keep K2q nin0).keep K15q (ninS ne3 nin0)).other W30 (Or.inr (slot_ne (Or.inl (ow hw 75 rfl)) (Or.inl (ow hw 52 rfl)) (by decide) (t := .long) (t' := (.object s3n)) (by decide) (by decide)))).other W37 (Or.inr (slot_ne (Or.inl (ow hw 75 rfl)) (Or.inl (ow hw 69 rfl)) (by decide) (t := .long) (t' := .boolean) (by decide) (by decide))))
  have f42 : Fld Z h37 a1 s4n "holder" s5n .null := (Fw30.other W37 (Or.inr (slot_ne (Or.inl (ow hw 52 rfl)) (Or.inl (ow hw 69 rfl)) (by decide) (t := (.object s3n)) (t' := .boolean) (by decide) (by decide))))
  have f43 : Fld Z h37 a1 s4n s10n s0n (.ref wMAX_LOCK_DELAY) := (f32.other W37 (Or.inr (slot_ne (Or.inl (ow hw 31 rfl)) (Or.inl (ow hw 69 rfl)) (by decide) (t := (.object s1n)) (t' := .boolean) (by decide) (by decide))))
  have f44 : Fld Z h37 a1 s4n "waiters" s11n (.ref a5) := ((((P5.keep K2q nin0).keep K15q (ninS ne3 nin0)).other W30 (Or.inr (slot_ne (Or.inr (ow hw 27 rfl)) (Or.inl (ow hw 52 rfl)) (by decide) (t := (.object s12n)) (t' := (.object s3n)) (by decide) (by decide)))).other W37 (Or.inr (slot_ne (Or.inr (ow hw 27 rfl)) (Or.inl (ow hw 69 rfl)) (by decide) (t := (.object s12n)) (t' := .boolean) (by decide) (by decide))))
  obtain ⟨fs, hr, hrun, hended, hW, hsame⟩ := X39.leave (v := some .null) (fun h => by rw [hret0] at h; cases h)
  refine ⟨_, _, pre0 _ ?_, hrun, hended, _, _, rfl, ?_, ⟨_, rfl⟩, hW, hsame.mono (by decide) (by decide)⟩
  · skip
    show Steps p.tables e below (s₁.setTop (mkF m 0 #[(vr a1), (vl q2), .second, (vi 1), .unset, .unset] [])) _
    refine XS.aloadN X0.here hx rfl (hb hby d26_0) rfl rfl ?_
    refine st1 _ ?_
    refine st2.trans ?_
    refine XS.astore X2.here hx rfl (hb hby d26_9) rfl rfl (l' := #[(vr a1), (vl q2), .second, (vi 1), (vr e1_2), .unset]) rfl ?_
    refine XS.aload X2.here hx rfl (hb hby d26_11) rfl rfl ?_
    show Steps p.tables e below (T2.setTop (mkF m 13 #[(vr a1), (vl q2), .second, (vi 1), (vr e1_2), .unset] [(.ref e1_2)])) _
    refine st12.trans ?_
    refine XS.ifNo X12.here hx rfl (hb hby d26_18) rfl ((if0 _ _).trans (feq (by decide : ¬ ((1 : Int32) = (0 : Int32)))).1) ?_
    refine XS.aload X12.here hx rfl (hb hby d26_21) rfl rfl ?_
    refine st15.trans ?_
    refine st18 _ ?_
    show Steps p.tables e below (T18.setTop (mkF m 31 #[(vr a1), (vl q2), .second, (vi 1), (vr e1_2), .unset] [(.ref a9)])) _
    refine st20 _ ?_
    refine st22.trans ?_
    refine XS.lloadN X22.here hx rfl (hb hby d26_37) rfl ?_
    refine XS.lcmp X22.here hx rfl (hb hby d26_38) rfl ?_
    refine XS.ifYes X22.here hx rfl (pc0 := 39) (pc' := 11) rfl (hb hby d26_39) rfl ((if0 _ _).trans (feq (fun z => P22 ((lw_eq _ _).mp z).symm : ¬ ((lcmpW q13 q2) = (0 : Int32)))).2) (by decide) (by decide) ?_
    show Steps p.tables e below (T22.setTop (mkF m 11 #[(vr a1), (vl q2), .second, (vi 1), (vr e1_2), .unset] [])) _
    refine XS.aload X22.here hx rfl (hb hby d26_11) rfl rfl ?_
    refine st24.trans ?_
    refine XS.ifYes X24.here hx rfl (pc0 := 18) (pc' := 52) rfl (hb hby d26_18) rfl ((if0 _ _).trans (teq (by decide : (0 : Int32) = (0 : Int32))).1) (by decide) (by decide) ?_
    refine XS.aconstNull X24.here hx rfl (hb hby d26_52) ?_
    refine XS.astore X24.here hx rfl (hb hby d26_53) rfl rfl (l' := #[(vr a1), (vl q2), .second, (vi 1), (vr e1_2), .val .null]) rfl ?_
    show Steps p.tables e below (T24.setTop (mkF m 55 #[(vr a1), (vl q2), .second, (vi 1), (vr e1_2), .val .null] [])) _
    refine XS.aloadN X24.here hx rfl (hb hby d26_55) rfl rfl ?_
    refine XS.lloadN X24.here hx rfl (hb hby d26_56) rfl ?_
    refine st28.trans ?_
    refine XS.ifNo X28.here hx rfl (hb hby d26_60) rfl ((if0 _ _).trans (feq (by decide : ¬ ((1 : Int32) = (0 : Int32)))).1) ?_
    refine XS.aloadN X28.here hx rfl (hb hby d26_63) rfl rfl ?_
    show Steps p.tables e below (T28.setTop (mkF m 64 #[(vr a1), (vl q2), .second, (vi 1), (vr e1_2), .val .null] [(.ref a1)])) _
    refine XS.aconstNull X28.here hx rfl (hb hby d26_64) ?_
    refine st30 _ ?_
    refine XS.aloadN X30.here hx rfl (hb hby d26_68) rfl rfl ?_
    refine XS.iloadN X30.here hx rfl (hb hby d26_69) rfl ?_
    refine XS.ifNo X30.here hx rfl (hb hby d26_70) rfl ((if0 _ _).trans (feq (by decide : ¬ ((1 : Int32) = (0 : Int32)))).1) ?_
    show Steps p.tables e below (T30.setTop (mkF m 73 #[(vr a1), (vl q2), .second, (vi 1), (vr e1_2), .val .null] [(.ref a1)])) _
    refine XS.aloadN X30.here hx rfl (hb hby d26_73) rfl rfl ?_
    refine st33 _ ?_
    refine st34.trans ?_
    refine XS.ifNo X34.here hx rfl (hb hby d26_80) rfl ((if0 _ _).trans (teq (by decide : (0 : Int32) = (0 : Int32))).2) ?_
    refine XS.iconst X34.here hx rfl (hb hby d26_83) ?_
    show Steps p.tables e below (T34.setTop (mkF m 84 #[(vr a1), (vl q2), .second, (vi 1), (vr e1_2), .val .null] [(.int 1), (.ref a1)])) _
    refine XS.goto X34.here hx rfl (pc0 := 84) (pc' := 88) rfl (hb hby d26_84) (by decide) (by decide) ?_
    refine st37 _ ?_
    refine XS.aloadN X37.here hx rfl (hb hby d26_91) rfl rfl ?_
    refine st39 _ ?_
    refine XS.ifNo X39.here hx rfl (hb hby d26_95) rfl ((if0 _ _).trans (feq (by decide : ¬ ((1 : Int32) = (0 : Int32)))).1) ?_
    show Steps p.tables e below (T39.setTop (mkF m 98 #[(vr a1), (vl q2), .second, (vi 1), (vr e1_2), .val .null] [])) _
    refine XS.aconstNull X39.here hx rfl (hb hby d26_98) ?_
    refine XS.goto X39.here hx rfl (pc0 := 99) (pc' := 106) rfl (hb hby d26_99) (by decide) (by decide) ?_
    refine XS.astore X39.here hx rfl (hb hby d26_106) rfl rfl (l' := #[(vr a1), (vl q2), .second, (vi 1), (vr e1_2), .val .null]) rfl ?_
    refine XS.aload X39.here hx rfl (hb hby d26_108) rfl rfl ?_
    jvm_step X39.here [X39.here.top, hx, (hb hby d26_110), X39.method', hret0, Value.isRef, FieldType.isReference]
    first | (intro acts; rw [hr _ acts rfl rfl rfl]) | rw [hr _ _ rfl rfl rfl]
    exact Steps.refl _
  · show Q_au26_4 Z wMAX_LOCK_DELAY wGRANTED wQUEUED wBUSY wZERO a1 q2 qg3 a4 a5 a7 k8 a9 a11 q13 h0 n0 _ T39.heap _
    rw [e39]
    exact ⟨rfl, N37, K38, f40, f41, Fw37, f42, f43, f44⟩
theorem ef_au32_0 (m : MethodId) (x0 : Addr) (x1 : Int64)  : entryFrame m #[(.ref x0), (.long x1)] 4 = mkF m 0 #[(vr x0), (vl x1), .second, .unset] [] := by first | (simp [entryFrame, mkF, argsToLocals, Value.category]; done) | rfl
theorem d32_0 : decode prog_84_method_16_code 0 = .ok (.aconst_null, 1) := by decide +kernel
theorem d32_1 : decode prog_84_method_16_code 1 = .ok (.astore_n 3, 1) := by decide +kernel
theorem d32_2 : decode prog_84_method_16_code 2 = .ok (.aload_n 0, 1) := by decide +kernel
theorem d32_3 : decode prog_84_method_16_code 3 = .ok (.lload_n 1, 1) := by decide +kernel
theorem d32_4 : decode prog_84_method_16_code 4 = .ok (.invokevirtual 122, 3) := by decide +kernel
theorem ef_au33_0 (m : MethodId) (x0 : Addr) (x1 : Int64)  : entryFrame m #[(.ref x0), (.long x1)] 3 = mkF m 0 #[(vr x0), (vl x1), .second] [] := by first | (simp [entryFrame, mkF, argsToLocals, Value.category]; done) | rfl
theorem d33_0 : decode prog_84_method_10_code 0 = .ok (.aload_n 0, 1) := by decide +kernel
theorem d33_1 : decode prog_84_method_10_code 1 = .ok (.getfield 45, 3) := by decide +kernel
theorem d33_4 : decode prog_84_method_10_code 4 = .ok (.ifCond .eq 16, 3) := by decide +kernel
theorem d33_7 : decode prog_84_method_10_code 7 = .ok (.aload_n 0, 1) := by decide +kernel
theorem d33_8 : decode prog_84_method_10_code 8 = .ok (.getfield 25, 3) := by decide +kernel
theorem d33_11 : decode prog_84_method_10_code 11 = .ok (.lload_n 1, 1) := by decide +kernel
theorem d33_12 : decode prog_84_method_10_code 12 = .ok (.lcmp, 1) := by decide +kernel
theorem d33_13 : decode prog_84_method_10_code 13 = .ok (.ifCond .ne 7, 3) := by decide +kernel
theorem d33_16 : decode prog_84_method_10_code 16 = .ok (.iconst 1, 1) := by decide +kernel
theorem d33_17 : decode prog_84_method_10_code 17 = .ok (.goto 4, 3) := by decide +kernel
theorem d33_21 : decode prog_84_method_10_code 21 = .ok (.ireturn, 1) := by decide +kernel
def Q_au33_0 (Z : State) (wMAX_LOCK_DELAY : Addr) (wGRANTED : Addr) (wQUEUED : Addr) (wBUSY : Addr) (wZERO : Addr) (a1 : Addr) (h0 : Heap) (n0 : Nat) (v : Option Value) (h : Heap) (L : List Loc) : Prop := v = some (.int 1) ∧ Fr n0 L ∧ h = h0
theorem au33_0 (l : Launch) (Z : State) (a0 : Array Value) (hw : ∀ d ∈ tables_1, d.before a0 Z = true) (ws : List Jvm.Cond) (wMAX_LOCK_DELAY : Addr) (wGRANTED : Addr) (wQUEUED : Addr) (wBUSY : Addr) (wZERO : Addr) (hS : SS Z wMAX_LOCK_DELAY wGRANTED wQUEUED wBUSY wZERO) (a1 : Addr) (h0 : Heap) (n0 : Nat) (O0 : Old Z n0 h0) (P1 : Fld Z h0 a1 s4n "generation" "J" (.long 1)) (P2 : Fld Z h0 a1 s4n "heldBack" "Z" (.int 1)) :
    MetB l M35 prog_84_method_10_code 3 (some .boolean) ws (rmk 0 0 0 0) Z h0 #[(.ref a1), (.long 1)] (Q_au33_0 Z wMAX_LOCK_DELAY wGRANTED wQUEUED wBUSY wZERO a1 h0 n0) := by
  refine own_body (plainFor_of_name pn_com_example_umpired_umpired_server_NodeLock) ?_
  intro p e s m below meth c s₁ hx hby hml hown hnm hret0 hlk0 hZ X0 e0
  have N0 := Fr.nil n0
  have pre0 : ∀ t, Steps p.tables e below (s₁.setTop (mkF m 0 #[(vr a1), (vl 1), .second] [])) t → Steps p.tables e below (s₁.setTop (entryFrame m #[(.ref a1), (.long 1)] 3)) t := fun t k => castTop (ef_au33_0 m a1 (1 : Int64)) k
  have hS0 := hS
  obtain ⟨S_wMAX_LOCK_DELAY, E_wMAX_LOCK_DELAY, S_wGRANTED, E_wGRANTED, S_wQUEUED, E_wQUEUED, S_wBUSY, E_wBUSY, F_seconds_wMAX_LOCK_DELAY, F_nanos_wMAX_LOCK_DELAY, S_wZERO, E_wZERO, F_seconds_wZERO, F_nanos_wZERO⟩ := hS0
  obtain ⟨T1, X1, e1, st1⟩ := getF X0 hx hZ hown (host := "") (Or.inl (ow hw 68 rfl)) Via.refl e0 P2 (g := (mkF m 1 #[(vr a1), (vl 1), .second] [(.ref a1)])) rfl rfl (hb hby d33_1)
  obtain ⟨T2, X2, e2, st2⟩ := getF X1 hx hZ hown (host := "") (Or.inl (ow hw 74 rfl)) Via.refl e1 P1 (g := (mkF m 8 #[(vr a1), (vl 1), .second] [(.ref a1)])) rfl rfl (hb hby d33_8)
  obtain ⟨fs, hr, hrun, hended, hW, hsame⟩ := X2.leave (v := some (.int 1)) (fun h => by rw [hret0] at h; cases h)
  refine ⟨_, _, pre0 _ ?_, hrun, hended, _, _, rfl, ?_, ⟨_, rfl⟩, hW, hsame.mono (by decide) (by decide)⟩
  · skip
    show Steps p.tables e below (s₁.setTop (mkF m 0 #[(vr a1), (vl 1), .second] [])) _
    refine XS.aloadN X0.here hx rfl (hb hby d33_0) rfl rfl ?_
    refine st1 _ ?_
    refine XS.ifNo X1.here hx rfl (hb hby d33_4) rfl ((if0 _ _).trans (feq (by decide : ¬ ((1 : Int32) = (0 : Int32)))).1) ?_
    refine XS.aloadN X1.here hx rfl (hb hby d33_7) rfl rfl ?_
    refine st2 _ ?_
    show Steps p.tables e below (T2.setTop (mkF m 11 #[(vr a1), (vl 1), .second] [(.long 1)])) _
    refine XS.lloadN X2.here hx rfl (hb hby d33_11) rfl ?_
    refine XS.lcmp X2.here hx rfl (hb hby d33_12) rfl ?_
    refine XS.ifNo X2.here hx rfl (hb hby d33_13) rfl ((if0 _ _).trans (teq (by decide : (lcmpW (1 : Int64) (1 : Int64)) = (0 : Int32))).2) ?_
    refine XS.iconst X2.here hx rfl (hb hby d33_16) ?_
    refine XS.goto X2.here hx rfl (pc0 := 17) (pc' := 21) rfl (hb hby d33_17) (by decide) (by decide) ?_
    show Steps p.tables e below (T2.setTop (mkF m 21 #[(vr a1), (vl 1), .second] [(.int 1)])) _
    exact retN X2 hx (t := .boolean) hret0 (by simp) (hb hby d33_21) hr
  · show Q_au33_0 Z wMAX_LOCK_DELAY wGRANTED wQUEUED wBUSY wZERO a1 h0 n0 _ T2.heap _
    rw [e2]
    exact ⟨rfl, N0, rfl⟩
theorem d32_7 : decode prog_84_method_16_code 7 = .ok (.ifCond .eq 13, 3) := by decide +kernel
theorem d32_10 : decode prog_84_method_16_code 10 = .ok (.aload_n 0, 1) := by decide +kernel
theorem d32_11 : decode prog_84_method_16_code 11 = .ok (.iconst 0, 1) := by decide +kernel
theorem d32_12 : decode prog_84_method_16_code 12 = .ok (.putfield 45, 3) := by decide +kernel
theorem d32_15 : decode prog_84_method_16_code 15 = .ok (.aload_n 0, 1) := by decide +kernel
theorem d32_16 : decode prog_84_method_16_code 16 = .ok (.invokevirtual 112, 3) := by decide +kernel
theorem ef_au12_4 (m : MethodId) (x0 : Addr)  : entryFrame m #[(.ref x0)] 2 = mkF m 0 #[(vr x0), .unset] [] := by first | (simp [entryFrame, mkF, argsToLocals, Value.category]; done) | rfl
theorem ef_au10_2 (m : MethodId) (x0 : Addr) (x1 : Addr) (x2 : Addr)  : entryFrame m #[(.ref x0), (.ref x1), (.ref x2)] 3 = mkF m 0 #[(vr x0), (vr x1), (vr x2)] [] := by first | (simp [entryFrame, mkF, argsToLocals, Value.category]; done) | rfl
def Q_au10_2 (Z : State) (wMAX_LOCK_DELAY : Addr) (wGRANTED : Addr) (wQUEUED : Addr) (wBUSY : Addr) (wZERO : Addr) (a1 : Addr) (a2 : Addr) (a3 : Addr) (q4 : Int64) (a5 : Addr) (h0 : Heap) (n0 : Nat) (v : Option Value) (h : Heap) (L : List Loc) : Prop := v = none ∧ Fr n0 L ∧ Keep h0 h [a1] ∧ Exa Z h a1 s4n ∧ Fld Z h a1 s4n "generation" "J" (.long (q4 + (1 : Int64))) ∧ Fld Z h a1 s4n "heldBack" "Z" (.int 0) ∧ Fld Z h a1 s4n "holder" s5n (.ref a2) ∧ Fld Z h a1 s4n s10n s0n (.ref a3) ∧ Fld Z h a1 s4n "waiters" s11n (.ref a5)
theorem au10_2 (l : Launch) (Z : State) (a0 : Array Value) (hw : ∀ d ∈ tables_1, d.before a0 Z = true) (ws : List Jvm.Cond) (wMAX_LOCK_DELAY : Addr) (wGRANTED : Addr) (wQUEUED : Addr) (wBUSY : Addr) (wZERO : Addr) (hS : SS Z wMAX_LOCK_DELAY wGRANTED wQUEUED wBUSY wZERO) (a1 : Addr) (a2 : Addr) (a3 : Addr) (q4 : Int64) (a5 : Addr) (h0 : Heap) (n0 : Nat) (O0 : Old Z n0 h0) (P0 : Exa Z h0 a1 s4n) (P1 : Fld Z h0 a1 s4n "generation" "J" (.long q4)) (P2 : Fld Z h0 a1 s4n "heldBack" "Z" (.int 0)) (P3 : Fld Z h0 a1 s4n "holder" s5n .null) (P4 : Fld Z h0 a1 s4n s10n s0n (.ref wMAX_LOCK_DELAY)) (P5 : Fld Z h0 a1 s4n "waiters" s11n (.ref a5)) (P16 : n0 ≤ a1) :
    MetB l M7 prog_84_method_23_code 3 none ws (rmk 0 0 0 0) Z h0 #[(.ref a1), (.ref a2), (.ref a3)] (Q_au10_2 Z wMAX_LOCK_DELAY wGRANTED wQUEUED wBUSY wZERO a1 a2 a3 q4 a5 h0 n0) := by
  refine own_body (plainFor_of_name pn_com_example_umpired_umpired_server_NodeLock) ?_
  intro p e s m below meth c s₁ hx hby hml hown hnm hret0 hlk0 hZ X0 e0
  have N0 := Fr.nil n0
  have pre0 : ∀ t, Steps p.tables e below (s₁.setTop (mkF m 0 #[(vr a1), (vr a2), (vr a3)] [])) t → Steps p.tables e below (s₁.setTop (entryFrame m #[(.ref a1), (.ref a2), (.ref a3)] 3)) t := fun t k => castTop (ef_au10_2 m a1 a2 a3) k
  have K0 := Keep.refl h0 [a1]
  have hS0 := hS
  obtain ⟨S_wMAX_LOCK_DELAY, E_wMAX_LOCK_DELAY, S_wGRANTED, E_wGRANTED, S_wQUEUED, E_wQUEUED, S_wBUSY, E_wBUSY, F_seconds_wMAX_LOCK_DELAY, F_nanos_wMAX_LOCK_DELAY, S_wZERO, E_wZERO, F_seconds_wZERO, F_nanos_wZERO⟩ := hS0
  obtain ⟨T1, h1, X1, e1, W1, st1⟩ := putF X0 hx hZ hown (host := "") (Or.inl (ow hw 51 rfl)) Via.refl e0 P3 P0 (Or.inl (ow hw 52 rfl)) (ow hw 1 rfl) (ty := (.object s3n)) (by decide) rfl rfl (g := (mkF m 2 #[(vr a1), (vr a2), (vr a3)] [(.ref a2), (.ref a1)])) rfl rfl (hb hby d10_2)
  have N1 := Fr.snoc X1 N0 P16
  have O2 : Old Z n0 h1 := O0.wr W1 P16
  have K2 : Keep h0 h1 [a1] := K0.wr W1 (Or.inl (List.mem_of_getElem? (i := 0) rfl))
  have Fw1 : Fld Z h1 a1 s4n "holder" s5n (.ref a2) := P3.same W1
  have f3 : Exa Z h1 a1 s4n := (P0.wr W1)
  have f4 : Fld Z h1 a1 s4n s10n s0n (.ref wMAX_LOCK_DELAY) := (P4.other W1 (Or.inr (slot_ne (Or.inl (ow hw 31 rfl)) (Or.inl (ow hw 52 rfl)) (by decide) (t := (.object s1n)) (t' := (.object s3n)) (by decide) (by decide))))
  obtain ⟨T5, h5, X5, e5, W5, st5⟩ := putF X1 hx hZ hown (host := "") (Or.inl (ow hw 30 rfl)) Via.refl e1 f4 f3 (Or.inl (ow hw 31 rfl)) (ow hw 1 rfl) (ty := (.object s1n)) (by decide) rfl rfl (g := (mkF m 7 #[(vr a1), (vr a2), (vr a3)] [(.ref a3), (.ref a1)])) rfl rfl (hb hby d10_7)
  have N5 := Fr.snoc X5 N1 P16
  have O6 : Old Z n0 h5 := O2.wr W5 P16
  have K6 : Keep h0 h5 [a1] := K2.wr W5 (Or.inl (List.mem_of_getElem? (i := 0) rfl))
  have Fw5 : Fld Z h5 a1 s4n s10n s0n (.ref a3) := f4.same W5
  have f7 : Fld Z h5 a1 s4n "generation" "J" (.long q4) := ((P1.other W1 (Or.inr (slot_ne (Or.inl (ow hw 75 rfl)) (Or.inl (ow hw 52 rfl)) (by decide) (t := .long) (t' := (.object s3n)) (by decide) (by decide)))).other W5 (Or.inr (slot_ne (Or.inl (ow hw 75 rfl)) (Or.inl (ow hw 31 rfl)) (by decide) (t := .long) (t' := (.object s1n)) (by decide) (by decide))))
  obtain ⟨T8, X8, e8, st8⟩ := getF X5 hx hZ hown (host := "") (Or.inl (ow hw 74 rfl)) Via.refl e5 f7 (g := (mkF m 12 #[(vr a1), (vr a2), (vr a3)] [(.ref a1), (.ref a1)])) rfl rfl (hb hby d10_12)
  have f9 : Exa Z h5 a1 s4n := (f3.wr W5)
  obtain ⟨T10, h10, X10, e10, W10, st10⟩ := putF X8 hx hZ hown (host := "") (Or.inl (ow hw 74 rfl)) Via.refl e8 f7 f9 (Or.inl (ow hw 75 rfl)) (ow hw 1 rfl) (ty := .long) (by decide) rfl rfl (g := (mkF m 17 #[(vr a1), (vr a2), (vr a3)] [(.long (q4 + (1 : Int64))), (.ref a1)])) rfl rfl (hb hby d10_17)
  have N10 := Fr.snoc X10 N5 P16
  have O11 : Old Z n0 h10 := O6.wr W10 P16
  have K11 : Keep h0 h10 [a1] := K6.wr W10 (Or.inl (List.mem_of_getElem? (i := 0) rfl))
  have Fw10 : Fld Z h10 a1 s4n "generation" "J" (.long (q4 + (1 : Int64))) := f7.same W10
  have f12 : Exa Z h10 a1 s4n := (f9.wr W10)
  have f13 : Fld Z h10 a1 s4n "heldBack" "Z" (.int 0) := (((P2.other W1 (Or.inr (slot_ne (Or.inl (ow hw 69 rfl)) (Or.inl (ow hw 52 rfl)) (by decide) (t := .boolean) (t' := (.object s3n)) (by decide) (by decide)))).other W5 (Or.inr (slot_ne (Or.inl (ow hw 69 rfl)) (Or.inl (ow hw 31 rfl)) (by decide) (t := .boolean) (t' := (.object s1n)) (by decide) (by decide)))).other W10 (Or.inr (slot_ne (Or.inl (ow hw 69 rfl)) (Or.inl (ow hw 75 rfl)) (by decide) (t := .boolean) (t' := .long) (by decide) (by decide))))
  have f14 : Fld Z h10 a1 s4n "holder" s5n (.ref a2) := ((Fw1.other W5 (Or.inr (slot_ne (Or.inl (ow hw 52 rfl)) (Or.inl (ow hw 31 rfl)) (by decide) (t := (.object s3n)) (t' := (.object s1n)) (by decide) (by decide)))).other W10 (Or.inr (slot_ne (Or.inl (ow hw 52 rfl)) (Or.inl (ow hw 75 rfl)) (by decide) (t := (.object s3n)) (t' := .long) (by decide) (by decide))))
  have f15 : Fld Z h10 a1 s4n s10n s0n (.ref a3) := (Fw5.other W10 (Or.inr (slot_ne (Or.inl (ow hw 31 rfl)) (Or.inl (ow hw 75 rfl)) (by decide) (t := (.object s1n)) (t' := .long) (by decide) (by decide))))
  have f16 : Fld Z h10 a1 s4n "waiters" s11n (.ref a5) := (((P5.other W1 (Or.inr (slot_ne (Or.inr (ow hw 27 rfl)) (Or.inl (ow hw 52 rfl)) (by decide) (t := (.object s12n)) (t' := (.object s3n)) (by decide) (by decide)))).other W5 (Or.inr (slot_ne (Or.inr (ow hw 27 rfl)) (Or.inl (ow hw 31 rfl)) (by decide) (t := (.object s12n)) (t' := (.object s1n)) (by decide) (by decide)))).other W10 (Or.inr (slot_ne (Or.inr (ow hw 27 rfl)) (Or.inl (ow hw 75 rfl)) (by decide) (t := (.object s12n)) (t' := .long) (by decide) (by decide))))
  obtain ⟨fs, hr, hrun, hended, hW, hsame⟩ := X10.leave (v := none) (fun _ => rfl)
  refine ⟨_, _, pre0 _ ?_, hrun, hended, _, _, rfl, ?_, ⟨_, rfl⟩, hW, hsame.mono (by decide) (by decide)⟩
  · skip
    show Steps p.tables e below (s₁.setTop (mkF m 0 #[(vr a1), (vr a2), (vr a3)] [])) _
    refine XS.aloadN X0.here hx rfl (hb hby d10_0) rfl rfl ?_
    refine XS.aloadN X0.here hx rfl (hb hby d10_1) rfl rfl ?_
    refine st1 _ ?_
    refine XS.aloadN X1.here hx rfl (hb hby d10_5) rfl rfl ?_
    refine XS.aloadN X1.here hx rfl (hb hby d10_6) rfl rfl ?_
    show Steps p.tables e below (T1.setTop (mkF m 7 #[(vr a1), (vr a2), (vr a3)] [(.ref a3), (.ref a1)])) _
    refine st5 _ ?_
    refine XS.aloadN X5.here hx rfl (hb hby d10_10) rfl rfl ?_
    refine XS.dup X5.here hx rfl (hb hby d10_11) rfl rfl ?_
    refine st8 _ ?_
    refine XS.lconst X8.here hx rfl (hb hby d10_15) ?_
    show Steps p.tables e below (T8.setTop (mkF m 16 #[(vr a1), (vr a2), (vr a3)] [(.long 1), (.long q4), (.ref a1)])) _
    refine XS.ladd X8.here hx rfl (hb hby d10_16) rfl ?_
    refine st10 _ ?_
    exact X10.returnOut hx hret0 (hb hby d10_20) hr
  · show Q_au10_2 Z wMAX_LOCK_DELAY wGRANTED wQUEUED wBUSY wZERO a1 a2 a3 q4 a5 h0 n0 _ T10.heap _
    rw [e10]
    exact ⟨rfl, N10, K11, f12, Fw10, f13, f14, f15, f16⟩
def Q_au12_4 (Z : State) (wMAX_LOCK_DELAY : Addr) (wGRANTED : Addr) (wQUEUED : Addr) (wBUSY : Addr) (wZERO : Addr) (a1 : Addr) (qg2 : Int64) (a3 : Addr) (a4 : Addr) (k5 : ClassId) (a6 : Addr) (a7 : Addr) (a8 : Addr) (h0 : Heap) (n0 : Nat) (v : Option Value) (h : Heap) (L : List Loc) : Prop := v = some (.ref a8) ∧ Fr n0 L ∧ Keep h0 h [a4, a3, a1] ∧ Exa Z h a4 s8n ∧ Arv Z h a4 k5 (.object s9n) (17 : Int32) ([.null, .null, .null, .null, .null, .null, .null, .null, .null, .null, .null, .null, .null, .null, .null, .null, .null]) .null ∧ Ovr Z k5 s9n ∧ Exa Z h a3 s7n ∧ Fld Z h a3 s7n "elements" s8n (.ref a4) ∧ Fld Z h a3 s7n "head" "I" (.int 1) ∧ Fld Z h a3 s7n "tail" "I" (.int 1) ∧ Exa Z h a1 s4n ∧ Fld Z h a1 s4n "generation" "J" (.long (qg2 + (1 : Int64))) ∧ Fld Z h a1 s4n "heldBack" "Z" (.int 0) ∧ Fld Z h a1 s4n "holder" s5n (.ref a8) ∧ Fld Z h a1 s4n s10n s0n (.ref a7) ∧ Fld Z h a1 s4n "waiters" s11n (.ref a3)
theorem au12_4 (l : Launch) (Z : State) (a0 : Array Value) (hw : ∀ d ∈ tables_1, d.before a0 Z = true) (ws : List Jvm.Cond) (wMAX_LOCK_DELAY : Addr) (wGRANTED : Addr) (wQUEUED : Addr) (wBUSY : Addr) (wZERO : Addr) (hS : SS Z wMAX_LOCK_DELAY wGRANTED wQUEUED wBUSY wZERO) (a1 : Addr) (qg2 : Int64) (a3 : Addr) (a4 : Addr) (k5 : ClassId) (a6 : Addr) (a7 : Addr) (a8 : Addr) (h0 : Heap) (n0 : Nat) (O0 : Old Z n0 h0) (P0 : Exa Z h0 a1 s4n) (P1 : Fld Z h0 a1 s4n "generation" "J" (.long qg2)) (P2 : Fld Z h0 a1 s4n "heldBack" "Z" (.int 0)) (P3 : Fld Z h0 a1 s4n "holder" s5n .null) (P4 : Fld Z h0 a1 s4n s10n s0n (.ref wMAX_LOCK_DELAY)) (P5 : Fld Z h0 a1 s4n "waiters" s11n (.ref a3)) (P6 : Exa Z h0 a3 s7n) (P7 : Fld Z h0 a3 s7n "elements" s8n (.ref a4)) (P8 : Fld Z h0 a3 s7n "head" "I" (.int 0)) (P9 : Fld Z h0 a3 s7n "tail" "I" (.int 1)) (P10 : Arv Z h0 a4 k5 (.object s9n) (17 : Int32) ([(.ref a6), .null, .null, .null, .null, .null, .null, .null, .null, .null, .null, .null, .null, .null, .null, .null, .null]) .null) (P11 : Ovr Z k5 s9n) (P12 : Exa Z h0 a4 s8n) (P13 : Exa Z h0 a6 s16n) (P14 : Fld Z h0 a6 s16n "lockDelay" s0n (.ref a7)) (P15 : Fld Z h0 a6 s16n "owner" s5n (.ref a8)) (P19 : n0 ≤ a1) (P20 : n0 ≤ a3) (P21 : n0 ≤ a4) (P24 : a1 ≠ a3) (P25 : a1 ≠ a4) (P26 : a1 ≠ a6) (P29 : a3 ≠ a4) (P30 : a3 ≠ a6) (P33 : a4 ≠ a6) :
    MetB l M12 prog_84_method_22_code 2 (some (.object s3n)) ws (rmk 3 0 0 41) Z h0 #[(.ref a1)] (Q_au12_4 Z wMAX_LOCK_DELAY wGRANTED wQUEUED wBUSY wZERO a1 qg2 a3 a4 k5 a6 a7 a8 h0 n0) := by
  refine own_body (plainFor_of_name pn_com_example_umpired_umpired_server_NodeLock) ?_
  intro p e s m below meth c s₁ hx hby hml hown hnm hret0 hlk0 hZ X0 e0
  have N0 := Fr.nil n0
  have pre0 : ∀ t, Steps p.tables e below (s₁.setTop (mkF m 0 #[(vr a1), .unset] [])) t → Steps p.tables e below (s₁.setTop (entryFrame m #[(.ref a1)] 2)) t := fun t k => castTop (ef_au12_4 m a1) k
  have K0 := Keep.refl h0 [a4, a3, a1]
  have hS0 := hS
  obtain ⟨S_wMAX_LOCK_DELAY, E_wMAX_LOCK_DELAY, S_wGRANTED, E_wGRANTED, S_wQUEUED, E_wQUEUED, S_wBUSY, E_wBUSY, F_seconds_wMAX_LOCK_DELAY, F_nanos_wMAX_LOCK_DELAY, S_wZERO, E_wZERO, F_seconds_wZERO, F_nanos_wZERO⟩ := hS0
  obtain ⟨T1, X1, e1, st1⟩ := getF X0 hx hZ hown (host := "") (Or.inl (ow hw 26 rfl)) Via.refl e0 P5 (g := (mkF m 1 #[(vr a1), .unset] [(.ref a1)])) rfl rfl (hb hby d12_1)
  obtain ⟨cq2, kq2, q2a, q2b, q2c⟩ := isOf hZ e1 P6
  obtain ⟨_, _, ⟨T2, L2, k2, n2⟩, -, X2, ⟨Lc2, hQ2, l2, y2, z2⟩, st2⟩ := X1.interfaceBack hx (xi := M13) (y := M11) hown (mvT hZ (ow hw 88 rfl)) (mvT hZ (ow hw 89 rfl)) (mvT hZ (ow hw 90 rfl)) (mvT hZ (ow hw 91 rfl)) (mvT hZ (ow hw 92 rfl)) (mvT hZ (ow hw 93 rfl)) (mvT hZ (ow hw 94 rfl)) (mvT hZ (ow hw 95 rfl)) (by decide) (backOf (W := 0) (au13_1 l Z a0 hw [] wMAX_LOCK_DELAY wGRANTED wQUEUED wBUSY wZERO hS a3 a4 k5 a6 h0 n0 O0 P6 P7 P8 P9 P10 P11 P12 P20 P21 P29) hZ (ow hw 96 rfl) (ow hw 11 rfl) (by decide) (by decide)) q2a q2b q2c (g := (mkF m 4 #[(vr a1), .unset] [(.ref a3)])) rfl (by rw [hml]; rfl) (Steps.refl _) (argsL := []) (rest := []) (lenOf pd_8 rfl) rfl (by show 2 * 0 + _ ≤ _; exact Nat.le_of_eq rfl) (hb hby d12_4) (fun _ _ => ⟨rfl, e1, (by decide : 0 + 0 ≤ _), (by decide : 0 + 0 ≤ _)⟩)
  dsimp only [Pt.U, Pt.locs, Pt.cells, Pt.slots] at X2 l2 y2 z2 st2 hQ2
  subst l2 y2 z2
  obtain ⟨rfl, Nq2, K2q, p2_0, p2_1, p2_2, p2_3, p2_4, p2_5, p2_6⟩ := hQ2
  have N2 := Fr.app N0 Nq2
  have O3 : Old Z n0 T2.heap := O0.keep K2q (allS P21 (allS P20 all0))
  have K3 : Keep h0 T2.heap [a4, a3, a1] := K0.trans K2q (allS (Or.inl (List.mem_of_getElem? (i := 0) rfl)) (allS (Or.inl (List.mem_of_getElem? (i := 1) rfl)) all0))
  have f4 : Exa Z T2.heap a6 s16n := (P13.keep K2q)
  obtain ⟨T5, X5, e5, st5⟩ := castY X2 hx hZ hown (ow hw 157 rfl) rfl (Ins.self f4) (g := (mkF m 9 #[(vr a1), .unset] [(.ref a6)])) rfl rfl (hb hby d12_9)
  have f6 : Fld Z T2.heap a6 s16n "owner" s5n (.ref a8) := (P15.keep K2q (ninS (Ne.symm P33) (ninS (Ne.symm P30) nin0)))
  obtain ⟨T7, X7, e7, st7⟩ := own_getR X5 hx hZ hown (ow hw 188 rfl) e5 f6 (g := (mkF m 19 #[(vr a1), (vr a6)] [(.ref a6), (.ref a1)])) rfl rfl (hb hby d12_19)
  have f8 : Fld Z T2.heap a6 s16n "lockDelay" s0n (.ref a7) := (P14.keep K2q (ninS (Ne.symm P33) (ninS (Ne.symm P30) nin0)))
  obtain ⟨T9, X9, e9, st9⟩ := own_getR X7 hx hZ hown (ow hw 189 rfl) e7 f8 (g := (mkF m 23 #[(vr a1), (vr a6)] [(.ref a6), (.ref a8), (.ref a1)])) rfl rfl (hb hby d12_23)
  have f10 : Exa Z T2.heap a1 s4n := (P0.keep K2q)
  have f11 : Fld Z T2.heap a1 s4n "generation" "J" (.long qg2) := (P1.keep K2q (ninS P25 (ninS P24 nin0)))
  have f12 : Fld Z T2.heap a1 s4n "heldBack" "Z" (.int 0) := (P2.keep K2q (ninS P25 (ninS P24 nin0)))
  have f13 : Fld Z T2.heap a1 s4n "holder" s5n .null := (P3.keep K2q (ninS P25 (ninS P24 nin0)))
  have f14 : Fld Z T2.heap a1 s4n s10n s0n (.ref wMAX_LOCK_DELAY) := (P4.keep K2q (ninS P25 (ninS P24 nin0)))
  have f15 : Fld Z T2.heap a1 s4n "waiters" s11n (.ref a3) := (P5.keep K2q (ninS P25 (ninS P24 nin0)))
  obtain ⟨cq16, q16, q16'⟩ := f10.cell
  obtain ⟨_, _, ⟨T16, L16, k16, n16⟩, -, X16, ⟨Lc16, hQ16, l16, y16, z16⟩, st16⟩ := X9.privateBack hx (y := M7) hown (mvT hZ (ow hw 70 rfl)) (mvT hZ (ow hw 71 rfl)) (own_selp (mvT hZ (ow hw 1 rfl)) (mvP hZ (ow hw 72 rfl)) (mvT hZ (ow hw 71 rfl)) (by decide)) (Cond.privateMethod_at (mvP hZ (ow hw 72 rfl) (args := #[]))) (mvT hZ (ow hw 73 rfl)) (by decide) (backOf (W := 0) (au10_2 l Z a0 hw [] wMAX_LOCK_DELAY wGRANTED wQUEUED wBUSY wZERO hS a1 a8 a7 qg2 a3 T2.heap n0 O3 f10 f11 f12 f13 f14 f15 P19) hZ (ow hw 73 rfl) (ow hw 2 rfl) (by decide) (by decide)) (g := (mkF m 26 #[(vr a1), (vr a6)] [(.ref a7), (.ref a8), (.ref a1)])) rfl (by rw [hml]; rfl) (Steps.refl _) (a := a1) (by rw [e9]; exact q16) q16' (argsL := [(.ref a8), (.ref a7)]) (rest := []) (lenOf pd_5 rfl) rfl (by show 2 * 0 + _ ≤ _; exact Nat.le_of_eq rfl) (hb hby d12_26) (fun _ _ => ⟨rfl, e9, (by decide : 0 + 0 ≤ _), (by decide : 0 + 0 ≤ _)⟩)
  dsimp only [Pt.U, Pt.locs, Pt.cells, Pt.slots] at X16 l16 y16 z16 st16 hQ16
  subst l16 y16 z16
  obtain ⟨rfl, Nq16, K16q, p16_0, p16_1, p16_2, p16_3, p16_4, p16_5⟩ := hQ16
  have N16 := Fr.app N2 Nq16
  have O17 : Old Z n0 T16.heap := O3.keep K16q (allS P19 all0)
  have K17 : Keep h0 T16.heap [a4, a3, a1] := K3.trans K16q (allS (Or.inl (List.mem_of_getElem? (i := 2) rfl)) all0)
  have f18 : Fld Z T16.heap a6 s16n "owner" s5n (.ref a8) := (f6.keep K16q (ninS (Ne.symm P26) nin0))
  obtain ⟨T19, X19, e19, st19⟩ := own_getR X16 hx hZ hown (ow hw 188 rfl) rfl f18 (g := (mkF m 38 #[(vr a1), (vr a6)] [(.ref a6)])) rfl rfl (hb hby d12_38)
  have f20 : Exa Z T16.heap a4 s8n := (p2_0.keep K16q)
  have f21 : Arv Z T16.heap a4 k5 (.object s9n) (17 : Int32) ([.null, .null, .null, .null, .null, .null, .null, .null, .null, .null, .null, .null, .null, .null, .null, .null, .null]) .null := (p2_1.keep K16q (ninS (Ne.symm P25) nin0))
  have f22 : Exa Z T16.heap a3 s7n := (p2_3.keep K16q)
  have f23 : Fld Z T16.heap a3 s7n "elements" s8n (.ref a4) := (p2_4.keep K16q (ninS (Ne.symm P24) nin0))
  have f24 : Fld Z T16.heap a3 s7n "head" "I" (.int 1) := (p2_5.keep K16q (ninS (Ne.symm P24) nin0))
  have f25 : Fld Z T16.heap a3 s7n "tail" "I" (.int 1) := (p2_6.keep K16q (ninS (Ne.symm P24) nin0))
  obtain ⟨fs, hr, hrun, hended, hW, hsame⟩ := X19.leave (v := some (.ref a8)) (fun h => by rw [hret0] at h; cases h)
  refine ⟨_, _, pre0 _ ?_, hrun, hended, _, _, rfl, ?_, ⟨_, rfl⟩, hW, hsame.mono (by decide) (by decide)⟩
  · skip
    show Steps p.tables e below (s₁.setTop (mkF m 0 #[(vr a1), .unset] [])) _
    refine XS.aloadN X0.here hx rfl (hb hby d12_0) rfl rfl ?_
    refine st1 _ ?_
    refine st2.trans ?_
    refine st5 _ ?_
    refine XS.astoreN X5.here hx rfl (hb hby d12_12) rfl rfl (l' := #[(vr a1), (vr a6)]) rfl ?_
    show Steps p.tables e below (T5.setTop (mkF m 13 #[(vr a1), (vr a6)] [])) _
    refine XS.aloadN X5.here hx rfl (hb hby d12_13) rfl rfl ?_
    refine XS.ifnullNo X5.here hx rfl (hb hby d12_14) rfl ?_
    refine XS.aloadN X5.here hx rfl (hb hby d12_17) rfl rfl ?_
    refine XS.aloadN X5.here hx rfl (hb hby d12_18) rfl rfl ?_
    refine st7 _ ?_
    show Steps p.tables e below (T7.setTop (mkF m 22 #[(vr a1), (vr a6)] [(.ref a8), (.ref a1)])) _
    refine XS.aloadN X7.here hx rfl (hb hby d12_22) rfl rfl ?_
    refine st9 _ ?_
    refine st16.trans ?_
    refine XS.aloadN X16.here hx rfl (hb hby d12_29) rfl rfl ?_
    refine XS.ifnonnullYes X16.here hx rfl (pc0 := 30) (pc' := 37) rfl (hb hby d12_30) rfl (by decide) (by decide) ?_
    show Steps p.tables e below (T16.setTop (mkF m 37 #[(vr a1), (vr a6)] [])) _
    refine XS.aloadN X16.here hx rfl (hb hby d12_37) rfl rfl ?_
    refine st19 _ ?_
    jvm_step X19.here [X19.here.top, hx, (hb hby d12_41), X19.method', hret0, Value.isRef, FieldType.isReference]
    first | (intro acts; rw [hr _ acts rfl rfl rfl]) | rw [hr _ _ rfl rfl rfl]
    exact Steps.refl _
  · show Q_au12_4 Z wMAX_LOCK_DELAY wGRANTED wQUEUED wBUSY wZERO a1 qg2 a3 a4 k5 a6 a7 a8 h0 n0 _ T19.heap _
    rw [e19]
    exact ⟨rfl, N16, K17, f20, f21, p2_2, f22, f23, f24, f25, p16_0, p16_1, p16_2, p16_3, p16_4, p16_5⟩
theorem d32_19 : decode prog_84_method_16_code 19 = .ok (.astore_n 3, 1) := by decide +kernel
theorem d32_20 : decode prog_84_method_16_code 20 = .ok (.aload_n 3, 1) := by decide +kernel
theorem d32_21 : decode prog_84_method_16_code 21 = .ok (.areturn, 1) := by decide +kernel
def Q_au32_0 (Z : State) (wMAX_LOCK_DELAY : Addr) (wGRANTED : Addr) (wQUEUED : Addr) (wBUSY : Addr) (wZERO : Addr) (a1 : Addr) (a2 : Addr) (a3 : Addr) (k4 : ClassId) (a5 : Addr) (a6 : Addr) (a7 : Addr) (h0 : Heap) (n0 : Nat) (v : Option Value) (h : Heap) (L : List Loc) : Prop := v = some (.ref a7) ∧ Fr n0 L ∧ Keep h0 h [a1, a3, a2] ∧ Exa Z h a1 s4n ∧ Fld Z h a1 s4n "generation" "J" (.long 2) ∧ Fld Z h a1 s4n "heldBack" "Z" (.int 0) ∧ Fld Z h a1 s4n "holder" s5n (.ref a7) ∧ Fld Z h a1 s4n s10n s0n (.ref a6) ∧ Fld Z h a1 s4n "waiters" s11n (.ref a2) ∧ Exa Z h a3 s8n ∧ Arv Z h a3 k4 (.object s9n) (17 : Int32) ([.null, .null, .null, .null, .null, .null, .null, .null, .null, .null, .null, .null, .null, .null, .null, .null, .null]) .null ∧ Ovr Z k4 s9n ∧ Exa Z h a2 s7n ∧ Fld Z h a2 s7n "elements" s8n (.ref a3) ∧ Fld Z h a2 s7n "head" "I" (.int 1) ∧ Fld Z h a2 s7n "tail" "I" (.int 1)
theorem au32_0 (l : Launch) (Z : State) (a0 : Array Value) (hw : ∀ d ∈ tables_1, d.before a0 Z = true) (ws : List Jvm.Cond) (wMAX_LOCK_DELAY : Addr) (wGRANTED : Addr) (wQUEUED : Addr) (wBUSY : Addr) (wZERO : Addr) (hS : SS Z wMAX_LOCK_DELAY wGRANTED wQUEUED wBUSY wZERO) (a1 : Addr) (a2 : Addr) (a3 : Addr) (k4 : ClassId) (a5 : Addr) (a6 : Addr) (a7 : Addr) (h0 : Heap) (n0 : Nat) (O0 : Old Z n0 h0) (P0 : Exa Z h0 a1 s4n) (P1 : Fld Z h0 a1 s4n "generation" "J" (.long 1)) (P2 : Fld Z h0 a1 s4n "heldBack" "Z" (.int 1)) (P3 : Fld Z h0 a1 s4n "holder" s5n .null) (P4 : Fld Z h0 a1 s4n s10n s0n (.ref wMAX_LOCK_DELAY)) (P5 : Fld Z h0 a1 s4n "waiters" s11n (.ref a2)) (P6 : Exa Z h0 a2 s7n) (P7 : Fld Z h0 a2 s7n "elements" s8n (.ref a3)) (P8 : Fld Z h0 a2 s7n "head" "I" (.int 0)) (P9 : Fld Z h0 a2 s7n "tail" "I" (.int 1)) (P10 : Arv Z h0 a3 k4 (.object s9n) (17 : Int32) ([(.ref a5), .null, .null, .null, .null, .null, .null, .null, .null, .null, .null, .null, .null, .null, .null, .null, .null]) .null) (P11 : Ovr Z k4 s9n) (P12 : Exa Z h0 a3 s8n) (P13 : Exa Z h0 a5 s16n) (P14 : Fld Z h0 a5 s16n "lockDelay" s0n (.ref a6)) (P15 : Fld Z h0 a5 s16n "owner" s5n (.ref a7)) (P19 : n0 ≤ a1) (P20 : n0 ≤ a2) (P21 : n0 ≤ a3) (P24 : a1 ≠ a2) (P25 : a1 ≠ a3) (P26 : a1 ≠ a5) (P29 : a2 ≠ a3) (P30 : a2 ≠ a5) (P33 : a3 ≠ a5) :
    MetB l M36 prog_84_method_16_code 4 (some (.object s3n)) ws (rmk 4 0 0 54) Z h0 #[(.ref a1), (.long 1)] (Q_au32_0 Z wMAX_LOCK_DELAY wGRANTED wQUEUED wBUSY wZERO a1 a2 a3 k4 a5 a6 a7 h0 n0) := by
  refine own_body (plainFor_of_name pn_com_example_umpired_umpired_server_NodeLock) ?_
  intro p e s m below meth c s₁ hx hby hml hown hnm hret0 hlk0 hZ X0 e0
  have N0 := Fr.nil n0
  have pre0 : ∀ t, Steps p.tables e below (s₁.setTop (mkF m 0 #[(vr a1), (vl 1), .second, .unset] [])) t → Steps p.tables e below (s₁.setTop (entryFrame m #[(.ref a1), (.long 1)] 4)) t := fun t k => castTop (ef_au32_0 m a1 (1 : Int64)) k
  have K0 := Keep.refl h0 [a1, a3, a2]
  have hS0 := hS
  obtain ⟨S_wMAX_LOCK_DELAY, E_wMAX_LOCK_DELAY, S_wGRANTED, E_wGRANTED, S_wQUEUED, E_wQUEUED, S_wBUSY, E_wBUSY, F_seconds_wMAX_LOCK_DELAY, F_nanos_wMAX_LOCK_DELAY, S_wZERO, E_wZERO, F_seconds_wZERO, F_nanos_wZERO⟩ := hS0
  obtain ⟨cq1, kq1, q1a, q1b, q1c⟩ := isOf hZ e0 P0
  obtain ⟨_, _, ⟨T1, L1, k1, n1⟩, -, X1, ⟨Lc1, hQ1, l1, y1, z1⟩, st1⟩ := X0.virtualBack hx (y := M35) (z := M35) hown (mvT hZ (ow hw 233 rfl)) (mvT hZ (ow hw 234 rfl)) (notFace_of_selects (args := #[]) (mvT hZ (ow hw 236 rfl))) (mvT hZ (ow hw 236 rfl)) (mvT hZ (ow hw 235 rfl)) (by decide) (backOf (W := 0) (au33_0 l Z a0 hw [] wMAX_LOCK_DELAY wGRANTED wQUEUED wBUSY wZERO hS a1 h0 n0 O0 P1 P2) hZ (ow hw 237 rfl) (ow hw 2 rfl) (by decide) (by decide)) q1a q1c (g := (mkF m 4 #[(vr a1), (vl 1), .second, .val .null] [(.long 1), (.ref a1)])) rfl (by rw [hml]; rfl) (Steps.refl _) (argsL := [(.long 1)]) (rest := []) (lenOf pd_3 rfl) rfl (by show 2 * 0 + _ ≤ _; exact Nat.le_of_eq rfl) (hb hby d32_4) (fun _ _ => ⟨rfl, e0, (by decide : 0 + 0 ≤ _), (by decide : 0 + 0 ≤ _)⟩)
  dsimp only [Pt.U, Pt.locs, Pt.cells, Pt.slots] at X1 l1 y1 z1 st1 hQ1
  subst l1 y1 z1
  obtain ⟨rfl, Nq1, K1q⟩ := hQ1
  have N1 := Fr.app N0 Nq1
  obtain ⟨T2, h2, X2, e2, W2, st2⟩ := putFN X1 hx hZ hown (ow hw 68 rfl) Via.refl K1q P2 P0 (Or.inl (ow hw 69 rfl)) (ow hw 1 rfl) (ty := .boolean) (v' := (.int 0)) (by decide) rfl rfl (g := (mkF m 12 #[(vr a1), (vl 1), .second, .val .null] [(.int 0), (.ref a1)])) rfl rfl (hb hby d32_12)
  have N2 := Fr.snoc X2 N1 P19
  have O3 : Old Z n0 h2 := O0.wr W2 P19
  have K3 : Keep h0 h2 [a1, a3, a2] := K0.wr W2 (Or.inl (List.mem_of_getElem? (i := 0) rfl))
  have Fw2 : Fld Z h2 a1 s4n "heldBack" "Z" (.int 0) := P2.same W2
  have f4 : Exa Z h2 a1 s4n := (P0.wr W2)
  have f5 : Fld Z h2 a1 s4n "generation" "J" (.long 1) := (P1.other W2 (Or.inr (slot_ne (Or.inl (ow hw 75 rfl)) (Or.inl (ow hw 69 rfl)) (by decide) (t := .long) (t' := .boolean) (by decide) (by decide))))
  have f6 : Fld Z h2 a1 s4n "holder" s5n .null := (P3.other W2 (Or.inr (slot_ne (Or.inl (ow hw 52 rfl)) (Or.inl (ow hw 69 rfl)) (by decide) (t := (.object s3n)) (t' := .boolean) (by decide) (by decide))))
  have f7 : Fld Z h2 a1 s4n s10n s0n (.ref wMAX_LOCK_DELAY) := (P4.other W2 (Or.inr (slot_ne (Or.inl (ow hw 31 rfl)) (Or.inl (ow hw 69 rfl)) (by decide) (t := (.object s1n)) (t' := .boolean) (by decide) (by decide))))
  have f8 : Fld Z h2 a1 s4n "waiters" s11n (.ref a2) := (P5.other W2 (Or.inr (slot_ne (Or.inr (ow hw 27 rfl)) (Or.inl (ow hw 69 rfl)) (by decide) (t := (.object s12n)) (t' := .boolean) (by decide) (by decide))))
  have f9 : Exa Z h2 a2 s7n := (P6.wr W2)
  have f10 : Fld Z h2 a2 s7n "elements" s8n (.ref a3) := (P7.other W2 (Or.inl (Ne.symm P24)))
  have f11 : Fld Z h2 a2 s7n "head" "I" (.int 0) := (P8.other W2 (Or.inl (Ne.symm P24)))
  have f12 : Fld Z h2 a2 s7n "tail" "I" (.int 1) := (P9.other W2 (Or.inl (Ne.symm P24)))
  have f13 : Arv Z h2 a3 k4 (.object s9n) (17 : Int32) ([(.ref a5), .null, .null, .null, .null, .null, .null, .null, .null, .null, .null, .null, .null, .null, .null, .null, .null]) .null := (P10.other W2 (Ne.symm P25))
  have f14 : Exa Z h2 a3 s8n := (P12.wr W2)
  have f15 : Exa Z h2 a5 s16n := (P13.wr W2)
  have f16 : Fld Z h2 a5 s16n "lockDelay" s0n (.ref a6) := (P14.other W2 (Or.inl (Ne.symm P26)))
  have f17 : Fld Z h2 a5 s16n "owner" s5n (.ref a7) := (P15.other W2 (Or.inl (Ne.symm P26)))
  obtain ⟨cq18, q18, q18'⟩ := f4.cell
  obtain ⟨_, _, ⟨T18, L18, k18, n18⟩, -, X18, ⟨Lc18, hQ18, l18, y18, z18⟩, st18⟩ := X2.privateBack hx (y := M12) hown (mvT hZ (ow hw 84 rfl)) (mvT hZ (ow hw 85 rfl)) (own_selp (mvT hZ (ow hw 1 rfl)) (mvP hZ (ow hw 86 rfl)) (mvT hZ (ow hw 85 rfl)) (by decide)) (Cond.privateMethod_at (mvP hZ (ow hw 86 rfl) (args := #[]))) (mvT hZ (ow hw 87 rfl)) (by decide) (backOf (W := 0) (au12_4 l Z a0 hw [] wMAX_LOCK_DELAY wGRANTED wQUEUED wBUSY wZERO hS a1 (1 : Int64) a2 a3 k4 a5 a6 a7 h2 n0 O3 f4 f5 Fw2 f6 f7 f8 f9 f10 f11 f12 f13 P11 f14 f15 f16 f17 P19 P20 P21 P24 P25 P26 P29 P30 P33) hZ (ow hw 87 rfl) (ow hw 2 rfl) (by decide) (by decide)) (g := (mkF m 16 #[(vr a1), (vl 1), .second, .val .null] [(.ref a1)])) rfl (by rw [hml]; rfl) (Steps.refl _) (a := a1) (by rw [e2]; exact q18) q18' (argsL := []) (rest := []) (lenOf pd_9 rfl) rfl (by show 2 * 0 + _ ≤ _; exact Nat.le_of_eq rfl) (hb hby d32_16) (fun _ _ => ⟨rfl, e2, (by decide : 0 + 0 ≤ _), (by decide : 0 + 0 ≤ _)⟩)
  dsimp only [Pt.U, Pt.locs, Pt.cells, Pt.slots] at X18 l18 y18 z18 st18 hQ18
  subst l18 y18 z18
  obtain ⟨rfl, Nq18, K18q, p18_0, p18_1, p18_2, p18_3, p18_4, p18_5, p18_6, p18_7, p18_8, p18_9, p18_10, p18_11, p18_12⟩ := hQ18
  have N18 := Fr.app N2 Nq18
  have O19 : Old Z n0 T18.heap := O3.keep K18q (allS P21 (allS P20 (allS P19 all0)))
  have K19 : Keep h0 T18.heap [a1, a3, a2] := K3.trans K18q (allS (Or.inl (List.mem_of_getElem? (i := 1) rfl)) (allS (Or.inl (List.mem_of_getElem? (i := 2) rfl)) (allS (Or.inl (List.mem_of_getElem? (i := 0) rfl)) all0)))
  have p18_8f : Fld Z T18.heap a1 s4n "generation" "J" (.long 2) := by have q := p18_8; rw [(by decide : ((1 : Int64) + (1 : Int64)) = (2 : Int64))] at q; exact q
  obtain ⟨fs, hr, hrun, hended, hW, hsame⟩ := X18.leave (v := some (.ref a7)) (fun h => by rw [hret0] at h; cases h)
  refine ⟨_, _, pre0 _ ?_, hrun, hended, _, _, rfl, ?_, ⟨_, rfl⟩, hW, hsame.mono (by decide) (by decide)⟩
  · skip
    show Steps p.tables e below (s₁.setTop (mkF m 0 #[(vr a1), (vl 1), .second, .unset] [])) _
    refine XS.aconstNull X0.here hx rfl (hb hby d32_0) ?_
    refine XS.astoreN X0.here hx rfl (hb hby d32_1) rfl rfl (l' := #[(vr a1), (vl 1), .second, .val .null]) rfl ?_
    refine XS.aloadN X0.here hx rfl (hb hby d32_2) rfl rfl ?_
    refine XS.lloadN X0.here hx rfl (hb hby d32_3) rfl ?_
    refine st1.trans ?_
    show Steps p.tables e below (T1.setTop (mkF m 7 #[(vr a1), (vl 1), .second, .val .null] [(.int 1)])) _
    refine XS.ifNo X1.here hx rfl (hb hby d32_7) rfl ((if0 _ _).trans (feq (by decide : ¬ ((1 : Int32) = (0 : Int32)))).1) ?_
    refine XS.aloadN X1.here hx rfl (hb hby d32_10) rfl rfl ?_
    refine XS.iconst X1.here hx rfl (hb hby d32_11) ?_
    refine st2 _ ?_
    refine XS.aloadN X2.here hx rfl (hb hby d32_15) rfl rfl ?_
    show Steps p.tables e below (T2.setTop (mkF m 16 #[(vr a1), (vl 1), .second, .val .null] [(.ref a1)])) _
    refine st18.trans ?_
    refine XS.astoreN X18.here hx rfl (hb hby d32_19) rfl rfl (l' := #[(vr a1), (vl 1), .second, (vr a7)]) rfl ?_
    refine XS.aloadN X18.here hx rfl (hb hby d32_20) rfl rfl ?_
    jvm_step X18.here [X18.here.top, hx, (hb hby d32_21), X18.method', hret0, Value.isRef, FieldType.isReference]
    first | (intro acts; rw [hr _ acts rfl rfl rfl]) | rw [hr _ _ rfl rfl rfl]
    exact Steps.refl _
  · show Q_au32_0 Z wMAX_LOCK_DELAY wGRANTED wQUEUED wBUSY wZERO a1 a2 a3 k4 a5 a6 a7 h0 n0 _ T18.heap _
    exact ⟨rfl, N18, K19, p18_7, p18_8f, p18_9, p18_10, p18_11, p18_12, p18_0, p18_1, p18_2, p18_3, p18_4, p18_5, p18_6⟩
theorem pd_20 : parseMethodDescriptor "(J)Lcom/example/umpired/umpired/server/SessionHandle;" = some ⟨[.long], some (.object "com/example/umpired/umpired/server/SessionHandle")⟩ := by decide +kernel
theorem ef_au32_1 (m : MethodId) (x0 : Addr) (x1 : Int64)  : entryFrame m #[(.ref x0), (.long x1)] 4 = mkF m 0 #[(vr x0), (vl x1), .second, .unset] [] := by first | (simp [entryFrame, mkF, argsToLocals, Value.category]; done) | rfl
theorem ef_au33_1 (m : MethodId) (x0 : Addr) (x1 : Int64)  : entryFrame m #[(.ref x0), (.long x1)] 3 = mkF m 0 #[(vr x0), (vl x1), .second] [] := by first | (simp [entryFrame, mkF, argsToLocals, Value.category]; done) | rfl
theorem d33_20 : decode prog_84_method_10_code 20 = .ok (.iconst 0, 1) := by decide +kernel
def Q_au33_1 (Z : State) (wMAX_LOCK_DELAY : Addr) (wGRANTED : Addr) (wQUEUED : Addr) (wBUSY : Addr) (wZERO : Addr) (a1 : Addr) (h0 : Heap) (n0 : Nat) (v : Option Value) (h : Heap) (L : List Loc) : Prop := v = some (.int 0) ∧ Fr n0 L ∧ h = h0
theorem au33_1 (l : Launch) (Z : State) (a0 : Array Value) (hw : ∀ d ∈ tables_1, d.before a0 Z = true) (ws : List Jvm.Cond) (wMAX_LOCK_DELAY : Addr) (wGRANTED : Addr) (wQUEUED : Addr) (wBUSY : Addr) (wZERO : Addr) (hS : SS Z wMAX_LOCK_DELAY wGRANTED wQUEUED wBUSY wZERO) (a1 : Addr) (h0 : Heap) (n0 : Nat) (O0 : Old Z n0 h0) (P1 : Fld Z h0 a1 s4n "generation" "J" (.long 1)) (P2 : Fld Z h0 a1 s4n "heldBack" "Z" (.int 1)) :
    MetB l M35 prog_84_method_10_code 3 (some .boolean) ws (rmk 0 0 0 0) Z h0 #[(.ref a1), (.long 2)] (Q_au33_1 Z wMAX_LOCK_DELAY wGRANTED wQUEUED wBUSY wZERO a1 h0 n0) := by
  refine own_body (plainFor_of_name pn_com_example_umpired_umpired_server_NodeLock) ?_
  intro p e s m below meth c s₁ hx hby hml hown hnm hret0 hlk0 hZ X0 e0
  have N0 := Fr.nil n0
  have pre0 : ∀ t, Steps p.tables e below (s₁.setTop (mkF m 0 #[(vr a1), (vl 2), .second] [])) t → Steps p.tables e below (s₁.setTop (entryFrame m #[(.ref a1), (.long 2)] 3)) t := fun t k => castTop (ef_au33_1 m a1 (2 : Int64)) k
  have hS0 := hS
  obtain ⟨S_wMAX_LOCK_DELAY, E_wMAX_LOCK_DELAY, S_wGRANTED, E_wGRANTED, S_wQUEUED, E_wQUEUED, S_wBUSY, E_wBUSY, F_seconds_wMAX_LOCK_DELAY, F_nanos_wMAX_LOCK_DELAY, S_wZERO, E_wZERO, F_seconds_wZERO, F_nanos_wZERO⟩ := hS0
  obtain ⟨T1, X1, e1, st1⟩ := getF X0 hx hZ hown (host := "") (Or.inl (ow hw 68 rfl)) Via.refl e0 P2 (g := (mkF m 1 #[(vr a1), (vl 2), .second] [(.ref a1)])) rfl rfl (hb hby d33_1)
  obtain ⟨T2, X2, e2, st2⟩ := getF X1 hx hZ hown (host := "") (Or.inl (ow hw 74 rfl)) Via.refl e1 P1 (g := (mkF m 8 #[(vr a1), (vl 2), .second] [(.ref a1)])) rfl rfl (hb hby d33_8)
  obtain ⟨fs, hr, hrun, hended, hW, hsame⟩ := X2.leave (v := some (.int 0)) (fun h => by rw [hret0] at h; cases h)
  refine ⟨_, _, pre0 _ ?_, hrun, hended, _, _, rfl, ?_, ⟨_, rfl⟩, hW, hsame.mono (by decide) (by decide)⟩
  · skip
    show Steps p.tables e below (s₁.setTop (mkF m 0 #[(vr a1), (vl 2), .second] [])) _
    refine XS.aloadN X0.here hx rfl (hb hby d33_0) rfl rfl ?_
    refine st1 _ ?_
    refine XS.ifNo X1.here hx rfl (hb hby d33_4) rfl ((if0 _ _).trans (feq (by decide : ¬ ((1 : Int32) = (0 : Int32)))).1) ?_
    refine XS.aloadN X1.here hx rfl (hb hby d33_7) rfl rfl ?_
    refine st2 _ ?_
    show Steps p.tables e below (T2.setTop (mkF m 11 #[(vr a1), (vl 2), .second] [(.long 1)])) _
    refine XS.lloadN X2.here hx rfl (hb hby d33_11) rfl ?_
    refine XS.lcmp X2.here hx rfl (hb hby d33_12) rfl ?_
    refine XS.ifYes X2.here hx rfl (pc0 := 13) (pc' := 20) rfl (hb hby d33_13) rfl ((if0 _ _).trans (feq (by decide : ¬ ((lcmpW (1 : Int64) (2 : Int64)) = (0 : Int32)))).2) (by decide) (by decide) ?_
    refine XS.iconst X2.here hx rfl (hb hby d33_20) ?_
    exact retN X2 hx (t := .boolean) hret0 (by simp) (hb hby d33_21) hr
  · show Q_au33_1 Z wMAX_LOCK_DELAY wGRANTED wQUEUED wBUSY wZERO a1 h0 n0 _ T2.heap _
    rw [e2]
    exact ⟨rfl, N0, rfl⟩
def Q_au32_1 (Z : State) (wMAX_LOCK_DELAY : Addr) (wGRANTED : Addr) (wQUEUED : Addr) (wBUSY : Addr) (wZERO : Addr) (a1 : Addr) (h0 : Heap) (n0 : Nat) (v : Option Value) (h : Heap) (L : List Loc) : Prop := v = some .null ∧ Fr n0 L ∧ h = h0
theorem au32_1 (l : Launch) (Z : State) (a0 : Array Value) (hw : ∀ d ∈ tables_1, d.before a0 Z = true) (ws : List Jvm.Cond) (wMAX_LOCK_DELAY : Addr) (wGRANTED : Addr) (wQUEUED : Addr) (wBUSY : Addr) (wZERO : Addr) (hS : SS Z wMAX_LOCK_DELAY wGRANTED wQUEUED wBUSY wZERO) (a1 : Addr) (h0 : Heap) (n0 : Nat) (O0 : Old Z n0 h0) (P0 : Exa Z h0 a1 s4n) (P1 : Fld Z h0 a1 s4n "generation" "J" (.long 1)) (P2 : Fld Z h0 a1 s4n "heldBack" "Z" (.int 1)) :
    MetB l M36 prog_84_method_16_code 4 (some (.object s3n)) ws (rmk 1 0 0 14) Z h0 #[(.ref a1), (.long 2)] (Q_au32_1 Z wMAX_LOCK_DELAY wGRANTED wQUEUED wBUSY wZERO a1 h0 n0) := by
  refine own_body (plainFor_of_name pn_com_example_umpired_umpired_server_NodeLock) ?_
  intro p e s m below meth c s₁ hx hby hml hown hnm hret0 hlk0 hZ X0 e0
  have N0 := Fr.nil n0
  have pre0 : ∀ t, Steps p.tables e below (s₁.setTop (mkF m 0 #[(vr a1), (vl 2), .second, .unset] [])) t → Steps p.tables e below (s₁.setTop (entryFrame m #[(.ref a1), (.long 2)] 4)) t := fun t k => castTop (ef_au32_1 m a1 (2 : Int64)) k
  have hS0 := hS
  obtain ⟨S_wMAX_LOCK_DELAY, E_wMAX_LOCK_DELAY, S_wGRANTED, E_wGRANTED, S_wQUEUED, E_wQUEUED, S_wBUSY, E_wBUSY, F_seconds_wMAX_LOCK_DELAY, F_nanos_wMAX_LOCK_DELAY, S_wZERO, E_wZERO, F_seconds_wZERO, F_nanos_wZERO⟩ := hS0
  obtain ⟨cq1, kq1, q1a, q1b, q1c⟩ := isOf hZ e0 P0
  obtain ⟨_, _, ⟨T1, L1, k1, n1⟩, -, X1, ⟨Lc1, hQ1, l1, y1, z1⟩, st1⟩ := X0.virtualBack hx (y := M35) (z := M35) hown (mvT hZ (ow hw 233 rfl)) (mvT hZ (ow hw 234 rfl)) (notFace_of_selects (args := #[]) (mvT hZ (ow hw 236 rfl))) (mvT hZ (ow hw 236 rfl)) (mvT hZ (ow hw 235 rfl)) (by decide) (backOf (W := 0) (au33_1 l Z a0 hw [] wMAX_LOCK_DELAY wGRANTED wQUEUED wBUSY wZERO hS a1 h0 n0 O0 P1 P2) hZ (ow hw 237 rfl) (ow hw 2 rfl) (by decide) (by decide)) q1a q1c (g := (mkF m 4 #[(vr a1), (vl 2), .second, .val .null] [(.long 2), (.ref a1)])) rfl (by rw [hml]; rfl) (Steps.refl _) (argsL := [(.long 2)]) (rest := []) (lenOf pd_3 rfl) rfl (by show 2 * 0 + _ ≤ _; exact Nat.le_of_eq rfl) (hb hby d32_4) (fun _ _ => ⟨rfl, e0, (by decide : 0 + 0 ≤ _), (by decide : 0 + 0 ≤ _)⟩)
  dsimp only [Pt.U, Pt.locs, Pt.cells, Pt.slots] at X1 l1 y1 z1 st1 hQ1
  subst l1 y1 z1
  obtain ⟨rfl, Nq1, K1q⟩ := hQ1
  have N1 := Fr.app N0 Nq1
  obtain ⟨fs, hr, hrun, hended, hW, hsame⟩ := X1.leave (v := some .null) (fun h => by rw [hret0] at h; cases h)
  refine ⟨_, _, pre0 _ ?_, hrun, hended, _, _, rfl, ?_, ⟨_, rfl⟩, hW, hsame.mono (by decide) (by decide)⟩
  · skip
    show Steps p.tables e below (s₁.setTop (mkF m 0 #[(vr a1), (vl 2), .second, .unset] [])) _
    refine XS.aconstNull X0.here hx rfl (hb hby d32_0) ?_
    refine XS.astoreN X0.here hx rfl (hb hby d32_1) rfl rfl (l' := #[(vr a1), (vl 2), .second, .val .null]) rfl ?_
    refine XS.aloadN X0.here hx rfl (hb hby d32_2) rfl rfl ?_
    refine XS.lloadN X0.here hx rfl (hb hby d32_3) rfl ?_
    refine st1.trans ?_
    show Steps p.tables e below (T1.setTop (mkF m 7 #[(vr a1), (vl 2), .second, .val .null] [(.int 0)])) _
    refine XS.ifYes X1.here hx rfl (pc0 := 7) (pc' := 20) rfl (hb hby d32_7) rfl ((if0 _ _).trans (teq (by decide : (0 : Int32) = (0 : Int32))).1) (by decide) (by decide) ?_
    refine XS.aloadN X1.here hx rfl (hb hby d32_20) rfl rfl ?_
    jvm_step X1.here [X1.here.top, hx, (hb hby d32_21), X1.method', hret0, Value.isRef, FieldType.isReference]
    first | (intro acts; rw [hr _ acts rfl rfl rfl]) | rw [hr _ _ rfl rfl rfl]
    exact Steps.refl _
  · show Q_au32_1 Z wMAX_LOCK_DELAY wGRANTED wQUEUED wBUSY wZERO a1 h0 n0 _ T1.heap _
    rw [K1q]
    exact ⟨rfl, N1, rfl⟩
theorem tl_tl_rm0_d_m5 {p : Program} {l : Launch} {e : Env} {s : State} {m : MethodId} {below : List Frame} {meth : Method} {c : Code} {T0 : State} {locs : List Loc} {Z : State} {a0 : Array Value} {h0 : Heap} {n0 : Nat} {margs : Array Value} (hw : ∀ d ∈ tables_1, d.before a0 Z = true) (wMAX_LOCK_DELAY : Addr) (wGRANTED : Addr) (wQUEUED : Addr) (wBUSY : Addr) (wZERO : Addr) (hS : SS Z wMAX_LOCK_DELAY wGRANTED wQUEUED wBUSY wZERO) (p1 : Int32) (p2 : Int32) (q3 : Int64) (q4 : Int64) (q5 : Int64) (q6 : Int64) (p7 : Int32) (p8 : Int32) (p9 : Int32) (p10 : Int32) (a11 : Addr) (a12 : Addr) (a13 : Addr) (a14 : Addr) (a15 : Addr) (q16 : Int64) (a17 : Addr) (k18 : ClassId)
    (X0 : Stand p l e room_1 s m margs below meth c T0 locs 5 29) (hx : p.tables.exec = Jvm.exec) (hZ : Z.Warmed39 s.vm) (hby : c.code = code) (hml : c.maxLocals = 22) (hown : s.vm.findClass s6n = some m.cls) (hnm : meth.name = "law") (hret0 : meth.sig.returnType = some .boolean) (hlk0 : meth.locks = false) (e0 : T0.heap = h0) (N0 : Fr n0 locs) (O0 : Old Z n0 h0) (P0 : Exa Z h0 a11 s4n) (P1 : Fld Z h0 a11 s4n "generation" "J" (.long 0)) (P2 : Fld Z h0 a11 s4n "heldBack" "Z" (.int 0)) (P3 : Fld Z h0 a11 s4n "holder" s5n .null) (P4 : Fld Z h0 a11 s4n s10n s0n (.ref wZERO)) (P5 : Fld Z h0 a11 s4n "waiters" s11n (.ref a15)) (P6 : Exa Z h0 a13 s3n) (P8 : Fld Z h0 a13 s3n "session" "J" (.long q3)) (P9 : Exa Z h0 a14 s3n) (P11 : Fld Z h0 a14 s3n "session" "J" (.long q16)) (P12 : Exa Z h0 a15 s7n) (P13 : Fld Z h0 a15 s7n "elements" s8n (.ref a17)) (P14 : Fld Z h0 a15 s7n "head" "I" (.int 0)) (P15 : Fld Z h0 a15 s7n "tail" "I" (.int 0)) (P16 : Arv Z h0 a17 k18 (.object s9n) (17 : Int32) ([.null, .null, .null, .null, .null, .null, .null, .null, .null, .null, .null, .null, .null, .null, .null, .null, .null]) .null) (P17 : Ovr Z k18 s9n) (P18 : Exa Z h0 a17 s8n) (P21 : p8 = (0 : Int32) ∨ p8 = (1 : Int32)) (P23 : q3 ≠ q16) (P24 : q16 ≠ q3) (P25 : n0 ≤ a11) (P28 : n0 ≤ a15) (P29 : n0 ≤ a17) (P31 : a11 ≠ a13) (P32 : a11 ≠ a14) (P33 : a11 ≠ a15) (P34 : a11 ≠ a17) (P40 : a13 ≠ a15) (P41 : a13 ≠ a17) (P42 : a14 ≠ a15) (P43 : a14 ≠ a17) (P44 : a15 ≠ a17) :
    ∃ s₂ o, Steps p.tables e below (T0.setTop (mkF m 271 #[(vi p1), (vi p2), (vl q3), .second, (vl q4), .second, (vl q5), .second, (vl q6), .second, (vi p7), (vi p8), (vi p9), (vi p10), (vr a11), (vr a12), (vr a13), (vr a14), .unset, .unset, .unset, .unset] [])) s₂ ∧ s₂.status = .running ∧ Ended s₂ below o ∧ ∃ v L, o = .returned v ∧ (v = some (.int 1) ∧ Fr n0 L) ∧ FrameEnd s o s₂ L room_1.cells room_1.slots := by
  have pre0 : ∀ t, Steps p.tables e below (T0.setTop (mkF m 271 #[(vi p1), (vi p2), (vl q3), .second, (vl q4), .second, (vl q5), .second, (vl q6), .second, (vi p7), (vi p8), (vi p9), (vi p10), (vr a11), (vr a12), (vr a13), (vr a14), .unset, .unset, .unset, .unset] [])) t → Steps p.tables e below (T0.setTop (mkF m 271 #[(vi p1), (vi p2), (vl q3), .second, (vl q4), .second, (vl q5), .second, (vl q6), .second, (vi p7), (vi p8), (vi p9), (vi p10), (vr a11), (vr a12), (vr a13), (vr a14), .unset, .unset, .unset, .unset] [])) t := fun t k => k
  have hS0 := hS
  obtain ⟨S_wMAX_LOCK_DELAY, E_wMAX_LOCK_DELAY, S_wGRANTED, E_wGRANTED, S_wQUEUED, E_wQUEUED, S_wBUSY, E_wBUSY, F_seconds_wMAX_LOCK_DELAY, F_nanos_wMAX_LOCK_DELAY, S_wZERO, E_wZERO, F_seconds_wZERO, F_nanos_wZERO⟩ := hS0
  rcases (id (P21)) with hk1 | hk1
  · skip
    have pre2 : ∀ t, Steps p.tables e below (T0.setTop (mkF m 271 #[(vi p1), (vi p2), (vl q3), .second, (vl q4), .second, (vl q5), .second, (vl q6), .second, (vi p7), (vi 0), (vi p9), (vi p10), (vr a11), (vr a12), (vr a13), (vr a14), .unset, .unset, .unset, .unset] [])) t → Steps p.tables e below (T0.setTop (mkF m 271 #[(vi p1), (vi p2), (vl q3), .second, (vl q4), .second, (vl q5), .second, (vl q6), .second, (vi p7), (vi p8), (vi p9), (vi p10), (vr a11), (vr a12), (vr a13), (vr a14), .unset, .unset, .unset, .unset] [])) t := by
      intro t k
      refine pre0 t ?_
      rw [hk1]
      exact k
    obtain ⟨T3, X3, e3, st3⟩ := getS2 X0 hx hZ hown (host := "") (Or.inl (ow hw 32 rfl)) Via.refl e0 (S_wMAX_LOCK_DELAY.ext O0.2) (g := (mkF m 275 #[(vi p1), (vi p2), (vl q3), .second, (vl q4), .second, (vl q5), .second, (vl q6), .second, (vi p7), (vi 0), (vi p9), (vi p10), (vr a11), (vr a12), (vr a13), (vr a14), .unset, .unset, .unset, .unset] [(.ref a13), (.ref a11)])) rfl (hb hby at_275)
    obtain ⟨cq4, kq4, q4a, q4b, q4c⟩ := isOf hZ e3 P0
    obtain ⟨_, _, ⟨T4, L4, k4, n4⟩, -, X4, ⟨Lc4, hQ4, l4, y4, z4⟩, st4⟩ := X3.virtualBack hx (y := M8) (z := M8) hown (mvT hZ (ow hw 58 rfl)) (mvT hZ (ow hw 59 rfl)) (notFace_of_selects (args := #[]) (mvT hZ (ow hw 61 rfl))) (mvT hZ (ow hw 61 rfl)) (mvT hZ (ow hw 60 rfl)) (by decide) (backOf (W := 0) (au8_0 l Z a0 hw [] wMAX_LOCK_DELAY wGRANTED wQUEUED wBUSY wZERO hS a11 a13 wMAX_LOCK_DELAY p10 (0 : Int64) a15 h0 n0 O0 P0 P1 P2 P3 P4 P5 P6 P25) hZ (ow hw 62 rfl) (ow hw 2 rfl) (by decide) (by decide)) q4a q4c (g := (mkF m 280 #[(vi p1), (vi p2), (vl q3), .second, (vl q4), .second, (vl q5), .second, (vl q6), .second, (vi p7), (vi 0), (vi p9), (vi p10), (vr a11), (vr a12), (vr a13), (vr a14), .unset, .unset, .unset, .unset] [(.int p10), (.ref wMAX_LOCK_DELAY), (.ref a13), (.ref a11)])) rfl (by rw [hml]; rfl) (Steps.refl _) (argsL := [(.ref a13), (.ref wMAX_LOCK_DELAY), (.int p10)]) (rest := []) (lenOf pd_6 rfl) rfl (by show 2 * 0 + _ ≤ _; exact Nat.le_of_eq rfl) (hb hby at_280) (fun _ _ => ⟨rfl, e3, (by decide : 5 + 0 ≤ _), (by decide : 29 + 0 ≤ _)⟩)
    dsimp only [Pt.U, Pt.locs, Pt.cells, Pt.slots] at X4 l4 y4 z4 st4 hQ4
    subst l4 y4 z4
    obtain ⟨rfl, Nq4, K4q, p4_0, p4_1, p4_2, p4_3, p4_4, p4_5⟩ := hQ4
    have N4 := Fr.app N0 Nq4
    have O5 : Old Z n0 T4.heap := O0.keep K4q (allS P25 all0)
    have p4_1f : Fld Z T4.heap a11 s4n "generation" "J" (.long 1) := by have q := p4_1; rw [(by decide : ((0 : Int64) + (1 : Int64)) = (1 : Int64))] at q; exact q
    have f6 : Exa Z T4.heap a14 s3n := (P9.keep K4q)
    have f7 : Fld Z T4.heap a14 s3n "session" "J" (.long q16) := (P11.keep K4q (ninS (Ne.symm P32) nin0))
    have f8 : Exa Z T4.heap a13 s3n := (P6.keep K4q)
    have f9 : Fld Z T4.heap a13 s3n "session" "J" (.long q3) := (P8.keep K4q (ninS (Ne.symm P31) nin0))
    have f10 : Exa Z T4.heap a15 s7n := (P12.keep K4q)
    have f11 : Fld Z T4.heap a15 s7n "elements" s8n (.ref a17) := (P13.keep K4q (ninS (Ne.symm P33) nin0))
    have f12 : Fld Z T4.heap a15 s7n "head" "I" (.int 0) := (P14.keep K4q (ninS (Ne.symm P33) nin0))
    have f13 : Fld Z T4.heap a15 s7n "tail" "I" (.int 0) := (P15.keep K4q (ninS (Ne.symm P33) nin0))
    have f14 : Arv Z T4.heap a17 k18 (.object s9n) (17 : Int32) ([.null, .null, .null, .null, .null, .null, .null, .null, .null, .null, .null, .null, .null, .null, .null, .null, .null]) .null := (P16.keep K4q (ninS (Ne.symm P34) nin0))
    have f15 : Exa Z T4.heap a17 s8n := (P18.keep K4q)
    obtain ⟨cq16, kq16, q16a, q16b, q16c⟩ := isOf hZ rfl p4_0
    obtain ⟨_, _, ⟨T16, L16, k16, n16⟩, -, X16, ⟨Lc16, hQ16, l16, y16, z16⟩, st16⟩ := X4.virtualBack hx (y := M8) (z := M8) hown (mvT hZ (ow hw 58 rfl)) (mvT hZ (ow hw 59 rfl)) (notFace_of_selects (args := #[]) (mvT hZ (ow hw 61 rfl))) (mvT hZ (ow hw 61 rfl)) (mvT hZ (ow hw 60 rfl)) (by decide) (backOf (W := 0) (au8_2 l Z a0 hw [] wMAX_LOCK_DELAY wGRANTED wQUEUED wBUSY wZERO hS a11 a14 a12 a13 a15 q16 q3 a17 k18 T4.heap n0 O5 p4_0 p4_3 p4_5 f6 f7 f8 f9 f10 f11 f12 f13 f14 P17 f15 P24 P28 P29 P44) hZ (ow hw 62 rfl) (ow hw 2 rfl) (by decide) (by decide)) q16a q16c (g := (mkF m 291 #[(vi p1), (vi p2), (vl q3), .second, (vl q4), .second, (vl q5), .second, (vl q6), .second, (vi p7), (vi 0), (vi p9), (vi p10), (vr a11), (vr a12), (vr a13), (vr a14), .unset, .unset, .unset, .unset] [(.int 1), (.ref a12), (.ref a14), (.ref a11)])) rfl (by rw [hml]; rfl) (Steps.refl _) (argsL := [(.ref a14), (.ref a12), (.int 1)]) (rest := []) (lenOf pd_6 rfl) rfl (by show 2 * 0 + _ ≤ _; exact Nat.le_of_eq rfl) (hb hby at_291) (fun _ _ => ⟨rfl, rfl, (by decide : 5 + 2 ≤ _), (by decide : 29 + 6 ≤ _)⟩)
    dsimp only [Pt.U, Pt.locs, Pt.cells, Pt.slots] at X16 l16 y16 z16 st16 hQ16
    subst l16 y16 z16
    obtain ⟨e1_16, rfl, Nq16, K16q, p16_0, p16_1, p16_2, p16_3, p16_4, p16_5, p16_6, p16_7, p16_8, p16_9, p16_10⟩ := hQ16
    have N16 := Fr.app N4 Nq16
    have ne17 : a11 ≠ e1_16 := Nat.ne_of_lt (Nat.lt_of_lt_of_le p4_0.lt p16_7)
    have ne18 : a13 ≠ e1_16 := Nat.ne_of_lt (Nat.lt_of_lt_of_le f8.lt p16_7)
    have ne19 : a14 ≠ e1_16 := Nat.ne_of_lt (Nat.lt_of_lt_of_le f6.lt p16_7)
    have ne20 : a15 ≠ e1_16 := Nat.ne_of_lt (Nat.lt_of_lt_of_le f10.lt p16_7)
    have ne21 : a17 ≠ e1_16 := Nat.ne_of_lt (Nat.lt_of_lt_of_le f14.lt p16_7)
    have g22 : n0 ≤ e1_16 := Nat.le_trans (own_sz O5) p16_7
    have O23 : Old Z n0 T16.heap := O5.keep K16q (allS P29 (allS P28 all0))
    have f24 : Exa Z T16.heap a11 s4n := (p4_0.keep K16q)
    have f25 : Fld Z T16.heap a11 s4n "generation" "J" (.long 1) := (p4_1f.keep K16q (ninS P34 (ninS P33 nin0)))
    have f26 : Fld Z T16.heap a11 s4n "heldBack" "Z" (.int 0) := (p4_2.keep K16q (ninS P34 (ninS P33 nin0)))
    have f27 : Fld Z T16.heap a11 s4n "holder" s5n (.ref a13) := (p4_3.keep K16q (ninS P34 (ninS P33 nin0)))
    have f28 : Fld Z T16.heap a11 s4n s10n s0n (.ref wMAX_LOCK_DELAY) := (p4_4.keep K16q (ninS P34 (ninS P33 nin0)))
    have f29 : Fld Z T16.heap a11 s4n "waiters" s11n (.ref a15) := (p4_5.keep K16q (ninS P34 (ninS P33 nin0)))
    have f30 : Exa Z T16.heap a13 s3n := (f8.keep K16q)
    have f31 : Fld Z T16.heap a13 s3n "session" "J" (.long q3) := (f9.keep K16q (ninS P41 (ninS P40 nin0)))
    have f32 : Exa Z T16.heap a14 s3n := (f6.keep K16q)
    have f33 : Fld Z T16.heap a14 s3n "session" "J" (.long q16) := (f7.keep K16q (ninS P43 (ninS P42 nin0)))
    obtain ⟨cq34, kq34, q34a, q34b, q34c⟩ := isOf hZ rfl f24
    obtain ⟨_, _, ⟨T34, L34, k34, n34⟩, -, X34, ⟨Lc34, hQ34, l34, y34, z34⟩, st34⟩ := X16.virtualBack hx (y := M30) (z := M30) hown (mvT hZ (ow hw 191 rfl)) (mvT hZ (ow hw 192 rfl)) (notFace_of_selects (args := #[]) (mvT hZ (ow hw 194 rfl))) (mvT hZ (ow hw 194 rfl)) (mvT hZ (ow hw 193 rfl)) (by decide) (backOf (W := 0) (au26_4 l Z a0 hw [] wMAX_LOCK_DELAY wGRANTED wQUEUED wBUSY wZERO hS a11 q3 (1 : Int64) a13 a15 a17 k18 e1_16 a14 q16 T16.heap n0 O23 f24 f25 f26 f27 f28 f29 f30 f31 p16_3 p16_4 p16_5 p16_6 p16_1 p16_8 p16_10 f32 f33 P23 P25) hZ (ow hw 195 rfl) (ow hw 2 rfl) (by decide) (by decide)) q34a q34c (g := (mkF m 299 #[(vi p1), (vi p2), (vl q3), .second, (vl q4), .second, (vl q5), .second, (vl q6), .second, (vi p7), (vi 0), (vi p9), (vi p10), (vr a11), (vr a12), (vr a13), (vr a14), .unset, .unset, .unset, .unset] [(.int 1), (.long q3), (.ref a11)])) rfl (by rw [hml]; rfl) (Steps.refl _) (argsL := [(.long q3), (.int 1)]) (rest := []) (lenOf pd_19 rfl) rfl (by show 2 * 0 + _ ≤ _; exact Nat.le_of_eq rfl) (hb hby at_299) (fun _ _ => ⟨rfl, rfl, (by decide : 7 + 1 ≤ _), (by decide : 35 + 4 ≤ _)⟩)
    dsimp only [Pt.U, Pt.locs, Pt.cells, Pt.slots] at X34 l34 y34 z34 st34 hQ34
    subst l34 y34 z34
    obtain ⟨rfl, Nq34, K34q, p34_0, p34_1, p34_2, p34_3, p34_4, p34_5⟩ := hQ34
    have N34 := Fr.app N16 Nq34
    have O35 : Old Z n0 T34.heap := O23.keep K34q (allS P25 all0)
    have f36 : Exa Z T34.heap a15 s7n := (p16_3.keep K34q)
    have f37 : Fld Z T34.heap a15 s7n "elements" s8n (.ref a17) := (p16_4.keep K34q (ninS (Ne.symm P33) nin0))
    have f38 : Fld Z T34.heap a15 s7n "head" "I" (.int 0) := (p16_5.keep K34q (ninS (Ne.symm P33) nin0))
    have f39 : Fld Z T34.heap a15 s7n "tail" "I" (.int 1) := (p16_6.keep K34q (ninS (Ne.symm P33) nin0))
    have f40 : Arv Z T34.heap a17 k18 (.object s9n) (17 : Int32) ([(.ref e1_16), .null, .null, .null, .null, .null, .null, .null, .null, .null, .null, .null, .null, .null, .null, .null, .null]) .null := (p16_1.keep K34q (ninS (Ne.symm P34) nin0))
    have f41 : Exa Z T34.heap a17 s8n := (p16_0.keep K34q)
    have f42 : Exa Z T34.heap e1_16 s16n := (p16_8.keep K34q)
    have f43 : Fld Z T34.heap e1_16 s16n "lockDelay" s0n (.ref a12) := (p16_9.keep K34q (ninS (Ne.symm ne17) nin0))
    have f44 : Fld Z T34.heap e1_16 s16n "owner" s5n (.ref a14) := (p16_10.keep K34q (ninS (Ne.symm ne17) nin0))
    obtain ⟨cq45, kq45, q45a, q45b, q45c⟩ := isOf hZ rfl p34_0
    obtain ⟨_, _, ⟨T45, L45, k45, n45⟩, -, X45, ⟨Lc45, hQ45, l45, y45, z45⟩, st45⟩ := X34.virtualBack hx (y := M36) (z := M36) hown (mvT hZ (ow hw 228 rfl)) (mvT hZ (ow hw 229 rfl)) (notFace_of_selects (args := #[]) (mvT hZ (ow hw 231 rfl))) (mvT hZ (ow hw 231 rfl)) (mvT hZ (ow hw 230 rfl)) (by decide) (backOf (W := 0) (au32_0 l Z a0 hw [] wMAX_LOCK_DELAY wGRANTED wQUEUED wBUSY wZERO hS a11 a15 a17 k18 e1_16 a12 a14 T34.heap n0 O35 p34_0 p34_1 p34_2 p34_3 p34_4 p34_5 f36 f37 f38 f39 f40 p16_2 f41 f42 f43 f44 P25 P28 P29 P33 P34 ne17 P44 ne20 ne21) hZ (ow hw 232 rfl) (ow hw 2 rfl) (by decide) (by decide)) q45a q45c (g := (mkF m 317 #[(vi p1), (vi p2), (vl q3), .second, (vl q4), .second, (vl q5), .second, (vl q6), .second, (vi p7), (vi 0), (vi p9), (vi p10), (vr a11), (vr a12), (vr a13), (vr a14), .unset, .unset, .unset, .unset] [(.long 1), (.ref a11)])) rfl (by rw [hml]; rfl) (Steps.refl _) (argsL := [(.long 1)]) (rest := []) (lenOf pd_20 rfl) rfl (by show 2 * 0 + _ ≤ _; exact Nat.le_of_eq rfl) (hb hby at_317) (fun _ _ => ⟨rfl, rfl, (by decide : 8 + 0 ≤ _), (by decide : 39 + 0 ≤ _)⟩)
    dsimp only [Pt.U, Pt.locs, Pt.cells, Pt.slots] at X45 l45 y45 z45 st45 hQ45
    subst l45 y45 z45
    obtain ⟨rfl, Nq45, K45q, p45_0, p45_1, p45_2, p45_3, p45_4, p45_5, p45_6, p45_7, p45_8, p45_9, p45_10, p45_11, p45_12⟩ := hQ45
    have N45 := Fr.app N34 Nq45
    have O46 : Old Z n0 T45.heap := O35.keep K45q (allS P25 (allS P29 (allS P28 all0)))
    have pre47 : ∀ t, Steps p.tables e below (T45.setTop (mkF m 445 #[(vi p1), (vi p2), (vl q3), .second, (vl q4), .second, (vl q5), .second, (vl q6), .second, (vi p7), (vi 0), (vi p9), (vi p10), (vr a11), (vr a12), (vr a13), (vr a14), (vi 1), (vl 2), .second, .unset] [(.int (lcmpW q6 (2 : Int64)))])) t → Steps p.tables e below (T0.setTop (mkF m 271 #[(vi p1), (vi p2), (vl q3), .second, (vl q4), .second, (vl q5), .second, (vl q6), .second, (vi p7), (vi p8), (vi p9), (vi p10), (vr a11), (vr a12), (vr a13), (vr a14), .unset, .unset, .unset, .unset] [])) t := by
      intro t k
      refine pre2 t ?_
      show Steps p.tables e below (T0.setTop (mkF m 271 #[(vi p1), (vi p2), (vl q3), .second, (vl q4), .second, (vl q5), .second, (vl q6), .second, (vi p7), (vi 0), (vi p9), (vi p10), (vr a11), (vr a12), (vr a13), (vr a14), .unset, .unset, .unset, .unset] [])) _
      refine XS.aload X0.here hx rfl (hb hby at_271) rfl rfl ?_
      refine XS.aload X0.here hx rfl (hb hby at_273) rfl rfl ?_
      refine st3 _ ?_
      refine XS.iload X3.here hx rfl (hb hby at_278) rfl ?_
      refine st4.trans ?_
      show Steps p.tables e below (T4.setTop (mkF m 283 #[(vi p1), (vi p2), (vl q3), .second, (vl q4), .second, (vl q5), .second, (vl q6), .second, (vi p7), (vi 0), (vi p9), (vi p10), (vr a11), (vr a12), (vr a13), (vr a14), .unset, .unset, .unset, .unset] [(.ref wGRANTED)])) _
      refine XS.pop X4.here hx rfl (hb hby at_283) rfl rfl ?_
      refine XS.aload X4.here hx rfl (hb hby at_284) rfl rfl ?_
      refine XS.aload X4.here hx rfl (hb hby at_286) rfl rfl ?_
      refine XS.aload X4.here hx rfl (hb hby at_288) rfl rfl ?_
      refine XS.iconst X4.here hx rfl (hb hby at_290) ?_
      show Steps p.tables e below (T4.setTop (mkF m 291 #[(vi p1), (vi p2), (vl q3), .second, (vl q4), .second, (vl q5), .second, (vl q6), .second, (vi p7), (vi 0), (vi p9), (vi p10), (vr a11), (vr a12), (vr a13), (vr a14), .unset, .unset, .unset, .unset] [(.int 1), (.ref a12), (.ref a14), (.ref a11)])) _
      refine st16.trans ?_
      refine XS.pop X16.here hx rfl (hb hby at_294) rfl rfl ?_
      refine XS.aload X16.here hx rfl (hb hby at_295) rfl rfl ?_
      refine XS.lloadN X16.here hx rfl (hb hby at_297) rfl ?_
      refine XS.iconst X16.here hx rfl (hb hby at_298) ?_
      show Steps p.tables e below (T16.setTop (mkF m 299 #[(vi p1), (vi p2), (vl q3), .second, (vl q4), .second, (vl q5), .second, (vl q6), .second, (vi p7), (vi 0), (vi p9), (vi p10), (vr a11), (vr a12), (vr a13), (vr a14), .unset, .unset, .unset, .unset] [(.int 1), (.long q3), (.ref a11)])) _
      refine st34.trans ?_
      refine XS.pop X34.here hx rfl (hb hby at_302) rfl rfl ?_
      refine XS.aload X34.here hx rfl (hb hby at_303) rfl rfl ?_
      refine XS.iload X34.here hx rfl (hb hby at_305) rfl ?_
      refine XS.ifYes X34.here hx rfl (pc0 := 307) (pc' := 316) rfl (hb hby at_307) rfl ((if0 _ _).trans (teq (by decide : (0 : Int32) = (0 : Int32))).1) (by decide) (by decide) ?_
      show Steps p.tables e below (T34.setTop (mkF m 316 #[(vi p1), (vi p2), (vl q3), .second, (vl q4), .second, (vl q5), .second, (vl q6), .second, (vi p7), (vi 0), (vi p9), (vi p10), (vr a11), (vr a12), (vr a13), (vr a14), .unset, .unset, .unset, .unset] [(.ref a11)])) _
      refine XS.lconst X34.here hx rfl (hb hby at_316) ?_
      refine st45.trans ?_
      refine XS.pop X45.here hx rfl (hb hby at_320) rfl rfl ?_
      refine XS.iload X45.here hx rfl (hb hby at_321) rfl ?_
      refine XS.ifNo X45.here hx rfl (hb hby at_323) rfl ((if0 _ _).trans (teq (by decide : (0 : Int32) = (0 : Int32))).2) ?_
      show Steps p.tables e below (T45.setTop (mkF m 326 #[(vi p1), (vi p2), (vl q3), .second, (vl q4), .second, (vl q5), .second, (vl q6), .second, (vi p7), (vi 0), (vi p9), (vi p10), (vr a11), (vr a12), (vr a13), (vr a14), .unset, .unset, .unset, .unset] [])) _
      refine XS.iconst X45.here hx rfl (hb hby at_326) ?_
      refine XS.goto X45.here hx rfl (pc0 := 327) (pc' := 331) rfl (hb hby at_327) (by decide) (by decide) ?_
      refine XS.istore X45.here hx rfl (hb hby at_331) rfl (l' := #[(vi p1), (vi p2), (vl q3), .second, (vl q4), .second, (vl q5), .second, (vl q6), .second, (vi p7), (vi 0), (vi p9), (vi p10), (vr a11), (vr a12), (vr a13), (vr a14), (vi 1), .unset, .unset, .unset]) rfl ?_
      refine X45.ldc2Long hx hown (mvT hZ (ow hw 190 rfl)) (g := (mkF m 333 #[(vi p1), (vi p2), (vl q3), .second, (vl q4), .second, (vl q5), .second, (vl q6), .second, (vi p7), (vi 0), (vi p9), (vi p10), (vr a11), (vr a12), (vr a13), (vr a14), (vi 1), .unset, .unset, .unset] [])) rfl (hb hby at_333) _ ?_
      refine XS.lstore X45.here hx rfl (hb hby at_336) rfl (l' := #[(vi p1), (vi p2), (vl q3), .second, (vl q4), .second, (vl q5), .second, (vl q6), .second, (vi p7), (vi 0), (vi p9), (vi p10), (vr a11), (vr a12), (vr a13), (vr a14), (vi 1), (vl 2), .second, .unset]) rfl ?_
      show Steps p.tables e below (T45.setTop (mkF m 338 #[(vi p1), (vi p2), (vl q3), .second, (vl q4), .second, (vl q5), .second, (vl q6), .second, (vi p7), (vi 0), (vi p9), (vi p10), (vr a11), (vr a12), (vr a13), (vr a14), (vi 1), (vl 2), .second, .unset] [])) _
      refine XS.goto X45.here hx rfl (pc0 := 338) (pc' := 435) rfl (hb hby at_338) (by decide) (by decide) ?_
      refine XS.iload X45.here hx rfl (hb hby at_435) rfl ?_
      refine XS.ifNo X45.here hx rfl (hb hby at_437) rfl ((if0 _ _).trans (feq (by decide : ¬ ((1 : Int32) = (0 : Int32)))).1) ?_
      refine XS.lload X45.here hx rfl (hb hby at_440) rfl ?_
      refine XS.lload X45.here hx rfl (hb hby at_442) rfl ?_
      show Steps p.tables e below (T45.setTop (mkF m 444 #[(vi p1), (vi p2), (vl q3), .second, (vl q4), .second, (vl q5), .second, (vl q6), .second, (vi p7), (vi 0), (vi p9), (vi p10), (vr a11), (vr a12), (vr a13), (vr a14), (vi 1), (vl 2), .second, .unset] [(.long 2), (.long q6)])) _
      refine XS.lcmp X45.here hx rfl (hb hby at_444) rfl ?_
      exact k
    obtain ⟨exp, hexp⟩ : ∃ z : Int32, z = (if (lcmpW q6 (2 : Int64)) = (0 : Int32) then (1 : Int32) else (0 : Int32)) := ⟨_, rfl⟩
    have pre49 : ∀ t, Steps p.tables e below (T45.setTop (mkF m 453 #[(vi p1), (vi p2), (vl q3), .second, (vl q4), .second, (vl q5), .second, (vl q6), .second, (vi p7), (vi 0), (vi p9), (vi p10), (vr a11), (vr a12), (vr a13), (vr a14), (vi 1), (vl 2), .second, .unset] [(.int exp)])) t → Steps p.tables e below (T0.setTop (mkF m 271 #[(vi p1), (vi p2), (vl q3), .second, (vl q4), .second, (vl q5), .second, (vl q6), .second, (vi p7), (vi p8), (vi p9), (vi p10), (vr a11), (vr a12), (vr a13), (vr a14), .unset, .unset, .unset, .unset] [])) t := by
      intro t k
      rw [hexp] at k
      refine pre47 t ?_
      show Steps p.tables e below (T45.setTop (mkF m 445 #[(vi p1), (vi p2), (vl q3), .second, (vl q4), .second, (vl q5), .second, (vl q6), .second, (vi p7), (vi 0), (vi p9), (vi p10), (vr a11), (vr a12), (vr a13), (vr a14), (vi 1), (vl 2), .second, .unset] [(.int (lcmpW q6 (2 : Int64)))])) _
      rcases Decidable.em ((lcmpW q6 (2 : Int64)) = (0 : Int32)) with hm48 | hm48
      · first | simp only [if_pos hm48] at k | skip
        refine XS.ifNo X45.here hx rfl (hb hby at_445) rfl ((if0 _ _).trans (teq hm48).2) ?_
        refine XS.iconst X45.here hx rfl (hb hby at_448) ?_
        refine XS.goto X45.here hx rfl (pc0 := 449) (pc' := 453) rfl (hb hby at_449) (by decide) (by decide) ?_
        exact k
      · first | simp only [if_neg hm48] at k | skip
        refine XS.ifYes X45.here hx rfl (pc0 := 445) (pc' := 452) rfl (hb hby at_445) rfl ((if0 _ _).trans (feq hm48).2) (by decide) (by decide) ?_
        refine XS.iconst X45.here hx rfl (hb hby at_452) ?_
        exact k
    obtain ⟨cq50, kq50, q50a, q50b, q50c⟩ := isOf hZ rfl p45_0
    obtain ⟨_, _, ⟨T50, L50, k50, n50⟩, -, X50, ⟨Lc50, hQ50, l50, y50, z50⟩, st50⟩ := X45.virtualBack hx (y := M1) (z := M1) hown (mvT hZ (ow hw 46 rfl)) (mvT hZ (ow hw 47 rfl)) (notFace_of_selects (args := #[]) (mvT hZ (ow hw 49 rfl))) (mvT hZ (ow hw 49 rfl)) (mvT hZ (ow hw 48 rfl)) (by decide) (backOf (W := 0) (rmHeld l Z a0 hw [] wMAX_LOCK_DELAY wGRANTED wQUEUED wBUSY wZERO hS a11 a14 (2 : Int64) q6 T45.heap n0 O46 p45_3 p45_1) hZ (ow hw 50 rfl) (ow hw 2 rfl) (by decide) (by decide)) q50a q50c (g := (mkF m 459 #[(vi p1), (vi p2), (vl q3), .second, (vl q4), .second, (vl q5), .second, (vl q6), .second, (vi p7), (vi 0), (vi p9), (vi p10), (vr a11), (vr a12), (vr a13), (vr a14), (vi 1), (vl 2), .second, (vi exp)] [(.long q6), (.ref a11)])) rfl (by rw [hml]; rfl) (Steps.refl _) (argsL := [(.long q6)]) (rest := []) (lenOf pd_3 rfl) rfl (by show 2 * 0 + _ ≤ _; exact Nat.le_of_eq rfl) (hb hby at_459) (fun _ _ => ⟨rfl, rfl, (by decide : 8 + 0 ≤ _), (by decide : 39 + 0 ≤ _)⟩)
    dsimp only [Pt.U, Pt.locs, Pt.cells, Pt.slots] at X50 l50 y50 z50 st50 hQ50
    subst l50 y50 z50
    obtain ⟨r_50, rfl, Nq50, K50q, p50_0⟩ := hQ50
    have N50 := Fr.app N45 Nq50
    obtain ⟨fs, hr, hrun, hended, hW, hsame⟩ := X50.leave (v := some (.int 1)) (fun h => by rw [hret0] at h; cases h)
    refine ⟨_, _, pre49 _ ?_, hrun, hended, _, _, rfl, ?_, ⟨_, rfl⟩, hW, hsame.mono (by decide) (by decide)⟩
    · skip
      show Steps p.tables e below (T45.setTop (mkF m 453 #[(vi p1), (vi p2), (vl q3), .second, (vl q4), .second, (vl q5), .second, (vl q6), .second, (vi p7), (vi 0), (vi p9), (vi p10), (vr a11), (vr a12), (vr a13), (vr a14), (vi 1), (vl 2), .second, .unset] [(.int exp)])) _
      refine XS.istore X45.here hx rfl (hb hby at_453) rfl (l' := #[(vi p1), (vi p2), (vl q3), .second, (vl q4), .second, (vl q5), .second, (vl q6), .second, (vi p7), (vi 0), (vi p9), (vi p10), (vr a11), (vr a12), (vr a13), (vr a14), (vi 1), (vl 2), .second, (vi exp)]) rfl ?_
      refine XS.aload X45.here hx rfl (hb hby at_455) rfl rfl ?_
      refine XS.lload X45.here hx rfl (hb hby at_457) rfl ?_
      refine st50.trans ?_
      refine XS.iload X50.here hx rfl (hb hby at_462) rfl ?_
      show Steps p.tables e below (T50.setTop (mkF m 464 #[(vi p1), (vi p2), (vl q3), .second, (vl q4), .second, (vl q5), .second, (vl q6), .second, (vi p7), (vi 0), (vi p9), (vi p10), (vr a11), (vr a12), (vr a13), (vr a14), (vi 1), (vl 2), .second, (vi exp)] [(.int exp), (.int r_50)])) _
      refine XS.icmpNo X50.here hx rfl (hb hby at_464) rfl (teq (p50_0.trans ((own_sym _ _).trans hexp.symm) : r_50 = exp)).2 ?_
      refine XS.iconst X50.here hx rfl (hb hby at_467) ?_
      refine XS.goto X50.here hx rfl (pc0 := 468) (pc' := 472) rfl (hb hby at_468) (by decide) (by decide) ?_
      exact retN X50 hx (t := .boolean) hret0 (by simp) (hb hby at_472) hr
    · skip
      exact ⟨rfl, N50⟩
  · skip
    have pre51 : ∀ t, Steps p.tables e below (T0.setTop (mkF m 271 #[(vi p1), (vi p2), (vl q3), .second, (vl q4), .second, (vl q5), .second, (vl q6), .second, (vi p7), (vi 1), (vi p9), (vi p10), (vr a11), (vr a12), (vr a13), (vr a14), .unset, .unset, .unset, .unset] [])) t → Steps p.tables e below (T0.setTop (mkF m 271 #[(vi p1), (vi p2), (vl q3), .second, (vl q4), .second, (vl q5), .second, (vl q6), .second, (vi p7), (vi p8), (vi p9), (vi p10), (vr a11), (vr a12), (vr a13), (vr a14), .unset, .unset, .unset, .unset] [])) t := by
      intro t k
      refine pre0 t ?_
      rw [hk1]
      exact k
    obtain ⟨T52, X52, e52, st52⟩ := getS2 X0 hx hZ hown (host := "") (Or.inl (ow hw 32 rfl)) Via.refl e0 (S_wMAX_LOCK_DELAY.ext O0.2) (g := (mkF m 275 #[(vi p1), (vi p2), (vl q3), .second, (vl q4), .second, (vl q5), .second, (vl q6), .second, (vi p7), (vi 1), (vi p9), (vi p10), (vr a11), (vr a12), (vr a13), (vr a14), .unset, .unset, .unset, .unset] [(.ref a13), (.ref a11)])) rfl (hb hby at_275)
    obtain ⟨cq53, kq53, q53a, q53b, q53c⟩ := isOf hZ e52 P0
    obtain ⟨_, _, ⟨T53, L53, k53, n53⟩, -, X53, ⟨Lc53, hQ53, l53, y53, z53⟩, st53⟩ := X52.virtualBack hx (y := M8) (z := M8) hown (mvT hZ (ow hw 58 rfl)) (mvT hZ (ow hw 59 rfl)) (notFace_of_selects (args := #[]) (mvT hZ (ow hw 61 rfl))) (mvT hZ (ow hw 61 rfl)) (mvT hZ (ow hw 60 rfl)) (by decide) (backOf (W := 0) (au8_0 l Z a0 hw [] wMAX_LOCK_DELAY wGRANTED wQUEUED wBUSY wZERO hS a11 a13 wMAX_LOCK_DELAY p10 (0 : Int64) a15 h0 n0 O0 P0 P1 P2 P3 P4 P5 P6 P25) hZ (ow hw 62 rfl) (ow hw 2 rfl) (by decide) (by decide)) q53a q53c (g := (mkF m 280 #[(vi p1), (vi p2), (vl q3), .second, (vl q4), .second, (vl q5), .second, (vl q6), .second, (vi p7), (vi 1), (vi p9), (vi p10), (vr a11), (vr a12), (vr a13), (vr a14), .unset, .unset, .unset, .unset] [(.int p10), (.ref wMAX_LOCK_DELAY), (.ref a13), (.ref a11)])) rfl (by rw [hml]; rfl) (Steps.refl _) (argsL := [(.ref a13), (.ref wMAX_LOCK_DELAY), (.int p10)]) (rest := []) (lenOf pd_6 rfl) rfl (by show 2 * 0 + _ ≤ _; exact Nat.le_of_eq rfl) (hb hby at_280) (fun _ _ => ⟨rfl, e52, (by decide : 5 + 0 ≤ _), (by decide : 29 + 0 ≤ _)⟩)
    dsimp only [Pt.U, Pt.locs, Pt.cells, Pt.slots] at X53 l53 y53 z53 st53 hQ53
    subst l53 y53 z53
    obtain ⟨rfl, Nq53, K53q, p53_0, p53_1, p53_2, p53_3, p53_4, p53_5⟩ := hQ53
    have N53 := Fr.app N0 Nq53
    have O54 : Old Z n0 T53.heap := O0.keep K53q (allS P25 all0)
    have p53_1f : Fld Z T53.heap a11 s4n "generation" "J" (.long 1) := by have q := p53_1; rw [(by decide : ((0 : Int64) + (1 : Int64)) = (1 : Int64))] at q; exact q
    have f55 : Exa Z T53.heap a14 s3n := (P9.keep K53q)
    have f56 : Fld Z T53.heap a14 s3n "session" "J" (.long q16) := (P11.keep K53q (ninS (Ne.symm P32) nin0))
    have f57 : Exa Z T53.heap a13 s3n := (P6.keep K53q)
    have f58 : Fld Z T53.heap a13 s3n "session" "J" (.long q3) := (P8.keep K53q (ninS (Ne.symm P31) nin0))
    have f59 : Exa Z T53.heap a15 s7n := (P12.keep K53q)
    have f60 : Fld Z T53.heap a15 s7n "elements" s8n (.ref a17) := (P13.keep K53q (ninS (Ne.symm P33) nin0))
    have f61 : Fld Z T53.heap a15 s7n "head" "I" (.int 0) := (P14.keep K53q (ninS (Ne.symm P33) nin0))
    have f62 : Fld Z T53.heap a15 s7n "tail" "I" (.int 0) := (P15.keep K53q (ninS (Ne.symm P33) nin0))
    have f63 : Arv Z T53.heap a17 k18 (.object s9n) (17 : Int32) ([.null, .null, .null, .null, .null, .null, .null, .null, .null, .null, .null, .null, .null, .null, .null, .null, .null]) .null := (P16.keep K53q (ninS (Ne.symm P34) nin0))
    have f64 : Exa Z T53.heap a17 s8n := (P18.keep K53q)
    obtain ⟨cq65, kq65, q65a, q65b, q65c⟩ := isOf hZ rfl p53_0
    obtain ⟨_, _, ⟨T65, L65, k65, n65⟩, -, X65, ⟨Lc65, hQ65, l65, y65, z65⟩, st65⟩ := X53.virtualBack hx (y := M8) (z := M8) hown (mvT hZ (ow hw 58 rfl)) (mvT hZ (ow hw 59 rfl)) (notFace_of_selects (args := #[]) (mvT hZ (ow hw 61 rfl))) (mvT hZ (ow hw 61 rfl)) (mvT hZ (ow hw 60 rfl)) (by decide) (backOf (W := 0) (au8_2 l Z a0 hw [] wMAX_LOCK_DELAY wGRANTED wQUEUED wBUSY wZERO hS a11 a14 a12 a13 a15 q16 q3 a17 k18 T53.heap n0 O54 p53_0 p53_3 p53_5 f55 f56 f57 f58 f59 f60 f61 f62 f63 P17 f64 P24 P28 P29 P44) hZ (ow hw 62 rfl) (ow hw 2 rfl) (by decide) (by decide)) q65a q65c (g := (mkF m 291 #[(vi p1), (vi p2), (vl q3), .second, (vl q4), .second, (vl q5), .second, (vl q6), .second, (vi p7), (vi 1), (vi p9), (vi p10), (vr a11), (vr a12), (vr a13), (vr a14), .unset, .unset, .unset, .unset] [(.int 1), (.ref a12), (.ref a14), (.ref a11)])) rfl (by rw [hml]; rfl) (Steps.refl _) (argsL := [(.ref a14), (.ref a12), (.int 1)]) (rest := []) (lenOf pd_6 rfl) rfl (by show 2 * 0 + _ ≤ _; exact Nat.le_of_eq rfl) (hb hby at_291) (fun _ _ => ⟨rfl, rfl, (by decide : 5 + 2 ≤ _), (by decide : 29 + 6 ≤ _)⟩)
    dsimp only [Pt.U, Pt.locs, Pt.cells, Pt.slots] at X65 l65 y65 z65 st65 hQ65
    subst l65 y65 z65
    obtain ⟨e1_65, rfl, Nq65, K65q, p65_0, p65_1, p65_2, p65_3, p65_4, p65_5, p65_6, p65_7, p65_8, p65_9, p65_10⟩ := hQ65
    have N65 := Fr.app N53 Nq65
    have ne66 : a11 ≠ e1_65 := Nat.ne_of_lt (Nat.lt_of_lt_of_le p53_0.lt p65_7)
    have ne67 : a13 ≠ e1_65 := Nat.ne_of_lt (Nat.lt_of_lt_of_le f57.lt p65_7)
    have ne68 : a14 ≠ e1_65 := Nat.ne_of_lt (Nat.lt_of_lt_of_le f55.lt p65_7)
    have ne69 : a15 ≠ e1_65 := Nat.ne_of_lt (Nat.lt_of_lt_of_le f59.lt p65_7)
    have ne70 : a17 ≠ e1_65 := Nat.ne_of_lt (Nat.lt_of_lt_of_le f63.lt p65_7)
    have g71 : n0 ≤ e1_65 := Nat.le_trans (own_sz O54) p65_7
    have O72 : Old Z n0 T65.heap := O54.keep K65q (allS P29 (allS P28 all0))
    have f73 : Exa Z T65.heap a11 s4n := (p53_0.keep K65q)
    have f74 : Fld Z T65.heap a11 s4n "generation" "J" (.long 1) := (p53_1f.keep K65q (ninS P34 (ninS P33 nin0)))
    have f75 : Fld Z T65.heap a11 s4n "heldBack" "Z" (.int 0) := (p53_2.keep K65q (ninS P34 (ninS P33 nin0)))
    have f76 : Fld Z T65.heap a11 s4n "holder" s5n (.ref a13) := (p53_3.keep K65q (ninS P34 (ninS P33 nin0)))
    have f77 : Fld Z T65.heap a11 s4n s10n s0n (.ref wMAX_LOCK_DELAY) := (p53_4.keep K65q (ninS P34 (ninS P33 nin0)))
    have f78 : Fld Z T65.heap a11 s4n "waiters" s11n (.ref a15) := (p53_5.keep K65q (ninS P34 (ninS P33 nin0)))
    have f79 : Exa Z T65.heap a13 s3n := (f57.keep K65q)
    have f80 : Fld Z T65.heap a13 s3n "session" "J" (.long q3) := (f58.keep K65q (ninS P41 (ninS P40 nin0)))
    have f81 : Exa Z T65.heap a14 s3n := (f55.keep K65q)
    have f82 : Fld Z T65.heap a14 s3n "session" "J" (.long q16) := (f56.keep K65q (ninS P43 (ninS P42 nin0)))
    obtain ⟨cq83, kq83, q83a, q83b, q83c⟩ := isOf hZ rfl f73
    obtain ⟨_, _, ⟨T83, L83, k83, n83⟩, -, X83, ⟨Lc83, hQ83, l83, y83, z83⟩, st83⟩ := X65.virtualBack hx (y := M30) (z := M30) hown (mvT hZ (ow hw 191 rfl)) (mvT hZ (ow hw 192 rfl)) (notFace_of_selects (args := #[]) (mvT hZ (ow hw 194 rfl))) (mvT hZ (ow hw 194 rfl)) (mvT hZ (ow hw 193 rfl)) (by decide) (backOf (W := 0) (au26_4 l Z a0 hw [] wMAX_LOCK_DELAY wGRANTED wQUEUED wBUSY wZERO hS a11 q3 (1 : Int64) a13 a15 a17 k18 e1_65 a14 q16 T65.heap n0 O72 f73 f74 f75 f76 f77 f78 f79 f80 p65_3 p65_4 p65_5 p65_6 p65_1 p65_8 p65_10 f81 f82 P23 P25) hZ (ow hw 195 rfl) (ow hw 2 rfl) (by decide) (by decide)) q83a q83c (g := (mkF m 299 #[(vi p1), (vi p2), (vl q3), .second, (vl q4), .second, (vl q5), .second, (vl q6), .second, (vi p7), (vi 1), (vi p9), (vi p10), (vr a11), (vr a12), (vr a13), (vr a14), .unset, .unset, .unset, .unset] [(.int 1), (.long q3), (.ref a11)])) rfl (by rw [hml]; rfl) (Steps.refl _) (argsL := [(.long q3), (.int 1)]) (rest := []) (lenOf pd_19 rfl) rfl (by show 2 * 0 + _ ≤ _; exact Nat.le_of_eq rfl) (hb hby at_299) (fun _ _ => ⟨rfl, rfl, (by decide : 7 + 1 ≤ _), (by decide : 35 + 4 ≤ _)⟩)
    dsimp only [Pt.U, Pt.locs, Pt.cells, Pt.slots] at X83 l83 y83 z83 st83 hQ83
    subst l83 y83 z83
    obtain ⟨rfl, Nq83, K83q, p83_0, p83_1, p83_2, p83_3, p83_4, p83_5⟩ := hQ83
    have N83 := Fr.app N65 Nq83
    have O84 : Old Z n0 T83.heap := O72.keep K83q (allS P25 all0)
    obtain ⟨cq85, kq85, q85a, q85b, q85c⟩ := isOf hZ rfl p83_0
    obtain ⟨_, _, ⟨T85, L85, k85, n85⟩, -, X85, ⟨Lc85, hQ85, l85, y85, z85⟩, st85⟩ := X83.virtualBack hx (y := M36) (z := M36) hown (mvT hZ (ow hw 228 rfl)) (mvT hZ (ow hw 229 rfl)) (notFace_of_selects (args := #[]) (mvT hZ (ow hw 231 rfl))) (mvT hZ (ow hw 231 rfl)) (mvT hZ (ow hw 230 rfl)) (by decide) (backOf (W := 0) (au32_1 l Z a0 hw [] wMAX_LOCK_DELAY wGRANTED wQUEUED wBUSY wZERO hS a11 T83.heap n0 O84 p83_0 p83_1 p83_2) hZ (ow hw 232 rfl) (ow hw 2 rfl) (by decide) (by decide)) q85a q85c (g := (mkF m 317 #[(vi p1), (vi p2), (vl q3), .second, (vl q4), .second, (vl q5), .second, (vl q6), .second, (vi p7), (vi 1), (vi p9), (vi p10), (vr a11), (vr a12), (vr a13), (vr a14), .unset, .unset, .unset, .unset] [(.long 2), (.ref a11)])) rfl (by rw [hml]; rfl) (Steps.refl _) (argsL := [(.long 2)]) (rest := []) (lenOf pd_20 rfl) rfl (by show 2 * 0 + _ ≤ _; exact Nat.le_of_eq rfl) (hb hby at_317) (fun _ _ => ⟨rfl, rfl, (by decide : 8 + 0 ≤ _), (by decide : 39 + 0 ≤ _)⟩)
    dsimp only [Pt.U, Pt.locs, Pt.cells, Pt.slots] at X85 l85 y85 z85 st85 hQ85
    subst l85 y85 z85
    obtain ⟨rfl, Nq85, K85q⟩ := hQ85
    have N85 := Fr.app N83 Nq85
    obtain ⟨cq86, kq86, q86a, q86b, q86c⟩ := isOf hZ K85q p83_0
    obtain ⟨_, _, ⟨T86, L86, k86, n86⟩, -, X86, ⟨Lc86, hQ86, l86, y86, z86⟩, st86⟩ := X85.virtualBack hx (y := M1) (z := M1) hown (mvT hZ (ow hw 46 rfl)) (mvT hZ (ow hw 47 rfl)) (notFace_of_selects (args := #[]) (mvT hZ (ow hw 49 rfl))) (mvT hZ (ow hw 49 rfl)) (mvT hZ (ow hw 48 rfl)) (by decide) (backOf (W := 0) (rmHeldN l Z a0 hw [] wMAX_LOCK_DELAY wGRANTED wQUEUED wBUSY wZERO hS a11 q6 T83.heap n0 O84 p83_3) hZ (ow hw 50 rfl) (ow hw 2 rfl) (by decide) (by decide)) q86a q86c (g := (mkF m 459 #[(vi p1), (vi p2), (vl q3), .second, (vl q4), .second, (vl q5), .second, (vl q6), .second, (vi p7), (vi 1), (vi p9), (vi p10), (vr a11), (vr a12), (vr a13), (vr a14), (vi 0), (vl 2), .second, (vi 0)] [(.long q6), (.ref a11)])) rfl (by rw [hml]; rfl) (Steps.refl _) (argsL := [(.long q6)]) (rest := []) (lenOf pd_3 rfl) rfl (by show 2 * 0 + _ ≤ _; exact Nat.le_of_eq rfl) (hb hby at_459) (fun _ _ => ⟨rfl, K85q, (by decide : 8 + 0 ≤ _), (by decide : 39 + 0 ≤ _)⟩)
    dsimp only [Pt.U, Pt.locs, Pt.cells, Pt.slots] at X86 l86 y86 z86 st86 hQ86
    subst l86 y86 z86
    obtain ⟨rfl, Nq86, K86q⟩ := hQ86
    have N86 := Fr.app N85 Nq86
    obtain ⟨fs, hr, hrun, hended, hW, hsame⟩ := X86.leave (v := some (.int 1)) (fun h => by rw [hret0] at h; cases h)
    refine ⟨_, _, pre51 _ ?_, hrun, hended, _, _, rfl, ?_, ⟨_, rfl⟩, hW, hsame.mono (by decide) (by decide)⟩
    · skip
      show Steps p.tables e below (T0.setTop (mkF m 271 #[(vi p1), (vi p2), (vl q3), .second, (vl q4), .second, (vl q5), .second, (vl q6), .second, (vi p7), (vi 1), (vi p9), (vi p10), (vr a11), (vr a12), (vr a13), (vr a14), .unset, .unset, .unset, .unset] [])) _
      refine XS.aload X0.here hx rfl (hb hby at_271) rfl rfl ?_
      refine XS.aload X0.here hx rfl (hb hby at_273) rfl rfl ?_
      refine st52 _ ?_
      refine XS.iload X52.here hx rfl (hb hby at_278) rfl ?_
      refine st53.trans ?_
      show Steps p.tables e below (T53.setTop (mkF m 283 #[(vi p1), (vi p2), (vl q3), .second, (vl q4), .second, (vl q5), .second, (vl q6), .second, (vi p7), (vi 1), (vi p9), (vi p10), (vr a11), (vr a12), (vr a13), (vr a14), .unset, .unset, .unset, .unset] [(.ref wGRANTED)])) _
      refine XS.pop X53.here hx rfl (hb hby at_283) rfl rfl ?_
      refine XS.aload X53.here hx rfl (hb hby at_284) rfl rfl ?_
      refine XS.aload X53.here hx rfl (hb hby at_286) rfl rfl ?_
      refine XS.aload X53.here hx rfl (hb hby at_288) rfl rfl ?_
      refine XS.iconst X53.here hx rfl (hb hby at_290) ?_
      show Steps p.tables e below (T53.setTop (mkF m 291 #[(vi p1), (vi p2), (vl q3), .second, (vl q4), .second, (vl q5), .second, (vl q6), .second, (vi p7), (vi 1), (vi p9), (vi p10), (vr a11), (vr a12), (vr a13), (vr a14), .unset, .unset, .unset, .unset] [(.int 1), (.ref a12), (.ref a14), (.ref a11)])) _
      refine st65.trans ?_
      refine XS.pop X65.here hx rfl (hb hby at_294) rfl rfl ?_
      refine XS.aload X65.here hx rfl (hb hby at_295) rfl rfl ?_
      refine XS.lloadN X65.here hx rfl (hb hby at_297) rfl ?_
      refine XS.iconst X65.here hx rfl (hb hby at_298) ?_
      show Steps p.tables e below (T65.setTop (mkF m 299 #[(vi p1), (vi p2), (vl q3), .second, (vl q4), .second, (vl q5), .second, (vl q6), .second, (vi p7), (vi 1), (vi p9), (vi p10), (vr a11), (vr a12), (vr a13), (vr a14), .unset, .unset, .unset, .unset] [(.int 1), (.long q3), (.ref a11)])) _
      refine st83.trans ?_
      refine XS.pop X83.here hx rfl (hb hby at_302) rfl rfl ?_
      refine XS.aload X83.here hx rfl (hb hby at_303) rfl rfl ?_
      refine XS.iload X83.here hx rfl (hb hby at_305) rfl ?_
      refine XS.ifNo X83.here hx rfl (hb hby at_307) rfl ((if0 _ _).trans (feq (by decide : ¬ ((1 : Int32) = (0 : Int32)))).1) ?_
      show Steps p.tables e below (T83.setTop (mkF m 310 #[(vi p1), (vi p2), (vl q3), .second, (vl q4), .second, (vl q5), .second, (vl q6), .second, (vi p7), (vi 1), (vi p9), (vi p10), (vr a11), (vr a12), (vr a13), (vr a14), .unset, .unset, .unset, .unset] [(.ref a11)])) _
      refine X83.ldc2Long hx hown (mvT hZ (ow hw 190 rfl)) (g := (mkF m 310 #[(vi p1), (vi p2), (vl q3), .second, (vl q4), .second, (vl q5), .second, (vl q6), .second, (vi p7), (vi 1), (vi p9), (vi p10), (vr a11), (vr a12), (vr a13), (vr a14), .unset, .unset, .unset, .unset] [(.ref a11)])) rfl (hb hby at_310) _ ?_
      refine XS.goto X83.here hx rfl (pc0 := 313) (pc' := 317) rfl (hb hby at_313) (by decide) (by decide) ?_
      refine st85.trans ?_
      refine XS.pop X85.here hx rfl (hb hby at_320) rfl rfl ?_
      refine XS.iload X85.here hx rfl (hb hby at_321) rfl ?_
      show Steps p.tables e below (T85.setTop (mkF m 323 #[(vi p1), (vi p2), (vl q3), .second, (vl q4), .second, (vl q5), .second, (vl q6), .second, (vi p7), (vi 1), (vi p9), (vi p10), (vr a11), (vr a12), (vr a13), (vr a14), .unset, .unset, .unset, .unset] [(.int 1)])) _
      refine XS.ifYes X85.here hx rfl (pc0 := 323) (pc' := 330) rfl (hb hby at_323) rfl ((if0 _ _).trans (feq (by decide : ¬ ((1 : Int32) = (0 : Int32)))).2) (by decide) (by decide) ?_
      refine XS.iconst X85.here hx rfl (hb hby at_330) ?_
      refine XS.istore X85.here hx rfl (hb hby at_331) rfl (l' := #[(vi p1), (vi p2), (vl q3), .second, (vl q4), .second, (vl q5), .second, (vl q6), .second, (vi p7), (vi 1), (vi p9), (vi p10), (vr a11), (vr a12), (vr a13), (vr a14), (vi 0), .unset, .unset, .unset]) rfl ?_
      refine X85.ldc2Long hx hown (mvT hZ (ow hw 190 rfl)) (g := (mkF m 333 #[(vi p1), (vi p2), (vl q3), .second, (vl q4), .second, (vl q5), .second, (vl q6), .second, (vi p7), (vi 1), (vi p9), (vi p10), (vr a11), (vr a12), (vr a13), (vr a14), (vi 0), .unset, .unset, .unset] [])) rfl (hb hby at_333) _ ?_
      refine XS.lstore X85.here hx rfl (hb hby at_336) rfl (l' := #[(vi p1), (vi p2), (vl q3), .second, (vl q4), .second, (vl q5), .second, (vl q6), .second, (vi p7), (vi 1), (vi p9), (vi p10), (vr a11), (vr a12), (vr a13), (vr a14), (vi 0), (vl 2), .second, .unset]) rfl ?_
      show Steps p.tables e below (T85.setTop (mkF m 338 #[(vi p1), (vi p2), (vl q3), .second, (vl q4), .second, (vl q5), .second, (vl q6), .second, (vi p7), (vi 1), (vi p9), (vi p10), (vr a11), (vr a12), (vr a13), (vr a14), (vi 0), (vl 2), .second, .unset] [])) _
      refine XS.goto X85.here hx rfl (pc0 := 338) (pc' := 435) rfl (hb hby at_338) (by decide) (by decide) ?_
      refine XS.iload X85.here hx rfl (hb hby at_435) rfl ?_
      refine XS.ifYes X85.here hx rfl (pc0 := 437) (pc' := 452) rfl (hb hby at_437) rfl ((if0 _ _).trans (teq (by decide : (0 : Int32) = (0 : Int32))).1) (by decide) (by decide) ?_
      refine XS.iconst X85.here hx rfl (hb hby at_452) ?_
      refine XS.istore X85.here hx rfl (hb hby at_453) rfl (l' := #[(vi p1), (vi p2), (vl q3), .second, (vl q4), .second, (vl q5), .second, (vl q6), .second, (vi p7), (vi 1), (vi p9), (vi p10), (vr a11), (vr a12), (vr a13), (vr a14), (vi 0), (vl 2), .second, (vi 0)]) rfl ?_
      show Steps p.tables e below (T85.setTop (mkF m 455 #[(vi p1), (vi p2), (vl q3), .second, (vl q4), .second, (vl q5), .second, (vl q6), .second, (vi p7), (vi 1), (vi p9), (vi p10), (vr a11), (vr a12), (vr a13), (vr a14), (vi 0), (vl 2), .second, (vi 0)] [])) _
      refine XS.aload X85.here hx rfl (hb hby at_455) rfl rfl ?_
      refine XS.lload X85.here hx rfl (hb hby at_457) rfl ?_
      refine st86.trans ?_
      refine XS.iload X86.here hx rfl (hb hby at_462) rfl ?_
      refine XS.icmpNo X86.here hx rfl (hb hby at_464) rfl (teq (by decide : (0 : Int32) = (0 : Int32))).2 ?_
      show Steps p.tables e below (T86.setTop (mkF m 467 #[(vi p1), (vi p2), (vl q3), .second, (vl q4), .second, (vl q5), .second, (vl q6), .second, (vi p7), (vi 1), (vi p9), (vi p10), (vr a11), (vr a12), (vr a13), (vr a14), (vi 0), (vl 2), .second, (vi 0)] [])) _
      refine XS.iconst X86.here hx rfl (hb hby at_467) ?_
      refine XS.goto X86.here hx rfl (pc0 := 468) (pc' := 472) rfl (hb hby at_468) (by decide) (by decide) ?_
      exact retN X86 hx (t := .boolean) hret0 (by simp) (hb hby at_472) hr
    · skip
      exact ⟨rfl, N86⟩
theorem ef_au26_5 (m : MethodId) (x0 : Addr) (x1 : Int64) (x2 : Int32)  : entryFrame m #[(.ref x0), (.long x1), (.int x2)] 6 = mkF m 0 #[(vr x0), (vl x1), .second, (vi x2), .unset, .unset] [] := by first | (simp [entryFrame, mkF, argsToLocals, Value.category]; done) | rfl
theorem ef_au17_2 (m : MethodId) (x0 : Addr)  : entryFrame m #[(.ref x0)] 1 = mkF m 0 #[(vr x0)] [] := by first | (simp [entryFrame, mkF, argsToLocals, Value.category]; done) | rfl
def Q_au17_2 (Z : State) (wMAX_LOCK_DELAY : Addr) (wGRANTED : Addr) (wQUEUED : Addr) (wBUSY : Addr) (wZERO : Addr) (a1 : Addr) (a2 : Addr) (k3 : ClassId) (a4 : Addr) (a5 : Addr) (h0 : Heap) (n0 : Nat) (v : Option Value) (h : Heap) (L : List Loc) : Prop := ∃ (e1 : Addr), v = some (.ref e1) ∧ Fr n0 L ∧ Keep h0 h [] ∧ h0.size ≤ e1 ∧ Exa Z h e1 s13n ∧ Fld Z h e1 s13n "cursor" "I" (.int 0) ∧ Fld Z h e1 s13n "lastRet" "I" (.int (-1 : Int32)) ∧ Fld Z h e1 s13n "remaining" "I" (.int 1) ∧ Fld Z h e1 s13n "this$0" s14n (.ref a1)
theorem au17_2 (l : Launch) (Z : State) (a0 : Array Value) (hw : ∀ d ∈ tables_1, d.before a0 Z = true) (ws : List Jvm.Cond) (wMAX_LOCK_DELAY : Addr) (wGRANTED : Addr) (wQUEUED : Addr) (wBUSY : Addr) (wZERO : Addr) (hS : SS Z wMAX_LOCK_DELAY wGRANTED wQUEUED wBUSY wZERO) (a1 : Addr) (a2 : Addr) (k3 : ClassId) (a4 : Addr) (a5 : Addr) (h0 : Heap) (n0 : Nat) (O0 : Old Z n0 h0) (P0 : Exa Z h0 a1 s7n) (P1 : Fld Z h0 a1 s7n "elements" s8n (.ref a2)) (P2 : Fld Z h0 a1 s7n "head" "I" (.int 0)) (P3 : Fld Z h0 a1 s7n "tail" "I" (.int 1)) (P4 : Arv Z h0 a2 k3 (.object s9n) (17 : Int32) ([(.ref a4), .null, .null, .null, .null, .null, .null, .null, .null, .null, .null, .null, .null, .null, .null, .null, .null]) .null) (P7 : Exa Z h0 a4 s16n) (P10 : Exa Z h0 a5 s3n) :
    MetB l M18 jdk_21_method_39_code 1 (some (.object s15n)) ws (rmk 3 1 4 41) Z h0 #[(.ref a1)] (Q_au17_2 Z wMAX_LOCK_DELAY wGRANTED wQUEUED wBUSY wZERO a1 a2 k3 a4 a5 h0 n0) := by
  refine own_body (plainFor_of_name pn_java_util_ArrayDeque) ?_
  intro p e s m below meth c s₁ hx hby hml hown hnm hret0 hlk0 hZ X0 e0
  have N0 := Fr.nil n0
  have pre0 : ∀ t, Steps p.tables e below (s₁.setTop (mkF m 0 #[(vr a1)] [])) t → Steps p.tables e below (s₁.setTop (entryFrame m #[(.ref a1)] 1)) t := fun t k => castTop (ef_au17_2 m a1) k
  have K0 := Keep.refl h0 []
  have hS0 := hS
  obtain ⟨S_wMAX_LOCK_DELAY, E_wMAX_LOCK_DELAY, S_wGRANTED, E_wGRANTED, S_wQUEUED, E_wQUEUED, S_wBUSY, E_wBUSY, F_seconds_wMAX_LOCK_DELAY, F_nanos_wMAX_LOCK_DELAY, S_wZERO, E_wZERO, F_seconds_wZERO, F_nanos_wZERO⟩ := hS0
  obtain ⟨T1, h1, X1, e1, E1, A1, D1, -, st1⟩ := newO X0 hx hZ hown (ow hw 121 rfl) (ow hw 122 rfl) (ow hw 123 rfl) e0 (g := (mkF m 0 #[(vr a1)] [])) rfl (hb hby d17_0) (by decide) (by decide)
  obtain ⟨b1, g1⟩ : ∃ z, z = h0.size := ⟨_, rfl⟩
  rw [← g1] at A1 D1 st1
  have ne2 : a1 ≠ b1 := Nat.ne_of_lt (Nat.lt_of_lt_of_le P0.lt (Nat.le_of_eq g1.symm))
  have ne3 : a2 ≠ b1 := Nat.ne_of_lt (Nat.lt_of_lt_of_le P4.lt (Nat.le_of_eq g1.symm))
  have ne4 : a4 ≠ b1 := Nat.ne_of_lt (Nat.lt_of_lt_of_le P7.lt (Nat.le_of_eq g1.symm))
  have ne5 : a5 ≠ b1 := Nat.ne_of_lt (Nat.lt_of_lt_of_le P10.lt (Nat.le_of_eq g1.symm))
  have g6 : n0 ≤ b1 := Nat.le_trans (own_sz O0) (Nat.le_of_eq g1.symm)
  have sz7 : h0.size ≤ b1 := Nat.le_trans K0.1 (Nat.le_of_eq g1.symm)
  have O8 : Old Z n0 h1 := O0.ext E1
  have K8 : Keep h0 h1 [] := K0.ext E1
  have f9 : Fld Z h1 b1 s13n "this$0" s14n .null := D1 (Or.inr (ow hw 129 rfl)) (ty := (.object s7n)) (by decide)
  have f10 : Fld Z h1 b1 s13n "remaining" "I" (.int 0) := D1 (Or.inl (ow hw 142 rfl)) (ty := .int) (by decide)
  have f11 : Fld Z h1 b1 s13n "lastRet" "I" (.int 0) := D1 (Or.inl (ow hw 144 rfl)) (ty := .int) (by decide)
  have f12 : Fld Z h1 b1 s13n "cursor" "I" (.int 0) := D1 (Or.inl (ow hw 147 rfl)) (ty := .int) (by decide)
  have f13 : Exa Z h1 a1 s7n := (P0.ext E1)
  have f14 : Fld Z h1 a1 s7n "elements" s8n (.ref a2) := (P1.ext E1)
  have f15 : Fld Z h1 a1 s7n "head" "I" (.int 0) := (P2.ext E1)
  have f16 : Fld Z h1 a1 s7n "tail" "I" (.int 1) := (P3.ext E1)
  have f17 : Arv Z h1 a2 k3 (.object s9n) (17 : Int32) ([(.ref a4), .null, .null, .null, .null, .null, .null, .null, .null, .null, .null, .null, .null, .null, .null, .null, .null]) .null := (P4.ext E1)
  obtain ⟨_, _, ⟨T18, L18, k18, n18⟩, -, X18, ⟨Lc18, hQ18, l18, y18, z18⟩, st18⟩ := X1.specialBack hx (y := M17) rfl hown (mvT hZ (ow hw 124 rfl)) (mvT hZ (ow hw 125 rfl)) (mvT hZ (ow hw 127 rfl)) (by decide) (backOf (W := 1) (au18_1 l Z a0 hw [] wMAX_LOCK_DELAY wGRANTED wQUEUED wBUSY wZERO hS b1 a1 a2 k3 a4 h1 n0 O8 A1 f12 f11 f10 f9 f13 f14 f15 f16 f17 g6 (Ne.symm ne2) (Ne.symm ne3)) hZ (ow hw 127 rfl) (ow hw 123 rfl) (by decide) (by decide)) (g := (mkF m 5 #[(vr a1)] [(.ref a1), (.ref b1), (.ref b1)])) rfl (by rw [hml]; rfl) (Steps.refl _) (a := b1) (argsL := [(.ref a1)]) (rest := [(.ref b1)]) (lenOf pd_12 rfl) rfl (by show 2 * 0 + _ ≤ _; exact Nat.le_of_eq rfl) (hb hby d17_5) (fun _ _ => ⟨rfl, e1, (by decide : 1 + 0 ≤ _), (by decide : 4 + 0 ≤ _)⟩)
  dsimp only [Pt.U, Pt.locs, Pt.cells, Pt.slots] at X18 l18 y18 z18 st18 hQ18
  subst l18 y18 z18
  obtain ⟨rfl, Nq18, K18q, p18_0, p18_1, p18_2, p18_3, p18_4⟩ := hQ18
  have N18 := Fr.app N0 Nq18
  have O19 : Old Z n0 T18.heap := O8.keep K18q (allS g6 all0)
  have K19 : Keep h0 T18.heap [] := K8.trans K18q (allS (Or.inr sz7) all0)
  obtain ⟨fs, hr, hrun, hended, hW, hsame⟩ := X18.leave (v := some (.ref b1)) (fun h => by rw [hret0] at h; cases h)
  refine ⟨_, _, pre0 _ ?_, hrun, hended, _, _, rfl, ?_, ⟨_, rfl⟩, hW, hsame.mono (by decide) (by decide)⟩
  · skip
    show Steps p.tables e below (s₁.setTop (mkF m 0 #[(vr a1)] [])) _
    refine st1 _ ?_
    refine XS.dup X1.here hx rfl (hb hby d17_3) rfl rfl ?_
    refine XS.aloadN X1.here hx rfl (hb hby d17_4) rfl rfl ?_
    refine st18.trans ?_
    jvm_step X18.here [X18.here.top, hx, (hb hby d17_8), X18.method', hret0, Value.isRef, FieldType.isReference]
    first | (intro acts; rw [hr _ acts rfl rfl rfl]) | rw [hr _ _ rfl rfl rfl]
    exact Steps.refl _
  · show Q_au17_2 Z wMAX_LOCK_DELAY wGRANTED wQUEUED wBUSY wZERO a1 a2 k3 a4 a5 h0 n0 _ T18.heap _
    exact ⟨b1, rfl, N18, K19, sz7, p18_0, p18_1, p18_2, p18_3, p18_4⟩
theorem ef_au30_3 (m : MethodId) (x0 : Addr) (x1 : Int64)  : entryFrame m #[(.ref x0), (.long x1)] 3 = mkF m 0 #[(vr x0), (vl x1), .second] [] := by first | (simp [entryFrame, mkF, argsToLocals, Value.category]; done) | rfl
def Q_au30_3 (Z : State) (wMAX_LOCK_DELAY : Addr) (wGRANTED : Addr) (wQUEUED : Addr) (wBUSY : Addr) (wZERO : Addr) (a1 : Addr) (q2 : Int64) (a4 : Addr) (h0 : Heap) (n0 : Nat) (v : Option Value) (h : Heap) (L : List Loc) : Prop := v = some (.int 1) ∧ Fr n0 L ∧ h = h0
theorem au30_3 (l : Launch) (Z : State) (a0 : Array Value) (hw : ∀ d ∈ tables_1, d.before a0 Z = true) (ws : List Jvm.Cond) (wMAX_LOCK_DELAY : Addr) (wGRANTED : Addr) (wQUEUED : Addr) (wBUSY : Addr) (wZERO : Addr) (hS : SS Z wMAX_LOCK_DELAY wGRANTED wQUEUED wBUSY wZERO) (a1 : Addr) (q2 : Int64) (a4 : Addr) (h0 : Heap) (n0 : Nat) (O0 : Old Z n0 h0) (P3 : Fld Z h0 a1 s4n "holder" s5n (.ref a4)) (P6 : Exa Z h0 a4 s3n) (P8 : Fld Z h0 a4 s3n "session" "J" (.long q2)) :
    MetB l M29 prog_84_method_7_code 3 (some .boolean) ws (rmk 1 0 0 12) Z h0 #[(.ref a1), (.long q2)] (Q_au30_3 Z wMAX_LOCK_DELAY wGRANTED wQUEUED wBUSY wZERO a1 q2 a4 h0 n0) := by
  refine own_body (plainFor_of_name pn_com_example_umpired_umpired_server_NodeLock) ?_
  intro p e s m below meth c s₁ hx hby hml hown hnm hret0 hlk0 hZ X0 e0
  have N0 := Fr.nil n0
  have pre0 : ∀ t, Steps p.tables e below (s₁.setTop (mkF m 0 #[(vr a1), (vl q2), .second] [])) t → Steps p.tables e below (s₁.setTop (entryFrame m #[(.ref a1), (.long q2)] 3)) t := fun t k => castTop (ef_au30_3 m a1 q2) k
  have hS0 := hS
  obtain ⟨S_wMAX_LOCK_DELAY, E_wMAX_LOCK_DELAY, S_wGRANTED, E_wGRANTED, S_wQUEUED, E_wQUEUED, S_wBUSY, E_wBUSY, F_seconds_wMAX_LOCK_DELAY, F_nanos_wMAX_LOCK_DELAY, S_wZERO, E_wZERO, F_seconds_wZERO, F_nanos_wZERO⟩ := hS0
  obtain ⟨T1, X1, e1, st1⟩ := getF X0 hx hZ hown (host := "") (Or.inl (ow hw 51 rfl)) Via.refl e0 P3 (g := (mkF m 1 #[(vr a1), (vl q2), .second] [(.ref a1)])) rfl rfl (hb hby d30_1)
  obtain ⟨T2, X2, e2, st2⟩ := getF X1 hx hZ hown (host := "") (Or.inl (ow hw 51 rfl)) Via.refl e1 P3 (g := (mkF m 8 #[(vr a1), (vl q2), .second] [(.ref a1)])) rfl rfl (hb hby d30_8)
  obtain ⟨cq3, kq3, q3a, q3b, q3c⟩ := isOf hZ e2 P6
  obtain ⟨_, _, ⟨T3, L3, k3, n3⟩, -, X3, ⟨Lc3, hQ3, l3, y3, z3⟩, st3⟩ := X2.virtualBack hx (y := M28) (z := M28) hown (mvT hZ (ow hw 209 rfl)) (mvT hZ (ow hw 210 rfl)) (notFace_of_selects (args := #[]) (mvT hZ (ow hw 212 rfl))) (mvT hZ (ow hw 212 rfl)) (mvT hZ (ow hw 211 rfl)) (by decide) (backOf (W := 0) (au29_0 l Z a0 hw [] wMAX_LOCK_DELAY wGRANTED wQUEUED wBUSY wZERO hS a4 q2 h0 n0 O0 P8) hZ (ow hw 213 rfl) (ow hw 37 rfl) (by decide) (by decide)) q3a q3c (g := (mkF m 11 #[(vr a1), (vl q2), .second] [(.ref a4)])) rfl (by rw [hml]; rfl) (Steps.refl _) (argsL := []) (rest := []) (lenOf pd_18 rfl) rfl (by show 2 * 0 + _ ≤ _; exact Nat.le_of_eq rfl) (hb hby d30_11) (fun _ _ => ⟨rfl, e2, (by decide : 0 + 0 ≤ _), (by decide : 0 + 0 ≤ _)⟩)
  dsimp only [Pt.U, Pt.locs, Pt.cells, Pt.slots] at X3 l3 y3 z3 st3 hQ3
  subst l3 y3 z3
  obtain ⟨rfl, Nq3, K3q⟩ := hQ3
  have N3 := Fr.app N0 Nq3
  obtain ⟨fs, hr, hrun, hended, hW, hsame⟩ := X3.leave (v := some (.int 1)) (fun h => by rw [hret0] at h; cases h)
  refine ⟨_, _, pre0 _ ?_, hrun, hended, _, _, rfl, ?_, ⟨_, rfl⟩, hW, hsame.mono (by decide) (by decide)⟩
  · skip
    show Steps p.tables e below (s₁.setTop (mkF m 0 #[(vr a1), (vl q2), .second] [])) _
    refine XS.aloadN X0.here hx rfl (hb hby d30_0) rfl rfl ?_
    refine st1 _ ?_
    refine XS.ifnullNo X1.here hx rfl (hb hby d30_4) rfl ?_
    refine XS.aloadN X1.here hx rfl (hb hby d30_7) rfl rfl ?_
    refine st2 _ ?_
    show Steps p.tables e below (T2.setTop (mkF m 11 #[(vr a1), (vl q2), .second] [(.ref a4)])) _
    refine st3.trans ?_
    refine XS.lloadN X3.here hx rfl (hb hby d30_14) rfl ?_
    refine XS.lcmp X3.here hx rfl (hb hby d30_15) rfl ?_
    refine XS.ifNo X3.here hx rfl (hb hby d30_16) rfl ((if0 _ _).trans (teq (own_lc _ : (lcmpW q2 q2) = (0 : Int32))).2) ?_
    refine XS.iconst X3.here hx rfl (hb hby d30_19) ?_
    show Steps p.tables e below (T3.setTop (mkF m 20 #[(vr a1), (vl q2), .second] [(.int 1)])) _
    refine XS.goto X3.here hx rfl (pc0 := 20) (pc' := 24) rfl (hb hby d30_20) (by decide) (by decide) ?_
    exact retN X3 hx (t := .boolean) hret0 (by simp) (hb hby d30_24) hr
  · show Q_au30_3 Z wMAX_LOCK_DELAY wGRANTED wQUEUED wBUSY wZERO a1 q2 a4 h0 n0 _ T3.heap _
    rw [K3q]
    exact ⟨rfl, N3, rfl⟩
theorem ef_au12_5 (m : MethodId) (x0 : Addr)  : entryFrame m #[(.ref x0)] 2 = mkF m 0 #[(vr x0), .unset] [] := by first | (simp [entryFrame, mkF, argsToLocals, Value.category]; done) | rfl
theorem ef_au10_3 (m : MethodId) (x0 : Addr) (x1 : Addr) (x2 : Addr)  : entryFrame m #[(.ref x0), (.ref x1), (.ref x2)] 3 = mkF m 0 #[(vr x0), (vr x1), (vr x2)] [] := by first | (simp [entryFrame, mkF, argsToLocals, Value.category]; done) | rfl
def Q_au10_3 (Z : State) (wMAX_LOCK_DELAY : Addr) (wGRANTED : Addr) (wQUEUED : Addr) (wBUSY : Addr) (wZERO : Addr) (a1 : Addr) (a2 : Addr) (q3 : Int64) (a4 : Addr) (h0 : Heap) (n0 : Nat) (v : Option Value) (h : Heap) (L : List Loc) : Prop := v = none ∧ Fr n0 L ∧ Keep h0 h [a1] ∧ Exa Z h a1 s4n ∧ Fld Z h a1 s4n "generation" "J" (.long (q3 + (1 : Int64))) ∧ Fld Z h a1 s4n "heldBack" "Z" (.int 0) ∧ Fld Z h a1 s4n "holder" s5n (.ref a2) ∧ Fld Z h a1 s4n s10n s0n (.ref wMAX_LOCK_DELAY) ∧ Fld Z h a1 s4n "waiters" s11n (.ref a4)
theorem au10_3 (l : Launch) (Z : State) (a0 : Array Value) (hw : ∀ d ∈ tables_1, d.before a0 Z = true) (ws : List Jvm.Cond) (wMAX_LOCK_DELAY : Addr) (wGRANTED : Addr) (wQUEUED : Addr) (wBUSY : Addr) (wZERO : Addr) (hS : SS Z wMAX_LOCK_DELAY wGRANTED wQUEUED wBUSY wZERO) (a1 : Addr) (a2 : Addr) (q3 : Int64) (a4 : Addr) (h0 : Heap) (n0 : Nat) (O0 : Old Z n0 h0) (P0 : Exa Z h0 a1 s4n) (P1 : Fld Z h0 a1 s4n "generation" "J" (.long q3)) (P2 : Fld Z h0 a1 s4n "heldBack" "Z" (.int 0)) (P3 : Fld Z h0 a1 s4n "holder" s5n .null) (P4 : Fld Z h0 a1 s4n s10n s0n (.ref wMAX_LOCK_DELAY)) (P5 : Fld Z h0 a1 s4n "waiters" s11n (.ref a4)) (P16 : n0 ≤ a1) :
    MetB l M7 prog_84_method_23_code 3 none ws (rmk 0 0 0 0) Z h0 #[(.ref a1), (.ref a2), (.ref wMAX_LOCK_DELAY)] (Q_au10_3 Z wMAX_LOCK_DELAY wGRANTED wQUEUED wBUSY wZERO a1 a2 q3 a4 h0 n0) := by
  refine own_body (plainFor_of_name pn_com_example_umpired_umpired_server_NodeLock) ?_
  intro p e s m below meth c s₁ hx hby hml hown hnm hret0 hlk0 hZ X0 e0
  have N0 := Fr.nil n0
  have pre0 : ∀ t, Steps p.tables e below (s₁.setTop (mkF m 0 #[(vr a1), (vr a2), (vr wMAX_LOCK_DELAY)] [])) t → Steps p.tables e below (s₁.setTop (entryFrame m #[(.ref a1), (.ref a2), (.ref wMAX_LOCK_DELAY)] 3)) t := fun t k => castTop (ef_au10_3 m a1 a2 wMAX_LOCK_DELAY) k
  have K0 := Keep.refl h0 [a1]
  have hS0 := hS
  obtain ⟨S_wMAX_LOCK_DELAY, E_wMAX_LOCK_DELAY, S_wGRANTED, E_wGRANTED, S_wQUEUED, E_wQUEUED, S_wBUSY, E_wBUSY, F_seconds_wMAX_LOCK_DELAY, F_nanos_wMAX_LOCK_DELAY, S_wZERO, E_wZERO, F_seconds_wZERO, F_nanos_wZERO⟩ := hS0
  obtain ⟨T1, h1, X1, e1, W1, st1⟩ := putF X0 hx hZ hown (host := "") (Or.inl (ow hw 51 rfl)) Via.refl e0 P3 P0 (Or.inl (ow hw 52 rfl)) (ow hw 1 rfl) (ty := (.object s3n)) (by decide) rfl rfl (g := (mkF m 2 #[(vr a1), (vr a2), (vr wMAX_LOCK_DELAY)] [(.ref a2), (.ref a1)])) rfl rfl (hb hby d10_2)
  have N1 := Fr.snoc X1 N0 P16
  have O2 : Old Z n0 h1 := O0.wr W1 P16
  have K2 : Keep h0 h1 [a1] := K0.wr W1 (Or.inl (List.mem_of_getElem? (i := 0) rfl))
  have Fw1 : Fld Z h1 a1 s4n "holder" s5n (.ref a2) := P3.same W1
  have f3 : Exa Z h1 a1 s4n := (P0.wr W1)
  have f4 : Fld Z h1 a1 s4n s10n s0n (.ref wMAX_LOCK_DELAY) := (P4.other W1 (Or.inr (slot_ne (Or.inl (ow hw 31 rfl)) (Or.inl (ow hw 52 rfl)) (by decide) (t := (.object s1n)) (t' := (.object s3n)) (by decide) (by decide))))
  obtain ⟨T5, h5, X5, e5, W5, st5⟩ := putF X1 hx hZ hown (host := "") (Or.inl (ow hw 30 rfl)) Via.refl e1 f4 f3 (Or.inl (ow hw 31 rfl)) (ow hw 1 rfl) (ty := (.object s1n)) (by decide) rfl rfl (g := (mkF m 7 #[(vr a1), (vr a2), (vr wMAX_LOCK_DELAY)] [(.ref wMAX_LOCK_DELAY), (.ref a1)])) rfl rfl (hb hby d10_7)
  have N5 := Fr.snoc X5 N1 P16
  have O6 : Old Z n0 h5 := O2.wr W5 P16
  have K6 : Keep h0 h5 [a1] := K2.wr W5 (Or.inl (List.mem_of_getElem? (i := 0) rfl))
  have Fw5 : Fld Z h5 a1 s4n s10n s0n (.ref wMAX_LOCK_DELAY) := f4.same W5
  have f7 : Fld Z h5 a1 s4n "generation" "J" (.long q3) := ((P1.other W1 (Or.inr (slot_ne (Or.inl (ow hw 75 rfl)) (Or.inl (ow hw 52 rfl)) (by decide) (t := .long) (t' := (.object s3n)) (by decide) (by decide)))).other W5 (Or.inr (slot_ne (Or.inl (ow hw 75 rfl)) (Or.inl (ow hw 31 rfl)) (by decide) (t := .long) (t' := (.object s1n)) (by decide) (by decide))))
  obtain ⟨T8, X8, e8, st8⟩ := getF X5 hx hZ hown (host := "") (Or.inl (ow hw 74 rfl)) Via.refl e5 f7 (g := (mkF m 12 #[(vr a1), (vr a2), (vr wMAX_LOCK_DELAY)] [(.ref a1), (.ref a1)])) rfl rfl (hb hby d10_12)
  have f9 : Exa Z h5 a1 s4n := (f3.wr W5)
  obtain ⟨T10, h10, X10, e10, W10, st10⟩ := putF X8 hx hZ hown (host := "") (Or.inl (ow hw 74 rfl)) Via.refl e8 f7 f9 (Or.inl (ow hw 75 rfl)) (ow hw 1 rfl) (ty := .long) (by decide) rfl rfl (g := (mkF m 17 #[(vr a1), (vr a2), (vr wMAX_LOCK_DELAY)] [(.long (q3 + (1 : Int64))), (.ref a1)])) rfl rfl (hb hby d10_17)
  have N10 := Fr.snoc X10 N5 P16
  have O11 : Old Z n0 h10 := O6.wr W10 P16
  have K11 : Keep h0 h10 [a1] := K6.wr W10 (Or.inl (List.mem_of_getElem? (i := 0) rfl))
  have Fw10 : Fld Z h10 a1 s4n "generation" "J" (.long (q3 + (1 : Int64))) := f7.same W10
  have f12 : Exa Z h10 a1 s4n := (f9.wr W10)
  have f13 : Fld Z h10 a1 s4n "heldBack" "Z" (.int 0) := (((P2.other W1 (Or.inr (slot_ne (Or.inl (ow hw 69 rfl)) (Or.inl (ow hw 52 rfl)) (by decide) (t := .boolean) (t' := (.object s3n)) (by decide) (by decide)))).other W5 (Or.inr (slot_ne (Or.inl (ow hw 69 rfl)) (Or.inl (ow hw 31 rfl)) (by decide) (t := .boolean) (t' := (.object s1n)) (by decide) (by decide)))).other W10 (Or.inr (slot_ne (Or.inl (ow hw 69 rfl)) (Or.inl (ow hw 75 rfl)) (by decide) (t := .boolean) (t' := .long) (by decide) (by decide))))
  have f14 : Fld Z h10 a1 s4n "holder" s5n (.ref a2) := ((Fw1.other W5 (Or.inr (slot_ne (Or.inl (ow hw 52 rfl)) (Or.inl (ow hw 31 rfl)) (by decide) (t := (.object s3n)) (t' := (.object s1n)) (by decide) (by decide)))).other W10 (Or.inr (slot_ne (Or.inl (ow hw 52 rfl)) (Or.inl (ow hw 75 rfl)) (by decide) (t := (.object s3n)) (t' := .long) (by decide) (by decide))))
  have f15 : Fld Z h10 a1 s4n s10n s0n (.ref wMAX_LOCK_DELAY) := (Fw5.other W10 (Or.inr (slot_ne (Or.inl (ow hw 31 rfl)) (Or.inl (ow hw 75 rfl)) (by decide) (t := (.object s1n)) (t' := .long) (by decide) (by decide))))
  have f16 : Fld Z h10 a1 s4n "waiters" s11n (.ref a4) := (((P5.other W1 (Or.inr (slot_ne (Or.inr (ow hw 27 rfl)) (Or.inl (ow hw 52 rfl)) (by decide) (t := (.object s12n)) (t' := (.object s3n)) (by decide) (by decide)))).other W5 (Or.inr (slot_ne (Or.inr (ow hw 27 rfl)) (Or.inl (ow hw 31 rfl)) (by decide) (t := (.object s12n)) (t' := (.object s1n)) (by decide) (by decide)))).other W10 (Or.inr (slot_ne (Or.inr (ow hw 27 rfl)) (Or.inl (ow hw 75 rfl)) (by decide) (t := (.object s12n)) (t' := .long) (by decide) (by decide))))
  obtain ⟨fs, hr, hrun, hended, hW, hsame⟩ := X10.leave (v := none) (fun _ => rfl)
  refine ⟨_, _, pre0 _ ?_, hrun, hended, _, _, rfl, ?_, ⟨_, rfl⟩, hW, hsame.mono (by decide) (by decide)⟩
  · skip
    show Steps p.tables e below (s₁.setTop (mkF m 0 #[(vr a1), (vr a2), (vr wMAX_LOCK_DELAY)] [])) _
    refine XS.aloadN X0.here hx rfl (hb hby d10_0) rfl rfl ?_
    refine XS.aloadN X0.here hx rfl (hb hby d10_1) rfl rfl ?_
    refine st1 _ ?_
    refine XS.aloadN X1.here hx rfl (hb hby d10_5) rfl rfl ?_
    refine XS.aloadN X1.here hx rfl (hb hby d10_6) rfl rfl ?_
    show Steps p.tables e below (T1.setTop (mkF m 7 #[(vr a1), (vr a2), (vr wMAX_LOCK_DELAY)] [(.ref wMAX_LOCK_DELAY), (.ref a1)])) _
    refine st5 _ ?_
    refine XS.aloadN X5.here hx rfl (hb hby d10_10) rfl rfl ?_
    refine XS.dup X5.here hx rfl (hb hby d10_11) rfl rfl ?_
    refine st8 _ ?_
    refine XS.lconst X8.here hx rfl (hb hby d10_15) ?_
    show Steps p.tables e below (T8.setTop (mkF m 16 #[(vr a1), (vr a2), (vr wMAX_LOCK_DELAY)] [(.long 1), (.long q3), (.ref a1)])) _
    refine XS.ladd X8.here hx rfl (hb hby d10_16) rfl ?_
    refine st10 _ ?_
    exact X10.returnOut hx hret0 (hb hby d10_20) hr
  · show Q_au10_3 Z wMAX_LOCK_DELAY wGRANTED wQUEUED wBUSY wZERO a1 a2 q3 a4 h0 n0 _ T10.heap _
    rw [e10]
    exact ⟨rfl, N10, K11, f12, Fw10, f13, f14, f15, f16⟩
def Q_au12_5 (Z : State) (wMAX_LOCK_DELAY : Addr) (wGRANTED : Addr) (wQUEUED : Addr) (wBUSY : Addr) (wZERO : Addr) (a1 : Addr) (q2 : Int64) (a3 : Addr) (a4 : Addr) (k5 : ClassId) (a6 : Addr) (a7 : Addr) (h0 : Heap) (n0 : Nat) (v : Option Value) (h : Heap) (L : List Loc) : Prop := v = some (.ref a7) ∧ Fr n0 L ∧ Keep h0 h [a4, a3, a1] ∧ Exa Z h a4 s8n ∧ Arv Z h a4 k5 (.object s9n) (17 : Int32) ([.null, .null, .null, .null, .null, .null, .null, .null, .null, .null, .null, .null, .null, .null, .null, .null, .null]) .null ∧ Ovr Z k5 s9n ∧ Exa Z h a3 s7n ∧ Fld Z h a3 s7n "elements" s8n (.ref a4) ∧ Fld Z h a3 s7n "head" "I" (.int 1) ∧ Fld Z h a3 s7n "tail" "I" (.int 1) ∧ Exa Z h a1 s4n ∧ Fld Z h a1 s4n "generation" "J" (.long (q2 + (1 : Int64))) ∧ Fld Z h a1 s4n "heldBack" "Z" (.int 0) ∧ Fld Z h a1 s4n "holder" s5n (.ref a7) ∧ Fld Z h a1 s4n s10n s0n (.ref wMAX_LOCK_DELAY) ∧ Fld Z h a1 s4n "waiters" s11n (.ref a3)
theorem au12_5 (l : Launch) (Z : State) (a0 : Array Value) (hw : ∀ d ∈ tables_1, d.before a0 Z = true) (ws : List Jvm.Cond) (wMAX_LOCK_DELAY : Addr) (wGRANTED : Addr) (wQUEUED : Addr) (wBUSY : Addr) (wZERO : Addr) (hS : SS Z wMAX_LOCK_DELAY wGRANTED wQUEUED wBUSY wZERO) (a1 : Addr) (q2 : Int64) (a3 : Addr) (a4 : Addr) (k5 : ClassId) (a6 : Addr) (a7 : Addr) (h0 : Heap) (n0 : Nat) (O0 : Old Z n0 h0) (P0 : Exa Z h0 a1 s4n) (P1 : Fld Z h0 a1 s4n "generation" "J" (.long q2)) (P2 : Fld Z h0 a1 s4n "heldBack" "Z" (.int 0)) (P3 : Fld Z h0 a1 s4n "holder" s5n .null) (P4 : Fld Z h0 a1 s4n s10n s0n (.ref wMAX_LOCK_DELAY)) (P5 : Fld Z h0 a1 s4n "waiters" s11n (.ref a3)) (P6 : Exa Z h0 a3 s7n) (P7 : Fld Z h0 a3 s7n "elements" s8n (.ref a4)) (P8 : Fld Z h0 a3 s7n "head" "I" (.int 0)) (P9 : Fld Z h0 a3 s7n "tail" "I" (.int 1)) (P10 : Arv Z h0 a4 k5 (.object s9n) (17 : Int32) ([(.ref a6), .null, .null, .null, .null, .null, .null, .null, .null, .null, .null, .null, .null, .null, .null, .null, .null]) .null) (P11 : Ovr Z k5 s9n) (P12 : Exa Z h0 a4 s8n) (P13 : Exa Z h0 a6 s16n) (P14 : Fld Z h0 a6 s16n "lockDelay" s0n (.ref wMAX_LOCK_DELAY)) (P15 : Fld Z h0 a6 s16n "owner" s5n (.ref a7)) (P19 : n0 ≤ a1) (P20 : n0 ≤ a3) (P21 : n0 ≤ a4) (P24 : a1 ≠ a3) (P25 : a1 ≠ a4) (P26 : a1 ≠ a6) (P28 : a3 ≠ a4) (P29 : a3 ≠ a6) (P31 : a4 ≠ a6) :
    MetB l M12 prog_84_method_22_code 2 (some (.object s3n)) ws (rmk 3 0 0 41) Z h0 #[(.ref a1)] (Q_au12_5 Z wMAX_LOCK_DELAY wGRANTED wQUEUED wBUSY wZERO a1 q2 a3 a4 k5 a6 a7 h0 n0) := by
  refine own_body (plainFor_of_name pn_com_example_umpired_umpired_server_NodeLock) ?_
  intro p e s m below meth c s₁ hx hby hml hown hnm hret0 hlk0 hZ X0 e0
  have N0 := Fr.nil n0
  have pre0 : ∀ t, Steps p.tables e below (s₁.setTop (mkF m 0 #[(vr a1), .unset] [])) t → Steps p.tables e below (s₁.setTop (entryFrame m #[(.ref a1)] 2)) t := fun t k => castTop (ef_au12_5 m a1) k
  have K0 := Keep.refl h0 [a4, a3, a1]
  have hS0 := hS
  obtain ⟨S_wMAX_LOCK_DELAY, E_wMAX_LOCK_DELAY, S_wGRANTED, E_wGRANTED, S_wQUEUED, E_wQUEUED, S_wBUSY, E_wBUSY, F_seconds_wMAX_LOCK_DELAY, F_nanos_wMAX_LOCK_DELAY, S_wZERO, E_wZERO, F_seconds_wZERO, F_nanos_wZERO⟩ := hS0
  obtain ⟨T1, X1, e1, st1⟩ := getF X0 hx hZ hown (host := "") (Or.inl (ow hw 26 rfl)) Via.refl e0 P5 (g := (mkF m 1 #[(vr a1), .unset] [(.ref a1)])) rfl rfl (hb hby d12_1)
  obtain ⟨cq2, kq2, q2a, q2b, q2c⟩ := isOf hZ e1 P6
  obtain ⟨_, _, ⟨T2, L2, k2, n2⟩, -, X2, ⟨Lc2, hQ2, l2, y2, z2⟩, st2⟩ := X1.interfaceBack hx (xi := M13) (y := M11) hown (mvT hZ (ow hw 88 rfl)) (mvT hZ (ow hw 89 rfl)) (mvT hZ (ow hw 90 rfl)) (mvT hZ (ow hw 91 rfl)) (mvT hZ (ow hw 92 rfl)) (mvT hZ (ow hw 93 rfl)) (mvT hZ (ow hw 94 rfl)) (mvT hZ (ow hw 95 rfl)) (by decide) (backOf (W := 0) (au13_1 l Z a0 hw [] wMAX_LOCK_DELAY wGRANTED wQUEUED wBUSY wZERO hS a3 a4 k5 a6 h0 n0 O0 P6 P7 P8 P9 P10 P11 P12 P20 P21 P28) hZ (ow hw 96 rfl) (ow hw 11 rfl) (by decide) (by decide)) q2a q2b q2c (g := (mkF m 4 #[(vr a1), .unset] [(.ref a3)])) rfl (by rw [hml]; rfl) (Steps.refl _) (argsL := []) (rest := []) (lenOf pd_8 rfl) rfl (by show 2 * 0 + _ ≤ _; exact Nat.le_of_eq rfl) (hb hby d12_4) (fun _ _ => ⟨rfl, e1, (by decide : 0 + 0 ≤ _), (by decide : 0 + 0 ≤ _)⟩)
  dsimp only [Pt.U, Pt.locs, Pt.cells, Pt.slots] at X2 l2 y2 z2 st2 hQ2
  subst l2 y2 z2
  obtain ⟨rfl, Nq2, K2q, p2_0, p2_1, p2_2, p2_3, p2_4, p2_5, p2_6⟩ := hQ2
  have N2 := Fr.app N0 Nq2
  have O3 : Old Z n0 T2.heap := O0.keep K2q (allS P21 (allS P20 all0))
  have K3 : Keep h0 T2.heap [a4, a3, a1] := K0.trans K2q (allS (Or.inl (List.mem_of_getElem? (i := 0) rfl)) (allS (Or.inl (List.mem_of_getElem? (i := 1) rfl)) all0))
  have f4 : Exa Z T2.heap a6 s16n := (P13.keep K2q)
  obtain ⟨T5, X5, e5, st5⟩ := castY X2 hx hZ hown (ow hw 157 rfl) rfl (Ins.self f4) (g := (mkF m 9 #[(vr a1), .unset] [(.ref a6)])) rfl rfl (hb hby d12_9)
  have f6 : Fld Z T2.heap a6 s16n "owner" s5n (.ref a7) := (P15.keep K2q (ninS (Ne.symm P31) (ninS (Ne.symm P29) nin0)))
  obtain ⟨T7, X7, e7, st7⟩ := own_getR X5 hx hZ hown (ow hw 188 rfl) e5 f6 (g := (mkF m 19 #[(vr a1), (vr a6)] [(.ref a6), (.ref a1)])) rfl rfl (hb hby d12_19)
  have f8 : Fld Z T2.heap a6 s16n "lockDelay" s0n (.ref wMAX_LOCK_DELAY) := (P14.keep K2q (ninS (Ne.symm P31) (ninS (Ne.symm P29) nin0)))
  obtain ⟨T9, X9, e9, st9⟩ := own_getR X7 hx hZ hown (ow hw 189 rfl) e7 f8 (g := (mkF m 23 #[(vr a1), (vr a6)] [(.ref a6), (.ref a7), (.ref a1)])) rfl rfl (hb hby d12_23)
  have f10 : Exa Z T2.heap a1 s4n := (P0.keep K2q)
  have f11 : Fld Z T2.heap a1 s4n "generation" "J" (.long q2) := (P1.keep K2q (ninS P25 (ninS P24 nin0)))
  have f12 : Fld Z T2.heap a1 s4n "heldBack" "Z" (.int 0) := (P2.keep K2q (ninS P25 (ninS P24 nin0)))
  have f13 : Fld Z T2.heap a1 s4n "holder" s5n .null := (P3.keep K2q (ninS P25 (ninS P24 nin0)))
  have f14 : Fld Z T2.heap a1 s4n s10n s0n (.ref wMAX_LOCK_DELAY) := (P4.keep K2q (ninS P25 (ninS P24 nin0)))
  have f15 : Fld Z T2.heap a1 s4n "waiters" s11n (.ref a3) := (P5.keep K2q (ninS P25 (ninS P24 nin0)))
  obtain ⟨cq16, q16, q16'⟩ := f10.cell
  obtain ⟨_, _, ⟨T16, L16, k16, n16⟩, -, X16, ⟨Lc16, hQ16, l16, y16, z16⟩, st16⟩ := X9.privateBack hx (y := M7) hown (mvT hZ (ow hw 70 rfl)) (mvT hZ (ow hw 71 rfl)) (own_selp (mvT hZ (ow hw 1 rfl)) (mvP hZ (ow hw 72 rfl)) (mvT hZ (ow hw 71 rfl)) (by decide)) (Cond.privateMethod_at (mvP hZ (ow hw 72 rfl) (args := #[]))) (mvT hZ (ow hw 73 rfl)) (by decide) (backOf (W := 0) (au10_3 l Z a0 hw [] wMAX_LOCK_DELAY wGRANTED wQUEUED wBUSY wZERO hS a1 a7 q2 a3 T2.heap n0 O3 f10 f11 f12 f13 f14 f15 P19) hZ (ow hw 73 rfl) (ow hw 2 rfl) (by decide) (by decide)) (g := (mkF m 26 #[(vr a1), (vr a6)] [(.ref wMAX_LOCK_DELAY), (.ref a7), (.ref a1)])) rfl (by rw [hml]; rfl) (Steps.refl _) (a := a1) (by rw [e9]; exact q16) q16' (argsL := [(.ref a7), (.ref wMAX_LOCK_DELAY)]) (rest := []) (lenOf pd_5 rfl) rfl (by show 2 * 0 + _ ≤ _; exact Nat.le_of_eq rfl) (hb hby d12_26) (fun _ _ => ⟨rfl, e9, (by decide : 0 + 0 ≤ _), (by decide : 0 + 0 ≤ _)⟩)
  dsimp only [Pt.U, Pt.locs, Pt.cells, Pt.slots] at X16 l16 y16 z16 st16 hQ16
  subst l16 y16 z16
  obtain ⟨rfl, Nq16, K16q, p16_0, p16_1, p16_2, p16_3, p16_4, p16_5⟩ := hQ16
  have N16 := Fr.app N2 Nq16
  have O17 : Old Z n0 T16.heap := O3.keep K16q (allS P19 all0)
  have K17 : Keep h0 T16.heap [a4, a3, a1] := K3.trans K16q (allS (Or.inl (List.mem_of_getElem? (i := 2) rfl)) all0)
  have f18 : Fld Z T16.heap a6 s16n "owner" s5n (.ref a7) := (f6.keep K16q (ninS (Ne.symm P26) nin0))
  obtain ⟨T19, X19, e19, st19⟩ := own_getR X16 hx hZ hown (ow hw 188 rfl) rfl f18 (g := (mkF m 38 #[(vr a1), (vr a6)] [(.ref a6)])) rfl rfl (hb hby d12_38)
  have f20 : Exa Z T16.heap a4 s8n := (p2_0.keep K16q)
  have f21 : Arv Z T16.heap a4 k5 (.object s9n) (17 : Int32) ([.null, .null, .null, .null, .null, .null, .null, .null, .null, .null, .null, .null, .null, .null, .null, .null, .null]) .null := (p2_1.keep K16q (ninS (Ne.symm P25) nin0))
  have f22 : Exa Z T16.heap a3 s7n := (p2_3.keep K16q)
  have f23 : Fld Z T16.heap a3 s7n "elements" s8n (.ref a4) := (p2_4.keep K16q (ninS (Ne.symm P24) nin0))
  have f24 : Fld Z T16.heap a3 s7n "head" "I" (.int 1) := (p2_5.keep K16q (ninS (Ne.symm P24) nin0))
  have f25 : Fld Z T16.heap a3 s7n "tail" "I" (.int 1) := (p2_6.keep K16q (ninS (Ne.symm P24) nin0))
  obtain ⟨fs, hr, hrun, hended, hW, hsame⟩ := X19.leave (v := some (.ref a7)) (fun h => by rw [hret0] at h; cases h)
  refine ⟨_, _, pre0 _ ?_, hrun, hended, _, _, rfl, ?_, ⟨_, rfl⟩, hW, hsame.mono (by decide) (by decide)⟩
  · skip
    show Steps p.tables e below (s₁.setTop (mkF m 0 #[(vr a1), .unset] [])) _
    refine XS.aloadN X0.here hx rfl (hb hby d12_0) rfl rfl ?_
    refine st1 _ ?_
    refine st2.trans ?_
    refine st5 _ ?_
    refine XS.astoreN X5.here hx rfl (hb hby d12_12) rfl rfl (l' := #[(vr a1), (vr a6)]) rfl ?_
    show Steps p.tables e below (T5.setTop (mkF m 13 #[(vr a1), (vr a6)] [])) _
    refine XS.aloadN X5.here hx rfl (hb hby d12_13) rfl rfl ?_
    refine XS.ifnullNo X5.here hx rfl (hb hby d12_14) rfl ?_
    refine XS.aloadN X5.here hx rfl (hb hby d12_17) rfl rfl ?_
    refine XS.aloadN X5.here hx rfl (hb hby d12_18) rfl rfl ?_
    refine st7 _ ?_
    show Steps p.tables e below (T7.setTop (mkF m 22 #[(vr a1), (vr a6)] [(.ref a7), (.ref a1)])) _
    refine XS.aloadN X7.here hx rfl (hb hby d12_22) rfl rfl ?_
    refine st9 _ ?_
    refine st16.trans ?_
    refine XS.aloadN X16.here hx rfl (hb hby d12_29) rfl rfl ?_
    refine XS.ifnonnullYes X16.here hx rfl (pc0 := 30) (pc' := 37) rfl (hb hby d12_30) rfl (by decide) (by decide) ?_
    show Steps p.tables e below (T16.setTop (mkF m 37 #[(vr a1), (vr a6)] [])) _
    refine XS.aloadN X16.here hx rfl (hb hby d12_37) rfl rfl ?_
    refine st19 _ ?_
    jvm_step X19.here [X19.here.top, hx, (hb hby d12_41), X19.method', hret0, Value.isRef, FieldType.isReference]
    first | (intro acts; rw [hr _ acts rfl rfl rfl]) | rw [hr _ _ rfl rfl rfl]
    exact Steps.refl _
  · show Q_au12_5 Z wMAX_LOCK_DELAY wGRANTED wQUEUED wBUSY wZERO a1 q2 a3 a4 k5 a6 a7 h0 n0 _ T19.heap _
    rw [e19]
    exact ⟨rfl, N16, K17, f20, f21, p2_2, f22, f23, f24, f25, p16_0, p16_1, p16_2, p16_3, p16_4, p16_5⟩
def Q_au26_5 (Z : State) (wMAX_LOCK_DELAY : Addr) (wGRANTED : Addr) (wQUEUED : Addr) (wBUSY : Addr) (wZERO : Addr) (a1 : Addr) (q2 : Int64) (qg3 : Int64) (a4 : Addr) (a5 : Addr) (a7 : Addr) (k8 : ClassId) (a9 : Addr) (a10 : Addr) (q12 : Int64) (h0 : Heap) (n0 : Nat) (v : Option Value) (h : Heap) (L : List Loc) : Prop := v = some (.ref a10) ∧ Fr n0 L ∧ Keep h0 h [a1, a7, a5] ∧ Exa Z h a1 s4n ∧ Fld Z h a1 s4n "generation" "J" (.long (qg3 + (1 : Int64))) ∧ Fld Z h a1 s4n "heldBack" "Z" (.int 0) ∧ Fld Z h a1 s4n "holder" s5n (.ref a10) ∧ Fld Z h a1 s4n s10n s0n (.ref wMAX_LOCK_DELAY) ∧ Fld Z h a1 s4n "waiters" s11n (.ref a5) ∧ Exa Z h a7 s8n ∧ Arv Z h a7 k8 (.object s9n) (17 : Int32) ([.null, .null, .null, .null, .null, .null, .null, .null, .null, .null, .null, .null, .null, .null, .null, .null, .null]) .null ∧ Ovr Z k8 s9n ∧ Exa Z h a5 s7n ∧ Fld Z h a5 s7n "elements" s8n (.ref a7) ∧ Fld Z h a5 s7n "head" "I" (.int 1) ∧ Fld Z h a5 s7n "tail" "I" (.int 1)
theorem au26_5 (l : Launch) (Z : State) (a0 : Array Value) (hw : ∀ d ∈ tables_1, d.before a0 Z = true) (ws : List Jvm.Cond) (wMAX_LOCK_DELAY : Addr) (wGRANTED : Addr) (wQUEUED : Addr) (wBUSY : Addr) (wZERO : Addr) (hS : SS Z wMAX_LOCK_DELAY wGRANTED wQUEUED wBUSY wZERO) (a1 : Addr) (q2 : Int64) (qg3 : Int64) (a4 : Addr) (a5 : Addr) (a7 : Addr) (k8 : ClassId) (a9 : Addr) (a10 : Addr) (q12 : Int64) (h0 : Heap) (n0 : Nat) (O0 : Old Z n0 h0) (P0 : Exa Z h0 a1 s4n) (P1 : Fld Z h0 a1 s4n "generation" "J" (.long qg3)) (P2 : Fld Z h0 a1 s4n "heldBack" "Z" (.int 0)) (P3 : Fld Z h0 a1 s4n "holder" s5n (.ref a4)) (P4 : Fld Z h0 a1 s4n s10n s0n (.ref wMAX_LOCK_DELAY)) (P5 : Fld Z h0 a1 s4n "waiters" s11n (.ref a5)) (P6 : Exa Z h0 a4 s3n) (P8 : Fld Z h0 a4 s3n "session" "J" (.long q2)) (P9 : Exa Z h0 a5 s7n) (P10 : Fld Z h0 a5 s7n "elements" s8n (.ref a7)) (P11 : Fld Z h0 a5 s7n "head" "I" (.int 0)) (P12 : Fld Z h0 a5 s7n "tail" "I" (.int 1)) (P13 : Arv Z h0 a7 k8 (.object s9n) (17 : Int32) ([(.ref a9), .null, .null, .null, .null, .null, .null, .null, .null, .null, .null, .null, .null, .null, .null, .null, .null]) .null) (P14 : Ovr Z k8 s9n) (P15 : Exa Z h0 a7 s8n) (P16 : Exa Z h0 a9 s16n) (P17 : Fld Z h0 a9 s16n "lockDelay" s0n (.ref wMAX_LOCK_DELAY)) (P18 : Fld Z h0 a9 s16n "owner" s5n (.ref a10)) (P19 : Exa Z h0 a10 s3n) (P21 : Fld Z h0 a10 s3n "session" "J" (.long q12)) (P22 : q2 ≠ q12) (P24 : n0 ≤ a1) (P26 : n0 ≤ a5) (P27 : n0 ≤ a7) (P31 : a1 ≠ a5) (P32 : a1 ≠ a7) (P33 : a1 ≠ a9) (P39 : a5 ≠ a7) (P40 : a5 ≠ a9) (P42 : a7 ≠ a9) :
    MetB l M30 prog_84_method_14_code 6 (some (.object s3n)) ws (rmk 4 1 4 54) Z h0 #[(.ref a1), (.long q2), (.int 0)] (Q_au26_5 Z wMAX_LOCK_DELAY wGRANTED wQUEUED wBUSY wZERO a1 q2 qg3 a4 a5 a7 k8 a9 a10 q12 h0 n0) := by
  refine own_body (plainFor_of_name pn_com_example_umpired_umpired_server_NodeLock) ?_
  intro p e s m below meth c s₁ hx hby hml hown hnm hret0 hlk0 hZ X0 e0
  have N0 := Fr.nil n0
  have pre0 : ∀ t, Steps p.tables e below (s₁.setTop (mkF m 0 #[(vr a1), (vl q2), .second, (vi 0), .unset, .unset] [])) t → Steps p.tables e below (s₁.setTop (entryFrame m #[(.ref a1), (.long q2), (.int 0)] 6)) t := fun t k => castTop (ef_au26_5 m a1 q2 (0 : Int32)) k
  have K0 := Keep.refl h0 [a1, a7, a5]
  have hS0 := hS
  obtain ⟨S_wMAX_LOCK_DELAY, E_wMAX_LOCK_DELAY, S_wGRANTED, E_wGRANTED, S_wQUEUED, E_wQUEUED, S_wBUSY, E_wBUSY, F_seconds_wMAX_LOCK_DELAY, F_nanos_wMAX_LOCK_DELAY, S_wZERO, E_wZERO, F_seconds_wZERO, F_nanos_wZERO⟩ := hS0
  obtain ⟨T1, X1, e1, st1⟩ := getF X0 hx hZ hown (host := "") (Or.inl (ow hw 26 rfl)) Via.refl e0 P5 (g := (mkF m 1 #[(vr a1), (vl q2), .second, (vi 0), .unset, .unset] [(.ref a1)])) rfl rfl (hb hby d26_1)
  obtain ⟨cq2, kq2, q2a, q2b, q2c⟩ := isOf hZ e1 P9
  obtain ⟨_, _, ⟨T2, L2, k2, n2⟩, -, X2, ⟨Lc2, hQ2, l2, y2, z2⟩, st2⟩ := X1.interfaceBack hx (xi := M21) (y := M18) hown (mvT hZ (ow hw 113 rfl)) (mvT hZ (ow hw 114 rfl)) (mvT hZ (ow hw 115 rfl)) (mvT hZ (ow hw 116 rfl)) (mvT hZ (ow hw 117 rfl)) (mvT hZ (ow hw 118 rfl)) (mvT hZ (ow hw 119 rfl)) (mvT hZ (ow hw 95 rfl)) (by decide) (backOf (W := 0) (au17_2 l Z a0 hw [] wMAX_LOCK_DELAY wGRANTED wQUEUED wBUSY wZERO hS a5 a7 k8 a9 a10 h0 n0 O0 P9 P10 P11 P12 P13 P16 P19) hZ (ow hw 120 rfl) (ow hw 11 rfl) (by decide) (by decide)) q2a q2b q2c (g := (mkF m 4 #[(vr a1), (vl q2), .second, (vi 0), .unset, .unset] [(.ref a5)])) rfl (by rw [hml]; rfl) (Steps.refl _) (argsL := []) (rest := []) (lenOf pd_13 rfl) rfl (by show 2 * 0 + _ ≤ _; exact Nat.le_of_eq rfl) (hb hby d26_4) (fun _ _ => ⟨rfl, e1, (by decide : 0 + 1 ≤ _), (by decide : 0 + 4 ≤ _)⟩)
  dsimp only [Pt.U, Pt.locs, Pt.cells, Pt.slots] at X2 l2 y2 z2 st2 hQ2
  subst l2 y2 z2
  obtain ⟨e1_2, rfl, Nq2, K2q, p2_0, p2_1, p2_2, p2_3, p2_4, p2_5⟩ := hQ2
  have N2 := Fr.app N0 Nq2
  have ne3 : a1 ≠ e1_2 := Nat.ne_of_lt (Nat.lt_of_lt_of_le P0.lt p2_0)
  have ne4 : a4 ≠ e1_2 := Nat.ne_of_lt (Nat.lt_of_lt_of_le P6.lt p2_0)
  have ne5 : a5 ≠ e1_2 := Nat.ne_of_lt (Nat.lt_of_lt_of_le P9.lt p2_0)
  have ne6 : a7 ≠ e1_2 := Nat.ne_of_lt (Nat.lt_of_lt_of_le P13.lt p2_0)
  have ne7 : a9 ≠ e1_2 := Nat.ne_of_lt (Nat.lt_of_lt_of_le P16.lt p2_0)
  have ne8 : a10 ≠ e1_2 := Nat.ne_of_lt (Nat.lt_of_lt_of_le P19.lt p2_0)
  have g9 : n0 ≤ e1_2 := Nat.le_trans (own_sz O0) p2_0
  have sz10 : h0.size ≤ e1_2 := Nat.le_trans K0.1 p2_0
  have O11 : Old Z n0 T2.heap := O0.keep K2q all0
  have K11 : Keep h0 T2.heap [a1, a7, a5] := K0.trans K2q all0
  obtain ⟨cq12, kq12, q12a, q12b, q12c⟩ := isOf hZ rfl p2_1
  obtain ⟨_, _, ⟨T12, L12, k12, n12⟩, -, X12, ⟨Lc12, hQ12, l12, y12, z12⟩, st12⟩ := X2.interfaceBack hx (xi := M22) (y := M19) hown (mvT hZ (ow hw 148 rfl)) (mvT hZ (ow hw 149 rfl)) (mvT hZ (ow hw 150 rfl)) (mvT hZ (ow hw 151 rfl)) (mvT hZ (ow hw 152 rfl)) (mvT hZ (ow hw 153 rfl)) (mvT hZ (ow hw 154 rfl)) (mvT hZ (ow hw 155 rfl)) (by decide) (backOf (W := 0) (au21_1 l Z a0 hw [] wMAX_LOCK_DELAY wGRANTED wQUEUED wBUSY wZERO hS e1_2 T2.heap n0 O11 p2_4) hZ (ow hw 156 rfl) (ow hw 123 rfl) (by decide) (by decide)) q12a q12b q12c (g := (mkF m 13 #[(vr a1), (vl q2), .second, (vi 0), (vr e1_2), .unset] [(.ref e1_2)])) rfl (by rw [hml]; rfl) (Steps.refl _) (argsL := []) (rest := []) (lenOf pd_14 rfl) rfl (by show 2 * 0 + _ ≤ _; exact Nat.le_of_eq rfl) (hb hby d26_13) (fun _ _ => ⟨rfl, rfl, (by decide : 1 + 0 ≤ _), (by decide : 4 + 0 ≤ _)⟩)
  dsimp only [Pt.U, Pt.locs, Pt.cells, Pt.slots] at X12 l12 y12 z12 st12 hQ12
  subst l12 y12 z12
  obtain ⟨rfl, Nq12, K12q⟩ := hQ12
  have N12 := Fr.app N2 Nq12
  have f13 : Fld Z T2.heap a5 s7n "elements" s8n (.ref a7) := (P10.keep K2q nin0)
  have f14 : Arv Z T2.heap a7 k8 (.object s9n) (17 : Int32) ([(.ref a9), .null, .null, .null, .null, .null, .null, .null, .null, .null, .null, .null, .null, .null, .null, .null, .null]) .null := (P13.keep K2q nin0)
  obtain ⟨cq15, kq15, q15a, q15b, q15c⟩ := isOf hZ K12q p2_1
  obtain ⟨_, _, ⟨T15, L15, k15, n15⟩, -, X15, ⟨Lc15, hQ15, l15, y15, z15⟩, st15⟩ := X12.interfaceBack hx (xi := M34) (y := M33) hown (mvT hZ (ow hw 196 rfl)) (mvT hZ (ow hw 197 rfl)) (mvT hZ (ow hw 198 rfl)) (mvT hZ (ow hw 199 rfl)) (mvT hZ (ow hw 200 rfl)) (mvT hZ (ow hw 201 rfl)) (mvT hZ (ow hw 202 rfl)) (mvT hZ (ow hw 155 rfl)) (by decide) (backOf (W := 0) (au27_0 l Z a0 hw [] wMAX_LOCK_DELAY wGRANTED wQUEUED wBUSY wZERO hS e1_2 a5 a7 k8 a9 T2.heap n0 O11 p2_1 p2_2 p2_3 p2_4 p2_5 f13 f14 g9 (Ne.symm ne6)) hZ (ow hw 203 rfl) (ow hw 123 rfl) (by decide) (by decide)) q15a q15b q15c (g := (mkF m 23 #[(vr a1), (vl q2), .second, (vi 0), (vr e1_2), .unset] [(.ref e1_2)])) rfl (by rw [hml]; rfl) (Steps.refl _) (argsL := []) (rest := []) (lenOf pd_8 rfl) rfl (by show 2 * 0 + _ ≤ _; exact Nat.le_of_eq rfl) (hb hby d26_23) (fun _ _ => ⟨rfl, K12q, (by decide : 1 + 0 ≤ _), (by decide : 4 + 0 ≤ _)⟩)
  dsimp only [Pt.U, Pt.locs, Pt.cells, Pt.slots] at X15 l15 y15 z15 st15 hQ15
  subst l15 y15 z15
  obtain ⟨rfl, Nq15, K15q, p15_0, p15_1, p15_2, p15_3, p15_4⟩ := hQ15
  have N15 := Fr.app N12 Nq15
  have O16 : Old Z n0 T15.heap := O11.keep K15q (allS g9 all0)
  have K16 : Keep h0 T15.heap [a1, a7, a5] := K11.trans K15q (allS (Or.inr sz10) all0)
  have f17 : Exa Z T15.heap a9 s16n := ((P16.keep K2q).keep K15q)
  obtain ⟨T18, X18, e18, st18⟩ := castY X15 hx hZ hown (ow hw 157 rfl) rfl (Ins.self f17) (g := (mkF m 28 #[(vr a1), (vl q2), .second, (vi 0), (vr e1_2), .unset] [(.ref a9)])) rfl rfl (hb hby d26_28)
  have f19 : Fld Z T15.heap a9 s16n "owner" s5n (.ref a10) := ((P18.keep K2q nin0).keep K15q (ninS ne7 nin0))
  obtain ⟨T20, X20, e20, st20⟩ := own_getR X18 hx hZ hown (ow hw 188 rfl) e18 f19 (g := (mkF m 31 #[(vr a1), (vl q2), .second, (vi 0), (vr e1_2), .unset] [(.ref a9)])) rfl rfl (hb hby d26_31)
  have f21 : Fld Z T15.heap a10 s3n "session" "J" (.long q12) := ((P21.keep K2q nin0).keep K15q (ninS ne8 nin0))
  have f23 : Exa Z T15.heap a10 s3n := ((P19.keep K2q).keep K15q)
  obtain ⟨cq22, kq22, q22a, q22b, q22c⟩ := isOf hZ e20 f23
  obtain ⟨_, _, ⟨T22, L22, k22, n22⟩, -, X22, ⟨Lc22, hQ22, l22, y22, z22⟩, st22⟩ := X20.virtualBack hx (y := M28) (z := M28) hown (mvT hZ (ow hw 209 rfl)) (mvT hZ (ow hw 210 rfl)) (notFace_of_selects (args := #[]) (mvT hZ (ow hw 212 rfl))) (mvT hZ (ow hw 212 rfl)) (mvT hZ (ow hw 211 rfl)) (by decide) (backOf (W := 0) (au29_0 l Z a0 hw [] wMAX_LOCK_DELAY wGRANTED wQUEUED wBUSY wZERO hS a10 q12 T15.heap n0 O16 f21) hZ (ow hw 213 rfl) (ow hw 37 rfl) (by decide) (by decide)) q22a q22c (g := (mkF m 34 #[(vr a1), (vl q2), .second, (vi 0), (vr e1_2), .unset] [(.ref a10)])) rfl (by rw [hml]; rfl) (Steps.refl _) (argsL := []) (rest := []) (lenOf pd_18 rfl) rfl (by show 2 * 0 + _ ≤ _; exact Nat.le_of_eq rfl) (hb hby d26_34) (fun _ _ => ⟨rfl, e20, (by decide : 1 + 0 ≤ _), (by decide : 4 + 0 ≤ _)⟩)
  dsimp only [Pt.U, Pt.locs, Pt.cells, Pt.slots] at X22 l22 y22 z22 st22 hQ22
  subst l22 y22 z22
  obtain ⟨rfl, Nq22, K22q⟩ := hQ22
  have N22 := Fr.app N15 Nq22
  obtain ⟨cq24, kq24, q24a, q24b, q24c⟩ := isOf hZ K22q p15_0
  obtain ⟨_, _, ⟨T24, L24, k24, n24⟩, -, X24, ⟨Lc24, hQ24, l24, y24, z24⟩, st24⟩ := X22.interfaceBack hx (xi := M22) (y := M19) hown (mvT hZ (ow hw 148 rfl)) (mvT hZ (ow hw 149 rfl)) (mvT hZ (ow hw 150 rfl)) (mvT hZ (ow hw 151 rfl)) (mvT hZ (ow hw 152 rfl)) (mvT hZ (ow hw 153 rfl)) (mvT hZ (ow hw 154 rfl)) (mvT hZ (ow hw 155 rfl)) (by decide) (backOf (W := 0) (au21_0 l Z a0 hw [] wMAX_LOCK_DELAY wGRANTED wQUEUED wBUSY wZERO hS e1_2 T15.heap n0 O16 p15_3) hZ (ow hw 156 rfl) (ow hw 123 rfl) (by decide) (by decide)) q24a q24b q24c (g := (mkF m 13 #[(vr a1), (vl q2), .second, (vi 0), (vr e1_2), .unset] [(.ref e1_2)])) rfl (by rw [hml]; rfl) (Steps.refl _) (argsL := []) (rest := []) (lenOf pd_14 rfl) rfl (by show 2 * 0 + _ ≤ _; exact Nat.le_of_eq rfl) (hb hby d26_13) (fun _ _ => ⟨rfl, K22q, (by decide : 1 + 0 ≤ _), (by decide : 4 + 0 ≤ _)⟩)
  dsimp only [Pt.U, Pt.locs, Pt.cells, Pt.slots] at X24 l24 y24 z24 st24 hQ24
  subst l24 y24 z24
  obtain ⟨rfl, Nq24, K24q⟩ := hQ24
  have N24 := Fr.app N22 Nq24
  have f25 : Fld Z T15.heap a1 s4n "holder" s5n (.ref a4) := ((P3.keep K2q nin0).keep K15q (ninS ne3 nin0))
  have f26 : Exa Z T15.heap a4 s3n := ((P6.keep K2q).keep K15q)
  have f27 : Fld Z T15.heap a4 s3n "session" "J" (.long q2) := ((P8.keep K2q nin0).keep K15q (ninS ne4 nin0))
  have f29 : Exa Z T15.heap a1 s4n := ((P0.keep K2q).keep K15q)
  obtain ⟨cq28, kq28, q28a, q28b, q28c⟩ := isOf hZ K24q f29
  obtain ⟨_, _, ⟨T28, L28, k28, n28⟩, -, X28, ⟨Lc28, hQ28, l28, y28, z28⟩, st28⟩ := X24.virtualBack hx (y := M29) (z := M29) hown (mvT hZ (ow hw 214 rfl)) (mvT hZ (ow hw 215 rfl)) (notFace_of_selects (args := #[]) (mvT hZ (ow hw 217 rfl))) (mvT hZ (ow hw 217 rfl)) (mvT hZ (ow hw 216 rfl)) (by decide) (backOf (W := 0) (au30_3 l Z a0 hw [] wMAX_LOCK_DELAY wGRANTED wQUEUED wBUSY wZERO hS a1 q2 a4 T15.heap n0 O16 f25 f26 f27) hZ (ow hw 218 rfl) (ow hw 2 rfl) (by decide) (by decide)) q28a q28c (g := (mkF m 57 #[(vr a1), (vl q2), .second, (vi 0), (vr e1_2), .val .null] [(.long q2), (.ref a1)])) rfl (by rw [hml]; rfl) (Steps.refl _) (argsL := [(.long q2)]) (rest := []) (lenOf pd_3 rfl) rfl (by show 2 * 0 + _ ≤ _; exact Nat.le_of_eq rfl) (hb hby d26_57) (fun _ _ => ⟨rfl, K24q, (by decide : 1 + 0 ≤ _), (by decide : 4 + 0 ≤ _)⟩)
  dsimp only [Pt.U, Pt.locs, Pt.cells, Pt.slots] at X28 l28 y28 z28 st28 hQ28
  subst l28 y28 z28
  obtain ⟨rfl, Nq28, K28q⟩ := hQ28
  have N28 := Fr.app N24 Nq28
  obtain ⟨T30, h30, X30, e30, W30, st30⟩ := putF X28 hx hZ hown (host := "") (Or.inl (ow hw 51 rfl)) Via.refl K28q f25 f29 (Or.inl (ow hw 52 rfl)) (ow hw 1 rfl) (ty := (.object s3n)) (by decide) rfl rfl (g := (mkF m 65 #[(vr a1), (vl q2), .second, (vi 0), (vr e1_2), .val .null] [.null, (.ref a1)])) rfl rfl (hb hby d26_65)
  have N30 := Fr.snoc X30 N28 P24
  have O31 : Old Z n0 h30 := O16.wr W30 P24
  have K31 : Keep h0 h30 [a1, a7, a5] := K16.wr W30 (Or.inl (List.mem_of_getElem? (i := 0) rfl))
  have Fw30 : Fld Z h30 a1 s4n "holder" s5n .null := f25.same W30
  have f32 : Exa Z h30 a1 s4n := (f29.wr W30)
  have f33 : Fld Z h30 a1 s4n "heldBack" "Z" (.int 0) := (((P2.keep K2q nin0).keep K15q (ninS ne3 nin0)).other W30 (Or.inr (slot_ne (Or.inl (ow hw 69 rfl)) (Or.inl (ow hw 52 rfl)) (by decide) (t := .boolean) (t' := (.object s3n)) (by decide) (by decide))))
  obtain ⟨T34, h34, X34, e34, W34, st34⟩ := putFN X30 hx hZ hown (ow hw 68 rfl) Via.refl e30 f33 f32 (Or.inl (ow hw 69 rfl)) (ow hw 1 rfl) (ty := .boolean) (v' := (.int 0)) (by decide) rfl rfl (g := (mkF m 88 #[(vr a1), (vl q2), .second, (vi 0), (vr e1_2), .val .null] [(.int 0), (.ref a1)])) rfl rfl (hb hby d26_88)
  have N34 := Fr.snoc X34 N30 P24
  have O35 : Old Z n0 h34 := O31.wr W34 P24
  have K35 : Keep h0 h34 [a1, a7, a5] := K31.wr W34 (Or.inl (List.mem_of_getElem? (i := 0) rfl))
  have Fw34 : Fld Z h34 a1 s4n "heldBack" "Z" (.int 0) := f33.same W34
  obtain ⟨T36, X36, e36, st36⟩ := getF X34 hx hZ hown (host := "") (Or.inl (ow hw 68 rfl)) Via.refl e34 Fw34 (g := (mkF m 92 #[(vr a1), (vl q2), .second, (vi 0), (vr e1_2), .val .null] [(.ref a1)])) rfl rfl (hb hby d26_92)
  have f37 : Exa Z h34 a1 s4n := (f32.wr W34)
  have f38 : Fld Z h34 a1 s4n "generation" "J" (.long qg3) := ((((P1.keep K2q nin0).keep K15q (ninS ne3 nin0)).other W30 (Or.inr (slot_ne (Or.inl (ow hw 75 rfl)) (Or.inl (ow hw 52 rfl)) (by decide) (t := .long) (t' := (.object s3n)) (by decide) (by decide)))).other W34 (Or.inr (slot_ne (Or.inl (ow hw 75 rfl)) (Or.inl (ow hw 69 rfl)) (by decide) (t := .long) (t' := .boolean) (by decide) (by decide))))
  have f39 : Fld Z h34 a1 s4n "holder" s5n .null := (Fw30.other W34 (Or.inr (slot_ne (Or.inl (ow hw 52 rfl)) (Or.inl (ow hw 69 rfl)) (by decide) (t := (.object s3n)) (t' := .boolean) (by decide) (by decide))))
  have f40 : Fld Z h34 a1 s4n s10n s0n (.ref wMAX_LOCK_DELAY) := ((((P4.keep K2q nin0).keep K15q (ninS ne3 nin0)).other W30 (Or.inr (slot_ne (Or.inl (ow hw 31 rfl)) (Or.inl (ow hw 52 rfl)) (by decide) (t := (.object s1n)) (t' := (.object s3n)) (by decide) (by decide)))).other W34 (Or.inr (slot_ne (Or.inl (ow hw 31 rfl)) (Or.inl (ow hw 69 rfl)) (by decide) (t := (.object s1n)) (t' := .boolean) (by decide) (by decide))))
  have f41 : Fld Z h34 a1 s4n "waiters" s11n (.ref a5) := ((((P5.keep K2q nin0).keep K15q (ninS ne3 nin0)).other W30 (Or.inr (slot_ne (Or.inr (ow hw 27 rfl)) (Or.inl (ow hw 52 rfl)) (by decide) (t := (.object s12n)) (t' := (.object s3n)) (by decide) (by decide)))).other W34 (Or.inr (slot_ne (Or.inr (ow hw 27 rfl)) (Or.inl (ow hw 69 rfl)) (by decide) (t := (.object s12n)) (t' := .boolean) (by decide) (by decide))))
  have f42 : Exa Z h34 a5 s7n := ((((P9.keep K2q).keep K15q).wr W30).wr W34)
  have f43 : Fld Z h34 a5 s7n "elements" s8n (.ref a7) := (((f13.keep K15q (ninS ne5 nin0)).other W30 (Or.inl (Ne.symm P31))).other W34 (Or.inl (Ne.symm P31)))
  have f44 : Fld Z h34 a5 s7n "head" "I" (.int 0) := ((((P11.keep K2q nin0).keep K15q (ninS ne5 nin0)).other W30 (Or.inl (Ne.symm P31))).other W34 (Or.inl (Ne.symm P31)))
  have f45 : Fld Z h34 a5 s7n "tail" "I" (.int 1) := ((((P12.keep K2q nin0).keep K15q (ninS ne5 nin0)).other W30 (Or.inl (Ne.symm P31))).other W34 (Or.inl (Ne.symm P31)))
  have f46 : Arv Z h34 a7 k8 (.object s9n) (17 : Int32) ([(.ref a9), .null, .null, .null, .null, .null, .null, .null, .null, .null, .null, .null, .null, .null, .null, .null, .null]) .null := (((f14.keep K15q (ninS ne6 nin0)).other W30 (Ne.symm P32)).other W34 (Ne.symm P32))
  have f47 : Exa Z h34 a7 s8n := ((((P15.keep K2q).keep K15q).wr W30).wr W34)
  have f48 : Exa Z h34 a9 s16n := ((f17.wr W30).wr W34)
  have f49 : Fld Z h34 a9 s16n "lockDelay" s0n (.ref wMAX_LOCK_DELAY) := ((((P17.keep K2q nin0).keep K15q (ninS ne7 nin0)).other W30 (Or.inl (Ne.symm P33))).other W34 (Or.inl (Ne.symm P33)))
  have f50 : Fld Z h34 a9 s16n "owner" s5n (.ref a10) := ((f19.other W30 (Or.inl (Ne.symm P33))).other W34 (Or.inl (Ne.symm P33)))
  obtain ⟨cq51, q51, q51'⟩ := f37.cell
  obtain ⟨_, _, ⟨T51, L51, k51, n51⟩, -, X51, ⟨Lc51, hQ51, l51, y51, z51⟩, st51⟩ := X36.privateBack hx (y := M12) hown (mvT hZ (ow hw 84 rfl)) (mvT hZ (ow hw 85 rfl)) (own_selp (mvT hZ (ow hw 1 rfl)) (mvP hZ (ow hw 86 rfl)) (mvT hZ (ow hw 85 rfl)) (by decide)) (Cond.privateMethod_at (mvP hZ (ow hw 86 rfl) (args := #[]))) (mvT hZ (ow hw 87 rfl)) (by decide) (backOf (W := 0) (au12_5 l Z a0 hw [] wMAX_LOCK_DELAY wGRANTED wQUEUED wBUSY wZERO hS a1 qg3 a5 a7 k8 a9 a10 h34 n0 O35 f37 f38 Fw34 f39 f40 f41 f42 f43 f44 f45 f46 P14 f47 f48 f49 f50 P24 P26 P27 P31 P32 P33 P39 P40 P42) hZ (ow hw 87 rfl) (ow hw 2 rfl) (by decide) (by decide)) (g := (mkF m 103 #[(vr a1), (vl q2), .second, (vi 0), (vr e1_2), .val .null] [(.ref a1)])) rfl (by rw [hml]; rfl) (Steps.refl _) (a := a1) (by rw [e36]; exact q51) q51' (argsL := []) (rest := []) (lenOf pd_9 rfl) rfl (by show 2 * 0 + _ ≤ _; exact Nat.le_of_eq rfl) (hb hby d26_103) (fun _ _ => ⟨rfl, e36, (by decide : 1 + 0 ≤ _), (by decide : 4 + 0 ≤ _)⟩)
  dsimp only [Pt.U, Pt.locs, Pt.cells, Pt.slots] at X51 l51 y51 z51 st51 hQ51
  subst l51 y51 z51
  obtain ⟨rfl, Nq51, K51q, p51_0, p51_1, p51_2, p51_3, p51_4, p51_5, p51_6, p51_7, p51_8, p51_9, p51_10, p51_11, p51_12⟩ := hQ51
  have N51 := Fr.app N34 Nq51
  have O52 : Old Z n0 T51.heap := O35.keep K51q (allS P27 (allS P26 (allS P24 all0)))
  have K52 : Keep h0 T51.heap [a1, a7, a5] := K35.trans K51q (allS (Or.inl (List.mem_of_getElem? (i := 1) rfl)) (allS (Or.inl (List.mem_of_getElem? (i := 2) rfl)) (allS (Or.inl (List.mem_of_getElem? (i := 0) rfl)) all0)))
  obtain ⟨fs, hr, hrun, hended, hW, hsame⟩ := X51.leave (v := some (.ref a10)) (fun h => by rw [hret0] at h; cases h)
  refine ⟨_, _, pre0 _ ?_, hrun, hended, _, _, rfl, ?_, ⟨_, rfl⟩, hW, hsame.mono (by decide) (by decide)⟩
  · skip
    show Steps p.tables e below (s₁.setTop (mkF m 0 #[(vr a1), (vl q2), .second, (vi 0), .unset, .unset] [])) _
    refine XS.aloadN X0.here hx rfl (hb hby d26_0) rfl rfl ?_
    refine st1 _ ?_
    refine st2.trans ?_
    refine XS.astore X2.here hx rfl (hb hby d26_9) rfl rfl (l' := #[(vr a1), (vl q2), .second, (vi 0), (vr e1_2), .unset]) rfl ?_
    refine XS.aload X2.here hx rfl (hb hby d26_11) rfl rfl ?_
    show Steps p.tables e below (T2.setTop (mkF m 13 #[(vr a1), (vl q2), .second, (vi 0), (vr e1_2), .unset] [(.ref e1_2)])) _
    refine st12.trans ?_
    refine XS.ifNo X12.here hx rfl (hb hby d26_18) rfl ((if0 _ _).trans (feq (by decide : ¬ ((1 : Int32) = (0 : Int32)))).1) ?_
    refine XS.aload X12.here hx rfl (hb hby d26_21) rfl rfl ?_
    refine st15.trans ?_
    refine st18 _ ?_
    show Steps p.tables e below (T18.setTop (mkF m 31 #[(vr a1), (vl q2), .second, (vi 0), (vr e1_2), .unset] [(.ref a9)])) _
    refine st20 _ ?_
    refine st22.trans ?_
    refine XS.lloadN X22.here hx rfl (hb hby d26_37) rfl ?_
    refine XS.lcmp X22.here hx rfl (hb hby d26_38) rfl ?_
    refine XS.ifYes X22.here hx rfl (pc0 := 39) (pc' := 11) rfl (hb hby d26_39) rfl ((if0 _ _).trans (feq (fun z => P22 ((lw_eq _ _).mp z).symm : ¬ ((lcmpW q12 q2) = (0 : Int32)))).2) (by decide) (by decide) ?_
    show Steps p.tables e below (T22.setTop (mkF m 11 #[(vr a1), (vl q2), .second, (vi 0), (vr e1_2), .unset] [])) _
    refine XS.aload X22.here hx rfl (hb hby d26_11) rfl rfl ?_
    refine st24.trans ?_
    refine XS.ifYes X24.here hx rfl (pc0 := 18) (pc' := 52) rfl (hb hby d26_18) rfl ((if0 _ _).trans (teq (by decide : (0 : Int32) = (0 : Int32))).1) (by decide) (by decide) ?_
    refine XS.aconstNull X24.here hx rfl (hb hby d26_52) ?_
    refine XS.astore X24.here hx rfl (hb hby d26_53) rfl rfl (l' := #[(vr a1), (vl q2), .second, (vi 0), (vr e1_2), .val .null]) rfl ?_
    show Steps p.tables e below (T24.setTop (mkF m 55 #[(vr a1), (vl q2), .second, (vi 0), (vr e1_2), .val .null] [])) _
    refine XS.aloadN X24.here hx rfl (hb hby d26_55) rfl rfl ?_
    refine XS.lloadN X24.here hx rfl (hb hby d26_56) rfl ?_
    refine st28.trans ?_
    refine XS.ifNo X28.here hx rfl (hb hby d26_60) rfl ((if0 _ _).trans (feq (by decide : ¬ ((1 : Int32) = (0 : Int32)))).1) ?_
    refine XS.aloadN X28.here hx rfl (hb hby d26_63) rfl rfl ?_
    show Steps p.tables e below (T28.setTop (mkF m 64 #[(vr a1), (vl q2), .second, (vi 0), (vr e1_2), .val .null] [(.ref a1)])) _
    refine XS.aconstNull X28.here hx rfl (hb hby d26_64) ?_
    refine st30 _ ?_
    refine XS.aloadN X30.here hx rfl (hb hby d26_68) rfl rfl ?_
    refine XS.iloadN X30.here hx rfl (hb hby d26_69) rfl ?_
    refine XS.ifYes X30.here hx rfl (pc0 := 70) (pc' := 87) rfl (hb hby d26_70) rfl ((if0 _ _).trans (teq (by decide : (0 : Int32) = (0 : Int32))).1) (by decide) (by decide) ?_
    show Steps p.tables e below (T30.setTop (mkF m 87 #[(vr a1), (vl q2), .second, (vi 0), (vr e1_2), .val .null] [(.ref a1)])) _
    refine XS.iconst X30.here hx rfl (hb hby d26_87) ?_
    refine st34 _ ?_
    refine XS.aloadN X34.here hx rfl (hb hby d26_91) rfl rfl ?_
    refine st36 _ ?_
    refine XS.ifYes X36.here hx rfl (pc0 := 95) (pc' := 102) rfl (hb hby d26_95) rfl ((if0 _ _).trans (teq (by decide : (0 : Int32) = (0 : Int32))).1) (by decide) (by decide) ?_
    show Steps p.tables e below (T36.setTop (mkF m 102 #[(vr a1), (vl q2), .second, (vi 0), (vr e1_2), .val .null] [])) _
    refine XS.aloadN X36.here hx rfl (hb hby d26_102) rfl rfl ?_
    refine st51.trans ?_
    refine XS.astore X51.here hx rfl (hb hby d26_106) rfl rfl (l' := #[(vr a1), (vl q2), .second, (vi 0), (vr e1_2), (vr a10)]) rfl ?_
    refine XS.aload X51.here hx rfl (hb hby d26_108) rfl rfl ?_
    jvm_step X51.here [X51.here.top, hx, (hb hby d26_110), X51.method', hret0, Value.isRef, FieldType.isReference]
    first | (intro acts; rw [hr _ acts rfl rfl rfl]) | rw [hr _ _ rfl rfl rfl]
    exact Steps.refl _
  · show Q_au26_5 Z wMAX_LOCK_DELAY wGRANTED wQUEUED wBUSY wZERO a1 q2 qg3 a4 a5 a7 k8 a9 a10 q12 h0 n0 _ T51.heap _
    exact ⟨rfl, N51, K52, p51_7, p51_8, p51_9, p51_10, p51_11, p51_12, p51_0, p51_1, p51_2, p51_3, p51_4, p51_5, p51_6⟩
theorem ef_au26_6 (m : MethodId) (x0 : Addr) (x1 : Int64) (x2 : Int32)  : entryFrame m #[(.ref x0), (.long x1), (.int x2)] 6 = mkF m 0 #[(vr x0), (vl x1), .second, (vi x2), .unset, .unset] [] := by first | (simp [entryFrame, mkF, argsToLocals, Value.category]; done) | rfl
theorem ef_au17_3 (m : MethodId) (x0 : Addr)  : entryFrame m #[(.ref x0)] 1 = mkF m 0 #[(vr x0)] [] := by first | (simp [entryFrame, mkF, argsToLocals, Value.category]; done) | rfl
def Q_au17_3 (Z : State) (wMAX_LOCK_DELAY : Addr) (wGRANTED : Addr) (wQUEUED : Addr) (wBUSY : Addr) (wZERO : Addr) (a1 : Addr) (a2 : Addr) (k3 : ClassId) (a4 : Addr) (a5 : Addr) (h0 : Heap) (n0 : Nat) (v : Option Value) (h : Heap) (L : List Loc) : Prop := ∃ (e1 : Addr), v = some (.ref e1) ∧ Fr n0 L ∧ Keep h0 h [] ∧ h0.size ≤ e1 ∧ Exa Z h e1 s13n ∧ Fld Z h e1 s13n "cursor" "I" (.int 0) ∧ Fld Z h e1 s13n "lastRet" "I" (.int (-1 : Int32)) ∧ Fld Z h e1 s13n "remaining" "I" (.int 1) ∧ Fld Z h e1 s13n "this$0" s14n (.ref a1)
theorem au17_3 (l : Launch) (Z : State) (a0 : Array Value) (hw : ∀ d ∈ tables_1, d.before a0 Z = true) (ws : List Jvm.Cond) (wMAX_LOCK_DELAY : Addr) (wGRANTED : Addr) (wQUEUED : Addr) (wBUSY : Addr) (wZERO : Addr) (hS : SS Z wMAX_LOCK_DELAY wGRANTED wQUEUED wBUSY wZERO) (a1 : Addr) (a2 : Addr) (k3 : ClassId) (a4 : Addr) (a5 : Addr) (h0 : Heap) (n0 : Nat) (O0 : Old Z n0 h0) (P0 : Exa Z h0 a1 s7n) (P1 : Fld Z h0 a1 s7n "elements" s8n (.ref a2)) (P2 : Fld Z h0 a1 s7n "head" "I" (.int 0)) (P3 : Fld Z h0 a1 s7n "tail" "I" (.int 1)) (P4 : Arv Z h0 a2 k3 (.object s9n) (17 : Int32) ([(.ref a4), .null, .null, .null, .null, .null, .null, .null, .null, .null, .null, .null, .null, .null, .null, .null, .null]) .null) (P7 : Exa Z h0 a4 s16n) (P10 : Exa Z h0 a5 s3n) :
    MetB l M18 jdk_21_method_39_code 1 (some (.object s15n)) ws (rmk 3 1 4 41) Z h0 #[(.ref a1)] (Q_au17_3 Z wMAX_LOCK_DELAY wGRANTED wQUEUED wBUSY wZERO a1 a2 k3 a4 a5 h0 n0) := by
  refine own_body (plainFor_of_name pn_java_util_ArrayDeque) ?_
  intro p e s m below meth c s₁ hx hby hml hown hnm hret0 hlk0 hZ X0 e0
  have N0 := Fr.nil n0
  have pre0 : ∀ t, Steps p.tables e below (s₁.setTop (mkF m 0 #[(vr a1)] [])) t → Steps p.tables e below (s₁.setTop (entryFrame m #[(.ref a1)] 1)) t := fun t k => castTop (ef_au17_3 m a1) k
  have K0 := Keep.refl h0 []
  have hS0 := hS
  obtain ⟨S_wMAX_LOCK_DELAY, E_wMAX_LOCK_DELAY, S_wGRANTED, E_wGRANTED, S_wQUEUED, E_wQUEUED, S_wBUSY, E_wBUSY, F_seconds_wMAX_LOCK_DELAY, F_nanos_wMAX_LOCK_DELAY, S_wZERO, E_wZERO, F_seconds_wZERO, F_nanos_wZERO⟩ := hS0
  obtain ⟨T1, h1, X1, e1, E1, A1, D1, -, st1⟩ := newO X0 hx hZ hown (ow hw 121 rfl) (ow hw 122 rfl) (ow hw 123 rfl) e0 (g := (mkF m 0 #[(vr a1)] [])) rfl (hb hby d17_0) (by decide) (by decide)
  obtain ⟨b1, g1⟩ : ∃ z, z = h0.size := ⟨_, rfl⟩
  rw [← g1] at A1 D1 st1
  have ne2 : a1 ≠ b1 := Nat.ne_of_lt (Nat.lt_of_lt_of_le P0.lt (Nat.le_of_eq g1.symm))
  have ne3 : a2 ≠ b1 := Nat.ne_of_lt (Nat.lt_of_lt_of_le P4.lt (Nat.le_of_eq g1.symm))
  have ne4 : a4 ≠ b1 := Nat.ne_of_lt (Nat.lt_of_lt_of_le P7.lt (Nat.le_of_eq g1.symm))
  have ne5 : a5 ≠ b1 := Nat.ne_of_lt (Nat.lt_of_lt_of_le P10.lt (Nat.le_of_eq g1.symm))
  have g6 : n0 ≤ b1 := Nat.le_trans (own_sz O0) (Nat.le_of_eq g1.symm)
  have sz7 : h0.size ≤ b1 := Nat.le_trans K0.1 (Nat.le_of_eq g1.symm)
  have O8 : Old Z n0 h1 := O0.ext E1
  have K8 : Keep h0 h1 [] := K0.ext E1
  have f9 : Fld Z h1 b1 s13n "this$0" s14n .null := D1 (Or.inr (ow hw 129 rfl)) (ty := (.object s7n)) (by decide)
  have f10 : Fld Z h1 b1 s13n "remaining" "I" (.int 0) := D1 (Or.inl (ow hw 142 rfl)) (ty := .int) (by decide)
  have f11 : Fld Z h1 b1 s13n "lastRet" "I" (.int 0) := D1 (Or.inl (ow hw 144 rfl)) (ty := .int) (by decide)
  have f12 : Fld Z h1 b1 s13n "cursor" "I" (.int 0) := D1 (Or.inl (ow hw 147 rfl)) (ty := .int) (by decide)
  have f13 : Exa Z h1 a1 s7n := (P0.ext E1)
  have f14 : Fld Z h1 a1 s7n "elements" s8n (.ref a2) := (P1.ext E1)
  have f15 : Fld Z h1 a1 s7n "head" "I" (.int 0) := (P2.ext E1)
  have f16 : Fld Z h1 a1 s7n "tail" "I" (.int 1) := (P3.ext E1)
  have f17 : Arv Z h1 a2 k3 (.object s9n) (17 : Int32) ([(.ref a4), .null, .null, .null, .null, .null, .null, .null, .null, .null, .null, .null, .null, .null, .null, .null, .null]) .null := (P4.ext E1)
  obtain ⟨_, _, ⟨T18, L18, k18, n18⟩, -, X18, ⟨Lc18, hQ18, l18, y18, z18⟩, st18⟩ := X1.specialBack hx (y := M17) rfl hown (mvT hZ (ow hw 124 rfl)) (mvT hZ (ow hw 125 rfl)) (mvT hZ (ow hw 127 rfl)) (by decide) (backOf (W := 1) (au18_1 l Z a0 hw [] wMAX_LOCK_DELAY wGRANTED wQUEUED wBUSY wZERO hS b1 a1 a2 k3 a4 h1 n0 O8 A1 f12 f11 f10 f9 f13 f14 f15 f16 f17 g6 (Ne.symm ne2) (Ne.symm ne3)) hZ (ow hw 127 rfl) (ow hw 123 rfl) (by decide) (by decide)) (g := (mkF m 5 #[(vr a1)] [(.ref a1), (.ref b1), (.ref b1)])) rfl (by rw [hml]; rfl) (Steps.refl _) (a := b1) (argsL := [(.ref a1)]) (rest := [(.ref b1)]) (lenOf pd_12 rfl) rfl (by show 2 * 0 + _ ≤ _; exact Nat.le_of_eq rfl) (hb hby d17_5) (fun _ _ => ⟨rfl, e1, (by decide : 1 + 0 ≤ _), (by decide : 4 + 0 ≤ _)⟩)
  dsimp only [Pt.U, Pt.locs, Pt.cells, Pt.slots] at X18 l18 y18 z18 st18 hQ18
  subst l18 y18 z18
  obtain ⟨rfl, Nq18, K18q, p18_0, p18_1, p18_2, p18_3, p18_4⟩ := hQ18
  have N18 := Fr.app N0 Nq18
  have O19 : Old Z n0 T18.heap := O8.keep K18q (allS g6 all0)
  have K19 : Keep h0 T18.heap [] := K8.trans K18q (allS (Or.inr sz7) all0)
  obtain ⟨fs, hr, hrun, hended, hW, hsame⟩ := X18.leave (v := some (.ref b1)) (fun h => by rw [hret0] at h; cases h)
  refine ⟨_, _, pre0 _ ?_, hrun, hended, _, _, rfl, ?_, ⟨_, rfl⟩, hW, hsame.mono (by decide) (by decide)⟩
  · skip
    show Steps p.tables e below (s₁.setTop (mkF m 0 #[(vr a1)] [])) _
    refine st1 _ ?_
    refine XS.dup X1.here hx rfl (hb hby d17_3) rfl rfl ?_
    refine XS.aloadN X1.here hx rfl (hb hby d17_4) rfl rfl ?_
    refine st18.trans ?_
    jvm_step X18.here [X18.here.top, hx, (hb hby d17_8), X18.method', hret0, Value.isRef, FieldType.isReference]
    first | (intro acts; rw [hr _ acts rfl rfl rfl]) | rw [hr _ _ rfl rfl rfl]
    exact Steps.refl _
  · show Q_au17_3 Z wMAX_LOCK_DELAY wGRANTED wQUEUED wBUSY wZERO a1 a2 k3 a4 a5 h0 n0 _ T18.heap _
    exact ⟨b1, rfl, N18, K19, sz7, p18_0, p18_1, p18_2, p18_3, p18_4⟩
theorem ef_au30_4 (m : MethodId) (x0 : Addr) (x1 : Int64)  : entryFrame m #[(.ref x0), (.long x1)] 3 = mkF m 0 #[(vr x0), (vl x1), .second] [] := by first | (simp [entryFrame, mkF, argsToLocals, Value.category]; done) | rfl
def Q_au30_4 (Z : State) (wMAX_LOCK_DELAY : Addr) (wGRANTED : Addr) (wQUEUED : Addr) (wBUSY : Addr) (wZERO : Addr) (a1 : Addr) (q2 : Int64) (a4 : Addr) (h0 : Heap) (n0 : Nat) (v : Option Value) (h : Heap) (L : List Loc) : Prop := v = some (.int 1) ∧ Fr n0 L ∧ h = h0
theorem au30_4 (l : Launch) (Z : State) (a0 : Array Value) (hw : ∀ d ∈ tables_1, d.before a0 Z = true) (ws : List Jvm.Cond) (wMAX_LOCK_DELAY : Addr) (wGRANTED : Addr) (wQUEUED : Addr) (wBUSY : Addr) (wZERO : Addr) (hS : SS Z wMAX_LOCK_DELAY wGRANTED wQUEUED wBUSY wZERO) (a1 : Addr) (q2 : Int64) (a4 : Addr) (h0 : Heap) (n0 : Nat) (O0 : Old Z n0 h0) (P3 : Fld Z h0 a1 s4n "holder" s5n (.ref a4)) (P6 : Exa Z h0 a4 s3n) (P8 : Fld Z h0 a4 s3n "session" "J" (.long q2)) :
    MetB l M29 prog_84_method_7_code 3 (some .boolean) ws (rmk 1 0 0 12) Z h0 #[(.ref a1), (.long q2)] (Q_au30_4 Z wMAX_LOCK_DELAY wGRANTED wQUEUED wBUSY wZERO a1 q2 a4 h0 n0) := by
  refine own_body (plainFor_of_name pn_com_example_umpired_umpired_server_NodeLock) ?_
  intro p e s m below meth c s₁ hx hby hml hown hnm hret0 hlk0 hZ X0 e0
  have N0 := Fr.nil n0
  have pre0 : ∀ t, Steps p.tables e below (s₁.setTop (mkF m 0 #[(vr a1), (vl q2), .second] [])) t → Steps p.tables e below (s₁.setTop (entryFrame m #[(.ref a1), (.long q2)] 3)) t := fun t k => castTop (ef_au30_4 m a1 q2) k
  have hS0 := hS
  obtain ⟨S_wMAX_LOCK_DELAY, E_wMAX_LOCK_DELAY, S_wGRANTED, E_wGRANTED, S_wQUEUED, E_wQUEUED, S_wBUSY, E_wBUSY, F_seconds_wMAX_LOCK_DELAY, F_nanos_wMAX_LOCK_DELAY, S_wZERO, E_wZERO, F_seconds_wZERO, F_nanos_wZERO⟩ := hS0
  obtain ⟨T1, X1, e1, st1⟩ := getF X0 hx hZ hown (host := "") (Or.inl (ow hw 51 rfl)) Via.refl e0 P3 (g := (mkF m 1 #[(vr a1), (vl q2), .second] [(.ref a1)])) rfl rfl (hb hby d30_1)
  obtain ⟨T2, X2, e2, st2⟩ := getF X1 hx hZ hown (host := "") (Or.inl (ow hw 51 rfl)) Via.refl e1 P3 (g := (mkF m 8 #[(vr a1), (vl q2), .second] [(.ref a1)])) rfl rfl (hb hby d30_8)
  obtain ⟨cq3, kq3, q3a, q3b, q3c⟩ := isOf hZ e2 P6
  obtain ⟨_, _, ⟨T3, L3, k3, n3⟩, -, X3, ⟨Lc3, hQ3, l3, y3, z3⟩, st3⟩ := X2.virtualBack hx (y := M28) (z := M28) hown (mvT hZ (ow hw 209 rfl)) (mvT hZ (ow hw 210 rfl)) (notFace_of_selects (args := #[]) (mvT hZ (ow hw 212 rfl))) (mvT hZ (ow hw 212 rfl)) (mvT hZ (ow hw 211 rfl)) (by decide) (backOf (W := 0) (au29_0 l Z a0 hw [] wMAX_LOCK_DELAY wGRANTED wQUEUED wBUSY wZERO hS a4 q2 h0 n0 O0 P8) hZ (ow hw 213 rfl) (ow hw 37 rfl) (by decide) (by decide)) q3a q3c (g := (mkF m 11 #[(vr a1), (vl q2), .second] [(.ref a4)])) rfl (by rw [hml]; rfl) (Steps.refl _) (argsL := []) (rest := []) (lenOf pd_18 rfl) rfl (by show 2 * 0 + _ ≤ _; exact Nat.le_of_eq rfl) (hb hby d30_11) (fun _ _ => ⟨rfl, e2, (by decide : 0 + 0 ≤ _), (by decide : 0 + 0 ≤ _)⟩)
  dsimp only [Pt.U, Pt.locs, Pt.cells, Pt.slots] at X3 l3 y3 z3 st3 hQ3
  subst l3 y3 z3
  obtain ⟨rfl, Nq3, K3q⟩ := hQ3
  have N3 := Fr.app N0 Nq3
  obtain ⟨fs, hr, hrun, hended, hW, hsame⟩ := X3.leave (v := some (.int 1)) (fun h => by rw [hret0] at h; cases h)
  refine ⟨_, _, pre0 _ ?_, hrun, hended, _, _, rfl, ?_, ⟨_, rfl⟩, hW, hsame.mono (by decide) (by decide)⟩
  · skip
    show Steps p.tables e below (s₁.setTop (mkF m 0 #[(vr a1), (vl q2), .second] [])) _
    refine XS.aloadN X0.here hx rfl (hb hby d30_0) rfl rfl ?_
    refine st1 _ ?_
    refine XS.ifnullNo X1.here hx rfl (hb hby d30_4) rfl ?_
    refine XS.aloadN X1.here hx rfl (hb hby d30_7) rfl rfl ?_
    refine st2 _ ?_
    show Steps p.tables e below (T2.setTop (mkF m 11 #[(vr a1), (vl q2), .second] [(.ref a4)])) _
    refine st3.trans ?_
    refine XS.lloadN X3.here hx rfl (hb hby d30_14) rfl ?_
    refine XS.lcmp X3.here hx rfl (hb hby d30_15) rfl ?_
    refine XS.ifNo X3.here hx rfl (hb hby d30_16) rfl ((if0 _ _).trans (teq (own_lc _ : (lcmpW q2 q2) = (0 : Int32))).2) ?_
    refine XS.iconst X3.here hx rfl (hb hby d30_19) ?_
    show Steps p.tables e below (T3.setTop (mkF m 20 #[(vr a1), (vl q2), .second] [(.int 1)])) _
    refine XS.goto X3.here hx rfl (pc0 := 20) (pc' := 24) rfl (hb hby d30_20) (by decide) (by decide) ?_
    exact retN X3 hx (t := .boolean) hret0 (by simp) (hb hby d30_24) hr
  · show Q_au30_4 Z wMAX_LOCK_DELAY wGRANTED wQUEUED wBUSY wZERO a1 q2 a4 h0 n0 _ T3.heap _
    rw [K3q]
    exact ⟨rfl, N3, rfl⟩
theorem ef_au12_6 (m : MethodId) (x0 : Addr)  : entryFrame m #[(.ref x0)] 2 = mkF m 0 #[(vr x0), .unset] [] := by first | (simp [entryFrame, mkF, argsToLocals, Value.category]; done) | rfl
theorem ef_au10_4 (m : MethodId) (x0 : Addr) (x1 : Addr) (x2 : Addr)  : entryFrame m #[(.ref x0), (.ref x1), (.ref x2)] 3 = mkF m 0 #[(vr x0), (vr x1), (vr x2)] [] := by first | (simp [entryFrame, mkF, argsToLocals, Value.category]; done) | rfl
def Q_au10_4 (Z : State) (wMAX_LOCK_DELAY : Addr) (wGRANTED : Addr) (wQUEUED : Addr) (wBUSY : Addr) (wZERO : Addr) (a1 : Addr) (a2 : Addr) (q3 : Int64) (a4 : Addr) (h0 : Heap) (n0 : Nat) (v : Option Value) (h : Heap) (L : List Loc) : Prop := v = none ∧ Fr n0 L ∧ Keep h0 h [a1] ∧ Exa Z h a1 s4n ∧ Fld Z h a1 s4n "generation" "J" (.long (q3 + (1 : Int64))) ∧ Fld Z h a1 s4n "heldBack" "Z" (.int 0) ∧ Fld Z h a1 s4n "holder" s5n (.ref a2) ∧ Fld Z h a1 s4n s10n s0n (.ref wZERO) ∧ Fld Z h a1 s4n "waiters" s11n (.ref a4)
theorem au10_4 (l : Launch) (Z : State) (a0 : Array Value) (hw : ∀ d ∈ tables_1, d.before a0 Z = true) (ws : List Jvm.Cond) (wMAX_LOCK_DELAY : Addr) (wGRANTED : Addr) (wQUEUED : Addr) (wBUSY : Addr) (wZERO : Addr) (hS : SS Z wMAX_LOCK_DELAY wGRANTED wQUEUED wBUSY wZERO) (a1 : Addr) (a2 : Addr) (q3 : Int64) (a4 : Addr) (h0 : Heap) (n0 : Nat) (O0 : Old Z n0 h0) (P0 : Exa Z h0 a1 s4n) (P1 : Fld Z h0 a1 s4n "generation" "J" (.long q3)) (P2 : Fld Z h0 a1 s4n "heldBack" "Z" (.int 0)) (P3 : Fld Z h0 a1 s4n "holder" s5n .null) (P4 : Fld Z h0 a1 s4n s10n s0n (.ref wZERO)) (P5 : Fld Z h0 a1 s4n "waiters" s11n (.ref a4)) (P16 : n0 ≤ a1) :
    MetB l M7 prog_84_method_23_code 3 none ws (rmk 0 0 0 0) Z h0 #[(.ref a1), (.ref a2), (.ref wZERO)] (Q_au10_4 Z wMAX_LOCK_DELAY wGRANTED wQUEUED wBUSY wZERO a1 a2 q3 a4 h0 n0) := by
  refine own_body (plainFor_of_name pn_com_example_umpired_umpired_server_NodeLock) ?_
  intro p e s m below meth c s₁ hx hby hml hown hnm hret0 hlk0 hZ X0 e0
  have N0 := Fr.nil n0
  have pre0 : ∀ t, Steps p.tables e below (s₁.setTop (mkF m 0 #[(vr a1), (vr a2), (vr wZERO)] [])) t → Steps p.tables e below (s₁.setTop (entryFrame m #[(.ref a1), (.ref a2), (.ref wZERO)] 3)) t := fun t k => castTop (ef_au10_4 m a1 a2 wZERO) k
  have K0 := Keep.refl h0 [a1]
  have hS0 := hS
  obtain ⟨S_wMAX_LOCK_DELAY, E_wMAX_LOCK_DELAY, S_wGRANTED, E_wGRANTED, S_wQUEUED, E_wQUEUED, S_wBUSY, E_wBUSY, F_seconds_wMAX_LOCK_DELAY, F_nanos_wMAX_LOCK_DELAY, S_wZERO, E_wZERO, F_seconds_wZERO, F_nanos_wZERO⟩ := hS0
  obtain ⟨T1, h1, X1, e1, W1, st1⟩ := putF X0 hx hZ hown (host := "") (Or.inl (ow hw 51 rfl)) Via.refl e0 P3 P0 (Or.inl (ow hw 52 rfl)) (ow hw 1 rfl) (ty := (.object s3n)) (by decide) rfl rfl (g := (mkF m 2 #[(vr a1), (vr a2), (vr wZERO)] [(.ref a2), (.ref a1)])) rfl rfl (hb hby d10_2)
  have N1 := Fr.snoc X1 N0 P16
  have O2 : Old Z n0 h1 := O0.wr W1 P16
  have K2 : Keep h0 h1 [a1] := K0.wr W1 (Or.inl (List.mem_of_getElem? (i := 0) rfl))
  have Fw1 : Fld Z h1 a1 s4n "holder" s5n (.ref a2) := P3.same W1
  have f3 : Exa Z h1 a1 s4n := (P0.wr W1)
  have f4 : Fld Z h1 a1 s4n s10n s0n (.ref wZERO) := (P4.other W1 (Or.inr (slot_ne (Or.inl (ow hw 31 rfl)) (Or.inl (ow hw 52 rfl)) (by decide) (t := (.object s1n)) (t' := (.object s3n)) (by decide) (by decide))))
  obtain ⟨T5, h5, X5, e5, W5, st5⟩ := putF X1 hx hZ hown (host := "") (Or.inl (ow hw 30 rfl)) Via.refl e1 f4 f3 (Or.inl (ow hw 31 rfl)) (ow hw 1 rfl) (ty := (.object s1n)) (by decide) rfl rfl (g := (mkF m 7 #[(vr a1), (vr a2), (vr wZERO)] [(.ref wZERO), (.ref a1)])) rfl rfl (hb hby d10_7)
  have N5 := Fr.snoc X5 N1 P16
  have O6 : Old Z n0 h5 := O2.wr W5 P16
  have K6 : Keep h0 h5 [a1] := K2.wr W5 (Or.inl (List.mem_of_getElem? (i := 0) rfl))
  have Fw5 : Fld Z h5 a1 s4n s10n s0n (.ref wZERO) := f4.same W5
  have f7 : Fld Z h5 a1 s4n "generation" "J" (.long q3) := ((P1.other W1 (Or.inr (slot_ne (Or.inl (ow hw 75 rfl)) (Or.inl (ow hw 52 rfl)) (by decide) (t := .long) (t' := (.object s3n)) (by decide) (by decide)))).other W5 (Or.inr (slot_ne (Or.inl (ow hw 75 rfl)) (Or.inl (ow hw 31 rfl)) (by decide) (t := .long) (t' := (.object s1n)) (by decide) (by decide))))
  obtain ⟨T8, X8, e8, st8⟩ := getF X5 hx hZ hown (host := "") (Or.inl (ow hw 74 rfl)) Via.refl e5 f7 (g := (mkF m 12 #[(vr a1), (vr a2), (vr wZERO)] [(.ref a1), (.ref a1)])) rfl rfl (hb hby d10_12)
  have f9 : Exa Z h5 a1 s4n := (f3.wr W5)
  obtain ⟨T10, h10, X10, e10, W10, st10⟩ := putF X8 hx hZ hown (host := "") (Or.inl (ow hw 74 rfl)) Via.refl e8 f7 f9 (Or.inl (ow hw 75 rfl)) (ow hw 1 rfl) (ty := .long) (by decide) rfl rfl (g := (mkF m 17 #[(vr a1), (vr a2), (vr wZERO)] [(.long (q3 + (1 : Int64))), (.ref a1)])) rfl rfl (hb hby d10_17)
  have N10 := Fr.snoc X10 N5 P16
  have O11 : Old Z n0 h10 := O6.wr W10 P16
  have K11 : Keep h0 h10 [a1] := K6.wr W10 (Or.inl (List.mem_of_getElem? (i := 0) rfl))
  have Fw10 : Fld Z h10 a1 s4n "generation" "J" (.long (q3 + (1 : Int64))) := f7.same W10
  have f12 : Exa Z h10 a1 s4n := (f9.wr W10)
  have f13 : Fld Z h10 a1 s4n "heldBack" "Z" (.int 0) := (((P2.other W1 (Or.inr (slot_ne (Or.inl (ow hw 69 rfl)) (Or.inl (ow hw 52 rfl)) (by decide) (t := .boolean) (t' := (.object s3n)) (by decide) (by decide)))).other W5 (Or.inr (slot_ne (Or.inl (ow hw 69 rfl)) (Or.inl (ow hw 31 rfl)) (by decide) (t := .boolean) (t' := (.object s1n)) (by decide) (by decide)))).other W10 (Or.inr (slot_ne (Or.inl (ow hw 69 rfl)) (Or.inl (ow hw 75 rfl)) (by decide) (t := .boolean) (t' := .long) (by decide) (by decide))))
  have f14 : Fld Z h10 a1 s4n "holder" s5n (.ref a2) := ((Fw1.other W5 (Or.inr (slot_ne (Or.inl (ow hw 52 rfl)) (Or.inl (ow hw 31 rfl)) (by decide) (t := (.object s3n)) (t' := (.object s1n)) (by decide) (by decide)))).other W10 (Or.inr (slot_ne (Or.inl (ow hw 52 rfl)) (Or.inl (ow hw 75 rfl)) (by decide) (t := (.object s3n)) (t' := .long) (by decide) (by decide))))
  have f15 : Fld Z h10 a1 s4n s10n s0n (.ref wZERO) := (Fw5.other W10 (Or.inr (slot_ne (Or.inl (ow hw 31 rfl)) (Or.inl (ow hw 75 rfl)) (by decide) (t := (.object s1n)) (t' := .long) (by decide) (by decide))))
  have f16 : Fld Z h10 a1 s4n "waiters" s11n (.ref a4) := (((P5.other W1 (Or.inr (slot_ne (Or.inr (ow hw 27 rfl)) (Or.inl (ow hw 52 rfl)) (by decide) (t := (.object s12n)) (t' := (.object s3n)) (by decide) (by decide)))).other W5 (Or.inr (slot_ne (Or.inr (ow hw 27 rfl)) (Or.inl (ow hw 31 rfl)) (by decide) (t := (.object s12n)) (t' := (.object s1n)) (by decide) (by decide)))).other W10 (Or.inr (slot_ne (Or.inr (ow hw 27 rfl)) (Or.inl (ow hw 75 rfl)) (by decide) (t := (.object s12n)) (t' := .long) (by decide) (by decide))))
  obtain ⟨fs, hr, hrun, hended, hW, hsame⟩ := X10.leave (v := none) (fun _ => rfl)
  refine ⟨_, _, pre0 _ ?_, hrun, hended, _, _, rfl, ?_, ⟨_, rfl⟩, hW, hsame.mono (by decide) (by decide)⟩
  · skip
    show Steps p.tables e below (s₁.setTop (mkF m 0 #[(vr a1), (vr a2), (vr wZERO)] [])) _
    refine XS.aloadN X0.here hx rfl (hb hby d10_0) rfl rfl ?_
    refine XS.aloadN X0.here hx rfl (hb hby d10_1) rfl rfl ?_
    refine st1 _ ?_
    refine XS.aloadN X1.here hx rfl (hb hby d10_5) rfl rfl ?_
    refine XS.aloadN X1.here hx rfl (hb hby d10_6) rfl rfl ?_
    show Steps p.tables e below (T1.setTop (mkF m 7 #[(vr a1), (vr a2), (vr wZERO)] [(.ref wZERO), (.ref a1)])) _
    refine st5 _ ?_
    refine XS.aloadN X5.here hx rfl (hb hby d10_10) rfl rfl ?_
    refine XS.dup X5.here hx rfl (hb hby d10_11) rfl rfl ?_
    refine st8 _ ?_
    refine XS.lconst X8.here hx rfl (hb hby d10_15) ?_
    show Steps p.tables e below (T8.setTop (mkF m 16 #[(vr a1), (vr a2), (vr wZERO)] [(.long 1), (.long q3), (.ref a1)])) _
    refine XS.ladd X8.here hx rfl (hb hby d10_16) rfl ?_
    refine st10 _ ?_
    exact X10.returnOut hx hret0 (hb hby d10_20) hr
  · show Q_au10_4 Z wMAX_LOCK_DELAY wGRANTED wQUEUED wBUSY wZERO a1 a2 q3 a4 h0 n0 _ T10.heap _
    rw [e10]
    exact ⟨rfl, N10, K11, f12, Fw10, f13, f14, f15, f16⟩
def Q_au12_6 (Z : State) (wMAX_LOCK_DELAY : Addr) (wGRANTED : Addr) (wQUEUED : Addr) (wBUSY : Addr) (wZERO : Addr) (a1 : Addr) (q2 : Int64) (a3 : Addr) (a4 : Addr) (k5 : ClassId) (a6 : Addr) (a7 : Addr) (h0 : Heap) (n0 : Nat) (v : Option Value) (h : Heap) (L : List Loc) : Prop := v = some (.ref a7) ∧ Fr n0 L ∧ Keep h0 h [a4, a3, a1] ∧ Exa Z h a4 s8n ∧ Arv Z h a4 k5 (.object s9n) (17 : Int32) ([.null, .null, .null, .null, .null, .null, .null, .null, .null, .null, .null, .null, .null, .null, .null, .null, .null]) .null ∧ Ovr Z k5 s9n ∧ Exa Z h a3 s7n ∧ Fld Z h a3 s7n "elements" s8n (.ref a4) ∧ Fld Z h a3 s7n "head" "I" (.int 1) ∧ Fld Z h a3 s7n "tail" "I" (.int 1) ∧ Exa Z h a1 s4n ∧ Fld Z h a1 s4n "generation" "J" (.long (q2 + (1 : Int64))) ∧ Fld Z h a1 s4n "heldBack" "Z" (.int 0) ∧ Fld Z h a1 s4n "holder" s5n (.ref a7) ∧ Fld Z h a1 s4n s10n s0n (.ref wZERO) ∧ Fld Z h a1 s4n "waiters" s11n (.ref a3)
theorem au12_6 (l : Launch) (Z : State) (a0 : Array Value) (hw : ∀ d ∈ tables_1, d.before a0 Z = true) (ws : List Jvm.Cond) (wMAX_LOCK_DELAY : Addr) (wGRANTED : Addr) (wQUEUED : Addr) (wBUSY : Addr) (wZERO : Addr) (hS : SS Z wMAX_LOCK_DELAY wGRANTED wQUEUED wBUSY wZERO) (a1 : Addr) (q2 : Int64) (a3 : Addr) (a4 : Addr) (k5 : ClassId) (a6 : Addr) (a7 : Addr) (h0 : Heap) (n0 : Nat) (O0 : Old Z n0 h0) (P0 : Exa Z h0 a1 s4n) (P1 : Fld Z h0 a1 s4n "generation" "J" (.long q2)) (P2 : Fld Z h0 a1 s4n "heldBack" "Z" (.int 0)) (P3 : Fld Z h0 a1 s4n "holder" s5n .null) (P4 : Fld Z h0 a1 s4n s10n s0n (.ref wZERO)) (P5 : Fld Z h0 a1 s4n "waiters" s11n (.ref a3)) (P6 : Exa Z h0 a3 s7n) (P7 : Fld Z h0 a3 s7n "elements" s8n (.ref a4)) (P8 : Fld Z h0 a3 s7n "head" "I" (.int 0)) (P9 : Fld Z h0 a3 s7n "tail" "I" (.int 1)) (P10 : Arv Z h0 a4 k5 (.object s9n) (17 : Int32) ([(.ref a6), .null, .null, .null, .null, .null, .null, .null, .null, .null, .null, .null, .null, .null, .null, .null, .null]) .null) (P11 : Ovr Z k5 s9n) (P12 : Exa Z h0 a4 s8n) (P13 : Exa Z h0 a6 s16n) (P14 : Fld Z h0 a6 s16n "lockDelay" s0n (.ref wZERO)) (P15 : Fld Z h0 a6 s16n "owner" s5n (.ref a7)) (P19 : n0 ≤ a1) (P20 : n0 ≤ a3) (P21 : n0 ≤ a4) (P24 : a1 ≠ a3) (P25 : a1 ≠ a4) (P26 : a1 ≠ a6) (P28 : a3 ≠ a4) (P29 : a3 ≠ a6) (P31 : a4 ≠ a6) :
    MetB l M12 prog_84_method_22_code 2 (some (.object s3n)) ws (rmk 3 0 0 41) Z h0 #[(.ref a1)] (Q_au12_6 Z wMAX_LOCK_DELAY wGRANTED wQUEUED wBUSY wZERO a1 q2 a3 a4 k5 a6 a7 h0 n0) := by
  refine own_body (plainFor_of_name pn_com_example_umpired_umpired_server_NodeLock) ?_
  intro p e s m below meth c s₁ hx hby hml hown hnm hret0 hlk0 hZ X0 e0
  have N0 := Fr.nil n0
  have pre0 : ∀ t, Steps p.tables e below (s₁.setTop (mkF m 0 #[(vr a1), .unset] [])) t → Steps p.tables e below (s₁.setTop (entryFrame m #[(.ref a1)] 2)) t := fun t k => castTop (ef_au12_6 m a1) k
  have K0 := Keep.refl h0 [a4, a3, a1]
  have hS0 := hS
  obtain ⟨S_wMAX_LOCK_DELAY, E_wMAX_LOCK_DELAY, S_wGRANTED, E_wGRANTED, S_wQUEUED, E_wQUEUED, S_wBUSY, E_wBUSY, F_seconds_wMAX_LOCK_DELAY, F_nanos_wMAX_LOCK_DELAY, S_wZERO, E_wZERO, F_seconds_wZERO, F_nanos_wZERO⟩ := hS0
  obtain ⟨T1, X1, e1, st1⟩ := getF X0 hx hZ hown (host := "") (Or.inl (ow hw 26 rfl)) Via.refl e0 P5 (g := (mkF m 1 #[(vr a1), .unset] [(.ref a1)])) rfl rfl (hb hby d12_1)
  obtain ⟨cq2, kq2, q2a, q2b, q2c⟩ := isOf hZ e1 P6
  obtain ⟨_, _, ⟨T2, L2, k2, n2⟩, -, X2, ⟨Lc2, hQ2, l2, y2, z2⟩, st2⟩ := X1.interfaceBack hx (xi := M13) (y := M11) hown (mvT hZ (ow hw 88 rfl)) (mvT hZ (ow hw 89 rfl)) (mvT hZ (ow hw 90 rfl)) (mvT hZ (ow hw 91 rfl)) (mvT hZ (ow hw 92 rfl)) (mvT hZ (ow hw 93 rfl)) (mvT hZ (ow hw 94 rfl)) (mvT hZ (ow hw 95 rfl)) (by decide) (backOf (W := 0) (au13_1 l Z a0 hw [] wMAX_LOCK_DELAY wGRANTED wQUEUED wBUSY wZERO hS a3 a4 k5 a6 h0 n0 O0 P6 P7 P8 P9 P10 P11 P12 P20 P21 P28) hZ (ow hw 96 rfl) (ow hw 11 rfl) (by decide) (by decide)) q2a q2b q2c (g := (mkF m 4 #[(vr a1), .unset] [(.ref a3)])) rfl (by rw [hml]; rfl) (Steps.refl _) (argsL := []) (rest := []) (lenOf pd_8 rfl) rfl (by show 2 * 0 + _ ≤ _; exact Nat.le_of_eq rfl) (hb hby d12_4) (fun _ _ => ⟨rfl, e1, (by decide : 0 + 0 ≤ _), (by decide : 0 + 0 ≤ _)⟩)
  dsimp only [Pt.U, Pt.locs, Pt.cells, Pt.slots] at X2 l2 y2 z2 st2 hQ2
  subst l2 y2 z2
  obtain ⟨rfl, Nq2, K2q, p2_0, p2_1, p2_2, p2_3, p2_4, p2_5, p2_6⟩ := hQ2
  have N2 := Fr.app N0 Nq2
  have O3 : Old Z n0 T2.heap := O0.keep K2q (allS P21 (allS P20 all0))
  have K3 : Keep h0 T2.heap [a4, a3, a1] := K0.trans K2q (allS (Or.inl (List.mem_of_getElem? (i := 0) rfl)) (allS (Or.inl (List.mem_of_getElem? (i := 1) rfl)) all0))
  have f4 : Exa Z T2.heap a6 s16n := (P13.keep K2q)
  obtain ⟨T5, X5, e5, st5⟩ := castY X2 hx hZ hown (ow hw 157 rfl) rfl (Ins.self f4) (g := (mkF m 9 #[(vr a1), .unset] [(.ref a6)])) rfl rfl (hb hby d12_9)
  have f6 : Fld Z T2.heap a6 s16n "owner" s5n (.ref a7) := (P15.keep K2q (ninS (Ne.symm P31) (ninS (Ne.symm P29) nin0)))
  obtain ⟨T7, X7, e7, st7⟩ := own_getR X5 hx hZ hown (ow hw 188 rfl) e5 f6 (g := (mkF m 19 #[(vr a1), (vr a6)] [(.ref a6), (.ref a1)])) rfl rfl (hb hby d12_19)
  have f8 : Fld Z T2.heap a6 s16n "lockDelay" s0n (.ref wZERO) := (P14.keep K2q (ninS (Ne.symm P31) (ninS (Ne.symm P29) nin0)))
  obtain ⟨T9, X9, e9, st9⟩ := own_getR X7 hx hZ hown (ow hw 189 rfl) e7 f8 (g := (mkF m 23 #[(vr a1), (vr a6)] [(.ref a6), (.ref a7), (.ref a1)])) rfl rfl (hb hby d12_23)
  have f10 : Exa Z T2.heap a1 s4n := (P0.keep K2q)
  have f11 : Fld Z T2.heap a1 s4n "generation" "J" (.long q2) := (P1.keep K2q (ninS P25 (ninS P24 nin0)))
  have f12 : Fld Z T2.heap a1 s4n "heldBack" "Z" (.int 0) := (P2.keep K2q (ninS P25 (ninS P24 nin0)))
  have f13 : Fld Z T2.heap a1 s4n "holder" s5n .null := (P3.keep K2q (ninS P25 (ninS P24 nin0)))
  have f14 : Fld Z T2.heap a1 s4n s10n s0n (.ref wZERO) := (P4.keep K2q (ninS P25 (ninS P24 nin0)))
  have f15 : Fld Z T2.heap a1 s4n "waiters" s11n (.ref a3) := (P5.keep K2q (ninS P25 (ninS P24 nin0)))
  obtain ⟨cq16, q16, q16'⟩ := f10.cell
  obtain ⟨_, _, ⟨T16, L16, k16, n16⟩, -, X16, ⟨Lc16, hQ16, l16, y16, z16⟩, st16⟩ := X9.privateBack hx (y := M7) hown (mvT hZ (ow hw 70 rfl)) (mvT hZ (ow hw 71 rfl)) (own_selp (mvT hZ (ow hw 1 rfl)) (mvP hZ (ow hw 72 rfl)) (mvT hZ (ow hw 71 rfl)) (by decide)) (Cond.privateMethod_at (mvP hZ (ow hw 72 rfl) (args := #[]))) (mvT hZ (ow hw 73 rfl)) (by decide) (backOf (W := 0) (au10_4 l Z a0 hw [] wMAX_LOCK_DELAY wGRANTED wQUEUED wBUSY wZERO hS a1 a7 q2 a3 T2.heap n0 O3 f10 f11 f12 f13 f14 f15 P19) hZ (ow hw 73 rfl) (ow hw 2 rfl) (by decide) (by decide)) (g := (mkF m 26 #[(vr a1), (vr a6)] [(.ref wZERO), (.ref a7), (.ref a1)])) rfl (by rw [hml]; rfl) (Steps.refl _) (a := a1) (by rw [e9]; exact q16) q16' (argsL := [(.ref a7), (.ref wZERO)]) (rest := []) (lenOf pd_5 rfl) rfl (by show 2 * 0 + _ ≤ _; exact Nat.le_of_eq rfl) (hb hby d12_26) (fun _ _ => ⟨rfl, e9, (by decide : 0 + 0 ≤ _), (by decide : 0 + 0 ≤ _)⟩)
  dsimp only [Pt.U, Pt.locs, Pt.cells, Pt.slots] at X16 l16 y16 z16 st16 hQ16
  subst l16 y16 z16
  obtain ⟨rfl, Nq16, K16q, p16_0, p16_1, p16_2, p16_3, p16_4, p16_5⟩ := hQ16
  have N16 := Fr.app N2 Nq16
  have O17 : Old Z n0 T16.heap := O3.keep K16q (allS P19 all0)
  have K17 : Keep h0 T16.heap [a4, a3, a1] := K3.trans K16q (allS (Or.inl (List.mem_of_getElem? (i := 2) rfl)) all0)
  have f18 : Fld Z T16.heap a6 s16n "owner" s5n (.ref a7) := (f6.keep K16q (ninS (Ne.symm P26) nin0))
  obtain ⟨T19, X19, e19, st19⟩ := own_getR X16 hx hZ hown (ow hw 188 rfl) rfl f18 (g := (mkF m 38 #[(vr a1), (vr a6)] [(.ref a6)])) rfl rfl (hb hby d12_38)
  have f20 : Exa Z T16.heap a4 s8n := (p2_0.keep K16q)
  have f21 : Arv Z T16.heap a4 k5 (.object s9n) (17 : Int32) ([.null, .null, .null, .null, .null, .null, .null, .null, .null, .null, .null, .null, .null, .null, .null, .null, .null]) .null := (p2_1.keep K16q (ninS (Ne.symm P25) nin0))
  have f22 : Exa Z T16.heap a3 s7n := (p2_3.keep K16q)
  have f23 : Fld Z T16.heap a3 s7n "elements" s8n (.ref a4) := (p2_4.keep K16q (ninS (Ne.symm P24) nin0))
  have f24 : Fld Z T16.heap a3 s7n "head" "I" (.int 1) := (p2_5.keep K16q (ninS (Ne.symm P24) nin0))
  have f25 : Fld Z T16.heap a3 s7n "tail" "I" (.int 1) := (p2_6.keep K16q (ninS (Ne.symm P24) nin0))
  obtain ⟨fs, hr, hrun, hended, hW, hsame⟩ := X19.leave (v := some (.ref a7)) (fun h => by rw [hret0] at h; cases h)
  refine ⟨_, _, pre0 _ ?_, hrun, hended, _, _, rfl, ?_, ⟨_, rfl⟩, hW, hsame.mono (by decide) (by decide)⟩
  · skip
    show Steps p.tables e below (s₁.setTop (mkF m 0 #[(vr a1), .unset] [])) _
    refine XS.aloadN X0.here hx rfl (hb hby d12_0) rfl rfl ?_
    refine st1 _ ?_
    refine st2.trans ?_
    refine st5 _ ?_
    refine XS.astoreN X5.here hx rfl (hb hby d12_12) rfl rfl (l' := #[(vr a1), (vr a6)]) rfl ?_
    show Steps p.tables e below (T5.setTop (mkF m 13 #[(vr a1), (vr a6)] [])) _
    refine XS.aloadN X5.here hx rfl (hb hby d12_13) rfl rfl ?_
    refine XS.ifnullNo X5.here hx rfl (hb hby d12_14) rfl ?_
    refine XS.aloadN X5.here hx rfl (hb hby d12_17) rfl rfl ?_
    refine XS.aloadN X5.here hx rfl (hb hby d12_18) rfl rfl ?_
    refine st7 _ ?_
    show Steps p.tables e below (T7.setTop (mkF m 22 #[(vr a1), (vr a6)] [(.ref a7), (.ref a1)])) _
    refine XS.aloadN X7.here hx rfl (hb hby d12_22) rfl rfl ?_
    refine st9 _ ?_
    refine st16.trans ?_
    refine XS.aloadN X16.here hx rfl (hb hby d12_29) rfl rfl ?_
    refine XS.ifnonnullYes X16.here hx rfl (pc0 := 30) (pc' := 37) rfl (hb hby d12_30) rfl (by decide) (by decide) ?_
    show Steps p.tables e below (T16.setTop (mkF m 37 #[(vr a1), (vr a6)] [])) _
    refine XS.aloadN X16.here hx rfl (hb hby d12_37) rfl rfl ?_
    refine st19 _ ?_
    jvm_step X19.here [X19.here.top, hx, (hb hby d12_41), X19.method', hret0, Value.isRef, FieldType.isReference]
    first | (intro acts; rw [hr _ acts rfl rfl rfl]) | rw [hr _ _ rfl rfl rfl]
    exact Steps.refl _
  · show Q_au12_6 Z wMAX_LOCK_DELAY wGRANTED wQUEUED wBUSY wZERO a1 q2 a3 a4 k5 a6 a7 h0 n0 _ T19.heap _
    rw [e19]
    exact ⟨rfl, N16, K17, f20, f21, p2_2, f22, f23, f24, f25, p16_0, p16_1, p16_2, p16_3, p16_4, p16_5⟩
def Q_au26_6 (Z : State) (wMAX_LOCK_DELAY : Addr) (wGRANTED : Addr) (wQUEUED : Addr) (wBUSY : Addr) (wZERO : Addr) (a1 : Addr) (q2 : Int64) (qg3 : Int64) (a4 : Addr) (a5 : Addr) (a7 : Addr) (k8 : ClassId) (a9 : Addr) (a10 : Addr) (q12 : Int64) (h0 : Heap) (n0 : Nat) (v : Option Value) (h : Heap) (L : List Loc) : Prop := v = some (.ref a10) ∧ Fr n0 L ∧ Keep h0 h [a1, a7, a5] ∧ Exa Z h a1 s4n ∧ Fld Z h a1 s4n "generation" "J" (.long (qg3 + (1 : Int64))) ∧ Fld Z h a1 s4n "heldBack" "Z" (.int 0) ∧ Fld Z h a1 s4n "holder" s5n (.ref a10) ∧ Fld Z h a1 s4n s10n s0n (.ref wZERO) ∧ Fld Z h a1 s4n "waiters" s11n (.ref a5) ∧ Exa Z h a7 s8n ∧ Arv Z h a7 k8 (.object s9n) (17 : Int32) ([.null, .null, .null, .null, .null, .null, .null, .null, .null, .null, .null, .null, .null, .null, .null, .null, .null]) .null ∧ Ovr Z k8 s9n ∧ Exa Z h a5 s7n ∧ Fld Z h a5 s7n "elements" s8n (.ref a7) ∧ Fld Z h a5 s7n "head" "I" (.int 1) ∧ Fld Z h a5 s7n "tail" "I" (.int 1)
theorem au26_6 (l : Launch) (Z : State) (a0 : Array Value) (hw : ∀ d ∈ tables_1, d.before a0 Z = true) (ws : List Jvm.Cond) (wMAX_LOCK_DELAY : Addr) (wGRANTED : Addr) (wQUEUED : Addr) (wBUSY : Addr) (wZERO : Addr) (hS : SS Z wMAX_LOCK_DELAY wGRANTED wQUEUED wBUSY wZERO) (a1 : Addr) (q2 : Int64) (qg3 : Int64) (a4 : Addr) (a5 : Addr) (a7 : Addr) (k8 : ClassId) (a9 : Addr) (a10 : Addr) (q12 : Int64) (h0 : Heap) (n0 : Nat) (O0 : Old Z n0 h0) (P0 : Exa Z h0 a1 s4n) (P1 : Fld Z h0 a1 s4n "generation" "J" (.long qg3)) (P2 : Fld Z h0 a1 s4n "heldBack" "Z" (.int 0)) (P3 : Fld Z h0 a1 s4n "holder" s5n (.ref a4)) (P4 : Fld Z h0 a1 s4n s10n s0n (.ref wZERO)) (P5 : Fld Z h0 a1 s4n "waiters" s11n (.ref a5)) (P6 : Exa Z h0 a4 s3n) (P8 : Fld Z h0 a4 s3n "session" "J" (.long q2)) (P9 : Exa Z h0 a5 s7n) (P10 : Fld Z h0 a5 s7n "elements" s8n (.ref a7)) (P11 : Fld Z h0 a5 s7n "head" "I" (.int 0)) (P12 : Fld Z h0 a5 s7n "tail" "I" (.int 1)) (P13 : Arv Z h0 a7 k8 (.object s9n) (17 : Int32) ([(.ref a9), .null, .null, .null, .null, .null, .null, .null, .null, .null, .null, .null, .null, .null, .null, .null, .null]) .null) (P14 : Ovr Z k8 s9n) (P15 : Exa Z h0 a7 s8n) (P16 : Exa Z h0 a9 s16n) (P17 : Fld Z h0 a9 s16n "lockDelay" s0n (.ref wZERO)) (P18 : Fld Z h0 a9 s16n "owner" s5n (.ref a10)) (P19 : Exa Z h0 a10 s3n) (P21 : Fld Z h0 a10 s3n "session" "J" (.long q12)) (P22 : q2 ≠ q12) (P24 : n0 ≤ a1) (P26 : n0 ≤ a5) (P27 : n0 ≤ a7) (P31 : a1 ≠ a5) (P32 : a1 ≠ a7) (P33 : a1 ≠ a9) (P39 : a5 ≠ a7) (P40 : a5 ≠ a9) (P42 : a7 ≠ a9) :
    MetB l M30 prog_84_method_14_code 6 (some (.object s3n)) ws (rmk 4 1 4 54) Z h0 #[(.ref a1), (.long q2), (.int 0)] (Q_au26_6 Z wMAX_LOCK_DELAY wGRANTED wQUEUED wBUSY wZERO a1 q2 qg3 a4 a5 a7 k8 a9 a10 q12 h0 n0) := by
  refine own_body (plainFor_of_name pn_com_example_umpired_umpired_server_NodeLock) ?_
  intro p e s m below meth c s₁ hx hby hml hown hnm hret0 hlk0 hZ X0 e0
  have N0 := Fr.nil n0
  have pre0 : ∀ t, Steps p.tables e below (s₁.setTop (mkF m 0 #[(vr a1), (vl q2), .second, (vi 0), .unset, .unset] [])) t → Steps p.tables e below (s₁.setTop (entryFrame m #[(.ref a1), (.long q2), (.int 0)] 6)) t := fun t k => castTop (ef_au26_6 m a1 q2 (0 : Int32)) k
  have K0 := Keep.refl h0 [a1, a7, a5]
  have hS0 := hS
  obtain ⟨S_wMAX_LOCK_DELAY, E_wMAX_LOCK_DELAY, S_wGRANTED, E_wGRANTED, S_wQUEUED, E_wQUEUED, S_wBUSY, E_wBUSY, F_seconds_wMAX_LOCK_DELAY, F_nanos_wMAX_LOCK_DELAY, S_wZERO, E_wZERO, F_seconds_wZERO, F_nanos_wZERO⟩ := hS0
  obtain ⟨T1, X1, e1, st1⟩ := getF X0 hx hZ hown (host := "") (Or.inl (ow hw 26 rfl)) Via.refl e0 P5 (g := (mkF m 1 #[(vr a1), (vl q2), .second, (vi 0), .unset, .unset] [(.ref a1)])) rfl rfl (hb hby d26_1)
  obtain ⟨cq2, kq2, q2a, q2b, q2c⟩ := isOf hZ e1 P9
  obtain ⟨_, _, ⟨T2, L2, k2, n2⟩, -, X2, ⟨Lc2, hQ2, l2, y2, z2⟩, st2⟩ := X1.interfaceBack hx (xi := M21) (y := M18) hown (mvT hZ (ow hw 113 rfl)) (mvT hZ (ow hw 114 rfl)) (mvT hZ (ow hw 115 rfl)) (mvT hZ (ow hw 116 rfl)) (mvT hZ (ow hw 117 rfl)) (mvT hZ (ow hw 118 rfl)) (mvT hZ (ow hw 119 rfl)) (mvT hZ (ow hw 95 rfl)) (by decide) (backOf (W := 0) (au17_3 l Z a0 hw [] wMAX_LOCK_DELAY wGRANTED wQUEUED wBUSY wZERO hS a5 a7 k8 a9 a10 h0 n0 O0 P9 P10 P11 P12 P13 P16 P19) hZ (ow hw 120 rfl) (ow hw 11 rfl) (by decide) (by decide)) q2a q2b q2c (g := (mkF m 4 #[(vr a1), (vl q2), .second, (vi 0), .unset, .unset] [(.ref a5)])) rfl (by rw [hml]; rfl) (Steps.refl _) (argsL := []) (rest := []) (lenOf pd_13 rfl) rfl (by show 2 * 0 + _ ≤ _; exact Nat.le_of_eq rfl) (hb hby d26_4) (fun _ _ => ⟨rfl, e1, (by decide : 0 + 1 ≤ _), (by decide : 0 + 4 ≤ _)⟩)
  dsimp only [Pt.U, Pt.locs, Pt.cells, Pt.slots] at X2 l2 y2 z2 st2 hQ2
  subst l2 y2 z2
  obtain ⟨e1_2, rfl, Nq2, K2q, p2_0, p2_1, p2_2, p2_3, p2_4, p2_5⟩ := hQ2
  have N2 := Fr.app N0 Nq2
  have ne3 : a1 ≠ e1_2 := Nat.ne_of_lt (Nat.lt_of_lt_of_le P0.lt p2_0)
  have ne4 : a4 ≠ e1_2 := Nat.ne_of_lt (Nat.lt_of_lt_of_le P6.lt p2_0)
  have ne5 : a5 ≠ e1_2 := Nat.ne_of_lt (Nat.lt_of_lt_of_le P9.lt p2_0)
  have ne6 : a7 ≠ e1_2 := Nat.ne_of_lt (Nat.lt_of_lt_of_le P13.lt p2_0)
  have ne7 : a9 ≠ e1_2 := Nat.ne_of_lt (Nat.lt_of_lt_of_le P16.lt p2_0)
  have ne8 : a10 ≠ e1_2 := Nat.ne_of_lt (Nat.lt_of_lt_of_le P19.lt p2_0)
  have g9 : n0 ≤ e1_2 := Nat.le_trans (own_sz O0) p2_0
  have sz10 : h0.size ≤ e1_2 := Nat.le_trans K0.1 p2_0
  have O11 : Old Z n0 T2.heap := O0.keep K2q all0
  have K11 : Keep h0 T2.heap [a1, a7, a5] := K0.trans K2q all0
  obtain ⟨cq12, kq12, q12a, q12b, q12c⟩ := isOf hZ rfl p2_1
  obtain ⟨_, _, ⟨T12, L12, k12, n12⟩, -, X12, ⟨Lc12, hQ12, l12, y12, z12⟩, st12⟩ := X2.interfaceBack hx (xi := M22) (y := M19) hown (mvT hZ (ow hw 148 rfl)) (mvT hZ (ow hw 149 rfl)) (mvT hZ (ow hw 150 rfl)) (mvT hZ (ow hw 151 rfl)) (mvT hZ (ow hw 152 rfl)) (mvT hZ (ow hw 153 rfl)) (mvT hZ (ow hw 154 rfl)) (mvT hZ (ow hw 155 rfl)) (by decide) (backOf (W := 0) (au21_1 l Z a0 hw [] wMAX_LOCK_DELAY wGRANTED wQUEUED wBUSY wZERO hS e1_2 T2.heap n0 O11 p2_4) hZ (ow hw 156 rfl) (ow hw 123 rfl) (by decide) (by decide)) q12a q12b q12c (g := (mkF m 13 #[(vr a1), (vl q2), .second, (vi 0), (vr e1_2), .unset] [(.ref e1_2)])) rfl (by rw [hml]; rfl) (Steps.refl _) (argsL := []) (rest := []) (lenOf pd_14 rfl) rfl (by show 2 * 0 + _ ≤ _; exact Nat.le_of_eq rfl) (hb hby d26_13) (fun _ _ => ⟨rfl, rfl, (by decide : 1 + 0 ≤ _), (by decide : 4 + 0 ≤ _)⟩)
  dsimp only [Pt.U, Pt.locs, Pt.cells, Pt.slots] at X12 l12 y12 z12 st12 hQ12
  subst l12 y12 z12
  obtain ⟨rfl, Nq12, K12q⟩ := hQ12
  have N12 := Fr.app N2 Nq12
  have f13 : Fld Z T2.heap a5 s7n "elements" s8n (.ref a7) := (P10.keep K2q nin0)
  have f14 : Arv Z T2.heap a7 k8 (.object s9n) (17 : Int32) ([(.ref a9), .null, .null, .null, .null, .null, .null, .null, .null, .null, .null, .null, .null, .null, .null, .null, .null]) .null := (P13.keep K2q nin0)
  obtain ⟨cq15, kq15, q15a, q15b, q15c⟩ := isOf hZ K12q p2_1
  obtain ⟨_, _, ⟨T15, L15, k15, n15⟩, -, X15, ⟨Lc15, hQ15, l15, y15, z15⟩, st15⟩ := X12.interfaceBack hx (xi := M34) (y := M33) hown (mvT hZ (ow hw 196 rfl)) (mvT hZ (ow hw 197 rfl)) (mvT hZ (ow hw 198 rfl)) (mvT hZ (ow hw 199 rfl)) (mvT hZ (ow hw 200 rfl)) (mvT hZ (ow hw 201 rfl)) (mvT hZ (ow hw 202 rfl)) (mvT hZ (ow hw 155 rfl)) (by decide) (backOf (W := 0) (au27_0 l Z a0 hw [] wMAX_LOCK_DELAY wGRANTED wQUEUED wBUSY wZERO hS e1_2 a5 a7 k8 a9 T2.heap n0 O11 p2_1 p2_2 p2_3 p2_4 p2_5 f13 f14 g9 (Ne.symm ne6)) hZ (ow hw 203 rfl) (ow hw 123 rfl) (by decide) (by decide)) q15a q15b q15c (g := (mkF m 23 #[(vr a1), (vl q2), .second, (vi 0), (vr e1_2), .unset] [(.ref e1_2)])) rfl (by rw [hml]; rfl) (Steps.refl _) (argsL := []) (rest := []) (lenOf pd_8 rfl) rfl (by show 2 * 0 + _ ≤ _; exact Nat.le_of_eq rfl) (hb hby d26_23) (fun _ _ => ⟨rfl, K12q, (by decide : 1 + 0 ≤ _), (by decide : 4 + 0 ≤ _)⟩)
  dsimp only [Pt.U, Pt.locs, Pt.cells, Pt.slots] at X15 l15 y15 z15 st15 hQ15
  subst l15 y15 z15
  obtain ⟨rfl, Nq15, K15q, p15_0, p15_1, p15_2, p15_3, p15_4⟩ := hQ15
  have N15 := Fr.app N12 Nq15
  have O16 : Old Z n0 T15.heap := O11.keep K15q (allS g9 all0)
  have K16 : Keep h0 T15.heap [a1, a7, a5] := K11.trans K15q (allS (Or.inr sz10) all0)
  have f17 : Exa Z T15.heap a9 s16n := ((P16.keep K2q).keep K15q)
  obtain ⟨T18, X18, e18, st18⟩ := castY X15 hx hZ hown (ow hw 157 rfl) rfl (Ins.self f17) (g := (mkF m 28 #[(vr a1), (vl q2), .second, (vi 0), (vr e1_2), .unset] [(.ref a9)])) rfl rfl (hb hby d26_28)
  have f19 : Fld Z T15.heap a9 s16n "owner" s5n (.ref a10) := ((P18.keep K2q nin0).keep K15q (ninS ne7 nin0))
  obtain ⟨T20, X20, e20, st20⟩ := own_getR X18 hx hZ hown (ow hw 188 rfl) e18 f19 (g := (mkF m 31 #[(vr a1), (vl q2), .second, (vi 0), (vr e1_2), .unset] [(.ref a9)])) rfl rfl (hb hby d26_31)
  have f21 : Fld Z T15.heap a10 s3n "session" "J" (.long q12) := ((P21.keep K2q nin0).keep K15q (ninS ne8 nin0))
  have f23 : Exa Z T15.heap a10 s3n := ((P19.keep K2q).keep K15q)
  obtain ⟨cq22, kq22, q22a, q22b, q22c⟩ := isOf hZ e20 f23
  obtain ⟨_, _, ⟨T22, L22, k22, n22⟩, -, X22, ⟨Lc22, hQ22, l22, y22, z22⟩, st22⟩ := X20.virtualBack hx (y := M28) (z := M28) hown (mvT hZ (ow hw 209 rfl)) (mvT hZ (ow hw 210 rfl)) (notFace_of_selects (args := #[]) (mvT hZ (ow hw 212 rfl))) (mvT hZ (ow hw 212 rfl)) (mvT hZ (ow hw 211 rfl)) (by decide) (backOf (W := 0) (au29_0 l Z a0 hw [] wMAX_LOCK_DELAY wGRANTED wQUEUED wBUSY wZERO hS a10 q12 T15.heap n0 O16 f21) hZ (ow hw 213 rfl) (ow hw 37 rfl) (by decide) (by decide)) q22a q22c (g := (mkF m 34 #[(vr a1), (vl q2), .second, (vi 0), (vr e1_2), .unset] [(.ref a10)])) rfl (by rw [hml]; rfl) (Steps.refl _) (argsL := []) (rest := []) (lenOf pd_18 rfl) rfl (by show 2 * 0 + _ ≤ _; exact Nat.le_of_eq rfl) (hb hby d26_34) (fun _ _ => ⟨rfl, e20, (by decide : 1 + 0 ≤ _), (by decide : 4 + 0 ≤ _)⟩)
  dsimp only [Pt.U, Pt.locs, Pt.cells, Pt.slots] at X22 l22 y22 z22 st22 hQ22
  subst l22 y22 z22
  obtain ⟨rfl, Nq22, K22q⟩ := hQ22
  have N22 := Fr.app N15 Nq22
  obtain ⟨cq24, kq24, q24a, q24b, q24c⟩ := isOf hZ K22q p15_0
  obtain ⟨_, _, ⟨T24, L24, k24, n24⟩, -, X24, ⟨Lc24, hQ24, l24, y24, z24⟩, st24⟩ := X22.interfaceBack hx (xi := M22) (y := M19) hown (mvT hZ (ow hw 148 rfl)) (mvT hZ (ow hw 149 rfl)) (mvT hZ (ow hw 150 rfl)) (mvT hZ (ow hw 151 rfl)) (mvT hZ (ow hw 152 rfl)) (mvT hZ (ow hw 153 rfl)) (mvT hZ (ow hw 154 rfl)) (mvT hZ (ow hw 155 rfl)) (by decide) (backOf (W := 0) (au21_0 l Z a0 hw [] wMAX_LOCK_DELAY wGRANTED wQUEUED wBUSY wZERO hS e1_2 T15.heap n0 O16 p15_3) hZ (ow hw 156 rfl) (ow hw 123 rfl) (by decide) (by decide)) q24a q24b q24c (g := (mkF m 13 #[(vr a1), (vl q2), .second, (vi 0), (vr e1_2), .unset] [(.ref e1_2)])) rfl (by rw [hml]; rfl) (Steps.refl _) (argsL := []) (rest := []) (lenOf pd_14 rfl) rfl (by show 2 * 0 + _ ≤ _; exact Nat.le_of_eq rfl) (hb hby d26_13) (fun _ _ => ⟨rfl, K22q, (by decide : 1 + 0 ≤ _), (by decide : 4 + 0 ≤ _)⟩)
  dsimp only [Pt.U, Pt.locs, Pt.cells, Pt.slots] at X24 l24 y24 z24 st24 hQ24
  subst l24 y24 z24
  obtain ⟨rfl, Nq24, K24q⟩ := hQ24
  have N24 := Fr.app N22 Nq24
  have f25 : Fld Z T15.heap a1 s4n "holder" s5n (.ref a4) := ((P3.keep K2q nin0).keep K15q (ninS ne3 nin0))
  have f26 : Exa Z T15.heap a4 s3n := ((P6.keep K2q).keep K15q)
  have f27 : Fld Z T15.heap a4 s3n "session" "J" (.long q2) := ((P8.keep K2q nin0).keep K15q (ninS ne4 nin0))
  have f29 : Exa Z T15.heap a1 s4n := ((P0.keep K2q).keep K15q)
  obtain ⟨cq28, kq28, q28a, q28b, q28c⟩ := isOf hZ K24q f29
  obtain ⟨_, _, ⟨T28, L28, k28, n28⟩, -, X28, ⟨Lc28, hQ28, l28, y28, z28⟩, st28⟩ := X24.virtualBack hx (y := M29) (z := M29) hown (mvT hZ (ow hw 214 rfl)) (mvT hZ (ow hw 215 rfl)) (notFace_of_selects (args := #[]) (mvT hZ (ow hw 217 rfl))) (mvT hZ (ow hw 217 rfl)) (mvT hZ (ow hw 216 rfl)) (by decide) (backOf (W := 0) (au30_4 l Z a0 hw [] wMAX_LOCK_DELAY wGRANTED wQUEUED wBUSY wZERO hS a1 q2 a4 T15.heap n0 O16 f25 f26 f27) hZ (ow hw 218 rfl) (ow hw 2 rfl) (by decide) (by decide)) q28a q28c (g := (mkF m 57 #[(vr a1), (vl q2), .second, (vi 0), (vr e1_2), .val .null] [(.long q2), (.ref a1)])) rfl (by rw [hml]; rfl) (Steps.refl _) (argsL := [(.long q2)]) (rest := []) (lenOf pd_3 rfl) rfl (by show 2 * 0 + _ ≤ _; exact Nat.le_of_eq rfl) (hb hby d26_57) (fun _ _ => ⟨rfl, K24q, (by decide : 1 + 0 ≤ _), (by decide : 4 + 0 ≤ _)⟩)
  dsimp only [Pt.U, Pt.locs, Pt.cells, Pt.slots] at X28 l28 y28 z28 st28 hQ28
  subst l28 y28 z28
  obtain ⟨rfl, Nq28, K28q⟩ := hQ28
  have N28 := Fr.app N24 Nq28
  obtain ⟨T30, h30, X30, e30, W30, st30⟩ := putF X28 hx hZ hown (host := "") (Or.inl (ow hw 51 rfl)) Via.refl K28q f25 f29 (Or.inl (ow hw 52 rfl)) (ow hw 1 rfl) (ty := (.object s3n)) (by decide) rfl rfl (g := (mkF m 65 #[(vr a1), (vl q2), .second, (vi 0), (vr e1_2), .val .null] [.null, (.ref a1)])) rfl rfl (hb hby d26_65)
  have N30 := Fr.snoc X30 N28 P24
  have O31 : Old Z n0 h30 := O16.wr W30 P24
  have K31 : Keep h0 h30 [a1, a7, a5] := K16.wr W30 (Or.inl (List.mem_of_getElem? (i := 0) rfl))
  have Fw30 : Fld Z h30 a1 s4n "holder" s5n .null := f25.same W30
  have f32 : Exa Z h30 a1 s4n := (f29.wr W30)
  have f33 : Fld Z h30 a1 s4n "heldBack" "Z" (.int 0) := (((P2.keep K2q nin0).keep K15q (ninS ne3 nin0)).other W30 (Or.inr (slot_ne (Or.inl (ow hw 69 rfl)) (Or.inl (ow hw 52 rfl)) (by decide) (t := .boolean) (t' := (.object s3n)) (by decide) (by decide))))
  obtain ⟨T34, h34, X34, e34, W34, st34⟩ := putFN X30 hx hZ hown (ow hw 68 rfl) Via.refl e30 f33 f32 (Or.inl (ow hw 69 rfl)) (ow hw 1 rfl) (ty := .boolean) (v' := (.int 0)) (by decide) rfl rfl (g := (mkF m 88 #[(vr a1), (vl q2), .second, (vi 0), (vr e1_2), .val .null] [(.int 0), (.ref a1)])) rfl rfl (hb hby d26_88)
  have N34 := Fr.snoc X34 N30 P24
  have O35 : Old Z n0 h34 := O31.wr W34 P24
  have K35 : Keep h0 h34 [a1, a7, a5] := K31.wr W34 (Or.inl (List.mem_of_getElem? (i := 0) rfl))
  have Fw34 : Fld Z h34 a1 s4n "heldBack" "Z" (.int 0) := f33.same W34
  obtain ⟨T36, X36, e36, st36⟩ := getF X34 hx hZ hown (host := "") (Or.inl (ow hw 68 rfl)) Via.refl e34 Fw34 (g := (mkF m 92 #[(vr a1), (vl q2), .second, (vi 0), (vr e1_2), .val .null] [(.ref a1)])) rfl rfl (hb hby d26_92)
  have f37 : Exa Z h34 a1 s4n := (f32.wr W34)
  have f38 : Fld Z h34 a1 s4n "generation" "J" (.long qg3) := ((((P1.keep K2q nin0).keep K15q (ninS ne3 nin0)).other W30 (Or.inr (slot_ne (Or.inl (ow hw 75 rfl)) (Or.inl (ow hw 52 rfl)) (by decide) (t := .long) (t' := (.object s3n)) (by decide) (by decide)))).other W34 (Or.inr (slot_ne (Or.inl (ow hw 75 rfl)) (Or.inl (ow hw 69 rfl)) (by decide) (t := .long) (t' := .boolean) (by decide) (by decide))))
  have f39 : Fld Z h34 a1 s4n "holder" s5n .null := (Fw30.other W34 (Or.inr (slot_ne (Or.inl (ow hw 52 rfl)) (Or.inl (ow hw 69 rfl)) (by decide) (t := (.object s3n)) (t' := .boolean) (by decide) (by decide))))
  have f40 : Fld Z h34 a1 s4n s10n s0n (.ref wZERO) := ((((P4.keep K2q nin0).keep K15q (ninS ne3 nin0)).other W30 (Or.inr (slot_ne (Or.inl (ow hw 31 rfl)) (Or.inl (ow hw 52 rfl)) (by decide) (t := (.object s1n)) (t' := (.object s3n)) (by decide) (by decide)))).other W34 (Or.inr (slot_ne (Or.inl (ow hw 31 rfl)) (Or.inl (ow hw 69 rfl)) (by decide) (t := (.object s1n)) (t' := .boolean) (by decide) (by decide))))
  have f41 : Fld Z h34 a1 s4n "waiters" s11n (.ref a5) := ((((P5.keep K2q nin0).keep K15q (ninS ne3 nin0)).other W30 (Or.inr (slot_ne (Or.inr (ow hw 27 rfl)) (Or.inl (ow hw 52 rfl)) (by decide) (t := (.object s12n)) (t' := (.object s3n)) (by decide) (by decide)))).other W34 (Or.inr (slot_ne (Or.inr (ow hw 27 rfl)) (Or.inl (ow hw 69 rfl)) (by decide) (t := (.object s12n)) (t' := .boolean) (by decide) (by decide))))
  have f42 : Exa Z h34 a5 s7n := ((((P9.keep K2q).keep K15q).wr W30).wr W34)
  have f43 : Fld Z h34 a5 s7n "elements" s8n (.ref a7) := (((f13.keep K15q (ninS ne5 nin0)).other W30 (Or.inl (Ne.symm P31))).other W34 (Or.inl (Ne.symm P31)))
  have f44 : Fld Z h34 a5 s7n "head" "I" (.int 0) := ((((P11.keep K2q nin0).keep K15q (ninS ne5 nin0)).other W30 (Or.inl (Ne.symm P31))).other W34 (Or.inl (Ne.symm P31)))
  have f45 : Fld Z h34 a5 s7n "tail" "I" (.int 1) := ((((P12.keep K2q nin0).keep K15q (ninS ne5 nin0)).other W30 (Or.inl (Ne.symm P31))).other W34 (Or.inl (Ne.symm P31)))
  have f46 : Arv Z h34 a7 k8 (.object s9n) (17 : Int32) ([(.ref a9), .null, .null, .null, .null, .null, .null, .null, .null, .null, .null, .null, .null, .null, .null, .null, .null]) .null := (((f14.keep K15q (ninS ne6 nin0)).other W30 (Ne.symm P32)).other W34 (Ne.symm P32))
  have f47 : Exa Z h34 a7 s8n := ((((P15.keep K2q).keep K15q).wr W30).wr W34)
  have f48 : Exa Z h34 a9 s16n := ((f17.wr W30).wr W34)
  have f49 : Fld Z h34 a9 s16n "lockDelay" s0n (.ref wZERO) := ((((P17.keep K2q nin0).keep K15q (ninS ne7 nin0)).other W30 (Or.inl (Ne.symm P33))).other W34 (Or.inl (Ne.symm P33)))
  have f50 : Fld Z h34 a9 s16n "owner" s5n (.ref a10) := ((f19.other W30 (Or.inl (Ne.symm P33))).other W34 (Or.inl (Ne.symm P33)))
  obtain ⟨cq51, q51, q51'⟩ := f37.cell
  obtain ⟨_, _, ⟨T51, L51, k51, n51⟩, -, X51, ⟨Lc51, hQ51, l51, y51, z51⟩, st51⟩ := X36.privateBack hx (y := M12) hown (mvT hZ (ow hw 84 rfl)) (mvT hZ (ow hw 85 rfl)) (own_selp (mvT hZ (ow hw 1 rfl)) (mvP hZ (ow hw 86 rfl)) (mvT hZ (ow hw 85 rfl)) (by decide)) (Cond.privateMethod_at (mvP hZ (ow hw 86 rfl) (args := #[]))) (mvT hZ (ow hw 87 rfl)) (by decide) (backOf (W := 0) (au12_6 l Z a0 hw [] wMAX_LOCK_DELAY wGRANTED wQUEUED wBUSY wZERO hS a1 qg3 a5 a7 k8 a9 a10 h34 n0 O35 f37 f38 Fw34 f39 f40 f41 f42 f43 f44 f45 f46 P14 f47 f48 f49 f50 P24 P26 P27 P31 P32 P33 P39 P40 P42) hZ (ow hw 87 rfl) (ow hw 2 rfl) (by decide) (by decide)) (g := (mkF m 103 #[(vr a1), (vl q2), .second, (vi 0), (vr e1_2), .val .null] [(.ref a1)])) rfl (by rw [hml]; rfl) (Steps.refl _) (a := a1) (by rw [e36]; exact q51) q51' (argsL := []) (rest := []) (lenOf pd_9 rfl) rfl (by show 2 * 0 + _ ≤ _; exact Nat.le_of_eq rfl) (hb hby d26_103) (fun _ _ => ⟨rfl, e36, (by decide : 1 + 0 ≤ _), (by decide : 4 + 0 ≤ _)⟩)
  dsimp only [Pt.U, Pt.locs, Pt.cells, Pt.slots] at X51 l51 y51 z51 st51 hQ51
  subst l51 y51 z51
  obtain ⟨rfl, Nq51, K51q, p51_0, p51_1, p51_2, p51_3, p51_4, p51_5, p51_6, p51_7, p51_8, p51_9, p51_10, p51_11, p51_12⟩ := hQ51
  have N51 := Fr.app N34 Nq51
  have O52 : Old Z n0 T51.heap := O35.keep K51q (allS P27 (allS P26 (allS P24 all0)))
  have K52 : Keep h0 T51.heap [a1, a7, a5] := K35.trans K51q (allS (Or.inl (List.mem_of_getElem? (i := 1) rfl)) (allS (Or.inl (List.mem_of_getElem? (i := 2) rfl)) (allS (Or.inl (List.mem_of_getElem? (i := 0) rfl)) all0)))
  obtain ⟨fs, hr, hrun, hended, hW, hsame⟩ := X51.leave (v := some (.ref a10)) (fun h => by rw [hret0] at h; cases h)
  refine ⟨_, _, pre0 _ ?_, hrun, hended, _, _, rfl, ?_, ⟨_, rfl⟩, hW, hsame.mono (by decide) (by decide)⟩
  · skip
    show Steps p.tables e below (s₁.setTop (mkF m 0 #[(vr a1), (vl q2), .second, (vi 0), .unset, .unset] [])) _
    refine XS.aloadN X0.here hx rfl (hb hby d26_0) rfl rfl ?_
    refine st1 _ ?_
    refine st2.trans ?_
    refine XS.astore X2.here hx rfl (hb hby d26_9) rfl rfl (l' := #[(vr a1), (vl q2), .second, (vi 0), (vr e1_2), .unset]) rfl ?_
    refine XS.aload X2.here hx rfl (hb hby d26_11) rfl rfl ?_
    show Steps p.tables e below (T2.setTop (mkF m 13 #[(vr a1), (vl q2), .second, (vi 0), (vr e1_2), .unset] [(.ref e1_2)])) _
    refine st12.trans ?_
    refine XS.ifNo X12.here hx rfl (hb hby d26_18) rfl ((if0 _ _).trans (feq (by decide : ¬ ((1 : Int32) = (0 : Int32)))).1) ?_
    refine XS.aload X12.here hx rfl (hb hby d26_21) rfl rfl ?_
    refine st15.trans ?_
    refine st18 _ ?_
    show Steps p.tables e below (T18.setTop (mkF m 31 #[(vr a1), (vl q2), .second, (vi 0), (vr e1_2), .unset] [(.ref a9)])) _
    refine st20 _ ?_
    refine st22.trans ?_
    refine XS.lloadN X22.here hx rfl (hb hby d26_37) rfl ?_
    refine XS.lcmp X22.here hx rfl (hb hby d26_38) rfl ?_
    refine XS.ifYes X22.here hx rfl (pc0 := 39) (pc' := 11) rfl (hb hby d26_39) rfl ((if0 _ _).trans (feq (fun z => P22 ((lw_eq _ _).mp z).symm : ¬ ((lcmpW q12 q2) = (0 : Int32)))).2) (by decide) (by decide) ?_
    show Steps p.tables e below (T22.setTop (mkF m 11 #[(vr a1), (vl q2), .second, (vi 0), (vr e1_2), .unset] [])) _
    refine XS.aload X22.here hx rfl (hb hby d26_11) rfl rfl ?_
    refine st24.trans ?_
    refine XS.ifYes X24.here hx rfl (pc0 := 18) (pc' := 52) rfl (hb hby d26_18) rfl ((if0 _ _).trans (teq (by decide : (0 : Int32) = (0 : Int32))).1) (by decide) (by decide) ?_
    refine XS.aconstNull X24.here hx rfl (hb hby d26_52) ?_
    refine XS.astore X24.here hx rfl (hb hby d26_53) rfl rfl (l' := #[(vr a1), (vl q2), .second, (vi 0), (vr e1_2), .val .null]) rfl ?_
    show Steps p.tables e below (T24.setTop (mkF m 55 #[(vr a1), (vl q2), .second, (vi 0), (vr e1_2), .val .null] [])) _
    refine XS.aloadN X24.here hx rfl (hb hby d26_55) rfl rfl ?_
    refine XS.lloadN X24.here hx rfl (hb hby d26_56) rfl ?_
    refine st28.trans ?_
    refine XS.ifNo X28.here hx rfl (hb hby d26_60) rfl ((if0 _ _).trans (feq (by decide : ¬ ((1 : Int32) = (0 : Int32)))).1) ?_
    refine XS.aloadN X28.here hx rfl (hb hby d26_63) rfl rfl ?_
    show Steps p.tables e below (T28.setTop (mkF m 64 #[(vr a1), (vl q2), .second, (vi 0), (vr e1_2), .val .null] [(.ref a1)])) _
    refine XS.aconstNull X28.here hx rfl (hb hby d26_64) ?_
    refine st30 _ ?_
    refine XS.aloadN X30.here hx rfl (hb hby d26_68) rfl rfl ?_
    refine XS.iloadN X30.here hx rfl (hb hby d26_69) rfl ?_
    refine XS.ifYes X30.here hx rfl (pc0 := 70) (pc' := 87) rfl (hb hby d26_70) rfl ((if0 _ _).trans (teq (by decide : (0 : Int32) = (0 : Int32))).1) (by decide) (by decide) ?_
    show Steps p.tables e below (T30.setTop (mkF m 87 #[(vr a1), (vl q2), .second, (vi 0), (vr e1_2), .val .null] [(.ref a1)])) _
    refine XS.iconst X30.here hx rfl (hb hby d26_87) ?_
    refine st34 _ ?_
    refine XS.aloadN X34.here hx rfl (hb hby d26_91) rfl rfl ?_
    refine st36 _ ?_
    refine XS.ifYes X36.here hx rfl (pc0 := 95) (pc' := 102) rfl (hb hby d26_95) rfl ((if0 _ _).trans (teq (by decide : (0 : Int32) = (0 : Int32))).1) (by decide) (by decide) ?_
    show Steps p.tables e below (T36.setTop (mkF m 102 #[(vr a1), (vl q2), .second, (vi 0), (vr e1_2), .val .null] [])) _
    refine XS.aloadN X36.here hx rfl (hb hby d26_102) rfl rfl ?_
    refine st51.trans ?_
    refine XS.astore X51.here hx rfl (hb hby d26_106) rfl rfl (l' := #[(vr a1), (vl q2), .second, (vi 0), (vr e1_2), (vr a10)]) rfl ?_
    refine XS.aload X51.here hx rfl (hb hby d26_108) rfl rfl ?_
    jvm_step X51.here [X51.here.top, hx, (hb hby d26_110), X51.method', hret0, Value.isRef, FieldType.isReference]
    first | (intro acts; rw [hr _ acts rfl rfl rfl]) | rw [hr _ _ rfl rfl rfl]
    exact Steps.refl _
  · show Q_au26_6 Z wMAX_LOCK_DELAY wGRANTED wQUEUED wBUSY wZERO a1 q2 qg3 a4 a5 a7 k8 a9 a10 q12 h0 n0 _ T51.heap _
    exact ⟨rfl, N51, K52, p51_7, p51_8, p51_9, p51_10, p51_11, p51_12, p51_0, p51_1, p51_2, p51_3, p51_4, p51_5, p51_6⟩
theorem ef_au26_7 (m : MethodId) (x0 : Addr) (x1 : Int64) (x2 : Int32)  : entryFrame m #[(.ref x0), (.long x1), (.int x2)] 6 = mkF m 0 #[(vr x0), (vl x1), .second, (vi x2), .unset, .unset] [] := by first | (simp [entryFrame, mkF, argsToLocals, Value.category]; done) | rfl
def Q_au26_7 (Z : State) (wMAX_LOCK_DELAY : Addr) (wGRANTED : Addr) (wQUEUED : Addr) (wBUSY : Addr) (wZERO : Addr) (a1 : Addr) (q2 : Int64) (qg3 : Int64) (a4 : Addr) (a5 : Addr) (a7 : Addr) (k8 : ClassId) (a9 : Addr) (a10 : Addr) (q12 : Int64) (h0 : Heap) (n0 : Nat) (v : Option Value) (h : Heap) (L : List Loc) : Prop := v = some (.ref a10) ∧ Fr n0 L ∧ Keep h0 h [a1, a7, a5] ∧ Exa Z h a1 s4n ∧ Fld Z h a1 s4n "generation" "J" (.long (qg3 + (1 : Int64))) ∧ Fld Z h a1 s4n "heldBack" "Z" (.int 0) ∧ Fld Z h a1 s4n "holder" s5n (.ref a10) ∧ Fld Z h a1 s4n s10n s0n (.ref wZERO) ∧ Fld Z h a1 s4n "waiters" s11n (.ref a5) ∧ Exa Z h a7 s8n ∧ Arv Z h a7 k8 (.object s9n) (17 : Int32) ([.null, .null, .null, .null, .null, .null, .null, .null, .null, .null, .null, .null, .null, .null, .null, .null, .null]) .null ∧ Ovr Z k8 s9n ∧ Exa Z h a5 s7n ∧ Fld Z h a5 s7n "elements" s8n (.ref a7) ∧ Fld Z h a5 s7n "head" "I" (.int 1) ∧ Fld Z h a5 s7n "tail" "I" (.int 1)
theorem au26_7 (l : Launch) (Z : State) (a0 : Array Value) (hw : ∀ d ∈ tables_1, d.before a0 Z = true) (ws : List Jvm.Cond) (wMAX_LOCK_DELAY : Addr) (wGRANTED : Addr) (wQUEUED : Addr) (wBUSY : Addr) (wZERO : Addr) (hS : SS Z wMAX_LOCK_DELAY wGRANTED wQUEUED wBUSY wZERO) (a1 : Addr) (q2 : Int64) (qg3 : Int64) (a4 : Addr) (a5 : Addr) (a7 : Addr) (k8 : ClassId) (a9 : Addr) (a10 : Addr) (q12 : Int64) (h0 : Heap) (n0 : Nat) (O0 : Old Z n0 h0) (P0 : Exa Z h0 a1 s4n) (P1 : Fld Z h0 a1 s4n "generation" "J" (.long qg3)) (P2 : Fld Z h0 a1 s4n "heldBack" "Z" (.int 0)) (P3 : Fld Z h0 a1 s4n "holder" s5n (.ref a4)) (P4 : Fld Z h0 a1 s4n s10n s0n (.ref wZERO)) (P5 : Fld Z h0 a1 s4n "waiters" s11n (.ref a5)) (P6 : Exa Z h0 a4 s3n) (P8 : Fld Z h0 a4 s3n "session" "J" (.long q2)) (P9 : Exa Z h0 a5 s7n) (P10 : Fld Z h0 a5 s7n "elements" s8n (.ref a7)) (P11 : Fld Z h0 a5 s7n "head" "I" (.int 0)) (P12 : Fld Z h0 a5 s7n "tail" "I" (.int 1)) (P13 : Arv Z h0 a7 k8 (.object s9n) (17 : Int32) ([(.ref a9), .null, .null, .null, .null, .null, .null, .null, .null, .null, .null, .null, .null, .null, .null, .null, .null]) .null) (P14 : Ovr Z k8 s9n) (P15 : Exa Z h0 a7 s8n) (P16 : Exa Z h0 a9 s16n) (P17 : Fld Z h0 a9 s16n "lockDelay" s0n (.ref wZERO)) (P18 : Fld Z h0 a9 s16n "owner" s5n (.ref a10)) (P19 : Exa Z h0 a10 s3n) (P21 : Fld Z h0 a10 s3n "session" "J" (.long q12)) (P22 : q2 ≠ q12) (P24 : n0 ≤ a1) (P26 : n0 ≤ a5) (P27 : n0 ≤ a7) (P31 : a1 ≠ a5) (P32 : a1 ≠ a7) (P33 : a1 ≠ a9) (P39 : a5 ≠ a7) (P40 : a5 ≠ a9) (P42 : a7 ≠ a9) :
    MetB l M30 prog_84_method_14_code 6 (some (.object s3n)) ws (rmk 4 1 4 54) Z h0 #[(.ref a1), (.long q2), (.int 1)] (Q_au26_7 Z wMAX_LOCK_DELAY wGRANTED wQUEUED wBUSY wZERO a1 q2 qg3 a4 a5 a7 k8 a9 a10 q12 h0 n0) := by
  refine own_body (plainFor_of_name pn_com_example_umpired_umpired_server_NodeLock) ?_
  intro p e s m below meth c s₁ hx hby hml hown hnm hret0 hlk0 hZ X0 e0
  have N0 := Fr.nil n0
  have pre0 : ∀ t, Steps p.tables e below (s₁.setTop (mkF m 0 #[(vr a1), (vl q2), .second, (vi 1), .unset, .unset] [])) t → Steps p.tables e below (s₁.setTop (entryFrame m #[(.ref a1), (.long q2), (.int 1)] 6)) t := fun t k => castTop (ef_au26_7 m a1 q2 (1 : Int32)) k
  have K0 := Keep.refl h0 [a1, a7, a5]
  have hS0 := hS
  obtain ⟨S_wMAX_LOCK_DELAY, E_wMAX_LOCK_DELAY, S_wGRANTED, E_wGRANTED, S_wQUEUED, E_wQUEUED, S_wBUSY, E_wBUSY, F_seconds_wMAX_LOCK_DELAY, F_nanos_wMAX_LOCK_DELAY, S_wZERO, E_wZERO, F_seconds_wZERO, F_nanos_wZERO⟩ := hS0
  obtain ⟨T1, X1, e1, st1⟩ := getF X0 hx hZ hown (host := "") (Or.inl (ow hw 26 rfl)) Via.refl e0 P5 (g := (mkF m 1 #[(vr a1), (vl q2), .second, (vi 1), .unset, .unset] [(.ref a1)])) rfl rfl (hb hby d26_1)
  obtain ⟨cq2, kq2, q2a, q2b, q2c⟩ := isOf hZ e1 P9
  obtain ⟨_, _, ⟨T2, L2, k2, n2⟩, -, X2, ⟨Lc2, hQ2, l2, y2, z2⟩, st2⟩ := X1.interfaceBack hx (xi := M21) (y := M18) hown (mvT hZ (ow hw 113 rfl)) (mvT hZ (ow hw 114 rfl)) (mvT hZ (ow hw 115 rfl)) (mvT hZ (ow hw 116 rfl)) (mvT hZ (ow hw 117 rfl)) (mvT hZ (ow hw 118 rfl)) (mvT hZ (ow hw 119 rfl)) (mvT hZ (ow hw 95 rfl)) (by decide) (backOf (W := 0) (au17_3 l Z a0 hw [] wMAX_LOCK_DELAY wGRANTED wQUEUED wBUSY wZERO hS a5 a7 k8 a9 a10 h0 n0 O0 P9 P10 P11 P12 P13 P16 P19) hZ (ow hw 120 rfl) (ow hw 11 rfl) (by decide) (by decide)) q2a q2b q2c (g := (mkF m 4 #[(vr a1), (vl q2), .second, (vi 1), .unset, .unset] [(.ref a5)])) rfl (by rw [hml]; rfl) (Steps.refl _) (argsL := []) (rest := []) (lenOf pd_13 rfl) rfl (by show 2 * 0 + _ ≤ _; exact Nat.le_of_eq rfl) (hb hby d26_4) (fun _ _ => ⟨rfl, e1, (by decide : 0 + 1 ≤ _), (by decide : 0 + 4 ≤ _)⟩)
  dsimp only [Pt.U, Pt.locs, Pt.cells, Pt.slots] at X2 l2 y2 z2 st2 hQ2
  subst l2 y2 z2
  obtain ⟨e1_2, rfl, Nq2, K2q, p2_0, p2_1, p2_2, p2_3, p2_4, p2_5⟩ := hQ2
  have N2 := Fr.app N0 Nq2
  have ne3 : a1 ≠ e1_2 := Nat.ne_of_lt (Nat.lt_of_lt_of_le P0.lt p2_0)
  have ne4 : a4 ≠ e1_2 := Nat.ne_of_lt (Nat.lt_of_lt_of_le P6.lt p2_0)
  have ne5 : a5 ≠ e1_2 := Nat.ne_of_lt (Nat.lt_of_lt_of_le P9.lt p2_0)
  have ne6 : a7 ≠ e1_2 := Nat.ne_of_lt (Nat.lt_of_lt_of_le P13.lt p2_0)
  have ne7 : a9 ≠ e1_2 := Nat.ne_of_lt (Nat.lt_of_lt_of_le P16.lt p2_0)
  have ne8 : a10 ≠ e1_2 := Nat.ne_of_lt (Nat.lt_of_lt_of_le P19.lt p2_0)
  have g9 : n0 ≤ e1_2 := Nat.le_trans (own_sz O0) p2_0
  have sz10 : h0.size ≤ e1_2 := Nat.le_trans K0.1 p2_0
  have O11 : Old Z n0 T2.heap := O0.keep K2q all0
  have K11 : Keep h0 T2.heap [a1, a7, a5] := K0.trans K2q all0
  obtain ⟨cq12, kq12, q12a, q12b, q12c⟩ := isOf hZ rfl p2_1
  obtain ⟨_, _, ⟨T12, L12, k12, n12⟩, -, X12, ⟨Lc12, hQ12, l12, y12, z12⟩, st12⟩ := X2.interfaceBack hx (xi := M22) (y := M19) hown (mvT hZ (ow hw 148 rfl)) (mvT hZ (ow hw 149 rfl)) (mvT hZ (ow hw 150 rfl)) (mvT hZ (ow hw 151 rfl)) (mvT hZ (ow hw 152 rfl)) (mvT hZ (ow hw 153 rfl)) (mvT hZ (ow hw 154 rfl)) (mvT hZ (ow hw 155 rfl)) (by decide) (backOf (W := 0) (au21_1 l Z a0 hw [] wMAX_LOCK_DELAY wGRANTED wQUEUED wBUSY wZERO hS e1_2 T2.heap n0 O11 p2_4) hZ (ow hw 156 rfl) (ow hw 123 rfl) (by decide) (by decide)) q12a q12b q12c (g := (mkF m 13 #[(vr a1), (vl q2), .second, (vi 1), (vr e1_2), .unset] [(.ref e1_2)])) rfl (by rw [hml]; rfl) (Steps.refl _) (argsL := []) (rest := []) (lenOf pd_14 rfl) rfl (by show 2 * 0 + _ ≤ _; exact Nat.le_of_eq rfl) (hb hby d26_13) (fun _ _ => ⟨rfl, rfl, (by decide : 1 + 0 ≤ _), (by decide : 4 + 0 ≤ _)⟩)
  dsimp only [Pt.U, Pt.locs, Pt.cells, Pt.slots] at X12 l12 y12 z12 st12 hQ12
  subst l12 y12 z12
  obtain ⟨rfl, Nq12, K12q⟩ := hQ12
  have N12 := Fr.app N2 Nq12
  have f13 : Fld Z T2.heap a5 s7n "elements" s8n (.ref a7) := (P10.keep K2q nin0)
  have f14 : Arv Z T2.heap a7 k8 (.object s9n) (17 : Int32) ([(.ref a9), .null, .null, .null, .null, .null, .null, .null, .null, .null, .null, .null, .null, .null, .null, .null, .null]) .null := (P13.keep K2q nin0)
  obtain ⟨cq15, kq15, q15a, q15b, q15c⟩ := isOf hZ K12q p2_1
  obtain ⟨_, _, ⟨T15, L15, k15, n15⟩, -, X15, ⟨Lc15, hQ15, l15, y15, z15⟩, st15⟩ := X12.interfaceBack hx (xi := M34) (y := M33) hown (mvT hZ (ow hw 196 rfl)) (mvT hZ (ow hw 197 rfl)) (mvT hZ (ow hw 198 rfl)) (mvT hZ (ow hw 199 rfl)) (mvT hZ (ow hw 200 rfl)) (mvT hZ (ow hw 201 rfl)) (mvT hZ (ow hw 202 rfl)) (mvT hZ (ow hw 155 rfl)) (by decide) (backOf (W := 0) (au27_0 l Z a0 hw [] wMAX_LOCK_DELAY wGRANTED wQUEUED wBUSY wZERO hS e1_2 a5 a7 k8 a9 T2.heap n0 O11 p2_1 p2_2 p2_3 p2_4 p2_5 f13 f14 g9 (Ne.symm ne6)) hZ (ow hw 203 rfl) (ow hw 123 rfl) (by decide) (by decide)) q15a q15b q15c (g := (mkF m 23 #[(vr a1), (vl q2), .second, (vi 1), (vr e1_2), .unset] [(.ref e1_2)])) rfl (by rw [hml]; rfl) (Steps.refl _) (argsL := []) (rest := []) (lenOf pd_8 rfl) rfl (by show 2 * 0 + _ ≤ _; exact Nat.le_of_eq rfl) (hb hby d26_23) (fun _ _ => ⟨rfl, K12q, (by decide : 1 + 0 ≤ _), (by decide : 4 + 0 ≤ _)⟩)
  dsimp only [Pt.U, Pt.locs, Pt.cells, Pt.slots] at X15 l15 y15 z15 st15 hQ15
  subst l15 y15 z15
  obtain ⟨rfl, Nq15, K15q, p15_0, p15_1, p15_2, p15_3, p15_4⟩ := hQ15
  have N15 := Fr.app N12 Nq15
  have O16 : Old Z n0 T15.heap := O11.keep K15q (allS g9 all0)
  have K16 : Keep h0 T15.heap [a1, a7, a5] := K11.trans K15q (allS (Or.inr sz10) all0)
  have f17 : Exa Z T15.heap a9 s16n := ((P16.keep K2q).keep K15q)
  obtain ⟨T18, X18, e18, st18⟩ := castY X15 hx hZ hown (ow hw 157 rfl) rfl (Ins.self f17) (g := (mkF m 28 #[(vr a1), (vl q2), .second, (vi 1), (vr e1_2), .unset] [(.ref a9)])) rfl rfl (hb hby d26_28)
  have f19 : Fld Z T15.heap a9 s16n "owner" s5n (.ref a10) := ((P18.keep K2q nin0).keep K15q (ninS ne7 nin0))
  obtain ⟨T20, X20, e20, st20⟩ := own_getR X18 hx hZ hown (ow hw 188 rfl) e18 f19 (g := (mkF m 31 #[(vr a1), (vl q2), .second, (vi 1), (vr e1_2), .unset] [(.ref a9)])) rfl rfl (hb hby d26_31)
  have f21 : Fld Z T15.heap a10 s3n "session" "J" (.long q12) := ((P21.keep K2q nin0).keep K15q (ninS ne8 nin0))
  have f23 : Exa Z T15.heap a10 s3n := ((P19.keep K2q).keep K15q)
  obtain ⟨cq22, kq22, q22a, q22b, q22c⟩ := isOf hZ e20 f23
  obtain ⟨_, _, ⟨T22, L22, k22, n22⟩, -, X22, ⟨Lc22, hQ22, l22, y22, z22⟩, st22⟩ := X20.virtualBack hx (y := M28) (z := M28) hown (mvT hZ (ow hw 209 rfl)) (mvT hZ (ow hw 210 rfl)) (notFace_of_selects (args := #[]) (mvT hZ (ow hw 212 rfl))) (mvT hZ (ow hw 212 rfl)) (mvT hZ (ow hw 211 rfl)) (by decide) (backOf (W := 0) (au29_0 l Z a0 hw [] wMAX_LOCK_DELAY wGRANTED wQUEUED wBUSY wZERO hS a10 q12 T15.heap n0 O16 f21) hZ (ow hw 213 rfl) (ow hw 37 rfl) (by decide) (by decide)) q22a q22c (g := (mkF m 34 #[(vr a1), (vl q2), .second, (vi 1), (vr e1_2), .unset] [(.ref a10)])) rfl (by rw [hml]; rfl) (Steps.refl _) (argsL := []) (rest := []) (lenOf pd_18 rfl) rfl (by show 2 * 0 + _ ≤ _; exact Nat.le_of_eq rfl) (hb hby d26_34) (fun _ _ => ⟨rfl, e20, (by decide : 1 + 0 ≤ _), (by decide : 4 + 0 ≤ _)⟩)
  dsimp only [Pt.U, Pt.locs, Pt.cells, Pt.slots] at X22 l22 y22 z22 st22 hQ22
  subst l22 y22 z22
  obtain ⟨rfl, Nq22, K22q⟩ := hQ22
  have N22 := Fr.app N15 Nq22
  obtain ⟨cq24, kq24, q24a, q24b, q24c⟩ := isOf hZ K22q p15_0
  obtain ⟨_, _, ⟨T24, L24, k24, n24⟩, -, X24, ⟨Lc24, hQ24, l24, y24, z24⟩, st24⟩ := X22.interfaceBack hx (xi := M22) (y := M19) hown (mvT hZ (ow hw 148 rfl)) (mvT hZ (ow hw 149 rfl)) (mvT hZ (ow hw 150 rfl)) (mvT hZ (ow hw 151 rfl)) (mvT hZ (ow hw 152 rfl)) (mvT hZ (ow hw 153 rfl)) (mvT hZ (ow hw 154 rfl)) (mvT hZ (ow hw 155 rfl)) (by decide) (backOf (W := 0) (au21_0 l Z a0 hw [] wMAX_LOCK_DELAY wGRANTED wQUEUED wBUSY wZERO hS e1_2 T15.heap n0 O16 p15_3) hZ (ow hw 156 rfl) (ow hw 123 rfl) (by decide) (by decide)) q24a q24b q24c (g := (mkF m 13 #[(vr a1), (vl q2), .second, (vi 1), (vr e1_2), .unset] [(.ref e1_2)])) rfl (by rw [hml]; rfl) (Steps.refl _) (argsL := []) (rest := []) (lenOf pd_14 rfl) rfl (by show 2 * 0 + _ ≤ _; exact Nat.le_of_eq rfl) (hb hby d26_13) (fun _ _ => ⟨rfl, K22q, (by decide : 1 + 0 ≤ _), (by decide : 4 + 0 ≤ _)⟩)
  dsimp only [Pt.U, Pt.locs, Pt.cells, Pt.slots] at X24 l24 y24 z24 st24 hQ24
  subst l24 y24 z24
  obtain ⟨rfl, Nq24, K24q⟩ := hQ24
  have N24 := Fr.app N22 Nq24
  have f25 : Fld Z T15.heap a1 s4n "holder" s5n (.ref a4) := ((P3.keep K2q nin0).keep K15q (ninS ne3 nin0))
  have f26 : Exa Z T15.heap a4 s3n := ((P6.keep K2q).keep K15q)
  have f27 : Fld Z T15.heap a4 s3n "session" "J" (.long q2) := ((P8.keep K2q nin0).keep K15q (ninS ne4 nin0))
  have f29 : Exa Z T15.heap a1 s4n := ((P0.keep K2q).keep K15q)
  obtain ⟨cq28, kq28, q28a, q28b, q28c⟩ := isOf hZ K24q f29
  obtain ⟨_, _, ⟨T28, L28, k28, n28⟩, -, X28, ⟨Lc28, hQ28, l28, y28, z28⟩, st28⟩ := X24.virtualBack hx (y := M29) (z := M29) hown (mvT hZ (ow hw 214 rfl)) (mvT hZ (ow hw 215 rfl)) (notFace_of_selects (args := #[]) (mvT hZ (ow hw 217 rfl))) (mvT hZ (ow hw 217 rfl)) (mvT hZ (ow hw 216 rfl)) (by decide) (backOf (W := 0) (au30_4 l Z a0 hw [] wMAX_LOCK_DELAY wGRANTED wQUEUED wBUSY wZERO hS a1 q2 a4 T15.heap n0 O16 f25 f26 f27) hZ (ow hw 218 rfl) (ow hw 2 rfl) (by decide) (by decide)) q28a q28c (g := (mkF m 57 #[(vr a1), (vl q2), .second, (vi 1), (vr e1_2), .val .null] [(.long q2), (.ref a1)])) rfl (by rw [hml]; rfl) (Steps.refl _) (argsL := [(.long q2)]) (rest := []) (lenOf pd_3 rfl) rfl (by show 2 * 0 + _ ≤ _; exact Nat.le_of_eq rfl) (hb hby d26_57) (fun _ _ => ⟨rfl, K24q, (by decide : 1 + 0 ≤ _), (by decide : 4 + 0 ≤ _)⟩)
  dsimp only [Pt.U, Pt.locs, Pt.cells, Pt.slots] at X28 l28 y28 z28 st28 hQ28
  subst l28 y28 z28
  obtain ⟨rfl, Nq28, K28q⟩ := hQ28
  have N28 := Fr.app N24 Nq28
  obtain ⟨T30, h30, X30, e30, W30, st30⟩ := putF X28 hx hZ hown (host := "") (Or.inl (ow hw 51 rfl)) Via.refl K28q f25 f29 (Or.inl (ow hw 52 rfl)) (ow hw 1 rfl) (ty := (.object s3n)) (by decide) rfl rfl (g := (mkF m 65 #[(vr a1), (vl q2), .second, (vi 1), (vr e1_2), .val .null] [.null, (.ref a1)])) rfl rfl (hb hby d26_65)
  have N30 := Fr.snoc X30 N28 P24
  have O31 : Old Z n0 h30 := O16.wr W30 P24
  have K31 : Keep h0 h30 [a1, a7, a5] := K16.wr W30 (Or.inl (List.mem_of_getElem? (i := 0) rfl))
  have Fw30 : Fld Z h30 a1 s4n "holder" s5n .null := f25.same W30
  have f32 : Fld Z h30 a1 s4n s10n s0n (.ref wZERO) := (((P4.keep K2q nin0).keep K15q (ninS ne3 nin0)).other W30 (Or.inr (slot_ne (Or.inl (ow hw 31 rfl)) (Or.inl (ow hw 52 rfl)) (by decide) (t := (.object s1n)) (t' := (.object s3n)) (by decide) (by decide))))
  obtain ⟨T33, X33, e33, st33⟩ := getF X30 hx hZ hown (host := "") (Or.inl (ow hw 30 rfl)) Via.refl e30 f32 (g := (mkF m 74 #[(vr a1), (vl q2), .second, (vi 1), (vr e1_2), .val .null] [(.ref a1), (.ref a1)])) rfl rfl (hb hby d26_74)
  obtain ⟨cq34, kq34, q34a, q34b, q34c⟩ := isOf hZ e33 (E_wZERO.ext O31.2)
  obtain ⟨_, _, ⟨T34, L34, k34, n34⟩, -, X34, ⟨Lc34, hQ34, l34, y34, z34⟩, st34⟩ := X33.virtualBack hx (y := M31) (z := M31) hown (mvT hZ (ow hw 219 rfl)) (mvT hZ (ow hw 220 rfl)) (notFace_of_selects (args := #[]) (mvT hZ (ow hw 222 rfl))) (mvT hZ (ow hw 222 rfl)) (mvT hZ (ow hw 221 rfl)) (by decide) (backOf (W := 1) (au31_1 l Z a0 hw [] wMAX_LOCK_DELAY wGRANTED wQUEUED wBUSY wZERO hS  h30 n0 O31 ) hZ (ow hw 223 rfl) (ow hw 29 rfl) (by decide) (by decide)) q34a q34c (g := (mkF m 77 #[(vr a1), (vl q2), .second, (vi 1), (vr e1_2), .val .null] [(.ref wZERO), (.ref a1)])) rfl (by rw [hml]; rfl) (Steps.refl _) (argsL := []) (rest := [(.ref a1)]) (lenOf pd_14 rfl) rfl (by show 2 * 0 + _ ≤ _; exact Nat.le_of_eq rfl) (hb hby d26_77) (fun _ _ => ⟨rfl, e33, (by decide : 1 + 0 ≤ _), (by decide : 4 + 0 ≤ _)⟩)
  dsimp only [Pt.U, Pt.locs, Pt.cells, Pt.slots] at X34 l34 y34 z34 st34 hQ34
  subst l34 y34 z34
  obtain ⟨rfl, Nq34, K34q⟩ := hQ34
  have N34 := Fr.app N30 Nq34
  have f35 : Exa Z h30 a1 s4n := (f29.wr W30)
  have f36 : Fld Z h30 a1 s4n "heldBack" "Z" (.int 0) := (((P2.keep K2q nin0).keep K15q (ninS ne3 nin0)).other W30 (Or.inr (slot_ne (Or.inl (ow hw 69 rfl)) (Or.inl (ow hw 52 rfl)) (by decide) (t := .boolean) (t' := (.object s3n)) (by decide) (by decide))))
  obtain ⟨T37, h37, X37, e37, W37, st37⟩ := putFN X34 hx hZ hown (ow hw 68 rfl) Via.refl K34q f36 f35 (Or.inl (ow hw 69 rfl)) (ow hw 1 rfl) (ty := .boolean) (v' := (.int 0)) (by decide) rfl rfl (g := (mkF m 88 #[(vr a1), (vl q2), .second, (vi 1), (vr e1_2), .val .null] [(.int 0), (.ref a1)])) rfl rfl (hb hby d26_88)
  have N37 := Fr.snoc X37 N34 P24
  have O38 : Old Z n0 h37 := O31.wr W37 P24
  have K38 : Keep h0 h37 [a1, a7, a5] := K31.wr W37 (Or.inl (List.mem_of_getElem? (i := 0) rfl))
  have Fw37 : Fld Z h37 a1 s4n "heldBack" "Z" (.int 0) := f36.same W37
  obtain ⟨T39, X39, e39, st39⟩ := getF X37 hx hZ hown (host := "") (Or.inl (ow hw 68 rfl)) Via.refl e37 Fw37 (g := (mkF m 92 #[(vr a1), (vl q2), .second, (vi 1), (vr e1_2), .val .null] [(.ref a1)])) rfl rfl (hb hby d26_92)
  have f40 : Exa Z h37 a1 s4n := (f35.wr W37)
  have f41 : Fld Z h37 a1 s4n "generation" "J" (.long qg3) := ((((P1.keep K2q nin0).keep K15q (ninS ne3 nin0)).other W30 (Or.inr (slot_ne (Or.inl (ow hw 75 rfl)) (Or.inl (ow hw 52 rfl)) (by decide) (t := .long) (t' := (.object s3n)) (by decide) (by decide)))).other W37 (Or.inr (slot_ne (Or.inl (ow hw 75 rfl)) (Or.inl (ow hw 69 rfl)) (by decide) (t := .long) (t' := .boolean) (by decide) (by decide))))
  have f42 : Fld Z h37 a1 s4n "holder" s5n .null := (Fw30.other W37 (Or.inr (slot_ne (Or.inl (ow hw 52 rfl)) (Or.inl (ow hw 69 rfl)) (by decide) (t := (.object s3n)) (t' := .boolean) (by decide) (by decide))))
  have f43 : Fld Z h37 a1 s4n s10n s0n (.ref wZERO) := (f32.other W37 (Or.inr (slot_ne (Or.inl (ow hw 31 rfl)) (Or.inl (ow hw 69 rfl)) (by decide) (t := (.object s1n)) (t' := .boolean) (by decide) (by decide))))
  have f44 : Fld Z h37 a1 s4n "waiters" s11n (.ref a5) := ((((P5.keep K2q nin0).keep K15q (ninS ne3 nin0)).other W30 (Or.inr (slot_ne (Or.inr (ow hw 27 rfl)) (Or.inl (ow hw 52 rfl)) (by decide) (t := (.object s12n)) (t' := (.object s3n)) (by decide) (by decide)))).other W37 (Or.inr (slot_ne (Or.inr (ow hw 27 rfl)) (Or.inl (ow hw 69 rfl)) (by decide) (t := (.object s12n)) (t' := .boolean) (by decide) (by decide))))
  have f45 : Exa Z h37 a5 s7n := ((((P9.keep K2q).keep K15q).wr W30).wr W37)
  have f46 : Fld Z h37 a5 s7n "elements" s8n (.ref a7) := (((f13.keep K15q (ninS ne5 nin0)).other W30 (Or.inl (Ne.symm P31))).other W37 (Or.inl (Ne.symm P31)))
  have f47 : Fld Z h37 a5 s7n "head" "I" (.int 0) := ((((P11.keep K2q nin0).keep K15q (ninS ne5 nin0)).other W30 (Or.inl (Ne.symm P31))).other W37 (Or.inl (Ne.symm P31)))
  have f48 : Fld Z h37 a5 s7n "tail" "I" (.int 1) := ((((P12.keep K2q nin0).keep K15q (ninS ne5 nin0)).other W30 (Or.inl (Ne.symm P31))).other W37 (Or.inl (Ne.symm P31)))
  have f49 : Arv Z h37 a7 k8 (.object s9n) (17 : Int32) ([(.ref a9), .null, .null, .null, .null, .null, .null, .null, .null, .null, .null, .null, .null, .null, .null, .null, .null]) .null := (((f14.keep K15q (ninS ne6 nin0)).other W30 (Ne.symm P32)).other W37 (Ne.symm P32))
  have f50 : Exa Z h37 a7 s8n := ((((P15.keep K2q).keep K15q).wr W30).wr W37)
  have f51 : Exa Z h37 a9 s16n := ((f17.wr W30).wr W37)
  have f52 : Fld Z h37 a9 s16n "lockDelay" s0n (.ref wZERO) := ((((P17.keep K2q nin0).keep K15q (ninS ne7 nin0)).other W30 (Or.inl (Ne.symm P33))).other W37 (Or.inl (Ne.symm P33)))
  have f53 : Fld Z h37 a9 s16n "owner" s5n (.ref a10) := ((f19.other W30 (Or.inl (Ne.symm P33))).other W37 (Or.inl (Ne.symm P33)))
  obtain ⟨cq54, q54, q54'⟩ := f40.cell
  obtain ⟨_, _, ⟨T54, L54, k54, n54⟩, -, X54, ⟨Lc54, hQ54, l54, y54, z54⟩, st54⟩ := X39.privateBack hx (y := M12) hown (mvT hZ (ow hw 84 rfl)) (mvT hZ (ow hw 85 rfl)) (own_selp (mvT hZ (ow hw 1 rfl)) (mvP hZ (ow hw 86 rfl)) (mvT hZ (ow hw 85 rfl)) (by decide)) (Cond.privateMethod_at (mvP hZ (ow hw 86 rfl) (args := #[]))) (mvT hZ (ow hw 87 rfl)) (by decide) (backOf (W := 0) (au12_6 l Z a0 hw [] wMAX_LOCK_DELAY wGRANTED wQUEUED wBUSY wZERO hS a1 qg3 a5 a7 k8 a9 a10 h37 n0 O38 f40 f41 Fw37 f42 f43 f44 f45 f46 f47 f48 f49 P14 f50 f51 f52 f53 P24 P26 P27 P31 P32 P33 P39 P40 P42) hZ (ow hw 87 rfl) (ow hw 2 rfl) (by decide) (by decide)) (g := (mkF m 103 #[(vr a1), (vl q2), .second, (vi 1), (vr e1_2), .val .null] [(.ref a1)])) rfl (by rw [hml]; rfl) (Steps.refl _) (a := a1) (by rw [e39]; exact q54) q54' (argsL := []) (rest := []) (lenOf pd_9 rfl) rfl (by show 2 * 0 + _ ≤ _; exact Nat.le_of_eq rfl) (hb hby d26_103) (fun _ _ => ⟨rfl, e39, (by decide : 1 + 0 ≤ _), (by decide : 4 + 0 ≤ _)⟩)
  dsimp only [Pt.U, Pt.locs, Pt.cells, Pt.slots] at X54 l54 y54 z54 st54 hQ54
  subst l54 y54 z54
  obtain ⟨rfl, Nq54, K54q, p54_0, p54_1, p54_2, p54_3, p54_4, p54_5, p54_6, p54_7, p54_8, p54_9, p54_10, p54_11, p54_12⟩ := hQ54
  have N54 := Fr.app N37 Nq54
  have O55 : Old Z n0 T54.heap := O38.keep K54q (allS P27 (allS P26 (allS P24 all0)))
  have K55 : Keep h0 T54.heap [a1, a7, a5] := K38.trans K54q (allS (Or.inl (List.mem_of_getElem? (i := 1) rfl)) (allS (Or.inl (List.mem_of_getElem? (i := 2) rfl)) (allS (Or.inl (List.mem_of_getElem? (i := 0) rfl)) all0)))
  obtain ⟨fs, hr, hrun, hended, hW, hsame⟩ := X54.leave (v := some (.ref a10)) (fun h => by rw [hret0] at h; cases h)
  refine ⟨_, _, pre0 _ ?_, hrun, hended, _, _, rfl, ?_, ⟨_, rfl⟩, hW, hsame.mono (by decide) (by decide)⟩
  · skip
    show Steps p.tables e below (s₁.setTop (mkF m 0 #[(vr a1), (vl q2), .second, (vi 1), .unset, .unset] [])) _
    refine XS.aloadN X0.here hx rfl (hb hby d26_0) rfl rfl ?_
    refine st1 _ ?_
    refine st2.trans ?_
    refine XS.astore X2.here hx rfl (hb hby d26_9) rfl rfl (l' := #[(vr a1), (vl q2), .second, (vi 1), (vr e1_2), .unset]) rfl ?_
    refine XS.aload X2.here hx rfl (hb hby d26_11) rfl rfl ?_
    show Steps p.tables e below (T2.setTop (mkF m 13 #[(vr a1), (vl q2), .second, (vi 1), (vr e1_2), .unset] [(.ref e1_2)])) _
    refine st12.trans ?_
    refine XS.ifNo X12.here hx rfl (hb hby d26_18) rfl ((if0 _ _).trans (feq (by decide : ¬ ((1 : Int32) = (0 : Int32)))).1) ?_
    refine XS.aload X12.here hx rfl (hb hby d26_21) rfl rfl ?_
    refine st15.trans ?_
    refine st18 _ ?_
    show Steps p.tables e below (T18.setTop (mkF m 31 #[(vr a1), (vl q2), .second, (vi 1), (vr e1_2), .unset] [(.ref a9)])) _
    refine st20 _ ?_
    refine st22.trans ?_
    refine XS.lloadN X22.here hx rfl (hb hby d26_37) rfl ?_
    refine XS.lcmp X22.here hx rfl (hb hby d26_38) rfl ?_
    refine XS.ifYes X22.here hx rfl (pc0 := 39) (pc' := 11) rfl (hb hby d26_39) rfl ((if0 _ _).trans (feq (fun z => P22 ((lw_eq _ _).mp z).symm : ¬ ((lcmpW q12 q2) = (0 : Int32)))).2) (by decide) (by decide) ?_
    show Steps p.tables e below (T22.setTop (mkF m 11 #[(vr a1), (vl q2), .second, (vi 1), (vr e1_2), .unset] [])) _
    refine XS.aload X22.here hx rfl (hb hby d26_11) rfl rfl ?_
    refine st24.trans ?_
    refine XS.ifYes X24.here hx rfl (pc0 := 18) (pc' := 52) rfl (hb hby d26_18) rfl ((if0 _ _).trans (teq (by decide : (0 : Int32) = (0 : Int32))).1) (by decide) (by decide) ?_
    refine XS.aconstNull X24.here hx rfl (hb hby d26_52) ?_
    refine XS.astore X24.here hx rfl (hb hby d26_53) rfl rfl (l' := #[(vr a1), (vl q2), .second, (vi 1), (vr e1_2), .val .null]) rfl ?_
    show Steps p.tables e below (T24.setTop (mkF m 55 #[(vr a1), (vl q2), .second, (vi 1), (vr e1_2), .val .null] [])) _
    refine XS.aloadN X24.here hx rfl (hb hby d26_55) rfl rfl ?_
    refine XS.lloadN X24.here hx rfl (hb hby d26_56) rfl ?_
    refine st28.trans ?_
    refine XS.ifNo X28.here hx rfl (hb hby d26_60) rfl ((if0 _ _).trans (feq (by decide : ¬ ((1 : Int32) = (0 : Int32)))).1) ?_
    refine XS.aloadN X28.here hx rfl (hb hby d26_63) rfl rfl ?_
    show Steps p.tables e below (T28.setTop (mkF m 64 #[(vr a1), (vl q2), .second, (vi 1), (vr e1_2), .val .null] [(.ref a1)])) _
    refine XS.aconstNull X28.here hx rfl (hb hby d26_64) ?_
    refine st30 _ ?_
    refine XS.aloadN X30.here hx rfl (hb hby d26_68) rfl rfl ?_
    refine XS.iloadN X30.here hx rfl (hb hby d26_69) rfl ?_
    refine XS.ifNo X30.here hx rfl (hb hby d26_70) rfl ((if0 _ _).trans (feq (by decide : ¬ ((1 : Int32) = (0 : Int32)))).1) ?_
    show Steps p.tables e below (T30.setTop (mkF m 73 #[(vr a1), (vl q2), .second, (vi 1), (vr e1_2), .val .null] [(.ref a1)])) _
    refine XS.aloadN X30.here hx rfl (hb hby d26_73) rfl rfl ?_
    refine st33 _ ?_
    refine st34.trans ?_
    refine XS.ifYes X34.here hx rfl (pc0 := 80) (pc' := 87) rfl (hb hby d26_80) rfl ((if0 _ _).trans (feq (by decide : ¬ ((1 : Int32) = (0 : Int32)))).2) (by decide) (by decide) ?_
    refine XS.iconst X34.here hx rfl (hb hby d26_87) ?_
    show Steps p.tables e below (T34.setTop (mkF m 88 #[(vr a1), (vl q2), .second, (vi 1), (vr e1_2), .val .null] [(.int 0), (.ref a1)])) _
    refine st37 _ ?_
    refine XS.aloadN X37.here hx rfl (hb hby d26_91) rfl rfl ?_
    refine st39 _ ?_
    refine XS.ifYes X39.here hx rfl (pc0 := 95) (pc' := 102) rfl (hb hby d26_95) rfl ((if0 _ _).trans (teq (by decide : (0 : Int32) = (0 : Int32))).1) (by decide) (by decide) ?_
    refine XS.aloadN X39.here hx rfl (hb hby d26_102) rfl rfl ?_
    show Steps p.tables e below (T39.setTop (mkF m 103 #[(vr a1), (vl q2), .second, (vi 1), (vr e1_2), .val .null] [(.ref a1)])) _
    refine st54.trans ?_
    refine XS.astore X54.here hx rfl (hb hby d26_106) rfl rfl (l' := #[(vr a1), (vl q2), .second, (vi 1), (vr e1_2), (vr a10)]) rfl ?_
    refine XS.aload X54.here hx rfl (hb hby d26_108) rfl rfl ?_
    jvm_step X54.here [X54.here.top, hx, (hb hby d26_110), X54.method', hret0, Value.isRef, FieldType.isReference]
    first | (intro acts; rw [hr _ acts rfl rfl rfl]) | rw [hr _ _ rfl rfl rfl]
    exact Steps.refl _
  · show Q_au26_7 Z wMAX_LOCK_DELAY wGRANTED wQUEUED wBUSY wZERO a1 q2 qg3 a4 a5 a7 k8 a9 a10 q12 h0 n0 _ T54.heap _
    exact ⟨rfl, N54, K55, p54_7, p54_8, p54_9, p54_10, p54_11, p54_12, p54_0, p54_1, p54_2, p54_3, p54_4, p54_5, p54_6⟩
theorem tl_tl_rm0_d_m6 {p : Program} {l : Launch} {e : Env} {s : State} {m : MethodId} {below : List Frame} {meth : Method} {c : Code} {T0 : State} {locs : List Loc} {Z : State} {a0 : Array Value} {h0 : Heap} {n0 : Nat} {margs : Array Value} (hw : ∀ d ∈ tables_1, d.before a0 Z = true) (wMAX_LOCK_DELAY : Addr) (wGRANTED : Addr) (wQUEUED : Addr) (wBUSY : Addr) (wZERO : Addr) (hS : SS Z wMAX_LOCK_DELAY wGRANTED wQUEUED wBUSY wZERO) (p1 : Int32) (p2 : Int32) (q3 : Int64) (q4 : Int64) (q5 : Int64) (q6 : Int64) (p7 : Int32) (p8 : Int32) (p9 : Int32) (p10 : Int32) (a11 : Addr) (a12 : Addr) (a13 : Addr) (a14 : Addr) (a15 : Addr) (q16 : Int64) (a17 : Addr) (k18 : ClassId)
    (X0 : Stand p l e room_1 s m margs below meth c T0 locs 5 29) (hx : p.tables.exec = Jvm.exec) (hZ : Z.Warmed39 s.vm) (hby : c.code = code) (hml : c.maxLocals = 22) (hown : s.vm.findClass s6n = some m.cls) (hnm : meth.name = "law") (hret0 : meth.sig.returnType = some .boolean) (hlk0 : meth.locks = false) (e0 : T0.heap = h0) (N0 : Fr n0 locs) (O0 : Old Z n0 h0) (P0 : Exa Z h0 a11 s4n) (P1 : Fld Z h0 a11 s4n "generation" "J" (.long 0)) (P2 : Fld Z h0 a11 s4n "heldBack" "Z" (.int 0)) (P3 : Fld Z h0 a11 s4n "holder" s5n .null) (P4 : Fld Z h0 a11 s4n s10n s0n (.ref wZERO)) (P5 : Fld Z h0 a11 s4n "waiters" s11n (.ref a15)) (P6 : Exa Z h0 a13 s3n) (P8 : Fld Z h0 a13 s3n "session" "J" (.long q3)) (P9 : Exa Z h0 a14 s3n) (P11 : Fld Z h0 a14 s3n "session" "J" (.long q16)) (P12 : Exa Z h0 a15 s7n) (P13 : Fld Z h0 a15 s7n "elements" s8n (.ref a17)) (P14 : Fld Z h0 a15 s7n "head" "I" (.int 0)) (P15 : Fld Z h0 a15 s7n "tail" "I" (.int 0)) (P16 : Arv Z h0 a17 k18 (.object s9n) (17 : Int32) ([.null, .null, .null, .null, .null, .null, .null, .null, .null, .null, .null, .null, .null, .null, .null, .null, .null]) .null) (P17 : Ovr Z k18 s9n) (P18 : Exa Z h0 a17 s8n) (P21 : p8 = (0 : Int32) ∨ p8 = (1 : Int32)) (P22 : (a12 = wMAX_LOCK_DELAY ∧ p9 = (1 : Int32)) ∨ (a12 = wZERO ∧ p9 = (0 : Int32))) (P23 : q3 ≠ q16) (P24 : q16 ≠ q3) (P25 : n0 ≤ a11) (P28 : n0 ≤ a15) (P29 : n0 ≤ a17) (P31 : a11 ≠ a13) (P32 : a11 ≠ a14) (P33 : a11 ≠ a15) (P34 : a11 ≠ a17) (P40 : a13 ≠ a15) (P41 : a13 ≠ a17) (P42 : a14 ≠ a15) (P43 : a14 ≠ a17) (P44 : a15 ≠ a17) :
    ∃ s₂ o, Steps p.tables e below (T0.setTop (mkF m 348 #[(vi p1), (vi p2), (vl q3), .second, (vl q4), .second, (vl q5), .second, (vl q6), .second, (vi p7), (vi p8), (vi p9), (vi p10), (vr a11), (vr a12), (vr a13), (vr a14), .unset, .unset, .unset, .unset] [])) s₂ ∧ s₂.status = .running ∧ Ended s₂ below o ∧ ∃ v L, o = .returned v ∧ (v = some (.int 1) ∧ Fr n0 L) ∧ FrameEnd s o s₂ L room_1.cells room_1.slots := by
  have pre0 : ∀ t, Steps p.tables e below (T0.setTop (mkF m 348 #[(vi p1), (vi p2), (vl q3), .second, (vl q4), .second, (vl q5), .second, (vl q6), .second, (vi p7), (vi p8), (vi p9), (vi p10), (vr a11), (vr a12), (vr a13), (vr a14), .unset, .unset, .unset, .unset] [])) t → Steps p.tables e below (T0.setTop (mkF m 348 #[(vi p1), (vi p2), (vl q3), .second, (vl q4), .second, (vl q5), .second, (vl q6), .second, (vi p7), (vi p8), (vi p9), (vi p10), (vr a11), (vr a12), (vr a13), (vr a14), .unset, .unset, .unset, .unset] [])) t := fun t k => k
  have hS0 := hS
  obtain ⟨S_wMAX_LOCK_DELAY, E_wMAX_LOCK_DELAY, S_wGRANTED, E_wGRANTED, S_wQUEUED, E_wQUEUED, S_wBUSY, E_wBUSY, F_seconds_wMAX_LOCK_DELAY, F_nanos_wMAX_LOCK_DELAY, S_wZERO, E_wZERO, F_seconds_wZERO, F_nanos_wZERO⟩ := hS0
  rcases P22 with ⟨hd1, hl2⟩ | ⟨hd1, hl2⟩
  · skip
    have pre3 : ∀ t, Steps p.tables e below (T0.setTop (mkF m 348 #[(vi p1), (vi p2), (vl q3), .second, (vl q4), .second, (vl q5), .second, (vl q6), .second, (vi p7), (vi p8), (vi p9), (vi p10), (vr a11), (vr wMAX_LOCK_DELAY), (vr a13), (vr a14), .unset, .unset, .unset, .unset] [])) t → Steps p.tables e below (T0.setTop (mkF m 348 #[(vi p1), (vi p2), (vl q3), .second, (vl q4), .second, (vl q5), .second, (vl q6), .second, (vi p7), (vi p8), (vi p9), (vi p10), (vr a11), (vr a12), (vr a13), (vr a14), .unset, .unset, .unset, .unset] [])) t := by
      intro t k
      refine pre0 t ?_
      rw [hd1]
      exact k
    have pre4 : ∀ t, Steps p.tables e below (T0.setTop (mkF m 348 #[(vi p1), (vi p2), (vl q3), .second, (vl q4), .second, (vl q5), .second, (vl q6), .second, (vi p7), (vi p8), (vi 1), (vi p10), (vr a11), (vr wMAX_LOCK_DELAY), (vr a13), (vr a14), .unset, .unset, .unset, .unset] [])) t → Steps p.tables e below (T0.setTop (mkF m 348 #[(vi p1), (vi p2), (vl q3), .second, (vl q4), .second, (vl q5), .second, (vl q6), .second, (vi p7), (vi p8), (vi p9), (vi p10), (vr a11), (vr a12), (vr a13), (vr a14), .unset, .unset, .unset, .unset] [])) t := by
      intro t k
      refine pre3 t ?_
      rw [hl2]
      exact k
    rcases (id (P21)) with hk5 | hk5
    · skip
      have pre6 : ∀ t, Steps p.tables e below (T0.setTop (mkF m 348 #[(vi p1), (vi p2), (vl q3), .second, (vl q4), .second, (vl q5), .second, (vl q6), .second, (vi p7), (vi 0), (vi 1), (vi p10), (vr a11), (vr wMAX_LOCK_DELAY), (vr a13), (vr a14), .unset, .unset, .unset, .unset] [])) t → Steps p.tables e below (T0.setTop (mkF m 348 #[(vi p1), (vi p2), (vl q3), .second, (vl q4), .second, (vl q5), .second, (vl q6), .second, (vi p7), (vi p8), (vi p9), (vi p10), (vr a11), (vr a12), (vr a13), (vr a14), .unset, .unset, .unset, .unset] [])) t := by
        intro t k
        refine pre4 t ?_
        rw [hk5]
        exact k
      obtain ⟨cq7, kq7, q7a, q7b, q7c⟩ := isOf hZ e0 P0
      obtain ⟨_, _, ⟨T7, L7, k7, n7⟩, -, X7, ⟨Lc7, hQ7, l7, y7, z7⟩, st7⟩ := X0.virtualBack hx (y := M8) (z := M8) hown (mvT hZ (ow hw 58 rfl)) (mvT hZ (ow hw 59 rfl)) (notFace_of_selects (args := #[]) (mvT hZ (ow hw 61 rfl))) (mvT hZ (ow hw 61 rfl)) (mvT hZ (ow hw 60 rfl)) (by decide) (backOf (W := 0) (au8_0 l Z a0 hw [] wMAX_LOCK_DELAY wGRANTED wQUEUED wBUSY wZERO hS a11 a13 wMAX_LOCK_DELAY p10 (0 : Int64) a15 h0 n0 O0 P0 P1 P2 P3 P4 P5 P6 P25) hZ (ow hw 62 rfl) (ow hw 2 rfl) (by decide) (by decide)) q7a q7c (g := (mkF m 356 #[(vi p1), (vi p2), (vl q3), .second, (vl q4), .second, (vl q5), .second, (vl q6), .second, (vi p7), (vi 0), (vi 1), (vi p10), (vr a11), (vr wMAX_LOCK_DELAY), (vr a13), (vr a14), .unset, .unset, .unset, .unset] [(.int p10), (.ref wMAX_LOCK_DELAY), (.ref a13), (.ref a11)])) rfl (by rw [hml]; rfl) (Steps.refl _) (argsL := [(.ref a13), (.ref wMAX_LOCK_DELAY), (.int p10)]) (rest := []) (lenOf pd_6 rfl) rfl (by show 2 * 0 + _ ≤ _; exact Nat.le_of_eq rfl) (hb hby at_356) (fun _ _ => ⟨rfl, e0, (by decide : 5 + 0 ≤ _), (by decide : 29 + 0 ≤ _)⟩)
      dsimp only [Pt.U, Pt.locs, Pt.cells, Pt.slots] at X7 l7 y7 z7 st7 hQ7
      subst l7 y7 z7
      obtain ⟨rfl, Nq7, K7q, p7_0, p7_1, p7_2, p7_3, p7_4, p7_5⟩ := hQ7
      have N7 := Fr.app N0 Nq7
      have O8 : Old Z n0 T7.heap := O0.keep K7q (allS P25 all0)
      have p7_1f : Fld Z T7.heap a11 s4n "generation" "J" (.long 1) := by have q := p7_1; rw [(by decide : ((0 : Int64) + (1 : Int64)) = (1 : Int64))] at q; exact q
      have f9 : Exa Z T7.heap a14 s3n := (P9.keep K7q)
      have f10 : Fld Z T7.heap a14 s3n "session" "J" (.long q16) := (P11.keep K7q (ninS (Ne.symm P32) nin0))
      have f11 : Exa Z T7.heap a13 s3n := (P6.keep K7q)
      have f12 : Fld Z T7.heap a13 s3n "session" "J" (.long q3) := (P8.keep K7q (ninS (Ne.symm P31) nin0))
      have f13 : Exa Z T7.heap a15 s7n := (P12.keep K7q)
      have f14 : Fld Z T7.heap a15 s7n "elements" s8n (.ref a17) := (P13.keep K7q (ninS (Ne.symm P33) nin0))
      have f15 : Fld Z T7.heap a15 s7n "head" "I" (.int 0) := (P14.keep K7q (ninS (Ne.symm P33) nin0))
      have f16 : Fld Z T7.heap a15 s7n "tail" "I" (.int 0) := (P15.keep K7q (ninS (Ne.symm P33) nin0))
      have f17 : Arv Z T7.heap a17 k18 (.object s9n) (17 : Int32) ([.null, .null, .null, .null, .null, .null, .null, .null, .null, .null, .null, .null, .null, .null, .null, .null, .null]) .null := (P16.keep K7q (ninS (Ne.symm P34) nin0))
      have f18 : Exa Z T7.heap a17 s8n := (P18.keep K7q)
      obtain ⟨cq19, kq19, q19a, q19b, q19c⟩ := isOf hZ rfl p7_0
      obtain ⟨_, _, ⟨T19, L19, k19, n19⟩, -, X19, ⟨Lc19, hQ19, l19, y19, z19⟩, st19⟩ := X7.virtualBack hx (y := M8) (z := M8) hown (mvT hZ (ow hw 58 rfl)) (mvT hZ (ow hw 59 rfl)) (notFace_of_selects (args := #[]) (mvT hZ (ow hw 61 rfl))) (mvT hZ (ow hw 61 rfl)) (mvT hZ (ow hw 60 rfl)) (by decide) (backOf (W := 0) (au8_2 l Z a0 hw [] wMAX_LOCK_DELAY wGRANTED wQUEUED wBUSY wZERO hS a11 a14 wMAX_LOCK_DELAY a13 a15 q16 q3 a17 k18 T7.heap n0 O8 p7_0 p7_3 p7_5 f9 f10 f11 f12 f13 f14 f15 f16 f17 P17 f18 P24 P28 P29 P44) hZ (ow hw 62 rfl) (ow hw 2 rfl) (by decide) (by decide)) q19a q19c (g := (mkF m 367 #[(vi p1), (vi p2), (vl q3), .second, (vl q4), .second, (vl q5), .second, (vl q6), .second, (vi p7), (vi 0), (vi 1), (vi p10), (vr a11), (vr wMAX_LOCK_DELAY), (vr a13), (vr a14), .unset, .unset, .unset, .unset] [(.int 1), (.ref wMAX_LOCK_DELAY), (.ref a14), (.ref a11)])) rfl (by rw [hml]; rfl) (Steps.refl _) (argsL := [(.ref a14), (.ref wMAX_LOCK_DELAY), (.int 1)]) (rest := []) (lenOf pd_6 rfl) rfl (by show 2 * 0 + _ ≤ _; exact Nat.le_of_eq rfl) (hb hby at_367) (fun _ _ => ⟨rfl, rfl, (by decide : 5 + 2 ≤ _), (by decide : 29 + 6 ≤ _)⟩)
      dsimp only [Pt.U, Pt.locs, Pt.cells, Pt.slots] at X19 l19 y19 z19 st19 hQ19
      subst l19 y19 z19
      obtain ⟨e1_19, rfl, Nq19, K19q, p19_0, p19_1, p19_2, p19_3, p19_4, p19_5, p19_6, p19_7, p19_8, p19_9, p19_10⟩ := hQ19
      have N19 := Fr.app N7 Nq19
      have ne20 : a11 ≠ e1_19 := Nat.ne_of_lt (Nat.lt_of_lt_of_le p7_0.lt p19_7)
      have ne21 : a13 ≠ e1_19 := Nat.ne_of_lt (Nat.lt_of_lt_of_le f11.lt p19_7)
      have ne22 : a14 ≠ e1_19 := Nat.ne_of_lt (Nat.lt_of_lt_of_le f9.lt p19_7)
      have ne23 : a15 ≠ e1_19 := Nat.ne_of_lt (Nat.lt_of_lt_of_le f13.lt p19_7)
      have ne24 : a17 ≠ e1_19 := Nat.ne_of_lt (Nat.lt_of_lt_of_le f17.lt p19_7)
      have g25 : n0 ≤ e1_19 := Nat.le_trans (own_sz O8) p19_7
      have O26 : Old Z n0 T19.heap := O8.keep K19q (allS P29 (allS P28 all0))
      have f27 : Exa Z T19.heap a11 s4n := (p7_0.keep K19q)
      have f28 : Fld Z T19.heap a11 s4n "generation" "J" (.long 1) := (p7_1f.keep K19q (ninS P34 (ninS P33 nin0)))
      have f29 : Fld Z T19.heap a11 s4n "heldBack" "Z" (.int 0) := (p7_2.keep K19q (ninS P34 (ninS P33 nin0)))
      have f30 : Fld Z T19.heap a11 s4n "holder" s5n (.ref a13) := (p7_3.keep K19q (ninS P34 (ninS P33 nin0)))
      have f31 : Fld Z T19.heap a11 s4n s10n s0n (.ref wMAX_LOCK_DELAY) := (p7_4.keep K19q (ninS P34 (ninS P33 nin0)))
      have f32 : Fld Z T19.heap a11 s4n "waiters" s11n (.ref a15) := (p7_5.keep K19q (ninS P34 (ninS P33 nin0)))
      have f33 : Exa Z T19.heap a13 s3n := (f11.keep K19q)
      have f34 : Fld Z T19.heap a13 s3n "session" "J" (.long q3) := (f12.keep K19q (ninS P41 (ninS P40 nin0)))
      have f35 : Exa Z T19.heap a14 s3n := (f9.keep K19q)
      have f36 : Fld Z T19.heap a14 s3n "session" "J" (.long q16) := (f10.keep K19q (ninS P43 (ninS P42 nin0)))
      obtain ⟨cq37, kq37, q37a, q37b, q37c⟩ := isOf hZ rfl f27
      obtain ⟨_, _, ⟨T37, L37, k37, n37⟩, -, X37, ⟨Lc37, hQ37, l37, y37, z37⟩, st37⟩ := X19.virtualBack hx (y := M30) (z := M30) hown (mvT hZ (ow hw 191 rfl)) (mvT hZ (ow hw 192 rfl)) (notFace_of_selects (args := #[]) (mvT hZ (ow hw 194 rfl))) (mvT hZ (ow hw 194 rfl)) (mvT hZ (ow hw 193 rfl)) (by decide) (backOf (W := 0) (au26_5 l Z a0 hw [] wMAX_LOCK_DELAY wGRANTED wQUEUED wBUSY wZERO hS a11 q3 (1 : Int64) a13 a15 a17 k18 e1_19 a14 q16 T19.heap n0 O26 f27 f28 f29 f30 f31 f32 f33 f34 p19_3 p19_4 p19_5 p19_6 p19_1 p19_2 p19_0 p19_8 p19_9 p19_10 f35 f36 P23 P25 P28 P29 P33 P34 ne20 P44 ne23 ne24) hZ (ow hw 195 rfl) (ow hw 2 rfl) (by decide) (by decide)) q37a q37c (g := (mkF m 376 #[(vi p1), (vi p2), (vl q3), .second, (vl q4), .second, (vl q5), .second, (vl q6), .second, (vi p7), (vi 0), (vi 1), (vi p10), (vr a11), (vr wMAX_LOCK_DELAY), (vr a13), (vr a14), .unset, .unset, .unset, .unset] [(.int 0), (.long q3), (.ref a11)])) rfl (by rw [hml]; rfl) (Steps.refl _) (argsL := [(.long q3), (.int 0)]) (rest := []) (lenOf pd_19 rfl) rfl (by show 2 * 0 + _ ≤ _; exact Nat.le_of_eq rfl) (hb hby at_376) (fun _ _ => ⟨rfl, rfl, (by decide : 7 + 1 ≤ _), (by decide : 35 + 4 ≤ _)⟩)
      dsimp only [Pt.U, Pt.locs, Pt.cells, Pt.slots] at X37 l37 y37 z37 st37 hQ37
      subst l37 y37 z37
      obtain ⟨rfl, Nq37, K37q, p37_0, p37_1, p37_2, p37_3, p37_4, p37_5, p37_6, p37_7, p37_8, p37_9, p37_10, p37_11, p37_12⟩ := hQ37
      have N37 := Fr.app N19 Nq37
      have O38 : Old Z n0 T37.heap := O26.keep K37q (allS P25 (allS P29 (allS P28 all0)))
      have p37_1f : Fld Z T37.heap a11 s4n "generation" "J" (.long 2) := by have q := p37_1; rw [(by decide : ((1 : Int64) + (1 : Int64)) = (2 : Int64))] at q; exact q
      have pre39 : ∀ t, Steps p.tables e below (T37.setTop (mkF m 445 #[(vi p1), (vi p2), (vl q3), .second, (vl q4), .second, (vl q5), .second, (vl q6), .second, (vi p7), (vi 0), (vi 1), (vi p10), (vr a11), (vr wMAX_LOCK_DELAY), (vr a13), (vr a14), (vi 1), (vl 2), .second, .unset] [(.int (lcmpW q6 (2 : Int64)))])) t → Steps p.tables e below (T0.setTop (mkF m 348 #[(vi p1), (vi p2), (vl q3), .second, (vl q4), .second, (vl q5), .second, (vl q6), .second, (vi p7), (vi p8), (vi p9), (vi p10), (vr a11), (vr a12), (vr a13), (vr a14), .unset, .unset, .unset, .unset] [])) t := by
        intro t k
        refine pre6 t ?_
        show Steps p.tables e below (T0.setTop (mkF m 348 #[(vi p1), (vi p2), (vl q3), .second, (vl q4), .second, (vl q5), .second, (vl q6), .second, (vi p7), (vi 0), (vi 1), (vi p10), (vr a11), (vr wMAX_LOCK_DELAY), (vr a13), (vr a14), .unset, .unset, .unset, .unset] [])) _
        refine XS.aload X0.here hx rfl (hb hby at_348) rfl rfl ?_
        refine XS.aload X0.here hx rfl (hb hby at_350) rfl rfl ?_
        refine XS.aload X0.here hx rfl (hb hby at_352) rfl rfl ?_
        refine XS.iload X0.here hx rfl (hb hby at_354) rfl ?_
        refine st7.trans ?_
        show Steps p.tables e below (T7.setTop (mkF m 359 #[(vi p1), (vi p2), (vl q3), .second, (vl q4), .second, (vl q5), .second, (vl q6), .second, (vi p7), (vi 0), (vi 1), (vi p10), (vr a11), (vr wMAX_LOCK_DELAY), (vr a13), (vr a14), .unset, .unset, .unset, .unset] [(.ref wGRANTED)])) _
        refine XS.pop X7.here hx rfl (hb hby at_359) rfl rfl ?_
        refine XS.aload X7.here hx rfl (hb hby at_360) rfl rfl ?_
        refine XS.aload X7.here hx rfl (hb hby at_362) rfl rfl ?_
        refine XS.aload X7.here hx rfl (hb hby at_364) rfl rfl ?_
        refine XS.iconst X7.here hx rfl (hb hby at_366) ?_
        show Steps p.tables e below (T7.setTop (mkF m 367 #[(vi p1), (vi p2), (vl q3), .second, (vl q4), .second, (vl q5), .second, (vl q6), .second, (vi p7), (vi 0), (vi 1), (vi p10), (vr a11), (vr wMAX_LOCK_DELAY), (vr a13), (vr a14), .unset, .unset, .unset, .unset] [(.int 1), (.ref wMAX_LOCK_DELAY), (.ref a14), (.ref a11)])) _
        refine st19.trans ?_
        refine XS.pop X19.here hx rfl (hb hby at_370) rfl rfl ?_
        refine XS.aload X19.here hx rfl (hb hby at_371) rfl rfl ?_
        refine XS.lloadN X19.here hx rfl (hb hby at_373) rfl ?_
        refine XS.iload X19.here hx rfl (hb hby at_374) rfl ?_
        show Steps p.tables e below (T19.setTop (mkF m 376 #[(vi p1), (vi p2), (vl q3), .second, (vl q4), .second, (vl q5), .second, (vl q6), .second, (vi p7), (vi 0), (vi 1), (vi p10), (vr a11), (vr wMAX_LOCK_DELAY), (vr a13), (vr a14), .unset, .unset, .unset, .unset] [(.int 0), (.long q3), (.ref a11)])) _
        refine st37.trans ?_
        refine XS.pop X37.here hx rfl (hb hby at_379) rfl rfl ?_
        refine XS.iload X37.here hx rfl (hb hby at_380) rfl ?_
        refine XS.ifYes X37.here hx rfl (pc0 := 382) (pc' := 390) rfl (hb hby at_382) rfl ((if0 _ _).trans (teq (by decide : (0 : Int32) = (0 : Int32))).1) (by decide) (by decide) ?_
        refine XS.iconst X37.here hx rfl (hb hby at_390) ?_
        show Steps p.tables e below (T37.setTop (mkF m 391 #[(vi p1), (vi p2), (vl q3), .second, (vl q4), .second, (vl q5), .second, (vl q6), .second, (vi p7), (vi 0), (vi 1), (vi p10), (vr a11), (vr wMAX_LOCK_DELAY), (vr a13), (vr a14), .unset, .unset, .unset, .unset] [(.int 1)])) _
        refine XS.goto X37.here hx rfl (pc0 := 391) (pc' := 395) rfl (hb hby at_391) (by decide) (by decide) ?_
        refine XS.istore X37.here hx rfl (hb hby at_395) rfl (l' := #[(vi p1), (vi p2), (vl q3), .second, (vl q4), .second, (vl q5), .second, (vl q6), .second, (vi p7), (vi 0), (vi 1), (vi p10), (vr a11), (vr wMAX_LOCK_DELAY), (vr a13), (vr a14), (vi 1), .unset, .unset, .unset]) rfl ?_
        refine X37.ldc2Long hx hown (mvT hZ (ow hw 190 rfl)) (g := (mkF m 397 #[(vi p1), (vi p2), (vl q3), .second, (vl q4), .second, (vl q5), .second, (vl q6), .second, (vi p7), (vi 0), (vi 1), (vi p10), (vr a11), (vr wMAX_LOCK_DELAY), (vr a13), (vr a14), (vi 1), .unset, .unset, .unset] [])) rfl (hb hby at_397) _ ?_
        refine XS.lstore X37.here hx rfl (hb hby at_400) rfl (l' := #[(vi p1), (vi p2), (vl q3), .second, (vl q4), .second, (vl q5), .second, (vl q6), .second, (vi p7), (vi 0), (vi 1), (vi p10), (vr a11), (vr wMAX_LOCK_DELAY), (vr a13), (vr a14), (vi 1), (vl 2), .second, .unset]) rfl ?_
        refine XS.goto X37.here hx rfl (pc0 := 402) (pc' := 435) rfl (hb hby at_402) (by decide) (by decide) ?_
        show Steps p.tables e below (T37.setTop (mkF m 435 #[(vi p1), (vi p2), (vl q3), .second, (vl q4), .second, (vl q5), .second, (vl q6), .second, (vi p7), (vi 0), (vi 1), (vi p10), (vr a11), (vr wMAX_LOCK_DELAY), (vr a13), (vr a14), (vi 1), (vl 2), .second, .unset] [])) _
        refine XS.iload X37.here hx rfl (hb hby at_435) rfl ?_
        refine XS.ifNo X37.here hx rfl (hb hby at_437) rfl ((if0 _ _).trans (feq (by decide : ¬ ((1 : Int32) = (0 : Int32)))).1) ?_
        refine XS.lload X37.here hx rfl (hb hby at_440) rfl ?_
        refine XS.lload X37.here hx rfl (hb hby at_442) rfl ?_
        refine XS.lcmp X37.here hx rfl (hb hby at_444) rfl ?_
        exact k
      obtain ⟨exp, hexp⟩ : ∃ z : Int32, z = (if (lcmpW q6 (2 : Int64)) = (0 : Int32) then (1 : Int32) else (0 : Int32)) := ⟨_, rfl⟩
      have pre41 : ∀ t, Steps p.tables e below (T37.setTop (mkF m 453 #[(vi p1), (vi p2), (vl q3), .second, (vl q4), .second, (vl q5), .second, (vl q6), .second, (vi p7), (vi 0), (vi 1), (vi p10), (vr a11), (vr wMAX_LOCK_DELAY), (vr a13), (vr a14), (vi 1), (vl 2), .second, .unset] [(.int exp)])) t → Steps p.tables e below (T0.setTop (mkF m 348 #[(vi p1), (vi p2), (vl q3), .second, (vl q4), .second, (vl q5), .second, (vl q6), .second, (vi p7), (vi p8), (vi p9), (vi p10), (vr a11), (vr a12), (vr a13), (vr a14), .unset, .unset, .unset, .unset] [])) t := by
        intro t k
        rw [hexp] at k
        refine pre39 t ?_
        show Steps p.tables e below (T37.setTop (mkF m 445 #[(vi p1), (vi p2), (vl q3), .second, (vl q4), .second, (vl q5), .second, (vl q6), .second, (vi p7), (vi 0), (vi 1), (vi p10), (vr a11), (vr wMAX_LOCK_DELAY), (vr a13), (vr a14), (vi 1), (vl 2), .second, .unset] [(.int (lcmpW q6 (2 : Int64)))])) _
        rcases Decidable.em ((lcmpW q6 (2 : Int64)) = (0 : Int32)) with hm40 | hm40
        · first | simp only [if_pos hm40] at k | skip
          refine XS.ifNo X37.here hx rfl (hb hby at_445) rfl ((if0 _ _).trans (teq hm40).2) ?_
          refine XS.iconst X37.here hx rfl (hb hby at_448) ?_
          refine XS.goto X37.here hx rfl (pc0 := 449) (pc' := 453) rfl (hb hby at_449) (by decide) (by decide) ?_
          exact k
        · first | simp only [if_neg hm40] at k | skip
          refine XS.ifYes X37.here hx rfl (pc0 := 445) (pc' := 452) rfl (hb hby at_445) rfl ((if0 _ _).trans (feq hm40).2) (by decide) (by decide) ?_
          refine XS.iconst X37.here hx rfl (hb hby at_452) ?_
          exact k
      obtain ⟨cq42, kq42, q42a, q42b, q42c⟩ := isOf hZ rfl p37_0
      obtain ⟨_, _, ⟨T42, L42, k42, n42⟩, -, X42, ⟨Lc42, hQ42, l42, y42, z42⟩, st42⟩ := X37.virtualBack hx (y := M1) (z := M1) hown (mvT hZ (ow hw 46 rfl)) (mvT hZ (ow hw 47 rfl)) (notFace_of_selects (args := #[]) (mvT hZ (ow hw 49 rfl))) (mvT hZ (ow hw 49 rfl)) (mvT hZ (ow hw 48 rfl)) (by decide) (backOf (W := 0) (rmHeld l Z a0 hw [] wMAX_LOCK_DELAY wGRANTED wQUEUED wBUSY wZERO hS a11 a14 (2 : Int64) q6 T37.heap n0 O38 p37_3 p37_1f) hZ (ow hw 50 rfl) (ow hw 2 rfl) (by decide) (by decide)) q42a q42c (g := (mkF m 459 #[(vi p1), (vi p2), (vl q3), .second, (vl q4), .second, (vl q5), .second, (vl q6), .second, (vi p7), (vi 0), (vi 1), (vi p10), (vr a11), (vr wMAX_LOCK_DELAY), (vr a13), (vr a14), (vi 1), (vl 2), .second, (vi exp)] [(.long q6), (.ref a11)])) rfl (by rw [hml]; rfl) (Steps.refl _) (argsL := [(.long q6)]) (rest := []) (lenOf pd_3 rfl) rfl (by show 2 * 0 + _ ≤ _; exact Nat.le_of_eq rfl) (hb hby at_459) (fun _ _ => ⟨rfl, rfl, (by decide : 8 + 0 ≤ _), (by decide : 39 + 0 ≤ _)⟩)
      dsimp only [Pt.U, Pt.locs, Pt.cells, Pt.slots] at X42 l42 y42 z42 st42 hQ42
      subst l42 y42 z42
      obtain ⟨r_42, rfl, Nq42, K42q, p42_0⟩ := hQ42
      have N42 := Fr.app N37 Nq42
      obtain ⟨fs, hr, hrun, hended, hW, hsame⟩ := X42.leave (v := some (.int 1)) (fun h => by rw [hret0] at h; cases h)
      refine ⟨_, _, pre41 _ ?_, hrun, hended, _, _, rfl, ?_, ⟨_, rfl⟩, hW, hsame.mono (by decide) (by decide)⟩
      · skip
        show Steps p.tables e below (T37.setTop (mkF m 453 #[(vi p1), (vi p2), (vl q3), .second, (vl q4), .second, (vl q5), .second, (vl q6), .second, (vi p7), (vi 0), (vi 1), (vi p10), (vr a11), (vr wMAX_LOCK_DELAY), (vr a13), (vr a14), (vi 1), (vl 2), .second, .unset] [(.int exp)])) _
        refine XS.istore X37.here hx rfl (hb hby at_453) rfl (l' := #[(vi p1), (vi p2), (vl q3), .second, (vl q4), .second, (vl q5), .second, (vl q6), .second, (vi p7), (vi 0), (vi 1), (vi p10), (vr a11), (vr wMAX_LOCK_DELAY), (vr a13), (vr a14), (vi 1), (vl 2), .second, (vi exp)]) rfl ?_
        refine XS.aload X37.here hx rfl (hb hby at_455) rfl rfl ?_
        refine XS.lload X37.here hx rfl (hb hby at_457) rfl ?_
        refine st42.trans ?_
        refine XS.iload X42.here hx rfl (hb hby at_462) rfl ?_
        show Steps p.tables e below (T42.setTop (mkF m 464 #[(vi p1), (vi p2), (vl q3), .second, (vl q4), .second, (vl q5), .second, (vl q6), .second, (vi p7), (vi 0), (vi 1), (vi p10), (vr a11), (vr wMAX_LOCK_DELAY), (vr a13), (vr a14), (vi 1), (vl 2), .second, (vi exp)] [(.int exp), (.int r_42)])) _
        refine XS.icmpNo X42.here hx rfl (hb hby at_464) rfl (teq (p42_0.trans ((own_sym _ _).trans hexp.symm) : r_42 = exp)).2 ?_
        refine XS.iconst X42.here hx rfl (hb hby at_467) ?_
        refine XS.goto X42.here hx rfl (pc0 := 468) (pc' := 472) rfl (hb hby at_468) (by decide) (by decide) ?_
        exact retN X42 hx (t := .boolean) hret0 (by simp) (hb hby at_472) hr
      · skip
        exact ⟨rfl, N42⟩
    · skip
      have pre43 : ∀ t, Steps p.tables e below (T0.setTop (mkF m 348 #[(vi p1), (vi p2), (vl q3), .second, (vl q4), .second, (vl q5), .second, (vl q6), .second, (vi p7), (vi 1), (vi 1), (vi p10), (vr a11), (vr wMAX_LOCK_DELAY), (vr a13), (vr a14), .unset, .unset, .unset, .unset] [])) t → Steps p.tables e below (T0.setTop (mkF m 348 #[(vi p1), (vi p2), (vl q3), .second, (vl q4), .second, (vl q5), .second, (vl q6), .second, (vi p7), (vi p8), (vi p9), (vi p10), (vr a11), (vr a12), (vr a13), (vr a14), .unset, .unset, .unset, .unset] [])) t := by
        intro t k
        refine pre4 t ?_
        rw [hk5]
        exact k
      obtain ⟨cq44, kq44, q44a, q44b, q44c⟩ := isOf hZ e0 P0
      obtain ⟨_, _, ⟨T44, L44, k44, n44⟩, -, X44, ⟨Lc44, hQ44, l44, y44, z44⟩, st44⟩ := X0.virtualBack hx (y := M8) (z := M8) hown (mvT hZ (ow hw 58 rfl)) (mvT hZ (ow hw 59 rfl)) (notFace_of_selects (args := #[]) (mvT hZ (ow hw 61 rfl))) (mvT hZ (ow hw 61 rfl)) (mvT hZ (ow hw 60 rfl)) (by decide) (backOf (W := 0) (au8_0 l Z a0 hw [] wMAX_LOCK_DELAY wGRANTED wQUEUED wBUSY wZERO hS a11 a13 wMAX_LOCK_DELAY p10 (0 : Int64) a15 h0 n0 O0 P0 P1 P2 P3 P4 P5 P6 P25) hZ (ow hw 62 rfl) (ow hw 2 rfl) (by decide) (by decide)) q44a q44c (g := (mkF m 356 #[(vi p1), (vi p2), (vl q3), .second, (vl q4), .second, (vl q5), .second, (vl q6), .second, (vi p7), (vi 1), (vi 1), (vi p10), (vr a11), (vr wMAX_LOCK_DELAY), (vr a13), (vr a14), .unset, .unset, .unset, .unset] [(.int p10), (.ref wMAX_LOCK_DELAY), (.ref a13), (.ref a11)])) rfl (by rw [hml]; rfl) (Steps.refl _) (argsL := [(.ref a13), (.ref wMAX_LOCK_DELAY), (.int p10)]) (rest := []) (lenOf pd_6 rfl) rfl (by show 2 * 0 + _ ≤ _; exact Nat.le_of_eq rfl) (hb hby at_356) (fun _ _ => ⟨rfl, e0, (by decide : 5 + 0 ≤ _), (by decide : 29 + 0 ≤ _)⟩)
      dsimp only [Pt.U, Pt.locs, Pt.cells, Pt.slots] at X44 l44 y44 z44 st44 hQ44
      subst l44 y44 z44
      obtain ⟨rfl, Nq44, K44q, p44_0, p44_1, p44_2, p44_3, p44_4, p44_5⟩ := hQ44
      have N44 := Fr.app N0 Nq44
      have O45 : Old Z n0 T44.heap := O0.keep K44q (allS P25 all0)
      have p44_1f : Fld Z T44.heap a11 s4n "generation" "J" (.long 1) := by have q := p44_1; rw [(by decide : ((0 : Int64) + (1 : Int64)) = (1 : Int64))] at q; exact q
      have f46 : Exa Z T44.heap a14 s3n := (P9.keep K44q)
      have f47 : Fld Z T44.heap a14 s3n "session" "J" (.long q16) := (P11.keep K44q (ninS (Ne.symm P32) nin0))
      have f48 : Exa Z T44.heap a13 s3n := (P6.keep K44q)
      have f49 : Fld Z T44.heap a13 s3n "session" "J" (.long q3) := (P8.keep K44q (ninS (Ne.symm P31) nin0))
      have f50 : Exa Z T44.heap a15 s7n := (P12.keep K44q)
      have f51 : Fld Z T44.heap a15 s7n "elements" s8n (.ref a17) := (P13.keep K44q (ninS (Ne.symm P33) nin0))
      have f52 : Fld Z T44.heap a15 s7n "head" "I" (.int 0) := (P14.keep K44q (ninS (Ne.symm P33) nin0))
      have f53 : Fld Z T44.heap a15 s7n "tail" "I" (.int 0) := (P15.keep K44q (ninS (Ne.symm P33) nin0))
      have f54 : Arv Z T44.heap a17 k18 (.object s9n) (17 : Int32) ([.null, .null, .null, .null, .null, .null, .null, .null, .null, .null, .null, .null, .null, .null, .null, .null, .null]) .null := (P16.keep K44q (ninS (Ne.symm P34) nin0))
      have f55 : Exa Z T44.heap a17 s8n := (P18.keep K44q)
      obtain ⟨cq56, kq56, q56a, q56b, q56c⟩ := isOf hZ rfl p44_0
      obtain ⟨_, _, ⟨T56, L56, k56, n56⟩, -, X56, ⟨Lc56, hQ56, l56, y56, z56⟩, st56⟩ := X44.virtualBack hx (y := M8) (z := M8) hown (mvT hZ (ow hw 58 rfl)) (mvT hZ (ow hw 59 rfl)) (notFace_of_selects (args := #[]) (mvT hZ (ow hw 61 rfl))) (mvT hZ (ow hw 61 rfl)) (mvT hZ (ow hw 60 rfl)) (by decide) (backOf (W := 0) (au8_2 l Z a0 hw [] wMAX_LOCK_DELAY wGRANTED wQUEUED wBUSY wZERO hS a11 a14 wMAX_LOCK_DELAY a13 a15 q16 q3 a17 k18 T44.heap n0 O45 p44_0 p44_3 p44_5 f46 f47 f48 f49 f50 f51 f52 f53 f54 P17 f55 P24 P28 P29 P44) hZ (ow hw 62 rfl) (ow hw 2 rfl) (by decide) (by decide)) q56a q56c (g := (mkF m 367 #[(vi p1), (vi p2), (vl q3), .second, (vl q4), .second, (vl q5), .second, (vl q6), .second, (vi p7), (vi 1), (vi 1), (vi p10), (vr a11), (vr wMAX_LOCK_DELAY), (vr a13), (vr a14), .unset, .unset, .unset, .unset] [(.int 1), (.ref wMAX_LOCK_DELAY), (.ref a14), (.ref a11)])) rfl (by rw [hml]; rfl) (Steps.refl _) (argsL := [(.ref a14), (.ref wMAX_LOCK_DELAY), (.int 1)]) (rest := []) (lenOf pd_6 rfl) rfl (by show 2 * 0 + _ ≤ _; exact Nat.le_of_eq rfl) (hb hby at_367) (fun _ _ => ⟨rfl, rfl, (by decide : 5 + 2 ≤ _), (by decide : 29 + 6 ≤ _)⟩)
      dsimp only [Pt.U, Pt.locs, Pt.cells, Pt.slots] at X56 l56 y56 z56 st56 hQ56
      subst l56 y56 z56
      obtain ⟨e1_56, rfl, Nq56, K56q, p56_0, p56_1, p56_2, p56_3, p56_4, p56_5, p56_6, p56_7, p56_8, p56_9, p56_10⟩ := hQ56
      have N56 := Fr.app N44 Nq56
      have ne57 : a11 ≠ e1_56 := Nat.ne_of_lt (Nat.lt_of_lt_of_le p44_0.lt p56_7)
      have ne58 : a13 ≠ e1_56 := Nat.ne_of_lt (Nat.lt_of_lt_of_le f48.lt p56_7)
      have ne59 : a14 ≠ e1_56 := Nat.ne_of_lt (Nat.lt_of_lt_of_le f46.lt p56_7)
      have ne60 : a15 ≠ e1_56 := Nat.ne_of_lt (Nat.lt_of_lt_of_le f50.lt p56_7)
      have ne61 : a17 ≠ e1_56 := Nat.ne_of_lt (Nat.lt_of_lt_of_le f54.lt p56_7)
      have g62 : n0 ≤ e1_56 := Nat.le_trans (own_sz O45) p56_7
      have O63 : Old Z n0 T56.heap := O45.keep K56q (allS P29 (allS P28 all0))
      have f64 : Exa Z T56.heap a11 s4n := (p44_0.keep K56q)
      have f65 : Fld Z T56.heap a11 s4n "generation" "J" (.long 1) := (p44_1f.keep K56q (ninS P34 (ninS P33 nin0)))
      have f66 : Fld Z T56.heap a11 s4n "heldBack" "Z" (.int 0) := (p44_2.keep K56q (ninS P34 (ninS P33 nin0)))
      have f67 : Fld Z T56.heap a11 s4n "holder" s5n (.ref a13) := (p44_3.keep K56q (ninS P34 (ninS P33 nin0)))
      have f68 : Fld Z T56.heap a11 s4n s10n s0n (.ref wMAX_LOCK_DELAY) := (p44_4.keep K56q (ninS P34 (ninS P33 nin0)))
      have f69 : Fld Z T56.heap a11 s4n "waiters" s11n (.ref a15) := (p44_5.keep K56q (ninS P34 (ninS P33 nin0)))
      have f70 : Exa Z T56.heap a13 s3n := (f48.keep K56q)
      have f71 : Fld Z T56.heap a13 s3n "session" "J" (.long q3) := (f49.keep K56q (ninS P41 (ninS P40 nin0)))
      have f72 : Exa Z T56.heap a14 s3n := (f46.keep K56q)
      have f73 : Fld Z T56.heap a14 s3n "session" "J" (.long q16) := (f47.keep K56q (ninS P43 (ninS P42 nin0)))
      obtain ⟨cq74, kq74, q74a, q74b, q74c⟩ := isOf hZ rfl f64
      obtain ⟨_, _, ⟨T74, L74, k74, n74⟩, -, X74, ⟨Lc74, hQ74, l74, y74, z74⟩, st74⟩ := X56.virtualBack hx (y := M30) (z := M30) hown (mvT hZ (ow hw 191 rfl)) (mvT hZ (ow hw 192 rfl)) (notFace_of_selects (args := #[]) (mvT hZ (ow hw 194 rfl))) (mvT hZ (ow hw 194 rfl)) (mvT hZ (ow hw 193 rfl)) (by decide) (backOf (W := 0) (au26_4 l Z a0 hw [] wMAX_LOCK_DELAY wGRANTED wQUEUED wBUSY wZERO hS a11 q3 (1 : Int64) a13 a15 a17 k18 e1_56 a14 q16 T56.heap n0 O63 f64 f65 f66 f67 f68 f69 f70 f71 p56_3 p56_4 p56_5 p56_6 p56_1 p56_8 p56_10 f72 f73 P23 P25) hZ (ow hw 195 rfl) (ow hw 2 rfl) (by decide) (by decide)) q74a q74c (g := (mkF m 376 #[(vi p1), (vi p2), (vl q3), .second, (vl q4), .second, (vl q5), .second, (vl q6), .second, (vi p7), (vi 1), (vi 1), (vi p10), (vr a11), (vr wMAX_LOCK_DELAY), (vr a13), (vr a14), .unset, .unset, .unset, .unset] [(.int 1), (.long q3), (.ref a11)])) rfl (by rw [hml]; rfl) (Steps.refl _) (argsL := [(.long q3), (.int 1)]) (rest := []) (lenOf pd_19 rfl) rfl (by show 2 * 0 + _ ≤ _; exact Nat.le_of_eq rfl) (hb hby at_376) (fun _ _ => ⟨rfl, rfl, (by decide : 7 + 1 ≤ _), (by decide : 35 + 4 ≤ _)⟩)
      dsimp only [Pt.U, Pt.locs, Pt.cells, Pt.slots] at X74 l74 y74 z74 st74 hQ74
      subst l74 y74 z74
      obtain ⟨rfl, Nq74, K74q, p74_0, p74_1, p74_2, p74_3, p74_4, p74_5⟩ := hQ74
      have N74 := Fr.app N56 Nq74
      have O75 : Old Z n0 T74.heap := O63.keep K74q (allS P25 all0)
      obtain ⟨cq76, kq76, q76a, q76b, q76c⟩ := isOf hZ rfl p74_0
      obtain ⟨_, _, ⟨T76, L76, k76, n76⟩, -, X76, ⟨Lc76, hQ76, l76, y76, z76⟩, st76⟩ := X74.virtualBack hx (y := M1) (z := M1) hown (mvT hZ (ow hw 46 rfl)) (mvT hZ (ow hw 47 rfl)) (notFace_of_selects (args := #[]) (mvT hZ (ow hw 49 rfl))) (mvT hZ (ow hw 49 rfl)) (mvT hZ (ow hw 48 rfl)) (by decide) (backOf (W := 0) (rmHeldN l Z a0 hw [] wMAX_LOCK_DELAY wGRANTED wQUEUED wBUSY wZERO hS a11 q6 T74.heap n0 O75 p74_3) hZ (ow hw 50 rfl) (ow hw 2 rfl) (by decide) (by decide)) q76a q76c (g := (mkF m 459 #[(vi p1), (vi p2), (vl q3), .second, (vl q4), .second, (vl q5), .second, (vl q6), .second, (vi p7), (vi 1), (vi 1), (vi p10), (vr a11), (vr wMAX_LOCK_DELAY), (vr a13), (vr a14), (vi 0), (vl 2), .second, (vi 0)] [(.long q6), (.ref a11)])) rfl (by rw [hml]; rfl) (Steps.refl _) (argsL := [(.long q6)]) (rest := []) (lenOf pd_3 rfl) rfl (by show 2 * 0 + _ ≤ _; exact Nat.le_of_eq rfl) (hb hby at_459) (fun _ _ => ⟨rfl, rfl, (by decide : 8 + 0 ≤ _), (by decide : 39 + 0 ≤ _)⟩)
      dsimp only [Pt.U, Pt.locs, Pt.cells, Pt.slots] at X76 l76 y76 z76 st76 hQ76
      subst l76 y76 z76
      obtain ⟨rfl, Nq76, K76q⟩ := hQ76
      have N76 := Fr.app N74 Nq76
      obtain ⟨fs, hr, hrun, hended, hW, hsame⟩ := X76.leave (v := some (.int 1)) (fun h => by rw [hret0] at h; cases h)
      refine ⟨_, _, pre43 _ ?_, hrun, hended, _, _, rfl, ?_, ⟨_, rfl⟩, hW, hsame.mono (by decide) (by decide)⟩
      · skip
        show Steps p.tables e below (T0.setTop (mkF m 348 #[(vi p1), (vi p2), (vl q3), .second, (vl q4), .second, (vl q5), .second, (vl q6), .second, (vi p7), (vi 1), (vi 1), (vi p10), (vr a11), (vr wMAX_LOCK_DELAY), (vr a13), (vr a14), .unset, .unset, .unset, .unset] [])) _
        refine XS.aload X0.here hx rfl (hb hby at_348) rfl rfl ?_
        refine XS.aload X0.here hx rfl (hb hby at_350) rfl rfl ?_
        refine XS.aload X0.here hx rfl (hb hby at_352) rfl rfl ?_
        refine XS.iload X0.here hx rfl (hb hby at_354) rfl ?_
        refine st44.trans ?_
        show Steps p.tables e below (T44.setTop (mkF m 359 #[(vi p1), (vi p2), (vl q3), .second, (vl q4), .second, (vl q5), .second, (vl q6), .second, (vi p7), (vi 1), (vi 1), (vi p10), (vr a11), (vr wMAX_LOCK_DELAY), (vr a13), (vr a14), .unset, .unset, .unset, .unset] [(.ref wGRANTED)])) _
        refine XS.pop X44.here hx rfl (hb hby at_359) rfl rfl ?_
        refine XS.aload X44.here hx rfl (hb hby at_360) rfl rfl ?_
        refine XS.aload X44.here hx rfl (hb hby at_362) rfl rfl ?_
        refine XS.aload X44.here hx rfl (hb hby at_364) rfl rfl ?_
        refine XS.iconst X44.here hx rfl (hb hby at_366) ?_
        show Steps p.tables e below (T44.setTop (mkF m 367 #[(vi p1), (vi p2), (vl q3), .second, (vl q4), .second, (vl q5), .second, (vl q6), .second, (vi p7), (vi 1), (vi 1), (vi p10), (vr a11), (vr wMAX_LOCK_DELAY), (vr a13), (vr a14), .unset, .unset, .unset, .unset] [(.int 1), (.ref wMAX_LOCK_DELAY), (.ref a14), (.ref a11)])) _
        refine st56.trans ?_
        refine XS.pop X56.here hx rfl (hb hby at_370) rfl rfl ?_
        refine XS.aload X56.here hx rfl (hb hby at_371) rfl rfl ?_
        refine XS.lloadN X56.here hx rfl (hb hby at_373) rfl ?_
        refine XS.iload X56.here hx rfl (hb hby at_374) rfl ?_
        show Steps p.tables e below (T56.setTop (mkF m 376 #[(vi p1), (vi p2), (vl q3), .second, (vl q4), .second, (vl q5), .second, (vl q6), .second, (vi p7), (vi 1), (vi 1), (vi p10), (vr a11), (vr wMAX_LOCK_DELAY), (vr a13), (vr a14), .unset, .unset, .unset, .unset] [(.int 1), (.long q3), (.ref a11)])) _
        refine st74.trans ?_
        refine XS.pop X74.here hx rfl (hb hby at_379) rfl rfl ?_
        refine XS.iload X74.here hx rfl (hb hby at_380) rfl ?_
        refine XS.ifNo X74.here hx rfl (hb hby at_382) rfl ((if0 _ _).trans (feq (by decide : ¬ ((1 : Int32) = (0 : Int32)))).1) ?_
        refine XS.iload X74.here hx rfl (hb hby at_385) rfl ?_
        show Steps p.tables e below (T74.setTop (mkF m 387 #[(vi p1), (vi p2), (vl q3), .second, (vl q4), .second, (vl q5), .second, (vl q6), .second, (vi p7), (vi 1), (vi 1), (vi p10), (vr a11), (vr wMAX_LOCK_DELAY), (vr a13), (vr a14), .unset, .unset, .unset, .unset] [(.int 1)])) _
        refine XS.ifYes X74.here hx rfl (pc0 := 387) (pc' := 394) rfl (hb hby at_387) rfl ((if0 _ _).trans (feq (by decide : ¬ ((1 : Int32) = (0 : Int32)))).2) (by decide) (by decide) ?_
        refine XS.iconst X74.here hx rfl (hb hby at_394) ?_
        refine XS.istore X74.here hx rfl (hb hby at_395) rfl (l' := #[(vi p1), (vi p2), (vl q3), .second, (vl q4), .second, (vl q5), .second, (vl q6), .second, (vi p7), (vi 1), (vi 1), (vi p10), (vr a11), (vr wMAX_LOCK_DELAY), (vr a13), (vr a14), (vi 0), .unset, .unset, .unset]) rfl ?_
        refine X74.ldc2Long hx hown (mvT hZ (ow hw 190 rfl)) (g := (mkF m 397 #[(vi p1), (vi p2), (vl q3), .second, (vl q4), .second, (vl q5), .second, (vl q6), .second, (vi p7), (vi 1), (vi 1), (vi p10), (vr a11), (vr wMAX_LOCK_DELAY), (vr a13), (vr a14), (vi 0), .unset, .unset, .unset] [])) rfl (hb hby at_397) _ ?_
        refine XS.lstore X74.here hx rfl (hb hby at_400) rfl (l' := #[(vi p1), (vi p2), (vl q3), .second, (vl q4), .second, (vl q5), .second, (vl q6), .second, (vi p7), (vi 1), (vi 1), (vi p10), (vr a11), (vr wMAX_LOCK_DELAY), (vr a13), (vr a14), (vi 0), (vl 2), .second, .unset]) rfl ?_
        show Steps p.tables e below (T74.setTop (mkF m 402 #[(vi p1), (vi p2), (vl q3), .second, (vl q4), .second, (vl q5), .second, (vl q6), .second, (vi p7), (vi 1), (vi 1), (vi p10), (vr a11), (vr wMAX_LOCK_DELAY), (vr a13), (vr a14), (vi 0), (vl 2), .second, .unset] [])) _
        refine XS.goto X74.here hx rfl (pc0 := 402) (pc' := 435) rfl (hb hby at_402) (by decide) (by decide) ?_
        refine XS.iload X74.here hx rfl (hb hby at_435) rfl ?_
        refine XS.ifYes X74.here hx rfl (pc0 := 437) (pc' := 452) rfl (hb hby at_437) rfl ((if0 _ _).trans (teq (by decide : (0 : Int32) = (0 : Int32))).1) (by decide) (by decide) ?_
        refine XS.iconst X74.here hx rfl (hb hby at_452) ?_
        refine XS.istore X74.here hx rfl (hb hby at_453) rfl (l' := #[(vi p1), (vi p2), (vl q3), .second, (vl q4), .second, (vl q5), .second, (vl q6), .second, (vi p7), (vi 1), (vi 1), (vi p10), (vr a11), (vr wMAX_LOCK_DELAY), (vr a13), (vr a14), (vi 0), (vl 2), .second, (vi 0)]) rfl ?_
        show Steps p.tables e below (T74.setTop (mkF m 455 #[(vi p1), (vi p2), (vl q3), .second, (vl q4), .second, (vl q5), .second, (vl q6), .second, (vi p7), (vi 1), (vi 1), (vi p10), (vr a11), (vr wMAX_LOCK_DELAY), (vr a13), (vr a14), (vi 0), (vl 2), .second, (vi 0)] [])) _
        refine XS.aload X74.here hx rfl (hb hby at_455) rfl rfl ?_
        refine XS.lload X74.here hx rfl (hb hby at_457) rfl ?_
        refine st76.trans ?_
        refine XS.iload X76.here hx rfl (hb hby at_462) rfl ?_
        refine XS.icmpNo X76.here hx rfl (hb hby at_464) rfl (teq (by decide : (0 : Int32) = (0 : Int32))).2 ?_
        show Steps p.tables e below (T76.setTop (mkF m 467 #[(vi p1), (vi p2), (vl q3), .second, (vl q4), .second, (vl q5), .second, (vl q6), .second, (vi p7), (vi 1), (vi 1), (vi p10), (vr a11), (vr wMAX_LOCK_DELAY), (vr a13), (vr a14), (vi 0), (vl 2), .second, (vi 0)] [])) _
        refine XS.iconst X76.here hx rfl (hb hby at_467) ?_
        refine XS.goto X76.here hx rfl (pc0 := 468) (pc' := 472) rfl (hb hby at_468) (by decide) (by decide) ?_
        exact retN X76 hx (t := .boolean) hret0 (by simp) (hb hby at_472) hr
      · skip
        exact ⟨rfl, N76⟩
  · skip
    have pre77 : ∀ t, Steps p.tables e below (T0.setTop (mkF m 348 #[(vi p1), (vi p2), (vl q3), .second, (vl q4), .second, (vl q5), .second, (vl q6), .second, (vi p7), (vi p8), (vi p9), (vi p10), (vr a11), (vr wZERO), (vr a13), (vr a14), .unset, .unset, .unset, .unset] [])) t → Steps p.tables e below (T0.setTop (mkF m 348 #[(vi p1), (vi p2), (vl q3), .second, (vl q4), .second, (vl q5), .second, (vl q6), .second, (vi p7), (vi p8), (vi p9), (vi p10), (vr a11), (vr a12), (vr a13), (vr a14), .unset, .unset, .unset, .unset] [])) t := by
      intro t k
      refine pre0 t ?_
      rw [hd1]
      exact k
    have pre78 : ∀ t, Steps p.tables e below (T0.setTop (mkF m 348 #[(vi p1), (vi p2), (vl q3), .second, (vl q4), .second, (vl q5), .second, (vl q6), .second, (vi p7), (vi p8), (vi 0), (vi p10), (vr a11), (vr wZERO), (vr a13), (vr a14), .unset, .unset, .unset, .unset] [])) t → Steps p.tables e below (T0.setTop (mkF m 348 #[(vi p1), (vi p2), (vl q3), .second, (vl q4), .second, (vl q5), .second, (vl q6), .second, (vi p7), (vi p8), (vi p9), (vi p10), (vr a11), (vr a12), (vr a13), (vr a14), .unset, .unset, .unset, .unset] [])) t := by
      intro t k
      refine pre77 t ?_
      rw [hl2]
      exact k
    rcases (id (P21)) with hk79 | hk79
    · skip
      have pre80 : ∀ t, Steps p.tables e below (T0.setTop (mkF m 348 #[(vi p1), (vi p2), (vl q3), .second, (vl q4), .second, (vl q5), .second, (vl q6), .second, (vi p7), (vi 0), (vi 0), (vi p10), (vr a11), (vr wZERO), (vr a13), (vr a14), .unset, .unset, .unset, .unset] [])) t → Steps p.tables e below (T0.setTop (mkF m 348 #[(vi p1), (vi p2), (vl q3), .second, (vl q4), .second, (vl q5), .second, (vl q6), .second, (vi p7), (vi p8), (vi p9), (vi p10), (vr a11), (vr a12), (vr a13), (vr a14), .unset, .unset, .unset, .unset] [])) t := by
        intro t k
        refine pre78 t ?_
        rw [hk79]
        exact k
      obtain ⟨cq81, kq81, q81a, q81b, q81c⟩ := isOf hZ e0 P0
      obtain ⟨_, _, ⟨T81, L81, k81, n81⟩, -, X81, ⟨Lc81, hQ81, l81, y81, z81⟩, st81⟩ := X0.virtualBack hx (y := M8) (z := M8) hown (mvT hZ (ow hw 58 rfl)) (mvT hZ (ow hw 59 rfl)) (notFace_of_selects (args := #[]) (mvT hZ (ow hw 61 rfl))) (mvT hZ (ow hw 61 rfl)) (mvT hZ (ow hw 60 rfl)) (by decide) (backOf (W := 0) (au8_0 l Z a0 hw [] wMAX_LOCK_DELAY wGRANTED wQUEUED wBUSY wZERO hS a11 a13 wZERO p10 (0 : Int64) a15 h0 n0 O0 P0 P1 P2 P3 P4 P5 P6 P25) hZ (ow hw 62 rfl) (ow hw 2 rfl) (by decide) (by decide)) q81a q81c (g := (mkF m 356 #[(vi p1), (vi p2), (vl q3), .second, (vl q4), .second, (vl q5), .second, (vl q6), .second, (vi p7), (vi 0), (vi 0), (vi p10), (vr a11), (vr wZERO), (vr a13), (vr a14), .unset, .unset, .unset, .unset] [(.int p10), (.ref wZERO), (.ref a13), (.ref a11)])) rfl (by rw [hml]; rfl) (Steps.refl _) (argsL := [(.ref a13), (.ref wZERO), (.int p10)]) (rest := []) (lenOf pd_6 rfl) rfl (by show 2 * 0 + _ ≤ _; exact Nat.le_of_eq rfl) (hb hby at_356) (fun _ _ => ⟨rfl, e0, (by decide : 5 + 0 ≤ _), (by decide : 29 + 0 ≤ _)⟩)
      dsimp only [Pt.U, Pt.locs, Pt.cells, Pt.slots] at X81 l81 y81 z81 st81 hQ81
      subst l81 y81 z81
      obtain ⟨rfl, Nq81, K81q, p81_0, p81_1, p81_2, p81_3, p81_4, p81_5⟩ := hQ81
      have N81 := Fr.app N0 Nq81
      have O82 : Old Z n0 T81.heap := O0.keep K81q (allS P25 all0)
      have p81_1f : Fld Z T81.heap a11 s4n "generation" "J" (.long 1) := by have q := p81_1; rw [(by decide : ((0 : Int64) + (1 : Int64)) = (1 : Int64))] at q; exact q
      have f83 : Exa Z T81.heap a14 s3n := (P9.keep K81q)
      have f84 : Fld Z T81.heap a14 s3n "session" "J" (.long q16) := (P11.keep K81q (ninS (Ne.symm P32) nin0))
      have f85 : Exa Z T81.heap a13 s3n := (P6.keep K81q)
      have f86 : Fld Z T81.heap a13 s3n "session" "J" (.long q3) := (P8.keep K81q (ninS (Ne.symm P31) nin0))
      have f87 : Exa Z T81.heap a15 s7n := (P12.keep K81q)
      have f88 : Fld Z T81.heap a15 s7n "elements" s8n (.ref a17) := (P13.keep K81q (ninS (Ne.symm P33) nin0))
      have f89 : Fld Z T81.heap a15 s7n "head" "I" (.int 0) := (P14.keep K81q (ninS (Ne.symm P33) nin0))
      have f90 : Fld Z T81.heap a15 s7n "tail" "I" (.int 0) := (P15.keep K81q (ninS (Ne.symm P33) nin0))
      have f91 : Arv Z T81.heap a17 k18 (.object s9n) (17 : Int32) ([.null, .null, .null, .null, .null, .null, .null, .null, .null, .null, .null, .null, .null, .null, .null, .null, .null]) .null := (P16.keep K81q (ninS (Ne.symm P34) nin0))
      have f92 : Exa Z T81.heap a17 s8n := (P18.keep K81q)
      obtain ⟨cq93, kq93, q93a, q93b, q93c⟩ := isOf hZ rfl p81_0
      obtain ⟨_, _, ⟨T93, L93, k93, n93⟩, -, X93, ⟨Lc93, hQ93, l93, y93, z93⟩, st93⟩ := X81.virtualBack hx (y := M8) (z := M8) hown (mvT hZ (ow hw 58 rfl)) (mvT hZ (ow hw 59 rfl)) (notFace_of_selects (args := #[]) (mvT hZ (ow hw 61 rfl))) (mvT hZ (ow hw 61 rfl)) (mvT hZ (ow hw 60 rfl)) (by decide) (backOf (W := 0) (au8_2 l Z a0 hw [] wMAX_LOCK_DELAY wGRANTED wQUEUED wBUSY wZERO hS a11 a14 wZERO a13 a15 q16 q3 a17 k18 T81.heap n0 O82 p81_0 p81_3 p81_5 f83 f84 f85 f86 f87 f88 f89 f90 f91 P17 f92 P24 P28 P29 P44) hZ (ow hw 62 rfl) (ow hw 2 rfl) (by decide) (by decide)) q93a q93c (g := (mkF m 367 #[(vi p1), (vi p2), (vl q3), .second, (vl q4), .second, (vl q5), .second, (vl q6), .second, (vi p7), (vi 0), (vi 0), (vi p10), (vr a11), (vr wZERO), (vr a13), (vr a14), .unset, .unset, .unset, .unset] [(.int 1), (.ref wZERO), (.ref a14), (.ref a11)])) rfl (by rw [hml]; rfl) (Steps.refl _) (argsL := [(.ref a14), (.ref wZERO), (.int 1)]) (rest := []) (lenOf pd_6 rfl) rfl (by show 2 * 0 + _ ≤ _; exact Nat.le_of_eq rfl) (hb hby at_367) (fun _ _ => ⟨rfl, rfl, (by decide : 5 + 2 ≤ _), (by decide : 29 + 6 ≤ _)⟩)
      dsimp only [Pt.U, Pt.locs, Pt.cells, Pt.slots] at X93 l93 y93 z93 st93 hQ93
      subst l93 y93 z93
      obtain ⟨e1_93, rfl, Nq93, K93q, p93_0, p93_1, p93_2, p93_3, p93_4, p93_5, p93_6, p93_7, p93_8, p93_9, p93_10⟩ := hQ93
      have N93 := Fr.app N81 Nq93
      have ne94 : a11 ≠ e1_93 := Nat.ne_of_lt (Nat.lt_of_lt_of_le p81_0.lt p93_7)
      have ne95 : a13 ≠ e1_93 := Nat.ne_of_lt (Nat.lt_of_lt_of_le f85.lt p93_7)
      have ne96 : a14 ≠ e1_93 := Nat.ne_of_lt (Nat.lt_of_lt_of_le f83.lt p93_7)
      have ne97 : a15 ≠ e1_93 := Nat.ne_of_lt (Nat.lt_of_lt_of_le f87.lt p93_7)
      have ne98 : a17 ≠ e1_93 := Nat.ne_of_lt (Nat.lt_of_lt_of_le f91.lt p93_7)
      have g99 : n0 ≤ e1_93 := Nat.le_trans (own_sz O82) p93_7
      have O100 : Old Z n0 T93.heap := O82.keep K93q (allS P29 (allS P28 all0))
      have f101 : Exa Z T93.heap a11 s4n := (p81_0.keep K93q)
      have f102 : Fld Z T93.heap a11 s4n "generation" "J" (.long 1) := (p81_1f.keep K93q (ninS P34 (ninS P33 nin0)))
      have f103 : Fld Z T93.heap a11 s4n "heldBack" "Z" (.int 0) := (p81_2.keep K93q (ninS P34 (ninS P33 nin0)))
      have f104 : Fld Z T93.heap a11 s4n "holder" s5n (.ref a13) := (p81_3.keep K93q (ninS P34 (ninS P33 nin0)))
      have f105 : Fld Z T93.heap a11 s4n s10n s0n (.ref wZERO) := (p81_4.keep K93q (ninS P34 (ninS P33 nin0)))
      have f106 : Fld Z T93.heap a11 s4n "waiters" s11n (.ref a15) := (p81_5.keep K93q (ninS P34 (ninS P33 nin0)))
      have f107 : Exa Z T93.heap a13 s3n := (f85.keep K93q)
      have f108 : Fld Z T93.heap a13 s3n "session" "J" (.long q3) := (f86.keep K93q (ninS P41 (ninS P40 nin0)))
      have f109 : Exa Z T93.heap a14 s3n := (f83.keep K93q)
      have f110 : Fld Z T93.heap a14 s3n "session" "J" (.long q16) := (f84.keep K93q (ninS P43 (ninS P42 nin0)))
      obtain ⟨cq111, kq111, q111a, q111b, q111c⟩ := isOf hZ rfl f101
      obtain ⟨_, _, ⟨T111, L111, k111, n111⟩, -, X111, ⟨Lc111, hQ111, l111, y111, z111⟩, st111⟩ := X93.virtualBack hx (y := M30) (z := M30) hown (mvT hZ (ow hw 191 rfl)) (mvT hZ (ow hw 192 rfl)) (notFace_of_selects (args := #[]) (mvT hZ (ow hw 194 rfl))) (mvT hZ (ow hw 194 rfl)) (mvT hZ (ow hw 193 rfl)) (by decide) (backOf (W := 0) (au26_6 l Z a0 hw [] wMAX_LOCK_DELAY wGRANTED wQUEUED wBUSY wZERO hS a11 q3 (1 : Int64) a13 a15 a17 k18 e1_93 a14 q16 T93.heap n0 O100 f101 f102 f103 f104 f105 f106 f107 f108 p93_3 p93_4 p93_5 p93_6 p93_1 p93_2 p93_0 p93_8 p93_9 p93_10 f109 f110 P23 P25 P28 P29 P33 P34 ne94 P44 ne97 ne98) hZ (ow hw 195 rfl) (ow hw 2 rfl) (by decide) (by decide)) q111a q111c (g := (mkF m 376 #[(vi p1), (vi p2), (vl q3), .second, (vl q4), .second, (vl q5), .second, (vl q6), .second, (vi p7), (vi 0), (vi 0), (vi p10), (vr a11), (vr wZERO), (vr a13), (vr a14), .unset, .unset, .unset, .unset] [(.int 0), (.long q3), (.ref a11)])) rfl (by rw [hml]; rfl) (Steps.refl _) (argsL := [(.long q3), (.int 0)]) (rest := []) (lenOf pd_19 rfl) rfl (by show 2 * 0 + _ ≤ _; exact Nat.le_of_eq rfl) (hb hby at_376) (fun _ _ => ⟨rfl, rfl, (by decide : 7 + 1 ≤ _), (by decide : 35 + 4 ≤ _)⟩)
      dsimp only [Pt.U, Pt.locs, Pt.cells, Pt.slots] at X111 l111 y111 z111 st111 hQ111
      subst l111 y111 z111
      obtain ⟨rfl, Nq111, K111q, p111_0, p111_1, p111_2, p111_3, p111_4, p111_5, p111_6, p111_7, p111_8, p111_9, p111_10, p111_11, p111_12⟩ := hQ111
      have N111 := Fr.app N93 Nq111
      have O112 : Old Z n0 T111.heap := O100.keep K111q (allS P25 (allS P29 (allS P28 all0)))
      have p111_1f : Fld Z T111.heap a11 s4n "generation" "J" (.long 2) := by have q := p111_1; rw [(by decide : ((1 : Int64) + (1 : Int64)) = (2 : Int64))] at q; exact q
      have pre113 : ∀ t, Steps p.tables e below (T111.setTop (mkF m 445 #[(vi p1), (vi p2), (vl q3), .second, (vl q4), .second, (vl q5), .second, (vl q6), .second, (vi p7), (vi 0), (vi 0), (vi p10), (vr a11), (vr wZERO), (vr a13), (vr a14), (vi 1), (vl 2), .second, .unset] [(.int (lcmpW q6 (2 : Int64)))])) t → Steps p.tables e below (T0.setTop (mkF m 348 #[(vi p1), (vi p2), (vl q3), .second, (vl q4), .second, (vl q5), .second, (vl q6), .second, (vi p7), (vi p8), (vi p9), (vi p10), (vr a11), (vr a12), (vr a13), (vr a14), .unset, .unset, .unset, .unset] [])) t := by
        intro t k
        refine pre80 t ?_
        show Steps p.tables e below (T0.setTop (mkF m 348 #[(vi p1), (vi p2), (vl q3), .second, (vl q4), .second, (vl q5), .second, (vl q6), .second, (vi p7), (vi 0), (vi 0), (vi p10), (vr a11), (vr wZERO), (vr a13), (vr a14), .unset, .unset, .unset, .unset] [])) _
        refine XS.aload X0.here hx rfl (hb hby at_348) rfl rfl ?_
        refine XS.aload X0.here hx rfl (hb hby at_350) rfl rfl ?_
        refine XS.aload X0.here hx rfl (hb hby at_352) rfl rfl ?_
        refine XS.iload X0.here hx rfl (hb hby at_354) rfl ?_
        refine st81.trans ?_
        show Steps p.tables e below (T81.setTop (mkF m 359 #[(vi p1), (vi p2), (vl q3), .second, (vl q4), .second, (vl q5), .second, (vl q6), .second, (vi p7), (vi 0), (vi 0), (vi p10), (vr a11), (vr wZERO), (vr a13), (vr a14), .unset, .unset, .unset, .unset] [(.ref wGRANTED)])) _
        refine XS.pop X81.here hx rfl (hb hby at_359) rfl rfl ?_
        refine XS.aload X81.here hx rfl (hb hby at_360) rfl rfl ?_
        refine XS.aload X81.here hx rfl (hb hby at_362) rfl rfl ?_
        refine XS.aload X81.here hx rfl (hb hby at_364) rfl rfl ?_
        refine XS.iconst X81.here hx rfl (hb hby at_366) ?_
        show Steps p.tables e below (T81.setTop (mkF m 367 #[(vi p1), (vi p2), (vl q3), .second, (vl q4), .second, (vl q5), .second, (vl q6), .second, (vi p7), (vi 0), (vi 0), (vi p10), (vr a11), (vr wZERO), (vr a13), (vr a14), .unset, .unset, .unset, .unset] [(.int 1), (.ref wZERO), (.ref a14), (.ref a11)])) _
        refine st93.trans ?_
        refine XS.pop X93.here hx rfl (hb hby at_370) rfl rfl ?_
        refine XS.aload X93.here hx rfl (hb hby at_371) rfl rfl ?_
        refine XS.lloadN X93.here hx rfl (hb hby at_373) rfl ?_
        refine XS.iload X93.here hx rfl (hb hby at_374) rfl ?_
        show Steps p.tables e below (T93.setTop (mkF m 376 #[(vi p1), (vi p2), (vl q3), .second, (vl q4), .second, (vl q5), .second, (vl q6), .second, (vi p7), (vi 0), (vi 0), (vi p10), (vr a11), (vr wZERO), (vr a13), (vr a14), .unset, .unset, .unset, .unset] [(.int 0), (.long q3), (.ref a11)])) _
        refine st111.trans ?_
        refine XS.pop X111.here hx rfl (hb hby at_379) rfl rfl ?_
        refine XS.iload X111.here hx rfl (hb hby at_380) rfl ?_
        refine XS.ifYes X111.here hx rfl (pc0 := 382) (pc' := 390) rfl (hb hby at_382) rfl ((if0 _ _).trans (teq (by decide : (0 : Int32) = (0 : Int32))).1) (by decide) (by decide) ?_
        refine XS.iconst X111.here hx rfl (hb hby at_390) ?_
        show Steps p.tables e below (T111.setTop (mkF m 391 #[(vi p1), (vi p2), (vl q3), .second, (vl q4), .second, (vl q5), .second, (vl q6), .second, (vi p7), (vi 0), (vi 0), (vi p10), (vr a11), (vr wZERO), (vr a13), (vr a14), .unset, .unset, .unset, .unset] [(.int 1)])) _
        refine XS.goto X111.here hx rfl (pc0 := 391) (pc' := 395) rfl (hb hby at_391) (by decide) (by decide) ?_
        refine XS.istore X111.here hx rfl (hb hby at_395) rfl (l' := #[(vi p1), (vi p2), (vl q3), .second, (vl q4), .second, (vl q5), .second, (vl q6), .second, (vi p7), (vi 0), (vi 0), (vi p10), (vr a11), (vr wZERO), (vr a13), (vr a14), (vi 1), .unset, .unset, .unset]) rfl ?_
        refine X111.ldc2Long hx hown (mvT hZ (ow hw 190 rfl)) (g := (mkF m 397 #[(vi p1), (vi p2), (vl q3), .second, (vl q4), .second, (vl q5), .second, (vl q6), .second, (vi p7), (vi 0), (vi 0), (vi p10), (vr a11), (vr wZERO), (vr a13), (vr a14), (vi 1), .unset, .unset, .unset] [])) rfl (hb hby at_397) _ ?_
        refine XS.lstore X111.here hx rfl (hb hby at_400) rfl (l' := #[(vi p1), (vi p2), (vl q3), .second, (vl q4), .second, (vl q5), .second, (vl q6), .second, (vi p7), (vi 0), (vi 0), (vi p10), (vr a11), (vr wZERO), (vr a13), (vr a14), (vi 1), (vl 2), .second, .unset]) rfl ?_
        refine XS.goto X111.here hx rfl (pc0 := 402) (pc' := 435) rfl (hb hby at_402) (by decide) (by decide) ?_
        show Steps p.tables e below (T111.setTop (mkF m 435 #[(vi p1), (vi p2), (vl q3), .second, (vl q4), .second, (vl q5), .second, (vl q6), .second, (vi p7), (vi 0), (vi 0), (vi p10), (vr a11), (vr wZERO), (vr a13), (vr a14), (vi 1), (vl 2), .second, .unset] [])) _
        refine XS.iload X111.here hx rfl (hb hby at_435) rfl ?_
        refine XS.ifNo X111.here hx rfl (hb hby at_437) rfl ((if0 _ _).trans (feq (by decide : ¬ ((1 : Int32) = (0 : Int32)))).1) ?_
        refine XS.lload X111.here hx rfl (hb hby at_440) rfl ?_
        refine XS.lload X111.here hx rfl (hb hby at_442) rfl ?_
        refine XS.lcmp X111.here hx rfl (hb hby at_444) rfl ?_
        exact k
      obtain ⟨exp, hexp⟩ : ∃ z : Int32, z = (if (lcmpW q6 (2 : Int64)) = (0 : Int32) then (1 : Int32) else (0 : Int32)) := ⟨_, rfl⟩
      have pre115 : ∀ t, Steps p.tables e below (T111.setTop (mkF m 453 #[(vi p1), (vi p2), (vl q3), .second, (vl q4), .second, (vl q5), .second, (vl q6), .second, (vi p7), (vi 0), (vi 0), (vi p10), (vr a11), (vr wZERO), (vr a13), (vr a14), (vi 1), (vl 2), .second, .unset] [(.int exp)])) t → Steps p.tables e below (T0.setTop (mkF m 348 #[(vi p1), (vi p2), (vl q3), .second, (vl q4), .second, (vl q5), .second, (vl q6), .second, (vi p7), (vi p8), (vi p9), (vi p10), (vr a11), (vr a12), (vr a13), (vr a14), .unset, .unset, .unset, .unset] [])) t := by
        intro t k
        rw [hexp] at k
        refine pre113 t ?_
        show Steps p.tables e below (T111.setTop (mkF m 445 #[(vi p1), (vi p2), (vl q3), .second, (vl q4), .second, (vl q5), .second, (vl q6), .second, (vi p7), (vi 0), (vi 0), (vi p10), (vr a11), (vr wZERO), (vr a13), (vr a14), (vi 1), (vl 2), .second, .unset] [(.int (lcmpW q6 (2 : Int64)))])) _
        rcases Decidable.em ((lcmpW q6 (2 : Int64)) = (0 : Int32)) with hm114 | hm114
        · first | simp only [if_pos hm114] at k | skip
          refine XS.ifNo X111.here hx rfl (hb hby at_445) rfl ((if0 _ _).trans (teq hm114).2) ?_
          refine XS.iconst X111.here hx rfl (hb hby at_448) ?_
          refine XS.goto X111.here hx rfl (pc0 := 449) (pc' := 453) rfl (hb hby at_449) (by decide) (by decide) ?_
          exact k
        · first | simp only [if_neg hm114] at k | skip
          refine XS.ifYes X111.here hx rfl (pc0 := 445) (pc' := 452) rfl (hb hby at_445) rfl ((if0 _ _).trans (feq hm114).2) (by decide) (by decide) ?_
          refine XS.iconst X111.here hx rfl (hb hby at_452) ?_
          exact k
      obtain ⟨cq116, kq116, q116a, q116b, q116c⟩ := isOf hZ rfl p111_0
      obtain ⟨_, _, ⟨T116, L116, k116, n116⟩, -, X116, ⟨Lc116, hQ116, l116, y116, z116⟩, st116⟩ := X111.virtualBack hx (y := M1) (z := M1) hown (mvT hZ (ow hw 46 rfl)) (mvT hZ (ow hw 47 rfl)) (notFace_of_selects (args := #[]) (mvT hZ (ow hw 49 rfl))) (mvT hZ (ow hw 49 rfl)) (mvT hZ (ow hw 48 rfl)) (by decide) (backOf (W := 0) (rmHeld l Z a0 hw [] wMAX_LOCK_DELAY wGRANTED wQUEUED wBUSY wZERO hS a11 a14 (2 : Int64) q6 T111.heap n0 O112 p111_3 p111_1f) hZ (ow hw 50 rfl) (ow hw 2 rfl) (by decide) (by decide)) q116a q116c (g := (mkF m 459 #[(vi p1), (vi p2), (vl q3), .second, (vl q4), .second, (vl q5), .second, (vl q6), .second, (vi p7), (vi 0), (vi 0), (vi p10), (vr a11), (vr wZERO), (vr a13), (vr a14), (vi 1), (vl 2), .second, (vi exp)] [(.long q6), (.ref a11)])) rfl (by rw [hml]; rfl) (Steps.refl _) (argsL := [(.long q6)]) (rest := []) (lenOf pd_3 rfl) rfl (by show 2 * 0 + _ ≤ _; exact Nat.le_of_eq rfl) (hb hby at_459) (fun _ _ => ⟨rfl, rfl, (by decide : 8 + 0 ≤ _), (by decide : 39 + 0 ≤ _)⟩)
      dsimp only [Pt.U, Pt.locs, Pt.cells, Pt.slots] at X116 l116 y116 z116 st116 hQ116
      subst l116 y116 z116
      obtain ⟨r_116, rfl, Nq116, K116q, p116_0⟩ := hQ116
      have N116 := Fr.app N111 Nq116
      obtain ⟨fs, hr, hrun, hended, hW, hsame⟩ := X116.leave (v := some (.int 1)) (fun h => by rw [hret0] at h; cases h)
      refine ⟨_, _, pre115 _ ?_, hrun, hended, _, _, rfl, ?_, ⟨_, rfl⟩, hW, hsame.mono (by decide) (by decide)⟩
      · skip
        show Steps p.tables e below (T111.setTop (mkF m 453 #[(vi p1), (vi p2), (vl q3), .second, (vl q4), .second, (vl q5), .second, (vl q6), .second, (vi p7), (vi 0), (vi 0), (vi p10), (vr a11), (vr wZERO), (vr a13), (vr a14), (vi 1), (vl 2), .second, .unset] [(.int exp)])) _
        refine XS.istore X111.here hx rfl (hb hby at_453) rfl (l' := #[(vi p1), (vi p2), (vl q3), .second, (vl q4), .second, (vl q5), .second, (vl q6), .second, (vi p7), (vi 0), (vi 0), (vi p10), (vr a11), (vr wZERO), (vr a13), (vr a14), (vi 1), (vl 2), .second, (vi exp)]) rfl ?_
        refine XS.aload X111.here hx rfl (hb hby at_455) rfl rfl ?_
        refine XS.lload X111.here hx rfl (hb hby at_457) rfl ?_
        refine st116.trans ?_
        refine XS.iload X116.here hx rfl (hb hby at_462) rfl ?_
        show Steps p.tables e below (T116.setTop (mkF m 464 #[(vi p1), (vi p2), (vl q3), .second, (vl q4), .second, (vl q5), .second, (vl q6), .second, (vi p7), (vi 0), (vi 0), (vi p10), (vr a11), (vr wZERO), (vr a13), (vr a14), (vi 1), (vl 2), .second, (vi exp)] [(.int exp), (.int r_116)])) _
        refine XS.icmpNo X116.here hx rfl (hb hby at_464) rfl (teq (p116_0.trans ((own_sym _ _).trans hexp.symm) : r_116 = exp)).2 ?_
        refine XS.iconst X116.here hx rfl (hb hby at_467) ?_
        refine XS.goto X116.here hx rfl (pc0 := 468) (pc' := 472) rfl (hb hby at_468) (by decide) (by decide) ?_
        exact retN X116 hx (t := .boolean) hret0 (by simp) (hb hby at_472) hr
      · skip
        exact ⟨rfl, N116⟩
    · skip
      have pre117 : ∀ t, Steps p.tables e below (T0.setTop (mkF m 348 #[(vi p1), (vi p2), (vl q3), .second, (vl q4), .second, (vl q5), .second, (vl q6), .second, (vi p7), (vi 1), (vi 0), (vi p10), (vr a11), (vr wZERO), (vr a13), (vr a14), .unset, .unset, .unset, .unset] [])) t → Steps p.tables e below (T0.setTop (mkF m 348 #[(vi p1), (vi p2), (vl q3), .second, (vl q4), .second, (vl q5), .second, (vl q6), .second, (vi p7), (vi p8), (vi p9), (vi p10), (vr a11), (vr a12), (vr a13), (vr a14), .unset, .unset, .unset, .unset] [])) t := by
        intro t k
        refine pre78 t ?_
        rw [hk79]
        exact k
      obtain ⟨cq118, kq118, q118a, q118b, q118c⟩ := isOf hZ e0 P0
      obtain ⟨_, _, ⟨T118, L118, k118, n118⟩, -, X118, ⟨Lc118, hQ118, l118, y118, z118⟩, st118⟩ := X0.virtualBack hx (y := M8) (z := M8) hown (mvT hZ (ow hw 58 rfl)) (mvT hZ (ow hw 59 rfl)) (notFace_of_selects (args := #[]) (mvT hZ (ow hw 61 rfl))) (mvT hZ (ow hw 61 rfl)) (mvT hZ (ow hw 60 rfl)) (by decide) (backOf (W := 0) (au8_0 l Z a0 hw [] wMAX_LOCK_DELAY wGRANTED wQUEUED wBUSY wZERO hS a11 a13 wZERO p10 (0 : Int64) a15 h0 n0 O0 P0 P1 P2 P3 P4 P5 P6 P25) hZ (ow hw 62 rfl) (ow hw 2 rfl) (by decide) (by decide)) q118a q118c (g := (mkF m 356 #[(vi p1), (vi p2), (vl q3), .second, (vl q4), .second, (vl q5), .second, (vl q6), .second, (vi p7), (vi 1), (vi 0), (vi p10), (vr a11), (vr wZERO), (vr a13), (vr a14), .unset, .unset, .unset, .unset] [(.int p10), (.ref wZERO), (.ref a13), (.ref a11)])) rfl (by rw [hml]; rfl) (Steps.refl _) (argsL := [(.ref a13), (.ref wZERO), (.int p10)]) (rest := []) (lenOf pd_6 rfl) rfl (by show 2 * 0 + _ ≤ _; exact Nat.le_of_eq rfl) (hb hby at_356) (fun _ _ => ⟨rfl, e0, (by decide : 5 + 0 ≤ _), (by decide : 29 + 0 ≤ _)⟩)
      dsimp only [Pt.U, Pt.locs, Pt.cells, Pt.slots] at X118 l118 y118 z118 st118 hQ118
      subst l118 y118 z118
      obtain ⟨rfl, Nq118, K118q, p118_0, p118_1, p118_2, p118_3, p118_4, p118_5⟩ := hQ118
      have N118 := Fr.app N0 Nq118
      have O119 : Old Z n0 T118.heap := O0.keep K118q (allS P25 all0)
      have p118_1f : Fld Z T118.heap a11 s4n "generation" "J" (.long 1) := by have q := p118_1; rw [(by decide : ((0 : Int64) + (1 : Int64)) = (1 : Int64))] at q; exact q
      have f120 : Exa Z T118.heap a14 s3n := (P9.keep K118q)
      have f121 : Fld Z T118.heap a14 s3n "session" "J" (.long q16) := (P11.keep K118q (ninS (Ne.symm P32) nin0))
      have f122 : Exa Z T118.heap a13 s3n := (P6.keep K118q)
      have f123 : Fld Z T118.heap a13 s3n "session" "J" (.long q3) := (P8.keep K118q (ninS (Ne.symm P31) nin0))
      have f124 : Exa Z T118.heap a15 s7n := (P12.keep K118q)
      have f125 : Fld Z T118.heap a15 s7n "elements" s8n (.ref a17) := (P13.keep K118q (ninS (Ne.symm P33) nin0))
      have f126 : Fld Z T118.heap a15 s7n "head" "I" (.int 0) := (P14.keep K118q (ninS (Ne.symm P33) nin0))
      have f127 : Fld Z T118.heap a15 s7n "tail" "I" (.int 0) := (P15.keep K118q (ninS (Ne.symm P33) nin0))
      have f128 : Arv Z T118.heap a17 k18 (.object s9n) (17 : Int32) ([.null, .null, .null, .null, .null, .null, .null, .null, .null, .null, .null, .null, .null, .null, .null, .null, .null]) .null := (P16.keep K118q (ninS (Ne.symm P34) nin0))
      have f129 : Exa Z T118.heap a17 s8n := (P18.keep K118q)
      obtain ⟨cq130, kq130, q130a, q130b, q130c⟩ := isOf hZ rfl p118_0
      obtain ⟨_, _, ⟨T130, L130, k130, n130⟩, -, X130, ⟨Lc130, hQ130, l130, y130, z130⟩, st130⟩ := X118.virtualBack hx (y := M8) (z := M8) hown (mvT hZ (ow hw 58 rfl)) (mvT hZ (ow hw 59 rfl)) (notFace_of_selects (args := #[]) (mvT hZ (ow hw 61 rfl))) (mvT hZ (ow hw 61 rfl)) (mvT hZ (ow hw 60 rfl)) (by decide) (backOf (W := 0) (au8_2 l Z a0 hw [] wMAX_LOCK_DELAY wGRANTED wQUEUED wBUSY wZERO hS a11 a14 wZERO a13 a15 q16 q3 a17 k18 T118.heap n0 O119 p118_0 p118_3 p118_5 f120 f121 f122 f123 f124 f125 f126 f127 f128 P17 f129 P24 P28 P29 P44) hZ (ow hw 62 rfl) (ow hw 2 rfl) (by decide) (by decide)) q130a q130c (g := (mkF m 367 #[(vi p1), (vi p2), (vl q3), .second, (vl q4), .second, (vl q5), .second, (vl q6), .second, (vi p7), (vi 1), (vi 0), (vi p10), (vr a11), (vr wZERO), (vr a13), (vr a14), .unset, .unset, .unset, .unset] [(.int 1), (.ref wZERO), (.ref a14), (.ref a11)])) rfl (by rw [hml]; rfl) (Steps.refl _) (argsL := [(.ref a14), (.ref wZERO), (.int 1)]) (rest := []) (lenOf pd_6 rfl) rfl (by show 2 * 0 + _ ≤ _; exact Nat.le_of_eq rfl) (hb hby at_367) (fun _ _ => ⟨rfl, rfl, (by decide : 5 + 2 ≤ _), (by decide : 29 + 6 ≤ _)⟩)
      dsimp only [Pt.U, Pt.locs, Pt.cells, Pt.slots] at X130 l130 y130 z130 st130 hQ130
      subst l130 y130 z130
      obtain ⟨e1_130, rfl, Nq130, K130q, p130_0, p130_1, p130_2, p130_3, p130_4, p130_5, p130_6, p130_7, p130_8, p130_9, p130_10⟩ := hQ130
      have N130 := Fr.app N118 Nq130
      have ne131 : a11 ≠ e1_130 := Nat.ne_of_lt (Nat.lt_of_lt_of_le p118_0.lt p130_7)
      have ne132 : a13 ≠ e1_130 := Nat.ne_of_lt (Nat.lt_of_lt_of_le f122.lt p130_7)
      have ne133 : a14 ≠ e1_130 := Nat.ne_of_lt (Nat.lt_of_lt_of_le f120.lt p130_7)
      have ne134 : a15 ≠ e1_130 := Nat.ne_of_lt (Nat.lt_of_lt_of_le f124.lt p130_7)
      have ne135 : a17 ≠ e1_130 := Nat.ne_of_lt (Nat.lt_of_lt_of_le f128.lt p130_7)
      have g136 : n0 ≤ e1_130 := Nat.le_trans (own_sz O119) p130_7
      have O137 : Old Z n0 T130.heap := O119.keep K130q (allS P29 (allS P28 all0))
      have f138 : Exa Z T130.heap a11 s4n := (p118_0.keep K130q)
      have f139 : Fld Z T130.heap a11 s4n "generation" "J" (.long 1) := (p118_1f.keep K130q (ninS P34 (ninS P33 nin0)))
      have f140 : Fld Z T130.heap a11 s4n "heldBack" "Z" (.int 0) := (p118_2.keep K130q (ninS P34 (ninS P33 nin0)))
      have f141 : Fld Z T130.heap a11 s4n "holder" s5n (.ref a13) := (p118_3.keep K130q (ninS P34 (ninS P33 nin0)))
      have f142 : Fld Z T130.heap a11 s4n s10n s0n (.ref wZERO) := (p118_4.keep K130q (ninS P34 (ninS P33 nin0)))
      have f143 : Fld Z T130.heap a11 s4n "waiters" s11n (.ref a15) := (p118_5.keep K130q (ninS P34 (ninS P33 nin0)))
      have f144 : Exa Z T130.heap a13 s3n := (f122.keep K130q)
      have f145 : Fld Z T130.heap a13 s3n "session" "J" (.long q3) := (f123.keep K130q (ninS P41 (ninS P40 nin0)))
      have f146 : Exa Z T130.heap a14 s3n := (f120.keep K130q)
      have f147 : Fld Z T130.heap a14 s3n "session" "J" (.long q16) := (f121.keep K130q (ninS P43 (ninS P42 nin0)))
      obtain ⟨cq148, kq148, q148a, q148b, q148c⟩ := isOf hZ rfl f138
      obtain ⟨_, _, ⟨T148, L148, k148, n148⟩, -, X148, ⟨Lc148, hQ148, l148, y148, z148⟩, st148⟩ := X130.virtualBack hx (y := M30) (z := M30) hown (mvT hZ (ow hw 191 rfl)) (mvT hZ (ow hw 192 rfl)) (notFace_of_selects (args := #[]) (mvT hZ (ow hw 194 rfl))) (mvT hZ (ow hw 194 rfl)) (mvT hZ (ow hw 193 rfl)) (by decide) (backOf (W := 0) (au26_7 l Z a0 hw [] wMAX_LOCK_DELAY wGRANTED wQUEUED wBUSY wZERO hS a11 q3 (1 : Int64) a13 a15 a17 k18 e1_130 a14 q16 T130.heap n0 O137 f138 f139 f140 f141 f142 f143 f144 f145 p130_3 p130_4 p130_5 p130_6 p130_1 p130_2 p130_0 p130_8 p130_9 p130_10 f146 f147 P23 P25 P28 P29 P33 P34 ne131 P44 ne134 ne135) hZ (ow hw 195 rfl) (ow hw 2 rfl) (by decide) (by decide)) q148a q148c (g := (mkF m 376 #[(vi p1), (vi p2), (vl q3), .second, (vl q4), .second, (vl q5), .second, (vl q6), .second, (vi p7), (vi 1), (vi 0), (vi p10), (vr a11), (vr wZERO), (vr a13), (vr a14), .unset, .unset, .unset, .unset] [(.int 1), (.long q3), (.ref a11)])) rfl (by rw [hml]; rfl) (Steps.refl _) (argsL := [(.long q3), (.int 1)]) (rest := []) (lenOf pd_19 rfl) rfl (by show 2 * 0 + _ ≤ _; exact Nat.le_of_eq rfl) (hb hby at_376) (fun _ _ => ⟨rfl, rfl, (by decide : 7 + 1 ≤ _), (by decide : 35 + 4 ≤ _)⟩)
      dsimp only [Pt.U, Pt.locs, Pt.cells, Pt.slots] at X148 l148 y148 z148 st148 hQ148
      subst l148 y148 z148
      obtain ⟨rfl, Nq148, K148q, p148_0, p148_1, p148_2, p148_3, p148_4, p148_5, p148_6, p148_7, p148_8, p148_9, p148_10, p148_11, p148_12⟩ := hQ148
      have N148 := Fr.app N130 Nq148
      have O149 : Old Z n0 T148.heap := O137.keep K148q (allS P25 (allS P29 (allS P28 all0)))
      have p148_1f : Fld Z T148.heap a11 s4n "generation" "J" (.long 2) := by have q := p148_1; rw [(by decide : ((1 : Int64) + (1 : Int64)) = (2 : Int64))] at q; exact q
      have pre150 : ∀ t, Steps p.tables e below (T148.setTop (mkF m 445 #[(vi p1), (vi p2), (vl q3), .second, (vl q4), .second, (vl q5), .second, (vl q6), .second, (vi p7), (vi 1), (vi 0), (vi p10), (vr a11), (vr wZERO), (vr a13), (vr a14), (vi 1), (vl 2), .second, .unset] [(.int (lcmpW q6 (2 : Int64)))])) t → Steps p.tables e below (T0.setTop (mkF m 348 #[(vi p1), (vi p2), (vl q3), .second, (vl q4), .second, (vl q5), .second, (vl q6), .second, (vi p7), (vi p8), (vi p9), (vi p10), (vr a11), (vr a12), (vr a13), (vr a14), .unset, .unset, .unset, .unset] [])) t := by
        intro t k
        refine pre117 t ?_
        show Steps p.tables e below (T0.setTop (mkF m 348 #[(vi p1), (vi p2), (vl q3), .second, (vl q4), .second, (vl q5), .second, (vl q6), .second, (vi p7), (vi 1), (vi 0), (vi p10), (vr a11), (vr wZERO), (vr a13), (vr a14), .unset, .unset, .unset, .unset] [])) _
        refine XS.aload X0.here hx rfl (hb hby at_348) rfl rfl ?_
        refine XS.aload X0.here hx rfl (hb hby at_350) rfl rfl ?_
        refine XS.aload X0.here hx rfl (hb hby at_352) rfl rfl ?_
        refine XS.iload X0.here hx rfl (hb hby at_354) rfl ?_
        refine st118.trans ?_
        show Steps p.tables e below (T118.setTop (mkF m 359 #[(vi p1), (vi p2), (vl q3), .second, (vl q4), .second, (vl q5), .second, (vl q6), .second, (vi p7), (vi 1), (vi 0), (vi p10), (vr a11), (vr wZERO), (vr a13), (vr a14), .unset, .unset, .unset, .unset] [(.ref wGRANTED)])) _
        refine XS.pop X118.here hx rfl (hb hby at_359) rfl rfl ?_
        refine XS.aload X118.here hx rfl (hb hby at_360) rfl rfl ?_
        refine XS.aload X118.here hx rfl (hb hby at_362) rfl rfl ?_
        refine XS.aload X118.here hx rfl (hb hby at_364) rfl rfl ?_
        refine XS.iconst X118.here hx rfl (hb hby at_366) ?_
        show Steps p.tables e below (T118.setTop (mkF m 367 #[(vi p1), (vi p2), (vl q3), .second, (vl q4), .second, (vl q5), .second, (vl q6), .second, (vi p7), (vi 1), (vi 0), (vi p10), (vr a11), (vr wZERO), (vr a13), (vr a14), .unset, .unset, .unset, .unset] [(.int 1), (.ref wZERO), (.ref a14), (.ref a11)])) _
        refine st130.trans ?_
        refine XS.pop X130.here hx rfl (hb hby at_370) rfl rfl ?_
        refine XS.aload X130.here hx rfl (hb hby at_371) rfl rfl ?_
        refine XS.lloadN X130.here hx rfl (hb hby at_373) rfl ?_
        refine XS.iload X130.here hx rfl (hb hby at_374) rfl ?_
        show Steps p.tables e below (T130.setTop (mkF m 376 #[(vi p1), (vi p2), (vl q3), .second, (vl q4), .second, (vl q5), .second, (vl q6), .second, (vi p7), (vi 1), (vi 0), (vi p10), (vr a11), (vr wZERO), (vr a13), (vr a14), .unset, .unset, .unset, .unset] [(.int 1), (.long q3), (.ref a11)])) _
        refine st148.trans ?_
        refine XS.pop X148.here hx rfl (hb hby at_379) rfl rfl ?_
        refine XS.iload X148.here hx rfl (hb hby at_380) rfl ?_
        refine XS.ifNo X148.here hx rfl (hb hby at_382) rfl ((if0 _ _).trans (feq (by decide : ¬ ((1 : Int32) = (0 : Int32)))).1) ?_
        refine XS.iload X148.here hx rfl (hb hby at_385) rfl ?_
        show Steps p.tables e below (T148.setTop (mkF m 387 #[(vi p1), (vi p2), (vl q3), .second, (vl q4), .second, (vl q5), .second, (vl q6), .second, (vi p7), (vi 1), (vi 0), (vi p10), (vr a11), (vr wZERO), (vr a13), (vr a14), .unset, .unset, .unset, .unset] [(.int 0)])) _
        refine XS.ifNo X148.here hx rfl (hb hby at_387) rfl ((if0 _ _).trans (teq (by decide : (0 : Int32) = (0 : Int32))).2) ?_
        refine XS.iconst X148.here hx rfl (hb hby at_390) ?_
        refine XS.goto X148.here hx rfl (pc0 := 391) (pc' := 395) rfl (hb hby at_391) (by decide) (by decide) ?_
        refine XS.istore X148.here hx rfl (hb hby at_395) rfl (l' := #[(vi p1), (vi p2), (vl q3), .second, (vl q4), .second, (vl q5), .second, (vl q6), .second, (vi p7), (vi 1), (vi 0), (vi p10), (vr a11), (vr wZERO), (vr a13), (vr a14), (vi 1), .unset, .unset, .unset]) rfl ?_
        refine X148.ldc2Long hx hown (mvT hZ (ow hw 190 rfl)) (g := (mkF m 397 #[(vi p1), (vi p2), (vl q3), .second, (vl q4), .second, (vl q5), .second, (vl q6), .second, (vi p7), (vi 1), (vi 0), (vi p10), (vr a11), (vr wZERO), (vr a13), (vr a14), (vi 1), .unset, .unset, .unset] [])) rfl (hb hby at_397) _ ?_
        show Steps p.tables e below (T148.setTop (mkF m 400 #[(vi p1), (vi p2), (vl q3), .second, (vl q4), .second, (vl q5), .second, (vl q6), .second, (vi p7), (vi 1), (vi 0), (vi p10), (vr a11), (vr wZERO), (vr a13), (vr a14), (vi 1), .unset, .unset, .unset] [(.long 2)])) _
        refine XS.lstore X148.here hx rfl (hb hby at_400) rfl (l' := #[(vi p1), (vi p2), (vl q3), .second, (vl q4), .second, (vl q5), .second, (vl q6), .second, (vi p7), (vi 1), (vi 0), (vi p10), (vr a11), (vr wZERO), (vr a13), (vr a14), (vi 1), (vl 2), .second, .unset]) rfl ?_
        refine XS.goto X148.here hx rfl (pc0 := 402) (pc' := 435) rfl (hb hby at_402) (by decide) (by decide) ?_
        refine XS.iload X148.here hx rfl (hb hby at_435) rfl ?_
        refine XS.ifNo X148.here hx rfl (hb hby at_437) rfl ((if0 _ _).trans (feq (by decide : ¬ ((1 : Int32) = (0 : Int32)))).1) ?_
        refine XS.lload X148.here hx rfl (hb hby at_440) rfl ?_
        show Steps p.tables e below (T148.setTop (mkF m 442 #[(vi p1), (vi p2), (vl q3), .second, (vl q4), .second, (vl q5), .second, (vl q6), .second, (vi p7), (vi 1), (vi 0), (vi p10), (vr a11), (vr wZERO), (vr a13), (vr a14), (vi 1), (vl 2), .second, .unset] [(.long q6)])) _
        refine XS.lload X148.here hx rfl (hb hby at_442) rfl ?_
        refine XS.lcmp X148.here hx rfl (hb hby at_444) rfl ?_
        exact k
      obtain ⟨exp, hexp⟩ : ∃ z : Int32, z = (if (lcmpW q6 (2 : Int64)) = (0 : Int32) then (1 : Int32) else (0 : Int32)) := ⟨_, rfl⟩
      have pre152 : ∀ t, Steps p.tables e below (T148.setTop (mkF m 453 #[(vi p1), (vi p2), (vl q3), .second, (vl q4), .second, (vl q5), .second, (vl q6), .second, (vi p7), (vi 1), (vi 0), (vi p10), (vr a11), (vr wZERO), (vr a13), (vr a14), (vi 1), (vl 2), .second, .unset] [(.int exp)])) t → Steps p.tables e below (T0.setTop (mkF m 348 #[(vi p1), (vi p2), (vl q3), .second, (vl q4), .second, (vl q5), .second, (vl q6), .second, (vi p7), (vi p8), (vi p9), (vi p10), (vr a11), (vr a12), (vr a13), (vr a14), .unset, .unset, .unset, .unset] [])) t := by
        intro t k
        rw [hexp] at k
        refine pre150 t ?_
        show Steps p.tables e below (T148.setTop (mkF m 445 #[(vi p1), (vi p2), (vl q3), .second, (vl q4), .second, (vl q5), .second, (vl q6), .second, (vi p7), (vi 1), (vi 0), (vi p10), (vr a11), (vr wZERO), (vr a13), (vr a14), (vi 1), (vl 2), .second, .unset] [(.int (lcmpW q6 (2 : Int64)))])) _
        rcases Decidable.em ((lcmpW q6 (2 : Int64)) = (0 : Int32)) with hm151 | hm151
        · first | simp only [if_pos hm151] at k | skip
          refine XS.ifNo X148.here hx rfl (hb hby at_445) rfl ((if0 _ _).trans (teq hm151).2) ?_
          refine XS.iconst X148.here hx rfl (hb hby at_448) ?_
          refine XS.goto X148.here hx rfl (pc0 := 449) (pc' := 453) rfl (hb hby at_449) (by decide) (by decide) ?_
          exact k
        · first | simp only [if_neg hm151] at k | skip
          refine XS.ifYes X148.here hx rfl (pc0 := 445) (pc' := 452) rfl (hb hby at_445) rfl ((if0 _ _).trans (feq hm151).2) (by decide) (by decide) ?_
          refine XS.iconst X148.here hx rfl (hb hby at_452) ?_
          exact k
      obtain ⟨cq153, kq153, q153a, q153b, q153c⟩ := isOf hZ rfl p148_0
      obtain ⟨_, _, ⟨T153, L153, k153, n153⟩, -, X153, ⟨Lc153, hQ153, l153, y153, z153⟩, st153⟩ := X148.virtualBack hx (y := M1) (z := M1) hown (mvT hZ (ow hw 46 rfl)) (mvT hZ (ow hw 47 rfl)) (notFace_of_selects (args := #[]) (mvT hZ (ow hw 49 rfl))) (mvT hZ (ow hw 49 rfl)) (mvT hZ (ow hw 48 rfl)) (by decide) (backOf (W := 0) (rmHeld l Z a0 hw [] wMAX_LOCK_DELAY wGRANTED wQUEUED wBUSY wZERO hS a11 a14 (2 : Int64) q6 T148.heap n0 O149 p148_3 p148_1f) hZ (ow hw 50 rfl) (ow hw 2 rfl) (by decide) (by decide)) q153a q153c (g := (mkF m 459 #[(vi p1), (vi p2), (vl q3), .second, (vl q4), .second, (vl q5), .second, (vl q6), .second, (vi p7), (vi 1), (vi 0), (vi p10), (vr a11), (vr wZERO), (vr a13), (vr a14), (vi 1), (vl 2), .second, (vi exp)] [(.long q6), (.ref a11)])) rfl (by rw [hml]; rfl) (Steps.refl _) (argsL := [(.long q6)]) (rest := []) (lenOf pd_3 rfl) rfl (by show 2 * 0 + _ ≤ _; exact Nat.le_of_eq rfl) (hb hby at_459) (fun _ _ => ⟨rfl, rfl, (by decide : 8 + 0 ≤ _), (by decide : 39 + 0 ≤ _)⟩)
      dsimp only [Pt.U, Pt.locs, Pt.cells, Pt.slots] at X153 l153 y153 z153 st153 hQ153
      subst l153 y153 z153
      obtain ⟨r_153, rfl, Nq153, K153q, p153_0⟩ := hQ153
      have N153 := Fr.app N148 Nq153
      obtain ⟨fs, hr, hrun, hended, hW, hsame⟩ := X153.leave (v := some (.int 1)) (fun h => by rw [hret0] at h; cases h)
      refine ⟨_, _, pre152 _ ?_, hrun, hended, _, _, rfl, ?_, ⟨_, rfl⟩, hW, hsame.mono (by decide) (by decide)⟩
      · skip
        show Steps p.tables e below (T148.setTop (mkF m 453 #[(vi p1), (vi p2), (vl q3), .second, (vl q4), .second, (vl q5), .second, (vl q6), .second, (vi p7), (vi 1), (vi 0), (vi p10), (vr a11), (vr wZERO), (vr a13), (vr a14), (vi 1), (vl 2), .second, .unset] [(.int exp)])) _
        refine XS.istore X148.here hx rfl (hb hby at_453) rfl (l' := #[(vi p1), (vi p2), (vl q3), .second, (vl q4), .second, (vl q5), .second, (vl q6), .second, (vi p7), (vi 1), (vi 0), (vi p10), (vr a11), (vr wZERO), (vr a13), (vr a14), (vi 1), (vl 2), .second, (vi exp)]) rfl ?_
        refine XS.aload X148.here hx rfl (hb hby at_455) rfl rfl ?_
        refine XS.lload X148.here hx rfl (hb hby at_457) rfl ?_
        refine st153.trans ?_
        refine XS.iload X153.here hx rfl (hb hby at_462) rfl ?_
        show Steps p.tables e below (T153.setTop (mkF m 464 #[(vi p1), (vi p2), (vl q3), .second, (vl q4), .second, (vl q5), .second, (vl q6), .second, (vi p7), (vi 1), (vi 0), (vi p10), (vr a11), (vr wZERO), (vr a13), (vr a14), (vi 1), (vl 2), .second, (vi exp)] [(.int exp), (.int r_153)])) _
        refine XS.icmpNo X153.here hx rfl (hb hby at_464) rfl (teq (p153_0.trans ((own_sym _ _).trans hexp.symm) : r_153 = exp)).2 ?_
        refine XS.iconst X153.here hx rfl (hb hby at_467) ?_
        refine XS.goto X153.here hx rfl (pc0 := 468) (pc' := 472) rfl (hb hby at_468) (by decide) (by decide) ?_
        exact retN X153 hx (t := .boolean) hret0 (by simp) (hb hby at_472) hr
      · skip
        exact ⟨rfl, N153⟩
theorem ef_au8_3 (m : MethodId) (x0 : Addr) (x1 : Addr) (x2 : Addr) (x3 : Int32)  : entryFrame m #[(.ref x0), (.ref x1), (.ref x2), (.int x3)] 5 = mkF m 0 #[(vr x0), (vr x1), (vr x2), (vi x3), .unset] [] := by first | (simp [entryFrame, mkF, argsToLocals, Value.category]; done) | rfl
theorem d8_11 : decode prog_84_method_3_code 11 = .ok (.getstatic 39, 3) := by decide +kernel
theorem d8_14 : decode prog_84_method_3_code 14 = .ok (.astore 4, 2) := by decide +kernel
theorem d8_16 : decode prog_84_method_3_code 16 = .ok (.goto 75, 3) := by decide +kernel
def Q_au8_3 (Z : State) (wMAX_LOCK_DELAY : Addr) (wGRANTED : Addr) (wQUEUED : Addr) (wBUSY : Addr) (wZERO : Addr) (a1 : Addr) (a2 : Addr) (a3 : Addr) (p4 : Int32) (q7 : Int64) (q8 : Int64) (h0 : Heap) (n0 : Nat) (v : Option Value) (h : Heap) (L : List Loc) : Prop := v = some (.ref wGRANTED) ∧ Fr n0 L ∧ h = h0
theorem au8_3 (l : Launch) (Z : State) (a0 : Array Value) (hw : ∀ d ∈ tables_1, d.before a0 Z = true) (ws : List Jvm.Cond) (wMAX_LOCK_DELAY : Addr) (wGRANTED : Addr) (wQUEUED : Addr) (wBUSY : Addr) (wZERO : Addr) (hS : SS Z wMAX_LOCK_DELAY wGRANTED wQUEUED wBUSY wZERO) (a1 : Addr) (a2 : Addr) (a3 : Addr) (p4 : Int32) (q7 : Int64) (q8 : Int64) (h0 : Heap) (n0 : Nat) (O0 : Old Z n0 h0) (P3 : Fld Z h0 a1 s4n "holder" s5n (.ref a2)) (P6 : Exa Z h0 a2 s3n) (P7 : Fld Z h0 a2 s3n "handle" "J" (.long q7)) (P8 : Fld Z h0 a2 s3n "session" "J" (.long q8)) :
    MetB l M8 prog_84_method_3_code 5 (some (.object s2n)) ws (rmk 1 0 0 14) Z h0 #[(.ref a1), (.ref a2), (.ref a3), (.int p4)] (Q_au8_3 Z wMAX_LOCK_DELAY wGRANTED wQUEUED wBUSY wZERO a1 a2 a3 p4 q7 q8 h0 n0) := by
  refine own_body (plainFor_of_name pn_com_example_umpired_umpired_server_NodeLock) ?_
  intro p e s m below meth c s₁ hx hby hml hown hnm hret0 hlk0 hZ X0 e0
  have N0 := Fr.nil n0
  have pre0 : ∀ t, Steps p.tables e below (s₁.setTop (mkF m 0 #[(vr a1), (vr a2), (vr a3), (vi p4), .unset] [])) t → Steps p.tables e below (s₁.setTop (entryFrame m #[(.ref a1), (.ref a2), (.ref a3), (.int p4)] 5)) t := fun t k => castTop (ef_au8_3 m a1 a2 a3 p4) k
  have hS0 := hS
  obtain ⟨S_wMAX_LOCK_DELAY, E_wMAX_LOCK_DELAY, S_wGRANTED, E_wGRANTED, S_wQUEUED, E_wQUEUED, S_wBUSY, E_wBUSY, F_seconds_wMAX_LOCK_DELAY, F_nanos_wMAX_LOCK_DELAY, S_wZERO, E_wZERO, F_seconds_wZERO, F_nanos_wZERO⟩ := hS0
  obtain ⟨T1, X1, e1, st1⟩ := getF X0 hx hZ hown (host := "") (Or.inl (ow hw 51 rfl)) Via.refl e0 P3 (g := (mkF m 2 #[(vr a1), (vr a2), (vr a3), (vi p4), .unset] [(.ref a1), (.ref a2)])) rfl rfl (hb hby d8_2)
  obtain ⟨cq2, kq2, q2a, q2b, q2c⟩ := isOf hZ e1 P6
  obtain ⟨_, _, ⟨T2, L2, k2, n2⟩, -, X2, ⟨Lc2, hQ2, l2, y2, z2⟩, st2⟩ := X1.virtualBack hx (y := M0) (z := M0) hown (mvT hZ (ow hw 63 rfl)) (mvT hZ (ow hw 64 rfl)) (notFace_of_selects (args := #[]) (mvT hZ (ow hw 66 rfl))) (mvT hZ (ow hw 66 rfl)) (mvT hZ (ow hw 65 rfl)) (by decide) (backOf (W := 0) (rmEqS l Z a0 hw [] wMAX_LOCK_DELAY wGRANTED wQUEUED wBUSY wZERO hS a2 q8 q7 h0 n0 O0 P6 P8 P7) hZ (ow hw 67 rfl) (ow hw 37 rfl) (by decide) (by decide)) q2a q2c (g := (mkF m 5 #[(vr a1), (vr a2), (vr a3), (vi p4), .unset] [(.ref a2), (.ref a2)])) rfl (by rw [hml]; rfl) (Steps.refl _) (argsL := [(.ref a2)]) (rest := []) (lenOf pd_4 rfl) rfl (by show 2 * 0 + _ ≤ _; exact Nat.le_of_eq rfl) (hb hby d8_5) (fun _ _ => ⟨rfl, e1, (by decide : 0 + 0 ≤ _), (by decide : 0 + 0 ≤ _)⟩)
  dsimp only [Pt.U, Pt.locs, Pt.cells, Pt.slots] at X2 l2 y2 z2 st2 hQ2
  subst l2 y2 z2
  obtain ⟨rfl, Nq2, K2q⟩ := hQ2
  have N2 := Fr.app N0 Nq2
  obtain ⟨T3, X3, e3, st3⟩ := getS2 X2 hx hZ hown (host := "") (Or.inl (ow hw 76 rfl)) Via.refl K2q (S_wGRANTED.ext O0.2) (g := (mkF m 11 #[(vr a1), (vr a2), (vr a3), (vi p4), .unset] [])) rfl (hb hby d8_11)
  obtain ⟨fs, hr, hrun, hended, hW, hsame⟩ := X3.leave (v := some (.ref wGRANTED)) (fun h => by rw [hret0] at h; cases h)
  refine ⟨_, _, pre0 _ ?_, hrun, hended, _, _, rfl, ?_, ⟨_, rfl⟩, hW, hsame.mono (by decide) (by decide)⟩
  · skip
    show Steps p.tables e below (s₁.setTop (mkF m 0 #[(vr a1), (vr a2), (vr a3), (vi p4), .unset] [])) _
    refine XS.aloadN X0.here hx rfl (hb hby d8_0) rfl rfl ?_
    refine XS.aloadN X0.here hx rfl (hb hby d8_1) rfl rfl ?_
    refine st1 _ ?_
    refine st2.trans ?_
    refine XS.ifNo X2.here hx rfl (hb hby d8_8) rfl ((if0 _ _).trans (feq (by decide : ¬ ((1 : Int32) = (0 : Int32)))).1) ?_
    show Steps p.tables e below (T2.setTop (mkF m 11 #[(vr a1), (vr a2), (vr a3), (vi p4), .unset] [])) _
    refine st3 _ ?_
    refine XS.astore X3.here hx rfl (hb hby d8_14) rfl rfl (l' := #[(vr a1), (vr a2), (vr a3), (vi p4), (vr wGRANTED)]) rfl ?_
    refine XS.goto X3.here hx rfl (pc0 := 16) (pc' := 91) rfl (hb hby d8_16) (by decide) (by decide) ?_
    refine XS.aload X3.here hx rfl (hb hby d8_91) rfl rfl ?_
    jvm_step X3.here [X3.here.top, hx, (hb hby d8_93), X3.method', hret0, Value.isRef, FieldType.isReference]
    first | (intro acts; rw [hr _ acts rfl rfl rfl]) | rw [hr _ _ rfl rfl rfl]
    exact Steps.refl _
  · show Q_au8_3 Z wMAX_LOCK_DELAY wGRANTED wQUEUED wBUSY wZERO a1 a2 a3 p4 q7 q8 h0 n0 _ T3.heap _
    rw [e3]
    exact ⟨rfl, N2, rfl⟩
theorem tl_tl_rm0_d_m7 {p : Program} {l : Launch} {e : Env} {s : State} {m : MethodId} {below : List Frame} {meth : Method} {c : Code} {T0 : State} {locs : List Loc} {Z : State} {a0 : Array Value} {h0 : Heap} {n0 : Nat} {margs : Array Value} (hw : ∀ d ∈ tables_1, d.before a0 Z = true) (wMAX_LOCK_DELAY : Addr) (wGRANTED : Addr) (wQUEUED : Addr) (wBUSY : Addr) (wZERO : Addr) (hS : SS Z wMAX_LOCK_DELAY wGRANTED wQUEUED wBUSY wZERO) (p1 : Int32) (p2 : Int32) (q3 : Int64) (q4 : Int64) (q5 : Int64) (q6 : Int64) (p7 : Int32) (p8 : Int32) (p9 : Int32) (p10 : Int32) (a11 : Addr) (a12 : Addr) (a13 : Addr) (a14 : Addr) (a15 : Addr)
    (X0 : Stand p l e room_1 s m margs below meth c T0 locs 5 29) (hx : p.tables.exec = Jvm.exec) (hZ : Z.Warmed39 s.vm) (hby : c.code = code) (hml : c.maxLocals = 22) (hown : s.vm.findClass s6n = some m.cls) (hnm : meth.name = "law") (hret0 : meth.sig.returnType = some .boolean) (hlk0 : meth.locks = false) (e0 : T0.heap = h0) (N0 : Fr n0 locs) (O0 : Old Z n0 h0) (P0 : Exa Z h0 a11 s4n) (P1 : Fld Z h0 a11 s4n "generation" "J" (.long 0)) (P2 : Fld Z h0 a11 s4n "heldBack" "Z" (.int 0)) (P3 : Fld Z h0 a11 s4n "holder" s5n .null) (P4 : Fld Z h0 a11 s4n s10n s0n (.ref wZERO)) (P5 : Fld Z h0 a11 s4n "waiters" s11n (.ref a15)) (P6 : Exa Z h0 a13 s3n) (P7 : Fld Z h0 a13 s3n "handle" "J" (.long q4)) (P8 : Fld Z h0 a13 s3n "session" "J" (.long q3)) (P25 : n0 ≤ a11) (P31 : a11 ≠ a13) :
    ∃ s₂ o, Steps p.tables e below (T0.setTop (mkF m 405 #[(vi p1), (vi p2), (vl q3), .second, (vl q4), .second, (vl q5), .second, (vl q6), .second, (vi p7), (vi p8), (vi p9), (vi p10), (vr a11), (vr a12), (vr a13), (vr a14), .unset, .unset, .unset, .unset] [])) s₂ ∧ s₂.status = .running ∧ Ended s₂ below o ∧ ∃ v L, o = .returned v ∧ (v = some (.int 1) ∧ Fr n0 L) ∧ FrameEnd s o s₂ L room_1.cells room_1.slots := by
  have pre0 : ∀ t, Steps p.tables e below (T0.setTop (mkF m 405 #[(vi p1), (vi p2), (vl q3), .second, (vl q4), .second, (vl q5), .second, (vl q6), .second, (vi p7), (vi p8), (vi p9), (vi p10), (vr a11), (vr a12), (vr a13), (vr a14), .unset, .unset, .unset, .unset] [])) t → Steps p.tables e below (T0.setTop (mkF m 405 #[(vi p1), (vi p2), (vl q3), .second, (vl q4), .second, (vl q5), .second, (vl q6), .second, (vi p7), (vi p8), (vi p9), (vi p10), (vr a11), (vr a12), (vr a13), (vr a14), .unset, .unset, .unset, .unset] [])) t := fun t k => k
  have hS0 := hS
  obtain ⟨S_wMAX_LOCK_DELAY, E_wMAX_LOCK_DELAY, S_wGRANTED, E_wGRANTED, S_wQUEUED, E_wQUEUED, S_wBUSY, E_wBUSY, F_seconds_wMAX_LOCK_DELAY, F_nanos_wMAX_LOCK_DELAY, S_wZERO, E_wZERO, F_seconds_wZERO, F_nanos_wZERO⟩ := hS0
  obtain ⟨cq1, kq1, q1a, q1b, q1c⟩ := isOf hZ e0 P0
  obtain ⟨_, _, ⟨T1, L1, k1, n1⟩, -, X1, ⟨Lc1, hQ1, l1, y1, z1⟩, st1⟩ := X0.virtualBack hx (y := M8) (z := M8) hown (mvT hZ (ow hw 58 rfl)) (mvT hZ (ow hw 59 rfl)) (notFace_of_selects (args := #[]) (mvT hZ (ow hw 61 rfl))) (mvT hZ (ow hw 61 rfl)) (mvT hZ (ow hw 60 rfl)) (by decide) (backOf (W := 0) (au8_0 l Z a0 hw [] wMAX_LOCK_DELAY wGRANTED wQUEUED wBUSY wZERO hS a11 a13 a12 p10 (0 : Int64) a15 h0 n0 O0 P0 P1 P2 P3 P4 P5 P6 P25) hZ (ow hw 62 rfl) (ow hw 2 rfl) (by decide) (by decide)) q1a q1c (g := (mkF m 413 #[(vi p1), (vi p2), (vl q3), .second, (vl q4), .second, (vl q5), .second, (vl q6), .second, (vi p7), (vi p8), (vi p9), (vi p10), (vr a11), (vr a12), (vr a13), (vr a14), .unset, .unset, .unset, .unset] [(.int p10), (.ref a12), (.ref a13), (.ref a11)])) rfl (by rw [hml]; rfl) (Steps.refl _) (argsL := [(.ref a13), (.ref a12), (.int p10)]) (rest := []) (lenOf pd_6 rfl) rfl (by show 2 * 0 + _ ≤ _; exact Nat.le_of_eq rfl) (hb hby at_413) (fun _ _ => ⟨rfl, e0, (by decide : 5 + 0 ≤ _), (by decide : 29 + 0 ≤ _)⟩)
  dsimp only [Pt.U, Pt.locs, Pt.cells, Pt.slots] at X1 l1 y1 z1 st1 hQ1
  subst l1 y1 z1
  obtain ⟨rfl, Nq1, K1q, p1_0, p1_1, p1_2, p1_3, p1_4, p1_5⟩ := hQ1
  have N1 := Fr.app N0 Nq1
  have O2 : Old Z n0 T1.heap := O0.keep K1q (allS P25 all0)
  have p1_1f : Fld Z T1.heap a11 s4n "generation" "J" (.long 1) := by have q := p1_1; rw [(by decide : ((0 : Int64) + (1 : Int64)) = (1 : Int64))] at q; exact q
  have f3 : Exa Z T1.heap a13 s3n := (P6.keep K1q)
  have f4 : Fld Z T1.heap a13 s3n "handle" "J" (.long q4) := (P7.keep K1q (ninS (Ne.symm P31) nin0))
  have f5 : Fld Z T1.heap a13 s3n "session" "J" (.long q3) := (P8.keep K1q (ninS (Ne.symm P31) nin0))
  obtain ⟨cq6, kq6, q6a, q6b, q6c⟩ := isOf hZ rfl p1_0
  obtain ⟨_, _, ⟨T6, L6, k6, n6⟩, -, X6, ⟨Lc6, hQ6, l6, y6, z6⟩, st6⟩ := X1.virtualBack hx (y := M8) (z := M8) hown (mvT hZ (ow hw 58 rfl)) (mvT hZ (ow hw 59 rfl)) (notFace_of_selects (args := #[]) (mvT hZ (ow hw 61 rfl))) (mvT hZ (ow hw 61 rfl)) (mvT hZ (ow hw 60 rfl)) (by decide) (backOf (W := 0) (au8_3 l Z a0 hw [] wMAX_LOCK_DELAY wGRANTED wQUEUED wBUSY wZERO hS a11 a13 a12 p10 q4 q3 T1.heap n0 O2 p1_3 f3 f4 f5) hZ (ow hw 62 rfl) (ow hw 2 rfl) (by decide) (by decide)) q6a q6c (g := (mkF m 425 #[(vi p1), (vi p2), (vl q3), .second, (vl q4), .second, (vl q5), .second, (vl q6), .second, (vi p7), (vi p8), (vi p9), (vi p10), (vr a11), (vr a12), (vr a13), (vr a14), .unset, .unset, .unset, .unset] [(.int p10), (.ref a12), (.ref a13), (.ref a11)])) rfl (by rw [hml]; rfl) (Steps.refl _) (argsL := [(.ref a13), (.ref a12), (.int p10)]) (rest := []) (lenOf pd_6 rfl) rfl (by show 2 * 0 + _ ≤ _; exact Nat.le_of_eq rfl) (hb hby at_425) (fun _ _ => ⟨rfl, rfl, (by decide : 5 + 0 ≤ _), (by decide : 29 + 0 ≤ _)⟩)
  dsimp only [Pt.U, Pt.locs, Pt.cells, Pt.slots] at X6 l6 y6 z6 st6 hQ6
  subst l6 y6 z6
  obtain ⟨rfl, Nq6, K6q⟩ := hQ6
  have N6 := Fr.app N1 Nq6
  have pre7 : ∀ t, Steps p.tables e below (T6.setTop (mkF m 445 #[(vi p1), (vi p2), (vl q3), .second, (vl q4), .second, (vl q5), .second, (vl q6), .second, (vi p7), (vi p8), (vi p9), (vi p10), (vr a11), (vr a12), (vr a13), (vr a14), (vi 1), (vl 1), .second, .unset] [(.int (lcmpW q6 (1 : Int64)))])) t → Steps p.tables e below (T0.setTop (mkF m 405 #[(vi p1), (vi p2), (vl q3), .second, (vl q4), .second, (vl q5), .second, (vl q6), .second, (vi p7), (vi p8), (vi p9), (vi p10), (vr a11), (vr a12), (vr a13), (vr a14), .unset, .unset, .unset, .unset] [])) t := by
    intro t k
    refine pre0 t ?_
    show Steps p.tables e below (T0.setTop (mkF m 405 #[(vi p1), (vi p2), (vl q3), .second, (vl q4), .second, (vl q5), .second, (vl q6), .second, (vi p7), (vi p8), (vi p9), (vi p10), (vr a11), (vr a12), (vr a13), (vr a14), .unset, .unset, .unset, .unset] [])) _
    refine XS.aload X0.here hx rfl (hb hby at_405) rfl rfl ?_
    refine XS.aload X0.here hx rfl (hb hby at_407) rfl rfl ?_
    refine XS.aload X0.here hx rfl (hb hby at_409) rfl rfl ?_
    refine XS.iload X0.here hx rfl (hb hby at_411) rfl ?_
    refine st1.trans ?_
    show Steps p.tables e below (T1.setTop (mkF m 416 #[(vi p1), (vi p2), (vl q3), .second, (vl q4), .second, (vl q5), .second, (vl q6), .second, (vi p7), (vi p8), (vi p9), (vi p10), (vr a11), (vr a12), (vr a13), (vr a14), .unset, .unset, .unset, .unset] [(.ref wGRANTED)])) _
    refine XS.pop X1.here hx rfl (hb hby at_416) rfl rfl ?_
    refine XS.aload X1.here hx rfl (hb hby at_417) rfl rfl ?_
    refine XS.aload X1.here hx rfl (hb hby at_419) rfl rfl ?_
    refine XS.aload X1.here hx rfl (hb hby at_421) rfl rfl ?_
    refine XS.iload X1.here hx rfl (hb hby at_423) rfl ?_
    show Steps p.tables e below (T1.setTop (mkF m 425 #[(vi p1), (vi p2), (vl q3), .second, (vl q4), .second, (vl q5), .second, (vl q6), .second, (vi p7), (vi p8), (vi p9), (vi p10), (vr a11), (vr a12), (vr a13), (vr a14), .unset, .unset, .unset, .unset] [(.int p10), (.ref a12), (.ref a13), (.ref a11)])) _
    refine st6.trans ?_
    refine XS.pop X6.here hx rfl (hb hby at_428) rfl rfl ?_
    refine XS.iconst X6.here hx rfl (hb hby at_429) ?_
    refine XS.istore X6.here hx rfl (hb hby at_430) rfl (l' := #[(vi p1), (vi p2), (vl q3), .second, (vl q4), .second, (vl q5), .second, (vl q6), .second, (vi p7), (vi p8), (vi p9), (vi p10), (vr a11), (vr a12), (vr a13), (vr a14), (vi 1), .unset, .unset, .unset]) rfl ?_
    refine XS.lconst X6.here hx rfl (hb hby at_432) ?_
    show Steps p.tables e below (T6.setTop (mkF m 433 #[(vi p1), (vi p2), (vl q3), .second, (vl q4), .second, (vl q5), .second, (vl q6), .second, (vi p7), (vi p8), (vi p9), (vi p10), (vr a11), (vr a12), (vr a13), (vr a14), (vi 1), .unset, .unset, .unset] [(.long 1)])) _
    refine XS.lstore X6.here hx rfl (hb hby at_433) rfl (l' := #[(vi p1), (vi p2), (vl q3), .second, (vl q4), .second, (vl q5), .second, (vl q6), .second, (vi p7), (vi p8), (vi p9), (vi p10), (vr a11), (vr a12), (vr a13), (vr a14), (vi 1), (vl 1), .second, .unset]) rfl ?_
    refine XS.iload X6.here hx rfl (hb hby at_435) rfl ?_
    refine XS.ifNo X6.here hx rfl (hb hby at_437) rfl ((if0 _ _).trans (feq (by decide : ¬ ((1 : Int32) = (0 : Int32)))).1) ?_
    refine XS.lload X6.here hx rfl (hb hby at_440) rfl ?_
    refine XS.lload X6.here hx rfl (hb hby at_442) rfl ?_
    show Steps p.tables e below (T6.setTop (mkF m 444 #[(vi p1), (vi p2), (vl q3), .second, (vl q4), .second, (vl q5), .second, (vl q6), .second, (vi p7), (vi p8), (vi p9), (vi p10), (vr a11), (vr a12), (vr a13), (vr a14), (vi 1), (vl 1), .second, .unset] [(.long 1), (.long q6)])) _
    refine XS.lcmp X6.here hx rfl (hb hby at_444) rfl ?_
    exact k
  obtain ⟨exp, hexp⟩ : ∃ z : Int32, z = (if (lcmpW q6 (1 : Int64)) = (0 : Int32) then (1 : Int32) else (0 : Int32)) := ⟨_, rfl⟩
  have pre9 : ∀ t, Steps p.tables e below (T6.setTop (mkF m 453 #[(vi p1), (vi p2), (vl q3), .second, (vl q4), .second, (vl q5), .second, (vl q6), .second, (vi p7), (vi p8), (vi p9), (vi p10), (vr a11), (vr a12), (vr a13), (vr a14), (vi 1), (vl 1), .second, .unset] [(.int exp)])) t → Steps p.tables e below (T0.setTop (mkF m 405 #[(vi p1), (vi p2), (vl q3), .second, (vl q4), .second, (vl q5), .second, (vl q6), .second, (vi p7), (vi p8), (vi p9), (vi p10), (vr a11), (vr a12), (vr a13), (vr a14), .unset, .unset, .unset, .unset] [])) t := by
    intro t k
    rw [hexp] at k
    refine pre7 t ?_
    show Steps p.tables e below (T6.setTop (mkF m 445 #[(vi p1), (vi p2), (vl q3), .second, (vl q4), .second, (vl q5), .second, (vl q6), .second, (vi p7), (vi p8), (vi p9), (vi p10), (vr a11), (vr a12), (vr a13), (vr a14), (vi 1), (vl 1), .second, .unset] [(.int (lcmpW q6 (1 : Int64)))])) _
    rcases Decidable.em ((lcmpW q6 (1 : Int64)) = (0 : Int32)) with hm8 | hm8
    · first | simp only [if_pos hm8] at k | skip
      refine XS.ifNo X6.here hx rfl (hb hby at_445) rfl ((if0 _ _).trans (teq hm8).2) ?_
      refine XS.iconst X6.here hx rfl (hb hby at_448) ?_
      refine XS.goto X6.here hx rfl (pc0 := 449) (pc' := 453) rfl (hb hby at_449) (by decide) (by decide) ?_
      exact k
    · first | simp only [if_neg hm8] at k | skip
      refine XS.ifYes X6.here hx rfl (pc0 := 445) (pc' := 452) rfl (hb hby at_445) rfl ((if0 _ _).trans (feq hm8).2) (by decide) (by decide) ?_
      refine XS.iconst X6.here hx rfl (hb hby at_452) ?_
      exact k
  obtain ⟨cq10, kq10, q10a, q10b, q10c⟩ := isOf hZ K6q p1_0
  obtain ⟨_, _, ⟨T10, L10, k10, n10⟩, -, X10, ⟨Lc10, hQ10, l10, y10, z10⟩, st10⟩ := X6.virtualBack hx (y := M1) (z := M1) hown (mvT hZ (ow hw 46 rfl)) (mvT hZ (ow hw 47 rfl)) (notFace_of_selects (args := #[]) (mvT hZ (ow hw 49 rfl))) (mvT hZ (ow hw 49 rfl)) (mvT hZ (ow hw 48 rfl)) (by decide) (backOf (W := 0) (rmHeld l Z a0 hw [] wMAX_LOCK_DELAY wGRANTED wQUEUED wBUSY wZERO hS a11 a13 (1 : Int64) q6 T1.heap n0 O2 p1_3 p1_1f) hZ (ow hw 50 rfl) (ow hw 2 rfl) (by decide) (by decide)) q10a q10c (g := (mkF m 459 #[(vi p1), (vi p2), (vl q3), .second, (vl q4), .second, (vl q5), .second, (vl q6), .second, (vi p7), (vi p8), (vi p9), (vi p10), (vr a11), (vr a12), (vr a13), (vr a14), (vi 1), (vl 1), .second, (vi exp)] [(.long q6), (.ref a11)])) rfl (by rw [hml]; rfl) (Steps.refl _) (argsL := [(.long q6)]) (rest := []) (lenOf pd_3 rfl) rfl (by show 2 * 0 + _ ≤ _; exact Nat.le_of_eq rfl) (hb hby at_459) (fun _ _ => ⟨rfl, K6q, (by decide : 5 + 0 ≤ _), (by decide : 29 + 0 ≤ _)⟩)
  dsimp only [Pt.U, Pt.locs, Pt.cells, Pt.slots] at X10 l10 y10 z10 st10 hQ10
  subst l10 y10 z10
  obtain ⟨r_10, rfl, Nq10, K10q, p10_0⟩ := hQ10
  have N10 := Fr.app N6 Nq10
  obtain ⟨fs, hr, hrun, hended, hW, hsame⟩ := X10.leave (v := some (.int 1)) (fun h => by rw [hret0] at h; cases h)
  refine ⟨_, _, pre9 _ ?_, hrun, hended, _, _, rfl, ?_, ⟨_, rfl⟩, hW, hsame.mono (by decide) (by decide)⟩
  · skip
    show Steps p.tables e below (T6.setTop (mkF m 453 #[(vi p1), (vi p2), (vl q3), .second, (vl q4), .second, (vl q5), .second, (vl q6), .second, (vi p7), (vi p8), (vi p9), (vi p10), (vr a11), (vr a12), (vr a13), (vr a14), (vi 1), (vl 1), .second, .unset] [(.int exp)])) _
    refine XS.istore X6.here hx rfl (hb hby at_453) rfl (l' := #[(vi p1), (vi p2), (vl q3), .second, (vl q4), .second, (vl q5), .second, (vl q6), .second, (vi p7), (vi p8), (vi p9), (vi p10), (vr a11), (vr a12), (vr a13), (vr a14), (vi 1), (vl 1), .second, (vi exp)]) rfl ?_
    refine XS.aload X6.here hx rfl (hb hby at_455) rfl rfl ?_
    refine XS.lload X6.here hx rfl (hb hby at_457) rfl ?_
    refine st10.trans ?_
    refine XS.iload X10.here hx rfl (hb hby at_462) rfl ?_
    show Steps p.tables e below (T10.setTop (mkF m 464 #[(vi p1), (vi p2), (vl q3), .second, (vl q4), .second, (vl q5), .second, (vl q6), .second, (vi p7), (vi p8), (vi p9), (vi p10), (vr a11), (vr a12), (vr a13), (vr a14), (vi 1), (vl 1), .second, (vi exp)] [(.int exp), (.int r_10)])) _
    refine XS.icmpNo X10.here hx rfl (hb hby at_464) rfl (teq (p10_0.trans ((own_sym _ _).trans hexp.symm) : r_10 = exp)).2 ?_
    refine XS.iconst X10.here hx rfl (hb hby at_467) ?_
    refine XS.goto X10.here hx rfl (pc0 := 468) (pc' := 472) rfl (hb hby at_468) (by decide) (by decide) ?_
    exact retN X10 hx (t := .boolean) hret0 (by simp) (hb hby at_472) hr
  · skip
    exact ⟨rfl, N10⟩
theorem tl_rm0_d {p : Program} {l : Launch} {e : Env} {s : State} {m : MethodId} {below : List Frame} {meth : Method} {c : Code} {T0 : State} {locs : List Loc} {Z : State} {a0 : Array Value} {h0 : Heap} {n0 : Nat} {margs : Array Value} (hw : ∀ d ∈ tables_1, d.before a0 Z = true) (wMAX_LOCK_DELAY : Addr) (wGRANTED : Addr) (wQUEUED : Addr) (wBUSY : Addr) (wZERO : Addr) (hS : SS Z wMAX_LOCK_DELAY wGRANTED wQUEUED wBUSY wZERO) (gv1 : Addr) (gv2 : Int32) (p3 : Int32) (p4 : Int32) (q5 : Int64) (q6 : Int64) (q7 : Int64) (q8 : Int64) (p9 : Int32) (p10 : Int32) (p11 : Int32) (a12 : Addr) (a13 : Addr) (a14 : Addr) (k15 : ClassId)
    (X0 : Stand p l e room_1 s m margs below meth c T0 locs 3 25) (hx : p.tables.exec = Jvm.exec) (hZ : Z.Warmed39 s.vm) (hby : c.code = code) (hml : c.maxLocals = 22) (hown : s.vm.findClass s6n = some m.cls) (hnm : meth.name = "law") (hret0 : meth.sig.returnType = some .boolean) (hlk0 : meth.locks = false) (e0 : T0.heap = h0) (N0 : Fr n0 locs) (O0 : Old Z n0 h0) (P0 : Exa Z h0 a12 s4n) (P1 : Fld Z h0 a12 s4n "generation" "J" (.long 0)) (P2 : Fld Z h0 a12 s4n "heldBack" "Z" (.int 0)) (P3 : Fld Z h0 a12 s4n "holder" s5n .null) (P4 : Fld Z h0 a12 s4n s10n s0n (.ref wZERO)) (P5 : Fld Z h0 a12 s4n "waiters" s11n (.ref a13)) (P6 : Exa Z h0 a13 s7n) (P7 : Fld Z h0 a13 s7n "elements" s8n (.ref a14)) (P8 : Fld Z h0 a13 s7n "head" "I" (.int 0)) (P9 : Fld Z h0 a13 s7n "tail" "I" (.int 0)) (P10 : Arv Z h0 a14 k15 (.object s9n) (17 : Int32) ([.null, .null, .null, .null, .null, .null, .null, .null, .null, .null, .null, .null, .null, .null, .null, .null, .null]) .null) (P11 : Ovr Z k15 s9n) (P12 : Exa Z h0 a14 s8n) (P15 : p10 = (0 : Int32) ∨ p10 = (1 : Int32)) (P16 : (gv1 = wMAX_LOCK_DELAY ∧ gv2 = (1 : Int32)) ∨ (gv1 = wZERO ∧ gv2 = (0 : Int32))) (P17 : n0 ≤ a12) (P18 : n0 ≤ a13) (P19 : n0 ≤ a14) (P20 : a12 ≠ a13) (P21 : a12 ≠ a14) (P22 : a13 ≠ a14) :
    ∃ s₂ o, Steps p.tables e below (T0.setTop (mkF m 72 #[(vi p3), (vi p4), (vl q5), .second, (vl q6), .second, (vl q7), .second, (vl q8), .second, (vi p9), (vi p10), (vi gv2), (vi p11), (vr a12), (vr gv1), .unset, .unset, .unset, .unset, .unset, .unset] [])) s₂ ∧ s₂.status = .running ∧ Ended s₂ below o ∧ ∃ v L, o = .returned v ∧ (v = some (.int 1) ∧ Fr n0 L) ∧ FrameEnd s o s₂ L room_1.cells room_1.slots := by
  have pre0 : ∀ t, Steps p.tables e below (T0.setTop (mkF m 72 #[(vi p3), (vi p4), (vl q5), .second, (vl q6), .second, (vl q7), .second, (vl q8), .second, (vi p9), (vi p10), (vi gv2), (vi p11), (vr a12), (vr gv1), .unset, .unset, .unset, .unset, .unset, .unset] [])) t → Steps p.tables e below (T0.setTop (mkF m 72 #[(vi p3), (vi p4), (vl q5), .second, (vl q6), .second, (vl q7), .second, (vl q8), .second, (vi p9), (vi p10), (vi gv2), (vi p11), (vr a12), (vr gv1), .unset, .unset, .unset, .unset, .unset, .unset] [])) t := fun t k => k
  have hS0 := hS
  obtain ⟨S_wMAX_LOCK_DELAY, E_wMAX_LOCK_DELAY, S_wGRANTED, E_wGRANTED, S_wQUEUED, E_wQUEUED, S_wBUSY, E_wBUSY, F_seconds_wMAX_LOCK_DELAY, F_nanos_wMAX_LOCK_DELAY, S_wZERO, E_wZERO, F_seconds_wZERO, F_nanos_wZERO⟩ := hS0
  obtain ⟨T1, h1, X1, e1, E1, A1, D1, -, st1⟩ := newO X0 hx hZ hown (ow hw 35 rfl) (ow hw 36 rfl) (ow hw 37 rfl) e0 (g := (mkF m 72 #[(vi p3), (vi p4), (vl q5), .second, (vl q6), .second, (vl q7), .second, (vl q8), .second, (vi p9), (vi p10), (vi gv2), (vi p11), (vr a12), (vr gv1), .unset, .unset, .unset, .unset, .unset, .unset] [])) rfl (hb hby at_72) (by decide) (by decide)
  obtain ⟨b1, g1⟩ : ∃ z, z = h0.size := ⟨_, rfl⟩
  rw [← g1] at A1 D1 st1
  have ne2 : a12 ≠ b1 := Nat.ne_of_lt (Nat.lt_of_lt_of_le P0.lt (Nat.le_of_eq g1.symm))
  have ne3 : a13 ≠ b1 := Nat.ne_of_lt (Nat.lt_of_lt_of_le P6.lt (Nat.le_of_eq g1.symm))
  have ne4 : a14 ≠ b1 := Nat.ne_of_lt (Nat.lt_of_lt_of_le P10.lt (Nat.le_of_eq g1.symm))
  have g5 : n0 ≤ b1 := Nat.le_trans (own_sz O0) (Nat.le_of_eq g1.symm)
  have O6 : Old Z n0 h1 := O0.ext E1
  have f7 : Fld Z h1 b1 s3n "session" "J" (.long 0) := D1 (Or.inr (ow hw 43 rfl)) (ty := .long) (by decide)
  have f8 : Fld Z h1 b1 s3n "handle" "J" (.long 0) := D1 (Or.inr (ow hw 45 rfl)) (ty := .long) (by decide)
  obtain ⟨_, _, ⟨T9, L9, k9, n9⟩, -, X9, ⟨Lc9, hQ9, l9, y9, z9⟩, st9⟩ := X1.specialBack hx (y := M6) rfl hown (mvT hZ (ow hw 38 rfl)) (mvT hZ (ow hw 39 rfl)) (mvT hZ (ow hw 40 rfl)) (by decide) (backOf (W := 1) (au5_0 l Z a0 hw [] wMAX_LOCK_DELAY wGRANTED wQUEUED wBUSY wZERO hS b1 q5 q6 h1 n0 O6 A1 f8 f7 g5) hZ (ow hw 40 rfl) (ow hw 37 rfl) (by decide) (by decide)) (g := (mkF m 79 #[(vi p3), (vi p4), (vl q5), .second, (vl q6), .second, (vl q7), .second, (vl q8), .second, (vi p9), (vi p10), (vi gv2), (vi p11), (vr a12), (vr gv1), .unset, .unset, .unset, .unset, .unset, .unset] [(.long q6), (.long q5), (.ref b1), (.ref b1)])) rfl (by rw [hml]; rfl) (Steps.refl _) (a := b1) (argsL := [(.long q5), (.long q6)]) (rest := [(.ref b1)]) (lenOf pd_2 rfl) rfl (by show 2 * 0 + _ ≤ _; exact Nat.le_of_eq rfl) (hb hby at_79) (fun _ _ => ⟨rfl, e1, (by decide : 4 + 0 ≤ _), (by decide : 27 + 0 ≤ _)⟩)
  dsimp only [Pt.U, Pt.locs, Pt.cells, Pt.slots] at X9 l9 y9 z9 st9 hQ9
  subst l9 y9 z9
  obtain ⟨rfl, Nq9, K9q, p9_0, p9_1, p9_2⟩ := hQ9
  have N9 := Fr.app N0 Nq9
  have O10 : Old Z n0 T9.heap := O6.keep K9q (allS g5 all0)
  obtain ⟨T11, h11, X11, e11, E11, A11, D11, -, st11⟩ := newO X9 hx hZ hown (ow hw 35 rfl) (ow hw 36 rfl) (ow hw 37 rfl) rfl (g := (mkF m 84 #[(vi p3), (vi p4), (vl q5), .second, (vl q6), .second, (vl q7), .second, (vl q8), .second, (vi p9), (vi p10), (vi gv2), (vi p11), (vr a12), (vr gv1), (vr b1), .unset, .unset, .unset, .unset, .unset] [])) rfl (hb hby at_84) (by decide) (by decide)
  obtain ⟨b11, g11⟩ : ∃ z, z = T9.heap.size := ⟨_, rfl⟩
  rw [← g11] at A11 D11 st11
  have f13 : Exa Z T9.heap a12 s4n := ((P0.ext E1).keep K9q)
  have ne12 : a12 ≠ b11 := Nat.ne_of_lt (Nat.lt_of_lt_of_le f13.lt (Nat.le_of_eq g11.symm))
  have f15 : Exa Z T9.heap a13 s7n := ((P6.ext E1).keep K9q)
  have ne14 : a13 ≠ b11 := Nat.ne_of_lt (Nat.lt_of_lt_of_le f15.lt (Nat.le_of_eq g11.symm))
  have f17 : Arv Z T9.heap a14 k15 (.object s9n) (17 : Int32) ([.null, .null, .null, .null, .null, .null, .null, .null, .null, .null, .null, .null, .null, .null, .null, .null, .null]) .null := ((P10.ext E1).keep K9q (ninS ne4 nin0))
  have ne16 : a14 ≠ b11 := Nat.ne_of_lt (Nat.lt_of_lt_of_le f17.lt (Nat.le_of_eq g11.symm))
  have ne18 : b1 ≠ b11 := Nat.ne_of_lt (Nat.lt_of_lt_of_le p9_0.lt (Nat.le_of_eq g11.symm))
  have g19 : n0 ≤ b11 := Nat.le_trans (own_sz O10) (Nat.le_of_eq g11.symm)
  have O20 : Old Z n0 h11 := O10.ext E11
  have f21 : Fld Z h11 b11 s3n "session" "J" (.long 0) := D11 (Or.inr (ow hw 43 rfl)) (ty := .long) (by decide)
  have f22 : Fld Z h11 b11 s3n "handle" "J" (.long 0) := D11 (Or.inr (ow hw 45 rfl)) (ty := .long) (by decide)
  obtain ⟨yb, hyb⟩ : ∃ z : Int64, z = (q5 ^^^ (1 : Int64)) := ⟨_, rfl⟩
  have pre23 : ∀ t, Steps p.tables e below (T11.setTop (mkF m 91 #[(vi p3), (vi p4), (vl q5), .second, (vl q6), .second, (vl q7), .second, (vl q8), .second, (vi p9), (vi p10), (vi gv2), (vi p11), (vr a12), (vr gv1), (vr b1), .unset, .unset, .unset, .unset, .unset] [(.long yb), (.ref b11), (.ref b11)])) t → Steps p.tables e below (T0.setTop (mkF m 72 #[(vi p3), (vi p4), (vl q5), .second, (vl q6), .second, (vl q7), .second, (vl q8), .second, (vi p9), (vi p10), (vi gv2), (vi p11), (vr a12), (vr gv1), .unset, .unset, .unset, .unset, .unset, .unset] [])) t := by
    intro t k
    rw [hyb] at k
    refine pre0 t ?_
    show Steps p.tables e below (T0.setTop (mkF m 72 #[(vi p3), (vi p4), (vl q5), .second, (vl q6), .second, (vl q7), .second, (vl q8), .second, (vi p9), (vi p10), (vi gv2), (vi p11), (vr a12), (vr gv1), .unset, .unset, .unset, .unset, .unset, .unset] [])) _
    refine st1 _ ?_
    refine XS.dup X1.here hx rfl (hb hby at_75) rfl rfl ?_
    refine XS.lloadN X1.here hx rfl (hb hby at_76) rfl ?_
    refine XS.lload X1.here hx rfl (hb hby at_77) rfl ?_
    refine st9.trans ?_
    show Steps p.tables e below (T9.setTop (mkF m 82 #[(vi p3), (vi p4), (vl q5), .second, (vl q6), .second, (vl q7), .second, (vl q8), .second, (vi p9), (vi p10), (vi gv2), (vi p11), (vr a12), (vr gv1), .unset, .unset, .unset, .unset, .unset, .unset] [(.ref b1)])) _
    refine XS.astore X9.here hx rfl (hb hby at_82) rfl rfl (l' := #[(vi p3), (vi p4), (vl q5), .second, (vl q6), .second, (vl q7), .second, (vl q8), .second, (vi p9), (vi p10), (vi gv2), (vi p11), (vr a12), (vr gv1), (vr b1), .unset, .unset, .unset, .unset, .unset]) rfl ?_
    refine st11 _ ?_
    refine XS.dup X11.here hx rfl (hb hby at_87) rfl rfl ?_
    refine XS.lloadN X11.here hx rfl (hb hby at_88) rfl ?_
    refine XS.lconst X11.here hx rfl (hb hby at_89) ?_
    show Steps p.tables e below (T11.setTop (mkF m 90 #[(vi p3), (vi p4), (vl q5), .second, (vl q6), .second, (vl q7), .second, (vl q8), .second, (vi p9), (vi p10), (vi gv2), (vi p11), (vr a12), (vr gv1), (vr b1), .unset, .unset, .unset, .unset, .unset] [(.long 1), (.long q5), (.ref b11), (.ref b11)])) _
    refine XS.lxor X11.here hx rfl (hb hby at_90) rfl ?_
    exact k
  have hnx : q5 ≠ yb := by rw [hyb]; exact own_xor1 q5
  have hnx' : yb ≠ q5 := Ne.symm hnx
  obtain ⟨_, _, ⟨T24, L24, k24, n24⟩, -, X24, ⟨Lc24, hQ24, l24, y24, z24⟩, st24⟩ := X11.specialBack hx (y := M6) rfl hown (mvT hZ (ow hw 38 rfl)) (mvT hZ (ow hw 39 rfl)) (mvT hZ (ow hw 40 rfl)) (by decide) (backOf (W := 1) (au5_0 l Z a0 hw [] wMAX_LOCK_DELAY wGRANTED wQUEUED wBUSY wZERO hS b11 yb q7 h11 n0 O20 A11 f22 f21 g19) hZ (ow hw 40 rfl) (ow hw 37 rfl) (by decide) (by decide)) (g := (mkF m 93 #[(vi p3), (vi p4), (vl q5), .second, (vl q6), .second, (vl q7), .second, (vl q8), .second, (vi p9), (vi p10), (vi gv2), (vi p11), (vr a12), (vr gv1), (vr b1), .unset, .unset, .unset, .unset, .unset] [(.long q7), (.long yb), (.ref b11), (.ref b11)])) rfl (by rw [hml]; rfl) (Steps.refl _) (a := b11) (argsL := [(.long yb), (.long q7)]) (rest := [(.ref b11)]) (lenOf pd_2 rfl) rfl (by show 2 * 0 + _ ≤ _; exact Nat.le_of_eq rfl) (hb hby at_93) (fun _ _ => ⟨rfl, e11, (by decide : 5 + 0 ≤ _), (by decide : 29 + 0 ≤ _)⟩)
  dsimp only [Pt.U, Pt.locs, Pt.cells, Pt.slots] at X24 l24 y24 z24 st24 hQ24
  subst l24 y24 z24
  obtain ⟨rfl, Nq24, K24q, p24_0, p24_1, p24_2⟩ := hQ24
  have N24 := Fr.app N9 Nq24
  have O25 : Old Z n0 T24.heap := O20.keep K24q (allS g19 all0)
  have pre26 : ∀ t, Steps p.tables e below (T24.setTop (mkF m 100 #[(vi p3), (vi p4), (vl q5), .second, (vl q6), .second, (vl q7), .second, (vl q8), .second, (vi p9), (vi p10), (vi gv2), (vi p11), (vr a12), (vr gv1), (vr b1), (vr b11), .unset, .unset, .unset, .unset] [(.int p9)])) t → Steps p.tables e below (T0.setTop (mkF m 72 #[(vi p3), (vi p4), (vl q5), .second, (vl q6), .second, (vl q7), .second, (vl q8), .second, (vi p9), (vi p10), (vi gv2), (vi p11), (vr a12), (vr gv1), .unset, .unset, .unset, .unset, .unset, .unset] [])) t := by
    intro t k
    refine pre23 t ?_
    show Steps p.tables e below (T11.setTop (mkF m 91 #[(vi p3), (vi p4), (vl q5), .second, (vl q6), .second, (vl q7), .second, (vl q8), .second, (vi p9), (vi p10), (vi gv2), (vi p11), (vr a12), (vr gv1), (vr b1), .unset, .unset, .unset, .unset, .unset] [(.long yb), (.ref b11), (.ref b11)])) _
    refine XS.lload X11.here hx rfl (hb hby at_91) rfl ?_
    refine st24.trans ?_
    refine XS.astore X24.here hx rfl (hb hby at_96) rfl rfl (l' := #[(vi p3), (vi p4), (vl q5), .second, (vl q6), .second, (vl q7), .second, (vl q8), .second, (vi p9), (vi p10), (vi gv2), (vi p11), (vr a12), (vr gv1), (vr b1), (vr b11), .unset, .unset, .unset, .unset]) rfl ?_
    refine XS.iload X24.here hx rfl (hb hby at_98) rfl ?_
    exact k
  rcases Decidable.em (p9 = (0 : Int32)) with hc27 | hc27
  · skip
    have pre28 : ∀ t, Steps p.tables e below (T24.setTop (mkF m 103 #[(vi p3), (vi p4), (vl q5), .second, (vl q6), .second, (vl q7), .second, (vl q8), .second, (vi p9), (vi p10), (vi gv2), (vi p11), (vr a12), (vr gv1), (vr b1), (vr b11), .unset, .unset, .unset, .unset] [])) t → Steps p.tables e below (T0.setTop (mkF m 72 #[(vi p3), (vi p4), (vl q5), .second, (vl q6), .second, (vl q7), .second, (vl q8), .second, (vi p9), (vi p10), (vi gv2), (vi p11), (vr a12), (vr gv1), .unset, .unset, .unset, .unset, .unset, .unset] [])) t := by
      intro t k
      refine pre26 t ?_
      refine XS.ifNo X24.here hx rfl (hb hby at_100) rfl ((if0 _ _).trans (teq hc27).2) ?_
      exact k
    have f29 : Exa Z T24.heap a12 s4n := ((f13.ext E11).keep K24q)
    have f30 : Fld Z T24.heap a12 s4n "holder" s5n .null := ((((P3.ext E1).keep K9q (ninS ne2 nin0)).ext E11).keep K24q (ninS ne12 nin0))
    obtain ⟨t9, o9, hs9, hr9⟩ := tl_tl_rm0_d_m0 hw wMAX_LOCK_DELAY wGRANTED wQUEUED wBUSY wZERO hS p3 p4 q5 q6 q7 q8 p9 p10 gv2 p11 a12 gv1 b1 b11 X24 hx hZ hby hml hown hnm hret0 hlk0 rfl N24 O25 f29 f30
    exact ⟨t9, o9, pre28 _ hs9, hr9⟩
  · skip
    have pre31 : ∀ t, Steps p.tables e below (T24.setTop (mkF m 115 #[(vi p3), (vi p4), (vl q5), .second, (vl q6), .second, (vl q7), .second, (vl q8), .second, (vi p9), (vi p10), (vi gv2), (vi p11), (vr a12), (vr gv1), (vr b1), (vr b11), .unset, .unset, .unset, .unset] [(.int 1), (.int p9)])) t → Steps p.tables e below (T0.setTop (mkF m 72 #[(vi p3), (vi p4), (vl q5), .second, (vl q6), .second, (vl q7), .second, (vl q8), .second, (vi p9), (vi p10), (vi gv2), (vi p11), (vr a12), (vr gv1), .unset, .unset, .unset, .unset, .unset, .unset] [])) t := by
      intro t k
      refine pre26 t ?_
      refine XS.ifYes X24.here hx rfl (pc0 := 100) (pc' := 112) rfl (hb hby at_100) rfl ((if0 _ _).trans (feq hc27).2) (by decide) (by decide) ?_
      show Steps p.tables e below (T24.setTop (mkF m 112 #[(vi p3), (vi p4), (vl q5), .second, (vl q6), .second, (vl q7), .second, (vl q8), .second, (vi p9), (vi p10), (vi gv2), (vi p11), (vr a12), (vr gv1), (vr b1), (vr b11), .unset, .unset, .unset, .unset] [])) _
      refine XS.iload X24.here hx rfl (hb hby at_112) rfl ?_
      refine XS.iconst X24.here hx rfl (hb hby at_114) ?_
      exact k
    rcases Decidable.em (p9 = (1 : Int32)) with hc32 | hc32
    · skip
      have pre33 : ∀ t, Steps p.tables e below (T24.setTop (mkF m 118 #[(vi p3), (vi p4), (vl q5), .second, (vl q6), .second, (vl q7), .second, (vl q8), .second, (vi p9), (vi p10), (vi gv2), (vi p11), (vr a12), (vr gv1), (vr b1), (vr b11), .unset, .unset, .unset, .unset] [])) t → Steps p.tables e below (T0.setTop (mkF m 72 #[(vi p3), (vi p4), (vl q5), .second, (vl q6), .second, (vl q7), .second, (vl q8), .second, (vi p9), (vi p10), (vi gv2), (vi p11), (vr a12), (vr gv1), .unset, .unset, .unset, .unset, .unset, .unset] [])) t := by
        intro t k
        refine pre31 t ?_
        refine XS.icmpNo X24.here hx rfl (hb hby at_115) rfl (teq hc32).2 ?_
        exact k
      have f34 : Exa Z T24.heap a12 s4n := ((f13.ext E11).keep K24q)
      have f35 : Fld Z T24.heap a12 s4n "generation" "J" (.long 0) := ((((P1.ext E1).keep K9q (ninS ne2 nin0)).ext E11).keep K24q (ninS ne12 nin0))
      have f36 : Fld Z T24.heap a12 s4n "heldBack" "Z" (.int 0) := ((((P2.ext E1).keep K9q (ninS ne2 nin0)).ext E11).keep K24q (ninS ne12 nin0))
      have f37 : Fld Z T24.heap a12 s4n "holder" s5n .null := ((((P3.ext E1).keep K9q (ninS ne2 nin0)).ext E11).keep K24q (ninS ne12 nin0))
      have f38 : Fld Z T24.heap a12 s4n s10n s0n (.ref wZERO) := ((((P4.ext E1).keep K9q (ninS ne2 nin0)).ext E11).keep K24q (ninS ne12 nin0))
      have f39 : Fld Z T24.heap a12 s4n "waiters" s11n (.ref a13) := ((((P5.ext E1).keep K9q (ninS ne2 nin0)).ext E11).keep K24q (ninS ne12 nin0))
      have f40 : Exa Z T24.heap b1 s3n := ((p9_0.ext E11).keep K24q)
      have f41 : Fld Z T24.heap b1 s3n "session" "J" (.long q5) := ((p9_2.ext E11).keep K24q (ninS ne18 nin0))
      obtain ⟨t9, o9, hs9, hr9⟩ := tl_tl_rm0_d_m1 hw wMAX_LOCK_DELAY wGRANTED wQUEUED wBUSY wZERO hS p3 p4 q5 q6 q7 q8 p9 p10 gv2 p11 a12 gv1 b1 b11 a13 yb X24 hx hZ hby hml hown hnm hret0 hlk0 rfl N24 O25 f34 f35 f36 f37 f38 f39 f40 f41 p24_0 p24_2 hnx' P17 ne2 ne12
      exact ⟨t9, o9, pre33 _ hs9, hr9⟩
    · skip
      have pre42 : ∀ t, Steps p.tables e below (T24.setTop (mkF m 153 #[(vi p3), (vi p4), (vl q5), .second, (vl q6), .second, (vl q7), .second, (vl q8), .second, (vi p9), (vi p10), (vi gv2), (vi p11), (vr a12), (vr gv1), (vr b1), (vr b11), .unset, .unset, .unset, .unset] [(.int 2), (.int p9)])) t → Steps p.tables e below (T0.setTop (mkF m 72 #[(vi p3), (vi p4), (vl q5), .second, (vl q6), .second, (vl q7), .second, (vl q8), .second, (vi p9), (vi p10), (vi gv2), (vi p11), (vr a12), (vr gv1), .unset, .unset, .unset, .unset, .unset, .unset] [])) t := by
        intro t k
        refine pre31 t ?_
        refine XS.icmpYes X24.here hx rfl (pc0 := 115) (pc' := 150) rfl (hb hby at_115) rfl (feq hc32).2 (by decide) (by decide) ?_
        refine XS.iload X24.here hx rfl (hb hby at_150) rfl ?_
        refine XS.iconst X24.here hx rfl (hb hby at_152) ?_
        show Steps p.tables e below (T24.setTop (mkF m 153 #[(vi p3), (vi p4), (vl q5), .second, (vl q6), .second, (vl q7), .second, (vl q8), .second, (vi p9), (vi p10), (vi gv2), (vi p11), (vr a12), (vr gv1), (vr b1), (vr b11), .unset, .unset, .unset, .unset] [(.int 2), (.int p9)])) _
        exact k
      rcases Decidable.em (p9 = (2 : Int32)) with hc43 | hc43
      · skip
        have pre44 : ∀ t, Steps p.tables e below (T24.setTop (mkF m 156 #[(vi p3), (vi p4), (vl q5), .second, (vl q6), .second, (vl q7), .second, (vl q8), .second, (vi p9), (vi p10), (vi gv2), (vi p11), (vr a12), (vr gv1), (vr b1), (vr b11), .unset, .unset, .unset, .unset] [])) t → Steps p.tables e below (T0.setTop (mkF m 72 #[(vi p3), (vi p4), (vl q5), .second, (vl q6), .second, (vl q7), .second, (vl q8), .second, (vi p9), (vi p10), (vi gv2), (vi p11), (vr a12), (vr gv1), .unset, .unset, .unset, .unset, .unset, .unset] [])) t := by
          intro t k
          refine pre42 t ?_
          refine XS.icmpNo X24.here hx rfl (hb hby at_153) rfl (teq hc43).2 ?_
          exact k
        have f45 : Exa Z T24.heap a12 s4n := ((f13.ext E11).keep K24q)
        have f46 : Fld Z T24.heap a12 s4n "generation" "J" (.long 0) := ((((P1.ext E1).keep K9q (ninS ne2 nin0)).ext E11).keep K24q (ninS ne12 nin0))
        have f47 : Fld Z T24.heap a12 s4n "heldBack" "Z" (.int 0) := ((((P2.ext E1).keep K9q (ninS ne2 nin0)).ext E11).keep K24q (ninS ne12 nin0))
        have f48 : Fld Z T24.heap a12 s4n "holder" s5n .null := ((((P3.ext E1).keep K9q (ninS ne2 nin0)).ext E11).keep K24q (ninS ne12 nin0))
        have f49 : Fld Z T24.heap a12 s4n s10n s0n (.ref wZERO) := ((((P4.ext E1).keep K9q (ninS ne2 nin0)).ext E11).keep K24q (ninS ne12 nin0))
        have f50 : Fld Z T24.heap a12 s4n "waiters" s11n (.ref a13) := ((((P5.ext E1).keep K9q (ninS ne2 nin0)).ext E11).keep K24q (ninS ne12 nin0))
        have f51 : Exa Z T24.heap b1 s3n := ((p9_0.ext E11).keep K24q)
        have f52 : Exa Z T24.heap a13 s7n := ((f15.ext E11).keep K24q)
        have f53 : Fld Z T24.heap a13 s7n "elements" s8n (.ref a14) := ((((P7.ext E1).keep K9q (ninS ne3 nin0)).ext E11).keep K24q (ninS ne14 nin0))
        have f54 : Fld Z T24.heap a13 s7n "head" "I" (.int 0) := ((((P8.ext E1).keep K9q (ninS ne3 nin0)).ext E11).keep K24q (ninS ne14 nin0))
        have f55 : Arv Z T24.heap a14 k15 (.object s9n) (17 : Int32) ([.null, .null, .null, .null, .null, .null, .null, .null, .null, .null, .null, .null, .null, .null, .null, .null, .null]) .null := ((f17.ext E11).keep K24q (ninS ne16 nin0))
        obtain ⟨t9, o9, hs9, hr9⟩ := tl_tl_rm0_d_m2 hw wMAX_LOCK_DELAY wGRANTED wQUEUED wBUSY wZERO hS p3 p4 q5 q6 q7 q8 p9 p10 gv2 p11 a12 gv1 b1 b11 a13 a14 k15 X24 hx hZ hby hml hown hnm hret0 hlk0 rfl N24 O25 f45 f46 f47 f48 f49 f50 f51 f52 f53 f54 f55 P17 P20 P21
        exact ⟨t9, o9, pre44 _ hs9, hr9⟩
      · skip
        have pre56 : ∀ t, Steps p.tables e below (T24.setTop (mkF m 186 #[(vi p3), (vi p4), (vl q5), .second, (vl q6), .second, (vl q7), .second, (vl q8), .second, (vi p9), (vi p10), (vi gv2), (vi p11), (vr a12), (vr gv1), (vr b1), (vr b11), .unset, .unset, .unset, .unset] [(.int 3), (.int p9)])) t → Steps p.tables e below (T0.setTop (mkF m 72 #[(vi p3), (vi p4), (vl q5), .second, (vl q6), .second, (vl q7), .second, (vl q8), .second, (vi p9), (vi p10), (vi gv2), (vi p11), (vr a12), (vr gv1), .unset, .unset, .unset, .unset, .unset, .unset] [])) t := by
          intro t k
          refine pre42 t ?_
          refine XS.icmpYes X24.here hx rfl (pc0 := 153) (pc' := 183) rfl (hb hby at_153) rfl (feq hc43).2 (by decide) (by decide) ?_
          refine XS.iload X24.here hx rfl (hb hby at_183) rfl ?_
          refine XS.iconst X24.here hx rfl (hb hby at_185) ?_
          exact k
        rcases Decidable.em (p9 = (3 : Int32)) with hc57 | hc57
        · skip
          have pre58 : ∀ t, Steps p.tables e below (T24.setTop (mkF m 189 #[(vi p3), (vi p4), (vl q5), .second, (vl q6), .second, (vl q7), .second, (vl q8), .second, (vi p9), (vi p10), (vi gv2), (vi p11), (vr a12), (vr gv1), (vr b1), (vr b11), .unset, .unset, .unset, .unset] [])) t → Steps p.tables e below (T0.setTop (mkF m 72 #[(vi p3), (vi p4), (vl q5), .second, (vl q6), .second, (vl q7), .second, (vl q8), .second, (vi p9), (vi p10), (vi gv2), (vi p11), (vr a12), (vr gv1), .unset, .unset, .unset, .unset, .unset, .unset] [])) t := by
            intro t k
            refine pre56 t ?_
            refine XS.icmpNo X24.here hx rfl (hb hby at_186) rfl (teq hc57).2 ?_
            exact k
          have f59 : Exa Z T24.heap a12 s4n := ((f13.ext E11).keep K24q)
          have f60 : Fld Z T24.heap a12 s4n "generation" "J" (.long 0) := ((((P1.ext E1).keep K9q (ninS ne2 nin0)).ext E11).keep K24q (ninS ne12 nin0))
          have f61 : Fld Z T24.heap a12 s4n "heldBack" "Z" (.int 0) := ((((P2.ext E1).keep K9q (ninS ne2 nin0)).ext E11).keep K24q (ninS ne12 nin0))
          have f62 : Fld Z T24.heap a12 s4n "holder" s5n .null := ((((P3.ext E1).keep K9q (ninS ne2 nin0)).ext E11).keep K24q (ninS ne12 nin0))
          have f63 : Fld Z T24.heap a12 s4n s10n s0n (.ref wZERO) := ((((P4.ext E1).keep K9q (ninS ne2 nin0)).ext E11).keep K24q (ninS ne12 nin0))
          have f64 : Fld Z T24.heap a12 s4n "waiters" s11n (.ref a13) := ((((P5.ext E1).keep K9q (ninS ne2 nin0)).ext E11).keep K24q (ninS ne12 nin0))
          have f65 : Exa Z T24.heap b1 s3n := ((p9_0.ext E11).keep K24q)
          have f66 : Fld Z T24.heap b1 s3n "session" "J" (.long q5) := ((p9_2.ext E11).keep K24q (ninS ne18 nin0))
          have f67 : Exa Z T24.heap a13 s7n := ((f15.ext E11).keep K24q)
          have f68 : Fld Z T24.heap a13 s7n "elements" s8n (.ref a14) := ((((P7.ext E1).keep K9q (ninS ne3 nin0)).ext E11).keep K24q (ninS ne14 nin0))
          have f69 : Fld Z T24.heap a13 s7n "head" "I" (.int 0) := ((((P8.ext E1).keep K9q (ninS ne3 nin0)).ext E11).keep K24q (ninS ne14 nin0))
          have f70 : Fld Z T24.heap a13 s7n "tail" "I" (.int 0) := ((((P9.ext E1).keep K9q (ninS ne3 nin0)).ext E11).keep K24q (ninS ne14 nin0))
          have f71 : Arv Z T24.heap a14 k15 (.object s9n) (17 : Int32) ([.null, .null, .null, .null, .null, .null, .null, .null, .null, .null, .null, .null, .null, .null, .null, .null, .null]) .null := ((f17.ext E11).keep K24q (ninS ne16 nin0))
          have f72 : Exa Z T24.heap a14 s8n := ((((P12.ext E1).keep K9q).ext E11).keep K24q)
          obtain ⟨t9, o9, hs9, hr9⟩ := tl_tl_rm0_d_m3 hw wMAX_LOCK_DELAY wGRANTED wQUEUED wBUSY wZERO hS p3 p4 q5 q6 q7 q8 p9 p10 gv2 p11 a12 gv1 b1 b11 a13 yb a14 k15 X24 hx hZ hby hml hown hnm hret0 hlk0 rfl N24 O25 f59 f60 f61 f62 f63 f64 f65 f66 p24_0 p24_2 f67 f68 f69 f70 f71 P11 f72 hnx' P17 P18 P19 ne2 ne12 P20 P21 P22
          exact ⟨t9, o9, pre58 _ hs9, hr9⟩
        · skip
          have pre73 : ∀ t, Steps p.tables e below (T24.setTop (mkF m 232 #[(vi p3), (vi p4), (vl q5), .second, (vl q6), .second, (vl q7), .second, (vl q8), .second, (vi p9), (vi p10), (vi gv2), (vi p11), (vr a12), (vr gv1), (vr b1), (vr b11), .unset, .unset, .unset, .unset] [(.int 4), (.int p9)])) t → Steps p.tables e below (T0.setTop (mkF m 72 #[(vi p3), (vi p4), (vl q5), .second, (vl q6), .second, (vl q7), .second, (vl q8), .second, (vi p9), (vi p10), (vi gv2), (vi p11), (vr a12), (vr gv1), .unset, .unset, .unset, .unset, .unset, .unset] [])) t := by
            intro t k
            refine pre56 t ?_
            refine XS.icmpYes X24.here hx rfl (pc0 := 186) (pc' := 229) rfl (hb hby at_186) rfl (feq hc57).2 (by decide) (by decide) ?_
            refine XS.iload X24.here hx rfl (hb hby at_229) rfl ?_
            show Steps p.tables e below (T24.setTop (mkF m 231 #[(vi p3), (vi p4), (vl q5), .second, (vl q6), .second, (vl q7), .second, (vl q8), .second, (vi p9), (vi p10), (vi gv2), (vi p11), (vr a12), (vr gv1), (vr b1), (vr b11), .unset, .unset, .unset, .unset] [(.int p9)])) _
            refine XS.iconst X24.here hx rfl (hb hby at_231) ?_
            exact k
          rcases Decidable.em (p9 = (4 : Int32)) with hc74 | hc74
          · skip
            have pre75 : ∀ t, Steps p.tables e below (T24.setTop (mkF m 235 #[(vi p3), (vi p4), (vl q5), .second, (vl q6), .second, (vl q7), .second, (vl q8), .second, (vi p9), (vi p10), (vi gv2), (vi p11), (vr a12), (vr gv1), (vr b1), (vr b11), .unset, .unset, .unset, .unset] [])) t → Steps p.tables e below (T0.setTop (mkF m 72 #[(vi p3), (vi p4), (vl q5), .second, (vl q6), .second, (vl q7), .second, (vl q8), .second, (vi p9), (vi p10), (vi gv2), (vi p11), (vr a12), (vr gv1), .unset, .unset, .unset, .unset, .unset, .unset] [])) t := by
              intro t k
              refine pre73 t ?_
              refine XS.icmpNo X24.here hx rfl (hb hby at_232) rfl (teq hc74).2 ?_
              exact k
            have f76 : Exa Z T24.heap a12 s4n := ((f13.ext E11).keep K24q)
            have f77 : Fld Z T24.heap a12 s4n "generation" "J" (.long 0) := ((((P1.ext E1).keep K9q (ninS ne2 nin0)).ext E11).keep K24q (ninS ne12 nin0))
            have f78 : Fld Z T24.heap a12 s4n "heldBack" "Z" (.int 0) := ((((P2.ext E1).keep K9q (ninS ne2 nin0)).ext E11).keep K24q (ninS ne12 nin0))
            have f79 : Fld Z T24.heap a12 s4n "holder" s5n .null := ((((P3.ext E1).keep K9q (ninS ne2 nin0)).ext E11).keep K24q (ninS ne12 nin0))
            have f80 : Fld Z T24.heap a12 s4n s10n s0n (.ref wZERO) := ((((P4.ext E1).keep K9q (ninS ne2 nin0)).ext E11).keep K24q (ninS ne12 nin0))
            have f81 : Fld Z T24.heap a12 s4n "waiters" s11n (.ref a13) := ((((P5.ext E1).keep K9q (ninS ne2 nin0)).ext E11).keep K24q (ninS ne12 nin0))
            have f82 : Exa Z T24.heap b1 s3n := ((p9_0.ext E11).keep K24q)
            have f83 : Fld Z T24.heap b1 s3n "session" "J" (.long q5) := ((p9_2.ext E11).keep K24q (ninS ne18 nin0))
            have f84 : Exa Z T24.heap a13 s7n := ((f15.ext E11).keep K24q)
            have f85 : Fld Z T24.heap a13 s7n "elements" s8n (.ref a14) := ((((P7.ext E1).keep K9q (ninS ne3 nin0)).ext E11).keep K24q (ninS ne14 nin0))
            have f86 : Fld Z T24.heap a13 s7n "head" "I" (.int 0) := ((((P8.ext E1).keep K9q (ninS ne3 nin0)).ext E11).keep K24q (ninS ne14 nin0))
            have f87 : Fld Z T24.heap a13 s7n "tail" "I" (.int 0) := ((((P9.ext E1).keep K9q (ninS ne3 nin0)).ext E11).keep K24q (ninS ne14 nin0))
            have f88 : Arv Z T24.heap a14 k15 (.object s9n) (17 : Int32) ([.null, .null, .null, .null, .null, .null, .null, .null, .null, .null, .null, .null, .null, .null, .null, .null, .null]) .null := ((f17.ext E11).keep K24q (ninS ne16 nin0))
            obtain ⟨t9, o9, hs9, hr9⟩ := tl_tl_rm0_d_m4 hw wMAX_LOCK_DELAY wGRANTED wQUEUED wBUSY wZERO hS p3 p4 q5 q6 q7 q8 p9 p10 gv2 p11 a12 gv1 b1 b11 a13 a14 k15 X24 hx hZ hby hml hown hnm hret0 hlk0 rfl N24 O25 f76 f77 f78 f79 f80 f81 f82 f83 f84 f85 f86 f87 f88 P15 P16 P17 ne2 P20 P21
            exact ⟨t9, o9, pre75 _ hs9, hr9⟩
          · skip
            have pre89 : ∀ t, Steps p.tables e below (T24.setTop (mkF m 268 #[(vi p3), (vi p4), (vl q5), .second, (vl q6), .second, (vl q7), .second, (vl q8), .second, (vi p9), (vi p10), (vi gv2), (vi p11), (vr a12), (vr gv1), (vr b1), (vr b11), .unset, .unset, .unset, .unset] [(.int 5), (.int p9)])) t → Steps p.tables e below (T0.setTop (mkF m 72 #[(vi p3), (vi p4), (vl q5), .second, (vl q6), .second, (vl q7), .second, (vl q8), .second, (vi p9), (vi p10), (vi gv2), (vi p11), (vr a12), (vr gv1), .unset, .unset, .unset, .unset, .unset, .unset] [])) t := by
              intro t k
              refine pre73 t ?_
              refine XS.icmpYes X24.here hx rfl (pc0 := 232) (pc' := 265) rfl (hb hby at_232) rfl (feq hc74).2 (by decide) (by decide) ?_
              refine XS.iload X24.here hx rfl (hb hby at_265) rfl ?_
              refine XS.iconst X24.here hx rfl (hb hby at_267) ?_
              exact k
            rcases Decidable.em (p9 = (5 : Int32)) with hc90 | hc90
            · skip
              have pre91 : ∀ t, Steps p.tables e below (T24.setTop (mkF m 271 #[(vi p3), (vi p4), (vl q5), .second, (vl q6), .second, (vl q7), .second, (vl q8), .second, (vi p9), (vi p10), (vi gv2), (vi p11), (vr a12), (vr gv1), (vr b1), (vr b11), .unset, .unset, .unset, .unset] [])) t → Steps p.tables e below (T0.setTop (mkF m 72 #[(vi p3), (vi p4), (vl q5), .second, (vl q6), .second, (vl q7), .second, (vl q8), .second, (vi p9), (vi p10), (vi gv2), (vi p11), (vr a12), (vr gv1), .unset, .unset, .unset, .unset, .unset, .unset] [])) t := by
                intro t k
                refine pre89 t ?_
                refine XS.icmpNo X24.here hx rfl (hb hby at_268) rfl (teq hc90).2 ?_
                exact k
              have f92 : Exa Z T24.heap a12 s4n := ((f13.ext E11).keep K24q)
              have f93 : Fld Z T24.heap a12 s4n "generation" "J" (.long 0) := ((((P1.ext E1).keep K9q (ninS ne2 nin0)).ext E11).keep K24q (ninS ne12 nin0))
              have f94 : Fld Z T24.heap a12 s4n "heldBack" "Z" (.int 0) := ((((P2.ext E1).keep K9q (ninS ne2 nin0)).ext E11).keep K24q (ninS ne12 nin0))
              have f95 : Fld Z T24.heap a12 s4n "holder" s5n .null := ((((P3.ext E1).keep K9q (ninS ne2 nin0)).ext E11).keep K24q (ninS ne12 nin0))
              have f96 : Fld Z T24.heap a12 s4n s10n s0n (.ref wZERO) := ((((P4.ext E1).keep K9q (ninS ne2 nin0)).ext E11).keep K24q (ninS ne12 nin0))
              have f97 : Fld Z T24.heap a12 s4n "waiters" s11n (.ref a13) := ((((P5.ext E1).keep K9q (ninS ne2 nin0)).ext E11).keep K24q (ninS ne12 nin0))
              have f98 : Exa Z T24.heap b1 s3n := ((p9_0.ext E11).keep K24q)
              have f99 : Fld Z T24.heap b1 s3n "session" "J" (.long q5) := ((p9_2.ext E11).keep K24q (ninS ne18 nin0))
              have f100 : Exa Z T24.heap a13 s7n := ((f15.ext E11).keep K24q)
              have f101 : Fld Z T24.heap a13 s7n "elements" s8n (.ref a14) := ((((P7.ext E1).keep K9q (ninS ne3 nin0)).ext E11).keep K24q (ninS ne14 nin0))
              have f102 : Fld Z T24.heap a13 s7n "head" "I" (.int 0) := ((((P8.ext E1).keep K9q (ninS ne3 nin0)).ext E11).keep K24q (ninS ne14 nin0))
              have f103 : Fld Z T24.heap a13 s7n "tail" "I" (.int 0) := ((((P9.ext E1).keep K9q (ninS ne3 nin0)).ext E11).keep K24q (ninS ne14 nin0))
              have f104 : Arv Z T24.heap a14 k15 (.object s9n) (17 : Int32) ([.null, .null, .null, .null, .null, .null, .null, .null, .null, .null, .null, .null, .null, .null, .null, .null, .null]) .null := ((f17.ext E11).keep K24q (ninS ne16 nin0))
              have f105 : Exa Z T24.heap a14 s8n := ((((P12.ext E1).keep K9q).ext E11).keep K24q)
              obtain ⟨t9, o9, hs9, hr9⟩ := tl_tl_rm0_d_m5 hw wMAX_LOCK_DELAY wGRANTED wQUEUED wBUSY wZERO hS p3 p4 q5 q6 q7 q8 p9 p10 gv2 p11 a12 gv1 b1 b11 a13 yb a14 k15 X24 hx hZ hby hml hown hnm hret0 hlk0 rfl N24 O25 f92 f93 f94 f95 f96 f97 f98 f99 p24_0 p24_2 f100 f101 f102 f103 f104 P11 f105 P15 hnx hnx' P17 P18 P19 ne2 ne12 P20 P21 (Ne.symm ne3) (Ne.symm ne4) (Ne.symm ne14) (Ne.symm ne16) P22
              exact ⟨t9, o9, pre91 _ hs9, hr9⟩
            · skip
              have pre106 : ∀ t, Steps p.tables e below (T24.setTop (mkF m 345 #[(vi p3), (vi p4), (vl q5), .second, (vl q6), .second, (vl q7), .second, (vl q8), .second, (vi p9), (vi p10), (vi gv2), (vi p11), (vr a12), (vr gv1), (vr b1), (vr b11), .unset, .unset, .unset, .unset] [(.int 6), (.int p9)])) t → Steps p.tables e below (T0.setTop (mkF m 72 #[(vi p3), (vi p4), (vl q5), .second, (vl q6), .second, (vl q7), .second, (vl q8), .second, (vi p9), (vi p10), (vi gv2), (vi p11), (vr a12), (vr gv1), .unset, .unset, .unset, .unset, .unset, .unset] [])) t := by
                intro t k
                refine pre89 t ?_
                refine XS.icmpYes X24.here hx rfl (pc0 := 268) (pc' := 341) rfl (hb hby at_268) rfl (feq hc90).2 (by decide) (by decide) ?_
                show Steps p.tables e below (T24.setTop (mkF m 341 #[(vi p3), (vi p4), (vl q5), .second, (vl q6), .second, (vl q7), .second, (vl q8), .second, (vi p9), (vi p10), (vi gv2), (vi p11), (vr a12), (vr gv1), (vr b1), (vr b11), .unset, .unset, .unset, .unset] [])) _
                refine XS.iload X24.here hx rfl (hb hby at_341) rfl ?_
                refine XS.bipush X24.here hx rfl (hb hby at_343) ?_
                exact k
              rcases Decidable.em (p9 = (6 : Int32)) with hc107 | hc107
              · skip
                have pre108 : ∀ t, Steps p.tables e below (T24.setTop (mkF m 348 #[(vi p3), (vi p4), (vl q5), .second, (vl q6), .second, (vl q7), .second, (vl q8), .second, (vi p9), (vi p10), (vi gv2), (vi p11), (vr a12), (vr gv1), (vr b1), (vr b11), .unset, .unset, .unset, .unset] [])) t → Steps p.tables e below (T0.setTop (mkF m 72 #[(vi p3), (vi p4), (vl q5), .second, (vl q6), .second, (vl q7), .second, (vl q8), .second, (vi p9), (vi p10), (vi gv2), (vi p11), (vr a12), (vr gv1), .unset, .unset, .unset, .unset, .unset, .unset] [])) t := by
                  intro t k
                  refine pre106 t ?_
                  refine XS.icmpNo X24.here hx rfl (hb hby at_345) rfl (teq hc107).2 ?_
                  exact k
                have f109 : Exa Z T24.heap a12 s4n := ((f13.ext E11).keep K24q)
                have f110 : Fld Z T24.heap a12 s4n "generation" "J" (.long 0) := ((((P1.ext E1).keep K9q (ninS ne2 nin0)).ext E11).keep K24q (ninS ne12 nin0))
                have f111 : Fld Z T24.heap a12 s4n "heldBack" "Z" (.int 0) := ((((P2.ext E1).keep K9q (ninS ne2 nin0)).ext E11).keep K24q (ninS ne12 nin0))
                have f112 : Fld Z T24.heap a12 s4n "holder" s5n .null := ((((P3.ext E1).keep K9q (ninS ne2 nin0)).ext E11).keep K24q (ninS ne12 nin0))
                have f113 : Fld Z T24.heap a12 s4n s10n s0n (.ref wZERO) := ((((P4.ext E1).keep K9q (ninS ne2 nin0)).ext E11).keep K24q (ninS ne12 nin0))
                have f114 : Fld Z T24.heap a12 s4n "waiters" s11n (.ref a13) := ((((P5.ext E1).keep K9q (ninS ne2 nin0)).ext E11).keep K24q (ninS ne12 nin0))
                have f115 : Exa Z T24.heap b1 s3n := ((p9_0.ext E11).keep K24q)
                have f116 : Fld Z T24.heap b1 s3n "session" "J" (.long q5) := ((p9_2.ext E11).keep K24q (ninS ne18 nin0))
                have f117 : Exa Z T24.heap a13 s7n := ((f15.ext E11).keep K24q)
                have f118 : Fld Z T24.heap a13 s7n "elements" s8n (.ref a14) := ((((P7.ext E1).keep K9q (ninS ne3 nin0)).ext E11).keep K24q (ninS ne14 nin0))
                have f119 : Fld Z T24.heap a13 s7n "head" "I" (.int 0) := ((((P8.ext E1).keep K9q (ninS ne3 nin0)).ext E11).keep K24q (ninS ne14 nin0))
                have f120 : Fld Z T24.heap a13 s7n "tail" "I" (.int 0) := ((((P9.ext E1).keep K9q (ninS ne3 nin0)).ext E11).keep K24q (ninS ne14 nin0))
                have f121 : Arv Z T24.heap a14 k15 (.object s9n) (17 : Int32) ([.null, .null, .null, .null, .null, .null, .null, .null, .null, .null, .null, .null, .null, .null, .null, .null, .null]) .null := ((f17.ext E11).keep K24q (ninS ne16 nin0))
                have f122 : Exa Z T24.heap a14 s8n := ((((P12.ext E1).keep K9q).ext E11).keep K24q)
                obtain ⟨t9, o9, hs9, hr9⟩ := tl_tl_rm0_d_m6 hw wMAX_LOCK_DELAY wGRANTED wQUEUED wBUSY wZERO hS p3 p4 q5 q6 q7 q8 p9 p10 gv2 p11 a12 gv1 b1 b11 a13 yb a14 k15 X24 hx hZ hby hml hown hnm hret0 hlk0 rfl N24 O25 f109 f110 f111 f112 f113 f114 f115 f116 p24_0 p24_2 f117 f118 f119 f120 f121 P11 f122 P15 P16 hnx hnx' P17 P18 P19 ne2 ne12 P20 P21 (Ne.symm ne3) (Ne.symm ne4) (Ne.symm ne14) (Ne.symm ne16) P22
                exact ⟨t9, o9, pre108 _ hs9, hr9⟩
              · skip
                have pre123 : ∀ t, Steps p.tables e below (T24.setTop (mkF m 405 #[(vi p3), (vi p4), (vl q5), .second, (vl q6), .second, (vl q7), .second, (vl q8), .second, (vi p9), (vi p10), (vi gv2), (vi p11), (vr a12), (vr gv1), (vr b1), (vr b11), .unset, .unset, .unset, .unset] [])) t → Steps p.tables e below (T0.setTop (mkF m 72 #[(vi p3), (vi p4), (vl q5), .second, (vl q6), .second, (vl q7), .second, (vl q8), .second, (vi p9), (vi p10), (vi gv2), (vi p11), (vr a12), (vr gv1), .unset, .unset, .unset, .unset, .unset, .unset] [])) t := by
                  intro t k
                  refine pre106 t ?_
                  refine XS.icmpYes X24.here hx rfl (pc0 := 345) (pc' := 405) rfl (hb hby at_345) rfl (feq hc107).2 (by decide) (by decide) ?_
                  exact k
                have f124 : Exa Z T24.heap a12 s4n := ((f13.ext E11).keep K24q)
                have f125 : Fld Z T24.heap a12 s4n "generation" "J" (.long 0) := ((((P1.ext E1).keep K9q (ninS ne2 nin0)).ext E11).keep K24q (ninS ne12 nin0))
                have f126 : Fld Z T24.heap a12 s4n "heldBack" "Z" (.int 0) := ((((P2.ext E1).keep K9q (ninS ne2 nin0)).ext E11).keep K24q (ninS ne12 nin0))
                have f127 : Fld Z T24.heap a12 s4n "holder" s5n .null := ((((P3.ext E1).keep K9q (ninS ne2 nin0)).ext E11).keep K24q (ninS ne12 nin0))
                have f128 : Fld Z T24.heap a12 s4n s10n s0n (.ref wZERO) := ((((P4.ext E1).keep K9q (ninS ne2 nin0)).ext E11).keep K24q (ninS ne12 nin0))
                have f129 : Fld Z T24.heap a12 s4n "waiters" s11n (.ref a13) := ((((P5.ext E1).keep K9q (ninS ne2 nin0)).ext E11).keep K24q (ninS ne12 nin0))
                have f130 : Exa Z T24.heap b1 s3n := ((p9_0.ext E11).keep K24q)
                have f131 : Fld Z T24.heap b1 s3n "handle" "J" (.long q6) := ((p9_1.ext E11).keep K24q (ninS ne18 nin0))
                have f132 : Fld Z T24.heap b1 s3n "session" "J" (.long q5) := ((p9_2.ext E11).keep K24q (ninS ne18 nin0))
                obtain ⟨t9, o9, hs9, hr9⟩ := tl_tl_rm0_d_m7 hw wMAX_LOCK_DELAY wGRANTED wQUEUED wBUSY wZERO hS p3 p4 q5 q6 q7 q8 p9 p10 gv2 p11 a12 gv1 b1 b11 a13 X24 hx hZ hby hml hown hnm hret0 hlk0 rfl N24 O25 f124 f125 f126 f127 f128 f129 f130 f131 f132 P17 ne2
                exact ⟨t9, o9, pre123 _ hs9, hr9⟩
def Q_rm0 (Z : State) (wMAX_LOCK_DELAY : Addr) (wGRANTED : Addr) (wQUEUED : Addr) (wBUSY : Addr) (wZERO : Addr) (p0 : Int32) (p1 : Int32) (q2 : Int64) (q3 : Int64) (q4 : Int64) (q5 : Int64) (h0 : Heap) (n0 : Nat) (v : Option Value) (h : Heap) (L : List Loc) : Prop := v = some (.int 1) ∧ Fr n0 L
theorem rm0 (l : Launch) (Z : State) (a0 : Array Value) (hw : ∀ d ∈ tables_1, d.before a0 Z = true) (ws : List Jvm.Cond) (wMAX_LOCK_DELAY : Addr) (wGRANTED : Addr) (wQUEUED : Addr) (wBUSY : Addr) (wZERO : Addr) (hS : SS Z wMAX_LOCK_DELAY wGRANTED wQUEUED wBUSY wZERO) (p0 : Int32) (p1 : Int32) (q2 : Int64) (q3 : Int64) (q4 : Int64) (q5 : Int64) (h0 : Heap) (n0 : Nat) (O0 : Old Z n0 h0)  :
    MetB l x code maxLocals ret ws room_1 Z h0 #[(.int p0), (.int p1), (.long q2), (.long q3), (.long q4), (.long q5)] (Q_rm0 Z wMAX_LOCK_DELAY wGRANTED wQUEUED wBUSY wZERO p0 p1 q2 q3 q4 q5 h0 n0) := by
  refine own_body (plainFor_of_name pn_com_example_umpired_umpired_server_NodeLockIsHeldAtPinLaw) ?_
  intro p e s m below meth c s₁ hx hby hml hown hnm hret0 hlk0 hZ X0 e0
  have N0 := Fr.nil n0
  have pre0 : ∀ t, Steps p.tables e below (s₁.setTop (mkF m 0 #[(vi p0), (vi p1), (vl q2), .second, (vl q3), .second, (vl q4), .second, (vl q5), .second, .unset, .unset, .unset, .unset, .unset, .unset, .unset, .unset, .unset, .unset, .unset, .unset] [])) t → Steps p.tables e below (s₁.setTop (entryFrame m #[(.int p0), (.int p1), (.long q2), (.long q3), (.long q4), (.long q5)] maxLocals)) t := fun t k => castTop (ef_rm0 m p0 p1 q2 q3 q4 q5) k
  have hS0 := hS
  obtain ⟨S_wMAX_LOCK_DELAY, E_wMAX_LOCK_DELAY, S_wGRANTED, E_wGRANTED, S_wQUEUED, E_wQUEUED, S_wBUSY, E_wBUSY, F_seconds_wMAX_LOCK_DELAY, F_nanos_wMAX_LOCK_DELAY, S_wZERO, E_wZERO, F_seconds_wZERO, F_nanos_wZERO⟩ := hS0
  obtain ⟨ym, hym⟩ : ∃ z : Int32, z = (p0 &&& (7 : Int32)) := ⟨_, rfl⟩
  have pre1 : ∀ t, Steps p.tables e below (s₁.setTop (mkF m 6 #[(vi p0), (vi p1), (vl q2), .second, (vl q3), .second, (vl q4), .second, (vl q5), .second, (vi ym), .unset, .unset, .unset, .unset, .unset, .unset, .unset, .unset, .unset, .unset, .unset] [])) t → Steps p.tables e below (s₁.setTop (entryFrame m #[(.int p0), (.int p1), (.long q2), (.long q3), (.long q4), (.long q5)] maxLocals)) t := by
    intro t k
    rw [hym] at k
    refine pre0 t ?_
    show Steps p.tables e below (s₁.setTop (mkF m 0 #[(vi p0), (vi p1), (vl q2), .second, (vl q3), .second, (vl q4), .second, (vl q5), .second, .unset, .unset, .unset, .unset, .unset, .unset, .unset, .unset, .unset, .unset, .unset, .unset] [])) _
    refine XS.iloadN X0.here hx rfl (hb hby at_0) rfl ?_
    refine XS.bipush X0.here hx rfl (hb hby at_1) ?_
    refine XS.iand X0.here hx rfl (hb hby at_3) rfl ?_
    refine XS.istore X0.here hx rfl (hb hby at_4) rfl (l' := #[(vi p0), (vi p1), (vl q2), .second, (vl q3), .second, (vl q4), .second, (vl q5), .second, .val (.int (p0 &&& (7 : Int32))), .unset, .unset, .unset, .unset, .unset, .unset, .unset, .unset, .unset, .unset, .unset]) rfl ?_
    exact k
  have pre2 : ∀ t, Steps p.tables e below (s₁.setTop (mkF m 9 #[(vi p0), (vi p1), (vl q2), .second, (vl q3), .second, (vl q4), .second, (vl q5), .second, (vi ym), .unset, .unset, .unset, .unset, .unset, .unset, .unset, .unset, .unset, .unset, .unset] [(.int (p1 &&& (1 : Int32)))])) t → Steps p.tables e below (s₁.setTop (entryFrame m #[(.int p0), (.int p1), (.long q2), (.long q3), (.long q4), (.long q5)] maxLocals)) t := by
    intro t k
    refine pre1 t ?_
    show Steps p.tables e below (s₁.setTop (mkF m 6 #[(vi p0), (vi p1), (vl q2), .second, (vl q3), .second, (vl q4), .second, (vl q5), .second, (vi ym), .unset, .unset, .unset, .unset, .unset, .unset, .unset, .unset, .unset, .unset, .unset] [])) _
    refine XS.iloadN X0.here hx rfl (hb hby at_6) rfl ?_
    refine XS.iconst X0.here hx rfl (hb hby at_7) ?_
    refine XS.iand X0.here hx rfl (hb hby at_8) rfl ?_
    exact k
  obtain ⟨ye, hye⟩ : ∃ z : Int32, z = (if (p1 &&& (1 : Int32)) = (0 : Int32) then (0 : Int32) else (1 : Int32)) := ⟨_, rfl⟩
  have pre4 : ∀ t, Steps p.tables e below (s₁.setTop (mkF m 17 #[(vi p0), (vi p1), (vl q2), .second, (vl q3), .second, (vl q4), .second, (vl q5), .second, (vi ym), .unset, .unset, .unset, .unset, .unset, .unset, .unset, .unset, .unset, .unset, .unset] [(.int ye)])) t → Steps p.tables e below (s₁.setTop (entryFrame m #[(.int p0), (.int p1), (.long q2), (.long q3), (.long q4), (.long q5)] maxLocals)) t := by
    intro t k
    rw [hye] at k
    refine pre2 t ?_
    show Steps p.tables e below (s₁.setTop (mkF m 9 #[(vi p0), (vi p1), (vl q2), .second, (vl q3), .second, (vl q4), .second, (vl q5), .second, (vi ym), .unset, .unset, .unset, .unset, .unset, .unset, .unset, .unset, .unset, .unset, .unset] [(.int (p1 &&& (1 : Int32)))])) _
    rcases Decidable.em ((p1 &&& (1 : Int32)) = (0 : Int32)) with hm3 | hm3
    · first | simp only [if_pos hm3] at k | skip
      refine XS.ifYes X0.here hx rfl (pc0 := 9) (pc' := 16) rfl (hb hby at_9) rfl ((if0 _ _).trans (teq hm3).1) (by decide) (by decide) ?_
      refine XS.iconst X0.here hx rfl (hb hby at_16) ?_
      exact k
    · first | simp only [if_neg hm3] at k | skip
      refine XS.ifNo X0.here hx rfl (hb hby at_9) rfl ((if0 _ _).trans (feq hm3).1) ?_
      refine XS.iconst X0.here hx rfl (hb hby at_12) ?_
      refine XS.goto X0.here hx rfl (pc0 := 13) (pc' := 17) rfl (hb hby at_13) (by decide) (by decide) ?_
      exact k
  have pre5 : ∀ t, Steps p.tables e below (s₁.setTop (mkF m 22 #[(vi p0), (vi p1), (vl q2), .second, (vl q3), .second, (vl q4), .second, (vl q5), .second, (vi ym), (vi ye), .unset, .unset, .unset, .unset, .unset, .unset, .unset, .unset, .unset, .unset] [(.int (p1 &&& (2 : Int32)))])) t → Steps p.tables e below (s₁.setTop (entryFrame m #[(.int p0), (.int p1), (.long q2), (.long q3), (.long q4), (.long q5)] maxLocals)) t := by
    intro t k
    refine pre4 t ?_
    show Steps p.tables e below (s₁.setTop (mkF m 17 #[(vi p0), (vi p1), (vl q2), .second, (vl q3), .second, (vl q4), .second, (vl q5), .second, (vi ym), .unset, .unset, .unset, .unset, .unset, .unset, .unset, .unset, .unset, .unset, .unset] [(.int ye)])) _
    refine XS.istore X0.here hx rfl (hb hby at_17) rfl (l' := #[(vi p0), (vi p1), (vl q2), .second, (vl q3), .second, (vl q4), .second, (vl q5), .second, (vi ym), (vi ye), .unset, .unset, .unset, .unset, .unset, .unset, .unset, .unset, .unset, .unset]) rfl ?_
    refine XS.iloadN X0.here hx rfl (hb hby at_19) rfl ?_
    refine XS.iconst X0.here hx rfl (hb hby at_20) ?_
    refine XS.iand X0.here hx rfl (hb hby at_21) rfl ?_
    exact k
  obtain ⟨yl, hyl⟩ : ∃ z : Int32, z = (if (p1 &&& (2 : Int32)) = (0 : Int32) then (0 : Int32) else (1 : Int32)) := ⟨_, rfl⟩
  have pre7 : ∀ t, Steps p.tables e below (s₁.setTop (mkF m 30 #[(vi p0), (vi p1), (vl q2), .second, (vl q3), .second, (vl q4), .second, (vl q5), .second, (vi ym), (vi ye), .unset, .unset, .unset, .unset, .unset, .unset, .unset, .unset, .unset, .unset] [(.int yl)])) t → Steps p.tables e below (s₁.setTop (entryFrame m #[(.int p0), (.int p1), (.long q2), (.long q3), (.long q4), (.long q5)] maxLocals)) t := by
    intro t k
    rw [hyl] at k
    refine pre5 t ?_
    show Steps p.tables e below (s₁.setTop (mkF m 22 #[(vi p0), (vi p1), (vl q2), .second, (vl q3), .second, (vl q4), .second, (vl q5), .second, (vi ym), (vi ye), .unset, .unset, .unset, .unset, .unset, .unset, .unset, .unset, .unset, .unset] [(.int (p1 &&& (2 : Int32)))])) _
    rcases Decidable.em ((p1 &&& (2 : Int32)) = (0 : Int32)) with hm6 | hm6
    · first | simp only [if_pos hm6] at k | skip
      refine XS.ifYes X0.here hx rfl (pc0 := 22) (pc' := 29) rfl (hb hby at_22) rfl ((if0 _ _).trans (teq hm6).1) (by decide) (by decide) ?_
      refine XS.iconst X0.here hx rfl (hb hby at_29) ?_
      exact k
    · first | simp only [if_neg hm6] at k | skip
      refine XS.ifNo X0.here hx rfl (hb hby at_22) rfl ((if0 _ _).trans (feq hm6).1) ?_
      refine XS.iconst X0.here hx rfl (hb hby at_25) ?_
      refine XS.goto X0.here hx rfl (pc0 := 26) (pc' := 30) rfl (hb hby at_26) (by decide) (by decide) ?_
      exact k
  have pre8 : ∀ t, Steps p.tables e below (s₁.setTop (mkF m 35 #[(vi p0), (vi p1), (vl q2), .second, (vl q3), .second, (vl q4), .second, (vl q5), .second, (vi ym), (vi ye), (vi yl), .unset, .unset, .unset, .unset, .unset, .unset, .unset, .unset, .unset] [(.int (p1 &&& (4 : Int32)))])) t → Steps p.tables e below (s₁.setTop (entryFrame m #[(.int p0), (.int p1), (.long q2), (.long q3), (.long q4), (.long q5)] maxLocals)) t := by
    intro t k
    refine pre7 t ?_
    show Steps p.tables e below (s₁.setTop (mkF m 30 #[(vi p0), (vi p1), (vl q2), .second, (vl q3), .second, (vl q4), .second, (vl q5), .second, (vi ym), (vi ye), .unset, .unset, .unset, .unset, .unset, .unset, .unset, .unset, .unset, .unset] [(.int yl)])) _
    refine XS.istore X0.here hx rfl (hb hby at_30) rfl (l' := #[(vi p0), (vi p1), (vl q2), .second, (vl q3), .second, (vl q4), .second, (vl q5), .second, (vi ym), (vi ye), (vi yl), .unset, .unset, .unset, .unset, .unset, .unset, .unset, .unset, .unset]) rfl ?_
    refine XS.iloadN X0.here hx rfl (hb hby at_32) rfl ?_
    refine XS.iconst X0.here hx rfl (hb hby at_33) ?_
    refine XS.iand X0.here hx rfl (hb hby at_34) rfl ?_
    exact k
  obtain ⟨yw, hyw⟩ : ∃ z : Int32, z = (if (p1 &&& (4 : Int32)) = (0 : Int32) then (0 : Int32) else (1 : Int32)) := ⟨_, rfl⟩
  have pre10 : ∀ t, Steps p.tables e below (s₁.setTop (mkF m 43 #[(vi p0), (vi p1), (vl q2), .second, (vl q3), .second, (vl q4), .second, (vl q5), .second, (vi ym), (vi ye), (vi yl), .unset, .unset, .unset, .unset, .unset, .unset, .unset, .unset, .unset] [(.int yw)])) t → Steps p.tables e below (s₁.setTop (entryFrame m #[(.int p0), (.int p1), (.long q2), (.long q3), (.long q4), (.long q5)] maxLocals)) t := by
    intro t k
    rw [hyw] at k
    refine pre8 t ?_
    show Steps p.tables e below (s₁.setTop (mkF m 35 #[(vi p0), (vi p1), (vl q2), .second, (vl q3), .second, (vl q4), .second, (vl q5), .second, (vi ym), (vi ye), (vi yl), .unset, .unset, .unset, .unset, .unset, .unset, .unset, .unset, .unset] [(.int (p1 &&& (4 : Int32)))])) _
    rcases Decidable.em ((p1 &&& (4 : Int32)) = (0 : Int32)) with hm9 | hm9
    · first | simp only [if_pos hm9] at k | skip
      refine XS.ifYes X0.here hx rfl (pc0 := 35) (pc' := 42) rfl (hb hby at_35) rfl ((if0 _ _).trans (teq hm9).1) (by decide) (by decide) ?_
      refine XS.iconst X0.here hx rfl (hb hby at_42) ?_
      exact k
    · first | simp only [if_neg hm9] at k | skip
      refine XS.ifNo X0.here hx rfl (hb hby at_35) rfl ((if0 _ _).trans (feq hm9).1) ?_
      refine XS.iconst X0.here hx rfl (hb hby at_38) ?_
      refine XS.goto X0.here hx rfl (pc0 := 39) (pc' := 43) rfl (hb hby at_39) (by decide) (by decide) ?_
      exact k
  obtain ⟨T11, h11, X11, e11, E11, A11, D11, -, st11⟩ := newO X0 hx hZ hown (ow hw 0 rfl) (ow hw 1 rfl) (ow hw 2 rfl) e0 (g := (mkF m 45 #[(vi p0), (vi p1), (vl q2), .second, (vl q3), .second, (vl q4), .second, (vl q5), .second, (vi ym), (vi ye), (vi yl), (vi yw), .unset, .unset, .unset, .unset, .unset, .unset, .unset, .unset] [])) rfl (hb hby at_45) (by decide) (by decide)
  obtain ⟨b11, g11⟩ : ∃ z, z = h0.size := ⟨_, rfl⟩
  rw [← g11] at A11 D11 st11
  have g12 : n0 ≤ b11 := Nat.le_trans (own_sz O0) (Nat.le_of_eq g11.symm)
  have O13 : Old Z n0 h11 := O0.ext E11
  have f14 : Fld Z h11 b11 s4n "waiters" s11n .null := D11 (Or.inr (ow hw 27 rfl)) (ty := (.object s12n)) (by decide)
  have f15 : Fld Z h11 b11 s4n s10n s0n .null := D11 (Or.inl (ow hw 31 rfl)) (ty := (.object s1n)) (by decide)
  have f16 : Fld Z h11 b11 s4n "holder" s5n .null := D11 (Or.inl (ow hw 52 rfl)) (ty := (.object s3n)) (by decide)
  have f17 : Fld Z h11 b11 s4n "heldBack" "Z" (.int 0) := D11 (Or.inl (ow hw 69 rfl)) (ty := .boolean) (by decide)
  have f18 : Fld Z h11 b11 s4n "generation" "J" (.long 0) := D11 (Or.inl (ow hw 75 rfl)) (ty := .long) (by decide)
  obtain ⟨_, _, ⟨T19, L19, k19, n19⟩, -, X19, ⟨Lc19, hQ19, l19, y19, z19⟩, st19⟩ := X11.specialBack hx (y := M4) rfl hown (mvT hZ (ow hw 3 rfl)) (mvT hZ (ow hw 4 rfl)) (mvT hZ (ow hw 5 rfl)) (by decide) (backOf (W := 1) (au1_0 l Z a0 hw [] wMAX_LOCK_DELAY wGRANTED wQUEUED wBUSY wZERO hS b11 (0 : Int64) h11 n0 O13 A11 f18 f17 f16 f15 f14 g12) hZ (ow hw 5 rfl) (ow hw 2 rfl) (by decide) (by decide)) (g := (mkF m 49 #[(vi p0), (vi p1), (vl q2), .second, (vl q3), .second, (vl q4), .second, (vl q5), .second, (vi ym), (vi ye), (vi yl), (vi yw), .unset, .unset, .unset, .unset, .unset, .unset, .unset, .unset] [(.ref b11), (.ref b11)])) rfl (by rw [hml]; rfl) (Steps.refl _) (a := b11) (argsL := []) (rest := [(.ref b11)]) (lenOf pd_0 rfl) rfl (by show 2 * 0 + _ ≤ _; exact Nat.le_of_eq rfl) (hb hby at_49) (fun _ _ => ⟨rfl, e11, (by decide : 1 + 2 ≤ _), (by decide : 5 + 20 ≤ _)⟩)
  dsimp only [Pt.U, Pt.locs, Pt.cells, Pt.slots] at X19 l19 y19 z19 st19 hQ19
  subst l19 y19 z19
  obtain ⟨e1_19, e2_19, e3_19, rfl, Nq19, K19q, p19_0, p19_1, p19_2, p19_3, p19_4, p19_5, p19_6, p19_7, p19_8, p19_9, p19_10, p19_11, p19_12, p19_13, p19_14⟩ := hQ19
  have N19 := Fr.app N0 Nq19
  have ne20 : b11 ≠ e1_19 := Nat.ne_of_lt (Nat.lt_of_lt_of_le A11.lt p19_6)
  have g21 : n0 ≤ e1_19 := Nat.le_trans (own_sz O13) p19_6
  have ne22 : b11 ≠ e2_19 := Nat.ne_of_lt (Nat.lt_of_lt_of_le A11.lt p19_11)
  have g23 : n0 ≤ e2_19 := Nat.le_trans (own_sz O13) p19_11
  have O24 : Old Z n0 T19.heap := O13.keep K19q (allS g12 all0)
  have hye01 := own_b01 hye
  have pre25 : ∀ t, Steps p.tables e below (T19.setTop (mkF m 54 #[(vi p0), (vi p1), (vl q2), .second, (vl q3), .second, (vl q4), .second, (vl q5), .second, (vi ym), (vi ye), (vi yl), (vi yw), (vr b11), .unset, .unset, .unset, .unset, .unset, .unset, .unset] [])) t → Steps p.tables e below (s₁.setTop (entryFrame m #[(.int p0), (.int p1), (.long q2), (.long q3), (.long q4), (.long q5)] maxLocals)) t := by
    intro t k
    refine pre10 t ?_
    show Steps p.tables e below (s₁.setTop (mkF m 43 #[(vi p0), (vi p1), (vl q2), .second, (vl q3), .second, (vl q4), .second, (vl q5), .second, (vi ym), (vi ye), (vi yl), .unset, .unset, .unset, .unset, .unset, .unset, .unset, .unset, .unset] [(.int yw)])) _
    refine XS.istore X0.here hx rfl (hb hby at_43) rfl (l' := #[(vi p0), (vi p1), (vl q2), .second, (vl q3), .second, (vl q4), .second, (vl q5), .second, (vi ym), (vi ye), (vi yl), (vi yw), .unset, .unset, .unset, .unset, .unset, .unset, .unset, .unset]) rfl ?_
    refine st11 _ ?_
    refine XS.dup X11.here hx rfl (hb hby at_48) rfl rfl ?_
    refine st19.trans ?_
    refine XS.astore X19.here hx rfl (hb hby at_52) rfl rfl (l' := #[(vi p0), (vi p1), (vl q2), .second, (vl q3), .second, (vl q4), .second, (vl q5), .second, (vi ym), (vi ye), (vi yl), (vi yw), (vr b11), .unset, .unset, .unset, .unset, .unset, .unset, .unset]) rfl ?_
    exact k
  rcases (id (own_b01 hyl)) with hk26 | hk26
  · skip
    have pre27 : ∀ t, Steps p.tables e below (T19.setTop (mkF m 54 #[(vi p0), (vi p1), (vl q2), .second, (vl q3), .second, (vl q4), .second, (vl q5), .second, (vi ym), (vi ye), (vi 0), (vi yw), (vr b11), .unset, .unset, .unset, .unset, .unset, .unset, .unset] [])) t → Steps p.tables e below (s₁.setTop (entryFrame m #[(.int p0), (.int p1), (.long q2), (.long q3), (.long q4), (.long q5)] maxLocals)) t := by
      intro t k
      refine pre25 t ?_
      rw [hk26]
      exact k
    obtain ⟨cq28, kq28, q28a, q28b, q28c⟩ := isOf hZ rfl p19_0
    obtain ⟨_, _, ⟨T28, L28, k28, n28⟩, -, X28, ⟨Lc28, hQ28, l28, y28, z28⟩, st28⟩ := X19.virtualBack hx (y := M5) (z := M5) hown (mvT hZ (ow hw 53 rfl)) (mvT hZ (ow hw 54 rfl)) (notFace_of_selects (args := #[]) (mvT hZ (ow hw 56 rfl))) (mvT hZ (ow hw 56 rfl)) (mvT hZ (ow hw 55 rfl)) (by decide) (backOf (W := 0) (au7_0 l Z a0 hw [] wMAX_LOCK_DELAY wGRANTED wQUEUED wBUSY wZERO hS b11 T19.heap n0 O24 p19_4) hZ (ow hw 57 rfl) (ow hw 2 rfl) (by decide) (by decide)) q28a q28c (g := (mkF m 67 #[(vi p0), (vi p1), (vl q2), .second, (vl q3), .second, (vl q4), .second, (vl q5), .second, (vi ym), (vi ye), (vi 0), (vi yw), (vr b11), .unset, .unset, .unset, .unset, .unset, .unset, .unset] [(.ref b11)])) rfl (by rw [hml]; rfl) (Steps.refl _) (argsL := []) (rest := []) (lenOf pd_1 rfl) rfl (by show 2 * 0 + _ ≤ _; exact Nat.le_of_eq rfl) (hb hby at_67) (fun _ _ => ⟨rfl, rfl, (by decide : 3 + 0 ≤ _), (by decide : 25 + 0 ≤ _)⟩)
    dsimp only [Pt.U, Pt.locs, Pt.cells, Pt.slots] at X28 l28 y28 z28 st28 hQ28
    subst l28 y28 z28
    obtain ⟨rfl, Nq28, K28q⟩ := hQ28
    have N28 := Fr.app N19 Nq28
    have pre29 : ∀ t, Steps p.tables e below (T28.setTop (mkF m 72 #[(vi p0), (vi p1), (vl q2), .second, (vl q3), .second, (vl q4), .second, (vl q5), .second, (vi ym), (vi ye), (vi 0), (vi yw), (vr b11), (vr wZERO), .unset, .unset, .unset, .unset, .unset, .unset] [])) t → Steps p.tables e below (s₁.setTop (entryFrame m #[(.int p0), (.int p1), (.long q2), (.long q3), (.long q4), (.long q5)] maxLocals)) t := by
      intro t k
      refine pre27 t ?_
      show Steps p.tables e below (T19.setTop (mkF m 54 #[(vi p0), (vi p1), (vl q2), .second, (vl q3), .second, (vl q4), .second, (vl q5), .second, (vi ym), (vi ye), (vi 0), (vi yw), (vr b11), .unset, .unset, .unset, .unset, .unset, .unset, .unset] [])) _
      refine XS.iload X19.here hx rfl (hb hby at_54) rfl ?_
      refine XS.ifYes X19.here hx rfl (pc0 := 56) (pc' := 65) rfl (hb hby at_56) rfl ((if0 _ _).trans (teq (by decide : (0 : Int32) = (0 : Int32))).1) (by decide) (by decide) ?_
      refine XS.aload X19.here hx rfl (hb hby at_65) rfl rfl ?_
      refine st28.trans ?_
      refine XS.astore X28.here hx rfl (hb hby at_70) rfl rfl (l' := #[(vi p0), (vi p1), (vl q2), .second, (vl q3), .second, (vl q4), .second, (vl q5), .second, (vi ym), (vi ye), (vi 0), (vi yw), (vr b11), (vr wZERO), .unset, .unset, .unset, .unset, .unset, .unset]) rfl ?_
      exact k
    have ne30 : e1_19 ≠ e2_19 := ne_exa p19_7 p19_12 (by decide)
    obtain ⟨t9, o9, hs9, hr9⟩ := tl_rm0_d hw wMAX_LOCK_DELAY wGRANTED wQUEUED wBUSY wZERO hS wZERO (0 : Int32) p0 p1 q2 q3 q4 q5 ym ye yw b11 e1_19 e2_19 e3_19 X28 hx hZ hby hml hown hnm hret0 hlk0 K28q N28 O24 p19_0 p19_1 p19_2 p19_3 p19_4 p19_5 p19_7 p19_8 p19_9 p19_10 p19_13 p19_14 p19_12 hye01 (Or.inr ⟨rfl, rfl⟩) g12 g21 g23 ne20 ne22 ne30
    exact ⟨t9, o9, pre29 _ hs9, hr9⟩
  · skip
    have pre31 : ∀ t, Steps p.tables e below (T19.setTop (mkF m 54 #[(vi p0), (vi p1), (vl q2), .second, (vl q3), .second, (vl q4), .second, (vl q5), .second, (vi ym), (vi ye), (vi 1), (vi yw), (vr b11), .unset, .unset, .unset, .unset, .unset, .unset, .unset] [])) t → Steps p.tables e below (s₁.setTop (entryFrame m #[(.int p0), (.int p1), (.long q2), (.long q3), (.long q4), (.long q5)] maxLocals)) t := by
      intro t k
      refine pre25 t ?_
      rw [hk26]
      exact k
    obtain ⟨T32, X32, e32, st32⟩ := getS2 X19 hx hZ hown (host := "") (Or.inl (ow hw 32 rfl)) Via.refl rfl (S_wMAX_LOCK_DELAY.ext O24.2) (g := (mkF m 59 #[(vi p0), (vi p1), (vl q2), .second, (vl q3), .second, (vl q4), .second, (vl q5), .second, (vi ym), (vi ye), (vi 1), (vi yw), (vr b11), .unset, .unset, .unset, .unset, .unset, .unset, .unset] [])) rfl (hb hby at_59)
    have pre33 : ∀ t, Steps p.tables e below (T32.setTop (mkF m 72 #[(vi p0), (vi p1), (vl q2), .second, (vl q3), .second, (vl q4), .second, (vl q5), .second, (vi ym), (vi ye), (vi 1), (vi yw), (vr b11), (vr wMAX_LOCK_DELAY), .unset, .unset, .unset, .unset, .unset, .unset] [])) t → Steps p.tables e below (s₁.setTop (entryFrame m #[(.int p0), (.int p1), (.long q2), (.long q3), (.long q4), (.long q5)] maxLocals)) t := by
      intro t k
      refine pre31 t ?_
      show Steps p.tables e below (T19.setTop (mkF m 54 #[(vi p0), (vi p1), (vl q2), .second, (vl q3), .second, (vl q4), .second, (vl q5), .second, (vi ym), (vi ye), (vi 1), (vi yw), (vr b11), .unset, .unset, .unset, .unset, .unset, .unset, .unset] [])) _
      refine XS.iload X19.here hx rfl (hb hby at_54) rfl ?_
      refine XS.ifNo X19.here hx rfl (hb hby at_56) rfl ((if0 _ _).trans (feq (by decide : ¬ ((1 : Int32) = (0 : Int32)))).1) ?_
      refine st32 _ ?_
      refine XS.goto X32.here hx rfl (pc0 := 62) (pc' := 70) rfl (hb hby at_62) (by decide) (by decide) ?_
      refine XS.astore X32.here hx rfl (hb hby at_70) rfl rfl (l' := #[(vi p0), (vi p1), (vl q2), .second, (vl q3), .second, (vl q4), .second, (vl q5), .second, (vi ym), (vi ye), (vi 1), (vi yw), (vr b11), (vr wMAX_LOCK_DELAY), .unset, .unset, .unset, .unset, .unset, .unset]) rfl ?_
      exact k
    have ne34 : e1_19 ≠ e2_19 := ne_exa p19_7 p19_12 (by decide)
    obtain ⟨t9, o9, hs9, hr9⟩ := tl_rm0_d hw wMAX_LOCK_DELAY wGRANTED wQUEUED wBUSY wZERO hS wMAX_LOCK_DELAY (1 : Int32) p0 p1 q2 q3 q4 q5 ym ye yw b11 e1_19 e2_19 e3_19 X32 hx hZ hby hml hown hnm hret0 hlk0 e32 N19 O24 p19_0 p19_1 p19_2 p19_3 p19_4 p19_5 p19_7 p19_8 p19_9 p19_10 p19_13 p19_14 p19_12 hye01 (Or.inl ⟨rfl, rfl⟩) g12 g21 g23 ne20 ne22 ne34
    exact ⟨t9, o9, pre33 _ hs9, hr9⟩
theorem comes_1 {Post : Tables → Env → Array Value → State → Outcome → State → Prop} (hpost : ∀ tb e args s v u, (limb_1_1.after args s (.returned v) u = true ∧ limb_1_2.after args s (.returned v) u = true ∧ True) → FrameEnd s (.returned v) u (Jvm.fieldLocs frame_1_writes args s ++ Jvm.arrayLocs frame_1_arrays args s ++ Jvm.staticLocs frame_1_statics s) 24 192 → Post tb e args s (.returned v) u) :
    ArmFor flags0 classFile x code maxLocals ret World_1 tables_1 room_1 Calls_1 rest_1 Pre_1 Post := by
  intro l hfl _ _ p e ha hc hk s m args below hf hA hF happ hP
  obtain ⟨hcalls, hrest, hpre⟩ := hP
  obtain ⟨-, -, -, hnamed, -, -, -, hat⟩ := (Spec.applies_iff hf).mp happ
  obtain ⟨hg, hn⟩ := and_e (Cond.before_iff.mp (show (Jvm.Cond.and given_1 narrow_1).before args s = true from hpre))
  obtain ⟨g1, g2⟩ := and_e hg
  obtain ⟨g3, g4⟩ := and_e g2
  obtain ⟨g5, g6⟩ := and_e g4
  obtain ⟨g7, g8⟩ := and_e g6
  obtain ⟨g9, g10⟩ := and_e g8
  obtain ⟨g11, g12⟩ := and_e g10
  obtain ⟨w0, w1, w2, w3, w4, w5, rfl⟩ : ∃ w0 w1 w2 w3 w4 w5 : Value, args = #[w0, w1, w2, w3, w4, w5] := by
    have hs : args.size = 6 := by simpa [Cond.value, given_1] using g1
    obtain ⟨L⟩ := args
    match L, hs with
    | [w0, w1, w2, w3, w4, w5], _ => exact ⟨w0, w1, w2, w3, w4, w5, rfl⟩
  have hw := fun d (hd : d ∈ tables_1) => atoms_spec (ws := Jvm.Cond.code x code maxLocals ret :: tables_1) hat d (List.mem_cons_of_mem _ hd)
  have hfit : Fit s := fun {y c} hc i hi => by
    obtain ⟨ha, rfl⟩ := Array.getElem?_eq_some_iff.mp hc
    have q := List.all_eq_true.mp ((Array.all_eq_true_iff_forall_mem.mp hF) _ (Array.getElem_mem ha)) i (List.mem_range.mpr hi)
    simpa [Array.getElem?_eq_getElem hi] using q
  obtain ⟨hsets, hown0⟩ := atoms_of _ (rest_1_c_eq ▸ (show rest_1_c.before _ s = true from hrest))
  have hr0 := Cond.before_iff.mp hown0
  obtain ⟨i0, ei0⟩ := is_v g3
  obtain rfl : w0 = (.int i0) := Option.some.inj ei0
  obtain ⟨i1, ei1⟩ := is_v g5
  obtain rfl : w1 = (.int i1) := Option.some.inj ei1
  obtain ⟨i2, ei2⟩ := isL_v g7
  obtain rfl : w2 = (.long i2) := Option.some.inj ei2
  obtain ⟨i3, ei3⟩ := isL_v g9
  obtain rfl : w3 = (.long i3) := Option.some.inj ei3
  obtain ⟨i4, ei4⟩ := isL_v g11
  obtain rfl : w4 = (.long i4) := Option.some.inj ei4
  obtain ⟨i5, ei5⟩ := isL_v g12
  obtain rfl : w5 = (.long i5) := Option.some.inj ei5
  obtain ⟨g13, g14⟩ := and_e hn
  obtain ⟨g15, g16⟩ := and_e g14
  obtain ⟨g17, g18⟩ := and_e g16
  obtain ⟨g19, g20⟩ := and_e g18
  obtain ⟨g21, g22⟩ := and_e g20
  obtain ⟨wMAX_LOCK_DELAY, ev_wMAX_LOCK_DELAY⟩ := exa_v g13
  have S_wMAX_LOCK_DELAY := Sta.start ev_wMAX_LOCK_DELAY (Or.inr ⟨(ow hw 33 rfl), (ow hw 34 rfl)⟩)
  have E_wMAX_LOCK_DELAY := Exa.start ev_wMAX_LOCK_DELAY g13
  obtain ⟨wGRANTED, ev_wGRANTED⟩ := exa_v g15
  have S_wGRANTED := Sta.start ev_wGRANTED (Or.inr ⟨(ow hw 77 rfl), (ow hw 78 rfl)⟩)
  have E_wGRANTED := Exa.start ev_wGRANTED g15
  obtain ⟨wQUEUED, ev_wQUEUED⟩ := exa_v g17
  have S_wQUEUED := Sta.start ev_wQUEUED (Or.inr ⟨(ow hw 77 rfl), (ow hw 186 rfl)⟩)
  have E_wQUEUED := Exa.start ev_wQUEUED g17
  obtain ⟨wBUSY, ev_wBUSY⟩ := exa_v g22
  have S_wBUSY := Sta.start ev_wBUSY (Or.inr ⟨(ow hw 77 rfl), (ow hw 239 rfl)⟩)
  have E_wBUSY := Exa.start ev_wBUSY g22
  have F_seconds_wMAX_LOCK_DELAY := Fld.start ((fld_at ev_wMAX_LOCK_DELAY).symm.trans (own_eq_long g19))
  have F_nanos_wMAX_LOCK_DELAY := Fld.start ((fld_at ev_wMAX_LOCK_DELAY).symm.trans (own_eq_int g21))
  have hx_wZERO := Cond.before_iff.mp (hsets _ (List.mem_of_getElem? (i := 2) rfl))
  obtain ⟨wZERO, ev_wZERO⟩ := exa_v hx_wZERO
  have S_wZERO := Sta.start ev_wZERO (Or.inl (hsets _ (List.mem_of_getElem? (i := 1) rfl)))
  have E_wZERO := Exa.start ev_wZERO hx_wZERO
  have F_seconds_wZERO := Fld.start ((fld_at ev_wZERO).symm.trans (own_eq_long (Cond.before_iff.mp (hsets _ (List.mem_of_getElem? (i := 3) rfl)))))
  have F_nanos_wZERO := Fld.start ((fld_at ev_wZERO).symm.trans (own_eq_int (Cond.before_iff.mp (hsets _ (List.mem_of_getElem? (i := 4) rfl)))))
  have hS : SS s wMAX_LOCK_DELAY wGRANTED wQUEUED wBUSY wZERO := ⟨S_wMAX_LOCK_DELAY, E_wMAX_LOCK_DELAY, S_wGRANTED, E_wGRANTED, S_wQUEUED, E_wQUEUED, S_wBUSY, E_wBUSY, F_seconds_wMAX_LOCK_DELAY, F_nanos_wMAX_LOCK_DELAY, S_wZERO, E_wZERO, F_seconds_wZERO, F_nanos_wZERO⟩
  obtain ⟨n, o, h1, h2, h3, _, L, rfl, ⟨rfl, N⟩, hq⟩ := rm0 l s _ hw tables_1 wMAX_LOCK_DELAY wGRANTED wQUEUED wBUSY wZERO hS i0 i1 i2 i3 i4 i5 s.heap s.heap.size (Old.start s)  p e ha hc hk s m _ below hf ((Spec.applies_iff_loose hf).mp happ).1 ⟨rfl, State.Warmed39.refl s, rfl⟩ trivial
  refine ⟨n, _, h1, h2, h3, hpost _ _ _ _ _ _ ⟨Cond.after_iff.mpr rfl, Cond.after_iff.mpr (eq_i res_at (Term.int_eval (1)) rfl), trivial⟩ ⟨hq.1, hq.2.1, (hq.2.2.sift fun y hy => Or.inr (N y hy)).mono (by decide) (by decide)⟩⟩
theorem main_1_1 : Claimed_1_1 := comes_1 fun _ _ _ _ _ _ h hF => ⟨h.1, hF⟩
theorem main_1_2 : Claimed_1_2 := comes_1 fun _ _ _ _ _ _ h hF => ⟨h.2.1, hF⟩
end Jvm.Pilot.@@N@@
namespace Jvm.Pilot.@@N@@
open Jvm Jvm.ClassFile Sem Op Lib Jvm.Free Jvm.Stand Jvm.Pilot.@@N@@.Jvm.D
/-! MADE BY PROGRAM (witnessworld.py) out of the Statement's table words and the real class files: 28 classes; the members and pool entries that the words name. The judged class is class 1, her method 1. -/
namespace start1
open Jvm.ClassFile
def u (s : String) : CpInfo := .utf8 (stringToUtf16 s)
/-- a pool by its gaps: so many unusable entries, then the entry; so many at the end -/
def gap : Nat → List CpInfo → List CpInfo
  | 0, r => r
  | n + 1, r => .unusable :: gap n r
def poolList (es : List (Nat × CpInfo)) (last : Nat) : List CpInfo := es.foldr (fun e r => gap e.1 (e.2 :: r)) (gap last [])
def pool (es : List (Nat × CpInfo)) (last : Nat) : Array CpInfo := ⟨poolList es last⟩
def fileOf (pool : Array CpInfo) (this : Nat) (attrs : Array Attribute := #[]) (ms : Array MethodInfo := #[]) (fl : Nat := 33) (sup : Nat := 0) (ifs : Array Nat := #[]) (fds : Array FieldInfo := #[]) : ClassFile where
  minorVersion := 0
  majorVersion := 65
  constantPool := pool
  accessFlags := fl
  thisClass := this
  superClass := sup
  interfaces := ifs
  fields := fds
  methods := ms
  attributes := attrs
def plain (name : String) (sup : Option ClassId) : Class where
  name := name
  kind := .ordinary
  loader := none
  accessFlags := 33
  super := sup
  interfaces := #[]
  cf := none
  fields := #[]
  methods := #[]
  instanceTypes := #[]
  staticTypes := #[]
  resolved := #[]
  callSites := []
  init := .initialized
  statics := none
  mirror := none

def pool0 : Array CpInfo := pool [(5, u "<init>"), (0, u "()V"), (1, .class_ 10), (1, u "java/lang/Object")] 113

def k0c0 : Code := { maxStack := 0, maxLocals := 1, code := object_method_1_code, exceptionTable := #[], attributes := #[] }
def k0m0 : Method := { name := "<init>", desc := "()V", sig := { parameters := [], returnType := none }, accessFlags := 1, code := some k0c0 }
/-- java/lang/Object -/
def k0 : Class := { plain "java/lang/Object" none with
  accessFlags := 33
  interfaces := #[]
  cf := some (fileOf pool0 8 #[] #[{ accessFlags := 1, nameIndex := 5, descriptorIndex := 6, attributes := #[] }] 33 0 #[] #[])
  fields := #[]
  methods := #[k0m0]
  instanceTypes := #[]
  staticTypes := #[]
  resolved := Array.replicate 124 none
  statics := none }

def pool1 : Array CpInfo := pool [(2, .class_ 4), (0, .nameAndType 5 6), (0, u "java/lang/Object"), (0, u "<init>"), (0, u "()V"), (0, .class_ 8), (0, u "com/example/umpired/umpired/server/NodeLock"), (0, .methodref 7 3), (0, .fieldref 11 12), (0, .class_ 13), (0, .nameAndType 14 15), (0, u "com/example/umpired/umpired/protocol/Limits"), (0, u "MAX_LOCK_DELAY"), (0, u "Ljava/time/Duration;"), (0, .methodref 7 17), (0, .nameAndType 18 19), (0, u "holderLockDelay"), (0, u "()Ljava/time/Duration;"), (0, .class_ 21), (0, u "com/example/umpired/umpired/server/SessionHandle"), (0, .methodref 20 23), (0, .nameAndType 5 24), (0, u "(JJ)V"), (0, .methodref 7 26), (0, .nameAndType 27 28), (0, u "acquire"), (0, u "(Lcom/example/umpired/umpired/server/SessionHandle;Ljava/time/Duration;Z)Lcom/example/umpired/umpired/server/NodeLock$Outcome;"), (0, .methodref 7 30), (0, .nameAndType 31 32), (0, u "release"), (0, u "()Lcom/example/umpired/umpired/server/SessionHandle;"), (0, .long 2), (1, .methodref 7 36), (0, .nameAndType 37 38), (0, u "endSession"), (0, u "(JZ)Lcom/example/umpired/umpired/server/SessionHandle;"), (0, .methodref 7 40), (0, .nameAndType 41 42), (0, u "endHoldBack"), (0, u "(J)Lcom/example/umpired/umpired/server/SessionHandle;"), (0, .methodref 7 44), (0, .nameAndType 45 46), (0, u "isHeldAt"), (0, u "(J)Z"), (0, .class_ 48), (0, u "com/example/umpired/umpired/server/NodeLockIsHeldAtPinLaw"), (2, u "law"), (0, u "(IIJJJJ)Z")] 9

def k1m0 : Method := { name := "<init>", desc := "()V", sig := { parameters := [], returnType := none }, accessFlags := 1, code := none }
def k1c1 : Code := { maxStack := 6, maxLocals := 22, code := code, exceptionTable := #[], attributes := #[] }
def k1m1 : Method := { name := "law", desc := "(IIJJJJ)Z", sig := { parameters := [.int, .int, .long, .long, .long, .long], returnType := some .boolean }, accessFlags := 9, code := some k1c1 }
/-- com/example/umpired/umpired/server/NodeLockIsHeldAtPinLaw -/
def k1 : Class := { plain "com/example/umpired/umpired/server/NodeLockIsHeldAtPinLaw" (some 0) with
  accessFlags := 49
  interfaces := #[]
  cf := some (fileOf pool1 47 #[] #[{ accessFlags := 1, nameIndex := 5, descriptorIndex := 6, attributes := #[] }, { accessFlags := 9, nameIndex := 51, descriptorIndex := 52, attributes := #[] }] 49 2 #[] #[])
  fields := #[]
  methods := #[k1m0, k1m1]
  instanceTypes := #[]
  staticTypes := #[]
  resolved := Array.replicate 62 none
  statics := none }

def pool2 : Array CpInfo := pool [(1, .methodref 2 3), (0, .class_ 4), (0, .nameAndType 5 6), (0, u "java/lang/Object"), (0, u "<init>"), (0, u "()V"), (0, .class_ 8), (0, u "java/util/ArrayDeque"), (0, .methodref 7 3), (0, .fieldref 11 12), (0, .class_ 13), (0, .nameAndType 14 15), (0, u "com/example/umpired/umpired/server/NodeLock"), (0, u "waiters"), (0, u "Ljava/util/Deque;"), (0, .fieldref 17 18), (0, .class_ 19), (0, .nameAndType 20 21), (0, u "java/time/Duration"), (0, u "ZERO"), (0, u "Ljava/time/Duration;"), (0, .fieldref 11 23), (0, .nameAndType 24 21), (0, u "holderLockDelay"), (0, .fieldref 11 26), (0, .nameAndType 27 28), (0, u "generation"), (0, u "J"), (0, .fieldref 11 30), (0, .nameAndType 31 32), (0, u "holder"), (0, u "Lcom/example/umpired/umpired/server/SessionHandle;"), (0, .methodref 34 35), (0, .class_ 36), (0, .nameAndType 37 38), (0, u "com/example/umpired/umpired/server/SessionHandle"), (0, u "equals"), (0, u "(Ljava/lang/Object;)Z"), (0, .fieldref 40 41), (0, .class_ 42), (0, .nameAndType 43 44), (0, u "com/example/umpired/umpired/server/NodeLock$Outcome"), (0, u "GRANTED"), (0, u "Lcom/example/umpired/umpired/server/NodeLock$Outcome;"), (0, .fieldref 11 46), (0, .nameAndType 47 48), (0, u "heldBack"), (0, u "Z"), (0, .methodref 11 50), (0, .nameAndType 51 52), (0, u "grant"), (0, u "(Lcom/example/umpired/umpired/server/SessionHandle;Ljava/time/Duration;)V"), (0, .methodref 11 54), (0, .nameAndType 55 56), (0, u "isWaiting"), (0, u "(Lcom/example/umpired/umpired/server/SessionHandle;)Z"), (0, .class_ 58), (0, u "com/example/umpired/umpired/server/NodeLock$Waiter"), (0, .methodref 57 60), (0, .nameAndType 5 52), (0, .interfaceMethodref 62 63), (0, .class_ 64), (0, .nameAndType 65 38), (0, u "java/util/Deque"), (0, u "add"), (0, .fieldref 40 67), (0, .nameAndType 68 44), (0, u "QUEUED"), (0, .fieldref 40 70), (0, .nameAndType 71 44), (0, u "BUSY"), (9, .interfaceMethodref 62 82), (0, .nameAndType 83 84), (0, u "iterator"), (0, u "()Ljava/util/Iterator;"), (0, .interfaceMethodref 86 87), (0, .class_ 88), (0, .nameAndType 89 90), (0, u "java/util/Iterator"), (0, u "hasNext"), (0, u "()Z"), (0, .interfaceMethodref 86 92), (0, .nameAndType 93 94), (0, u "next"), (0, u "()Ljava/lang/Object;"), (0, .fieldref 57 96), (0, .nameAndType 97 32), (0, u "owner"), (3, .methodref 34 102), (0, .nameAndType 103 104), (0, u "session"), (0, u "()J"), (3, .methodref 11 109), (0, .nameAndType 110 111), (0, u "isHeldBySession"), (0, u "(J)Z"), (0, .methodref 11 113), (0, .nameAndType 114 115), (0, u "grantNext"), (0, u "()Lcom/example/umpired/umpired/server/SessionHandle;"), (3, .methodref 17 120), (0, .nameAndType 121 90), (0, u "isZero"), (0, .methodref 11 123), (0, .nameAndType 124 111), (0, u "isHeldBackAfter"), (60, .fieldref 57 186), (0, .nameAndType 187 21), (0, u "lockDelay"), (0, .interfaceMethodref 62 189), (0, .nameAndType 190 94), (0, u "poll"), (4, u "acquire"), (0, u "(Lcom/example/umpired/umpired/server/SessionHandle;Ljava/time/Duration;Z)Lcom/example/umpired/umpired/server/NodeLock$Outcome;"), (4, u "isHeldAt"), (3, u "release"), (0, u "endSession"), (0, u "(JZ)Lcom/example/umpired/umpired/server/SessionHandle;"), (0, u "()Ljava/time/Duration;"), (0, u "endHoldBack"), (0, u "(J)Lcom/example/umpired/umpired/server/SessionHandle;")] 45

def k2c0 : Code := { maxStack := 3, maxLocals := 1, code := prog_84_method_1_code, exceptionTable := #[], attributes := #[] }
def k2m0 : Method := { name := "<init>", desc := "()V", sig := { parameters := [], returnType := none }, accessFlags := 0, code := some k2c0 }
def k2c1 : Code := { maxStack := 5, maxLocals := 5, code := prog_84_method_3_code, exceptionTable := #[], attributes := #[] }
def k2m1 : Method := { name := "acquire", desc := "(Lcom/example/umpired/umpired/server/SessionHandle;Ljava/time/Duration;Z)Lcom/example/umpired/umpired/server/NodeLock$Outcome;", sig := { parameters := [(.object "com/example/umpired/umpired/server/SessionHandle"), (.object "java/time/Duration"), .boolean], returnType := some (.object "com/example/umpired/umpired/server/NodeLock$Outcome") }, accessFlags := 0, code := some k2c1 }
def k2c2 : Code := { maxStack := 4, maxLocals := 3, code := prog_84_method_7_code, exceptionTable := #[], attributes := #[] }
def k2m2 : Method := { name := "isHeldBySession", desc := "(J)Z", sig := { parameters := [.long], returnType := some .boolean }, accessFlags := 0, code := some k2c2 }
def k2c3 : Code := { maxStack := 4, maxLocals := 3, code := prog_84_method_8_code, exceptionTable := #[], attributes := #[] }
def k2m3 : Method := { name := "isHeldAt", desc := "(J)Z", sig := { parameters := [.long], returnType := some .boolean }, accessFlags := 0, code := some k2c3 }
def k2c4 : Code := { maxStack := 4, maxLocals := 3, code := prog_84_method_10_code, exceptionTable := #[], attributes := #[] }
def k2m4 : Method := { name := "isHeldBackAfter", desc := "(J)Z", sig := { parameters := [.long], returnType := some .boolean }, accessFlags := 0, code := some k2c4 }
def k2c5 : Code := { maxStack := 2, maxLocals := 1, code := prog_84_method_13_code, exceptionTable := #[], attributes := #[] }
def k2m5 : Method := { name := "release", desc := "()Lcom/example/umpired/umpired/server/SessionHandle;", sig := { parameters := [], returnType := some (.object "com/example/umpired/umpired/server/SessionHandle") }, accessFlags := 0, code := some k2c5 }
def k2c6 : Code := { maxStack := 4, maxLocals := 6, code := prog_84_method_14_code, exceptionTable := #[], attributes := #[] }
def k2m6 : Method := { name := "endSession", desc := "(JZ)Lcom/example/umpired/umpired/server/SessionHandle;", sig := { parameters := [.long, .boolean], returnType := some (.object "com/example/umpired/umpired/server/SessionHandle") }, accessFlags := 0, code := some k2c6 }
def k2c7 : Code := { maxStack := 1, maxLocals := 1, code := prog_84_method_15_code, exceptionTable := #[], attributes := #[] }
def k2m7 : Method := { name := "holderLockDelay", desc := "()Ljava/time/Duration;", sig := { parameters := [], returnType := some (.object "java/time/Duration") }, accessFlags := 0, code := some k2c7 }
def k2c8 : Code := { maxStack := 3, maxLocals := 4, code := prog_84_method_16_code, exceptionTable := #[], attributes := #[] }
def k2m8 : Method := { name := "endHoldBack", desc := "(J)Lcom/example/umpired/umpired/server/SessionHandle;", sig := { parameters := [.long], returnType := some (.object "com/example/umpired/umpired/server/SessionHandle") }, accessFlags := 0, code := some k2c8 }
def k2c9 : Code := { maxStack := 2, maxLocals := 4, code := prog_84_method_21_code, exceptionTable := #[], attributes := #[] }
def k2m9 : Method := { name := "isWaiting", desc := "(Lcom/example/umpired/umpired/server/SessionHandle;)Z", sig := { parameters := [(.object "com/example/umpired/umpired/server/SessionHandle")], returnType := some .boolean }, accessFlags := 2, code := some k2c9 }
def k2c10 : Code := { maxStack := 3, maxLocals := 2, code := prog_84_method_22_code, exceptionTable := #[], attributes := #[] }
def k2m10 : Method := { name := "grantNext", desc := "()Lcom/example/umpired/umpired/server/SessionHandle;", sig := { parameters := [], returnType := some (.object "com/example/umpired/umpired/server/SessionHandle") }, accessFlags := 2, code := some k2c10 }
def k2c11 : Code := { maxStack := 5, maxLocals := 3, code := prog_84_method_23_code, exceptionTable := #[], attributes := #[] }
def k2m11 : Method := { name := "grant", desc := "(Lcom/example/umpired/umpired/server/SessionHandle;Ljava/time/Duration;)V", sig := { parameters := [(.object "com/example/umpired/umpired/server/SessionHandle"), (.object "java/time/Duration")], returnType := none }, accessFlags := 2, code := some k2c11 }
/-- com/example/umpired/umpired/server/NodeLock -/
def k2 : Class := { plain "com/example/umpired/umpired/server/NodeLock" (some 0) with
  accessFlags := 48
  interfaces := #[]
  cf := some (fileOf pool2 11 #[.nestMembers #[57, 40]] #[{ accessFlags := 0, nameIndex := 5, descriptorIndex := 6, attributes := #[] }, { accessFlags := 0, nameIndex := 195, descriptorIndex := 196, attributes := #[] }, { accessFlags := 0, nameIndex := 110, descriptorIndex := 111, attributes := #[] }, { accessFlags := 0, nameIndex := 201, descriptorIndex := 111, attributes := #[] }, { accessFlags := 0, nameIndex := 124, descriptorIndex := 111, attributes := #[] }, { accessFlags := 0, nameIndex := 205, descriptorIndex := 115, attributes := #[] }, { accessFlags := 0, nameIndex := 206, descriptorIndex := 207, attributes := #[] }, { accessFlags := 0, nameIndex := 24, descriptorIndex := 208, attributes := #[] }, { accessFlags := 0, nameIndex := 209, descriptorIndex := 210, attributes := #[] }, { accessFlags := 2, nameIndex := 55, descriptorIndex := 56, attributes := #[] }, { accessFlags := 2, nameIndex := 114, descriptorIndex := 115, attributes := #[] }, { accessFlags := 2, nameIndex := 51, descriptorIndex := 52, attributes := #[] }] 48 2 #[] #[{ accessFlags := 18, nameIndex := 14, descriptorIndex := 15, attributes := #[] }, { accessFlags := 2, nameIndex := 27, descriptorIndex := 28, attributes := #[] }, { accessFlags := 2, nameIndex := 31, descriptorIndex := 32, attributes := #[] }, { accessFlags := 2, nameIndex := 24, descriptorIndex := 21, attributes := #[] }, { accessFlags := 2, nameIndex := 47, descriptorIndex := 48, attributes := #[] }])
  fields := #[{ name := "waiters", type := (.object "java/util/Deque"), accessFlags := 18, slot := 0, constantValue := 0 }, { name := "generation", type := .long, accessFlags := 2, slot := 1, constantValue := 0 }, { name := "holder", type := (.object "com/example/umpired/umpired/server/SessionHandle"), accessFlags := 2, slot := 2, constantValue := 0 }, { name := "holderLockDelay", type := (.object "java/time/Duration"), accessFlags := 2, slot := 3, constantValue := 0 }, { name := "heldBack", type := .boolean, accessFlags := 2, slot := 4, constantValue := 0 }]
  methods := #[k2m0, k2m1, k2m2, k2m3, k2m4, k2m5, k2m6, k2m7, k2m8, k2m9, k2m10, k2m11]
  instanceTypes := #[(.object "java/util/Deque"), .long, (.object "com/example/umpired/umpired/server/SessionHandle"), (.object "java/time/Duration"), .boolean]
  staticTypes := #[]
  resolved := ((Array.replicate 256 none).setIfInBounds 95 (some (.field 22 0))).setIfInBounds 185 (some (.field 22 1))
  statics := none }

def pool3 : Array CpInfo := pool [(8, .class_ 10), (1, u "java/lang/Iterable"), (24, .class_ 36), (0, u "java/lang/Object")] 25

/-- java/lang/Iterable -/
def k3 : Class := { plain "java/lang/Iterable" (some 0) with
  accessFlags := 1537
  interfaces := #[]
  cf := some (fileOf pool3 8 #[] #[] 1537 35 #[] #[])
  fields := #[]
  methods := #[]
  instanceTypes := #[]
  staticTypes := #[]
  resolved := Array.replicate 62 none
  statics := none }

def pool4 : Array CpInfo := pool [(10, .class_ 12), (1, u "java/util/Collection"), (47, .class_ 61), (0, u "java/lang/Object"), (0, .class_ 63), (0, u "java/lang/Iterable")] 51

/-- java/util/Collection -/
def k4 : Class := { plain "java/util/Collection" (some 0) with
  accessFlags := 1537
  interfaces := #[3]
  cf := some (fileOf pool4 10 #[] #[] 1537 60 #[62] #[])
  fields := #[]
  methods := #[]
  instanceTypes := #[]
  staticTypes := #[]
  resolved := Array.replicate 115 none
  statics := none }

def pool5 : Array CpInfo := pool [(1, .methodref 2 3), (0, .class_ 4), (0, .nameAndType 5 6), (0, u "java/lang/Object"), (0, u "<init>"), (0, u "()V"), (1, .class_ 10), (1, u "java/util/AbstractCollection"), (66, .class_ 78), (0, u "java/util/Collection")] 81

def k5c0 : Code := { maxStack := 1, maxLocals := 1, code := jdk_22_method_1_code, exceptionTable := #[], attributes := #[] }
def k5m0 : Method := { name := "<init>", desc := "()V", sig := { parameters := [], returnType := none }, accessFlags := 4, code := some k5c0 }
/-- java/util/AbstractCollection -/
def k5 : Class := { plain "java/util/AbstractCollection" (some 0) with
  accessFlags := 1057
  interfaces := #[4]
  cf := some (fileOf pool5 8 #[] #[{ accessFlags := 4, nameIndex := 5, descriptorIndex := 6, attributes := #[] }] 1057 2 #[77] #[])
  fields := #[]
  methods := #[k5m0]
  instanceTypes := #[]
  staticTypes := #[]
  resolved := Array.replicate 160 none
  statics := none }

def pool6 : Array CpInfo := pool [(1, .class_ 2), (0, u "java/util/Queue"), (0, .class_ 4), (0, u "java/lang/Object"), (0, .class_ 6), (0, u "java/util/Collection")] 14

/-- java/util/Queue -/
def k6 : Class := { plain "java/util/Queue" (some 0) with
  accessFlags := 1537
  interfaces := #[4]
  cf := some (fileOf pool6 1 #[] #[] 1537 3 #[5] #[])
  fields := #[]
  methods := #[]
  instanceTypes := #[]
  staticTypes := #[]
  resolved := Array.replicate 21 none
  statics := none }

def pool7 : Array CpInfo := pool [(8, .class_ 10), (1, u "java/util/SequencedCollection"), (15, .class_ 27), (0, u "java/lang/Object"), (0, .class_ 29), (0, u "java/util/Collection")] 27

/-- java/util/SequencedCollection -/
def k7 : Class := { plain "java/util/SequencedCollection" (some 0) with
  accessFlags := 1537
  interfaces := #[4]
  cf := some (fileOf pool7 8 #[] #[] 1537 26 #[28] #[])
  fields := #[]
  methods := #[]
  instanceTypes := #[]
  staticTypes := #[]
  resolved := Array.replicate 57 none
  statics := none }

def pool8 : Array CpInfo := pool [(8, .class_ 10), (1, u "java/util/Deque"), (2, .class_ 14), (0, u "java/lang/Object"), (0, .class_ 16), (0, u "java/util/Queue"), (0, .class_ 18), (0, u "java/util/SequencedCollection"), (6, u "(Ljava/lang/Object;)Z"), (3, u "()Ljava/lang/Object;"), (10, u "add"), (2, u "poll"), (10, u "iterator"), (0, u "()Ljava/util/Iterator;")] 14

def k8m0 : Method := { name := "add", desc := "(Ljava/lang/Object;)Z", sig := { parameters := [(.object "java/lang/Object")], returnType := some .boolean }, accessFlags := 1025, code := none }
def k8m1 : Method := { name := "poll", desc := "()Ljava/lang/Object;", sig := { parameters := [], returnType := some (.object "java/lang/Object") }, accessFlags := 1025, code := none }
def k8m2 : Method := { name := "iterator", desc := "()Ljava/util/Iterator;", sig := { parameters := [], returnType := some (.object "java/util/Iterator") }, accessFlags := 1025, code := none }
/-- java/util/Deque -/
def k8 : Class := { plain "java/util/Deque" (some 0) with
  accessFlags := 1537
  interfaces := #[6, 7]
  cf := some (fileOf pool8 8 #[] #[{ accessFlags := 1025, nameIndex := 40, descriptorIndex := 25, attributes := #[] }, { accessFlags := 1025, nameIndex := 43, descriptorIndex := 29, attributes := #[] }, { accessFlags := 1025, nameIndex := 54, descriptorIndex := 55, attributes := #[] }] 1537 13 #[15, 17] #[])
  fields := #[]
  methods := #[k8m0, k8m1, k8m2]
  instanceTypes := #[]
  staticTypes := #[]
  resolved := Array.replicate 70 none
  statics := none }

def pool9 : Array CpInfo := pool [(1, .class_ 2), (0, u "java/lang/Cloneable"), (0, .class_ 4), (0, u "java/lang/Object")] 2

/-- java/lang/Cloneable -/
def k9 : Class := { plain "java/lang/Cloneable" (some 0) with
  accessFlags := 1537
  interfaces := #[]
  cf := some (fileOf pool9 1 #[] #[] 1537 3 #[] #[])
  fields := #[]
  methods := #[]
  instanceTypes := #[]
  staticTypes := #[]
  resolved := Array.replicate 7 none
  statics := none }

def pool10 : Array CpInfo := pool [(1, .class_ 2), (0, u "java/io/Serializable"), (0, .class_ 4), (0, u "java/lang/Object")] 2

/-- java/io/Serializable -/
def k10 : Class := { plain "java/io/Serializable" (some 0) with
  accessFlags := 1537
  interfaces := #[]
  cf := some (fileOf pool10 1 #[] #[] 1537 3 #[] #[])
  fields := #[]
  methods := #[]
  instanceTypes := #[]
  staticTypes := #[]
  resolved := Array.replicate 7 none
  statics := none }

def pool11 : Array CpInfo := pool [(3, .fieldref 4 5), (0, .class_ 6), (0, .nameAndType 7 8), (0, u "java/util/ArrayDeque"), (0, u "elements"), (0, u "[Ljava/lang/Object;"), (4, u "(II)I"), (6, .fieldref 4 21), (0, .nameAndType 22 23), (0, u "tail"), (0, u "I"), (0, .fieldref 4 25), (0, .nameAndType 26 23), (0, u "head"), (12, u "<init>"), (2, .methodref 43 44), (0, .class_ 45), (0, .nameAndType 39 46), (0, u "java/util/AbstractCollection"), (0, u "()V"), (0, .class_ 48), (0, u "java/lang/Object"), (4, u "size"), (0, u "()I"), (19, .methodref 4 75), (0, .nameAndType 76 13), (0, u "inc"), (12, u "(Ljava/lang/Object;)V"), (0, .methodref 4 91), (0, .nameAndType 92 89), (0, u "addLast"), (0, .methodref 4 94), (0, .nameAndType 95 96), (0, u "pollFirst"), (0, u "()Ljava/lang/Object;"), (6, .methodref 4 104), (0, .nameAndType 105 106), (0, u "elementAt"), (0, u "([Ljava/lang/Object;I)Ljava/lang/Object;"), (3, u "(Ljava/lang/Object;)Z"), (16, .methodref 4 128), (0, .nameAndType 129 130), (0, u "sub"), (0, u "(III)I"), (0, .class_ 132), (0, u "java/util/ArrayDeque$DeqIterator"), (0, .methodref 131 134), (0, .nameAndType 39 135), (0, u "(Ljava/util/ArrayDeque;)V"), (0, .class_ 137), (0, u "java/util/ArrayDeque$DescendingIterator"), (1, .class_ 140), (0, u "java/util/ArrayDeque$DeqSpliterator"), (137, .class_ 279), (0, u "java/util/Deque"), (0, .class_ 281), (0, u "java/lang/Cloneable"), (0, .class_ 283), (0, u "java/io/Serializable"), (0, u "MAX_ARRAY_SIZE"), (1, u "serialVersionUID"), (0, u "J"), (28, u "nonNullElementAt"), (19, u "add"), (2, u "poll"), (9, u "iterator"), (0, u "()Ljava/util/Iterator;")] 87

def k11c0 : Code := { maxStack := 2, maxLocals := 1, code := jdk_21_method_3_code, exceptionTable := #[], attributes := #[] }
def k11m0 : Method := { name := "<init>", desc := "()V", sig := { parameters := [], returnType := none }, accessFlags := 1, code := some k11c0 }
def k11c1 : Code := { maxStack := 2, maxLocals := 2, code := jdk_21_method_6_code, exceptionTable := #[], attributes := #[] }
def k11m1 : Method := { name := "inc", desc := "(II)I", sig := { parameters := [.int, .int], returnType := some .int }, accessFlags := 24, code := some k11c1 }
def k11c2 : Code := { maxStack := 2, maxLocals := 3, code := jdk_21_method_9_code, exceptionTable := #[], attributes := #[] }
def k11m2 : Method := { name := "sub", desc := "(III)I", sig := { parameters := [.int, .int, .int], returnType := some .int }, accessFlags := 24, code := some k11c2 }
def k11c3 : Code := { maxStack := 2, maxLocals := 2, code := jdk_21_method_10_code, exceptionTable := #[], attributes := #[] }
def k11m3 : Method := { name := "elementAt", desc := "([Ljava/lang/Object;I)Ljava/lang/Object;", sig := { parameters := [(.array (.object "java/lang/Object")), .int], returnType := some (.object "java/lang/Object") }, accessFlags := 24, code := some k11c3 }
def k11c4 : Code := { maxStack := 2, maxLocals := 3, code := jdk_21_method_11_code, exceptionTable := #[], attributes := #[] }
def k11m4 : Method := { name := "nonNullElementAt", desc := "([Ljava/lang/Object;I)Ljava/lang/Object;", sig := { parameters := [(.array (.object "java/lang/Object")), .int], returnType := some (.object "java/lang/Object") }, accessFlags := 24, code := some k11c4 }
def k11c5 : Code := { maxStack := 4, maxLocals := 3, code := jdk_21_method_13_code, exceptionTable := #[], attributes := #[] }
def k11m5 : Method := { name := "addLast", desc := "(Ljava/lang/Object;)V", sig := { parameters := [(.object "java/lang/Object")], returnType := none }, accessFlags := 1, code := some k11c5 }
def k11c6 : Code := { maxStack := 3, maxLocals := 4, code := jdk_21_method_20_code, exceptionTable := #[], attributes := #[] }
def k11m6 : Method := { name := "pollFirst", desc := "()Ljava/lang/Object;", sig := { parameters := [], returnType := some (.object "java/lang/Object") }, accessFlags := 1, code := some k11c6 }
def k11c7 : Code := { maxStack := 2, maxLocals := 2, code := jdk_21_method_28_code, exceptionTable := #[], attributes := #[] }
def k11m7 : Method := { name := "add", desc := "(Ljava/lang/Object;)Z", sig := { parameters := [(.object "java/lang/Object")], returnType := some .boolean }, accessFlags := 1, code := some k11c7 }
def k11c8 : Code := { maxStack := 1, maxLocals := 1, code := jdk_21_method_31_code, exceptionTable := #[], attributes := #[] }
def k11m8 : Method := { name := "poll", desc := "()Ljava/lang/Object;", sig := { parameters := [], returnType := some (.object "java/lang/Object") }, accessFlags := 1, code := some k11c8 }
def k11c9 : Code := { maxStack := 3, maxLocals := 1, code := jdk_21_method_37_code, exceptionTable := #[], attributes := #[] }
def k11m9 : Method := { name := "size", desc := "()I", sig := { parameters := [], returnType := some .int }, accessFlags := 1, code := some k11c9 }
def k11c10 : Code := { maxStack := 3, maxLocals := 1, code := jdk_21_method_39_code, exceptionTable := #[], attributes := #[] }
def k11m10 : Method := { name := "iterator", desc := "()Ljava/util/Iterator;", sig := { parameters := [], returnType := some (.object "java/util/Iterator") }, accessFlags := 1, code := some k11c10 }
/-- java/util/ArrayDeque -/
def k11 : Class := { plain "java/util/ArrayDeque" (some 5) with
  accessFlags := 33
  interfaces := #[8, 9, 10]
  cf := some (fileOf pool11 4 #[.nestMembers #[139, 136, 131]] #[{ accessFlags := 1, nameIndex := 39, descriptorIndex := 46, attributes := #[] }, { accessFlags := 24, nameIndex := 76, descriptorIndex := 13, attributes := #[] }, { accessFlags := 24, nameIndex := 129, descriptorIndex := 130, attributes := #[] }, { accessFlags := 24, nameIndex := 105, descriptorIndex := 106, attributes := #[] }, { accessFlags := 24, nameIndex := 316, descriptorIndex := 106, attributes := #[] }, { accessFlags := 1, nameIndex := 92, descriptorIndex := 89, attributes := #[] }, { accessFlags := 1, nameIndex := 95, descriptorIndex := 96, attributes := #[] }, { accessFlags := 1, nameIndex := 336, descriptorIndex := 110, attributes := #[] }, { accessFlags := 1, nameIndex := 339, descriptorIndex := 96, attributes := #[] }, { accessFlags := 1, nameIndex := 53, descriptorIndex := 54, attributes := #[] }, { accessFlags := 1, nameIndex := 349, descriptorIndex := 350, attributes := #[] }] 33 43 #[278, 280, 282] #[{ accessFlags := 128, nameIndex := 7, descriptorIndex := 8, attributes := #[] }, { accessFlags := 128, nameIndex := 26, descriptorIndex := 23, attributes := #[] }, { accessFlags := 128, nameIndex := 22, descriptorIndex := 23, attributes := #[] }, { accessFlags := 26, nameIndex := 284, descriptorIndex := 23, attributes := #[] }, { accessFlags := 26, nameIndex := 286, descriptorIndex := 287, attributes := #[] }])
  fields := #[{ name := "elements", type := (.array (.object "java/lang/Object")), accessFlags := 128, slot := 0, constantValue := 0 }, { name := "head", type := .int, accessFlags := 128, slot := 1, constantValue := 0 }, { name := "tail", type := .int, accessFlags := 128, slot := 2, constantValue := 0 }, { name := "MAX_ARRAY_SIZE", type := .int, accessFlags := 26, slot := 0, constantValue := 0 }, { name := "serialVersionUID", type := .long, accessFlags := 26, slot := 1, constantValue := 0 }]
  methods := #[k11m0, k11m1, k11m2, k11m3, k11m4, k11m5, k11m6, k11m7, k11m8, k11m9, k11m10]
  instanceTypes := #[(.array (.object "java/lang/Object")), .int, .int]
  staticTypes := #[.int, .long]
  resolved := Array.replicate 438 none
  statics := none }

def pool12 : Array CpInfo := pool [(1, .class_ 2), (0, u "java/time/temporal/TemporalAmount"), (0, .class_ 4), (0, u "java/lang/Object")] 11

/-- java/time/temporal/TemporalAmount -/
def k12 : Class := { plain "java/time/temporal/TemporalAmount" (some 0) with
  accessFlags := 1537
  interfaces := #[]
  cf := some (fileOf pool12 1 #[] #[] 1537 3 #[] #[])
  fields := #[]
  methods := #[]
  instanceTypes := #[]
  staticTypes := #[]
  resolved := Array.replicate 16 none
  statics := none }

def pool13 : Array CpInfo := pool [(1, .class_ 2), (0, u "java/lang/Comparable"), (0, .class_ 4), (0, u "java/lang/Object")] 7

/-- java/lang/Comparable -/
def k13 : Class := { plain "java/lang/Comparable" (some 0) with
  accessFlags := 1537
  interfaces := #[]
  cf := some (fileOf pool13 1 #[] #[] 1537 3 #[] #[])
  fields := #[]
  methods := #[]
  instanceTypes := #[]
  staticTypes := #[]
  resolved := Array.replicate 12 none
  statics := none }

def pool14 : Array CpInfo := pool [(11, .class_ 13), (1, u "java/time/Duration"), (20, u "ZERO"), (0, u "Ljava/time/Duration;"), (13, .class_ 51), (1, u "java/time/temporal/TemporalAmount"), (13, u "()Z"), (13, .class_ 81), (1, u "java/time/Duration$Lazy"), (35, u "seconds"), (101, .class_ 220), (0, u "java/lang/Object"), (0, .fieldref 11 222), (0, .nameAndType 117 223), (0, u "J"), (0, .fieldref 11 225), (0, .nameAndType 226 227), (0, u "nanos"), (0, u "I"), (11, .class_ 241), (1, u "java/time/Duration$DurationUnits"), (27, .class_ 271), (1, u "java/time/Duration$1"), (91, u "BI_NANOS_PER_SECOND"), (0, u "Ljava/math/BigInteger;"), (120, .class_ 486), (0, u "java/lang/Comparable"), (0, .class_ 488), (0, u "java/io/Serializable"), (0, u "serialVersionUID"), (66, u "isZero")] 99

def k14c0 : Code := { maxStack := 4, maxLocals := 1, code := jdk_2316_method_21_code, exceptionTable := #[], attributes := #[] }
def k14m0 : Method := { name := "isZero", desc := "()Z", sig := { parameters := [], returnType := some .boolean }, accessFlags := 1, code := some k14c0 }
/-- java/time/Duration -/
def k14 : Class := { plain "java/time/Duration" (some 0) with
  accessFlags := 49
  interfaces := #[12, 13, 10]
  cf := some (fileOf pool14 11 #[.nestMembers #[269, 239, 79]] #[{ accessFlags := 1, nameIndex := 556, descriptorIndex := 65, attributes := #[] }] 49 219 #[49, 485, 487] #[{ accessFlags := 25, nameIndex := 34, descriptorIndex := 35, attributes := #[] }, { accessFlags := 26, nameIndex := 489, descriptorIndex := 223, attributes := #[] }, { accessFlags := 26, nameIndex := 363, descriptorIndex := 364, attributes := #[] }, { accessFlags := 18, nameIndex := 117, descriptorIndex := 223, attributes := #[] }, { accessFlags := 18, nameIndex := 226, descriptorIndex := 227, attributes := #[] }])
  fields := #[{ name := "ZERO", type := (.object "java/time/Duration"), accessFlags := 25, slot := 0, constantValue := 0 }, { name := "serialVersionUID", type := .long, accessFlags := 26, slot := 1, constantValue := 0 }, { name := "BI_NANOS_PER_SECOND", type := (.object "java/math/BigInteger"), accessFlags := 26, slot := 2, constantValue := 0 }, { name := "seconds", type := .long, accessFlags := 18, slot := 0, constantValue := 0 }, { name := "nanos", type := .int, accessFlags := 18, slot := 1, constantValue := 0 }]
  methods := #[k14m0]
  instanceTypes := #[.long, .int]
  staticTypes := #[(.object "java/time/Duration"), .long, (.object "java/math/BigInteger")]
  resolved := Array.replicate 656 none
  statics := some 0 }

def pool15 : Array CpInfo := pool [(2, .class_ 4), (1, u "java/lang/Object"), (0, u "<init>"), (0, u "()V"), (9, .class_ 18), (1, u "com/example/umpired/umpired/protocol/Limits"), (0, u "RESEND_WINDOW"), (0, u "Ljava/time/Duration;"), (2, u "MAX_LOCK_DELAY"), (0, u "MAX_CONTENTS_LENGTH"), (0, u "I"), (2, u "MAX_PATH_LENGTH"), (1, u "MAX_NAME_LENGTH"), (1, u "MAX_LISTING_LENGTH"), (0, u "MAX_EVENTS_PER_REPLY"), (1, u "MAX_INVALIDATIONS_PER_REPLY"), (1, u "MAX_CACHED_NAMES")] 5

def k15m0 : Method := { name := "<init>", desc := "()V", sig := { parameters := [], returnType := none }, accessFlags := 2, code := none }
/-- com/example/umpired/umpired/protocol/Limits -/
def k15 : Class := { plain "com/example/umpired/umpired/protocol/Limits" (some 0) with
  accessFlags := 49
  interfaces := #[]
  cf := some (fileOf pool15 16 #[] #[{ accessFlags := 2, nameIndex := 5, descriptorIndex := 6, attributes := #[] }] 49 2 #[] #[{ accessFlags := 25, nameIndex := 19, descriptorIndex := 20, attributes := #[] }, { accessFlags := 25, nameIndex := 24, descriptorIndex := 25, attributes := #[] }, { accessFlags := 25, nameIndex := 28, descriptorIndex := 25, attributes := #[] }, { accessFlags := 25, nameIndex := 30, descriptorIndex := 25, attributes := #[] }, { accessFlags := 25, nameIndex := 32, descriptorIndex := 25, attributes := #[] }, { accessFlags := 25, nameIndex := 23, descriptorIndex := 20, attributes := #[] }, { accessFlags := 25, nameIndex := 33, descriptorIndex := 25, attributes := #[] }, { accessFlags := 25, nameIndex := 35, descriptorIndex := 25, attributes := #[] }, { accessFlags := 25, nameIndex := 37, descriptorIndex := 25, attributes := #[] }])
  fields := #[{ name := "RESEND_WINDOW", type := (.object "java/time/Duration"), accessFlags := 25, slot := 0, constantValue := 0 }, { name := "MAX_CONTENTS_LENGTH", type := .int, accessFlags := 25, slot := 1, constantValue := 0 }, { name := "MAX_PATH_LENGTH", type := .int, accessFlags := 25, slot := 2, constantValue := 0 }, { name := "MAX_NAME_LENGTH", type := .int, accessFlags := 25, slot := 3, constantValue := 0 }, { name := "MAX_LISTING_LENGTH", type := .int, accessFlags := 25, slot := 4, constantValue := 0 }, { name := "MAX_LOCK_DELAY", type := (.object "java/time/Duration"), accessFlags := 25, slot := 5, constantValue := 0 }, { name := "MAX_EVENTS_PER_REPLY", type := .int, accessFlags := 25, slot := 6, constantValue := 0 }, { name := "MAX_INVALIDATIONS_PER_REPLY", type := .int, accessFlags := 25, slot := 7, constantValue := 0 }, { name := "MAX_CACHED_NAMES", type := .int, accessFlags := 25, slot := 8, constantValue := 0 }]
  methods := #[k15m0]
  instanceTypes := #[]
  staticTypes := #[(.object "java/time/Duration"), .int, .int, .int, .int, (.object "java/time/Duration"), .int, .int, .int]
  resolved := Array.replicate 43 none
  statics := some 1 }

def pool16 : Array CpInfo := pool [(1, .methodref 2 3), (0, .class_ 4), (0, .nameAndType 5 6), (0, u "java/lang/Object"), (0, u "<init>"), (0, u "()V"), (0, .fieldref 8 9), (0, .class_ 10), (0, .nameAndType 11 12), (0, u "com/example/umpired/umpired/server/SessionHandle"), (0, u "session"), (0, u "J"), (0, .fieldref 8 14), (0, .nameAndType 15 12), (0, u "handle"), (11, u "()J"), (2, u "(JJ)V"), (19, u "equals"), (0, u "(Ljava/lang/Object;)Z")] 21

def k16c0 : Code := { maxStack := 3, maxLocals := 5, code := prog_89_method_1_code, exceptionTable := #[], attributes := #[] }
def k16m0 : Method := { name := "<init>", desc := "(JJ)V", sig := { parameters := [.long, .long], returnType := none }, accessFlags := 0, code := some k16c0 }
def k16c1 : Code := { maxStack := 2, maxLocals := 1, code := prog_89_method_2_code, exceptionTable := #[], attributes := #[] }
def k16m1 : Method := { name := "session", desc := "()J", sig := { parameters := [], returnType := some .long }, accessFlags := 0, code := some k16c1 }
def k16c2 : Code := { maxStack := 4, maxLocals := 3, code := prog_89_method_6_code, exceptionTable := #[], attributes := #[] }
def k16m2 : Method := { name := "equals", desc := "(Ljava/lang/Object;)Z", sig := { parameters := [(.object "java/lang/Object")], returnType := some .boolean }, accessFlags := 1, code := some k16c2 }
/-- com/example/umpired/umpired/server/SessionHandle -/
def k16 : Class := { plain "com/example/umpired/umpired/server/SessionHandle" (some 0) with
  accessFlags := 48
  interfaces := #[]
  cf := some (fileOf pool16 8 #[] #[{ accessFlags := 0, nameIndex := 5, descriptorIndex := 30, attributes := #[] }, { accessFlags := 0, nameIndex := 11, descriptorIndex := 27, attributes := #[] }, { accessFlags := 1, nameIndex := 50, descriptorIndex := 51, attributes := #[] }] 48 2 #[] #[{ accessFlags := 18, nameIndex := 11, descriptorIndex := 12, attributes := #[] }, { accessFlags := 18, nameIndex := 15, descriptorIndex := 12, attributes := #[] }])
  fields := #[{ name := "session", type := .long, accessFlags := 18, slot := 0, constantValue := 0 }, { name := "handle", type := .long, accessFlags := 18, slot := 1, constantValue := 0 }]
  methods := #[k16m0, k16m1, k16m2]
  instanceTypes := #[.long, .long]
  staticTypes := #[]
  resolved := Array.replicate 73 none
  statics := none }

def pool17 : Array CpInfo := pool [(1, .class_ 2), (0, u "java/lang/constant/Constable"), (0, .class_ 4), (0, u "java/lang/Object")] 6

/-- java/lang/constant/Constable -/
def k17 : Class := { plain "java/lang/constant/Constable" (some 0) with
  accessFlags := 1537
  interfaces := #[]
  cf := some (fileOf pool17 1 #[] #[] 1537 3 #[] #[])
  fields := #[]
  methods := #[]
  instanceTypes := #[]
  staticTypes := #[]
  resolved := Array.replicate 11 none
  statics := none }

def pool18 : Array CpInfo := pool [(2, .class_ 4), (1, u "java/lang/Enum"), (0, u "name"), (0, u "Ljava/lang/String;"), (2, u "ordinal"), (0, u "I"), (1, .class_ 14), (1, u "java/lang/Object"), (4, u "hash"), (86, .class_ 108), (1, u "java/lang/Enum$EnumDesc"), (2, .class_ 112), (0, u "java/lang/constant/Constable"), (0, .class_ 114), (0, u "java/lang/Comparable"), (0, .class_ 116), (0, u "java/io/Serializable")] 87

/-- java/lang/Enum -/
def k18 : Class := { plain "java/lang/Enum" (some 0) with
  accessFlags := 1057
  interfaces := #[17, 13, 10]
  cf := some (fileOf pool18 2 #[.nestMembers #[106]] #[] 1057 12 #[111, 113, 115] #[{ accessFlags := 18, nameIndex := 5, descriptorIndex := 6, attributes := #[] }, { accessFlags := 18, nameIndex := 9, descriptorIndex := 10, attributes := #[] }, { accessFlags := 2, nameIndex := 19, descriptorIndex := 10, attributes := #[] }])
  fields := #[{ name := "name", type := (.object "java/lang/String"), accessFlags := 18, slot := 0, constantValue := 0 }, { name := "ordinal", type := .int, accessFlags := 18, slot := 1, constantValue := 0 }, { name := "hash", type := .int, accessFlags := 2, slot := 2, constantValue := 0 }]
  methods := #[]
  instanceTypes := #[(.object "java/lang/String"), .int, .int]
  staticTypes := #[]
  resolved := Array.replicate 204 none
  statics := none }

def pool19 : Array CpInfo := pool [(1, .class_ 2), (0, u "com/example/umpired/umpired/server/NodeLock$Outcome"), (2, u "GRANTED"), (0, u "Lcom/example/umpired/umpired/server/NodeLock$Outcome;"), (2, u "QUEUED"), (2, u "BUSY"), (2, u "$VALUES"), (0, u "[Lcom/example/umpired/umpired/server/NodeLock$Outcome;"), (6, .class_ 25), (1, u "java/lang/Enum"), (26, .class_ 53), (0, u "com/example/umpired/umpired/server/NodeLock")] 2

/-- com/example/umpired/umpired/server/NodeLock$Outcome -/
def k19 : Class := { plain "com/example/umpired/umpired/server/NodeLock$Outcome" (some 18) with
  accessFlags := 16432
  interfaces := #[]
  cf := some (fileOf pool19 1 #[.nestHost 52] #[] 16432 23 #[] #[{ accessFlags := 16409, nameIndex := 5, descriptorIndex := 6, attributes := #[] }, { accessFlags := 16409, nameIndex := 9, descriptorIndex := 6, attributes := #[] }, { accessFlags := 16409, nameIndex := 12, descriptorIndex := 6, attributes := #[] }, { accessFlags := 4122, nameIndex := 15, descriptorIndex := 16, attributes := #[] }])
  fields := #[{ name := "GRANTED", type := (.object "com/example/umpired/umpired/server/NodeLock$Outcome"), accessFlags := 16409, slot := 0, constantValue := 0 }, { name := "QUEUED", type := (.object "com/example/umpired/umpired/server/NodeLock$Outcome"), accessFlags := 16409, slot := 1, constantValue := 0 }, { name := "BUSY", type := (.object "com/example/umpired/umpired/server/NodeLock$Outcome"), accessFlags := 16409, slot := 2, constantValue := 0 }, { name := "$VALUES", type := (.array (.object "com/example/umpired/umpired/server/NodeLock$Outcome")), accessFlags := 4122, slot := 3, constantValue := 0 }]
  methods := #[]
  instanceTypes := #[(.object "java/lang/String"), .int, .int]
  staticTypes := #[(.object "com/example/umpired/umpired/server/NodeLock$Outcome"), (.object "com/example/umpired/umpired/server/NodeLock$Outcome"), (.object "com/example/umpired/umpired/server/NodeLock$Outcome"), (.array (.object "com/example/umpired/umpired/server/NodeLock$Outcome"))]
  resolved := Array.replicate 56 none
  statics := some 2 }

def pool20 : Array CpInfo := pool [(16, .class_ 18), (1, u "java/util/Iterator"), (0, u "hasNext"), (0, u "()Z"), (2, u "next"), (0, u "()Ljava/lang/Object;"), (6, .class_ 32), (0, u "java/lang/Object")] 20

def k20m0 : Method := { name := "hasNext", desc := "()Z", sig := { parameters := [], returnType := some .boolean }, accessFlags := 1025, code := none }
def k20m1 : Method := { name := "next", desc := "()Ljava/lang/Object;", sig := { parameters := [], returnType := some (.object "java/lang/Object") }, accessFlags := 1025, code := none }
/-- java/util/Iterator -/
def k20 : Class := { plain "java/util/Iterator" (some 0) with
  accessFlags := 1537
  interfaces := #[]
  cf := some (fileOf pool20 16 #[] #[{ accessFlags := 1025, nameIndex := 19, descriptorIndex := 20, attributes := #[] }, { accessFlags := 1025, nameIndex := 23, descriptorIndex := 24, attributes := #[] }] 1537 31 #[] #[])
  fields := #[]
  methods := #[k20m0, k20m1]
  instanceTypes := #[]
  staticTypes := #[]
  resolved := Array.replicate 53 none
  statics := none }

def pool21 : Array CpInfo := pool [(1, .fieldref 2 3), (0, .class_ 4), (0, .nameAndType 5 6), (0, u "java/util/ArrayDeque$DeqIterator"), (0, u "this$0"), (0, u "Ljava/util/ArrayDeque;"), (0, .methodref 8 9), (0, .class_ 10), (0, .nameAndType 11 12), (0, u "java/lang/Object"), (0, u "<init>"), (0, u "()V"), (0, .methodref 14 15), (0, .class_ 16), (0, .nameAndType 17 18), (0, u "java/util/ArrayDeque"), (0, u "size"), (0, u "()I"), (0, .fieldref 2 20), (0, .nameAndType 21 22), (0, u "remaining"), (0, u "I"), (0, .fieldref 2 24), (0, .nameAndType 25 22), (0, u "lastRet"), (0, .fieldref 14 27), (0, .nameAndType 28 22), (0, u "head"), (0, .fieldref 2 30), (0, .nameAndType 31 22), (0, u "cursor"), (3, .fieldref 14 36), (0, .nameAndType 37 38), (0, u "elements"), (0, u "[Ljava/lang/Object;"), (0, .methodref 14 40), (0, .nameAndType 41 42), (0, u "nonNullElementAt"), (0, u "([Ljava/lang/Object;I)Ljava/lang/Object;"), (0, .methodref 14 44), (0, .nameAndType 45 46), (0, u "inc"), (0, u "(II)I"), (39, .class_ 87), (0, u "java/util/Iterator"), (0, u "(Ljava/util/ArrayDeque;)V"), (8, u "hasNext"), (0, u "()Z"), (1, u "next"), (0, u "()Ljava/lang/Object;")] 26

def k21c0 : Code := { maxStack := 2, maxLocals := 2, code := jdk_54_method_1_code, exceptionTable := #[], attributes := #[] }
def k21m0 : Method := { name := "<init>", desc := "(Ljava/util/ArrayDeque;)V", sig := { parameters := [(.object "java/util/ArrayDeque")], returnType := none }, accessFlags := 0, code := some k21c0 }
def k21c1 : Code := { maxStack := 1, maxLocals := 1, code := jdk_54_method_2_code, exceptionTable := #[], attributes := #[] }
def k21m1 : Method := { name := "hasNext", desc := "()Z", sig := { parameters := [], returnType := some .boolean }, accessFlags := 17, code := some k21c1 }
def k21c2 : Code := { maxStack := 4, maxLocals := 3, code := jdk_54_method_3_code, exceptionTable := #[], attributes := #[] }
def k21m2 : Method := { name := "next", desc := "()Ljava/lang/Object;", sig := { parameters := [], returnType := some (.object "java/lang/Object") }, accessFlags := 1, code := some k21c2 }
/-- java/util/ArrayDeque$DeqIterator -/
def k21 : Class := { plain "java/util/ArrayDeque$DeqIterator" (some 0) with
  accessFlags := 32
  interfaces := #[20]
  cf := some (fileOf pool21 2 #[.nestHost 14] #[{ accessFlags := 0, nameIndex := 11, descriptorIndex := 88, attributes := #[] }, { accessFlags := 17, nameIndex := 97, descriptorIndex := 98, attributes := #[] }, { accessFlags := 1, nameIndex := 100, descriptorIndex := 101, attributes := #[] }] 32 8 #[86] #[{ accessFlags := 0, nameIndex := 31, descriptorIndex := 22, attributes := #[] }, { accessFlags := 0, nameIndex := 21, descriptorIndex := 22, attributes := #[] }, { accessFlags := 0, nameIndex := 25, descriptorIndex := 22, attributes := #[] }, { accessFlags := 4112, nameIndex := 5, descriptorIndex := 6, attributes := #[] }])
  fields := #[{ name := "cursor", type := .int, accessFlags := 0, slot := 0, constantValue := 0 }, { name := "remaining", type := .int, accessFlags := 0, slot := 1, constantValue := 0 }, { name := "lastRet", type := .int, accessFlags := 0, slot := 2, constantValue := 0 }, { name := "this$0", type := (.object "java/util/ArrayDeque"), accessFlags := 4112, slot := 3, constantValue := 0 }]
  methods := #[k21m0, k21m1, k21m2]
  instanceTypes := #[.int, .int, .int, (.object "java/util/ArrayDeque")]
  staticTypes := #[]
  resolved := Array.replicate 128 none
  statics := none }

def pool22 : Array CpInfo := pool [(1, .methodref 2 3), (0, .class_ 4), (0, .nameAndType 5 6), (0, u "java/lang/Object"), (0, u "<init>"), (0, u "()V"), (0, .fieldref 8 9), (0, .class_ 10), (0, .nameAndType 11 12), (0, u "com/example/umpired/umpired/server/NodeLock$Waiter"), (0, u "owner"), (0, u "Lcom/example/umpired/umpired/server/SessionHandle;"), (0, .fieldref 8 14), (0, .nameAndType 15 16), (0, u "lockDelay"), (0, u "Ljava/time/Duration;"), (0, u "(Lcom/example/umpired/umpired/server/SessionHandle;Ljava/time/Duration;)V"), (5, .class_ 24), (0, u "com/example/umpired/umpired/server/NodeLock")] 2

def k22c0 : Code := { maxStack := 2, maxLocals := 3, code := prog_86_method_1_code, exceptionTable := #[], attributes := #[] }
def k22m0 : Method := { name := "<init>", desc := "(Lcom/example/umpired/umpired/server/SessionHandle;Ljava/time/Duration;)V", sig := { parameters := [(.object "com/example/umpired/umpired/server/SessionHandle"), (.object "java/time/Duration")], returnType := none }, accessFlags := 0, code := some k22c0 }
/-- com/example/umpired/umpired/server/NodeLock$Waiter -/
def k22 : Class := { plain "com/example/umpired/umpired/server/NodeLock$Waiter" (some 0) with
  accessFlags := 48
  interfaces := #[]
  cf := some (fileOf pool22 8 #[.nestHost 23] #[{ accessFlags := 0, nameIndex := 5, descriptorIndex := 17, attributes := #[] }] 48 2 #[] #[{ accessFlags := 18, nameIndex := 11, descriptorIndex := 12, attributes := #[] }, { accessFlags := 18, nameIndex := 15, descriptorIndex := 16, attributes := #[] }])
  fields := #[{ name := "owner", type := (.object "com/example/umpired/umpired/server/SessionHandle"), accessFlags := 18, slot := 0, constantValue := 0 }, { name := "lockDelay", type := (.object "java/time/Duration"), accessFlags := 18, slot := 1, constantValue := 0 }]
  methods := #[k22m0]
  instanceTypes := #[(.object "com/example/umpired/umpired/server/SessionHandle"), (.object "java/time/Duration")]
  staticTypes := #[]
  resolved := Array.replicate 27 none
  statics := none }

/-- the primitive byte -/
def k23 : Class := { plain "byte" none with kind := .primitive 'B', accessFlags := 0x411 }
/-- [B -/
def k24 : Class := { plain "[B" (some 0) with kind := .array 23 .byte, interfaces := #[9, 10], accessFlags := 1041 }

/-- the primitive int -/
def k25 : Class := { plain "int" none with kind := .primitive 'I', accessFlags := 0x411 }
/-- [I -/
def k26 : Class := { plain "[I" (some 0) with kind := .array 25 .int, interfaces := #[9, 10], accessFlags := 1041 }

/-- [Ljava/lang/Object; -/
def k27 : Class := { plain "[Ljava/lang/Object;" (some 0) with kind := .array 0 (.object "java/lang/Object"), interfaces := #[9, 10], accessFlags := 1041 }

def heap : Heap := #[{ cls := 14, slots := #[.ref 7, .long 0, .null], vm := .statics 14 },
  { cls := 15, slots := #[.null, .int 0, .int 0, .int 0, .int 0, .ref 3, .int 0, .int 0, .int 0], vm := .statics 15 },
  { cls := 19, slots := #[.ref 4, .ref 5, .ref 6, .null], vm := .statics 19 },
  { cls := 14, slots := #[.long 60, .int 0], vm := .none },
  { cls := 19, slots := #[.null, .int 0, .int 0], vm := .none },
  { cls := 19, slots := #[.null, .int 1, .int 0], vm := .none },
  { cls := 19, slots := #[.null, .int 2, .int 0], vm := .none },
  { cls := 14, slots := #[.long 0, .int 0], vm := .none }]
def classes : Array Class := #[k0, k1, k2, k3, k4, k5, k6, k7, k8, k9, k10, k11, k12, k13, k14, k15, k16, k17, k18, k19, k20, k21, k22, k23, k24, k25, k26, k27]
def interned : List (Array UInt16 × Addr) := []
def slotsUsed : Nat := 29
def theMethod : MethodId := ⟨1, 1⟩
def args0 : Array Value := #[.int 3, .int 2, .long 5, .long 6, .long 7, .long 2]
def aboutOver (below : List Frame) : State where
  vm := { classes := classes, interned := interned.toArray }
  heap := heap
  slotsUsed := slotsUsed
  threads := #[{ frames := .invoking theMethod args0 :: below }]
def below0 : List Frame := [.native { method := ⟨0, 0⟩, args := #[] }]
def about1 : State := aboutOver below0
def p0 : Program := .bare "" "" ""
def e0 : Env := launch0.env 0 0 0
theorem w_frames : about1.frames = Frame.invoking theMethod args0 :: below0 := rfl
set_option maxRecDepth 65536 in
theorem w_args : argsFit about1.vm theMethod args0 = true := by decide +kernel
set_option maxRecDepth 65536 in
theorem w_heap : heapFits about1 = true := by decide +kernel
set_option maxRecDepth 65536 in
theorem w_runnable : about1.curStatus? = some .runnable := by decide +kernel
set_option maxRecDepth 65536 in
theorem w_alone : about1.alone = true := by decide +kernel
set_option maxRecDepth 65536 in
theorem w_named : about1.methodNamed? x = some theMethod := by decide +kernel
set_option maxRecDepth 65536 in
theorem w_hears : about1.hears theMethod below0 = true := by decide +kernel
set_option maxRecDepth 65536 in
theorem w_ripe : about1.ripe theMethod args0 below0 = true := by decide +kernel
theorem w_running : about1.status = .running := rfl
set_option maxRecDepth 65536 in
theorem w_room : about1.hasRoom e0.platform room_1 = true :=
  launch0.hasRoom_least _ room_1 (by decide +kernel) (by decide +kernel) (by decide +kernel) (by decide +kernel) (by decide +kernel) (by decide +kernel)
theorem allAtoms_all (ts : List Jvm.Cond) (a : Array Jvm.Value) (st : Jvm.State) : (allAtoms ts).before a st = ts.all (fun c => c.before a st) := by
  induction ts with
  | nil => rfl
  | cons c t ih =>
    show (Jvm.Cond.and c (allAtoms t)).before a st = _
    rw [Jvm.Cond.before_and, ih, List.all_cons]
def words1 : List Jvm.Cond := Jvm.Cond.code x code maxLocals ret :: tables_1
/-- a 'code' word, met by the world's own term for the bytes: nothing is compared byte by byte -/
theorem code_word {y : MethodName} {bytes : ByteArray} {mx : Nat} {rt : Option FieldType} {a : Array Value} {s : State} {m : MethodId} {meth : Method} {c : Code} (h1 : s.methodNamed? y = some m) (h2 : s.vm.method? m = some meth) (h3 : meth.code = some c) (h4 : c.code = bytes)
    (h5 : (c.maxLocals == mx && c.exceptionTable.isEmpty && decide (c.maxStack ≤ mostOperands) && decide (meth.sig.returnType = rt) && !meth.locks && decide (parseMethodDescriptor y.desc = some meth.sig)) = true) : (Jvm.Cond.code y bytes mx rt).before a s = true := by
  simp only [Bool.and_eq_true, beq_iff_eq, Bool.not_eq_true', decide_eq_true_eq] at h5
  obtain ⟨⟨⟨⟨⟨g1, g2⟩, g3⟩, g4⟩, g5⟩, g6⟩ := h5
  simp [Cond.before, Cond.holds, Cond.value, h1, h2, h3, h4, g1, g2, g3, g4, g5, g6]
def isCode : Jvm.Cond → Bool
  | .code _ _ _ _ => true
  | _ => false
theorem all_split {L : List Jvm.Cond} {P : Jvm.Cond → Bool} (h1 : L.all (fun c => isCode c || P c) = true) (h2 : ∀ c ∈ L.filter isCode, P c = true) : L.all P = true := by
  refine List.all_eq_true.mpr fun c hc => ?_
  have h := List.all_eq_true.mp h1 c hc
  rcases Bool.eq_false_or_eq_true (isCode c) with hi | hi
  · exact h2 c (List.mem_filter.mpr ⟨hc, hi⟩)
  · simpa [hi] using h
set_option maxRecDepth 65536 in
theorem w_c0 : (Jvm.Cond.code x code maxLocals ret).before args0 about1 = true := code_word (m := ⟨1, 1⟩) (meth := k1m1) (c := k1c1) (by decide +kernel) rfl rfl rfl (by decide +kernel)
set_option maxRecDepth 65536 in
theorem w_c1 : (Jvm.Cond.code ({ cls := "com/example/umpired/umpired/server/NodeLock", name := "<init>", desc := "()V" } : Jvm.MethodName) prog_84_method_1_code (1 : Nat) (Option.none : Option Jvm.ClassFile.FieldType)).before args0 about1 = true := code_word (m := ⟨2, 0⟩) (meth := k2m0) (c := k2c0) (by decide +kernel) rfl rfl rfl (by decide +kernel)
set_option maxRecDepth 65536 in
theorem w_c2 : (Jvm.Cond.code ({ cls := "java/lang/Object", name := "<init>", desc := "()V" } : Jvm.MethodName) object_method_1_code (1 : Nat) (Option.none : Option Jvm.ClassFile.FieldType)).before args0 about1 = true := code_word (m := ⟨0, 0⟩) (meth := k0m0) (c := k0c0) (by decide +kernel) rfl rfl rfl (by decide +kernel)
set_option maxRecDepth 65536 in
theorem w_c3 : (Jvm.Cond.code ({ cls := "java/util/ArrayDeque", name := "<init>", desc := "()V" } : Jvm.MethodName) jdk_21_method_3_code (1 : Nat) (Option.none : Option Jvm.ClassFile.FieldType)).before args0 about1 = true := code_word (m := ⟨11, 0⟩) (meth := k11m0) (c := k11c0) (by decide +kernel) rfl rfl rfl (by decide +kernel)
set_option maxRecDepth 65536 in
theorem w_c4 : (Jvm.Cond.code ({ cls := "java/util/AbstractCollection", name := "<init>", desc := "()V" } : Jvm.MethodName) jdk_22_method_1_code (1 : Nat) (Option.none : Option Jvm.ClassFile.FieldType)).before args0 about1 = true := code_word (m := ⟨5, 0⟩) (meth := k5m0) (c := k5c0) (by decide +kernel) rfl rfl rfl (by decide +kernel)
set_option maxRecDepth 65536 in
theorem w_c5 : (Jvm.Cond.code ({ cls := "com/example/umpired/umpired/server/SessionHandle", name := "<init>", desc := "(JJ)V" } : Jvm.MethodName) prog_89_method_1_code (5 : Nat) (Option.none : Option Jvm.ClassFile.FieldType)).before args0 about1 = true := code_word (m := ⟨16, 0⟩) (meth := k16m0) (c := k16c0) (by decide +kernel) rfl rfl rfl (by decide +kernel)
set_option maxRecDepth 65536 in
theorem w_c6 : (Jvm.Cond.code ({ cls := "com/example/umpired/umpired/server/NodeLock", name := "isHeldAt", desc := "(J)Z" } : Jvm.MethodName) prog_84_method_8_code (3 : Nat) (Option.some Jvm.ClassFile.FieldType.boolean)).before args0 about1 = true := code_word (m := ⟨2, 3⟩) (meth := k2m3) (c := k2c3) (by decide +kernel) rfl rfl rfl (by decide +kernel)
set_option maxRecDepth 65536 in
theorem w_c7 : (Jvm.Cond.code ({ cls := "com/example/umpired/umpired/server/NodeLock", name := "holderLockDelay", desc := "()Ljava/time/Duration;" } : Jvm.MethodName) prog_84_method_15_code (1 : Nat) (Option.some (Jvm.ClassFile.FieldType.object "java/time/Duration"))).before args0 about1 = true := code_word (m := ⟨2, 7⟩) (meth := k2m7) (c := k2c7) (by decide +kernel) rfl rfl rfl (by decide +kernel)
set_option maxRecDepth 65536 in
theorem w_c8 : (Jvm.Cond.code ({ cls := "com/example/umpired/umpired/server/NodeLock", name := "acquire", desc := "(Lcom/example/umpired/umpired/server/SessionHandle;Ljava/time/Duration;Z)Lcom/example/umpired/umpired/server/NodeLock$Outcome;" } : Jvm.MethodName) prog_84_method_3_code (5 : Nat) (Option.some (Jvm.ClassFile.FieldType.object "com/example/umpired/umpired/server/NodeLock$Outcome"))).before args0 about1 = true := code_word (m := ⟨2, 1⟩) (meth := k2m1) (c := k2c1) (by decide +kernel) rfl rfl rfl (by decide +kernel)
set_option maxRecDepth 65536 in
theorem w_c9 : (Jvm.Cond.code ({ cls := "com/example/umpired/umpired/server/SessionHandle", name := "equals", desc := "(Ljava/lang/Object;)Z" } : Jvm.MethodName) prog_89_method_6_code (3 : Nat) (Option.some Jvm.ClassFile.FieldType.boolean)).before args0 about1 = true := code_word (m := ⟨16, 2⟩) (meth := k16m2) (c := k16c2) (by decide +kernel) rfl rfl rfl (by decide +kernel)
set_option maxRecDepth 65536 in
theorem w_c10 : (Jvm.Cond.code ({ cls := "com/example/umpired/umpired/server/NodeLock", name := "grant", desc := "(Lcom/example/umpired/umpired/server/SessionHandle;Ljava/time/Duration;)V" } : Jvm.MethodName) prog_84_method_23_code (3 : Nat) (Option.none : Option Jvm.ClassFile.FieldType)).before args0 about1 = true := code_word (m := ⟨2, 11⟩) (meth := k2m11) (c := k2c11) (by decide +kernel) rfl rfl rfl (by decide +kernel)
set_option maxRecDepth 65536 in
theorem w_c11 : (Jvm.Cond.code ({ cls := "com/example/umpired/umpired/server/NodeLock", name := "release", desc := "()Lcom/example/umpired/umpired/server/SessionHandle;" } : Jvm.MethodName) prog_84_method_13_code (1 : Nat) (Option.some (Jvm.ClassFile.FieldType.object "com/example/umpired/umpired/server/SessionHandle"))).before args0 about1 = true := code_word (m := ⟨2, 5⟩) (meth := k2m5) (c := k2c5) (by decide +kernel) rfl rfl rfl (by decide +kernel)
set_option maxRecDepth 65536 in
theorem w_c12 : (Jvm.Cond.code ({ cls := "com/example/umpired/umpired/server/NodeLock", name := "grantNext", desc := "()Lcom/example/umpired/umpired/server/SessionHandle;" } : Jvm.MethodName) prog_84_method_22_code (2 : Nat) (Option.some (Jvm.ClassFile.FieldType.object "com/example/umpired/umpired/server/SessionHandle"))).before args0 about1 = true := code_word (m := ⟨2, 10⟩) (meth := k2m10) (c := k2c10) (by decide +kernel) rfl rfl rfl (by decide +kernel)
set_option maxRecDepth 65536 in
theorem w_c13 : (Jvm.Cond.code ({ cls := "java/util/ArrayDeque", name := "poll", desc := "()Ljava/lang/Object;" } : Jvm.MethodName) jdk_21_method_31_code (1 : Nat) (Option.some (Jvm.ClassFile.FieldType.object "java/lang/Object"))).before args0 about1 = true := code_word (m := ⟨11, 8⟩) (meth := k11m8) (c := k11c8) (by decide +kernel) rfl rfl rfl (by decide +kernel)
set_option maxRecDepth 65536 in
theorem w_c14 : (Jvm.Cond.code ({ cls := "java/util/ArrayDeque", name := "pollFirst", desc := "()Ljava/lang/Object;" } : Jvm.MethodName) jdk_21_method_20_code (4 : Nat) (Option.some (Jvm.ClassFile.FieldType.object "java/lang/Object"))).before args0 about1 = true := code_word (m := ⟨11, 6⟩) (meth := k11m6) (c := k11c6) (by decide +kernel) rfl rfl rfl (by decide +kernel)
set_option maxRecDepth 65536 in
theorem w_c15 : (Jvm.Cond.code ({ cls := "java/util/ArrayDeque", name := "elementAt", desc := "([Ljava/lang/Object;I)Ljava/lang/Object;" } : Jvm.MethodName) jdk_21_method_10_code (2 : Nat) (Option.some (Jvm.ClassFile.FieldType.object "java/lang/Object"))).before args0 about1 = true := code_word (m := ⟨11, 3⟩) (meth := k11m3) (c := k11c3) (by decide +kernel) rfl rfl rfl (by decide +kernel)
set_option maxRecDepth 65536 in
theorem w_c16 : (Jvm.Cond.code ({ cls := "com/example/umpired/umpired/server/NodeLock", name := "isWaiting", desc := "(Lcom/example/umpired/umpired/server/SessionHandle;)Z" } : Jvm.MethodName) prog_84_method_21_code (4 : Nat) (Option.some Jvm.ClassFile.FieldType.boolean)).before args0 about1 = true := code_word (m := ⟨2, 9⟩) (meth := k2m9) (c := k2c9) (by decide +kernel) rfl rfl rfl (by decide +kernel)
set_option maxRecDepth 65536 in
theorem w_c17 : (Jvm.Cond.code ({ cls := "java/util/ArrayDeque", name := "iterator", desc := "()Ljava/util/Iterator;" } : Jvm.MethodName) jdk_21_method_39_code (1 : Nat) (Option.some (Jvm.ClassFile.FieldType.object "java/util/Iterator"))).before args0 about1 = true := code_word (m := ⟨11, 10⟩) (meth := k11m10) (c := k11c10) (by decide +kernel) rfl rfl rfl (by decide +kernel)
set_option maxRecDepth 65536 in
theorem w_c18 : (Jvm.Cond.code ({ cls := "java/util/ArrayDeque$DeqIterator", name := "<init>", desc := "(Ljava/util/ArrayDeque;)V" } : Jvm.MethodName) jdk_54_method_1_code (2 : Nat) (Option.none : Option Jvm.ClassFile.FieldType)).before args0 about1 = true := code_word (m := ⟨21, 0⟩) (meth := k21m0) (c := k21c0) (by decide +kernel) rfl rfl rfl (by decide +kernel)
set_option maxRecDepth 65536 in
theorem w_c19 : (Jvm.Cond.code ({ cls := "java/util/ArrayDeque", name := "size", desc := "()I" } : Jvm.MethodName) jdk_21_method_37_code (1 : Nat) (Option.some Jvm.ClassFile.FieldType.int)).before args0 about1 = true := code_word (m := ⟨11, 9⟩) (meth := k11m9) (c := k11c9) (by decide +kernel) rfl rfl rfl (by decide +kernel)
set_option maxRecDepth 65536 in
theorem w_c20 : (Jvm.Cond.code ({ cls := "java/util/ArrayDeque", name := "sub", desc := "(III)I" } : Jvm.MethodName) jdk_21_method_9_code (3 : Nat) (Option.some Jvm.ClassFile.FieldType.int)).before args0 about1 = true := code_word (m := ⟨11, 2⟩) (meth := k11m2) (c := k11c2) (by decide +kernel) rfl rfl rfl (by decide +kernel)
set_option maxRecDepth 65536 in
theorem w_c21 : (Jvm.Cond.code ({ cls := "java/util/ArrayDeque$DeqIterator", name := "hasNext", desc := "()Z" } : Jvm.MethodName) jdk_54_method_2_code (1 : Nat) (Option.some Jvm.ClassFile.FieldType.boolean)).before args0 about1 = true := code_word (m := ⟨21, 1⟩) (meth := k21m1) (c := k21c1) (by decide +kernel) rfl rfl rfl (by decide +kernel)
set_option maxRecDepth 65536 in
theorem w_c22 : (Jvm.Cond.code ({ cls := "com/example/umpired/umpired/server/NodeLock$Waiter", name := "<init>", desc := "(Lcom/example/umpired/umpired/server/SessionHandle;Ljava/time/Duration;)V" } : Jvm.MethodName) prog_86_method_1_code (3 : Nat) (Option.none : Option Jvm.ClassFile.FieldType)).before args0 about1 = true := code_word (m := ⟨22, 0⟩) (meth := k22m0) (c := k22c0) (by decide +kernel) rfl rfl rfl (by decide +kernel)
set_option maxRecDepth 65536 in
theorem w_c23 : (Jvm.Cond.code ({ cls := "java/util/ArrayDeque", name := "add", desc := "(Ljava/lang/Object;)Z" } : Jvm.MethodName) jdk_21_method_28_code (2 : Nat) (Option.some Jvm.ClassFile.FieldType.boolean)).before args0 about1 = true := code_word (m := ⟨11, 7⟩) (meth := k11m7) (c := k11c7) (by decide +kernel) rfl rfl rfl (by decide +kernel)
set_option maxRecDepth 65536 in
theorem w_c24 : (Jvm.Cond.code ({ cls := "java/util/ArrayDeque", name := "addLast", desc := "(Ljava/lang/Object;)V" } : Jvm.MethodName) jdk_21_method_13_code (3 : Nat) (Option.none : Option Jvm.ClassFile.FieldType)).before args0 about1 = true := code_word (m := ⟨11, 5⟩) (meth := k11m5) (c := k11c5) (by decide +kernel) rfl rfl rfl (by decide +kernel)
set_option maxRecDepth 65536 in
theorem w_c25 : (Jvm.Cond.code ({ cls := "java/util/ArrayDeque", name := "inc", desc := "(II)I" } : Jvm.MethodName) jdk_21_method_6_code (2 : Nat) (Option.some Jvm.ClassFile.FieldType.int)).before args0 about1 = true := code_word (m := ⟨11, 1⟩) (meth := k11m1) (c := k11c1) (by decide +kernel) rfl rfl rfl (by decide +kernel)
set_option maxRecDepth 65536 in
theorem w_c26 : (Jvm.Cond.code ({ cls := "com/example/umpired/umpired/server/NodeLock", name := "endSession", desc := "(JZ)Lcom/example/umpired/umpired/server/SessionHandle;" } : Jvm.MethodName) prog_84_method_14_code (6 : Nat) (Option.some (Jvm.ClassFile.FieldType.object "com/example/umpired/umpired/server/SessionHandle"))).before args0 about1 = true := code_word (m := ⟨2, 6⟩) (meth := k2m6) (c := k2c6) (by decide +kernel) rfl rfl rfl (by decide +kernel)
set_option maxRecDepth 65536 in
theorem w_c27 : (Jvm.Cond.code ({ cls := "java/util/ArrayDeque$DeqIterator", name := "next", desc := "()Ljava/lang/Object;" } : Jvm.MethodName) jdk_54_method_3_code (3 : Nat) (Option.some (Jvm.ClassFile.FieldType.object "java/lang/Object"))).before args0 about1 = true := code_word (m := ⟨21, 2⟩) (meth := k21m2) (c := k21c2) (by decide +kernel) rfl rfl rfl (by decide +kernel)
set_option maxRecDepth 65536 in
theorem w_c28 : (Jvm.Cond.code ({ cls := "java/util/ArrayDeque", name := "nonNullElementAt", desc := "([Ljava/lang/Object;I)Ljava/lang/Object;" } : Jvm.MethodName) jdk_21_method_11_code (3 : Nat) (Option.some (Jvm.ClassFile.FieldType.object "java/lang/Object"))).before args0 about1 = true := code_word (m := ⟨11, 4⟩) (meth := k11m4) (c := k11c4) (by decide +kernel) rfl rfl rfl (by decide +kernel)
set_option maxRecDepth 65536 in
theorem w_c29 : (Jvm.Cond.code ({ cls := "com/example/umpired/umpired/server/SessionHandle", name := "session", desc := "()J" } : Jvm.MethodName) prog_89_method_2_code (1 : Nat) (Option.some Jvm.ClassFile.FieldType.long)).before args0 about1 = true := code_word (m := ⟨16, 1⟩) (meth := k16m1) (c := k16c1) (by decide +kernel) rfl rfl rfl (by decide +kernel)
set_option maxRecDepth 65536 in
theorem w_c30 : (Jvm.Cond.code ({ cls := "com/example/umpired/umpired/server/NodeLock", name := "isHeldBySession", desc := "(J)Z" } : Jvm.MethodName) prog_84_method_7_code (3 : Nat) (Option.some Jvm.ClassFile.FieldType.boolean)).before args0 about1 = true := code_word (m := ⟨2, 2⟩) (meth := k2m2) (c := k2c2) (by decide +kernel) rfl rfl rfl (by decide +kernel)
set_option maxRecDepth 65536 in
theorem w_c31 : (Jvm.Cond.code ({ cls := "java/time/Duration", name := "isZero", desc := "()Z" } : Jvm.MethodName) jdk_2316_method_21_code (1 : Nat) (Option.some Jvm.ClassFile.FieldType.boolean)).before args0 about1 = true := code_word (m := ⟨14, 0⟩) (meth := k14m0) (c := k14c0) (by decide +kernel) rfl rfl rfl (by decide +kernel)
set_option maxRecDepth 65536 in
theorem w_c32 : (Jvm.Cond.code ({ cls := "com/example/umpired/umpired/server/NodeLock", name := "endHoldBack", desc := "(J)Lcom/example/umpired/umpired/server/SessionHandle;" } : Jvm.MethodName) prog_84_method_16_code (4 : Nat) (Option.some (Jvm.ClassFile.FieldType.object "com/example/umpired/umpired/server/SessionHandle"))).before args0 about1 = true := code_word (m := ⟨2, 8⟩) (meth := k2m8) (c := k2c8) (by decide +kernel) rfl rfl rfl (by decide +kernel)
set_option maxRecDepth 65536 in
theorem w_c33 : (Jvm.Cond.code ({ cls := "com/example/umpired/umpired/server/NodeLock", name := "isHeldBackAfter", desc := "(J)Z" } : Jvm.MethodName) prog_84_method_10_code (3 : Nat) (Option.some Jvm.ClassFile.FieldType.boolean)).before args0 about1 = true := code_word (m := ⟨2, 4⟩) (meth := k2m4) (c := k2c4) (by decide +kernel) rfl rfl rfl (by decide +kernel)
def codes1 : List Jvm.Cond := [Jvm.Cond.code x code maxLocals ret, Jvm.Cond.code ({ cls := "com/example/umpired/umpired/server/NodeLock", name := "<init>", desc := "()V" } : Jvm.MethodName) prog_84_method_1_code (1 : Nat) (Option.none : Option Jvm.ClassFile.FieldType), Jvm.Cond.code ({ cls := "java/lang/Object", name := "<init>", desc := "()V" } : Jvm.MethodName) object_method_1_code (1 : Nat) (Option.none : Option Jvm.ClassFile.FieldType), Jvm.Cond.code ({ cls := "java/util/ArrayDeque", name := "<init>", desc := "()V" } : Jvm.MethodName) jdk_21_method_3_code (1 : Nat) (Option.none : Option Jvm.ClassFile.FieldType), Jvm.Cond.code ({ cls := "java/util/AbstractCollection", name := "<init>", desc := "()V" } : Jvm.MethodName) jdk_22_method_1_code (1 : Nat) (Option.none : Option Jvm.ClassFile.FieldType), Jvm.Cond.code ({ cls := "com/example/umpired/umpired/server/SessionHandle", name := "<init>", desc := "(JJ)V" } : Jvm.MethodName) prog_89_method_1_code (5 : Nat) (Option.none : Option Jvm.ClassFile.FieldType), Jvm.Cond.code ({ cls := "com/example/umpired/umpired/server/NodeLock", name := "isHeldAt", desc := "(J)Z" } : Jvm.MethodName) prog_84_method_8_code (3 : Nat) (Option.some Jvm.ClassFile.FieldType.boolean), Jvm.Cond.code ({ cls := "com/example/umpired/umpired/server/NodeLock", name := "holderLockDelay", desc := "()Ljava/time/Duration;" } : Jvm.MethodName) prog_84_method_15_code (1 : Nat) (Option.some (Jvm.ClassFile.FieldType.object "java/time/Duration")), Jvm.Cond.code ({ cls := "com/example/umpired/umpired/server/NodeLock", name := "acquire", desc := "(Lcom/example/umpired/umpired/server/SessionHandle;Ljava/time/Duration;Z)Lcom/example/umpired/umpired/server/NodeLock$Outcome;" } : Jvm.MethodName) prog_84_method_3_code (5 : Nat) (Option.some (Jvm.ClassFile.FieldType.object "com/example/umpired/umpired/server/NodeLock$Outcome")), Jvm.Cond.code ({ cls := "com/example/umpired/umpired/server/SessionHandle", name := "equals", desc := "(Ljava/lang/Object;)Z" } : Jvm.MethodName) prog_89_method_6_code (3 : Nat) (Option.some Jvm.ClassFile.FieldType.boolean), Jvm.Cond.code ({ cls := "com/example/umpired/umpired/server/NodeLock", name := "grant", desc := "(Lcom/example/umpired/umpired/server/SessionHandle;Ljava/time/Duration;)V" } : Jvm.MethodName) prog_84_method_23_code (3 : Nat) (Option.none : Option Jvm.ClassFile.FieldType), Jvm.Cond.code ({ cls := "com/example/umpired/umpired/server/NodeLock", name := "release", desc := "()Lcom/example/umpired/umpired/server/SessionHandle;" } : Jvm.MethodName) prog_84_method_13_code (1 : Nat) (Option.some (Jvm.ClassFile.FieldType.object "com/example/umpired/umpired/server/SessionHandle")), Jvm.Cond.code ({ cls := "com/example/umpired/umpired/server/NodeLock", name := "grantNext", desc := "()Lcom/example/umpired/umpired/server/SessionHandle;" } : Jvm.MethodName) prog_84_method_22_code (2 : Nat) (Option.some (Jvm.ClassFile.FieldType.object "com/example/umpired/umpired/server/SessionHandle")), Jvm.Cond.code ({ cls := "java/util/ArrayDeque", name := "poll", desc := "()Ljava/lang/Object;" } : Jvm.MethodName) jdk_21_method_31_code (1 : Nat) (Option.some (Jvm.ClassFile.FieldType.object "java/lang/Object")), Jvm.Cond.code ({ cls := "java/util/ArrayDeque", name := "pollFirst", desc := "()Ljava/lang/Object;" } : Jvm.MethodName) jdk_21_method_20_code (4 : Nat) (Option.some (Jvm.ClassFile.FieldType.object "java/lang/Object")), Jvm.Cond.code ({ cls := "java/util/ArrayDeque", name := "elementAt", desc := "([Ljava/lang/Object;I)Ljava/lang/Object;" } : Jvm.MethodName) jdk_21_method_10_code (2 : Nat) (Option.some (Jvm.ClassFile.FieldType.object "java/lang/Object")), Jvm.Cond.code ({ cls := "com/example/umpired/umpired/server/NodeLock", name := "isWaiting", desc := "(Lcom/example/umpired/umpired/server/SessionHandle;)Z" } : Jvm.MethodName) prog_84_method_21_code (4 : Nat) (Option.some Jvm.ClassFile.FieldType.boolean), Jvm.Cond.code ({ cls := "java/util/ArrayDeque", name := "iterator", desc := "()Ljava/util/Iterator;" } : Jvm.MethodName) jdk_21_method_39_code (1 : Nat) (Option.some (Jvm.ClassFile.FieldType.object "java/util/Iterator")), Jvm.Cond.code ({ cls := "java/util/ArrayDeque$DeqIterator", name := "<init>", desc := "(Ljava/util/ArrayDeque;)V" } : Jvm.MethodName) jdk_54_method_1_code (2 : Nat) (Option.none : Option Jvm.ClassFile.FieldType), Jvm.Cond.code ({ cls := "java/util/ArrayDeque", name := "size", desc := "()I" } : Jvm.MethodName) jdk_21_method_37_code (1 : Nat) (Option.some Jvm.ClassFile.FieldType.int), Jvm.Cond.code ({ cls := "java/util/ArrayDeque", name := "sub", desc := "(III)I" } : Jvm.MethodName) jdk_21_method_9_code (3 : Nat) (Option.some Jvm.ClassFile.FieldType.int), Jvm.Cond.code ({ cls := "java/util/ArrayDeque$DeqIterator", name := "hasNext", desc := "()Z" } : Jvm.MethodName) jdk_54_method_2_code (1 : Nat) (Option.some Jvm.ClassFile.FieldType.boolean), Jvm.Cond.code ({ cls := "com/example/umpired/umpired/server/NodeLock$Waiter", name := "<init>", desc := "(Lcom/example/umpired/umpired/server/SessionHandle;Ljava/time/Duration;)V" } : Jvm.MethodName) prog_86_method_1_code (3 : Nat) (Option.none : Option Jvm.ClassFile.FieldType), Jvm.Cond.code ({ cls := "java/util/ArrayDeque", name := "add", desc := "(Ljava/lang/Object;)Z" } : Jvm.MethodName) jdk_21_method_28_code (2 : Nat) (Option.some Jvm.ClassFile.FieldType.boolean), Jvm.Cond.code ({ cls := "java/util/ArrayDeque", name := "addLast", desc := "(Ljava/lang/Object;)V" } : Jvm.MethodName) jdk_21_method_13_code (3 : Nat) (Option.none : Option Jvm.ClassFile.FieldType), Jvm.Cond.code ({ cls := "java/util/ArrayDeque", name := "inc", desc := "(II)I" } : Jvm.MethodName) jdk_21_method_6_code (2 : Nat) (Option.some Jvm.ClassFile.FieldType.int), Jvm.Cond.code ({ cls := "com/example/umpired/umpired/server/NodeLock", name := "endSession", desc := "(JZ)Lcom/example/umpired/umpired/server/SessionHandle;" } : Jvm.MethodName) prog_84_method_14_code (6 : Nat) (Option.some (Jvm.ClassFile.FieldType.object "com/example/umpired/umpired/server/SessionHandle")), Jvm.Cond.code ({ cls := "java/util/ArrayDeque$DeqIterator", name := "next", desc := "()Ljava/lang/Object;" } : Jvm.MethodName) jdk_54_method_3_code (3 : Nat) (Option.some (Jvm.ClassFile.FieldType.object "java/lang/Object")), Jvm.Cond.code ({ cls := "java/util/ArrayDeque", name := "nonNullElementAt", desc := "([Ljava/lang/Object;I)Ljava/lang/Object;" } : Jvm.MethodName) jdk_21_method_11_code (3 : Nat) (Option.some (Jvm.ClassFile.FieldType.object "java/lang/Object")), Jvm.Cond.code ({ cls := "com/example/umpired/umpired/server/SessionHandle", name := "session", desc := "()J" } : Jvm.MethodName) prog_89_method_2_code (1 : Nat) (Option.some Jvm.ClassFile.FieldType.long), Jvm.Cond.code ({ cls := "com/example/umpired/umpired/server/NodeLock", name := "isHeldBySession", desc := "(J)Z" } : Jvm.MethodName) prog_84_method_7_code (3 : Nat) (Option.some Jvm.ClassFile.FieldType.boolean), Jvm.Cond.code ({ cls := "java/time/Duration", name := "isZero", desc := "()Z" } : Jvm.MethodName) jdk_2316_method_21_code (1 : Nat) (Option.some Jvm.ClassFile.FieldType.boolean), Jvm.Cond.code ({ cls := "com/example/umpired/umpired/server/NodeLock", name := "endHoldBack", desc := "(J)Lcom/example/umpired/umpired/server/SessionHandle;" } : Jvm.MethodName) prog_84_method_16_code (4 : Nat) (Option.some (Jvm.ClassFile.FieldType.object "com/example/umpired/umpired/server/SessionHandle")), Jvm.Cond.code ({ cls := "com/example/umpired/umpired/server/NodeLock", name := "isHeldBackAfter", desc := "(J)Z" } : Jvm.MethodName) prog_84_method_10_code (3 : Nat) (Option.some Jvm.ClassFile.FieldType.boolean)]
set_option maxRecDepth 65536 in
theorem codes_eq : words1.filter isCode = codes1 := rfl
theorem w_codes : ∀ c ∈ words1.filter isCode, c.before args0 about1 = true := by
  rw [codes_eq]
  intro c hc
  simp only [codes1, List.mem_cons, List.not_mem_nil, or_false] at hc
  rcases hc with rfl | rfl | rfl | rfl | rfl | rfl | rfl | rfl | rfl | rfl | rfl | rfl | rfl | rfl | rfl | rfl | rfl | rfl | rfl | rfl | rfl | rfl | rfl | rfl | rfl | rfl | rfl | rfl | rfl | rfl | rfl | rfl | rfl | rfl
  · exact w_c0
  · exact w_c1
  · exact w_c2
  · exact w_c3
  · exact w_c4
  · exact w_c5
  · exact w_c6
  · exact w_c7
  · exact w_c8
  · exact w_c9
  · exact w_c10
  · exact w_c11
  · exact w_c12
  · exact w_c13
  · exact w_c14
  · exact w_c15
  · exact w_c16
  · exact w_c17
  · exact w_c18
  · exact w_c19
  · exact w_c20
  · exact w_c21
  · exact w_c22
  · exact w_c23
  · exact w_c24
  · exact w_c25
  · exact w_c26
  · exact w_c27
  · exact w_c28
  · exact w_c29
  · exact w_c30
  · exact w_c31
  · exact w_c32
  · exact w_c33
set_option maxRecDepth 65536 in
theorem w_t1 : (words1.take 24).all (fun c => isCode c || c.before args0 about1) = true := by decide +kernel
set_option maxRecDepth 65536 in
theorem w_t2 : ((words1.drop 24).take 24).all (fun c => isCode c || c.before args0 about1) = true := by decide +kernel
set_option maxRecDepth 65536 in
theorem w_t3 : (((words1.drop 24).drop 24).take 24).all (fun c => isCode c || c.before args0 about1) = true := by decide +kernel
set_option maxRecDepth 65536 in
theorem w_t4 : ((((words1.drop 24).drop 24).drop 24).take 24).all (fun c => isCode c || c.before args0 about1) = true := by decide +kernel
set_option maxRecDepth 65536 in
theorem w_t5 : (((((words1.drop 24).drop 24).drop 24).drop 24).take 24).all (fun c => isCode c || c.before args0 about1) = true := by decide +kernel
set_option maxRecDepth 65536 in
theorem w_t6 : ((((((words1.drop 24).drop 24).drop 24).drop 24).drop 24).take 24).all (fun c => isCode c || c.before args0 about1) = true := by decide +kernel
set_option maxRecDepth 65536 in
theorem w_t7 : (((((((words1.drop 24).drop 24).drop 24).drop 24).drop 24).drop 24).take 24).all (fun c => isCode c || c.before args0 about1) = true := by decide +kernel
set_option maxRecDepth 65536 in
theorem w_t8 : ((((((((words1.drop 24).drop 24).drop 24).drop 24).drop 24).drop 24).drop 24).take 24).all (fun c => isCode c || c.before args0 about1) = true := by decide +kernel
set_option maxRecDepth 65536 in
theorem w_t9 : (((((((((words1.drop 24).drop 24).drop 24).drop 24).drop 24).drop 24).drop 24).drop 24).take 24).all (fun c => isCode c || c.before args0 about1) = true := by decide +kernel
set_option maxRecDepth 65536 in
theorem w_t10 : ((((((((((words1.drop 24).drop 24).drop 24).drop 24).drop 24).drop 24).drop 24).drop 24).drop 24).take 24).all (fun c => isCode c || c.before args0 about1) = true := by decide +kernel
set_option maxRecDepth 65536 in
theorem w_t11 : ((((((((((words1.drop 24).drop 24).drop 24).drop 24).drop 24).drop 24).drop 24).drop 24).drop 24).drop 24).all (fun c => isCode c || c.before args0 about1) = true := by decide +kernel
theorem w_tables : (allAtoms (Jvm.Cond.code x code maxLocals ret :: tables_1)).before args0 about1 = true := by
  rw [allAtoms_all]
  show words1.all (fun c => c.before args0 about1) = true
  refine all_split ?_ w_codes
  rw [← List.take_append_drop 24 words1, List.all_append, w_t1, ← List.take_append_drop 24 (words1.drop 24), List.all_append, w_t2, ← List.take_append_drop 24 ((words1.drop 24).drop 24), List.all_append, w_t3, ← List.take_append_drop 24 (((words1.drop 24).drop 24).drop 24), List.all_append, w_t4, ← List.take_append_drop 24 ((((words1.drop 24).drop 24).drop 24).drop 24), List.all_append, w_t5, ← List.take_append_drop 24 (((((words1.drop 24).drop 24).drop 24).drop 24).drop 24), List.all_append, w_t6, ← List.take_append_drop 24 ((((((words1.drop 24).drop 24).drop 24).drop 24).drop 24).drop 24), List.all_append, w_t7, ← List.take_append_drop 24 (((((((words1.drop 24).drop 24).drop 24).drop 24).drop 24).drop 24).drop 24), List.all_append, w_t8, ← List.take_append_drop 24 ((((((((words1.drop 24).drop 24).drop 24).drop 24).drop 24).drop 24).drop 24).drop 24), List.all_append, w_t9, ← List.take_append_drop 24 (((((((((words1.drop 24).drop 24).drop 24).drop 24).drop 24).drop 24).drop 24).drop 24).drop 24), List.all_append, w_t10, w_t11]
  rfl
set_option maxRecDepth 65536 in
theorem w_rest : rest_1_c.before args0 about1 = true := by decide +kernel
set_option maxRecDepth 65536 in
theorem w_case : (Jvm.Cond.and given_1 narrow_1).before args0 about1 = true := by decide +kernel
theorem w_applies : (headSpec (Jvm.Cond.code x code maxLocals ret :: tables_1) room_1).applies x e0.platform about1 = true :=
  (Spec.applies_iff w_frames).mpr ⟨w_running, w_runnable, w_alone, w_named, w_hears, w_ripe, w_room, w_tables⟩
theorem atStart : AtStart classFile x code maxLocals ret World_1 tables_1 room_1 Calls_1 rest_1 Pre_1 launch0 p0 e0 about1 theMethod args0 below0 :=
  ⟨lists_1, trivial, launch0.admits_env _ _ _, launch0.least_env, fairChoices_fair.cas, fairChoices_fair.clock, w_frames, w_args, w_heap, w_applies, trivial, w_rest, w_case⟩
end start1
theorem witness_1 : WitnessClaimed_1 := ⟨start1.p0, start1.e0, start1.about1, start1.theMethod, start1.args0, start1.below0, start1.atStart⟩
end Jvm.Pilot.@@N@@
