import JvmDerived
import JvmDerived.Pilot.@@N@@Statement
import JvmDerived.Pilot.@@N@@Code
set_option linter.unusedVariables false
set_option linter.unusedSimpArgs false
namespace Jvm.Pilot.@@N@@
open Jvm Jvm.ClassFile Sem Op Lib Jvm.Free Jvm.Stand Jvm.LawKit Jvm.RoadKit Bundle Jvm.Pilot.@@N@@.Jvm.D
/-- from S the body ends as Q says -/
def own_G (tb : Tables) (e : Env) (below : List Frame) (Q : State → Outcome → Prop) (S : State) : Prop := ∃ s₂ o, Steps tb e below S s₂ ∧ s₂.status = .running ∧ Ended s₂ below o ∧ Q s₂ o
theorem own_via {tb : Tables} {e : Env} {below : List Frame} {Q : State → Outcome → Prop} {S S' : State} (h : ∀ t, Steps tb e below S' t → Steps tb e below S t) (g : own_G tb e below Q S') : own_G tb e below Q S := by
  obtain ⟨t, o, k, r⟩ := g
  exact ⟨t, o, h t k, r⟩
def own_P (U : State) (Q : Option Value → Heap → List Loc → Prop) (cells slots : Nat) : State → Outcome → Prop := fun U' o => ∃ v L, o = .returned v ∧ Q v U'.heap L ∧ FrameEnd U o U' L cells slots
theorem own_end {p : Program} {l : Launch} {e : Env} {R : Room} {s : State} {m : MethodId} {args : Array Value} {below : List Frame} {meth : Method} {c : Code} {T : State} {locs : List Loc} {cells slots C S : Nat} {Q : Option Value → Heap → List Loc → Prop} {h : Heap} {G : State}
    (X : Stand p l e R s m args below meth c T locs cells slots) {v : Option Value} (hlk : meth.locks = false) (hv : meth.sig.returnType = none → v = none)
    (st : ∀ fs, (∀ (f : JFrame) (acts : List Action), f.method = m → f.locked = none → f.entered = [] → (doReturn e (T.setTop f) acts v).1 = T.setFrames fs) → Steps p.tables e below G (T.setFrames fs))
    (eT : T.heap = h) (hq : Q v h locs) (h1 : cells ≤ C) (h2 : slots ≤ S) : own_G p.tables e below (own_P s Q C S) G := by
  obtain ⟨fs, hr, hrun, hended, hW, hsame⟩ := X.leave (v := v) hv hlk
  exact ⟨_, _, st fs hr, hrun, hended, _, _, rfl, eT ▸ hq, ⟨_, rfl⟩, hW, hsame.mono h1 h2⟩
def own_PW (U : State) (Q : Option Value → Heap → List Loc → Prop) (cells slots : Nat) : State → Outcome → Prop := fun U' o => ∃ v L, o = .returned v ∧ Q v U'.heap L ∧ ReturnedEndW U o U' L cells slots
theorem own_since (s : State) : s.Since s.vm 0 := ⟨State.Warmed39.refl s, fun j p hj hp => by
  have h := (Array.getElem?_eq_some_iff.mp hp).1
  exact absurd h (Nat.not_lt.mpr hj)⟩
theorem own_endW {p : Program} {l : Launch} {e : Env} {R : Room} {s : State} {vm1 : Vm} {m : MethodId} {args : Array Value} {below : List Frame} {meth : Method} {c : Code} {T : State} {locs : List Loc} {cells slots C S n : Nat} {Q : Option Value → Heap → List Loc → Prop} {h : Heap} {G : State}
    (X : Stand p l e R (s.setVm vm1) m args below meth c T locs cells slots) (hS : s.Since vm1 n) {v : Option Value} (hlk : meth.locks = false) (hv : meth.sig.returnType = none → v = none)
    (st : ∀ fs, (∀ (f : JFrame) (acts : List Action), f.method = m → f.locked = none → f.entered = [] → (doReturn e (T.setTop f) acts v).1 = T.setFrames fs) → Steps p.tables e below G (T.setFrames fs))
    (eT : T.heap = h) (hn : n ≤ T.heap.size) (hq : Q v h locs) (h1 : cells ≤ C) (h2 : slots ≤ S) : own_G p.tables e below (own_PW s Q C S) G := by
  obtain ⟨fs, hr, hrun, hended, hE⟩ := X.leaveW hS hn (v := v) hv hlk
  exact ⟨_, _, st fs hr, hrun, hended, _, _, rfl, eT ▸ hq, hE.1, hE.2.1, hE.2.2.1, hE.2.2.2.mono h1 h2⟩
def own_su (g : Int32) (t : Int64) : Int32 := if (g &&& (2 : Int32)) = 0 then 0 else if 0 < t then 1 else 0
def own_ex (g : Int32) (t : Int64) : Int32 := if (((g.toUInt32 >>> ((1 : Int32) &&& 31).toUInt32).toInt32) &&& (1 : Int32)) = 1 then (if t < 1 then 0 else 1) else 0
theorem own_b1 (g : Int32) : (g &&& (2 : Int32)) = 0 ↔ ¬ (((g.toUInt32 >>> ((1 : Int32) &&& 31).toUInt32).toInt32) &&& (1 : Int32)) = 1 := by
  have h1 := c_iushr g (1 : Int32) 1 (by decide) (by decide)
  have h2 := c_mask ((g.toUInt32 >>> ((1 : Int32) &&& 31).toUInt32).toInt32) (1 : Int32) 1 (by decide) (by decide)
  have h3 : (g &&& (2 : Int32)) = 0 ↔ g.toBitVec.toNat.testBit 1 = false := by
    constructor
    · intro h
      have h4 := congrArg (fun z : Int32 => z.toBitVec.toNat.testBit 1) h
      simp only [Int32.toBitVec_and, BitVec.toNat_and, Nat.testBit_and] at h4
      rw [show (2 : Int32).toBitVec.toNat.testBit 1 = true by decide, show (0 : Int32).toBitVec.toNat.testBit 1 = false by decide, Bool.and_true] at h4
      exact h4
    · intro h
      refine Int32.toBitVec_inj.mp (BitVec.eq_of_toNat_eq (Nat.eq_of_testBit_eq fun i => ?_))
      simp only [Int32.toBitVec_and, BitVec.toNat_and, Nat.testBit_and]
      rw [show (2 : Int32).toBitVec.toNat = 2 ^ 1 by decide, show (0 : Int32).toBitVec.toNat = 0 by decide, Nat.testBit_two_pow, Nat.zero_testBit]
      by_cases q : 1 = i
      · subst q; rw [h]; rfl
      · simp [q]
  have h5 : g.toInt % 4294967296 = g.toBitVec.toNat := by
    have e : g.toInt = g.toBitVec.toInt := rfl
    rw [e, BitVec.toInt_eq_toNat_bmod]
    have hl := g.toBitVec.isLt
    rw [show (4294967296 : Int) = ((2 ^ 32 : Nat) : Int) by decide, Int.bmod_emod]
    omega
  have h6 : g.toBitVec.toNat.testBit 1 = decide (g.toBitVec.toNat / 2 % 2 = 1) := by rw [Nat.testBit_eq_decide_div_mod_eq]
  rw [h3, h6]
  have h7 : ((((g.toUInt32 >>> ((1 : Int32) &&& 31).toUInt32).toInt32) &&& (1 : Int32)) = 1) ↔ ((((g.toUInt32 >>> ((1 : Int32) &&& 31).toUInt32).toInt32) &&& (1 : Int32)).toInt = 1) := by
    rw [← Int32.toInt_inj, show (1 : Int32).toInt = 1 by decide]
  rw [h7, h2, h1, h5, decide_eq_false_iff_not]
  omega
theorem own_a (g : Int32) (t : Int64) : own_su g t = own_ex g t := by
  have h := own_b1 g
  unfold own_su own_ex
  generalize (((g.toUInt32 >>> ((1 : Int32) &&& 31).toUInt32).toInt32) &&& (1 : Int32)) = y at *
  grind
theorem own_b (g : Int32) (t : Int64) : own_su (g &&& (-3 : Int32)) t = 0 := by
  unfold own_su
  rw [Int32.and_assoc, show (-3 : Int32) &&& 2 = 0 by decide, Int32.and_zero, if_pos rfl]
theorem own_c2 (g : Int32) : ¬ ((g ||| (2 : Int32)) &&& (2 : Int32)) = 0 := by
  intro h
  have h4 := congrArg (fun z : Int32 => z.toBitVec.toNat.testBit 1) h
  simp only [Int32.toBitVec_and, Int32.toBitVec_or, BitVec.toNat_and, BitVec.toNat_or, Nat.testBit_and, Nat.testBit_or] at h4
  rw [show (2 : Int32).toBitVec.toNat.testBit 1 = true by decide, show (0 : Int32).toBitVec.toNat.testBit 1 = false by decide] at h4
  simp at h4
theorem own_c1 (g : Int32) (t : Int64) (h : 0 < t) : own_su (g ||| (2 : Int32)) t = 1 := by unfold own_su; rw [if_neg (own_c2 g), if_pos h]
theorem own_c0 (g : Int32) (t : Int64) (h : ¬ 0 < t) : own_su (g ||| (2 : Int32)) t = 0 := by unfold own_su; rw [if_neg (own_c2 g), if_neg h]
theorem d2_0 : decode jdk_30_method_1_code 0 = .ok (.aload_n 0, 1) := by decide +kernel
theorem d2_1 : decode jdk_30_method_1_code 1 = .ok (.invokespecial 1, 3) := by decide +kernel
theorem d2_4 : decode jdk_30_method_1_code 4 = .ok (.return_, 1) := by decide +kernel
theorem pn2 : plainName "java/lang/Record" = true := by first | (simp [plainName, overriddenIn]; done) | decide +kernel
theorem ef2 (m : MethodId) (x0 : Addr) : entryFrame m #[(.ref x0)] 1 = mkF m 0 #[.val (.ref x0)] [] := by first | (simp [entryFrame, mkF, argsToLocals, Value.category]; done) | rfl
def Q2 (Z : State) (a1 : Addr) (h0 : Heap) (n0 : Nat) (v : Option Value) (h : Heap) (L : List Loc) : Prop := v = none ∧ Fr n0 L ∧ h = h0
set_option maxRecDepth 65536 in
set_option maxHeartbeats 40000000 in
theorem rm2 (l : Launch) (Z : State) (a0 : Array Value) (hw : ∀ d ∈ tables_1, d.before a0 Z = true) (ws : List Jvm.Cond) (a1 : Addr) (h0 : Heap) (n0 : Nat) (Z0 : n0 ≤ h0.size) :
    MetFree l (⟨"java/lang/Record", "<init>", "()V"⟩ : MethodName) (head1 (Jvm.Cond.code (⟨"java/lang/Record", "<init>", "()V"⟩ : MethodName) jdk_30_method_1_code 1 none :: ws) ({ frames := 1, cells := 0, slots := 0, locals := 12 } : Room)) (fun a U => a = #[(.ref a1)] ∧ Z.Warmed39 U.vm ∧ U.heap = h0) (fun _ _ _ _ _ => True) (fun _ U o U' => ∃ v L, o = .returned v ∧ Q2 Z a1 h0 n0 v U'.heap L ∧ FrameEnd U o U' L ({ frames := 1, cells := 0, slots := 0, locals := 12 } : Room).cells ({ frames := 1, cells := 0, slots := 0, locals := 12 } : Room).slots) := by
  refine MetFree.of_bodySF (plainFor_of_name pn2) hisR ?_
  intro p e s m args below meth c s₁ Bd hml0 hP hK
  obtain ⟨rfl, hZ, hh⟩ := hP
  have hx := Bd.exec
  have hby := Bd.bytes
  have hml : c.maxLocals = 1 := hml0
  have hown : s.vm.findClass "java/lang/Record" = some m.cls := findClass_of_methodNamed Bd.named
  have hnm := (name_of_methodNamed Bd.named Bd.method).1
  have X0 : Stand p l e ({ frames := 1, cells := 0, slots := 0, locals := 12 } : Room) s m #[(.ref a1)] below meth c s₁ [] 0 0 := Stand.of_body Bd
  have e0 : s₁.heap = h0 := by rw [← hh, Bd.state]; rfl
  have N0 := Fr.nil n0
  refine (show own_G p.tables e below (own_P s (Q2 Z a1 h0 n0) 0 0) (s₁.setTop (entryFrame m #[(.ref a1)] 1)) from ?_)
  refine own_via (fun t k => castTop (ef2 m a1) k) ?_
  show own_G p.tables e below _ (s₁.setTop (mkF m 0 #[.val (.ref a1)] []))
  refine own_via (S' := s₁.setTop (mkF m 1 #[.val (.ref a1)] [(.ref a1)])) (fun t k => ?_) ?_
  · show Steps p.tables e below (s₁.setTop (mkF m 0 #[.val (.ref a1)] [])) t
    refine XS.aloadN X0.here hx rfl (hb hby d2_0) rfl rfl ?_
    exact k
  obtain ⟨T1, X1, e1, st1⟩ := initO X0 hx hZ hown (hw _ (List.mem_of_getElem? (i := 20) rfl)) (hw _ (List.mem_of_getElem? (i := 21) rfl)) (hw _ (List.mem_of_getElem? (i := 22) rfl)) e0 (g := (mkF m 1 #[.val (.ref a1)] [(.ref a1)])) rfl (by rw [hml]; rfl) rfl (hb hby d2_1) (by decide) (W := 0) (by show 2 * 0 + _ ≤ _; exact Nat.le_of_eq rfl) (by decide)
  refine own_via st1 ?_
  show own_G p.tables e below _ (T1.setTop (mkF m 4 #[.val (.ref a1)] []))
  exact own_end (h := h0) X1 (v := none) Bd.notSynchronized (fun _ => rfl) (fun fs hr => X1.returnOut hx Bd.returns (hb hby d2_4) hr) e1 ⟨rfl, N0, rfl⟩ (by decide) (by decide)
theorem d1_0 : decode prog_40_method_2_code 0 = .ok (.aload_n 0, 1) := by decide +kernel
theorem d1_1 : decode prog_40_method_2_code 1 = .ok (.invokespecial 1, 3) := by decide +kernel
theorem d1_4 : decode prog_40_method_2_code 4 = .ok (.aload_n 0, 1) := by decide +kernel
theorem d1_5 : decode prog_40_method_2_code 5 = .ok (.aload_n 1, 1) := by decide +kernel
theorem d1_6 : decode prog_40_method_2_code 6 = .ok (.putfield 7, 3) := by decide +kernel
theorem d1_9 : decode prog_40_method_2_code 9 = .ok (.aload_n 0, 1) := by decide +kernel
theorem d1_10 : decode prog_40_method_2_code 10 = .ok (.aload_n 2, 1) := by decide +kernel
theorem d1_11 : decode prog_40_method_2_code 11 = .ok (.putfield 13, 3) := by decide +kernel
theorem d1_14 : decode prog_40_method_2_code 14 = .ok (.aload_n 0, 1) := by decide +kernel
theorem d1_15 : decode prog_40_method_2_code 15 = .ok (.iload_n 3, 1) := by decide +kernel
theorem d1_16 : decode prog_40_method_2_code 16 = .ok (.putfield 16, 3) := by decide +kernel
theorem d1_19 : decode prog_40_method_2_code 19 = .ok (.aload_n 0, 1) := by decide +kernel
theorem d1_20 : decode prog_40_method_2_code 20 = .ok (.lload 4, 2) := by decide +kernel
theorem d1_22 : decode prog_40_method_2_code 22 = .ok (.putfield 20, 3) := by decide +kernel
theorem d1_25 : decode prog_40_method_2_code 25 = .ok (.aload_n 0, 1) := by decide +kernel
theorem d1_26 : decode prog_40_method_2_code 26 = .ok (.iload 6, 2) := by decide +kernel
theorem d1_28 : decode prog_40_method_2_code 28 = .ok (.putfield 24, 3) := by decide +kernel
theorem d1_31 : decode prog_40_method_2_code 31 = .ok (.aload_n 0, 1) := by decide +kernel
theorem d1_32 : decode prog_40_method_2_code 32 = .ok (.iload 7, 2) := by decide +kernel
theorem d1_34 : decode prog_40_method_2_code 34 = .ok (.putfield 27, 3) := by decide +kernel
theorem d1_37 : decode prog_40_method_2_code 37 = .ok (.aload_n 0, 1) := by decide +kernel
theorem d1_38 : decode prog_40_method_2_code 38 = .ok (.lload 8, 2) := by decide +kernel
theorem d1_40 : decode prog_40_method_2_code 40 = .ok (.putfield 30, 3) := by decide +kernel
theorem d1_43 : decode prog_40_method_2_code 43 = .ok (.aload_n 0, 1) := by decide +kernel
theorem d1_44 : decode prog_40_method_2_code 44 = .ok (.lload 10, 2) := by decide +kernel
theorem d1_46 : decode prog_40_method_2_code 46 = .ok (.putfield 33, 3) := by decide +kernel
theorem d1_49 : decode prog_40_method_2_code 49 = .ok (.aload_n 0, 1) := by decide +kernel
theorem d1_50 : decode prog_40_method_2_code 50 = .ok (.lload 12, 2) := by decide +kernel
theorem d1_52 : decode prog_40_method_2_code 52 = .ok (.putfield 36, 3) := by decide +kernel
theorem d1_55 : decode prog_40_method_2_code 55 = .ok (.aload_n 0, 1) := by decide +kernel
theorem d1_56 : decode prog_40_method_2_code 56 = .ok (.aload 14, 2) := by decide +kernel
theorem d1_58 : decode prog_40_method_2_code 58 = .ok (.putfield 39, 3) := by decide +kernel
theorem d1_61 : decode prog_40_method_2_code 61 = .ok (.aload_n 0, 1) := by decide +kernel
theorem d1_62 : decode prog_40_method_2_code 62 = .ok (.aload 15, 2) := by decide +kernel
theorem d1_64 : decode prog_40_method_2_code 64 = .ok (.putfield 42, 3) := by decide +kernel
theorem d1_67 : decode prog_40_method_2_code 67 = .ok (.return_, 1) := by decide +kernel
theorem pn1 : plainName "com/example/qiantang/qiantang/protocol/PullMessageRequest" = true := by first | (simp [plainName, overriddenIn]; done) | decide +kernel
theorem pd_0 : parseMethodDescriptor "()V" = some ⟨[], none⟩ := by decide +kernel
theorem ef1RR (m : MethodId) (x0 : Addr) (x1 : Addr) (x2 : Addr) (x3 : Int32) (x4 : Int64) (x5 : Int32) (x6 : Int32) (x7 : Int64) (x8 : Int64) (x9 : Int64) (x10 : Addr) (x11 : Addr) : entryFrame m #[(.ref x0), (.ref x1), (.ref x2), (.int x3), (.long x4), (.int x5), (.int x6), (.long x7), (.long x8), (.long x9), (.ref x10), (.ref x11)] 16 = mkF m 0 #[.val (.ref x0), .val (.ref x1), .val (.ref x2), .val (.int x3), .val (.long x4), .second, .val (.int x5), .val (.int x6), .val (.long x7), .second, .val (.long x8), .second, .val (.long x9), .second, .val (.ref x10), .val (.ref x11)] [] := by first | (simp [entryFrame, mkF, argsToLocals, Value.category]; done) | rfl
def Q1RR (Z : State) (a1 : Addr) (x0 : Addr) (x1 : Addr) (x2 : Int32) (x3 : Int64) (x4 : Int32) (x5 : Int32) (x6 : Int64) (x7 : Int64) (x8 : Int64) (x9 : Addr) (x10 : Addr) (h0 : Heap) (n0 : Nat) (v : Option Value) (h : Heap) (L : List Loc) : Prop := v = none ∧ Fr n0 L ∧ Keep h0 h [a1] ∧ Exa Z h a1 "com/example/qiantang/qiantang/protocol/PullMessageRequest" ∧ Fld Z h a1 "com/example/qiantang/qiantang/protocol/PullMessageRequest" "consumerGroup" "Ljava/lang/String;" (.ref x0) ∧ Fld Z h a1 "com/example/qiantang/qiantang/protocol/PullMessageRequest" "topic" "Ljava/lang/String;" (.ref x1) ∧ Fld Z h a1 "com/example/qiantang/qiantang/protocol/PullMessageRequest" "queueId" "I" (.int x2) ∧ Fld Z h a1 "com/example/qiantang/qiantang/protocol/PullMessageRequest" "queueOffset" "J" (.long x3) ∧ Fld Z h a1 "com/example/qiantang/qiantang/protocol/PullMessageRequest" "maxMsgNums" "I" (.int x4) ∧ Fld Z h a1 "com/example/qiantang/qiantang/protocol/PullMessageRequest" "sysFlag" "I" (.int x5) ∧ Fld Z h a1 "com/example/qiantang/qiantang/protocol/PullMessageRequest" "commitOffset" "J" (.long x6) ∧ Fld Z h a1 "com/example/qiantang/qiantang/protocol/PullMessageRequest" "suspendTimeoutMillis" "J" (.long x7) ∧ Fld Z h a1 "com/example/qiantang/qiantang/protocol/PullMessageRequest" "subVersion" "J" (.long x8) ∧ Fld Z h a1 "com/example/qiantang/qiantang/protocol/PullMessageRequest" "subscription" "Ljava/lang/String;" (.ref x9) ∧ Fld Z h a1 "com/example/qiantang/qiantang/protocol/PullMessageRequest" "expressionType" "Ljava/lang/String;" (.ref x10)
set_option maxRecDepth 65536 in
set_option maxHeartbeats 40000000 in
theorem rm1RR (l : Launch) (Z : State) (a0 : Array Value) (hw : ∀ d ∈ tables_1, d.before a0 Z = true) (ws : List Jvm.Cond) (a1 : Addr) (x0 : Addr) (x1 : Addr) (x2 : Int32) (x3 : Int64) (x4 : Int32) (x5 : Int32) (x6 : Int64) (x7 : Int64) (x8 : Int64) (x9 : Addr) (x10 : Addr) (h0 : Heap) (n0 : Nat) (Z0 : n0 ≤ h0.size) (F0_0 : Fld Z h0 a1 "com/example/qiantang/qiantang/protocol/PullMessageRequest" "consumerGroup" "Ljava/lang/String;" .null) (F1_0 : Fld Z h0 a1 "com/example/qiantang/qiantang/protocol/PullMessageRequest" "topic" "Ljava/lang/String;" .null) (F2_0 : Fld Z h0 a1 "com/example/qiantang/qiantang/protocol/PullMessageRequest" "queueId" "I" (.int (0 : Int32))) (F3_0 : Fld Z h0 a1 "com/example/qiantang/qiantang/protocol/PullMessageRequest" "queueOffset" "J" (.long (0 : Int64))) (F4_0 : Fld Z h0 a1 "com/example/qiantang/qiantang/protocol/PullMessageRequest" "maxMsgNums" "I" (.int (0 : Int32))) (F5_0 : Fld Z h0 a1 "com/example/qiantang/qiantang/protocol/PullMessageRequest" "sysFlag" "I" (.int (0 : Int32))) (F6_0 : Fld Z h0 a1 "com/example/qiantang/qiantang/protocol/PullMessageRequest" "commitOffset" "J" (.long (0 : Int64))) (F7_0 : Fld Z h0 a1 "com/example/qiantang/qiantang/protocol/PullMessageRequest" "suspendTimeoutMillis" "J" (.long (0 : Int64))) (F8_0 : Fld Z h0 a1 "com/example/qiantang/qiantang/protocol/PullMessageRequest" "subVersion" "J" (.long (0 : Int64))) (F9_0 : Fld Z h0 a1 "com/example/qiantang/qiantang/protocol/PullMessageRequest" "subscription" "Ljava/lang/String;" .null) (F10_0 : Fld Z h0 a1 "com/example/qiantang/qiantang/protocol/PullMessageRequest" "expressionType" "Ljava/lang/String;" .null) (E_a1 : Exa Z h0 a1 "com/example/qiantang/qiantang/protocol/PullMessageRequest") (g_a1 : n0 ≤ a1) :
    MetFree l (⟨"com/example/qiantang/qiantang/protocol/PullMessageRequest", "<init>", "(Ljava/lang/String;Ljava/lang/String;IJIIJJJLjava/lang/String;Ljava/lang/String;)V"⟩ : MethodName) (head1 (Jvm.Cond.code (⟨"com/example/qiantang/qiantang/protocol/PullMessageRequest", "<init>", "(Ljava/lang/String;Ljava/lang/String;IJIIJJJLjava/lang/String;Ljava/lang/String;)V"⟩ : MethodName) prog_40_method_2_code 16 none :: ws) ({ frames := 2, cells := 0, slots := 0, locals := 24 } : Room)) (fun a U => a = #[(.ref a1), (.ref x0), (.ref x1), (.int x2), (.long x3), (.int x4), (.int x5), (.long x6), (.long x7), (.long x8), (.ref x9), (.ref x10)] ∧ Z.Warmed39 U.vm ∧ U.heap = h0) (fun _ _ _ _ _ => True) (fun _ U o U' => ∃ v L, o = .returned v ∧ Q1RR Z a1 x0 x1 x2 x3 x4 x5 x6 x7 x8 x9 x10 h0 n0 v U'.heap L ∧ FrameEnd U o U' L ({ frames := 2, cells := 0, slots := 0, locals := 24 } : Room).cells ({ frames := 2, cells := 0, slots := 0, locals := 24 } : Room).slots) := by
  refine MetFree.of_bodySF (plainFor_of_name pn1) hisR ?_
  intro p e s m args below meth c s₁ Bd hml0 hP hK
  obtain ⟨rfl, hZ, hh⟩ := hP
  have hx := Bd.exec
  have hby := Bd.bytes
  have hml : c.maxLocals = 16 := hml0
  have hown : s.vm.findClass "com/example/qiantang/qiantang/protocol/PullMessageRequest" = some m.cls := findClass_of_methodNamed Bd.named
  have hnm := (name_of_methodNamed Bd.named Bd.method).1
  have X0 : Stand p l e ({ frames := 2, cells := 0, slots := 0, locals := 24 } : Room) s m #[(.ref a1), (.ref x0), (.ref x1), (.int x2), (.long x3), (.int x4), (.int x5), (.long x6), (.long x7), (.long x8), (.ref x9), (.ref x10)] below meth c s₁ [] 0 0 := Stand.of_body Bd
  have e0 : s₁.heap = h0 := by rw [← hh, Bd.state]; rfl
  have N0 := Fr.nil n0
  refine (show own_G p.tables e below (own_P s (Q1RR Z a1 x0 x1 x2 x3 x4 x5 x6 x7 x8 x9 x10 h0 n0) 0 0) (s₁.setTop (entryFrame m #[(.ref a1), (.ref x0), (.ref x1), (.int x2), (.long x3), (.int x4), (.int x5), (.long x6), (.long x7), (.long x8), (.ref x9), (.ref x10)] 16)) from ?_)
  refine own_via (fun t k => castTop (ef1RR m a1 x0 x1 x2 x3 x4 x5 x6 x7 x8 x9 x10) k) ?_
  show own_G p.tables e below _ (s₁.setTop (mkF m 0 #[.val (.ref a1), .val (.ref x0), .val (.ref x1), .val (.int x2), .val (.long x3), .second, .val (.int x4), .val (.int x5), .val (.long x6), .second, .val (.long x7), .second, .val (.long x8), .second, .val (.ref x9), .val (.ref x10)] []))
  have K0 := Keep.refl h0 [a1]
  refine own_via (S' := s₁.setTop (mkF m 1 #[.val (.ref a1), .val (.ref x0), .val (.ref x1), .val (.int x2), .val (.long x3), .second, .val (.int x4), .val (.int x5), .val (.long x6), .second, .val (.long x7), .second, .val (.long x8), .second, .val (.ref x9), .val (.ref x10)] [(.ref a1)])) (fun t k => ?_) ?_
  · show Steps p.tables e below (s₁.setTop (mkF m 0 #[.val (.ref a1), .val (.ref x0), .val (.ref x1), .val (.int x2), .val (.long x3), .second, .val (.int x4), .val (.int x5), .val (.long x6), .second, .val (.long x7), .second, .val (.long x8), .second, .val (.ref x9), .val (.ref x10)] [])) t
    refine XS.aloadN X0.here hx rfl (hb hby d1_0) rfl rfl ?_
    exact k
  obtain ⟨_, _, ⟨T1, L1, k1, n1⟩, -, X1, ⟨Lc1, hQ1, l1, y1, z1⟩, st1⟩ := X0.specialBack hx (y := (⟨"java/lang/Record", "<init>", "()V"⟩ : MethodName)) rfl hown (mvT hZ (hw _ (List.mem_of_getElem? (i := 15) rfl))) (mvT hZ (hw _ (List.mem_of_getElem? (i := 16) rfl))) (mvT hZ (hw _ (List.mem_of_getElem? (i := 19) rfl))) (by decide) (backOf (W := 0) (rm2 l Z a0 hw [] a1 h0 n0 (Nat.le_trans Z0 K0.1)) hZ (hw _ (List.mem_of_getElem? (i := 19) rfl)) (hw _ (List.mem_of_getElem? (i := 18) rfl)) (by decide) (by decide)) (g := (mkF m 1 #[.val (.ref a1), .val (.ref x0), .val (.ref x1), .val (.int x2), .val (.long x3), .second, .val (.int x4), .val (.int x5), .val (.long x6), .second, .val (.long x7), .second, .val (.long x8), .second, .val (.ref x9), .val (.ref x10)] [(.ref a1)])) rfl (by rw [hml]; rfl) (Steps.refl _) (a := a1) (argsL := []) (rest := []) (lenOf pd_0 rfl) rfl (by show 2 * 0 + _ ≤ _; exact Nat.le_of_eq rfl) (hb hby d1_1) (fun _ _ => ⟨rfl, e0, (by decide : 0 + 0 ≤ _), (by decide : 0 + 0 ≤ _)⟩)
  dsimp only [Pt.U, Pt.locs, Pt.cells, Pt.slots] at X1 l1 y1 z1 st1 hQ1
  subst l1 y1 z1
  obtain ⟨rfl, Nq1, hh1⟩ := hQ1
  have N1 := Fr.app N0 Nq1
  refine own_via (fun t k => st1.trans k) ?_
  show own_G p.tables e below _ (T1.setTop (mkF m 4 #[.val (.ref a1), .val (.ref x0), .val (.ref x1), .val (.int x2), .val (.long x3), .second, .val (.int x4), .val (.int x5), .val (.long x6), .second, .val (.long x7), .second, .val (.long x8), .second, .val (.ref x9), .val (.ref x10)] []))
  refine own_via (S' := T1.setTop (mkF m 6 #[.val (.ref a1), .val (.ref x0), .val (.ref x1), .val (.int x2), .val (.long x3), .second, .val (.int x4), .val (.int x5), .val (.long x6), .second, .val (.long x7), .second, .val (.long x8), .second, .val (.ref x9), .val (.ref x10)] [(.ref x0), (.ref a1)])) (fun t k => ?_) ?_
  · show Steps p.tables e below (T1.setTop (mkF m 4 #[.val (.ref a1), .val (.ref x0), .val (.ref x1), .val (.int x2), .val (.long x3), .second, .val (.int x4), .val (.int x5), .val (.long x6), .second, .val (.long x7), .second, .val (.long x8), .second, .val (.ref x9), .val (.ref x10)] [])) t
    refine XS.aloadN X1.here hx rfl (hb hby d1_4) rfl rfl ?_
    show Steps p.tables e below (T1.setTop (mkF m 5 #[.val (.ref a1), .val (.ref x0), .val (.ref x1), .val (.int x2), .val (.long x3), .second, .val (.int x4), .val (.int x5), .val (.long x6), .second, .val (.long x7), .second, .val (.long x8), .second, .val (.ref x9), .val (.ref x10)] [(.ref a1)])) t
    refine XS.aloadN X1.here hx rfl (hb hby d1_5) rfl rfl ?_
    exact k
  obtain ⟨T2, h2, X2, e2, W2, st2⟩ := putF X1 hx hZ hown (host := "") (Or.inl (hw _ (List.mem_of_getElem? (i := 23) rfl))) Via.refl hh1 F0_0 E_a1 (Or.inr ⟨(hw _ (List.mem_of_getElem? (i := 24) rfl)), rfl, hnm⟩) (hw _ (List.mem_of_getElem? (i := 1) rfl)) (ty := (.object "java/lang/String")) (by decide) rfl rfl (g := (mkF m 6 #[.val (.ref a1), .val (.ref x0), .val (.ref x1), .val (.int x2), .val (.long x3), .second, .val (.int x4), .val (.int x5), .val (.long x6), .second, .val (.long x7), .second, .val (.long x8), .second, .val (.ref x9), .val (.ref x10)] [(.ref x0), (.ref a1)])) rfl rfl (hb hby d1_6)
  have F2 := Fld.same W2 F0_0
  have K3 : Keep h0 h2 [a1] := Keep.wr K0 W2 (Or.inl (List.mem_of_getElem? (i := 0) rfl))
  have N3 := Fr.snoc X2 N1 g_a1
  refine own_via st2 ?_
  show own_G p.tables e below _ (T2.setTop (mkF m 9 #[.val (.ref a1), .val (.ref x0), .val (.ref x1), .val (.int x2), .val (.long x3), .second, .val (.int x4), .val (.int x5), .val (.long x6), .second, .val (.long x7), .second, .val (.long x8), .second, .val (.ref x9), .val (.ref x10)] []))
  refine own_via (S' := T2.setTop (mkF m 11 #[.val (.ref a1), .val (.ref x0), .val (.ref x1), .val (.int x2), .val (.long x3), .second, .val (.int x4), .val (.int x5), .val (.long x6), .second, .val (.long x7), .second, .val (.long x8), .second, .val (.ref x9), .val (.ref x10)] [(.ref x1), (.ref a1)])) (fun t k => ?_) ?_
  · show Steps p.tables e below (T2.setTop (mkF m 9 #[.val (.ref a1), .val (.ref x0), .val (.ref x1), .val (.int x2), .val (.long x3), .second, .val (.int x4), .val (.int x5), .val (.long x6), .second, .val (.long x7), .second, .val (.long x8), .second, .val (.ref x9), .val (.ref x10)] [])) t
    refine XS.aloadN X2.here hx rfl (hb hby d1_9) rfl rfl ?_
    show Steps p.tables e below (T2.setTop (mkF m 10 #[.val (.ref a1), .val (.ref x0), .val (.ref x1), .val (.int x2), .val (.long x3), .second, .val (.int x4), .val (.int x5), .val (.long x6), .second, .val (.long x7), .second, .val (.long x8), .second, .val (.ref x9), .val (.ref x10)] [(.ref a1)])) t
    refine XS.aloadN X2.here hx rfl (hb hby d1_10) rfl rfl ?_
    exact k
  have c4 := (Fld.other W2 F1_0 (Or.inr (slot_ne (Or.inr (hw _ (List.mem_of_getElem? (i := 26) rfl))) (Or.inr (hw _ (List.mem_of_getElem? (i := 24) rfl))) (by decide) (t := (.object "java/lang/String")) (t' := (.object "java/lang/String")) (by decide) (by decide))))
  have c5 := (Exa.wr W2 E_a1)
  obtain ⟨T6, h6, X6, e6, W6, st6⟩ := putF X2 hx hZ hown (host := "") (Or.inl (hw _ (List.mem_of_getElem? (i := 25) rfl))) Via.refl e2 c4 c5 (Or.inr ⟨(hw _ (List.mem_of_getElem? (i := 26) rfl)), rfl, hnm⟩) (hw _ (List.mem_of_getElem? (i := 1) rfl)) (ty := (.object "java/lang/String")) (by decide) rfl rfl (g := (mkF m 11 #[.val (.ref a1), .val (.ref x0), .val (.ref x1), .val (.int x2), .val (.long x3), .second, .val (.int x4), .val (.int x5), .val (.long x6), .second, .val (.long x7), .second, .val (.long x8), .second, .val (.ref x9), .val (.ref x10)] [(.ref x1), (.ref a1)])) rfl rfl (hb hby d1_11)
  have F6 := Fld.same W6 c4
  have K7 : Keep h0 h6 [a1] := Keep.wr K3 W6 (Or.inl (List.mem_of_getElem? (i := 0) rfl))
  have N7 := Fr.snoc X6 N3 g_a1
  refine own_via st6 ?_
  show own_G p.tables e below _ (T6.setTop (mkF m 14 #[.val (.ref a1), .val (.ref x0), .val (.ref x1), .val (.int x2), .val (.long x3), .second, .val (.int x4), .val (.int x5), .val (.long x6), .second, .val (.long x7), .second, .val (.long x8), .second, .val (.ref x9), .val (.ref x10)] []))
  refine own_via (S' := T6.setTop (mkF m 16 #[.val (.ref a1), .val (.ref x0), .val (.ref x1), .val (.int x2), .val (.long x3), .second, .val (.int x4), .val (.int x5), .val (.long x6), .second, .val (.long x7), .second, .val (.long x8), .second, .val (.ref x9), .val (.ref x10)] [(.int x2), (.ref a1)])) (fun t k => ?_) ?_
  · show Steps p.tables e below (T6.setTop (mkF m 14 #[.val (.ref a1), .val (.ref x0), .val (.ref x1), .val (.int x2), .val (.long x3), .second, .val (.int x4), .val (.int x5), .val (.long x6), .second, .val (.long x7), .second, .val (.long x8), .second, .val (.ref x9), .val (.ref x10)] [])) t
    refine XS.aloadN X6.here hx rfl (hb hby d1_14) rfl rfl ?_
    show Steps p.tables e below (T6.setTop (mkF m 15 #[.val (.ref a1), .val (.ref x0), .val (.ref x1), .val (.int x2), .val (.long x3), .second, .val (.int x4), .val (.int x5), .val (.long x6), .second, .val (.long x7), .second, .val (.long x8), .second, .val (.ref x9), .val (.ref x10)] [(.ref a1)])) t
    refine XS.iloadN X6.here hx rfl (hb hby d1_15) rfl ?_
    exact k
  have c8 := (Fld.other W6 (Fld.other W2 F2_0 (Or.inr (slot_ne (Or.inr (hw _ (List.mem_of_getElem? (i := 28) rfl))) (Or.inr (hw _ (List.mem_of_getElem? (i := 24) rfl))) (by decide) (t := .int) (t' := (.object "java/lang/String")) (by decide) (by decide)))) (Or.inr (slot_ne (Or.inr (hw _ (List.mem_of_getElem? (i := 28) rfl))) (Or.inr (hw _ (List.mem_of_getElem? (i := 26) rfl))) (by decide) (t := .int) (t' := (.object "java/lang/String")) (by decide) (by decide))))
  have c9 := (Exa.wr W6 c5)
  obtain ⟨T10, h10, X10, e10, W10, st10⟩ := putF X6 hx hZ hown (host := "") (Or.inl (hw _ (List.mem_of_getElem? (i := 27) rfl))) Via.refl e6 c8 c9 (Or.inr ⟨(hw _ (List.mem_of_getElem? (i := 28) rfl)), rfl, hnm⟩) (hw _ (List.mem_of_getElem? (i := 1) rfl)) (ty := .int) (by decide) rfl rfl (g := (mkF m 16 #[.val (.ref a1), .val (.ref x0), .val (.ref x1), .val (.int x2), .val (.long x3), .second, .val (.int x4), .val (.int x5), .val (.long x6), .second, .val (.long x7), .second, .val (.long x8), .second, .val (.ref x9), .val (.ref x10)] [(.int x2), (.ref a1)])) rfl rfl (hb hby d1_16)
  have F10 := Fld.same W10 c8
  have K11 : Keep h0 h10 [a1] := Keep.wr K7 W10 (Or.inl (List.mem_of_getElem? (i := 0) rfl))
  have N11 := Fr.snoc X10 N7 g_a1
  refine own_via st10 ?_
  show own_G p.tables e below _ (T10.setTop (mkF m 19 #[.val (.ref a1), .val (.ref x0), .val (.ref x1), .val (.int x2), .val (.long x3), .second, .val (.int x4), .val (.int x5), .val (.long x6), .second, .val (.long x7), .second, .val (.long x8), .second, .val (.ref x9), .val (.ref x10)] []))
  refine own_via (S' := T10.setTop (mkF m 22 #[.val (.ref a1), .val (.ref x0), .val (.ref x1), .val (.int x2), .val (.long x3), .second, .val (.int x4), .val (.int x5), .val (.long x6), .second, .val (.long x7), .second, .val (.long x8), .second, .val (.ref x9), .val (.ref x10)] [(.long x3), (.ref a1)])) (fun t k => ?_) ?_
  · show Steps p.tables e below (T10.setTop (mkF m 19 #[.val (.ref a1), .val (.ref x0), .val (.ref x1), .val (.int x2), .val (.long x3), .second, .val (.int x4), .val (.int x5), .val (.long x6), .second, .val (.long x7), .second, .val (.long x8), .second, .val (.ref x9), .val (.ref x10)] [])) t
    refine XS.aloadN X10.here hx rfl (hb hby d1_19) rfl rfl ?_
    show Steps p.tables e below (T10.setTop (mkF m 20 #[.val (.ref a1), .val (.ref x0), .val (.ref x1), .val (.int x2), .val (.long x3), .second, .val (.int x4), .val (.int x5), .val (.long x6), .second, .val (.long x7), .second, .val (.long x8), .second, .val (.ref x9), .val (.ref x10)] [(.ref a1)])) t
    refine XS.lload X10.here hx rfl (hb hby d1_20) rfl ?_
    exact k
  have c12 := (Fld.other W10 (Fld.other W6 (Fld.other W2 F3_0 (Or.inr (slot_ne (Or.inr (hw _ (List.mem_of_getElem? (i := 30) rfl))) (Or.inr (hw _ (List.mem_of_getElem? (i := 24) rfl))) (by decide) (t := .long) (t' := (.object "java/lang/String")) (by decide) (by decide)))) (Or.inr (slot_ne (Or.inr (hw _ (List.mem_of_getElem? (i := 30) rfl))) (Or.inr (hw _ (List.mem_of_getElem? (i := 26) rfl))) (by decide) (t := .long) (t' := (.object "java/lang/String")) (by decide) (by decide)))) (Or.inr (slot_ne (Or.inr (hw _ (List.mem_of_getElem? (i := 30) rfl))) (Or.inr (hw _ (List.mem_of_getElem? (i := 28) rfl))) (by decide) (t := .long) (t' := .int) (by decide) (by decide))))
  have c13 := (Exa.wr W10 c9)
  obtain ⟨T14, h14, X14, e14, W14, st14⟩ := putF X10 hx hZ hown (host := "") (Or.inl (hw _ (List.mem_of_getElem? (i := 29) rfl))) Via.refl e10 c12 c13 (Or.inr ⟨(hw _ (List.mem_of_getElem? (i := 30) rfl)), rfl, hnm⟩) (hw _ (List.mem_of_getElem? (i := 1) rfl)) (ty := .long) (by decide) rfl rfl (g := (mkF m 22 #[.val (.ref a1), .val (.ref x0), .val (.ref x1), .val (.int x2), .val (.long x3), .second, .val (.int x4), .val (.int x5), .val (.long x6), .second, .val (.long x7), .second, .val (.long x8), .second, .val (.ref x9), .val (.ref x10)] [(.long x3), (.ref a1)])) rfl rfl (hb hby d1_22)
  have F14 := Fld.same W14 c12
  have K15 : Keep h0 h14 [a1] := Keep.wr K11 W14 (Or.inl (List.mem_of_getElem? (i := 0) rfl))
  have N15 := Fr.snoc X14 N11 g_a1
  refine own_via st14 ?_
  show own_G p.tables e below _ (T14.setTop (mkF m 25 #[.val (.ref a1), .val (.ref x0), .val (.ref x1), .val (.int x2), .val (.long x3), .second, .val (.int x4), .val (.int x5), .val (.long x6), .second, .val (.long x7), .second, .val (.long x8), .second, .val (.ref x9), .val (.ref x10)] []))
  refine own_via (S' := T14.setTop (mkF m 28 #[.val (.ref a1), .val (.ref x0), .val (.ref x1), .val (.int x2), .val (.long x3), .second, .val (.int x4), .val (.int x5), .val (.long x6), .second, .val (.long x7), .second, .val (.long x8), .second, .val (.ref x9), .val (.ref x10)] [(.int x4), (.ref a1)])) (fun t k => ?_) ?_
  · show Steps p.tables e below (T14.setTop (mkF m 25 #[.val (.ref a1), .val (.ref x0), .val (.ref x1), .val (.int x2), .val (.long x3), .second, .val (.int x4), .val (.int x5), .val (.long x6), .second, .val (.long x7), .second, .val (.long x8), .second, .val (.ref x9), .val (.ref x10)] [])) t
    refine XS.aloadN X14.here hx rfl (hb hby d1_25) rfl rfl ?_
    show Steps p.tables e below (T14.setTop (mkF m 26 #[.val (.ref a1), .val (.ref x0), .val (.ref x1), .val (.int x2), .val (.long x3), .second, .val (.int x4), .val (.int x5), .val (.long x6), .second, .val (.long x7), .second, .val (.long x8), .second, .val (.ref x9), .val (.ref x10)] [(.ref a1)])) t
    refine XS.iload X14.here hx rfl (hb hby d1_26) rfl ?_
    exact k
  have c16 := (Fld.other W14 (Fld.other W10 (Fld.other W6 (Fld.other W2 F4_0 (Or.inr (slot_ne (Or.inr (hw _ (List.mem_of_getElem? (i := 32) rfl))) (Or.inr (hw _ (List.mem_of_getElem? (i := 24) rfl))) (by decide) (t := .int) (t' := (.object "java/lang/String")) (by decide) (by decide)))) (Or.inr (slot_ne (Or.inr (hw _ (List.mem_of_getElem? (i := 32) rfl))) (Or.inr (hw _ (List.mem_of_getElem? (i := 26) rfl))) (by decide) (t := .int) (t' := (.object "java/lang/String")) (by decide) (by decide)))) (Or.inr (slot_ne (Or.inr (hw _ (List.mem_of_getElem? (i := 32) rfl))) (Or.inr (hw _ (List.mem_of_getElem? (i := 28) rfl))) (by decide) (t := .int) (t' := .int) (by decide) (by decide)))) (Or.inr (slot_ne (Or.inr (hw _ (List.mem_of_getElem? (i := 32) rfl))) (Or.inr (hw _ (List.mem_of_getElem? (i := 30) rfl))) (by decide) (t := .int) (t' := .long) (by decide) (by decide))))
  have c17 := (Exa.wr W14 c13)
  obtain ⟨T18, h18, X18, e18, W18, st18⟩ := putF X14 hx hZ hown (host := "") (Or.inl (hw _ (List.mem_of_getElem? (i := 31) rfl))) Via.refl e14 c16 c17 (Or.inr ⟨(hw _ (List.mem_of_getElem? (i := 32) rfl)), rfl, hnm⟩) (hw _ (List.mem_of_getElem? (i := 1) rfl)) (ty := .int) (by decide) rfl rfl (g := (mkF m 28 #[.val (.ref a1), .val (.ref x0), .val (.ref x1), .val (.int x2), .val (.long x3), .second, .val (.int x4), .val (.int x5), .val (.long x6), .second, .val (.long x7), .second, .val (.long x8), .second, .val (.ref x9), .val (.ref x10)] [(.int x4), (.ref a1)])) rfl rfl (hb hby d1_28)
  have F18 := Fld.same W18 c16
  have K19 : Keep h0 h18 [a1] := Keep.wr K15 W18 (Or.inl (List.mem_of_getElem? (i := 0) rfl))
  have N19 := Fr.snoc X18 N15 g_a1
  refine own_via st18 ?_
  show own_G p.tables e below _ (T18.setTop (mkF m 31 #[.val (.ref a1), .val (.ref x0), .val (.ref x1), .val (.int x2), .val (.long x3), .second, .val (.int x4), .val (.int x5), .val (.long x6), .second, .val (.long x7), .second, .val (.long x8), .second, .val (.ref x9), .val (.ref x10)] []))
  refine own_via (S' := T18.setTop (mkF m 34 #[.val (.ref a1), .val (.ref x0), .val (.ref x1), .val (.int x2), .val (.long x3), .second, .val (.int x4), .val (.int x5), .val (.long x6), .second, .val (.long x7), .second, .val (.long x8), .second, .val (.ref x9), .val (.ref x10)] [(.int x5), (.ref a1)])) (fun t k => ?_) ?_
  · show Steps p.tables e below (T18.setTop (mkF m 31 #[.val (.ref a1), .val (.ref x0), .val (.ref x1), .val (.int x2), .val (.long x3), .second, .val (.int x4), .val (.int x5), .val (.long x6), .second, .val (.long x7), .second, .val (.long x8), .second, .val (.ref x9), .val (.ref x10)] [])) t
    refine XS.aloadN X18.here hx rfl (hb hby d1_31) rfl rfl ?_
    show Steps p.tables e below (T18.setTop (mkF m 32 #[.val (.ref a1), .val (.ref x0), .val (.ref x1), .val (.int x2), .val (.long x3), .second, .val (.int x4), .val (.int x5), .val (.long x6), .second, .val (.long x7), .second, .val (.long x8), .second, .val (.ref x9), .val (.ref x10)] [(.ref a1)])) t
    refine XS.iload X18.here hx rfl (hb hby d1_32) rfl ?_
    exact k
  have c20 := (Fld.other W18 (Fld.other W14 (Fld.other W10 (Fld.other W6 (Fld.other W2 F5_0 (Or.inr (slot_ne (Or.inr (hw _ (List.mem_of_getElem? (i := 34) rfl))) (Or.inr (hw _ (List.mem_of_getElem? (i := 24) rfl))) (by decide) (t := .int) (t' := (.object "java/lang/String")) (by decide) (by decide)))) (Or.inr (slot_ne (Or.inr (hw _ (List.mem_of_getElem? (i := 34) rfl))) (Or.inr (hw _ (List.mem_of_getElem? (i := 26) rfl))) (by decide) (t := .int) (t' := (.object "java/lang/String")) (by decide) (by decide)))) (Or.inr (slot_ne (Or.inr (hw _ (List.mem_of_getElem? (i := 34) rfl))) (Or.inr (hw _ (List.mem_of_getElem? (i := 28) rfl))) (by decide) (t := .int) (t' := .int) (by decide) (by decide)))) (Or.inr (slot_ne (Or.inr (hw _ (List.mem_of_getElem? (i := 34) rfl))) (Or.inr (hw _ (List.mem_of_getElem? (i := 30) rfl))) (by decide) (t := .int) (t' := .long) (by decide) (by decide)))) (Or.inr (slot_ne (Or.inr (hw _ (List.mem_of_getElem? (i := 34) rfl))) (Or.inr (hw _ (List.mem_of_getElem? (i := 32) rfl))) (by decide) (t := .int) (t' := .int) (by decide) (by decide))))
  have c21 := (Exa.wr W18 c17)
  obtain ⟨T22, h22, X22, e22, W22, st22⟩ := putF X18 hx hZ hown (host := "") (Or.inl (hw _ (List.mem_of_getElem? (i := 33) rfl))) Via.refl e18 c20 c21 (Or.inr ⟨(hw _ (List.mem_of_getElem? (i := 34) rfl)), rfl, hnm⟩) (hw _ (List.mem_of_getElem? (i := 1) rfl)) (ty := .int) (by decide) rfl rfl (g := (mkF m 34 #[.val (.ref a1), .val (.ref x0), .val (.ref x1), .val (.int x2), .val (.long x3), .second, .val (.int x4), .val (.int x5), .val (.long x6), .second, .val (.long x7), .second, .val (.long x8), .second, .val (.ref x9), .val (.ref x10)] [(.int x5), (.ref a1)])) rfl rfl (hb hby d1_34)
  have F22 := Fld.same W22 c20
  have K23 : Keep h0 h22 [a1] := Keep.wr K19 W22 (Or.inl (List.mem_of_getElem? (i := 0) rfl))
  have N23 := Fr.snoc X22 N19 g_a1
  refine own_via st22 ?_
  show own_G p.tables e below _ (T22.setTop (mkF m 37 #[.val (.ref a1), .val (.ref x0), .val (.ref x1), .val (.int x2), .val (.long x3), .second, .val (.int x4), .val (.int x5), .val (.long x6), .second, .val (.long x7), .second, .val (.long x8), .second, .val (.ref x9), .val (.ref x10)] []))
  refine own_via (S' := T22.setTop (mkF m 40 #[.val (.ref a1), .val (.ref x0), .val (.ref x1), .val (.int x2), .val (.long x3), .second, .val (.int x4), .val (.int x5), .val (.long x6), .second, .val (.long x7), .second, .val (.long x8), .second, .val (.ref x9), .val (.ref x10)] [(.long x6), (.ref a1)])) (fun t k => ?_) ?_
  · show Steps p.tables e below (T22.setTop (mkF m 37 #[.val (.ref a1), .val (.ref x0), .val (.ref x1), .val (.int x2), .val (.long x3), .second, .val (.int x4), .val (.int x5), .val (.long x6), .second, .val (.long x7), .second, .val (.long x8), .second, .val (.ref x9), .val (.ref x10)] [])) t
    refine XS.aloadN X22.here hx rfl (hb hby d1_37) rfl rfl ?_
    show Steps p.tables e below (T22.setTop (mkF m 38 #[.val (.ref a1), .val (.ref x0), .val (.ref x1), .val (.int x2), .val (.long x3), .second, .val (.int x4), .val (.int x5), .val (.long x6), .second, .val (.long x7), .second, .val (.long x8), .second, .val (.ref x9), .val (.ref x10)] [(.ref a1)])) t
    refine XS.lload X22.here hx rfl (hb hby d1_38) rfl ?_
    exact k
  have c24 := (Fld.other W22 (Fld.other W18 (Fld.other W14 (Fld.other W10 (Fld.other W6 (Fld.other W2 F6_0 (Or.inr (slot_ne (Or.inr (hw _ (List.mem_of_getElem? (i := 36) rfl))) (Or.inr (hw _ (List.mem_of_getElem? (i := 24) rfl))) (by decide) (t := .long) (t' := (.object "java/lang/String")) (by decide) (by decide)))) (Or.inr (slot_ne (Or.inr (hw _ (List.mem_of_getElem? (i := 36) rfl))) (Or.inr (hw _ (List.mem_of_getElem? (i := 26) rfl))) (by decide) (t := .long) (t' := (.object "java/lang/String")) (by decide) (by decide)))) (Or.inr (slot_ne (Or.inr (hw _ (List.mem_of_getElem? (i := 36) rfl))) (Or.inr (hw _ (List.mem_of_getElem? (i := 28) rfl))) (by decide) (t := .long) (t' := .int) (by decide) (by decide)))) (Or.inr (slot_ne (Or.inr (hw _ (List.mem_of_getElem? (i := 36) rfl))) (Or.inr (hw _ (List.mem_of_getElem? (i := 30) rfl))) (by decide) (t := .long) (t' := .long) (by decide) (by decide)))) (Or.inr (slot_ne (Or.inr (hw _ (List.mem_of_getElem? (i := 36) rfl))) (Or.inr (hw _ (List.mem_of_getElem? (i := 32) rfl))) (by decide) (t := .long) (t' := .int) (by decide) (by decide)))) (Or.inr (slot_ne (Or.inr (hw _ (List.mem_of_getElem? (i := 36) rfl))) (Or.inr (hw _ (List.mem_of_getElem? (i := 34) rfl))) (by decide) (t := .long) (t' := .int) (by decide) (by decide))))
  have c25 := (Exa.wr W22 c21)
  obtain ⟨T26, h26, X26, e26, W26, st26⟩ := putF X22 hx hZ hown (host := "") (Or.inl (hw _ (List.mem_of_getElem? (i := 35) rfl))) Via.refl e22 c24 c25 (Or.inr ⟨(hw _ (List.mem_of_getElem? (i := 36) rfl)), rfl, hnm⟩) (hw _ (List.mem_of_getElem? (i := 1) rfl)) (ty := .long) (by decide) rfl rfl (g := (mkF m 40 #[.val (.ref a1), .val (.ref x0), .val (.ref x1), .val (.int x2), .val (.long x3), .second, .val (.int x4), .val (.int x5), .val (.long x6), .second, .val (.long x7), .second, .val (.long x8), .second, .val (.ref x9), .val (.ref x10)] [(.long x6), (.ref a1)])) rfl rfl (hb hby d1_40)
  have F26 := Fld.same W26 c24
  have K27 : Keep h0 h26 [a1] := Keep.wr K23 W26 (Or.inl (List.mem_of_getElem? (i := 0) rfl))
  have N27 := Fr.snoc X26 N23 g_a1
  refine own_via st26 ?_
  show own_G p.tables e below _ (T26.setTop (mkF m 43 #[.val (.ref a1), .val (.ref x0), .val (.ref x1), .val (.int x2), .val (.long x3), .second, .val (.int x4), .val (.int x5), .val (.long x6), .second, .val (.long x7), .second, .val (.long x8), .second, .val (.ref x9), .val (.ref x10)] []))
  refine own_via (S' := T26.setTop (mkF m 46 #[.val (.ref a1), .val (.ref x0), .val (.ref x1), .val (.int x2), .val (.long x3), .second, .val (.int x4), .val (.int x5), .val (.long x6), .second, .val (.long x7), .second, .val (.long x8), .second, .val (.ref x9), .val (.ref x10)] [(.long x7), (.ref a1)])) (fun t k => ?_) ?_
  · show Steps p.tables e below (T26.setTop (mkF m 43 #[.val (.ref a1), .val (.ref x0), .val (.ref x1), .val (.int x2), .val (.long x3), .second, .val (.int x4), .val (.int x5), .val (.long x6), .second, .val (.long x7), .second, .val (.long x8), .second, .val (.ref x9), .val (.ref x10)] [])) t
    refine XS.aloadN X26.here hx rfl (hb hby d1_43) rfl rfl ?_
    show Steps p.tables e below (T26.setTop (mkF m 44 #[.val (.ref a1), .val (.ref x0), .val (.ref x1), .val (.int x2), .val (.long x3), .second, .val (.int x4), .val (.int x5), .val (.long x6), .second, .val (.long x7), .second, .val (.long x8), .second, .val (.ref x9), .val (.ref x10)] [(.ref a1)])) t
    refine XS.lload X26.here hx rfl (hb hby d1_44) rfl ?_
    exact k
  have c28 := (Fld.other W26 (Fld.other W22 (Fld.other W18 (Fld.other W14 (Fld.other W10 (Fld.other W6 (Fld.other W2 F7_0 (Or.inr (slot_ne (Or.inr (hw _ (List.mem_of_getElem? (i := 38) rfl))) (Or.inr (hw _ (List.mem_of_getElem? (i := 24) rfl))) (by decide) (t := .long) (t' := (.object "java/lang/String")) (by decide) (by decide)))) (Or.inr (slot_ne (Or.inr (hw _ (List.mem_of_getElem? (i := 38) rfl))) (Or.inr (hw _ (List.mem_of_getElem? (i := 26) rfl))) (by decide) (t := .long) (t' := (.object "java/lang/String")) (by decide) (by decide)))) (Or.inr (slot_ne (Or.inr (hw _ (List.mem_of_getElem? (i := 38) rfl))) (Or.inr (hw _ (List.mem_of_getElem? (i := 28) rfl))) (by decide) (t := .long) (t' := .int) (by decide) (by decide)))) (Or.inr (slot_ne (Or.inr (hw _ (List.mem_of_getElem? (i := 38) rfl))) (Or.inr (hw _ (List.mem_of_getElem? (i := 30) rfl))) (by decide) (t := .long) (t' := .long) (by decide) (by decide)))) (Or.inr (slot_ne (Or.inr (hw _ (List.mem_of_getElem? (i := 38) rfl))) (Or.inr (hw _ (List.mem_of_getElem? (i := 32) rfl))) (by decide) (t := .long) (t' := .int) (by decide) (by decide)))) (Or.inr (slot_ne (Or.inr (hw _ (List.mem_of_getElem? (i := 38) rfl))) (Or.inr (hw _ (List.mem_of_getElem? (i := 34) rfl))) (by decide) (t := .long) (t' := .int) (by decide) (by decide)))) (Or.inr (slot_ne (Or.inr (hw _ (List.mem_of_getElem? (i := 38) rfl))) (Or.inr (hw _ (List.mem_of_getElem? (i := 36) rfl))) (by decide) (t := .long) (t' := .long) (by decide) (by decide))))
  have c29 := (Exa.wr W26 c25)
  obtain ⟨T30, h30, X30, e30, W30, st30⟩ := putF X26 hx hZ hown (host := "") (Or.inl (hw _ (List.mem_of_getElem? (i := 37) rfl))) Via.refl e26 c28 c29 (Or.inr ⟨(hw _ (List.mem_of_getElem? (i := 38) rfl)), rfl, hnm⟩) (hw _ (List.mem_of_getElem? (i := 1) rfl)) (ty := .long) (by decide) rfl rfl (g := (mkF m 46 #[.val (.ref a1), .val (.ref x0), .val (.ref x1), .val (.int x2), .val (.long x3), .second, .val (.int x4), .val (.int x5), .val (.long x6), .second, .val (.long x7), .second, .val (.long x8), .second, .val (.ref x9), .val (.ref x10)] [(.long x7), (.ref a1)])) rfl rfl (hb hby d1_46)
  have F30 := Fld.same W30 c28
  have K31 : Keep h0 h30 [a1] := Keep.wr K27 W30 (Or.inl (List.mem_of_getElem? (i := 0) rfl))
  have N31 := Fr.snoc X30 N27 g_a1
  refine own_via st30 ?_
  show own_G p.tables e below _ (T30.setTop (mkF m 49 #[.val (.ref a1), .val (.ref x0), .val (.ref x1), .val (.int x2), .val (.long x3), .second, .val (.int x4), .val (.int x5), .val (.long x6), .second, .val (.long x7), .second, .val (.long x8), .second, .val (.ref x9), .val (.ref x10)] []))
  refine own_via (S' := T30.setTop (mkF m 52 #[.val (.ref a1), .val (.ref x0), .val (.ref x1), .val (.int x2), .val (.long x3), .second, .val (.int x4), .val (.int x5), .val (.long x6), .second, .val (.long x7), .second, .val (.long x8), .second, .val (.ref x9), .val (.ref x10)] [(.long x8), (.ref a1)])) (fun t k => ?_) ?_
  · show Steps p.tables e below (T30.setTop (mkF m 49 #[.val (.ref a1), .val (.ref x0), .val (.ref x1), .val (.int x2), .val (.long x3), .second, .val (.int x4), .val (.int x5), .val (.long x6), .second, .val (.long x7), .second, .val (.long x8), .second, .val (.ref x9), .val (.ref x10)] [])) t
    refine XS.aloadN X30.here hx rfl (hb hby d1_49) rfl rfl ?_
    show Steps p.tables e below (T30.setTop (mkF m 50 #[.val (.ref a1), .val (.ref x0), .val (.ref x1), .val (.int x2), .val (.long x3), .second, .val (.int x4), .val (.int x5), .val (.long x6), .second, .val (.long x7), .second, .val (.long x8), .second, .val (.ref x9), .val (.ref x10)] [(.ref a1)])) t
    refine XS.lload X30.here hx rfl (hb hby d1_50) rfl ?_
    exact k
  have c32 := (Fld.other W30 (Fld.other W26 (Fld.other W22 (Fld.other W18 (Fld.other W14 (Fld.other W10 (Fld.other W6 (Fld.other W2 F8_0 (Or.inr (slot_ne (Or.inr (hw _ (List.mem_of_getElem? (i := 40) rfl))) (Or.inr (hw _ (List.mem_of_getElem? (i := 24) rfl))) (by decide) (t := .long) (t' := (.object "java/lang/String")) (by decide) (by decide)))) (Or.inr (slot_ne (Or.inr (hw _ (List.mem_of_getElem? (i := 40) rfl))) (Or.inr (hw _ (List.mem_of_getElem? (i := 26) rfl))) (by decide) (t := .long) (t' := (.object "java/lang/String")) (by decide) (by decide)))) (Or.inr (slot_ne (Or.inr (hw _ (List.mem_of_getElem? (i := 40) rfl))) (Or.inr (hw _ (List.mem_of_getElem? (i := 28) rfl))) (by decide) (t := .long) (t' := .int) (by decide) (by decide)))) (Or.inr (slot_ne (Or.inr (hw _ (List.mem_of_getElem? (i := 40) rfl))) (Or.inr (hw _ (List.mem_of_getElem? (i := 30) rfl))) (by decide) (t := .long) (t' := .long) (by decide) (by decide)))) (Or.inr (slot_ne (Or.inr (hw _ (List.mem_of_getElem? (i := 40) rfl))) (Or.inr (hw _ (List.mem_of_getElem? (i := 32) rfl))) (by decide) (t := .long) (t' := .int) (by decide) (by decide)))) (Or.inr (slot_ne (Or.inr (hw _ (List.mem_of_getElem? (i := 40) rfl))) (Or.inr (hw _ (List.mem_of_getElem? (i := 34) rfl))) (by decide) (t := .long) (t' := .int) (by decide) (by decide)))) (Or.inr (slot_ne (Or.inr (hw _ (List.mem_of_getElem? (i := 40) rfl))) (Or.inr (hw _ (List.mem_of_getElem? (i := 36) rfl))) (by decide) (t := .long) (t' := .long) (by decide) (by decide)))) (Or.inr (slot_ne (Or.inr (hw _ (List.mem_of_getElem? (i := 40) rfl))) (Or.inr (hw _ (List.mem_of_getElem? (i := 38) rfl))) (by decide) (t := .long) (t' := .long) (by decide) (by decide))))
  have c33 := (Exa.wr W30 c29)
  obtain ⟨T34, h34, X34, e34, W34, st34⟩ := putF X30 hx hZ hown (host := "") (Or.inl (hw _ (List.mem_of_getElem? (i := 39) rfl))) Via.refl e30 c32 c33 (Or.inr ⟨(hw _ (List.mem_of_getElem? (i := 40) rfl)), rfl, hnm⟩) (hw _ (List.mem_of_getElem? (i := 1) rfl)) (ty := .long) (by decide) rfl rfl (g := (mkF m 52 #[.val (.ref a1), .val (.ref x0), .val (.ref x1), .val (.int x2), .val (.long x3), .second, .val (.int x4), .val (.int x5), .val (.long x6), .second, .val (.long x7), .second, .val (.long x8), .second, .val (.ref x9), .val (.ref x10)] [(.long x8), (.ref a1)])) rfl rfl (hb hby d1_52)
  have F34 := Fld.same W34 c32
  have K35 : Keep h0 h34 [a1] := Keep.wr K31 W34 (Or.inl (List.mem_of_getElem? (i := 0) rfl))
  have N35 := Fr.snoc X34 N31 g_a1
  refine own_via st34 ?_
  show own_G p.tables e below _ (T34.setTop (mkF m 55 #[.val (.ref a1), .val (.ref x0), .val (.ref x1), .val (.int x2), .val (.long x3), .second, .val (.int x4), .val (.int x5), .val (.long x6), .second, .val (.long x7), .second, .val (.long x8), .second, .val (.ref x9), .val (.ref x10)] []))
  refine own_via (S' := T34.setTop (mkF m 58 #[.val (.ref a1), .val (.ref x0), .val (.ref x1), .val (.int x2), .val (.long x3), .second, .val (.int x4), .val (.int x5), .val (.long x6), .second, .val (.long x7), .second, .val (.long x8), .second, .val (.ref x9), .val (.ref x10)] [(.ref x9), (.ref a1)])) (fun t k => ?_) ?_
  · show Steps p.tables e below (T34.setTop (mkF m 55 #[.val (.ref a1), .val (.ref x0), .val (.ref x1), .val (.int x2), .val (.long x3), .second, .val (.int x4), .val (.int x5), .val (.long x6), .second, .val (.long x7), .second, .val (.long x8), .second, .val (.ref x9), .val (.ref x10)] [])) t
    refine XS.aloadN X34.here hx rfl (hb hby d1_55) rfl rfl ?_
    show Steps p.tables e below (T34.setTop (mkF m 56 #[.val (.ref a1), .val (.ref x0), .val (.ref x1), .val (.int x2), .val (.long x3), .second, .val (.int x4), .val (.int x5), .val (.long x6), .second, .val (.long x7), .second, .val (.long x8), .second, .val (.ref x9), .val (.ref x10)] [(.ref a1)])) t
    refine XS.aload X34.here hx rfl (hb hby d1_56) rfl rfl ?_
    exact k
  have c36 := (Fld.other W34 (Fld.other W30 (Fld.other W26 (Fld.other W22 (Fld.other W18 (Fld.other W14 (Fld.other W10 (Fld.other W6 (Fld.other W2 F9_0 (Or.inr (slot_ne (Or.inr (hw _ (List.mem_of_getElem? (i := 42) rfl))) (Or.inr (hw _ (List.mem_of_getElem? (i := 24) rfl))) (by decide) (t := (.object "java/lang/String")) (t' := (.object "java/lang/String")) (by decide) (by decide)))) (Or.inr (slot_ne (Or.inr (hw _ (List.mem_of_getElem? (i := 42) rfl))) (Or.inr (hw _ (List.mem_of_getElem? (i := 26) rfl))) (by decide) (t := (.object "java/lang/String")) (t' := (.object "java/lang/String")) (by decide) (by decide)))) (Or.inr (slot_ne (Or.inr (hw _ (List.mem_of_getElem? (i := 42) rfl))) (Or.inr (hw _ (List.mem_of_getElem? (i := 28) rfl))) (by decide) (t := (.object "java/lang/String")) (t' := .int) (by decide) (by decide)))) (Or.inr (slot_ne (Or.inr (hw _ (List.mem_of_getElem? (i := 42) rfl))) (Or.inr (hw _ (List.mem_of_getElem? (i := 30) rfl))) (by decide) (t := (.object "java/lang/String")) (t' := .long) (by decide) (by decide)))) (Or.inr (slot_ne (Or.inr (hw _ (List.mem_of_getElem? (i := 42) rfl))) (Or.inr (hw _ (List.mem_of_getElem? (i := 32) rfl))) (by decide) (t := (.object "java/lang/String")) (t' := .int) (by decide) (by decide)))) (Or.inr (slot_ne (Or.inr (hw _ (List.mem_of_getElem? (i := 42) rfl))) (Or.inr (hw _ (List.mem_of_getElem? (i := 34) rfl))) (by decide) (t := (.object "java/lang/String")) (t' := .int) (by decide) (by decide)))) (Or.inr (slot_ne (Or.inr (hw _ (List.mem_of_getElem? (i := 42) rfl))) (Or.inr (hw _ (List.mem_of_getElem? (i := 36) rfl))) (by decide) (t := (.object "java/lang/String")) (t' := .long) (by decide) (by decide)))) (Or.inr (slot_ne (Or.inr (hw _ (List.mem_of_getElem? (i := 42) rfl))) (Or.inr (hw _ (List.mem_of_getElem? (i := 38) rfl))) (by decide) (t := (.object "java/lang/String")) (t' := .long) (by decide) (by decide)))) (Or.inr (slot_ne (Or.inr (hw _ (List.mem_of_getElem? (i := 42) rfl))) (Or.inr (hw _ (List.mem_of_getElem? (i := 40) rfl))) (by decide) (t := (.object "java/lang/String")) (t' := .long) (by decide) (by decide))))
  have c37 := (Exa.wr W34 c33)
  obtain ⟨T38, h38, X38, e38, W38, st38⟩ := putF X34 hx hZ hown (host := "") (Or.inl (hw _ (List.mem_of_getElem? (i := 41) rfl))) Via.refl e34 c36 c37 (Or.inr ⟨(hw _ (List.mem_of_getElem? (i := 42) rfl)), rfl, hnm⟩) (hw _ (List.mem_of_getElem? (i := 1) rfl)) (ty := (.object "java/lang/String")) (by decide) rfl rfl (g := (mkF m 58 #[.val (.ref a1), .val (.ref x0), .val (.ref x1), .val (.int x2), .val (.long x3), .second, .val (.int x4), .val (.int x5), .val (.long x6), .second, .val (.long x7), .second, .val (.long x8), .second, .val (.ref x9), .val (.ref x10)] [(.ref x9), (.ref a1)])) rfl rfl (hb hby d1_58)
  have F38 := Fld.same W38 c36
  have K39 : Keep h0 h38 [a1] := Keep.wr K35 W38 (Or.inl (List.mem_of_getElem? (i := 0) rfl))
  have N39 := Fr.snoc X38 N35 g_a1
  refine own_via st38 ?_
  show own_G p.tables e below _ (T38.setTop (mkF m 61 #[.val (.ref a1), .val (.ref x0), .val (.ref x1), .val (.int x2), .val (.long x3), .second, .val (.int x4), .val (.int x5), .val (.long x6), .second, .val (.long x7), .second, .val (.long x8), .second, .val (.ref x9), .val (.ref x10)] []))
  refine own_via (S' := T38.setTop (mkF m 64 #[.val (.ref a1), .val (.ref x0), .val (.ref x1), .val (.int x2), .val (.long x3), .second, .val (.int x4), .val (.int x5), .val (.long x6), .second, .val (.long x7), .second, .val (.long x8), .second, .val (.ref x9), .val (.ref x10)] [(.ref x10), (.ref a1)])) (fun t k => ?_) ?_
  · show Steps p.tables e below (T38.setTop (mkF m 61 #[.val (.ref a1), .val (.ref x0), .val (.ref x1), .val (.int x2), .val (.long x3), .second, .val (.int x4), .val (.int x5), .val (.long x6), .second, .val (.long x7), .second, .val (.long x8), .second, .val (.ref x9), .val (.ref x10)] [])) t
    refine XS.aloadN X38.here hx rfl (hb hby d1_61) rfl rfl ?_
    show Steps p.tables e below (T38.setTop (mkF m 62 #[.val (.ref a1), .val (.ref x0), .val (.ref x1), .val (.int x2), .val (.long x3), .second, .val (.int x4), .val (.int x5), .val (.long x6), .second, .val (.long x7), .second, .val (.long x8), .second, .val (.ref x9), .val (.ref x10)] [(.ref a1)])) t
    refine XS.aload X38.here hx rfl (hb hby d1_62) rfl rfl ?_
    exact k
  have c40 := (Fld.other W38 (Fld.other W34 (Fld.other W30 (Fld.other W26 (Fld.other W22 (Fld.other W18 (Fld.other W14 (Fld.other W10 (Fld.other W6 (Fld.other W2 F10_0 (Or.inr (slot_ne (Or.inr (hw _ (List.mem_of_getElem? (i := 44) rfl))) (Or.inr (hw _ (List.mem_of_getElem? (i := 24) rfl))) (by decide) (t := (.object "java/lang/String")) (t' := (.object "java/lang/String")) (by decide) (by decide)))) (Or.inr (slot_ne (Or.inr (hw _ (List.mem_of_getElem? (i := 44) rfl))) (Or.inr (hw _ (List.mem_of_getElem? (i := 26) rfl))) (by decide) (t := (.object "java/lang/String")) (t' := (.object "java/lang/String")) (by decide) (by decide)))) (Or.inr (slot_ne (Or.inr (hw _ (List.mem_of_getElem? (i := 44) rfl))) (Or.inr (hw _ (List.mem_of_getElem? (i := 28) rfl))) (by decide) (t := (.object "java/lang/String")) (t' := .int) (by decide) (by decide)))) (Or.inr (slot_ne (Or.inr (hw _ (List.mem_of_getElem? (i := 44) rfl))) (Or.inr (hw _ (List.mem_of_getElem? (i := 30) rfl))) (by decide) (t := (.object "java/lang/String")) (t' := .long) (by decide) (by decide)))) (Or.inr (slot_ne (Or.inr (hw _ (List.mem_of_getElem? (i := 44) rfl))) (Or.inr (hw _ (List.mem_of_getElem? (i := 32) rfl))) (by decide) (t := (.object "java/lang/String")) (t' := .int) (by decide) (by decide)))) (Or.inr (slot_ne (Or.inr (hw _ (List.mem_of_getElem? (i := 44) rfl))) (Or.inr (hw _ (List.mem_of_getElem? (i := 34) rfl))) (by decide) (t := (.object "java/lang/String")) (t' := .int) (by decide) (by decide)))) (Or.inr (slot_ne (Or.inr (hw _ (List.mem_of_getElem? (i := 44) rfl))) (Or.inr (hw _ (List.mem_of_getElem? (i := 36) rfl))) (by decide) (t := (.object "java/lang/String")) (t' := .long) (by decide) (by decide)))) (Or.inr (slot_ne (Or.inr (hw _ (List.mem_of_getElem? (i := 44) rfl))) (Or.inr (hw _ (List.mem_of_getElem? (i := 38) rfl))) (by decide) (t := (.object "java/lang/String")) (t' := .long) (by decide) (by decide)))) (Or.inr (slot_ne (Or.inr (hw _ (List.mem_of_getElem? (i := 44) rfl))) (Or.inr (hw _ (List.mem_of_getElem? (i := 40) rfl))) (by decide) (t := (.object "java/lang/String")) (t' := .long) (by decide) (by decide)))) (Or.inr (slot_ne (Or.inr (hw _ (List.mem_of_getElem? (i := 44) rfl))) (Or.inr (hw _ (List.mem_of_getElem? (i := 42) rfl))) (by decide) (t := (.object "java/lang/String")) (t' := (.object "java/lang/String")) (by decide) (by decide))))
  have c41 := (Exa.wr W38 c37)
  obtain ⟨T42, h42, X42, e42, W42, st42⟩ := putF X38 hx hZ hown (host := "") (Or.inl (hw _ (List.mem_of_getElem? (i := 43) rfl))) Via.refl e38 c40 c41 (Or.inr ⟨(hw _ (List.mem_of_getElem? (i := 44) rfl)), rfl, hnm⟩) (hw _ (List.mem_of_getElem? (i := 1) rfl)) (ty := (.object "java/lang/String")) (by decide) rfl rfl (g := (mkF m 64 #[.val (.ref a1), .val (.ref x0), .val (.ref x1), .val (.int x2), .val (.long x3), .second, .val (.int x4), .val (.int x5), .val (.long x6), .second, .val (.long x7), .second, .val (.long x8), .second, .val (.ref x9), .val (.ref x10)] [(.ref x10), (.ref a1)])) rfl rfl (hb hby d1_64)
  have F42 := Fld.same W42 c40
  have K43 : Keep h0 h42 [a1] := Keep.wr K39 W42 (Or.inl (List.mem_of_getElem? (i := 0) rfl))
  have N43 := Fr.snoc X42 N39 g_a1
  refine own_via st42 ?_
  show own_G p.tables e below _ (T42.setTop (mkF m 67 #[.val (.ref a1), .val (.ref x0), .val (.ref x1), .val (.int x2), .val (.long x3), .second, .val (.int x4), .val (.int x5), .val (.long x6), .second, .val (.long x7), .second, .val (.long x8), .second, .val (.ref x9), .val (.ref x10)] []))
  have c44 := (Exa.wr W42 c41)
  have c45 := (Fld.other W42 (Fld.other W38 (Fld.other W34 (Fld.other W30 (Fld.other W26 (Fld.other W22 (Fld.other W18 (Fld.other W14 (Fld.other W10 (Fld.other W6 F2 (Or.inr (slot_ne (Or.inr (hw _ (List.mem_of_getElem? (i := 24) rfl))) (Or.inr (hw _ (List.mem_of_getElem? (i := 26) rfl))) (by decide) (t := (.object "java/lang/String")) (t' := (.object "java/lang/String")) (by decide) (by decide)))) (Or.inr (slot_ne (Or.inr (hw _ (List.mem_of_getElem? (i := 24) rfl))) (Or.inr (hw _ (List.mem_of_getElem? (i := 28) rfl))) (by decide) (t := (.object "java/lang/String")) (t' := .int) (by decide) (by decide)))) (Or.inr (slot_ne (Or.inr (hw _ (List.mem_of_getElem? (i := 24) rfl))) (Or.inr (hw _ (List.mem_of_getElem? (i := 30) rfl))) (by decide) (t := (.object "java/lang/String")) (t' := .long) (by decide) (by decide)))) (Or.inr (slot_ne (Or.inr (hw _ (List.mem_of_getElem? (i := 24) rfl))) (Or.inr (hw _ (List.mem_of_getElem? (i := 32) rfl))) (by decide) (t := (.object "java/lang/String")) (t' := .int) (by decide) (by decide)))) (Or.inr (slot_ne (Or.inr (hw _ (List.mem_of_getElem? (i := 24) rfl))) (Or.inr (hw _ (List.mem_of_getElem? (i := 34) rfl))) (by decide) (t := (.object "java/lang/String")) (t' := .int) (by decide) (by decide)))) (Or.inr (slot_ne (Or.inr (hw _ (List.mem_of_getElem? (i := 24) rfl))) (Or.inr (hw _ (List.mem_of_getElem? (i := 36) rfl))) (by decide) (t := (.object "java/lang/String")) (t' := .long) (by decide) (by decide)))) (Or.inr (slot_ne (Or.inr (hw _ (List.mem_of_getElem? (i := 24) rfl))) (Or.inr (hw _ (List.mem_of_getElem? (i := 38) rfl))) (by decide) (t := (.object "java/lang/String")) (t' := .long) (by decide) (by decide)))) (Or.inr (slot_ne (Or.inr (hw _ (List.mem_of_getElem? (i := 24) rfl))) (Or.inr (hw _ (List.mem_of_getElem? (i := 40) rfl))) (by decide) (t := (.object "java/lang/String")) (t' := .long) (by decide) (by decide)))) (Or.inr (slot_ne (Or.inr (hw _ (List.mem_of_getElem? (i := 24) rfl))) (Or.inr (hw _ (List.mem_of_getElem? (i := 42) rfl))) (by decide) (t := (.object "java/lang/String")) (t' := (.object "java/lang/String")) (by decide) (by decide)))) (Or.inr (slot_ne (Or.inr (hw _ (List.mem_of_getElem? (i := 24) rfl))) (Or.inr (hw _ (List.mem_of_getElem? (i := 44) rfl))) (by decide) (t := (.object "java/lang/String")) (t' := (.object "java/lang/String")) (by decide) (by decide))))
  have c46 := (Fld.other W42 (Fld.other W38 (Fld.other W34 (Fld.other W30 (Fld.other W26 (Fld.other W22 (Fld.other W18 (Fld.other W14 (Fld.other W10 F6 (Or.inr (slot_ne (Or.inr (hw _ (List.mem_of_getElem? (i := 26) rfl))) (Or.inr (hw _ (List.mem_of_getElem? (i := 28) rfl))) (by decide) (t := (.object "java/lang/String")) (t' := .int) (by decide) (by decide)))) (Or.inr (slot_ne (Or.inr (hw _ (List.mem_of_getElem? (i := 26) rfl))) (Or.inr (hw _ (List.mem_of_getElem? (i := 30) rfl))) (by decide) (t := (.object "java/lang/String")) (t' := .long) (by decide) (by decide)))) (Or.inr (slot_ne (Or.inr (hw _ (List.mem_of_getElem? (i := 26) rfl))) (Or.inr (hw _ (List.mem_of_getElem? (i := 32) rfl))) (by decide) (t := (.object "java/lang/String")) (t' := .int) (by decide) (by decide)))) (Or.inr (slot_ne (Or.inr (hw _ (List.mem_of_getElem? (i := 26) rfl))) (Or.inr (hw _ (List.mem_of_getElem? (i := 34) rfl))) (by decide) (t := (.object "java/lang/String")) (t' := .int) (by decide) (by decide)))) (Or.inr (slot_ne (Or.inr (hw _ (List.mem_of_getElem? (i := 26) rfl))) (Or.inr (hw _ (List.mem_of_getElem? (i := 36) rfl))) (by decide) (t := (.object "java/lang/String")) (t' := .long) (by decide) (by decide)))) (Or.inr (slot_ne (Or.inr (hw _ (List.mem_of_getElem? (i := 26) rfl))) (Or.inr (hw _ (List.mem_of_getElem? (i := 38) rfl))) (by decide) (t := (.object "java/lang/String")) (t' := .long) (by decide) (by decide)))) (Or.inr (slot_ne (Or.inr (hw _ (List.mem_of_getElem? (i := 26) rfl))) (Or.inr (hw _ (List.mem_of_getElem? (i := 40) rfl))) (by decide) (t := (.object "java/lang/String")) (t' := .long) (by decide) (by decide)))) (Or.inr (slot_ne (Or.inr (hw _ (List.mem_of_getElem? (i := 26) rfl))) (Or.inr (hw _ (List.mem_of_getElem? (i := 42) rfl))) (by decide) (t := (.object "java/lang/String")) (t' := (.object "java/lang/String")) (by decide) (by decide)))) (Or.inr (slot_ne (Or.inr (hw _ (List.mem_of_getElem? (i := 26) rfl))) (Or.inr (hw _ (List.mem_of_getElem? (i := 44) rfl))) (by decide) (t := (.object "java/lang/String")) (t' := (.object "java/lang/String")) (by decide) (by decide))))
  have c47 := (Fld.other W42 (Fld.other W38 (Fld.other W34 (Fld.other W30 (Fld.other W26 (Fld.other W22 (Fld.other W18 (Fld.other W14 F10 (Or.inr (slot_ne (Or.inr (hw _ (List.mem_of_getElem? (i := 28) rfl))) (Or.inr (hw _ (List.mem_of_getElem? (i := 30) rfl))) (by decide) (t := .int) (t' := .long) (by decide) (by decide)))) (Or.inr (slot_ne (Or.inr (hw _ (List.mem_of_getElem? (i := 28) rfl))) (Or.inr (hw _ (List.mem_of_getElem? (i := 32) rfl))) (by decide) (t := .int) (t' := .int) (by decide) (by decide)))) (Or.inr (slot_ne (Or.inr (hw _ (List.mem_of_getElem? (i := 28) rfl))) (Or.inr (hw _ (List.mem_of_getElem? (i := 34) rfl))) (by decide) (t := .int) (t' := .int) (by decide) (by decide)))) (Or.inr (slot_ne (Or.inr (hw _ (List.mem_of_getElem? (i := 28) rfl))) (Or.inr (hw _ (List.mem_of_getElem? (i := 36) rfl))) (by decide) (t := .int) (t' := .long) (by decide) (by decide)))) (Or.inr (slot_ne (Or.inr (hw _ (List.mem_of_getElem? (i := 28) rfl))) (Or.inr (hw _ (List.mem_of_getElem? (i := 38) rfl))) (by decide) (t := .int) (t' := .long) (by decide) (by decide)))) (Or.inr (slot_ne (Or.inr (hw _ (List.mem_of_getElem? (i := 28) rfl))) (Or.inr (hw _ (List.mem_of_getElem? (i := 40) rfl))) (by decide) (t := .int) (t' := .long) (by decide) (by decide)))) (Or.inr (slot_ne (Or.inr (hw _ (List.mem_of_getElem? (i := 28) rfl))) (Or.inr (hw _ (List.mem_of_getElem? (i := 42) rfl))) (by decide) (t := .int) (t' := (.object "java/lang/String")) (by decide) (by decide)))) (Or.inr (slot_ne (Or.inr (hw _ (List.mem_of_getElem? (i := 28) rfl))) (Or.inr (hw _ (List.mem_of_getElem? (i := 44) rfl))) (by decide) (t := .int) (t' := (.object "java/lang/String")) (by decide) (by decide))))
  have c48 := (Fld.other W42 (Fld.other W38 (Fld.other W34 (Fld.other W30 (Fld.other W26 (Fld.other W22 (Fld.other W18 F14 (Or.inr (slot_ne (Or.inr (hw _ (List.mem_of_getElem? (i := 30) rfl))) (Or.inr (hw _ (List.mem_of_getElem? (i := 32) rfl))) (by decide) (t := .long) (t' := .int) (by decide) (by decide)))) (Or.inr (slot_ne (Or.inr (hw _ (List.mem_of_getElem? (i := 30) rfl))) (Or.inr (hw _ (List.mem_of_getElem? (i := 34) rfl))) (by decide) (t := .long) (t' := .int) (by decide) (by decide)))) (Or.inr (slot_ne (Or.inr (hw _ (List.mem_of_getElem? (i := 30) rfl))) (Or.inr (hw _ (List.mem_of_getElem? (i := 36) rfl))) (by decide) (t := .long) (t' := .long) (by decide) (by decide)))) (Or.inr (slot_ne (Or.inr (hw _ (List.mem_of_getElem? (i := 30) rfl))) (Or.inr (hw _ (List.mem_of_getElem? (i := 38) rfl))) (by decide) (t := .long) (t' := .long) (by decide) (by decide)))) (Or.inr (slot_ne (Or.inr (hw _ (List.mem_of_getElem? (i := 30) rfl))) (Or.inr (hw _ (List.mem_of_getElem? (i := 40) rfl))) (by decide) (t := .long) (t' := .long) (by decide) (by decide)))) (Or.inr (slot_ne (Or.inr (hw _ (List.mem_of_getElem? (i := 30) rfl))) (Or.inr (hw _ (List.mem_of_getElem? (i := 42) rfl))) (by decide) (t := .long) (t' := (.object "java/lang/String")) (by decide) (by decide)))) (Or.inr (slot_ne (Or.inr (hw _ (List.mem_of_getElem? (i := 30) rfl))) (Or.inr (hw _ (List.mem_of_getElem? (i := 44) rfl))) (by decide) (t := .long) (t' := (.object "java/lang/String")) (by decide) (by decide))))
  have c49 := (Fld.other W42 (Fld.other W38 (Fld.other W34 (Fld.other W30 (Fld.other W26 (Fld.other W22 F18 (Or.inr (slot_ne (Or.inr (hw _ (List.mem_of_getElem? (i := 32) rfl))) (Or.inr (hw _ (List.mem_of_getElem? (i := 34) rfl))) (by decide) (t := .int) (t' := .int) (by decide) (by decide)))) (Or.inr (slot_ne (Or.inr (hw _ (List.mem_of_getElem? (i := 32) rfl))) (Or.inr (hw _ (List.mem_of_getElem? (i := 36) rfl))) (by decide) (t := .int) (t' := .long) (by decide) (by decide)))) (Or.inr (slot_ne (Or.inr (hw _ (List.mem_of_getElem? (i := 32) rfl))) (Or.inr (hw _ (List.mem_of_getElem? (i := 38) rfl))) (by decide) (t := .int) (t' := .long) (by decide) (by decide)))) (Or.inr (slot_ne (Or.inr (hw _ (List.mem_of_getElem? (i := 32) rfl))) (Or.inr (hw _ (List.mem_of_getElem? (i := 40) rfl))) (by decide) (t := .int) (t' := .long) (by decide) (by decide)))) (Or.inr (slot_ne (Or.inr (hw _ (List.mem_of_getElem? (i := 32) rfl))) (Or.inr (hw _ (List.mem_of_getElem? (i := 42) rfl))) (by decide) (t := .int) (t' := (.object "java/lang/String")) (by decide) (by decide)))) (Or.inr (slot_ne (Or.inr (hw _ (List.mem_of_getElem? (i := 32) rfl))) (Or.inr (hw _ (List.mem_of_getElem? (i := 44) rfl))) (by decide) (t := .int) (t' := (.object "java/lang/String")) (by decide) (by decide))))
  have c50 := (Fld.other W42 (Fld.other W38 (Fld.other W34 (Fld.other W30 (Fld.other W26 F22 (Or.inr (slot_ne (Or.inr (hw _ (List.mem_of_getElem? (i := 34) rfl))) (Or.inr (hw _ (List.mem_of_getElem? (i := 36) rfl))) (by decide) (t := .int) (t' := .long) (by decide) (by decide)))) (Or.inr (slot_ne (Or.inr (hw _ (List.mem_of_getElem? (i := 34) rfl))) (Or.inr (hw _ (List.mem_of_getElem? (i := 38) rfl))) (by decide) (t := .int) (t' := .long) (by decide) (by decide)))) (Or.inr (slot_ne (Or.inr (hw _ (List.mem_of_getElem? (i := 34) rfl))) (Or.inr (hw _ (List.mem_of_getElem? (i := 40) rfl))) (by decide) (t := .int) (t' := .long) (by decide) (by decide)))) (Or.inr (slot_ne (Or.inr (hw _ (List.mem_of_getElem? (i := 34) rfl))) (Or.inr (hw _ (List.mem_of_getElem? (i := 42) rfl))) (by decide) (t := .int) (t' := (.object "java/lang/String")) (by decide) (by decide)))) (Or.inr (slot_ne (Or.inr (hw _ (List.mem_of_getElem? (i := 34) rfl))) (Or.inr (hw _ (List.mem_of_getElem? (i := 44) rfl))) (by decide) (t := .int) (t' := (.object "java/lang/String")) (by decide) (by decide))))
  have c51 := (Fld.other W42 (Fld.other W38 (Fld.other W34 (Fld.other W30 F26 (Or.inr (slot_ne (Or.inr (hw _ (List.mem_of_getElem? (i := 36) rfl))) (Or.inr (hw _ (List.mem_of_getElem? (i := 38) rfl))) (by decide) (t := .long) (t' := .long) (by decide) (by decide)))) (Or.inr (slot_ne (Or.inr (hw _ (List.mem_of_getElem? (i := 36) rfl))) (Or.inr (hw _ (List.mem_of_getElem? (i := 40) rfl))) (by decide) (t := .long) (t' := .long) (by decide) (by decide)))) (Or.inr (slot_ne (Or.inr (hw _ (List.mem_of_getElem? (i := 36) rfl))) (Or.inr (hw _ (List.mem_of_getElem? (i := 42) rfl))) (by decide) (t := .long) (t' := (.object "java/lang/String")) (by decide) (by decide)))) (Or.inr (slot_ne (Or.inr (hw _ (List.mem_of_getElem? (i := 36) rfl))) (Or.inr (hw _ (List.mem_of_getElem? (i := 44) rfl))) (by decide) (t := .long) (t' := (.object "java/lang/String")) (by decide) (by decide))))
  have c52 := (Fld.other W42 (Fld.other W38 (Fld.other W34 F30 (Or.inr (slot_ne (Or.inr (hw _ (List.mem_of_getElem? (i := 38) rfl))) (Or.inr (hw _ (List.mem_of_getElem? (i := 40) rfl))) (by decide) (t := .long) (t' := .long) (by decide) (by decide)))) (Or.inr (slot_ne (Or.inr (hw _ (List.mem_of_getElem? (i := 38) rfl))) (Or.inr (hw _ (List.mem_of_getElem? (i := 42) rfl))) (by decide) (t := .long) (t' := (.object "java/lang/String")) (by decide) (by decide)))) (Or.inr (slot_ne (Or.inr (hw _ (List.mem_of_getElem? (i := 38) rfl))) (Or.inr (hw _ (List.mem_of_getElem? (i := 44) rfl))) (by decide) (t := .long) (t' := (.object "java/lang/String")) (by decide) (by decide))))
  have c53 := (Fld.other W42 (Fld.other W38 F34 (Or.inr (slot_ne (Or.inr (hw _ (List.mem_of_getElem? (i := 40) rfl))) (Or.inr (hw _ (List.mem_of_getElem? (i := 42) rfl))) (by decide) (t := .long) (t' := (.object "java/lang/String")) (by decide) (by decide)))) (Or.inr (slot_ne (Or.inr (hw _ (List.mem_of_getElem? (i := 40) rfl))) (Or.inr (hw _ (List.mem_of_getElem? (i := 44) rfl))) (by decide) (t := .long) (t' := (.object "java/lang/String")) (by decide) (by decide))))
  have c54 := (Fld.other W42 F38 (Or.inr (slot_ne (Or.inr (hw _ (List.mem_of_getElem? (i := 42) rfl))) (Or.inr (hw _ (List.mem_of_getElem? (i := 44) rfl))) (by decide) (t := (.object "java/lang/String")) (t' := (.object "java/lang/String")) (by decide) (by decide))))
  exact own_end (h := h42) X42 (v := none) Bd.notSynchronized (fun _ => rfl) (fun fs hr => X42.returnOut hx Bd.returns (hb hby d1_67) hr) e42 ⟨rfl, N43, K43, c44, c45, c46, c47, c48, c49, c50, c51, c52, c53, c54, F42⟩ (by decide) (by decide)
theorem ef1NN (m : MethodId) (x0 : Addr) (x1 : Addr) (x2 : Addr) (x3 : Int32) (x4 : Int64) (x5 : Int32) (x6 : Int32) (x7 : Int64) (x8 : Int64) (x9 : Int64) : entryFrame m #[(.ref x0), (.ref x1), (.ref x2), (.int x3), (.long x4), (.int x5), (.int x6), (.long x7), (.long x8), (.long x9), .null, .null] 16 = mkF m 0 #[.val (.ref x0), .val (.ref x1), .val (.ref x2), .val (.int x3), .val (.long x4), .second, .val (.int x5), .val (.int x6), .val (.long x7), .second, .val (.long x8), .second, .val (.long x9), .second, .val .null, .val .null] [] := by first | (simp [entryFrame, mkF, argsToLocals, Value.category]; done) | rfl
def Q1NN (Z : State) (a1 : Addr) (x0 : Addr) (x1 : Addr) (x2 : Int32) (x3 : Int64) (x4 : Int32) (x5 : Int32) (x6 : Int64) (x7 : Int64) (x8 : Int64) (h0 : Heap) (n0 : Nat) (v : Option Value) (h : Heap) (L : List Loc) : Prop := v = none ∧ Fr n0 L ∧ Keep h0 h [a1] ∧ Exa Z h a1 "com/example/qiantang/qiantang/protocol/PullMessageRequest" ∧ Fld Z h a1 "com/example/qiantang/qiantang/protocol/PullMessageRequest" "consumerGroup" "Ljava/lang/String;" (.ref x0) ∧ Fld Z h a1 "com/example/qiantang/qiantang/protocol/PullMessageRequest" "topic" "Ljava/lang/String;" (.ref x1) ∧ Fld Z h a1 "com/example/qiantang/qiantang/protocol/PullMessageRequest" "queueId" "I" (.int x2) ∧ Fld Z h a1 "com/example/qiantang/qiantang/protocol/PullMessageRequest" "queueOffset" "J" (.long x3) ∧ Fld Z h a1 "com/example/qiantang/qiantang/protocol/PullMessageRequest" "maxMsgNums" "I" (.int x4) ∧ Fld Z h a1 "com/example/qiantang/qiantang/protocol/PullMessageRequest" "sysFlag" "I" (.int x5) ∧ Fld Z h a1 "com/example/qiantang/qiantang/protocol/PullMessageRequest" "commitOffset" "J" (.long x6) ∧ Fld Z h a1 "com/example/qiantang/qiantang/protocol/PullMessageRequest" "suspendTimeoutMillis" "J" (.long x7) ∧ Fld Z h a1 "com/example/qiantang/qiantang/protocol/PullMessageRequest" "subVersion" "J" (.long x8) ∧ Fld Z h a1 "com/example/qiantang/qiantang/protocol/PullMessageRequest" "subscription" "Ljava/lang/String;" .null ∧ Fld Z h a1 "com/example/qiantang/qiantang/protocol/PullMessageRequest" "expressionType" "Ljava/lang/String;" .null
set_option maxRecDepth 65536 in
set_option maxHeartbeats 40000000 in
theorem rm1NN (l : Launch) (Z : State) (a0 : Array Value) (hw : ∀ d ∈ tables_1, d.before a0 Z = true) (ws : List Jvm.Cond) (a1 : Addr) (x0 : Addr) (x1 : Addr) (x2 : Int32) (x3 : Int64) (x4 : Int32) (x5 : Int32) (x6 : Int64) (x7 : Int64) (x8 : Int64) (h0 : Heap) (n0 : Nat) (Z0 : n0 ≤ h0.size) (F0_0 : Fld Z h0 a1 "com/example/qiantang/qiantang/protocol/PullMessageRequest" "consumerGroup" "Ljava/lang/String;" .null) (F1_0 : Fld Z h0 a1 "com/example/qiantang/qiantang/protocol/PullMessageRequest" "topic" "Ljava/lang/String;" .null) (F2_0 : Fld Z h0 a1 "com/example/qiantang/qiantang/protocol/PullMessageRequest" "queueId" "I" (.int (0 : Int32))) (F3_0 : Fld Z h0 a1 "com/example/qiantang/qiantang/protocol/PullMessageRequest" "queueOffset" "J" (.long (0 : Int64))) (F4_0 : Fld Z h0 a1 "com/example/qiantang/qiantang/protocol/PullMessageRequest" "maxMsgNums" "I" (.int (0 : Int32))) (F5_0 : Fld Z h0 a1 "com/example/qiantang/qiantang/protocol/PullMessageRequest" "sysFlag" "I" (.int (0 : Int32))) (F6_0 : Fld Z h0 a1 "com/example/qiantang/qiantang/protocol/PullMessageRequest" "commitOffset" "J" (.long (0 : Int64))) (F7_0 : Fld Z h0 a1 "com/example/qiantang/qiantang/protocol/PullMessageRequest" "suspendTimeoutMillis" "J" (.long (0 : Int64))) (F8_0 : Fld Z h0 a1 "com/example/qiantang/qiantang/protocol/PullMessageRequest" "subVersion" "J" (.long (0 : Int64))) (F9_0 : Fld Z h0 a1 "com/example/qiantang/qiantang/protocol/PullMessageRequest" "subscription" "Ljava/lang/String;" .null) (F10_0 : Fld Z h0 a1 "com/example/qiantang/qiantang/protocol/PullMessageRequest" "expressionType" "Ljava/lang/String;" .null) (E_a1 : Exa Z h0 a1 "com/example/qiantang/qiantang/protocol/PullMessageRequest") (g_a1 : n0 ≤ a1) :
    MetFree l (⟨"com/example/qiantang/qiantang/protocol/PullMessageRequest", "<init>", "(Ljava/lang/String;Ljava/lang/String;IJIIJJJLjava/lang/String;Ljava/lang/String;)V"⟩ : MethodName) (head1 (Jvm.Cond.code (⟨"com/example/qiantang/qiantang/protocol/PullMessageRequest", "<init>", "(Ljava/lang/String;Ljava/lang/String;IJIIJJJLjava/lang/String;Ljava/lang/String;)V"⟩ : MethodName) prog_40_method_2_code 16 none :: ws) ({ frames := 2, cells := 0, slots := 0, locals := 24 } : Room)) (fun a U => a = #[(.ref a1), (.ref x0), (.ref x1), (.int x2), (.long x3), (.int x4), (.int x5), (.long x6), (.long x7), (.long x8), .null, .null] ∧ Z.Warmed39 U.vm ∧ U.heap = h0) (fun _ _ _ _ _ => True) (fun _ U o U' => ∃ v L, o = .returned v ∧ Q1NN Z a1 x0 x1 x2 x3 x4 x5 x6 x7 x8 h0 n0 v U'.heap L ∧ FrameEnd U o U' L ({ frames := 2, cells := 0, slots := 0, locals := 24 } : Room).cells ({ frames := 2, cells := 0, slots := 0, locals := 24 } : Room).slots) := by
  refine MetFree.of_bodySF (plainFor_of_name pn1) hisR ?_
  intro p e s m args below meth c s₁ Bd hml0 hP hK
  obtain ⟨rfl, hZ, hh⟩ := hP
  have hx := Bd.exec
  have hby := Bd.bytes
  have hml : c.maxLocals = 16 := hml0
  have hown : s.vm.findClass "com/example/qiantang/qiantang/protocol/PullMessageRequest" = some m.cls := findClass_of_methodNamed Bd.named
  have hnm := (name_of_methodNamed Bd.named Bd.method).1
  have X0 : Stand p l e ({ frames := 2, cells := 0, slots := 0, locals := 24 } : Room) s m #[(.ref a1), (.ref x0), (.ref x1), (.int x2), (.long x3), (.int x4), (.int x5), (.long x6), (.long x7), (.long x8), .null, .null] below meth c s₁ [] 0 0 := Stand.of_body Bd
  have e0 : s₁.heap = h0 := by rw [← hh, Bd.state]; rfl
  have N0 := Fr.nil n0
  refine (show own_G p.tables e below (own_P s (Q1NN Z a1 x0 x1 x2 x3 x4 x5 x6 x7 x8 h0 n0) 0 0) (s₁.setTop (entryFrame m #[(.ref a1), (.ref x0), (.ref x1), (.int x2), (.long x3), (.int x4), (.int x5), (.long x6), (.long x7), (.long x8), .null, .null] 16)) from ?_)
  refine own_via (fun t k => castTop (ef1NN m a1 x0 x1 x2 x3 x4 x5 x6 x7 x8) k) ?_
  show own_G p.tables e below _ (s₁.setTop (mkF m 0 #[.val (.ref a1), .val (.ref x0), .val (.ref x1), .val (.int x2), .val (.long x3), .second, .val (.int x4), .val (.int x5), .val (.long x6), .second, .val (.long x7), .second, .val (.long x8), .second, .val .null, .val .null] []))
  have K0 := Keep.refl h0 [a1]
  refine own_via (S' := s₁.setTop (mkF m 1 #[.val (.ref a1), .val (.ref x0), .val (.ref x1), .val (.int x2), .val (.long x3), .second, .val (.int x4), .val (.int x5), .val (.long x6), .second, .val (.long x7), .second, .val (.long x8), .second, .val .null, .val .null] [(.ref a1)])) (fun t k => ?_) ?_
  · show Steps p.tables e below (s₁.setTop (mkF m 0 #[.val (.ref a1), .val (.ref x0), .val (.ref x1), .val (.int x2), .val (.long x3), .second, .val (.int x4), .val (.int x5), .val (.long x6), .second, .val (.long x7), .second, .val (.long x8), .second, .val .null, .val .null] [])) t
    refine XS.aloadN X0.here hx rfl (hb hby d1_0) rfl rfl ?_
    exact k
  obtain ⟨_, _, ⟨T1, L1, k1, n1⟩, -, X1, ⟨Lc1, hQ1, l1, y1, z1⟩, st1⟩ := X0.specialBack hx (y := (⟨"java/lang/Record", "<init>", "()V"⟩ : MethodName)) rfl hown (mvT hZ (hw _ (List.mem_of_getElem? (i := 15) rfl))) (mvT hZ (hw _ (List.mem_of_getElem? (i := 16) rfl))) (mvT hZ (hw _ (List.mem_of_getElem? (i := 19) rfl))) (by decide) (backOf (W := 0) (rm2 l Z a0 hw [] a1 h0 n0 (Nat.le_trans Z0 K0.1)) hZ (hw _ (List.mem_of_getElem? (i := 19) rfl)) (hw _ (List.mem_of_getElem? (i := 18) rfl)) (by decide) (by decide)) (g := (mkF m 1 #[.val (.ref a1), .val (.ref x0), .val (.ref x1), .val (.int x2), .val (.long x3), .second, .val (.int x4), .val (.int x5), .val (.long x6), .second, .val (.long x7), .second, .val (.long x8), .second, .val .null, .val .null] [(.ref a1)])) rfl (by rw [hml]; rfl) (Steps.refl _) (a := a1) (argsL := []) (rest := []) (lenOf pd_0 rfl) rfl (by show 2 * 0 + _ ≤ _; exact Nat.le_of_eq rfl) (hb hby d1_1) (fun _ _ => ⟨rfl, e0, (by decide : 0 + 0 ≤ _), (by decide : 0 + 0 ≤ _)⟩)
  dsimp only [Pt.U, Pt.locs, Pt.cells, Pt.slots] at X1 l1 y1 z1 st1 hQ1
  subst l1 y1 z1
  obtain ⟨rfl, Nq1, hh1⟩ := hQ1
  have N1 := Fr.app N0 Nq1
  refine own_via (fun t k => st1.trans k) ?_
  show own_G p.tables e below _ (T1.setTop (mkF m 4 #[.val (.ref a1), .val (.ref x0), .val (.ref x1), .val (.int x2), .val (.long x3), .second, .val (.int x4), .val (.int x5), .val (.long x6), .second, .val (.long x7), .second, .val (.long x8), .second, .val .null, .val .null] []))
  refine own_via (S' := T1.setTop (mkF m 6 #[.val (.ref a1), .val (.ref x0), .val (.ref x1), .val (.int x2), .val (.long x3), .second, .val (.int x4), .val (.int x5), .val (.long x6), .second, .val (.long x7), .second, .val (.long x8), .second, .val .null, .val .null] [(.ref x0), (.ref a1)])) (fun t k => ?_) ?_
  · show Steps p.tables e below (T1.setTop (mkF m 4 #[.val (.ref a1), .val (.ref x0), .val (.ref x1), .val (.int x2), .val (.long x3), .second, .val (.int x4), .val (.int x5), .val (.long x6), .second, .val (.long x7), .second, .val (.long x8), .second, .val .null, .val .null] [])) t
    refine XS.aloadN X1.here hx rfl (hb hby d1_4) rfl rfl ?_
    show Steps p.tables e below (T1.setTop (mkF m 5 #[.val (.ref a1), .val (.ref x0), .val (.ref x1), .val (.int x2), .val (.long x3), .second, .val (.int x4), .val (.int x5), .val (.long x6), .second, .val (.long x7), .second, .val (.long x8), .second, .val .null, .val .null] [(.ref a1)])) t
    refine XS.aloadN X1.here hx rfl (hb hby d1_5) rfl rfl ?_
    exact k
  obtain ⟨T2, h2, X2, e2, W2, st2⟩ := putF X1 hx hZ hown (host := "") (Or.inl (hw _ (List.mem_of_getElem? (i := 23) rfl))) Via.refl hh1 F0_0 E_a1 (Or.inr ⟨(hw _ (List.mem_of_getElem? (i := 24) rfl)), rfl, hnm⟩) (hw _ (List.mem_of_getElem? (i := 1) rfl)) (ty := (.object "java/lang/String")) (by decide) rfl rfl (g := (mkF m 6 #[.val (.ref a1), .val (.ref x0), .val (.ref x1), .val (.int x2), .val (.long x3), .second, .val (.int x4), .val (.int x5), .val (.long x6), .second, .val (.long x7), .second, .val (.long x8), .second, .val .null, .val .null] [(.ref x0), (.ref a1)])) rfl rfl (hb hby d1_6)
  have F2 := Fld.same W2 F0_0
  have K3 : Keep h0 h2 [a1] := Keep.wr K0 W2 (Or.inl (List.mem_of_getElem? (i := 0) rfl))
  have N3 := Fr.snoc X2 N1 g_a1
  refine own_via st2 ?_
  show own_G p.tables e below _ (T2.setTop (mkF m 9 #[.val (.ref a1), .val (.ref x0), .val (.ref x1), .val (.int x2), .val (.long x3), .second, .val (.int x4), .val (.int x5), .val (.long x6), .second, .val (.long x7), .second, .val (.long x8), .second, .val .null, .val .null] []))
  refine own_via (S' := T2.setTop (mkF m 11 #[.val (.ref a1), .val (.ref x0), .val (.ref x1), .val (.int x2), .val (.long x3), .second, .val (.int x4), .val (.int x5), .val (.long x6), .second, .val (.long x7), .second, .val (.long x8), .second, .val .null, .val .null] [(.ref x1), (.ref a1)])) (fun t k => ?_) ?_
  · show Steps p.tables e below (T2.setTop (mkF m 9 #[.val (.ref a1), .val (.ref x0), .val (.ref x1), .val (.int x2), .val (.long x3), .second, .val (.int x4), .val (.int x5), .val (.long x6), .second, .val (.long x7), .second, .val (.long x8), .second, .val .null, .val .null] [])) t
    refine XS.aloadN X2.here hx rfl (hb hby d1_9) rfl rfl ?_
    show Steps p.tables e below (T2.setTop (mkF m 10 #[.val (.ref a1), .val (.ref x0), .val (.ref x1), .val (.int x2), .val (.long x3), .second, .val (.int x4), .val (.int x5), .val (.long x6), .second, .val (.long x7), .second, .val (.long x8), .second, .val .null, .val .null] [(.ref a1)])) t
    refine XS.aloadN X2.here hx rfl (hb hby d1_10) rfl rfl ?_
    exact k
  have c4 := (Fld.other W2 F1_0 (Or.inr (slot_ne (Or.inr (hw _ (List.mem_of_getElem? (i := 26) rfl))) (Or.inr (hw _ (List.mem_of_getElem? (i := 24) rfl))) (by decide) (t := (.object "java/lang/String")) (t' := (.object "java/lang/String")) (by decide) (by decide))))
  have c5 := (Exa.wr W2 E_a1)
  obtain ⟨T6, h6, X6, e6, W6, st6⟩ := putF X2 hx hZ hown (host := "") (Or.inl (hw _ (List.mem_of_getElem? (i := 25) rfl))) Via.refl e2 c4 c5 (Or.inr ⟨(hw _ (List.mem_of_getElem? (i := 26) rfl)), rfl, hnm⟩) (hw _ (List.mem_of_getElem? (i := 1) rfl)) (ty := (.object "java/lang/String")) (by decide) rfl rfl (g := (mkF m 11 #[.val (.ref a1), .val (.ref x0), .val (.ref x1), .val (.int x2), .val (.long x3), .second, .val (.int x4), .val (.int x5), .val (.long x6), .second, .val (.long x7), .second, .val (.long x8), .second, .val .null, .val .null] [(.ref x1), (.ref a1)])) rfl rfl (hb hby d1_11)
  have F6 := Fld.same W6 c4
  have K7 : Keep h0 h6 [a1] := Keep.wr K3 W6 (Or.inl (List.mem_of_getElem? (i := 0) rfl))
  have N7 := Fr.snoc X6 N3 g_a1
  refine own_via st6 ?_
  show own_G p.tables e below _ (T6.setTop (mkF m 14 #[.val (.ref a1), .val (.ref x0), .val (.ref x1), .val (.int x2), .val (.long x3), .second, .val (.int x4), .val (.int x5), .val (.long x6), .second, .val (.long x7), .second, .val (.long x8), .second, .val .null, .val .null] []))
  refine own_via (S' := T6.setTop (mkF m 16 #[.val (.ref a1), .val (.ref x0), .val (.ref x1), .val (.int x2), .val (.long x3), .second, .val (.int x4), .val (.int x5), .val (.long x6), .second, .val (.long x7), .second, .val (.long x8), .second, .val .null, .val .null] [(.int x2), (.ref a1)])) (fun t k => ?_) ?_
  · show Steps p.tables e below (T6.setTop (mkF m 14 #[.val (.ref a1), .val (.ref x0), .val (.ref x1), .val (.int x2), .val (.long x3), .second, .val (.int x4), .val (.int x5), .val (.long x6), .second, .val (.long x7), .second, .val (.long x8), .second, .val .null, .val .null] [])) t
    refine XS.aloadN X6.here hx rfl (hb hby d1_14) rfl rfl ?_
    show Steps p.tables e below (T6.setTop (mkF m 15 #[.val (.ref a1), .val (.ref x0), .val (.ref x1), .val (.int x2), .val (.long x3), .second, .val (.int x4), .val (.int x5), .val (.long x6), .second, .val (.long x7), .second, .val (.long x8), .second, .val .null, .val .null] [(.ref a1)])) t
    refine XS.iloadN X6.here hx rfl (hb hby d1_15) rfl ?_
    exact k
  have c8 := (Fld.other W6 (Fld.other W2 F2_0 (Or.inr (slot_ne (Or.inr (hw _ (List.mem_of_getElem? (i := 28) rfl))) (Or.inr (hw _ (List.mem_of_getElem? (i := 24) rfl))) (by decide) (t := .int) (t' := (.object "java/lang/String")) (by decide) (by decide)))) (Or.inr (slot_ne (Or.inr (hw _ (List.mem_of_getElem? (i := 28) rfl))) (Or.inr (hw _ (List.mem_of_getElem? (i := 26) rfl))) (by decide) (t := .int) (t' := (.object "java/lang/String")) (by decide) (by decide))))
  have c9 := (Exa.wr W6 c5)
  obtain ⟨T10, h10, X10, e10, W10, st10⟩ := putF X6 hx hZ hown (host := "") (Or.inl (hw _ (List.mem_of_getElem? (i := 27) rfl))) Via.refl e6 c8 c9 (Or.inr ⟨(hw _ (List.mem_of_getElem? (i := 28) rfl)), rfl, hnm⟩) (hw _ (List.mem_of_getElem? (i := 1) rfl)) (ty := .int) (by decide) rfl rfl (g := (mkF m 16 #[.val (.ref a1), .val (.ref x0), .val (.ref x1), .val (.int x2), .val (.long x3), .second, .val (.int x4), .val (.int x5), .val (.long x6), .second, .val (.long x7), .second, .val (.long x8), .second, .val .null, .val .null] [(.int x2), (.ref a1)])) rfl rfl (hb hby d1_16)
  have F10 := Fld.same W10 c8
  have K11 : Keep h0 h10 [a1] := Keep.wr K7 W10 (Or.inl (List.mem_of_getElem? (i := 0) rfl))
  have N11 := Fr.snoc X10 N7 g_a1
  refine own_via st10 ?_
  show own_G p.tables e below _ (T10.setTop (mkF m 19 #[.val (.ref a1), .val (.ref x0), .val (.ref x1), .val (.int x2), .val (.long x3), .second, .val (.int x4), .val (.int x5), .val (.long x6), .second, .val (.long x7), .second, .val (.long x8), .second, .val .null, .val .null] []))
  refine own_via (S' := T10.setTop (mkF m 22 #[.val (.ref a1), .val (.ref x0), .val (.ref x1), .val (.int x2), .val (.long x3), .second, .val (.int x4), .val (.int x5), .val (.long x6), .second, .val (.long x7), .second, .val (.long x8), .second, .val .null, .val .null] [(.long x3), (.ref a1)])) (fun t k => ?_) ?_
  · show Steps p.tables e below (T10.setTop (mkF m 19 #[.val (.ref a1), .val (.ref x0), .val (.ref x1), .val (.int x2), .val (.long x3), .second, .val (.int x4), .val (.int x5), .val (.long x6), .second, .val (.long x7), .second, .val (.long x8), .second, .val .null, .val .null] [])) t
    refine XS.aloadN X10.here hx rfl (hb hby d1_19) rfl rfl ?_
    show Steps p.tables e below (T10.setTop (mkF m 20 #[.val (.ref a1), .val (.ref x0), .val (.ref x1), .val (.int x2), .val (.long x3), .second, .val (.int x4), .val (.int x5), .val (.long x6), .second, .val (.long x7), .second, .val (.long x8), .second, .val .null, .val .null] [(.ref a1)])) t
    refine XS.lload X10.here hx rfl (hb hby d1_20) rfl ?_
    exact k
  have c12 := (Fld.other W10 (Fld.other W6 (Fld.other W2 F3_0 (Or.inr (slot_ne (Or.inr (hw _ (List.mem_of_getElem? (i := 30) rfl))) (Or.inr (hw _ (List.mem_of_getElem? (i := 24) rfl))) (by decide) (t := .long) (t' := (.object "java/lang/String")) (by decide) (by decide)))) (Or.inr (slot_ne (Or.inr (hw _ (List.mem_of_getElem? (i := 30) rfl))) (Or.inr (hw _ (List.mem_of_getElem? (i := 26) rfl))) (by decide) (t := .long) (t' := (.object "java/lang/String")) (by decide) (by decide)))) (Or.inr (slot_ne (Or.inr (hw _ (List.mem_of_getElem? (i := 30) rfl))) (Or.inr (hw _ (List.mem_of_getElem? (i := 28) rfl))) (by decide) (t := .long) (t' := .int) (by decide) (by decide))))
  have c13 := (Exa.wr W10 c9)
  obtain ⟨T14, h14, X14, e14, W14, st14⟩ := putF X10 hx hZ hown (host := "") (Or.inl (hw _ (List.mem_of_getElem? (i := 29) rfl))) Via.refl e10 c12 c13 (Or.inr ⟨(hw _ (List.mem_of_getElem? (i := 30) rfl)), rfl, hnm⟩) (hw _ (List.mem_of_getElem? (i := 1) rfl)) (ty := .long) (by decide) rfl rfl (g := (mkF m 22 #[.val (.ref a1), .val (.ref x0), .val (.ref x1), .val (.int x2), .val (.long x3), .second, .val (.int x4), .val (.int x5), .val (.long x6), .second, .val (.long x7), .second, .val (.long x8), .second, .val .null, .val .null] [(.long x3), (.ref a1)])) rfl rfl (hb hby d1_22)
  have F14 := Fld.same W14 c12
  have K15 : Keep h0 h14 [a1] := Keep.wr K11 W14 (Or.inl (List.mem_of_getElem? (i := 0) rfl))
  have N15 := Fr.snoc X14 N11 g_a1
  refine own_via st14 ?_
  show own_G p.tables e below _ (T14.setTop (mkF m 25 #[.val (.ref a1), .val (.ref x0), .val (.ref x1), .val (.int x2), .val (.long x3), .second, .val (.int x4), .val (.int x5), .val (.long x6), .second, .val (.long x7), .second, .val (.long x8), .second, .val .null, .val .null] []))
  refine own_via (S' := T14.setTop (mkF m 28 #[.val (.ref a1), .val (.ref x0), .val (.ref x1), .val (.int x2), .val (.long x3), .second, .val (.int x4), .val (.int x5), .val (.long x6), .second, .val (.long x7), .second, .val (.long x8), .second, .val .null, .val .null] [(.int x4), (.ref a1)])) (fun t k => ?_) ?_
  · show Steps p.tables e below (T14.setTop (mkF m 25 #[.val (.ref a1), .val (.ref x0), .val (.ref x1), .val (.int x2), .val (.long x3), .second, .val (.int x4), .val (.int x5), .val (.long x6), .second, .val (.long x7), .second, .val (.long x8), .second, .val .null, .val .null] [])) t
    refine XS.aloadN X14.here hx rfl (hb hby d1_25) rfl rfl ?_
    show Steps p.tables e below (T14.setTop (mkF m 26 #[.val (.ref a1), .val (.ref x0), .val (.ref x1), .val (.int x2), .val (.long x3), .second, .val (.int x4), .val (.int x5), .val (.long x6), .second, .val (.long x7), .second, .val (.long x8), .second, .val .null, .val .null] [(.ref a1)])) t
    refine XS.iload X14.here hx rfl (hb hby d1_26) rfl ?_
    exact k
  have c16 := (Fld.other W14 (Fld.other W10 (Fld.other W6 (Fld.other W2 F4_0 (Or.inr (slot_ne (Or.inr (hw _ (List.mem_of_getElem? (i := 32) rfl))) (Or.inr (hw _ (List.mem_of_getElem? (i := 24) rfl))) (by decide) (t := .int) (t' := (.object "java/lang/String")) (by decide) (by decide)))) (Or.inr (slot_ne (Or.inr (hw _ (List.mem_of_getElem? (i := 32) rfl))) (Or.inr (hw _ (List.mem_of_getElem? (i := 26) rfl))) (by decide) (t := .int) (t' := (.object "java/lang/String")) (by decide) (by decide)))) (Or.inr (slot_ne (Or.inr (hw _ (List.mem_of_getElem? (i := 32) rfl))) (Or.inr (hw _ (List.mem_of_getElem? (i := 28) rfl))) (by decide) (t := .int) (t' := .int) (by decide) (by decide)))) (Or.inr (slot_ne (Or.inr (hw _ (List.mem_of_getElem? (i := 32) rfl))) (Or.inr (hw _ (List.mem_of_getElem? (i := 30) rfl))) (by decide) (t := .int) (t' := .long) (by decide) (by decide))))
  have c17 := (Exa.wr W14 c13)
  obtain ⟨T18, h18, X18, e18, W18, st18⟩ := putF X14 hx hZ hown (host := "") (Or.inl (hw _ (List.mem_of_getElem? (i := 31) rfl))) Via.refl e14 c16 c17 (Or.inr ⟨(hw _ (List.mem_of_getElem? (i := 32) rfl)), rfl, hnm⟩) (hw _ (List.mem_of_getElem? (i := 1) rfl)) (ty := .int) (by decide) rfl rfl (g := (mkF m 28 #[.val (.ref a1), .val (.ref x0), .val (.ref x1), .val (.int x2), .val (.long x3), .second, .val (.int x4), .val (.int x5), .val (.long x6), .second, .val (.long x7), .second, .val (.long x8), .second, .val .null, .val .null] [(.int x4), (.ref a1)])) rfl rfl (hb hby d1_28)
  have F18 := Fld.same W18 c16
  have K19 : Keep h0 h18 [a1] := Keep.wr K15 W18 (Or.inl (List.mem_of_getElem? (i := 0) rfl))
  have N19 := Fr.snoc X18 N15 g_a1
  refine own_via st18 ?_
  show own_G p.tables e below _ (T18.setTop (mkF m 31 #[.val (.ref a1), .val (.ref x0), .val (.ref x1), .val (.int x2), .val (.long x3), .second, .val (.int x4), .val (.int x5), .val (.long x6), .second, .val (.long x7), .second, .val (.long x8), .second, .val .null, .val .null] []))
  refine own_via (S' := T18.setTop (mkF m 34 #[.val (.ref a1), .val (.ref x0), .val (.ref x1), .val (.int x2), .val (.long x3), .second, .val (.int x4), .val (.int x5), .val (.long x6), .second, .val (.long x7), .second, .val (.long x8), .second, .val .null, .val .null] [(.int x5), (.ref a1)])) (fun t k => ?_) ?_
  · show Steps p.tables e below (T18.setTop (mkF m 31 #[.val (.ref a1), .val (.ref x0), .val (.ref x1), .val (.int x2), .val (.long x3), .second, .val (.int x4), .val (.int x5), .val (.long x6), .second, .val (.long x7), .second, .val (.long x8), .second, .val .null, .val .null] [])) t
    refine XS.aloadN X18.here hx rfl (hb hby d1_31) rfl rfl ?_
    show Steps p.tables e below (T18.setTop (mkF m 32 #[.val (.ref a1), .val (.ref x0), .val (.ref x1), .val (.int x2), .val (.long x3), .second, .val (.int x4), .val (.int x5), .val (.long x6), .second, .val (.long x7), .second, .val (.long x8), .second, .val .null, .val .null] [(.ref a1)])) t
    refine XS.iload X18.here hx rfl (hb hby d1_32) rfl ?_
    exact k
  have c20 := (Fld.other W18 (Fld.other W14 (Fld.other W10 (Fld.other W6 (Fld.other W2 F5_0 (Or.inr (slot_ne (Or.inr (hw _ (List.mem_of_getElem? (i := 34) rfl))) (Or.inr (hw _ (List.mem_of_getElem? (i := 24) rfl))) (by decide) (t := .int) (t' := (.object "java/lang/String")) (by decide) (by decide)))) (Or.inr (slot_ne (Or.inr (hw _ (List.mem_of_getElem? (i := 34) rfl))) (Or.inr (hw _ (List.mem_of_getElem? (i := 26) rfl))) (by decide) (t := .int) (t' := (.object "java/lang/String")) (by decide) (by decide)))) (Or.inr (slot_ne (Or.inr (hw _ (List.mem_of_getElem? (i := 34) rfl))) (Or.inr (hw _ (List.mem_of_getElem? (i := 28) rfl))) (by decide) (t := .int) (t' := .int) (by decide) (by decide)))) (Or.inr (slot_ne (Or.inr (hw _ (List.mem_of_getElem? (i := 34) rfl))) (Or.inr (hw _ (List.mem_of_getElem? (i := 30) rfl))) (by decide) (t := .int) (t' := .long) (by decide) (by decide)))) (Or.inr (slot_ne (Or.inr (hw _ (List.mem_of_getElem? (i := 34) rfl))) (Or.inr (hw _ (List.mem_of_getElem? (i := 32) rfl))) (by decide) (t := .int) (t' := .int) (by decide) (by decide))))
  have c21 := (Exa.wr W18 c17)
  obtain ⟨T22, h22, X22, e22, W22, st22⟩ := putF X18 hx hZ hown (host := "") (Or.inl (hw _ (List.mem_of_getElem? (i := 33) rfl))) Via.refl e18 c20 c21 (Or.inr ⟨(hw _ (List.mem_of_getElem? (i := 34) rfl)), rfl, hnm⟩) (hw _ (List.mem_of_getElem? (i := 1) rfl)) (ty := .int) (by decide) rfl rfl (g := (mkF m 34 #[.val (.ref a1), .val (.ref x0), .val (.ref x1), .val (.int x2), .val (.long x3), .second, .val (.int x4), .val (.int x5), .val (.long x6), .second, .val (.long x7), .second, .val (.long x8), .second, .val .null, .val .null] [(.int x5), (.ref a1)])) rfl rfl (hb hby d1_34)
  have F22 := Fld.same W22 c20
  have K23 : Keep h0 h22 [a1] := Keep.wr K19 W22 (Or.inl (List.mem_of_getElem? (i := 0) rfl))
  have N23 := Fr.snoc X22 N19 g_a1
  refine own_via st22 ?_
  show own_G p.tables e below _ (T22.setTop (mkF m 37 #[.val (.ref a1), .val (.ref x0), .val (.ref x1), .val (.int x2), .val (.long x3), .second, .val (.int x4), .val (.int x5), .val (.long x6), .second, .val (.long x7), .second, .val (.long x8), .second, .val .null, .val .null] []))
  refine own_via (S' := T22.setTop (mkF m 40 #[.val (.ref a1), .val (.ref x0), .val (.ref x1), .val (.int x2), .val (.long x3), .second, .val (.int x4), .val (.int x5), .val (.long x6), .second, .val (.long x7), .second, .val (.long x8), .second, .val .null, .val .null] [(.long x6), (.ref a1)])) (fun t k => ?_) ?_
  · show Steps p.tables e below (T22.setTop (mkF m 37 #[.val (.ref a1), .val (.ref x0), .val (.ref x1), .val (.int x2), .val (.long x3), .second, .val (.int x4), .val (.int x5), .val (.long x6), .second, .val (.long x7), .second, .val (.long x8), .second, .val .null, .val .null] [])) t
    refine XS.aloadN X22.here hx rfl (hb hby d1_37) rfl rfl ?_
    show Steps p.tables e below (T22.setTop (mkF m 38 #[.val (.ref a1), .val (.ref x0), .val (.ref x1), .val (.int x2), .val (.long x3), .second, .val (.int x4), .val (.int x5), .val (.long x6), .second, .val (.long x7), .second, .val (.long x8), .second, .val .null, .val .null] [(.ref a1)])) t
    refine XS.lload X22.here hx rfl (hb hby d1_38) rfl ?_
    exact k
  have c24 := (Fld.other W22 (Fld.other W18 (Fld.other W14 (Fld.other W10 (Fld.other W6 (Fld.other W2 F6_0 (Or.inr (slot_ne (Or.inr (hw _ (List.mem_of_getElem? (i := 36) rfl))) (Or.inr (hw _ (List.mem_of_getElem? (i := 24) rfl))) (by decide) (t := .long) (t' := (.object "java/lang/String")) (by decide) (by decide)))) (Or.inr (slot_ne (Or.inr (hw _ (List.mem_of_getElem? (i := 36) rfl))) (Or.inr (hw _ (List.mem_of_getElem? (i := 26) rfl))) (by decide) (t := .long) (t' := (.object "java/lang/String")) (by decide) (by decide)))) (Or.inr (slot_ne (Or.inr (hw _ (List.mem_of_getElem? (i := 36) rfl))) (Or.inr (hw _ (List.mem_of_getElem? (i := 28) rfl))) (by decide) (t := .long) (t' := .int) (by decide) (by decide)))) (Or.inr (slot_ne (Or.inr (hw _ (List.mem_of_getElem? (i := 36) rfl))) (Or.inr (hw _ (List.mem_of_getElem? (i := 30) rfl))) (by decide) (t := .long) (t' := .long) (by decide) (by decide)))) (Or.inr (slot_ne (Or.inr (hw _ (List.mem_of_getElem? (i := 36) rfl))) (Or.inr (hw _ (List.mem_of_getElem? (i := 32) rfl))) (by decide) (t := .long) (t' := .int) (by decide) (by decide)))) (Or.inr (slot_ne (Or.inr (hw _ (List.mem_of_getElem? (i := 36) rfl))) (Or.inr (hw _ (List.mem_of_getElem? (i := 34) rfl))) (by decide) (t := .long) (t' := .int) (by decide) (by decide))))
  have c25 := (Exa.wr W22 c21)
  obtain ⟨T26, h26, X26, e26, W26, st26⟩ := putF X22 hx hZ hown (host := "") (Or.inl (hw _ (List.mem_of_getElem? (i := 35) rfl))) Via.refl e22 c24 c25 (Or.inr ⟨(hw _ (List.mem_of_getElem? (i := 36) rfl)), rfl, hnm⟩) (hw _ (List.mem_of_getElem? (i := 1) rfl)) (ty := .long) (by decide) rfl rfl (g := (mkF m 40 #[.val (.ref a1), .val (.ref x0), .val (.ref x1), .val (.int x2), .val (.long x3), .second, .val (.int x4), .val (.int x5), .val (.long x6), .second, .val (.long x7), .second, .val (.long x8), .second, .val .null, .val .null] [(.long x6), (.ref a1)])) rfl rfl (hb hby d1_40)
  have F26 := Fld.same W26 c24
  have K27 : Keep h0 h26 [a1] := Keep.wr K23 W26 (Or.inl (List.mem_of_getElem? (i := 0) rfl))
  have N27 := Fr.snoc X26 N23 g_a1
  refine own_via st26 ?_
  show own_G p.tables e below _ (T26.setTop (mkF m 43 #[.val (.ref a1), .val (.ref x0), .val (.ref x1), .val (.int x2), .val (.long x3), .second, .val (.int x4), .val (.int x5), .val (.long x6), .second, .val (.long x7), .second, .val (.long x8), .second, .val .null, .val .null] []))
  refine own_via (S' := T26.setTop (mkF m 46 #[.val (.ref a1), .val (.ref x0), .val (.ref x1), .val (.int x2), .val (.long x3), .second, .val (.int x4), .val (.int x5), .val (.long x6), .second, .val (.long x7), .second, .val (.long x8), .second, .val .null, .val .null] [(.long x7), (.ref a1)])) (fun t k => ?_) ?_
  · show Steps p.tables e below (T26.setTop (mkF m 43 #[.val (.ref a1), .val (.ref x0), .val (.ref x1), .val (.int x2), .val (.long x3), .second, .val (.int x4), .val (.int x5), .val (.long x6), .second, .val (.long x7), .second, .val (.long x8), .second, .val .null, .val .null] [])) t
    refine XS.aloadN X26.here hx rfl (hb hby d1_43) rfl rfl ?_
    show Steps p.tables e below (T26.setTop (mkF m 44 #[.val (.ref a1), .val (.ref x0), .val (.ref x1), .val (.int x2), .val (.long x3), .second, .val (.int x4), .val (.int x5), .val (.long x6), .second, .val (.long x7), .second, .val (.long x8), .second, .val .null, .val .null] [(.ref a1)])) t
    refine XS.lload X26.here hx rfl (hb hby d1_44) rfl ?_
    exact k
  have c28 := (Fld.other W26 (Fld.other W22 (Fld.other W18 (Fld.other W14 (Fld.other W10 (Fld.other W6 (Fld.other W2 F7_0 (Or.inr (slot_ne (Or.inr (hw _ (List.mem_of_getElem? (i := 38) rfl))) (Or.inr (hw _ (List.mem_of_getElem? (i := 24) rfl))) (by decide) (t := .long) (t' := (.object "java/lang/String")) (by decide) (by decide)))) (Or.inr (slot_ne (Or.inr (hw _ (List.mem_of_getElem? (i := 38) rfl))) (Or.inr (hw _ (List.mem_of_getElem? (i := 26) rfl))) (by decide) (t := .long) (t' := (.object "java/lang/String")) (by decide) (by decide)))) (Or.inr (slot_ne (Or.inr (hw _ (List.mem_of_getElem? (i := 38) rfl))) (Or.inr (hw _ (List.mem_of_getElem? (i := 28) rfl))) (by decide) (t := .long) (t' := .int) (by decide) (by decide)))) (Or.inr (slot_ne (Or.inr (hw _ (List.mem_of_getElem? (i := 38) rfl))) (Or.inr (hw _ (List.mem_of_getElem? (i := 30) rfl))) (by decide) (t := .long) (t' := .long) (by decide) (by decide)))) (Or.inr (slot_ne (Or.inr (hw _ (List.mem_of_getElem? (i := 38) rfl))) (Or.inr (hw _ (List.mem_of_getElem? (i := 32) rfl))) (by decide) (t := .long) (t' := .int) (by decide) (by decide)))) (Or.inr (slot_ne (Or.inr (hw _ (List.mem_of_getElem? (i := 38) rfl))) (Or.inr (hw _ (List.mem_of_getElem? (i := 34) rfl))) (by decide) (t := .long) (t' := .int) (by decide) (by decide)))) (Or.inr (slot_ne (Or.inr (hw _ (List.mem_of_getElem? (i := 38) rfl))) (Or.inr (hw _ (List.mem_of_getElem? (i := 36) rfl))) (by decide) (t := .long) (t' := .long) (by decide) (by decide))))
  have c29 := (Exa.wr W26 c25)
  obtain ⟨T30, h30, X30, e30, W30, st30⟩ := putF X26 hx hZ hown (host := "") (Or.inl (hw _ (List.mem_of_getElem? (i := 37) rfl))) Via.refl e26 c28 c29 (Or.inr ⟨(hw _ (List.mem_of_getElem? (i := 38) rfl)), rfl, hnm⟩) (hw _ (List.mem_of_getElem? (i := 1) rfl)) (ty := .long) (by decide) rfl rfl (g := (mkF m 46 #[.val (.ref a1), .val (.ref x0), .val (.ref x1), .val (.int x2), .val (.long x3), .second, .val (.int x4), .val (.int x5), .val (.long x6), .second, .val (.long x7), .second, .val (.long x8), .second, .val .null, .val .null] [(.long x7), (.ref a1)])) rfl rfl (hb hby d1_46)
  have F30 := Fld.same W30 c28
  have K31 : Keep h0 h30 [a1] := Keep.wr K27 W30 (Or.inl (List.mem_of_getElem? (i := 0) rfl))
  have N31 := Fr.snoc X30 N27 g_a1
  refine own_via st30 ?_
  show own_G p.tables e below _ (T30.setTop (mkF m 49 #[.val (.ref a1), .val (.ref x0), .val (.ref x1), .val (.int x2), .val (.long x3), .second, .val (.int x4), .val (.int x5), .val (.long x6), .second, .val (.long x7), .second, .val (.long x8), .second, .val .null, .val .null] []))
  refine own_via (S' := T30.setTop (mkF m 52 #[.val (.ref a1), .val (.ref x0), .val (.ref x1), .val (.int x2), .val (.long x3), .second, .val (.int x4), .val (.int x5), .val (.long x6), .second, .val (.long x7), .second, .val (.long x8), .second, .val .null, .val .null] [(.long x8), (.ref a1)])) (fun t k => ?_) ?_
  · show Steps p.tables e below (T30.setTop (mkF m 49 #[.val (.ref a1), .val (.ref x0), .val (.ref x1), .val (.int x2), .val (.long x3), .second, .val (.int x4), .val (.int x5), .val (.long x6), .second, .val (.long x7), .second, .val (.long x8), .second, .val .null, .val .null] [])) t
    refine XS.aloadN X30.here hx rfl (hb hby d1_49) rfl rfl ?_
    show Steps p.tables e below (T30.setTop (mkF m 50 #[.val (.ref a1), .val (.ref x0), .val (.ref x1), .val (.int x2), .val (.long x3), .second, .val (.int x4), .val (.int x5), .val (.long x6), .second, .val (.long x7), .second, .val (.long x8), .second, .val .null, .val .null] [(.ref a1)])) t
    refine XS.lload X30.here hx rfl (hb hby d1_50) rfl ?_
    exact k
  have c32 := (Fld.other W30 (Fld.other W26 (Fld.other W22 (Fld.other W18 (Fld.other W14 (Fld.other W10 (Fld.other W6 (Fld.other W2 F8_0 (Or.inr (slot_ne (Or.inr (hw _ (List.mem_of_getElem? (i := 40) rfl))) (Or.inr (hw _ (List.mem_of_getElem? (i := 24) rfl))) (by decide) (t := .long) (t' := (.object "java/lang/String")) (by decide) (by decide)))) (Or.inr (slot_ne (Or.inr (hw _ (List.mem_of_getElem? (i := 40) rfl))) (Or.inr (hw _ (List.mem_of_getElem? (i := 26) rfl))) (by decide) (t := .long) (t' := (.object "java/lang/String")) (by decide) (by decide)))) (Or.inr (slot_ne (Or.inr (hw _ (List.mem_of_getElem? (i := 40) rfl))) (Or.inr (hw _ (List.mem_of_getElem? (i := 28) rfl))) (by decide) (t := .long) (t' := .int) (by decide) (by decide)))) (Or.inr (slot_ne (Or.inr (hw _ (List.mem_of_getElem? (i := 40) rfl))) (Or.inr (hw _ (List.mem_of_getElem? (i := 30) rfl))) (by decide) (t := .long) (t' := .long) (by decide) (by decide)))) (Or.inr (slot_ne (Or.inr (hw _ (List.mem_of_getElem? (i := 40) rfl))) (Or.inr (hw _ (List.mem_of_getElem? (i := 32) rfl))) (by decide) (t := .long) (t' := .int) (by decide) (by decide)))) (Or.inr (slot_ne (Or.inr (hw _ (List.mem_of_getElem? (i := 40) rfl))) (Or.inr (hw _ (List.mem_of_getElem? (i := 34) rfl))) (by decide) (t := .long) (t' := .int) (by decide) (by decide)))) (Or.inr (slot_ne (Or.inr (hw _ (List.mem_of_getElem? (i := 40) rfl))) (Or.inr (hw _ (List.mem_of_getElem? (i := 36) rfl))) (by decide) (t := .long) (t' := .long) (by decide) (by decide)))) (Or.inr (slot_ne (Or.inr (hw _ (List.mem_of_getElem? (i := 40) rfl))) (Or.inr (hw _ (List.mem_of_getElem? (i := 38) rfl))) (by decide) (t := .long) (t' := .long) (by decide) (by decide))))
  have c33 := (Exa.wr W30 c29)
  obtain ⟨T34, h34, X34, e34, W34, st34⟩ := putF X30 hx hZ hown (host := "") (Or.inl (hw _ (List.mem_of_getElem? (i := 39) rfl))) Via.refl e30 c32 c33 (Or.inr ⟨(hw _ (List.mem_of_getElem? (i := 40) rfl)), rfl, hnm⟩) (hw _ (List.mem_of_getElem? (i := 1) rfl)) (ty := .long) (by decide) rfl rfl (g := (mkF m 52 #[.val (.ref a1), .val (.ref x0), .val (.ref x1), .val (.int x2), .val (.long x3), .second, .val (.int x4), .val (.int x5), .val (.long x6), .second, .val (.long x7), .second, .val (.long x8), .second, .val .null, .val .null] [(.long x8), (.ref a1)])) rfl rfl (hb hby d1_52)
  have F34 := Fld.same W34 c32
  have K35 : Keep h0 h34 [a1] := Keep.wr K31 W34 (Or.inl (List.mem_of_getElem? (i := 0) rfl))
  have N35 := Fr.snoc X34 N31 g_a1
  refine own_via st34 ?_
  show own_G p.tables e below _ (T34.setTop (mkF m 55 #[.val (.ref a1), .val (.ref x0), .val (.ref x1), .val (.int x2), .val (.long x3), .second, .val (.int x4), .val (.int x5), .val (.long x6), .second, .val (.long x7), .second, .val (.long x8), .second, .val .null, .val .null] []))
  refine own_via (S' := T34.setTop (mkF m 58 #[.val (.ref a1), .val (.ref x0), .val (.ref x1), .val (.int x2), .val (.long x3), .second, .val (.int x4), .val (.int x5), .val (.long x6), .second, .val (.long x7), .second, .val (.long x8), .second, .val .null, .val .null] [.null, (.ref a1)])) (fun t k => ?_) ?_
  · show Steps p.tables e below (T34.setTop (mkF m 55 #[.val (.ref a1), .val (.ref x0), .val (.ref x1), .val (.int x2), .val (.long x3), .second, .val (.int x4), .val (.int x5), .val (.long x6), .second, .val (.long x7), .second, .val (.long x8), .second, .val .null, .val .null] [])) t
    refine XS.aloadN X34.here hx rfl (hb hby d1_55) rfl rfl ?_
    show Steps p.tables e below (T34.setTop (mkF m 56 #[.val (.ref a1), .val (.ref x0), .val (.ref x1), .val (.int x2), .val (.long x3), .second, .val (.int x4), .val (.int x5), .val (.long x6), .second, .val (.long x7), .second, .val (.long x8), .second, .val .null, .val .null] [(.ref a1)])) t
    refine XS.aload X34.here hx rfl (hb hby d1_56) rfl rfl ?_
    exact k
  have c36 := (Fld.other W34 (Fld.other W30 (Fld.other W26 (Fld.other W22 (Fld.other W18 (Fld.other W14 (Fld.other W10 (Fld.other W6 (Fld.other W2 F9_0 (Or.inr (slot_ne (Or.inr (hw _ (List.mem_of_getElem? (i := 42) rfl))) (Or.inr (hw _ (List.mem_of_getElem? (i := 24) rfl))) (by decide) (t := (.object "java/lang/String")) (t' := (.object "java/lang/String")) (by decide) (by decide)))) (Or.inr (slot_ne (Or.inr (hw _ (List.mem_of_getElem? (i := 42) rfl))) (Or.inr (hw _ (List.mem_of_getElem? (i := 26) rfl))) (by decide) (t := (.object "java/lang/String")) (t' := (.object "java/lang/String")) (by decide) (by decide)))) (Or.inr (slot_ne (Or.inr (hw _ (List.mem_of_getElem? (i := 42) rfl))) (Or.inr (hw _ (List.mem_of_getElem? (i := 28) rfl))) (by decide) (t := (.object "java/lang/String")) (t' := .int) (by decide) (by decide)))) (Or.inr (slot_ne (Or.inr (hw _ (List.mem_of_getElem? (i := 42) rfl))) (Or.inr (hw _ (List.mem_of_getElem? (i := 30) rfl))) (by decide) (t := (.object "java/lang/String")) (t' := .long) (by decide) (by decide)))) (Or.inr (slot_ne (Or.inr (hw _ (List.mem_of_getElem? (i := 42) rfl))) (Or.inr (hw _ (List.mem_of_getElem? (i := 32) rfl))) (by decide) (t := (.object "java/lang/String")) (t' := .int) (by decide) (by decide)))) (Or.inr (slot_ne (Or.inr (hw _ (List.mem_of_getElem? (i := 42) rfl))) (Or.inr (hw _ (List.mem_of_getElem? (i := 34) rfl))) (by decide) (t := (.object "java/lang/String")) (t' := .int) (by decide) (by decide)))) (Or.inr (slot_ne (Or.inr (hw _ (List.mem_of_getElem? (i := 42) rfl))) (Or.inr (hw _ (List.mem_of_getElem? (i := 36) rfl))) (by decide) (t := (.object "java/lang/String")) (t' := .long) (by decide) (by decide)))) (Or.inr (slot_ne (Or.inr (hw _ (List.mem_of_getElem? (i := 42) rfl))) (Or.inr (hw _ (List.mem_of_getElem? (i := 38) rfl))) (by decide) (t := (.object "java/lang/String")) (t' := .long) (by decide) (by decide)))) (Or.inr (slot_ne (Or.inr (hw _ (List.mem_of_getElem? (i := 42) rfl))) (Or.inr (hw _ (List.mem_of_getElem? (i := 40) rfl))) (by decide) (t := (.object "java/lang/String")) (t' := .long) (by decide) (by decide))))
  have c37 := (Exa.wr W34 c33)
  obtain ⟨T38, h38, X38, e38, W38, st38⟩ := putF X34 hx hZ hown (host := "") (Or.inl (hw _ (List.mem_of_getElem? (i := 41) rfl))) Via.refl e34 c36 c37 (Or.inr ⟨(hw _ (List.mem_of_getElem? (i := 42) rfl)), rfl, hnm⟩) (hw _ (List.mem_of_getElem? (i := 1) rfl)) (ty := (.object "java/lang/String")) (by decide) rfl rfl (g := (mkF m 58 #[.val (.ref a1), .val (.ref x0), .val (.ref x1), .val (.int x2), .val (.long x3), .second, .val (.int x4), .val (.int x5), .val (.long x6), .second, .val (.long x7), .second, .val (.long x8), .second, .val .null, .val .null] [.null, (.ref a1)])) rfl rfl (hb hby d1_58)
  have F38 := Fld.same W38 c36
  have K39 : Keep h0 h38 [a1] := Keep.wr K35 W38 (Or.inl (List.mem_of_getElem? (i := 0) rfl))
  have N39 := Fr.snoc X38 N35 g_a1
  refine own_via st38 ?_
  show own_G p.tables e below _ (T38.setTop (mkF m 61 #[.val (.ref a1), .val (.ref x0), .val (.ref x1), .val (.int x2), .val (.long x3), .second, .val (.int x4), .val (.int x5), .val (.long x6), .second, .val (.long x7), .second, .val (.long x8), .second, .val .null, .val .null] []))
  refine own_via (S' := T38.setTop (mkF m 64 #[.val (.ref a1), .val (.ref x0), .val (.ref x1), .val (.int x2), .val (.long x3), .second, .val (.int x4), .val (.int x5), .val (.long x6), .second, .val (.long x7), .second, .val (.long x8), .second, .val .null, .val .null] [.null, (.ref a1)])) (fun t k => ?_) ?_
  · show Steps p.tables e below (T38.setTop (mkF m 61 #[.val (.ref a1), .val (.ref x0), .val (.ref x1), .val (.int x2), .val (.long x3), .second, .val (.int x4), .val (.int x5), .val (.long x6), .second, .val (.long x7), .second, .val (.long x8), .second, .val .null, .val .null] [])) t
    refine XS.aloadN X38.here hx rfl (hb hby d1_61) rfl rfl ?_
    show Steps p.tables e below (T38.setTop (mkF m 62 #[.val (.ref a1), .val (.ref x0), .val (.ref x1), .val (.int x2), .val (.long x3), .second, .val (.int x4), .val (.int x5), .val (.long x6), .second, .val (.long x7), .second, .val (.long x8), .second, .val .null, .val .null] [(.ref a1)])) t
    refine XS.aload X38.here hx rfl (hb hby d1_62) rfl rfl ?_
    exact k
  have c40 := (Fld.other W38 (Fld.other W34 (Fld.other W30 (Fld.other W26 (Fld.other W22 (Fld.other W18 (Fld.other W14 (Fld.other W10 (Fld.other W6 (Fld.other W2 F10_0 (Or.inr (slot_ne (Or.inr (hw _ (List.mem_of_getElem? (i := 44) rfl))) (Or.inr (hw _ (List.mem_of_getElem? (i := 24) rfl))) (by decide) (t := (.object "java/lang/String")) (t' := (.object "java/lang/String")) (by decide) (by decide)))) (Or.inr (slot_ne (Or.inr (hw _ (List.mem_of_getElem? (i := 44) rfl))) (Or.inr (hw _ (List.mem_of_getElem? (i := 26) rfl))) (by decide) (t := (.object "java/lang/String")) (t' := (.object "java/lang/String")) (by decide) (by decide)))) (Or.inr (slot_ne (Or.inr (hw _ (List.mem_of_getElem? (i := 44) rfl))) (Or.inr (hw _ (List.mem_of_getElem? (i := 28) rfl))) (by decide) (t := (.object "java/lang/String")) (t' := .int) (by decide) (by decide)))) (Or.inr (slot_ne (Or.inr (hw _ (List.mem_of_getElem? (i := 44) rfl))) (Or.inr (hw _ (List.mem_of_getElem? (i := 30) rfl))) (by decide) (t := (.object "java/lang/String")) (t' := .long) (by decide) (by decide)))) (Or.inr (slot_ne (Or.inr (hw _ (List.mem_of_getElem? (i := 44) rfl))) (Or.inr (hw _ (List.mem_of_getElem? (i := 32) rfl))) (by decide) (t := (.object "java/lang/String")) (t' := .int) (by decide) (by decide)))) (Or.inr (slot_ne (Or.inr (hw _ (List.mem_of_getElem? (i := 44) rfl))) (Or.inr (hw _ (List.mem_of_getElem? (i := 34) rfl))) (by decide) (t := (.object "java/lang/String")) (t' := .int) (by decide) (by decide)))) (Or.inr (slot_ne (Or.inr (hw _ (List.mem_of_getElem? (i := 44) rfl))) (Or.inr (hw _ (List.mem_of_getElem? (i := 36) rfl))) (by decide) (t := (.object "java/lang/String")) (t' := .long) (by decide) (by decide)))) (Or.inr (slot_ne (Or.inr (hw _ (List.mem_of_getElem? (i := 44) rfl))) (Or.inr (hw _ (List.mem_of_getElem? (i := 38) rfl))) (by decide) (t := (.object "java/lang/String")) (t' := .long) (by decide) (by decide)))) (Or.inr (slot_ne (Or.inr (hw _ (List.mem_of_getElem? (i := 44) rfl))) (Or.inr (hw _ (List.mem_of_getElem? (i := 40) rfl))) (by decide) (t := (.object "java/lang/String")) (t' := .long) (by decide) (by decide)))) (Or.inr (slot_ne (Or.inr (hw _ (List.mem_of_getElem? (i := 44) rfl))) (Or.inr (hw _ (List.mem_of_getElem? (i := 42) rfl))) (by decide) (t := (.object "java/lang/String")) (t' := (.object "java/lang/String")) (by decide) (by decide))))
  have c41 := (Exa.wr W38 c37)
  obtain ⟨T42, h42, X42, e42, W42, st42⟩ := putF X38 hx hZ hown (host := "") (Or.inl (hw _ (List.mem_of_getElem? (i := 43) rfl))) Via.refl e38 c40 c41 (Or.inr ⟨(hw _ (List.mem_of_getElem? (i := 44) rfl)), rfl, hnm⟩) (hw _ (List.mem_of_getElem? (i := 1) rfl)) (ty := (.object "java/lang/String")) (by decide) rfl rfl (g := (mkF m 64 #[.val (.ref a1), .val (.ref x0), .val (.ref x1), .val (.int x2), .val (.long x3), .second, .val (.int x4), .val (.int x5), .val (.long x6), .second, .val (.long x7), .second, .val (.long x8), .second, .val .null, .val .null] [.null, (.ref a1)])) rfl rfl (hb hby d1_64)
  have F42 := Fld.same W42 c40
  have K43 : Keep h0 h42 [a1] := Keep.wr K39 W42 (Or.inl (List.mem_of_getElem? (i := 0) rfl))
  have N43 := Fr.snoc X42 N39 g_a1
  refine own_via st42 ?_
  show own_G p.tables e below _ (T42.setTop (mkF m 67 #[.val (.ref a1), .val (.ref x0), .val (.ref x1), .val (.int x2), .val (.long x3), .second, .val (.int x4), .val (.int x5), .val (.long x6), .second, .val (.long x7), .second, .val (.long x8), .second, .val .null, .val .null] []))
  have c44 := (Exa.wr W42 c41)
  have c45 := (Fld.other W42 (Fld.other W38 (Fld.other W34 (Fld.other W30 (Fld.other W26 (Fld.other W22 (Fld.other W18 (Fld.other W14 (Fld.other W10 (Fld.other W6 F2 (Or.inr (slot_ne (Or.inr (hw _ (List.mem_of_getElem? (i := 24) rfl))) (Or.inr (hw _ (List.mem_of_getElem? (i := 26) rfl))) (by decide) (t := (.object "java/lang/String")) (t' := (.object "java/lang/String")) (by decide) (by decide)))) (Or.inr (slot_ne (Or.inr (hw _ (List.mem_of_getElem? (i := 24) rfl))) (Or.inr (hw _ (List.mem_of_getElem? (i := 28) rfl))) (by decide) (t := (.object "java/lang/String")) (t' := .int) (by decide) (by decide)))) (Or.inr (slot_ne (Or.inr (hw _ (List.mem_of_getElem? (i := 24) rfl))) (Or.inr (hw _ (List.mem_of_getElem? (i := 30) rfl))) (by decide) (t := (.object "java/lang/String")) (t' := .long) (by decide) (by decide)))) (Or.inr (slot_ne (Or.inr (hw _ (List.mem_of_getElem? (i := 24) rfl))) (Or.inr (hw _ (List.mem_of_getElem? (i := 32) rfl))) (by decide) (t := (.object "java/lang/String")) (t' := .int) (by decide) (by decide)))) (Or.inr (slot_ne (Or.inr (hw _ (List.mem_of_getElem? (i := 24) rfl))) (Or.inr (hw _ (List.mem_of_getElem? (i := 34) rfl))) (by decide) (t := (.object "java/lang/String")) (t' := .int) (by decide) (by decide)))) (Or.inr (slot_ne (Or.inr (hw _ (List.mem_of_getElem? (i := 24) rfl))) (Or.inr (hw _ (List.mem_of_getElem? (i := 36) rfl))) (by decide) (t := (.object "java/lang/String")) (t' := .long) (by decide) (by decide)))) (Or.inr (slot_ne (Or.inr (hw _ (List.mem_of_getElem? (i := 24) rfl))) (Or.inr (hw _ (List.mem_of_getElem? (i := 38) rfl))) (by decide) (t := (.object "java/lang/String")) (t' := .long) (by decide) (by decide)))) (Or.inr (slot_ne (Or.inr (hw _ (List.mem_of_getElem? (i := 24) rfl))) (Or.inr (hw _ (List.mem_of_getElem? (i := 40) rfl))) (by decide) (t := (.object "java/lang/String")) (t' := .long) (by decide) (by decide)))) (Or.inr (slot_ne (Or.inr (hw _ (List.mem_of_getElem? (i := 24) rfl))) (Or.inr (hw _ (List.mem_of_getElem? (i := 42) rfl))) (by decide) (t := (.object "java/lang/String")) (t' := (.object "java/lang/String")) (by decide) (by decide)))) (Or.inr (slot_ne (Or.inr (hw _ (List.mem_of_getElem? (i := 24) rfl))) (Or.inr (hw _ (List.mem_of_getElem? (i := 44) rfl))) (by decide) (t := (.object "java/lang/String")) (t' := (.object "java/lang/String")) (by decide) (by decide))))
  have c46 := (Fld.other W42 (Fld.other W38 (Fld.other W34 (Fld.other W30 (Fld.other W26 (Fld.other W22 (Fld.other W18 (Fld.other W14 (Fld.other W10 F6 (Or.inr (slot_ne (Or.inr (hw _ (List.mem_of_getElem? (i := 26) rfl))) (Or.inr (hw _ (List.mem_of_getElem? (i := 28) rfl))) (by decide) (t := (.object "java/lang/String")) (t' := .int) (by decide) (by decide)))) (Or.inr (slot_ne (Or.inr (hw _ (List.mem_of_getElem? (i := 26) rfl))) (Or.inr (hw _ (List.mem_of_getElem? (i := 30) rfl))) (by decide) (t := (.object "java/lang/String")) (t' := .long) (by decide) (by decide)))) (Or.inr (slot_ne (Or.inr (hw _ (List.mem_of_getElem? (i := 26) rfl))) (Or.inr (hw _ (List.mem_of_getElem? (i := 32) rfl))) (by decide) (t := (.object "java/lang/String")) (t' := .int) (by decide) (by decide)))) (Or.inr (slot_ne (Or.inr (hw _ (List.mem_of_getElem? (i := 26) rfl))) (Or.inr (hw _ (List.mem_of_getElem? (i := 34) rfl))) (by decide) (t := (.object "java/lang/String")) (t' := .int) (by decide) (by decide)))) (Or.inr (slot_ne (Or.inr (hw _ (List.mem_of_getElem? (i := 26) rfl))) (Or.inr (hw _ (List.mem_of_getElem? (i := 36) rfl))) (by decide) (t := (.object "java/lang/String")) (t' := .long) (by decide) (by decide)))) (Or.inr (slot_ne (Or.inr (hw _ (List.mem_of_getElem? (i := 26) rfl))) (Or.inr (hw _ (List.mem_of_getElem? (i := 38) rfl))) (by decide) (t := (.object "java/lang/String")) (t' := .long) (by decide) (by decide)))) (Or.inr (slot_ne (Or.inr (hw _ (List.mem_of_getElem? (i := 26) rfl))) (Or.inr (hw _ (List.mem_of_getElem? (i := 40) rfl))) (by decide) (t := (.object "java/lang/String")) (t' := .long) (by decide) (by decide)))) (Or.inr (slot_ne (Or.inr (hw _ (List.mem_of_getElem? (i := 26) rfl))) (Or.inr (hw _ (List.mem_of_getElem? (i := 42) rfl))) (by decide) (t := (.object "java/lang/String")) (t' := (.object "java/lang/String")) (by decide) (by decide)))) (Or.inr (slot_ne (Or.inr (hw _ (List.mem_of_getElem? (i := 26) rfl))) (Or.inr (hw _ (List.mem_of_getElem? (i := 44) rfl))) (by decide) (t := (.object "java/lang/String")) (t' := (.object "java/lang/String")) (by decide) (by decide))))
  have c47 := (Fld.other W42 (Fld.other W38 (Fld.other W34 (Fld.other W30 (Fld.other W26 (Fld.other W22 (Fld.other W18 (Fld.other W14 F10 (Or.inr (slot_ne (Or.inr (hw _ (List.mem_of_getElem? (i := 28) rfl))) (Or.inr (hw _ (List.mem_of_getElem? (i := 30) rfl))) (by decide) (t := .int) (t' := .long) (by decide) (by decide)))) (Or.inr (slot_ne (Or.inr (hw _ (List.mem_of_getElem? (i := 28) rfl))) (Or.inr (hw _ (List.mem_of_getElem? (i := 32) rfl))) (by decide) (t := .int) (t' := .int) (by decide) (by decide)))) (Or.inr (slot_ne (Or.inr (hw _ (List.mem_of_getElem? (i := 28) rfl))) (Or.inr (hw _ (List.mem_of_getElem? (i := 34) rfl))) (by decide) (t := .int) (t' := .int) (by decide) (by decide)))) (Or.inr (slot_ne (Or.inr (hw _ (List.mem_of_getElem? (i := 28) rfl))) (Or.inr (hw _ (List.mem_of_getElem? (i := 36) rfl))) (by decide) (t := .int) (t' := .long) (by decide) (by decide)))) (Or.inr (slot_ne (Or.inr (hw _ (List.mem_of_getElem? (i := 28) rfl))) (Or.inr (hw _ (List.mem_of_getElem? (i := 38) rfl))) (by decide) (t := .int) (t' := .long) (by decide) (by decide)))) (Or.inr (slot_ne (Or.inr (hw _ (List.mem_of_getElem? (i := 28) rfl))) (Or.inr (hw _ (List.mem_of_getElem? (i := 40) rfl))) (by decide) (t := .int) (t' := .long) (by decide) (by decide)))) (Or.inr (slot_ne (Or.inr (hw _ (List.mem_of_getElem? (i := 28) rfl))) (Or.inr (hw _ (List.mem_of_getElem? (i := 42) rfl))) (by decide) (t := .int) (t' := (.object "java/lang/String")) (by decide) (by decide)))) (Or.inr (slot_ne (Or.inr (hw _ (List.mem_of_getElem? (i := 28) rfl))) (Or.inr (hw _ (List.mem_of_getElem? (i := 44) rfl))) (by decide) (t := .int) (t' := (.object "java/lang/String")) (by decide) (by decide))))
  have c48 := (Fld.other W42 (Fld.other W38 (Fld.other W34 (Fld.other W30 (Fld.other W26 (Fld.other W22 (Fld.other W18 F14 (Or.inr (slot_ne (Or.inr (hw _ (List.mem_of_getElem? (i := 30) rfl))) (Or.inr (hw _ (List.mem_of_getElem? (i := 32) rfl))) (by decide) (t := .long) (t' := .int) (by decide) (by decide)))) (Or.inr (slot_ne (Or.inr (hw _ (List.mem_of_getElem? (i := 30) rfl))) (Or.inr (hw _ (List.mem_of_getElem? (i := 34) rfl))) (by decide) (t := .long) (t' := .int) (by decide) (by decide)))) (Or.inr (slot_ne (Or.inr (hw _ (List.mem_of_getElem? (i := 30) rfl))) (Or.inr (hw _ (List.mem_of_getElem? (i := 36) rfl))) (by decide) (t := .long) (t' := .long) (by decide) (by decide)))) (Or.inr (slot_ne (Or.inr (hw _ (List.mem_of_getElem? (i := 30) rfl))) (Or.inr (hw _ (List.mem_of_getElem? (i := 38) rfl))) (by decide) (t := .long) (t' := .long) (by decide) (by decide)))) (Or.inr (slot_ne (Or.inr (hw _ (List.mem_of_getElem? (i := 30) rfl))) (Or.inr (hw _ (List.mem_of_getElem? (i := 40) rfl))) (by decide) (t := .long) (t' := .long) (by decide) (by decide)))) (Or.inr (slot_ne (Or.inr (hw _ (List.mem_of_getElem? (i := 30) rfl))) (Or.inr (hw _ (List.mem_of_getElem? (i := 42) rfl))) (by decide) (t := .long) (t' := (.object "java/lang/String")) (by decide) (by decide)))) (Or.inr (slot_ne (Or.inr (hw _ (List.mem_of_getElem? (i := 30) rfl))) (Or.inr (hw _ (List.mem_of_getElem? (i := 44) rfl))) (by decide) (t := .long) (t' := (.object "java/lang/String")) (by decide) (by decide))))
  have c49 := (Fld.other W42 (Fld.other W38 (Fld.other W34 (Fld.other W30 (Fld.other W26 (Fld.other W22 F18 (Or.inr (slot_ne (Or.inr (hw _ (List.mem_of_getElem? (i := 32) rfl))) (Or.inr (hw _ (List.mem_of_getElem? (i := 34) rfl))) (by decide) (t := .int) (t' := .int) (by decide) (by decide)))) (Or.inr (slot_ne (Or.inr (hw _ (List.mem_of_getElem? (i := 32) rfl))) (Or.inr (hw _ (List.mem_of_getElem? (i := 36) rfl))) (by decide) (t := .int) (t' := .long) (by decide) (by decide)))) (Or.inr (slot_ne (Or.inr (hw _ (List.mem_of_getElem? (i := 32) rfl))) (Or.inr (hw _ (List.mem_of_getElem? (i := 38) rfl))) (by decide) (t := .int) (t' := .long) (by decide) (by decide)))) (Or.inr (slot_ne (Or.inr (hw _ (List.mem_of_getElem? (i := 32) rfl))) (Or.inr (hw _ (List.mem_of_getElem? (i := 40) rfl))) (by decide) (t := .int) (t' := .long) (by decide) (by decide)))) (Or.inr (slot_ne (Or.inr (hw _ (List.mem_of_getElem? (i := 32) rfl))) (Or.inr (hw _ (List.mem_of_getElem? (i := 42) rfl))) (by decide) (t := .int) (t' := (.object "java/lang/String")) (by decide) (by decide)))) (Or.inr (slot_ne (Or.inr (hw _ (List.mem_of_getElem? (i := 32) rfl))) (Or.inr (hw _ (List.mem_of_getElem? (i := 44) rfl))) (by decide) (t := .int) (t' := (.object "java/lang/String")) (by decide) (by decide))))
  have c50 := (Fld.other W42 (Fld.other W38 (Fld.other W34 (Fld.other W30 (Fld.other W26 F22 (Or.inr (slot_ne (Or.inr (hw _ (List.mem_of_getElem? (i := 34) rfl))) (Or.inr (hw _ (List.mem_of_getElem? (i := 36) rfl))) (by decide) (t := .int) (t' := .long) (by decide) (by decide)))) (Or.inr (slot_ne (Or.inr (hw _ (List.mem_of_getElem? (i := 34) rfl))) (Or.inr (hw _ (List.mem_of_getElem? (i := 38) rfl))) (by decide) (t := .int) (t' := .long) (by decide) (by decide)))) (Or.inr (slot_ne (Or.inr (hw _ (List.mem_of_getElem? (i := 34) rfl))) (Or.inr (hw _ (List.mem_of_getElem? (i := 40) rfl))) (by decide) (t := .int) (t' := .long) (by decide) (by decide)))) (Or.inr (slot_ne (Or.inr (hw _ (List.mem_of_getElem? (i := 34) rfl))) (Or.inr (hw _ (List.mem_of_getElem? (i := 42) rfl))) (by decide) (t := .int) (t' := (.object "java/lang/String")) (by decide) (by decide)))) (Or.inr (slot_ne (Or.inr (hw _ (List.mem_of_getElem? (i := 34) rfl))) (Or.inr (hw _ (List.mem_of_getElem? (i := 44) rfl))) (by decide) (t := .int) (t' := (.object "java/lang/String")) (by decide) (by decide))))
  have c51 := (Fld.other W42 (Fld.other W38 (Fld.other W34 (Fld.other W30 F26 (Or.inr (slot_ne (Or.inr (hw _ (List.mem_of_getElem? (i := 36) rfl))) (Or.inr (hw _ (List.mem_of_getElem? (i := 38) rfl))) (by decide) (t := .long) (t' := .long) (by decide) (by decide)))) (Or.inr (slot_ne (Or.inr (hw _ (List.mem_of_getElem? (i := 36) rfl))) (Or.inr (hw _ (List.mem_of_getElem? (i := 40) rfl))) (by decide) (t := .long) (t' := .long) (by decide) (by decide)))) (Or.inr (slot_ne (Or.inr (hw _ (List.mem_of_getElem? (i := 36) rfl))) (Or.inr (hw _ (List.mem_of_getElem? (i := 42) rfl))) (by decide) (t := .long) (t' := (.object "java/lang/String")) (by decide) (by decide)))) (Or.inr (slot_ne (Or.inr (hw _ (List.mem_of_getElem? (i := 36) rfl))) (Or.inr (hw _ (List.mem_of_getElem? (i := 44) rfl))) (by decide) (t := .long) (t' := (.object "java/lang/String")) (by decide) (by decide))))
  have c52 := (Fld.other W42 (Fld.other W38 (Fld.other W34 F30 (Or.inr (slot_ne (Or.inr (hw _ (List.mem_of_getElem? (i := 38) rfl))) (Or.inr (hw _ (List.mem_of_getElem? (i := 40) rfl))) (by decide) (t := .long) (t' := .long) (by decide) (by decide)))) (Or.inr (slot_ne (Or.inr (hw _ (List.mem_of_getElem? (i := 38) rfl))) (Or.inr (hw _ (List.mem_of_getElem? (i := 42) rfl))) (by decide) (t := .long) (t' := (.object "java/lang/String")) (by decide) (by decide)))) (Or.inr (slot_ne (Or.inr (hw _ (List.mem_of_getElem? (i := 38) rfl))) (Or.inr (hw _ (List.mem_of_getElem? (i := 44) rfl))) (by decide) (t := .long) (t' := (.object "java/lang/String")) (by decide) (by decide))))
  have c53 := (Fld.other W42 (Fld.other W38 F34 (Or.inr (slot_ne (Or.inr (hw _ (List.mem_of_getElem? (i := 40) rfl))) (Or.inr (hw _ (List.mem_of_getElem? (i := 42) rfl))) (by decide) (t := .long) (t' := (.object "java/lang/String")) (by decide) (by decide)))) (Or.inr (slot_ne (Or.inr (hw _ (List.mem_of_getElem? (i := 40) rfl))) (Or.inr (hw _ (List.mem_of_getElem? (i := 44) rfl))) (by decide) (t := .long) (t' := (.object "java/lang/String")) (by decide) (by decide))))
  have c54 := (Fld.other W42 F38 (Or.inr (slot_ne (Or.inr (hw _ (List.mem_of_getElem? (i := 42) rfl))) (Or.inr (hw _ (List.mem_of_getElem? (i := 44) rfl))) (by decide) (t := (.object "java/lang/String")) (t' := (.object "java/lang/String")) (by decide) (by decide))))
  exact own_end (h := h42) X42 (v := none) Bd.notSynchronized (fun _ => rfl) (fun fs hr => X42.returnOut hx Bd.returns (hb hby d1_67) hr) e42 ⟨rfl, N43, K43, c44, c45, c46, c47, c48, c49, c50, c51, c52, c53, c54, F42⟩ (by decide) (by decide)
theorem d4_0 : decode prog_40_method_4_code 0 = .ok (.aload_n 0, 1) := by decide +kernel
theorem d4_1 : decode prog_40_method_4_code 1 = .ok (.getfield 27, 3) := by decide +kernel
theorem d4_4 : decode prog_40_method_4_code 4 = .ok (.iconst 2, 1) := by decide +kernel
theorem d4_5 : decode prog_40_method_4_code 5 = .ok (.iand, 1) := by decide +kernel
theorem d4_6 : decode prog_40_method_4_code 6 = .ok (.ifCond .eq 16, 3) := by decide +kernel
theorem d4_9 : decode prog_40_method_4_code 9 = .ok (.aload_n 0, 1) := by decide +kernel
theorem d4_10 : decode prog_40_method_4_code 10 = .ok (.getfield 33, 3) := by decide +kernel
theorem d4_13 : decode prog_40_method_4_code 13 = .ok (.lconst 0, 1) := by decide +kernel
theorem d4_14 : decode prog_40_method_4_code 14 = .ok (.lcmp, 1) := by decide +kernel
theorem d4_15 : decode prog_40_method_4_code 15 = .ok (.ifCond .le 7, 3) := by decide +kernel
theorem d4_18 : decode prog_40_method_4_code 18 = .ok (.iconst 1, 1) := by decide +kernel
theorem d4_19 : decode prog_40_method_4_code 19 = .ok (.goto 4, 3) := by decide +kernel
theorem d4_22 : decode prog_40_method_4_code 22 = .ok (.iconst 0, 1) := by decide +kernel
theorem d4_23 : decode prog_40_method_4_code 23 = .ok (.ireturn, 1) := by decide +kernel
theorem pn4 : plainName "com/example/qiantang/qiantang/protocol/PullMessageRequest" = true := by first | (simp [plainName, overriddenIn]; done) | decide +kernel
theorem ef4 (m : MethodId) (x0 : Addr) : entryFrame m #[(.ref x0)] 1 = mkF m 0 #[.val (.ref x0)] [] := by first | (simp [entryFrame, mkF, argsToLocals, Value.category]; done) | rfl
def Q4 (Z : State) (a1 : Addr) (p1 : Int32) (q2 : Int64) (h0 : Heap) (n0 : Nat) (v : Option Value) (h : Heap) (L : List Loc) : Prop := v = some (.int (own_su p1 q2)) ∧ Fr n0 L ∧ h = h0
set_option maxRecDepth 65536 in
set_option maxHeartbeats 40000000 in
theorem rm4 (l : Launch) (Z : State) (a0 : Array Value) (hw : ∀ d ∈ tables_1, d.before a0 Z = true) (ws : List Jvm.Cond) (a1 : Addr) (p1 : Int32) (q2 : Int64) (h0 : Heap) (n0 : Nat) (Z0 : n0 ≤ h0.size) (F0_0 : Fld Z h0 a1 "com/example/qiantang/qiantang/protocol/PullMessageRequest" "sysFlag" "I" (.int p1)) (F1_0 : Fld Z h0 a1 "com/example/qiantang/qiantang/protocol/PullMessageRequest" "suspendTimeoutMillis" "J" (.long q2)) :
    MetFree l (⟨"com/example/qiantang/qiantang/protocol/PullMessageRequest", "suspends", "()Z"⟩ : MethodName) (head1 (Jvm.Cond.code (⟨"com/example/qiantang/qiantang/protocol/PullMessageRequest", "suspends", "()Z"⟩ : MethodName) prog_40_method_4_code 1 (some .boolean) :: ws) ({ frames := 0, cells := 0, slots := 0, locals := 0 } : Room)) (fun a U => a = #[(.ref a1)] ∧ Z.Warmed39 U.vm ∧ U.heap = h0) (fun _ _ _ _ _ => True) (fun _ U o U' => ∃ v L, o = .returned v ∧ Q4 Z a1 p1 q2 h0 n0 v U'.heap L ∧ FrameEnd U o U' L ({ frames := 0, cells := 0, slots := 0, locals := 0 } : Room).cells ({ frames := 0, cells := 0, slots := 0, locals := 0 } : Room).slots) := by
  refine MetFree.of_bodySF (plainFor_of_name pn4) hisR ?_
  intro p e s m args below meth c s₁ Bd hml0 hP hK
  obtain ⟨rfl, hZ, hh⟩ := hP
  have hx := Bd.exec
  have hby := Bd.bytes
  have hml : c.maxLocals = 1 := hml0
  have hown : s.vm.findClass "com/example/qiantang/qiantang/protocol/PullMessageRequest" = some m.cls := findClass_of_methodNamed Bd.named
  have hnm := (name_of_methodNamed Bd.named Bd.method).1
  have X0 : Stand p l e ({ frames := 0, cells := 0, slots := 0, locals := 0 } : Room) s m #[(.ref a1)] below meth c s₁ [] 0 0 := Stand.of_body Bd
  have e0 : s₁.heap = h0 := by rw [← hh, Bd.state]; rfl
  have N0 := Fr.nil n0
  refine (show own_G p.tables e below (own_P s (Q4 Z a1 p1 q2 h0 n0) 0 0) (s₁.setTop (entryFrame m #[(.ref a1)] 1)) from ?_)
  refine own_via (fun t k => castTop (ef4 m a1) k) ?_
  show own_G p.tables e below _ (s₁.setTop (mkF m 0 #[.val (.ref a1)] []))
  refine own_via (S' := s₁.setTop (mkF m 1 #[.val (.ref a1)] [(.ref a1)])) (fun t k => ?_) ?_
  · show Steps p.tables e below (s₁.setTop (mkF m 0 #[.val (.ref a1)] [])) t
    refine XS.aloadN X0.here hx rfl (hb hby d4_0) rfl rfl ?_
    exact k
  obtain ⟨T1, X1, e1, st1⟩ := getF X0 hx hZ hown (host := "") (Or.inl (hw _ (List.mem_of_getElem? (i := 33) rfl))) Via.refl e0 F0_0 (g := (mkF m 1 #[.val (.ref a1)] [(.ref a1)])) rfl rfl (hb hby d4_1)
  refine own_via st1 ?_
  show own_G p.tables e below _ (T1.setTop (mkF m 4 #[.val (.ref a1)] [(.int p1)]))
  refine own_via (S' := T1.setTop (mkF m 6 #[.val (.ref a1)] [(.int (p1 &&& (2 : Int32)))])) (fun t k => ?_) ?_
  · show Steps p.tables e below (T1.setTop (mkF m 4 #[.val (.ref a1)] [(.int p1)])) t
    refine XS.iconst X1.here hx rfl (hb hby d4_4) ?_
    show Steps p.tables e below (T1.setTop (mkF m 5 #[.val (.ref a1)] [(.int (2 : Int32)), (.int p1)])) t
    refine XS.iand X1.here hx rfl (hb hby d4_5) rfl ?_
    exact k
  by_cases hc6_2 : (p1 &&& (2 : Int32)) = (0 : Int32)
  · refine own_via (S' := T1.setTop (mkF m 22 #[.val (.ref a1)] [])) (fun t k => XS.ifYes (g := (mkF m 6 #[.val (.ref a1)] [(.int (p1 &&& (2 : Int32)))])) X1.here hx rfl (pc0 := 6) (pc' := 22) rfl (hb hby d4_6) rfl ((if0 _ _).trans (teq hc6_2).1) (by decide) (by decide) k) ?_
    refine own_via (S' := T1.setTop (mkF m 23 #[.val (.ref a1)] [(.int (0 : Int32))])) (fun t k => ?_) ?_
    · show Steps p.tables e below (T1.setTop (mkF m 22 #[.val (.ref a1)] [])) t
      refine XS.iconst X1.here hx rfl (hb hby d4_22) ?_
      exact k
    exact own_end (h := h0) X1 (v := some (.int (0 : Int32))) Bd.notSynchronized (fun h => by rw [Bd.returns] at h; cases h) (fun fs hr => retN X1 hx (t := .boolean) Bd.returns (by simp) (hb hby d4_23) hr) e1 ⟨by show some (Value.int _) = some (Value.int _); congr 2; unfold own_su; grind, N0, rfl⟩ (by decide) (by decide)
  · refine own_via (S' := T1.setTop (mkF m 9 #[.val (.ref a1)] [])) (fun t k => XS.ifNo (g := (mkF m 6 #[.val (.ref a1)] [(.int (p1 &&& (2 : Int32)))])) X1.here hx rfl (hb hby d4_6) rfl ((if0 _ _).trans (feq hc6_2).1) k) ?_
    refine own_via (S' := T1.setTop (mkF m 10 #[.val (.ref a1)] [(.ref a1)])) (fun t k => ?_) ?_
    · show Steps p.tables e below (T1.setTop (mkF m 9 #[.val (.ref a1)] [])) t
      refine XS.aloadN X1.here hx rfl (hb hby d4_9) rfl rfl ?_
      exact k
    obtain ⟨T3, X3, e3, st3⟩ := getF X1 hx hZ hown (host := "") (Or.inl (hw _ (List.mem_of_getElem? (i := 37) rfl))) Via.refl e1 F1_0 (g := (mkF m 10 #[.val (.ref a1)] [(.ref a1)])) rfl rfl (hb hby d4_10)
    refine own_via st3 ?_
    show own_G p.tables e below _ (T3.setTop (mkF m 13 #[.val (.ref a1)] [(.long q2)]))
    refine own_via (S' := T3.setTop (mkF m 15 #[.val (.ref a1)] [(.int (lcmpW q2 (0 : Int64)))])) (fun t k => ?_) ?_
    · show Steps p.tables e below (T3.setTop (mkF m 13 #[.val (.ref a1)] [(.long q2)])) t
      refine XS.lconst X3.here hx rfl (hb hby d4_13) ?_
      show Steps p.tables e below (T3.setTop (mkF m 14 #[.val (.ref a1)] [(.long (0 : Int64)), (.long q2)])) t
      refine XS.lcmp X3.here hx rfl (hb hby d4_14) rfl ?_
      exact k
    by_cases hc15_4 : (0 : Int64) < q2
    · refine own_via (S' := T3.setTop (mkF m 18 #[.val (.ref a1)] [])) (fun t k => XS.ifNo (g := (mkF m 15 #[.val (.ref a1)] [(.int (lcmpW q2 (0 : Int64)))])) X3.here hx rfl (hb hby d4_15) rfl ((if0 _ _).trans (tlt ((lw_gt q2 (0 : Int64)).mpr hc15_4)).2.2.2) k) ?_
      refine own_via (S' := T3.setTop (mkF m 23 #[.val (.ref a1)] [(.int (1 : Int32))])) (fun t k => ?_) ?_
      · show Steps p.tables e below (T3.setTop (mkF m 18 #[.val (.ref a1)] [])) t
        refine XS.iconst X3.here hx rfl (hb hby d4_18) ?_
        show Steps p.tables e below (T3.setTop (mkF m 19 #[.val (.ref a1)] [(.int (1 : Int32))])) t
        refine XS.goto X3.here hx rfl (pc0 := 19) (pc' := 23) rfl (hb hby d4_19) (by decide) (by decide) ?_
        exact k
      exact own_end (h := h0) X3 (v := some (.int (1 : Int32))) Bd.notSynchronized (fun h => by rw [Bd.returns] at h; cases h) (fun fs hr => retN X3 hx (t := .boolean) Bd.returns (by simp) (hb hby d4_23) hr) e3 ⟨by show some (Value.int _) = some (Value.int _); congr 2; unfold own_su; grind, N0, rfl⟩ (by decide) (by decide)
    · refine own_via (S' := T3.setTop (mkF m 22 #[.val (.ref a1)] [])) (fun t k => XS.ifYes (g := (mkF m 15 #[.val (.ref a1)] [(.int (lcmpW q2 (0 : Int64)))])) X3.here hx rfl (pc0 := 15) (pc' := 22) rfl (hb hby d4_15) rfl ((if0 _ _).trans (flt (fun q => hc15_4 ((lw_gt q2 (0 : Int64)).mp q))).2.2.2) (by decide) (by decide) k) ?_
      refine own_via (S' := T3.setTop (mkF m 23 #[.val (.ref a1)] [(.int (0 : Int32))])) (fun t k => ?_) ?_
      · show Steps p.tables e below (T3.setTop (mkF m 22 #[.val (.ref a1)] [])) t
        refine XS.iconst X3.here hx rfl (hb hby d4_22) ?_
        exact k
      exact own_end (h := h0) X3 (v := some (.int (0 : Int32))) Bd.notSynchronized (fun h => by rw [Bd.returns] at h; cases h) (fun fs hr => retN X3 hx (t := .boolean) Bd.returns (by simp) (hb hby d4_23) hr) e3 ⟨by show some (Value.int _) = some (Value.int _); congr 2; unfold own_su; grind, N0, rfl⟩ (by decide) (by decide)
theorem d5_0 : decode method_2_code 0 = .ok (.iload_n 0, 1) := by decide +kernel
theorem d5_1 : decode method_2_code 1 = .ok (.iconst 1, 1) := by decide +kernel
theorem d5_2 : decode method_2_code 2 = .ok (.iushr, 1) := by decide +kernel
theorem d5_3 : decode method_2_code 3 = .ok (.iconst 1, 1) := by decide +kernel
theorem d5_4 : decode method_2_code 4 = .ok (.iand, 1) := by decide +kernel
theorem d5_5 : decode method_2_code 5 = .ok (.iconst 1, 1) := by decide +kernel
theorem d5_6 : decode method_2_code 6 = .ok (.if_icmp .ne 7, 3) := by decide +kernel
theorem d5_9 : decode method_2_code 9 = .ok (.iconst 1, 1) := by decide +kernel
theorem d5_10 : decode method_2_code 10 = .ok (.goto 4, 3) := by decide +kernel
theorem d5_13 : decode method_2_code 13 = .ok (.iconst 0, 1) := by decide +kernel
theorem d5_14 : decode method_2_code 14 = .ok (.istore_n 3, 1) := by decide +kernel
theorem d5_15 : decode method_2_code 15 = .ok (.lload_n 1, 1) := by decide +kernel
theorem d5_16 : decode method_2_code 16 = .ok (.lconst 1, 1) := by decide +kernel
theorem d5_17 : decode method_2_code 17 = .ok (.lcmp, 1) := by decide +kernel
theorem d5_18 : decode method_2_code 18 = .ok (.ifCond .lt 7, 3) := by decide +kernel
theorem d5_21 : decode method_2_code 21 = .ok (.iconst 1, 1) := by decide +kernel
theorem d5_22 : decode method_2_code 22 = .ok (.goto 4, 3) := by decide +kernel
theorem d5_25 : decode method_2_code 25 = .ok (.iconst 0, 1) := by decide +kernel
theorem d5_26 : decode method_2_code 26 = .ok (.istore 4, 2) := by decide +kernel
theorem d5_28 : decode method_2_code 28 = .ok (.iload_n 3, 1) := by decide +kernel
theorem d5_29 : decode method_2_code 29 = .ok (.ifCond .ne 5, 3) := by decide +kernel
theorem d5_32 : decode method_2_code 32 = .ok (.iconst 0, 1) := by decide +kernel
theorem d5_33 : decode method_2_code 33 = .ok (.ireturn, 1) := by decide +kernel
theorem d5_34 : decode method_2_code 34 = .ok (.iload 4, 2) := by decide +kernel
theorem d5_36 : decode method_2_code 36 = .ok (.ireturn, 1) := by decide +kernel
theorem pn5 : plainName "com/example/qiantang/qiantang/protocol/PullMessageRequestSuspendsPinLaw" = true := by first | (simp [plainName, overriddenIn]; done) | decide +kernel
theorem ef5 (m : MethodId) (x0 : Int32) (x1 : Int64) : entryFrame m #[(.int x0), (.long x1)] 5 = mkF m 0 #[.val (.int x0), .val (.long x1), .second, .unset, .unset] [] := by first | (simp [entryFrame, mkF, argsToLocals, Value.category]; done) | rfl
def Q5 (Z : State) (p1 : Int32) (q2 : Int64) (h0 : Heap) (n0 : Nat) (v : Option Value) (h : Heap) (L : List Loc) : Prop := v = some (.int (own_ex p1 q2)) ∧ Fr n0 L ∧ h = h0
set_option maxRecDepth 65536 in
set_option maxHeartbeats 40000000 in
theorem rm5 (l : Launch) (Z : State) (a0 : Array Value) (hw : ∀ d ∈ tables_1, d.before a0 Z = true) (ws : List Jvm.Cond) (p1 : Int32) (q2 : Int64) (h0 : Heap) (n0 : Nat) (Z0 : n0 ≤ h0.size) :
    MetFree l (⟨"com/example/qiantang/qiantang/protocol/PullMessageRequestSuspendsPinLaw", "expected", "(IJ)Z"⟩ : MethodName) (head1 (Jvm.Cond.code (⟨"com/example/qiantang/qiantang/protocol/PullMessageRequestSuspendsPinLaw", "expected", "(IJ)Z"⟩ : MethodName) method_2_code 5 (some .boolean) :: ws) ({ frames := 0, cells := 0, slots := 0, locals := 0 } : Room)) (fun a U => a = #[(.int p1), (.long q2)] ∧ Z.Warmed39 U.vm ∧ U.heap = h0) (fun _ _ _ _ _ => True) (fun _ U o U' => ∃ v L, o = .returned v ∧ Q5 Z p1 q2 h0 n0 v U'.heap L ∧ FrameEnd U o U' L ({ frames := 0, cells := 0, slots := 0, locals := 0 } : Room).cells ({ frames := 0, cells := 0, slots := 0, locals := 0 } : Room).slots) := by
  refine MetFree.of_bodySF (plainFor_of_name pn5) hisR ?_
  intro p e s m args below meth c s₁ Bd hml0 hP hK
  obtain ⟨rfl, hZ, hh⟩ := hP
  have hx := Bd.exec
  have hby := Bd.bytes
  have hml : c.maxLocals = 5 := hml0
  have hown : s.vm.findClass "com/example/qiantang/qiantang/protocol/PullMessageRequestSuspendsPinLaw" = some m.cls := findClass_of_methodNamed Bd.named
  have hnm := (name_of_methodNamed Bd.named Bd.method).1
  have X0 : Stand p l e ({ frames := 0, cells := 0, slots := 0, locals := 0 } : Room) s m #[(.int p1), (.long q2)] below meth c s₁ [] 0 0 := Stand.of_body Bd
  have e0 : s₁.heap = h0 := by rw [← hh, Bd.state]; rfl
  have N0 := Fr.nil n0
  refine (show own_G p.tables e below (own_P s (Q5 Z p1 q2 h0 n0) 0 0) (s₁.setTop (entryFrame m #[(.int p1), (.long q2)] 5)) from ?_)
  refine own_via (fun t k => castTop (ef5 m p1 q2) k) ?_
  show own_G p.tables e below _ (s₁.setTop (mkF m 0 #[.val (.int p1), .val (.long q2), .second, .unset, .unset] []))
  refine own_via (S' := s₁.setTop (mkF m 6 #[.val (.int p1), .val (.long q2), .second, .unset, .unset] [(.int (1 : Int32)), (.int (((p1.toUInt32 >>> ((1 : Int32) &&& 31).toUInt32).toInt32) &&& (1 : Int32)))])) (fun t k => ?_) ?_
  · show Steps p.tables e below (s₁.setTop (mkF m 0 #[.val (.int p1), .val (.long q2), .second, .unset, .unset] [])) t
    refine XS.iloadN X0.here hx rfl (hb hby d5_0) rfl ?_
    show Steps p.tables e below (s₁.setTop (mkF m 1 #[.val (.int p1), .val (.long q2), .second, .unset, .unset] [(.int p1)])) t
    refine XS.iconst X0.here hx rfl (hb hby d5_1) ?_
    show Steps p.tables e below (s₁.setTop (mkF m 2 #[.val (.int p1), .val (.long q2), .second, .unset, .unset] [(.int (1 : Int32)), (.int p1)])) t
    refine XS.iushr X0.here hx rfl (hb hby d5_2) rfl ?_
    show Steps p.tables e below (s₁.setTop (mkF m 3 #[.val (.int p1), .val (.long q2), .second, .unset, .unset] [(.int ((p1.toUInt32 >>> ((1 : Int32) &&& 31).toUInt32).toInt32))])) t
    refine XS.iconst X0.here hx rfl (hb hby d5_3) ?_
    show Steps p.tables e below (s₁.setTop (mkF m 4 #[.val (.int p1), .val (.long q2), .second, .unset, .unset] [(.int (1 : Int32)), (.int ((p1.toUInt32 >>> ((1 : Int32) &&& 31).toUInt32).toInt32))])) t
    refine XS.iand X0.here hx rfl (hb hby d5_4) rfl ?_
    show Steps p.tables e below (s₁.setTop (mkF m 5 #[.val (.int p1), .val (.long q2), .second, .unset, .unset] [(.int (((p1.toUInt32 >>> ((1 : Int32) &&& 31).toUInt32).toInt32) &&& (1 : Int32)))])) t
    refine XS.iconst X0.here hx rfl (hb hby d5_5) ?_
    exact k
  by_cases hc6_1 : (((p1.toUInt32 >>> ((1 : Int32) &&& 31).toUInt32).toInt32) &&& (1 : Int32)) = (1 : Int32)
  · refine own_via (S' := s₁.setTop (mkF m 9 #[.val (.int p1), .val (.long q2), .second, .unset, .unset] [])) (fun t k => XS.icmpNo (g := (mkF m 6 #[.val (.int p1), .val (.long q2), .second, .unset, .unset] [(.int (1 : Int32)), (.int (((p1.toUInt32 >>> ((1 : Int32) &&& 31).toUInt32).toInt32) &&& (1 : Int32)))])) X0.here hx rfl (hb hby d5_6) rfl (teq hc6_1).2 k) ?_
    refine own_via (S' := s₁.setTop (mkF m 18 #[.val (.int p1), .val (.long q2), .second, .val (.int (1 : Int32)), .unset] [(.int (lcmpW q2 (1 : Int64)))])) (fun t k => ?_) ?_
    · show Steps p.tables e below (s₁.setTop (mkF m 9 #[.val (.int p1), .val (.long q2), .second, .unset, .unset] [])) t
      refine XS.iconst X0.here hx rfl (hb hby d5_9) ?_
      show Steps p.tables e below (s₁.setTop (mkF m 10 #[.val (.int p1), .val (.long q2), .second, .unset, .unset] [(.int (1 : Int32))])) t
      refine XS.goto X0.here hx rfl (pc0 := 10) (pc' := 14) rfl (hb hby d5_10) (by decide) (by decide) ?_
      show Steps p.tables e below (s₁.setTop (mkF m 14 #[.val (.int p1), .val (.long q2), .second, .unset, .unset] [(.int (1 : Int32))])) t
      refine XS.istoreN X0.here hx rfl (hb hby d5_14) rfl (l' := #[.val (.int p1), .val (.long q2), .second, .val (.int (1 : Int32)), .unset]) rfl ?_
      show Steps p.tables e below (s₁.setTop (mkF m 15 #[.val (.int p1), .val (.long q2), .second, .val (.int (1 : Int32)), .unset] [])) t
      refine XS.lloadN X0.here hx rfl (hb hby d5_15) rfl ?_
      show Steps p.tables e below (s₁.setTop (mkF m 16 #[.val (.int p1), .val (.long q2), .second, .val (.int (1 : Int32)), .unset] [(.long q2)])) t
      refine XS.lconst X0.here hx rfl (hb hby d5_16) ?_
      show Steps p.tables e below (s₁.setTop (mkF m 17 #[.val (.int p1), .val (.long q2), .second, .val (.int (1 : Int32)), .unset] [(.long (1 : Int64)), (.long q2)])) t
      refine XS.lcmp X0.here hx rfl (hb hby d5_17) rfl ?_
      exact k
    by_cases hc18_2 : q2 < (1 : Int64)
    · refine own_via (S' := s₁.setTop (mkF m 25 #[.val (.int p1), .val (.long q2), .second, .val (.int (1 : Int32)), .unset] [])) (fun t k => XS.ifYes (g := (mkF m 18 #[.val (.int p1), .val (.long q2), .second, .val (.int (1 : Int32)), .unset] [(.int (lcmpW q2 (1 : Int64)))])) X0.here hx rfl (pc0 := 18) (pc' := 25) rfl (hb hby d5_18) rfl ((if0 _ _).trans (tlt ((lw_lt q2 (1 : Int64)).mpr hc18_2)).1) (by decide) (by decide) k) ?_
      refine own_via (S' := s₁.setTop (mkF m 29 #[.val (.int p1), .val (.long q2), .second, .val (.int (1 : Int32)), .val (.int (0 : Int32))] [(.int (1 : Int32))])) (fun t k => ?_) ?_
      · show Steps p.tables e below (s₁.setTop (mkF m 25 #[.val (.int p1), .val (.long q2), .second, .val (.int (1 : Int32)), .unset] [])) t
        refine XS.iconst X0.here hx rfl (hb hby d5_25) ?_
        show Steps p.tables e below (s₁.setTop (mkF m 26 #[.val (.int p1), .val (.long q2), .second, .val (.int (1 : Int32)), .unset] [(.int (0 : Int32))])) t
        refine XS.istore X0.here hx rfl (hb hby d5_26) rfl (l' := #[.val (.int p1), .val (.long q2), .second, .val (.int (1 : Int32)), .val (.int (0 : Int32))]) rfl ?_
        show Steps p.tables e below (s₁.setTop (mkF m 28 #[.val (.int p1), .val (.long q2), .second, .val (.int (1 : Int32)), .val (.int (0 : Int32))] [])) t
        refine XS.iloadN X0.here hx rfl (hb hby d5_28) rfl ?_
        exact k
      refine own_via (S' := s₁.setTop (mkF m 34 #[.val (.int p1), .val (.long q2), .second, .val (.int (1 : Int32)), .val (.int (0 : Int32))] [])) (fun t k => XS.ifYes (g := (mkF m 29 #[.val (.int p1), .val (.long q2), .second, .val (.int (1 : Int32)), .val (.int (0 : Int32))] [(.int (1 : Int32))])) X0.here hx rfl (pc0 := 29) (pc' := 34) rfl (hb hby d5_29) rfl ((if0 _ _).trans (feq (by decide : ¬ ((1 : Int32) = (0 : Int32)))).2) (by decide) (by decide) k) ?_
      refine own_via (S' := s₁.setTop (mkF m 36 #[.val (.int p1), .val (.long q2), .second, .val (.int (1 : Int32)), .val (.int (0 : Int32))] [(.int (0 : Int32))])) (fun t k => ?_) ?_
      · show Steps p.tables e below (s₁.setTop (mkF m 34 #[.val (.int p1), .val (.long q2), .second, .val (.int (1 : Int32)), .val (.int (0 : Int32))] [])) t
        refine XS.iload X0.here hx rfl (hb hby d5_34) rfl ?_
        exact k
      exact own_end (h := h0) X0 (v := some (.int (0 : Int32))) Bd.notSynchronized (fun h => by rw [Bd.returns] at h; cases h) (fun fs hr => retN X0 hx (t := .boolean) Bd.returns (by simp) (hb hby d5_36) hr) e0 ⟨by show some (Value.int _) = some (Value.int _); congr 2; unfold own_ex; grind, N0, rfl⟩ (by decide) (by decide)
    · refine own_via (S' := s₁.setTop (mkF m 21 #[.val (.int p1), .val (.long q2), .second, .val (.int (1 : Int32)), .unset] [])) (fun t k => XS.ifNo (g := (mkF m 18 #[.val (.int p1), .val (.long q2), .second, .val (.int (1 : Int32)), .unset] [(.int (lcmpW q2 (1 : Int64)))])) X0.here hx rfl (hb hby d5_18) rfl ((if0 _ _).trans (flt (fun q => hc18_2 ((lw_lt q2 (1 : Int64)).mp q))).1) k) ?_
      refine own_via (S' := s₁.setTop (mkF m 29 #[.val (.int p1), .val (.long q2), .second, .val (.int (1 : Int32)), .val (.int (1 : Int32))] [(.int (1 : Int32))])) (fun t k => ?_) ?_
      · show Steps p.tables e below (s₁.setTop (mkF m 21 #[.val (.int p1), .val (.long q2), .second, .val (.int (1 : Int32)), .unset] [])) t
        refine XS.iconst X0.here hx rfl (hb hby d5_21) ?_
        show Steps p.tables e below (s₁.setTop (mkF m 22 #[.val (.int p1), .val (.long q2), .second, .val (.int (1 : Int32)), .unset] [(.int (1 : Int32))])) t
        refine XS.goto X0.here hx rfl (pc0 := 22) (pc' := 26) rfl (hb hby d5_22) (by decide) (by decide) ?_
        show Steps p.tables e below (s₁.setTop (mkF m 26 #[.val (.int p1), .val (.long q2), .second, .val (.int (1 : Int32)), .unset] [(.int (1 : Int32))])) t
        refine XS.istore X0.here hx rfl (hb hby d5_26) rfl (l' := #[.val (.int p1), .val (.long q2), .second, .val (.int (1 : Int32)), .val (.int (1 : Int32))]) rfl ?_
        show Steps p.tables e below (s₁.setTop (mkF m 28 #[.val (.int p1), .val (.long q2), .second, .val (.int (1 : Int32)), .val (.int (1 : Int32))] [])) t
        refine XS.iloadN X0.here hx rfl (hb hby d5_28) rfl ?_
        exact k
      refine own_via (S' := s₁.setTop (mkF m 34 #[.val (.int p1), .val (.long q2), .second, .val (.int (1 : Int32)), .val (.int (1 : Int32))] [])) (fun t k => XS.ifYes (g := (mkF m 29 #[.val (.int p1), .val (.long q2), .second, .val (.int (1 : Int32)), .val (.int (1 : Int32))] [(.int (1 : Int32))])) X0.here hx rfl (pc0 := 29) (pc' := 34) rfl (hb hby d5_29) rfl ((if0 _ _).trans (feq (by decide : ¬ ((1 : Int32) = (0 : Int32)))).2) (by decide) (by decide) k) ?_
      refine own_via (S' := s₁.setTop (mkF m 36 #[.val (.int p1), .val (.long q2), .second, .val (.int (1 : Int32)), .val (.int (1 : Int32))] [(.int (1 : Int32))])) (fun t k => ?_) ?_
      · show Steps p.tables e below (s₁.setTop (mkF m 34 #[.val (.int p1), .val (.long q2), .second, .val (.int (1 : Int32)), .val (.int (1 : Int32))] [])) t
        refine XS.iload X0.here hx rfl (hb hby d5_34) rfl ?_
        exact k
      exact own_end (h := h0) X0 (v := some (.int (1 : Int32))) Bd.notSynchronized (fun h => by rw [Bd.returns] at h; cases h) (fun fs hr => retN X0 hx (t := .boolean) Bd.returns (by simp) (hb hby d5_36) hr) e0 ⟨by show some (Value.int _) = some (Value.int _); congr 2; unfold own_ex; grind, N0, rfl⟩ (by decide) (by decide)
  · refine own_via (S' := s₁.setTop (mkF m 13 #[.val (.int p1), .val (.long q2), .second, .unset, .unset] [])) (fun t k => XS.icmpYes (g := (mkF m 6 #[.val (.int p1), .val (.long q2), .second, .unset, .unset] [(.int (1 : Int32)), (.int (((p1.toUInt32 >>> ((1 : Int32) &&& 31).toUInt32).toInt32) &&& (1 : Int32)))])) X0.here hx rfl (pc0 := 6) (pc' := 13) rfl (hb hby d5_6) rfl (feq hc6_1).2 (by decide) (by decide) k) ?_
    refine own_via (S' := s₁.setTop (mkF m 18 #[.val (.int p1), .val (.long q2), .second, .val (.int (0 : Int32)), .unset] [(.int (lcmpW q2 (1 : Int64)))])) (fun t k => ?_) ?_
    · show Steps p.tables e below (s₁.setTop (mkF m 13 #[.val (.int p1), .val (.long q2), .second, .unset, .unset] [])) t
      refine XS.iconst X0.here hx rfl (hb hby d5_13) ?_
      show Steps p.tables e below (s₁.setTop (mkF m 14 #[.val (.int p1), .val (.long q2), .second, .unset, .unset] [(.int (0 : Int32))])) t
      refine XS.istoreN X0.here hx rfl (hb hby d5_14) rfl (l' := #[.val (.int p1), .val (.long q2), .second, .val (.int (0 : Int32)), .unset]) rfl ?_
      show Steps p.tables e below (s₁.setTop (mkF m 15 #[.val (.int p1), .val (.long q2), .second, .val (.int (0 : Int32)), .unset] [])) t
      refine XS.lloadN X0.here hx rfl (hb hby d5_15) rfl ?_
      show Steps p.tables e below (s₁.setTop (mkF m 16 #[.val (.int p1), .val (.long q2), .second, .val (.int (0 : Int32)), .unset] [(.long q2)])) t
      refine XS.lconst X0.here hx rfl (hb hby d5_16) ?_
      show Steps p.tables e below (s₁.setTop (mkF m 17 #[.val (.int p1), .val (.long q2), .second, .val (.int (0 : Int32)), .unset] [(.long (1 : Int64)), (.long q2)])) t
      refine XS.lcmp X0.here hx rfl (hb hby d5_17) rfl ?_
      exact k
    by_cases hc18_5 : q2 < (1 : Int64)
    · refine own_via (S' := s₁.setTop (mkF m 25 #[.val (.int p1), .val (.long q2), .second, .val (.int (0 : Int32)), .unset] [])) (fun t k => XS.ifYes (g := (mkF m 18 #[.val (.int p1), .val (.long q2), .second, .val (.int (0 : Int32)), .unset] [(.int (lcmpW q2 (1 : Int64)))])) X0.here hx rfl (pc0 := 18) (pc' := 25) rfl (hb hby d5_18) rfl ((if0 _ _).trans (tlt ((lw_lt q2 (1 : Int64)).mpr hc18_5)).1) (by decide) (by decide) k) ?_
      refine own_via (S' := s₁.setTop (mkF m 29 #[.val (.int p1), .val (.long q2), .second, .val (.int (0 : Int32)), .val (.int (0 : Int32))] [(.int (0 : Int32))])) (fun t k => ?_) ?_
      · show Steps p.tables e below (s₁.setTop (mkF m 25 #[.val (.int p1), .val (.long q2), .second, .val (.int (0 : Int32)), .unset] [])) t
        refine XS.iconst X0.here hx rfl (hb hby d5_25) ?_
        show Steps p.tables e below (s₁.setTop (mkF m 26 #[.val (.int p1), .val (.long q2), .second, .val (.int (0 : Int32)), .unset] [(.int (0 : Int32))])) t
        refine XS.istore X0.here hx rfl (hb hby d5_26) rfl (l' := #[.val (.int p1), .val (.long q2), .second, .val (.int (0 : Int32)), .val (.int (0 : Int32))]) rfl ?_
        show Steps p.tables e below (s₁.setTop (mkF m 28 #[.val (.int p1), .val (.long q2), .second, .val (.int (0 : Int32)), .val (.int (0 : Int32))] [])) t
        refine XS.iloadN X0.here hx rfl (hb hby d5_28) rfl ?_
        exact k
      refine own_via (S' := s₁.setTop (mkF m 32 #[.val (.int p1), .val (.long q2), .second, .val (.int (0 : Int32)), .val (.int (0 : Int32))] [])) (fun t k => XS.ifNo (g := (mkF m 29 #[.val (.int p1), .val (.long q2), .second, .val (.int (0 : Int32)), .val (.int (0 : Int32))] [(.int (0 : Int32))])) X0.here hx rfl (hb hby d5_29) rfl ((if0 _ _).trans (teq (by decide : (0 : Int32) = (0 : Int32))).2) k) ?_
      refine own_via (S' := s₁.setTop (mkF m 33 #[.val (.int p1), .val (.long q2), .second, .val (.int (0 : Int32)), .val (.int (0 : Int32))] [(.int (0 : Int32))])) (fun t k => ?_) ?_
      · show Steps p.tables e below (s₁.setTop (mkF m 32 #[.val (.int p1), .val (.long q2), .second, .val (.int (0 : Int32)), .val (.int (0 : Int32))] [])) t
        refine XS.iconst X0.here hx rfl (hb hby d5_32) ?_
        exact k
      exact own_end (h := h0) X0 (v := some (.int (0 : Int32))) Bd.notSynchronized (fun h => by rw [Bd.returns] at h; cases h) (fun fs hr => retN X0 hx (t := .boolean) Bd.returns (by simp) (hb hby d5_33) hr) e0 ⟨by show some (Value.int _) = some (Value.int _); congr 2; unfold own_ex; grind, N0, rfl⟩ (by decide) (by decide)
    · refine own_via (S' := s₁.setTop (mkF m 21 #[.val (.int p1), .val (.long q2), .second, .val (.int (0 : Int32)), .unset] [])) (fun t k => XS.ifNo (g := (mkF m 18 #[.val (.int p1), .val (.long q2), .second, .val (.int (0 : Int32)), .unset] [(.int (lcmpW q2 (1 : Int64)))])) X0.here hx rfl (hb hby d5_18) rfl ((if0 _ _).trans (flt (fun q => hc18_5 ((lw_lt q2 (1 : Int64)).mp q))).1) k) ?_
      refine own_via (S' := s₁.setTop (mkF m 29 #[.val (.int p1), .val (.long q2), .second, .val (.int (0 : Int32)), .val (.int (1 : Int32))] [(.int (0 : Int32))])) (fun t k => ?_) ?_
      · show Steps p.tables e below (s₁.setTop (mkF m 21 #[.val (.int p1), .val (.long q2), .second, .val (.int (0 : Int32)), .unset] [])) t
        refine XS.iconst X0.here hx rfl (hb hby d5_21) ?_
        show Steps p.tables e below (s₁.setTop (mkF m 22 #[.val (.int p1), .val (.long q2), .second, .val (.int (0 : Int32)), .unset] [(.int (1 : Int32))])) t
        refine XS.goto X0.here hx rfl (pc0 := 22) (pc' := 26) rfl (hb hby d5_22) (by decide) (by decide) ?_
        show Steps p.tables e below (s₁.setTop (mkF m 26 #[.val (.int p1), .val (.long q2), .second, .val (.int (0 : Int32)), .unset] [(.int (1 : Int32))])) t
        refine XS.istore X0.here hx rfl (hb hby d5_26) rfl (l' := #[.val (.int p1), .val (.long q2), .second, .val (.int (0 : Int32)), .val (.int (1 : Int32))]) rfl ?_
        show Steps p.tables e below (s₁.setTop (mkF m 28 #[.val (.int p1), .val (.long q2), .second, .val (.int (0 : Int32)), .val (.int (1 : Int32))] [])) t
        refine XS.iloadN X0.here hx rfl (hb hby d5_28) rfl ?_
        exact k
      refine own_via (S' := s₁.setTop (mkF m 32 #[.val (.int p1), .val (.long q2), .second, .val (.int (0 : Int32)), .val (.int (1 : Int32))] [])) (fun t k => XS.ifNo (g := (mkF m 29 #[.val (.int p1), .val (.long q2), .second, .val (.int (0 : Int32)), .val (.int (1 : Int32))] [(.int (0 : Int32))])) X0.here hx rfl (hb hby d5_29) rfl ((if0 _ _).trans (teq (by decide : (0 : Int32) = (0 : Int32))).2) k) ?_
      refine own_via (S' := s₁.setTop (mkF m 33 #[.val (.int p1), .val (.long q2), .second, .val (.int (0 : Int32)), .val (.int (1 : Int32))] [(.int (0 : Int32))])) (fun t k => ?_) ?_
      · show Steps p.tables e below (s₁.setTop (mkF m 32 #[.val (.int p1), .val (.long q2), .second, .val (.int (0 : Int32)), .val (.int (1 : Int32))] [])) t
        refine XS.iconst X0.here hx rfl (hb hby d5_32) ?_
        exact k
      exact own_end (h := h0) X0 (v := some (.int (0 : Int32))) Bd.notSynchronized (fun h => by rw [Bd.returns] at h; cases h) (fun fs hr => retN X0 hx (t := .boolean) Bd.returns (by simp) (hb hby d5_33) hr) e0 ⟨by show some (Value.int _) = some (Value.int _); congr 2; unfold own_ex; grind, N0, rfl⟩ (by decide) (by decide)
theorem pn0 : plainName "com/example/qiantang/qiantang/protocol/PullMessageRequestSuspendsPinLaw" = true := by first | (simp [plainName, overriddenIn]; done) | decide +kernel
theorem pd_1 : parseMethodDescriptor "(Ljava/lang/String;Ljava/lang/String;IJIIJJJLjava/lang/String;Ljava/lang/String;)V" = some ⟨[(.object "java/lang/String"), (.object "java/lang/String"), .int, .long, .int, .int, .long, .long, .long, (.object "java/lang/String"), (.object "java/lang/String")], none⟩ := by decide +kernel
theorem pd_2 : parseMethodDescriptor "()Z" = some ⟨[], some .boolean⟩ := by decide +kernel
theorem pd_3 : parseMethodDescriptor "(IJ)Z" = some ⟨[.int, .long], some .boolean⟩ := by decide +kernel
theorem ef0 (m : MethodId) (x0 : Int32) (x1 : Int64) (x2 : Int32) (x3 : Int64) (x4 : Int32) (x5 : Int64) : entryFrame m #[(.int x0), (.long x1), (.int x2), (.long x3), (.int x4), (.long x5)] maxLocals = mkF m 0 #[.val (.int x0), .val (.long x1), .second, .val (.int x2), .val (.long x3), .second, .val (.int x4), .val (.long x5), .second, .unset, .unset, .unset, .unset, .unset, .unset, .unset, .unset] [] := by first | (simp [entryFrame, mkF, argsToLocals, Value.category, maxLocals]; done) | rfl
def Q0 (Z : State) (p1 : Int32) (q2 : Int64) (p3 : Int32) (q4 : Int64) (p5 : Int32) (q6 : Int64) (h0 : Heap) (n0 : Nat) (v : Option Value) (h : Heap) (L : List Loc) : Prop := v = some (.int 1) ∧ Fr n0 L
set_option maxRecDepth 65536 in
set_option maxHeartbeats 40000000 in
theorem rm0 (l : Launch) (Z : State) (a0 : Array Value) (hw : ∀ d ∈ tables_1, d.before a0 Z = true) (ws : List Jvm.Cond) (p1 : Int32) (q2 : Int64) (p3 : Int32) (q4 : Int64) (p5 : Int32) (q6 : Int64) (h0 : Heap) (n0 : Nat) (Z0 : n0 ≤ h0.size) :
    MetFree l x (head1 (Jvm.Cond.code x code maxLocals ret :: ws) room_1) (fun a U => a = #[(.int p1), (.long q2), (.int p3), (.long q4), (.int p5), (.long q6)] ∧ Z.Warmed39 U.vm ∧ U.heap = h0) (fun _ _ _ _ _ => True) (fun _ U o U' => ∃ v L, o = .returned v ∧ Q0 Z p1 q2 p3 q4 p5 q6 h0 n0 v U'.heap L ∧ ReturnedEndW U o U' L 24 4288) := by
  refine MetFree.of_bodySF (plainFor_of_name pn0) hisR ?_
  intro p e s m args below meth c s₁ Bd hml0 hP hK
  obtain ⟨rfl, hZ, hh⟩ := hP
  have hx := Bd.exec
  have hby := Bd.bytes
  have hml : c.maxLocals = 17 := hml0
  have hown : s.vm.findClass "com/example/qiantang/qiantang/protocol/PullMessageRequestSuspendsPinLaw" = some m.cls := findClass_of_methodNamed Bd.named
  have hnm := (name_of_methodNamed Bd.named Bd.method).1
  have X0 : Stand p l e room_1 s m #[(.int p1), (.long q2), (.int p3), (.long q4), (.int p5), (.long q6)] below meth c s₁ [] 0 0 := Stand.of_body Bd
  have e0 : s₁.heap = h0 := by rw [← hh, Bd.state]; rfl
  have N0 := Fr.nil n0
  refine (show own_G p.tables e below (own_PW s (Q0 Z p1 q2 p3 q4 p5 q6 h0 n0) 24 4288) (s₁.setTop (entryFrame m #[(.int p1), (.long q2), (.int p3), (.long q4), (.int p5), (.long q6)] maxLocals)) from ?_)
  have X0 : Stand p l e room_1 (s.setVm s.vm) m #[(.int p1), (.long q2), (.int p3), (.long q4), (.int p5), (.long q6)] below meth c s₁ [] 0 0 := X0
  have hZ : Z.Warmed39 (s.setVm s.vm).vm := hZ
  have hown : (s.setVm s.vm).vm.findClass "com/example/qiantang/qiantang/protocol/PullMessageRequestSuspendsPinLaw" = some m.cls := hown
  have hS0 : s.Since s.vm 0 := own_since s
  have wS : ∀ d ∈ Bundle.stringAtoms, d.before a0 Z = true := by
    intro d hd
    simp only [Bundle.stringAtoms, List.mem_cons, List.not_mem_nil, or_false] at hd
    rcases hd with rfl | rfl | rfl | rfl | rfl | rfl | rfl
    · exact (hw _ (List.mem_of_getElem? (i := 4) rfl))
    · exact (hw _ (List.mem_of_getElem? (i := 5) rfl))
    · exact (hw _ (List.mem_of_getElem? (i := 6) rfl))
    · exact (hw _ (List.mem_of_getElem? (i := 7) rfl))
    · exact (hw _ (List.mem_of_getElem? (i := 8) rfl))
    · exact (hw _ (List.mem_of_getElem? (i := 9) rfl))
    · exact (hw _ (List.mem_of_getElem? (i := 10) rfl))
  refine own_via (fun t k => castTop (ef0 m p1 q2 p3 q4 p5 q6) k) ?_
  show own_G p.tables e below _ (s₁.setTop (mkF m 0 #[.val (.int p1), .val (.long q2), .second, .val (.int p3), .val (.long q4), .second, .val (.int p5), .val (.long q6), .second, .unset, .unset, .unset, .unset, .unset, .unset, .unset, .unset] []))
  have K0 := Keep.refl h0 []
  refine own_via (S' := s₁.setTop (mkF m 7 #[.val (.int p1), .val (.long q2), .second, .val (.int p3), .val (.long q4), .second, .val (.int p5), .val (.long q6), .second, .val (.long (q4 ^^^ q6)), .second, .unset, .unset, .unset, .unset, .unset, .unset] [])) (fun t k => ?_) ?_
  · show Steps p.tables e below (s₁.setTop (mkF m 0 #[.val (.int p1), .val (.long q2), .second, .val (.int p3), .val (.long q4), .second, .val (.int p5), .val (.long q6), .second, .unset, .unset, .unset, .unset, .unset, .unset, .unset, .unset] [])) t
    refine XS.lload X0.here hx rfl (hb hby at_0) rfl ?_
    show Steps p.tables e below (s₁.setTop (mkF m 2 #[.val (.int p1), .val (.long q2), .second, .val (.int p3), .val (.long q4), .second, .val (.int p5), .val (.long q6), .second, .unset, .unset, .unset, .unset, .unset, .unset, .unset, .unset] [(.long q4)])) t
    refine XS.lload X0.here hx rfl (hb hby at_2) rfl ?_
    show Steps p.tables e below (s₁.setTop (mkF m 4 #[.val (.int p1), .val (.long q2), .second, .val (.int p3), .val (.long q4), .second, .val (.int p5), .val (.long q6), .second, .unset, .unset, .unset, .unset, .unset, .unset, .unset, .unset] [(.long q6), (.long q4)])) t
    refine XS.lxor X0.here hx rfl (hb hby at_4) rfl ?_
    show Steps p.tables e below (s₁.setTop (mkF m 5 #[.val (.int p1), .val (.long q2), .second, .val (.int p3), .val (.long q4), .second, .val (.int p5), .val (.long q6), .second, .unset, .unset, .unset, .unset, .unset, .unset, .unset, .unset] [(.long (q4 ^^^ q6))])) t
    refine XS.lstore X0.here hx rfl (hb hby at_5) rfl (l' := #[.val (.int p1), .val (.long q2), .second, .val (.int p3), .val (.long q4), .second, .val (.int p5), .val (.long q6), .second, .val (.long (q4 ^^^ q6)), .second, .unset, .unset, .unset, .unset, .unset, .unset]) rfl ?_
    exact k
  obtain ⟨T1, h1, X1, e1, E1, A1, D1, -, st1⟩ := newO X0 hx hZ hown (hw _ (List.mem_of_getElem? (i := 0) rfl)) (hw _ (List.mem_of_getElem? (i := 1) rfl)) (hw _ (List.mem_of_getElem? (i := 2) rfl)) e0 (g := (mkF m 7 #[.val (.int p1), .val (.long q2), .second, .val (.int p3), .val (.long q4), .second, .val (.int p5), .val (.long q6), .second, .val (.long (q4 ^^^ q6)), .second, .unset, .unset, .unset, .unset, .unset, .unset] [])) rfl (hb hby at_7) (by decide) (by decide)
  obtain ⟨b1, g1⟩ : ∃ z, z = h0.size := ⟨_, rfl⟩
  have g_b1 : n0 ≤ b1 := Nat.le_trans (Nat.le_trans Z0 K0.1) (Nat.le_of_eq g1.symm)
  have sz_b1 : h0.size ≤ b1 := Nat.le_trans K0.1 (Nat.le_of_eq g1.symm)
  rw [← g1] at A1 D1 st1
  have K1 : Keep h0 h1 [] := Keep.ext K0 E1
  have F_consumerGroup_b1 : Fld Z h1 b1 "com/example/qiantang/qiantang/protocol/PullMessageRequest" "consumerGroup" "Ljava/lang/String;" .null := D1 (Or.inr (hw _ (List.mem_of_getElem? (i := 24) rfl))) (ty := (.object "java/lang/String")) (by decide)
  have F_topic_b1 : Fld Z h1 b1 "com/example/qiantang/qiantang/protocol/PullMessageRequest" "topic" "Ljava/lang/String;" .null := D1 (Or.inr (hw _ (List.mem_of_getElem? (i := 26) rfl))) (ty := (.object "java/lang/String")) (by decide)
  have F_queueId_b1 : Fld Z h1 b1 "com/example/qiantang/qiantang/protocol/PullMessageRequest" "queueId" "I" (.int (0 : Int32)) := D1 (Or.inr (hw _ (List.mem_of_getElem? (i := 28) rfl))) (ty := .int) (by decide)
  have F_queueOffset_b1 : Fld Z h1 b1 "com/example/qiantang/qiantang/protocol/PullMessageRequest" "queueOffset" "J" (.long (0 : Int64)) := D1 (Or.inr (hw _ (List.mem_of_getElem? (i := 30) rfl))) (ty := .long) (by decide)
  have F_maxMsgNums_b1 : Fld Z h1 b1 "com/example/qiantang/qiantang/protocol/PullMessageRequest" "maxMsgNums" "I" (.int (0 : Int32)) := D1 (Or.inr (hw _ (List.mem_of_getElem? (i := 32) rfl))) (ty := .int) (by decide)
  have F_sysFlag_b1 : Fld Z h1 b1 "com/example/qiantang/qiantang/protocol/PullMessageRequest" "sysFlag" "I" (.int (0 : Int32)) := D1 (Or.inr (hw _ (List.mem_of_getElem? (i := 34) rfl))) (ty := .int) (by decide)
  have F_commitOffset_b1 : Fld Z h1 b1 "com/example/qiantang/qiantang/protocol/PullMessageRequest" "commitOffset" "J" (.long (0 : Int64)) := D1 (Or.inr (hw _ (List.mem_of_getElem? (i := 36) rfl))) (ty := .long) (by decide)
  have F_suspendTimeoutMillis_b1 : Fld Z h1 b1 "com/example/qiantang/qiantang/protocol/PullMessageRequest" "suspendTimeoutMillis" "J" (.long (0 : Int64)) := D1 (Or.inr (hw _ (List.mem_of_getElem? (i := 38) rfl))) (ty := .long) (by decide)
  have F_subVersion_b1 : Fld Z h1 b1 "com/example/qiantang/qiantang/protocol/PullMessageRequest" "subVersion" "J" (.long (0 : Int64)) := D1 (Or.inr (hw _ (List.mem_of_getElem? (i := 40) rfl))) (ty := .long) (by decide)
  have F_subscription_b1 : Fld Z h1 b1 "com/example/qiantang/qiantang/protocol/PullMessageRequest" "subscription" "Ljava/lang/String;" .null := D1 (Or.inr (hw _ (List.mem_of_getElem? (i := 42) rfl))) (ty := (.object "java/lang/String")) (by decide)
  have F_expressionType_b1 : Fld Z h1 b1 "com/example/qiantang/qiantang/protocol/PullMessageRequest" "expressionType" "Ljava/lang/String;" .null := D1 (Or.inr (hw _ (List.mem_of_getElem? (i := 44) rfl))) (ty := (.object "java/lang/String")) (by decide)
  refine own_via st1 ?_
  show own_G p.tables e below _ (T1.setTop (mkF m 10 #[.val (.int p1), .val (.long q2), .second, .val (.int p3), .val (.long q4), .second, .val (.int p5), .val (.long q6), .second, .val (.long (q4 ^^^ q6)), .second, .unset, .unset, .unset, .unset, .unset, .unset] [(.ref b1)]))
  refine own_via (S' := T1.setTop (mkF m 11 #[.val (.int p1), .val (.long q2), .second, .val (.int p3), .val (.long q4), .second, .val (.int p5), .val (.long q6), .second, .val (.long (q4 ^^^ q6)), .second, .unset, .unset, .unset, .unset, .unset, .unset] [(.ref b1), (.ref b1)])) (fun t k => ?_) ?_
  · show Steps p.tables e below (T1.setTop (mkF m 10 #[.val (.int p1), .val (.long q2), .second, .val (.int p3), .val (.long q4), .second, .val (.int p5), .val (.long q6), .second, .val (.long (q4 ^^^ q6)), .second, .unset, .unset, .unset, .unset, .unset, .unset] [(.ref b1)])) t
    refine XS.dup X1.here hx rfl (hb hby at_10) rfl rfl ?_
    exact k
  obtain ⟨a2, T2, h2, k2, X2, e2, E2, hS2, hk2, hZ, hown, st2⟩ := ldcS X1 hx hZ hown (hw _ (List.mem_of_getElem? (i := 3) rfl)) wS e1 hS0 (Nat.zero_le _) (g := (mkF m 11 #[.val (.int p1), .val (.long q2), .second, .val (.int p3), .val (.long q4), .second, .val (.int p5), .val (.long q6), .second, .val (.long (q4 ^^^ q6)), .second, .unset, .unset, .unset, .unset, .unset, .unset] [(.ref b1), (.ref b1)])) rfl (hb hby at_11) (n := 4) (by decide) (by decide) (by decide) (by decide)
  have K2 : Keep h0 h2 [] := Keep.ext K1 E2
  refine own_via st2 ?_
  show own_G p.tables e below _ (T2.setTop (mkF m 13 #[.val (.int p1), .val (.long q2), .second, .val (.int p3), .val (.long q4), .second, .val (.int p5), .val (.long q6), .second, .val (.long (q4 ^^^ q6)), .second, .unset, .unset, .unset, .unset, .unset, .unset] [(.ref a2), (.ref b1), (.ref b1)]))
  obtain ⟨a3, T3, h3, k3, X3, e3, E3, hS3, hk3, hZ, hown, st3⟩ := ldcS X2 hx hZ hown (hw _ (List.mem_of_getElem? (i := 11) rfl)) wS e2 hS2 hk2 (g := (mkF m 13 #[.val (.int p1), .val (.long q2), .second, .val (.int p3), .val (.long q4), .second, .val (.int p5), .val (.long q6), .second, .val (.long (q4 ^^^ q6)), .second, .unset, .unset, .unset, .unset, .unset, .unset] [(.ref a2), (.ref b1), (.ref b1)])) rfl (hb hby at_13) (n := 4) (by decide) (by decide) (by decide) (by decide)
  have K3 : Keep h0 h3 [] := Keep.ext K2 E3
  refine own_via st3 ?_
  show own_G p.tables e below _ (T3.setTop (mkF m 15 #[.val (.int p1), .val (.long q2), .second, .val (.int p3), .val (.long q4), .second, .val (.int p5), .val (.long q6), .second, .val (.long (q4 ^^^ q6)), .second, .unset, .unset, .unset, .unset, .unset, .unset] [(.ref a3), (.ref a2), (.ref b1), (.ref b1)]))
  refine own_via (S' := T3.setTop (mkF m 28 #[.val (.int p1), .val (.long q2), .second, .val (.int p3), .val (.long q4), .second, .val (.int p5), .val (.long q6), .second, .val (.long (q4 ^^^ q6)), .second, .unset, .unset, .unset, .unset, .unset, .unset] [.null, .null, (.long (q4 ^^^ q6)), (.long q2), (.long q6), (.int p1), (.int p5), (.long q4), (.int p3), (.ref a3), (.ref a2), (.ref b1), (.ref b1)])) (fun t k => ?_) ?_
  · show Steps p.tables e below (T3.setTop (mkF m 15 #[.val (.int p1), .val (.long q2), .second, .val (.int p3), .val (.long q4), .second, .val (.int p5), .val (.long q6), .second, .val (.long (q4 ^^^ q6)), .second, .unset, .unset, .unset, .unset, .unset, .unset] [(.ref a3), (.ref a2), (.ref b1), (.ref b1)])) t
    refine XS.iloadN X3.here hx rfl (hb hby at_15) rfl ?_
    show Steps p.tables e below (T3.setTop (mkF m 16 #[.val (.int p1), .val (.long q2), .second, .val (.int p3), .val (.long q4), .second, .val (.int p5), .val (.long q6), .second, .val (.long (q4 ^^^ q6)), .second, .unset, .unset, .unset, .unset, .unset, .unset] [(.int p3), (.ref a3), (.ref a2), (.ref b1), (.ref b1)])) t
    refine XS.lload X3.here hx rfl (hb hby at_16) rfl ?_
    show Steps p.tables e below (T3.setTop (mkF m 18 #[.val (.int p1), .val (.long q2), .second, .val (.int p3), .val (.long q4), .second, .val (.int p5), .val (.long q6), .second, .val (.long (q4 ^^^ q6)), .second, .unset, .unset, .unset, .unset, .unset, .unset] [(.long q4), (.int p3), (.ref a3), (.ref a2), (.ref b1), (.ref b1)])) t
    refine XS.iload X3.here hx rfl (hb hby at_18) rfl ?_
    show Steps p.tables e below (T3.setTop (mkF m 20 #[.val (.int p1), .val (.long q2), .second, .val (.int p3), .val (.long q4), .second, .val (.int p5), .val (.long q6), .second, .val (.long (q4 ^^^ q6)), .second, .unset, .unset, .unset, .unset, .unset, .unset] [(.int p5), (.long q4), (.int p3), (.ref a3), (.ref a2), (.ref b1), (.ref b1)])) t
    refine XS.iloadN X3.here hx rfl (hb hby at_20) rfl ?_
    show Steps p.tables e below (T3.setTop (mkF m 21 #[.val (.int p1), .val (.long q2), .second, .val (.int p3), .val (.long q4), .second, .val (.int p5), .val (.long q6), .second, .val (.long (q4 ^^^ q6)), .second, .unset, .unset, .unset, .unset, .unset, .unset] [(.int p1), (.int p5), (.long q4), (.int p3), (.ref a3), (.ref a2), (.ref b1), (.ref b1)])) t
    refine XS.lload X3.here hx rfl (hb hby at_21) rfl ?_
    show Steps p.tables e below (T3.setTop (mkF m 23 #[.val (.int p1), .val (.long q2), .second, .val (.int p3), .val (.long q4), .second, .val (.int p5), .val (.long q6), .second, .val (.long (q4 ^^^ q6)), .second, .unset, .unset, .unset, .unset, .unset, .unset] [(.long q6), (.int p1), (.int p5), (.long q4), (.int p3), (.ref a3), (.ref a2), (.ref b1), (.ref b1)])) t
    refine XS.lloadN X3.here hx rfl (hb hby at_23) rfl ?_
    show Steps p.tables e below (T3.setTop (mkF m 24 #[.val (.int p1), .val (.long q2), .second, .val (.int p3), .val (.long q4), .second, .val (.int p5), .val (.long q6), .second, .val (.long (q4 ^^^ q6)), .second, .unset, .unset, .unset, .unset, .unset, .unset] [(.long q2), (.long q6), (.int p1), (.int p5), (.long q4), (.int p3), (.ref a3), (.ref a2), (.ref b1), (.ref b1)])) t
    refine XS.lload X3.here hx rfl (hb hby at_24) rfl ?_
    show Steps p.tables e below (T3.setTop (mkF m 26 #[.val (.int p1), .val (.long q2), .second, .val (.int p3), .val (.long q4), .second, .val (.int p5), .val (.long q6), .second, .val (.long (q4 ^^^ q6)), .second, .unset, .unset, .unset, .unset, .unset, .unset] [(.long (q4 ^^^ q6)), (.long q2), (.long q6), (.int p1), (.int p5), (.long q4), (.int p3), (.ref a3), (.ref a2), (.ref b1), (.ref b1)])) t
    refine XS.aconstNull X3.here hx rfl (hb hby at_26) ?_
    show Steps p.tables e below (T3.setTop (mkF m 27 #[.val (.int p1), .val (.long q2), .second, .val (.int p3), .val (.long q4), .second, .val (.int p5), .val (.long q6), .second, .val (.long (q4 ^^^ q6)), .second, .unset, .unset, .unset, .unset, .unset, .unset] [.null, (.long (q4 ^^^ q6)), (.long q2), (.long q6), (.int p1), (.int p5), (.long q4), (.int p3), (.ref a3), (.ref a2), (.ref b1), (.ref b1)])) t
    refine XS.aconstNull X3.here hx rfl (hb hby at_27) ?_
    exact k
  have c4 := (Fld.ext E3 (Fld.ext E2 F_consumerGroup_b1))
  have c5 := (Fld.ext E3 (Fld.ext E2 F_topic_b1))
  have c6 := (Fld.ext E3 (Fld.ext E2 F_queueId_b1))
  have c7 := (Fld.ext E3 (Fld.ext E2 F_queueOffset_b1))
  have c8 := (Fld.ext E3 (Fld.ext E2 F_maxMsgNums_b1))
  have c9 := (Fld.ext E3 (Fld.ext E2 F_sysFlag_b1))
  have c10 := (Fld.ext E3 (Fld.ext E2 F_commitOffset_b1))
  have c11 := (Fld.ext E3 (Fld.ext E2 F_suspendTimeoutMillis_b1))
  have c12 := (Fld.ext E3 (Fld.ext E2 F_subVersion_b1))
  have c13 := (Fld.ext E3 (Fld.ext E2 F_subscription_b1))
  have c14 := (Fld.ext E3 (Fld.ext E2 F_expressionType_b1))
  have c15 := (Exa.ext E3 (Exa.ext E2 A1))
  obtain ⟨_, _, ⟨T16, L16, k16, n16⟩, -, X16, ⟨Lc16, hQ16, l16, y16, z16⟩, st16⟩ := X3.specialBack hx (y := (⟨"com/example/qiantang/qiantang/protocol/PullMessageRequest", "<init>", "(Ljava/lang/String;Ljava/lang/String;IJIIJJJLjava/lang/String;Ljava/lang/String;)V"⟩ : MethodName)) rfl hown (mvT hZ (hw _ (List.mem_of_getElem? (i := 12) rfl))) (mvT hZ (hw _ (List.mem_of_getElem? (i := 13) rfl))) (mvT hZ (hw _ (List.mem_of_getElem? (i := 14) rfl))) (by decide) (backOf (W := 1) (rm1NN l Z a0 hw [] b1 a2 a3 p3 q4 p5 p1 q6 q2 (q4 ^^^ q6) h3 n0 (Nat.le_trans Z0 K3.1) c4 c5 c6 c7 c8 c9 c10 c11 c12 c13 c14 c15 g_b1 ) hZ (hw _ (List.mem_of_getElem? (i := 14) rfl)) (hw _ (List.mem_of_getElem? (i := 2) rfl)) (by decide) (by decide)) (g := (mkF m 28 #[.val (.int p1), .val (.long q2), .second, .val (.int p3), .val (.long q4), .second, .val (.int p5), .val (.long q6), .second, .val (.long (q4 ^^^ q6)), .second, .unset, .unset, .unset, .unset, .unset, .unset] [.null, .null, (.long (q4 ^^^ q6)), (.long q2), (.long q6), (.int p1), (.int p5), (.long q4), (.int p3), (.ref a3), (.ref a2), (.ref b1), (.ref b1)])) rfl (by rw [hml]; rfl) (Steps.refl _) (a := b1) (argsL := [(.ref a2), (.ref a3), (.int p3), (.long q4), (.int p5), (.int p1), (.long q6), (.long q2), (.long (q4 ^^^ q6)), .null, .null]) (rest := [(.ref b1)]) (lenOf pd_1 rfl) rfl (by show 2 * 0 + _ ≤ _; exact Nat.le_of_eq rfl) (hb hby at_28) (fun _ _ => ⟨rfl, e3, (by decide : 5 + 0 ≤ _), (by decide : 27 + 0 ≤ _)⟩)
  dsimp only [Pt.U, Pt.locs, Pt.cells, Pt.slots] at X16 l16 y16 z16 st16 hQ16
  subst l16 y16 z16
  obtain ⟨rfl, Nq16, Kc16, Ec16, Fc16_0, Fc16_1, Fc16_2, Fc16_3, Fc16_4, Fc16_5, Fc16_6, Fc16_7, Fc16_8, Fc16_9, Fc16_10⟩ := hQ16
  have N16 := Fr.app N0 Nq16
  refine own_via (fun t k => st16.trans k) ?_
  show own_G p.tables e below _ (T16.setTop (mkF m 31 #[.val (.int p1), .val (.long q2), .second, .val (.int p3), .val (.long q4), .second, .val (.int p5), .val (.long q6), .second, .val (.long (q4 ^^^ q6)), .second, .unset, .unset, .unset, .unset, .unset, .unset] [(.ref b1)]))
  have K16 : Keep h0 T16.heap [] := Keep.trans K3 Kc16 (allS (Or.inr sz_b1) all0)
  refine own_via (S' := T16.setTop (mkF m 33 #[.val (.int p1), .val (.long q2), .second, .val (.int p3), .val (.long q4), .second, .val (.int p5), .val (.long q6), .second, .val (.long (q4 ^^^ q6)), .second, .val (.ref b1), .unset, .unset, .unset, .unset, .unset] [])) (fun t k => ?_) ?_
  · show Steps p.tables e below (T16.setTop (mkF m 31 #[.val (.int p1), .val (.long q2), .second, .val (.int p3), .val (.long q4), .second, .val (.int p5), .val (.long q6), .second, .val (.long (q4 ^^^ q6)), .second, .unset, .unset, .unset, .unset, .unset, .unset] [(.ref b1)])) t
    refine XS.astore X16.here hx rfl (hb hby at_31) rfl rfl (l' := #[.val (.int p1), .val (.long q2), .second, .val (.int p3), .val (.long q4), .second, .val (.int p5), .val (.long q6), .second, .val (.long (q4 ^^^ q6)), .second, .val (.ref b1), .unset, .unset, .unset, .unset, .unset]) rfl ?_
    exact k
  obtain ⟨T17, h17, X17, e17, E17, A17, D17, -, st17⟩ := newO X16 hx hZ hown (hw _ (List.mem_of_getElem? (i := 0) rfl)) (hw _ (List.mem_of_getElem? (i := 1) rfl)) (hw _ (List.mem_of_getElem? (i := 2) rfl)) rfl (g := (mkF m 33 #[.val (.int p1), .val (.long q2), .second, .val (.int p3), .val (.long q4), .second, .val (.int p5), .val (.long q6), .second, .val (.long (q4 ^^^ q6)), .second, .val (.ref b1), .unset, .unset, .unset, .unset, .unset] [])) rfl (hb hby at_33) (by decide) (by decide)
  obtain ⟨b17, g17⟩ : ∃ z, z = T16.heap.size := ⟨_, rfl⟩
  have ne_b1_b17 : b1 ≠ b17 := Nat.ne_of_lt (Nat.lt_of_lt_of_le (Ec16).lt (Nat.le_of_eq g17.symm))
  have g_b17 : n0 ≤ b17 := Nat.le_trans (Nat.le_trans Z0 K16.1) (Nat.le_of_eq g17.symm)
  have sz_b17 : h0.size ≤ b17 := Nat.le_trans K16.1 (Nat.le_of_eq g17.symm)
  rw [← g17] at A17 D17 st17
  have K17 : Keep h0 h17 [] := Keep.ext K16 E17
  have F_consumerGroup_b17 : Fld Z h17 b17 "com/example/qiantang/qiantang/protocol/PullMessageRequest" "consumerGroup" "Ljava/lang/String;" .null := D17 (Or.inr (hw _ (List.mem_of_getElem? (i := 24) rfl))) (ty := (.object "java/lang/String")) (by decide)
  have F_topic_b17 : Fld Z h17 b17 "com/example/qiantang/qiantang/protocol/PullMessageRequest" "topic" "Ljava/lang/String;" .null := D17 (Or.inr (hw _ (List.mem_of_getElem? (i := 26) rfl))) (ty := (.object "java/lang/String")) (by decide)
  have F_queueId_b17 : Fld Z h17 b17 "com/example/qiantang/qiantang/protocol/PullMessageRequest" "queueId" "I" (.int (0 : Int32)) := D17 (Or.inr (hw _ (List.mem_of_getElem? (i := 28) rfl))) (ty := .int) (by decide)
  have F_queueOffset_b17 : Fld Z h17 b17 "com/example/qiantang/qiantang/protocol/PullMessageRequest" "queueOffset" "J" (.long (0 : Int64)) := D17 (Or.inr (hw _ (List.mem_of_getElem? (i := 30) rfl))) (ty := .long) (by decide)
  have F_maxMsgNums_b17 : Fld Z h17 b17 "com/example/qiantang/qiantang/protocol/PullMessageRequest" "maxMsgNums" "I" (.int (0 : Int32)) := D17 (Or.inr (hw _ (List.mem_of_getElem? (i := 32) rfl))) (ty := .int) (by decide)
  have F_sysFlag_b17 : Fld Z h17 b17 "com/example/qiantang/qiantang/protocol/PullMessageRequest" "sysFlag" "I" (.int (0 : Int32)) := D17 (Or.inr (hw _ (List.mem_of_getElem? (i := 34) rfl))) (ty := .int) (by decide)
  have F_commitOffset_b17 : Fld Z h17 b17 "com/example/qiantang/qiantang/protocol/PullMessageRequest" "commitOffset" "J" (.long (0 : Int64)) := D17 (Or.inr (hw _ (List.mem_of_getElem? (i := 36) rfl))) (ty := .long) (by decide)
  have F_suspendTimeoutMillis_b17 : Fld Z h17 b17 "com/example/qiantang/qiantang/protocol/PullMessageRequest" "suspendTimeoutMillis" "J" (.long (0 : Int64)) := D17 (Or.inr (hw _ (List.mem_of_getElem? (i := 38) rfl))) (ty := .long) (by decide)
  have F_subVersion_b17 : Fld Z h17 b17 "com/example/qiantang/qiantang/protocol/PullMessageRequest" "subVersion" "J" (.long (0 : Int64)) := D17 (Or.inr (hw _ (List.mem_of_getElem? (i := 40) rfl))) (ty := .long) (by decide)
  have F_subscription_b17 : Fld Z h17 b17 "com/example/qiantang/qiantang/protocol/PullMessageRequest" "subscription" "Ljava/lang/String;" .null := D17 (Or.inr (hw _ (List.mem_of_getElem? (i := 42) rfl))) (ty := (.object "java/lang/String")) (by decide)
  have F_expressionType_b17 : Fld Z h17 b17 "com/example/qiantang/qiantang/protocol/PullMessageRequest" "expressionType" "Ljava/lang/String;" .null := D17 (Or.inr (hw _ (List.mem_of_getElem? (i := 44) rfl))) (ty := (.object "java/lang/String")) (by decide)
  refine own_via st17 ?_
  show own_G p.tables e below _ (T17.setTop (mkF m 36 #[.val (.int p1), .val (.long q2), .second, .val (.int p3), .val (.long q4), .second, .val (.int p5), .val (.long q6), .second, .val (.long (q4 ^^^ q6)), .second, .val (.ref b1), .unset, .unset, .unset, .unset, .unset] [(.ref b17)]))
  refine own_via (S' := T17.setTop (mkF m 37 #[.val (.int p1), .val (.long q2), .second, .val (.int p3), .val (.long q4), .second, .val (.int p5), .val (.long q6), .second, .val (.long (q4 ^^^ q6)), .second, .val (.ref b1), .unset, .unset, .unset, .unset, .unset] [(.ref b17), (.ref b17)])) (fun t k => ?_) ?_
  · show Steps p.tables e below (T17.setTop (mkF m 36 #[.val (.int p1), .val (.long q2), .second, .val (.int p3), .val (.long q4), .second, .val (.int p5), .val (.long q6), .second, .val (.long (q4 ^^^ q6)), .second, .val (.ref b1), .unset, .unset, .unset, .unset, .unset] [(.ref b17)])) t
    refine XS.dup X17.here hx rfl (hb hby at_36) rfl rfl ?_
    exact k
  obtain ⟨a18, T18, h18, k18, X18, e18, E18, hS18, hk18, hZ, hown, st18⟩ := ldcS X17 hx hZ hown (hw _ (List.mem_of_getElem? (i := 3) rfl)) wS e17 hS3 (Nat.le_trans (Nat.le_trans hk3 Kc16.1) E17.1) (g := (mkF m 37 #[.val (.int p1), .val (.long q2), .second, .val (.int p3), .val (.long q4), .second, .val (.int p5), .val (.long q6), .second, .val (.long (q4 ^^^ q6)), .second, .val (.ref b1), .unset, .unset, .unset, .unset, .unset] [(.ref b17), (.ref b17)])) rfl (hb hby at_37) (n := 4) (by decide) (by decide) (by decide) (by decide)
  have K18 : Keep h0 h18 [] := Keep.ext K17 E18
  refine own_via st18 ?_
  show own_G p.tables e below _ (T18.setTop (mkF m 39 #[.val (.int p1), .val (.long q2), .second, .val (.int p3), .val (.long q4), .second, .val (.int p5), .val (.long q6), .second, .val (.long (q4 ^^^ q6)), .second, .val (.ref b1), .unset, .unset, .unset, .unset, .unset] [(.ref a18), (.ref b17), (.ref b17)]))
  obtain ⟨a19, T19, h19, k19, X19, e19, E19, hS19, hk19, hZ, hown, st19⟩ := ldcS X18 hx hZ hown (hw _ (List.mem_of_getElem? (i := 11) rfl)) wS e18 hS18 hk18 (g := (mkF m 39 #[.val (.int p1), .val (.long q2), .second, .val (.int p3), .val (.long q4), .second, .val (.int p5), .val (.long q6), .second, .val (.long (q4 ^^^ q6)), .second, .val (.ref b1), .unset, .unset, .unset, .unset, .unset] [(.ref a18), (.ref b17), (.ref b17)])) rfl (hb hby at_39) (n := 4) (by decide) (by decide) (by decide) (by decide)
  have K19 : Keep h0 h19 [] := Keep.ext K18 E19
  refine own_via st19 ?_
  show own_G p.tables e below _ (T19.setTop (mkF m 41 #[.val (.int p1), .val (.long q2), .second, .val (.int p3), .val (.long q4), .second, .val (.int p5), .val (.long q6), .second, .val (.long (q4 ^^^ q6)), .second, .val (.ref b1), .unset, .unset, .unset, .unset, .unset] [(.ref a19), (.ref a18), (.ref b17), (.ref b17)]))
  refine own_via (S' := T19.setTop (mkF m 55 #[.val (.int p1), .val (.long q2), .second, .val (.int p3), .val (.long q4), .second, .val (.int p5), .val (.long q6), .second, .val (.long (q4 ^^^ q6)), .second, .val (.ref b1), .unset, .unset, .unset, .unset, .unset] [(.long (q4 ^^^ q6)), (.long q2), (.long q6), (.int (p1 &&& (-3 : Int32))), (.int p5), (.long q4), (.int p3), (.ref a19), (.ref a18), (.ref b17), (.ref b17)])) (fun t k => ?_) ?_
  · show Steps p.tables e below (T19.setTop (mkF m 41 #[.val (.int p1), .val (.long q2), .second, .val (.int p3), .val (.long q4), .second, .val (.int p5), .val (.long q6), .second, .val (.long (q4 ^^^ q6)), .second, .val (.ref b1), .unset, .unset, .unset, .unset, .unset] [(.ref a19), (.ref a18), (.ref b17), (.ref b17)])) t
    refine XS.iloadN X19.here hx rfl (hb hby at_41) rfl ?_
    show Steps p.tables e below (T19.setTop (mkF m 42 #[.val (.int p1), .val (.long q2), .second, .val (.int p3), .val (.long q4), .second, .val (.int p5), .val (.long q6), .second, .val (.long (q4 ^^^ q6)), .second, .val (.ref b1), .unset, .unset, .unset, .unset, .unset] [(.int p3), (.ref a19), (.ref a18), (.ref b17), (.ref b17)])) t
    refine XS.lload X19.here hx rfl (hb hby at_42) rfl ?_
    show Steps p.tables e below (T19.setTop (mkF m 44 #[.val (.int p1), .val (.long q2), .second, .val (.int p3), .val (.long q4), .second, .val (.int p5), .val (.long q6), .second, .val (.long (q4 ^^^ q6)), .second, .val (.ref b1), .unset, .unset, .unset, .unset, .unset] [(.long q4), (.int p3), (.ref a19), (.ref a18), (.ref b17), (.ref b17)])) t
    refine XS.iload X19.here hx rfl (hb hby at_44) rfl ?_
    show Steps p.tables e below (T19.setTop (mkF m 46 #[.val (.int p1), .val (.long q2), .second, .val (.int p3), .val (.long q4), .second, .val (.int p5), .val (.long q6), .second, .val (.long (q4 ^^^ q6)), .second, .val (.ref b1), .unset, .unset, .unset, .unset, .unset] [(.int p5), (.long q4), (.int p3), (.ref a19), (.ref a18), (.ref b17), (.ref b17)])) t
    refine XS.iloadN X19.here hx rfl (hb hby at_46) rfl ?_
    show Steps p.tables e below (T19.setTop (mkF m 47 #[.val (.int p1), .val (.long q2), .second, .val (.int p3), .val (.long q4), .second, .val (.int p5), .val (.long q6), .second, .val (.long (q4 ^^^ q6)), .second, .val (.ref b1), .unset, .unset, .unset, .unset, .unset] [(.int p1), (.int p5), (.long q4), (.int p3), (.ref a19), (.ref a18), (.ref b17), (.ref b17)])) t
    refine XS.bipush X19.here hx rfl (hb hby at_47) ?_
    show Steps p.tables e below (T19.setTop (mkF m 49 #[.val (.int p1), .val (.long q2), .second, .val (.int p3), .val (.long q4), .second, .val (.int p5), .val (.long q6), .second, .val (.long (q4 ^^^ q6)), .second, .val (.ref b1), .unset, .unset, .unset, .unset, .unset] [(.int (-3 : Int32)), (.int p1), (.int p5), (.long q4), (.int p3), (.ref a19), (.ref a18), (.ref b17), (.ref b17)])) t
    refine XS.iand X19.here hx rfl (hb hby at_49) rfl ?_
    show Steps p.tables e below (T19.setTop (mkF m 50 #[.val (.int p1), .val (.long q2), .second, .val (.int p3), .val (.long q4), .second, .val (.int p5), .val (.long q6), .second, .val (.long (q4 ^^^ q6)), .second, .val (.ref b1), .unset, .unset, .unset, .unset, .unset] [(.int (p1 &&& (-3 : Int32))), (.int p5), (.long q4), (.int p3), (.ref a19), (.ref a18), (.ref b17), (.ref b17)])) t
    refine XS.lload X19.here hx rfl (hb hby at_50) rfl ?_
    show Steps p.tables e below (T19.setTop (mkF m 52 #[.val (.int p1), .val (.long q2), .second, .val (.int p3), .val (.long q4), .second, .val (.int p5), .val (.long q6), .second, .val (.long (q4 ^^^ q6)), .second, .val (.ref b1), .unset, .unset, .unset, .unset, .unset] [(.long q6), (.int (p1 &&& (-3 : Int32))), (.int p5), (.long q4), (.int p3), (.ref a19), (.ref a18), (.ref b17), (.ref b17)])) t
    refine XS.lloadN X19.here hx rfl (hb hby at_52) rfl ?_
    show Steps p.tables e below (T19.setTop (mkF m 53 #[.val (.int p1), .val (.long q2), .second, .val (.int p3), .val (.long q4), .second, .val (.int p5), .val (.long q6), .second, .val (.long (q4 ^^^ q6)), .second, .val (.ref b1), .unset, .unset, .unset, .unset, .unset] [(.long q2), (.long q6), (.int (p1 &&& (-3 : Int32))), (.int p5), (.long q4), (.int p3), (.ref a19), (.ref a18), (.ref b17), (.ref b17)])) t
    refine XS.lload X19.here hx rfl (hb hby at_53) rfl ?_
    exact k
  obtain ⟨a20, T20, h20, k20, X20, e20, E20, hS20, hk20, hZ, hown, st20⟩ := ldcS X19 hx hZ hown (hw _ (List.mem_of_getElem? (i := 45) rfl)) wS e19 hS19 hk19 (g := (mkF m 55 #[.val (.int p1), .val (.long q2), .second, .val (.int p3), .val (.long q4), .second, .val (.int p5), .val (.long q6), .second, .val (.long (q4 ^^^ q6)), .second, .val (.ref b1), .unset, .unset, .unset, .unset, .unset] [(.long (q4 ^^^ q6)), (.long q2), (.long q6), (.int (p1 &&& (-3 : Int32))), (.int p5), (.long q4), (.int p3), (.ref a19), (.ref a18), (.ref b17), (.ref b17)])) rfl (hb hby at_55) (n := 4) (by decide) (by decide) (by decide) (by decide)
  have K20 : Keep h0 h20 [] := Keep.ext K19 E20
  refine own_via st20 ?_
  show own_G p.tables e below _ (T20.setTop (mkF m 57 #[.val (.int p1), .val (.long q2), .second, .val (.int p3), .val (.long q4), .second, .val (.int p5), .val (.long q6), .second, .val (.long (q4 ^^^ q6)), .second, .val (.ref b1), .unset, .unset, .unset, .unset, .unset] [(.ref a20), (.long (q4 ^^^ q6)), (.long q2), (.long q6), (.int (p1 &&& (-3 : Int32))), (.int p5), (.long q4), (.int p3), (.ref a19), (.ref a18), (.ref b17), (.ref b17)]))
  obtain ⟨a21, T21, h21, k21, X21, e21, E21, hS21, hk21, hZ, hown, st21⟩ := ldcS X20 hx hZ hown (hw _ (List.mem_of_getElem? (i := 46) rfl)) wS e20 hS20 hk20 (g := (mkF m 57 #[.val (.int p1), .val (.long q2), .second, .val (.int p3), .val (.long q4), .second, .val (.int p5), .val (.long q6), .second, .val (.long (q4 ^^^ q6)), .second, .val (.ref b1), .unset, .unset, .unset, .unset, .unset] [(.ref a20), (.long (q4 ^^^ q6)), (.long q2), (.long q6), (.int (p1 &&& (-3 : Int32))), (.int p5), (.long q4), (.int p3), (.ref a19), (.ref a18), (.ref b17), (.ref b17)])) rfl (hb hby at_57) (n := 12) (by decide) (by decide) (by decide) (by decide)
  have K21 : Keep h0 h21 [] := Keep.ext K20 E21
  refine own_via st21 ?_
  show own_G p.tables e below _ (T21.setTop (mkF m 59 #[.val (.int p1), .val (.long q2), .second, .val (.int p3), .val (.long q4), .second, .val (.int p5), .val (.long q6), .second, .val (.long (q4 ^^^ q6)), .second, .val (.ref b1), .unset, .unset, .unset, .unset, .unset] [(.ref a21), (.ref a20), (.long (q4 ^^^ q6)), (.long q2), (.long q6), (.int (p1 &&& (-3 : Int32))), (.int p5), (.long q4), (.int p3), (.ref a19), (.ref a18), (.ref b17), (.ref b17)]))
  have c22 := (Fld.ext E21 (Fld.ext E20 (Fld.ext E19 (Fld.ext E18 F_consumerGroup_b17))))
  have c23 := (Fld.ext E21 (Fld.ext E20 (Fld.ext E19 (Fld.ext E18 F_topic_b17))))
  have c24 := (Fld.ext E21 (Fld.ext E20 (Fld.ext E19 (Fld.ext E18 F_queueId_b17))))
  have c25 := (Fld.ext E21 (Fld.ext E20 (Fld.ext E19 (Fld.ext E18 F_queueOffset_b17))))
  have c26 := (Fld.ext E21 (Fld.ext E20 (Fld.ext E19 (Fld.ext E18 F_maxMsgNums_b17))))
  have c27 := (Fld.ext E21 (Fld.ext E20 (Fld.ext E19 (Fld.ext E18 F_sysFlag_b17))))
  have c28 := (Fld.ext E21 (Fld.ext E20 (Fld.ext E19 (Fld.ext E18 F_commitOffset_b17))))
  have c29 := (Fld.ext E21 (Fld.ext E20 (Fld.ext E19 (Fld.ext E18 F_suspendTimeoutMillis_b17))))
  have c30 := (Fld.ext E21 (Fld.ext E20 (Fld.ext E19 (Fld.ext E18 F_subVersion_b17))))
  have c31 := (Fld.ext E21 (Fld.ext E20 (Fld.ext E19 (Fld.ext E18 F_subscription_b17))))
  have c32 := (Fld.ext E21 (Fld.ext E20 (Fld.ext E19 (Fld.ext E18 F_expressionType_b17))))
  have c33 := (Exa.ext E21 (Exa.ext E20 (Exa.ext E19 (Exa.ext E18 A17))))
  obtain ⟨_, _, ⟨T34, L34, k34, n34⟩, -, X34, ⟨Lc34, hQ34, l34, y34, z34⟩, st34⟩ := X21.specialBack hx (y := (⟨"com/example/qiantang/qiantang/protocol/PullMessageRequest", "<init>", "(Ljava/lang/String;Ljava/lang/String;IJIIJJJLjava/lang/String;Ljava/lang/String;)V"⟩ : MethodName)) rfl hown (mvT hZ (hw _ (List.mem_of_getElem? (i := 12) rfl))) (mvT hZ (hw _ (List.mem_of_getElem? (i := 13) rfl))) (mvT hZ (hw _ (List.mem_of_getElem? (i := 14) rfl))) (by decide) (backOf (W := 1) (rm1RR l Z a0 hw [] b17 a18 a19 p3 q4 p5 (p1 &&& (-3 : Int32)) q6 q2 (q4 ^^^ q6) a20 a21 h21 n0 (Nat.le_trans Z0 K21.1) c22 c23 c24 c25 c26 c27 c28 c29 c30 c31 c32 c33 g_b17 ) hZ (hw _ (List.mem_of_getElem? (i := 14) rfl)) (hw _ (List.mem_of_getElem? (i := 2) rfl)) (by decide) (by decide)) (g := (mkF m 59 #[.val (.int p1), .val (.long q2), .second, .val (.int p3), .val (.long q4), .second, .val (.int p5), .val (.long q6), .second, .val (.long (q4 ^^^ q6)), .second, .val (.ref b1), .unset, .unset, .unset, .unset, .unset] [(.ref a21), (.ref a20), (.long (q4 ^^^ q6)), (.long q2), (.long q6), (.int (p1 &&& (-3 : Int32))), (.int p5), (.long q4), (.int p3), (.ref a19), (.ref a18), (.ref b17), (.ref b17)])) rfl (by rw [hml]; rfl) (Steps.refl _) (a := b17) (argsL := [(.ref a18), (.ref a19), (.int p3), (.long q4), (.int p5), (.int (p1 &&& (-3 : Int32))), (.long q6), (.long q2), (.long (q4 ^^^ q6)), (.ref a20), (.ref a21)]) (rest := [(.ref b17)]) (lenOf pd_1 rfl) rfl (by show 2 * 0 + _ ≤ _; exact Nat.le_of_eq rfl) (hb hby at_59) (fun _ _ => ⟨rfl, e21, (by decide : 14 + 0 ≤ _), (by decide : 78 + 0 ≤ _)⟩)
  dsimp only [Pt.U, Pt.locs, Pt.cells, Pt.slots] at X34 l34 y34 z34 st34 hQ34
  subst l34 y34 z34
  obtain ⟨rfl, Nq34, Kc34, Ec34, Fc34_0, Fc34_1, Fc34_2, Fc34_3, Fc34_4, Fc34_5, Fc34_6, Fc34_7, Fc34_8, Fc34_9, Fc34_10⟩ := hQ34
  have N34 := Fr.app N16 Nq34
  refine own_via (fun t k => st34.trans k) ?_
  show own_G p.tables e below _ (T34.setTop (mkF m 62 #[.val (.int p1), .val (.long q2), .second, .val (.int p3), .val (.long q4), .second, .val (.int p5), .val (.long q6), .second, .val (.long (q4 ^^^ q6)), .second, .val (.ref b1), .unset, .unset, .unset, .unset, .unset] [(.ref b17)]))
  have K34 : Keep h0 T34.heap [] := Keep.trans K21 Kc34 (allS (Or.inr sz_b17) all0)
  refine own_via (S' := T34.setTop (mkF m 64 #[.val (.int p1), .val (.long q2), .second, .val (.int p3), .val (.long q4), .second, .val (.int p5), .val (.long q6), .second, .val (.long (q4 ^^^ q6)), .second, .val (.ref b1), .val (.ref b17), .unset, .unset, .unset, .unset] [])) (fun t k => ?_) ?_
  · show Steps p.tables e below (T34.setTop (mkF m 62 #[.val (.int p1), .val (.long q2), .second, .val (.int p3), .val (.long q4), .second, .val (.int p5), .val (.long q6), .second, .val (.long (q4 ^^^ q6)), .second, .val (.ref b1), .unset, .unset, .unset, .unset, .unset] [(.ref b17)])) t
    refine XS.astore X34.here hx rfl (hb hby at_62) rfl rfl (l' := #[.val (.int p1), .val (.long q2), .second, .val (.int p3), .val (.long q4), .second, .val (.int p5), .val (.long q6), .second, .val (.long (q4 ^^^ q6)), .second, .val (.ref b1), .val (.ref b17), .unset, .unset, .unset, .unset]) rfl ?_
    exact k
  obtain ⟨T35, h35, X35, e35, E35, A35, D35, -, st35⟩ := newO X34 hx hZ hown (hw _ (List.mem_of_getElem? (i := 0) rfl)) (hw _ (List.mem_of_getElem? (i := 1) rfl)) (hw _ (List.mem_of_getElem? (i := 2) rfl)) rfl (g := (mkF m 64 #[.val (.int p1), .val (.long q2), .second, .val (.int p3), .val (.long q4), .second, .val (.int p5), .val (.long q6), .second, .val (.long (q4 ^^^ q6)), .second, .val (.ref b1), .val (.ref b17), .unset, .unset, .unset, .unset] [])) rfl (hb hby at_64) (by decide) (by decide)
  have c36 := (Exa.keep (Exa.ext E21 (Exa.ext E20 (Exa.ext E19 (Exa.ext E18 (Exa.ext E17 Ec16))))) Kc34)
  obtain ⟨b35, g35⟩ : ∃ z, z = T34.heap.size := ⟨_, rfl⟩
  have ne_b1_b35 : b1 ≠ b35 := Nat.ne_of_lt (Nat.lt_of_lt_of_le (c36).lt (Nat.le_of_eq g35.symm))
  have ne_b17_b35 : b17 ≠ b35 := Nat.ne_of_lt (Nat.lt_of_lt_of_le (Ec34).lt (Nat.le_of_eq g35.symm))
  have g_b35 : n0 ≤ b35 := Nat.le_trans (Nat.le_trans Z0 K34.1) (Nat.le_of_eq g35.symm)
  have sz_b35 : h0.size ≤ b35 := Nat.le_trans K34.1 (Nat.le_of_eq g35.symm)
  rw [← g35] at A35 D35 st35
  have K35 : Keep h0 h35 [] := Keep.ext K34 E35
  have F_consumerGroup_b35 : Fld Z h35 b35 "com/example/qiantang/qiantang/protocol/PullMessageRequest" "consumerGroup" "Ljava/lang/String;" .null := D35 (Or.inr (hw _ (List.mem_of_getElem? (i := 24) rfl))) (ty := (.object "java/lang/String")) (by decide)
  have F_topic_b35 : Fld Z h35 b35 "com/example/qiantang/qiantang/protocol/PullMessageRequest" "topic" "Ljava/lang/String;" .null := D35 (Or.inr (hw _ (List.mem_of_getElem? (i := 26) rfl))) (ty := (.object "java/lang/String")) (by decide)
  have F_queueId_b35 : Fld Z h35 b35 "com/example/qiantang/qiantang/protocol/PullMessageRequest" "queueId" "I" (.int (0 : Int32)) := D35 (Or.inr (hw _ (List.mem_of_getElem? (i := 28) rfl))) (ty := .int) (by decide)
  have F_queueOffset_b35 : Fld Z h35 b35 "com/example/qiantang/qiantang/protocol/PullMessageRequest" "queueOffset" "J" (.long (0 : Int64)) := D35 (Or.inr (hw _ (List.mem_of_getElem? (i := 30) rfl))) (ty := .long) (by decide)
  have F_maxMsgNums_b35 : Fld Z h35 b35 "com/example/qiantang/qiantang/protocol/PullMessageRequest" "maxMsgNums" "I" (.int (0 : Int32)) := D35 (Or.inr (hw _ (List.mem_of_getElem? (i := 32) rfl))) (ty := .int) (by decide)
  have F_sysFlag_b35 : Fld Z h35 b35 "com/example/qiantang/qiantang/protocol/PullMessageRequest" "sysFlag" "I" (.int (0 : Int32)) := D35 (Or.inr (hw _ (List.mem_of_getElem? (i := 34) rfl))) (ty := .int) (by decide)
  have F_commitOffset_b35 : Fld Z h35 b35 "com/example/qiantang/qiantang/protocol/PullMessageRequest" "commitOffset" "J" (.long (0 : Int64)) := D35 (Or.inr (hw _ (List.mem_of_getElem? (i := 36) rfl))) (ty := .long) (by decide)
  have F_suspendTimeoutMillis_b35 : Fld Z h35 b35 "com/example/qiantang/qiantang/protocol/PullMessageRequest" "suspendTimeoutMillis" "J" (.long (0 : Int64)) := D35 (Or.inr (hw _ (List.mem_of_getElem? (i := 38) rfl))) (ty := .long) (by decide)
  have F_subVersion_b35 : Fld Z h35 b35 "com/example/qiantang/qiantang/protocol/PullMessageRequest" "subVersion" "J" (.long (0 : Int64)) := D35 (Or.inr (hw _ (List.mem_of_getElem? (i := 40) rfl))) (ty := .long) (by decide)
  have F_subscription_b35 : Fld Z h35 b35 "com/example/qiantang/qiantang/protocol/PullMessageRequest" "subscription" "Ljava/lang/String;" .null := D35 (Or.inr (hw _ (List.mem_of_getElem? (i := 42) rfl))) (ty := (.object "java/lang/String")) (by decide)
  have F_expressionType_b35 : Fld Z h35 b35 "com/example/qiantang/qiantang/protocol/PullMessageRequest" "expressionType" "Ljava/lang/String;" .null := D35 (Or.inr (hw _ (List.mem_of_getElem? (i := 44) rfl))) (ty := (.object "java/lang/String")) (by decide)
  refine own_via st35 ?_
  show own_G p.tables e below _ (T35.setTop (mkF m 67 #[.val (.int p1), .val (.long q2), .second, .val (.int p3), .val (.long q4), .second, .val (.int p5), .val (.long q6), .second, .val (.long (q4 ^^^ q6)), .second, .val (.ref b1), .val (.ref b17), .unset, .unset, .unset, .unset] [(.ref b35)]))
  refine own_via (S' := T35.setTop (mkF m 68 #[.val (.int p1), .val (.long q2), .second, .val (.int p3), .val (.long q4), .second, .val (.int p5), .val (.long q6), .second, .val (.long (q4 ^^^ q6)), .second, .val (.ref b1), .val (.ref b17), .unset, .unset, .unset, .unset] [(.ref b35), (.ref b35)])) (fun t k => ?_) ?_
  · show Steps p.tables e below (T35.setTop (mkF m 67 #[.val (.int p1), .val (.long q2), .second, .val (.int p3), .val (.long q4), .second, .val (.int p5), .val (.long q6), .second, .val (.long (q4 ^^^ q6)), .second, .val (.ref b1), .val (.ref b17), .unset, .unset, .unset, .unset] [(.ref b35)])) t
    refine XS.dup X35.here hx rfl (hb hby at_67) rfl rfl ?_
    exact k
  obtain ⟨a37, T37, h37, k37, X37, e37, E37, hS37, hk37, hZ, hown, st37⟩ := ldcS X35 hx hZ hown (hw _ (List.mem_of_getElem? (i := 3) rfl)) wS e35 hS21 (Nat.le_trans (Nat.le_trans hk21 Kc34.1) E35.1) (g := (mkF m 68 #[.val (.int p1), .val (.long q2), .second, .val (.int p3), .val (.long q4), .second, .val (.int p5), .val (.long q6), .second, .val (.long (q4 ^^^ q6)), .second, .val (.ref b1), .val (.ref b17), .unset, .unset, .unset, .unset] [(.ref b35), (.ref b35)])) rfl (hb hby at_68) (n := 4) (by decide) (by decide) (by decide) (by decide)
  have K37 : Keep h0 h37 [] := Keep.ext K35 E37
  refine own_via st37 ?_
  show own_G p.tables e below _ (T37.setTop (mkF m 70 #[.val (.int p1), .val (.long q2), .second, .val (.int p3), .val (.long q4), .second, .val (.int p5), .val (.long q6), .second, .val (.long (q4 ^^^ q6)), .second, .val (.ref b1), .val (.ref b17), .unset, .unset, .unset, .unset] [(.ref a37), (.ref b35), (.ref b35)]))
  obtain ⟨a38, T38, h38, k38, X38, e38, E38, hS38, hk38, hZ, hown, st38⟩ := ldcS X37 hx hZ hown (hw _ (List.mem_of_getElem? (i := 11) rfl)) wS e37 hS37 hk37 (g := (mkF m 70 #[.val (.int p1), .val (.long q2), .second, .val (.int p3), .val (.long q4), .second, .val (.int p5), .val (.long q6), .second, .val (.long (q4 ^^^ q6)), .second, .val (.ref b1), .val (.ref b17), .unset, .unset, .unset, .unset] [(.ref a37), (.ref b35), (.ref b35)])) rfl (hb hby at_70) (n := 4) (by decide) (by decide) (by decide) (by decide)
  have K38 : Keep h0 h38 [] := Keep.ext K37 E38
  refine own_via st38 ?_
  show own_G p.tables e below _ (T38.setTop (mkF m 72 #[.val (.int p1), .val (.long q2), .second, .val (.int p3), .val (.long q4), .second, .val (.int p5), .val (.long q6), .second, .val (.long (q4 ^^^ q6)), .second, .val (.ref b1), .val (.ref b17), .unset, .unset, .unset, .unset] [(.ref a38), (.ref a37), (.ref b35), (.ref b35)]))
  refine own_via (S' := T38.setTop (mkF m 87 #[.val (.int p1), .val (.long q2), .second, .val (.int p3), .val (.long q4), .second, .val (.int p5), .val (.long q6), .second, .val (.long (q4 ^^^ q6)), .second, .val (.ref b1), .val (.ref b17), .unset, .unset, .unset, .unset] [.null, .null, (.long (q4 ^^^ q6)), (.long q2), (.long q6), (.int (p1 ||| (2 : Int32))), (.int p5), (.long q4), (.int p3), (.ref a38), (.ref a37), (.ref b35), (.ref b35)])) (fun t k => ?_) ?_
  · show Steps p.tables e below (T38.setTop (mkF m 72 #[.val (.int p1), .val (.long q2), .second, .val (.int p3), .val (.long q4), .second, .val (.int p5), .val (.long q6), .second, .val (.long (q4 ^^^ q6)), .second, .val (.ref b1), .val (.ref b17), .unset, .unset, .unset, .unset] [(.ref a38), (.ref a37), (.ref b35), (.ref b35)])) t
    refine XS.iloadN X38.here hx rfl (hb hby at_72) rfl ?_
    show Steps p.tables e below (T38.setTop (mkF m 73 #[.val (.int p1), .val (.long q2), .second, .val (.int p3), .val (.long q4), .second, .val (.int p5), .val (.long q6), .second, .val (.long (q4 ^^^ q6)), .second, .val (.ref b1), .val (.ref b17), .unset, .unset, .unset, .unset] [(.int p3), (.ref a38), (.ref a37), (.ref b35), (.ref b35)])) t
    refine XS.lload X38.here hx rfl (hb hby at_73) rfl ?_
    show Steps p.tables e below (T38.setTop (mkF m 75 #[.val (.int p1), .val (.long q2), .second, .val (.int p3), .val (.long q4), .second, .val (.int p5), .val (.long q6), .second, .val (.long (q4 ^^^ q6)), .second, .val (.ref b1), .val (.ref b17), .unset, .unset, .unset, .unset] [(.long q4), (.int p3), (.ref a38), (.ref a37), (.ref b35), (.ref b35)])) t
    refine XS.iload X38.here hx rfl (hb hby at_75) rfl ?_
    show Steps p.tables e below (T38.setTop (mkF m 77 #[.val (.int p1), .val (.long q2), .second, .val (.int p3), .val (.long q4), .second, .val (.int p5), .val (.long q6), .second, .val (.long (q4 ^^^ q6)), .second, .val (.ref b1), .val (.ref b17), .unset, .unset, .unset, .unset] [(.int p5), (.long q4), (.int p3), (.ref a38), (.ref a37), (.ref b35), (.ref b35)])) t
    refine XS.iloadN X38.here hx rfl (hb hby at_77) rfl ?_
    show Steps p.tables e below (T38.setTop (mkF m 78 #[.val (.int p1), .val (.long q2), .second, .val (.int p3), .val (.long q4), .second, .val (.int p5), .val (.long q6), .second, .val (.long (q4 ^^^ q6)), .second, .val (.ref b1), .val (.ref b17), .unset, .unset, .unset, .unset] [(.int p1), (.int p5), (.long q4), (.int p3), (.ref a38), (.ref a37), (.ref b35), (.ref b35)])) t
    refine XS.iconst X38.here hx rfl (hb hby at_78) ?_
    show Steps p.tables e below (T38.setTop (mkF m 79 #[.val (.int p1), .val (.long q2), .second, .val (.int p3), .val (.long q4), .second, .val (.int p5), .val (.long q6), .second, .val (.long (q4 ^^^ q6)), .second, .val (.ref b1), .val (.ref b17), .unset, .unset, .unset, .unset] [(.int (2 : Int32)), (.int p1), (.int p5), (.long q4), (.int p3), (.ref a38), (.ref a37), (.ref b35), (.ref b35)])) t
    refine XS.ior X38.here hx rfl (hb hby at_79) rfl ?_
    show Steps p.tables e below (T38.setTop (mkF m 80 #[.val (.int p1), .val (.long q2), .second, .val (.int p3), .val (.long q4), .second, .val (.int p5), .val (.long q6), .second, .val (.long (q4 ^^^ q6)), .second, .val (.ref b1), .val (.ref b17), .unset, .unset, .unset, .unset] [(.int (p1 ||| (2 : Int32))), (.int p5), (.long q4), (.int p3), (.ref a38), (.ref a37), (.ref b35), (.ref b35)])) t
    refine XS.lload X38.here hx rfl (hb hby at_80) rfl ?_
    show Steps p.tables e below (T38.setTop (mkF m 82 #[.val (.int p1), .val (.long q2), .second, .val (.int p3), .val (.long q4), .second, .val (.int p5), .val (.long q6), .second, .val (.long (q4 ^^^ q6)), .second, .val (.ref b1), .val (.ref b17), .unset, .unset, .unset, .unset] [(.long q6), (.int (p1 ||| (2 : Int32))), (.int p5), (.long q4), (.int p3), (.ref a38), (.ref a37), (.ref b35), (.ref b35)])) t
    refine XS.lloadN X38.here hx rfl (hb hby at_82) rfl ?_
    show Steps p.tables e below (T38.setTop (mkF m 83 #[.val (.int p1), .val (.long q2), .second, .val (.int p3), .val (.long q4), .second, .val (.int p5), .val (.long q6), .second, .val (.long (q4 ^^^ q6)), .second, .val (.ref b1), .val (.ref b17), .unset, .unset, .unset, .unset] [(.long q2), (.long q6), (.int (p1 ||| (2 : Int32))), (.int p5), (.long q4), (.int p3), (.ref a38), (.ref a37), (.ref b35), (.ref b35)])) t
    refine XS.lload X38.here hx rfl (hb hby at_83) rfl ?_
    show Steps p.tables e below (T38.setTop (mkF m 85 #[.val (.int p1), .val (.long q2), .second, .val (.int p3), .val (.long q4), .second, .val (.int p5), .val (.long q6), .second, .val (.long (q4 ^^^ q6)), .second, .val (.ref b1), .val (.ref b17), .unset, .unset, .unset, .unset] [(.long (q4 ^^^ q6)), (.long q2), (.long q6), (.int (p1 ||| (2 : Int32))), (.int p5), (.long q4), (.int p3), (.ref a38), (.ref a37), (.ref b35), (.ref b35)])) t
    refine XS.aconstNull X38.here hx rfl (hb hby at_85) ?_
    show Steps p.tables e below (T38.setTop (mkF m 86 #[.val (.int p1), .val (.long q2), .second, .val (.int p3), .val (.long q4), .second, .val (.int p5), .val (.long q6), .second, .val (.long (q4 ^^^ q6)), .second, .val (.ref b1), .val (.ref b17), .unset, .unset, .unset, .unset] [.null, (.long (q4 ^^^ q6)), (.long q2), (.long q6), (.int (p1 ||| (2 : Int32))), (.int p5), (.long q4), (.int p3), (.ref a38), (.ref a37), (.ref b35), (.ref b35)])) t
    refine XS.aconstNull X38.here hx rfl (hb hby at_86) ?_
    exact k
  have c39 := (Fld.ext E38 (Fld.ext E37 F_consumerGroup_b35))
  have c40 := (Fld.ext E38 (Fld.ext E37 F_topic_b35))
  have c41 := (Fld.ext E38 (Fld.ext E37 F_queueId_b35))
  have c42 := (Fld.ext E38 (Fld.ext E37 F_queueOffset_b35))
  have c43 := (Fld.ext E38 (Fld.ext E37 F_maxMsgNums_b35))
  have c44 := (Fld.ext E38 (Fld.ext E37 F_sysFlag_b35))
  have c45 := (Fld.ext E38 (Fld.ext E37 F_commitOffset_b35))
  have c46 := (Fld.ext E38 (Fld.ext E37 F_suspendTimeoutMillis_b35))
  have c47 := (Fld.ext E38 (Fld.ext E37 F_subVersion_b35))
  have c48 := (Fld.ext E38 (Fld.ext E37 F_subscription_b35))
  have c49 := (Fld.ext E38 (Fld.ext E37 F_expressionType_b35))
  have c50 := (Exa.ext E38 (Exa.ext E37 A35))
  obtain ⟨_, _, ⟨T51, L51, k51, n51⟩, -, X51, ⟨Lc51, hQ51, l51, y51, z51⟩, st51⟩ := X38.specialBack hx (y := (⟨"com/example/qiantang/qiantang/protocol/PullMessageRequest", "<init>", "(Ljava/lang/String;Ljava/lang/String;IJIIJJJLjava/lang/String;Ljava/lang/String;)V"⟩ : MethodName)) rfl hown (mvT hZ (hw _ (List.mem_of_getElem? (i := 12) rfl))) (mvT hZ (hw _ (List.mem_of_getElem? (i := 13) rfl))) (mvT hZ (hw _ (List.mem_of_getElem? (i := 14) rfl))) (by decide) (backOf (W := 1) (rm1NN l Z a0 hw [] b35 a37 a38 p3 q4 p5 (p1 ||| (2 : Int32)) q6 q2 (q4 ^^^ q6) h38 n0 (Nat.le_trans Z0 K38.1) c39 c40 c41 c42 c43 c44 c45 c46 c47 c48 c49 c50 g_b35 ) hZ (hw _ (List.mem_of_getElem? (i := 14) rfl)) (hw _ (List.mem_of_getElem? (i := 2) rfl)) (by decide) (by decide)) (g := (mkF m 87 #[.val (.int p1), .val (.long q2), .second, .val (.int p3), .val (.long q4), .second, .val (.int p5), .val (.long q6), .second, .val (.long (q4 ^^^ q6)), .second, .val (.ref b1), .val (.ref b17), .unset, .unset, .unset, .unset] [.null, .null, (.long (q4 ^^^ q6)), (.long q2), (.long q6), (.int (p1 ||| (2 : Int32))), (.int p5), (.long q4), (.int p3), (.ref a38), (.ref a37), (.ref b35), (.ref b35)])) rfl (by rw [hml]; rfl) (Steps.refl _) (a := b35) (argsL := [(.ref a37), (.ref a38), (.int p3), (.long q4), (.int p5), (.int (p1 ||| (2 : Int32))), (.long q6), (.long q2), (.long (q4 ^^^ q6)), .null, .null]) (rest := [(.ref b35)]) (lenOf pd_1 rfl) rfl (by show 2 * 0 + _ ≤ _; exact Nat.le_of_eq rfl) (hb hby at_87) (fun _ _ => ⟨rfl, e38, (by decide : 19 + 0 ≤ _), (by decide : 105 + 0 ≤ _)⟩)
  dsimp only [Pt.U, Pt.locs, Pt.cells, Pt.slots] at X51 l51 y51 z51 st51 hQ51
  subst l51 y51 z51
  obtain ⟨rfl, Nq51, Kc51, Ec51, Fc51_0, Fc51_1, Fc51_2, Fc51_3, Fc51_4, Fc51_5, Fc51_6, Fc51_7, Fc51_8, Fc51_9, Fc51_10⟩ := hQ51
  have N51 := Fr.app N34 Nq51
  refine own_via (fun t k => st51.trans k) ?_
  show own_G p.tables e below _ (T51.setTop (mkF m 90 #[.val (.int p1), .val (.long q2), .second, .val (.int p3), .val (.long q4), .second, .val (.int p5), .val (.long q6), .second, .val (.long (q4 ^^^ q6)), .second, .val (.ref b1), .val (.ref b17), .unset, .unset, .unset, .unset] [(.ref b35)]))
  have K51 : Keep h0 T51.heap [] := Keep.trans K38 Kc51 (allS (Or.inr sz_b35) all0)
  refine own_via (S' := T51.setTop (mkF m 94 #[.val (.int p1), .val (.long q2), .second, .val (.int p3), .val (.long q4), .second, .val (.int p5), .val (.long q6), .second, .val (.long (q4 ^^^ q6)), .second, .val (.ref b1), .val (.ref b17), .val (.ref b35), .unset, .unset, .unset] [(.ref b1)])) (fun t k => ?_) ?_
  · show Steps p.tables e below (T51.setTop (mkF m 90 #[.val (.int p1), .val (.long q2), .second, .val (.int p3), .val (.long q4), .second, .val (.int p5), .val (.long q6), .second, .val (.long (q4 ^^^ q6)), .second, .val (.ref b1), .val (.ref b17), .unset, .unset, .unset, .unset] [(.ref b35)])) t
    refine XS.astore X51.here hx rfl (hb hby at_90) rfl rfl (l' := #[.val (.int p1), .val (.long q2), .second, .val (.int p3), .val (.long q4), .second, .val (.int p5), .val (.long q6), .second, .val (.long (q4 ^^^ q6)), .second, .val (.ref b1), .val (.ref b17), .val (.ref b35), .unset, .unset, .unset]) rfl ?_
    show Steps p.tables e below (T51.setTop (mkF m 92 #[.val (.int p1), .val (.long q2), .second, .val (.int p3), .val (.long q4), .second, .val (.int p5), .val (.long q6), .second, .val (.long (q4 ^^^ q6)), .second, .val (.ref b1), .val (.ref b17), .val (.ref b35), .unset, .unset, .unset] [])) t
    refine XS.aload X51.here hx rfl (hb hby at_92) rfl rfl ?_
    exact k
  have c52 := (Fld.keep (Fld.ext E38 (Fld.ext E37 (Fld.ext E35 (Fld.keep (Fld.ext E21 (Fld.ext E20 (Fld.ext E19 (Fld.ext E18 (Fld.ext E17 Fc16_5))))) Kc34 (ninS ne_b1_b17 nin0))))) Kc51 (ninS ne_b1_b35 nin0))
  have c53 := (Fld.keep (Fld.ext E38 (Fld.ext E37 (Fld.ext E35 (Fld.keep (Fld.ext E21 (Fld.ext E20 (Fld.ext E19 (Fld.ext E18 (Fld.ext E17 Fc16_7))))) Kc34 (ninS ne_b1_b17 nin0))))) Kc51 (ninS ne_b1_b35 nin0))
  have c55 := (Exa.keep (Exa.ext E38 (Exa.ext E37 (Exa.ext E35 c36))) Kc51)
  obtain ⟨cq54, kq54, q54a, q54b, q54c⟩ := isOf hZ rfl c55
  obtain ⟨_, _, ⟨T54, L54, k54, n54⟩, -, X54, ⟨Lc54, hQ54, l54, y54, z54⟩, st54⟩ := X51.virtualBack hx (y := (⟨"com/example/qiantang/qiantang/protocol/PullMessageRequest", "suspends", "()Z"⟩ : MethodName)) (z := (⟨"com/example/qiantang/qiantang/protocol/PullMessageRequest", "suspends", "()Z"⟩ : MethodName)) hown (mvT hZ (hw _ (List.mem_of_getElem? (i := 47) rfl))) (mvT hZ (hw _ (List.mem_of_getElem? (i := 48) rfl))) (notFace_of_selects (args := #[]) (mvT hZ (hw _ (List.mem_of_getElem? (i := 50) rfl)))) (mvT hZ (hw _ (List.mem_of_getElem? (i := 50) rfl))) (mvT hZ (hw _ (List.mem_of_getElem? (i := 49) rfl))) (by decide) (backOf (W := 0) (rm4 l Z a0 hw [] b1 p1 q2 T51.heap n0 (Nat.le_trans Z0 K51.1) c52 c53) hZ (hw _ (List.mem_of_getElem? (i := 51) rfl)) (hw _ (List.mem_of_getElem? (i := 2) rfl)) (by decide) (by decide)) q54a q54c (g := (mkF m 94 #[.val (.int p1), .val (.long q2), .second, .val (.int p3), .val (.long q4), .second, .val (.int p5), .val (.long q6), .second, .val (.long (q4 ^^^ q6)), .second, .val (.ref b1), .val (.ref b17), .val (.ref b35), .unset, .unset, .unset] [(.ref b1)])) rfl (by rw [hml]; rfl) (Steps.refl _) (argsL := []) (rest := []) (lenOf pd_2 rfl) rfl (by show 2 * 0 + _ ≤ _; exact Nat.le_of_eq rfl) (hb hby at_94) (fun _ _ => ⟨rfl, rfl, (by decide : 19 + 0 ≤ _), (by decide : 105 + 0 ≤ _)⟩)
  dsimp only [Pt.U, Pt.locs, Pt.cells, Pt.slots] at X54 l54 y54 z54 st54 hQ54
  subst l54 y54 z54
  obtain ⟨rfl, Nq54, hh54⟩ := hQ54
  have N54 := Fr.app N51 Nq54
  refine own_via (fun t k => st54.trans k) ?_
  show own_G p.tables e below _ (T54.setTop (mkF m 97 #[.val (.int p1), .val (.long q2), .second, .val (.int p3), .val (.long q4), .second, .val (.int p5), .val (.long q6), .second, .val (.long (q4 ^^^ q6)), .second, .val (.ref b1), .val (.ref b17), .val (.ref b35), .unset, .unset, .unset] [(.int (own_su p1 q2))]))
  refine own_via (S' := T54.setTop (mkF m 99 #[.val (.int p1), .val (.long q2), .second, .val (.int p3), .val (.long q4), .second, .val (.int p5), .val (.long q6), .second, .val (.long (q4 ^^^ q6)), .second, .val (.ref b1), .val (.ref b17), .val (.ref b35), .unset, .unset, .unset] [(.long q2), (.int p1), (.int (own_su p1 q2))])) (fun t k => ?_) ?_
  · show Steps p.tables e below (T54.setTop (mkF m 97 #[.val (.int p1), .val (.long q2), .second, .val (.int p3), .val (.long q4), .second, .val (.int p5), .val (.long q6), .second, .val (.long (q4 ^^^ q6)), .second, .val (.ref b1), .val (.ref b17), .val (.ref b35), .unset, .unset, .unset] [(.int (own_su p1 q2))])) t
    refine XS.iloadN X54.here hx rfl (hb hby at_97) rfl ?_
    show Steps p.tables e below (T54.setTop (mkF m 98 #[.val (.int p1), .val (.long q2), .second, .val (.int p3), .val (.long q4), .second, .val (.int p5), .val (.long q6), .second, .val (.long (q4 ^^^ q6)), .second, .val (.ref b1), .val (.ref b17), .val (.ref b35), .unset, .unset, .unset] [(.int p1), (.int (own_su p1 q2))])) t
    refine XS.lloadN X54.here hx rfl (hb hby at_98) rfl ?_
    exact k
  obtain ⟨_, _, ⟨T56, L56, k56, n56⟩, -, X56, ⟨Lc56, hQ56, l56, y56, z56⟩, st56⟩ := Jvm.LawKit.callS X54 hx (y := (⟨"com/example/qiantang/qiantang/protocol/PullMessageRequestSuspendsPinLaw", "expected", "(IJ)Z"⟩ : MethodName)) hown (mvT hZ (hw _ (List.mem_of_getElem? (i := 52) rfl))) (mvT hZ (hw _ (List.mem_of_getElem? (i := 53) rfl))) (mvT hZ (hw _ (List.mem_of_getElem? (i := 54) rfl))) (mvT hZ (hw _ (List.mem_of_getElem? (i := 55) rfl))) (by decide) (backOf (W := 1) (rm5 l Z a0 hw [] p1 q2 T51.heap n0 (Nat.le_trans Z0 K51.1)) hZ (hw _ (List.mem_of_getElem? (i := 55) rfl)) (hw _ (List.mem_of_getElem? (i := 54) rfl)) (by decide) (by decide)) (g := (mkF m 99 #[.val (.int p1), .val (.long q2), .second, .val (.int p3), .val (.long q4), .second, .val (.int p5), .val (.long q6), .second, .val (.long (q4 ^^^ q6)), .second, .val (.ref b1), .val (.ref b17), .val (.ref b35), .unset, .unset, .unset] [(.long q2), (.int p1), (.int (own_su p1 q2))])) rfl (by rw [hml]; rfl) (argsL := [(.int p1), (.long q2)]) (rest := [(.int (own_su p1 q2))]) (lenOf pd_3 rfl) rfl (by show 2 * 0 + _ ≤ _; exact Nat.le_of_eq rfl) (hb hby at_99) (fun _ _ => ⟨rfl, hh54, (by decide : 19 + 0 ≤ _), (by decide : 105 + 0 ≤ _)⟩)
  dsimp only [Pt.U, Pt.locs, Pt.cells, Pt.slots] at X56 l56 y56 z56 st56 hQ56
  subst l56 y56 z56
  obtain ⟨rfl, Nq56, hh56⟩ := hQ56
  have N56 := Fr.app N54 Nq56
  refine own_via st56 ?_
  show own_G p.tables e below _ (T56.setTop (mkF m 102 #[.val (.int p1), .val (.long q2), .second, .val (.int p3), .val (.long q4), .second, .val (.int p5), .val (.long q6), .second, .val (.long (q4 ^^^ q6)), .second, .val (.ref b1), .val (.ref b17), .val (.ref b35), .unset, .unset, .unset] [(.int (own_ex p1 q2)), (.int (own_su p1 q2))]))
  refine own_via (S' := T56.setTop (mkF m 105 #[.val (.int p1), .val (.long q2), .second, .val (.int p3), .val (.long q4), .second, .val (.int p5), .val (.long q6), .second, .val (.long (q4 ^^^ q6)), .second, .val (.ref b1), .val (.ref b17), .val (.ref b35), .unset, .unset, .unset] [])) (fun t k => XS.icmpNo (g := (mkF m 102 #[.val (.int p1), .val (.long q2), .second, .val (.int p3), .val (.long q4), .second, .val (.int p5), .val (.long q6), .second, .val (.long (q4 ^^^ q6)), .second, .val (.ref b1), .val (.ref b17), .val (.ref b35), .unset, .unset, .unset] [(.int (own_ex p1 q2)), (.int (own_su p1 q2))])) X56.here hx rfl (hb hby at_102) rfl (teq (own_a p1 q2)).2 k) ?_
  refine own_via (S' := T56.setTop (mkF m 114 #[.val (.int p1), .val (.long q2), .second, .val (.int p3), .val (.long q4), .second, .val (.int p5), .val (.long q6), .second, .val (.long (q4 ^^^ q6)), .second, .val (.ref b1), .val (.ref b17), .val (.ref b35), .val (.int (1 : Int32)), .unset, .unset] [(.ref b17)])) (fun t k => ?_) ?_
  · show Steps p.tables e below (T56.setTop (mkF m 105 #[.val (.int p1), .val (.long q2), .second, .val (.int p3), .val (.long q4), .second, .val (.int p5), .val (.long q6), .second, .val (.long (q4 ^^^ q6)), .second, .val (.ref b1), .val (.ref b17), .val (.ref b35), .unset, .unset, .unset] [])) t
    refine XS.iconst X56.here hx rfl (hb hby at_105) ?_
    show Steps p.tables e below (T56.setTop (mkF m 106 #[.val (.int p1), .val (.long q2), .second, .val (.int p3), .val (.long q4), .second, .val (.int p5), .val (.long q6), .second, .val (.long (q4 ^^^ q6)), .second, .val (.ref b1), .val (.ref b17), .val (.ref b35), .unset, .unset, .unset] [(.int (1 : Int32))])) t
    refine XS.goto X56.here hx rfl (pc0 := 106) (pc' := 110) rfl (hb hby at_106) (by decide) (by decide) ?_
    show Steps p.tables e below (T56.setTop (mkF m 110 #[.val (.int p1), .val (.long q2), .second, .val (.int p3), .val (.long q4), .second, .val (.int p5), .val (.long q6), .second, .val (.long (q4 ^^^ q6)), .second, .val (.ref b1), .val (.ref b17), .val (.ref b35), .unset, .unset, .unset] [(.int (1 : Int32))])) t
    refine XS.istore X56.here hx rfl (hb hby at_110) rfl (l' := #[.val (.int p1), .val (.long q2), .second, .val (.int p3), .val (.long q4), .second, .val (.int p5), .val (.long q6), .second, .val (.long (q4 ^^^ q6)), .second, .val (.ref b1), .val (.ref b17), .val (.ref b35), .val (.int (1 : Int32)), .unset, .unset]) rfl ?_
    show Steps p.tables e below (T56.setTop (mkF m 112 #[.val (.int p1), .val (.long q2), .second, .val (.int p3), .val (.long q4), .second, .val (.int p5), .val (.long q6), .second, .val (.long (q4 ^^^ q6)), .second, .val (.ref b1), .val (.ref b17), .val (.ref b35), .val (.int (1 : Int32)), .unset, .unset] [])) t
    refine XS.aload X56.here hx rfl (hb hby at_112) rfl rfl ?_
    exact k
  have c58 := (Fld.keep (Fld.ext E38 (Fld.ext E37 (Fld.ext E35 Fc34_5))) Kc51 (ninS ne_b17_b35 nin0))
  have c59 := (Fld.keep (Fld.ext E38 (Fld.ext E37 (Fld.ext E35 Fc34_7))) Kc51 (ninS ne_b17_b35 nin0))
  have c61 := (Exa.keep (Exa.ext E38 (Exa.ext E37 (Exa.ext E35 Ec34))) Kc51)
  obtain ⟨cq60, kq60, q60a, q60b, q60c⟩ := isOf hZ hh56 c61
  obtain ⟨_, _, ⟨T60, L60, k60, n60⟩, -, X60, ⟨Lc60, hQ60, l60, y60, z60⟩, st60⟩ := X56.virtualBack hx (y := (⟨"com/example/qiantang/qiantang/protocol/PullMessageRequest", "suspends", "()Z"⟩ : MethodName)) (z := (⟨"com/example/qiantang/qiantang/protocol/PullMessageRequest", "suspends", "()Z"⟩ : MethodName)) hown (mvT hZ (hw _ (List.mem_of_getElem? (i := 47) rfl))) (mvT hZ (hw _ (List.mem_of_getElem? (i := 48) rfl))) (notFace_of_selects (args := #[]) (mvT hZ (hw _ (List.mem_of_getElem? (i := 50) rfl)))) (mvT hZ (hw _ (List.mem_of_getElem? (i := 50) rfl))) (mvT hZ (hw _ (List.mem_of_getElem? (i := 49) rfl))) (by decide) (backOf (W := 0) (rm4 l Z a0 hw [] b17 (p1 &&& (-3 : Int32)) q2 T51.heap n0 (Nat.le_trans Z0 K51.1) c58 c59) hZ (hw _ (List.mem_of_getElem? (i := 51) rfl)) (hw _ (List.mem_of_getElem? (i := 2) rfl)) (by decide) (by decide)) q60a q60c (g := (mkF m 114 #[.val (.int p1), .val (.long q2), .second, .val (.int p3), .val (.long q4), .second, .val (.int p5), .val (.long q6), .second, .val (.long (q4 ^^^ q6)), .second, .val (.ref b1), .val (.ref b17), .val (.ref b35), .val (.int (1 : Int32)), .unset, .unset] [(.ref b17)])) rfl (by rw [hml]; rfl) (Steps.refl _) (argsL := []) (rest := []) (lenOf pd_2 rfl) rfl (by show 2 * 0 + _ ≤ _; exact Nat.le_of_eq rfl) (hb hby at_114) (fun _ _ => ⟨rfl, hh56, (by decide : 19 + 0 ≤ _), (by decide : 105 + 0 ≤ _)⟩)
  dsimp only [Pt.U, Pt.locs, Pt.cells, Pt.slots] at X60 l60 y60 z60 st60 hQ60
  subst l60 y60 z60
  obtain ⟨rfl, Nq60, hh60⟩ := hQ60
  have N60 := Fr.app N56 Nq60
  refine own_via (fun t k => st60.trans k) ?_
  show own_G p.tables e below _ (T60.setTop (mkF m 117 #[.val (.int p1), .val (.long q2), .second, .val (.int p3), .val (.long q4), .second, .val (.int p5), .val (.long q6), .second, .val (.long (q4 ^^^ q6)), .second, .val (.ref b1), .val (.ref b17), .val (.ref b35), .val (.int (1 : Int32)), .unset, .unset] [(.int (own_su (p1 &&& (-3 : Int32)) q2))]))
  refine own_via (S' := T60.setTop (mkF m 120 #[.val (.int p1), .val (.long q2), .second, .val (.int p3), .val (.long q4), .second, .val (.int p5), .val (.long q6), .second, .val (.long (q4 ^^^ q6)), .second, .val (.ref b1), .val (.ref b17), .val (.ref b35), .val (.int (1 : Int32)), .unset, .unset] [])) (fun t k => XS.ifNo (g := (mkF m 117 #[.val (.int p1), .val (.long q2), .second, .val (.int p3), .val (.long q4), .second, .val (.int p5), .val (.long q6), .second, .val (.long (q4 ^^^ q6)), .second, .val (.ref b1), .val (.ref b17), .val (.ref b35), .val (.int (1 : Int32)), .unset, .unset] [(.int (own_su (p1 &&& (-3 : Int32)) q2))])) X60.here hx rfl (hb hby at_117) rfl ((if0 _ _).trans (teq (own_b p1 q2)).2) k) ?_
  refine own_via (S' := T60.setTop (mkF m 129 #[.val (.int p1), .val (.long q2), .second, .val (.int p3), .val (.long q4), .second, .val (.int p5), .val (.long q6), .second, .val (.long (q4 ^^^ q6)), .second, .val (.ref b1), .val (.ref b17), .val (.ref b35), .val (.int (1 : Int32)), .val (.int (1 : Int32)), .unset] [(.ref b35)])) (fun t k => ?_) ?_
  · show Steps p.tables e below (T60.setTop (mkF m 120 #[.val (.int p1), .val (.long q2), .second, .val (.int p3), .val (.long q4), .second, .val (.int p5), .val (.long q6), .second, .val (.long (q4 ^^^ q6)), .second, .val (.ref b1), .val (.ref b17), .val (.ref b35), .val (.int (1 : Int32)), .unset, .unset] [])) t
    refine XS.iconst X60.here hx rfl (hb hby at_120) ?_
    show Steps p.tables e below (T60.setTop (mkF m 121 #[.val (.int p1), .val (.long q2), .second, .val (.int p3), .val (.long q4), .second, .val (.int p5), .val (.long q6), .second, .val (.long (q4 ^^^ q6)), .second, .val (.ref b1), .val (.ref b17), .val (.ref b35), .val (.int (1 : Int32)), .unset, .unset] [(.int (1 : Int32))])) t
    refine XS.goto X60.here hx rfl (pc0 := 121) (pc' := 125) rfl (hb hby at_121) (by decide) (by decide) ?_
    show Steps p.tables e below (T60.setTop (mkF m 125 #[.val (.int p1), .val (.long q2), .second, .val (.int p3), .val (.long q4), .second, .val (.int p5), .val (.long q6), .second, .val (.long (q4 ^^^ q6)), .second, .val (.ref b1), .val (.ref b17), .val (.ref b35), .val (.int (1 : Int32)), .unset, .unset] [(.int (1 : Int32))])) t
    refine XS.istore X60.here hx rfl (hb hby at_125) rfl (l' := #[.val (.int p1), .val (.long q2), .second, .val (.int p3), .val (.long q4), .second, .val (.int p5), .val (.long q6), .second, .val (.long (q4 ^^^ q6)), .second, .val (.ref b1), .val (.ref b17), .val (.ref b35), .val (.int (1 : Int32)), .val (.int (1 : Int32)), .unset]) rfl ?_
    show Steps p.tables e below (T60.setTop (mkF m 127 #[.val (.int p1), .val (.long q2), .second, .val (.int p3), .val (.long q4), .second, .val (.int p5), .val (.long q6), .second, .val (.long (q4 ^^^ q6)), .second, .val (.ref b1), .val (.ref b17), .val (.ref b35), .val (.int (1 : Int32)), .val (.int (1 : Int32)), .unset] [])) t
    refine XS.aload X60.here hx rfl (hb hby at_127) rfl rfl ?_
    exact k
  obtain ⟨cq63, kq63, q63a, q63b, q63c⟩ := isOf hZ hh60 Ec51
  obtain ⟨_, _, ⟨T63, L63, k63, n63⟩, -, X63, ⟨Lc63, hQ63, l63, y63, z63⟩, st63⟩ := X60.virtualBack hx (y := (⟨"com/example/qiantang/qiantang/protocol/PullMessageRequest", "suspends", "()Z"⟩ : MethodName)) (z := (⟨"com/example/qiantang/qiantang/protocol/PullMessageRequest", "suspends", "()Z"⟩ : MethodName)) hown (mvT hZ (hw _ (List.mem_of_getElem? (i := 47) rfl))) (mvT hZ (hw _ (List.mem_of_getElem? (i := 48) rfl))) (notFace_of_selects (args := #[]) (mvT hZ (hw _ (List.mem_of_getElem? (i := 50) rfl)))) (mvT hZ (hw _ (List.mem_of_getElem? (i := 50) rfl))) (mvT hZ (hw _ (List.mem_of_getElem? (i := 49) rfl))) (by decide) (backOf (W := 0) (rm4 l Z a0 hw [] b35 (p1 ||| (2 : Int32)) q2 T51.heap n0 (Nat.le_trans Z0 K51.1) Fc51_5 Fc51_7) hZ (hw _ (List.mem_of_getElem? (i := 51) rfl)) (hw _ (List.mem_of_getElem? (i := 2) rfl)) (by decide) (by decide)) q63a q63c (g := (mkF m 129 #[.val (.int p1), .val (.long q2), .second, .val (.int p3), .val (.long q4), .second, .val (.int p5), .val (.long q6), .second, .val (.long (q4 ^^^ q6)), .second, .val (.ref b1), .val (.ref b17), .val (.ref b35), .val (.int (1 : Int32)), .val (.int (1 : Int32)), .unset] [(.ref b35)])) rfl (by rw [hml]; rfl) (Steps.refl _) (argsL := []) (rest := []) (lenOf pd_2 rfl) rfl (by show 2 * 0 + _ ≤ _; exact Nat.le_of_eq rfl) (hb hby at_129) (fun _ _ => ⟨rfl, hh60, (by decide : 19 + 0 ≤ _), (by decide : 105 + 0 ≤ _)⟩)
  dsimp only [Pt.U, Pt.locs, Pt.cells, Pt.slots] at X63 l63 y63 z63 st63 hQ63
  subst l63 y63 z63
  obtain ⟨rfl, Nq63, hh63⟩ := hQ63
  have N63 := Fr.app N60 Nq63
  refine own_via (fun t k => st63.trans k) ?_
  show own_G p.tables e below _ (T63.setTop (mkF m 132 #[.val (.int p1), .val (.long q2), .second, .val (.int p3), .val (.long q4), .second, .val (.int p5), .val (.long q6), .second, .val (.long (q4 ^^^ q6)), .second, .val (.ref b1), .val (.ref b17), .val (.ref b35), .val (.int (1 : Int32)), .val (.int (1 : Int32)), .unset] [(.int (own_su (p1 ||| (2 : Int32)) q2))]))
  refine own_via (S' := T63.setTop (mkF m 135 #[.val (.int p1), .val (.long q2), .second, .val (.int p3), .val (.long q4), .second, .val (.int p5), .val (.long q6), .second, .val (.long (q4 ^^^ q6)), .second, .val (.ref b1), .val (.ref b17), .val (.ref b35), .val (.int (1 : Int32)), .val (.int (1 : Int32)), .unset] [(.int (lcmpW q2 (0 : Int64))), (.int (own_su (p1 ||| (2 : Int32)) q2))])) (fun t k => ?_) ?_
  · show Steps p.tables e below (T63.setTop (mkF m 132 #[.val (.int p1), .val (.long q2), .second, .val (.int p3), .val (.long q4), .second, .val (.int p5), .val (.long q6), .second, .val (.long (q4 ^^^ q6)), .second, .val (.ref b1), .val (.ref b17), .val (.ref b35), .val (.int (1 : Int32)), .val (.int (1 : Int32)), .unset] [(.int (own_su (p1 ||| (2 : Int32)) q2))])) t
    refine XS.lloadN X63.here hx rfl (hb hby at_132) rfl ?_
    show Steps p.tables e below (T63.setTop (mkF m 133 #[.val (.int p1), .val (.long q2), .second, .val (.int p3), .val (.long q4), .second, .val (.int p5), .val (.long q6), .second, .val (.long (q4 ^^^ q6)), .second, .val (.ref b1), .val (.ref b17), .val (.ref b35), .val (.int (1 : Int32)), .val (.int (1 : Int32)), .unset] [(.long q2), (.int (own_su (p1 ||| (2 : Int32)) q2))])) t
    refine XS.lconst X63.here hx rfl (hb hby at_133) ?_
    show Steps p.tables e below (T63.setTop (mkF m 134 #[.val (.int p1), .val (.long q2), .second, .val (.int p3), .val (.long q4), .second, .val (.int p5), .val (.long q6), .second, .val (.long (q4 ^^^ q6)), .second, .val (.ref b1), .val (.ref b17), .val (.ref b35), .val (.int (1 : Int32)), .val (.int (1 : Int32)), .unset] [(.long (0 : Int64)), (.long q2), (.int (own_su (p1 ||| (2 : Int32)) q2))])) t
    refine XS.lcmp X63.here hx rfl (hb hby at_134) rfl ?_
    exact k
  by_cases hc135_64 : (0 : Int64) < q2
  · refine own_via (S' := T63.setTop (mkF m 138 #[.val (.int p1), .val (.long q2), .second, .val (.int p3), .val (.long q4), .second, .val (.int p5), .val (.long q6), .second, .val (.long (q4 ^^^ q6)), .second, .val (.ref b1), .val (.ref b17), .val (.ref b35), .val (.int (1 : Int32)), .val (.int (1 : Int32)), .unset] [(.int (own_su (p1 ||| (2 : Int32)) q2))])) (fun t k => XS.ifNo (g := (mkF m 135 #[.val (.int p1), .val (.long q2), .second, .val (.int p3), .val (.long q4), .second, .val (.int p5), .val (.long q6), .second, .val (.long (q4 ^^^ q6)), .second, .val (.ref b1), .val (.ref b17), .val (.ref b35), .val (.int (1 : Int32)), .val (.int (1 : Int32)), .unset] [(.int (lcmpW q2 (0 : Int64))), (.int (own_su (p1 ||| (2 : Int32)) q2))])) X63.here hx rfl (hb hby at_135) rfl ((if0 _ _).trans (tlt ((lw_gt q2 (0 : Int64)).mpr hc135_64)).2.2.2) k) ?_
    refine own_via (S' := T63.setTop (mkF m 143 #[.val (.int p1), .val (.long q2), .second, .val (.int p3), .val (.long q4), .second, .val (.int p5), .val (.long q6), .second, .val (.long (q4 ^^^ q6)), .second, .val (.ref b1), .val (.ref b17), .val (.ref b35), .val (.int (1 : Int32)), .val (.int (1 : Int32)), .unset] [(.int (1 : Int32)), (.int (own_su (p1 ||| (2 : Int32)) q2))])) (fun t k => ?_) ?_
    · show Steps p.tables e below (T63.setTop (mkF m 138 #[.val (.int p1), .val (.long q2), .second, .val (.int p3), .val (.long q4), .second, .val (.int p5), .val (.long q6), .second, .val (.long (q4 ^^^ q6)), .second, .val (.ref b1), .val (.ref b17), .val (.ref b35), .val (.int (1 : Int32)), .val (.int (1 : Int32)), .unset] [(.int (own_su (p1 ||| (2 : Int32)) q2))])) t
      refine XS.iconst X63.here hx rfl (hb hby at_138) ?_
      show Steps p.tables e below (T63.setTop (mkF m 139 #[.val (.int p1), .val (.long q2), .second, .val (.int p3), .val (.long q4), .second, .val (.int p5), .val (.long q6), .second, .val (.long (q4 ^^^ q6)), .second, .val (.ref b1), .val (.ref b17), .val (.ref b35), .val (.int (1 : Int32)), .val (.int (1 : Int32)), .unset] [(.int (1 : Int32)), (.int (own_su (p1 ||| (2 : Int32)) q2))])) t
      refine XS.goto X63.here hx rfl (pc0 := 139) (pc' := 143) rfl (hb hby at_139) (by decide) (by decide) ?_
      exact k
    refine own_via (S' := T63.setTop (mkF m 146 #[.val (.int p1), .val (.long q2), .second, .val (.int p3), .val (.long q4), .second, .val (.int p5), .val (.long q6), .second, .val (.long (q4 ^^^ q6)), .second, .val (.ref b1), .val (.ref b17), .val (.ref b35), .val (.int (1 : Int32)), .val (.int (1 : Int32)), .unset] [])) (fun t k => XS.icmpNo (g := (mkF m 143 #[.val (.int p1), .val (.long q2), .second, .val (.int p3), .val (.long q4), .second, .val (.int p5), .val (.long q6), .second, .val (.long (q4 ^^^ q6)), .second, .val (.ref b1), .val (.ref b17), .val (.ref b35), .val (.int (1 : Int32)), .val (.int (1 : Int32)), .unset] [(.int (1 : Int32)), (.int (own_su (p1 ||| (2 : Int32)) q2))])) X63.here hx rfl (hb hby at_143) rfl (teq (own_c1 p1 q2 hc135_64)).2 k) ?_
    refine own_via (S' := T63.setTop (mkF m 155 #[.val (.int p1), .val (.long q2), .second, .val (.int p3), .val (.long q4), .second, .val (.int p5), .val (.long q6), .second, .val (.long (q4 ^^^ q6)), .second, .val (.ref b1), .val (.ref b17), .val (.ref b35), .val (.int (1 : Int32)), .val (.int (1 : Int32)), .val (.int (1 : Int32))] [(.int (1 : Int32))])) (fun t k => ?_) ?_
    · show Steps p.tables e below (T63.setTop (mkF m 146 #[.val (.int p1), .val (.long q2), .second, .val (.int p3), .val (.long q4), .second, .val (.int p5), .val (.long q6), .second, .val (.long (q4 ^^^ q6)), .second, .val (.ref b1), .val (.ref b17), .val (.ref b35), .val (.int (1 : Int32)), .val (.int (1 : Int32)), .unset] [])) t
      refine XS.iconst X63.here hx rfl (hb hby at_146) ?_
      show Steps p.tables e below (T63.setTop (mkF m 147 #[.val (.int p1), .val (.long q2), .second, .val (.int p3), .val (.long q4), .second, .val (.int p5), .val (.long q6), .second, .val (.long (q4 ^^^ q6)), .second, .val (.ref b1), .val (.ref b17), .val (.ref b35), .val (.int (1 : Int32)), .val (.int (1 : Int32)), .unset] [(.int (1 : Int32))])) t
      refine XS.goto X63.here hx rfl (pc0 := 147) (pc' := 151) rfl (hb hby at_147) (by decide) (by decide) ?_
      show Steps p.tables e below (T63.setTop (mkF m 151 #[.val (.int p1), .val (.long q2), .second, .val (.int p3), .val (.long q4), .second, .val (.int p5), .val (.long q6), .second, .val (.long (q4 ^^^ q6)), .second, .val (.ref b1), .val (.ref b17), .val (.ref b35), .val (.int (1 : Int32)), .val (.int (1 : Int32)), .unset] [(.int (1 : Int32))])) t
      refine XS.istore X63.here hx rfl (hb hby at_151) rfl (l' := #[.val (.int p1), .val (.long q2), .second, .val (.int p3), .val (.long q4), .second, .val (.int p5), .val (.long q6), .second, .val (.long (q4 ^^^ q6)), .second, .val (.ref b1), .val (.ref b17), .val (.ref b35), .val (.int (1 : Int32)), .val (.int (1 : Int32)), .val (.int (1 : Int32))]) rfl ?_
      show Steps p.tables e below (T63.setTop (mkF m 153 #[.val (.int p1), .val (.long q2), .second, .val (.int p3), .val (.long q4), .second, .val (.int p5), .val (.long q6), .second, .val (.long (q4 ^^^ q6)), .second, .val (.ref b1), .val (.ref b17), .val (.ref b35), .val (.int (1 : Int32)), .val (.int (1 : Int32)), .val (.int (1 : Int32))] [])) t
      refine XS.iload X63.here hx rfl (hb hby at_153) rfl ?_
      exact k
    refine own_via (S' := T63.setTop (mkF m 158 #[.val (.int p1), .val (.long q2), .second, .val (.int p3), .val (.long q4), .second, .val (.int p5), .val (.long q6), .second, .val (.long (q4 ^^^ q6)), .second, .val (.ref b1), .val (.ref b17), .val (.ref b35), .val (.int (1 : Int32)), .val (.int (1 : Int32)), .val (.int (1 : Int32))] [])) (fun t k => XS.ifNo (g := (mkF m 155 #[.val (.int p1), .val (.long q2), .second, .val (.int p3), .val (.long q4), .second, .val (.int p5), .val (.long q6), .second, .val (.long (q4 ^^^ q6)), .second, .val (.ref b1), .val (.ref b17), .val (.ref b35), .val (.int (1 : Int32)), .val (.int (1 : Int32)), .val (.int (1 : Int32))] [(.int (1 : Int32))])) X63.here hx rfl (hb hby at_155) rfl ((if0 _ _).trans (feq (by decide : ¬ ((1 : Int32) = (0 : Int32)))).1) k) ?_
    refine own_via (S' := T63.setTop (mkF m 160 #[.val (.int p1), .val (.long q2), .second, .val (.int p3), .val (.long q4), .second, .val (.int p5), .val (.long q6), .second, .val (.long (q4 ^^^ q6)), .second, .val (.ref b1), .val (.ref b17), .val (.ref b35), .val (.int (1 : Int32)), .val (.int (1 : Int32)), .val (.int (1 : Int32))] [(.int (1 : Int32))])) (fun t k => ?_) ?_
    · show Steps p.tables e below (T63.setTop (mkF m 158 #[.val (.int p1), .val (.long q2), .second, .val (.int p3), .val (.long q4), .second, .val (.int p5), .val (.long q6), .second, .val (.long (q4 ^^^ q6)), .second, .val (.ref b1), .val (.ref b17), .val (.ref b35), .val (.int (1 : Int32)), .val (.int (1 : Int32)), .val (.int (1 : Int32))] [])) t
      refine XS.iload X63.here hx rfl (hb hby at_158) rfl ?_
      exact k
    refine own_via (S' := T63.setTop (mkF m 163 #[.val (.int p1), .val (.long q2), .second, .val (.int p3), .val (.long q4), .second, .val (.int p5), .val (.long q6), .second, .val (.long (q4 ^^^ q6)), .second, .val (.ref b1), .val (.ref b17), .val (.ref b35), .val (.int (1 : Int32)), .val (.int (1 : Int32)), .val (.int (1 : Int32))] [])) (fun t k => XS.ifNo (g := (mkF m 160 #[.val (.int p1), .val (.long q2), .second, .val (.int p3), .val (.long q4), .second, .val (.int p5), .val (.long q6), .second, .val (.long (q4 ^^^ q6)), .second, .val (.ref b1), .val (.ref b17), .val (.ref b35), .val (.int (1 : Int32)), .val (.int (1 : Int32)), .val (.int (1 : Int32))] [(.int (1 : Int32))])) X63.here hx rfl (hb hby at_160) rfl ((if0 _ _).trans (feq (by decide : ¬ ((1 : Int32) = (0 : Int32)))).1) k) ?_
    refine own_via (S' := T63.setTop (mkF m 165 #[.val (.int p1), .val (.long q2), .second, .val (.int p3), .val (.long q4), .second, .val (.int p5), .val (.long q6), .second, .val (.long (q4 ^^^ q6)), .second, .val (.ref b1), .val (.ref b17), .val (.ref b35), .val (.int (1 : Int32)), .val (.int (1 : Int32)), .val (.int (1 : Int32))] [(.int (1 : Int32))])) (fun t k => ?_) ?_
    · show Steps p.tables e below (T63.setTop (mkF m 163 #[.val (.int p1), .val (.long q2), .second, .val (.int p3), .val (.long q4), .second, .val (.int p5), .val (.long q6), .second, .val (.long (q4 ^^^ q6)), .second, .val (.ref b1), .val (.ref b17), .val (.ref b35), .val (.int (1 : Int32)), .val (.int (1 : Int32)), .val (.int (1 : Int32))] [])) t
      refine XS.iload X63.here hx rfl (hb hby at_163) rfl ?_
      exact k
    refine own_via (S' := T63.setTop (mkF m 168 #[.val (.int p1), .val (.long q2), .second, .val (.int p3), .val (.long q4), .second, .val (.int p5), .val (.long q6), .second, .val (.long (q4 ^^^ q6)), .second, .val (.ref b1), .val (.ref b17), .val (.ref b35), .val (.int (1 : Int32)), .val (.int (1 : Int32)), .val (.int (1 : Int32))] [])) (fun t k => XS.ifNo (g := (mkF m 165 #[.val (.int p1), .val (.long q2), .second, .val (.int p3), .val (.long q4), .second, .val (.int p5), .val (.long q6), .second, .val (.long (q4 ^^^ q6)), .second, .val (.ref b1), .val (.ref b17), .val (.ref b35), .val (.int (1 : Int32)), .val (.int (1 : Int32)), .val (.int (1 : Int32))] [(.int (1 : Int32))])) X63.here hx rfl (hb hby at_165) rfl ((if0 _ _).trans (feq (by decide : ¬ ((1 : Int32) = (0 : Int32)))).1) k) ?_
    refine own_via (S' := T63.setTop (mkF m 173 #[.val (.int p1), .val (.long q2), .second, .val (.int p3), .val (.long q4), .second, .val (.int p5), .val (.long q6), .second, .val (.long (q4 ^^^ q6)), .second, .val (.ref b1), .val (.ref b17), .val (.ref b35), .val (.int (1 : Int32)), .val (.int (1 : Int32)), .val (.int (1 : Int32))] [(.int (1 : Int32))])) (fun t k => ?_) ?_
    · show Steps p.tables e below (T63.setTop (mkF m 168 #[.val (.int p1), .val (.long q2), .second, .val (.int p3), .val (.long q4), .second, .val (.int p5), .val (.long q6), .second, .val (.long (q4 ^^^ q6)), .second, .val (.ref b1), .val (.ref b17), .val (.ref b35), .val (.int (1 : Int32)), .val (.int (1 : Int32)), .val (.int (1 : Int32))] [])) t
      refine XS.iconst X63.here hx rfl (hb hby at_168) ?_
      show Steps p.tables e below (T63.setTop (mkF m 169 #[.val (.int p1), .val (.long q2), .second, .val (.int p3), .val (.long q4), .second, .val (.int p5), .val (.long q6), .second, .val (.long (q4 ^^^ q6)), .second, .val (.ref b1), .val (.ref b17), .val (.ref b35), .val (.int (1 : Int32)), .val (.int (1 : Int32)), .val (.int (1 : Int32))] [(.int (1 : Int32))])) t
      refine XS.goto X63.here hx rfl (pc0 := 169) (pc' := 173) rfl (hb hby at_169) (by decide) (by decide) ?_
      exact k
    exact own_endW (h := T51.heap) X63 hS38 (v := some (.int (1 : Int32))) Bd.notSynchronized (fun h => by rw [Bd.returns] at h; cases h) (fun fs hr => retN X63 hx (t := .boolean) Bd.returns (by simp) (hb hby at_173) hr) hh63 (by rw [hh63]; exact (Nat.le_trans hk38 Kc51.1)) ⟨rfl, N63⟩ (by decide) (by decide)
  · refine own_via (S' := T63.setTop (mkF m 142 #[.val (.int p1), .val (.long q2), .second, .val (.int p3), .val (.long q4), .second, .val (.int p5), .val (.long q6), .second, .val (.long (q4 ^^^ q6)), .second, .val (.ref b1), .val (.ref b17), .val (.ref b35), .val (.int (1 : Int32)), .val (.int (1 : Int32)), .unset] [(.int (own_su (p1 ||| (2 : Int32)) q2))])) (fun t k => XS.ifYes (g := (mkF m 135 #[.val (.int p1), .val (.long q2), .second, .val (.int p3), .val (.long q4), .second, .val (.int p5), .val (.long q6), .second, .val (.long (q4 ^^^ q6)), .second, .val (.ref b1), .val (.ref b17), .val (.ref b35), .val (.int (1 : Int32)), .val (.int (1 : Int32)), .unset] [(.int (lcmpW q2 (0 : Int64))), (.int (own_su (p1 ||| (2 : Int32)) q2))])) X63.here hx rfl (pc0 := 135) (pc' := 142) rfl (hb hby at_135) rfl ((if0 _ _).trans (flt (fun q => hc135_64 ((lw_gt q2 (0 : Int64)).mp q))).2.2.2) (by decide) (by decide) k) ?_
    refine own_via (S' := T63.setTop (mkF m 143 #[.val (.int p1), .val (.long q2), .second, .val (.int p3), .val (.long q4), .second, .val (.int p5), .val (.long q6), .second, .val (.long (q4 ^^^ q6)), .second, .val (.ref b1), .val (.ref b17), .val (.ref b35), .val (.int (1 : Int32)), .val (.int (1 : Int32)), .unset] [(.int (0 : Int32)), (.int (own_su (p1 ||| (2 : Int32)) q2))])) (fun t k => ?_) ?_
    · show Steps p.tables e below (T63.setTop (mkF m 142 #[.val (.int p1), .val (.long q2), .second, .val (.int p3), .val (.long q4), .second, .val (.int p5), .val (.long q6), .second, .val (.long (q4 ^^^ q6)), .second, .val (.ref b1), .val (.ref b17), .val (.ref b35), .val (.int (1 : Int32)), .val (.int (1 : Int32)), .unset] [(.int (own_su (p1 ||| (2 : Int32)) q2))])) t
      refine XS.iconst X63.here hx rfl (hb hby at_142) ?_
      exact k
    refine own_via (S' := T63.setTop (mkF m 146 #[.val (.int p1), .val (.long q2), .second, .val (.int p3), .val (.long q4), .second, .val (.int p5), .val (.long q6), .second, .val (.long (q4 ^^^ q6)), .second, .val (.ref b1), .val (.ref b17), .val (.ref b35), .val (.int (1 : Int32)), .val (.int (1 : Int32)), .unset] [])) (fun t k => XS.icmpNo (g := (mkF m 143 #[.val (.int p1), .val (.long q2), .second, .val (.int p3), .val (.long q4), .second, .val (.int p5), .val (.long q6), .second, .val (.long (q4 ^^^ q6)), .second, .val (.ref b1), .val (.ref b17), .val (.ref b35), .val (.int (1 : Int32)), .val (.int (1 : Int32)), .unset] [(.int (0 : Int32)), (.int (own_su (p1 ||| (2 : Int32)) q2))])) X63.here hx rfl (hb hby at_143) rfl (teq (own_c0 p1 q2 hc135_64)).2 k) ?_
    refine own_via (S' := T63.setTop (mkF m 155 #[.val (.int p1), .val (.long q2), .second, .val (.int p3), .val (.long q4), .second, .val (.int p5), .val (.long q6), .second, .val (.long (q4 ^^^ q6)), .second, .val (.ref b1), .val (.ref b17), .val (.ref b35), .val (.int (1 : Int32)), .val (.int (1 : Int32)), .val (.int (1 : Int32))] [(.int (1 : Int32))])) (fun t k => ?_) ?_
    · show Steps p.tables e below (T63.setTop (mkF m 146 #[.val (.int p1), .val (.long q2), .second, .val (.int p3), .val (.long q4), .second, .val (.int p5), .val (.long q6), .second, .val (.long (q4 ^^^ q6)), .second, .val (.ref b1), .val (.ref b17), .val (.ref b35), .val (.int (1 : Int32)), .val (.int (1 : Int32)), .unset] [])) t
      refine XS.iconst X63.here hx rfl (hb hby at_146) ?_
      show Steps p.tables e below (T63.setTop (mkF m 147 #[.val (.int p1), .val (.long q2), .second, .val (.int p3), .val (.long q4), .second, .val (.int p5), .val (.long q6), .second, .val (.long (q4 ^^^ q6)), .second, .val (.ref b1), .val (.ref b17), .val (.ref b35), .val (.int (1 : Int32)), .val (.int (1 : Int32)), .unset] [(.int (1 : Int32))])) t
      refine XS.goto X63.here hx rfl (pc0 := 147) (pc' := 151) rfl (hb hby at_147) (by decide) (by decide) ?_
      show Steps p.tables e below (T63.setTop (mkF m 151 #[.val (.int p1), .val (.long q2), .second, .val (.int p3), .val (.long q4), .second, .val (.int p5), .val (.long q6), .second, .val (.long (q4 ^^^ q6)), .second, .val (.ref b1), .val (.ref b17), .val (.ref b35), .val (.int (1 : Int32)), .val (.int (1 : Int32)), .unset] [(.int (1 : Int32))])) t
      refine XS.istore X63.here hx rfl (hb hby at_151) rfl (l' := #[.val (.int p1), .val (.long q2), .second, .val (.int p3), .val (.long q4), .second, .val (.int p5), .val (.long q6), .second, .val (.long (q4 ^^^ q6)), .second, .val (.ref b1), .val (.ref b17), .val (.ref b35), .val (.int (1 : Int32)), .val (.int (1 : Int32)), .val (.int (1 : Int32))]) rfl ?_
      show Steps p.tables e below (T63.setTop (mkF m 153 #[.val (.int p1), .val (.long q2), .second, .val (.int p3), .val (.long q4), .second, .val (.int p5), .val (.long q6), .second, .val (.long (q4 ^^^ q6)), .second, .val (.ref b1), .val (.ref b17), .val (.ref b35), .val (.int (1 : Int32)), .val (.int (1 : Int32)), .val (.int (1 : Int32))] [])) t
      refine XS.iload X63.here hx rfl (hb hby at_153) rfl ?_
      exact k
    refine own_via (S' := T63.setTop (mkF m 158 #[.val (.int p1), .val (.long q2), .second, .val (.int p3), .val (.long q4), .second, .val (.int p5), .val (.long q6), .second, .val (.long (q4 ^^^ q6)), .second, .val (.ref b1), .val (.ref b17), .val (.ref b35), .val (.int (1 : Int32)), .val (.int (1 : Int32)), .val (.int (1 : Int32))] [])) (fun t k => XS.ifNo (g := (mkF m 155 #[.val (.int p1), .val (.long q2), .second, .val (.int p3), .val (.long q4), .second, .val (.int p5), .val (.long q6), .second, .val (.long (q4 ^^^ q6)), .second, .val (.ref b1), .val (.ref b17), .val (.ref b35), .val (.int (1 : Int32)), .val (.int (1 : Int32)), .val (.int (1 : Int32))] [(.int (1 : Int32))])) X63.here hx rfl (hb hby at_155) rfl ((if0 _ _).trans (feq (by decide : ¬ ((1 : Int32) = (0 : Int32)))).1) k) ?_
    refine own_via (S' := T63.setTop (mkF m 160 #[.val (.int p1), .val (.long q2), .second, .val (.int p3), .val (.long q4), .second, .val (.int p5), .val (.long q6), .second, .val (.long (q4 ^^^ q6)), .second, .val (.ref b1), .val (.ref b17), .val (.ref b35), .val (.int (1 : Int32)), .val (.int (1 : Int32)), .val (.int (1 : Int32))] [(.int (1 : Int32))])) (fun t k => ?_) ?_
    · show Steps p.tables e below (T63.setTop (mkF m 158 #[.val (.int p1), .val (.long q2), .second, .val (.int p3), .val (.long q4), .second, .val (.int p5), .val (.long q6), .second, .val (.long (q4 ^^^ q6)), .second, .val (.ref b1), .val (.ref b17), .val (.ref b35), .val (.int (1 : Int32)), .val (.int (1 : Int32)), .val (.int (1 : Int32))] [])) t
      refine XS.iload X63.here hx rfl (hb hby at_158) rfl ?_
      exact k
    refine own_via (S' := T63.setTop (mkF m 163 #[.val (.int p1), .val (.long q2), .second, .val (.int p3), .val (.long q4), .second, .val (.int p5), .val (.long q6), .second, .val (.long (q4 ^^^ q6)), .second, .val (.ref b1), .val (.ref b17), .val (.ref b35), .val (.int (1 : Int32)), .val (.int (1 : Int32)), .val (.int (1 : Int32))] [])) (fun t k => XS.ifNo (g := (mkF m 160 #[.val (.int p1), .val (.long q2), .second, .val (.int p3), .val (.long q4), .second, .val (.int p5), .val (.long q6), .second, .val (.long (q4 ^^^ q6)), .second, .val (.ref b1), .val (.ref b17), .val (.ref b35), .val (.int (1 : Int32)), .val (.int (1 : Int32)), .val (.int (1 : Int32))] [(.int (1 : Int32))])) X63.here hx rfl (hb hby at_160) rfl ((if0 _ _).trans (feq (by decide : ¬ ((1 : Int32) = (0 : Int32)))).1) k) ?_
    refine own_via (S' := T63.setTop (mkF m 165 #[.val (.int p1), .val (.long q2), .second, .val (.int p3), .val (.long q4), .second, .val (.int p5), .val (.long q6), .second, .val (.long (q4 ^^^ q6)), .second, .val (.ref b1), .val (.ref b17), .val (.ref b35), .val (.int (1 : Int32)), .val (.int (1 : Int32)), .val (.int (1 : Int32))] [(.int (1 : Int32))])) (fun t k => ?_) ?_
    · show Steps p.tables e below (T63.setTop (mkF m 163 #[.val (.int p1), .val (.long q2), .second, .val (.int p3), .val (.long q4), .second, .val (.int p5), .val (.long q6), .second, .val (.long (q4 ^^^ q6)), .second, .val (.ref b1), .val (.ref b17), .val (.ref b35), .val (.int (1 : Int32)), .val (.int (1 : Int32)), .val (.int (1 : Int32))] [])) t
      refine XS.iload X63.here hx rfl (hb hby at_163) rfl ?_
      exact k
    refine own_via (S' := T63.setTop (mkF m 168 #[.val (.int p1), .val (.long q2), .second, .val (.int p3), .val (.long q4), .second, .val (.int p5), .val (.long q6), .second, .val (.long (q4 ^^^ q6)), .second, .val (.ref b1), .val (.ref b17), .val (.ref b35), .val (.int (1 : Int32)), .val (.int (1 : Int32)), .val (.int (1 : Int32))] [])) (fun t k => XS.ifNo (g := (mkF m 165 #[.val (.int p1), .val (.long q2), .second, .val (.int p3), .val (.long q4), .second, .val (.int p5), .val (.long q6), .second, .val (.long (q4 ^^^ q6)), .second, .val (.ref b1), .val (.ref b17), .val (.ref b35), .val (.int (1 : Int32)), .val (.int (1 : Int32)), .val (.int (1 : Int32))] [(.int (1 : Int32))])) X63.here hx rfl (hb hby at_165) rfl ((if0 _ _).trans (feq (by decide : ¬ ((1 : Int32) = (0 : Int32)))).1) k) ?_
    refine own_via (S' := T63.setTop (mkF m 173 #[.val (.int p1), .val (.long q2), .second, .val (.int p3), .val (.long q4), .second, .val (.int p5), .val (.long q6), .second, .val (.long (q4 ^^^ q6)), .second, .val (.ref b1), .val (.ref b17), .val (.ref b35), .val (.int (1 : Int32)), .val (.int (1 : Int32)), .val (.int (1 : Int32))] [(.int (1 : Int32))])) (fun t k => ?_) ?_
    · show Steps p.tables e below (T63.setTop (mkF m 168 #[.val (.int p1), .val (.long q2), .second, .val (.int p3), .val (.long q4), .second, .val (.int p5), .val (.long q6), .second, .val (.long (q4 ^^^ q6)), .second, .val (.ref b1), .val (.ref b17), .val (.ref b35), .val (.int (1 : Int32)), .val (.int (1 : Int32)), .val (.int (1 : Int32))] [])) t
      refine XS.iconst X63.here hx rfl (hb hby at_168) ?_
      show Steps p.tables e below (T63.setTop (mkF m 169 #[.val (.int p1), .val (.long q2), .second, .val (.int p3), .val (.long q4), .second, .val (.int p5), .val (.long q6), .second, .val (.long (q4 ^^^ q6)), .second, .val (.ref b1), .val (.ref b17), .val (.ref b35), .val (.int (1 : Int32)), .val (.int (1 : Int32)), .val (.int (1 : Int32))] [(.int (1 : Int32))])) t
      refine XS.goto X63.here hx rfl (pc0 := 169) (pc' := 173) rfl (hb hby at_169) (by decide) (by decide) ?_
      exact k
    exact own_endW (h := T51.heap) X63 hS38 (v := some (.int (1 : Int32))) Bd.notSynchronized (fun h => by rw [Bd.returns] at h; cases h) (fun fs hr => retN X63 hx (t := .boolean) Bd.returns (by simp) (hb hby at_173) hr) hh63 (by rw [hh63]; exact (Nat.le_trans hk38 Kc51.1)) ⟨rfl, N63⟩ (by decide) (by decide)
set_option maxRecDepth 65536 in
set_option maxHeartbeats 40000000 in
theorem comes_1 {Post : Tables → Env → Array Value → State → Outcome → State → Prop} (hpost : ∀ tb e args s v u, (limb_1_1.after args s (.returned v) u = true ∧ limb_1_2.after args s (.returned v) u = true ∧ True) → ReturnedEndW s (.returned v) u (Jvm.fieldLocs frame_1_writes args s ++ Jvm.arrayLocs frame_1_arrays args s ++ Jvm.staticLocs frame_1_statics s) 24 4288 → Post tb e args s (.returned v) u) :
    ArmFor flags0 classFile x code maxLocals ret World_1 tables_1 room_1 Calls_1 rest_1 Pre_1 Post := by
  intro l hfl _ _ p e ha hc hk s m args below hf hA hF happ hP
  obtain ⟨hcalls, hrest, hpre⟩ := hP
  obtain ⟨-, -, -, hnamed, -, -, -, hat⟩ := (Spec.applies_iff hf).mp happ
  obtain ⟨hg, hn⟩ := and_e (Cond.before_iff.mp (show (Jvm.Cond.and given_1 narrow_1).before args s = true from hpre))
  obtain ⟨hcount, hg0⟩ := and_e hg
  obtain ⟨ga0, hg1⟩ := and_e hg0
  obtain ⟨ga1, hg2⟩ := and_e hg1
  obtain ⟨ga2, hg3⟩ := and_e hg2
  obtain ⟨ga3, hg4⟩ := and_e hg3
  obtain ⟨ga4, hg5⟩ := and_e hg4
  have ga5 := hg5
  obtain ⟨w0, w1, w2, w3, w4, w5, rfl⟩ : ∃ w0 w1 w2 w3 w4 w5 : Value, args = #[w0, w1, w2, w3, w4, w5] := by
    have hs : args.size = 6 := by simpa [Cond.value, given_1] using hcount
    obtain ⟨L⟩ := args
    match L, hs with
    | [w0, w1, w2, w3, w4, w5], _ => exact ⟨w0, w1, w2, w3, w4, w5, rfl⟩
  have hw := fun d (hd : d ∈ tables_1) => atoms_spec (ws := Jvm.Cond.code x code maxLocals ret :: tables_1) hat d (List.mem_cons_of_mem _ hd)
  obtain ⟨i0, ei0⟩ := is_v ga0
  obtain rfl : w0 = (.int i0) := Option.some.inj ei0
  obtain ⟨i1, ei1⟩ := isL_v ga1
  obtain rfl : w1 = (.long i1) := Option.some.inj ei1
  obtain ⟨i2, ei2⟩ := is_v ga2
  obtain rfl : w2 = (.int i2) := Option.some.inj ei2
  obtain ⟨i3, ei3⟩ := isL_v ga3
  obtain rfl : w3 = (.long i3) := Option.some.inj ei3
  obtain ⟨i4, ei4⟩ := is_v ga4
  obtain rfl : w4 = (.int i4) := Option.some.inj ei4
  obtain ⟨i5, ei5⟩ := isL_v ga5
  obtain rfl : w5 = (.long i5) := Option.some.inj ei5
  obtain ⟨n, o, h1, h2, h3, _, L, rfl, ⟨rfl, N⟩, hq⟩ := rm0 l s _ hw tables_1 i0 i1 i2 i3 i4 i5  s.heap s.heap.size (Nat.le_refl _)  p e ha hc hk s m _ below hf ((Spec.applies_iff_loose hf).mp happ).1 ⟨rfl, State.Warmed39.refl s, rfl⟩ trivial
  refine ⟨n, _, h1, h2, h3, hpost _ _ _ _ _ _ ⟨Cond.after_iff.mpr rfl, Cond.after_iff.mpr (eq_i res_at (Term.int_eval (1)) rfl), trivial⟩ ⟨hq.1, hq.2.1, hq.2.2.1, (hq.2.2.2.sift fun y hy => Or.inr (N y hy)).mono (by decide) (by decide)⟩⟩
theorem main_1_1 : Claimed_1_1 := comes_1 fun _ _ _ _ _ _ h hF => ⟨h.1, hF⟩
theorem main_1_2 : Claimed_1_2 := comes_1 fun _ _ _ _ _ _ h hF => ⟨h.2.1, hF⟩
end Jvm.Pilot.@@N@@
namespace Jvm.Pilot.@@N@@
open Jvm Jvm.ClassFile Sem Op Lib Jvm.Free Jvm.Stand Jvm.Pilot.@@N@@.Jvm.D
/-! MADE BY PROGRAM (witnessworld.py) out of the Statement's table words and the real class files: 15 classes; the members and pool entries that the words name. The judged class is class 1, her method 2. -/
namespace start1
open Jvm.ClassFile
def u (s : String) : CpInfo := .utf8 (stringToUtf16 s)
/-- a pool by its gaps: so many unusable entries, then the entry; so many at the end -/
def gap : Nat → List CpInfo → List CpInfo
  | 0, r => r
  | n + 1, r => .unusable :: gap n r
def poolList (es : List (Nat × CpInfo)) (last : Nat) : List CpInfo := es.foldr (fun e r => gap e.1 (e.2 :: r)) (gap last [])
def pool (es : List (Nat × CpInfo)) (last : Nat) : Array CpInfo := ⟨poolList es last⟩
def fileOf (pool : Array CpInfo) (this : Nat) (attrs : Array Attribute := #[]) (ms : Array MethodInfo := #[]) (fl : Nat := 33) (sup : Nat := 0) (ifs : Array Nat := #[]) (fds : Array FieldInfo := #[]) : ClassFile where
  minorVersion := 0
  majorVersion := 65
  constantPool := pool
  accessFlags := fl
  thisClass := this
  superClass := sup
  interfaces := ifs
  fields := fds
  methods := ms
  attributes := attrs
def plain (name : String) (sup : Option ClassId) : Class where
  name := name
  kind := .ordinary
  loader := none
  accessFlags := 33
  super := sup
  interfaces := #[]
  cf := none
  fields := #[]
  methods := #[]
  instanceTypes := #[]
  staticTypes := #[]
  resolved := #[]
  callSites := []
  init := .initialized
  statics := none
  mirror := none

def pool0 : Array CpInfo := pool [(5, u "<init>"), (0, u "()V"), (1, .class_ 10), (1, u "java/lang/Object")] 113

def k0c0 : Code := { maxStack := 0, maxLocals := 1, code := object_method_1_code, exceptionTable := #[], attributes := #[] }
def k0m0 : Method := { name := "<init>", desc := "()V", sig := { parameters := [], returnType := none }, accessFlags := 1, code := some k0c0 }
/-- java/lang/Object -/
def k0 : Class := { plain "java/lang/Object" none with
  accessFlags := 33
  interfaces := #[]
  cf := some (fileOf pool0 8 #[] #[{ accessFlags := 1, nameIndex := 5, descriptorIndex := 6, attributes := #[] }] 33 0 #[] #[])
  fields := #[]
  methods := #[k0m0]
  instanceTypes := #[]
  staticTypes := #[]
  resolved := Array.replicate 124 none
  statics := none }

def pool1 : Array CpInfo := pool [(2, .class_ 4), (1, u "java/lang/Object"), (0, u "<init>"), (0, u "()V"), (0, .class_ 8), (0, u "com/example/qiantang/qiantang/protocol/PullMessageRequest"), (0, .string 10), (0, u "g"), (0, .string 12), (0, u "t"), (0, .methodref 7 14), (0, .nameAndType 5 15), (0, u "(Ljava/lang/String;Ljava/lang/String;IJIIJJJLjava/lang/String;Ljava/lang/String;)V"), (0, .string 17), (0, u "s"), (0, .string 19), (0, u "TAG"), (0, .methodref 7 21), (0, .nameAndType 22 23), (0, u "suspends"), (0, u "()Z"), (0, .methodref 25 26), (0, .class_ 27), (0, .nameAndType 28 29), (0, u "com/example/qiantang/qiantang/protocol/PullMessageRequestSuspendsPinLaw"), (0, u "expected"), (0, u "(IJ)Z"), (3, u "law"), (0, u "(IJIJIJ)Z")] 2

def k1m0 : Method := { name := "<init>", desc := "()V", sig := { parameters := [], returnType := none }, accessFlags := 1, code := none }
def k1c1 : Code := { maxStack := 4, maxLocals := 5, code := method_2_code, exceptionTable := #[], attributes := #[] }
def k1m1 : Method := { name := "expected", desc := "(IJ)Z", sig := { parameters := [.int, .long], returnType := some .boolean }, accessFlags := 10, code := some k1c1 }
def k1c2 : Code := { maxStack := 17, maxLocals := 17, code := code, exceptionTable := #[], attributes := #[] }
def k1m2 : Method := { name := "law", desc := "(IJIJIJ)Z", sig := { parameters := [.int, .long, .int, .long, .int, .long], returnType := some .boolean }, accessFlags := 9, code := some k1c2 }
/-- com/example/qiantang/qiantang/protocol/PullMessageRequestSuspendsPinLaw -/
def k1 : Class := { plain "com/example/qiantang/qiantang/protocol/PullMessageRequestSuspendsPinLaw" (some 0) with
  accessFlags := 49
  interfaces := #[]
  cf := some (fileOf pool1 25 #[] #[{ accessFlags := 1, nameIndex := 5, descriptorIndex := 6, attributes := #[] }, { accessFlags := 10, nameIndex := 28, descriptorIndex := 29, attributes := #[] }, { accessFlags := 9, nameIndex := 33, descriptorIndex := 34, attributes := #[] }] 49 2 #[] #[])
  fields := #[]
  methods := #[k1m0, k1m1, k1m2]
  instanceTypes := #[]
  staticTypes := #[]
  resolved := Array.replicate 37 none
  statics := none }

def pool2 : Array CpInfo := pool [(1, .methodref 2 3), (0, .class_ 4), (0, .nameAndType 5 6), (0, u "java/lang/Object"), (0, u "<init>"), (0, u "()V"), (0, .class_ 8), (0, u "java/lang/Record")] 13

def k2c0 : Code := { maxStack := 1, maxLocals := 1, code := jdk_30_method_1_code, exceptionTable := #[], attributes := #[] }
def k2m0 : Method := { name := "<init>", desc := "()V", sig := { parameters := [], returnType := none }, accessFlags := 4, code := some k2c0 }
/-- java/lang/Record -/
def k2 : Class := { plain "java/lang/Record" (some 0) with
  accessFlags := 1057
  interfaces := #[]
  cf := some (fileOf pool2 7 #[] #[{ accessFlags := 4, nameIndex := 5, descriptorIndex := 6, attributes := #[] }] 1057 2 #[] #[])
  fields := #[]
  methods := #[k2m0]
  instanceTypes := #[]
  staticTypes := #[]
  resolved := Array.replicate 22 none
  statics := none }

def pool3 : Array CpInfo := pool [(1, .methodref 2 3), (0, .class_ 4), (0, .nameAndType 5 6), (0, u "java/lang/Record"), (0, u "<init>"), (0, u "()V"), (0, .fieldref 8 9), (0, .class_ 10), (0, .nameAndType 11 12), (0, u "com/example/qiantang/qiantang/protocol/PullMessageRequest"), (0, u "consumerGroup"), (0, u "Ljava/lang/String;"), (0, .fieldref 8 14), (0, .nameAndType 15 12), (0, u "topic"), (0, .fieldref 8 17), (0, .nameAndType 18 19), (0, u "queueId"), (0, u "I"), (0, .fieldref 8 21), (0, .nameAndType 22 23), (0, u "queueOffset"), (0, u "J"), (0, .fieldref 8 25), (0, .nameAndType 26 19), (0, u "maxMsgNums"), (0, .fieldref 8 28), (0, .nameAndType 29 19), (0, u "sysFlag"), (0, .fieldref 8 31), (0, .nameAndType 32 23), (0, u "commitOffset"), (0, .fieldref 8 34), (0, .nameAndType 35 23), (0, u "suspendTimeoutMillis"), (0, .fieldref 8 37), (0, .nameAndType 38 23), (0, u "subVersion"), (0, .fieldref 8 40), (0, .nameAndType 41 12), (0, u "subscription"), (0, .fieldref 8 43), (0, .nameAndType 44 12), (0, u "expressionType"), (2, u "(Ljava/lang/String;Ljava/lang/String;IJIIJJJLjava/lang/String;Ljava/lang/String;)V"), (65, u "FLAG_COMMIT_OFFSET"), (2, u "FLAG_SUSPEND"), (1, u "FLAG_SUBSCRIPTION"), (1, u "CONSUMER_GROUP"), (0, u "TOPIC"), (0, u "QUEUE_ID"), (0, u "QUEUE_OFFSET"), (0, u "MAX_MSG_NUMS"), (0, u "SYS_FLAG"), (0, u "COMMIT_OFFSET"), (0, u "SUSPEND_TIMEOUT_MILLIS"), (0, u "SUB_VERSION"), (0, u "SUBSCRIPTION"), (0, u "EXPRESSION_TYPE"), (14, u "suspends"), (0, u "()Z")] 39

def k3c0 : Code := { maxStack := 3, maxLocals := 16, code := prog_40_method_2_code, exceptionTable := #[], attributes := #[] }
def k3m0 : Method := { name := "<init>", desc := "(Ljava/lang/String;Ljava/lang/String;IJIIJJJLjava/lang/String;Ljava/lang/String;)V", sig := { parameters := [(.object "java/lang/String"), (.object "java/lang/String"), .int, .long, .int, .int, .long, .long, .long, (.object "java/lang/String"), (.object "java/lang/String")], returnType := none }, accessFlags := 1, code := some k3c0 }
def k3c1 : Code := { maxStack := 4, maxLocals := 1, code := prog_40_method_4_code, exceptionTable := #[], attributes := #[] }
def k3m1 : Method := { name := "suspends", desc := "()Z", sig := { parameters := [], returnType := some .boolean }, accessFlags := 1, code := some k3c1 }
/-- com/example/qiantang/qiantang/protocol/PullMessageRequest -/
def k3 : Class := { plain "com/example/qiantang/qiantang/protocol/PullMessageRequest" (some 2) with
  accessFlags := 49
  interfaces := #[]
  cf := some (fileOf pool3 8 #[] #[{ accessFlags := 1, nameIndex := 5, descriptorIndex := 47, attributes := #[] }, { accessFlags := 1, nameIndex := 145, descriptorIndex := 146, attributes := #[] }] 49 2 #[] #[{ accessFlags := 18, nameIndex := 11, descriptorIndex := 12, attributes := #[] }, { accessFlags := 18, nameIndex := 15, descriptorIndex := 12, attributes := #[] }, { accessFlags := 18, nameIndex := 18, descriptorIndex := 19, attributes := #[] }, { accessFlags := 18, nameIndex := 22, descriptorIndex := 23, attributes := #[] }, { accessFlags := 18, nameIndex := 26, descriptorIndex := 19, attributes := #[] }, { accessFlags := 18, nameIndex := 29, descriptorIndex := 19, attributes := #[] }, { accessFlags := 18, nameIndex := 32, descriptorIndex := 23, attributes := #[] }, { accessFlags := 18, nameIndex := 35, descriptorIndex := 23, attributes := #[] }, { accessFlags := 18, nameIndex := 38, descriptorIndex := 23, attributes := #[] }, { accessFlags := 18, nameIndex := 41, descriptorIndex := 12, attributes := #[] }, { accessFlags := 18, nameIndex := 44, descriptorIndex := 12, attributes := #[] }, { accessFlags := 25, nameIndex := 113, descriptorIndex := 19, attributes := #[] }, { accessFlags := 25, nameIndex := 116, descriptorIndex := 19, attributes := #[] }, { accessFlags := 25, nameIndex := 118, descriptorIndex := 19, attributes := #[] }, { accessFlags := 26, nameIndex := 120, descriptorIndex := 12, attributes := #[] }, { accessFlags := 26, nameIndex := 121, descriptorIndex := 12, attributes := #[] }, { accessFlags := 26, nameIndex := 122, descriptorIndex := 12, attributes := #[] }, { accessFlags := 26, nameIndex := 123, descriptorIndex := 12, attributes := #[] }, { accessFlags := 26, nameIndex := 124, descriptorIndex := 12, attributes := #[] }, { accessFlags := 26, nameIndex := 125, descriptorIndex := 12, attributes := #[] }, { accessFlags := 26, nameIndex := 126, descriptorIndex := 12, attributes := #[] }, { accessFlags := 26, nameIndex := 127, descriptorIndex := 12, attributes := #[] }, { accessFlags := 26, nameIndex := 128, descriptorIndex := 12, attributes := #[] }, { accessFlags := 26, nameIndex := 129, descriptorIndex := 12, attributes := #[] }, { accessFlags := 26, nameIndex := 130, descriptorIndex := 12, attributes := #[] }])
  fields := #[{ name := "consumerGroup", type := (.object "java/lang/String"), accessFlags := 18, slot := 0, constantValue := 0 }, { name := "topic", type := (.object "java/lang/String"), accessFlags := 18, slot := 1, constantValue := 0 }, { name := "queueId", type := .int, accessFlags := 18, slot := 2, constantValue := 0 }, { name := "queueOffset", type := .long, accessFlags := 18, slot := 3, constantValue := 0 }, { name := "maxMsgNums", type := .int, accessFlags := 18, slot := 4, constantValue := 0 }, { name := "sysFlag", type := .int, accessFlags := 18, slot := 5, constantValue := 0 }, { name := "commitOffset", type := .long, accessFlags := 18, slot := 6, constantValue := 0 }, { name := "suspendTimeoutMillis", type := .long, accessFlags := 18, slot := 7, constantValue := 0 }, { name := "subVersion", type := .long, accessFlags := 18, slot := 8, constantValue := 0 }, { name := "subscription", type := (.object "java/lang/String"), accessFlags := 18, slot := 9, constantValue := 0 }, { name := "expressionType", type := (.object "java/lang/String"), accessFlags := 18, slot := 10, constantValue := 0 }, { name := "FLAG_COMMIT_OFFSET", type := .int, accessFlags := 25, slot := 0, constantValue := 0 }, { name := "FLAG_SUSPEND", type := .int, accessFlags := 25, slot := 1, constantValue := 0 }, { name := "FLAG_SUBSCRIPTION", type := .int, accessFlags := 25, slot := 2, constantValue := 0 }, { name := "CONSUMER_GROUP", type := (.object "java/lang/String"), accessFlags := 26, slot := 3, constantValue := 0 }, { name := "TOPIC", type := (.object "java/lang/String"), accessFlags := 26, slot := 4, constantValue := 0 }, { name := "QUEUE_ID", type := (.object "java/lang/String"), accessFlags := 26, slot := 5, constantValue := 0 }, { name := "QUEUE_OFFSET", type := (.object "java/lang/String"), accessFlags := 26, slot := 6, constantValue := 0 }, { name := "MAX_MSG_NUMS", type := (.object "java/lang/String"), accessFlags := 26, slot := 7, constantValue := 0 }, { name := "SYS_FLAG", type := (.object "java/lang/String"), accessFlags := 26, slot := 8, constantValue := 0 }, { name := "COMMIT_OFFSET", type := (.object "java/lang/String"), accessFlags := 26, slot := 9, constantValue := 0 }, { name := "SUSPEND_TIMEOUT_MILLIS", type := (.object "java/lang/String"), accessFlags := 26, slot := 10, constantValue := 0 }, { name := "SUB_VERSION", type := (.object "java/lang/String"), accessFlags := 26, slot := 11, constantValue := 0 }, { name := "SUBSCRIPTION", type := (.object "java/lang/String"), accessFlags := 26, slot := 12, constantValue := 0 }, { name := "EXPRESSION_TYPE", type := (.object "java/lang/String"), accessFlags := 26, slot := 13, constantValue := 0 }]
  methods := #[k3m0, k3m1]
  instanceTypes := #[(.object "java/lang/String"), (.object "java/lang/String"), .int, .long, .int, .int, .long, .long, .long, (.object "java/lang/String"), (.object "java/lang/String")]
  staticTypes := #[.int, .int, .int, (.object "java/lang/String"), (.object "java/lang/String"), (.object "java/lang/String"), (.object "java/lang/String"), (.object "java/lang/String"), (.object "java/lang/String"), (.object "java/lang/String"), (.object "java/lang/String"), (.object "java/lang/String"), (.object "java/lang/String"), (.object "java/lang/String")]
  resolved := Array.replicate 186 none
  statics := none }

def pool4 : Array CpInfo := pool [(1, .class_ 2), (0, u "java/io/Serializable"), (0, .class_ 4), (0, u "java/lang/Object")] 2

/-- java/io/Serializable -/
def k4 : Class := { plain "java/io/Serializable" (some 0) with
  accessFlags := 1537
  interfaces := #[]
  cf := some (fileOf pool4 1 #[] #[] 1537 3 #[] #[])
  fields := #[]
  methods := #[]
  instanceTypes := #[]
  staticTypes := #[]
  resolved := Array.replicate 7 none
  statics := none }

def pool5 : Array CpInfo := pool [(1, .class_ 2), (0, u "java/lang/Comparable"), (0, .class_ 4), (0, u "java/lang/Object")] 7

/-- java/lang/Comparable -/
def k5 : Class := { plain "java/lang/Comparable" (some 0) with
  accessFlags := 1537
  interfaces := #[]
  cf := some (fileOf pool5 1 #[] #[] 1537 3 #[] #[])
  fields := #[]
  methods := #[]
  instanceTypes := #[]
  staticTypes := #[]
  resolved := Array.replicate 12 none
  statics := none }

def pool6 : Array CpInfo := pool [(2, .class_ 4), (1, u "java/lang/CharSequence"), (42, .class_ 48), (0, u "java/lang/CharSequence$1CodePointIterator"), (10, .class_ 60), (0, u "java/lang/CharSequence$1CharIterator"), (5, .class_ 67), (0, u "java/lang/Object")] 63

/-- java/lang/CharSequence -/
def k6 : Class := { plain "java/lang/CharSequence" (some 0) with
  accessFlags := 1537
  interfaces := #[]
  cf := some (fileOf pool6 2 #[.nestMembers #[47, 59]] #[] 1537 66 #[] #[])
  fields := #[]
  methods := #[]
  instanceTypes := #[]
  staticTypes := #[]
  resolved := Array.replicate 131 none
  statics := none }

def pool7 : Array CpInfo := pool [(1, .class_ 2), (0, u "java/lang/constant/Constable"), (0, .class_ 4), (0, u "java/lang/Object")] 6

/-- java/lang/constant/Constable -/
def k7 : Class := { plain "java/lang/constant/Constable" (some 0) with
  accessFlags := 1537
  interfaces := #[]
  cf := some (fileOf pool7 1 #[] #[] 1537 3 #[] #[])
  fields := #[]
  methods := #[]
  instanceTypes := #[]
  staticTypes := #[]
  resolved := Array.replicate 11 none
  statics := none }

def pool8 : Array CpInfo := pool [(1, .class_ 2), (0, u "java/lang/constant/ConstantDesc"), (0, .class_ 4), (0, u "java/lang/Object")] 32

/-- java/lang/constant/ConstantDesc -/
def k8 : Class := { plain "java/lang/constant/ConstantDesc" (some 0) with
  accessFlags := 1537
  interfaces := #[]
  cf := some (fileOf pool8 1 #[] #[] 1537 3 #[] #[])
  fields := #[]
  methods := #[]
  instanceTypes := #[]
  staticTypes := #[]
  resolved := Array.replicate 37 none
  statics := none }

def pool9 : Array CpInfo := pool [(2, .class_ 4), (1, u "java/lang/Object"), (0, u "<init>"), (0, u "()V"), (3, .class_ 12), (1, u "java/lang/String"), (0, u "value"), (0, u "[B"), (2, u "coder"), (0, u "B"), (2, u "hash"), (0, u "I"), (2, u "hashIsZero"), (0, u "Z"), (13, u "COMPACT_STRINGS"), (534, .class_ 576), (0, u "java/lang/CharSequence"), (22, u "CASE_INSENSITIVE_ORDER"), (0, u "Ljava/util/Comparator;"), (500, u "serialPersistentFields"), (0, u "[Ljava/io/ObjectStreamField;"), (0, .class_ 1104), (0, u "java/lang/String$CaseInsensitiveComparator"), (1, .class_ 1107), (0, u "java/io/Serializable"), (0, .class_ 1109), (0, u "java/lang/Comparable"), (0, .class_ 1111), (0, u "java/lang/constant/Constable"), (0, .class_ 1113), (0, u "java/lang/constant/ConstantDesc"), (2, u "serialVersionUID"), (0, u "J"), (3, u "REPL"), (0, u "C"), (2, u "LATIN1"), (1, u "UTF16")] 323

def k9m0 : Method := { name := "<init>", desc := "()V", sig := { parameters := [], returnType := none }, accessFlags := 1, code := none }
/-- java/lang/String -/
def k9 : Class := { plain "java/lang/String" (some 0) with
  accessFlags := 49
  interfaces := #[4, 5, 6, 7, 8]
  cf := some (fileOf pool9 10 #[.nestMembers #[1103]] #[{ accessFlags := 1, nameIndex := 5, descriptorIndex := 6, attributes := #[] }] 49 2 #[1106, 1108, 575, 1110, 1112] #[{ accessFlags := 18, nameIndex := 13, descriptorIndex := 14, attributes := #[] }, { accessFlags := 18, nameIndex := 17, descriptorIndex := 18, attributes := #[] }, { accessFlags := 2, nameIndex := 21, descriptorIndex := 22, attributes := #[] }, { accessFlags := 2, nameIndex := 25, descriptorIndex := 26, attributes := #[] }, { accessFlags := 26, nameIndex := 1116, descriptorIndex := 1117, attributes := #[] }, { accessFlags := 24, nameIndex := 40, descriptorIndex := 26, attributes := #[] }, { accessFlags := 26, nameIndex := 1101, descriptorIndex := 1102, attributes := #[] }, { accessFlags := 26, nameIndex := 1121, descriptorIndex := 1122, attributes := #[] }, { accessFlags := 25, nameIndex := 599, descriptorIndex := 600, attributes := #[] }, { accessFlags := 24, nameIndex := 1125, descriptorIndex := 18, attributes := #[] }, { accessFlags := 24, nameIndex := 1127, descriptorIndex := 18, attributes := #[] }])
  fields := #[{ name := "value", type := (.array .byte), accessFlags := 18, slot := 0, constantValue := 0 }, { name := "coder", type := .byte, accessFlags := 18, slot := 1, constantValue := 0 }, { name := "hash", type := .int, accessFlags := 2, slot := 2, constantValue := 0 }, { name := "hashIsZero", type := .boolean, accessFlags := 2, slot := 3, constantValue := 0 }, { name := "serialVersionUID", type := .long, accessFlags := 26, slot := 0, constantValue := 0 }, { name := "COMPACT_STRINGS", type := .boolean, accessFlags := 24, slot := 1, constantValue := 0 }, { name := "serialPersistentFields", type := (.array (.object "java/io/ObjectStreamField")), accessFlags := 26, slot := 2, constantValue := 0 }, { name := "REPL", type := .char, accessFlags := 26, slot := 3, constantValue := 0 }, { name := "CASE_INSENSITIVE_ORDER", type := (.object "java/util/Comparator"), accessFlags := 25, slot := 4, constantValue := 0 }, { name := "LATIN1", type := .byte, accessFlags := 24, slot := 5, constantValue := 0 }, { name := "UTF16", type := .byte, accessFlags := 24, slot := 6, constantValue := 0 }]
  methods := #[k9m0]
  instanceTypes := #[(.array .byte), .byte, .int, .boolean]
  staticTypes := #[.long, .boolean, (.array (.object "java/io/ObjectStreamField")), .char, (.object "java/util/Comparator"), .byte, .byte]
  resolved := Array.replicate 1451 none
  statics := none }

def pool10 : Array CpInfo := pool [(1, u "java/lang/Cloneable"), (0, .class_ 1), (0, u "java/lang/Object"), (0, .class_ 3)] 3

/-- java/lang/Cloneable -/
def k10 : Class := { plain "java/lang/Cloneable" (some 0) with
  accessFlags := 1537
  interfaces := #[]
  cf := some (fileOf pool10 2 #[] #[] 1537 4 #[] #[])
  fields := #[]
  methods := #[]
  instanceTypes := #[]
  staticTypes := #[]
  resolved := Array.replicate 8 none
  statics := none }

/-- the primitive byte -/
def k11 : Class := { plain "byte" none with kind := .primitive 'B', accessFlags := 0x411 }
/-- [B -/
def k12 : Class := { plain "[B" (some 0) with kind := .array 11 .byte, interfaces := #[10, 4], accessFlags := 1041 }

/-- the primitive int -/
def k13 : Class := { plain "int" none with kind := .primitive 'I', accessFlags := 0x411 }
/-- [I -/
def k14 : Class := { plain "[I" (some 0) with kind := .array 13 .int, interfaces := #[10, 4], accessFlags := 1041 }

def heap : Heap := #[]
def classes : Array Class := #[k0, k1, k2, k3, k4, k5, k6, k7, k8, k9, k10, k11, k12, k13, k14]
def interned : List (Array UInt16 × Addr) := []
def slotsUsed : Nat := 0
def theMethod : MethodId := ⟨1, 2⟩
def args0 : Array Value := #[.int 3, .long 1, .int 2, .long 2, .int 2, .long 2]
def aboutOver (below : List Frame) : State where
  vm := { classes := classes, interned := interned.toArray }
  heap := heap
  slotsUsed := slotsUsed
  threads := #[{ frames := .invoking theMethod args0 :: below }]
def below0 : List Frame := [.native { method := ⟨0, 0⟩, args := #[] }]
def about1 : State := aboutOver below0
def p0 : Program := .bare "" "" ""
def e0 : Env := launch0.env 0 0 0
theorem w_frames : about1.frames = Frame.invoking theMethod args0 :: below0 := rfl
set_option maxRecDepth 65536 in
theorem w_args : argsFit about1.vm theMethod args0 = true := by decide +kernel
set_option maxRecDepth 65536 in
theorem w_heap : heapFits about1 = true := by decide +kernel
set_option maxRecDepth 65536 in
theorem w_runnable : about1.curStatus? = some .runnable := by decide +kernel
set_option maxRecDepth 65536 in
theorem w_alone : about1.alone = true := by decide +kernel
set_option maxRecDepth 65536 in
theorem w_named : about1.methodNamed? x = some theMethod := by decide +kernel
set_option maxRecDepth 65536 in
theorem w_hears : about1.hears theMethod below0 = true := by decide +kernel
set_option maxRecDepth 65536 in
theorem w_ripe : about1.ripe theMethod args0 below0 = true := by decide +kernel
theorem w_running : about1.status = .running := rfl
set_option maxRecDepth 65536 in
theorem w_room : about1.hasRoom e0.platform room_1 = true :=
  launch0.hasRoom_least _ room_1 (by decide +kernel) (by decide +kernel) (by decide +kernel) (by decide +kernel) (by decide +kernel) (by decide +kernel)
theorem allAtoms_all (ts : List Jvm.Cond) (a : Array Jvm.Value) (st : Jvm.State) : (allAtoms ts).before a st = ts.all (fun c => c.before a st) := by
  induction ts with
  | nil => rfl
  | cons c t ih =>
    show (Jvm.Cond.and c (allAtoms t)).before a st = _
    rw [Jvm.Cond.before_and, ih, List.all_cons]
def words1 : List Jvm.Cond := Jvm.Cond.code x code maxLocals ret :: tables_1
/-- a 'code' word, met by the world's own term for the bytes: nothing is compared byte by byte -/
theorem code_word {y : MethodName} {bytes : ByteArray} {mx : Nat} {rt : Option FieldType} {a : Array Value} {s : State} {m : MethodId} {meth : Method} {c : Code} (h1 : s.methodNamed? y = some m) (h2 : s.vm.method? m = some meth) (h3 : meth.code = some c) (h4 : c.code = bytes)
    (h5 : (c.maxLocals == mx && c.exceptionTable.isEmpty && decide (c.maxStack ≤ mostOperands) && decide (meth.sig.returnType = rt) && !meth.locks && decide (parseMethodDescriptor y.desc = some meth.sig)) = true) : (Jvm.Cond.code y bytes mx rt).before a s = true := by
  simp only [Bool.and_eq_true, beq_iff_eq, Bool.not_eq_true', decide_eq_true_eq] at h5
  obtain ⟨⟨⟨⟨⟨g1, g2⟩, g3⟩, g4⟩, g5⟩, g6⟩ := h5
  simp [Cond.before, Cond.holds, Cond.value, h1, h2, h3, h4, g1, g2, g3, g4, g5, g6]
def isCode : Jvm.Cond → Bool
  | .code _ _ _ _ => true
  | _ => false
theorem all_split {L : List Jvm.Cond} {P : Jvm.Cond → Bool} (h1 : L.all (fun c => isCode c || P c) = true) (h2 : ∀ c ∈ L.filter isCode, P c = true) : L.all P = true := by
  refine List.all_eq_true.mpr fun c hc => ?_
  have h := List.all_eq_true.mp h1 c hc
  rcases Bool.eq_false_or_eq_true (isCode c) with hi | hi
  · exact h2 c (List.mem_filter.mpr ⟨hc, hi⟩)
  · simpa [hi] using h
set_option maxRecDepth 65536 in
theorem w_c0 : (Jvm.Cond.code x code maxLocals ret).before args0 about1 = true := code_word (m := ⟨1, 2⟩) (meth := k1m2) (c := k1c2) (by decide +kernel) rfl rfl rfl (by decide +kernel)
set_option maxRecDepth 65536 in
theorem w_c1 : (Jvm.Cond.code ({ cls := "com/example/qiantang/qiantang/protocol/PullMessageRequest", name := "<init>", desc := "(Ljava/lang/String;Ljava/lang/String;IJIIJJJLjava/lang/String;Ljava/lang/String;)V" } : Jvm.MethodName) prog_40_method_2_code (16 : Nat) (Option.none : Option Jvm.ClassFile.FieldType)).before args0 about1 = true := code_word (m := ⟨3, 0⟩) (meth := k3m0) (c := k3c0) (by decide +kernel) rfl rfl rfl (by decide +kernel)
set_option maxRecDepth 65536 in
theorem w_c2 : (Jvm.Cond.code ({ cls := "java/lang/Record", name := "<init>", desc := "()V" } : Jvm.MethodName) jdk_30_method_1_code (1 : Nat) (Option.none : Option Jvm.ClassFile.FieldType)).before args0 about1 = true := code_word (m := ⟨2, 0⟩) (meth := k2m0) (c := k2c0) (by decide +kernel) rfl rfl rfl (by decide +kernel)
set_option maxRecDepth 65536 in
theorem w_c3 : (Jvm.Cond.code ({ cls := "java/lang/Object", name := "<init>", desc := "()V" } : Jvm.MethodName) object_method_1_code (1 : Nat) (Option.none : Option Jvm.ClassFile.FieldType)).before args0 about1 = true := code_word (m := ⟨0, 0⟩) (meth := k0m0) (c := k0c0) (by decide +kernel) rfl rfl rfl (by decide +kernel)
set_option maxRecDepth 65536 in
theorem w_c4 : (Jvm.Cond.code ({ cls := "com/example/qiantang/qiantang/protocol/PullMessageRequest", name := "suspends", desc := "()Z" } : Jvm.MethodName) prog_40_method_4_code (1 : Nat) (Option.some Jvm.ClassFile.FieldType.boolean)).before args0 about1 = true := code_word (m := ⟨3, 1⟩) (meth := k3m1) (c := k3c1) (by decide +kernel) rfl rfl rfl (by decide +kernel)
set_option maxRecDepth 65536 in
theorem w_c5 : (Jvm.Cond.code ({ cls := "com/example/qiantang/qiantang/protocol/PullMessageRequestSuspendsPinLaw", name := "expected", desc := "(IJ)Z" } : Jvm.MethodName) method_2_code (5 : Nat) (Option.some Jvm.ClassFile.FieldType.boolean)).before args0 about1 = true := code_word (m := ⟨1, 1⟩) (meth := k1m1) (c := k1c1) (by decide +kernel) rfl rfl rfl (by decide +kernel)
def codes1 : List Jvm.Cond := [Jvm.Cond.code x code maxLocals ret, Jvm.Cond.code ({ cls := "com/example/qiantang/qiantang/protocol/PullMessageRequest", name := "<init>", desc := "(Ljava/lang/String;Ljava/lang/String;IJIIJJJLjava/lang/String;Ljava/lang/String;)V" } : Jvm.MethodName) prog_40_method_2_code (16 : Nat) (Option.none : Option Jvm.ClassFile.FieldType), Jvm.Cond.code ({ cls := "java/lang/Record", name := "<init>", desc := "()V" } : Jvm.MethodName) jdk_30_method_1_code (1 : Nat) (Option.none : Option Jvm.ClassFile.FieldType), Jvm.Cond.code ({ cls := "java/lang/Object", name := "<init>", desc := "()V" } : Jvm.MethodName) object_method_1_code (1 : Nat) (Option.none : Option Jvm.ClassFile.FieldType), Jvm.Cond.code ({ cls := "com/example/qiantang/qiantang/protocol/PullMessageRequest", name := "suspends", desc := "()Z" } : Jvm.MethodName) prog_40_method_4_code (1 : Nat) (Option.some Jvm.ClassFile.FieldType.boolean), Jvm.Cond.code ({ cls := "com/example/qiantang/qiantang/protocol/PullMessageRequestSuspendsPinLaw", name := "expected", desc := "(IJ)Z" } : Jvm.MethodName) method_2_code (5 : Nat) (Option.some Jvm.ClassFile.FieldType.boolean)]
set_option maxRecDepth 65536 in
theorem codes_eq : words1.filter isCode = codes1 := rfl
theorem w_codes : ∀ c ∈ words1.filter isCode, c.before args0 about1 = true := by
  rw [codes_eq]
  intro c hc
  simp only [codes1, List.mem_cons, List.not_mem_nil, or_false] at hc
  rcases hc with rfl | rfl | rfl | rfl | rfl | rfl
  · exact w_c0
  · exact w_c1
  · exact w_c2
  · exact w_c3
  · exact w_c4
  · exact w_c5
set_option maxRecDepth 65536 in
theorem w_t1 : (words1.take 24).all (fun c => isCode c || c.before args0 about1) = true := by decide +kernel
set_option maxRecDepth 65536 in
theorem w_t2 : ((words1.drop 24).take 24).all (fun c => isCode c || c.before args0 about1) = true := by decide +kernel
set_option maxRecDepth 65536 in
theorem w_t3 : ((words1.drop 24).drop 24).all (fun c => isCode c || c.before args0 about1) = true := by decide +kernel
theorem w_tables : (allAtoms (Jvm.Cond.code x code maxLocals ret :: tables_1)).before args0 about1 = true := by
  rw [allAtoms_all]
  show words1.all (fun c => c.before args0 about1) = true
  refine all_split ?_ w_codes
  rw [← List.take_append_drop 24 words1, List.all_append, w_t1, ← List.take_append_drop 24 (words1.drop 24), List.all_append, w_t2, w_t3]
  rfl
set_option maxRecDepth 65536 in
theorem w_case : (Jvm.Cond.and given_1 narrow_1).before args0 about1 = true := by decide +kernel
theorem w_applies : (headSpec (Jvm.Cond.code x code maxLocals ret :: tables_1) room_1).applies x e0.platform about1 = true :=
  (Spec.applies_iff w_frames).mpr ⟨w_running, w_runnable, w_alone, w_named, w_hears, w_ripe, w_room, w_tables⟩
theorem atStart : AtStart classFile x code maxLocals ret World_1 tables_1 room_1 Calls_1 rest_1 Pre_1 launch0 p0 e0 about1 theMethod args0 below0 :=
  ⟨lists_1, trivial, launch0.admits_env _ _ _, launch0.least_env, fairChoices_fair.cas, fairChoices_fair.clock, w_frames, w_args, w_heap, w_applies, trivial, trivial, w_case⟩
end start1
theorem witness_1 : WitnessClaimed_1 := ⟨start1.p0, start1.e0, start1.about1, start1.theMethod, start1.args0, start1.below0, start1.atStart⟩
end Jvm.Pilot.@@N@@
