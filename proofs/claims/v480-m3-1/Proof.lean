import JvmDerived
import JvmDerived.Pilot.@@N@@Statement
import JvmDerived.Pilot.@@N@@Code
set_option linter.unusedVariables false
set_option linter.unusedSimpArgs false
namespace Jvm.Pilot.@@N@@
open Jvm Jvm.ClassFile Sem Op Lib Jvm.Free Jvm.Stand Jvm.LawKit Jvm.RoadKit Bundle Jvm.Pilot.@@N@@.Jvm.D
/-- from S the body ends as Q says -/
def own_G (tb : Tables) (e : Env) (below : List Frame) (Q : State → Outcome → Prop) (S : State) : Prop := ∃ s₂ o, Steps tb e below S s₂ ∧ s₂.status = .running ∧ Ended s₂ below o ∧ Q s₂ o
theorem own_via {tb : Tables} {e : Env} {below : List Frame} {Q : State → Outcome → Prop} {S S' : State} (h : ∀ t, Steps tb e below S' t → Steps tb e below S t) (g : own_G tb e below Q S') : own_G tb e below Q S := by
  obtain ⟨t, o, k, r⟩ := g
  exact ⟨t, o, h t k, r⟩
def own_P (U : State) (Q : Option Value → Heap → List Loc → Prop) (cells slots : Nat) : State → Outcome → Prop := fun U' o => ∃ v L, o = .returned v ∧ Q v U'.heap L ∧ FrameEnd U o U' L cells slots
theorem own_end {p : Program} {l : Launch} {e : Env} {R : Room} {s : State} {m : MethodId} {args : Array Value} {below : List Frame} {meth : Method} {c : Code} {T : State} {locs : List Loc} {cells slots C S : Nat} {Q : Option Value → Heap → List Loc → Prop} {h : Heap} {G : State}
    (X : Stand p l e R s m args below meth c T locs cells slots) {v : Option Value} (hlk : meth.locks = false) (hv : meth.sig.returnType = none → v = none)
    (st : ∀ fs, (∀ (f : JFrame) (acts : List Action), f.method = m → f.locked = none → f.entered = [] → (doReturn e (T.setTop f) acts v).1 = T.setFrames fs) → Steps p.tables e below G (T.setFrames fs))
    (eT : T.heap = h) (hq : Q v h locs) (h1 : cells ≤ C) (h2 : slots ≤ S) : own_G p.tables e below (own_P s Q C S) G := by
  obtain ⟨fs, hr, hrun, hended, hW, hsame⟩ := X.leave (v := v) hv hlk
  exact ⟨_, _, st fs hr, hrun, hended, _, _, rfl, eT ▸ hq, ⟨_, rfl⟩, hW, hsame.mono h1 h2⟩
theorem own_fit {x : Int64} {P : Int} (e : (x.toInt - P) % 18446744073709551616 = 0) (h1 : -9223372036854775808 ≤ P) (h2 : P < 9223372036854775808) : x.toInt = P := by
  have b := rng64 x
  omega
theorem own_ne1 {y : Int64} (h : 0 < y.toInt) : y ≠ -1 := by
  rintro rfl; revert h; decide
theorem own_k1 (k n : Int32) (hn : 1 ≤ n.toInt ∧ n.toInt ≤ 65536) (hk : 0 ≤ k.toInt ∧ k.toInt < n.toInt) : (k + 1).toInt = k.toInt + 1 := by
  have e := c_iadd k 1
  rw [show (1 : Int32).toInt = 1 by decide] at e
  have b := rng32 (k + 1)
  omega
theorem own_pp (k n : Int32) (c : Int64) (hn : 1 ≤ n.toInt ∧ n.toInt ≤ 65536) (hk : 0 ≤ k.toInt ∧ k.toInt < n.toInt) (hc : 0 ≤ c.toInt ∧ c.toInt < 140737488355328) :
    (c * (k + 1).toInt64).toInt = c.toInt * (k.toInt + 1) ∧ 0 ≤ c.toInt * (k.toInt + 1) ∧ c.toInt * (k.toInt + 1) ≤ c.toInt * n.toInt ∧ c.toInt * (k.toInt + 1) < 9223372036854775808 := by
  have e := c_lmul c (k + 1).toInt64
  rw [c_i2l, own_k1 k n hn hk] at e
  have h1 := Int.mul_nonneg hc.1 (show 0 ≤ k.toInt + 1 by omega)
  have h2 := Int.mul_le_mul_of_nonneg_left (show k.toInt + 1 ≤ n.toInt by omega) hc.1
  have h3 := Int.mul_le_mul_of_nonneg_left (show n.toInt ≤ 65536 by omega) hc.1
  have h4 : c.toInt * (k.toInt + 1) < 9223372036854775808 := by omega
  exact ⟨own_fit e (by omega) h4, h1, h2, h4⟩
theorem own_tt (k n : Int32) (c : Int64) (hn : 1 ≤ n.toInt ∧ n.toInt ≤ 65536) (hk : 0 ≤ k.toInt ∧ k.toInt < n.toInt) (hc : 0 ≤ c.toInt ∧ c.toInt < 140737488355328) :
    (c * (k + 1).toInt64 / n.toInt64).toInt = c.toInt * (k.toInt + 1) / n.toInt := by
  obtain ⟨p1, p2, p3, p4⟩ := own_pp k n c hn hk hc
  have h := (c_ldiv (c * (k + 1).toInt64) n.toInt64 n.toInt (c_i2l n) (own_ne1 (by rw [c_i2l]; omega))).1 (by omega)
  rw [h, p1]
theorem own_all (k n : Int32) (c t : Int64) (hn : 1 ≤ n.toInt ∧ n.toInt ≤ 65536) (hk : 0 ≤ k.toInt ∧ k.toInt < n.toInt) (hc : 0 ≤ c.toInt ∧ c.toInt < 140737488355328) (ht : t = c * (k + 1).toInt64 / n.toInt64) :
    ¬ t < 0 ∧ ¬ c < t ∧ ¬ c * (k + 1).toInt64 < t * n.toInt64 ∧ c * (k + 1).toInt64 - t * n.toInt64 < n.toInt64 ∧ (¬ k + 1 < n → t = c) := by
  obtain ⟨p1, p2, p3, p4⟩ := own_pp k n c hn hk hc
  have t1 := own_tt k n c hn hk hc
  rw [← ht] at t1
  have h3 := Int.ediv_mul_le (c.toInt * (k.toInt + 1)) (b := n.toInt) (by omega)
  have h4 : 0 ≤ (c.toInt * (k.toInt + 1)) / n.toInt := Int.ediv_nonneg p2 (by omega)
  have h5 := Int.lt_ediv_add_one_mul_self (c.toInt * (k.toInt + 1)) (b := n.toInt) (by omega)
  have h6 := Int.mul_nonneg h4 (show 0 ≤ n.toInt by omega)
  rw [Int.add_mul, Int.one_mul] at h5
  have h7 : c.toInt * (k.toInt + 1) / n.toInt ≤ c.toInt := by
    have := Int.ediv_le_ediv (c := n.toInt) (by omega) p3
    rwa [Int.mul_ediv_cancel _ (by omega)] at this
  have e8 := c_lmul t n.toInt64
  rw [c_i2l, t1] at e8
  have h8 := own_fit e8 (by omega) (by omega)
  have e9 := c_lsub (c * (k + 1).toInt64) (t * n.toInt64)
  rw [p1, h8] at e9
  have h9 := own_fit e9 (by omega) (by omega)
  refine ⟨?_, ?_, ?_, ?_, fun q => ?_⟩
  · rw [Int64.lt_iff_toInt_lt, t1, show (0 : Int64).toInt = 0 by decide]; omega
  · rw [Int64.lt_iff_toInt_lt, t1]; omega
  · rw [Int64.lt_iff_toInt_lt, p1, h8]; omega
  · rw [Int64.lt_iff_toInt_lt, h9, c_i2l]; omega
  · rw [Int32.lt_iff_toInt_lt, own_k1 k n hn hk] at q
    have hkn : k.toInt + 1 = n.toInt := by omega
    rw [hkn, Int.mul_ediv_cancel _ (by omega)] at t1
    exact Int64.toInt_inj.mp t1
theorem own_nz {n : Int32} (h : 1 ≤ n.toInt) : n ≠ 0 := by rintro rfl; revert h; decide
theorem own_nzL {n : Int32} (h : 1 ≤ n.toInt) : n.toInt64 ≠ 0 := fun q => by
  have e := c_i2l n
  rw [q, show (0 : Int64).toInt = 0 by decide] at e
  omega
theorem own_rem (x n : Int32) (h : 1 ≤ n.toInt) : 0 ≤ ((x &&& (2147483647 : Int32)) % n).toInt ∧ ((x &&& (2147483647 : Int32)) % n).toInt < n.toInt := by
  have h1 := c_mask x (2147483647 : Int32) 31 (by decide) (by decide)
  have h2 := (c_irem (x &&& (2147483647 : Int32)) n n.toInt rfl).1 (by omega)
  have h3 := Int.emod_nonneg (x &&& (2147483647 : Int32)).toInt (show n.toInt ≠ 0 by omega)
  have h4 := Int.emod_lt_of_pos (x &&& (2147483647 : Int32)).toInt (show 0 < n.toInt by omega)
  omega
theorem own_cnt (x : Int64) : 0 ≤ (x &&& (140737488355327 : Int64)).toInt ∧ (x &&& (140737488355327 : Int64)).toInt < 140737488355328 := by
  have h1 := c_maskL x (140737488355327 : Int64) 47 (by decide) (by decide)
  omega
theorem own_n (x : Int32) : 1 ≤ ((x &&& (65535 : Int32)) + (1 : Int32)).toInt ∧ ((x &&& (65535 : Int32)) + (1 : Int32)).toInt ≤ 65536 := by
  have h1 := c_mask x (65535 : Int32) 16 (by decide) (by decide)
  have e := c_iadd (x &&& (65535 : Int32)) 1
  rw [show (1 : Int32).toInt = 1 by decide] at e
  have b := rng32 ((x &&& (65535 : Int32)) + (1 : Int32))
  omega
theorem own_pre {w n : Int32} (h : 0 ≤ w.toInt ∧ w.toInt < n.toInt) : ¬ n < 1 ∧ ¬ w < 0 ∧ w < n := by
  rw [Int32.lt_iff_toInt_lt, Int32.lt_iff_toInt_lt, Int32.lt_iff_toInt_lt, show (1 : Int32).toInt = 1 by decide, show (0 : Int32).toInt = 0 by decide]
  omega
theorem own_pre1 {k n : Int32} (hn : 1 ≤ n.toInt ∧ n.toInt ≤ 65536) (hk : 0 ≤ k.toInt ∧ k.toInt < n.toInt) (h : k + 1 < n) : ¬ n < 1 ∧ ¬ k + 1 < 0 ∧ k + 1 < n := by
  refine ⟨(own_pre hk).1, ?_, h⟩
  rw [Int32.lt_iff_toInt_lt, own_k1 k n hn hk, show (0 : Int32).toInt = 0 by decide]
  omega
theorem d2_0 : decode jdk_30_method_1_code 0 = .ok (.aload_n 0, 1) := by decide +kernel
theorem d2_1 : decode jdk_30_method_1_code 1 = .ok (.invokespecial 1, 3) := by decide +kernel
theorem d2_4 : decode jdk_30_method_1_code 4 = .ok (.return_, 1) := by decide +kernel
theorem pn2 : plainName "java/lang/Record" = true := by first | (simp [plainName, overriddenIn]; done) | decide +kernel
theorem ef2 (m : MethodId) (x0 : Addr) : entryFrame m #[(.ref x0)] 1 = mkF m 0 #[.val (.ref x0)] [] := by first | (simp [entryFrame, mkF, argsToLocals, Value.category]; done) | rfl
def Q2 (Z : State) (a1 : Addr) (h0 : Heap) (n0 : Nat) (v : Option Value) (h : Heap) (L : List Loc) : Prop := v = none ∧ Fr n0 L ∧ h = h0
set_option maxRecDepth 65536 in
set_option maxHeartbeats 40000000 in
theorem rm2 (l : Launch) (Z : State) (a0 : Array Value) (hw : ∀ d ∈ tables_1, d.before a0 Z = true) (ws : List Jvm.Cond) (a1 : Addr) (h0 : Heap) (n0 : Nat) (Z0 : n0 ≤ h0.size) :
    MetFree l (⟨"java/lang/Record", "<init>", "()V"⟩ : MethodName) (head1 (Jvm.Cond.code (⟨"java/lang/Record", "<init>", "()V"⟩ : MethodName) jdk_30_method_1_code 1 none :: ws) ({ frames := 1, cells := 0, slots := 0, locals := 12 } : Room)) (fun a U => a = #[(.ref a1)] ∧ Z.Warmed39 U.vm ∧ U.heap = h0) (fun _ _ _ _ _ => True) (fun _ U o U' => ∃ v L, o = .returned v ∧ Q2 Z a1 h0 n0 v U'.heap L ∧ FrameEnd U o U' L ({ frames := 1, cells := 0, slots := 0, locals := 12 } : Room).cells ({ frames := 1, cells := 0, slots := 0, locals := 12 } : Room).slots) := by
  refine MetFree.of_bodySF (plainFor_of_name pn2) hisR ?_
  intro p e s m args below meth c s₁ Bd hml0 hP hK
  obtain ⟨rfl, hZ, hh⟩ := hP
  have hx := Bd.exec
  have hby := Bd.bytes
  have hml : c.maxLocals = 1 := hml0
  have hown : s.vm.findClass "java/lang/Record" = some m.cls := findClass_of_methodNamed Bd.named
  have hnm := (name_of_methodNamed Bd.named Bd.method).1
  have X0 : Stand p l e ({ frames := 1, cells := 0, slots := 0, locals := 12 } : Room) s m #[(.ref a1)] below meth c s₁ [] 0 0 := Stand.of_body Bd
  have e0 : s₁.heap = h0 := by rw [← hh, Bd.state]; rfl
  have N0 := Fr.nil n0
  refine (show own_G p.tables e below (own_P s (Q2 Z a1 h0 n0) 0 0) (s₁.setTop (entryFrame m #[(.ref a1)] 1)) from ?_)
  refine own_via (fun t k => castTop (ef2 m a1) k) ?_
  show own_G p.tables e below _ (s₁.setTop (mkF m 0 #[.val (.ref a1)] []))
  refine own_via (S' := s₁.setTop (mkF m 1 #[.val (.ref a1)] [(.ref a1)])) (fun t k => ?_) ?_
  · show Steps p.tables e below (s₁.setTop (mkF m 0 #[.val (.ref a1)] [])) t
    refine XS.aloadN X0.here hx rfl (hb hby d2_0) rfl rfl ?_
    exact k
  obtain ⟨T1, X1, e1, st1⟩ := initO X0 hx hZ hown (hw _ (List.mem_of_getElem? (i := 14) rfl)) (hw _ (List.mem_of_getElem? (i := 15) rfl)) (hw _ (List.mem_of_getElem? (i := 16) rfl)) e0 (g := (mkF m 1 #[.val (.ref a1)] [(.ref a1)])) rfl (by rw [hml]; rfl) rfl (hb hby d2_1) (by decide) (W := 0) (by show 2 * 0 + _ ≤ _; exact Nat.le_of_eq rfl) (by decide)
  refine own_via st1 ?_
  show own_G p.tables e below _ (T1.setTop (mkF m 4 #[.val (.ref a1)] []))
  exact own_end (h := h0) X1 (v := none) Bd.notSynchronized (fun _ => rfl) (fun fs hr => X1.returnOut hx Bd.returns (hb hby d2_4) hr) e1 ⟨rfl, N0, rfl⟩ (by decide) (by decide)
theorem d1_0 : decode prog_19_method_1_code 0 = .ok (.aload_n 0, 1) := by decide +kernel
theorem d1_1 : decode prog_19_method_1_code 1 = .ok (.invokespecial 1, 3) := by decide +kernel
theorem d1_4 : decode prog_19_method_1_code 4 = .ok (.iload_n 2, 1) := by decide +kernel
theorem d1_5 : decode prog_19_method_1_code 5 = .ok (.iconst 1, 1) := by decide +kernel
theorem d1_6 : decode prog_19_method_1_code 6 = .ok (.if_icmp .lt 12, 3) := by decide +kernel
theorem d1_9 : decode prog_19_method_1_code 9 = .ok (.iload_n 1, 1) := by decide +kernel
theorem d1_10 : decode prog_19_method_1_code 10 = .ok (.ifCond .lt 8, 3) := by decide +kernel
theorem d1_13 : decode prog_19_method_1_code 13 = .ok (.iload_n 1, 1) := by decide +kernel
theorem d1_14 : decode prog_19_method_1_code 14 = .ok (.iload_n 2, 1) := by decide +kernel
theorem d1_15 : decode prog_19_method_1_code 15 = .ok (.if_icmp .lt 18, 3) := by decide +kernel
theorem d1_33 : decode prog_19_method_1_code 33 = .ok (.aload_n 0, 1) := by decide +kernel
theorem d1_34 : decode prog_19_method_1_code 34 = .ok (.iload_n 1, 1) := by decide +kernel
theorem d1_35 : decode prog_19_method_1_code 35 = .ok (.putfield 16, 3) := by decide +kernel
theorem d1_38 : decode prog_19_method_1_code 38 = .ok (.aload_n 0, 1) := by decide +kernel
theorem d1_39 : decode prog_19_method_1_code 39 = .ok (.iload_n 2, 1) := by decide +kernel
theorem d1_40 : decode prog_19_method_1_code 40 = .ok (.putfield 22, 3) := by decide +kernel
theorem d1_43 : decode prog_19_method_1_code 43 = .ok (.return_, 1) := by decide +kernel
theorem pn1 : plainName "com/example/midstream/midstream/runtime/Split" = true := by first | (simp [plainName, overriddenIn]; done) | decide +kernel
theorem pd_0 : parseMethodDescriptor "()V" = some ⟨[], none⟩ := by decide +kernel
theorem ef1 (m : MethodId) (x0 : Addr) (x1 : Int32) (x2 : Int32) : entryFrame m #[(.ref x0), (.int x1), (.int x2)] 3 = mkF m 0 #[.val (.ref x0), .val (.int x1), .val (.int x2)] [] := by first | (simp [entryFrame, mkF, argsToLocals, Value.category]; done) | rfl
def Q1 (Z : State) (a1 : Addr) (p1 : Int32) (p2 : Int32) (h0 : Heap) (n0 : Nat) (v : Option Value) (h : Heap) (L : List Loc) : Prop := v = none ∧ Fr n0 L ∧ Keep h0 h [a1] ∧ Exa Z h a1 "com/example/midstream/midstream/runtime/Split" ∧ Fld Z h a1 "com/example/midstream/midstream/runtime/Split" "worker" "I" (.int p1) ∧ Fld Z h a1 "com/example/midstream/midstream/runtime/Split" "workers" "I" (.int p2)
set_option maxRecDepth 65536 in
set_option maxHeartbeats 40000000 in
theorem rm1 (l : Launch) (Z : State) (a0 : Array Value) (hw : ∀ d ∈ tables_1, d.before a0 Z = true) (ws : List Jvm.Cond) (a1 : Addr) (p1 : Int32) (p2 : Int32) (h0 : Heap) (n0 : Nat) (Z0 : n0 ≤ h0.size) (F0_0 : Fld Z h0 a1 "com/example/midstream/midstream/runtime/Split" "worker" "I" (.int (0 : Int32))) (F1_0 : Fld Z h0 a1 "com/example/midstream/midstream/runtime/Split" "workers" "I" (.int (0 : Int32))) (E_a1 : Exa Z h0 a1 "com/example/midstream/midstream/runtime/Split") (g_a1 : n0 ≤ a1) (hs : ¬ p2 < 1 ∧ ¬ p1 < 0 ∧ p1 < p2) :
    MetFree l (⟨"com/example/midstream/midstream/runtime/Split", "<init>", "(II)V"⟩ : MethodName) (head1 (Jvm.Cond.code (⟨"com/example/midstream/midstream/runtime/Split", "<init>", "(II)V"⟩ : MethodName) prog_19_method_1_code 3 none :: ws) ({ frames := 2, cells := 0, slots := 0, locals := 24 } : Room)) (fun a U => a = #[(.ref a1), (.int p1), (.int p2)] ∧ Z.Warmed39 U.vm ∧ U.heap = h0) (fun _ _ _ _ _ => True) (fun _ U o U' => ∃ v L, o = .returned v ∧ Q1 Z a1 p1 p2 h0 n0 v U'.heap L ∧ FrameEnd U o U' L ({ frames := 2, cells := 0, slots := 0, locals := 24 } : Room).cells ({ frames := 2, cells := 0, slots := 0, locals := 24 } : Room).slots) := by
  refine MetFree.of_bodySF (plainFor_of_name pn1) hisR ?_
  intro p e s m args below meth c s₁ Bd hml0 hP hK
  obtain ⟨rfl, hZ, hh⟩ := hP
  have hx := Bd.exec
  have hby := Bd.bytes
  have hml : c.maxLocals = 3 := hml0
  have hown : s.vm.findClass "com/example/midstream/midstream/runtime/Split" = some m.cls := findClass_of_methodNamed Bd.named
  have hnm := (name_of_methodNamed Bd.named Bd.method).1
  have X0 : Stand p l e ({ frames := 2, cells := 0, slots := 0, locals := 24 } : Room) s m #[(.ref a1), (.int p1), (.int p2)] below meth c s₁ [] 0 0 := Stand.of_body Bd
  have e0 : s₁.heap = h0 := by rw [← hh, Bd.state]; rfl
  have N0 := Fr.nil n0
  refine (show own_G p.tables e below (own_P s (Q1 Z a1 p1 p2 h0 n0) 0 0) (s₁.setTop (entryFrame m #[(.ref a1), (.int p1), (.int p2)] 3)) from ?_)
  refine own_via (fun t k => castTop (ef1 m a1 p1 p2) k) ?_
  show own_G p.tables e below _ (s₁.setTop (mkF m 0 #[.val (.ref a1), .val (.int p1), .val (.int p2)] []))
  have K0 := Keep.refl h0 [a1]
  refine own_via (S' := s₁.setTop (mkF m 1 #[.val (.ref a1), .val (.int p1), .val (.int p2)] [(.ref a1)])) (fun t k => ?_) ?_
  · show Steps p.tables e below (s₁.setTop (mkF m 0 #[.val (.ref a1), .val (.int p1), .val (.int p2)] [])) t
    refine XS.aloadN X0.here hx rfl (hb hby d1_0) rfl rfl ?_
    exact k
  obtain ⟨_, _, ⟨T1, L1, k1, n1⟩, -, X1, ⟨Lc1, hQ1, l1, y1, z1⟩, st1⟩ := X0.specialBack hx (y := (⟨"java/lang/Record", "<init>", "()V"⟩ : MethodName)) rfl hown (mvT hZ (hw _ (List.mem_of_getElem? (i := 9) rfl))) (mvT hZ (hw _ (List.mem_of_getElem? (i := 10) rfl))) (mvT hZ (hw _ (List.mem_of_getElem? (i := 13) rfl))) (by decide) (backOf (W := 0) (rm2 l Z a0 hw [] a1 h0 n0 (Nat.le_trans Z0 K0.1)) hZ (hw _ (List.mem_of_getElem? (i := 13) rfl)) (hw _ (List.mem_of_getElem? (i := 12) rfl)) (by decide) (by decide)) (g := (mkF m 1 #[.val (.ref a1), .val (.int p1), .val (.int p2)] [(.ref a1)])) rfl (by rw [hml]; rfl) (Steps.refl _) (a := a1) (argsL := []) (rest := []) (lenOf pd_0 rfl) rfl (by show 2 * 0 + _ ≤ _; exact Nat.le_of_eq rfl) (hb hby d1_1) (fun _ _ => ⟨rfl, e0, (by decide : 0 + 0 ≤ _), (by decide : 0 + 0 ≤ _)⟩)
  dsimp only [Pt.U, Pt.locs, Pt.cells, Pt.slots] at X1 l1 y1 z1 st1 hQ1
  subst l1 y1 z1
  obtain ⟨rfl, Nq1, hh1⟩ := hQ1
  have N1 := Fr.app N0 Nq1
  refine own_via (fun t k => st1.trans k) ?_
  show own_G p.tables e below _ (T1.setTop (mkF m 4 #[.val (.ref a1), .val (.int p1), .val (.int p2)] []))
  refine own_via (S' := T1.setTop (mkF m 6 #[.val (.ref a1), .val (.int p1), .val (.int p2)] [(.int (1 : Int32)), (.int p2)])) (fun t k => ?_) ?_
  · show Steps p.tables e below (T1.setTop (mkF m 4 #[.val (.ref a1), .val (.int p1), .val (.int p2)] [])) t
    refine XS.iloadN X1.here hx rfl (hb hby d1_4) rfl ?_
    show Steps p.tables e below (T1.setTop (mkF m 5 #[.val (.ref a1), .val (.int p1), .val (.int p2)] [(.int p2)])) t
    refine XS.iconst X1.here hx rfl (hb hby d1_5) ?_
    exact k
  refine own_via (S' := T1.setTop (mkF m 9 #[.val (.ref a1), .val (.int p1), .val (.int p2)] [])) (fun t k => XS.icmpNo (g := (mkF m 6 #[.val (.ref a1), .val (.int p1), .val (.int p2)] [(.int (1 : Int32)), (.int p2)])) X1.here hx rfl (hb hby d1_6) rfl (flt hs.1).1 k) ?_
  refine own_via (S' := T1.setTop (mkF m 10 #[.val (.ref a1), .val (.int p1), .val (.int p2)] [(.int p1)])) (fun t k => ?_) ?_
  · show Steps p.tables e below (T1.setTop (mkF m 9 #[.val (.ref a1), .val (.int p1), .val (.int p2)] [])) t
    refine XS.iloadN X1.here hx rfl (hb hby d1_9) rfl ?_
    exact k
  refine own_via (S' := T1.setTop (mkF m 13 #[.val (.ref a1), .val (.int p1), .val (.int p2)] [])) (fun t k => XS.ifNo (g := (mkF m 10 #[.val (.ref a1), .val (.int p1), .val (.int p2)] [(.int p1)])) X1.here hx rfl (hb hby d1_10) rfl ((if0 _ _).trans (flt hs.2.1).1) k) ?_
  refine own_via (S' := T1.setTop (mkF m 15 #[.val (.ref a1), .val (.int p1), .val (.int p2)] [(.int p2), (.int p1)])) (fun t k => ?_) ?_
  · show Steps p.tables e below (T1.setTop (mkF m 13 #[.val (.ref a1), .val (.int p1), .val (.int p2)] [])) t
    refine XS.iloadN X1.here hx rfl (hb hby d1_13) rfl ?_
    show Steps p.tables e below (T1.setTop (mkF m 14 #[.val (.ref a1), .val (.int p1), .val (.int p2)] [(.int p1)])) t
    refine XS.iloadN X1.here hx rfl (hb hby d1_14) rfl ?_
    exact k
  refine own_via (S' := T1.setTop (mkF m 33 #[.val (.ref a1), .val (.int p1), .val (.int p2)] [])) (fun t k => XS.icmpYes (g := (mkF m 15 #[.val (.ref a1), .val (.int p1), .val (.int p2)] [(.int p2), (.int p1)])) X1.here hx rfl (pc0 := 15) (pc' := 33) rfl (hb hby d1_15) rfl (tlt hs.2.2).1 (by decide) (by decide) k) ?_
  refine own_via (S' := T1.setTop (mkF m 35 #[.val (.ref a1), .val (.int p1), .val (.int p2)] [(.int p1), (.ref a1)])) (fun t k => ?_) ?_
  · show Steps p.tables e below (T1.setTop (mkF m 33 #[.val (.ref a1), .val (.int p1), .val (.int p2)] [])) t
    refine XS.aloadN X1.here hx rfl (hb hby d1_33) rfl rfl ?_
    show Steps p.tables e below (T1.setTop (mkF m 34 #[.val (.ref a1), .val (.int p1), .val (.int p2)] [(.ref a1)])) t
    refine XS.iloadN X1.here hx rfl (hb hby d1_34) rfl ?_
    exact k
  obtain ⟨T5, h5, X5, e5, W5, st5⟩ := putF X1 hx hZ hown (host := "") (Or.inl (hw _ (List.mem_of_getElem? (i := 17) rfl))) Via.refl hh1 F0_0 E_a1 (Or.inr ⟨(hw _ (List.mem_of_getElem? (i := 18) rfl)), rfl, hnm⟩) (hw _ (List.mem_of_getElem? (i := 4) rfl)) (ty := .int) (by decide) rfl rfl (g := (mkF m 35 #[.val (.ref a1), .val (.int p1), .val (.int p2)] [(.int p1), (.ref a1)])) rfl rfl (hb hby d1_35)
  have F5 := Fld.same W5 F0_0
  have K6 : Keep h0 h5 [a1] := Keep.wr K0 W5 (Or.inl (List.mem_of_getElem? (i := 0) rfl))
  have N6 := Fr.snoc X5 N1 g_a1
  refine own_via st5 ?_
  show own_G p.tables e below _ (T5.setTop (mkF m 38 #[.val (.ref a1), .val (.int p1), .val (.int p2)] []))
  refine own_via (S' := T5.setTop (mkF m 40 #[.val (.ref a1), .val (.int p1), .val (.int p2)] [(.int p2), (.ref a1)])) (fun t k => ?_) ?_
  · show Steps p.tables e below (T5.setTop (mkF m 38 #[.val (.ref a1), .val (.int p1), .val (.int p2)] [])) t
    refine XS.aloadN X5.here hx rfl (hb hby d1_38) rfl rfl ?_
    show Steps p.tables e below (T5.setTop (mkF m 39 #[.val (.ref a1), .val (.int p1), .val (.int p2)] [(.ref a1)])) t
    refine XS.iloadN X5.here hx rfl (hb hby d1_39) rfl ?_
    exact k
  have c7 := (Fld.other W5 F1_0 (Or.inr (slot_ne (Or.inr (hw _ (List.mem_of_getElem? (i := 20) rfl))) (Or.inr (hw _ (List.mem_of_getElem? (i := 18) rfl))) (by decide) (t := .int) (t' := .int) (by decide) (by decide))))
  have c8 := (Exa.wr W5 E_a1)
  obtain ⟨T9, h9, X9, e9, W9, st9⟩ := putF X5 hx hZ hown (host := "") (Or.inl (hw _ (List.mem_of_getElem? (i := 19) rfl))) Via.refl e5 c7 c8 (Or.inr ⟨(hw _ (List.mem_of_getElem? (i := 20) rfl)), rfl, hnm⟩) (hw _ (List.mem_of_getElem? (i := 4) rfl)) (ty := .int) (by decide) rfl rfl (g := (mkF m 40 #[.val (.ref a1), .val (.int p1), .val (.int p2)] [(.int p2), (.ref a1)])) rfl rfl (hb hby d1_40)
  have F9 := Fld.same W9 c7
  have K10 : Keep h0 h9 [a1] := Keep.wr K6 W9 (Or.inl (List.mem_of_getElem? (i := 0) rfl))
  have N10 := Fr.snoc X9 N6 g_a1
  refine own_via st9 ?_
  show own_G p.tables e below _ (T9.setTop (mkF m 43 #[.val (.ref a1), .val (.int p1), .val (.int p2)] []))
  have c11 := (Exa.wr W9 c8)
  have c12 := (Fld.other W9 F5 (Or.inr (slot_ne (Or.inr (hw _ (List.mem_of_getElem? (i := 18) rfl))) (Or.inr (hw _ (List.mem_of_getElem? (i := 20) rfl))) (by decide) (t := .int) (t' := .int) (by decide) (by decide))))
  exact own_end (h := h9) X9 (v := none) Bd.notSynchronized (fun _ => rfl) (fun fs hr => X9.returnOut hx Bd.returns (hb hby d1_43) hr) e9 ⟨rfl, N10, K10, c11, c12, F9⟩ (by decide) (by decide)
theorem d4_0 : decode prog_19_method_3_code 0 = .ok (.lload_n 1, 1) := by decide +kernel
theorem d4_1 : decode prog_19_method_3_code 1 = .ok (.aload_n 0, 1) := by decide +kernel
theorem d4_2 : decode prog_19_method_3_code 2 = .ok (.getfield 16, 3) := by decide +kernel
theorem d4_5 : decode prog_19_method_3_code 5 = .ok (.iconst 1, 1) := by decide +kernel
theorem d4_6 : decode prog_19_method_3_code 6 = .ok (.iadd, 1) := by decide +kernel
theorem d4_7 : decode prog_19_method_3_code 7 = .ok (.i2l, 1) := by decide +kernel
theorem d4_8 : decode prog_19_method_3_code 8 = .ok (.lmul, 1) := by decide +kernel
theorem d4_9 : decode prog_19_method_3_code 9 = .ok (.aload_n 0, 1) := by decide +kernel
theorem d4_10 : decode prog_19_method_3_code 10 = .ok (.getfield 22, 3) := by decide +kernel
theorem d4_13 : decode prog_19_method_3_code 13 = .ok (.i2l, 1) := by decide +kernel
theorem d4_14 : decode prog_19_method_3_code 14 = .ok (.ldiv, 1) := by decide +kernel
theorem d4_15 : decode prog_19_method_3_code 15 = .ok (.lreturn, 1) := by decide +kernel
theorem pn4 : plainName "com/example/midstream/midstream/runtime/Split" = true := by first | (simp [plainName, overriddenIn]; done) | decide +kernel
theorem ef4 (m : MethodId) (x0 : Addr) (x1 : Int64) : entryFrame m #[(.ref x0), (.long x1)] 3 = mkF m 0 #[.val (.ref x0), .val (.long x1), .second] [] := by first | (simp [entryFrame, mkF, argsToLocals, Value.category]; done) | rfl
def Q4 (Z : State) (a1 : Addr) (q1 : Int64) (p1 : Int32) (p2 : Int32) (h0 : Heap) (n0 : Nat) (v : Option Value) (h : Heap) (L : List Loc) : Prop := v = some (.long (q1 * (p1 + (1 : Int32)).toInt64 / p2.toInt64)) ∧ Fr n0 L ∧ h = h0
set_option maxRecDepth 65536 in
set_option maxHeartbeats 40000000 in
theorem rm4 (l : Launch) (Z : State) (a0 : Array Value) (hw : ∀ d ∈ tables_1, d.before a0 Z = true) (ws : List Jvm.Cond) (a1 : Addr) (q1 : Int64) (p1 : Int32) (p2 : Int32) (h0 : Heap) (n0 : Nat) (Z0 : n0 ≤ h0.size) (F1 : Fld Z h0 a1 "com/example/midstream/midstream/runtime/Split" "worker" "I" (.int p1)) (F2 : Fld Z h0 a1 "com/example/midstream/midstream/runtime/Split" "workers" "I" (.int p2)) (hnz : p2.toInt64 ≠ 0) :
    MetFree l (⟨"com/example/midstream/midstream/runtime/Split", "to", "(J)J"⟩ : MethodName) (head1 (Jvm.Cond.code (⟨"com/example/midstream/midstream/runtime/Split", "to", "(J)J"⟩ : MethodName) prog_19_method_3_code 3 (some .long) :: ws) ({ frames := 0, cells := 0, slots := 0, locals := 0 } : Room)) (fun a U => a = #[(.ref a1), (.long q1)] ∧ Z.Warmed39 U.vm ∧ U.heap = h0) (fun _ _ _ _ _ => True) (fun _ U o U' => ∃ v L, o = .returned v ∧ Q4 Z a1 q1 p1 p2 h0 n0 v U'.heap L ∧ FrameEnd U o U' L ({ frames := 0, cells := 0, slots := 0, locals := 0 } : Room).cells ({ frames := 0, cells := 0, slots := 0, locals := 0 } : Room).slots) := by
  refine MetFree.of_bodySF (plainFor_of_name pn4) hisR ?_
  intro p e s m args below meth c s₁ Bd hml0 hP hK
  obtain ⟨rfl, hZ, hh⟩ := hP
  have hx := Bd.exec
  have hby := Bd.bytes
  have hml : c.maxLocals = 3 := hml0
  have hown : s.vm.findClass "com/example/midstream/midstream/runtime/Split" = some m.cls := findClass_of_methodNamed Bd.named
  have hnm := (name_of_methodNamed Bd.named Bd.method).1
  have X0 : Stand p l e ({ frames := 0, cells := 0, slots := 0, locals := 0 } : Room) s m #[(.ref a1), (.long q1)] below meth c s₁ [] 0 0 := Stand.of_body Bd
  have e0 : s₁.heap = h0 := by rw [← hh, Bd.state]; rfl
  have N0 := Fr.nil n0
  refine (show own_G p.tables e below (own_P s (Q4 Z a1 q1 p1 p2 h0 n0) 0 0) (s₁.setTop (entryFrame m #[(.ref a1), (.long q1)] 3)) from ?_)
  refine own_via (fun t k => castTop (ef4 m a1 q1) k) ?_
  show own_G p.tables e below _ (s₁.setTop (mkF m 0 #[.val (.ref a1), .val (.long q1), .second] []))
  refine own_via (S' := s₁.setTop (mkF m 2 #[.val (.ref a1), .val (.long q1), .second] [(.ref a1), (.long q1)])) (fun t k => ?_) ?_
  · show Steps p.tables e below (s₁.setTop (mkF m 0 #[.val (.ref a1), .val (.long q1), .second] [])) t
    refine XS.lloadN X0.here hx rfl (hb hby d4_0) rfl ?_
    show Steps p.tables e below (s₁.setTop (mkF m 1 #[.val (.ref a1), .val (.long q1), .second] [(.long q1)])) t
    refine XS.aloadN X0.here hx rfl (hb hby d4_1) rfl rfl ?_
    exact k
  obtain ⟨T1, X1, e1, st1⟩ := getF X0 hx hZ hown (host := "") (Or.inl (hw _ (List.mem_of_getElem? (i := 17) rfl))) Via.refl e0 F1 (g := (mkF m 2 #[.val (.ref a1), .val (.long q1), .second] [(.ref a1), (.long q1)])) rfl rfl (hb hby d4_2)
  refine own_via st1 ?_
  show own_G p.tables e below _ (T1.setTop (mkF m 5 #[.val (.ref a1), .val (.long q1), .second] [(.int p1), (.long q1)]))
  refine own_via (S' := T1.setTop (mkF m 10 #[.val (.ref a1), .val (.long q1), .second] [(.ref a1), (.long (q1 * ((p1 + (1 : Int32)).toInt64)))])) (fun t k => ?_) ?_
  · show Steps p.tables e below (T1.setTop (mkF m 5 #[.val (.ref a1), .val (.long q1), .second] [(.int p1), (.long q1)])) t
    refine XS.iconst X1.here hx rfl (hb hby d4_5) ?_
    show Steps p.tables e below (T1.setTop (mkF m 6 #[.val (.ref a1), .val (.long q1), .second] [(.int (1 : Int32)), (.int p1), (.long q1)])) t
    refine XS.iadd X1.here hx rfl (hb hby d4_6) rfl ?_
    show Steps p.tables e below (T1.setTop (mkF m 7 #[.val (.ref a1), .val (.long q1), .second] [(.int (p1 + (1 : Int32))), (.long q1)])) t
    refine XS.i2l X1.here hx rfl (hb hby d4_7) rfl ?_
    show Steps p.tables e below (T1.setTop (mkF m 8 #[.val (.ref a1), .val (.long q1), .second] [(.long ((p1 + (1 : Int32)).toInt64)), (.long q1)])) t
    refine XS.lmul X1.here hx rfl (hb hby d4_8) rfl ?_
    show Steps p.tables e below (T1.setTop (mkF m 9 #[.val (.ref a1), .val (.long q1), .second] [(.long (q1 * ((p1 + (1 : Int32)).toInt64)))])) t
    refine XS.aloadN X1.here hx rfl (hb hby d4_9) rfl rfl ?_
    exact k
  obtain ⟨T2, X2, e2, st2⟩ := getF X1 hx hZ hown (host := "") (Or.inl (hw _ (List.mem_of_getElem? (i := 19) rfl))) Via.refl e1 F2 (g := (mkF m 10 #[.val (.ref a1), .val (.long q1), .second] [(.ref a1), (.long (q1 * ((p1 + (1 : Int32)).toInt64)))])) rfl rfl (hb hby d4_10)
  refine own_via st2 ?_
  show own_G p.tables e below _ (T2.setTop (mkF m 13 #[.val (.ref a1), .val (.long q1), .second] [(.int p2), (.long (q1 * ((p1 + (1 : Int32)).toInt64)))]))
  refine own_via (S' := T2.setTop (mkF m 15 #[.val (.ref a1), .val (.long q1), .second] [(.long ((q1 * ((p1 + (1 : Int32)).toInt64)) / (p2.toInt64)))])) (fun t k => ?_) ?_
  · show Steps p.tables e below (T2.setTop (mkF m 13 #[.val (.ref a1), .val (.long q1), .second] [(.int p2), (.long (q1 * ((p1 + (1 : Int32)).toInt64)))])) t
    refine XS.i2l X2.here hx rfl (hb hby d4_13) rfl ?_
    show Steps p.tables e below (T2.setTop (mkF m 14 #[.val (.ref a1), .val (.long q1), .second] [(.long (p2.toInt64)), (.long (q1 * ((p1 + (1 : Int32)).toInt64)))])) t
    refine XS.ldiv X2.here hx rfl (hb hby d4_14) rfl hnz ?_
    exact k
  exact own_end (h := h0) X2 (v := some (.long ((q1 * ((p1 + (1 : Int32)).toInt64)) / (p2.toInt64)))) Bd.notSynchronized (fun h => by rw [Bd.returns] at h; cases h) (fun fs hr => retOut X2 hx Bd.returns rfl (Or.inr (Or.inl ⟨rfl, rfl, _, rfl⟩)) (hb hby d4_15) hr) e2 ⟨rfl, N0, rfl⟩ (by decide) (by decide)
theorem d5_0 : decode prog_19_method_2_code 0 = .ok (.lload_n 1, 1) := by decide +kernel
theorem d5_1 : decode prog_19_method_2_code 1 = .ok (.aload_n 0, 1) := by decide +kernel
theorem d5_2 : decode prog_19_method_2_code 2 = .ok (.getfield 16, 3) := by decide +kernel
theorem d5_5 : decode prog_19_method_2_code 5 = .ok (.i2l, 1) := by decide +kernel
theorem d5_6 : decode prog_19_method_2_code 6 = .ok (.lmul, 1) := by decide +kernel
theorem d5_7 : decode prog_19_method_2_code 7 = .ok (.aload_n 0, 1) := by decide +kernel
theorem d5_8 : decode prog_19_method_2_code 8 = .ok (.getfield 22, 3) := by decide +kernel
theorem d5_11 : decode prog_19_method_2_code 11 = .ok (.i2l, 1) := by decide +kernel
theorem d5_12 : decode prog_19_method_2_code 12 = .ok (.ldiv, 1) := by decide +kernel
theorem d5_13 : decode prog_19_method_2_code 13 = .ok (.lreturn, 1) := by decide +kernel
theorem pn5 : plainName "com/example/midstream/midstream/runtime/Split" = true := by first | (simp [plainName, overriddenIn]; done) | decide +kernel
theorem ef5 (m : MethodId) (x0 : Addr) (x1 : Int64) : entryFrame m #[(.ref x0), (.long x1)] 3 = mkF m 0 #[.val (.ref x0), .val (.long x1), .second] [] := by first | (simp [entryFrame, mkF, argsToLocals, Value.category]; done) | rfl
def Q5 (Z : State) (a1 : Addr) (q1 : Int64) (p1 : Int32) (p2 : Int32) (h0 : Heap) (n0 : Nat) (v : Option Value) (h : Heap) (L : List Loc) : Prop := v = some (.long (q1 * p1.toInt64 / p2.toInt64)) ∧ Fr n0 L ∧ h = h0
set_option maxRecDepth 65536 in
set_option maxHeartbeats 40000000 in
theorem rm5 (l : Launch) (Z : State) (a0 : Array Value) (hw : ∀ d ∈ tables_1, d.before a0 Z = true) (ws : List Jvm.Cond) (a1 : Addr) (q1 : Int64) (p1 : Int32) (p2 : Int32) (h0 : Heap) (n0 : Nat) (Z0 : n0 ≤ h0.size) (F1 : Fld Z h0 a1 "com/example/midstream/midstream/runtime/Split" "worker" "I" (.int p1)) (F2 : Fld Z h0 a1 "com/example/midstream/midstream/runtime/Split" "workers" "I" (.int p2)) (hnz : p2.toInt64 ≠ 0) :
    MetFree l (⟨"com/example/midstream/midstream/runtime/Split", "from", "(J)J"⟩ : MethodName) (head1 (Jvm.Cond.code (⟨"com/example/midstream/midstream/runtime/Split", "from", "(J)J"⟩ : MethodName) prog_19_method_2_code 3 (some .long) :: ws) ({ frames := 0, cells := 0, slots := 0, locals := 0 } : Room)) (fun a U => a = #[(.ref a1), (.long q1)] ∧ Z.Warmed39 U.vm ∧ U.heap = h0) (fun _ _ _ _ _ => True) (fun _ U o U' => ∃ v L, o = .returned v ∧ Q5 Z a1 q1 p1 p2 h0 n0 v U'.heap L ∧ FrameEnd U o U' L ({ frames := 0, cells := 0, slots := 0, locals := 0 } : Room).cells ({ frames := 0, cells := 0, slots := 0, locals := 0 } : Room).slots) := by
  refine MetFree.of_bodySF (plainFor_of_name pn5) hisR ?_
  intro p e s m args below meth c s₁ Bd hml0 hP hK
  obtain ⟨rfl, hZ, hh⟩ := hP
  have hx := Bd.exec
  have hby := Bd.bytes
  have hml : c.maxLocals = 3 := hml0
  have hown : s.vm.findClass "com/example/midstream/midstream/runtime/Split" = some m.cls := findClass_of_methodNamed Bd.named
  have hnm := (name_of_methodNamed Bd.named Bd.method).1
  have X0 : Stand p l e ({ frames := 0, cells := 0, slots := 0, locals := 0 } : Room) s m #[(.ref a1), (.long q1)] below meth c s₁ [] 0 0 := Stand.of_body Bd
  have e0 : s₁.heap = h0 := by rw [← hh, Bd.state]; rfl
  have N0 := Fr.nil n0
  refine (show own_G p.tables e below (own_P s (Q5 Z a1 q1 p1 p2 h0 n0) 0 0) (s₁.setTop (entryFrame m #[(.ref a1), (.long q1)] 3)) from ?_)
  refine own_via (fun t k => castTop (ef5 m a1 q1) k) ?_
  show own_G p.tables e below _ (s₁.setTop (mkF m 0 #[.val (.ref a1), .val (.long q1), .second] []))
  refine own_via (S' := s₁.setTop (mkF m 2 #[.val (.ref a1), .val (.long q1), .second] [(.ref a1), (.long q1)])) (fun t k => ?_) ?_
  · show Steps p.tables e below (s₁.setTop (mkF m 0 #[.val (.ref a1), .val (.long q1), .second] [])) t
    refine XS.lloadN X0.here hx rfl (hb hby d5_0) rfl ?_
    show Steps p.tables e below (s₁.setTop (mkF m 1 #[.val (.ref a1), .val (.long q1), .second] [(.long q1)])) t
    refine XS.aloadN X0.here hx rfl (hb hby d5_1) rfl rfl ?_
    exact k
  obtain ⟨T1, X1, e1, st1⟩ := getF X0 hx hZ hown (host := "") (Or.inl (hw _ (List.mem_of_getElem? (i := 17) rfl))) Via.refl e0 F1 (g := (mkF m 2 #[.val (.ref a1), .val (.long q1), .second] [(.ref a1), (.long q1)])) rfl rfl (hb hby d5_2)
  refine own_via st1 ?_
  show own_G p.tables e below _ (T1.setTop (mkF m 5 #[.val (.ref a1), .val (.long q1), .second] [(.int p1), (.long q1)]))
  refine own_via (S' := T1.setTop (mkF m 8 #[.val (.ref a1), .val (.long q1), .second] [(.ref a1), (.long (q1 * (p1.toInt64)))])) (fun t k => ?_) ?_
  · show Steps p.tables e below (T1.setTop (mkF m 5 #[.val (.ref a1), .val (.long q1), .second] [(.int p1), (.long q1)])) t
    refine XS.i2l X1.here hx rfl (hb hby d5_5) rfl ?_
    show Steps p.tables e below (T1.setTop (mkF m 6 #[.val (.ref a1), .val (.long q1), .second] [(.long (p1.toInt64)), (.long q1)])) t
    refine XS.lmul X1.here hx rfl (hb hby d5_6) rfl ?_
    show Steps p.tables e below (T1.setTop (mkF m 7 #[.val (.ref a1), .val (.long q1), .second] [(.long (q1 * (p1.toInt64)))])) t
    refine XS.aloadN X1.here hx rfl (hb hby d5_7) rfl rfl ?_
    exact k
  obtain ⟨T2, X2, e2, st2⟩ := getF X1 hx hZ hown (host := "") (Or.inl (hw _ (List.mem_of_getElem? (i := 19) rfl))) Via.refl e1 F2 (g := (mkF m 8 #[.val (.ref a1), .val (.long q1), .second] [(.ref a1), (.long (q1 * (p1.toInt64)))])) rfl rfl (hb hby d5_8)
  refine own_via st2 ?_
  show own_G p.tables e below _ (T2.setTop (mkF m 11 #[.val (.ref a1), .val (.long q1), .second] [(.int p2), (.long (q1 * (p1.toInt64)))]))
  refine own_via (S' := T2.setTop (mkF m 13 #[.val (.ref a1), .val (.long q1), .second] [(.long ((q1 * (p1.toInt64)) / (p2.toInt64)))])) (fun t k => ?_) ?_
  · show Steps p.tables e below (T2.setTop (mkF m 11 #[.val (.ref a1), .val (.long q1), .second] [(.int p2), (.long (q1 * (p1.toInt64)))])) t
    refine XS.i2l X2.here hx rfl (hb hby d5_11) rfl ?_
    show Steps p.tables e below (T2.setTop (mkF m 12 #[.val (.ref a1), .val (.long q1), .second] [(.long (p2.toInt64)), (.long (q1 * (p1.toInt64)))])) t
    refine XS.ldiv X2.here hx rfl (hb hby d5_12) rfl hnz ?_
    exact k
  exact own_end (h := h0) X2 (v := some (.long ((q1 * (p1.toInt64)) / (p2.toInt64)))) Bd.notSynchronized (fun h => by rw [Bd.returns] at h; cases h) (fun fs hr => retOut X2 hx Bd.returns rfl (Or.inr (Or.inl ⟨rfl, rfl, _, rfl⟩)) (hb hby d5_13) hr) e2 ⟨rfl, N0, rfl⟩ (by decide) (by decide)
theorem pn0 : plainName "com/example/midstream/midstream/runtime/SplitToPinLaw" = true := by first | (simp [plainName, overriddenIn]; done) | decide +kernel
theorem pd_1 : parseMethodDescriptor "(II)V" = some ⟨[.int, .int], none⟩ := by decide +kernel
theorem pd_2 : parseMethodDescriptor "(J)J" = some ⟨[.long], some .long⟩ := by decide +kernel
theorem ef0 (m : MethodId) (x0 : Int32) (x1 : Int32) (x2 : Int64) : entryFrame m #[(.int x0), (.int x1), (.long x2)] maxLocals = mkF m 0 #[.val (.int x0), .val (.int x1), .val (.long x2), .second, .unset, .unset, .unset, .unset, .unset, .unset, .unset, .unset, .unset, .unset, .unset, .unset] [] := by first | (simp [entryFrame, mkF, argsToLocals, Value.category, maxLocals]; done) | rfl
def Q0 (Z : State) (p1 : Int32) (p2 : Int32) (q3 : Int64) (h0 : Heap) (n0 : Nat) (v : Option Value) (h : Heap) (L : List Loc) : Prop := v = some (.int 1) ∧ Fr n0 L
set_option maxRecDepth 65536 in
set_option maxHeartbeats 40000000 in
theorem rm0 (l : Launch) (Z : State) (a0 : Array Value) (hw : ∀ d ∈ tables_1, d.before a0 Z = true) (ws : List Jvm.Cond) (p1 : Int32) (p2 : Int32) (q3 : Int64) (h0 : Heap) (n0 : Nat) (Z0 : n0 ≤ h0.size) :
    MetFree l x (head1 (Jvm.Cond.code x code maxLocals ret :: ws) room_1) (fun a U => a = #[(.int p1), (.int p2), (.long q3)] ∧ Z.Warmed39 U.vm ∧ U.heap = h0) (fun _ _ _ _ _ => True) (fun _ U o U' => ∃ v L, o = .returned v ∧ Q0 Z p1 p2 q3 h0 n0 v U'.heap L ∧ FrameEnd U o U' L 16 128) := by
  refine MetFree.of_bodySF (plainFor_of_name pn0) hisR ?_
  intro p e s m args below meth c s₁ Bd hml0 hP hK
  obtain ⟨rfl, hZ, hh⟩ := hP
  have hx := Bd.exec
  have hby := Bd.bytes
  have hml : c.maxLocals = 16 := hml0
  have hown : s.vm.findClass "com/example/midstream/midstream/runtime/SplitToPinLaw" = some m.cls := findClass_of_methodNamed Bd.named
  have hnm := (name_of_methodNamed Bd.named Bd.method).1
  have X0 : Stand p l e room_1 s m #[(.int p1), (.int p2), (.long q3)] below meth c s₁ [] 0 0 := Stand.of_body Bd
  have e0 : s₁.heap = h0 := by rw [← hh, Bd.state]; rfl
  have N0 := Fr.nil n0
  refine (show own_G p.tables e below (own_P s (Q0 Z p1 p2 q3 h0 n0) 16 128) (s₁.setTop (entryFrame m #[(.int p1), (.int p2), (.long q3)] maxLocals)) from ?_)
  refine own_via (fun t k => castTop (ef0 m p1 p2 q3) k) ?_
  show own_G p.tables e below _ (s₁.setTop (mkF m 0 #[.val (.int p1), .val (.int p2), .val (.long q3), .second, .unset, .unset, .unset, .unset, .unset, .unset, .unset, .unset, .unset, .unset, .unset, .unset] []))
  have K0 := Keep.refl h0 []
  refine own_via (S' := s₁.setTop (mkF m 8 #[.val (.int p1), .val (.int p2), .val (.long q3), .second, .val (.int ((p2 &&& (65535 : Int32)) + (1 : Int32))), .unset, .unset, .unset, .unset, .unset, .unset, .unset, .unset, .unset, .unset, .unset] [])) (fun t k => ?_) ?_
  · show Steps p.tables e below (s₁.setTop (mkF m 0 #[.val (.int p1), .val (.int p2), .val (.long q3), .second, .unset, .unset, .unset, .unset, .unset, .unset, .unset, .unset, .unset, .unset, .unset, .unset] [])) t
    refine XS.iloadN X0.here hx rfl (hb hby at_0) rfl ?_
    show Steps p.tables e below (s₁.setTop (mkF m 1 #[.val (.int p1), .val (.int p2), .val (.long q3), .second, .unset, .unset, .unset, .unset, .unset, .unset, .unset, .unset, .unset, .unset, .unset, .unset] [(.int p2)])) t
    refine X0.ldcInt hx hown (mvT hZ (hw _ (List.mem_of_getElem? (i := 0) rfl))) (g := (mkF m 1 #[.val (.int p1), .val (.int p2), .val (.long q3), .second, .unset, .unset, .unset, .unset, .unset, .unset, .unset, .unset, .unset, .unset, .unset, .unset] [(.int p2)])) rfl (hb hby at_1) _ ?_
    show Steps p.tables e below (s₁.setTop (mkF m 3 #[.val (.int p1), .val (.int p2), .val (.long q3), .second, .unset, .unset, .unset, .unset, .unset, .unset, .unset, .unset, .unset, .unset, .unset, .unset] [(.int (65535 : Int32)), (.int p2)])) t
    refine XS.iand X0.here hx rfl (hb hby at_3) rfl ?_
    show Steps p.tables e below (s₁.setTop (mkF m 4 #[.val (.int p1), .val (.int p2), .val (.long q3), .second, .unset, .unset, .unset, .unset, .unset, .unset, .unset, .unset, .unset, .unset, .unset, .unset] [(.int (p2 &&& (65535 : Int32)))])) t
    refine XS.iconst X0.here hx rfl (hb hby at_4) ?_
    show Steps p.tables e below (s₁.setTop (mkF m 5 #[.val (.int p1), .val (.int p2), .val (.long q3), .second, .unset, .unset, .unset, .unset, .unset, .unset, .unset, .unset, .unset, .unset, .unset, .unset] [(.int (1 : Int32)), (.int (p2 &&& (65535 : Int32)))])) t
    refine XS.iadd X0.here hx rfl (hb hby at_5) rfl ?_
    show Steps p.tables e below (s₁.setTop (mkF m 6 #[.val (.int p1), .val (.int p2), .val (.long q3), .second, .unset, .unset, .unset, .unset, .unset, .unset, .unset, .unset, .unset, .unset, .unset, .unset] [(.int ((p2 &&& (65535 : Int32)) + (1 : Int32)))])) t
    refine XS.istore X0.here hx rfl (hb hby at_6) rfl (l' := #[.val (.int p1), .val (.int p2), .val (.long q3), .second, .val (.int ((p2 &&& (65535 : Int32)) + (1 : Int32))), .unset, .unset, .unset, .unset, .unset, .unset, .unset, .unset, .unset, .unset, .unset]) rfl ?_
    exact k
  obtain ⟨nn, hn_nn⟩ : ∃ z, z = ((p2 &&& (65535 : Int32)) + (1 : Int32)) := ⟨_, rfl⟩
  rw [← hn_nn]
  show own_G p.tables e below _ (s₁.setTop (mkF m 8 #[.val (.int p1), .val (.int p2), .val (.long q3), .second, .val (.int nn), .unset, .unset, .unset, .unset, .unset, .unset, .unset, .unset, .unset, .unset, .unset] []))
  have hnn := own_n p2
  rw [← hn_nn] at hnn
  refine own_via (S' := s₁.setTop (mkF m 17 #[.val (.int p1), .val (.int p2), .val (.long q3), .second, .val (.int nn), .val (.int ((p1 &&& (2147483647 : Int32)) % nn)), .unset, .unset, .unset, .unset, .unset, .unset, .unset, .unset, .unset, .unset] [])) (fun t k => ?_) ?_
  · show Steps p.tables e below (s₁.setTop (mkF m 8 #[.val (.int p1), .val (.int p2), .val (.long q3), .second, .val (.int nn), .unset, .unset, .unset, .unset, .unset, .unset, .unset, .unset, .unset, .unset, .unset] [])) t
    refine XS.iloadN X0.here hx rfl (hb hby at_8) rfl ?_
    show Steps p.tables e below (s₁.setTop (mkF m 9 #[.val (.int p1), .val (.int p2), .val (.long q3), .second, .val (.int nn), .unset, .unset, .unset, .unset, .unset, .unset, .unset, .unset, .unset, .unset, .unset] [(.int p1)])) t
    refine X0.ldcInt hx hown (mvT hZ (hw _ (List.mem_of_getElem? (i := 1) rfl))) (g := (mkF m 9 #[.val (.int p1), .val (.int p2), .val (.long q3), .second, .val (.int nn), .unset, .unset, .unset, .unset, .unset, .unset, .unset, .unset, .unset, .unset, .unset] [(.int p1)])) rfl (hb hby at_9) _ ?_
    show Steps p.tables e below (s₁.setTop (mkF m 11 #[.val (.int p1), .val (.int p2), .val (.long q3), .second, .val (.int nn), .unset, .unset, .unset, .unset, .unset, .unset, .unset, .unset, .unset, .unset, .unset] [(.int (2147483647 : Int32)), (.int p1)])) t
    refine XS.iand X0.here hx rfl (hb hby at_11) rfl ?_
    show Steps p.tables e below (s₁.setTop (mkF m 12 #[.val (.int p1), .val (.int p2), .val (.long q3), .second, .val (.int nn), .unset, .unset, .unset, .unset, .unset, .unset, .unset, .unset, .unset, .unset, .unset] [(.int (p1 &&& (2147483647 : Int32)))])) t
    refine XS.iload X0.here hx rfl (hb hby at_12) rfl ?_
    show Steps p.tables e below (s₁.setTop (mkF m 14 #[.val (.int p1), .val (.int p2), .val (.long q3), .second, .val (.int nn), .unset, .unset, .unset, .unset, .unset, .unset, .unset, .unset, .unset, .unset, .unset] [(.int nn), (.int (p1 &&& (2147483647 : Int32)))])) t
    refine iremM X0 hx rfl (hb hby at_14) rfl (own_nz hnn.1) ?_
    show Steps p.tables e below (s₁.setTop (mkF m 15 #[.val (.int p1), .val (.int p2), .val (.long q3), .second, .val (.int nn), .unset, .unset, .unset, .unset, .unset, .unset, .unset, .unset, .unset, .unset, .unset] [(.int ((p1 &&& (2147483647 : Int32)) % nn))])) t
    refine XS.istore X0.here hx rfl (hb hby at_15) rfl (l' := #[.val (.int p1), .val (.int p2), .val (.long q3), .second, .val (.int nn), .val (.int ((p1 &&& (2147483647 : Int32)) % nn)), .unset, .unset, .unset, .unset, .unset, .unset, .unset, .unset, .unset, .unset]) rfl ?_
    exact k
  obtain ⟨kk, hn_kk⟩ : ∃ z, z = ((p1 &&& (2147483647 : Int32)) % nn) := ⟨_, rfl⟩
  rw [← hn_kk]
  show own_G p.tables e below _ (s₁.setTop (mkF m 17 #[.val (.int p1), .val (.int p2), .val (.long q3), .second, .val (.int nn), .val (.int kk), .unset, .unset, .unset, .unset, .unset, .unset, .unset, .unset, .unset, .unset] []))
  have hkk := own_rem p1 nn hnn.1
  rw [← hn_kk] at hkk
  refine own_via (S' := s₁.setTop (mkF m 24 #[.val (.int p1), .val (.int p2), .val (.long q3), .second, .val (.int nn), .val (.int kk), .val (.long (q3 &&& (140737488355327 : Int64))), .second, .unset, .unset, .unset, .unset, .unset, .unset, .unset, .unset] [])) (fun t k => ?_) ?_
  · show Steps p.tables e below (s₁.setTop (mkF m 17 #[.val (.int p1), .val (.int p2), .val (.long q3), .second, .val (.int nn), .val (.int kk), .unset, .unset, .unset, .unset, .unset, .unset, .unset, .unset, .unset, .unset] [])) t
    refine XS.lloadN X0.here hx rfl (hb hby at_17) rfl ?_
    show Steps p.tables e below (s₁.setTop (mkF m 18 #[.val (.int p1), .val (.int p2), .val (.long q3), .second, .val (.int nn), .val (.int kk), .unset, .unset, .unset, .unset, .unset, .unset, .unset, .unset, .unset, .unset] [(.long q3)])) t
    refine X0.ldc2Long hx hown (mvT hZ (hw _ (List.mem_of_getElem? (i := 2) rfl))) (g := (mkF m 18 #[.val (.int p1), .val (.int p2), .val (.long q3), .second, .val (.int nn), .val (.int kk), .unset, .unset, .unset, .unset, .unset, .unset, .unset, .unset, .unset, .unset] [(.long q3)])) rfl (hb hby at_18) _ ?_
    show Steps p.tables e below (s₁.setTop (mkF m 21 #[.val (.int p1), .val (.int p2), .val (.long q3), .second, .val (.int nn), .val (.int kk), .unset, .unset, .unset, .unset, .unset, .unset, .unset, .unset, .unset, .unset] [(.long (140737488355327 : Int64)), (.long q3)])) t
    refine XS.land X0.here hx rfl (hb hby at_21) rfl ?_
    show Steps p.tables e below (s₁.setTop (mkF m 22 #[.val (.int p1), .val (.int p2), .val (.long q3), .second, .val (.int nn), .val (.int kk), .unset, .unset, .unset, .unset, .unset, .unset, .unset, .unset, .unset, .unset] [(.long (q3 &&& (140737488355327 : Int64)))])) t
    refine XS.lstore X0.here hx rfl (hb hby at_22) rfl (l' := #[.val (.int p1), .val (.int p2), .val (.long q3), .second, .val (.int nn), .val (.int kk), .val (.long (q3 &&& (140737488355327 : Int64))), .second, .unset, .unset, .unset, .unset, .unset, .unset, .unset, .unset]) rfl ?_
    exact k
  obtain ⟨cc, hn_cc⟩ : ∃ z, z = (q3 &&& (140737488355327 : Int64)) := ⟨_, rfl⟩
  rw [← hn_cc]
  show own_G p.tables e below _ (s₁.setTop (mkF m 24 #[.val (.int p1), .val (.int p2), .val (.long q3), .second, .val (.int nn), .val (.int kk), .val (.long cc), .second, .unset, .unset, .unset, .unset, .unset, .unset, .unset, .unset] []))
  have hcc := own_cnt q3
  rw [← hn_cc] at hcc
  obtain ⟨T1, h1, X1, e1, E1, A1, D1, -, st1⟩ := newO X0 hx hZ hown (hw _ (List.mem_of_getElem? (i := 3) rfl)) (hw _ (List.mem_of_getElem? (i := 4) rfl)) (hw _ (List.mem_of_getElem? (i := 5) rfl)) e0 (g := (mkF m 24 #[.val (.int p1), .val (.int p2), .val (.long q3), .second, .val (.int nn), .val (.int kk), .val (.long cc), .second, .unset, .unset, .unset, .unset, .unset, .unset, .unset, .unset] [])) rfl (hb hby at_24) (by decide) (by decide)
  obtain ⟨b1, g1⟩ : ∃ z, z = h0.size := ⟨_, rfl⟩
  have g_b1 : n0 ≤ b1 := Nat.le_trans (Nat.le_trans Z0 K0.1) (Nat.le_of_eq g1.symm)
  have sz_b1 : h0.size ≤ b1 := Nat.le_trans K0.1 (Nat.le_of_eq g1.symm)
  rw [← g1] at A1 D1 st1
  have K1 : Keep h0 h1 [] := Keep.ext K0 E1
  have F_worker_b1 : Fld Z h1 b1 "com/example/midstream/midstream/runtime/Split" "worker" "I" (.int (0 : Int32)) := D1 (Or.inr (hw _ (List.mem_of_getElem? (i := 18) rfl))) (ty := .int) (by decide)
  have F_workers_b1 : Fld Z h1 b1 "com/example/midstream/midstream/runtime/Split" "workers" "I" (.int (0 : Int32)) := D1 (Or.inr (hw _ (List.mem_of_getElem? (i := 20) rfl))) (ty := .int) (by decide)
  refine own_via st1 ?_
  show own_G p.tables e below _ (T1.setTop (mkF m 27 #[.val (.int p1), .val (.int p2), .val (.long q3), .second, .val (.int nn), .val (.int kk), .val (.long cc), .second, .unset, .unset, .unset, .unset, .unset, .unset, .unset, .unset] [(.ref b1)]))
  refine own_via (S' := T1.setTop (mkF m 32 #[.val (.int p1), .val (.int p2), .val (.long q3), .second, .val (.int nn), .val (.int kk), .val (.long cc), .second, .unset, .unset, .unset, .unset, .unset, .unset, .unset, .unset] [(.int nn), (.int kk), (.ref b1), (.ref b1)])) (fun t k => ?_) ?_
  · show Steps p.tables e below (T1.setTop (mkF m 27 #[.val (.int p1), .val (.int p2), .val (.long q3), .second, .val (.int nn), .val (.int kk), .val (.long cc), .second, .unset, .unset, .unset, .unset, .unset, .unset, .unset, .unset] [(.ref b1)])) t
    refine XS.dup X1.here hx rfl (hb hby at_27) rfl rfl ?_
    show Steps p.tables e below (T1.setTop (mkF m 28 #[.val (.int p1), .val (.int p2), .val (.long q3), .second, .val (.int nn), .val (.int kk), .val (.long cc), .second, .unset, .unset, .unset, .unset, .unset, .unset, .unset, .unset] [(.ref b1), (.ref b1)])) t
    refine XS.iload X1.here hx rfl (hb hby at_28) rfl ?_
    show Steps p.tables e below (T1.setTop (mkF m 30 #[.val (.int p1), .val (.int p2), .val (.long q3), .second, .val (.int nn), .val (.int kk), .val (.long cc), .second, .unset, .unset, .unset, .unset, .unset, .unset, .unset, .unset] [(.int kk), (.ref b1), (.ref b1)])) t
    refine XS.iload X1.here hx rfl (hb hby at_30) rfl ?_
    exact k
  obtain ⟨_, _, ⟨T2, L2, k2, n2⟩, -, X2, ⟨Lc2, hQ2, l2, y2, z2⟩, st2⟩ := X1.specialBack hx (y := (⟨"com/example/midstream/midstream/runtime/Split", "<init>", "(II)V"⟩ : MethodName)) rfl hown (mvT hZ (hw _ (List.mem_of_getElem? (i := 6) rfl))) (mvT hZ (hw _ (List.mem_of_getElem? (i := 7) rfl))) (mvT hZ (hw _ (List.mem_of_getElem? (i := 8) rfl))) (by decide) (backOf (W := 1) (rm1 l Z a0 hw [] b1 kk nn h1 n0 (Nat.le_trans Z0 K1.1) F_worker_b1 F_workers_b1 A1 g_b1 (own_pre hkk)) hZ (hw _ (List.mem_of_getElem? (i := 8) rfl)) (hw _ (List.mem_of_getElem? (i := 5) rfl)) (by decide) (by decide)) (g := (mkF m 32 #[.val (.int p1), .val (.int p2), .val (.long q3), .second, .val (.int nn), .val (.int kk), .val (.long cc), .second, .unset, .unset, .unset, .unset, .unset, .unset, .unset, .unset] [(.int nn), (.int kk), (.ref b1), (.ref b1)])) rfl (by rw [hml]; rfl) (Steps.refl _) (a := b1) (argsL := [(.int kk), (.int nn)]) (rest := [(.ref b1)]) (lenOf pd_1 rfl) rfl (by show 2 * 0 + _ ≤ _; exact Nat.le_of_eq rfl) (hb hby at_32) (fun _ _ => ⟨rfl, e1, (by decide : 1 + 0 ≤ _), (by decide : 2 + 0 ≤ _)⟩)
  dsimp only [Pt.U, Pt.locs, Pt.cells, Pt.slots] at X2 l2 y2 z2 st2 hQ2
  subst l2 y2 z2
  obtain ⟨rfl, Nq2, Kc2, Ec2, Fc2_0, Fc2_1⟩ := hQ2
  have N2 := Fr.app N0 Nq2
  refine own_via (fun t k => st2.trans k) ?_
  show own_G p.tables e below _ (T2.setTop (mkF m 35 #[.val (.int p1), .val (.int p2), .val (.long q3), .second, .val (.int nn), .val (.int kk), .val (.long cc), .second, .unset, .unset, .unset, .unset, .unset, .unset, .unset, .unset] [(.ref b1)]))
  have K2 : Keep h0 T2.heap [] := Keep.trans K1 Kc2 (allS (Or.inr sz_b1) all0)
  refine own_via (S' := T2.setTop (mkF m 41 #[.val (.int p1), .val (.int p2), .val (.long q3), .second, .val (.int nn), .val (.int kk), .val (.long cc), .second, .val (.ref b1), .unset, .unset, .unset, .unset, .unset, .unset, .unset] [(.long cc), (.ref b1)])) (fun t k => ?_) ?_
  · show Steps p.tables e below (T2.setTop (mkF m 35 #[.val (.int p1), .val (.int p2), .val (.long q3), .second, .val (.int nn), .val (.int kk), .val (.long cc), .second, .unset, .unset, .unset, .unset, .unset, .unset, .unset, .unset] [(.ref b1)])) t
    refine XS.astore X2.here hx rfl (hb hby at_35) rfl rfl (l' := #[.val (.int p1), .val (.int p2), .val (.long q3), .second, .val (.int nn), .val (.int kk), .val (.long cc), .second, .val (.ref b1), .unset, .unset, .unset, .unset, .unset, .unset, .unset]) rfl ?_
    show Steps p.tables e below (T2.setTop (mkF m 37 #[.val (.int p1), .val (.int p2), .val (.long q3), .second, .val (.int nn), .val (.int kk), .val (.long cc), .second, .val (.ref b1), .unset, .unset, .unset, .unset, .unset, .unset, .unset] [])) t
    refine XS.aload X2.here hx rfl (hb hby at_37) rfl rfl ?_
    show Steps p.tables e below (T2.setTop (mkF m 39 #[.val (.int p1), .val (.int p2), .val (.long q3), .second, .val (.int nn), .val (.int kk), .val (.long cc), .second, .val (.ref b1), .unset, .unset, .unset, .unset, .unset, .unset, .unset] [(.ref b1)])) t
    refine XS.lload X2.here hx rfl (hb hby at_39) rfl ?_
    exact k
  obtain ⟨cq3, kq3, q3a, q3b, q3c⟩ := isOf hZ rfl Ec2
  obtain ⟨_, _, ⟨T3, L3, k3, n3⟩, -, X3, ⟨Lc3, hQ3, l3, y3, z3⟩, st3⟩ := X2.virtualBack hx (y := (⟨"com/example/midstream/midstream/runtime/Split", "to", "(J)J"⟩ : MethodName)) (z := (⟨"com/example/midstream/midstream/runtime/Split", "to", "(J)J"⟩ : MethodName)) hown (mvT hZ (hw _ (List.mem_of_getElem? (i := 21) rfl))) (mvT hZ (hw _ (List.mem_of_getElem? (i := 22) rfl))) (notFace_of_selects (args := #[]) (mvT hZ (hw _ (List.mem_of_getElem? (i := 24) rfl)))) (mvT hZ (hw _ (List.mem_of_getElem? (i := 24) rfl))) (mvT hZ (hw _ (List.mem_of_getElem? (i := 23) rfl))) (by decide) (backOf (W := 0) (rm4 l Z a0 hw [] b1 cc kk nn T2.heap n0 (Nat.le_trans Z0 K2.1) Fc2_0 Fc2_1 (own_nzL hnn.1)) hZ (hw _ (List.mem_of_getElem? (i := 25) rfl)) (hw _ (List.mem_of_getElem? (i := 5) rfl)) (by decide) (by decide)) q3a q3c (g := (mkF m 41 #[.val (.int p1), .val (.int p2), .val (.long q3), .second, .val (.int nn), .val (.int kk), .val (.long cc), .second, .val (.ref b1), .unset, .unset, .unset, .unset, .unset, .unset, .unset] [(.long cc), (.ref b1)])) rfl (by rw [hml]; rfl) (Steps.refl _) (argsL := [(.long cc)]) (rest := []) (lenOf pd_2 rfl) rfl (by show 2 * 0 + _ ≤ _; exact Nat.le_of_eq rfl) (hb hby at_41) (fun _ _ => ⟨rfl, rfl, (by decide : 1 + 0 ≤ _), (by decide : 2 + 0 ≤ _)⟩)
  dsimp only [Pt.U, Pt.locs, Pt.cells, Pt.slots] at X3 l3 y3 z3 st3 hQ3
  subst l3 y3 z3
  obtain ⟨rfl, Nq3, hh3⟩ := hQ3
  have N3 := Fr.app N2 Nq3
  refine own_via (fun t k => st3.trans k) ?_
  show own_G p.tables e below _ (T3.setTop (mkF m 44 #[.val (.int p1), .val (.int p2), .val (.long q3), .second, .val (.int nn), .val (.int kk), .val (.long cc), .second, .val (.ref b1), .unset, .unset, .unset, .unset, .unset, .unset, .unset] [(.long (cc * (kk + (1 : Int32)).toInt64 / nn.toInt64))]))
  refine own_via (S' := T3.setTop (mkF m 46 #[.val (.int p1), .val (.int p2), .val (.long q3), .second, .val (.int nn), .val (.int kk), .val (.long cc), .second, .val (.ref b1), .val (.long (cc * (kk + (1 : Int32)).toInt64 / nn.toInt64)), .second, .unset, .unset, .unset, .unset, .unset] [])) (fun t k => ?_) ?_
  · show Steps p.tables e below (T3.setTop (mkF m 44 #[.val (.int p1), .val (.int p2), .val (.long q3), .second, .val (.int nn), .val (.int kk), .val (.long cc), .second, .val (.ref b1), .unset, .unset, .unset, .unset, .unset, .unset, .unset] [(.long (cc * (kk + (1 : Int32)).toInt64 / nn.toInt64))])) t
    refine XS.lstore X3.here hx rfl (hb hby at_44) rfl (l' := #[.val (.int p1), .val (.int p2), .val (.long q3), .second, .val (.int nn), .val (.int kk), .val (.long cc), .second, .val (.ref b1), .val (.long (cc * (kk + (1 : Int32)).toInt64 / nn.toInt64)), .second, .unset, .unset, .unset, .unset, .unset]) rfl ?_
    exact k
  obtain ⟨tt, hn_tt⟩ : ∃ z, z = (cc * (kk + (1 : Int32)).toInt64 / nn.toInt64) := ⟨_, rfl⟩
  rw [← hn_tt]
  show own_G p.tables e below _ (T3.setTop (mkF m 46 #[.val (.int p1), .val (.int p2), .val (.long q3), .second, .val (.int nn), .val (.int kk), .val (.long cc), .second, .val (.ref b1), .val (.long tt), .second, .unset, .unset, .unset, .unset, .unset] []))
  have hall := own_all kk nn cc tt hnn hkk hcc hn_tt
  refine own_via (S' := T3.setTop (mkF m 50 #[.val (.int p1), .val (.int p2), .val (.long q3), .second, .val (.int nn), .val (.int kk), .val (.long cc), .second, .val (.ref b1), .val (.long tt), .second, .unset, .unset, .unset, .unset, .unset] [(.int (lcmpW tt (0 : Int64)))])) (fun t k => ?_) ?_
  · show Steps p.tables e below (T3.setTop (mkF m 46 #[.val (.int p1), .val (.int p2), .val (.long q3), .second, .val (.int nn), .val (.int kk), .val (.long cc), .second, .val (.ref b1), .val (.long tt), .second, .unset, .unset, .unset, .unset, .unset] [])) t
    refine XS.lload X3.here hx rfl (hb hby at_46) rfl ?_
    show Steps p.tables e below (T3.setTop (mkF m 48 #[.val (.int p1), .val (.int p2), .val (.long q3), .second, .val (.int nn), .val (.int kk), .val (.long cc), .second, .val (.ref b1), .val (.long tt), .second, .unset, .unset, .unset, .unset, .unset] [(.long tt)])) t
    refine XS.lconst X3.here hx rfl (hb hby at_48) ?_
    show Steps p.tables e below (T3.setTop (mkF m 49 #[.val (.int p1), .val (.int p2), .val (.long q3), .second, .val (.int nn), .val (.int kk), .val (.long cc), .second, .val (.ref b1), .val (.long tt), .second, .unset, .unset, .unset, .unset, .unset] [(.long (0 : Int64)), (.long tt)])) t
    refine XS.lcmp X3.here hx rfl (hb hby at_49) rfl ?_
    exact k
  refine own_via (S' := T3.setTop (mkF m 53 #[.val (.int p1), .val (.int p2), .val (.long q3), .second, .val (.int nn), .val (.int kk), .val (.long cc), .second, .val (.ref b1), .val (.long tt), .second, .unset, .unset, .unset, .unset, .unset] [])) (fun t k => XS.ifNo (g := (mkF m 50 #[.val (.int p1), .val (.int p2), .val (.long q3), .second, .val (.int nn), .val (.int kk), .val (.long cc), .second, .val (.ref b1), .val (.long tt), .second, .unset, .unset, .unset, .unset, .unset] [(.int (lcmpW tt (0 : Int64)))])) X3.here hx rfl (hb hby at_50) rfl ((if0 _ _).trans (flt (fun q => hall.1 ((lw_lt tt (0 : Int64)).mp q))).1) k) ?_
  refine own_via (S' := T3.setTop (mkF m 58 #[.val (.int p1), .val (.int p2), .val (.long q3), .second, .val (.int nn), .val (.int kk), .val (.long cc), .second, .val (.ref b1), .val (.long tt), .second, .unset, .unset, .unset, .unset, .unset] [(.int (lcmpW tt cc))])) (fun t k => ?_) ?_
  · show Steps p.tables e below (T3.setTop (mkF m 53 #[.val (.int p1), .val (.int p2), .val (.long q3), .second, .val (.int nn), .val (.int kk), .val (.long cc), .second, .val (.ref b1), .val (.long tt), .second, .unset, .unset, .unset, .unset, .unset] [])) t
    refine XS.lload X3.here hx rfl (hb hby at_53) rfl ?_
    show Steps p.tables e below (T3.setTop (mkF m 55 #[.val (.int p1), .val (.int p2), .val (.long q3), .second, .val (.int nn), .val (.int kk), .val (.long cc), .second, .val (.ref b1), .val (.long tt), .second, .unset, .unset, .unset, .unset, .unset] [(.long tt)])) t
    refine XS.lload X3.here hx rfl (hb hby at_55) rfl ?_
    show Steps p.tables e below (T3.setTop (mkF m 57 #[.val (.int p1), .val (.int p2), .val (.long q3), .second, .val (.int nn), .val (.int kk), .val (.long cc), .second, .val (.ref b1), .val (.long tt), .second, .unset, .unset, .unset, .unset, .unset] [(.long cc), (.long tt)])) t
    refine XS.lcmp X3.here hx rfl (hb hby at_57) rfl ?_
    exact k
  refine own_via (S' := T3.setTop (mkF m 63 #[.val (.int p1), .val (.int p2), .val (.long q3), .second, .val (.int nn), .val (.int kk), .val (.long cc), .second, .val (.ref b1), .val (.long tt), .second, .unset, .unset, .unset, .unset, .unset] [])) (fun t k => XS.ifYes (g := (mkF m 58 #[.val (.int p1), .val (.int p2), .val (.long q3), .second, .val (.int nn), .val (.int kk), .val (.long cc), .second, .val (.ref b1), .val (.long tt), .second, .unset, .unset, .unset, .unset, .unset] [(.int (lcmpW tt cc))])) X3.here hx rfl (pc0 := 58) (pc' := 63) rfl (hb hby at_58) rfl ((if0 _ _).trans (flt (fun q => hall.2.1 ((lw_gt tt cc).mp q))).2.2.2) (by decide) (by decide) k) ?_
  refine own_via (S' := T3.setTop (mkF m 86 #[.val (.int p1), .val (.int p2), .val (.long q3), .second, .val (.int nn), .val (.int kk), .val (.long cc), .second, .val (.ref b1), .val (.long tt), .second, .val (.long (cc * ((kk + (1 : Int32)).toInt64))), .second, .val (.long (tt * (nn.toInt64))), .second, .unset] [(.int (lcmpW (tt * (nn.toInt64)) (cc * ((kk + (1 : Int32)).toInt64))))])) (fun t k => ?_) ?_
  · show Steps p.tables e below (T3.setTop (mkF m 63 #[.val (.int p1), .val (.int p2), .val (.long q3), .second, .val (.int nn), .val (.int kk), .val (.long cc), .second, .val (.ref b1), .val (.long tt), .second, .unset, .unset, .unset, .unset, .unset] [])) t
    refine XS.lload X3.here hx rfl (hb hby at_63) rfl ?_
    show Steps p.tables e below (T3.setTop (mkF m 65 #[.val (.int p1), .val (.int p2), .val (.long q3), .second, .val (.int nn), .val (.int kk), .val (.long cc), .second, .val (.ref b1), .val (.long tt), .second, .unset, .unset, .unset, .unset, .unset] [(.long cc)])) t
    refine XS.iload X3.here hx rfl (hb hby at_65) rfl ?_
    show Steps p.tables e below (T3.setTop (mkF m 67 #[.val (.int p1), .val (.int p2), .val (.long q3), .second, .val (.int nn), .val (.int kk), .val (.long cc), .second, .val (.ref b1), .val (.long tt), .second, .unset, .unset, .unset, .unset, .unset] [(.int kk), (.long cc)])) t
    refine XS.iconst X3.here hx rfl (hb hby at_67) ?_
    show Steps p.tables e below (T3.setTop (mkF m 68 #[.val (.int p1), .val (.int p2), .val (.long q3), .second, .val (.int nn), .val (.int kk), .val (.long cc), .second, .val (.ref b1), .val (.long tt), .second, .unset, .unset, .unset, .unset, .unset] [(.int (1 : Int32)), (.int kk), (.long cc)])) t
    refine XS.iadd X3.here hx rfl (hb hby at_68) rfl ?_
    show Steps p.tables e below (T3.setTop (mkF m 69 #[.val (.int p1), .val (.int p2), .val (.long q3), .second, .val (.int nn), .val (.int kk), .val (.long cc), .second, .val (.ref b1), .val (.long tt), .second, .unset, .unset, .unset, .unset, .unset] [(.int (kk + (1 : Int32))), (.long cc)])) t
    refine XS.i2l X3.here hx rfl (hb hby at_69) rfl ?_
    show Steps p.tables e below (T3.setTop (mkF m 70 #[.val (.int p1), .val (.int p2), .val (.long q3), .second, .val (.int nn), .val (.int kk), .val (.long cc), .second, .val (.ref b1), .val (.long tt), .second, .unset, .unset, .unset, .unset, .unset] [(.long ((kk + (1 : Int32)).toInt64)), (.long cc)])) t
    refine XS.lmul X3.here hx rfl (hb hby at_70) rfl ?_
    show Steps p.tables e below (T3.setTop (mkF m 71 #[.val (.int p1), .val (.int p2), .val (.long q3), .second, .val (.int nn), .val (.int kk), .val (.long cc), .second, .val (.ref b1), .val (.long tt), .second, .unset, .unset, .unset, .unset, .unset] [(.long (cc * ((kk + (1 : Int32)).toInt64)))])) t
    refine XS.lstore X3.here hx rfl (hb hby at_71) rfl (l' := #[.val (.int p1), .val (.int p2), .val (.long q3), .second, .val (.int nn), .val (.int kk), .val (.long cc), .second, .val (.ref b1), .val (.long tt), .second, .val (.long (cc * ((kk + (1 : Int32)).toInt64))), .second, .unset, .unset, .unset]) rfl ?_
    show Steps p.tables e below (T3.setTop (mkF m 73 #[.val (.int p1), .val (.int p2), .val (.long q3), .second, .val (.int nn), .val (.int kk), .val (.long cc), .second, .val (.ref b1), .val (.long tt), .second, .val (.long (cc * ((kk + (1 : Int32)).toInt64))), .second, .unset, .unset, .unset] [])) t
    refine XS.lload X3.here hx rfl (hb hby at_73) rfl ?_
    show Steps p.tables e below (T3.setTop (mkF m 75 #[.val (.int p1), .val (.int p2), .val (.long q3), .second, .val (.int nn), .val (.int kk), .val (.long cc), .second, .val (.ref b1), .val (.long tt), .second, .val (.long (cc * ((kk + (1 : Int32)).toInt64))), .second, .unset, .unset, .unset] [(.long tt)])) t
    refine XS.iload X3.here hx rfl (hb hby at_75) rfl ?_
    show Steps p.tables e below (T3.setTop (mkF m 77 #[.val (.int p1), .val (.int p2), .val (.long q3), .second, .val (.int nn), .val (.int kk), .val (.long cc), .second, .val (.ref b1), .val (.long tt), .second, .val (.long (cc * ((kk + (1 : Int32)).toInt64))), .second, .unset, .unset, .unset] [(.int nn), (.long tt)])) t
    refine XS.i2l X3.here hx rfl (hb hby at_77) rfl ?_
    show Steps p.tables e below (T3.setTop (mkF m 78 #[.val (.int p1), .val (.int p2), .val (.long q3), .second, .val (.int nn), .val (.int kk), .val (.long cc), .second, .val (.ref b1), .val (.long tt), .second, .val (.long (cc * ((kk + (1 : Int32)).toInt64))), .second, .unset, .unset, .unset] [(.long (nn.toInt64)), (.long tt)])) t
    refine XS.lmul X3.here hx rfl (hb hby at_78) rfl ?_
    show Steps p.tables e below (T3.setTop (mkF m 79 #[.val (.int p1), .val (.int p2), .val (.long q3), .second, .val (.int nn), .val (.int kk), .val (.long cc), .second, .val (.ref b1), .val (.long tt), .second, .val (.long (cc * ((kk + (1 : Int32)).toInt64))), .second, .unset, .unset, .unset] [(.long (tt * (nn.toInt64)))])) t
    refine XS.lstore X3.here hx rfl (hb hby at_79) rfl (l' := #[.val (.int p1), .val (.int p2), .val (.long q3), .second, .val (.int nn), .val (.int kk), .val (.long cc), .second, .val (.ref b1), .val (.long tt), .second, .val (.long (cc * ((kk + (1 : Int32)).toInt64))), .second, .val (.long (tt * (nn.toInt64))), .second, .unset]) rfl ?_
    show Steps p.tables e below (T3.setTop (mkF m 81 #[.val (.int p1), .val (.int p2), .val (.long q3), .second, .val (.int nn), .val (.int kk), .val (.long cc), .second, .val (.ref b1), .val (.long tt), .second, .val (.long (cc * ((kk + (1 : Int32)).toInt64))), .second, .val (.long (tt * (nn.toInt64))), .second, .unset] [])) t
    refine XS.lload X3.here hx rfl (hb hby at_81) rfl ?_
    show Steps p.tables e below (T3.setTop (mkF m 83 #[.val (.int p1), .val (.int p2), .val (.long q3), .second, .val (.int nn), .val (.int kk), .val (.long cc), .second, .val (.ref b1), .val (.long tt), .second, .val (.long (cc * ((kk + (1 : Int32)).toInt64))), .second, .val (.long (tt * (nn.toInt64))), .second, .unset] [(.long (tt * (nn.toInt64)))])) t
    refine XS.lload X3.here hx rfl (hb hby at_83) rfl ?_
    show Steps p.tables e below (T3.setTop (mkF m 85 #[.val (.int p1), .val (.int p2), .val (.long q3), .second, .val (.int nn), .val (.int kk), .val (.long cc), .second, .val (.ref b1), .val (.long tt), .second, .val (.long (cc * ((kk + (1 : Int32)).toInt64))), .second, .val (.long (tt * (nn.toInt64))), .second, .unset] [(.long (cc * ((kk + (1 : Int32)).toInt64))), (.long (tt * (nn.toInt64)))])) t
    refine XS.lcmp X3.here hx rfl (hb hby at_85) rfl ?_
    exact k
  refine own_via (S' := T3.setTop (mkF m 91 #[.val (.int p1), .val (.int p2), .val (.long q3), .second, .val (.int nn), .val (.int kk), .val (.long cc), .second, .val (.ref b1), .val (.long tt), .second, .val (.long (cc * ((kk + (1 : Int32)).toInt64))), .second, .val (.long (tt * (nn.toInt64))), .second, .unset] [])) (fun t k => XS.ifYes (g := (mkF m 86 #[.val (.int p1), .val (.int p2), .val (.long q3), .second, .val (.int nn), .val (.int kk), .val (.long cc), .second, .val (.ref b1), .val (.long tt), .second, .val (.long (cc * ((kk + (1 : Int32)).toInt64))), .second, .val (.long (tt * (nn.toInt64))), .second, .unset] [(.int (lcmpW (tt * (nn.toInt64)) (cc * ((kk + (1 : Int32)).toInt64))))])) X3.here hx rfl (pc0 := 86) (pc' := 91) rfl (hb hby at_86) rfl ((if0 _ _).trans (flt (fun q => hall.2.2.1 ((lw_gt (tt * (nn.toInt64)) (cc * ((kk + (1 : Int32)).toInt64))).mp q))).2.2.2) (by decide) (by decide) k) ?_
  refine own_via (S' := T3.setTop (mkF m 100 #[.val (.int p1), .val (.int p2), .val (.long q3), .second, .val (.int nn), .val (.int kk), .val (.long cc), .second, .val (.ref b1), .val (.long tt), .second, .val (.long (cc * ((kk + (1 : Int32)).toInt64))), .second, .val (.long (tt * (nn.toInt64))), .second, .unset] [(.int (lcmpW ((cc * ((kk + (1 : Int32)).toInt64)) - (tt * (nn.toInt64))) (nn.toInt64)))])) (fun t k => ?_) ?_
  · show Steps p.tables e below (T3.setTop (mkF m 91 #[.val (.int p1), .val (.int p2), .val (.long q3), .second, .val (.int nn), .val (.int kk), .val (.long cc), .second, .val (.ref b1), .val (.long tt), .second, .val (.long (cc * ((kk + (1 : Int32)).toInt64))), .second, .val (.long (tt * (nn.toInt64))), .second, .unset] [])) t
    refine XS.lload X3.here hx rfl (hb hby at_91) rfl ?_
    show Steps p.tables e below (T3.setTop (mkF m 93 #[.val (.int p1), .val (.int p2), .val (.long q3), .second, .val (.int nn), .val (.int kk), .val (.long cc), .second, .val (.ref b1), .val (.long tt), .second, .val (.long (cc * ((kk + (1 : Int32)).toInt64))), .second, .val (.long (tt * (nn.toInt64))), .second, .unset] [(.long (cc * ((kk + (1 : Int32)).toInt64)))])) t
    refine XS.lload X3.here hx rfl (hb hby at_93) rfl ?_
    show Steps p.tables e below (T3.setTop (mkF m 95 #[.val (.int p1), .val (.int p2), .val (.long q3), .second, .val (.int nn), .val (.int kk), .val (.long cc), .second, .val (.ref b1), .val (.long tt), .second, .val (.long (cc * ((kk + (1 : Int32)).toInt64))), .second, .val (.long (tt * (nn.toInt64))), .second, .unset] [(.long (tt * (nn.toInt64))), (.long (cc * ((kk + (1 : Int32)).toInt64)))])) t
    refine XS.lsub X3.here hx rfl (hb hby at_95) rfl ?_
    show Steps p.tables e below (T3.setTop (mkF m 96 #[.val (.int p1), .val (.int p2), .val (.long q3), .second, .val (.int nn), .val (.int kk), .val (.long cc), .second, .val (.ref b1), .val (.long tt), .second, .val (.long (cc * ((kk + (1 : Int32)).toInt64))), .second, .val (.long (tt * (nn.toInt64))), .second, .unset] [(.long ((cc * ((kk + (1 : Int32)).toInt64)) - (tt * (nn.toInt64))))])) t
    refine XS.iload X3.here hx rfl (hb hby at_96) rfl ?_
    show Steps p.tables e below (T3.setTop (mkF m 98 #[.val (.int p1), .val (.int p2), .val (.long q3), .second, .val (.int nn), .val (.int kk), .val (.long cc), .second, .val (.ref b1), .val (.long tt), .second, .val (.long (cc * ((kk + (1 : Int32)).toInt64))), .second, .val (.long (tt * (nn.toInt64))), .second, .unset] [(.int nn), (.long ((cc * ((kk + (1 : Int32)).toInt64)) - (tt * (nn.toInt64))))])) t
    refine XS.i2l X3.here hx rfl (hb hby at_98) rfl ?_
    show Steps p.tables e below (T3.setTop (mkF m 99 #[.val (.int p1), .val (.int p2), .val (.long q3), .second, .val (.int nn), .val (.int kk), .val (.long cc), .second, .val (.ref b1), .val (.long tt), .second, .val (.long (cc * ((kk + (1 : Int32)).toInt64))), .second, .val (.long (tt * (nn.toInt64))), .second, .unset] [(.long (nn.toInt64)), (.long ((cc * ((kk + (1 : Int32)).toInt64)) - (tt * (nn.toInt64))))])) t
    refine XS.lcmp X3.here hx rfl (hb hby at_99) rfl ?_
    exact k
  refine own_via (S' := T3.setTop (mkF m 105 #[.val (.int p1), .val (.int p2), .val (.long q3), .second, .val (.int nn), .val (.int kk), .val (.long cc), .second, .val (.ref b1), .val (.long tt), .second, .val (.long (cc * ((kk + (1 : Int32)).toInt64))), .second, .val (.long (tt * (nn.toInt64))), .second, .unset] [])) (fun t k => XS.ifYes (g := (mkF m 100 #[.val (.int p1), .val (.int p2), .val (.long q3), .second, .val (.int nn), .val (.int kk), .val (.long cc), .second, .val (.ref b1), .val (.long tt), .second, .val (.long (cc * ((kk + (1 : Int32)).toInt64))), .second, .val (.long (tt * (nn.toInt64))), .second, .unset] [(.int (lcmpW ((cc * ((kk + (1 : Int32)).toInt64)) - (tt * (nn.toInt64))) (nn.toInt64)))])) X3.here hx rfl (pc0 := 100) (pc' := 105) rfl (hb hby at_100) rfl ((if0 _ _).trans (tlt ((lw_lt ((cc * ((kk + (1 : Int32)).toInt64)) - (tt * (nn.toInt64))) (nn.toInt64)).mpr hall.2.2.2.1)).1) (by decide) (by decide) k) ?_
  refine own_via (S' := T3.setTop (mkF m 111 #[.val (.int p1), .val (.int p2), .val (.long q3), .second, .val (.int nn), .val (.int kk), .val (.long cc), .second, .val (.ref b1), .val (.long tt), .second, .val (.long (cc * ((kk + (1 : Int32)).toInt64))), .second, .val (.long (tt * (nn.toInt64))), .second, .unset] [(.int nn), (.int (kk + (1 : Int32)))])) (fun t k => ?_) ?_
  · show Steps p.tables e below (T3.setTop (mkF m 105 #[.val (.int p1), .val (.int p2), .val (.long q3), .second, .val (.int nn), .val (.int kk), .val (.long cc), .second, .val (.ref b1), .val (.long tt), .second, .val (.long (cc * ((kk + (1 : Int32)).toInt64))), .second, .val (.long (tt * (nn.toInt64))), .second, .unset] [])) t
    refine XS.iload X3.here hx rfl (hb hby at_105) rfl ?_
    show Steps p.tables e below (T3.setTop (mkF m 107 #[.val (.int p1), .val (.int p2), .val (.long q3), .second, .val (.int nn), .val (.int kk), .val (.long cc), .second, .val (.ref b1), .val (.long tt), .second, .val (.long (cc * ((kk + (1 : Int32)).toInt64))), .second, .val (.long (tt * (nn.toInt64))), .second, .unset] [(.int kk)])) t
    refine XS.iconst X3.here hx rfl (hb hby at_107) ?_
    show Steps p.tables e below (T3.setTop (mkF m 108 #[.val (.int p1), .val (.int p2), .val (.long q3), .second, .val (.int nn), .val (.int kk), .val (.long cc), .second, .val (.ref b1), .val (.long tt), .second, .val (.long (cc * ((kk + (1 : Int32)).toInt64))), .second, .val (.long (tt * (nn.toInt64))), .second, .unset] [(.int (1 : Int32)), (.int kk)])) t
    refine XS.iadd X3.here hx rfl (hb hby at_108) rfl ?_
    show Steps p.tables e below (T3.setTop (mkF m 109 #[.val (.int p1), .val (.int p2), .val (.long q3), .second, .val (.int nn), .val (.int kk), .val (.long cc), .second, .val (.ref b1), .val (.long tt), .second, .val (.long (cc * ((kk + (1 : Int32)).toInt64))), .second, .val (.long (tt * (nn.toInt64))), .second, .unset] [(.int (kk + (1 : Int32)))])) t
    refine XS.iload X3.here hx rfl (hb hby at_109) rfl ?_
    exact k
  by_cases hc111_8 : (kk + (1 : Int32)) < nn
  · refine own_via (S' := T3.setTop (mkF m 114 #[.val (.int p1), .val (.int p2), .val (.long q3), .second, .val (.int nn), .val (.int kk), .val (.long cc), .second, .val (.ref b1), .val (.long tt), .second, .val (.long (cc * ((kk + (1 : Int32)).toInt64))), .second, .val (.long (tt * (nn.toInt64))), .second, .unset] [])) (fun t k => XS.icmpNo (g := (mkF m 111 #[.val (.int p1), .val (.int p2), .val (.long q3), .second, .val (.int nn), .val (.int kk), .val (.long cc), .second, .val (.ref b1), .val (.long tt), .second, .val (.long (cc * ((kk + (1 : Int32)).toInt64))), .second, .val (.long (tt * (nn.toInt64))), .second, .unset] [(.int nn), (.int (kk + (1 : Int32)))])) X3.here hx rfl (hb hby at_111) rfl (tlt hc111_8).2.1 k) ?_
    obtain ⟨T9, h9, X9, e9, E9, A9, D9, -, st9⟩ := newO X3 hx hZ hown (hw _ (List.mem_of_getElem? (i := 3) rfl)) (hw _ (List.mem_of_getElem? (i := 4) rfl)) (hw _ (List.mem_of_getElem? (i := 5) rfl)) hh3 (g := (mkF m 114 #[.val (.int p1), .val (.int p2), .val (.long q3), .second, .val (.int nn), .val (.int kk), .val (.long cc), .second, .val (.ref b1), .val (.long tt), .second, .val (.long (cc * ((kk + (1 : Int32)).toInt64))), .second, .val (.long (tt * (nn.toInt64))), .second, .unset] [])) rfl (hb hby at_114) (by decide) (by decide)
    obtain ⟨b9, g9⟩ : ∃ z, z = T2.heap.size := ⟨_, rfl⟩
    have ne_b1_b9 : b1 ≠ b9 := Nat.ne_of_lt (Nat.lt_of_lt_of_le (Ec2).lt (Nat.le_of_eq g9.symm))
    have g_b9 : n0 ≤ b9 := Nat.le_trans (Nat.le_trans Z0 K2.1) (Nat.le_of_eq g9.symm)
    have sz_b9 : h0.size ≤ b9 := Nat.le_trans K2.1 (Nat.le_of_eq g9.symm)
    rw [← g9] at A9 D9 st9
    have K9 : Keep h0 h9 [] := Keep.ext K2 E9
    have F_worker_b9 : Fld Z h9 b9 "com/example/midstream/midstream/runtime/Split" "worker" "I" (.int (0 : Int32)) := D9 (Or.inr (hw _ (List.mem_of_getElem? (i := 18) rfl))) (ty := .int) (by decide)
    have F_workers_b9 : Fld Z h9 b9 "com/example/midstream/midstream/runtime/Split" "workers" "I" (.int (0 : Int32)) := D9 (Or.inr (hw _ (List.mem_of_getElem? (i := 20) rfl))) (ty := .int) (by decide)
    refine own_via st9 ?_
    show own_G p.tables e below _ (T9.setTop (mkF m 117 #[.val (.int p1), .val (.int p2), .val (.long q3), .second, .val (.int nn), .val (.int kk), .val (.long cc), .second, .val (.ref b1), .val (.long tt), .second, .val (.long (cc * ((kk + (1 : Int32)).toInt64))), .second, .val (.long (tt * (nn.toInt64))), .second, .unset] [(.ref b9)]))
    refine own_via (S' := T9.setTop (mkF m 124 #[.val (.int p1), .val (.int p2), .val (.long q3), .second, .val (.int nn), .val (.int kk), .val (.long cc), .second, .val (.ref b1), .val (.long tt), .second, .val (.long (cc * ((kk + (1 : Int32)).toInt64))), .second, .val (.long (tt * (nn.toInt64))), .second, .unset] [(.int nn), (.int (kk + (1 : Int32))), (.ref b9), (.ref b9)])) (fun t k => ?_) ?_
    · show Steps p.tables e below (T9.setTop (mkF m 117 #[.val (.int p1), .val (.int p2), .val (.long q3), .second, .val (.int nn), .val (.int kk), .val (.long cc), .second, .val (.ref b1), .val (.long tt), .second, .val (.long (cc * ((kk + (1 : Int32)).toInt64))), .second, .val (.long (tt * (nn.toInt64))), .second, .unset] [(.ref b9)])) t
      refine XS.dup X9.here hx rfl (hb hby at_117) rfl rfl ?_
      show Steps p.tables e below (T9.setTop (mkF m 118 #[.val (.int p1), .val (.int p2), .val (.long q3), .second, .val (.int nn), .val (.int kk), .val (.long cc), .second, .val (.ref b1), .val (.long tt), .second, .val (.long (cc * ((kk + (1 : Int32)).toInt64))), .second, .val (.long (tt * (nn.toInt64))), .second, .unset] [(.ref b9), (.ref b9)])) t
      refine XS.iload X9.here hx rfl (hb hby at_118) rfl ?_
      show Steps p.tables e below (T9.setTop (mkF m 120 #[.val (.int p1), .val (.int p2), .val (.long q3), .second, .val (.int nn), .val (.int kk), .val (.long cc), .second, .val (.ref b1), .val (.long tt), .second, .val (.long (cc * ((kk + (1 : Int32)).toInt64))), .second, .val (.long (tt * (nn.toInt64))), .second, .unset] [(.int kk), (.ref b9), (.ref b9)])) t
      refine XS.iconst X9.here hx rfl (hb hby at_120) ?_
      show Steps p.tables e below (T9.setTop (mkF m 121 #[.val (.int p1), .val (.int p2), .val (.long q3), .second, .val (.int nn), .val (.int kk), .val (.long cc), .second, .val (.ref b1), .val (.long tt), .second, .val (.long (cc * ((kk + (1 : Int32)).toInt64))), .second, .val (.long (tt * (nn.toInt64))), .second, .unset] [(.int (1 : Int32)), (.int kk), (.ref b9), (.ref b9)])) t
      refine XS.iadd X9.here hx rfl (hb hby at_121) rfl ?_
      show Steps p.tables e below (T9.setTop (mkF m 122 #[.val (.int p1), .val (.int p2), .val (.long q3), .second, .val (.int nn), .val (.int kk), .val (.long cc), .second, .val (.ref b1), .val (.long tt), .second, .val (.long (cc * ((kk + (1 : Int32)).toInt64))), .second, .val (.long (tt * (nn.toInt64))), .second, .unset] [(.int (kk + (1 : Int32))), (.ref b9), (.ref b9)])) t
      refine XS.iload X9.here hx rfl (hb hby at_122) rfl ?_
      exact k
    obtain ⟨_, _, ⟨T10, L10, k10, n10⟩, -, X10, ⟨Lc10, hQ10, l10, y10, z10⟩, st10⟩ := X9.specialBack hx (y := (⟨"com/example/midstream/midstream/runtime/Split", "<init>", "(II)V"⟩ : MethodName)) rfl hown (mvT hZ (hw _ (List.mem_of_getElem? (i := 6) rfl))) (mvT hZ (hw _ (List.mem_of_getElem? (i := 7) rfl))) (mvT hZ (hw _ (List.mem_of_getElem? (i := 8) rfl))) (by decide) (backOf (W := 1) (rm1 l Z a0 hw [] b9 (kk + (1 : Int32)) nn h9 n0 (Nat.le_trans Z0 K9.1) F_worker_b9 F_workers_b9 A9 g_b9 (own_pre1 hnn hkk hc111_8)) hZ (hw _ (List.mem_of_getElem? (i := 8) rfl)) (hw _ (List.mem_of_getElem? (i := 5) rfl)) (by decide) (by decide)) (g := (mkF m 124 #[.val (.int p1), .val (.int p2), .val (.long q3), .second, .val (.int nn), .val (.int kk), .val (.long cc), .second, .val (.ref b1), .val (.long tt), .second, .val (.long (cc * ((kk + (1 : Int32)).toInt64))), .second, .val (.long (tt * (nn.toInt64))), .second, .unset] [(.int nn), (.int (kk + (1 : Int32))), (.ref b9), (.ref b9)])) rfl (by rw [hml]; rfl) (Steps.refl _) (a := b9) (argsL := [(.int (kk + (1 : Int32))), (.int nn)]) (rest := [(.ref b9)]) (lenOf pd_1 rfl) rfl (by show 2 * 0 + _ ≤ _; exact Nat.le_of_eq rfl) (hb hby at_124) (fun _ _ => ⟨rfl, e9, (by decide : 2 + 0 ≤ _), (by decide : 4 + 0 ≤ _)⟩)
    dsimp only [Pt.U, Pt.locs, Pt.cells, Pt.slots] at X10 l10 y10 z10 st10 hQ10
    subst l10 y10 z10
    obtain ⟨rfl, Nq10, Kc10, Ec10, Fc10_0, Fc10_1⟩ := hQ10
    have N10 := Fr.app N3 Nq10
    refine own_via (fun t k => st10.trans k) ?_
    show own_G p.tables e below _ (T10.setTop (mkF m 127 #[.val (.int p1), .val (.int p2), .val (.long q3), .second, .val (.int nn), .val (.int kk), .val (.long cc), .second, .val (.ref b1), .val (.long tt), .second, .val (.long (cc * ((kk + (1 : Int32)).toInt64))), .second, .val (.long (tt * (nn.toInt64))), .second, .unset] [(.ref b9)]))
    have K10 : Keep h0 T10.heap [] := Keep.trans K9 Kc10 (allS (Or.inr sz_b9) all0)
    refine own_via (S' := T10.setTop (mkF m 133 #[.val (.int p1), .val (.int p2), .val (.long q3), .second, .val (.int nn), .val (.int kk), .val (.long cc), .second, .val (.ref b1), .val (.long tt), .second, .val (.long (cc * ((kk + (1 : Int32)).toInt64))), .second, .val (.long (tt * (nn.toInt64))), .second, .val (.ref b9)] [(.long cc), (.ref b9)])) (fun t k => ?_) ?_
    · show Steps p.tables e below (T10.setTop (mkF m 127 #[.val (.int p1), .val (.int p2), .val (.long q3), .second, .val (.int nn), .val (.int kk), .val (.long cc), .second, .val (.ref b1), .val (.long tt), .second, .val (.long (cc * ((kk + (1 : Int32)).toInt64))), .second, .val (.long (tt * (nn.toInt64))), .second, .unset] [(.ref b9)])) t
      refine XS.astore X10.here hx rfl (hb hby at_127) rfl rfl (l' := #[.val (.int p1), .val (.int p2), .val (.long q3), .second, .val (.int nn), .val (.int kk), .val (.long cc), .second, .val (.ref b1), .val (.long tt), .second, .val (.long (cc * ((kk + (1 : Int32)).toInt64))), .second, .val (.long (tt * (nn.toInt64))), .second, .val (.ref b9)]) rfl ?_
      show Steps p.tables e below (T10.setTop (mkF m 129 #[.val (.int p1), .val (.int p2), .val (.long q3), .second, .val (.int nn), .val (.int kk), .val (.long cc), .second, .val (.ref b1), .val (.long tt), .second, .val (.long (cc * ((kk + (1 : Int32)).toInt64))), .second, .val (.long (tt * (nn.toInt64))), .second, .val (.ref b9)] [])) t
      refine XS.aload X10.here hx rfl (hb hby at_129) rfl rfl ?_
      show Steps p.tables e below (T10.setTop (mkF m 131 #[.val (.int p1), .val (.int p2), .val (.long q3), .second, .val (.int nn), .val (.int kk), .val (.long cc), .second, .val (.ref b1), .val (.long tt), .second, .val (.long (cc * ((kk + (1 : Int32)).toInt64))), .second, .val (.long (tt * (nn.toInt64))), .second, .val (.ref b9)] [(.ref b9)])) t
      refine XS.lload X10.here hx rfl (hb hby at_131) rfl ?_
      exact k
    obtain ⟨cq11, kq11, q11a, q11b, q11c⟩ := isOf hZ rfl Ec10
    obtain ⟨_, _, ⟨T11, L11, k11, n11⟩, -, X11, ⟨Lc11, hQ11, l11, y11, z11⟩, st11⟩ := X10.virtualBack hx (y := (⟨"com/example/midstream/midstream/runtime/Split", "from", "(J)J"⟩ : MethodName)) (z := (⟨"com/example/midstream/midstream/runtime/Split", "from", "(J)J"⟩ : MethodName)) hown (mvT hZ (hw _ (List.mem_of_getElem? (i := 26) rfl))) (mvT hZ (hw _ (List.mem_of_getElem? (i := 27) rfl))) (notFace_of_selects (args := #[]) (mvT hZ (hw _ (List.mem_of_getElem? (i := 29) rfl)))) (mvT hZ (hw _ (List.mem_of_getElem? (i := 29) rfl))) (mvT hZ (hw _ (List.mem_of_getElem? (i := 28) rfl))) (by decide) (backOf (W := 0) (rm5 l Z a0 hw [] b9 cc (kk + (1 : Int32)) nn T10.heap n0 (Nat.le_trans Z0 K10.1) Fc10_0 Fc10_1 (own_nzL hnn.1)) hZ (hw _ (List.mem_of_getElem? (i := 30) rfl)) (hw _ (List.mem_of_getElem? (i := 5) rfl)) (by decide) (by decide)) q11a q11c (g := (mkF m 133 #[.val (.int p1), .val (.int p2), .val (.long q3), .second, .val (.int nn), .val (.int kk), .val (.long cc), .second, .val (.ref b1), .val (.long tt), .second, .val (.long (cc * ((kk + (1 : Int32)).toInt64))), .second, .val (.long (tt * (nn.toInt64))), .second, .val (.ref b9)] [(.long cc), (.ref b9)])) rfl (by rw [hml]; rfl) (Steps.refl _) (argsL := [(.long cc)]) (rest := []) (lenOf pd_2 rfl) rfl (by show 2 * 0 + _ ≤ _; exact Nat.le_of_eq rfl) (hb hby at_133) (fun _ _ => ⟨rfl, rfl, (by decide : 2 + 0 ≤ _), (by decide : 4 + 0 ≤ _)⟩)
    dsimp only [Pt.U, Pt.locs, Pt.cells, Pt.slots] at X11 l11 y11 z11 st11 hQ11
    subst l11 y11 z11
    obtain ⟨rfl, Nq11, hh11⟩ := hQ11
    have N11 := Fr.app N10 Nq11
    refine own_via (fun t k => st11.trans k) ?_
    show own_G p.tables e below _ (T11.setTop (mkF m 136 #[.val (.int p1), .val (.int p2), .val (.long q3), .second, .val (.int nn), .val (.int kk), .val (.long cc), .second, .val (.ref b1), .val (.long tt), .second, .val (.long (cc * ((kk + (1 : Int32)).toInt64))), .second, .val (.long (tt * (nn.toInt64))), .second, .val (.ref b9)] [(.long (cc * (kk + (1 : Int32)).toInt64 / nn.toInt64))]))
    refine own_via (S' := T11.setTop (mkF m 139 #[.val (.int p1), .val (.int p2), .val (.long q3), .second, .val (.int nn), .val (.int kk), .val (.long cc), .second, .val (.ref b1), .val (.long tt), .second, .val (.long (cc * ((kk + (1 : Int32)).toInt64))), .second, .val (.long (tt * (nn.toInt64))), .second, .val (.ref b9)] [(.int (lcmpW (cc * (kk + (1 : Int32)).toInt64 / nn.toInt64) tt))])) (fun t k => ?_) ?_
    · show Steps p.tables e below (T11.setTop (mkF m 136 #[.val (.int p1), .val (.int p2), .val (.long q3), .second, .val (.int nn), .val (.int kk), .val (.long cc), .second, .val (.ref b1), .val (.long tt), .second, .val (.long (cc * ((kk + (1 : Int32)).toInt64))), .second, .val (.long (tt * (nn.toInt64))), .second, .val (.ref b9)] [(.long (cc * (kk + (1 : Int32)).toInt64 / nn.toInt64))])) t
      refine XS.lload X11.here hx rfl (hb hby at_136) rfl ?_
      show Steps p.tables e below (T11.setTop (mkF m 138 #[.val (.int p1), .val (.int p2), .val (.long q3), .second, .val (.int nn), .val (.int kk), .val (.long cc), .second, .val (.ref b1), .val (.long tt), .second, .val (.long (cc * ((kk + (1 : Int32)).toInt64))), .second, .val (.long (tt * (nn.toInt64))), .second, .val (.ref b9)] [(.long tt), (.long (cc * (kk + (1 : Int32)).toInt64 / nn.toInt64))])) t
      refine XS.lcmp X11.here hx rfl (hb hby at_138) rfl ?_
      exact k
    refine own_via (S' := T11.setTop (mkF m 142 #[.val (.int p1), .val (.int p2), .val (.long q3), .second, .val (.int nn), .val (.int kk), .val (.long cc), .second, .val (.ref b1), .val (.long tt), .second, .val (.long (cc * ((kk + (1 : Int32)).toInt64))), .second, .val (.long (tt * (nn.toInt64))), .second, .val (.ref b9)] [])) (fun t k => XS.ifNo (g := (mkF m 139 #[.val (.int p1), .val (.int p2), .val (.long q3), .second, .val (.int nn), .val (.int kk), .val (.long cc), .second, .val (.ref b1), .val (.long tt), .second, .val (.long (cc * ((kk + (1 : Int32)).toInt64))), .second, .val (.long (tt * (nn.toInt64))), .second, .val (.ref b9)] [(.int (lcmpW (cc * (kk + (1 : Int32)).toInt64 / nn.toInt64) tt))])) X11.here hx rfl (hb hby at_139) rfl ((if0 _ _).trans (teq ((lw_eq (cc * (kk + (1 : Int32)).toInt64 / nn.toInt64) tt).mpr hn_tt.symm)).2) k) ?_
    refine own_via (S' := T11.setTop (mkF m 147 #[.val (.int p1), .val (.int p2), .val (.long q3), .second, .val (.int nn), .val (.int kk), .val (.long cc), .second, .val (.ref b1), .val (.long tt), .second, .val (.long (cc * ((kk + (1 : Int32)).toInt64))), .second, .val (.long (tt * (nn.toInt64))), .second, .val (.ref b9)] [(.int (1 : Int32))])) (fun t k => ?_) ?_
    · show Steps p.tables e below (T11.setTop (mkF m 142 #[.val (.int p1), .val (.int p2), .val (.long q3), .second, .val (.int nn), .val (.int kk), .val (.long cc), .second, .val (.ref b1), .val (.long tt), .second, .val (.long (cc * ((kk + (1 : Int32)).toInt64))), .second, .val (.long (tt * (nn.toInt64))), .second, .val (.ref b9)] [])) t
      refine XS.iconst X11.here hx rfl (hb hby at_142) ?_
      show Steps p.tables e below (T11.setTop (mkF m 143 #[.val (.int p1), .val (.int p2), .val (.long q3), .second, .val (.int nn), .val (.int kk), .val (.long cc), .second, .val (.ref b1), .val (.long tt), .second, .val (.long (cc * ((kk + (1 : Int32)).toInt64))), .second, .val (.long (tt * (nn.toInt64))), .second, .val (.ref b9)] [(.int (1 : Int32))])) t
      refine XS.goto X11.here hx rfl (pc0 := 143) (pc' := 147) rfl (hb hby at_143) (by decide) (by decide) ?_
      exact k
    exact own_end (h := T10.heap) X11 (v := some (.int (1 : Int32))) Bd.notSynchronized (fun h => by rw [Bd.returns] at h; cases h) (fun fs hr => retN X11 hx (t := .boolean) Bd.returns (by simp) (hb hby at_147) hr) hh11 ⟨rfl, N11⟩ (by decide) (by decide)
  · refine own_via (S' := T3.setTop (mkF m 148 #[.val (.int p1), .val (.int p2), .val (.long q3), .second, .val (.int nn), .val (.int kk), .val (.long cc), .second, .val (.ref b1), .val (.long tt), .second, .val (.long (cc * ((kk + (1 : Int32)).toInt64))), .second, .val (.long (tt * (nn.toInt64))), .second, .unset] [])) (fun t k => XS.icmpYes (g := (mkF m 111 #[.val (.int p1), .val (.int p2), .val (.long q3), .second, .val (.int nn), .val (.int kk), .val (.long cc), .second, .val (.ref b1), .val (.long tt), .second, .val (.long (cc * ((kk + (1 : Int32)).toInt64))), .second, .val (.long (tt * (nn.toInt64))), .second, .unset] [(.int nn), (.int (kk + (1 : Int32)))])) X3.here hx rfl (pc0 := 111) (pc' := 148) rfl (hb hby at_111) rfl (flt hc111_8).2.1 (by decide) (by decide) k) ?_
    refine own_via (S' := T3.setTop (mkF m 153 #[.val (.int p1), .val (.int p2), .val (.long q3), .second, .val (.int nn), .val (.int kk), .val (.long cc), .second, .val (.ref b1), .val (.long tt), .second, .val (.long (cc * ((kk + (1 : Int32)).toInt64))), .second, .val (.long (tt * (nn.toInt64))), .second, .unset] [(.int (lcmpW tt cc))])) (fun t k => ?_) ?_
    · show Steps p.tables e below (T3.setTop (mkF m 148 #[.val (.int p1), .val (.int p2), .val (.long q3), .second, .val (.int nn), .val (.int kk), .val (.long cc), .second, .val (.ref b1), .val (.long tt), .second, .val (.long (cc * ((kk + (1 : Int32)).toInt64))), .second, .val (.long (tt * (nn.toInt64))), .second, .unset] [])) t
      refine XS.lload X3.here hx rfl (hb hby at_148) rfl ?_
      show Steps p.tables e below (T3.setTop (mkF m 150 #[.val (.int p1), .val (.int p2), .val (.long q3), .second, .val (.int nn), .val (.int kk), .val (.long cc), .second, .val (.ref b1), .val (.long tt), .second, .val (.long (cc * ((kk + (1 : Int32)).toInt64))), .second, .val (.long (tt * (nn.toInt64))), .second, .unset] [(.long tt)])) t
      refine XS.lload X3.here hx rfl (hb hby at_150) rfl ?_
      show Steps p.tables e below (T3.setTop (mkF m 152 #[.val (.int p1), .val (.int p2), .val (.long q3), .second, .val (.int nn), .val (.int kk), .val (.long cc), .second, .val (.ref b1), .val (.long tt), .second, .val (.long (cc * ((kk + (1 : Int32)).toInt64))), .second, .val (.long (tt * (nn.toInt64))), .second, .unset] [(.long cc), (.long tt)])) t
      refine XS.lcmp X3.here hx rfl (hb hby at_152) rfl ?_
      exact k
    refine own_via (S' := T3.setTop (mkF m 156 #[.val (.int p1), .val (.int p2), .val (.long q3), .second, .val (.int nn), .val (.int kk), .val (.long cc), .second, .val (.ref b1), .val (.long tt), .second, .val (.long (cc * ((kk + (1 : Int32)).toInt64))), .second, .val (.long (tt * (nn.toInt64))), .second, .unset] [])) (fun t k => XS.ifNo (g := (mkF m 153 #[.val (.int p1), .val (.int p2), .val (.long q3), .second, .val (.int nn), .val (.int kk), .val (.long cc), .second, .val (.ref b1), .val (.long tt), .second, .val (.long (cc * ((kk + (1 : Int32)).toInt64))), .second, .val (.long (tt * (nn.toInt64))), .second, .unset] [(.int (lcmpW tt cc))])) X3.here hx rfl (hb hby at_153) rfl ((if0 _ _).trans (teq ((lw_eq tt cc).mpr (hall.2.2.2.2 hc111_8))).2) k) ?_
    refine own_via (S' := T3.setTop (mkF m 161 #[.val (.int p1), .val (.int p2), .val (.long q3), .second, .val (.int nn), .val (.int kk), .val (.long cc), .second, .val (.ref b1), .val (.long tt), .second, .val (.long (cc * ((kk + (1 : Int32)).toInt64))), .second, .val (.long (tt * (nn.toInt64))), .second, .unset] [(.int (1 : Int32))])) (fun t k => ?_) ?_
    · show Steps p.tables e below (T3.setTop (mkF m 156 #[.val (.int p1), .val (.int p2), .val (.long q3), .second, .val (.int nn), .val (.int kk), .val (.long cc), .second, .val (.ref b1), .val (.long tt), .second, .val (.long (cc * ((kk + (1 : Int32)).toInt64))), .second, .val (.long (tt * (nn.toInt64))), .second, .unset] [])) t
      refine XS.iconst X3.here hx rfl (hb hby at_156) ?_
      show Steps p.tables e below (T3.setTop (mkF m 157 #[.val (.int p1), .val (.int p2), .val (.long q3), .second, .val (.int nn), .val (.int kk), .val (.long cc), .second, .val (.ref b1), .val (.long tt), .second, .val (.long (cc * ((kk + (1 : Int32)).toInt64))), .second, .val (.long (tt * (nn.toInt64))), .second, .unset] [(.int (1 : Int32))])) t
      refine XS.goto X3.here hx rfl (pc0 := 157) (pc' := 161) rfl (hb hby at_157) (by decide) (by decide) ?_
      exact k
    exact own_end (h := T2.heap) X3 (v := some (.int (1 : Int32))) Bd.notSynchronized (fun h => by rw [Bd.returns] at h; cases h) (fun fs hr => retN X3 hx (t := .boolean) Bd.returns (by simp) (hb hby at_161) hr) hh3 ⟨rfl, N3⟩ (by decide) (by decide)
set_option maxRecDepth 65536 in
set_option maxHeartbeats 40000000 in
theorem comes_1 {Post : Tables → Env → Array Value → State → Outcome → State → Prop} (hpost : ∀ tb e args s v u, (limb_1_1.after args s (.returned v) u = true ∧ limb_1_2.after args s (.returned v) u = true ∧ True) → FrameEnd s (.returned v) u (Jvm.fieldLocs frame_1_writes args s ++ Jvm.arrayLocs frame_1_arrays args s ++ Jvm.staticLocs frame_1_statics s) 16 128 → Post tb e args s (.returned v) u) :
    ArmFor flags0 classFile x code maxLocals ret World_1 tables_1 room_1 Calls_1 rest_1 Pre_1 Post := by
  intro l hfl _ _ p e ha hc hk s m args below hf hA hF happ hP
  obtain ⟨hcalls, hrest, hpre⟩ := hP
  obtain ⟨-, -, -, hnamed, -, -, -, hat⟩ := (Spec.applies_iff hf).mp happ
  obtain ⟨hg, hn⟩ := and_e (Cond.before_iff.mp (show (Jvm.Cond.and given_1 narrow_1).before args s = true from hpre))
  obtain ⟨hcount, hg0⟩ := and_e hg
  obtain ⟨ga0, hg1⟩ := and_e hg0
  obtain ⟨ga1, hg2⟩ := and_e hg1
  have ga2 := hg2
  obtain ⟨w0, w1, w2, rfl⟩ : ∃ w0 w1 w2 : Value, args = #[w0, w1, w2] := by
    have hs : args.size = 3 := by simpa [Cond.value, given_1] using hcount
    obtain ⟨L⟩ := args
    match L, hs with
    | [w0, w1, w2], _ => exact ⟨w0, w1, w2, rfl⟩
  have hw := fun d (hd : d ∈ tables_1) => atoms_spec (ws := Jvm.Cond.code x code maxLocals ret :: tables_1) hat d (List.mem_cons_of_mem _ hd)
  obtain ⟨i0, ei0⟩ := is_v ga0
  obtain rfl : w0 = (.int i0) := Option.some.inj ei0
  obtain ⟨i1, ei1⟩ := is_v ga1
  obtain rfl : w1 = (.int i1) := Option.some.inj ei1
  obtain ⟨i2, ei2⟩ := isL_v ga2
  obtain rfl : w2 = (.long i2) := Option.some.inj ei2
  obtain ⟨n, o, h1, h2, h3, _, L, rfl, ⟨rfl, N⟩, hq⟩ := rm0 l s _ hw tables_1 i0 i1 i2  s.heap s.heap.size (Nat.le_refl _)  p e ha hc hk s m _ below hf ((Spec.applies_iff_loose hf).mp happ).1 ⟨rfl, State.Warmed39.refl s, rfl⟩ trivial
  refine ⟨n, _, h1, h2, h3, hpost _ _ _ _ _ _ ⟨Cond.after_iff.mpr rfl, Cond.after_iff.mpr (eq_i res_at (Term.int_eval (1)) rfl), trivial⟩ ⟨hq.1, hq.2.1, (hq.2.2.sift fun y hy => Or.inr (N y hy)).mono (by decide) (by decide)⟩⟩
theorem main_1_1 : Claimed_1_1 := comes_1 fun _ _ _ _ _ _ h hF => ⟨h.1, hF⟩
theorem main_1_2 : Claimed_1_2 := comes_1 fun _ _ _ _ _ _ h hF => ⟨h.2.1, hF⟩
end Jvm.Pilot.@@N@@
namespace Jvm.Pilot.@@N@@
open Jvm Jvm.ClassFile Sem Op Lib Jvm.Free Jvm.Stand Jvm.Pilot.@@N@@.Jvm.D
/-! MADE BY PROGRAM (witnessworld.py) out of the Statement's table words and the real class files: 10 classes; the members and pool entries that the words name. The judged class is class 1, her method 1. -/
namespace start1
open Jvm.ClassFile
def u (s : String) : CpInfo := .utf8 (stringToUtf16 s)
/-- a pool by its gaps: so many unusable entries, then the entry; so many at the end -/
def gap : Nat → List CpInfo → List CpInfo
  | 0, r => r
  | n + 1, r => .unusable :: gap n r
def poolList (es : List (Nat × CpInfo)) (last : Nat) : List CpInfo := es.foldr (fun e r => gap e.1 (e.2 :: r)) (gap last [])
def pool (es : List (Nat × CpInfo)) (last : Nat) : Array CpInfo := ⟨poolList es last⟩
def fileOf (pool : Array CpInfo) (this : Nat) (attrs : Array Attribute := #[]) (ms : Array MethodInfo := #[]) (fl : Nat := 33) (sup : Nat := 0) (ifs : Array Nat := #[]) (fds : Array FieldInfo := #[]) : ClassFile where
  minorVersion := 0
  majorVersion := 65
  constantPool := pool
  accessFlags := fl
  thisClass := this
  superClass := sup
  interfaces := ifs
  fields := fds
  methods := ms
  attributes := attrs
def plain (name : String) (sup : Option ClassId) : Class where
  name := name
  kind := .ordinary
  loader := none
  accessFlags := 33
  super := sup
  interfaces := #[]
  cf := none
  fields := #[]
  methods := #[]
  instanceTypes := #[]
  staticTypes := #[]
  resolved := #[]
  callSites := []
  init := .initialized
  statics := none
  mirror := none

def pool0 : Array CpInfo := pool [(5, u "<init>"), (0, u "()V"), (1, .class_ 10), (1, u "java/lang/Object")] 113

def k0c0 : Code := { maxStack := 0, maxLocals := 1, code := object_method_1_code, exceptionTable := #[], attributes := #[] }
def k0m0 : Method := { name := "<init>", desc := "()V", sig := { parameters := [], returnType := none }, accessFlags := 1, code := some k0c0 }
/-- java/lang/Object -/
def k0 : Class := { plain "java/lang/Object" none with
  accessFlags := 33
  interfaces := #[]
  cf := some (fileOf pool0 8 #[] #[{ accessFlags := 1, nameIndex := 5, descriptorIndex := 6, attributes := #[] }] 33 0 #[] #[])
  fields := #[]
  methods := #[k0m0]
  instanceTypes := #[]
  staticTypes := #[]
  resolved := Array.replicate 124 none
  statics := none }

def pool1 : Array CpInfo := pool [(2, .class_ 4), (1, u "java/lang/Object"), (0, u "<init>"), (0, u "()V"), (0, .integer 65535), (0, .integer 2147483647), (0, .long 140737488355327), (1, .class_ 12), (0, u "com/example/midstream/midstream/runtime/Split"), (0, .methodref 11 14), (0, .nameAndType 5 15), (0, u "(II)V"), (0, .methodref 11 17), (0, .nameAndType 18 19), (0, u "to"), (0, u "(J)J"), (0, .methodref 11 21), (0, .nameAndType 22 19), (0, u "from"), (0, .class_ 24), (0, u "com/example/midstream/midstream/runtime/SplitToPinLaw"), (2, u "law"), (0, u "(IIJ)Z")] 3

def k1m0 : Method := { name := "<init>", desc := "()V", sig := { parameters := [], returnType := none }, accessFlags := 1, code := none }
def k1c1 : Code := { maxStack := 4, maxLocals := 16, code := code, exceptionTable := #[], attributes := #[] }
def k1m1 : Method := { name := "law", desc := "(IIJ)Z", sig := { parameters := [.int, .int, .long], returnType := some .boolean }, accessFlags := 9, code := some k1c1 }
/-- com/example/midstream/midstream/runtime/SplitToPinLaw -/
def k1 : Class := { plain "com/example/midstream/midstream/runtime/SplitToPinLaw" (some 0) with
  accessFlags := 49
  interfaces := #[]
  cf := some (fileOf pool1 23 #[] #[{ accessFlags := 1, nameIndex := 5, descriptorIndex := 6, attributes := #[] }, { accessFlags := 9, nameIndex := 27, descriptorIndex := 28, attributes := #[] }] 49 2 #[] #[])
  fields := #[]
  methods := #[k1m0, k1m1]
  instanceTypes := #[]
  staticTypes := #[]
  resolved := Array.replicate 32 none
  statics := none }

def pool2 : Array CpInfo := pool [(1, .methodref 2 3), (0, .class_ 4), (0, .nameAndType 5 6), (0, u "java/lang/Object"), (0, u "<init>"), (0, u "()V"), (0, .class_ 8), (0, u "java/lang/Record")] 13

def k2c0 : Code := { maxStack := 1, maxLocals := 1, code := jdk_30_method_1_code, exceptionTable := #[], attributes := #[] }
def k2m0 : Method := { name := "<init>", desc := "()V", sig := { parameters := [], returnType := none }, accessFlags := 4, code := some k2c0 }
/-- java/lang/Record -/
def k2 : Class := { plain "java/lang/Record" (some 0) with
  accessFlags := 1057
  interfaces := #[]
  cf := some (fileOf pool2 7 #[] #[{ accessFlags := 4, nameIndex := 5, descriptorIndex := 6, attributes := #[] }] 1057 2 #[] #[])
  fields := #[]
  methods := #[k2m0]
  instanceTypes := #[]
  staticTypes := #[]
  resolved := Array.replicate 22 none
  statics := none }

def pool3 : Array CpInfo := pool [(1, .methodref 2 3), (0, .class_ 4), (0, .nameAndType 5 6), (0, u "java/lang/Record"), (0, u "<init>"), (0, u "()V"), (9, .fieldref 17 18), (0, .class_ 19), (0, .nameAndType 20 21), (0, u "com/example/midstream/midstream/runtime/Split"), (0, u "worker"), (0, u "I"), (0, .fieldref 17 23), (0, .nameAndType 24 21), (0, u "workers"), (12, u "(II)V"), (4, u "from"), (0, u "(J)J"), (0, u "to")] 34

def k3c0 : Code := { maxStack := 4, maxLocals := 3, code := prog_19_method_1_code, exceptionTable := #[], attributes := #[] }
def k3m0 : Method := { name := "<init>", desc := "(II)V", sig := { parameters := [.int, .int], returnType := none }, accessFlags := 1, code := some k3c0 }
def k3c1 : Code := { maxStack := 4, maxLocals := 3, code := prog_19_method_2_code, exceptionTable := #[], attributes := #[] }
def k3m1 : Method := { name := "from", desc := "(J)J", sig := { parameters := [.long], returnType := some .long }, accessFlags := 1, code := some k3c1 }
def k3c2 : Code := { maxStack := 4, maxLocals := 3, code := prog_19_method_3_code, exceptionTable := #[], attributes := #[] }
def k3m2 : Method := { name := "to", desc := "(J)J", sig := { parameters := [.long], returnType := some .long }, accessFlags := 1, code := some k3c2 }
/-- com/example/midstream/midstream/runtime/Split -/
def k3 : Class := { plain "com/example/midstream/midstream/runtime/Split" (some 2) with
  accessFlags := 49
  interfaces := #[]
  cf := some (fileOf pool3 17 #[] #[{ accessFlags := 1, nameIndex := 5, descriptorIndex := 37, attributes := #[] }, { accessFlags := 1, nameIndex := 42, descriptorIndex := 43, attributes := #[] }, { accessFlags := 1, nameIndex := 44, descriptorIndex := 43, attributes := #[] }] 49 2 #[] #[{ accessFlags := 18, nameIndex := 20, descriptorIndex := 21, attributes := #[] }, { accessFlags := 18, nameIndex := 24, descriptorIndex := 21, attributes := #[] }])
  fields := #[{ name := "worker", type := .int, accessFlags := 18, slot := 0, constantValue := 0 }, { name := "workers", type := .int, accessFlags := 18, slot := 1, constantValue := 0 }]
  methods := #[k3m0, k3m1, k3m2]
  instanceTypes := #[.int, .int]
  staticTypes := #[]
  resolved := Array.replicate 79 none
  statics := none }

def pool4 : Array CpInfo := pool [(1, u "java/lang/Cloneable"), (0, .class_ 1), (0, u "java/lang/Object"), (0, .class_ 3)] 3

/-- java/lang/Cloneable -/
def k4 : Class := { plain "java/lang/Cloneable" (some 0) with
  accessFlags := 1537
  interfaces := #[]
  cf := some (fileOf pool4 2 #[] #[] 1537 4 #[] #[])
  fields := #[]
  methods := #[]
  instanceTypes := #[]
  staticTypes := #[]
  resolved := Array.replicate 8 none
  statics := none }

def pool5 : Array CpInfo := pool [(1, u "java/io/Serializable"), (0, .class_ 1), (0, u "java/lang/Object"), (0, .class_ 3)] 3

/-- java/io/Serializable -/
def k5 : Class := { plain "java/io/Serializable" (some 0) with
  accessFlags := 1537
  interfaces := #[]
  cf := some (fileOf pool5 2 #[] #[] 1537 4 #[] #[])
  fields := #[]
  methods := #[]
  instanceTypes := #[]
  staticTypes := #[]
  resolved := Array.replicate 8 none
  statics := none }

/-- the primitive byte -/
def k6 : Class := { plain "byte" none with kind := .primitive 'B', accessFlags := 0x411 }
/-- [B -/
def k7 : Class := { plain "[B" (some 0) with kind := .array 6 .byte, interfaces := #[4, 5], accessFlags := 1041 }

/-- the primitive int -/
def k8 : Class := { plain "int" none with kind := .primitive 'I', accessFlags := 0x411 }
/-- [I -/
def k9 : Class := { plain "[I" (some 0) with kind := .array 8 .int, interfaces := #[4, 5], accessFlags := 1041 }

def heap : Heap := #[]
def classes : Array Class := #[k0, k1, k2, k3, k4, k5, k6, k7, k8, k9]
def interned : List (Array UInt16 × Addr) := []
def slotsUsed : Nat := 0
def theMethod : MethodId := ⟨1, 1⟩
def args0 : Array Value := #[.int 5, .int 7, .long 100]
def aboutOver (below : List Frame) : State where
  vm := { classes := classes, interned := interned.toArray }
  heap := heap
  slotsUsed := slotsUsed
  threads := #[{ frames := .invoking theMethod args0 :: below }]
def below0 : List Frame := [.native { method := ⟨0, 0⟩, args := #[] }]
def about1 : State := aboutOver below0
def p0 : Program := .bare "" "" ""
def e0 : Env := launch0.env 0 0 0
theorem w_frames : about1.frames = Frame.invoking theMethod args0 :: below0 := rfl
set_option maxRecDepth 65536 in
theorem w_args : argsFit about1.vm theMethod args0 = true := by decide +kernel
set_option maxRecDepth 65536 in
theorem w_heap : heapFits about1 = true := by decide +kernel
set_option maxRecDepth 65536 in
theorem w_runnable : about1.curStatus? = some .runnable := by decide +kernel
set_option maxRecDepth 65536 in
theorem w_alone : about1.alone = true := by decide +kernel
set_option maxRecDepth 65536 in
theorem w_named : about1.methodNamed? x = some theMethod := by decide +kernel
set_option maxRecDepth 65536 in
theorem w_hears : about1.hears theMethod below0 = true := by decide +kernel
set_option maxRecDepth 65536 in
theorem w_ripe : about1.ripe theMethod args0 below0 = true := by decide +kernel
theorem w_running : about1.status = .running := rfl
set_option maxRecDepth 65536 in
theorem w_room : about1.hasRoom e0.platform room_1 = true :=
  launch0.hasRoom_least _ room_1 (by decide +kernel) (by decide +kernel) (by decide +kernel) (by decide +kernel) (by decide +kernel) (by decide +kernel)
theorem allAtoms_all (ts : List Jvm.Cond) (a : Array Jvm.Value) (st : Jvm.State) : (allAtoms ts).before a st = ts.all (fun c => c.before a st) := by
  induction ts with
  | nil => rfl
  | cons c t ih =>
    show (Jvm.Cond.and c (allAtoms t)).before a st = _
    rw [Jvm.Cond.before_and, ih, List.all_cons]
def words1 : List Jvm.Cond := Jvm.Cond.code x code maxLocals ret :: tables_1
/-- a 'code' word, met by the world's own term for the bytes: nothing is compared byte by byte -/
theorem code_word {y : MethodName} {bytes : ByteArray} {mx : Nat} {rt : Option FieldType} {a : Array Value} {s : State} {m : MethodId} {meth : Method} {c : Code} (h1 : s.methodNamed? y = some m) (h2 : s.vm.method? m = some meth) (h3 : meth.code = some c) (h4 : c.code = bytes)
    (h5 : (c.maxLocals == mx && c.exceptionTable.isEmpty && decide (c.maxStack ≤ mostOperands) && decide (meth.sig.returnType = rt) && !meth.locks && decide (parseMethodDescriptor y.desc = some meth.sig)) = true) : (Jvm.Cond.code y bytes mx rt).before a s = true := by
  simp only [Bool.and_eq_true, beq_iff_eq, Bool.not_eq_true', decide_eq_true_eq] at h5
  obtain ⟨⟨⟨⟨⟨g1, g2⟩, g3⟩, g4⟩, g5⟩, g6⟩ := h5
  simp [Cond.before, Cond.holds, Cond.value, h1, h2, h3, h4, g1, g2, g3, g4, g5, g6]
def isCode : Jvm.Cond → Bool
  | .code _ _ _ _ => true
  | _ => false
theorem all_split {L : List Jvm.Cond} {P : Jvm.Cond → Bool} (h1 : L.all (fun c => isCode c || P c) = true) (h2 : ∀ c ∈ L.filter isCode, P c = true) : L.all P = true := by
  refine List.all_eq_true.mpr fun c hc => ?_
  have h := List.all_eq_true.mp h1 c hc
  rcases Bool.eq_false_or_eq_true (isCode c) with hi | hi
  · exact h2 c (List.mem_filter.mpr ⟨hc, hi⟩)
  · simpa [hi] using h
set_option maxRecDepth 65536 in
theorem w_c0 : (Jvm.Cond.code x code maxLocals ret).before args0 about1 = true := code_word (m := ⟨1, 1⟩) (meth := k1m1) (c := k1c1) (by decide +kernel) rfl rfl rfl (by decide +kernel)
set_option maxRecDepth 65536 in
theorem w_c1 : (Jvm.Cond.code ({ cls := "com/example/midstream/midstream/runtime/Split", name := "<init>", desc := "(II)V" } : Jvm.MethodName) prog_19_method_1_code (3 : Nat) (Option.none : Option Jvm.ClassFile.FieldType)).before args0 about1 = true := code_word (m := ⟨3, 0⟩) (meth := k3m0) (c := k3c0) (by decide +kernel) rfl rfl rfl (by decide +kernel)
set_option maxRecDepth 65536 in
theorem w_c2 : (Jvm.Cond.code ({ cls := "java/lang/Record", name := "<init>", desc := "()V" } : Jvm.MethodName) jdk_30_method_1_code (1 : Nat) (Option.none : Option Jvm.ClassFile.FieldType)).before args0 about1 = true := code_word (m := ⟨2, 0⟩) (meth := k2m0) (c := k2c0) (by decide +kernel) rfl rfl rfl (by decide +kernel)
set_option maxRecDepth 65536 in
theorem w_c3 : (Jvm.Cond.code ({ cls := "java/lang/Object", name := "<init>", desc := "()V" } : Jvm.MethodName) object_method_1_code (1 : Nat) (Option.none : Option Jvm.ClassFile.FieldType)).before args0 about1 = true := code_word (m := ⟨0, 0⟩) (meth := k0m0) (c := k0c0) (by decide +kernel) rfl rfl rfl (by decide +kernel)
set_option maxRecDepth 65536 in
theorem w_c4 : (Jvm.Cond.code ({ cls := "com/example/midstream/midstream/runtime/Split", name := "to", desc := "(J)J" } : Jvm.MethodName) prog_19_method_3_code (3 : Nat) (Option.some Jvm.ClassFile.FieldType.long)).before args0 about1 = true := code_word (m := ⟨3, 2⟩) (meth := k3m2) (c := k3c2) (by decide +kernel) rfl rfl rfl (by decide +kernel)
set_option maxRecDepth 65536 in
theorem w_c5 : (Jvm.Cond.code ({ cls := "com/example/midstream/midstream/runtime/Split", name := "from", desc := "(J)J" } : Jvm.MethodName) prog_19_method_2_code (3 : Nat) (Option.some Jvm.ClassFile.FieldType.long)).before args0 about1 = true := code_word (m := ⟨3, 1⟩) (meth := k3m1) (c := k3c1) (by decide +kernel) rfl rfl rfl (by decide +kernel)
def codes1 : List Jvm.Cond := [Jvm.Cond.code x code maxLocals ret, Jvm.Cond.code ({ cls := "com/example/midstream/midstream/runtime/Split", name := "<init>", desc := "(II)V" } : Jvm.MethodName) prog_19_method_1_code (3 : Nat) (Option.none : Option Jvm.ClassFile.FieldType), Jvm.Cond.code ({ cls := "java/lang/Record", name := "<init>", desc := "()V" } : Jvm.MethodName) jdk_30_method_1_code (1 : Nat) (Option.none : Option Jvm.ClassFile.FieldType), Jvm.Cond.code ({ cls := "java/lang/Object", name := "<init>", desc := "()V" } : Jvm.MethodName) object_method_1_code (1 : Nat) (Option.none : Option Jvm.ClassFile.FieldType), Jvm.Cond.code ({ cls := "com/example/midstream/midstream/runtime/Split", name := "to", desc := "(J)J" } : Jvm.MethodName) prog_19_method_3_code (3 : Nat) (Option.some Jvm.ClassFile.FieldType.long), Jvm.Cond.code ({ cls := "com/example/midstream/midstream/runtime/Split", name := "from", desc := "(J)J" } : Jvm.MethodName) prog_19_method_2_code (3 : Nat) (Option.some Jvm.ClassFile.FieldType.long)]
set_option maxRecDepth 65536 in
theorem codes_eq : words1.filter isCode = codes1 := rfl
theorem w_codes : ∀ c ∈ words1.filter isCode, c.before args0 about1 = true := by
  rw [codes_eq]
  intro c hc
  simp only [codes1, List.mem_cons, List.not_mem_nil, or_false] at hc
  rcases hc with rfl | rfl | rfl | rfl | rfl | rfl
  · exact w_c0
  · exact w_c1
  · exact w_c2
  · exact w_c3
  · exact w_c4
  · exact w_c5
set_option maxRecDepth 65536 in
theorem w_t1 : (words1.take 24).all (fun c => isCode c || c.before args0 about1) = true := by decide +kernel
set_option maxRecDepth 65536 in
theorem w_t2 : (words1.drop 24).all (fun c => isCode c || c.before args0 about1) = true := by decide +kernel
theorem w_tables : (allAtoms (Jvm.Cond.code x code maxLocals ret :: tables_1)).before args0 about1 = true := by
  rw [allAtoms_all]
  show words1.all (fun c => c.before args0 about1) = true
  refine all_split ?_ w_codes
  rw [← List.take_append_drop 24 words1, List.all_append, w_t1, w_t2]
  rfl
set_option maxRecDepth 65536 in
theorem w_case : (Jvm.Cond.and given_1 narrow_1).before args0 about1 = true := by decide +kernel
theorem w_applies : (headSpec (Jvm.Cond.code x code maxLocals ret :: tables_1) room_1).applies x e0.platform about1 = true :=
  (Spec.applies_iff w_frames).mpr ⟨w_running, w_runnable, w_alone, w_named, w_hears, w_ripe, w_room, w_tables⟩
theorem atStart : AtStart classFile x code maxLocals ret World_1 tables_1 room_1 Calls_1 rest_1 Pre_1 launch0 p0 e0 about1 theMethod args0 below0 :=
  ⟨lists_1, trivial, launch0.admits_env _ _ _, launch0.least_env, fairChoices_fair.cas, fairChoices_fair.clock, w_frames, w_args, w_heap, w_applies, trivial, trivial, w_case⟩
end start1
theorem witness_1 : WitnessClaimed_1 := ⟨start1.p0, start1.e0, start1.about1, start1.theMethod, start1.args0, start1.below0, start1.atStart⟩
end Jvm.Pilot.@@N@@
