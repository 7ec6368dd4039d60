import JvmDerived
import JvmDerived.Pilot.@@N@@Statement
import JvmDerived.Pilot.@@N@@Code
set_option linter.unusedVariables false
set_option linter.unusedSimpArgs false
namespace Jvm.Pilot.@@N@@
open Jvm Jvm.ClassFile Sem Op Lib Jvm.Free Jvm.Stand Jvm.LawKit Jvm.RoadKit Bundle Jvm.Pilot.@@N@@.Jvm.D
/-- from S the body ends as Q says -/
def own_G (tb : Tables) (e : Env) (below : List Frame) (Q : State → Outcome → Prop) (S : State) : Prop := ∃ s₂ o, Steps tb e below S s₂ ∧ s₂.status = .running ∧ Ended s₂ below o ∧ Q s₂ o
theorem own_via {tb : Tables} {e : Env} {below : List Frame} {Q : State → Outcome → Prop} {S S' : State} (h : ∀ t, Steps tb e below S' t → Steps tb e below S t) (g : own_G tb e below Q S') : own_G tb e below Q S := by
  obtain ⟨t, o, k, r⟩ := g
  exact ⟨t, o, h t k, r⟩
def own_P (U : State) (Q : Option Value → Heap → List Loc → Prop) (cells slots : Nat) : State → Outcome → Prop := fun U' o => ∃ v L, o = .returned v ∧ Q v U'.heap L ∧ FrameEnd U o U' L cells slots
theorem own_end {p : Program} {l : Launch} {e : Env} {R : Room} {s : State} {m : MethodId} {args : Array Value} {below : List Frame} {meth : Method} {c : Code} {T : State} {locs : List Loc} {cells slots C S : Nat} {Q : Option Value → Heap → List Loc → Prop} {h : Heap} {G : State}
    (X : Stand p l e R s m args below meth c T locs cells slots) {v : Option Value} (hlk : meth.locks = false) (hv : meth.sig.returnType = none → v = none)
    (st : ∀ fs, (∀ (f : JFrame) (acts : List Action), f.method = m → f.locked = none → f.entered = [] → (doReturn e (T.setTop f) acts v).1 = T.setFrames fs) → Steps p.tables e below G (T.setFrames fs))
    (eT : T.heap = h) (hq : Q v h locs) (h1 : cells ≤ C) (h2 : slots ≤ S) : own_G p.tables e below (own_P s Q C S) G := by
  obtain ⟨fs, hr, hrun, hended, hW, hsame⟩ := X.leave (v := v) hv hlk
  exact ⟨_, _, st fs hr, hrun, hended, _, _, rfl, eT ▸ hq, ⟨_, rfl⟩, hW, hsame.mono h1 h2⟩
theorem own_fit {x : Int64} {P : Int} (e : (x.toInt - P) % 18446744073709551616 = 0) (h1 : -9223372036854775808 ≤ P) (h2 : P < 9223372036854775808) : x.toInt = P := by
  have b := rng64 x
  omega
theorem own_ne1 {y : Int64} (h : 0 < y.toInt) : y ≠ -1 := by
  rintro rfl; revert h; decide
theorem own_q (n : Int32) (big : Int64) (hn : 1 ≤ n.toInt) (hb : 0 ≤ big.toInt) : (big / n.toInt64).toInt = big.toInt / n.toInt ∧ (big.toInt / n.toInt) * n.toInt ≤ big.toInt ∧ 0 ≤ (big.toInt / n.toInt) * n.toInt ∧ big.toInt < (big.toInt / n.toInt) * n.toInt + n.toInt ∧ 0 ≤ big.toInt / n.toInt := by
  have h1 := c_i2l n
  have h2 := (c_ldiv big n.toInt64 n.toInt h1 (own_ne1 (by omega))).1 hb
  have h3 := Int.ediv_mul_le big.toInt (b := n.toInt) (by omega)
  have h4 : 0 ≤ big.toInt / n.toInt := Int.ediv_nonneg hb (by omega)
  have h5 := Int.lt_ediv_add_one_mul_self big.toInt (b := n.toInt) (by omega)
  have h6 := Int.mul_nonneg h4 (show 0 ≤ n.toInt by omega)
  rw [Int.add_mul, Int.one_mul] at h5
  exact ⟨h2, h3, h6, h5, h4⟩
theorem own_qn (n : Int32) (big : Int64) (hn : 1 ≤ n.toInt) (hb : 0 ≤ big.toInt) : (big / n.toInt64 * n.toInt64).toInt = big.toInt / n.toInt * n.toInt := by
  obtain ⟨q1, q2, q3, q4, q5⟩ := own_q n big hn hb
  have e1 := c_lmul (big / n.toInt64) n.toInt64
  rw [q1, c_i2l n] at e1
  have b0 := rng64 big
  exact own_fit e1 (by omega) (by omega)
theorem own_mr (r : Int32) (hr : 0 ≤ r.toInt) : ((9223372036854775807 : Int64) - r.toInt64).toInt = 9223372036854775807 - r.toInt := by
  have e3 := c_lsub (9223372036854775807 : Int64) r.toInt64
  rw [c_i2l r, show (9223372036854775807 : Int64).toInt = 9223372036854775807 by decide] at e3
  have b := rng32 r
  exact own_fit e3 (by omega) (by omega)
theorem own_fin (n r : Int32) (k : Int) (hr : 0 ≤ r.toInt) (hrn : r.toInt < n.toInt) (idx : Int64) (h0 : 0 ≤ idx.toInt) (hI : idx.toInt = r.toInt + k * n.toInt) : idx - idx / n.toInt64 * n.toInt64 = r.toInt64 := by
  have hm := (c_lrem idx n.toInt64 n.toInt (c_i2l n)).1 h0
  rw [hI, Int.add_mul_emod_self_right, Int.emod_eq_of_lt hr hrn] at hm
  exact Int64.toInt_inj.mp (by rw [hm, c_i2l r])
theorem own_A (n r : Int32) (big : Int64) (hn : 1 ≤ n.toInt) (hb : 0 ≤ big.toInt) (hr : 0 ≤ r.toInt) (hrn : r.toInt < n.toInt) (idx : Int64)
    (hc : ¬ (9223372036854775807 : Int64) - r.toInt64 < big / n.toInt64 * n.toInt64) (hi : idx = big / n.toInt64 * n.toInt64 + r.toInt64) : idx - idx / n.toInt64 * n.toInt64 = r.toInt64 := by
  obtain ⟨q1, q2, q3, q4, q5⟩ := own_q n big hn hb
  have e2 := c_ladd (big / n.toInt64 * n.toInt64) r.toInt64
  rw [Int64.lt_iff_toInt_lt, own_mr r hr, own_qn n big hn hb] at hc
  rw [own_qn n big hn hb, c_i2l r] at e2
  have hI := own_fit e2 (by omega) (by omega)
  rw [← hi] at hI
  exact own_fin n r (big.toInt / n.toInt) hr hrn idx (by omega) (by rw [hI, Int.add_comm])
theorem own_B (n r : Int32) (big : Int64) (hn : 1 ≤ n.toInt) (hb : 0 ≤ big.toInt) (hr : 0 ≤ r.toInt) (hrn : r.toInt < n.toInt) (idx : Int64)
    (hc : (9223372036854775807 : Int64) - r.toInt64 < big / n.toInt64 * n.toInt64) (hi : idx = (big / n.toInt64 - 1) * n.toInt64 + r.toInt64) : idx - idx / n.toInt64 * n.toInt64 = r.toInt64 := by
  obtain ⟨q1, q2, q3, q4, q5⟩ := own_q n big hn hb
  have b0 := rng64 big
  have bn := rng32 n
  rw [Int64.lt_iff_toInt_lt, own_mr r hr, own_qn n big hn hb] at hc
  have hQ : 1 ≤ big.toInt / n.toInt := by
    rcases Int.lt_or_le 0 (big.toInt / n.toInt) with h | h
    · omega
    · have h7 : big.toInt / n.toInt = 0 := by omega
      rw [h7, Int.zero_mul] at hc
      omega
  have hqb : big.toInt / n.toInt ≤ big.toInt := Int.ediv_le_self _ hb
  have e0 := c_lsub (big / n.toInt64) 1
  rw [q1, show (1 : Int64).toInt = 1 by decide] at e0
  have hq1 := own_fit e0 (by omega) (by omega)
  have e5 := c_lmul (big / n.toInt64 - 1) n.toInt64
  rw [hq1, c_i2l n, Int.sub_mul, Int.one_mul] at e5
  have hge := Int.mul_le_mul_of_nonneg_right hQ (show 0 ≤ n.toInt by omega)
  rw [Int.one_mul] at hge
  have hP := own_fit e5 (by omega) (by omega)
  have e2 := c_ladd ((big / n.toInt64 - 1) * n.toInt64) r.toInt64
  rw [hP, c_i2l r] at e2
  have hI := own_fit e2 (by omega) (by omega)
  rw [← hi] at hI
  exact own_fin n r (big.toInt / n.toInt - 1) hr hrn idx (by omega) (by rw [hI, Int.sub_mul, Int.one_mul]; omega)
def own_max (a b : Int32) : Int32 := if a < b then b else a
theorem own_m1 (b : Int32) : 1 ≤ (own_max 1 b).toInt := by
  have h : ¬ own_max 1 b < 1 := by unfold own_max; grind
  rw [Int32.lt_iff_toInt_lt, show (1 : Int32).toInt = 1 by decide] at h
  omega
theorem own_nz {n : Int32} (h : 1 ≤ n.toInt) : n ≠ 0 := by rintro rfl; revert h; decide
theorem own_nzL {n : Int32} (h : 1 ≤ n.toInt) : n.toInt64 ≠ 0 := fun q => by
  have e := c_i2l n
  rw [q, show (0 : Int64).toInt = 0 by decide] at e
  omega
theorem own_rem (x n : Int32) (h : 1 ≤ n.toInt) : 0 ≤ ((x &&& (2147483647 : Int32)) % n).toInt ∧ ((x &&& (2147483647 : Int32)) % n).toInt < n.toInt := by
  have h1 := c_mask x (2147483647 : Int32) 31 (by decide) (by decide)
  have h2 := (c_irem (x &&& (2147483647 : Int32)) n n.toInt rfl).1 (by omega)
  have h3 := Int.emod_nonneg (x &&& (2147483647 : Int32)).toInt (show n.toInt ≠ 0 by omega)
  have h4 := Int.emod_lt_of_pos (x &&& (2147483647 : Int32)).toInt (show 0 < n.toInt by omega)
  omega
theorem own_big (x : Int64) : 0 ≤ (x &&& (9223372036854775807 : Int64)).toInt := by
  have h1 := c_maskL x (9223372036854775807 : Int64) 63 (by decide) (by decide)
  omega
def own_tk (i : Int64) (n w : Int32) : Int32 := if (i - i / (n.toInt64) * (n.toInt64)) = w.toInt64 then 1 else 0
theorem own_t1 {i : Int64} {n w r : Int32} (h : i - i / n.toInt64 * n.toInt64 = r.toInt64) (e : r = w) : own_tk i n w = 1 := by unfold own_tk; rw [h, e]; simp
theorem own_t0 {i : Int64} {n w r : Int32} (h : i - i / n.toInt64 * n.toInt64 = r.toInt64) (e : ¬ r = w) : own_tk i n w = 0 := by
  unfold own_tk; rw [h, if_neg]
  intro q
  exact e (Int32.toInt_inj.mp (by rw [← c_i2l r, ← c_i2l w, q]))
theorem own_pre {w n : Int32} (h : 0 ≤ w.toInt) (h2 : w.toInt < n.toInt) : ¬ n < 1 ∧ ¬ w < 0 ∧ w < n := by
  rw [Int32.lt_iff_toInt_lt, Int32.lt_iff_toInt_lt, Int32.lt_iff_toInt_lt, show (1 : Int32).toInt = 1 by decide, show (0 : Int32).toInt = 0 by decide]
  omega
theorem d1_0 : decode jdk_29_method_65_code 0 = .ok (.iload_n 0, 1) := by decide +kernel
theorem d1_1 : decode jdk_29_method_65_code 1 = .ok (.iload_n 1, 1) := by decide +kernel
theorem d1_2 : decode jdk_29_method_65_code 2 = .ok (.if_icmp .lt 7, 3) := by decide +kernel
theorem d1_5 : decode jdk_29_method_65_code 5 = .ok (.iload_n 0, 1) := by decide +kernel
theorem d1_6 : decode jdk_29_method_65_code 6 = .ok (.goto 4, 3) := by decide +kernel
theorem d1_9 : decode jdk_29_method_65_code 9 = .ok (.iload_n 1, 1) := by decide +kernel
theorem d1_10 : decode jdk_29_method_65_code 10 = .ok (.ireturn, 1) := by decide +kernel
theorem ef1 (m : MethodId) (x0 : Int32) (x1 : Int32) : entryFrame m #[(.int x0), (.int x1)] 2 = mkF m 0 #[.val (.int x0), .val (.int x1)] [] := by first | (simp [entryFrame, mkF, argsToLocals, Value.category]; done) | rfl
def Q1 (Z : State) (p1 : Int32) (p2 : Int32) (h0 : Heap) (n0 : Nat) (v : Option Value) (h : Heap) (L : List Loc) : Prop := v = some (.int (own_max p1 p2)) ∧ Fr n0 L ∧ h = h0
set_option maxRecDepth 65536 in
set_option maxHeartbeats 40000000 in
theorem rm1 (l : Launch) (Z : State) (a0 : Array Value) (hw : ∀ d ∈ tables_1, d.before a0 Z = true) (ws : List Jvm.Cond) (p1 : Int32) (p2 : Int32) (h0 : Heap) (n0 : Nat) (Z0 : n0 ≤ h0.size) :
    MetFree l (⟨"java/lang/Math", "max", "(II)I"⟩ : MethodName) (head1 (Jvm.Cond.code (⟨"java/lang/Math", "max", "(II)I"⟩ : MethodName) jdk_29_method_65_code 2 (some .int) :: ws) ({ frames := 0, cells := 0, slots := 0, locals := 0 } : Room)) (fun a U => a = #[(.int p1), (.int p2)] ∧ Z.Warmed39 U.vm ∧ U.heap = h0) (fun _ _ _ _ _ => True) (fun _ U o U' => ∃ v L, o = .returned v ∧ Q1 Z p1 p2 h0 n0 v U'.heap L ∧ FrameEnd U o U' L ({ frames := 0, cells := 0, slots := 0, locals := 0 } : Room).cells ({ frames := 0, cells := 0, slots := 0, locals := 0 } : Room).slots) := by
  refine MetFree.of_bodySF (Jvm.Free.JP.mathPlain rfl (by decide +kernel)) hisR ?_
  intro p e s m args below meth c s₁ Bd hml0 hP hK
  obtain ⟨rfl, hZ, hh⟩ := hP
  have hx := Bd.exec
  have hby := Bd.bytes
  have hml : c.maxLocals = 2 := hml0
  have hown : s.vm.findClass "java/lang/Math" = some m.cls := findClass_of_methodNamed Bd.named
  have hnm := (name_of_methodNamed Bd.named Bd.method).1
  have X0 : Stand p l e ({ frames := 0, cells := 0, slots := 0, locals := 0 } : Room) s m #[(.int p1), (.int p2)] below meth c s₁ [] 0 0 := Stand.of_body Bd
  have e0 : s₁.heap = h0 := by rw [← hh, Bd.state]; rfl
  have N0 := Fr.nil n0
  refine (show own_G p.tables e below (own_P s (Q1 Z p1 p2 h0 n0) 0 0) (s₁.setTop (entryFrame m #[(.int p1), (.int p2)] 2)) from ?_)
  refine own_via (fun t k => castTop (ef1 m p1 p2) k) ?_
  show own_G p.tables e below _ (s₁.setTop (mkF m 0 #[.val (.int p1), .val (.int p2)] []))
  refine own_via (S' := s₁.setTop (mkF m 2 #[.val (.int p1), .val (.int p2)] [(.int p2), (.int p1)])) (fun t k => ?_) ?_
  · show Steps p.tables e below (s₁.setTop (mkF m 0 #[.val (.int p1), .val (.int p2)] [])) t
    refine XS.iloadN X0.here hx rfl (hb hby d1_0) rfl ?_
    show Steps p.tables e below (s₁.setTop (mkF m 1 #[.val (.int p1), .val (.int p2)] [(.int p1)])) t
    refine XS.iloadN X0.here hx rfl (hb hby d1_1) rfl ?_
    exact k
  by_cases hc2_1 : p1 < p2
  · refine own_via (S' := s₁.setTop (mkF m 9 #[.val (.int p1), .val (.int p2)] [])) (fun t k => XS.icmpYes (g := (mkF m 2 #[.val (.int p1), .val (.int p2)] [(.int p2), (.int p1)])) X0.here hx rfl (pc0 := 2) (pc' := 9) rfl (hb hby d1_2) rfl (tlt hc2_1).1 (by decide) (by decide) k) ?_
    refine own_via (S' := s₁.setTop (mkF m 10 #[.val (.int p1), .val (.int p2)] [(.int p2)])) (fun t k => ?_) ?_
    · show Steps p.tables e below (s₁.setTop (mkF m 9 #[.val (.int p1), .val (.int p2)] [])) t
      refine XS.iloadN X0.here hx rfl (hb hby d1_9) rfl ?_
      exact k
    exact own_end (h := h0) X0 (v := some (.int p2)) Bd.notSynchronized (fun h => by rw [Bd.returns] at h; cases h) (fun fs hr => retOut X0 hx Bd.returns rfl (Or.inl ⟨rfl, Or.inl rfl, _, rfl⟩) (hb hby d1_10) hr) e0 ⟨by show some (Value.int _) = some (Value.int _); congr 2; unfold own_max; grind, N0, rfl⟩ (by decide) (by decide)
  · refine own_via (S' := s₁.setTop (mkF m 5 #[.val (.int p1), .val (.int p2)] [])) (fun t k => XS.icmpNo (g := (mkF m 2 #[.val (.int p1), .val (.int p2)] [(.int p2), (.int p1)])) X0.here hx rfl (hb hby d1_2) rfl (flt hc2_1).1 k) ?_
    refine own_via (S' := s₁.setTop (mkF m 10 #[.val (.int p1), .val (.int p2)] [(.int p1)])) (fun t k => ?_) ?_
    · show Steps p.tables e below (s₁.setTop (mkF m 5 #[.val (.int p1), .val (.int p2)] [])) t
      refine XS.iloadN X0.here hx rfl (hb hby d1_5) rfl ?_
      show Steps p.tables e below (s₁.setTop (mkF m 6 #[.val (.int p1), .val (.int p2)] [(.int p1)])) t
      refine XS.goto X0.here hx rfl (pc0 := 6) (pc' := 10) rfl (hb hby d1_6) (by decide) (by decide) ?_
      exact k
    exact own_end (h := h0) X0 (v := some (.int p1)) Bd.notSynchronized (fun h => by rw [Bd.returns] at h; cases h) (fun fs hr => retOut X0 hx Bd.returns rfl (Or.inl ⟨rfl, Or.inl rfl, _, rfl⟩) (hb hby d1_10) hr) e0 ⟨by show some (Value.int _) = some (Value.int _); congr 2; unfold own_max; grind, N0, rfl⟩ (by decide) (by decide)
theorem d3_0 : decode jdk_30_method_1_code 0 = .ok (.aload_n 0, 1) := by decide +kernel
theorem d3_1 : decode jdk_30_method_1_code 1 = .ok (.invokespecial 1, 3) := by decide +kernel
theorem d3_4 : decode jdk_30_method_1_code 4 = .ok (.return_, 1) := by decide +kernel
theorem pn3 : plainName "java/lang/Record" = true := by first | (simp [plainName, overriddenIn]; done) | decide +kernel
theorem ef3 (m : MethodId) (x0 : Addr) : entryFrame m #[(.ref x0)] 1 = mkF m 0 #[.val (.ref x0)] [] := by first | (simp [entryFrame, mkF, argsToLocals, Value.category]; done) | rfl
def Q3 (Z : State) (a1 : Addr) (h0 : Heap) (n0 : Nat) (v : Option Value) (h : Heap) (L : List Loc) : Prop := v = none ∧ Fr n0 L ∧ h = h0
set_option maxRecDepth 65536 in
set_option maxHeartbeats 40000000 in
theorem rm3 (l : Launch) (Z : State) (a0 : Array Value) (hw : ∀ d ∈ tables_1, d.before a0 Z = true) (ws : List Jvm.Cond) (a1 : Addr) (h0 : Heap) (n0 : Nat) (Z0 : n0 ≤ h0.size) :
    MetFree l (⟨"java/lang/Record", "<init>", "()V"⟩ : MethodName) (head1 (Jvm.Cond.code (⟨"java/lang/Record", "<init>", "()V"⟩ : MethodName) jdk_30_method_1_code 1 none :: ws) ({ frames := 1, cells := 0, slots := 0, locals := 12 } : Room)) (fun a U => a = #[(.ref a1)] ∧ Z.Warmed39 U.vm ∧ U.heap = h0) (fun _ _ _ _ _ => True) (fun _ U o U' => ∃ v L, o = .returned v ∧ Q3 Z a1 h0 n0 v U'.heap L ∧ FrameEnd U o U' L ({ frames := 1, cells := 0, slots := 0, locals := 12 } : Room).cells ({ frames := 1, cells := 0, slots := 0, locals := 12 } : Room).slots) := by
  refine MetFree.of_bodySF (plainFor_of_name pn3) hisR ?_
  intro p e s m args below meth c s₁ Bd hml0 hP hK
  obtain ⟨rfl, hZ, hh⟩ := hP
  have hx := Bd.exec
  have hby := Bd.bytes
  have hml : c.maxLocals = 1 := hml0
  have hown : s.vm.findClass "java/lang/Record" = some m.cls := findClass_of_methodNamed Bd.named
  have hnm := (name_of_methodNamed Bd.named Bd.method).1
  have X0 : Stand p l e ({ frames := 1, cells := 0, slots := 0, locals := 12 } : Room) s m #[(.ref a1)] below meth c s₁ [] 0 0 := Stand.of_body Bd
  have e0 : s₁.heap = h0 := by rw [← hh, Bd.state]; rfl
  have N0 := Fr.nil n0
  refine (show own_G p.tables e below (own_P s (Q3 Z a1 h0 n0) 0 0) (s₁.setTop (entryFrame m #[(.ref a1)] 1)) from ?_)
  refine own_via (fun t k => castTop (ef3 m a1) k) ?_
  show own_G p.tables e below _ (s₁.setTop (mkF m 0 #[.val (.ref a1)] []))
  refine own_via (S' := s₁.setTop (mkF m 1 #[.val (.ref a1)] [(.ref a1)])) (fun t k => ?_) ?_
  · show Steps p.tables e below (s₁.setTop (mkF m 0 #[.val (.ref a1)] [])) t
    refine XS.aloadN X0.here hx rfl (hb hby d3_0) rfl rfl ?_
    exact k
  obtain ⟨T1, X1, e1, st1⟩ := initO X0 hx hZ hown (hw _ (List.mem_of_getElem? (i := 17) rfl)) (hw _ (List.mem_of_getElem? (i := 18) rfl)) (hw _ (List.mem_of_getElem? (i := 19) rfl)) e0 (g := (mkF m 1 #[.val (.ref a1)] [(.ref a1)])) rfl (by rw [hml]; rfl) rfl (hb hby d3_1) (by decide) (W := 0) (by show 2 * 0 + _ ≤ _; exact Nat.le_of_eq rfl) (by decide)
  refine own_via st1 ?_
  show own_G p.tables e below _ (T1.setTop (mkF m 4 #[.val (.ref a1)] []))
  exact own_end (h := h0) X1 (v := none) Bd.notSynchronized (fun _ => rfl) (fun fs hr => X1.returnOut hx Bd.returns (hb hby d3_4) hr) e1 ⟨rfl, N0, rfl⟩ (by decide) (by decide)
theorem d2_0 : decode prog_19_method_1_code 0 = .ok (.aload_n 0, 1) := by decide +kernel
theorem d2_1 : decode prog_19_method_1_code 1 = .ok (.invokespecial 1, 3) := by decide +kernel
theorem d2_4 : decode prog_19_method_1_code 4 = .ok (.iload_n 2, 1) := by decide +kernel
theorem d2_5 : decode prog_19_method_1_code 5 = .ok (.iconst 1, 1) := by decide +kernel
theorem d2_6 : decode prog_19_method_1_code 6 = .ok (.if_icmp .lt 12, 3) := by decide +kernel
theorem d2_9 : decode prog_19_method_1_code 9 = .ok (.iload_n 1, 1) := by decide +kernel
theorem d2_10 : decode prog_19_method_1_code 10 = .ok (.ifCond .lt 8, 3) := by decide +kernel
theorem d2_13 : decode prog_19_method_1_code 13 = .ok (.iload_n 1, 1) := by decide +kernel
theorem d2_14 : decode prog_19_method_1_code 14 = .ok (.iload_n 2, 1) := by decide +kernel
theorem d2_15 : decode prog_19_method_1_code 15 = .ok (.if_icmp .lt 18, 3) := by decide +kernel
theorem d2_33 : decode prog_19_method_1_code 33 = .ok (.aload_n 0, 1) := by decide +kernel
theorem d2_34 : decode prog_19_method_1_code 34 = .ok (.iload_n 1, 1) := by decide +kernel
theorem d2_35 : decode prog_19_method_1_code 35 = .ok (.putfield 16, 3) := by decide +kernel
theorem d2_38 : decode prog_19_method_1_code 38 = .ok (.aload_n 0, 1) := by decide +kernel
theorem d2_39 : decode prog_19_method_1_code 39 = .ok (.iload_n 2, 1) := by decide +kernel
theorem d2_40 : decode prog_19_method_1_code 40 = .ok (.putfield 22, 3) := by decide +kernel
theorem d2_43 : decode prog_19_method_1_code 43 = .ok (.return_, 1) := by decide +kernel
theorem pn2 : plainName "com/example/midstream/midstream/runtime/Split" = true := by first | (simp [plainName, overriddenIn]; done) | decide +kernel
theorem pd_0 : parseMethodDescriptor "()V" = some ⟨[], none⟩ := by decide +kernel
theorem ef2 (m : MethodId) (x0 : Addr) (x1 : Int32) (x2 : Int32) : entryFrame m #[(.ref x0), (.int x1), (.int x2)] 3 = mkF m 0 #[.val (.ref x0), .val (.int x1), .val (.int x2)] [] := by first | (simp [entryFrame, mkF, argsToLocals, Value.category]; done) | rfl
def Q2 (Z : State) (a1 : Addr) (p1 : Int32) (p2 : Int32) (h0 : Heap) (n0 : Nat) (v : Option Value) (h : Heap) (L : List Loc) : Prop := v = none ∧ Fr n0 L ∧ Keep h0 h [a1] ∧ Exa Z h a1 "com/example/midstream/midstream/runtime/Split" ∧ Fld Z h a1 "com/example/midstream/midstream/runtime/Split" "worker" "I" (.int p1) ∧ Fld Z h a1 "com/example/midstream/midstream/runtime/Split" "workers" "I" (.int p2)
set_option maxRecDepth 65536 in
set_option maxHeartbeats 40000000 in
theorem rm2 (l : Launch) (Z : State) (a0 : Array Value) (hw : ∀ d ∈ tables_1, d.before a0 Z = true) (ws : List Jvm.Cond) (a1 : Addr) (p1 : Int32) (p2 : Int32) (h0 : Heap) (n0 : Nat) (Z0 : n0 ≤ h0.size) (F0_0 : Fld Z h0 a1 "com/example/midstream/midstream/runtime/Split" "worker" "I" (.int (0 : Int32))) (F1_0 : Fld Z h0 a1 "com/example/midstream/midstream/runtime/Split" "workers" "I" (.int (0 : Int32))) (E_a1 : Exa Z h0 a1 "com/example/midstream/midstream/runtime/Split") (g_a1 : n0 ≤ a1) (hs : ¬ p2 < 1 ∧ ¬ p1 < 0 ∧ p1 < p2) :
    MetFree l (⟨"com/example/midstream/midstream/runtime/Split", "<init>", "(II)V"⟩ : MethodName) (head1 (Jvm.Cond.code (⟨"com/example/midstream/midstream/runtime/Split", "<init>", "(II)V"⟩ : MethodName) prog_19_method_1_code 3 none :: ws) ({ frames := 2, cells := 0, slots := 0, locals := 24 } : Room)) (fun a U => a = #[(.ref a1), (.int p1), (.int p2)] ∧ Z.Warmed39 U.vm ∧ U.heap = h0) (fun _ _ _ _ _ => True) (fun _ U o U' => ∃ v L, o = .returned v ∧ Q2 Z a1 p1 p2 h0 n0 v U'.heap L ∧ FrameEnd U o U' L ({ frames := 2, cells := 0, slots := 0, locals := 24 } : Room).cells ({ frames := 2, cells := 0, slots := 0, locals := 24 } : Room).slots) := by
  refine MetFree.of_bodySF (plainFor_of_name pn2) hisR ?_
  intro p e s m args below meth c s₁ Bd hml0 hP hK
  obtain ⟨rfl, hZ, hh⟩ := hP
  have hx := Bd.exec
  have hby := Bd.bytes
  have hml : c.maxLocals = 3 := hml0
  have hown : s.vm.findClass "com/example/midstream/midstream/runtime/Split" = some m.cls := findClass_of_methodNamed Bd.named
  have hnm := (name_of_methodNamed Bd.named Bd.method).1
  have X0 : Stand p l e ({ frames := 2, cells := 0, slots := 0, locals := 24 } : Room) s m #[(.ref a1), (.int p1), (.int p2)] below meth c s₁ [] 0 0 := Stand.of_body Bd
  have e0 : s₁.heap = h0 := by rw [← hh, Bd.state]; rfl
  have N0 := Fr.nil n0
  refine (show own_G p.tables e below (own_P s (Q2 Z a1 p1 p2 h0 n0) 0 0) (s₁.setTop (entryFrame m #[(.ref a1), (.int p1), (.int p2)] 3)) from ?_)
  refine own_via (fun t k => castTop (ef2 m a1 p1 p2) k) ?_
  show own_G p.tables e below _ (s₁.setTop (mkF m 0 #[.val (.ref a1), .val (.int p1), .val (.int p2)] []))
  have K0 := Keep.refl h0 [a1]
  refine own_via (S' := s₁.setTop (mkF m 1 #[.val (.ref a1), .val (.int p1), .val (.int p2)] [(.ref a1)])) (fun t k => ?_) ?_
  · show Steps p.tables e below (s₁.setTop (mkF m 0 #[.val (.ref a1), .val (.int p1), .val (.int p2)] [])) t
    refine XS.aloadN X0.here hx rfl (hb hby d2_0) rfl rfl ?_
    exact k
  obtain ⟨_, _, ⟨T1, L1, k1, n1⟩, -, X1, ⟨Lc1, hQ1, l1, y1, z1⟩, st1⟩ := X0.specialBack hx (y := (⟨"java/lang/Record", "<init>", "()V"⟩ : MethodName)) rfl hown (mvT hZ (hw _ (List.mem_of_getElem? (i := 12) rfl))) (mvT hZ (hw _ (List.mem_of_getElem? (i := 13) rfl))) (mvT hZ (hw _ (List.mem_of_getElem? (i := 16) rfl))) (by decide) (backOf (W := 0) (rm3 l Z a0 hw [] a1 h0 n0 (Nat.le_trans Z0 K0.1)) hZ (hw _ (List.mem_of_getElem? (i := 16) rfl)) (hw _ (List.mem_of_getElem? (i := 15) rfl)) (by decide) (by decide)) (g := (mkF m 1 #[.val (.ref a1), .val (.int p1), .val (.int p2)] [(.ref a1)])) rfl (by rw [hml]; rfl) (Steps.refl _) (a := a1) (argsL := []) (rest := []) (lenOf pd_0 rfl) rfl (by show 2 * 0 + _ ≤ _; exact Nat.le_of_eq rfl) (hb hby d2_1) (fun _ _ => ⟨rfl, e0, (by decide : 0 + 0 ≤ _), (by decide : 0 + 0 ≤ _)⟩)
  dsimp only [Pt.U, Pt.locs, Pt.cells, Pt.slots] at X1 l1 y1 z1 st1 hQ1
  subst l1 y1 z1
  obtain ⟨rfl, Nq1, hh1⟩ := hQ1
  have N1 := Fr.app N0 Nq1
  refine own_via (fun t k => st1.trans k) ?_
  show own_G p.tables e below _ (T1.setTop (mkF m 4 #[.val (.ref a1), .val (.int p1), .val (.int p2)] []))
  refine own_via (S' := T1.setTop (mkF m 6 #[.val (.ref a1), .val (.int p1), .val (.int p2)] [(.int (1 : Int32)), (.int p2)])) (fun t k => ?_) ?_
  · show Steps p.tables e below (T1.setTop (mkF m 4 #[.val (.ref a1), .val (.int p1), .val (.int p2)] [])) t
    refine XS.iloadN X1.here hx rfl (hb hby d2_4) rfl ?_
    show Steps p.tables e below (T1.setTop (mkF m 5 #[.val (.ref a1), .val (.int p1), .val (.int p2)] [(.int p2)])) t
    refine XS.iconst X1.here hx rfl (hb hby d2_5) ?_
    exact k
  refine own_via (S' := T1.setTop (mkF m 9 #[.val (.ref a1), .val (.int p1), .val (.int p2)] [])) (fun t k => XS.icmpNo (g := (mkF m 6 #[.val (.ref a1), .val (.int p1), .val (.int p2)] [(.int (1 : Int32)), (.int p2)])) X1.here hx rfl (hb hby d2_6) rfl (flt hs.1).1 k) ?_
  refine own_via (S' := T1.setTop (mkF m 10 #[.val (.ref a1), .val (.int p1), .val (.int p2)] [(.int p1)])) (fun t k => ?_) ?_
  · show Steps p.tables e below (T1.setTop (mkF m 9 #[.val (.ref a1), .val (.int p1), .val (.int p2)] [])) t
    refine XS.iloadN X1.here hx rfl (hb hby d2_9) rfl ?_
    exact k
  refine own_via (S' := T1.setTop (mkF m 13 #[.val (.ref a1), .val (.int p1), .val (.int p2)] [])) (fun t k => XS.ifNo (g := (mkF m 10 #[.val (.ref a1), .val (.int p1), .val (.int p2)] [(.int p1)])) X1.here hx rfl (hb hby d2_10) rfl ((if0 _ _).trans (flt hs.2.1).1) k) ?_
  refine own_via (S' := T1.setTop (mkF m 15 #[.val (.ref a1), .val (.int p1), .val (.int p2)] [(.int p2), (.int p1)])) (fun t k => ?_) ?_
  · show Steps p.tables e below (T1.setTop (mkF m 13 #[.val (.ref a1), .val (.int p1), .val (.int p2)] [])) t
    refine XS.iloadN X1.here hx rfl (hb hby d2_13) rfl ?_
    show Steps p.tables e below (T1.setTop (mkF m 14 #[.val (.ref a1), .val (.int p1), .val (.int p2)] [(.int p1)])) t
    refine XS.iloadN X1.here hx rfl (hb hby d2_14) rfl ?_
    exact k
  refine own_via (S' := T1.setTop (mkF m 33 #[.val (.ref a1), .val (.int p1), .val (.int p2)] [])) (fun t k => XS.icmpYes (g := (mkF m 15 #[.val (.ref a1), .val (.int p1), .val (.int p2)] [(.int p2), (.int p1)])) X1.here hx rfl (pc0 := 15) (pc' := 33) rfl (hb hby d2_15) rfl (tlt hs.2.2).1 (by decide) (by decide) k) ?_
  refine own_via (S' := T1.setTop (mkF m 35 #[.val (.ref a1), .val (.int p1), .val (.int p2)] [(.int p1), (.ref a1)])) (fun t k => ?_) ?_
  · show Steps p.tables e below (T1.setTop (mkF m 33 #[.val (.ref a1), .val (.int p1), .val (.int p2)] [])) t
    refine XS.aloadN X1.here hx rfl (hb hby d2_33) rfl rfl ?_
    show Steps p.tables e below (T1.setTop (mkF m 34 #[.val (.ref a1), .val (.int p1), .val (.int p2)] [(.ref a1)])) t
    refine XS.iloadN X1.here hx rfl (hb hby d2_34) rfl ?_
    exact k
  obtain ⟨T5, h5, X5, e5, W5, st5⟩ := putF X1 hx hZ hown (host := "") (Or.inl (hw _ (List.mem_of_getElem? (i := 20) rfl))) Via.refl hh1 F0_0 E_a1 (Or.inr ⟨(hw _ (List.mem_of_getElem? (i := 21) rfl)), rfl, hnm⟩) (hw _ (List.mem_of_getElem? (i := 7) rfl)) (ty := .int) (by decide) rfl rfl (g := (mkF m 35 #[.val (.ref a1), .val (.int p1), .val (.int p2)] [(.int p1), (.ref a1)])) rfl rfl (hb hby d2_35)
  have F5 := Fld.same W5 F0_0
  have K6 : Keep h0 h5 [a1] := Keep.wr K0 W5 (Or.inl (List.mem_of_getElem? (i := 0) rfl))
  have N6 := Fr.snoc X5 N1 g_a1
  refine own_via st5 ?_
  show own_G p.tables e below _ (T5.setTop (mkF m 38 #[.val (.ref a1), .val (.int p1), .val (.int p2)] []))
  refine own_via (S' := T5.setTop (mkF m 40 #[.val (.ref a1), .val (.int p1), .val (.int p2)] [(.int p2), (.ref a1)])) (fun t k => ?_) ?_
  · show Steps p.tables e below (T5.setTop (mkF m 38 #[.val (.ref a1), .val (.int p1), .val (.int p2)] [])) t
    refine XS.aloadN X5.here hx rfl (hb hby d2_38) rfl rfl ?_
    show Steps p.tables e below (T5.setTop (mkF m 39 #[.val (.ref a1), .val (.int p1), .val (.int p2)] [(.ref a1)])) t
    refine XS.iloadN X5.here hx rfl (hb hby d2_39) rfl ?_
    exact k
  have c7 := (Fld.other W5 F1_0 (Or.inr (slot_ne (Or.inr (hw _ (List.mem_of_getElem? (i := 23) rfl))) (Or.inr (hw _ (List.mem_of_getElem? (i := 21) rfl))) (by decide) (t := .int) (t' := .int) (by decide) (by decide))))
  have c8 := (Exa.wr W5 E_a1)
  obtain ⟨T9, h9, X9, e9, W9, st9⟩ := putF X5 hx hZ hown (host := "") (Or.inl (hw _ (List.mem_of_getElem? (i := 22) rfl))) Via.refl e5 c7 c8 (Or.inr ⟨(hw _ (List.mem_of_getElem? (i := 23) rfl)), rfl, hnm⟩) (hw _ (List.mem_of_getElem? (i := 7) rfl)) (ty := .int) (by decide) rfl rfl (g := (mkF m 40 #[.val (.ref a1), .val (.int p1), .val (.int p2)] [(.int p2), (.ref a1)])) rfl rfl (hb hby d2_40)
  have F9 := Fld.same W9 c7
  have K10 : Keep h0 h9 [a1] := Keep.wr K6 W9 (Or.inl (List.mem_of_getElem? (i := 0) rfl))
  have N10 := Fr.snoc X9 N6 g_a1
  refine own_via st9 ?_
  show own_G p.tables e below _ (T9.setTop (mkF m 43 #[.val (.ref a1), .val (.int p1), .val (.int p2)] []))
  have c11 := (Exa.wr W9 c8)
  have c12 := (Fld.other W9 F5 (Or.inr (slot_ne (Or.inr (hw _ (List.mem_of_getElem? (i := 21) rfl))) (Or.inr (hw _ (List.mem_of_getElem? (i := 23) rfl))) (by decide) (t := .int) (t' := .int) (by decide) (by decide))))
  exact own_end (h := h9) X9 (v := none) Bd.notSynchronized (fun _ => rfl) (fun fs hr => X9.returnOut hx Bd.returns (hb hby d2_43) hr) e9 ⟨rfl, N10, K10, c11, c12, F9⟩ (by decide) (by decide)
theorem d5_0 : decode prog_19_method_4_code 0 = .ok (.lload_n 1, 1) := by decide +kernel
theorem d5_1 : decode prog_19_method_4_code 1 = .ok (.aload_n 0, 1) := by decide +kernel
theorem d5_2 : decode prog_19_method_4_code 2 = .ok (.getfield 22, 3) := by decide +kernel
theorem d5_5 : decode prog_19_method_4_code 5 = .ok (.i2l, 1) := by decide +kernel
theorem d5_6 : decode prog_19_method_4_code 6 = .ok (.lrem, 1) := by decide +kernel
theorem d5_7 : decode prog_19_method_4_code 7 = .ok (.aload_n 0, 1) := by decide +kernel
theorem d5_8 : decode prog_19_method_4_code 8 = .ok (.getfield 16, 3) := by decide +kernel
theorem d5_11 : decode prog_19_method_4_code 11 = .ok (.i2l, 1) := by decide +kernel
theorem d5_12 : decode prog_19_method_4_code 12 = .ok (.lcmp, 1) := by decide +kernel
theorem d5_13 : decode prog_19_method_4_code 13 = .ok (.ifCond .ne 7, 3) := by decide +kernel
theorem d5_16 : decode prog_19_method_4_code 16 = .ok (.iconst 1, 1) := by decide +kernel
theorem d5_17 : decode prog_19_method_4_code 17 = .ok (.goto 4, 3) := by decide +kernel
theorem d5_20 : decode prog_19_method_4_code 20 = .ok (.iconst 0, 1) := by decide +kernel
theorem d5_21 : decode prog_19_method_4_code 21 = .ok (.ireturn, 1) := by decide +kernel
theorem pn5 : plainName "com/example/midstream/midstream/runtime/Split" = true := by first | (simp [plainName, overriddenIn]; done) | decide +kernel
theorem ef5 (m : MethodId) (x0 : Addr) (x1 : Int64) : entryFrame m #[(.ref x0), (.long x1)] 3 = mkF m 0 #[.val (.ref x0), .val (.long x1), .second] [] := by first | (simp [entryFrame, mkF, argsToLocals, Value.category]; done) | rfl
def Q5 (Z : State) (a1 : Addr) (q1 : Int64) (p1 : Int32) (p2 : Int32) (h0 : Heap) (n0 : Nat) (v : Option Value) (h : Heap) (L : List Loc) : Prop := v = some (.int (own_tk q1 p2 p1)) ∧ Fr n0 L ∧ h = h0
set_option maxRecDepth 65536 in
set_option maxHeartbeats 40000000 in
theorem rm5 (l : Launch) (Z : State) (a0 : Array Value) (hw : ∀ d ∈ tables_1, d.before a0 Z = true) (ws : List Jvm.Cond) (a1 : Addr) (q1 : Int64) (p1 : Int32) (p2 : Int32) (h0 : Heap) (n0 : Nat) (Z0 : n0 ≤ h0.size) (F1 : Fld Z h0 a1 "com/example/midstream/midstream/runtime/Split" "worker" "I" (.int p1)) (F2 : Fld Z h0 a1 "com/example/midstream/midstream/runtime/Split" "workers" "I" (.int p2)) (hnz : p2.toInt64 ≠ 0) :
    MetFree l (⟨"com/example/midstream/midstream/runtime/Split", "takes", "(J)Z"⟩ : MethodName) (head1 (Jvm.Cond.code (⟨"com/example/midstream/midstream/runtime/Split", "takes", "(J)Z"⟩ : MethodName) prog_19_method_4_code 3 (some .boolean) :: ws) ({ frames := 0, cells := 0, slots := 0, locals := 0 } : Room)) (fun a U => a = #[(.ref a1), (.long q1)] ∧ Z.Warmed39 U.vm ∧ U.heap = h0) (fun _ _ _ _ _ => True) (fun _ U o U' => ∃ v L, o = .returned v ∧ Q5 Z a1 q1 p1 p2 h0 n0 v U'.heap L ∧ FrameEnd U o U' L ({ frames := 0, cells := 0, slots := 0, locals := 0 } : Room).cells ({ frames := 0, cells := 0, slots := 0, locals := 0 } : Room).slots) := by
  refine MetFree.of_bodySF (plainFor_of_name pn5) hisR ?_
  intro p e s m args below meth c s₁ Bd hml0 hP hK
  obtain ⟨rfl, hZ, hh⟩ := hP
  have hx := Bd.exec
  have hby := Bd.bytes
  have hml : c.maxLocals = 3 := hml0
  have hown : s.vm.findClass "com/example/midstream/midstream/runtime/Split" = some m.cls := findClass_of_methodNamed Bd.named
  have hnm := (name_of_methodNamed Bd.named Bd.method).1
  have X0 : Stand p l e ({ frames := 0, cells := 0, slots := 0, locals := 0 } : Room) s m #[(.ref a1), (.long q1)] below meth c s₁ [] 0 0 := Stand.of_body Bd
  have e0 : s₁.heap = h0 := by rw [← hh, Bd.state]; rfl
  have N0 := Fr.nil n0
  refine (show own_G p.tables e below (own_P s (Q5 Z a1 q1 p1 p2 h0 n0) 0 0) (s₁.setTop (entryFrame m #[(.ref a1), (.long q1)] 3)) from ?_)
  refine own_via (fun t k => castTop (ef5 m a1 q1) k) ?_
  show own_G p.tables e below _ (s₁.setTop (mkF m 0 #[.val (.ref a1), .val (.long q1), .second] []))
  refine own_via (S' := s₁.setTop (mkF m 2 #[.val (.ref a1), .val (.long q1), .second] [(.ref a1), (.long q1)])) (fun t k => ?_) ?_
  · show Steps p.tables e below (s₁.setTop (mkF m 0 #[.val (.ref a1), .val (.long q1), .second] [])) t
    refine XS.lloadN X0.here hx rfl (hb hby d5_0) rfl ?_
    show Steps p.tables e below (s₁.setTop (mkF m 1 #[.val (.ref a1), .val (.long q1), .second] [(.long q1)])) t
    refine XS.aloadN X0.here hx rfl (hb hby d5_1) rfl rfl ?_
    exact k
  obtain ⟨T1, X1, e1, st1⟩ := getF X0 hx hZ hown (host := "") (Or.inl (hw _ (List.mem_of_getElem? (i := 22) rfl))) Via.refl e0 F2 (g := (mkF m 2 #[.val (.ref a1), .val (.long q1), .second] [(.ref a1), (.long q1)])) rfl rfl (hb hby d5_2)
  refine own_via st1 ?_
  show own_G p.tables e below _ (T1.setTop (mkF m 5 #[.val (.ref a1), .val (.long q1), .second] [(.int p2), (.long q1)]))
  refine own_via (S' := T1.setTop (mkF m 8 #[.val (.ref a1), .val (.long q1), .second] [(.ref a1), (.long (q1 - q1 / (p2.toInt64) * (p2.toInt64)))])) (fun t k => ?_) ?_
  · show Steps p.tables e below (T1.setTop (mkF m 5 #[.val (.ref a1), .val (.long q1), .second] [(.int p2), (.long q1)])) t
    refine XS.i2l X1.here hx rfl (hb hby d5_5) rfl ?_
    show Steps p.tables e below (T1.setTop (mkF m 6 #[.val (.ref a1), .val (.long q1), .second] [(.long (p2.toInt64)), (.long q1)])) t
    refine XS.lrem X1.here hx rfl (hb hby d5_6) rfl hnz ?_
    show Steps p.tables e below (T1.setTop (mkF m 7 #[.val (.ref a1), .val (.long q1), .second] [(.long (q1 - q1 / (p2.toInt64) * (p2.toInt64)))])) t
    refine XS.aloadN X1.here hx rfl (hb hby d5_7) rfl rfl ?_
    exact k
  obtain ⟨T2, X2, e2, st2⟩ := getF X1 hx hZ hown (host := "") (Or.inl (hw _ (List.mem_of_getElem? (i := 20) rfl))) Via.refl e1 F1 (g := (mkF m 8 #[.val (.ref a1), .val (.long q1), .second] [(.ref a1), (.long (q1 - q1 / (p2.toInt64) * (p2.toInt64)))])) rfl rfl (hb hby d5_8)
  refine own_via st2 ?_
  show own_G p.tables e below _ (T2.setTop (mkF m 11 #[.val (.ref a1), .val (.long q1), .second] [(.int p1), (.long (q1 - q1 / (p2.toInt64) * (p2.toInt64)))]))
  refine own_via (S' := T2.setTop (mkF m 13 #[.val (.ref a1), .val (.long q1), .second] [(.int (lcmpW (q1 - q1 / (p2.toInt64) * (p2.toInt64)) (p1.toInt64)))])) (fun t k => ?_) ?_
  · show Steps p.tables e below (T2.setTop (mkF m 11 #[.val (.ref a1), .val (.long q1), .second] [(.int p1), (.long (q1 - q1 / (p2.toInt64) * (p2.toInt64)))])) t
    refine XS.i2l X2.here hx rfl (hb hby d5_11) rfl ?_
    show Steps p.tables e below (T2.setTop (mkF m 12 #[.val (.ref a1), .val (.long q1), .second] [(.long (p1.toInt64)), (.long (q1 - q1 / (p2.toInt64) * (p2.toInt64)))])) t
    refine XS.lcmp X2.here hx rfl (hb hby d5_12) rfl ?_
    exact k
  by_cases hc13_3 : (q1 - q1 / (p2.toInt64) * (p2.toInt64)) = (p1.toInt64)
  · refine own_via (S' := T2.setTop (mkF m 16 #[.val (.ref a1), .val (.long q1), .second] [])) (fun t k => XS.ifNo (g := (mkF m 13 #[.val (.ref a1), .val (.long q1), .second] [(.int (lcmpW (q1 - q1 / (p2.toInt64) * (p2.toInt64)) (p1.toInt64)))])) X2.here hx rfl (hb hby d5_13) rfl ((if0 _ _).trans (teq ((lw_eq (q1 - q1 / (p2.toInt64) * (p2.toInt64)) (p1.toInt64)).mpr hc13_3)).2) k) ?_
    refine own_via (S' := T2.setTop (mkF m 21 #[.val (.ref a1), .val (.long q1), .second] [(.int (1 : Int32))])) (fun t k => ?_) ?_
    · show Steps p.tables e below (T2.setTop (mkF m 16 #[.val (.ref a1), .val (.long q1), .second] [])) t
      refine XS.iconst X2.here hx rfl (hb hby d5_16) ?_
      show Steps p.tables e below (T2.setTop (mkF m 17 #[.val (.ref a1), .val (.long q1), .second] [(.int (1 : Int32))])) t
      refine XS.goto X2.here hx rfl (pc0 := 17) (pc' := 21) rfl (hb hby d5_17) (by decide) (by decide) ?_
      exact k
    exact own_end (h := h0) X2 (v := some (.int (1 : Int32))) Bd.notSynchronized (fun h => by rw [Bd.returns] at h; cases h) (fun fs hr => retN X2 hx (t := .boolean) Bd.returns (by simp) (hb hby d5_21) hr) e2 ⟨by show some (Value.int _) = some (Value.int _); congr 2; unfold own_tk; grind, N0, rfl⟩ (by decide) (by decide)
  · refine own_via (S' := T2.setTop (mkF m 20 #[.val (.ref a1), .val (.long q1), .second] [])) (fun t k => XS.ifYes (g := (mkF m 13 #[.val (.ref a1), .val (.long q1), .second] [(.int (lcmpW (q1 - q1 / (p2.toInt64) * (p2.toInt64)) (p1.toInt64)))])) X2.here hx rfl (pc0 := 13) (pc' := 20) rfl (hb hby d5_13) rfl ((if0 _ _).trans (feq (fun q => hc13_3 ((lw_eq (q1 - q1 / (p2.toInt64) * (p2.toInt64)) (p1.toInt64)).mp q))).2) (by decide) (by decide) k) ?_
    refine own_via (S' := T2.setTop (mkF m 21 #[.val (.ref a1), .val (.long q1), .second] [(.int (0 : Int32))])) (fun t k => ?_) ?_
    · show Steps p.tables e below (T2.setTop (mkF m 20 #[.val (.ref a1), .val (.long q1), .second] [])) t
      refine XS.iconst X2.here hx rfl (hb hby d5_20) ?_
      exact k
    exact own_end (h := h0) X2 (v := some (.int (0 : Int32))) Bd.notSynchronized (fun h => by rw [Bd.returns] at h; cases h) (fun fs hr => retN X2 hx (t := .boolean) Bd.returns (by simp) (hb hby d5_21) hr) e2 ⟨by show some (Value.int _) = some (Value.int _); congr 2; unfold own_tk; grind, N0, rfl⟩ (by decide) (by decide)
theorem pn0 : plainName "com/example/midstream/midstream/runtime/SplitTakesPinLaw" = true := by first | (simp [plainName, overriddenIn]; done) | decide +kernel
theorem pd_1 : parseMethodDescriptor "(II)I" = some ⟨[.int, .int], some .int⟩ := by decide +kernel
theorem pd_2 : parseMethodDescriptor "(II)V" = some ⟨[.int, .int], none⟩ := by decide +kernel
theorem pd_3 : parseMethodDescriptor "(J)Z" = some ⟨[.long], some .boolean⟩ := by decide +kernel
theorem ef0 (m : MethodId) (x0 : Int32) (x1 : Int32) (x2 : Int32) (x3 : Int64) (x4 : Int32) : entryFrame m #[(.int x0), (.int x1), (.int x2), (.long x3), (.int x4)] maxLocals = mkF m 0 #[.val (.int x0), .val (.int x1), .val (.int x2), .val (.long x3), .second, .val (.int x4), .unset, .unset, .unset, .unset, .unset, .unset, .unset, .unset, .unset, .unset, .unset] [] := by first | (simp [entryFrame, mkF, argsToLocals, Value.category, maxLocals]; done) | rfl
def Q0 (Z : State) (p1 : Int32) (p2 : Int32) (p3 : Int32) (q4 : Int64) (p5 : Int32) (h0 : Heap) (n0 : Nat) (v : Option Value) (h : Heap) (L : List Loc) : Prop := v = some (.int 1) ∧ Fr n0 L
set_option maxRecDepth 65536 in
set_option maxHeartbeats 40000000 in
theorem rm0 (l : Launch) (Z : State) (a0 : Array Value) (hw : ∀ d ∈ tables_1, d.before a0 Z = true) (ws : List Jvm.Cond) (p1 : Int32) (p2 : Int32) (p3 : Int32) (q4 : Int64) (p5 : Int32) (h0 : Heap) (n0 : Nat) (Z0 : n0 ≤ h0.size) :
    MetFree l x (head1 (Jvm.Cond.code x code maxLocals ret :: ws) room_1) (fun a U => a = #[(.int p1), (.int p2), (.int p3), (.long q4), (.int p5)] ∧ Z.Warmed39 U.vm ∧ U.heap = h0) (fun _ _ _ _ _ => True) (fun _ U o U' => ∃ v L, o = .returned v ∧ Q0 Z p1 p2 p3 q4 p5 h0 n0 v U'.heap L ∧ FrameEnd U o U' L 16 128) := by
  refine MetFree.of_bodySF (plainFor_of_name pn0) hisR ?_
  intro p e s m args below meth c s₁ Bd hml0 hP hK
  obtain ⟨rfl, hZ, hh⟩ := hP
  have hx := Bd.exec
  have hby := Bd.bytes
  have hml : c.maxLocals = 17 := hml0
  have hown : s.vm.findClass "com/example/midstream/midstream/runtime/SplitTakesPinLaw" = some m.cls := findClass_of_methodNamed Bd.named
  have hnm := (name_of_methodNamed Bd.named Bd.method).1
  have X0 : Stand p l e room_1 s m #[(.int p1), (.int p2), (.int p3), (.long q4), (.int p5)] below meth c s₁ [] 0 0 := Stand.of_body Bd
  have e0 : s₁.heap = h0 := by rw [← hh, Bd.state]; rfl
  have N0 := Fr.nil n0
  refine (show own_G p.tables e below (own_P s (Q0 Z p1 p2 p3 q4 p5 h0 n0) 16 128) (s₁.setTop (entryFrame m #[(.int p1), (.int p2), (.int p3), (.long q4), (.int p5)] maxLocals)) from ?_)
  refine own_via (fun t k => castTop (ef0 m p1 p2 p3 q4 p5) k) ?_
  show own_G p.tables e below _ (s₁.setTop (mkF m 0 #[.val (.int p1), .val (.int p2), .val (.int p3), .val (.long q4), .second, .val (.int p5), .unset, .unset, .unset, .unset, .unset, .unset, .unset, .unset, .unset, .unset, .unset] []))
  have K0 := Keep.refl h0 []
  refine own_via (S' := s₁.setTop (mkF m 5 #[.val (.int p1), .val (.int p2), .val (.int p3), .val (.long q4), .second, .val (.int p5), .unset, .unset, .unset, .unset, .unset, .unset, .unset, .unset, .unset, .unset, .unset] [(.int (p1 &&& (2147483647 : Int32))), (.int (1 : Int32))])) (fun t k => ?_) ?_
  · show Steps p.tables e below (s₁.setTop (mkF m 0 #[.val (.int p1), .val (.int p2), .val (.int p3), .val (.long q4), .second, .val (.int p5), .unset, .unset, .unset, .unset, .unset, .unset, .unset, .unset, .unset, .unset, .unset] [])) t
    refine XS.iconst X0.here hx rfl (hb hby at_0) ?_
    show Steps p.tables e below (s₁.setTop (mkF m 1 #[.val (.int p1), .val (.int p2), .val (.int p3), .val (.long q4), .second, .val (.int p5), .unset, .unset, .unset, .unset, .unset, .unset, .unset, .unset, .unset, .unset, .unset] [(.int (1 : Int32))])) t
    refine XS.iloadN X0.here hx rfl (hb hby at_1) rfl ?_
    show Steps p.tables e below (s₁.setTop (mkF m 2 #[.val (.int p1), .val (.int p2), .val (.int p3), .val (.long q4), .second, .val (.int p5), .unset, .unset, .unset, .unset, .unset, .unset, .unset, .unset, .unset, .unset, .unset] [(.int p1), (.int (1 : Int32))])) t
    refine X0.ldcInt hx hown (mvT hZ (hw _ (List.mem_of_getElem? (i := 0) rfl))) (g := (mkF m 2 #[.val (.int p1), .val (.int p2), .val (.int p3), .val (.long q4), .second, .val (.int p5), .unset, .unset, .unset, .unset, .unset, .unset, .unset, .unset, .unset, .unset, .unset] [(.int p1), (.int (1 : Int32))])) rfl (hb hby at_2) _ ?_
    show Steps p.tables e below (s₁.setTop (mkF m 4 #[.val (.int p1), .val (.int p2), .val (.int p3), .val (.long q4), .second, .val (.int p5), .unset, .unset, .unset, .unset, .unset, .unset, .unset, .unset, .unset, .unset, .unset] [(.int (2147483647 : Int32)), (.int p1), (.int (1 : Int32))])) t
    refine XS.iand X0.here hx rfl (hb hby at_4) rfl ?_
    exact k
  obtain ⟨_, _, ⟨T1, L1, k1, n1⟩, -, X1, ⟨Lc1, hQ1, l1, y1, z1⟩, st1⟩ := Jvm.LawKit.callS X0 hx (y := (⟨"java/lang/Math", "max", "(II)I"⟩ : MethodName)) hown (mvT hZ (hw _ (List.mem_of_getElem? (i := 1) rfl))) (mvT hZ (hw _ (List.mem_of_getElem? (i := 2) rfl))) (mvT hZ (hw _ (List.mem_of_getElem? (i := 3) rfl))) (mvT hZ (hw _ (List.mem_of_getElem? (i := 4) rfl))) (by decide) (backOf (W := 0) (rm1 l Z a0 hw [] (1 : Int32) (p1 &&& (2147483647 : Int32)) h0 n0 (Nat.le_trans Z0 K0.1)) hZ (hw _ (List.mem_of_getElem? (i := 4) rfl)) (hw _ (List.mem_of_getElem? (i := 3) rfl)) (by decide) (by decide)) (g := (mkF m 5 #[.val (.int p1), .val (.int p2), .val (.int p3), .val (.long q4), .second, .val (.int p5), .unset, .unset, .unset, .unset, .unset, .unset, .unset, .unset, .unset, .unset, .unset] [(.int (p1 &&& (2147483647 : Int32))), (.int (1 : Int32))])) rfl (by rw [hml]; rfl) (argsL := [(.int (1 : Int32)), (.int (p1 &&& (2147483647 : Int32)))]) (rest := []) (lenOf pd_1 rfl) rfl (by show 2 * 0 + _ ≤ _; exact Nat.le_of_eq rfl) (hb hby at_5) (fun _ _ => ⟨rfl, e0, (by decide : 0 + 0 ≤ _), (by decide : 0 + 0 ≤ _)⟩)
  dsimp only [Pt.U, Pt.locs, Pt.cells, Pt.slots] at X1 l1 y1 z1 st1 hQ1
  subst l1 y1 z1
  obtain ⟨rfl, Nq1, hh1⟩ := hQ1
  have N1 := Fr.app N0 Nq1
  refine own_via st1 ?_
  show own_G p.tables e below _ (T1.setTop (mkF m 8 #[.val (.int p1), .val (.int p2), .val (.int p3), .val (.long q4), .second, .val (.int p5), .unset, .unset, .unset, .unset, .unset, .unset, .unset, .unset, .unset, .unset, .unset] [(.int (own_max (1 : Int32) (p1 &&& (2147483647 : Int32))))]))
  refine own_via (S' := T1.setTop (mkF m 10 #[.val (.int p1), .val (.int p2), .val (.int p3), .val (.long q4), .second, .val (.int p5), .val (.int (own_max (1 : Int32) (p1 &&& (2147483647 : Int32)))), .unset, .unset, .unset, .unset, .unset, .unset, .unset, .unset, .unset, .unset] [])) (fun t k => ?_) ?_
  · show Steps p.tables e below (T1.setTop (mkF m 8 #[.val (.int p1), .val (.int p2), .val (.int p3), .val (.long q4), .second, .val (.int p5), .unset, .unset, .unset, .unset, .unset, .unset, .unset, .unset, .unset, .unset, .unset] [(.int (own_max (1 : Int32) (p1 &&& (2147483647 : Int32))))])) t
    refine XS.istore X1.here hx rfl (hb hby at_8) rfl (l' := #[.val (.int p1), .val (.int p2), .val (.int p3), .val (.long q4), .second, .val (.int p5), .val (.int (own_max (1 : Int32) (p1 &&& (2147483647 : Int32)))), .unset, .unset, .unset, .unset, .unset, .unset, .unset, .unset, .unset, .unset]) rfl ?_
    exact k
  obtain ⟨nn, hn_nn⟩ : ∃ z, z = (own_max (1 : Int32) (p1 &&& (2147483647 : Int32))) := ⟨_, rfl⟩
  rw [← hn_nn]
  show own_G p.tables e below _ (T1.setTop (mkF m 10 #[.val (.int p1), .val (.int p2), .val (.int p3), .val (.long q4), .second, .val (.int p5), .val (.int nn), .unset, .unset, .unset, .unset, .unset, .unset, .unset, .unset, .unset, .unset] []))
  have hnn : 1 ≤ nn.toInt := by rw [hn_nn]; exact own_m1 _
  refine own_via (S' := T1.setTop (mkF m 19 #[.val (.int p1), .val (.int p2), .val (.int p3), .val (.long q4), .second, .val (.int p5), .val (.int nn), .val (.int ((p2 &&& (2147483647 : Int32)) % nn)), .unset, .unset, .unset, .unset, .unset, .unset, .unset, .unset, .unset] [])) (fun t k => ?_) ?_
  · show Steps p.tables e below (T1.setTop (mkF m 10 #[.val (.int p1), .val (.int p2), .val (.int p3), .val (.long q4), .second, .val (.int p5), .val (.int nn), .unset, .unset, .unset, .unset, .unset, .unset, .unset, .unset, .unset, .unset] [])) t
    refine XS.iloadN X1.here hx rfl (hb hby at_10) rfl ?_
    show Steps p.tables e below (T1.setTop (mkF m 11 #[.val (.int p1), .val (.int p2), .val (.int p3), .val (.long q4), .second, .val (.int p5), .val (.int nn), .unset, .unset, .unset, .unset, .unset, .unset, .unset, .unset, .unset, .unset] [(.int p2)])) t
    refine X1.ldcInt hx hown (mvT hZ (hw _ (List.mem_of_getElem? (i := 0) rfl))) (g := (mkF m 11 #[.val (.int p1), .val (.int p2), .val (.int p3), .val (.long q4), .second, .val (.int p5), .val (.int nn), .unset, .unset, .unset, .unset, .unset, .unset, .unset, .unset, .unset, .unset] [(.int p2)])) rfl (hb hby at_11) _ ?_
    show Steps p.tables e below (T1.setTop (mkF m 13 #[.val (.int p1), .val (.int p2), .val (.int p3), .val (.long q4), .second, .val (.int p5), .val (.int nn), .unset, .unset, .unset, .unset, .unset, .unset, .unset, .unset, .unset, .unset] [(.int (2147483647 : Int32)), (.int p2)])) t
    refine XS.iand X1.here hx rfl (hb hby at_13) rfl ?_
    show Steps p.tables e below (T1.setTop (mkF m 14 #[.val (.int p1), .val (.int p2), .val (.int p3), .val (.long q4), .second, .val (.int p5), .val (.int nn), .unset, .unset, .unset, .unset, .unset, .unset, .unset, .unset, .unset, .unset] [(.int (p2 &&& (2147483647 : Int32)))])) t
    refine XS.iload X1.here hx rfl (hb hby at_14) rfl ?_
    show Steps p.tables e below (T1.setTop (mkF m 16 #[.val (.int p1), .val (.int p2), .val (.int p3), .val (.long q4), .second, .val (.int p5), .val (.int nn), .unset, .unset, .unset, .unset, .unset, .unset, .unset, .unset, .unset, .unset] [(.int nn), (.int (p2 &&& (2147483647 : Int32)))])) t
    refine iremM X1 hx rfl (hb hby at_16) rfl (own_nz hnn) ?_
    show Steps p.tables e below (T1.setTop (mkF m 17 #[.val (.int p1), .val (.int p2), .val (.int p3), .val (.long q4), .second, .val (.int p5), .val (.int nn), .unset, .unset, .unset, .unset, .unset, .unset, .unset, .unset, .unset, .unset] [(.int ((p2 &&& (2147483647 : Int32)) % nn))])) t
    refine XS.istore X1.here hx rfl (hb hby at_17) rfl (l' := #[.val (.int p1), .val (.int p2), .val (.int p3), .val (.long q4), .second, .val (.int p5), .val (.int nn), .val (.int ((p2 &&& (2147483647 : Int32)) % nn)), .unset, .unset, .unset, .unset, .unset, .unset, .unset, .unset, .unset]) rfl ?_
    exact k
  obtain ⟨ww, hn_ww⟩ : ∃ z, z = ((p2 &&& (2147483647 : Int32)) % nn) := ⟨_, rfl⟩
  rw [← hn_ww]
  show own_G p.tables e below _ (T1.setTop (mkF m 19 #[.val (.int p1), .val (.int p2), .val (.int p3), .val (.long q4), .second, .val (.int p5), .val (.int nn), .val (.int ww), .unset, .unset, .unset, .unset, .unset, .unset, .unset, .unset, .unset] []))
  have hww := own_rem p2 nn hnn
  rw [← hn_ww] at hww
  refine own_via (S' := T1.setTop (mkF m 28 #[.val (.int p1), .val (.int p2), .val (.int p3), .val (.long q4), .second, .val (.int p5), .val (.int nn), .val (.int ww), .val (.int ((p3 &&& (2147483647 : Int32)) % nn)), .unset, .unset, .unset, .unset, .unset, .unset, .unset, .unset] [])) (fun t k => ?_) ?_
  · show Steps p.tables e below (T1.setTop (mkF m 19 #[.val (.int p1), .val (.int p2), .val (.int p3), .val (.long q4), .second, .val (.int p5), .val (.int nn), .val (.int ww), .unset, .unset, .unset, .unset, .unset, .unset, .unset, .unset, .unset] [])) t
    refine XS.iloadN X1.here hx rfl (hb hby at_19) rfl ?_
    show Steps p.tables e below (T1.setTop (mkF m 20 #[.val (.int p1), .val (.int p2), .val (.int p3), .val (.long q4), .second, .val (.int p5), .val (.int nn), .val (.int ww), .unset, .unset, .unset, .unset, .unset, .unset, .unset, .unset, .unset] [(.int p3)])) t
    refine X1.ldcInt hx hown (mvT hZ (hw _ (List.mem_of_getElem? (i := 0) rfl))) (g := (mkF m 20 #[.val (.int p1), .val (.int p2), .val (.int p3), .val (.long q4), .second, .val (.int p5), .val (.int nn), .val (.int ww), .unset, .unset, .unset, .unset, .unset, .unset, .unset, .unset, .unset] [(.int p3)])) rfl (hb hby at_20) _ ?_
    show Steps p.tables e below (T1.setTop (mkF m 22 #[.val (.int p1), .val (.int p2), .val (.int p3), .val (.long q4), .second, .val (.int p5), .val (.int nn), .val (.int ww), .unset, .unset, .unset, .unset, .unset, .unset, .unset, .unset, .unset] [(.int (2147483647 : Int32)), (.int p3)])) t
    refine XS.iand X1.here hx rfl (hb hby at_22) rfl ?_
    show Steps p.tables e below (T1.setTop (mkF m 23 #[.val (.int p1), .val (.int p2), .val (.int p3), .val (.long q4), .second, .val (.int p5), .val (.int nn), .val (.int ww), .unset, .unset, .unset, .unset, .unset, .unset, .unset, .unset, .unset] [(.int (p3 &&& (2147483647 : Int32)))])) t
    refine XS.iload X1.here hx rfl (hb hby at_23) rfl ?_
    show Steps p.tables e below (T1.setTop (mkF m 25 #[.val (.int p1), .val (.int p2), .val (.int p3), .val (.long q4), .second, .val (.int p5), .val (.int nn), .val (.int ww), .unset, .unset, .unset, .unset, .unset, .unset, .unset, .unset, .unset] [(.int nn), (.int (p3 &&& (2147483647 : Int32)))])) t
    refine iremM X1 hx rfl (hb hby at_25) rfl (own_nz hnn) ?_
    show Steps p.tables e below (T1.setTop (mkF m 26 #[.val (.int p1), .val (.int p2), .val (.int p3), .val (.long q4), .second, .val (.int p5), .val (.int nn), .val (.int ww), .unset, .unset, .unset, .unset, .unset, .unset, .unset, .unset, .unset] [(.int ((p3 &&& (2147483647 : Int32)) % nn))])) t
    refine XS.istore X1.here hx rfl (hb hby at_26) rfl (l' := #[.val (.int p1), .val (.int p2), .val (.int p3), .val (.long q4), .second, .val (.int p5), .val (.int nn), .val (.int ww), .val (.int ((p3 &&& (2147483647 : Int32)) % nn)), .unset, .unset, .unset, .unset, .unset, .unset, .unset, .unset]) rfl ?_
    exact k
  obtain ⟨rr, hn_rr⟩ : ∃ z, z = ((p3 &&& (2147483647 : Int32)) % nn) := ⟨_, rfl⟩
  rw [← hn_rr]
  show own_G p.tables e below _ (T1.setTop (mkF m 28 #[.val (.int p1), .val (.int p2), .val (.int p3), .val (.long q4), .second, .val (.int p5), .val (.int nn), .val (.int ww), .val (.int rr), .unset, .unset, .unset, .unset, .unset, .unset, .unset, .unset] []))
  have hrr := own_rem p3 nn hnn
  rw [← hn_rr] at hrr
  refine own_via (S' := T1.setTop (mkF m 32 #[.val (.int p1), .val (.int p2), .val (.int p3), .val (.long q4), .second, .val (.int p5), .val (.int nn), .val (.int ww), .val (.int rr), .unset, .unset, .unset, .unset, .unset, .unset, .unset, .unset] [(.int (p5 &&& (1 : Int32)))])) (fun t k => ?_) ?_
  · show Steps p.tables e below (T1.setTop (mkF m 28 #[.val (.int p1), .val (.int p2), .val (.int p3), .val (.long q4), .second, .val (.int p5), .val (.int nn), .val (.int ww), .val (.int rr), .unset, .unset, .unset, .unset, .unset, .unset, .unset, .unset] [])) t
    refine XS.iload X1.here hx rfl (hb hby at_28) rfl ?_
    show Steps p.tables e below (T1.setTop (mkF m 30 #[.val (.int p1), .val (.int p2), .val (.int p3), .val (.long q4), .second, .val (.int p5), .val (.int nn), .val (.int ww), .val (.int rr), .unset, .unset, .unset, .unset, .unset, .unset, .unset, .unset] [(.int p5)])) t
    refine XS.iconst X1.here hx rfl (hb hby at_30) ?_
    show Steps p.tables e below (T1.setTop (mkF m 31 #[.val (.int p1), .val (.int p2), .val (.int p3), .val (.long q4), .second, .val (.int p5), .val (.int nn), .val (.int ww), .val (.int rr), .unset, .unset, .unset, .unset, .unset, .unset, .unset, .unset] [(.int (1 : Int32)), (.int p5)])) t
    refine XS.iand X1.here hx rfl (hb hby at_31) rfl ?_
    exact k
  by_cases hc32_2 : (p5 &&& (1 : Int32)) = (0 : Int32)
  · refine own_via (S' := T1.setTop (mkF m 39 #[.val (.int p1), .val (.int p2), .val (.int p3), .val (.long q4), .second, .val (.int p5), .val (.int nn), .val (.int ww), .val (.int rr), .unset, .unset, .unset, .unset, .unset, .unset, .unset, .unset] [])) (fun t k => XS.ifYes (g := (mkF m 32 #[.val (.int p1), .val (.int p2), .val (.int p3), .val (.long q4), .second, .val (.int p5), .val (.int nn), .val (.int ww), .val (.int rr), .unset, .unset, .unset, .unset, .unset, .unset, .unset, .unset] [(.int (p5 &&& (1 : Int32)))])) X1.here hx rfl (pc0 := 32) (pc' := 39) rfl (hb hby at_32) rfl ((if0 _ _).trans (teq hc32_2).1) (by decide) (by decide) k) ?_
    refine own_via (S' := T1.setTop (mkF m 46 #[.val (.int p1), .val (.int p2), .val (.int p3), .val (.long q4), .second, .val (.int p5), .val (.int nn), .val (.int ww), .val (.int rr), .val (.long (q4 &&& (9223372036854775807 : Int64))), .second, .unset, .unset, .unset, .unset, .unset, .unset] [])) (fun t k => ?_) ?_
    · show Steps p.tables e below (T1.setTop (mkF m 39 #[.val (.int p1), .val (.int p2), .val (.int p3), .val (.long q4), .second, .val (.int p5), .val (.int nn), .val (.int ww), .val (.int rr), .unset, .unset, .unset, .unset, .unset, .unset, .unset, .unset] [])) t
      refine XS.lloadN X1.here hx rfl (hb hby at_39) rfl ?_
      show Steps p.tables e below (T1.setTop (mkF m 40 #[.val (.int p1), .val (.int p2), .val (.int p3), .val (.long q4), .second, .val (.int p5), .val (.int nn), .val (.int ww), .val (.int rr), .unset, .unset, .unset, .unset, .unset, .unset, .unset, .unset] [(.long q4)])) t
      refine X1.ldc2Long hx hown (mvT hZ (hw _ (List.mem_of_getElem? (i := 5) rfl))) (g := (mkF m 40 #[.val (.int p1), .val (.int p2), .val (.int p3), .val (.long q4), .second, .val (.int p5), .val (.int nn), .val (.int ww), .val (.int rr), .unset, .unset, .unset, .unset, .unset, .unset, .unset, .unset] [(.long q4)])) rfl (hb hby at_40) _ ?_
      show Steps p.tables e below (T1.setTop (mkF m 43 #[.val (.int p1), .val (.int p2), .val (.int p3), .val (.long q4), .second, .val (.int p5), .val (.int nn), .val (.int ww), .val (.int rr), .unset, .unset, .unset, .unset, .unset, .unset, .unset, .unset] [(.long (9223372036854775807 : Int64)), (.long q4)])) t
      refine XS.land X1.here hx rfl (hb hby at_43) rfl ?_
      show Steps p.tables e below (T1.setTop (mkF m 44 #[.val (.int p1), .val (.int p2), .val (.int p3), .val (.long q4), .second, .val (.int p5), .val (.int nn), .val (.int ww), .val (.int rr), .unset, .unset, .unset, .unset, .unset, .unset, .unset, .unset] [(.long (q4 &&& (9223372036854775807 : Int64)))])) t
      refine XS.lstore X1.here hx rfl (hb hby at_44) rfl (l' := #[.val (.int p1), .val (.int p2), .val (.int p3), .val (.long q4), .second, .val (.int p5), .val (.int nn), .val (.int ww), .val (.int rr), .val (.long (q4 &&& (9223372036854775807 : Int64))), .second, .unset, .unset, .unset, .unset, .unset, .unset]) rfl ?_
      exact k
    obtain ⟨big, hn_big⟩ : ∃ z, z = (q4 &&& (9223372036854775807 : Int64)) := ⟨_, rfl⟩
    rw [← hn_big]
    show own_G p.tables e below _ (T1.setTop (mkF m 46 #[.val (.int p1), .val (.int p2), .val (.int p3), .val (.long q4), .second, .val (.int p5), .val (.int nn), .val (.int ww), .val (.int rr), .val (.long big), .second, .unset, .unset, .unset, .unset, .unset, .unset] []))
    have hbig : 0 ≤ big.toInt := by rw [hn_big]; exact own_big _
    refine own_via (S' := T1.setTop (mkF m 68 #[.val (.int p1), .val (.int p2), .val (.int p3), .val (.long q4), .second, .val (.int p5), .val (.int nn), .val (.int ww), .val (.int rr), .val (.long big), .second, .val (.long (big / (nn.toInt64))), .second, .unset, .unset, .unset, .unset] [(.int (lcmpW ((big / (nn.toInt64)) * (nn.toInt64)) ((9223372036854775807 : Int64) - (rr.toInt64))))])) (fun t k => ?_) ?_
    · show Steps p.tables e below (T1.setTop (mkF m 46 #[.val (.int p1), .val (.int p2), .val (.int p3), .val (.long q4), .second, .val (.int p5), .val (.int nn), .val (.int ww), .val (.int rr), .val (.long big), .second, .unset, .unset, .unset, .unset, .unset, .unset] [])) t
      refine XS.lload X1.here hx rfl (hb hby at_46) rfl ?_
      show Steps p.tables e below (T1.setTop (mkF m 48 #[.val (.int p1), .val (.int p2), .val (.int p3), .val (.long q4), .second, .val (.int p5), .val (.int nn), .val (.int ww), .val (.int rr), .val (.long big), .second, .unset, .unset, .unset, .unset, .unset, .unset] [(.long big)])) t
      refine XS.iload X1.here hx rfl (hb hby at_48) rfl ?_
      show Steps p.tables e below (T1.setTop (mkF m 50 #[.val (.int p1), .val (.int p2), .val (.int p3), .val (.long q4), .second, .val (.int p5), .val (.int nn), .val (.int ww), .val (.int rr), .val (.long big), .second, .unset, .unset, .unset, .unset, .unset, .unset] [(.int nn), (.long big)])) t
      refine XS.i2l X1.here hx rfl (hb hby at_50) rfl ?_
      show Steps p.tables e below (T1.setTop (mkF m 51 #[.val (.int p1), .val (.int p2), .val (.int p3), .val (.long q4), .second, .val (.int p5), .val (.int nn), .val (.int ww), .val (.int rr), .val (.long big), .second, .unset, .unset, .unset, .unset, .unset, .unset] [(.long (nn.toInt64)), (.long big)])) t
      refine XS.ldiv X1.here hx rfl (hb hby at_51) rfl (own_nzL hnn) ?_
      show Steps p.tables e below (T1.setTop (mkF m 52 #[.val (.int p1), .val (.int p2), .val (.int p3), .val (.long q4), .second, .val (.int p5), .val (.int nn), .val (.int ww), .val (.int rr), .val (.long big), .second, .unset, .unset, .unset, .unset, .unset, .unset] [(.long (big / (nn.toInt64)))])) t
      refine XS.lstore X1.here hx rfl (hb hby at_52) rfl (l' := #[.val (.int p1), .val (.int p2), .val (.int p3), .val (.long q4), .second, .val (.int p5), .val (.int nn), .val (.int ww), .val (.int rr), .val (.long big), .second, .val (.long (big / (nn.toInt64))), .second, .unset, .unset, .unset, .unset]) rfl ?_
      show Steps p.tables e below (T1.setTop (mkF m 54 #[.val (.int p1), .val (.int p2), .val (.int p3), .val (.long q4), .second, .val (.int p5), .val (.int nn), .val (.int ww), .val (.int rr), .val (.long big), .second, .val (.long (big / (nn.toInt64))), .second, .unset, .unset, .unset, .unset] [])) t
      refine XS.lload X1.here hx rfl (hb hby at_54) rfl ?_
      show Steps p.tables e below (T1.setTop (mkF m 56 #[.val (.int p1), .val (.int p2), .val (.int p3), .val (.long q4), .second, .val (.int p5), .val (.int nn), .val (.int ww), .val (.int rr), .val (.long big), .second, .val (.long (big / (nn.toInt64))), .second, .unset, .unset, .unset, .unset] [(.long (big / (nn.toInt64)))])) t
      refine XS.iload X1.here hx rfl (hb hby at_56) rfl ?_
      show Steps p.tables e below (T1.setTop (mkF m 58 #[.val (.int p1), .val (.int p2), .val (.int p3), .val (.long q4), .second, .val (.int p5), .val (.int nn), .val (.int ww), .val (.int rr), .val (.long big), .second, .val (.long (big / (nn.toInt64))), .second, .unset, .unset, .unset, .unset] [(.int nn), (.long (big / (nn.toInt64)))])) t
      refine XS.i2l X1.here hx rfl (hb hby at_58) rfl ?_
      show Steps p.tables e below (T1.setTop (mkF m 59 #[.val (.int p1), .val (.int p2), .val (.int p3), .val (.long q4), .second, .val (.int p5), .val (.int nn), .val (.int ww), .val (.int rr), .val (.long big), .second, .val (.long (big / (nn.toInt64))), .second, .unset, .unset, .unset, .unset] [(.long (nn.toInt64)), (.long (big / (nn.toInt64)))])) t
      refine XS.lmul X1.here hx rfl (hb hby at_59) rfl ?_
      show Steps p.tables e below (T1.setTop (mkF m 60 #[.val (.int p1), .val (.int p2), .val (.int p3), .val (.long q4), .second, .val (.int p5), .val (.int nn), .val (.int ww), .val (.int rr), .val (.long big), .second, .val (.long (big / (nn.toInt64))), .second, .unset, .unset, .unset, .unset] [(.long ((big / (nn.toInt64)) * (nn.toInt64)))])) t
      refine X1.ldc2Long hx hown (mvT hZ (hw _ (List.mem_of_getElem? (i := 5) rfl))) (g := (mkF m 60 #[.val (.int p1), .val (.int p2), .val (.int p3), .val (.long q4), .second, .val (.int p5), .val (.int nn), .val (.int ww), .val (.int rr), .val (.long big), .second, .val (.long (big / (nn.toInt64))), .second, .unset, .unset, .unset, .unset] [(.long ((big / (nn.toInt64)) * (nn.toInt64)))])) rfl (hb hby at_60) _ ?_
      show Steps p.tables e below (T1.setTop (mkF m 63 #[.val (.int p1), .val (.int p2), .val (.int p3), .val (.long q4), .second, .val (.int p5), .val (.int nn), .val (.int ww), .val (.int rr), .val (.long big), .second, .val (.long (big / (nn.toInt64))), .second, .unset, .unset, .unset, .unset] [(.long (9223372036854775807 : Int64)), (.long ((big / (nn.toInt64)) * (nn.toInt64)))])) t
      refine XS.iload X1.here hx rfl (hb hby at_63) rfl ?_
      show Steps p.tables e below (T1.setTop (mkF m 65 #[.val (.int p1), .val (.int p2), .val (.int p3), .val (.long q4), .second, .val (.int p5), .val (.int nn), .val (.int ww), .val (.int rr), .val (.long big), .second, .val (.long (big / (nn.toInt64))), .second, .unset, .unset, .unset, .unset] [(.int rr), (.long (9223372036854775807 : Int64)), (.long ((big / (nn.toInt64)) * (nn.toInt64)))])) t
      refine XS.i2l X1.here hx rfl (hb hby at_65) rfl ?_
      show Steps p.tables e below (T1.setTop (mkF m 66 #[.val (.int p1), .val (.int p2), .val (.int p3), .val (.long q4), .second, .val (.int p5), .val (.int nn), .val (.int ww), .val (.int rr), .val (.long big), .second, .val (.long (big / (nn.toInt64))), .second, .unset, .unset, .unset, .unset] [(.long (rr.toInt64)), (.long (9223372036854775807 : Int64)), (.long ((big / (nn.toInt64)) * (nn.toInt64)))])) t
      refine XS.lsub X1.here hx rfl (hb hby at_66) rfl ?_
      show Steps p.tables e below (T1.setTop (mkF m 67 #[.val (.int p1), .val (.int p2), .val (.int p3), .val (.long q4), .second, .val (.int p5), .val (.int nn), .val (.int ww), .val (.int rr), .val (.long big), .second, .val (.long (big / (nn.toInt64))), .second, .unset, .unset, .unset, .unset] [(.long ((9223372036854775807 : Int64) - (rr.toInt64))), (.long ((big / (nn.toInt64)) * (nn.toInt64)))])) t
      refine XS.lcmp X1.here hx rfl (hb hby at_67) rfl ?_
      exact k
    by_cases hc68_3 : ((9223372036854775807 : Int64) - (rr.toInt64)) < ((big / (nn.toInt64)) * (nn.toInt64))
    · refine own_via (S' := T1.setTop (mkF m 71 #[.val (.int p1), .val (.int p2), .val (.int p3), .val (.long q4), .second, .val (.int p5), .val (.int nn), .val (.int ww), .val (.int rr), .val (.long big), .second, .val (.long (big / (nn.toInt64))), .second, .unset, .unset, .unset, .unset] [])) (fun t k => XS.ifNo (g := (mkF m 68 #[.val (.int p1), .val (.int p2), .val (.int p3), .val (.long q4), .second, .val (.int p5), .val (.int nn), .val (.int ww), .val (.int rr), .val (.long big), .second, .val (.long (big / (nn.toInt64))), .second, .unset, .unset, .unset, .unset] [(.int (lcmpW ((big / (nn.toInt64)) * (nn.toInt64)) ((9223372036854775807 : Int64) - (rr.toInt64))))])) X1.here hx rfl (hb hby at_68) rfl ((if0 _ _).trans (tlt ((lw_gt ((big / (nn.toInt64)) * (nn.toInt64)) ((9223372036854775807 : Int64) - (rr.toInt64))).mpr hc68_3)).2.2.2) k) ?_
      refine own_via (S' := T1.setTop (mkF m 89 #[.val (.int p1), .val (.int p2), .val (.int p3), .val (.long q4), .second, .val (.int p5), .val (.int nn), .val (.int ww), .val (.int rr), .val (.long big), .second, .val (.long ((big / (nn.toInt64)) - (1 : Int64))), .second, .val (.long ((((big / (nn.toInt64)) - (1 : Int64)) * (nn.toInt64)) + (rr.toInt64))), .second, .unset, .unset] [])) (fun t k => ?_) ?_
      · show Steps p.tables e below (T1.setTop (mkF m 71 #[.val (.int p1), .val (.int p2), .val (.int p3), .val (.long q4), .second, .val (.int p5), .val (.int nn), .val (.int ww), .val (.int rr), .val (.long big), .second, .val (.long (big / (nn.toInt64))), .second, .unset, .unset, .unset, .unset] [])) t
        refine XS.lload X1.here hx rfl (hb hby at_71) rfl ?_
        show Steps p.tables e below (T1.setTop (mkF m 73 #[.val (.int p1), .val (.int p2), .val (.int p3), .val (.long q4), .second, .val (.int p5), .val (.int nn), .val (.int ww), .val (.int rr), .val (.long big), .second, .val (.long (big / (nn.toInt64))), .second, .unset, .unset, .unset, .unset] [(.long (big / (nn.toInt64)))])) t
        refine XS.lconst X1.here hx rfl (hb hby at_73) ?_
        show Steps p.tables e below (T1.setTop (mkF m 74 #[.val (.int p1), .val (.int p2), .val (.int p3), .val (.long q4), .second, .val (.int p5), .val (.int nn), .val (.int ww), .val (.int rr), .val (.long big), .second, .val (.long (big / (nn.toInt64))), .second, .unset, .unset, .unset, .unset] [(.long (1 : Int64)), (.long (big / (nn.toInt64)))])) t
        refine XS.lsub X1.here hx rfl (hb hby at_74) rfl ?_
        show Steps p.tables e below (T1.setTop (mkF m 75 #[.val (.int p1), .val (.int p2), .val (.int p3), .val (.long q4), .second, .val (.int p5), .val (.int nn), .val (.int ww), .val (.int rr), .val (.long big), .second, .val (.long (big / (nn.toInt64))), .second, .unset, .unset, .unset, .unset] [(.long ((big / (nn.toInt64)) - (1 : Int64)))])) t
        refine XS.lstore X1.here hx rfl (hb hby at_75) rfl (l' := #[.val (.int p1), .val (.int p2), .val (.int p3), .val (.long q4), .second, .val (.int p5), .val (.int nn), .val (.int ww), .val (.int rr), .val (.long big), .second, .val (.long ((big / (nn.toInt64)) - (1 : Int64))), .second, .unset, .unset, .unset, .unset]) rfl ?_
        show Steps p.tables e below (T1.setTop (mkF m 77 #[.val (.int p1), .val (.int p2), .val (.int p3), .val (.long q4), .second, .val (.int p5), .val (.int nn), .val (.int ww), .val (.int rr), .val (.long big), .second, .val (.long ((big / (nn.toInt64)) - (1 : Int64))), .second, .unset, .unset, .unset, .unset] [])) t
        refine XS.lload X1.here hx rfl (hb hby at_77) rfl ?_
        show Steps p.tables e below (T1.setTop (mkF m 79 #[.val (.int p1), .val (.int p2), .val (.int p3), .val (.long q4), .second, .val (.int p5), .val (.int nn), .val (.int ww), .val (.int rr), .val (.long big), .second, .val (.long ((big / (nn.toInt64)) - (1 : Int64))), .second, .unset, .unset, .unset, .unset] [(.long ((big / (nn.toInt64)) - (1 : Int64)))])) t
        refine XS.iload X1.here hx rfl (hb hby at_79) rfl ?_
        show Steps p.tables e below (T1.setTop (mkF m 81 #[.val (.int p1), .val (.int p2), .val (.int p3), .val (.long q4), .second, .val (.int p5), .val (.int nn), .val (.int ww), .val (.int rr), .val (.long big), .second, .val (.long ((big / (nn.toInt64)) - (1 : Int64))), .second, .unset, .unset, .unset, .unset] [(.int nn), (.long ((big / (nn.toInt64)) - (1 : Int64)))])) t
        refine XS.i2l X1.here hx rfl (hb hby at_81) rfl ?_
        show Steps p.tables e below (T1.setTop (mkF m 82 #[.val (.int p1), .val (.int p2), .val (.int p3), .val (.long q4), .second, .val (.int p5), .val (.int nn), .val (.int ww), .val (.int rr), .val (.long big), .second, .val (.long ((big / (nn.toInt64)) - (1 : Int64))), .second, .unset, .unset, .unset, .unset] [(.long (nn.toInt64)), (.long ((big / (nn.toInt64)) - (1 : Int64)))])) t
        refine XS.lmul X1.here hx rfl (hb hby at_82) rfl ?_
        show Steps p.tables e below (T1.setTop (mkF m 83 #[.val (.int p1), .val (.int p2), .val (.int p3), .val (.long q4), .second, .val (.int p5), .val (.int nn), .val (.int ww), .val (.int rr), .val (.long big), .second, .val (.long ((big / (nn.toInt64)) - (1 : Int64))), .second, .unset, .unset, .unset, .unset] [(.long (((big / (nn.toInt64)) - (1 : Int64)) * (nn.toInt64)))])) t
        refine XS.iload X1.here hx rfl (hb hby at_83) rfl ?_
        show Steps p.tables e below (T1.setTop (mkF m 85 #[.val (.int p1), .val (.int p2), .val (.int p3), .val (.long q4), .second, .val (.int p5), .val (.int nn), .val (.int ww), .val (.int rr), .val (.long big), .second, .val (.long ((big / (nn.toInt64)) - (1 : Int64))), .second, .unset, .unset, .unset, .unset] [(.int rr), (.long (((big / (nn.toInt64)) - (1 : Int64)) * (nn.toInt64)))])) t
        refine XS.i2l X1.here hx rfl (hb hby at_85) rfl ?_
        show Steps p.tables e below (T1.setTop (mkF m 86 #[.val (.int p1), .val (.int p2), .val (.int p3), .val (.long q4), .second, .val (.int p5), .val (.int nn), .val (.int ww), .val (.int rr), .val (.long big), .second, .val (.long ((big / (nn.toInt64)) - (1 : Int64))), .second, .unset, .unset, .unset, .unset] [(.long (rr.toInt64)), (.long (((big / (nn.toInt64)) - (1 : Int64)) * (nn.toInt64)))])) t
        refine XS.ladd X1.here hx rfl (hb hby at_86) rfl ?_
        show Steps p.tables e below (T1.setTop (mkF m 87 #[.val (.int p1), .val (.int p2), .val (.int p3), .val (.long q4), .second, .val (.int p5), .val (.int nn), .val (.int ww), .val (.int rr), .val (.long big), .second, .val (.long ((big / (nn.toInt64)) - (1 : Int64))), .second, .unset, .unset, .unset, .unset] [(.long ((((big / (nn.toInt64)) - (1 : Int64)) * (nn.toInt64)) + (rr.toInt64)))])) t
        refine XS.lstore X1.here hx rfl (hb hby at_87) rfl (l' := #[.val (.int p1), .val (.int p2), .val (.int p3), .val (.long q4), .second, .val (.int p5), .val (.int nn), .val (.int ww), .val (.int rr), .val (.long big), .second, .val (.long ((big / (nn.toInt64)) - (1 : Int64))), .second, .val (.long ((((big / (nn.toInt64)) - (1 : Int64)) * (nn.toInt64)) + (rr.toInt64))), .second, .unset, .unset]) rfl ?_
        exact k
      obtain ⟨idx, hn_idx⟩ : ∃ z, z = ((((big / (nn.toInt64)) - (1 : Int64)) * (nn.toInt64)) + (rr.toInt64)) := ⟨_, rfl⟩
      rw [← hn_idx]
      show own_G p.tables e below _ (T1.setTop (mkF m 89 #[.val (.int p1), .val (.int p2), .val (.int p3), .val (.long q4), .second, .val (.int p5), .val (.int nn), .val (.int ww), .val (.int rr), .val (.long big), .second, .val (.long ((big / (nn.toInt64)) - (1 : Int64))), .second, .val (.long idx), .second, .unset, .unset] []))
      obtain ⟨T4, h4, X4, e4, E4, A4, D4, -, st4⟩ := newO X1 hx hZ hown (hw _ (List.mem_of_getElem? (i := 6) rfl)) (hw _ (List.mem_of_getElem? (i := 7) rfl)) (hw _ (List.mem_of_getElem? (i := 8) rfl)) hh1 (g := (mkF m 89 #[.val (.int p1), .val (.int p2), .val (.int p3), .val (.long q4), .second, .val (.int p5), .val (.int nn), .val (.int ww), .val (.int rr), .val (.long big), .second, .val (.long ((big / (nn.toInt64)) - (1 : Int64))), .second, .val (.long idx), .second, .unset, .unset] [])) rfl (hb hby at_89) (by decide) (by decide)
      obtain ⟨b4, g4⟩ : ∃ z, z = h0.size := ⟨_, rfl⟩
      have g_b4 : n0 ≤ b4 := Nat.le_trans (Nat.le_trans Z0 K0.1) (Nat.le_of_eq g4.symm)
      have sz_b4 : h0.size ≤ b4 := Nat.le_trans K0.1 (Nat.le_of_eq g4.symm)
      rw [← g4] at A4 D4 st4
      have K4 : Keep h0 h4 [] := Keep.ext K0 E4
      have F_worker_b4 : Fld Z h4 b4 "com/example/midstream/midstream/runtime/Split" "worker" "I" (.int (0 : Int32)) := D4 (Or.inr (hw _ (List.mem_of_getElem? (i := 21) rfl))) (ty := .int) (by decide)
      have F_workers_b4 : Fld Z h4 b4 "com/example/midstream/midstream/runtime/Split" "workers" "I" (.int (0 : Int32)) := D4 (Or.inr (hw _ (List.mem_of_getElem? (i := 23) rfl))) (ty := .int) (by decide)
      refine own_via st4 ?_
      show own_G p.tables e below _ (T4.setTop (mkF m 92 #[.val (.int p1), .val (.int p2), .val (.int p3), .val (.long q4), .second, .val (.int p5), .val (.int nn), .val (.int ww), .val (.int rr), .val (.long big), .second, .val (.long ((big / (nn.toInt64)) - (1 : Int64))), .second, .val (.long idx), .second, .unset, .unset] [(.ref b4)]))
      refine own_via (S' := T4.setTop (mkF m 97 #[.val (.int p1), .val (.int p2), .val (.int p3), .val (.long q4), .second, .val (.int p5), .val (.int nn), .val (.int ww), .val (.int rr), .val (.long big), .second, .val (.long ((big / (nn.toInt64)) - (1 : Int64))), .second, .val (.long idx), .second, .unset, .unset] [(.int nn), (.int ww), (.ref b4), (.ref b4)])) (fun t k => ?_) ?_
      · show Steps p.tables e below (T4.setTop (mkF m 92 #[.val (.int p1), .val (.int p2), .val (.int p3), .val (.long q4), .second, .val (.int p5), .val (.int nn), .val (.int ww), .val (.int rr), .val (.long big), .second, .val (.long ((big / (nn.toInt64)) - (1 : Int64))), .second, .val (.long idx), .second, .unset, .unset] [(.ref b4)])) t
        refine XS.dup X4.here hx rfl (hb hby at_92) rfl rfl ?_
        show Steps p.tables e below (T4.setTop (mkF m 93 #[.val (.int p1), .val (.int p2), .val (.int p3), .val (.long q4), .second, .val (.int p5), .val (.int nn), .val (.int ww), .val (.int rr), .val (.long big), .second, .val (.long ((big / (nn.toInt64)) - (1 : Int64))), .second, .val (.long idx), .second, .unset, .unset] [(.ref b4), (.ref b4)])) t
        refine XS.iload X4.here hx rfl (hb hby at_93) rfl ?_
        show Steps p.tables e below (T4.setTop (mkF m 95 #[.val (.int p1), .val (.int p2), .val (.int p3), .val (.long q4), .second, .val (.int p5), .val (.int nn), .val (.int ww), .val (.int rr), .val (.long big), .second, .val (.long ((big / (nn.toInt64)) - (1 : Int64))), .second, .val (.long idx), .second, .unset, .unset] [(.int ww), (.ref b4), (.ref b4)])) t
        refine XS.iload X4.here hx rfl (hb hby at_95) rfl ?_
        exact k
      obtain ⟨_, _, ⟨T5, L5, k5, n5⟩, -, X5, ⟨Lc5, hQ5, l5, y5, z5⟩, st5⟩ := X4.specialBack hx (y := (⟨"com/example/midstream/midstream/runtime/Split", "<init>", "(II)V"⟩ : MethodName)) rfl hown (mvT hZ (hw _ (List.mem_of_getElem? (i := 9) rfl))) (mvT hZ (hw _ (List.mem_of_getElem? (i := 10) rfl))) (mvT hZ (hw _ (List.mem_of_getElem? (i := 11) rfl))) (by decide) (backOf (W := 1) (rm2 l Z a0 hw [] b4 ww nn h4 n0 (Nat.le_trans Z0 K4.1) F_worker_b4 F_workers_b4 A4 g_b4 (own_pre hww.1 hww.2)) hZ (hw _ (List.mem_of_getElem? (i := 11) rfl)) (hw _ (List.mem_of_getElem? (i := 8) rfl)) (by decide) (by decide)) (g := (mkF m 97 #[.val (.int p1), .val (.int p2), .val (.int p3), .val (.long q4), .second, .val (.int p5), .val (.int nn), .val (.int ww), .val (.int rr), .val (.long big), .second, .val (.long ((big / (nn.toInt64)) - (1 : Int64))), .second, .val (.long idx), .second, .unset, .unset] [(.int nn), (.int ww), (.ref b4), (.ref b4)])) rfl (by rw [hml]; rfl) (Steps.refl _) (a := b4) (argsL := [(.int ww), (.int nn)]) (rest := [(.ref b4)]) (lenOf pd_2 rfl) rfl (by show 2 * 0 + _ ≤ _; exact Nat.le_of_eq rfl) (hb hby at_97) (fun _ _ => ⟨rfl, e4, (by decide : 1 + 0 ≤ _), (by decide : 2 + 0 ≤ _)⟩)
      dsimp only [Pt.U, Pt.locs, Pt.cells, Pt.slots] at X5 l5 y5 z5 st5 hQ5
      subst l5 y5 z5
      obtain ⟨rfl, Nq5, Kc5, Ec5, Fc5_0, Fc5_1⟩ := hQ5
      have N5 := Fr.app N1 Nq5
      refine own_via (fun t k => st5.trans k) ?_
      show own_G p.tables e below _ (T5.setTop (mkF m 100 #[.val (.int p1), .val (.int p2), .val (.int p3), .val (.long q4), .second, .val (.int p5), .val (.int nn), .val (.int ww), .val (.int rr), .val (.long big), .second, .val (.long ((big / (nn.toInt64)) - (1 : Int64))), .second, .val (.long idx), .second, .unset, .unset] [(.ref b4)]))
      have K5 : Keep h0 T5.heap [] := Keep.trans K4 Kc5 (allS (Or.inr sz_b4) all0)
      refine own_via (S' := T5.setTop (mkF m 106 #[.val (.int p1), .val (.int p2), .val (.int p3), .val (.long q4), .second, .val (.int p5), .val (.int nn), .val (.int ww), .val (.int rr), .val (.long big), .second, .val (.long ((big / (nn.toInt64)) - (1 : Int64))), .second, .val (.long idx), .second, .val (.ref b4), .unset] [(.int ww), (.int rr)])) (fun t k => ?_) ?_
      · show Steps p.tables e below (T5.setTop (mkF m 100 #[.val (.int p1), .val (.int p2), .val (.int p3), .val (.long q4), .second, .val (.int p5), .val (.int nn), .val (.int ww), .val (.int rr), .val (.long big), .second, .val (.long ((big / (nn.toInt64)) - (1 : Int64))), .second, .val (.long idx), .second, .unset, .unset] [(.ref b4)])) t
        refine XS.astore X5.here hx rfl (hb hby at_100) rfl rfl (l' := #[.val (.int p1), .val (.int p2), .val (.int p3), .val (.long q4), .second, .val (.int p5), .val (.int nn), .val (.int ww), .val (.int rr), .val (.long big), .second, .val (.long ((big / (nn.toInt64)) - (1 : Int64))), .second, .val (.long idx), .second, .val (.ref b4), .unset]) rfl ?_
        show Steps p.tables e below (T5.setTop (mkF m 102 #[.val (.int p1), .val (.int p2), .val (.int p3), .val (.long q4), .second, .val (.int p5), .val (.int nn), .val (.int ww), .val (.int rr), .val (.long big), .second, .val (.long ((big / (nn.toInt64)) - (1 : Int64))), .second, .val (.long idx), .second, .val (.ref b4), .unset] [])) t
        refine XS.iload X5.here hx rfl (hb hby at_102) rfl ?_
        show Steps p.tables e below (T5.setTop (mkF m 104 #[.val (.int p1), .val (.int p2), .val (.int p3), .val (.long q4), .second, .val (.int p5), .val (.int nn), .val (.int ww), .val (.int rr), .val (.long big), .second, .val (.long ((big / (nn.toInt64)) - (1 : Int64))), .second, .val (.long idx), .second, .val (.ref b4), .unset] [(.int rr)])) t
        refine XS.iload X5.here hx rfl (hb hby at_104) rfl ?_
        exact k
      by_cases hc106_6 : rr = ww
      · refine own_via (S' := T5.setTop (mkF m 109 #[.val (.int p1), .val (.int p2), .val (.int p3), .val (.long q4), .second, .val (.int p5), .val (.int nn), .val (.int ww), .val (.int rr), .val (.long big), .second, .val (.long ((big / (nn.toInt64)) - (1 : Int64))), .second, .val (.long idx), .second, .val (.ref b4), .unset] [])) (fun t k => XS.icmpNo (g := (mkF m 106 #[.val (.int p1), .val (.int p2), .val (.int p3), .val (.long q4), .second, .val (.int p5), .val (.int nn), .val (.int ww), .val (.int rr), .val (.long big), .second, .val (.long ((big / (nn.toInt64)) - (1 : Int64))), .second, .val (.long idx), .second, .val (.ref b4), .unset] [(.int ww), (.int rr)])) X5.here hx rfl (hb hby at_106) rfl (teq hc106_6).2 k) ?_
        refine own_via (S' := T5.setTop (mkF m 120 #[.val (.int p1), .val (.int p2), .val (.int p3), .val (.long q4), .second, .val (.int p5), .val (.int nn), .val (.int ww), .val (.int rr), .val (.long big), .second, .val (.long ((big / (nn.toInt64)) - (1 : Int64))), .second, .val (.long idx), .second, .val (.ref b4), .val (.int (1 : Int32))] [(.long idx), (.ref b4)])) (fun t k => ?_) ?_
        · show Steps p.tables e below (T5.setTop (mkF m 109 #[.val (.int p1), .val (.int p2), .val (.int p3), .val (.long q4), .second, .val (.int p5), .val (.int nn), .val (.int ww), .val (.int rr), .val (.long big), .second, .val (.long ((big / (nn.toInt64)) - (1 : Int64))), .second, .val (.long idx), .second, .val (.ref b4), .unset] [])) t
          refine XS.iconst X5.here hx rfl (hb hby at_109) ?_
          show Steps p.tables e below (T5.setTop (mkF m 110 #[.val (.int p1), .val (.int p2), .val (.int p3), .val (.long q4), .second, .val (.int p5), .val (.int nn), .val (.int ww), .val (.int rr), .val (.long big), .second, .val (.long ((big / (nn.toInt64)) - (1 : Int64))), .second, .val (.long idx), .second, .val (.ref b4), .unset] [(.int (1 : Int32))])) t
          refine XS.goto X5.here hx rfl (pc0 := 110) (pc' := 114) rfl (hb hby at_110) (by decide) (by decide) ?_
          show Steps p.tables e below (T5.setTop (mkF m 114 #[.val (.int p1), .val (.int p2), .val (.int p3), .val (.long q4), .second, .val (.int p5), .val (.int nn), .val (.int ww), .val (.int rr), .val (.long big), .second, .val (.long ((big / (nn.toInt64)) - (1 : Int64))), .second, .val (.long idx), .second, .val (.ref b4), .unset] [(.int (1 : Int32))])) t
          refine XS.istore X5.here hx rfl (hb hby at_114) rfl (l' := #[.val (.int p1), .val (.int p2), .val (.int p3), .val (.long q4), .second, .val (.int p5), .val (.int nn), .val (.int ww), .val (.int rr), .val (.long big), .second, .val (.long ((big / (nn.toInt64)) - (1 : Int64))), .second, .val (.long idx), .second, .val (.ref b4), .val (.int (1 : Int32))]) rfl ?_
          show Steps p.tables e below (T5.setTop (mkF m 116 #[.val (.int p1), .val (.int p2), .val (.int p3), .val (.long q4), .second, .val (.int p5), .val (.int nn), .val (.int ww), .val (.int rr), .val (.long big), .second, .val (.long ((big / (nn.toInt64)) - (1 : Int64))), .second, .val (.long idx), .second, .val (.ref b4), .val (.int (1 : Int32))] [])) t
          refine XS.aload X5.here hx rfl (hb hby at_116) rfl rfl ?_
          show Steps p.tables e below (T5.setTop (mkF m 118 #[.val (.int p1), .val (.int p2), .val (.int p3), .val (.long q4), .second, .val (.int p5), .val (.int nn), .val (.int ww), .val (.int rr), .val (.long big), .second, .val (.long ((big / (nn.toInt64)) - (1 : Int64))), .second, .val (.long idx), .second, .val (.ref b4), .val (.int (1 : Int32))] [(.ref b4)])) t
          refine XS.lload X5.here hx rfl (hb hby at_118) rfl ?_
          exact k
        obtain ⟨cq7, kq7, q7a, q7b, q7c⟩ := isOf hZ rfl Ec5
        obtain ⟨_, _, ⟨T7, L7, k7, n7⟩, -, X7, ⟨Lc7, hQ7, l7, y7, z7⟩, st7⟩ := X5.virtualBack hx (y := (⟨"com/example/midstream/midstream/runtime/Split", "takes", "(J)Z"⟩ : MethodName)) (z := (⟨"com/example/midstream/midstream/runtime/Split", "takes", "(J)Z"⟩ : MethodName)) hown (mvT hZ (hw _ (List.mem_of_getElem? (i := 24) rfl))) (mvT hZ (hw _ (List.mem_of_getElem? (i := 25) rfl))) (notFace_of_selects (args := #[]) (mvT hZ (hw _ (List.mem_of_getElem? (i := 27) rfl)))) (mvT hZ (hw _ (List.mem_of_getElem? (i := 27) rfl))) (mvT hZ (hw _ (List.mem_of_getElem? (i := 26) rfl))) (by decide) (backOf (W := 0) (rm5 l Z a0 hw [] b4 idx ww nn T5.heap n0 (Nat.le_trans Z0 K5.1) Fc5_0 Fc5_1 (own_nzL hnn)) hZ (hw _ (List.mem_of_getElem? (i := 28) rfl)) (hw _ (List.mem_of_getElem? (i := 8) rfl)) (by decide) (by decide)) q7a q7c (g := (mkF m 120 #[.val (.int p1), .val (.int p2), .val (.int p3), .val (.long q4), .second, .val (.int p5), .val (.int nn), .val (.int ww), .val (.int rr), .val (.long big), .second, .val (.long ((big / (nn.toInt64)) - (1 : Int64))), .second, .val (.long idx), .second, .val (.ref b4), .val (.int (1 : Int32))] [(.long idx), (.ref b4)])) rfl (by rw [hml]; rfl) (Steps.refl _) (argsL := [(.long idx)]) (rest := []) (lenOf pd_3 rfl) rfl (by show 2 * 0 + _ ≤ _; exact Nat.le_of_eq rfl) (hb hby at_120) (fun _ _ => ⟨rfl, rfl, (by decide : 1 + 0 ≤ _), (by decide : 2 + 0 ≤ _)⟩)
        dsimp only [Pt.U, Pt.locs, Pt.cells, Pt.slots] at X7 l7 y7 z7 st7 hQ7
        subst l7 y7 z7
        obtain ⟨rfl, Nq7, hh7⟩ := hQ7
        have N7 := Fr.app N5 Nq7
        refine own_via (fun t k => st7.trans k) ?_
        show own_G p.tables e below _ (T7.setTop (mkF m 123 #[.val (.int p1), .val (.int p2), .val (.int p3), .val (.long q4), .second, .val (.int p5), .val (.int nn), .val (.int ww), .val (.int rr), .val (.long big), .second, .val (.long ((big / (nn.toInt64)) - (1 : Int64))), .second, .val (.long idx), .second, .val (.ref b4), .val (.int (1 : Int32))] [(.int (own_tk idx nn ww))]))
        refine own_via (S' := T7.setTop (mkF m 125 #[.val (.int p1), .val (.int p2), .val (.int p3), .val (.long q4), .second, .val (.int p5), .val (.int nn), .val (.int ww), .val (.int rr), .val (.long big), .second, .val (.long ((big / (nn.toInt64)) - (1 : Int64))), .second, .val (.long idx), .second, .val (.ref b4), .val (.int (1 : Int32))] [(.int (1 : Int32)), (.int (own_tk idx nn ww))])) (fun t k => ?_) ?_
        · show Steps p.tables e below (T7.setTop (mkF m 123 #[.val (.int p1), .val (.int p2), .val (.int p3), .val (.long q4), .second, .val (.int p5), .val (.int nn), .val (.int ww), .val (.int rr), .val (.long big), .second, .val (.long ((big / (nn.toInt64)) - (1 : Int64))), .second, .val (.long idx), .second, .val (.ref b4), .val (.int (1 : Int32))] [(.int (own_tk idx nn ww))])) t
          refine XS.iload X7.here hx rfl (hb hby at_123) rfl ?_
          exact k
        refine own_via (S' := T7.setTop (mkF m 128 #[.val (.int p1), .val (.int p2), .val (.int p3), .val (.long q4), .second, .val (.int p5), .val (.int nn), .val (.int ww), .val (.int rr), .val (.long big), .second, .val (.long ((big / (nn.toInt64)) - (1 : Int64))), .second, .val (.long idx), .second, .val (.ref b4), .val (.int (1 : Int32))] [])) (fun t k => XS.icmpNo (g := (mkF m 125 #[.val (.int p1), .val (.int p2), .val (.int p3), .val (.long q4), .second, .val (.int p5), .val (.int nn), .val (.int ww), .val (.int rr), .val (.long big), .second, .val (.long ((big / (nn.toInt64)) - (1 : Int64))), .second, .val (.long idx), .second, .val (.ref b4), .val (.int (1 : Int32))] [(.int (1 : Int32)), (.int (own_tk idx nn ww))])) X7.here hx rfl (hb hby at_125) rfl (teq (own_t1 (own_B nn rr big hnn hbig hrr.1 hrr.2 idx hc68_3 hn_idx) hc106_6)).2 k) ?_
        refine own_via (S' := T7.setTop (mkF m 133 #[.val (.int p1), .val (.int p2), .val (.int p3), .val (.long q4), .second, .val (.int p5), .val (.int nn), .val (.int ww), .val (.int rr), .val (.long big), .second, .val (.long ((big / (nn.toInt64)) - (1 : Int64))), .second, .val (.long idx), .second, .val (.ref b4), .val (.int (1 : Int32))] [(.int (1 : Int32))])) (fun t k => ?_) ?_
        · show Steps p.tables e below (T7.setTop (mkF m 128 #[.val (.int p1), .val (.int p2), .val (.int p3), .val (.long q4), .second, .val (.int p5), .val (.int nn), .val (.int ww), .val (.int rr), .val (.long big), .second, .val (.long ((big / (nn.toInt64)) - (1 : Int64))), .second, .val (.long idx), .second, .val (.ref b4), .val (.int (1 : Int32))] [])) t
          refine XS.iconst X7.here hx rfl (hb hby at_128) ?_
          show Steps p.tables e below (T7.setTop (mkF m 129 #[.val (.int p1), .val (.int p2), .val (.int p3), .val (.long q4), .second, .val (.int p5), .val (.int nn), .val (.int ww), .val (.int rr), .val (.long big), .second, .val (.long ((big / (nn.toInt64)) - (1 : Int64))), .second, .val (.long idx), .second, .val (.ref b4), .val (.int (1 : Int32))] [(.int (1 : Int32))])) t
          refine XS.goto X7.here hx rfl (pc0 := 129) (pc' := 133) rfl (hb hby at_129) (by decide) (by decide) ?_
          exact k
        exact own_end (h := T5.heap) X7 (v := some (.int (1 : Int32))) Bd.notSynchronized (fun h => by rw [Bd.returns] at h; cases h) (fun fs hr => retN X7 hx (t := .boolean) Bd.returns (by simp) (hb hby at_133) hr) hh7 ⟨rfl, N7⟩ (by decide) (by decide)
      · refine own_via (S' := T5.setTop (mkF m 113 #[.val (.int p1), .val (.int p2), .val (.int p3), .val (.long q4), .second, .val (.int p5), .val (.int nn), .val (.int ww), .val (.int rr), .val (.long big), .second, .val (.long ((big / (nn.toInt64)) - (1 : Int64))), .second, .val (.long idx), .second, .val (.ref b4), .unset] [])) (fun t k => XS.icmpYes (g := (mkF m 106 #[.val (.int p1), .val (.int p2), .val (.int p3), .val (.long q4), .second, .val (.int p5), .val (.int nn), .val (.int ww), .val (.int rr), .val (.long big), .second, .val (.long ((big / (nn.toInt64)) - (1 : Int64))), .second, .val (.long idx), .second, .val (.ref b4), .unset] [(.int ww), (.int rr)])) X5.here hx rfl (pc0 := 106) (pc' := 113) rfl (hb hby at_106) rfl (feq hc106_6).2 (by decide) (by decide) k) ?_
        refine own_via (S' := T5.setTop (mkF m 120 #[.val (.int p1), .val (.int p2), .val (.int p3), .val (.long q4), .second, .val (.int p5), .val (.int nn), .val (.int ww), .val (.int rr), .val (.long big), .second, .val (.long ((big / (nn.toInt64)) - (1 : Int64))), .second, .val (.long idx), .second, .val (.ref b4), .val (.int (0 : Int32))] [(.long idx), (.ref b4)])) (fun t k => ?_) ?_
        · show Steps p.tables e below (T5.setTop (mkF m 113 #[.val (.int p1), .val (.int p2), .val (.int p3), .val (.long q4), .second, .val (.int p5), .val (.int nn), .val (.int ww), .val (.int rr), .val (.long big), .second, .val (.long ((big / (nn.toInt64)) - (1 : Int64))), .second, .val (.long idx), .second, .val (.ref b4), .unset] [])) t
          refine XS.iconst X5.here hx rfl (hb hby at_113) ?_
          show Steps p.tables e below (T5.setTop (mkF m 114 #[.val (.int p1), .val (.int p2), .val (.int p3), .val (.long q4), .second, .val (.int p5), .val (.int nn), .val (.int ww), .val (.int rr), .val (.long big), .second, .val (.long ((big / (nn.toInt64)) - (1 : Int64))), .second, .val (.long idx), .second, .val (.ref b4), .unset] [(.int (0 : Int32))])) t
          refine XS.istore X5.here hx rfl (hb hby at_114) rfl (l' := #[.val (.int p1), .val (.int p2), .val (.int p3), .val (.long q4), .second, .val (.int p5), .val (.int nn), .val (.int ww), .val (.int rr), .val (.long big), .second, .val (.long ((big / (nn.toInt64)) - (1 : Int64))), .second, .val (.long idx), .second, .val (.ref b4), .val (.int (0 : Int32))]) rfl ?_
          show Steps p.tables e below (T5.setTop (mkF m 116 #[.val (.int p1), .val (.int p2), .val (.int p3), .val (.long q4), .second, .val (.int p5), .val (.int nn), .val (.int ww), .val (.int rr), .val (.long big), .second, .val (.long ((big / (nn.toInt64)) - (1 : Int64))), .second, .val (.long idx), .second, .val (.ref b4), .val (.int (0 : Int32))] [])) t
          refine XS.aload X5.here hx rfl (hb hby at_116) rfl rfl ?_
          show Steps p.tables e below (T5.setTop (mkF m 118 #[.val (.int p1), .val (.int p2), .val (.int p3), .val (.long q4), .second, .val (.int p5), .val (.int nn), .val (.int ww), .val (.int rr), .val (.long big), .second, .val (.long ((big / (nn.toInt64)) - (1 : Int64))), .second, .val (.long idx), .second, .val (.ref b4), .val (.int (0 : Int32))] [(.ref b4)])) t
          refine XS.lload X5.here hx rfl (hb hby at_118) rfl ?_
          exact k
        obtain ⟨cq9, kq9, q9a, q9b, q9c⟩ := isOf hZ rfl Ec5
        obtain ⟨_, _, ⟨T9, L9, k9, n9⟩, -, X9, ⟨Lc9, hQ9, l9, y9, z9⟩, st9⟩ := X5.virtualBack hx (y := (⟨"com/example/midstream/midstream/runtime/Split", "takes", "(J)Z"⟩ : MethodName)) (z := (⟨"com/example/midstream/midstream/runtime/Split", "takes", "(J)Z"⟩ : MethodName)) hown (mvT hZ (hw _ (List.mem_of_getElem? (i := 24) rfl))) (mvT hZ (hw _ (List.mem_of_getElem? (i := 25) rfl))) (notFace_of_selects (args := #[]) (mvT hZ (hw _ (List.mem_of_getElem? (i := 27) rfl)))) (mvT hZ (hw _ (List.mem_of_getElem? (i := 27) rfl))) (mvT hZ (hw _ (List.mem_of_getElem? (i := 26) rfl))) (by decide) (backOf (W := 0) (rm5 l Z a0 hw [] b4 idx ww nn T5.heap n0 (Nat.le_trans Z0 K5.1) Fc5_0 Fc5_1 (own_nzL hnn)) hZ (hw _ (List.mem_of_getElem? (i := 28) rfl)) (hw _ (List.mem_of_getElem? (i := 8) rfl)) (by decide) (by decide)) q9a q9c (g := (mkF m 120 #[.val (.int p1), .val (.int p2), .val (.int p3), .val (.long q4), .second, .val (.int p5), .val (.int nn), .val (.int ww), .val (.int rr), .val (.long big), .second, .val (.long ((big / (nn.toInt64)) - (1 : Int64))), .second, .val (.long idx), .second, .val (.ref b4), .val (.int (0 : Int32))] [(.long idx), (.ref b4)])) rfl (by rw [hml]; rfl) (Steps.refl _) (argsL := [(.long idx)]) (rest := []) (lenOf pd_3 rfl) rfl (by show 2 * 0 + _ ≤ _; exact Nat.le_of_eq rfl) (hb hby at_120) (fun _ _ => ⟨rfl, rfl, (by decide : 1 + 0 ≤ _), (by decide : 2 + 0 ≤ _)⟩)
        dsimp only [Pt.U, Pt.locs, Pt.cells, Pt.slots] at X9 l9 y9 z9 st9 hQ9
        subst l9 y9 z9
        obtain ⟨rfl, Nq9, hh9⟩ := hQ9
        have N9 := Fr.app N5 Nq9
        refine own_via (fun t k => st9.trans k) ?_
        show own_G p.tables e below _ (T9.setTop (mkF m 123 #[.val (.int p1), .val (.int p2), .val (.int p3), .val (.long q4), .second, .val (.int p5), .val (.int nn), .val (.int ww), .val (.int rr), .val (.long big), .second, .val (.long ((big / (nn.toInt64)) - (1 : Int64))), .second, .val (.long idx), .second, .val (.ref b4), .val (.int (0 : Int32))] [(.int (own_tk idx nn ww))]))
        refine own_via (S' := T9.setTop (mkF m 125 #[.val (.int p1), .val (.int p2), .val (.int p3), .val (.long q4), .second, .val (.int p5), .val (.int nn), .val (.int ww), .val (.int rr), .val (.long big), .second, .val (.long ((big / (nn.toInt64)) - (1 : Int64))), .second, .val (.long idx), .second, .val (.ref b4), .val (.int (0 : Int32))] [(.int (0 : Int32)), (.int (own_tk idx nn ww))])) (fun t k => ?_) ?_
        · show Steps p.tables e below (T9.setTop (mkF m 123 #[.val (.int p1), .val (.int p2), .val (.int p3), .val (.long q4), .second, .val (.int p5), .val (.int nn), .val (.int ww), .val (.int rr), .val (.long big), .second, .val (.long ((big / (nn.toInt64)) - (1 : Int64))), .second, .val (.long idx), .second, .val (.ref b4), .val (.int (0 : Int32))] [(.int (own_tk idx nn ww))])) t
          refine XS.iload X9.here hx rfl (hb hby at_123) rfl ?_
          exact k
        refine own_via (S' := T9.setTop (mkF m 128 #[.val (.int p1), .val (.int p2), .val (.int p3), .val (.long q4), .second, .val (.int p5), .val (.int nn), .val (.int ww), .val (.int rr), .val (.long big), .second, .val (.long ((big / (nn.toInt64)) - (1 : Int64))), .second, .val (.long idx), .second, .val (.ref b4), .val (.int (0 : Int32))] [])) (fun t k => XS.icmpNo (g := (mkF m 125 #[.val (.int p1), .val (.int p2), .val (.int p3), .val (.long q4), .second, .val (.int p5), .val (.int nn), .val (.int ww), .val (.int rr), .val (.long big), .second, .val (.long ((big / (nn.toInt64)) - (1 : Int64))), .second, .val (.long idx), .second, .val (.ref b4), .val (.int (0 : Int32))] [(.int (0 : Int32)), (.int (own_tk idx nn ww))])) X9.here hx rfl (hb hby at_125) rfl (teq (own_t0 (own_B nn rr big hnn hbig hrr.1 hrr.2 idx hc68_3 hn_idx) hc106_6)).2 k) ?_
        refine own_via (S' := T9.setTop (mkF m 133 #[.val (.int p1), .val (.int p2), .val (.int p3), .val (.long q4), .second, .val (.int p5), .val (.int nn), .val (.int ww), .val (.int rr), .val (.long big), .second, .val (.long ((big / (nn.toInt64)) - (1 : Int64))), .second, .val (.long idx), .second, .val (.ref b4), .val (.int (0 : Int32))] [(.int (1 : Int32))])) (fun t k => ?_) ?_
        · show Steps p.tables e below (T9.setTop (mkF m 128 #[.val (.int p1), .val (.int p2), .val (.int p3), .val (.long q4), .second, .val (.int p5), .val (.int nn), .val (.int ww), .val (.int rr), .val (.long big), .second, .val (.long ((big / (nn.toInt64)) - (1 : Int64))), .second, .val (.long idx), .second, .val (.ref b4), .val (.int (0 : Int32))] [])) t
          refine XS.iconst X9.here hx rfl (hb hby at_128) ?_
          show Steps p.tables e below (T9.setTop (mkF m 129 #[.val (.int p1), .val (.int p2), .val (.int p3), .val (.long q4), .second, .val (.int p5), .val (.int nn), .val (.int ww), .val (.int rr), .val (.long big), .second, .val (.long ((big / (nn.toInt64)) - (1 : Int64))), .second, .val (.long idx), .second, .val (.ref b4), .val (.int (0 : Int32))] [(.int (1 : Int32))])) t
          refine XS.goto X9.here hx rfl (pc0 := 129) (pc' := 133) rfl (hb hby at_129) (by decide) (by decide) ?_
          exact k
        exact own_end (h := T5.heap) X9 (v := some (.int (1 : Int32))) Bd.notSynchronized (fun h => by rw [Bd.returns] at h; cases h) (fun fs hr => retN X9 hx (t := .boolean) Bd.returns (by simp) (hb hby at_133) hr) hh9 ⟨rfl, N9⟩ (by decide) (by decide)
    · refine own_via (S' := T1.setTop (mkF m 77 #[.val (.int p1), .val (.int p2), .val (.int p3), .val (.long q4), .second, .val (.int p5), .val (.int nn), .val (.int ww), .val (.int rr), .val (.long big), .second, .val (.long (big / (nn.toInt64))), .second, .unset, .unset, .unset, .unset] [])) (fun t k => XS.ifYes (g := (mkF m 68 #[.val (.int p1), .val (.int p2), .val (.int p3), .val (.long q4), .second, .val (.int p5), .val (.int nn), .val (.int ww), .val (.int rr), .val (.long big), .second, .val (.long (big / (nn.toInt64))), .second, .unset, .unset, .unset, .unset] [(.int (lcmpW ((big / (nn.toInt64)) * (nn.toInt64)) ((9223372036854775807 : Int64) - (rr.toInt64))))])) X1.here hx rfl (pc0 := 68) (pc' := 77) rfl (hb hby at_68) rfl ((if0 _ _).trans (flt (fun q => hc68_3 ((lw_gt ((big / (nn.toInt64)) * (nn.toInt64)) ((9223372036854775807 : Int64) - (rr.toInt64))).mp q))).2.2.2) (by decide) (by decide) k) ?_
      refine own_via (S' := T1.setTop (mkF m 89 #[.val (.int p1), .val (.int p2), .val (.int p3), .val (.long q4), .second, .val (.int p5), .val (.int nn), .val (.int ww), .val (.int rr), .val (.long big), .second, .val (.long (big / (nn.toInt64))), .second, .val (.long (((big / (nn.toInt64)) * (nn.toInt64)) + (rr.toInt64))), .second, .unset, .unset] [])) (fun t k => ?_) ?_
      · show Steps p.tables e below (T1.setTop (mkF m 77 #[.val (.int p1), .val (.int p2), .val (.int p3), .val (.long q4), .second, .val (.int p5), .val (.int nn), .val (.int ww), .val (.int rr), .val (.long big), .second, .val (.long (big / (nn.toInt64))), .second, .unset, .unset, .unset, .unset] [])) t
        refine XS.lload X1.here hx rfl (hb hby at_77) rfl ?_
        show Steps p.tables e below (T1.setTop (mkF m 79 #[.val (.int p1), .val (.int p2), .val (.int p3), .val (.long q4), .second, .val (.int p5), .val (.int nn), .val (.int ww), .val (.int rr), .val (.long big), .second, .val (.long (big / (nn.toInt64))), .second, .unset, .unset, .unset, .unset] [(.long (big / (nn.toInt64)))])) t
        refine XS.iload X1.here hx rfl (hb hby at_79) rfl ?_
        show Steps p.tables e below (T1.setTop (mkF m 81 #[.val (.int p1), .val (.int p2), .val (.int p3), .val (.long q4), .second, .val (.int p5), .val (.int nn), .val (.int ww), .val (.int rr), .val (.long big), .second, .val (.long (big / (nn.toInt64))), .second, .unset, .unset, .unset, .unset] [(.int nn), (.long (big / (nn.toInt64)))])) t
        refine XS.i2l X1.here hx rfl (hb hby at_81) rfl ?_
        show Steps p.tables e below (T1.setTop (mkF m 82 #[.val (.int p1), .val (.int p2), .val (.int p3), .val (.long q4), .second, .val (.int p5), .val (.int nn), .val (.int ww), .val (.int rr), .val (.long big), .second, .val (.long (big / (nn.toInt64))), .second, .unset, .unset, .unset, .unset] [(.long (nn.toInt64)), (.long (big / (nn.toInt64)))])) t
        refine XS.lmul X1.here hx rfl (hb hby at_82) rfl ?_
        show Steps p.tables e below (T1.setTop (mkF m 83 #[.val (.int p1), .val (.int p2), .val (.int p3), .val (.long q4), .second, .val (.int p5), .val (.int nn), .val (.int ww), .val (.int rr), .val (.long big), .second, .val (.long (big / (nn.toInt64))), .second, .unset, .unset, .unset, .unset] [(.long ((big / (nn.toInt64)) * (nn.toInt64)))])) t
        refine XS.iload X1.here hx rfl (hb hby at_83) rfl ?_
        show Steps p.tables e below (T1.setTop (mkF m 85 #[.val (.int p1), .val (.int p2), .val (.int p3), .val (.long q4), .second, .val (.int p5), .val (.int nn), .val (.int ww), .val (.int rr), .val (.long big), .second, .val (.long (big / (nn.toInt64))), .second, .unset, .unset, .unset, .unset] [(.int rr), (.long ((big / (nn.toInt64)) * (nn.toInt64)))])) t
        refine XS.i2l X1.here hx rfl (hb hby at_85) rfl ?_
        show Steps p.tables e below (T1.setTop (mkF m 86 #[.val (.int p1), .val (.int p2), .val (.int p3), .val (.long q4), .second, .val (.int p5), .val (.int nn), .val (.int ww), .val (.int rr), .val (.long big), .second, .val (.long (big / (nn.toInt64))), .second, .unset, .unset, .unset, .unset] [(.long (rr.toInt64)), (.long ((big / (nn.toInt64)) * (nn.toInt64)))])) t
        refine XS.ladd X1.here hx rfl (hb hby at_86) rfl ?_
        show Steps p.tables e below (T1.setTop (mkF m 87 #[.val (.int p1), .val (.int p2), .val (.int p3), .val (.long q4), .second, .val (.int p5), .val (.int nn), .val (.int ww), .val (.int rr), .val (.long big), .second, .val (.long (big / (nn.toInt64))), .second, .unset, .unset, .unset, .unset] [(.long (((big / (nn.toInt64)) * (nn.toInt64)) + (rr.toInt64)))])) t
        refine XS.lstore X1.here hx rfl (hb hby at_87) rfl (l' := #[.val (.int p1), .val (.int p2), .val (.int p3), .val (.long q4), .second, .val (.int p5), .val (.int nn), .val (.int ww), .val (.int rr), .val (.long big), .second, .val (.long (big / (nn.toInt64))), .second, .val (.long (((big / (nn.toInt64)) * (nn.toInt64)) + (rr.toInt64))), .second, .unset, .unset]) rfl ?_
        exact k
      obtain ⟨idx, hn_idx⟩ : ∃ z, z = (((big / (nn.toInt64)) * (nn.toInt64)) + (rr.toInt64)) := ⟨_, rfl⟩
      rw [← hn_idx]
      show own_G p.tables e below _ (T1.setTop (mkF m 89 #[.val (.int p1), .val (.int p2), .val (.int p3), .val (.long q4), .second, .val (.int p5), .val (.int nn), .val (.int ww), .val (.int rr), .val (.long big), .second, .val (.long (big / (nn.toInt64))), .second, .val (.long idx), .second, .unset, .unset] []))
      obtain ⟨T11, h11, X11, e11, E11, A11, D11, -, st11⟩ := newO X1 hx hZ hown (hw _ (List.mem_of_getElem? (i := 6) rfl)) (hw _ (List.mem_of_getElem? (i := 7) rfl)) (hw _ (List.mem_of_getElem? (i := 8) rfl)) hh1 (g := (mkF m 89 #[.val (.int p1), .val (.int p2), .val (.int p3), .val (.long q4), .second, .val (.int p5), .val (.int nn), .val (.int ww), .val (.int rr), .val (.long big), .second, .val (.long (big / (nn.toInt64))), .second, .val (.long idx), .second, .unset, .unset] [])) rfl (hb hby at_89) (by decide) (by decide)
      obtain ⟨b11, g11⟩ : ∃ z, z = h0.size := ⟨_, rfl⟩
      have g_b11 : n0 ≤ b11 := Nat.le_trans (Nat.le_trans Z0 K0.1) (Nat.le_of_eq g11.symm)
      have sz_b11 : h0.size ≤ b11 := Nat.le_trans K0.1 (Nat.le_of_eq g11.symm)
      rw [← g11] at A11 D11 st11
      have K11 : Keep h0 h11 [] := Keep.ext K0 E11
      have F_worker_b11 : Fld Z h11 b11 "com/example/midstream/midstream/runtime/Split" "worker" "I" (.int (0 : Int32)) := D11 (Or.inr (hw _ (List.mem_of_getElem? (i := 21) rfl))) (ty := .int) (by decide)
      have F_workers_b11 : Fld Z h11 b11 "com/example/midstream/midstream/runtime/Split" "workers" "I" (.int (0 : Int32)) := D11 (Or.inr (hw _ (List.mem_of_getElem? (i := 23) rfl))) (ty := .int) (by decide)
      refine own_via st11 ?_
      show own_G p.tables e below _ (T11.setTop (mkF m 92 #[.val (.int p1), .val (.int p2), .val (.int p3), .val (.long q4), .second, .val (.int p5), .val (.int nn), .val (.int ww), .val (.int rr), .val (.long big), .second, .val (.long (big / (nn.toInt64))), .second, .val (.long idx), .second, .unset, .unset] [(.ref b11)]))
      refine own_via (S' := T11.setTop (mkF m 97 #[.val (.int p1), .val (.int p2), .val (.int p3), .val (.long q4), .second, .val (.int p5), .val (.int nn), .val (.int ww), .val (.int rr), .val (.long big), .second, .val (.long (big / (nn.toInt64))), .second, .val (.long idx), .second, .unset, .unset] [(.int nn), (.int ww), (.ref b11), (.ref b11)])) (fun t k => ?_) ?_
      · show Steps p.tables e below (T11.setTop (mkF m 92 #[.val (.int p1), .val (.int p2), .val (.int p3), .val (.long q4), .second, .val (.int p5), .val (.int nn), .val (.int ww), .val (.int rr), .val (.long big), .second, .val (.long (big / (nn.toInt64))), .second, .val (.long idx), .second, .unset, .unset] [(.ref b11)])) t
        refine XS.dup X11.here hx rfl (hb hby at_92) rfl rfl ?_
        show Steps p.tables e below (T11.setTop (mkF m 93 #[.val (.int p1), .val (.int p2), .val (.int p3), .val (.long q4), .second, .val (.int p5), .val (.int nn), .val (.int ww), .val (.int rr), .val (.long big), .second, .val (.long (big / (nn.toInt64))), .second, .val (.long idx), .second, .unset, .unset] [(.ref b11), (.ref b11)])) t
        refine XS.iload X11.here hx rfl (hb hby at_93) rfl ?_
        show Steps p.tables e below (T11.setTop (mkF m 95 #[.val (.int p1), .val (.int p2), .val (.int p3), .val (.long q4), .second, .val (.int p5), .val (.int nn), .val (.int ww), .val (.int rr), .val (.long big), .second, .val (.long (big / (nn.toInt64))), .second, .val (.long idx), .second, .unset, .unset] [(.int ww), (.ref b11), (.ref b11)])) t
        refine XS.iload X11.here hx rfl (hb hby at_95) rfl ?_
        exact k
      obtain ⟨_, _, ⟨T12, L12, k12, n12⟩, -, X12, ⟨Lc12, hQ12, l12, y12, z12⟩, st12⟩ := X11.specialBack hx (y := (⟨"com/example/midstream/midstream/runtime/Split", "<init>", "(II)V"⟩ : MethodName)) rfl hown (mvT hZ (hw _ (List.mem_of_getElem? (i := 9) rfl))) (mvT hZ (hw _ (List.mem_of_getElem? (i := 10) rfl))) (mvT hZ (hw _ (List.mem_of_getElem? (i := 11) rfl))) (by decide) (backOf (W := 1) (rm2 l Z a0 hw [] b11 ww nn h11 n0 (Nat.le_trans Z0 K11.1) F_worker_b11 F_workers_b11 A11 g_b11 (own_pre hww.1 hww.2)) hZ (hw _ (List.mem_of_getElem? (i := 11) rfl)) (hw _ (List.mem_of_getElem? (i := 8) rfl)) (by decide) (by decide)) (g := (mkF m 97 #[.val (.int p1), .val (.int p2), .val (.int p3), .val (.long q4), .second, .val (.int p5), .val (.int nn), .val (.int ww), .val (.int rr), .val (.long big), .second, .val (.long (big / (nn.toInt64))), .second, .val (.long idx), .second, .unset, .unset] [(.int nn), (.int ww), (.ref b11), (.ref b11)])) rfl (by rw [hml]; rfl) (Steps.refl _) (a := b11) (argsL := [(.int ww), (.int nn)]) (rest := [(.ref b11)]) (lenOf pd_2 rfl) rfl (by show 2 * 0 + _ ≤ _; exact Nat.le_of_eq rfl) (hb hby at_97) (fun _ _ => ⟨rfl, e11, (by decide : 1 + 0 ≤ _), (by decide : 2 + 0 ≤ _)⟩)
      dsimp only [Pt.U, Pt.locs, Pt.cells, Pt.slots] at X12 l12 y12 z12 st12 hQ12
      subst l12 y12 z12
      obtain ⟨rfl, Nq12, Kc12, Ec12, Fc12_0, Fc12_1⟩ := hQ12
      have N12 := Fr.app N1 Nq12
      refine own_via (fun t k => st12.trans k) ?_
      show own_G p.tables e below _ (T12.setTop (mkF m 100 #[.val (.int p1), .val (.int p2), .val (.int p3), .val (.long q4), .second, .val (.int p5), .val (.int nn), .val (.int ww), .val (.int rr), .val (.long big), .second, .val (.long (big / (nn.toInt64))), .second, .val (.long idx), .second, .unset, .unset] [(.ref b11)]))
      have K12 : Keep h0 T12.heap [] := Keep.trans K11 Kc12 (allS (Or.inr sz_b11) all0)
      refine own_via (S' := T12.setTop (mkF m 106 #[.val (.int p1), .val (.int p2), .val (.int p3), .val (.long q4), .second, .val (.int p5), .val (.int nn), .val (.int ww), .val (.int rr), .val (.long big), .second, .val (.long (big / (nn.toInt64))), .second, .val (.long idx), .second, .val (.ref b11), .unset] [(.int ww), (.int rr)])) (fun t k => ?_) ?_
      · show Steps p.tables e below (T12.setTop (mkF m 100 #[.val (.int p1), .val (.int p2), .val (.int p3), .val (.long q4), .second, .val (.int p5), .val (.int nn), .val (.int ww), .val (.int rr), .val (.long big), .second, .val (.long (big / (nn.toInt64))), .second, .val (.long idx), .second, .unset, .unset] [(.ref b11)])) t
        refine XS.astore X12.here hx rfl (hb hby at_100) rfl rfl (l' := #[.val (.int p1), .val (.int p2), .val (.int p3), .val (.long q4), .second, .val (.int p5), .val (.int nn), .val (.int ww), .val (.int rr), .val (.long big), .second, .val (.long (big / (nn.toInt64))), .second, .val (.long idx), .second, .val (.ref b11), .unset]) rfl ?_
        show Steps p.tables e below (T12.setTop (mkF m 102 #[.val (.int p1), .val (.int p2), .val (.int p3), .val (.long q4), .second, .val (.int p5), .val (.int nn), .val (.int ww), .val (.int rr), .val (.long big), .second, .val (.long (big / (nn.toInt64))), .second, .val (.long idx), .second, .val (.ref b11), .unset] [])) t
        refine XS.iload X12.here hx rfl (hb hby at_102) rfl ?_
        show Steps p.tables e below (T12.setTop (mkF m 104 #[.val (.int p1), .val (.int p2), .val (.int p3), .val (.long q4), .second, .val (.int p5), .val (.int nn), .val (.int ww), .val (.int rr), .val (.long big), .second, .val (.long (big / (nn.toInt64))), .second, .val (.long idx), .second, .val (.ref b11), .unset] [(.int rr)])) t
        refine XS.iload X12.here hx rfl (hb hby at_104) rfl ?_
        exact k
      by_cases hc106_13 : rr = ww
      · refine own_via (S' := T12.setTop (mkF m 109 #[.val (.int p1), .val (.int p2), .val (.int p3), .val (.long q4), .second, .val (.int p5), .val (.int nn), .val (.int ww), .val (.int rr), .val (.long big), .second, .val (.long (big / (nn.toInt64))), .second, .val (.long idx), .second, .val (.ref b11), .unset] [])) (fun t k => XS.icmpNo (g := (mkF m 106 #[.val (.int p1), .val (.int p2), .val (.int p3), .val (.long q4), .second, .val (.int p5), .val (.int nn), .val (.int ww), .val (.int rr), .val (.long big), .second, .val (.long (big / (nn.toInt64))), .second, .val (.long idx), .second, .val (.ref b11), .unset] [(.int ww), (.int rr)])) X12.here hx rfl (hb hby at_106) rfl (teq hc106_13).2 k) ?_
        refine own_via (S' := T12.setTop (mkF m 120 #[.val (.int p1), .val (.int p2), .val (.int p3), .val (.long q4), .second, .val (.int p5), .val (.int nn), .val (.int ww), .val (.int rr), .val (.long big), .second, .val (.long (big / (nn.toInt64))), .second, .val (.long idx), .second, .val (.ref b11), .val (.int (1 : Int32))] [(.long idx), (.ref b11)])) (fun t k => ?_) ?_
        · show Steps p.tables e below (T12.setTop (mkF m 109 #[.val (.int p1), .val (.int p2), .val (.int p3), .val (.long q4), .second, .val (.int p5), .val (.int nn), .val (.int ww), .val (.int rr), .val (.long big), .second, .val (.long (big / (nn.toInt64))), .second, .val (.long idx), .second, .val (.ref b11), .unset] [])) t
          refine XS.iconst X12.here hx rfl (hb hby at_109) ?_
          show Steps p.tables e below (T12.setTop (mkF m 110 #[.val (.int p1), .val (.int p2), .val (.int p3), .val (.long q4), .second, .val (.int p5), .val (.int nn), .val (.int ww), .val (.int rr), .val (.long big), .second, .val (.long (big / (nn.toInt64))), .second, .val (.long idx), .second, .val (.ref b11), .unset] [(.int (1 : Int32))])) t
          refine XS.goto X12.here hx rfl (pc0 := 110) (pc' := 114) rfl (hb hby at_110) (by decide) (by decide) ?_
          show Steps p.tables e below (T12.setTop (mkF m 114 #[.val (.int p1), .val (.int p2), .val (.int p3), .val (.long q4), .second, .val (.int p5), .val (.int nn), .val (.int ww), .val (.int rr), .val (.long big), .second, .val (.long (big / (nn.toInt64))), .second, .val (.long idx), .second, .val (.ref b11), .unset] [(.int (1 : Int32))])) t
          refine XS.istore X12.here hx rfl (hb hby at_114) rfl (l' := #[.val (.int p1), .val (.int p2), .val (.int p3), .val (.long q4), .second, .val (.int p5), .val (.int nn), .val (.int ww), .val (.int rr), .val (.long big), .second, .val (.long (big / (nn.toInt64))), .second, .val (.long idx), .second, .val (.ref b11), .val (.int (1 : Int32))]) rfl ?_
          show Steps p.tables e below (T12.setTop (mkF m 116 #[.val (.int p1), .val (.int p2), .val (.int p3), .val (.long q4), .second, .val (.int p5), .val (.int nn), .val (.int ww), .val (.int rr), .val (.long big), .second, .val (.long (big / (nn.toInt64))), .second, .val (.long idx), .second, .val (.ref b11), .val (.int (1 : Int32))] [])) t
          refine XS.aload X12.here hx rfl (hb hby at_116) rfl rfl ?_
          show Steps p.tables e below (T12.setTop (mkF m 118 #[.val (.int p1), .val (.int p2), .val (.int p3), .val (.long q4), .second, .val (.int p5), .val (.int nn), .val (.int ww), .val (.int rr), .val (.long big), .second, .val (.long (big / (nn.toInt64))), .second, .val (.long idx), .second, .val (.ref b11), .val (.int (1 : Int32))] [(.ref b11)])) t
          refine XS.lload X12.here hx rfl (hb hby at_118) rfl ?_
          exact k
        obtain ⟨cq14, kq14, q14a, q14b, q14c⟩ := isOf hZ rfl Ec12
        obtain ⟨_, _, ⟨T14, L14, k14, n14⟩, -, X14, ⟨Lc14, hQ14, l14, y14, z14⟩, st14⟩ := X12.virtualBack hx (y := (⟨"com/example/midstream/midstream/runtime/Split", "takes", "(J)Z"⟩ : MethodName)) (z := (⟨"com/example/midstream/midstream/runtime/Split", "takes", "(J)Z"⟩ : MethodName)) hown (mvT hZ (hw _ (List.mem_of_getElem? (i := 24) rfl))) (mvT hZ (hw _ (List.mem_of_getElem? (i := 25) rfl))) (notFace_of_selects (args := #[]) (mvT hZ (hw _ (List.mem_of_getElem? (i := 27) rfl)))) (mvT hZ (hw _ (List.mem_of_getElem? (i := 27) rfl))) (mvT hZ (hw _ (List.mem_of_getElem? (i := 26) rfl))) (by decide) (backOf (W := 0) (rm5 l Z a0 hw [] b11 idx ww nn T12.heap n0 (Nat.le_trans Z0 K12.1) Fc12_0 Fc12_1 (own_nzL hnn)) hZ (hw _ (List.mem_of_getElem? (i := 28) rfl)) (hw _ (List.mem_of_getElem? (i := 8) rfl)) (by decide) (by decide)) q14a q14c (g := (mkF m 120 #[.val (.int p1), .val (.int p2), .val (.int p3), .val (.long q4), .second, .val (.int p5), .val (.int nn), .val (.int ww), .val (.int rr), .val (.long big), .second, .val (.long (big / (nn.toInt64))), .second, .val (.long idx), .second, .val (.ref b11), .val (.int (1 : Int32))] [(.long idx), (.ref b11)])) rfl (by rw [hml]; rfl) (Steps.refl _) (argsL := [(.long idx)]) (rest := []) (lenOf pd_3 rfl) rfl (by show 2 * 0 + _ ≤ _; exact Nat.le_of_eq rfl) (hb hby at_120) (fun _ _ => ⟨rfl, rfl, (by decide : 1 + 0 ≤ _), (by decide : 2 + 0 ≤ _)⟩)
        dsimp only [Pt.U, Pt.locs, Pt.cells, Pt.slots] at X14 l14 y14 z14 st14 hQ14
        subst l14 y14 z14
        obtain ⟨rfl, Nq14, hh14⟩ := hQ14
        have N14 := Fr.app N12 Nq14
        refine own_via (fun t k => st14.trans k) ?_
        show own_G p.tables e below _ (T14.setTop (mkF m 123 #[.val (.int p1), .val (.int p2), .val (.int p3), .val (.long q4), .second, .val (.int p5), .val (.int nn), .val (.int ww), .val (.int rr), .val (.long big), .second, .val (.long (big / (nn.toInt64))), .second, .val (.long idx), .second, .val (.ref b11), .val (.int (1 : Int32))] [(.int (own_tk idx nn ww))]))
        refine own_via (S' := T14.setTop (mkF m 125 #[.val (.int p1), .val (.int p2), .val (.int p3), .val (.long q4), .second, .val (.int p5), .val (.int nn), .val (.int ww), .val (.int rr), .val (.long big), .second, .val (.long (big / (nn.toInt64))), .second, .val (.long idx), .second, .val (.ref b11), .val (.int (1 : Int32))] [(.int (1 : Int32)), (.int (own_tk idx nn ww))])) (fun t k => ?_) ?_
        · show Steps p.tables e below (T14.setTop (mkF m 123 #[.val (.int p1), .val (.int p2), .val (.int p3), .val (.long q4), .second, .val (.int p5), .val (.int nn), .val (.int ww), .val (.int rr), .val (.long big), .second, .val (.long (big / (nn.toInt64))), .second, .val (.long idx), .second, .val (.ref b11), .val (.int (1 : Int32))] [(.int (own_tk idx nn ww))])) t
          refine XS.iload X14.here hx rfl (hb hby at_123) rfl ?_
          exact k
        refine own_via (S' := T14.setTop (mkF m 128 #[.val (.int p1), .val (.int p2), .val (.int p3), .val (.long q4), .second, .val (.int p5), .val (.int nn), .val (.int ww), .val (.int rr), .val (.long big), .second, .val (.long (big / (nn.toInt64))), .second, .val (.long idx), .second, .val (.ref b11), .val (.int (1 : Int32))] [])) (fun t k => XS.icmpNo (g := (mkF m 125 #[.val (.int p1), .val (.int p2), .val (.int p3), .val (.long q4), .second, .val (.int p5), .val (.int nn), .val (.int ww), .val (.int rr), .val (.long big), .second, .val (.long (big / (nn.toInt64))), .second, .val (.long idx), .second, .val (.ref b11), .val (.int (1 : Int32))] [(.int (1 : Int32)), (.int (own_tk idx nn ww))])) X14.here hx rfl (hb hby at_125) rfl (teq (own_t1 (own_A nn rr big hnn hbig hrr.1 hrr.2 idx hc68_3 hn_idx) hc106_13)).2 k) ?_
        refine own_via (S' := T14.setTop (mkF m 133 #[.val (.int p1), .val (.int p2), .val (.int p3), .val (.long q4), .second, .val (.int p5), .val (.int nn), .val (.int ww), .val (.int rr), .val (.long big), .second, .val (.long (big / (nn.toInt64))), .second, .val (.long idx), .second, .val (.ref b11), .val (.int (1 : Int32))] [(.int (1 : Int32))])) (fun t k => ?_) ?_
        · show Steps p.tables e below (T14.setTop (mkF m 128 #[.val (.int p1), .val (.int p2), .val (.int p3), .val (.long q4), .second, .val (.int p5), .val (.int nn), .val (.int ww), .val (.int rr), .val (.long big), .second, .val (.long (big / (nn.toInt64))), .second, .val (.long idx), .second, .val (.ref b11), .val (.int (1 : Int32))] [])) t
          refine XS.iconst X14.here hx rfl (hb hby at_128) ?_
          show Steps p.tables e below (T14.setTop (mkF m 129 #[.val (.int p1), .val (.int p2), .val (.int p3), .val (.long q4), .second, .val (.int p5), .val (.int nn), .val (.int ww), .val (.int rr), .val (.long big), .second, .val (.long (big / (nn.toInt64))), .second, .val (.long idx), .second, .val (.ref b11), .val (.int (1 : Int32))] [(.int (1 : Int32))])) t
          refine XS.goto X14.here hx rfl (pc0 := 129) (pc' := 133) rfl (hb hby at_129) (by decide) (by decide) ?_
          exact k
        exact own_end (h := T12.heap) X14 (v := some (.int (1 : Int32))) Bd.notSynchronized (fun h => by rw [Bd.returns] at h; cases h) (fun fs hr => retN X14 hx (t := .boolean) Bd.returns (by simp) (hb hby at_133) hr) hh14 ⟨rfl, N14⟩ (by decide) (by decide)
      · refine own_via (S' := T12.setTop (mkF m 113 #[.val (.int p1), .val (.int p2), .val (.int p3), .val (.long q4), .second, .val (.int p5), .val (.int nn), .val (.int ww), .val (.int rr), .val (.long big), .second, .val (.long (big / (nn.toInt64))), .second, .val (.long idx), .second, .val (.ref b11), .unset] [])) (fun t k => XS.icmpYes (g := (mkF m 106 #[.val (.int p1), .val (.int p2), .val (.int p3), .val (.long q4), .second, .val (.int p5), .val (.int nn), .val (.int ww), .val (.int rr), .val (.long big), .second, .val (.long (big / (nn.toInt64))), .second, .val (.long idx), .second, .val (.ref b11), .unset] [(.int ww), (.int rr)])) X12.here hx rfl (pc0 := 106) (pc' := 113) rfl (hb hby at_106) rfl (feq hc106_13).2 (by decide) (by decide) k) ?_
        refine own_via (S' := T12.setTop (mkF m 120 #[.val (.int p1), .val (.int p2), .val (.int p3), .val (.long q4), .second, .val (.int p5), .val (.int nn), .val (.int ww), .val (.int rr), .val (.long big), .second, .val (.long (big / (nn.toInt64))), .second, .val (.long idx), .second, .val (.ref b11), .val (.int (0 : Int32))] [(.long idx), (.ref b11)])) (fun t k => ?_) ?_
        · show Steps p.tables e below (T12.setTop (mkF m 113 #[.val (.int p1), .val (.int p2), .val (.int p3), .val (.long q4), .second, .val (.int p5), .val (.int nn), .val (.int ww), .val (.int rr), .val (.long big), .second, .val (.long (big / (nn.toInt64))), .second, .val (.long idx), .second, .val (.ref b11), .unset] [])) t
          refine XS.iconst X12.here hx rfl (hb hby at_113) ?_
          show Steps p.tables e below (T12.setTop (mkF m 114 #[.val (.int p1), .val (.int p2), .val (.int p3), .val (.long q4), .second, .val (.int p5), .val (.int nn), .val (.int ww), .val (.int rr), .val (.long big), .second, .val (.long (big / (nn.toInt64))), .second, .val (.long idx), .second, .val (.ref b11), .unset] [(.int (0 : Int32))])) t
          refine XS.istore X12.here hx rfl (hb hby at_114) rfl (l' := #[.val (.int p1), .val (.int p2), .val (.int p3), .val (.long q4), .second, .val (.int p5), .val (.int nn), .val (.int ww), .val (.int rr), .val (.long big), .second, .val (.long (big / (nn.toInt64))), .second, .val (.long idx), .second, .val (.ref b11), .val (.int (0 : Int32))]) rfl ?_
          show Steps p.tables e below (T12.setTop (mkF m 116 #[.val (.int p1), .val (.int p2), .val (.int p3), .val (.long q4), .second, .val (.int p5), .val (.int nn), .val (.int ww), .val (.int rr), .val (.long big), .second, .val (.long (big / (nn.toInt64))), .second, .val (.long idx), .second, .val (.ref b11), .val (.int (0 : Int32))] [])) t
          refine XS.aload X12.here hx rfl (hb hby at_116) rfl rfl ?_
          show Steps p.tables e below (T12.setTop (mkF m 118 #[.val (.int p1), .val (.int p2), .val (.int p3), .val (.long q4), .second, .val (.int p5), .val (.int nn), .val (.int ww), .val (.int rr), .val (.long big), .second, .val (.long (big / (nn.toInt64))), .second, .val (.long idx), .second, .val (.ref b11), .val (.int (0 : Int32))] [(.ref b11)])) t
          refine XS.lload X12.here hx rfl (hb hby at_118) rfl ?_
          exact k
        obtain ⟨cq16, kq16, q16a, q16b, q16c⟩ := isOf hZ rfl Ec12
        obtain ⟨_, _, ⟨T16, L16, k16, n16⟩, -, X16, ⟨Lc16, hQ16, l16, y16, z16⟩, st16⟩ := X12.virtualBack hx (y := (⟨"com/example/midstream/midstream/runtime/Split", "takes", "(J)Z"⟩ : MethodName)) (z := (⟨"com/example/midstream/midstream/runtime/Split", "takes", "(J)Z"⟩ : MethodName)) hown (mvT hZ (hw _ (List.mem_of_getElem? (i := 24) rfl))) (mvT hZ (hw _ (List.mem_of_getElem? (i := 25) rfl))) (notFace_of_selects (args := #[]) (mvT hZ (hw _ (List.mem_of_getElem? (i := 27) rfl)))) (mvT hZ (hw _ (List.mem_of_getElem? (i := 27) rfl))) (mvT hZ (hw _ (List.mem_of_getElem? (i := 26) rfl))) (by decide) (backOf (W := 0) (rm5 l Z a0 hw [] b11 idx ww nn T12.heap n0 (Nat.le_trans Z0 K12.1) Fc12_0 Fc12_1 (own_nzL hnn)) hZ (hw _ (List.mem_of_getElem? (i := 28) rfl)) (hw _ (List.mem_of_getElem? (i := 8) rfl)) (by decide) (by decide)) q16a q16c (g := (mkF m 120 #[.val (.int p1), .val (.int p2), .val (.int p3), .val (.long q4), .second, .val (.int p5), .val (.int nn), .val (.int ww), .val (.int rr), .val (.long big), .second, .val (.long (big / (nn.toInt64))), .second, .val (.long idx), .second, .val (.ref b11), .val (.int (0 : Int32))] [(.long idx), (.ref b11)])) rfl (by rw [hml]; rfl) (Steps.refl _) (argsL := [(.long idx)]) (rest := []) (lenOf pd_3 rfl) rfl (by show 2 * 0 + _ ≤ _; exact Nat.le_of_eq rfl) (hb hby at_120) (fun _ _ => ⟨rfl, rfl, (by decide : 1 + 0 ≤ _), (by decide : 2 + 0 ≤ _)⟩)
        dsimp only [Pt.U, Pt.locs, Pt.cells, Pt.slots] at X16 l16 y16 z16 st16 hQ16
        subst l16 y16 z16
        obtain ⟨rfl, Nq16, hh16⟩ := hQ16
        have N16 := Fr.app N12 Nq16
        refine own_via (fun t k => st16.trans k) ?_
        show own_G p.tables e below _ (T16.setTop (mkF m 123 #[.val (.int p1), .val (.int p2), .val (.int p3), .val (.long q4), .second, .val (.int p5), .val (.int nn), .val (.int ww), .val (.int rr), .val (.long big), .second, .val (.long (big / (nn.toInt64))), .second, .val (.long idx), .second, .val (.ref b11), .val (.int (0 : Int32))] [(.int (own_tk idx nn ww))]))
        refine own_via (S' := T16.setTop (mkF m 125 #[.val (.int p1), .val (.int p2), .val (.int p3), .val (.long q4), .second, .val (.int p5), .val (.int nn), .val (.int ww), .val (.int rr), .val (.long big), .second, .val (.long (big / (nn.toInt64))), .second, .val (.long idx), .second, .val (.ref b11), .val (.int (0 : Int32))] [(.int (0 : Int32)), (.int (own_tk idx nn ww))])) (fun t k => ?_) ?_
        · show Steps p.tables e below (T16.setTop (mkF m 123 #[.val (.int p1), .val (.int p2), .val (.int p3), .val (.long q4), .second, .val (.int p5), .val (.int nn), .val (.int ww), .val (.int rr), .val (.long big), .second, .val (.long (big / (nn.toInt64))), .second, .val (.long idx), .second, .val (.ref b11), .val (.int (0 : Int32))] [(.int (own_tk idx nn ww))])) t
          refine XS.iload X16.here hx rfl (hb hby at_123) rfl ?_
          exact k
        refine own_via (S' := T16.setTop (mkF m 128 #[.val (.int p1), .val (.int p2), .val (.int p3), .val (.long q4), .second, .val (.int p5), .val (.int nn), .val (.int ww), .val (.int rr), .val (.long big), .second, .val (.long (big / (nn.toInt64))), .second, .val (.long idx), .second, .val (.ref b11), .val (.int (0 : Int32))] [])) (fun t k => XS.icmpNo (g := (mkF m 125 #[.val (.int p1), .val (.int p2), .val (.int p3), .val (.long q4), .second, .val (.int p5), .val (.int nn), .val (.int ww), .val (.int rr), .val (.long big), .second, .val (.long (big / (nn.toInt64))), .second, .val (.long idx), .second, .val (.ref b11), .val (.int (0 : Int32))] [(.int (0 : Int32)), (.int (own_tk idx nn ww))])) X16.here hx rfl (hb hby at_125) rfl (teq (own_t0 (own_A nn rr big hnn hbig hrr.1 hrr.2 idx hc68_3 hn_idx) hc106_13)).2 k) ?_
        refine own_via (S' := T16.setTop (mkF m 133 #[.val (.int p1), .val (.int p2), .val (.int p3), .val (.long q4), .second, .val (.int p5), .val (.int nn), .val (.int ww), .val (.int rr), .val (.long big), .second, .val (.long (big / (nn.toInt64))), .second, .val (.long idx), .second, .val (.ref b11), .val (.int (0 : Int32))] [(.int (1 : Int32))])) (fun t k => ?_) ?_
        · show Steps p.tables e below (T16.setTop (mkF m 128 #[.val (.int p1), .val (.int p2), .val (.int p3), .val (.long q4), .second, .val (.int p5), .val (.int nn), .val (.int ww), .val (.int rr), .val (.long big), .second, .val (.long (big / (nn.toInt64))), .second, .val (.long idx), .second, .val (.ref b11), .val (.int (0 : Int32))] [])) t
          refine XS.iconst X16.here hx rfl (hb hby at_128) ?_
          show Steps p.tables e below (T16.setTop (mkF m 129 #[.val (.int p1), .val (.int p2), .val (.int p3), .val (.long q4), .second, .val (.int p5), .val (.int nn), .val (.int ww), .val (.int rr), .val (.long big), .second, .val (.long (big / (nn.toInt64))), .second, .val (.long idx), .second, .val (.ref b11), .val (.int (0 : Int32))] [(.int (1 : Int32))])) t
          refine XS.goto X16.here hx rfl (pc0 := 129) (pc' := 133) rfl (hb hby at_129) (by decide) (by decide) ?_
          exact k
        exact own_end (h := T12.heap) X16 (v := some (.int (1 : Int32))) Bd.notSynchronized (fun h => by rw [Bd.returns] at h; cases h) (fun fs hr => retN X16 hx (t := .boolean) Bd.returns (by simp) (hb hby at_133) hr) hh16 ⟨rfl, N16⟩ (by decide) (by decide)
  · refine own_via (S' := T1.setTop (mkF m 35 #[.val (.int p1), .val (.int p2), .val (.int p3), .val (.long q4), .second, .val (.int p5), .val (.int nn), .val (.int ww), .val (.int rr), .unset, .unset, .unset, .unset, .unset, .unset, .unset, .unset] [])) (fun t k => XS.ifNo (g := (mkF m 32 #[.val (.int p1), .val (.int p2), .val (.int p3), .val (.long q4), .second, .val (.int p5), .val (.int nn), .val (.int ww), .val (.int rr), .unset, .unset, .unset, .unset, .unset, .unset, .unset, .unset] [(.int (p5 &&& (1 : Int32)))])) X1.here hx rfl (hb hby at_32) rfl ((if0 _ _).trans (feq hc32_2).1) k) ?_
    refine own_via (S' := T1.setTop (mkF m 46 #[.val (.int p1), .val (.int p2), .val (.int p3), .val (.long q4), .second, .val (.int p5), .val (.int nn), .val (.int ww), .val (.int ww), .val (.long (q4 &&& (9223372036854775807 : Int64))), .second, .unset, .unset, .unset, .unset, .unset, .unset] [])) (fun t k => ?_) ?_
    · show Steps p.tables e below (T1.setTop (mkF m 35 #[.val (.int p1), .val (.int p2), .val (.int p3), .val (.long q4), .second, .val (.int p5), .val (.int nn), .val (.int ww), .val (.int rr), .unset, .unset, .unset, .unset, .unset, .unset, .unset, .unset] [])) t
      refine XS.iload X1.here hx rfl (hb hby at_35) rfl ?_
      show Steps p.tables e below (T1.setTop (mkF m 37 #[.val (.int p1), .val (.int p2), .val (.int p3), .val (.long q4), .second, .val (.int p5), .val (.int nn), .val (.int ww), .val (.int rr), .unset, .unset, .unset, .unset, .unset, .unset, .unset, .unset] [(.int ww)])) t
      refine XS.istore X1.here hx rfl (hb hby at_37) rfl (l' := #[.val (.int p1), .val (.int p2), .val (.int p3), .val (.long q4), .second, .val (.int p5), .val (.int nn), .val (.int ww), .val (.int ww), .unset, .unset, .unset, .unset, .unset, .unset, .unset, .unset]) rfl ?_
      show Steps p.tables e below (T1.setTop (mkF m 39 #[.val (.int p1), .val (.int p2), .val (.int p3), .val (.long q4), .second, .val (.int p5), .val (.int nn), .val (.int ww), .val (.int ww), .unset, .unset, .unset, .unset, .unset, .unset, .unset, .unset] [])) t
      refine XS.lloadN X1.here hx rfl (hb hby at_39) rfl ?_
      show Steps p.tables e below (T1.setTop (mkF m 40 #[.val (.int p1), .val (.int p2), .val (.int p3), .val (.long q4), .second, .val (.int p5), .val (.int nn), .val (.int ww), .val (.int ww), .unset, .unset, .unset, .unset, .unset, .unset, .unset, .unset] [(.long q4)])) t
      refine X1.ldc2Long hx hown (mvT hZ (hw _ (List.mem_of_getElem? (i := 5) rfl))) (g := (mkF m 40 #[.val (.int p1), .val (.int p2), .val (.int p3), .val (.long q4), .second, .val (.int p5), .val (.int nn), .val (.int ww), .val (.int ww), .unset, .unset, .unset, .unset, .unset, .unset, .unset, .unset] [(.long q4)])) rfl (hb hby at_40) _ ?_
      show Steps p.tables e below (T1.setTop (mkF m 43 #[.val (.int p1), .val (.int p2), .val (.int p3), .val (.long q4), .second, .val (.int p5), .val (.int nn), .val (.int ww), .val (.int ww), .unset, .unset, .unset, .unset, .unset, .unset, .unset, .unset] [(.long (9223372036854775807 : Int64)), (.long q4)])) t
      refine XS.land X1.here hx rfl (hb hby at_43) rfl ?_
      show Steps p.tables e below (T1.setTop (mkF m 44 #[.val (.int p1), .val (.int p2), .val (.int p3), .val (.long q4), .second, .val (.int p5), .val (.int nn), .val (.int ww), .val (.int ww), .unset, .unset, .unset, .unset, .unset, .unset, .unset, .unset] [(.long (q4 &&& (9223372036854775807 : Int64)))])) t
      refine XS.lstore X1.here hx rfl (hb hby at_44) rfl (l' := #[.val (.int p1), .val (.int p2), .val (.int p3), .val (.long q4), .second, .val (.int p5), .val (.int nn), .val (.int ww), .val (.int ww), .val (.long (q4 &&& (9223372036854775807 : Int64))), .second, .unset, .unset, .unset, .unset, .unset, .unset]) rfl ?_
      exact k
    obtain ⟨big, hn_big⟩ : ∃ z, z = (q4 &&& (9223372036854775807 : Int64)) := ⟨_, rfl⟩
    rw [← hn_big]
    show own_G p.tables e below _ (T1.setTop (mkF m 46 #[.val (.int p1), .val (.int p2), .val (.int p3), .val (.long q4), .second, .val (.int p5), .val (.int nn), .val (.int ww), .val (.int ww), .val (.long big), .second, .unset, .unset, .unset, .unset, .unset, .unset] []))
    have hbig : 0 ≤ big.toInt := by rw [hn_big]; exact own_big _
    refine own_via (S' := T1.setTop (mkF m 68 #[.val (.int p1), .val (.int p2), .val (.int p3), .val (.long q4), .second, .val (.int p5), .val (.int nn), .val (.int ww), .val (.int ww), .val (.long big), .second, .val (.long (big / (nn.toInt64))), .second, .unset, .unset, .unset, .unset] [(.int (lcmpW ((big / (nn.toInt64)) * (nn.toInt64)) ((9223372036854775807 : Int64) - (ww.toInt64))))])) (fun t k => ?_) ?_
    · show Steps p.tables e below (T1.setTop (mkF m 46 #[.val (.int p1), .val (.int p2), .val (.int p3), .val (.long q4), .second, .val (.int p5), .val (.int nn), .val (.int ww), .val (.int ww), .val (.long big), .second, .unset, .unset, .unset, .unset, .unset, .unset] [])) t
      refine XS.lload X1.here hx rfl (hb hby at_46) rfl ?_
      show Steps p.tables e below (T1.setTop (mkF m 48 #[.val (.int p1), .val (.int p2), .val (.int p3), .val (.long q4), .second, .val (.int p5), .val (.int nn), .val (.int ww), .val (.int ww), .val (.long big), .second, .unset, .unset, .unset, .unset, .unset, .unset] [(.long big)])) t
      refine XS.iload X1.here hx rfl (hb hby at_48) rfl ?_
      show Steps p.tables e below (T1.setTop (mkF m 50 #[.val (.int p1), .val (.int p2), .val (.int p3), .val (.long q4), .second, .val (.int p5), .val (.int nn), .val (.int ww), .val (.int ww), .val (.long big), .second, .unset, .unset, .unset, .unset, .unset, .unset] [(.int nn), (.long big)])) t
      refine XS.i2l X1.here hx rfl (hb hby at_50) rfl ?_
      show Steps p.tables e below (T1.setTop (mkF m 51 #[.val (.int p1), .val (.int p2), .val (.int p3), .val (.long q4), .second, .val (.int p5), .val (.int nn), .val (.int ww), .val (.int ww), .val (.long big), .second, .unset, .unset, .unset, .unset, .unset, .unset] [(.long (nn.toInt64)), (.long big)])) t
      refine XS.ldiv X1.here hx rfl (hb hby at_51) rfl (own_nzL hnn) ?_
      show Steps p.tables e below (T1.setTop (mkF m 52 #[.val (.int p1), .val (.int p2), .val (.int p3), .val (.long q4), .second, .val (.int p5), .val (.int nn), .val (.int ww), .val (.int ww), .val (.long big), .second, .unset, .unset, .unset, .unset, .unset, .unset] [(.long (big / (nn.toInt64)))])) t
      refine XS.lstore X1.here hx rfl (hb hby at_52) rfl (l' := #[.val (.int p1), .val (.int p2), .val (.int p3), .val (.long q4), .second, .val (.int p5), .val (.int nn), .val (.int ww), .val (.int ww), .val (.long big), .second, .val (.long (big / (nn.toInt64))), .second, .unset, .unset, .unset, .unset]) rfl ?_
      show Steps p.tables e below (T1.setTop (mkF m 54 #[.val (.int p1), .val (.int p2), .val (.int p3), .val (.long q4), .second, .val (.int p5), .val (.int nn), .val (.int ww), .val (.int ww), .val (.long big), .second, .val (.long (big / (nn.toInt64))), .second, .unset, .unset, .unset, .unset] [])) t
      refine XS.lload X1.here hx rfl (hb hby at_54) rfl ?_
      show Steps p.tables e below (T1.setTop (mkF m 56 #[.val (.int p1), .val (.int p2), .val (.int p3), .val (.long q4), .second, .val (.int p5), .val (.int nn), .val (.int ww), .val (.int ww), .val (.long big), .second, .val (.long (big / (nn.toInt64))), .second, .unset, .unset, .unset, .unset] [(.long (big / (nn.toInt64)))])) t
      refine XS.iload X1.here hx rfl (hb hby at_56) rfl ?_
      show Steps p.tables e below (T1.setTop (mkF m 58 #[.val (.int p1), .val (.int p2), .val (.int p3), .val (.long q4), .second, .val (.int p5), .val (.int nn), .val (.int ww), .val (.int ww), .val (.long big), .second, .val (.long (big / (nn.toInt64))), .second, .unset, .unset, .unset, .unset] [(.int nn), (.long (big / (nn.toInt64)))])) t
      refine XS.i2l X1.here hx rfl (hb hby at_58) rfl ?_
      show Steps p.tables e below (T1.setTop (mkF m 59 #[.val (.int p1), .val (.int p2), .val (.int p3), .val (.long q4), .second, .val (.int p5), .val (.int nn), .val (.int ww), .val (.int ww), .val (.long big), .second, .val (.long (big / (nn.toInt64))), .second, .unset, .unset, .unset, .unset] [(.long (nn.toInt64)), (.long (big / (nn.toInt64)))])) t
      refine XS.lmul X1.here hx rfl (hb hby at_59) rfl ?_
      show Steps p.tables e below (T1.setTop (mkF m 60 #[.val (.int p1), .val (.int p2), .val (.int p3), .val (.long q4), .second, .val (.int p5), .val (.int nn), .val (.int ww), .val (.int ww), .val (.long big), .second, .val (.long (big / (nn.toInt64))), .second, .unset, .unset, .unset, .unset] [(.long ((big / (nn.toInt64)) * (nn.toInt64)))])) t
      refine X1.ldc2Long hx hown (mvT hZ (hw _ (List.mem_of_getElem? (i := 5) rfl))) (g := (mkF m 60 #[.val (.int p1), .val (.int p2), .val (.int p3), .val (.long q4), .second, .val (.int p5), .val (.int nn), .val (.int ww), .val (.int ww), .val (.long big), .second, .val (.long (big / (nn.toInt64))), .second, .unset, .unset, .unset, .unset] [(.long ((big / (nn.toInt64)) * (nn.toInt64)))])) rfl (hb hby at_60) _ ?_
      show Steps p.tables e below (T1.setTop (mkF m 63 #[.val (.int p1), .val (.int p2), .val (.int p3), .val (.long q4), .second, .val (.int p5), .val (.int nn), .val (.int ww), .val (.int ww), .val (.long big), .second, .val (.long (big / (nn.toInt64))), .second, .unset, .unset, .unset, .unset] [(.long (9223372036854775807 : Int64)), (.long ((big / (nn.toInt64)) * (nn.toInt64)))])) t
      refine XS.iload X1.here hx rfl (hb hby at_63) rfl ?_
      show Steps p.tables e below (T1.setTop (mkF m 65 #[.val (.int p1), .val (.int p2), .val (.int p3), .val (.long q4), .second, .val (.int p5), .val (.int nn), .val (.int ww), .val (.int ww), .val (.long big), .second, .val (.long (big / (nn.toInt64))), .second, .unset, .unset, .unset, .unset] [(.int ww), (.long (9223372036854775807 : Int64)), (.long ((big / (nn.toInt64)) * (nn.toInt64)))])) t
      refine XS.i2l X1.here hx rfl (hb hby at_65) rfl ?_
      show Steps p.tables e below (T1.setTop (mkF m 66 #[.val (.int p1), .val (.int p2), .val (.int p3), .val (.long q4), .second, .val (.int p5), .val (.int nn), .val (.int ww), .val (.int ww), .val (.long big), .second, .val (.long (big / (nn.toInt64))), .second, .unset, .unset, .unset, .unset] [(.long (ww.toInt64)), (.long (9223372036854775807 : Int64)), (.long ((big / (nn.toInt64)) * (nn.toInt64)))])) t
      refine XS.lsub X1.here hx rfl (hb hby at_66) rfl ?_
      show Steps p.tables e below (T1.setTop (mkF m 67 #[.val (.int p1), .val (.int p2), .val (.int p3), .val (.long q4), .second, .val (.int p5), .val (.int nn), .val (.int ww), .val (.int ww), .val (.long big), .second, .val (.long (big / (nn.toInt64))), .second, .unset, .unset, .unset, .unset] [(.long ((9223372036854775807 : Int64) - (ww.toInt64))), (.long ((big / (nn.toInt64)) * (nn.toInt64)))])) t
      refine XS.lcmp X1.here hx rfl (hb hby at_67) rfl ?_
      exact k
    by_cases hc68_18 : ((9223372036854775807 : Int64) - (ww.toInt64)) < ((big / (nn.toInt64)) * (nn.toInt64))
    · refine own_via (S' := T1.setTop (mkF m 71 #[.val (.int p1), .val (.int p2), .val (.int p3), .val (.long q4), .second, .val (.int p5), .val (.int nn), .val (.int ww), .val (.int ww), .val (.long big), .second, .val (.long (big / (nn.toInt64))), .second, .unset, .unset, .unset, .unset] [])) (fun t k => XS.ifNo (g := (mkF m 68 #[.val (.int p1), .val (.int p2), .val (.int p3), .val (.long q4), .second, .val (.int p5), .val (.int nn), .val (.int ww), .val (.int ww), .val (.long big), .second, .val (.long (big / (nn.toInt64))), .second, .unset, .unset, .unset, .unset] [(.int (lcmpW ((big / (nn.toInt64)) * (nn.toInt64)) ((9223372036854775807 : Int64) - (ww.toInt64))))])) X1.here hx rfl (hb hby at_68) rfl ((if0 _ _).trans (tlt ((lw_gt ((big / (nn.toInt64)) * (nn.toInt64)) ((9223372036854775807 : Int64) - (ww.toInt64))).mpr hc68_18)).2.2.2) k) ?_
      refine own_via (S' := T1.setTop (mkF m 89 #[.val (.int p1), .val (.int p2), .val (.int p3), .val (.long q4), .second, .val (.int p5), .val (.int nn), .val (.int ww), .val (.int ww), .val (.long big), .second, .val (.long ((big / (nn.toInt64)) - (1 : Int64))), .second, .val (.long ((((big / (nn.toInt64)) - (1 : Int64)) * (nn.toInt64)) + (ww.toInt64))), .second, .unset, .unset] [])) (fun t k => ?_) ?_
      · show Steps p.tables e below (T1.setTop (mkF m 71 #[.val (.int p1), .val (.int p2), .val (.int p3), .val (.long q4), .second, .val (.int p5), .val (.int nn), .val (.int ww), .val (.int ww), .val (.long big), .second, .val (.long (big / (nn.toInt64))), .second, .unset, .unset, .unset, .unset] [])) t
        refine XS.lload X1.here hx rfl (hb hby at_71) rfl ?_
        show Steps p.tables e below (T1.setTop (mkF m 73 #[.val (.int p1), .val (.int p2), .val (.int p3), .val (.long q4), .second, .val (.int p5), .val (.int nn), .val (.int ww), .val (.int ww), .val (.long big), .second, .val (.long (big / (nn.toInt64))), .second, .unset, .unset, .unset, .unset] [(.long (big / (nn.toInt64)))])) t
        refine XS.lconst X1.here hx rfl (hb hby at_73) ?_
        show Steps p.tables e below (T1.setTop (mkF m 74 #[.val (.int p1), .val (.int p2), .val (.int p3), .val (.long q4), .second, .val (.int p5), .val (.int nn), .val (.int ww), .val (.int ww), .val (.long big), .second, .val (.long (big / (nn.toInt64))), .second, .unset, .unset, .unset, .unset] [(.long (1 : Int64)), (.long (big / (nn.toInt64)))])) t
        refine XS.lsub X1.here hx rfl (hb hby at_74) rfl ?_
        show Steps p.tables e below (T1.setTop (mkF m 75 #[.val (.int p1), .val (.int p2), .val (.int p3), .val (.long q4), .second, .val (.int p5), .val (.int nn), .val (.int ww), .val (.int ww), .val (.long big), .second, .val (.long (big / (nn.toInt64))), .second, .unset, .unset, .unset, .unset] [(.long ((big / (nn.toInt64)) - (1 : Int64)))])) t
        refine XS.lstore X1.here hx rfl (hb hby at_75) rfl (l' := #[.val (.int p1), .val (.int p2), .val (.int p3), .val (.long q4), .second, .val (.int p5), .val (.int nn), .val (.int ww), .val (.int ww), .val (.long big), .second, .val (.long ((big / (nn.toInt64)) - (1 : Int64))), .second, .unset, .unset, .unset, .unset]) rfl ?_
        show Steps p.tables e below (T1.setTop (mkF m 77 #[.val (.int p1), .val (.int p2), .val (.int p3), .val (.long q4), .second, .val (.int p5), .val (.int nn), .val (.int ww), .val (.int ww), .val (.long big), .second, .val (.long ((big / (nn.toInt64)) - (1 : Int64))), .second, .unset, .unset, .unset, .unset] [])) t
        refine XS.lload X1.here hx rfl (hb hby at_77) rfl ?_
        show Steps p.tables e below (T1.setTop (mkF m 79 #[.val (.int p1), .val (.int p2), .val (.int p3), .val (.long q4), .second, .val (.int p5), .val (.int nn), .val (.int ww), .val (.int ww), .val (.long big), .second, .val (.long ((big / (nn.toInt64)) - (1 : Int64))), .second, .unset, .unset, .unset, .unset] [(.long ((big / (nn.toInt64)) - (1 : Int64)))])) t
        refine XS.iload X1.here hx rfl (hb hby at_79) rfl ?_
        show Steps p.tables e below (T1.setTop (mkF m 81 #[.val (.int p1), .val (.int p2), .val (.int p3), .val (.long q4), .second, .val (.int p5), .val (.int nn), .val (.int ww), .val (.int ww), .val (.long big), .second, .val (.long ((big / (nn.toInt64)) - (1 : Int64))), .second, .unset, .unset, .unset, .unset] [(.int nn), (.long ((big / (nn.toInt64)) - (1 : Int64)))])) t
        refine XS.i2l X1.here hx rfl (hb hby at_81) rfl ?_
        show Steps p.tables e below (T1.setTop (mkF m 82 #[.val (.int p1), .val (.int p2), .val (.int p3), .val (.long q4), .second, .val (.int p5), .val (.int nn), .val (.int ww), .val (.int ww), .val (.long big), .second, .val (.long ((big / (nn.toInt64)) - (1 : Int64))), .second, .unset, .unset, .unset, .unset] [(.long (nn.toInt64)), (.long ((big / (nn.toInt64)) - (1 : Int64)))])) t
        refine XS.lmul X1.here hx rfl (hb hby at_82) rfl ?_
        show Steps p.tables e below (T1.setTop (mkF m 83 #[.val (.int p1), .val (.int p2), .val (.int p3), .val (.long q4), .second, .val (.int p5), .val (.int nn), .val (.int ww), .val (.int ww), .val (.long big), .second, .val (.long ((big / (nn.toInt64)) - (1 : Int64))), .second, .unset, .unset, .unset, .unset] [(.long (((big / (nn.toInt64)) - (1 : Int64)) * (nn.toInt64)))])) t
        refine XS.iload X1.here hx rfl (hb hby at_83) rfl ?_
        show Steps p.tables e below (T1.setTop (mkF m 85 #[.val (.int p1), .val (.int p2), .val (.int p3), .val (.long q4), .second, .val (.int p5), .val (.int nn), .val (.int ww), .val (.int ww), .val (.long big), .second, .val (.long ((big / (nn.toInt64)) - (1 : Int64))), .second, .unset, .unset, .unset, .unset] [(.int ww), (.long (((big / (nn.toInt64)) - (1 : Int64)) * (nn.toInt64)))])) t
        refine XS.i2l X1.here hx rfl (hb hby at_85) rfl ?_
        show Steps p.tables e below (T1.setTop (mkF m 86 #[.val (.int p1), .val (.int p2), .val (.int p3), .val (.long q4), .second, .val (.int p5), .val (.int nn), .val (.int ww), .val (.int ww), .val (.long big), .second, .val (.long ((big / (nn.toInt64)) - (1 : Int64))), .second, .unset, .unset, .unset, .unset] [(.long (ww.toInt64)), (.long (((big / (nn.toInt64)) - (1 : Int64)) * (nn.toInt64)))])) t
        refine XS.ladd X1.here hx rfl (hb hby at_86) rfl ?_
        show Steps p.tables e below (T1.setTop (mkF m 87 #[.val (.int p1), .val (.int p2), .val (.int p3), .val (.long q4), .second, .val (.int p5), .val (.int nn), .val (.int ww), .val (.int ww), .val (.long big), .second, .val (.long ((big / (nn.toInt64)) - (1 : Int64))), .second, .unset, .unset, .unset, .unset] [(.long ((((big / (nn.toInt64)) - (1 : Int64)) * (nn.toInt64)) + (ww.toInt64)))])) t
        refine XS.lstore X1.here hx rfl (hb hby at_87) rfl (l' := #[.val (.int p1), .val (.int p2), .val (.int p3), .val (.long q4), .second, .val (.int p5), .val (.int nn), .val (.int ww), .val (.int ww), .val (.long big), .second, .val (.long ((big / (nn.toInt64)) - (1 : Int64))), .second, .val (.long ((((big / (nn.toInt64)) - (1 : Int64)) * (nn.toInt64)) + (ww.toInt64))), .second, .unset, .unset]) rfl ?_
        exact k
      obtain ⟨idx, hn_idx⟩ : ∃ z, z = ((((big / (nn.toInt64)) - (1 : Int64)) * (nn.toInt64)) + (ww.toInt64)) := ⟨_, rfl⟩
      rw [← hn_idx]
      show own_G p.tables e below _ (T1.setTop (mkF m 89 #[.val (.int p1), .val (.int p2), .val (.int p3), .val (.long q4), .second, .val (.int p5), .val (.int nn), .val (.int ww), .val (.int ww), .val (.long big), .second, .val (.long ((big / (nn.toInt64)) - (1 : Int64))), .second, .val (.long idx), .second, .unset, .unset] []))
      obtain ⟨T19, h19, X19, e19, E19, A19, D19, -, st19⟩ := newO X1 hx hZ hown (hw _ (List.mem_of_getElem? (i := 6) rfl)) (hw _ (List.mem_of_getElem? (i := 7) rfl)) (hw _ (List.mem_of_getElem? (i := 8) rfl)) hh1 (g := (mkF m 89 #[.val (.int p1), .val (.int p2), .val (.int p3), .val (.long q4), .second, .val (.int p5), .val (.int nn), .val (.int ww), .val (.int ww), .val (.long big), .second, .val (.long ((big / (nn.toInt64)) - (1 : Int64))), .second, .val (.long idx), .second, .unset, .unset] [])) rfl (hb hby at_89) (by decide) (by decide)
      obtain ⟨b19, g19⟩ : ∃ z, z = h0.size := ⟨_, rfl⟩
      have g_b19 : n0 ≤ b19 := Nat.le_trans (Nat.le_trans Z0 K0.1) (Nat.le_of_eq g19.symm)
      have sz_b19 : h0.size ≤ b19 := Nat.le_trans K0.1 (Nat.le_of_eq g19.symm)
      rw [← g19] at A19 D19 st19
      have K19 : Keep h0 h19 [] := Keep.ext K0 E19
      have F_worker_b19 : Fld Z h19 b19 "com/example/midstream/midstream/runtime/Split" "worker" "I" (.int (0 : Int32)) := D19 (Or.inr (hw _ (List.mem_of_getElem? (i := 21) rfl))) (ty := .int) (by decide)
      have F_workers_b19 : Fld Z h19 b19 "com/example/midstream/midstream/runtime/Split" "workers" "I" (.int (0 : Int32)) := D19 (Or.inr (hw _ (List.mem_of_getElem? (i := 23) rfl))) (ty := .int) (by decide)
      refine own_via st19 ?_
      show own_G p.tables e below _ (T19.setTop (mkF m 92 #[.val (.int p1), .val (.int p2), .val (.int p3), .val (.long q4), .second, .val (.int p5), .val (.int nn), .val (.int ww), .val (.int ww), .val (.long big), .second, .val (.long ((big / (nn.toInt64)) - (1 : Int64))), .second, .val (.long idx), .second, .unset, .unset] [(.ref b19)]))
      refine own_via (S' := T19.setTop (mkF m 97 #[.val (.int p1), .val (.int p2), .val (.int p3), .val (.long q4), .second, .val (.int p5), .val (.int nn), .val (.int ww), .val (.int ww), .val (.long big), .second, .val (.long ((big / (nn.toInt64)) - (1 : Int64))), .second, .val (.long idx), .second, .unset, .unset] [(.int nn), (.int ww), (.ref b19), (.ref b19)])) (fun t k => ?_) ?_
      · show Steps p.tables e below (T19.setTop (mkF m 92 #[.val (.int p1), .val (.int p2), .val (.int p3), .val (.long q4), .second, .val (.int p5), .val (.int nn), .val (.int ww), .val (.int ww), .val (.long big), .second, .val (.long ((big / (nn.toInt64)) - (1 : Int64))), .second, .val (.long idx), .second, .unset, .unset] [(.ref b19)])) t
        refine XS.dup X19.here hx rfl (hb hby at_92) rfl rfl ?_
        show Steps p.tables e below (T19.setTop (mkF m 93 #[.val (.int p1), .val (.int p2), .val (.int p3), .val (.long q4), .second, .val (.int p5), .val (.int nn), .val (.int ww), .val (.int ww), .val (.long big), .second, .val (.long ((big / (nn.toInt64)) - (1 : Int64))), .second, .val (.long idx), .second, .unset, .unset] [(.ref b19), (.ref b19)])) t
        refine XS.iload X19.here hx rfl (hb hby at_93) rfl ?_
        show Steps p.tables e below (T19.setTop (mkF m 95 #[.val (.int p1), .val (.int p2), .val (.int p3), .val (.long q4), .second, .val (.int p5), .val (.int nn), .val (.int ww), .val (.int ww), .val (.long big), .second, .val (.long ((big / (nn.toInt64)) - (1 : Int64))), .second, .val (.long idx), .second, .unset, .unset] [(.int ww), (.ref b19), (.ref b19)])) t
        refine XS.iload X19.here hx rfl (hb hby at_95) rfl ?_
        exact k
      obtain ⟨_, _, ⟨T20, L20, k20, n20⟩, -, X20, ⟨Lc20, hQ20, l20, y20, z20⟩, st20⟩ := X19.specialBack hx (y := (⟨"com/example/midstream/midstream/runtime/Split", "<init>", "(II)V"⟩ : MethodName)) rfl hown (mvT hZ (hw _ (List.mem_of_getElem? (i := 9) rfl))) (mvT hZ (hw _ (List.mem_of_getElem? (i := 10) rfl))) (mvT hZ (hw _ (List.mem_of_getElem? (i := 11) rfl))) (by decide) (backOf (W := 1) (rm2 l Z a0 hw [] b19 ww nn h19 n0 (Nat.le_trans Z0 K19.1) F_worker_b19 F_workers_b19 A19 g_b19 (own_pre hww.1 hww.2)) hZ (hw _ (List.mem_of_getElem? (i := 11) rfl)) (hw _ (List.mem_of_getElem? (i := 8) rfl)) (by decide) (by decide)) (g := (mkF m 97 #[.val (.int p1), .val (.int p2), .val (.int p3), .val (.long q4), .second, .val (.int p5), .val (.int nn), .val (.int ww), .val (.int ww), .val (.long big), .second, .val (.long ((big / (nn.toInt64)) - (1 : Int64))), .second, .val (.long idx), .second, .unset, .unset] [(.int nn), (.int ww), (.ref b19), (.ref b19)])) rfl (by rw [hml]; rfl) (Steps.refl _) (a := b19) (argsL := [(.int ww), (.int nn)]) (rest := [(.ref b19)]) (lenOf pd_2 rfl) rfl (by show 2 * 0 + _ ≤ _; exact Nat.le_of_eq rfl) (hb hby at_97) (fun _ _ => ⟨rfl, e19, (by decide : 1 + 0 ≤ _), (by decide : 2 + 0 ≤ _)⟩)
      dsimp only [Pt.U, Pt.locs, Pt.cells, Pt.slots] at X20 l20 y20 z20 st20 hQ20
      subst l20 y20 z20
      obtain ⟨rfl, Nq20, Kc20, Ec20, Fc20_0, Fc20_1⟩ := hQ20
      have N20 := Fr.app N1 Nq20
      refine own_via (fun t k => st20.trans k) ?_
      show own_G p.tables e below _ (T20.setTop (mkF m 100 #[.val (.int p1), .val (.int p2), .val (.int p3), .val (.long q4), .second, .val (.int p5), .val (.int nn), .val (.int ww), .val (.int ww), .val (.long big), .second, .val (.long ((big / (nn.toInt64)) - (1 : Int64))), .second, .val (.long idx), .second, .unset, .unset] [(.ref b19)]))
      have K20 : Keep h0 T20.heap [] := Keep.trans K19 Kc20 (allS (Or.inr sz_b19) all0)
      refine own_via (S' := T20.setTop (mkF m 106 #[.val (.int p1), .val (.int p2), .val (.int p3), .val (.long q4), .second, .val (.int p5), .val (.int nn), .val (.int ww), .val (.int ww), .val (.long big), .second, .val (.long ((big / (nn.toInt64)) - (1 : Int64))), .second, .val (.long idx), .second, .val (.ref b19), .unset] [(.int ww), (.int ww)])) (fun t k => ?_) ?_
      · show Steps p.tables e below (T20.setTop (mkF m 100 #[.val (.int p1), .val (.int p2), .val (.int p3), .val (.long q4), .second, .val (.int p5), .val (.int nn), .val (.int ww), .val (.int ww), .val (.long big), .second, .val (.long ((big / (nn.toInt64)) - (1 : Int64))), .second, .val (.long idx), .second, .unset, .unset] [(.ref b19)])) t
        refine XS.astore X20.here hx rfl (hb hby at_100) rfl rfl (l' := #[.val (.int p1), .val (.int p2), .val (.int p3), .val (.long q4), .second, .val (.int p5), .val (.int nn), .val (.int ww), .val (.int ww), .val (.long big), .second, .val (.long ((big / (nn.toInt64)) - (1 : Int64))), .second, .val (.long idx), .second, .val (.ref b19), .unset]) rfl ?_
        show Steps p.tables e below (T20.setTop (mkF m 102 #[.val (.int p1), .val (.int p2), .val (.int p3), .val (.long q4), .second, .val (.int p5), .val (.int nn), .val (.int ww), .val (.int ww), .val (.long big), .second, .val (.long ((big / (nn.toInt64)) - (1 : Int64))), .second, .val (.long idx), .second, .val (.ref b19), .unset] [])) t
        refine XS.iload X20.here hx rfl (hb hby at_102) rfl ?_
        show Steps p.tables e below (T20.setTop (mkF m 104 #[.val (.int p1), .val (.int p2), .val (.int p3), .val (.long q4), .second, .val (.int p5), .val (.int nn), .val (.int ww), .val (.int ww), .val (.long big), .second, .val (.long ((big / (nn.toInt64)) - (1 : Int64))), .second, .val (.long idx), .second, .val (.ref b19), .unset] [(.int ww)])) t
        refine XS.iload X20.here hx rfl (hb hby at_104) rfl ?_
        exact k
      refine own_via (S' := T20.setTop (mkF m 109 #[.val (.int p1), .val (.int p2), .val (.int p3), .val (.long q4), .second, .val (.int p5), .val (.int nn), .val (.int ww), .val (.int ww), .val (.long big), .second, .val (.long ((big / (nn.toInt64)) - (1 : Int64))), .second, .val (.long idx), .second, .val (.ref b19), .unset] [])) (fun t k => XS.icmpNo (g := (mkF m 106 #[.val (.int p1), .val (.int p2), .val (.int p3), .val (.long q4), .second, .val (.int p5), .val (.int nn), .val (.int ww), .val (.int ww), .val (.long big), .second, .val (.long ((big / (nn.toInt64)) - (1 : Int64))), .second, .val (.long idx), .second, .val (.ref b19), .unset] [(.int ww), (.int ww)])) X20.here hx rfl (hb hby at_106) rfl (teq (rfl : ww = ww)).2 k) ?_
      refine own_via (S' := T20.setTop (mkF m 120 #[.val (.int p1), .val (.int p2), .val (.int p3), .val (.long q4), .second, .val (.int p5), .val (.int nn), .val (.int ww), .val (.int ww), .val (.long big), .second, .val (.long ((big / (nn.toInt64)) - (1 : Int64))), .second, .val (.long idx), .second, .val (.ref b19), .val (.int (1 : Int32))] [(.long idx), (.ref b19)])) (fun t k => ?_) ?_
      · show Steps p.tables e below (T20.setTop (mkF m 109 #[.val (.int p1), .val (.int p2), .val (.int p3), .val (.long q4), .second, .val (.int p5), .val (.int nn), .val (.int ww), .val (.int ww), .val (.long big), .second, .val (.long ((big / (nn.toInt64)) - (1 : Int64))), .second, .val (.long idx), .second, .val (.ref b19), .unset] [])) t
        refine XS.iconst X20.here hx rfl (hb hby at_109) ?_
        show Steps p.tables e below (T20.setTop (mkF m 110 #[.val (.int p1), .val (.int p2), .val (.int p3), .val (.long q4), .second, .val (.int p5), .val (.int nn), .val (.int ww), .val (.int ww), .val (.long big), .second, .val (.long ((big / (nn.toInt64)) - (1 : Int64))), .second, .val (.long idx), .second, .val (.ref b19), .unset] [(.int (1 : Int32))])) t
        refine XS.goto X20.here hx rfl (pc0 := 110) (pc' := 114) rfl (hb hby at_110) (by decide) (by decide) ?_
        show Steps p.tables e below (T20.setTop (mkF m 114 #[.val (.int p1), .val (.int p2), .val (.int p3), .val (.long q4), .second, .val (.int p5), .val (.int nn), .val (.int ww), .val (.int ww), .val (.long big), .second, .val (.long ((big / (nn.toInt64)) - (1 : Int64))), .second, .val (.long idx), .second, .val (.ref b19), .unset] [(.int (1 : Int32))])) t
        refine XS.istore X20.here hx rfl (hb hby at_114) rfl (l' := #[.val (.int p1), .val (.int p2), .val (.int p3), .val (.long q4), .second, .val (.int p5), .val (.int nn), .val (.int ww), .val (.int ww), .val (.long big), .second, .val (.long ((big / (nn.toInt64)) - (1 : Int64))), .second, .val (.long idx), .second, .val (.ref b19), .val (.int (1 : Int32))]) rfl ?_
        show Steps p.tables e below (T20.setTop (mkF m 116 #[.val (.int p1), .val (.int p2), .val (.int p3), .val (.long q4), .second, .val (.int p5), .val (.int nn), .val (.int ww), .val (.int ww), .val (.long big), .second, .val (.long ((big / (nn.toInt64)) - (1 : Int64))), .second, .val (.long idx), .second, .val (.ref b19), .val (.int (1 : Int32))] [])) t
        refine XS.aload X20.here hx rfl (hb hby at_116) rfl rfl ?_
        show Steps p.tables e below (T20.setTop (mkF m 118 #[.val (.int p1), .val (.int p2), .val (.int p3), .val (.long q4), .second, .val (.int p5), .val (.int nn), .val (.int ww), .val (.int ww), .val (.long big), .second, .val (.long ((big / (nn.toInt64)) - (1 : Int64))), .second, .val (.long idx), .second, .val (.ref b19), .val (.int (1 : Int32))] [(.ref b19)])) t
        refine XS.lload X20.here hx rfl (hb hby at_118) rfl ?_
        exact k
      obtain ⟨cq22, kq22, q22a, q22b, q22c⟩ := isOf hZ rfl Ec20
      obtain ⟨_, _, ⟨T22, L22, k22, n22⟩, -, X22, ⟨Lc22, hQ22, l22, y22, z22⟩, st22⟩ := X20.virtualBack hx (y := (⟨"com/example/midstream/midstream/runtime/Split", "takes", "(J)Z"⟩ : MethodName)) (z := (⟨"com/example/midstream/midstream/runtime/Split", "takes", "(J)Z"⟩ : MethodName)) hown (mvT hZ (hw _ (List.mem_of_getElem? (i := 24) rfl))) (mvT hZ (hw _ (List.mem_of_getElem? (i := 25) rfl))) (notFace_of_selects (args := #[]) (mvT hZ (hw _ (List.mem_of_getElem? (i := 27) rfl)))) (mvT hZ (hw _ (List.mem_of_getElem? (i := 27) rfl))) (mvT hZ (hw _ (List.mem_of_getElem? (i := 26) rfl))) (by decide) (backOf (W := 0) (rm5 l Z a0 hw [] b19 idx ww nn T20.heap n0 (Nat.le_trans Z0 K20.1) Fc20_0 Fc20_1 (own_nzL hnn)) hZ (hw _ (List.mem_of_getElem? (i := 28) rfl)) (hw _ (List.mem_of_getElem? (i := 8) rfl)) (by decide) (by decide)) q22a q22c (g := (mkF m 120 #[.val (.int p1), .val (.int p2), .val (.int p3), .val (.long q4), .second, .val (.int p5), .val (.int nn), .val (.int ww), .val (.int ww), .val (.long big), .second, .val (.long ((big / (nn.toInt64)) - (1 : Int64))), .second, .val (.long idx), .second, .val (.ref b19), .val (.int (1 : Int32))] [(.long idx), (.ref b19)])) rfl (by rw [hml]; rfl) (Steps.refl _) (argsL := [(.long idx)]) (rest := []) (lenOf pd_3 rfl) rfl (by show 2 * 0 + _ ≤ _; exact Nat.le_of_eq rfl) (hb hby at_120) (fun _ _ => ⟨rfl, rfl, (by decide : 1 + 0 ≤ _), (by decide : 2 + 0 ≤ _)⟩)
      dsimp only [Pt.U, Pt.locs, Pt.cells, Pt.slots] at X22 l22 y22 z22 st22 hQ22
      subst l22 y22 z22
      obtain ⟨rfl, Nq22, hh22⟩ := hQ22
      have N22 := Fr.app N20 Nq22
      refine own_via (fun t k => st22.trans k) ?_
      show own_G p.tables e below _ (T22.setTop (mkF m 123 #[.val (.int p1), .val (.int p2), .val (.int p3), .val (.long q4), .second, .val (.int p5), .val (.int nn), .val (.int ww), .val (.int ww), .val (.long big), .second, .val (.long ((big / (nn.toInt64)) - (1 : Int64))), .second, .val (.long idx), .second, .val (.ref b19), .val (.int (1 : Int32))] [(.int (own_tk idx nn ww))]))
      refine own_via (S' := T22.setTop (mkF m 125 #[.val (.int p1), .val (.int p2), .val (.int p3), .val (.long q4), .second, .val (.int p5), .val (.int nn), .val (.int ww), .val (.int ww), .val (.long big), .second, .val (.long ((big / (nn.toInt64)) - (1 : Int64))), .second, .val (.long idx), .second, .val (.ref b19), .val (.int (1 : Int32))] [(.int (1 : Int32)), (.int (own_tk idx nn ww))])) (fun t k => ?_) ?_
      · show Steps p.tables e below (T22.setTop (mkF m 123 #[.val (.int p1), .val (.int p2), .val (.int p3), .val (.long q4), .second, .val (.int p5), .val (.int nn), .val (.int ww), .val (.int ww), .val (.long big), .second, .val (.long ((big / (nn.toInt64)) - (1 : Int64))), .second, .val (.long idx), .second, .val (.ref b19), .val (.int (1 : Int32))] [(.int (own_tk idx nn ww))])) t
        refine XS.iload X22.here hx rfl (hb hby at_123) rfl ?_
        exact k
      refine own_via (S' := T22.setTop (mkF m 128 #[.val (.int p1), .val (.int p2), .val (.int p3), .val (.long q4), .second, .val (.int p5), .val (.int nn), .val (.int ww), .val (.int ww), .val (.long big), .second, .val (.long ((big / (nn.toInt64)) - (1 : Int64))), .second, .val (.long idx), .second, .val (.ref b19), .val (.int (1 : Int32))] [])) (fun t k => XS.icmpNo (g := (mkF m 125 #[.val (.int p1), .val (.int p2), .val (.int p3), .val (.long q4), .second, .val (.int p5), .val (.int nn), .val (.int ww), .val (.int ww), .val (.long big), .second, .val (.long ((big / (nn.toInt64)) - (1 : Int64))), .second, .val (.long idx), .second, .val (.ref b19), .val (.int (1 : Int32))] [(.int (1 : Int32)), (.int (own_tk idx nn ww))])) X22.here hx rfl (hb hby at_125) rfl (teq (own_t1 (own_B nn ww big hnn hbig hww.1 hww.2 idx hc68_18 hn_idx) rfl)).2 k) ?_
      refine own_via (S' := T22.setTop (mkF m 133 #[.val (.int p1), .val (.int p2), .val (.int p3), .val (.long q4), .second, .val (.int p5), .val (.int nn), .val (.int ww), .val (.int ww), .val (.long big), .second, .val (.long ((big / (nn.toInt64)) - (1 : Int64))), .second, .val (.long idx), .second, .val (.ref b19), .val (.int (1 : Int32))] [(.int (1 : Int32))])) (fun t k => ?_) ?_
      · show Steps p.tables e below (T22.setTop (mkF m 128 #[.val (.int p1), .val (.int p2), .val (.int p3), .val (.long q4), .second, .val (.int p5), .val (.int nn), .val (.int ww), .val (.int ww), .val (.long big), .second, .val (.long ((big / (nn.toInt64)) - (1 : Int64))), .second, .val (.long idx), .second, .val (.ref b19), .val (.int (1 : Int32))] [])) t
        refine XS.iconst X22.here hx rfl (hb hby at_128) ?_
        show Steps p.tables e below (T22.setTop (mkF m 129 #[.val (.int p1), .val (.int p2), .val (.int p3), .val (.long q4), .second, .val (.int p5), .val (.int nn), .val (.int ww), .val (.int ww), .val (.long big), .second, .val (.long ((big / (nn.toInt64)) - (1 : Int64))), .second, .val (.long idx), .second, .val (.ref b19), .val (.int (1 : Int32))] [(.int (1 : Int32))])) t
        refine XS.goto X22.here hx rfl (pc0 := 129) (pc' := 133) rfl (hb hby at_129) (by decide) (by decide) ?_
        exact k
      exact own_end (h := T20.heap) X22 (v := some (.int (1 : Int32))) Bd.notSynchronized (fun h => by rw [Bd.returns] at h; cases h) (fun fs hr => retN X22 hx (t := .boolean) Bd.returns (by simp) (hb hby at_133) hr) hh22 ⟨rfl, N22⟩ (by decide) (by decide)
    · refine own_via (S' := T1.setTop (mkF m 77 #[.val (.int p1), .val (.int p2), .val (.int p3), .val (.long q4), .second, .val (.int p5), .val (.int nn), .val (.int ww), .val (.int ww), .val (.long big), .second, .val (.long (big / (nn.toInt64))), .second, .unset, .unset, .unset, .unset] [])) (fun t k => XS.ifYes (g := (mkF m 68 #[.val (.int p1), .val (.int p2), .val (.int p3), .val (.long q4), .second, .val (.int p5), .val (.int nn), .val (.int ww), .val (.int ww), .val (.long big), .second, .val (.long (big / (nn.toInt64))), .second, .unset, .unset, .unset, .unset] [(.int (lcmpW ((big / (nn.toInt64)) * (nn.toInt64)) ((9223372036854775807 : Int64) - (ww.toInt64))))])) X1.here hx rfl (pc0 := 68) (pc' := 77) rfl (hb hby at_68) rfl ((if0 _ _).trans (flt (fun q => hc68_18 ((lw_gt ((big / (nn.toInt64)) * (nn.toInt64)) ((9223372036854775807 : Int64) - (ww.toInt64))).mp q))).2.2.2) (by decide) (by decide) k) ?_
      refine own_via (S' := T1.setTop (mkF m 89 #[.val (.int p1), .val (.int p2), .val (.int p3), .val (.long q4), .second, .val (.int p5), .val (.int nn), .val (.int ww), .val (.int ww), .val (.long big), .second, .val (.long (big / (nn.toInt64))), .second, .val (.long (((big / (nn.toInt64)) * (nn.toInt64)) + (ww.toInt64))), .second, .unset, .unset] [])) (fun t k => ?_) ?_
      · show Steps p.tables e below (T1.setTop (mkF m 77 #[.val (.int p1), .val (.int p2), .val (.int p3), .val (.long q4), .second, .val (.int p5), .val (.int nn), .val (.int ww), .val (.int ww), .val (.long big), .second, .val (.long (big / (nn.toInt64))), .second, .unset, .unset, .unset, .unset] [])) t
        refine XS.lload X1.here hx rfl (hb hby at_77) rfl ?_
        show Steps p.tables e below (T1.setTop (mkF m 79 #[.val (.int p1), .val (.int p2), .val (.int p3), .val (.long q4), .second, .val (.int p5), .val (.int nn), .val (.int ww), .val (.int ww), .val (.long big), .second, .val (.long (big / (nn.toInt64))), .second, .unset, .unset, .unset, .unset] [(.long (big / (nn.toInt64)))])) t
        refine XS.iload X1.here hx rfl (hb hby at_79) rfl ?_
        show Steps p.tables e below (T1.setTop (mkF m 81 #[.val (.int p1), .val (.int p2), .val (.int p3), .val (.long q4), .second, .val (.int p5), .val (.int nn), .val (.int ww), .val (.int ww), .val (.long big), .second, .val (.long (big / (nn.toInt64))), .second, .unset, .unset, .unset, .unset] [(.int nn), (.long (big / (nn.toInt64)))])) t
        refine XS.i2l X1.here hx rfl (hb hby at_81) rfl ?_
        show Steps p.tables e below (T1.setTop (mkF m 82 #[.val (.int p1), .val (.int p2), .val (.int p3), .val (.long q4), .second, .val (.int p5), .val (.int nn), .val (.int ww), .val (.int ww), .val (.long big), .second, .val (.long (big / (nn.toInt64))), .second, .unset, .unset, .unset, .unset] [(.long (nn.toInt64)), (.long (big / (nn.toInt64)))])) t
        refine XS.lmul X1.here hx rfl (hb hby at_82) rfl ?_
        show Steps p.tables e below (T1.setTop (mkF m 83 #[.val (.int p1), .val (.int p2), .val (.int p3), .val (.long q4), .second, .val (.int p5), .val (.int nn), .val (.int ww), .val (.int ww), .val (.long big), .second, .val (.long (big / (nn.toInt64))), .second, .unset, .unset, .unset, .unset] [(.long ((big / (nn.toInt64)) * (nn.toInt64)))])) t
        refine XS.iload X1.here hx rfl (hb hby at_83) rfl ?_
        show Steps p.tables e below (T1.setTop (mkF m 85 #[.val (.int p1), .val (.int p2), .val (.int p3), .val (.long q4), .second, .val (.int p5), .val (.int nn), .val (.int ww), .val (.int ww), .val (.long big), .second, .val (.long (big / (nn.toInt64))), .second, .unset, .unset, .unset, .unset] [(.int ww), (.long ((big / (nn.toInt64)) * (nn.toInt64)))])) t
        refine XS.i2l X1.here hx rfl (hb hby at_85) rfl ?_
        show Steps p.tables e below (T1.setTop (mkF m 86 #[.val (.int p1), .val (.int p2), .val (.int p3), .val (.long q4), .second, .val (.int p5), .val (.int nn), .val (.int ww), .val (.int ww), .val (.long big), .second, .val (.long (big / (nn.toInt64))), .second, .unset, .unset, .unset, .unset] [(.long (ww.toInt64)), (.long ((big / (nn.toInt64)) * (nn.toInt64)))])) t
        refine XS.ladd X1.here hx rfl (hb hby at_86) rfl ?_
        show Steps p.tables e below (T1.setTop (mkF m 87 #[.val (.int p1), .val (.int p2), .val (.int p3), .val (.long q4), .second, .val (.int p5), .val (.int nn), .val (.int ww), .val (.int ww), .val (.long big), .second, .val (.long (big / (nn.toInt64))), .second, .unset, .unset, .unset, .unset] [(.long (((big / (nn.toInt64)) * (nn.toInt64)) + (ww.toInt64)))])) t
        refine XS.lstore X1.here hx rfl (hb hby at_87) rfl (l' := #[.val (.int p1), .val (.int p2), .val (.int p3), .val (.long q4), .second, .val (.int p5), .val (.int nn), .val (.int ww), .val (.int ww), .val (.long big), .second, .val (.long (big / (nn.toInt64))), .second, .val (.long (((big / (nn.toInt64)) * (nn.toInt64)) + (ww.toInt64))), .second, .unset, .unset]) rfl ?_
        exact k
      obtain ⟨idx, hn_idx⟩ : ∃ z, z = (((big / (nn.toInt64)) * (nn.toInt64)) + (ww.toInt64)) := ⟨_, rfl⟩
      rw [← hn_idx]
      show own_G p.tables e below _ (T1.setTop (mkF m 89 #[.val (.int p1), .val (.int p2), .val (.int p3), .val (.long q4), .second, .val (.int p5), .val (.int nn), .val (.int ww), .val (.int ww), .val (.long big), .second, .val (.long (big / (nn.toInt64))), .second, .val (.long idx), .second, .unset, .unset] []))
      obtain ⟨T24, h24, X24, e24, E24, A24, D24, -, st24⟩ := newO X1 hx hZ hown (hw _ (List.mem_of_getElem? (i := 6) rfl)) (hw _ (List.mem_of_getElem? (i := 7) rfl)) (hw _ (List.mem_of_getElem? (i := 8) rfl)) hh1 (g := (mkF m 89 #[.val (.int p1), .val (.int p2), .val (.int p3), .val (.long q4), .second, .val (.int p5), .val (.int nn), .val (.int ww), .val (.int ww), .val (.long big), .second, .val (.long (big / (nn.toInt64))), .second, .val (.long idx), .second, .unset, .unset] [])) rfl (hb hby at_89) (by decide) (by decide)
      obtain ⟨b24, g24⟩ : ∃ z, z = h0.size := ⟨_, rfl⟩
      have g_b24 : n0 ≤ b24 := Nat.le_trans (Nat.le_trans Z0 K0.1) (Nat.le_of_eq g24.symm)
      have sz_b24 : h0.size ≤ b24 := Nat.le_trans K0.1 (Nat.le_of_eq g24.symm)
      rw [← g24] at A24 D24 st24
      have K24 : Keep h0 h24 [] := Keep.ext K0 E24
      have F_worker_b24 : Fld Z h24 b24 "com/example/midstream/midstream/runtime/Split" "worker" "I" (.int (0 : Int32)) := D24 (Or.inr (hw _ (List.mem_of_getElem? (i := 21) rfl))) (ty := .int) (by decide)
      have F_workers_b24 : Fld Z h24 b24 "com/example/midstream/midstream/runtime/Split" "workers" "I" (.int (0 : Int32)) := D24 (Or.inr (hw _ (List.mem_of_getElem? (i := 23) rfl))) (ty := .int) (by decide)
      refine own_via st24 ?_
      show own_G p.tables e below _ (T24.setTop (mkF m 92 #[.val (.int p1), .val (.int p2), .val (.int p3), .val (.long q4), .second, .val (.int p5), .val (.int nn), .val (.int ww), .val (.int ww), .val (.long big), .second, .val (.long (big / (nn.toInt64))), .second, .val (.long idx), .second, .unset, .unset] [(.ref b24)]))
      refine own_via (S' := T24.setTop (mkF m 97 #[.val (.int p1), .val (.int p2), .val (.int p3), .val (.long q4), .second, .val (.int p5), .val (.int nn), .val (.int ww), .val (.int ww), .val (.long big), .second, .val (.long (big / (nn.toInt64))), .second, .val (.long idx), .second, .unset, .unset] [(.int nn), (.int ww), (.ref b24), (.ref b24)])) (fun t k => ?_) ?_
      · show Steps p.tables e below (T24.setTop (mkF m 92 #[.val (.int p1), .val (.int p2), .val (.int p3), .val (.long q4), .second, .val (.int p5), .val (.int nn), .val (.int ww), .val (.int ww), .val (.long big), .second, .val (.long (big / (nn.toInt64))), .second, .val (.long idx), .second, .unset, .unset] [(.ref b24)])) t
        refine XS.dup X24.here hx rfl (hb hby at_92) rfl rfl ?_
        show Steps p.tables e below (T24.setTop (mkF m 93 #[.val (.int p1), .val (.int p2), .val (.int p3), .val (.long q4), .second, .val (.int p5), .val (.int nn), .val (.int ww), .val (.int ww), .val (.long big), .second, .val (.long (big / (nn.toInt64))), .second, .val (.long idx), .second, .unset, .unset] [(.ref b24), (.ref b24)])) t
        refine XS.iload X24.here hx rfl (hb hby at_93) rfl ?_
        show Steps p.tables e below (T24.setTop (mkF m 95 #[.val (.int p1), .val (.int p2), .val (.int p3), .val (.long q4), .second, .val (.int p5), .val (.int nn), .val (.int ww), .val (.int ww), .val (.long big), .second, .val (.long (big / (nn.toInt64))), .second, .val (.long idx), .second, .unset, .unset] [(.int ww), (.ref b24), (.ref b24)])) t
        refine XS.iload X24.here hx rfl (hb hby at_95) rfl ?_
        exact k
      obtain ⟨_, _, ⟨T25, L25, k25, n25⟩, -, X25, ⟨Lc25, hQ25, l25, y25, z25⟩, st25⟩ := X24.specialBack hx (y := (⟨"com/example/midstream/midstream/runtime/Split", "<init>", "(II)V"⟩ : MethodName)) rfl hown (mvT hZ (hw _ (List.mem_of_getElem? (i := 9) rfl))) (mvT hZ (hw _ (List.mem_of_getElem? (i := 10) rfl))) (mvT hZ (hw _ (List.mem_of_getElem? (i := 11) rfl))) (by decide) (backOf (W := 1) (rm2 l Z a0 hw [] b24 ww nn h24 n0 (Nat.le_trans Z0 K24.1) F_worker_b24 F_workers_b24 A24 g_b24 (own_pre hww.1 hww.2)) hZ (hw _ (List.mem_of_getElem? (i := 11) rfl)) (hw _ (List.mem_of_getElem? (i := 8) rfl)) (by decide) (by decide)) (g := (mkF m 97 #[.val (.int p1), .val (.int p2), .val (.int p3), .val (.long q4), .second, .val (.int p5), .val (.int nn), .val (.int ww), .val (.int ww), .val (.long big), .second, .val (.long (big / (nn.toInt64))), .second, .val (.long idx), .second, .unset, .unset] [(.int nn), (.int ww), (.ref b24), (.ref b24)])) rfl (by rw [hml]; rfl) (Steps.refl _) (a := b24) (argsL := [(.int ww), (.int nn)]) (rest := [(.ref b24)]) (lenOf pd_2 rfl) rfl (by show 2 * 0 + _ ≤ _; exact Nat.le_of_eq rfl) (hb hby at_97) (fun _ _ => ⟨rfl, e24, (by decide : 1 + 0 ≤ _), (by decide : 2 + 0 ≤ _)⟩)
      dsimp only [Pt.U, Pt.locs, Pt.cells, Pt.slots] at X25 l25 y25 z25 st25 hQ25
      subst l25 y25 z25
      obtain ⟨rfl, Nq25, Kc25, Ec25, Fc25_0, Fc25_1⟩ := hQ25
      have N25 := Fr.app N1 Nq25
      refine own_via (fun t k => st25.trans k) ?_
      show own_G p.tables e below _ (T25.setTop (mkF m 100 #[.val (.int p1), .val (.int p2), .val (.int p3), .val (.long q4), .second, .val (.int p5), .val (.int nn), .val (.int ww), .val (.int ww), .val (.long big), .second, .val (.long (big / (nn.toInt64))), .second, .val (.long idx), .second, .unset, .unset] [(.ref b24)]))
      have K25 : Keep h0 T25.heap [] := Keep.trans K24 Kc25 (allS (Or.inr sz_b24) all0)
      refine own_via (S' := T25.setTop (mkF m 106 #[.val (.int p1), .val (.int p2), .val (.int p3), .val (.long q4), .second, .val (.int p5), .val (.int nn), .val (.int ww), .val (.int ww), .val (.long big), .second, .val (.long (big / (nn.toInt64))), .second, .val (.long idx), .second, .val (.ref b24), .unset] [(.int ww), (.int ww)])) (fun t k => ?_) ?_
      · show Steps p.tables e below (T25.setTop (mkF m 100 #[.val (.int p1), .val (.int p2), .val (.int p3), .val (.long q4), .second, .val (.int p5), .val (.int nn), .val (.int ww), .val (.int ww), .val (.long big), .second, .val (.long (big / (nn.toInt64))), .second, .val (.long idx), .second, .unset, .unset] [(.ref b24)])) t
        refine XS.astore X25.here hx rfl (hb hby at_100) rfl rfl (l' := #[.val (.int p1), .val (.int p2), .val (.int p3), .val (.long q4), .second, .val (.int p5), .val (.int nn), .val (.int ww), .val (.int ww), .val (.long big), .second, .val (.long (big / (nn.toInt64))), .second, .val (.long idx), .second, .val (.ref b24), .unset]) rfl ?_
        show Steps p.tables e below (T25.setTop (mkF m 102 #[.val (.int p1), .val (.int p2), .val (.int p3), .val (.long q4), .second, .val (.int p5), .val (.int nn), .val (.int ww), .val (.int ww), .val (.long big), .second, .val (.long (big / (nn.toInt64))), .second, .val (.long idx), .second, .val (.ref b24), .unset] [])) t
        refine XS.iload X25.here hx rfl (hb hby at_102) rfl ?_
        show Steps p.tables e below (T25.setTop (mkF m 104 #[.val (.int p1), .val (.int p2), .val (.int p3), .val (.long q4), .second, .val (.int p5), .val (.int nn), .val (.int ww), .val (.int ww), .val (.long big), .second, .val (.long (big / (nn.toInt64))), .second, .val (.long idx), .second, .val (.ref b24), .unset] [(.int ww)])) t
        refine XS.iload X25.here hx rfl (hb hby at_104) rfl ?_
        exact k
      refine own_via (S' := T25.setTop (mkF m 109 #[.val (.int p1), .val (.int p2), .val (.int p3), .val (.long q4), .second, .val (.int p5), .val (.int nn), .val (.int ww), .val (.int ww), .val (.long big), .second, .val (.long (big / (nn.toInt64))), .second, .val (.long idx), .second, .val (.ref b24), .unset] [])) (fun t k => XS.icmpNo (g := (mkF m 106 #[.val (.int p1), .val (.int p2), .val (.int p3), .val (.long q4), .second, .val (.int p5), .val (.int nn), .val (.int ww), .val (.int ww), .val (.long big), .second, .val (.long (big / (nn.toInt64))), .second, .val (.long idx), .second, .val (.ref b24), .unset] [(.int ww), (.int ww)])) X25.here hx rfl (hb hby at_106) rfl (teq (rfl : ww = ww)).2 k) ?_
      refine own_via (S' := T25.setTop (mkF m 120 #[.val (.int p1), .val (.int p2), .val (.int p3), .val (.long q4), .second, .val (.int p5), .val (.int nn), .val (.int ww), .val (.int ww), .val (.long big), .second, .val (.long (big / (nn.toInt64))), .second, .val (.long idx), .second, .val (.ref b24), .val (.int (1 : Int32))] [(.long idx), (.ref b24)])) (fun t k => ?_) ?_
      · show Steps p.tables e below (T25.setTop (mkF m 109 #[.val (.int p1), .val (.int p2), .val (.int p3), .val (.long q4), .second, .val (.int p5), .val (.int nn), .val (.int ww), .val (.int ww), .val (.long big), .second, .val (.long (big / (nn.toInt64))), .second, .val (.long idx), .second, .val (.ref b24), .unset] [])) t
        refine XS.iconst X25.here hx rfl (hb hby at_109) ?_
        show Steps p.tables e below (T25.setTop (mkF m 110 #[.val (.int p1), .val (.int p2), .val (.int p3), .val (.long q4), .second, .val (.int p5), .val (.int nn), .val (.int ww), .val (.int ww), .val (.long big), .second, .val (.long (big / (nn.toInt64))), .second, .val (.long idx), .second, .val (.ref b24), .unset] [(.int (1 : Int32))])) t
        refine XS.goto X25.here hx rfl (pc0 := 110) (pc' := 114) rfl (hb hby at_110) (by decide) (by decide) ?_
        show Steps p.tables e below (T25.setTop (mkF m 114 #[.val (.int p1), .val (.int p2), .val (.int p3), .val (.long q4), .second, .val (.int p5), .val (.int nn), .val (.int ww), .val (.int ww), .val (.long big), .second, .val (.long (big / (nn.toInt64))), .second, .val (.long idx), .second, .val (.ref b24), .unset] [(.int (1 : Int32))])) t
        refine XS.istore X25.here hx rfl (hb hby at_114) rfl (l' := #[.val (.int p1), .val (.int p2), .val (.int p3), .val (.long q4), .second, .val (.int p5), .val (.int nn), .val (.int ww), .val (.int ww), .val (.long big), .second, .val (.long (big / (nn.toInt64))), .second, .val (.long idx), .second, .val (.ref b24), .val (.int (1 : Int32))]) rfl ?_
        show Steps p.tables e below (T25.setTop (mkF m 116 #[.val (.int p1), .val (.int p2), .val (.int p3), .val (.long q4), .second, .val (.int p5), .val (.int nn), .val (.int ww), .val (.int ww), .val (.long big), .second, .val (.long (big / (nn.toInt64))), .second, .val (.long idx), .second, .val (.ref b24), .val (.int (1 : Int32))] [])) t
        refine XS.aload X25.here hx rfl (hb hby at_116) rfl rfl ?_
        show Steps p.tables e below (T25.setTop (mkF m 118 #[.val (.int p1), .val (.int p2), .val (.int p3), .val (.long q4), .second, .val (.int p5), .val (.int nn), .val (.int ww), .val (.int ww), .val (.long big), .second, .val (.long (big / (nn.toInt64))), .second, .val (.long idx), .second, .val (.ref b24), .val (.int (1 : Int32))] [(.ref b24)])) t
        refine XS.lload X25.here hx rfl (hb hby at_118) rfl ?_
        exact k
      obtain ⟨cq27, kq27, q27a, q27b, q27c⟩ := isOf hZ rfl Ec25
      obtain ⟨_, _, ⟨T27, L27, k27, n27⟩, -, X27, ⟨Lc27, hQ27, l27, y27, z27⟩, st27⟩ := X25.virtualBack hx (y := (⟨"com/example/midstream/midstream/runtime/Split", "takes", "(J)Z"⟩ : MethodName)) (z := (⟨"com/example/midstream/midstream/runtime/Split", "takes", "(J)Z"⟩ : MethodName)) hown (mvT hZ (hw _ (List.mem_of_getElem? (i := 24) rfl))) (mvT hZ (hw _ (List.mem_of_getElem? (i := 25) rfl))) (notFace_of_selects (args := #[]) (mvT hZ (hw _ (List.mem_of_getElem? (i := 27) rfl)))) (mvT hZ (hw _ (List.mem_of_getElem? (i := 27) rfl))) (mvT hZ (hw _ (List.mem_of_getElem? (i := 26) rfl))) (by decide) (backOf (W := 0) (rm5 l Z a0 hw [] b24 idx ww nn T25.heap n0 (Nat.le_trans Z0 K25.1) Fc25_0 Fc25_1 (own_nzL hnn)) hZ (hw _ (List.mem_of_getElem? (i := 28) rfl)) (hw _ (List.mem_of_getElem? (i := 8) rfl)) (by decide) (by decide)) q27a q27c (g := (mkF m 120 #[.val (.int p1), .val (.int p2), .val (.int p3), .val (.long q4), .second, .val (.int p5), .val (.int nn), .val (.int ww), .val (.int ww), .val (.long big), .second, .val (.long (big / (nn.toInt64))), .second, .val (.long idx), .second, .val (.ref b24), .val (.int (1 : Int32))] [(.long idx), (.ref b24)])) rfl (by rw [hml]; rfl) (Steps.refl _) (argsL := [(.long idx)]) (rest := []) (lenOf pd_3 rfl) rfl (by show 2 * 0 + _ ≤ _; exact Nat.le_of_eq rfl) (hb hby at_120) (fun _ _ => ⟨rfl, rfl, (by decide : 1 + 0 ≤ _), (by decide : 2 + 0 ≤ _)⟩)
      dsimp only [Pt.U, Pt.locs, Pt.cells, Pt.slots] at X27 l27 y27 z27 st27 hQ27
      subst l27 y27 z27
      obtain ⟨rfl, Nq27, hh27⟩ := hQ27
      have N27 := Fr.app N25 Nq27
      refine own_via (fun t k => st27.trans k) ?_
      show own_G p.tables e below _ (T27.setTop (mkF m 123 #[.val (.int p1), .val (.int p2), .val (.int p3), .val (.long q4), .second, .val (.int p5), .val (.int nn), .val (.int ww), .val (.int ww), .val (.long big), .second, .val (.long (big / (nn.toInt64))), .second, .val (.long idx), .second, .val (.ref b24), .val (.int (1 : Int32))] [(.int (own_tk idx nn ww))]))
      refine own_via (S' := T27.setTop (mkF m 125 #[.val (.int p1), .val (.int p2), .val (.int p3), .val (.long q4), .second, .val (.int p5), .val (.int nn), .val (.int ww), .val (.int ww), .val (.long big), .second, .val (.long (big / (nn.toInt64))), .second, .val (.long idx), .second, .val (.ref b24), .val (.int (1 : Int32))] [(.int (1 : Int32)), (.int (own_tk idx nn ww))])) (fun t k => ?_) ?_
      · show Steps p.tables e below (T27.setTop (mkF m 123 #[.val (.int p1), .val (.int p2), .val (.int p3), .val (.long q4), .second, .val (.int p5), .val (.int nn), .val (.int ww), .val (.int ww), .val (.long big), .second, .val (.long (big / (nn.toInt64))), .second, .val (.long idx), .second, .val (.ref b24), .val (.int (1 : Int32))] [(.int (own_tk idx nn ww))])) t
        refine XS.iload X27.here hx rfl (hb hby at_123) rfl ?_
        exact k
      refine own_via (S' := T27.setTop (mkF m 128 #[.val (.int p1), .val (.int p2), .val (.int p3), .val (.long q4), .second, .val (.int p5), .val (.int nn), .val (.int ww), .val (.int ww), .val (.long big), .second, .val (.long (big / (nn.toInt64))), .second, .val (.long idx), .second, .val (.ref b24), .val (.int (1 : Int32))] [])) (fun t k => XS.icmpNo (g := (mkF m 125 #[.val (.int p1), .val (.int p2), .val (.int p3), .val (.long q4), .second, .val (.int p5), .val (.int nn), .val (.int ww), .val (.int ww), .val (.long big), .second, .val (.long (big / (nn.toInt64))), .second, .val (.long idx), .second, .val (.ref b24), .val (.int (1 : Int32))] [(.int (1 : Int32)), (.int (own_tk idx nn ww))])) X27.here hx rfl (hb hby at_125) rfl (teq (own_t1 (own_A nn ww big hnn hbig hww.1 hww.2 idx hc68_18 hn_idx) rfl)).2 k) ?_
      refine own_via (S' := T27.setTop (mkF m 133 #[.val (.int p1), .val (.int p2), .val (.int p3), .val (.long q4), .second, .val (.int p5), .val (.int nn), .val (.int ww), .val (.int ww), .val (.long big), .second, .val (.long (big / (nn.toInt64))), .second, .val (.long idx), .second, .val (.ref b24), .val (.int (1 : Int32))] [(.int (1 : Int32))])) (fun t k => ?_) ?_
      · show Steps p.tables e below (T27.setTop (mkF m 128 #[.val (.int p1), .val (.int p2), .val (.int p3), .val (.long q4), .second, .val (.int p5), .val (.int nn), .val (.int ww), .val (.int ww), .val (.long big), .second, .val (.long (big / (nn.toInt64))), .second, .val (.long idx), .second, .val (.ref b24), .val (.int (1 : Int32))] [])) t
        refine XS.iconst X27.here hx rfl (hb hby at_128) ?_
        show Steps p.tables e below (T27.setTop (mkF m 129 #[.val (.int p1), .val (.int p2), .val (.int p3), .val (.long q4), .second, .val (.int p5), .val (.int nn), .val (.int ww), .val (.int ww), .val (.long big), .second, .val (.long (big / (nn.toInt64))), .second, .val (.long idx), .second, .val (.ref b24), .val (.int (1 : Int32))] [(.int (1 : Int32))])) t
        refine XS.goto X27.here hx rfl (pc0 := 129) (pc' := 133) rfl (hb hby at_129) (by decide) (by decide) ?_
        exact k
      exact own_end (h := T25.heap) X27 (v := some (.int (1 : Int32))) Bd.notSynchronized (fun h => by rw [Bd.returns] at h; cases h) (fun fs hr => retN X27 hx (t := .boolean) Bd.returns (by simp) (hb hby at_133) hr) hh27 ⟨rfl, N27⟩ (by decide) (by decide)
set_option maxRecDepth 65536 in
set_option maxHeartbeats 40000000 in
theorem comes_1 {Post : Tables → Env → Array Value → State → Outcome → State → Prop} (hpost : ∀ tb e args s v u, (limb_1_1.after args s (.returned v) u = true ∧ limb_1_2.after args s (.returned v) u = true ∧ True) → FrameEnd s (.returned v) u (Jvm.fieldLocs frame_1_writes args s ++ Jvm.arrayLocs frame_1_arrays args s ++ Jvm.staticLocs frame_1_statics s) 16 128 → Post tb e args s (.returned v) u) :
    ArmFor flags0 classFile x code maxLocals ret World_1 tables_1 room_1 Calls_1 rest_1 Pre_1 Post := by
  intro l hfl _ _ p e ha hc hk s m args below hf hA hF happ hP
  obtain ⟨hcalls, hrest, hpre⟩ := hP
  obtain ⟨-, -, -, hnamed, -, -, -, hat⟩ := (Spec.applies_iff hf).mp happ
  obtain ⟨hg, hn⟩ := and_e (Cond.before_iff.mp (show (Jvm.Cond.and given_1 narrow_1).before args s = true from hpre))
  obtain ⟨hcount, hg0⟩ := and_e hg
  obtain ⟨ga0, hg1⟩ := and_e hg0
  obtain ⟨ga1, hg2⟩ := and_e hg1
  obtain ⟨ga2, hg3⟩ := and_e hg2
  obtain ⟨ga3, hg4⟩ := and_e hg3
  have ga4 := hg4
  obtain ⟨w0, w1, w2, w3, w4, rfl⟩ : ∃ w0 w1 w2 w3 w4 : Value, args = #[w0, w1, w2, w3, w4] := by
    have hs : args.size = 5 := by simpa [Cond.value, given_1] using hcount
    obtain ⟨L⟩ := args
    match L, hs with
    | [w0, w1, w2, w3, w4], _ => exact ⟨w0, w1, w2, w3, w4, rfl⟩
  have hw := fun d (hd : d ∈ tables_1) => atoms_spec (ws := Jvm.Cond.code x code maxLocals ret :: tables_1) hat d (List.mem_cons_of_mem _ hd)
  obtain ⟨i0, ei0⟩ := is_v ga0
  obtain rfl : w0 = (.int i0) := Option.some.inj ei0
  obtain ⟨i1, ei1⟩ := is_v ga1
  obtain rfl : w1 = (.int i1) := Option.some.inj ei1
  obtain ⟨i2, ei2⟩ := is_v ga2
  obtain rfl : w2 = (.int i2) := Option.some.inj ei2
  obtain ⟨i3, ei3⟩ := isL_v ga3
  obtain rfl : w3 = (.long i3) := Option.some.inj ei3
  obtain ⟨i4, ei4⟩ := is_v ga4
  obtain rfl : w4 = (.int i4) := Option.some.inj ei4
  obtain ⟨n, o, h1, h2, h3, _, L, rfl, ⟨rfl, N⟩, hq⟩ := rm0 l s _ hw tables_1 i0 i1 i2 i3 i4  s.heap s.heap.size (Nat.le_refl _)  p e ha hc hk s m _ below hf ((Spec.applies_iff_loose hf).mp happ).1 ⟨rfl, State.Warmed39.refl s, rfl⟩ trivial
  refine ⟨n, _, h1, h2, h3, hpost _ _ _ _ _ _ ⟨Cond.after_iff.mpr rfl, Cond.after_iff.mpr (eq_i res_at (Term.int_eval (1)) rfl), trivial⟩ ⟨hq.1, hq.2.1, (hq.2.2.sift fun y hy => Or.inr (N y hy)).mono (by decide) (by decide)⟩⟩
theorem main_1_1 : Claimed_1_1 := comes_1 fun _ _ _ _ _ _ h hF => ⟨h.1, hF⟩
theorem main_1_2 : Claimed_1_2 := comes_1 fun _ _ _ _ _ _ h hF => ⟨h.2.1, hF⟩
end Jvm.Pilot.@@N@@
namespace Jvm.Pilot.@@N@@
open Jvm Jvm.ClassFile Sem Op Lib Jvm.Free Jvm.Stand Jvm.Pilot.@@N@@.Jvm.D
/-! MADE BY PROGRAM (witnessworld.py) out of the Statement's table words and the real class files: 11 classes; the members and pool entries that the words name. The judged class is class 1, her method 1. -/
namespace start1
open Jvm.ClassFile
def u (s : String) : CpInfo := .utf8 (stringToUtf16 s)
/-- a pool by its gaps: so many unusable entries, then the entry; so many at the end -/
def gap : Nat → List CpInfo → List CpInfo
  | 0, r => r
  | n + 1, r => .unusable :: gap n r
def poolList (es : List (Nat × CpInfo)) (last : Nat) : List CpInfo := es.foldr (fun e r => gap e.1 (e.2 :: r)) (gap last [])
def pool (es : List (Nat × CpInfo)) (last : Nat) : Array CpInfo := ⟨poolList es last⟩
def fileOf (pool : Array CpInfo) (this : Nat) (attrs : Array Attribute := #[]) (ms : Array MethodInfo := #[]) (fl : Nat := 33) (sup : Nat := 0) (ifs : Array Nat := #[]) (fds : Array FieldInfo := #[]) : ClassFile where
  minorVersion := 0
  majorVersion := 65
  constantPool := pool
  accessFlags := fl
  thisClass := this
  superClass := sup
  interfaces := ifs
  fields := fds
  methods := ms
  attributes := attrs
def plain (name : String) (sup : Option ClassId) : Class where
  name := name
  kind := .ordinary
  loader := none
  accessFlags := 33
  super := sup
  interfaces := #[]
  cf := none
  fields := #[]
  methods := #[]
  instanceTypes := #[]
  staticTypes := #[]
  resolved := #[]
  callSites := []
  init := .initialized
  statics := none
  mirror := none

def pool0 : Array CpInfo := pool [(5, u "<init>"), (0, u "()V"), (1, .class_ 10), (1, u "java/lang/Object")] 113

def k0c0 : Code := { maxStack := 0, maxLocals := 1, code := object_method_1_code, exceptionTable := #[], attributes := #[] }
def k0m0 : Method := { name := "<init>", desc := "()V", sig := { parameters := [], returnType := none }, accessFlags := 1, code := some k0c0 }
/-- java/lang/Object -/
def k0 : Class := { plain "java/lang/Object" none with
  accessFlags := 33
  interfaces := #[]
  cf := some (fileOf pool0 8 #[] #[{ accessFlags := 1, nameIndex := 5, descriptorIndex := 6, attributes := #[] }] 33 0 #[] #[])
  fields := #[]
  methods := #[k0m0]
  instanceTypes := #[]
  staticTypes := #[]
  resolved := Array.replicate 124 none
  statics := none }

def pool1 : Array CpInfo := pool [(2, .class_ 4), (1, u "java/lang/Object"), (0, u "<init>"), (0, u "()V"), (0, .integer 2147483647), (0, .methodref 9 10), (0, .class_ 11), (0, .nameAndType 12 13), (0, u "java/lang/Math"), (0, u "max"), (0, u "(II)I"), (2, .long 9223372036854775807), (1, .class_ 19), (0, u "com/example/midstream/midstream/runtime/Split"), (0, .methodref 18 21), (0, .nameAndType 5 22), (0, u "(II)V"), (0, .methodref 18 24), (0, .nameAndType 25 26), (0, u "takes"), (0, u "(J)Z"), (0, .class_ 28), (0, u "com/example/midstream/midstream/runtime/SplitTakesPinLaw"), (2, u "law"), (0, u "(IIIJI)Z")] 3

def k1m0 : Method := { name := "<init>", desc := "()V", sig := { parameters := [], returnType := none }, accessFlags := 1, code := none }
def k1c1 : Code := { maxStack := 6, maxLocals := 17, code := code, exceptionTable := #[], attributes := #[] }
def k1m1 : Method := { name := "law", desc := "(IIIJI)Z", sig := { parameters := [.int, .int, .int, .long, .int], returnType := some .boolean }, accessFlags := 9, code := some k1c1 }
/-- com/example/midstream/midstream/runtime/SplitTakesPinLaw -/
def k1 : Class := { plain "com/example/midstream/midstream/runtime/SplitTakesPinLaw" (some 0) with
  accessFlags := 49
  interfaces := #[]
  cf := some (fileOf pool1 27 #[] #[{ accessFlags := 1, nameIndex := 5, descriptorIndex := 6, attributes := #[] }, { accessFlags := 9, nameIndex := 31, descriptorIndex := 32, attributes := #[] }] 49 2 #[] #[])
  fields := #[]
  methods := #[k1m0, k1m1]
  instanceTypes := #[]
  staticTypes := #[]
  resolved := Array.replicate 36 none
  statics := none }

def pool2 : Array CpInfo := pool [(1, .class_ 2), (0, u "java/lang/Math"), (1, .class_ 6), (1, u "java/lang/Object"), (0, u "<init>"), (0, u "()V"), (89, .class_ 100), (1, u "java/lang/Math$RandomNumberGeneratorHolder"), (71, u "negativeZeroFloatBits"), (0, u "J"), (2, u "negativeZeroDoubleBits"), (21, u "max"), (46, u "$assertionsDisabled"), (0, u "Z"), (88, u "(II)I"), (2, u "twoToTheDoubleScaleDown"), (0, u "D"), (4, u "twoToTheDoubleScaleUp"), (9, u "E"), (3, u "PI"), (2, u "TAU"), (2, u "DEGREES_TO_RADIANS"), (0, u "RADIANS_TO_DEGREES")] 94

def k2m0 : Method := { name := "<init>", desc := "()V", sig := { parameters := [], returnType := none }, accessFlags := 2, code := none }
def k2c1 : Code := { maxStack := 2, maxLocals := 2, code := jdk_29_method_65_code, exceptionTable := #[], attributes := #[] }
def k2m1 : Method := { name := "max", desc := "(II)I", sig := { parameters := [.int, .int], returnType := some .int }, accessFlags := 9, code := some k2c1 }
/-- java/lang/Math -/
def k2 : Class := { plain "java/lang/Math" (some 0) with
  accessFlags := 49
  interfaces := #[]
  cf := some (fileOf pool2 1 #[.nestMembers #[98]] #[{ accessFlags := 2, nameIndex := 7, descriptorIndex := 8, attributes := #[] }, { accessFlags := 9, nameIndex := 198, descriptorIndex := 335, attributes := #[] }] 49 4 #[] #[{ accessFlags := 25, nameIndex := 354, descriptorIndex := 339, attributes := #[] }, { accessFlags := 25, nameIndex := 358, descriptorIndex := 339, attributes := #[] }, { accessFlags := 25, nameIndex := 361, descriptorIndex := 339, attributes := #[] }, { accessFlags := 26, nameIndex := 364, descriptorIndex := 339, attributes := #[] }, { accessFlags := 26, nameIndex := 365, descriptorIndex := 339, attributes := #[] }, { accessFlags := 26, nameIndex := 172, descriptorIndex := 173, attributes := #[] }, { accessFlags := 26, nameIndex := 176, descriptorIndex := 173, attributes := #[] }, { accessFlags := 8, nameIndex := 344, descriptorIndex := 339, attributes := #[] }, { accessFlags := 8, nameIndex := 338, descriptorIndex := 339, attributes := #[] }, { accessFlags := 4120, nameIndex := 245, descriptorIndex := 246, attributes := #[] }])
  fields := #[{ name := "E", type := .double, accessFlags := 25, slot := 0, constantValue := 0 }, { name := "PI", type := .double, accessFlags := 25, slot := 1, constantValue := 0 }, { name := "TAU", type := .double, accessFlags := 25, slot := 2, constantValue := 0 }, { name := "DEGREES_TO_RADIANS", type := .double, accessFlags := 26, slot := 3, constantValue := 0 }, { name := "RADIANS_TO_DEGREES", type := .double, accessFlags := 26, slot := 4, constantValue := 0 }, { name := "negativeZeroFloatBits", type := .long, accessFlags := 26, slot := 5, constantValue := 0 }, { name := "negativeZeroDoubleBits", type := .long, accessFlags := 26, slot := 6, constantValue := 0 }, { name := "twoToTheDoubleScaleUp", type := .double, accessFlags := 8, slot := 7, constantValue := 0 }, { name := "twoToTheDoubleScaleDown", type := .double, accessFlags := 8, slot := 8, constantValue := 0 }, { name := "$assertionsDisabled", type := .boolean, accessFlags := 4120, slot := 9, constantValue := 0 }]
  methods := #[k2m0, k2m1]
  instanceTypes := #[]
  staticTypes := #[.double, .double, .double, .double, .double, .long, .long, .double, .double, .boolean]
  resolved := Array.replicate 460 none
  statics := none }

def pool3 : Array CpInfo := pool [(1, .methodref 2 3), (0, .class_ 4), (0, .nameAndType 5 6), (0, u "java/lang/Object"), (0, u "<init>"), (0, u "()V"), (0, .class_ 8), (0, u "java/lang/Record")] 13

def k3c0 : Code := { maxStack := 1, maxLocals := 1, code := jdk_30_method_1_code, exceptionTable := #[], attributes := #[] }
def k3m0 : Method := { name := "<init>", desc := "()V", sig := { parameters := [], returnType := none }, accessFlags := 4, code := some k3c0 }
/-- java/lang/Record -/
def k3 : Class := { plain "java/lang/Record" (some 0) with
  accessFlags := 1057
  interfaces := #[]
  cf := some (fileOf pool3 7 #[] #[{ accessFlags := 4, nameIndex := 5, descriptorIndex := 6, attributes := #[] }] 1057 2 #[] #[])
  fields := #[]
  methods := #[k3m0]
  instanceTypes := #[]
  staticTypes := #[]
  resolved := Array.replicate 22 none
  statics := none }

def pool4 : Array CpInfo := pool [(1, .methodref 2 3), (0, .class_ 4), (0, .nameAndType 5 6), (0, u "java/lang/Record"), (0, u "<init>"), (0, u "()V"), (9, .fieldref 17 18), (0, .class_ 19), (0, .nameAndType 20 21), (0, u "com/example/midstream/midstream/runtime/Split"), (0, u "worker"), (0, u "I"), (0, .fieldref 17 23), (0, .nameAndType 24 21), (0, u "workers"), (12, u "(II)V"), (7, u "takes"), (0, u "(J)Z")] 32

def k4c0 : Code := { maxStack := 4, maxLocals := 3, code := prog_19_method_1_code, exceptionTable := #[], attributes := #[] }
def k4m0 : Method := { name := "<init>", desc := "(II)V", sig := { parameters := [.int, .int], returnType := none }, accessFlags := 1, code := some k4c0 }
def k4c1 : Code := { maxStack := 4, maxLocals := 3, code := prog_19_method_4_code, exceptionTable := #[], attributes := #[] }
def k4m1 : Method := { name := "takes", desc := "(J)Z", sig := { parameters := [.long], returnType := some .boolean }, accessFlags := 1, code := some k4c1 }
/-- com/example/midstream/midstream/runtime/Split -/
def k4 : Class := { plain "com/example/midstream/midstream/runtime/Split" (some 3) with
  accessFlags := 49
  interfaces := #[]
  cf := some (fileOf pool4 17 #[] #[{ accessFlags := 1, nameIndex := 5, descriptorIndex := 37, attributes := #[] }, { accessFlags := 1, nameIndex := 45, descriptorIndex := 46, attributes := #[] }] 49 2 #[] #[{ accessFlags := 18, nameIndex := 20, descriptorIndex := 21, attributes := #[] }, { accessFlags := 18, nameIndex := 24, descriptorIndex := 21, attributes := #[] }])
  fields := #[{ name := "worker", type := .int, accessFlags := 18, slot := 0, constantValue := 0 }, { name := "workers", type := .int, accessFlags := 18, slot := 1, constantValue := 0 }]
  methods := #[k4m0, k4m1]
  instanceTypes := #[.int, .int]
  staticTypes := #[]
  resolved := Array.replicate 79 none
  statics := none }

def pool5 : Array CpInfo := pool [(1, u "java/lang/Cloneable"), (0, .class_ 1), (0, u "java/lang/Object"), (0, .class_ 3)] 3

/-- java/lang/Cloneable -/
def k5 : Class := { plain "java/lang/Cloneable" (some 0) with
  accessFlags := 1537
  interfaces := #[]
  cf := some (fileOf pool5 2 #[] #[] 1537 4 #[] #[])
  fields := #[]
  methods := #[]
  instanceTypes := #[]
  staticTypes := #[]
  resolved := Array.replicate 8 none
  statics := none }

def pool6 : Array CpInfo := pool [(1, u "java/io/Serializable"), (0, .class_ 1), (0, u "java/lang/Object"), (0, .class_ 3)] 3

/-- java/io/Serializable -/
def k6 : Class := { plain "java/io/Serializable" (some 0) with
  accessFlags := 1537
  interfaces := #[]
  cf := some (fileOf pool6 2 #[] #[] 1537 4 #[] #[])
  fields := #[]
  methods := #[]
  instanceTypes := #[]
  staticTypes := #[]
  resolved := Array.replicate 8 none
  statics := none }

/-- the primitive byte -/
def k7 : Class := { plain "byte" none with kind := .primitive 'B', accessFlags := 0x411 }
/-- [B -/
def k8 : Class := { plain "[B" (some 0) with kind := .array 7 .byte, interfaces := #[5, 6], accessFlags := 1041 }

/-- the primitive int -/
def k9 : Class := { plain "int" none with kind := .primitive 'I', accessFlags := 0x411 }
/-- [I -/
def k10 : Class := { plain "[I" (some 0) with kind := .array 9 .int, interfaces := #[5, 6], accessFlags := 1041 }

def heap : Heap := #[]
def classes : Array Class := #[k0, k1, k2, k3, k4, k5, k6, k7, k8, k9, k10]
def interned : List (Array UInt16 × Addr) := []
def slotsUsed : Nat := 0
def theMethod : MethodId := ⟨1, 1⟩
def args0 : Array Value := #[.int 5, .int 7, .int 1, .long 100, .int 2]
def aboutOver (below : List Frame) : State where
  vm := { classes := classes, interned := interned.toArray }
  heap := heap
  slotsUsed := slotsUsed
  threads := #[{ frames := .invoking theMethod args0 :: below }]
def below0 : List Frame := [.native { method := ⟨0, 0⟩, args := #[] }]
def about1 : State := aboutOver below0
def p0 : Program := .bare "" "" ""
def e0 : Env := launch0.env 0 0 0
theorem w_frames : about1.frames = Frame.invoking theMethod args0 :: below0 := rfl
set_option maxRecDepth 65536 in
theorem w_args : argsFit about1.vm theMethod args0 = true := by decide +kernel
set_option maxRecDepth 65536 in
theorem w_heap : heapFits about1 = true := by decide +kernel
set_option maxRecDepth 65536 in
theorem w_runnable : about1.curStatus? = some .runnable := by decide +kernel
set_option maxRecDepth 65536 in
theorem w_alone : about1.alone = true := by decide +kernel
set_option maxRecDepth 65536 in
theorem w_named : about1.methodNamed? x = some theMethod := by decide +kernel
set_option maxRecDepth 65536 in
theorem w_hears : about1.hears theMethod below0 = true := by decide +kernel
set_option maxRecDepth 65536 in
theorem w_ripe : about1.ripe theMethod args0 below0 = true := by decide +kernel
theorem w_running : about1.status = .running := rfl
set_option maxRecDepth 65536 in
theorem w_room : about1.hasRoom e0.platform room_1 = true :=
  launch0.hasRoom_least _ room_1 (by decide +kernel) (by decide +kernel) (by decide +kernel) (by decide +kernel) (by decide +kernel) (by decide +kernel)
theorem allAtoms_all (ts : List Jvm.Cond) (a : Array Jvm.Value) (st : Jvm.State) : (allAtoms ts).before a st = ts.all (fun c => c.before a st) := by
  induction ts with
  | nil => rfl
  | cons c t ih =>
    show (Jvm.Cond.and c (allAtoms t)).before a st = _
    rw [Jvm.Cond.before_and, ih, List.all_cons]
def words1 : List Jvm.Cond := Jvm.Cond.code x code maxLocals ret :: tables_1
/-- a 'code' word, met by the world's own term for the bytes: nothing is compared byte by byte -/
theorem code_word {y : MethodName} {bytes : ByteArray} {mx : Nat} {rt : Option FieldType} {a : Array Value} {s : State} {m : MethodId} {meth : Method} {c : Code} (h1 : s.methodNamed? y = some m) (h2 : s.vm.method? m = some meth) (h3 : meth.code = some c) (h4 : c.code = bytes)
    (h5 : (c.maxLocals == mx && c.exceptionTable.isEmpty && decide (c.maxStack ≤ mostOperands) && decide (meth.sig.returnType = rt) && !meth.locks && decide (parseMethodDescriptor y.desc = some meth.sig)) = true) : (Jvm.Cond.code y bytes mx rt).before a s = true := by
  simp only [Bool.and_eq_true, beq_iff_eq, Bool.not_eq_true', decide_eq_true_eq] at h5
  obtain ⟨⟨⟨⟨⟨g1, g2⟩, g3⟩, g4⟩, g5⟩, g6⟩ := h5
  simp [Cond.before, Cond.holds, Cond.value, h1, h2, h3, h4, g1, g2, g3, g4, g5, g6]
def isCode : Jvm.Cond → Bool
  | .code _ _ _ _ => true
  | _ => false
theorem all_split {L : List Jvm.Cond} {P : Jvm.Cond → Bool} (h1 : L.all (fun c => isCode c || P c) = true) (h2 : ∀ c ∈ L.filter isCode, P c = true) : L.all P = true := by
  refine List.all_eq_true.mpr fun c hc => ?_
  have h := List.all_eq_true.mp h1 c hc
  rcases Bool.eq_false_or_eq_true (isCode c) with hi | hi
  · exact h2 c (List.mem_filter.mpr ⟨hc, hi⟩)
  · simpa [hi] using h
set_option maxRecDepth 65536 in
theorem w_c0 : (Jvm.Cond.code x code maxLocals ret).before args0 about1 = true := code_word (m := ⟨1, 1⟩) (meth := k1m1) (c := k1c1) (by decide +kernel) rfl rfl rfl (by decide +kernel)
set_option maxRecDepth 65536 in
theorem w_c1 : (Jvm.Cond.code ({ cls := "java/lang/Math", name := "max", desc := "(II)I" } : Jvm.MethodName) jdk_29_method_65_code (2 : Nat) (Option.some Jvm.ClassFile.FieldType.int)).before args0 about1 = true := code_word (m := ⟨2, 1⟩) (meth := k2m1) (c := k2c1) (by decide +kernel) rfl rfl rfl (by decide +kernel)
set_option maxRecDepth 65536 in
theorem w_c2 : (Jvm.Cond.code ({ cls := "com/example/midstream/midstream/runtime/Split", name := "<init>", desc := "(II)V" } : Jvm.MethodName) prog_19_method_1_code (3 : Nat) (Option.none : Option Jvm.ClassFile.FieldType)).before args0 about1 = true := code_word (m := ⟨4, 0⟩) (meth := k4m0) (c := k4c0) (by decide +kernel) rfl rfl rfl (by decide +kernel)
set_option maxRecDepth 65536 in
theorem w_c3 : (Jvm.Cond.code ({ cls := "java/lang/Record", name := "<init>", desc := "()V" } : Jvm.MethodName) jdk_30_method_1_code (1 : Nat) (Option.none : Option Jvm.ClassFile.FieldType)).before args0 about1 = true := code_word (m := ⟨3, 0⟩) (meth := k3m0) (c := k3c0) (by decide +kernel) rfl rfl rfl (by decide +kernel)
set_option maxRecDepth 65536 in
theorem w_c4 : (Jvm.Cond.code ({ cls := "java/lang/Object", name := "<init>", desc := "()V" } : Jvm.MethodName) object_method_1_code (1 : Nat) (Option.none : Option Jvm.ClassFile.FieldType)).before args0 about1 = true := code_word (m := ⟨0, 0⟩) (meth := k0m0) (c := k0c0) (by decide +kernel) rfl rfl rfl (by decide +kernel)
set_option maxRecDepth 65536 in
theorem w_c5 : (Jvm.Cond.code ({ cls := "com/example/midstream/midstream/runtime/Split", name := "takes", desc := "(J)Z" } : Jvm.MethodName) prog_19_method_4_code (3 : Nat) (Option.some Jvm.ClassFile.FieldType.boolean)).before args0 about1 = true := code_word (m := ⟨4, 1⟩) (meth := k4m1) (c := k4c1) (by decide +kernel) rfl rfl rfl (by decide +kernel)
def codes1 : List Jvm.Cond := [Jvm.Cond.code x code maxLocals ret, Jvm.Cond.code ({ cls := "java/lang/Math", name := "max", desc := "(II)I" } : Jvm.MethodName) jdk_29_method_65_code (2 : Nat) (Option.some Jvm.ClassFile.FieldType.int), Jvm.Cond.code ({ cls := "com/example/midstream/midstream/runtime/Split", name := "<init>", desc := "(II)V" } : Jvm.MethodName) prog_19_method_1_code (3 : Nat) (Option.none : Option Jvm.ClassFile.FieldType), Jvm.Cond.code ({ cls := "java/lang/Record", name := "<init>", desc := "()V" } : Jvm.MethodName) jdk_30_method_1_code (1 : Nat) (Option.none : Option Jvm.ClassFile.FieldType), Jvm.Cond.code ({ cls := "java/lang/Object", name := "<init>", desc := "()V" } : Jvm.MethodName) object_method_1_code (1 : Nat) (Option.none : Option Jvm.ClassFile.FieldType), Jvm.Cond.code ({ cls := "com/example/midstream/midstream/runtime/Split", name := "takes", desc := "(J)Z" } : Jvm.MethodName) prog_19_method_4_code (3 : Nat) (Option.some Jvm.ClassFile.FieldType.boolean)]
set_option maxRecDepth 65536 in
theorem codes_eq : words1.filter isCode = codes1 := rfl
theorem w_codes : ∀ c ∈ words1.filter isCode, c.before args0 about1 = true := by
  rw [codes_eq]
  intro c hc
  simp only [codes1, List.mem_cons, List.not_mem_nil, or_false] at hc
  rcases hc with rfl | rfl | rfl | rfl | rfl | rfl
  · exact w_c0
  · exact w_c1
  · exact w_c2
  · exact w_c3
  · exact w_c4
  · exact w_c5
set_option maxRecDepth 65536 in
theorem w_t1 : (words1.take 24).all (fun c => isCode c || c.before args0 about1) = true := by decide +kernel
set_option maxRecDepth 65536 in
theorem w_t2 : (words1.drop 24).all (fun c => isCode c || c.before args0 about1) = true := by decide +kernel
theorem w_tables : (allAtoms (Jvm.Cond.code x code maxLocals ret :: tables_1)).before args0 about1 = true := by
  rw [allAtoms_all]
  show words1.all (fun c => c.before args0 about1) = true
  refine all_split ?_ w_codes
  rw [← List.take_append_drop 24 words1, List.all_append, w_t1, w_t2]
  rfl
set_option maxRecDepth 65536 in
theorem w_case : (Jvm.Cond.and given_1 narrow_1).before args0 about1 = true := by decide +kernel
theorem w_applies : (headSpec (Jvm.Cond.code x code maxLocals ret :: tables_1) room_1).applies x e0.platform about1 = true :=
  (Spec.applies_iff w_frames).mpr ⟨w_running, w_runnable, w_alone, w_named, w_hears, w_ripe, w_room, w_tables⟩
theorem atStart : AtStart classFile x code maxLocals ret World_1 tables_1 room_1 Calls_1 rest_1 Pre_1 launch0 p0 e0 about1 theMethod args0 below0 :=
  ⟨lists_1, trivial, launch0.admits_env _ _ _, launch0.least_env, fairChoices_fair.cas, fairChoices_fair.clock, w_frames, w_args, w_heap, w_applies, trivial, trivial, w_case⟩
end start1
theorem witness_1 : WitnessClaimed_1 := ⟨start1.p0, start1.e0, start1.about1, start1.theMethod, start1.args0, start1.below0, start1.atStart⟩
end Jvm.Pilot.@@N@@
