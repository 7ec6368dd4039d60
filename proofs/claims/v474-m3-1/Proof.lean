import JvmDerived
import JvmDerived.Pilot.@@N@@Statement
import JvmDerived.Pilot.@@N@@Code
set_option linter.unusedVariables false
set_option linter.unusedSimpArgs false
namespace Jvm.Pilot.@@N@@
open Jvm Jvm.ClassFile Sem Op Lib Jvm.Free Jvm.Stand Jvm.LawKit Jvm.RoadKit Bundle Jvm.Pilot.@@N@@.Jvm.D
/-- from S the body ends as Q says -/
def own_G (tb : Tables) (e : Env) (below : List Frame) (Q : State → Outcome → Prop) (S : State) : Prop := ∃ s₂ o, Steps tb e below S s₂ ∧ s₂.status = .running ∧ Ended s₂ below o ∧ Q s₂ o
theorem own_via {tb : Tables} {e : Env} {below : List Frame} {Q : State → Outcome → Prop} {S S' : State} (h : ∀ t, Steps tb e below S' t → Steps tb e below S t) (g : own_G tb e below Q S') : own_G tb e below Q S := by
  obtain ⟨t, o, k, r⟩ := g
  exact ⟨t, o, h t k, r⟩
def own_P (U : State) (Q : Option Value → Heap → List Loc → Prop) (cells slots : Nat) : State → Outcome → Prop := fun U' o => ∃ v L, o = .returned v ∧ Q v U'.heap L ∧ FrameEnd U o U' L cells slots
theorem own_end {p : Program} {l : Launch} {e : Env} {R : Room} {s : State} {m : MethodId} {args : Array Value} {below : List Frame} {meth : Method} {c : Code} {T : State} {locs : List Loc} {cells slots C S : Nat} {Q : Option Value → Heap → List Loc → Prop} {h : Heap} {G : State}
    (X : Stand p l e R s m args below meth c T locs cells slots) {v : Option Value} (hlk : meth.locks = false) (hv : meth.sig.returnType = none → v = none)
    (st : ∀ fs, (∀ (f : JFrame) (acts : List Action), f.method = m → f.locked = none → f.entered = [] → (doReturn e (T.setTop f) acts v).1 = T.setFrames fs) → Steps p.tables e below G (T.setFrames fs))
    (eT : T.heap = h) (hq : Q v h locs) (h1 : cells ≤ C) (h2 : slots ≤ S) : own_G p.tables e below (own_P s Q C S) G := by
  obtain ⟨fs, hr, hrun, hended, hW, hsame⟩ := X.leave (v := v) hv hlk
  exact ⟨_, _, st fs hr, hrun, hended, _, _, rfl, eT ▸ hq, ⟨_, rfl⟩, hW, hsame.mono h1 h2⟩
section own_floats
open Jvm.FP.Core
theorem own_D : val64 4652218415073722368 = .fin false 4503599627370496 (-42) := by decide +kernel
theorem own_K1 : zval b64 (val64 13859405640767635456) = -92160 * 2 ^ 1064 ∧ val64 13859405640767635456 ≠ .nan := by decide +kernel
theorem own_K2 : zval b64 (val64 4636033603912859648) = 92160 * 2 ^ 1064 ∧ val64 4636033603912859648 ≠ .nan := by decide +kernel
theorem own_K3 : zval b64 (val64 13863909240395005952) = -184320 * 2 ^ 1064 ∧ val64 13863909240395005952 ≠ .nan := by decide +kernel
theorem own_K4 : zval b64 (val64 4640537203540230144) = 184320 * 2 ^ 1064 ∧ val64 4640537203540230144 ≠ .nan := by decide +kernel
theorem own_qm : b64.qmin = -1074 := by decide
theorem own_div (a : Int32) : ∃ c q, val64 (FP.ddiv (FP.i2d a) 4652218415073722368) = .fin (decide (a.toInt < 0)) c q ∧ inUnits c q b64.qmin = inUnits a.toInt.natAbs (-10) b64.qmin := by
  have ra := rng32 a
  have hA : a.toInt.natAbs < 2 ^ b64.p := by
    have : (2 : Nat) ^ b64.p = 9007199254740992 := by decide
    omega
  obtain ⟨c, q, e1, e2⟩ := round_exact good_b64 (decide (a.toInt < 0)) (c := a.toInt.natAbs) (q := 0) hA (by decide) (by decide)
  have v1 : val64 (FP.i2d a) = .fin (decide (a.toInt < 0)) c q := (val64_i2d a).trans e1
  have hfit : Jvm.FP.Core.fits b64 (.fin (decide (a.toInt < 0)) c q) := v1 ▸ val64_fits _
  have hq : -1074 ≤ q := own_qm ▸ hfit.2.1
  have v2 : val64 (FP.ddiv (FP.i2d a) 4652218415073722368) = quotient b64 (val64 (FP.i2d a)) (val64 4652218415073722368) := val64_ddiv _ _
  rw [v1, own_D] at v2
  have v3 : quotient b64 (.fin (decide (a.toInt < 0)) c q) (.fin false 4503599627370496 (-42)) = roundRatio b64 (decide (a.toInt < 0)) c 4503599627370496 (q - (-42)) := by
    show (if (4503599627370496 : Nat) = 0 then (if c = 0 then Datum.nan else Datum.inf (decide (a.toInt < 0) != false)) else roundRatio b64 (decide (a.toInt < 0) != false) c 4503599627370496 (q - (-42))) = _
    rw [if_neg (by decide), Bool.bne_false]
  have hv : c * 2 ^ (q + 1074).toNat = a.toInt.natAbs * 2 ^ 1074 := by
    have := e2
    unfold inUnits at this
    rw [own_qm] at this
    rw [show (q - -1074) = q + 1074 by omega] at this
    exact this
  have v4 : roundRatio b64 (decide (a.toInt < 0)) c 4503599627370496 (q - (-42)) = roundRatio b64 (decide (a.toInt < 0)) a.toInt.natAbs 1 (-10) := by
    refine roundRatio_congr (by decide) (by decide) ?_
    rw [Nat.mul_one, show (4503599627370496 : Nat) = 2 ^ 52 by decide]
    by_cases h : 0 ≤ q + 52
    · rw [show (q - -42 - -10).toNat = (q + 52).toNat by omega, show (-10 - (q - -42)).toNat = 0 by omega, Nat.pow_zero, Nat.mul_one]
      have e : (q + 1074).toNat = (q + 52).toNat + 1022 := by omega
      rw [e, Nat.pow_add, show (1074 : Nat) = 52 + 1022 by decide, Nat.pow_add, ← Nat.mul_assoc, ← Nat.mul_assoc] at hv
      exact Nat.eq_of_mul_eq_mul_right (Nat.two_pow_pos 1022) hv
    · rw [show (q - -42 - -10).toNat = 0 by omega, show (-10 - (q - -42)).toNat = (-(q + 52)).toNat by omega, Nat.pow_zero, Nat.mul_one]
      have e : 1074 = 52 + (-(q + 52)).toNat + (q + 1074).toNat := by omega
      have hv2 : c * 2 ^ (q + 1074).toNat = (a.toInt.natAbs * 2 ^ 52 * 2 ^ (-(q + 52)).toNat) * 2 ^ (q + 1074).toNat := by
        rw [hv]
        conv => lhs; rw [e, Nat.pow_add, Nat.pow_add]
        simp only [Nat.mul_assoc]
      exact Nat.eq_of_mul_eq_mul_right (Nat.two_pow_pos _) hv2
  obtain ⟨c', q', f1, f2⟩ := round_exact good_b64 (decide (a.toInt < 0)) (c := a.toInt.natAbs) (q := -10) hA (by decide) (by decide)
  exact ⟨c', q', by rw [v2, v3, v4]; exact f1, f2⟩
theorem own_zv (a : Int32) : zval b64 (val64 (FP.ddiv (FP.i2d a) 4652218415073722368)) = a.toInt * 2 ^ 1064 ∧ val64 (FP.ddiv (FP.i2d a) 4652218415073722368) ≠ .nan := by
  obtain ⟨c, q, h1, h2⟩ := own_div a
  rw [h1]
  refine ⟨?_, nofun⟩
  show signed (decide (a.toInt < 0)) (inUnits c q b64.qmin) = _
  rw [h2]
  unfold inUnits signed
  rw [own_qm, show (-10 - -1074 : Int).toNat = 1064 by decide]
  by_cases h : a.toInt < 0
  · rw [if_pos (decide_eq_true h)]
    have : (a.toInt.natAbs : Int) = -a.toInt := by omega
    rw [Int.natCast_mul, this, Int.natCast_pow]
    simp [Int.neg_mul]
  · rw [if_neg (by simpa using h)]
    have : (a.toInt.natAbs : Int) = a.toInt := by omega
    rw [Int.natCast_mul, this, Int.natCast_pow]
    rfl
theorem own_cmp (a : Int32) {K : UInt64} {n : Int} (hK : zval b64 (val64 K) = n * 2 ^ 1064 ∧ val64 K ≠ .nan) : FP.dcmp (FP.ddiv (FP.i2d a) 4652218415073722368) K = some (compare a.toInt n) := by
  have h := order_zval good_b64 (val64_fits (FP.ddiv (FP.i2d a) 4652218415073722368)) (val64_fits K) (own_zv a).2 hK.2
  rw [(own_zv a).1, hK.1] at h
  have p : (0 : Int) < 2 ^ 1064 := by decide +kernel
  rw [compare_congr (a' := a.toInt) (b' := n) (Int.mul_lt_mul_right p) ⟨fun q => Int.eq_of_mul_eq_mul_right (Int.ne_of_gt p) q, fun q => by rw [q]⟩] at h
  exact h
theorem own_cl (a : Int32) {K : UInt64} {n : Int} (hK : zval b64 (val64 K) = n * 2 ^ 1064 ∧ val64 K ≠ .nan) : cmpValue (FP.dcmp (FP.ddiv (FP.i2d a) 4652218415073722368) K) .l < 0 ↔ a.toInt < n := by
  rw [own_cmp a hK]
  simp only [compare, compareOfLessAndEq]
  by_cases h : a.toInt < n
  · rw [if_pos h]; exact ⟨fun _ => h, fun _ => by decide⟩
  · rw [if_neg h]
    by_cases h2 : a.toInt = n
    · rw [if_pos h2]; exact ⟨fun q => absurd q (by decide), fun q => absurd q h⟩
    · rw [if_neg h2]; exact ⟨fun q => absurd q (by decide), fun q => absurd q h⟩
theorem own_cg (a : Int32) {K : UInt64} {n : Int} (hK : zval b64 (val64 K) = n * 2 ^ 1064 ∧ val64 K ≠ .nan) : 0 < cmpValue (FP.dcmp (FP.ddiv (FP.i2d a) 4652218415073722368) K) .g ↔ n < a.toInt := by
  rw [own_cmp a hK]
  simp only [compare, compareOfLessAndEq]
  by_cases h : a.toInt < n
  · rw [if_pos h]; exact ⟨fun q => absurd q (by decide), fun q => by omega⟩
  · rw [if_neg h]
    by_cases h2 : a.toInt = n
    · rw [if_pos h2]; exact ⟨fun q => absurd q (by decide), fun q => by omega⟩
    · rw [if_neg h2]; exact ⟨fun _ => by omega, fun _ => by decide⟩
theorem own_no (a : Int32) : Jvm.Free.Fl.NoNaN64 (FP.ddiv (FP.i2d a) 4652218415073722368) := Jvm.Free.Fl.val64_no.mpr (own_zv a).2
end own_floats
def own_e (a b : Int32) : Int32 := if ((-92160 ≤ a.toInt ∧ a.toInt ≤ 92160) ∧ (-184320 ≤ b.toInt ∧ b.toInt ≤ 184320)) then 1 else 0
theorem own_lI (a : Int32) {k : Int32} {n : Int} (h : k.toInt = n) : a < k ↔ a.toInt < n := by rw [Int32.lt_iff_toInt_lt, h]
theorem own_gI' (a : Int32) {k : Int32} {n : Int} (h : k.toInt = n) : k < a ↔ n < a.toInt := by rw [Int32.lt_iff_toInt_lt, h]
theorem own_eT {a b : Int32} (h1 : ¬ a.toInt < -92160) (h2 : ¬ 92160 < a.toInt) (h3 : ¬ b.toInt < -184320) (h4 : ¬ 184320 < b.toInt) : own_e a b = 1 := if_pos ⟨⟨by omega, by omega⟩, by omega, by omega⟩
theorem own_e1 {a b : Int32} (h : a.toInt < -92160) : own_e a b = 0 := if_neg (fun q => by omega)
theorem own_e2 {a b : Int32} (h : 92160 < a.toInt) : own_e a b = 0 := if_neg (fun q => by omega)
theorem own_e3 {a b : Int32} (h : b.toInt < -184320) : own_e a b = 0 := if_neg (fun q => by omega)
theorem own_e4 {a b : Int32} (h : 184320 < b.toInt) : own_e a b = 0 := if_neg (fun q => by omega)
theorem d1_0 : decode prog_61_method_2_code 0 = .ok (.dload_n 0, 1) := by decide +kernel
theorem d1_1 : decode prog_61_method_2_code 1 = .ok (.ldc2_w 20, 3) := by decide +kernel
theorem d1_4 : decode prog_61_method_2_code 4 = .ok (.dcmp .l, 1) := by decide +kernel
theorem d1_5 : decode prog_61_method_2_code 5 = .ok (.ifCond .lt 31, 3) := by decide +kernel
theorem d1_8 : decode prog_61_method_2_code 8 = .ok (.dload_n 0, 1) := by decide +kernel
theorem d1_9 : decode prog_61_method_2_code 9 = .ok (.ldc2_w 22, 3) := by decide +kernel
theorem d1_12 : decode prog_61_method_2_code 12 = .ok (.dcmp .g, 1) := by decide +kernel
theorem d1_13 : decode prog_61_method_2_code 13 = .ok (.ifCond .gt 23, 3) := by decide +kernel
theorem d1_16 : decode prog_61_method_2_code 16 = .ok (.dload_n 2, 1) := by decide +kernel
theorem d1_17 : decode prog_61_method_2_code 17 = .ok (.ldc2_w 24, 3) := by decide +kernel
theorem d1_20 : decode prog_61_method_2_code 20 = .ok (.dcmp .l, 1) := by decide +kernel
theorem d1_21 : decode prog_61_method_2_code 21 = .ok (.ifCond .lt 15, 3) := by decide +kernel
theorem d1_24 : decode prog_61_method_2_code 24 = .ok (.dload_n 2, 1) := by decide +kernel
theorem d1_25 : decode prog_61_method_2_code 25 = .ok (.ldc2_w 26, 3) := by decide +kernel
theorem d1_28 : decode prog_61_method_2_code 28 = .ok (.dcmp .g, 1) := by decide +kernel
theorem d1_29 : decode prog_61_method_2_code 29 = .ok (.ifCond .gt 7, 3) := by decide +kernel
theorem d1_32 : decode prog_61_method_2_code 32 = .ok (.iconst 1, 1) := by decide +kernel
theorem d1_33 : decode prog_61_method_2_code 33 = .ok (.goto 4, 3) := by decide +kernel
theorem d1_36 : decode prog_61_method_2_code 36 = .ok (.iconst 0, 1) := by decide +kernel
theorem d1_37 : decode prog_61_method_2_code 37 = .ok (.ireturn, 1) := by decide +kernel
theorem pn1 : plainName "com/example/altigate/altigate/report/Position" = true := by first | (simp [plainName, overriddenIn]; done) | decide +kernel
theorem ef1 (m : MethodId) (x0 : UInt64) (x1 : UInt64) : entryFrame m #[(.double x0), (.double x1)] 4 = mkF m 0 #[.val (.double x0), .second, .val (.double x1), .second] [] := by first | (simp [entryFrame, mkF, argsToLocals, Value.category]; done) | rfl
def Q1 (Z : State) (p1 : Int32) (p2 : Int32) (h0 : Heap) (n0 : Nat) (v : Option Value) (h : Heap) (L : List Loc) : Prop := v = some (.int (own_e p1 p2)) ∧ Fr n0 L ∧ h = h0
set_option maxRecDepth 65536 in
set_option maxHeartbeats 40000000 in
theorem rm1 (l : Launch) (Z : State) (a0 : Array Value) (hw : ∀ d ∈ tables_1, d.before a0 Z = true) (ws : List Jvm.Cond) (p1 : Int32) (p2 : Int32) (h0 : Heap) (n0 : Nat) (Z0 : n0 ≤ h0.size) :
    MetFree l (⟨"com/example/altigate/altigate/report/Position", "onEarth", "(DD)Z"⟩ : MethodName) (head1 (Jvm.Cond.code (⟨"com/example/altigate/altigate/report/Position", "onEarth", "(DD)Z"⟩ : MethodName) prog_61_method_2_code 4 (some .boolean) :: ws) ({ frames := 0, cells := 0, slots := 0, locals := 0 } : Room)) (fun a U => a = #[(.double (FP.ddiv (FP.i2d p1) (4652218415073722368 : UInt64))), (.double (FP.ddiv (FP.i2d p2) (4652218415073722368 : UInt64)))] ∧ Z.Warmed39 U.vm ∧ U.heap = h0) (fun _ _ _ _ _ => True) (fun _ U o U' => ∃ v L, o = .returned v ∧ Q1 Z p1 p2 h0 n0 v U'.heap L ∧ FrameEnd U o U' L ({ frames := 0, cells := 0, slots := 0, locals := 0 } : Room).cells ({ frames := 0, cells := 0, slots := 0, locals := 0 } : Room).slots) := by
  refine MetFree.of_bodySF (plainFor_of_name pn1) hisR ?_
  intro p e s m args below meth c s₁ Bd hml0 hP hK
  obtain ⟨rfl, hZ, hh⟩ := hP
  have hx := Bd.exec
  have hby := Bd.bytes
  have hml : c.maxLocals = 4 := hml0
  have hown : s.vm.findClass "com/example/altigate/altigate/report/Position" = some m.cls := findClass_of_methodNamed Bd.named
  have hnm := (name_of_methodNamed Bd.named Bd.method).1
  have X0 : Stand p l e ({ frames := 0, cells := 0, slots := 0, locals := 0 } : Room) s m #[(.double (FP.ddiv (FP.i2d p1) (4652218415073722368 : UInt64))), (.double (FP.ddiv (FP.i2d p2) (4652218415073722368 : UInt64)))] below meth c s₁ [] 0 0 := Stand.of_body Bd
  have e0 : s₁.heap = h0 := by rw [← hh, Bd.state]; rfl
  have N0 := Fr.nil n0
  refine (show own_G p.tables e below (own_P s (Q1 Z p1 p2 h0 n0) 0 0) (s₁.setTop (entryFrame m #[(.double (FP.ddiv (FP.i2d p1) (4652218415073722368 : UInt64))), (.double (FP.ddiv (FP.i2d p2) (4652218415073722368 : UInt64)))] 4)) from ?_)
  refine own_via (fun t k => castTop (ef1 m (FP.ddiv (FP.i2d p1) (4652218415073722368 : UInt64)) (FP.ddiv (FP.i2d p2) (4652218415073722368 : UInt64))) k) ?_
  show own_G p.tables e below _ (s₁.setTop (mkF m 0 #[.val (.double (FP.ddiv (FP.i2d p1) (4652218415073722368 : UInt64))), .second, .val (.double (FP.ddiv (FP.i2d p2) (4652218415073722368 : UInt64))), .second] []))
  refine own_via (S' := s₁.setTop (mkF m 5 #[.val (.double (FP.ddiv (FP.i2d p1) (4652218415073722368 : UInt64))), .second, .val (.double (FP.ddiv (FP.i2d p2) (4652218415073722368 : UInt64))), .second] [(.int (cmpValue (FP.dcmp (FP.ddiv (FP.i2d p1) (4652218415073722368 : UInt64)) (13859405640767635456 : UInt64)) .l))])) (fun t k => ?_) ?_
  · show Steps p.tables e below (s₁.setTop (mkF m 0 #[.val (.double (FP.ddiv (FP.i2d p1) (4652218415073722368 : UInt64))), .second, .val (.double (FP.ddiv (FP.i2d p2) (4652218415073722368 : UInt64))), .second] [])) t
    refine XS.dloadN X0.here hx rfl (hb hby d1_0) rfl ?_
    show Steps p.tables e below (s₁.setTop (mkF m 1 #[.val (.double (FP.ddiv (FP.i2d p1) (4652218415073722368 : UInt64))), .second, .val (.double (FP.ddiv (FP.i2d p2) (4652218415073722368 : UInt64))), .second] [(.double (FP.ddiv (FP.i2d p1) (4652218415073722368 : UInt64)))])) t
    refine X0.ldc2DoubleC hx hown (mvT hZ (hw _ (List.mem_of_getElem? (i := 9) rfl))) (g := (mkF m 1 #[.val (.double (FP.ddiv (FP.i2d p1) (4652218415073722368 : UInt64))), .second, .val (.double (FP.ddiv (FP.i2d p2) (4652218415073722368 : UInt64))), .second] [(.double (FP.ddiv (FP.i2d p1) (4652218415073722368 : UInt64)))])) rfl (hb hby d1_1) _ ?_
    show Steps p.tables e below (s₁.setTop (mkF m 4 #[.val (.double (FP.ddiv (FP.i2d p1) (4652218415073722368 : UInt64))), .second, .val (.double (FP.ddiv (FP.i2d p2) (4652218415073722368 : UInt64))), .second] [(.double (13859405640767635456 : UInt64)), (.double (FP.ddiv (FP.i2d p1) (4652218415073722368 : UInt64)))])) t
    refine XS.dcmpS X0.here hx rfl (hb hby d1_4) rfl rfl ?_
    exact k
  by_cases hc5_1 : (cmpValue (FP.dcmp (FP.ddiv (FP.i2d p1) (4652218415073722368 : UInt64)) (13859405640767635456 : UInt64)) .l) < (0 : Int32)
  · refine own_via (S' := s₁.setTop (mkF m 36 #[.val (.double (FP.ddiv (FP.i2d p1) (4652218415073722368 : UInt64))), .second, .val (.double (FP.ddiv (FP.i2d p2) (4652218415073722368 : UInt64))), .second] [])) (fun t k => XS.ifYes (g := (mkF m 5 #[.val (.double (FP.ddiv (FP.i2d p1) (4652218415073722368 : UInt64))), .second, .val (.double (FP.ddiv (FP.i2d p2) (4652218415073722368 : UInt64))), .second] [(.int (cmpValue (FP.dcmp (FP.ddiv (FP.i2d p1) (4652218415073722368 : UInt64)) (13859405640767635456 : UInt64)) .l))])) X0.here hx rfl (pc0 := 5) (pc' := 36) rfl (hb hby d1_5) rfl ((if0 _ _).trans (tlt hc5_1).1) (by decide) (by decide) k) ?_
    refine own_via (S' := s₁.setTop (mkF m 37 #[.val (.double (FP.ddiv (FP.i2d p1) (4652218415073722368 : UInt64))), .second, .val (.double (FP.ddiv (FP.i2d p2) (4652218415073722368 : UInt64))), .second] [(.int (0 : Int32))])) (fun t k => ?_) ?_
    · show Steps p.tables e below (s₁.setTop (mkF m 36 #[.val (.double (FP.ddiv (FP.i2d p1) (4652218415073722368 : UInt64))), .second, .val (.double (FP.ddiv (FP.i2d p2) (4652218415073722368 : UInt64))), .second] [])) t
      refine XS.iconst X0.here hx rfl (hb hby d1_36) ?_
      exact k
    exact own_end (h := h0) X0 (v := some (.int (0 : Int32))) Bd.notSynchronized (fun h => by rw [Bd.returns] at h; cases h) (fun fs hr => retN X0 hx (t := .boolean) Bd.returns (by simp) (hb hby d1_37) hr) e0 ⟨congrArg (fun q => some (Value.int q)) (own_e1 ((own_cl p1 own_K1).mp hc5_1)).symm, N0, rfl⟩ (by decide) (by decide)
  · refine own_via (S' := s₁.setTop (mkF m 8 #[.val (.double (FP.ddiv (FP.i2d p1) (4652218415073722368 : UInt64))), .second, .val (.double (FP.ddiv (FP.i2d p2) (4652218415073722368 : UInt64))), .second] [])) (fun t k => XS.ifNo (g := (mkF m 5 #[.val (.double (FP.ddiv (FP.i2d p1) (4652218415073722368 : UInt64))), .second, .val (.double (FP.ddiv (FP.i2d p2) (4652218415073722368 : UInt64))), .second] [(.int (cmpValue (FP.dcmp (FP.ddiv (FP.i2d p1) (4652218415073722368 : UInt64)) (13859405640767635456 : UInt64)) .l))])) X0.here hx rfl (hb hby d1_5) rfl ((if0 _ _).trans (flt hc5_1).1) k) ?_
    refine own_via (S' := s₁.setTop (mkF m 13 #[.val (.double (FP.ddiv (FP.i2d p1) (4652218415073722368 : UInt64))), .second, .val (.double (FP.ddiv (FP.i2d p2) (4652218415073722368 : UInt64))), .second] [(.int (cmpValue (FP.dcmp (FP.ddiv (FP.i2d p1) (4652218415073722368 : UInt64)) (4636033603912859648 : UInt64)) .g))])) (fun t k => ?_) ?_
    · show Steps p.tables e below (s₁.setTop (mkF m 8 #[.val (.double (FP.ddiv (FP.i2d p1) (4652218415073722368 : UInt64))), .second, .val (.double (FP.ddiv (FP.i2d p2) (4652218415073722368 : UInt64))), .second] [])) t
      refine XS.dloadN X0.here hx rfl (hb hby d1_8) rfl ?_
      show Steps p.tables e below (s₁.setTop (mkF m 9 #[.val (.double (FP.ddiv (FP.i2d p1) (4652218415073722368 : UInt64))), .second, .val (.double (FP.ddiv (FP.i2d p2) (4652218415073722368 : UInt64))), .second] [(.double (FP.ddiv (FP.i2d p1) (4652218415073722368 : UInt64)))])) t
      refine X0.ldc2DoubleC hx hown (mvT hZ (hw _ (List.mem_of_getElem? (i := 10) rfl))) (g := (mkF m 9 #[.val (.double (FP.ddiv (FP.i2d p1) (4652218415073722368 : UInt64))), .second, .val (.double (FP.ddiv (FP.i2d p2) (4652218415073722368 : UInt64))), .second] [(.double (FP.ddiv (FP.i2d p1) (4652218415073722368 : UInt64)))])) rfl (hb hby d1_9) _ ?_
      show Steps p.tables e below (s₁.setTop (mkF m 12 #[.val (.double (FP.ddiv (FP.i2d p1) (4652218415073722368 : UInt64))), .second, .val (.double (FP.ddiv (FP.i2d p2) (4652218415073722368 : UInt64))), .second] [(.double (4636033603912859648 : UInt64)), (.double (FP.ddiv (FP.i2d p1) (4652218415073722368 : UInt64)))])) t
      refine XS.dcmpS X0.here hx rfl (hb hby d1_12) rfl rfl ?_
      exact k
    by_cases hc13_2 : (0 : Int32) < (cmpValue (FP.dcmp (FP.ddiv (FP.i2d p1) (4652218415073722368 : UInt64)) (4636033603912859648 : UInt64)) .g)
    · refine own_via (S' := s₁.setTop (mkF m 36 #[.val (.double (FP.ddiv (FP.i2d p1) (4652218415073722368 : UInt64))), .second, .val (.double (FP.ddiv (FP.i2d p2) (4652218415073722368 : UInt64))), .second] [])) (fun t k => XS.ifYes (g := (mkF m 13 #[.val (.double (FP.ddiv (FP.i2d p1) (4652218415073722368 : UInt64))), .second, .val (.double (FP.ddiv (FP.i2d p2) (4652218415073722368 : UInt64))), .second] [(.int (cmpValue (FP.dcmp (FP.ddiv (FP.i2d p1) (4652218415073722368 : UInt64)) (4636033603912859648 : UInt64)) .g))])) X0.here hx rfl (pc0 := 13) (pc' := 36) rfl (hb hby d1_13) rfl ((if0 _ _).trans (tlt hc13_2).2.2.1) (by decide) (by decide) k) ?_
      refine own_via (S' := s₁.setTop (mkF m 37 #[.val (.double (FP.ddiv (FP.i2d p1) (4652218415073722368 : UInt64))), .second, .val (.double (FP.ddiv (FP.i2d p2) (4652218415073722368 : UInt64))), .second] [(.int (0 : Int32))])) (fun t k => ?_) ?_
      · show Steps p.tables e below (s₁.setTop (mkF m 36 #[.val (.double (FP.ddiv (FP.i2d p1) (4652218415073722368 : UInt64))), .second, .val (.double (FP.ddiv (FP.i2d p2) (4652218415073722368 : UInt64))), .second] [])) t
        refine XS.iconst X0.here hx rfl (hb hby d1_36) ?_
        exact k
      exact own_end (h := h0) X0 (v := some (.int (0 : Int32))) Bd.notSynchronized (fun h => by rw [Bd.returns] at h; cases h) (fun fs hr => retN X0 hx (t := .boolean) Bd.returns (by simp) (hb hby d1_37) hr) e0 ⟨congrArg (fun q => some (Value.int q)) (own_e2 ((own_cg p1 own_K2).mp hc13_2)).symm, N0, rfl⟩ (by decide) (by decide)
    · refine own_via (S' := s₁.setTop (mkF m 16 #[.val (.double (FP.ddiv (FP.i2d p1) (4652218415073722368 : UInt64))), .second, .val (.double (FP.ddiv (FP.i2d p2) (4652218415073722368 : UInt64))), .second] [])) (fun t k => XS.ifNo (g := (mkF m 13 #[.val (.double (FP.ddiv (FP.i2d p1) (4652218415073722368 : UInt64))), .second, .val (.double (FP.ddiv (FP.i2d p2) (4652218415073722368 : UInt64))), .second] [(.int (cmpValue (FP.dcmp (FP.ddiv (FP.i2d p1) (4652218415073722368 : UInt64)) (4636033603912859648 : UInt64)) .g))])) X0.here hx rfl (hb hby d1_13) rfl ((if0 _ _).trans (flt hc13_2).2.2.1) k) ?_
      refine own_via (S' := s₁.setTop (mkF m 21 #[.val (.double (FP.ddiv (FP.i2d p1) (4652218415073722368 : UInt64))), .second, .val (.double (FP.ddiv (FP.i2d p2) (4652218415073722368 : UInt64))), .second] [(.int (cmpValue (FP.dcmp (FP.ddiv (FP.i2d p2) (4652218415073722368 : UInt64)) (13863909240395005952 : UInt64)) .l))])) (fun t k => ?_) ?_
      · show Steps p.tables e below (s₁.setTop (mkF m 16 #[.val (.double (FP.ddiv (FP.i2d p1) (4652218415073722368 : UInt64))), .second, .val (.double (FP.ddiv (FP.i2d p2) (4652218415073722368 : UInt64))), .second] [])) t
        refine XS.dloadN X0.here hx rfl (hb hby d1_16) rfl ?_
        show Steps p.tables e below (s₁.setTop (mkF m 17 #[.val (.double (FP.ddiv (FP.i2d p1) (4652218415073722368 : UInt64))), .second, .val (.double (FP.ddiv (FP.i2d p2) (4652218415073722368 : UInt64))), .second] [(.double (FP.ddiv (FP.i2d p2) (4652218415073722368 : UInt64)))])) t
        refine X0.ldc2DoubleC hx hown (mvT hZ (hw _ (List.mem_of_getElem? (i := 11) rfl))) (g := (mkF m 17 #[.val (.double (FP.ddiv (FP.i2d p1) (4652218415073722368 : UInt64))), .second, .val (.double (FP.ddiv (FP.i2d p2) (4652218415073722368 : UInt64))), .second] [(.double (FP.ddiv (FP.i2d p2) (4652218415073722368 : UInt64)))])) rfl (hb hby d1_17) _ ?_
        show Steps p.tables e below (s₁.setTop (mkF m 20 #[.val (.double (FP.ddiv (FP.i2d p1) (4652218415073722368 : UInt64))), .second, .val (.double (FP.ddiv (FP.i2d p2) (4652218415073722368 : UInt64))), .second] [(.double (13863909240395005952 : UInt64)), (.double (FP.ddiv (FP.i2d p2) (4652218415073722368 : UInt64)))])) t
        refine XS.dcmpS X0.here hx rfl (hb hby d1_20) rfl rfl ?_
        exact k
      by_cases hc21_3 : (cmpValue (FP.dcmp (FP.ddiv (FP.i2d p2) (4652218415073722368 : UInt64)) (13863909240395005952 : UInt64)) .l) < (0 : Int32)
      · refine own_via (S' := s₁.setTop (mkF m 36 #[.val (.double (FP.ddiv (FP.i2d p1) (4652218415073722368 : UInt64))), .second, .val (.double (FP.ddiv (FP.i2d p2) (4652218415073722368 : UInt64))), .second] [])) (fun t k => XS.ifYes (g := (mkF m 21 #[.val (.double (FP.ddiv (FP.i2d p1) (4652218415073722368 : UInt64))), .second, .val (.double (FP.ddiv (FP.i2d p2) (4652218415073722368 : UInt64))), .second] [(.int (cmpValue (FP.dcmp (FP.ddiv (FP.i2d p2) (4652218415073722368 : UInt64)) (13863909240395005952 : UInt64)) .l))])) X0.here hx rfl (pc0 := 21) (pc' := 36) rfl (hb hby d1_21) rfl ((if0 _ _).trans (tlt hc21_3).1) (by decide) (by decide) k) ?_
        refine own_via (S' := s₁.setTop (mkF m 37 #[.val (.double (FP.ddiv (FP.i2d p1) (4652218415073722368 : UInt64))), .second, .val (.double (FP.ddiv (FP.i2d p2) (4652218415073722368 : UInt64))), .second] [(.int (0 : Int32))])) (fun t k => ?_) ?_
        · show Steps p.tables e below (s₁.setTop (mkF m 36 #[.val (.double (FP.ddiv (FP.i2d p1) (4652218415073722368 : UInt64))), .second, .val (.double (FP.ddiv (FP.i2d p2) (4652218415073722368 : UInt64))), .second] [])) t
          refine XS.iconst X0.here hx rfl (hb hby d1_36) ?_
          exact k
        exact own_end (h := h0) X0 (v := some (.int (0 : Int32))) Bd.notSynchronized (fun h => by rw [Bd.returns] at h; cases h) (fun fs hr => retN X0 hx (t := .boolean) Bd.returns (by simp) (hb hby d1_37) hr) e0 ⟨congrArg (fun q => some (Value.int q)) (own_e3 ((own_cl p2 own_K3).mp hc21_3)).symm, N0, rfl⟩ (by decide) (by decide)
      · refine own_via (S' := s₁.setTop (mkF m 24 #[.val (.double (FP.ddiv (FP.i2d p1) (4652218415073722368 : UInt64))), .second, .val (.double (FP.ddiv (FP.i2d p2) (4652218415073722368 : UInt64))), .second] [])) (fun t k => XS.ifNo (g := (mkF m 21 #[.val (.double (FP.ddiv (FP.i2d p1) (4652218415073722368 : UInt64))), .second, .val (.double (FP.ddiv (FP.i2d p2) (4652218415073722368 : UInt64))), .second] [(.int (cmpValue (FP.dcmp (FP.ddiv (FP.i2d p2) (4652218415073722368 : UInt64)) (13863909240395005952 : UInt64)) .l))])) X0.here hx rfl (hb hby d1_21) rfl ((if0 _ _).trans (flt hc21_3).1) k) ?_
        refine own_via (S' := s₁.setTop (mkF m 29 #[.val (.double (FP.ddiv (FP.i2d p1) (4652218415073722368 : UInt64))), .second, .val (.double (FP.ddiv (FP.i2d p2) (4652218415073722368 : UInt64))), .second] [(.int (cmpValue (FP.dcmp (FP.ddiv (FP.i2d p2) (4652218415073722368 : UInt64)) (4640537203540230144 : UInt64)) .g))])) (fun t k => ?_) ?_
        · show Steps p.tables e below (s₁.setTop (mkF m 24 #[.val (.double (FP.ddiv (FP.i2d p1) (4652218415073722368 : UInt64))), .second, .val (.double (FP.ddiv (FP.i2d p2) (4652218415073722368 : UInt64))), .second] [])) t
          refine XS.dloadN X0.here hx rfl (hb hby d1_24) rfl ?_
          show Steps p.tables e below (s₁.setTop (mkF m 25 #[.val (.double (FP.ddiv (FP.i2d p1) (4652218415073722368 : UInt64))), .second, .val (.double (FP.ddiv (FP.i2d p2) (4652218415073722368 : UInt64))), .second] [(.double (FP.ddiv (FP.i2d p2) (4652218415073722368 : UInt64)))])) t
          refine X0.ldc2DoubleC hx hown (mvT hZ (hw _ (List.mem_of_getElem? (i := 12) rfl))) (g := (mkF m 25 #[.val (.double (FP.ddiv (FP.i2d p1) (4652218415073722368 : UInt64))), .second, .val (.double (FP.ddiv (FP.i2d p2) (4652218415073722368 : UInt64))), .second] [(.double (FP.ddiv (FP.i2d p2) (4652218415073722368 : UInt64)))])) rfl (hb hby d1_25) _ ?_
          show Steps p.tables e below (s₁.setTop (mkF m 28 #[.val (.double (FP.ddiv (FP.i2d p1) (4652218415073722368 : UInt64))), .second, .val (.double (FP.ddiv (FP.i2d p2) (4652218415073722368 : UInt64))), .second] [(.double (4640537203540230144 : UInt64)), (.double (FP.ddiv (FP.i2d p2) (4652218415073722368 : UInt64)))])) t
          refine XS.dcmpS X0.here hx rfl (hb hby d1_28) rfl rfl ?_
          exact k
        by_cases hc29_4 : (0 : Int32) < (cmpValue (FP.dcmp (FP.ddiv (FP.i2d p2) (4652218415073722368 : UInt64)) (4640537203540230144 : UInt64)) .g)
        · refine own_via (S' := s₁.setTop (mkF m 36 #[.val (.double (FP.ddiv (FP.i2d p1) (4652218415073722368 : UInt64))), .second, .val (.double (FP.ddiv (FP.i2d p2) (4652218415073722368 : UInt64))), .second] [])) (fun t k => XS.ifYes (g := (mkF m 29 #[.val (.double (FP.ddiv (FP.i2d p1) (4652218415073722368 : UInt64))), .second, .val (.double (FP.ddiv (FP.i2d p2) (4652218415073722368 : UInt64))), .second] [(.int (cmpValue (FP.dcmp (FP.ddiv (FP.i2d p2) (4652218415073722368 : UInt64)) (4640537203540230144 : UInt64)) .g))])) X0.here hx rfl (pc0 := 29) (pc' := 36) rfl (hb hby d1_29) rfl ((if0 _ _).trans (tlt hc29_4).2.2.1) (by decide) (by decide) k) ?_
          refine own_via (S' := s₁.setTop (mkF m 37 #[.val (.double (FP.ddiv (FP.i2d p1) (4652218415073722368 : UInt64))), .second, .val (.double (FP.ddiv (FP.i2d p2) (4652218415073722368 : UInt64))), .second] [(.int (0 : Int32))])) (fun t k => ?_) ?_
          · show Steps p.tables e below (s₁.setTop (mkF m 36 #[.val (.double (FP.ddiv (FP.i2d p1) (4652218415073722368 : UInt64))), .second, .val (.double (FP.ddiv (FP.i2d p2) (4652218415073722368 : UInt64))), .second] [])) t
            refine XS.iconst X0.here hx rfl (hb hby d1_36) ?_
            exact k
          exact own_end (h := h0) X0 (v := some (.int (0 : Int32))) Bd.notSynchronized (fun h => by rw [Bd.returns] at h; cases h) (fun fs hr => retN X0 hx (t := .boolean) Bd.returns (by simp) (hb hby d1_37) hr) e0 ⟨congrArg (fun q => some (Value.int q)) (own_e4 ((own_cg p2 own_K4).mp hc29_4)).symm, N0, rfl⟩ (by decide) (by decide)
        · refine own_via (S' := s₁.setTop (mkF m 32 #[.val (.double (FP.ddiv (FP.i2d p1) (4652218415073722368 : UInt64))), .second, .val (.double (FP.ddiv (FP.i2d p2) (4652218415073722368 : UInt64))), .second] [])) (fun t k => XS.ifNo (g := (mkF m 29 #[.val (.double (FP.ddiv (FP.i2d p1) (4652218415073722368 : UInt64))), .second, .val (.double (FP.ddiv (FP.i2d p2) (4652218415073722368 : UInt64))), .second] [(.int (cmpValue (FP.dcmp (FP.ddiv (FP.i2d p2) (4652218415073722368 : UInt64)) (4640537203540230144 : UInt64)) .g))])) X0.here hx rfl (hb hby d1_29) rfl ((if0 _ _).trans (flt hc29_4).2.2.1) k) ?_
          refine own_via (S' := s₁.setTop (mkF m 37 #[.val (.double (FP.ddiv (FP.i2d p1) (4652218415073722368 : UInt64))), .second, .val (.double (FP.ddiv (FP.i2d p2) (4652218415073722368 : UInt64))), .second] [(.int (1 : Int32))])) (fun t k => ?_) ?_
          · show Steps p.tables e below (s₁.setTop (mkF m 32 #[.val (.double (FP.ddiv (FP.i2d p1) (4652218415073722368 : UInt64))), .second, .val (.double (FP.ddiv (FP.i2d p2) (4652218415073722368 : UInt64))), .second] [])) t
            refine XS.iconst X0.here hx rfl (hb hby d1_32) ?_
            show Steps p.tables e below (s₁.setTop (mkF m 33 #[.val (.double (FP.ddiv (FP.i2d p1) (4652218415073722368 : UInt64))), .second, .val (.double (FP.ddiv (FP.i2d p2) (4652218415073722368 : UInt64))), .second] [(.int (1 : Int32))])) t
            refine XS.goto X0.here hx rfl (pc0 := 33) (pc' := 37) rfl (hb hby d1_33) (by decide) (by decide) ?_
            exact k
          exact own_end (h := h0) X0 (v := some (.int (1 : Int32))) Bd.notSynchronized (fun h => by rw [Bd.returns] at h; cases h) (fun fs hr => retN X0 hx (t := .boolean) Bd.returns (by simp) (hb hby d1_37) hr) e0 ⟨congrArg (fun q => some (Value.int q)) (own_eT (fun q => hc5_1 ((own_cl p1 own_K1).mpr q)) (fun q => hc13_2 ((own_cg p1 own_K2).mpr q)) (fun q => hc21_3 ((own_cl p2 own_K3).mpr q)) (fun q => hc29_4 ((own_cg p2 own_K4).mpr q))).symm, N0, rfl⟩ (by decide) (by decide)
theorem pn0 : plainName "com/example/altigate/altigate/report/PositionOnEarthPinLaw" = true := by first | (simp [plainName, overriddenIn]; done) | decide +kernel
theorem pd_0 : parseMethodDescriptor "(DD)Z" = some ⟨[.double, .double], some .boolean⟩ := by decide +kernel
theorem ef0 (m : MethodId) (x0 : Int32) (x1 : Int32) : entryFrame m #[(.int x0), (.int x1)] maxLocals = mkF m 0 #[.val (.int x0), .val (.int x1), .unset, .unset, .unset, .unset, .unset, .unset, .unset] [] := by first | (simp [entryFrame, mkF, argsToLocals, Value.category, maxLocals]; done) | rfl
def Q0 (Z : State) (p1 : Int32) (p2 : Int32) (h0 : Heap) (n0 : Nat) (v : Option Value) (h : Heap) (L : List Loc) : Prop := v = some (.int 1) ∧ Fr n0 L
set_option maxRecDepth 65536 in
set_option maxHeartbeats 40000000 in
theorem rm0 (l : Launch) (Z : State) (a0 : Array Value) (hw : ∀ d ∈ tables_1, d.before a0 Z = true) (ws : List Jvm.Cond) (p1 : Int32) (p2 : Int32) (h0 : Heap) (n0 : Nat) (Z0 : n0 ≤ h0.size) :
    MetFree l x (head1 (Jvm.Cond.code x code maxLocals ret :: ws) room_1) (fun a U => a = #[(.int p1), (.int p2)] ∧ Z.Warmed39 U.vm ∧ U.heap = h0) (fun _ _ _ _ _ => True) (fun _ U o U' => ∃ v L, o = .returned v ∧ Q0 Z p1 p2 h0 n0 v U'.heap L ∧ FrameEnd U o U' L 0 0) := by
  refine MetFree.of_bodySF (plainFor_of_name pn0) hisR ?_
  intro p e s m args below meth c s₁ Bd hml0 hP hK
  obtain ⟨rfl, hZ, hh⟩ := hP
  have hx := Bd.exec
  have hby := Bd.bytes
  have hml : c.maxLocals = 9 := hml0
  have hown : s.vm.findClass "com/example/altigate/altigate/report/PositionOnEarthPinLaw" = some m.cls := findClass_of_methodNamed Bd.named
  have hnm := (name_of_methodNamed Bd.named Bd.method).1
  have X0 : Stand p l e room_1 s m #[(.int p1), (.int p2)] below meth c s₁ [] 0 0 := Stand.of_body Bd
  have e0 : s₁.heap = h0 := by rw [← hh, Bd.state]; rfl
  have N0 := Fr.nil n0
  refine (show own_G p.tables e below (own_P s (Q0 Z p1 p2 h0 n0) 0 0) (s₁.setTop (entryFrame m #[(.int p1), (.int p2)] maxLocals)) from ?_)
  refine own_via (fun t k => castTop (ef0 m p1 p2) k) ?_
  show own_G p.tables e below _ (s₁.setTop (mkF m 0 #[.val (.int p1), .val (.int p2), .unset, .unset, .unset, .unset, .unset, .unset, .unset] []))
  refine own_via (S' := s₁.setTop (mkF m 18 #[.val (.int p1), .val (.int p2), .val (.double (FP.ddiv (FP.i2d p1) (4652218415073722368 : UInt64))), .second, .val (.double (FP.ddiv (FP.i2d p2) (4652218415073722368 : UInt64))), .second, .unset, .unset, .unset] [(.int (-92160 : Int32)), (.int p1)])) (fun t k => ?_) ?_
  · show Steps p.tables e below (s₁.setTop (mkF m 0 #[.val (.int p1), .val (.int p2), .unset, .unset, .unset, .unset, .unset, .unset, .unset] [])) t
    refine XS.iloadN X0.here hx rfl (hb hby at_0) rfl ?_
    show Steps p.tables e below (s₁.setTop (mkF m 1 #[.val (.int p1), .val (.int p2), .unset, .unset, .unset, .unset, .unset, .unset, .unset] [(.int p1)])) t
    refine XS.i2dS X0.here hx rfl (hb hby at_1) rfl rfl ?_
    show Steps p.tables e below (s₁.setTop (mkF m 2 #[.val (.int p1), .val (.int p2), .unset, .unset, .unset, .unset, .unset, .unset, .unset] [(.double (FP.i2d p1))])) t
    refine X0.ldc2DoubleC hx hown (mvT hZ (hw _ (List.mem_of_getElem? (i := 0) rfl))) (g := (mkF m 2 #[.val (.int p1), .val (.int p2), .unset, .unset, .unset, .unset, .unset, .unset, .unset] [(.double (FP.i2d p1))])) rfl (hb hby at_2) _ ?_
    show Steps p.tables e below (s₁.setTop (mkF m 5 #[.val (.int p1), .val (.int p2), .unset, .unset, .unset, .unset, .unset, .unset, .unset] [(.double (4652218415073722368 : UInt64)), (.double (FP.i2d p1))])) t
    refine XS.ddivS X0.here hx rfl (hb hby at_5) rfl (own_no _) rfl ?_
    show Steps p.tables e below (s₁.setTop (mkF m 6 #[.val (.int p1), .val (.int p2), .unset, .unset, .unset, .unset, .unset, .unset, .unset] [(.double (FP.ddiv (FP.i2d p1) (4652218415073722368 : UInt64)))])) t
    refine XS.dstoreN X0.here hx rfl (hb hby at_6) rfl (l' := #[.val (.int p1), .val (.int p2), .val (.double (FP.ddiv (FP.i2d p1) (4652218415073722368 : UInt64))), .second, .unset, .unset, .unset, .unset, .unset]) rfl ?_
    show Steps p.tables e below (s₁.setTop (mkF m 7 #[.val (.int p1), .val (.int p2), .val (.double (FP.ddiv (FP.i2d p1) (4652218415073722368 : UInt64))), .second, .unset, .unset, .unset, .unset, .unset] [])) t
    refine XS.iloadN X0.here hx rfl (hb hby at_7) rfl ?_
    show Steps p.tables e below (s₁.setTop (mkF m 8 #[.val (.int p1), .val (.int p2), .val (.double (FP.ddiv (FP.i2d p1) (4652218415073722368 : UInt64))), .second, .unset, .unset, .unset, .unset, .unset] [(.int p2)])) t
    refine XS.i2dS X0.here hx rfl (hb hby at_8) rfl rfl ?_
    show Steps p.tables e below (s₁.setTop (mkF m 9 #[.val (.int p1), .val (.int p2), .val (.double (FP.ddiv (FP.i2d p1) (4652218415073722368 : UInt64))), .second, .unset, .unset, .unset, .unset, .unset] [(.double (FP.i2d p2))])) t
    refine X0.ldc2DoubleC hx hown (mvT hZ (hw _ (List.mem_of_getElem? (i := 0) rfl))) (g := (mkF m 9 #[.val (.int p1), .val (.int p2), .val (.double (FP.ddiv (FP.i2d p1) (4652218415073722368 : UInt64))), .second, .unset, .unset, .unset, .unset, .unset] [(.double (FP.i2d p2))])) rfl (hb hby at_9) _ ?_
    show Steps p.tables e below (s₁.setTop (mkF m 12 #[.val (.int p1), .val (.int p2), .val (.double (FP.ddiv (FP.i2d p1) (4652218415073722368 : UInt64))), .second, .unset, .unset, .unset, .unset, .unset] [(.double (4652218415073722368 : UInt64)), (.double (FP.i2d p2))])) t
    refine XS.ddivS X0.here hx rfl (hb hby at_12) rfl (own_no _) rfl ?_
    show Steps p.tables e below (s₁.setTop (mkF m 13 #[.val (.int p1), .val (.int p2), .val (.double (FP.ddiv (FP.i2d p1) (4652218415073722368 : UInt64))), .second, .unset, .unset, .unset, .unset, .unset] [(.double (FP.ddiv (FP.i2d p2) (4652218415073722368 : UInt64)))])) t
    refine XS.dstore X0.here hx rfl (hb hby at_13) rfl (l' := #[.val (.int p1), .val (.int p2), .val (.double (FP.ddiv (FP.i2d p1) (4652218415073722368 : UInt64))), .second, .val (.double (FP.ddiv (FP.i2d p2) (4652218415073722368 : UInt64))), .second, .unset, .unset, .unset]) rfl ?_
    show Steps p.tables e below (s₁.setTop (mkF m 15 #[.val (.int p1), .val (.int p2), .val (.double (FP.ddiv (FP.i2d p1) (4652218415073722368 : UInt64))), .second, .val (.double (FP.ddiv (FP.i2d p2) (4652218415073722368 : UInt64))), .second, .unset, .unset, .unset] [])) t
    refine XS.iloadN X0.here hx rfl (hb hby at_15) rfl ?_
    show Steps p.tables e below (s₁.setTop (mkF m 16 #[.val (.int p1), .val (.int p2), .val (.double (FP.ddiv (FP.i2d p1) (4652218415073722368 : UInt64))), .second, .val (.double (FP.ddiv (FP.i2d p2) (4652218415073722368 : UInt64))), .second, .unset, .unset, .unset] [(.int p1)])) t
    refine X0.ldcInt hx hown (mvT hZ (hw _ (List.mem_of_getElem? (i := 1) rfl))) (g := (mkF m 16 #[.val (.int p1), .val (.int p2), .val (.double (FP.ddiv (FP.i2d p1) (4652218415073722368 : UInt64))), .second, .val (.double (FP.ddiv (FP.i2d p2) (4652218415073722368 : UInt64))), .second, .unset, .unset, .unset] [(.int p1)])) rfl (hb hby at_16) _ ?_
    exact k
  by_cases hc18_1 : p1 < (-92160 : Int32)
  · refine own_via (S' := s₁.setTop (mkF m 31 #[.val (.int p1), .val (.int p2), .val (.double (FP.ddiv (FP.i2d p1) (4652218415073722368 : UInt64))), .second, .val (.double (FP.ddiv (FP.i2d p2) (4652218415073722368 : UInt64))), .second, .unset, .unset, .unset] [])) (fun t k => XS.icmpYes (g := (mkF m 18 #[.val (.int p1), .val (.int p2), .val (.double (FP.ddiv (FP.i2d p1) (4652218415073722368 : UInt64))), .second, .val (.double (FP.ddiv (FP.i2d p2) (4652218415073722368 : UInt64))), .second, .unset, .unset, .unset] [(.int (-92160 : Int32)), (.int p1)])) X0.here hx rfl (pc0 := 18) (pc' := 31) rfl (hb hby at_18) rfl (tlt hc18_1).1 (by decide) (by decide) k) ?_
    refine own_via (S' := s₁.setTop (mkF m 37 #[.val (.int p1), .val (.int p2), .val (.double (FP.ddiv (FP.i2d p1) (4652218415073722368 : UInt64))), .second, .val (.double (FP.ddiv (FP.i2d p2) (4652218415073722368 : UInt64))), .second, .val (.int (0 : Int32)), .unset, .unset] [(.int (-184320 : Int32)), (.int p2)])) (fun t k => ?_) ?_
    · show Steps p.tables e below (s₁.setTop (mkF m 31 #[.val (.int p1), .val (.int p2), .val (.double (FP.ddiv (FP.i2d p1) (4652218415073722368 : UInt64))), .second, .val (.double (FP.ddiv (FP.i2d p2) (4652218415073722368 : UInt64))), .second, .unset, .unset, .unset] [])) t
      refine XS.iconst X0.here hx rfl (hb hby at_31) ?_
      show Steps p.tables e below (s₁.setTop (mkF m 32 #[.val (.int p1), .val (.int p2), .val (.double (FP.ddiv (FP.i2d p1) (4652218415073722368 : UInt64))), .second, .val (.double (FP.ddiv (FP.i2d p2) (4652218415073722368 : UInt64))), .second, .unset, .unset, .unset] [(.int (0 : Int32))])) t
      refine XS.istore X0.here hx rfl (hb hby at_32) rfl (l' := #[.val (.int p1), .val (.int p2), .val (.double (FP.ddiv (FP.i2d p1) (4652218415073722368 : UInt64))), .second, .val (.double (FP.ddiv (FP.i2d p2) (4652218415073722368 : UInt64))), .second, .val (.int (0 : Int32)), .unset, .unset]) rfl ?_
      show Steps p.tables e below (s₁.setTop (mkF m 34 #[.val (.int p1), .val (.int p2), .val (.double (FP.ddiv (FP.i2d p1) (4652218415073722368 : UInt64))), .second, .val (.double (FP.ddiv (FP.i2d p2) (4652218415073722368 : UInt64))), .second, .val (.int (0 : Int32)), .unset, .unset] [])) t
      refine XS.iloadN X0.here hx rfl (hb hby at_34) rfl ?_
      show Steps p.tables e below (s₁.setTop (mkF m 35 #[.val (.int p1), .val (.int p2), .val (.double (FP.ddiv (FP.i2d p1) (4652218415073722368 : UInt64))), .second, .val (.double (FP.ddiv (FP.i2d p2) (4652218415073722368 : UInt64))), .second, .val (.int (0 : Int32)), .unset, .unset] [(.int p2)])) t
      refine X0.ldcInt hx hown (mvT hZ (hw _ (List.mem_of_getElem? (i := 3) rfl))) (g := (mkF m 35 #[.val (.int p1), .val (.int p2), .val (.double (FP.ddiv (FP.i2d p1) (4652218415073722368 : UInt64))), .second, .val (.double (FP.ddiv (FP.i2d p2) (4652218415073722368 : UInt64))), .second, .val (.int (0 : Int32)), .unset, .unset] [(.int p2)])) rfl (hb hby at_35) _ ?_
      exact k
    by_cases hc37_2 : p2 < (-184320 : Int32)
    · refine own_via (S' := s₁.setTop (mkF m 50 #[.val (.int p1), .val (.int p2), .val (.double (FP.ddiv (FP.i2d p1) (4652218415073722368 : UInt64))), .second, .val (.double (FP.ddiv (FP.i2d p2) (4652218415073722368 : UInt64))), .second, .val (.int (0 : Int32)), .unset, .unset] [])) (fun t k => XS.icmpYes (g := (mkF m 37 #[.val (.int p1), .val (.int p2), .val (.double (FP.ddiv (FP.i2d p1) (4652218415073722368 : UInt64))), .second, .val (.double (FP.ddiv (FP.i2d p2) (4652218415073722368 : UInt64))), .second, .val (.int (0 : Int32)), .unset, .unset] [(.int (-184320 : Int32)), (.int p2)])) X0.here hx rfl (pc0 := 37) (pc' := 50) rfl (hb hby at_37) rfl (tlt hc37_2).1 (by decide) (by decide) k) ?_
      refine own_via (S' := s₁.setTop (mkF m 55 #[.val (.int p1), .val (.int p2), .val (.double (FP.ddiv (FP.i2d p1) (4652218415073722368 : UInt64))), .second, .val (.double (FP.ddiv (FP.i2d p2) (4652218415073722368 : UInt64))), .second, .val (.int (0 : Int32)), .val (.int (0 : Int32)), .unset] [(.int (0 : Int32))])) (fun t k => ?_) ?_
      · show Steps p.tables e below (s₁.setTop (mkF m 50 #[.val (.int p1), .val (.int p2), .val (.double (FP.ddiv (FP.i2d p1) (4652218415073722368 : UInt64))), .second, .val (.double (FP.ddiv (FP.i2d p2) (4652218415073722368 : UInt64))), .second, .val (.int (0 : Int32)), .unset, .unset] [])) t
        refine XS.iconst X0.here hx rfl (hb hby at_50) ?_
        show Steps p.tables e below (s₁.setTop (mkF m 51 #[.val (.int p1), .val (.int p2), .val (.double (FP.ddiv (FP.i2d p1) (4652218415073722368 : UInt64))), .second, .val (.double (FP.ddiv (FP.i2d p2) (4652218415073722368 : UInt64))), .second, .val (.int (0 : Int32)), .unset, .unset] [(.int (0 : Int32))])) t
        refine XS.istore X0.here hx rfl (hb hby at_51) rfl (l' := #[.val (.int p1), .val (.int p2), .val (.double (FP.ddiv (FP.i2d p1) (4652218415073722368 : UInt64))), .second, .val (.double (FP.ddiv (FP.i2d p2) (4652218415073722368 : UInt64))), .second, .val (.int (0 : Int32)), .val (.int (0 : Int32)), .unset]) rfl ?_
        show Steps p.tables e below (s₁.setTop (mkF m 53 #[.val (.int p1), .val (.int p2), .val (.double (FP.ddiv (FP.i2d p1) (4652218415073722368 : UInt64))), .second, .val (.double (FP.ddiv (FP.i2d p2) (4652218415073722368 : UInt64))), .second, .val (.int (0 : Int32)), .val (.int (0 : Int32)), .unset] [])) t
        refine XS.iload X0.here hx rfl (hb hby at_53) rfl ?_
        exact k
      refine own_via (S' := s₁.setTop (mkF m 67 #[.val (.int p1), .val (.int p2), .val (.double (FP.ddiv (FP.i2d p1) (4652218415073722368 : UInt64))), .second, .val (.double (FP.ddiv (FP.i2d p2) (4652218415073722368 : UInt64))), .second, .val (.int (0 : Int32)), .val (.int (0 : Int32)), .unset] [])) (fun t k => XS.ifYes (g := (mkF m 55 #[.val (.int p1), .val (.int p2), .val (.double (FP.ddiv (FP.i2d p1) (4652218415073722368 : UInt64))), .second, .val (.double (FP.ddiv (FP.i2d p2) (4652218415073722368 : UInt64))), .second, .val (.int (0 : Int32)), .val (.int (0 : Int32)), .unset] [(.int (0 : Int32))])) X0.here hx rfl (pc0 := 55) (pc' := 67) rfl (hb hby at_55) rfl ((if0 _ _).trans (teq (by decide : (0 : Int32) = (0 : Int32))).1) (by decide) (by decide) k) ?_
      refine own_via (S' := s₁.setTop (mkF m 73 #[.val (.int p1), .val (.int p2), .val (.double (FP.ddiv (FP.i2d p1) (4652218415073722368 : UInt64))), .second, .val (.double (FP.ddiv (FP.i2d p2) (4652218415073722368 : UInt64))), .second, .val (.int (0 : Int32)), .val (.int (0 : Int32)), .val (.int (0 : Int32))] [(.double (FP.ddiv (FP.i2d p2) (4652218415073722368 : UInt64))), (.double (FP.ddiv (FP.i2d p1) (4652218415073722368 : UInt64)))])) (fun t k => ?_) ?_
      · show Steps p.tables e below (s₁.setTop (mkF m 67 #[.val (.int p1), .val (.int p2), .val (.double (FP.ddiv (FP.i2d p1) (4652218415073722368 : UInt64))), .second, .val (.double (FP.ddiv (FP.i2d p2) (4652218415073722368 : UInt64))), .second, .val (.int (0 : Int32)), .val (.int (0 : Int32)), .unset] [])) t
        refine XS.iconst X0.here hx rfl (hb hby at_67) ?_
        show Steps p.tables e below (s₁.setTop (mkF m 68 #[.val (.int p1), .val (.int p2), .val (.double (FP.ddiv (FP.i2d p1) (4652218415073722368 : UInt64))), .second, .val (.double (FP.ddiv (FP.i2d p2) (4652218415073722368 : UInt64))), .second, .val (.int (0 : Int32)), .val (.int (0 : Int32)), .unset] [(.int (0 : Int32))])) t
        refine XS.istore X0.here hx rfl (hb hby at_68) rfl (l' := #[.val (.int p1), .val (.int p2), .val (.double (FP.ddiv (FP.i2d p1) (4652218415073722368 : UInt64))), .second, .val (.double (FP.ddiv (FP.i2d p2) (4652218415073722368 : UInt64))), .second, .val (.int (0 : Int32)), .val (.int (0 : Int32)), .val (.int (0 : Int32))]) rfl ?_
        show Steps p.tables e below (s₁.setTop (mkF m 70 #[.val (.int p1), .val (.int p2), .val (.double (FP.ddiv (FP.i2d p1) (4652218415073722368 : UInt64))), .second, .val (.double (FP.ddiv (FP.i2d p2) (4652218415073722368 : UInt64))), .second, .val (.int (0 : Int32)), .val (.int (0 : Int32)), .val (.int (0 : Int32))] [])) t
        refine XS.dloadN X0.here hx rfl (hb hby at_70) rfl ?_
        show Steps p.tables e below (s₁.setTop (mkF m 71 #[.val (.int p1), .val (.int p2), .val (.double (FP.ddiv (FP.i2d p1) (4652218415073722368 : UInt64))), .second, .val (.double (FP.ddiv (FP.i2d p2) (4652218415073722368 : UInt64))), .second, .val (.int (0 : Int32)), .val (.int (0 : Int32)), .val (.int (0 : Int32))] [(.double (FP.ddiv (FP.i2d p1) (4652218415073722368 : UInt64)))])) t
        refine XS.dload X0.here hx rfl (hb hby at_71) rfl ?_
        exact k
      obtain ⟨_, _, ⟨T4, L4, k4, n4⟩, -, X4, ⟨Lc4, hQ4, l4, y4, z4⟩, st4⟩ := Jvm.LawKit.callS X0 hx (y := (⟨"com/example/altigate/altigate/report/Position", "onEarth", "(DD)Z"⟩ : MethodName)) hown (mvT hZ (hw _ (List.mem_of_getElem? (i := 5) rfl))) (mvT hZ (hw _ (List.mem_of_getElem? (i := 6) rfl))) (mvT hZ (hw _ (List.mem_of_getElem? (i := 7) rfl))) (mvT hZ (hw _ (List.mem_of_getElem? (i := 8) rfl))) (by decide) (backOf (W := 0) (rm1 l Z a0 hw [] p1 p2 h0 n0 Z0) hZ (hw _ (List.mem_of_getElem? (i := 8) rfl)) (hw _ (List.mem_of_getElem? (i := 7) rfl)) (by decide) (by decide)) (g := (mkF m 73 #[.val (.int p1), .val (.int p2), .val (.double (FP.ddiv (FP.i2d p1) (4652218415073722368 : UInt64))), .second, .val (.double (FP.ddiv (FP.i2d p2) (4652218415073722368 : UInt64))), .second, .val (.int (0 : Int32)), .val (.int (0 : Int32)), .val (.int (0 : Int32))] [(.double (FP.ddiv (FP.i2d p2) (4652218415073722368 : UInt64))), (.double (FP.ddiv (FP.i2d p1) (4652218415073722368 : UInt64)))])) rfl (by rw [hml]; rfl) (argsL := [(.double (FP.ddiv (FP.i2d p1) (4652218415073722368 : UInt64))), (.double (FP.ddiv (FP.i2d p2) (4652218415073722368 : UInt64)))]) (rest := []) (lenOf pd_0 rfl) rfl (by show 2 * 0 + _ ≤ _; exact Nat.le_of_eq rfl) (hb hby at_73) (fun _ _ => ⟨rfl, e0, (by decide : 0 + 0 ≤ _), (by decide : 0 + 0 ≤ _)⟩)
      dsimp only [Pt.U, Pt.locs, Pt.cells, Pt.slots] at X4 l4 y4 z4 st4 hQ4
      subst l4 y4 z4
      obtain ⟨rfl, Nq4, hh4⟩ := hQ4
      have N4 := Fr.app N0 Nq4
      refine own_via st4 ?_
      show own_G p.tables e below _ (T4.setTop (mkF m 76 #[.val (.int p1), .val (.int p2), .val (.double (FP.ddiv (FP.i2d p1) (4652218415073722368 : UInt64))), .second, .val (.double (FP.ddiv (FP.i2d p2) (4652218415073722368 : UInt64))), .second, .val (.int (0 : Int32)), .val (.int (0 : Int32)), .val (.int (0 : Int32))] [(.int (own_e p1 p2))]))
      refine own_via (S' := T4.setTop (mkF m 78 #[.val (.int p1), .val (.int p2), .val (.double (FP.ddiv (FP.i2d p1) (4652218415073722368 : UInt64))), .second, .val (.double (FP.ddiv (FP.i2d p2) (4652218415073722368 : UInt64))), .second, .val (.int (0 : Int32)), .val (.int (0 : Int32)), .val (.int (0 : Int32))] [(.int (0 : Int32)), (.int (own_e p1 p2))])) (fun t k => ?_) ?_
      · show Steps p.tables e below (T4.setTop (mkF m 76 #[.val (.int p1), .val (.int p2), .val (.double (FP.ddiv (FP.i2d p1) (4652218415073722368 : UInt64))), .second, .val (.double (FP.ddiv (FP.i2d p2) (4652218415073722368 : UInt64))), .second, .val (.int (0 : Int32)), .val (.int (0 : Int32)), .val (.int (0 : Int32))] [(.int (own_e p1 p2))])) t
        refine XS.iload X4.here hx rfl (hb hby at_76) rfl ?_
        exact k
      refine own_via (S' := T4.setTop (mkF m 81 #[.val (.int p1), .val (.int p2), .val (.double (FP.ddiv (FP.i2d p1) (4652218415073722368 : UInt64))), .second, .val (.double (FP.ddiv (FP.i2d p2) (4652218415073722368 : UInt64))), .second, .val (.int (0 : Int32)), .val (.int (0 : Int32)), .val (.int (0 : Int32))] [])) (fun t k => XS.icmpNo (g := (mkF m 78 #[.val (.int p1), .val (.int p2), .val (.double (FP.ddiv (FP.i2d p1) (4652218415073722368 : UInt64))), .second, .val (.double (FP.ddiv (FP.i2d p2) (4652218415073722368 : UInt64))), .second, .val (.int (0 : Int32)), .val (.int (0 : Int32)), .val (.int (0 : Int32))] [(.int (0 : Int32)), (.int (own_e p1 p2))])) X4.here hx rfl (hb hby at_78) rfl (teq (own_e1 ((own_lI p1 (k := -92160) (by decide)).mp hc18_1))).2 k) ?_
      refine own_via (S' := T4.setTop (mkF m 86 #[.val (.int p1), .val (.int p2), .val (.double (FP.ddiv (FP.i2d p1) (4652218415073722368 : UInt64))), .second, .val (.double (FP.ddiv (FP.i2d p2) (4652218415073722368 : UInt64))), .second, .val (.int (0 : Int32)), .val (.int (0 : Int32)), .val (.int (0 : Int32))] [(.int (1 : Int32))])) (fun t k => ?_) ?_
      · show Steps p.tables e below (T4.setTop (mkF m 81 #[.val (.int p1), .val (.int p2), .val (.double (FP.ddiv (FP.i2d p1) (4652218415073722368 : UInt64))), .second, .val (.double (FP.ddiv (FP.i2d p2) (4652218415073722368 : UInt64))), .second, .val (.int (0 : Int32)), .val (.int (0 : Int32)), .val (.int (0 : Int32))] [])) t
        refine XS.iconst X4.here hx rfl (hb hby at_81) ?_
        show Steps p.tables e below (T4.setTop (mkF m 82 #[.val (.int p1), .val (.int p2), .val (.double (FP.ddiv (FP.i2d p1) (4652218415073722368 : UInt64))), .second, .val (.double (FP.ddiv (FP.i2d p2) (4652218415073722368 : UInt64))), .second, .val (.int (0 : Int32)), .val (.int (0 : Int32)), .val (.int (0 : Int32))] [(.int (1 : Int32))])) t
        refine XS.goto X4.here hx rfl (pc0 := 82) (pc' := 86) rfl (hb hby at_82) (by decide) (by decide) ?_
        exact k
      exact own_end (h := h0) X4 (v := some (.int (1 : Int32))) Bd.notSynchronized (fun h => by rw [Bd.returns] at h; cases h) (fun fs hr => retN X4 hx (t := .boolean) Bd.returns (by simp) (hb hby at_86) hr) hh4 ⟨rfl, N4⟩ (by decide) (by decide)
    · refine own_via (S' := s₁.setTop (mkF m 40 #[.val (.int p1), .val (.int p2), .val (.double (FP.ddiv (FP.i2d p1) (4652218415073722368 : UInt64))), .second, .val (.double (FP.ddiv (FP.i2d p2) (4652218415073722368 : UInt64))), .second, .val (.int (0 : Int32)), .unset, .unset] [])) (fun t k => XS.icmpNo (g := (mkF m 37 #[.val (.int p1), .val (.int p2), .val (.double (FP.ddiv (FP.i2d p1) (4652218415073722368 : UInt64))), .second, .val (.double (FP.ddiv (FP.i2d p2) (4652218415073722368 : UInt64))), .second, .val (.int (0 : Int32)), .unset, .unset] [(.int (-184320 : Int32)), (.int p2)])) X0.here hx rfl (hb hby at_37) rfl (flt hc37_2).1 k) ?_
      refine own_via (S' := s₁.setTop (mkF m 43 #[.val (.int p1), .val (.int p2), .val (.double (FP.ddiv (FP.i2d p1) (4652218415073722368 : UInt64))), .second, .val (.double (FP.ddiv (FP.i2d p2) (4652218415073722368 : UInt64))), .second, .val (.int (0 : Int32)), .unset, .unset] [(.int (184320 : Int32)), (.int p2)])) (fun t k => ?_) ?_
      · show Steps p.tables e below (s₁.setTop (mkF m 40 #[.val (.int p1), .val (.int p2), .val (.double (FP.ddiv (FP.i2d p1) (4652218415073722368 : UInt64))), .second, .val (.double (FP.ddiv (FP.i2d p2) (4652218415073722368 : UInt64))), .second, .val (.int (0 : Int32)), .unset, .unset] [])) t
        refine XS.iloadN X0.here hx rfl (hb hby at_40) rfl ?_
        show Steps p.tables e below (s₁.setTop (mkF m 41 #[.val (.int p1), .val (.int p2), .val (.double (FP.ddiv (FP.i2d p1) (4652218415073722368 : UInt64))), .second, .val (.double (FP.ddiv (FP.i2d p2) (4652218415073722368 : UInt64))), .second, .val (.int (0 : Int32)), .unset, .unset] [(.int p2)])) t
        refine X0.ldcInt hx hown (mvT hZ (hw _ (List.mem_of_getElem? (i := 4) rfl))) (g := (mkF m 41 #[.val (.int p1), .val (.int p2), .val (.double (FP.ddiv (FP.i2d p1) (4652218415073722368 : UInt64))), .second, .val (.double (FP.ddiv (FP.i2d p2) (4652218415073722368 : UInt64))), .second, .val (.int (0 : Int32)), .unset, .unset] [(.int p2)])) rfl (hb hby at_41) _ ?_
        exact k
      by_cases hc43_6 : (184320 : Int32) < p2
      · refine own_via (S' := s₁.setTop (mkF m 50 #[.val (.int p1), .val (.int p2), .val (.double (FP.ddiv (FP.i2d p1) (4652218415073722368 : UInt64))), .second, .val (.double (FP.ddiv (FP.i2d p2) (4652218415073722368 : UInt64))), .second, .val (.int (0 : Int32)), .unset, .unset] [])) (fun t k => XS.icmpYes (g := (mkF m 43 #[.val (.int p1), .val (.int p2), .val (.double (FP.ddiv (FP.i2d p1) (4652218415073722368 : UInt64))), .second, .val (.double (FP.ddiv (FP.i2d p2) (4652218415073722368 : UInt64))), .second, .val (.int (0 : Int32)), .unset, .unset] [(.int (184320 : Int32)), (.int p2)])) X0.here hx rfl (pc0 := 43) (pc' := 50) rfl (hb hby at_43) rfl (tlt hc43_6).2.2.1 (by decide) (by decide) k) ?_
        refine own_via (S' := s₁.setTop (mkF m 55 #[.val (.int p1), .val (.int p2), .val (.double (FP.ddiv (FP.i2d p1) (4652218415073722368 : UInt64))), .second, .val (.double (FP.ddiv (FP.i2d p2) (4652218415073722368 : UInt64))), .second, .val (.int (0 : Int32)), .val (.int (0 : Int32)), .unset] [(.int (0 : Int32))])) (fun t k => ?_) ?_
        · show Steps p.tables e below (s₁.setTop (mkF m 50 #[.val (.int p1), .val (.int p2), .val (.double (FP.ddiv (FP.i2d p1) (4652218415073722368 : UInt64))), .second, .val (.double (FP.ddiv (FP.i2d p2) (4652218415073722368 : UInt64))), .second, .val (.int (0 : Int32)), .unset, .unset] [])) t
          refine XS.iconst X0.here hx rfl (hb hby at_50) ?_
          show Steps p.tables e below (s₁.setTop (mkF m 51 #[.val (.int p1), .val (.int p2), .val (.double (FP.ddiv (FP.i2d p1) (4652218415073722368 : UInt64))), .second, .val (.double (FP.ddiv (FP.i2d p2) (4652218415073722368 : UInt64))), .second, .val (.int (0 : Int32)), .unset, .unset] [(.int (0 : Int32))])) t
          refine XS.istore X0.here hx rfl (hb hby at_51) rfl (l' := #[.val (.int p1), .val (.int p2), .val (.double (FP.ddiv (FP.i2d p1) (4652218415073722368 : UInt64))), .second, .val (.double (FP.ddiv (FP.i2d p2) (4652218415073722368 : UInt64))), .second, .val (.int (0 : Int32)), .val (.int (0 : Int32)), .unset]) rfl ?_
          show Steps p.tables e below (s₁.setTop (mkF m 53 #[.val (.int p1), .val (.int p2), .val (.double (FP.ddiv (FP.i2d p1) (4652218415073722368 : UInt64))), .second, .val (.double (FP.ddiv (FP.i2d p2) (4652218415073722368 : UInt64))), .second, .val (.int (0 : Int32)), .val (.int (0 : Int32)), .unset] [])) t
          refine XS.iload X0.here hx rfl (hb hby at_53) rfl ?_
          exact k
        refine own_via (S' := s₁.setTop (mkF m 67 #[.val (.int p1), .val (.int p2), .val (.double (FP.ddiv (FP.i2d p1) (4652218415073722368 : UInt64))), .second, .val (.double (FP.ddiv (FP.i2d p2) (4652218415073722368 : UInt64))), .second, .val (.int (0 : Int32)), .val (.int (0 : Int32)), .unset] [])) (fun t k => XS.ifYes (g := (mkF m 55 #[.val (.int p1), .val (.int p2), .val (.double (FP.ddiv (FP.i2d p1) (4652218415073722368 : UInt64))), .second, .val (.double (FP.ddiv (FP.i2d p2) (4652218415073722368 : UInt64))), .second, .val (.int (0 : Int32)), .val (.int (0 : Int32)), .unset] [(.int (0 : Int32))])) X0.here hx rfl (pc0 := 55) (pc' := 67) rfl (hb hby at_55) rfl ((if0 _ _).trans (teq (by decide : (0 : Int32) = (0 : Int32))).1) (by decide) (by decide) k) ?_
        refine own_via (S' := s₁.setTop (mkF m 73 #[.val (.int p1), .val (.int p2), .val (.double (FP.ddiv (FP.i2d p1) (4652218415073722368 : UInt64))), .second, .val (.double (FP.ddiv (FP.i2d p2) (4652218415073722368 : UInt64))), .second, .val (.int (0 : Int32)), .val (.int (0 : Int32)), .val (.int (0 : Int32))] [(.double (FP.ddiv (FP.i2d p2) (4652218415073722368 : UInt64))), (.double (FP.ddiv (FP.i2d p1) (4652218415073722368 : UInt64)))])) (fun t k => ?_) ?_
        · show Steps p.tables e below (s₁.setTop (mkF m 67 #[.val (.int p1), .val (.int p2), .val (.double (FP.ddiv (FP.i2d p1) (4652218415073722368 : UInt64))), .second, .val (.double (FP.ddiv (FP.i2d p2) (4652218415073722368 : UInt64))), .second, .val (.int (0 : Int32)), .val (.int (0 : Int32)), .unset] [])) t
          refine XS.iconst X0.here hx rfl (hb hby at_67) ?_
          show Steps p.tables e below (s₁.setTop (mkF m 68 #[.val (.int p1), .val (.int p2), .val (.double (FP.ddiv (FP.i2d p1) (4652218415073722368 : UInt64))), .second, .val (.double (FP.ddiv (FP.i2d p2) (4652218415073722368 : UInt64))), .second, .val (.int (0 : Int32)), .val (.int (0 : Int32)), .unset] [(.int (0 : Int32))])) t
          refine XS.istore X0.here hx rfl (hb hby at_68) rfl (l' := #[.val (.int p1), .val (.int p2), .val (.double (FP.ddiv (FP.i2d p1) (4652218415073722368 : UInt64))), .second, .val (.double (FP.ddiv (FP.i2d p2) (4652218415073722368 : UInt64))), .second, .val (.int (0 : Int32)), .val (.int (0 : Int32)), .val (.int (0 : Int32))]) rfl ?_
          show Steps p.tables e below (s₁.setTop (mkF m 70 #[.val (.int p1), .val (.int p2), .val (.double (FP.ddiv (FP.i2d p1) (4652218415073722368 : UInt64))), .second, .val (.double (FP.ddiv (FP.i2d p2) (4652218415073722368 : UInt64))), .second, .val (.int (0 : Int32)), .val (.int (0 : Int32)), .val (.int (0 : Int32))] [])) t
          refine XS.dloadN X0.here hx rfl (hb hby at_70) rfl ?_
          show Steps p.tables e below (s₁.setTop (mkF m 71 #[.val (.int p1), .val (.int p2), .val (.double (FP.ddiv (FP.i2d p1) (4652218415073722368 : UInt64))), .second, .val (.double (FP.ddiv (FP.i2d p2) (4652218415073722368 : UInt64))), .second, .val (.int (0 : Int32)), .val (.int (0 : Int32)), .val (.int (0 : Int32))] [(.double (FP.ddiv (FP.i2d p1) (4652218415073722368 : UInt64)))])) t
          refine XS.dload X0.here hx rfl (hb hby at_71) rfl ?_
          exact k
        obtain ⟨_, _, ⟨T8, L8, k8, n8⟩, -, X8, ⟨Lc8, hQ8, l8, y8, z8⟩, st8⟩ := Jvm.LawKit.callS X0 hx (y := (⟨"com/example/altigate/altigate/report/Position", "onEarth", "(DD)Z"⟩ : MethodName)) hown (mvT hZ (hw _ (List.mem_of_getElem? (i := 5) rfl))) (mvT hZ (hw _ (List.mem_of_getElem? (i := 6) rfl))) (mvT hZ (hw _ (List.mem_of_getElem? (i := 7) rfl))) (mvT hZ (hw _ (List.mem_of_getElem? (i := 8) rfl))) (by decide) (backOf (W := 0) (rm1 l Z a0 hw [] p1 p2 h0 n0 Z0) hZ (hw _ (List.mem_of_getElem? (i := 8) rfl)) (hw _ (List.mem_of_getElem? (i := 7) rfl)) (by decide) (by decide)) (g := (mkF m 73 #[.val (.int p1), .val (.int p2), .val (.double (FP.ddiv (FP.i2d p1) (4652218415073722368 : UInt64))), .second, .val (.double (FP.ddiv (FP.i2d p2) (4652218415073722368 : UInt64))), .second, .val (.int (0 : Int32)), .val (.int (0 : Int32)), .val (.int (0 : Int32))] [(.double (FP.ddiv (FP.i2d p2) (4652218415073722368 : UInt64))), (.double (FP.ddiv (FP.i2d p1) (4652218415073722368 : UInt64)))])) rfl (by rw [hml]; rfl) (argsL := [(.double (FP.ddiv (FP.i2d p1) (4652218415073722368 : UInt64))), (.double (FP.ddiv (FP.i2d p2) (4652218415073722368 : UInt64)))]) (rest := []) (lenOf pd_0 rfl) rfl (by show 2 * 0 + _ ≤ _; exact Nat.le_of_eq rfl) (hb hby at_73) (fun _ _ => ⟨rfl, e0, (by decide : 0 + 0 ≤ _), (by decide : 0 + 0 ≤ _)⟩)
        dsimp only [Pt.U, Pt.locs, Pt.cells, Pt.slots] at X8 l8 y8 z8 st8 hQ8
        subst l8 y8 z8
        obtain ⟨rfl, Nq8, hh8⟩ := hQ8
        have N8 := Fr.app N0 Nq8
        refine own_via st8 ?_
        show own_G p.tables e below _ (T8.setTop (mkF m 76 #[.val (.int p1), .val (.int p2), .val (.double (FP.ddiv (FP.i2d p1) (4652218415073722368 : UInt64))), .second, .val (.double (FP.ddiv (FP.i2d p2) (4652218415073722368 : UInt64))), .second, .val (.int (0 : Int32)), .val (.int (0 : Int32)), .val (.int (0 : Int32))] [(.int (own_e p1 p2))]))
        refine own_via (S' := T8.setTop (mkF m 78 #[.val (.int p1), .val (.int p2), .val (.double (FP.ddiv (FP.i2d p1) (4652218415073722368 : UInt64))), .second, .val (.double (FP.ddiv (FP.i2d p2) (4652218415073722368 : UInt64))), .second, .val (.int (0 : Int32)), .val (.int (0 : Int32)), .val (.int (0 : Int32))] [(.int (0 : Int32)), (.int (own_e p1 p2))])) (fun t k => ?_) ?_
        · show Steps p.tables e below (T8.setTop (mkF m 76 #[.val (.int p1), .val (.int p2), .val (.double (FP.ddiv (FP.i2d p1) (4652218415073722368 : UInt64))), .second, .val (.double (FP.ddiv (FP.i2d p2) (4652218415073722368 : UInt64))), .second, .val (.int (0 : Int32)), .val (.int (0 : Int32)), .val (.int (0 : Int32))] [(.int (own_e p1 p2))])) t
          refine XS.iload X8.here hx rfl (hb hby at_76) rfl ?_
          exact k
        refine own_via (S' := T8.setTop (mkF m 81 #[.val (.int p1), .val (.int p2), .val (.double (FP.ddiv (FP.i2d p1) (4652218415073722368 : UInt64))), .second, .val (.double (FP.ddiv (FP.i2d p2) (4652218415073722368 : UInt64))), .second, .val (.int (0 : Int32)), .val (.int (0 : Int32)), .val (.int (0 : Int32))] [])) (fun t k => XS.icmpNo (g := (mkF m 78 #[.val (.int p1), .val (.int p2), .val (.double (FP.ddiv (FP.i2d p1) (4652218415073722368 : UInt64))), .second, .val (.double (FP.ddiv (FP.i2d p2) (4652218415073722368 : UInt64))), .second, .val (.int (0 : Int32)), .val (.int (0 : Int32)), .val (.int (0 : Int32))] [(.int (0 : Int32)), (.int (own_e p1 p2))])) X8.here hx rfl (hb hby at_78) rfl (teq (own_e1 ((own_lI p1 (k := -92160) (by decide)).mp hc18_1))).2 k) ?_
        refine own_via (S' := T8.setTop (mkF m 86 #[.val (.int p1), .val (.int p2), .val (.double (FP.ddiv (FP.i2d p1) (4652218415073722368 : UInt64))), .second, .val (.double (FP.ddiv (FP.i2d p2) (4652218415073722368 : UInt64))), .second, .val (.int (0 : Int32)), .val (.int (0 : Int32)), .val (.int (0 : Int32))] [(.int (1 : Int32))])) (fun t k => ?_) ?_
        · show Steps p.tables e below (T8.setTop (mkF m 81 #[.val (.int p1), .val (.int p2), .val (.double (FP.ddiv (FP.i2d p1) (4652218415073722368 : UInt64))), .second, .val (.double (FP.ddiv (FP.i2d p2) (4652218415073722368 : UInt64))), .second, .val (.int (0 : Int32)), .val (.int (0 : Int32)), .val (.int (0 : Int32))] [])) t
          refine XS.iconst X8.here hx rfl (hb hby at_81) ?_
          show Steps p.tables e below (T8.setTop (mkF m 82 #[.val (.int p1), .val (.int p2), .val (.double (FP.ddiv (FP.i2d p1) (4652218415073722368 : UInt64))), .second, .val (.double (FP.ddiv (FP.i2d p2) (4652218415073722368 : UInt64))), .second, .val (.int (0 : Int32)), .val (.int (0 : Int32)), .val (.int (0 : Int32))] [(.int (1 : Int32))])) t
          refine XS.goto X8.here hx rfl (pc0 := 82) (pc' := 86) rfl (hb hby at_82) (by decide) (by decide) ?_
          exact k
        exact own_end (h := h0) X8 (v := some (.int (1 : Int32))) Bd.notSynchronized (fun h => by rw [Bd.returns] at h; cases h) (fun fs hr => retN X8 hx (t := .boolean) Bd.returns (by simp) (hb hby at_86) hr) hh8 ⟨rfl, N8⟩ (by decide) (by decide)
      · refine own_via (S' := s₁.setTop (mkF m 46 #[.val (.int p1), .val (.int p2), .val (.double (FP.ddiv (FP.i2d p1) (4652218415073722368 : UInt64))), .second, .val (.double (FP.ddiv (FP.i2d p2) (4652218415073722368 : UInt64))), .second, .val (.int (0 : Int32)), .unset, .unset] [])) (fun t k => XS.icmpNo (g := (mkF m 43 #[.val (.int p1), .val (.int p2), .val (.double (FP.ddiv (FP.i2d p1) (4652218415073722368 : UInt64))), .second, .val (.double (FP.ddiv (FP.i2d p2) (4652218415073722368 : UInt64))), .second, .val (.int (0 : Int32)), .unset, .unset] [(.int (184320 : Int32)), (.int p2)])) X0.here hx rfl (hb hby at_43) rfl (flt hc43_6).2.2.1 k) ?_
        refine own_via (S' := s₁.setTop (mkF m 55 #[.val (.int p1), .val (.int p2), .val (.double (FP.ddiv (FP.i2d p1) (4652218415073722368 : UInt64))), .second, .val (.double (FP.ddiv (FP.i2d p2) (4652218415073722368 : UInt64))), .second, .val (.int (0 : Int32)), .val (.int (1 : Int32)), .unset] [(.int (0 : Int32))])) (fun t k => ?_) ?_
        · show Steps p.tables e below (s₁.setTop (mkF m 46 #[.val (.int p1), .val (.int p2), .val (.double (FP.ddiv (FP.i2d p1) (4652218415073722368 : UInt64))), .second, .val (.double (FP.ddiv (FP.i2d p2) (4652218415073722368 : UInt64))), .second, .val (.int (0 : Int32)), .unset, .unset] [])) t
          refine XS.iconst X0.here hx rfl (hb hby at_46) ?_
          show Steps p.tables e below (s₁.setTop (mkF m 47 #[.val (.int p1), .val (.int p2), .val (.double (FP.ddiv (FP.i2d p1) (4652218415073722368 : UInt64))), .second, .val (.double (FP.ddiv (FP.i2d p2) (4652218415073722368 : UInt64))), .second, .val (.int (0 : Int32)), .unset, .unset] [(.int (1 : Int32))])) t
          refine XS.goto X0.here hx rfl (pc0 := 47) (pc' := 51) rfl (hb hby at_47) (by decide) (by decide) ?_
          show Steps p.tables e below (s₁.setTop (mkF m 51 #[.val (.int p1), .val (.int p2), .val (.double (FP.ddiv (FP.i2d p1) (4652218415073722368 : UInt64))), .second, .val (.double (FP.ddiv (FP.i2d p2) (4652218415073722368 : UInt64))), .second, .val (.int (0 : Int32)), .unset, .unset] [(.int (1 : Int32))])) t
          refine XS.istore X0.here hx rfl (hb hby at_51) rfl (l' := #[.val (.int p1), .val (.int p2), .val (.double (FP.ddiv (FP.i2d p1) (4652218415073722368 : UInt64))), .second, .val (.double (FP.ddiv (FP.i2d p2) (4652218415073722368 : UInt64))), .second, .val (.int (0 : Int32)), .val (.int (1 : Int32)), .unset]) rfl ?_
          show Steps p.tables e below (s₁.setTop (mkF m 53 #[.val (.int p1), .val (.int p2), .val (.double (FP.ddiv (FP.i2d p1) (4652218415073722368 : UInt64))), .second, .val (.double (FP.ddiv (FP.i2d p2) (4652218415073722368 : UInt64))), .second, .val (.int (0 : Int32)), .val (.int (1 : Int32)), .unset] [])) t
          refine XS.iload X0.here hx rfl (hb hby at_53) rfl ?_
          exact k
        refine own_via (S' := s₁.setTop (mkF m 67 #[.val (.int p1), .val (.int p2), .val (.double (FP.ddiv (FP.i2d p1) (4652218415073722368 : UInt64))), .second, .val (.double (FP.ddiv (FP.i2d p2) (4652218415073722368 : UInt64))), .second, .val (.int (0 : Int32)), .val (.int (1 : Int32)), .unset] [])) (fun t k => XS.ifYes (g := (mkF m 55 #[.val (.int p1), .val (.int p2), .val (.double (FP.ddiv (FP.i2d p1) (4652218415073722368 : UInt64))), .second, .val (.double (FP.ddiv (FP.i2d p2) (4652218415073722368 : UInt64))), .second, .val (.int (0 : Int32)), .val (.int (1 : Int32)), .unset] [(.int (0 : Int32))])) X0.here hx rfl (pc0 := 55) (pc' := 67) rfl (hb hby at_55) rfl ((if0 _ _).trans (teq (by decide : (0 : Int32) = (0 : Int32))).1) (by decide) (by decide) k) ?_
        refine own_via (S' := s₁.setTop (mkF m 73 #[.val (.int p1), .val (.int p2), .val (.double (FP.ddiv (FP.i2d p1) (4652218415073722368 : UInt64))), .second, .val (.double (FP.ddiv (FP.i2d p2) (4652218415073722368 : UInt64))), .second, .val (.int (0 : Int32)), .val (.int (1 : Int32)), .val (.int (0 : Int32))] [(.double (FP.ddiv (FP.i2d p2) (4652218415073722368 : UInt64))), (.double (FP.ddiv (FP.i2d p1) (4652218415073722368 : UInt64)))])) (fun t k => ?_) ?_
        · show Steps p.tables e below (s₁.setTop (mkF m 67 #[.val (.int p1), .val (.int p2), .val (.double (FP.ddiv (FP.i2d p1) (4652218415073722368 : UInt64))), .second, .val (.double (FP.ddiv (FP.i2d p2) (4652218415073722368 : UInt64))), .second, .val (.int (0 : Int32)), .val (.int (1 : Int32)), .unset] [])) t
          refine XS.iconst X0.here hx rfl (hb hby at_67) ?_
          show Steps p.tables e below (s₁.setTop (mkF m 68 #[.val (.int p1), .val (.int p2), .val (.double (FP.ddiv (FP.i2d p1) (4652218415073722368 : UInt64))), .second, .val (.double (FP.ddiv (FP.i2d p2) (4652218415073722368 : UInt64))), .second, .val (.int (0 : Int32)), .val (.int (1 : Int32)), .unset] [(.int (0 : Int32))])) t
          refine XS.istore X0.here hx rfl (hb hby at_68) rfl (l' := #[.val (.int p1), .val (.int p2), .val (.double (FP.ddiv (FP.i2d p1) (4652218415073722368 : UInt64))), .second, .val (.double (FP.ddiv (FP.i2d p2) (4652218415073722368 : UInt64))), .second, .val (.int (0 : Int32)), .val (.int (1 : Int32)), .val (.int (0 : Int32))]) rfl ?_
          show Steps p.tables e below (s₁.setTop (mkF m 70 #[.val (.int p1), .val (.int p2), .val (.double (FP.ddiv (FP.i2d p1) (4652218415073722368 : UInt64))), .second, .val (.double (FP.ddiv (FP.i2d p2) (4652218415073722368 : UInt64))), .second, .val (.int (0 : Int32)), .val (.int (1 : Int32)), .val (.int (0 : Int32))] [])) t
          refine XS.dloadN X0.here hx rfl (hb hby at_70) rfl ?_
          show Steps p.tables e below (s₁.setTop (mkF m 71 #[.val (.int p1), .val (.int p2), .val (.double (FP.ddiv (FP.i2d p1) (4652218415073722368 : UInt64))), .second, .val (.double (FP.ddiv (FP.i2d p2) (4652218415073722368 : UInt64))), .second, .val (.int (0 : Int32)), .val (.int (1 : Int32)), .val (.int (0 : Int32))] [(.double (FP.ddiv (FP.i2d p1) (4652218415073722368 : UInt64)))])) t
          refine XS.dload X0.here hx rfl (hb hby at_71) rfl ?_
          exact k
        obtain ⟨_, _, ⟨T11, L11, k11, n11⟩, -, X11, ⟨Lc11, hQ11, l11, y11, z11⟩, st11⟩ := Jvm.LawKit.callS X0 hx (y := (⟨"com/example/altigate/altigate/report/Position", "onEarth", "(DD)Z"⟩ : MethodName)) hown (mvT hZ (hw _ (List.mem_of_getElem? (i := 5) rfl))) (mvT hZ (hw _ (List.mem_of_getElem? (i := 6) rfl))) (mvT hZ (hw _ (List.mem_of_getElem? (i := 7) rfl))) (mvT hZ (hw _ (List.mem_of_getElem? (i := 8) rfl))) (by decide) (backOf (W := 0) (rm1 l Z a0 hw [] p1 p2 h0 n0 Z0) hZ (hw _ (List.mem_of_getElem? (i := 8) rfl)) (hw _ (List.mem_of_getElem? (i := 7) rfl)) (by decide) (by decide)) (g := (mkF m 73 #[.val (.int p1), .val (.int p2), .val (.double (FP.ddiv (FP.i2d p1) (4652218415073722368 : UInt64))), .second, .val (.double (FP.ddiv (FP.i2d p2) (4652218415073722368 : UInt64))), .second, .val (.int (0 : Int32)), .val (.int (1 : Int32)), .val (.int (0 : Int32))] [(.double (FP.ddiv (FP.i2d p2) (4652218415073722368 : UInt64))), (.double (FP.ddiv (FP.i2d p1) (4652218415073722368 : UInt64)))])) rfl (by rw [hml]; rfl) (argsL := [(.double (FP.ddiv (FP.i2d p1) (4652218415073722368 : UInt64))), (.double (FP.ddiv (FP.i2d p2) (4652218415073722368 : UInt64)))]) (rest := []) (lenOf pd_0 rfl) rfl (by show 2 * 0 + _ ≤ _; exact Nat.le_of_eq rfl) (hb hby at_73) (fun _ _ => ⟨rfl, e0, (by decide : 0 + 0 ≤ _), (by decide : 0 + 0 ≤ _)⟩)
        dsimp only [Pt.U, Pt.locs, Pt.cells, Pt.slots] at X11 l11 y11 z11 st11 hQ11
        subst l11 y11 z11
        obtain ⟨rfl, Nq11, hh11⟩ := hQ11
        have N11 := Fr.app N0 Nq11
        refine own_via st11 ?_
        show own_G p.tables e below _ (T11.setTop (mkF m 76 #[.val (.int p1), .val (.int p2), .val (.double (FP.ddiv (FP.i2d p1) (4652218415073722368 : UInt64))), .second, .val (.double (FP.ddiv (FP.i2d p2) (4652218415073722368 : UInt64))), .second, .val (.int (0 : Int32)), .val (.int (1 : Int32)), .val (.int (0 : Int32))] [(.int (own_e p1 p2))]))
        refine own_via (S' := T11.setTop (mkF m 78 #[.val (.int p1), .val (.int p2), .val (.double (FP.ddiv (FP.i2d p1) (4652218415073722368 : UInt64))), .second, .val (.double (FP.ddiv (FP.i2d p2) (4652218415073722368 : UInt64))), .second, .val (.int (0 : Int32)), .val (.int (1 : Int32)), .val (.int (0 : Int32))] [(.int (0 : Int32)), (.int (own_e p1 p2))])) (fun t k => ?_) ?_
        · show Steps p.tables e below (T11.setTop (mkF m 76 #[.val (.int p1), .val (.int p2), .val (.double (FP.ddiv (FP.i2d p1) (4652218415073722368 : UInt64))), .second, .val (.double (FP.ddiv (FP.i2d p2) (4652218415073722368 : UInt64))), .second, .val (.int (0 : Int32)), .val (.int (1 : Int32)), .val (.int (0 : Int32))] [(.int (own_e p1 p2))])) t
          refine XS.iload X11.here hx rfl (hb hby at_76) rfl ?_
          exact k
        refine own_via (S' := T11.setTop (mkF m 81 #[.val (.int p1), .val (.int p2), .val (.double (FP.ddiv (FP.i2d p1) (4652218415073722368 : UInt64))), .second, .val (.double (FP.ddiv (FP.i2d p2) (4652218415073722368 : UInt64))), .second, .val (.int (0 : Int32)), .val (.int (1 : Int32)), .val (.int (0 : Int32))] [])) (fun t k => XS.icmpNo (g := (mkF m 78 #[.val (.int p1), .val (.int p2), .val (.double (FP.ddiv (FP.i2d p1) (4652218415073722368 : UInt64))), .second, .val (.double (FP.ddiv (FP.i2d p2) (4652218415073722368 : UInt64))), .second, .val (.int (0 : Int32)), .val (.int (1 : Int32)), .val (.int (0 : Int32))] [(.int (0 : Int32)), (.int (own_e p1 p2))])) X11.here hx rfl (hb hby at_78) rfl (teq (own_e1 ((own_lI p1 (k := -92160) (by decide)).mp hc18_1))).2 k) ?_
        refine own_via (S' := T11.setTop (mkF m 86 #[.val (.int p1), .val (.int p2), .val (.double (FP.ddiv (FP.i2d p1) (4652218415073722368 : UInt64))), .second, .val (.double (FP.ddiv (FP.i2d p2) (4652218415073722368 : UInt64))), .second, .val (.int (0 : Int32)), .val (.int (1 : Int32)), .val (.int (0 : Int32))] [(.int (1 : Int32))])) (fun t k => ?_) ?_
        · show Steps p.tables e below (T11.setTop (mkF m 81 #[.val (.int p1), .val (.int p2), .val (.double (FP.ddiv (FP.i2d p1) (4652218415073722368 : UInt64))), .second, .val (.double (FP.ddiv (FP.i2d p2) (4652218415073722368 : UInt64))), .second, .val (.int (0 : Int32)), .val (.int (1 : Int32)), .val (.int (0 : Int32))] [])) t
          refine XS.iconst X11.here hx rfl (hb hby at_81) ?_
          show Steps p.tables e below (T11.setTop (mkF m 82 #[.val (.int p1), .val (.int p2), .val (.double (FP.ddiv (FP.i2d p1) (4652218415073722368 : UInt64))), .second, .val (.double (FP.ddiv (FP.i2d p2) (4652218415073722368 : UInt64))), .second, .val (.int (0 : Int32)), .val (.int (1 : Int32)), .val (.int (0 : Int32))] [(.int (1 : Int32))])) t
          refine XS.goto X11.here hx rfl (pc0 := 82) (pc' := 86) rfl (hb hby at_82) (by decide) (by decide) ?_
          exact k
        exact own_end (h := h0) X11 (v := some (.int (1 : Int32))) Bd.notSynchronized (fun h => by rw [Bd.returns] at h; cases h) (fun fs hr => retN X11 hx (t := .boolean) Bd.returns (by simp) (hb hby at_86) hr) hh11 ⟨rfl, N11⟩ (by decide) (by decide)
  · refine own_via (S' := s₁.setTop (mkF m 21 #[.val (.int p1), .val (.int p2), .val (.double (FP.ddiv (FP.i2d p1) (4652218415073722368 : UInt64))), .second, .val (.double (FP.ddiv (FP.i2d p2) (4652218415073722368 : UInt64))), .second, .unset, .unset, .unset] [])) (fun t k => XS.icmpNo (g := (mkF m 18 #[.val (.int p1), .val (.int p2), .val (.double (FP.ddiv (FP.i2d p1) (4652218415073722368 : UInt64))), .second, .val (.double (FP.ddiv (FP.i2d p2) (4652218415073722368 : UInt64))), .second, .unset, .unset, .unset] [(.int (-92160 : Int32)), (.int p1)])) X0.here hx rfl (hb hby at_18) rfl (flt hc18_1).1 k) ?_
    refine own_via (S' := s₁.setTop (mkF m 24 #[.val (.int p1), .val (.int p2), .val (.double (FP.ddiv (FP.i2d p1) (4652218415073722368 : UInt64))), .second, .val (.double (FP.ddiv (FP.i2d p2) (4652218415073722368 : UInt64))), .second, .unset, .unset, .unset] [(.int (92160 : Int32)), (.int p1)])) (fun t k => ?_) ?_
    · show Steps p.tables e below (s₁.setTop (mkF m 21 #[.val (.int p1), .val (.int p2), .val (.double (FP.ddiv (FP.i2d p1) (4652218415073722368 : UInt64))), .second, .val (.double (FP.ddiv (FP.i2d p2) (4652218415073722368 : UInt64))), .second, .unset, .unset, .unset] [])) t
      refine XS.iloadN X0.here hx rfl (hb hby at_21) rfl ?_
      show Steps p.tables e below (s₁.setTop (mkF m 22 #[.val (.int p1), .val (.int p2), .val (.double (FP.ddiv (FP.i2d p1) (4652218415073722368 : UInt64))), .second, .val (.double (FP.ddiv (FP.i2d p2) (4652218415073722368 : UInt64))), .second, .unset, .unset, .unset] [(.int p1)])) t
      refine X0.ldcInt hx hown (mvT hZ (hw _ (List.mem_of_getElem? (i := 2) rfl))) (g := (mkF m 22 #[.val (.int p1), .val (.int p2), .val (.double (FP.ddiv (FP.i2d p1) (4652218415073722368 : UInt64))), .second, .val (.double (FP.ddiv (FP.i2d p2) (4652218415073722368 : UInt64))), .second, .unset, .unset, .unset] [(.int p1)])) rfl (hb hby at_22) _ ?_
      exact k
    by_cases hc24_13 : (92160 : Int32) < p1
    · refine own_via (S' := s₁.setTop (mkF m 31 #[.val (.int p1), .val (.int p2), .val (.double (FP.ddiv (FP.i2d p1) (4652218415073722368 : UInt64))), .second, .val (.double (FP.ddiv (FP.i2d p2) (4652218415073722368 : UInt64))), .second, .unset, .unset, .unset] [])) (fun t k => XS.icmpYes (g := (mkF m 24 #[.val (.int p1), .val (.int p2), .val (.double (FP.ddiv (FP.i2d p1) (4652218415073722368 : UInt64))), .second, .val (.double (FP.ddiv (FP.i2d p2) (4652218415073722368 : UInt64))), .second, .unset, .unset, .unset] [(.int (92160 : Int32)), (.int p1)])) X0.here hx rfl (pc0 := 24) (pc' := 31) rfl (hb hby at_24) rfl (tlt hc24_13).2.2.1 (by decide) (by decide) k) ?_
      refine own_via (S' := s₁.setTop (mkF m 37 #[.val (.int p1), .val (.int p2), .val (.double (FP.ddiv (FP.i2d p1) (4652218415073722368 : UInt64))), .second, .val (.double (FP.ddiv (FP.i2d p2) (4652218415073722368 : UInt64))), .second, .val (.int (0 : Int32)), .unset, .unset] [(.int (-184320 : Int32)), (.int p2)])) (fun t k => ?_) ?_
      · show Steps p.tables e below (s₁.setTop (mkF m 31 #[.val (.int p1), .val (.int p2), .val (.double (FP.ddiv (FP.i2d p1) (4652218415073722368 : UInt64))), .second, .val (.double (FP.ddiv (FP.i2d p2) (4652218415073722368 : UInt64))), .second, .unset, .unset, .unset] [])) t
        refine XS.iconst X0.here hx rfl (hb hby at_31) ?_
        show Steps p.tables e below (s₁.setTop (mkF m 32 #[.val (.int p1), .val (.int p2), .val (.double (FP.ddiv (FP.i2d p1) (4652218415073722368 : UInt64))), .second, .val (.double (FP.ddiv (FP.i2d p2) (4652218415073722368 : UInt64))), .second, .unset, .unset, .unset] [(.int (0 : Int32))])) t
        refine XS.istore X0.here hx rfl (hb hby at_32) rfl (l' := #[.val (.int p1), .val (.int p2), .val (.double (FP.ddiv (FP.i2d p1) (4652218415073722368 : UInt64))), .second, .val (.double (FP.ddiv (FP.i2d p2) (4652218415073722368 : UInt64))), .second, .val (.int (0 : Int32)), .unset, .unset]) rfl ?_
        show Steps p.tables e below (s₁.setTop (mkF m 34 #[.val (.int p1), .val (.int p2), .val (.double (FP.ddiv (FP.i2d p1) (4652218415073722368 : UInt64))), .second, .val (.double (FP.ddiv (FP.i2d p2) (4652218415073722368 : UInt64))), .second, .val (.int (0 : Int32)), .unset, .unset] [])) t
        refine XS.iloadN X0.here hx rfl (hb hby at_34) rfl ?_
        show Steps p.tables e below (s₁.setTop (mkF m 35 #[.val (.int p1), .val (.int p2), .val (.double (FP.ddiv (FP.i2d p1) (4652218415073722368 : UInt64))), .second, .val (.double (FP.ddiv (FP.i2d p2) (4652218415073722368 : UInt64))), .second, .val (.int (0 : Int32)), .unset, .unset] [(.int p2)])) t
        refine X0.ldcInt hx hown (mvT hZ (hw _ (List.mem_of_getElem? (i := 3) rfl))) (g := (mkF m 35 #[.val (.int p1), .val (.int p2), .val (.double (FP.ddiv (FP.i2d p1) (4652218415073722368 : UInt64))), .second, .val (.double (FP.ddiv (FP.i2d p2) (4652218415073722368 : UInt64))), .second, .val (.int (0 : Int32)), .unset, .unset] [(.int p2)])) rfl (hb hby at_35) _ ?_
        exact k
      by_cases hc37_14 : p2 < (-184320 : Int32)
      · refine own_via (S' := s₁.setTop (mkF m 50 #[.val (.int p1), .val (.int p2), .val (.double (FP.ddiv (FP.i2d p1) (4652218415073722368 : UInt64))), .second, .val (.double (FP.ddiv (FP.i2d p2) (4652218415073722368 : UInt64))), .second, .val (.int (0 : Int32)), .unset, .unset] [])) (fun t k => XS.icmpYes (g := (mkF m 37 #[.val (.int p1), .val (.int p2), .val (.double (FP.ddiv (FP.i2d p1) (4652218415073722368 : UInt64))), .second, .val (.double (FP.ddiv (FP.i2d p2) (4652218415073722368 : UInt64))), .second, .val (.int (0 : Int32)), .unset, .unset] [(.int (-184320 : Int32)), (.int p2)])) X0.here hx rfl (pc0 := 37) (pc' := 50) rfl (hb hby at_37) rfl (tlt hc37_14).1 (by decide) (by decide) k) ?_
        refine own_via (S' := s₁.setTop (mkF m 55 #[.val (.int p1), .val (.int p2), .val (.double (FP.ddiv (FP.i2d p1) (4652218415073722368 : UInt64))), .second, .val (.double (FP.ddiv (FP.i2d p2) (4652218415073722368 : UInt64))), .second, .val (.int (0 : Int32)), .val (.int (0 : Int32)), .unset] [(.int (0 : Int32))])) (fun t k => ?_) ?_
        · show Steps p.tables e below (s₁.setTop (mkF m 50 #[.val (.int p1), .val (.int p2), .val (.double (FP.ddiv (FP.i2d p1) (4652218415073722368 : UInt64))), .second, .val (.double (FP.ddiv (FP.i2d p2) (4652218415073722368 : UInt64))), .second, .val (.int (0 : Int32)), .unset, .unset] [])) t
          refine XS.iconst X0.here hx rfl (hb hby at_50) ?_
          show Steps p.tables e below (s₁.setTop (mkF m 51 #[.val (.int p1), .val (.int p2), .val (.double (FP.ddiv (FP.i2d p1) (4652218415073722368 : UInt64))), .second, .val (.double (FP.ddiv (FP.i2d p2) (4652218415073722368 : UInt64))), .second, .val (.int (0 : Int32)), .unset, .unset] [(.int (0 : Int32))])) t
          refine XS.istore X0.here hx rfl (hb hby at_51) rfl (l' := #[.val (.int p1), .val (.int p2), .val (.double (FP.ddiv (FP.i2d p1) (4652218415073722368 : UInt64))), .second, .val (.double (FP.ddiv (FP.i2d p2) (4652218415073722368 : UInt64))), .second, .val (.int (0 : Int32)), .val (.int (0 : Int32)), .unset]) rfl ?_
          show Steps p.tables e below (s₁.setTop (mkF m 53 #[.val (.int p1), .val (.int p2), .val (.double (FP.ddiv (FP.i2d p1) (4652218415073722368 : UInt64))), .second, .val (.double (FP.ddiv (FP.i2d p2) (4652218415073722368 : UInt64))), .second, .val (.int (0 : Int32)), .val (.int (0 : Int32)), .unset] [])) t
          refine XS.iload X0.here hx rfl (hb hby at_53) rfl ?_
          exact k
        refine own_via (S' := s₁.setTop (mkF m 67 #[.val (.int p1), .val (.int p2), .val (.double (FP.ddiv (FP.i2d p1) (4652218415073722368 : UInt64))), .second, .val (.double (FP.ddiv (FP.i2d p2) (4652218415073722368 : UInt64))), .second, .val (.int (0 : Int32)), .val (.int (0 : Int32)), .unset] [])) (fun t k => XS.ifYes (g := (mkF m 55 #[.val (.int p1), .val (.int p2), .val (.double (FP.ddiv (FP.i2d p1) (4652218415073722368 : UInt64))), .second, .val (.double (FP.ddiv (FP.i2d p2) (4652218415073722368 : UInt64))), .second, .val (.int (0 : Int32)), .val (.int (0 : Int32)), .unset] [(.int (0 : Int32))])) X0.here hx rfl (pc0 := 55) (pc' := 67) rfl (hb hby at_55) rfl ((if0 _ _).trans (teq (by decide : (0 : Int32) = (0 : Int32))).1) (by decide) (by decide) k) ?_
        refine own_via (S' := s₁.setTop (mkF m 73 #[.val (.int p1), .val (.int p2), .val (.double (FP.ddiv (FP.i2d p1) (4652218415073722368 : UInt64))), .second, .val (.double (FP.ddiv (FP.i2d p2) (4652218415073722368 : UInt64))), .second, .val (.int (0 : Int32)), .val (.int (0 : Int32)), .val (.int (0 : Int32))] [(.double (FP.ddiv (FP.i2d p2) (4652218415073722368 : UInt64))), (.double (FP.ddiv (FP.i2d p1) (4652218415073722368 : UInt64)))])) (fun t k => ?_) ?_
        · show Steps p.tables e below (s₁.setTop (mkF m 67 #[.val (.int p1), .val (.int p2), .val (.double (FP.ddiv (FP.i2d p1) (4652218415073722368 : UInt64))), .second, .val (.double (FP.ddiv (FP.i2d p2) (4652218415073722368 : UInt64))), .second, .val (.int (0 : Int32)), .val (.int (0 : Int32)), .unset] [])) t
          refine XS.iconst X0.here hx rfl (hb hby at_67) ?_
          show Steps p.tables e below (s₁.setTop (mkF m 68 #[.val (.int p1), .val (.int p2), .val (.double (FP.ddiv (FP.i2d p1) (4652218415073722368 : UInt64))), .second, .val (.double (FP.ddiv (FP.i2d p2) (4652218415073722368 : UInt64))), .second, .val (.int (0 : Int32)), .val (.int (0 : Int32)), .unset] [(.int (0 : Int32))])) t
          refine XS.istore X0.here hx rfl (hb hby at_68) rfl (l' := #[.val (.int p1), .val (.int p2), .val (.double (FP.ddiv (FP.i2d p1) (4652218415073722368 : UInt64))), .second, .val (.double (FP.ddiv (FP.i2d p2) (4652218415073722368 : UInt64))), .second, .val (.int (0 : Int32)), .val (.int (0 : Int32)), .val (.int (0 : Int32))]) rfl ?_
          show Steps p.tables e below (s₁.setTop (mkF m 70 #[.val (.int p1), .val (.int p2), .val (.double (FP.ddiv (FP.i2d p1) (4652218415073722368 : UInt64))), .second, .val (.double (FP.ddiv (FP.i2d p2) (4652218415073722368 : UInt64))), .second, .val (.int (0 : Int32)), .val (.int (0 : Int32)), .val (.int (0 : Int32))] [])) t
          refine XS.dloadN X0.here hx rfl (hb hby at_70) rfl ?_
          show Steps p.tables e below (s₁.setTop (mkF m 71 #[.val (.int p1), .val (.int p2), .val (.double (FP.ddiv (FP.i2d p1) (4652218415073722368 : UInt64))), .second, .val (.double (FP.ddiv (FP.i2d p2) (4652218415073722368 : UInt64))), .second, .val (.int (0 : Int32)), .val (.int (0 : Int32)), .val (.int (0 : Int32))] [(.double (FP.ddiv (FP.i2d p1) (4652218415073722368 : UInt64)))])) t
          refine XS.dload X0.here hx rfl (hb hby at_71) rfl ?_
          exact k
        obtain ⟨_, _, ⟨T16, L16, k16, n16⟩, -, X16, ⟨Lc16, hQ16, l16, y16, z16⟩, st16⟩ := Jvm.LawKit.callS X0 hx (y := (⟨"com/example/altigate/altigate/report/Position", "onEarth", "(DD)Z"⟩ : MethodName)) hown (mvT hZ (hw _ (List.mem_of_getElem? (i := 5) rfl))) (mvT hZ (hw _ (List.mem_of_getElem? (i := 6) rfl))) (mvT hZ (hw _ (List.mem_of_getElem? (i := 7) rfl))) (mvT hZ (hw _ (List.mem_of_getElem? (i := 8) rfl))) (by decide) (backOf (W := 0) (rm1 l Z a0 hw [] p1 p2 h0 n0 Z0) hZ (hw _ (List.mem_of_getElem? (i := 8) rfl)) (hw _ (List.mem_of_getElem? (i := 7) rfl)) (by decide) (by decide)) (g := (mkF m 73 #[.val (.int p1), .val (.int p2), .val (.double (FP.ddiv (FP.i2d p1) (4652218415073722368 : UInt64))), .second, .val (.double (FP.ddiv (FP.i2d p2) (4652218415073722368 : UInt64))), .second, .val (.int (0 : Int32)), .val (.int (0 : Int32)), .val (.int (0 : Int32))] [(.double (FP.ddiv (FP.i2d p2) (4652218415073722368 : UInt64))), (.double (FP.ddiv (FP.i2d p1) (4652218415073722368 : UInt64)))])) rfl (by rw [hml]; rfl) (argsL := [(.double (FP.ddiv (FP.i2d p1) (4652218415073722368 : UInt64))), (.double (FP.ddiv (FP.i2d p2) (4652218415073722368 : UInt64)))]) (rest := []) (lenOf pd_0 rfl) rfl (by show 2 * 0 + _ ≤ _; exact Nat.le_of_eq rfl) (hb hby at_73) (fun _ _ => ⟨rfl, e0, (by decide : 0 + 0 ≤ _), (by decide : 0 + 0 ≤ _)⟩)
        dsimp only [Pt.U, Pt.locs, Pt.cells, Pt.slots] at X16 l16 y16 z16 st16 hQ16
        subst l16 y16 z16
        obtain ⟨rfl, Nq16, hh16⟩ := hQ16
        have N16 := Fr.app N0 Nq16
        refine own_via st16 ?_
        show own_G p.tables e below _ (T16.setTop (mkF m 76 #[.val (.int p1), .val (.int p2), .val (.double (FP.ddiv (FP.i2d p1) (4652218415073722368 : UInt64))), .second, .val (.double (FP.ddiv (FP.i2d p2) (4652218415073722368 : UInt64))), .second, .val (.int (0 : Int32)), .val (.int (0 : Int32)), .val (.int (0 : Int32))] [(.int (own_e p1 p2))]))
        refine own_via (S' := T16.setTop (mkF m 78 #[.val (.int p1), .val (.int p2), .val (.double (FP.ddiv (FP.i2d p1) (4652218415073722368 : UInt64))), .second, .val (.double (FP.ddiv (FP.i2d p2) (4652218415073722368 : UInt64))), .second, .val (.int (0 : Int32)), .val (.int (0 : Int32)), .val (.int (0 : Int32))] [(.int (0 : Int32)), (.int (own_e p1 p2))])) (fun t k => ?_) ?_
        · show Steps p.tables e below (T16.setTop (mkF m 76 #[.val (.int p1), .val (.int p2), .val (.double (FP.ddiv (FP.i2d p1) (4652218415073722368 : UInt64))), .second, .val (.double (FP.ddiv (FP.i2d p2) (4652218415073722368 : UInt64))), .second, .val (.int (0 : Int32)), .val (.int (0 : Int32)), .val (.int (0 : Int32))] [(.int (own_e p1 p2))])) t
          refine XS.iload X16.here hx rfl (hb hby at_76) rfl ?_
          exact k
        refine own_via (S' := T16.setTop (mkF m 81 #[.val (.int p1), .val (.int p2), .val (.double (FP.ddiv (FP.i2d p1) (4652218415073722368 : UInt64))), .second, .val (.double (FP.ddiv (FP.i2d p2) (4652218415073722368 : UInt64))), .second, .val (.int (0 : Int32)), .val (.int (0 : Int32)), .val (.int (0 : Int32))] [])) (fun t k => XS.icmpNo (g := (mkF m 78 #[.val (.int p1), .val (.int p2), .val (.double (FP.ddiv (FP.i2d p1) (4652218415073722368 : UInt64))), .second, .val (.double (FP.ddiv (FP.i2d p2) (4652218415073722368 : UInt64))), .second, .val (.int (0 : Int32)), .val (.int (0 : Int32)), .val (.int (0 : Int32))] [(.int (0 : Int32)), (.int (own_e p1 p2))])) X16.here hx rfl (hb hby at_78) rfl (teq (own_e2 ((own_gI' p1 (k := 92160) (by decide)).mp hc24_13))).2 k) ?_
        refine own_via (S' := T16.setTop (mkF m 86 #[.val (.int p1), .val (.int p2), .val (.double (FP.ddiv (FP.i2d p1) (4652218415073722368 : UInt64))), .second, .val (.double (FP.ddiv (FP.i2d p2) (4652218415073722368 : UInt64))), .second, .val (.int (0 : Int32)), .val (.int (0 : Int32)), .val (.int (0 : Int32))] [(.int (1 : Int32))])) (fun t k => ?_) ?_
        · show Steps p.tables e below (T16.setTop (mkF m 81 #[.val (.int p1), .val (.int p2), .val (.double (FP.ddiv (FP.i2d p1) (4652218415073722368 : UInt64))), .second, .val (.double (FP.ddiv (FP.i2d p2) (4652218415073722368 : UInt64))), .second, .val (.int (0 : Int32)), .val (.int (0 : Int32)), .val (.int (0 : Int32))] [])) t
          refine XS.iconst X16.here hx rfl (hb hby at_81) ?_
          show Steps p.tables e below (T16.setTop (mkF m 82 #[.val (.int p1), .val (.int p2), .val (.double (FP.ddiv (FP.i2d p1) (4652218415073722368 : UInt64))), .second, .val (.double (FP.ddiv (FP.i2d p2) (4652218415073722368 : UInt64))), .second, .val (.int (0 : Int32)), .val (.int (0 : Int32)), .val (.int (0 : Int32))] [(.int (1 : Int32))])) t
          refine XS.goto X16.here hx rfl (pc0 := 82) (pc' := 86) rfl (hb hby at_82) (by decide) (by decide) ?_
          exact k
        exact own_end (h := h0) X16 (v := some (.int (1 : Int32))) Bd.notSynchronized (fun h => by rw [Bd.returns] at h; cases h) (fun fs hr => retN X16 hx (t := .boolean) Bd.returns (by simp) (hb hby at_86) hr) hh16 ⟨rfl, N16⟩ (by decide) (by decide)
      · refine own_via (S' := s₁.setTop (mkF m 40 #[.val (.int p1), .val (.int p2), .val (.double (FP.ddiv (FP.i2d p1) (4652218415073722368 : UInt64))), .second, .val (.double (FP.ddiv (FP.i2d p2) (4652218415073722368 : UInt64))), .second, .val (.int (0 : Int32)), .unset, .unset] [])) (fun t k => XS.icmpNo (g := (mkF m 37 #[.val (.int p1), .val (.int p2), .val (.double (FP.ddiv (FP.i2d p1) (4652218415073722368 : UInt64))), .second, .val (.double (FP.ddiv (FP.i2d p2) (4652218415073722368 : UInt64))), .second, .val (.int (0 : Int32)), .unset, .unset] [(.int (-184320 : Int32)), (.int p2)])) X0.here hx rfl (hb hby at_37) rfl (flt hc37_14).1 k) ?_
        refine own_via (S' := s₁.setTop (mkF m 43 #[.val (.int p1), .val (.int p2), .val (.double (FP.ddiv (FP.i2d p1) (4652218415073722368 : UInt64))), .second, .val (.double (FP.ddiv (FP.i2d p2) (4652218415073722368 : UInt64))), .second, .val (.int (0 : Int32)), .unset, .unset] [(.int (184320 : Int32)), (.int p2)])) (fun t k => ?_) ?_
        · show Steps p.tables e below (s₁.setTop (mkF m 40 #[.val (.int p1), .val (.int p2), .val (.double (FP.ddiv (FP.i2d p1) (4652218415073722368 : UInt64))), .second, .val (.double (FP.ddiv (FP.i2d p2) (4652218415073722368 : UInt64))), .second, .val (.int (0 : Int32)), .unset, .unset] [])) t
          refine XS.iloadN X0.here hx rfl (hb hby at_40) rfl ?_
          show Steps p.tables e below (s₁.setTop (mkF m 41 #[.val (.int p1), .val (.int p2), .val (.double (FP.ddiv (FP.i2d p1) (4652218415073722368 : UInt64))), .second, .val (.double (FP.ddiv (FP.i2d p2) (4652218415073722368 : UInt64))), .second, .val (.int (0 : Int32)), .unset, .unset] [(.int p2)])) t
          refine X0.ldcInt hx hown (mvT hZ (hw _ (List.mem_of_getElem? (i := 4) rfl))) (g := (mkF m 41 #[.val (.int p1), .val (.int p2), .val (.double (FP.ddiv (FP.i2d p1) (4652218415073722368 : UInt64))), .second, .val (.double (FP.ddiv (FP.i2d p2) (4652218415073722368 : UInt64))), .second, .val (.int (0 : Int32)), .unset, .unset] [(.int p2)])) rfl (hb hby at_41) _ ?_
          exact k
        by_cases hc43_18 : (184320 : Int32) < p2
        · refine own_via (S' := s₁.setTop (mkF m 50 #[.val (.int p1), .val (.int p2), .val (.double (FP.ddiv (FP.i2d p1) (4652218415073722368 : UInt64))), .second, .val (.double (FP.ddiv (FP.i2d p2) (4652218415073722368 : UInt64))), .second, .val (.int (0 : Int32)), .unset, .unset] [])) (fun t k => XS.icmpYes (g := (mkF m 43 #[.val (.int p1), .val (.int p2), .val (.double (FP.ddiv (FP.i2d p1) (4652218415073722368 : UInt64))), .second, .val (.double (FP.ddiv (FP.i2d p2) (4652218415073722368 : UInt64))), .second, .val (.int (0 : Int32)), .unset, .unset] [(.int (184320 : Int32)), (.int p2)])) X0.here hx rfl (pc0 := 43) (pc' := 50) rfl (hb hby at_43) rfl (tlt hc43_18).2.2.1 (by decide) (by decide) k) ?_
          refine own_via (S' := s₁.setTop (mkF m 55 #[.val (.int p1), .val (.int p2), .val (.double (FP.ddiv (FP.i2d p1) (4652218415073722368 : UInt64))), .second, .val (.double (FP.ddiv (FP.i2d p2) (4652218415073722368 : UInt64))), .second, .val (.int (0 : Int32)), .val (.int (0 : Int32)), .unset] [(.int (0 : Int32))])) (fun t k => ?_) ?_
          · show Steps p.tables e below (s₁.setTop (mkF m 50 #[.val (.int p1), .val (.int p2), .val (.double (FP.ddiv (FP.i2d p1) (4652218415073722368 : UInt64))), .second, .val (.double (FP.ddiv (FP.i2d p2) (4652218415073722368 : UInt64))), .second, .val (.int (0 : Int32)), .unset, .unset] [])) t
            refine XS.iconst X0.here hx rfl (hb hby at_50) ?_
            show Steps p.tables e below (s₁.setTop (mkF m 51 #[.val (.int p1), .val (.int p2), .val (.double (FP.ddiv (FP.i2d p1) (4652218415073722368 : UInt64))), .second, .val (.double (FP.ddiv (FP.i2d p2) (4652218415073722368 : UInt64))), .second, .val (.int (0 : Int32)), .unset, .unset] [(.int (0 : Int32))])) t
            refine XS.istore X0.here hx rfl (hb hby at_51) rfl (l' := #[.val (.int p1), .val (.int p2), .val (.double (FP.ddiv (FP.i2d p1) (4652218415073722368 : UInt64))), .second, .val (.double (FP.ddiv (FP.i2d p2) (4652218415073722368 : UInt64))), .second, .val (.int (0 : Int32)), .val (.int (0 : Int32)), .unset]) rfl ?_
            show Steps p.tables e below (s₁.setTop (mkF m 53 #[.val (.int p1), .val (.int p2), .val (.double (FP.ddiv (FP.i2d p1) (4652218415073722368 : UInt64))), .second, .val (.double (FP.ddiv (FP.i2d p2) (4652218415073722368 : UInt64))), .second, .val (.int (0 : Int32)), .val (.int (0 : Int32)), .unset] [])) t
            refine XS.iload X0.here hx rfl (hb hby at_53) rfl ?_
            exact k
          refine own_via (S' := s₁.setTop (mkF m 67 #[.val (.int p1), .val (.int p2), .val (.double (FP.ddiv (FP.i2d p1) (4652218415073722368 : UInt64))), .second, .val (.double (FP.ddiv (FP.i2d p2) (4652218415073722368 : UInt64))), .second, .val (.int (0 : Int32)), .val (.int (0 : Int32)), .unset] [])) (fun t k => XS.ifYes (g := (mkF m 55 #[.val (.int p1), .val (.int p2), .val (.double (FP.ddiv (FP.i2d p1) (4652218415073722368 : UInt64))), .second, .val (.double (FP.ddiv (FP.i2d p2) (4652218415073722368 : UInt64))), .second, .val (.int (0 : Int32)), .val (.int (0 : Int32)), .unset] [(.int (0 : Int32))])) X0.here hx rfl (pc0 := 55) (pc' := 67) rfl (hb hby at_55) rfl ((if0 _ _).trans (teq (by decide : (0 : Int32) = (0 : Int32))).1) (by decide) (by decide) k) ?_
          refine own_via (S' := s₁.setTop (mkF m 73 #[.val (.int p1), .val (.int p2), .val (.double (FP.ddiv (FP.i2d p1) (4652218415073722368 : UInt64))), .second, .val (.double (FP.ddiv (FP.i2d p2) (4652218415073722368 : UInt64))), .second, .val (.int (0 : Int32)), .val (.int (0 : Int32)), .val (.int (0 : Int32))] [(.double (FP.ddiv (FP.i2d p2) (4652218415073722368 : UInt64))), (.double (FP.ddiv (FP.i2d p1) (4652218415073722368 : UInt64)))])) (fun t k => ?_) ?_
          · show Steps p.tables e below (s₁.setTop (mkF m 67 #[.val (.int p1), .val (.int p2), .val (.double (FP.ddiv (FP.i2d p1) (4652218415073722368 : UInt64))), .second, .val (.double (FP.ddiv (FP.i2d p2) (4652218415073722368 : UInt64))), .second, .val (.int (0 : Int32)), .val (.int (0 : Int32)), .unset] [])) t
            refine XS.iconst X0.here hx rfl (hb hby at_67) ?_
            show Steps p.tables e below (s₁.setTop (mkF m 68 #[.val (.int p1), .val (.int p2), .val (.double (FP.ddiv (FP.i2d p1) (4652218415073722368 : UInt64))), .second, .val (.double (FP.ddiv (FP.i2d p2) (4652218415073722368 : UInt64))), .second, .val (.int (0 : Int32)), .val (.int (0 : Int32)), .unset] [(.int (0 : Int32))])) t
            refine XS.istore X0.here hx rfl (hb hby at_68) rfl (l' := #[.val (.int p1), .val (.int p2), .val (.double (FP.ddiv (FP.i2d p1) (4652218415073722368 : UInt64))), .second, .val (.double (FP.ddiv (FP.i2d p2) (4652218415073722368 : UInt64))), .second, .val (.int (0 : Int32)), .val (.int (0 : Int32)), .val (.int (0 : Int32))]) rfl ?_
            show Steps p.tables e below (s₁.setTop (mkF m 70 #[.val (.int p1), .val (.int p2), .val (.double (FP.ddiv (FP.i2d p1) (4652218415073722368 : UInt64))), .second, .val (.double (FP.ddiv (FP.i2d p2) (4652218415073722368 : UInt64))), .second, .val (.int (0 : Int32)), .val (.int (0 : Int32)), .val (.int (0 : Int32))] [])) t
            refine XS.dloadN X0.here hx rfl (hb hby at_70) rfl ?_
            show Steps p.tables e below (s₁.setTop (mkF m 71 #[.val (.int p1), .val (.int p2), .val (.double (FP.ddiv (FP.i2d p1) (4652218415073722368 : UInt64))), .second, .val (.double (FP.ddiv (FP.i2d p2) (4652218415073722368 : UInt64))), .second, .val (.int (0 : Int32)), .val (.int (0 : Int32)), .val (.int (0 : Int32))] [(.double (FP.ddiv (FP.i2d p1) (4652218415073722368 : UInt64)))])) t
            refine XS.dload X0.here hx rfl (hb hby at_71) rfl ?_
            exact k
          obtain ⟨_, _, ⟨T20, L20, k20, n20⟩, -, X20, ⟨Lc20, hQ20, l20, y20, z20⟩, st20⟩ := Jvm.LawKit.callS X0 hx (y := (⟨"com/example/altigate/altigate/report/Position", "onEarth", "(DD)Z"⟩ : MethodName)) hown (mvT hZ (hw _ (List.mem_of_getElem? (i := 5) rfl))) (mvT hZ (hw _ (List.mem_of_getElem? (i := 6) rfl))) (mvT hZ (hw _ (List.mem_of_getElem? (i := 7) rfl))) (mvT hZ (hw _ (List.mem_of_getElem? (i := 8) rfl))) (by decide) (backOf (W := 0) (rm1 l Z a0 hw [] p1 p2 h0 n0 Z0) hZ (hw _ (List.mem_of_getElem? (i := 8) rfl)) (hw _ (List.mem_of_getElem? (i := 7) rfl)) (by decide) (by decide)) (g := (mkF m 73 #[.val (.int p1), .val (.int p2), .val (.double (FP.ddiv (FP.i2d p1) (4652218415073722368 : UInt64))), .second, .val (.double (FP.ddiv (FP.i2d p2) (4652218415073722368 : UInt64))), .second, .val (.int (0 : Int32)), .val (.int (0 : Int32)), .val (.int (0 : Int32))] [(.double (FP.ddiv (FP.i2d p2) (4652218415073722368 : UInt64))), (.double (FP.ddiv (FP.i2d p1) (4652218415073722368 : UInt64)))])) rfl (by rw [hml]; rfl) (argsL := [(.double (FP.ddiv (FP.i2d p1) (4652218415073722368 : UInt64))), (.double (FP.ddiv (FP.i2d p2) (4652218415073722368 : UInt64)))]) (rest := []) (lenOf pd_0 rfl) rfl (by show 2 * 0 + _ ≤ _; exact Nat.le_of_eq rfl) (hb hby at_73) (fun _ _ => ⟨rfl, e0, (by decide : 0 + 0 ≤ _), (by decide : 0 + 0 ≤ _)⟩)
          dsimp only [Pt.U, Pt.locs, Pt.cells, Pt.slots] at X20 l20 y20 z20 st20 hQ20
          subst l20 y20 z20
          obtain ⟨rfl, Nq20, hh20⟩ := hQ20
          have N20 := Fr.app N0 Nq20
          refine own_via st20 ?_
          show own_G p.tables e below _ (T20.setTop (mkF m 76 #[.val (.int p1), .val (.int p2), .val (.double (FP.ddiv (FP.i2d p1) (4652218415073722368 : UInt64))), .second, .val (.double (FP.ddiv (FP.i2d p2) (4652218415073722368 : UInt64))), .second, .val (.int (0 : Int32)), .val (.int (0 : Int32)), .val (.int (0 : Int32))] [(.int (own_e p1 p2))]))
          refine own_via (S' := T20.setTop (mkF m 78 #[.val (.int p1), .val (.int p2), .val (.double (FP.ddiv (FP.i2d p1) (4652218415073722368 : UInt64))), .second, .val (.double (FP.ddiv (FP.i2d p2) (4652218415073722368 : UInt64))), .second, .val (.int (0 : Int32)), .val (.int (0 : Int32)), .val (.int (0 : Int32))] [(.int (0 : Int32)), (.int (own_e p1 p2))])) (fun t k => ?_) ?_
          · show Steps p.tables e below (T20.setTop (mkF m 76 #[.val (.int p1), .val (.int p2), .val (.double (FP.ddiv (FP.i2d p1) (4652218415073722368 : UInt64))), .second, .val (.double (FP.ddiv (FP.i2d p2) (4652218415073722368 : UInt64))), .second, .val (.int (0 : Int32)), .val (.int (0 : Int32)), .val (.int (0 : Int32))] [(.int (own_e p1 p2))])) t
            refine XS.iload X20.here hx rfl (hb hby at_76) rfl ?_
            exact k
          refine own_via (S' := T20.setTop (mkF m 81 #[.val (.int p1), .val (.int p2), .val (.double (FP.ddiv (FP.i2d p1) (4652218415073722368 : UInt64))), .second, .val (.double (FP.ddiv (FP.i2d p2) (4652218415073722368 : UInt64))), .second, .val (.int (0 : Int32)), .val (.int (0 : Int32)), .val (.int (0 : Int32))] [])) (fun t k => XS.icmpNo (g := (mkF m 78 #[.val (.int p1), .val (.int p2), .val (.double (FP.ddiv (FP.i2d p1) (4652218415073722368 : UInt64))), .second, .val (.double (FP.ddiv (FP.i2d p2) (4652218415073722368 : UInt64))), .second, .val (.int (0 : Int32)), .val (.int (0 : Int32)), .val (.int (0 : Int32))] [(.int (0 : Int32)), (.int (own_e p1 p2))])) X20.here hx rfl (hb hby at_78) rfl (teq (own_e2 ((own_gI' p1 (k := 92160) (by decide)).mp hc24_13))).2 k) ?_
          refine own_via (S' := T20.setTop (mkF m 86 #[.val (.int p1), .val (.int p2), .val (.double (FP.ddiv (FP.i2d p1) (4652218415073722368 : UInt64))), .second, .val (.double (FP.ddiv (FP.i2d p2) (4652218415073722368 : UInt64))), .second, .val (.int (0 : Int32)), .val (.int (0 : Int32)), .val (.int (0 : Int32))] [(.int (1 : Int32))])) (fun t k => ?_) ?_
          · show Steps p.tables e below (T20.setTop (mkF m 81 #[.val (.int p1), .val (.int p2), .val (.double (FP.ddiv (FP.i2d p1) (4652218415073722368 : UInt64))), .second, .val (.double (FP.ddiv (FP.i2d p2) (4652218415073722368 : UInt64))), .second, .val (.int (0 : Int32)), .val (.int (0 : Int32)), .val (.int (0 : Int32))] [])) t
            refine XS.iconst X20.here hx rfl (hb hby at_81) ?_
            show Steps p.tables e below (T20.setTop (mkF m 82 #[.val (.int p1), .val (.int p2), .val (.double (FP.ddiv (FP.i2d p1) (4652218415073722368 : UInt64))), .second, .val (.double (FP.ddiv (FP.i2d p2) (4652218415073722368 : UInt64))), .second, .val (.int (0 : Int32)), .val (.int (0 : Int32)), .val (.int (0 : Int32))] [(.int (1 : Int32))])) t
            refine XS.goto X20.here hx rfl (pc0 := 82) (pc' := 86) rfl (hb hby at_82) (by decide) (by decide) ?_
            exact k
          exact own_end (h := h0) X20 (v := some (.int (1 : Int32))) Bd.notSynchronized (fun h => by rw [Bd.returns] at h; cases h) (fun fs hr => retN X20 hx (t := .boolean) Bd.returns (by simp) (hb hby at_86) hr) hh20 ⟨rfl, N20⟩ (by decide) (by decide)
        · refine own_via (S' := s₁.setTop (mkF m 46 #[.val (.int p1), .val (.int p2), .val (.double (FP.ddiv (FP.i2d p1) (4652218415073722368 : UInt64))), .second, .val (.double (FP.ddiv (FP.i2d p2) (4652218415073722368 : UInt64))), .second, .val (.int (0 : Int32)), .unset, .unset] [])) (fun t k => XS.icmpNo (g := (mkF m 43 #[.val (.int p1), .val (.int p2), .val (.double (FP.ddiv (FP.i2d p1) (4652218415073722368 : UInt64))), .second, .val (.double (FP.ddiv (FP.i2d p2) (4652218415073722368 : UInt64))), .second, .val (.int (0 : Int32)), .unset, .unset] [(.int (184320 : Int32)), (.int p2)])) X0.here hx rfl (hb hby at_43) rfl (flt hc43_18).2.2.1 k) ?_
          refine own_via (S' := s₁.setTop (mkF m 55 #[.val (.int p1), .val (.int p2), .val (.double (FP.ddiv (FP.i2d p1) (4652218415073722368 : UInt64))), .second, .val (.double (FP.ddiv (FP.i2d p2) (4652218415073722368 : UInt64))), .second, .val (.int (0 : Int32)), .val (.int (1 : Int32)), .unset] [(.int (0 : Int32))])) (fun t k => ?_) ?_
          · show Steps p.tables e below (s₁.setTop (mkF m 46 #[.val (.int p1), .val (.int p2), .val (.double (FP.ddiv (FP.i2d p1) (4652218415073722368 : UInt64))), .second, .val (.double (FP.ddiv (FP.i2d p2) (4652218415073722368 : UInt64))), .second, .val (.int (0 : Int32)), .unset, .unset] [])) t
            refine XS.iconst X0.here hx rfl (hb hby at_46) ?_
            show Steps p.tables e below (s₁.setTop (mkF m 47 #[.val (.int p1), .val (.int p2), .val (.double (FP.ddiv (FP.i2d p1) (4652218415073722368 : UInt64))), .second, .val (.double (FP.ddiv (FP.i2d p2) (4652218415073722368 : UInt64))), .second, .val (.int (0 : Int32)), .unset, .unset] [(.int (1 : Int32))])) t
            refine XS.goto X0.here hx rfl (pc0 := 47) (pc' := 51) rfl (hb hby at_47) (by decide) (by decide) ?_
            show Steps p.tables e below (s₁.setTop (mkF m 51 #[.val (.int p1), .val (.int p2), .val (.double (FP.ddiv (FP.i2d p1) (4652218415073722368 : UInt64))), .second, .val (.double (FP.ddiv (FP.i2d p2) (4652218415073722368 : UInt64))), .second, .val (.int (0 : Int32)), .unset, .unset] [(.int (1 : Int32))])) t
            refine XS.istore X0.here hx rfl (hb hby at_51) rfl (l' := #[.val (.int p1), .val (.int p2), .val (.double (FP.ddiv (FP.i2d p1) (4652218415073722368 : UInt64))), .second, .val (.double (FP.ddiv (FP.i2d p2) (4652218415073722368 : UInt64))), .second, .val (.int (0 : Int32)), .val (.int (1 : Int32)), .unset]) rfl ?_
            show Steps p.tables e below (s₁.setTop (mkF m 53 #[.val (.int p1), .val (.int p2), .val (.double (FP.ddiv (FP.i2d p1) (4652218415073722368 : UInt64))), .second, .val (.double (FP.ddiv (FP.i2d p2) (4652218415073722368 : UInt64))), .second, .val (.int (0 : Int32)), .val (.int (1 : Int32)), .unset] [])) t
            refine XS.iload X0.here hx rfl (hb hby at_53) rfl ?_
            exact k
          refine own_via (S' := s₁.setTop (mkF m 67 #[.val (.int p1), .val (.int p2), .val (.double (FP.ddiv (FP.i2d p1) (4652218415073722368 : UInt64))), .second, .val (.double (FP.ddiv (FP.i2d p2) (4652218415073722368 : UInt64))), .second, .val (.int (0 : Int32)), .val (.int (1 : Int32)), .unset] [])) (fun t k => XS.ifYes (g := (mkF m 55 #[.val (.int p1), .val (.int p2), .val (.double (FP.ddiv (FP.i2d p1) (4652218415073722368 : UInt64))), .second, .val (.double (FP.ddiv (FP.i2d p2) (4652218415073722368 : UInt64))), .second, .val (.int (0 : Int32)), .val (.int (1 : Int32)), .unset] [(.int (0 : Int32))])) X0.here hx rfl (pc0 := 55) (pc' := 67) rfl (hb hby at_55) rfl ((if0 _ _).trans (teq (by decide : (0 : Int32) = (0 : Int32))).1) (by decide) (by decide) k) ?_
          refine own_via (S' := s₁.setTop (mkF m 73 #[.val (.int p1), .val (.int p2), .val (.double (FP.ddiv (FP.i2d p1) (4652218415073722368 : UInt64))), .second, .val (.double (FP.ddiv (FP.i2d p2) (4652218415073722368 : UInt64))), .second, .val (.int (0 : Int32)), .val (.int (1 : Int32)), .val (.int (0 : Int32))] [(.double (FP.ddiv (FP.i2d p2) (4652218415073722368 : UInt64))), (.double (FP.ddiv (FP.i2d p1) (4652218415073722368 : UInt64)))])) (fun t k => ?_) ?_
          · show Steps p.tables e below (s₁.setTop (mkF m 67 #[.val (.int p1), .val (.int p2), .val (.double (FP.ddiv (FP.i2d p1) (4652218415073722368 : UInt64))), .second, .val (.double (FP.ddiv (FP.i2d p2) (4652218415073722368 : UInt64))), .second, .val (.int (0 : Int32)), .val (.int (1 : Int32)), .unset] [])) t
            refine XS.iconst X0.here hx rfl (hb hby at_67) ?_
            show Steps p.tables e below (s₁.setTop (mkF m 68 #[.val (.int p1), .val (.int p2), .val (.double (FP.ddiv (FP.i2d p1) (4652218415073722368 : UInt64))), .second, .val (.double (FP.ddiv (FP.i2d p2) (4652218415073722368 : UInt64))), .second, .val (.int (0 : Int32)), .val (.int (1 : Int32)), .unset] [(.int (0 : Int32))])) t
            refine XS.istore X0.here hx rfl (hb hby at_68) rfl (l' := #[.val (.int p1), .val (.int p2), .val (.double (FP.ddiv (FP.i2d p1) (4652218415073722368 : UInt64))), .second, .val (.double (FP.ddiv (FP.i2d p2) (4652218415073722368 : UInt64))), .second, .val (.int (0 : Int32)), .val (.int (1 : Int32)), .val (.int (0 : Int32))]) rfl ?_
            show Steps p.tables e below (s₁.setTop (mkF m 70 #[.val (.int p1), .val (.int p2), .val (.double (FP.ddiv (FP.i2d p1) (4652218415073722368 : UInt64))), .second, .val (.double (FP.ddiv (FP.i2d p2) (4652218415073722368 : UInt64))), .second, .val (.int (0 : Int32)), .val (.int (1 : Int32)), .val (.int (0 : Int32))] [])) t
            refine XS.dloadN X0.here hx rfl (hb hby at_70) rfl ?_
            show Steps p.tables e below (s₁.setTop (mkF m 71 #[.val (.int p1), .val (.int p2), .val (.double (FP.ddiv (FP.i2d p1) (4652218415073722368 : UInt64))), .second, .val (.double (FP.ddiv (FP.i2d p2) (4652218415073722368 : UInt64))), .second, .val (.int (0 : Int32)), .val (.int (1 : Int32)), .val (.int (0 : Int32))] [(.double (FP.ddiv (FP.i2d p1) (4652218415073722368 : UInt64)))])) t
            refine XS.dload X0.here hx rfl (hb hby at_71) rfl ?_
            exact k
          obtain ⟨_, _, ⟨T23, L23, k23, n23⟩, -, X23, ⟨Lc23, hQ23, l23, y23, z23⟩, st23⟩ := Jvm.LawKit.callS X0 hx (y := (⟨"com/example/altigate/altigate/report/Position", "onEarth", "(DD)Z"⟩ : MethodName)) hown (mvT hZ (hw _ (List.mem_of_getElem? (i := 5) rfl))) (mvT hZ (hw _ (List.mem_of_getElem? (i := 6) rfl))) (mvT hZ (hw _ (List.mem_of_getElem? (i := 7) rfl))) (mvT hZ (hw _ (List.mem_of_getElem? (i := 8) rfl))) (by decide) (backOf (W := 0) (rm1 l Z a0 hw [] p1 p2 h0 n0 Z0) hZ (hw _ (List.mem_of_getElem? (i := 8) rfl)) (hw _ (List.mem_of_getElem? (i := 7) rfl)) (by decide) (by decide)) (g := (mkF m 73 #[.val (.int p1), .val (.int p2), .val (.double (FP.ddiv (FP.i2d p1) (4652218415073722368 : UInt64))), .second, .val (.double (FP.ddiv (FP.i2d p2) (4652218415073722368 : UInt64))), .second, .val (.int (0 : Int32)), .val (.int (1 : Int32)), .val (.int (0 : Int32))] [(.double (FP.ddiv (FP.i2d p2) (4652218415073722368 : UInt64))), (.double (FP.ddiv (FP.i2d p1) (4652218415073722368 : UInt64)))])) rfl (by rw [hml]; rfl) (argsL := [(.double (FP.ddiv (FP.i2d p1) (4652218415073722368 : UInt64))), (.double (FP.ddiv (FP.i2d p2) (4652218415073722368 : UInt64)))]) (rest := []) (lenOf pd_0 rfl) rfl (by show 2 * 0 + _ ≤ _; exact Nat.le_of_eq rfl) (hb hby at_73) (fun _ _ => ⟨rfl, e0, (by decide : 0 + 0 ≤ _), (by decide : 0 + 0 ≤ _)⟩)
          dsimp only [Pt.U, Pt.locs, Pt.cells, Pt.slots] at X23 l23 y23 z23 st23 hQ23
          subst l23 y23 z23
          obtain ⟨rfl, Nq23, hh23⟩ := hQ23
          have N23 := Fr.app N0 Nq23
          refine own_via st23 ?_
          show own_G p.tables e below _ (T23.setTop (mkF m 76 #[.val (.int p1), .val (.int p2), .val (.double (FP.ddiv (FP.i2d p1) (4652218415073722368 : UInt64))), .second, .val (.double (FP.ddiv (FP.i2d p2) (4652218415073722368 : UInt64))), .second, .val (.int (0 : Int32)), .val (.int (1 : Int32)), .val (.int (0 : Int32))] [(.int (own_e p1 p2))]))
          refine own_via (S' := T23.setTop (mkF m 78 #[.val (.int p1), .val (.int p2), .val (.double (FP.ddiv (FP.i2d p1) (4652218415073722368 : UInt64))), .second, .val (.double (FP.ddiv (FP.i2d p2) (4652218415073722368 : UInt64))), .second, .val (.int (0 : Int32)), .val (.int (1 : Int32)), .val (.int (0 : Int32))] [(.int (0 : Int32)), (.int (own_e p1 p2))])) (fun t k => ?_) ?_
          · show Steps p.tables e below (T23.setTop (mkF m 76 #[.val (.int p1), .val (.int p2), .val (.double (FP.ddiv (FP.i2d p1) (4652218415073722368 : UInt64))), .second, .val (.double (FP.ddiv (FP.i2d p2) (4652218415073722368 : UInt64))), .second, .val (.int (0 : Int32)), .val (.int (1 : Int32)), .val (.int (0 : Int32))] [(.int (own_e p1 p2))])) t
            refine XS.iload X23.here hx rfl (hb hby at_76) rfl ?_
            exact k
          refine own_via (S' := T23.setTop (mkF m 81 #[.val (.int p1), .val (.int p2), .val (.double (FP.ddiv (FP.i2d p1) (4652218415073722368 : UInt64))), .second, .val (.double (FP.ddiv (FP.i2d p2) (4652218415073722368 : UInt64))), .second, .val (.int (0 : Int32)), .val (.int (1 : Int32)), .val (.int (0 : Int32))] [])) (fun t k => XS.icmpNo (g := (mkF m 78 #[.val (.int p1), .val (.int p2), .val (.double (FP.ddiv (FP.i2d p1) (4652218415073722368 : UInt64))), .second, .val (.double (FP.ddiv (FP.i2d p2) (4652218415073722368 : UInt64))), .second, .val (.int (0 : Int32)), .val (.int (1 : Int32)), .val (.int (0 : Int32))] [(.int (0 : Int32)), (.int (own_e p1 p2))])) X23.here hx rfl (hb hby at_78) rfl (teq (own_e2 ((own_gI' p1 (k := 92160) (by decide)).mp hc24_13))).2 k) ?_
          refine own_via (S' := T23.setTop (mkF m 86 #[.val (.int p1), .val (.int p2), .val (.double (FP.ddiv (FP.i2d p1) (4652218415073722368 : UInt64))), .second, .val (.double (FP.ddiv (FP.i2d p2) (4652218415073722368 : UInt64))), .second, .val (.int (0 : Int32)), .val (.int (1 : Int32)), .val (.int (0 : Int32))] [(.int (1 : Int32))])) (fun t k => ?_) ?_
          · show Steps p.tables e below (T23.setTop (mkF m 81 #[.val (.int p1), .val (.int p2), .val (.double (FP.ddiv (FP.i2d p1) (4652218415073722368 : UInt64))), .second, .val (.double (FP.ddiv (FP.i2d p2) (4652218415073722368 : UInt64))), .second, .val (.int (0 : Int32)), .val (.int (1 : Int32)), .val (.int (0 : Int32))] [])) t
            refine XS.iconst X23.here hx rfl (hb hby at_81) ?_
            show Steps p.tables e below (T23.setTop (mkF m 82 #[.val (.int p1), .val (.int p2), .val (.double (FP.ddiv (FP.i2d p1) (4652218415073722368 : UInt64))), .second, .val (.double (FP.ddiv (FP.i2d p2) (4652218415073722368 : UInt64))), .second, .val (.int (0 : Int32)), .val (.int (1 : Int32)), .val (.int (0 : Int32))] [(.int (1 : Int32))])) t
            refine XS.goto X23.here hx rfl (pc0 := 82) (pc' := 86) rfl (hb hby at_82) (by decide) (by decide) ?_
            exact k
          exact own_end (h := h0) X23 (v := some (.int (1 : Int32))) Bd.notSynchronized (fun h => by rw [Bd.returns] at h; cases h) (fun fs hr => retN X23 hx (t := .boolean) Bd.returns (by simp) (hb hby at_86) hr) hh23 ⟨rfl, N23⟩ (by decide) (by decide)
    · refine own_via (S' := s₁.setTop (mkF m 27 #[.val (.int p1), .val (.int p2), .val (.double (FP.ddiv (FP.i2d p1) (4652218415073722368 : UInt64))), .second, .val (.double (FP.ddiv (FP.i2d p2) (4652218415073722368 : UInt64))), .second, .unset, .unset, .unset] [])) (fun t k => XS.icmpNo (g := (mkF m 24 #[.val (.int p1), .val (.int p2), .val (.double (FP.ddiv (FP.i2d p1) (4652218415073722368 : UInt64))), .second, .val (.double (FP.ddiv (FP.i2d p2) (4652218415073722368 : UInt64))), .second, .unset, .unset, .unset] [(.int (92160 : Int32)), (.int p1)])) X0.here hx rfl (hb hby at_24) rfl (flt hc24_13).2.2.1 k) ?_
      refine own_via (S' := s₁.setTop (mkF m 37 #[.val (.int p1), .val (.int p2), .val (.double (FP.ddiv (FP.i2d p1) (4652218415073722368 : UInt64))), .second, .val (.double (FP.ddiv (FP.i2d p2) (4652218415073722368 : UInt64))), .second, .val (.int (1 : Int32)), .unset, .unset] [(.int (-184320 : Int32)), (.int p2)])) (fun t k => ?_) ?_
      · show Steps p.tables e below (s₁.setTop (mkF m 27 #[.val (.int p1), .val (.int p2), .val (.double (FP.ddiv (FP.i2d p1) (4652218415073722368 : UInt64))), .second, .val (.double (FP.ddiv (FP.i2d p2) (4652218415073722368 : UInt64))), .second, .unset, .unset, .unset] [])) t
        refine XS.iconst X0.here hx rfl (hb hby at_27) ?_
        show Steps p.tables e below (s₁.setTop (mkF m 28 #[.val (.int p1), .val (.int p2), .val (.double (FP.ddiv (FP.i2d p1) (4652218415073722368 : UInt64))), .second, .val (.double (FP.ddiv (FP.i2d p2) (4652218415073722368 : UInt64))), .second, .unset, .unset, .unset] [(.int (1 : Int32))])) t
        refine XS.goto X0.here hx rfl (pc0 := 28) (pc' := 32) rfl (hb hby at_28) (by decide) (by decide) ?_
        show Steps p.tables e below (s₁.setTop (mkF m 32 #[.val (.int p1), .val (.int p2), .val (.double (FP.ddiv (FP.i2d p1) (4652218415073722368 : UInt64))), .second, .val (.double (FP.ddiv (FP.i2d p2) (4652218415073722368 : UInt64))), .second, .unset, .unset, .unset] [(.int (1 : Int32))])) t
        refine XS.istore X0.here hx rfl (hb hby at_32) rfl (l' := #[.val (.int p1), .val (.int p2), .val (.double (FP.ddiv (FP.i2d p1) (4652218415073722368 : UInt64))), .second, .val (.double (FP.ddiv (FP.i2d p2) (4652218415073722368 : UInt64))), .second, .val (.int (1 : Int32)), .unset, .unset]) rfl ?_
        show Steps p.tables e below (s₁.setTop (mkF m 34 #[.val (.int p1), .val (.int p2), .val (.double (FP.ddiv (FP.i2d p1) (4652218415073722368 : UInt64))), .second, .val (.double (FP.ddiv (FP.i2d p2) (4652218415073722368 : UInt64))), .second, .val (.int (1 : Int32)), .unset, .unset] [])) t
        refine XS.iloadN X0.here hx rfl (hb hby at_34) rfl ?_
        show Steps p.tables e below (s₁.setTop (mkF m 35 #[.val (.int p1), .val (.int p2), .val (.double (FP.ddiv (FP.i2d p1) (4652218415073722368 : UInt64))), .second, .val (.double (FP.ddiv (FP.i2d p2) (4652218415073722368 : UInt64))), .second, .val (.int (1 : Int32)), .unset, .unset] [(.int p2)])) t
        refine X0.ldcInt hx hown (mvT hZ (hw _ (List.mem_of_getElem? (i := 3) rfl))) (g := (mkF m 35 #[.val (.int p1), .val (.int p2), .val (.double (FP.ddiv (FP.i2d p1) (4652218415073722368 : UInt64))), .second, .val (.double (FP.ddiv (FP.i2d p2) (4652218415073722368 : UInt64))), .second, .val (.int (1 : Int32)), .unset, .unset] [(.int p2)])) rfl (hb hby at_35) _ ?_
        exact k
      by_cases hc37_25 : p2 < (-184320 : Int32)
      · refine own_via (S' := s₁.setTop (mkF m 50 #[.val (.int p1), .val (.int p2), .val (.double (FP.ddiv (FP.i2d p1) (4652218415073722368 : UInt64))), .second, .val (.double (FP.ddiv (FP.i2d p2) (4652218415073722368 : UInt64))), .second, .val (.int (1 : Int32)), .unset, .unset] [])) (fun t k => XS.icmpYes (g := (mkF m 37 #[.val (.int p1), .val (.int p2), .val (.double (FP.ddiv (FP.i2d p1) (4652218415073722368 : UInt64))), .second, .val (.double (FP.ddiv (FP.i2d p2) (4652218415073722368 : UInt64))), .second, .val (.int (1 : Int32)), .unset, .unset] [(.int (-184320 : Int32)), (.int p2)])) X0.here hx rfl (pc0 := 37) (pc' := 50) rfl (hb hby at_37) rfl (tlt hc37_25).1 (by decide) (by decide) k) ?_
        refine own_via (S' := s₁.setTop (mkF m 55 #[.val (.int p1), .val (.int p2), .val (.double (FP.ddiv (FP.i2d p1) (4652218415073722368 : UInt64))), .second, .val (.double (FP.ddiv (FP.i2d p2) (4652218415073722368 : UInt64))), .second, .val (.int (1 : Int32)), .val (.int (0 : Int32)), .unset] [(.int (1 : Int32))])) (fun t k => ?_) ?_
        · show Steps p.tables e below (s₁.setTop (mkF m 50 #[.val (.int p1), .val (.int p2), .val (.double (FP.ddiv (FP.i2d p1) (4652218415073722368 : UInt64))), .second, .val (.double (FP.ddiv (FP.i2d p2) (4652218415073722368 : UInt64))), .second, .val (.int (1 : Int32)), .unset, .unset] [])) t
          refine XS.iconst X0.here hx rfl (hb hby at_50) ?_
          show Steps p.tables e below (s₁.setTop (mkF m 51 #[.val (.int p1), .val (.int p2), .val (.double (FP.ddiv (FP.i2d p1) (4652218415073722368 : UInt64))), .second, .val (.double (FP.ddiv (FP.i2d p2) (4652218415073722368 : UInt64))), .second, .val (.int (1 : Int32)), .unset, .unset] [(.int (0 : Int32))])) t
          refine XS.istore X0.here hx rfl (hb hby at_51) rfl (l' := #[.val (.int p1), .val (.int p2), .val (.double (FP.ddiv (FP.i2d p1) (4652218415073722368 : UInt64))), .second, .val (.double (FP.ddiv (FP.i2d p2) (4652218415073722368 : UInt64))), .second, .val (.int (1 : Int32)), .val (.int (0 : Int32)), .unset]) rfl ?_
          show Steps p.tables e below (s₁.setTop (mkF m 53 #[.val (.int p1), .val (.int p2), .val (.double (FP.ddiv (FP.i2d p1) (4652218415073722368 : UInt64))), .second, .val (.double (FP.ddiv (FP.i2d p2) (4652218415073722368 : UInt64))), .second, .val (.int (1 : Int32)), .val (.int (0 : Int32)), .unset] [])) t
          refine XS.iload X0.here hx rfl (hb hby at_53) rfl ?_
          exact k
        refine own_via (S' := s₁.setTop (mkF m 58 #[.val (.int p1), .val (.int p2), .val (.double (FP.ddiv (FP.i2d p1) (4652218415073722368 : UInt64))), .second, .val (.double (FP.ddiv (FP.i2d p2) (4652218415073722368 : UInt64))), .second, .val (.int (1 : Int32)), .val (.int (0 : Int32)), .unset] [])) (fun t k => XS.ifNo (g := (mkF m 55 #[.val (.int p1), .val (.int p2), .val (.double (FP.ddiv (FP.i2d p1) (4652218415073722368 : UInt64))), .second, .val (.double (FP.ddiv (FP.i2d p2) (4652218415073722368 : UInt64))), .second, .val (.int (1 : Int32)), .val (.int (0 : Int32)), .unset] [(.int (1 : Int32))])) X0.here hx rfl (hb hby at_55) rfl ((if0 _ _).trans (feq (by decide : ¬ ((1 : Int32) = (0 : Int32)))).1) k) ?_
        refine own_via (S' := s₁.setTop (mkF m 60 #[.val (.int p1), .val (.int p2), .val (.double (FP.ddiv (FP.i2d p1) (4652218415073722368 : UInt64))), .second, .val (.double (FP.ddiv (FP.i2d p2) (4652218415073722368 : UInt64))), .second, .val (.int (1 : Int32)), .val (.int (0 : Int32)), .unset] [(.int (0 : Int32))])) (fun t k => ?_) ?_
        · show Steps p.tables e below (s₁.setTop (mkF m 58 #[.val (.int p1), .val (.int p2), .val (.double (FP.ddiv (FP.i2d p1) (4652218415073722368 : UInt64))), .second, .val (.double (FP.ddiv (FP.i2d p2) (4652218415073722368 : UInt64))), .second, .val (.int (1 : Int32)), .val (.int (0 : Int32)), .unset] [])) t
          refine XS.iload X0.here hx rfl (hb hby at_58) rfl ?_
          exact k
        refine own_via (S' := s₁.setTop (mkF m 67 #[.val (.int p1), .val (.int p2), .val (.double (FP.ddiv (FP.i2d p1) (4652218415073722368 : UInt64))), .second, .val (.double (FP.ddiv (FP.i2d p2) (4652218415073722368 : UInt64))), .second, .val (.int (1 : Int32)), .val (.int (0 : Int32)), .unset] [])) (fun t k => XS.ifYes (g := (mkF m 60 #[.val (.int p1), .val (.int p2), .val (.double (FP.ddiv (FP.i2d p1) (4652218415073722368 : UInt64))), .second, .val (.double (FP.ddiv (FP.i2d p2) (4652218415073722368 : UInt64))), .second, .val (.int (1 : Int32)), .val (.int (0 : Int32)), .unset] [(.int (0 : Int32))])) X0.here hx rfl (pc0 := 60) (pc' := 67) rfl (hb hby at_60) rfl ((if0 _ _).trans (teq (by decide : (0 : Int32) = (0 : Int32))).1) (by decide) (by decide) k) ?_
        refine own_via (S' := s₁.setTop (mkF m 73 #[.val (.int p1), .val (.int p2), .val (.double (FP.ddiv (FP.i2d p1) (4652218415073722368 : UInt64))), .second, .val (.double (FP.ddiv (FP.i2d p2) (4652218415073722368 : UInt64))), .second, .val (.int (1 : Int32)), .val (.int (0 : Int32)), .val (.int (0 : Int32))] [(.double (FP.ddiv (FP.i2d p2) (4652218415073722368 : UInt64))), (.double (FP.ddiv (FP.i2d p1) (4652218415073722368 : UInt64)))])) (fun t k => ?_) ?_
        · show Steps p.tables e below (s₁.setTop (mkF m 67 #[.val (.int p1), .val (.int p2), .val (.double (FP.ddiv (FP.i2d p1) (4652218415073722368 : UInt64))), .second, .val (.double (FP.ddiv (FP.i2d p2) (4652218415073722368 : UInt64))), .second, .val (.int (1 : Int32)), .val (.int (0 : Int32)), .unset] [])) t
          refine XS.iconst X0.here hx rfl (hb hby at_67) ?_
          show Steps p.tables e below (s₁.setTop (mkF m 68 #[.val (.int p1), .val (.int p2), .val (.double (FP.ddiv (FP.i2d p1) (4652218415073722368 : UInt64))), .second, .val (.double (FP.ddiv (FP.i2d p2) (4652218415073722368 : UInt64))), .second, .val (.int (1 : Int32)), .val (.int (0 : Int32)), .unset] [(.int (0 : Int32))])) t
          refine XS.istore X0.here hx rfl (hb hby at_68) rfl (l' := #[.val (.int p1), .val (.int p2), .val (.double (FP.ddiv (FP.i2d p1) (4652218415073722368 : UInt64))), .second, .val (.double (FP.ddiv (FP.i2d p2) (4652218415073722368 : UInt64))), .second, .val (.int (1 : Int32)), .val (.int (0 : Int32)), .val (.int (0 : Int32))]) rfl ?_
          show Steps p.tables e below (s₁.setTop (mkF m 70 #[.val (.int p1), .val (.int p2), .val (.double (FP.ddiv (FP.i2d p1) (4652218415073722368 : UInt64))), .second, .val (.double (FP.ddiv (FP.i2d p2) (4652218415073722368 : UInt64))), .second, .val (.int (1 : Int32)), .val (.int (0 : Int32)), .val (.int (0 : Int32))] [])) t
          refine XS.dloadN X0.here hx rfl (hb hby at_70) rfl ?_
          show Steps p.tables e below (s₁.setTop (mkF m 71 #[.val (.int p1), .val (.int p2), .val (.double (FP.ddiv (FP.i2d p1) (4652218415073722368 : UInt64))), .second, .val (.double (FP.ddiv (FP.i2d p2) (4652218415073722368 : UInt64))), .second, .val (.int (1 : Int32)), .val (.int (0 : Int32)), .val (.int (0 : Int32))] [(.double (FP.ddiv (FP.i2d p1) (4652218415073722368 : UInt64)))])) t
          refine XS.dload X0.here hx rfl (hb hby at_71) rfl ?_
          exact k
        obtain ⟨_, _, ⟨T28, L28, k28, n28⟩, -, X28, ⟨Lc28, hQ28, l28, y28, z28⟩, st28⟩ := Jvm.LawKit.callS X0 hx (y := (⟨"com/example/altigate/altigate/report/Position", "onEarth", "(DD)Z"⟩ : MethodName)) hown (mvT hZ (hw _ (List.mem_of_getElem? (i := 5) rfl))) (mvT hZ (hw _ (List.mem_of_getElem? (i := 6) rfl))) (mvT hZ (hw _ (List.mem_of_getElem? (i := 7) rfl))) (mvT hZ (hw _ (List.mem_of_getElem? (i := 8) rfl))) (by decide) (backOf (W := 0) (rm1 l Z a0 hw [] p1 p2 h0 n0 Z0) hZ (hw _ (List.mem_of_getElem? (i := 8) rfl)) (hw _ (List.mem_of_getElem? (i := 7) rfl)) (by decide) (by decide)) (g := (mkF m 73 #[.val (.int p1), .val (.int p2), .val (.double (FP.ddiv (FP.i2d p1) (4652218415073722368 : UInt64))), .second, .val (.double (FP.ddiv (FP.i2d p2) (4652218415073722368 : UInt64))), .second, .val (.int (1 : Int32)), .val (.int (0 : Int32)), .val (.int (0 : Int32))] [(.double (FP.ddiv (FP.i2d p2) (4652218415073722368 : UInt64))), (.double (FP.ddiv (FP.i2d p1) (4652218415073722368 : UInt64)))])) rfl (by rw [hml]; rfl) (argsL := [(.double (FP.ddiv (FP.i2d p1) (4652218415073722368 : UInt64))), (.double (FP.ddiv (FP.i2d p2) (4652218415073722368 : UInt64)))]) (rest := []) (lenOf pd_0 rfl) rfl (by show 2 * 0 + _ ≤ _; exact Nat.le_of_eq rfl) (hb hby at_73) (fun _ _ => ⟨rfl, e0, (by decide : 0 + 0 ≤ _), (by decide : 0 + 0 ≤ _)⟩)
        dsimp only [Pt.U, Pt.locs, Pt.cells, Pt.slots] at X28 l28 y28 z28 st28 hQ28
        subst l28 y28 z28
        obtain ⟨rfl, Nq28, hh28⟩ := hQ28
        have N28 := Fr.app N0 Nq28
        refine own_via st28 ?_
        show own_G p.tables e below _ (T28.setTop (mkF m 76 #[.val (.int p1), .val (.int p2), .val (.double (FP.ddiv (FP.i2d p1) (4652218415073722368 : UInt64))), .second, .val (.double (FP.ddiv (FP.i2d p2) (4652218415073722368 : UInt64))), .second, .val (.int (1 : Int32)), .val (.int (0 : Int32)), .val (.int (0 : Int32))] [(.int (own_e p1 p2))]))
        refine own_via (S' := T28.setTop (mkF m 78 #[.val (.int p1), .val (.int p2), .val (.double (FP.ddiv (FP.i2d p1) (4652218415073722368 : UInt64))), .second, .val (.double (FP.ddiv (FP.i2d p2) (4652218415073722368 : UInt64))), .second, .val (.int (1 : Int32)), .val (.int (0 : Int32)), .val (.int (0 : Int32))] [(.int (0 : Int32)), (.int (own_e p1 p2))])) (fun t k => ?_) ?_
        · show Steps p.tables e below (T28.setTop (mkF m 76 #[.val (.int p1), .val (.int p2), .val (.double (FP.ddiv (FP.i2d p1) (4652218415073722368 : UInt64))), .second, .val (.double (FP.ddiv (FP.i2d p2) (4652218415073722368 : UInt64))), .second, .val (.int (1 : Int32)), .val (.int (0 : Int32)), .val (.int (0 : Int32))] [(.int (own_e p1 p2))])) t
          refine XS.iload X28.here hx rfl (hb hby at_76) rfl ?_
          exact k
        refine own_via (S' := T28.setTop (mkF m 81 #[.val (.int p1), .val (.int p2), .val (.double (FP.ddiv (FP.i2d p1) (4652218415073722368 : UInt64))), .second, .val (.double (FP.ddiv (FP.i2d p2) (4652218415073722368 : UInt64))), .second, .val (.int (1 : Int32)), .val (.int (0 : Int32)), .val (.int (0 : Int32))] [])) (fun t k => XS.icmpNo (g := (mkF m 78 #[.val (.int p1), .val (.int p2), .val (.double (FP.ddiv (FP.i2d p1) (4652218415073722368 : UInt64))), .second, .val (.double (FP.ddiv (FP.i2d p2) (4652218415073722368 : UInt64))), .second, .val (.int (1 : Int32)), .val (.int (0 : Int32)), .val (.int (0 : Int32))] [(.int (0 : Int32)), (.int (own_e p1 p2))])) X28.here hx rfl (hb hby at_78) rfl (teq (own_e3 ((own_lI p2 (k := -184320) (by decide)).mp hc37_25))).2 k) ?_
        refine own_via (S' := T28.setTop (mkF m 86 #[.val (.int p1), .val (.int p2), .val (.double (FP.ddiv (FP.i2d p1) (4652218415073722368 : UInt64))), .second, .val (.double (FP.ddiv (FP.i2d p2) (4652218415073722368 : UInt64))), .second, .val (.int (1 : Int32)), .val (.int (0 : Int32)), .val (.int (0 : Int32))] [(.int (1 : Int32))])) (fun t k => ?_) ?_
        · show Steps p.tables e below (T28.setTop (mkF m 81 #[.val (.int p1), .val (.int p2), .val (.double (FP.ddiv (FP.i2d p1) (4652218415073722368 : UInt64))), .second, .val (.double (FP.ddiv (FP.i2d p2) (4652218415073722368 : UInt64))), .second, .val (.int (1 : Int32)), .val (.int (0 : Int32)), .val (.int (0 : Int32))] [])) t
          refine XS.iconst X28.here hx rfl (hb hby at_81) ?_
          show Steps p.tables e below (T28.setTop (mkF m 82 #[.val (.int p1), .val (.int p2), .val (.double (FP.ddiv (FP.i2d p1) (4652218415073722368 : UInt64))), .second, .val (.double (FP.ddiv (FP.i2d p2) (4652218415073722368 : UInt64))), .second, .val (.int (1 : Int32)), .val (.int (0 : Int32)), .val (.int (0 : Int32))] [(.int (1 : Int32))])) t
          refine XS.goto X28.here hx rfl (pc0 := 82) (pc' := 86) rfl (hb hby at_82) (by decide) (by decide) ?_
          exact k
        exact own_end (h := h0) X28 (v := some (.int (1 : Int32))) Bd.notSynchronized (fun h => by rw [Bd.returns] at h; cases h) (fun fs hr => retN X28 hx (t := .boolean) Bd.returns (by simp) (hb hby at_86) hr) hh28 ⟨rfl, N28⟩ (by decide) (by decide)
      · refine own_via (S' := s₁.setTop (mkF m 40 #[.val (.int p1), .val (.int p2), .val (.double (FP.ddiv (FP.i2d p1) (4652218415073722368 : UInt64))), .second, .val (.double (FP.ddiv (FP.i2d p2) (4652218415073722368 : UInt64))), .second, .val (.int (1 : Int32)), .unset, .unset] [])) (fun t k => XS.icmpNo (g := (mkF m 37 #[.val (.int p1), .val (.int p2), .val (.double (FP.ddiv (FP.i2d p1) (4652218415073722368 : UInt64))), .second, .val (.double (FP.ddiv (FP.i2d p2) (4652218415073722368 : UInt64))), .second, .val (.int (1 : Int32)), .unset, .unset] [(.int (-184320 : Int32)), (.int p2)])) X0.here hx rfl (hb hby at_37) rfl (flt hc37_25).1 k) ?_
        refine own_via (S' := s₁.setTop (mkF m 43 #[.val (.int p1), .val (.int p2), .val (.double (FP.ddiv (FP.i2d p1) (4652218415073722368 : UInt64))), .second, .val (.double (FP.ddiv (FP.i2d p2) (4652218415073722368 : UInt64))), .second, .val (.int (1 : Int32)), .unset, .unset] [(.int (184320 : Int32)), (.int p2)])) (fun t k => ?_) ?_
        · show Steps p.tables e below (s₁.setTop (mkF m 40 #[.val (.int p1), .val (.int p2), .val (.double (FP.ddiv (FP.i2d p1) (4652218415073722368 : UInt64))), .second, .val (.double (FP.ddiv (FP.i2d p2) (4652218415073722368 : UInt64))), .second, .val (.int (1 : Int32)), .unset, .unset] [])) t
          refine XS.iloadN X0.here hx rfl (hb hby at_40) rfl ?_
          show Steps p.tables e below (s₁.setTop (mkF m 41 #[.val (.int p1), .val (.int p2), .val (.double (FP.ddiv (FP.i2d p1) (4652218415073722368 : UInt64))), .second, .val (.double (FP.ddiv (FP.i2d p2) (4652218415073722368 : UInt64))), .second, .val (.int (1 : Int32)), .unset, .unset] [(.int p2)])) t
          refine X0.ldcInt hx hown (mvT hZ (hw _ (List.mem_of_getElem? (i := 4) rfl))) (g := (mkF m 41 #[.val (.int p1), .val (.int p2), .val (.double (FP.ddiv (FP.i2d p1) (4652218415073722368 : UInt64))), .second, .val (.double (FP.ddiv (FP.i2d p2) (4652218415073722368 : UInt64))), .second, .val (.int (1 : Int32)), .unset, .unset] [(.int p2)])) rfl (hb hby at_41) _ ?_
          exact k
        by_cases hc43_30 : (184320 : Int32) < p2
        · refine own_via (S' := s₁.setTop (mkF m 50 #[.val (.int p1), .val (.int p2), .val (.double (FP.ddiv (FP.i2d p1) (4652218415073722368 : UInt64))), .second, .val (.double (FP.ddiv (FP.i2d p2) (4652218415073722368 : UInt64))), .second, .val (.int (1 : Int32)), .unset, .unset] [])) (fun t k => XS.icmpYes (g := (mkF m 43 #[.val (.int p1), .val (.int p2), .val (.double (FP.ddiv (FP.i2d p1) (4652218415073722368 : UInt64))), .second, .val (.double (FP.ddiv (FP.i2d p2) (4652218415073722368 : UInt64))), .second, .val (.int (1 : Int32)), .unset, .unset] [(.int (184320 : Int32)), (.int p2)])) X0.here hx rfl (pc0 := 43) (pc' := 50) rfl (hb hby at_43) rfl (tlt hc43_30).2.2.1 (by decide) (by decide) k) ?_
          refine own_via (S' := s₁.setTop (mkF m 55 #[.val (.int p1), .val (.int p2), .val (.double (FP.ddiv (FP.i2d p1) (4652218415073722368 : UInt64))), .second, .val (.double (FP.ddiv (FP.i2d p2) (4652218415073722368 : UInt64))), .second, .val (.int (1 : Int32)), .val (.int (0 : Int32)), .unset] [(.int (1 : Int32))])) (fun t k => ?_) ?_
          · show Steps p.tables e below (s₁.setTop (mkF m 50 #[.val (.int p1), .val (.int p2), .val (.double (FP.ddiv (FP.i2d p1) (4652218415073722368 : UInt64))), .second, .val (.double (FP.ddiv (FP.i2d p2) (4652218415073722368 : UInt64))), .second, .val (.int (1 : Int32)), .unset, .unset] [])) t
            refine XS.iconst X0.here hx rfl (hb hby at_50) ?_
            show Steps p.tables e below (s₁.setTop (mkF m 51 #[.val (.int p1), .val (.int p2), .val (.double (FP.ddiv (FP.i2d p1) (4652218415073722368 : UInt64))), .second, .val (.double (FP.ddiv (FP.i2d p2) (4652218415073722368 : UInt64))), .second, .val (.int (1 : Int32)), .unset, .unset] [(.int (0 : Int32))])) t
            refine XS.istore X0.here hx rfl (hb hby at_51) rfl (l' := #[.val (.int p1), .val (.int p2), .val (.double (FP.ddiv (FP.i2d p1) (4652218415073722368 : UInt64))), .second, .val (.double (FP.ddiv (FP.i2d p2) (4652218415073722368 : UInt64))), .second, .val (.int (1 : Int32)), .val (.int (0 : Int32)), .unset]) rfl ?_
            show Steps p.tables e below (s₁.setTop (mkF m 53 #[.val (.int p1), .val (.int p2), .val (.double (FP.ddiv (FP.i2d p1) (4652218415073722368 : UInt64))), .second, .val (.double (FP.ddiv (FP.i2d p2) (4652218415073722368 : UInt64))), .second, .val (.int (1 : Int32)), .val (.int (0 : Int32)), .unset] [])) t
            refine XS.iload X0.here hx rfl (hb hby at_53) rfl ?_
            exact k
          refine own_via (S' := s₁.setTop (mkF m 58 #[.val (.int p1), .val (.int p2), .val (.double (FP.ddiv (FP.i2d p1) (4652218415073722368 : UInt64))), .second, .val (.double (FP.ddiv (FP.i2d p2) (4652218415073722368 : UInt64))), .second, .val (.int (1 : Int32)), .val (.int (0 : Int32)), .unset] [])) (fun t k => XS.ifNo (g := (mkF m 55 #[.val (.int p1), .val (.int p2), .val (.double (FP.ddiv (FP.i2d p1) (4652218415073722368 : UInt64))), .second, .val (.double (FP.ddiv (FP.i2d p2) (4652218415073722368 : UInt64))), .second, .val (.int (1 : Int32)), .val (.int (0 : Int32)), .unset] [(.int (1 : Int32))])) X0.here hx rfl (hb hby at_55) rfl ((if0 _ _).trans (feq (by decide : ¬ ((1 : Int32) = (0 : Int32)))).1) k) ?_
          refine own_via (S' := s₁.setTop (mkF m 60 #[.val (.int p1), .val (.int p2), .val (.double (FP.ddiv (FP.i2d p1) (4652218415073722368 : UInt64))), .second, .val (.double (FP.ddiv (FP.i2d p2) (4652218415073722368 : UInt64))), .second, .val (.int (1 : Int32)), .val (.int (0 : Int32)), .unset] [(.int (0 : Int32))])) (fun t k => ?_) ?_
          · show Steps p.tables e below (s₁.setTop (mkF m 58 #[.val (.int p1), .val (.int p2), .val (.double (FP.ddiv (FP.i2d p1) (4652218415073722368 : UInt64))), .second, .val (.double (FP.ddiv (FP.i2d p2) (4652218415073722368 : UInt64))), .second, .val (.int (1 : Int32)), .val (.int (0 : Int32)), .unset] [])) t
            refine XS.iload X0.here hx rfl (hb hby at_58) rfl ?_
            exact k
          refine own_via (S' := s₁.setTop (mkF m 67 #[.val (.int p1), .val (.int p2), .val (.double (FP.ddiv (FP.i2d p1) (4652218415073722368 : UInt64))), .second, .val (.double (FP.ddiv (FP.i2d p2) (4652218415073722368 : UInt64))), .second, .val (.int (1 : Int32)), .val (.int (0 : Int32)), .unset] [])) (fun t k => XS.ifYes (g := (mkF m 60 #[.val (.int p1), .val (.int p2), .val (.double (FP.ddiv (FP.i2d p1) (4652218415073722368 : UInt64))), .second, .val (.double (FP.ddiv (FP.i2d p2) (4652218415073722368 : UInt64))), .second, .val (.int (1 : Int32)), .val (.int (0 : Int32)), .unset] [(.int (0 : Int32))])) X0.here hx rfl (pc0 := 60) (pc' := 67) rfl (hb hby at_60) rfl ((if0 _ _).trans (teq (by decide : (0 : Int32) = (0 : Int32))).1) (by decide) (by decide) k) ?_
          refine own_via (S' := s₁.setTop (mkF m 73 #[.val (.int p1), .val (.int p2), .val (.double (FP.ddiv (FP.i2d p1) (4652218415073722368 : UInt64))), .second, .val (.double (FP.ddiv (FP.i2d p2) (4652218415073722368 : UInt64))), .second, .val (.int (1 : Int32)), .val (.int (0 : Int32)), .val (.int (0 : Int32))] [(.double (FP.ddiv (FP.i2d p2) (4652218415073722368 : UInt64))), (.double (FP.ddiv (FP.i2d p1) (4652218415073722368 : UInt64)))])) (fun t k => ?_) ?_
          · show Steps p.tables e below (s₁.setTop (mkF m 67 #[.val (.int p1), .val (.int p2), .val (.double (FP.ddiv (FP.i2d p1) (4652218415073722368 : UInt64))), .second, .val (.double (FP.ddiv (FP.i2d p2) (4652218415073722368 : UInt64))), .second, .val (.int (1 : Int32)), .val (.int (0 : Int32)), .unset] [])) t
            refine XS.iconst X0.here hx rfl (hb hby at_67) ?_
            show Steps p.tables e below (s₁.setTop (mkF m 68 #[.val (.int p1), .val (.int p2), .val (.double (FP.ddiv (FP.i2d p1) (4652218415073722368 : UInt64))), .second, .val (.double (FP.ddiv (FP.i2d p2) (4652218415073722368 : UInt64))), .second, .val (.int (1 : Int32)), .val (.int (0 : Int32)), .unset] [(.int (0 : Int32))])) t
            refine XS.istore X0.here hx rfl (hb hby at_68) rfl (l' := #[.val (.int p1), .val (.int p2), .val (.double (FP.ddiv (FP.i2d p1) (4652218415073722368 : UInt64))), .second, .val (.double (FP.ddiv (FP.i2d p2) (4652218415073722368 : UInt64))), .second, .val (.int (1 : Int32)), .val (.int (0 : Int32)), .val (.int (0 : Int32))]) rfl ?_
            show Steps p.tables e below (s₁.setTop (mkF m 70 #[.val (.int p1), .val (.int p2), .val (.double (FP.ddiv (FP.i2d p1) (4652218415073722368 : UInt64))), .second, .val (.double (FP.ddiv (FP.i2d p2) (4652218415073722368 : UInt64))), .second, .val (.int (1 : Int32)), .val (.int (0 : Int32)), .val (.int (0 : Int32))] [])) t
            refine XS.dloadN X0.here hx rfl (hb hby at_70) rfl ?_
            show Steps p.tables e below (s₁.setTop (mkF m 71 #[.val (.int p1), .val (.int p2), .val (.double (FP.ddiv (FP.i2d p1) (4652218415073722368 : UInt64))), .second, .val (.double (FP.ddiv (FP.i2d p2) (4652218415073722368 : UInt64))), .second, .val (.int (1 : Int32)), .val (.int (0 : Int32)), .val (.int (0 : Int32))] [(.double (FP.ddiv (FP.i2d p1) (4652218415073722368 : UInt64)))])) t
            refine XS.dload X0.here hx rfl (hb hby at_71) rfl ?_
            exact k
          obtain ⟨_, _, ⟨T33, L33, k33, n33⟩, -, X33, ⟨Lc33, hQ33, l33, y33, z33⟩, st33⟩ := Jvm.LawKit.callS X0 hx (y := (⟨"com/example/altigate/altigate/report/Position", "onEarth", "(DD)Z"⟩ : MethodName)) hown (mvT hZ (hw _ (List.mem_of_getElem? (i := 5) rfl))) (mvT hZ (hw _ (List.mem_of_getElem? (i := 6) rfl))) (mvT hZ (hw _ (List.mem_of_getElem? (i := 7) rfl))) (mvT hZ (hw _ (List.mem_of_getElem? (i := 8) rfl))) (by decide) (backOf (W := 0) (rm1 l Z a0 hw [] p1 p2 h0 n0 Z0) hZ (hw _ (List.mem_of_getElem? (i := 8) rfl)) (hw _ (List.mem_of_getElem? (i := 7) rfl)) (by decide) (by decide)) (g := (mkF m 73 #[.val (.int p1), .val (.int p2), .val (.double (FP.ddiv (FP.i2d p1) (4652218415073722368 : UInt64))), .second, .val (.double (FP.ddiv (FP.i2d p2) (4652218415073722368 : UInt64))), .second, .val (.int (1 : Int32)), .val (.int (0 : Int32)), .val (.int (0 : Int32))] [(.double (FP.ddiv (FP.i2d p2) (4652218415073722368 : UInt64))), (.double (FP.ddiv (FP.i2d p1) (4652218415073722368 : UInt64)))])) rfl (by rw [hml]; rfl) (argsL := [(.double (FP.ddiv (FP.i2d p1) (4652218415073722368 : UInt64))), (.double (FP.ddiv (FP.i2d p2) (4652218415073722368 : UInt64)))]) (rest := []) (lenOf pd_0 rfl) rfl (by show 2 * 0 + _ ≤ _; exact Nat.le_of_eq rfl) (hb hby at_73) (fun _ _ => ⟨rfl, e0, (by decide : 0 + 0 ≤ _), (by decide : 0 + 0 ≤ _)⟩)
          dsimp only [Pt.U, Pt.locs, Pt.cells, Pt.slots] at X33 l33 y33 z33 st33 hQ33
          subst l33 y33 z33
          obtain ⟨rfl, Nq33, hh33⟩ := hQ33
          have N33 := Fr.app N0 Nq33
          refine own_via st33 ?_
          show own_G p.tables e below _ (T33.setTop (mkF m 76 #[.val (.int p1), .val (.int p2), .val (.double (FP.ddiv (FP.i2d p1) (4652218415073722368 : UInt64))), .second, .val (.double (FP.ddiv (FP.i2d p2) (4652218415073722368 : UInt64))), .second, .val (.int (1 : Int32)), .val (.int (0 : Int32)), .val (.int (0 : Int32))] [(.int (own_e p1 p2))]))
          refine own_via (S' := T33.setTop (mkF m 78 #[.val (.int p1), .val (.int p2), .val (.double (FP.ddiv (FP.i2d p1) (4652218415073722368 : UInt64))), .second, .val (.double (FP.ddiv (FP.i2d p2) (4652218415073722368 : UInt64))), .second, .val (.int (1 : Int32)), .val (.int (0 : Int32)), .val (.int (0 : Int32))] [(.int (0 : Int32)), (.int (own_e p1 p2))])) (fun t k => ?_) ?_
          · show Steps p.tables e below (T33.setTop (mkF m 76 #[.val (.int p1), .val (.int p2), .val (.double (FP.ddiv (FP.i2d p1) (4652218415073722368 : UInt64))), .second, .val (.double (FP.ddiv (FP.i2d p2) (4652218415073722368 : UInt64))), .second, .val (.int (1 : Int32)), .val (.int (0 : Int32)), .val (.int (0 : Int32))] [(.int (own_e p1 p2))])) t
            refine XS.iload X33.here hx rfl (hb hby at_76) rfl ?_
            exact k
          refine own_via (S' := T33.setTop (mkF m 81 #[.val (.int p1), .val (.int p2), .val (.double (FP.ddiv (FP.i2d p1) (4652218415073722368 : UInt64))), .second, .val (.double (FP.ddiv (FP.i2d p2) (4652218415073722368 : UInt64))), .second, .val (.int (1 : Int32)), .val (.int (0 : Int32)), .val (.int (0 : Int32))] [])) (fun t k => XS.icmpNo (g := (mkF m 78 #[.val (.int p1), .val (.int p2), .val (.double (FP.ddiv (FP.i2d p1) (4652218415073722368 : UInt64))), .second, .val (.double (FP.ddiv (FP.i2d p2) (4652218415073722368 : UInt64))), .second, .val (.int (1 : Int32)), .val (.int (0 : Int32)), .val (.int (0 : Int32))] [(.int (0 : Int32)), (.int (own_e p1 p2))])) X33.here hx rfl (hb hby at_78) rfl (teq (own_e4 ((own_gI' p2 (k := 184320) (by decide)).mp hc43_30))).2 k) ?_
          refine own_via (S' := T33.setTop (mkF m 86 #[.val (.int p1), .val (.int p2), .val (.double (FP.ddiv (FP.i2d p1) (4652218415073722368 : UInt64))), .second, .val (.double (FP.ddiv (FP.i2d p2) (4652218415073722368 : UInt64))), .second, .val (.int (1 : Int32)), .val (.int (0 : Int32)), .val (.int (0 : Int32))] [(.int (1 : Int32))])) (fun t k => ?_) ?_
          · show Steps p.tables e below (T33.setTop (mkF m 81 #[.val (.int p1), .val (.int p2), .val (.double (FP.ddiv (FP.i2d p1) (4652218415073722368 : UInt64))), .second, .val (.double (FP.ddiv (FP.i2d p2) (4652218415073722368 : UInt64))), .second, .val (.int (1 : Int32)), .val (.int (0 : Int32)), .val (.int (0 : Int32))] [])) t
            refine XS.iconst X33.here hx rfl (hb hby at_81) ?_
            show Steps p.tables e below (T33.setTop (mkF m 82 #[.val (.int p1), .val (.int p2), .val (.double (FP.ddiv (FP.i2d p1) (4652218415073722368 : UInt64))), .second, .val (.double (FP.ddiv (FP.i2d p2) (4652218415073722368 : UInt64))), .second, .val (.int (1 : Int32)), .val (.int (0 : Int32)), .val (.int (0 : Int32))] [(.int (1 : Int32))])) t
            refine XS.goto X33.here hx rfl (pc0 := 82) (pc' := 86) rfl (hb hby at_82) (by decide) (by decide) ?_
            exact k
          exact own_end (h := h0) X33 (v := some (.int (1 : Int32))) Bd.notSynchronized (fun h => by rw [Bd.returns] at h; cases h) (fun fs hr => retN X33 hx (t := .boolean) Bd.returns (by simp) (hb hby at_86) hr) hh33 ⟨rfl, N33⟩ (by decide) (by decide)
        · refine own_via (S' := s₁.setTop (mkF m 46 #[.val (.int p1), .val (.int p2), .val (.double (FP.ddiv (FP.i2d p1) (4652218415073722368 : UInt64))), .second, .val (.double (FP.ddiv (FP.i2d p2) (4652218415073722368 : UInt64))), .second, .val (.int (1 : Int32)), .unset, .unset] [])) (fun t k => XS.icmpNo (g := (mkF m 43 #[.val (.int p1), .val (.int p2), .val (.double (FP.ddiv (FP.i2d p1) (4652218415073722368 : UInt64))), .second, .val (.double (FP.ddiv (FP.i2d p2) (4652218415073722368 : UInt64))), .second, .val (.int (1 : Int32)), .unset, .unset] [(.int (184320 : Int32)), (.int p2)])) X0.here hx rfl (hb hby at_43) rfl (flt hc43_30).2.2.1 k) ?_
          refine own_via (S' := s₁.setTop (mkF m 55 #[.val (.int p1), .val (.int p2), .val (.double (FP.ddiv (FP.i2d p1) (4652218415073722368 : UInt64))), .second, .val (.double (FP.ddiv (FP.i2d p2) (4652218415073722368 : UInt64))), .second, .val (.int (1 : Int32)), .val (.int (1 : Int32)), .unset] [(.int (1 : Int32))])) (fun t k => ?_) ?_
          · show Steps p.tables e below (s₁.setTop (mkF m 46 #[.val (.int p1), .val (.int p2), .val (.double (FP.ddiv (FP.i2d p1) (4652218415073722368 : UInt64))), .second, .val (.double (FP.ddiv (FP.i2d p2) (4652218415073722368 : UInt64))), .second, .val (.int (1 : Int32)), .unset, .unset] [])) t
            refine XS.iconst X0.here hx rfl (hb hby at_46) ?_
            show Steps p.tables e below (s₁.setTop (mkF m 47 #[.val (.int p1), .val (.int p2), .val (.double (FP.ddiv (FP.i2d p1) (4652218415073722368 : UInt64))), .second, .val (.double (FP.ddiv (FP.i2d p2) (4652218415073722368 : UInt64))), .second, .val (.int (1 : Int32)), .unset, .unset] [(.int (1 : Int32))])) t
            refine XS.goto X0.here hx rfl (pc0 := 47) (pc' := 51) rfl (hb hby at_47) (by decide) (by decide) ?_
            show Steps p.tables e below (s₁.setTop (mkF m 51 #[.val (.int p1), .val (.int p2), .val (.double (FP.ddiv (FP.i2d p1) (4652218415073722368 : UInt64))), .second, .val (.double (FP.ddiv (FP.i2d p2) (4652218415073722368 : UInt64))), .second, .val (.int (1 : Int32)), .unset, .unset] [(.int (1 : Int32))])) t
            refine XS.istore X0.here hx rfl (hb hby at_51) rfl (l' := #[.val (.int p1), .val (.int p2), .val (.double (FP.ddiv (FP.i2d p1) (4652218415073722368 : UInt64))), .second, .val (.double (FP.ddiv (FP.i2d p2) (4652218415073722368 : UInt64))), .second, .val (.int (1 : Int32)), .val (.int (1 : Int32)), .unset]) rfl ?_
            show Steps p.tables e below (s₁.setTop (mkF m 53 #[.val (.int p1), .val (.int p2), .val (.double (FP.ddiv (FP.i2d p1) (4652218415073722368 : UInt64))), .second, .val (.double (FP.ddiv (FP.i2d p2) (4652218415073722368 : UInt64))), .second, .val (.int (1 : Int32)), .val (.int (1 : Int32)), .unset] [])) t
            refine XS.iload X0.here hx rfl (hb hby at_53) rfl ?_
            exact k
          refine own_via (S' := s₁.setTop (mkF m 58 #[.val (.int p1), .val (.int p2), .val (.double (FP.ddiv (FP.i2d p1) (4652218415073722368 : UInt64))), .second, .val (.double (FP.ddiv (FP.i2d p2) (4652218415073722368 : UInt64))), .second, .val (.int (1 : Int32)), .val (.int (1 : Int32)), .unset] [])) (fun t k => XS.ifNo (g := (mkF m 55 #[.val (.int p1), .val (.int p2), .val (.double (FP.ddiv (FP.i2d p1) (4652218415073722368 : UInt64))), .second, .val (.double (FP.ddiv (FP.i2d p2) (4652218415073722368 : UInt64))), .second, .val (.int (1 : Int32)), .val (.int (1 : Int32)), .unset] [(.int (1 : Int32))])) X0.here hx rfl (hb hby at_55) rfl ((if0 _ _).trans (feq (by decide : ¬ ((1 : Int32) = (0 : Int32)))).1) k) ?_
          refine own_via (S' := s₁.setTop (mkF m 60 #[.val (.int p1), .val (.int p2), .val (.double (FP.ddiv (FP.i2d p1) (4652218415073722368 : UInt64))), .second, .val (.double (FP.ddiv (FP.i2d p2) (4652218415073722368 : UInt64))), .second, .val (.int (1 : Int32)), .val (.int (1 : Int32)), .unset] [(.int (1 : Int32))])) (fun t k => ?_) ?_
          · show Steps p.tables e below (s₁.setTop (mkF m 58 #[.val (.int p1), .val (.int p2), .val (.double (FP.ddiv (FP.i2d p1) (4652218415073722368 : UInt64))), .second, .val (.double (FP.ddiv (FP.i2d p2) (4652218415073722368 : UInt64))), .second, .val (.int (1 : Int32)), .val (.int (1 : Int32)), .unset] [])) t
            refine XS.iload X0.here hx rfl (hb hby at_58) rfl ?_
            exact k
          refine own_via (S' := s₁.setTop (mkF m 63 #[.val (.int p1), .val (.int p2), .val (.double (FP.ddiv (FP.i2d p1) (4652218415073722368 : UInt64))), .second, .val (.double (FP.ddiv (FP.i2d p2) (4652218415073722368 : UInt64))), .second, .val (.int (1 : Int32)), .val (.int (1 : Int32)), .unset] [])) (fun t k => XS.ifNo (g := (mkF m 60 #[.val (.int p1), .val (.int p2), .val (.double (FP.ddiv (FP.i2d p1) (4652218415073722368 : UInt64))), .second, .val (.double (FP.ddiv (FP.i2d p2) (4652218415073722368 : UInt64))), .second, .val (.int (1 : Int32)), .val (.int (1 : Int32)), .unset] [(.int (1 : Int32))])) X0.here hx rfl (hb hby at_60) rfl ((if0 _ _).trans (feq (by decide : ¬ ((1 : Int32) = (0 : Int32)))).1) k) ?_
          refine own_via (S' := s₁.setTop (mkF m 73 #[.val (.int p1), .val (.int p2), .val (.double (FP.ddiv (FP.i2d p1) (4652218415073722368 : UInt64))), .second, .val (.double (FP.ddiv (FP.i2d p2) (4652218415073722368 : UInt64))), .second, .val (.int (1 : Int32)), .val (.int (1 : Int32)), .val (.int (1 : Int32))] [(.double (FP.ddiv (FP.i2d p2) (4652218415073722368 : UInt64))), (.double (FP.ddiv (FP.i2d p1) (4652218415073722368 : UInt64)))])) (fun t k => ?_) ?_
          · show Steps p.tables e below (s₁.setTop (mkF m 63 #[.val (.int p1), .val (.int p2), .val (.double (FP.ddiv (FP.i2d p1) (4652218415073722368 : UInt64))), .second, .val (.double (FP.ddiv (FP.i2d p2) (4652218415073722368 : UInt64))), .second, .val (.int (1 : Int32)), .val (.int (1 : Int32)), .unset] [])) t
            refine XS.iconst X0.here hx rfl (hb hby at_63) ?_
            show Steps p.tables e below (s₁.setTop (mkF m 64 #[.val (.int p1), .val (.int p2), .val (.double (FP.ddiv (FP.i2d p1) (4652218415073722368 : UInt64))), .second, .val (.double (FP.ddiv (FP.i2d p2) (4652218415073722368 : UInt64))), .second, .val (.int (1 : Int32)), .val (.int (1 : Int32)), .unset] [(.int (1 : Int32))])) t
            refine XS.goto X0.here hx rfl (pc0 := 64) (pc' := 68) rfl (hb hby at_64) (by decide) (by decide) ?_
            show Steps p.tables e below (s₁.setTop (mkF m 68 #[.val (.int p1), .val (.int p2), .val (.double (FP.ddiv (FP.i2d p1) (4652218415073722368 : UInt64))), .second, .val (.double (FP.ddiv (FP.i2d p2) (4652218415073722368 : UInt64))), .second, .val (.int (1 : Int32)), .val (.int (1 : Int32)), .unset] [(.int (1 : Int32))])) t
            refine XS.istore X0.here hx rfl (hb hby at_68) rfl (l' := #[.val (.int p1), .val (.int p2), .val (.double (FP.ddiv (FP.i2d p1) (4652218415073722368 : UInt64))), .second, .val (.double (FP.ddiv (FP.i2d p2) (4652218415073722368 : UInt64))), .second, .val (.int (1 : Int32)), .val (.int (1 : Int32)), .val (.int (1 : Int32))]) rfl ?_
            show Steps p.tables e below (s₁.setTop (mkF m 70 #[.val (.int p1), .val (.int p2), .val (.double (FP.ddiv (FP.i2d p1) (4652218415073722368 : UInt64))), .second, .val (.double (FP.ddiv (FP.i2d p2) (4652218415073722368 : UInt64))), .second, .val (.int (1 : Int32)), .val (.int (1 : Int32)), .val (.int (1 : Int32))] [])) t
            refine XS.dloadN X0.here hx rfl (hb hby at_70) rfl ?_
            show Steps p.tables e below (s₁.setTop (mkF m 71 #[.val (.int p1), .val (.int p2), .val (.double (FP.ddiv (FP.i2d p1) (4652218415073722368 : UInt64))), .second, .val (.double (FP.ddiv (FP.i2d p2) (4652218415073722368 : UInt64))), .second, .val (.int (1 : Int32)), .val (.int (1 : Int32)), .val (.int (1 : Int32))] [(.double (FP.ddiv (FP.i2d p1) (4652218415073722368 : UInt64)))])) t
            refine XS.dload X0.here hx rfl (hb hby at_71) rfl ?_
            exact k
          obtain ⟨_, _, ⟨T37, L37, k37, n37⟩, -, X37, ⟨Lc37, hQ37, l37, y37, z37⟩, st37⟩ := Jvm.LawKit.callS X0 hx (y := (⟨"com/example/altigate/altigate/report/Position", "onEarth", "(DD)Z"⟩ : MethodName)) hown (mvT hZ (hw _ (List.mem_of_getElem? (i := 5) rfl))) (mvT hZ (hw _ (List.mem_of_getElem? (i := 6) rfl))) (mvT hZ (hw _ (List.mem_of_getElem? (i := 7) rfl))) (mvT hZ (hw _ (List.mem_of_getElem? (i := 8) rfl))) (by decide) (backOf (W := 0) (rm1 l Z a0 hw [] p1 p2 h0 n0 Z0) hZ (hw _ (List.mem_of_getElem? (i := 8) rfl)) (hw _ (List.mem_of_getElem? (i := 7) rfl)) (by decide) (by decide)) (g := (mkF m 73 #[.val (.int p1), .val (.int p2), .val (.double (FP.ddiv (FP.i2d p1) (4652218415073722368 : UInt64))), .second, .val (.double (FP.ddiv (FP.i2d p2) (4652218415073722368 : UInt64))), .second, .val (.int (1 : Int32)), .val (.int (1 : Int32)), .val (.int (1 : Int32))] [(.double (FP.ddiv (FP.i2d p2) (4652218415073722368 : UInt64))), (.double (FP.ddiv (FP.i2d p1) (4652218415073722368 : UInt64)))])) rfl (by rw [hml]; rfl) (argsL := [(.double (FP.ddiv (FP.i2d p1) (4652218415073722368 : UInt64))), (.double (FP.ddiv (FP.i2d p2) (4652218415073722368 : UInt64)))]) (rest := []) (lenOf pd_0 rfl) rfl (by show 2 * 0 + _ ≤ _; exact Nat.le_of_eq rfl) (hb hby at_73) (fun _ _ => ⟨rfl, e0, (by decide : 0 + 0 ≤ _), (by decide : 0 + 0 ≤ _)⟩)
          dsimp only [Pt.U, Pt.locs, Pt.cells, Pt.slots] at X37 l37 y37 z37 st37 hQ37
          subst l37 y37 z37
          obtain ⟨rfl, Nq37, hh37⟩ := hQ37
          have N37 := Fr.app N0 Nq37
          refine own_via st37 ?_
          show own_G p.tables e below _ (T37.setTop (mkF m 76 #[.val (.int p1), .val (.int p2), .val (.double (FP.ddiv (FP.i2d p1) (4652218415073722368 : UInt64))), .second, .val (.double (FP.ddiv (FP.i2d p2) (4652218415073722368 : UInt64))), .second, .val (.int (1 : Int32)), .val (.int (1 : Int32)), .val (.int (1 : Int32))] [(.int (own_e p1 p2))]))
          refine own_via (S' := T37.setTop (mkF m 78 #[.val (.int p1), .val (.int p2), .val (.double (FP.ddiv (FP.i2d p1) (4652218415073722368 : UInt64))), .second, .val (.double (FP.ddiv (FP.i2d p2) (4652218415073722368 : UInt64))), .second, .val (.int (1 : Int32)), .val (.int (1 : Int32)), .val (.int (1 : Int32))] [(.int (1 : Int32)), (.int (own_e p1 p2))])) (fun t k => ?_) ?_
          · show Steps p.tables e below (T37.setTop (mkF m 76 #[.val (.int p1), .val (.int p2), .val (.double (FP.ddiv (FP.i2d p1) (4652218415073722368 : UInt64))), .second, .val (.double (FP.ddiv (FP.i2d p2) (4652218415073722368 : UInt64))), .second, .val (.int (1 : Int32)), .val (.int (1 : Int32)), .val (.int (1 : Int32))] [(.int (own_e p1 p2))])) t
            refine XS.iload X37.here hx rfl (hb hby at_76) rfl ?_
            exact k
          refine own_via (S' := T37.setTop (mkF m 81 #[.val (.int p1), .val (.int p2), .val (.double (FP.ddiv (FP.i2d p1) (4652218415073722368 : UInt64))), .second, .val (.double (FP.ddiv (FP.i2d p2) (4652218415073722368 : UInt64))), .second, .val (.int (1 : Int32)), .val (.int (1 : Int32)), .val (.int (1 : Int32))] [])) (fun t k => XS.icmpNo (g := (mkF m 78 #[.val (.int p1), .val (.int p2), .val (.double (FP.ddiv (FP.i2d p1) (4652218415073722368 : UInt64))), .second, .val (.double (FP.ddiv (FP.i2d p2) (4652218415073722368 : UInt64))), .second, .val (.int (1 : Int32)), .val (.int (1 : Int32)), .val (.int (1 : Int32))] [(.int (1 : Int32)), (.int (own_e p1 p2))])) X37.here hx rfl (hb hby at_78) rfl (teq (own_eT (fun q => hc18_1 ((own_lI p1 (k := -92160) (by decide)).mpr q)) (fun q => hc24_13 ((own_gI' p1 (k := 92160) (by decide)).mpr q)) (fun q => hc37_25 ((own_lI p2 (k := -184320) (by decide)).mpr q)) (fun q => hc43_30 ((own_gI' p2 (k := 184320) (by decide)).mpr q)))).2 k) ?_
          refine own_via (S' := T37.setTop (mkF m 86 #[.val (.int p1), .val (.int p2), .val (.double (FP.ddiv (FP.i2d p1) (4652218415073722368 : UInt64))), .second, .val (.double (FP.ddiv (FP.i2d p2) (4652218415073722368 : UInt64))), .second, .val (.int (1 : Int32)), .val (.int (1 : Int32)), .val (.int (1 : Int32))] [(.int (1 : Int32))])) (fun t k => ?_) ?_
          · show Steps p.tables e below (T37.setTop (mkF m 81 #[.val (.int p1), .val (.int p2), .val (.double (FP.ddiv (FP.i2d p1) (4652218415073722368 : UInt64))), .second, .val (.double (FP.ddiv (FP.i2d p2) (4652218415073722368 : UInt64))), .second, .val (.int (1 : Int32)), .val (.int (1 : Int32)), .val (.int (1 : Int32))] [])) t
            refine XS.iconst X37.here hx rfl (hb hby at_81) ?_
            show Steps p.tables e below (T37.setTop (mkF m 82 #[.val (.int p1), .val (.int p2), .val (.double (FP.ddiv (FP.i2d p1) (4652218415073722368 : UInt64))), .second, .val (.double (FP.ddiv (FP.i2d p2) (4652218415073722368 : UInt64))), .second, .val (.int (1 : Int32)), .val (.int (1 : Int32)), .val (.int (1 : Int32))] [(.int (1 : Int32))])) t
            refine XS.goto X37.here hx rfl (pc0 := 82) (pc' := 86) rfl (hb hby at_82) (by decide) (by decide) ?_
            exact k
          exact own_end (h := h0) X37 (v := some (.int (1 : Int32))) Bd.notSynchronized (fun h => by rw [Bd.returns] at h; cases h) (fun fs hr => retN X37 hx (t := .boolean) Bd.returns (by simp) (hb hby at_86) hr) hh37 ⟨rfl, N37⟩ (by decide) (by decide)
set_option maxRecDepth 65536 in
set_option maxHeartbeats 40000000 in
theorem comes_1 {Post : Tables → Env → Array Value → State → Outcome → State → Prop} (hpost : ∀ tb e args s v u, (limb_1_1.after args s (.returned v) u = true ∧ limb_1_2.after args s (.returned v) u = true ∧ True) → FrameEnd s (.returned v) u (Jvm.fieldLocs frame_1_writes args s ++ Jvm.arrayLocs frame_1_arrays args s ++ Jvm.staticLocs frame_1_statics s) 0 0 → Post tb e args s (.returned v) u) :
    ArmFor flags0 classFile x code maxLocals ret World_1 tables_1 room_1 Calls_1 rest_1 Pre_1 Post := by
  intro l hfl _ _ p e ha hc hk s m args below hf hA hF happ hP
  obtain ⟨hcalls, hrest, hpre⟩ := hP
  obtain ⟨-, -, -, hnamed, -, -, -, hat⟩ := (Spec.applies_iff hf).mp happ
  obtain ⟨hg, hn⟩ := and_e (Cond.before_iff.mp (show (Jvm.Cond.and given_1 narrow_1).before args s = true from hpre))
  obtain ⟨hcount, hg0⟩ := and_e hg
  obtain ⟨ga0, hg1⟩ := and_e hg0
  have ga1 := hg1
  obtain ⟨w0, w1, rfl⟩ : ∃ w0 w1 : Value, args = #[w0, w1] := by
    have hs : args.size = 2 := by simpa [Cond.value, given_1] using hcount
    obtain ⟨L⟩ := args
    match L, hs with
    | [w0, w1], _ => exact ⟨w0, w1, rfl⟩
  have hw := fun d (hd : d ∈ tables_1) => atoms_spec (ws := Jvm.Cond.code x code maxLocals ret :: tables_1) hat d (List.mem_cons_of_mem _ hd)
  obtain ⟨i0, ei0⟩ := is_v ga0
  obtain rfl : w0 = (.int i0) := Option.some.inj ei0
  obtain ⟨i1, ei1⟩ := is_v ga1
  obtain rfl : w1 = (.int i1) := Option.some.inj ei1
  obtain ⟨n, o, h1, h2, h3, _, L, rfl, ⟨rfl, N⟩, hq⟩ := rm0 l s _ hw tables_1 i0 i1  s.heap s.heap.size (Nat.le_refl _)  p e ha hc hk s m _ below hf ((Spec.applies_iff_loose hf).mp happ).1 ⟨rfl, State.Warmed39.refl s, rfl⟩ trivial
  refine ⟨n, _, h1, h2, h3, hpost _ _ _ _ _ _ ⟨Cond.after_iff.mpr rfl, Cond.after_iff.mpr (eq_i res_at (Term.int_eval (1)) rfl), trivial⟩ ⟨hq.1, hq.2.1, (hq.2.2.sift fun y hy => Or.inr (N y hy)).mono (by decide) (by decide)⟩⟩
theorem main_1_1 : Claimed_1_1 := comes_1 fun _ _ _ _ _ _ h hF => ⟨h.1, hF⟩
theorem main_1_2 : Claimed_1_2 := comes_1 fun _ _ _ _ _ _ h hF => ⟨h.2.1, hF⟩
end Jvm.Pilot.@@N@@
namespace Jvm.Pilot.@@N@@
open Jvm Jvm.ClassFile Sem Op Lib Jvm.Free Jvm.Stand Jvm.Pilot.@@N@@.Jvm.D
/-! MADE BY PROGRAM (witnessworld.py) out of the Statement's table words and the real class files: 10 classes; the members and pool entries that the words name. The judged class is class 1, her method 1. -/
namespace start1
open Jvm.ClassFile
def u (s : String) : CpInfo := .utf8 (stringToUtf16 s)
/-- a pool by its gaps: so many unusable entries, then the entry; so many at the end -/
def gap : Nat → List CpInfo → List CpInfo
  | 0, r => r
  | n + 1, r => .unusable :: gap n r
def poolList (es : List (Nat × CpInfo)) (last : Nat) : List CpInfo := es.foldr (fun e r => gap e.1 (e.2 :: r)) (gap last [])
def pool (es : List (Nat × CpInfo)) (last : Nat) : Array CpInfo := ⟨poolList es last⟩
def fileOf (pool : Array CpInfo) (this : Nat) (attrs : Array Attribute := #[]) (ms : Array MethodInfo := #[]) (fl : Nat := 33) (sup : Nat := 0) (ifs : Array Nat := #[]) (fds : Array FieldInfo := #[]) : ClassFile where
  minorVersion := 0
  majorVersion := 65
  constantPool := pool
  accessFlags := fl
  thisClass := this
  superClass := sup
  interfaces := ifs
  fields := fds
  methods := ms
  attributes := attrs
def plain (name : String) (sup : Option ClassId) : Class where
  name := name
  kind := .ordinary
  loader := none
  accessFlags := 33
  super := sup
  interfaces := #[]
  cf := none
  fields := #[]
  methods := #[]
  instanceTypes := #[]
  staticTypes := #[]
  resolved := #[]
  callSites := []
  init := .initialized
  statics := none
  mirror := none

def pool0 : Array CpInfo := pool [(5, u "<init>"), (0, u "()V"), (1, .class_ 10), (1, u "java/lang/Object")] 113

def k0m0 : Method := { name := "<init>", desc := "()V", sig := { parameters := [], returnType := none }, accessFlags := 1, code := none }
/-- java/lang/Object -/
def k0 : Class := { plain "java/lang/Object" none with
  accessFlags := 33
  interfaces := #[]
  cf := some (fileOf pool0 8 #[] #[{ accessFlags := 1, nameIndex := 5, descriptorIndex := 6, attributes := #[] }] 33 0 #[] #[])
  fields := #[]
  methods := #[k0m0]
  instanceTypes := #[]
  staticTypes := #[]
  resolved := Array.replicate 124 none
  statics := none }

def pool1 : Array CpInfo := pool [(2, .class_ 4), (1, u "java/lang/Object"), (0, u "<init>"), (0, u "()V"), (0, .double 4652218415073722368), (1, .integer 4294875136), (0, .integer 92160), (0, .integer 4294782976), (0, .integer 184320), (0, .methodref 14 15), (0, .class_ 16), (0, .nameAndType 17 18), (0, u "com/example/altigate/altigate/report/Position"), (0, u "onEarth"), (0, u "(DD)Z"), (0, .class_ 20), (0, u "com/example/altigate/altigate/report/PositionOnEarthPinLaw"), (2, u "law"), (0, u "(II)Z")] 3

def k1m0 : Method := { name := "<init>", desc := "()V", sig := { parameters := [], returnType := none }, accessFlags := 1, code := none }
def k1c1 : Code := { maxStack := 4, maxLocals := 9, code := code, exceptionTable := #[], attributes := #[] }
def k1m1 : Method := { name := "law", desc := "(II)Z", sig := { parameters := [.int, .int], returnType := some .boolean }, accessFlags := 9, code := some k1c1 }
/-- com/example/altigate/altigate/report/PositionOnEarthPinLaw -/
def k1 : Class := { plain "com/example/altigate/altigate/report/PositionOnEarthPinLaw" (some 0) with
  accessFlags := 49
  interfaces := #[]
  cf := some (fileOf pool1 19 #[] #[{ accessFlags := 1, nameIndex := 5, descriptorIndex := 6, attributes := #[] }, { accessFlags := 9, nameIndex := 23, descriptorIndex := 24, attributes := #[] }] 49 2 #[] #[])
  fields := #[]
  methods := #[k1m0, k1m1]
  instanceTypes := #[]
  staticTypes := #[]
  resolved := Array.replicate 28 none
  statics := none }

def pool2 : Array CpInfo := pool [(2, .class_ 4), (1, u "java/lang/Object"), (0, u "<init>"), (0, u "()V"), (0, .class_ 8), (0, u "java/lang/Record")] 13

def k2m0 : Method := { name := "<init>", desc := "()V", sig := { parameters := [], returnType := none }, accessFlags := 4, code := none }
/-- java/lang/Record -/
def k2 : Class := { plain "java/lang/Record" (some 0) with
  accessFlags := 1057
  interfaces := #[]
  cf := some (fileOf pool2 7 #[] #[{ accessFlags := 4, nameIndex := 5, descriptorIndex := 6, attributes := #[] }] 1057 2 #[] #[])
  fields := #[]
  methods := #[k2m0]
  instanceTypes := #[]
  staticTypes := #[]
  resolved := Array.replicate 22 none
  statics := none }

def pool3 : Array CpInfo := pool [(2, .class_ 4), (1, u "java/lang/Record"), (3, .class_ 10), (1, u "com/example/altigate/altigate/report/Position"), (4, u "lat"), (0, u "D"), (2, u "lon"), (0, .double 13859405640767635456), (1, .double 4636033603912859648), (1, .double 13863909240395005952), (1, .double 4640537203540230144), (3, u "onEarth"), (0, u "(DD)Z")] 58

def k3c0 : Code := { maxStack := 4, maxLocals := 4, code := prog_61_method_2_code, exceptionTable := #[], attributes := #[] }
def k3m0 : Method := { name := "onEarth", desc := "(DD)Z", sig := { parameters := [.double, .double], returnType := some .boolean }, accessFlags := 9, code := some k3c0 }
/-- com/example/altigate/altigate/report/Position -/
def k3 : Class := { plain "com/example/altigate/altigate/report/Position" (some 2) with
  accessFlags := 49
  interfaces := #[]
  cf := some (fileOf pool3 8 #[] #[{ accessFlags := 9, nameIndex := 30, descriptorIndex := 31, attributes := #[] }] 49 2 #[] #[{ accessFlags := 18, nameIndex := 15, descriptorIndex := 16, attributes := #[] }, { accessFlags := 18, nameIndex := 19, descriptorIndex := 16, attributes := #[] }])
  fields := #[{ name := "lat", type := .double, accessFlags := 18, slot := 0, constantValue := 0 }, { name := "lon", type := .double, accessFlags := 18, slot := 1, constantValue := 0 }]
  methods := #[k3m0]
  instanceTypes := #[.double, .double]
  staticTypes := #[]
  resolved := Array.replicate 90 none
  statics := none }

def pool4 : Array CpInfo := pool [(1, u "java/lang/Cloneable"), (0, .class_ 1), (0, u "java/lang/Object"), (0, .class_ 3)] 3

/-- java/lang/Cloneable -/
def k4 : Class := { plain "java/lang/Cloneable" (some 0) with
  accessFlags := 1537
  interfaces := #[]
  cf := some (fileOf pool4 2 #[] #[] 1537 4 #[] #[])
  fields := #[]
  methods := #[]
  instanceTypes := #[]
  staticTypes := #[]
  resolved := Array.replicate 8 none
  statics := none }

def pool5 : Array CpInfo := pool [(1, u "java/io/Serializable"), (0, .class_ 1), (0, u "java/lang/Object"), (0, .class_ 3)] 3

/-- java/io/Serializable -/
def k5 : Class := { plain "java/io/Serializable" (some 0) with
  accessFlags := 1537
  interfaces := #[]
  cf := some (fileOf pool5 2 #[] #[] 1537 4 #[] #[])
  fields := #[]
  methods := #[]
  instanceTypes := #[]
  staticTypes := #[]
  resolved := Array.replicate 8 none
  statics := none }

/-- the primitive byte -/
def k6 : Class := { plain "byte" none with kind := .primitive 'B', accessFlags := 0x411 }
/-- [B -/
def k7 : Class := { plain "[B" (some 0) with kind := .array 6 .byte, interfaces := #[4, 5], accessFlags := 1041 }

/-- the primitive int -/
def k8 : Class := { plain "int" none with kind := .primitive 'I', accessFlags := 0x411 }
/-- [I -/
def k9 : Class := { plain "[I" (some 0) with kind := .array 8 .int, interfaces := #[4, 5], accessFlags := 1041 }

def heap : Heap := #[]
def classes : Array Class := #[k0, k1, k2, k3, k4, k5, k6, k7, k8, k9]
def interned : List (Array UInt16 × Addr) := []
def slotsUsed : Nat := 0
def theMethod : MethodId := ⟨1, 1⟩
def args0 : Array Value := #[.int 92160, .int 7]
def aboutOver (below : List Frame) : State where
  vm := { classes := classes, interned := interned.toArray }
  heap := heap
  slotsUsed := slotsUsed
  threads := #[{ frames := .invoking theMethod args0 :: below }]
def below0 : List Frame := [.native { method := ⟨0, 0⟩, args := #[] }]
def about1 : State := aboutOver below0
def p0 : Program := .bare "" "" ""
def e0 : Env := launch0.env 0 0 0
theorem w_frames : about1.frames = Frame.invoking theMethod args0 :: below0 := rfl
set_option maxRecDepth 65536 in
theorem w_args : argsFit about1.vm theMethod args0 = true := by decide +kernel
set_option maxRecDepth 65536 in
theorem w_heap : heapFits about1 = true := by decide +kernel
set_option maxRecDepth 65536 in
theorem w_runnable : about1.curStatus? = some .runnable := by decide +kernel
set_option maxRecDepth 65536 in
theorem w_alone : about1.alone = true := by decide +kernel
set_option maxRecDepth 65536 in
theorem w_named : about1.methodNamed? x = some theMethod := by decide +kernel
set_option maxRecDepth 65536 in
theorem w_hears : about1.hears theMethod below0 = true := by decide +kernel
set_option maxRecDepth 65536 in
theorem w_ripe : about1.ripe theMethod args0 below0 = true := by decide +kernel
theorem w_running : about1.status = .running := rfl
set_option maxRecDepth 65536 in
theorem w_room : about1.hasRoom e0.platform room_1 = true :=
  launch0.hasRoom_least _ room_1 (by decide +kernel) (by decide +kernel) (by decide +kernel) (by decide +kernel) (by decide +kernel) (by decide +kernel)
theorem allAtoms_all (ts : List Jvm.Cond) (a : Array Jvm.Value) (st : Jvm.State) : (allAtoms ts).before a st = ts.all (fun c => c.before a st) := by
  induction ts with
  | nil => rfl
  | cons c t ih =>
    show (Jvm.Cond.and c (allAtoms t)).before a st = _
    rw [Jvm.Cond.before_and, ih, List.all_cons]
def words1 : List Jvm.Cond := Jvm.Cond.code x code maxLocals ret :: tables_1
/-- a 'code' word, met by the world's own term for the bytes: nothing is compared byte by byte -/
theorem code_word {y : MethodName} {bytes : ByteArray} {mx : Nat} {rt : Option FieldType} {a : Array Value} {s : State} {m : MethodId} {meth : Method} {c : Code} (h1 : s.methodNamed? y = some m) (h2 : s.vm.method? m = some meth) (h3 : meth.code = some c) (h4 : c.code = bytes)
    (h5 : (c.maxLocals == mx && c.exceptionTable.isEmpty && decide (c.maxStack ≤ mostOperands) && decide (meth.sig.returnType = rt) && !meth.locks && decide (parseMethodDescriptor y.desc = some meth.sig)) = true) : (Jvm.Cond.code y bytes mx rt).before a s = true := by
  simp only [Bool.and_eq_true, beq_iff_eq, Bool.not_eq_true', decide_eq_true_eq] at h5
  obtain ⟨⟨⟨⟨⟨g1, g2⟩, g3⟩, g4⟩, g5⟩, g6⟩ := h5
  simp [Cond.before, Cond.holds, Cond.value, h1, h2, h3, h4, g1, g2, g3, g4, g5, g6]
def isCode : Jvm.Cond → Bool
  | .code _ _ _ _ => true
  | _ => false
theorem all_split {L : List Jvm.Cond} {P : Jvm.Cond → Bool} (h1 : L.all (fun c => isCode c || P c) = true) (h2 : ∀ c ∈ L.filter isCode, P c = true) : L.all P = true := by
  refine List.all_eq_true.mpr fun c hc => ?_
  have h := List.all_eq_true.mp h1 c hc
  rcases Bool.eq_false_or_eq_true (isCode c) with hi | hi
  · exact h2 c (List.mem_filter.mpr ⟨hc, hi⟩)
  · simpa [hi] using h
set_option maxRecDepth 65536 in
theorem w_c0 : (Jvm.Cond.code x code maxLocals ret).before args0 about1 = true := code_word (m := ⟨1, 1⟩) (meth := k1m1) (c := k1c1) (by decide +kernel) rfl rfl rfl (by decide +kernel)
set_option maxRecDepth 65536 in
theorem w_c1 : (Jvm.Cond.code ({ cls := "com/example/altigate/altigate/report/Position", name := "onEarth", desc := "(DD)Z" } : Jvm.MethodName) prog_61_method_2_code (4 : Nat) (Option.some Jvm.ClassFile.FieldType.boolean)).before args0 about1 = true := code_word (m := ⟨3, 0⟩) (meth := k3m0) (c := k3c0) (by decide +kernel) rfl rfl rfl (by decide +kernel)
def codes1 : List Jvm.Cond := [Jvm.Cond.code x code maxLocals ret, Jvm.Cond.code ({ cls := "com/example/altigate/altigate/report/Position", name := "onEarth", desc := "(DD)Z" } : Jvm.MethodName) prog_61_method_2_code (4 : Nat) (Option.some Jvm.ClassFile.FieldType.boolean)]
set_option maxRecDepth 65536 in
theorem codes_eq : words1.filter isCode = codes1 := rfl
theorem w_codes : ∀ c ∈ words1.filter isCode, c.before args0 about1 = true := by
  rw [codes_eq]
  intro c hc
  simp only [codes1, List.mem_cons, List.not_mem_nil, or_false] at hc
  rcases hc with rfl | rfl
  · exact w_c0
  · exact w_c1
set_option maxRecDepth 65536 in
theorem w_t1 : words1.all (fun c => isCode c || c.before args0 about1) = true := by decide +kernel
theorem w_tables : (allAtoms (Jvm.Cond.code x code maxLocals ret :: tables_1)).before args0 about1 = true := by
  rw [allAtoms_all]
  show words1.all (fun c => c.before args0 about1) = true
  refine all_split ?_ w_codes
  rw [w_t1]
set_option maxRecDepth 65536 in
theorem w_case : (Jvm.Cond.and given_1 narrow_1).before args0 about1 = true := by decide +kernel
theorem w_applies : (headSpec (Jvm.Cond.code x code maxLocals ret :: tables_1) room_1).applies x e0.platform about1 = true :=
  (Spec.applies_iff w_frames).mpr ⟨w_running, w_runnable, w_alone, w_named, w_hears, w_ripe, w_room, w_tables⟩
theorem atStart : AtStart classFile x code maxLocals ret World_1 tables_1 room_1 Calls_1 rest_1 Pre_1 launch0 p0 e0 about1 theMethod args0 below0 :=
  ⟨lists_1, trivial, launch0.admits_env _ _ _, launch0.least_env, fairChoices_fair.cas, fairChoices_fair.clock, w_frames, w_args, w_heap, w_applies, trivial, trivial, w_case⟩
end start1
theorem witness_1 : WitnessClaimed_1 := ⟨start1.p0, start1.e0, start1.about1, start1.theMethod, start1.args0, start1.below0, start1.atStart⟩
end Jvm.Pilot.@@N@@
