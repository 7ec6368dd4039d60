import JvmDerived
import JvmDerived.Pilot.@@N@@Statement
import JvmDerived.Pilot.@@N@@Code
set_option linter.unusedVariables false
set_option linter.unusedSimpArgs false
namespace Jvm.Pilot.@@N@@
open Jvm Jvm.ClassFile Sem Op Lib Jvm.Free Jvm.Stand Jvm.LawKit Jvm.RoadKit Bundle Jvm.Pilot.@@N@@.Jvm.D
/-- from S the body ends as Q says -/
def own_G (tb : Tables) (e : Env) (below : List Frame) (Q : State → Outcome → Prop) (S : State) : Prop := ∃ s₂ o, Steps tb e below S s₂ ∧ s₂.status = .running ∧ Ended s₂ below o ∧ Q s₂ o
theorem own_via {tb : Tables} {e : Env} {below : List Frame} {Q : State → Outcome → Prop} {S S' : State} (h : ∀ t, Steps tb e below S' t → Steps tb e below S t) (g : own_G tb e below Q S') : own_G tb e below Q S := by
  obtain ⟨t, o, k, r⟩ := g
  exact ⟨t, o, h t k, r⟩
def own_P (U : State) (Q : Option Value → Heap → List Loc → Prop) (cells slots : Nat) : State → Outcome → Prop := fun U' o => ∃ v L, o = .returned v ∧ Q v U'.heap L ∧ FrameEnd U o U' L cells slots
theorem own_end {p : Program} {l : Launch} {e : Env} {R : Room} {s : State} {m : MethodId} {args : Array Value} {below : List Frame} {meth : Method} {c : Code} {T : State} {locs : List Loc} {cells slots C S : Nat} {Q : Option Value → Heap → List Loc → Prop} {h : Heap} {G : State}
    (X : Stand p l e R s m args below meth c T locs cells slots) {v : Option Value} (hlk : meth.locks = false) (hv : meth.sig.returnType = none → v = none)
    (st : ∀ fs, (∀ (f : JFrame) (acts : List Action), f.method = m → f.locked = none → f.entered = [] → (doReturn e (T.setTop f) acts v).1 = T.setFrames fs) → Steps p.tables e below G (T.setFrames fs))
    (eT : T.heap = h) (hq : Q v h locs) (h1 : cells ≤ C) (h2 : slots ≤ S) : own_G p.tables e below (own_P s Q C S) G := by
  obtain ⟨fs, hr, hrun, hended, hW, hsame⟩ := X.leave (v := v) hv hlk
  exact ⟨_, _, st fs hr, hrun, hended, _, _, rfl, eT ▸ hq, ⟨_, rfl⟩, hW, hsame.mono h1 h2⟩
def own_Ar (Z : State) (h : Heap) (a : Addr) (k : ClassId) (ty : FieldType) (z : Int32) (vs : List Value) (d : Value) : Prop := Arv Z h a k ty z vs d ∧ vs.length = z.toNatClampNeg
theorem own_Ar.lt {Z : State} {h : Heap} {a : Addr} {k : ClassId} {ty : FieldType} {z : Int32} {vs : List Value} {d : Value} (F : own_Ar Z h a k ty z vs d) : a < h.size := F.1.lt
theorem own_Ar.ext {Z : State} {h h' : Heap} {a : Addr} {k : ClassId} {ty : FieldType} {z : Int32} {vs : List Value} {d : Value} (F : own_Ar Z h a k ty z vs d) (E : Ext h h') : own_Ar Z h' a k ty z vs d := ⟨F.1.ext E, F.2⟩
theorem own_Ar.other {Z : State} {h h' : Heap} {a b : Addr} {k : ClassId} {ty : FieldType} {z : Int32} {vs : List Value} {d : Value} {sl : Nat} {v : Value} (F : own_Ar Z h b k ty z vs d) (W : Wr h h' a sl v) (q : b ≠ a) : own_Ar Z h' b k ty z vs d := ⟨F.1.other W q, F.2⟩
theorem own_Ar.keep {Z : State} {h h' : Heap} {a : Addr} {k : ClassId} {ty : FieldType} {z : Int32} {vs : List Value} {d : Value} {ws : List Addr} (F : own_Ar Z h a k ty z vs d) (K : Keep h h' ws) (q : a ∉ ws) : own_Ar Z h' a k ty z vs d := ⟨F.1.keep K q, F.2⟩
theorem own_ixn {j z : Int32} (h : ¬ j < 0 ∧ j < z) : j.toNatClampNeg < z.toNatClampNeg := by
  obtain ⟨h1, h2⟩ := h
  rw [Int32.lt_iff_toInt_lt] at h1 h2
  have e0 : (0 : Int32).toInt = 0 := by decide
  have t1 : j.toNatClampNeg = j.toInt.toNat := rfl
  have t2 : z.toNatClampNeg = z.toInt.toNat := rfl
  omega
theorem own_gI (xs : List Int32) (i : Nat) : (xs.map Value.int).getD i (.int 0) = .int (xs.getD i 0) := by simp [List.getD_eq_getElem?_getD]
theorem own_gJ (xs : List Int64) (i : Nat) : (xs.map Value.long).getD i (.long 0) = .long (xs.getD i 0) := by simp [List.getD_eq_getElem?_getD]
theorem own_setI (xs : List Int32) (i : Nat) (v : Int32) : (xs.map Value.int).set i (.int v) = (xs.set i v).map Value.int := by simp [List.map_set]
theorem own_setJ (xs : List Int64) (i : Nat) (v : Int64) : (xs.map Value.long).set i (.long v) = (xs.set i v).map Value.long := by simp [List.map_set]
theorem own_Ar.setI {Z : State} {h h' : Heap} {a : Addr} {k : ClassId} {ty : FieldType} {z j v : Int32} {xs : List Int32} {c : Cell} (A : Arr Z h a c ty) (q1 : c.cls = k) (S : c.slots.size = z.toNatClampNeg) (q3 : ¬ z < 0) (H : Has c (xs.map Value.int) (.int 0)) (G : ∀ i, i < c.slots.size → fits ty ((xs.map Value.int).getD i (.int 0)) = true) (hv : fits ty (.int v) = true)
    (W : Wr h h' a j.toNatClampNeg (.int v)) (hin : ¬ (j < 0 ∨ c.slots.size ≤ j.toNatClampNeg)) (Le : (xs.map Value.int).length = z.toNatClampNeg) : own_Ar Z h' a k ty z ((xs.set j.toNatClampNeg v).map Value.int) (.int 0) := by
  have hl : j.toNatClampNeg < (xs.map Value.int).length := by rw [Le, ← S]; exact Nat.lt_of_not_le fun q => hin (Or.inr q)
  refine ⟨?_, by rw [← Le]; simp⟩
  rw [← own_setI]
  exact Arv.set A q1 S q3 H G hv W _ rfl hl
theorem own_Ar.setJ {Z : State} {h h' : Heap} {a : Addr} {k : ClassId} {ty : FieldType} {z j : Int32} {v : Int64} {xs : List Int64} {c : Cell} (A : Arr Z h a c ty) (q1 : c.cls = k) (S : c.slots.size = z.toNatClampNeg) (q3 : ¬ z < 0) (H : Has c (xs.map Value.long) (.long 0)) (G : ∀ i, i < c.slots.size → fits ty ((xs.map Value.long).getD i (.long 0)) = true) (hv : fits ty (.long v) = true)
    (W : Wr h h' a j.toNatClampNeg (.long v)) (hin : ¬ (j < 0 ∨ c.slots.size ≤ j.toNatClampNeg)) (Le : (xs.map Value.long).length = z.toNatClampNeg) : own_Ar Z h' a k ty z ((xs.set j.toNatClampNeg v).map Value.long) (.long 0) := by
  have hl : j.toNatClampNeg < (xs.map Value.long).length := by rw [Le, ← S]; exact Nat.lt_of_not_le fun q => hin (Or.inr q)
  refine ⟨?_, by rw [← Le]; simp⟩
  rw [← own_setJ]
  exact Arv.set A q1 S q3 H G hv W _ rfl hl
theorem own_Ar.newI {Z : State} {h : Heap} {a : Addr} {k : ClassId} {z : Int32} (A : Arr Z h a (newA k .int z) .int) (q : ¬ z < 0) : own_Ar Z h a k .int z ((List.replicate z.toNatClampNeg (0 : Int32)).map Value.int) (.int (0 : Int32)) := by
  refine ⟨?_, by simp⟩
  rw [List.map_replicate]
  exact (Arv.new A q).pad (pad_rep [] (.int (0 : Int32)) _)
theorem own_Ar.newB {Z : State} {h : Heap} {a : Addr} {k : ClassId} {z : Int32} (A : Arr Z h a (newA k .byte z) .byte) (q : ¬ z < 0) : own_Ar Z h a k .byte z ((List.replicate z.toNatClampNeg (0 : Int32)).map Value.int) (.int (0 : Int32)) := by
  refine ⟨?_, by simp⟩
  rw [List.map_replicate]
  exact (Arv.new A q).pad (pad_rep [] (.int (0 : Int32)) _)
theorem own_Ar.newJ {Z : State} {h : Heap} {a : Addr} {k : ClassId} {z : Int32} (A : Arr Z h a (newA k .long z) .long) (q : ¬ z < 0) : own_Ar Z h a k .long z ((List.replicate z.toNatClampNeg (0 : Int64)).map Value.long) (.long (0 : Int64)) := by
  refine ⟨?_, by simp⟩
  rw [List.map_replicate]
  exact (Arv.new A q).pad (pad_rep [] (.long (0 : Int64)) _)
def own_fl (xs : List Int32) (i : Nat) (x : Int32) : List Int32 := List.replicate i x ++ xs.drop i
theorem own_fl0 (xs : List Int32) (x : Int32) : own_fl xs 0 x = xs := by simp [own_fl]
theorem own_flN (xs : List Int32) (x : Int32) : own_fl xs xs.length x = List.replicate xs.length x := by simp [own_fl]
theorem own_flS (xs : List Int32) (i : Nat) (x : Int32) (h : i < xs.length) : (own_fl xs i x).set i x = own_fl xs (i + 1) x := by
  unfold own_fl
  rw [List.set_append_right _ _ (by simp), List.drop_eq_getElem_cons h]
  simp only [List.length_replicate, Nat.sub_self, List.set_cons_zero, List.replicate_succ', List.append_assoc, List.cons_append, List.nil_append]
theorem own_up {i z : Int32} {r : Nat} (h0 : ¬ i < 0) (hz : ¬ z < 0) (e : i.toNatClampNeg + (r + 1) = z.toNatClampNeg) : i < z ∧ ¬ (i + (1 : Int32)) < 0 ∧ (i + (1 : Int32)).toNatClampNeg = i.toNatClampNeg + 1 := by
  have t1 : i.toNatClampNeg = i.toInt.toNat := rfl
  have t2 : z.toNatClampNeg = z.toInt.toNat := rfl
  have t3 : (i + (1 : Int32)).toNatClampNeg = (i + (1 : Int32)).toInt.toNat := rfl
  have e0 : (0 : Int32).toInt = 0 := by decide
  have e1 : (1 : Int32).toInt = 1 := by decide
  have a := c_iadd i (1 : Int32)
  have b1 := rng32 (i + (1 : Int32))
  have b2 := rng32 i
  have b3 := rng32 z
  rw [Int32.lt_iff_toInt_lt] at h0 hz
  rw [Int32.lt_iff_toInt_lt, Int32.lt_iff_toInt_lt]
  rw [e1] at a
  have e2 : (i + (1 : Int32)).toInt = i.toInt + 1 := by omega
  omega
theorem own_out {i z : Int32} (h0 : ¬ i < 0) (e : i.toNatClampNeg + 0 = z.toNatClampNeg) : ¬ i < z := by
  have t1 : i.toNatClampNeg = i.toInt.toNat := rfl
  have t2 : z.toNatClampNeg = z.toInt.toNat := rfl
  have e0 : (0 : Int32).toInt = 0 := by decide
  rw [Int32.lt_iff_toInt_lt] at h0
  rw [Int32.lt_iff_toInt_lt]
  omega
abbrev own_T := List Int32 × List Int32 × Int32
def own_DS (Z : State) (h : Heap) (a bm bp : Addr) (km kp : ClassId) (z : Int32) (S : own_T) : Prop := Exa Z h a "com/example/vendace/vendace/localrecoding/DenseSet" ∧ Fld Z h a "com/example/vendace/vendace/localrecoding/DenseSet" "members" "[I" (.ref bm) ∧ Fld Z h a "com/example/vendace/vendace/localrecoding/DenseSet" "places" "[I" (.ref bp) ∧ Fld Z h a "com/example/vendace/vendace/localrecoding/DenseSet" "size" "I" (.int S.2.2) ∧ own_Ar Z h bm km .int z (List.map Value.int S.1) (.int (0 : Int32)) ∧ own_Ar Z h bp kp .int z (List.map Value.int S.2.1) (.int (0 : Int32))
abbrev own_s0 (z : Int32) : own_T := (List.replicate (z).toNatClampNeg (0 : Int32), List.replicate (List.replicate (z).toNatClampNeg (0 : Int32)).length (-1 : Int32), (0 : Int32))
def own_add (S : own_T) (v : Int32) : own_T := if S.2.1.getD (v).toNatClampNeg 0 < (0 : Int32) then (S.1.set (S.2.2).toNatClampNeg v, S.2.1.set (v).toNatClampNeg S.2.2, S.2.2 + (1 : Int32)) else S
def own_rem (S : own_T) (v : Int32) : own_T := if S.2.1.getD (v).toNatClampNeg 0 < (0 : Int32) then S else (S.1.set (S.2.1.getD (v).toNatClampNeg 0).toNatClampNeg (S.1.getD (S.2.2 - (1 : Int32)).toNatClampNeg 0), (S.2.1.set (S.1.getD (S.2.2 - (1 : Int32)).toNatClampNeg 0).toNatClampNeg (S.2.1.getD (v).toNatClampNeg 0)).set (v).toNatClampNeg (-1 : Int32), S.2.2 - (1 : Int32))
abbrev own_preA (z : Int32) (S : own_T) (v : Int32) : Prop := (¬ v < 0 ∧ v < z) ∧ (S.2.1.getD (v).toNatClampNeg 0 < (0 : Int32) → ¬ S.2.2 < 0 ∧ S.2.2 < z)
abbrev own_preR (z : Int32) (S : own_T) (v : Int32) : Prop := (¬ v < 0 ∧ v < z) ∧ (¬ S.2.1.getD (v).toNatClampNeg 0 < (0 : Int32) → (¬ S.2.2 - (1 : Int32) < 0 ∧ S.2.2 - (1 : Int32) < z) ∧ S.2.1.getD (v).toNatClampNeg 0 < z ∧ (¬ S.1.getD (S.2.2 - (1 : Int32)).toNatClampNeg 0 < 0 ∧ S.1.getD (S.2.2 - (1 : Int32)).toNatClampNeg 0 < z))
abbrev own_hasP (xs : List Int32) (n x : Int32) : Prop := (0 < n ∧ xs.getD ((0 : Int32)).toNatClampNeg 0 = x) ∨ (1 < n ∧ xs.getD ((1 : Int32)).toNatClampNeg 0 = x) ∨ (2 < n ∧ xs.getD ((2 : Int32)).toNatClampNeg 0 = x)
def own_has (xs : List Int32) (n x : Int32) : Int32 := if own_hasP xs n x then 1 else 0
def own_rA (xs : List Int32) (n x : Int32) : List Int32 × Int32 := if own_has xs n x = (0 : Int32) then (xs.set (n).toNatClampNeg x, n + (1 : Int32)) else (xs, n)
def own_rp (xs : List Int32) (n x : Int32) : Int32 := if 0 < n ∧ xs.getD ((0 : Int32)).toNatClampNeg 0 = x then 0 else if 1 < n ∧ xs.getD ((1 : Int32)).toNatClampNeg 0 = x then 1 else if 2 < n ∧ xs.getD ((2 : Int32)).toNatClampNeg 0 = x then 2 else -1
def own_rR (xs : List Int32) (n x : Int32) : List Int32 × Int32 := if own_rp xs n x < 0 then (xs, n) else (xs.set (own_rp xs n x).toNatClampNeg (xs.getD (n - (1 : Int32)).toNatClampNeg 0), n - (1 : Int32))
abbrev own_preB (xs : List Int32) (n x : Int32) : Prop := own_has xs n x = (0 : Int32) → ¬ n < 0 ∧ n < (4 : Int32)
abbrev own_preQ (xs : List Int32) (n x : Int32) : Prop := ¬ own_rp xs n x < 0 → ¬ n - (1 : Int32) < 0 ∧ n - (1 : Int32) < (4 : Int32)
abbrev own_fin (S : own_T) (R : List Int32 × Int32) : Prop := S.2.2 = R.2 ∧ (0 < R.2 → S.1.getD ((0 : Int32)).toNatClampNeg 0 = R.1.getD ((0 : Int32)).toNatClampNeg 0) ∧ (1 < R.2 → S.1.getD ((1 : Int32)).toNatClampNeg 0 = R.1.getD ((1 : Int32)).toNatClampNeg 0) ∧ (2 < R.2 → S.1.getD ((2 : Int32)).toNatClampNeg 0 = R.1.getD ((2 : Int32)).toNatClampNeg 0)
def own_chk (S : own_T) (R : List Int32 × Int32) (u t : Int32) : Prop := own_preR 4 S u ∧ own_preQ R.1 R.2 u ∧ own_preR 4 (own_rem S u) t ∧ own_preQ (own_rR R.1 R.2 u).1 (own_rR R.1 R.2 u).2 t ∧ own_fin (own_rem (own_rem S u) t) (own_rR (own_rR R.1 R.2 u).1 (own_rR R.1 R.2 u).2 t)
instance (S : own_T) (R : List Int32 × Int32) (u t : Int32) : Decidable (own_chk S R u t) := by unfold own_chk; infer_instance
abbrev own_m0 : List Int32 := List.replicate ((4 : Int32)).toNatClampNeg (0 : Int32)
abbrev own_r1 (x : Int32) : List Int32 × Int32 := own_rA own_m0 (0 : Int32) x
abbrev own_r2 (x y : Int32) : List Int32 × Int32 := own_rA (own_r1 x).1 (own_r1 x).2 y
abbrev own_r3 (x y z : Int32) : List Int32 × Int32 := own_rA (own_r2 x y).1 (own_r2 x y).2 z
abbrev own_s1 (x : Int32) : own_T := own_add (own_s0 (4 : Int32)) x
abbrev own_s2 (x y : Int32) : own_T := own_add (own_s1 x) y
abbrev own_s3 (x y z : Int32) : own_T := own_add (own_s2 x y) z
theorem own_rRn {xs : List Int32} {n x r : Int32} (h : own_rp xs n x = r) (h2 : r < 0) : own_rR xs n x = (xs, n) := if_pos (h ▸ h2)
theorem own_rRp {xs : List Int32} {n x r : Int32} (h : own_rp xs n x = r) (h2 : ¬ r < 0) : own_rR xs n x = (xs.set r.toNatClampNeg (xs.getD (n - (1 : Int32)).toNatClampNeg 0), n - (1 : Int32)) := by subst h; exact if_neg h2
def own_D : List Int32 := [0, 1, 2, 3]
theorem own_q12 {c : Int32} (h : c < (1 : Int32)) : c < (2 : Int32) := by grind
theorem own_q13 {c : Int32} (h : c < (1 : Int32)) : c < (3 : Int32) := by grind
theorem own_q23 {c : Int32} (h : c < (2 : Int32)) : c < (3 : Int32) := by grind
theorem own_n01 {c : Int32} (h : ¬ (0 : Int32) < c) : ¬ (1 : Int32) < c := by grind
theorem own_n02 {c : Int32} (h : ¬ (0 : Int32) < c) : ¬ (2 : Int32) < c := by grind
theorem own_n12 {c : Int32} (h : ¬ (1 : Int32) < c) : ¬ (2 : Int32) < c := by grind
theorem own_inD (x : Int32) : (x &&& (3 : Int32)) ∈ own_D := by
  have h1 := c_mask x (3 : Int32) 2 (by decide) (by decide)
  have h2 : (x &&& (3 : Int32)).toInt = 0 ∨ (x &&& (3 : Int32)).toInt = 1 ∨ (x &&& (3 : Int32)).toInt = 2 ∨ (x &&& (3 : Int32)).toInt = 3 := by omega
  generalize (x &&& (3 : Int32)) = y at *
  have h3 : ∀ k : Int32, y.toInt = k.toInt → y = k := fun k q => Int32.toInt_inj.mp q
  rcases h2 with h | h | h | h
  · rw [h3 0 (h.trans (by decide))]; decide
  · rw [h3 1 (h.trans (by decide))]; decide
  · rw [h3 2 (h.trans (by decide))]; decide
  · rw [h3 3 (h.trans (by decide))]; decide
theorem own_b0 : (own_D.all fun u => own_D.all fun t => decide (own_chk (own_s0 (4 : Int32)) (own_m0, (0 : Int32)) u t)) = true := by decide +kernel
theorem own_c0 : ∀ u ∈ own_D, ∀ t ∈ own_D, own_chk (own_s0 (4 : Int32)) (own_m0, (0 : Int32)) u t := fun u hu t ht => of_decide_eq_true (List.all_eq_true.mp (List.all_eq_true.mp own_b0 u hu) t ht)
theorem own_b1 : (own_D.all fun x => decide (own_preA 4 (own_s0 (4 : Int32)) x ∧ own_preB own_m0 0 x) && own_D.all fun u => own_D.all fun t => decide (own_chk (own_s1 x) (own_r1 x) u t)) = true := by decide +kernel
theorem own_c1 : ∀ x ∈ own_D, own_preA 4 (own_s0 (4 : Int32)) x ∧ own_preB own_m0 0 x ∧ ∀ u ∈ own_D, ∀ t ∈ own_D, own_chk (own_s1 x) (own_r1 x) u t := fun x hx => by
  have h := (Bool.and_eq_true _ _).mp (List.all_eq_true.mp own_b1 x hx)
  exact ⟨(of_decide_eq_true h.1).1, (of_decide_eq_true h.1).2, fun u hu t ht => of_decide_eq_true (List.all_eq_true.mp (List.all_eq_true.mp h.2 u hu) t ht)⟩
theorem own_b2 : (own_D.all fun x => own_D.all fun y => decide (own_preA 4 (own_s1 x) y ∧ own_preB (own_r1 x).1 (own_r1 x).2 y) && own_D.all fun u => own_D.all fun t => decide (own_chk (own_s2 x y) (own_r2 x y) u t)) = true := by decide +kernel
theorem own_c2 : ∀ x ∈ own_D, ∀ y ∈ own_D, own_preA 4 (own_s1 x) y ∧ own_preB (own_r1 x).1 (own_r1 x).2 y ∧ ∀ u ∈ own_D, ∀ t ∈ own_D, own_chk (own_s2 x y) (own_r2 x y) u t := fun x hx y hy => by
  have h := (Bool.and_eq_true _ _).mp (List.all_eq_true.mp (List.all_eq_true.mp own_b2 x hx) y hy)
  exact ⟨(of_decide_eq_true h.1).1, (of_decide_eq_true h.1).2, fun u hu t ht => of_decide_eq_true (List.all_eq_true.mp (List.all_eq_true.mp h.2 u hu) t ht)⟩
theorem own_b3 : (own_D.all fun x => own_D.all fun y => own_D.all fun z => decide (own_preA 4 (own_s2 x y) z ∧ own_preB (own_r2 x y).1 (own_r2 x y).2 z) && own_D.all fun u => own_D.all fun t => decide (own_chk (own_s3 x y z) (own_r3 x y z) u t)) = true := by decide +kernel
theorem own_c3 : ∀ x ∈ own_D, ∀ y ∈ own_D, ∀ z ∈ own_D, own_preA 4 (own_s2 x y) z ∧ own_preB (own_r2 x y).1 (own_r2 x y).2 z ∧ ∀ u ∈ own_D, ∀ t ∈ own_D, own_chk (own_s3 x y z) (own_r3 x y z) u t := fun x hx y hy z hz => by
  have h := (Bool.and_eq_true _ _).mp (List.all_eq_true.mp (List.all_eq_true.mp (List.all_eq_true.mp own_b3 x hx) y hy) z hz)
  exact ⟨(of_decide_eq_true h.1).1, (of_decide_eq_true h.1).2, fun u hu t ht => of_decide_eq_true (List.all_eq_true.mp (List.all_eq_true.mp h.2 u hu) t ht)⟩
theorem own_p2 {x y : Int32} {S1 : own_T} {R1 : List Int32 × Int32} (hx : x ∈ own_D) (hy : y ∈ own_D) (h1 : S1 = own_s1 x) (r1 : R1 = own_r1 x) : own_preA 4 S1 y ∧ own_preB R1.1 R1.2 y := by
  rw [h1, r1]
  exact ⟨(own_c2 x hx y hy).1, (own_c2 x hx y hy).2.1⟩
theorem own_p2a {x y : Int32} {S1 : own_T} (hx : x ∈ own_D) (hy : y ∈ own_D) (h1 : S1 = own_s1 x) : own_preA 4 S1 y := (own_p2 hx hy h1 rfl).1
theorem own_p3 {x y z : Int32} {S1 S2 : own_T} {R1 R2 : List Int32 × Int32} (hx : x ∈ own_D) (hy : y ∈ own_D) (hz : z ∈ own_D) (h1 : S1 = own_s1 x) (h2 : S2 = own_add S1 y) (r1 : R1 = own_r1 x) (r2 : R2 = own_rA R1.1 R1.2 y) : own_preA 4 S2 z ∧ own_preB R2.1 R2.2 z := by
  have hS : S2 = own_s2 x y := by rw [h2, h1]
  have hR : R2 = own_r2 x y := by rw [r2, r1]
  rw [hS, hR]
  exact ⟨(own_c3 x hx y hy z hz).1, (own_c3 x hx y hy z hz).2.1⟩
theorem own_k1 {x u t : Int32} {S1 : own_T} {R1 : List Int32 × Int32} (hx : x ∈ own_D) (hu : u ∈ own_D) (ht : t ∈ own_D) (h1 : S1 = own_s1 x) (r1 : R1 = own_r1 x) : own_chk S1 R1 u t := by
  rw [h1, r1]
  exact (own_c1 x hx).2.2 u hu t ht
theorem own_k2 {x y u t : Int32} {S1 S2 : own_T} {R1 R2 : List Int32 × Int32} (hx : x ∈ own_D) (hy : y ∈ own_D) (hu : u ∈ own_D) (ht : t ∈ own_D) (h1 : S1 = own_s1 x) (h2 : S2 = own_add S1 y) (r1 : R1 = own_r1 x) (r2 : R2 = own_rA R1.1 R1.2 y) : own_chk S2 R2 u t := by
  have hS : S2 = own_s2 x y := by rw [h2, h1]
  have hR : R2 = own_r2 x y := by rw [r2, r1]
  rw [hS, hR]
  exact (own_c2 x hx y hy).2.2 u hu t ht
theorem own_k3 {x y z u t : Int32} {S1 S2 S3 : own_T} {R1 R2 R3 : List Int32 × Int32} (hx : x ∈ own_D) (hy : y ∈ own_D) (hz : z ∈ own_D) (hu : u ∈ own_D) (ht : t ∈ own_D) (h1 : S1 = own_s1 x) (h2 : S2 = own_add S1 y) (h3 : S3 = own_add S2 z) (r1 : R1 = own_r1 x) (r2 : R2 = own_rA R1.1 R1.2 y) (r3 : R3 = own_rA R2.1 R2.2 z) : own_chk S3 R3 u t := by
  have hS : S2 = own_s2 x y := by rw [h2, h1]
  have hR : R2 = own_r2 x y := by rw [r2, r1]
  have hS3 : S3 = own_s3 x y z := by rw [h3, hS]
  have hR3 : R3 = own_r3 x y z := by rw [r3, hR]
  rw [hS3, hR3]
  exact (own_c3 x hx y hy z hz).2.2 u hu t ht
theorem d3_0 : decode jdk_65_method_103_code 0 = .ok (.iconst 0, 1) := by decide +kernel
theorem d3_1 : decode jdk_65_method_103_code 1 = .ok (.istore_n 2, 1) := by decide +kernel
theorem d3_2 : decode jdk_65_method_103_code 2 = .ok (.aload_n 0, 1) := by decide +kernel
theorem d3_3 : decode jdk_65_method_103_code 3 = .ok (.arraylength, 1) := by decide +kernel
theorem d3_4 : decode jdk_65_method_103_code 4 = .ok (.istore_n 3, 1) := by decide +kernel
theorem d3_5 : decode jdk_65_method_103_code 5 = .ok (.iload_n 2, 1) := by decide +kernel
theorem d3_6 : decode jdk_65_method_103_code 6 = .ok (.iload_n 3, 1) := by decide +kernel
theorem d3_7 : decode jdk_65_method_103_code 7 = .ok (.if_icmp .ge 13, 3) := by decide +kernel
theorem d3_10 : decode jdk_65_method_103_code 10 = .ok (.aload_n 0, 1) := by decide +kernel
theorem d3_11 : decode jdk_65_method_103_code 11 = .ok (.iload_n 2, 1) := by decide +kernel
theorem d3_12 : decode jdk_65_method_103_code 12 = .ok (.iload_n 1, 1) := by decide +kernel
theorem d3_13 : decode jdk_65_method_103_code 13 = .ok (.iastore, 1) := by decide +kernel
theorem d3_14 : decode jdk_65_method_103_code 14 = .ok (.iinc 2 1, 3) := by decide +kernel
theorem d3_17 : decode jdk_65_method_103_code 17 = .ok (.goto (-12), 3) := by decide +kernel
theorem d3_20 : decode jdk_65_method_103_code 20 = .ok (.return_, 1) := by decide +kernel
theorem pn3 : plainName "java/util/Arrays" = true := by first | (simp [plainName, overriddenIn]; done) | decide +kernel
theorem ef3 (m : MethodId) (x0 : Addr) (x1 : Int32) : entryFrame m #[(.ref x0), (.int x1)] 4 = mkF m 0 #[.val (.ref x0), .val (.int x1), .unset, .unset] [] := by first | (simp [entryFrame, mkF, argsToLocals, Value.category]; done) | rfl
def Q3 (Z : State) (a1 : Addr) (p2 : Int32) (k : ClassId) (z : Int32) (xs : List Int32) (h0 : Heap) (n0 : Nat) (v : Option Value) (h : Heap) (L : List Loc) : Prop := v = none ∧ Fr n0 L ∧ Keep h0 h [a1] ∧ own_Ar Z h a1 k .int z (List.map Value.int (List.replicate xs.length p2)) (.int (0 : Int32))
set_option maxRecDepth 65536 in
set_option maxHeartbeats 40000000 in
theorem rm3 (l : Launch) (Z : State) (a0 : Array Value) (hw : ∀ d ∈ tables_1, d.before a0 Z = true) (ws : List Jvm.Cond) (a1 : Addr) (p2 : Int32) (k : ClassId) (z : Int32) (xs : List Int32) (h0 : Heap) (n0 : Nat) (Z0 : n0 ≤ h0.size) (V_a1 : own_Ar Z h0 a1 k .int z (List.map Value.int xs) (.int (0 : Int32))) (g_a1 : n0 ≤ a1) :
    MetFree l (⟨"java/util/Arrays", "fill", "([II)V"⟩ : MethodName) (head1 (Jvm.Cond.code (⟨"java/util/Arrays", "fill", "([II)V"⟩ : MethodName) jdk_65_method_103_code 4 none :: ws) ({ frames := 0, cells := 0, slots := 0, locals := 0 } : Room)) (fun a U => a = #[(.ref a1), (.int p2)] ∧ Z.Warmed39 U.vm ∧ U.heap = h0) (fun _ _ _ _ _ => True) (fun _ U o U' => ∃ v L, o = .returned v ∧ Q3 Z a1 p2 k z xs h0 n0 v U'.heap L ∧ FrameEnd U o U' L ({ frames := 0, cells := 0, slots := 0, locals := 0 } : Room).cells ({ frames := 0, cells := 0, slots := 0, locals := 0 } : Room).slots) := by
  refine MetFree.of_bodySF (plainFor_of_name pn3) hisR ?_
  intro p e s m args below meth c s₁ Bd hml0 hP hK
  obtain ⟨rfl, hZ, hh⟩ := hP
  have hx := Bd.exec
  have hby := Bd.bytes
  have hml : c.maxLocals = 4 := hml0
  have hown : s.vm.findClass "java/util/Arrays" = some m.cls := findClass_of_methodNamed Bd.named
  have hnm := (name_of_methodNamed Bd.named Bd.method).1
  have X0 : Stand p l e ({ frames := 0, cells := 0, slots := 0, locals := 0 } : Room) s m #[(.ref a1), (.int p2)] below meth c s₁ [] 0 0 := Stand.of_body Bd
  have e0 : s₁.heap = h0 := by rw [← hh, Bd.state]; rfl
  have N0 := Fr.nil n0
  refine (show own_G p.tables e below (own_P s (Q3 Z a1 p2 k z xs h0 n0) 0 0) (s₁.setTop (entryFrame m #[(.ref a1), (.int p2)] 4)) from ?_)
  refine own_via (fun t k => castTop (ef3 m a1 p2) k) ?_
  show own_G p.tables e below _ (s₁.setTop (mkF m 0 #[.val (.ref a1), .val (.int p2), .unset, .unset] []))
  have K0 := Keep.refl h0 [a1]
  have hz := V_a1.1.choose_spec.2.2.2.1
  have hlen : xs.length = z.toNatClampNeg := by rw [← V_a1.2]; simp
  refine own_via (S' := s₁.setTop (mkF m 3 #[.val (.ref a1), .val (.int p2), .val (.int (0 : Int32)), .unset] [(.ref a1)])) (fun t k => ?_) ?_
  · show Steps p.tables e below (s₁.setTop (mkF m 0 #[.val (.ref a1), .val (.int p2), .unset, .unset] [])) t
    refine XS.iconst X0.here hx rfl (hb hby d3_0) ?_
    show Steps p.tables e below (s₁.setTop (mkF m 1 #[.val (.ref a1), .val (.int p2), .unset, .unset] [(.int (0 : Int32))])) t
    refine XS.istoreN X0.here hx rfl (hb hby d3_1) rfl (l' := #[.val (.ref a1), .val (.int p2), .val (.int (0 : Int32)), .unset]) rfl ?_
    show Steps p.tables e below (s₁.setTop (mkF m 2 #[.val (.ref a1), .val (.int p2), .val (.int (0 : Int32)), .unset] [])) t
    refine XS.aloadN X0.here hx rfl (hb hby d3_2) rfl rfl ?_
    exact k
  obtain ⟨⟨cl1, Ar1, q1, S1, Nn1, H1, G1⟩, Le1⟩ := id V_a1
  refine own_via (S' := s₁.setTop (mkF m 4 #[.val (.ref a1), .val (.int p2), .val (.int (0 : Int32)), .unset] [(.int z)])) (fun t kz_ => X0.arraylength hx (by rw [e0]; exact Ar1.1) (State.isArrayOf_alike hZ.alike Ar1.2.1) (g := (mkF m 3 #[.val (.ref a1), .val (.int p2), .val (.int (0 : Int32)), .unset] [(.ref a1)])) rfl rfl (hb hby d3_3) _ (by rw [len_of S1 Nn1]; exact kz_)) ?_
  refine own_via (S' := s₁.setTop (mkF m 5 #[.val (.ref a1), .val (.int p2), .val (.int (0 : Int32)), .val (.int z)] [])) (fun t k => ?_) ?_
  · show Steps p.tables e below (s₁.setTop (mkF m 4 #[.val (.ref a1), .val (.int p2), .val (.int (0 : Int32)), .unset] [(.int z)])) t
    refine XS.istoreN X0.here hx rfl (hb hby d3_4) rfl (l' := #[.val (.ref a1), .val (.int p2), .val (.int (0 : Int32)), .val (.int z)]) rfl ?_
    exact k
  have loop : ∀ (r : Nat) (T : State) (h : Heap) (locs : List Loc) (i : Int32), Fr n0 locs → Stand p l e ({ frames := 0, cells := 0, slots := 0, locals := 0 } : Room) s m #[(.ref a1), (.int p2)] below meth c T locs 0 0 → T.heap = h → Keep h0 h [a1] → ¬ i < 0 → i.toNatClampNeg + r = z.toNatClampNeg → own_Ar Z h a1 k .int z (List.map Value.int (own_fl xs i.toNatClampNeg p2)) (.int (0 : Int32)) → own_G p.tables e below (own_P s (Q3 Z a1 p2 k z xs h0 n0) 0 0) (T.setTop (mkF m 5 #[.val (.ref a1), .val (.int p2), .val (.int i), .val (.int z)] [])) := by
    intro r
    induction r with
    | zero =>
      intro T h locs i N X eT K hi hr V
      refine own_via (S' := T.setTop (mkF m 7 #[.val (.ref a1), .val (.int p2), .val (.int i), .val (.int z)] [(.int z), (.int i)])) (fun t k => ?_) ?_
      · show Steps p.tables e below (T.setTop (mkF m 5 #[.val (.ref a1), .val (.int p2), .val (.int i), .val (.int z)] [])) t
        refine XS.iloadN X.here hx rfl (hb hby d3_5) rfl ?_
        show Steps p.tables e below (T.setTop (mkF m 6 #[.val (.ref a1), .val (.int p2), .val (.int i), .val (.int z)] [(.int i)])) t
        refine XS.iloadN X.here hx rfl (hb hby d3_6) rfl ?_
        exact k
      refine own_via (S' := T.setTop (mkF m 20 #[.val (.ref a1), .val (.int p2), .val (.int i), .val (.int z)] [])) (fun t k => XS.icmpYes (g := (mkF m 7 #[.val (.ref a1), .val (.int p2), .val (.int i), .val (.int z)] [(.int z), (.int i)])) X.here hx rfl (pc0 := 7) (pc' := 20) rfl (hb hby d3_7) rfl (flt (own_out hi hr)).2.1 (by decide) (by decide) k) ?_
      have Vz := V
      have hiz : i.toNatClampNeg = xs.length := by omega
      rw [hiz, own_flN] at Vz
      exact own_end (h := h) X (v := none) Bd.notSynchronized (fun _ => rfl) (fun fs hr => X.returnOut hx Bd.returns (hb hby d3_20) hr) eT ⟨rfl, N, K, Vz⟩ (by decide) (by decide)
    | succ r ih =>
      intro T h locs i N X eT K hi hr V
      refine own_via (S' := T.setTop (mkF m 7 #[.val (.ref a1), .val (.int p2), .val (.int i), .val (.int z)] [(.int z), (.int i)])) (fun t k => ?_) ?_
      · show Steps p.tables e below (T.setTop (mkF m 5 #[.val (.ref a1), .val (.int p2), .val (.int i), .val (.int z)] [])) t
        refine XS.iloadN X.here hx rfl (hb hby d3_5) rfl ?_
        show Steps p.tables e below (T.setTop (mkF m 6 #[.val (.ref a1), .val (.int p2), .val (.int i), .val (.int z)] [(.int i)])) t
        refine XS.iloadN X.here hx rfl (hb hby d3_6) rfl ?_
        exact k
      refine own_via (S' := T.setTop (mkF m 10 #[.val (.ref a1), .val (.int p2), .val (.int i), .val (.int z)] [])) (fun t k => XS.icmpNo (g := (mkF m 7 #[.val (.ref a1), .val (.int p2), .val (.int i), .val (.int z)] [(.int z), (.int i)])) X.here hx rfl (hb hby d3_7) rfl (tlt (own_up hi hz hr).1).2.1 k) ?_
      refine own_via (S' := T.setTop (mkF m 13 #[.val (.ref a1), .val (.int p2), .val (.int i), .val (.int z)] [(.int p2), (.int i), (.ref a1)])) (fun t k => ?_) ?_
      · show Steps p.tables e below (T.setTop (mkF m 10 #[.val (.ref a1), .val (.int p2), .val (.int i), .val (.int z)] [])) t
        refine XS.aloadN X.here hx rfl (hb hby d3_10) rfl rfl ?_
        show Steps p.tables e below (T.setTop (mkF m 11 #[.val (.ref a1), .val (.int p2), .val (.int i), .val (.int z)] [(.ref a1)])) t
        refine XS.iloadN X.here hx rfl (hb hby d3_11) rfl ?_
        show Steps p.tables e below (T.setTop (mkF m 12 #[.val (.ref a1), .val (.int p2), .val (.int i), .val (.int z)] [(.int i), (.ref a1)])) t
        refine XS.iloadN X.here hx rfl (hb hby d3_12) rfl ?_
        exact k
      obtain ⟨⟨cl4, Ar4, q4, S4, Nn4, H4, G4⟩, Le4⟩ := id V
      have hin4 : ¬ (i < 0 ∨ cl4.slots.size ≤ (i).toNatClampNeg) := inb_of S4 ⟨hi, (own_up hi hz hr).1⟩
      obtain ⟨T4, h4, X4, e4, W4, st4⟩ := stI X hx hZ eT Ar4 (j := i) hin4 (g := (mkF m 13 #[.val (.ref a1), .val (.int p2), .val (.int i), .val (.int z)] [(.int p2), (.int i), (.ref a1)])) rfl rfl (hb hby d3_13)
      have V4 : own_Ar Z h4 a1 k .int z (List.map Value.int ((own_fl xs i.toNatClampNeg p2).set (i).toNatClampNeg p2)) (.int (0 : Int32)) := own_Ar.setI Ar4 q4 S4 Nn4 H4 G4 rfl W4 hin4 Le4
      have K5 : Keep h0 h4 [a1] := Keep.wr K W4 (Or.inl (List.mem_of_getElem? (i := 0) rfl))
      have N5 := Fr.snoc X4 N g_a1
      refine own_via st4 ?_
      show own_G p.tables e below _ (T4.setTop (mkF m 14 #[.val (.ref a1), .val (.int p2), .val (.int i), .val (.int z)] []))
      refine own_via (S' := T4.setTop (mkF m 5 #[.val (.ref a1), .val (.int p2), .val (.int (i + (1 : Int32))), .val (.int z)] [])) (fun t k => ?_) ?_
      · show Steps p.tables e below (T4.setTop (mkF m 14 #[.val (.ref a1), .val (.int p2), .val (.int i), .val (.int z)] [])) t
        refine XS.iinc X4.here hx rfl (hb hby d3_14) rfl (l' := #[.val (.ref a1), .val (.int p2), .val (.int (i + (1 : Int32))), .val (.int z)]) rfl ?_
        show Steps p.tables e below (T4.setTop (mkF m 17 #[.val (.ref a1), .val (.int p2), .val (.int (i + (1 : Int32))), .val (.int z)] [])) t
        refine XS.goto X4.here hx rfl (pc0 := 17) (pc' := 5) rfl (hb hby d3_17) (by decide) (by decide) ?_
        exact k
      have Vn := V4
      rw [own_flS xs _ p2 (by rw [hlen]; exact own_ixn ⟨hi, (own_up hi hz hr).1⟩), ← (own_up hi hz hr).2.2] at Vn
      exact ih _ _ _ _ N5 X4 e4 K5 (own_up hi hz hr).2.1 (by rw [(own_up hi hz hr).2.2]; omega) Vn
  exact loop z.toNatClampNeg _ _ _ 0 N0 X0 e0 K0 (by decide) (by simp) (by rw [show (0 : Int32).toNatClampNeg = 0 by decide, own_fl0]; exact V_a1)
theorem d1_0 : decode prog_30_method_1_code 0 = .ok (.aload_n 0, 1) := by decide +kernel
theorem d1_1 : decode prog_30_method_1_code 1 = .ok (.invokespecial 1, 3) := by decide +kernel
theorem d1_4 : decode prog_30_method_1_code 4 = .ok (.aload_n 0, 1) := by decide +kernel
theorem d1_5 : decode prog_30_method_1_code 5 = .ok (.iload_n 1, 1) := by decide +kernel
theorem d1_6 : decode prog_30_method_1_code 6 = .ok (.newarray .int, 2) := by decide +kernel
theorem d1_8 : decode prog_30_method_1_code 8 = .ok (.putfield 7, 3) := by decide +kernel
theorem d1_11 : decode prog_30_method_1_code 11 = .ok (.aload_n 0, 1) := by decide +kernel
theorem d1_12 : decode prog_30_method_1_code 12 = .ok (.iload_n 1, 1) := by decide +kernel
theorem d1_13 : decode prog_30_method_1_code 13 = .ok (.newarray .int, 2) := by decide +kernel
theorem d1_15 : decode prog_30_method_1_code 15 = .ok (.putfield 13, 3) := by decide +kernel
theorem d1_18 : decode prog_30_method_1_code 18 = .ok (.aload_n 0, 1) := by decide +kernel
theorem d1_19 : decode prog_30_method_1_code 19 = .ok (.getfield 13, 3) := by decide +kernel
theorem d1_22 : decode prog_30_method_1_code 22 = .ok (.iconst (-1), 1) := by decide +kernel
theorem d1_23 : decode prog_30_method_1_code 23 = .ok (.invokestatic 16, 3) := by decide +kernel
theorem d1_26 : decode prog_30_method_1_code 26 = .ok (.return_, 1) := by decide +kernel
theorem pn1 : plainName "com/example/vendace/vendace/localrecoding/DenseSet" = true := by first | (simp [plainName, overriddenIn]; done) | decide +kernel
theorem pd_0 : parseMethodDescriptor "([II)V" = some ⟨[(.array .int), .int], none⟩ := by decide +kernel
theorem ef1 (m : MethodId) (x0 : Addr) (x1 : Int32) : entryFrame m #[(.ref x0), (.int x1)] 2 = mkF m 0 #[.val (.ref x0), .val (.int x1)] [] := by first | (simp [entryFrame, mkF, argsToLocals, Value.category]; done) | rfl
def Q1 (Z : State) (a1 : Addr) (p1 : Int32) (h0 : Heap) (n0 : Nat) (v : Option Value) (h : Heap) (L : List Loc) : Prop := v = none ∧ Fr n0 L ∧ Keep h0 h [a1] ∧ ∃ (bm bp : Addr) (km kp : ClassId), n0 ≤ bm ∧ n0 ≤ bp ∧ h0.size ≤ bm ∧ h0.size ≤ bp ∧ a1 ≠ bm ∧ a1 ≠ bp ∧ bm ≠ bp ∧ own_DS Z h a1 bm bp km kp p1 (own_s0 p1)
set_option maxRecDepth 65536 in
set_option maxHeartbeats 40000000 in
theorem rm1 (l : Launch) (Z : State) (a0 : Array Value) (hw : ∀ d ∈ tables_1, d.before a0 Z = true) (ws : List Jvm.Cond) (a1 : Addr) (p1 : Int32) (h0 : Heap) (n0 : Nat) (Z0 : n0 ≤ h0.size) (F0_0 : Fld Z h0 a1 "com/example/vendace/vendace/localrecoding/DenseSet" "members" "[I" .null) (F1_0 : Fld Z h0 a1 "com/example/vendace/vendace/localrecoding/DenseSet" "places" "[I" .null) (F2_0 : Fld Z h0 a1 "com/example/vendace/vendace/localrecoding/DenseSet" "size" "I" (.int (0 : Int32))) (E_a1 : Exa Z h0 a1 "com/example/vendace/vendace/localrecoding/DenseSet") (g_a1 : n0 ≤ a1) (hz : ¬ p1 < 0) (hcap : p1.toNatClampNeg ≤ 4) :
    MetFree l (⟨"com/example/vendace/vendace/localrecoding/DenseSet", "<init>", "(I)V"⟩ : MethodName) (head1 (Jvm.Cond.code (⟨"com/example/vendace/vendace/localrecoding/DenseSet", "<init>", "(I)V"⟩ : MethodName) prog_30_method_1_code 2 none :: ws) ({ frames := 1, cells := 2, slots := 8, locals := 15 } : Room)) (fun a U => a = #[(.ref a1), (.int p1)] ∧ Z.Warmed39 U.vm ∧ U.heap = h0) (fun _ _ _ _ _ => True) (fun _ U o U' => ∃ v L, o = .returned v ∧ Q1 Z a1 p1 h0 n0 v U'.heap L ∧ FrameEnd U o U' L ({ frames := 1, cells := 2, slots := 8, locals := 15 } : Room).cells ({ frames := 1, cells := 2, slots := 8, locals := 15 } : Room).slots) := by
  refine MetFree.of_bodySF (plainFor_of_name pn1) hisR ?_
  intro p e s m args below meth c s₁ Bd hml0 hP hK
  obtain ⟨rfl, hZ, hh⟩ := hP
  have hx := Bd.exec
  have hby := Bd.bytes
  have hml : c.maxLocals = 2 := hml0
  have hown : s.vm.findClass "com/example/vendace/vendace/localrecoding/DenseSet" = some m.cls := findClass_of_methodNamed Bd.named
  have hnm := (name_of_methodNamed Bd.named Bd.method).1
  have X0 : Stand p l e ({ frames := 1, cells := 2, slots := 8, locals := 15 } : Room) s m #[(.ref a1), (.int p1)] below meth c s₁ [] 0 0 := Stand.of_body Bd
  have e0 : s₁.heap = h0 := by rw [← hh, Bd.state]; rfl
  have N0 := Fr.nil n0
  refine (show own_G p.tables e below (own_P s (Q1 Z a1 p1 h0 n0) 2 8) (s₁.setTop (entryFrame m #[(.ref a1), (.int p1)] 2)) from ?_)
  refine own_via (fun t k => castTop (ef1 m a1 p1) k) ?_
  show own_G p.tables e below _ (s₁.setTop (mkF m 0 #[.val (.ref a1), .val (.int p1)] []))
  have K0 := Keep.refl h0 [a1]
  refine own_via (S' := s₁.setTop (mkF m 1 #[.val (.ref a1), .val (.int p1)] [(.ref a1)])) (fun t k => ?_) ?_
  · show Steps p.tables e below (s₁.setTop (mkF m 0 #[.val (.ref a1), .val (.int p1)] [])) t
    refine XS.aloadN X0.here hx rfl (hb hby d1_0) rfl rfl ?_
    exact k
  obtain ⟨T1, X1, e1, st1⟩ := initO X0 hx hZ hown (hw _ (List.mem_of_getElem? (i := 6) rfl)) (hw _ (List.mem_of_getElem? (i := 7) rfl)) (hw _ (List.mem_of_getElem? (i := 8) rfl)) e0 (g := (mkF m 1 #[.val (.ref a1), .val (.int p1)] [(.ref a1)])) rfl (by rw [hml]; rfl) rfl (hb hby d1_1) (by decide) (W := 0) (by show 2 * 0 + _ ≤ _; exact Nat.le_of_eq rfl) (by decide)
  refine own_via st1 ?_
  show own_G p.tables e below _ (T1.setTop (mkF m 4 #[.val (.ref a1), .val (.int p1)] []))
  refine own_via (S' := T1.setTop (mkF m 6 #[.val (.ref a1), .val (.int p1)] [(.int p1), (.ref a1)])) (fun t k => ?_) ?_
  · show Steps p.tables e below (T1.setTop (mkF m 4 #[.val (.ref a1), .val (.int p1)] [])) t
    refine XS.aloadN X1.here hx rfl (hb hby d1_4) rfl rfl ?_
    show Steps p.tables e below (T1.setTop (mkF m 5 #[.val (.ref a1), .val (.int p1)] [(.ref a1)])) t
    refine XS.iloadN X1.here hx rfl (hb hby d1_5) rfl ?_
    exact k
  obtain ⟨T2, h2, k2, X2, e2, E2, A2, st2⟩ := newP X1 hx hZ (hw _ (List.mem_of_getElem? (i := 9) rfl)) e1 (g := (mkF m 6 #[.val (.ref a1), .val (.int p1)] [(.int p1), (.ref a1)])) rfl (hb hby d1_6) rfl hz (cap := 4) hcap (by decide) (by decide) (by decide)
  obtain ⟨b2, g2⟩ : ∃ z, z = h0.size := ⟨_, rfl⟩
  have ne_a1_b2 : a1 ≠ b2 := Nat.ne_of_lt (Nat.lt_of_lt_of_le (E_a1).lt (Nat.le_of_eq g2.symm))
  have g_b2 : n0 ≤ b2 := Nat.le_trans (Nat.le_trans Z0 K0.1) (Nat.le_of_eq g2.symm)
  have sz_b2 : h0.size ≤ b2 := Nat.le_trans K0.1 (Nat.le_of_eq g2.symm)
  rw [← g2] at A2 st2
  have K2 : Keep h0 h2 [a1] := Keep.ext K0 E2
  have V_b2 : own_Ar Z h2 b2 k2 .int p1 (List.map Value.int (List.replicate (p1).toNatClampNeg (0 : Int32))) (.int (0 : Int32)) := own_Ar.newI A2 hz
  refine own_via st2 ?_
  show own_G p.tables e below _ (T2.setTop (mkF m 8 #[.val (.ref a1), .val (.int p1)] [(.ref b2), (.ref a1)]))
  have c3 := (Fld.ext E2 F0_0)
  have c4 := (Exa.ext E2 E_a1)
  obtain ⟨T5, h5, X5, e5, W5, st5⟩ := putF X2 hx hZ hown (host := "") (Or.inl (hw _ (List.mem_of_getElem? (i := 10) rfl))) Via.refl e2 c3 c4 (Or.inr ⟨(hw _ (List.mem_of_getElem? (i := 11) rfl)), rfl, hnm⟩) (hw _ (List.mem_of_getElem? (i := 1) rfl)) (ty := (.array .int)) (by decide) rfl rfl (g := (mkF m 8 #[.val (.ref a1), .val (.int p1)] [(.ref b2), (.ref a1)])) rfl rfl (hb hby d1_8)
  have F5 := Fld.same W5 c3
  have K6 : Keep h0 h5 [a1] := Keep.wr K2 W5 (Or.inl (List.mem_of_getElem? (i := 0) rfl))
  have N6 := Fr.snoc X5 N0 g_a1
  refine own_via st5 ?_
  show own_G p.tables e below _ (T5.setTop (mkF m 11 #[.val (.ref a1), .val (.int p1)] []))
  refine own_via (S' := T5.setTop (mkF m 13 #[.val (.ref a1), .val (.int p1)] [(.int p1), (.ref a1)])) (fun t k => ?_) ?_
  · show Steps p.tables e below (T5.setTop (mkF m 11 #[.val (.ref a1), .val (.int p1)] [])) t
    refine XS.aloadN X5.here hx rfl (hb hby d1_11) rfl rfl ?_
    show Steps p.tables e below (T5.setTop (mkF m 12 #[.val (.ref a1), .val (.int p1)] [(.ref a1)])) t
    refine XS.iloadN X5.here hx rfl (hb hby d1_12) rfl ?_
    exact k
  obtain ⟨T7, h7, k7, X7, e7, E7, A7, st7⟩ := newP X5 hx hZ (hw _ (List.mem_of_getElem? (i := 9) rfl)) e5 (g := (mkF m 13 #[.val (.ref a1), .val (.int p1)] [(.int p1), (.ref a1)])) rfl (hb hby d1_13) rfl hz (cap := 4) hcap (by decide) (by decide) (by decide)
  have c8 := (Exa.wr W5 c4)
  have c9 := (own_Ar.other V_b2 W5 (Ne.symm ne_a1_b2))
  obtain ⟨b7, g7⟩ : ∃ z, z = h5.size := ⟨_, rfl⟩
  have ne_a1_b7 : a1 ≠ b7 := Nat.ne_of_lt (Nat.lt_of_lt_of_le (c8).lt (Nat.le_of_eq g7.symm))
  have ne_b2_b7 : b2 ≠ b7 := Nat.ne_of_lt (Nat.lt_of_lt_of_le (c9).lt (Nat.le_of_eq g7.symm))
  have g_b7 : n0 ≤ b7 := Nat.le_trans (Nat.le_trans Z0 K6.1) (Nat.le_of_eq g7.symm)
  have sz_b7 : h0.size ≤ b7 := Nat.le_trans K6.1 (Nat.le_of_eq g7.symm)
  rw [← g7] at A7 st7
  have K7 : Keep h0 h7 [a1] := Keep.ext K6 E7
  have V_b7 : own_Ar Z h7 b7 k7 .int p1 (List.map Value.int (List.replicate (p1).toNatClampNeg (0 : Int32))) (.int (0 : Int32)) := own_Ar.newI A7 hz
  refine own_via st7 ?_
  show own_G p.tables e below _ (T7.setTop (mkF m 15 #[.val (.ref a1), .val (.int p1)] [(.ref b7), (.ref a1)]))
  have c10 := (Fld.ext E7 (Fld.other W5 (Fld.ext E2 F1_0) (Or.inr (slot_ne (Or.inr (hw _ (List.mem_of_getElem? (i := 13) rfl))) (Or.inr (hw _ (List.mem_of_getElem? (i := 11) rfl))) (by decide) (t := (.array .int)) (t' := (.array .int)) (by decide) (by decide)))))
  have c11 := (Exa.ext E7 c8)
  obtain ⟨T12, h12, X12, e12, W12, st12⟩ := putF X7 hx hZ hown (host := "") (Or.inl (hw _ (List.mem_of_getElem? (i := 12) rfl))) Via.refl e7 c10 c11 (Or.inr ⟨(hw _ (List.mem_of_getElem? (i := 13) rfl)), rfl, hnm⟩) (hw _ (List.mem_of_getElem? (i := 1) rfl)) (ty := (.array .int)) (by decide) rfl rfl (g := (mkF m 15 #[.val (.ref a1), .val (.int p1)] [(.ref b7), (.ref a1)])) rfl rfl (hb hby d1_15)
  have F12 := Fld.same W12 c10
  have K13 : Keep h0 h12 [a1] := Keep.wr K7 W12 (Or.inl (List.mem_of_getElem? (i := 0) rfl))
  have N13 := Fr.snoc X12 N6 g_a1
  refine own_via st12 ?_
  show own_G p.tables e below _ (T12.setTop (mkF m 18 #[.val (.ref a1), .val (.int p1)] []))
  refine own_via (S' := T12.setTop (mkF m 19 #[.val (.ref a1), .val (.int p1)] [(.ref a1)])) (fun t k => ?_) ?_
  · show Steps p.tables e below (T12.setTop (mkF m 18 #[.val (.ref a1), .val (.int p1)] [])) t
    refine XS.aloadN X12.here hx rfl (hb hby d1_18) rfl rfl ?_
    exact k
  obtain ⟨T14, X14, e14, st14⟩ := getF X12 hx hZ hown (host := "") (Or.inl (hw _ (List.mem_of_getElem? (i := 12) rfl))) Via.refl e12 F12 (g := (mkF m 19 #[.val (.ref a1), .val (.int p1)] [(.ref a1)])) rfl rfl (hb hby d1_19)
  refine own_via st14 ?_
  show own_G p.tables e below _ (T14.setTop (mkF m 22 #[.val (.ref a1), .val (.int p1)] [(.ref b7)]))
  refine own_via (S' := T14.setTop (mkF m 23 #[.val (.ref a1), .val (.int p1)] [(.int (-1 : Int32)), (.ref b7)])) (fun t k => ?_) ?_
  · show Steps p.tables e below (T14.setTop (mkF m 22 #[.val (.ref a1), .val (.int p1)] [(.ref b7)])) t
    refine XS.iconst X14.here hx rfl (hb hby d1_22) ?_
    exact k
  have c15 := (own_Ar.other V_b7 W12 (Ne.symm ne_a1_b7))
  obtain ⟨_, _, ⟨T16, L16, k16, n16⟩, -, X16, ⟨Lc16, hQ16, l16, y16, z16⟩, st16⟩ := Jvm.LawKit.callS X14 hx (y := (⟨"java/util/Arrays", "fill", "([II)V"⟩ : MethodName)) hown (mvT hZ (hw _ (List.mem_of_getElem? (i := 14) rfl))) (mvT hZ (hw _ (List.mem_of_getElem? (i := 15) rfl))) (mvT hZ (hw _ (List.mem_of_getElem? (i := 16) rfl))) (mvT hZ (hw _ (List.mem_of_getElem? (i := 17) rfl))) (by decide) (backOf (W := 0) (rm3 l Z a0 hw [] b7 (-1 : Int32) k7 p1 (List.replicate (p1).toNatClampNeg (0 : Int32)) h12 n0 (Nat.le_trans Z0 K13.1) c15 g_b7) hZ (hw _ (List.mem_of_getElem? (i := 17) rfl)) (hw _ (List.mem_of_getElem? (i := 16) rfl)) (by decide) (by decide)) (g := (mkF m 23 #[.val (.ref a1), .val (.int p1)] [(.int (-1 : Int32)), (.ref b7)])) rfl (by rw [hml]; rfl) (argsL := [(.ref b7), (.int (-1 : Int32))]) (rest := []) (lenOf pd_0 rfl) rfl (by show 2 * 0 + _ ≤ _; exact Nat.le_of_eq rfl) (hb hby d1_23) (fun _ _ => ⟨rfl, e14, (by decide : 2 + 0 ≤ _), (by decide : 8 + 0 ≤ _)⟩)
  dsimp only [Pt.U, Pt.locs, Pt.cells, Pt.slots] at X16 l16 y16 z16 st16 hQ16
  subst l16 y16 z16
  obtain ⟨rfl, Nq16, Kc16, Vc16⟩ := hQ16
  have N16 := Fr.app N13 Nq16
  refine own_via st16 ?_
  show own_G p.tables e below _ (T16.setTop (mkF m 26 #[.val (.ref a1), .val (.int p1)] []))
  have K16 : Keep h0 T16.heap [a1] := Keep.trans K13 Kc16 (allS (Or.inr sz_b7) all0)
  have c17 := (Exa.keep (Exa.wr W12 c11) Kc16)
  have c18 := (Fld.keep (Fld.other W12 (Fld.ext E7 F5) (Or.inr (slot_ne (Or.inr (hw _ (List.mem_of_getElem? (i := 11) rfl))) (Or.inr (hw _ (List.mem_of_getElem? (i := 13) rfl))) (by decide) (t := (.array .int)) (t' := (.array .int)) (by decide) (by decide)))) Kc16 (ninS ne_a1_b7 nin0))
  have c19 := (Fld.keep F12 Kc16 (ninS ne_a1_b7 nin0))
  have c20 := (Fld.keep (Fld.other W12 (Fld.ext E7 (Fld.other W5 (Fld.ext E2 F2_0) (Or.inr (slot_ne (Or.inl (hw _ (List.mem_of_getElem? (i := 33) rfl))) (Or.inr (hw _ (List.mem_of_getElem? (i := 11) rfl))) (by decide) (t := .int) (t' := (.array .int)) (by decide) (by decide))))) (Or.inr (slot_ne (Or.inl (hw _ (List.mem_of_getElem? (i := 33) rfl))) (Or.inr (hw _ (List.mem_of_getElem? (i := 13) rfl))) (by decide) (t := .int) (t' := (.array .int)) (by decide) (by decide)))) Kc16 (ninS ne_a1_b7 nin0))
  have c21 := (own_Ar.keep (own_Ar.other (own_Ar.ext c9 E7) W12 (Ne.symm ne_a1_b2)) Kc16 (ninS ne_b2_b7 nin0))
  exact own_end (h := T16.heap) X16 (v := none) Bd.notSynchronized (fun _ => rfl) (fun fs hr => X16.returnOut hx Bd.returns (hb hby d1_26) hr) rfl ⟨rfl, N16, K16, b2, b7, k2, k7, g_b2, g_b7, sz_b2, sz_b7, ne_a1_b2, ne_a1_b7, ne_b2_b7, ⟨c17, c18, c19, c20, c21, Vc16⟩⟩ (by decide) (by decide)
theorem d7_0 : decode prog_30_method_4_code 0 = .ok (.aload_n 0, 1) := by decide +kernel
theorem d7_1 : decode prog_30_method_4_code 1 = .ok (.getfield 13, 3) := by decide +kernel
theorem d7_4 : decode prog_30_method_4_code 4 = .ok (.iload_n 1, 1) := by decide +kernel
theorem d7_5 : decode prog_30_method_4_code 5 = .ok (.iaload, 1) := by decide +kernel
theorem d7_6 : decode prog_30_method_4_code 6 = .ok (.ifCond .lt 4, 3) := by decide +kernel
theorem d7_9 : decode prog_30_method_4_code 9 = .ok (.return_, 1) := by decide +kernel
theorem d7_10 : decode prog_30_method_4_code 10 = .ok (.aload_n 0, 1) := by decide +kernel
theorem d7_11 : decode prog_30_method_4_code 11 = .ok (.getfield 13, 3) := by decide +kernel
theorem d7_14 : decode prog_30_method_4_code 14 = .ok (.iload_n 1, 1) := by decide +kernel
theorem d7_15 : decode prog_30_method_4_code 15 = .ok (.aload_n 0, 1) := by decide +kernel
theorem d7_16 : decode prog_30_method_4_code 16 = .ok (.getfield 22, 3) := by decide +kernel
theorem d7_19 : decode prog_30_method_4_code 19 = .ok (.iastore, 1) := by decide +kernel
theorem d7_20 : decode prog_30_method_4_code 20 = .ok (.aload_n 0, 1) := by decide +kernel
theorem d7_21 : decode prog_30_method_4_code 21 = .ok (.getfield 7, 3) := by decide +kernel
theorem d7_24 : decode prog_30_method_4_code 24 = .ok (.aload_n 0, 1) := by decide +kernel
theorem d7_25 : decode prog_30_method_4_code 25 = .ok (.dup, 1) := by decide +kernel
theorem d7_26 : decode prog_30_method_4_code 26 = .ok (.getfield 22, 3) := by decide +kernel
theorem d7_29 : decode prog_30_method_4_code 29 = .ok (.dup_x1, 1) := by decide +kernel
theorem d7_30 : decode prog_30_method_4_code 30 = .ok (.iconst 1, 1) := by decide +kernel
theorem d7_31 : decode prog_30_method_4_code 31 = .ok (.iadd, 1) := by decide +kernel
theorem d7_32 : decode prog_30_method_4_code 32 = .ok (.putfield 22, 3) := by decide +kernel
theorem d7_35 : decode prog_30_method_4_code 35 = .ok (.iload_n 1, 1) := by decide +kernel
theorem d7_36 : decode prog_30_method_4_code 36 = .ok (.iastore, 1) := by decide +kernel
theorem d7_37 : decode prog_30_method_4_code 37 = .ok (.return_, 1) := by decide +kernel
theorem pn7 : plainName "com/example/vendace/vendace/localrecoding/DenseSet" = true := by first | (simp [plainName, overriddenIn]; done) | decide +kernel
theorem ef7 (m : MethodId) (x0 : Addr) (x1 : Int32) : entryFrame m #[(.ref x0), (.int x1)] 2 = mkF m 0 #[.val (.ref x0), .val (.int x1)] [] := by first | (simp [entryFrame, mkF, argsToLocals, Value.category]; done) | rfl
def Q7 (Z : State) (a1 : Addr) (p2 : Int32) (bm : Addr) (bp : Addr) (km : ClassId) (kp : ClassId) (z : Int32) (S : own_T) (h0 : Heap) (n0 : Nat) (v : Option Value) (h : Heap) (L : List Loc) : Prop := v = none ∧ Fr n0 L ∧ Keep h0 h [a1, bm, bp] ∧ ∃ S' : own_T, S' = own_add S p2 ∧ own_DS Z h a1 bm bp km kp z S'
set_option maxRecDepth 65536 in
set_option maxHeartbeats 40000000 in
theorem rm7 (l : Launch) (Z : State) (a0 : Array Value) (hw : ∀ d ∈ tables_1, d.before a0 Z = true) (ws : List Jvm.Cond) (a1 : Addr) (p2 : Int32) (bm : Addr) (bp : Addr) (km : ClassId) (kp : ClassId) (z : Int32) (S : own_T) (h0 : Heap) (n0 : Nat) (Z0 : n0 ≤ h0.size) (DS0 : own_DS Z h0 a1 bm bp km kp z S) (ne1 : a1 ≠ bm) (ne2 : a1 ≠ bp) (ne3 : bm ≠ bp) (g1 : n0 ≤ a1) (g2 : n0 ≤ bm) (g3 : n0 ≤ bp) (hpre : own_preA z S p2) :
    MetFree l (⟨"com/example/vendace/vendace/localrecoding/DenseSet", "add", "(I)V"⟩ : MethodName) (head1 (Jvm.Cond.code (⟨"com/example/vendace/vendace/localrecoding/DenseSet", "add", "(I)V"⟩ : MethodName) prog_30_method_4_code 2 none :: ws) ({ frames := 0, cells := 0, slots := 0, locals := 0 } : Room)) (fun a U => a = #[(.ref a1), (.int p2)] ∧ Z.Warmed39 U.vm ∧ U.heap = h0) (fun _ _ _ _ _ => True) (fun _ U o U' => ∃ v L, o = .returned v ∧ Q7 Z a1 p2 bm bp km kp z S h0 n0 v U'.heap L ∧ FrameEnd U o U' L ({ frames := 0, cells := 0, slots := 0, locals := 0 } : Room).cells ({ frames := 0, cells := 0, slots := 0, locals := 0 } : Room).slots) := by
  refine MetFree.of_bodySF (plainFor_of_name pn7) hisR ?_
  intro p e s m args below meth c s₁ Bd hml0 hP hK
  obtain ⟨rfl, hZ, hh⟩ := hP
  have hx := Bd.exec
  have hby := Bd.bytes
  have hml : c.maxLocals = 2 := hml0
  have hown : s.vm.findClass "com/example/vendace/vendace/localrecoding/DenseSet" = some m.cls := findClass_of_methodNamed Bd.named
  have hnm := (name_of_methodNamed Bd.named Bd.method).1
  have X0 : Stand p l e ({ frames := 0, cells := 0, slots := 0, locals := 0 } : Room) s m #[(.ref a1), (.int p2)] below meth c s₁ [] 0 0 := Stand.of_body Bd
  have e0 : s₁.heap = h0 := by rw [← hh, Bd.state]; rfl
  have N0 := Fr.nil n0
  refine (show own_G p.tables e below (own_P s (Q7 Z a1 p2 bm bp km kp z S h0 n0) 0 0) (s₁.setTop (entryFrame m #[(.ref a1), (.int p2)] 2)) from ?_)
  refine own_via (fun t k => castTop (ef7 m a1 p2) k) ?_
  show own_G p.tables e below _ (s₁.setTop (mkF m 0 #[.val (.ref a1), .val (.int p2)] []))
  obtain ⟨DE, DM, DP, DZ, DA, DB⟩ := id DS0
  have K0 := Keep.refl h0 [a1, bm, bp]
  refine own_via (S' := s₁.setTop (mkF m 1 #[.val (.ref a1), .val (.int p2)] [(.ref a1)])) (fun t k => ?_) ?_
  · show Steps p.tables e below (s₁.setTop (mkF m 0 #[.val (.ref a1), .val (.int p2)] [])) t
    refine XS.aloadN X0.here hx rfl (hb hby d7_0) rfl rfl ?_
    exact k
  obtain ⟨T1, X1, e1, st1⟩ := getF X0 hx hZ hown (host := "") (Or.inl (hw _ (List.mem_of_getElem? (i := 12) rfl))) Via.refl e0 DP (g := (mkF m 1 #[.val (.ref a1), .val (.int p2)] [(.ref a1)])) rfl rfl (hb hby d7_1)
  refine own_via st1 ?_
  show own_G p.tables e below _ (T1.setTop (mkF m 4 #[.val (.ref a1), .val (.int p2)] [(.ref bp)]))
  refine own_via (S' := T1.setTop (mkF m 5 #[.val (.ref a1), .val (.int p2)] [(.int p2), (.ref bp)])) (fun t k => ?_) ?_
  · show Steps p.tables e below (T1.setTop (mkF m 4 #[.val (.ref a1), .val (.int p2)] [(.ref bp)])) t
    refine XS.iloadN X1.here hx rfl (hb hby d7_4) rfl ?_
    exact k
  obtain ⟨⟨cl2, Ar2, q2, S2, Nn2, H2, G2⟩, Le2⟩ := id DB
  have hin2 : ¬ (p2 < 0 ∨ cl2.slots.size ≤ (p2).toNatClampNeg) := inb_of S2 hpre.1
  have hat2 : cl2.slots[(p2).toNatClampNeg]? = some (.int (S.2.1.getD (p2).toNatClampNeg 0)) := Has.at H2 hin2 (own_gI _ _)
  refine own_via (S' := T1.setTop (mkF m 6 #[.val (.ref a1), .val (.int p2)] [(.int (S.2.1.getD (p2).toNatClampNeg 0))])) (fun t kz_ => X1.iaload hx (j := p2) (v := (.int (S.2.1.getD (p2).toNatClampNeg 0))) (by rw [e1]; exact Ar2.1) (State.isArrayOf_alike hZ.alike Ar2.2.1) Ar2.2.2 hin2 hat2 (g := (mkF m 5 #[.val (.ref a1), .val (.int p2)] [(.int p2), (.ref bp)])) rfl rfl (hb hby d7_5) _ kz_) ?_
  by_cases hc6_3 : (S.2.1.getD (p2).toNatClampNeg 0) < (0 : Int32)
  · refine own_via (S' := T1.setTop (mkF m 10 #[.val (.ref a1), .val (.int p2)] [])) (fun t k => XS.ifYes (g := (mkF m 6 #[.val (.ref a1), .val (.int p2)] [(.int (S.2.1.getD (p2).toNatClampNeg 0))])) X1.here hx rfl (pc0 := 6) (pc' := 10) rfl (hb hby d7_6) rfl ((if0 _ _).trans (tlt hc6_3).1) (by decide) (by decide) k) ?_
    refine own_via (S' := T1.setTop (mkF m 11 #[.val (.ref a1), .val (.int p2)] [(.ref a1)])) (fun t k => ?_) ?_
    · show Steps p.tables e below (T1.setTop (mkF m 10 #[.val (.ref a1), .val (.int p2)] [])) t
      refine XS.aloadN X1.here hx rfl (hb hby d7_10) rfl rfl ?_
      exact k
    obtain ⟨T4, X4, e4, st4⟩ := getF X1 hx hZ hown (host := "") (Or.inl (hw _ (List.mem_of_getElem? (i := 12) rfl))) Via.refl e1 DP (g := (mkF m 11 #[.val (.ref a1), .val (.int p2)] [(.ref a1)])) rfl rfl (hb hby d7_11)
    refine own_via st4 ?_
    show own_G p.tables e below _ (T4.setTop (mkF m 14 #[.val (.ref a1), .val (.int p2)] [(.ref bp)]))
    refine own_via (S' := T4.setTop (mkF m 16 #[.val (.ref a1), .val (.int p2)] [(.ref a1), (.int p2), (.ref bp)])) (fun t k => ?_) ?_
    · show Steps p.tables e below (T4.setTop (mkF m 14 #[.val (.ref a1), .val (.int p2)] [(.ref bp)])) t
      refine XS.iloadN X4.here hx rfl (hb hby d7_14) rfl ?_
      show Steps p.tables e below (T4.setTop (mkF m 15 #[.val (.ref a1), .val (.int p2)] [(.int p2), (.ref bp)])) t
      refine XS.aloadN X4.here hx rfl (hb hby d7_15) rfl rfl ?_
      exact k
    obtain ⟨T5, X5, e5, st5⟩ := getF X4 hx hZ hown (host := "") (Or.inl (hw _ (List.mem_of_getElem? (i := 32) rfl))) Via.refl e4 DZ (g := (mkF m 16 #[.val (.ref a1), .val (.int p2)] [(.ref a1), (.int p2), (.ref bp)])) rfl rfl (hb hby d7_16)
    refine own_via st5 ?_
    show own_G p.tables e below _ (T5.setTop (mkF m 19 #[.val (.ref a1), .val (.int p2)] [(.int S.2.2), (.int p2), (.ref bp)]))
    obtain ⟨⟨cl6, Ar6, q6, S6, Nn6, H6, G6⟩, Le6⟩ := id DB
    have hin6 : ¬ (p2 < 0 ∨ cl6.slots.size ≤ (p2).toNatClampNeg) := inb_of S6 hpre.1
    obtain ⟨T6, h6, X6, e6, W6, st6⟩ := stI X5 hx hZ e5 Ar6 (j := p2) hin6 (g := (mkF m 19 #[.val (.ref a1), .val (.int p2)] [(.int S.2.2), (.int p2), (.ref bp)])) rfl rfl (hb hby d7_19)
    have V6 : own_Ar Z h6 bp kp .int z (List.map Value.int (S.2.1.set (p2).toNatClampNeg S.2.2)) (.int (0 : Int32)) := own_Ar.setI Ar6 q6 S6 Nn6 H6 G6 rfl W6 hin6 Le6
    have K7 : Keep h0 h6 [a1, bm, bp] := Keep.wr K0 W6 (Or.inl (List.mem_of_getElem? (i := 2) rfl))
    have N7 := Fr.snoc X6 N0 g3
    refine own_via st6 ?_
    show own_G p.tables e below _ (T6.setTop (mkF m 20 #[.val (.ref a1), .val (.int p2)] []))
    refine own_via (S' := T6.setTop (mkF m 21 #[.val (.ref a1), .val (.int p2)] [(.ref a1)])) (fun t k => ?_) ?_
    · show Steps p.tables e below (T6.setTop (mkF m 20 #[.val (.ref a1), .val (.int p2)] [])) t
      refine XS.aloadN X6.here hx rfl (hb hby d7_20) rfl rfl ?_
      exact k
    have c8 := (Fld.other W6 DM (Or.inl ne2))
    obtain ⟨T9, X9, e9, st9⟩ := getF X6 hx hZ hown (host := "") (Or.inl (hw _ (List.mem_of_getElem? (i := 10) rfl))) Via.refl e6 c8 (g := (mkF m 21 #[.val (.ref a1), .val (.int p2)] [(.ref a1)])) rfl rfl (hb hby d7_21)
    refine own_via st9 ?_
    show own_G p.tables e below _ (T9.setTop (mkF m 24 #[.val (.ref a1), .val (.int p2)] [(.ref bm)]))
    refine own_via (S' := T9.setTop (mkF m 26 #[.val (.ref a1), .val (.int p2)] [(.ref a1), (.ref a1), (.ref bm)])) (fun t k => ?_) ?_
    · show Steps p.tables e below (T9.setTop (mkF m 24 #[.val (.ref a1), .val (.int p2)] [(.ref bm)])) t
      refine XS.aloadN X9.here hx rfl (hb hby d7_24) rfl rfl ?_
      show Steps p.tables e below (T9.setTop (mkF m 25 #[.val (.ref a1), .val (.int p2)] [(.ref a1), (.ref bm)])) t
      refine XS.dup X9.here hx rfl (hb hby d7_25) rfl rfl ?_
      exact k
    have c10 := (Fld.other W6 DZ (Or.inl ne2))
    obtain ⟨T11, X11, e11, st11⟩ := getF X9 hx hZ hown (host := "") (Or.inl (hw _ (List.mem_of_getElem? (i := 32) rfl))) Via.refl e9 c10 (g := (mkF m 26 #[.val (.ref a1), .val (.int p2)] [(.ref a1), (.ref a1), (.ref bm)])) rfl rfl (hb hby d7_26)
    refine own_via st11 ?_
    show own_G p.tables e below _ (T11.setTop (mkF m 29 #[.val (.ref a1), .val (.int p2)] [(.int S.2.2), (.ref a1), (.ref bm)]))
    refine own_via (S' := T11.setTop (mkF m 32 #[.val (.ref a1), .val (.int p2)] [(.int (S.2.2 + (1 : Int32))), (.ref a1), (.int S.2.2), (.ref bm)])) (fun t k => ?_) ?_
    · show Steps p.tables e below (T11.setTop (mkF m 29 #[.val (.ref a1), .val (.int p2)] [(.int S.2.2), (.ref a1), (.ref bm)])) t
      refine XS.dupX1 X11.here hx rfl (hb hby d7_29) rfl rfl rfl ?_
      show Steps p.tables e below (T11.setTop (mkF m 30 #[.val (.ref a1), .val (.int p2)] [(.int S.2.2), (.ref a1), (.int S.2.2), (.ref bm)])) t
      refine XS.iconst X11.here hx rfl (hb hby d7_30) ?_
      show Steps p.tables e below (T11.setTop (mkF m 31 #[.val (.ref a1), .val (.int p2)] [(.int (1 : Int32)), (.int S.2.2), (.ref a1), (.int S.2.2), (.ref bm)])) t
      refine XS.iadd X11.here hx rfl (hb hby d7_31) rfl ?_
      exact k
    have c12 := (Exa.wr W6 DE)
    obtain ⟨T13, h13, X13, e13, W13, st13⟩ := putF X11 hx hZ hown (host := "") (Or.inl (hw _ (List.mem_of_getElem? (i := 32) rfl))) Via.refl e11 c10 c12 (Or.inl (hw _ (List.mem_of_getElem? (i := 33) rfl))) (hw _ (List.mem_of_getElem? (i := 1) rfl)) (ty := .int) (by decide) rfl rfl (g := (mkF m 32 #[.val (.ref a1), .val (.int p2)] [(.int (S.2.2 + (1 : Int32))), (.ref a1), (.int S.2.2), (.ref bm)])) rfl rfl (hb hby d7_32)
    have F13 := Fld.same W13 c10
    have K14 : Keep h0 h13 [a1, bm, bp] := Keep.wr K7 W13 (Or.inl (List.mem_of_getElem? (i := 0) rfl))
    have N14 := Fr.snoc X13 N7 g1
    refine own_via st13 ?_
    show own_G p.tables e below _ (T13.setTop (mkF m 35 #[.val (.ref a1), .val (.int p2)] [(.int S.2.2), (.ref bm)]))
    refine own_via (S' := T13.setTop (mkF m 36 #[.val (.ref a1), .val (.int p2)] [(.int p2), (.int S.2.2), (.ref bm)])) (fun t k => ?_) ?_
    · show Steps p.tables e below (T13.setTop (mkF m 35 #[.val (.ref a1), .val (.int p2)] [(.int S.2.2), (.ref bm)])) t
      refine XS.iloadN X13.here hx rfl (hb hby d7_35) rfl ?_
      exact k
    have c15 := (own_Ar.other (own_Ar.other DA W6 ne3) W13 (Ne.symm ne1))
    obtain ⟨⟨cl16, Ar16, q16, S16, Nn16, H16, G16⟩, Le16⟩ := id c15
    have hin16 : ¬ (S.2.2 < 0 ∨ cl16.slots.size ≤ (S.2.2).toNatClampNeg) := inb_of S16 (hpre.2 hc6_3)
    obtain ⟨T16, h16, X16, e16, W16, st16⟩ := stI X13 hx hZ e13 Ar16 (j := S.2.2) hin16 (g := (mkF m 36 #[.val (.ref a1), .val (.int p2)] [(.int p2), (.int S.2.2), (.ref bm)])) rfl rfl (hb hby d7_36)
    have V16 : own_Ar Z h16 bm km .int z (List.map Value.int (S.1.set (S.2.2).toNatClampNeg p2)) (.int (0 : Int32)) := own_Ar.setI Ar16 q16 S16 Nn16 H16 G16 rfl W16 hin16 Le16
    have K17 : Keep h0 h16 [a1, bm, bp] := Keep.wr K14 W16 (Or.inl (List.mem_of_getElem? (i := 1) rfl))
    have N17 := Fr.snoc X16 N14 g2
    refine own_via st16 ?_
    show own_G p.tables e below _ (T16.setTop (mkF m 37 #[.val (.ref a1), .val (.int p2)] []))
    have c18 := (Exa.wr W16 (Exa.wr W13 c12))
    have c19 := (Fld.other W16 (Fld.other W13 c8 (Or.inr (slot_ne (Or.inr (hw _ (List.mem_of_getElem? (i := 11) rfl))) (Or.inl (hw _ (List.mem_of_getElem? (i := 33) rfl))) (by decide) (t := (.array .int)) (t' := .int) (by decide) (by decide)))) (Or.inl ne1))
    have c20 := (Fld.other W16 (Fld.other W13 (Fld.other W6 DP (Or.inl ne2)) (Or.inr (slot_ne (Or.inr (hw _ (List.mem_of_getElem? (i := 13) rfl))) (Or.inl (hw _ (List.mem_of_getElem? (i := 33) rfl))) (by decide) (t := (.array .int)) (t' := .int) (by decide) (by decide)))) (Or.inl ne1))
    have c21 := (Fld.other W16 F13 (Or.inl ne1))
    have c22 := (own_Ar.other (own_Ar.other V6 W13 (Ne.symm ne2)) W16 (Ne.symm ne3))
    have hS : own_add S p2 = _ := (by unfold own_add; exact if_pos hc6_3)
    exact own_end (h := h16) X16 (v := none) Bd.notSynchronized (fun _ => rfl) (fun fs hr => X16.returnOut hx Bd.returns (hb hby d7_37) hr) e16 ⟨rfl, N17, K17, _, hS.symm, ⟨c18, c19, c20, c21, V16, c22⟩⟩ (by decide) (by decide)
  · refine own_via (S' := T1.setTop (mkF m 9 #[.val (.ref a1), .val (.int p2)] [])) (fun t k => XS.ifNo (g := (mkF m 6 #[.val (.ref a1), .val (.int p2)] [(.int (S.2.1.getD (p2).toNatClampNeg 0))])) X1.here hx rfl (hb hby d7_6) rfl ((if0 _ _).trans (flt hc6_3).1) k) ?_
    have hS : own_add S p2 = _ := (by unfold own_add; exact if_neg hc6_3)
    exact own_end (h := h0) X1 (v := none) Bd.notSynchronized (fun _ => rfl) (fun fs hr => X1.returnOut hx Bd.returns (hb hby d7_9) hr) e1 ⟨rfl, N0, K0, _, hS.symm, ⟨DE, DM, DP, DZ, DA, DB⟩⟩ (by decide) (by decide)
theorem d4_0 : decode prog_30_method_5_code 0 = .ok (.aload_n 0, 1) := by decide +kernel
theorem d4_1 : decode prog_30_method_5_code 1 = .ok (.getfield 13, 3) := by decide +kernel
theorem d4_4 : decode prog_30_method_5_code 4 = .ok (.iload_n 1, 1) := by decide +kernel
theorem d4_5 : decode prog_30_method_5_code 5 = .ok (.iaload, 1) := by decide +kernel
theorem d4_6 : decode prog_30_method_5_code 6 = .ok (.istore_n 2, 1) := by decide +kernel
theorem d4_7 : decode prog_30_method_5_code 7 = .ok (.iload_n 2, 1) := by decide +kernel
theorem d4_8 : decode prog_30_method_5_code 8 = .ok (.ifCond .ge 4, 3) := by decide +kernel
theorem d4_11 : decode prog_30_method_5_code 11 = .ok (.return_, 1) := by decide +kernel
theorem d4_12 : decode prog_30_method_5_code 12 = .ok (.aload_n 0, 1) := by decide +kernel
theorem d4_13 : decode prog_30_method_5_code 13 = .ok (.getfield 7, 3) := by decide +kernel
theorem d4_16 : decode prog_30_method_5_code 16 = .ok (.aload_n 0, 1) := by decide +kernel
theorem d4_17 : decode prog_30_method_5_code 17 = .ok (.dup, 1) := by decide +kernel
theorem d4_18 : decode prog_30_method_5_code 18 = .ok (.getfield 22, 3) := by decide +kernel
theorem d4_21 : decode prog_30_method_5_code 21 = .ok (.iconst 1, 1) := by decide +kernel
theorem d4_22 : decode prog_30_method_5_code 22 = .ok (.isub, 1) := by decide +kernel
theorem d4_23 : decode prog_30_method_5_code 23 = .ok (.dup_x1, 1) := by decide +kernel
theorem d4_24 : decode prog_30_method_5_code 24 = .ok (.putfield 22, 3) := by decide +kernel
theorem d4_27 : decode prog_30_method_5_code 27 = .ok (.iaload, 1) := by decide +kernel
theorem d4_28 : decode prog_30_method_5_code 28 = .ok (.istore_n 3, 1) := by decide +kernel
theorem d4_29 : decode prog_30_method_5_code 29 = .ok (.aload_n 0, 1) := by decide +kernel
theorem d4_30 : decode prog_30_method_5_code 30 = .ok (.getfield 7, 3) := by decide +kernel
theorem d4_33 : decode prog_30_method_5_code 33 = .ok (.iload_n 2, 1) := by decide +kernel
theorem d4_34 : decode prog_30_method_5_code 34 = .ok (.iload_n 3, 1) := by decide +kernel
theorem d4_35 : decode prog_30_method_5_code 35 = .ok (.iastore, 1) := by decide +kernel
theorem d4_36 : decode prog_30_method_5_code 36 = .ok (.aload_n 0, 1) := by decide +kernel
theorem d4_37 : decode prog_30_method_5_code 37 = .ok (.getfield 13, 3) := by decide +kernel
theorem d4_40 : decode prog_30_method_5_code 40 = .ok (.iload_n 3, 1) := by decide +kernel
theorem d4_41 : decode prog_30_method_5_code 41 = .ok (.iload_n 2, 1) := by decide +kernel
theorem d4_42 : decode prog_30_method_5_code 42 = .ok (.iastore, 1) := by decide +kernel
theorem d4_43 : decode prog_30_method_5_code 43 = .ok (.aload_n 0, 1) := by decide +kernel
theorem d4_44 : decode prog_30_method_5_code 44 = .ok (.getfield 13, 3) := by decide +kernel
theorem d4_47 : decode prog_30_method_5_code 47 = .ok (.iload_n 1, 1) := by decide +kernel
theorem d4_48 : decode prog_30_method_5_code 48 = .ok (.iconst (-1), 1) := by decide +kernel
theorem d4_49 : decode prog_30_method_5_code 49 = .ok (.iastore, 1) := by decide +kernel
theorem d4_50 : decode prog_30_method_5_code 50 = .ok (.return_, 1) := by decide +kernel
theorem pn4 : plainName "com/example/vendace/vendace/localrecoding/DenseSet" = true := by first | (simp [plainName, overriddenIn]; done) | decide +kernel
theorem ef4 (m : MethodId) (x0 : Addr) (x1 : Int32) : entryFrame m #[(.ref x0), (.int x1)] 4 = mkF m 0 #[.val (.ref x0), .val (.int x1), .unset, .unset] [] := by first | (simp [entryFrame, mkF, argsToLocals, Value.category]; done) | rfl
def Q4 (Z : State) (a1 : Addr) (p2 : Int32) (bm : Addr) (bp : Addr) (km : ClassId) (kp : ClassId) (z : Int32) (S : own_T) (h0 : Heap) (n0 : Nat) (v : Option Value) (h : Heap) (L : List Loc) : Prop := v = none ∧ Fr n0 L ∧ Keep h0 h [a1, bm, bp] ∧ ∃ S' : own_T, S' = own_rem S p2 ∧ own_DS Z h a1 bm bp km kp z S'
set_option maxRecDepth 65536 in
set_option maxHeartbeats 40000000 in
theorem rm4 (l : Launch) (Z : State) (a0 : Array Value) (hw : ∀ d ∈ tables_1, d.before a0 Z = true) (ws : List Jvm.Cond) (a1 : Addr) (p2 : Int32) (bm : Addr) (bp : Addr) (km : ClassId) (kp : ClassId) (z : Int32) (S : own_T) (h0 : Heap) (n0 : Nat) (Z0 : n0 ≤ h0.size) (DS0 : own_DS Z h0 a1 bm bp km kp z S) (ne1 : a1 ≠ bm) (ne2 : a1 ≠ bp) (ne3 : bm ≠ bp) (g1 : n0 ≤ a1) (g2 : n0 ≤ bm) (g3 : n0 ≤ bp) (hpre : own_preR z S p2) :
    MetFree l (⟨"com/example/vendace/vendace/localrecoding/DenseSet", "remove", "(I)V"⟩ : MethodName) (head1 (Jvm.Cond.code (⟨"com/example/vendace/vendace/localrecoding/DenseSet", "remove", "(I)V"⟩ : MethodName) prog_30_method_5_code 4 none :: ws) ({ frames := 0, cells := 0, slots := 0, locals := 0 } : Room)) (fun a U => a = #[(.ref a1), (.int p2)] ∧ Z.Warmed39 U.vm ∧ U.heap = h0) (fun _ _ _ _ _ => True) (fun _ U o U' => ∃ v L, o = .returned v ∧ Q4 Z a1 p2 bm bp km kp z S h0 n0 v U'.heap L ∧ FrameEnd U o U' L ({ frames := 0, cells := 0, slots := 0, locals := 0 } : Room).cells ({ frames := 0, cells := 0, slots := 0, locals := 0 } : Room).slots) := by
  refine MetFree.of_bodySF (plainFor_of_name pn4) hisR ?_
  intro p e s m args below meth c s₁ Bd hml0 hP hK
  obtain ⟨rfl, hZ, hh⟩ := hP
  have hx := Bd.exec
  have hby := Bd.bytes
  have hml : c.maxLocals = 4 := hml0
  have hown : s.vm.findClass "com/example/vendace/vendace/localrecoding/DenseSet" = some m.cls := findClass_of_methodNamed Bd.named
  have hnm := (name_of_methodNamed Bd.named Bd.method).1
  have X0 : Stand p l e ({ frames := 0, cells := 0, slots := 0, locals := 0 } : Room) s m #[(.ref a1), (.int p2)] below meth c s₁ [] 0 0 := Stand.of_body Bd
  have e0 : s₁.heap = h0 := by rw [← hh, Bd.state]; rfl
  have N0 := Fr.nil n0
  refine (show own_G p.tables e below (own_P s (Q4 Z a1 p2 bm bp km kp z S h0 n0) 0 0) (s₁.setTop (entryFrame m #[(.ref a1), (.int p2)] 4)) from ?_)
  refine own_via (fun t k => castTop (ef4 m a1 p2) k) ?_
  show own_G p.tables e below _ (s₁.setTop (mkF m 0 #[.val (.ref a1), .val (.int p2), .unset, .unset] []))
  obtain ⟨DE, DM, DP, DZ, DA, DB⟩ := id DS0
  have K0 := Keep.refl h0 [a1, bm, bp]
  refine own_via (S' := s₁.setTop (mkF m 1 #[.val (.ref a1), .val (.int p2), .unset, .unset] [(.ref a1)])) (fun t k => ?_) ?_
  · show Steps p.tables e below (s₁.setTop (mkF m 0 #[.val (.ref a1), .val (.int p2), .unset, .unset] [])) t
    refine XS.aloadN X0.here hx rfl (hb hby d4_0) rfl rfl ?_
    exact k
  obtain ⟨T1, X1, e1, st1⟩ := getF X0 hx hZ hown (host := "") (Or.inl (hw _ (List.mem_of_getElem? (i := 12) rfl))) Via.refl e0 DP (g := (mkF m 1 #[.val (.ref a1), .val (.int p2), .unset, .unset] [(.ref a1)])) rfl rfl (hb hby d4_1)
  refine own_via st1 ?_
  show own_G p.tables e below _ (T1.setTop (mkF m 4 #[.val (.ref a1), .val (.int p2), .unset, .unset] [(.ref bp)]))
  refine own_via (S' := T1.setTop (mkF m 5 #[.val (.ref a1), .val (.int p2), .unset, .unset] [(.int p2), (.ref bp)])) (fun t k => ?_) ?_
  · show Steps p.tables e below (T1.setTop (mkF m 4 #[.val (.ref a1), .val (.int p2), .unset, .unset] [(.ref bp)])) t
    refine XS.iloadN X1.here hx rfl (hb hby d4_4) rfl ?_
    exact k
  obtain ⟨⟨cl2, Ar2, q2, S2, Nn2, H2, G2⟩, Le2⟩ := id DB
  have hin2 : ¬ (p2 < 0 ∨ cl2.slots.size ≤ (p2).toNatClampNeg) := inb_of S2 hpre.1
  have hat2 : cl2.slots[(p2).toNatClampNeg]? = some (.int (S.2.1.getD (p2).toNatClampNeg 0)) := Has.at H2 hin2 (own_gI _ _)
  refine own_via (S' := T1.setTop (mkF m 6 #[.val (.ref a1), .val (.int p2), .unset, .unset] [(.int (S.2.1.getD (p2).toNatClampNeg 0))])) (fun t kz_ => X1.iaload hx (j := p2) (v := (.int (S.2.1.getD (p2).toNatClampNeg 0))) (by rw [e1]; exact Ar2.1) (State.isArrayOf_alike hZ.alike Ar2.2.1) Ar2.2.2 hin2 hat2 (g := (mkF m 5 #[.val (.ref a1), .val (.int p2), .unset, .unset] [(.int p2), (.ref bp)])) rfl rfl (hb hby d4_5) _ kz_) ?_
  refine own_via (S' := T1.setTop (mkF m 8 #[.val (.ref a1), .val (.int p2), .val (.int (S.2.1.getD (p2).toNatClampNeg 0)), .unset] [(.int (S.2.1.getD (p2).toNatClampNeg 0))])) (fun t k => ?_) ?_
  · show Steps p.tables e below (T1.setTop (mkF m 6 #[.val (.ref a1), .val (.int p2), .unset, .unset] [(.int (S.2.1.getD (p2).toNatClampNeg 0))])) t
    refine XS.istoreN X1.here hx rfl (hb hby d4_6) rfl (l' := #[.val (.ref a1), .val (.int p2), .val (.int (S.2.1.getD (p2).toNatClampNeg 0)), .unset]) rfl ?_
    show Steps p.tables e below (T1.setTop (mkF m 7 #[.val (.ref a1), .val (.int p2), .val (.int (S.2.1.getD (p2).toNatClampNeg 0)), .unset] [])) t
    refine XS.iloadN X1.here hx rfl (hb hby d4_7) rfl ?_
    exact k
  by_cases hc8_3 : (S.2.1.getD (p2).toNatClampNeg 0) < (0 : Int32)
  · refine own_via (S' := T1.setTop (mkF m 11 #[.val (.ref a1), .val (.int p2), .val (.int (S.2.1.getD (p2).toNatClampNeg 0)), .unset] [])) (fun t k => XS.ifNo (g := (mkF m 8 #[.val (.ref a1), .val (.int p2), .val (.int (S.2.1.getD (p2).toNatClampNeg 0)), .unset] [(.int (S.2.1.getD (p2).toNatClampNeg 0))])) X1.here hx rfl (hb hby d4_8) rfl ((if0 _ _).trans (tlt hc8_3).2.1) k) ?_
    have hS : own_rem S p2 = _ := (by unfold own_rem; exact if_pos hc8_3)
    exact own_end (h := h0) X1 (v := none) Bd.notSynchronized (fun _ => rfl) (fun fs hr => X1.returnOut hx Bd.returns (hb hby d4_11) hr) e1 ⟨rfl, N0, K0, _, hS.symm, ⟨DE, DM, DP, DZ, DA, DB⟩⟩ (by decide) (by decide)
  · refine own_via (S' := T1.setTop (mkF m 12 #[.val (.ref a1), .val (.int p2), .val (.int (S.2.1.getD (p2).toNatClampNeg 0)), .unset] [])) (fun t k => XS.ifYes (g := (mkF m 8 #[.val (.ref a1), .val (.int p2), .val (.int (S.2.1.getD (p2).toNatClampNeg 0)), .unset] [(.int (S.2.1.getD (p2).toNatClampNeg 0))])) X1.here hx rfl (pc0 := 8) (pc' := 12) rfl (hb hby d4_8) rfl ((if0 _ _).trans (flt hc8_3).2.1) (by decide) (by decide) k) ?_
    refine own_via (S' := T1.setTop (mkF m 13 #[.val (.ref a1), .val (.int p2), .val (.int (S.2.1.getD (p2).toNatClampNeg 0)), .unset] [(.ref a1)])) (fun t k => ?_) ?_
    · show Steps p.tables e below (T1.setTop (mkF m 12 #[.val (.ref a1), .val (.int p2), .val (.int (S.2.1.getD (p2).toNatClampNeg 0)), .unset] [])) t
      refine XS.aloadN X1.here hx rfl (hb hby d4_12) rfl rfl ?_
      exact k
    obtain ⟨T4, X4, e4, st4⟩ := getF X1 hx hZ hown (host := "") (Or.inl (hw _ (List.mem_of_getElem? (i := 10) rfl))) Via.refl e1 DM (g := (mkF m 13 #[.val (.ref a1), .val (.int p2), .val (.int (S.2.1.getD (p2).toNatClampNeg 0)), .unset] [(.ref a1)])) rfl rfl (hb hby d4_13)
    refine own_via st4 ?_
    show own_G p.tables e below _ (T4.setTop (mkF m 16 #[.val (.ref a1), .val (.int p2), .val (.int (S.2.1.getD (p2).toNatClampNeg 0)), .unset] [(.ref bm)]))
    refine own_via (S' := T4.setTop (mkF m 18 #[.val (.ref a1), .val (.int p2), .val (.int (S.2.1.getD (p2).toNatClampNeg 0)), .unset] [(.ref a1), (.ref a1), (.ref bm)])) (fun t k => ?_) ?_
    · show Steps p.tables e below (T4.setTop (mkF m 16 #[.val (.ref a1), .val (.int p2), .val (.int (S.2.1.getD (p2).toNatClampNeg 0)), .unset] [(.ref bm)])) t
      refine XS.aloadN X4.here hx rfl (hb hby d4_16) rfl rfl ?_
      show Steps p.tables e below (T4.setTop (mkF m 17 #[.val (.ref a1), .val (.int p2), .val (.int (S.2.1.getD (p2).toNatClampNeg 0)), .unset] [(.ref a1), (.ref bm)])) t
      refine XS.dup X4.here hx rfl (hb hby d4_17) rfl rfl ?_
      exact k
    obtain ⟨T5, X5, e5, st5⟩ := getF X4 hx hZ hown (host := "") (Or.inl (hw _ (List.mem_of_getElem? (i := 32) rfl))) Via.refl e4 DZ (g := (mkF m 18 #[.val (.ref a1), .val (.int p2), .val (.int (S.2.1.getD (p2).toNatClampNeg 0)), .unset] [(.ref a1), (.ref a1), (.ref bm)])) rfl rfl (hb hby d4_18)
    refine own_via st5 ?_
    show own_G p.tables e below _ (T5.setTop (mkF m 21 #[.val (.ref a1), .val (.int p2), .val (.int (S.2.1.getD (p2).toNatClampNeg 0)), .unset] [(.int S.2.2), (.ref a1), (.ref bm)]))
    refine own_via (S' := T5.setTop (mkF m 24 #[.val (.ref a1), .val (.int p2), .val (.int (S.2.1.getD (p2).toNatClampNeg 0)), .unset] [(.int (S.2.2 - (1 : Int32))), (.ref a1), (.int (S.2.2 - (1 : Int32))), (.ref bm)])) (fun t k => ?_) ?_
    · show Steps p.tables e below (T5.setTop (mkF m 21 #[.val (.ref a1), .val (.int p2), .val (.int (S.2.1.getD (p2).toNatClampNeg 0)), .unset] [(.int S.2.2), (.ref a1), (.ref bm)])) t
      refine XS.iconst X5.here hx rfl (hb hby d4_21) ?_
      show Steps p.tables e below (T5.setTop (mkF m 22 #[.val (.ref a1), .val (.int p2), .val (.int (S.2.1.getD (p2).toNatClampNeg 0)), .unset] [(.int (1 : Int32)), (.int S.2.2), (.ref a1), (.ref bm)])) t
      refine XS.isub X5.here hx rfl (hb hby d4_22) rfl ?_
      show Steps p.tables e below (T5.setTop (mkF m 23 #[.val (.ref a1), .val (.int p2), .val (.int (S.2.1.getD (p2).toNatClampNeg 0)), .unset] [(.int (S.2.2 - (1 : Int32))), (.ref a1), (.ref bm)])) t
      refine XS.dupX1 X5.here hx rfl (hb hby d4_23) rfl rfl rfl ?_
      exact k
    obtain ⟨T6, h6, X6, e6, W6, st6⟩ := putF X5 hx hZ hown (host := "") (Or.inl (hw _ (List.mem_of_getElem? (i := 32) rfl))) Via.refl e5 DZ DE (Or.inl (hw _ (List.mem_of_getElem? (i := 33) rfl))) (hw _ (List.mem_of_getElem? (i := 1) rfl)) (ty := .int) (by decide) rfl rfl (g := (mkF m 24 #[.val (.ref a1), .val (.int p2), .val (.int (S.2.1.getD (p2).toNatClampNeg 0)), .unset] [(.int (S.2.2 - (1 : Int32))), (.ref a1), (.int (S.2.2 - (1 : Int32))), (.ref bm)])) rfl rfl (hb hby d4_24)
    have F6 := Fld.same W6 DZ
    have K7 : Keep h0 h6 [a1, bm, bp] := Keep.wr K0 W6 (Or.inl (List.mem_of_getElem? (i := 0) rfl))
    have N7 := Fr.snoc X6 N0 g1
    refine own_via st6 ?_
    show own_G p.tables e below _ (T6.setTop (mkF m 27 #[.val (.ref a1), .val (.int p2), .val (.int (S.2.1.getD (p2).toNatClampNeg 0)), .unset] [(.int (S.2.2 - (1 : Int32))), (.ref bm)]))
    have c8 := (own_Ar.other DA W6 (Ne.symm ne1))
    obtain ⟨⟨cl9, Ar9, q9, S9, Nn9, H9, G9⟩, Le9⟩ := id c8
    have hin9 : ¬ ((S.2.2 - (1 : Int32)) < 0 ∨ cl9.slots.size ≤ ((S.2.2 - (1 : Int32))).toNatClampNeg) := inb_of S9 (hpre.2 hc8_3).1
    have hat9 : cl9.slots[((S.2.2 - (1 : Int32))).toNatClampNeg]? = some (.int (S.1.getD ((S.2.2 - (1 : Int32))).toNatClampNeg 0)) := Has.at H9 hin9 (own_gI _ _)
    refine own_via (S' := T6.setTop (mkF m 28 #[.val (.ref a1), .val (.int p2), .val (.int (S.2.1.getD (p2).toNatClampNeg 0)), .unset] [(.int (S.1.getD ((S.2.2 - (1 : Int32))).toNatClampNeg 0))])) (fun t kz_ => X6.iaload hx (j := (S.2.2 - (1 : Int32))) (v := (.int (S.1.getD ((S.2.2 - (1 : Int32))).toNatClampNeg 0))) (by rw [e6]; exact Ar9.1) (State.isArrayOf_alike hZ.alike Ar9.2.1) Ar9.2.2 hin9 hat9 (g := (mkF m 27 #[.val (.ref a1), .val (.int p2), .val (.int (S.2.1.getD (p2).toNatClampNeg 0)), .unset] [(.int (S.2.2 - (1 : Int32))), (.ref bm)])) rfl rfl (hb hby d4_27) _ kz_) ?_
    refine own_via (S' := T6.setTop (mkF m 30 #[.val (.ref a1), .val (.int p2), .val (.int (S.2.1.getD (p2).toNatClampNeg 0)), .val (.int (S.1.getD ((S.2.2 - (1 : Int32))).toNatClampNeg 0))] [(.ref a1)])) (fun t k => ?_) ?_
    · show Steps p.tables e below (T6.setTop (mkF m 28 #[.val (.ref a1), .val (.int p2), .val (.int (S.2.1.getD (p2).toNatClampNeg 0)), .unset] [(.int (S.1.getD ((S.2.2 - (1 : Int32))).toNatClampNeg 0))])) t
      refine XS.istoreN X6.here hx rfl (hb hby d4_28) rfl (l' := #[.val (.ref a1), .val (.int p2), .val (.int (S.2.1.getD (p2).toNatClampNeg 0)), .val (.int (S.1.getD ((S.2.2 - (1 : Int32))).toNatClampNeg 0))]) rfl ?_
      show Steps p.tables e below (T6.setTop (mkF m 29 #[.val (.ref a1), .val (.int p2), .val (.int (S.2.1.getD (p2).toNatClampNeg 0)), .val (.int (S.1.getD ((S.2.2 - (1 : Int32))).toNatClampNeg 0))] [])) t
      refine XS.aloadN X6.here hx rfl (hb hby d4_29) rfl rfl ?_
      exact k
    have c10 := (Fld.other W6 DM (Or.inr (slot_ne (Or.inr (hw _ (List.mem_of_getElem? (i := 11) rfl))) (Or.inl (hw _ (List.mem_of_getElem? (i := 33) rfl))) (by decide) (t := (.array .int)) (t' := .int) (by decide) (by decide))))
    obtain ⟨T11, X11, e11, st11⟩ := getF X6 hx hZ hown (host := "") (Or.inl (hw _ (List.mem_of_getElem? (i := 10) rfl))) Via.refl e6 c10 (g := (mkF m 30 #[.val (.ref a1), .val (.int p2), .val (.int (S.2.1.getD (p2).toNatClampNeg 0)), .val (.int (S.1.getD ((S.2.2 - (1 : Int32))).toNatClampNeg 0))] [(.ref a1)])) rfl rfl (hb hby d4_30)
    refine own_via st11 ?_
    show own_G p.tables e below _ (T11.setTop (mkF m 33 #[.val (.ref a1), .val (.int p2), .val (.int (S.2.1.getD (p2).toNatClampNeg 0)), .val (.int (S.1.getD ((S.2.2 - (1 : Int32))).toNatClampNeg 0))] [(.ref bm)]))
    refine own_via (S' := T11.setTop (mkF m 35 #[.val (.ref a1), .val (.int p2), .val (.int (S.2.1.getD (p2).toNatClampNeg 0)), .val (.int (S.1.getD ((S.2.2 - (1 : Int32))).toNatClampNeg 0))] [(.int (S.1.getD ((S.2.2 - (1 : Int32))).toNatClampNeg 0)), (.int (S.2.1.getD (p2).toNatClampNeg 0)), (.ref bm)])) (fun t k => ?_) ?_
    · show Steps p.tables e below (T11.setTop (mkF m 33 #[.val (.ref a1), .val (.int p2), .val (.int (S.2.1.getD (p2).toNatClampNeg 0)), .val (.int (S.1.getD ((S.2.2 - (1 : Int32))).toNatClampNeg 0))] [(.ref bm)])) t
      refine XS.iloadN X11.here hx rfl (hb hby d4_33) rfl ?_
      show Steps p.tables e below (T11.setTop (mkF m 34 #[.val (.ref a1), .val (.int p2), .val (.int (S.2.1.getD (p2).toNatClampNeg 0)), .val (.int (S.1.getD ((S.2.2 - (1 : Int32))).toNatClampNeg 0))] [(.int (S.2.1.getD (p2).toNatClampNeg 0)), (.ref bm)])) t
      refine XS.iloadN X11.here hx rfl (hb hby d4_34) rfl ?_
      exact k
    obtain ⟨⟨cl12, Ar12, q12, S12, Nn12, H12, G12⟩, Le12⟩ := id c8
    have hin12 : ¬ ((S.2.1.getD (p2).toNatClampNeg 0) < 0 ∨ cl12.slots.size ≤ ((S.2.1.getD (p2).toNatClampNeg 0)).toNatClampNeg) := inb_of S12 ⟨hc8_3, (hpre.2 hc8_3).2.1⟩
    obtain ⟨T12, h12, X12, e12, W12, st12⟩ := stI X11 hx hZ e11 Ar12 (j := (S.2.1.getD (p2).toNatClampNeg 0)) hin12 (g := (mkF m 35 #[.val (.ref a1), .val (.int p2), .val (.int (S.2.1.getD (p2).toNatClampNeg 0)), .val (.int (S.1.getD ((S.2.2 - (1 : Int32))).toNatClampNeg 0))] [(.int (S.1.getD ((S.2.2 - (1 : Int32))).toNatClampNeg 0)), (.int (S.2.1.getD (p2).toNatClampNeg 0)), (.ref bm)])) rfl rfl (hb hby d4_35)
    have V12 : own_Ar Z h12 bm km .int z (List.map Value.int (S.1.set ((S.2.1.getD (p2).toNatClampNeg 0)).toNatClampNeg (S.1.getD ((S.2.2 - (1 : Int32))).toNatClampNeg 0))) (.int (0 : Int32)) := own_Ar.setI Ar12 q12 S12 Nn12 H12 G12 rfl W12 hin12 Le12
    have K13 : Keep h0 h12 [a1, bm, bp] := Keep.wr K7 W12 (Or.inl (List.mem_of_getElem? (i := 1) rfl))
    have N13 := Fr.snoc X12 N7 g2
    refine own_via st12 ?_
    show own_G p.tables e below _ (T12.setTop (mkF m 36 #[.val (.ref a1), .val (.int p2), .val (.int (S.2.1.getD (p2).toNatClampNeg 0)), .val (.int (S.1.getD ((S.2.2 - (1 : Int32))).toNatClampNeg 0))] []))
    refine own_via (S' := T12.setTop (mkF m 37 #[.val (.ref a1), .val (.int p2), .val (.int (S.2.1.getD (p2).toNatClampNeg 0)), .val (.int (S.1.getD ((S.2.2 - (1 : Int32))).toNatClampNeg 0))] [(.ref a1)])) (fun t k => ?_) ?_
    · show Steps p.tables e below (T12.setTop (mkF m 36 #[.val (.ref a1), .val (.int p2), .val (.int (S.2.1.getD (p2).toNatClampNeg 0)), .val (.int (S.1.getD ((S.2.2 - (1 : Int32))).toNatClampNeg 0))] [])) t
      refine XS.aloadN X12.here hx rfl (hb hby d4_36) rfl rfl ?_
      exact k
    have c14 := (Fld.other W12 (Fld.other W6 DP (Or.inr (slot_ne (Or.inr (hw _ (List.mem_of_getElem? (i := 13) rfl))) (Or.inl (hw _ (List.mem_of_getElem? (i := 33) rfl))) (by decide) (t := (.array .int)) (t' := .int) (by decide) (by decide)))) (Or.inl ne1))
    obtain ⟨T15, X15, e15, st15⟩ := getF X12 hx hZ hown (host := "") (Or.inl (hw _ (List.mem_of_getElem? (i := 12) rfl))) Via.refl e12 c14 (g := (mkF m 37 #[.val (.ref a1), .val (.int p2), .val (.int (S.2.1.getD (p2).toNatClampNeg 0)), .val (.int (S.1.getD ((S.2.2 - (1 : Int32))).toNatClampNeg 0))] [(.ref a1)])) rfl rfl (hb hby d4_37)
    refine own_via st15 ?_
    show own_G p.tables e below _ (T15.setTop (mkF m 40 #[.val (.ref a1), .val (.int p2), .val (.int (S.2.1.getD (p2).toNatClampNeg 0)), .val (.int (S.1.getD ((S.2.2 - (1 : Int32))).toNatClampNeg 0))] [(.ref bp)]))
    refine own_via (S' := T15.setTop (mkF m 42 #[.val (.ref a1), .val (.int p2), .val (.int (S.2.1.getD (p2).toNatClampNeg 0)), .val (.int (S.1.getD ((S.2.2 - (1 : Int32))).toNatClampNeg 0))] [(.int (S.2.1.getD (p2).toNatClampNeg 0)), (.int (S.1.getD ((S.2.2 - (1 : Int32))).toNatClampNeg 0)), (.ref bp)])) (fun t k => ?_) ?_
    · show Steps p.tables e below (T15.setTop (mkF m 40 #[.val (.ref a1), .val (.int p2), .val (.int (S.2.1.getD (p2).toNatClampNeg 0)), .val (.int (S.1.getD ((S.2.2 - (1 : Int32))).toNatClampNeg 0))] [(.ref bp)])) t
      refine XS.iloadN X15.here hx rfl (hb hby d4_40) rfl ?_
      show Steps p.tables e below (T15.setTop (mkF m 41 #[.val (.ref a1), .val (.int p2), .val (.int (S.2.1.getD (p2).toNatClampNeg 0)), .val (.int (S.1.getD ((S.2.2 - (1 : Int32))).toNatClampNeg 0))] [(.int (S.1.getD ((S.2.2 - (1 : Int32))).toNatClampNeg 0)), (.ref bp)])) t
      refine XS.iloadN X15.here hx rfl (hb hby d4_41) rfl ?_
      exact k
    have c16 := (own_Ar.other (own_Ar.other DB W6 (Ne.symm ne2)) W12 (Ne.symm ne3))
    obtain ⟨⟨cl17, Ar17, q17, S17, Nn17, H17, G17⟩, Le17⟩ := id c16
    have hin17 : ¬ ((S.1.getD ((S.2.2 - (1 : Int32))).toNatClampNeg 0) < 0 ∨ cl17.slots.size ≤ ((S.1.getD ((S.2.2 - (1 : Int32))).toNatClampNeg 0)).toNatClampNeg) := inb_of S17 (hpre.2 hc8_3).2.2
    obtain ⟨T17, h17, X17, e17, W17, st17⟩ := stI X15 hx hZ e15 Ar17 (j := (S.1.getD ((S.2.2 - (1 : Int32))).toNatClampNeg 0)) hin17 (g := (mkF m 42 #[.val (.ref a1), .val (.int p2), .val (.int (S.2.1.getD (p2).toNatClampNeg 0)), .val (.int (S.1.getD ((S.2.2 - (1 : Int32))).toNatClampNeg 0))] [(.int (S.2.1.getD (p2).toNatClampNeg 0)), (.int (S.1.getD ((S.2.2 - (1 : Int32))).toNatClampNeg 0)), (.ref bp)])) rfl rfl (hb hby d4_42)
    have V17 : own_Ar Z h17 bp kp .int z (List.map Value.int (S.2.1.set ((S.1.getD ((S.2.2 - (1 : Int32))).toNatClampNeg 0)).toNatClampNeg (S.2.1.getD (p2).toNatClampNeg 0))) (.int (0 : Int32)) := own_Ar.setI Ar17 q17 S17 Nn17 H17 G17 rfl W17 hin17 Le17
    have K18 : Keep h0 h17 [a1, bm, bp] := Keep.wr K13 W17 (Or.inl (List.mem_of_getElem? (i := 2) rfl))
    have N18 := Fr.snoc X17 N13 g3
    refine own_via st17 ?_
    show own_G p.tables e below _ (T17.setTop (mkF m 43 #[.val (.ref a1), .val (.int p2), .val (.int (S.2.1.getD (p2).toNatClampNeg 0)), .val (.int (S.1.getD ((S.2.2 - (1 : Int32))).toNatClampNeg 0))] []))
    refine own_via (S' := T17.setTop (mkF m 44 #[.val (.ref a1), .val (.int p2), .val (.int (S.2.1.getD (p2).toNatClampNeg 0)), .val (.int (S.1.getD ((S.2.2 - (1 : Int32))).toNatClampNeg 0))] [(.ref a1)])) (fun t k => ?_) ?_
    · show Steps p.tables e below (T17.setTop (mkF m 43 #[.val (.ref a1), .val (.int p2), .val (.int (S.2.1.getD (p2).toNatClampNeg 0)), .val (.int (S.1.getD ((S.2.2 - (1 : Int32))).toNatClampNeg 0))] [])) t
      refine XS.aloadN X17.here hx rfl (hb hby d4_43) rfl rfl ?_
      exact k
    have c19 := (Fld.other W17 c14 (Or.inl ne2))
    obtain ⟨T20, X20, e20, st20⟩ := getF X17 hx hZ hown (host := "") (Or.inl (hw _ (List.mem_of_getElem? (i := 12) rfl))) Via.refl e17 c19 (g := (mkF m 44 #[.val (.ref a1), .val (.int p2), .val (.int (S.2.1.getD (p2).toNatClampNeg 0)), .val (.int (S.1.getD ((S.2.2 - (1 : Int32))).toNatClampNeg 0))] [(.ref a1)])) rfl rfl (hb hby d4_44)
    refine own_via st20 ?_
    show own_G p.tables e below _ (T20.setTop (mkF m 47 #[.val (.ref a1), .val (.int p2), .val (.int (S.2.1.getD (p2).toNatClampNeg 0)), .val (.int (S.1.getD ((S.2.2 - (1 : Int32))).toNatClampNeg 0))] [(.ref bp)]))
    refine own_via (S' := T20.setTop (mkF m 49 #[.val (.ref a1), .val (.int p2), .val (.int (S.2.1.getD (p2).toNatClampNeg 0)), .val (.int (S.1.getD ((S.2.2 - (1 : Int32))).toNatClampNeg 0))] [(.int (-1 : Int32)), (.int p2), (.ref bp)])) (fun t k => ?_) ?_
    · show Steps p.tables e below (T20.setTop (mkF m 47 #[.val (.ref a1), .val (.int p2), .val (.int (S.2.1.getD (p2).toNatClampNeg 0)), .val (.int (S.1.getD ((S.2.2 - (1 : Int32))).toNatClampNeg 0))] [(.ref bp)])) t
      refine XS.iloadN X20.here hx rfl (hb hby d4_47) rfl ?_
      show Steps p.tables e below (T20.setTop (mkF m 48 #[.val (.ref a1), .val (.int p2), .val (.int (S.2.1.getD (p2).toNatClampNeg 0)), .val (.int (S.1.getD ((S.2.2 - (1 : Int32))).toNatClampNeg 0))] [(.int p2), (.ref bp)])) t
      refine XS.iconst X20.here hx rfl (hb hby d4_48) ?_
      exact k
    obtain ⟨⟨cl21, Ar21, q21, S21, Nn21, H21, G21⟩, Le21⟩ := id V17
    have hin21 : ¬ (p2 < 0 ∨ cl21.slots.size ≤ (p2).toNatClampNeg) := inb_of S21 hpre.1
    obtain ⟨T21, h21, X21, e21, W21, st21⟩ := stI X20 hx hZ e20 Ar21 (j := p2) hin21 (g := (mkF m 49 #[.val (.ref a1), .val (.int p2), .val (.int (S.2.1.getD (p2).toNatClampNeg 0)), .val (.int (S.1.getD ((S.2.2 - (1 : Int32))).toNatClampNeg 0))] [(.int (-1 : Int32)), (.int p2), (.ref bp)])) rfl rfl (hb hby d4_49)
    have V21 : own_Ar Z h21 bp kp .int z (List.map Value.int ((S.2.1.set ((S.1.getD ((S.2.2 - (1 : Int32))).toNatClampNeg 0)).toNatClampNeg (S.2.1.getD (p2).toNatClampNeg 0)).set (p2).toNatClampNeg (-1 : Int32))) (.int (0 : Int32)) := own_Ar.setI Ar21 q21 S21 Nn21 H21 G21 rfl W21 hin21 Le21
    have K22 : Keep h0 h21 [a1, bm, bp] := Keep.wr K18 W21 (Or.inl (List.mem_of_getElem? (i := 2) rfl))
    have N22 := Fr.snoc X21 N18 g3
    refine own_via st21 ?_
    show own_G p.tables e below _ (T21.setTop (mkF m 50 #[.val (.ref a1), .val (.int p2), .val (.int (S.2.1.getD (p2).toNatClampNeg 0)), .val (.int (S.1.getD ((S.2.2 - (1 : Int32))).toNatClampNeg 0))] []))
    have c23 := (Exa.wr W21 (Exa.wr W17 (Exa.wr W12 (Exa.wr W6 DE))))
    have c24 := (Fld.other W21 (Fld.other W17 (Fld.other W12 c10 (Or.inl ne1)) (Or.inl ne2)) (Or.inl ne2))
    have c25 := (Fld.other W21 c19 (Or.inl ne2))
    have c26 := (Fld.other W21 (Fld.other W17 (Fld.other W12 F6 (Or.inl ne1)) (Or.inl ne2)) (Or.inl ne2))
    have c27 := (own_Ar.other (own_Ar.other V12 W17 ne3) W21 ne3)
    have hS : own_rem S p2 = _ := (by unfold own_rem; exact if_neg hc8_3)
    exact own_end (h := h21) X21 (v := none) Bd.notSynchronized (fun _ => rfl) (fun fs hr => X21.returnOut hx Bd.returns (hb hby d4_50) hr) e21 ⟨rfl, N22, K22, _, hS.symm, ⟨c23, c24, c25, c26, c27, V21⟩⟩ (by decide) (by decide)
theorem d6_0 : decode prog_30_method_2_code 0 = .ok (.aload_n 0, 1) := by decide +kernel
theorem d6_1 : decode prog_30_method_2_code 1 = .ok (.getfield 22, 3) := by decide +kernel
theorem d6_4 : decode prog_30_method_2_code 4 = .ok (.ireturn, 1) := by decide +kernel
theorem pn6 : plainName "com/example/vendace/vendace/localrecoding/DenseSet" = true := by first | (simp [plainName, overriddenIn]; done) | decide +kernel
theorem ef6 (m : MethodId) (x0 : Addr) : entryFrame m #[(.ref x0)] 1 = mkF m 0 #[.val (.ref x0)] [] := by first | (simp [entryFrame, mkF, argsToLocals, Value.category]; done) | rfl
def Q6 (Z : State) (a1 : Addr) (p1 : Int32) (h0 : Heap) (n0 : Nat) (v : Option Value) (h : Heap) (L : List Loc) : Prop := v = some (.int p1) ∧ Fr n0 L ∧ h = h0
set_option maxRecDepth 65536 in
set_option maxHeartbeats 40000000 in
theorem rm6 (l : Launch) (Z : State) (a0 : Array Value) (hw : ∀ d ∈ tables_1, d.before a0 Z = true) (ws : List Jvm.Cond) (a1 : Addr) (p1 : Int32) (h0 : Heap) (n0 : Nat) (Z0 : n0 ≤ h0.size) (F0_0 : Fld Z h0 a1 "com/example/vendace/vendace/localrecoding/DenseSet" "size" "I" (.int p1)) :
    MetFree l (⟨"com/example/vendace/vendace/localrecoding/DenseSet", "size", "()I"⟩ : MethodName) (head1 (Jvm.Cond.code (⟨"com/example/vendace/vendace/localrecoding/DenseSet", "size", "()I"⟩ : MethodName) prog_30_method_2_code 1 (some .int) :: ws) ({ frames := 0, cells := 0, slots := 0, locals := 0 } : Room)) (fun a U => a = #[(.ref a1)] ∧ Z.Warmed39 U.vm ∧ U.heap = h0) (fun _ _ _ _ _ => True) (fun _ U o U' => ∃ v L, o = .returned v ∧ Q6 Z a1 p1 h0 n0 v U'.heap L ∧ FrameEnd U o U' L ({ frames := 0, cells := 0, slots := 0, locals := 0 } : Room).cells ({ frames := 0, cells := 0, slots := 0, locals := 0 } : Room).slots) := by
  refine MetFree.of_bodySF (plainFor_of_name pn6) hisR ?_
  intro p e s m args below meth c s₁ Bd hml0 hP hK
  obtain ⟨rfl, hZ, hh⟩ := hP
  have hx := Bd.exec
  have hby := Bd.bytes
  have hml : c.maxLocals = 1 := hml0
  have hown : s.vm.findClass "com/example/vendace/vendace/localrecoding/DenseSet" = some m.cls := findClass_of_methodNamed Bd.named
  have hnm := (name_of_methodNamed Bd.named Bd.method).1
  have X0 : Stand p l e ({ frames := 0, cells := 0, slots := 0, locals := 0 } : Room) s m #[(.ref a1)] below meth c s₁ [] 0 0 := Stand.of_body Bd
  have e0 : s₁.heap = h0 := by rw [← hh, Bd.state]; rfl
  have N0 := Fr.nil n0
  refine (show own_G p.tables e below (own_P s (Q6 Z a1 p1 h0 n0) 0 0) (s₁.setTop (entryFrame m #[(.ref a1)] 1)) from ?_)
  refine own_via (fun t k => castTop (ef6 m a1) k) ?_
  show own_G p.tables e below _ (s₁.setTop (mkF m 0 #[.val (.ref a1)] []))
  refine own_via (S' := s₁.setTop (mkF m 1 #[.val (.ref a1)] [(.ref a1)])) (fun t k => ?_) ?_
  · show Steps p.tables e below (s₁.setTop (mkF m 0 #[.val (.ref a1)] [])) t
    refine XS.aloadN X0.here hx rfl (hb hby d6_0) rfl rfl ?_
    exact k
  obtain ⟨T1, X1, e1, st1⟩ := getF X0 hx hZ hown (host := "") (Or.inl (hw _ (List.mem_of_getElem? (i := 32) rfl))) Via.refl e0 F0_0 (g := (mkF m 1 #[.val (.ref a1)] [(.ref a1)])) rfl rfl (hb hby d6_1)
  refine own_via st1 ?_
  show own_G p.tables e below _ (T1.setTop (mkF m 4 #[.val (.ref a1)] [(.int p1)]))
  exact own_end (h := h0) X1 (v := some (.int p1)) Bd.notSynchronized (fun h => by rw [Bd.returns] at h; cases h) (fun fs hr => retOut X1 hx Bd.returns rfl (Or.inl ⟨rfl, Or.inl rfl, _, rfl⟩) (hb hby d6_4) hr) e1 ⟨by rfl, N0, rfl⟩ (by decide) (by decide)
theorem d10_0 : decode prog_30_method_3_code 0 = .ok (.aload_n 0, 1) := by decide +kernel
theorem d10_1 : decode prog_30_method_3_code 1 = .ok (.getfield 7, 3) := by decide +kernel
theorem d10_4 : decode prog_30_method_3_code 4 = .ok (.iload_n 1, 1) := by decide +kernel
theorem d10_5 : decode prog_30_method_3_code 5 = .ok (.iaload, 1) := by decide +kernel
theorem d10_6 : decode prog_30_method_3_code 6 = .ok (.ireturn, 1) := by decide +kernel
theorem pn10 : plainName "com/example/vendace/vendace/localrecoding/DenseSet" = true := by first | (simp [plainName, overriddenIn]; done) | decide +kernel
theorem ef10 (m : MethodId) (x0 : Addr) (x1 : Int32) : entryFrame m #[(.ref x0), (.int x1)] 2 = mkF m 0 #[.val (.ref x0), .val (.int x1)] [] := by first | (simp [entryFrame, mkF, argsToLocals, Value.category]; done) | rfl
def Q10 (Z : State) (a1 : Addr) (p2 : Int32) (bm : Addr) (km : ClassId) (z : Int32) (xs : List Int32) (h0 : Heap) (n0 : Nat) (v : Option Value) (h : Heap) (L : List Loc) : Prop := v = some (.int (xs.getD (p2).toNatClampNeg 0)) ∧ Fr n0 L ∧ h = h0
set_option maxRecDepth 65536 in
set_option maxHeartbeats 40000000 in
theorem rm10 (l : Launch) (Z : State) (a0 : Array Value) (hw : ∀ d ∈ tables_1, d.before a0 Z = true) (ws : List Jvm.Cond) (a1 : Addr) (p2 : Int32) (bm : Addr) (km : ClassId) (z : Int32) (xs : List Int32) (h0 : Heap) (n0 : Nat) (Z0 : n0 ≤ h0.size) (F1 : Fld Z h0 a1 "com/example/vendace/vendace/localrecoding/DenseSet" "members" "[I" (.ref bm)) (V1 : own_Ar Z h0 bm km .int z (List.map Value.int xs) (.int (0 : Int32))) (hix : ¬ p2 < 0 ∧ p2 < z) :
    MetFree l (⟨"com/example/vendace/vendace/localrecoding/DenseSet", "member", "(I)I"⟩ : MethodName) (head1 (Jvm.Cond.code (⟨"com/example/vendace/vendace/localrecoding/DenseSet", "member", "(I)I"⟩ : MethodName) prog_30_method_3_code 2 (some .int) :: ws) ({ frames := 0, cells := 0, slots := 0, locals := 0 } : Room)) (fun a U => a = #[(.ref a1), (.int p2)] ∧ Z.Warmed39 U.vm ∧ U.heap = h0) (fun _ _ _ _ _ => True) (fun _ U o U' => ∃ v L, o = .returned v ∧ Q10 Z a1 p2 bm km z xs h0 n0 v U'.heap L ∧ FrameEnd U o U' L ({ frames := 0, cells := 0, slots := 0, locals := 0 } : Room).cells ({ frames := 0, cells := 0, slots := 0, locals := 0 } : Room).slots) := by
  refine MetFree.of_bodySF (plainFor_of_name pn10) hisR ?_
  intro p e s m args below meth c s₁ Bd hml0 hP hK
  obtain ⟨rfl, hZ, hh⟩ := hP
  have hx := Bd.exec
  have hby := Bd.bytes
  have hml : c.maxLocals = 2 := hml0
  have hown : s.vm.findClass "com/example/vendace/vendace/localrecoding/DenseSet" = some m.cls := findClass_of_methodNamed Bd.named
  have hnm := (name_of_methodNamed Bd.named Bd.method).1
  have X0 : Stand p l e ({ frames := 0, cells := 0, slots := 0, locals := 0 } : Room) s m #[(.ref a1), (.int p2)] below meth c s₁ [] 0 0 := Stand.of_body Bd
  have e0 : s₁.heap = h0 := by rw [← hh, Bd.state]; rfl
  have N0 := Fr.nil n0
  refine (show own_G p.tables e below (own_P s (Q10 Z a1 p2 bm km z xs h0 n0) 0 0) (s₁.setTop (entryFrame m #[(.ref a1), (.int p2)] 2)) from ?_)
  refine own_via (fun t k => castTop (ef10 m a1 p2) k) ?_
  show own_G p.tables e below _ (s₁.setTop (mkF m 0 #[.val (.ref a1), .val (.int p2)] []))
  refine own_via (S' := s₁.setTop (mkF m 1 #[.val (.ref a1), .val (.int p2)] [(.ref a1)])) (fun t k => ?_) ?_
  · show Steps p.tables e below (s₁.setTop (mkF m 0 #[.val (.ref a1), .val (.int p2)] [])) t
    refine XS.aloadN X0.here hx rfl (hb hby d10_0) rfl rfl ?_
    exact k
  obtain ⟨T1, X1, e1, st1⟩ := getF X0 hx hZ hown (host := "") (Or.inl (hw _ (List.mem_of_getElem? (i := 10) rfl))) Via.refl e0 F1 (g := (mkF m 1 #[.val (.ref a1), .val (.int p2)] [(.ref a1)])) rfl rfl (hb hby d10_1)
  refine own_via st1 ?_
  show own_G p.tables e below _ (T1.setTop (mkF m 4 #[.val (.ref a1), .val (.int p2)] [(.ref bm)]))
  refine own_via (S' := T1.setTop (mkF m 5 #[.val (.ref a1), .val (.int p2)] [(.int p2), (.ref bm)])) (fun t k => ?_) ?_
  · show Steps p.tables e below (T1.setTop (mkF m 4 #[.val (.ref a1), .val (.int p2)] [(.ref bm)])) t
    refine XS.iloadN X1.here hx rfl (hb hby d10_4) rfl ?_
    exact k
  obtain ⟨⟨cl2, Ar2, q2, S2, Nn2, H2, G2⟩, Le2⟩ := id V1
  have hin2 : ¬ (p2 < 0 ∨ cl2.slots.size ≤ (p2).toNatClampNeg) := inb_of S2 hix
  have hat2 : cl2.slots[(p2).toNatClampNeg]? = some (.int (xs.getD (p2).toNatClampNeg 0)) := Has.at H2 hin2 (own_gI _ _)
  refine own_via (S' := T1.setTop (mkF m 6 #[.val (.ref a1), .val (.int p2)] [(.int (xs.getD (p2).toNatClampNeg 0))])) (fun t kz_ => X1.iaload hx (j := p2) (v := (.int (xs.getD (p2).toNatClampNeg 0))) (by rw [e1]; exact Ar2.1) (State.isArrayOf_alike hZ.alike Ar2.2.1) Ar2.2.2 hin2 hat2 (g := (mkF m 5 #[.val (.ref a1), .val (.int p2)] [(.int p2), (.ref bm)])) rfl rfl (hb hby d10_5) _ kz_) ?_
  exact own_end (h := h0) X1 (v := some (.int (xs.getD (p2).toNatClampNeg 0))) Bd.notSynchronized (fun h => by rw [Bd.returns] at h; cases h) (fun fs hr => retOut X1 hx Bd.returns rfl (Or.inl ⟨rfl, Or.inl rfl, _, rfl⟩) (hb hby d10_6) hr) e1 ⟨by rfl, N0, rfl⟩ (by decide) (by decide)
theorem d9_0 : decode method_2_code 0 = .ok (.iload_n 1, 1) := by decide +kernel
theorem d9_1 : decode method_2_code 1 = .ok (.ifCond .le 10, 3) := by decide +kernel
theorem d9_4 : decode method_2_code 4 = .ok (.aload_n 0, 1) := by decide +kernel
theorem d9_5 : decode method_2_code 5 = .ok (.iconst 0, 1) := by decide +kernel
theorem d9_6 : decode method_2_code 6 = .ok (.iaload, 1) := by decide +kernel
theorem d9_7 : decode method_2_code 7 = .ok (.iload_n 2, 1) := by decide +kernel
theorem d9_8 : decode method_2_code 8 = .ok (.if_icmp .eq 27, 3) := by decide +kernel
theorem d9_11 : decode method_2_code 11 = .ok (.iload_n 1, 1) := by decide +kernel
theorem d9_12 : decode method_2_code 12 = .ok (.iconst 1, 1) := by decide +kernel
theorem d9_13 : decode method_2_code 13 = .ok (.if_icmp .le 10, 3) := by decide +kernel
theorem d9_16 : decode method_2_code 16 = .ok (.aload_n 0, 1) := by decide +kernel
theorem d9_17 : decode method_2_code 17 = .ok (.iconst 1, 1) := by decide +kernel
theorem d9_18 : decode method_2_code 18 = .ok (.iaload, 1) := by decide +kernel
theorem d9_19 : decode method_2_code 19 = .ok (.iload_n 2, 1) := by decide +kernel
theorem d9_20 : decode method_2_code 20 = .ok (.if_icmp .eq 15, 3) := by decide +kernel
theorem d9_23 : decode method_2_code 23 = .ok (.iload_n 1, 1) := by decide +kernel
theorem d9_24 : decode method_2_code 24 = .ok (.iconst 2, 1) := by decide +kernel
theorem d9_25 : decode method_2_code 25 = .ok (.if_icmp .le 14, 3) := by decide +kernel
theorem d9_28 : decode method_2_code 28 = .ok (.aload_n 0, 1) := by decide +kernel
theorem d9_29 : decode method_2_code 29 = .ok (.iconst 2, 1) := by decide +kernel
theorem d9_30 : decode method_2_code 30 = .ok (.iaload, 1) := by decide +kernel
theorem d9_31 : decode method_2_code 31 = .ok (.iload_n 2, 1) := by decide +kernel
theorem d9_32 : decode method_2_code 32 = .ok (.if_icmp .ne 7, 3) := by decide +kernel
theorem d9_35 : decode method_2_code 35 = .ok (.iconst 1, 1) := by decide +kernel
theorem d9_36 : decode method_2_code 36 = .ok (.goto 4, 3) := by decide +kernel
theorem d9_39 : decode method_2_code 39 = .ok (.iconst 0, 1) := by decide +kernel
theorem d9_40 : decode method_2_code 40 = .ok (.ireturn, 1) := by decide +kernel
theorem pn9 : plainName "com/example/vendace/vendace/localrecoding/DenseSetRemovePinLaw" = true := by first | (simp [plainName, overriddenIn]; done) | decide +kernel
theorem ef9 (m : MethodId) (x0 : Addr) (x1 : Int32) (x2 : Int32) : entryFrame m #[(.ref x0), (.int x1), (.int x2)] 3 = mkF m 0 #[.val (.ref x0), .val (.int x1), .val (.int x2)] [] := by first | (simp [entryFrame, mkF, argsToLocals, Value.category]; done) | rfl
def Q9 (Z : State) (a1 : Addr) (p2 : Int32) (p3 : Int32) (k : ClassId) (xs : List Int32) (h0 : Heap) (n0 : Nat) (v : Option Value) (h : Heap) (L : List Loc) : Prop := v = some (.int (own_has xs p2 p3)) ∧ Fr n0 L ∧ h = h0
set_option maxRecDepth 65536 in
set_option maxHeartbeats 40000000 in
theorem rm9 (l : Launch) (Z : State) (a0 : Array Value) (hw : ∀ d ∈ tables_1, d.before a0 Z = true) (ws : List Jvm.Cond) (a1 : Addr) (p2 : Int32) (p3 : Int32) (k : ClassId) (xs : List Int32) (h0 : Heap) (n0 : Nat) (Z0 : n0 ≤ h0.size) (V1 : own_Ar Z h0 a1 k .int (4 : Int32) (List.map Value.int xs) (.int (0 : Int32))) :
    MetFree l (⟨"com/example/vendace/vendace/localrecoding/DenseSetRemovePinLaw", "has", "([III)Z"⟩ : MethodName) (head1 (Jvm.Cond.code (⟨"com/example/vendace/vendace/localrecoding/DenseSetRemovePinLaw", "has", "([III)Z"⟩ : MethodName) method_2_code 3 (some .boolean) :: ws) ({ frames := 0, cells := 0, slots := 0, locals := 0 } : Room)) (fun a U => a = #[(.ref a1), (.int p2), (.int p3)] ∧ Z.Warmed39 U.vm ∧ U.heap = h0) (fun _ _ _ _ _ => True) (fun _ U o U' => ∃ v L, o = .returned v ∧ Q9 Z a1 p2 p3 k xs h0 n0 v U'.heap L ∧ FrameEnd U o U' L ({ frames := 0, cells := 0, slots := 0, locals := 0 } : Room).cells ({ frames := 0, cells := 0, slots := 0, locals := 0 } : Room).slots) := by
  refine MetFree.of_bodySF (plainFor_of_name pn9) hisR ?_
  intro p e s m args below meth c s₁ Bd hml0 hP hK
  obtain ⟨rfl, hZ, hh⟩ := hP
  have hx := Bd.exec
  have hby := Bd.bytes
  have hml : c.maxLocals = 3 := hml0
  have hown : s.vm.findClass "com/example/vendace/vendace/localrecoding/DenseSetRemovePinLaw" = some m.cls := findClass_of_methodNamed Bd.named
  have hnm := (name_of_methodNamed Bd.named Bd.method).1
  have X0 : Stand p l e ({ frames := 0, cells := 0, slots := 0, locals := 0 } : Room) s m #[(.ref a1), (.int p2), (.int p3)] below meth c s₁ [] 0 0 := Stand.of_body Bd
  have e0 : s₁.heap = h0 := by rw [← hh, Bd.state]; rfl
  have N0 := Fr.nil n0
  refine (show own_G p.tables e below (own_P s (Q9 Z a1 p2 p3 k xs h0 n0) 0 0) (s₁.setTop (entryFrame m #[(.ref a1), (.int p2), (.int p3)] 3)) from ?_)
  refine own_via (fun t k => castTop (ef9 m a1 p2 p3) k) ?_
  show own_G p.tables e below _ (s₁.setTop (mkF m 0 #[.val (.ref a1), .val (.int p2), .val (.int p3)] []))
  have K0 := Keep.refl h0 [a1]
  refine own_via (S' := s₁.setTop (mkF m 1 #[.val (.ref a1), .val (.int p2), .val (.int p3)] [(.int p2)])) (fun t k => ?_) ?_
  · show Steps p.tables e below (s₁.setTop (mkF m 0 #[.val (.ref a1), .val (.int p2), .val (.int p3)] [])) t
    refine XS.iloadN X0.here hx rfl (hb hby d9_0) rfl ?_
    exact k
  by_cases hc1_1 : (0 : Int32) < p2
  · refine own_via (S' := s₁.setTop (mkF m 4 #[.val (.ref a1), .val (.int p2), .val (.int p3)] [])) (fun t k => XS.ifNo (g := (mkF m 1 #[.val (.ref a1), .val (.int p2), .val (.int p3)] [(.int p2)])) X0.here hx rfl (hb hby d9_1) rfl ((if0 _ _).trans (tlt hc1_1).2.2.2) k) ?_
    refine own_via (S' := s₁.setTop (mkF m 6 #[.val (.ref a1), .val (.int p2), .val (.int p3)] [(.int (0 : Int32)), (.ref a1)])) (fun t k => ?_) ?_
    · show Steps p.tables e below (s₁.setTop (mkF m 4 #[.val (.ref a1), .val (.int p2), .val (.int p3)] [])) t
      refine XS.aloadN X0.here hx rfl (hb hby d9_4) rfl rfl ?_
      show Steps p.tables e below (s₁.setTop (mkF m 5 #[.val (.ref a1), .val (.int p2), .val (.int p3)] [(.ref a1)])) t
      refine XS.iconst X0.here hx rfl (hb hby d9_5) ?_
      exact k
    obtain ⟨⟨cl2, Ar2, q2, S2, Nn2, H2, G2⟩, Le2⟩ := id V1
    have hin2 : ¬ ((0 : Int32) < 0 ∨ cl2.slots.size ≤ ((0 : Int32)).toNatClampNeg) := inb_of S2 ⟨by decide, by decide⟩
    have hat2 : cl2.slots[((0 : Int32)).toNatClampNeg]? = some (.int (xs.getD ((0 : Int32)).toNatClampNeg 0)) := Has.at H2 hin2 (own_gI _ _)
    refine own_via (S' := s₁.setTop (mkF m 7 #[.val (.ref a1), .val (.int p2), .val (.int p3)] [(.int (xs.getD ((0 : Int32)).toNatClampNeg 0))])) (fun t kz_ => X0.iaload hx (j := (0 : Int32)) (v := (.int (xs.getD ((0 : Int32)).toNatClampNeg 0))) (by rw [e0]; exact Ar2.1) (State.isArrayOf_alike hZ.alike Ar2.2.1) Ar2.2.2 hin2 hat2 (g := (mkF m 6 #[.val (.ref a1), .val (.int p2), .val (.int p3)] [(.int (0 : Int32)), (.ref a1)])) rfl rfl (hb hby d9_6) _ kz_) ?_
    refine own_via (S' := s₁.setTop (mkF m 8 #[.val (.ref a1), .val (.int p2), .val (.int p3)] [(.int p3), (.int (xs.getD ((0 : Int32)).toNatClampNeg 0))])) (fun t k => ?_) ?_
    · show Steps p.tables e below (s₁.setTop (mkF m 7 #[.val (.ref a1), .val (.int p2), .val (.int p3)] [(.int (xs.getD ((0 : Int32)).toNatClampNeg 0))])) t
      refine XS.iloadN X0.here hx rfl (hb hby d9_7) rfl ?_
      exact k
    by_cases hc8_3 : (xs.getD ((0 : Int32)).toNatClampNeg 0) = p3
    · refine own_via (S' := s₁.setTop (mkF m 35 #[.val (.ref a1), .val (.int p2), .val (.int p3)] [])) (fun t k => XS.icmpYes (g := (mkF m 8 #[.val (.ref a1), .val (.int p2), .val (.int p3)] [(.int p3), (.int (xs.getD ((0 : Int32)).toNatClampNeg 0))])) X0.here hx rfl (pc0 := 8) (pc' := 35) rfl (hb hby d9_8) rfl (teq hc8_3).1 (by decide) (by decide) k) ?_
      refine own_via (S' := s₁.setTop (mkF m 40 #[.val (.ref a1), .val (.int p2), .val (.int p3)] [(.int (1 : Int32))])) (fun t k => ?_) ?_
      · show Steps p.tables e below (s₁.setTop (mkF m 35 #[.val (.ref a1), .val (.int p2), .val (.int p3)] [])) t
        refine XS.iconst X0.here hx rfl (hb hby d9_35) ?_
        show Steps p.tables e below (s₁.setTop (mkF m 36 #[.val (.ref a1), .val (.int p2), .val (.int p3)] [(.int (1 : Int32))])) t
        refine XS.goto X0.here hx rfl (pc0 := 36) (pc' := 40) rfl (hb hby d9_36) (by decide) (by decide) ?_
        exact k
      exact own_end (h := h0) X0 (v := some (.int (1 : Int32))) Bd.notSynchronized (fun h => by rw [Bd.returns] at h; cases h) (fun fs hr => retN X0 hx (t := .boolean) Bd.returns (by simp) (hb hby d9_40) hr) e0 ⟨by show some (Value.int _) = some (Value.int _); congr 2; unfold own_has; exact (if_pos (Or.inl ⟨hc1_1, hc8_3⟩)).symm, N0, rfl⟩ (by decide) (by decide)
    · refine own_via (S' := s₁.setTop (mkF m 11 #[.val (.ref a1), .val (.int p2), .val (.int p3)] [])) (fun t k => XS.icmpNo (g := (mkF m 8 #[.val (.ref a1), .val (.int p2), .val (.int p3)] [(.int p3), (.int (xs.getD ((0 : Int32)).toNatClampNeg 0))])) X0.here hx rfl (hb hby d9_8) rfl (feq hc8_3).1 k) ?_
      refine own_via (S' := s₁.setTop (mkF m 13 #[.val (.ref a1), .val (.int p2), .val (.int p3)] [(.int (1 : Int32)), (.int p2)])) (fun t k => ?_) ?_
      · show Steps p.tables e below (s₁.setTop (mkF m 11 #[.val (.ref a1), .val (.int p2), .val (.int p3)] [])) t
        refine XS.iloadN X0.here hx rfl (hb hby d9_11) rfl ?_
        show Steps p.tables e below (s₁.setTop (mkF m 12 #[.val (.ref a1), .val (.int p2), .val (.int p3)] [(.int p2)])) t
        refine XS.iconst X0.here hx rfl (hb hby d9_12) ?_
        exact k
      by_cases hc13_4 : (1 : Int32) < p2
      · refine own_via (S' := s₁.setTop (mkF m 16 #[.val (.ref a1), .val (.int p2), .val (.int p3)] [])) (fun t k => XS.icmpNo (g := (mkF m 13 #[.val (.ref a1), .val (.int p2), .val (.int p3)] [(.int (1 : Int32)), (.int p2)])) X0.here hx rfl (hb hby d9_13) rfl (tlt hc13_4).2.2.2 k) ?_
        refine own_via (S' := s₁.setTop (mkF m 18 #[.val (.ref a1), .val (.int p2), .val (.int p3)] [(.int (1 : Int32)), (.ref a1)])) (fun t k => ?_) ?_
        · show Steps p.tables e below (s₁.setTop (mkF m 16 #[.val (.ref a1), .val (.int p2), .val (.int p3)] [])) t
          refine XS.aloadN X0.here hx rfl (hb hby d9_16) rfl rfl ?_
          show Steps p.tables e below (s₁.setTop (mkF m 17 #[.val (.ref a1), .val (.int p2), .val (.int p3)] [(.ref a1)])) t
          refine XS.iconst X0.here hx rfl (hb hby d9_17) ?_
          exact k
        obtain ⟨⟨cl5, Ar5, q5, S5, Nn5, H5, G5⟩, Le5⟩ := id V1
        have hin5 : ¬ ((1 : Int32) < 0 ∨ cl5.slots.size ≤ ((1 : Int32)).toNatClampNeg) := inb_of S5 ⟨by decide, by decide⟩
        have hat5 : cl5.slots[((1 : Int32)).toNatClampNeg]? = some (.int (xs.getD ((1 : Int32)).toNatClampNeg 0)) := Has.at H5 hin5 (own_gI _ _)
        refine own_via (S' := s₁.setTop (mkF m 19 #[.val (.ref a1), .val (.int p2), .val (.int p3)] [(.int (xs.getD ((1 : Int32)).toNatClampNeg 0))])) (fun t kz_ => X0.iaload hx (j := (1 : Int32)) (v := (.int (xs.getD ((1 : Int32)).toNatClampNeg 0))) (by rw [e0]; exact Ar5.1) (State.isArrayOf_alike hZ.alike Ar5.2.1) Ar5.2.2 hin5 hat5 (g := (mkF m 18 #[.val (.ref a1), .val (.int p2), .val (.int p3)] [(.int (1 : Int32)), (.ref a1)])) rfl rfl (hb hby d9_18) _ kz_) ?_
        refine own_via (S' := s₁.setTop (mkF m 20 #[.val (.ref a1), .val (.int p2), .val (.int p3)] [(.int p3), (.int (xs.getD ((1 : Int32)).toNatClampNeg 0))])) (fun t k => ?_) ?_
        · show Steps p.tables e below (s₁.setTop (mkF m 19 #[.val (.ref a1), .val (.int p2), .val (.int p3)] [(.int (xs.getD ((1 : Int32)).toNatClampNeg 0))])) t
          refine XS.iloadN X0.here hx rfl (hb hby d9_19) rfl ?_
          exact k
        by_cases hc20_6 : (xs.getD ((1 : Int32)).toNatClampNeg 0) = p3
        · refine own_via (S' := s₁.setTop (mkF m 35 #[.val (.ref a1), .val (.int p2), .val (.int p3)] [])) (fun t k => XS.icmpYes (g := (mkF m 20 #[.val (.ref a1), .val (.int p2), .val (.int p3)] [(.int p3), (.int (xs.getD ((1 : Int32)).toNatClampNeg 0))])) X0.here hx rfl (pc0 := 20) (pc' := 35) rfl (hb hby d9_20) rfl (teq hc20_6).1 (by decide) (by decide) k) ?_
          refine own_via (S' := s₁.setTop (mkF m 40 #[.val (.ref a1), .val (.int p2), .val (.int p3)] [(.int (1 : Int32))])) (fun t k => ?_) ?_
          · show Steps p.tables e below (s₁.setTop (mkF m 35 #[.val (.ref a1), .val (.int p2), .val (.int p3)] [])) t
            refine XS.iconst X0.here hx rfl (hb hby d9_35) ?_
            show Steps p.tables e below (s₁.setTop (mkF m 36 #[.val (.ref a1), .val (.int p2), .val (.int p3)] [(.int (1 : Int32))])) t
            refine XS.goto X0.here hx rfl (pc0 := 36) (pc' := 40) rfl (hb hby d9_36) (by decide) (by decide) ?_
            exact k
          exact own_end (h := h0) X0 (v := some (.int (1 : Int32))) Bd.notSynchronized (fun h => by rw [Bd.returns] at h; cases h) (fun fs hr => retN X0 hx (t := .boolean) Bd.returns (by simp) (hb hby d9_40) hr) e0 ⟨by show some (Value.int _) = some (Value.int _); congr 2; unfold own_has; exact (if_pos (Or.inr (Or.inl ⟨hc13_4, hc20_6⟩))).symm, N0, rfl⟩ (by decide) (by decide)
        · refine own_via (S' := s₁.setTop (mkF m 23 #[.val (.ref a1), .val (.int p2), .val (.int p3)] [])) (fun t k => XS.icmpNo (g := (mkF m 20 #[.val (.ref a1), .val (.int p2), .val (.int p3)] [(.int p3), (.int (xs.getD ((1 : Int32)).toNatClampNeg 0))])) X0.here hx rfl (hb hby d9_20) rfl (feq hc20_6).1 k) ?_
          refine own_via (S' := s₁.setTop (mkF m 25 #[.val (.ref a1), .val (.int p2), .val (.int p3)] [(.int (2 : Int32)), (.int p2)])) (fun t k => ?_) ?_
          · show Steps p.tables e below (s₁.setTop (mkF m 23 #[.val (.ref a1), .val (.int p2), .val (.int p3)] [])) t
            refine XS.iloadN X0.here hx rfl (hb hby d9_23) rfl ?_
            show Steps p.tables e below (s₁.setTop (mkF m 24 #[.val (.ref a1), .val (.int p2), .val (.int p3)] [(.int p2)])) t
            refine XS.iconst X0.here hx rfl (hb hby d9_24) ?_
            exact k
          by_cases hc25_7 : (2 : Int32) < p2
          · refine own_via (S' := s₁.setTop (mkF m 28 #[.val (.ref a1), .val (.int p2), .val (.int p3)] [])) (fun t k => XS.icmpNo (g := (mkF m 25 #[.val (.ref a1), .val (.int p2), .val (.int p3)] [(.int (2 : Int32)), (.int p2)])) X0.here hx rfl (hb hby d9_25) rfl (tlt hc25_7).2.2.2 k) ?_
            refine own_via (S' := s₁.setTop (mkF m 30 #[.val (.ref a1), .val (.int p2), .val (.int p3)] [(.int (2 : Int32)), (.ref a1)])) (fun t k => ?_) ?_
            · show Steps p.tables e below (s₁.setTop (mkF m 28 #[.val (.ref a1), .val (.int p2), .val (.int p3)] [])) t
              refine XS.aloadN X0.here hx rfl (hb hby d9_28) rfl rfl ?_
              show Steps p.tables e below (s₁.setTop (mkF m 29 #[.val (.ref a1), .val (.int p2), .val (.int p3)] [(.ref a1)])) t
              refine XS.iconst X0.here hx rfl (hb hby d9_29) ?_
              exact k
            obtain ⟨⟨cl8, Ar8, q8, S8, Nn8, H8, G8⟩, Le8⟩ := id V1
            have hin8 : ¬ ((2 : Int32) < 0 ∨ cl8.slots.size ≤ ((2 : Int32)).toNatClampNeg) := inb_of S8 ⟨by decide, by decide⟩
            have hat8 : cl8.slots[((2 : Int32)).toNatClampNeg]? = some (.int (xs.getD ((2 : Int32)).toNatClampNeg 0)) := Has.at H8 hin8 (own_gI _ _)
            refine own_via (S' := s₁.setTop (mkF m 31 #[.val (.ref a1), .val (.int p2), .val (.int p3)] [(.int (xs.getD ((2 : Int32)).toNatClampNeg 0))])) (fun t kz_ => X0.iaload hx (j := (2 : Int32)) (v := (.int (xs.getD ((2 : Int32)).toNatClampNeg 0))) (by rw [e0]; exact Ar8.1) (State.isArrayOf_alike hZ.alike Ar8.2.1) Ar8.2.2 hin8 hat8 (g := (mkF m 30 #[.val (.ref a1), .val (.int p2), .val (.int p3)] [(.int (2 : Int32)), (.ref a1)])) rfl rfl (hb hby d9_30) _ kz_) ?_
            refine own_via (S' := s₁.setTop (mkF m 32 #[.val (.ref a1), .val (.int p2), .val (.int p3)] [(.int p3), (.int (xs.getD ((2 : Int32)).toNatClampNeg 0))])) (fun t k => ?_) ?_
            · show Steps p.tables e below (s₁.setTop (mkF m 31 #[.val (.ref a1), .val (.int p2), .val (.int p3)] [(.int (xs.getD ((2 : Int32)).toNatClampNeg 0))])) t
              refine XS.iloadN X0.here hx rfl (hb hby d9_31) rfl ?_
              exact k
            by_cases hc32_9 : (xs.getD ((2 : Int32)).toNatClampNeg 0) = p3
            · refine own_via (S' := s₁.setTop (mkF m 35 #[.val (.ref a1), .val (.int p2), .val (.int p3)] [])) (fun t k => XS.icmpNo (g := (mkF m 32 #[.val (.ref a1), .val (.int p2), .val (.int p3)] [(.int p3), (.int (xs.getD ((2 : Int32)).toNatClampNeg 0))])) X0.here hx rfl (hb hby d9_32) rfl (teq hc32_9).2 k) ?_
              refine own_via (S' := s₁.setTop (mkF m 40 #[.val (.ref a1), .val (.int p2), .val (.int p3)] [(.int (1 : Int32))])) (fun t k => ?_) ?_
              · show Steps p.tables e below (s₁.setTop (mkF m 35 #[.val (.ref a1), .val (.int p2), .val (.int p3)] [])) t
                refine XS.iconst X0.here hx rfl (hb hby d9_35) ?_
                show Steps p.tables e below (s₁.setTop (mkF m 36 #[.val (.ref a1), .val (.int p2), .val (.int p3)] [(.int (1 : Int32))])) t
                refine XS.goto X0.here hx rfl (pc0 := 36) (pc' := 40) rfl (hb hby d9_36) (by decide) (by decide) ?_
                exact k
              exact own_end (h := h0) X0 (v := some (.int (1 : Int32))) Bd.notSynchronized (fun h => by rw [Bd.returns] at h; cases h) (fun fs hr => retN X0 hx (t := .boolean) Bd.returns (by simp) (hb hby d9_40) hr) e0 ⟨by show some (Value.int _) = some (Value.int _); congr 2; unfold own_has; exact (if_pos (Or.inr (Or.inr ⟨hc25_7, hc32_9⟩))).symm, N0, rfl⟩ (by decide) (by decide)
            · refine own_via (S' := s₁.setTop (mkF m 39 #[.val (.ref a1), .val (.int p2), .val (.int p3)] [])) (fun t k => XS.icmpYes (g := (mkF m 32 #[.val (.ref a1), .val (.int p2), .val (.int p3)] [(.int p3), (.int (xs.getD ((2 : Int32)).toNatClampNeg 0))])) X0.here hx rfl (pc0 := 32) (pc' := 39) rfl (hb hby d9_32) rfl (feq hc32_9).2 (by decide) (by decide) k) ?_
              refine own_via (S' := s₁.setTop (mkF m 40 #[.val (.ref a1), .val (.int p2), .val (.int p3)] [(.int (0 : Int32))])) (fun t k => ?_) ?_
              · show Steps p.tables e below (s₁.setTop (mkF m 39 #[.val (.ref a1), .val (.int p2), .val (.int p3)] [])) t
                refine XS.iconst X0.here hx rfl (hb hby d9_39) ?_
                exact k
              exact own_end (h := h0) X0 (v := some (.int (0 : Int32))) Bd.notSynchronized (fun h => by rw [Bd.returns] at h; cases h) (fun fs hr => retN X0 hx (t := .boolean) Bd.returns (by simp) (hb hby d9_40) hr) e0 ⟨by show some (Value.int _) = some (Value.int _); congr 2; unfold own_has; exact (if_neg (fun q => q.elim (fun q => (hc8_3 q.2)) (fun q => q.elim (fun q => (hc20_6 q.2)) (fun q => (hc32_9 q.2))))).symm, N0, rfl⟩ (by decide) (by decide)
          · refine own_via (S' := s₁.setTop (mkF m 39 #[.val (.ref a1), .val (.int p2), .val (.int p3)] [])) (fun t k => XS.icmpYes (g := (mkF m 25 #[.val (.ref a1), .val (.int p2), .val (.int p3)] [(.int (2 : Int32)), (.int p2)])) X0.here hx rfl (pc0 := 25) (pc' := 39) rfl (hb hby d9_25) rfl (flt hc25_7).2.2.2 (by decide) (by decide) k) ?_
            refine own_via (S' := s₁.setTop (mkF m 40 #[.val (.ref a1), .val (.int p2), .val (.int p3)] [(.int (0 : Int32))])) (fun t k => ?_) ?_
            · show Steps p.tables e below (s₁.setTop (mkF m 39 #[.val (.ref a1), .val (.int p2), .val (.int p3)] [])) t
              refine XS.iconst X0.here hx rfl (hb hby d9_39) ?_
              exact k
            exact own_end (h := h0) X0 (v := some (.int (0 : Int32))) Bd.notSynchronized (fun h => by rw [Bd.returns] at h; cases h) (fun fs hr => retN X0 hx (t := .boolean) Bd.returns (by simp) (hb hby d9_40) hr) e0 ⟨by show some (Value.int _) = some (Value.int _); congr 2; unfold own_has; exact (if_neg (fun q => q.elim (fun q => (hc8_3 q.2)) (fun q => q.elim (fun q => (hc20_6 q.2)) (fun q => (hc25_7 q.1))))).symm, N0, rfl⟩ (by decide) (by decide)
      · refine own_via (S' := s₁.setTop (mkF m 23 #[.val (.ref a1), .val (.int p2), .val (.int p3)] [])) (fun t k => XS.icmpYes (g := (mkF m 13 #[.val (.ref a1), .val (.int p2), .val (.int p3)] [(.int (1 : Int32)), (.int p2)])) X0.here hx rfl (pc0 := 13) (pc' := 23) rfl (hb hby d9_13) rfl (flt hc13_4).2.2.2 (by decide) (by decide) k) ?_
        refine own_via (S' := s₁.setTop (mkF m 25 #[.val (.ref a1), .val (.int p2), .val (.int p3)] [(.int (2 : Int32)), (.int p2)])) (fun t k => ?_) ?_
        · show Steps p.tables e below (s₁.setTop (mkF m 23 #[.val (.ref a1), .val (.int p2), .val (.int p3)] [])) t
          refine XS.iloadN X0.here hx rfl (hb hby d9_23) rfl ?_
          show Steps p.tables e below (s₁.setTop (mkF m 24 #[.val (.ref a1), .val (.int p2), .val (.int p3)] [(.int p2)])) t
          refine XS.iconst X0.here hx rfl (hb hby d9_24) ?_
          exact k
        by_cases hc25_10 : (2 : Int32) < p2
        · refine own_via (S' := s₁.setTop (mkF m 28 #[.val (.ref a1), .val (.int p2), .val (.int p3)] [])) (fun t k => XS.icmpNo (g := (mkF m 25 #[.val (.ref a1), .val (.int p2), .val (.int p3)] [(.int (2 : Int32)), (.int p2)])) X0.here hx rfl (hb hby d9_25) rfl (tlt hc25_10).2.2.2 k) ?_
          refine own_via (S' := s₁.setTop (mkF m 30 #[.val (.ref a1), .val (.int p2), .val (.int p3)] [(.int (2 : Int32)), (.ref a1)])) (fun t k => ?_) ?_
          · show Steps p.tables e below (s₁.setTop (mkF m 28 #[.val (.ref a1), .val (.int p2), .val (.int p3)] [])) t
            refine XS.aloadN X0.here hx rfl (hb hby d9_28) rfl rfl ?_
            show Steps p.tables e below (s₁.setTop (mkF m 29 #[.val (.ref a1), .val (.int p2), .val (.int p3)] [(.ref a1)])) t
            refine XS.iconst X0.here hx rfl (hb hby d9_29) ?_
            exact k
          obtain ⟨⟨cl11, Ar11, q11, S11, Nn11, H11, G11⟩, Le11⟩ := id V1
          have hin11 : ¬ ((2 : Int32) < 0 ∨ cl11.slots.size ≤ ((2 : Int32)).toNatClampNeg) := inb_of S11 ⟨by decide, by decide⟩
          have hat11 : cl11.slots[((2 : Int32)).toNatClampNeg]? = some (.int (xs.getD ((2 : Int32)).toNatClampNeg 0)) := Has.at H11 hin11 (own_gI _ _)
          refine own_via (S' := s₁.setTop (mkF m 31 #[.val (.ref a1), .val (.int p2), .val (.int p3)] [(.int (xs.getD ((2 : Int32)).toNatClampNeg 0))])) (fun t kz_ => X0.iaload hx (j := (2 : Int32)) (v := (.int (xs.getD ((2 : Int32)).toNatClampNeg 0))) (by rw [e0]; exact Ar11.1) (State.isArrayOf_alike hZ.alike Ar11.2.1) Ar11.2.2 hin11 hat11 (g := (mkF m 30 #[.val (.ref a1), .val (.int p2), .val (.int p3)] [(.int (2 : Int32)), (.ref a1)])) rfl rfl (hb hby d9_30) _ kz_) ?_
          refine own_via (S' := s₁.setTop (mkF m 32 #[.val (.ref a1), .val (.int p2), .val (.int p3)] [(.int p3), (.int (xs.getD ((2 : Int32)).toNatClampNeg 0))])) (fun t k => ?_) ?_
          · show Steps p.tables e below (s₁.setTop (mkF m 31 #[.val (.ref a1), .val (.int p2), .val (.int p3)] [(.int (xs.getD ((2 : Int32)).toNatClampNeg 0))])) t
            refine XS.iloadN X0.here hx rfl (hb hby d9_31) rfl ?_
            exact k
          by_cases hc32_12 : (xs.getD ((2 : Int32)).toNatClampNeg 0) = p3
          · refine own_via (S' := s₁.setTop (mkF m 35 #[.val (.ref a1), .val (.int p2), .val (.int p3)] [])) (fun t k => XS.icmpNo (g := (mkF m 32 #[.val (.ref a1), .val (.int p2), .val (.int p3)] [(.int p3), (.int (xs.getD ((2 : Int32)).toNatClampNeg 0))])) X0.here hx rfl (hb hby d9_32) rfl (teq hc32_12).2 k) ?_
            refine own_via (S' := s₁.setTop (mkF m 40 #[.val (.ref a1), .val (.int p2), .val (.int p3)] [(.int (1 : Int32))])) (fun t k => ?_) ?_
            · show Steps p.tables e below (s₁.setTop (mkF m 35 #[.val (.ref a1), .val (.int p2), .val (.int p3)] [])) t
              refine XS.iconst X0.here hx rfl (hb hby d9_35) ?_
              show Steps p.tables e below (s₁.setTop (mkF m 36 #[.val (.ref a1), .val (.int p2), .val (.int p3)] [(.int (1 : Int32))])) t
              refine XS.goto X0.here hx rfl (pc0 := 36) (pc' := 40) rfl (hb hby d9_36) (by decide) (by decide) ?_
              exact k
            exact own_end (h := h0) X0 (v := some (.int (1 : Int32))) Bd.notSynchronized (fun h => by rw [Bd.returns] at h; cases h) (fun fs hr => retN X0 hx (t := .boolean) Bd.returns (by simp) (hb hby d9_40) hr) e0 ⟨by show some (Value.int _) = some (Value.int _); congr 2; unfold own_has; exact (if_pos (Or.inr (Or.inr ⟨hc25_10, hc32_12⟩))).symm, N0, rfl⟩ (by decide) (by decide)
          · refine own_via (S' := s₁.setTop (mkF m 39 #[.val (.ref a1), .val (.int p2), .val (.int p3)] [])) (fun t k => XS.icmpYes (g := (mkF m 32 #[.val (.ref a1), .val (.int p2), .val (.int p3)] [(.int p3), (.int (xs.getD ((2 : Int32)).toNatClampNeg 0))])) X0.here hx rfl (pc0 := 32) (pc' := 39) rfl (hb hby d9_32) rfl (feq hc32_12).2 (by decide) (by decide) k) ?_
            refine own_via (S' := s₁.setTop (mkF m 40 #[.val (.ref a1), .val (.int p2), .val (.int p3)] [(.int (0 : Int32))])) (fun t k => ?_) ?_
            · show Steps p.tables e below (s₁.setTop (mkF m 39 #[.val (.ref a1), .val (.int p2), .val (.int p3)] [])) t
              refine XS.iconst X0.here hx rfl (hb hby d9_39) ?_
              exact k
            exact own_end (h := h0) X0 (v := some (.int (0 : Int32))) Bd.notSynchronized (fun h => by rw [Bd.returns] at h; cases h) (fun fs hr => retN X0 hx (t := .boolean) Bd.returns (by simp) (hb hby d9_40) hr) e0 ⟨by show some (Value.int _) = some (Value.int _); congr 2; unfold own_has; exact (if_neg (fun q => q.elim (fun q => (hc8_3 q.2)) (fun q => q.elim (fun q => (hc13_4 q.1)) (fun q => (hc32_12 q.2))))).symm, N0, rfl⟩ (by decide) (by decide)
        · refine own_via (S' := s₁.setTop (mkF m 39 #[.val (.ref a1), .val (.int p2), .val (.int p3)] [])) (fun t k => XS.icmpYes (g := (mkF m 25 #[.val (.ref a1), .val (.int p2), .val (.int p3)] [(.int (2 : Int32)), (.int p2)])) X0.here hx rfl (pc0 := 25) (pc' := 39) rfl (hb hby d9_25) rfl (flt hc25_10).2.2.2 (by decide) (by decide) k) ?_
          refine own_via (S' := s₁.setTop (mkF m 40 #[.val (.ref a1), .val (.int p2), .val (.int p3)] [(.int (0 : Int32))])) (fun t k => ?_) ?_
          · show Steps p.tables e below (s₁.setTop (mkF m 39 #[.val (.ref a1), .val (.int p2), .val (.int p3)] [])) t
            refine XS.iconst X0.here hx rfl (hb hby d9_39) ?_
            exact k
          exact own_end (h := h0) X0 (v := some (.int (0 : Int32))) Bd.notSynchronized (fun h => by rw [Bd.returns] at h; cases h) (fun fs hr => retN X0 hx (t := .boolean) Bd.returns (by simp) (hb hby d9_40) hr) e0 ⟨by show some (Value.int _) = some (Value.int _); congr 2; unfold own_has; exact (if_neg (fun q => q.elim (fun q => (hc8_3 q.2)) (fun q => q.elim (fun q => (hc13_4 q.1)) (fun q => (hc25_10 q.1))))).symm, N0, rfl⟩ (by decide) (by decide)
  · refine own_via (S' := s₁.setTop (mkF m 11 #[.val (.ref a1), .val (.int p2), .val (.int p3)] [])) (fun t k => XS.ifYes (g := (mkF m 1 #[.val (.ref a1), .val (.int p2), .val (.int p3)] [(.int p2)])) X0.here hx rfl (pc0 := 1) (pc' := 11) rfl (hb hby d9_1) rfl ((if0 _ _).trans (flt hc1_1).2.2.2) (by decide) (by decide) k) ?_
    refine own_via (S' := s₁.setTop (mkF m 13 #[.val (.ref a1), .val (.int p2), .val (.int p3)] [(.int (1 : Int32)), (.int p2)])) (fun t k => ?_) ?_
    · show Steps p.tables e below (s₁.setTop (mkF m 11 #[.val (.ref a1), .val (.int p2), .val (.int p3)] [])) t
      refine XS.iloadN X0.here hx rfl (hb hby d9_11) rfl ?_
      show Steps p.tables e below (s₁.setTop (mkF m 12 #[.val (.ref a1), .val (.int p2), .val (.int p3)] [(.int p2)])) t
      refine XS.iconst X0.here hx rfl (hb hby d9_12) ?_
      exact k
    by_cases hc13_13 : (1 : Int32) < p2
    · refine own_via (S' := s₁.setTop (mkF m 16 #[.val (.ref a1), .val (.int p2), .val (.int p3)] [])) (fun t k => XS.icmpNo (g := (mkF m 13 #[.val (.ref a1), .val (.int p2), .val (.int p3)] [(.int (1 : Int32)), (.int p2)])) X0.here hx rfl (hb hby d9_13) rfl (tlt hc13_13).2.2.2 k) ?_
      refine own_via (S' := s₁.setTop (mkF m 18 #[.val (.ref a1), .val (.int p2), .val (.int p3)] [(.int (1 : Int32)), (.ref a1)])) (fun t k => ?_) ?_
      · show Steps p.tables e below (s₁.setTop (mkF m 16 #[.val (.ref a1), .val (.int p2), .val (.int p3)] [])) t
        refine XS.aloadN X0.here hx rfl (hb hby d9_16) rfl rfl ?_
        show Steps p.tables e below (s₁.setTop (mkF m 17 #[.val (.ref a1), .val (.int p2), .val (.int p3)] [(.ref a1)])) t
        refine XS.iconst X0.here hx rfl (hb hby d9_17) ?_
        exact k
      obtain ⟨⟨cl14, Ar14, q14, S14, Nn14, H14, G14⟩, Le14⟩ := id V1
      have hin14 : ¬ ((1 : Int32) < 0 ∨ cl14.slots.size ≤ ((1 : Int32)).toNatClampNeg) := inb_of S14 ⟨by decide, by decide⟩
      have hat14 : cl14.slots[((1 : Int32)).toNatClampNeg]? = some (.int (xs.getD ((1 : Int32)).toNatClampNeg 0)) := Has.at H14 hin14 (own_gI _ _)
      refine own_via (S' := s₁.setTop (mkF m 19 #[.val (.ref a1), .val (.int p2), .val (.int p3)] [(.int (xs.getD ((1 : Int32)).toNatClampNeg 0))])) (fun t kz_ => X0.iaload hx (j := (1 : Int32)) (v := (.int (xs.getD ((1 : Int32)).toNatClampNeg 0))) (by rw [e0]; exact Ar14.1) (State.isArrayOf_alike hZ.alike Ar14.2.1) Ar14.2.2 hin14 hat14 (g := (mkF m 18 #[.val (.ref a1), .val (.int p2), .val (.int p3)] [(.int (1 : Int32)), (.ref a1)])) rfl rfl (hb hby d9_18) _ kz_) ?_
      refine own_via (S' := s₁.setTop (mkF m 20 #[.val (.ref a1), .val (.int p2), .val (.int p3)] [(.int p3), (.int (xs.getD ((1 : Int32)).toNatClampNeg 0))])) (fun t k => ?_) ?_
      · show Steps p.tables e below (s₁.setTop (mkF m 19 #[.val (.ref a1), .val (.int p2), .val (.int p3)] [(.int (xs.getD ((1 : Int32)).toNatClampNeg 0))])) t
        refine XS.iloadN X0.here hx rfl (hb hby d9_19) rfl ?_
        exact k
      by_cases hc20_15 : (xs.getD ((1 : Int32)).toNatClampNeg 0) = p3
      · refine own_via (S' := s₁.setTop (mkF m 35 #[.val (.ref a1), .val (.int p2), .val (.int p3)] [])) (fun t k => XS.icmpYes (g := (mkF m 20 #[.val (.ref a1), .val (.int p2), .val (.int p3)] [(.int p3), (.int (xs.getD ((1 : Int32)).toNatClampNeg 0))])) X0.here hx rfl (pc0 := 20) (pc' := 35) rfl (hb hby d9_20) rfl (teq hc20_15).1 (by decide) (by decide) k) ?_
        refine own_via (S' := s₁.setTop (mkF m 40 #[.val (.ref a1), .val (.int p2), .val (.int p3)] [(.int (1 : Int32))])) (fun t k => ?_) ?_
        · show Steps p.tables e below (s₁.setTop (mkF m 35 #[.val (.ref a1), .val (.int p2), .val (.int p3)] [])) t
          refine XS.iconst X0.here hx rfl (hb hby d9_35) ?_
          show Steps p.tables e below (s₁.setTop (mkF m 36 #[.val (.ref a1), .val (.int p2), .val (.int p3)] [(.int (1 : Int32))])) t
          refine XS.goto X0.here hx rfl (pc0 := 36) (pc' := 40) rfl (hb hby d9_36) (by decide) (by decide) ?_
          exact k
        exact own_end (h := h0) X0 (v := some (.int (1 : Int32))) Bd.notSynchronized (fun h => by rw [Bd.returns] at h; cases h) (fun fs hr => retN X0 hx (t := .boolean) Bd.returns (by simp) (hb hby d9_40) hr) e0 ⟨by show some (Value.int _) = some (Value.int _); congr 2; unfold own_has; exact (if_pos (Or.inr (Or.inl ⟨hc13_13, hc20_15⟩))).symm, N0, rfl⟩ (by decide) (by decide)
      · refine own_via (S' := s₁.setTop (mkF m 23 #[.val (.ref a1), .val (.int p2), .val (.int p3)] [])) (fun t k => XS.icmpNo (g := (mkF m 20 #[.val (.ref a1), .val (.int p2), .val (.int p3)] [(.int p3), (.int (xs.getD ((1 : Int32)).toNatClampNeg 0))])) X0.here hx rfl (hb hby d9_20) rfl (feq hc20_15).1 k) ?_
        refine own_via (S' := s₁.setTop (mkF m 25 #[.val (.ref a1), .val (.int p2), .val (.int p3)] [(.int (2 : Int32)), (.int p2)])) (fun t k => ?_) ?_
        · show Steps p.tables e below (s₁.setTop (mkF m 23 #[.val (.ref a1), .val (.int p2), .val (.int p3)] [])) t
          refine XS.iloadN X0.here hx rfl (hb hby d9_23) rfl ?_
          show Steps p.tables e below (s₁.setTop (mkF m 24 #[.val (.ref a1), .val (.int p2), .val (.int p3)] [(.int p2)])) t
          refine XS.iconst X0.here hx rfl (hb hby d9_24) ?_
          exact k
        by_cases hc25_16 : (2 : Int32) < p2
        · refine own_via (S' := s₁.setTop (mkF m 28 #[.val (.ref a1), .val (.int p2), .val (.int p3)] [])) (fun t k => XS.icmpNo (g := (mkF m 25 #[.val (.ref a1), .val (.int p2), .val (.int p3)] [(.int (2 : Int32)), (.int p2)])) X0.here hx rfl (hb hby d9_25) rfl (tlt hc25_16).2.2.2 k) ?_
          refine own_via (S' := s₁.setTop (mkF m 30 #[.val (.ref a1), .val (.int p2), .val (.int p3)] [(.int (2 : Int32)), (.ref a1)])) (fun t k => ?_) ?_
          · show Steps p.tables e below (s₁.setTop (mkF m 28 #[.val (.ref a1), .val (.int p2), .val (.int p3)] [])) t
            refine XS.aloadN X0.here hx rfl (hb hby d9_28) rfl rfl ?_
            show Steps p.tables e below (s₁.setTop (mkF m 29 #[.val (.ref a1), .val (.int p2), .val (.int p3)] [(.ref a1)])) t
            refine XS.iconst X0.here hx rfl (hb hby d9_29) ?_
            exact k
          obtain ⟨⟨cl17, Ar17, q17, S17, Nn17, H17, G17⟩, Le17⟩ := id V1
          have hin17 : ¬ ((2 : Int32) < 0 ∨ cl17.slots.size ≤ ((2 : Int32)).toNatClampNeg) := inb_of S17 ⟨by decide, by decide⟩
          have hat17 : cl17.slots[((2 : Int32)).toNatClampNeg]? = some (.int (xs.getD ((2 : Int32)).toNatClampNeg 0)) := Has.at H17 hin17 (own_gI _ _)
          refine own_via (S' := s₁.setTop (mkF m 31 #[.val (.ref a1), .val (.int p2), .val (.int p3)] [(.int (xs.getD ((2 : Int32)).toNatClampNeg 0))])) (fun t kz_ => X0.iaload hx (j := (2 : Int32)) (v := (.int (xs.getD ((2 : Int32)).toNatClampNeg 0))) (by rw [e0]; exact Ar17.1) (State.isArrayOf_alike hZ.alike Ar17.2.1) Ar17.2.2 hin17 hat17 (g := (mkF m 30 #[.val (.ref a1), .val (.int p2), .val (.int p3)] [(.int (2 : Int32)), (.ref a1)])) rfl rfl (hb hby d9_30) _ kz_) ?_
          refine own_via (S' := s₁.setTop (mkF m 32 #[.val (.ref a1), .val (.int p2), .val (.int p3)] [(.int p3), (.int (xs.getD ((2 : Int32)).toNatClampNeg 0))])) (fun t k => ?_) ?_
          · show Steps p.tables e below (s₁.setTop (mkF m 31 #[.val (.ref a1), .val (.int p2), .val (.int p3)] [(.int (xs.getD ((2 : Int32)).toNatClampNeg 0))])) t
            refine XS.iloadN X0.here hx rfl (hb hby d9_31) rfl ?_
            exact k
          by_cases hc32_18 : (xs.getD ((2 : Int32)).toNatClampNeg 0) = p3
          · refine own_via (S' := s₁.setTop (mkF m 35 #[.val (.ref a1), .val (.int p2), .val (.int p3)] [])) (fun t k => XS.icmpNo (g := (mkF m 32 #[.val (.ref a1), .val (.int p2), .val (.int p3)] [(.int p3), (.int (xs.getD ((2 : Int32)).toNatClampNeg 0))])) X0.here hx rfl (hb hby d9_32) rfl (teq hc32_18).2 k) ?_
            refine own_via (S' := s₁.setTop (mkF m 40 #[.val (.ref a1), .val (.int p2), .val (.int p3)] [(.int (1 : Int32))])) (fun t k => ?_) ?_
            · show Steps p.tables e below (s₁.setTop (mkF m 35 #[.val (.ref a1), .val (.int p2), .val (.int p3)] [])) t
              refine XS.iconst X0.here hx rfl (hb hby d9_35) ?_
              show Steps p.tables e below (s₁.setTop (mkF m 36 #[.val (.ref a1), .val (.int p2), .val (.int p3)] [(.int (1 : Int32))])) t
              refine XS.goto X0.here hx rfl (pc0 := 36) (pc' := 40) rfl (hb hby d9_36) (by decide) (by decide) ?_
              exact k
            exact own_end (h := h0) X0 (v := some (.int (1 : Int32))) Bd.notSynchronized (fun h => by rw [Bd.returns] at h; cases h) (fun fs hr => retN X0 hx (t := .boolean) Bd.returns (by simp) (hb hby d9_40) hr) e0 ⟨by show some (Value.int _) = some (Value.int _); congr 2; unfold own_has; exact (if_pos (Or.inr (Or.inr ⟨hc25_16, hc32_18⟩))).symm, N0, rfl⟩ (by decide) (by decide)
          · refine own_via (S' := s₁.setTop (mkF m 39 #[.val (.ref a1), .val (.int p2), .val (.int p3)] [])) (fun t k => XS.icmpYes (g := (mkF m 32 #[.val (.ref a1), .val (.int p2), .val (.int p3)] [(.int p3), (.int (xs.getD ((2 : Int32)).toNatClampNeg 0))])) X0.here hx rfl (pc0 := 32) (pc' := 39) rfl (hb hby d9_32) rfl (feq hc32_18).2 (by decide) (by decide) k) ?_
            refine own_via (S' := s₁.setTop (mkF m 40 #[.val (.ref a1), .val (.int p2), .val (.int p3)] [(.int (0 : Int32))])) (fun t k => ?_) ?_
            · show Steps p.tables e below (s₁.setTop (mkF m 39 #[.val (.ref a1), .val (.int p2), .val (.int p3)] [])) t
              refine XS.iconst X0.here hx rfl (hb hby d9_39) ?_
              exact k
            exact own_end (h := h0) X0 (v := some (.int (0 : Int32))) Bd.notSynchronized (fun h => by rw [Bd.returns] at h; cases h) (fun fs hr => retN X0 hx (t := .boolean) Bd.returns (by simp) (hb hby d9_40) hr) e0 ⟨by show some (Value.int _) = some (Value.int _); congr 2; unfold own_has; exact (if_neg (fun q => q.elim (fun q => (hc1_1 q.1)) (fun q => q.elim (fun q => (hc20_15 q.2)) (fun q => (hc32_18 q.2))))).symm, N0, rfl⟩ (by decide) (by decide)
        · refine own_via (S' := s₁.setTop (mkF m 39 #[.val (.ref a1), .val (.int p2), .val (.int p3)] [])) (fun t k => XS.icmpYes (g := (mkF m 25 #[.val (.ref a1), .val (.int p2), .val (.int p3)] [(.int (2 : Int32)), (.int p2)])) X0.here hx rfl (pc0 := 25) (pc' := 39) rfl (hb hby d9_25) rfl (flt hc25_16).2.2.2 (by decide) (by decide) k) ?_
          refine own_via (S' := s₁.setTop (mkF m 40 #[.val (.ref a1), .val (.int p2), .val (.int p3)] [(.int (0 : Int32))])) (fun t k => ?_) ?_
          · show Steps p.tables e below (s₁.setTop (mkF m 39 #[.val (.ref a1), .val (.int p2), .val (.int p3)] [])) t
            refine XS.iconst X0.here hx rfl (hb hby d9_39) ?_
            exact k
          exact own_end (h := h0) X0 (v := some (.int (0 : Int32))) Bd.notSynchronized (fun h => by rw [Bd.returns] at h; cases h) (fun fs hr => retN X0 hx (t := .boolean) Bd.returns (by simp) (hb hby d9_40) hr) e0 ⟨by show some (Value.int _) = some (Value.int _); congr 2; unfold own_has; exact (if_neg (fun q => q.elim (fun q => (hc1_1 q.1)) (fun q => q.elim (fun q => (hc20_15 q.2)) (fun q => (hc25_16 q.1))))).symm, N0, rfl⟩ (by decide) (by decide)
    · refine own_via (S' := s₁.setTop (mkF m 23 #[.val (.ref a1), .val (.int p2), .val (.int p3)] [])) (fun t k => XS.icmpYes (g := (mkF m 13 #[.val (.ref a1), .val (.int p2), .val (.int p3)] [(.int (1 : Int32)), (.int p2)])) X0.here hx rfl (pc0 := 13) (pc' := 23) rfl (hb hby d9_13) rfl (flt hc13_13).2.2.2 (by decide) (by decide) k) ?_
      refine own_via (S' := s₁.setTop (mkF m 25 #[.val (.ref a1), .val (.int p2), .val (.int p3)] [(.int (2 : Int32)), (.int p2)])) (fun t k => ?_) ?_
      · show Steps p.tables e below (s₁.setTop (mkF m 23 #[.val (.ref a1), .val (.int p2), .val (.int p3)] [])) t
        refine XS.iloadN X0.here hx rfl (hb hby d9_23) rfl ?_
        show Steps p.tables e below (s₁.setTop (mkF m 24 #[.val (.ref a1), .val (.int p2), .val (.int p3)] [(.int p2)])) t
        refine XS.iconst X0.here hx rfl (hb hby d9_24) ?_
        exact k
      by_cases hc25_19 : (2 : Int32) < p2
      · refine own_via (S' := s₁.setTop (mkF m 28 #[.val (.ref a1), .val (.int p2), .val (.int p3)] [])) (fun t k => XS.icmpNo (g := (mkF m 25 #[.val (.ref a1), .val (.int p2), .val (.int p3)] [(.int (2 : Int32)), (.int p2)])) X0.here hx rfl (hb hby d9_25) rfl (tlt hc25_19).2.2.2 k) ?_
        refine own_via (S' := s₁.setTop (mkF m 30 #[.val (.ref a1), .val (.int p2), .val (.int p3)] [(.int (2 : Int32)), (.ref a1)])) (fun t k => ?_) ?_
        · show Steps p.tables e below (s₁.setTop (mkF m 28 #[.val (.ref a1), .val (.int p2), .val (.int p3)] [])) t
          refine XS.aloadN X0.here hx rfl (hb hby d9_28) rfl rfl ?_
          show Steps p.tables e below (s₁.setTop (mkF m 29 #[.val (.ref a1), .val (.int p2), .val (.int p3)] [(.ref a1)])) t
          refine XS.iconst X0.here hx rfl (hb hby d9_29) ?_
          exact k
        obtain ⟨⟨cl20, Ar20, q20, S20, Nn20, H20, G20⟩, Le20⟩ := id V1
        have hin20 : ¬ ((2 : Int32) < 0 ∨ cl20.slots.size ≤ ((2 : Int32)).toNatClampNeg) := inb_of S20 ⟨by decide, by decide⟩
        have hat20 : cl20.slots[((2 : Int32)).toNatClampNeg]? = some (.int (xs.getD ((2 : Int32)).toNatClampNeg 0)) := Has.at H20 hin20 (own_gI _ _)
        refine own_via (S' := s₁.setTop (mkF m 31 #[.val (.ref a1), .val (.int p2), .val (.int p3)] [(.int (xs.getD ((2 : Int32)).toNatClampNeg 0))])) (fun t kz_ => X0.iaload hx (j := (2 : Int32)) (v := (.int (xs.getD ((2 : Int32)).toNatClampNeg 0))) (by rw [e0]; exact Ar20.1) (State.isArrayOf_alike hZ.alike Ar20.2.1) Ar20.2.2 hin20 hat20 (g := (mkF m 30 #[.val (.ref a1), .val (.int p2), .val (.int p3)] [(.int (2 : Int32)), (.ref a1)])) rfl rfl (hb hby d9_30) _ kz_) ?_
        refine own_via (S' := s₁.setTop (mkF m 32 #[.val (.ref a1), .val (.int p2), .val (.int p3)] [(.int p3), (.int (xs.getD ((2 : Int32)).toNatClampNeg 0))])) (fun t k => ?_) ?_
        · show Steps p.tables e below (s₁.setTop (mkF m 31 #[.val (.ref a1), .val (.int p2), .val (.int p3)] [(.int (xs.getD ((2 : Int32)).toNatClampNeg 0))])) t
          refine XS.iloadN X0.here hx rfl (hb hby d9_31) rfl ?_
          exact k
        by_cases hc32_21 : (xs.getD ((2 : Int32)).toNatClampNeg 0) = p3
        · refine own_via (S' := s₁.setTop (mkF m 35 #[.val (.ref a1), .val (.int p2), .val (.int p3)] [])) (fun t k => XS.icmpNo (g := (mkF m 32 #[.val (.ref a1), .val (.int p2), .val (.int p3)] [(.int p3), (.int (xs.getD ((2 : Int32)).toNatClampNeg 0))])) X0.here hx rfl (hb hby d9_32) rfl (teq hc32_21).2 k) ?_
          refine own_via (S' := s₁.setTop (mkF m 40 #[.val (.ref a1), .val (.int p2), .val (.int p3)] [(.int (1 : Int32))])) (fun t k => ?_) ?_
          · show Steps p.tables e below (s₁.setTop (mkF m 35 #[.val (.ref a1), .val (.int p2), .val (.int p3)] [])) t
            refine XS.iconst X0.here hx rfl (hb hby d9_35) ?_
            show Steps p.tables e below (s₁.setTop (mkF m 36 #[.val (.ref a1), .val (.int p2), .val (.int p3)] [(.int (1 : Int32))])) t
            refine XS.goto X0.here hx rfl (pc0 := 36) (pc' := 40) rfl (hb hby d9_36) (by decide) (by decide) ?_
            exact k
          exact own_end (h := h0) X0 (v := some (.int (1 : Int32))) Bd.notSynchronized (fun h => by rw [Bd.returns] at h; cases h) (fun fs hr => retN X0 hx (t := .boolean) Bd.returns (by simp) (hb hby d9_40) hr) e0 ⟨by show some (Value.int _) = some (Value.int _); congr 2; unfold own_has; exact (if_pos (Or.inr (Or.inr ⟨hc25_19, hc32_21⟩))).symm, N0, rfl⟩ (by decide) (by decide)
        · refine own_via (S' := s₁.setTop (mkF m 39 #[.val (.ref a1), .val (.int p2), .val (.int p3)] [])) (fun t k => XS.icmpYes (g := (mkF m 32 #[.val (.ref a1), .val (.int p2), .val (.int p3)] [(.int p3), (.int (xs.getD ((2 : Int32)).toNatClampNeg 0))])) X0.here hx rfl (pc0 := 32) (pc' := 39) rfl (hb hby d9_32) rfl (feq hc32_21).2 (by decide) (by decide) k) ?_
          refine own_via (S' := s₁.setTop (mkF m 40 #[.val (.ref a1), .val (.int p2), .val (.int p3)] [(.int (0 : Int32))])) (fun t k => ?_) ?_
          · show Steps p.tables e below (s₁.setTop (mkF m 39 #[.val (.ref a1), .val (.int p2), .val (.int p3)] [])) t
            refine XS.iconst X0.here hx rfl (hb hby d9_39) ?_
            exact k
          exact own_end (h := h0) X0 (v := some (.int (0 : Int32))) Bd.notSynchronized (fun h => by rw [Bd.returns] at h; cases h) (fun fs hr => retN X0 hx (t := .boolean) Bd.returns (by simp) (hb hby d9_40) hr) e0 ⟨by show some (Value.int _) = some (Value.int _); congr 2; unfold own_has; exact (if_neg (fun q => q.elim (fun q => (hc1_1 q.1)) (fun q => q.elim (fun q => (hc13_13 q.1)) (fun q => (hc32_21 q.2))))).symm, N0, rfl⟩ (by decide) (by decide)
      · refine own_via (S' := s₁.setTop (mkF m 39 #[.val (.ref a1), .val (.int p2), .val (.int p3)] [])) (fun t k => XS.icmpYes (g := (mkF m 25 #[.val (.ref a1), .val (.int p2), .val (.int p3)] [(.int (2 : Int32)), (.int p2)])) X0.here hx rfl (pc0 := 25) (pc' := 39) rfl (hb hby d9_25) rfl (flt hc25_19).2.2.2 (by decide) (by decide) k) ?_
        refine own_via (S' := s₁.setTop (mkF m 40 #[.val (.ref a1), .val (.int p2), .val (.int p3)] [(.int (0 : Int32))])) (fun t k => ?_) ?_
        · show Steps p.tables e below (s₁.setTop (mkF m 39 #[.val (.ref a1), .val (.int p2), .val (.int p3)] [])) t
          refine XS.iconst X0.here hx rfl (hb hby d9_39) ?_
          exact k
        exact own_end (h := h0) X0 (v := some (.int (0 : Int32))) Bd.notSynchronized (fun h => by rw [Bd.returns] at h; cases h) (fun fs hr => retN X0 hx (t := .boolean) Bd.returns (by simp) (hb hby d9_40) hr) e0 ⟨by show some (Value.int _) = some (Value.int _); congr 2; unfold own_has; exact (if_neg (fun q => q.elim (fun q => (hc1_1 q.1)) (fun q => q.elim (fun q => (hc13_13 q.1)) (fun q => (hc25_19 q.1))))).symm, N0, rfl⟩ (by decide) (by decide)
theorem d8_0 : decode method_3_code 0 = .ok (.aload_n 0, 1) := by decide +kernel
theorem d8_1 : decode method_3_code 1 = .ok (.iload_n 1, 1) := by decide +kernel
theorem d8_2 : decode method_3_code 2 = .ok (.iload_n 2, 1) := by decide +kernel
theorem d8_3 : decode method_3_code 3 = .ok (.invokestatic 7, 3) := by decide +kernel
theorem d8_6 : decode method_3_code 6 = .ok (.ifCond .eq 5, 3) := by decide +kernel
theorem d8_9 : decode method_3_code 9 = .ok (.iload_n 1, 1) := by decide +kernel
theorem d8_10 : decode method_3_code 10 = .ok (.ireturn, 1) := by decide +kernel
theorem d8_11 : decode method_3_code 11 = .ok (.aload_n 0, 1) := by decide +kernel
theorem d8_12 : decode method_3_code 12 = .ok (.iload_n 1, 1) := by decide +kernel
theorem d8_13 : decode method_3_code 13 = .ok (.iload_n 2, 1) := by decide +kernel
theorem d8_14 : decode method_3_code 14 = .ok (.iastore, 1) := by decide +kernel
theorem d8_15 : decode method_3_code 15 = .ok (.iload_n 1, 1) := by decide +kernel
theorem d8_16 : decode method_3_code 16 = .ok (.iconst 1, 1) := by decide +kernel
theorem d8_17 : decode method_3_code 17 = .ok (.iadd, 1) := by decide +kernel
theorem d8_18 : decode method_3_code 18 = .ok (.ireturn, 1) := by decide +kernel
theorem pn8 : plainName "com/example/vendace/vendace/localrecoding/DenseSetRemovePinLaw" = true := by first | (simp [plainName, overriddenIn]; done) | decide +kernel
theorem pd_1 : parseMethodDescriptor "([III)Z" = some ⟨[(.array .int), .int, .int], some .boolean⟩ := by decide +kernel
theorem ef8 (m : MethodId) (x0 : Addr) (x1 : Int32) (x2 : Int32) : entryFrame m #[(.ref x0), (.int x1), (.int x2)] 3 = mkF m 0 #[.val (.ref x0), .val (.int x1), .val (.int x2)] [] := by first | (simp [entryFrame, mkF, argsToLocals, Value.category]; done) | rfl
def Q8 (Z : State) (a1 : Addr) (p2 : Int32) (p3 : Int32) (k : ClassId) (xs : List Int32) (h0 : Heap) (n0 : Nat) (v : Option Value) (h : Heap) (L : List Loc) : Prop := ∃ R : List Int32 × Int32, R = own_rA xs p2 p3 ∧ v = some (.int R.2) ∧ Fr n0 L ∧ Keep h0 h [a1] ∧ own_Ar Z h a1 k .int (4 : Int32) (List.map Value.int R.1) (.int (0 : Int32))
set_option maxRecDepth 65536 in
set_option maxHeartbeats 40000000 in
theorem rm8 (l : Launch) (Z : State) (a0 : Array Value) (hw : ∀ d ∈ tables_1, d.before a0 Z = true) (ws : List Jvm.Cond) (a1 : Addr) (p2 : Int32) (p3 : Int32) (k : ClassId) (xs : List Int32) (h0 : Heap) (n0 : Nat) (Z0 : n0 ≤ h0.size) (V1 : own_Ar Z h0 a1 k .int (4 : Int32) (List.map Value.int xs) (.int (0 : Int32))) (g1 : n0 ≤ a1) (hpre : own_preB xs p2 p3) :
    MetFree l (⟨"com/example/vendace/vendace/localrecoding/DenseSetRemovePinLaw", "refAdd", "([III)I"⟩ : MethodName) (head1 (Jvm.Cond.code (⟨"com/example/vendace/vendace/localrecoding/DenseSetRemovePinLaw", "refAdd", "([III)I"⟩ : MethodName) method_3_code 3 (some .int) :: ws) ({ frames := 1, cells := 0, slots := 0, locals := 14 } : Room)) (fun a U => a = #[(.ref a1), (.int p2), (.int p3)] ∧ Z.Warmed39 U.vm ∧ U.heap = h0) (fun _ _ _ _ _ => True) (fun _ U o U' => ∃ v L, o = .returned v ∧ Q8 Z a1 p2 p3 k xs h0 n0 v U'.heap L ∧ FrameEnd U o U' L ({ frames := 1, cells := 0, slots := 0, locals := 14 } : Room).cells ({ frames := 1, cells := 0, slots := 0, locals := 14 } : Room).slots) := by
  refine MetFree.of_bodySF (plainFor_of_name pn8) hisR ?_
  intro p e s m args below meth c s₁ Bd hml0 hP hK
  obtain ⟨rfl, hZ, hh⟩ := hP
  have hx := Bd.exec
  have hby := Bd.bytes
  have hml : c.maxLocals = 3 := hml0
  have hown : s.vm.findClass "com/example/vendace/vendace/localrecoding/DenseSetRemovePinLaw" = some m.cls := findClass_of_methodNamed Bd.named
  have hnm := (name_of_methodNamed Bd.named Bd.method).1
  have X0 : Stand p l e ({ frames := 1, cells := 0, slots := 0, locals := 14 } : Room) s m #[(.ref a1), (.int p2), (.int p3)] below meth c s₁ [] 0 0 := Stand.of_body Bd
  have e0 : s₁.heap = h0 := by rw [← hh, Bd.state]; rfl
  have N0 := Fr.nil n0
  refine (show own_G p.tables e below (own_P s (Q8 Z a1 p2 p3 k xs h0 n0) 0 0) (s₁.setTop (entryFrame m #[(.ref a1), (.int p2), (.int p3)] 3)) from ?_)
  refine own_via (fun t k => castTop (ef8 m a1 p2 p3) k) ?_
  show own_G p.tables e below _ (s₁.setTop (mkF m 0 #[.val (.ref a1), .val (.int p2), .val (.int p3)] []))
  have K0 := Keep.refl h0 [a1]
  refine own_via (S' := s₁.setTop (mkF m 3 #[.val (.ref a1), .val (.int p2), .val (.int p3)] [(.int p3), (.int p2), (.ref a1)])) (fun t k => ?_) ?_
  · show Steps p.tables e below (s₁.setTop (mkF m 0 #[.val (.ref a1), .val (.int p2), .val (.int p3)] [])) t
    refine XS.aloadN X0.here hx rfl (hb hby d8_0) rfl rfl ?_
    show Steps p.tables e below (s₁.setTop (mkF m 1 #[.val (.ref a1), .val (.int p2), .val (.int p3)] [(.ref a1)])) t
    refine XS.iloadN X0.here hx rfl (hb hby d8_1) rfl ?_
    show Steps p.tables e below (s₁.setTop (mkF m 2 #[.val (.ref a1), .val (.int p2), .val (.int p3)] [(.int p2), (.ref a1)])) t
    refine XS.iloadN X0.here hx rfl (hb hby d8_2) rfl ?_
    exact k
  obtain ⟨_, _, ⟨T1, L1, k1, n1⟩, -, X1, ⟨Lc1, hQ1, l1, y1, z1⟩, st1⟩ := Jvm.LawKit.callS X0 hx (y := (⟨"com/example/vendace/vendace/localrecoding/DenseSetRemovePinLaw", "has", "([III)Z"⟩ : MethodName)) hown (mvT hZ (hw _ (List.mem_of_getElem? (i := 42) rfl))) (mvT hZ (hw _ (List.mem_of_getElem? (i := 43) rfl))) (mvT hZ (hw _ (List.mem_of_getElem? (i := 25) rfl))) (mvT hZ (hw _ (List.mem_of_getElem? (i := 44) rfl))) (by decide) (backOf (W := 0) (rm9 l Z a0 hw [] a1 p2 p3 k xs h0 n0 (Nat.le_trans Z0 K0.1) V1) hZ (hw _ (List.mem_of_getElem? (i := 44) rfl)) (hw _ (List.mem_of_getElem? (i := 25) rfl)) (by decide) (by decide)) (g := (mkF m 3 #[.val (.ref a1), .val (.int p2), .val (.int p3)] [(.int p3), (.int p2), (.ref a1)])) rfl (by rw [hml]; rfl) (argsL := [(.ref a1), (.int p2), (.int p3)]) (rest := []) (lenOf pd_1 rfl) rfl (by show 2 * 0 + _ ≤ _; exact Nat.le_of_eq rfl) (hb hby d8_3) (fun _ _ => ⟨rfl, e0, (by decide : 0 + 0 ≤ _), (by decide : 0 + 0 ≤ _)⟩)
  dsimp only [Pt.U, Pt.locs, Pt.cells, Pt.slots] at X1 l1 y1 z1 st1 hQ1
  subst l1 y1 z1
  obtain ⟨rfl, Nq1, hh1⟩ := hQ1
  have N1 := Fr.app N0 Nq1
  refine own_via st1 ?_
  show own_G p.tables e below _ (T1.setTop (mkF m 6 #[.val (.ref a1), .val (.int p2), .val (.int p3)] [(.int (own_has xs p2 p3))]))
  by_cases hc6_2 : (own_has xs p2 p3) = (0 : Int32)
  · refine own_via (S' := T1.setTop (mkF m 11 #[.val (.ref a1), .val (.int p2), .val (.int p3)] [])) (fun t k => XS.ifYes (g := (mkF m 6 #[.val (.ref a1), .val (.int p2), .val (.int p3)] [(.int (own_has xs p2 p3))])) X1.here hx rfl (pc0 := 6) (pc' := 11) rfl (hb hby d8_6) rfl ((if0 _ _).trans (teq hc6_2).1) (by decide) (by decide) k) ?_
    refine own_via (S' := T1.setTop (mkF m 14 #[.val (.ref a1), .val (.int p2), .val (.int p3)] [(.int p3), (.int p2), (.ref a1)])) (fun t k => ?_) ?_
    · show Steps p.tables e below (T1.setTop (mkF m 11 #[.val (.ref a1), .val (.int p2), .val (.int p3)] [])) t
      refine XS.aloadN X1.here hx rfl (hb hby d8_11) rfl rfl ?_
      show Steps p.tables e below (T1.setTop (mkF m 12 #[.val (.ref a1), .val (.int p2), .val (.int p3)] [(.ref a1)])) t
      refine XS.iloadN X1.here hx rfl (hb hby d8_12) rfl ?_
      show Steps p.tables e below (T1.setTop (mkF m 13 #[.val (.ref a1), .val (.int p2), .val (.int p3)] [(.int p2), (.ref a1)])) t
      refine XS.iloadN X1.here hx rfl (hb hby d8_13) rfl ?_
      exact k
    obtain ⟨⟨cl3, Ar3, q3, S3, Nn3, H3, G3⟩, Le3⟩ := id V1
    have hin3 : ¬ (p2 < 0 ∨ cl3.slots.size ≤ (p2).toNatClampNeg) := inb_of S3 (hpre hc6_2)
    obtain ⟨T3, h3, X3, e3, W3, st3⟩ := stI X1 hx hZ hh1 Ar3 (j := p2) hin3 (g := (mkF m 14 #[.val (.ref a1), .val (.int p2), .val (.int p3)] [(.int p3), (.int p2), (.ref a1)])) rfl rfl (hb hby d8_14)
    have V3 : own_Ar Z h3 a1 k .int (4 : Int32) (List.map Value.int (xs.set (p2).toNatClampNeg p3)) (.int (0 : Int32)) := own_Ar.setI Ar3 q3 S3 Nn3 H3 G3 rfl W3 hin3 Le3
    have K4 : Keep h0 h3 [a1] := Keep.wr K0 W3 (Or.inl (List.mem_of_getElem? (i := 0) rfl))
    have N4 := Fr.snoc X3 N1 g1
    refine own_via st3 ?_
    show own_G p.tables e below _ (T3.setTop (mkF m 15 #[.val (.ref a1), .val (.int p2), .val (.int p3)] []))
    refine own_via (S' := T3.setTop (mkF m 18 #[.val (.ref a1), .val (.int p2), .val (.int p3)] [(.int (p2 + (1 : Int32)))])) (fun t k => ?_) ?_
    · show Steps p.tables e below (T3.setTop (mkF m 15 #[.val (.ref a1), .val (.int p2), .val (.int p3)] [])) t
      refine XS.iloadN X3.here hx rfl (hb hby d8_15) rfl ?_
      show Steps p.tables e below (T3.setTop (mkF m 16 #[.val (.ref a1), .val (.int p2), .val (.int p3)] [(.int p2)])) t
      refine XS.iconst X3.here hx rfl (hb hby d8_16) ?_
      show Steps p.tables e below (T3.setTop (mkF m 17 #[.val (.ref a1), .val (.int p2), .val (.int p3)] [(.int (1 : Int32)), (.int p2)])) t
      refine XS.iadd X3.here hx rfl (hb hby d8_17) rfl ?_
      exact k
    have hS : own_rA xs p2 p3 = _ := (by unfold own_rA; exact if_pos hc6_2)
    exact own_end (h := h3) X3 (v := some (.int (p2 + (1 : Int32)))) Bd.notSynchronized (fun h => by rw [Bd.returns] at h; cases h) (fun fs hr => retOut X3 hx Bd.returns rfl (Or.inl ⟨rfl, Or.inl rfl, _, rfl⟩) (hb hby d8_18) hr) e3 ⟨_, hS.symm, rfl, N4, K4, V3⟩ (by decide) (by decide)
  · refine own_via (S' := T1.setTop (mkF m 9 #[.val (.ref a1), .val (.int p2), .val (.int p3)] [])) (fun t k => XS.ifNo (g := (mkF m 6 #[.val (.ref a1), .val (.int p2), .val (.int p3)] [(.int (own_has xs p2 p3))])) X1.here hx rfl (hb hby d8_6) rfl ((if0 _ _).trans (feq hc6_2).1) k) ?_
    refine own_via (S' := T1.setTop (mkF m 10 #[.val (.ref a1), .val (.int p2), .val (.int p3)] [(.int p2)])) (fun t k => ?_) ?_
    · show Steps p.tables e below (T1.setTop (mkF m 9 #[.val (.ref a1), .val (.int p2), .val (.int p3)] [])) t
      refine XS.iloadN X1.here hx rfl (hb hby d8_9) rfl ?_
      exact k
    have hS : own_rA xs p2 p3 = _ := (by unfold own_rA; exact if_neg hc6_2)
    exact own_end (h := h0) X1 (v := some (.int p2)) Bd.notSynchronized (fun h => by rw [Bd.returns] at h; cases h) (fun fs hr => retOut X1 hx Bd.returns rfl (Or.inl ⟨rfl, Or.inl rfl, _, rfl⟩) (hb hby d8_10) hr) hh1 ⟨_, hS.symm, rfl, N1, K0, V1⟩ (by decide) (by decide)
theorem d5_0 : decode method_4_code 0 = .ok (.iconst (-1), 1) := by decide +kernel
theorem d5_1 : decode method_4_code 1 = .ok (.istore_n 3, 1) := by decide +kernel
theorem d5_2 : decode method_4_code 2 = .ok (.iload_n 1, 1) := by decide +kernel
theorem d5_3 : decode method_4_code 3 = .ok (.ifCond .le 15, 3) := by decide +kernel
theorem d5_6 : decode method_4_code 6 = .ok (.aload_n 0, 1) := by decide +kernel
theorem d5_7 : decode method_4_code 7 = .ok (.iconst 0, 1) := by decide +kernel
theorem d5_8 : decode method_4_code 8 = .ok (.iaload, 1) := by decide +kernel
theorem d5_9 : decode method_4_code 9 = .ok (.iload_n 2, 1) := by decide +kernel
theorem d5_10 : decode method_4_code 10 = .ok (.if_icmp .ne 8, 3) := by decide +kernel
theorem d5_13 : decode method_4_code 13 = .ok (.iconst 0, 1) := by decide +kernel
theorem d5_14 : decode method_4_code 14 = .ok (.istore_n 3, 1) := by decide +kernel
theorem d5_15 : decode method_4_code 15 = .ok (.goto 34, 3) := by decide +kernel
theorem d5_18 : decode method_4_code 18 = .ok (.iload_n 1, 1) := by decide +kernel
theorem d5_19 : decode method_4_code 19 = .ok (.iconst 1, 1) := by decide +kernel
theorem d5_20 : decode method_4_code 20 = .ok (.if_icmp .le 15, 3) := by decide +kernel
theorem d5_23 : decode method_4_code 23 = .ok (.aload_n 0, 1) := by decide +kernel
theorem d5_24 : decode method_4_code 24 = .ok (.iconst 1, 1) := by decide +kernel
theorem d5_25 : decode method_4_code 25 = .ok (.iaload, 1) := by decide +kernel
theorem d5_26 : decode method_4_code 26 = .ok (.iload_n 2, 1) := by decide +kernel
theorem d5_27 : decode method_4_code 27 = .ok (.if_icmp .ne 8, 3) := by decide +kernel
theorem d5_30 : decode method_4_code 30 = .ok (.iconst 1, 1) := by decide +kernel
theorem d5_31 : decode method_4_code 31 = .ok (.istore_n 3, 1) := by decide +kernel
theorem d5_32 : decode method_4_code 32 = .ok (.goto 17, 3) := by decide +kernel
theorem d5_35 : decode method_4_code 35 = .ok (.iload_n 1, 1) := by decide +kernel
theorem d5_36 : decode method_4_code 36 = .ok (.iconst 2, 1) := by decide +kernel
theorem d5_37 : decode method_4_code 37 = .ok (.if_icmp .le 12, 3) := by decide +kernel
theorem d5_40 : decode method_4_code 40 = .ok (.aload_n 0, 1) := by decide +kernel
theorem d5_41 : decode method_4_code 41 = .ok (.iconst 2, 1) := by decide +kernel
theorem d5_42 : decode method_4_code 42 = .ok (.iaload, 1) := by decide +kernel
theorem d5_43 : decode method_4_code 43 = .ok (.iload_n 2, 1) := by decide +kernel
theorem d5_44 : decode method_4_code 44 = .ok (.if_icmp .ne 5, 3) := by decide +kernel
theorem d5_47 : decode method_4_code 47 = .ok (.iconst 2, 1) := by decide +kernel
theorem d5_48 : decode method_4_code 48 = .ok (.istore_n 3, 1) := by decide +kernel
theorem d5_49 : decode method_4_code 49 = .ok (.iload_n 3, 1) := by decide +kernel
theorem d5_50 : decode method_4_code 50 = .ok (.ifCond .ge 5, 3) := by decide +kernel
theorem d5_53 : decode method_4_code 53 = .ok (.iload_n 1, 1) := by decide +kernel
theorem d5_54 : decode method_4_code 54 = .ok (.ireturn, 1) := by decide +kernel
theorem d5_55 : decode method_4_code 55 = .ok (.iload_n 1, 1) := by decide +kernel
theorem d5_56 : decode method_4_code 56 = .ok (.iconst 1, 1) := by decide +kernel
theorem d5_57 : decode method_4_code 57 = .ok (.isub, 1) := by decide +kernel
theorem d5_58 : decode method_4_code 58 = .ok (.istore 4, 2) := by decide +kernel
theorem d5_60 : decode method_4_code 60 = .ok (.aload_n 0, 1) := by decide +kernel
theorem d5_61 : decode method_4_code 61 = .ok (.iload_n 3, 1) := by decide +kernel
theorem d5_62 : decode method_4_code 62 = .ok (.aload_n 0, 1) := by decide +kernel
theorem d5_63 : decode method_4_code 63 = .ok (.iload 4, 2) := by decide +kernel
theorem d5_65 : decode method_4_code 65 = .ok (.iaload, 1) := by decide +kernel
theorem d5_66 : decode method_4_code 66 = .ok (.iastore, 1) := by decide +kernel
theorem d5_67 : decode method_4_code 67 = .ok (.iload 4, 2) := by decide +kernel
theorem d5_69 : decode method_4_code 69 = .ok (.ireturn, 1) := by decide +kernel
theorem pn5 : plainName "com/example/vendace/vendace/localrecoding/DenseSetRemovePinLaw" = true := by first | (simp [plainName, overriddenIn]; done) | decide +kernel
theorem ef5 (m : MethodId) (x0 : Addr) (x1 : Int32) (x2 : Int32) : entryFrame m #[(.ref x0), (.int x1), (.int x2)] 5 = mkF m 0 #[.val (.ref x0), .val (.int x1), .val (.int x2), .unset, .unset] [] := by first | (simp [entryFrame, mkF, argsToLocals, Value.category]; done) | rfl
def Q5 (Z : State) (a1 : Addr) (p2 : Int32) (p3 : Int32) (k : ClassId) (xs : List Int32) (h0 : Heap) (n0 : Nat) (v : Option Value) (h : Heap) (L : List Loc) : Prop := ∃ R : List Int32 × Int32, R = own_rR xs p2 p3 ∧ v = some (.int R.2) ∧ Fr n0 L ∧ Keep h0 h [a1] ∧ own_Ar Z h a1 k .int (4 : Int32) (List.map Value.int R.1) (.int (0 : Int32))
set_option maxRecDepth 65536 in
set_option maxHeartbeats 40000000 in
theorem rm5 (l : Launch) (Z : State) (a0 : Array Value) (hw : ∀ d ∈ tables_1, d.before a0 Z = true) (ws : List Jvm.Cond) (a1 : Addr) (p2 : Int32) (p3 : Int32) (k : ClassId) (xs : List Int32) (h0 : Heap) (n0 : Nat) (Z0 : n0 ≤ h0.size) (V1 : own_Ar Z h0 a1 k .int (4 : Int32) (List.map Value.int xs) (.int (0 : Int32))) (g1 : n0 ≤ a1) (hpre : own_preQ xs p2 p3) :
    MetFree l (⟨"com/example/vendace/vendace/localrecoding/DenseSetRemovePinLaw", "refRemove", "([III)I"⟩ : MethodName) (head1 (Jvm.Cond.code (⟨"com/example/vendace/vendace/localrecoding/DenseSetRemovePinLaw", "refRemove", "([III)I"⟩ : MethodName) method_4_code 5 (some .int) :: ws) ({ frames := 0, cells := 0, slots := 0, locals := 0 } : Room)) (fun a U => a = #[(.ref a1), (.int p2), (.int p3)] ∧ Z.Warmed39 U.vm ∧ U.heap = h0) (fun _ _ _ _ _ => True) (fun _ U o U' => ∃ v L, o = .returned v ∧ Q5 Z a1 p2 p3 k xs h0 n0 v U'.heap L ∧ FrameEnd U o U' L ({ frames := 0, cells := 0, slots := 0, locals := 0 } : Room).cells ({ frames := 0, cells := 0, slots := 0, locals := 0 } : Room).slots) := by
  refine MetFree.of_bodySF (plainFor_of_name pn5) hisR ?_
  intro p e s m args below meth c s₁ Bd hml0 hP hK
  obtain ⟨rfl, hZ, hh⟩ := hP
  have hx := Bd.exec
  have hby := Bd.bytes
  have hml : c.maxLocals = 5 := hml0
  have hown : s.vm.findClass "com/example/vendace/vendace/localrecoding/DenseSetRemovePinLaw" = some m.cls := findClass_of_methodNamed Bd.named
  have hnm := (name_of_methodNamed Bd.named Bd.method).1
  have X0 : Stand p l e ({ frames := 0, cells := 0, slots := 0, locals := 0 } : Room) s m #[(.ref a1), (.int p2), (.int p3)] below meth c s₁ [] 0 0 := Stand.of_body Bd
  have e0 : s₁.heap = h0 := by rw [← hh, Bd.state]; rfl
  have N0 := Fr.nil n0
  refine (show own_G p.tables e below (own_P s (Q5 Z a1 p2 p3 k xs h0 n0) 0 0) (s₁.setTop (entryFrame m #[(.ref a1), (.int p2), (.int p3)] 5)) from ?_)
  refine own_via (fun t k => castTop (ef5 m a1 p2 p3) k) ?_
  show own_G p.tables e below _ (s₁.setTop (mkF m 0 #[.val (.ref a1), .val (.int p2), .val (.int p3), .unset, .unset] []))
  have K0 := Keep.refl h0 [a1]
  refine own_via (S' := s₁.setTop (mkF m 3 #[.val (.ref a1), .val (.int p2), .val (.int p3), .val (.int (-1 : Int32)), .unset] [(.int p2)])) (fun t k => ?_) ?_
  · show Steps p.tables e below (s₁.setTop (mkF m 0 #[.val (.ref a1), .val (.int p2), .val (.int p3), .unset, .unset] [])) t
    refine XS.iconst X0.here hx rfl (hb hby d5_0) ?_
    show Steps p.tables e below (s₁.setTop (mkF m 1 #[.val (.ref a1), .val (.int p2), .val (.int p3), .unset, .unset] [(.int (-1 : Int32))])) t
    refine XS.istoreN X0.here hx rfl (hb hby d5_1) rfl (l' := #[.val (.ref a1), .val (.int p2), .val (.int p3), .val (.int (-1 : Int32)), .unset]) rfl ?_
    show Steps p.tables e below (s₁.setTop (mkF m 2 #[.val (.ref a1), .val (.int p2), .val (.int p3), .val (.int (-1 : Int32)), .unset] [])) t
    refine XS.iloadN X0.here hx rfl (hb hby d5_2) rfl ?_
    exact k
  by_cases hc3_1 : (0 : Int32) < p2
  · refine own_via (S' := s₁.setTop (mkF m 6 #[.val (.ref a1), .val (.int p2), .val (.int p3), .val (.int (-1 : Int32)), .unset] [])) (fun t k => XS.ifNo (g := (mkF m 3 #[.val (.ref a1), .val (.int p2), .val (.int p3), .val (.int (-1 : Int32)), .unset] [(.int p2)])) X0.here hx rfl (hb hby d5_3) rfl ((if0 _ _).trans (tlt hc3_1).2.2.2) k) ?_
    refine own_via (S' := s₁.setTop (mkF m 8 #[.val (.ref a1), .val (.int p2), .val (.int p3), .val (.int (-1 : Int32)), .unset] [(.int (0 : Int32)), (.ref a1)])) (fun t k => ?_) ?_
    · show Steps p.tables e below (s₁.setTop (mkF m 6 #[.val (.ref a1), .val (.int p2), .val (.int p3), .val (.int (-1 : Int32)), .unset] [])) t
      refine XS.aloadN X0.here hx rfl (hb hby d5_6) rfl rfl ?_
      show Steps p.tables e below (s₁.setTop (mkF m 7 #[.val (.ref a1), .val (.int p2), .val (.int p3), .val (.int (-1 : Int32)), .unset] [(.ref a1)])) t
      refine XS.iconst X0.here hx rfl (hb hby d5_7) ?_
      exact k
    obtain ⟨⟨cl2, Ar2, q2, S2, Nn2, H2, G2⟩, Le2⟩ := id V1
    have hin2 : ¬ ((0 : Int32) < 0 ∨ cl2.slots.size ≤ ((0 : Int32)).toNatClampNeg) := inb_of S2 ⟨by decide, by decide⟩
    have hat2 : cl2.slots[((0 : Int32)).toNatClampNeg]? = some (.int (xs.getD ((0 : Int32)).toNatClampNeg 0)) := Has.at H2 hin2 (own_gI _ _)
    refine own_via (S' := s₁.setTop (mkF m 9 #[.val (.ref a1), .val (.int p2), .val (.int p3), .val (.int (-1 : Int32)), .unset] [(.int (xs.getD ((0 : Int32)).toNatClampNeg 0))])) (fun t kz_ => X0.iaload hx (j := (0 : Int32)) (v := (.int (xs.getD ((0 : Int32)).toNatClampNeg 0))) (by rw [e0]; exact Ar2.1) (State.isArrayOf_alike hZ.alike Ar2.2.1) Ar2.2.2 hin2 hat2 (g := (mkF m 8 #[.val (.ref a1), .val (.int p2), .val (.int p3), .val (.int (-1 : Int32)), .unset] [(.int (0 : Int32)), (.ref a1)])) rfl rfl (hb hby d5_8) _ kz_) ?_
    refine own_via (S' := s₁.setTop (mkF m 10 #[.val (.ref a1), .val (.int p2), .val (.int p3), .val (.int (-1 : Int32)), .unset] [(.int p3), (.int (xs.getD ((0 : Int32)).toNatClampNeg 0))])) (fun t k => ?_) ?_
    · show Steps p.tables e below (s₁.setTop (mkF m 9 #[.val (.ref a1), .val (.int p2), .val (.int p3), .val (.int (-1 : Int32)), .unset] [(.int (xs.getD ((0 : Int32)).toNatClampNeg 0))])) t
      refine XS.iloadN X0.here hx rfl (hb hby d5_9) rfl ?_
      exact k
    by_cases hc10_3 : (xs.getD ((0 : Int32)).toNatClampNeg 0) = p3
    · refine own_via (S' := s₁.setTop (mkF m 13 #[.val (.ref a1), .val (.int p2), .val (.int p3), .val (.int (-1 : Int32)), .unset] [])) (fun t k => XS.icmpNo (g := (mkF m 10 #[.val (.ref a1), .val (.int p2), .val (.int p3), .val (.int (-1 : Int32)), .unset] [(.int p3), (.int (xs.getD ((0 : Int32)).toNatClampNeg 0))])) X0.here hx rfl (hb hby d5_10) rfl (teq hc10_3).2 k) ?_
      refine own_via (S' := s₁.setTop (mkF m 50 #[.val (.ref a1), .val (.int p2), .val (.int p3), .val (.int (0 : Int32)), .unset] [(.int (0 : Int32))])) (fun t k => ?_) ?_
      · show Steps p.tables e below (s₁.setTop (mkF m 13 #[.val (.ref a1), .val (.int p2), .val (.int p3), .val (.int (-1 : Int32)), .unset] [])) t
        refine XS.iconst X0.here hx rfl (hb hby d5_13) ?_
        show Steps p.tables e below (s₁.setTop (mkF m 14 #[.val (.ref a1), .val (.int p2), .val (.int p3), .val (.int (-1 : Int32)), .unset] [(.int (0 : Int32))])) t
        refine XS.istoreN X0.here hx rfl (hb hby d5_14) rfl (l' := #[.val (.ref a1), .val (.int p2), .val (.int p3), .val (.int (0 : Int32)), .unset]) rfl ?_
        show Steps p.tables e below (s₁.setTop (mkF m 15 #[.val (.ref a1), .val (.int p2), .val (.int p3), .val (.int (0 : Int32)), .unset] [])) t
        refine XS.goto X0.here hx rfl (pc0 := 15) (pc' := 49) rfl (hb hby d5_15) (by decide) (by decide) ?_
        show Steps p.tables e below (s₁.setTop (mkF m 49 #[.val (.ref a1), .val (.int p2), .val (.int p3), .val (.int (0 : Int32)), .unset] [])) t
        refine XS.iloadN X0.here hx rfl (hb hby d5_49) rfl ?_
        exact k
      refine own_via (S' := s₁.setTop (mkF m 55 #[.val (.ref a1), .val (.int p2), .val (.int p3), .val (.int (0 : Int32)), .unset] [])) (fun t k => XS.ifYes (g := (mkF m 50 #[.val (.ref a1), .val (.int p2), .val (.int p3), .val (.int (0 : Int32)), .unset] [(.int (0 : Int32))])) X0.here hx rfl (pc0 := 50) (pc' := 55) rfl (hb hby d5_50) rfl ((if0 _ _).trans (flt (by decide : ¬ ((0 : Int32) < (0 : Int32)))).2.1) (by decide) (by decide) k) ?_
      refine own_via (S' := s₁.setTop (mkF m 65 #[.val (.ref a1), .val (.int p2), .val (.int p3), .val (.int (0 : Int32)), .val (.int (p2 - (1 : Int32)))] [(.int (p2 - (1 : Int32))), (.ref a1), (.int (0 : Int32)), (.ref a1)])) (fun t k => ?_) ?_
      · show Steps p.tables e below (s₁.setTop (mkF m 55 #[.val (.ref a1), .val (.int p2), .val (.int p3), .val (.int (0 : Int32)), .unset] [])) t
        refine XS.iloadN X0.here hx rfl (hb hby d5_55) rfl ?_
        show Steps p.tables e below (s₁.setTop (mkF m 56 #[.val (.ref a1), .val (.int p2), .val (.int p3), .val (.int (0 : Int32)), .unset] [(.int p2)])) t
        refine XS.iconst X0.here hx rfl (hb hby d5_56) ?_
        show Steps p.tables e below (s₁.setTop (mkF m 57 #[.val (.ref a1), .val (.int p2), .val (.int p3), .val (.int (0 : Int32)), .unset] [(.int (1 : Int32)), (.int p2)])) t
        refine XS.isub X0.here hx rfl (hb hby d5_57) rfl ?_
        show Steps p.tables e below (s₁.setTop (mkF m 58 #[.val (.ref a1), .val (.int p2), .val (.int p3), .val (.int (0 : Int32)), .unset] [(.int (p2 - (1 : Int32)))])) t
        refine XS.istore X0.here hx rfl (hb hby d5_58) rfl (l' := #[.val (.ref a1), .val (.int p2), .val (.int p3), .val (.int (0 : Int32)), .val (.int (p2 - (1 : Int32)))]) rfl ?_
        show Steps p.tables e below (s₁.setTop (mkF m 60 #[.val (.ref a1), .val (.int p2), .val (.int p3), .val (.int (0 : Int32)), .val (.int (p2 - (1 : Int32)))] [])) t
        refine XS.aloadN X0.here hx rfl (hb hby d5_60) rfl rfl ?_
        show Steps p.tables e below (s₁.setTop (mkF m 61 #[.val (.ref a1), .val (.int p2), .val (.int p3), .val (.int (0 : Int32)), .val (.int (p2 - (1 : Int32)))] [(.ref a1)])) t
        refine XS.iloadN X0.here hx rfl (hb hby d5_61) rfl ?_
        show Steps p.tables e below (s₁.setTop (mkF m 62 #[.val (.ref a1), .val (.int p2), .val (.int p3), .val (.int (0 : Int32)), .val (.int (p2 - (1 : Int32)))] [(.int (0 : Int32)), (.ref a1)])) t
        refine XS.aloadN X0.here hx rfl (hb hby d5_62) rfl rfl ?_
        show Steps p.tables e below (s₁.setTop (mkF m 63 #[.val (.ref a1), .val (.int p2), .val (.int p3), .val (.int (0 : Int32)), .val (.int (p2 - (1 : Int32)))] [(.ref a1), (.int (0 : Int32)), (.ref a1)])) t
        refine XS.iload X0.here hx rfl (hb hby d5_63) rfl ?_
        exact k
      obtain ⟨⟨cl5, Ar5, q5, S5, Nn5, H5, G5⟩, Le5⟩ := id V1
      have hp6 : own_rp xs p2 p3 = (0 : Int32) := by unfold own_rp; rw [if_pos ⟨hc3_1, hc10_3⟩]
      have hin5 : ¬ ((p2 - (1 : Int32)) < 0 ∨ cl5.slots.size ≤ ((p2 - (1 : Int32))).toNatClampNeg) := inb_of S5 (hpre (by rw [hp6]; decide))
      have hat5 : cl5.slots[((p2 - (1 : Int32))).toNatClampNeg]? = some (.int (xs.getD ((p2 - (1 : Int32))).toNatClampNeg 0)) := Has.at H5 hin5 (own_gI _ _)
      refine own_via (S' := s₁.setTop (mkF m 66 #[.val (.ref a1), .val (.int p2), .val (.int p3), .val (.int (0 : Int32)), .val (.int (p2 - (1 : Int32)))] [(.int (xs.getD ((p2 - (1 : Int32))).toNatClampNeg 0)), (.int (0 : Int32)), (.ref a1)])) (fun t kz_ => X0.iaload hx (j := (p2 - (1 : Int32))) (v := (.int (xs.getD ((p2 - (1 : Int32))).toNatClampNeg 0))) (by rw [e0]; exact Ar5.1) (State.isArrayOf_alike hZ.alike Ar5.2.1) Ar5.2.2 hin5 hat5 (g := (mkF m 65 #[.val (.ref a1), .val (.int p2), .val (.int p3), .val (.int (0 : Int32)), .val (.int (p2 - (1 : Int32)))] [(.int (p2 - (1 : Int32))), (.ref a1), (.int (0 : Int32)), (.ref a1)])) rfl rfl (hb hby d5_65) _ kz_) ?_
      obtain ⟨⟨cl7, Ar7, q7, S7, Nn7, H7, G7⟩, Le7⟩ := id V1
      have hin7 : ¬ ((0 : Int32) < 0 ∨ cl7.slots.size ≤ ((0 : Int32)).toNatClampNeg) := inb_of S7 ⟨by decide, by decide⟩
      obtain ⟨T7, h7, X7, e7, W7, st7⟩ := stI X0 hx hZ e0 Ar7 (j := (0 : Int32)) hin7 (g := (mkF m 66 #[.val (.ref a1), .val (.int p2), .val (.int p3), .val (.int (0 : Int32)), .val (.int (p2 - (1 : Int32)))] [(.int (xs.getD ((p2 - (1 : Int32))).toNatClampNeg 0)), (.int (0 : Int32)), (.ref a1)])) rfl rfl (hb hby d5_66)
      have V7 : own_Ar Z h7 a1 k .int (4 : Int32) (List.map Value.int (xs.set ((0 : Int32)).toNatClampNeg (xs.getD ((p2 - (1 : Int32))).toNatClampNeg 0))) (.int (0 : Int32)) := own_Ar.setI Ar7 q7 S7 Nn7 H7 G7 rfl W7 hin7 Le7
      have K8 : Keep h0 h7 [a1] := Keep.wr K0 W7 (Or.inl (List.mem_of_getElem? (i := 0) rfl))
      have N8 := Fr.snoc X7 N0 g1
      refine own_via st7 ?_
      show own_G p.tables e below _ (T7.setTop (mkF m 67 #[.val (.ref a1), .val (.int p2), .val (.int p3), .val (.int (0 : Int32)), .val (.int (p2 - (1 : Int32)))] []))
      refine own_via (S' := T7.setTop (mkF m 69 #[.val (.ref a1), .val (.int p2), .val (.int p3), .val (.int (0 : Int32)), .val (.int (p2 - (1 : Int32)))] [(.int (p2 - (1 : Int32)))])) (fun t k => ?_) ?_
      · show Steps p.tables e below (T7.setTop (mkF m 67 #[.val (.ref a1), .val (.int p2), .val (.int p3), .val (.int (0 : Int32)), .val (.int (p2 - (1 : Int32)))] [])) t
        refine XS.iload X7.here hx rfl (hb hby d5_67) rfl ?_
        exact k
      have hS := own_rRp hp6 (by decide)
      exact own_end (h := h7) X7 (v := some (.int (p2 - (1 : Int32)))) Bd.notSynchronized (fun h => by rw [Bd.returns] at h; cases h) (fun fs hr => retOut X7 hx Bd.returns rfl (Or.inl ⟨rfl, Or.inl rfl, _, rfl⟩) (hb hby d5_69) hr) e7 ⟨_, hS.symm, rfl, N8, K8, V7⟩ (by decide) (by decide)
    · refine own_via (S' := s₁.setTop (mkF m 18 #[.val (.ref a1), .val (.int p2), .val (.int p3), .val (.int (-1 : Int32)), .unset] [])) (fun t k => XS.icmpYes (g := (mkF m 10 #[.val (.ref a1), .val (.int p2), .val (.int p3), .val (.int (-1 : Int32)), .unset] [(.int p3), (.int (xs.getD ((0 : Int32)).toNatClampNeg 0))])) X0.here hx rfl (pc0 := 10) (pc' := 18) rfl (hb hby d5_10) rfl (feq hc10_3).2 (by decide) (by decide) k) ?_
      refine own_via (S' := s₁.setTop (mkF m 20 #[.val (.ref a1), .val (.int p2), .val (.int p3), .val (.int (-1 : Int32)), .unset] [(.int (1 : Int32)), (.int p2)])) (fun t k => ?_) ?_
      · show Steps p.tables e below (s₁.setTop (mkF m 18 #[.val (.ref a1), .val (.int p2), .val (.int p3), .val (.int (-1 : Int32)), .unset] [])) t
        refine XS.iloadN X0.here hx rfl (hb hby d5_18) rfl ?_
        show Steps p.tables e below (s₁.setTop (mkF m 19 #[.val (.ref a1), .val (.int p2), .val (.int p3), .val (.int (-1 : Int32)), .unset] [(.int p2)])) t
        refine XS.iconst X0.here hx rfl (hb hby d5_19) ?_
        exact k
      by_cases hc20_9 : (1 : Int32) < p2
      · refine own_via (S' := s₁.setTop (mkF m 23 #[.val (.ref a1), .val (.int p2), .val (.int p3), .val (.int (-1 : Int32)), .unset] [])) (fun t k => XS.icmpNo (g := (mkF m 20 #[.val (.ref a1), .val (.int p2), .val (.int p3), .val (.int (-1 : Int32)), .unset] [(.int (1 : Int32)), (.int p2)])) X0.here hx rfl (hb hby d5_20) rfl (tlt hc20_9).2.2.2 k) ?_
        refine own_via (S' := s₁.setTop (mkF m 25 #[.val (.ref a1), .val (.int p2), .val (.int p3), .val (.int (-1 : Int32)), .unset] [(.int (1 : Int32)), (.ref a1)])) (fun t k => ?_) ?_
        · show Steps p.tables e below (s₁.setTop (mkF m 23 #[.val (.ref a1), .val (.int p2), .val (.int p3), .val (.int (-1 : Int32)), .unset] [])) t
          refine XS.aloadN X0.here hx rfl (hb hby d5_23) rfl rfl ?_
          show Steps p.tables e below (s₁.setTop (mkF m 24 #[.val (.ref a1), .val (.int p2), .val (.int p3), .val (.int (-1 : Int32)), .unset] [(.ref a1)])) t
          refine XS.iconst X0.here hx rfl (hb hby d5_24) ?_
          exact k
        obtain ⟨⟨cl10, Ar10, q10, S10, Nn10, H10, G10⟩, Le10⟩ := id V1
        have hin10 : ¬ ((1 : Int32) < 0 ∨ cl10.slots.size ≤ ((1 : Int32)).toNatClampNeg) := inb_of S10 ⟨by decide, by decide⟩
        have hat10 : cl10.slots[((1 : Int32)).toNatClampNeg]? = some (.int (xs.getD ((1 : Int32)).toNatClampNeg 0)) := Has.at H10 hin10 (own_gI _ _)
        refine own_via (S' := s₁.setTop (mkF m 26 #[.val (.ref a1), .val (.int p2), .val (.int p3), .val (.int (-1 : Int32)), .unset] [(.int (xs.getD ((1 : Int32)).toNatClampNeg 0))])) (fun t kz_ => X0.iaload hx (j := (1 : Int32)) (v := (.int (xs.getD ((1 : Int32)).toNatClampNeg 0))) (by rw [e0]; exact Ar10.1) (State.isArrayOf_alike hZ.alike Ar10.2.1) Ar10.2.2 hin10 hat10 (g := (mkF m 25 #[.val (.ref a1), .val (.int p2), .val (.int p3), .val (.int (-1 : Int32)), .unset] [(.int (1 : Int32)), (.ref a1)])) rfl rfl (hb hby d5_25) _ kz_) ?_
        refine own_via (S' := s₁.setTop (mkF m 27 #[.val (.ref a1), .val (.int p2), .val (.int p3), .val (.int (-1 : Int32)), .unset] [(.int p3), (.int (xs.getD ((1 : Int32)).toNatClampNeg 0))])) (fun t k => ?_) ?_
        · show Steps p.tables e below (s₁.setTop (mkF m 26 #[.val (.ref a1), .val (.int p2), .val (.int p3), .val (.int (-1 : Int32)), .unset] [(.int (xs.getD ((1 : Int32)).toNatClampNeg 0))])) t
          refine XS.iloadN X0.here hx rfl (hb hby d5_26) rfl ?_
          exact k
        by_cases hc27_11 : (xs.getD ((1 : Int32)).toNatClampNeg 0) = p3
        · refine own_via (S' := s₁.setTop (mkF m 30 #[.val (.ref a1), .val (.int p2), .val (.int p3), .val (.int (-1 : Int32)), .unset] [])) (fun t k => XS.icmpNo (g := (mkF m 27 #[.val (.ref a1), .val (.int p2), .val (.int p3), .val (.int (-1 : Int32)), .unset] [(.int p3), (.int (xs.getD ((1 : Int32)).toNatClampNeg 0))])) X0.here hx rfl (hb hby d5_27) rfl (teq hc27_11).2 k) ?_
          refine own_via (S' := s₁.setTop (mkF m 50 #[.val (.ref a1), .val (.int p2), .val (.int p3), .val (.int (1 : Int32)), .unset] [(.int (1 : Int32))])) (fun t k => ?_) ?_
          · show Steps p.tables e below (s₁.setTop (mkF m 30 #[.val (.ref a1), .val (.int p2), .val (.int p3), .val (.int (-1 : Int32)), .unset] [])) t
            refine XS.iconst X0.here hx rfl (hb hby d5_30) ?_
            show Steps p.tables e below (s₁.setTop (mkF m 31 #[.val (.ref a1), .val (.int p2), .val (.int p3), .val (.int (-1 : Int32)), .unset] [(.int (1 : Int32))])) t
            refine XS.istoreN X0.here hx rfl (hb hby d5_31) rfl (l' := #[.val (.ref a1), .val (.int p2), .val (.int p3), .val (.int (1 : Int32)), .unset]) rfl ?_
            show Steps p.tables e below (s₁.setTop (mkF m 32 #[.val (.ref a1), .val (.int p2), .val (.int p3), .val (.int (1 : Int32)), .unset] [])) t
            refine XS.goto X0.here hx rfl (pc0 := 32) (pc' := 49) rfl (hb hby d5_32) (by decide) (by decide) ?_
            show Steps p.tables e below (s₁.setTop (mkF m 49 #[.val (.ref a1), .val (.int p2), .val (.int p3), .val (.int (1 : Int32)), .unset] [])) t
            refine XS.iloadN X0.here hx rfl (hb hby d5_49) rfl ?_
            exact k
          refine own_via (S' := s₁.setTop (mkF m 55 #[.val (.ref a1), .val (.int p2), .val (.int p3), .val (.int (1 : Int32)), .unset] [])) (fun t k => XS.ifYes (g := (mkF m 50 #[.val (.ref a1), .val (.int p2), .val (.int p3), .val (.int (1 : Int32)), .unset] [(.int (1 : Int32))])) X0.here hx rfl (pc0 := 50) (pc' := 55) rfl (hb hby d5_50) rfl ((if0 _ _).trans (flt (by decide : ¬ ((1 : Int32) < (0 : Int32)))).2.1) (by decide) (by decide) k) ?_
          refine own_via (S' := s₁.setTop (mkF m 65 #[.val (.ref a1), .val (.int p2), .val (.int p3), .val (.int (1 : Int32)), .val (.int (p2 - (1 : Int32)))] [(.int (p2 - (1 : Int32))), (.ref a1), (.int (1 : Int32)), (.ref a1)])) (fun t k => ?_) ?_
          · show Steps p.tables e below (s₁.setTop (mkF m 55 #[.val (.ref a1), .val (.int p2), .val (.int p3), .val (.int (1 : Int32)), .unset] [])) t
            refine XS.iloadN X0.here hx rfl (hb hby d5_55) rfl ?_
            show Steps p.tables e below (s₁.setTop (mkF m 56 #[.val (.ref a1), .val (.int p2), .val (.int p3), .val (.int (1 : Int32)), .unset] [(.int p2)])) t
            refine XS.iconst X0.here hx rfl (hb hby d5_56) ?_
            show Steps p.tables e below (s₁.setTop (mkF m 57 #[.val (.ref a1), .val (.int p2), .val (.int p3), .val (.int (1 : Int32)), .unset] [(.int (1 : Int32)), (.int p2)])) t
            refine XS.isub X0.here hx rfl (hb hby d5_57) rfl ?_
            show Steps p.tables e below (s₁.setTop (mkF m 58 #[.val (.ref a1), .val (.int p2), .val (.int p3), .val (.int (1 : Int32)), .unset] [(.int (p2 - (1 : Int32)))])) t
            refine XS.istore X0.here hx rfl (hb hby d5_58) rfl (l' := #[.val (.ref a1), .val (.int p2), .val (.int p3), .val (.int (1 : Int32)), .val (.int (p2 - (1 : Int32)))]) rfl ?_
            show Steps p.tables e below (s₁.setTop (mkF m 60 #[.val (.ref a1), .val (.int p2), .val (.int p3), .val (.int (1 : Int32)), .val (.int (p2 - (1 : Int32)))] [])) t
            refine XS.aloadN X0.here hx rfl (hb hby d5_60) rfl rfl ?_
            show Steps p.tables e below (s₁.setTop (mkF m 61 #[.val (.ref a1), .val (.int p2), .val (.int p3), .val (.int (1 : Int32)), .val (.int (p2 - (1 : Int32)))] [(.ref a1)])) t
            refine XS.iloadN X0.here hx rfl (hb hby d5_61) rfl ?_
            show Steps p.tables e below (s₁.setTop (mkF m 62 #[.val (.ref a1), .val (.int p2), .val (.int p3), .val (.int (1 : Int32)), .val (.int (p2 - (1 : Int32)))] [(.int (1 : Int32)), (.ref a1)])) t
            refine XS.aloadN X0.here hx rfl (hb hby d5_62) rfl rfl ?_
            show Steps p.tables e below (s₁.setTop (mkF m 63 #[.val (.ref a1), .val (.int p2), .val (.int p3), .val (.int (1 : Int32)), .val (.int (p2 - (1 : Int32)))] [(.ref a1), (.int (1 : Int32)), (.ref a1)])) t
            refine XS.iload X0.here hx rfl (hb hby d5_63) rfl ?_
            exact k
          obtain ⟨⟨cl13, Ar13, q13, S13, Nn13, H13, G13⟩, Le13⟩ := id V1
          have hp14 : own_rp xs p2 p3 = (1 : Int32) := by unfold own_rp; rw [if_neg (fun q => hc10_3 q.2), if_pos ⟨hc20_9, hc27_11⟩]
          have hin13 : ¬ ((p2 - (1 : Int32)) < 0 ∨ cl13.slots.size ≤ ((p2 - (1 : Int32))).toNatClampNeg) := inb_of S13 (hpre (by rw [hp14]; decide))
          have hat13 : cl13.slots[((p2 - (1 : Int32))).toNatClampNeg]? = some (.int (xs.getD ((p2 - (1 : Int32))).toNatClampNeg 0)) := Has.at H13 hin13 (own_gI _ _)
          refine own_via (S' := s₁.setTop (mkF m 66 #[.val (.ref a1), .val (.int p2), .val (.int p3), .val (.int (1 : Int32)), .val (.int (p2 - (1 : Int32)))] [(.int (xs.getD ((p2 - (1 : Int32))).toNatClampNeg 0)), (.int (1 : Int32)), (.ref a1)])) (fun t kz_ => X0.iaload hx (j := (p2 - (1 : Int32))) (v := (.int (xs.getD ((p2 - (1 : Int32))).toNatClampNeg 0))) (by rw [e0]; exact Ar13.1) (State.isArrayOf_alike hZ.alike Ar13.2.1) Ar13.2.2 hin13 hat13 (g := (mkF m 65 #[.val (.ref a1), .val (.int p2), .val (.int p3), .val (.int (1 : Int32)), .val (.int (p2 - (1 : Int32)))] [(.int (p2 - (1 : Int32))), (.ref a1), (.int (1 : Int32)), (.ref a1)])) rfl rfl (hb hby d5_65) _ kz_) ?_
          obtain ⟨⟨cl15, Ar15, q15, S15, Nn15, H15, G15⟩, Le15⟩ := id V1
          have hin15 : ¬ ((1 : Int32) < 0 ∨ cl15.slots.size ≤ ((1 : Int32)).toNatClampNeg) := inb_of S15 ⟨by decide, by decide⟩
          obtain ⟨T15, h15, X15, e15, W15, st15⟩ := stI X0 hx hZ e0 Ar15 (j := (1 : Int32)) hin15 (g := (mkF m 66 #[.val (.ref a1), .val (.int p2), .val (.int p3), .val (.int (1 : Int32)), .val (.int (p2 - (1 : Int32)))] [(.int (xs.getD ((p2 - (1 : Int32))).toNatClampNeg 0)), (.int (1 : Int32)), (.ref a1)])) rfl rfl (hb hby d5_66)
          have V15 : own_Ar Z h15 a1 k .int (4 : Int32) (List.map Value.int (xs.set ((1 : Int32)).toNatClampNeg (xs.getD ((p2 - (1 : Int32))).toNatClampNeg 0))) (.int (0 : Int32)) := own_Ar.setI Ar15 q15 S15 Nn15 H15 G15 rfl W15 hin15 Le15
          have K16 : Keep h0 h15 [a1] := Keep.wr K0 W15 (Or.inl (List.mem_of_getElem? (i := 0) rfl))
          have N16 := Fr.snoc X15 N0 g1
          refine own_via st15 ?_
          show own_G p.tables e below _ (T15.setTop (mkF m 67 #[.val (.ref a1), .val (.int p2), .val (.int p3), .val (.int (1 : Int32)), .val (.int (p2 - (1 : Int32)))] []))
          refine own_via (S' := T15.setTop (mkF m 69 #[.val (.ref a1), .val (.int p2), .val (.int p3), .val (.int (1 : Int32)), .val (.int (p2 - (1 : Int32)))] [(.int (p2 - (1 : Int32)))])) (fun t k => ?_) ?_
          · show Steps p.tables e below (T15.setTop (mkF m 67 #[.val (.ref a1), .val (.int p2), .val (.int p3), .val (.int (1 : Int32)), .val (.int (p2 - (1 : Int32)))] [])) t
            refine XS.iload X15.here hx rfl (hb hby d5_67) rfl ?_
            exact k
          have hS := own_rRp hp14 (by decide)
          exact own_end (h := h15) X15 (v := some (.int (p2 - (1 : Int32)))) Bd.notSynchronized (fun h => by rw [Bd.returns] at h; cases h) (fun fs hr => retOut X15 hx Bd.returns rfl (Or.inl ⟨rfl, Or.inl rfl, _, rfl⟩) (hb hby d5_69) hr) e15 ⟨_, hS.symm, rfl, N16, K16, V15⟩ (by decide) (by decide)
        · refine own_via (S' := s₁.setTop (mkF m 35 #[.val (.ref a1), .val (.int p2), .val (.int p3), .val (.int (-1 : Int32)), .unset] [])) (fun t k => XS.icmpYes (g := (mkF m 27 #[.val (.ref a1), .val (.int p2), .val (.int p3), .val (.int (-1 : Int32)), .unset] [(.int p3), (.int (xs.getD ((1 : Int32)).toNatClampNeg 0))])) X0.here hx rfl (pc0 := 27) (pc' := 35) rfl (hb hby d5_27) rfl (feq hc27_11).2 (by decide) (by decide) k) ?_
          refine own_via (S' := s₁.setTop (mkF m 37 #[.val (.ref a1), .val (.int p2), .val (.int p3), .val (.int (-1 : Int32)), .unset] [(.int (2 : Int32)), (.int p2)])) (fun t k => ?_) ?_
          · show Steps p.tables e below (s₁.setTop (mkF m 35 #[.val (.ref a1), .val (.int p2), .val (.int p3), .val (.int (-1 : Int32)), .unset] [])) t
            refine XS.iloadN X0.here hx rfl (hb hby d5_35) rfl ?_
            show Steps p.tables e below (s₁.setTop (mkF m 36 #[.val (.ref a1), .val (.int p2), .val (.int p3), .val (.int (-1 : Int32)), .unset] [(.int p2)])) t
            refine XS.iconst X0.here hx rfl (hb hby d5_36) ?_
            exact k
          by_cases hc37_17 : (2 : Int32) < p2
          · refine own_via (S' := s₁.setTop (mkF m 40 #[.val (.ref a1), .val (.int p2), .val (.int p3), .val (.int (-1 : Int32)), .unset] [])) (fun t k => XS.icmpNo (g := (mkF m 37 #[.val (.ref a1), .val (.int p2), .val (.int p3), .val (.int (-1 : Int32)), .unset] [(.int (2 : Int32)), (.int p2)])) X0.here hx rfl (hb hby d5_37) rfl (tlt hc37_17).2.2.2 k) ?_
            refine own_via (S' := s₁.setTop (mkF m 42 #[.val (.ref a1), .val (.int p2), .val (.int p3), .val (.int (-1 : Int32)), .unset] [(.int (2 : Int32)), (.ref a1)])) (fun t k => ?_) ?_
            · show Steps p.tables e below (s₁.setTop (mkF m 40 #[.val (.ref a1), .val (.int p2), .val (.int p3), .val (.int (-1 : Int32)), .unset] [])) t
              refine XS.aloadN X0.here hx rfl (hb hby d5_40) rfl rfl ?_
              show Steps p.tables e below (s₁.setTop (mkF m 41 #[.val (.ref a1), .val (.int p2), .val (.int p3), .val (.int (-1 : Int32)), .unset] [(.ref a1)])) t
              refine XS.iconst X0.here hx rfl (hb hby d5_41) ?_
              exact k
            obtain ⟨⟨cl18, Ar18, q18, S18, Nn18, H18, G18⟩, Le18⟩ := id V1
            have hin18 : ¬ ((2 : Int32) < 0 ∨ cl18.slots.size ≤ ((2 : Int32)).toNatClampNeg) := inb_of S18 ⟨by decide, by decide⟩
            have hat18 : cl18.slots[((2 : Int32)).toNatClampNeg]? = some (.int (xs.getD ((2 : Int32)).toNatClampNeg 0)) := Has.at H18 hin18 (own_gI _ _)
            refine own_via (S' := s₁.setTop (mkF m 43 #[.val (.ref a1), .val (.int p2), .val (.int p3), .val (.int (-1 : Int32)), .unset] [(.int (xs.getD ((2 : Int32)).toNatClampNeg 0))])) (fun t kz_ => X0.iaload hx (j := (2 : Int32)) (v := (.int (xs.getD ((2 : Int32)).toNatClampNeg 0))) (by rw [e0]; exact Ar18.1) (State.isArrayOf_alike hZ.alike Ar18.2.1) Ar18.2.2 hin18 hat18 (g := (mkF m 42 #[.val (.ref a1), .val (.int p2), .val (.int p3), .val (.int (-1 : Int32)), .unset] [(.int (2 : Int32)), (.ref a1)])) rfl rfl (hb hby d5_42) _ kz_) ?_
            refine own_via (S' := s₁.setTop (mkF m 44 #[.val (.ref a1), .val (.int p2), .val (.int p3), .val (.int (-1 : Int32)), .unset] [(.int p3), (.int (xs.getD ((2 : Int32)).toNatClampNeg 0))])) (fun t k => ?_) ?_
            · show Steps p.tables e below (s₁.setTop (mkF m 43 #[.val (.ref a1), .val (.int p2), .val (.int p3), .val (.int (-1 : Int32)), .unset] [(.int (xs.getD ((2 : Int32)).toNatClampNeg 0))])) t
              refine XS.iloadN X0.here hx rfl (hb hby d5_43) rfl ?_
              exact k
            by_cases hc44_19 : (xs.getD ((2 : Int32)).toNatClampNeg 0) = p3
            · refine own_via (S' := s₁.setTop (mkF m 47 #[.val (.ref a1), .val (.int p2), .val (.int p3), .val (.int (-1 : Int32)), .unset] [])) (fun t k => XS.icmpNo (g := (mkF m 44 #[.val (.ref a1), .val (.int p2), .val (.int p3), .val (.int (-1 : Int32)), .unset] [(.int p3), (.int (xs.getD ((2 : Int32)).toNatClampNeg 0))])) X0.here hx rfl (hb hby d5_44) rfl (teq hc44_19).2 k) ?_
              refine own_via (S' := s₁.setTop (mkF m 50 #[.val (.ref a1), .val (.int p2), .val (.int p3), .val (.int (2 : Int32)), .unset] [(.int (2 : Int32))])) (fun t k => ?_) ?_
              · show Steps p.tables e below (s₁.setTop (mkF m 47 #[.val (.ref a1), .val (.int p2), .val (.int p3), .val (.int (-1 : Int32)), .unset] [])) t
                refine XS.iconst X0.here hx rfl (hb hby d5_47) ?_
                show Steps p.tables e below (s₁.setTop (mkF m 48 #[.val (.ref a1), .val (.int p2), .val (.int p3), .val (.int (-1 : Int32)), .unset] [(.int (2 : Int32))])) t
                refine XS.istoreN X0.here hx rfl (hb hby d5_48) rfl (l' := #[.val (.ref a1), .val (.int p2), .val (.int p3), .val (.int (2 : Int32)), .unset]) rfl ?_
                show Steps p.tables e below (s₁.setTop (mkF m 49 #[.val (.ref a1), .val (.int p2), .val (.int p3), .val (.int (2 : Int32)), .unset] [])) t
                refine XS.iloadN X0.here hx rfl (hb hby d5_49) rfl ?_
                exact k
              refine own_via (S' := s₁.setTop (mkF m 55 #[.val (.ref a1), .val (.int p2), .val (.int p3), .val (.int (2 : Int32)), .unset] [])) (fun t k => XS.ifYes (g := (mkF m 50 #[.val (.ref a1), .val (.int p2), .val (.int p3), .val (.int (2 : Int32)), .unset] [(.int (2 : Int32))])) X0.here hx rfl (pc0 := 50) (pc' := 55) rfl (hb hby d5_50) rfl ((if0 _ _).trans (flt (by decide : ¬ ((2 : Int32) < (0 : Int32)))).2.1) (by decide) (by decide) k) ?_
              refine own_via (S' := s₁.setTop (mkF m 65 #[.val (.ref a1), .val (.int p2), .val (.int p3), .val (.int (2 : Int32)), .val (.int (p2 - (1 : Int32)))] [(.int (p2 - (1 : Int32))), (.ref a1), (.int (2 : Int32)), (.ref a1)])) (fun t k => ?_) ?_
              · show Steps p.tables e below (s₁.setTop (mkF m 55 #[.val (.ref a1), .val (.int p2), .val (.int p3), .val (.int (2 : Int32)), .unset] [])) t
                refine XS.iloadN X0.here hx rfl (hb hby d5_55) rfl ?_
                show Steps p.tables e below (s₁.setTop (mkF m 56 #[.val (.ref a1), .val (.int p2), .val (.int p3), .val (.int (2 : Int32)), .unset] [(.int p2)])) t
                refine XS.iconst X0.here hx rfl (hb hby d5_56) ?_
                show Steps p.tables e below (s₁.setTop (mkF m 57 #[.val (.ref a1), .val (.int p2), .val (.int p3), .val (.int (2 : Int32)), .unset] [(.int (1 : Int32)), (.int p2)])) t
                refine XS.isub X0.here hx rfl (hb hby d5_57) rfl ?_
                show Steps p.tables e below (s₁.setTop (mkF m 58 #[.val (.ref a1), .val (.int p2), .val (.int p3), .val (.int (2 : Int32)), .unset] [(.int (p2 - (1 : Int32)))])) t
                refine XS.istore X0.here hx rfl (hb hby d5_58) rfl (l' := #[.val (.ref a1), .val (.int p2), .val (.int p3), .val (.int (2 : Int32)), .val (.int (p2 - (1 : Int32)))]) rfl ?_
                show Steps p.tables e below (s₁.setTop (mkF m 60 #[.val (.ref a1), .val (.int p2), .val (.int p3), .val (.int (2 : Int32)), .val (.int (p2 - (1 : Int32)))] [])) t
                refine XS.aloadN X0.here hx rfl (hb hby d5_60) rfl rfl ?_
                show Steps p.tables e below (s₁.setTop (mkF m 61 #[.val (.ref a1), .val (.int p2), .val (.int p3), .val (.int (2 : Int32)), .val (.int (p2 - (1 : Int32)))] [(.ref a1)])) t
                refine XS.iloadN X0.here hx rfl (hb hby d5_61) rfl ?_
                show Steps p.tables e below (s₁.setTop (mkF m 62 #[.val (.ref a1), .val (.int p2), .val (.int p3), .val (.int (2 : Int32)), .val (.int (p2 - (1 : Int32)))] [(.int (2 : Int32)), (.ref a1)])) t
                refine XS.aloadN X0.here hx rfl (hb hby d5_62) rfl rfl ?_
                show Steps p.tables e below (s₁.setTop (mkF m 63 #[.val (.ref a1), .val (.int p2), .val (.int p3), .val (.int (2 : Int32)), .val (.int (p2 - (1 : Int32)))] [(.ref a1), (.int (2 : Int32)), (.ref a1)])) t
                refine XS.iload X0.here hx rfl (hb hby d5_63) rfl ?_
                exact k
              obtain ⟨⟨cl21, Ar21, q21, S21, Nn21, H21, G21⟩, Le21⟩ := id V1
              have hp22 : own_rp xs p2 p3 = (2 : Int32) := by unfold own_rp; rw [if_neg (fun q => hc10_3 q.2), if_neg (fun q => hc27_11 q.2), if_pos ⟨hc37_17, hc44_19⟩]
              have hin21 : ¬ ((p2 - (1 : Int32)) < 0 ∨ cl21.slots.size ≤ ((p2 - (1 : Int32))).toNatClampNeg) := inb_of S21 (hpre (by rw [hp22]; decide))
              have hat21 : cl21.slots[((p2 - (1 : Int32))).toNatClampNeg]? = some (.int (xs.getD ((p2 - (1 : Int32))).toNatClampNeg 0)) := Has.at H21 hin21 (own_gI _ _)
              refine own_via (S' := s₁.setTop (mkF m 66 #[.val (.ref a1), .val (.int p2), .val (.int p3), .val (.int (2 : Int32)), .val (.int (p2 - (1 : Int32)))] [(.int (xs.getD ((p2 - (1 : Int32))).toNatClampNeg 0)), (.int (2 : Int32)), (.ref a1)])) (fun t kz_ => X0.iaload hx (j := (p2 - (1 : Int32))) (v := (.int (xs.getD ((p2 - (1 : Int32))).toNatClampNeg 0))) (by rw [e0]; exact Ar21.1) (State.isArrayOf_alike hZ.alike Ar21.2.1) Ar21.2.2 hin21 hat21 (g := (mkF m 65 #[.val (.ref a1), .val (.int p2), .val (.int p3), .val (.int (2 : Int32)), .val (.int (p2 - (1 : Int32)))] [(.int (p2 - (1 : Int32))), (.ref a1), (.int (2 : Int32)), (.ref a1)])) rfl rfl (hb hby d5_65) _ kz_) ?_
              obtain ⟨⟨cl23, Ar23, q23, S23, Nn23, H23, G23⟩, Le23⟩ := id V1
              have hin23 : ¬ ((2 : Int32) < 0 ∨ cl23.slots.size ≤ ((2 : Int32)).toNatClampNeg) := inb_of S23 ⟨by decide, by decide⟩
              obtain ⟨T23, h23, X23, e23, W23, st23⟩ := stI X0 hx hZ e0 Ar23 (j := (2 : Int32)) hin23 (g := (mkF m 66 #[.val (.ref a1), .val (.int p2), .val (.int p3), .val (.int (2 : Int32)), .val (.int (p2 - (1 : Int32)))] [(.int (xs.getD ((p2 - (1 : Int32))).toNatClampNeg 0)), (.int (2 : Int32)), (.ref a1)])) rfl rfl (hb hby d5_66)
              have V23 : own_Ar Z h23 a1 k .int (4 : Int32) (List.map Value.int (xs.set ((2 : Int32)).toNatClampNeg (xs.getD ((p2 - (1 : Int32))).toNatClampNeg 0))) (.int (0 : Int32)) := own_Ar.setI Ar23 q23 S23 Nn23 H23 G23 rfl W23 hin23 Le23
              have K24 : Keep h0 h23 [a1] := Keep.wr K0 W23 (Or.inl (List.mem_of_getElem? (i := 0) rfl))
              have N24 := Fr.snoc X23 N0 g1
              refine own_via st23 ?_
              show own_G p.tables e below _ (T23.setTop (mkF m 67 #[.val (.ref a1), .val (.int p2), .val (.int p3), .val (.int (2 : Int32)), .val (.int (p2 - (1 : Int32)))] []))
              refine own_via (S' := T23.setTop (mkF m 69 #[.val (.ref a1), .val (.int p2), .val (.int p3), .val (.int (2 : Int32)), .val (.int (p2 - (1 : Int32)))] [(.int (p2 - (1 : Int32)))])) (fun t k => ?_) ?_
              · show Steps p.tables e below (T23.setTop (mkF m 67 #[.val (.ref a1), .val (.int p2), .val (.int p3), .val (.int (2 : Int32)), .val (.int (p2 - (1 : Int32)))] [])) t
                refine XS.iload X23.here hx rfl (hb hby d5_67) rfl ?_
                exact k
              have hS := own_rRp hp22 (by decide)
              exact own_end (h := h23) X23 (v := some (.int (p2 - (1 : Int32)))) Bd.notSynchronized (fun h => by rw [Bd.returns] at h; cases h) (fun fs hr => retOut X23 hx Bd.returns rfl (Or.inl ⟨rfl, Or.inl rfl, _, rfl⟩) (hb hby d5_69) hr) e23 ⟨_, hS.symm, rfl, N24, K24, V23⟩ (by decide) (by decide)
            · refine own_via (S' := s₁.setTop (mkF m 49 #[.val (.ref a1), .val (.int p2), .val (.int p3), .val (.int (-1 : Int32)), .unset] [])) (fun t k => XS.icmpYes (g := (mkF m 44 #[.val (.ref a1), .val (.int p2), .val (.int p3), .val (.int (-1 : Int32)), .unset] [(.int p3), (.int (xs.getD ((2 : Int32)).toNatClampNeg 0))])) X0.here hx rfl (pc0 := 44) (pc' := 49) rfl (hb hby d5_44) rfl (feq hc44_19).2 (by decide) (by decide) k) ?_
              refine own_via (S' := s₁.setTop (mkF m 50 #[.val (.ref a1), .val (.int p2), .val (.int p3), .val (.int (-1 : Int32)), .unset] [(.int (-1 : Int32))])) (fun t k => ?_) ?_
              · show Steps p.tables e below (s₁.setTop (mkF m 49 #[.val (.ref a1), .val (.int p2), .val (.int p3), .val (.int (-1 : Int32)), .unset] [])) t
                refine XS.iloadN X0.here hx rfl (hb hby d5_49) rfl ?_
                exact k
              refine own_via (S' := s₁.setTop (mkF m 53 #[.val (.ref a1), .val (.int p2), .val (.int p3), .val (.int (-1 : Int32)), .unset] [])) (fun t k => XS.ifNo (g := (mkF m 50 #[.val (.ref a1), .val (.int p2), .val (.int p3), .val (.int (-1 : Int32)), .unset] [(.int (-1 : Int32))])) X0.here hx rfl (hb hby d5_50) rfl ((if0 _ _).trans (tlt (by decide : (-1 : Int32) < (0 : Int32))).2.1) k) ?_
              refine own_via (S' := s₁.setTop (mkF m 54 #[.val (.ref a1), .val (.int p2), .val (.int p3), .val (.int (-1 : Int32)), .unset] [(.int p2)])) (fun t k => ?_) ?_
              · show Steps p.tables e below (s₁.setTop (mkF m 53 #[.val (.ref a1), .val (.int p2), .val (.int p3), .val (.int (-1 : Int32)), .unset] [])) t
                refine XS.iloadN X0.here hx rfl (hb hby d5_53) rfl ?_
                exact k
              have hp26 : own_rp xs p2 p3 = (-1 : Int32) := by unfold own_rp; rw [if_neg (fun q => hc10_3 q.2), if_neg (fun q => hc27_11 q.2), if_neg (fun q => hc44_19 q.2)]
              have hS := own_rRn hp26 (by decide)
              exact own_end (h := h0) X0 (v := some (.int p2)) Bd.notSynchronized (fun h => by rw [Bd.returns] at h; cases h) (fun fs hr => retOut X0 hx Bd.returns rfl (Or.inl ⟨rfl, Or.inl rfl, _, rfl⟩) (hb hby d5_54) hr) e0 ⟨_, hS.symm, rfl, N0, K0, V1⟩ (by decide) (by decide)
          · refine own_via (S' := s₁.setTop (mkF m 49 #[.val (.ref a1), .val (.int p2), .val (.int p3), .val (.int (-1 : Int32)), .unset] [])) (fun t k => XS.icmpYes (g := (mkF m 37 #[.val (.ref a1), .val (.int p2), .val (.int p3), .val (.int (-1 : Int32)), .unset] [(.int (2 : Int32)), (.int p2)])) X0.here hx rfl (pc0 := 37) (pc' := 49) rfl (hb hby d5_37) rfl (flt hc37_17).2.2.2 (by decide) (by decide) k) ?_
            refine own_via (S' := s₁.setTop (mkF m 50 #[.val (.ref a1), .val (.int p2), .val (.int p3), .val (.int (-1 : Int32)), .unset] [(.int (-1 : Int32))])) (fun t k => ?_) ?_
            · show Steps p.tables e below (s₁.setTop (mkF m 49 #[.val (.ref a1), .val (.int p2), .val (.int p3), .val (.int (-1 : Int32)), .unset] [])) t
              refine XS.iloadN X0.here hx rfl (hb hby d5_49) rfl ?_
              exact k
            refine own_via (S' := s₁.setTop (mkF m 53 #[.val (.ref a1), .val (.int p2), .val (.int p3), .val (.int (-1 : Int32)), .unset] [])) (fun t k => XS.ifNo (g := (mkF m 50 #[.val (.ref a1), .val (.int p2), .val (.int p3), .val (.int (-1 : Int32)), .unset] [(.int (-1 : Int32))])) X0.here hx rfl (hb hby d5_50) rfl ((if0 _ _).trans (tlt (by decide : (-1 : Int32) < (0 : Int32))).2.1) k) ?_
            refine own_via (S' := s₁.setTop (mkF m 54 #[.val (.ref a1), .val (.int p2), .val (.int p3), .val (.int (-1 : Int32)), .unset] [(.int p2)])) (fun t k => ?_) ?_
            · show Steps p.tables e below (s₁.setTop (mkF m 53 #[.val (.ref a1), .val (.int p2), .val (.int p3), .val (.int (-1 : Int32)), .unset] [])) t
              refine XS.iloadN X0.here hx rfl (hb hby d5_53) rfl ?_
              exact k
            have hp28 : own_rp xs p2 p3 = (-1 : Int32) := by unfold own_rp; rw [if_neg (fun q => hc10_3 q.2), if_neg (fun q => hc27_11 q.2), if_neg (fun q => hc37_17 q.1)]
            have hS := own_rRn hp28 (by decide)
            exact own_end (h := h0) X0 (v := some (.int p2)) Bd.notSynchronized (fun h => by rw [Bd.returns] at h; cases h) (fun fs hr => retOut X0 hx Bd.returns rfl (Or.inl ⟨rfl, Or.inl rfl, _, rfl⟩) (hb hby d5_54) hr) e0 ⟨_, hS.symm, rfl, N0, K0, V1⟩ (by decide) (by decide)
      · refine own_via (S' := s₁.setTop (mkF m 35 #[.val (.ref a1), .val (.int p2), .val (.int p3), .val (.int (-1 : Int32)), .unset] [])) (fun t k => XS.icmpYes (g := (mkF m 20 #[.val (.ref a1), .val (.int p2), .val (.int p3), .val (.int (-1 : Int32)), .unset] [(.int (1 : Int32)), (.int p2)])) X0.here hx rfl (pc0 := 20) (pc' := 35) rfl (hb hby d5_20) rfl (flt hc20_9).2.2.2 (by decide) (by decide) k) ?_
        refine own_via (S' := s₁.setTop (mkF m 37 #[.val (.ref a1), .val (.int p2), .val (.int p3), .val (.int (-1 : Int32)), .unset] [(.int (2 : Int32)), (.int p2)])) (fun t k => ?_) ?_
        · show Steps p.tables e below (s₁.setTop (mkF m 35 #[.val (.ref a1), .val (.int p2), .val (.int p3), .val (.int (-1 : Int32)), .unset] [])) t
          refine XS.iloadN X0.here hx rfl (hb hby d5_35) rfl ?_
          show Steps p.tables e below (s₁.setTop (mkF m 36 #[.val (.ref a1), .val (.int p2), .val (.int p3), .val (.int (-1 : Int32)), .unset] [(.int p2)])) t
          refine XS.iconst X0.here hx rfl (hb hby d5_36) ?_
          exact k
        by_cases hc37_29 : (2 : Int32) < p2
        · refine own_via (S' := s₁.setTop (mkF m 40 #[.val (.ref a1), .val (.int p2), .val (.int p3), .val (.int (-1 : Int32)), .unset] [])) (fun t k => XS.icmpNo (g := (mkF m 37 #[.val (.ref a1), .val (.int p2), .val (.int p3), .val (.int (-1 : Int32)), .unset] [(.int (2 : Int32)), (.int p2)])) X0.here hx rfl (hb hby d5_37) rfl (tlt hc37_29).2.2.2 k) ?_
          refine own_via (S' := s₁.setTop (mkF m 42 #[.val (.ref a1), .val (.int p2), .val (.int p3), .val (.int (-1 : Int32)), .unset] [(.int (2 : Int32)), (.ref a1)])) (fun t k => ?_) ?_
          · show Steps p.tables e below (s₁.setTop (mkF m 40 #[.val (.ref a1), .val (.int p2), .val (.int p3), .val (.int (-1 : Int32)), .unset] [])) t
            refine XS.aloadN X0.here hx rfl (hb hby d5_40) rfl rfl ?_
            show Steps p.tables e below (s₁.setTop (mkF m 41 #[.val (.ref a1), .val (.int p2), .val (.int p3), .val (.int (-1 : Int32)), .unset] [(.ref a1)])) t
            refine XS.iconst X0.here hx rfl (hb hby d5_41) ?_
            exact k
          obtain ⟨⟨cl30, Ar30, q30, S30, Nn30, H30, G30⟩, Le30⟩ := id V1
          have hin30 : ¬ ((2 : Int32) < 0 ∨ cl30.slots.size ≤ ((2 : Int32)).toNatClampNeg) := inb_of S30 ⟨by decide, by decide⟩
          have hat30 : cl30.slots[((2 : Int32)).toNatClampNeg]? = some (.int (xs.getD ((2 : Int32)).toNatClampNeg 0)) := Has.at H30 hin30 (own_gI _ _)
          refine own_via (S' := s₁.setTop (mkF m 43 #[.val (.ref a1), .val (.int p2), .val (.int p3), .val (.int (-1 : Int32)), .unset] [(.int (xs.getD ((2 : Int32)).toNatClampNeg 0))])) (fun t kz_ => X0.iaload hx (j := (2 : Int32)) (v := (.int (xs.getD ((2 : Int32)).toNatClampNeg 0))) (by rw [e0]; exact Ar30.1) (State.isArrayOf_alike hZ.alike Ar30.2.1) Ar30.2.2 hin30 hat30 (g := (mkF m 42 #[.val (.ref a1), .val (.int p2), .val (.int p3), .val (.int (-1 : Int32)), .unset] [(.int (2 : Int32)), (.ref a1)])) rfl rfl (hb hby d5_42) _ kz_) ?_
          refine own_via (S' := s₁.setTop (mkF m 44 #[.val (.ref a1), .val (.int p2), .val (.int p3), .val (.int (-1 : Int32)), .unset] [(.int p3), (.int (xs.getD ((2 : Int32)).toNatClampNeg 0))])) (fun t k => ?_) ?_
          · show Steps p.tables e below (s₁.setTop (mkF m 43 #[.val (.ref a1), .val (.int p2), .val (.int p3), .val (.int (-1 : Int32)), .unset] [(.int (xs.getD ((2 : Int32)).toNatClampNeg 0))])) t
            refine XS.iloadN X0.here hx rfl (hb hby d5_43) rfl ?_
            exact k
          by_cases hc44_31 : (xs.getD ((2 : Int32)).toNatClampNeg 0) = p3
          · refine own_via (S' := s₁.setTop (mkF m 47 #[.val (.ref a1), .val (.int p2), .val (.int p3), .val (.int (-1 : Int32)), .unset] [])) (fun t k => XS.icmpNo (g := (mkF m 44 #[.val (.ref a1), .val (.int p2), .val (.int p3), .val (.int (-1 : Int32)), .unset] [(.int p3), (.int (xs.getD ((2 : Int32)).toNatClampNeg 0))])) X0.here hx rfl (hb hby d5_44) rfl (teq hc44_31).2 k) ?_
            refine own_via (S' := s₁.setTop (mkF m 50 #[.val (.ref a1), .val (.int p2), .val (.int p3), .val (.int (2 : Int32)), .unset] [(.int (2 : Int32))])) (fun t k => ?_) ?_
            · show Steps p.tables e below (s₁.setTop (mkF m 47 #[.val (.ref a1), .val (.int p2), .val (.int p3), .val (.int (-1 : Int32)), .unset] [])) t
              refine XS.iconst X0.here hx rfl (hb hby d5_47) ?_
              show Steps p.tables e below (s₁.setTop (mkF m 48 #[.val (.ref a1), .val (.int p2), .val (.int p3), .val (.int (-1 : Int32)), .unset] [(.int (2 : Int32))])) t
              refine XS.istoreN X0.here hx rfl (hb hby d5_48) rfl (l' := #[.val (.ref a1), .val (.int p2), .val (.int p3), .val (.int (2 : Int32)), .unset]) rfl ?_
              show Steps p.tables e below (s₁.setTop (mkF m 49 #[.val (.ref a1), .val (.int p2), .val (.int p3), .val (.int (2 : Int32)), .unset] [])) t
              refine XS.iloadN X0.here hx rfl (hb hby d5_49) rfl ?_
              exact k
            refine own_via (S' := s₁.setTop (mkF m 55 #[.val (.ref a1), .val (.int p2), .val (.int p3), .val (.int (2 : Int32)), .unset] [])) (fun t k => XS.ifYes (g := (mkF m 50 #[.val (.ref a1), .val (.int p2), .val (.int p3), .val (.int (2 : Int32)), .unset] [(.int (2 : Int32))])) X0.here hx rfl (pc0 := 50) (pc' := 55) rfl (hb hby d5_50) rfl ((if0 _ _).trans (flt (by decide : ¬ ((2 : Int32) < (0 : Int32)))).2.1) (by decide) (by decide) k) ?_
            refine own_via (S' := s₁.setTop (mkF m 65 #[.val (.ref a1), .val (.int p2), .val (.int p3), .val (.int (2 : Int32)), .val (.int (p2 - (1 : Int32)))] [(.int (p2 - (1 : Int32))), (.ref a1), (.int (2 : Int32)), (.ref a1)])) (fun t k => ?_) ?_
            · show Steps p.tables e below (s₁.setTop (mkF m 55 #[.val (.ref a1), .val (.int p2), .val (.int p3), .val (.int (2 : Int32)), .unset] [])) t
              refine XS.iloadN X0.here hx rfl (hb hby d5_55) rfl ?_
              show Steps p.tables e below (s₁.setTop (mkF m 56 #[.val (.ref a1), .val (.int p2), .val (.int p3), .val (.int (2 : Int32)), .unset] [(.int p2)])) t
              refine XS.iconst X0.here hx rfl (hb hby d5_56) ?_
              show Steps p.tables e below (s₁.setTop (mkF m 57 #[.val (.ref a1), .val (.int p2), .val (.int p3), .val (.int (2 : Int32)), .unset] [(.int (1 : Int32)), (.int p2)])) t
              refine XS.isub X0.here hx rfl (hb hby d5_57) rfl ?_
              show Steps p.tables e below (s₁.setTop (mkF m 58 #[.val (.ref a1), .val (.int p2), .val (.int p3), .val (.int (2 : Int32)), .unset] [(.int (p2 - (1 : Int32)))])) t
              refine XS.istore X0.here hx rfl (hb hby d5_58) rfl (l' := #[.val (.ref a1), .val (.int p2), .val (.int p3), .val (.int (2 : Int32)), .val (.int (p2 - (1 : Int32)))]) rfl ?_
              show Steps p.tables e below (s₁.setTop (mkF m 60 #[.val (.ref a1), .val (.int p2), .val (.int p3), .val (.int (2 : Int32)), .val (.int (p2 - (1 : Int32)))] [])) t
              refine XS.aloadN X0.here hx rfl (hb hby d5_60) rfl rfl ?_
              show Steps p.tables e below (s₁.setTop (mkF m 61 #[.val (.ref a1), .val (.int p2), .val (.int p3), .val (.int (2 : Int32)), .val (.int (p2 - (1 : Int32)))] [(.ref a1)])) t
              refine XS.iloadN X0.here hx rfl (hb hby d5_61) rfl ?_
              show Steps p.tables e below (s₁.setTop (mkF m 62 #[.val (.ref a1), .val (.int p2), .val (.int p3), .val (.int (2 : Int32)), .val (.int (p2 - (1 : Int32)))] [(.int (2 : Int32)), (.ref a1)])) t
              refine XS.aloadN X0.here hx rfl (hb hby d5_62) rfl rfl ?_
              show Steps p.tables e below (s₁.setTop (mkF m 63 #[.val (.ref a1), .val (.int p2), .val (.int p3), .val (.int (2 : Int32)), .val (.int (p2 - (1 : Int32)))] [(.ref a1), (.int (2 : Int32)), (.ref a1)])) t
              refine XS.iload X0.here hx rfl (hb hby d5_63) rfl ?_
              exact k
            obtain ⟨⟨cl33, Ar33, q33, S33, Nn33, H33, G33⟩, Le33⟩ := id V1
            have hp34 : own_rp xs p2 p3 = (2 : Int32) := by unfold own_rp; rw [if_neg (fun q => hc10_3 q.2), if_neg (fun q => hc20_9 q.1), if_pos ⟨hc37_29, hc44_31⟩]
            have hin33 : ¬ ((p2 - (1 : Int32)) < 0 ∨ cl33.slots.size ≤ ((p2 - (1 : Int32))).toNatClampNeg) := inb_of S33 (hpre (by rw [hp34]; decide))
            have hat33 : cl33.slots[((p2 - (1 : Int32))).toNatClampNeg]? = some (.int (xs.getD ((p2 - (1 : Int32))).toNatClampNeg 0)) := Has.at H33 hin33 (own_gI _ _)
            refine own_via (S' := s₁.setTop (mkF m 66 #[.val (.ref a1), .val (.int p2), .val (.int p3), .val (.int (2 : Int32)), .val (.int (p2 - (1 : Int32)))] [(.int (xs.getD ((p2 - (1 : Int32))).toNatClampNeg 0)), (.int (2 : Int32)), (.ref a1)])) (fun t kz_ => X0.iaload hx (j := (p2 - (1 : Int32))) (v := (.int (xs.getD ((p2 - (1 : Int32))).toNatClampNeg 0))) (by rw [e0]; exact Ar33.1) (State.isArrayOf_alike hZ.alike Ar33.2.1) Ar33.2.2 hin33 hat33 (g := (mkF m 65 #[.val (.ref a1), .val (.int p2), .val (.int p3), .val (.int (2 : Int32)), .val (.int (p2 - (1 : Int32)))] [(.int (p2 - (1 : Int32))), (.ref a1), (.int (2 : Int32)), (.ref a1)])) rfl rfl (hb hby d5_65) _ kz_) ?_
            obtain ⟨⟨cl35, Ar35, q35, S35, Nn35, H35, G35⟩, Le35⟩ := id V1
            have hin35 : ¬ ((2 : Int32) < 0 ∨ cl35.slots.size ≤ ((2 : Int32)).toNatClampNeg) := inb_of S35 ⟨by decide, by decide⟩
            obtain ⟨T35, h35, X35, e35, W35, st35⟩ := stI X0 hx hZ e0 Ar35 (j := (2 : Int32)) hin35 (g := (mkF m 66 #[.val (.ref a1), .val (.int p2), .val (.int p3), .val (.int (2 : Int32)), .val (.int (p2 - (1 : Int32)))] [(.int (xs.getD ((p2 - (1 : Int32))).toNatClampNeg 0)), (.int (2 : Int32)), (.ref a1)])) rfl rfl (hb hby d5_66)
            have V35 : own_Ar Z h35 a1 k .int (4 : Int32) (List.map Value.int (xs.set ((2 : Int32)).toNatClampNeg (xs.getD ((p2 - (1 : Int32))).toNatClampNeg 0))) (.int (0 : Int32)) := own_Ar.setI Ar35 q35 S35 Nn35 H35 G35 rfl W35 hin35 Le35
            have K36 : Keep h0 h35 [a1] := Keep.wr K0 W35 (Or.inl (List.mem_of_getElem? (i := 0) rfl))
            have N36 := Fr.snoc X35 N0 g1
            refine own_via st35 ?_
            show own_G p.tables e below _ (T35.setTop (mkF m 67 #[.val (.ref a1), .val (.int p2), .val (.int p3), .val (.int (2 : Int32)), .val (.int (p2 - (1 : Int32)))] []))
            refine own_via (S' := T35.setTop (mkF m 69 #[.val (.ref a1), .val (.int p2), .val (.int p3), .val (.int (2 : Int32)), .val (.int (p2 - (1 : Int32)))] [(.int (p2 - (1 : Int32)))])) (fun t k => ?_) ?_
            · show Steps p.tables e below (T35.setTop (mkF m 67 #[.val (.ref a1), .val (.int p2), .val (.int p3), .val (.int (2 : Int32)), .val (.int (p2 - (1 : Int32)))] [])) t
              refine XS.iload X35.here hx rfl (hb hby d5_67) rfl ?_
              exact k
            have hS := own_rRp hp34 (by decide)
            exact own_end (h := h35) X35 (v := some (.int (p2 - (1 : Int32)))) Bd.notSynchronized (fun h => by rw [Bd.returns] at h; cases h) (fun fs hr => retOut X35 hx Bd.returns rfl (Or.inl ⟨rfl, Or.inl rfl, _, rfl⟩) (hb hby d5_69) hr) e35 ⟨_, hS.symm, rfl, N36, K36, V35⟩ (by decide) (by decide)
          · refine own_via (S' := s₁.setTop (mkF m 49 #[.val (.ref a1), .val (.int p2), .val (.int p3), .val (.int (-1 : Int32)), .unset] [])) (fun t k => XS.icmpYes (g := (mkF m 44 #[.val (.ref a1), .val (.int p2), .val (.int p3), .val (.int (-1 : Int32)), .unset] [(.int p3), (.int (xs.getD ((2 : Int32)).toNatClampNeg 0))])) X0.here hx rfl (pc0 := 44) (pc' := 49) rfl (hb hby d5_44) rfl (feq hc44_31).2 (by decide) (by decide) k) ?_
            refine own_via (S' := s₁.setTop (mkF m 50 #[.val (.ref a1), .val (.int p2), .val (.int p3), .val (.int (-1 : Int32)), .unset] [(.int (-1 : Int32))])) (fun t k => ?_) ?_
            · show Steps p.tables e below (s₁.setTop (mkF m 49 #[.val (.ref a1), .val (.int p2), .val (.int p3), .val (.int (-1 : Int32)), .unset] [])) t
              refine XS.iloadN X0.here hx rfl (hb hby d5_49) rfl ?_
              exact k
            refine own_via (S' := s₁.setTop (mkF m 53 #[.val (.ref a1), .val (.int p2), .val (.int p3), .val (.int (-1 : Int32)), .unset] [])) (fun t k => XS.ifNo (g := (mkF m 50 #[.val (.ref a1), .val (.int p2), .val (.int p3), .val (.int (-1 : Int32)), .unset] [(.int (-1 : Int32))])) X0.here hx rfl (hb hby d5_50) rfl ((if0 _ _).trans (tlt (by decide : (-1 : Int32) < (0 : Int32))).2.1) k) ?_
            refine own_via (S' := s₁.setTop (mkF m 54 #[.val (.ref a1), .val (.int p2), .val (.int p3), .val (.int (-1 : Int32)), .unset] [(.int p2)])) (fun t k => ?_) ?_
            · show Steps p.tables e below (s₁.setTop (mkF m 53 #[.val (.ref a1), .val (.int p2), .val (.int p3), .val (.int (-1 : Int32)), .unset] [])) t
              refine XS.iloadN X0.here hx rfl (hb hby d5_53) rfl ?_
              exact k
            have hp38 : own_rp xs p2 p3 = (-1 : Int32) := by unfold own_rp; rw [if_neg (fun q => hc10_3 q.2), if_neg (fun q => hc20_9 q.1), if_neg (fun q => hc44_31 q.2)]
            have hS := own_rRn hp38 (by decide)
            exact own_end (h := h0) X0 (v := some (.int p2)) Bd.notSynchronized (fun h => by rw [Bd.returns] at h; cases h) (fun fs hr => retOut X0 hx Bd.returns rfl (Or.inl ⟨rfl, Or.inl rfl, _, rfl⟩) (hb hby d5_54) hr) e0 ⟨_, hS.symm, rfl, N0, K0, V1⟩ (by decide) (by decide)
        · refine own_via (S' := s₁.setTop (mkF m 49 #[.val (.ref a1), .val (.int p2), .val (.int p3), .val (.int (-1 : Int32)), .unset] [])) (fun t k => XS.icmpYes (g := (mkF m 37 #[.val (.ref a1), .val (.int p2), .val (.int p3), .val (.int (-1 : Int32)), .unset] [(.int (2 : Int32)), (.int p2)])) X0.here hx rfl (pc0 := 37) (pc' := 49) rfl (hb hby d5_37) rfl (flt hc37_29).2.2.2 (by decide) (by decide) k) ?_
          refine own_via (S' := s₁.setTop (mkF m 50 #[.val (.ref a1), .val (.int p2), .val (.int p3), .val (.int (-1 : Int32)), .unset] [(.int (-1 : Int32))])) (fun t k => ?_) ?_
          · show Steps p.tables e below (s₁.setTop (mkF m 49 #[.val (.ref a1), .val (.int p2), .val (.int p3), .val (.int (-1 : Int32)), .unset] [])) t
            refine XS.iloadN X0.here hx rfl (hb hby d5_49) rfl ?_
            exact k
          refine own_via (S' := s₁.setTop (mkF m 53 #[.val (.ref a1), .val (.int p2), .val (.int p3), .val (.int (-1 : Int32)), .unset] [])) (fun t k => XS.ifNo (g := (mkF m 50 #[.val (.ref a1), .val (.int p2), .val (.int p3), .val (.int (-1 : Int32)), .unset] [(.int (-1 : Int32))])) X0.here hx rfl (hb hby d5_50) rfl ((if0 _ _).trans (tlt (by decide : (-1 : Int32) < (0 : Int32))).2.1) k) ?_
          refine own_via (S' := s₁.setTop (mkF m 54 #[.val (.ref a1), .val (.int p2), .val (.int p3), .val (.int (-1 : Int32)), .unset] [(.int p2)])) (fun t k => ?_) ?_
          · show Steps p.tables e below (s₁.setTop (mkF m 53 #[.val (.ref a1), .val (.int p2), .val (.int p3), .val (.int (-1 : Int32)), .unset] [])) t
            refine XS.iloadN X0.here hx rfl (hb hby d5_53) rfl ?_
            exact k
          have hp40 : own_rp xs p2 p3 = (-1 : Int32) := by unfold own_rp; rw [if_neg (fun q => hc10_3 q.2), if_neg (fun q => hc20_9 q.1), if_neg (fun q => hc37_29 q.1)]
          have hS := own_rRn hp40 (by decide)
          exact own_end (h := h0) X0 (v := some (.int p2)) Bd.notSynchronized (fun h => by rw [Bd.returns] at h; cases h) (fun fs hr => retOut X0 hx Bd.returns rfl (Or.inl ⟨rfl, Or.inl rfl, _, rfl⟩) (hb hby d5_54) hr) e0 ⟨_, hS.symm, rfl, N0, K0, V1⟩ (by decide) (by decide)
  · refine own_via (S' := s₁.setTop (mkF m 18 #[.val (.ref a1), .val (.int p2), .val (.int p3), .val (.int (-1 : Int32)), .unset] [])) (fun t k => XS.ifYes (g := (mkF m 3 #[.val (.ref a1), .val (.int p2), .val (.int p3), .val (.int (-1 : Int32)), .unset] [(.int p2)])) X0.here hx rfl (pc0 := 3) (pc' := 18) rfl (hb hby d5_3) rfl ((if0 _ _).trans (flt hc3_1).2.2.2) (by decide) (by decide) k) ?_
    refine own_via (S' := s₁.setTop (mkF m 20 #[.val (.ref a1), .val (.int p2), .val (.int p3), .val (.int (-1 : Int32)), .unset] [(.int (1 : Int32)), (.int p2)])) (fun t k => ?_) ?_
    · show Steps p.tables e below (s₁.setTop (mkF m 18 #[.val (.ref a1), .val (.int p2), .val (.int p3), .val (.int (-1 : Int32)), .unset] [])) t
      refine XS.iloadN X0.here hx rfl (hb hby d5_18) rfl ?_
      show Steps p.tables e below (s₁.setTop (mkF m 19 #[.val (.ref a1), .val (.int p2), .val (.int p3), .val (.int (-1 : Int32)), .unset] [(.int p2)])) t
      refine XS.iconst X0.here hx rfl (hb hby d5_19) ?_
      exact k
    by_cases hc20_41 : (1 : Int32) < p2
    · refine own_via (S' := s₁.setTop (mkF m 23 #[.val (.ref a1), .val (.int p2), .val (.int p3), .val (.int (-1 : Int32)), .unset] [])) (fun t k => XS.icmpNo (g := (mkF m 20 #[.val (.ref a1), .val (.int p2), .val (.int p3), .val (.int (-1 : Int32)), .unset] [(.int (1 : Int32)), (.int p2)])) X0.here hx rfl (hb hby d5_20) rfl (tlt hc20_41).2.2.2 k) ?_
      refine own_via (S' := s₁.setTop (mkF m 25 #[.val (.ref a1), .val (.int p2), .val (.int p3), .val (.int (-1 : Int32)), .unset] [(.int (1 : Int32)), (.ref a1)])) (fun t k => ?_) ?_
      · show Steps p.tables e below (s₁.setTop (mkF m 23 #[.val (.ref a1), .val (.int p2), .val (.int p3), .val (.int (-1 : Int32)), .unset] [])) t
        refine XS.aloadN X0.here hx rfl (hb hby d5_23) rfl rfl ?_
        show Steps p.tables e below (s₁.setTop (mkF m 24 #[.val (.ref a1), .val (.int p2), .val (.int p3), .val (.int (-1 : Int32)), .unset] [(.ref a1)])) t
        refine XS.iconst X0.here hx rfl (hb hby d5_24) ?_
        exact k
      obtain ⟨⟨cl42, Ar42, q42, S42, Nn42, H42, G42⟩, Le42⟩ := id V1
      have hin42 : ¬ ((1 : Int32) < 0 ∨ cl42.slots.size ≤ ((1 : Int32)).toNatClampNeg) := inb_of S42 ⟨by decide, by decide⟩
      have hat42 : cl42.slots[((1 : Int32)).toNatClampNeg]? = some (.int (xs.getD ((1 : Int32)).toNatClampNeg 0)) := Has.at H42 hin42 (own_gI _ _)
      refine own_via (S' := s₁.setTop (mkF m 26 #[.val (.ref a1), .val (.int p2), .val (.int p3), .val (.int (-1 : Int32)), .unset] [(.int (xs.getD ((1 : Int32)).toNatClampNeg 0))])) (fun t kz_ => X0.iaload hx (j := (1 : Int32)) (v := (.int (xs.getD ((1 : Int32)).toNatClampNeg 0))) (by rw [e0]; exact Ar42.1) (State.isArrayOf_alike hZ.alike Ar42.2.1) Ar42.2.2 hin42 hat42 (g := (mkF m 25 #[.val (.ref a1), .val (.int p2), .val (.int p3), .val (.int (-1 : Int32)), .unset] [(.int (1 : Int32)), (.ref a1)])) rfl rfl (hb hby d5_25) _ kz_) ?_
      refine own_via (S' := s₁.setTop (mkF m 27 #[.val (.ref a1), .val (.int p2), .val (.int p3), .val (.int (-1 : Int32)), .unset] [(.int p3), (.int (xs.getD ((1 : Int32)).toNatClampNeg 0))])) (fun t k => ?_) ?_
      · show Steps p.tables e below (s₁.setTop (mkF m 26 #[.val (.ref a1), .val (.int p2), .val (.int p3), .val (.int (-1 : Int32)), .unset] [(.int (xs.getD ((1 : Int32)).toNatClampNeg 0))])) t
        refine XS.iloadN X0.here hx rfl (hb hby d5_26) rfl ?_
        exact k
      by_cases hc27_43 : (xs.getD ((1 : Int32)).toNatClampNeg 0) = p3
      · refine own_via (S' := s₁.setTop (mkF m 30 #[.val (.ref a1), .val (.int p2), .val (.int p3), .val (.int (-1 : Int32)), .unset] [])) (fun t k => XS.icmpNo (g := (mkF m 27 #[.val (.ref a1), .val (.int p2), .val (.int p3), .val (.int (-1 : Int32)), .unset] [(.int p3), (.int (xs.getD ((1 : Int32)).toNatClampNeg 0))])) X0.here hx rfl (hb hby d5_27) rfl (teq hc27_43).2 k) ?_
        refine own_via (S' := s₁.setTop (mkF m 50 #[.val (.ref a1), .val (.int p2), .val (.int p3), .val (.int (1 : Int32)), .unset] [(.int (1 : Int32))])) (fun t k => ?_) ?_
        · show Steps p.tables e below (s₁.setTop (mkF m 30 #[.val (.ref a1), .val (.int p2), .val (.int p3), .val (.int (-1 : Int32)), .unset] [])) t
          refine XS.iconst X0.here hx rfl (hb hby d5_30) ?_
          show Steps p.tables e below (s₁.setTop (mkF m 31 #[.val (.ref a1), .val (.int p2), .val (.int p3), .val (.int (-1 : Int32)), .unset] [(.int (1 : Int32))])) t
          refine XS.istoreN X0.here hx rfl (hb hby d5_31) rfl (l' := #[.val (.ref a1), .val (.int p2), .val (.int p3), .val (.int (1 : Int32)), .unset]) rfl ?_
          show Steps p.tables e below (s₁.setTop (mkF m 32 #[.val (.ref a1), .val (.int p2), .val (.int p3), .val (.int (1 : Int32)), .unset] [])) t
          refine XS.goto X0.here hx rfl (pc0 := 32) (pc' := 49) rfl (hb hby d5_32) (by decide) (by decide) ?_
          show Steps p.tables e below (s₁.setTop (mkF m 49 #[.val (.ref a1), .val (.int p2), .val (.int p3), .val (.int (1 : Int32)), .unset] [])) t
          refine XS.iloadN X0.here hx rfl (hb hby d5_49) rfl ?_
          exact k
        refine own_via (S' := s₁.setTop (mkF m 55 #[.val (.ref a1), .val (.int p2), .val (.int p3), .val (.int (1 : Int32)), .unset] [])) (fun t k => XS.ifYes (g := (mkF m 50 #[.val (.ref a1), .val (.int p2), .val (.int p3), .val (.int (1 : Int32)), .unset] [(.int (1 : Int32))])) X0.here hx rfl (pc0 := 50) (pc' := 55) rfl (hb hby d5_50) rfl ((if0 _ _).trans (flt (by decide : ¬ ((1 : Int32) < (0 : Int32)))).2.1) (by decide) (by decide) k) ?_
        refine own_via (S' := s₁.setTop (mkF m 65 #[.val (.ref a1), .val (.int p2), .val (.int p3), .val (.int (1 : Int32)), .val (.int (p2 - (1 : Int32)))] [(.int (p2 - (1 : Int32))), (.ref a1), (.int (1 : Int32)), (.ref a1)])) (fun t k => ?_) ?_
        · show Steps p.tables e below (s₁.setTop (mkF m 55 #[.val (.ref a1), .val (.int p2), .val (.int p3), .val (.int (1 : Int32)), .unset] [])) t
          refine XS.iloadN X0.here hx rfl (hb hby d5_55) rfl ?_
          show Steps p.tables e below (s₁.setTop (mkF m 56 #[.val (.ref a1), .val (.int p2), .val (.int p3), .val (.int (1 : Int32)), .unset] [(.int p2)])) t
          refine XS.iconst X0.here hx rfl (hb hby d5_56) ?_
          show Steps p.tables e below (s₁.setTop (mkF m 57 #[.val (.ref a1), .val (.int p2), .val (.int p3), .val (.int (1 : Int32)), .unset] [(.int (1 : Int32)), (.int p2)])) t
          refine XS.isub X0.here hx rfl (hb hby d5_57) rfl ?_
          show Steps p.tables e below (s₁.setTop (mkF m 58 #[.val (.ref a1), .val (.int p2), .val (.int p3), .val (.int (1 : Int32)), .unset] [(.int (p2 - (1 : Int32)))])) t
          refine XS.istore X0.here hx rfl (hb hby d5_58) rfl (l' := #[.val (.ref a1), .val (.int p2), .val (.int p3), .val (.int (1 : Int32)), .val (.int (p2 - (1 : Int32)))]) rfl ?_
          show Steps p.tables e below (s₁.setTop (mkF m 60 #[.val (.ref a1), .val (.int p2), .val (.int p3), .val (.int (1 : Int32)), .val (.int (p2 - (1 : Int32)))] [])) t
          refine XS.aloadN X0.here hx rfl (hb hby d5_60) rfl rfl ?_
          show Steps p.tables e below (s₁.setTop (mkF m 61 #[.val (.ref a1), .val (.int p2), .val (.int p3), .val (.int (1 : Int32)), .val (.int (p2 - (1 : Int32)))] [(.ref a1)])) t
          refine XS.iloadN X0.here hx rfl (hb hby d5_61) rfl ?_
          show Steps p.tables e below (s₁.setTop (mkF m 62 #[.val (.ref a1), .val (.int p2), .val (.int p3), .val (.int (1 : Int32)), .val (.int (p2 - (1 : Int32)))] [(.int (1 : Int32)), (.ref a1)])) t
          refine XS.aloadN X0.here hx rfl (hb hby d5_62) rfl rfl ?_
          show Steps p.tables e below (s₁.setTop (mkF m 63 #[.val (.ref a1), .val (.int p2), .val (.int p3), .val (.int (1 : Int32)), .val (.int (p2 - (1 : Int32)))] [(.ref a1), (.int (1 : Int32)), (.ref a1)])) t
          refine XS.iload X0.here hx rfl (hb hby d5_63) rfl ?_
          exact k
        obtain ⟨⟨cl45, Ar45, q45, S45, Nn45, H45, G45⟩, Le45⟩ := id V1
        have hp46 : own_rp xs p2 p3 = (1 : Int32) := by unfold own_rp; rw [if_neg (fun q => hc3_1 q.1), if_pos ⟨hc20_41, hc27_43⟩]
        have hin45 : ¬ ((p2 - (1 : Int32)) < 0 ∨ cl45.slots.size ≤ ((p2 - (1 : Int32))).toNatClampNeg) := inb_of S45 (hpre (by rw [hp46]; decide))
        have hat45 : cl45.slots[((p2 - (1 : Int32))).toNatClampNeg]? = some (.int (xs.getD ((p2 - (1 : Int32))).toNatClampNeg 0)) := Has.at H45 hin45 (own_gI _ _)
        refine own_via (S' := s₁.setTop (mkF m 66 #[.val (.ref a1), .val (.int p2), .val (.int p3), .val (.int (1 : Int32)), .val (.int (p2 - (1 : Int32)))] [(.int (xs.getD ((p2 - (1 : Int32))).toNatClampNeg 0)), (.int (1 : Int32)), (.ref a1)])) (fun t kz_ => X0.iaload hx (j := (p2 - (1 : Int32))) (v := (.int (xs.getD ((p2 - (1 : Int32))).toNatClampNeg 0))) (by rw [e0]; exact Ar45.1) (State.isArrayOf_alike hZ.alike Ar45.2.1) Ar45.2.2 hin45 hat45 (g := (mkF m 65 #[.val (.ref a1), .val (.int p2), .val (.int p3), .val (.int (1 : Int32)), .val (.int (p2 - (1 : Int32)))] [(.int (p2 - (1 : Int32))), (.ref a1), (.int (1 : Int32)), (.ref a1)])) rfl rfl (hb hby d5_65) _ kz_) ?_
        obtain ⟨⟨cl47, Ar47, q47, S47, Nn47, H47, G47⟩, Le47⟩ := id V1
        have hin47 : ¬ ((1 : Int32) < 0 ∨ cl47.slots.size ≤ ((1 : Int32)).toNatClampNeg) := inb_of S47 ⟨by decide, by decide⟩
        obtain ⟨T47, h47, X47, e47, W47, st47⟩ := stI X0 hx hZ e0 Ar47 (j := (1 : Int32)) hin47 (g := (mkF m 66 #[.val (.ref a1), .val (.int p2), .val (.int p3), .val (.int (1 : Int32)), .val (.int (p2 - (1 : Int32)))] [(.int (xs.getD ((p2 - (1 : Int32))).toNatClampNeg 0)), (.int (1 : Int32)), (.ref a1)])) rfl rfl (hb hby d5_66)
        have V47 : own_Ar Z h47 a1 k .int (4 : Int32) (List.map Value.int (xs.set ((1 : Int32)).toNatClampNeg (xs.getD ((p2 - (1 : Int32))).toNatClampNeg 0))) (.int (0 : Int32)) := own_Ar.setI Ar47 q47 S47 Nn47 H47 G47 rfl W47 hin47 Le47
        have K48 : Keep h0 h47 [a1] := Keep.wr K0 W47 (Or.inl (List.mem_of_getElem? (i := 0) rfl))
        have N48 := Fr.snoc X47 N0 g1
        refine own_via st47 ?_
        show own_G p.tables e below _ (T47.setTop (mkF m 67 #[.val (.ref a1), .val (.int p2), .val (.int p3), .val (.int (1 : Int32)), .val (.int (p2 - (1 : Int32)))] []))
        refine own_via (S' := T47.setTop (mkF m 69 #[.val (.ref a1), .val (.int p2), .val (.int p3), .val (.int (1 : Int32)), .val (.int (p2 - (1 : Int32)))] [(.int (p2 - (1 : Int32)))])) (fun t k => ?_) ?_
        · show Steps p.tables e below (T47.setTop (mkF m 67 #[.val (.ref a1), .val (.int p2), .val (.int p3), .val (.int (1 : Int32)), .val (.int (p2 - (1 : Int32)))] [])) t
          refine XS.iload X47.here hx rfl (hb hby d5_67) rfl ?_
          exact k
        have hS := own_rRp hp46 (by decide)
        exact own_end (h := h47) X47 (v := some (.int (p2 - (1 : Int32)))) Bd.notSynchronized (fun h => by rw [Bd.returns] at h; cases h) (fun fs hr => retOut X47 hx Bd.returns rfl (Or.inl ⟨rfl, Or.inl rfl, _, rfl⟩) (hb hby d5_69) hr) e47 ⟨_, hS.symm, rfl, N48, K48, V47⟩ (by decide) (by decide)
      · refine own_via (S' := s₁.setTop (mkF m 35 #[.val (.ref a1), .val (.int p2), .val (.int p3), .val (.int (-1 : Int32)), .unset] [])) (fun t k => XS.icmpYes (g := (mkF m 27 #[.val (.ref a1), .val (.int p2), .val (.int p3), .val (.int (-1 : Int32)), .unset] [(.int p3), (.int (xs.getD ((1 : Int32)).toNatClampNeg 0))])) X0.here hx rfl (pc0 := 27) (pc' := 35) rfl (hb hby d5_27) rfl (feq hc27_43).2 (by decide) (by decide) k) ?_
        refine own_via (S' := s₁.setTop (mkF m 37 #[.val (.ref a1), .val (.int p2), .val (.int p3), .val (.int (-1 : Int32)), .unset] [(.int (2 : Int32)), (.int p2)])) (fun t k => ?_) ?_
        · show Steps p.tables e below (s₁.setTop (mkF m 35 #[.val (.ref a1), .val (.int p2), .val (.int p3), .val (.int (-1 : Int32)), .unset] [])) t
          refine XS.iloadN X0.here hx rfl (hb hby d5_35) rfl ?_
          show Steps p.tables e below (s₁.setTop (mkF m 36 #[.val (.ref a1), .val (.int p2), .val (.int p3), .val (.int (-1 : Int32)), .unset] [(.int p2)])) t
          refine XS.iconst X0.here hx rfl (hb hby d5_36) ?_
          exact k
        by_cases hc37_49 : (2 : Int32) < p2
        · refine own_via (S' := s₁.setTop (mkF m 40 #[.val (.ref a1), .val (.int p2), .val (.int p3), .val (.int (-1 : Int32)), .unset] [])) (fun t k => XS.icmpNo (g := (mkF m 37 #[.val (.ref a1), .val (.int p2), .val (.int p3), .val (.int (-1 : Int32)), .unset] [(.int (2 : Int32)), (.int p2)])) X0.here hx rfl (hb hby d5_37) rfl (tlt hc37_49).2.2.2 k) ?_
          refine own_via (S' := s₁.setTop (mkF m 42 #[.val (.ref a1), .val (.int p2), .val (.int p3), .val (.int (-1 : Int32)), .unset] [(.int (2 : Int32)), (.ref a1)])) (fun t k => ?_) ?_
          · show Steps p.tables e below (s₁.setTop (mkF m 40 #[.val (.ref a1), .val (.int p2), .val (.int p3), .val (.int (-1 : Int32)), .unset] [])) t
            refine XS.aloadN X0.here hx rfl (hb hby d5_40) rfl rfl ?_
            show Steps p.tables e below (s₁.setTop (mkF m 41 #[.val (.ref a1), .val (.int p2), .val (.int p3), .val (.int (-1 : Int32)), .unset] [(.ref a1)])) t
            refine XS.iconst X0.here hx rfl (hb hby d5_41) ?_
            exact k
          obtain ⟨⟨cl50, Ar50, q50, S50, Nn50, H50, G50⟩, Le50⟩ := id V1
          have hin50 : ¬ ((2 : Int32) < 0 ∨ cl50.slots.size ≤ ((2 : Int32)).toNatClampNeg) := inb_of S50 ⟨by decide, by decide⟩
          have hat50 : cl50.slots[((2 : Int32)).toNatClampNeg]? = some (.int (xs.getD ((2 : Int32)).toNatClampNeg 0)) := Has.at H50 hin50 (own_gI _ _)
          refine own_via (S' := s₁.setTop (mkF m 43 #[.val (.ref a1), .val (.int p2), .val (.int p3), .val (.int (-1 : Int32)), .unset] [(.int (xs.getD ((2 : Int32)).toNatClampNeg 0))])) (fun t kz_ => X0.iaload hx (j := (2 : Int32)) (v := (.int (xs.getD ((2 : Int32)).toNatClampNeg 0))) (by rw [e0]; exact Ar50.1) (State.isArrayOf_alike hZ.alike Ar50.2.1) Ar50.2.2 hin50 hat50 (g := (mkF m 42 #[.val (.ref a1), .val (.int p2), .val (.int p3), .val (.int (-1 : Int32)), .unset] [(.int (2 : Int32)), (.ref a1)])) rfl rfl (hb hby d5_42) _ kz_) ?_
          refine own_via (S' := s₁.setTop (mkF m 44 #[.val (.ref a1), .val (.int p2), .val (.int p3), .val (.int (-1 : Int32)), .unset] [(.int p3), (.int (xs.getD ((2 : Int32)).toNatClampNeg 0))])) (fun t k => ?_) ?_
          · show Steps p.tables e below (s₁.setTop (mkF m 43 #[.val (.ref a1), .val (.int p2), .val (.int p3), .val (.int (-1 : Int32)), .unset] [(.int (xs.getD ((2 : Int32)).toNatClampNeg 0))])) t
            refine XS.iloadN X0.here hx rfl (hb hby d5_43) rfl ?_
            exact k
          by_cases hc44_51 : (xs.getD ((2 : Int32)).toNatClampNeg 0) = p3
          · refine own_via (S' := s₁.setTop (mkF m 47 #[.val (.ref a1), .val (.int p2), .val (.int p3), .val (.int (-1 : Int32)), .unset] [])) (fun t k => XS.icmpNo (g := (mkF m 44 #[.val (.ref a1), .val (.int p2), .val (.int p3), .val (.int (-1 : Int32)), .unset] [(.int p3), (.int (xs.getD ((2 : Int32)).toNatClampNeg 0))])) X0.here hx rfl (hb hby d5_44) rfl (teq hc44_51).2 k) ?_
            refine own_via (S' := s₁.setTop (mkF m 50 #[.val (.ref a1), .val (.int p2), .val (.int p3), .val (.int (2 : Int32)), .unset] [(.int (2 : Int32))])) (fun t k => ?_) ?_
            · show Steps p.tables e below (s₁.setTop (mkF m 47 #[.val (.ref a1), .val (.int p2), .val (.int p3), .val (.int (-1 : Int32)), .unset] [])) t
              refine XS.iconst X0.here hx rfl (hb hby d5_47) ?_
              show Steps p.tables e below (s₁.setTop (mkF m 48 #[.val (.ref a1), .val (.int p2), .val (.int p3), .val (.int (-1 : Int32)), .unset] [(.int (2 : Int32))])) t
              refine XS.istoreN X0.here hx rfl (hb hby d5_48) rfl (l' := #[.val (.ref a1), .val (.int p2), .val (.int p3), .val (.int (2 : Int32)), .unset]) rfl ?_
              show Steps p.tables e below (s₁.setTop (mkF m 49 #[.val (.ref a1), .val (.int p2), .val (.int p3), .val (.int (2 : Int32)), .unset] [])) t
              refine XS.iloadN X0.here hx rfl (hb hby d5_49) rfl ?_
              exact k
            refine own_via (S' := s₁.setTop (mkF m 55 #[.val (.ref a1), .val (.int p2), .val (.int p3), .val (.int (2 : Int32)), .unset] [])) (fun t k => XS.ifYes (g := (mkF m 50 #[.val (.ref a1), .val (.int p2), .val (.int p3), .val (.int (2 : Int32)), .unset] [(.int (2 : Int32))])) X0.here hx rfl (pc0 := 50) (pc' := 55) rfl (hb hby d5_50) rfl ((if0 _ _).trans (flt (by decide : ¬ ((2 : Int32) < (0 : Int32)))).2.1) (by decide) (by decide) k) ?_
            refine own_via (S' := s₁.setTop (mkF m 65 #[.val (.ref a1), .val (.int p2), .val (.int p3), .val (.int (2 : Int32)), .val (.int (p2 - (1 : Int32)))] [(.int (p2 - (1 : Int32))), (.ref a1), (.int (2 : Int32)), (.ref a1)])) (fun t k => ?_) ?_
            · show Steps p.tables e below (s₁.setTop (mkF m 55 #[.val (.ref a1), .val (.int p2), .val (.int p3), .val (.int (2 : Int32)), .unset] [])) t
              refine XS.iloadN X0.here hx rfl (hb hby d5_55) rfl ?_
              show Steps p.tables e below (s₁.setTop (mkF m 56 #[.val (.ref a1), .val (.int p2), .val (.int p3), .val (.int (2 : Int32)), .unset] [(.int p2)])) t
              refine XS.iconst X0.here hx rfl (hb hby d5_56) ?_
              show Steps p.tables e below (s₁.setTop (mkF m 57 #[.val (.ref a1), .val (.int p2), .val (.int p3), .val (.int (2 : Int32)), .unset] [(.int (1 : Int32)), (.int p2)])) t
              refine XS.isub X0.here hx rfl (hb hby d5_57) rfl ?_
              show Steps p.tables e below (s₁.setTop (mkF m 58 #[.val (.ref a1), .val (.int p2), .val (.int p3), .val (.int (2 : Int32)), .unset] [(.int (p2 - (1 : Int32)))])) t
              refine XS.istore X0.here hx rfl (hb hby d5_58) rfl (l' := #[.val (.ref a1), .val (.int p2), .val (.int p3), .val (.int (2 : Int32)), .val (.int (p2 - (1 : Int32)))]) rfl ?_
              show Steps p.tables e below (s₁.setTop (mkF m 60 #[.val (.ref a1), .val (.int p2), .val (.int p3), .val (.int (2 : Int32)), .val (.int (p2 - (1 : Int32)))] [])) t
              refine XS.aloadN X0.here hx rfl (hb hby d5_60) rfl rfl ?_
              show Steps p.tables e below (s₁.setTop (mkF m 61 #[.val (.ref a1), .val (.int p2), .val (.int p3), .val (.int (2 : Int32)), .val (.int (p2 - (1 : Int32)))] [(.ref a1)])) t
              refine XS.iloadN X0.here hx rfl (hb hby d5_61) rfl ?_
              show Steps p.tables e below (s₁.setTop (mkF m 62 #[.val (.ref a1), .val (.int p2), .val (.int p3), .val (.int (2 : Int32)), .val (.int (p2 - (1 : Int32)))] [(.int (2 : Int32)), (.ref a1)])) t
              refine XS.aloadN X0.here hx rfl (hb hby d5_62) rfl rfl ?_
              show Steps p.tables e below (s₁.setTop (mkF m 63 #[.val (.ref a1), .val (.int p2), .val (.int p3), .val (.int (2 : Int32)), .val (.int (p2 - (1 : Int32)))] [(.ref a1), (.int (2 : Int32)), (.ref a1)])) t
              refine XS.iload X0.here hx rfl (hb hby d5_63) rfl ?_
              exact k
            obtain ⟨⟨cl53, Ar53, q53, S53, Nn53, H53, G53⟩, Le53⟩ := id V1
            have hp54 : own_rp xs p2 p3 = (2 : Int32) := by unfold own_rp; rw [if_neg (fun q => hc3_1 q.1), if_neg (fun q => hc27_43 q.2), if_pos ⟨hc37_49, hc44_51⟩]
            have hin53 : ¬ ((p2 - (1 : Int32)) < 0 ∨ cl53.slots.size ≤ ((p2 - (1 : Int32))).toNatClampNeg) := inb_of S53 (hpre (by rw [hp54]; decide))
            have hat53 : cl53.slots[((p2 - (1 : Int32))).toNatClampNeg]? = some (.int (xs.getD ((p2 - (1 : Int32))).toNatClampNeg 0)) := Has.at H53 hin53 (own_gI _ _)
            refine own_via (S' := s₁.setTop (mkF m 66 #[.val (.ref a1), .val (.int p2), .val (.int p3), .val (.int (2 : Int32)), .val (.int (p2 - (1 : Int32)))] [(.int (xs.getD ((p2 - (1 : Int32))).toNatClampNeg 0)), (.int (2 : Int32)), (.ref a1)])) (fun t kz_ => X0.iaload hx (j := (p2 - (1 : Int32))) (v := (.int (xs.getD ((p2 - (1 : Int32))).toNatClampNeg 0))) (by rw [e0]; exact Ar53.1) (State.isArrayOf_alike hZ.alike Ar53.2.1) Ar53.2.2 hin53 hat53 (g := (mkF m 65 #[.val (.ref a1), .val (.int p2), .val (.int p3), .val (.int (2 : Int32)), .val (.int (p2 - (1 : Int32)))] [(.int (p2 - (1 : Int32))), (.ref a1), (.int (2 : Int32)), (.ref a1)])) rfl rfl (hb hby d5_65) _ kz_) ?_
            obtain ⟨⟨cl55, Ar55, q55, S55, Nn55, H55, G55⟩, Le55⟩ := id V1
            have hin55 : ¬ ((2 : Int32) < 0 ∨ cl55.slots.size ≤ ((2 : Int32)).toNatClampNeg) := inb_of S55 ⟨by decide, by decide⟩
            obtain ⟨T55, h55, X55, e55, W55, st55⟩ := stI X0 hx hZ e0 Ar55 (j := (2 : Int32)) hin55 (g := (mkF m 66 #[.val (.ref a1), .val (.int p2), .val (.int p3), .val (.int (2 : Int32)), .val (.int (p2 - (1 : Int32)))] [(.int (xs.getD ((p2 - (1 : Int32))).toNatClampNeg 0)), (.int (2 : Int32)), (.ref a1)])) rfl rfl (hb hby d5_66)
            have V55 : own_Ar Z h55 a1 k .int (4 : Int32) (List.map Value.int (xs.set ((2 : Int32)).toNatClampNeg (xs.getD ((p2 - (1 : Int32))).toNatClampNeg 0))) (.int (0 : Int32)) := own_Ar.setI Ar55 q55 S55 Nn55 H55 G55 rfl W55 hin55 Le55
            have K56 : Keep h0 h55 [a1] := Keep.wr K0 W55 (Or.inl (List.mem_of_getElem? (i := 0) rfl))
            have N56 := Fr.snoc X55 N0 g1
            refine own_via st55 ?_
            show own_G p.tables e below _ (T55.setTop (mkF m 67 #[.val (.ref a1), .val (.int p2), .val (.int p3), .val (.int (2 : Int32)), .val (.int (p2 - (1 : Int32)))] []))
            refine own_via (S' := T55.setTop (mkF m 69 #[.val (.ref a1), .val (.int p2), .val (.int p3), .val (.int (2 : Int32)), .val (.int (p2 - (1 : Int32)))] [(.int (p2 - (1 : Int32)))])) (fun t k => ?_) ?_
            · show Steps p.tables e below (T55.setTop (mkF m 67 #[.val (.ref a1), .val (.int p2), .val (.int p3), .val (.int (2 : Int32)), .val (.int (p2 - (1 : Int32)))] [])) t
              refine XS.iload X55.here hx rfl (hb hby d5_67) rfl ?_
              exact k
            have hS := own_rRp hp54 (by decide)
            exact own_end (h := h55) X55 (v := some (.int (p2 - (1 : Int32)))) Bd.notSynchronized (fun h => by rw [Bd.returns] at h; cases h) (fun fs hr => retOut X55 hx Bd.returns rfl (Or.inl ⟨rfl, Or.inl rfl, _, rfl⟩) (hb hby d5_69) hr) e55 ⟨_, hS.symm, rfl, N56, K56, V55⟩ (by decide) (by decide)
          · refine own_via (S' := s₁.setTop (mkF m 49 #[.val (.ref a1), .val (.int p2), .val (.int p3), .val (.int (-1 : Int32)), .unset] [])) (fun t k => XS.icmpYes (g := (mkF m 44 #[.val (.ref a1), .val (.int p2), .val (.int p3), .val (.int (-1 : Int32)), .unset] [(.int p3), (.int (xs.getD ((2 : Int32)).toNatClampNeg 0))])) X0.here hx rfl (pc0 := 44) (pc' := 49) rfl (hb hby d5_44) rfl (feq hc44_51).2 (by decide) (by decide) k) ?_
            refine own_via (S' := s₁.setTop (mkF m 50 #[.val (.ref a1), .val (.int p2), .val (.int p3), .val (.int (-1 : Int32)), .unset] [(.int (-1 : Int32))])) (fun t k => ?_) ?_
            · show Steps p.tables e below (s₁.setTop (mkF m 49 #[.val (.ref a1), .val (.int p2), .val (.int p3), .val (.int (-1 : Int32)), .unset] [])) t
              refine XS.iloadN X0.here hx rfl (hb hby d5_49) rfl ?_
              exact k
            refine own_via (S' := s₁.setTop (mkF m 53 #[.val (.ref a1), .val (.int p2), .val (.int p3), .val (.int (-1 : Int32)), .unset] [])) (fun t k => XS.ifNo (g := (mkF m 50 #[.val (.ref a1), .val (.int p2), .val (.int p3), .val (.int (-1 : Int32)), .unset] [(.int (-1 : Int32))])) X0.here hx rfl (hb hby d5_50) rfl ((if0 _ _).trans (tlt (by decide : (-1 : Int32) < (0 : Int32))).2.1) k) ?_
            refine own_via (S' := s₁.setTop (mkF m 54 #[.val (.ref a1), .val (.int p2), .val (.int p3), .val (.int (-1 : Int32)), .unset] [(.int p2)])) (fun t k => ?_) ?_
            · show Steps p.tables e below (s₁.setTop (mkF m 53 #[.val (.ref a1), .val (.int p2), .val (.int p3), .val (.int (-1 : Int32)), .unset] [])) t
              refine XS.iloadN X0.here hx rfl (hb hby d5_53) rfl ?_
              exact k
            have hp58 : own_rp xs p2 p3 = (-1 : Int32) := by unfold own_rp; rw [if_neg (fun q => hc3_1 q.1), if_neg (fun q => hc27_43 q.2), if_neg (fun q => hc44_51 q.2)]
            have hS := own_rRn hp58 (by decide)
            exact own_end (h := h0) X0 (v := some (.int p2)) Bd.notSynchronized (fun h => by rw [Bd.returns] at h; cases h) (fun fs hr => retOut X0 hx Bd.returns rfl (Or.inl ⟨rfl, Or.inl rfl, _, rfl⟩) (hb hby d5_54) hr) e0 ⟨_, hS.symm, rfl, N0, K0, V1⟩ (by decide) (by decide)
        · refine own_via (S' := s₁.setTop (mkF m 49 #[.val (.ref a1), .val (.int p2), .val (.int p3), .val (.int (-1 : Int32)), .unset] [])) (fun t k => XS.icmpYes (g := (mkF m 37 #[.val (.ref a1), .val (.int p2), .val (.int p3), .val (.int (-1 : Int32)), .unset] [(.int (2 : Int32)), (.int p2)])) X0.here hx rfl (pc0 := 37) (pc' := 49) rfl (hb hby d5_37) rfl (flt hc37_49).2.2.2 (by decide) (by decide) k) ?_
          refine own_via (S' := s₁.setTop (mkF m 50 #[.val (.ref a1), .val (.int p2), .val (.int p3), .val (.int (-1 : Int32)), .unset] [(.int (-1 : Int32))])) (fun t k => ?_) ?_
          · show Steps p.tables e below (s₁.setTop (mkF m 49 #[.val (.ref a1), .val (.int p2), .val (.int p3), .val (.int (-1 : Int32)), .unset] [])) t
            refine XS.iloadN X0.here hx rfl (hb hby d5_49) rfl ?_
            exact k
          refine own_via (S' := s₁.setTop (mkF m 53 #[.val (.ref a1), .val (.int p2), .val (.int p3), .val (.int (-1 : Int32)), .unset] [])) (fun t k => XS.ifNo (g := (mkF m 50 #[.val (.ref a1), .val (.int p2), .val (.int p3), .val (.int (-1 : Int32)), .unset] [(.int (-1 : Int32))])) X0.here hx rfl (hb hby d5_50) rfl ((if0 _ _).trans (tlt (by decide : (-1 : Int32) < (0 : Int32))).2.1) k) ?_
          refine own_via (S' := s₁.setTop (mkF m 54 #[.val (.ref a1), .val (.int p2), .val (.int p3), .val (.int (-1 : Int32)), .unset] [(.int p2)])) (fun t k => ?_) ?_
          · show Steps p.tables e below (s₁.setTop (mkF m 53 #[.val (.ref a1), .val (.int p2), .val (.int p3), .val (.int (-1 : Int32)), .unset] [])) t
            refine XS.iloadN X0.here hx rfl (hb hby d5_53) rfl ?_
            exact k
          have hp60 : own_rp xs p2 p3 = (-1 : Int32) := by unfold own_rp; rw [if_neg (fun q => hc3_1 q.1), if_neg (fun q => hc27_43 q.2), if_neg (fun q => hc37_49 q.1)]
          have hS := own_rRn hp60 (by decide)
          exact own_end (h := h0) X0 (v := some (.int p2)) Bd.notSynchronized (fun h => by rw [Bd.returns] at h; cases h) (fun fs hr => retOut X0 hx Bd.returns rfl (Or.inl ⟨rfl, Or.inl rfl, _, rfl⟩) (hb hby d5_54) hr) e0 ⟨_, hS.symm, rfl, N0, K0, V1⟩ (by decide) (by decide)
    · refine own_via (S' := s₁.setTop (mkF m 35 #[.val (.ref a1), .val (.int p2), .val (.int p3), .val (.int (-1 : Int32)), .unset] [])) (fun t k => XS.icmpYes (g := (mkF m 20 #[.val (.ref a1), .val (.int p2), .val (.int p3), .val (.int (-1 : Int32)), .unset] [(.int (1 : Int32)), (.int p2)])) X0.here hx rfl (pc0 := 20) (pc' := 35) rfl (hb hby d5_20) rfl (flt hc20_41).2.2.2 (by decide) (by decide) k) ?_
      refine own_via (S' := s₁.setTop (mkF m 37 #[.val (.ref a1), .val (.int p2), .val (.int p3), .val (.int (-1 : Int32)), .unset] [(.int (2 : Int32)), (.int p2)])) (fun t k => ?_) ?_
      · show Steps p.tables e below (s₁.setTop (mkF m 35 #[.val (.ref a1), .val (.int p2), .val (.int p3), .val (.int (-1 : Int32)), .unset] [])) t
        refine XS.iloadN X0.here hx rfl (hb hby d5_35) rfl ?_
        show Steps p.tables e below (s₁.setTop (mkF m 36 #[.val (.ref a1), .val (.int p2), .val (.int p3), .val (.int (-1 : Int32)), .unset] [(.int p2)])) t
        refine XS.iconst X0.here hx rfl (hb hby d5_36) ?_
        exact k
      by_cases hc37_61 : (2 : Int32) < p2
      · refine own_via (S' := s₁.setTop (mkF m 40 #[.val (.ref a1), .val (.int p2), .val (.int p3), .val (.int (-1 : Int32)), .unset] [])) (fun t k => XS.icmpNo (g := (mkF m 37 #[.val (.ref a1), .val (.int p2), .val (.int p3), .val (.int (-1 : Int32)), .unset] [(.int (2 : Int32)), (.int p2)])) X0.here hx rfl (hb hby d5_37) rfl (tlt hc37_61).2.2.2 k) ?_
        refine own_via (S' := s₁.setTop (mkF m 42 #[.val (.ref a1), .val (.int p2), .val (.int p3), .val (.int (-1 : Int32)), .unset] [(.int (2 : Int32)), (.ref a1)])) (fun t k => ?_) ?_
        · show Steps p.tables e below (s₁.setTop (mkF m 40 #[.val (.ref a1), .val (.int p2), .val (.int p3), .val (.int (-1 : Int32)), .unset] [])) t
          refine XS.aloadN X0.here hx rfl (hb hby d5_40) rfl rfl ?_
          show Steps p.tables e below (s₁.setTop (mkF m 41 #[.val (.ref a1), .val (.int p2), .val (.int p3), .val (.int (-1 : Int32)), .unset] [(.ref a1)])) t
          refine XS.iconst X0.here hx rfl (hb hby d5_41) ?_
          exact k
        obtain ⟨⟨cl62, Ar62, q62, S62, Nn62, H62, G62⟩, Le62⟩ := id V1
        have hin62 : ¬ ((2 : Int32) < 0 ∨ cl62.slots.size ≤ ((2 : Int32)).toNatClampNeg) := inb_of S62 ⟨by decide, by decide⟩
        have hat62 : cl62.slots[((2 : Int32)).toNatClampNeg]? = some (.int (xs.getD ((2 : Int32)).toNatClampNeg 0)) := Has.at H62 hin62 (own_gI _ _)
        refine own_via (S' := s₁.setTop (mkF m 43 #[.val (.ref a1), .val (.int p2), .val (.int p3), .val (.int (-1 : Int32)), .unset] [(.int (xs.getD ((2 : Int32)).toNatClampNeg 0))])) (fun t kz_ => X0.iaload hx (j := (2 : Int32)) (v := (.int (xs.getD ((2 : Int32)).toNatClampNeg 0))) (by rw [e0]; exact Ar62.1) (State.isArrayOf_alike hZ.alike Ar62.2.1) Ar62.2.2 hin62 hat62 (g := (mkF m 42 #[.val (.ref a1), .val (.int p2), .val (.int p3), .val (.int (-1 : Int32)), .unset] [(.int (2 : Int32)), (.ref a1)])) rfl rfl (hb hby d5_42) _ kz_) ?_
        refine own_via (S' := s₁.setTop (mkF m 44 #[.val (.ref a1), .val (.int p2), .val (.int p3), .val (.int (-1 : Int32)), .unset] [(.int p3), (.int (xs.getD ((2 : Int32)).toNatClampNeg 0))])) (fun t k => ?_) ?_
        · show Steps p.tables e below (s₁.setTop (mkF m 43 #[.val (.ref a1), .val (.int p2), .val (.int p3), .val (.int (-1 : Int32)), .unset] [(.int (xs.getD ((2 : Int32)).toNatClampNeg 0))])) t
          refine XS.iloadN X0.here hx rfl (hb hby d5_43) rfl ?_
          exact k
        by_cases hc44_63 : (xs.getD ((2 : Int32)).toNatClampNeg 0) = p3
        · refine own_via (S' := s₁.setTop (mkF m 47 #[.val (.ref a1), .val (.int p2), .val (.int p3), .val (.int (-1 : Int32)), .unset] [])) (fun t k => XS.icmpNo (g := (mkF m 44 #[.val (.ref a1), .val (.int p2), .val (.int p3), .val (.int (-1 : Int32)), .unset] [(.int p3), (.int (xs.getD ((2 : Int32)).toNatClampNeg 0))])) X0.here hx rfl (hb hby d5_44) rfl (teq hc44_63).2 k) ?_
          refine own_via (S' := s₁.setTop (mkF m 50 #[.val (.ref a1), .val (.int p2), .val (.int p3), .val (.int (2 : Int32)), .unset] [(.int (2 : Int32))])) (fun t k => ?_) ?_
          · show Steps p.tables e below (s₁.setTop (mkF m 47 #[.val (.ref a1), .val (.int p2), .val (.int p3), .val (.int (-1 : Int32)), .unset] [])) t
            refine XS.iconst X0.here hx rfl (hb hby d5_47) ?_
            show Steps p.tables e below (s₁.setTop (mkF m 48 #[.val (.ref a1), .val (.int p2), .val (.int p3), .val (.int (-1 : Int32)), .unset] [(.int (2 : Int32))])) t
            refine XS.istoreN X0.here hx rfl (hb hby d5_48) rfl (l' := #[.val (.ref a1), .val (.int p2), .val (.int p3), .val (.int (2 : Int32)), .unset]) rfl ?_
            show Steps p.tables e below (s₁.setTop (mkF m 49 #[.val (.ref a1), .val (.int p2), .val (.int p3), .val (.int (2 : Int32)), .unset] [])) t
            refine XS.iloadN X0.here hx rfl (hb hby d5_49) rfl ?_
            exact k
          refine own_via (S' := s₁.setTop (mkF m 55 #[.val (.ref a1), .val (.int p2), .val (.int p3), .val (.int (2 : Int32)), .unset] [])) (fun t k => XS.ifYes (g := (mkF m 50 #[.val (.ref a1), .val (.int p2), .val (.int p3), .val (.int (2 : Int32)), .unset] [(.int (2 : Int32))])) X0.here hx rfl (pc0 := 50) (pc' := 55) rfl (hb hby d5_50) rfl ((if0 _ _).trans (flt (by decide : ¬ ((2 : Int32) < (0 : Int32)))).2.1) (by decide) (by decide) k) ?_
          refine own_via (S' := s₁.setTop (mkF m 65 #[.val (.ref a1), .val (.int p2), .val (.int p3), .val (.int (2 : Int32)), .val (.int (p2 - (1 : Int32)))] [(.int (p2 - (1 : Int32))), (.ref a1), (.int (2 : Int32)), (.ref a1)])) (fun t k => ?_) ?_
          · show Steps p.tables e below (s₁.setTop (mkF m 55 #[.val (.ref a1), .val (.int p2), .val (.int p3), .val (.int (2 : Int32)), .unset] [])) t
            refine XS.iloadN X0.here hx rfl (hb hby d5_55) rfl ?_
            show Steps p.tables e below (s₁.setTop (mkF m 56 #[.val (.ref a1), .val (.int p2), .val (.int p3), .val (.int (2 : Int32)), .unset] [(.int p2)])) t
            refine XS.iconst X0.here hx rfl (hb hby d5_56) ?_
            show Steps p.tables e below (s₁.setTop (mkF m 57 #[.val (.ref a1), .val (.int p2), .val (.int p3), .val (.int (2 : Int32)), .unset] [(.int (1 : Int32)), (.int p2)])) t
            refine XS.isub X0.here hx rfl (hb hby d5_57) rfl ?_
            show Steps p.tables e below (s₁.setTop (mkF m 58 #[.val (.ref a1), .val (.int p2), .val (.int p3), .val (.int (2 : Int32)), .unset] [(.int (p2 - (1 : Int32)))])) t
            refine XS.istore X0.here hx rfl (hb hby d5_58) rfl (l' := #[.val (.ref a1), .val (.int p2), .val (.int p3), .val (.int (2 : Int32)), .val (.int (p2 - (1 : Int32)))]) rfl ?_
            show Steps p.tables e below (s₁.setTop (mkF m 60 #[.val (.ref a1), .val (.int p2), .val (.int p3), .val (.int (2 : Int32)), .val (.int (p2 - (1 : Int32)))] [])) t
            refine XS.aloadN X0.here hx rfl (hb hby d5_60) rfl rfl ?_
            show Steps p.tables e below (s₁.setTop (mkF m 61 #[.val (.ref a1), .val (.int p2), .val (.int p3), .val (.int (2 : Int32)), .val (.int (p2 - (1 : Int32)))] [(.ref a1)])) t
            refine XS.iloadN X0.here hx rfl (hb hby d5_61) rfl ?_
            show Steps p.tables e below (s₁.setTop (mkF m 62 #[.val (.ref a1), .val (.int p2), .val (.int p3), .val (.int (2 : Int32)), .val (.int (p2 - (1 : Int32)))] [(.int (2 : Int32)), (.ref a1)])) t
            refine XS.aloadN X0.here hx rfl (hb hby d5_62) rfl rfl ?_
            show Steps p.tables e below (s₁.setTop (mkF m 63 #[.val (.ref a1), .val (.int p2), .val (.int p3), .val (.int (2 : Int32)), .val (.int (p2 - (1 : Int32)))] [(.ref a1), (.int (2 : Int32)), (.ref a1)])) t
            refine XS.iload X0.here hx rfl (hb hby d5_63) rfl ?_
            exact k
          obtain ⟨⟨cl65, Ar65, q65, S65, Nn65, H65, G65⟩, Le65⟩ := id V1
          have hp66 : own_rp xs p2 p3 = (2 : Int32) := by unfold own_rp; rw [if_neg (fun q => hc3_1 q.1), if_neg (fun q => hc20_41 q.1), if_pos ⟨hc37_61, hc44_63⟩]
          have hin65 : ¬ ((p2 - (1 : Int32)) < 0 ∨ cl65.slots.size ≤ ((p2 - (1 : Int32))).toNatClampNeg) := inb_of S65 (hpre (by rw [hp66]; decide))
          have hat65 : cl65.slots[((p2 - (1 : Int32))).toNatClampNeg]? = some (.int (xs.getD ((p2 - (1 : Int32))).toNatClampNeg 0)) := Has.at H65 hin65 (own_gI _ _)
          refine own_via (S' := s₁.setTop (mkF m 66 #[.val (.ref a1), .val (.int p2), .val (.int p3), .val (.int (2 : Int32)), .val (.int (p2 - (1 : Int32)))] [(.int (xs.getD ((p2 - (1 : Int32))).toNatClampNeg 0)), (.int (2 : Int32)), (.ref a1)])) (fun t kz_ => X0.iaload hx (j := (p2 - (1 : Int32))) (v := (.int (xs.getD ((p2 - (1 : Int32))).toNatClampNeg 0))) (by rw [e0]; exact Ar65.1) (State.isArrayOf_alike hZ.alike Ar65.2.1) Ar65.2.2 hin65 hat65 (g := (mkF m 65 #[.val (.ref a1), .val (.int p2), .val (.int p3), .val (.int (2 : Int32)), .val (.int (p2 - (1 : Int32)))] [(.int (p2 - (1 : Int32))), (.ref a1), (.int (2 : Int32)), (.ref a1)])) rfl rfl (hb hby d5_65) _ kz_) ?_
          obtain ⟨⟨cl67, Ar67, q67, S67, Nn67, H67, G67⟩, Le67⟩ := id V1
          have hin67 : ¬ ((2 : Int32) < 0 ∨ cl67.slots.size ≤ ((2 : Int32)).toNatClampNeg) := inb_of S67 ⟨by decide, by decide⟩
          obtain ⟨T67, h67, X67, e67, W67, st67⟩ := stI X0 hx hZ e0 Ar67 (j := (2 : Int32)) hin67 (g := (mkF m 66 #[.val (.ref a1), .val (.int p2), .val (.int p3), .val (.int (2 : Int32)), .val (.int (p2 - (1 : Int32)))] [(.int (xs.getD ((p2 - (1 : Int32))).toNatClampNeg 0)), (.int (2 : Int32)), (.ref a1)])) rfl rfl (hb hby d5_66)
          have V67 : own_Ar Z h67 a1 k .int (4 : Int32) (List.map Value.int (xs.set ((2 : Int32)).toNatClampNeg (xs.getD ((p2 - (1 : Int32))).toNatClampNeg 0))) (.int (0 : Int32)) := own_Ar.setI Ar67 q67 S67 Nn67 H67 G67 rfl W67 hin67 Le67
          have K68 : Keep h0 h67 [a1] := Keep.wr K0 W67 (Or.inl (List.mem_of_getElem? (i := 0) rfl))
          have N68 := Fr.snoc X67 N0 g1
          refine own_via st67 ?_
          show own_G p.tables e below _ (T67.setTop (mkF m 67 #[.val (.ref a1), .val (.int p2), .val (.int p3), .val (.int (2 : Int32)), .val (.int (p2 - (1 : Int32)))] []))
          refine own_via (S' := T67.setTop (mkF m 69 #[.val (.ref a1), .val (.int p2), .val (.int p3), .val (.int (2 : Int32)), .val (.int (p2 - (1 : Int32)))] [(.int (p2 - (1 : Int32)))])) (fun t k => ?_) ?_
          · show Steps p.tables e below (T67.setTop (mkF m 67 #[.val (.ref a1), .val (.int p2), .val (.int p3), .val (.int (2 : Int32)), .val (.int (p2 - (1 : Int32)))] [])) t
            refine XS.iload X67.here hx rfl (hb hby d5_67) rfl ?_
            exact k
          have hS := own_rRp hp66 (by decide)
          exact own_end (h := h67) X67 (v := some (.int (p2 - (1 : Int32)))) Bd.notSynchronized (fun h => by rw [Bd.returns] at h; cases h) (fun fs hr => retOut X67 hx Bd.returns rfl (Or.inl ⟨rfl, Or.inl rfl, _, rfl⟩) (hb hby d5_69) hr) e67 ⟨_, hS.symm, rfl, N68, K68, V67⟩ (by decide) (by decide)
        · refine own_via (S' := s₁.setTop (mkF m 49 #[.val (.ref a1), .val (.int p2), .val (.int p3), .val (.int (-1 : Int32)), .unset] [])) (fun t k => XS.icmpYes (g := (mkF m 44 #[.val (.ref a1), .val (.int p2), .val (.int p3), .val (.int (-1 : Int32)), .unset] [(.int p3), (.int (xs.getD ((2 : Int32)).toNatClampNeg 0))])) X0.here hx rfl (pc0 := 44) (pc' := 49) rfl (hb hby d5_44) rfl (feq hc44_63).2 (by decide) (by decide) k) ?_
          refine own_via (S' := s₁.setTop (mkF m 50 #[.val (.ref a1), .val (.int p2), .val (.int p3), .val (.int (-1 : Int32)), .unset] [(.int (-1 : Int32))])) (fun t k => ?_) ?_
          · show Steps p.tables e below (s₁.setTop (mkF m 49 #[.val (.ref a1), .val (.int p2), .val (.int p3), .val (.int (-1 : Int32)), .unset] [])) t
            refine XS.iloadN X0.here hx rfl (hb hby d5_49) rfl ?_
            exact k
          refine own_via (S' := s₁.setTop (mkF m 53 #[.val (.ref a1), .val (.int p2), .val (.int p3), .val (.int (-1 : Int32)), .unset] [])) (fun t k => XS.ifNo (g := (mkF m 50 #[.val (.ref a1), .val (.int p2), .val (.int p3), .val (.int (-1 : Int32)), .unset] [(.int (-1 : Int32))])) X0.here hx rfl (hb hby d5_50) rfl ((if0 _ _).trans (tlt (by decide : (-1 : Int32) < (0 : Int32))).2.1) k) ?_
          refine own_via (S' := s₁.setTop (mkF m 54 #[.val (.ref a1), .val (.int p2), .val (.int p3), .val (.int (-1 : Int32)), .unset] [(.int p2)])) (fun t k => ?_) ?_
          · show Steps p.tables e below (s₁.setTop (mkF m 53 #[.val (.ref a1), .val (.int p2), .val (.int p3), .val (.int (-1 : Int32)), .unset] [])) t
            refine XS.iloadN X0.here hx rfl (hb hby d5_53) rfl ?_
            exact k
          have hp70 : own_rp xs p2 p3 = (-1 : Int32) := by unfold own_rp; rw [if_neg (fun q => hc3_1 q.1), if_neg (fun q => hc20_41 q.1), if_neg (fun q => hc44_63 q.2)]
          have hS := own_rRn hp70 (by decide)
          exact own_end (h := h0) X0 (v := some (.int p2)) Bd.notSynchronized (fun h => by rw [Bd.returns] at h; cases h) (fun fs hr => retOut X0 hx Bd.returns rfl (Or.inl ⟨rfl, Or.inl rfl, _, rfl⟩) (hb hby d5_54) hr) e0 ⟨_, hS.symm, rfl, N0, K0, V1⟩ (by decide) (by decide)
      · refine own_via (S' := s₁.setTop (mkF m 49 #[.val (.ref a1), .val (.int p2), .val (.int p3), .val (.int (-1 : Int32)), .unset] [])) (fun t k => XS.icmpYes (g := (mkF m 37 #[.val (.ref a1), .val (.int p2), .val (.int p3), .val (.int (-1 : Int32)), .unset] [(.int (2 : Int32)), (.int p2)])) X0.here hx rfl (pc0 := 37) (pc' := 49) rfl (hb hby d5_37) rfl (flt hc37_61).2.2.2 (by decide) (by decide) k) ?_
        refine own_via (S' := s₁.setTop (mkF m 50 #[.val (.ref a1), .val (.int p2), .val (.int p3), .val (.int (-1 : Int32)), .unset] [(.int (-1 : Int32))])) (fun t k => ?_) ?_
        · show Steps p.tables e below (s₁.setTop (mkF m 49 #[.val (.ref a1), .val (.int p2), .val (.int p3), .val (.int (-1 : Int32)), .unset] [])) t
          refine XS.iloadN X0.here hx rfl (hb hby d5_49) rfl ?_
          exact k
        refine own_via (S' := s₁.setTop (mkF m 53 #[.val (.ref a1), .val (.int p2), .val (.int p3), .val (.int (-1 : Int32)), .unset] [])) (fun t k => XS.ifNo (g := (mkF m 50 #[.val (.ref a1), .val (.int p2), .val (.int p3), .val (.int (-1 : Int32)), .unset] [(.int (-1 : Int32))])) X0.here hx rfl (hb hby d5_50) rfl ((if0 _ _).trans (tlt (by decide : (-1 : Int32) < (0 : Int32))).2.1) k) ?_
        refine own_via (S' := s₁.setTop (mkF m 54 #[.val (.ref a1), .val (.int p2), .val (.int p3), .val (.int (-1 : Int32)), .unset] [(.int p2)])) (fun t k => ?_) ?_
        · show Steps p.tables e below (s₁.setTop (mkF m 53 #[.val (.ref a1), .val (.int p2), .val (.int p3), .val (.int (-1 : Int32)), .unset] [])) t
          refine XS.iloadN X0.here hx rfl (hb hby d5_53) rfl ?_
          exact k
        have hp72 : own_rp xs p2 p3 = (-1 : Int32) := by unfold own_rp; rw [if_neg (fun q => hc3_1 q.1), if_neg (fun q => hc20_41 q.1), if_neg (fun q => hc37_61 q.1)]
        have hS := own_rRn hp72 (by decide)
        exact own_end (h := h0) X0 (v := some (.int p2)) Bd.notSynchronized (fun h => by rw [Bd.returns] at h; cases h) (fun fs hr => retOut X0 hx Bd.returns rfl (Or.inl ⟨rfl, Or.inl rfl, _, rfl⟩) (hb hby d5_54) hr) e0 ⟨_, hS.symm, rfl, N0, K0, V1⟩ (by decide) (by decide)
theorem pn0 : plainName "com/example/vendace/vendace/localrecoding/DenseSetRemovePinLaw" = true := by first | (simp [plainName, overriddenIn]; done) | decide +kernel
theorem pd_2 : parseMethodDescriptor "(I)V" = some ⟨[.int], none⟩ := by decide +kernel
theorem pd_3 : parseMethodDescriptor "([III)I" = some ⟨[(.array .int), .int, .int], some .int⟩ := by decide +kernel
theorem pd_4 : parseMethodDescriptor "()I" = some ⟨[], some .int⟩ := by decide +kernel
theorem pd_5 : parseMethodDescriptor "(I)I" = some ⟨[.int], some .int⟩ := by decide +kernel
theorem ef0 (m : MethodId) (x0 : Int32) (x1 : Int32) (x2 : Int32) (x3 : Int32) (x4 : Int32) (x5 : Int32) : entryFrame m #[(.int x0), (.int x1), (.int x2), (.int x3), (.int x4), (.int x5)] maxLocals = mkF m 0 #[.val (.int x0), .val (.int x1), .val (.int x2), .val (.int x3), .val (.int x4), .val (.int x5), .unset, .unset, .unset, .unset, .unset, .unset, .unset, .unset, .unset, .unset] [] := by first | (simp [entryFrame, mkF, argsToLocals, Value.category, maxLocals]; done) | rfl
def Q0 (Z : State) (p1 : Int32) (p2 : Int32) (p3 : Int32) (p4 : Int32) (p5 : Int32) (p6 : Int32) (h0 : Heap) (n0 : Nat) (v : Option Value) (h : Heap) (L : List Loc) : Prop := v = some (.int 1) ∧ Fr n0 L
set_option maxRecDepth 65536 in
set_option maxHeartbeats 40000000 in
theorem rm0 (l : Launch) (Z : State) (a0 : Array Value) (hw : ∀ d ∈ tables_1, d.before a0 Z = true) (ws : List Jvm.Cond) (p1 : Int32) (p2 : Int32) (p3 : Int32) (p4 : Int32) (p5 : Int32) (p6 : Int32) (h0 : Heap) (n0 : Nat) (Z0 : n0 ≤ h0.size) :
    MetFree l x (head1 (Jvm.Cond.code x code maxLocals ret :: ws) room_1) (fun a U => a = #[(.int p1), (.int p2), (.int p3), (.int p4), (.int p5), (.int p6)] ∧ Z.Warmed39 U.vm ∧ U.heap = h0) (fun _ _ _ _ _ => True) (fun _ U o U' => ∃ v L, o = .returned v ∧ Q0 Z p1 p2 p3 p4 p5 p6 h0 n0 v U'.heap L ∧ FrameEnd U o U' L 16 128) := by
  refine MetFree.of_bodySF (plainFor_of_name pn0) hisR ?_
  intro p e s m args below meth c s₁ Bd hml0 hP hK
  obtain ⟨rfl, hZ, hh⟩ := hP
  have hx := Bd.exec
  have hby := Bd.bytes
  have hml : c.maxLocals = 16 := hml0
  have hown : s.vm.findClass "com/example/vendace/vendace/localrecoding/DenseSetRemovePinLaw" = some m.cls := findClass_of_methodNamed Bd.named
  have hnm := (name_of_methodNamed Bd.named Bd.method).1
  have X0 : Stand p l e room_1 s m #[(.int p1), (.int p2), (.int p3), (.int p4), (.int p5), (.int p6)] below meth c s₁ [] 0 0 := Stand.of_body Bd
  have e0 : s₁.heap = h0 := by rw [← hh, Bd.state]; rfl
  have N0 := Fr.nil n0
  refine (show own_G p.tables e below (own_P s (Q0 Z p1 p2 p3 p4 p5 p6 h0 n0) 16 128) (s₁.setTop (entryFrame m #[(.int p1), (.int p2), (.int p3), (.int p4), (.int p5), (.int p6)] maxLocals)) from ?_)
  refine own_via (fun t k => castTop (ef0 m p1 p2 p3 p4 p5 p6) k) ?_
  show own_G p.tables e below _ (s₁.setTop (mkF m 0 #[.val (.int p1), .val (.int p2), .val (.int p3), .val (.int p4), .val (.int p5), .val (.int p6), .unset, .unset, .unset, .unset, .unset, .unset, .unset, .unset, .unset, .unset] []))
  have K0 := Keep.refl h0 []
  refine own_via (S' := s₁.setTop (mkF m 32 #[.val (.int p1), .val (.int p2), .val (.int p3), .val (.int p4), .val (.int p5), .val (.int p6), .val (.int (p1 &&& (3 : Int32))), .val (.int (p2 &&& (3 : Int32))), .val (.int (p3 &&& (3 : Int32))), .val (.int (p4 &&& (3 : Int32))), .val (.int (p5 &&& (3 : Int32))), .val (.int (p6 &&& (3 : Int32))), .unset, .unset, .unset, .unset] [])) (fun t k => ?_) ?_
  · show Steps p.tables e below (s₁.setTop (mkF m 0 #[.val (.int p1), .val (.int p2), .val (.int p3), .val (.int p4), .val (.int p5), .val (.int p6), .unset, .unset, .unset, .unset, .unset, .unset, .unset, .unset, .unset, .unset] [])) t
    refine XS.iloadN X0.here hx rfl (hb hby at_0) rfl ?_
    show Steps p.tables e below (s₁.setTop (mkF m 1 #[.val (.int p1), .val (.int p2), .val (.int p3), .val (.int p4), .val (.int p5), .val (.int p6), .unset, .unset, .unset, .unset, .unset, .unset, .unset, .unset, .unset, .unset] [(.int p1)])) t
    refine XS.iconst X0.here hx rfl (hb hby at_1) ?_
    show Steps p.tables e below (s₁.setTop (mkF m 2 #[.val (.int p1), .val (.int p2), .val (.int p3), .val (.int p4), .val (.int p5), .val (.int p6), .unset, .unset, .unset, .unset, .unset, .unset, .unset, .unset, .unset, .unset] [(.int (3 : Int32)), (.int p1)])) t
    refine XS.iand X0.here hx rfl (hb hby at_2) rfl ?_
    show Steps p.tables e below (s₁.setTop (mkF m 3 #[.val (.int p1), .val (.int p2), .val (.int p3), .val (.int p4), .val (.int p5), .val (.int p6), .unset, .unset, .unset, .unset, .unset, .unset, .unset, .unset, .unset, .unset] [(.int (p1 &&& (3 : Int32)))])) t
    refine XS.istore X0.here hx rfl (hb hby at_3) rfl (l' := #[.val (.int p1), .val (.int p2), .val (.int p3), .val (.int p4), .val (.int p5), .val (.int p6), .val (.int (p1 &&& (3 : Int32))), .unset, .unset, .unset, .unset, .unset, .unset, .unset, .unset, .unset]) rfl ?_
    show Steps p.tables e below (s₁.setTop (mkF m 5 #[.val (.int p1), .val (.int p2), .val (.int p3), .val (.int p4), .val (.int p5), .val (.int p6), .val (.int (p1 &&& (3 : Int32))), .unset, .unset, .unset, .unset, .unset, .unset, .unset, .unset, .unset] [])) t
    refine XS.iloadN X0.here hx rfl (hb hby at_5) rfl ?_
    show Steps p.tables e below (s₁.setTop (mkF m 6 #[.val (.int p1), .val (.int p2), .val (.int p3), .val (.int p4), .val (.int p5), .val (.int p6), .val (.int (p1 &&& (3 : Int32))), .unset, .unset, .unset, .unset, .unset, .unset, .unset, .unset, .unset] [(.int p2)])) t
    refine XS.iconst X0.here hx rfl (hb hby at_6) ?_
    show Steps p.tables e below (s₁.setTop (mkF m 7 #[.val (.int p1), .val (.int p2), .val (.int p3), .val (.int p4), .val (.int p5), .val (.int p6), .val (.int (p1 &&& (3 : Int32))), .unset, .unset, .unset, .unset, .unset, .unset, .unset, .unset, .unset] [(.int (3 : Int32)), (.int p2)])) t
    refine XS.iand X0.here hx rfl (hb hby at_7) rfl ?_
    show Steps p.tables e below (s₁.setTop (mkF m 8 #[.val (.int p1), .val (.int p2), .val (.int p3), .val (.int p4), .val (.int p5), .val (.int p6), .val (.int (p1 &&& (3 : Int32))), .unset, .unset, .unset, .unset, .unset, .unset, .unset, .unset, .unset] [(.int (p2 &&& (3 : Int32)))])) t
    refine XS.istore X0.here hx rfl (hb hby at_8) rfl (l' := #[.val (.int p1), .val (.int p2), .val (.int p3), .val (.int p4), .val (.int p5), .val (.int p6), .val (.int (p1 &&& (3 : Int32))), .val (.int (p2 &&& (3 : Int32))), .unset, .unset, .unset, .unset, .unset, .unset, .unset, .unset]) rfl ?_
    show Steps p.tables e below (s₁.setTop (mkF m 10 #[.val (.int p1), .val (.int p2), .val (.int p3), .val (.int p4), .val (.int p5), .val (.int p6), .val (.int (p1 &&& (3 : Int32))), .val (.int (p2 &&& (3 : Int32))), .unset, .unset, .unset, .unset, .unset, .unset, .unset, .unset] [])) t
    refine XS.iloadN X0.here hx rfl (hb hby at_10) rfl ?_
    show Steps p.tables e below (s₁.setTop (mkF m 11 #[.val (.int p1), .val (.int p2), .val (.int p3), .val (.int p4), .val (.int p5), .val (.int p6), .val (.int (p1 &&& (3 : Int32))), .val (.int (p2 &&& (3 : Int32))), .unset, .unset, .unset, .unset, .unset, .unset, .unset, .unset] [(.int p3)])) t
    refine XS.iconst X0.here hx rfl (hb hby at_11) ?_
    show Steps p.tables e below (s₁.setTop (mkF m 12 #[.val (.int p1), .val (.int p2), .val (.int p3), .val (.int p4), .val (.int p5), .val (.int p6), .val (.int (p1 &&& (3 : Int32))), .val (.int (p2 &&& (3 : Int32))), .unset, .unset, .unset, .unset, .unset, .unset, .unset, .unset] [(.int (3 : Int32)), (.int p3)])) t
    refine XS.iand X0.here hx rfl (hb hby at_12) rfl ?_
    show Steps p.tables e below (s₁.setTop (mkF m 13 #[.val (.int p1), .val (.int p2), .val (.int p3), .val (.int p4), .val (.int p5), .val (.int p6), .val (.int (p1 &&& (3 : Int32))), .val (.int (p2 &&& (3 : Int32))), .unset, .unset, .unset, .unset, .unset, .unset, .unset, .unset] [(.int (p3 &&& (3 : Int32)))])) t
    refine XS.istore X0.here hx rfl (hb hby at_13) rfl (l' := #[.val (.int p1), .val (.int p2), .val (.int p3), .val (.int p4), .val (.int p5), .val (.int p6), .val (.int (p1 &&& (3 : Int32))), .val (.int (p2 &&& (3 : Int32))), .val (.int (p3 &&& (3 : Int32))), .unset, .unset, .unset, .unset, .unset, .unset, .unset]) rfl ?_
    show Steps p.tables e below (s₁.setTop (mkF m 15 #[.val (.int p1), .val (.int p2), .val (.int p3), .val (.int p4), .val (.int p5), .val (.int p6), .val (.int (p1 &&& (3 : Int32))), .val (.int (p2 &&& (3 : Int32))), .val (.int (p3 &&& (3 : Int32))), .unset, .unset, .unset, .unset, .unset, .unset, .unset] [])) t
    refine XS.iloadN X0.here hx rfl (hb hby at_15) rfl ?_
    show Steps p.tables e below (s₁.setTop (mkF m 16 #[.val (.int p1), .val (.int p2), .val (.int p3), .val (.int p4), .val (.int p5), .val (.int p6), .val (.int (p1 &&& (3 : Int32))), .val (.int (p2 &&& (3 : Int32))), .val (.int (p3 &&& (3 : Int32))), .unset, .unset, .unset, .unset, .unset, .unset, .unset] [(.int p4)])) t
    refine XS.iconst X0.here hx rfl (hb hby at_16) ?_
    show Steps p.tables e below (s₁.setTop (mkF m 17 #[.val (.int p1), .val (.int p2), .val (.int p3), .val (.int p4), .val (.int p5), .val (.int p6), .val (.int (p1 &&& (3 : Int32))), .val (.int (p2 &&& (3 : Int32))), .val (.int (p3 &&& (3 : Int32))), .unset, .unset, .unset, .unset, .unset, .unset, .unset] [(.int (3 : Int32)), (.int p4)])) t
    refine XS.iand X0.here hx rfl (hb hby at_17) rfl ?_
    show Steps p.tables e below (s₁.setTop (mkF m 18 #[.val (.int p1), .val (.int p2), .val (.int p3), .val (.int p4), .val (.int p5), .val (.int p6), .val (.int (p1 &&& (3 : Int32))), .val (.int (p2 &&& (3 : Int32))), .val (.int (p3 &&& (3 : Int32))), .unset, .unset, .unset, .unset, .unset, .unset, .unset] [(.int (p4 &&& (3 : Int32)))])) t
    refine XS.istore X0.here hx rfl (hb hby at_18) rfl (l' := #[.val (.int p1), .val (.int p2), .val (.int p3), .val (.int p4), .val (.int p5), .val (.int p6), .val (.int (p1 &&& (3 : Int32))), .val (.int (p2 &&& (3 : Int32))), .val (.int (p3 &&& (3 : Int32))), .val (.int (p4 &&& (3 : Int32))), .unset, .unset, .unset, .unset, .unset, .unset]) rfl ?_
    show Steps p.tables e below (s₁.setTop (mkF m 20 #[.val (.int p1), .val (.int p2), .val (.int p3), .val (.int p4), .val (.int p5), .val (.int p6), .val (.int (p1 &&& (3 : Int32))), .val (.int (p2 &&& (3 : Int32))), .val (.int (p3 &&& (3 : Int32))), .val (.int (p4 &&& (3 : Int32))), .unset, .unset, .unset, .unset, .unset, .unset] [])) t
    refine XS.iload X0.here hx rfl (hb hby at_20) rfl ?_
    show Steps p.tables e below (s₁.setTop (mkF m 22 #[.val (.int p1), .val (.int p2), .val (.int p3), .val (.int p4), .val (.int p5), .val (.int p6), .val (.int (p1 &&& (3 : Int32))), .val (.int (p2 &&& (3 : Int32))), .val (.int (p3 &&& (3 : Int32))), .val (.int (p4 &&& (3 : Int32))), .unset, .unset, .unset, .unset, .unset, .unset] [(.int p5)])) t
    refine XS.iconst X0.here hx rfl (hb hby at_22) ?_
    show Steps p.tables e below (s₁.setTop (mkF m 23 #[.val (.int p1), .val (.int p2), .val (.int p3), .val (.int p4), .val (.int p5), .val (.int p6), .val (.int (p1 &&& (3 : Int32))), .val (.int (p2 &&& (3 : Int32))), .val (.int (p3 &&& (3 : Int32))), .val (.int (p4 &&& (3 : Int32))), .unset, .unset, .unset, .unset, .unset, .unset] [(.int (3 : Int32)), (.int p5)])) t
    refine XS.iand X0.here hx rfl (hb hby at_23) rfl ?_
    show Steps p.tables e below (s₁.setTop (mkF m 24 #[.val (.int p1), .val (.int p2), .val (.int p3), .val (.int p4), .val (.int p5), .val (.int p6), .val (.int (p1 &&& (3 : Int32))), .val (.int (p2 &&& (3 : Int32))), .val (.int (p3 &&& (3 : Int32))), .val (.int (p4 &&& (3 : Int32))), .unset, .unset, .unset, .unset, .unset, .unset] [(.int (p5 &&& (3 : Int32)))])) t
    refine XS.istore X0.here hx rfl (hb hby at_24) rfl (l' := #[.val (.int p1), .val (.int p2), .val (.int p3), .val (.int p4), .val (.int p5), .val (.int p6), .val (.int (p1 &&& (3 : Int32))), .val (.int (p2 &&& (3 : Int32))), .val (.int (p3 &&& (3 : Int32))), .val (.int (p4 &&& (3 : Int32))), .val (.int (p5 &&& (3 : Int32))), .unset, .unset, .unset, .unset, .unset]) rfl ?_
    show Steps p.tables e below (s₁.setTop (mkF m 26 #[.val (.int p1), .val (.int p2), .val (.int p3), .val (.int p4), .val (.int p5), .val (.int p6), .val (.int (p1 &&& (3 : Int32))), .val (.int (p2 &&& (3 : Int32))), .val (.int (p3 &&& (3 : Int32))), .val (.int (p4 &&& (3 : Int32))), .val (.int (p5 &&& (3 : Int32))), .unset, .unset, .unset, .unset, .unset] [])) t
    refine XS.iload X0.here hx rfl (hb hby at_26) rfl ?_
    show Steps p.tables e below (s₁.setTop (mkF m 28 #[.val (.int p1), .val (.int p2), .val (.int p3), .val (.int p4), .val (.int p5), .val (.int p6), .val (.int (p1 &&& (3 : Int32))), .val (.int (p2 &&& (3 : Int32))), .val (.int (p3 &&& (3 : Int32))), .val (.int (p4 &&& (3 : Int32))), .val (.int (p5 &&& (3 : Int32))), .unset, .unset, .unset, .unset, .unset] [(.int p6)])) t
    refine XS.iconst X0.here hx rfl (hb hby at_28) ?_
    show Steps p.tables e below (s₁.setTop (mkF m 29 #[.val (.int p1), .val (.int p2), .val (.int p3), .val (.int p4), .val (.int p5), .val (.int p6), .val (.int (p1 &&& (3 : Int32))), .val (.int (p2 &&& (3 : Int32))), .val (.int (p3 &&& (3 : Int32))), .val (.int (p4 &&& (3 : Int32))), .val (.int (p5 &&& (3 : Int32))), .unset, .unset, .unset, .unset, .unset] [(.int (3 : Int32)), (.int p6)])) t
    refine XS.iand X0.here hx rfl (hb hby at_29) rfl ?_
    show Steps p.tables e below (s₁.setTop (mkF m 30 #[.val (.int p1), .val (.int p2), .val (.int p3), .val (.int p4), .val (.int p5), .val (.int p6), .val (.int (p1 &&& (3 : Int32))), .val (.int (p2 &&& (3 : Int32))), .val (.int (p3 &&& (3 : Int32))), .val (.int (p4 &&& (3 : Int32))), .val (.int (p5 &&& (3 : Int32))), .unset, .unset, .unset, .unset, .unset] [(.int (p6 &&& (3 : Int32)))])) t
    refine XS.istore X0.here hx rfl (hb hby at_30) rfl (l' := #[.val (.int p1), .val (.int p2), .val (.int p3), .val (.int p4), .val (.int p5), .val (.int p6), .val (.int (p1 &&& (3 : Int32))), .val (.int (p2 &&& (3 : Int32))), .val (.int (p3 &&& (3 : Int32))), .val (.int (p4 &&& (3 : Int32))), .val (.int (p5 &&& (3 : Int32))), .val (.int (p6 &&& (3 : Int32))), .unset, .unset, .unset, .unset]) rfl ?_
    exact k
  obtain ⟨cc, hn_cc⟩ : ∃ z, z = (p1 &&& (3 : Int32)) := ⟨_, rfl⟩
  rw [← hn_cc]
  show own_G p.tables e below _ (s₁.setTop (mkF m 32 #[.val (.int p1), .val (.int p2), .val (.int p3), .val (.int p4), .val (.int p5), .val (.int p6), .val (.int cc), .val (.int (p2 &&& (3 : Int32))), .val (.int (p3 &&& (3 : Int32))), .val (.int (p4 &&& (3 : Int32))), .val (.int (p5 &&& (3 : Int32))), .val (.int (p6 &&& (3 : Int32))), .unset, .unset, .unset, .unset] []))
  have hd_cc : cc ∈ own_D := by rw [hn_cc]; exact own_inD _
  obtain ⟨xx, hn_xx⟩ : ∃ z, z = (p2 &&& (3 : Int32)) := ⟨_, rfl⟩
  rw [← hn_xx]
  show own_G p.tables e below _ (s₁.setTop (mkF m 32 #[.val (.int p1), .val (.int p2), .val (.int p3), .val (.int p4), .val (.int p5), .val (.int p6), .val (.int cc), .val (.int xx), .val (.int (p3 &&& (3 : Int32))), .val (.int (p4 &&& (3 : Int32))), .val (.int (p5 &&& (3 : Int32))), .val (.int (p6 &&& (3 : Int32))), .unset, .unset, .unset, .unset] []))
  have hd_xx : xx ∈ own_D := by rw [hn_xx]; exact own_inD _
  obtain ⟨yy, hn_yy⟩ : ∃ z, z = (p3 &&& (3 : Int32)) := ⟨_, rfl⟩
  rw [← hn_yy]
  show own_G p.tables e below _ (s₁.setTop (mkF m 32 #[.val (.int p1), .val (.int p2), .val (.int p3), .val (.int p4), .val (.int p5), .val (.int p6), .val (.int cc), .val (.int xx), .val (.int yy), .val (.int (p4 &&& (3 : Int32))), .val (.int (p5 &&& (3 : Int32))), .val (.int (p6 &&& (3 : Int32))), .unset, .unset, .unset, .unset] []))
  have hd_yy : yy ∈ own_D := by rw [hn_yy]; exact own_inD _
  obtain ⟨zz, hn_zz⟩ : ∃ z, z = (p4 &&& (3 : Int32)) := ⟨_, rfl⟩
  rw [← hn_zz]
  show own_G p.tables e below _ (s₁.setTop (mkF m 32 #[.val (.int p1), .val (.int p2), .val (.int p3), .val (.int p4), .val (.int p5), .val (.int p6), .val (.int cc), .val (.int xx), .val (.int yy), .val (.int zz), .val (.int (p5 &&& (3 : Int32))), .val (.int (p6 &&& (3 : Int32))), .unset, .unset, .unset, .unset] []))
  have hd_zz : zz ∈ own_D := by rw [hn_zz]; exact own_inD _
  obtain ⟨uu, hn_uu⟩ : ∃ z, z = (p5 &&& (3 : Int32)) := ⟨_, rfl⟩
  rw [← hn_uu]
  show own_G p.tables e below _ (s₁.setTop (mkF m 32 #[.val (.int p1), .val (.int p2), .val (.int p3), .val (.int p4), .val (.int p5), .val (.int p6), .val (.int cc), .val (.int xx), .val (.int yy), .val (.int zz), .val (.int uu), .val (.int (p6 &&& (3 : Int32))), .unset, .unset, .unset, .unset] []))
  have hd_uu : uu ∈ own_D := by rw [hn_uu]; exact own_inD _
  obtain ⟨tt, hn_tt⟩ : ∃ z, z = (p6 &&& (3 : Int32)) := ⟨_, rfl⟩
  rw [← hn_tt]
  show own_G p.tables e below _ (s₁.setTop (mkF m 32 #[.val (.int p1), .val (.int p2), .val (.int p3), .val (.int p4), .val (.int p5), .val (.int p6), .val (.int cc), .val (.int xx), .val (.int yy), .val (.int zz), .val (.int uu), .val (.int tt), .unset, .unset, .unset, .unset] []))
  have hd_tt : tt ∈ own_D := by rw [hn_tt]; exact own_inD _
  obtain ⟨T1, h1, X1, e1, E1, A1, D1, -, st1⟩ := newO X0 hx hZ hown (hw _ (List.mem_of_getElem? (i := 0) rfl)) (hw _ (List.mem_of_getElem? (i := 1) rfl)) (hw _ (List.mem_of_getElem? (i := 2) rfl)) e0 (g := (mkF m 32 #[.val (.int p1), .val (.int p2), .val (.int p3), .val (.int p4), .val (.int p5), .val (.int p6), .val (.int cc), .val (.int xx), .val (.int yy), .val (.int zz), .val (.int uu), .val (.int tt), .unset, .unset, .unset, .unset] [])) rfl (hb hby at_32) (by decide) (by decide)
  obtain ⟨b1, g1⟩ : ∃ z, z = h0.size := ⟨_, rfl⟩
  have g_b1 : n0 ≤ b1 := Nat.le_trans (Nat.le_trans Z0 K0.1) (Nat.le_of_eq g1.symm)
  have sz_b1 : h0.size ≤ b1 := Nat.le_trans K0.1 (Nat.le_of_eq g1.symm)
  rw [← g1] at A1 D1 st1
  have K1 : Keep h0 h1 [] := Keep.ext K0 E1
  have F_members_b1 : Fld Z h1 b1 "com/example/vendace/vendace/localrecoding/DenseSet" "members" "[I" .null := D1 (Or.inr (hw _ (List.mem_of_getElem? (i := 11) rfl))) (ty := (.array .int)) (by decide)
  have F_places_b1 : Fld Z h1 b1 "com/example/vendace/vendace/localrecoding/DenseSet" "places" "[I" .null := D1 (Or.inr (hw _ (List.mem_of_getElem? (i := 13) rfl))) (ty := (.array .int)) (by decide)
  have F_size_b1 : Fld Z h1 b1 "com/example/vendace/vendace/localrecoding/DenseSet" "size" "I" (.int (0 : Int32)) := D1 (Or.inl (hw _ (List.mem_of_getElem? (i := 33) rfl))) (ty := .int) (by decide)
  refine own_via st1 ?_
  show own_G p.tables e below _ (T1.setTop (mkF m 35 #[.val (.int p1), .val (.int p2), .val (.int p3), .val (.int p4), .val (.int p5), .val (.int p6), .val (.int cc), .val (.int xx), .val (.int yy), .val (.int zz), .val (.int uu), .val (.int tt), .unset, .unset, .unset, .unset] [(.ref b1)]))
  refine own_via (S' := T1.setTop (mkF m 37 #[.val (.int p1), .val (.int p2), .val (.int p3), .val (.int p4), .val (.int p5), .val (.int p6), .val (.int cc), .val (.int xx), .val (.int yy), .val (.int zz), .val (.int uu), .val (.int tt), .unset, .unset, .unset, .unset] [(.int (4 : Int32)), (.ref b1), (.ref b1)])) (fun t k => ?_) ?_
  · show Steps p.tables e below (T1.setTop (mkF m 35 #[.val (.int p1), .val (.int p2), .val (.int p3), .val (.int p4), .val (.int p5), .val (.int p6), .val (.int cc), .val (.int xx), .val (.int yy), .val (.int zz), .val (.int uu), .val (.int tt), .unset, .unset, .unset, .unset] [(.ref b1)])) t
    refine XS.dup X1.here hx rfl (hb hby at_35) rfl rfl ?_
    show Steps p.tables e below (T1.setTop (mkF m 36 #[.val (.int p1), .val (.int p2), .val (.int p3), .val (.int p4), .val (.int p5), .val (.int p6), .val (.int cc), .val (.int xx), .val (.int yy), .val (.int zz), .val (.int uu), .val (.int tt), .unset, .unset, .unset, .unset] [(.ref b1), (.ref b1)])) t
    refine XS.iconst X1.here hx rfl (hb hby at_36) ?_
    exact k
  obtain ⟨_, _, ⟨T2, L2, k2, n2⟩, -, X2, ⟨Lc2, hQ2, l2, y2, z2⟩, st2⟩ := X1.specialBack hx (y := (⟨"com/example/vendace/vendace/localrecoding/DenseSet", "<init>", "(I)V"⟩ : MethodName)) rfl hown (mvT hZ (hw _ (List.mem_of_getElem? (i := 3) rfl))) (mvT hZ (hw _ (List.mem_of_getElem? (i := 4) rfl))) (mvT hZ (hw _ (List.mem_of_getElem? (i := 5) rfl))) (by decide) (backOf (W := 1) (rm1 l Z a0 hw [] b1 (4 : Int32) h1 n0 (Nat.le_trans Z0 K1.1) F_members_b1 F_places_b1 F_size_b1 A1 g_b1 (by decide) (by decide)) hZ (hw _ (List.mem_of_getElem? (i := 5) rfl)) (hw _ (List.mem_of_getElem? (i := 2) rfl)) (by decide) (by decide)) (g := (mkF m 37 #[.val (.int p1), .val (.int p2), .val (.int p3), .val (.int p4), .val (.int p5), .val (.int p6), .val (.int cc), .val (.int xx), .val (.int yy), .val (.int zz), .val (.int uu), .val (.int tt), .unset, .unset, .unset, .unset] [(.int (4 : Int32)), (.ref b1), (.ref b1)])) rfl (by rw [hml]; rfl) (Steps.refl _) (a := b1) (argsL := [(.int (4 : Int32))]) (rest := [(.ref b1)]) (lenOf pd_2 rfl) rfl (by show 2 * 0 + _ ≤ _; exact Nat.le_of_eq rfl) (hb hby at_37) (fun _ _ => ⟨rfl, e1, (by decide : 1 + 2 ≤ _), (by decide : 3 + 8 ≤ _)⟩)
  dsimp only [Pt.U, Pt.locs, Pt.cells, Pt.slots] at X2 l2 y2 z2 st2 hQ2
  subst l2 y2 z2
  obtain ⟨rfl, Nq2, Kc2, bm2, bp2, km2, kp2, gm2, gp2, hm2, hp2, na2, nb2, nc2, DS2⟩ := hQ2
  have N2 := Fr.app N0 Nq2
  refine own_via (fun t k => st2.trans k) ?_
  show own_G p.tables e below _ (T2.setTop (mkF m 40 #[.val (.int p1), .val (.int p2), .val (.int p3), .val (.int p4), .val (.int p5), .val (.int p6), .val (.int cc), .val (.int xx), .val (.int yy), .val (.int zz), .val (.int uu), .val (.int tt), .unset, .unset, .unset, .unset] [(.ref b1)]))
  have K2 : Keep h0 T2.heap [] := Keep.trans K1 Kc2 (allS (Or.inr sz_b1) all0)
  obtain ⟨DE2, DM2, DP2, DZ2, DA2, DB2⟩ := id DS2
  have sm2 : h0.size ≤ bm2 := Nat.le_trans K1.1 hm2
  have sp2 : h0.size ≤ bp2 := Nat.le_trans K1.1 hp2
  refine own_via (S' := T2.setTop (mkF m 43 #[.val (.int p1), .val (.int p2), .val (.int p3), .val (.int p4), .val (.int p5), .val (.int p6), .val (.int cc), .val (.int xx), .val (.int yy), .val (.int zz), .val (.int uu), .val (.int tt), .val (.ref b1), .unset, .unset, .unset] [(.int (4 : Int32))])) (fun t k => ?_) ?_
  · show Steps p.tables e below (T2.setTop (mkF m 40 #[.val (.int p1), .val (.int p2), .val (.int p3), .val (.int p4), .val (.int p5), .val (.int p6), .val (.int cc), .val (.int xx), .val (.int yy), .val (.int zz), .val (.int uu), .val (.int tt), .unset, .unset, .unset, .unset] [(.ref b1)])) t
    refine XS.astore X2.here hx rfl (hb hby at_40) rfl rfl (l' := #[.val (.int p1), .val (.int p2), .val (.int p3), .val (.int p4), .val (.int p5), .val (.int p6), .val (.int cc), .val (.int xx), .val (.int yy), .val (.int zz), .val (.int uu), .val (.int tt), .val (.ref b1), .unset, .unset, .unset]) rfl ?_
    show Steps p.tables e below (T2.setTop (mkF m 42 #[.val (.int p1), .val (.int p2), .val (.int p3), .val (.int p4), .val (.int p5), .val (.int p6), .val (.int cc), .val (.int xx), .val (.int yy), .val (.int zz), .val (.int uu), .val (.int tt), .val (.ref b1), .unset, .unset, .unset] [])) t
    refine XS.iconst X2.here hx rfl (hb hby at_42) ?_
    exact k
  obtain ⟨T3, h3, k3, X3, e3, E3, A3, st3⟩ := newP X2 hx hZ (hw _ (List.mem_of_getElem? (i := 9) rfl)) rfl (g := (mkF m 43 #[.val (.int p1), .val (.int p2), .val (.int p3), .val (.int p4), .val (.int p5), .val (.int p6), .val (.int cc), .val (.int xx), .val (.int yy), .val (.int zz), .val (.int uu), .val (.int tt), .val (.ref b1), .unset, .unset, .unset] [(.int (4 : Int32))])) rfl (hb hby at_43) rfl (by decide) (cap := 4) (by decide) (by decide) (by decide) (by decide)
  obtain ⟨b3, g3⟩ : ∃ z, z = T2.heap.size := ⟨_, rfl⟩
  have ne_b1_b3 : b1 ≠ b3 := Nat.ne_of_lt (Nat.lt_of_lt_of_le (DE2).lt (Nat.le_of_eq g3.symm))
  have ne_bm2_b3 : bm2 ≠ b3 := Nat.ne_of_lt (Nat.lt_of_lt_of_le (DA2).lt (Nat.le_of_eq g3.symm))
  have ne_bp2_b3 : bp2 ≠ b3 := Nat.ne_of_lt (Nat.lt_of_lt_of_le (DB2).lt (Nat.le_of_eq g3.symm))
  have g_b3 : n0 ≤ b3 := Nat.le_trans (Nat.le_trans Z0 K2.1) (Nat.le_of_eq g3.symm)
  have sz_b3 : h0.size ≤ b3 := Nat.le_trans K2.1 (Nat.le_of_eq g3.symm)
  rw [← g3] at A3 st3
  have K3 : Keep h0 h3 [] := Keep.ext K2 E3
  have V_b3 : own_Ar Z h3 b3 k3 .int (4 : Int32) (List.map Value.int (List.replicate ((4 : Int32)).toNatClampNeg (0 : Int32))) (.int (0 : Int32)) := own_Ar.newI A3 (by decide)
  refine own_via st3 ?_
  show own_G p.tables e below _ (T3.setTop (mkF m 45 #[.val (.int p1), .val (.int p2), .val (.int p3), .val (.int p4), .val (.int p5), .val (.int p6), .val (.int cc), .val (.int xx), .val (.int yy), .val (.int zz), .val (.int uu), .val (.int tt), .val (.ref b1), .unset, .unset, .unset] [(.ref b3)]))
  refine own_via (S' := T3.setTop (mkF m 53 #[.val (.int p1), .val (.int p2), .val (.int p3), .val (.int p4), .val (.int p5), .val (.int p6), .val (.int cc), .val (.int xx), .val (.int yy), .val (.int zz), .val (.int uu), .val (.int tt), .val (.ref b1), .val (.ref b3), .val (.int (0 : Int32)), .unset] [(.int (1 : Int32)), (.int cc)])) (fun t k => ?_) ?_
  · show Steps p.tables e below (T3.setTop (mkF m 45 #[.val (.int p1), .val (.int p2), .val (.int p3), .val (.int p4), .val (.int p5), .val (.int p6), .val (.int cc), .val (.int xx), .val (.int yy), .val (.int zz), .val (.int uu), .val (.int tt), .val (.ref b1), .unset, .unset, .unset] [(.ref b3)])) t
    refine XS.astore X3.here hx rfl (hb hby at_45) rfl rfl (l' := #[.val (.int p1), .val (.int p2), .val (.int p3), .val (.int p4), .val (.int p5), .val (.int p6), .val (.int cc), .val (.int xx), .val (.int yy), .val (.int zz), .val (.int uu), .val (.int tt), .val (.ref b1), .val (.ref b3), .unset, .unset]) rfl ?_
    show Steps p.tables e below (T3.setTop (mkF m 47 #[.val (.int p1), .val (.int p2), .val (.int p3), .val (.int p4), .val (.int p5), .val (.int p6), .val (.int cc), .val (.int xx), .val (.int yy), .val (.int zz), .val (.int uu), .val (.int tt), .val (.ref b1), .val (.ref b3), .unset, .unset] [])) t
    refine XS.iconst X3.here hx rfl (hb hby at_47) ?_
    show Steps p.tables e below (T3.setTop (mkF m 48 #[.val (.int p1), .val (.int p2), .val (.int p3), .val (.int p4), .val (.int p5), .val (.int p6), .val (.int cc), .val (.int xx), .val (.int yy), .val (.int zz), .val (.int uu), .val (.int tt), .val (.ref b1), .val (.ref b3), .unset, .unset] [(.int (0 : Int32))])) t
    refine XS.istore X3.here hx rfl (hb hby at_48) rfl (l' := #[.val (.int p1), .val (.int p2), .val (.int p3), .val (.int p4), .val (.int p5), .val (.int p6), .val (.int cc), .val (.int xx), .val (.int yy), .val (.int zz), .val (.int uu), .val (.int tt), .val (.ref b1), .val (.ref b3), .val (.int (0 : Int32)), .unset]) rfl ?_
    show Steps p.tables e below (T3.setTop (mkF m 50 #[.val (.int p1), .val (.int p2), .val (.int p3), .val (.int p4), .val (.int p5), .val (.int p6), .val (.int cc), .val (.int xx), .val (.int yy), .val (.int zz), .val (.int uu), .val (.int tt), .val (.ref b1), .val (.ref b3), .val (.int (0 : Int32)), .unset] [])) t
    refine XS.iload X3.here hx rfl (hb hby at_50) rfl ?_
    show Steps p.tables e below (T3.setTop (mkF m 52 #[.val (.int p1), .val (.int p2), .val (.int p3), .val (.int p4), .val (.int p5), .val (.int p6), .val (.int cc), .val (.int xx), .val (.int yy), .val (.int zz), .val (.int uu), .val (.int tt), .val (.ref b1), .val (.ref b3), .val (.int (0 : Int32)), .unset] [(.int cc)])) t
    refine XS.iconst X3.here hx rfl (hb hby at_52) ?_
    exact k
  by_cases hc53_4 : cc < (1 : Int32)
  · refine own_via (S' := T3.setTop (mkF m 74 #[.val (.int p1), .val (.int p2), .val (.int p3), .val (.int p4), .val (.int p5), .val (.int p6), .val (.int cc), .val (.int xx), .val (.int yy), .val (.int zz), .val (.int uu), .val (.int tt), .val (.ref b1), .val (.ref b3), .val (.int (0 : Int32)), .unset] [])) (fun t k => XS.icmpYes (g := (mkF m 53 #[.val (.int p1), .val (.int p2), .val (.int p3), .val (.int p4), .val (.int p5), .val (.int p6), .val (.int cc), .val (.int xx), .val (.int yy), .val (.int zz), .val (.int uu), .val (.int tt), .val (.ref b1), .val (.ref b3), .val (.int (0 : Int32)), .unset] [(.int (1 : Int32)), (.int cc)])) X3.here hx rfl (pc0 := 53) (pc' := 74) rfl (hb hby at_53) rfl (tlt hc53_4).1 (by decide) (by decide) k) ?_
    refine own_via (S' := T3.setTop (mkF m 77 #[.val (.int p1), .val (.int p2), .val (.int p3), .val (.int p4), .val (.int p5), .val (.int p6), .val (.int cc), .val (.int xx), .val (.int yy), .val (.int zz), .val (.int uu), .val (.int tt), .val (.ref b1), .val (.ref b3), .val (.int (0 : Int32)), .unset] [(.int (2 : Int32)), (.int cc)])) (fun t k => ?_) ?_
    · show Steps p.tables e below (T3.setTop (mkF m 74 #[.val (.int p1), .val (.int p2), .val (.int p3), .val (.int p4), .val (.int p5), .val (.int p6), .val (.int cc), .val (.int xx), .val (.int yy), .val (.int zz), .val (.int uu), .val (.int tt), .val (.ref b1), .val (.ref b3), .val (.int (0 : Int32)), .unset] [])) t
      refine XS.iload X3.here hx rfl (hb hby at_74) rfl ?_
      show Steps p.tables e below (T3.setTop (mkF m 76 #[.val (.int p1), .val (.int p2), .val (.int p3), .val (.int p4), .val (.int p5), .val (.int p6), .val (.int cc), .val (.int xx), .val (.int yy), .val (.int zz), .val (.int uu), .val (.int tt), .val (.ref b1), .val (.ref b3), .val (.int (0 : Int32)), .unset] [(.int cc)])) t
      refine XS.iconst X3.here hx rfl (hb hby at_76) ?_
      exact k
    refine own_via (S' := T3.setTop (mkF m 98 #[.val (.int p1), .val (.int p2), .val (.int p3), .val (.int p4), .val (.int p5), .val (.int p6), .val (.int cc), .val (.int xx), .val (.int yy), .val (.int zz), .val (.int uu), .val (.int tt), .val (.ref b1), .val (.ref b3), .val (.int (0 : Int32)), .unset] [])) (fun t k => XS.icmpYes (g := (mkF m 77 #[.val (.int p1), .val (.int p2), .val (.int p3), .val (.int p4), .val (.int p5), .val (.int p6), .val (.int cc), .val (.int xx), .val (.int yy), .val (.int zz), .val (.int uu), .val (.int tt), .val (.ref b1), .val (.ref b3), .val (.int (0 : Int32)), .unset] [(.int (2 : Int32)), (.int cc)])) X3.here hx rfl (pc0 := 77) (pc' := 98) rfl (hb hby at_77) rfl (tlt (own_q12 hc53_4)).1 (by decide) (by decide) k) ?_
    refine own_via (S' := T3.setTop (mkF m 101 #[.val (.int p1), .val (.int p2), .val (.int p3), .val (.int p4), .val (.int p5), .val (.int p6), .val (.int cc), .val (.int xx), .val (.int yy), .val (.int zz), .val (.int uu), .val (.int tt), .val (.ref b1), .val (.ref b3), .val (.int (0 : Int32)), .unset] [(.int (3 : Int32)), (.int cc)])) (fun t k => ?_) ?_
    · show Steps p.tables e below (T3.setTop (mkF m 98 #[.val (.int p1), .val (.int p2), .val (.int p3), .val (.int p4), .val (.int p5), .val (.int p6), .val (.int cc), .val (.int xx), .val (.int yy), .val (.int zz), .val (.int uu), .val (.int tt), .val (.ref b1), .val (.ref b3), .val (.int (0 : Int32)), .unset] [])) t
      refine XS.iload X3.here hx rfl (hb hby at_98) rfl ?_
      show Steps p.tables e below (T3.setTop (mkF m 100 #[.val (.int p1), .val (.int p2), .val (.int p3), .val (.int p4), .val (.int p5), .val (.int p6), .val (.int cc), .val (.int xx), .val (.int yy), .val (.int zz), .val (.int uu), .val (.int tt), .val (.ref b1), .val (.ref b3), .val (.int (0 : Int32)), .unset] [(.int cc)])) t
      refine XS.iconst X3.here hx rfl (hb hby at_100) ?_
      exact k
    refine own_via (S' := T3.setTop (mkF m 122 #[.val (.int p1), .val (.int p2), .val (.int p3), .val (.int p4), .val (.int p5), .val (.int p6), .val (.int cc), .val (.int xx), .val (.int yy), .val (.int zz), .val (.int uu), .val (.int tt), .val (.ref b1), .val (.ref b3), .val (.int (0 : Int32)), .unset] [])) (fun t k => XS.icmpYes (g := (mkF m 101 #[.val (.int p1), .val (.int p2), .val (.int p3), .val (.int p4), .val (.int p5), .val (.int p6), .val (.int cc), .val (.int xx), .val (.int yy), .val (.int zz), .val (.int uu), .val (.int tt), .val (.ref b1), .val (.ref b3), .val (.int (0 : Int32)), .unset] [(.int (3 : Int32)), (.int cc)])) X3.here hx rfl (pc0 := 101) (pc' := 122) rfl (hb hby at_101) rfl (tlt (own_q13 hc53_4)).1 (by decide) (by decide) k) ?_
    refine own_via (S' := T3.setTop (mkF m 126 #[.val (.int p1), .val (.int p2), .val (.int p3), .val (.int p4), .val (.int p5), .val (.int p6), .val (.int cc), .val (.int xx), .val (.int yy), .val (.int zz), .val (.int uu), .val (.int tt), .val (.ref b1), .val (.ref b3), .val (.int (0 : Int32)), .unset] [(.int uu), (.ref b1)])) (fun t k => ?_) ?_
    · show Steps p.tables e below (T3.setTop (mkF m 122 #[.val (.int p1), .val (.int p2), .val (.int p3), .val (.int p4), .val (.int p5), .val (.int p6), .val (.int cc), .val (.int xx), .val (.int yy), .val (.int zz), .val (.int uu), .val (.int tt), .val (.ref b1), .val (.ref b3), .val (.int (0 : Int32)), .unset] [])) t
      refine XS.aload X3.here hx rfl (hb hby at_122) rfl rfl ?_
      show Steps p.tables e below (T3.setTop (mkF m 124 #[.val (.int p1), .val (.int p2), .val (.int p3), .val (.int p4), .val (.int p5), .val (.int p6), .val (.int cc), .val (.int xx), .val (.int yy), .val (.int zz), .val (.int uu), .val (.int tt), .val (.ref b1), .val (.ref b3), .val (.int (0 : Int32)), .unset] [(.ref b1)])) t
      refine XS.iload X3.here hx rfl (hb hby at_124) rfl ?_
      exact k
    have hk7 : own_chk (own_s0 (4 : Int32)) (own_m0, (0 : Int32)) uu tt := own_c0 uu hd_uu tt hd_tt
    obtain ⟨ka7, kb7, kc7, kd7, ke7⟩ := hk7
    have c8 := (Exa.ext E3 DE2)
    have c9 := (Fld.ext E3 DM2)
    have c10 := (Fld.ext E3 DP2)
    have c11 := (Fld.ext E3 DZ2)
    have c12 := (own_Ar.ext DA2 E3)
    have c13 := (own_Ar.ext DB2 E3)
    obtain ⟨cq14, kq14, q14a, q14b, q14c⟩ := isOf hZ e3 c8
    obtain ⟨_, _, ⟨T14, L14, k14, n14⟩, -, X14, ⟨Lc14, hQ14, l14, y14, z14⟩, st14⟩ := X3.virtualBack hx (y := (⟨"com/example/vendace/vendace/localrecoding/DenseSet", "remove", "(I)V"⟩ : MethodName)) (z := (⟨"com/example/vendace/vendace/localrecoding/DenseSet", "remove", "(I)V"⟩ : MethodName)) hown (mvT hZ (hw _ (List.mem_of_getElem? (i := 18) rfl))) (mvT hZ (hw _ (List.mem_of_getElem? (i := 19) rfl))) (notFace_of_selects (args := #[]) (mvT hZ (hw _ (List.mem_of_getElem? (i := 21) rfl)))) (mvT hZ (hw _ (List.mem_of_getElem? (i := 21) rfl))) (mvT hZ (hw _ (List.mem_of_getElem? (i := 20) rfl))) (by decide) (backOf (W := 0) (rm4 l Z a0 hw [] b1 uu bm2 bp2 km2 kp2 (4 : Int32) (own_s0 (4 : Int32)) h3 n0 (Nat.le_trans Z0 K3.1) ⟨c8, c9, c10, c11, c12, c13⟩ na2 nb2 nc2 g_b1 gm2 gp2 ka7) hZ (hw _ (List.mem_of_getElem? (i := 22) rfl)) (hw _ (List.mem_of_getElem? (i := 2) rfl)) (by decide) (by decide)) q14a q14c (g := (mkF m 126 #[.val (.int p1), .val (.int p2), .val (.int p3), .val (.int p4), .val (.int p5), .val (.int p6), .val (.int cc), .val (.int xx), .val (.int yy), .val (.int zz), .val (.int uu), .val (.int tt), .val (.ref b1), .val (.ref b3), .val (.int (0 : Int32)), .unset] [(.int uu), (.ref b1)])) rfl (by rw [hml]; rfl) (Steps.refl _) (argsL := [(.int uu)]) (rest := []) (lenOf pd_2 rfl) rfl (by show 2 * 0 + _ ≤ _; exact Nat.le_of_eq rfl) (hb hby at_126) (fun _ _ => ⟨rfl, e3, (by decide : 4 + 0 ≤ _), (by decide : 15 + 0 ≤ _)⟩)
    dsimp only [Pt.U, Pt.locs, Pt.cells, Pt.slots] at X14 l14 y14 z14 st14 hQ14
    subst l14 y14 z14
    obtain ⟨rfl, Nq14, Kc14, Sv14, hS14, DS14⟩ := hQ14
    have N14 := Fr.app N2 Nq14
    refine own_via (fun t k => st14.trans k) ?_
    show own_G p.tables e below _ (T14.setTop (mkF m 129 #[.val (.int p1), .val (.int p2), .val (.int p3), .val (.int p4), .val (.int p5), .val (.int p6), .val (.int cc), .val (.int xx), .val (.int yy), .val (.int zz), .val (.int uu), .val (.int tt), .val (.ref b1), .val (.ref b3), .val (.int (0 : Int32)), .unset] []))
    have K14 : Keep h0 T14.heap [] := Keep.trans K3 Kc14 (allS (Or.inr sz_b1) (allS (Or.inr sm2) (allS (Or.inr sp2) all0)))
    obtain ⟨DE14, DM14, DP14, DZ14, DA14, DB14⟩ := id DS14
    rw [← hS14] at kc7 ke7
    refine own_via (S' := T14.setTop (mkF m 135 #[.val (.int p1), .val (.int p2), .val (.int p3), .val (.int p4), .val (.int p5), .val (.int p6), .val (.int cc), .val (.int xx), .val (.int yy), .val (.int zz), .val (.int uu), .val (.int tt), .val (.ref b1), .val (.ref b3), .val (.int (0 : Int32)), .unset] [(.int uu), (.int (0 : Int32)), (.ref b3)])) (fun t k => ?_) ?_
    · show Steps p.tables e below (T14.setTop (mkF m 129 #[.val (.int p1), .val (.int p2), .val (.int p3), .val (.int p4), .val (.int p5), .val (.int p6), .val (.int cc), .val (.int xx), .val (.int yy), .val (.int zz), .val (.int uu), .val (.int tt), .val (.ref b1), .val (.ref b3), .val (.int (0 : Int32)), .unset] [])) t
      refine XS.aload X14.here hx rfl (hb hby at_129) rfl rfl ?_
      show Steps p.tables e below (T14.setTop (mkF m 131 #[.val (.int p1), .val (.int p2), .val (.int p3), .val (.int p4), .val (.int p5), .val (.int p6), .val (.int cc), .val (.int xx), .val (.int yy), .val (.int zz), .val (.int uu), .val (.int tt), .val (.ref b1), .val (.ref b3), .val (.int (0 : Int32)), .unset] [(.ref b3)])) t
      refine XS.iload X14.here hx rfl (hb hby at_131) rfl ?_
      show Steps p.tables e below (T14.setTop (mkF m 133 #[.val (.int p1), .val (.int p2), .val (.int p3), .val (.int p4), .val (.int p5), .val (.int p6), .val (.int cc), .val (.int xx), .val (.int yy), .val (.int zz), .val (.int uu), .val (.int tt), .val (.ref b1), .val (.ref b3), .val (.int (0 : Int32)), .unset] [(.int (0 : Int32)), (.ref b3)])) t
      refine XS.iload X14.here hx rfl (hb hby at_133) rfl ?_
      exact k
    have c15 := (own_Ar.keep V_b3 Kc14 (ninS (Ne.symm ne_b1_b3) (ninS (Ne.symm ne_bm2_b3) (ninS (Ne.symm ne_bp2_b3) nin0))))
    obtain ⟨_, _, ⟨T16, L16, k16, n16⟩, -, X16, ⟨Lc16, hQ16, l16, y16, z16⟩, st16⟩ := Jvm.LawKit.callS X14 hx (y := (⟨"com/example/vendace/vendace/localrecoding/DenseSetRemovePinLaw", "refRemove", "([III)I"⟩ : MethodName)) hown (mvT hZ (hw _ (List.mem_of_getElem? (i := 23) rfl))) (mvT hZ (hw _ (List.mem_of_getElem? (i := 24) rfl))) (mvT hZ (hw _ (List.mem_of_getElem? (i := 25) rfl))) (mvT hZ (hw _ (List.mem_of_getElem? (i := 26) rfl))) (by decide) (backOf (W := 0) (rm5 l Z a0 hw [] b3 (0 : Int32) uu k3 (List.replicate ((4 : Int32)).toNatClampNeg (0 : Int32)) T14.heap n0 (Nat.le_trans Z0 K14.1) c15 g_b3 kb7) hZ (hw _ (List.mem_of_getElem? (i := 26) rfl)) (hw _ (List.mem_of_getElem? (i := 25) rfl)) (by decide) (by decide)) (g := (mkF m 135 #[.val (.int p1), .val (.int p2), .val (.int p3), .val (.int p4), .val (.int p5), .val (.int p6), .val (.int cc), .val (.int xx), .val (.int yy), .val (.int zz), .val (.int uu), .val (.int tt), .val (.ref b1), .val (.ref b3), .val (.int (0 : Int32)), .unset] [(.int uu), (.int (0 : Int32)), (.ref b3)])) rfl (by rw [hml]; rfl) (argsL := [(.ref b3), (.int (0 : Int32)), (.int uu)]) (rest := []) (lenOf pd_3 rfl) rfl (by show 2 * 0 + _ ≤ _; exact Nat.le_of_eq rfl) (hb hby at_135) (fun _ _ => ⟨rfl, rfl, (by decide : 4 + 0 ≤ _), (by decide : 15 + 0 ≤ _)⟩)
    dsimp only [Pt.U, Pt.locs, Pt.cells, Pt.slots] at X16 l16 y16 z16 st16 hQ16
    subst l16 y16 z16
    obtain ⟨Rv16, hR16, rfl, Nq16, Kc16, Vc16⟩ := hQ16
    have N16 := Fr.app N14 Nq16
    refine own_via st16 ?_
    show own_G p.tables e below _ (T16.setTop (mkF m 138 #[.val (.int p1), .val (.int p2), .val (.int p3), .val (.int p4), .val (.int p5), .val (.int p6), .val (.int cc), .val (.int xx), .val (.int yy), .val (.int zz), .val (.int uu), .val (.int tt), .val (.ref b1), .val (.ref b3), .val (.int (0 : Int32)), .unset] [(.int Rv16.2)]))
    have K16 : Keep h0 T16.heap [] := Keep.trans K14 Kc16 (allS (Or.inr sz_b3) all0)
    rw [← hR16] at kd7 ke7
    refine own_via (S' := T16.setTop (mkF m 144 #[.val (.int p1), .val (.int p2), .val (.int p3), .val (.int p4), .val (.int p5), .val (.int p6), .val (.int cc), .val (.int xx), .val (.int yy), .val (.int zz), .val (.int uu), .val (.int tt), .val (.ref b1), .val (.ref b3), .val (.int Rv16.2), .unset] [(.int tt), (.ref b1)])) (fun t k => ?_) ?_
    · show Steps p.tables e below (T16.setTop (mkF m 138 #[.val (.int p1), .val (.int p2), .val (.int p3), .val (.int p4), .val (.int p5), .val (.int p6), .val (.int cc), .val (.int xx), .val (.int yy), .val (.int zz), .val (.int uu), .val (.int tt), .val (.ref b1), .val (.ref b3), .val (.int (0 : Int32)), .unset] [(.int Rv16.2)])) t
      refine XS.istore X16.here hx rfl (hb hby at_138) rfl (l' := #[.val (.int p1), .val (.int p2), .val (.int p3), .val (.int p4), .val (.int p5), .val (.int p6), .val (.int cc), .val (.int xx), .val (.int yy), .val (.int zz), .val (.int uu), .val (.int tt), .val (.ref b1), .val (.ref b3), .val (.int Rv16.2), .unset]) rfl ?_
      show Steps p.tables e below (T16.setTop (mkF m 140 #[.val (.int p1), .val (.int p2), .val (.int p3), .val (.int p4), .val (.int p5), .val (.int p6), .val (.int cc), .val (.int xx), .val (.int yy), .val (.int zz), .val (.int uu), .val (.int tt), .val (.ref b1), .val (.ref b3), .val (.int Rv16.2), .unset] [])) t
      refine XS.aload X16.here hx rfl (hb hby at_140) rfl rfl ?_
      show Steps p.tables e below (T16.setTop (mkF m 142 #[.val (.int p1), .val (.int p2), .val (.int p3), .val (.int p4), .val (.int p5), .val (.int p6), .val (.int cc), .val (.int xx), .val (.int yy), .val (.int zz), .val (.int uu), .val (.int tt), .val (.ref b1), .val (.ref b3), .val (.int Rv16.2), .unset] [(.ref b1)])) t
      refine XS.iload X16.here hx rfl (hb hby at_142) rfl ?_
      exact k
    have c17 := (Exa.keep DE14 Kc16)
    have c18 := (Fld.keep DM14 Kc16 (ninS ne_b1_b3 nin0))
    have c19 := (Fld.keep DP14 Kc16 (ninS ne_b1_b3 nin0))
    have c20 := (Fld.keep DZ14 Kc16 (ninS ne_b1_b3 nin0))
    have c21 := (own_Ar.keep DA14 Kc16 (ninS ne_bm2_b3 nin0))
    have c22 := (own_Ar.keep DB14 Kc16 (ninS ne_bp2_b3 nin0))
    obtain ⟨cq23, kq23, q23a, q23b, q23c⟩ := isOf hZ rfl c17
    obtain ⟨_, _, ⟨T23, L23, k23, n23⟩, -, X23, ⟨Lc23, hQ23, l23, y23, z23⟩, st23⟩ := X16.virtualBack hx (y := (⟨"com/example/vendace/vendace/localrecoding/DenseSet", "remove", "(I)V"⟩ : MethodName)) (z := (⟨"com/example/vendace/vendace/localrecoding/DenseSet", "remove", "(I)V"⟩ : MethodName)) hown (mvT hZ (hw _ (List.mem_of_getElem? (i := 18) rfl))) (mvT hZ (hw _ (List.mem_of_getElem? (i := 19) rfl))) (notFace_of_selects (args := #[]) (mvT hZ (hw _ (List.mem_of_getElem? (i := 21) rfl)))) (mvT hZ (hw _ (List.mem_of_getElem? (i := 21) rfl))) (mvT hZ (hw _ (List.mem_of_getElem? (i := 20) rfl))) (by decide) (backOf (W := 0) (rm4 l Z a0 hw [] b1 tt bm2 bp2 km2 kp2 (4 : Int32) Sv14 T16.heap n0 (Nat.le_trans Z0 K16.1) ⟨c17, c18, c19, c20, c21, c22⟩ na2 nb2 nc2 g_b1 gm2 gp2 kc7) hZ (hw _ (List.mem_of_getElem? (i := 22) rfl)) (hw _ (List.mem_of_getElem? (i := 2) rfl)) (by decide) (by decide)) q23a q23c (g := (mkF m 144 #[.val (.int p1), .val (.int p2), .val (.int p3), .val (.int p4), .val (.int p5), .val (.int p6), .val (.int cc), .val (.int xx), .val (.int yy), .val (.int zz), .val (.int uu), .val (.int tt), .val (.ref b1), .val (.ref b3), .val (.int Rv16.2), .unset] [(.int tt), (.ref b1)])) rfl (by rw [hml]; rfl) (Steps.refl _) (argsL := [(.int tt)]) (rest := []) (lenOf pd_2 rfl) rfl (by show 2 * 0 + _ ≤ _; exact Nat.le_of_eq rfl) (hb hby at_144) (fun _ _ => ⟨rfl, rfl, (by decide : 4 + 0 ≤ _), (by decide : 15 + 0 ≤ _)⟩)
    dsimp only [Pt.U, Pt.locs, Pt.cells, Pt.slots] at X23 l23 y23 z23 st23 hQ23
    subst l23 y23 z23
    obtain ⟨rfl, Nq23, Kc23, Sv23, hS23, DS23⟩ := hQ23
    have N23 := Fr.app N16 Nq23
    refine own_via (fun t k => st23.trans k) ?_
    show own_G p.tables e below _ (T23.setTop (mkF m 147 #[.val (.int p1), .val (.int p2), .val (.int p3), .val (.int p4), .val (.int p5), .val (.int p6), .val (.int cc), .val (.int xx), .val (.int yy), .val (.int zz), .val (.int uu), .val (.int tt), .val (.ref b1), .val (.ref b3), .val (.int Rv16.2), .unset] []))
    have K23 : Keep h0 T23.heap [] := Keep.trans K16 Kc23 (allS (Or.inr sz_b1) (allS (Or.inr sm2) (allS (Or.inr sp2) all0)))
    obtain ⟨DE23, DM23, DP23, DZ23, DA23, DB23⟩ := id DS23
    rw [← hS23] at ke7
    refine own_via (S' := T23.setTop (mkF m 153 #[.val (.int p1), .val (.int p2), .val (.int p3), .val (.int p4), .val (.int p5), .val (.int p6), .val (.int cc), .val (.int xx), .val (.int yy), .val (.int zz), .val (.int uu), .val (.int tt), .val (.ref b1), .val (.ref b3), .val (.int Rv16.2), .unset] [(.int tt), (.int Rv16.2), (.ref b3)])) (fun t k => ?_) ?_
    · show Steps p.tables e below (T23.setTop (mkF m 147 #[.val (.int p1), .val (.int p2), .val (.int p3), .val (.int p4), .val (.int p5), .val (.int p6), .val (.int cc), .val (.int xx), .val (.int yy), .val (.int zz), .val (.int uu), .val (.int tt), .val (.ref b1), .val (.ref b3), .val (.int Rv16.2), .unset] [])) t
      refine XS.aload X23.here hx rfl (hb hby at_147) rfl rfl ?_
      show Steps p.tables e below (T23.setTop (mkF m 149 #[.val (.int p1), .val (.int p2), .val (.int p3), .val (.int p4), .val (.int p5), .val (.int p6), .val (.int cc), .val (.int xx), .val (.int yy), .val (.int zz), .val (.int uu), .val (.int tt), .val (.ref b1), .val (.ref b3), .val (.int Rv16.2), .unset] [(.ref b3)])) t
      refine XS.iload X23.here hx rfl (hb hby at_149) rfl ?_
      show Steps p.tables e below (T23.setTop (mkF m 151 #[.val (.int p1), .val (.int p2), .val (.int p3), .val (.int p4), .val (.int p5), .val (.int p6), .val (.int cc), .val (.int xx), .val (.int yy), .val (.int zz), .val (.int uu), .val (.int tt), .val (.ref b1), .val (.ref b3), .val (.int Rv16.2), .unset] [(.int Rv16.2), (.ref b3)])) t
      refine XS.iload X23.here hx rfl (hb hby at_151) rfl ?_
      exact k
    have c24 := (own_Ar.keep Vc16 Kc23 (ninS (Ne.symm ne_b1_b3) (ninS (Ne.symm ne_bm2_b3) (ninS (Ne.symm ne_bp2_b3) nin0))))
    obtain ⟨_, _, ⟨T25, L25, k25, n25⟩, -, X25, ⟨Lc25, hQ25, l25, y25, z25⟩, st25⟩ := Jvm.LawKit.callS X23 hx (y := (⟨"com/example/vendace/vendace/localrecoding/DenseSetRemovePinLaw", "refRemove", "([III)I"⟩ : MethodName)) hown (mvT hZ (hw _ (List.mem_of_getElem? (i := 23) rfl))) (mvT hZ (hw _ (List.mem_of_getElem? (i := 24) rfl))) (mvT hZ (hw _ (List.mem_of_getElem? (i := 25) rfl))) (mvT hZ (hw _ (List.mem_of_getElem? (i := 26) rfl))) (by decide) (backOf (W := 0) (rm5 l Z a0 hw [] b3 Rv16.2 tt k3 Rv16.1 T23.heap n0 (Nat.le_trans Z0 K23.1) c24 g_b3 kd7) hZ (hw _ (List.mem_of_getElem? (i := 26) rfl)) (hw _ (List.mem_of_getElem? (i := 25) rfl)) (by decide) (by decide)) (g := (mkF m 153 #[.val (.int p1), .val (.int p2), .val (.int p3), .val (.int p4), .val (.int p5), .val (.int p6), .val (.int cc), .val (.int xx), .val (.int yy), .val (.int zz), .val (.int uu), .val (.int tt), .val (.ref b1), .val (.ref b3), .val (.int Rv16.2), .unset] [(.int tt), (.int Rv16.2), (.ref b3)])) rfl (by rw [hml]; rfl) (argsL := [(.ref b3), (.int Rv16.2), (.int tt)]) (rest := []) (lenOf pd_3 rfl) rfl (by show 2 * 0 + _ ≤ _; exact Nat.le_of_eq rfl) (hb hby at_153) (fun _ _ => ⟨rfl, rfl, (by decide : 4 + 0 ≤ _), (by decide : 15 + 0 ≤ _)⟩)
    dsimp only [Pt.U, Pt.locs, Pt.cells, Pt.slots] at X25 l25 y25 z25 st25 hQ25
    subst l25 y25 z25
    obtain ⟨Rv25, hR25, rfl, Nq25, Kc25, Vc25⟩ := hQ25
    have N25 := Fr.app N23 Nq25
    refine own_via st25 ?_
    show own_G p.tables e below _ (T25.setTop (mkF m 156 #[.val (.int p1), .val (.int p2), .val (.int p3), .val (.int p4), .val (.int p5), .val (.int p6), .val (.int cc), .val (.int xx), .val (.int yy), .val (.int zz), .val (.int uu), .val (.int tt), .val (.ref b1), .val (.ref b3), .val (.int Rv16.2), .unset] [(.int Rv25.2)]))
    have K25 : Keep h0 T25.heap [] := Keep.trans K23 Kc25 (allS (Or.inr sz_b3) all0)
    rw [← hR25] at ke7
    obtain ⟨ea7, eb7, ec7, ed7⟩ := ke7
    refine own_via (S' := T25.setTop (mkF m 160 #[.val (.int p1), .val (.int p2), .val (.int p3), .val (.int p4), .val (.int p5), .val (.int p6), .val (.int cc), .val (.int xx), .val (.int yy), .val (.int zz), .val (.int uu), .val (.int tt), .val (.ref b1), .val (.ref b3), .val (.int Rv25.2), .unset] [(.ref b1)])) (fun t k => ?_) ?_
    · show Steps p.tables e below (T25.setTop (mkF m 156 #[.val (.int p1), .val (.int p2), .val (.int p3), .val (.int p4), .val (.int p5), .val (.int p6), .val (.int cc), .val (.int xx), .val (.int yy), .val (.int zz), .val (.int uu), .val (.int tt), .val (.ref b1), .val (.ref b3), .val (.int Rv16.2), .unset] [(.int Rv25.2)])) t
      refine XS.istore X25.here hx rfl (hb hby at_156) rfl (l' := #[.val (.int p1), .val (.int p2), .val (.int p3), .val (.int p4), .val (.int p5), .val (.int p6), .val (.int cc), .val (.int xx), .val (.int yy), .val (.int zz), .val (.int uu), .val (.int tt), .val (.ref b1), .val (.ref b3), .val (.int Rv25.2), .unset]) rfl ?_
      show Steps p.tables e below (T25.setTop (mkF m 158 #[.val (.int p1), .val (.int p2), .val (.int p3), .val (.int p4), .val (.int p5), .val (.int p6), .val (.int cc), .val (.int xx), .val (.int yy), .val (.int zz), .val (.int uu), .val (.int tt), .val (.ref b1), .val (.ref b3), .val (.int Rv25.2), .unset] [])) t
      refine XS.aload X25.here hx rfl (hb hby at_158) rfl rfl ?_
      exact k
    have c26 := (Fld.keep DZ23 Kc25 (ninS ne_b1_b3 nin0))
    have c28 := (Exa.keep DE23 Kc25)
    obtain ⟨cq27, kq27, q27a, q27b, q27c⟩ := isOf hZ rfl c28
    obtain ⟨_, _, ⟨T27, L27, k27, n27⟩, -, X27, ⟨Lc27, hQ27, l27, y27, z27⟩, st27⟩ := X25.virtualBack hx (y := (⟨"com/example/vendace/vendace/localrecoding/DenseSet", "size", "()I"⟩ : MethodName)) (z := (⟨"com/example/vendace/vendace/localrecoding/DenseSet", "size", "()I"⟩ : MethodName)) hown (mvT hZ (hw _ (List.mem_of_getElem? (i := 27) rfl))) (mvT hZ (hw _ (List.mem_of_getElem? (i := 28) rfl))) (notFace_of_selects (args := #[]) (mvT hZ (hw _ (List.mem_of_getElem? (i := 30) rfl)))) (mvT hZ (hw _ (List.mem_of_getElem? (i := 30) rfl))) (mvT hZ (hw _ (List.mem_of_getElem? (i := 29) rfl))) (by decide) (backOf (W := 0) (rm6 l Z a0 hw [] b1 Sv23.2.2 T25.heap n0 (Nat.le_trans Z0 K25.1) c26) hZ (hw _ (List.mem_of_getElem? (i := 31) rfl)) (hw _ (List.mem_of_getElem? (i := 2) rfl)) (by decide) (by decide)) q27a q27c (g := (mkF m 160 #[.val (.int p1), .val (.int p2), .val (.int p3), .val (.int p4), .val (.int p5), .val (.int p6), .val (.int cc), .val (.int xx), .val (.int yy), .val (.int zz), .val (.int uu), .val (.int tt), .val (.ref b1), .val (.ref b3), .val (.int Rv25.2), .unset] [(.ref b1)])) rfl (by rw [hml]; rfl) (Steps.refl _) (argsL := []) (rest := []) (lenOf pd_4 rfl) rfl (by show 2 * 0 + _ ≤ _; exact Nat.le_of_eq rfl) (hb hby at_160) (fun _ _ => ⟨rfl, rfl, (by decide : 4 + 0 ≤ _), (by decide : 15 + 0 ≤ _)⟩)
    dsimp only [Pt.U, Pt.locs, Pt.cells, Pt.slots] at X27 l27 y27 z27 st27 hQ27
    subst l27 y27 z27
    obtain ⟨rfl, Nq27, hh27⟩ := hQ27
    have N27 := Fr.app N25 Nq27
    refine own_via (fun t k => st27.trans k) ?_
    show own_G p.tables e below _ (T27.setTop (mkF m 163 #[.val (.int p1), .val (.int p2), .val (.int p3), .val (.int p4), .val (.int p5), .val (.int p6), .val (.int cc), .val (.int xx), .val (.int yy), .val (.int zz), .val (.int uu), .val (.int tt), .val (.ref b1), .val (.ref b3), .val (.int Rv25.2), .unset] [(.int Sv23.2.2)]))
    refine own_via (S' := T27.setTop (mkF m 165 #[.val (.int p1), .val (.int p2), .val (.int p3), .val (.int p4), .val (.int p5), .val (.int p6), .val (.int cc), .val (.int xx), .val (.int yy), .val (.int zz), .val (.int uu), .val (.int tt), .val (.ref b1), .val (.ref b3), .val (.int Rv25.2), .unset] [(.int Rv25.2), (.int Sv23.2.2)])) (fun t k => ?_) ?_
    · show Steps p.tables e below (T27.setTop (mkF m 163 #[.val (.int p1), .val (.int p2), .val (.int p3), .val (.int p4), .val (.int p5), .val (.int p6), .val (.int cc), .val (.int xx), .val (.int yy), .val (.int zz), .val (.int uu), .val (.int tt), .val (.ref b1), .val (.ref b3), .val (.int Rv25.2), .unset] [(.int Sv23.2.2)])) t
      refine XS.iload X27.here hx rfl (hb hby at_163) rfl ?_
      exact k
    refine own_via (S' := T27.setTop (mkF m 170 #[.val (.int p1), .val (.int p2), .val (.int p3), .val (.int p4), .val (.int p5), .val (.int p6), .val (.int cc), .val (.int xx), .val (.int yy), .val (.int zz), .val (.int uu), .val (.int tt), .val (.ref b1), .val (.ref b3), .val (.int Rv25.2), .unset] [])) (fun t k => XS.icmpYes (g := (mkF m 165 #[.val (.int p1), .val (.int p2), .val (.int p3), .val (.int p4), .val (.int p5), .val (.int p6), .val (.int cc), .val (.int xx), .val (.int yy), .val (.int zz), .val (.int uu), .val (.int tt), .val (.ref b1), .val (.ref b3), .val (.int Rv25.2), .unset] [(.int Rv25.2), (.int Sv23.2.2)])) X27.here hx rfl (pc0 := 165) (pc' := 170) rfl (hb hby at_165) rfl (teq ea7).1 (by decide) (by decide) k) ?_
    refine own_via (S' := T27.setTop (mkF m 175 #[.val (.int p1), .val (.int p2), .val (.int p3), .val (.int p4), .val (.int p5), .val (.int p6), .val (.int cc), .val (.int xx), .val (.int yy), .val (.int zz), .val (.int uu), .val (.int tt), .val (.ref b1), .val (.ref b3), .val (.int Rv25.2), .val (.int (1 : Int32))] [(.int Rv25.2)])) (fun t k => ?_) ?_
    · show Steps p.tables e below (T27.setTop (mkF m 170 #[.val (.int p1), .val (.int p2), .val (.int p3), .val (.int p4), .val (.int p5), .val (.int p6), .val (.int cc), .val (.int xx), .val (.int yy), .val (.int zz), .val (.int uu), .val (.int tt), .val (.ref b1), .val (.ref b3), .val (.int Rv25.2), .unset] [])) t
      refine XS.iconst X27.here hx rfl (hb hby at_170) ?_
      show Steps p.tables e below (T27.setTop (mkF m 171 #[.val (.int p1), .val (.int p2), .val (.int p3), .val (.int p4), .val (.int p5), .val (.int p6), .val (.int cc), .val (.int xx), .val (.int yy), .val (.int zz), .val (.int uu), .val (.int tt), .val (.ref b1), .val (.ref b3), .val (.int Rv25.2), .unset] [(.int (1 : Int32))])) t
      refine XS.istore X27.here hx rfl (hb hby at_171) rfl (l' := #[.val (.int p1), .val (.int p2), .val (.int p3), .val (.int p4), .val (.int p5), .val (.int p6), .val (.int cc), .val (.int xx), .val (.int yy), .val (.int zz), .val (.int uu), .val (.int tt), .val (.ref b1), .val (.ref b3), .val (.int Rv25.2), .val (.int (1 : Int32))]) rfl ?_
      show Steps p.tables e below (T27.setTop (mkF m 173 #[.val (.int p1), .val (.int p2), .val (.int p3), .val (.int p4), .val (.int p5), .val (.int p6), .val (.int cc), .val (.int xx), .val (.int yy), .val (.int zz), .val (.int uu), .val (.int tt), .val (.ref b1), .val (.ref b3), .val (.int Rv25.2), .val (.int (1 : Int32))] [])) t
      refine XS.iload X27.here hx rfl (hb hby at_173) rfl ?_
      exact k
    by_cases hc175_30 : (0 : Int32) < Rv25.2
    · refine own_via (S' := T27.setTop (mkF m 178 #[.val (.int p1), .val (.int p2), .val (.int p3), .val (.int p4), .val (.int p5), .val (.int p6), .val (.int cc), .val (.int xx), .val (.int yy), .val (.int zz), .val (.int uu), .val (.int tt), .val (.ref b1), .val (.ref b3), .val (.int Rv25.2), .val (.int (1 : Int32))] [])) (fun t k => XS.ifNo (g := (mkF m 175 #[.val (.int p1), .val (.int p2), .val (.int p3), .val (.int p4), .val (.int p5), .val (.int p6), .val (.int cc), .val (.int xx), .val (.int yy), .val (.int zz), .val (.int uu), .val (.int tt), .val (.ref b1), .val (.ref b3), .val (.int Rv25.2), .val (.int (1 : Int32))] [(.int Rv25.2)])) X27.here hx rfl (hb hby at_175) rfl ((if0 _ _).trans (tlt hc175_30).2.2.2) k) ?_
      refine own_via (S' := T27.setTop (mkF m 181 #[.val (.int p1), .val (.int p2), .val (.int p3), .val (.int p4), .val (.int p5), .val (.int p6), .val (.int cc), .val (.int xx), .val (.int yy), .val (.int zz), .val (.int uu), .val (.int tt), .val (.ref b1), .val (.ref b3), .val (.int Rv25.2), .val (.int (1 : Int32))] [(.int (0 : Int32)), (.ref b1)])) (fun t k => ?_) ?_
      · show Steps p.tables e below (T27.setTop (mkF m 178 #[.val (.int p1), .val (.int p2), .val (.int p3), .val (.int p4), .val (.int p5), .val (.int p6), .val (.int cc), .val (.int xx), .val (.int yy), .val (.int zz), .val (.int uu), .val (.int tt), .val (.ref b1), .val (.ref b3), .val (.int Rv25.2), .val (.int (1 : Int32))] [])) t
        refine XS.aload X27.here hx rfl (hb hby at_178) rfl rfl ?_
        show Steps p.tables e below (T27.setTop (mkF m 180 #[.val (.int p1), .val (.int p2), .val (.int p3), .val (.int p4), .val (.int p5), .val (.int p6), .val (.int cc), .val (.int xx), .val (.int yy), .val (.int zz), .val (.int uu), .val (.int tt), .val (.ref b1), .val (.ref b3), .val (.int Rv25.2), .val (.int (1 : Int32))] [(.ref b1)])) t
        refine XS.iconst X27.here hx rfl (hb hby at_180) ?_
        exact k
      have c31 := (Fld.keep DM23 Kc25 (ninS ne_b1_b3 nin0))
      have c32 := (own_Ar.keep DA23 Kc25 (ninS ne_bm2_b3 nin0))
      obtain ⟨cq33, kq33, q33a, q33b, q33c⟩ := isOf hZ hh27 c28
      obtain ⟨_, _, ⟨T33, L33, k33, n33⟩, -, X33, ⟨Lc33, hQ33, l33, y33, z33⟩, st33⟩ := X27.virtualBack hx (y := (⟨"com/example/vendace/vendace/localrecoding/DenseSet", "member", "(I)I"⟩ : MethodName)) (z := (⟨"com/example/vendace/vendace/localrecoding/DenseSet", "member", "(I)I"⟩ : MethodName)) hown (mvT hZ (hw _ (List.mem_of_getElem? (i := 45) rfl))) (mvT hZ (hw _ (List.mem_of_getElem? (i := 46) rfl))) (notFace_of_selects (args := #[]) (mvT hZ (hw _ (List.mem_of_getElem? (i := 48) rfl)))) (mvT hZ (hw _ (List.mem_of_getElem? (i := 48) rfl))) (mvT hZ (hw _ (List.mem_of_getElem? (i := 47) rfl))) (by decide) (backOf (W := 0) (rm10 l Z a0 hw [] b1 (0 : Int32) bm2 km2 (4 : Int32) Sv23.1 T25.heap n0 (Nat.le_trans Z0 K25.1) c31 c32 ⟨by decide, by decide⟩) hZ (hw _ (List.mem_of_getElem? (i := 49) rfl)) (hw _ (List.mem_of_getElem? (i := 2) rfl)) (by decide) (by decide)) q33a q33c (g := (mkF m 181 #[.val (.int p1), .val (.int p2), .val (.int p3), .val (.int p4), .val (.int p5), .val (.int p6), .val (.int cc), .val (.int xx), .val (.int yy), .val (.int zz), .val (.int uu), .val (.int tt), .val (.ref b1), .val (.ref b3), .val (.int Rv25.2), .val (.int (1 : Int32))] [(.int (0 : Int32)), (.ref b1)])) rfl (by rw [hml]; rfl) (Steps.refl _) (argsL := [(.int (0 : Int32))]) (rest := []) (lenOf pd_5 rfl) rfl (by show 2 * 0 + _ ≤ _; exact Nat.le_of_eq rfl) (hb hby at_181) (fun _ _ => ⟨rfl, hh27, (by decide : 4 + 0 ≤ _), (by decide : 15 + 0 ≤ _)⟩)
      dsimp only [Pt.U, Pt.locs, Pt.cells, Pt.slots] at X33 l33 y33 z33 st33 hQ33
      subst l33 y33 z33
      obtain ⟨rfl, Nq33, hh33⟩ := hQ33
      have N33 := Fr.app N27 Nq33
      refine own_via (fun t k => st33.trans k) ?_
      show own_G p.tables e below _ (T33.setTop (mkF m 184 #[.val (.int p1), .val (.int p2), .val (.int p3), .val (.int p4), .val (.int p5), .val (.int p6), .val (.int cc), .val (.int xx), .val (.int yy), .val (.int zz), .val (.int uu), .val (.int tt), .val (.ref b1), .val (.ref b3), .val (.int Rv25.2), .val (.int (1 : Int32))] [(.int (Sv23.1.getD ((0 : Int32)).toNatClampNeg 0))]))
      refine own_via (S' := T33.setTop (mkF m 187 #[.val (.int p1), .val (.int p2), .val (.int p3), .val (.int p4), .val (.int p5), .val (.int p6), .val (.int cc), .val (.int xx), .val (.int yy), .val (.int zz), .val (.int uu), .val (.int tt), .val (.ref b1), .val (.ref b3), .val (.int Rv25.2), .val (.int (1 : Int32))] [(.int (0 : Int32)), (.ref b3), (.int (Sv23.1.getD ((0 : Int32)).toNatClampNeg 0))])) (fun t k => ?_) ?_
      · show Steps p.tables e below (T33.setTop (mkF m 184 #[.val (.int p1), .val (.int p2), .val (.int p3), .val (.int p4), .val (.int p5), .val (.int p6), .val (.int cc), .val (.int xx), .val (.int yy), .val (.int zz), .val (.int uu), .val (.int tt), .val (.ref b1), .val (.ref b3), .val (.int Rv25.2), .val (.int (1 : Int32))] [(.int (Sv23.1.getD ((0 : Int32)).toNatClampNeg 0))])) t
        refine XS.aload X33.here hx rfl (hb hby at_184) rfl rfl ?_
        show Steps p.tables e below (T33.setTop (mkF m 186 #[.val (.int p1), .val (.int p2), .val (.int p3), .val (.int p4), .val (.int p5), .val (.int p6), .val (.int cc), .val (.int xx), .val (.int yy), .val (.int zz), .val (.int uu), .val (.int tt), .val (.ref b1), .val (.ref b3), .val (.int Rv25.2), .val (.int (1 : Int32))] [(.ref b3), (.int (Sv23.1.getD ((0 : Int32)).toNatClampNeg 0))])) t
        refine XS.iconst X33.here hx rfl (hb hby at_186) ?_
        exact k
      obtain ⟨⟨cl34, Ar34, q34, S34, Nn34, H34, G34⟩, Le34⟩ := id Vc25
      have hin34 : ¬ ((0 : Int32) < 0 ∨ cl34.slots.size ≤ ((0 : Int32)).toNatClampNeg) := inb_of S34 ⟨by decide, by decide⟩
      have hat34 : cl34.slots[((0 : Int32)).toNatClampNeg]? = some (.int (Rv25.1.getD ((0 : Int32)).toNatClampNeg 0)) := Has.at H34 hin34 (own_gI _ _)
      refine own_via (S' := T33.setTop (mkF m 188 #[.val (.int p1), .val (.int p2), .val (.int p3), .val (.int p4), .val (.int p5), .val (.int p6), .val (.int cc), .val (.int xx), .val (.int yy), .val (.int zz), .val (.int uu), .val (.int tt), .val (.ref b1), .val (.ref b3), .val (.int Rv25.2), .val (.int (1 : Int32))] [(.int (Rv25.1.getD ((0 : Int32)).toNatClampNeg 0)), (.int (Sv23.1.getD ((0 : Int32)).toNatClampNeg 0))])) (fun t kz_ => X33.iaload hx (j := (0 : Int32)) (v := (.int (Rv25.1.getD ((0 : Int32)).toNatClampNeg 0))) (by rw [hh33]; exact Ar34.1) (State.isArrayOf_alike hZ.alike Ar34.2.1) Ar34.2.2 hin34 hat34 (g := (mkF m 187 #[.val (.int p1), .val (.int p2), .val (.int p3), .val (.int p4), .val (.int p5), .val (.int p6), .val (.int cc), .val (.int xx), .val (.int yy), .val (.int zz), .val (.int uu), .val (.int tt), .val (.ref b1), .val (.ref b3), .val (.int Rv25.2), .val (.int (1 : Int32))] [(.int (0 : Int32)), (.ref b3), (.int (Sv23.1.getD ((0 : Int32)).toNatClampNeg 0))])) rfl rfl (hb hby at_187) _ kz_) ?_
      refine own_via (S' := T33.setTop (mkF m 194 #[.val (.int p1), .val (.int p2), .val (.int p3), .val (.int p4), .val (.int p5), .val (.int p6), .val (.int cc), .val (.int xx), .val (.int yy), .val (.int zz), .val (.int uu), .val (.int tt), .val (.ref b1), .val (.ref b3), .val (.int Rv25.2), .val (.int (1 : Int32))] [])) (fun t k => XS.icmpYes (g := (mkF m 188 #[.val (.int p1), .val (.int p2), .val (.int p3), .val (.int p4), .val (.int p5), .val (.int p6), .val (.int cc), .val (.int xx), .val (.int yy), .val (.int zz), .val (.int uu), .val (.int tt), .val (.ref b1), .val (.ref b3), .val (.int Rv25.2), .val (.int (1 : Int32))] [(.int (Rv25.1.getD ((0 : Int32)).toNatClampNeg 0)), (.int (Sv23.1.getD ((0 : Int32)).toNatClampNeg 0))])) X33.here hx rfl (pc0 := 188) (pc' := 194) rfl (hb hby at_188) rfl (teq (eb7 hc175_30)).1 (by decide) (by decide) k) ?_
      refine own_via (S' := T33.setTop (mkF m 197 #[.val (.int p1), .val (.int p2), .val (.int p3), .val (.int p4), .val (.int p5), .val (.int p6), .val (.int cc), .val (.int xx), .val (.int yy), .val (.int zz), .val (.int uu), .val (.int tt), .val (.ref b1), .val (.ref b3), .val (.int Rv25.2), .val (.int (1 : Int32))] [(.int (1 : Int32)), (.int Rv25.2)])) (fun t k => ?_) ?_
      · show Steps p.tables e below (T33.setTop (mkF m 194 #[.val (.int p1), .val (.int p2), .val (.int p3), .val (.int p4), .val (.int p5), .val (.int p6), .val (.int cc), .val (.int xx), .val (.int yy), .val (.int zz), .val (.int uu), .val (.int tt), .val (.ref b1), .val (.ref b3), .val (.int Rv25.2), .val (.int (1 : Int32))] [])) t
        refine XS.iload X33.here hx rfl (hb hby at_194) rfl ?_
        show Steps p.tables e below (T33.setTop (mkF m 196 #[.val (.int p1), .val (.int p2), .val (.int p3), .val (.int p4), .val (.int p5), .val (.int p6), .val (.int cc), .val (.int xx), .val (.int yy), .val (.int zz), .val (.int uu), .val (.int tt), .val (.ref b1), .val (.ref b3), .val (.int Rv25.2), .val (.int (1 : Int32))] [(.int Rv25.2)])) t
        refine XS.iconst X33.here hx rfl (hb hby at_196) ?_
        exact k
      by_cases hc197_36 : (1 : Int32) < Rv25.2
      · refine own_via (S' := T33.setTop (mkF m 200 #[.val (.int p1), .val (.int p2), .val (.int p3), .val (.int p4), .val (.int p5), .val (.int p6), .val (.int cc), .val (.int xx), .val (.int yy), .val (.int zz), .val (.int uu), .val (.int tt), .val (.ref b1), .val (.ref b3), .val (.int Rv25.2), .val (.int (1 : Int32))] [])) (fun t k => XS.icmpNo (g := (mkF m 197 #[.val (.int p1), .val (.int p2), .val (.int p3), .val (.int p4), .val (.int p5), .val (.int p6), .val (.int cc), .val (.int xx), .val (.int yy), .val (.int zz), .val (.int uu), .val (.int tt), .val (.ref b1), .val (.ref b3), .val (.int Rv25.2), .val (.int (1 : Int32))] [(.int (1 : Int32)), (.int Rv25.2)])) X33.here hx rfl (hb hby at_197) rfl (tlt hc197_36).2.2.2 k) ?_
        refine own_via (S' := T33.setTop (mkF m 203 #[.val (.int p1), .val (.int p2), .val (.int p3), .val (.int p4), .val (.int p5), .val (.int p6), .val (.int cc), .val (.int xx), .val (.int yy), .val (.int zz), .val (.int uu), .val (.int tt), .val (.ref b1), .val (.ref b3), .val (.int Rv25.2), .val (.int (1 : Int32))] [(.int (1 : Int32)), (.ref b1)])) (fun t k => ?_) ?_
        · show Steps p.tables e below (T33.setTop (mkF m 200 #[.val (.int p1), .val (.int p2), .val (.int p3), .val (.int p4), .val (.int p5), .val (.int p6), .val (.int cc), .val (.int xx), .val (.int yy), .val (.int zz), .val (.int uu), .val (.int tt), .val (.ref b1), .val (.ref b3), .val (.int Rv25.2), .val (.int (1 : Int32))] [])) t
          refine XS.aload X33.here hx rfl (hb hby at_200) rfl rfl ?_
          show Steps p.tables e below (T33.setTop (mkF m 202 #[.val (.int p1), .val (.int p2), .val (.int p3), .val (.int p4), .val (.int p5), .val (.int p6), .val (.int cc), .val (.int xx), .val (.int yy), .val (.int zz), .val (.int uu), .val (.int tt), .val (.ref b1), .val (.ref b3), .val (.int Rv25.2), .val (.int (1 : Int32))] [(.ref b1)])) t
          refine XS.iconst X33.here hx rfl (hb hby at_202) ?_
          exact k
        obtain ⟨cq37, kq37, q37a, q37b, q37c⟩ := isOf hZ hh33 c28
        obtain ⟨_, _, ⟨T37, L37, k37, n37⟩, -, X37, ⟨Lc37, hQ37, l37, y37, z37⟩, st37⟩ := X33.virtualBack hx (y := (⟨"com/example/vendace/vendace/localrecoding/DenseSet", "member", "(I)I"⟩ : MethodName)) (z := (⟨"com/example/vendace/vendace/localrecoding/DenseSet", "member", "(I)I"⟩ : MethodName)) hown (mvT hZ (hw _ (List.mem_of_getElem? (i := 45) rfl))) (mvT hZ (hw _ (List.mem_of_getElem? (i := 46) rfl))) (notFace_of_selects (args := #[]) (mvT hZ (hw _ (List.mem_of_getElem? (i := 48) rfl)))) (mvT hZ (hw _ (List.mem_of_getElem? (i := 48) rfl))) (mvT hZ (hw _ (List.mem_of_getElem? (i := 47) rfl))) (by decide) (backOf (W := 0) (rm10 l Z a0 hw [] b1 (1 : Int32) bm2 km2 (4 : Int32) Sv23.1 T25.heap n0 (Nat.le_trans Z0 K25.1) c31 c32 ⟨by decide, by decide⟩) hZ (hw _ (List.mem_of_getElem? (i := 49) rfl)) (hw _ (List.mem_of_getElem? (i := 2) rfl)) (by decide) (by decide)) q37a q37c (g := (mkF m 203 #[.val (.int p1), .val (.int p2), .val (.int p3), .val (.int p4), .val (.int p5), .val (.int p6), .val (.int cc), .val (.int xx), .val (.int yy), .val (.int zz), .val (.int uu), .val (.int tt), .val (.ref b1), .val (.ref b3), .val (.int Rv25.2), .val (.int (1 : Int32))] [(.int (1 : Int32)), (.ref b1)])) rfl (by rw [hml]; rfl) (Steps.refl _) (argsL := [(.int (1 : Int32))]) (rest := []) (lenOf pd_5 rfl) rfl (by show 2 * 0 + _ ≤ _; exact Nat.le_of_eq rfl) (hb hby at_203) (fun _ _ => ⟨rfl, hh33, (by decide : 4 + 0 ≤ _), (by decide : 15 + 0 ≤ _)⟩)
        dsimp only [Pt.U, Pt.locs, Pt.cells, Pt.slots] at X37 l37 y37 z37 st37 hQ37
        subst l37 y37 z37
        obtain ⟨rfl, Nq37, hh37⟩ := hQ37
        have N37 := Fr.app N33 Nq37
        refine own_via (fun t k => st37.trans k) ?_
        show own_G p.tables e below _ (T37.setTop (mkF m 206 #[.val (.int p1), .val (.int p2), .val (.int p3), .val (.int p4), .val (.int p5), .val (.int p6), .val (.int cc), .val (.int xx), .val (.int yy), .val (.int zz), .val (.int uu), .val (.int tt), .val (.ref b1), .val (.ref b3), .val (.int Rv25.2), .val (.int (1 : Int32))] [(.int (Sv23.1.getD ((1 : Int32)).toNatClampNeg 0))]))
        refine own_via (S' := T37.setTop (mkF m 209 #[.val (.int p1), .val (.int p2), .val (.int p3), .val (.int p4), .val (.int p5), .val (.int p6), .val (.int cc), .val (.int xx), .val (.int yy), .val (.int zz), .val (.int uu), .val (.int tt), .val (.ref b1), .val (.ref b3), .val (.int Rv25.2), .val (.int (1 : Int32))] [(.int (1 : Int32)), (.ref b3), (.int (Sv23.1.getD ((1 : Int32)).toNatClampNeg 0))])) (fun t k => ?_) ?_
        · show Steps p.tables e below (T37.setTop (mkF m 206 #[.val (.int p1), .val (.int p2), .val (.int p3), .val (.int p4), .val (.int p5), .val (.int p6), .val (.int cc), .val (.int xx), .val (.int yy), .val (.int zz), .val (.int uu), .val (.int tt), .val (.ref b1), .val (.ref b3), .val (.int Rv25.2), .val (.int (1 : Int32))] [(.int (Sv23.1.getD ((1 : Int32)).toNatClampNeg 0))])) t
          refine XS.aload X37.here hx rfl (hb hby at_206) rfl rfl ?_
          show Steps p.tables e below (T37.setTop (mkF m 208 #[.val (.int p1), .val (.int p2), .val (.int p3), .val (.int p4), .val (.int p5), .val (.int p6), .val (.int cc), .val (.int xx), .val (.int yy), .val (.int zz), .val (.int uu), .val (.int tt), .val (.ref b1), .val (.ref b3), .val (.int Rv25.2), .val (.int (1 : Int32))] [(.ref b3), (.int (Sv23.1.getD ((1 : Int32)).toNatClampNeg 0))])) t
          refine XS.iconst X37.here hx rfl (hb hby at_208) ?_
          exact k
        obtain ⟨⟨cl38, Ar38, q38, S38, Nn38, H38, G38⟩, Le38⟩ := id Vc25
        have hin38 : ¬ ((1 : Int32) < 0 ∨ cl38.slots.size ≤ ((1 : Int32)).toNatClampNeg) := inb_of S38 ⟨by decide, by decide⟩
        have hat38 : cl38.slots[((1 : Int32)).toNatClampNeg]? = some (.int (Rv25.1.getD ((1 : Int32)).toNatClampNeg 0)) := Has.at H38 hin38 (own_gI _ _)
        refine own_via (S' := T37.setTop (mkF m 210 #[.val (.int p1), .val (.int p2), .val (.int p3), .val (.int p4), .val (.int p5), .val (.int p6), .val (.int cc), .val (.int xx), .val (.int yy), .val (.int zz), .val (.int uu), .val (.int tt), .val (.ref b1), .val (.ref b3), .val (.int Rv25.2), .val (.int (1 : Int32))] [(.int (Rv25.1.getD ((1 : Int32)).toNatClampNeg 0)), (.int (Sv23.1.getD ((1 : Int32)).toNatClampNeg 0))])) (fun t kz_ => X37.iaload hx (j := (1 : Int32)) (v := (.int (Rv25.1.getD ((1 : Int32)).toNatClampNeg 0))) (by rw [hh37]; exact Ar38.1) (State.isArrayOf_alike hZ.alike Ar38.2.1) Ar38.2.2 hin38 hat38 (g := (mkF m 209 #[.val (.int p1), .val (.int p2), .val (.int p3), .val (.int p4), .val (.int p5), .val (.int p6), .val (.int cc), .val (.int xx), .val (.int yy), .val (.int zz), .val (.int uu), .val (.int tt), .val (.ref b1), .val (.ref b3), .val (.int Rv25.2), .val (.int (1 : Int32))] [(.int (1 : Int32)), (.ref b3), (.int (Sv23.1.getD ((1 : Int32)).toNatClampNeg 0))])) rfl rfl (hb hby at_209) _ kz_) ?_
        refine own_via (S' := T37.setTop (mkF m 216 #[.val (.int p1), .val (.int p2), .val (.int p3), .val (.int p4), .val (.int p5), .val (.int p6), .val (.int cc), .val (.int xx), .val (.int yy), .val (.int zz), .val (.int uu), .val (.int tt), .val (.ref b1), .val (.ref b3), .val (.int Rv25.2), .val (.int (1 : Int32))] [])) (fun t k => XS.icmpYes (g := (mkF m 210 #[.val (.int p1), .val (.int p2), .val (.int p3), .val (.int p4), .val (.int p5), .val (.int p6), .val (.int cc), .val (.int xx), .val (.int yy), .val (.int zz), .val (.int uu), .val (.int tt), .val (.ref b1), .val (.ref b3), .val (.int Rv25.2), .val (.int (1 : Int32))] [(.int (Rv25.1.getD ((1 : Int32)).toNatClampNeg 0)), (.int (Sv23.1.getD ((1 : Int32)).toNatClampNeg 0))])) X37.here hx rfl (pc0 := 210) (pc' := 216) rfl (hb hby at_210) rfl (teq (ec7 hc197_36)).1 (by decide) (by decide) k) ?_
        refine own_via (S' := T37.setTop (mkF m 219 #[.val (.int p1), .val (.int p2), .val (.int p3), .val (.int p4), .val (.int p5), .val (.int p6), .val (.int cc), .val (.int xx), .val (.int yy), .val (.int zz), .val (.int uu), .val (.int tt), .val (.ref b1), .val (.ref b3), .val (.int Rv25.2), .val (.int (1 : Int32))] [(.int (2 : Int32)), (.int Rv25.2)])) (fun t k => ?_) ?_
        · show Steps p.tables e below (T37.setTop (mkF m 216 #[.val (.int p1), .val (.int p2), .val (.int p3), .val (.int p4), .val (.int p5), .val (.int p6), .val (.int cc), .val (.int xx), .val (.int yy), .val (.int zz), .val (.int uu), .val (.int tt), .val (.ref b1), .val (.ref b3), .val (.int Rv25.2), .val (.int (1 : Int32))] [])) t
          refine XS.iload X37.here hx rfl (hb hby at_216) rfl ?_
          show Steps p.tables e below (T37.setTop (mkF m 218 #[.val (.int p1), .val (.int p2), .val (.int p3), .val (.int p4), .val (.int p5), .val (.int p6), .val (.int cc), .val (.int xx), .val (.int yy), .val (.int zz), .val (.int uu), .val (.int tt), .val (.ref b1), .val (.ref b3), .val (.int Rv25.2), .val (.int (1 : Int32))] [(.int Rv25.2)])) t
          refine XS.iconst X37.here hx rfl (hb hby at_218) ?_
          exact k
        by_cases hc219_40 : (2 : Int32) < Rv25.2
        · refine own_via (S' := T37.setTop (mkF m 222 #[.val (.int p1), .val (.int p2), .val (.int p3), .val (.int p4), .val (.int p5), .val (.int p6), .val (.int cc), .val (.int xx), .val (.int yy), .val (.int zz), .val (.int uu), .val (.int tt), .val (.ref b1), .val (.ref b3), .val (.int Rv25.2), .val (.int (1 : Int32))] [])) (fun t k => XS.icmpNo (g := (mkF m 219 #[.val (.int p1), .val (.int p2), .val (.int p3), .val (.int p4), .val (.int p5), .val (.int p6), .val (.int cc), .val (.int xx), .val (.int yy), .val (.int zz), .val (.int uu), .val (.int tt), .val (.ref b1), .val (.ref b3), .val (.int Rv25.2), .val (.int (1 : Int32))] [(.int (2 : Int32)), (.int Rv25.2)])) X37.here hx rfl (hb hby at_219) rfl (tlt hc219_40).2.2.2 k) ?_
          refine own_via (S' := T37.setTop (mkF m 225 #[.val (.int p1), .val (.int p2), .val (.int p3), .val (.int p4), .val (.int p5), .val (.int p6), .val (.int cc), .val (.int xx), .val (.int yy), .val (.int zz), .val (.int uu), .val (.int tt), .val (.ref b1), .val (.ref b3), .val (.int Rv25.2), .val (.int (1 : Int32))] [(.int (2 : Int32)), (.ref b1)])) (fun t k => ?_) ?_
          · show Steps p.tables e below (T37.setTop (mkF m 222 #[.val (.int p1), .val (.int p2), .val (.int p3), .val (.int p4), .val (.int p5), .val (.int p6), .val (.int cc), .val (.int xx), .val (.int yy), .val (.int zz), .val (.int uu), .val (.int tt), .val (.ref b1), .val (.ref b3), .val (.int Rv25.2), .val (.int (1 : Int32))] [])) t
            refine XS.aload X37.here hx rfl (hb hby at_222) rfl rfl ?_
            show Steps p.tables e below (T37.setTop (mkF m 224 #[.val (.int p1), .val (.int p2), .val (.int p3), .val (.int p4), .val (.int p5), .val (.int p6), .val (.int cc), .val (.int xx), .val (.int yy), .val (.int zz), .val (.int uu), .val (.int tt), .val (.ref b1), .val (.ref b3), .val (.int Rv25.2), .val (.int (1 : Int32))] [(.ref b1)])) t
            refine XS.iconst X37.here hx rfl (hb hby at_224) ?_
            exact k
          obtain ⟨cq41, kq41, q41a, q41b, q41c⟩ := isOf hZ hh37 c28
          obtain ⟨_, _, ⟨T41, L41, k41, n41⟩, -, X41, ⟨Lc41, hQ41, l41, y41, z41⟩, st41⟩ := X37.virtualBack hx (y := (⟨"com/example/vendace/vendace/localrecoding/DenseSet", "member", "(I)I"⟩ : MethodName)) (z := (⟨"com/example/vendace/vendace/localrecoding/DenseSet", "member", "(I)I"⟩ : MethodName)) hown (mvT hZ (hw _ (List.mem_of_getElem? (i := 45) rfl))) (mvT hZ (hw _ (List.mem_of_getElem? (i := 46) rfl))) (notFace_of_selects (args := #[]) (mvT hZ (hw _ (List.mem_of_getElem? (i := 48) rfl)))) (mvT hZ (hw _ (List.mem_of_getElem? (i := 48) rfl))) (mvT hZ (hw _ (List.mem_of_getElem? (i := 47) rfl))) (by decide) (backOf (W := 0) (rm10 l Z a0 hw [] b1 (2 : Int32) bm2 km2 (4 : Int32) Sv23.1 T25.heap n0 (Nat.le_trans Z0 K25.1) c31 c32 ⟨by decide, by decide⟩) hZ (hw _ (List.mem_of_getElem? (i := 49) rfl)) (hw _ (List.mem_of_getElem? (i := 2) rfl)) (by decide) (by decide)) q41a q41c (g := (mkF m 225 #[.val (.int p1), .val (.int p2), .val (.int p3), .val (.int p4), .val (.int p5), .val (.int p6), .val (.int cc), .val (.int xx), .val (.int yy), .val (.int zz), .val (.int uu), .val (.int tt), .val (.ref b1), .val (.ref b3), .val (.int Rv25.2), .val (.int (1 : Int32))] [(.int (2 : Int32)), (.ref b1)])) rfl (by rw [hml]; rfl) (Steps.refl _) (argsL := [(.int (2 : Int32))]) (rest := []) (lenOf pd_5 rfl) rfl (by show 2 * 0 + _ ≤ _; exact Nat.le_of_eq rfl) (hb hby at_225) (fun _ _ => ⟨rfl, hh37, (by decide : 4 + 0 ≤ _), (by decide : 15 + 0 ≤ _)⟩)
          dsimp only [Pt.U, Pt.locs, Pt.cells, Pt.slots] at X41 l41 y41 z41 st41 hQ41
          subst l41 y41 z41
          obtain ⟨rfl, Nq41, hh41⟩ := hQ41
          have N41 := Fr.app N37 Nq41
          refine own_via (fun t k => st41.trans k) ?_
          show own_G p.tables e below _ (T41.setTop (mkF m 228 #[.val (.int p1), .val (.int p2), .val (.int p3), .val (.int p4), .val (.int p5), .val (.int p6), .val (.int cc), .val (.int xx), .val (.int yy), .val (.int zz), .val (.int uu), .val (.int tt), .val (.ref b1), .val (.ref b3), .val (.int Rv25.2), .val (.int (1 : Int32))] [(.int (Sv23.1.getD ((2 : Int32)).toNatClampNeg 0))]))
          refine own_via (S' := T41.setTop (mkF m 231 #[.val (.int p1), .val (.int p2), .val (.int p3), .val (.int p4), .val (.int p5), .val (.int p6), .val (.int cc), .val (.int xx), .val (.int yy), .val (.int zz), .val (.int uu), .val (.int tt), .val (.ref b1), .val (.ref b3), .val (.int Rv25.2), .val (.int (1 : Int32))] [(.int (2 : Int32)), (.ref b3), (.int (Sv23.1.getD ((2 : Int32)).toNatClampNeg 0))])) (fun t k => ?_) ?_
          · show Steps p.tables e below (T41.setTop (mkF m 228 #[.val (.int p1), .val (.int p2), .val (.int p3), .val (.int p4), .val (.int p5), .val (.int p6), .val (.int cc), .val (.int xx), .val (.int yy), .val (.int zz), .val (.int uu), .val (.int tt), .val (.ref b1), .val (.ref b3), .val (.int Rv25.2), .val (.int (1 : Int32))] [(.int (Sv23.1.getD ((2 : Int32)).toNatClampNeg 0))])) t
            refine XS.aload X41.here hx rfl (hb hby at_228) rfl rfl ?_
            show Steps p.tables e below (T41.setTop (mkF m 230 #[.val (.int p1), .val (.int p2), .val (.int p3), .val (.int p4), .val (.int p5), .val (.int p6), .val (.int cc), .val (.int xx), .val (.int yy), .val (.int zz), .val (.int uu), .val (.int tt), .val (.ref b1), .val (.ref b3), .val (.int Rv25.2), .val (.int (1 : Int32))] [(.ref b3), (.int (Sv23.1.getD ((2 : Int32)).toNatClampNeg 0))])) t
            refine XS.iconst X41.here hx rfl (hb hby at_230) ?_
            exact k
          obtain ⟨⟨cl42, Ar42, q42, S42, Nn42, H42, G42⟩, Le42⟩ := id Vc25
          have hin42 : ¬ ((2 : Int32) < 0 ∨ cl42.slots.size ≤ ((2 : Int32)).toNatClampNeg) := inb_of S42 ⟨by decide, by decide⟩
          have hat42 : cl42.slots[((2 : Int32)).toNatClampNeg]? = some (.int (Rv25.1.getD ((2 : Int32)).toNatClampNeg 0)) := Has.at H42 hin42 (own_gI _ _)
          refine own_via (S' := T41.setTop (mkF m 232 #[.val (.int p1), .val (.int p2), .val (.int p3), .val (.int p4), .val (.int p5), .val (.int p6), .val (.int cc), .val (.int xx), .val (.int yy), .val (.int zz), .val (.int uu), .val (.int tt), .val (.ref b1), .val (.ref b3), .val (.int Rv25.2), .val (.int (1 : Int32))] [(.int (Rv25.1.getD ((2 : Int32)).toNatClampNeg 0)), (.int (Sv23.1.getD ((2 : Int32)).toNatClampNeg 0))])) (fun t kz_ => X41.iaload hx (j := (2 : Int32)) (v := (.int (Rv25.1.getD ((2 : Int32)).toNatClampNeg 0))) (by rw [hh41]; exact Ar42.1) (State.isArrayOf_alike hZ.alike Ar42.2.1) Ar42.2.2 hin42 hat42 (g := (mkF m 231 #[.val (.int p1), .val (.int p2), .val (.int p3), .val (.int p4), .val (.int p5), .val (.int p6), .val (.int cc), .val (.int xx), .val (.int yy), .val (.int zz), .val (.int uu), .val (.int tt), .val (.ref b1), .val (.ref b3), .val (.int Rv25.2), .val (.int (1 : Int32))] [(.int (2 : Int32)), (.ref b3), (.int (Sv23.1.getD ((2 : Int32)).toNatClampNeg 0))])) rfl rfl (hb hby at_231) _ kz_) ?_
          refine own_via (S' := T41.setTop (mkF m 238 #[.val (.int p1), .val (.int p2), .val (.int p3), .val (.int p4), .val (.int p5), .val (.int p6), .val (.int cc), .val (.int xx), .val (.int yy), .val (.int zz), .val (.int uu), .val (.int tt), .val (.ref b1), .val (.ref b3), .val (.int Rv25.2), .val (.int (1 : Int32))] [])) (fun t k => XS.icmpYes (g := (mkF m 232 #[.val (.int p1), .val (.int p2), .val (.int p3), .val (.int p4), .val (.int p5), .val (.int p6), .val (.int cc), .val (.int xx), .val (.int yy), .val (.int zz), .val (.int uu), .val (.int tt), .val (.ref b1), .val (.ref b3), .val (.int Rv25.2), .val (.int (1 : Int32))] [(.int (Rv25.1.getD ((2 : Int32)).toNatClampNeg 0)), (.int (Sv23.1.getD ((2 : Int32)).toNatClampNeg 0))])) X41.here hx rfl (pc0 := 232) (pc' := 238) rfl (hb hby at_232) rfl (teq (ed7 hc219_40)).1 (by decide) (by decide) k) ?_
          refine own_via (S' := T41.setTop (mkF m 240 #[.val (.int p1), .val (.int p2), .val (.int p3), .val (.int p4), .val (.int p5), .val (.int p6), .val (.int cc), .val (.int xx), .val (.int yy), .val (.int zz), .val (.int uu), .val (.int tt), .val (.ref b1), .val (.ref b3), .val (.int Rv25.2), .val (.int (1 : Int32))] [(.int (1 : Int32))])) (fun t k => ?_) ?_
          · show Steps p.tables e below (T41.setTop (mkF m 238 #[.val (.int p1), .val (.int p2), .val (.int p3), .val (.int p4), .val (.int p5), .val (.int p6), .val (.int cc), .val (.int xx), .val (.int yy), .val (.int zz), .val (.int uu), .val (.int tt), .val (.ref b1), .val (.ref b3), .val (.int Rv25.2), .val (.int (1 : Int32))] [])) t
            refine XS.iload X41.here hx rfl (hb hby at_238) rfl ?_
            exact k
          exact own_end (h := T25.heap) X41 (v := some (.int (1 : Int32))) Bd.notSynchronized (fun h => by rw [Bd.returns] at h; cases h) (fun fs hr => retN X41 hx (t := .boolean) Bd.returns (by simp) (hb hby at_240) hr) hh41 ⟨rfl, N41⟩ (by decide) (by decide)
        · refine own_via (S' := T37.setTop (mkF m 238 #[.val (.int p1), .val (.int p2), .val (.int p3), .val (.int p4), .val (.int p5), .val (.int p6), .val (.int cc), .val (.int xx), .val (.int yy), .val (.int zz), .val (.int uu), .val (.int tt), .val (.ref b1), .val (.ref b3), .val (.int Rv25.2), .val (.int (1 : Int32))] [])) (fun t k => XS.icmpYes (g := (mkF m 219 #[.val (.int p1), .val (.int p2), .val (.int p3), .val (.int p4), .val (.int p5), .val (.int p6), .val (.int cc), .val (.int xx), .val (.int yy), .val (.int zz), .val (.int uu), .val (.int tt), .val (.ref b1), .val (.ref b3), .val (.int Rv25.2), .val (.int (1 : Int32))] [(.int (2 : Int32)), (.int Rv25.2)])) X37.here hx rfl (pc0 := 219) (pc' := 238) rfl (hb hby at_219) rfl (flt hc219_40).2.2.2 (by decide) (by decide) k) ?_
          refine own_via (S' := T37.setTop (mkF m 240 #[.val (.int p1), .val (.int p2), .val (.int p3), .val (.int p4), .val (.int p5), .val (.int p6), .val (.int cc), .val (.int xx), .val (.int yy), .val (.int zz), .val (.int uu), .val (.int tt), .val (.ref b1), .val (.ref b3), .val (.int Rv25.2), .val (.int (1 : Int32))] [(.int (1 : Int32))])) (fun t k => ?_) ?_
          · show Steps p.tables e below (T37.setTop (mkF m 238 #[.val (.int p1), .val (.int p2), .val (.int p3), .val (.int p4), .val (.int p5), .val (.int p6), .val (.int cc), .val (.int xx), .val (.int yy), .val (.int zz), .val (.int uu), .val (.int tt), .val (.ref b1), .val (.ref b3), .val (.int Rv25.2), .val (.int (1 : Int32))] [])) t
            refine XS.iload X37.here hx rfl (hb hby at_238) rfl ?_
            exact k
          exact own_end (h := T25.heap) X37 (v := some (.int (1 : Int32))) Bd.notSynchronized (fun h => by rw [Bd.returns] at h; cases h) (fun fs hr => retN X37 hx (t := .boolean) Bd.returns (by simp) (hb hby at_240) hr) hh37 ⟨rfl, N37⟩ (by decide) (by decide)
      · refine own_via (S' := T33.setTop (mkF m 216 #[.val (.int p1), .val (.int p2), .val (.int p3), .val (.int p4), .val (.int p5), .val (.int p6), .val (.int cc), .val (.int xx), .val (.int yy), .val (.int zz), .val (.int uu), .val (.int tt), .val (.ref b1), .val (.ref b3), .val (.int Rv25.2), .val (.int (1 : Int32))] [])) (fun t k => XS.icmpYes (g := (mkF m 197 #[.val (.int p1), .val (.int p2), .val (.int p3), .val (.int p4), .val (.int p5), .val (.int p6), .val (.int cc), .val (.int xx), .val (.int yy), .val (.int zz), .val (.int uu), .val (.int tt), .val (.ref b1), .val (.ref b3), .val (.int Rv25.2), .val (.int (1 : Int32))] [(.int (1 : Int32)), (.int Rv25.2)])) X33.here hx rfl (pc0 := 197) (pc' := 216) rfl (hb hby at_197) rfl (flt hc197_36).2.2.2 (by decide) (by decide) k) ?_
        refine own_via (S' := T33.setTop (mkF m 219 #[.val (.int p1), .val (.int p2), .val (.int p3), .val (.int p4), .val (.int p5), .val (.int p6), .val (.int cc), .val (.int xx), .val (.int yy), .val (.int zz), .val (.int uu), .val (.int tt), .val (.ref b1), .val (.ref b3), .val (.int Rv25.2), .val (.int (1 : Int32))] [(.int (2 : Int32)), (.int Rv25.2)])) (fun t k => ?_) ?_
        · show Steps p.tables e below (T33.setTop (mkF m 216 #[.val (.int p1), .val (.int p2), .val (.int p3), .val (.int p4), .val (.int p5), .val (.int p6), .val (.int cc), .val (.int xx), .val (.int yy), .val (.int zz), .val (.int uu), .val (.int tt), .val (.ref b1), .val (.ref b3), .val (.int Rv25.2), .val (.int (1 : Int32))] [])) t
          refine XS.iload X33.here hx rfl (hb hby at_216) rfl ?_
          show Steps p.tables e below (T33.setTop (mkF m 218 #[.val (.int p1), .val (.int p2), .val (.int p3), .val (.int p4), .val (.int p5), .val (.int p6), .val (.int cc), .val (.int xx), .val (.int yy), .val (.int zz), .val (.int uu), .val (.int tt), .val (.ref b1), .val (.ref b3), .val (.int Rv25.2), .val (.int (1 : Int32))] [(.int Rv25.2)])) t
          refine XS.iconst X33.here hx rfl (hb hby at_218) ?_
          exact k
        refine own_via (S' := T33.setTop (mkF m 238 #[.val (.int p1), .val (.int p2), .val (.int p3), .val (.int p4), .val (.int p5), .val (.int p6), .val (.int cc), .val (.int xx), .val (.int yy), .val (.int zz), .val (.int uu), .val (.int tt), .val (.ref b1), .val (.ref b3), .val (.int Rv25.2), .val (.int (1 : Int32))] [])) (fun t k => XS.icmpYes (g := (mkF m 219 #[.val (.int p1), .val (.int p2), .val (.int p3), .val (.int p4), .val (.int p5), .val (.int p6), .val (.int cc), .val (.int xx), .val (.int yy), .val (.int zz), .val (.int uu), .val (.int tt), .val (.ref b1), .val (.ref b3), .val (.int Rv25.2), .val (.int (1 : Int32))] [(.int (2 : Int32)), (.int Rv25.2)])) X33.here hx rfl (pc0 := 219) (pc' := 238) rfl (hb hby at_219) rfl (flt (own_n12 hc197_36)).2.2.2 (by decide) (by decide) k) ?_
        refine own_via (S' := T33.setTop (mkF m 240 #[.val (.int p1), .val (.int p2), .val (.int p3), .val (.int p4), .val (.int p5), .val (.int p6), .val (.int cc), .val (.int xx), .val (.int yy), .val (.int zz), .val (.int uu), .val (.int tt), .val (.ref b1), .val (.ref b3), .val (.int Rv25.2), .val (.int (1 : Int32))] [(.int (1 : Int32))])) (fun t k => ?_) ?_
        · show Steps p.tables e below (T33.setTop (mkF m 238 #[.val (.int p1), .val (.int p2), .val (.int p3), .val (.int p4), .val (.int p5), .val (.int p6), .val (.int cc), .val (.int xx), .val (.int yy), .val (.int zz), .val (.int uu), .val (.int tt), .val (.ref b1), .val (.ref b3), .val (.int Rv25.2), .val (.int (1 : Int32))] [])) t
          refine XS.iload X33.here hx rfl (hb hby at_238) rfl ?_
          exact k
        exact own_end (h := T25.heap) X33 (v := some (.int (1 : Int32))) Bd.notSynchronized (fun h => by rw [Bd.returns] at h; cases h) (fun fs hr => retN X33 hx (t := .boolean) Bd.returns (by simp) (hb hby at_240) hr) hh33 ⟨rfl, N33⟩ (by decide) (by decide)
    · refine own_via (S' := T27.setTop (mkF m 194 #[.val (.int p1), .val (.int p2), .val (.int p3), .val (.int p4), .val (.int p5), .val (.int p6), .val (.int cc), .val (.int xx), .val (.int yy), .val (.int zz), .val (.int uu), .val (.int tt), .val (.ref b1), .val (.ref b3), .val (.int Rv25.2), .val (.int (1 : Int32))] [])) (fun t k => XS.ifYes (g := (mkF m 175 #[.val (.int p1), .val (.int p2), .val (.int p3), .val (.int p4), .val (.int p5), .val (.int p6), .val (.int cc), .val (.int xx), .val (.int yy), .val (.int zz), .val (.int uu), .val (.int tt), .val (.ref b1), .val (.ref b3), .val (.int Rv25.2), .val (.int (1 : Int32))] [(.int Rv25.2)])) X27.here hx rfl (pc0 := 175) (pc' := 194) rfl (hb hby at_175) rfl ((if0 _ _).trans (flt hc175_30).2.2.2) (by decide) (by decide) k) ?_
      refine own_via (S' := T27.setTop (mkF m 197 #[.val (.int p1), .val (.int p2), .val (.int p3), .val (.int p4), .val (.int p5), .val (.int p6), .val (.int cc), .val (.int xx), .val (.int yy), .val (.int zz), .val (.int uu), .val (.int tt), .val (.ref b1), .val (.ref b3), .val (.int Rv25.2), .val (.int (1 : Int32))] [(.int (1 : Int32)), (.int Rv25.2)])) (fun t k => ?_) ?_
      · show Steps p.tables e below (T27.setTop (mkF m 194 #[.val (.int p1), .val (.int p2), .val (.int p3), .val (.int p4), .val (.int p5), .val (.int p6), .val (.int cc), .val (.int xx), .val (.int yy), .val (.int zz), .val (.int uu), .val (.int tt), .val (.ref b1), .val (.ref b3), .val (.int Rv25.2), .val (.int (1 : Int32))] [])) t
        refine XS.iload X27.here hx rfl (hb hby at_194) rfl ?_
        show Steps p.tables e below (T27.setTop (mkF m 196 #[.val (.int p1), .val (.int p2), .val (.int p3), .val (.int p4), .val (.int p5), .val (.int p6), .val (.int cc), .val (.int xx), .val (.int yy), .val (.int zz), .val (.int uu), .val (.int tt), .val (.ref b1), .val (.ref b3), .val (.int Rv25.2), .val (.int (1 : Int32))] [(.int Rv25.2)])) t
        refine XS.iconst X27.here hx rfl (hb hby at_196) ?_
        exact k
      refine own_via (S' := T27.setTop (mkF m 216 #[.val (.int p1), .val (.int p2), .val (.int p3), .val (.int p4), .val (.int p5), .val (.int p6), .val (.int cc), .val (.int xx), .val (.int yy), .val (.int zz), .val (.int uu), .val (.int tt), .val (.ref b1), .val (.ref b3), .val (.int Rv25.2), .val (.int (1 : Int32))] [])) (fun t k => XS.icmpYes (g := (mkF m 197 #[.val (.int p1), .val (.int p2), .val (.int p3), .val (.int p4), .val (.int p5), .val (.int p6), .val (.int cc), .val (.int xx), .val (.int yy), .val (.int zz), .val (.int uu), .val (.int tt), .val (.ref b1), .val (.ref b3), .val (.int Rv25.2), .val (.int (1 : Int32))] [(.int (1 : Int32)), (.int Rv25.2)])) X27.here hx rfl (pc0 := 197) (pc' := 216) rfl (hb hby at_197) rfl (flt (own_n01 hc175_30)).2.2.2 (by decide) (by decide) k) ?_
      refine own_via (S' := T27.setTop (mkF m 219 #[.val (.int p1), .val (.int p2), .val (.int p3), .val (.int p4), .val (.int p5), .val (.int p6), .val (.int cc), .val (.int xx), .val (.int yy), .val (.int zz), .val (.int uu), .val (.int tt), .val (.ref b1), .val (.ref b3), .val (.int Rv25.2), .val (.int (1 : Int32))] [(.int (2 : Int32)), (.int Rv25.2)])) (fun t k => ?_) ?_
      · show Steps p.tables e below (T27.setTop (mkF m 216 #[.val (.int p1), .val (.int p2), .val (.int p3), .val (.int p4), .val (.int p5), .val (.int p6), .val (.int cc), .val (.int xx), .val (.int yy), .val (.int zz), .val (.int uu), .val (.int tt), .val (.ref b1), .val (.ref b3), .val (.int Rv25.2), .val (.int (1 : Int32))] [])) t
        refine XS.iload X27.here hx rfl (hb hby at_216) rfl ?_
        show Steps p.tables e below (T27.setTop (mkF m 218 #[.val (.int p1), .val (.int p2), .val (.int p3), .val (.int p4), .val (.int p5), .val (.int p6), .val (.int cc), .val (.int xx), .val (.int yy), .val (.int zz), .val (.int uu), .val (.int tt), .val (.ref b1), .val (.ref b3), .val (.int Rv25.2), .val (.int (1 : Int32))] [(.int Rv25.2)])) t
        refine XS.iconst X27.here hx rfl (hb hby at_218) ?_
        exact k
      refine own_via (S' := T27.setTop (mkF m 238 #[.val (.int p1), .val (.int p2), .val (.int p3), .val (.int p4), .val (.int p5), .val (.int p6), .val (.int cc), .val (.int xx), .val (.int yy), .val (.int zz), .val (.int uu), .val (.int tt), .val (.ref b1), .val (.ref b3), .val (.int Rv25.2), .val (.int (1 : Int32))] [])) (fun t k => XS.icmpYes (g := (mkF m 219 #[.val (.int p1), .val (.int p2), .val (.int p3), .val (.int p4), .val (.int p5), .val (.int p6), .val (.int cc), .val (.int xx), .val (.int yy), .val (.int zz), .val (.int uu), .val (.int tt), .val (.ref b1), .val (.ref b3), .val (.int Rv25.2), .val (.int (1 : Int32))] [(.int (2 : Int32)), (.int Rv25.2)])) X27.here hx rfl (pc0 := 219) (pc' := 238) rfl (hb hby at_219) rfl (flt (own_n02 hc175_30)).2.2.2 (by decide) (by decide) k) ?_
      refine own_via (S' := T27.setTop (mkF m 240 #[.val (.int p1), .val (.int p2), .val (.int p3), .val (.int p4), .val (.int p5), .val (.int p6), .val (.int cc), .val (.int xx), .val (.int yy), .val (.int zz), .val (.int uu), .val (.int tt), .val (.ref b1), .val (.ref b3), .val (.int Rv25.2), .val (.int (1 : Int32))] [(.int (1 : Int32))])) (fun t k => ?_) ?_
      · show Steps p.tables e below (T27.setTop (mkF m 238 #[.val (.int p1), .val (.int p2), .val (.int p3), .val (.int p4), .val (.int p5), .val (.int p6), .val (.int cc), .val (.int xx), .val (.int yy), .val (.int zz), .val (.int uu), .val (.int tt), .val (.ref b1), .val (.ref b3), .val (.int Rv25.2), .val (.int (1 : Int32))] [])) t
        refine XS.iload X27.here hx rfl (hb hby at_238) rfl ?_
        exact k
      exact own_end (h := T25.heap) X27 (v := some (.int (1 : Int32))) Bd.notSynchronized (fun h => by rw [Bd.returns] at h; cases h) (fun fs hr => retN X27 hx (t := .boolean) Bd.returns (by simp) (hb hby at_240) hr) hh27 ⟨rfl, N27⟩ (by decide) (by decide)
  · refine own_via (S' := T3.setTop (mkF m 56 #[.val (.int p1), .val (.int p2), .val (.int p3), .val (.int p4), .val (.int p5), .val (.int p6), .val (.int cc), .val (.int xx), .val (.int yy), .val (.int zz), .val (.int uu), .val (.int tt), .val (.ref b1), .val (.ref b3), .val (.int (0 : Int32)), .unset] [])) (fun t k => XS.icmpNo (g := (mkF m 53 #[.val (.int p1), .val (.int p2), .val (.int p3), .val (.int p4), .val (.int p5), .val (.int p6), .val (.int cc), .val (.int xx), .val (.int yy), .val (.int zz), .val (.int uu), .val (.int tt), .val (.ref b1), .val (.ref b3), .val (.int (0 : Int32)), .unset] [(.int (1 : Int32)), (.int cc)])) X3.here hx rfl (hb hby at_53) rfl (flt hc53_4).1 k) ?_
    refine own_via (S' := T3.setTop (mkF m 60 #[.val (.int p1), .val (.int p2), .val (.int p3), .val (.int p4), .val (.int p5), .val (.int p6), .val (.int cc), .val (.int xx), .val (.int yy), .val (.int zz), .val (.int uu), .val (.int tt), .val (.ref b1), .val (.ref b3), .val (.int (0 : Int32)), .unset] [(.int xx), (.ref b1)])) (fun t k => ?_) ?_
    · show Steps p.tables e below (T3.setTop (mkF m 56 #[.val (.int p1), .val (.int p2), .val (.int p3), .val (.int p4), .val (.int p5), .val (.int p6), .val (.int cc), .val (.int xx), .val (.int yy), .val (.int zz), .val (.int uu), .val (.int tt), .val (.ref b1), .val (.ref b3), .val (.int (0 : Int32)), .unset] [])) t
      refine XS.aload X3.here hx rfl (hb hby at_56) rfl rfl ?_
      show Steps p.tables e below (T3.setTop (mkF m 58 #[.val (.int p1), .val (.int p2), .val (.int p3), .val (.int p4), .val (.int p5), .val (.int p6), .val (.int cc), .val (.int xx), .val (.int yy), .val (.int zz), .val (.int uu), .val (.int tt), .val (.ref b1), .val (.ref b3), .val (.int (0 : Int32)), .unset] [(.ref b1)])) t
      refine XS.iload X3.here hx rfl (hb hby at_58) rfl ?_
      exact k
    have c47 := (Exa.ext E3 DE2)
    have c48 := (Fld.ext E3 DM2)
    have c49 := (Fld.ext E3 DP2)
    have c50 := (Fld.ext E3 DZ2)
    have c51 := (own_Ar.ext DA2 E3)
    have c52 := (own_Ar.ext DB2 E3)
    obtain ⟨cq53, kq53, q53a, q53b, q53c⟩ := isOf hZ e3 c47
    obtain ⟨_, _, ⟨T53, L53, k53, n53⟩, -, X53, ⟨Lc53, hQ53, l53, y53, z53⟩, st53⟩ := X3.virtualBack hx (y := (⟨"com/example/vendace/vendace/localrecoding/DenseSet", "add", "(I)V"⟩ : MethodName)) (z := (⟨"com/example/vendace/vendace/localrecoding/DenseSet", "add", "(I)V"⟩ : MethodName)) hown (mvT hZ (hw _ (List.mem_of_getElem? (i := 34) rfl))) (mvT hZ (hw _ (List.mem_of_getElem? (i := 35) rfl))) (notFace_of_selects (args := #[]) (mvT hZ (hw _ (List.mem_of_getElem? (i := 37) rfl)))) (mvT hZ (hw _ (List.mem_of_getElem? (i := 37) rfl))) (mvT hZ (hw _ (List.mem_of_getElem? (i := 36) rfl))) (by decide) (backOf (W := 0) (rm7 l Z a0 hw [] b1 xx bm2 bp2 km2 kp2 (4 : Int32) (own_s0 (4 : Int32)) h3 n0 (Nat.le_trans Z0 K3.1) ⟨c47, c48, c49, c50, c51, c52⟩ na2 nb2 nc2 g_b1 gm2 gp2 (own_c1 xx hd_xx).1) hZ (hw _ (List.mem_of_getElem? (i := 38) rfl)) (hw _ (List.mem_of_getElem? (i := 2) rfl)) (by decide) (by decide)) q53a q53c (g := (mkF m 60 #[.val (.int p1), .val (.int p2), .val (.int p3), .val (.int p4), .val (.int p5), .val (.int p6), .val (.int cc), .val (.int xx), .val (.int yy), .val (.int zz), .val (.int uu), .val (.int tt), .val (.ref b1), .val (.ref b3), .val (.int (0 : Int32)), .unset] [(.int xx), (.ref b1)])) rfl (by rw [hml]; rfl) (Steps.refl _) (argsL := [(.int xx)]) (rest := []) (lenOf pd_2 rfl) rfl (by show 2 * 0 + _ ≤ _; exact Nat.le_of_eq rfl) (hb hby at_60) (fun _ _ => ⟨rfl, e3, (by decide : 4 + 0 ≤ _), (by decide : 15 + 0 ≤ _)⟩)
    dsimp only [Pt.U, Pt.locs, Pt.cells, Pt.slots] at X53 l53 y53 z53 st53 hQ53
    subst l53 y53 z53
    obtain ⟨rfl, Nq53, Kc53, Sv53, hS53, DS53⟩ := hQ53
    have N53 := Fr.app N2 Nq53
    refine own_via (fun t k => st53.trans k) ?_
    show own_G p.tables e below _ (T53.setTop (mkF m 63 #[.val (.int p1), .val (.int p2), .val (.int p3), .val (.int p4), .val (.int p5), .val (.int p6), .val (.int cc), .val (.int xx), .val (.int yy), .val (.int zz), .val (.int uu), .val (.int tt), .val (.ref b1), .val (.ref b3), .val (.int (0 : Int32)), .unset] []))
    have K53 : Keep h0 T53.heap [] := Keep.trans K3 Kc53 (allS (Or.inr sz_b1) (allS (Or.inr sm2) (allS (Or.inr sp2) all0)))
    obtain ⟨DE53, DM53, DP53, DZ53, DA53, DB53⟩ := id DS53
    refine own_via (S' := T53.setTop (mkF m 69 #[.val (.int p1), .val (.int p2), .val (.int p3), .val (.int p4), .val (.int p5), .val (.int p6), .val (.int cc), .val (.int xx), .val (.int yy), .val (.int zz), .val (.int uu), .val (.int tt), .val (.ref b1), .val (.ref b3), .val (.int (0 : Int32)), .unset] [(.int xx), (.int (0 : Int32)), (.ref b3)])) (fun t k => ?_) ?_
    · show Steps p.tables e below (T53.setTop (mkF m 63 #[.val (.int p1), .val (.int p2), .val (.int p3), .val (.int p4), .val (.int p5), .val (.int p6), .val (.int cc), .val (.int xx), .val (.int yy), .val (.int zz), .val (.int uu), .val (.int tt), .val (.ref b1), .val (.ref b3), .val (.int (0 : Int32)), .unset] [])) t
      refine XS.aload X53.here hx rfl (hb hby at_63) rfl rfl ?_
      show Steps p.tables e below (T53.setTop (mkF m 65 #[.val (.int p1), .val (.int p2), .val (.int p3), .val (.int p4), .val (.int p5), .val (.int p6), .val (.int cc), .val (.int xx), .val (.int yy), .val (.int zz), .val (.int uu), .val (.int tt), .val (.ref b1), .val (.ref b3), .val (.int (0 : Int32)), .unset] [(.ref b3)])) t
      refine XS.iload X53.here hx rfl (hb hby at_65) rfl ?_
      show Steps p.tables e below (T53.setTop (mkF m 67 #[.val (.int p1), .val (.int p2), .val (.int p3), .val (.int p4), .val (.int p5), .val (.int p6), .val (.int cc), .val (.int xx), .val (.int yy), .val (.int zz), .val (.int uu), .val (.int tt), .val (.ref b1), .val (.ref b3), .val (.int (0 : Int32)), .unset] [(.int (0 : Int32)), (.ref b3)])) t
      refine XS.iload X53.here hx rfl (hb hby at_67) rfl ?_
      exact k
    have c54 := (own_Ar.keep V_b3 Kc53 (ninS (Ne.symm ne_b1_b3) (ninS (Ne.symm ne_bm2_b3) (ninS (Ne.symm ne_bp2_b3) nin0))))
    obtain ⟨_, _, ⟨T55, L55, k55, n55⟩, -, X55, ⟨Lc55, hQ55, l55, y55, z55⟩, st55⟩ := Jvm.LawKit.callS X53 hx (y := (⟨"com/example/vendace/vendace/localrecoding/DenseSetRemovePinLaw", "refAdd", "([III)I"⟩ : MethodName)) hown (mvT hZ (hw _ (List.mem_of_getElem? (i := 39) rfl))) (mvT hZ (hw _ (List.mem_of_getElem? (i := 40) rfl))) (mvT hZ (hw _ (List.mem_of_getElem? (i := 25) rfl))) (mvT hZ (hw _ (List.mem_of_getElem? (i := 41) rfl))) (by decide) (backOf (W := 0) (rm8 l Z a0 hw [] b3 (0 : Int32) xx k3 (List.replicate ((4 : Int32)).toNatClampNeg (0 : Int32)) T53.heap n0 (Nat.le_trans Z0 K53.1) c54 g_b3 (own_c1 xx hd_xx).2.1) hZ (hw _ (List.mem_of_getElem? (i := 41) rfl)) (hw _ (List.mem_of_getElem? (i := 25) rfl)) (by decide) (by decide)) (g := (mkF m 69 #[.val (.int p1), .val (.int p2), .val (.int p3), .val (.int p4), .val (.int p5), .val (.int p6), .val (.int cc), .val (.int xx), .val (.int yy), .val (.int zz), .val (.int uu), .val (.int tt), .val (.ref b1), .val (.ref b3), .val (.int (0 : Int32)), .unset] [(.int xx), (.int (0 : Int32)), (.ref b3)])) rfl (by rw [hml]; rfl) (argsL := [(.ref b3), (.int (0 : Int32)), (.int xx)]) (rest := []) (lenOf pd_3 rfl) rfl (by show 2 * 0 + _ ≤ _; exact Nat.le_of_eq rfl) (hb hby at_69) (fun _ _ => ⟨rfl, rfl, (by decide : 4 + 0 ≤ _), (by decide : 15 + 0 ≤ _)⟩)
    dsimp only [Pt.U, Pt.locs, Pt.cells, Pt.slots] at X55 l55 y55 z55 st55 hQ55
    subst l55 y55 z55
    obtain ⟨Rv55, hR55, rfl, Nq55, Kc55, Vc55⟩ := hQ55
    have N55 := Fr.app N53 Nq55
    refine own_via st55 ?_
    show own_G p.tables e below _ (T55.setTop (mkF m 72 #[.val (.int p1), .val (.int p2), .val (.int p3), .val (.int p4), .val (.int p5), .val (.int p6), .val (.int cc), .val (.int xx), .val (.int yy), .val (.int zz), .val (.int uu), .val (.int tt), .val (.ref b1), .val (.ref b3), .val (.int (0 : Int32)), .unset] [(.int Rv55.2)]))
    have K55 : Keep h0 T55.heap [] := Keep.trans K53 Kc55 (allS (Or.inr sz_b3) all0)
    refine own_via (S' := T55.setTop (mkF m 77 #[.val (.int p1), .val (.int p2), .val (.int p3), .val (.int p4), .val (.int p5), .val (.int p6), .val (.int cc), .val (.int xx), .val (.int yy), .val (.int zz), .val (.int uu), .val (.int tt), .val (.ref b1), .val (.ref b3), .val (.int Rv55.2), .unset] [(.int (2 : Int32)), (.int cc)])) (fun t k => ?_) ?_
    · show Steps p.tables e below (T55.setTop (mkF m 72 #[.val (.int p1), .val (.int p2), .val (.int p3), .val (.int p4), .val (.int p5), .val (.int p6), .val (.int cc), .val (.int xx), .val (.int yy), .val (.int zz), .val (.int uu), .val (.int tt), .val (.ref b1), .val (.ref b3), .val (.int (0 : Int32)), .unset] [(.int Rv55.2)])) t
      refine XS.istore X55.here hx rfl (hb hby at_72) rfl (l' := #[.val (.int p1), .val (.int p2), .val (.int p3), .val (.int p4), .val (.int p5), .val (.int p6), .val (.int cc), .val (.int xx), .val (.int yy), .val (.int zz), .val (.int uu), .val (.int tt), .val (.ref b1), .val (.ref b3), .val (.int Rv55.2), .unset]) rfl ?_
      show Steps p.tables e below (T55.setTop (mkF m 74 #[.val (.int p1), .val (.int p2), .val (.int p3), .val (.int p4), .val (.int p5), .val (.int p6), .val (.int cc), .val (.int xx), .val (.int yy), .val (.int zz), .val (.int uu), .val (.int tt), .val (.ref b1), .val (.ref b3), .val (.int Rv55.2), .unset] [])) t
      refine XS.iload X55.here hx rfl (hb hby at_74) rfl ?_
      show Steps p.tables e below (T55.setTop (mkF m 76 #[.val (.int p1), .val (.int p2), .val (.int p3), .val (.int p4), .val (.int p5), .val (.int p6), .val (.int cc), .val (.int xx), .val (.int yy), .val (.int zz), .val (.int uu), .val (.int tt), .val (.ref b1), .val (.ref b3), .val (.int Rv55.2), .unset] [(.int cc)])) t
      refine XS.iconst X55.here hx rfl (hb hby at_76) ?_
      exact k
    by_cases hc77_56 : cc < (2 : Int32)
    · refine own_via (S' := T55.setTop (mkF m 98 #[.val (.int p1), .val (.int p2), .val (.int p3), .val (.int p4), .val (.int p5), .val (.int p6), .val (.int cc), .val (.int xx), .val (.int yy), .val (.int zz), .val (.int uu), .val (.int tt), .val (.ref b1), .val (.ref b3), .val (.int Rv55.2), .unset] [])) (fun t k => XS.icmpYes (g := (mkF m 77 #[.val (.int p1), .val (.int p2), .val (.int p3), .val (.int p4), .val (.int p5), .val (.int p6), .val (.int cc), .val (.int xx), .val (.int yy), .val (.int zz), .val (.int uu), .val (.int tt), .val (.ref b1), .val (.ref b3), .val (.int Rv55.2), .unset] [(.int (2 : Int32)), (.int cc)])) X55.here hx rfl (pc0 := 77) (pc' := 98) rfl (hb hby at_77) rfl (tlt hc77_56).1 (by decide) (by decide) k) ?_
      refine own_via (S' := T55.setTop (mkF m 101 #[.val (.int p1), .val (.int p2), .val (.int p3), .val (.int p4), .val (.int p5), .val (.int p6), .val (.int cc), .val (.int xx), .val (.int yy), .val (.int zz), .val (.int uu), .val (.int tt), .val (.ref b1), .val (.ref b3), .val (.int Rv55.2), .unset] [(.int (3 : Int32)), (.int cc)])) (fun t k => ?_) ?_
      · show Steps p.tables e below (T55.setTop (mkF m 98 #[.val (.int p1), .val (.int p2), .val (.int p3), .val (.int p4), .val (.int p5), .val (.int p6), .val (.int cc), .val (.int xx), .val (.int yy), .val (.int zz), .val (.int uu), .val (.int tt), .val (.ref b1), .val (.ref b3), .val (.int Rv55.2), .unset] [])) t
        refine XS.iload X55.here hx rfl (hb hby at_98) rfl ?_
        show Steps p.tables e below (T55.setTop (mkF m 100 #[.val (.int p1), .val (.int p2), .val (.int p3), .val (.int p4), .val (.int p5), .val (.int p6), .val (.int cc), .val (.int xx), .val (.int yy), .val (.int zz), .val (.int uu), .val (.int tt), .val (.ref b1), .val (.ref b3), .val (.int Rv55.2), .unset] [(.int cc)])) t
        refine XS.iconst X55.here hx rfl (hb hby at_100) ?_
        exact k
      refine own_via (S' := T55.setTop (mkF m 122 #[.val (.int p1), .val (.int p2), .val (.int p3), .val (.int p4), .val (.int p5), .val (.int p6), .val (.int cc), .val (.int xx), .val (.int yy), .val (.int zz), .val (.int uu), .val (.int tt), .val (.ref b1), .val (.ref b3), .val (.int Rv55.2), .unset] [])) (fun t k => XS.icmpYes (g := (mkF m 101 #[.val (.int p1), .val (.int p2), .val (.int p3), .val (.int p4), .val (.int p5), .val (.int p6), .val (.int cc), .val (.int xx), .val (.int yy), .val (.int zz), .val (.int uu), .val (.int tt), .val (.ref b1), .val (.ref b3), .val (.int Rv55.2), .unset] [(.int (3 : Int32)), (.int cc)])) X55.here hx rfl (pc0 := 101) (pc' := 122) rfl (hb hby at_101) rfl (tlt (own_q23 hc77_56)).1 (by decide) (by decide) k) ?_
      refine own_via (S' := T55.setTop (mkF m 126 #[.val (.int p1), .val (.int p2), .val (.int p3), .val (.int p4), .val (.int p5), .val (.int p6), .val (.int cc), .val (.int xx), .val (.int yy), .val (.int zz), .val (.int uu), .val (.int tt), .val (.ref b1), .val (.ref b3), .val (.int Rv55.2), .unset] [(.int uu), (.ref b1)])) (fun t k => ?_) ?_
      · show Steps p.tables e below (T55.setTop (mkF m 122 #[.val (.int p1), .val (.int p2), .val (.int p3), .val (.int p4), .val (.int p5), .val (.int p6), .val (.int cc), .val (.int xx), .val (.int yy), .val (.int zz), .val (.int uu), .val (.int tt), .val (.ref b1), .val (.ref b3), .val (.int Rv55.2), .unset] [])) t
        refine XS.aload X55.here hx rfl (hb hby at_122) rfl rfl ?_
        show Steps p.tables e below (T55.setTop (mkF m 124 #[.val (.int p1), .val (.int p2), .val (.int p3), .val (.int p4), .val (.int p5), .val (.int p6), .val (.int cc), .val (.int xx), .val (.int yy), .val (.int zz), .val (.int uu), .val (.int tt), .val (.ref b1), .val (.ref b3), .val (.int Rv55.2), .unset] [(.ref b1)])) t
        refine XS.iload X55.here hx rfl (hb hby at_124) rfl ?_
        exact k
      have hk58 : own_chk Sv53 Rv55 uu tt := own_k1 hd_xx hd_uu hd_tt hS53 hR55
      obtain ⟨ka58, kb58, kc58, kd58, ke58⟩ := hk58
      have c59 := (Exa.keep DE53 Kc55)
      have c60 := (Fld.keep DM53 Kc55 (ninS ne_b1_b3 nin0))
      have c61 := (Fld.keep DP53 Kc55 (ninS ne_b1_b3 nin0))
      have c62 := (Fld.keep DZ53 Kc55 (ninS ne_b1_b3 nin0))
      have c63 := (own_Ar.keep DA53 Kc55 (ninS ne_bm2_b3 nin0))
      have c64 := (own_Ar.keep DB53 Kc55 (ninS ne_bp2_b3 nin0))
      obtain ⟨cq65, kq65, q65a, q65b, q65c⟩ := isOf hZ rfl c59
      obtain ⟨_, _, ⟨T65, L65, k65, n65⟩, -, X65, ⟨Lc65, hQ65, l65, y65, z65⟩, st65⟩ := X55.virtualBack hx (y := (⟨"com/example/vendace/vendace/localrecoding/DenseSet", "remove", "(I)V"⟩ : MethodName)) (z := (⟨"com/example/vendace/vendace/localrecoding/DenseSet", "remove", "(I)V"⟩ : MethodName)) hown (mvT hZ (hw _ (List.mem_of_getElem? (i := 18) rfl))) (mvT hZ (hw _ (List.mem_of_getElem? (i := 19) rfl))) (notFace_of_selects (args := #[]) (mvT hZ (hw _ (List.mem_of_getElem? (i := 21) rfl)))) (mvT hZ (hw _ (List.mem_of_getElem? (i := 21) rfl))) (mvT hZ (hw _ (List.mem_of_getElem? (i := 20) rfl))) (by decide) (backOf (W := 0) (rm4 l Z a0 hw [] b1 uu bm2 bp2 km2 kp2 (4 : Int32) Sv53 T55.heap n0 (Nat.le_trans Z0 K55.1) ⟨c59, c60, c61, c62, c63, c64⟩ na2 nb2 nc2 g_b1 gm2 gp2 ka58) hZ (hw _ (List.mem_of_getElem? (i := 22) rfl)) (hw _ (List.mem_of_getElem? (i := 2) rfl)) (by decide) (by decide)) q65a q65c (g := (mkF m 126 #[.val (.int p1), .val (.int p2), .val (.int p3), .val (.int p4), .val (.int p5), .val (.int p6), .val (.int cc), .val (.int xx), .val (.int yy), .val (.int zz), .val (.int uu), .val (.int tt), .val (.ref b1), .val (.ref b3), .val (.int Rv55.2), .unset] [(.int uu), (.ref b1)])) rfl (by rw [hml]; rfl) (Steps.refl _) (argsL := [(.int uu)]) (rest := []) (lenOf pd_2 rfl) rfl (by show 2 * 0 + _ ≤ _; exact Nat.le_of_eq rfl) (hb hby at_126) (fun _ _ => ⟨rfl, rfl, (by decide : 4 + 0 ≤ _), (by decide : 15 + 0 ≤ _)⟩)
      dsimp only [Pt.U, Pt.locs, Pt.cells, Pt.slots] at X65 l65 y65 z65 st65 hQ65
      subst l65 y65 z65
      obtain ⟨rfl, Nq65, Kc65, Sv65, hS65, DS65⟩ := hQ65
      have N65 := Fr.app N55 Nq65
      refine own_via (fun t k => st65.trans k) ?_
      show own_G p.tables e below _ (T65.setTop (mkF m 129 #[.val (.int p1), .val (.int p2), .val (.int p3), .val (.int p4), .val (.int p5), .val (.int p6), .val (.int cc), .val (.int xx), .val (.int yy), .val (.int zz), .val (.int uu), .val (.int tt), .val (.ref b1), .val (.ref b3), .val (.int Rv55.2), .unset] []))
      have K65 : Keep h0 T65.heap [] := Keep.trans K55 Kc65 (allS (Or.inr sz_b1) (allS (Or.inr sm2) (allS (Or.inr sp2) all0)))
      obtain ⟨DE65, DM65, DP65, DZ65, DA65, DB65⟩ := id DS65
      rw [← hS65] at kc58 ke58
      refine own_via (S' := T65.setTop (mkF m 135 #[.val (.int p1), .val (.int p2), .val (.int p3), .val (.int p4), .val (.int p5), .val (.int p6), .val (.int cc), .val (.int xx), .val (.int yy), .val (.int zz), .val (.int uu), .val (.int tt), .val (.ref b1), .val (.ref b3), .val (.int Rv55.2), .unset] [(.int uu), (.int Rv55.2), (.ref b3)])) (fun t k => ?_) ?_
      · show Steps p.tables e below (T65.setTop (mkF m 129 #[.val (.int p1), .val (.int p2), .val (.int p3), .val (.int p4), .val (.int p5), .val (.int p6), .val (.int cc), .val (.int xx), .val (.int yy), .val (.int zz), .val (.int uu), .val (.int tt), .val (.ref b1), .val (.ref b3), .val (.int Rv55.2), .unset] [])) t
        refine XS.aload X65.here hx rfl (hb hby at_129) rfl rfl ?_
        show Steps p.tables e below (T65.setTop (mkF m 131 #[.val (.int p1), .val (.int p2), .val (.int p3), .val (.int p4), .val (.int p5), .val (.int p6), .val (.int cc), .val (.int xx), .val (.int yy), .val (.int zz), .val (.int uu), .val (.int tt), .val (.ref b1), .val (.ref b3), .val (.int Rv55.2), .unset] [(.ref b3)])) t
        refine XS.iload X65.here hx rfl (hb hby at_131) rfl ?_
        show Steps p.tables e below (T65.setTop (mkF m 133 #[.val (.int p1), .val (.int p2), .val (.int p3), .val (.int p4), .val (.int p5), .val (.int p6), .val (.int cc), .val (.int xx), .val (.int yy), .val (.int zz), .val (.int uu), .val (.int tt), .val (.ref b1), .val (.ref b3), .val (.int Rv55.2), .unset] [(.int Rv55.2), (.ref b3)])) t
        refine XS.iload X65.here hx rfl (hb hby at_133) rfl ?_
        exact k
      have c66 := (own_Ar.keep Vc55 Kc65 (ninS (Ne.symm ne_b1_b3) (ninS (Ne.symm ne_bm2_b3) (ninS (Ne.symm ne_bp2_b3) nin0))))
      obtain ⟨_, _, ⟨T67, L67, k67, n67⟩, -, X67, ⟨Lc67, hQ67, l67, y67, z67⟩, st67⟩ := Jvm.LawKit.callS X65 hx (y := (⟨"com/example/vendace/vendace/localrecoding/DenseSetRemovePinLaw", "refRemove", "([III)I"⟩ : MethodName)) hown (mvT hZ (hw _ (List.mem_of_getElem? (i := 23) rfl))) (mvT hZ (hw _ (List.mem_of_getElem? (i := 24) rfl))) (mvT hZ (hw _ (List.mem_of_getElem? (i := 25) rfl))) (mvT hZ (hw _ (List.mem_of_getElem? (i := 26) rfl))) (by decide) (backOf (W := 0) (rm5 l Z a0 hw [] b3 Rv55.2 uu k3 Rv55.1 T65.heap n0 (Nat.le_trans Z0 K65.1) c66 g_b3 kb58) hZ (hw _ (List.mem_of_getElem? (i := 26) rfl)) (hw _ (List.mem_of_getElem? (i := 25) rfl)) (by decide) (by decide)) (g := (mkF m 135 #[.val (.int p1), .val (.int p2), .val (.int p3), .val (.int p4), .val (.int p5), .val (.int p6), .val (.int cc), .val (.int xx), .val (.int yy), .val (.int zz), .val (.int uu), .val (.int tt), .val (.ref b1), .val (.ref b3), .val (.int Rv55.2), .unset] [(.int uu), (.int Rv55.2), (.ref b3)])) rfl (by rw [hml]; rfl) (argsL := [(.ref b3), (.int Rv55.2), (.int uu)]) (rest := []) (lenOf pd_3 rfl) rfl (by show 2 * 0 + _ ≤ _; exact Nat.le_of_eq rfl) (hb hby at_135) (fun _ _ => ⟨rfl, rfl, (by decide : 4 + 0 ≤ _), (by decide : 15 + 0 ≤ _)⟩)
      dsimp only [Pt.U, Pt.locs, Pt.cells, Pt.slots] at X67 l67 y67 z67 st67 hQ67
      subst l67 y67 z67
      obtain ⟨Rv67, hR67, rfl, Nq67, Kc67, Vc67⟩ := hQ67
      have N67 := Fr.app N65 Nq67
      refine own_via st67 ?_
      show own_G p.tables e below _ (T67.setTop (mkF m 138 #[.val (.int p1), .val (.int p2), .val (.int p3), .val (.int p4), .val (.int p5), .val (.int p6), .val (.int cc), .val (.int xx), .val (.int yy), .val (.int zz), .val (.int uu), .val (.int tt), .val (.ref b1), .val (.ref b3), .val (.int Rv55.2), .unset] [(.int Rv67.2)]))
      have K67 : Keep h0 T67.heap [] := Keep.trans K65 Kc67 (allS (Or.inr sz_b3) all0)
      rw [← hR67] at kd58 ke58
      refine own_via (S' := T67.setTop (mkF m 144 #[.val (.int p1), .val (.int p2), .val (.int p3), .val (.int p4), .val (.int p5), .val (.int p6), .val (.int cc), .val (.int xx), .val (.int yy), .val (.int zz), .val (.int uu), .val (.int tt), .val (.ref b1), .val (.ref b3), .val (.int Rv67.2), .unset] [(.int tt), (.ref b1)])) (fun t k => ?_) ?_
      · show Steps p.tables e below (T67.setTop (mkF m 138 #[.val (.int p1), .val (.int p2), .val (.int p3), .val (.int p4), .val (.int p5), .val (.int p6), .val (.int cc), .val (.int xx), .val (.int yy), .val (.int zz), .val (.int uu), .val (.int tt), .val (.ref b1), .val (.ref b3), .val (.int Rv55.2), .unset] [(.int Rv67.2)])) t
        refine XS.istore X67.here hx rfl (hb hby at_138) rfl (l' := #[.val (.int p1), .val (.int p2), .val (.int p3), .val (.int p4), .val (.int p5), .val (.int p6), .val (.int cc), .val (.int xx), .val (.int yy), .val (.int zz), .val (.int uu), .val (.int tt), .val (.ref b1), .val (.ref b3), .val (.int Rv67.2), .unset]) rfl ?_
        show Steps p.tables e below (T67.setTop (mkF m 140 #[.val (.int p1), .val (.int p2), .val (.int p3), .val (.int p4), .val (.int p5), .val (.int p6), .val (.int cc), .val (.int xx), .val (.int yy), .val (.int zz), .val (.int uu), .val (.int tt), .val (.ref b1), .val (.ref b3), .val (.int Rv67.2), .unset] [])) t
        refine XS.aload X67.here hx rfl (hb hby at_140) rfl rfl ?_
        show Steps p.tables e below (T67.setTop (mkF m 142 #[.val (.int p1), .val (.int p2), .val (.int p3), .val (.int p4), .val (.int p5), .val (.int p6), .val (.int cc), .val (.int xx), .val (.int yy), .val (.int zz), .val (.int uu), .val (.int tt), .val (.ref b1), .val (.ref b3), .val (.int Rv67.2), .unset] [(.ref b1)])) t
        refine XS.iload X67.here hx rfl (hb hby at_142) rfl ?_
        exact k
      have c68 := (Exa.keep DE65 Kc67)
      have c69 := (Fld.keep DM65 Kc67 (ninS ne_b1_b3 nin0))
      have c70 := (Fld.keep DP65 Kc67 (ninS ne_b1_b3 nin0))
      have c71 := (Fld.keep DZ65 Kc67 (ninS ne_b1_b3 nin0))
      have c72 := (own_Ar.keep DA65 Kc67 (ninS ne_bm2_b3 nin0))
      have c73 := (own_Ar.keep DB65 Kc67 (ninS ne_bp2_b3 nin0))
      obtain ⟨cq74, kq74, q74a, q74b, q74c⟩ := isOf hZ rfl c68
      obtain ⟨_, _, ⟨T74, L74, k74, n74⟩, -, X74, ⟨Lc74, hQ74, l74, y74, z74⟩, st74⟩ := X67.virtualBack hx (y := (⟨"com/example/vendace/vendace/localrecoding/DenseSet", "remove", "(I)V"⟩ : MethodName)) (z := (⟨"com/example/vendace/vendace/localrecoding/DenseSet", "remove", "(I)V"⟩ : MethodName)) hown (mvT hZ (hw _ (List.mem_of_getElem? (i := 18) rfl))) (mvT hZ (hw _ (List.mem_of_getElem? (i := 19) rfl))) (notFace_of_selects (args := #[]) (mvT hZ (hw _ (List.mem_of_getElem? (i := 21) rfl)))) (mvT hZ (hw _ (List.mem_of_getElem? (i := 21) rfl))) (mvT hZ (hw _ (List.mem_of_getElem? (i := 20) rfl))) (by decide) (backOf (W := 0) (rm4 l Z a0 hw [] b1 tt bm2 bp2 km2 kp2 (4 : Int32) Sv65 T67.heap n0 (Nat.le_trans Z0 K67.1) ⟨c68, c69, c70, c71, c72, c73⟩ na2 nb2 nc2 g_b1 gm2 gp2 kc58) hZ (hw _ (List.mem_of_getElem? (i := 22) rfl)) (hw _ (List.mem_of_getElem? (i := 2) rfl)) (by decide) (by decide)) q74a q74c (g := (mkF m 144 #[.val (.int p1), .val (.int p2), .val (.int p3), .val (.int p4), .val (.int p5), .val (.int p6), .val (.int cc), .val (.int xx), .val (.int yy), .val (.int zz), .val (.int uu), .val (.int tt), .val (.ref b1), .val (.ref b3), .val (.int Rv67.2), .unset] [(.int tt), (.ref b1)])) rfl (by rw [hml]; rfl) (Steps.refl _) (argsL := [(.int tt)]) (rest := []) (lenOf pd_2 rfl) rfl (by show 2 * 0 + _ ≤ _; exact Nat.le_of_eq rfl) (hb hby at_144) (fun _ _ => ⟨rfl, rfl, (by decide : 4 + 0 ≤ _), (by decide : 15 + 0 ≤ _)⟩)
      dsimp only [Pt.U, Pt.locs, Pt.cells, Pt.slots] at X74 l74 y74 z74 st74 hQ74
      subst l74 y74 z74
      obtain ⟨rfl, Nq74, Kc74, Sv74, hS74, DS74⟩ := hQ74
      have N74 := Fr.app N67 Nq74
      refine own_via (fun t k => st74.trans k) ?_
      show own_G p.tables e below _ (T74.setTop (mkF m 147 #[.val (.int p1), .val (.int p2), .val (.int p3), .val (.int p4), .val (.int p5), .val (.int p6), .val (.int cc), .val (.int xx), .val (.int yy), .val (.int zz), .val (.int uu), .val (.int tt), .val (.ref b1), .val (.ref b3), .val (.int Rv67.2), .unset] []))
      have K74 : Keep h0 T74.heap [] := Keep.trans K67 Kc74 (allS (Or.inr sz_b1) (allS (Or.inr sm2) (allS (Or.inr sp2) all0)))
      obtain ⟨DE74, DM74, DP74, DZ74, DA74, DB74⟩ := id DS74
      rw [← hS74] at ke58
      refine own_via (S' := T74.setTop (mkF m 153 #[.val (.int p1), .val (.int p2), .val (.int p3), .val (.int p4), .val (.int p5), .val (.int p6), .val (.int cc), .val (.int xx), .val (.int yy), .val (.int zz), .val (.int uu), .val (.int tt), .val (.ref b1), .val (.ref b3), .val (.int Rv67.2), .unset] [(.int tt), (.int Rv67.2), (.ref b3)])) (fun t k => ?_) ?_
      · show Steps p.tables e below (T74.setTop (mkF m 147 #[.val (.int p1), .val (.int p2), .val (.int p3), .val (.int p4), .val (.int p5), .val (.int p6), .val (.int cc), .val (.int xx), .val (.int yy), .val (.int zz), .val (.int uu), .val (.int tt), .val (.ref b1), .val (.ref b3), .val (.int Rv67.2), .unset] [])) t
        refine XS.aload X74.here hx rfl (hb hby at_147) rfl rfl ?_
        show Steps p.tables e below (T74.setTop (mkF m 149 #[.val (.int p1), .val (.int p2), .val (.int p3), .val (.int p4), .val (.int p5), .val (.int p6), .val (.int cc), .val (.int xx), .val (.int yy), .val (.int zz), .val (.int uu), .val (.int tt), .val (.ref b1), .val (.ref b3), .val (.int Rv67.2), .unset] [(.ref b3)])) t
        refine XS.iload X74.here hx rfl (hb hby at_149) rfl ?_
        show Steps p.tables e below (T74.setTop (mkF m 151 #[.val (.int p1), .val (.int p2), .val (.int p3), .val (.int p4), .val (.int p5), .val (.int p6), .val (.int cc), .val (.int xx), .val (.int yy), .val (.int zz), .val (.int uu), .val (.int tt), .val (.ref b1), .val (.ref b3), .val (.int Rv67.2), .unset] [(.int Rv67.2), (.ref b3)])) t
        refine XS.iload X74.here hx rfl (hb hby at_151) rfl ?_
        exact k
      have c75 := (own_Ar.keep Vc67 Kc74 (ninS (Ne.symm ne_b1_b3) (ninS (Ne.symm ne_bm2_b3) (ninS (Ne.symm ne_bp2_b3) nin0))))
      obtain ⟨_, _, ⟨T76, L76, k76, n76⟩, -, X76, ⟨Lc76, hQ76, l76, y76, z76⟩, st76⟩ := Jvm.LawKit.callS X74 hx (y := (⟨"com/example/vendace/vendace/localrecoding/DenseSetRemovePinLaw", "refRemove", "([III)I"⟩ : MethodName)) hown (mvT hZ (hw _ (List.mem_of_getElem? (i := 23) rfl))) (mvT hZ (hw _ (List.mem_of_getElem? (i := 24) rfl))) (mvT hZ (hw _ (List.mem_of_getElem? (i := 25) rfl))) (mvT hZ (hw _ (List.mem_of_getElem? (i := 26) rfl))) (by decide) (backOf (W := 0) (rm5 l Z a0 hw [] b3 Rv67.2 tt k3 Rv67.1 T74.heap n0 (Nat.le_trans Z0 K74.1) c75 g_b3 kd58) hZ (hw _ (List.mem_of_getElem? (i := 26) rfl)) (hw _ (List.mem_of_getElem? (i := 25) rfl)) (by decide) (by decide)) (g := (mkF m 153 #[.val (.int p1), .val (.int p2), .val (.int p3), .val (.int p4), .val (.int p5), .val (.int p6), .val (.int cc), .val (.int xx), .val (.int yy), .val (.int zz), .val (.int uu), .val (.int tt), .val (.ref b1), .val (.ref b3), .val (.int Rv67.2), .unset] [(.int tt), (.int Rv67.2), (.ref b3)])) rfl (by rw [hml]; rfl) (argsL := [(.ref b3), (.int Rv67.2), (.int tt)]) (rest := []) (lenOf pd_3 rfl) rfl (by show 2 * 0 + _ ≤ _; exact Nat.le_of_eq rfl) (hb hby at_153) (fun _ _ => ⟨rfl, rfl, (by decide : 4 + 0 ≤ _), (by decide : 15 + 0 ≤ _)⟩)
      dsimp only [Pt.U, Pt.locs, Pt.cells, Pt.slots] at X76 l76 y76 z76 st76 hQ76
      subst l76 y76 z76
      obtain ⟨Rv76, hR76, rfl, Nq76, Kc76, Vc76⟩ := hQ76
      have N76 := Fr.app N74 Nq76
      refine own_via st76 ?_
      show own_G p.tables e below _ (T76.setTop (mkF m 156 #[.val (.int p1), .val (.int p2), .val (.int p3), .val (.int p4), .val (.int p5), .val (.int p6), .val (.int cc), .val (.int xx), .val (.int yy), .val (.int zz), .val (.int uu), .val (.int tt), .val (.ref b1), .val (.ref b3), .val (.int Rv67.2), .unset] [(.int Rv76.2)]))
      have K76 : Keep h0 T76.heap [] := Keep.trans K74 Kc76 (allS (Or.inr sz_b3) all0)
      rw [← hR76] at ke58
      obtain ⟨ea58, eb58, ec58, ed58⟩ := ke58
      refine own_via (S' := T76.setTop (mkF m 160 #[.val (.int p1), .val (.int p2), .val (.int p3), .val (.int p4), .val (.int p5), .val (.int p6), .val (.int cc), .val (.int xx), .val (.int yy), .val (.int zz), .val (.int uu), .val (.int tt), .val (.ref b1), .val (.ref b3), .val (.int Rv76.2), .unset] [(.ref b1)])) (fun t k => ?_) ?_
      · show Steps p.tables e below (T76.setTop (mkF m 156 #[.val (.int p1), .val (.int p2), .val (.int p3), .val (.int p4), .val (.int p5), .val (.int p6), .val (.int cc), .val (.int xx), .val (.int yy), .val (.int zz), .val (.int uu), .val (.int tt), .val (.ref b1), .val (.ref b3), .val (.int Rv67.2), .unset] [(.int Rv76.2)])) t
        refine XS.istore X76.here hx rfl (hb hby at_156) rfl (l' := #[.val (.int p1), .val (.int p2), .val (.int p3), .val (.int p4), .val (.int p5), .val (.int p6), .val (.int cc), .val (.int xx), .val (.int yy), .val (.int zz), .val (.int uu), .val (.int tt), .val (.ref b1), .val (.ref b3), .val (.int Rv76.2), .unset]) rfl ?_
        show Steps p.tables e below (T76.setTop (mkF m 158 #[.val (.int p1), .val (.int p2), .val (.int p3), .val (.int p4), .val (.int p5), .val (.int p6), .val (.int cc), .val (.int xx), .val (.int yy), .val (.int zz), .val (.int uu), .val (.int tt), .val (.ref b1), .val (.ref b3), .val (.int Rv76.2), .unset] [])) t
        refine XS.aload X76.here hx rfl (hb hby at_158) rfl rfl ?_
        exact k
      have c77 := (Fld.keep DZ74 Kc76 (ninS ne_b1_b3 nin0))
      have c79 := (Exa.keep DE74 Kc76)
      obtain ⟨cq78, kq78, q78a, q78b, q78c⟩ := isOf hZ rfl c79
      obtain ⟨_, _, ⟨T78, L78, k78, n78⟩, -, X78, ⟨Lc78, hQ78, l78, y78, z78⟩, st78⟩ := X76.virtualBack hx (y := (⟨"com/example/vendace/vendace/localrecoding/DenseSet", "size", "()I"⟩ : MethodName)) (z := (⟨"com/example/vendace/vendace/localrecoding/DenseSet", "size", "()I"⟩ : MethodName)) hown (mvT hZ (hw _ (List.mem_of_getElem? (i := 27) rfl))) (mvT hZ (hw _ (List.mem_of_getElem? (i := 28) rfl))) (notFace_of_selects (args := #[]) (mvT hZ (hw _ (List.mem_of_getElem? (i := 30) rfl)))) (mvT hZ (hw _ (List.mem_of_getElem? (i := 30) rfl))) (mvT hZ (hw _ (List.mem_of_getElem? (i := 29) rfl))) (by decide) (backOf (W := 0) (rm6 l Z a0 hw [] b1 Sv74.2.2 T76.heap n0 (Nat.le_trans Z0 K76.1) c77) hZ (hw _ (List.mem_of_getElem? (i := 31) rfl)) (hw _ (List.mem_of_getElem? (i := 2) rfl)) (by decide) (by decide)) q78a q78c (g := (mkF m 160 #[.val (.int p1), .val (.int p2), .val (.int p3), .val (.int p4), .val (.int p5), .val (.int p6), .val (.int cc), .val (.int xx), .val (.int yy), .val (.int zz), .val (.int uu), .val (.int tt), .val (.ref b1), .val (.ref b3), .val (.int Rv76.2), .unset] [(.ref b1)])) rfl (by rw [hml]; rfl) (Steps.refl _) (argsL := []) (rest := []) (lenOf pd_4 rfl) rfl (by show 2 * 0 + _ ≤ _; exact Nat.le_of_eq rfl) (hb hby at_160) (fun _ _ => ⟨rfl, rfl, (by decide : 4 + 0 ≤ _), (by decide : 15 + 0 ≤ _)⟩)
      dsimp only [Pt.U, Pt.locs, Pt.cells, Pt.slots] at X78 l78 y78 z78 st78 hQ78
      subst l78 y78 z78
      obtain ⟨rfl, Nq78, hh78⟩ := hQ78
      have N78 := Fr.app N76 Nq78
      refine own_via (fun t k => st78.trans k) ?_
      show own_G p.tables e below _ (T78.setTop (mkF m 163 #[.val (.int p1), .val (.int p2), .val (.int p3), .val (.int p4), .val (.int p5), .val (.int p6), .val (.int cc), .val (.int xx), .val (.int yy), .val (.int zz), .val (.int uu), .val (.int tt), .val (.ref b1), .val (.ref b3), .val (.int Rv76.2), .unset] [(.int Sv74.2.2)]))
      refine own_via (S' := T78.setTop (mkF m 165 #[.val (.int p1), .val (.int p2), .val (.int p3), .val (.int p4), .val (.int p5), .val (.int p6), .val (.int cc), .val (.int xx), .val (.int yy), .val (.int zz), .val (.int uu), .val (.int tt), .val (.ref b1), .val (.ref b3), .val (.int Rv76.2), .unset] [(.int Rv76.2), (.int Sv74.2.2)])) (fun t k => ?_) ?_
      · show Steps p.tables e below (T78.setTop (mkF m 163 #[.val (.int p1), .val (.int p2), .val (.int p3), .val (.int p4), .val (.int p5), .val (.int p6), .val (.int cc), .val (.int xx), .val (.int yy), .val (.int zz), .val (.int uu), .val (.int tt), .val (.ref b1), .val (.ref b3), .val (.int Rv76.2), .unset] [(.int Sv74.2.2)])) t
        refine XS.iload X78.here hx rfl (hb hby at_163) rfl ?_
        exact k
      refine own_via (S' := T78.setTop (mkF m 170 #[.val (.int p1), .val (.int p2), .val (.int p3), .val (.int p4), .val (.int p5), .val (.int p6), .val (.int cc), .val (.int xx), .val (.int yy), .val (.int zz), .val (.int uu), .val (.int tt), .val (.ref b1), .val (.ref b3), .val (.int Rv76.2), .unset] [])) (fun t k => XS.icmpYes (g := (mkF m 165 #[.val (.int p1), .val (.int p2), .val (.int p3), .val (.int p4), .val (.int p5), .val (.int p6), .val (.int cc), .val (.int xx), .val (.int yy), .val (.int zz), .val (.int uu), .val (.int tt), .val (.ref b1), .val (.ref b3), .val (.int Rv76.2), .unset] [(.int Rv76.2), (.int Sv74.2.2)])) X78.here hx rfl (pc0 := 165) (pc' := 170) rfl (hb hby at_165) rfl (teq ea58).1 (by decide) (by decide) k) ?_
      refine own_via (S' := T78.setTop (mkF m 175 #[.val (.int p1), .val (.int p2), .val (.int p3), .val (.int p4), .val (.int p5), .val (.int p6), .val (.int cc), .val (.int xx), .val (.int yy), .val (.int zz), .val (.int uu), .val (.int tt), .val (.ref b1), .val (.ref b3), .val (.int Rv76.2), .val (.int (1 : Int32))] [(.int Rv76.2)])) (fun t k => ?_) ?_
      · show Steps p.tables e below (T78.setTop (mkF m 170 #[.val (.int p1), .val (.int p2), .val (.int p3), .val (.int p4), .val (.int p5), .val (.int p6), .val (.int cc), .val (.int xx), .val (.int yy), .val (.int zz), .val (.int uu), .val (.int tt), .val (.ref b1), .val (.ref b3), .val (.int Rv76.2), .unset] [])) t
        refine XS.iconst X78.here hx rfl (hb hby at_170) ?_
        show Steps p.tables e below (T78.setTop (mkF m 171 #[.val (.int p1), .val (.int p2), .val (.int p3), .val (.int p4), .val (.int p5), .val (.int p6), .val (.int cc), .val (.int xx), .val (.int yy), .val (.int zz), .val (.int uu), .val (.int tt), .val (.ref b1), .val (.ref b3), .val (.int Rv76.2), .unset] [(.int (1 : Int32))])) t
        refine XS.istore X78.here hx rfl (hb hby at_171) rfl (l' := #[.val (.int p1), .val (.int p2), .val (.int p3), .val (.int p4), .val (.int p5), .val (.int p6), .val (.int cc), .val (.int xx), .val (.int yy), .val (.int zz), .val (.int uu), .val (.int tt), .val (.ref b1), .val (.ref b3), .val (.int Rv76.2), .val (.int (1 : Int32))]) rfl ?_
        show Steps p.tables e below (T78.setTop (mkF m 173 #[.val (.int p1), .val (.int p2), .val (.int p3), .val (.int p4), .val (.int p5), .val (.int p6), .val (.int cc), .val (.int xx), .val (.int yy), .val (.int zz), .val (.int uu), .val (.int tt), .val (.ref b1), .val (.ref b3), .val (.int Rv76.2), .val (.int (1 : Int32))] [])) t
        refine XS.iload X78.here hx rfl (hb hby at_173) rfl ?_
        exact k
      by_cases hc175_81 : (0 : Int32) < Rv76.2
      · refine own_via (S' := T78.setTop (mkF m 178 #[.val (.int p1), .val (.int p2), .val (.int p3), .val (.int p4), .val (.int p5), .val (.int p6), .val (.int cc), .val (.int xx), .val (.int yy), .val (.int zz), .val (.int uu), .val (.int tt), .val (.ref b1), .val (.ref b3), .val (.int Rv76.2), .val (.int (1 : Int32))] [])) (fun t k => XS.ifNo (g := (mkF m 175 #[.val (.int p1), .val (.int p2), .val (.int p3), .val (.int p4), .val (.int p5), .val (.int p6), .val (.int cc), .val (.int xx), .val (.int yy), .val (.int zz), .val (.int uu), .val (.int tt), .val (.ref b1), .val (.ref b3), .val (.int Rv76.2), .val (.int (1 : Int32))] [(.int Rv76.2)])) X78.here hx rfl (hb hby at_175) rfl ((if0 _ _).trans (tlt hc175_81).2.2.2) k) ?_
        refine own_via (S' := T78.setTop (mkF m 181 #[.val (.int p1), .val (.int p2), .val (.int p3), .val (.int p4), .val (.int p5), .val (.int p6), .val (.int cc), .val (.int xx), .val (.int yy), .val (.int zz), .val (.int uu), .val (.int tt), .val (.ref b1), .val (.ref b3), .val (.int Rv76.2), .val (.int (1 : Int32))] [(.int (0 : Int32)), (.ref b1)])) (fun t k => ?_) ?_
        · show Steps p.tables e below (T78.setTop (mkF m 178 #[.val (.int p1), .val (.int p2), .val (.int p3), .val (.int p4), .val (.int p5), .val (.int p6), .val (.int cc), .val (.int xx), .val (.int yy), .val (.int zz), .val (.int uu), .val (.int tt), .val (.ref b1), .val (.ref b3), .val (.int Rv76.2), .val (.int (1 : Int32))] [])) t
          refine XS.aload X78.here hx rfl (hb hby at_178) rfl rfl ?_
          show Steps p.tables e below (T78.setTop (mkF m 180 #[.val (.int p1), .val (.int p2), .val (.int p3), .val (.int p4), .val (.int p5), .val (.int p6), .val (.int cc), .val (.int xx), .val (.int yy), .val (.int zz), .val (.int uu), .val (.int tt), .val (.ref b1), .val (.ref b3), .val (.int Rv76.2), .val (.int (1 : Int32))] [(.ref b1)])) t
          refine XS.iconst X78.here hx rfl (hb hby at_180) ?_
          exact k
        have c82 := (Fld.keep DM74 Kc76 (ninS ne_b1_b3 nin0))
        have c83 := (own_Ar.keep DA74 Kc76 (ninS ne_bm2_b3 nin0))
        obtain ⟨cq84, kq84, q84a, q84b, q84c⟩ := isOf hZ hh78 c79
        obtain ⟨_, _, ⟨T84, L84, k84, n84⟩, -, X84, ⟨Lc84, hQ84, l84, y84, z84⟩, st84⟩ := X78.virtualBack hx (y := (⟨"com/example/vendace/vendace/localrecoding/DenseSet", "member", "(I)I"⟩ : MethodName)) (z := (⟨"com/example/vendace/vendace/localrecoding/DenseSet", "member", "(I)I"⟩ : MethodName)) hown (mvT hZ (hw _ (List.mem_of_getElem? (i := 45) rfl))) (mvT hZ (hw _ (List.mem_of_getElem? (i := 46) rfl))) (notFace_of_selects (args := #[]) (mvT hZ (hw _ (List.mem_of_getElem? (i := 48) rfl)))) (mvT hZ (hw _ (List.mem_of_getElem? (i := 48) rfl))) (mvT hZ (hw _ (List.mem_of_getElem? (i := 47) rfl))) (by decide) (backOf (W := 0) (rm10 l Z a0 hw [] b1 (0 : Int32) bm2 km2 (4 : Int32) Sv74.1 T76.heap n0 (Nat.le_trans Z0 K76.1) c82 c83 ⟨by decide, by decide⟩) hZ (hw _ (List.mem_of_getElem? (i := 49) rfl)) (hw _ (List.mem_of_getElem? (i := 2) rfl)) (by decide) (by decide)) q84a q84c (g := (mkF m 181 #[.val (.int p1), .val (.int p2), .val (.int p3), .val (.int p4), .val (.int p5), .val (.int p6), .val (.int cc), .val (.int xx), .val (.int yy), .val (.int zz), .val (.int uu), .val (.int tt), .val (.ref b1), .val (.ref b3), .val (.int Rv76.2), .val (.int (1 : Int32))] [(.int (0 : Int32)), (.ref b1)])) rfl (by rw [hml]; rfl) (Steps.refl _) (argsL := [(.int (0 : Int32))]) (rest := []) (lenOf pd_5 rfl) rfl (by show 2 * 0 + _ ≤ _; exact Nat.le_of_eq rfl) (hb hby at_181) (fun _ _ => ⟨rfl, hh78, (by decide : 4 + 0 ≤ _), (by decide : 15 + 0 ≤ _)⟩)
        dsimp only [Pt.U, Pt.locs, Pt.cells, Pt.slots] at X84 l84 y84 z84 st84 hQ84
        subst l84 y84 z84
        obtain ⟨rfl, Nq84, hh84⟩ := hQ84
        have N84 := Fr.app N78 Nq84
        refine own_via (fun t k => st84.trans k) ?_
        show own_G p.tables e below _ (T84.setTop (mkF m 184 #[.val (.int p1), .val (.int p2), .val (.int p3), .val (.int p4), .val (.int p5), .val (.int p6), .val (.int cc), .val (.int xx), .val (.int yy), .val (.int zz), .val (.int uu), .val (.int tt), .val (.ref b1), .val (.ref b3), .val (.int Rv76.2), .val (.int (1 : Int32))] [(.int (Sv74.1.getD ((0 : Int32)).toNatClampNeg 0))]))
        refine own_via (S' := T84.setTop (mkF m 187 #[.val (.int p1), .val (.int p2), .val (.int p3), .val (.int p4), .val (.int p5), .val (.int p6), .val (.int cc), .val (.int xx), .val (.int yy), .val (.int zz), .val (.int uu), .val (.int tt), .val (.ref b1), .val (.ref b3), .val (.int Rv76.2), .val (.int (1 : Int32))] [(.int (0 : Int32)), (.ref b3), (.int (Sv74.1.getD ((0 : Int32)).toNatClampNeg 0))])) (fun t k => ?_) ?_
        · show Steps p.tables e below (T84.setTop (mkF m 184 #[.val (.int p1), .val (.int p2), .val (.int p3), .val (.int p4), .val (.int p5), .val (.int p6), .val (.int cc), .val (.int xx), .val (.int yy), .val (.int zz), .val (.int uu), .val (.int tt), .val (.ref b1), .val (.ref b3), .val (.int Rv76.2), .val (.int (1 : Int32))] [(.int (Sv74.1.getD ((0 : Int32)).toNatClampNeg 0))])) t
          refine XS.aload X84.here hx rfl (hb hby at_184) rfl rfl ?_
          show Steps p.tables e below (T84.setTop (mkF m 186 #[.val (.int p1), .val (.int p2), .val (.int p3), .val (.int p4), .val (.int p5), .val (.int p6), .val (.int cc), .val (.int xx), .val (.int yy), .val (.int zz), .val (.int uu), .val (.int tt), .val (.ref b1), .val (.ref b3), .val (.int Rv76.2), .val (.int (1 : Int32))] [(.ref b3), (.int (Sv74.1.getD ((0 : Int32)).toNatClampNeg 0))])) t
          refine XS.iconst X84.here hx rfl (hb hby at_186) ?_
          exact k
        obtain ⟨⟨cl85, Ar85, q85, S85, Nn85, H85, G85⟩, Le85⟩ := id Vc76
        have hin85 : ¬ ((0 : Int32) < 0 ∨ cl85.slots.size ≤ ((0 : Int32)).toNatClampNeg) := inb_of S85 ⟨by decide, by decide⟩
        have hat85 : cl85.slots[((0 : Int32)).toNatClampNeg]? = some (.int (Rv76.1.getD ((0 : Int32)).toNatClampNeg 0)) := Has.at H85 hin85 (own_gI _ _)
        refine own_via (S' := T84.setTop (mkF m 188 #[.val (.int p1), .val (.int p2), .val (.int p3), .val (.int p4), .val (.int p5), .val (.int p6), .val (.int cc), .val (.int xx), .val (.int yy), .val (.int zz), .val (.int uu), .val (.int tt), .val (.ref b1), .val (.ref b3), .val (.int Rv76.2), .val (.int (1 : Int32))] [(.int (Rv76.1.getD ((0 : Int32)).toNatClampNeg 0)), (.int (Sv74.1.getD ((0 : Int32)).toNatClampNeg 0))])) (fun t kz_ => X84.iaload hx (j := (0 : Int32)) (v := (.int (Rv76.1.getD ((0 : Int32)).toNatClampNeg 0))) (by rw [hh84]; exact Ar85.1) (State.isArrayOf_alike hZ.alike Ar85.2.1) Ar85.2.2 hin85 hat85 (g := (mkF m 187 #[.val (.int p1), .val (.int p2), .val (.int p3), .val (.int p4), .val (.int p5), .val (.int p6), .val (.int cc), .val (.int xx), .val (.int yy), .val (.int zz), .val (.int uu), .val (.int tt), .val (.ref b1), .val (.ref b3), .val (.int Rv76.2), .val (.int (1 : Int32))] [(.int (0 : Int32)), (.ref b3), (.int (Sv74.1.getD ((0 : Int32)).toNatClampNeg 0))])) rfl rfl (hb hby at_187) _ kz_) ?_
        refine own_via (S' := T84.setTop (mkF m 194 #[.val (.int p1), .val (.int p2), .val (.int p3), .val (.int p4), .val (.int p5), .val (.int p6), .val (.int cc), .val (.int xx), .val (.int yy), .val (.int zz), .val (.int uu), .val (.int tt), .val (.ref b1), .val (.ref b3), .val (.int Rv76.2), .val (.int (1 : Int32))] [])) (fun t k => XS.icmpYes (g := (mkF m 188 #[.val (.int p1), .val (.int p2), .val (.int p3), .val (.int p4), .val (.int p5), .val (.int p6), .val (.int cc), .val (.int xx), .val (.int yy), .val (.int zz), .val (.int uu), .val (.int tt), .val (.ref b1), .val (.ref b3), .val (.int Rv76.2), .val (.int (1 : Int32))] [(.int (Rv76.1.getD ((0 : Int32)).toNatClampNeg 0)), (.int (Sv74.1.getD ((0 : Int32)).toNatClampNeg 0))])) X84.here hx rfl (pc0 := 188) (pc' := 194) rfl (hb hby at_188) rfl (teq (eb58 hc175_81)).1 (by decide) (by decide) k) ?_
        refine own_via (S' := T84.setTop (mkF m 197 #[.val (.int p1), .val (.int p2), .val (.int p3), .val (.int p4), .val (.int p5), .val (.int p6), .val (.int cc), .val (.int xx), .val (.int yy), .val (.int zz), .val (.int uu), .val (.int tt), .val (.ref b1), .val (.ref b3), .val (.int Rv76.2), .val (.int (1 : Int32))] [(.int (1 : Int32)), (.int Rv76.2)])) (fun t k => ?_) ?_
        · show Steps p.tables e below (T84.setTop (mkF m 194 #[.val (.int p1), .val (.int p2), .val (.int p3), .val (.int p4), .val (.int p5), .val (.int p6), .val (.int cc), .val (.int xx), .val (.int yy), .val (.int zz), .val (.int uu), .val (.int tt), .val (.ref b1), .val (.ref b3), .val (.int Rv76.2), .val (.int (1 : Int32))] [])) t
          refine XS.iload X84.here hx rfl (hb hby at_194) rfl ?_
          show Steps p.tables e below (T84.setTop (mkF m 196 #[.val (.int p1), .val (.int p2), .val (.int p3), .val (.int p4), .val (.int p5), .val (.int p6), .val (.int cc), .val (.int xx), .val (.int yy), .val (.int zz), .val (.int uu), .val (.int tt), .val (.ref b1), .val (.ref b3), .val (.int Rv76.2), .val (.int (1 : Int32))] [(.int Rv76.2)])) t
          refine XS.iconst X84.here hx rfl (hb hby at_196) ?_
          exact k
        by_cases hc197_87 : (1 : Int32) < Rv76.2
        · refine own_via (S' := T84.setTop (mkF m 200 #[.val (.int p1), .val (.int p2), .val (.int p3), .val (.int p4), .val (.int p5), .val (.int p6), .val (.int cc), .val (.int xx), .val (.int yy), .val (.int zz), .val (.int uu), .val (.int tt), .val (.ref b1), .val (.ref b3), .val (.int Rv76.2), .val (.int (1 : Int32))] [])) (fun t k => XS.icmpNo (g := (mkF m 197 #[.val (.int p1), .val (.int p2), .val (.int p3), .val (.int p4), .val (.int p5), .val (.int p6), .val (.int cc), .val (.int xx), .val (.int yy), .val (.int zz), .val (.int uu), .val (.int tt), .val (.ref b1), .val (.ref b3), .val (.int Rv76.2), .val (.int (1 : Int32))] [(.int (1 : Int32)), (.int Rv76.2)])) X84.here hx rfl (hb hby at_197) rfl (tlt hc197_87).2.2.2 k) ?_
          refine own_via (S' := T84.setTop (mkF m 203 #[.val (.int p1), .val (.int p2), .val (.int p3), .val (.int p4), .val (.int p5), .val (.int p6), .val (.int cc), .val (.int xx), .val (.int yy), .val (.int zz), .val (.int uu), .val (.int tt), .val (.ref b1), .val (.ref b3), .val (.int Rv76.2), .val (.int (1 : Int32))] [(.int (1 : Int32)), (.ref b1)])) (fun t k => ?_) ?_
          · show Steps p.tables e below (T84.setTop (mkF m 200 #[.val (.int p1), .val (.int p2), .val (.int p3), .val (.int p4), .val (.int p5), .val (.int p6), .val (.int cc), .val (.int xx), .val (.int yy), .val (.int zz), .val (.int uu), .val (.int tt), .val (.ref b1), .val (.ref b3), .val (.int Rv76.2), .val (.int (1 : Int32))] [])) t
            refine XS.aload X84.here hx rfl (hb hby at_200) rfl rfl ?_
            show Steps p.tables e below (T84.setTop (mkF m 202 #[.val (.int p1), .val (.int p2), .val (.int p3), .val (.int p4), .val (.int p5), .val (.int p6), .val (.int cc), .val (.int xx), .val (.int yy), .val (.int zz), .val (.int uu), .val (.int tt), .val (.ref b1), .val (.ref b3), .val (.int Rv76.2), .val (.int (1 : Int32))] [(.ref b1)])) t
            refine XS.iconst X84.here hx rfl (hb hby at_202) ?_
            exact k
          obtain ⟨cq88, kq88, q88a, q88b, q88c⟩ := isOf hZ hh84 c79
          obtain ⟨_, _, ⟨T88, L88, k88, n88⟩, -, X88, ⟨Lc88, hQ88, l88, y88, z88⟩, st88⟩ := X84.virtualBack hx (y := (⟨"com/example/vendace/vendace/localrecoding/DenseSet", "member", "(I)I"⟩ : MethodName)) (z := (⟨"com/example/vendace/vendace/localrecoding/DenseSet", "member", "(I)I"⟩ : MethodName)) hown (mvT hZ (hw _ (List.mem_of_getElem? (i := 45) rfl))) (mvT hZ (hw _ (List.mem_of_getElem? (i := 46) rfl))) (notFace_of_selects (args := #[]) (mvT hZ (hw _ (List.mem_of_getElem? (i := 48) rfl)))) (mvT hZ (hw _ (List.mem_of_getElem? (i := 48) rfl))) (mvT hZ (hw _ (List.mem_of_getElem? (i := 47) rfl))) (by decide) (backOf (W := 0) (rm10 l Z a0 hw [] b1 (1 : Int32) bm2 km2 (4 : Int32) Sv74.1 T76.heap n0 (Nat.le_trans Z0 K76.1) c82 c83 ⟨by decide, by decide⟩) hZ (hw _ (List.mem_of_getElem? (i := 49) rfl)) (hw _ (List.mem_of_getElem? (i := 2) rfl)) (by decide) (by decide)) q88a q88c (g := (mkF m 203 #[.val (.int p1), .val (.int p2), .val (.int p3), .val (.int p4), .val (.int p5), .val (.int p6), .val (.int cc), .val (.int xx), .val (.int yy), .val (.int zz), .val (.int uu), .val (.int tt), .val (.ref b1), .val (.ref b3), .val (.int Rv76.2), .val (.int (1 : Int32))] [(.int (1 : Int32)), (.ref b1)])) rfl (by rw [hml]; rfl) (Steps.refl _) (argsL := [(.int (1 : Int32))]) (rest := []) (lenOf pd_5 rfl) rfl (by show 2 * 0 + _ ≤ _; exact Nat.le_of_eq rfl) (hb hby at_203) (fun _ _ => ⟨rfl, hh84, (by decide : 4 + 0 ≤ _), (by decide : 15 + 0 ≤ _)⟩)
          dsimp only [Pt.U, Pt.locs, Pt.cells, Pt.slots] at X88 l88 y88 z88 st88 hQ88
          subst l88 y88 z88
          obtain ⟨rfl, Nq88, hh88⟩ := hQ88
          have N88 := Fr.app N84 Nq88
          refine own_via (fun t k => st88.trans k) ?_
          show own_G p.tables e below _ (T88.setTop (mkF m 206 #[.val (.int p1), .val (.int p2), .val (.int p3), .val (.int p4), .val (.int p5), .val (.int p6), .val (.int cc), .val (.int xx), .val (.int yy), .val (.int zz), .val (.int uu), .val (.int tt), .val (.ref b1), .val (.ref b3), .val (.int Rv76.2), .val (.int (1 : Int32))] [(.int (Sv74.1.getD ((1 : Int32)).toNatClampNeg 0))]))
          refine own_via (S' := T88.setTop (mkF m 209 #[.val (.int p1), .val (.int p2), .val (.int p3), .val (.int p4), .val (.int p5), .val (.int p6), .val (.int cc), .val (.int xx), .val (.int yy), .val (.int zz), .val (.int uu), .val (.int tt), .val (.ref b1), .val (.ref b3), .val (.int Rv76.2), .val (.int (1 : Int32))] [(.int (1 : Int32)), (.ref b3), (.int (Sv74.1.getD ((1 : Int32)).toNatClampNeg 0))])) (fun t k => ?_) ?_
          · show Steps p.tables e below (T88.setTop (mkF m 206 #[.val (.int p1), .val (.int p2), .val (.int p3), .val (.int p4), .val (.int p5), .val (.int p6), .val (.int cc), .val (.int xx), .val (.int yy), .val (.int zz), .val (.int uu), .val (.int tt), .val (.ref b1), .val (.ref b3), .val (.int Rv76.2), .val (.int (1 : Int32))] [(.int (Sv74.1.getD ((1 : Int32)).toNatClampNeg 0))])) t
            refine XS.aload X88.here hx rfl (hb hby at_206) rfl rfl ?_
            show Steps p.tables e below (T88.setTop (mkF m 208 #[.val (.int p1), .val (.int p2), .val (.int p3), .val (.int p4), .val (.int p5), .val (.int p6), .val (.int cc), .val (.int xx), .val (.int yy), .val (.int zz), .val (.int uu), .val (.int tt), .val (.ref b1), .val (.ref b3), .val (.int Rv76.2), .val (.int (1 : Int32))] [(.ref b3), (.int (Sv74.1.getD ((1 : Int32)).toNatClampNeg 0))])) t
            refine XS.iconst X88.here hx rfl (hb hby at_208) ?_
            exact k
          obtain ⟨⟨cl89, Ar89, q89, S89, Nn89, H89, G89⟩, Le89⟩ := id Vc76
          have hin89 : ¬ ((1 : Int32) < 0 ∨ cl89.slots.size ≤ ((1 : Int32)).toNatClampNeg) := inb_of S89 ⟨by decide, by decide⟩
          have hat89 : cl89.slots[((1 : Int32)).toNatClampNeg]? = some (.int (Rv76.1.getD ((1 : Int32)).toNatClampNeg 0)) := Has.at H89 hin89 (own_gI _ _)
          refine own_via (S' := T88.setTop (mkF m 210 #[.val (.int p1), .val (.int p2), .val (.int p3), .val (.int p4), .val (.int p5), .val (.int p6), .val (.int cc), .val (.int xx), .val (.int yy), .val (.int zz), .val (.int uu), .val (.int tt), .val (.ref b1), .val (.ref b3), .val (.int Rv76.2), .val (.int (1 : Int32))] [(.int (Rv76.1.getD ((1 : Int32)).toNatClampNeg 0)), (.int (Sv74.1.getD ((1 : Int32)).toNatClampNeg 0))])) (fun t kz_ => X88.iaload hx (j := (1 : Int32)) (v := (.int (Rv76.1.getD ((1 : Int32)).toNatClampNeg 0))) (by rw [hh88]; exact Ar89.1) (State.isArrayOf_alike hZ.alike Ar89.2.1) Ar89.2.2 hin89 hat89 (g := (mkF m 209 #[.val (.int p1), .val (.int p2), .val (.int p3), .val (.int p4), .val (.int p5), .val (.int p6), .val (.int cc), .val (.int xx), .val (.int yy), .val (.int zz), .val (.int uu), .val (.int tt), .val (.ref b1), .val (.ref b3), .val (.int Rv76.2), .val (.int (1 : Int32))] [(.int (1 : Int32)), (.ref b3), (.int (Sv74.1.getD ((1 : Int32)).toNatClampNeg 0))])) rfl rfl (hb hby at_209) _ kz_) ?_
          refine own_via (S' := T88.setTop (mkF m 216 #[.val (.int p1), .val (.int p2), .val (.int p3), .val (.int p4), .val (.int p5), .val (.int p6), .val (.int cc), .val (.int xx), .val (.int yy), .val (.int zz), .val (.int uu), .val (.int tt), .val (.ref b1), .val (.ref b3), .val (.int Rv76.2), .val (.int (1 : Int32))] [])) (fun t k => XS.icmpYes (g := (mkF m 210 #[.val (.int p1), .val (.int p2), .val (.int p3), .val (.int p4), .val (.int p5), .val (.int p6), .val (.int cc), .val (.int xx), .val (.int yy), .val (.int zz), .val (.int uu), .val (.int tt), .val (.ref b1), .val (.ref b3), .val (.int Rv76.2), .val (.int (1 : Int32))] [(.int (Rv76.1.getD ((1 : Int32)).toNatClampNeg 0)), (.int (Sv74.1.getD ((1 : Int32)).toNatClampNeg 0))])) X88.here hx rfl (pc0 := 210) (pc' := 216) rfl (hb hby at_210) rfl (teq (ec58 hc197_87)).1 (by decide) (by decide) k) ?_
          refine own_via (S' := T88.setTop (mkF m 219 #[.val (.int p1), .val (.int p2), .val (.int p3), .val (.int p4), .val (.int p5), .val (.int p6), .val (.int cc), .val (.int xx), .val (.int yy), .val (.int zz), .val (.int uu), .val (.int tt), .val (.ref b1), .val (.ref b3), .val (.int Rv76.2), .val (.int (1 : Int32))] [(.int (2 : Int32)), (.int Rv76.2)])) (fun t k => ?_) ?_
          · show Steps p.tables e below (T88.setTop (mkF m 216 #[.val (.int p1), .val (.int p2), .val (.int p3), .val (.int p4), .val (.int p5), .val (.int p6), .val (.int cc), .val (.int xx), .val (.int yy), .val (.int zz), .val (.int uu), .val (.int tt), .val (.ref b1), .val (.ref b3), .val (.int Rv76.2), .val (.int (1 : Int32))] [])) t
            refine XS.iload X88.here hx rfl (hb hby at_216) rfl ?_
            show Steps p.tables e below (T88.setTop (mkF m 218 #[.val (.int p1), .val (.int p2), .val (.int p3), .val (.int p4), .val (.int p5), .val (.int p6), .val (.int cc), .val (.int xx), .val (.int yy), .val (.int zz), .val (.int uu), .val (.int tt), .val (.ref b1), .val (.ref b3), .val (.int Rv76.2), .val (.int (1 : Int32))] [(.int Rv76.2)])) t
            refine XS.iconst X88.here hx rfl (hb hby at_218) ?_
            exact k
          by_cases hc219_91 : (2 : Int32) < Rv76.2
          · refine own_via (S' := T88.setTop (mkF m 222 #[.val (.int p1), .val (.int p2), .val (.int p3), .val (.int p4), .val (.int p5), .val (.int p6), .val (.int cc), .val (.int xx), .val (.int yy), .val (.int zz), .val (.int uu), .val (.int tt), .val (.ref b1), .val (.ref b3), .val (.int Rv76.2), .val (.int (1 : Int32))] [])) (fun t k => XS.icmpNo (g := (mkF m 219 #[.val (.int p1), .val (.int p2), .val (.int p3), .val (.int p4), .val (.int p5), .val (.int p6), .val (.int cc), .val (.int xx), .val (.int yy), .val (.int zz), .val (.int uu), .val (.int tt), .val (.ref b1), .val (.ref b3), .val (.int Rv76.2), .val (.int (1 : Int32))] [(.int (2 : Int32)), (.int Rv76.2)])) X88.here hx rfl (hb hby at_219) rfl (tlt hc219_91).2.2.2 k) ?_
            refine own_via (S' := T88.setTop (mkF m 225 #[.val (.int p1), .val (.int p2), .val (.int p3), .val (.int p4), .val (.int p5), .val (.int p6), .val (.int cc), .val (.int xx), .val (.int yy), .val (.int zz), .val (.int uu), .val (.int tt), .val (.ref b1), .val (.ref b3), .val (.int Rv76.2), .val (.int (1 : Int32))] [(.int (2 : Int32)), (.ref b1)])) (fun t k => ?_) ?_
            · show Steps p.tables e below (T88.setTop (mkF m 222 #[.val (.int p1), .val (.int p2), .val (.int p3), .val (.int p4), .val (.int p5), .val (.int p6), .val (.int cc), .val (.int xx), .val (.int yy), .val (.int zz), .val (.int uu), .val (.int tt), .val (.ref b1), .val (.ref b3), .val (.int Rv76.2), .val (.int (1 : Int32))] [])) t
              refine XS.aload X88.here hx rfl (hb hby at_222) rfl rfl ?_
              show Steps p.tables e below (T88.setTop (mkF m 224 #[.val (.int p1), .val (.int p2), .val (.int p3), .val (.int p4), .val (.int p5), .val (.int p6), .val (.int cc), .val (.int xx), .val (.int yy), .val (.int zz), .val (.int uu), .val (.int tt), .val (.ref b1), .val (.ref b3), .val (.int Rv76.2), .val (.int (1 : Int32))] [(.ref b1)])) t
              refine XS.iconst X88.here hx rfl (hb hby at_224) ?_
              exact k
            obtain ⟨cq92, kq92, q92a, q92b, q92c⟩ := isOf hZ hh88 c79
            obtain ⟨_, _, ⟨T92, L92, k92, n92⟩, -, X92, ⟨Lc92, hQ92, l92, y92, z92⟩, st92⟩ := X88.virtualBack hx (y := (⟨"com/example/vendace/vendace/localrecoding/DenseSet", "member", "(I)I"⟩ : MethodName)) (z := (⟨"com/example/vendace/vendace/localrecoding/DenseSet", "member", "(I)I"⟩ : MethodName)) hown (mvT hZ (hw _ (List.mem_of_getElem? (i := 45) rfl))) (mvT hZ (hw _ (List.mem_of_getElem? (i := 46) rfl))) (notFace_of_selects (args := #[]) (mvT hZ (hw _ (List.mem_of_getElem? (i := 48) rfl)))) (mvT hZ (hw _ (List.mem_of_getElem? (i := 48) rfl))) (mvT hZ (hw _ (List.mem_of_getElem? (i := 47) rfl))) (by decide) (backOf (W := 0) (rm10 l Z a0 hw [] b1 (2 : Int32) bm2 km2 (4 : Int32) Sv74.1 T76.heap n0 (Nat.le_trans Z0 K76.1) c82 c83 ⟨by decide, by decide⟩) hZ (hw _ (List.mem_of_getElem? (i := 49) rfl)) (hw _ (List.mem_of_getElem? (i := 2) rfl)) (by decide) (by decide)) q92a q92c (g := (mkF m 225 #[.val (.int p1), .val (.int p2), .val (.int p3), .val (.int p4), .val (.int p5), .val (.int p6), .val (.int cc), .val (.int xx), .val (.int yy), .val (.int zz), .val (.int uu), .val (.int tt), .val (.ref b1), .val (.ref b3), .val (.int Rv76.2), .val (.int (1 : Int32))] [(.int (2 : Int32)), (.ref b1)])) rfl (by rw [hml]; rfl) (Steps.refl _) (argsL := [(.int (2 : Int32))]) (rest := []) (lenOf pd_5 rfl) rfl (by show 2 * 0 + _ ≤ _; exact Nat.le_of_eq rfl) (hb hby at_225) (fun _ _ => ⟨rfl, hh88, (by decide : 4 + 0 ≤ _), (by decide : 15 + 0 ≤ _)⟩)
            dsimp only [Pt.U, Pt.locs, Pt.cells, Pt.slots] at X92 l92 y92 z92 st92 hQ92
            subst l92 y92 z92
            obtain ⟨rfl, Nq92, hh92⟩ := hQ92
            have N92 := Fr.app N88 Nq92
            refine own_via (fun t k => st92.trans k) ?_
            show own_G p.tables e below _ (T92.setTop (mkF m 228 #[.val (.int p1), .val (.int p2), .val (.int p3), .val (.int p4), .val (.int p5), .val (.int p6), .val (.int cc), .val (.int xx), .val (.int yy), .val (.int zz), .val (.int uu), .val (.int tt), .val (.ref b1), .val (.ref b3), .val (.int Rv76.2), .val (.int (1 : Int32))] [(.int (Sv74.1.getD ((2 : Int32)).toNatClampNeg 0))]))
            refine own_via (S' := T92.setTop (mkF m 231 #[.val (.int p1), .val (.int p2), .val (.int p3), .val (.int p4), .val (.int p5), .val (.int p6), .val (.int cc), .val (.int xx), .val (.int yy), .val (.int zz), .val (.int uu), .val (.int tt), .val (.ref b1), .val (.ref b3), .val (.int Rv76.2), .val (.int (1 : Int32))] [(.int (2 : Int32)), (.ref b3), (.int (Sv74.1.getD ((2 : Int32)).toNatClampNeg 0))])) (fun t k => ?_) ?_
            · show Steps p.tables e below (T92.setTop (mkF m 228 #[.val (.int p1), .val (.int p2), .val (.int p3), .val (.int p4), .val (.int p5), .val (.int p6), .val (.int cc), .val (.int xx), .val (.int yy), .val (.int zz), .val (.int uu), .val (.int tt), .val (.ref b1), .val (.ref b3), .val (.int Rv76.2), .val (.int (1 : Int32))] [(.int (Sv74.1.getD ((2 : Int32)).toNatClampNeg 0))])) t
              refine XS.aload X92.here hx rfl (hb hby at_228) rfl rfl ?_
              show Steps p.tables e below (T92.setTop (mkF m 230 #[.val (.int p1), .val (.int p2), .val (.int p3), .val (.int p4), .val (.int p5), .val (.int p6), .val (.int cc), .val (.int xx), .val (.int yy), .val (.int zz), .val (.int uu), .val (.int tt), .val (.ref b1), .val (.ref b3), .val (.int Rv76.2), .val (.int (1 : Int32))] [(.ref b3), (.int (Sv74.1.getD ((2 : Int32)).toNatClampNeg 0))])) t
              refine XS.iconst X92.here hx rfl (hb hby at_230) ?_
              exact k
            obtain ⟨⟨cl93, Ar93, q93, S93, Nn93, H93, G93⟩, Le93⟩ := id Vc76
            have hin93 : ¬ ((2 : Int32) < 0 ∨ cl93.slots.size ≤ ((2 : Int32)).toNatClampNeg) := inb_of S93 ⟨by decide, by decide⟩
            have hat93 : cl93.slots[((2 : Int32)).toNatClampNeg]? = some (.int (Rv76.1.getD ((2 : Int32)).toNatClampNeg 0)) := Has.at H93 hin93 (own_gI _ _)
            refine own_via (S' := T92.setTop (mkF m 232 #[.val (.int p1), .val (.int p2), .val (.int p3), .val (.int p4), .val (.int p5), .val (.int p6), .val (.int cc), .val (.int xx), .val (.int yy), .val (.int zz), .val (.int uu), .val (.int tt), .val (.ref b1), .val (.ref b3), .val (.int Rv76.2), .val (.int (1 : Int32))] [(.int (Rv76.1.getD ((2 : Int32)).toNatClampNeg 0)), (.int (Sv74.1.getD ((2 : Int32)).toNatClampNeg 0))])) (fun t kz_ => X92.iaload hx (j := (2 : Int32)) (v := (.int (Rv76.1.getD ((2 : Int32)).toNatClampNeg 0))) (by rw [hh92]; exact Ar93.1) (State.isArrayOf_alike hZ.alike Ar93.2.1) Ar93.2.2 hin93 hat93 (g := (mkF m 231 #[.val (.int p1), .val (.int p2), .val (.int p3), .val (.int p4), .val (.int p5), .val (.int p6), .val (.int cc), .val (.int xx), .val (.int yy), .val (.int zz), .val (.int uu), .val (.int tt), .val (.ref b1), .val (.ref b3), .val (.int Rv76.2), .val (.int (1 : Int32))] [(.int (2 : Int32)), (.ref b3), (.int (Sv74.1.getD ((2 : Int32)).toNatClampNeg 0))])) rfl rfl (hb hby at_231) _ kz_) ?_
            refine own_via (S' := T92.setTop (mkF m 238 #[.val (.int p1), .val (.int p2), .val (.int p3), .val (.int p4), .val (.int p5), .val (.int p6), .val (.int cc), .val (.int xx), .val (.int yy), .val (.int zz), .val (.int uu), .val (.int tt), .val (.ref b1), .val (.ref b3), .val (.int Rv76.2), .val (.int (1 : Int32))] [])) (fun t k => XS.icmpYes (g := (mkF m 232 #[.val (.int p1), .val (.int p2), .val (.int p3), .val (.int p4), .val (.int p5), .val (.int p6), .val (.int cc), .val (.int xx), .val (.int yy), .val (.int zz), .val (.int uu), .val (.int tt), .val (.ref b1), .val (.ref b3), .val (.int Rv76.2), .val (.int (1 : Int32))] [(.int (Rv76.1.getD ((2 : Int32)).toNatClampNeg 0)), (.int (Sv74.1.getD ((2 : Int32)).toNatClampNeg 0))])) X92.here hx rfl (pc0 := 232) (pc' := 238) rfl (hb hby at_232) rfl (teq (ed58 hc219_91)).1 (by decide) (by decide) k) ?_
            refine own_via (S' := T92.setTop (mkF m 240 #[.val (.int p1), .val (.int p2), .val (.int p3), .val (.int p4), .val (.int p5), .val (.int p6), .val (.int cc), .val (.int xx), .val (.int yy), .val (.int zz), .val (.int uu), .val (.int tt), .val (.ref b1), .val (.ref b3), .val (.int Rv76.2), .val (.int (1 : Int32))] [(.int (1 : Int32))])) (fun t k => ?_) ?_
            · show Steps p.tables e below (T92.setTop (mkF m 238 #[.val (.int p1), .val (.int p2), .val (.int p3), .val (.int p4), .val (.int p5), .val (.int p6), .val (.int cc), .val (.int xx), .val (.int yy), .val (.int zz), .val (.int uu), .val (.int tt), .val (.ref b1), .val (.ref b3), .val (.int Rv76.2), .val (.int (1 : Int32))] [])) t
              refine XS.iload X92.here hx rfl (hb hby at_238) rfl ?_
              exact k
            exact own_end (h := T76.heap) X92 (v := some (.int (1 : Int32))) Bd.notSynchronized (fun h => by rw [Bd.returns] at h; cases h) (fun fs hr => retN X92 hx (t := .boolean) Bd.returns (by simp) (hb hby at_240) hr) hh92 ⟨rfl, N92⟩ (by decide) (by decide)
          · refine own_via (S' := T88.setTop (mkF m 238 #[.val (.int p1), .val (.int p2), .val (.int p3), .val (.int p4), .val (.int p5), .val (.int p6), .val (.int cc), .val (.int xx), .val (.int yy), .val (.int zz), .val (.int uu), .val (.int tt), .val (.ref b1), .val (.ref b3), .val (.int Rv76.2), .val (.int (1 : Int32))] [])) (fun t k => XS.icmpYes (g := (mkF m 219 #[.val (.int p1), .val (.int p2), .val (.int p3), .val (.int p4), .val (.int p5), .val (.int p6), .val (.int cc), .val (.int xx), .val (.int yy), .val (.int zz), .val (.int uu), .val (.int tt), .val (.ref b1), .val (.ref b3), .val (.int Rv76.2), .val (.int (1 : Int32))] [(.int (2 : Int32)), (.int Rv76.2)])) X88.here hx rfl (pc0 := 219) (pc' := 238) rfl (hb hby at_219) rfl (flt hc219_91).2.2.2 (by decide) (by decide) k) ?_
            refine own_via (S' := T88.setTop (mkF m 240 #[.val (.int p1), .val (.int p2), .val (.int p3), .val (.int p4), .val (.int p5), .val (.int p6), .val (.int cc), .val (.int xx), .val (.int yy), .val (.int zz), .val (.int uu), .val (.int tt), .val (.ref b1), .val (.ref b3), .val (.int Rv76.2), .val (.int (1 : Int32))] [(.int (1 : Int32))])) (fun t k => ?_) ?_
            · show Steps p.tables e below (T88.setTop (mkF m 238 #[.val (.int p1), .val (.int p2), .val (.int p3), .val (.int p4), .val (.int p5), .val (.int p6), .val (.int cc), .val (.int xx), .val (.int yy), .val (.int zz), .val (.int uu), .val (.int tt), .val (.ref b1), .val (.ref b3), .val (.int Rv76.2), .val (.int (1 : Int32))] [])) t
              refine XS.iload X88.here hx rfl (hb hby at_238) rfl ?_
              exact k
            exact own_end (h := T76.heap) X88 (v := some (.int (1 : Int32))) Bd.notSynchronized (fun h => by rw [Bd.returns] at h; cases h) (fun fs hr => retN X88 hx (t := .boolean) Bd.returns (by simp) (hb hby at_240) hr) hh88 ⟨rfl, N88⟩ (by decide) (by decide)
        · refine own_via (S' := T84.setTop (mkF m 216 #[.val (.int p1), .val (.int p2), .val (.int p3), .val (.int p4), .val (.int p5), .val (.int p6), .val (.int cc), .val (.int xx), .val (.int yy), .val (.int zz), .val (.int uu), .val (.int tt), .val (.ref b1), .val (.ref b3), .val (.int Rv76.2), .val (.int (1 : Int32))] [])) (fun t k => XS.icmpYes (g := (mkF m 197 #[.val (.int p1), .val (.int p2), .val (.int p3), .val (.int p4), .val (.int p5), .val (.int p6), .val (.int cc), .val (.int xx), .val (.int yy), .val (.int zz), .val (.int uu), .val (.int tt), .val (.ref b1), .val (.ref b3), .val (.int Rv76.2), .val (.int (1 : Int32))] [(.int (1 : Int32)), (.int Rv76.2)])) X84.here hx rfl (pc0 := 197) (pc' := 216) rfl (hb hby at_197) rfl (flt hc197_87).2.2.2 (by decide) (by decide) k) ?_
          refine own_via (S' := T84.setTop (mkF m 219 #[.val (.int p1), .val (.int p2), .val (.int p3), .val (.int p4), .val (.int p5), .val (.int p6), .val (.int cc), .val (.int xx), .val (.int yy), .val (.int zz), .val (.int uu), .val (.int tt), .val (.ref b1), .val (.ref b3), .val (.int Rv76.2), .val (.int (1 : Int32))] [(.int (2 : Int32)), (.int Rv76.2)])) (fun t k => ?_) ?_
          · show Steps p.tables e below (T84.setTop (mkF m 216 #[.val (.int p1), .val (.int p2), .val (.int p3), .val (.int p4), .val (.int p5), .val (.int p6), .val (.int cc), .val (.int xx), .val (.int yy), .val (.int zz), .val (.int uu), .val (.int tt), .val (.ref b1), .val (.ref b3), .val (.int Rv76.2), .val (.int (1 : Int32))] [])) t
            refine XS.iload X84.here hx rfl (hb hby at_216) rfl ?_
            show Steps p.tables e below (T84.setTop (mkF m 218 #[.val (.int p1), .val (.int p2), .val (.int p3), .val (.int p4), .val (.int p5), .val (.int p6), .val (.int cc), .val (.int xx), .val (.int yy), .val (.int zz), .val (.int uu), .val (.int tt), .val (.ref b1), .val (.ref b3), .val (.int Rv76.2), .val (.int (1 : Int32))] [(.int Rv76.2)])) t
            refine XS.iconst X84.here hx rfl (hb hby at_218) ?_
            exact k
          refine own_via (S' := T84.setTop (mkF m 238 #[.val (.int p1), .val (.int p2), .val (.int p3), .val (.int p4), .val (.int p5), .val (.int p6), .val (.int cc), .val (.int xx), .val (.int yy), .val (.int zz), .val (.int uu), .val (.int tt), .val (.ref b1), .val (.ref b3), .val (.int Rv76.2), .val (.int (1 : Int32))] [])) (fun t k => XS.icmpYes (g := (mkF m 219 #[.val (.int p1), .val (.int p2), .val (.int p3), .val (.int p4), .val (.int p5), .val (.int p6), .val (.int cc), .val (.int xx), .val (.int yy), .val (.int zz), .val (.int uu), .val (.int tt), .val (.ref b1), .val (.ref b3), .val (.int Rv76.2), .val (.int (1 : Int32))] [(.int (2 : Int32)), (.int Rv76.2)])) X84.here hx rfl (pc0 := 219) (pc' := 238) rfl (hb hby at_219) rfl (flt (own_n12 hc197_87)).2.2.2 (by decide) (by decide) k) ?_
          refine own_via (S' := T84.setTop (mkF m 240 #[.val (.int p1), .val (.int p2), .val (.int p3), .val (.int p4), .val (.int p5), .val (.int p6), .val (.int cc), .val (.int xx), .val (.int yy), .val (.int zz), .val (.int uu), .val (.int tt), .val (.ref b1), .val (.ref b3), .val (.int Rv76.2), .val (.int (1 : Int32))] [(.int (1 : Int32))])) (fun t k => ?_) ?_
          · show Steps p.tables e below (T84.setTop (mkF m 238 #[.val (.int p1), .val (.int p2), .val (.int p3), .val (.int p4), .val (.int p5), .val (.int p6), .val (.int cc), .val (.int xx), .val (.int yy), .val (.int zz), .val (.int uu), .val (.int tt), .val (.ref b1), .val (.ref b3), .val (.int Rv76.2), .val (.int (1 : Int32))] [])) t
            refine XS.iload X84.here hx rfl (hb hby at_238) rfl ?_
            exact k
          exact own_end (h := T76.heap) X84 (v := some (.int (1 : Int32))) Bd.notSynchronized (fun h => by rw [Bd.returns] at h; cases h) (fun fs hr => retN X84 hx (t := .boolean) Bd.returns (by simp) (hb hby at_240) hr) hh84 ⟨rfl, N84⟩ (by decide) (by decide)
      · refine own_via (S' := T78.setTop (mkF m 194 #[.val (.int p1), .val (.int p2), .val (.int p3), .val (.int p4), .val (.int p5), .val (.int p6), .val (.int cc), .val (.int xx), .val (.int yy), .val (.int zz), .val (.int uu), .val (.int tt), .val (.ref b1), .val (.ref b3), .val (.int Rv76.2), .val (.int (1 : Int32))] [])) (fun t k => XS.ifYes (g := (mkF m 175 #[.val (.int p1), .val (.int p2), .val (.int p3), .val (.int p4), .val (.int p5), .val (.int p6), .val (.int cc), .val (.int xx), .val (.int yy), .val (.int zz), .val (.int uu), .val (.int tt), .val (.ref b1), .val (.ref b3), .val (.int Rv76.2), .val (.int (1 : Int32))] [(.int Rv76.2)])) X78.here hx rfl (pc0 := 175) (pc' := 194) rfl (hb hby at_175) rfl ((if0 _ _).trans (flt hc175_81).2.2.2) (by decide) (by decide) k) ?_
        refine own_via (S' := T78.setTop (mkF m 197 #[.val (.int p1), .val (.int p2), .val (.int p3), .val (.int p4), .val (.int p5), .val (.int p6), .val (.int cc), .val (.int xx), .val (.int yy), .val (.int zz), .val (.int uu), .val (.int tt), .val (.ref b1), .val (.ref b3), .val (.int Rv76.2), .val (.int (1 : Int32))] [(.int (1 : Int32)), (.int Rv76.2)])) (fun t k => ?_) ?_
        · show Steps p.tables e below (T78.setTop (mkF m 194 #[.val (.int p1), .val (.int p2), .val (.int p3), .val (.int p4), .val (.int p5), .val (.int p6), .val (.int cc), .val (.int xx), .val (.int yy), .val (.int zz), .val (.int uu), .val (.int tt), .val (.ref b1), .val (.ref b3), .val (.int Rv76.2), .val (.int (1 : Int32))] [])) t
          refine XS.iload X78.here hx rfl (hb hby at_194) rfl ?_
          show Steps p.tables e below (T78.setTop (mkF m 196 #[.val (.int p1), .val (.int p2), .val (.int p3), .val (.int p4), .val (.int p5), .val (.int p6), .val (.int cc), .val (.int xx), .val (.int yy), .val (.int zz), .val (.int uu), .val (.int tt), .val (.ref b1), .val (.ref b3), .val (.int Rv76.2), .val (.int (1 : Int32))] [(.int Rv76.2)])) t
          refine XS.iconst X78.here hx rfl (hb hby at_196) ?_
          exact k
        refine own_via (S' := T78.setTop (mkF m 216 #[.val (.int p1), .val (.int p2), .val (.int p3), .val (.int p4), .val (.int p5), .val (.int p6), .val (.int cc), .val (.int xx), .val (.int yy), .val (.int zz), .val (.int uu), .val (.int tt), .val (.ref b1), .val (.ref b3), .val (.int Rv76.2), .val (.int (1 : Int32))] [])) (fun t k => XS.icmpYes (g := (mkF m 197 #[.val (.int p1), .val (.int p2), .val (.int p3), .val (.int p4), .val (.int p5), .val (.int p6), .val (.int cc), .val (.int xx), .val (.int yy), .val (.int zz), .val (.int uu), .val (.int tt), .val (.ref b1), .val (.ref b3), .val (.int Rv76.2), .val (.int (1 : Int32))] [(.int (1 : Int32)), (.int Rv76.2)])) X78.here hx rfl (pc0 := 197) (pc' := 216) rfl (hb hby at_197) rfl (flt (own_n01 hc175_81)).2.2.2 (by decide) (by decide) k) ?_
        refine own_via (S' := T78.setTop (mkF m 219 #[.val (.int p1), .val (.int p2), .val (.int p3), .val (.int p4), .val (.int p5), .val (.int p6), .val (.int cc), .val (.int xx), .val (.int yy), .val (.int zz), .val (.int uu), .val (.int tt), .val (.ref b1), .val (.ref b3), .val (.int Rv76.2), .val (.int (1 : Int32))] [(.int (2 : Int32)), (.int Rv76.2)])) (fun t k => ?_) ?_
        · show Steps p.tables e below (T78.setTop (mkF m 216 #[.val (.int p1), .val (.int p2), .val (.int p3), .val (.int p4), .val (.int p5), .val (.int p6), .val (.int cc), .val (.int xx), .val (.int yy), .val (.int zz), .val (.int uu), .val (.int tt), .val (.ref b1), .val (.ref b3), .val (.int Rv76.2), .val (.int (1 : Int32))] [])) t
          refine XS.iload X78.here hx rfl (hb hby at_216) rfl ?_
          show Steps p.tables e below (T78.setTop (mkF m 218 #[.val (.int p1), .val (.int p2), .val (.int p3), .val (.int p4), .val (.int p5), .val (.int p6), .val (.int cc), .val (.int xx), .val (.int yy), .val (.int zz), .val (.int uu), .val (.int tt), .val (.ref b1), .val (.ref b3), .val (.int Rv76.2), .val (.int (1 : Int32))] [(.int Rv76.2)])) t
          refine XS.iconst X78.here hx rfl (hb hby at_218) ?_
          exact k
        refine own_via (S' := T78.setTop (mkF m 238 #[.val (.int p1), .val (.int p2), .val (.int p3), .val (.int p4), .val (.int p5), .val (.int p6), .val (.int cc), .val (.int xx), .val (.int yy), .val (.int zz), .val (.int uu), .val (.int tt), .val (.ref b1), .val (.ref b3), .val (.int Rv76.2), .val (.int (1 : Int32))] [])) (fun t k => XS.icmpYes (g := (mkF m 219 #[.val (.int p1), .val (.int p2), .val (.int p3), .val (.int p4), .val (.int p5), .val (.int p6), .val (.int cc), .val (.int xx), .val (.int yy), .val (.int zz), .val (.int uu), .val (.int tt), .val (.ref b1), .val (.ref b3), .val (.int Rv76.2), .val (.int (1 : Int32))] [(.int (2 : Int32)), (.int Rv76.2)])) X78.here hx rfl (pc0 := 219) (pc' := 238) rfl (hb hby at_219) rfl (flt (own_n02 hc175_81)).2.2.2 (by decide) (by decide) k) ?_
        refine own_via (S' := T78.setTop (mkF m 240 #[.val (.int p1), .val (.int p2), .val (.int p3), .val (.int p4), .val (.int p5), .val (.int p6), .val (.int cc), .val (.int xx), .val (.int yy), .val (.int zz), .val (.int uu), .val (.int tt), .val (.ref b1), .val (.ref b3), .val (.int Rv76.2), .val (.int (1 : Int32))] [(.int (1 : Int32))])) (fun t k => ?_) ?_
        · show Steps p.tables e below (T78.setTop (mkF m 238 #[.val (.int p1), .val (.int p2), .val (.int p3), .val (.int p4), .val (.int p5), .val (.int p6), .val (.int cc), .val (.int xx), .val (.int yy), .val (.int zz), .val (.int uu), .val (.int tt), .val (.ref b1), .val (.ref b3), .val (.int Rv76.2), .val (.int (1 : Int32))] [])) t
          refine XS.iload X78.here hx rfl (hb hby at_238) rfl ?_
          exact k
        exact own_end (h := T76.heap) X78 (v := some (.int (1 : Int32))) Bd.notSynchronized (fun h => by rw [Bd.returns] at h; cases h) (fun fs hr => retN X78 hx (t := .boolean) Bd.returns (by simp) (hb hby at_240) hr) hh78 ⟨rfl, N78⟩ (by decide) (by decide)
    · refine own_via (S' := T55.setTop (mkF m 80 #[.val (.int p1), .val (.int p2), .val (.int p3), .val (.int p4), .val (.int p5), .val (.int p6), .val (.int cc), .val (.int xx), .val (.int yy), .val (.int zz), .val (.int uu), .val (.int tt), .val (.ref b1), .val (.ref b3), .val (.int Rv55.2), .unset] [])) (fun t k => XS.icmpNo (g := (mkF m 77 #[.val (.int p1), .val (.int p2), .val (.int p3), .val (.int p4), .val (.int p5), .val (.int p6), .val (.int cc), .val (.int xx), .val (.int yy), .val (.int zz), .val (.int uu), .val (.int tt), .val (.ref b1), .val (.ref b3), .val (.int Rv55.2), .unset] [(.int (2 : Int32)), (.int cc)])) X55.here hx rfl (hb hby at_77) rfl (flt hc77_56).1 k) ?_
      refine own_via (S' := T55.setTop (mkF m 84 #[.val (.int p1), .val (.int p2), .val (.int p3), .val (.int p4), .val (.int p5), .val (.int p6), .val (.int cc), .val (.int xx), .val (.int yy), .val (.int zz), .val (.int uu), .val (.int tt), .val (.ref b1), .val (.ref b3), .val (.int Rv55.2), .unset] [(.int yy), (.ref b1)])) (fun t k => ?_) ?_
      · show Steps p.tables e below (T55.setTop (mkF m 80 #[.val (.int p1), .val (.int p2), .val (.int p3), .val (.int p4), .val (.int p5), .val (.int p6), .val (.int cc), .val (.int xx), .val (.int yy), .val (.int zz), .val (.int uu), .val (.int tt), .val (.ref b1), .val (.ref b3), .val (.int Rv55.2), .unset] [])) t
        refine XS.aload X55.here hx rfl (hb hby at_80) rfl rfl ?_
        show Steps p.tables e below (T55.setTop (mkF m 82 #[.val (.int p1), .val (.int p2), .val (.int p3), .val (.int p4), .val (.int p5), .val (.int p6), .val (.int cc), .val (.int xx), .val (.int yy), .val (.int zz), .val (.int uu), .val (.int tt), .val (.ref b1), .val (.ref b3), .val (.int Rv55.2), .unset] [(.ref b1)])) t
        refine XS.iload X55.here hx rfl (hb hby at_82) rfl ?_
        exact k
      have c98 := (Exa.keep DE53 Kc55)
      have c99 := (Fld.keep DM53 Kc55 (ninS ne_b1_b3 nin0))
      have c100 := (Fld.keep DP53 Kc55 (ninS ne_b1_b3 nin0))
      have c101 := (Fld.keep DZ53 Kc55 (ninS ne_b1_b3 nin0))
      have c102 := (own_Ar.keep DA53 Kc55 (ninS ne_bm2_b3 nin0))
      have c103 := (own_Ar.keep DB53 Kc55 (ninS ne_bp2_b3 nin0))
      obtain ⟨cq104, kq104, q104a, q104b, q104c⟩ := isOf hZ rfl c98
      obtain ⟨_, _, ⟨T104, L104, k104, n104⟩, -, X104, ⟨Lc104, hQ104, l104, y104, z104⟩, st104⟩ := X55.virtualBack hx (y := (⟨"com/example/vendace/vendace/localrecoding/DenseSet", "add", "(I)V"⟩ : MethodName)) (z := (⟨"com/example/vendace/vendace/localrecoding/DenseSet", "add", "(I)V"⟩ : MethodName)) hown (mvT hZ (hw _ (List.mem_of_getElem? (i := 34) rfl))) (mvT hZ (hw _ (List.mem_of_getElem? (i := 35) rfl))) (notFace_of_selects (args := #[]) (mvT hZ (hw _ (List.mem_of_getElem? (i := 37) rfl)))) (mvT hZ (hw _ (List.mem_of_getElem? (i := 37) rfl))) (mvT hZ (hw _ (List.mem_of_getElem? (i := 36) rfl))) (by decide) (backOf (W := 0) (rm7 l Z a0 hw [] b1 yy bm2 bp2 km2 kp2 (4 : Int32) Sv53 T55.heap n0 (Nat.le_trans Z0 K55.1) ⟨c98, c99, c100, c101, c102, c103⟩ na2 nb2 nc2 g_b1 gm2 gp2 (own_p2 hd_xx hd_yy hS53 hR55).1) hZ (hw _ (List.mem_of_getElem? (i := 38) rfl)) (hw _ (List.mem_of_getElem? (i := 2) rfl)) (by decide) (by decide)) q104a q104c (g := (mkF m 84 #[.val (.int p1), .val (.int p2), .val (.int p3), .val (.int p4), .val (.int p5), .val (.int p6), .val (.int cc), .val (.int xx), .val (.int yy), .val (.int zz), .val (.int uu), .val (.int tt), .val (.ref b1), .val (.ref b3), .val (.int Rv55.2), .unset] [(.int yy), (.ref b1)])) rfl (by rw [hml]; rfl) (Steps.refl _) (argsL := [(.int yy)]) (rest := []) (lenOf pd_2 rfl) rfl (by show 2 * 0 + _ ≤ _; exact Nat.le_of_eq rfl) (hb hby at_84) (fun _ _ => ⟨rfl, rfl, (by decide : 4 + 0 ≤ _), (by decide : 15 + 0 ≤ _)⟩)
      dsimp only [Pt.U, Pt.locs, Pt.cells, Pt.slots] at X104 l104 y104 z104 st104 hQ104
      subst l104 y104 z104
      obtain ⟨rfl, Nq104, Kc104, Sv104, hS104, DS104⟩ := hQ104
      have N104 := Fr.app N55 Nq104
      refine own_via (fun t k => st104.trans k) ?_
      show own_G p.tables e below _ (T104.setTop (mkF m 87 #[.val (.int p1), .val (.int p2), .val (.int p3), .val (.int p4), .val (.int p5), .val (.int p6), .val (.int cc), .val (.int xx), .val (.int yy), .val (.int zz), .val (.int uu), .val (.int tt), .val (.ref b1), .val (.ref b3), .val (.int Rv55.2), .unset] []))
      have K104 : Keep h0 T104.heap [] := Keep.trans K55 Kc104 (allS (Or.inr sz_b1) (allS (Or.inr sm2) (allS (Or.inr sp2) all0)))
      obtain ⟨DE104, DM104, DP104, DZ104, DA104, DB104⟩ := id DS104
      refine own_via (S' := T104.setTop (mkF m 93 #[.val (.int p1), .val (.int p2), .val (.int p3), .val (.int p4), .val (.int p5), .val (.int p6), .val (.int cc), .val (.int xx), .val (.int yy), .val (.int zz), .val (.int uu), .val (.int tt), .val (.ref b1), .val (.ref b3), .val (.int Rv55.2), .unset] [(.int yy), (.int Rv55.2), (.ref b3)])) (fun t k => ?_) ?_
      · show Steps p.tables e below (T104.setTop (mkF m 87 #[.val (.int p1), .val (.int p2), .val (.int p3), .val (.int p4), .val (.int p5), .val (.int p6), .val (.int cc), .val (.int xx), .val (.int yy), .val (.int zz), .val (.int uu), .val (.int tt), .val (.ref b1), .val (.ref b3), .val (.int Rv55.2), .unset] [])) t
        refine XS.aload X104.here hx rfl (hb hby at_87) rfl rfl ?_
        show Steps p.tables e below (T104.setTop (mkF m 89 #[.val (.int p1), .val (.int p2), .val (.int p3), .val (.int p4), .val (.int p5), .val (.int p6), .val (.int cc), .val (.int xx), .val (.int yy), .val (.int zz), .val (.int uu), .val (.int tt), .val (.ref b1), .val (.ref b3), .val (.int Rv55.2), .unset] [(.ref b3)])) t
        refine XS.iload X104.here hx rfl (hb hby at_89) rfl ?_
        show Steps p.tables e below (T104.setTop (mkF m 91 #[.val (.int p1), .val (.int p2), .val (.int p3), .val (.int p4), .val (.int p5), .val (.int p6), .val (.int cc), .val (.int xx), .val (.int yy), .val (.int zz), .val (.int uu), .val (.int tt), .val (.ref b1), .val (.ref b3), .val (.int Rv55.2), .unset] [(.int Rv55.2), (.ref b3)])) t
        refine XS.iload X104.here hx rfl (hb hby at_91) rfl ?_
        exact k
      have c105 := (own_Ar.keep Vc55 Kc104 (ninS (Ne.symm ne_b1_b3) (ninS (Ne.symm ne_bm2_b3) (ninS (Ne.symm ne_bp2_b3) nin0))))
      obtain ⟨_, _, ⟨T106, L106, k106, n106⟩, -, X106, ⟨Lc106, hQ106, l106, y106, z106⟩, st106⟩ := Jvm.LawKit.callS X104 hx (y := (⟨"com/example/vendace/vendace/localrecoding/DenseSetRemovePinLaw", "refAdd", "([III)I"⟩ : MethodName)) hown (mvT hZ (hw _ (List.mem_of_getElem? (i := 39) rfl))) (mvT hZ (hw _ (List.mem_of_getElem? (i := 40) rfl))) (mvT hZ (hw _ (List.mem_of_getElem? (i := 25) rfl))) (mvT hZ (hw _ (List.mem_of_getElem? (i := 41) rfl))) (by decide) (backOf (W := 0) (rm8 l Z a0 hw [] b3 Rv55.2 yy k3 Rv55.1 T104.heap n0 (Nat.le_trans Z0 K104.1) c105 g_b3 (own_p2 hd_xx hd_yy hS53 hR55).2) hZ (hw _ (List.mem_of_getElem? (i := 41) rfl)) (hw _ (List.mem_of_getElem? (i := 25) rfl)) (by decide) (by decide)) (g := (mkF m 93 #[.val (.int p1), .val (.int p2), .val (.int p3), .val (.int p4), .val (.int p5), .val (.int p6), .val (.int cc), .val (.int xx), .val (.int yy), .val (.int zz), .val (.int uu), .val (.int tt), .val (.ref b1), .val (.ref b3), .val (.int Rv55.2), .unset] [(.int yy), (.int Rv55.2), (.ref b3)])) rfl (by rw [hml]; rfl) (argsL := [(.ref b3), (.int Rv55.2), (.int yy)]) (rest := []) (lenOf pd_3 rfl) rfl (by show 2 * 0 + _ ≤ _; exact Nat.le_of_eq rfl) (hb hby at_93) (fun _ _ => ⟨rfl, rfl, (by decide : 4 + 0 ≤ _), (by decide : 15 + 0 ≤ _)⟩)
      dsimp only [Pt.U, Pt.locs, Pt.cells, Pt.slots] at X106 l106 y106 z106 st106 hQ106
      subst l106 y106 z106
      obtain ⟨Rv106, hR106, rfl, Nq106, Kc106, Vc106⟩ := hQ106
      have N106 := Fr.app N104 Nq106
      refine own_via st106 ?_
      show own_G p.tables e below _ (T106.setTop (mkF m 96 #[.val (.int p1), .val (.int p2), .val (.int p3), .val (.int p4), .val (.int p5), .val (.int p6), .val (.int cc), .val (.int xx), .val (.int yy), .val (.int zz), .val (.int uu), .val (.int tt), .val (.ref b1), .val (.ref b3), .val (.int Rv55.2), .unset] [(.int Rv106.2)]))
      have K106 : Keep h0 T106.heap [] := Keep.trans K104 Kc106 (allS (Or.inr sz_b3) all0)
      refine own_via (S' := T106.setTop (mkF m 101 #[.val (.int p1), .val (.int p2), .val (.int p3), .val (.int p4), .val (.int p5), .val (.int p6), .val (.int cc), .val (.int xx), .val (.int yy), .val (.int zz), .val (.int uu), .val (.int tt), .val (.ref b1), .val (.ref b3), .val (.int Rv106.2), .unset] [(.int (3 : Int32)), (.int cc)])) (fun t k => ?_) ?_
      · show Steps p.tables e below (T106.setTop (mkF m 96 #[.val (.int p1), .val (.int p2), .val (.int p3), .val (.int p4), .val (.int p5), .val (.int p6), .val (.int cc), .val (.int xx), .val (.int yy), .val (.int zz), .val (.int uu), .val (.int tt), .val (.ref b1), .val (.ref b3), .val (.int Rv55.2), .unset] [(.int Rv106.2)])) t
        refine XS.istore X106.here hx rfl (hb hby at_96) rfl (l' := #[.val (.int p1), .val (.int p2), .val (.int p3), .val (.int p4), .val (.int p5), .val (.int p6), .val (.int cc), .val (.int xx), .val (.int yy), .val (.int zz), .val (.int uu), .val (.int tt), .val (.ref b1), .val (.ref b3), .val (.int Rv106.2), .unset]) rfl ?_
        show Steps p.tables e below (T106.setTop (mkF m 98 #[.val (.int p1), .val (.int p2), .val (.int p3), .val (.int p4), .val (.int p5), .val (.int p6), .val (.int cc), .val (.int xx), .val (.int yy), .val (.int zz), .val (.int uu), .val (.int tt), .val (.ref b1), .val (.ref b3), .val (.int Rv106.2), .unset] [])) t
        refine XS.iload X106.here hx rfl (hb hby at_98) rfl ?_
        show Steps p.tables e below (T106.setTop (mkF m 100 #[.val (.int p1), .val (.int p2), .val (.int p3), .val (.int p4), .val (.int p5), .val (.int p6), .val (.int cc), .val (.int xx), .val (.int yy), .val (.int zz), .val (.int uu), .val (.int tt), .val (.ref b1), .val (.ref b3), .val (.int Rv106.2), .unset] [(.int cc)])) t
        refine XS.iconst X106.here hx rfl (hb hby at_100) ?_
        exact k
      by_cases hc101_107 : cc < (3 : Int32)
      · refine own_via (S' := T106.setTop (mkF m 122 #[.val (.int p1), .val (.int p2), .val (.int p3), .val (.int p4), .val (.int p5), .val (.int p6), .val (.int cc), .val (.int xx), .val (.int yy), .val (.int zz), .val (.int uu), .val (.int tt), .val (.ref b1), .val (.ref b3), .val (.int Rv106.2), .unset] [])) (fun t k => XS.icmpYes (g := (mkF m 101 #[.val (.int p1), .val (.int p2), .val (.int p3), .val (.int p4), .val (.int p5), .val (.int p6), .val (.int cc), .val (.int xx), .val (.int yy), .val (.int zz), .val (.int uu), .val (.int tt), .val (.ref b1), .val (.ref b3), .val (.int Rv106.2), .unset] [(.int (3 : Int32)), (.int cc)])) X106.here hx rfl (pc0 := 101) (pc' := 122) rfl (hb hby at_101) rfl (tlt hc101_107).1 (by decide) (by decide) k) ?_
        refine own_via (S' := T106.setTop (mkF m 126 #[.val (.int p1), .val (.int p2), .val (.int p3), .val (.int p4), .val (.int p5), .val (.int p6), .val (.int cc), .val (.int xx), .val (.int yy), .val (.int zz), .val (.int uu), .val (.int tt), .val (.ref b1), .val (.ref b3), .val (.int Rv106.2), .unset] [(.int uu), (.ref b1)])) (fun t k => ?_) ?_
        · show Steps p.tables e below (T106.setTop (mkF m 122 #[.val (.int p1), .val (.int p2), .val (.int p3), .val (.int p4), .val (.int p5), .val (.int p6), .val (.int cc), .val (.int xx), .val (.int yy), .val (.int zz), .val (.int uu), .val (.int tt), .val (.ref b1), .val (.ref b3), .val (.int Rv106.2), .unset] [])) t
          refine XS.aload X106.here hx rfl (hb hby at_122) rfl rfl ?_
          show Steps p.tables e below (T106.setTop (mkF m 124 #[.val (.int p1), .val (.int p2), .val (.int p3), .val (.int p4), .val (.int p5), .val (.int p6), .val (.int cc), .val (.int xx), .val (.int yy), .val (.int zz), .val (.int uu), .val (.int tt), .val (.ref b1), .val (.ref b3), .val (.int Rv106.2), .unset] [(.ref b1)])) t
          refine XS.iload X106.here hx rfl (hb hby at_124) rfl ?_
          exact k
        have hk108 : own_chk Sv104 Rv106 uu tt := own_k2 hd_xx hd_yy hd_uu hd_tt hS53 hS104 hR55 hR106
        obtain ⟨ka108, kb108, kc108, kd108, ke108⟩ := hk108
        have c109 := (Exa.keep DE104 Kc106)
        have c110 := (Fld.keep DM104 Kc106 (ninS ne_b1_b3 nin0))
        have c111 := (Fld.keep DP104 Kc106 (ninS ne_b1_b3 nin0))
        have c112 := (Fld.keep DZ104 Kc106 (ninS ne_b1_b3 nin0))
        have c113 := (own_Ar.keep DA104 Kc106 (ninS ne_bm2_b3 nin0))
        have c114 := (own_Ar.keep DB104 Kc106 (ninS ne_bp2_b3 nin0))
        obtain ⟨cq115, kq115, q115a, q115b, q115c⟩ := isOf hZ rfl c109
        obtain ⟨_, _, ⟨T115, L115, k115, n115⟩, -, X115, ⟨Lc115, hQ115, l115, y115, z115⟩, st115⟩ := X106.virtualBack hx (y := (⟨"com/example/vendace/vendace/localrecoding/DenseSet", "remove", "(I)V"⟩ : MethodName)) (z := (⟨"com/example/vendace/vendace/localrecoding/DenseSet", "remove", "(I)V"⟩ : MethodName)) hown (mvT hZ (hw _ (List.mem_of_getElem? (i := 18) rfl))) (mvT hZ (hw _ (List.mem_of_getElem? (i := 19) rfl))) (notFace_of_selects (args := #[]) (mvT hZ (hw _ (List.mem_of_getElem? (i := 21) rfl)))) (mvT hZ (hw _ (List.mem_of_getElem? (i := 21) rfl))) (mvT hZ (hw _ (List.mem_of_getElem? (i := 20) rfl))) (by decide) (backOf (W := 0) (rm4 l Z a0 hw [] b1 uu bm2 bp2 km2 kp2 (4 : Int32) Sv104 T106.heap n0 (Nat.le_trans Z0 K106.1) ⟨c109, c110, c111, c112, c113, c114⟩ na2 nb2 nc2 g_b1 gm2 gp2 ka108) hZ (hw _ (List.mem_of_getElem? (i := 22) rfl)) (hw _ (List.mem_of_getElem? (i := 2) rfl)) (by decide) (by decide)) q115a q115c (g := (mkF m 126 #[.val (.int p1), .val (.int p2), .val (.int p3), .val (.int p4), .val (.int p5), .val (.int p6), .val (.int cc), .val (.int xx), .val (.int yy), .val (.int zz), .val (.int uu), .val (.int tt), .val (.ref b1), .val (.ref b3), .val (.int Rv106.2), .unset] [(.int uu), (.ref b1)])) rfl (by rw [hml]; rfl) (Steps.refl _) (argsL := [(.int uu)]) (rest := []) (lenOf pd_2 rfl) rfl (by show 2 * 0 + _ ≤ _; exact Nat.le_of_eq rfl) (hb hby at_126) (fun _ _ => ⟨rfl, rfl, (by decide : 4 + 0 ≤ _), (by decide : 15 + 0 ≤ _)⟩)
        dsimp only [Pt.U, Pt.locs, Pt.cells, Pt.slots] at X115 l115 y115 z115 st115 hQ115
        subst l115 y115 z115
        obtain ⟨rfl, Nq115, Kc115, Sv115, hS115, DS115⟩ := hQ115
        have N115 := Fr.app N106 Nq115
        refine own_via (fun t k => st115.trans k) ?_
        show own_G p.tables e below _ (T115.setTop (mkF m 129 #[.val (.int p1), .val (.int p2), .val (.int p3), .val (.int p4), .val (.int p5), .val (.int p6), .val (.int cc), .val (.int xx), .val (.int yy), .val (.int zz), .val (.int uu), .val (.int tt), .val (.ref b1), .val (.ref b3), .val (.int Rv106.2), .unset] []))
        have K115 : Keep h0 T115.heap [] := Keep.trans K106 Kc115 (allS (Or.inr sz_b1) (allS (Or.inr sm2) (allS (Or.inr sp2) all0)))
        obtain ⟨DE115, DM115, DP115, DZ115, DA115, DB115⟩ := id DS115
        rw [← hS115] at kc108 ke108
        refine own_via (S' := T115.setTop (mkF m 135 #[.val (.int p1), .val (.int p2), .val (.int p3), .val (.int p4), .val (.int p5), .val (.int p6), .val (.int cc), .val (.int xx), .val (.int yy), .val (.int zz), .val (.int uu), .val (.int tt), .val (.ref b1), .val (.ref b3), .val (.int Rv106.2), .unset] [(.int uu), (.int Rv106.2), (.ref b3)])) (fun t k => ?_) ?_
        · show Steps p.tables e below (T115.setTop (mkF m 129 #[.val (.int p1), .val (.int p2), .val (.int p3), .val (.int p4), .val (.int p5), .val (.int p6), .val (.int cc), .val (.int xx), .val (.int yy), .val (.int zz), .val (.int uu), .val (.int tt), .val (.ref b1), .val (.ref b3), .val (.int Rv106.2), .unset] [])) t
          refine XS.aload X115.here hx rfl (hb hby at_129) rfl rfl ?_
          show Steps p.tables e below (T115.setTop (mkF m 131 #[.val (.int p1), .val (.int p2), .val (.int p3), .val (.int p4), .val (.int p5), .val (.int p6), .val (.int cc), .val (.int xx), .val (.int yy), .val (.int zz), .val (.int uu), .val (.int tt), .val (.ref b1), .val (.ref b3), .val (.int Rv106.2), .unset] [(.ref b3)])) t
          refine XS.iload X115.here hx rfl (hb hby at_131) rfl ?_
          show Steps p.tables e below (T115.setTop (mkF m 133 #[.val (.int p1), .val (.int p2), .val (.int p3), .val (.int p4), .val (.int p5), .val (.int p6), .val (.int cc), .val (.int xx), .val (.int yy), .val (.int zz), .val (.int uu), .val (.int tt), .val (.ref b1), .val (.ref b3), .val (.int Rv106.2), .unset] [(.int Rv106.2), (.ref b3)])) t
          refine XS.iload X115.here hx rfl (hb hby at_133) rfl ?_
          exact k
        have c116 := (own_Ar.keep Vc106 Kc115 (ninS (Ne.symm ne_b1_b3) (ninS (Ne.symm ne_bm2_b3) (ninS (Ne.symm ne_bp2_b3) nin0))))
        obtain ⟨_, _, ⟨T117, L117, k117, n117⟩, -, X117, ⟨Lc117, hQ117, l117, y117, z117⟩, st117⟩ := Jvm.LawKit.callS X115 hx (y := (⟨"com/example/vendace/vendace/localrecoding/DenseSetRemovePinLaw", "refRemove", "([III)I"⟩ : MethodName)) hown (mvT hZ (hw _ (List.mem_of_getElem? (i := 23) rfl))) (mvT hZ (hw _ (List.mem_of_getElem? (i := 24) rfl))) (mvT hZ (hw _ (List.mem_of_getElem? (i := 25) rfl))) (mvT hZ (hw _ (List.mem_of_getElem? (i := 26) rfl))) (by decide) (backOf (W := 0) (rm5 l Z a0 hw [] b3 Rv106.2 uu k3 Rv106.1 T115.heap n0 (Nat.le_trans Z0 K115.1) c116 g_b3 kb108) hZ (hw _ (List.mem_of_getElem? (i := 26) rfl)) (hw _ (List.mem_of_getElem? (i := 25) rfl)) (by decide) (by decide)) (g := (mkF m 135 #[.val (.int p1), .val (.int p2), .val (.int p3), .val (.int p4), .val (.int p5), .val (.int p6), .val (.int cc), .val (.int xx), .val (.int yy), .val (.int zz), .val (.int uu), .val (.int tt), .val (.ref b1), .val (.ref b3), .val (.int Rv106.2), .unset] [(.int uu), (.int Rv106.2), (.ref b3)])) rfl (by rw [hml]; rfl) (argsL := [(.ref b3), (.int Rv106.2), (.int uu)]) (rest := []) (lenOf pd_3 rfl) rfl (by show 2 * 0 + _ ≤ _; exact Nat.le_of_eq rfl) (hb hby at_135) (fun _ _ => ⟨rfl, rfl, (by decide : 4 + 0 ≤ _), (by decide : 15 + 0 ≤ _)⟩)
        dsimp only [Pt.U, Pt.locs, Pt.cells, Pt.slots] at X117 l117 y117 z117 st117 hQ117
        subst l117 y117 z117
        obtain ⟨Rv117, hR117, rfl, Nq117, Kc117, Vc117⟩ := hQ117
        have N117 := Fr.app N115 Nq117
        refine own_via st117 ?_
        show own_G p.tables e below _ (T117.setTop (mkF m 138 #[.val (.int p1), .val (.int p2), .val (.int p3), .val (.int p4), .val (.int p5), .val (.int p6), .val (.int cc), .val (.int xx), .val (.int yy), .val (.int zz), .val (.int uu), .val (.int tt), .val (.ref b1), .val (.ref b3), .val (.int Rv106.2), .unset] [(.int Rv117.2)]))
        have K117 : Keep h0 T117.heap [] := Keep.trans K115 Kc117 (allS (Or.inr sz_b3) all0)
        rw [← hR117] at kd108 ke108
        refine own_via (S' := T117.setTop (mkF m 144 #[.val (.int p1), .val (.int p2), .val (.int p3), .val (.int p4), .val (.int p5), .val (.int p6), .val (.int cc), .val (.int xx), .val (.int yy), .val (.int zz), .val (.int uu), .val (.int tt), .val (.ref b1), .val (.ref b3), .val (.int Rv117.2), .unset] [(.int tt), (.ref b1)])) (fun t k => ?_) ?_
        · show Steps p.tables e below (T117.setTop (mkF m 138 #[.val (.int p1), .val (.int p2), .val (.int p3), .val (.int p4), .val (.int p5), .val (.int p6), .val (.int cc), .val (.int xx), .val (.int yy), .val (.int zz), .val (.int uu), .val (.int tt), .val (.ref b1), .val (.ref b3), .val (.int Rv106.2), .unset] [(.int Rv117.2)])) t
          refine XS.istore X117.here hx rfl (hb hby at_138) rfl (l' := #[.val (.int p1), .val (.int p2), .val (.int p3), .val (.int p4), .val (.int p5), .val (.int p6), .val (.int cc), .val (.int xx), .val (.int yy), .val (.int zz), .val (.int uu), .val (.int tt), .val (.ref b1), .val (.ref b3), .val (.int Rv117.2), .unset]) rfl ?_
          show Steps p.tables e below (T117.setTop (mkF m 140 #[.val (.int p1), .val (.int p2), .val (.int p3), .val (.int p4), .val (.int p5), .val (.int p6), .val (.int cc), .val (.int xx), .val (.int yy), .val (.int zz), .val (.int uu), .val (.int tt), .val (.ref b1), .val (.ref b3), .val (.int Rv117.2), .unset] [])) t
          refine XS.aload X117.here hx rfl (hb hby at_140) rfl rfl ?_
          show Steps p.tables e below (T117.setTop (mkF m 142 #[.val (.int p1), .val (.int p2), .val (.int p3), .val (.int p4), .val (.int p5), .val (.int p6), .val (.int cc), .val (.int xx), .val (.int yy), .val (.int zz), .val (.int uu), .val (.int tt), .val (.ref b1), .val (.ref b3), .val (.int Rv117.2), .unset] [(.ref b1)])) t
          refine XS.iload X117.here hx rfl (hb hby at_142) rfl ?_
          exact k
        have c118 := (Exa.keep DE115 Kc117)
        have c119 := (Fld.keep DM115 Kc117 (ninS ne_b1_b3 nin0))
        have c120 := (Fld.keep DP115 Kc117 (ninS ne_b1_b3 nin0))
        have c121 := (Fld.keep DZ115 Kc117 (ninS ne_b1_b3 nin0))
        have c122 := (own_Ar.keep DA115 Kc117 (ninS ne_bm2_b3 nin0))
        have c123 := (own_Ar.keep DB115 Kc117 (ninS ne_bp2_b3 nin0))
        obtain ⟨cq124, kq124, q124a, q124b, q124c⟩ := isOf hZ rfl c118
        obtain ⟨_, _, ⟨T124, L124, k124, n124⟩, -, X124, ⟨Lc124, hQ124, l124, y124, z124⟩, st124⟩ := X117.virtualBack hx (y := (⟨"com/example/vendace/vendace/localrecoding/DenseSet", "remove", "(I)V"⟩ : MethodName)) (z := (⟨"com/example/vendace/vendace/localrecoding/DenseSet", "remove", "(I)V"⟩ : MethodName)) hown (mvT hZ (hw _ (List.mem_of_getElem? (i := 18) rfl))) (mvT hZ (hw _ (List.mem_of_getElem? (i := 19) rfl))) (notFace_of_selects (args := #[]) (mvT hZ (hw _ (List.mem_of_getElem? (i := 21) rfl)))) (mvT hZ (hw _ (List.mem_of_getElem? (i := 21) rfl))) (mvT hZ (hw _ (List.mem_of_getElem? (i := 20) rfl))) (by decide) (backOf (W := 0) (rm4 l Z a0 hw [] b1 tt bm2 bp2 km2 kp2 (4 : Int32) Sv115 T117.heap n0 (Nat.le_trans Z0 K117.1) ⟨c118, c119, c120, c121, c122, c123⟩ na2 nb2 nc2 g_b1 gm2 gp2 kc108) hZ (hw _ (List.mem_of_getElem? (i := 22) rfl)) (hw _ (List.mem_of_getElem? (i := 2) rfl)) (by decide) (by decide)) q124a q124c (g := (mkF m 144 #[.val (.int p1), .val (.int p2), .val (.int p3), .val (.int p4), .val (.int p5), .val (.int p6), .val (.int cc), .val (.int xx), .val (.int yy), .val (.int zz), .val (.int uu), .val (.int tt), .val (.ref b1), .val (.ref b3), .val (.int Rv117.2), .unset] [(.int tt), (.ref b1)])) rfl (by rw [hml]; rfl) (Steps.refl _) (argsL := [(.int tt)]) (rest := []) (lenOf pd_2 rfl) rfl (by show 2 * 0 + _ ≤ _; exact Nat.le_of_eq rfl) (hb hby at_144) (fun _ _ => ⟨rfl, rfl, (by decide : 4 + 0 ≤ _), (by decide : 15 + 0 ≤ _)⟩)
        dsimp only [Pt.U, Pt.locs, Pt.cells, Pt.slots] at X124 l124 y124 z124 st124 hQ124
        subst l124 y124 z124
        obtain ⟨rfl, Nq124, Kc124, Sv124, hS124, DS124⟩ := hQ124
        have N124 := Fr.app N117 Nq124
        refine own_via (fun t k => st124.trans k) ?_
        show own_G p.tables e below _ (T124.setTop (mkF m 147 #[.val (.int p1), .val (.int p2), .val (.int p3), .val (.int p4), .val (.int p5), .val (.int p6), .val (.int cc), .val (.int xx), .val (.int yy), .val (.int zz), .val (.int uu), .val (.int tt), .val (.ref b1), .val (.ref b3), .val (.int Rv117.2), .unset] []))
        have K124 : Keep h0 T124.heap [] := Keep.trans K117 Kc124 (allS (Or.inr sz_b1) (allS (Or.inr sm2) (allS (Or.inr sp2) all0)))
        obtain ⟨DE124, DM124, DP124, DZ124, DA124, DB124⟩ := id DS124
        rw [← hS124] at ke108
        refine own_via (S' := T124.setTop (mkF m 153 #[.val (.int p1), .val (.int p2), .val (.int p3), .val (.int p4), .val (.int p5), .val (.int p6), .val (.int cc), .val (.int xx), .val (.int yy), .val (.int zz), .val (.int uu), .val (.int tt), .val (.ref b1), .val (.ref b3), .val (.int Rv117.2), .unset] [(.int tt), (.int Rv117.2), (.ref b3)])) (fun t k => ?_) ?_
        · show Steps p.tables e below (T124.setTop (mkF m 147 #[.val (.int p1), .val (.int p2), .val (.int p3), .val (.int p4), .val (.int p5), .val (.int p6), .val (.int cc), .val (.int xx), .val (.int yy), .val (.int zz), .val (.int uu), .val (.int tt), .val (.ref b1), .val (.ref b3), .val (.int Rv117.2), .unset] [])) t
          refine XS.aload X124.here hx rfl (hb hby at_147) rfl rfl ?_
          show Steps p.tables e below (T124.setTop (mkF m 149 #[.val (.int p1), .val (.int p2), .val (.int p3), .val (.int p4), .val (.int p5), .val (.int p6), .val (.int cc), .val (.int xx), .val (.int yy), .val (.int zz), .val (.int uu), .val (.int tt), .val (.ref b1), .val (.ref b3), .val (.int Rv117.2), .unset] [(.ref b3)])) t
          refine XS.iload X124.here hx rfl (hb hby at_149) rfl ?_
          show Steps p.tables e below (T124.setTop (mkF m 151 #[.val (.int p1), .val (.int p2), .val (.int p3), .val (.int p4), .val (.int p5), .val (.int p6), .val (.int cc), .val (.int xx), .val (.int yy), .val (.int zz), .val (.int uu), .val (.int tt), .val (.ref b1), .val (.ref b3), .val (.int Rv117.2), .unset] [(.int Rv117.2), (.ref b3)])) t
          refine XS.iload X124.here hx rfl (hb hby at_151) rfl ?_
          exact k
        have c125 := (own_Ar.keep Vc117 Kc124 (ninS (Ne.symm ne_b1_b3) (ninS (Ne.symm ne_bm2_b3) (ninS (Ne.symm ne_bp2_b3) nin0))))
        obtain ⟨_, _, ⟨T126, L126, k126, n126⟩, -, X126, ⟨Lc126, hQ126, l126, y126, z126⟩, st126⟩ := Jvm.LawKit.callS X124 hx (y := (⟨"com/example/vendace/vendace/localrecoding/DenseSetRemovePinLaw", "refRemove", "([III)I"⟩ : MethodName)) hown (mvT hZ (hw _ (List.mem_of_getElem? (i := 23) rfl))) (mvT hZ (hw _ (List.mem_of_getElem? (i := 24) rfl))) (mvT hZ (hw _ (List.mem_of_getElem? (i := 25) rfl))) (mvT hZ (hw _ (List.mem_of_getElem? (i := 26) rfl))) (by decide) (backOf (W := 0) (rm5 l Z a0 hw [] b3 Rv117.2 tt k3 Rv117.1 T124.heap n0 (Nat.le_trans Z0 K124.1) c125 g_b3 kd108) hZ (hw _ (List.mem_of_getElem? (i := 26) rfl)) (hw _ (List.mem_of_getElem? (i := 25) rfl)) (by decide) (by decide)) (g := (mkF m 153 #[.val (.int p1), .val (.int p2), .val (.int p3), .val (.int p4), .val (.int p5), .val (.int p6), .val (.int cc), .val (.int xx), .val (.int yy), .val (.int zz), .val (.int uu), .val (.int tt), .val (.ref b1), .val (.ref b3), .val (.int Rv117.2), .unset] [(.int tt), (.int Rv117.2), (.ref b3)])) rfl (by rw [hml]; rfl) (argsL := [(.ref b3), (.int Rv117.2), (.int tt)]) (rest := []) (lenOf pd_3 rfl) rfl (by show 2 * 0 + _ ≤ _; exact Nat.le_of_eq rfl) (hb hby at_153) (fun _ _ => ⟨rfl, rfl, (by decide : 4 + 0 ≤ _), (by decide : 15 + 0 ≤ _)⟩)
        dsimp only [Pt.U, Pt.locs, Pt.cells, Pt.slots] at X126 l126 y126 z126 st126 hQ126
        subst l126 y126 z126
        obtain ⟨Rv126, hR126, rfl, Nq126, Kc126, Vc126⟩ := hQ126
        have N126 := Fr.app N124 Nq126
        refine own_via st126 ?_
        show own_G p.tables e below _ (T126.setTop (mkF m 156 #[.val (.int p1), .val (.int p2), .val (.int p3), .val (.int p4), .val (.int p5), .val (.int p6), .val (.int cc), .val (.int xx), .val (.int yy), .val (.int zz), .val (.int uu), .val (.int tt), .val (.ref b1), .val (.ref b3), .val (.int Rv117.2), .unset] [(.int Rv126.2)]))
        have K126 : Keep h0 T126.heap [] := Keep.trans K124 Kc126 (allS (Or.inr sz_b3) all0)
        rw [← hR126] at ke108
        obtain ⟨ea108, eb108, ec108, ed108⟩ := ke108
        refine own_via (S' := T126.setTop (mkF m 160 #[.val (.int p1), .val (.int p2), .val (.int p3), .val (.int p4), .val (.int p5), .val (.int p6), .val (.int cc), .val (.int xx), .val (.int yy), .val (.int zz), .val (.int uu), .val (.int tt), .val (.ref b1), .val (.ref b3), .val (.int Rv126.2), .unset] [(.ref b1)])) (fun t k => ?_) ?_
        · show Steps p.tables e below (T126.setTop (mkF m 156 #[.val (.int p1), .val (.int p2), .val (.int p3), .val (.int p4), .val (.int p5), .val (.int p6), .val (.int cc), .val (.int xx), .val (.int yy), .val (.int zz), .val (.int uu), .val (.int tt), .val (.ref b1), .val (.ref b3), .val (.int Rv117.2), .unset] [(.int Rv126.2)])) t
          refine XS.istore X126.here hx rfl (hb hby at_156) rfl (l' := #[.val (.int p1), .val (.int p2), .val (.int p3), .val (.int p4), .val (.int p5), .val (.int p6), .val (.int cc), .val (.int xx), .val (.int yy), .val (.int zz), .val (.int uu), .val (.int tt), .val (.ref b1), .val (.ref b3), .val (.int Rv126.2), .unset]) rfl ?_
          show Steps p.tables e below (T126.setTop (mkF m 158 #[.val (.int p1), .val (.int p2), .val (.int p3), .val (.int p4), .val (.int p5), .val (.int p6), .val (.int cc), .val (.int xx), .val (.int yy), .val (.int zz), .val (.int uu), .val (.int tt), .val (.ref b1), .val (.ref b3), .val (.int Rv126.2), .unset] [])) t
          refine XS.aload X126.here hx rfl (hb hby at_158) rfl rfl ?_
          exact k
        have c127 := (Fld.keep DZ124 Kc126 (ninS ne_b1_b3 nin0))
        have c129 := (Exa.keep DE124 Kc126)
        obtain ⟨cq128, kq128, q128a, q128b, q128c⟩ := isOf hZ rfl c129
        obtain ⟨_, _, ⟨T128, L128, k128, n128⟩, -, X128, ⟨Lc128, hQ128, l128, y128, z128⟩, st128⟩ := X126.virtualBack hx (y := (⟨"com/example/vendace/vendace/localrecoding/DenseSet", "size", "()I"⟩ : MethodName)) (z := (⟨"com/example/vendace/vendace/localrecoding/DenseSet", "size", "()I"⟩ : MethodName)) hown (mvT hZ (hw _ (List.mem_of_getElem? (i := 27) rfl))) (mvT hZ (hw _ (List.mem_of_getElem? (i := 28) rfl))) (notFace_of_selects (args := #[]) (mvT hZ (hw _ (List.mem_of_getElem? (i := 30) rfl)))) (mvT hZ (hw _ (List.mem_of_getElem? (i := 30) rfl))) (mvT hZ (hw _ (List.mem_of_getElem? (i := 29) rfl))) (by decide) (backOf (W := 0) (rm6 l Z a0 hw [] b1 Sv124.2.2 T126.heap n0 (Nat.le_trans Z0 K126.1) c127) hZ (hw _ (List.mem_of_getElem? (i := 31) rfl)) (hw _ (List.mem_of_getElem? (i := 2) rfl)) (by decide) (by decide)) q128a q128c (g := (mkF m 160 #[.val (.int p1), .val (.int p2), .val (.int p3), .val (.int p4), .val (.int p5), .val (.int p6), .val (.int cc), .val (.int xx), .val (.int yy), .val (.int zz), .val (.int uu), .val (.int tt), .val (.ref b1), .val (.ref b3), .val (.int Rv126.2), .unset] [(.ref b1)])) rfl (by rw [hml]; rfl) (Steps.refl _) (argsL := []) (rest := []) (lenOf pd_4 rfl) rfl (by show 2 * 0 + _ ≤ _; exact Nat.le_of_eq rfl) (hb hby at_160) (fun _ _ => ⟨rfl, rfl, (by decide : 4 + 0 ≤ _), (by decide : 15 + 0 ≤ _)⟩)
        dsimp only [Pt.U, Pt.locs, Pt.cells, Pt.slots] at X128 l128 y128 z128 st128 hQ128
        subst l128 y128 z128
        obtain ⟨rfl, Nq128, hh128⟩ := hQ128
        have N128 := Fr.app N126 Nq128
        refine own_via (fun t k => st128.trans k) ?_
        show own_G p.tables e below _ (T128.setTop (mkF m 163 #[.val (.int p1), .val (.int p2), .val (.int p3), .val (.int p4), .val (.int p5), .val (.int p6), .val (.int cc), .val (.int xx), .val (.int yy), .val (.int zz), .val (.int uu), .val (.int tt), .val (.ref b1), .val (.ref b3), .val (.int Rv126.2), .unset] [(.int Sv124.2.2)]))
        refine own_via (S' := T128.setTop (mkF m 165 #[.val (.int p1), .val (.int p2), .val (.int p3), .val (.int p4), .val (.int p5), .val (.int p6), .val (.int cc), .val (.int xx), .val (.int yy), .val (.int zz), .val (.int uu), .val (.int tt), .val (.ref b1), .val (.ref b3), .val (.int Rv126.2), .unset] [(.int Rv126.2), (.int Sv124.2.2)])) (fun t k => ?_) ?_
        · show Steps p.tables e below (T128.setTop (mkF m 163 #[.val (.int p1), .val (.int p2), .val (.int p3), .val (.int p4), .val (.int p5), .val (.int p6), .val (.int cc), .val (.int xx), .val (.int yy), .val (.int zz), .val (.int uu), .val (.int tt), .val (.ref b1), .val (.ref b3), .val (.int Rv126.2), .unset] [(.int Sv124.2.2)])) t
          refine XS.iload X128.here hx rfl (hb hby at_163) rfl ?_
          exact k
        refine own_via (S' := T128.setTop (mkF m 170 #[.val (.int p1), .val (.int p2), .val (.int p3), .val (.int p4), .val (.int p5), .val (.int p6), .val (.int cc), .val (.int xx), .val (.int yy), .val (.int zz), .val (.int uu), .val (.int tt), .val (.ref b1), .val (.ref b3), .val (.int Rv126.2), .unset] [])) (fun t k => XS.icmpYes (g := (mkF m 165 #[.val (.int p1), .val (.int p2), .val (.int p3), .val (.int p4), .val (.int p5), .val (.int p6), .val (.int cc), .val (.int xx), .val (.int yy), .val (.int zz), .val (.int uu), .val (.int tt), .val (.ref b1), .val (.ref b3), .val (.int Rv126.2), .unset] [(.int Rv126.2), (.int Sv124.2.2)])) X128.here hx rfl (pc0 := 165) (pc' := 170) rfl (hb hby at_165) rfl (teq ea108).1 (by decide) (by decide) k) ?_
        refine own_via (S' := T128.setTop (mkF m 175 #[.val (.int p1), .val (.int p2), .val (.int p3), .val (.int p4), .val (.int p5), .val (.int p6), .val (.int cc), .val (.int xx), .val (.int yy), .val (.int zz), .val (.int uu), .val (.int tt), .val (.ref b1), .val (.ref b3), .val (.int Rv126.2), .val (.int (1 : Int32))] [(.int Rv126.2)])) (fun t k => ?_) ?_
        · show Steps p.tables e below (T128.setTop (mkF m 170 #[.val (.int p1), .val (.int p2), .val (.int p3), .val (.int p4), .val (.int p5), .val (.int p6), .val (.int cc), .val (.int xx), .val (.int yy), .val (.int zz), .val (.int uu), .val (.int tt), .val (.ref b1), .val (.ref b3), .val (.int Rv126.2), .unset] [])) t
          refine XS.iconst X128.here hx rfl (hb hby at_170) ?_
          show Steps p.tables e below (T128.setTop (mkF m 171 #[.val (.int p1), .val (.int p2), .val (.int p3), .val (.int p4), .val (.int p5), .val (.int p6), .val (.int cc), .val (.int xx), .val (.int yy), .val (.int zz), .val (.int uu), .val (.int tt), .val (.ref b1), .val (.ref b3), .val (.int Rv126.2), .unset] [(.int (1 : Int32))])) t
          refine XS.istore X128.here hx rfl (hb hby at_171) rfl (l' := #[.val (.int p1), .val (.int p2), .val (.int p3), .val (.int p4), .val (.int p5), .val (.int p6), .val (.int cc), .val (.int xx), .val (.int yy), .val (.int zz), .val (.int uu), .val (.int tt), .val (.ref b1), .val (.ref b3), .val (.int Rv126.2), .val (.int (1 : Int32))]) rfl ?_
          show Steps p.tables e below (T128.setTop (mkF m 173 #[.val (.int p1), .val (.int p2), .val (.int p3), .val (.int p4), .val (.int p5), .val (.int p6), .val (.int cc), .val (.int xx), .val (.int yy), .val (.int zz), .val (.int uu), .val (.int tt), .val (.ref b1), .val (.ref b3), .val (.int Rv126.2), .val (.int (1 : Int32))] [])) t
          refine XS.iload X128.here hx rfl (hb hby at_173) rfl ?_
          exact k
        by_cases hc175_131 : (0 : Int32) < Rv126.2
        · refine own_via (S' := T128.setTop (mkF m 178 #[.val (.int p1), .val (.int p2), .val (.int p3), .val (.int p4), .val (.int p5), .val (.int p6), .val (.int cc), .val (.int xx), .val (.int yy), .val (.int zz), .val (.int uu), .val (.int tt), .val (.ref b1), .val (.ref b3), .val (.int Rv126.2), .val (.int (1 : Int32))] [])) (fun t k => XS.ifNo (g := (mkF m 175 #[.val (.int p1), .val (.int p2), .val (.int p3), .val (.int p4), .val (.int p5), .val (.int p6), .val (.int cc), .val (.int xx), .val (.int yy), .val (.int zz), .val (.int uu), .val (.int tt), .val (.ref b1), .val (.ref b3), .val (.int Rv126.2), .val (.int (1 : Int32))] [(.int Rv126.2)])) X128.here hx rfl (hb hby at_175) rfl ((if0 _ _).trans (tlt hc175_131).2.2.2) k) ?_
          refine own_via (S' := T128.setTop (mkF m 181 #[.val (.int p1), .val (.int p2), .val (.int p3), .val (.int p4), .val (.int p5), .val (.int p6), .val (.int cc), .val (.int xx), .val (.int yy), .val (.int zz), .val (.int uu), .val (.int tt), .val (.ref b1), .val (.ref b3), .val (.int Rv126.2), .val (.int (1 : Int32))] [(.int (0 : Int32)), (.ref b1)])) (fun t k => ?_) ?_
          · show Steps p.tables e below (T128.setTop (mkF m 178 #[.val (.int p1), .val (.int p2), .val (.int p3), .val (.int p4), .val (.int p5), .val (.int p6), .val (.int cc), .val (.int xx), .val (.int yy), .val (.int zz), .val (.int uu), .val (.int tt), .val (.ref b1), .val (.ref b3), .val (.int Rv126.2), .val (.int (1 : Int32))] [])) t
            refine XS.aload X128.here hx rfl (hb hby at_178) rfl rfl ?_
            show Steps p.tables e below (T128.setTop (mkF m 180 #[.val (.int p1), .val (.int p2), .val (.int p3), .val (.int p4), .val (.int p5), .val (.int p6), .val (.int cc), .val (.int xx), .val (.int yy), .val (.int zz), .val (.int uu), .val (.int tt), .val (.ref b1), .val (.ref b3), .val (.int Rv126.2), .val (.int (1 : Int32))] [(.ref b1)])) t
            refine XS.iconst X128.here hx rfl (hb hby at_180) ?_
            exact k
          have c132 := (Fld.keep DM124 Kc126 (ninS ne_b1_b3 nin0))
          have c133 := (own_Ar.keep DA124 Kc126 (ninS ne_bm2_b3 nin0))
          obtain ⟨cq134, kq134, q134a, q134b, q134c⟩ := isOf hZ hh128 c129
          obtain ⟨_, _, ⟨T134, L134, k134, n134⟩, -, X134, ⟨Lc134, hQ134, l134, y134, z134⟩, st134⟩ := X128.virtualBack hx (y := (⟨"com/example/vendace/vendace/localrecoding/DenseSet", "member", "(I)I"⟩ : MethodName)) (z := (⟨"com/example/vendace/vendace/localrecoding/DenseSet", "member", "(I)I"⟩ : MethodName)) hown (mvT hZ (hw _ (List.mem_of_getElem? (i := 45) rfl))) (mvT hZ (hw _ (List.mem_of_getElem? (i := 46) rfl))) (notFace_of_selects (args := #[]) (mvT hZ (hw _ (List.mem_of_getElem? (i := 48) rfl)))) (mvT hZ (hw _ (List.mem_of_getElem? (i := 48) rfl))) (mvT hZ (hw _ (List.mem_of_getElem? (i := 47) rfl))) (by decide) (backOf (W := 0) (rm10 l Z a0 hw [] b1 (0 : Int32) bm2 km2 (4 : Int32) Sv124.1 T126.heap n0 (Nat.le_trans Z0 K126.1) c132 c133 ⟨by decide, by decide⟩) hZ (hw _ (List.mem_of_getElem? (i := 49) rfl)) (hw _ (List.mem_of_getElem? (i := 2) rfl)) (by decide) (by decide)) q134a q134c (g := (mkF m 181 #[.val (.int p1), .val (.int p2), .val (.int p3), .val (.int p4), .val (.int p5), .val (.int p6), .val (.int cc), .val (.int xx), .val (.int yy), .val (.int zz), .val (.int uu), .val (.int tt), .val (.ref b1), .val (.ref b3), .val (.int Rv126.2), .val (.int (1 : Int32))] [(.int (0 : Int32)), (.ref b1)])) rfl (by rw [hml]; rfl) (Steps.refl _) (argsL := [(.int (0 : Int32))]) (rest := []) (lenOf pd_5 rfl) rfl (by show 2 * 0 + _ ≤ _; exact Nat.le_of_eq rfl) (hb hby at_181) (fun _ _ => ⟨rfl, hh128, (by decide : 4 + 0 ≤ _), (by decide : 15 + 0 ≤ _)⟩)
          dsimp only [Pt.U, Pt.locs, Pt.cells, Pt.slots] at X134 l134 y134 z134 st134 hQ134
          subst l134 y134 z134
          obtain ⟨rfl, Nq134, hh134⟩ := hQ134
          have N134 := Fr.app N128 Nq134
          refine own_via (fun t k => st134.trans k) ?_
          show own_G p.tables e below _ (T134.setTop (mkF m 184 #[.val (.int p1), .val (.int p2), .val (.int p3), .val (.int p4), .val (.int p5), .val (.int p6), .val (.int cc), .val (.int xx), .val (.int yy), .val (.int zz), .val (.int uu), .val (.int tt), .val (.ref b1), .val (.ref b3), .val (.int Rv126.2), .val (.int (1 : Int32))] [(.int (Sv124.1.getD ((0 : Int32)).toNatClampNeg 0))]))
          refine own_via (S' := T134.setTop (mkF m 187 #[.val (.int p1), .val (.int p2), .val (.int p3), .val (.int p4), .val (.int p5), .val (.int p6), .val (.int cc), .val (.int xx), .val (.int yy), .val (.int zz), .val (.int uu), .val (.int tt), .val (.ref b1), .val (.ref b3), .val (.int Rv126.2), .val (.int (1 : Int32))] [(.int (0 : Int32)), (.ref b3), (.int (Sv124.1.getD ((0 : Int32)).toNatClampNeg 0))])) (fun t k => ?_) ?_
          · show Steps p.tables e below (T134.setTop (mkF m 184 #[.val (.int p1), .val (.int p2), .val (.int p3), .val (.int p4), .val (.int p5), .val (.int p6), .val (.int cc), .val (.int xx), .val (.int yy), .val (.int zz), .val (.int uu), .val (.int tt), .val (.ref b1), .val (.ref b3), .val (.int Rv126.2), .val (.int (1 : Int32))] [(.int (Sv124.1.getD ((0 : Int32)).toNatClampNeg 0))])) t
            refine XS.aload X134.here hx rfl (hb hby at_184) rfl rfl ?_
            show Steps p.tables e below (T134.setTop (mkF m 186 #[.val (.int p1), .val (.int p2), .val (.int p3), .val (.int p4), .val (.int p5), .val (.int p6), .val (.int cc), .val (.int xx), .val (.int yy), .val (.int zz), .val (.int uu), .val (.int tt), .val (.ref b1), .val (.ref b3), .val (.int Rv126.2), .val (.int (1 : Int32))] [(.ref b3), (.int (Sv124.1.getD ((0 : Int32)).toNatClampNeg 0))])) t
            refine XS.iconst X134.here hx rfl (hb hby at_186) ?_
            exact k
          obtain ⟨⟨cl135, Ar135, q135, S135, Nn135, H135, G135⟩, Le135⟩ := id Vc126
          have hin135 : ¬ ((0 : Int32) < 0 ∨ cl135.slots.size ≤ ((0 : Int32)).toNatClampNeg) := inb_of S135 ⟨by decide, by decide⟩
          have hat135 : cl135.slots[((0 : Int32)).toNatClampNeg]? = some (.int (Rv126.1.getD ((0 : Int32)).toNatClampNeg 0)) := Has.at H135 hin135 (own_gI _ _)
          refine own_via (S' := T134.setTop (mkF m 188 #[.val (.int p1), .val (.int p2), .val (.int p3), .val (.int p4), .val (.int p5), .val (.int p6), .val (.int cc), .val (.int xx), .val (.int yy), .val (.int zz), .val (.int uu), .val (.int tt), .val (.ref b1), .val (.ref b3), .val (.int Rv126.2), .val (.int (1 : Int32))] [(.int (Rv126.1.getD ((0 : Int32)).toNatClampNeg 0)), (.int (Sv124.1.getD ((0 : Int32)).toNatClampNeg 0))])) (fun t kz_ => X134.iaload hx (j := (0 : Int32)) (v := (.int (Rv126.1.getD ((0 : Int32)).toNatClampNeg 0))) (by rw [hh134]; exact Ar135.1) (State.isArrayOf_alike hZ.alike Ar135.2.1) Ar135.2.2 hin135 hat135 (g := (mkF m 187 #[.val (.int p1), .val (.int p2), .val (.int p3), .val (.int p4), .val (.int p5), .val (.int p6), .val (.int cc), .val (.int xx), .val (.int yy), .val (.int zz), .val (.int uu), .val (.int tt), .val (.ref b1), .val (.ref b3), .val (.int Rv126.2), .val (.int (1 : Int32))] [(.int (0 : Int32)), (.ref b3), (.int (Sv124.1.getD ((0 : Int32)).toNatClampNeg 0))])) rfl rfl (hb hby at_187) _ kz_) ?_
          refine own_via (S' := T134.setTop (mkF m 194 #[.val (.int p1), .val (.int p2), .val (.int p3), .val (.int p4), .val (.int p5), .val (.int p6), .val (.int cc), .val (.int xx), .val (.int yy), .val (.int zz), .val (.int uu), .val (.int tt), .val (.ref b1), .val (.ref b3), .val (.int Rv126.2), .val (.int (1 : Int32))] [])) (fun t k => XS.icmpYes (g := (mkF m 188 #[.val (.int p1), .val (.int p2), .val (.int p3), .val (.int p4), .val (.int p5), .val (.int p6), .val (.int cc), .val (.int xx), .val (.int yy), .val (.int zz), .val (.int uu), .val (.int tt), .val (.ref b1), .val (.ref b3), .val (.int Rv126.2), .val (.int (1 : Int32))] [(.int (Rv126.1.getD ((0 : Int32)).toNatClampNeg 0)), (.int (Sv124.1.getD ((0 : Int32)).toNatClampNeg 0))])) X134.here hx rfl (pc0 := 188) (pc' := 194) rfl (hb hby at_188) rfl (teq (eb108 hc175_131)).1 (by decide) (by decide) k) ?_
          refine own_via (S' := T134.setTop (mkF m 197 #[.val (.int p1), .val (.int p2), .val (.int p3), .val (.int p4), .val (.int p5), .val (.int p6), .val (.int cc), .val (.int xx), .val (.int yy), .val (.int zz), .val (.int uu), .val (.int tt), .val (.ref b1), .val (.ref b3), .val (.int Rv126.2), .val (.int (1 : Int32))] [(.int (1 : Int32)), (.int Rv126.2)])) (fun t k => ?_) ?_
          · show Steps p.tables e below (T134.setTop (mkF m 194 #[.val (.int p1), .val (.int p2), .val (.int p3), .val (.int p4), .val (.int p5), .val (.int p6), .val (.int cc), .val (.int xx), .val (.int yy), .val (.int zz), .val (.int uu), .val (.int tt), .val (.ref b1), .val (.ref b3), .val (.int Rv126.2), .val (.int (1 : Int32))] [])) t
            refine XS.iload X134.here hx rfl (hb hby at_194) rfl ?_
            show Steps p.tables e below (T134.setTop (mkF m 196 #[.val (.int p1), .val (.int p2), .val (.int p3), .val (.int p4), .val (.int p5), .val (.int p6), .val (.int cc), .val (.int xx), .val (.int yy), .val (.int zz), .val (.int uu), .val (.int tt), .val (.ref b1), .val (.ref b3), .val (.int Rv126.2), .val (.int (1 : Int32))] [(.int Rv126.2)])) t
            refine XS.iconst X134.here hx rfl (hb hby at_196) ?_
            exact k
          by_cases hc197_137 : (1 : Int32) < Rv126.2
          · refine own_via (S' := T134.setTop (mkF m 200 #[.val (.int p1), .val (.int p2), .val (.int p3), .val (.int p4), .val (.int p5), .val (.int p6), .val (.int cc), .val (.int xx), .val (.int yy), .val (.int zz), .val (.int uu), .val (.int tt), .val (.ref b1), .val (.ref b3), .val (.int Rv126.2), .val (.int (1 : Int32))] [])) (fun t k => XS.icmpNo (g := (mkF m 197 #[.val (.int p1), .val (.int p2), .val (.int p3), .val (.int p4), .val (.int p5), .val (.int p6), .val (.int cc), .val (.int xx), .val (.int yy), .val (.int zz), .val (.int uu), .val (.int tt), .val (.ref b1), .val (.ref b3), .val (.int Rv126.2), .val (.int (1 : Int32))] [(.int (1 : Int32)), (.int Rv126.2)])) X134.here hx rfl (hb hby at_197) rfl (tlt hc197_137).2.2.2 k) ?_
            refine own_via (S' := T134.setTop (mkF m 203 #[.val (.int p1), .val (.int p2), .val (.int p3), .val (.int p4), .val (.int p5), .val (.int p6), .val (.int cc), .val (.int xx), .val (.int yy), .val (.int zz), .val (.int uu), .val (.int tt), .val (.ref b1), .val (.ref b3), .val (.int Rv126.2), .val (.int (1 : Int32))] [(.int (1 : Int32)), (.ref b1)])) (fun t k => ?_) ?_
            · show Steps p.tables e below (T134.setTop (mkF m 200 #[.val (.int p1), .val (.int p2), .val (.int p3), .val (.int p4), .val (.int p5), .val (.int p6), .val (.int cc), .val (.int xx), .val (.int yy), .val (.int zz), .val (.int uu), .val (.int tt), .val (.ref b1), .val (.ref b3), .val (.int Rv126.2), .val (.int (1 : Int32))] [])) t
              refine XS.aload X134.here hx rfl (hb hby at_200) rfl rfl ?_
              show Steps p.tables e below (T134.setTop (mkF m 202 #[.val (.int p1), .val (.int p2), .val (.int p3), .val (.int p4), .val (.int p5), .val (.int p6), .val (.int cc), .val (.int xx), .val (.int yy), .val (.int zz), .val (.int uu), .val (.int tt), .val (.ref b1), .val (.ref b3), .val (.int Rv126.2), .val (.int (1 : Int32))] [(.ref b1)])) t
              refine XS.iconst X134.here hx rfl (hb hby at_202) ?_
              exact k
            obtain ⟨cq138, kq138, q138a, q138b, q138c⟩ := isOf hZ hh134 c129
            obtain ⟨_, _, ⟨T138, L138, k138, n138⟩, -, X138, ⟨Lc138, hQ138, l138, y138, z138⟩, st138⟩ := X134.virtualBack hx (y := (⟨"com/example/vendace/vendace/localrecoding/DenseSet", "member", "(I)I"⟩ : MethodName)) (z := (⟨"com/example/vendace/vendace/localrecoding/DenseSet", "member", "(I)I"⟩ : MethodName)) hown (mvT hZ (hw _ (List.mem_of_getElem? (i := 45) rfl))) (mvT hZ (hw _ (List.mem_of_getElem? (i := 46) rfl))) (notFace_of_selects (args := #[]) (mvT hZ (hw _ (List.mem_of_getElem? (i := 48) rfl)))) (mvT hZ (hw _ (List.mem_of_getElem? (i := 48) rfl))) (mvT hZ (hw _ (List.mem_of_getElem? (i := 47) rfl))) (by decide) (backOf (W := 0) (rm10 l Z a0 hw [] b1 (1 : Int32) bm2 km2 (4 : Int32) Sv124.1 T126.heap n0 (Nat.le_trans Z0 K126.1) c132 c133 ⟨by decide, by decide⟩) hZ (hw _ (List.mem_of_getElem? (i := 49) rfl)) (hw _ (List.mem_of_getElem? (i := 2) rfl)) (by decide) (by decide)) q138a q138c (g := (mkF m 203 #[.val (.int p1), .val (.int p2), .val (.int p3), .val (.int p4), .val (.int p5), .val (.int p6), .val (.int cc), .val (.int xx), .val (.int yy), .val (.int zz), .val (.int uu), .val (.int tt), .val (.ref b1), .val (.ref b3), .val (.int Rv126.2), .val (.int (1 : Int32))] [(.int (1 : Int32)), (.ref b1)])) rfl (by rw [hml]; rfl) (Steps.refl _) (argsL := [(.int (1 : Int32))]) (rest := []) (lenOf pd_5 rfl) rfl (by show 2 * 0 + _ ≤ _; exact Nat.le_of_eq rfl) (hb hby at_203) (fun _ _ => ⟨rfl, hh134, (by decide : 4 + 0 ≤ _), (by decide : 15 + 0 ≤ _)⟩)
            dsimp only [Pt.U, Pt.locs, Pt.cells, Pt.slots] at X138 l138 y138 z138 st138 hQ138
            subst l138 y138 z138
            obtain ⟨rfl, Nq138, hh138⟩ := hQ138
            have N138 := Fr.app N134 Nq138
            refine own_via (fun t k => st138.trans k) ?_
            show own_G p.tables e below _ (T138.setTop (mkF m 206 #[.val (.int p1), .val (.int p2), .val (.int p3), .val (.int p4), .val (.int p5), .val (.int p6), .val (.int cc), .val (.int xx), .val (.int yy), .val (.int zz), .val (.int uu), .val (.int tt), .val (.ref b1), .val (.ref b3), .val (.int Rv126.2), .val (.int (1 : Int32))] [(.int (Sv124.1.getD ((1 : Int32)).toNatClampNeg 0))]))
            refine own_via (S' := T138.setTop (mkF m 209 #[.val (.int p1), .val (.int p2), .val (.int p3), .val (.int p4), .val (.int p5), .val (.int p6), .val (.int cc), .val (.int xx), .val (.int yy), .val (.int zz), .val (.int uu), .val (.int tt), .val (.ref b1), .val (.ref b3), .val (.int Rv126.2), .val (.int (1 : Int32))] [(.int (1 : Int32)), (.ref b3), (.int (Sv124.1.getD ((1 : Int32)).toNatClampNeg 0))])) (fun t k => ?_) ?_
            · show Steps p.tables e below (T138.setTop (mkF m 206 #[.val (.int p1), .val (.int p2), .val (.int p3), .val (.int p4), .val (.int p5), .val (.int p6), .val (.int cc), .val (.int xx), .val (.int yy), .val (.int zz), .val (.int uu), .val (.int tt), .val (.ref b1), .val (.ref b3), .val (.int Rv126.2), .val (.int (1 : Int32))] [(.int (Sv124.1.getD ((1 : Int32)).toNatClampNeg 0))])) t
              refine XS.aload X138.here hx rfl (hb hby at_206) rfl rfl ?_
              show Steps p.tables e below (T138.setTop (mkF m 208 #[.val (.int p1), .val (.int p2), .val (.int p3), .val (.int p4), .val (.int p5), .val (.int p6), .val (.int cc), .val (.int xx), .val (.int yy), .val (.int zz), .val (.int uu), .val (.int tt), .val (.ref b1), .val (.ref b3), .val (.int Rv126.2), .val (.int (1 : Int32))] [(.ref b3), (.int (Sv124.1.getD ((1 : Int32)).toNatClampNeg 0))])) t
              refine XS.iconst X138.here hx rfl (hb hby at_208) ?_
              exact k
            obtain ⟨⟨cl139, Ar139, q139, S139, Nn139, H139, G139⟩, Le139⟩ := id Vc126
            have hin139 : ¬ ((1 : Int32) < 0 ∨ cl139.slots.size ≤ ((1 : Int32)).toNatClampNeg) := inb_of S139 ⟨by decide, by decide⟩
            have hat139 : cl139.slots[((1 : Int32)).toNatClampNeg]? = some (.int (Rv126.1.getD ((1 : Int32)).toNatClampNeg 0)) := Has.at H139 hin139 (own_gI _ _)
            refine own_via (S' := T138.setTop (mkF m 210 #[.val (.int p1), .val (.int p2), .val (.int p3), .val (.int p4), .val (.int p5), .val (.int p6), .val (.int cc), .val (.int xx), .val (.int yy), .val (.int zz), .val (.int uu), .val (.int tt), .val (.ref b1), .val (.ref b3), .val (.int Rv126.2), .val (.int (1 : Int32))] [(.int (Rv126.1.getD ((1 : Int32)).toNatClampNeg 0)), (.int (Sv124.1.getD ((1 : Int32)).toNatClampNeg 0))])) (fun t kz_ => X138.iaload hx (j := (1 : Int32)) (v := (.int (Rv126.1.getD ((1 : Int32)).toNatClampNeg 0))) (by rw [hh138]; exact Ar139.1) (State.isArrayOf_alike hZ.alike Ar139.2.1) Ar139.2.2 hin139 hat139 (g := (mkF m 209 #[.val (.int p1), .val (.int p2), .val (.int p3), .val (.int p4), .val (.int p5), .val (.int p6), .val (.int cc), .val (.int xx), .val (.int yy), .val (.int zz), .val (.int uu), .val (.int tt), .val (.ref b1), .val (.ref b3), .val (.int Rv126.2), .val (.int (1 : Int32))] [(.int (1 : Int32)), (.ref b3), (.int (Sv124.1.getD ((1 : Int32)).toNatClampNeg 0))])) rfl rfl (hb hby at_209) _ kz_) ?_
            refine own_via (S' := T138.setTop (mkF m 216 #[.val (.int p1), .val (.int p2), .val (.int p3), .val (.int p4), .val (.int p5), .val (.int p6), .val (.int cc), .val (.int xx), .val (.int yy), .val (.int zz), .val (.int uu), .val (.int tt), .val (.ref b1), .val (.ref b3), .val (.int Rv126.2), .val (.int (1 : Int32))] [])) (fun t k => XS.icmpYes (g := (mkF m 210 #[.val (.int p1), .val (.int p2), .val (.int p3), .val (.int p4), .val (.int p5), .val (.int p6), .val (.int cc), .val (.int xx), .val (.int yy), .val (.int zz), .val (.int uu), .val (.int tt), .val (.ref b1), .val (.ref b3), .val (.int Rv126.2), .val (.int (1 : Int32))] [(.int (Rv126.1.getD ((1 : Int32)).toNatClampNeg 0)), (.int (Sv124.1.getD ((1 : Int32)).toNatClampNeg 0))])) X138.here hx rfl (pc0 := 210) (pc' := 216) rfl (hb hby at_210) rfl (teq (ec108 hc197_137)).1 (by decide) (by decide) k) ?_
            refine own_via (S' := T138.setTop (mkF m 219 #[.val (.int p1), .val (.int p2), .val (.int p3), .val (.int p4), .val (.int p5), .val (.int p6), .val (.int cc), .val (.int xx), .val (.int yy), .val (.int zz), .val (.int uu), .val (.int tt), .val (.ref b1), .val (.ref b3), .val (.int Rv126.2), .val (.int (1 : Int32))] [(.int (2 : Int32)), (.int Rv126.2)])) (fun t k => ?_) ?_
            · show Steps p.tables e below (T138.setTop (mkF m 216 #[.val (.int p1), .val (.int p2), .val (.int p3), .val (.int p4), .val (.int p5), .val (.int p6), .val (.int cc), .val (.int xx), .val (.int yy), .val (.int zz), .val (.int uu), .val (.int tt), .val (.ref b1), .val (.ref b3), .val (.int Rv126.2), .val (.int (1 : Int32))] [])) t
              refine XS.iload X138.here hx rfl (hb hby at_216) rfl ?_
              show Steps p.tables e below (T138.setTop (mkF m 218 #[.val (.int p1), .val (.int p2), .val (.int p3), .val (.int p4), .val (.int p5), .val (.int p6), .val (.int cc), .val (.int xx), .val (.int yy), .val (.int zz), .val (.int uu), .val (.int tt), .val (.ref b1), .val (.ref b3), .val (.int Rv126.2), .val (.int (1 : Int32))] [(.int Rv126.2)])) t
              refine XS.iconst X138.here hx rfl (hb hby at_218) ?_
              exact k
            by_cases hc219_141 : (2 : Int32) < Rv126.2
            · refine own_via (S' := T138.setTop (mkF m 222 #[.val (.int p1), .val (.int p2), .val (.int p3), .val (.int p4), .val (.int p5), .val (.int p6), .val (.int cc), .val (.int xx), .val (.int yy), .val (.int zz), .val (.int uu), .val (.int tt), .val (.ref b1), .val (.ref b3), .val (.int Rv126.2), .val (.int (1 : Int32))] [])) (fun t k => XS.icmpNo (g := (mkF m 219 #[.val (.int p1), .val (.int p2), .val (.int p3), .val (.int p4), .val (.int p5), .val (.int p6), .val (.int cc), .val (.int xx), .val (.int yy), .val (.int zz), .val (.int uu), .val (.int tt), .val (.ref b1), .val (.ref b3), .val (.int Rv126.2), .val (.int (1 : Int32))] [(.int (2 : Int32)), (.int Rv126.2)])) X138.here hx rfl (hb hby at_219) rfl (tlt hc219_141).2.2.2 k) ?_
              refine own_via (S' := T138.setTop (mkF m 225 #[.val (.int p1), .val (.int p2), .val (.int p3), .val (.int p4), .val (.int p5), .val (.int p6), .val (.int cc), .val (.int xx), .val (.int yy), .val (.int zz), .val (.int uu), .val (.int tt), .val (.ref b1), .val (.ref b3), .val (.int Rv126.2), .val (.int (1 : Int32))] [(.int (2 : Int32)), (.ref b1)])) (fun t k => ?_) ?_
              · show Steps p.tables e below (T138.setTop (mkF m 222 #[.val (.int p1), .val (.int p2), .val (.int p3), .val (.int p4), .val (.int p5), .val (.int p6), .val (.int cc), .val (.int xx), .val (.int yy), .val (.int zz), .val (.int uu), .val (.int tt), .val (.ref b1), .val (.ref b3), .val (.int Rv126.2), .val (.int (1 : Int32))] [])) t
                refine XS.aload X138.here hx rfl (hb hby at_222) rfl rfl ?_
                show Steps p.tables e below (T138.setTop (mkF m 224 #[.val (.int p1), .val (.int p2), .val (.int p3), .val (.int p4), .val (.int p5), .val (.int p6), .val (.int cc), .val (.int xx), .val (.int yy), .val (.int zz), .val (.int uu), .val (.int tt), .val (.ref b1), .val (.ref b3), .val (.int Rv126.2), .val (.int (1 : Int32))] [(.ref b1)])) t
                refine XS.iconst X138.here hx rfl (hb hby at_224) ?_
                exact k
              obtain ⟨cq142, kq142, q142a, q142b, q142c⟩ := isOf hZ hh138 c129
              obtain ⟨_, _, ⟨T142, L142, k142, n142⟩, -, X142, ⟨Lc142, hQ142, l142, y142, z142⟩, st142⟩ := X138.virtualBack hx (y := (⟨"com/example/vendace/vendace/localrecoding/DenseSet", "member", "(I)I"⟩ : MethodName)) (z := (⟨"com/example/vendace/vendace/localrecoding/DenseSet", "member", "(I)I"⟩ : MethodName)) hown (mvT hZ (hw _ (List.mem_of_getElem? (i := 45) rfl))) (mvT hZ (hw _ (List.mem_of_getElem? (i := 46) rfl))) (notFace_of_selects (args := #[]) (mvT hZ (hw _ (List.mem_of_getElem? (i := 48) rfl)))) (mvT hZ (hw _ (List.mem_of_getElem? (i := 48) rfl))) (mvT hZ (hw _ (List.mem_of_getElem? (i := 47) rfl))) (by decide) (backOf (W := 0) (rm10 l Z a0 hw [] b1 (2 : Int32) bm2 km2 (4 : Int32) Sv124.1 T126.heap n0 (Nat.le_trans Z0 K126.1) c132 c133 ⟨by decide, by decide⟩) hZ (hw _ (List.mem_of_getElem? (i := 49) rfl)) (hw _ (List.mem_of_getElem? (i := 2) rfl)) (by decide) (by decide)) q142a q142c (g := (mkF m 225 #[.val (.int p1), .val (.int p2), .val (.int p3), .val (.int p4), .val (.int p5), .val (.int p6), .val (.int cc), .val (.int xx), .val (.int yy), .val (.int zz), .val (.int uu), .val (.int tt), .val (.ref b1), .val (.ref b3), .val (.int Rv126.2), .val (.int (1 : Int32))] [(.int (2 : Int32)), (.ref b1)])) rfl (by rw [hml]; rfl) (Steps.refl _) (argsL := [(.int (2 : Int32))]) (rest := []) (lenOf pd_5 rfl) rfl (by show 2 * 0 + _ ≤ _; exact Nat.le_of_eq rfl) (hb hby at_225) (fun _ _ => ⟨rfl, hh138, (by decide : 4 + 0 ≤ _), (by decide : 15 + 0 ≤ _)⟩)
              dsimp only [Pt.U, Pt.locs, Pt.cells, Pt.slots] at X142 l142 y142 z142 st142 hQ142
              subst l142 y142 z142
              obtain ⟨rfl, Nq142, hh142⟩ := hQ142
              have N142 := Fr.app N138 Nq142
              refine own_via (fun t k => st142.trans k) ?_
              show own_G p.tables e below _ (T142.setTop (mkF m 228 #[.val (.int p1), .val (.int p2), .val (.int p3), .val (.int p4), .val (.int p5), .val (.int p6), .val (.int cc), .val (.int xx), .val (.int yy), .val (.int zz), .val (.int uu), .val (.int tt), .val (.ref b1), .val (.ref b3), .val (.int Rv126.2), .val (.int (1 : Int32))] [(.int (Sv124.1.getD ((2 : Int32)).toNatClampNeg 0))]))
              refine own_via (S' := T142.setTop (mkF m 231 #[.val (.int p1), .val (.int p2), .val (.int p3), .val (.int p4), .val (.int p5), .val (.int p6), .val (.int cc), .val (.int xx), .val (.int yy), .val (.int zz), .val (.int uu), .val (.int tt), .val (.ref b1), .val (.ref b3), .val (.int Rv126.2), .val (.int (1 : Int32))] [(.int (2 : Int32)), (.ref b3), (.int (Sv124.1.getD ((2 : Int32)).toNatClampNeg 0))])) (fun t k => ?_) ?_
              · show Steps p.tables e below (T142.setTop (mkF m 228 #[.val (.int p1), .val (.int p2), .val (.int p3), .val (.int p4), .val (.int p5), .val (.int p6), .val (.int cc), .val (.int xx), .val (.int yy), .val (.int zz), .val (.int uu), .val (.int tt), .val (.ref b1), .val (.ref b3), .val (.int Rv126.2), .val (.int (1 : Int32))] [(.int (Sv124.1.getD ((2 : Int32)).toNatClampNeg 0))])) t
                refine XS.aload X142.here hx rfl (hb hby at_228) rfl rfl ?_
                show Steps p.tables e below (T142.setTop (mkF m 230 #[.val (.int p1), .val (.int p2), .val (.int p3), .val (.int p4), .val (.int p5), .val (.int p6), .val (.int cc), .val (.int xx), .val (.int yy), .val (.int zz), .val (.int uu), .val (.int tt), .val (.ref b1), .val (.ref b3), .val (.int Rv126.2), .val (.int (1 : Int32))] [(.ref b3), (.int (Sv124.1.getD ((2 : Int32)).toNatClampNeg 0))])) t
                refine XS.iconst X142.here hx rfl (hb hby at_230) ?_
                exact k
              obtain ⟨⟨cl143, Ar143, q143, S143, Nn143, H143, G143⟩, Le143⟩ := id Vc126
              have hin143 : ¬ ((2 : Int32) < 0 ∨ cl143.slots.size ≤ ((2 : Int32)).toNatClampNeg) := inb_of S143 ⟨by decide, by decide⟩
              have hat143 : cl143.slots[((2 : Int32)).toNatClampNeg]? = some (.int (Rv126.1.getD ((2 : Int32)).toNatClampNeg 0)) := Has.at H143 hin143 (own_gI _ _)
              refine own_via (S' := T142.setTop (mkF m 232 #[.val (.int p1), .val (.int p2), .val (.int p3), .val (.int p4), .val (.int p5), .val (.int p6), .val (.int cc), .val (.int xx), .val (.int yy), .val (.int zz), .val (.int uu), .val (.int tt), .val (.ref b1), .val (.ref b3), .val (.int Rv126.2), .val (.int (1 : Int32))] [(.int (Rv126.1.getD ((2 : Int32)).toNatClampNeg 0)), (.int (Sv124.1.getD ((2 : Int32)).toNatClampNeg 0))])) (fun t kz_ => X142.iaload hx (j := (2 : Int32)) (v := (.int (Rv126.1.getD ((2 : Int32)).toNatClampNeg 0))) (by rw [hh142]; exact Ar143.1) (State.isArrayOf_alike hZ.alike Ar143.2.1) Ar143.2.2 hin143 hat143 (g := (mkF m 231 #[.val (.int p1), .val (.int p2), .val (.int p3), .val (.int p4), .val (.int p5), .val (.int p6), .val (.int cc), .val (.int xx), .val (.int yy), .val (.int zz), .val (.int uu), .val (.int tt), .val (.ref b1), .val (.ref b3), .val (.int Rv126.2), .val (.int (1 : Int32))] [(.int (2 : Int32)), (.ref b3), (.int (Sv124.1.getD ((2 : Int32)).toNatClampNeg 0))])) rfl rfl (hb hby at_231) _ kz_) ?_
              refine own_via (S' := T142.setTop (mkF m 238 #[.val (.int p1), .val (.int p2), .val (.int p3), .val (.int p4), .val (.int p5), .val (.int p6), .val (.int cc), .val (.int xx), .val (.int yy), .val (.int zz), .val (.int uu), .val (.int tt), .val (.ref b1), .val (.ref b3), .val (.int Rv126.2), .val (.int (1 : Int32))] [])) (fun t k => XS.icmpYes (g := (mkF m 232 #[.val (.int p1), .val (.int p2), .val (.int p3), .val (.int p4), .val (.int p5), .val (.int p6), .val (.int cc), .val (.int xx), .val (.int yy), .val (.int zz), .val (.int uu), .val (.int tt), .val (.ref b1), .val (.ref b3), .val (.int Rv126.2), .val (.int (1 : Int32))] [(.int (Rv126.1.getD ((2 : Int32)).toNatClampNeg 0)), (.int (Sv124.1.getD ((2 : Int32)).toNatClampNeg 0))])) X142.here hx rfl (pc0 := 232) (pc' := 238) rfl (hb hby at_232) rfl (teq (ed108 hc219_141)).1 (by decide) (by decide) k) ?_
              refine own_via (S' := T142.setTop (mkF m 240 #[.val (.int p1), .val (.int p2), .val (.int p3), .val (.int p4), .val (.int p5), .val (.int p6), .val (.int cc), .val (.int xx), .val (.int yy), .val (.int zz), .val (.int uu), .val (.int tt), .val (.ref b1), .val (.ref b3), .val (.int Rv126.2), .val (.int (1 : Int32))] [(.int (1 : Int32))])) (fun t k => ?_) ?_
              · show Steps p.tables e below (T142.setTop (mkF m 238 #[.val (.int p1), .val (.int p2), .val (.int p3), .val (.int p4), .val (.int p5), .val (.int p6), .val (.int cc), .val (.int xx), .val (.int yy), .val (.int zz), .val (.int uu), .val (.int tt), .val (.ref b1), .val (.ref b3), .val (.int Rv126.2), .val (.int (1 : Int32))] [])) t
                refine XS.iload X142.here hx rfl (hb hby at_238) rfl ?_
                exact k
              exact own_end (h := T126.heap) X142 (v := some (.int (1 : Int32))) Bd.notSynchronized (fun h => by rw [Bd.returns] at h; cases h) (fun fs hr => retN X142 hx (t := .boolean) Bd.returns (by simp) (hb hby at_240) hr) hh142 ⟨rfl, N142⟩ (by decide) (by decide)
            · refine own_via (S' := T138.setTop (mkF m 238 #[.val (.int p1), .val (.int p2), .val (.int p3), .val (.int p4), .val (.int p5), .val (.int p6), .val (.int cc), .val (.int xx), .val (.int yy), .val (.int zz), .val (.int uu), .val (.int tt), .val (.ref b1), .val (.ref b3), .val (.int Rv126.2), .val (.int (1 : Int32))] [])) (fun t k => XS.icmpYes (g := (mkF m 219 #[.val (.int p1), .val (.int p2), .val (.int p3), .val (.int p4), .val (.int p5), .val (.int p6), .val (.int cc), .val (.int xx), .val (.int yy), .val (.int zz), .val (.int uu), .val (.int tt), .val (.ref b1), .val (.ref b3), .val (.int Rv126.2), .val (.int (1 : Int32))] [(.int (2 : Int32)), (.int Rv126.2)])) X138.here hx rfl (pc0 := 219) (pc' := 238) rfl (hb hby at_219) rfl (flt hc219_141).2.2.2 (by decide) (by decide) k) ?_
              refine own_via (S' := T138.setTop (mkF m 240 #[.val (.int p1), .val (.int p2), .val (.int p3), .val (.int p4), .val (.int p5), .val (.int p6), .val (.int cc), .val (.int xx), .val (.int yy), .val (.int zz), .val (.int uu), .val (.int tt), .val (.ref b1), .val (.ref b3), .val (.int Rv126.2), .val (.int (1 : Int32))] [(.int (1 : Int32))])) (fun t k => ?_) ?_
              · show Steps p.tables e below (T138.setTop (mkF m 238 #[.val (.int p1), .val (.int p2), .val (.int p3), .val (.int p4), .val (.int p5), .val (.int p6), .val (.int cc), .val (.int xx), .val (.int yy), .val (.int zz), .val (.int uu), .val (.int tt), .val (.ref b1), .val (.ref b3), .val (.int Rv126.2), .val (.int (1 : Int32))] [])) t
                refine XS.iload X138.here hx rfl (hb hby at_238) rfl ?_
                exact k
              exact own_end (h := T126.heap) X138 (v := some (.int (1 : Int32))) Bd.notSynchronized (fun h => by rw [Bd.returns] at h; cases h) (fun fs hr => retN X138 hx (t := .boolean) Bd.returns (by simp) (hb hby at_240) hr) hh138 ⟨rfl, N138⟩ (by decide) (by decide)
          · refine own_via (S' := T134.setTop (mkF m 216 #[.val (.int p1), .val (.int p2), .val (.int p3), .val (.int p4), .val (.int p5), .val (.int p6), .val (.int cc), .val (.int xx), .val (.int yy), .val (.int zz), .val (.int uu), .val (.int tt), .val (.ref b1), .val (.ref b3), .val (.int Rv126.2), .val (.int (1 : Int32))] [])) (fun t k => XS.icmpYes (g := (mkF m 197 #[.val (.int p1), .val (.int p2), .val (.int p3), .val (.int p4), .val (.int p5), .val (.int p6), .val (.int cc), .val (.int xx), .val (.int yy), .val (.int zz), .val (.int uu), .val (.int tt), .val (.ref b1), .val (.ref b3), .val (.int Rv126.2), .val (.int (1 : Int32))] [(.int (1 : Int32)), (.int Rv126.2)])) X134.here hx rfl (pc0 := 197) (pc' := 216) rfl (hb hby at_197) rfl (flt hc197_137).2.2.2 (by decide) (by decide) k) ?_
            refine own_via (S' := T134.setTop (mkF m 219 #[.val (.int p1), .val (.int p2), .val (.int p3), .val (.int p4), .val (.int p5), .val (.int p6), .val (.int cc), .val (.int xx), .val (.int yy), .val (.int zz), .val (.int uu), .val (.int tt), .val (.ref b1), .val (.ref b3), .val (.int Rv126.2), .val (.int (1 : Int32))] [(.int (2 : Int32)), (.int Rv126.2)])) (fun t k => ?_) ?_
            · show Steps p.tables e below (T134.setTop (mkF m 216 #[.val (.int p1), .val (.int p2), .val (.int p3), .val (.int p4), .val (.int p5), .val (.int p6), .val (.int cc), .val (.int xx), .val (.int yy), .val (.int zz), .val (.int uu), .val (.int tt), .val (.ref b1), .val (.ref b3), .val (.int Rv126.2), .val (.int (1 : Int32))] [])) t
              refine XS.iload X134.here hx rfl (hb hby at_216) rfl ?_
              show Steps p.tables e below (T134.setTop (mkF m 218 #[.val (.int p1), .val (.int p2), .val (.int p3), .val (.int p4), .val (.int p5), .val (.int p6), .val (.int cc), .val (.int xx), .val (.int yy), .val (.int zz), .val (.int uu), .val (.int tt), .val (.ref b1), .val (.ref b3), .val (.int Rv126.2), .val (.int (1 : Int32))] [(.int Rv126.2)])) t
              refine XS.iconst X134.here hx rfl (hb hby at_218) ?_
              exact k
            refine own_via (S' := T134.setTop (mkF m 238 #[.val (.int p1), .val (.int p2), .val (.int p3), .val (.int p4), .val (.int p5), .val (.int p6), .val (.int cc), .val (.int xx), .val (.int yy), .val (.int zz), .val (.int uu), .val (.int tt), .val (.ref b1), .val (.ref b3), .val (.int Rv126.2), .val (.int (1 : Int32))] [])) (fun t k => XS.icmpYes (g := (mkF m 219 #[.val (.int p1), .val (.int p2), .val (.int p3), .val (.int p4), .val (.int p5), .val (.int p6), .val (.int cc), .val (.int xx), .val (.int yy), .val (.int zz), .val (.int uu), .val (.int tt), .val (.ref b1), .val (.ref b3), .val (.int Rv126.2), .val (.int (1 : Int32))] [(.int (2 : Int32)), (.int Rv126.2)])) X134.here hx rfl (pc0 := 219) (pc' := 238) rfl (hb hby at_219) rfl (flt (own_n12 hc197_137)).2.2.2 (by decide) (by decide) k) ?_
            refine own_via (S' := T134.setTop (mkF m 240 #[.val (.int p1), .val (.int p2), .val (.int p3), .val (.int p4), .val (.int p5), .val (.int p6), .val (.int cc), .val (.int xx), .val (.int yy), .val (.int zz), .val (.int uu), .val (.int tt), .val (.ref b1), .val (.ref b3), .val (.int Rv126.2), .val (.int (1 : Int32))] [(.int (1 : Int32))])) (fun t k => ?_) ?_
            · show Steps p.tables e below (T134.setTop (mkF m 238 #[.val (.int p1), .val (.int p2), .val (.int p3), .val (.int p4), .val (.int p5), .val (.int p6), .val (.int cc), .val (.int xx), .val (.int yy), .val (.int zz), .val (.int uu), .val (.int tt), .val (.ref b1), .val (.ref b3), .val (.int Rv126.2), .val (.int (1 : Int32))] [])) t
              refine XS.iload X134.here hx rfl (hb hby at_238) rfl ?_
              exact k
            exact own_end (h := T126.heap) X134 (v := some (.int (1 : Int32))) Bd.notSynchronized (fun h => by rw [Bd.returns] at h; cases h) (fun fs hr => retN X134 hx (t := .boolean) Bd.returns (by simp) (hb hby at_240) hr) hh134 ⟨rfl, N134⟩ (by decide) (by decide)
        · refine own_via (S' := T128.setTop (mkF m 194 #[.val (.int p1), .val (.int p2), .val (.int p3), .val (.int p4), .val (.int p5), .val (.int p6), .val (.int cc), .val (.int xx), .val (.int yy), .val (.int zz), .val (.int uu), .val (.int tt), .val (.ref b1), .val (.ref b3), .val (.int Rv126.2), .val (.int (1 : Int32))] [])) (fun t k => XS.ifYes (g := (mkF m 175 #[.val (.int p1), .val (.int p2), .val (.int p3), .val (.int p4), .val (.int p5), .val (.int p6), .val (.int cc), .val (.int xx), .val (.int yy), .val (.int zz), .val (.int uu), .val (.int tt), .val (.ref b1), .val (.ref b3), .val (.int Rv126.2), .val (.int (1 : Int32))] [(.int Rv126.2)])) X128.here hx rfl (pc0 := 175) (pc' := 194) rfl (hb hby at_175) rfl ((if0 _ _).trans (flt hc175_131).2.2.2) (by decide) (by decide) k) ?_
          refine own_via (S' := T128.setTop (mkF m 197 #[.val (.int p1), .val (.int p2), .val (.int p3), .val (.int p4), .val (.int p5), .val (.int p6), .val (.int cc), .val (.int xx), .val (.int yy), .val (.int zz), .val (.int uu), .val (.int tt), .val (.ref b1), .val (.ref b3), .val (.int Rv126.2), .val (.int (1 : Int32))] [(.int (1 : Int32)), (.int Rv126.2)])) (fun t k => ?_) ?_
          · show Steps p.tables e below (T128.setTop (mkF m 194 #[.val (.int p1), .val (.int p2), .val (.int p3), .val (.int p4), .val (.int p5), .val (.int p6), .val (.int cc), .val (.int xx), .val (.int yy), .val (.int zz), .val (.int uu), .val (.int tt), .val (.ref b1), .val (.ref b3), .val (.int Rv126.2), .val (.int (1 : Int32))] [])) t
            refine XS.iload X128.here hx rfl (hb hby at_194) rfl ?_
            show Steps p.tables e below (T128.setTop (mkF m 196 #[.val (.int p1), .val (.int p2), .val (.int p3), .val (.int p4), .val (.int p5), .val (.int p6), .val (.int cc), .val (.int xx), .val (.int yy), .val (.int zz), .val (.int uu), .val (.int tt), .val (.ref b1), .val (.ref b3), .val (.int Rv126.2), .val (.int (1 : Int32))] [(.int Rv126.2)])) t
            refine XS.iconst X128.here hx rfl (hb hby at_196) ?_
            exact k
          refine own_via (S' := T128.setTop (mkF m 216 #[.val (.int p1), .val (.int p2), .val (.int p3), .val (.int p4), .val (.int p5), .val (.int p6), .val (.int cc), .val (.int xx), .val (.int yy), .val (.int zz), .val (.int uu), .val (.int tt), .val (.ref b1), .val (.ref b3), .val (.int Rv126.2), .val (.int (1 : Int32))] [])) (fun t k => XS.icmpYes (g := (mkF m 197 #[.val (.int p1), .val (.int p2), .val (.int p3), .val (.int p4), .val (.int p5), .val (.int p6), .val (.int cc), .val (.int xx), .val (.int yy), .val (.int zz), .val (.int uu), .val (.int tt), .val (.ref b1), .val (.ref b3), .val (.int Rv126.2), .val (.int (1 : Int32))] [(.int (1 : Int32)), (.int Rv126.2)])) X128.here hx rfl (pc0 := 197) (pc' := 216) rfl (hb hby at_197) rfl (flt (own_n01 hc175_131)).2.2.2 (by decide) (by decide) k) ?_
          refine own_via (S' := T128.setTop (mkF m 219 #[.val (.int p1), .val (.int p2), .val (.int p3), .val (.int p4), .val (.int p5), .val (.int p6), .val (.int cc), .val (.int xx), .val (.int yy), .val (.int zz), .val (.int uu), .val (.int tt), .val (.ref b1), .val (.ref b3), .val (.int Rv126.2), .val (.int (1 : Int32))] [(.int (2 : Int32)), (.int Rv126.2)])) (fun t k => ?_) ?_
          · show Steps p.tables e below (T128.setTop (mkF m 216 #[.val (.int p1), .val (.int p2), .val (.int p3), .val (.int p4), .val (.int p5), .val (.int p6), .val (.int cc), .val (.int xx), .val (.int yy), .val (.int zz), .val (.int uu), .val (.int tt), .val (.ref b1), .val (.ref b3), .val (.int Rv126.2), .val (.int (1 : Int32))] [])) t
            refine XS.iload X128.here hx rfl (hb hby at_216) rfl ?_
            show Steps p.tables e below (T128.setTop (mkF m 218 #[.val (.int p1), .val (.int p2), .val (.int p3), .val (.int p4), .val (.int p5), .val (.int p6), .val (.int cc), .val (.int xx), .val (.int yy), .val (.int zz), .val (.int uu), .val (.int tt), .val (.ref b1), .val (.ref b3), .val (.int Rv126.2), .val (.int (1 : Int32))] [(.int Rv126.2)])) t
            refine XS.iconst X128.here hx rfl (hb hby at_218) ?_
            exact k
          refine own_via (S' := T128.setTop (mkF m 238 #[.val (.int p1), .val (.int p2), .val (.int p3), .val (.int p4), .val (.int p5), .val (.int p6), .val (.int cc), .val (.int xx), .val (.int yy), .val (.int zz), .val (.int uu), .val (.int tt), .val (.ref b1), .val (.ref b3), .val (.int Rv126.2), .val (.int (1 : Int32))] [])) (fun t k => XS.icmpYes (g := (mkF m 219 #[.val (.int p1), .val (.int p2), .val (.int p3), .val (.int p4), .val (.int p5), .val (.int p6), .val (.int cc), .val (.int xx), .val (.int yy), .val (.int zz), .val (.int uu), .val (.int tt), .val (.ref b1), .val (.ref b3), .val (.int Rv126.2), .val (.int (1 : Int32))] [(.int (2 : Int32)), (.int Rv126.2)])) X128.here hx rfl (pc0 := 219) (pc' := 238) rfl (hb hby at_219) rfl (flt (own_n02 hc175_131)).2.2.2 (by decide) (by decide) k) ?_
          refine own_via (S' := T128.setTop (mkF m 240 #[.val (.int p1), .val (.int p2), .val (.int p3), .val (.int p4), .val (.int p5), .val (.int p6), .val (.int cc), .val (.int xx), .val (.int yy), .val (.int zz), .val (.int uu), .val (.int tt), .val (.ref b1), .val (.ref b3), .val (.int Rv126.2), .val (.int (1 : Int32))] [(.int (1 : Int32))])) (fun t k => ?_) ?_
          · show Steps p.tables e below (T128.setTop (mkF m 238 #[.val (.int p1), .val (.int p2), .val (.int p3), .val (.int p4), .val (.int p5), .val (.int p6), .val (.int cc), .val (.int xx), .val (.int yy), .val (.int zz), .val (.int uu), .val (.int tt), .val (.ref b1), .val (.ref b3), .val (.int Rv126.2), .val (.int (1 : Int32))] [])) t
            refine XS.iload X128.here hx rfl (hb hby at_238) rfl ?_
            exact k
          exact own_end (h := T126.heap) X128 (v := some (.int (1 : Int32))) Bd.notSynchronized (fun h => by rw [Bd.returns] at h; cases h) (fun fs hr => retN X128 hx (t := .boolean) Bd.returns (by simp) (hb hby at_240) hr) hh128 ⟨rfl, N128⟩ (by decide) (by decide)
      · refine own_via (S' := T106.setTop (mkF m 104 #[.val (.int p1), .val (.int p2), .val (.int p3), .val (.int p4), .val (.int p5), .val (.int p6), .val (.int cc), .val (.int xx), .val (.int yy), .val (.int zz), .val (.int uu), .val (.int tt), .val (.ref b1), .val (.ref b3), .val (.int Rv106.2), .unset] [])) (fun t k => XS.icmpNo (g := (mkF m 101 #[.val (.int p1), .val (.int p2), .val (.int p3), .val (.int p4), .val (.int p5), .val (.int p6), .val (.int cc), .val (.int xx), .val (.int yy), .val (.int zz), .val (.int uu), .val (.int tt), .val (.ref b1), .val (.ref b3), .val (.int Rv106.2), .unset] [(.int (3 : Int32)), (.int cc)])) X106.here hx rfl (hb hby at_101) rfl (flt hc101_107).1 k) ?_
        refine own_via (S' := T106.setTop (mkF m 108 #[.val (.int p1), .val (.int p2), .val (.int p3), .val (.int p4), .val (.int p5), .val (.int p6), .val (.int cc), .val (.int xx), .val (.int yy), .val (.int zz), .val (.int uu), .val (.int tt), .val (.ref b1), .val (.ref b3), .val (.int Rv106.2), .unset] [(.int zz), (.ref b1)])) (fun t k => ?_) ?_
        · show Steps p.tables e below (T106.setTop (mkF m 104 #[.val (.int p1), .val (.int p2), .val (.int p3), .val (.int p4), .val (.int p5), .val (.int p6), .val (.int cc), .val (.int xx), .val (.int yy), .val (.int zz), .val (.int uu), .val (.int tt), .val (.ref b1), .val (.ref b3), .val (.int Rv106.2), .unset] [])) t
          refine XS.aload X106.here hx rfl (hb hby at_104) rfl rfl ?_
          show Steps p.tables e below (T106.setTop (mkF m 106 #[.val (.int p1), .val (.int p2), .val (.int p3), .val (.int p4), .val (.int p5), .val (.int p6), .val (.int cc), .val (.int xx), .val (.int yy), .val (.int zz), .val (.int uu), .val (.int tt), .val (.ref b1), .val (.ref b3), .val (.int Rv106.2), .unset] [(.ref b1)])) t
          refine XS.iload X106.here hx rfl (hb hby at_106) rfl ?_
          exact k
        have c148 := (Exa.keep DE104 Kc106)
        have c149 := (Fld.keep DM104 Kc106 (ninS ne_b1_b3 nin0))
        have c150 := (Fld.keep DP104 Kc106 (ninS ne_b1_b3 nin0))
        have c151 := (Fld.keep DZ104 Kc106 (ninS ne_b1_b3 nin0))
        have c152 := (own_Ar.keep DA104 Kc106 (ninS ne_bm2_b3 nin0))
        have c153 := (own_Ar.keep DB104 Kc106 (ninS ne_bp2_b3 nin0))
        obtain ⟨cq154, kq154, q154a, q154b, q154c⟩ := isOf hZ rfl c148
        obtain ⟨_, _, ⟨T154, L154, k154, n154⟩, -, X154, ⟨Lc154, hQ154, l154, y154, z154⟩, st154⟩ := X106.virtualBack hx (y := (⟨"com/example/vendace/vendace/localrecoding/DenseSet", "add", "(I)V"⟩ : MethodName)) (z := (⟨"com/example/vendace/vendace/localrecoding/DenseSet", "add", "(I)V"⟩ : MethodName)) hown (mvT hZ (hw _ (List.mem_of_getElem? (i := 34) rfl))) (mvT hZ (hw _ (List.mem_of_getElem? (i := 35) rfl))) (notFace_of_selects (args := #[]) (mvT hZ (hw _ (List.mem_of_getElem? (i := 37) rfl)))) (mvT hZ (hw _ (List.mem_of_getElem? (i := 37) rfl))) (mvT hZ (hw _ (List.mem_of_getElem? (i := 36) rfl))) (by decide) (backOf (W := 0) (rm7 l Z a0 hw [] b1 zz bm2 bp2 km2 kp2 (4 : Int32) Sv104 T106.heap n0 (Nat.le_trans Z0 K106.1) ⟨c148, c149, c150, c151, c152, c153⟩ na2 nb2 nc2 g_b1 gm2 gp2 (own_p3 hd_xx hd_yy hd_zz hS53 hS104 hR55 hR106).1) hZ (hw _ (List.mem_of_getElem? (i := 38) rfl)) (hw _ (List.mem_of_getElem? (i := 2) rfl)) (by decide) (by decide)) q154a q154c (g := (mkF m 108 #[.val (.int p1), .val (.int p2), .val (.int p3), .val (.int p4), .val (.int p5), .val (.int p6), .val (.int cc), .val (.int xx), .val (.int yy), .val (.int zz), .val (.int uu), .val (.int tt), .val (.ref b1), .val (.ref b3), .val (.int Rv106.2), .unset] [(.int zz), (.ref b1)])) rfl (by rw [hml]; rfl) (Steps.refl _) (argsL := [(.int zz)]) (rest := []) (lenOf pd_2 rfl) rfl (by show 2 * 0 + _ ≤ _; exact Nat.le_of_eq rfl) (hb hby at_108) (fun _ _ => ⟨rfl, rfl, (by decide : 4 + 0 ≤ _), (by decide : 15 + 0 ≤ _)⟩)
        dsimp only [Pt.U, Pt.locs, Pt.cells, Pt.slots] at X154 l154 y154 z154 st154 hQ154
        subst l154 y154 z154
        obtain ⟨rfl, Nq154, Kc154, Sv154, hS154, DS154⟩ := hQ154
        have N154 := Fr.app N106 Nq154
        refine own_via (fun t k => st154.trans k) ?_
        show own_G p.tables e below _ (T154.setTop (mkF m 111 #[.val (.int p1), .val (.int p2), .val (.int p3), .val (.int p4), .val (.int p5), .val (.int p6), .val (.int cc), .val (.int xx), .val (.int yy), .val (.int zz), .val (.int uu), .val (.int tt), .val (.ref b1), .val (.ref b3), .val (.int Rv106.2), .unset] []))
        have K154 : Keep h0 T154.heap [] := Keep.trans K106 Kc154 (allS (Or.inr sz_b1) (allS (Or.inr sm2) (allS (Or.inr sp2) all0)))
        obtain ⟨DE154, DM154, DP154, DZ154, DA154, DB154⟩ := id DS154
        refine own_via (S' := T154.setTop (mkF m 117 #[.val (.int p1), .val (.int p2), .val (.int p3), .val (.int p4), .val (.int p5), .val (.int p6), .val (.int cc), .val (.int xx), .val (.int yy), .val (.int zz), .val (.int uu), .val (.int tt), .val (.ref b1), .val (.ref b3), .val (.int Rv106.2), .unset] [(.int zz), (.int Rv106.2), (.ref b3)])) (fun t k => ?_) ?_
        · show Steps p.tables e below (T154.setTop (mkF m 111 #[.val (.int p1), .val (.int p2), .val (.int p3), .val (.int p4), .val (.int p5), .val (.int p6), .val (.int cc), .val (.int xx), .val (.int yy), .val (.int zz), .val (.int uu), .val (.int tt), .val (.ref b1), .val (.ref b3), .val (.int Rv106.2), .unset] [])) t
          refine XS.aload X154.here hx rfl (hb hby at_111) rfl rfl ?_
          show Steps p.tables e below (T154.setTop (mkF m 113 #[.val (.int p1), .val (.int p2), .val (.int p3), .val (.int p4), .val (.int p5), .val (.int p6), .val (.int cc), .val (.int xx), .val (.int yy), .val (.int zz), .val (.int uu), .val (.int tt), .val (.ref b1), .val (.ref b3), .val (.int Rv106.2), .unset] [(.ref b3)])) t
          refine XS.iload X154.here hx rfl (hb hby at_113) rfl ?_
          show Steps p.tables e below (T154.setTop (mkF m 115 #[.val (.int p1), .val (.int p2), .val (.int p3), .val (.int p4), .val (.int p5), .val (.int p6), .val (.int cc), .val (.int xx), .val (.int yy), .val (.int zz), .val (.int uu), .val (.int tt), .val (.ref b1), .val (.ref b3), .val (.int Rv106.2), .unset] [(.int Rv106.2), (.ref b3)])) t
          refine XS.iload X154.here hx rfl (hb hby at_115) rfl ?_
          exact k
        have c155 := (own_Ar.keep Vc106 Kc154 (ninS (Ne.symm ne_b1_b3) (ninS (Ne.symm ne_bm2_b3) (ninS (Ne.symm ne_bp2_b3) nin0))))
        obtain ⟨_, _, ⟨T156, L156, k156, n156⟩, -, X156, ⟨Lc156, hQ156, l156, y156, z156⟩, st156⟩ := Jvm.LawKit.callS X154 hx (y := (⟨"com/example/vendace/vendace/localrecoding/DenseSetRemovePinLaw", "refAdd", "([III)I"⟩ : MethodName)) hown (mvT hZ (hw _ (List.mem_of_getElem? (i := 39) rfl))) (mvT hZ (hw _ (List.mem_of_getElem? (i := 40) rfl))) (mvT hZ (hw _ (List.mem_of_getElem? (i := 25) rfl))) (mvT hZ (hw _ (List.mem_of_getElem? (i := 41) rfl))) (by decide) (backOf (W := 0) (rm8 l Z a0 hw [] b3 Rv106.2 zz k3 Rv106.1 T154.heap n0 (Nat.le_trans Z0 K154.1) c155 g_b3 (own_p3 hd_xx hd_yy hd_zz hS53 hS104 hR55 hR106).2) hZ (hw _ (List.mem_of_getElem? (i := 41) rfl)) (hw _ (List.mem_of_getElem? (i := 25) rfl)) (by decide) (by decide)) (g := (mkF m 117 #[.val (.int p1), .val (.int p2), .val (.int p3), .val (.int p4), .val (.int p5), .val (.int p6), .val (.int cc), .val (.int xx), .val (.int yy), .val (.int zz), .val (.int uu), .val (.int tt), .val (.ref b1), .val (.ref b3), .val (.int Rv106.2), .unset] [(.int zz), (.int Rv106.2), (.ref b3)])) rfl (by rw [hml]; rfl) (argsL := [(.ref b3), (.int Rv106.2), (.int zz)]) (rest := []) (lenOf pd_3 rfl) rfl (by show 2 * 0 + _ ≤ _; exact Nat.le_of_eq rfl) (hb hby at_117) (fun _ _ => ⟨rfl, rfl, (by decide : 4 + 0 ≤ _), (by decide : 15 + 0 ≤ _)⟩)
        dsimp only [Pt.U, Pt.locs, Pt.cells, Pt.slots] at X156 l156 y156 z156 st156 hQ156
        subst l156 y156 z156
        obtain ⟨Rv156, hR156, rfl, Nq156, Kc156, Vc156⟩ := hQ156
        have N156 := Fr.app N154 Nq156
        refine own_via st156 ?_
        show own_G p.tables e below _ (T156.setTop (mkF m 120 #[.val (.int p1), .val (.int p2), .val (.int p3), .val (.int p4), .val (.int p5), .val (.int p6), .val (.int cc), .val (.int xx), .val (.int yy), .val (.int zz), .val (.int uu), .val (.int tt), .val (.ref b1), .val (.ref b3), .val (.int Rv106.2), .unset] [(.int Rv156.2)]))
        have K156 : Keep h0 T156.heap [] := Keep.trans K154 Kc156 (allS (Or.inr sz_b3) all0)
        refine own_via (S' := T156.setTop (mkF m 126 #[.val (.int p1), .val (.int p2), .val (.int p3), .val (.int p4), .val (.int p5), .val (.int p6), .val (.int cc), .val (.int xx), .val (.int yy), .val (.int zz), .val (.int uu), .val (.int tt), .val (.ref b1), .val (.ref b3), .val (.int Rv156.2), .unset] [(.int uu), (.ref b1)])) (fun t k => ?_) ?_
        · show Steps p.tables e below (T156.setTop (mkF m 120 #[.val (.int p1), .val (.int p2), .val (.int p3), .val (.int p4), .val (.int p5), .val (.int p6), .val (.int cc), .val (.int xx), .val (.int yy), .val (.int zz), .val (.int uu), .val (.int tt), .val (.ref b1), .val (.ref b3), .val (.int Rv106.2), .unset] [(.int Rv156.2)])) t
          refine XS.istore X156.here hx rfl (hb hby at_120) rfl (l' := #[.val (.int p1), .val (.int p2), .val (.int p3), .val (.int p4), .val (.int p5), .val (.int p6), .val (.int cc), .val (.int xx), .val (.int yy), .val (.int zz), .val (.int uu), .val (.int tt), .val (.ref b1), .val (.ref b3), .val (.int Rv156.2), .unset]) rfl ?_
          show Steps p.tables e below (T156.setTop (mkF m 122 #[.val (.int p1), .val (.int p2), .val (.int p3), .val (.int p4), .val (.int p5), .val (.int p6), .val (.int cc), .val (.int xx), .val (.int yy), .val (.int zz), .val (.int uu), .val (.int tt), .val (.ref b1), .val (.ref b3), .val (.int Rv156.2), .unset] [])) t
          refine XS.aload X156.here hx rfl (hb hby at_122) rfl rfl ?_
          show Steps p.tables e below (T156.setTop (mkF m 124 #[.val (.int p1), .val (.int p2), .val (.int p3), .val (.int p4), .val (.int p5), .val (.int p6), .val (.int cc), .val (.int xx), .val (.int yy), .val (.int zz), .val (.int uu), .val (.int tt), .val (.ref b1), .val (.ref b3), .val (.int Rv156.2), .unset] [(.ref b1)])) t
          refine XS.iload X156.here hx rfl (hb hby at_124) rfl ?_
          exact k
        have hk157 : own_chk Sv154 Rv156 uu tt := own_k3 hd_xx hd_yy hd_zz hd_uu hd_tt hS53 hS104 hS154 hR55 hR106 hR156
        obtain ⟨ka157, kb157, kc157, kd157, ke157⟩ := hk157
        have c158 := (Exa.keep DE154 Kc156)
        have c159 := (Fld.keep DM154 Kc156 (ninS ne_b1_b3 nin0))
        have c160 := (Fld.keep DP154 Kc156 (ninS ne_b1_b3 nin0))
        have c161 := (Fld.keep DZ154 Kc156 (ninS ne_b1_b3 nin0))
        have c162 := (own_Ar.keep DA154 Kc156 (ninS ne_bm2_b3 nin0))
        have c163 := (own_Ar.keep DB154 Kc156 (ninS ne_bp2_b3 nin0))
        obtain ⟨cq164, kq164, q164a, q164b, q164c⟩ := isOf hZ rfl c158
        obtain ⟨_, _, ⟨T164, L164, k164, n164⟩, -, X164, ⟨Lc164, hQ164, l164, y164, z164⟩, st164⟩ := X156.virtualBack hx (y := (⟨"com/example/vendace/vendace/localrecoding/DenseSet", "remove", "(I)V"⟩ : MethodName)) (z := (⟨"com/example/vendace/vendace/localrecoding/DenseSet", "remove", "(I)V"⟩ : MethodName)) hown (mvT hZ (hw _ (List.mem_of_getElem? (i := 18) rfl))) (mvT hZ (hw _ (List.mem_of_getElem? (i := 19) rfl))) (notFace_of_selects (args := #[]) (mvT hZ (hw _ (List.mem_of_getElem? (i := 21) rfl)))) (mvT hZ (hw _ (List.mem_of_getElem? (i := 21) rfl))) (mvT hZ (hw _ (List.mem_of_getElem? (i := 20) rfl))) (by decide) (backOf (W := 0) (rm4 l Z a0 hw [] b1 uu bm2 bp2 km2 kp2 (4 : Int32) Sv154 T156.heap n0 (Nat.le_trans Z0 K156.1) ⟨c158, c159, c160, c161, c162, c163⟩ na2 nb2 nc2 g_b1 gm2 gp2 ka157) hZ (hw _ (List.mem_of_getElem? (i := 22) rfl)) (hw _ (List.mem_of_getElem? (i := 2) rfl)) (by decide) (by decide)) q164a q164c (g := (mkF m 126 #[.val (.int p1), .val (.int p2), .val (.int p3), .val (.int p4), .val (.int p5), .val (.int p6), .val (.int cc), .val (.int xx), .val (.int yy), .val (.int zz), .val (.int uu), .val (.int tt), .val (.ref b1), .val (.ref b3), .val (.int Rv156.2), .unset] [(.int uu), (.ref b1)])) rfl (by rw [hml]; rfl) (Steps.refl _) (argsL := [(.int uu)]) (rest := []) (lenOf pd_2 rfl) rfl (by show 2 * 0 + _ ≤ _; exact Nat.le_of_eq rfl) (hb hby at_126) (fun _ _ => ⟨rfl, rfl, (by decide : 4 + 0 ≤ _), (by decide : 15 + 0 ≤ _)⟩)
        dsimp only [Pt.U, Pt.locs, Pt.cells, Pt.slots] at X164 l164 y164 z164 st164 hQ164
        subst l164 y164 z164
        obtain ⟨rfl, Nq164, Kc164, Sv164, hS164, DS164⟩ := hQ164
        have N164 := Fr.app N156 Nq164
        refine own_via (fun t k => st164.trans k) ?_
        show own_G p.tables e below _ (T164.setTop (mkF m 129 #[.val (.int p1), .val (.int p2), .val (.int p3), .val (.int p4), .val (.int p5), .val (.int p6), .val (.int cc), .val (.int xx), .val (.int yy), .val (.int zz), .val (.int uu), .val (.int tt), .val (.ref b1), .val (.ref b3), .val (.int Rv156.2), .unset] []))
        have K164 : Keep h0 T164.heap [] := Keep.trans K156 Kc164 (allS (Or.inr sz_b1) (allS (Or.inr sm2) (allS (Or.inr sp2) all0)))
        obtain ⟨DE164, DM164, DP164, DZ164, DA164, DB164⟩ := id DS164
        rw [← hS164] at kc157 ke157
        refine own_via (S' := T164.setTop (mkF m 135 #[.val (.int p1), .val (.int p2), .val (.int p3), .val (.int p4), .val (.int p5), .val (.int p6), .val (.int cc), .val (.int xx), .val (.int yy), .val (.int zz), .val (.int uu), .val (.int tt), .val (.ref b1), .val (.ref b3), .val (.int Rv156.2), .unset] [(.int uu), (.int Rv156.2), (.ref b3)])) (fun t k => ?_) ?_
        · show Steps p.tables e below (T164.setTop (mkF m 129 #[.val (.int p1), .val (.int p2), .val (.int p3), .val (.int p4), .val (.int p5), .val (.int p6), .val (.int cc), .val (.int xx), .val (.int yy), .val (.int zz), .val (.int uu), .val (.int tt), .val (.ref b1), .val (.ref b3), .val (.int Rv156.2), .unset] [])) t
          refine XS.aload X164.here hx rfl (hb hby at_129) rfl rfl ?_
          show Steps p.tables e below (T164.setTop (mkF m 131 #[.val (.int p1), .val (.int p2), .val (.int p3), .val (.int p4), .val (.int p5), .val (.int p6), .val (.int cc), .val (.int xx), .val (.int yy), .val (.int zz), .val (.int uu), .val (.int tt), .val (.ref b1), .val (.ref b3), .val (.int Rv156.2), .unset] [(.ref b3)])) t
          refine XS.iload X164.here hx rfl (hb hby at_131) rfl ?_
          show Steps p.tables e below (T164.setTop (mkF m 133 #[.val (.int p1), .val (.int p2), .val (.int p3), .val (.int p4), .val (.int p5), .val (.int p6), .val (.int cc), .val (.int xx), .val (.int yy), .val (.int zz), .val (.int uu), .val (.int tt), .val (.ref b1), .val (.ref b3), .val (.int Rv156.2), .unset] [(.int Rv156.2), (.ref b3)])) t
          refine XS.iload X164.here hx rfl (hb hby at_133) rfl ?_
          exact k
        have c165 := (own_Ar.keep Vc156 Kc164 (ninS (Ne.symm ne_b1_b3) (ninS (Ne.symm ne_bm2_b3) (ninS (Ne.symm ne_bp2_b3) nin0))))
        obtain ⟨_, _, ⟨T166, L166, k166, n166⟩, -, X166, ⟨Lc166, hQ166, l166, y166, z166⟩, st166⟩ := Jvm.LawKit.callS X164 hx (y := (⟨"com/example/vendace/vendace/localrecoding/DenseSetRemovePinLaw", "refRemove", "([III)I"⟩ : MethodName)) hown (mvT hZ (hw _ (List.mem_of_getElem? (i := 23) rfl))) (mvT hZ (hw _ (List.mem_of_getElem? (i := 24) rfl))) (mvT hZ (hw _ (List.mem_of_getElem? (i := 25) rfl))) (mvT hZ (hw _ (List.mem_of_getElem? (i := 26) rfl))) (by decide) (backOf (W := 0) (rm5 l Z a0 hw [] b3 Rv156.2 uu k3 Rv156.1 T164.heap n0 (Nat.le_trans Z0 K164.1) c165 g_b3 kb157) hZ (hw _ (List.mem_of_getElem? (i := 26) rfl)) (hw _ (List.mem_of_getElem? (i := 25) rfl)) (by decide) (by decide)) (g := (mkF m 135 #[.val (.int p1), .val (.int p2), .val (.int p3), .val (.int p4), .val (.int p5), .val (.int p6), .val (.int cc), .val (.int xx), .val (.int yy), .val (.int zz), .val (.int uu), .val (.int tt), .val (.ref b1), .val (.ref b3), .val (.int Rv156.2), .unset] [(.int uu), (.int Rv156.2), (.ref b3)])) rfl (by rw [hml]; rfl) (argsL := [(.ref b3), (.int Rv156.2), (.int uu)]) (rest := []) (lenOf pd_3 rfl) rfl (by show 2 * 0 + _ ≤ _; exact Nat.le_of_eq rfl) (hb hby at_135) (fun _ _ => ⟨rfl, rfl, (by decide : 4 + 0 ≤ _), (by decide : 15 + 0 ≤ _)⟩)
        dsimp only [Pt.U, Pt.locs, Pt.cells, Pt.slots] at X166 l166 y166 z166 st166 hQ166
        subst l166 y166 z166
        obtain ⟨Rv166, hR166, rfl, Nq166, Kc166, Vc166⟩ := hQ166
        have N166 := Fr.app N164 Nq166
        refine own_via st166 ?_
        show own_G p.tables e below _ (T166.setTop (mkF m 138 #[.val (.int p1), .val (.int p2), .val (.int p3), .val (.int p4), .val (.int p5), .val (.int p6), .val (.int cc), .val (.int xx), .val (.int yy), .val (.int zz), .val (.int uu), .val (.int tt), .val (.ref b1), .val (.ref b3), .val (.int Rv156.2), .unset] [(.int Rv166.2)]))
        have K166 : Keep h0 T166.heap [] := Keep.trans K164 Kc166 (allS (Or.inr sz_b3) all0)
        rw [← hR166] at kd157 ke157
        refine own_via (S' := T166.setTop (mkF m 144 #[.val (.int p1), .val (.int p2), .val (.int p3), .val (.int p4), .val (.int p5), .val (.int p6), .val (.int cc), .val (.int xx), .val (.int yy), .val (.int zz), .val (.int uu), .val (.int tt), .val (.ref b1), .val (.ref b3), .val (.int Rv166.2), .unset] [(.int tt), (.ref b1)])) (fun t k => ?_) ?_
        · show Steps p.tables e below (T166.setTop (mkF m 138 #[.val (.int p1), .val (.int p2), .val (.int p3), .val (.int p4), .val (.int p5), .val (.int p6), .val (.int cc), .val (.int xx), .val (.int yy), .val (.int zz), .val (.int uu), .val (.int tt), .val (.ref b1), .val (.ref b3), .val (.int Rv156.2), .unset] [(.int Rv166.2)])) t
          refine XS.istore X166.here hx rfl (hb hby at_138) rfl (l' := #[.val (.int p1), .val (.int p2), .val (.int p3), .val (.int p4), .val (.int p5), .val (.int p6), .val (.int cc), .val (.int xx), .val (.int yy), .val (.int zz), .val (.int uu), .val (.int tt), .val (.ref b1), .val (.ref b3), .val (.int Rv166.2), .unset]) rfl ?_
          show Steps p.tables e below (T166.setTop (mkF m 140 #[.val (.int p1), .val (.int p2), .val (.int p3), .val (.int p4), .val (.int p5), .val (.int p6), .val (.int cc), .val (.int xx), .val (.int yy), .val (.int zz), .val (.int uu), .val (.int tt), .val (.ref b1), .val (.ref b3), .val (.int Rv166.2), .unset] [])) t
          refine XS.aload X166.here hx rfl (hb hby at_140) rfl rfl ?_
          show Steps p.tables e below (T166.setTop (mkF m 142 #[.val (.int p1), .val (.int p2), .val (.int p3), .val (.int p4), .val (.int p5), .val (.int p6), .val (.int cc), .val (.int xx), .val (.int yy), .val (.int zz), .val (.int uu), .val (.int tt), .val (.ref b1), .val (.ref b3), .val (.int Rv166.2), .unset] [(.ref b1)])) t
          refine XS.iload X166.here hx rfl (hb hby at_142) rfl ?_
          exact k
        have c167 := (Exa.keep DE164 Kc166)
        have c168 := (Fld.keep DM164 Kc166 (ninS ne_b1_b3 nin0))
        have c169 := (Fld.keep DP164 Kc166 (ninS ne_b1_b3 nin0))
        have c170 := (Fld.keep DZ164 Kc166 (ninS ne_b1_b3 nin0))
        have c171 := (own_Ar.keep DA164 Kc166 (ninS ne_bm2_b3 nin0))
        have c172 := (own_Ar.keep DB164 Kc166 (ninS ne_bp2_b3 nin0))
        obtain ⟨cq173, kq173, q173a, q173b, q173c⟩ := isOf hZ rfl c167
        obtain ⟨_, _, ⟨T173, L173, k173, n173⟩, -, X173, ⟨Lc173, hQ173, l173, y173, z173⟩, st173⟩ := X166.virtualBack hx (y := (⟨"com/example/vendace/vendace/localrecoding/DenseSet", "remove", "(I)V"⟩ : MethodName)) (z := (⟨"com/example/vendace/vendace/localrecoding/DenseSet", "remove", "(I)V"⟩ : MethodName)) hown (mvT hZ (hw _ (List.mem_of_getElem? (i := 18) rfl))) (mvT hZ (hw _ (List.mem_of_getElem? (i := 19) rfl))) (notFace_of_selects (args := #[]) (mvT hZ (hw _ (List.mem_of_getElem? (i := 21) rfl)))) (mvT hZ (hw _ (List.mem_of_getElem? (i := 21) rfl))) (mvT hZ (hw _ (List.mem_of_getElem? (i := 20) rfl))) (by decide) (backOf (W := 0) (rm4 l Z a0 hw [] b1 tt bm2 bp2 km2 kp2 (4 : Int32) Sv164 T166.heap n0 (Nat.le_trans Z0 K166.1) ⟨c167, c168, c169, c170, c171, c172⟩ na2 nb2 nc2 g_b1 gm2 gp2 kc157) hZ (hw _ (List.mem_of_getElem? (i := 22) rfl)) (hw _ (List.mem_of_getElem? (i := 2) rfl)) (by decide) (by decide)) q173a q173c (g := (mkF m 144 #[.val (.int p1), .val (.int p2), .val (.int p3), .val (.int p4), .val (.int p5), .val (.int p6), .val (.int cc), .val (.int xx), .val (.int yy), .val (.int zz), .val (.int uu), .val (.int tt), .val (.ref b1), .val (.ref b3), .val (.int Rv166.2), .unset] [(.int tt), (.ref b1)])) rfl (by rw [hml]; rfl) (Steps.refl _) (argsL := [(.int tt)]) (rest := []) (lenOf pd_2 rfl) rfl (by show 2 * 0 + _ ≤ _; exact Nat.le_of_eq rfl) (hb hby at_144) (fun _ _ => ⟨rfl, rfl, (by decide : 4 + 0 ≤ _), (by decide : 15 + 0 ≤ _)⟩)
        dsimp only [Pt.U, Pt.locs, Pt.cells, Pt.slots] at X173 l173 y173 z173 st173 hQ173
        subst l173 y173 z173
        obtain ⟨rfl, Nq173, Kc173, Sv173, hS173, DS173⟩ := hQ173
        have N173 := Fr.app N166 Nq173
        refine own_via (fun t k => st173.trans k) ?_
        show own_G p.tables e below _ (T173.setTop (mkF m 147 #[.val (.int p1), .val (.int p2), .val (.int p3), .val (.int p4), .val (.int p5), .val (.int p6), .val (.int cc), .val (.int xx), .val (.int yy), .val (.int zz), .val (.int uu), .val (.int tt), .val (.ref b1), .val (.ref b3), .val (.int Rv166.2), .unset] []))
        have K173 : Keep h0 T173.heap [] := Keep.trans K166 Kc173 (allS (Or.inr sz_b1) (allS (Or.inr sm2) (allS (Or.inr sp2) all0)))
        obtain ⟨DE173, DM173, DP173, DZ173, DA173, DB173⟩ := id DS173
        rw [← hS173] at ke157
        refine own_via (S' := T173.setTop (mkF m 153 #[.val (.int p1), .val (.int p2), .val (.int p3), .val (.int p4), .val (.int p5), .val (.int p6), .val (.int cc), .val (.int xx), .val (.int yy), .val (.int zz), .val (.int uu), .val (.int tt), .val (.ref b1), .val (.ref b3), .val (.int Rv166.2), .unset] [(.int tt), (.int Rv166.2), (.ref b3)])) (fun t k => ?_) ?_
        · show Steps p.tables e below (T173.setTop (mkF m 147 #[.val (.int p1), .val (.int p2), .val (.int p3), .val (.int p4), .val (.int p5), .val (.int p6), .val (.int cc), .val (.int xx), .val (.int yy), .val (.int zz), .val (.int uu), .val (.int tt), .val (.ref b1), .val (.ref b3), .val (.int Rv166.2), .unset] [])) t
          refine XS.aload X173.here hx rfl (hb hby at_147) rfl rfl ?_
          show Steps p.tables e below (T173.setTop (mkF m 149 #[.val (.int p1), .val (.int p2), .val (.int p3), .val (.int p4), .val (.int p5), .val (.int p6), .val (.int cc), .val (.int xx), .val (.int yy), .val (.int zz), .val (.int uu), .val (.int tt), .val (.ref b1), .val (.ref b3), .val (.int Rv166.2), .unset] [(.ref b3)])) t
          refine XS.iload X173.here hx rfl (hb hby at_149) rfl ?_
          show Steps p.tables e below (T173.setTop (mkF m 151 #[.val (.int p1), .val (.int p2), .val (.int p3), .val (.int p4), .val (.int p5), .val (.int p6), .val (.int cc), .val (.int xx), .val (.int yy), .val (.int zz), .val (.int uu), .val (.int tt), .val (.ref b1), .val (.ref b3), .val (.int Rv166.2), .unset] [(.int Rv166.2), (.ref b3)])) t
          refine XS.iload X173.here hx rfl (hb hby at_151) rfl ?_
          exact k
        have c174 := (own_Ar.keep Vc166 Kc173 (ninS (Ne.symm ne_b1_b3) (ninS (Ne.symm ne_bm2_b3) (ninS (Ne.symm ne_bp2_b3) nin0))))
        obtain ⟨_, _, ⟨T175, L175, k175, n175⟩, -, X175, ⟨Lc175, hQ175, l175, y175, z175⟩, st175⟩ := Jvm.LawKit.callS X173 hx (y := (⟨"com/example/vendace/vendace/localrecoding/DenseSetRemovePinLaw", "refRemove", "([III)I"⟩ : MethodName)) hown (mvT hZ (hw _ (List.mem_of_getElem? (i := 23) rfl))) (mvT hZ (hw _ (List.mem_of_getElem? (i := 24) rfl))) (mvT hZ (hw _ (List.mem_of_getElem? (i := 25) rfl))) (mvT hZ (hw _ (List.mem_of_getElem? (i := 26) rfl))) (by decide) (backOf (W := 0) (rm5 l Z a0 hw [] b3 Rv166.2 tt k3 Rv166.1 T173.heap n0 (Nat.le_trans Z0 K173.1) c174 g_b3 kd157) hZ (hw _ (List.mem_of_getElem? (i := 26) rfl)) (hw _ (List.mem_of_getElem? (i := 25) rfl)) (by decide) (by decide)) (g := (mkF m 153 #[.val (.int p1), .val (.int p2), .val (.int p3), .val (.int p4), .val (.int p5), .val (.int p6), .val (.int cc), .val (.int xx), .val (.int yy), .val (.int zz), .val (.int uu), .val (.int tt), .val (.ref b1), .val (.ref b3), .val (.int Rv166.2), .unset] [(.int tt), (.int Rv166.2), (.ref b3)])) rfl (by rw [hml]; rfl) (argsL := [(.ref b3), (.int Rv166.2), (.int tt)]) (rest := []) (lenOf pd_3 rfl) rfl (by show 2 * 0 + _ ≤ _; exact Nat.le_of_eq rfl) (hb hby at_153) (fun _ _ => ⟨rfl, rfl, (by decide : 4 + 0 ≤ _), (by decide : 15 + 0 ≤ _)⟩)
        dsimp only [Pt.U, Pt.locs, Pt.cells, Pt.slots] at X175 l175 y175 z175 st175 hQ175
        subst l175 y175 z175
        obtain ⟨Rv175, hR175, rfl, Nq175, Kc175, Vc175⟩ := hQ175
        have N175 := Fr.app N173 Nq175
        refine own_via st175 ?_
        show own_G p.tables e below _ (T175.setTop (mkF m 156 #[.val (.int p1), .val (.int p2), .val (.int p3), .val (.int p4), .val (.int p5), .val (.int p6), .val (.int cc), .val (.int xx), .val (.int yy), .val (.int zz), .val (.int uu), .val (.int tt), .val (.ref b1), .val (.ref b3), .val (.int Rv166.2), .unset] [(.int Rv175.2)]))
        have K175 : Keep h0 T175.heap [] := Keep.trans K173 Kc175 (allS (Or.inr sz_b3) all0)
        rw [← hR175] at ke157
        obtain ⟨ea157, eb157, ec157, ed157⟩ := ke157
        refine own_via (S' := T175.setTop (mkF m 160 #[.val (.int p1), .val (.int p2), .val (.int p3), .val (.int p4), .val (.int p5), .val (.int p6), .val (.int cc), .val (.int xx), .val (.int yy), .val (.int zz), .val (.int uu), .val (.int tt), .val (.ref b1), .val (.ref b3), .val (.int Rv175.2), .unset] [(.ref b1)])) (fun t k => ?_) ?_
        · show Steps p.tables e below (T175.setTop (mkF m 156 #[.val (.int p1), .val (.int p2), .val (.int p3), .val (.int p4), .val (.int p5), .val (.int p6), .val (.int cc), .val (.int xx), .val (.int yy), .val (.int zz), .val (.int uu), .val (.int tt), .val (.ref b1), .val (.ref b3), .val (.int Rv166.2), .unset] [(.int Rv175.2)])) t
          refine XS.istore X175.here hx rfl (hb hby at_156) rfl (l' := #[.val (.int p1), .val (.int p2), .val (.int p3), .val (.int p4), .val (.int p5), .val (.int p6), .val (.int cc), .val (.int xx), .val (.int yy), .val (.int zz), .val (.int uu), .val (.int tt), .val (.ref b1), .val (.ref b3), .val (.int Rv175.2), .unset]) rfl ?_
          show Steps p.tables e below (T175.setTop (mkF m 158 #[.val (.int p1), .val (.int p2), .val (.int p3), .val (.int p4), .val (.int p5), .val (.int p6), .val (.int cc), .val (.int xx), .val (.int yy), .val (.int zz), .val (.int uu), .val (.int tt), .val (.ref b1), .val (.ref b3), .val (.int Rv175.2), .unset] [])) t
          refine XS.aload X175.here hx rfl (hb hby at_158) rfl rfl ?_
          exact k
        have c176 := (Fld.keep DZ173 Kc175 (ninS ne_b1_b3 nin0))
        have c178 := (Exa.keep DE173 Kc175)
        obtain ⟨cq177, kq177, q177a, q177b, q177c⟩ := isOf hZ rfl c178
        obtain ⟨_, _, ⟨T177, L177, k177, n177⟩, -, X177, ⟨Lc177, hQ177, l177, y177, z177⟩, st177⟩ := X175.virtualBack hx (y := (⟨"com/example/vendace/vendace/localrecoding/DenseSet", "size", "()I"⟩ : MethodName)) (z := (⟨"com/example/vendace/vendace/localrecoding/DenseSet", "size", "()I"⟩ : MethodName)) hown (mvT hZ (hw _ (List.mem_of_getElem? (i := 27) rfl))) (mvT hZ (hw _ (List.mem_of_getElem? (i := 28) rfl))) (notFace_of_selects (args := #[]) (mvT hZ (hw _ (List.mem_of_getElem? (i := 30) rfl)))) (mvT hZ (hw _ (List.mem_of_getElem? (i := 30) rfl))) (mvT hZ (hw _ (List.mem_of_getElem? (i := 29) rfl))) (by decide) (backOf (W := 0) (rm6 l Z a0 hw [] b1 Sv173.2.2 T175.heap n0 (Nat.le_trans Z0 K175.1) c176) hZ (hw _ (List.mem_of_getElem? (i := 31) rfl)) (hw _ (List.mem_of_getElem? (i := 2) rfl)) (by decide) (by decide)) q177a q177c (g := (mkF m 160 #[.val (.int p1), .val (.int p2), .val (.int p3), .val (.int p4), .val (.int p5), .val (.int p6), .val (.int cc), .val (.int xx), .val (.int yy), .val (.int zz), .val (.int uu), .val (.int tt), .val (.ref b1), .val (.ref b3), .val (.int Rv175.2), .unset] [(.ref b1)])) rfl (by rw [hml]; rfl) (Steps.refl _) (argsL := []) (rest := []) (lenOf pd_4 rfl) rfl (by show 2 * 0 + _ ≤ _; exact Nat.le_of_eq rfl) (hb hby at_160) (fun _ _ => ⟨rfl, rfl, (by decide : 4 + 0 ≤ _), (by decide : 15 + 0 ≤ _)⟩)
        dsimp only [Pt.U, Pt.locs, Pt.cells, Pt.slots] at X177 l177 y177 z177 st177 hQ177
        subst l177 y177 z177
        obtain ⟨rfl, Nq177, hh177⟩ := hQ177
        have N177 := Fr.app N175 Nq177
        refine own_via (fun t k => st177.trans k) ?_
        show own_G p.tables e below _ (T177.setTop (mkF m 163 #[.val (.int p1), .val (.int p2), .val (.int p3), .val (.int p4), .val (.int p5), .val (.int p6), .val (.int cc), .val (.int xx), .val (.int yy), .val (.int zz), .val (.int uu), .val (.int tt), .val (.ref b1), .val (.ref b3), .val (.int Rv175.2), .unset] [(.int Sv173.2.2)]))
        refine own_via (S' := T177.setTop (mkF m 165 #[.val (.int p1), .val (.int p2), .val (.int p3), .val (.int p4), .val (.int p5), .val (.int p6), .val (.int cc), .val (.int xx), .val (.int yy), .val (.int zz), .val (.int uu), .val (.int tt), .val (.ref b1), .val (.ref b3), .val (.int Rv175.2), .unset] [(.int Rv175.2), (.int Sv173.2.2)])) (fun t k => ?_) ?_
        · show Steps p.tables e below (T177.setTop (mkF m 163 #[.val (.int p1), .val (.int p2), .val (.int p3), .val (.int p4), .val (.int p5), .val (.int p6), .val (.int cc), .val (.int xx), .val (.int yy), .val (.int zz), .val (.int uu), .val (.int tt), .val (.ref b1), .val (.ref b3), .val (.int Rv175.2), .unset] [(.int Sv173.2.2)])) t
          refine XS.iload X177.here hx rfl (hb hby at_163) rfl ?_
          exact k
        refine own_via (S' := T177.setTop (mkF m 170 #[.val (.int p1), .val (.int p2), .val (.int p3), .val (.int p4), .val (.int p5), .val (.int p6), .val (.int cc), .val (.int xx), .val (.int yy), .val (.int zz), .val (.int uu), .val (.int tt), .val (.ref b1), .val (.ref b3), .val (.int Rv175.2), .unset] [])) (fun t k => XS.icmpYes (g := (mkF m 165 #[.val (.int p1), .val (.int p2), .val (.int p3), .val (.int p4), .val (.int p5), .val (.int p6), .val (.int cc), .val (.int xx), .val (.int yy), .val (.int zz), .val (.int uu), .val (.int tt), .val (.ref b1), .val (.ref b3), .val (.int Rv175.2), .unset] [(.int Rv175.2), (.int Sv173.2.2)])) X177.here hx rfl (pc0 := 165) (pc' := 170) rfl (hb hby at_165) rfl (teq ea157).1 (by decide) (by decide) k) ?_
        refine own_via (S' := T177.setTop (mkF m 175 #[.val (.int p1), .val (.int p2), .val (.int p3), .val (.int p4), .val (.int p5), .val (.int p6), .val (.int cc), .val (.int xx), .val (.int yy), .val (.int zz), .val (.int uu), .val (.int tt), .val (.ref b1), .val (.ref b3), .val (.int Rv175.2), .val (.int (1 : Int32))] [(.int Rv175.2)])) (fun t k => ?_) ?_
        · show Steps p.tables e below (T177.setTop (mkF m 170 #[.val (.int p1), .val (.int p2), .val (.int p3), .val (.int p4), .val (.int p5), .val (.int p6), .val (.int cc), .val (.int xx), .val (.int yy), .val (.int zz), .val (.int uu), .val (.int tt), .val (.ref b1), .val (.ref b3), .val (.int Rv175.2), .unset] [])) t
          refine XS.iconst X177.here hx rfl (hb hby at_170) ?_
          show Steps p.tables e below (T177.setTop (mkF m 171 #[.val (.int p1), .val (.int p2), .val (.int p3), .val (.int p4), .val (.int p5), .val (.int p6), .val (.int cc), .val (.int xx), .val (.int yy), .val (.int zz), .val (.int uu), .val (.int tt), .val (.ref b1), .val (.ref b3), .val (.int Rv175.2), .unset] [(.int (1 : Int32))])) t
          refine XS.istore X177.here hx rfl (hb hby at_171) rfl (l' := #[.val (.int p1), .val (.int p2), .val (.int p3), .val (.int p4), .val (.int p5), .val (.int p6), .val (.int cc), .val (.int xx), .val (.int yy), .val (.int zz), .val (.int uu), .val (.int tt), .val (.ref b1), .val (.ref b3), .val (.int Rv175.2), .val (.int (1 : Int32))]) rfl ?_
          show Steps p.tables e below (T177.setTop (mkF m 173 #[.val (.int p1), .val (.int p2), .val (.int p3), .val (.int p4), .val (.int p5), .val (.int p6), .val (.int cc), .val (.int xx), .val (.int yy), .val (.int zz), .val (.int uu), .val (.int tt), .val (.ref b1), .val (.ref b3), .val (.int Rv175.2), .val (.int (1 : Int32))] [])) t
          refine XS.iload X177.here hx rfl (hb hby at_173) rfl ?_
          exact k
        by_cases hc175_180 : (0 : Int32) < Rv175.2
        · refine own_via (S' := T177.setTop (mkF m 178 #[.val (.int p1), .val (.int p2), .val (.int p3), .val (.int p4), .val (.int p5), .val (.int p6), .val (.int cc), .val (.int xx), .val (.int yy), .val (.int zz), .val (.int uu), .val (.int tt), .val (.ref b1), .val (.ref b3), .val (.int Rv175.2), .val (.int (1 : Int32))] [])) (fun t k => XS.ifNo (g := (mkF m 175 #[.val (.int p1), .val (.int p2), .val (.int p3), .val (.int p4), .val (.int p5), .val (.int p6), .val (.int cc), .val (.int xx), .val (.int yy), .val (.int zz), .val (.int uu), .val (.int tt), .val (.ref b1), .val (.ref b3), .val (.int Rv175.2), .val (.int (1 : Int32))] [(.int Rv175.2)])) X177.here hx rfl (hb hby at_175) rfl ((if0 _ _).trans (tlt hc175_180).2.2.2) k) ?_
          refine own_via (S' := T177.setTop (mkF m 181 #[.val (.int p1), .val (.int p2), .val (.int p3), .val (.int p4), .val (.int p5), .val (.int p6), .val (.int cc), .val (.int xx), .val (.int yy), .val (.int zz), .val (.int uu), .val (.int tt), .val (.ref b1), .val (.ref b3), .val (.int Rv175.2), .val (.int (1 : Int32))] [(.int (0 : Int32)), (.ref b1)])) (fun t k => ?_) ?_
          · show Steps p.tables e below (T177.setTop (mkF m 178 #[.val (.int p1), .val (.int p2), .val (.int p3), .val (.int p4), .val (.int p5), .val (.int p6), .val (.int cc), .val (.int xx), .val (.int yy), .val (.int zz), .val (.int uu), .val (.int tt), .val (.ref b1), .val (.ref b3), .val (.int Rv175.2), .val (.int (1 : Int32))] [])) t
            refine XS.aload X177.here hx rfl (hb hby at_178) rfl rfl ?_
            show Steps p.tables e below (T177.setTop (mkF m 180 #[.val (.int p1), .val (.int p2), .val (.int p3), .val (.int p4), .val (.int p5), .val (.int p6), .val (.int cc), .val (.int xx), .val (.int yy), .val (.int zz), .val (.int uu), .val (.int tt), .val (.ref b1), .val (.ref b3), .val (.int Rv175.2), .val (.int (1 : Int32))] [(.ref b1)])) t
            refine XS.iconst X177.here hx rfl (hb hby at_180) ?_
            exact k
          have c181 := (Fld.keep DM173 Kc175 (ninS ne_b1_b3 nin0))
          have c182 := (own_Ar.keep DA173 Kc175 (ninS ne_bm2_b3 nin0))
          obtain ⟨cq183, kq183, q183a, q183b, q183c⟩ := isOf hZ hh177 c178
          obtain ⟨_, _, ⟨T183, L183, k183, n183⟩, -, X183, ⟨Lc183, hQ183, l183, y183, z183⟩, st183⟩ := X177.virtualBack hx (y := (⟨"com/example/vendace/vendace/localrecoding/DenseSet", "member", "(I)I"⟩ : MethodName)) (z := (⟨"com/example/vendace/vendace/localrecoding/DenseSet", "member", "(I)I"⟩ : MethodName)) hown (mvT hZ (hw _ (List.mem_of_getElem? (i := 45) rfl))) (mvT hZ (hw _ (List.mem_of_getElem? (i := 46) rfl))) (notFace_of_selects (args := #[]) (mvT hZ (hw _ (List.mem_of_getElem? (i := 48) rfl)))) (mvT hZ (hw _ (List.mem_of_getElem? (i := 48) rfl))) (mvT hZ (hw _ (List.mem_of_getElem? (i := 47) rfl))) (by decide) (backOf (W := 0) (rm10 l Z a0 hw [] b1 (0 : Int32) bm2 km2 (4 : Int32) Sv173.1 T175.heap n0 (Nat.le_trans Z0 K175.1) c181 c182 ⟨by decide, by decide⟩) hZ (hw _ (List.mem_of_getElem? (i := 49) rfl)) (hw _ (List.mem_of_getElem? (i := 2) rfl)) (by decide) (by decide)) q183a q183c (g := (mkF m 181 #[.val (.int p1), .val (.int p2), .val (.int p3), .val (.int p4), .val (.int p5), .val (.int p6), .val (.int cc), .val (.int xx), .val (.int yy), .val (.int zz), .val (.int uu), .val (.int tt), .val (.ref b1), .val (.ref b3), .val (.int Rv175.2), .val (.int (1 : Int32))] [(.int (0 : Int32)), (.ref b1)])) rfl (by rw [hml]; rfl) (Steps.refl _) (argsL := [(.int (0 : Int32))]) (rest := []) (lenOf pd_5 rfl) rfl (by show 2 * 0 + _ ≤ _; exact Nat.le_of_eq rfl) (hb hby at_181) (fun _ _ => ⟨rfl, hh177, (by decide : 4 + 0 ≤ _), (by decide : 15 + 0 ≤ _)⟩)
          dsimp only [Pt.U, Pt.locs, Pt.cells, Pt.slots] at X183 l183 y183 z183 st183 hQ183
          subst l183 y183 z183
          obtain ⟨rfl, Nq183, hh183⟩ := hQ183
          have N183 := Fr.app N177 Nq183
          refine own_via (fun t k => st183.trans k) ?_
          show own_G p.tables e below _ (T183.setTop (mkF m 184 #[.val (.int p1), .val (.int p2), .val (.int p3), .val (.int p4), .val (.int p5), .val (.int p6), .val (.int cc), .val (.int xx), .val (.int yy), .val (.int zz), .val (.int uu), .val (.int tt), .val (.ref b1), .val (.ref b3), .val (.int Rv175.2), .val (.int (1 : Int32))] [(.int (Sv173.1.getD ((0 : Int32)).toNatClampNeg 0))]))
          refine own_via (S' := T183.setTop (mkF m 187 #[.val (.int p1), .val (.int p2), .val (.int p3), .val (.int p4), .val (.int p5), .val (.int p6), .val (.int cc), .val (.int xx), .val (.int yy), .val (.int zz), .val (.int uu), .val (.int tt), .val (.ref b1), .val (.ref b3), .val (.int Rv175.2), .val (.int (1 : Int32))] [(.int (0 : Int32)), (.ref b3), (.int (Sv173.1.getD ((0 : Int32)).toNatClampNeg 0))])) (fun t k => ?_) ?_
          · show Steps p.tables e below (T183.setTop (mkF m 184 #[.val (.int p1), .val (.int p2), .val (.int p3), .val (.int p4), .val (.int p5), .val (.int p6), .val (.int cc), .val (.int xx), .val (.int yy), .val (.int zz), .val (.int uu), .val (.int tt), .val (.ref b1), .val (.ref b3), .val (.int Rv175.2), .val (.int (1 : Int32))] [(.int (Sv173.1.getD ((0 : Int32)).toNatClampNeg 0))])) t
            refine XS.aload X183.here hx rfl (hb hby at_184) rfl rfl ?_
            show Steps p.tables e below (T183.setTop (mkF m 186 #[.val (.int p1), .val (.int p2), .val (.int p3), .val (.int p4), .val (.int p5), .val (.int p6), .val (.int cc), .val (.int xx), .val (.int yy), .val (.int zz), .val (.int uu), .val (.int tt), .val (.ref b1), .val (.ref b3), .val (.int Rv175.2), .val (.int (1 : Int32))] [(.ref b3), (.int (Sv173.1.getD ((0 : Int32)).toNatClampNeg 0))])) t
            refine XS.iconst X183.here hx rfl (hb hby at_186) ?_
            exact k
          obtain ⟨⟨cl184, Ar184, q184, S184, Nn184, H184, G184⟩, Le184⟩ := id Vc175
          have hin184 : ¬ ((0 : Int32) < 0 ∨ cl184.slots.size ≤ ((0 : Int32)).toNatClampNeg) := inb_of S184 ⟨by decide, by decide⟩
          have hat184 : cl184.slots[((0 : Int32)).toNatClampNeg]? = some (.int (Rv175.1.getD ((0 : Int32)).toNatClampNeg 0)) := Has.at H184 hin184 (own_gI _ _)
          refine own_via (S' := T183.setTop (mkF m 188 #[.val (.int p1), .val (.int p2), .val (.int p3), .val (.int p4), .val (.int p5), .val (.int p6), .val (.int cc), .val (.int xx), .val (.int yy), .val (.int zz), .val (.int uu), .val (.int tt), .val (.ref b1), .val (.ref b3), .val (.int Rv175.2), .val (.int (1 : Int32))] [(.int (Rv175.1.getD ((0 : Int32)).toNatClampNeg 0)), (.int (Sv173.1.getD ((0 : Int32)).toNatClampNeg 0))])) (fun t kz_ => X183.iaload hx (j := (0 : Int32)) (v := (.int (Rv175.1.getD ((0 : Int32)).toNatClampNeg 0))) (by rw [hh183]; exact Ar184.1) (State.isArrayOf_alike hZ.alike Ar184.2.1) Ar184.2.2 hin184 hat184 (g := (mkF m 187 #[.val (.int p1), .val (.int p2), .val (.int p3), .val (.int p4), .val (.int p5), .val (.int p6), .val (.int cc), .val (.int xx), .val (.int yy), .val (.int zz), .val (.int uu), .val (.int tt), .val (.ref b1), .val (.ref b3), .val (.int Rv175.2), .val (.int (1 : Int32))] [(.int (0 : Int32)), (.ref b3), (.int (Sv173.1.getD ((0 : Int32)).toNatClampNeg 0))])) rfl rfl (hb hby at_187) _ kz_) ?_
          refine own_via (S' := T183.setTop (mkF m 194 #[.val (.int p1), .val (.int p2), .val (.int p3), .val (.int p4), .val (.int p5), .val (.int p6), .val (.int cc), .val (.int xx), .val (.int yy), .val (.int zz), .val (.int uu), .val (.int tt), .val (.ref b1), .val (.ref b3), .val (.int Rv175.2), .val (.int (1 : Int32))] [])) (fun t k => XS.icmpYes (g := (mkF m 188 #[.val (.int p1), .val (.int p2), .val (.int p3), .val (.int p4), .val (.int p5), .val (.int p6), .val (.int cc), .val (.int xx), .val (.int yy), .val (.int zz), .val (.int uu), .val (.int tt), .val (.ref b1), .val (.ref b3), .val (.int Rv175.2), .val (.int (1 : Int32))] [(.int (Rv175.1.getD ((0 : Int32)).toNatClampNeg 0)), (.int (Sv173.1.getD ((0 : Int32)).toNatClampNeg 0))])) X183.here hx rfl (pc0 := 188) (pc' := 194) rfl (hb hby at_188) rfl (teq (eb157 hc175_180)).1 (by decide) (by decide) k) ?_
          refine own_via (S' := T183.setTop (mkF m 197 #[.val (.int p1), .val (.int p2), .val (.int p3), .val (.int p4), .val (.int p5), .val (.int p6), .val (.int cc), .val (.int xx), .val (.int yy), .val (.int zz), .val (.int uu), .val (.int tt), .val (.ref b1), .val (.ref b3), .val (.int Rv175.2), .val (.int (1 : Int32))] [(.int (1 : Int32)), (.int Rv175.2)])) (fun t k => ?_) ?_
          · show Steps p.tables e below (T183.setTop (mkF m 194 #[.val (.int p1), .val (.int p2), .val (.int p3), .val (.int p4), .val (.int p5), .val (.int p6), .val (.int cc), .val (.int xx), .val (.int yy), .val (.int zz), .val (.int uu), .val (.int tt), .val (.ref b1), .val (.ref b3), .val (.int Rv175.2), .val (.int (1 : Int32))] [])) t
            refine XS.iload X183.here hx rfl (hb hby at_194) rfl ?_
            show Steps p.tables e below (T183.setTop (mkF m 196 #[.val (.int p1), .val (.int p2), .val (.int p3), .val (.int p4), .val (.int p5), .val (.int p6), .val (.int cc), .val (.int xx), .val (.int yy), .val (.int zz), .val (.int uu), .val (.int tt), .val (.ref b1), .val (.ref b3), .val (.int Rv175.2), .val (.int (1 : Int32))] [(.int Rv175.2)])) t
            refine XS.iconst X183.here hx rfl (hb hby at_196) ?_
            exact k
          by_cases hc197_186 : (1 : Int32) < Rv175.2
          · refine own_via (S' := T183.setTop (mkF m 200 #[.val (.int p1), .val (.int p2), .val (.int p3), .val (.int p4), .val (.int p5), .val (.int p6), .val (.int cc), .val (.int xx), .val (.int yy), .val (.int zz), .val (.int uu), .val (.int tt), .val (.ref b1), .val (.ref b3), .val (.int Rv175.2), .val (.int (1 : Int32))] [])) (fun t k => XS.icmpNo (g := (mkF m 197 #[.val (.int p1), .val (.int p2), .val (.int p3), .val (.int p4), .val (.int p5), .val (.int p6), .val (.int cc), .val (.int xx), .val (.int yy), .val (.int zz), .val (.int uu), .val (.int tt), .val (.ref b1), .val (.ref b3), .val (.int Rv175.2), .val (.int (1 : Int32))] [(.int (1 : Int32)), (.int Rv175.2)])) X183.here hx rfl (hb hby at_197) rfl (tlt hc197_186).2.2.2 k) ?_
            refine own_via (S' := T183.setTop (mkF m 203 #[.val (.int p1), .val (.int p2), .val (.int p3), .val (.int p4), .val (.int p5), .val (.int p6), .val (.int cc), .val (.int xx), .val (.int yy), .val (.int zz), .val (.int uu), .val (.int tt), .val (.ref b1), .val (.ref b3), .val (.int Rv175.2), .val (.int (1 : Int32))] [(.int (1 : Int32)), (.ref b1)])) (fun t k => ?_) ?_
            · show Steps p.tables e below (T183.setTop (mkF m 200 #[.val (.int p1), .val (.int p2), .val (.int p3), .val (.int p4), .val (.int p5), .val (.int p6), .val (.int cc), .val (.int xx), .val (.int yy), .val (.int zz), .val (.int uu), .val (.int tt), .val (.ref b1), .val (.ref b3), .val (.int Rv175.2), .val (.int (1 : Int32))] [])) t
              refine XS.aload X183.here hx rfl (hb hby at_200) rfl rfl ?_
              show Steps p.tables e below (T183.setTop (mkF m 202 #[.val (.int p1), .val (.int p2), .val (.int p3), .val (.int p4), .val (.int p5), .val (.int p6), .val (.int cc), .val (.int xx), .val (.int yy), .val (.int zz), .val (.int uu), .val (.int tt), .val (.ref b1), .val (.ref b3), .val (.int Rv175.2), .val (.int (1 : Int32))] [(.ref b1)])) t
              refine XS.iconst X183.here hx rfl (hb hby at_202) ?_
              exact k
            obtain ⟨cq187, kq187, q187a, q187b, q187c⟩ := isOf hZ hh183 c178
            obtain ⟨_, _, ⟨T187, L187, k187, n187⟩, -, X187, ⟨Lc187, hQ187, l187, y187, z187⟩, st187⟩ := X183.virtualBack hx (y := (⟨"com/example/vendace/vendace/localrecoding/DenseSet", "member", "(I)I"⟩ : MethodName)) (z := (⟨"com/example/vendace/vendace/localrecoding/DenseSet", "member", "(I)I"⟩ : MethodName)) hown (mvT hZ (hw _ (List.mem_of_getElem? (i := 45) rfl))) (mvT hZ (hw _ (List.mem_of_getElem? (i := 46) rfl))) (notFace_of_selects (args := #[]) (mvT hZ (hw _ (List.mem_of_getElem? (i := 48) rfl)))) (mvT hZ (hw _ (List.mem_of_getElem? (i := 48) rfl))) (mvT hZ (hw _ (List.mem_of_getElem? (i := 47) rfl))) (by decide) (backOf (W := 0) (rm10 l Z a0 hw [] b1 (1 : Int32) bm2 km2 (4 : Int32) Sv173.1 T175.heap n0 (Nat.le_trans Z0 K175.1) c181 c182 ⟨by decide, by decide⟩) hZ (hw _ (List.mem_of_getElem? (i := 49) rfl)) (hw _ (List.mem_of_getElem? (i := 2) rfl)) (by decide) (by decide)) q187a q187c (g := (mkF m 203 #[.val (.int p1), .val (.int p2), .val (.int p3), .val (.int p4), .val (.int p5), .val (.int p6), .val (.int cc), .val (.int xx), .val (.int yy), .val (.int zz), .val (.int uu), .val (.int tt), .val (.ref b1), .val (.ref b3), .val (.int Rv175.2), .val (.int (1 : Int32))] [(.int (1 : Int32)), (.ref b1)])) rfl (by rw [hml]; rfl) (Steps.refl _) (argsL := [(.int (1 : Int32))]) (rest := []) (lenOf pd_5 rfl) rfl (by show 2 * 0 + _ ≤ _; exact Nat.le_of_eq rfl) (hb hby at_203) (fun _ _ => ⟨rfl, hh183, (by decide : 4 + 0 ≤ _), (by decide : 15 + 0 ≤ _)⟩)
            dsimp only [Pt.U, Pt.locs, Pt.cells, Pt.slots] at X187 l187 y187 z187 st187 hQ187
            subst l187 y187 z187
            obtain ⟨rfl, Nq187, hh187⟩ := hQ187
            have N187 := Fr.app N183 Nq187
            refine own_via (fun t k => st187.trans k) ?_
            show own_G p.tables e below _ (T187.setTop (mkF m 206 #[.val (.int p1), .val (.int p2), .val (.int p3), .val (.int p4), .val (.int p5), .val (.int p6), .val (.int cc), .val (.int xx), .val (.int yy), .val (.int zz), .val (.int uu), .val (.int tt), .val (.ref b1), .val (.ref b3), .val (.int Rv175.2), .val (.int (1 : Int32))] [(.int (Sv173.1.getD ((1 : Int32)).toNatClampNeg 0))]))
            refine own_via (S' := T187.setTop (mkF m 209 #[.val (.int p1), .val (.int p2), .val (.int p3), .val (.int p4), .val (.int p5), .val (.int p6), .val (.int cc), .val (.int xx), .val (.int yy), .val (.int zz), .val (.int uu), .val (.int tt), .val (.ref b1), .val (.ref b3), .val (.int Rv175.2), .val (.int (1 : Int32))] [(.int (1 : Int32)), (.ref b3), (.int (Sv173.1.getD ((1 : Int32)).toNatClampNeg 0))])) (fun t k => ?_) ?_
            · show Steps p.tables e below (T187.setTop (mkF m 206 #[.val (.int p1), .val (.int p2), .val (.int p3), .val (.int p4), .val (.int p5), .val (.int p6), .val (.int cc), .val (.int xx), .val (.int yy), .val (.int zz), .val (.int uu), .val (.int tt), .val (.ref b1), .val (.ref b3), .val (.int Rv175.2), .val (.int (1 : Int32))] [(.int (Sv173.1.getD ((1 : Int32)).toNatClampNeg 0))])) t
              refine XS.aload X187.here hx rfl (hb hby at_206) rfl rfl ?_
              show Steps p.tables e below (T187.setTop (mkF m 208 #[.val (.int p1), .val (.int p2), .val (.int p3), .val (.int p4), .val (.int p5), .val (.int p6), .val (.int cc), .val (.int xx), .val (.int yy), .val (.int zz), .val (.int uu), .val (.int tt), .val (.ref b1), .val (.ref b3), .val (.int Rv175.2), .val (.int (1 : Int32))] [(.ref b3), (.int (Sv173.1.getD ((1 : Int32)).toNatClampNeg 0))])) t
              refine XS.iconst X187.here hx rfl (hb hby at_208) ?_
              exact k
            obtain ⟨⟨cl188, Ar188, q188, S188, Nn188, H188, G188⟩, Le188⟩ := id Vc175
            have hin188 : ¬ ((1 : Int32) < 0 ∨ cl188.slots.size ≤ ((1 : Int32)).toNatClampNeg) := inb_of S188 ⟨by decide, by decide⟩
            have hat188 : cl188.slots[((1 : Int32)).toNatClampNeg]? = some (.int (Rv175.1.getD ((1 : Int32)).toNatClampNeg 0)) := Has.at H188 hin188 (own_gI _ _)
            refine own_via (S' := T187.setTop (mkF m 210 #[.val (.int p1), .val (.int p2), .val (.int p3), .val (.int p4), .val (.int p5), .val (.int p6), .val (.int cc), .val (.int xx), .val (.int yy), .val (.int zz), .val (.int uu), .val (.int tt), .val (.ref b1), .val (.ref b3), .val (.int Rv175.2), .val (.int (1 : Int32))] [(.int (Rv175.1.getD ((1 : Int32)).toNatClampNeg 0)), (.int (Sv173.1.getD ((1 : Int32)).toNatClampNeg 0))])) (fun t kz_ => X187.iaload hx (j := (1 : Int32)) (v := (.int (Rv175.1.getD ((1 : Int32)).toNatClampNeg 0))) (by rw [hh187]; exact Ar188.1) (State.isArrayOf_alike hZ.alike Ar188.2.1) Ar188.2.2 hin188 hat188 (g := (mkF m 209 #[.val (.int p1), .val (.int p2), .val (.int p3), .val (.int p4), .val (.int p5), .val (.int p6), .val (.int cc), .val (.int xx), .val (.int yy), .val (.int zz), .val (.int uu), .val (.int tt), .val (.ref b1), .val (.ref b3), .val (.int Rv175.2), .val (.int (1 : Int32))] [(.int (1 : Int32)), (.ref b3), (.int (Sv173.1.getD ((1 : Int32)).toNatClampNeg 0))])) rfl rfl (hb hby at_209) _ kz_) ?_
            refine own_via (S' := T187.setTop (mkF m 216 #[.val (.int p1), .val (.int p2), .val (.int p3), .val (.int p4), .val (.int p5), .val (.int p6), .val (.int cc), .val (.int xx), .val (.int yy), .val (.int zz), .val (.int uu), .val (.int tt), .val (.ref b1), .val (.ref b3), .val (.int Rv175.2), .val (.int (1 : Int32))] [])) (fun t k => XS.icmpYes (g := (mkF m 210 #[.val (.int p1), .val (.int p2), .val (.int p3), .val (.int p4), .val (.int p5), .val (.int p6), .val (.int cc), .val (.int xx), .val (.int yy), .val (.int zz), .val (.int uu), .val (.int tt), .val (.ref b1), .val (.ref b3), .val (.int Rv175.2), .val (.int (1 : Int32))] [(.int (Rv175.1.getD ((1 : Int32)).toNatClampNeg 0)), (.int (Sv173.1.getD ((1 : Int32)).toNatClampNeg 0))])) X187.here hx rfl (pc0 := 210) (pc' := 216) rfl (hb hby at_210) rfl (teq (ec157 hc197_186)).1 (by decide) (by decide) k) ?_
            refine own_via (S' := T187.setTop (mkF m 219 #[.val (.int p1), .val (.int p2), .val (.int p3), .val (.int p4), .val (.int p5), .val (.int p6), .val (.int cc), .val (.int xx), .val (.int yy), .val (.int zz), .val (.int uu), .val (.int tt), .val (.ref b1), .val (.ref b3), .val (.int Rv175.2), .val (.int (1 : Int32))] [(.int (2 : Int32)), (.int Rv175.2)])) (fun t k => ?_) ?_
            · show Steps p.tables e below (T187.setTop (mkF m 216 #[.val (.int p1), .val (.int p2), .val (.int p3), .val (.int p4), .val (.int p5), .val (.int p6), .val (.int cc), .val (.int xx), .val (.int yy), .val (.int zz), .val (.int uu), .val (.int tt), .val (.ref b1), .val (.ref b3), .val (.int Rv175.2), .val (.int (1 : Int32))] [])) t
              refine XS.iload X187.here hx rfl (hb hby at_216) rfl ?_
              show Steps p.tables e below (T187.setTop (mkF m 218 #[.val (.int p1), .val (.int p2), .val (.int p3), .val (.int p4), .val (.int p5), .val (.int p6), .val (.int cc), .val (.int xx), .val (.int yy), .val (.int zz), .val (.int uu), .val (.int tt), .val (.ref b1), .val (.ref b3), .val (.int Rv175.2), .val (.int (1 : Int32))] [(.int Rv175.2)])) t
              refine XS.iconst X187.here hx rfl (hb hby at_218) ?_
              exact k
            by_cases hc219_190 : (2 : Int32) < Rv175.2
            · refine own_via (S' := T187.setTop (mkF m 222 #[.val (.int p1), .val (.int p2), .val (.int p3), .val (.int p4), .val (.int p5), .val (.int p6), .val (.int cc), .val (.int xx), .val (.int yy), .val (.int zz), .val (.int uu), .val (.int tt), .val (.ref b1), .val (.ref b3), .val (.int Rv175.2), .val (.int (1 : Int32))] [])) (fun t k => XS.icmpNo (g := (mkF m 219 #[.val (.int p1), .val (.int p2), .val (.int p3), .val (.int p4), .val (.int p5), .val (.int p6), .val (.int cc), .val (.int xx), .val (.int yy), .val (.int zz), .val (.int uu), .val (.int tt), .val (.ref b1), .val (.ref b3), .val (.int Rv175.2), .val (.int (1 : Int32))] [(.int (2 : Int32)), (.int Rv175.2)])) X187.here hx rfl (hb hby at_219) rfl (tlt hc219_190).2.2.2 k) ?_
              refine own_via (S' := T187.setTop (mkF m 225 #[.val (.int p1), .val (.int p2), .val (.int p3), .val (.int p4), .val (.int p5), .val (.int p6), .val (.int cc), .val (.int xx), .val (.int yy), .val (.int zz), .val (.int uu), .val (.int tt), .val (.ref b1), .val (.ref b3), .val (.int Rv175.2), .val (.int (1 : Int32))] [(.int (2 : Int32)), (.ref b1)])) (fun t k => ?_) ?_
              · show Steps p.tables e below (T187.setTop (mkF m 222 #[.val (.int p1), .val (.int p2), .val (.int p3), .val (.int p4), .val (.int p5), .val (.int p6), .val (.int cc), .val (.int xx), .val (.int yy), .val (.int zz), .val (.int uu), .val (.int tt), .val (.ref b1), .val (.ref b3), .val (.int Rv175.2), .val (.int (1 : Int32))] [])) t
                refine XS.aload X187.here hx rfl (hb hby at_222) rfl rfl ?_
                show Steps p.tables e below (T187.setTop (mkF m 224 #[.val (.int p1), .val (.int p2), .val (.int p3), .val (.int p4), .val (.int p5), .val (.int p6), .val (.int cc), .val (.int xx), .val (.int yy), .val (.int zz), .val (.int uu), .val (.int tt), .val (.ref b1), .val (.ref b3), .val (.int Rv175.2), .val (.int (1 : Int32))] [(.ref b1)])) t
                refine XS.iconst X187.here hx rfl (hb hby at_224) ?_
                exact k
              obtain ⟨cq191, kq191, q191a, q191b, q191c⟩ := isOf hZ hh187 c178
              obtain ⟨_, _, ⟨T191, L191, k191, n191⟩, -, X191, ⟨Lc191, hQ191, l191, y191, z191⟩, st191⟩ := X187.virtualBack hx (y := (⟨"com/example/vendace/vendace/localrecoding/DenseSet", "member", "(I)I"⟩ : MethodName)) (z := (⟨"com/example/vendace/vendace/localrecoding/DenseSet", "member", "(I)I"⟩ : MethodName)) hown (mvT hZ (hw _ (List.mem_of_getElem? (i := 45) rfl))) (mvT hZ (hw _ (List.mem_of_getElem? (i := 46) rfl))) (notFace_of_selects (args := #[]) (mvT hZ (hw _ (List.mem_of_getElem? (i := 48) rfl)))) (mvT hZ (hw _ (List.mem_of_getElem? (i := 48) rfl))) (mvT hZ (hw _ (List.mem_of_getElem? (i := 47) rfl))) (by decide) (backOf (W := 0) (rm10 l Z a0 hw [] b1 (2 : Int32) bm2 km2 (4 : Int32) Sv173.1 T175.heap n0 (Nat.le_trans Z0 K175.1) c181 c182 ⟨by decide, by decide⟩) hZ (hw _ (List.mem_of_getElem? (i := 49) rfl)) (hw _ (List.mem_of_getElem? (i := 2) rfl)) (by decide) (by decide)) q191a q191c (g := (mkF m 225 #[.val (.int p1), .val (.int p2), .val (.int p3), .val (.int p4), .val (.int p5), .val (.int p6), .val (.int cc), .val (.int xx), .val (.int yy), .val (.int zz), .val (.int uu), .val (.int tt), .val (.ref b1), .val (.ref b3), .val (.int Rv175.2), .val (.int (1 : Int32))] [(.int (2 : Int32)), (.ref b1)])) rfl (by rw [hml]; rfl) (Steps.refl _) (argsL := [(.int (2 : Int32))]) (rest := []) (lenOf pd_5 rfl) rfl (by show 2 * 0 + _ ≤ _; exact Nat.le_of_eq rfl) (hb hby at_225) (fun _ _ => ⟨rfl, hh187, (by decide : 4 + 0 ≤ _), (by decide : 15 + 0 ≤ _)⟩)
              dsimp only [Pt.U, Pt.locs, Pt.cells, Pt.slots] at X191 l191 y191 z191 st191 hQ191
              subst l191 y191 z191
              obtain ⟨rfl, Nq191, hh191⟩ := hQ191
              have N191 := Fr.app N187 Nq191
              refine own_via (fun t k => st191.trans k) ?_
              show own_G p.tables e below _ (T191.setTop (mkF m 228 #[.val (.int p1), .val (.int p2), .val (.int p3), .val (.int p4), .val (.int p5), .val (.int p6), .val (.int cc), .val (.int xx), .val (.int yy), .val (.int zz), .val (.int uu), .val (.int tt), .val (.ref b1), .val (.ref b3), .val (.int Rv175.2), .val (.int (1 : Int32))] [(.int (Sv173.1.getD ((2 : Int32)).toNatClampNeg 0))]))
              refine own_via (S' := T191.setTop (mkF m 231 #[.val (.int p1), .val (.int p2), .val (.int p3), .val (.int p4), .val (.int p5), .val (.int p6), .val (.int cc), .val (.int xx), .val (.int yy), .val (.int zz), .val (.int uu), .val (.int tt), .val (.ref b1), .val (.ref b3), .val (.int Rv175.2), .val (.int (1 : Int32))] [(.int (2 : Int32)), (.ref b3), (.int (Sv173.1.getD ((2 : Int32)).toNatClampNeg 0))])) (fun t k => ?_) ?_
              · show Steps p.tables e below (T191.setTop (mkF m 228 #[.val (.int p1), .val (.int p2), .val (.int p3), .val (.int p4), .val (.int p5), .val (.int p6), .val (.int cc), .val (.int xx), .val (.int yy), .val (.int zz), .val (.int uu), .val (.int tt), .val (.ref b1), .val (.ref b3), .val (.int Rv175.2), .val (.int (1 : Int32))] [(.int (Sv173.1.getD ((2 : Int32)).toNatClampNeg 0))])) t
                refine XS.aload X191.here hx rfl (hb hby at_228) rfl rfl ?_
                show Steps p.tables e below (T191.setTop (mkF m 230 #[.val (.int p1), .val (.int p2), .val (.int p3), .val (.int p4), .val (.int p5), .val (.int p6), .val (.int cc), .val (.int xx), .val (.int yy), .val (.int zz), .val (.int uu), .val (.int tt), .val (.ref b1), .val (.ref b3), .val (.int Rv175.2), .val (.int (1 : Int32))] [(.ref b3), (.int (Sv173.1.getD ((2 : Int32)).toNatClampNeg 0))])) t
                refine XS.iconst X191.here hx rfl (hb hby at_230) ?_
                exact k
              obtain ⟨⟨cl192, Ar192, q192, S192, Nn192, H192, G192⟩, Le192⟩ := id Vc175
              have hin192 : ¬ ((2 : Int32) < 0 ∨ cl192.slots.size ≤ ((2 : Int32)).toNatClampNeg) := inb_of S192 ⟨by decide, by decide⟩
              have hat192 : cl192.slots[((2 : Int32)).toNatClampNeg]? = some (.int (Rv175.1.getD ((2 : Int32)).toNatClampNeg 0)) := Has.at H192 hin192 (own_gI _ _)
              refine own_via (S' := T191.setTop (mkF m 232 #[.val (.int p1), .val (.int p2), .val (.int p3), .val (.int p4), .val (.int p5), .val (.int p6), .val (.int cc), .val (.int xx), .val (.int yy), .val (.int zz), .val (.int uu), .val (.int tt), .val (.ref b1), .val (.ref b3), .val (.int Rv175.2), .val (.int (1 : Int32))] [(.int (Rv175.1.getD ((2 : Int32)).toNatClampNeg 0)), (.int (Sv173.1.getD ((2 : Int32)).toNatClampNeg 0))])) (fun t kz_ => X191.iaload hx (j := (2 : Int32)) (v := (.int (Rv175.1.getD ((2 : Int32)).toNatClampNeg 0))) (by rw [hh191]; exact Ar192.1) (State.isArrayOf_alike hZ.alike Ar192.2.1) Ar192.2.2 hin192 hat192 (g := (mkF m 231 #[.val (.int p1), .val (.int p2), .val (.int p3), .val (.int p4), .val (.int p5), .val (.int p6), .val (.int cc), .val (.int xx), .val (.int yy), .val (.int zz), .val (.int uu), .val (.int tt), .val (.ref b1), .val (.ref b3), .val (.int Rv175.2), .val (.int (1 : Int32))] [(.int (2 : Int32)), (.ref b3), (.int (Sv173.1.getD ((2 : Int32)).toNatClampNeg 0))])) rfl rfl (hb hby at_231) _ kz_) ?_
              refine own_via (S' := T191.setTop (mkF m 238 #[.val (.int p1), .val (.int p2), .val (.int p3), .val (.int p4), .val (.int p5), .val (.int p6), .val (.int cc), .val (.int xx), .val (.int yy), .val (.int zz), .val (.int uu), .val (.int tt), .val (.ref b1), .val (.ref b3), .val (.int Rv175.2), .val (.int (1 : Int32))] [])) (fun t k => XS.icmpYes (g := (mkF m 232 #[.val (.int p1), .val (.int p2), .val (.int p3), .val (.int p4), .val (.int p5), .val (.int p6), .val (.int cc), .val (.int xx), .val (.int yy), .val (.int zz), .val (.int uu), .val (.int tt), .val (.ref b1), .val (.ref b3), .val (.int Rv175.2), .val (.int (1 : Int32))] [(.int (Rv175.1.getD ((2 : Int32)).toNatClampNeg 0)), (.int (Sv173.1.getD ((2 : Int32)).toNatClampNeg 0))])) X191.here hx rfl (pc0 := 232) (pc' := 238) rfl (hb hby at_232) rfl (teq (ed157 hc219_190)).1 (by decide) (by decide) k) ?_
              refine own_via (S' := T191.setTop (mkF m 240 #[.val (.int p1), .val (.int p2), .val (.int p3), .val (.int p4), .val (.int p5), .val (.int p6), .val (.int cc), .val (.int xx), .val (.int yy), .val (.int zz), .val (.int uu), .val (.int tt), .val (.ref b1), .val (.ref b3), .val (.int Rv175.2), .val (.int (1 : Int32))] [(.int (1 : Int32))])) (fun t k => ?_) ?_
              · show Steps p.tables e below (T191.setTop (mkF m 238 #[.val (.int p1), .val (.int p2), .val (.int p3), .val (.int p4), .val (.int p5), .val (.int p6), .val (.int cc), .val (.int xx), .val (.int yy), .val (.int zz), .val (.int uu), .val (.int tt), .val (.ref b1), .val (.ref b3), .val (.int Rv175.2), .val (.int (1 : Int32))] [])) t
                refine XS.iload X191.here hx rfl (hb hby at_238) rfl ?_
                exact k
              exact own_end (h := T175.heap) X191 (v := some (.int (1 : Int32))) Bd.notSynchronized (fun h => by rw [Bd.returns] at h; cases h) (fun fs hr => retN X191 hx (t := .boolean) Bd.returns (by simp) (hb hby at_240) hr) hh191 ⟨rfl, N191⟩ (by decide) (by decide)
            · refine own_via (S' := T187.setTop (mkF m 238 #[.val (.int p1), .val (.int p2), .val (.int p3), .val (.int p4), .val (.int p5), .val (.int p6), .val (.int cc), .val (.int xx), .val (.int yy), .val (.int zz), .val (.int uu), .val (.int tt), .val (.ref b1), .val (.ref b3), .val (.int Rv175.2), .val (.int (1 : Int32))] [])) (fun t k => XS.icmpYes (g := (mkF m 219 #[.val (.int p1), .val (.int p2), .val (.int p3), .val (.int p4), .val (.int p5), .val (.int p6), .val (.int cc), .val (.int xx), .val (.int yy), .val (.int zz), .val (.int uu), .val (.int tt), .val (.ref b1), .val (.ref b3), .val (.int Rv175.2), .val (.int (1 : Int32))] [(.int (2 : Int32)), (.int Rv175.2)])) X187.here hx rfl (pc0 := 219) (pc' := 238) rfl (hb hby at_219) rfl (flt hc219_190).2.2.2 (by decide) (by decide) k) ?_
              refine own_via (S' := T187.setTop (mkF m 240 #[.val (.int p1), .val (.int p2), .val (.int p3), .val (.int p4), .val (.int p5), .val (.int p6), .val (.int cc), .val (.int xx), .val (.int yy), .val (.int zz), .val (.int uu), .val (.int tt), .val (.ref b1), .val (.ref b3), .val (.int Rv175.2), .val (.int (1 : Int32))] [(.int (1 : Int32))])) (fun t k => ?_) ?_
              · show Steps p.tables e below (T187.setTop (mkF m 238 #[.val (.int p1), .val (.int p2), .val (.int p3), .val (.int p4), .val (.int p5), .val (.int p6), .val (.int cc), .val (.int xx), .val (.int yy), .val (.int zz), .val (.int uu), .val (.int tt), .val (.ref b1), .val (.ref b3), .val (.int Rv175.2), .val (.int (1 : Int32))] [])) t
                refine XS.iload X187.here hx rfl (hb hby at_238) rfl ?_
                exact k
              exact own_end (h := T175.heap) X187 (v := some (.int (1 : Int32))) Bd.notSynchronized (fun h => by rw [Bd.returns] at h; cases h) (fun fs hr => retN X187 hx (t := .boolean) Bd.returns (by simp) (hb hby at_240) hr) hh187 ⟨rfl, N187⟩ (by decide) (by decide)
          · refine own_via (S' := T183.setTop (mkF m 216 #[.val (.int p1), .val (.int p2), .val (.int p3), .val (.int p4), .val (.int p5), .val (.int p6), .val (.int cc), .val (.int xx), .val (.int yy), .val (.int zz), .val (.int uu), .val (.int tt), .val (.ref b1), .val (.ref b3), .val (.int Rv175.2), .val (.int (1 : Int32))] [])) (fun t k => XS.icmpYes (g := (mkF m 197 #[.val (.int p1), .val (.int p2), .val (.int p3), .val (.int p4), .val (.int p5), .val (.int p6), .val (.int cc), .val (.int xx), .val (.int yy), .val (.int zz), .val (.int uu), .val (.int tt), .val (.ref b1), .val (.ref b3), .val (.int Rv175.2), .val (.int (1 : Int32))] [(.int (1 : Int32)), (.int Rv175.2)])) X183.here hx rfl (pc0 := 197) (pc' := 216) rfl (hb hby at_197) rfl (flt hc197_186).2.2.2 (by decide) (by decide) k) ?_
            refine own_via (S' := T183.setTop (mkF m 219 #[.val (.int p1), .val (.int p2), .val (.int p3), .val (.int p4), .val (.int p5), .val (.int p6), .val (.int cc), .val (.int xx), .val (.int yy), .val (.int zz), .val (.int uu), .val (.int tt), .val (.ref b1), .val (.ref b3), .val (.int Rv175.2), .val (.int (1 : Int32))] [(.int (2 : Int32)), (.int Rv175.2)])) (fun t k => ?_) ?_
            · show Steps p.tables e below (T183.setTop (mkF m 216 #[.val (.int p1), .val (.int p2), .val (.int p3), .val (.int p4), .val (.int p5), .val (.int p6), .val (.int cc), .val (.int xx), .val (.int yy), .val (.int zz), .val (.int uu), .val (.int tt), .val (.ref b1), .val (.ref b3), .val (.int Rv175.2), .val (.int (1 : Int32))] [])) t
              refine XS.iload X183.here hx rfl (hb hby at_216) rfl ?_
              show Steps p.tables e below (T183.setTop (mkF m 218 #[.val (.int p1), .val (.int p2), .val (.int p3), .val (.int p4), .val (.int p5), .val (.int p6), .val (.int cc), .val (.int xx), .val (.int yy), .val (.int zz), .val (.int uu), .val (.int tt), .val (.ref b1), .val (.ref b3), .val (.int Rv175.2), .val (.int (1 : Int32))] [(.int Rv175.2)])) t
              refine XS.iconst X183.here hx rfl (hb hby at_218) ?_
              exact k
            refine own_via (S' := T183.setTop (mkF m 238 #[.val (.int p1), .val (.int p2), .val (.int p3), .val (.int p4), .val (.int p5), .val (.int p6), .val (.int cc), .val (.int xx), .val (.int yy), .val (.int zz), .val (.int uu), .val (.int tt), .val (.ref b1), .val (.ref b3), .val (.int Rv175.2), .val (.int (1 : Int32))] [])) (fun t k => XS.icmpYes (g := (mkF m 219 #[.val (.int p1), .val (.int p2), .val (.int p3), .val (.int p4), .val (.int p5), .val (.int p6), .val (.int cc), .val (.int xx), .val (.int yy), .val (.int zz), .val (.int uu), .val (.int tt), .val (.ref b1), .val (.ref b3), .val (.int Rv175.2), .val (.int (1 : Int32))] [(.int (2 : Int32)), (.int Rv175.2)])) X183.here hx rfl (pc0 := 219) (pc' := 238) rfl (hb hby at_219) rfl (flt (own_n12 hc197_186)).2.2.2 (by decide) (by decide) k) ?_
            refine own_via (S' := T183.setTop (mkF m 240 #[.val (.int p1), .val (.int p2), .val (.int p3), .val (.int p4), .val (.int p5), .val (.int p6), .val (.int cc), .val (.int xx), .val (.int yy), .val (.int zz), .val (.int uu), .val (.int tt), .val (.ref b1), .val (.ref b3), .val (.int Rv175.2), .val (.int (1 : Int32))] [(.int (1 : Int32))])) (fun t k => ?_) ?_
            · show Steps p.tables e below (T183.setTop (mkF m 238 #[.val (.int p1), .val (.int p2), .val (.int p3), .val (.int p4), .val (.int p5), .val (.int p6), .val (.int cc), .val (.int xx), .val (.int yy), .val (.int zz), .val (.int uu), .val (.int tt), .val (.ref b1), .val (.ref b3), .val (.int Rv175.2), .val (.int (1 : Int32))] [])) t
              refine XS.iload X183.here hx rfl (hb hby at_238) rfl ?_
              exact k
            exact own_end (h := T175.heap) X183 (v := some (.int (1 : Int32))) Bd.notSynchronized (fun h => by rw [Bd.returns] at h; cases h) (fun fs hr => retN X183 hx (t := .boolean) Bd.returns (by simp) (hb hby at_240) hr) hh183 ⟨rfl, N183⟩ (by decide) (by decide)
        · refine own_via (S' := T177.setTop (mkF m 194 #[.val (.int p1), .val (.int p2), .val (.int p3), .val (.int p4), .val (.int p5), .val (.int p6), .val (.int cc), .val (.int xx), .val (.int yy), .val (.int zz), .val (.int uu), .val (.int tt), .val (.ref b1), .val (.ref b3), .val (.int Rv175.2), .val (.int (1 : Int32))] [])) (fun t k => XS.ifYes (g := (mkF m 175 #[.val (.int p1), .val (.int p2), .val (.int p3), .val (.int p4), .val (.int p5), .val (.int p6), .val (.int cc), .val (.int xx), .val (.int yy), .val (.int zz), .val (.int uu), .val (.int tt), .val (.ref b1), .val (.ref b3), .val (.int Rv175.2), .val (.int (1 : Int32))] [(.int Rv175.2)])) X177.here hx rfl (pc0 := 175) (pc' := 194) rfl (hb hby at_175) rfl ((if0 _ _).trans (flt hc175_180).2.2.2) (by decide) (by decide) k) ?_
          refine own_via (S' := T177.setTop (mkF m 197 #[.val (.int p1), .val (.int p2), .val (.int p3), .val (.int p4), .val (.int p5), .val (.int p6), .val (.int cc), .val (.int xx), .val (.int yy), .val (.int zz), .val (.int uu), .val (.int tt), .val (.ref b1), .val (.ref b3), .val (.int Rv175.2), .val (.int (1 : Int32))] [(.int (1 : Int32)), (.int Rv175.2)])) (fun t k => ?_) ?_
          · show Steps p.tables e below (T177.setTop (mkF m 194 #[.val (.int p1), .val (.int p2), .val (.int p3), .val (.int p4), .val (.int p5), .val (.int p6), .val (.int cc), .val (.int xx), .val (.int yy), .val (.int zz), .val (.int uu), .val (.int tt), .val (.ref b1), .val (.ref b3), .val (.int Rv175.2), .val (.int (1 : Int32))] [])) t
            refine XS.iload X177.here hx rfl (hb hby at_194) rfl ?_
            show Steps p.tables e below (T177.setTop (mkF m 196 #[.val (.int p1), .val (.int p2), .val (.int p3), .val (.int p4), .val (.int p5), .val (.int p6), .val (.int cc), .val (.int xx), .val (.int yy), .val (.int zz), .val (.int uu), .val (.int tt), .val (.ref b1), .val (.ref b3), .val (.int Rv175.2), .val (.int (1 : Int32))] [(.int Rv175.2)])) t
            refine XS.iconst X177.here hx rfl (hb hby at_196) ?_
            exact k
          refine own_via (S' := T177.setTop (mkF m 216 #[.val (.int p1), .val (.int p2), .val (.int p3), .val (.int p4), .val (.int p5), .val (.int p6), .val (.int cc), .val (.int xx), .val (.int yy), .val (.int zz), .val (.int uu), .val (.int tt), .val (.ref b1), .val (.ref b3), .val (.int Rv175.2), .val (.int (1 : Int32))] [])) (fun t k => XS.icmpYes (g := (mkF m 197 #[.val (.int p1), .val (.int p2), .val (.int p3), .val (.int p4), .val (.int p5), .val (.int p6), .val (.int cc), .val (.int xx), .val (.int yy), .val (.int zz), .val (.int uu), .val (.int tt), .val (.ref b1), .val (.ref b3), .val (.int Rv175.2), .val (.int (1 : Int32))] [(.int (1 : Int32)), (.int Rv175.2)])) X177.here hx rfl (pc0 := 197) (pc' := 216) rfl (hb hby at_197) rfl (flt (own_n01 hc175_180)).2.2.2 (by decide) (by decide) k) ?_
          refine own_via (S' := T177.setTop (mkF m 219 #[.val (.int p1), .val (.int p2), .val (.int p3), .val (.int p4), .val (.int p5), .val (.int p6), .val (.int cc), .val (.int xx), .val (.int yy), .val (.int zz), .val (.int uu), .val (.int tt), .val (.ref b1), .val (.ref b3), .val (.int Rv175.2), .val (.int (1 : Int32))] [(.int (2 : Int32)), (.int Rv175.2)])) (fun t k => ?_) ?_
          · show Steps p.tables e below (T177.setTop (mkF m 216 #[.val (.int p1), .val (.int p2), .val (.int p3), .val (.int p4), .val (.int p5), .val (.int p6), .val (.int cc), .val (.int xx), .val (.int yy), .val (.int zz), .val (.int uu), .val (.int tt), .val (.ref b1), .val (.ref b3), .val (.int Rv175.2), .val (.int (1 : Int32))] [])) t
            refine XS.iload X177.here hx rfl (hb hby at_216) rfl ?_
            show Steps p.tables e below (T177.setTop (mkF m 218 #[.val (.int p1), .val (.int p2), .val (.int p3), .val (.int p4), .val (.int p5), .val (.int p6), .val (.int cc), .val (.int xx), .val (.int yy), .val (.int zz), .val (.int uu), .val (.int tt), .val (.ref b1), .val (.ref b3), .val (.int Rv175.2), .val (.int (1 : Int32))] [(.int Rv175.2)])) t
            refine XS.iconst X177.here hx rfl (hb hby at_218) ?_
            exact k
          refine own_via (S' := T177.setTop (mkF m 238 #[.val (.int p1), .val (.int p2), .val (.int p3), .val (.int p4), .val (.int p5), .val (.int p6), .val (.int cc), .val (.int xx), .val (.int yy), .val (.int zz), .val (.int uu), .val (.int tt), .val (.ref b1), .val (.ref b3), .val (.int Rv175.2), .val (.int (1 : Int32))] [])) (fun t k => XS.icmpYes (g := (mkF m 219 #[.val (.int p1), .val (.int p2), .val (.int p3), .val (.int p4), .val (.int p5), .val (.int p6), .val (.int cc), .val (.int xx), .val (.int yy), .val (.int zz), .val (.int uu), .val (.int tt), .val (.ref b1), .val (.ref b3), .val (.int Rv175.2), .val (.int (1 : Int32))] [(.int (2 : Int32)), (.int Rv175.2)])) X177.here hx rfl (pc0 := 219) (pc' := 238) rfl (hb hby at_219) rfl (flt (own_n02 hc175_180)).2.2.2 (by decide) (by decide) k) ?_
          refine own_via (S' := T177.setTop (mkF m 240 #[.val (.int p1), .val (.int p2), .val (.int p3), .val (.int p4), .val (.int p5), .val (.int p6), .val (.int cc), .val (.int xx), .val (.int yy), .val (.int zz), .val (.int uu), .val (.int tt), .val (.ref b1), .val (.ref b3), .val (.int Rv175.2), .val (.int (1 : Int32))] [(.int (1 : Int32))])) (fun t k => ?_) ?_
          · show Steps p.tables e below (T177.setTop (mkF m 238 #[.val (.int p1), .val (.int p2), .val (.int p3), .val (.int p4), .val (.int p5), .val (.int p6), .val (.int cc), .val (.int xx), .val (.int yy), .val (.int zz), .val (.int uu), .val (.int tt), .val (.ref b1), .val (.ref b3), .val (.int Rv175.2), .val (.int (1 : Int32))] [])) t
            refine XS.iload X177.here hx rfl (hb hby at_238) rfl ?_
            exact k
          exact own_end (h := T175.heap) X177 (v := some (.int (1 : Int32))) Bd.notSynchronized (fun h => by rw [Bd.returns] at h; cases h) (fun fs hr => retN X177 hx (t := .boolean) Bd.returns (by simp) (hb hby at_240) hr) hh177 ⟨rfl, N177⟩ (by decide) (by decide)
set_option maxRecDepth 65536 in
set_option maxHeartbeats 40000000 in
theorem comes_1 {Post : Tables → Env → Array Value → State → Outcome → State → Prop} (hpost : ∀ tb e args s v u, (limb_1_1.after args s (.returned v) u = true ∧ limb_1_2.after args s (.returned v) u = true ∧ True) → FrameEnd s (.returned v) u (Jvm.fieldLocs frame_1_writes args s ++ Jvm.arrayLocs frame_1_arrays args s ++ Jvm.staticLocs frame_1_statics s) 16 128 → Post tb e args s (.returned v) u) :
    ArmFor flags0 classFile x code maxLocals ret World_1 tables_1 room_1 Calls_1 rest_1 Pre_1 Post := by
  intro l hfl _ _ p e ha hc hk s m args below hf hA hF happ hP
  obtain ⟨hcalls, hrest, hpre⟩ := hP
  obtain ⟨-, -, -, hnamed, -, -, -, hat⟩ := (Spec.applies_iff hf).mp happ
  obtain ⟨hg, hn⟩ := and_e (Cond.before_iff.mp (show (Jvm.Cond.and given_1 narrow_1).before args s = true from hpre))
  obtain ⟨hcount, hg0⟩ := and_e hg
  obtain ⟨ga0, hg1⟩ := and_e hg0
  obtain ⟨ga1, hg2⟩ := and_e hg1
  obtain ⟨ga2, hg3⟩ := and_e hg2
  obtain ⟨ga3, hg4⟩ := and_e hg3
  obtain ⟨ga4, hg5⟩ := and_e hg4
  have ga5 := hg5
  obtain ⟨w0, w1, w2, w3, w4, w5, rfl⟩ : ∃ w0 w1 w2 w3 w4 w5 : Value, args = #[w0, w1, w2, w3, w4, w5] := by
    have hs : args.size = 6 := by simpa [Cond.value, given_1] using hcount
    obtain ⟨L⟩ := args
    match L, hs with
    | [w0, w1, w2, w3, w4, w5], _ => exact ⟨w0, w1, w2, w3, w4, w5, rfl⟩
  have hw := fun d (hd : d ∈ tables_1) => atoms_spec (ws := Jvm.Cond.code x code maxLocals ret :: tables_1) hat d (List.mem_cons_of_mem _ hd)
  obtain ⟨i0, ei0⟩ := is_v ga0
  obtain rfl : w0 = (.int i0) := Option.some.inj ei0
  obtain ⟨i1, ei1⟩ := is_v ga1
  obtain rfl : w1 = (.int i1) := Option.some.inj ei1
  obtain ⟨i2, ei2⟩ := is_v ga2
  obtain rfl : w2 = (.int i2) := Option.some.inj ei2
  obtain ⟨i3, ei3⟩ := is_v ga3
  obtain rfl : w3 = (.int i3) := Option.some.inj ei3
  obtain ⟨i4, ei4⟩ := is_v ga4
  obtain rfl : w4 = (.int i4) := Option.some.inj ei4
  obtain ⟨i5, ei5⟩ := is_v ga5
  obtain rfl : w5 = (.int i5) := Option.some.inj ei5
  obtain ⟨n, o, h1, h2, h3, _, L, rfl, ⟨rfl, N⟩, hq⟩ := rm0 l s _ hw tables_1 i0 i1 i2 i3 i4 i5  s.heap s.heap.size (Nat.le_refl _)  p e ha hc hk s m _ below hf ((Spec.applies_iff_loose hf).mp happ).1 ⟨rfl, State.Warmed39.refl s, rfl⟩ trivial
  refine ⟨n, _, h1, h2, h3, hpost _ _ _ _ _ _ ⟨Cond.after_iff.mpr rfl, Cond.after_iff.mpr (eq_i res_at (Term.int_eval (1)) rfl), trivial⟩ ⟨hq.1, hq.2.1, (hq.2.2.sift fun y hy => Or.inr (N y hy)).mono (by decide) (by decide)⟩⟩
theorem main_1_1 : Claimed_1_1 := comes_1 fun _ _ _ _ _ _ h hF => ⟨h.1, hF⟩
theorem main_1_2 : Claimed_1_2 := comes_1 fun _ _ _ _ _ _ h hF => ⟨h.2.1, hF⟩
end Jvm.Pilot.@@N@@
namespace Jvm.Pilot.@@N@@
open Jvm Jvm.ClassFile Sem Op Lib Jvm.Free Jvm.Stand Jvm.Pilot.@@N@@.Jvm.D
/-! MADE BY PROGRAM (witnessworld.py) out of the Statement's table words and the real class files: 10 classes; the members and pool entries that the words name. The judged class is class 1, her method 4. -/
namespace start1
open Jvm.ClassFile
def u (s : String) : CpInfo := .utf8 (stringToUtf16 s)
/-- a pool by its gaps: so many unusable entries, then the entry; so many at the end -/
def gap : Nat → List CpInfo → List CpInfo
  | 0, r => r
  | n + 1, r => .unusable :: gap n r
def poolList (es : List (Nat × CpInfo)) (last : Nat) : List CpInfo := es.foldr (fun e r => gap e.1 (e.2 :: r)) (gap last [])
def pool (es : List (Nat × CpInfo)) (last : Nat) : Array CpInfo := ⟨poolList es last⟩
def fileOf (pool : Array CpInfo) (this : Nat) (attrs : Array Attribute := #[]) (ms : Array MethodInfo := #[]) (fl : Nat := 33) (sup : Nat := 0) (ifs : Array Nat := #[]) (fds : Array FieldInfo := #[]) : ClassFile where
  minorVersion := 0
  majorVersion := 65
  constantPool := pool
  accessFlags := fl
  thisClass := this
  superClass := sup
  interfaces := ifs
  fields := fds
  methods := ms
  attributes := attrs
def plain (name : String) (sup : Option ClassId) : Class where
  name := name
  kind := .ordinary
  loader := none
  accessFlags := 33
  super := sup
  interfaces := #[]
  cf := none
  fields := #[]
  methods := #[]
  instanceTypes := #[]
  staticTypes := #[]
  resolved := #[]
  callSites := []
  init := .initialized
  statics := none
  mirror := none

def pool0 : Array CpInfo := pool [(5, u "<init>"), (0, u "()V"), (1, .class_ 10), (1, u "java/lang/Object")] 113

def k0c0 : Code := { maxStack := 0, maxLocals := 1, code := object_method_1_code, exceptionTable := #[], attributes := #[] }
def k0m0 : Method := { name := "<init>", desc := "()V", sig := { parameters := [], returnType := none }, accessFlags := 1, code := some k0c0 }
/-- java/lang/Object -/
def k0 : Class := { plain "java/lang/Object" none with
  accessFlags := 33
  interfaces := #[]
  cf := some (fileOf pool0 8 #[] #[{ accessFlags := 1, nameIndex := 5, descriptorIndex := 6, attributes := #[] }] 33 0 #[] #[])
  fields := #[]
  methods := #[k0m0]
  instanceTypes := #[]
  staticTypes := #[]
  resolved := Array.replicate 124 none
  statics := none }

def pool1 : Array CpInfo := pool [(2, .class_ 4), (1, u "java/lang/Object"), (0, u "<init>"), (0, u "()V"), (0, .methodref 8 9), (0, .class_ 10), (0, .nameAndType 11 12), (0, u "com/example/vendace/vendace/localrecoding/DenseSetRemovePinLaw"), (0, u "has"), (0, u "([III)Z"), (0, .class_ 14), (0, u "com/example/vendace/vendace/localrecoding/DenseSet"), (0, .methodref 13 16), (0, .nameAndType 5 17), (0, u "(I)V"), (0, .methodref 13 19), (0, .nameAndType 20 17), (0, u "add"), (0, .methodref 8 22), (0, .nameAndType 23 24), (0, u "refAdd"), (0, u "([III)I"), (0, .methodref 13 26), (0, .nameAndType 27 17), (0, u "remove"), (0, .methodref 8 29), (0, .nameAndType 30 24), (0, u "refRemove"), (0, .methodref 13 32), (0, .nameAndType 33 34), (0, u "size"), (0, u "()I"), (0, .methodref 13 36), (0, .nameAndType 37 38), (0, u "member"), (0, u "(I)I"), (3, u "law"), (0, u "(IIIIII)Z")] 4

def k1m0 : Method := { name := "<init>", desc := "()V", sig := { parameters := [], returnType := none }, accessFlags := 2, code := none }
def k1c1 : Code := { maxStack := 2, maxLocals := 3, code := method_2_code, exceptionTable := #[], attributes := #[] }
def k1m1 : Method := { name := "has", desc := "([III)Z", sig := { parameters := [(.array .int), .int, .int], returnType := some .boolean }, accessFlags := 10, code := some k1c1 }
def k1c2 : Code := { maxStack := 3, maxLocals := 3, code := method_3_code, exceptionTable := #[], attributes := #[] }
def k1m2 : Method := { name := "refAdd", desc := "([III)I", sig := { parameters := [(.array .int), .int, .int], returnType := some .int }, accessFlags := 10, code := some k1c2 }
def k1c3 : Code := { maxStack := 4, maxLocals := 5, code := method_4_code, exceptionTable := #[], attributes := #[] }
def k1m3 : Method := { name := "refRemove", desc := "([III)I", sig := { parameters := [(.array .int), .int, .int], returnType := some .int }, accessFlags := 10, code := some k1c3 }
def k1c4 : Code := { maxStack := 3, maxLocals := 16, code := code, exceptionTable := #[], attributes := #[] }
def k1m4 : Method := { name := "law", desc := "(IIIIII)Z", sig := { parameters := [.int, .int, .int, .int, .int, .int], returnType := some .boolean }, accessFlags := 9, code := some k1c4 }
/-- com/example/vendace/vendace/localrecoding/DenseSetRemovePinLaw -/
def k1 : Class := { plain "com/example/vendace/vendace/localrecoding/DenseSetRemovePinLaw" (some 0) with
  accessFlags := 49
  interfaces := #[]
  cf := some (fileOf pool1 8 #[] #[{ accessFlags := 2, nameIndex := 5, descriptorIndex := 6, attributes := #[] }, { accessFlags := 10, nameIndex := 11, descriptorIndex := 12, attributes := #[] }, { accessFlags := 10, nameIndex := 23, descriptorIndex := 24, attributes := #[] }, { accessFlags := 10, nameIndex := 30, descriptorIndex := 24, attributes := #[] }, { accessFlags := 9, nameIndex := 42, descriptorIndex := 43, attributes := #[] }] 49 2 #[] #[])
  fields := #[]
  methods := #[k1m0, k1m1, k1m2, k1m3, k1m4]
  instanceTypes := #[]
  staticTypes := #[]
  resolved := Array.replicate 48 none
  statics := none }

def pool2 : Array CpInfo := pool [(1, .methodref 2 3), (0, .class_ 4), (0, .nameAndType 5 6), (0, u "java/lang/Object"), (0, u "<init>"), (0, u "()V"), (0, .fieldref 8 9), (0, .class_ 10), (0, .nameAndType 11 12), (0, u "com/example/vendace/vendace/localrecoding/DenseSet"), (0, u "members"), (0, u "[I"), (0, .fieldref 8 14), (0, .nameAndType 15 12), (0, u "places"), (0, .methodref 17 18), (0, .class_ 19), (0, .nameAndType 20 21), (0, u "java/util/Arrays"), (0, u "fill"), (0, u "([II)V"), (0, .fieldref 8 23), (0, .nameAndType 24 25), (0, u "size"), (0, u "I"), (0, u "(I)V"), (2, u "()I"), (0, u "member"), (0, u "(I)I"), (0, u "add"), (1, u "remove")] 4

def k2c0 : Code := { maxStack := 2, maxLocals := 2, code := prog_30_method_1_code, exceptionTable := #[], attributes := #[] }
def k2m0 : Method := { name := "<init>", desc := "(I)V", sig := { parameters := [.int], returnType := none }, accessFlags := 0, code := some k2c0 }
def k2c1 : Code := { maxStack := 1, maxLocals := 1, code := prog_30_method_2_code, exceptionTable := #[], attributes := #[] }
def k2m1 : Method := { name := "size", desc := "()I", sig := { parameters := [], returnType := some .int }, accessFlags := 0, code := some k2c1 }
def k2c2 : Code := { maxStack := 2, maxLocals := 2, code := prog_30_method_3_code, exceptionTable := #[], attributes := #[] }
def k2m2 : Method := { name := "member", desc := "(I)I", sig := { parameters := [.int], returnType := some .int }, accessFlags := 0, code := some k2c2 }
def k2c3 : Code := { maxStack := 5, maxLocals := 2, code := prog_30_method_4_code, exceptionTable := #[], attributes := #[] }
def k2m3 : Method := { name := "add", desc := "(I)V", sig := { parameters := [.int], returnType := none }, accessFlags := 0, code := some k2c3 }
def k2c4 : Code := { maxStack := 4, maxLocals := 4, code := prog_30_method_5_code, exceptionTable := #[], attributes := #[] }
def k2m4 : Method := { name := "remove", desc := "(I)V", sig := { parameters := [.int], returnType := none }, accessFlags := 0, code := some k2c4 }
/-- com/example/vendace/vendace/localrecoding/DenseSet -/
def k2 : Class := { plain "com/example/vendace/vendace/localrecoding/DenseSet" (some 0) with
  accessFlags := 48
  interfaces := #[]
  cf := some (fileOf pool2 8 #[] #[{ accessFlags := 0, nameIndex := 5, descriptorIndex := 26, attributes := #[] }, { accessFlags := 0, nameIndex := 24, descriptorIndex := 29, attributes := #[] }, { accessFlags := 0, nameIndex := 30, descriptorIndex := 31, attributes := #[] }, { accessFlags := 0, nameIndex := 32, descriptorIndex := 26, attributes := #[] }, { accessFlags := 0, nameIndex := 34, descriptorIndex := 26, attributes := #[] }] 48 2 #[] #[{ accessFlags := 18, nameIndex := 11, descriptorIndex := 12, attributes := #[] }, { accessFlags := 18, nameIndex := 15, descriptorIndex := 12, attributes := #[] }, { accessFlags := 2, nameIndex := 24, descriptorIndex := 25, attributes := #[] }])
  fields := #[{ name := "members", type := (.array .int), accessFlags := 18, slot := 0, constantValue := 0 }, { name := "places", type := (.array .int), accessFlags := 18, slot := 1, constantValue := 0 }, { name := "size", type := .int, accessFlags := 2, slot := 2, constantValue := 0 }]
  methods := #[k2m0, k2m1, k2m2, k2m3, k2m4]
  instanceTypes := #[(.array .int), (.array .int), .int]
  staticTypes := #[]
  resolved := Array.replicate 39 none
  statics := none }

def pool3 : Array CpInfo := pool [(2, .class_ 4), (1, u "java/lang/Object"), (0, u "<init>"), (0, u "()V"), (7, .class_ 16), (1, u "java/util/Arrays"), (57, .class_ 76), (1, u "java/util/Arrays$NaturalOrder"), (36, .class_ 115), (1, u "java/util/Arrays$LegacyMergeSort"), (1, u "Z"), (257, .class_ 376), (0, u "java/util/Arrays$ArrayList"), (68, u "$assertionsDisabled"), (269, u "MIN_ARRAY_SORT_GRAN"), (0, u "I"), (2, u "INSERTIONSORT_THRESHOLD"), (120, u "fill"), (4, u "([II)V"), (129, .class_ 976), (0, u "java/util/Arrays$ArrayItr")] 52

def k3m0 : Method := { name := "<init>", desc := "()V", sig := { parameters := [], returnType := none }, accessFlags := 2, code := none }
def k3c1 : Code := { maxStack := 3, maxLocals := 4, code := jdk_65_method_103_code, exceptionTable := #[], attributes := #[] }
def k3m1 : Method := { name := "fill", desc := "([II)V", sig := { parameters := [(.array .int), .int], returnType := none }, accessFlags := 9, code := some k3c1 }
/-- java/util/Arrays -/
def k3 : Class := { plain "java/util/Arrays" (some 0) with
  accessFlags := 49
  interfaces := #[]
  cf := some (fileOf pool3 14 #[.nestMembers #[975, 375, 113, 74]] #[{ accessFlags := 2, nameIndex := 5, descriptorIndex := 6, attributes := #[] }, { accessFlags := 9, nameIndex := 840, descriptorIndex := 845, attributes := #[] }] 49 2 #[] #[{ accessFlags := 26, nameIndex := 715, descriptorIndex := 716, attributes := #[] }, { accessFlags := 26, nameIndex := 719, descriptorIndex := 716, attributes := #[] }, { accessFlags := 4120, nameIndex := 445, descriptorIndex := 117, attributes := #[] }])
  fields := #[{ name := "MIN_ARRAY_SORT_GRAN", type := .int, accessFlags := 26, slot := 0, constantValue := 0 }, { name := "INSERTIONSORT_THRESHOLD", type := .int, accessFlags := 26, slot := 1, constantValue := 0 }, { name := "$assertionsDisabled", type := .boolean, accessFlags := 4120, slot := 2, constantValue := 0 }]
  methods := #[k3m0, k3m1]
  instanceTypes := #[]
  staticTypes := #[.int, .int, .boolean]
  resolved := Array.replicate 1029 none
  statics := none }

def pool4 : Array CpInfo := pool [(1, u "java/lang/Cloneable"), (0, .class_ 1), (0, u "java/lang/Object"), (0, .class_ 3)] 3

/-- java/lang/Cloneable -/
def k4 : Class := { plain "java/lang/Cloneable" (some 0) with
  accessFlags := 1537
  interfaces := #[]
  cf := some (fileOf pool4 2 #[] #[] 1537 4 #[] #[])
  fields := #[]
  methods := #[]
  instanceTypes := #[]
  staticTypes := #[]
  resolved := Array.replicate 8 none
  statics := none }

def pool5 : Array CpInfo := pool [(1, u "java/io/Serializable"), (0, .class_ 1), (0, u "java/lang/Object"), (0, .class_ 3)] 3

/-- java/io/Serializable -/
def k5 : Class := { plain "java/io/Serializable" (some 0) with
  accessFlags := 1537
  interfaces := #[]
  cf := some (fileOf pool5 2 #[] #[] 1537 4 #[] #[])
  fields := #[]
  methods := #[]
  instanceTypes := #[]
  staticTypes := #[]
  resolved := Array.replicate 8 none
  statics := none }

/-- the primitive byte -/
def k6 : Class := { plain "byte" none with kind := .primitive 'B', accessFlags := 0x411 }
/-- [B -/
def k7 : Class := { plain "[B" (some 0) with kind := .array 6 .byte, interfaces := #[4, 5], accessFlags := 1041 }

/-- the primitive int -/
def k8 : Class := { plain "int" none with kind := .primitive 'I', accessFlags := 0x411 }
/-- [I -/
def k9 : Class := { plain "[I" (some 0) with kind := .array 8 .int, interfaces := #[4, 5], accessFlags := 1041 }

def heap : Heap := #[]
def classes : Array Class := #[k0, k1, k2, k3, k4, k5, k6, k7, k8, k9]
def interned : List (Array UInt16 × Addr) := []
def slotsUsed : Nat := 0
def theMethod : MethodId := ⟨1, 4⟩
def args0 : Array Value := #[.int 3, .int 1, .int 2, .int 3, .int 1, .int 2]
def aboutOver (below : List Frame) : State where
  vm := { classes := classes, interned := interned.toArray }
  heap := heap
  slotsUsed := slotsUsed
  threads := #[{ frames := .invoking theMethod args0 :: below }]
def below0 : List Frame := [.native { method := ⟨0, 0⟩, args := #[] }]
def about1 : State := aboutOver below0
def p0 : Program := .bare "" "" ""
def e0 : Env := launch0.env 0 0 0
theorem w_frames : about1.frames = Frame.invoking theMethod args0 :: below0 := rfl
set_option maxRecDepth 65536 in
theorem w_args : argsFit about1.vm theMethod args0 = true := by decide +kernel
set_option maxRecDepth 65536 in
theorem w_heap : heapFits about1 = true := by decide +kernel
set_option maxRecDepth 65536 in
theorem w_runnable : about1.curStatus? = some .runnable := by decide +kernel
set_option maxRecDepth 65536 in
theorem w_alone : about1.alone = true := by decide +kernel
set_option maxRecDepth 65536 in
theorem w_named : about1.methodNamed? x = some theMethod := by decide +kernel
set_option maxRecDepth 65536 in
theorem w_hears : about1.hears theMethod below0 = true := by decide +kernel
set_option maxRecDepth 65536 in
theorem w_ripe : about1.ripe theMethod args0 below0 = true := by decide +kernel
theorem w_running : about1.status = .running := rfl
set_option maxRecDepth 65536 in
theorem w_room : about1.hasRoom e0.platform room_1 = true :=
  launch0.hasRoom_least _ room_1 (by decide +kernel) (by decide +kernel) (by decide +kernel) (by decide +kernel) (by decide +kernel) (by decide +kernel)
theorem allAtoms_all (ts : List Jvm.Cond) (a : Array Jvm.Value) (st : Jvm.State) : (allAtoms ts).before a st = ts.all (fun c => c.before a st) := by
  induction ts with
  | nil => rfl
  | cons c t ih =>
    show (Jvm.Cond.and c (allAtoms t)).before a st = _
    rw [Jvm.Cond.before_and, ih, List.all_cons]
def words1 : List Jvm.Cond := Jvm.Cond.code x code maxLocals ret :: tables_1
/-- a 'code' word, met by the world's own term for the bytes: nothing is compared byte by byte -/
theorem code_word {y : MethodName} {bytes : ByteArray} {mx : Nat} {rt : Option FieldType} {a : Array Value} {s : State} {m : MethodId} {meth : Method} {c : Code} (h1 : s.methodNamed? y = some m) (h2 : s.vm.method? m = some meth) (h3 : meth.code = some c) (h4 : c.code = bytes)
    (h5 : (c.maxLocals == mx && c.exceptionTable.isEmpty && decide (c.maxStack ≤ mostOperands) && decide (meth.sig.returnType = rt) && !meth.locks && decide (parseMethodDescriptor y.desc = some meth.sig)) = true) : (Jvm.Cond.code y bytes mx rt).before a s = true := by
  simp only [Bool.and_eq_true, beq_iff_eq, Bool.not_eq_true', decide_eq_true_eq] at h5
  obtain ⟨⟨⟨⟨⟨g1, g2⟩, g3⟩, g4⟩, g5⟩, g6⟩ := h5
  simp [Cond.before, Cond.holds, Cond.value, h1, h2, h3, h4, g1, g2, g3, g4, g5, g6]
def isCode : Jvm.Cond → Bool
  | .code _ _ _ _ => true
  | _ => false
theorem all_split {L : List Jvm.Cond} {P : Jvm.Cond → Bool} (h1 : L.all (fun c => isCode c || P c) = true) (h2 : ∀ c ∈ L.filter isCode, P c = true) : L.all P = true := by
  refine List.all_eq_true.mpr fun c hc => ?_
  have h := List.all_eq_true.mp h1 c hc
  rcases Bool.eq_false_or_eq_true (isCode c) with hi | hi
  · exact h2 c (List.mem_filter.mpr ⟨hc, hi⟩)
  · simpa [hi] using h
set_option maxRecDepth 65536 in
theorem w_c0 : (Jvm.Cond.code x code maxLocals ret).before args0 about1 = true := code_word (m := ⟨1, 4⟩) (meth := k1m4) (c := k1c4) (by decide +kernel) rfl rfl rfl (by decide +kernel)
set_option maxRecDepth 65536 in
theorem w_c1 : (Jvm.Cond.code ({ cls := "com/example/vendace/vendace/localrecoding/DenseSet", name := "<init>", desc := "(I)V" } : Jvm.MethodName) prog_30_method_1_code (2 : Nat) (Option.none : Option Jvm.ClassFile.FieldType)).before args0 about1 = true := code_word (m := ⟨2, 0⟩) (meth := k2m0) (c := k2c0) (by decide +kernel) rfl rfl rfl (by decide +kernel)
set_option maxRecDepth 65536 in
theorem w_c2 : (Jvm.Cond.code ({ cls := "java/lang/Object", name := "<init>", desc := "()V" } : Jvm.MethodName) object_method_1_code (1 : Nat) (Option.none : Option Jvm.ClassFile.FieldType)).before args0 about1 = true := code_word (m := ⟨0, 0⟩) (meth := k0m0) (c := k0c0) (by decide +kernel) rfl rfl rfl (by decide +kernel)
set_option maxRecDepth 65536 in
theorem w_c3 : (Jvm.Cond.code ({ cls := "java/util/Arrays", name := "fill", desc := "([II)V" } : Jvm.MethodName) jdk_65_method_103_code (4 : Nat) (Option.none : Option Jvm.ClassFile.FieldType)).before args0 about1 = true := code_word (m := ⟨3, 1⟩) (meth := k3m1) (c := k3c1) (by decide +kernel) rfl rfl rfl (by decide +kernel)
set_option maxRecDepth 65536 in
theorem w_c4 : (Jvm.Cond.code ({ cls := "com/example/vendace/vendace/localrecoding/DenseSet", name := "remove", desc := "(I)V" } : Jvm.MethodName) prog_30_method_5_code (4 : Nat) (Option.none : Option Jvm.ClassFile.FieldType)).before args0 about1 = true := code_word (m := ⟨2, 4⟩) (meth := k2m4) (c := k2c4) (by decide +kernel) rfl rfl rfl (by decide +kernel)
set_option maxRecDepth 65536 in
theorem w_c5 : (Jvm.Cond.code ({ cls := "com/example/vendace/vendace/localrecoding/DenseSetRemovePinLaw", name := "refRemove", desc := "([III)I" } : Jvm.MethodName) method_4_code (5 : Nat) (Option.some Jvm.ClassFile.FieldType.int)).before args0 about1 = true := code_word (m := ⟨1, 3⟩) (meth := k1m3) (c := k1c3) (by decide +kernel) rfl rfl rfl (by decide +kernel)
set_option maxRecDepth 65536 in
theorem w_c6 : (Jvm.Cond.code ({ cls := "com/example/vendace/vendace/localrecoding/DenseSet", name := "size", desc := "()I" } : Jvm.MethodName) prog_30_method_2_code (1 : Nat) (Option.some Jvm.ClassFile.FieldType.int)).before args0 about1 = true := code_word (m := ⟨2, 1⟩) (meth := k2m1) (c := k2c1) (by decide +kernel) rfl rfl rfl (by decide +kernel)
set_option maxRecDepth 65536 in
theorem w_c7 : (Jvm.Cond.code ({ cls := "com/example/vendace/vendace/localrecoding/DenseSet", name := "add", desc := "(I)V" } : Jvm.MethodName) prog_30_method_4_code (2 : Nat) (Option.none : Option Jvm.ClassFile.FieldType)).before args0 about1 = true := code_word (m := ⟨2, 3⟩) (meth := k2m3) (c := k2c3) (by decide +kernel) rfl rfl rfl (by decide +kernel)
set_option maxRecDepth 65536 in
theorem w_c8 : (Jvm.Cond.code ({ cls := "com/example/vendace/vendace/localrecoding/DenseSetRemovePinLaw", name := "refAdd", desc := "([III)I" } : Jvm.MethodName) method_3_code (3 : Nat) (Option.some Jvm.ClassFile.FieldType.int)).before args0 about1 = true := code_word (m := ⟨1, 2⟩) (meth := k1m2) (c := k1c2) (by decide +kernel) rfl rfl rfl (by decide +kernel)
set_option maxRecDepth 65536 in
theorem w_c9 : (Jvm.Cond.code ({ cls := "com/example/vendace/vendace/localrecoding/DenseSetRemovePinLaw", name := "has", desc := "([III)Z" } : Jvm.MethodName) method_2_code (3 : Nat) (Option.some Jvm.ClassFile.FieldType.boolean)).before args0 about1 = true := code_word (m := ⟨1, 1⟩) (meth := k1m1) (c := k1c1) (by decide +kernel) rfl rfl rfl (by decide +kernel)
set_option maxRecDepth 65536 in
theorem w_c10 : (Jvm.Cond.code ({ cls := "com/example/vendace/vendace/localrecoding/DenseSet", name := "member", desc := "(I)I" } : Jvm.MethodName) prog_30_method_3_code (2 : Nat) (Option.some Jvm.ClassFile.FieldType.int)).before args0 about1 = true := code_word (m := ⟨2, 2⟩) (meth := k2m2) (c := k2c2) (by decide +kernel) rfl rfl rfl (by decide +kernel)
def codes1 : List Jvm.Cond := [Jvm.Cond.code x code maxLocals ret, Jvm.Cond.code ({ cls := "com/example/vendace/vendace/localrecoding/DenseSet", name := "<init>", desc := "(I)V" } : Jvm.MethodName) prog_30_method_1_code (2 : Nat) (Option.none : Option Jvm.ClassFile.FieldType), Jvm.Cond.code ({ cls := "java/lang/Object", name := "<init>", desc := "()V" } : Jvm.MethodName) object_method_1_code (1 : Nat) (Option.none : Option Jvm.ClassFile.FieldType), Jvm.Cond.code ({ cls := "java/util/Arrays", name := "fill", desc := "([II)V" } : Jvm.MethodName) jdk_65_method_103_code (4 : Nat) (Option.none : Option Jvm.ClassFile.FieldType), Jvm.Cond.code ({ cls := "com/example/vendace/vendace/localrecoding/DenseSet", name := "remove", desc := "(I)V" } : Jvm.MethodName) prog_30_method_5_code (4 : Nat) (Option.none : Option Jvm.ClassFile.FieldType), Jvm.Cond.code ({ cls := "com/example/vendace/vendace/localrecoding/DenseSetRemovePinLaw", name := "refRemove", desc := "([III)I" } : Jvm.MethodName) method_4_code (5 : Nat) (Option.some Jvm.ClassFile.FieldType.int), Jvm.Cond.code ({ cls := "com/example/vendace/vendace/localrecoding/DenseSet", name := "size", desc := "()I" } : Jvm.MethodName) prog_30_method_2_code (1 : Nat) (Option.some Jvm.ClassFile.FieldType.int), Jvm.Cond.code ({ cls := "com/example/vendace/vendace/localrecoding/DenseSet", name := "add", desc := "(I)V" } : Jvm.MethodName) prog_30_method_4_code (2 : Nat) (Option.none : Option Jvm.ClassFile.FieldType), Jvm.Cond.code ({ cls := "com/example/vendace/vendace/localrecoding/DenseSetRemovePinLaw", name := "refAdd", desc := "([III)I" } : Jvm.MethodName) method_3_code (3 : Nat) (Option.some Jvm.ClassFile.FieldType.int), Jvm.Cond.code ({ cls := "com/example/vendace/vendace/localrecoding/DenseSetRemovePinLaw", name := "has", desc := "([III)Z" } : Jvm.MethodName) method_2_code (3 : Nat) (Option.some Jvm.ClassFile.FieldType.boolean), Jvm.Cond.code ({ cls := "com/example/vendace/vendace/localrecoding/DenseSet", name := "member", desc := "(I)I" } : Jvm.MethodName) prog_30_method_3_code (2 : Nat) (Option.some Jvm.ClassFile.FieldType.int)]
set_option maxRecDepth 65536 in
theorem codes_eq : words1.filter isCode = codes1 := rfl
theorem w_codes : ∀ c ∈ words1.filter isCode, c.before args0 about1 = true := by
  rw [codes_eq]
  intro c hc
  simp only [codes1, List.mem_cons, List.not_mem_nil, or_false] at hc
  rcases hc with rfl | rfl | rfl | rfl | rfl | rfl | rfl | rfl | rfl | rfl | rfl
  · exact w_c0
  · exact w_c1
  · exact w_c2
  · exact w_c3
  · exact w_c4
  · exact w_c5
  · exact w_c6
  · exact w_c7
  · exact w_c8
  · exact w_c9
  · exact w_c10
set_option maxRecDepth 65536 in
theorem w_t1 : (words1.take 24).all (fun c => isCode c || c.before args0 about1) = true := by decide +kernel
set_option maxRecDepth 65536 in
theorem w_t2 : ((words1.drop 24).take 24).all (fun c => isCode c || c.before args0 about1) = true := by decide +kernel
set_option maxRecDepth 65536 in
theorem w_t3 : ((words1.drop 24).drop 24).all (fun c => isCode c || c.before args0 about1) = true := by decide +kernel
theorem w_tables : (allAtoms (Jvm.Cond.code x code maxLocals ret :: tables_1)).before args0 about1 = true := by
  rw [allAtoms_all]
  show words1.all (fun c => c.before args0 about1) = true
  refine all_split ?_ w_codes
  rw [← List.take_append_drop 24 words1, List.all_append, w_t1, ← List.take_append_drop 24 (words1.drop 24), List.all_append, w_t2, w_t3]
  rfl
set_option maxRecDepth 65536 in
theorem w_case : (Jvm.Cond.and given_1 narrow_1).before args0 about1 = true := by decide +kernel
theorem w_applies : (headSpec (Jvm.Cond.code x code maxLocals ret :: tables_1) room_1).applies x e0.platform about1 = true :=
  (Spec.applies_iff w_frames).mpr ⟨w_running, w_runnable, w_alone, w_named, w_hears, w_ripe, w_room, w_tables⟩
theorem atStart : AtStart classFile x code maxLocals ret World_1 tables_1 room_1 Calls_1 rest_1 Pre_1 launch0 p0 e0 about1 theMethod args0 below0 :=
  ⟨lists_1, trivial, launch0.admits_env _ _ _, launch0.least_env, fairChoices_fair.cas, fairChoices_fair.clock, w_frames, w_args, w_heap, w_applies, trivial, trivial, w_case⟩
end start1
theorem witness_1 : WitnessClaimed_1 := ⟨start1.p0, start1.e0, start1.about1, start1.theMethod, start1.args0, start1.below0, start1.atStart⟩
end Jvm.Pilot.@@N@@
