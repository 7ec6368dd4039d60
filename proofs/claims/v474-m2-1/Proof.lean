import JvmDerived
import JvmDerived.Pilot.@@N@@Statement
import JvmDerived.Pilot.@@N@@Code
set_option linter.unusedVariables false
set_option linter.unusedSimpArgs false
namespace Jvm.Pilot.@@N@@
open Jvm Jvm.ClassFile Sem Op Lib Jvm.Free Jvm.Stand Jvm.LawKit Jvm.RoadKit Bundle Jvm.Pilot.@@N@@.Jvm.D
/-- from S the body ends as Q says -/
def own_G (tb : Tables) (e : Env) (below : List Frame) (Q : State → Outcome → Prop) (S : State) : Prop := ∃ s₂ o, Steps tb e below S s₂ ∧ s₂.status = .running ∧ Ended s₂ below o ∧ Q s₂ o
theorem own_via {tb : Tables} {e : Env} {below : List Frame} {Q : State → Outcome → Prop} {S S' : State} (h : ∀ t, Steps tb e below S' t → Steps tb e below S t) (g : own_G tb e below Q S') : own_G tb e below Q S := by
  obtain ⟨t, o, k, r⟩ := g
  exact ⟨t, o, h t k, r⟩
def own_P (U : State) (Q : Option Value → Heap → List Loc → Prop) (cells slots : Nat) : State → Outcome → Prop := fun U' o => ∃ v L, o = .returned v ∧ Q v U'.heap L ∧ FrameEnd U o U' L cells slots
theorem own_end {p : Program} {l : Launch} {e : Env} {R : Room} {s : State} {m : MethodId} {args : Array Value} {below : List Frame} {meth : Method} {c : Code} {T : State} {locs : List Loc} {cells slots C S : Nat} {Q : Option Value → Heap → List Loc → Prop} {h : Heap} {G : State}
    (X : Stand p l e R s m args below meth c T locs cells slots) {v : Option Value} (hlk : meth.locks = false) (hv : meth.sig.returnType = none → v = none)
    (st : ∀ fs, (∀ (f : JFrame) (acts : List Action), f.method = m → f.locked = none → f.entered = [] → (doReturn e (T.setTop f) acts v).1 = T.setFrames fs) → Steps p.tables e below G (T.setFrames fs))
    (eT : T.heap = h) (hq : Q v h locs) (h1 : cells ≤ C) (h2 : slots ≤ S) : own_G p.tables e below (own_P s Q C S) G := by
  obtain ⟨fs, hr, hrun, hended, hW, hsame⟩ := X.leave (v := v) hv hlk
  exact ⟨_, _, st fs hr, hrun, hended, _, _, rfl, eT ▸ hq, ⟨_, rfl⟩, hW, hsame.mono h1 h2⟩
def own_Ar (Z : State) (h : Heap) (a : Addr) (k : ClassId) (ty : FieldType) (z : Int32) (vs : List Value) (d : Value) : Prop := Arv Z h a k ty z vs d ∧ vs.length = z.toNatClampNeg
theorem own_Ar.lt {Z : State} {h : Heap} {a : Addr} {k : ClassId} {ty : FieldType} {z : Int32} {vs : List Value} {d : Value} (F : own_Ar Z h a k ty z vs d) : a < h.size := F.1.lt
theorem own_Ar.ext {Z : State} {h h' : Heap} {a : Addr} {k : ClassId} {ty : FieldType} {z : Int32} {vs : List Value} {d : Value} (F : own_Ar Z h a k ty z vs d) (E : Ext h h') : own_Ar Z h' a k ty z vs d := ⟨F.1.ext E, F.2⟩
theorem own_Ar.other {Z : State} {h h' : Heap} {a b : Addr} {k : ClassId} {ty : FieldType} {z : Int32} {vs : List Value} {d : Value} {sl : Nat} {v : Value} (F : own_Ar Z h b k ty z vs d) (W : Wr h h' a sl v) (q : b ≠ a) : own_Ar Z h' b k ty z vs d := ⟨F.1.other W q, F.2⟩
theorem own_Ar.keep {Z : State} {h h' : Heap} {a : Addr} {k : ClassId} {ty : FieldType} {z : Int32} {vs : List Value} {d : Value} {ws : List Addr} (F : own_Ar Z h a k ty z vs d) (K : Keep h h' ws) (q : a ∉ ws) : own_Ar Z h' a k ty z vs d := ⟨F.1.keep K q, F.2⟩
theorem own_ixn {j z : Int32} (h : ¬ j < 0 ∧ j < z) : j.toNatClampNeg < z.toNatClampNeg := by
  obtain ⟨h1, h2⟩ := h
  rw [Int32.lt_iff_toInt_lt] at h1 h2
  have e0 : (0 : Int32).toInt = 0 := by decide
  have t1 : j.toNatClampNeg = j.toInt.toNat := rfl
  have t2 : z.toNatClampNeg = z.toInt.toNat := rfl
  omega
theorem own_gI (xs : List Int32) (i : Nat) : (xs.map Value.int).getD i (.int 0) = .int (xs.getD i 0) := by simp [List.getD_eq_getElem?_getD]
theorem own_gJ (xs : List Int64) (i : Nat) : (xs.map Value.long).getD i (.long 0) = .long (xs.getD i 0) := by simp [List.getD_eq_getElem?_getD]
theorem own_setI (xs : List Int32) (i : Nat) (v : Int32) : (xs.map Value.int).set i (.int v) = (xs.set i v).map Value.int := by simp [List.map_set]
theorem own_setJ (xs : List Int64) (i : Nat) (v : Int64) : (xs.map Value.long).set i (.long v) = (xs.set i v).map Value.long := by simp [List.map_set]
theorem own_Ar.setI {Z : State} {h h' : Heap} {a : Addr} {k : ClassId} {ty : FieldType} {z j v : Int32} {xs : List Int32} {c : Cell} (A : Arr Z h a c ty) (q1 : c.cls = k) (S : c.slots.size = z.toNatClampNeg) (q3 : ¬ z < 0) (H : Has c (xs.map Value.int) (.int 0)) (G : ∀ i, i < c.slots.size → fits ty ((xs.map Value.int).getD i (.int 0)) = true) (hv : fits ty (.int v) = true)
    (W : Wr h h' a j.toNatClampNeg (.int v)) (hin : ¬ (j < 0 ∨ c.slots.size ≤ j.toNatClampNeg)) (Le : (xs.map Value.int).length = z.toNatClampNeg) : own_Ar Z h' a k ty z ((xs.set j.toNatClampNeg v).map Value.int) (.int 0) := by
  have hl : j.toNatClampNeg < (xs.map Value.int).length := by rw [Le, ← S]; exact Nat.lt_of_not_le fun q => hin (Or.inr q)
  refine ⟨?_, by rw [← Le]; simp⟩
  rw [← own_setI]
  exact Arv.set A q1 S q3 H G hv W _ rfl hl
theorem own_Ar.setJ {Z : State} {h h' : Heap} {a : Addr} {k : ClassId} {ty : FieldType} {z j : Int32} {v : Int64} {xs : List Int64} {c : Cell} (A : Arr Z h a c ty) (q1 : c.cls = k) (S : c.slots.size = z.toNatClampNeg) (q3 : ¬ z < 0) (H : Has c (xs.map Value.long) (.long 0)) (G : ∀ i, i < c.slots.size → fits ty ((xs.map Value.long).getD i (.long 0)) = true) (hv : fits ty (.long v) = true)
    (W : Wr h h' a j.toNatClampNeg (.long v)) (hin : ¬ (j < 0 ∨ c.slots.size ≤ j.toNatClampNeg)) (Le : (xs.map Value.long).length = z.toNatClampNeg) : own_Ar Z h' a k ty z ((xs.set j.toNatClampNeg v).map Value.long) (.long 0) := by
  have hl : j.toNatClampNeg < (xs.map Value.long).length := by rw [Le, ← S]; exact Nat.lt_of_not_le fun q => hin (Or.inr q)
  refine ⟨?_, by rw [← Le]; simp⟩
  rw [← own_setJ]
  exact Arv.set A q1 S q3 H G hv W _ rfl hl
theorem own_Ar.newI {Z : State} {h : Heap} {a : Addr} {k : ClassId} {z : Int32} (A : Arr Z h a (newA k .int z) .int) (q : ¬ z < 0) : own_Ar Z h a k .int z ((List.replicate z.toNatClampNeg (0 : Int32)).map Value.int) (.int (0 : Int32)) := by
  refine ⟨?_, by simp⟩
  rw [List.map_replicate]
  exact (Arv.new A q).pad (pad_rep [] (.int (0 : Int32)) _)
theorem own_Ar.newB {Z : State} {h : Heap} {a : Addr} {k : ClassId} {z : Int32} (A : Arr Z h a (newA k .byte z) .byte) (q : ¬ z < 0) : own_Ar Z h a k .byte z ((List.replicate z.toNatClampNeg (0 : Int32)).map Value.int) (.int (0 : Int32)) := by
  refine ⟨?_, by simp⟩
  rw [List.map_replicate]
  exact (Arv.new A q).pad (pad_rep [] (.int (0 : Int32)) _)
theorem own_Ar.newJ {Z : State} {h : Heap} {a : Addr} {k : ClassId} {z : Int32} (A : Arr Z h a (newA k .long z) .long) (q : ¬ z < 0) : own_Ar Z h a k .long z ((List.replicate z.toNatClampNeg (0 : Int64)).map Value.long) (.long (0 : Int64)) := by
  refine ⟨?_, by simp⟩
  rw [List.map_replicate]
  exact (Arv.new A q).pad (pad_rep [] (.long (0 : Int64)) _)
def own_fl (xs : List Int32) (i : Nat) (x : Int32) : List Int32 := List.replicate i x ++ xs.drop i
theorem own_fl0 (xs : List Int32) (x : Int32) : own_fl xs 0 x = xs := by simp [own_fl]
theorem own_flN (xs : List Int32) (x : Int32) : own_fl xs xs.length x = List.replicate xs.length x := by simp [own_fl]
theorem own_flS (xs : List Int32) (i : Nat) (x : Int32) (h : i < xs.length) : (own_fl xs i x).set i x = own_fl xs (i + 1) x := by
  unfold own_fl
  rw [List.set_append_right _ _ (by simp), List.drop_eq_getElem_cons h]
  simp only [List.length_replicate, Nat.sub_self, List.set_cons_zero, List.replicate_succ', List.append_assoc, List.cons_append, List.nil_append]
theorem own_up {i z : Int32} {r : Nat} (h0 : ¬ i < 0) (hz : ¬ z < 0) (e : i.toNatClampNeg + (r + 1) = z.toNatClampNeg) : i < z ∧ ¬ (i + (1 : Int32)) < 0 ∧ (i + (1 : Int32)).toNatClampNeg = i.toNatClampNeg + 1 := by
  have t1 : i.toNatClampNeg = i.toInt.toNat := rfl
  have t2 : z.toNatClampNeg = z.toInt.toNat := rfl
  have t3 : (i + (1 : Int32)).toNatClampNeg = (i + (1 : Int32)).toInt.toNat := rfl
  have e0 : (0 : Int32).toInt = 0 := by decide
  have e1 : (1 : Int32).toInt = 1 := by decide
  have a := c_iadd i (1 : Int32)
  have b1 := rng32 (i + (1 : Int32))
  have b2 := rng32 i
  have b3 := rng32 z
  rw [Int32.lt_iff_toInt_lt] at h0 hz
  rw [Int32.lt_iff_toInt_lt, Int32.lt_iff_toInt_lt]
  rw [e1] at a
  have e2 : (i + (1 : Int32)).toInt = i.toInt + 1 := by omega
  omega
theorem own_out {i z : Int32} (h0 : ¬ i < 0) (e : i.toNatClampNeg + 0 = z.toNatClampNeg) : ¬ i < z := by
  have t1 : i.toNatClampNeg = i.toInt.toNat := rfl
  have t2 : z.toNatClampNeg = z.toInt.toNat := rfl
  have e0 : (0 : Int32).toInt = 0 := by decide
  rw [Int32.lt_iff_toInt_lt] at h0
  rw [Int32.lt_iff_toInt_lt]
  omega
def own_PW (U : State) (Q : Option Value → Heap → List Loc → Prop) (cells slots : Nat) : State → Outcome → Prop := fun U' o => ∃ v L, o = .returned v ∧ Q v U'.heap L ∧ ReturnedEndW U o U' L cells slots
theorem own_since (s : State) : s.Since s.vm 0 := ⟨State.Warmed39.refl s, fun j p hj hp => by
  have h := (Array.getElem?_eq_some_iff.mp hp).1
  exact absurd h (Nat.not_lt.mpr hj)⟩
theorem own_endW {p : Program} {l : Launch} {e : Env} {R : Room} {s : State} {vm1 : Vm} {m : MethodId} {args : Array Value} {below : List Frame} {meth : Method} {c : Code} {T : State} {locs : List Loc} {cells slots C S n : Nat} {Q : Option Value → Heap → List Loc → Prop} {h : Heap} {G : State}
    (X : Stand p l e R (s.setVm vm1) m args below meth c T locs cells slots) (hS : s.Since vm1 n) {v : Option Value} (hlk : meth.locks = false) (hv : meth.sig.returnType = none → v = none)
    (st : ∀ fs, (∀ (f : JFrame) (acts : List Action), f.method = m → f.locked = none → f.entered = [] → (doReturn e (T.setTop f) acts v).1 = T.setFrames fs) → Steps p.tables e below G (T.setFrames fs))
    (eT : T.heap = h) (hn : n ≤ T.heap.size) (hq : Q v h locs) (h1 : cells ≤ C) (h2 : slots ≤ S) : own_G p.tables e below (own_PW s Q C S) G := by
  obtain ⟨fs, hr, hrun, hended, hE⟩ := X.leaveW hS hn (v := v) hv hlk
  exact ⟨_, _, st fs hr, hrun, hended, _, _, rfl, eT ▸ hq, hE.1, hE.2.1, hE.2.2.1, hE.2.2.2.mono h1 h2⟩
theorem own_ltz {i l z : Int32} (h : i < l) (hl : ¬ z < l) : i < z := by grind
theorem own_i32 {x : Int32} {P : Int} (e : (x.toInt - P) % 4294967296 = 0) (h1 : -2147483648 ≤ P) (h2 : P < 2147483648) : x.toInt = P := by
  have b := rng32 x
  omega
theorem own_m255 (b : Int32) : (b &&& (255 : Int32)).toInt = b.toInt % 256 ∧ 0 ≤ (b &&& (255 : Int32)).toInt ∧ (b &&& (255 : Int32)).toInt < 256 := by
  have h := c_mask b (255 : Int32) 8 (by decide) (by decide)
  omega
theorem own_sh8 (x d : Int32) (h1 : -8388608 ≤ x.toInt) (h2 : x.toInt < 8388608) : ((x <<< ((8 : Int32) &&& 31)) ||| (d &&& (255 : Int32))).toInt = x.toInt * 256 + (d &&& (255 : Int32)).toInt := by
  obtain ⟨m1, m2, m3⟩ := own_m255 d
  have e1 := c_ishl x (8 : Int32) 8 (by decide)
  have s1 : (x <<< ((8 : Int32) &&& 31)).toInt = x.toInt * 256 := own_i32 (by simpa using e1) (by omega) (by omega)
  have e2 := c_or (x <<< ((8 : Int32) &&& 31)) (d &&& (255 : Int32)) 8 (by decide) 256 (by decide) (by omega) m2 m3
  exact own_i32 (by rw [s1] at e2; exact e2) (by omega) (by omega)
theorem own_inj32 {x y : Int32} (h : x.toInt = y.toInt) : x = y := Int32.toInt_inj.mp h
def own_sl (xs : List Int32) : Int32 → Nat → Int32 → Int32
  | _, 0, v => v
  | i, r + 1, v => own_sl xs (i + (1 : Int32)) r ((v <<< ((8 : Int32) &&& 31)) ||| (xs.getD (i).toNatClampNeg 0 &&& (255 : Int32)))
theorem own_bb (x : Int32) : ((nar .byte (x.toInt8.toInt32)) &&& (255 : Int32)) = (x &&& (255 : Int32)) := by
  have h1 := own_m255 (nar .byte (x.toInt8.toInt32))
  have h2 := own_m255 x
  have h3 := c_i2b x
  have h4 := c_i2b (x.toInt8.toInt32)
  have h5 : nar .byte (x.toInt8.toInt32) = (x.toInt8.toInt32).toInt8.toInt32 := rfl
  refine own_inj32 ?_
  rw [h1.1, h2.1, h5]
  omega
theorem own_s1 (a : Int32) : (((0 : Int32) <<< ((8 : Int32) &&& 31)) ||| (a &&& (255 : Int32))) = (a &&& (255 : Int32)) := by
  have h := own_sh8 0 a (by decide) (by decide)
  refine own_inj32 ?_
  rw [h, show (0 : Int32).toInt = 0 by decide]; omega
theorem own_mul {x : Int32} {c : Int32} {n k : Int} (hn : c.toInt = n) (h0 : 0 ≤ x.toInt) (h1 : x.toInt < 256) (h2 : 0 ≤ n) (h3 : n ≤ 65536) (hk : x.toInt * n = k) : (x * c).toInt = k := by
  have e := c_imul x c
  rw [hn, hk] at e
  have h4 : 0 ≤ k := hk ▸ Int.mul_nonneg h0 h2
  have h5 := Int.mul_le_mul_of_nonneg_right (show x.toInt ≤ 255 by omega) h2
  rw [hk] at h5
  exact own_i32 e (by omega) (by omega)
theorem own_add {x y : Int32} (h0 : 0 ≤ x.toInt) (h1 : x.toInt < 1000000000) (h2 : 0 ≤ y.toInt) (h3 : y.toInt < 1000000000) : (x + y).toInt = x.toInt + y.toInt := own_i32 (c_iadd x y) (by omega) (by omega)
theorem own_u2 (a b : Int32) : ((((0 : Int32) <<< ((8 : Int32) &&& 31)) ||| (a &&& (255 : Int32))) <<< ((8 : Int32) &&& 31)) ||| (b &&& (255 : Int32)) = (a &&& (255 : Int32)) * (256 : Int32) + (b &&& (255 : Int32)) := by
  rw [own_s1]
  obtain ⟨-, a2, a3⟩ := own_m255 a
  obtain ⟨-, b2, b3⟩ := own_m255 b
  have h := own_sh8 (a &&& (255 : Int32)) b (by omega) (by omega)
  have m1 := own_mul (c := (256 : Int32)) (n := 256) (by decide) a2 a3 (by decide) (by decide) rfl
  have ad := own_add (x := (a &&& (255 : Int32)) * (256 : Int32)) (y := b &&& (255 : Int32)) (by omega) (by omega) b2 (by omega)
  refine own_inj32 ?_
  rw [h, ad, m1]
theorem own_u3 (a b c : Int32) : ((((((0 : Int32) <<< ((8 : Int32) &&& 31)) ||| (a &&& (255 : Int32))) <<< ((8 : Int32) &&& 31)) ||| (b &&& (255 : Int32))) <<< ((8 : Int32) &&& 31)) ||| (c &&& (255 : Int32)) = (a &&& (255 : Int32)) * (65536 : Int32) + (b &&& (255 : Int32)) * (256 : Int32) + (c &&& (255 : Int32)) := by
  rw [own_s1]
  obtain ⟨-, a2, a3⟩ := own_m255 a
  obtain ⟨-, b2, b3⟩ := own_m255 b
  obtain ⟨-, c2, c3⟩ := own_m255 c
  have h := own_sh8 (a &&& (255 : Int32)) b (by omega) (by omega)
  have g := own_sh8 (((a &&& (255 : Int32)) <<< ((8 : Int32) &&& 31)) ||| (b &&& (255 : Int32))) c (by omega) (by omega)
  have m1 := own_mul (c := (65536 : Int32)) (n := 65536) (by decide) a2 a3 (by decide) (by decide) rfl
  have m2 := own_mul (c := (256 : Int32)) (n := 256) (by decide) b2 b3 (by decide) (by decide) rfl
  have ad := own_add (x := (a &&& (255 : Int32)) * (65536 : Int32)) (y := (b &&& (255 : Int32)) * (256 : Int32)) (by omega) (by omega) (by omega) (by omega)
  have ad2 := own_add (x := (a &&& (255 : Int32)) * (65536 : Int32) + (b &&& (255 : Int32)) * (256 : Int32)) (y := c &&& (255 : Int32)) (by omega) (by omega) c2 (by omega)
  refine own_inj32 ?_
  rw [g, h, ad2, ad, m1, m2]; omega
theorem own_c4 (x : Int32) : (x &&& (3 : Int32)) = 0 ∨ (x &&& (3 : Int32)) = 1 ∨ (x &&& (3 : Int32)) = 2 ∨ (x &&& (3 : Int32)) = 3 := by
  have h1 := c_mask x (3 : Int32) 2 (by decide) (by decide)
  have h2 : (x &&& (3 : Int32)).toInt = 0 ∨ (x &&& (3 : Int32)).toInt = 1 ∨ (x &&& (3 : Int32)).toInt = 2 ∨ (x &&& (3 : Int32)).toInt = 3 := by omega
  rcases h2 with h | h | h | h
  · exact Or.inl (own_inj32 (h.trans (by decide)))
  · exact Or.inr (Or.inl (own_inj32 (h.trans (by decide))))
  · exact Or.inr (Or.inr (Or.inl (own_inj32 (h.trans (by decide)))))
  · exact Or.inr (Or.inr (Or.inr (own_inj32 (h.trans (by decide)))))
theorem own_six {c : Int32} (h : c = 0 ∨ c = 1 ∨ c = 2 ∨ c = 3) : (6 : Int32) - c ≠ 0 := by rcases h with rfl | rfl | rfl | rfl <;> decide
theorem own_ii (x c : Int32) (h : c = 0 ∨ c = 1 ∨ c = 2 ∨ c = 3) : 0 ≤ (((x.toUInt32 >>> ((2 : Int32) &&& 31).toUInt32).toInt32) % ((6 : Int32) - c)) ∧ (((x.toUInt32 >>> ((2 : Int32) &&& 31).toUInt32).toInt32) % ((6 : Int32) - c)) + c ≤ 5 ∧ (((x.toUInt32 >>> ((2 : Int32) &&& 31).toUInt32).toInt32) % ((6 : Int32) - c)) ≤ 5 := by
  have h1 := c_iushr x (2 : Int32) 2 (by decide) (by decide)
  have hx : 0 ≤ ((x.toUInt32 >>> ((2 : Int32) &&& 31).toUInt32).toInt32).toInt := by
    have := Int.emod_nonneg x.toInt (show (4294967296 : Int) ≠ 0 by decide)
    rw [h1]; exact Int.ediv_nonneg this (by decide)
  generalize ((x.toUInt32 >>> ((2 : Int32) &&& 31).toUInt32).toInt32) = y at *
  clear h1
  have e0 : (0 : Int32).toInt = 0 := by decide
  have e5 : (5 : Int32).toInt = 5 := by decide
  rcases h with rfl | rfl | rfl | rfl
  · have r := (c_irem y ((6 : Int32) - 0) 6 (by decide)).1 hx
    have q : (y % ((6 : Int32) - 0)).toInt = 0 ∨ (y % ((6 : Int32) - 0)).toInt = 1 ∨ (y % ((6 : Int32) - 0)).toInt = 2 ∨ (y % ((6 : Int32) - 0)).toInt = 3 ∨ (y % ((6 : Int32) - 0)).toInt = 4 ∨ (y % ((6 : Int32) - 0)).toInt = 5 := by omega
    generalize (y % ((6 : Int32) - 0)) = w at *
    have h3 : ∀ k : Int32, w.toInt = k.toInt → w = k := fun k q => own_inj32 q
    rcases q with q | q | q | q | q | q
    · rw [h3 0 (q.trans (by decide))]; decide
    · rw [h3 1 (q.trans (by decide))]; decide
    · rw [h3 2 (q.trans (by decide))]; decide
    · rw [h3 3 (q.trans (by decide))]; decide
    · rw [h3 4 (q.trans (by decide))]; decide
    · rw [h3 5 (q.trans (by decide))]; decide
  · have r := (c_irem y ((6 : Int32) - 1) 5 (by decide)).1 hx
    have q : (y % ((6 : Int32) - 1)).toInt = 0 ∨ (y % ((6 : Int32) - 1)).toInt = 1 ∨ (y % ((6 : Int32) - 1)).toInt = 2 ∨ (y % ((6 : Int32) - 1)).toInt = 3 ∨ (y % ((6 : Int32) - 1)).toInt = 4 := by omega
    generalize (y % ((6 : Int32) - 1)) = w at *
    have h3 : ∀ k : Int32, w.toInt = k.toInt → w = k := fun k q => own_inj32 q
    rcases q with q | q | q | q | q
    · rw [h3 0 (q.trans (by decide))]; decide
    · rw [h3 1 (q.trans (by decide))]; decide
    · rw [h3 2 (q.trans (by decide))]; decide
    · rw [h3 3 (q.trans (by decide))]; decide
    · rw [h3 4 (q.trans (by decide))]; decide
  · have r := (c_irem y ((6 : Int32) - 2) 4 (by decide)).1 hx
    have q : (y % ((6 : Int32) - 2)).toInt = 0 ∨ (y % ((6 : Int32) - 2)).toInt = 1 ∨ (y % ((6 : Int32) - 2)).toInt = 2 ∨ (y % ((6 : Int32) - 2)).toInt = 3 := by omega
    generalize (y % ((6 : Int32) - 2)) = w at *
    have h3 : ∀ k : Int32, w.toInt = k.toInt → w = k := fun k q => own_inj32 q
    rcases q with q | q | q | q
    · rw [h3 0 (q.trans (by decide))]; decide
    · rw [h3 1 (q.trans (by decide))]; decide
    · rw [h3 2 (q.trans (by decide))]; decide
    · rw [h3 3 (q.trans (by decide))]; decide
  · have r := (c_irem y ((6 : Int32) - 3) 3 (by decide)).1 hx
    have q : (y % ((6 : Int32) - 3)).toInt = 0 ∨ (y % ((6 : Int32) - 3)).toInt = 1 ∨ (y % ((6 : Int32) - 3)).toInt = 2 := by omega
    generalize (y % ((6 : Int32) - 3)) = w at *
    have h3 : ∀ k : Int32, w.toInt = k.toInt → w = k := fun k q => own_inj32 q
    rcases q with q | q | q
    · rw [h3 0 (q.trans (by decide))]; decide
    · rw [h3 1 (q.trans (by decide))]; decide
    · rw [h3 2 (q.trans (by decide))]; decide
abbrev own_R (i c : Int32) : Prop := 0 ≤ i ∧ i + c ≤ 5 ∧ i ≤ 5
theorem own_pre {i c : Int32} (hc : c = 0 ∨ c = 1 ∨ c = 2 ∨ c = 3) (h : own_R i c) : ¬ i < 0 ∧ (i).toNatClampNeg + c.toNatClampNeg = (i + c).toNatClampNeg ∧ ¬ (i + c) < 0 ∧ ¬ (5 : Int32) < (i + c) := by
  have hi : i = 0 ∨ i = 1 ∨ i = 2 ∨ i = 3 ∨ i = 4 ∨ i = 5 := by have := h.1; have := h.2.2; grind
  rcases hi with rfl | rfl | rfl | rfl | rfl | rfl <;> rcases hc with rfl | rfl | rfl | rfl <;> revert h <;> decide
theorem own_f0 (xs : List Int32) (i : Int32) : own_sl xs i (0 : Int32).toNatClampNeg 0 = 0 := rfl
theorem own_f1 (p0 p1 p2 p3 p4 i : Int32) (h : own_R i 1) : own_sl [(nar .byte (p0.toInt8.toInt32)), (nar .byte (p1.toInt8.toInt32)), (nar .byte (p2.toInt8.toInt32)), (nar .byte (p3.toInt8.toInt32)), (nar .byte (p4.toInt8.toInt32))] i (1 : Int32).toNatClampNeg 0 = [(p0 &&& (255 : Int32)), (p1 &&& (255 : Int32)), (p2 &&& (255 : Int32)), (p3 &&& (255 : Int32)), (p4 &&& (255 : Int32))].getD (i).toNatClampNeg 0 := by
  have hi : i = 0 ∨ i = 1 ∨ i = 2 ∨ i = 3 ∨ i = 4 := by have := h.1; have := h.2.1; grind
  clear h
  rcases hi with rfl | rfl | rfl | rfl | rfl
  · exact (own_s1 _).trans (own_bb p0)
  · exact (own_s1 _).trans (own_bb p1)
  · exact (own_s1 _).trans (own_bb p2)
  · exact (own_s1 _).trans (own_bb p3)
  · exact (own_s1 _).trans (own_bb p4)
theorem own_g2 (a b : Int32) : ((((0 : Int32) <<< ((8 : Int32) &&& 31)) ||| ((nar .byte (a.toInt8.toInt32)) &&& (255 : Int32))) <<< ((8 : Int32) &&& 31)) ||| ((nar .byte (b.toInt8.toInt32)) &&& (255 : Int32)) = (a &&& (255 : Int32)) * (256 : Int32) + (b &&& (255 : Int32)) := by rw [own_u2, own_bb, own_bb]
theorem own_g3 (a b c : Int32) : ((((((0 : Int32) <<< ((8 : Int32) &&& 31)) ||| ((nar .byte (a.toInt8.toInt32)) &&& (255 : Int32))) <<< ((8 : Int32) &&& 31)) ||| ((nar .byte (b.toInt8.toInt32)) &&& (255 : Int32))) <<< ((8 : Int32) &&& 31)) ||| ((nar .byte (c.toInt8.toInt32)) &&& (255 : Int32)) = (a &&& (255 : Int32)) * (65536 : Int32) + (b &&& (255 : Int32)) * (256 : Int32) + (c &&& (255 : Int32)) := by rw [own_u3, own_bb, own_bb, own_bb]
theorem own_f2 (p0 p1 p2 p3 p4 i : Int32) (h : own_R i 2) : own_sl [(nar .byte (p0.toInt8.toInt32)), (nar .byte (p1.toInt8.toInt32)), (nar .byte (p2.toInt8.toInt32)), (nar .byte (p3.toInt8.toInt32)), (nar .byte (p4.toInt8.toInt32))] i (2 : Int32).toNatClampNeg 0 = [(p0 &&& (255 : Int32)), (p1 &&& (255 : Int32)), (p2 &&& (255 : Int32)), (p3 &&& (255 : Int32)), (p4 &&& (255 : Int32))].getD (i).toNatClampNeg 0 * (256 : Int32) + [(p0 &&& (255 : Int32)), (p1 &&& (255 : Int32)), (p2 &&& (255 : Int32)), (p3 &&& (255 : Int32)), (p4 &&& (255 : Int32))].getD (i + (1 : Int32)).toNatClampNeg 0 := by
  have hi : i = 0 ∨ i = 1 ∨ i = 2 ∨ i = 3 := by have := h.1; have := h.2.1; grind
  clear h
  rcases hi with rfl | rfl | rfl | rfl
  · exact own_g2 p0 p1
  · exact own_g2 p1 p2
  · exact own_g2 p2 p3
  · exact own_g2 p3 p4
theorem own_f3 (p0 p1 p2 p3 p4 i : Int32) (h : own_R i 3) : own_sl [(nar .byte (p0.toInt8.toInt32)), (nar .byte (p1.toInt8.toInt32)), (nar .byte (p2.toInt8.toInt32)), (nar .byte (p3.toInt8.toInt32)), (nar .byte (p4.toInt8.toInt32))] i (3 : Int32).toNatClampNeg 0 = [(p0 &&& (255 : Int32)), (p1 &&& (255 : Int32)), (p2 &&& (255 : Int32)), (p3 &&& (255 : Int32)), (p4 &&& (255 : Int32))].getD (i).toNatClampNeg 0 * (65536 : Int32) + [(p0 &&& (255 : Int32)), (p1 &&& (255 : Int32)), (p2 &&& (255 : Int32)), (p3 &&& (255 : Int32)), (p4 &&& (255 : Int32))].getD (i + (1 : Int32)).toNatClampNeg 0 * (256 : Int32) + [(p0 &&& (255 : Int32)), (p1 &&& (255 : Int32)), (p2 &&& (255 : Int32)), (p3 &&& (255 : Int32)), (p4 &&& (255 : Int32))].getD (i + (2 : Int32)).toNatClampNeg 0 := by
  have hi : i = 0 ∨ i = 1 ∨ i = 2 := by have := h.1; have := h.2.1; grind
  clear h
  rcases hi with rfl | rfl | rfl
  · exact own_g3 p0 p1 p2
  · exact own_g3 p1 p2 p3
  · exact own_g3 p2 p3 p4
theorem own_at {i c k : Int32} (h : own_R i c) (hk : k = 0 ∨ k = 1 ∨ k = 2) (hc : k < c ∧ c ≤ 3) : ¬ (i + k) < 0 ∧ (i + k) < (5 : Int32) := by
  have := h.1; have := h.2.1; have := h.2.2
  grind
theorem d1_0 : decode prog_3_method_1_code 0 = .ok (.aload_n 0, 1) := by decide +kernel
theorem d1_1 : decode prog_3_method_1_code 1 = .ok (.invokespecial 1, 3) := by decide +kernel
theorem d1_4 : decode prog_3_method_1_code 4 = .ok (.aload_n 0, 1) := by decide +kernel
theorem d1_5 : decode prog_3_method_1_code 5 = .ok (.aload_n 1, 1) := by decide +kernel
theorem d1_6 : decode prog_3_method_1_code 6 = .ok (.putfield 7, 3) := by decide +kernel
theorem d1_9 : decode prog_3_method_1_code 9 = .ok (.aload_n 0, 1) := by decide +kernel
theorem d1_10 : decode prog_3_method_1_code 10 = .ok (.lload_n 2, 1) := by decide +kernel
theorem d1_11 : decode prog_3_method_1_code 11 = .ok (.putfield 13, 3) := by decide +kernel
theorem d1_14 : decode prog_3_method_1_code 14 = .ok (.aload_n 0, 1) := by decide +kernel
theorem d1_15 : decode prog_3_method_1_code 15 = .ok (.aload 4, 2) := by decide +kernel
theorem d1_17 : decode prog_3_method_1_code 17 = .ok (.putfield 17, 3) := by decide +kernel
theorem d1_20 : decode prog_3_method_1_code 20 = .ok (.return_, 1) := by decide +kernel
theorem pn1 : plainName "com/example/altigate/altigate/asterix/DataBlock" = true := by first | (simp [plainName, overriddenIn]; done) | decide +kernel
theorem ef1 (m : MethodId) (x0 : Addr) (x1 : Addr) (x2 : Int64) (x3 : Addr) : entryFrame m #[(.ref x0), (.ref x1), (.long x2), (.ref x3)] 5 = mkF m 0 #[.val (.ref x0), .val (.ref x1), .val (.long x2), .second, .val (.ref x3)] [] := by first | (simp [entryFrame, mkF, argsToLocals, Value.category]; done) | rfl
def Q1 (Z : State) (a1 : Addr) (x1 : Addr) (x2 : Int64) (x3 : Addr) (h0 : Heap) (n0 : Nat) (v : Option Value) (h : Heap) (L : List Loc) : Prop := v = none ∧ Fr n0 L ∧ Keep h0 h [a1] ∧ Exa Z h a1 "com/example/altigate/altigate/asterix/DataBlock" ∧ Fld Z h a1 "com/example/altigate/altigate/asterix/DataBlock" "source" "Ljava/lang/String;" (.ref x1) ∧ Fld Z h a1 "com/example/altigate/altigate/asterix/DataBlock" "offset" "J" (.long x2) ∧ Fld Z h a1 "com/example/altigate/altigate/asterix/DataBlock" "octets" "[B" (.ref x3)
set_option maxRecDepth 65536 in
set_option maxHeartbeats 40000000 in
theorem rm1 (l : Launch) (Z : State) (a0 : Array Value) (hw : ∀ d ∈ tables_1, d.before a0 Z = true) (ws : List Jvm.Cond) (a1 : Addr) (x1 : Addr) (x2 : Int64) (x3 : Addr) (h0 : Heap) (n0 : Nat) (Z0 : n0 ≤ h0.size) (F0_0 : Fld Z h0 a1 "com/example/altigate/altigate/asterix/DataBlock" "source" "Ljava/lang/String;" .null) (F1_0 : Fld Z h0 a1 "com/example/altigate/altigate/asterix/DataBlock" "offset" "J" (.long (0 : Int64))) (F2_0 : Fld Z h0 a1 "com/example/altigate/altigate/asterix/DataBlock" "octets" "[B" .null) (E_a1 : Exa Z h0 a1 "com/example/altigate/altigate/asterix/DataBlock") (g_a1 : n0 ≤ a1) :
    MetFree l (⟨"com/example/altigate/altigate/asterix/DataBlock", "<init>", "(Ljava/lang/String;J[B)V"⟩ : MethodName) (head1 (Jvm.Cond.code (⟨"com/example/altigate/altigate/asterix/DataBlock", "<init>", "(Ljava/lang/String;J[B)V"⟩ : MethodName) prog_3_method_1_code 5 none :: ws) ({ frames := 1, cells := 0, slots := 0, locals := 12 } : Room)) (fun a U => a = #[(.ref a1), (.ref x1), (.long x2), (.ref x3)] ∧ Z.Warmed39 U.vm ∧ U.heap = h0) (fun _ _ _ _ _ => True) (fun _ U o U' => ∃ v L, o = .returned v ∧ Q1 Z a1 x1 x2 x3 h0 n0 v U'.heap L ∧ FrameEnd U o U' L ({ frames := 1, cells := 0, slots := 0, locals := 12 } : Room).cells ({ frames := 1, cells := 0, slots := 0, locals := 12 } : Room).slots) := by
  refine MetFree.of_bodySF (plainFor_of_name pn1) hisR ?_
  intro p e s m args below meth c s₁ Bd hml0 hP hK
  obtain ⟨rfl, hZ, hh⟩ := hP
  have hx := Bd.exec
  have hby := Bd.bytes
  have hml : c.maxLocals = 5 := hml0
  have hown : s.vm.findClass "com/example/altigate/altigate/asterix/DataBlock" = some m.cls := findClass_of_methodNamed Bd.named
  have hnm := (name_of_methodNamed Bd.named Bd.method).1
  have X0 : Stand p l e ({ frames := 1, cells := 0, slots := 0, locals := 12 } : Room) s m #[(.ref a1), (.ref x1), (.long x2), (.ref x3)] below meth c s₁ [] 0 0 := Stand.of_body Bd
  have e0 : s₁.heap = h0 := by rw [← hh, Bd.state]; rfl
  have N0 := Fr.nil n0
  refine (show own_G p.tables e below (own_P s (Q1 Z a1 x1 x2 x3 h0 n0) 0 0) (s₁.setTop (entryFrame m #[(.ref a1), (.ref x1), (.long x2), (.ref x3)] 5)) from ?_)
  refine own_via (fun t k => castTop (ef1 m a1 x1 x2 x3) k) ?_
  show own_G p.tables e below _ (s₁.setTop (mkF m 0 #[.val (.ref a1), .val (.ref x1), .val (.long x2), .second, .val (.ref x3)] []))
  have K0 := Keep.refl h0 [a1]
  refine own_via (S' := s₁.setTop (mkF m 1 #[.val (.ref a1), .val (.ref x1), .val (.long x2), .second, .val (.ref x3)] [(.ref a1)])) (fun t k => ?_) ?_
  · show Steps p.tables e below (s₁.setTop (mkF m 0 #[.val (.ref a1), .val (.ref x1), .val (.long x2), .second, .val (.ref x3)] [])) t
    refine XS.aloadN X0.here hx rfl (hb hby d1_0) rfl rfl ?_
    exact k
  obtain ⟨T1, X1, e1, st1⟩ := initO X0 hx hZ hown (hw _ (List.mem_of_getElem? (i := 15) rfl)) (hw _ (List.mem_of_getElem? (i := 16) rfl)) (hw _ (List.mem_of_getElem? (i := 17) rfl)) e0 (g := (mkF m 1 #[.val (.ref a1), .val (.ref x1), .val (.long x2), .second, .val (.ref x3)] [(.ref a1)])) rfl (by rw [hml]; rfl) rfl (hb hby d1_1) (by decide) (W := 0) (by show 2 * 0 + _ ≤ _; exact Nat.le_of_eq rfl) (by decide)
  refine own_via st1 ?_
  show own_G p.tables e below _ (T1.setTop (mkF m 4 #[.val (.ref a1), .val (.ref x1), .val (.long x2), .second, .val (.ref x3)] []))
  refine own_via (S' := T1.setTop (mkF m 6 #[.val (.ref a1), .val (.ref x1), .val (.long x2), .second, .val (.ref x3)] [(.ref x1), (.ref a1)])) (fun t k => ?_) ?_
  · show Steps p.tables e below (T1.setTop (mkF m 4 #[.val (.ref a1), .val (.ref x1), .val (.long x2), .second, .val (.ref x3)] [])) t
    refine XS.aloadN X1.here hx rfl (hb hby d1_4) rfl rfl ?_
    show Steps p.tables e below (T1.setTop (mkF m 5 #[.val (.ref a1), .val (.ref x1), .val (.long x2), .second, .val (.ref x3)] [(.ref a1)])) t
    refine XS.aloadN X1.here hx rfl (hb hby d1_5) rfl rfl ?_
    exact k
  obtain ⟨T2, h2, X2, e2, W2, st2⟩ := putF X1 hx hZ hown (host := "") (Or.inl (hw _ (List.mem_of_getElem? (i := 18) rfl))) Via.refl e1 F0_0 E_a1 (Or.inr ⟨(hw _ (List.mem_of_getElem? (i := 19) rfl)), rfl, hnm⟩) (hw _ (List.mem_of_getElem? (i := 3) rfl)) (ty := (.object "java/lang/String")) (by decide) rfl rfl (g := (mkF m 6 #[.val (.ref a1), .val (.ref x1), .val (.long x2), .second, .val (.ref x3)] [(.ref x1), (.ref a1)])) rfl rfl (hb hby d1_6)
  have F2 := Fld.same W2 F0_0
  have K3 : Keep h0 h2 [a1] := Keep.wr K0 W2 (Or.inl (List.mem_of_getElem? (i := 0) rfl))
  have N3 := Fr.snoc X2 N0 g_a1
  refine own_via st2 ?_
  show own_G p.tables e below _ (T2.setTop (mkF m 9 #[.val (.ref a1), .val (.ref x1), .val (.long x2), .second, .val (.ref x3)] []))
  refine own_via (S' := T2.setTop (mkF m 11 #[.val (.ref a1), .val (.ref x1), .val (.long x2), .second, .val (.ref x3)] [(.long x2), (.ref a1)])) (fun t k => ?_) ?_
  · show Steps p.tables e below (T2.setTop (mkF m 9 #[.val (.ref a1), .val (.ref x1), .val (.long x2), .second, .val (.ref x3)] [])) t
    refine XS.aloadN X2.here hx rfl (hb hby d1_9) rfl rfl ?_
    show Steps p.tables e below (T2.setTop (mkF m 10 #[.val (.ref a1), .val (.ref x1), .val (.long x2), .second, .val (.ref x3)] [(.ref a1)])) t
    refine XS.lloadN X2.here hx rfl (hb hby d1_10) rfl ?_
    exact k
  have c4 := (Fld.other W2 F1_0 (Or.inr (slot_ne (Or.inr (hw _ (List.mem_of_getElem? (i := 21) rfl))) (Or.inr (hw _ (List.mem_of_getElem? (i := 19) rfl))) (by decide) (t := .long) (t' := (.object "java/lang/String")) (by decide) (by decide))))
  have c5 := (Exa.wr W2 E_a1)
  obtain ⟨T6, h6, X6, e6, W6, st6⟩ := putF X2 hx hZ hown (host := "") (Or.inl (hw _ (List.mem_of_getElem? (i := 20) rfl))) Via.refl e2 c4 c5 (Or.inr ⟨(hw _ (List.mem_of_getElem? (i := 21) rfl)), rfl, hnm⟩) (hw _ (List.mem_of_getElem? (i := 3) rfl)) (ty := .long) (by decide) rfl rfl (g := (mkF m 11 #[.val (.ref a1), .val (.ref x1), .val (.long x2), .second, .val (.ref x3)] [(.long x2), (.ref a1)])) rfl rfl (hb hby d1_11)
  have F6 := Fld.same W6 c4
  have K7 : Keep h0 h6 [a1] := Keep.wr K3 W6 (Or.inl (List.mem_of_getElem? (i := 0) rfl))
  have N7 := Fr.snoc X6 N3 g_a1
  refine own_via st6 ?_
  show own_G p.tables e below _ (T6.setTop (mkF m 14 #[.val (.ref a1), .val (.ref x1), .val (.long x2), .second, .val (.ref x3)] []))
  refine own_via (S' := T6.setTop (mkF m 17 #[.val (.ref a1), .val (.ref x1), .val (.long x2), .second, .val (.ref x3)] [(.ref x3), (.ref a1)])) (fun t k => ?_) ?_
  · show Steps p.tables e below (T6.setTop (mkF m 14 #[.val (.ref a1), .val (.ref x1), .val (.long x2), .second, .val (.ref x3)] [])) t
    refine XS.aloadN X6.here hx rfl (hb hby d1_14) rfl rfl ?_
    show Steps p.tables e below (T6.setTop (mkF m 15 #[.val (.ref a1), .val (.ref x1), .val (.long x2), .second, .val (.ref x3)] [(.ref a1)])) t
    refine XS.aload X6.here hx rfl (hb hby d1_15) rfl rfl ?_
    exact k
  have c8 := (Fld.other W6 (Fld.other W2 F2_0 (Or.inr (slot_ne (Or.inr (hw _ (List.mem_of_getElem? (i := 23) rfl))) (Or.inr (hw _ (List.mem_of_getElem? (i := 19) rfl))) (by decide) (t := (.array .byte)) (t' := (.object "java/lang/String")) (by decide) (by decide)))) (Or.inr (slot_ne (Or.inr (hw _ (List.mem_of_getElem? (i := 23) rfl))) (Or.inr (hw _ (List.mem_of_getElem? (i := 21) rfl))) (by decide) (t := (.array .byte)) (t' := .long) (by decide) (by decide))))
  have c9 := (Exa.wr W6 c5)
  obtain ⟨T10, h10, X10, e10, W10, st10⟩ := putF X6 hx hZ hown (host := "") (Or.inl (hw _ (List.mem_of_getElem? (i := 22) rfl))) Via.refl e6 c8 c9 (Or.inr ⟨(hw _ (List.mem_of_getElem? (i := 23) rfl)), rfl, hnm⟩) (hw _ (List.mem_of_getElem? (i := 3) rfl)) (ty := (.array .byte)) (by decide) rfl rfl (g := (mkF m 17 #[.val (.ref a1), .val (.ref x1), .val (.long x2), .second, .val (.ref x3)] [(.ref x3), (.ref a1)])) rfl rfl (hb hby d1_17)
  have F10 := Fld.same W10 c8
  have K11 : Keep h0 h10 [a1] := Keep.wr K7 W10 (Or.inl (List.mem_of_getElem? (i := 0) rfl))
  have N11 := Fr.snoc X10 N7 g_a1
  refine own_via st10 ?_
  show own_G p.tables e below _ (T10.setTop (mkF m 20 #[.val (.ref a1), .val (.ref x1), .val (.long x2), .second, .val (.ref x3)] []))
  have c12 := (Exa.wr W10 c9)
  have c13 := (Fld.other W10 (Fld.other W6 F2 (Or.inr (slot_ne (Or.inr (hw _ (List.mem_of_getElem? (i := 19) rfl))) (Or.inr (hw _ (List.mem_of_getElem? (i := 21) rfl))) (by decide) (t := (.object "java/lang/String")) (t' := .long) (by decide) (by decide)))) (Or.inr (slot_ne (Or.inr (hw _ (List.mem_of_getElem? (i := 19) rfl))) (Or.inr (hw _ (List.mem_of_getElem? (i := 23) rfl))) (by decide) (t := (.object "java/lang/String")) (t' := (.array .byte)) (by decide) (by decide))))
  have c14 := (Fld.other W10 F6 (Or.inr (slot_ne (Or.inr (hw _ (List.mem_of_getElem? (i := 21) rfl))) (Or.inr (hw _ (List.mem_of_getElem? (i := 23) rfl))) (by decide) (t := .long) (t' := (.array .byte)) (by decide) (by decide))))
  exact own_end (h := h10) X10 (v := none) Bd.notSynchronized (fun _ => rfl) (fun fs hr => X10.returnOut hx Bd.returns (hb hby d1_20) hr) e10 ⟨rfl, N11, K11, c12, c13, c14, F10⟩ (by decide) (by decide)
theorem d3_0 : decode prog_3_method_4_code 0 = .ok (.iconst 0, 1) := by decide +kernel
theorem d3_1 : decode prog_3_method_4_code 1 = .ok (.istore_n 3, 1) := by decide +kernel
theorem d3_2 : decode prog_3_method_4_code 2 = .ok (.iload_n 1, 1) := by decide +kernel
theorem d3_3 : decode prog_3_method_4_code 3 = .ok (.istore 4, 2) := by decide +kernel
theorem d3_5 : decode prog_3_method_4_code 5 = .ok (.iload 4, 2) := by decide +kernel
theorem d3_7 : decode prog_3_method_4_code 7 = .ok (.iload_n 1, 1) := by decide +kernel
theorem d3_8 : decode prog_3_method_4_code 8 = .ok (.iload_n 2, 1) := by decide +kernel
theorem d3_9 : decode prog_3_method_4_code 9 = .ok (.iadd, 1) := by decide +kernel
theorem d3_10 : decode prog_3_method_4_code 10 = .ok (.if_icmp .ge 26, 3) := by decide +kernel
theorem d3_13 : decode prog_3_method_4_code 13 = .ok (.iload_n 3, 1) := by decide +kernel
theorem d3_14 : decode prog_3_method_4_code 14 = .ok (.bipush 8, 2) := by decide +kernel
theorem d3_16 : decode prog_3_method_4_code 16 = .ok (.ishl, 1) := by decide +kernel
theorem d3_17 : decode prog_3_method_4_code 17 = .ok (.aload_n 0, 1) := by decide +kernel
theorem d3_18 : decode prog_3_method_4_code 18 = .ok (.getfield 17, 3) := by decide +kernel
theorem d3_21 : decode prog_3_method_4_code 21 = .ok (.iload 4, 2) := by decide +kernel
theorem d3_23 : decode prog_3_method_4_code 23 = .ok (.baload, 1) := by decide +kernel
theorem d3_24 : decode prog_3_method_4_code 24 = .ok (.sipush 255, 3) := by decide +kernel
theorem d3_27 : decode prog_3_method_4_code 27 = .ok (.iand, 1) := by decide +kernel
theorem d3_28 : decode prog_3_method_4_code 28 = .ok (.ior, 1) := by decide +kernel
theorem d3_29 : decode prog_3_method_4_code 29 = .ok (.istore_n 3, 1) := by decide +kernel
theorem d3_30 : decode prog_3_method_4_code 30 = .ok (.iinc 4 1, 3) := by decide +kernel
theorem d3_33 : decode prog_3_method_4_code 33 = .ok (.goto (-28), 3) := by decide +kernel
theorem d3_36 : decode prog_3_method_4_code 36 = .ok (.iload_n 3, 1) := by decide +kernel
theorem d3_37 : decode prog_3_method_4_code 37 = .ok (.ireturn, 1) := by decide +kernel
theorem pn3 : plainName "com/example/altigate/altigate/asterix/DataBlock" = true := by first | (simp [plainName, overriddenIn]; done) | decide +kernel
theorem ef3 (m : MethodId) (x0 : Addr) (x1 : Int32) (x2 : Int32) : entryFrame m #[(.ref x0), (.int x1), (.int x2)] 5 = mkF m 0 #[.val (.ref x0), .val (.int x1), .val (.int x2), .unset, .unset] [] := by first | (simp [entryFrame, mkF, argsToLocals, Value.category]; done) | rfl
def Q3 (Z : State) (a1 : Addr) (p2 : Int32) (p3 : Int32) (bo : Addr) (k : ClassId) (z : Int32) (xs : List Int32) (rr : Nat) (h0 : Heap) (n0 : Nat) (v : Option Value) (h : Heap) (L : List Loc) : Prop := v = some (.int (own_sl xs p2 rr (0 : Int32))) ∧ Fr n0 L ∧ h = h0
set_option maxRecDepth 65536 in
set_option maxHeartbeats 40000000 in
theorem rm3 (l : Launch) (Z : State) (a0 : Array Value) (hw : ∀ d ∈ tables_1, d.before a0 Z = true) (ws : List Jvm.Cond) (a1 : Addr) (p2 : Int32) (p3 : Int32) (bo : Addr) (k : ClassId) (z : Int32) (xs : List Int32) (rr : Nat) (h0 : Heap) (n0 : Nat) (Z0 : n0 ≤ h0.size) (F1 : Fld Z h0 a1 "com/example/altigate/altigate/asterix/DataBlock" "octets" "[B" (.ref bo)) (V1 : own_Ar Z h0 bo k .byte z (List.map Value.int xs) (.int (0 : Int32))) (hi0 : ¬ p2 < 0) (hr0 : (p2).toNatClampNeg + rr = (p2 + p3).toNatClampNeg) (hlz : ¬ (p2 + p3) < 0) (hlim : ¬ z < (p2 + p3)) :
    MetFree l (⟨"com/example/altigate/altigate/asterix/DataBlock", "unsigned", "(II)I"⟩ : MethodName) (head1 (Jvm.Cond.code (⟨"com/example/altigate/altigate/asterix/DataBlock", "unsigned", "(II)I"⟩ : MethodName) prog_3_method_4_code 5 (some .int) :: ws) ({ frames := 0, cells := 0, slots := 0, locals := 0 } : Room)) (fun a U => a = #[(.ref a1), (.int p2), (.int p3)] ∧ Z.Warmed39 U.vm ∧ U.heap = h0) (fun _ _ _ _ _ => True) (fun _ U o U' => ∃ v L, o = .returned v ∧ Q3 Z a1 p2 p3 bo k z xs rr h0 n0 v U'.heap L ∧ FrameEnd U o U' L ({ frames := 0, cells := 0, slots := 0, locals := 0 } : Room).cells ({ frames := 0, cells := 0, slots := 0, locals := 0 } : Room).slots) := by
  refine MetFree.of_bodySF (plainFor_of_name pn3) hisR ?_
  intro p e s m args below meth c s₁ Bd hml0 hP hK
  obtain ⟨rfl, hZ, hh⟩ := hP
  have hx := Bd.exec
  have hby := Bd.bytes
  have hml : c.maxLocals = 5 := hml0
  have hown : s.vm.findClass "com/example/altigate/altigate/asterix/DataBlock" = some m.cls := findClass_of_methodNamed Bd.named
  have hnm := (name_of_methodNamed Bd.named Bd.method).1
  have X0 : Stand p l e ({ frames := 0, cells := 0, slots := 0, locals := 0 } : Room) s m #[(.ref a1), (.int p2), (.int p3)] below meth c s₁ [] 0 0 := Stand.of_body Bd
  have e0 : s₁.heap = h0 := by rw [← hh, Bd.state]; rfl
  have N0 := Fr.nil n0
  refine (show own_G p.tables e below (own_P s (Q3 Z a1 p2 p3 bo k z xs rr h0 n0) 0 0) (s₁.setTop (entryFrame m #[(.ref a1), (.int p2), (.int p3)] 5)) from ?_)
  refine own_via (fun t k => castTop (ef3 m a1 p2 p3) k) ?_
  show own_G p.tables e below _ (s₁.setTop (mkF m 0 #[.val (.ref a1), .val (.int p2), .val (.int p3), .unset, .unset] []))
  refine own_via (S' := s₁.setTop (mkF m 5 #[.val (.ref a1), .val (.int p2), .val (.int p3), .val (.int (0 : Int32)), .val (.int p2)] [])) (fun t k => ?_) ?_
  · show Steps p.tables e below (s₁.setTop (mkF m 0 #[.val (.ref a1), .val (.int p2), .val (.int p3), .unset, .unset] [])) t
    refine XS.iconst X0.here hx rfl (hb hby d3_0) ?_
    show Steps p.tables e below (s₁.setTop (mkF m 1 #[.val (.ref a1), .val (.int p2), .val (.int p3), .unset, .unset] [(.int (0 : Int32))])) t
    refine XS.istoreN X0.here hx rfl (hb hby d3_1) rfl (l' := #[.val (.ref a1), .val (.int p2), .val (.int p3), .val (.int (0 : Int32)), .unset]) rfl ?_
    show Steps p.tables e below (s₁.setTop (mkF m 2 #[.val (.ref a1), .val (.int p2), .val (.int p3), .val (.int (0 : Int32)), .unset] [])) t
    refine XS.iloadN X0.here hx rfl (hb hby d3_2) rfl ?_
    show Steps p.tables e below (s₁.setTop (mkF m 3 #[.val (.ref a1), .val (.int p2), .val (.int p3), .val (.int (0 : Int32)), .unset] [(.int p2)])) t
    refine XS.istore X0.here hx rfl (hb hby d3_3) rfl (l' := #[.val (.ref a1), .val (.int p2), .val (.int p3), .val (.int (0 : Int32)), .val (.int p2)]) rfl ?_
    exact k
  have loop : ∀ (r : Nat) (T : State) (i vv : Int32), Stand p l e ({ frames := 0, cells := 0, slots := 0, locals := 0 } : Room) s m #[(.ref a1), (.int p2), (.int p3)] below meth c T [] 0 0 → T.heap = h0 → ¬ i < 0 → i.toNatClampNeg + r = (p2 + p3).toNatClampNeg → own_sl xs i r vv = (own_sl xs p2 rr (0 : Int32)) → own_G p.tables e below (own_P s (Q3 Z a1 p2 p3 bo k z xs rr h0 n0) 0 0) (T.setTop (mkF m 5 #[.val (.ref a1), .val (.int p2), .val (.int p3), .val (.int vv), .val (.int i)] [])) := by
    intro r
    induction r with
    | zero =>
      intro T i vv X eT hi hr hv
      refine own_via (S' := T.setTop (mkF m 10 #[.val (.ref a1), .val (.int p2), .val (.int p3), .val (.int vv), .val (.int i)] [(.int (p2 + p3)), (.int i)])) (fun t k => ?_) ?_
      · show Steps p.tables e below (T.setTop (mkF m 5 #[.val (.ref a1), .val (.int p2), .val (.int p3), .val (.int vv), .val (.int i)] [])) t
        refine XS.iload X.here hx rfl (hb hby d3_5) rfl ?_
        show Steps p.tables e below (T.setTop (mkF m 7 #[.val (.ref a1), .val (.int p2), .val (.int p3), .val (.int vv), .val (.int i)] [(.int i)])) t
        refine XS.iloadN X.here hx rfl (hb hby d3_7) rfl ?_
        show Steps p.tables e below (T.setTop (mkF m 8 #[.val (.ref a1), .val (.int p2), .val (.int p3), .val (.int vv), .val (.int i)] [(.int p2), (.int i)])) t
        refine XS.iloadN X.here hx rfl (hb hby d3_8) rfl ?_
        show Steps p.tables e below (T.setTop (mkF m 9 #[.val (.ref a1), .val (.int p2), .val (.int p3), .val (.int vv), .val (.int i)] [(.int p3), (.int p2), (.int i)])) t
        refine XS.iadd X.here hx rfl (hb hby d3_9) rfl ?_
        exact k
      refine own_via (S' := T.setTop (mkF m 36 #[.val (.ref a1), .val (.int p2), .val (.int p3), .val (.int vv), .val (.int i)] [])) (fun t k => XS.icmpYes (g := (mkF m 10 #[.val (.ref a1), .val (.int p2), .val (.int p3), .val (.int vv), .val (.int i)] [(.int (p2 + p3)), (.int i)])) X.here hx rfl (pc0 := 10) (pc' := 36) rfl (hb hby d3_10) rfl (flt (own_out hi hr)).2.1 (by decide) (by decide) k) ?_
      refine own_via (S' := T.setTop (mkF m 37 #[.val (.ref a1), .val (.int p2), .val (.int p3), .val (.int vv), .val (.int i)] [(.int vv)])) (fun t k => ?_) ?_
      · show Steps p.tables e below (T.setTop (mkF m 36 #[.val (.ref a1), .val (.int p2), .val (.int p3), .val (.int vv), .val (.int i)] [])) t
        refine XS.iloadN X.here hx rfl (hb hby d3_36) rfl ?_
        exact k
      exact own_end (h := h0) X (v := some (.int vv)) Bd.notSynchronized (fun h => by rw [Bd.returns] at h; cases h) (fun fs hr => retOut X hx Bd.returns rfl (Or.inl ⟨rfl, Or.inl rfl, _, rfl⟩) (hb hby d3_37) hr) eT ⟨congrArg (fun z => some (Value.int z)) hv, N0, rfl⟩ (by decide) (by decide)
    | succ r ih =>
      intro T i vv X eT hi hr hv
      refine own_via (S' := T.setTop (mkF m 10 #[.val (.ref a1), .val (.int p2), .val (.int p3), .val (.int vv), .val (.int i)] [(.int (p2 + p3)), (.int i)])) (fun t k => ?_) ?_
      · show Steps p.tables e below (T.setTop (mkF m 5 #[.val (.ref a1), .val (.int p2), .val (.int p3), .val (.int vv), .val (.int i)] [])) t
        refine XS.iload X.here hx rfl (hb hby d3_5) rfl ?_
        show Steps p.tables e below (T.setTop (mkF m 7 #[.val (.ref a1), .val (.int p2), .val (.int p3), .val (.int vv), .val (.int i)] [(.int i)])) t
        refine XS.iloadN X.here hx rfl (hb hby d3_7) rfl ?_
        show Steps p.tables e below (T.setTop (mkF m 8 #[.val (.ref a1), .val (.int p2), .val (.int p3), .val (.int vv), .val (.int i)] [(.int p2), (.int i)])) t
        refine XS.iloadN X.here hx rfl (hb hby d3_8) rfl ?_
        show Steps p.tables e below (T.setTop (mkF m 9 #[.val (.ref a1), .val (.int p2), .val (.int p3), .val (.int vv), .val (.int i)] [(.int p3), (.int p2), (.int i)])) t
        refine XS.iadd X.here hx rfl (hb hby d3_9) rfl ?_
        exact k
      refine own_via (S' := T.setTop (mkF m 13 #[.val (.ref a1), .val (.int p2), .val (.int p3), .val (.int vv), .val (.int i)] [])) (fun t k => XS.icmpNo (g := (mkF m 10 #[.val (.ref a1), .val (.int p2), .val (.int p3), .val (.int vv), .val (.int i)] [(.int (p2 + p3)), (.int i)])) X.here hx rfl (hb hby d3_10) rfl (tlt (own_up hi hlz hr).1).2.1 k) ?_
      refine own_via (S' := T.setTop (mkF m 18 #[.val (.ref a1), .val (.int p2), .val (.int p3), .val (.int vv), .val (.int i)] [(.ref a1), (.int (vv <<< ((8 : Int32) &&& 31)))])) (fun t k => ?_) ?_
      · show Steps p.tables e below (T.setTop (mkF m 13 #[.val (.ref a1), .val (.int p2), .val (.int p3), .val (.int vv), .val (.int i)] [])) t
        refine XS.iloadN X.here hx rfl (hb hby d3_13) rfl ?_
        show Steps p.tables e below (T.setTop (mkF m 14 #[.val (.ref a1), .val (.int p2), .val (.int p3), .val (.int vv), .val (.int i)] [(.int vv)])) t
        refine XS.bipush X.here hx rfl (hb hby d3_14) ?_
        show Steps p.tables e below (T.setTop (mkF m 16 #[.val (.ref a1), .val (.int p2), .val (.int p3), .val (.int vv), .val (.int i)] [(.int (8 : Int32)), (.int vv)])) t
        refine XS.ishl X.here hx rfl (hb hby d3_16) rfl ?_
        show Steps p.tables e below (T.setTop (mkF m 17 #[.val (.ref a1), .val (.int p2), .val (.int p3), .val (.int vv), .val (.int i)] [(.int (vv <<< ((8 : Int32) &&& 31)))])) t
        refine XS.aloadN X.here hx rfl (hb hby d3_17) rfl rfl ?_
        exact k
      obtain ⟨T3, X3, e3, st3⟩ := getF X hx hZ hown (host := "") (Or.inl (hw _ (List.mem_of_getElem? (i := 22) rfl))) Via.refl eT F1 (g := (mkF m 18 #[.val (.ref a1), .val (.int p2), .val (.int p3), .val (.int vv), .val (.int i)] [(.ref a1), (.int (vv <<< ((8 : Int32) &&& 31)))])) rfl rfl (hb hby d3_18)
      refine own_via st3 ?_
      show own_G p.tables e below _ (T3.setTop (mkF m 21 #[.val (.ref a1), .val (.int p2), .val (.int p3), .val (.int vv), .val (.int i)] [(.ref bo), (.int (vv <<< ((8 : Int32) &&& 31)))]))
      refine own_via (S' := T3.setTop (mkF m 23 #[.val (.ref a1), .val (.int p2), .val (.int p3), .val (.int vv), .val (.int i)] [(.int i), (.ref bo), (.int (vv <<< ((8 : Int32) &&& 31)))])) (fun t k => ?_) ?_
      · show Steps p.tables e below (T3.setTop (mkF m 21 #[.val (.ref a1), .val (.int p2), .val (.int p3), .val (.int vv), .val (.int i)] [(.ref bo), (.int (vv <<< ((8 : Int32) &&& 31)))])) t
        refine XS.iload X3.here hx rfl (hb hby d3_21) rfl ?_
        exact k
      obtain ⟨⟨cl4, Ar4, q4, S4, Nn4, H4, G4⟩, Le4⟩ := id V1
      have hin4 : ¬ (i < 0 ∨ cl4.slots.size ≤ (i).toNatClampNeg) := inb_of S4 ⟨hi, own_ltz (own_up hi hlz hr).1 hlim⟩
      have hat4 : cl4.slots[(i).toNatClampNeg]? = some (.int (xs.getD (i).toNatClampNeg 0)) := Has.at H4 hin4 (own_gI _ _)
      refine own_via (S' := T3.setTop (mkF m 24 #[.val (.ref a1), .val (.int p2), .val (.int p3), .val (.int vv), .val (.int i)] [(.int (xs.getD (i).toNatClampNeg 0)), (.int (vv <<< ((8 : Int32) &&& 31)))])) (fun t kz_ => X3.baloadBytes hx (j := i) (v := (.int (xs.getD (i).toNatClampNeg 0))) (by rw [e3]; exact Ar4.1) (State.isArrayOf_alike hZ.alike Ar4.2.1) Ar4.2.2 hin4 hat4 (g := (mkF m 23 #[.val (.ref a1), .val (.int p2), .val (.int p3), .val (.int vv), .val (.int i)] [(.int i), (.ref bo), (.int (vv <<< ((8 : Int32) &&& 31)))])) rfl rfl (hb hby d3_23) _ kz_) ?_
      refine own_via (S' := T3.setTop (mkF m 5 #[.val (.ref a1), .val (.int p2), .val (.int p3), .val (.int ((vv <<< ((8 : Int32) &&& 31)) ||| ((xs.getD (i).toNatClampNeg 0) &&& (255 : Int32)))), .val (.int (i + (1 : Int32)))] [])) (fun t k => ?_) ?_
      · show Steps p.tables e below (T3.setTop (mkF m 24 #[.val (.ref a1), .val (.int p2), .val (.int p3), .val (.int vv), .val (.int i)] [(.int (xs.getD (i).toNatClampNeg 0)), (.int (vv <<< ((8 : Int32) &&& 31)))])) t
        refine XS.sipush X3.here hx rfl (hb hby d3_24) ?_
        show Steps p.tables e below (T3.setTop (mkF m 27 #[.val (.ref a1), .val (.int p2), .val (.int p3), .val (.int vv), .val (.int i)] [(.int (255 : Int32)), (.int (xs.getD (i).toNatClampNeg 0)), (.int (vv <<< ((8 : Int32) &&& 31)))])) t
        refine XS.iand X3.here hx rfl (hb hby d3_27) rfl ?_
        show Steps p.tables e below (T3.setTop (mkF m 28 #[.val (.ref a1), .val (.int p2), .val (.int p3), .val (.int vv), .val (.int i)] [(.int ((xs.getD (i).toNatClampNeg 0) &&& (255 : Int32))), (.int (vv <<< ((8 : Int32) &&& 31)))])) t
        refine XS.ior X3.here hx rfl (hb hby d3_28) rfl ?_
        show Steps p.tables e below (T3.setTop (mkF m 29 #[.val (.ref a1), .val (.int p2), .val (.int p3), .val (.int vv), .val (.int i)] [(.int ((vv <<< ((8 : Int32) &&& 31)) ||| ((xs.getD (i).toNatClampNeg 0) &&& (255 : Int32))))])) t
        refine XS.istoreN X3.here hx rfl (hb hby d3_29) rfl (l' := #[.val (.ref a1), .val (.int p2), .val (.int p3), .val (.int ((vv <<< ((8 : Int32) &&& 31)) ||| ((xs.getD (i).toNatClampNeg 0) &&& (255 : Int32)))), .val (.int i)]) rfl ?_
        show Steps p.tables e below (T3.setTop (mkF m 30 #[.val (.ref a1), .val (.int p2), .val (.int p3), .val (.int ((vv <<< ((8 : Int32) &&& 31)) ||| ((xs.getD (i).toNatClampNeg 0) &&& (255 : Int32)))), .val (.int i)] [])) t
        refine XS.iinc X3.here hx rfl (hb hby d3_30) rfl (l' := #[.val (.ref a1), .val (.int p2), .val (.int p3), .val (.int ((vv <<< ((8 : Int32) &&& 31)) ||| ((xs.getD (i).toNatClampNeg 0) &&& (255 : Int32)))), .val (.int (i + (1 : Int32)))]) rfl ?_
        show Steps p.tables e below (T3.setTop (mkF m 33 #[.val (.ref a1), .val (.int p2), .val (.int p3), .val (.int ((vv <<< ((8 : Int32) &&& 31)) ||| ((xs.getD (i).toNatClampNeg 0) &&& (255 : Int32)))), .val (.int (i + (1 : Int32)))] [])) t
        refine XS.goto X3.here hx rfl (pc0 := 33) (pc' := 5) rfl (hb hby d3_33) (by decide) (by decide) ?_
        exact k
      exact ih _ _ _ X3 e3 (own_up hi hlz hr).2.1 (by rw [(own_up hi hlz hr).2.2]; omega) hv
  exact loop rr _ _ _ X0 e0 hi0 hr0 rfl
theorem d4_0 : decode method_2_code 0 = .ok (.aload_n 0, 1) := by decide +kernel
theorem d4_1 : decode method_2_code 1 = .ok (.iload_n 1, 1) := by decide +kernel
theorem d4_2 : decode method_2_code 2 = .ok (.iaload, 1) := by decide +kernel
theorem d4_3 : decode method_2_code 3 = .ok (.ireturn, 1) := by decide +kernel
theorem pn4 : plainName "com/example/altigate/altigate/asterix/DataBlockUnsignedPinLaw" = true := by first | (simp [plainName, overriddenIn]; done) | decide +kernel
theorem ef4 (m : MethodId) (x0 : Addr) (x1 : Int32) : entryFrame m #[(.ref x0), (.int x1)] 2 = mkF m 0 #[.val (.ref x0), .val (.int x1)] [] := by first | (simp [entryFrame, mkF, argsToLocals, Value.category]; done) | rfl
def Q4 (Z : State) (a1 : Addr) (p2 : Int32) (k : ClassId) (xs : List Int32) (h0 : Heap) (n0 : Nat) (v : Option Value) (h : Heap) (L : List Loc) : Prop := v = some (.int (xs.getD (p2).toNatClampNeg 0)) ∧ Fr n0 L ∧ h = h0
set_option maxRecDepth 65536 in
set_option maxHeartbeats 40000000 in
theorem rm4 (l : Launch) (Z : State) (a0 : Array Value) (hw : ∀ d ∈ tables_1, d.before a0 Z = true) (ws : List Jvm.Cond) (a1 : Addr) (p2 : Int32) (k : ClassId) (xs : List Int32) (h0 : Heap) (n0 : Nat) (Z0 : n0 ≤ h0.size) (V1 : own_Ar Z h0 a1 k .int (5 : Int32) (List.map Value.int xs) (.int (0 : Int32))) (hix : ¬ p2 < 0 ∧ p2 < (5 : Int32)) :
    MetFree l (⟨"com/example/altigate/altigate/asterix/DataBlockUnsignedPinLaw", "at", "([II)I"⟩ : MethodName) (head1 (Jvm.Cond.code (⟨"com/example/altigate/altigate/asterix/DataBlockUnsignedPinLaw", "at", "([II)I"⟩ : MethodName) method_2_code 2 (some .int) :: ws) ({ frames := 0, cells := 0, slots := 0, locals := 0 } : Room)) (fun a U => a = #[(.ref a1), (.int p2)] ∧ Z.Warmed39 U.vm ∧ U.heap = h0) (fun _ _ _ _ _ => True) (fun _ U o U' => ∃ v L, o = .returned v ∧ Q4 Z a1 p2 k xs h0 n0 v U'.heap L ∧ FrameEnd U o U' L ({ frames := 0, cells := 0, slots := 0, locals := 0 } : Room).cells ({ frames := 0, cells := 0, slots := 0, locals := 0 } : Room).slots) := by
  refine MetFree.of_bodySF (plainFor_of_name pn4) hisR ?_
  intro p e s m args below meth c s₁ Bd hml0 hP hK
  obtain ⟨rfl, hZ, hh⟩ := hP
  have hx := Bd.exec
  have hby := Bd.bytes
  have hml : c.maxLocals = 2 := hml0
  have hown : s.vm.findClass "com/example/altigate/altigate/asterix/DataBlockUnsignedPinLaw" = some m.cls := findClass_of_methodNamed Bd.named
  have hnm := (name_of_methodNamed Bd.named Bd.method).1
  have X0 : Stand p l e ({ frames := 0, cells := 0, slots := 0, locals := 0 } : Room) s m #[(.ref a1), (.int p2)] below meth c s₁ [] 0 0 := Stand.of_body Bd
  have e0 : s₁.heap = h0 := by rw [← hh, Bd.state]; rfl
  have N0 := Fr.nil n0
  refine (show own_G p.tables e below (own_P s (Q4 Z a1 p2 k xs h0 n0) 0 0) (s₁.setTop (entryFrame m #[(.ref a1), (.int p2)] 2)) from ?_)
  refine own_via (fun t k => castTop (ef4 m a1 p2) k) ?_
  show own_G p.tables e below _ (s₁.setTop (mkF m 0 #[.val (.ref a1), .val (.int p2)] []))
  refine own_via (S' := s₁.setTop (mkF m 2 #[.val (.ref a1), .val (.int p2)] [(.int p2), (.ref a1)])) (fun t k => ?_) ?_
  · show Steps p.tables e below (s₁.setTop (mkF m 0 #[.val (.ref a1), .val (.int p2)] [])) t
    refine XS.aloadN X0.here hx rfl (hb hby d4_0) rfl rfl ?_
    show Steps p.tables e below (s₁.setTop (mkF m 1 #[.val (.ref a1), .val (.int p2)] [(.ref a1)])) t
    refine XS.iloadN X0.here hx rfl (hb hby d4_1) rfl ?_
    exact k
  obtain ⟨⟨cl1, Ar1, q1, S1, Nn1, H1, G1⟩, Le1⟩ := id V1
  have hin1 : ¬ (p2 < 0 ∨ cl1.slots.size ≤ (p2).toNatClampNeg) := inb_of S1 hix
  have hat1 : cl1.slots[(p2).toNatClampNeg]? = some (.int (xs.getD (p2).toNatClampNeg 0)) := Has.at H1 hin1 (own_gI _ _)
  refine own_via (S' := s₁.setTop (mkF m 3 #[.val (.ref a1), .val (.int p2)] [(.int (xs.getD (p2).toNatClampNeg 0))])) (fun t kz_ => X0.iaload hx (j := p2) (v := (.int (xs.getD (p2).toNatClampNeg 0))) (by rw [e0]; exact Ar1.1) (State.isArrayOf_alike hZ.alike Ar1.2.1) Ar1.2.2 hin1 hat1 (g := (mkF m 2 #[.val (.ref a1), .val (.int p2)] [(.int p2), (.ref a1)])) rfl rfl (hb hby d4_2) _ kz_) ?_
  exact own_end (h := h0) X0 (v := some (.int (xs.getD (p2).toNatClampNeg 0))) Bd.notSynchronized (fun h => by rw [Bd.returns] at h; cases h) (fun fs hr => retOut X0 hx Bd.returns rfl (Or.inl ⟨rfl, Or.inl rfl, _, rfl⟩) (hb hby d4_3) hr) e0 ⟨rfl, N0, rfl⟩ (by decide) (by decide)
theorem pn0 : plainName "com/example/altigate/altigate/asterix/DataBlockUnsignedPinLaw" = true := by first | (simp [plainName, overriddenIn]; done) | decide +kernel
theorem pd_0 : parseMethodDescriptor "(Ljava/lang/String;J[B)V" = some ⟨[(.object "java/lang/String"), .long, (.array .byte)], none⟩ := by decide +kernel
theorem pd_1 : parseMethodDescriptor "(II)I" = some ⟨[.int, .int], some .int⟩ := by decide +kernel
theorem pd_2 : parseMethodDescriptor "([II)I" = some ⟨[(.array .int), .int], some .int⟩ := by decide +kernel
theorem ef0 (m : MethodId) (x0 : Int32) (x1 : Int32) (x2 : Int32) (x3 : Int32) (x4 : Int32) (x5 : Int32) : entryFrame m #[(.int x0), (.int x1), (.int x2), (.int x3), (.int x4), (.int x5)] maxLocals = mkF m 0 #[.val (.int x0), .val (.int x1), .val (.int x2), .val (.int x3), .val (.int x4), .val (.int x5), .unset, .unset, .unset, .unset, .unset, .unset, .unset] [] := by first | (simp [entryFrame, mkF, argsToLocals, Value.category, maxLocals]; done) | rfl
def Q0 (Z : State) (p1 : Int32) (p2 : Int32) (p3 : Int32) (p4 : Int32) (p5 : Int32) (p6 : Int32) (h0 : Heap) (n0 : Nat) (v : Option Value) (h : Heap) (L : List Loc) : Prop := v = some (.int 1) ∧ Fr n0 L
set_option maxRecDepth 65536 in
set_option maxHeartbeats 40000000 in
theorem rm0 (l : Launch) (Z : State) (a0 : Array Value) (hw : ∀ d ∈ tables_1, d.before a0 Z = true) (ws : List Jvm.Cond) (p1 : Int32) (p2 : Int32) (p3 : Int32) (p4 : Int32) (p5 : Int32) (p6 : Int32) (h0 : Heap) (n0 : Nat) (Z0 : n0 ≤ h0.size) :
    MetFree l x (head1 (Jvm.Cond.code x code maxLocals ret :: ws) room_1) (fun a U => a = #[(.int p1), (.int p2), (.int p3), (.int p4), (.int p5), (.int p6)] ∧ Z.Warmed39 U.vm ∧ U.heap = h0) (fun _ _ _ _ _ => True) (fun _ U o U' => ∃ v L, o = .returned v ∧ Q0 Z p1 p2 p3 p4 p5 p6 h0 n0 v U'.heap L ∧ ReturnedEndW U o U' L 16 1152) := by
  refine MetFree.of_bodySF (plainFor_of_name pn0) hisR ?_
  intro p e s m args below meth c s₁ Bd hml0 hP hK
  obtain ⟨rfl, hZ, hh⟩ := hP
  have hx := Bd.exec
  have hby := Bd.bytes
  have hml : c.maxLocals = 13 := hml0
  have hown : s.vm.findClass "com/example/altigate/altigate/asterix/DataBlockUnsignedPinLaw" = some m.cls := findClass_of_methodNamed Bd.named
  have hnm := (name_of_methodNamed Bd.named Bd.method).1
  have X0 : Stand p l e room_1 s m #[(.int p1), (.int p2), (.int p3), (.int p4), (.int p5), (.int p6)] below meth c s₁ [] 0 0 := Stand.of_body Bd
  have e0 : s₁.heap = h0 := by rw [← hh, Bd.state]; rfl
  have N0 := Fr.nil n0
  refine (show own_G p.tables e below (own_PW s (Q0 Z p1 p2 p3 p4 p5 p6 h0 n0) 16 1152) (s₁.setTop (entryFrame m #[(.int p1), (.int p2), (.int p3), (.int p4), (.int p5), (.int p6)] maxLocals)) from ?_)
  have X0 : Stand p l e room_1 (s.setVm s.vm) m #[(.int p1), (.int p2), (.int p3), (.int p4), (.int p5), (.int p6)] below meth c s₁ [] 0 0 := X0
  have hZ : Z.Warmed39 (s.setVm s.vm).vm := hZ
  have hown : (s.setVm s.vm).vm.findClass "com/example/altigate/altigate/asterix/DataBlockUnsignedPinLaw" = some m.cls := hown
  have hS0 : s.Since s.vm 0 := own_since s
  have wS : ∀ d ∈ Bundle.stringAtoms, d.before a0 Z = true := by
    intro d hd
    simp only [Bundle.stringAtoms, List.mem_cons, List.not_mem_nil, or_false] at hd
    rcases hd with rfl | rfl | rfl | rfl | rfl | rfl | rfl
    · exact (hw _ (List.mem_of_getElem? (i := 6) rfl))
    · exact (hw _ (List.mem_of_getElem? (i := 7) rfl))
    · exact (hw _ (List.mem_of_getElem? (i := 0) rfl))
    · exact (hw _ (List.mem_of_getElem? (i := 8) rfl))
    · exact (hw _ (List.mem_of_getElem? (i := 9) rfl))
    · exact (hw _ (List.mem_of_getElem? (i := 10) rfl))
    · exact (hw _ (List.mem_of_getElem? (i := 11) rfl))
  refine own_via (fun t k => castTop (ef0 m p1 p2 p3 p4 p5 p6) k) ?_
  show own_G p.tables e below _ (s₁.setTop (mkF m 0 #[.val (.int p1), .val (.int p2), .val (.int p3), .val (.int p4), .val (.int p5), .val (.int p6), .unset, .unset, .unset, .unset, .unset, .unset, .unset] []))
  have K0 := Keep.refl h0 []
  refine own_via (S' := s₁.setTop (mkF m 1 #[.val (.int p1), .val (.int p2), .val (.int p3), .val (.int p4), .val (.int p5), .val (.int p6), .unset, .unset, .unset, .unset, .unset, .unset, .unset] [(.int (5 : Int32))])) (fun t k => ?_) ?_
  · show Steps p.tables e below (s₁.setTop (mkF m 0 #[.val (.int p1), .val (.int p2), .val (.int p3), .val (.int p4), .val (.int p5), .val (.int p6), .unset, .unset, .unset, .unset, .unset, .unset, .unset] [])) t
    refine XS.iconst X0.here hx rfl (hb hby at_0) ?_
    exact k
  obtain ⟨T1, h1, k1, X1, e1, E1, A1, st1⟩ := newP X0 hx hZ (hw _ (List.mem_of_getElem? (i := 0) rfl)) e0 (g := (mkF m 1 #[.val (.int p1), .val (.int p2), .val (.int p3), .val (.int p4), .val (.int p5), .val (.int p6), .unset, .unset, .unset, .unset, .unset, .unset, .unset] [(.int (5 : Int32))])) rfl (hb hby at_1) rfl (by decide) (cap := 5) (by decide) (by decide) (by decide) (by decide)
  obtain ⟨b1, g1⟩ : ∃ z, z = h0.size := ⟨_, rfl⟩
  have g_b1 : n0 ≤ b1 := Nat.le_trans (Nat.le_trans Z0 K0.1) (Nat.le_of_eq g1.symm)
  have sz_b1 : h0.size ≤ b1 := Nat.le_trans K0.1 (Nat.le_of_eq g1.symm)
  rw [← g1] at A1 st1
  have K1 : Keep h0 h1 [] := Keep.ext K0 E1
  have V_b1 : Arv Z h1 b1 k1 .byte (5 : Int32) [(.int (0 : Int32)), (.int (0 : Int32)), (.int (0 : Int32)), (.int (0 : Int32)), (.int (0 : Int32))] (.int (0 : Int32)) := (Arv.new A1 (by decide)).pad (pad_rep [] (.int (0 : Int32)) 5)
  refine own_via st1 ?_
  show own_G p.tables e below _ (T1.setTop (mkF m 3 #[.val (.int p1), .val (.int p2), .val (.int p3), .val (.int p4), .val (.int p5), .val (.int p6), .unset, .unset, .unset, .unset, .unset, .unset, .unset] [(.ref b1)]))
  refine own_via (S' := T1.setTop (mkF m 7 #[.val (.int p1), .val (.int p2), .val (.int p3), .val (.int p4), .val (.int p5), .val (.int p6), .unset, .unset, .unset, .unset, .unset, .unset, .unset] [(.int (p1.toInt8.toInt32)), (.int (0 : Int32)), (.ref b1), (.ref b1)])) (fun t k => ?_) ?_
  · show Steps p.tables e below (T1.setTop (mkF m 3 #[.val (.int p1), .val (.int p2), .val (.int p3), .val (.int p4), .val (.int p5), .val (.int p6), .unset, .unset, .unset, .unset, .unset, .unset, .unset] [(.ref b1)])) t
    refine XS.dup X1.here hx rfl (hb hby at_3) rfl rfl ?_
    show Steps p.tables e below (T1.setTop (mkF m 4 #[.val (.int p1), .val (.int p2), .val (.int p3), .val (.int p4), .val (.int p5), .val (.int p6), .unset, .unset, .unset, .unset, .unset, .unset, .unset] [(.ref b1), (.ref b1)])) t
    refine XS.iconst X1.here hx rfl (hb hby at_4) ?_
    show Steps p.tables e below (T1.setTop (mkF m 5 #[.val (.int p1), .val (.int p2), .val (.int p3), .val (.int p4), .val (.int p5), .val (.int p6), .unset, .unset, .unset, .unset, .unset, .unset, .unset] [(.int (0 : Int32)), (.ref b1), (.ref b1)])) t
    refine XS.iloadN X1.here hx rfl (hb hby at_5) rfl ?_
    show Steps p.tables e below (T1.setTop (mkF m 6 #[.val (.int p1), .val (.int p2), .val (.int p3), .val (.int p4), .val (.int p5), .val (.int p6), .unset, .unset, .unset, .unset, .unset, .unset, .unset] [(.int p1), (.int (0 : Int32)), (.ref b1), (.ref b1)])) t
    refine XS.i2b X1.here hx rfl (hb hby at_6) rfl ?_
    exact k
  obtain ⟨cl2, Ar2, q2, S2, Nn2, H2, G2⟩ := id V_b1
  have hin2 : ¬ ((0 : Int32) < 0 ∨ cl2.slots.size ≤ ((0 : Int32)).toNatClampNeg) := inb_of S2 ⟨by decide, by decide⟩
  obtain ⟨T2, h2, X2, e2, W2, st2⟩ := stB X1 hx hZ e1 Ar2 (j := (0 : Int32)) hin2 (g := (mkF m 7 #[.val (.int p1), .val (.int p2), .val (.int p3), .val (.int p4), .val (.int p5), .val (.int p6), .unset, .unset, .unset, .unset, .unset, .unset, .unset] [(.int (p1.toInt8.toInt32)), (.int (0 : Int32)), (.ref b1), (.ref b1)])) rfl rfl (hb hby at_7)
  have V2 : Arv Z h2 b1 k1 .byte (5 : Int32) [(.int (nar .byte (p1.toInt8.toInt32))), (.int (0 : Int32)), (.int (0 : Int32)), (.int (0 : Int32)), (.int (0 : Int32))] (.int (0 : Int32)) := Arv.set Ar2 q2 S2 Nn2 H2 G2 (fits_nar_byte _) W2 0 rfl (Nat.le_of_ble_eq_true rfl)
  have K3 : Keep h0 h2 [] := Keep.wr K1 W2 (Or.inr sz_b1)
  have N3 := Fr.snoc X2 N0 g_b1
  refine own_via st2 ?_
  show own_G p.tables e below _ (T2.setTop (mkF m 8 #[.val (.int p1), .val (.int p2), .val (.int p3), .val (.int p4), .val (.int p5), .val (.int p6), .unset, .unset, .unset, .unset, .unset, .unset, .unset] [(.ref b1)]))
  refine own_via (S' := T2.setTop (mkF m 12 #[.val (.int p1), .val (.int p2), .val (.int p3), .val (.int p4), .val (.int p5), .val (.int p6), .unset, .unset, .unset, .unset, .unset, .unset, .unset] [(.int (p2.toInt8.toInt32)), (.int (1 : Int32)), (.ref b1), (.ref b1)])) (fun t k => ?_) ?_
  · show Steps p.tables e below (T2.setTop (mkF m 8 #[.val (.int p1), .val (.int p2), .val (.int p3), .val (.int p4), .val (.int p5), .val (.int p6), .unset, .unset, .unset, .unset, .unset, .unset, .unset] [(.ref b1)])) t
    refine XS.dup X2.here hx rfl (hb hby at_8) rfl rfl ?_
    show Steps p.tables e below (T2.setTop (mkF m 9 #[.val (.int p1), .val (.int p2), .val (.int p3), .val (.int p4), .val (.int p5), .val (.int p6), .unset, .unset, .unset, .unset, .unset, .unset, .unset] [(.ref b1), (.ref b1)])) t
    refine XS.iconst X2.here hx rfl (hb hby at_9) ?_
    show Steps p.tables e below (T2.setTop (mkF m 10 #[.val (.int p1), .val (.int p2), .val (.int p3), .val (.int p4), .val (.int p5), .val (.int p6), .unset, .unset, .unset, .unset, .unset, .unset, .unset] [(.int (1 : Int32)), (.ref b1), (.ref b1)])) t
    refine XS.iloadN X2.here hx rfl (hb hby at_10) rfl ?_
    show Steps p.tables e below (T2.setTop (mkF m 11 #[.val (.int p1), .val (.int p2), .val (.int p3), .val (.int p4), .val (.int p5), .val (.int p6), .unset, .unset, .unset, .unset, .unset, .unset, .unset] [(.int p2), (.int (1 : Int32)), (.ref b1), (.ref b1)])) t
    refine XS.i2b X2.here hx rfl (hb hby at_11) rfl ?_
    exact k
  obtain ⟨cl4, Ar4, q4, S4, Nn4, H4, G4⟩ := id V2
  have hin4 : ¬ ((1 : Int32) < 0 ∨ cl4.slots.size ≤ ((1 : Int32)).toNatClampNeg) := inb_of S4 ⟨by decide, by decide⟩
  obtain ⟨T4, h4, X4, e4, W4, st4⟩ := stB X2 hx hZ e2 Ar4 (j := (1 : Int32)) hin4 (g := (mkF m 12 #[.val (.int p1), .val (.int p2), .val (.int p3), .val (.int p4), .val (.int p5), .val (.int p6), .unset, .unset, .unset, .unset, .unset, .unset, .unset] [(.int (p2.toInt8.toInt32)), (.int (1 : Int32)), (.ref b1), (.ref b1)])) rfl rfl (hb hby at_12)
  have V4 : Arv Z h4 b1 k1 .byte (5 : Int32) [(.int (nar .byte (p1.toInt8.toInt32))), (.int (nar .byte (p2.toInt8.toInt32))), (.int (0 : Int32)), (.int (0 : Int32)), (.int (0 : Int32))] (.int (0 : Int32)) := Arv.set Ar4 q4 S4 Nn4 H4 G4 (fits_nar_byte _) W4 1 rfl (Nat.le_of_ble_eq_true rfl)
  have K5 : Keep h0 h4 [] := Keep.wr K3 W4 (Or.inr sz_b1)
  have N5 := Fr.snoc X4 N3 g_b1
  refine own_via st4 ?_
  show own_G p.tables e below _ (T4.setTop (mkF m 13 #[.val (.int p1), .val (.int p2), .val (.int p3), .val (.int p4), .val (.int p5), .val (.int p6), .unset, .unset, .unset, .unset, .unset, .unset, .unset] [(.ref b1)]))
  refine own_via (S' := T4.setTop (mkF m 17 #[.val (.int p1), .val (.int p2), .val (.int p3), .val (.int p4), .val (.int p5), .val (.int p6), .unset, .unset, .unset, .unset, .unset, .unset, .unset] [(.int (p3.toInt8.toInt32)), (.int (2 : Int32)), (.ref b1), (.ref b1)])) (fun t k => ?_) ?_
  · show Steps p.tables e below (T4.setTop (mkF m 13 #[.val (.int p1), .val (.int p2), .val (.int p3), .val (.int p4), .val (.int p5), .val (.int p6), .unset, .unset, .unset, .unset, .unset, .unset, .unset] [(.ref b1)])) t
    refine XS.dup X4.here hx rfl (hb hby at_13) rfl rfl ?_
    show Steps p.tables e below (T4.setTop (mkF m 14 #[.val (.int p1), .val (.int p2), .val (.int p3), .val (.int p4), .val (.int p5), .val (.int p6), .unset, .unset, .unset, .unset, .unset, .unset, .unset] [(.ref b1), (.ref b1)])) t
    refine XS.iconst X4.here hx rfl (hb hby at_14) ?_
    show Steps p.tables e below (T4.setTop (mkF m 15 #[.val (.int p1), .val (.int p2), .val (.int p3), .val (.int p4), .val (.int p5), .val (.int p6), .unset, .unset, .unset, .unset, .unset, .unset, .unset] [(.int (2 : Int32)), (.ref b1), (.ref b1)])) t
    refine XS.iloadN X4.here hx rfl (hb hby at_15) rfl ?_
    show Steps p.tables e below (T4.setTop (mkF m 16 #[.val (.int p1), .val (.int p2), .val (.int p3), .val (.int p4), .val (.int p5), .val (.int p6), .unset, .unset, .unset, .unset, .unset, .unset, .unset] [(.int p3), (.int (2 : Int32)), (.ref b1), (.ref b1)])) t
    refine XS.i2b X4.here hx rfl (hb hby at_16) rfl ?_
    exact k
  obtain ⟨cl6, Ar6, q6, S6, Nn6, H6, G6⟩ := id V4
  have hin6 : ¬ ((2 : Int32) < 0 ∨ cl6.slots.size ≤ ((2 : Int32)).toNatClampNeg) := inb_of S6 ⟨by decide, by decide⟩
  obtain ⟨T6, h6, X6, e6, W6, st6⟩ := stB X4 hx hZ e4 Ar6 (j := (2 : Int32)) hin6 (g := (mkF m 17 #[.val (.int p1), .val (.int p2), .val (.int p3), .val (.int p4), .val (.int p5), .val (.int p6), .unset, .unset, .unset, .unset, .unset, .unset, .unset] [(.int (p3.toInt8.toInt32)), (.int (2 : Int32)), (.ref b1), (.ref b1)])) rfl rfl (hb hby at_17)
  have V6 : Arv Z h6 b1 k1 .byte (5 : Int32) [(.int (nar .byte (p1.toInt8.toInt32))), (.int (nar .byte (p2.toInt8.toInt32))), (.int (nar .byte (p3.toInt8.toInt32))), (.int (0 : Int32)), (.int (0 : Int32))] (.int (0 : Int32)) := Arv.set Ar6 q6 S6 Nn6 H6 G6 (fits_nar_byte _) W6 2 rfl (Nat.le_of_ble_eq_true rfl)
  have K7 : Keep h0 h6 [] := Keep.wr K5 W6 (Or.inr sz_b1)
  have N7 := Fr.snoc X6 N5 g_b1
  refine own_via st6 ?_
  show own_G p.tables e below _ (T6.setTop (mkF m 18 #[.val (.int p1), .val (.int p2), .val (.int p3), .val (.int p4), .val (.int p5), .val (.int p6), .unset, .unset, .unset, .unset, .unset, .unset, .unset] [(.ref b1)]))
  refine own_via (S' := T6.setTop (mkF m 22 #[.val (.int p1), .val (.int p2), .val (.int p3), .val (.int p4), .val (.int p5), .val (.int p6), .unset, .unset, .unset, .unset, .unset, .unset, .unset] [(.int (p4.toInt8.toInt32)), (.int (3 : Int32)), (.ref b1), (.ref b1)])) (fun t k => ?_) ?_
  · show Steps p.tables e below (T6.setTop (mkF m 18 #[.val (.int p1), .val (.int p2), .val (.int p3), .val (.int p4), .val (.int p5), .val (.int p6), .unset, .unset, .unset, .unset, .unset, .unset, .unset] [(.ref b1)])) t
    refine XS.dup X6.here hx rfl (hb hby at_18) rfl rfl ?_
    show Steps p.tables e below (T6.setTop (mkF m 19 #[.val (.int p1), .val (.int p2), .val (.int p3), .val (.int p4), .val (.int p5), .val (.int p6), .unset, .unset, .unset, .unset, .unset, .unset, .unset] [(.ref b1), (.ref b1)])) t
    refine XS.iconst X6.here hx rfl (hb hby at_19) ?_
    show Steps p.tables e below (T6.setTop (mkF m 20 #[.val (.int p1), .val (.int p2), .val (.int p3), .val (.int p4), .val (.int p5), .val (.int p6), .unset, .unset, .unset, .unset, .unset, .unset, .unset] [(.int (3 : Int32)), (.ref b1), (.ref b1)])) t
    refine XS.iloadN X6.here hx rfl (hb hby at_20) rfl ?_
    show Steps p.tables e below (T6.setTop (mkF m 21 #[.val (.int p1), .val (.int p2), .val (.int p3), .val (.int p4), .val (.int p5), .val (.int p6), .unset, .unset, .unset, .unset, .unset, .unset, .unset] [(.int p4), (.int (3 : Int32)), (.ref b1), (.ref b1)])) t
    refine XS.i2b X6.here hx rfl (hb hby at_21) rfl ?_
    exact k
  obtain ⟨cl8, Ar8, q8, S8, Nn8, H8, G8⟩ := id V6
  have hin8 : ¬ ((3 : Int32) < 0 ∨ cl8.slots.size ≤ ((3 : Int32)).toNatClampNeg) := inb_of S8 ⟨by decide, by decide⟩
  obtain ⟨T8, h8, X8, e8, W8, st8⟩ := stB X6 hx hZ e6 Ar8 (j := (3 : Int32)) hin8 (g := (mkF m 22 #[.val (.int p1), .val (.int p2), .val (.int p3), .val (.int p4), .val (.int p5), .val (.int p6), .unset, .unset, .unset, .unset, .unset, .unset, .unset] [(.int (p4.toInt8.toInt32)), (.int (3 : Int32)), (.ref b1), (.ref b1)])) rfl rfl (hb hby at_22)
  have V8 : Arv Z h8 b1 k1 .byte (5 : Int32) [(.int (nar .byte (p1.toInt8.toInt32))), (.int (nar .byte (p2.toInt8.toInt32))), (.int (nar .byte (p3.toInt8.toInt32))), (.int (nar .byte (p4.toInt8.toInt32))), (.int (0 : Int32))] (.int (0 : Int32)) := Arv.set Ar8 q8 S8 Nn8 H8 G8 (fits_nar_byte _) W8 3 rfl (Nat.le_of_ble_eq_true rfl)
  have K9 : Keep h0 h8 [] := Keep.wr K7 W8 (Or.inr sz_b1)
  have N9 := Fr.snoc X8 N7 g_b1
  refine own_via st8 ?_
  show own_G p.tables e below _ (T8.setTop (mkF m 23 #[.val (.int p1), .val (.int p2), .val (.int p3), .val (.int p4), .val (.int p5), .val (.int p6), .unset, .unset, .unset, .unset, .unset, .unset, .unset] [(.ref b1)]))
  refine own_via (S' := T8.setTop (mkF m 28 #[.val (.int p1), .val (.int p2), .val (.int p3), .val (.int p4), .val (.int p5), .val (.int p6), .unset, .unset, .unset, .unset, .unset, .unset, .unset] [(.int (p5.toInt8.toInt32)), (.int (4 : Int32)), (.ref b1), (.ref b1)])) (fun t k => ?_) ?_
  · show Steps p.tables e below (T8.setTop (mkF m 23 #[.val (.int p1), .val (.int p2), .val (.int p3), .val (.int p4), .val (.int p5), .val (.int p6), .unset, .unset, .unset, .unset, .unset, .unset, .unset] [(.ref b1)])) t
    refine XS.dup X8.here hx rfl (hb hby at_23) rfl rfl ?_
    show Steps p.tables e below (T8.setTop (mkF m 24 #[.val (.int p1), .val (.int p2), .val (.int p3), .val (.int p4), .val (.int p5), .val (.int p6), .unset, .unset, .unset, .unset, .unset, .unset, .unset] [(.ref b1), (.ref b1)])) t
    refine XS.iconst X8.here hx rfl (hb hby at_24) ?_
    show Steps p.tables e below (T8.setTop (mkF m 25 #[.val (.int p1), .val (.int p2), .val (.int p3), .val (.int p4), .val (.int p5), .val (.int p6), .unset, .unset, .unset, .unset, .unset, .unset, .unset] [(.int (4 : Int32)), (.ref b1), (.ref b1)])) t
    refine XS.iload X8.here hx rfl (hb hby at_25) rfl ?_
    show Steps p.tables e below (T8.setTop (mkF m 27 #[.val (.int p1), .val (.int p2), .val (.int p3), .val (.int p4), .val (.int p5), .val (.int p6), .unset, .unset, .unset, .unset, .unset, .unset, .unset] [(.int p5), (.int (4 : Int32)), (.ref b1), (.ref b1)])) t
    refine XS.i2b X8.here hx rfl (hb hby at_27) rfl ?_
    exact k
  obtain ⟨cl10, Ar10, q10, S10, Nn10, H10, G10⟩ := id V8
  have hin10 : ¬ ((4 : Int32) < 0 ∨ cl10.slots.size ≤ ((4 : Int32)).toNatClampNeg) := inb_of S10 ⟨by decide, by decide⟩
  obtain ⟨T10, h10, X10, e10, W10, st10⟩ := stB X8 hx hZ e8 Ar10 (j := (4 : Int32)) hin10 (g := (mkF m 28 #[.val (.int p1), .val (.int p2), .val (.int p3), .val (.int p4), .val (.int p5), .val (.int p6), .unset, .unset, .unset, .unset, .unset, .unset, .unset] [(.int (p5.toInt8.toInt32)), (.int (4 : Int32)), (.ref b1), (.ref b1)])) rfl rfl (hb hby at_28)
  have V10 : Arv Z h10 b1 k1 .byte (5 : Int32) [(.int (nar .byte (p1.toInt8.toInt32))), (.int (nar .byte (p2.toInt8.toInt32))), (.int (nar .byte (p3.toInt8.toInt32))), (.int (nar .byte (p4.toInt8.toInt32))), (.int (nar .byte (p5.toInt8.toInt32)))] (.int (0 : Int32)) := Arv.set Ar10 q10 S10 Nn10 H10 G10 (fits_nar_byte _) W10 4 rfl (Nat.le_of_ble_eq_true rfl)
  have K11 : Keep h0 h10 [] := Keep.wr K9 W10 (Or.inr sz_b1)
  have N11 := Fr.snoc X10 N9 g_b1
  refine own_via st10 ?_
  show own_G p.tables e below _ (T10.setTop (mkF m 29 #[.val (.int p1), .val (.int p2), .val (.int p3), .val (.int p4), .val (.int p5), .val (.int p6), .unset, .unset, .unset, .unset, .unset, .unset, .unset] [(.ref b1)]))
  refine own_via (S' := T10.setTop (mkF m 32 #[.val (.int p1), .val (.int p2), .val (.int p3), .val (.int p4), .val (.int p5), .val (.int p6), .val (.ref b1), .unset, .unset, .unset, .unset, .unset, .unset] [(.int (5 : Int32))])) (fun t k => ?_) ?_
  · show Steps p.tables e below (T10.setTop (mkF m 29 #[.val (.int p1), .val (.int p2), .val (.int p3), .val (.int p4), .val (.int p5), .val (.int p6), .unset, .unset, .unset, .unset, .unset, .unset, .unset] [(.ref b1)])) t
    refine XS.astore X10.here hx rfl (hb hby at_29) rfl rfl (l' := #[.val (.int p1), .val (.int p2), .val (.int p3), .val (.int p4), .val (.int p5), .val (.int p6), .val (.ref b1), .unset, .unset, .unset, .unset, .unset, .unset]) rfl ?_
    show Steps p.tables e below (T10.setTop (mkF m 31 #[.val (.int p1), .val (.int p2), .val (.int p3), .val (.int p4), .val (.int p5), .val (.int p6), .val (.ref b1), .unset, .unset, .unset, .unset, .unset, .unset] [])) t
    refine XS.iconst X10.here hx rfl (hb hby at_31) ?_
    exact k
  obtain ⟨T12, h12, k12, X12, e12, E12, A12, st12⟩ := newP X10 hx hZ (hw _ (List.mem_of_getElem? (i := 1) rfl)) e10 (g := (mkF m 32 #[.val (.int p1), .val (.int p2), .val (.int p3), .val (.int p4), .val (.int p5), .val (.int p6), .val (.ref b1), .unset, .unset, .unset, .unset, .unset, .unset] [(.int (5 : Int32))])) rfl (hb hby at_32) rfl (by decide) (cap := 5) (by decide) (by decide) (by decide) (by decide)
  obtain ⟨b12, g12⟩ : ∃ z, z = h10.size := ⟨_, rfl⟩
  have ne_b1_b12 : b1 ≠ b12 := Nat.ne_of_lt (Nat.lt_of_lt_of_le (V10).lt (Nat.le_of_eq g12.symm))
  have g_b12 : n0 ≤ b12 := Nat.le_trans (Nat.le_trans Z0 K11.1) (Nat.le_of_eq g12.symm)
  have sz_b12 : h0.size ≤ b12 := Nat.le_trans K11.1 (Nat.le_of_eq g12.symm)
  rw [← g12] at A12 st12
  have K12 : Keep h0 h12 [] := Keep.ext K11 E12
  have V_b12 : Arv Z h12 b12 k12 .int (5 : Int32) [(.int (0 : Int32)), (.int (0 : Int32)), (.int (0 : Int32)), (.int (0 : Int32)), (.int (0 : Int32))] (.int (0 : Int32)) := (Arv.new A12 (by decide)).pad (pad_rep [] (.int (0 : Int32)) 5)
  refine own_via st12 ?_
  show own_G p.tables e below _ (T12.setTop (mkF m 34 #[.val (.int p1), .val (.int p2), .val (.int p3), .val (.int p4), .val (.int p5), .val (.int p6), .val (.ref b1), .unset, .unset, .unset, .unset, .unset, .unset] [(.ref b12)]))
  refine own_via (S' := T12.setTop (mkF m 41 #[.val (.int p1), .val (.int p2), .val (.int p3), .val (.int p4), .val (.int p5), .val (.int p6), .val (.ref b1), .unset, .unset, .unset, .unset, .unset, .unset] [(.int (p1 &&& (255 : Int32))), (.int (0 : Int32)), (.ref b12), (.ref b12)])) (fun t k => ?_) ?_
  · show Steps p.tables e below (T12.setTop (mkF m 34 #[.val (.int p1), .val (.int p2), .val (.int p3), .val (.int p4), .val (.int p5), .val (.int p6), .val (.ref b1), .unset, .unset, .unset, .unset, .unset, .unset] [(.ref b12)])) t
    refine XS.dup X12.here hx rfl (hb hby at_34) rfl rfl ?_
    show Steps p.tables e below (T12.setTop (mkF m 35 #[.val (.int p1), .val (.int p2), .val (.int p3), .val (.int p4), .val (.int p5), .val (.int p6), .val (.ref b1), .unset, .unset, .unset, .unset, .unset, .unset] [(.ref b12), (.ref b12)])) t
    refine XS.iconst X12.here hx rfl (hb hby at_35) ?_
    show Steps p.tables e below (T12.setTop (mkF m 36 #[.val (.int p1), .val (.int p2), .val (.int p3), .val (.int p4), .val (.int p5), .val (.int p6), .val (.ref b1), .unset, .unset, .unset, .unset, .unset, .unset] [(.int (0 : Int32)), (.ref b12), (.ref b12)])) t
    refine XS.iloadN X12.here hx rfl (hb hby at_36) rfl ?_
    show Steps p.tables e below (T12.setTop (mkF m 37 #[.val (.int p1), .val (.int p2), .val (.int p3), .val (.int p4), .val (.int p5), .val (.int p6), .val (.ref b1), .unset, .unset, .unset, .unset, .unset, .unset] [(.int p1), (.int (0 : Int32)), (.ref b12), (.ref b12)])) t
    refine XS.sipush X12.here hx rfl (hb hby at_37) ?_
    show Steps p.tables e below (T12.setTop (mkF m 40 #[.val (.int p1), .val (.int p2), .val (.int p3), .val (.int p4), .val (.int p5), .val (.int p6), .val (.ref b1), .unset, .unset, .unset, .unset, .unset, .unset] [(.int (255 : Int32)), (.int p1), (.int (0 : Int32)), (.ref b12), (.ref b12)])) t
    refine XS.iand X12.here hx rfl (hb hby at_40) rfl ?_
    exact k
  obtain ⟨cl13, Ar13, q13, S13, Nn13, H13, G13⟩ := id V_b12
  have hin13 : ¬ ((0 : Int32) < 0 ∨ cl13.slots.size ≤ ((0 : Int32)).toNatClampNeg) := inb_of S13 ⟨by decide, by decide⟩
  obtain ⟨T13, h13, X13, e13, W13, st13⟩ := stI X12 hx hZ e12 Ar13 (j := (0 : Int32)) hin13 (g := (mkF m 41 #[.val (.int p1), .val (.int p2), .val (.int p3), .val (.int p4), .val (.int p5), .val (.int p6), .val (.ref b1), .unset, .unset, .unset, .unset, .unset, .unset] [(.int (p1 &&& (255 : Int32))), (.int (0 : Int32)), (.ref b12), (.ref b12)])) rfl rfl (hb hby at_41)
  have V13 : Arv Z h13 b12 k12 .int (5 : Int32) [(.int (p1 &&& (255 : Int32))), (.int (0 : Int32)), (.int (0 : Int32)), (.int (0 : Int32)), (.int (0 : Int32))] (.int (0 : Int32)) := Arv.set Ar13 q13 S13 Nn13 H13 G13 rfl W13 0 rfl (Nat.le_of_ble_eq_true rfl)
  have K14 : Keep h0 h13 [] := Keep.wr K12 W13 (Or.inr sz_b12)
  have N14 := Fr.snoc X13 N11 g_b12
  refine own_via st13 ?_
  show own_G p.tables e below _ (T13.setTop (mkF m 42 #[.val (.int p1), .val (.int p2), .val (.int p3), .val (.int p4), .val (.int p5), .val (.int p6), .val (.ref b1), .unset, .unset, .unset, .unset, .unset, .unset] [(.ref b12)]))
  refine own_via (S' := T13.setTop (mkF m 49 #[.val (.int p1), .val (.int p2), .val (.int p3), .val (.int p4), .val (.int p5), .val (.int p6), .val (.ref b1), .unset, .unset, .unset, .unset, .unset, .unset] [(.int (p2 &&& (255 : Int32))), (.int (1 : Int32)), (.ref b12), (.ref b12)])) (fun t k => ?_) ?_
  · show Steps p.tables e below (T13.setTop (mkF m 42 #[.val (.int p1), .val (.int p2), .val (.int p3), .val (.int p4), .val (.int p5), .val (.int p6), .val (.ref b1), .unset, .unset, .unset, .unset, .unset, .unset] [(.ref b12)])) t
    refine XS.dup X13.here hx rfl (hb hby at_42) rfl rfl ?_
    show Steps p.tables e below (T13.setTop (mkF m 43 #[.val (.int p1), .val (.int p2), .val (.int p3), .val (.int p4), .val (.int p5), .val (.int p6), .val (.ref b1), .unset, .unset, .unset, .unset, .unset, .unset] [(.ref b12), (.ref b12)])) t
    refine XS.iconst X13.here hx rfl (hb hby at_43) ?_
    show Steps p.tables e below (T13.setTop (mkF m 44 #[.val (.int p1), .val (.int p2), .val (.int p3), .val (.int p4), .val (.int p5), .val (.int p6), .val (.ref b1), .unset, .unset, .unset, .unset, .unset, .unset] [(.int (1 : Int32)), (.ref b12), (.ref b12)])) t
    refine XS.iloadN X13.here hx rfl (hb hby at_44) rfl ?_
    show Steps p.tables e below (T13.setTop (mkF m 45 #[.val (.int p1), .val (.int p2), .val (.int p3), .val (.int p4), .val (.int p5), .val (.int p6), .val (.ref b1), .unset, .unset, .unset, .unset, .unset, .unset] [(.int p2), (.int (1 : Int32)), (.ref b12), (.ref b12)])) t
    refine XS.sipush X13.here hx rfl (hb hby at_45) ?_
    show Steps p.tables e below (T13.setTop (mkF m 48 #[.val (.int p1), .val (.int p2), .val (.int p3), .val (.int p4), .val (.int p5), .val (.int p6), .val (.ref b1), .unset, .unset, .unset, .unset, .unset, .unset] [(.int (255 : Int32)), (.int p2), (.int (1 : Int32)), (.ref b12), (.ref b12)])) t
    refine XS.iand X13.here hx rfl (hb hby at_48) rfl ?_
    exact k
  obtain ⟨cl15, Ar15, q15, S15, Nn15, H15, G15⟩ := id V13
  have hin15 : ¬ ((1 : Int32) < 0 ∨ cl15.slots.size ≤ ((1 : Int32)).toNatClampNeg) := inb_of S15 ⟨by decide, by decide⟩
  obtain ⟨T15, h15, X15, e15, W15, st15⟩ := stI X13 hx hZ e13 Ar15 (j := (1 : Int32)) hin15 (g := (mkF m 49 #[.val (.int p1), .val (.int p2), .val (.int p3), .val (.int p4), .val (.int p5), .val (.int p6), .val (.ref b1), .unset, .unset, .unset, .unset, .unset, .unset] [(.int (p2 &&& (255 : Int32))), (.int (1 : Int32)), (.ref b12), (.ref b12)])) rfl rfl (hb hby at_49)
  have V15 : Arv Z h15 b12 k12 .int (5 : Int32) [(.int (p1 &&& (255 : Int32))), (.int (p2 &&& (255 : Int32))), (.int (0 : Int32)), (.int (0 : Int32)), (.int (0 : Int32))] (.int (0 : Int32)) := Arv.set Ar15 q15 S15 Nn15 H15 G15 rfl W15 1 rfl (Nat.le_of_ble_eq_true rfl)
  have K16 : Keep h0 h15 [] := Keep.wr K14 W15 (Or.inr sz_b12)
  have N16 := Fr.snoc X15 N14 g_b12
  refine own_via st15 ?_
  show own_G p.tables e below _ (T15.setTop (mkF m 50 #[.val (.int p1), .val (.int p2), .val (.int p3), .val (.int p4), .val (.int p5), .val (.int p6), .val (.ref b1), .unset, .unset, .unset, .unset, .unset, .unset] [(.ref b12)]))
  refine own_via (S' := T15.setTop (mkF m 57 #[.val (.int p1), .val (.int p2), .val (.int p3), .val (.int p4), .val (.int p5), .val (.int p6), .val (.ref b1), .unset, .unset, .unset, .unset, .unset, .unset] [(.int (p3 &&& (255 : Int32))), (.int (2 : Int32)), (.ref b12), (.ref b12)])) (fun t k => ?_) ?_
  · show Steps p.tables e below (T15.setTop (mkF m 50 #[.val (.int p1), .val (.int p2), .val (.int p3), .val (.int p4), .val (.int p5), .val (.int p6), .val (.ref b1), .unset, .unset, .unset, .unset, .unset, .unset] [(.ref b12)])) t
    refine XS.dup X15.here hx rfl (hb hby at_50) rfl rfl ?_
    show Steps p.tables e below (T15.setTop (mkF m 51 #[.val (.int p1), .val (.int p2), .val (.int p3), .val (.int p4), .val (.int p5), .val (.int p6), .val (.ref b1), .unset, .unset, .unset, .unset, .unset, .unset] [(.ref b12), (.ref b12)])) t
    refine XS.iconst X15.here hx rfl (hb hby at_51) ?_
    show Steps p.tables e below (T15.setTop (mkF m 52 #[.val (.int p1), .val (.int p2), .val (.int p3), .val (.int p4), .val (.int p5), .val (.int p6), .val (.ref b1), .unset, .unset, .unset, .unset, .unset, .unset] [(.int (2 : Int32)), (.ref b12), (.ref b12)])) t
    refine XS.iloadN X15.here hx rfl (hb hby at_52) rfl ?_
    show Steps p.tables e below (T15.setTop (mkF m 53 #[.val (.int p1), .val (.int p2), .val (.int p3), .val (.int p4), .val (.int p5), .val (.int p6), .val (.ref b1), .unset, .unset, .unset, .unset, .unset, .unset] [(.int p3), (.int (2 : Int32)), (.ref b12), (.ref b12)])) t
    refine XS.sipush X15.here hx rfl (hb hby at_53) ?_
    show Steps p.tables e below (T15.setTop (mkF m 56 #[.val (.int p1), .val (.int p2), .val (.int p3), .val (.int p4), .val (.int p5), .val (.int p6), .val (.ref b1), .unset, .unset, .unset, .unset, .unset, .unset] [(.int (255 : Int32)), (.int p3), (.int (2 : Int32)), (.ref b12), (.ref b12)])) t
    refine XS.iand X15.here hx rfl (hb hby at_56) rfl ?_
    exact k
  obtain ⟨cl17, Ar17, q17, S17, Nn17, H17, G17⟩ := id V15
  have hin17 : ¬ ((2 : Int32) < 0 ∨ cl17.slots.size ≤ ((2 : Int32)).toNatClampNeg) := inb_of S17 ⟨by decide, by decide⟩
  obtain ⟨T17, h17, X17, e17, W17, st17⟩ := stI X15 hx hZ e15 Ar17 (j := (2 : Int32)) hin17 (g := (mkF m 57 #[.val (.int p1), .val (.int p2), .val (.int p3), .val (.int p4), .val (.int p5), .val (.int p6), .val (.ref b1), .unset, .unset, .unset, .unset, .unset, .unset] [(.int (p3 &&& (255 : Int32))), (.int (2 : Int32)), (.ref b12), (.ref b12)])) rfl rfl (hb hby at_57)
  have V17 : Arv Z h17 b12 k12 .int (5 : Int32) [(.int (p1 &&& (255 : Int32))), (.int (p2 &&& (255 : Int32))), (.int (p3 &&& (255 : Int32))), (.int (0 : Int32)), (.int (0 : Int32))] (.int (0 : Int32)) := Arv.set Ar17 q17 S17 Nn17 H17 G17 rfl W17 2 rfl (Nat.le_of_ble_eq_true rfl)
  have K18 : Keep h0 h17 [] := Keep.wr K16 W17 (Or.inr sz_b12)
  have N18 := Fr.snoc X17 N16 g_b12
  refine own_via st17 ?_
  show own_G p.tables e below _ (T17.setTop (mkF m 58 #[.val (.int p1), .val (.int p2), .val (.int p3), .val (.int p4), .val (.int p5), .val (.int p6), .val (.ref b1), .unset, .unset, .unset, .unset, .unset, .unset] [(.ref b12)]))
  refine own_via (S' := T17.setTop (mkF m 65 #[.val (.int p1), .val (.int p2), .val (.int p3), .val (.int p4), .val (.int p5), .val (.int p6), .val (.ref b1), .unset, .unset, .unset, .unset, .unset, .unset] [(.int (p4 &&& (255 : Int32))), (.int (3 : Int32)), (.ref b12), (.ref b12)])) (fun t k => ?_) ?_
  · show Steps p.tables e below (T17.setTop (mkF m 58 #[.val (.int p1), .val (.int p2), .val (.int p3), .val (.int p4), .val (.int p5), .val (.int p6), .val (.ref b1), .unset, .unset, .unset, .unset, .unset, .unset] [(.ref b12)])) t
    refine XS.dup X17.here hx rfl (hb hby at_58) rfl rfl ?_
    show Steps p.tables e below (T17.setTop (mkF m 59 #[.val (.int p1), .val (.int p2), .val (.int p3), .val (.int p4), .val (.int p5), .val (.int p6), .val (.ref b1), .unset, .unset, .unset, .unset, .unset, .unset] [(.ref b12), (.ref b12)])) t
    refine XS.iconst X17.here hx rfl (hb hby at_59) ?_
    show Steps p.tables e below (T17.setTop (mkF m 60 #[.val (.int p1), .val (.int p2), .val (.int p3), .val (.int p4), .val (.int p5), .val (.int p6), .val (.ref b1), .unset, .unset, .unset, .unset, .unset, .unset] [(.int (3 : Int32)), (.ref b12), (.ref b12)])) t
    refine XS.iloadN X17.here hx rfl (hb hby at_60) rfl ?_
    show Steps p.tables e below (T17.setTop (mkF m 61 #[.val (.int p1), .val (.int p2), .val (.int p3), .val (.int p4), .val (.int p5), .val (.int p6), .val (.ref b1), .unset, .unset, .unset, .unset, .unset, .unset] [(.int p4), (.int (3 : Int32)), (.ref b12), (.ref b12)])) t
    refine XS.sipush X17.here hx rfl (hb hby at_61) ?_
    show Steps p.tables e below (T17.setTop (mkF m 64 #[.val (.int p1), .val (.int p2), .val (.int p3), .val (.int p4), .val (.int p5), .val (.int p6), .val (.ref b1), .unset, .unset, .unset, .unset, .unset, .unset] [(.int (255 : Int32)), (.int p4), (.int (3 : Int32)), (.ref b12), (.ref b12)])) t
    refine XS.iand X17.here hx rfl (hb hby at_64) rfl ?_
    exact k
  obtain ⟨cl19, Ar19, q19, S19, Nn19, H19, G19⟩ := id V17
  have hin19 : ¬ ((3 : Int32) < 0 ∨ cl19.slots.size ≤ ((3 : Int32)).toNatClampNeg) := inb_of S19 ⟨by decide, by decide⟩
  obtain ⟨T19, h19, X19, e19, W19, st19⟩ := stI X17 hx hZ e17 Ar19 (j := (3 : Int32)) hin19 (g := (mkF m 65 #[.val (.int p1), .val (.int p2), .val (.int p3), .val (.int p4), .val (.int p5), .val (.int p6), .val (.ref b1), .unset, .unset, .unset, .unset, .unset, .unset] [(.int (p4 &&& (255 : Int32))), (.int (3 : Int32)), (.ref b12), (.ref b12)])) rfl rfl (hb hby at_65)
  have V19 : Arv Z h19 b12 k12 .int (5 : Int32) [(.int (p1 &&& (255 : Int32))), (.int (p2 &&& (255 : Int32))), (.int (p3 &&& (255 : Int32))), (.int (p4 &&& (255 : Int32))), (.int (0 : Int32))] (.int (0 : Int32)) := Arv.set Ar19 q19 S19 Nn19 H19 G19 rfl W19 3 rfl (Nat.le_of_ble_eq_true rfl)
  have K20 : Keep h0 h19 [] := Keep.wr K18 W19 (Or.inr sz_b12)
  have N20 := Fr.snoc X19 N18 g_b12
  refine own_via st19 ?_
  show own_G p.tables e below _ (T19.setTop (mkF m 66 #[.val (.int p1), .val (.int p2), .val (.int p3), .val (.int p4), .val (.int p5), .val (.int p6), .val (.ref b1), .unset, .unset, .unset, .unset, .unset, .unset] [(.ref b12)]))
  refine own_via (S' := T19.setTop (mkF m 74 #[.val (.int p1), .val (.int p2), .val (.int p3), .val (.int p4), .val (.int p5), .val (.int p6), .val (.ref b1), .unset, .unset, .unset, .unset, .unset, .unset] [(.int (p5 &&& (255 : Int32))), (.int (4 : Int32)), (.ref b12), (.ref b12)])) (fun t k => ?_) ?_
  · show Steps p.tables e below (T19.setTop (mkF m 66 #[.val (.int p1), .val (.int p2), .val (.int p3), .val (.int p4), .val (.int p5), .val (.int p6), .val (.ref b1), .unset, .unset, .unset, .unset, .unset, .unset] [(.ref b12)])) t
    refine XS.dup X19.here hx rfl (hb hby at_66) rfl rfl ?_
    show Steps p.tables e below (T19.setTop (mkF m 67 #[.val (.int p1), .val (.int p2), .val (.int p3), .val (.int p4), .val (.int p5), .val (.int p6), .val (.ref b1), .unset, .unset, .unset, .unset, .unset, .unset] [(.ref b12), (.ref b12)])) t
    refine XS.iconst X19.here hx rfl (hb hby at_67) ?_
    show Steps p.tables e below (T19.setTop (mkF m 68 #[.val (.int p1), .val (.int p2), .val (.int p3), .val (.int p4), .val (.int p5), .val (.int p6), .val (.ref b1), .unset, .unset, .unset, .unset, .unset, .unset] [(.int (4 : Int32)), (.ref b12), (.ref b12)])) t
    refine XS.iload X19.here hx rfl (hb hby at_68) rfl ?_
    show Steps p.tables e below (T19.setTop (mkF m 70 #[.val (.int p1), .val (.int p2), .val (.int p3), .val (.int p4), .val (.int p5), .val (.int p6), .val (.ref b1), .unset, .unset, .unset, .unset, .unset, .unset] [(.int p5), (.int (4 : Int32)), (.ref b12), (.ref b12)])) t
    refine XS.sipush X19.here hx rfl (hb hby at_70) ?_
    show Steps p.tables e below (T19.setTop (mkF m 73 #[.val (.int p1), .val (.int p2), .val (.int p3), .val (.int p4), .val (.int p5), .val (.int p6), .val (.ref b1), .unset, .unset, .unset, .unset, .unset, .unset] [(.int (255 : Int32)), (.int p5), (.int (4 : Int32)), (.ref b12), (.ref b12)])) t
    refine XS.iand X19.here hx rfl (hb hby at_73) rfl ?_
    exact k
  obtain ⟨cl21, Ar21, q21, S21, Nn21, H21, G21⟩ := id V19
  have hin21 : ¬ ((4 : Int32) < 0 ∨ cl21.slots.size ≤ ((4 : Int32)).toNatClampNeg) := inb_of S21 ⟨by decide, by decide⟩
  obtain ⟨T21, h21, X21, e21, W21, st21⟩ := stI X19 hx hZ e19 Ar21 (j := (4 : Int32)) hin21 (g := (mkF m 74 #[.val (.int p1), .val (.int p2), .val (.int p3), .val (.int p4), .val (.int p5), .val (.int p6), .val (.ref b1), .unset, .unset, .unset, .unset, .unset, .unset] [(.int (p5 &&& (255 : Int32))), (.int (4 : Int32)), (.ref b12), (.ref b12)])) rfl rfl (hb hby at_74)
  have V21 : Arv Z h21 b12 k12 .int (5 : Int32) [(.int (p1 &&& (255 : Int32))), (.int (p2 &&& (255 : Int32))), (.int (p3 &&& (255 : Int32))), (.int (p4 &&& (255 : Int32))), (.int (p5 &&& (255 : Int32)))] (.int (0 : Int32)) := Arv.set Ar21 q21 S21 Nn21 H21 G21 rfl W21 4 rfl (Nat.le_of_ble_eq_true rfl)
  have K22 : Keep h0 h21 [] := Keep.wr K20 W21 (Or.inr sz_b12)
  have N22 := Fr.snoc X21 N20 g_b12
  refine own_via st21 ?_
  show own_G p.tables e below _ (T21.setTop (mkF m 75 #[.val (.int p1), .val (.int p2), .val (.int p3), .val (.int p4), .val (.int p5), .val (.int p6), .val (.ref b1), .unset, .unset, .unset, .unset, .unset, .unset] [(.ref b12)]))
  refine own_via (S' := T21.setTop (mkF m 83 #[.val (.int p1), .val (.int p2), .val (.int p3), .val (.int p4), .val (.int p5), .val (.int p6), .val (.ref b1), .val (.ref b12), .val (.int (p6 &&& (3 : Int32))), .unset, .unset, .unset, .unset] [])) (fun t k => ?_) ?_
  · show Steps p.tables e below (T21.setTop (mkF m 75 #[.val (.int p1), .val (.int p2), .val (.int p3), .val (.int p4), .val (.int p5), .val (.int p6), .val (.ref b1), .unset, .unset, .unset, .unset, .unset, .unset] [(.ref b12)])) t
    refine XS.astore X21.here hx rfl (hb hby at_75) rfl rfl (l' := #[.val (.int p1), .val (.int p2), .val (.int p3), .val (.int p4), .val (.int p5), .val (.int p6), .val (.ref b1), .val (.ref b12), .unset, .unset, .unset, .unset, .unset]) rfl ?_
    show Steps p.tables e below (T21.setTop (mkF m 77 #[.val (.int p1), .val (.int p2), .val (.int p3), .val (.int p4), .val (.int p5), .val (.int p6), .val (.ref b1), .val (.ref b12), .unset, .unset, .unset, .unset, .unset] [])) t
    refine XS.iload X21.here hx rfl (hb hby at_77) rfl ?_
    show Steps p.tables e below (T21.setTop (mkF m 79 #[.val (.int p1), .val (.int p2), .val (.int p3), .val (.int p4), .val (.int p5), .val (.int p6), .val (.ref b1), .val (.ref b12), .unset, .unset, .unset, .unset, .unset] [(.int p6)])) t
    refine XS.iconst X21.here hx rfl (hb hby at_79) ?_
    show Steps p.tables e below (T21.setTop (mkF m 80 #[.val (.int p1), .val (.int p2), .val (.int p3), .val (.int p4), .val (.int p5), .val (.int p6), .val (.ref b1), .val (.ref b12), .unset, .unset, .unset, .unset, .unset] [(.int (3 : Int32)), (.int p6)])) t
    refine XS.iand X21.here hx rfl (hb hby at_80) rfl ?_
    show Steps p.tables e below (T21.setTop (mkF m 81 #[.val (.int p1), .val (.int p2), .val (.int p3), .val (.int p4), .val (.int p5), .val (.int p6), .val (.ref b1), .val (.ref b12), .unset, .unset, .unset, .unset, .unset] [(.int (p6 &&& (3 : Int32)))])) t
    refine XS.istore X21.here hx rfl (hb hby at_81) rfl (l' := #[.val (.int p1), .val (.int p2), .val (.int p3), .val (.int p4), .val (.int p5), .val (.int p6), .val (.ref b1), .val (.ref b12), .val (.int (p6 &&& (3 : Int32))), .unset, .unset, .unset, .unset]) rfl ?_
    exact k
  obtain ⟨cc, hn_cc⟩ : ∃ z, z = (p6 &&& (3 : Int32)) := ⟨_, rfl⟩
  rw [← hn_cc]
  show own_G p.tables e below _ (T21.setTop (mkF m 83 #[.val (.int p1), .val (.int p2), .val (.int p3), .val (.int p4), .val (.int p5), .val (.int p6), .val (.ref b1), .val (.ref b12), .val (.int cc), .unset, .unset, .unset, .unset] []))
  have hcc := own_c4 p6
  rw [← hn_cc] at hcc
  refine own_via (S' := T21.setTop (mkF m 95 #[.val (.int p1), .val (.int p2), .val (.int p3), .val (.int p4), .val (.int p5), .val (.int p6), .val (.ref b1), .val (.ref b12), .val (.int cc), .val (.int (((p6.toUInt32 >>> ((2 : Int32) &&& 31).toUInt32).toInt32) % ((6 : Int32) - cc))), .unset, .unset, .unset] [])) (fun t k => ?_) ?_
  · show Steps p.tables e below (T21.setTop (mkF m 83 #[.val (.int p1), .val (.int p2), .val (.int p3), .val (.int p4), .val (.int p5), .val (.int p6), .val (.ref b1), .val (.ref b12), .val (.int cc), .unset, .unset, .unset, .unset] [])) t
    refine XS.iload X21.here hx rfl (hb hby at_83) rfl ?_
    show Steps p.tables e below (T21.setTop (mkF m 85 #[.val (.int p1), .val (.int p2), .val (.int p3), .val (.int p4), .val (.int p5), .val (.int p6), .val (.ref b1), .val (.ref b12), .val (.int cc), .unset, .unset, .unset, .unset] [(.int p6)])) t
    refine XS.iconst X21.here hx rfl (hb hby at_85) ?_
    show Steps p.tables e below (T21.setTop (mkF m 86 #[.val (.int p1), .val (.int p2), .val (.int p3), .val (.int p4), .val (.int p5), .val (.int p6), .val (.ref b1), .val (.ref b12), .val (.int cc), .unset, .unset, .unset, .unset] [(.int (2 : Int32)), (.int p6)])) t
    refine XS.iushr X21.here hx rfl (hb hby at_86) rfl ?_
    show Steps p.tables e below (T21.setTop (mkF m 87 #[.val (.int p1), .val (.int p2), .val (.int p3), .val (.int p4), .val (.int p5), .val (.int p6), .val (.ref b1), .val (.ref b12), .val (.int cc), .unset, .unset, .unset, .unset] [(.int ((p6.toUInt32 >>> ((2 : Int32) &&& 31).toUInt32).toInt32))])) t
    refine XS.bipush X21.here hx rfl (hb hby at_87) ?_
    show Steps p.tables e below (T21.setTop (mkF m 89 #[.val (.int p1), .val (.int p2), .val (.int p3), .val (.int p4), .val (.int p5), .val (.int p6), .val (.ref b1), .val (.ref b12), .val (.int cc), .unset, .unset, .unset, .unset] [(.int (6 : Int32)), (.int ((p6.toUInt32 >>> ((2 : Int32) &&& 31).toUInt32).toInt32))])) t
    refine XS.iload X21.here hx rfl (hb hby at_89) rfl ?_
    show Steps p.tables e below (T21.setTop (mkF m 91 #[.val (.int p1), .val (.int p2), .val (.int p3), .val (.int p4), .val (.int p5), .val (.int p6), .val (.ref b1), .val (.ref b12), .val (.int cc), .unset, .unset, .unset, .unset] [(.int cc), (.int (6 : Int32)), (.int ((p6.toUInt32 >>> ((2 : Int32) &&& 31).toUInt32).toInt32))])) t
    refine XS.isub X21.here hx rfl (hb hby at_91) rfl ?_
    show Steps p.tables e below (T21.setTop (mkF m 92 #[.val (.int p1), .val (.int p2), .val (.int p3), .val (.int p4), .val (.int p5), .val (.int p6), .val (.ref b1), .val (.ref b12), .val (.int cc), .unset, .unset, .unset, .unset] [(.int ((6 : Int32) - cc)), (.int ((p6.toUInt32 >>> ((2 : Int32) &&& 31).toUInt32).toInt32))])) t
    refine iremM X21 hx rfl (hb hby at_92) rfl (own_six hcc) ?_
    show Steps p.tables e below (T21.setTop (mkF m 93 #[.val (.int p1), .val (.int p2), .val (.int p3), .val (.int p4), .val (.int p5), .val (.int p6), .val (.ref b1), .val (.ref b12), .val (.int cc), .unset, .unset, .unset, .unset] [(.int (((p6.toUInt32 >>> ((2 : Int32) &&& 31).toUInt32).toInt32) % ((6 : Int32) - cc)))])) t
    refine XS.istore X21.here hx rfl (hb hby at_93) rfl (l' := #[.val (.int p1), .val (.int p2), .val (.int p3), .val (.int p4), .val (.int p5), .val (.int p6), .val (.ref b1), .val (.ref b12), .val (.int cc), .val (.int (((p6.toUInt32 >>> ((2 : Int32) &&& 31).toUInt32).toInt32) % ((6 : Int32) - cc))), .unset, .unset, .unset]) rfl ?_
    exact k
  obtain ⟨ii, hn_ii⟩ : ∃ z, z = (((p6.toUInt32 >>> ((2 : Int32) &&& 31).toUInt32).toInt32) % ((6 : Int32) - cc)) := ⟨_, rfl⟩
  rw [← hn_ii]
  show own_G p.tables e below _ (T21.setTop (mkF m 95 #[.val (.int p1), .val (.int p2), .val (.int p3), .val (.int p4), .val (.int p5), .val (.int p6), .val (.ref b1), .val (.ref b12), .val (.int cc), .val (.int ii), .unset, .unset, .unset] []))
  have hR : own_R ii cc := by rw [hn_ii]; exact own_ii p6 cc hcc
  have hpre := own_pre hcc hR
  obtain ⟨T23, h23, X23, e23, E23, A23, D23, -, st23⟩ := newO X21 hx hZ hown (hw _ (List.mem_of_getElem? (i := 2) rfl)) (hw _ (List.mem_of_getElem? (i := 3) rfl)) (hw _ (List.mem_of_getElem? (i := 4) rfl)) e21 (g := (mkF m 95 #[.val (.int p1), .val (.int p2), .val (.int p3), .val (.int p4), .val (.int p5), .val (.int p6), .val (.ref b1), .val (.ref b12), .val (.int cc), .val (.int ii), .unset, .unset, .unset] [])) rfl (hb hby at_95) (by decide) (by decide)
  have c24 := (Arv.other (Arv.other (Arv.other (Arv.other (Arv.other (V10.ext E12) W13 ne_b1_b12) W15 ne_b1_b12) W17 ne_b1_b12) W19 ne_b1_b12) W21 ne_b1_b12)
  obtain ⟨b23, g23⟩ : ∃ z, z = h21.size := ⟨_, rfl⟩
  have ne_b1_b23 : b1 ≠ b23 := Nat.ne_of_lt (Nat.lt_of_lt_of_le (c24).lt (Nat.le_of_eq g23.symm))
  have ne_b12_b23 : b12 ≠ b23 := Nat.ne_of_lt (Nat.lt_of_lt_of_le (V21).lt (Nat.le_of_eq g23.symm))
  have g_b23 : n0 ≤ b23 := Nat.le_trans (Nat.le_trans Z0 K22.1) (Nat.le_of_eq g23.symm)
  have sz_b23 : h0.size ≤ b23 := Nat.le_trans K22.1 (Nat.le_of_eq g23.symm)
  rw [← g23] at A23 D23 st23
  have K23 : Keep h0 h23 [] := Keep.ext K22 E23
  have F_source_b23 : Fld Z h23 b23 "com/example/altigate/altigate/asterix/DataBlock" "source" "Ljava/lang/String;" .null := D23 (Or.inr (hw _ (List.mem_of_getElem? (i := 19) rfl))) (ty := (.object "java/lang/String")) (by decide)
  have F_offset_b23 : Fld Z h23 b23 "com/example/altigate/altigate/asterix/DataBlock" "offset" "J" (.long (0 : Int64)) := D23 (Or.inr (hw _ (List.mem_of_getElem? (i := 21) rfl))) (ty := .long) (by decide)
  have F_octets_b23 : Fld Z h23 b23 "com/example/altigate/altigate/asterix/DataBlock" "octets" "[B" .null := D23 (Or.inr (hw _ (List.mem_of_getElem? (i := 23) rfl))) (ty := (.array .byte)) (by decide)
  refine own_via st23 ?_
  show own_G p.tables e below _ (T23.setTop (mkF m 98 #[.val (.int p1), .val (.int p2), .val (.int p3), .val (.int p4), .val (.int p5), .val (.int p6), .val (.ref b1), .val (.ref b12), .val (.int cc), .val (.int ii), .unset, .unset, .unset] [(.ref b23)]))
  refine own_via (S' := T23.setTop (mkF m 99 #[.val (.int p1), .val (.int p2), .val (.int p3), .val (.int p4), .val (.int p5), .val (.int p6), .val (.ref b1), .val (.ref b12), .val (.int cc), .val (.int ii), .unset, .unset, .unset] [(.ref b23), (.ref b23)])) (fun t k => ?_) ?_
  · show Steps p.tables e below (T23.setTop (mkF m 98 #[.val (.int p1), .val (.int p2), .val (.int p3), .val (.int p4), .val (.int p5), .val (.int p6), .val (.ref b1), .val (.ref b12), .val (.int cc), .val (.int ii), .unset, .unset, .unset] [(.ref b23)])) t
    refine XS.dup X23.here hx rfl (hb hby at_98) rfl rfl ?_
    exact k
  obtain ⟨a25, T25, h25, k25, X25, e25, E25, hS25, hk25, hZ, hown, st25⟩ := ldcS X23 hx hZ hown (hw _ (List.mem_of_getElem? (i := 5) rfl)) wS e23 hS0 (Nat.zero_le _) (g := (mkF m 99 #[.val (.int p1), .val (.int p2), .val (.int p3), .val (.int p4), .val (.int p5), .val (.int p6), .val (.ref b1), .val (.ref b12), .val (.int cc), .val (.int ii), .unset, .unset, .unset] [(.ref b23), (.ref b23)])) rfl (hb hby at_99) (n := 8) (by decide) (by decide) (by decide) (by decide)
  have K25 : Keep h0 h25 [] := Keep.ext K23 E25
  refine own_via st25 ?_
  show own_G p.tables e below _ (T25.setTop (mkF m 101 #[.val (.int p1), .val (.int p2), .val (.int p3), .val (.int p4), .val (.int p5), .val (.int p6), .val (.ref b1), .val (.ref b12), .val (.int cc), .val (.int ii), .unset, .unset, .unset] [(.ref a25), (.ref b23), (.ref b23)]))
  refine own_via (S' := T25.setTop (mkF m 104 #[.val (.int p1), .val (.int p2), .val (.int p3), .val (.int p4), .val (.int p5), .val (.int p6), .val (.ref b1), .val (.ref b12), .val (.int cc), .val (.int ii), .unset, .unset, .unset] [(.ref b1), (.long (0 : Int64)), (.ref a25), (.ref b23), (.ref b23)])) (fun t k => ?_) ?_
  · show Steps p.tables e below (T25.setTop (mkF m 101 #[.val (.int p1), .val (.int p2), .val (.int p3), .val (.int p4), .val (.int p5), .val (.int p6), .val (.ref b1), .val (.ref b12), .val (.int cc), .val (.int ii), .unset, .unset, .unset] [(.ref a25), (.ref b23), (.ref b23)])) t
    refine XS.lconst X25.here hx rfl (hb hby at_101) ?_
    show Steps p.tables e below (T25.setTop (mkF m 102 #[.val (.int p1), .val (.int p2), .val (.int p3), .val (.int p4), .val (.int p5), .val (.int p6), .val (.ref b1), .val (.ref b12), .val (.int cc), .val (.int ii), .unset, .unset, .unset] [(.long (0 : Int64)), (.ref a25), (.ref b23), (.ref b23)])) t
    refine XS.aload X25.here hx rfl (hb hby at_102) rfl rfl ?_
    exact k
  have c26 := (Fld.ext E25 F_source_b23)
  have c27 := (Fld.ext E25 F_offset_b23)
  have c28 := (Fld.ext E25 F_octets_b23)
  have c29 := (Exa.ext E25 A23)
  obtain ⟨_, _, ⟨T30, L30, k30, n30⟩, -, X30, ⟨Lc30, hQ30, l30, y30, z30⟩, st30⟩ := X25.specialBack hx (y := (⟨"com/example/altigate/altigate/asterix/DataBlock", "<init>", "(Ljava/lang/String;J[B)V"⟩ : MethodName)) rfl hown (mvT hZ (hw _ (List.mem_of_getElem? (i := 12) rfl))) (mvT hZ (hw _ (List.mem_of_getElem? (i := 13) rfl))) (mvT hZ (hw _ (List.mem_of_getElem? (i := 14) rfl))) (by decide) (backOf (W := 1) (rm1 l Z a0 hw [] b23 a25 (0 : Int64) b1 h25 n0 (Nat.le_trans Z0 K25.1) c26 c27 c28 c29 g_b23 ) hZ (hw _ (List.mem_of_getElem? (i := 14) rfl)) (hw _ (List.mem_of_getElem? (i := 4) rfl)) (by decide) (by decide)) (g := (mkF m 104 #[.val (.int p1), .val (.int p2), .val (.int p3), .val (.int p4), .val (.int p5), .val (.int p6), .val (.ref b1), .val (.ref b12), .val (.int cc), .val (.int ii), .unset, .unset, .unset] [(.ref b1), (.long (0 : Int64)), (.ref a25), (.ref b23), (.ref b23)])) rfl (by rw [hml]; rfl) (Steps.refl _) (a := b23) (argsL := [(.ref a25), (.long (0 : Int64)), (.ref b1)]) (rest := [(.ref b23)]) (lenOf pd_0 rfl) rfl (by show 2 * 0 + _ ≤ _; exact Nat.le_of_eq rfl) (hb hby at_104) (fun _ _ => ⟨rfl, e25, (by decide : 5 + 0 ≤ _), (by decide : 25 + 0 ≤ _)⟩)
  dsimp only [Pt.U, Pt.locs, Pt.cells, Pt.slots] at X30 l30 y30 z30 st30 hQ30
  subst l30 y30 z30
  obtain ⟨rfl, Nq30, Kc30, Ec30, Fc30_0, Fc30_1, Fc30_2⟩ := hQ30
  have N30 := Fr.app N22 Nq30
  refine own_via (fun t k => st30.trans k) ?_
  show own_G p.tables e below _ (T30.setTop (mkF m 107 #[.val (.int p1), .val (.int p2), .val (.int p3), .val (.int p4), .val (.int p5), .val (.int p6), .val (.ref b1), .val (.ref b12), .val (.int cc), .val (.int ii), .unset, .unset, .unset] [(.ref b23)]))
  have K30 : Keep h0 T30.heap [] := Keep.trans K25 Kc30 (allS (Or.inr sz_b23) all0)
  refine own_via (S' := T30.setTop (mkF m 115 #[.val (.int p1), .val (.int p2), .val (.int p3), .val (.int p4), .val (.int p5), .val (.int p6), .val (.ref b1), .val (.ref b12), .val (.int cc), .val (.int ii), .val (.ref b23), .unset, .unset] [(.int cc), (.int ii), (.ref b23)])) (fun t k => ?_) ?_
  · show Steps p.tables e below (T30.setTop (mkF m 107 #[.val (.int p1), .val (.int p2), .val (.int p3), .val (.int p4), .val (.int p5), .val (.int p6), .val (.ref b1), .val (.ref b12), .val (.int cc), .val (.int ii), .unset, .unset, .unset] [(.ref b23)])) t
    refine XS.astore X30.here hx rfl (hb hby at_107) rfl rfl (l' := #[.val (.int p1), .val (.int p2), .val (.int p3), .val (.int p4), .val (.int p5), .val (.int p6), .val (.ref b1), .val (.ref b12), .val (.int cc), .val (.int ii), .val (.ref b23), .unset, .unset]) rfl ?_
    show Steps p.tables e below (T30.setTop (mkF m 109 #[.val (.int p1), .val (.int p2), .val (.int p3), .val (.int p4), .val (.int p5), .val (.int p6), .val (.ref b1), .val (.ref b12), .val (.int cc), .val (.int ii), .val (.ref b23), .unset, .unset] [])) t
    refine XS.aload X30.here hx rfl (hb hby at_109) rfl rfl ?_
    show Steps p.tables e below (T30.setTop (mkF m 111 #[.val (.int p1), .val (.int p2), .val (.int p3), .val (.int p4), .val (.int p5), .val (.int p6), .val (.ref b1), .val (.ref b12), .val (.int cc), .val (.int ii), .val (.ref b23), .unset, .unset] [(.ref b23)])) t
    refine XS.iload X30.here hx rfl (hb hby at_111) rfl ?_
    show Steps p.tables e below (T30.setTop (mkF m 113 #[.val (.int p1), .val (.int p2), .val (.int p3), .val (.int p4), .val (.int p5), .val (.int p6), .val (.ref b1), .val (.ref b12), .val (.int cc), .val (.int ii), .val (.ref b23), .unset, .unset] [(.int ii), (.ref b23)])) t
    refine XS.iload X30.here hx rfl (hb hby at_113) rfl ?_
    exact k
  have c31 := (Arv.keep ((c24.ext E23).ext E25) Kc30 (ninS ne_b1_b23 nin0))
  obtain ⟨cq32, kq32, q32a, q32b, q32c⟩ := isOf hZ rfl Ec30
  obtain ⟨_, _, ⟨T32, L32, k32, n32⟩, -, X32, ⟨Lc32, hQ32, l32, y32, z32⟩, st32⟩ := X30.virtualBack hx (y := (⟨"com/example/altigate/altigate/asterix/DataBlock", "unsigned", "(II)I"⟩ : MethodName)) (z := (⟨"com/example/altigate/altigate/asterix/DataBlock", "unsigned", "(II)I"⟩ : MethodName)) hown (mvT hZ (hw _ (List.mem_of_getElem? (i := 24) rfl))) (mvT hZ (hw _ (List.mem_of_getElem? (i := 25) rfl))) (notFace_of_selects (args := #[]) (mvT hZ (hw _ (List.mem_of_getElem? (i := 27) rfl)))) (mvT hZ (hw _ (List.mem_of_getElem? (i := 27) rfl))) (mvT hZ (hw _ (List.mem_of_getElem? (i := 26) rfl))) (by decide) (backOf (W := 0) (rm3 l Z a0 hw [] b23 ii cc b1 k1 (5 : Int32) [(nar .byte (p1.toInt8.toInt32)), (nar .byte (p2.toInt8.toInt32)), (nar .byte (p3.toInt8.toInt32)), (nar .byte (p4.toInt8.toInt32)), (nar .byte (p5.toInt8.toInt32))] cc.toNatClampNeg T30.heap n0 (Nat.le_trans Z0 K30.1) Fc30_2 ⟨c31, rfl⟩ hpre.1 hpre.2.1 hpre.2.2.1 hpre.2.2.2) hZ (hw _ (List.mem_of_getElem? (i := 28) rfl)) (hw _ (List.mem_of_getElem? (i := 4) rfl)) (by decide) (by decide)) q32a q32c (g := (mkF m 115 #[.val (.int p1), .val (.int p2), .val (.int p3), .val (.int p4), .val (.int p5), .val (.int p6), .val (.ref b1), .val (.ref b12), .val (.int cc), .val (.int ii), .val (.ref b23), .unset, .unset] [(.int cc), (.int ii), (.ref b23)])) rfl (by rw [hml]; rfl) (Steps.refl _) (argsL := [(.int ii), (.int cc)]) (rest := []) (lenOf pd_1 rfl) rfl (by show 2 * 0 + _ ≤ _; exact Nat.le_of_eq rfl) (hb hby at_115) (fun _ _ => ⟨rfl, rfl, (by decide : 5 + 0 ≤ _), (by decide : 25 + 0 ≤ _)⟩)
  dsimp only [Pt.U, Pt.locs, Pt.cells, Pt.slots] at X32 l32 y32 z32 st32 hQ32
  subst l32 y32 z32
  obtain ⟨rfl, Nq32, hh32⟩ := hQ32
  have N32 := Fr.app N30 Nq32
  refine own_via (fun t k => st32.trans k) ?_
  show own_G p.tables e below _ (T32.setTop (mkF m 118 #[.val (.int p1), .val (.int p2), .val (.int p3), .val (.int p4), .val (.int p5), .val (.int p6), .val (.ref b1), .val (.ref b12), .val (.int cc), .val (.int ii), .val (.ref b23), .unset, .unset] [(.int (own_sl [(nar .byte (p1.toInt8.toInt32)), (nar .byte (p2.toInt8.toInt32)), (nar .byte (p3.toInt8.toInt32)), (nar .byte (p4.toInt8.toInt32)), (nar .byte (p5.toInt8.toInt32))] ii cc.toNatClampNeg (0 : Int32)))]))
  refine own_via (S' := T32.setTop (mkF m 122 #[.val (.int p1), .val (.int p2), .val (.int p3), .val (.int p4), .val (.int p5), .val (.int p6), .val (.ref b1), .val (.ref b12), .val (.int cc), .val (.int ii), .val (.ref b23), .val (.int (own_sl [(nar .byte (p1.toInt8.toInt32)), (nar .byte (p2.toInt8.toInt32)), (nar .byte (p3.toInt8.toInt32)), (nar .byte (p4.toInt8.toInt32)), (nar .byte (p5.toInt8.toInt32))] ii cc.toNatClampNeg (0 : Int32))), .unset] [(.int cc)])) (fun t k => ?_) ?_
  · show Steps p.tables e below (T32.setTop (mkF m 118 #[.val (.int p1), .val (.int p2), .val (.int p3), .val (.int p4), .val (.int p5), .val (.int p6), .val (.ref b1), .val (.ref b12), .val (.int cc), .val (.int ii), .val (.ref b23), .unset, .unset] [(.int (own_sl [(nar .byte (p1.toInt8.toInt32)), (nar .byte (p2.toInt8.toInt32)), (nar .byte (p3.toInt8.toInt32)), (nar .byte (p4.toInt8.toInt32)), (nar .byte (p5.toInt8.toInt32))] ii cc.toNatClampNeg (0 : Int32)))])) t
    refine XS.istore X32.here hx rfl (hb hby at_118) rfl (l' := #[.val (.int p1), .val (.int p2), .val (.int p3), .val (.int p4), .val (.int p5), .val (.int p6), .val (.ref b1), .val (.ref b12), .val (.int cc), .val (.int ii), .val (.ref b23), .val (.int (own_sl [(nar .byte (p1.toInt8.toInt32)), (nar .byte (p2.toInt8.toInt32)), (nar .byte (p3.toInt8.toInt32)), (nar .byte (p4.toInt8.toInt32)), (nar .byte (p5.toInt8.toInt32))] ii cc.toNatClampNeg (0 : Int32))), .unset]) rfl ?_
    show Steps p.tables e below (T32.setTop (mkF m 120 #[.val (.int p1), .val (.int p2), .val (.int p3), .val (.int p4), .val (.int p5), .val (.int p6), .val (.ref b1), .val (.ref b12), .val (.int cc), .val (.int ii), .val (.ref b23), .val (.int (own_sl [(nar .byte (p1.toInt8.toInt32)), (nar .byte (p2.toInt8.toInt32)), (nar .byte (p3.toInt8.toInt32)), (nar .byte (p4.toInt8.toInt32)), (nar .byte (p5.toInt8.toInt32))] ii cc.toNatClampNeg (0 : Int32))), .unset] [])) t
    refine XS.iload X32.here hx rfl (hb hby at_120) rfl ?_
    exact k
  by_cases hc122_33 : cc = (0 : Int32)
  · have hc0 : cc = 0 := hc122_33
    refine own_via (S' := T32.setTop (mkF m 125 #[.val (.int p1), .val (.int p2), .val (.int p3), .val (.int p4), .val (.int p5), .val (.int p6), .val (.ref b1), .val (.ref b12), .val (.int cc), .val (.int ii), .val (.ref b23), .val (.int (own_sl [(nar .byte (p1.toInt8.toInt32)), (nar .byte (p2.toInt8.toInt32)), (nar .byte (p3.toInt8.toInt32)), (nar .byte (p4.toInt8.toInt32)), (nar .byte (p5.toInt8.toInt32))] ii cc.toNatClampNeg (0 : Int32))), .unset] [])) (fun t k => XS.ifNo (g := (mkF m 122 #[.val (.int p1), .val (.int p2), .val (.int p3), .val (.int p4), .val (.int p5), .val (.int p6), .val (.ref b1), .val (.ref b12), .val (.int cc), .val (.int ii), .val (.ref b23), .val (.int (own_sl [(nar .byte (p1.toInt8.toInt32)), (nar .byte (p2.toInt8.toInt32)), (nar .byte (p3.toInt8.toInt32)), (nar .byte (p4.toInt8.toInt32)), (nar .byte (p5.toInt8.toInt32))] ii cc.toNatClampNeg (0 : Int32))), .unset] [(.int cc)])) X32.here hx rfl (hb hby at_122) rfl ((if0 _ _).trans (teq hc122_33).2) k) ?_
    refine own_via (S' := T32.setTop (mkF m 221 #[.val (.int p1), .val (.int p2), .val (.int p3), .val (.int p4), .val (.int p5), .val (.int p6), .val (.ref b1), .val (.ref b12), .val (.int cc), .val (.int ii), .val (.ref b23), .val (.int (own_sl [(nar .byte (p1.toInt8.toInt32)), (nar .byte (p2.toInt8.toInt32)), (nar .byte (p3.toInt8.toInt32)), (nar .byte (p4.toInt8.toInt32)), (nar .byte (p5.toInt8.toInt32))] ii cc.toNatClampNeg (0 : Int32))), .val (.int (0 : Int32))] [(.int (0 : Int32)), (.int (own_sl [(nar .byte (p1.toInt8.toInt32)), (nar .byte (p2.toInt8.toInt32)), (nar .byte (p3.toInt8.toInt32)), (nar .byte (p4.toInt8.toInt32)), (nar .byte (p5.toInt8.toInt32))] ii cc.toNatClampNeg (0 : Int32)))])) (fun t k => ?_) ?_
    · show Steps p.tables e below (T32.setTop (mkF m 125 #[.val (.int p1), .val (.int p2), .val (.int p3), .val (.int p4), .val (.int p5), .val (.int p6), .val (.ref b1), .val (.ref b12), .val (.int cc), .val (.int ii), .val (.ref b23), .val (.int (own_sl [(nar .byte (p1.toInt8.toInt32)), (nar .byte (p2.toInt8.toInt32)), (nar .byte (p3.toInt8.toInt32)), (nar .byte (p4.toInt8.toInt32)), (nar .byte (p5.toInt8.toInt32))] ii cc.toNatClampNeg (0 : Int32))), .unset] [])) t
      refine XS.iconst X32.here hx rfl (hb hby at_125) ?_
      show Steps p.tables e below (T32.setTop (mkF m 126 #[.val (.int p1), .val (.int p2), .val (.int p3), .val (.int p4), .val (.int p5), .val (.int p6), .val (.ref b1), .val (.ref b12), .val (.int cc), .val (.int ii), .val (.ref b23), .val (.int (own_sl [(nar .byte (p1.toInt8.toInt32)), (nar .byte (p2.toInt8.toInt32)), (nar .byte (p3.toInt8.toInt32)), (nar .byte (p4.toInt8.toInt32)), (nar .byte (p5.toInt8.toInt32))] ii cc.toNatClampNeg (0 : Int32))), .unset] [(.int (0 : Int32))])) t
      refine XS.istore X32.here hx rfl (hb hby at_126) rfl (l' := #[.val (.int p1), .val (.int p2), .val (.int p3), .val (.int p4), .val (.int p5), .val (.int p6), .val (.ref b1), .val (.ref b12), .val (.int cc), .val (.int ii), .val (.ref b23), .val (.int (own_sl [(nar .byte (p1.toInt8.toInt32)), (nar .byte (p2.toInt8.toInt32)), (nar .byte (p3.toInt8.toInt32)), (nar .byte (p4.toInt8.toInt32)), (nar .byte (p5.toInt8.toInt32))] ii cc.toNatClampNeg (0 : Int32))), .val (.int (0 : Int32))]) rfl ?_
      show Steps p.tables e below (T32.setTop (mkF m 128 #[.val (.int p1), .val (.int p2), .val (.int p3), .val (.int p4), .val (.int p5), .val (.int p6), .val (.ref b1), .val (.ref b12), .val (.int cc), .val (.int ii), .val (.ref b23), .val (.int (own_sl [(nar .byte (p1.toInt8.toInt32)), (nar .byte (p2.toInt8.toInt32)), (nar .byte (p3.toInt8.toInt32)), (nar .byte (p4.toInt8.toInt32)), (nar .byte (p5.toInt8.toInt32))] ii cc.toNatClampNeg (0 : Int32))), .val (.int (0 : Int32))] [])) t
      refine XS.goto X32.here hx rfl (pc0 := 128) (pc' := 217) rfl (hb hby at_128) (by decide) (by decide) ?_
      show Steps p.tables e below (T32.setTop (mkF m 217 #[.val (.int p1), .val (.int p2), .val (.int p3), .val (.int p4), .val (.int p5), .val (.int p6), .val (.ref b1), .val (.ref b12), .val (.int cc), .val (.int ii), .val (.ref b23), .val (.int (own_sl [(nar .byte (p1.toInt8.toInt32)), (nar .byte (p2.toInt8.toInt32)), (nar .byte (p3.toInt8.toInt32)), (nar .byte (p4.toInt8.toInt32)), (nar .byte (p5.toInt8.toInt32))] ii cc.toNatClampNeg (0 : Int32))), .val (.int (0 : Int32))] [])) t
      refine XS.iload X32.here hx rfl (hb hby at_217) rfl ?_
      show Steps p.tables e below (T32.setTop (mkF m 219 #[.val (.int p1), .val (.int p2), .val (.int p3), .val (.int p4), .val (.int p5), .val (.int p6), .val (.ref b1), .val (.ref b12), .val (.int cc), .val (.int ii), .val (.ref b23), .val (.int (own_sl [(nar .byte (p1.toInt8.toInt32)), (nar .byte (p2.toInt8.toInt32)), (nar .byte (p3.toInt8.toInt32)), (nar .byte (p4.toInt8.toInt32)), (nar .byte (p5.toInt8.toInt32))] ii cc.toNatClampNeg (0 : Int32))), .val (.int (0 : Int32))] [(.int (own_sl [(nar .byte (p1.toInt8.toInt32)), (nar .byte (p2.toInt8.toInt32)), (nar .byte (p3.toInt8.toInt32)), (nar .byte (p4.toInt8.toInt32)), (nar .byte (p5.toInt8.toInt32))] ii cc.toNatClampNeg (0 : Int32)))])) t
      refine XS.iload X32.here hx rfl (hb hby at_219) rfl ?_
      exact k
    refine own_via (S' := T32.setTop (mkF m 224 #[.val (.int p1), .val (.int p2), .val (.int p3), .val (.int p4), .val (.int p5), .val (.int p6), .val (.ref b1), .val (.ref b12), .val (.int cc), .val (.int ii), .val (.ref b23), .val (.int (own_sl [(nar .byte (p1.toInt8.toInt32)), (nar .byte (p2.toInt8.toInt32)), (nar .byte (p3.toInt8.toInt32)), (nar .byte (p4.toInt8.toInt32)), (nar .byte (p5.toInt8.toInt32))] ii cc.toNatClampNeg (0 : Int32))), .val (.int (0 : Int32))] [])) (fun t k => XS.icmpNo (g := (mkF m 221 #[.val (.int p1), .val (.int p2), .val (.int p3), .val (.int p4), .val (.int p5), .val (.int p6), .val (.ref b1), .val (.ref b12), .val (.int cc), .val (.int ii), .val (.ref b23), .val (.int (own_sl [(nar .byte (p1.toInt8.toInt32)), (nar .byte (p2.toInt8.toInt32)), (nar .byte (p3.toInt8.toInt32)), (nar .byte (p4.toInt8.toInt32)), (nar .byte (p5.toInt8.toInt32))] ii cc.toNatClampNeg (0 : Int32))), .val (.int (0 : Int32))] [(.int (0 : Int32)), (.int (own_sl [(nar .byte (p1.toInt8.toInt32)), (nar .byte (p2.toInt8.toInt32)), (nar .byte (p3.toInt8.toInt32)), (nar .byte (p4.toInt8.toInt32)), (nar .byte (p5.toInt8.toInt32))] ii cc.toNatClampNeg (0 : Int32)))])) X32.here hx rfl (hb hby at_221) rfl (teq (by rw [hc0]; exact own_f0 _ _)).2 k) ?_
    refine own_via (S' := T32.setTop (mkF m 229 #[.val (.int p1), .val (.int p2), .val (.int p3), .val (.int p4), .val (.int p5), .val (.int p6), .val (.ref b1), .val (.ref b12), .val (.int cc), .val (.int ii), .val (.ref b23), .val (.int (own_sl [(nar .byte (p1.toInt8.toInt32)), (nar .byte (p2.toInt8.toInt32)), (nar .byte (p3.toInt8.toInt32)), (nar .byte (p4.toInt8.toInt32)), (nar .byte (p5.toInt8.toInt32))] ii cc.toNatClampNeg (0 : Int32))), .val (.int (0 : Int32))] [(.int (1 : Int32))])) (fun t k => ?_) ?_
    · show Steps p.tables e below (T32.setTop (mkF m 224 #[.val (.int p1), .val (.int p2), .val (.int p3), .val (.int p4), .val (.int p5), .val (.int p6), .val (.ref b1), .val (.ref b12), .val (.int cc), .val (.int ii), .val (.ref b23), .val (.int (own_sl [(nar .byte (p1.toInt8.toInt32)), (nar .byte (p2.toInt8.toInt32)), (nar .byte (p3.toInt8.toInt32)), (nar .byte (p4.toInt8.toInt32)), (nar .byte (p5.toInt8.toInt32))] ii cc.toNatClampNeg (0 : Int32))), .val (.int (0 : Int32))] [])) t
      refine XS.iconst X32.here hx rfl (hb hby at_224) ?_
      show Steps p.tables e below (T32.setTop (mkF m 225 #[.val (.int p1), .val (.int p2), .val (.int p3), .val (.int p4), .val (.int p5), .val (.int p6), .val (.ref b1), .val (.ref b12), .val (.int cc), .val (.int ii), .val (.ref b23), .val (.int (own_sl [(nar .byte (p1.toInt8.toInt32)), (nar .byte (p2.toInt8.toInt32)), (nar .byte (p3.toInt8.toInt32)), (nar .byte (p4.toInt8.toInt32)), (nar .byte (p5.toInt8.toInt32))] ii cc.toNatClampNeg (0 : Int32))), .val (.int (0 : Int32))] [(.int (1 : Int32))])) t
      refine XS.goto X32.here hx rfl (pc0 := 225) (pc' := 229) rfl (hb hby at_225) (by decide) (by decide) ?_
      exact k
    exact own_endW (h := T30.heap) X32 hS25 (v := some (.int (1 : Int32))) Bd.notSynchronized (fun h => by rw [Bd.returns] at h; cases h) (fun fs hr => retN X32 hx (t := .boolean) Bd.returns (by simp) (hb hby at_229) hr) hh32 (by rw [hh32]; exact (Nat.le_trans hk25 Kc30.1)) ⟨rfl, N32⟩ (by decide) (by decide)
  · refine own_via (S' := T32.setTop (mkF m 131 #[.val (.int p1), .val (.int p2), .val (.int p3), .val (.int p4), .val (.int p5), .val (.int p6), .val (.ref b1), .val (.ref b12), .val (.int cc), .val (.int ii), .val (.ref b23), .val (.int (own_sl [(nar .byte (p1.toInt8.toInt32)), (nar .byte (p2.toInt8.toInt32)), (nar .byte (p3.toInt8.toInt32)), (nar .byte (p4.toInt8.toInt32)), (nar .byte (p5.toInt8.toInt32))] ii cc.toNatClampNeg (0 : Int32))), .unset] [])) (fun t k => XS.ifYes (g := (mkF m 122 #[.val (.int p1), .val (.int p2), .val (.int p3), .val (.int p4), .val (.int p5), .val (.int p6), .val (.ref b1), .val (.ref b12), .val (.int cc), .val (.int ii), .val (.ref b23), .val (.int (own_sl [(nar .byte (p1.toInt8.toInt32)), (nar .byte (p2.toInt8.toInt32)), (nar .byte (p3.toInt8.toInt32)), (nar .byte (p4.toInt8.toInt32)), (nar .byte (p5.toInt8.toInt32))] ii cc.toNatClampNeg (0 : Int32))), .unset] [(.int cc)])) X32.here hx rfl (pc0 := 122) (pc' := 131) rfl (hb hby at_122) rfl ((if0 _ _).trans (feq hc122_33).2) (by decide) (by decide) k) ?_
    refine own_via (S' := T32.setTop (mkF m 134 #[.val (.int p1), .val (.int p2), .val (.int p3), .val (.int p4), .val (.int p5), .val (.int p6), .val (.ref b1), .val (.ref b12), .val (.int cc), .val (.int ii), .val (.ref b23), .val (.int (own_sl [(nar .byte (p1.toInt8.toInt32)), (nar .byte (p2.toInt8.toInt32)), (nar .byte (p3.toInt8.toInt32)), (nar .byte (p4.toInt8.toInt32)), (nar .byte (p5.toInt8.toInt32))] ii cc.toNatClampNeg (0 : Int32))), .unset] [(.int (1 : Int32)), (.int cc)])) (fun t k => ?_) ?_
    · show Steps p.tables e below (T32.setTop (mkF m 131 #[.val (.int p1), .val (.int p2), .val (.int p3), .val (.int p4), .val (.int p5), .val (.int p6), .val (.ref b1), .val (.ref b12), .val (.int cc), .val (.int ii), .val (.ref b23), .val (.int (own_sl [(nar .byte (p1.toInt8.toInt32)), (nar .byte (p2.toInt8.toInt32)), (nar .byte (p3.toInt8.toInt32)), (nar .byte (p4.toInt8.toInt32)), (nar .byte (p5.toInt8.toInt32))] ii cc.toNatClampNeg (0 : Int32))), .unset] [])) t
      refine XS.iload X32.here hx rfl (hb hby at_131) rfl ?_
      show Steps p.tables e below (T32.setTop (mkF m 133 #[.val (.int p1), .val (.int p2), .val (.int p3), .val (.int p4), .val (.int p5), .val (.int p6), .val (.ref b1), .val (.ref b12), .val (.int cc), .val (.int ii), .val (.ref b23), .val (.int (own_sl [(nar .byte (p1.toInt8.toInt32)), (nar .byte (p2.toInt8.toInt32)), (nar .byte (p3.toInt8.toInt32)), (nar .byte (p4.toInt8.toInt32)), (nar .byte (p5.toInt8.toInt32))] ii cc.toNatClampNeg (0 : Int32))), .unset] [(.int cc)])) t
      refine XS.iconst X32.here hx rfl (hb hby at_133) ?_
      exact k
    by_cases hc134_35 : cc = (1 : Int32)
    · have hR1 : own_R ii 1 := hc134_35 ▸ hR
      refine own_via (S' := T32.setTop (mkF m 137 #[.val (.int p1), .val (.int p2), .val (.int p3), .val (.int p4), .val (.int p5), .val (.int p6), .val (.ref b1), .val (.ref b12), .val (.int cc), .val (.int ii), .val (.ref b23), .val (.int (own_sl [(nar .byte (p1.toInt8.toInt32)), (nar .byte (p2.toInt8.toInt32)), (nar .byte (p3.toInt8.toInt32)), (nar .byte (p4.toInt8.toInt32)), (nar .byte (p5.toInt8.toInt32))] ii cc.toNatClampNeg (0 : Int32))), .unset] [])) (fun t k => XS.icmpNo (g := (mkF m 134 #[.val (.int p1), .val (.int p2), .val (.int p3), .val (.int p4), .val (.int p5), .val (.int p6), .val (.ref b1), .val (.ref b12), .val (.int cc), .val (.int ii), .val (.ref b23), .val (.int (own_sl [(nar .byte (p1.toInt8.toInt32)), (nar .byte (p2.toInt8.toInt32)), (nar .byte (p3.toInt8.toInt32)), (nar .byte (p4.toInt8.toInt32)), (nar .byte (p5.toInt8.toInt32))] ii cc.toNatClampNeg (0 : Int32))), .unset] [(.int (1 : Int32)), (.int cc)])) X32.here hx rfl (hb hby at_134) rfl (teq hc134_35).2 k) ?_
      refine own_via (S' := T32.setTop (mkF m 141 #[.val (.int p1), .val (.int p2), .val (.int p3), .val (.int p4), .val (.int p5), .val (.int p6), .val (.ref b1), .val (.ref b12), .val (.int cc), .val (.int ii), .val (.ref b23), .val (.int (own_sl [(nar .byte (p1.toInt8.toInt32)), (nar .byte (p2.toInt8.toInt32)), (nar .byte (p3.toInt8.toInt32)), (nar .byte (p4.toInt8.toInt32)), (nar .byte (p5.toInt8.toInt32))] ii cc.toNatClampNeg (0 : Int32))), .unset] [(.int ii), (.ref b12)])) (fun t k => ?_) ?_
      · show Steps p.tables e below (T32.setTop (mkF m 137 #[.val (.int p1), .val (.int p2), .val (.int p3), .val (.int p4), .val (.int p5), .val (.int p6), .val (.ref b1), .val (.ref b12), .val (.int cc), .val (.int ii), .val (.ref b23), .val (.int (own_sl [(nar .byte (p1.toInt8.toInt32)), (nar .byte (p2.toInt8.toInt32)), (nar .byte (p3.toInt8.toInt32)), (nar .byte (p4.toInt8.toInt32)), (nar .byte (p5.toInt8.toInt32))] ii cc.toNatClampNeg (0 : Int32))), .unset] [])) t
        refine XS.aload X32.here hx rfl (hb hby at_137) rfl rfl ?_
        show Steps p.tables e below (T32.setTop (mkF m 139 #[.val (.int p1), .val (.int p2), .val (.int p3), .val (.int p4), .val (.int p5), .val (.int p6), .val (.ref b1), .val (.ref b12), .val (.int cc), .val (.int ii), .val (.ref b23), .val (.int (own_sl [(nar .byte (p1.toInt8.toInt32)), (nar .byte (p2.toInt8.toInt32)), (nar .byte (p3.toInt8.toInt32)), (nar .byte (p4.toInt8.toInt32)), (nar .byte (p5.toInt8.toInt32))] ii cc.toNatClampNeg (0 : Int32))), .unset] [(.ref b12)])) t
        refine XS.iload X32.here hx rfl (hb hby at_139) rfl ?_
        exact k
      have c36 := (Arv.keep ((V21.ext E23).ext E25) Kc30 (ninS ne_b12_b23 nin0))
      obtain ⟨_, _, ⟨T37, L37, k37, n37⟩, -, X37, ⟨Lc37, hQ37, l37, y37, z37⟩, st37⟩ := Jvm.LawKit.callS X32 hx (y := (⟨"com/example/altigate/altigate/asterix/DataBlockUnsignedPinLaw", "at", "([II)I"⟩ : MethodName)) hown (mvT hZ (hw _ (List.mem_of_getElem? (i := 29) rfl))) (mvT hZ (hw _ (List.mem_of_getElem? (i := 30) rfl))) (mvT hZ (hw _ (List.mem_of_getElem? (i := 31) rfl))) (mvT hZ (hw _ (List.mem_of_getElem? (i := 32) rfl))) (by decide) (backOf (W := 0) (rm4 l Z a0 hw [] b12 ii k12 [(p1 &&& (255 : Int32)), (p2 &&& (255 : Int32)), (p3 &&& (255 : Int32)), (p4 &&& (255 : Int32)), (p5 &&& (255 : Int32))] T30.heap n0 (Nat.le_trans Z0 K30.1) ⟨c36, rfl⟩ (by have := own_at (k := (0 : Int32)) hR1 (by decide) (by decide); simpa using this)) hZ (hw _ (List.mem_of_getElem? (i := 32) rfl)) (hw _ (List.mem_of_getElem? (i := 31) rfl)) (by decide) (by decide)) (g := (mkF m 141 #[.val (.int p1), .val (.int p2), .val (.int p3), .val (.int p4), .val (.int p5), .val (.int p6), .val (.ref b1), .val (.ref b12), .val (.int cc), .val (.int ii), .val (.ref b23), .val (.int (own_sl [(nar .byte (p1.toInt8.toInt32)), (nar .byte (p2.toInt8.toInt32)), (nar .byte (p3.toInt8.toInt32)), (nar .byte (p4.toInt8.toInt32)), (nar .byte (p5.toInt8.toInt32))] ii cc.toNatClampNeg (0 : Int32))), .unset] [(.int ii), (.ref b12)])) rfl (by rw [hml]; rfl) (argsL := [(.ref b12), (.int ii)]) (rest := []) (lenOf pd_2 rfl) rfl (by show 2 * 0 + _ ≤ _; exact Nat.le_of_eq rfl) (hb hby at_141) (fun _ _ => ⟨rfl, hh32, (by decide : 5 + 0 ≤ _), (by decide : 25 + 0 ≤ _)⟩)
      dsimp only [Pt.U, Pt.locs, Pt.cells, Pt.slots] at X37 l37 y37 z37 st37 hQ37
      subst l37 y37 z37
      obtain ⟨rfl, Nq37, hh37⟩ := hQ37
      have N37 := Fr.app N32 Nq37
      refine own_via st37 ?_
      show own_G p.tables e below _ (T37.setTop (mkF m 144 #[.val (.int p1), .val (.int p2), .val (.int p3), .val (.int p4), .val (.int p5), .val (.int p6), .val (.ref b1), .val (.ref b12), .val (.int cc), .val (.int ii), .val (.ref b23), .val (.int (own_sl [(nar .byte (p1.toInt8.toInt32)), (nar .byte (p2.toInt8.toInt32)), (nar .byte (p3.toInt8.toInt32)), (nar .byte (p4.toInt8.toInt32)), (nar .byte (p5.toInt8.toInt32))] ii cc.toNatClampNeg (0 : Int32))), .unset] [(.int ([(p1 &&& (255 : Int32)), (p2 &&& (255 : Int32)), (p3 &&& (255 : Int32)), (p4 &&& (255 : Int32)), (p5 &&& (255 : Int32))].getD (ii).toNatClampNeg 0))]))
      refine own_via (S' := T37.setTop (mkF m 221 #[.val (.int p1), .val (.int p2), .val (.int p3), .val (.int p4), .val (.int p5), .val (.int p6), .val (.ref b1), .val (.ref b12), .val (.int cc), .val (.int ii), .val (.ref b23), .val (.int (own_sl [(nar .byte (p1.toInt8.toInt32)), (nar .byte (p2.toInt8.toInt32)), (nar .byte (p3.toInt8.toInt32)), (nar .byte (p4.toInt8.toInt32)), (nar .byte (p5.toInt8.toInt32))] ii cc.toNatClampNeg (0 : Int32))), .val (.int ([(p1 &&& (255 : Int32)), (p2 &&& (255 : Int32)), (p3 &&& (255 : Int32)), (p4 &&& (255 : Int32)), (p5 &&& (255 : Int32))].getD (ii).toNatClampNeg 0))] [(.int ([(p1 &&& (255 : Int32)), (p2 &&& (255 : Int32)), (p3 &&& (255 : Int32)), (p4 &&& (255 : Int32)), (p5 &&& (255 : Int32))].getD (ii).toNatClampNeg 0)), (.int (own_sl [(nar .byte (p1.toInt8.toInt32)), (nar .byte (p2.toInt8.toInt32)), (nar .byte (p3.toInt8.toInt32)), (nar .byte (p4.toInt8.toInt32)), (nar .byte (p5.toInt8.toInt32))] ii cc.toNatClampNeg (0 : Int32)))])) (fun t k => ?_) ?_
      · show Steps p.tables e below (T37.setTop (mkF m 144 #[.val (.int p1), .val (.int p2), .val (.int p3), .val (.int p4), .val (.int p5), .val (.int p6), .val (.ref b1), .val (.ref b12), .val (.int cc), .val (.int ii), .val (.ref b23), .val (.int (own_sl [(nar .byte (p1.toInt8.toInt32)), (nar .byte (p2.toInt8.toInt32)), (nar .byte (p3.toInt8.toInt32)), (nar .byte (p4.toInt8.toInt32)), (nar .byte (p5.toInt8.toInt32))] ii cc.toNatClampNeg (0 : Int32))), .unset] [(.int ([(p1 &&& (255 : Int32)), (p2 &&& (255 : Int32)), (p3 &&& (255 : Int32)), (p4 &&& (255 : Int32)), (p5 &&& (255 : Int32))].getD (ii).toNatClampNeg 0))])) t
        refine XS.istore X37.here hx rfl (hb hby at_144) rfl (l' := #[.val (.int p1), .val (.int p2), .val (.int p3), .val (.int p4), .val (.int p5), .val (.int p6), .val (.ref b1), .val (.ref b12), .val (.int cc), .val (.int ii), .val (.ref b23), .val (.int (own_sl [(nar .byte (p1.toInt8.toInt32)), (nar .byte (p2.toInt8.toInt32)), (nar .byte (p3.toInt8.toInt32)), (nar .byte (p4.toInt8.toInt32)), (nar .byte (p5.toInt8.toInt32))] ii cc.toNatClampNeg (0 : Int32))), .val (.int ([(p1 &&& (255 : Int32)), (p2 &&& (255 : Int32)), (p3 &&& (255 : Int32)), (p4 &&& (255 : Int32)), (p5 &&& (255 : Int32))].getD (ii).toNatClampNeg 0))]) rfl ?_
        show Steps p.tables e below (T37.setTop (mkF m 146 #[.val (.int p1), .val (.int p2), .val (.int p3), .val (.int p4), .val (.int p5), .val (.int p6), .val (.ref b1), .val (.ref b12), .val (.int cc), .val (.int ii), .val (.ref b23), .val (.int (own_sl [(nar .byte (p1.toInt8.toInt32)), (nar .byte (p2.toInt8.toInt32)), (nar .byte (p3.toInt8.toInt32)), (nar .byte (p4.toInt8.toInt32)), (nar .byte (p5.toInt8.toInt32))] ii cc.toNatClampNeg (0 : Int32))), .val (.int ([(p1 &&& (255 : Int32)), (p2 &&& (255 : Int32)), (p3 &&& (255 : Int32)), (p4 &&& (255 : Int32)), (p5 &&& (255 : Int32))].getD (ii).toNatClampNeg 0))] [])) t
        refine XS.goto X37.here hx rfl (pc0 := 146) (pc' := 217) rfl (hb hby at_146) (by decide) (by decide) ?_
        show Steps p.tables e below (T37.setTop (mkF m 217 #[.val (.int p1), .val (.int p2), .val (.int p3), .val (.int p4), .val (.int p5), .val (.int p6), .val (.ref b1), .val (.ref b12), .val (.int cc), .val (.int ii), .val (.ref b23), .val (.int (own_sl [(nar .byte (p1.toInt8.toInt32)), (nar .byte (p2.toInt8.toInt32)), (nar .byte (p3.toInt8.toInt32)), (nar .byte (p4.toInt8.toInt32)), (nar .byte (p5.toInt8.toInt32))] ii cc.toNatClampNeg (0 : Int32))), .val (.int ([(p1 &&& (255 : Int32)), (p2 &&& (255 : Int32)), (p3 &&& (255 : Int32)), (p4 &&& (255 : Int32)), (p5 &&& (255 : Int32))].getD (ii).toNatClampNeg 0))] [])) t
        refine XS.iload X37.here hx rfl (hb hby at_217) rfl ?_
        show Steps p.tables e below (T37.setTop (mkF m 219 #[.val (.int p1), .val (.int p2), .val (.int p3), .val (.int p4), .val (.int p5), .val (.int p6), .val (.ref b1), .val (.ref b12), .val (.int cc), .val (.int ii), .val (.ref b23), .val (.int (own_sl [(nar .byte (p1.toInt8.toInt32)), (nar .byte (p2.toInt8.toInt32)), (nar .byte (p3.toInt8.toInt32)), (nar .byte (p4.toInt8.toInt32)), (nar .byte (p5.toInt8.toInt32))] ii cc.toNatClampNeg (0 : Int32))), .val (.int ([(p1 &&& (255 : Int32)), (p2 &&& (255 : Int32)), (p3 &&& (255 : Int32)), (p4 &&& (255 : Int32)), (p5 &&& (255 : Int32))].getD (ii).toNatClampNeg 0))] [(.int (own_sl [(nar .byte (p1.toInt8.toInt32)), (nar .byte (p2.toInt8.toInt32)), (nar .byte (p3.toInt8.toInt32)), (nar .byte (p4.toInt8.toInt32)), (nar .byte (p5.toInt8.toInt32))] ii cc.toNatClampNeg (0 : Int32)))])) t
        refine XS.iload X37.here hx rfl (hb hby at_219) rfl ?_
        exact k
      refine own_via (S' := T37.setTop (mkF m 224 #[.val (.int p1), .val (.int p2), .val (.int p3), .val (.int p4), .val (.int p5), .val (.int p6), .val (.ref b1), .val (.ref b12), .val (.int cc), .val (.int ii), .val (.ref b23), .val (.int (own_sl [(nar .byte (p1.toInt8.toInt32)), (nar .byte (p2.toInt8.toInt32)), (nar .byte (p3.toInt8.toInt32)), (nar .byte (p4.toInt8.toInt32)), (nar .byte (p5.toInt8.toInt32))] ii cc.toNatClampNeg (0 : Int32))), .val (.int ([(p1 &&& (255 : Int32)), (p2 &&& (255 : Int32)), (p3 &&& (255 : Int32)), (p4 &&& (255 : Int32)), (p5 &&& (255 : Int32))].getD (ii).toNatClampNeg 0))] [])) (fun t k => XS.icmpNo (g := (mkF m 221 #[.val (.int p1), .val (.int p2), .val (.int p3), .val (.int p4), .val (.int p5), .val (.int p6), .val (.ref b1), .val (.ref b12), .val (.int cc), .val (.int ii), .val (.ref b23), .val (.int (own_sl [(nar .byte (p1.toInt8.toInt32)), (nar .byte (p2.toInt8.toInt32)), (nar .byte (p3.toInt8.toInt32)), (nar .byte (p4.toInt8.toInt32)), (nar .byte (p5.toInt8.toInt32))] ii cc.toNatClampNeg (0 : Int32))), .val (.int ([(p1 &&& (255 : Int32)), (p2 &&& (255 : Int32)), (p3 &&& (255 : Int32)), (p4 &&& (255 : Int32)), (p5 &&& (255 : Int32))].getD (ii).toNatClampNeg 0))] [(.int ([(p1 &&& (255 : Int32)), (p2 &&& (255 : Int32)), (p3 &&& (255 : Int32)), (p4 &&& (255 : Int32)), (p5 &&& (255 : Int32))].getD (ii).toNatClampNeg 0)), (.int (own_sl [(nar .byte (p1.toInt8.toInt32)), (nar .byte (p2.toInt8.toInt32)), (nar .byte (p3.toInt8.toInt32)), (nar .byte (p4.toInt8.toInt32)), (nar .byte (p5.toInt8.toInt32))] ii cc.toNatClampNeg (0 : Int32)))])) X37.here hx rfl (hb hby at_221) rfl (teq (by rw [hc134_35]; exact own_f1 p1 p2 p3 p4 p5 ii hR1)).2 k) ?_
      refine own_via (S' := T37.setTop (mkF m 229 #[.val (.int p1), .val (.int p2), .val (.int p3), .val (.int p4), .val (.int p5), .val (.int p6), .val (.ref b1), .val (.ref b12), .val (.int cc), .val (.int ii), .val (.ref b23), .val (.int (own_sl [(nar .byte (p1.toInt8.toInt32)), (nar .byte (p2.toInt8.toInt32)), (nar .byte (p3.toInt8.toInt32)), (nar .byte (p4.toInt8.toInt32)), (nar .byte (p5.toInt8.toInt32))] ii cc.toNatClampNeg (0 : Int32))), .val (.int ([(p1 &&& (255 : Int32)), (p2 &&& (255 : Int32)), (p3 &&& (255 : Int32)), (p4 &&& (255 : Int32)), (p5 &&& (255 : Int32))].getD (ii).toNatClampNeg 0))] [(.int (1 : Int32))])) (fun t k => ?_) ?_
      · show Steps p.tables e below (T37.setTop (mkF m 224 #[.val (.int p1), .val (.int p2), .val (.int p3), .val (.int p4), .val (.int p5), .val (.int p6), .val (.ref b1), .val (.ref b12), .val (.int cc), .val (.int ii), .val (.ref b23), .val (.int (own_sl [(nar .byte (p1.toInt8.toInt32)), (nar .byte (p2.toInt8.toInt32)), (nar .byte (p3.toInt8.toInt32)), (nar .byte (p4.toInt8.toInt32)), (nar .byte (p5.toInt8.toInt32))] ii cc.toNatClampNeg (0 : Int32))), .val (.int ([(p1 &&& (255 : Int32)), (p2 &&& (255 : Int32)), (p3 &&& (255 : Int32)), (p4 &&& (255 : Int32)), (p5 &&& (255 : Int32))].getD (ii).toNatClampNeg 0))] [])) t
        refine XS.iconst X37.here hx rfl (hb hby at_224) ?_
        show Steps p.tables e below (T37.setTop (mkF m 225 #[.val (.int p1), .val (.int p2), .val (.int p3), .val (.int p4), .val (.int p5), .val (.int p6), .val (.ref b1), .val (.ref b12), .val (.int cc), .val (.int ii), .val (.ref b23), .val (.int (own_sl [(nar .byte (p1.toInt8.toInt32)), (nar .byte (p2.toInt8.toInt32)), (nar .byte (p3.toInt8.toInt32)), (nar .byte (p4.toInt8.toInt32)), (nar .byte (p5.toInt8.toInt32))] ii cc.toNatClampNeg (0 : Int32))), .val (.int ([(p1 &&& (255 : Int32)), (p2 &&& (255 : Int32)), (p3 &&& (255 : Int32)), (p4 &&& (255 : Int32)), (p5 &&& (255 : Int32))].getD (ii).toNatClampNeg 0))] [(.int (1 : Int32))])) t
        refine XS.goto X37.here hx rfl (pc0 := 225) (pc' := 229) rfl (hb hby at_225) (by decide) (by decide) ?_
        exact k
      exact own_endW (h := T30.heap) X37 hS25 (v := some (.int (1 : Int32))) Bd.notSynchronized (fun h => by rw [Bd.returns] at h; cases h) (fun fs hr => retN X37 hx (t := .boolean) Bd.returns (by simp) (hb hby at_229) hr) hh37 (by rw [hh37]; exact (Nat.le_trans hk25 Kc30.1)) ⟨rfl, N37⟩ (by decide) (by decide)
    · refine own_via (S' := T32.setTop (mkF m 149 #[.val (.int p1), .val (.int p2), .val (.int p3), .val (.int p4), .val (.int p5), .val (.int p6), .val (.ref b1), .val (.ref b12), .val (.int cc), .val (.int ii), .val (.ref b23), .val (.int (own_sl [(nar .byte (p1.toInt8.toInt32)), (nar .byte (p2.toInt8.toInt32)), (nar .byte (p3.toInt8.toInt32)), (nar .byte (p4.toInt8.toInt32)), (nar .byte (p5.toInt8.toInt32))] ii cc.toNatClampNeg (0 : Int32))), .unset] [])) (fun t k => XS.icmpYes (g := (mkF m 134 #[.val (.int p1), .val (.int p2), .val (.int p3), .val (.int p4), .val (.int p5), .val (.int p6), .val (.ref b1), .val (.ref b12), .val (.int cc), .val (.int ii), .val (.ref b23), .val (.int (own_sl [(nar .byte (p1.toInt8.toInt32)), (nar .byte (p2.toInt8.toInt32)), (nar .byte (p3.toInt8.toInt32)), (nar .byte (p4.toInt8.toInt32)), (nar .byte (p5.toInt8.toInt32))] ii cc.toNatClampNeg (0 : Int32))), .unset] [(.int (1 : Int32)), (.int cc)])) X32.here hx rfl (pc0 := 134) (pc' := 149) rfl (hb hby at_134) rfl (feq hc134_35).2 (by decide) (by decide) k) ?_
      refine own_via (S' := T32.setTop (mkF m 152 #[.val (.int p1), .val (.int p2), .val (.int p3), .val (.int p4), .val (.int p5), .val (.int p6), .val (.ref b1), .val (.ref b12), .val (.int cc), .val (.int ii), .val (.ref b23), .val (.int (own_sl [(nar .byte (p1.toInt8.toInt32)), (nar .byte (p2.toInt8.toInt32)), (nar .byte (p3.toInt8.toInt32)), (nar .byte (p4.toInt8.toInt32)), (nar .byte (p5.toInt8.toInt32))] ii cc.toNatClampNeg (0 : Int32))), .unset] [(.int (2 : Int32)), (.int cc)])) (fun t k => ?_) ?_
      · show Steps p.tables e below (T32.setTop (mkF m 149 #[.val (.int p1), .val (.int p2), .val (.int p3), .val (.int p4), .val (.int p5), .val (.int p6), .val (.ref b1), .val (.ref b12), .val (.int cc), .val (.int ii), .val (.ref b23), .val (.int (own_sl [(nar .byte (p1.toInt8.toInt32)), (nar .byte (p2.toInt8.toInt32)), (nar .byte (p3.toInt8.toInt32)), (nar .byte (p4.toInt8.toInt32)), (nar .byte (p5.toInt8.toInt32))] ii cc.toNatClampNeg (0 : Int32))), .unset] [])) t
        refine XS.iload X32.here hx rfl (hb hby at_149) rfl ?_
        show Steps p.tables e below (T32.setTop (mkF m 151 #[.val (.int p1), .val (.int p2), .val (.int p3), .val (.int p4), .val (.int p5), .val (.int p6), .val (.ref b1), .val (.ref b12), .val (.int cc), .val (.int ii), .val (.ref b23), .val (.int (own_sl [(nar .byte (p1.toInt8.toInt32)), (nar .byte (p2.toInt8.toInt32)), (nar .byte (p3.toInt8.toInt32)), (nar .byte (p4.toInt8.toInt32)), (nar .byte (p5.toInt8.toInt32))] ii cc.toNatClampNeg (0 : Int32))), .unset] [(.int cc)])) t
        refine XS.iconst X32.here hx rfl (hb hby at_151) ?_
        exact k
      by_cases hc152_39 : cc = (2 : Int32)
      · have hR2 : own_R ii 2 := hc152_39 ▸ hR
        refine own_via (S' := T32.setTop (mkF m 155 #[.val (.int p1), .val (.int p2), .val (.int p3), .val (.int p4), .val (.int p5), .val (.int p6), .val (.ref b1), .val (.ref b12), .val (.int cc), .val (.int ii), .val (.ref b23), .val (.int (own_sl [(nar .byte (p1.toInt8.toInt32)), (nar .byte (p2.toInt8.toInt32)), (nar .byte (p3.toInt8.toInt32)), (nar .byte (p4.toInt8.toInt32)), (nar .byte (p5.toInt8.toInt32))] ii cc.toNatClampNeg (0 : Int32))), .unset] [])) (fun t k => XS.icmpNo (g := (mkF m 152 #[.val (.int p1), .val (.int p2), .val (.int p3), .val (.int p4), .val (.int p5), .val (.int p6), .val (.ref b1), .val (.ref b12), .val (.int cc), .val (.int ii), .val (.ref b23), .val (.int (own_sl [(nar .byte (p1.toInt8.toInt32)), (nar .byte (p2.toInt8.toInt32)), (nar .byte (p3.toInt8.toInt32)), (nar .byte (p4.toInt8.toInt32)), (nar .byte (p5.toInt8.toInt32))] ii cc.toNatClampNeg (0 : Int32))), .unset] [(.int (2 : Int32)), (.int cc)])) X32.here hx rfl (hb hby at_152) rfl (teq hc152_39).2 k) ?_
        refine own_via (S' := T32.setTop (mkF m 159 #[.val (.int p1), .val (.int p2), .val (.int p3), .val (.int p4), .val (.int p5), .val (.int p6), .val (.ref b1), .val (.ref b12), .val (.int cc), .val (.int ii), .val (.ref b23), .val (.int (own_sl [(nar .byte (p1.toInt8.toInt32)), (nar .byte (p2.toInt8.toInt32)), (nar .byte (p3.toInt8.toInt32)), (nar .byte (p4.toInt8.toInt32)), (nar .byte (p5.toInt8.toInt32))] ii cc.toNatClampNeg (0 : Int32))), .unset] [(.int ii), (.ref b12)])) (fun t k => ?_) ?_
        · show Steps p.tables e below (T32.setTop (mkF m 155 #[.val (.int p1), .val (.int p2), .val (.int p3), .val (.int p4), .val (.int p5), .val (.int p6), .val (.ref b1), .val (.ref b12), .val (.int cc), .val (.int ii), .val (.ref b23), .val (.int (own_sl [(nar .byte (p1.toInt8.toInt32)), (nar .byte (p2.toInt8.toInt32)), (nar .byte (p3.toInt8.toInt32)), (nar .byte (p4.toInt8.toInt32)), (nar .byte (p5.toInt8.toInt32))] ii cc.toNatClampNeg (0 : Int32))), .unset] [])) t
          refine XS.aload X32.here hx rfl (hb hby at_155) rfl rfl ?_
          show Steps p.tables e below (T32.setTop (mkF m 157 #[.val (.int p1), .val (.int p2), .val (.int p3), .val (.int p4), .val (.int p5), .val (.int p6), .val (.ref b1), .val (.ref b12), .val (.int cc), .val (.int ii), .val (.ref b23), .val (.int (own_sl [(nar .byte (p1.toInt8.toInt32)), (nar .byte (p2.toInt8.toInt32)), (nar .byte (p3.toInt8.toInt32)), (nar .byte (p4.toInt8.toInt32)), (nar .byte (p5.toInt8.toInt32))] ii cc.toNatClampNeg (0 : Int32))), .unset] [(.ref b12)])) t
          refine XS.iload X32.here hx rfl (hb hby at_157) rfl ?_
          exact k
        have c40 := (Arv.keep ((V21.ext E23).ext E25) Kc30 (ninS ne_b12_b23 nin0))
        obtain ⟨_, _, ⟨T41, L41, k41, n41⟩, -, X41, ⟨Lc41, hQ41, l41, y41, z41⟩, st41⟩ := Jvm.LawKit.callS X32 hx (y := (⟨"com/example/altigate/altigate/asterix/DataBlockUnsignedPinLaw", "at", "([II)I"⟩ : MethodName)) hown (mvT hZ (hw _ (List.mem_of_getElem? (i := 29) rfl))) (mvT hZ (hw _ (List.mem_of_getElem? (i := 30) rfl))) (mvT hZ (hw _ (List.mem_of_getElem? (i := 31) rfl))) (mvT hZ (hw _ (List.mem_of_getElem? (i := 32) rfl))) (by decide) (backOf (W := 0) (rm4 l Z a0 hw [] b12 ii k12 [(p1 &&& (255 : Int32)), (p2 &&& (255 : Int32)), (p3 &&& (255 : Int32)), (p4 &&& (255 : Int32)), (p5 &&& (255 : Int32))] T30.heap n0 (Nat.le_trans Z0 K30.1) ⟨c40, rfl⟩ (by have := own_at (k := (0 : Int32)) hR2 (by decide) (by decide); simpa using this)) hZ (hw _ (List.mem_of_getElem? (i := 32) rfl)) (hw _ (List.mem_of_getElem? (i := 31) rfl)) (by decide) (by decide)) (g := (mkF m 159 #[.val (.int p1), .val (.int p2), .val (.int p3), .val (.int p4), .val (.int p5), .val (.int p6), .val (.ref b1), .val (.ref b12), .val (.int cc), .val (.int ii), .val (.ref b23), .val (.int (own_sl [(nar .byte (p1.toInt8.toInt32)), (nar .byte (p2.toInt8.toInt32)), (nar .byte (p3.toInt8.toInt32)), (nar .byte (p4.toInt8.toInt32)), (nar .byte (p5.toInt8.toInt32))] ii cc.toNatClampNeg (0 : Int32))), .unset] [(.int ii), (.ref b12)])) rfl (by rw [hml]; rfl) (argsL := [(.ref b12), (.int ii)]) (rest := []) (lenOf pd_2 rfl) rfl (by show 2 * 0 + _ ≤ _; exact Nat.le_of_eq rfl) (hb hby at_159) (fun _ _ => ⟨rfl, hh32, (by decide : 5 + 0 ≤ _), (by decide : 25 + 0 ≤ _)⟩)
        dsimp only [Pt.U, Pt.locs, Pt.cells, Pt.slots] at X41 l41 y41 z41 st41 hQ41
        subst l41 y41 z41
        obtain ⟨rfl, Nq41, hh41⟩ := hQ41
        have N41 := Fr.app N32 Nq41
        refine own_via st41 ?_
        show own_G p.tables e below _ (T41.setTop (mkF m 162 #[.val (.int p1), .val (.int p2), .val (.int p3), .val (.int p4), .val (.int p5), .val (.int p6), .val (.ref b1), .val (.ref b12), .val (.int cc), .val (.int ii), .val (.ref b23), .val (.int (own_sl [(nar .byte (p1.toInt8.toInt32)), (nar .byte (p2.toInt8.toInt32)), (nar .byte (p3.toInt8.toInt32)), (nar .byte (p4.toInt8.toInt32)), (nar .byte (p5.toInt8.toInt32))] ii cc.toNatClampNeg (0 : Int32))), .unset] [(.int ([(p1 &&& (255 : Int32)), (p2 &&& (255 : Int32)), (p3 &&& (255 : Int32)), (p4 &&& (255 : Int32)), (p5 &&& (255 : Int32))].getD (ii).toNatClampNeg 0))]))
        refine own_via (S' := T41.setTop (mkF m 172 #[.val (.int p1), .val (.int p2), .val (.int p3), .val (.int p4), .val (.int p5), .val (.int p6), .val (.ref b1), .val (.ref b12), .val (.int cc), .val (.int ii), .val (.ref b23), .val (.int (own_sl [(nar .byte (p1.toInt8.toInt32)), (nar .byte (p2.toInt8.toInt32)), (nar .byte (p3.toInt8.toInt32)), (nar .byte (p4.toInt8.toInt32)), (nar .byte (p5.toInt8.toInt32))] ii cc.toNatClampNeg (0 : Int32))), .unset] [(.int (ii + (1 : Int32))), (.ref b12), (.int (([(p1 &&& (255 : Int32)), (p2 &&& (255 : Int32)), (p3 &&& (255 : Int32)), (p4 &&& (255 : Int32)), (p5 &&& (255 : Int32))].getD (ii).toNatClampNeg 0) * (256 : Int32)))])) (fun t k => ?_) ?_
        · show Steps p.tables e below (T41.setTop (mkF m 162 #[.val (.int p1), .val (.int p2), .val (.int p3), .val (.int p4), .val (.int p5), .val (.int p6), .val (.ref b1), .val (.ref b12), .val (.int cc), .val (.int ii), .val (.ref b23), .val (.int (own_sl [(nar .byte (p1.toInt8.toInt32)), (nar .byte (p2.toInt8.toInt32)), (nar .byte (p3.toInt8.toInt32)), (nar .byte (p4.toInt8.toInt32)), (nar .byte (p5.toInt8.toInt32))] ii cc.toNatClampNeg (0 : Int32))), .unset] [(.int ([(p1 &&& (255 : Int32)), (p2 &&& (255 : Int32)), (p3 &&& (255 : Int32)), (p4 &&& (255 : Int32)), (p5 &&& (255 : Int32))].getD (ii).toNatClampNeg 0))])) t
          refine XS.sipush X41.here hx rfl (hb hby at_162) ?_
          show Steps p.tables e below (T41.setTop (mkF m 165 #[.val (.int p1), .val (.int p2), .val (.int p3), .val (.int p4), .val (.int p5), .val (.int p6), .val (.ref b1), .val (.ref b12), .val (.int cc), .val (.int ii), .val (.ref b23), .val (.int (own_sl [(nar .byte (p1.toInt8.toInt32)), (nar .byte (p2.toInt8.toInt32)), (nar .byte (p3.toInt8.toInt32)), (nar .byte (p4.toInt8.toInt32)), (nar .byte (p5.toInt8.toInt32))] ii cc.toNatClampNeg (0 : Int32))), .unset] [(.int (256 : Int32)), (.int ([(p1 &&& (255 : Int32)), (p2 &&& (255 : Int32)), (p3 &&& (255 : Int32)), (p4 &&& (255 : Int32)), (p5 &&& (255 : Int32))].getD (ii).toNatClampNeg 0))])) t
          refine XS.imul X41.here hx rfl (hb hby at_165) rfl ?_
          show Steps p.tables e below (T41.setTop (mkF m 166 #[.val (.int p1), .val (.int p2), .val (.int p3), .val (.int p4), .val (.int p5), .val (.int p6), .val (.ref b1), .val (.ref b12), .val (.int cc), .val (.int ii), .val (.ref b23), .val (.int (own_sl [(nar .byte (p1.toInt8.toInt32)), (nar .byte (p2.toInt8.toInt32)), (nar .byte (p3.toInt8.toInt32)), (nar .byte (p4.toInt8.toInt32)), (nar .byte (p5.toInt8.toInt32))] ii cc.toNatClampNeg (0 : Int32))), .unset] [(.int (([(p1 &&& (255 : Int32)), (p2 &&& (255 : Int32)), (p3 &&& (255 : Int32)), (p4 &&& (255 : Int32)), (p5 &&& (255 : Int32))].getD (ii).toNatClampNeg 0) * (256 : Int32)))])) t
          refine XS.aload X41.here hx rfl (hb hby at_166) rfl rfl ?_
          show Steps p.tables e below (T41.setTop (mkF m 168 #[.val (.int p1), .val (.int p2), .val (.int p3), .val (.int p4), .val (.int p5), .val (.int p6), .val (.ref b1), .val (.ref b12), .val (.int cc), .val (.int ii), .val (.ref b23), .val (.int (own_sl [(nar .byte (p1.toInt8.toInt32)), (nar .byte (p2.toInt8.toInt32)), (nar .byte (p3.toInt8.toInt32)), (nar .byte (p4.toInt8.toInt32)), (nar .byte (p5.toInt8.toInt32))] ii cc.toNatClampNeg (0 : Int32))), .unset] [(.ref b12), (.int (([(p1 &&& (255 : Int32)), (p2 &&& (255 : Int32)), (p3 &&& (255 : Int32)), (p4 &&& (255 : Int32)), (p5 &&& (255 : Int32))].getD (ii).toNatClampNeg 0) * (256 : Int32)))])) t
          refine XS.iload X41.here hx rfl (hb hby at_168) rfl ?_
          show Steps p.tables e below (T41.setTop (mkF m 170 #[.val (.int p1), .val (.int p2), .val (.int p3), .val (.int p4), .val (.int p5), .val (.int p6), .val (.ref b1), .val (.ref b12), .val (.int cc), .val (.int ii), .val (.ref b23), .val (.int (own_sl [(nar .byte (p1.toInt8.toInt32)), (nar .byte (p2.toInt8.toInt32)), (nar .byte (p3.toInt8.toInt32)), (nar .byte (p4.toInt8.toInt32)), (nar .byte (p5.toInt8.toInt32))] ii cc.toNatClampNeg (0 : Int32))), .unset] [(.int ii), (.ref b12), (.int (([(p1 &&& (255 : Int32)), (p2 &&& (255 : Int32)), (p3 &&& (255 : Int32)), (p4 &&& (255 : Int32)), (p5 &&& (255 : Int32))].getD (ii).toNatClampNeg 0) * (256 : Int32)))])) t
          refine XS.iconst X41.here hx rfl (hb hby at_170) ?_
          show Steps p.tables e below (T41.setTop (mkF m 171 #[.val (.int p1), .val (.int p2), .val (.int p3), .val (.int p4), .val (.int p5), .val (.int p6), .val (.ref b1), .val (.ref b12), .val (.int cc), .val (.int ii), .val (.ref b23), .val (.int (own_sl [(nar .byte (p1.toInt8.toInt32)), (nar .byte (p2.toInt8.toInt32)), (nar .byte (p3.toInt8.toInt32)), (nar .byte (p4.toInt8.toInt32)), (nar .byte (p5.toInt8.toInt32))] ii cc.toNatClampNeg (0 : Int32))), .unset] [(.int (1 : Int32)), (.int ii), (.ref b12), (.int (([(p1 &&& (255 : Int32)), (p2 &&& (255 : Int32)), (p3 &&& (255 : Int32)), (p4 &&& (255 : Int32)), (p5 &&& (255 : Int32))].getD (ii).toNatClampNeg 0) * (256 : Int32)))])) t
          refine XS.iadd X41.here hx rfl (hb hby at_171) rfl ?_
          exact k
        obtain ⟨_, _, ⟨T42, L42, k42, n42⟩, -, X42, ⟨Lc42, hQ42, l42, y42, z42⟩, st42⟩ := Jvm.LawKit.callS X41 hx (y := (⟨"com/example/altigate/altigate/asterix/DataBlockUnsignedPinLaw", "at", "([II)I"⟩ : MethodName)) hown (mvT hZ (hw _ (List.mem_of_getElem? (i := 29) rfl))) (mvT hZ (hw _ (List.mem_of_getElem? (i := 30) rfl))) (mvT hZ (hw _ (List.mem_of_getElem? (i := 31) rfl))) (mvT hZ (hw _ (List.mem_of_getElem? (i := 32) rfl))) (by decide) (backOf (W := 1) (rm4 l Z a0 hw [] b12 (ii + (1 : Int32)) k12 [(p1 &&& (255 : Int32)), (p2 &&& (255 : Int32)), (p3 &&& (255 : Int32)), (p4 &&& (255 : Int32)), (p5 &&& (255 : Int32))] T30.heap n0 (Nat.le_trans Z0 K30.1) ⟨c40, rfl⟩ (by have := own_at (k := (1 : Int32)) hR2 (by decide) (by decide); exact this)) hZ (hw _ (List.mem_of_getElem? (i := 32) rfl)) (hw _ (List.mem_of_getElem? (i := 31) rfl)) (by decide) (by decide)) (g := (mkF m 172 #[.val (.int p1), .val (.int p2), .val (.int p3), .val (.int p4), .val (.int p5), .val (.int p6), .val (.ref b1), .val (.ref b12), .val (.int cc), .val (.int ii), .val (.ref b23), .val (.int (own_sl [(nar .byte (p1.toInt8.toInt32)), (nar .byte (p2.toInt8.toInt32)), (nar .byte (p3.toInt8.toInt32)), (nar .byte (p4.toInt8.toInt32)), (nar .byte (p5.toInt8.toInt32))] ii cc.toNatClampNeg (0 : Int32))), .unset] [(.int (ii + (1 : Int32))), (.ref b12), (.int (([(p1 &&& (255 : Int32)), (p2 &&& (255 : Int32)), (p3 &&& (255 : Int32)), (p4 &&& (255 : Int32)), (p5 &&& (255 : Int32))].getD (ii).toNatClampNeg 0) * (256 : Int32)))])) rfl (by rw [hml]; rfl) (argsL := [(.ref b12), (.int (ii + (1 : Int32)))]) (rest := [(.int (([(p1 &&& (255 : Int32)), (p2 &&& (255 : Int32)), (p3 &&& (255 : Int32)), (p4 &&& (255 : Int32)), (p5 &&& (255 : Int32))].getD (ii).toNatClampNeg 0) * (256 : Int32)))]) (lenOf pd_2 rfl) rfl (by show 2 * 0 + _ ≤ _; exact Nat.le_of_eq rfl) (hb hby at_172) (fun _ _ => ⟨rfl, hh41, (by decide : 5 + 0 ≤ _), (by decide : 25 + 0 ≤ _)⟩)
        dsimp only [Pt.U, Pt.locs, Pt.cells, Pt.slots] at X42 l42 y42 z42 st42 hQ42
        subst l42 y42 z42
        obtain ⟨rfl, Nq42, hh42⟩ := hQ42
        have N42 := Fr.app N41 Nq42
        refine own_via st42 ?_
        show own_G p.tables e below _ (T42.setTop (mkF m 175 #[.val (.int p1), .val (.int p2), .val (.int p3), .val (.int p4), .val (.int p5), .val (.int p6), .val (.ref b1), .val (.ref b12), .val (.int cc), .val (.int ii), .val (.ref b23), .val (.int (own_sl [(nar .byte (p1.toInt8.toInt32)), (nar .byte (p2.toInt8.toInt32)), (nar .byte (p3.toInt8.toInt32)), (nar .byte (p4.toInt8.toInt32)), (nar .byte (p5.toInt8.toInt32))] ii cc.toNatClampNeg (0 : Int32))), .unset] [(.int ([(p1 &&& (255 : Int32)), (p2 &&& (255 : Int32)), (p3 &&& (255 : Int32)), (p4 &&& (255 : Int32)), (p5 &&& (255 : Int32))].getD ((ii + (1 : Int32))).toNatClampNeg 0)), (.int (([(p1 &&& (255 : Int32)), (p2 &&& (255 : Int32)), (p3 &&& (255 : Int32)), (p4 &&& (255 : Int32)), (p5 &&& (255 : Int32))].getD (ii).toNatClampNeg 0) * (256 : Int32)))]))
        refine own_via (S' := T42.setTop (mkF m 221 #[.val (.int p1), .val (.int p2), .val (.int p3), .val (.int p4), .val (.int p5), .val (.int p6), .val (.ref b1), .val (.ref b12), .val (.int cc), .val (.int ii), .val (.ref b23), .val (.int (own_sl [(nar .byte (p1.toInt8.toInt32)), (nar .byte (p2.toInt8.toInt32)), (nar .byte (p3.toInt8.toInt32)), (nar .byte (p4.toInt8.toInt32)), (nar .byte (p5.toInt8.toInt32))] ii cc.toNatClampNeg (0 : Int32))), .val (.int ((([(p1 &&& (255 : Int32)), (p2 &&& (255 : Int32)), (p3 &&& (255 : Int32)), (p4 &&& (255 : Int32)), (p5 &&& (255 : Int32))].getD (ii).toNatClampNeg 0) * (256 : Int32)) + ([(p1 &&& (255 : Int32)), (p2 &&& (255 : Int32)), (p3 &&& (255 : Int32)), (p4 &&& (255 : Int32)), (p5 &&& (255 : Int32))].getD ((ii + (1 : Int32))).toNatClampNeg 0)))] [(.int ((([(p1 &&& (255 : Int32)), (p2 &&& (255 : Int32)), (p3 &&& (255 : Int32)), (p4 &&& (255 : Int32)), (p5 &&& (255 : Int32))].getD (ii).toNatClampNeg 0) * (256 : Int32)) + ([(p1 &&& (255 : Int32)), (p2 &&& (255 : Int32)), (p3 &&& (255 : Int32)), (p4 &&& (255 : Int32)), (p5 &&& (255 : Int32))].getD ((ii + (1 : Int32))).toNatClampNeg 0))), (.int (own_sl [(nar .byte (p1.toInt8.toInt32)), (nar .byte (p2.toInt8.toInt32)), (nar .byte (p3.toInt8.toInt32)), (nar .byte (p4.toInt8.toInt32)), (nar .byte (p5.toInt8.toInt32))] ii cc.toNatClampNeg (0 : Int32)))])) (fun t k => ?_) ?_
        · show Steps p.tables e below (T42.setTop (mkF m 175 #[.val (.int p1), .val (.int p2), .val (.int p3), .val (.int p4), .val (.int p5), .val (.int p6), .val (.ref b1), .val (.ref b12), .val (.int cc), .val (.int ii), .val (.ref b23), .val (.int (own_sl [(nar .byte (p1.toInt8.toInt32)), (nar .byte (p2.toInt8.toInt32)), (nar .byte (p3.toInt8.toInt32)), (nar .byte (p4.toInt8.toInt32)), (nar .byte (p5.toInt8.toInt32))] ii cc.toNatClampNeg (0 : Int32))), .unset] [(.int ([(p1 &&& (255 : Int32)), (p2 &&& (255 : Int32)), (p3 &&& (255 : Int32)), (p4 &&& (255 : Int32)), (p5 &&& (255 : Int32))].getD ((ii + (1 : Int32))).toNatClampNeg 0)), (.int (([(p1 &&& (255 : Int32)), (p2 &&& (255 : Int32)), (p3 &&& (255 : Int32)), (p4 &&& (255 : Int32)), (p5 &&& (255 : Int32))].getD (ii).toNatClampNeg 0) * (256 : Int32)))])) t
          refine XS.iadd X42.here hx rfl (hb hby at_175) rfl ?_
          show Steps p.tables e below (T42.setTop (mkF m 176 #[.val (.int p1), .val (.int p2), .val (.int p3), .val (.int p4), .val (.int p5), .val (.int p6), .val (.ref b1), .val (.ref b12), .val (.int cc), .val (.int ii), .val (.ref b23), .val (.int (own_sl [(nar .byte (p1.toInt8.toInt32)), (nar .byte (p2.toInt8.toInt32)), (nar .byte (p3.toInt8.toInt32)), (nar .byte (p4.toInt8.toInt32)), (nar .byte (p5.toInt8.toInt32))] ii cc.toNatClampNeg (0 : Int32))), .unset] [(.int ((([(p1 &&& (255 : Int32)), (p2 &&& (255 : Int32)), (p3 &&& (255 : Int32)), (p4 &&& (255 : Int32)), (p5 &&& (255 : Int32))].getD (ii).toNatClampNeg 0) * (256 : Int32)) + ([(p1 &&& (255 : Int32)), (p2 &&& (255 : Int32)), (p3 &&& (255 : Int32)), (p4 &&& (255 : Int32)), (p5 &&& (255 : Int32))].getD ((ii + (1 : Int32))).toNatClampNeg 0)))])) t
          refine XS.istore X42.here hx rfl (hb hby at_176) rfl (l' := #[.val (.int p1), .val (.int p2), .val (.int p3), .val (.int p4), .val (.int p5), .val (.int p6), .val (.ref b1), .val (.ref b12), .val (.int cc), .val (.int ii), .val (.ref b23), .val (.int (own_sl [(nar .byte (p1.toInt8.toInt32)), (nar .byte (p2.toInt8.toInt32)), (nar .byte (p3.toInt8.toInt32)), (nar .byte (p4.toInt8.toInt32)), (nar .byte (p5.toInt8.toInt32))] ii cc.toNatClampNeg (0 : Int32))), .val (.int ((([(p1 &&& (255 : Int32)), (p2 &&& (255 : Int32)), (p3 &&& (255 : Int32)), (p4 &&& (255 : Int32)), (p5 &&& (255 : Int32))].getD (ii).toNatClampNeg 0) * (256 : Int32)) + ([(p1 &&& (255 : Int32)), (p2 &&& (255 : Int32)), (p3 &&& (255 : Int32)), (p4 &&& (255 : Int32)), (p5 &&& (255 : Int32))].getD ((ii + (1 : Int32))).toNatClampNeg 0)))]) rfl ?_
          show Steps p.tables e below (T42.setTop (mkF m 178 #[.val (.int p1), .val (.int p2), .val (.int p3), .val (.int p4), .val (.int p5), .val (.int p6), .val (.ref b1), .val (.ref b12), .val (.int cc), .val (.int ii), .val (.ref b23), .val (.int (own_sl [(nar .byte (p1.toInt8.toInt32)), (nar .byte (p2.toInt8.toInt32)), (nar .byte (p3.toInt8.toInt32)), (nar .byte (p4.toInt8.toInt32)), (nar .byte (p5.toInt8.toInt32))] ii cc.toNatClampNeg (0 : Int32))), .val (.int ((([(p1 &&& (255 : Int32)), (p2 &&& (255 : Int32)), (p3 &&& (255 : Int32)), (p4 &&& (255 : Int32)), (p5 &&& (255 : Int32))].getD (ii).toNatClampNeg 0) * (256 : Int32)) + ([(p1 &&& (255 : Int32)), (p2 &&& (255 : Int32)), (p3 &&& (255 : Int32)), (p4 &&& (255 : Int32)), (p5 &&& (255 : Int32))].getD ((ii + (1 : Int32))).toNatClampNeg 0)))] [])) t
          refine XS.goto X42.here hx rfl (pc0 := 178) (pc' := 217) rfl (hb hby at_178) (by decide) (by decide) ?_
          show Steps p.tables e below (T42.setTop (mkF m 217 #[.val (.int p1), .val (.int p2), .val (.int p3), .val (.int p4), .val (.int p5), .val (.int p6), .val (.ref b1), .val (.ref b12), .val (.int cc), .val (.int ii), .val (.ref b23), .val (.int (own_sl [(nar .byte (p1.toInt8.toInt32)), (nar .byte (p2.toInt8.toInt32)), (nar .byte (p3.toInt8.toInt32)), (nar .byte (p4.toInt8.toInt32)), (nar .byte (p5.toInt8.toInt32))] ii cc.toNatClampNeg (0 : Int32))), .val (.int ((([(p1 &&& (255 : Int32)), (p2 &&& (255 : Int32)), (p3 &&& (255 : Int32)), (p4 &&& (255 : Int32)), (p5 &&& (255 : Int32))].getD (ii).toNatClampNeg 0) * (256 : Int32)) + ([(p1 &&& (255 : Int32)), (p2 &&& (255 : Int32)), (p3 &&& (255 : Int32)), (p4 &&& (255 : Int32)), (p5 &&& (255 : Int32))].getD ((ii + (1 : Int32))).toNatClampNeg 0)))] [])) t
          refine XS.iload X42.here hx rfl (hb hby at_217) rfl ?_
          show Steps p.tables e below (T42.setTop (mkF m 219 #[.val (.int p1), .val (.int p2), .val (.int p3), .val (.int p4), .val (.int p5), .val (.int p6), .val (.ref b1), .val (.ref b12), .val (.int cc), .val (.int ii), .val (.ref b23), .val (.int (own_sl [(nar .byte (p1.toInt8.toInt32)), (nar .byte (p2.toInt8.toInt32)), (nar .byte (p3.toInt8.toInt32)), (nar .byte (p4.toInt8.toInt32)), (nar .byte (p5.toInt8.toInt32))] ii cc.toNatClampNeg (0 : Int32))), .val (.int ((([(p1 &&& (255 : Int32)), (p2 &&& (255 : Int32)), (p3 &&& (255 : Int32)), (p4 &&& (255 : Int32)), (p5 &&& (255 : Int32))].getD (ii).toNatClampNeg 0) * (256 : Int32)) + ([(p1 &&& (255 : Int32)), (p2 &&& (255 : Int32)), (p3 &&& (255 : Int32)), (p4 &&& (255 : Int32)), (p5 &&& (255 : Int32))].getD ((ii + (1 : Int32))).toNatClampNeg 0)))] [(.int (own_sl [(nar .byte (p1.toInt8.toInt32)), (nar .byte (p2.toInt8.toInt32)), (nar .byte (p3.toInt8.toInt32)), (nar .byte (p4.toInt8.toInt32)), (nar .byte (p5.toInt8.toInt32))] ii cc.toNatClampNeg (0 : Int32)))])) t
          refine XS.iload X42.here hx rfl (hb hby at_219) rfl ?_
          exact k
        refine own_via (S' := T42.setTop (mkF m 224 #[.val (.int p1), .val (.int p2), .val (.int p3), .val (.int p4), .val (.int p5), .val (.int p6), .val (.ref b1), .val (.ref b12), .val (.int cc), .val (.int ii), .val (.ref b23), .val (.int (own_sl [(nar .byte (p1.toInt8.toInt32)), (nar .byte (p2.toInt8.toInt32)), (nar .byte (p3.toInt8.toInt32)), (nar .byte (p4.toInt8.toInt32)), (nar .byte (p5.toInt8.toInt32))] ii cc.toNatClampNeg (0 : Int32))), .val (.int ((([(p1 &&& (255 : Int32)), (p2 &&& (255 : Int32)), (p3 &&& (255 : Int32)), (p4 &&& (255 : Int32)), (p5 &&& (255 : Int32))].getD (ii).toNatClampNeg 0) * (256 : Int32)) + ([(p1 &&& (255 : Int32)), (p2 &&& (255 : Int32)), (p3 &&& (255 : Int32)), (p4 &&& (255 : Int32)), (p5 &&& (255 : Int32))].getD ((ii + (1 : Int32))).toNatClampNeg 0)))] [])) (fun t k => XS.icmpNo (g := (mkF m 221 #[.val (.int p1), .val (.int p2), .val (.int p3), .val (.int p4), .val (.int p5), .val (.int p6), .val (.ref b1), .val (.ref b12), .val (.int cc), .val (.int ii), .val (.ref b23), .val (.int (own_sl [(nar .byte (p1.toInt8.toInt32)), (nar .byte (p2.toInt8.toInt32)), (nar .byte (p3.toInt8.toInt32)), (nar .byte (p4.toInt8.toInt32)), (nar .byte (p5.toInt8.toInt32))] ii cc.toNatClampNeg (0 : Int32))), .val (.int ((([(p1 &&& (255 : Int32)), (p2 &&& (255 : Int32)), (p3 &&& (255 : Int32)), (p4 &&& (255 : Int32)), (p5 &&& (255 : Int32))].getD (ii).toNatClampNeg 0) * (256 : Int32)) + ([(p1 &&& (255 : Int32)), (p2 &&& (255 : Int32)), (p3 &&& (255 : Int32)), (p4 &&& (255 : Int32)), (p5 &&& (255 : Int32))].getD ((ii + (1 : Int32))).toNatClampNeg 0)))] [(.int ((([(p1 &&& (255 : Int32)), (p2 &&& (255 : Int32)), (p3 &&& (255 : Int32)), (p4 &&& (255 : Int32)), (p5 &&& (255 : Int32))].getD (ii).toNatClampNeg 0) * (256 : Int32)) + ([(p1 &&& (255 : Int32)), (p2 &&& (255 : Int32)), (p3 &&& (255 : Int32)), (p4 &&& (255 : Int32)), (p5 &&& (255 : Int32))].getD ((ii + (1 : Int32))).toNatClampNeg 0))), (.int (own_sl [(nar .byte (p1.toInt8.toInt32)), (nar .byte (p2.toInt8.toInt32)), (nar .byte (p3.toInt8.toInt32)), (nar .byte (p4.toInt8.toInt32)), (nar .byte (p5.toInt8.toInt32))] ii cc.toNatClampNeg (0 : Int32)))])) X42.here hx rfl (hb hby at_221) rfl (teq (by rw [hc152_39]; exact own_f2 p1 p2 p3 p4 p5 ii hR2)).2 k) ?_
        refine own_via (S' := T42.setTop (mkF m 229 #[.val (.int p1), .val (.int p2), .val (.int p3), .val (.int p4), .val (.int p5), .val (.int p6), .val (.ref b1), .val (.ref b12), .val (.int cc), .val (.int ii), .val (.ref b23), .val (.int (own_sl [(nar .byte (p1.toInt8.toInt32)), (nar .byte (p2.toInt8.toInt32)), (nar .byte (p3.toInt8.toInt32)), (nar .byte (p4.toInt8.toInt32)), (nar .byte (p5.toInt8.toInt32))] ii cc.toNatClampNeg (0 : Int32))), .val (.int ((([(p1 &&& (255 : Int32)), (p2 &&& (255 : Int32)), (p3 &&& (255 : Int32)), (p4 &&& (255 : Int32)), (p5 &&& (255 : Int32))].getD (ii).toNatClampNeg 0) * (256 : Int32)) + ([(p1 &&& (255 : Int32)), (p2 &&& (255 : Int32)), (p3 &&& (255 : Int32)), (p4 &&& (255 : Int32)), (p5 &&& (255 : Int32))].getD ((ii + (1 : Int32))).toNatClampNeg 0)))] [(.int (1 : Int32))])) (fun t k => ?_) ?_
        · show Steps p.tables e below (T42.setTop (mkF m 224 #[.val (.int p1), .val (.int p2), .val (.int p3), .val (.int p4), .val (.int p5), .val (.int p6), .val (.ref b1), .val (.ref b12), .val (.int cc), .val (.int ii), .val (.ref b23), .val (.int (own_sl [(nar .byte (p1.toInt8.toInt32)), (nar .byte (p2.toInt8.toInt32)), (nar .byte (p3.toInt8.toInt32)), (nar .byte (p4.toInt8.toInt32)), (nar .byte (p5.toInt8.toInt32))] ii cc.toNatClampNeg (0 : Int32))), .val (.int ((([(p1 &&& (255 : Int32)), (p2 &&& (255 : Int32)), (p3 &&& (255 : Int32)), (p4 &&& (255 : Int32)), (p5 &&& (255 : Int32))].getD (ii).toNatClampNeg 0) * (256 : Int32)) + ([(p1 &&& (255 : Int32)), (p2 &&& (255 : Int32)), (p3 &&& (255 : Int32)), (p4 &&& (255 : Int32)), (p5 &&& (255 : Int32))].getD ((ii + (1 : Int32))).toNatClampNeg 0)))] [])) t
          refine XS.iconst X42.here hx rfl (hb hby at_224) ?_
          show Steps p.tables e below (T42.setTop (mkF m 225 #[.val (.int p1), .val (.int p2), .val (.int p3), .val (.int p4), .val (.int p5), .val (.int p6), .val (.ref b1), .val (.ref b12), .val (.int cc), .val (.int ii), .val (.ref b23), .val (.int (own_sl [(nar .byte (p1.toInt8.toInt32)), (nar .byte (p2.toInt8.toInt32)), (nar .byte (p3.toInt8.toInt32)), (nar .byte (p4.toInt8.toInt32)), (nar .byte (p5.toInt8.toInt32))] ii cc.toNatClampNeg (0 : Int32))), .val (.int ((([(p1 &&& (255 : Int32)), (p2 &&& (255 : Int32)), (p3 &&& (255 : Int32)), (p4 &&& (255 : Int32)), (p5 &&& (255 : Int32))].getD (ii).toNatClampNeg 0) * (256 : Int32)) + ([(p1 &&& (255 : Int32)), (p2 &&& (255 : Int32)), (p3 &&& (255 : Int32)), (p4 &&& (255 : Int32)), (p5 &&& (255 : Int32))].getD ((ii + (1 : Int32))).toNatClampNeg 0)))] [(.int (1 : Int32))])) t
          refine XS.goto X42.here hx rfl (pc0 := 225) (pc' := 229) rfl (hb hby at_225) (by decide) (by decide) ?_
          exact k
        exact own_endW (h := T30.heap) X42 hS25 (v := some (.int (1 : Int32))) Bd.notSynchronized (fun h => by rw [Bd.returns] at h; cases h) (fun fs hr => retN X42 hx (t := .boolean) Bd.returns (by simp) (hb hby at_229) hr) hh42 (by rw [hh42]; exact (Nat.le_trans hk25 Kc30.1)) ⟨rfl, N42⟩ (by decide) (by decide)
      · have hc3 : cc = 3 := by grind
        have hR3 : own_R ii 3 := hc3 ▸ hR
        refine own_via (S' := T32.setTop (mkF m 181 #[.val (.int p1), .val (.int p2), .val (.int p3), .val (.int p4), .val (.int p5), .val (.int p6), .val (.ref b1), .val (.ref b12), .val (.int cc), .val (.int ii), .val (.ref b23), .val (.int (own_sl [(nar .byte (p1.toInt8.toInt32)), (nar .byte (p2.toInt8.toInt32)), (nar .byte (p3.toInt8.toInt32)), (nar .byte (p4.toInt8.toInt32)), (nar .byte (p5.toInt8.toInt32))] ii cc.toNatClampNeg (0 : Int32))), .unset] [])) (fun t k => XS.icmpYes (g := (mkF m 152 #[.val (.int p1), .val (.int p2), .val (.int p3), .val (.int p4), .val (.int p5), .val (.int p6), .val (.ref b1), .val (.ref b12), .val (.int cc), .val (.int ii), .val (.ref b23), .val (.int (own_sl [(nar .byte (p1.toInt8.toInt32)), (nar .byte (p2.toInt8.toInt32)), (nar .byte (p3.toInt8.toInt32)), (nar .byte (p4.toInt8.toInt32)), (nar .byte (p5.toInt8.toInt32))] ii cc.toNatClampNeg (0 : Int32))), .unset] [(.int (2 : Int32)), (.int cc)])) X32.here hx rfl (pc0 := 152) (pc' := 181) rfl (hb hby at_152) rfl (feq hc152_39).2 (by decide) (by decide) k) ?_
        refine own_via (S' := T32.setTop (mkF m 185 #[.val (.int p1), .val (.int p2), .val (.int p3), .val (.int p4), .val (.int p5), .val (.int p6), .val (.ref b1), .val (.ref b12), .val (.int cc), .val (.int ii), .val (.ref b23), .val (.int (own_sl [(nar .byte (p1.toInt8.toInt32)), (nar .byte (p2.toInt8.toInt32)), (nar .byte (p3.toInt8.toInt32)), (nar .byte (p4.toInt8.toInt32)), (nar .byte (p5.toInt8.toInt32))] ii cc.toNatClampNeg (0 : Int32))), .unset] [(.int ii), (.ref b12)])) (fun t k => ?_) ?_
        · show Steps p.tables e below (T32.setTop (mkF m 181 #[.val (.int p1), .val (.int p2), .val (.int p3), .val (.int p4), .val (.int p5), .val (.int p6), .val (.ref b1), .val (.ref b12), .val (.int cc), .val (.int ii), .val (.ref b23), .val (.int (own_sl [(nar .byte (p1.toInt8.toInt32)), (nar .byte (p2.toInt8.toInt32)), (nar .byte (p3.toInt8.toInt32)), (nar .byte (p4.toInt8.toInt32)), (nar .byte (p5.toInt8.toInt32))] ii cc.toNatClampNeg (0 : Int32))), .unset] [])) t
          refine XS.aload X32.here hx rfl (hb hby at_181) rfl rfl ?_
          show Steps p.tables e below (T32.setTop (mkF m 183 #[.val (.int p1), .val (.int p2), .val (.int p3), .val (.int p4), .val (.int p5), .val (.int p6), .val (.ref b1), .val (.ref b12), .val (.int cc), .val (.int ii), .val (.ref b23), .val (.int (own_sl [(nar .byte (p1.toInt8.toInt32)), (nar .byte (p2.toInt8.toInt32)), (nar .byte (p3.toInt8.toInt32)), (nar .byte (p4.toInt8.toInt32)), (nar .byte (p5.toInt8.toInt32))] ii cc.toNatClampNeg (0 : Int32))), .unset] [(.ref b12)])) t
          refine XS.iload X32.here hx rfl (hb hby at_183) rfl ?_
          exact k
        have c44 := (Arv.keep ((V21.ext E23).ext E25) Kc30 (ninS ne_b12_b23 nin0))
        obtain ⟨_, _, ⟨T45, L45, k45, n45⟩, -, X45, ⟨Lc45, hQ45, l45, y45, z45⟩, st45⟩ := Jvm.LawKit.callS X32 hx (y := (⟨"com/example/altigate/altigate/asterix/DataBlockUnsignedPinLaw", "at", "([II)I"⟩ : MethodName)) hown (mvT hZ (hw _ (List.mem_of_getElem? (i := 29) rfl))) (mvT hZ (hw _ (List.mem_of_getElem? (i := 30) rfl))) (mvT hZ (hw _ (List.mem_of_getElem? (i := 31) rfl))) (mvT hZ (hw _ (List.mem_of_getElem? (i := 32) rfl))) (by decide) (backOf (W := 0) (rm4 l Z a0 hw [] b12 ii k12 [(p1 &&& (255 : Int32)), (p2 &&& (255 : Int32)), (p3 &&& (255 : Int32)), (p4 &&& (255 : Int32)), (p5 &&& (255 : Int32))] T30.heap n0 (Nat.le_trans Z0 K30.1) ⟨c44, rfl⟩ (by have := own_at (k := (0 : Int32)) hR3 (by decide) (by decide); simpa using this)) hZ (hw _ (List.mem_of_getElem? (i := 32) rfl)) (hw _ (List.mem_of_getElem? (i := 31) rfl)) (by decide) (by decide)) (g := (mkF m 185 #[.val (.int p1), .val (.int p2), .val (.int p3), .val (.int p4), .val (.int p5), .val (.int p6), .val (.ref b1), .val (.ref b12), .val (.int cc), .val (.int ii), .val (.ref b23), .val (.int (own_sl [(nar .byte (p1.toInt8.toInt32)), (nar .byte (p2.toInt8.toInt32)), (nar .byte (p3.toInt8.toInt32)), (nar .byte (p4.toInt8.toInt32)), (nar .byte (p5.toInt8.toInt32))] ii cc.toNatClampNeg (0 : Int32))), .unset] [(.int ii), (.ref b12)])) rfl (by rw [hml]; rfl) (argsL := [(.ref b12), (.int ii)]) (rest := []) (lenOf pd_2 rfl) rfl (by show 2 * 0 + _ ≤ _; exact Nat.le_of_eq rfl) (hb hby at_185) (fun _ _ => ⟨rfl, hh32, (by decide : 5 + 0 ≤ _), (by decide : 25 + 0 ≤ _)⟩)
        dsimp only [Pt.U, Pt.locs, Pt.cells, Pt.slots] at X45 l45 y45 z45 st45 hQ45
        subst l45 y45 z45
        obtain ⟨rfl, Nq45, hh45⟩ := hQ45
        have N45 := Fr.app N32 Nq45
        refine own_via st45 ?_
        show own_G p.tables e below _ (T45.setTop (mkF m 188 #[.val (.int p1), .val (.int p2), .val (.int p3), .val (.int p4), .val (.int p5), .val (.int p6), .val (.ref b1), .val (.ref b12), .val (.int cc), .val (.int ii), .val (.ref b23), .val (.int (own_sl [(nar .byte (p1.toInt8.toInt32)), (nar .byte (p2.toInt8.toInt32)), (nar .byte (p3.toInt8.toInt32)), (nar .byte (p4.toInt8.toInt32)), (nar .byte (p5.toInt8.toInt32))] ii cc.toNatClampNeg (0 : Int32))), .unset] [(.int ([(p1 &&& (255 : Int32)), (p2 &&& (255 : Int32)), (p3 &&& (255 : Int32)), (p4 &&& (255 : Int32)), (p5 &&& (255 : Int32))].getD (ii).toNatClampNeg 0))]))
        refine own_via (S' := T45.setTop (mkF m 197 #[.val (.int p1), .val (.int p2), .val (.int p3), .val (.int p4), .val (.int p5), .val (.int p6), .val (.ref b1), .val (.ref b12), .val (.int cc), .val (.int ii), .val (.ref b23), .val (.int (own_sl [(nar .byte (p1.toInt8.toInt32)), (nar .byte (p2.toInt8.toInt32)), (nar .byte (p3.toInt8.toInt32)), (nar .byte (p4.toInt8.toInt32)), (nar .byte (p5.toInt8.toInt32))] ii cc.toNatClampNeg (0 : Int32))), .unset] [(.int (ii + (1 : Int32))), (.ref b12), (.int (([(p1 &&& (255 : Int32)), (p2 &&& (255 : Int32)), (p3 &&& (255 : Int32)), (p4 &&& (255 : Int32)), (p5 &&& (255 : Int32))].getD (ii).toNatClampNeg 0) * (65536 : Int32)))])) (fun t k => ?_) ?_
        · show Steps p.tables e below (T45.setTop (mkF m 188 #[.val (.int p1), .val (.int p2), .val (.int p3), .val (.int p4), .val (.int p5), .val (.int p6), .val (.ref b1), .val (.ref b12), .val (.int cc), .val (.int ii), .val (.ref b23), .val (.int (own_sl [(nar .byte (p1.toInt8.toInt32)), (nar .byte (p2.toInt8.toInt32)), (nar .byte (p3.toInt8.toInt32)), (nar .byte (p4.toInt8.toInt32)), (nar .byte (p5.toInt8.toInt32))] ii cc.toNatClampNeg (0 : Int32))), .unset] [(.int ([(p1 &&& (255 : Int32)), (p2 &&& (255 : Int32)), (p3 &&& (255 : Int32)), (p4 &&& (255 : Int32)), (p5 &&& (255 : Int32))].getD (ii).toNatClampNeg 0))])) t
          refine X45.ldcInt hx hown (mvT hZ (hw _ (List.mem_of_getElem? (i := 33) rfl))) (g := (mkF m 188 #[.val (.int p1), .val (.int p2), .val (.int p3), .val (.int p4), .val (.int p5), .val (.int p6), .val (.ref b1), .val (.ref b12), .val (.int cc), .val (.int ii), .val (.ref b23), .val (.int (own_sl [(nar .byte (p1.toInt8.toInt32)), (nar .byte (p2.toInt8.toInt32)), (nar .byte (p3.toInt8.toInt32)), (nar .byte (p4.toInt8.toInt32)), (nar .byte (p5.toInt8.toInt32))] ii cc.toNatClampNeg (0 : Int32))), .unset] [(.int ([(p1 &&& (255 : Int32)), (p2 &&& (255 : Int32)), (p3 &&& (255 : Int32)), (p4 &&& (255 : Int32)), (p5 &&& (255 : Int32))].getD (ii).toNatClampNeg 0))])) rfl (hb hby at_188) _ ?_
          show Steps p.tables e below (T45.setTop (mkF m 190 #[.val (.int p1), .val (.int p2), .val (.int p3), .val (.int p4), .val (.int p5), .val (.int p6), .val (.ref b1), .val (.ref b12), .val (.int cc), .val (.int ii), .val (.ref b23), .val (.int (own_sl [(nar .byte (p1.toInt8.toInt32)), (nar .byte (p2.toInt8.toInt32)), (nar .byte (p3.toInt8.toInt32)), (nar .byte (p4.toInt8.toInt32)), (nar .byte (p5.toInt8.toInt32))] ii cc.toNatClampNeg (0 : Int32))), .unset] [(.int (65536 : Int32)), (.int ([(p1 &&& (255 : Int32)), (p2 &&& (255 : Int32)), (p3 &&& (255 : Int32)), (p4 &&& (255 : Int32)), (p5 &&& (255 : Int32))].getD (ii).toNatClampNeg 0))])) t
          refine XS.imul X45.here hx rfl (hb hby at_190) rfl ?_
          show Steps p.tables e below (T45.setTop (mkF m 191 #[.val (.int p1), .val (.int p2), .val (.int p3), .val (.int p4), .val (.int p5), .val (.int p6), .val (.ref b1), .val (.ref b12), .val (.int cc), .val (.int ii), .val (.ref b23), .val (.int (own_sl [(nar .byte (p1.toInt8.toInt32)), (nar .byte (p2.toInt8.toInt32)), (nar .byte (p3.toInt8.toInt32)), (nar .byte (p4.toInt8.toInt32)), (nar .byte (p5.toInt8.toInt32))] ii cc.toNatClampNeg (0 : Int32))), .unset] [(.int (([(p1 &&& (255 : Int32)), (p2 &&& (255 : Int32)), (p3 &&& (255 : Int32)), (p4 &&& (255 : Int32)), (p5 &&& (255 : Int32))].getD (ii).toNatClampNeg 0) * (65536 : Int32)))])) t
          refine XS.aload X45.here hx rfl (hb hby at_191) rfl rfl ?_
          show Steps p.tables e below (T45.setTop (mkF m 193 #[.val (.int p1), .val (.int p2), .val (.int p3), .val (.int p4), .val (.int p5), .val (.int p6), .val (.ref b1), .val (.ref b12), .val (.int cc), .val (.int ii), .val (.ref b23), .val (.int (own_sl [(nar .byte (p1.toInt8.toInt32)), (nar .byte (p2.toInt8.toInt32)), (nar .byte (p3.toInt8.toInt32)), (nar .byte (p4.toInt8.toInt32)), (nar .byte (p5.toInt8.toInt32))] ii cc.toNatClampNeg (0 : Int32))), .unset] [(.ref b12), (.int (([(p1 &&& (255 : Int32)), (p2 &&& (255 : Int32)), (p3 &&& (255 : Int32)), (p4 &&& (255 : Int32)), (p5 &&& (255 : Int32))].getD (ii).toNatClampNeg 0) * (65536 : Int32)))])) t
          refine XS.iload X45.here hx rfl (hb hby at_193) rfl ?_
          show Steps p.tables e below (T45.setTop (mkF m 195 #[.val (.int p1), .val (.int p2), .val (.int p3), .val (.int p4), .val (.int p5), .val (.int p6), .val (.ref b1), .val (.ref b12), .val (.int cc), .val (.int ii), .val (.ref b23), .val (.int (own_sl [(nar .byte (p1.toInt8.toInt32)), (nar .byte (p2.toInt8.toInt32)), (nar .byte (p3.toInt8.toInt32)), (nar .byte (p4.toInt8.toInt32)), (nar .byte (p5.toInt8.toInt32))] ii cc.toNatClampNeg (0 : Int32))), .unset] [(.int ii), (.ref b12), (.int (([(p1 &&& (255 : Int32)), (p2 &&& (255 : Int32)), (p3 &&& (255 : Int32)), (p4 &&& (255 : Int32)), (p5 &&& (255 : Int32))].getD (ii).toNatClampNeg 0) * (65536 : Int32)))])) t
          refine XS.iconst X45.here hx rfl (hb hby at_195) ?_
          show Steps p.tables e below (T45.setTop (mkF m 196 #[.val (.int p1), .val (.int p2), .val (.int p3), .val (.int p4), .val (.int p5), .val (.int p6), .val (.ref b1), .val (.ref b12), .val (.int cc), .val (.int ii), .val (.ref b23), .val (.int (own_sl [(nar .byte (p1.toInt8.toInt32)), (nar .byte (p2.toInt8.toInt32)), (nar .byte (p3.toInt8.toInt32)), (nar .byte (p4.toInt8.toInt32)), (nar .byte (p5.toInt8.toInt32))] ii cc.toNatClampNeg (0 : Int32))), .unset] [(.int (1 : Int32)), (.int ii), (.ref b12), (.int (([(p1 &&& (255 : Int32)), (p2 &&& (255 : Int32)), (p3 &&& (255 : Int32)), (p4 &&& (255 : Int32)), (p5 &&& (255 : Int32))].getD (ii).toNatClampNeg 0) * (65536 : Int32)))])) t
          refine XS.iadd X45.here hx rfl (hb hby at_196) rfl ?_
          exact k
        obtain ⟨_, _, ⟨T46, L46, k46, n46⟩, -, X46, ⟨Lc46, hQ46, l46, y46, z46⟩, st46⟩ := Jvm.LawKit.callS X45 hx (y := (⟨"com/example/altigate/altigate/asterix/DataBlockUnsignedPinLaw", "at", "([II)I"⟩ : MethodName)) hown (mvT hZ (hw _ (List.mem_of_getElem? (i := 29) rfl))) (mvT hZ (hw _ (List.mem_of_getElem? (i := 30) rfl))) (mvT hZ (hw _ (List.mem_of_getElem? (i := 31) rfl))) (mvT hZ (hw _ (List.mem_of_getElem? (i := 32) rfl))) (by decide) (backOf (W := 1) (rm4 l Z a0 hw [] b12 (ii + (1 : Int32)) k12 [(p1 &&& (255 : Int32)), (p2 &&& (255 : Int32)), (p3 &&& (255 : Int32)), (p4 &&& (255 : Int32)), (p5 &&& (255 : Int32))] T30.heap n0 (Nat.le_trans Z0 K30.1) ⟨c44, rfl⟩ (by have := own_at (k := (1 : Int32)) hR3 (by decide) (by decide); exact this)) hZ (hw _ (List.mem_of_getElem? (i := 32) rfl)) (hw _ (List.mem_of_getElem? (i := 31) rfl)) (by decide) (by decide)) (g := (mkF m 197 #[.val (.int p1), .val (.int p2), .val (.int p3), .val (.int p4), .val (.int p5), .val (.int p6), .val (.ref b1), .val (.ref b12), .val (.int cc), .val (.int ii), .val (.ref b23), .val (.int (own_sl [(nar .byte (p1.toInt8.toInt32)), (nar .byte (p2.toInt8.toInt32)), (nar .byte (p3.toInt8.toInt32)), (nar .byte (p4.toInt8.toInt32)), (nar .byte (p5.toInt8.toInt32))] ii cc.toNatClampNeg (0 : Int32))), .unset] [(.int (ii + (1 : Int32))), (.ref b12), (.int (([(p1 &&& (255 : Int32)), (p2 &&& (255 : Int32)), (p3 &&& (255 : Int32)), (p4 &&& (255 : Int32)), (p5 &&& (255 : Int32))].getD (ii).toNatClampNeg 0) * (65536 : Int32)))])) rfl (by rw [hml]; rfl) (argsL := [(.ref b12), (.int (ii + (1 : Int32)))]) (rest := [(.int (([(p1 &&& (255 : Int32)), (p2 &&& (255 : Int32)), (p3 &&& (255 : Int32)), (p4 &&& (255 : Int32)), (p5 &&& (255 : Int32))].getD (ii).toNatClampNeg 0) * (65536 : Int32)))]) (lenOf pd_2 rfl) rfl (by show 2 * 0 + _ ≤ _; exact Nat.le_of_eq rfl) (hb hby at_197) (fun _ _ => ⟨rfl, hh45, (by decide : 5 + 0 ≤ _), (by decide : 25 + 0 ≤ _)⟩)
        dsimp only [Pt.U, Pt.locs, Pt.cells, Pt.slots] at X46 l46 y46 z46 st46 hQ46
        subst l46 y46 z46
        obtain ⟨rfl, Nq46, hh46⟩ := hQ46
        have N46 := Fr.app N45 Nq46
        refine own_via st46 ?_
        show own_G p.tables e below _ (T46.setTop (mkF m 200 #[.val (.int p1), .val (.int p2), .val (.int p3), .val (.int p4), .val (.int p5), .val (.int p6), .val (.ref b1), .val (.ref b12), .val (.int cc), .val (.int ii), .val (.ref b23), .val (.int (own_sl [(nar .byte (p1.toInt8.toInt32)), (nar .byte (p2.toInt8.toInt32)), (nar .byte (p3.toInt8.toInt32)), (nar .byte (p4.toInt8.toInt32)), (nar .byte (p5.toInt8.toInt32))] ii cc.toNatClampNeg (0 : Int32))), .unset] [(.int ([(p1 &&& (255 : Int32)), (p2 &&& (255 : Int32)), (p3 &&& (255 : Int32)), (p4 &&& (255 : Int32)), (p5 &&& (255 : Int32))].getD ((ii + (1 : Int32))).toNatClampNeg 0)), (.int (([(p1 &&& (255 : Int32)), (p2 &&& (255 : Int32)), (p3 &&& (255 : Int32)), (p4 &&& (255 : Int32)), (p5 &&& (255 : Int32))].getD (ii).toNatClampNeg 0) * (65536 : Int32)))]))
        refine own_via (S' := T46.setTop (mkF m 211 #[.val (.int p1), .val (.int p2), .val (.int p3), .val (.int p4), .val (.int p5), .val (.int p6), .val (.ref b1), .val (.ref b12), .val (.int cc), .val (.int ii), .val (.ref b23), .val (.int (own_sl [(nar .byte (p1.toInt8.toInt32)), (nar .byte (p2.toInt8.toInt32)), (nar .byte (p3.toInt8.toInt32)), (nar .byte (p4.toInt8.toInt32)), (nar .byte (p5.toInt8.toInt32))] ii cc.toNatClampNeg (0 : Int32))), .unset] [(.int (ii + (2 : Int32))), (.ref b12), (.int ((([(p1 &&& (255 : Int32)), (p2 &&& (255 : Int32)), (p3 &&& (255 : Int32)), (p4 &&& (255 : Int32)), (p5 &&& (255 : Int32))].getD (ii).toNatClampNeg 0) * (65536 : Int32)) + (([(p1 &&& (255 : Int32)), (p2 &&& (255 : Int32)), (p3 &&& (255 : Int32)), (p4 &&& (255 : Int32)), (p5 &&& (255 : Int32))].getD ((ii + (1 : Int32))).toNatClampNeg 0) * (256 : Int32))))])) (fun t k => ?_) ?_
        · show Steps p.tables e below (T46.setTop (mkF m 200 #[.val (.int p1), .val (.int p2), .val (.int p3), .val (.int p4), .val (.int p5), .val (.int p6), .val (.ref b1), .val (.ref b12), .val (.int cc), .val (.int ii), .val (.ref b23), .val (.int (own_sl [(nar .byte (p1.toInt8.toInt32)), (nar .byte (p2.toInt8.toInt32)), (nar .byte (p3.toInt8.toInt32)), (nar .byte (p4.toInt8.toInt32)), (nar .byte (p5.toInt8.toInt32))] ii cc.toNatClampNeg (0 : Int32))), .unset] [(.int ([(p1 &&& (255 : Int32)), (p2 &&& (255 : Int32)), (p3 &&& (255 : Int32)), (p4 &&& (255 : Int32)), (p5 &&& (255 : Int32))].getD ((ii + (1 : Int32))).toNatClampNeg 0)), (.int (([(p1 &&& (255 : Int32)), (p2 &&& (255 : Int32)), (p3 &&& (255 : Int32)), (p4 &&& (255 : Int32)), (p5 &&& (255 : Int32))].getD (ii).toNatClampNeg 0) * (65536 : Int32)))])) t
          refine XS.sipush X46.here hx rfl (hb hby at_200) ?_
          show Steps p.tables e below (T46.setTop (mkF m 203 #[.val (.int p1), .val (.int p2), .val (.int p3), .val (.int p4), .val (.int p5), .val (.int p6), .val (.ref b1), .val (.ref b12), .val (.int cc), .val (.int ii), .val (.ref b23), .val (.int (own_sl [(nar .byte (p1.toInt8.toInt32)), (nar .byte (p2.toInt8.toInt32)), (nar .byte (p3.toInt8.toInt32)), (nar .byte (p4.toInt8.toInt32)), (nar .byte (p5.toInt8.toInt32))] ii cc.toNatClampNeg (0 : Int32))), .unset] [(.int (256 : Int32)), (.int ([(p1 &&& (255 : Int32)), (p2 &&& (255 : Int32)), (p3 &&& (255 : Int32)), (p4 &&& (255 : Int32)), (p5 &&& (255 : Int32))].getD ((ii + (1 : Int32))).toNatClampNeg 0)), (.int (([(p1 &&& (255 : Int32)), (p2 &&& (255 : Int32)), (p3 &&& (255 : Int32)), (p4 &&& (255 : Int32)), (p5 &&& (255 : Int32))].getD (ii).toNatClampNeg 0) * (65536 : Int32)))])) t
          refine XS.imul X46.here hx rfl (hb hby at_203) rfl ?_
          show Steps p.tables e below (T46.setTop (mkF m 204 #[.val (.int p1), .val (.int p2), .val (.int p3), .val (.int p4), .val (.int p5), .val (.int p6), .val (.ref b1), .val (.ref b12), .val (.int cc), .val (.int ii), .val (.ref b23), .val (.int (own_sl [(nar .byte (p1.toInt8.toInt32)), (nar .byte (p2.toInt8.toInt32)), (nar .byte (p3.toInt8.toInt32)), (nar .byte (p4.toInt8.toInt32)), (nar .byte (p5.toInt8.toInt32))] ii cc.toNatClampNeg (0 : Int32))), .unset] [(.int (([(p1 &&& (255 : Int32)), (p2 &&& (255 : Int32)), (p3 &&& (255 : Int32)), (p4 &&& (255 : Int32)), (p5 &&& (255 : Int32))].getD ((ii + (1 : Int32))).toNatClampNeg 0) * (256 : Int32))), (.int (([(p1 &&& (255 : Int32)), (p2 &&& (255 : Int32)), (p3 &&& (255 : Int32)), (p4 &&& (255 : Int32)), (p5 &&& (255 : Int32))].getD (ii).toNatClampNeg 0) * (65536 : Int32)))])) t
          refine XS.iadd X46.here hx rfl (hb hby at_204) rfl ?_
          show Steps p.tables e below (T46.setTop (mkF m 205 #[.val (.int p1), .val (.int p2), .val (.int p3), .val (.int p4), .val (.int p5), .val (.int p6), .val (.ref b1), .val (.ref b12), .val (.int cc), .val (.int ii), .val (.ref b23), .val (.int (own_sl [(nar .byte (p1.toInt8.toInt32)), (nar .byte (p2.toInt8.toInt32)), (nar .byte (p3.toInt8.toInt32)), (nar .byte (p4.toInt8.toInt32)), (nar .byte (p5.toInt8.toInt32))] ii cc.toNatClampNeg (0 : Int32))), .unset] [(.int ((([(p1 &&& (255 : Int32)), (p2 &&& (255 : Int32)), (p3 &&& (255 : Int32)), (p4 &&& (255 : Int32)), (p5 &&& (255 : Int32))].getD (ii).toNatClampNeg 0) * (65536 : Int32)) + (([(p1 &&& (255 : Int32)), (p2 &&& (255 : Int32)), (p3 &&& (255 : Int32)), (p4 &&& (255 : Int32)), (p5 &&& (255 : Int32))].getD ((ii + (1 : Int32))).toNatClampNeg 0) * (256 : Int32))))])) t
          refine XS.aload X46.here hx rfl (hb hby at_205) rfl rfl ?_
          show Steps p.tables e below (T46.setTop (mkF m 207 #[.val (.int p1), .val (.int p2), .val (.int p3), .val (.int p4), .val (.int p5), .val (.int p6), .val (.ref b1), .val (.ref b12), .val (.int cc), .val (.int ii), .val (.ref b23), .val (.int (own_sl [(nar .byte (p1.toInt8.toInt32)), (nar .byte (p2.toInt8.toInt32)), (nar .byte (p3.toInt8.toInt32)), (nar .byte (p4.toInt8.toInt32)), (nar .byte (p5.toInt8.toInt32))] ii cc.toNatClampNeg (0 : Int32))), .unset] [(.ref b12), (.int ((([(p1 &&& (255 : Int32)), (p2 &&& (255 : Int32)), (p3 &&& (255 : Int32)), (p4 &&& (255 : Int32)), (p5 &&& (255 : Int32))].getD (ii).toNatClampNeg 0) * (65536 : Int32)) + (([(p1 &&& (255 : Int32)), (p2 &&& (255 : Int32)), (p3 &&& (255 : Int32)), (p4 &&& (255 : Int32)), (p5 &&& (255 : Int32))].getD ((ii + (1 : Int32))).toNatClampNeg 0) * (256 : Int32))))])) t
          refine XS.iload X46.here hx rfl (hb hby at_207) rfl ?_
          show Steps p.tables e below (T46.setTop (mkF m 209 #[.val (.int p1), .val (.int p2), .val (.int p3), .val (.int p4), .val (.int p5), .val (.int p6), .val (.ref b1), .val (.ref b12), .val (.int cc), .val (.int ii), .val (.ref b23), .val (.int (own_sl [(nar .byte (p1.toInt8.toInt32)), (nar .byte (p2.toInt8.toInt32)), (nar .byte (p3.toInt8.toInt32)), (nar .byte (p4.toInt8.toInt32)), (nar .byte (p5.toInt8.toInt32))] ii cc.toNatClampNeg (0 : Int32))), .unset] [(.int ii), (.ref b12), (.int ((([(p1 &&& (255 : Int32)), (p2 &&& (255 : Int32)), (p3 &&& (255 : Int32)), (p4 &&& (255 : Int32)), (p5 &&& (255 : Int32))].getD (ii).toNatClampNeg 0) * (65536 : Int32)) + (([(p1 &&& (255 : Int32)), (p2 &&& (255 : Int32)), (p3 &&& (255 : Int32)), (p4 &&& (255 : Int32)), (p5 &&& (255 : Int32))].getD ((ii + (1 : Int32))).toNatClampNeg 0) * (256 : Int32))))])) t
          refine XS.iconst X46.here hx rfl (hb hby at_209) ?_
          show Steps p.tables e below (T46.setTop (mkF m 210 #[.val (.int p1), .val (.int p2), .val (.int p3), .val (.int p4), .val (.int p5), .val (.int p6), .val (.ref b1), .val (.ref b12), .val (.int cc), .val (.int ii), .val (.ref b23), .val (.int (own_sl [(nar .byte (p1.toInt8.toInt32)), (nar .byte (p2.toInt8.toInt32)), (nar .byte (p3.toInt8.toInt32)), (nar .byte (p4.toInt8.toInt32)), (nar .byte (p5.toInt8.toInt32))] ii cc.toNatClampNeg (0 : Int32))), .unset] [(.int (2 : Int32)), (.int ii), (.ref b12), (.int ((([(p1 &&& (255 : Int32)), (p2 &&& (255 : Int32)), (p3 &&& (255 : Int32)), (p4 &&& (255 : Int32)), (p5 &&& (255 : Int32))].getD (ii).toNatClampNeg 0) * (65536 : Int32)) + (([(p1 &&& (255 : Int32)), (p2 &&& (255 : Int32)), (p3 &&& (255 : Int32)), (p4 &&& (255 : Int32)), (p5 &&& (255 : Int32))].getD ((ii + (1 : Int32))).toNatClampNeg 0) * (256 : Int32))))])) t
          refine XS.iadd X46.here hx rfl (hb hby at_210) rfl ?_
          exact k
        obtain ⟨_, _, ⟨T47, L47, k47, n47⟩, -, X47, ⟨Lc47, hQ47, l47, y47, z47⟩, st47⟩ := Jvm.LawKit.callS X46 hx (y := (⟨"com/example/altigate/altigate/asterix/DataBlockUnsignedPinLaw", "at", "([II)I"⟩ : MethodName)) hown (mvT hZ (hw _ (List.mem_of_getElem? (i := 29) rfl))) (mvT hZ (hw _ (List.mem_of_getElem? (i := 30) rfl))) (mvT hZ (hw _ (List.mem_of_getElem? (i := 31) rfl))) (mvT hZ (hw _ (List.mem_of_getElem? (i := 32) rfl))) (by decide) (backOf (W := 1) (rm4 l Z a0 hw [] b12 (ii + (2 : Int32)) k12 [(p1 &&& (255 : Int32)), (p2 &&& (255 : Int32)), (p3 &&& (255 : Int32)), (p4 &&& (255 : Int32)), (p5 &&& (255 : Int32))] T30.heap n0 (Nat.le_trans Z0 K30.1) ⟨c44, rfl⟩ (by have := own_at (k := (2 : Int32)) hR3 (by decide) (by decide); exact this)) hZ (hw _ (List.mem_of_getElem? (i := 32) rfl)) (hw _ (List.mem_of_getElem? (i := 31) rfl)) (by decide) (by decide)) (g := (mkF m 211 #[.val (.int p1), .val (.int p2), .val (.int p3), .val (.int p4), .val (.int p5), .val (.int p6), .val (.ref b1), .val (.ref b12), .val (.int cc), .val (.int ii), .val (.ref b23), .val (.int (own_sl [(nar .byte (p1.toInt8.toInt32)), (nar .byte (p2.toInt8.toInt32)), (nar .byte (p3.toInt8.toInt32)), (nar .byte (p4.toInt8.toInt32)), (nar .byte (p5.toInt8.toInt32))] ii cc.toNatClampNeg (0 : Int32))), .unset] [(.int (ii + (2 : Int32))), (.ref b12), (.int ((([(p1 &&& (255 : Int32)), (p2 &&& (255 : Int32)), (p3 &&& (255 : Int32)), (p4 &&& (255 : Int32)), (p5 &&& (255 : Int32))].getD (ii).toNatClampNeg 0) * (65536 : Int32)) + (([(p1 &&& (255 : Int32)), (p2 &&& (255 : Int32)), (p3 &&& (255 : Int32)), (p4 &&& (255 : Int32)), (p5 &&& (255 : Int32))].getD ((ii + (1 : Int32))).toNatClampNeg 0) * (256 : Int32))))])) rfl (by rw [hml]; rfl) (argsL := [(.ref b12), (.int (ii + (2 : Int32)))]) (rest := [(.int ((([(p1 &&& (255 : Int32)), (p2 &&& (255 : Int32)), (p3 &&& (255 : Int32)), (p4 &&& (255 : Int32)), (p5 &&& (255 : Int32))].getD (ii).toNatClampNeg 0) * (65536 : Int32)) + (([(p1 &&& (255 : Int32)), (p2 &&& (255 : Int32)), (p3 &&& (255 : Int32)), (p4 &&& (255 : Int32)), (p5 &&& (255 : Int32))].getD ((ii + (1 : Int32))).toNatClampNeg 0) * (256 : Int32))))]) (lenOf pd_2 rfl) rfl (by show 2 * 0 + _ ≤ _; exact Nat.le_of_eq rfl) (hb hby at_211) (fun _ _ => ⟨rfl, hh46, (by decide : 5 + 0 ≤ _), (by decide : 25 + 0 ≤ _)⟩)
        dsimp only [Pt.U, Pt.locs, Pt.cells, Pt.slots] at X47 l47 y47 z47 st47 hQ47
        subst l47 y47 z47
        obtain ⟨rfl, Nq47, hh47⟩ := hQ47
        have N47 := Fr.app N46 Nq47
        refine own_via st47 ?_
        show own_G p.tables e below _ (T47.setTop (mkF m 214 #[.val (.int p1), .val (.int p2), .val (.int p3), .val (.int p4), .val (.int p5), .val (.int p6), .val (.ref b1), .val (.ref b12), .val (.int cc), .val (.int ii), .val (.ref b23), .val (.int (own_sl [(nar .byte (p1.toInt8.toInt32)), (nar .byte (p2.toInt8.toInt32)), (nar .byte (p3.toInt8.toInt32)), (nar .byte (p4.toInt8.toInt32)), (nar .byte (p5.toInt8.toInt32))] ii cc.toNatClampNeg (0 : Int32))), .unset] [(.int ([(p1 &&& (255 : Int32)), (p2 &&& (255 : Int32)), (p3 &&& (255 : Int32)), (p4 &&& (255 : Int32)), (p5 &&& (255 : Int32))].getD ((ii + (2 : Int32))).toNatClampNeg 0)), (.int ((([(p1 &&& (255 : Int32)), (p2 &&& (255 : Int32)), (p3 &&& (255 : Int32)), (p4 &&& (255 : Int32)), (p5 &&& (255 : Int32))].getD (ii).toNatClampNeg 0) * (65536 : Int32)) + (([(p1 &&& (255 : Int32)), (p2 &&& (255 : Int32)), (p3 &&& (255 : Int32)), (p4 &&& (255 : Int32)), (p5 &&& (255 : Int32))].getD ((ii + (1 : Int32))).toNatClampNeg 0) * (256 : Int32))))]))
        refine own_via (S' := T47.setTop (mkF m 221 #[.val (.int p1), .val (.int p2), .val (.int p3), .val (.int p4), .val (.int p5), .val (.int p6), .val (.ref b1), .val (.ref b12), .val (.int cc), .val (.int ii), .val (.ref b23), .val (.int (own_sl [(nar .byte (p1.toInt8.toInt32)), (nar .byte (p2.toInt8.toInt32)), (nar .byte (p3.toInt8.toInt32)), (nar .byte (p4.toInt8.toInt32)), (nar .byte (p5.toInt8.toInt32))] ii cc.toNatClampNeg (0 : Int32))), .val (.int (((([(p1 &&& (255 : Int32)), (p2 &&& (255 : Int32)), (p3 &&& (255 : Int32)), (p4 &&& (255 : Int32)), (p5 &&& (255 : Int32))].getD (ii).toNatClampNeg 0) * (65536 : Int32)) + (([(p1 &&& (255 : Int32)), (p2 &&& (255 : Int32)), (p3 &&& (255 : Int32)), (p4 &&& (255 : Int32)), (p5 &&& (255 : Int32))].getD ((ii + (1 : Int32))).toNatClampNeg 0) * (256 : Int32))) + ([(p1 &&& (255 : Int32)), (p2 &&& (255 : Int32)), (p3 &&& (255 : Int32)), (p4 &&& (255 : Int32)), (p5 &&& (255 : Int32))].getD ((ii + (2 : Int32))).toNatClampNeg 0)))] [(.int (((([(p1 &&& (255 : Int32)), (p2 &&& (255 : Int32)), (p3 &&& (255 : Int32)), (p4 &&& (255 : Int32)), (p5 &&& (255 : Int32))].getD (ii).toNatClampNeg 0) * (65536 : Int32)) + (([(p1 &&& (255 : Int32)), (p2 &&& (255 : Int32)), (p3 &&& (255 : Int32)), (p4 &&& (255 : Int32)), (p5 &&& (255 : Int32))].getD ((ii + (1 : Int32))).toNatClampNeg 0) * (256 : Int32))) + ([(p1 &&& (255 : Int32)), (p2 &&& (255 : Int32)), (p3 &&& (255 : Int32)), (p4 &&& (255 : Int32)), (p5 &&& (255 : Int32))].getD ((ii + (2 : Int32))).toNatClampNeg 0))), (.int (own_sl [(nar .byte (p1.toInt8.toInt32)), (nar .byte (p2.toInt8.toInt32)), (nar .byte (p3.toInt8.toInt32)), (nar .byte (p4.toInt8.toInt32)), (nar .byte (p5.toInt8.toInt32))] ii cc.toNatClampNeg (0 : Int32)))])) (fun t k => ?_) ?_
        · show Steps p.tables e below (T47.setTop (mkF m 214 #[.val (.int p1), .val (.int p2), .val (.int p3), .val (.int p4), .val (.int p5), .val (.int p6), .val (.ref b1), .val (.ref b12), .val (.int cc), .val (.int ii), .val (.ref b23), .val (.int (own_sl [(nar .byte (p1.toInt8.toInt32)), (nar .byte (p2.toInt8.toInt32)), (nar .byte (p3.toInt8.toInt32)), (nar .byte (p4.toInt8.toInt32)), (nar .byte (p5.toInt8.toInt32))] ii cc.toNatClampNeg (0 : Int32))), .unset] [(.int ([(p1 &&& (255 : Int32)), (p2 &&& (255 : Int32)), (p3 &&& (255 : Int32)), (p4 &&& (255 : Int32)), (p5 &&& (255 : Int32))].getD ((ii + (2 : Int32))).toNatClampNeg 0)), (.int ((([(p1 &&& (255 : Int32)), (p2 &&& (255 : Int32)), (p3 &&& (255 : Int32)), (p4 &&& (255 : Int32)), (p5 &&& (255 : Int32))].getD (ii).toNatClampNeg 0) * (65536 : Int32)) + (([(p1 &&& (255 : Int32)), (p2 &&& (255 : Int32)), (p3 &&& (255 : Int32)), (p4 &&& (255 : Int32)), (p5 &&& (255 : Int32))].getD ((ii + (1 : Int32))).toNatClampNeg 0) * (256 : Int32))))])) t
          refine XS.iadd X47.here hx rfl (hb hby at_214) rfl ?_
          show Steps p.tables e below (T47.setTop (mkF m 215 #[.val (.int p1), .val (.int p2), .val (.int p3), .val (.int p4), .val (.int p5), .val (.int p6), .val (.ref b1), .val (.ref b12), .val (.int cc), .val (.int ii), .val (.ref b23), .val (.int (own_sl [(nar .byte (p1.toInt8.toInt32)), (nar .byte (p2.toInt8.toInt32)), (nar .byte (p3.toInt8.toInt32)), (nar .byte (p4.toInt8.toInt32)), (nar .byte (p5.toInt8.toInt32))] ii cc.toNatClampNeg (0 : Int32))), .unset] [(.int (((([(p1 &&& (255 : Int32)), (p2 &&& (255 : Int32)), (p3 &&& (255 : Int32)), (p4 &&& (255 : Int32)), (p5 &&& (255 : Int32))].getD (ii).toNatClampNeg 0) * (65536 : Int32)) + (([(p1 &&& (255 : Int32)), (p2 &&& (255 : Int32)), (p3 &&& (255 : Int32)), (p4 &&& (255 : Int32)), (p5 &&& (255 : Int32))].getD ((ii + (1 : Int32))).toNatClampNeg 0) * (256 : Int32))) + ([(p1 &&& (255 : Int32)), (p2 &&& (255 : Int32)), (p3 &&& (255 : Int32)), (p4 &&& (255 : Int32)), (p5 &&& (255 : Int32))].getD ((ii + (2 : Int32))).toNatClampNeg 0)))])) t
          refine XS.istore X47.here hx rfl (hb hby at_215) rfl (l' := #[.val (.int p1), .val (.int p2), .val (.int p3), .val (.int p4), .val (.int p5), .val (.int p6), .val (.ref b1), .val (.ref b12), .val (.int cc), .val (.int ii), .val (.ref b23), .val (.int (own_sl [(nar .byte (p1.toInt8.toInt32)), (nar .byte (p2.toInt8.toInt32)), (nar .byte (p3.toInt8.toInt32)), (nar .byte (p4.toInt8.toInt32)), (nar .byte (p5.toInt8.toInt32))] ii cc.toNatClampNeg (0 : Int32))), .val (.int (((([(p1 &&& (255 : Int32)), (p2 &&& (255 : Int32)), (p3 &&& (255 : Int32)), (p4 &&& (255 : Int32)), (p5 &&& (255 : Int32))].getD (ii).toNatClampNeg 0) * (65536 : Int32)) + (([(p1 &&& (255 : Int32)), (p2 &&& (255 : Int32)), (p3 &&& (255 : Int32)), (p4 &&& (255 : Int32)), (p5 &&& (255 : Int32))].getD ((ii + (1 : Int32))).toNatClampNeg 0) * (256 : Int32))) + ([(p1 &&& (255 : Int32)), (p2 &&& (255 : Int32)), (p3 &&& (255 : Int32)), (p4 &&& (255 : Int32)), (p5 &&& (255 : Int32))].getD ((ii + (2 : Int32))).toNatClampNeg 0)))]) rfl ?_
          show Steps p.tables e below (T47.setTop (mkF m 217 #[.val (.int p1), .val (.int p2), .val (.int p3), .val (.int p4), .val (.int p5), .val (.int p6), .val (.ref b1), .val (.ref b12), .val (.int cc), .val (.int ii), .val (.ref b23), .val (.int (own_sl [(nar .byte (p1.toInt8.toInt32)), (nar .byte (p2.toInt8.toInt32)), (nar .byte (p3.toInt8.toInt32)), (nar .byte (p4.toInt8.toInt32)), (nar .byte (p5.toInt8.toInt32))] ii cc.toNatClampNeg (0 : Int32))), .val (.int (((([(p1 &&& (255 : Int32)), (p2 &&& (255 : Int32)), (p3 &&& (255 : Int32)), (p4 &&& (255 : Int32)), (p5 &&& (255 : Int32))].getD (ii).toNatClampNeg 0) * (65536 : Int32)) + (([(p1 &&& (255 : Int32)), (p2 &&& (255 : Int32)), (p3 &&& (255 : Int32)), (p4 &&& (255 : Int32)), (p5 &&& (255 : Int32))].getD ((ii + (1 : Int32))).toNatClampNeg 0) * (256 : Int32))) + ([(p1 &&& (255 : Int32)), (p2 &&& (255 : Int32)), (p3 &&& (255 : Int32)), (p4 &&& (255 : Int32)), (p5 &&& (255 : Int32))].getD ((ii + (2 : Int32))).toNatClampNeg 0)))] [])) t
          refine XS.iload X47.here hx rfl (hb hby at_217) rfl ?_
          show Steps p.tables e below (T47.setTop (mkF m 219 #[.val (.int p1), .val (.int p2), .val (.int p3), .val (.int p4), .val (.int p5), .val (.int p6), .val (.ref b1), .val (.ref b12), .val (.int cc), .val (.int ii), .val (.ref b23), .val (.int (own_sl [(nar .byte (p1.toInt8.toInt32)), (nar .byte (p2.toInt8.toInt32)), (nar .byte (p3.toInt8.toInt32)), (nar .byte (p4.toInt8.toInt32)), (nar .byte (p5.toInt8.toInt32))] ii cc.toNatClampNeg (0 : Int32))), .val (.int (((([(p1 &&& (255 : Int32)), (p2 &&& (255 : Int32)), (p3 &&& (255 : Int32)), (p4 &&& (255 : Int32)), (p5 &&& (255 : Int32))].getD (ii).toNatClampNeg 0) * (65536 : Int32)) + (([(p1 &&& (255 : Int32)), (p2 &&& (255 : Int32)), (p3 &&& (255 : Int32)), (p4 &&& (255 : Int32)), (p5 &&& (255 : Int32))].getD ((ii + (1 : Int32))).toNatClampNeg 0) * (256 : Int32))) + ([(p1 &&& (255 : Int32)), (p2 &&& (255 : Int32)), (p3 &&& (255 : Int32)), (p4 &&& (255 : Int32)), (p5 &&& (255 : Int32))].getD ((ii + (2 : Int32))).toNatClampNeg 0)))] [(.int (own_sl [(nar .byte (p1.toInt8.toInt32)), (nar .byte (p2.toInt8.toInt32)), (nar .byte (p3.toInt8.toInt32)), (nar .byte (p4.toInt8.toInt32)), (nar .byte (p5.toInt8.toInt32))] ii cc.toNatClampNeg (0 : Int32)))])) t
          refine XS.iload X47.here hx rfl (hb hby at_219) rfl ?_
          exact k
        refine own_via (S' := T47.setTop (mkF m 224 #[.val (.int p1), .val (.int p2), .val (.int p3), .val (.int p4), .val (.int p5), .val (.int p6), .val (.ref b1), .val (.ref b12), .val (.int cc), .val (.int ii), .val (.ref b23), .val (.int (own_sl [(nar .byte (p1.toInt8.toInt32)), (nar .byte (p2.toInt8.toInt32)), (nar .byte (p3.toInt8.toInt32)), (nar .byte (p4.toInt8.toInt32)), (nar .byte (p5.toInt8.toInt32))] ii cc.toNatClampNeg (0 : Int32))), .val (.int (((([(p1 &&& (255 : Int32)), (p2 &&& (255 : Int32)), (p3 &&& (255 : Int32)), (p4 &&& (255 : Int32)), (p5 &&& (255 : Int32))].getD (ii).toNatClampNeg 0) * (65536 : Int32)) + (([(p1 &&& (255 : Int32)), (p2 &&& (255 : Int32)), (p3 &&& (255 : Int32)), (p4 &&& (255 : Int32)), (p5 &&& (255 : Int32))].getD ((ii + (1 : Int32))).toNatClampNeg 0) * (256 : Int32))) + ([(p1 &&& (255 : Int32)), (p2 &&& (255 : Int32)), (p3 &&& (255 : Int32)), (p4 &&& (255 : Int32)), (p5 &&& (255 : Int32))].getD ((ii + (2 : Int32))).toNatClampNeg 0)))] [])) (fun t k => XS.icmpNo (g := (mkF m 221 #[.val (.int p1), .val (.int p2), .val (.int p3), .val (.int p4), .val (.int p5), .val (.int p6), .val (.ref b1), .val (.ref b12), .val (.int cc), .val (.int ii), .val (.ref b23), .val (.int (own_sl [(nar .byte (p1.toInt8.toInt32)), (nar .byte (p2.toInt8.toInt32)), (nar .byte (p3.toInt8.toInt32)), (nar .byte (p4.toInt8.toInt32)), (nar .byte (p5.toInt8.toInt32))] ii cc.toNatClampNeg (0 : Int32))), .val (.int (((([(p1 &&& (255 : Int32)), (p2 &&& (255 : Int32)), (p3 &&& (255 : Int32)), (p4 &&& (255 : Int32)), (p5 &&& (255 : Int32))].getD (ii).toNatClampNeg 0) * (65536 : Int32)) + (([(p1 &&& (255 : Int32)), (p2 &&& (255 : Int32)), (p3 &&& (255 : Int32)), (p4 &&& (255 : Int32)), (p5 &&& (255 : Int32))].getD ((ii + (1 : Int32))).toNatClampNeg 0) * (256 : Int32))) + ([(p1 &&& (255 : Int32)), (p2 &&& (255 : Int32)), (p3 &&& (255 : Int32)), (p4 &&& (255 : Int32)), (p5 &&& (255 : Int32))].getD ((ii + (2 : Int32))).toNatClampNeg 0)))] [(.int (((([(p1 &&& (255 : Int32)), (p2 &&& (255 : Int32)), (p3 &&& (255 : Int32)), (p4 &&& (255 : Int32)), (p5 &&& (255 : Int32))].getD (ii).toNatClampNeg 0) * (65536 : Int32)) + (([(p1 &&& (255 : Int32)), (p2 &&& (255 : Int32)), (p3 &&& (255 : Int32)), (p4 &&& (255 : Int32)), (p5 &&& (255 : Int32))].getD ((ii + (1 : Int32))).toNatClampNeg 0) * (256 : Int32))) + ([(p1 &&& (255 : Int32)), (p2 &&& (255 : Int32)), (p3 &&& (255 : Int32)), (p4 &&& (255 : Int32)), (p5 &&& (255 : Int32))].getD ((ii + (2 : Int32))).toNatClampNeg 0))), (.int (own_sl [(nar .byte (p1.toInt8.toInt32)), (nar .byte (p2.toInt8.toInt32)), (nar .byte (p3.toInt8.toInt32)), (nar .byte (p4.toInt8.toInt32)), (nar .byte (p5.toInt8.toInt32))] ii cc.toNatClampNeg (0 : Int32)))])) X47.here hx rfl (hb hby at_221) rfl (teq (by rw [hc3]; exact own_f3 p1 p2 p3 p4 p5 ii hR3)).2 k) ?_
        refine own_via (S' := T47.setTop (mkF m 229 #[.val (.int p1), .val (.int p2), .val (.int p3), .val (.int p4), .val (.int p5), .val (.int p6), .val (.ref b1), .val (.ref b12), .val (.int cc), .val (.int ii), .val (.ref b23), .val (.int (own_sl [(nar .byte (p1.toInt8.toInt32)), (nar .byte (p2.toInt8.toInt32)), (nar .byte (p3.toInt8.toInt32)), (nar .byte (p4.toInt8.toInt32)), (nar .byte (p5.toInt8.toInt32))] ii cc.toNatClampNeg (0 : Int32))), .val (.int (((([(p1 &&& (255 : Int32)), (p2 &&& (255 : Int32)), (p3 &&& (255 : Int32)), (p4 &&& (255 : Int32)), (p5 &&& (255 : Int32))].getD (ii).toNatClampNeg 0) * (65536 : Int32)) + (([(p1 &&& (255 : Int32)), (p2 &&& (255 : Int32)), (p3 &&& (255 : Int32)), (p4 &&& (255 : Int32)), (p5 &&& (255 : Int32))].getD ((ii + (1 : Int32))).toNatClampNeg 0) * (256 : Int32))) + ([(p1 &&& (255 : Int32)), (p2 &&& (255 : Int32)), (p3 &&& (255 : Int32)), (p4 &&& (255 : Int32)), (p5 &&& (255 : Int32))].getD ((ii + (2 : Int32))).toNatClampNeg 0)))] [(.int (1 : Int32))])) (fun t k => ?_) ?_
        · show Steps p.tables e below (T47.setTop (mkF m 224 #[.val (.int p1), .val (.int p2), .val (.int p3), .val (.int p4), .val (.int p5), .val (.int p6), .val (.ref b1), .val (.ref b12), .val (.int cc), .val (.int ii), .val (.ref b23), .val (.int (own_sl [(nar .byte (p1.toInt8.toInt32)), (nar .byte (p2.toInt8.toInt32)), (nar .byte (p3.toInt8.toInt32)), (nar .byte (p4.toInt8.toInt32)), (nar .byte (p5.toInt8.toInt32))] ii cc.toNatClampNeg (0 : Int32))), .val (.int (((([(p1 &&& (255 : Int32)), (p2 &&& (255 : Int32)), (p3 &&& (255 : Int32)), (p4 &&& (255 : Int32)), (p5 &&& (255 : Int32))].getD (ii).toNatClampNeg 0) * (65536 : Int32)) + (([(p1 &&& (255 : Int32)), (p2 &&& (255 : Int32)), (p3 &&& (255 : Int32)), (p4 &&& (255 : Int32)), (p5 &&& (255 : Int32))].getD ((ii + (1 : Int32))).toNatClampNeg 0) * (256 : Int32))) + ([(p1 &&& (255 : Int32)), (p2 &&& (255 : Int32)), (p3 &&& (255 : Int32)), (p4 &&& (255 : Int32)), (p5 &&& (255 : Int32))].getD ((ii + (2 : Int32))).toNatClampNeg 0)))] [])) t
          refine XS.iconst X47.here hx rfl (hb hby at_224) ?_
          show Steps p.tables e below (T47.setTop (mkF m 225 #[.val (.int p1), .val (.int p2), .val (.int p3), .val (.int p4), .val (.int p5), .val (.int p6), .val (.ref b1), .val (.ref b12), .val (.int cc), .val (.int ii), .val (.ref b23), .val (.int (own_sl [(nar .byte (p1.toInt8.toInt32)), (nar .byte (p2.toInt8.toInt32)), (nar .byte (p3.toInt8.toInt32)), (nar .byte (p4.toInt8.toInt32)), (nar .byte (p5.toInt8.toInt32))] ii cc.toNatClampNeg (0 : Int32))), .val (.int (((([(p1 &&& (255 : Int32)), (p2 &&& (255 : Int32)), (p3 &&& (255 : Int32)), (p4 &&& (255 : Int32)), (p5 &&& (255 : Int32))].getD (ii).toNatClampNeg 0) * (65536 : Int32)) + (([(p1 &&& (255 : Int32)), (p2 &&& (255 : Int32)), (p3 &&& (255 : Int32)), (p4 &&& (255 : Int32)), (p5 &&& (255 : Int32))].getD ((ii + (1 : Int32))).toNatClampNeg 0) * (256 : Int32))) + ([(p1 &&& (255 : Int32)), (p2 &&& (255 : Int32)), (p3 &&& (255 : Int32)), (p4 &&& (255 : Int32)), (p5 &&& (255 : Int32))].getD ((ii + (2 : Int32))).toNatClampNeg 0)))] [(.int (1 : Int32))])) t
          refine XS.goto X47.here hx rfl (pc0 := 225) (pc' := 229) rfl (hb hby at_225) (by decide) (by decide) ?_
          exact k
        exact own_endW (h := T30.heap) X47 hS25 (v := some (.int (1 : Int32))) Bd.notSynchronized (fun h => by rw [Bd.returns] at h; cases h) (fun fs hr => retN X47 hx (t := .boolean) Bd.returns (by simp) (hb hby at_229) hr) hh47 (by rw [hh47]; exact (Nat.le_trans hk25 Kc30.1)) ⟨rfl, N47⟩ (by decide) (by decide)
set_option maxRecDepth 65536 in
set_option maxHeartbeats 40000000 in
theorem comes_1 {Post : Tables → Env → Array Value → State → Outcome → State → Prop} (hpost : ∀ tb e args s v u, (limb_1_1.after args s (.returned v) u = true ∧ limb_1_2.after args s (.returned v) u = true ∧ True) → ReturnedEndW s (.returned v) u (Jvm.fieldLocs frame_1_writes args s ++ Jvm.arrayLocs frame_1_arrays args s ++ Jvm.staticLocs frame_1_statics s) 16 1152 → Post tb e args s (.returned v) u) :
    ArmFor flags0 classFile x code maxLocals ret World_1 tables_1 room_1 Calls_1 rest_1 Pre_1 Post := by
  intro l hfl _ _ p e ha hc hk s m args below hf hA hF happ hP
  obtain ⟨hcalls, hrest, hpre⟩ := hP
  obtain ⟨-, -, -, hnamed, -, -, -, hat⟩ := (Spec.applies_iff hf).mp happ
  obtain ⟨hg, hn⟩ := and_e (Cond.before_iff.mp (show (Jvm.Cond.and given_1 narrow_1).before args s = true from hpre))
  obtain ⟨hcount, hg0⟩ := and_e hg
  obtain ⟨ga0, hg1⟩ := and_e hg0
  obtain ⟨ga1, hg2⟩ := and_e hg1
  obtain ⟨ga2, hg3⟩ := and_e hg2
  obtain ⟨ga3, hg4⟩ := and_e hg3
  obtain ⟨ga4, hg5⟩ := and_e hg4
  have ga5 := hg5
  obtain ⟨w0, w1, w2, w3, w4, w5, rfl⟩ : ∃ w0 w1 w2 w3 w4 w5 : Value, args = #[w0, w1, w2, w3, w4, w5] := by
    have hs : args.size = 6 := by simpa [Cond.value, given_1] using hcount
    obtain ⟨L⟩ := args
    match L, hs with
    | [w0, w1, w2, w3, w4, w5], _ => exact ⟨w0, w1, w2, w3, w4, w5, rfl⟩
  have hw := fun d (hd : d ∈ tables_1) => atoms_spec (ws := Jvm.Cond.code x code maxLocals ret :: tables_1) hat d (List.mem_cons_of_mem _ hd)
  obtain ⟨i0, ei0⟩ := is_v ga0
  obtain rfl : w0 = (.int i0) := Option.some.inj ei0
  obtain ⟨i1, ei1⟩ := is_v ga1
  obtain rfl : w1 = (.int i1) := Option.some.inj ei1
  obtain ⟨i2, ei2⟩ := is_v ga2
  obtain rfl : w2 = (.int i2) := Option.some.inj ei2
  obtain ⟨i3, ei3⟩ := is_v ga3
  obtain rfl : w3 = (.int i3) := Option.some.inj ei3
  obtain ⟨i4, ei4⟩ := is_v ga4
  obtain rfl : w4 = (.int i4) := Option.some.inj ei4
  obtain ⟨i5, ei5⟩ := is_v ga5
  obtain rfl : w5 = (.int i5) := Option.some.inj ei5
  obtain ⟨n, o, h1, h2, h3, _, L, rfl, ⟨rfl, N⟩, hq⟩ := rm0 l s _ hw tables_1 i0 i1 i2 i3 i4 i5  s.heap s.heap.size (Nat.le_refl _)  p e ha hc hk s m _ below hf ((Spec.applies_iff_loose hf).mp happ).1 ⟨rfl, State.Warmed39.refl s, rfl⟩ trivial
  refine ⟨n, _, h1, h2, h3, hpost _ _ _ _ _ _ ⟨Cond.after_iff.mpr rfl, Cond.after_iff.mpr (eq_i res_at (Term.int_eval (1)) rfl), trivial⟩ ⟨hq.1, hq.2.1, hq.2.2.1, (hq.2.2.2.sift fun y hy => Or.inr (N y hy)).mono (by decide) (by decide)⟩⟩
theorem main_1_1 : Claimed_1_1 := comes_1 fun _ _ _ _ _ _ h hF => ⟨h.1, hF⟩
theorem main_1_2 : Claimed_1_2 := comes_1 fun _ _ _ _ _ _ h hF => ⟨h.2.1, hF⟩
end Jvm.Pilot.@@N@@
namespace Jvm.Pilot.@@N@@
open Jvm Jvm.ClassFile Sem Op Lib Jvm.Free Jvm.Stand Jvm.Pilot.@@N@@.Jvm.D
/-! MADE BY PROGRAM (witnessworld.py) out of the Statement's table words and the real class files: 14 classes; the members and pool entries that the words name. The judged class is class 1, her method 2. -/
namespace start1
open Jvm.ClassFile
def u (s : String) : CpInfo := .utf8 (stringToUtf16 s)
/-- a pool by its gaps: so many unusable entries, then the entry; so many at the end -/
def gap : Nat → List CpInfo → List CpInfo
  | 0, r => r
  | n + 1, r => .unusable :: gap n r
def poolList (es : List (Nat × CpInfo)) (last : Nat) : List CpInfo := es.foldr (fun e r => gap e.1 (e.2 :: r)) (gap last [])
def pool (es : List (Nat × CpInfo)) (last : Nat) : Array CpInfo := ⟨poolList es last⟩
def fileOf (pool : Array CpInfo) (this : Nat) (attrs : Array Attribute := #[]) (ms : Array MethodInfo := #[]) (fl : Nat := 33) (sup : Nat := 0) (ifs : Array Nat := #[]) (fds : Array FieldInfo := #[]) : ClassFile where
  minorVersion := 0
  majorVersion := 65
  constantPool := pool
  accessFlags := fl
  thisClass := this
  superClass := sup
  interfaces := ifs
  fields := fds
  methods := ms
  attributes := attrs
def plain (name : String) (sup : Option ClassId) : Class where
  name := name
  kind := .ordinary
  loader := none
  accessFlags := 33
  super := sup
  interfaces := #[]
  cf := none
  fields := #[]
  methods := #[]
  instanceTypes := #[]
  staticTypes := #[]
  resolved := #[]
  callSites := []
  init := .initialized
  statics := none
  mirror := none

def pool0 : Array CpInfo := pool [(5, u "<init>"), (0, u "()V"), (1, .class_ 10), (1, u "java/lang/Object")] 113

def k0c0 : Code := { maxStack := 0, maxLocals := 1, code := object_method_1_code, exceptionTable := #[], attributes := #[] }
def k0m0 : Method := { name := "<init>", desc := "()V", sig := { parameters := [], returnType := none }, accessFlags := 1, code := some k0c0 }
/-- java/lang/Object -/
def k0 : Class := { plain "java/lang/Object" none with
  accessFlags := 33
  interfaces := #[]
  cf := some (fileOf pool0 8 #[] #[{ accessFlags := 1, nameIndex := 5, descriptorIndex := 6, attributes := #[] }] 33 0 #[] #[])
  fields := #[]
  methods := #[k0m0]
  instanceTypes := #[]
  staticTypes := #[]
  resolved := Array.replicate 124 none
  statics := none }

def pool1 : Array CpInfo := pool [(2, .class_ 4), (1, u "java/lang/Object"), (0, u "<init>"), (0, u "()V"), (0, .class_ 8), (0, u "com/example/altigate/altigate/asterix/DataBlock"), (0, .string 10), (0, u "in"), (0, .methodref 7 12), (0, .nameAndType 5 13), (0, u "(Ljava/lang/String;J[B)V"), (0, .methodref 7 15), (0, .nameAndType 16 17), (0, u "unsigned"), (0, u "(II)I"), (0, .methodref 19 20), (0, .class_ 21), (0, .nameAndType 22 23), (0, u "com/example/altigate/altigate/asterix/DataBlockUnsignedPinLaw"), (0, u "at"), (0, u "([II)I"), (0, .integer 65536), (2, u "law"), (0, u "(IIIIII)Z")] 7

def k1m0 : Method := { name := "<init>", desc := "()V", sig := { parameters := [], returnType := none }, accessFlags := 1, code := none }
def k1c1 : Code := { maxStack := 2, maxLocals := 2, code := method_2_code, exceptionTable := #[], attributes := #[] }
def k1m1 : Method := { name := "at", desc := "([II)I", sig := { parameters := [(.array .int), .int], returnType := some .int }, accessFlags := 10, code := some k1c1 }
def k1c2 : Code := { maxStack := 6, maxLocals := 13, code := code, exceptionTable := #[], attributes := #[] }
def k1m2 : Method := { name := "law", desc := "(IIIIII)Z", sig := { parameters := [.int, .int, .int, .int, .int, .int], returnType := some .boolean }, accessFlags := 9, code := some k1c2 }
/-- com/example/altigate/altigate/asterix/DataBlockUnsignedPinLaw -/
def k1 : Class := { plain "com/example/altigate/altigate/asterix/DataBlockUnsignedPinLaw" (some 0) with
  accessFlags := 49
  interfaces := #[]
  cf := some (fileOf pool1 19 #[] #[{ accessFlags := 1, nameIndex := 5, descriptorIndex := 6, attributes := #[] }, { accessFlags := 10, nameIndex := 22, descriptorIndex := 23, attributes := #[] }, { accessFlags := 9, nameIndex := 27, descriptorIndex := 28, attributes := #[] }] 49 2 #[] #[])
  fields := #[]
  methods := #[k1m0, k1m1, k1m2]
  instanceTypes := #[]
  staticTypes := #[]
  resolved := Array.replicate 36 none
  statics := none }

def pool2 : Array CpInfo := pool [(1, .methodref 2 3), (0, .class_ 4), (0, .nameAndType 5 6), (0, u "java/lang/Object"), (0, u "<init>"), (0, u "()V"), (0, .fieldref 8 9), (0, .class_ 10), (0, .nameAndType 11 12), (0, u "com/example/altigate/altigate/asterix/DataBlock"), (0, u "source"), (0, u "Ljava/lang/String;"), (0, .fieldref 8 14), (0, .nameAndType 15 16), (0, u "offset"), (0, u "J"), (0, .fieldref 8 18), (0, .nameAndType 19 20), (0, u "octets"), (0, u "[B"), (16, u "HEADER"), (0, u "I"), (2, u "(Ljava/lang/String;J[B)V"), (5, u "unsigned"), (0, u "(II)I")] 20

def k2c0 : Code := { maxStack := 3, maxLocals := 5, code := prog_3_method_1_code, exceptionTable := #[], attributes := #[] }
def k2m0 : Method := { name := "<init>", desc := "(Ljava/lang/String;J[B)V", sig := { parameters := [(.object "java/lang/String"), .long, (.array .byte)], returnType := none }, accessFlags := 0, code := some k2c0 }
def k2c1 : Code := { maxStack := 3, maxLocals := 5, code := prog_3_method_4_code, exceptionTable := #[], attributes := #[] }
def k2m1 : Method := { name := "unsigned", desc := "(II)I", sig := { parameters := [.int, .int], returnType := some .int }, accessFlags := 0, code := some k2c1 }
/-- com/example/altigate/altigate/asterix/DataBlock -/
def k2 : Class := { plain "com/example/altigate/altigate/asterix/DataBlock" (some 0) with
  accessFlags := 48
  interfaces := #[]
  cf := some (fileOf pool2 8 #[] #[{ accessFlags := 0, nameIndex := 5, descriptorIndex := 41, attributes := #[] }, { accessFlags := 0, nameIndex := 47, descriptorIndex := 48, attributes := #[] }] 48 2 #[] #[{ accessFlags := 24, nameIndex := 37, descriptorIndex := 38, attributes := #[] }, { accessFlags := 18, nameIndex := 11, descriptorIndex := 12, attributes := #[] }, { accessFlags := 18, nameIndex := 15, descriptorIndex := 16, attributes := #[] }, { accessFlags := 18, nameIndex := 19, descriptorIndex := 20, attributes := #[] }])
  fields := #[{ name := "HEADER", type := .int, accessFlags := 24, slot := 0, constantValue := 0 }, { name := "source", type := (.object "java/lang/String"), accessFlags := 18, slot := 0, constantValue := 0 }, { name := "offset", type := .long, accessFlags := 18, slot := 1, constantValue := 0 }, { name := "octets", type := (.array .byte), accessFlags := 18, slot := 2, constantValue := 0 }]
  methods := #[k2m0, k2m1]
  instanceTypes := #[(.object "java/lang/String"), .long, (.array .byte)]
  staticTypes := #[.int]
  resolved := Array.replicate 69 none
  statics := none }

def pool3 : Array CpInfo := pool [(1, .class_ 2), (0, u "java/io/Serializable"), (0, .class_ 4), (0, u "java/lang/Object")] 2

/-- java/io/Serializable -/
def k3 : Class := { plain "java/io/Serializable" (some 0) with
  accessFlags := 1537
  interfaces := #[]
  cf := some (fileOf pool3 1 #[] #[] 1537 3 #[] #[])
  fields := #[]
  methods := #[]
  instanceTypes := #[]
  staticTypes := #[]
  resolved := Array.replicate 7 none
  statics := none }

def pool4 : Array CpInfo := pool [(1, .class_ 2), (0, u "java/lang/Comparable"), (0, .class_ 4), (0, u "java/lang/Object")] 7

/-- java/lang/Comparable -/
def k4 : Class := { plain "java/lang/Comparable" (some 0) with
  accessFlags := 1537
  interfaces := #[]
  cf := some (fileOf pool4 1 #[] #[] 1537 3 #[] #[])
  fields := #[]
  methods := #[]
  instanceTypes := #[]
  staticTypes := #[]
  resolved := Array.replicate 12 none
  statics := none }

def pool5 : Array CpInfo := pool [(2, .class_ 4), (1, u "java/lang/CharSequence"), (42, .class_ 48), (0, u "java/lang/CharSequence$1CodePointIterator"), (10, .class_ 60), (0, u "java/lang/CharSequence$1CharIterator"), (5, .class_ 67), (0, u "java/lang/Object")] 63

/-- java/lang/CharSequence -/
def k5 : Class := { plain "java/lang/CharSequence" (some 0) with
  accessFlags := 1537
  interfaces := #[]
  cf := some (fileOf pool5 2 #[.nestMembers #[47, 59]] #[] 1537 66 #[] #[])
  fields := #[]
  methods := #[]
  instanceTypes := #[]
  staticTypes := #[]
  resolved := Array.replicate 131 none
  statics := none }

def pool6 : Array CpInfo := pool [(1, .class_ 2), (0, u "java/lang/constant/Constable"), (0, .class_ 4), (0, u "java/lang/Object")] 6

/-- java/lang/constant/Constable -/
def k6 : Class := { plain "java/lang/constant/Constable" (some 0) with
  accessFlags := 1537
  interfaces := #[]
  cf := some (fileOf pool6 1 #[] #[] 1537 3 #[] #[])
  fields := #[]
  methods := #[]
  instanceTypes := #[]
  staticTypes := #[]
  resolved := Array.replicate 11 none
  statics := none }

def pool7 : Array CpInfo := pool [(1, .class_ 2), (0, u "java/lang/constant/ConstantDesc"), (0, .class_ 4), (0, u "java/lang/Object")] 32

/-- java/lang/constant/ConstantDesc -/
def k7 : Class := { plain "java/lang/constant/ConstantDesc" (some 0) with
  accessFlags := 1537
  interfaces := #[]
  cf := some (fileOf pool7 1 #[] #[] 1537 3 #[] #[])
  fields := #[]
  methods := #[]
  instanceTypes := #[]
  staticTypes := #[]
  resolved := Array.replicate 37 none
  statics := none }

def pool8 : Array CpInfo := pool [(2, .class_ 4), (1, u "java/lang/Object"), (0, u "<init>"), (0, u "()V"), (3, .class_ 12), (1, u "java/lang/String"), (0, u "value"), (0, u "[B"), (2, u "coder"), (0, u "B"), (2, u "hash"), (0, u "I"), (2, u "hashIsZero"), (0, u "Z"), (13, u "COMPACT_STRINGS"), (534, .class_ 576), (0, u "java/lang/CharSequence"), (22, u "CASE_INSENSITIVE_ORDER"), (0, u "Ljava/util/Comparator;"), (500, u "serialPersistentFields"), (0, u "[Ljava/io/ObjectStreamField;"), (0, .class_ 1104), (0, u "java/lang/String$CaseInsensitiveComparator"), (1, .class_ 1107), (0, u "java/io/Serializable"), (0, .class_ 1109), (0, u "java/lang/Comparable"), (0, .class_ 1111), (0, u "java/lang/constant/Constable"), (0, .class_ 1113), (0, u "java/lang/constant/ConstantDesc"), (2, u "serialVersionUID"), (0, u "J"), (3, u "REPL"), (0, u "C"), (2, u "LATIN1"), (1, u "UTF16")] 323

def k8m0 : Method := { name := "<init>", desc := "()V", sig := { parameters := [], returnType := none }, accessFlags := 1, code := none }
/-- java/lang/String -/
def k8 : Class := { plain "java/lang/String" (some 0) with
  accessFlags := 49
  interfaces := #[3, 4, 5, 6, 7]
  cf := some (fileOf pool8 10 #[.nestMembers #[1103]] #[{ accessFlags := 1, nameIndex := 5, descriptorIndex := 6, attributes := #[] }] 49 2 #[1106, 1108, 575, 1110, 1112] #[{ accessFlags := 18, nameIndex := 13, descriptorIndex := 14, attributes := #[] }, { accessFlags := 18, nameIndex := 17, descriptorIndex := 18, attributes := #[] }, { accessFlags := 2, nameIndex := 21, descriptorIndex := 22, attributes := #[] }, { accessFlags := 2, nameIndex := 25, descriptorIndex := 26, attributes := #[] }, { accessFlags := 26, nameIndex := 1116, descriptorIndex := 1117, attributes := #[] }, { accessFlags := 24, nameIndex := 40, descriptorIndex := 26, attributes := #[] }, { accessFlags := 26, nameIndex := 1101, descriptorIndex := 1102, attributes := #[] }, { accessFlags := 26, nameIndex := 1121, descriptorIndex := 1122, attributes := #[] }, { accessFlags := 25, nameIndex := 599, descriptorIndex := 600, attributes := #[] }, { accessFlags := 24, nameIndex := 1125, descriptorIndex := 18, attributes := #[] }, { accessFlags := 24, nameIndex := 1127, descriptorIndex := 18, attributes := #[] }])
  fields := #[{ name := "value", type := (.array .byte), accessFlags := 18, slot := 0, constantValue := 0 }, { name := "coder", type := .byte, accessFlags := 18, slot := 1, constantValue := 0 }, { name := "hash", type := .int, accessFlags := 2, slot := 2, constantValue := 0 }, { name := "hashIsZero", type := .boolean, accessFlags := 2, slot := 3, constantValue := 0 }, { name := "serialVersionUID", type := .long, accessFlags := 26, slot := 0, constantValue := 0 }, { name := "COMPACT_STRINGS", type := .boolean, accessFlags := 24, slot := 1, constantValue := 0 }, { name := "serialPersistentFields", type := (.array (.object "java/io/ObjectStreamField")), accessFlags := 26, slot := 2, constantValue := 0 }, { name := "REPL", type := .char, accessFlags := 26, slot := 3, constantValue := 0 }, { name := "CASE_INSENSITIVE_ORDER", type := (.object "java/util/Comparator"), accessFlags := 25, slot := 4, constantValue := 0 }, { name := "LATIN1", type := .byte, accessFlags := 24, slot := 5, constantValue := 0 }, { name := "UTF16", type := .byte, accessFlags := 24, slot := 6, constantValue := 0 }]
  methods := #[k8m0]
  instanceTypes := #[(.array .byte), .byte, .int, .boolean]
  staticTypes := #[.long, .boolean, (.array (.object "java/io/ObjectStreamField")), .char, (.object "java/util/Comparator"), .byte, .byte]
  resolved := Array.replicate 1451 none
  statics := none }

def pool9 : Array CpInfo := pool [(1, u "java/lang/Cloneable"), (0, .class_ 1), (0, u "java/lang/Object"), (0, .class_ 3)] 3

/-- java/lang/Cloneable -/
def k9 : Class := { plain "java/lang/Cloneable" (some 0) with
  accessFlags := 1537
  interfaces := #[]
  cf := some (fileOf pool9 2 #[] #[] 1537 4 #[] #[])
  fields := #[]
  methods := #[]
  instanceTypes := #[]
  staticTypes := #[]
  resolved := Array.replicate 8 none
  statics := none }

/-- the primitive byte -/
def k10 : Class := { plain "byte" none with kind := .primitive 'B', accessFlags := 0x411 }
/-- [B -/
def k11 : Class := { plain "[B" (some 0) with kind := .array 10 .byte, interfaces := #[9, 3], accessFlags := 1041 }

/-- the primitive int -/
def k12 : Class := { plain "int" none with kind := .primitive 'I', accessFlags := 0x411 }
/-- [I -/
def k13 : Class := { plain "[I" (some 0) with kind := .array 12 .int, interfaces := #[9, 3], accessFlags := 1041 }

def heap : Heap := #[]
def classes : Array Class := #[k0, k1, k2, k3, k4, k5, k6, k7, k8, k9, k10, k11, k12, k13]
def interned : List (Array UInt16 × Addr) := []
def slotsUsed : Nat := 0
def theMethod : MethodId := ⟨1, 2⟩
def args0 : Array Value := #[.int 3, .int 2, .int 2, .int 3, .int 2, .int 2]
def aboutOver (below : List Frame) : State where
  vm := { classes := classes, interned := interned.toArray }
  heap := heap
  slotsUsed := slotsUsed
  threads := #[{ frames := .invoking theMethod args0 :: below }]
def below0 : List Frame := [.native { method := ⟨0, 0⟩, args := #[] }]
def about1 : State := aboutOver below0
def p0 : Program := .bare "" "" ""
def e0 : Env := launch0.env 0 0 0
theorem w_frames : about1.frames = Frame.invoking theMethod args0 :: below0 := rfl
set_option maxRecDepth 65536 in
theorem w_args : argsFit about1.vm theMethod args0 = true := by decide +kernel
set_option maxRecDepth 65536 in
theorem w_heap : heapFits about1 = true := by decide +kernel
set_option maxRecDepth 65536 in
theorem w_runnable : about1.curStatus? = some .runnable := by decide +kernel
set_option maxRecDepth 65536 in
theorem w_alone : about1.alone = true := by decide +kernel
set_option maxRecDepth 65536 in
theorem w_named : about1.methodNamed? x = some theMethod := by decide +kernel
set_option maxRecDepth 65536 in
theorem w_hears : about1.hears theMethod below0 = true := by decide +kernel
set_option maxRecDepth 65536 in
theorem w_ripe : about1.ripe theMethod args0 below0 = true := by decide +kernel
theorem w_running : about1.status = .running := rfl
set_option maxRecDepth 65536 in
theorem w_room : about1.hasRoom e0.platform room_1 = true :=
  launch0.hasRoom_least _ room_1 (by decide +kernel) (by decide +kernel) (by decide +kernel) (by decide +kernel) (by decide +kernel) (by decide +kernel)
theorem allAtoms_all (ts : List Jvm.Cond) (a : Array Jvm.Value) (st : Jvm.State) : (allAtoms ts).before a st = ts.all (fun c => c.before a st) := by
  induction ts with
  | nil => rfl
  | cons c t ih =>
    show (Jvm.Cond.and c (allAtoms t)).before a st = _
    rw [Jvm.Cond.before_and, ih, List.all_cons]
def words1 : List Jvm.Cond := Jvm.Cond.code x code maxLocals ret :: tables_1
/-- a 'code' word, met by the world's own term for the bytes: nothing is compared byte by byte -/
theorem code_word {y : MethodName} {bytes : ByteArray} {mx : Nat} {rt : Option FieldType} {a : Array Value} {s : State} {m : MethodId} {meth : Method} {c : Code} (h1 : s.methodNamed? y = some m) (h2 : s.vm.method? m = some meth) (h3 : meth.code = some c) (h4 : c.code = bytes)
    (h5 : (c.maxLocals == mx && c.exceptionTable.isEmpty && decide (c.maxStack ≤ mostOperands) && decide (meth.sig.returnType = rt) && !meth.locks && decide (parseMethodDescriptor y.desc = some meth.sig)) = true) : (Jvm.Cond.code y bytes mx rt).before a s = true := by
  simp only [Bool.and_eq_true, beq_iff_eq, Bool.not_eq_true', decide_eq_true_eq] at h5
  obtain ⟨⟨⟨⟨⟨g1, g2⟩, g3⟩, g4⟩, g5⟩, g6⟩ := h5
  simp [Cond.before, Cond.holds, Cond.value, h1, h2, h3, h4, g1, g2, g3, g4, g5, g6]
def isCode : Jvm.Cond → Bool
  | .code _ _ _ _ => true
  | _ => false
theorem all_split {L : List Jvm.Cond} {P : Jvm.Cond → Bool} (h1 : L.all (fun c => isCode c || P c) = true) (h2 : ∀ c ∈ L.filter isCode, P c = true) : L.all P = true := by
  refine List.all_eq_true.mpr fun c hc => ?_
  have h := List.all_eq_true.mp h1 c hc
  rcases Bool.eq_false_or_eq_true (isCode c) with hi | hi
  · exact h2 c (List.mem_filter.mpr ⟨hc, hi⟩)
  · simpa [hi] using h
set_option maxRecDepth 65536 in
theorem w_c0 : (Jvm.Cond.code x code maxLocals ret).before args0 about1 = true := code_word (m := ⟨1, 2⟩) (meth := k1m2) (c := k1c2) (by decide +kernel) rfl rfl rfl (by decide +kernel)
set_option maxRecDepth 65536 in
theorem w_c1 : (Jvm.Cond.code ({ cls := "com/example/altigate/altigate/asterix/DataBlock", name := "<init>", desc := "(Ljava/lang/String;J[B)V" } : Jvm.MethodName) prog_3_method_1_code (5 : Nat) (Option.none : Option Jvm.ClassFile.FieldType)).before args0 about1 = true := code_word (m := ⟨2, 0⟩) (meth := k2m0) (c := k2c0) (by decide +kernel) rfl rfl rfl (by decide +kernel)
set_option maxRecDepth 65536 in
theorem w_c2 : (Jvm.Cond.code ({ cls := "java/lang/Object", name := "<init>", desc := "()V" } : Jvm.MethodName) object_method_1_code (1 : Nat) (Option.none : Option Jvm.ClassFile.FieldType)).before args0 about1 = true := code_word (m := ⟨0, 0⟩) (meth := k0m0) (c := k0c0) (by decide +kernel) rfl rfl rfl (by decide +kernel)
set_option maxRecDepth 65536 in
theorem w_c3 : (Jvm.Cond.code ({ cls := "com/example/altigate/altigate/asterix/DataBlock", name := "unsigned", desc := "(II)I" } : Jvm.MethodName) prog_3_method_4_code (5 : Nat) (Option.some Jvm.ClassFile.FieldType.int)).before args0 about1 = true := code_word (m := ⟨2, 1⟩) (meth := k2m1) (c := k2c1) (by decide +kernel) rfl rfl rfl (by decide +kernel)
set_option maxRecDepth 65536 in
theorem w_c4 : (Jvm.Cond.code ({ cls := "com/example/altigate/altigate/asterix/DataBlockUnsignedPinLaw", name := "at", desc := "([II)I" } : Jvm.MethodName) method_2_code (2 : Nat) (Option.some Jvm.ClassFile.FieldType.int)).before args0 about1 = true := code_word (m := ⟨1, 1⟩) (meth := k1m1) (c := k1c1) (by decide +kernel) rfl rfl rfl (by decide +kernel)
def codes1 : List Jvm.Cond := [Jvm.Cond.code x code maxLocals ret, Jvm.Cond.code ({ cls := "com/example/altigate/altigate/asterix/DataBlock", name := "<init>", desc := "(Ljava/lang/String;J[B)V" } : Jvm.MethodName) prog_3_method_1_code (5 : Nat) (Option.none : Option Jvm.ClassFile.FieldType), Jvm.Cond.code ({ cls := "java/lang/Object", name := "<init>", desc := "()V" } : Jvm.MethodName) object_method_1_code (1 : Nat) (Option.none : Option Jvm.ClassFile.FieldType), Jvm.Cond.code ({ cls := "com/example/altigate/altigate/asterix/DataBlock", name := "unsigned", desc := "(II)I" } : Jvm.MethodName) prog_3_method_4_code (5 : Nat) (Option.some Jvm.ClassFile.FieldType.int), Jvm.Cond.code ({ cls := "com/example/altigate/altigate/asterix/DataBlockUnsignedPinLaw", name := "at", desc := "([II)I" } : Jvm.MethodName) method_2_code (2 : Nat) (Option.some Jvm.ClassFile.FieldType.int)]
set_option maxRecDepth 65536 in
theorem codes_eq : words1.filter isCode = codes1 := rfl
theorem w_codes : ∀ c ∈ words1.filter isCode, c.before args0 about1 = true := by
  rw [codes_eq]
  intro c hc
  simp only [codes1, List.mem_cons, List.not_mem_nil, or_false] at hc
  rcases hc with rfl | rfl | rfl | rfl | rfl
  · exact w_c0
  · exact w_c1
  · exact w_c2
  · exact w_c3
  · exact w_c4
set_option maxRecDepth 65536 in
theorem w_t1 : (words1.take 24).all (fun c => isCode c || c.before args0 about1) = true := by decide +kernel
set_option maxRecDepth 65536 in
theorem w_t2 : (words1.drop 24).all (fun c => isCode c || c.before args0 about1) = true := by decide +kernel
theorem w_tables : (allAtoms (Jvm.Cond.code x code maxLocals ret :: tables_1)).before args0 about1 = true := by
  rw [allAtoms_all]
  show words1.all (fun c => c.before args0 about1) = true
  refine all_split ?_ w_codes
  rw [← List.take_append_drop 24 words1, List.all_append, w_t1, w_t2]
  rfl
set_option maxRecDepth 65536 in
theorem w_case : (Jvm.Cond.and given_1 narrow_1).before args0 about1 = true := by decide +kernel
theorem w_applies : (headSpec (Jvm.Cond.code x code maxLocals ret :: tables_1) room_1).applies x e0.platform about1 = true :=
  (Spec.applies_iff w_frames).mpr ⟨w_running, w_runnable, w_alone, w_named, w_hears, w_ripe, w_room, w_tables⟩
theorem atStart : AtStart classFile x code maxLocals ret World_1 tables_1 room_1 Calls_1 rest_1 Pre_1 launch0 p0 e0 about1 theMethod args0 below0 :=
  ⟨lists_1, trivial, launch0.admits_env _ _ _, launch0.least_env, fairChoices_fair.cas, fairChoices_fair.clock, w_frames, w_args, w_heap, w_applies, trivial, trivial, w_case⟩
end start1
theorem witness_1 : WitnessClaimed_1 := ⟨start1.p0, start1.e0, start1.about1, start1.theMethod, start1.args0, start1.below0, start1.atStart⟩
end Jvm.Pilot.@@N@@
