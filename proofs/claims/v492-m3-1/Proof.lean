import JvmDerived
import JvmDerived.Pilot.@@N@@Statement
import JvmDerived.Pilot.@@N@@Code
set_option linter.unusedVariables false
set_option linter.unusedSimpArgs false
namespace Jvm.Pilot.@@N@@
open Jvm Jvm.ClassFile Sem Op Lib Jvm.Free Jvm.Stand Jvm.LawKit Jvm.RoadKit Bundle Jvm.Pilot.@@N@@.Jvm.D
/-- from S the body ends as Q says -/
def own_G (tb : Tables) (e : Env) (below : List Frame) (Q : State → Outcome → Prop) (S : State) : Prop := ∃ s₂ o, Steps tb e below S s₂ ∧ s₂.status = .running ∧ Ended s₂ below o ∧ Q s₂ o
theorem own_via {tb : Tables} {e : Env} {below : List Frame} {Q : State → Outcome → Prop} {S S' : State} (h : ∀ t, Steps tb e below S' t → Steps tb e below S t) (g : own_G tb e below Q S') : own_G tb e below Q S := by
  obtain ⟨t, o, k, r⟩ := g
  exact ⟨t, o, h t k, r⟩
def own_P (U : State) (Q : Option Value → Heap → List Loc → Prop) (cells slots : Nat) : State → Outcome → Prop := fun U' o => ∃ v L, o = .returned v ∧ Q v U'.heap L ∧ FrameEnd U o U' L cells slots
theorem own_end {p : Program} {l : Launch} {e : Env} {R : Room} {s : State} {m : MethodId} {args : Array Value} {below : List Frame} {meth : Method} {c : Code} {T : State} {locs : List Loc} {cells slots C S : Nat} {Q : Option Value → Heap → List Loc → Prop} {h : Heap} {G : State}
    (X : Stand p l e R s m args below meth c T locs cells slots) {v : Option Value} (hlk : meth.locks = false) (hv : meth.sig.returnType = none → v = none)
    (st : ∀ fs, (∀ (f : JFrame) (acts : List Action), f.method = m → f.locked = none → f.entered = [] → (doReturn e (T.setTop f) acts v).1 = T.setFrames fs) → Steps p.tables e below G (T.setFrames fs))
    (eT : T.heap = h) (hq : Q v h locs) (h1 : cells ≤ C) (h2 : slots ≤ S) : own_G p.tables e below (own_P s Q C S) G := by
  obtain ⟨fs, hr, hrun, hended, hW, hsame⟩ := X.leave (v := v) hv hlk
  exact ⟨_, _, st fs hr, hrun, hended, _, _, rfl, eT ▸ hq, ⟨_, rfl⟩, hW, hsame.mono h1 h2⟩
def own_Ar (Z : State) (h : Heap) (a : Addr) (k : ClassId) (ty : FieldType) (z : Int32) (vs : List Value) (d : Value) : Prop := Arv Z h a k ty z vs d ∧ vs.length = z.toNatClampNeg
theorem own_Ar.lt {Z : State} {h : Heap} {a : Addr} {k : ClassId} {ty : FieldType} {z : Int32} {vs : List Value} {d : Value} (F : own_Ar Z h a k ty z vs d) : a < h.size := F.1.lt
theorem own_Ar.ext {Z : State} {h h' : Heap} {a : Addr} {k : ClassId} {ty : FieldType} {z : Int32} {vs : List Value} {d : Value} (F : own_Ar Z h a k ty z vs d) (E : Ext h h') : own_Ar Z h' a k ty z vs d := ⟨F.1.ext E, F.2⟩
theorem own_Ar.other {Z : State} {h h' : Heap} {a b : Addr} {k : ClassId} {ty : FieldType} {z : Int32} {vs : List Value} {d : Value} {sl : Nat} {v : Value} (F : own_Ar Z h b k ty z vs d) (W : Wr h h' a sl v) (q : b ≠ a) : own_Ar Z h' b k ty z vs d := ⟨F.1.other W q, F.2⟩
theorem own_Ar.keep {Z : State} {h h' : Heap} {a : Addr} {k : ClassId} {ty : FieldType} {z : Int32} {vs : List Value} {d : Value} {ws : List Addr} (F : own_Ar Z h a k ty z vs d) (K : Keep h h' ws) (q : a ∉ ws) : own_Ar Z h' a k ty z vs d := ⟨F.1.keep K q, F.2⟩
theorem own_ixn {j z : Int32} (h : ¬ j < 0 ∧ j < z) : j.toNatClampNeg < z.toNatClampNeg := by
  obtain ⟨h1, h2⟩ := h
  rw [Int32.lt_iff_toInt_lt] at h1 h2
  have e0 : (0 : Int32).toInt = 0 := by decide
  have t1 : j.toNatClampNeg = j.toInt.toNat := rfl
  have t2 : z.toNatClampNeg = z.toInt.toNat := rfl
  omega
theorem own_gI (xs : List Int32) (i : Nat) : (xs.map Value.int).getD i (.int 0) = .int (xs.getD i 0) := by simp [List.getD_eq_getElem?_getD]
theorem own_gJ (xs : List Int64) (i : Nat) : (xs.map Value.long).getD i (.long 0) = .long (xs.getD i 0) := by simp [List.getD_eq_getElem?_getD]
theorem own_setI (xs : List Int32) (i : Nat) (v : Int32) : (xs.map Value.int).set i (.int v) = (xs.set i v).map Value.int := by simp [List.map_set]
theorem own_setJ (xs : List Int64) (i : Nat) (v : Int64) : (xs.map Value.long).set i (.long v) = (xs.set i v).map Value.long := by simp [List.map_set]
theorem own_Ar.setI {Z : State} {h h' : Heap} {a : Addr} {k : ClassId} {ty : FieldType} {z j v : Int32} {xs : List Int32} {c : Cell} (A : Arr Z h a c ty) (q1 : c.cls = k) (S : c.slots.size = z.toNatClampNeg) (q3 : ¬ z < 0) (H : Has c (xs.map Value.int) (.int 0)) (G : ∀ i, i < c.slots.size → fits ty ((xs.map Value.int).getD i (.int 0)) = true) (hv : fits ty (.int v) = true)
    (W : Wr h h' a j.toNatClampNeg (.int v)) (hin : ¬ (j < 0 ∨ c.slots.size ≤ j.toNatClampNeg)) (Le : (xs.map Value.int).length = z.toNatClampNeg) : own_Ar Z h' a k ty z ((xs.set j.toNatClampNeg v).map Value.int) (.int 0) := by
  have hl : j.toNatClampNeg < (xs.map Value.int).length := by rw [Le, ← S]; exact Nat.lt_of_not_le fun q => hin (Or.inr q)
  refine ⟨?_, by rw [← Le]; simp⟩
  rw [← own_setI]
  exact Arv.set A q1 S q3 H G hv W _ rfl hl
theorem own_Ar.setJ {Z : State} {h h' : Heap} {a : Addr} {k : ClassId} {ty : FieldType} {z j : Int32} {v : Int64} {xs : List Int64} {c : Cell} (A : Arr Z h a c ty) (q1 : c.cls = k) (S : c.slots.size = z.toNatClampNeg) (q3 : ¬ z < 0) (H : Has c (xs.map Value.long) (.long 0)) (G : ∀ i, i < c.slots.size → fits ty ((xs.map Value.long).getD i (.long 0)) = true) (hv : fits ty (.long v) = true)
    (W : Wr h h' a j.toNatClampNeg (.long v)) (hin : ¬ (j < 0 ∨ c.slots.size ≤ j.toNatClampNeg)) (Le : (xs.map Value.long).length = z.toNatClampNeg) : own_Ar Z h' a k ty z ((xs.set j.toNatClampNeg v).map Value.long) (.long 0) := by
  have hl : j.toNatClampNeg < (xs.map Value.long).length := by rw [Le, ← S]; exact Nat.lt_of_not_le fun q => hin (Or.inr q)
  refine ⟨?_, by rw [← Le]; simp⟩
  rw [← own_setJ]
  exact Arv.set A q1 S q3 H G hv W _ rfl hl
theorem own_Ar.newI {Z : State} {h : Heap} {a : Addr} {k : ClassId} {z : Int32} (A : Arr Z h a (newA k .int z) .int) (q : ¬ z < 0) : own_Ar Z h a k .int z ((List.replicate z.toNatClampNeg (0 : Int32)).map Value.int) (.int (0 : Int32)) := by
  refine ⟨?_, by simp⟩
  rw [List.map_replicate]
  exact (Arv.new A q).pad (pad_rep [] (.int (0 : Int32)) _)
theorem own_Ar.newB {Z : State} {h : Heap} {a : Addr} {k : ClassId} {z : Int32} (A : Arr Z h a (newA k .byte z) .byte) (q : ¬ z < 0) : own_Ar Z h a k .byte z ((List.replicate z.toNatClampNeg (0 : Int32)).map Value.int) (.int (0 : Int32)) := by
  refine ⟨?_, by simp⟩
  rw [List.map_replicate]
  exact (Arv.new A q).pad (pad_rep [] (.int (0 : Int32)) _)
theorem own_Ar.newJ {Z : State} {h : Heap} {a : Addr} {k : ClassId} {z : Int32} (A : Arr Z h a (newA k .long z) .long) (q : ¬ z < 0) : own_Ar Z h a k .long z ((List.replicate z.toNatClampNeg (0 : Int64)).map Value.long) (.long (0 : Int64)) := by
  refine ⟨?_, by simp⟩
  rw [List.map_replicate]
  exact (Arv.new A q).pad (pad_rep [] (.long (0 : Int64)) _)
def own_fl (xs : List Int32) (i : Nat) (x : Int32) : List Int32 := List.replicate i x ++ xs.drop i
theorem own_fl0 (xs : List Int32) (x : Int32) : own_fl xs 0 x = xs := by simp [own_fl]
theorem own_flN (xs : List Int32) (x : Int32) : own_fl xs xs.length x = List.replicate xs.length x := by simp [own_fl]
theorem own_flS (xs : List Int32) (i : Nat) (x : Int32) (h : i < xs.length) : (own_fl xs i x).set i x = own_fl xs (i + 1) x := by
  unfold own_fl
  rw [List.set_append_right _ _ (by simp), List.drop_eq_getElem_cons h]
  simp only [List.length_replicate, Nat.sub_self, List.set_cons_zero, List.replicate_succ', List.append_assoc, List.cons_append, List.nil_append]
theorem own_up {i z : Int32} {r : Nat} (h0 : ¬ i < 0) (hz : ¬ z < 0) (e : i.toNatClampNeg + (r + 1) = z.toNatClampNeg) : i < z ∧ ¬ (i + (1 : Int32)) < 0 ∧ (i + (1 : Int32)).toNatClampNeg = i.toNatClampNeg + 1 := by
  have t1 : i.toNatClampNeg = i.toInt.toNat := rfl
  have t2 : z.toNatClampNeg = z.toInt.toNat := rfl
  have t3 : (i + (1 : Int32)).toNatClampNeg = (i + (1 : Int32)).toInt.toNat := rfl
  have e0 : (0 : Int32).toInt = 0 := by decide
  have e1 : (1 : Int32).toInt = 1 := by decide
  have a := c_iadd i (1 : Int32)
  have b1 := rng32 (i + (1 : Int32))
  have b2 := rng32 i
  have b3 := rng32 z
  rw [Int32.lt_iff_toInt_lt] at h0 hz
  rw [Int32.lt_iff_toInt_lt, Int32.lt_iff_toInt_lt]
  rw [e1] at a
  have e2 : (i + (1 : Int32)).toInt = i.toInt + 1 := by omega
  omega
theorem own_out {i z : Int32} (h0 : ¬ i < 0) (e : i.toNatClampNeg + 0 = z.toNatClampNeg) : ¬ i < z := by
  have t1 : i.toNatClampNeg = i.toInt.toNat := rfl
  have t2 : z.toNatClampNeg = z.toInt.toNat := rfl
  have e0 : (0 : Int32).toInt = 0 := by decide
  rw [Int32.lt_iff_toInt_lt] at h0
  rw [Int32.lt_iff_toInt_lt]
  omega
abbrev own_TGn := List Int32 × List Int32 × List Int32 × List Int32 × Int32
def own_Gn (Z : State) (h : Heap) (a b0 b1 b2 b3 : Addr) (k0 k1 k2 k3 : ClassId) (S : own_TGn) : Prop := Exa Z h a "com/example/fenceline/fenceline/Digraph" ∧ Fld Z h a "com/example/fenceline/fenceline/Digraph" "first" "[I" (.ref b0) ∧ Fld Z h a "com/example/fenceline/fenceline/Digraph" "next" "[I" (.ref b1) ∧ Fld Z h a "com/example/fenceline/fenceline/Digraph" "tails" "[I" (.ref b2) ∧ Fld Z h a "com/example/fenceline/fenceline/Digraph" "heads" "[I" (.ref b3) ∧ Fld Z h a "com/example/fenceline/fenceline/Digraph" "edgeCount" "I" (.int S.2.2.2.2) ∧ Fld Z h a "com/example/fenceline/fenceline/Digraph" "firstIn" "[I" .null ∧ Fld Z h a "com/example/fenceline/fenceline/Digraph" "nextIn" "[I" .null ∧ own_Ar Z h b0 k0 .int (3 : Int32) (List.map Value.int S.1) (.int (0 : Int32)) ∧ own_Ar Z h b1 k1 .int (16 : Int32) (List.map Value.int S.2.1) (.int (0 : Int32)) ∧ own_Ar Z h b2 k2 .int (16 : Int32) (List.map Value.int S.2.2.1) (.int (0 : Int32)) ∧ own_Ar Z h b3 k3 .int (16 : Int32) (List.map Value.int S.2.2.2.1) (.int (0 : Int32))
abbrev own_TGi := List Int32 × List Int32 × List Int32 × List Int32 × List Int32 × List Int32 × Int32
def own_Gi (Z : State) (h : Heap) (a b0 b1 b2 b3 b4 b5 : Addr) (k0 k1 k2 k3 k4 k5 : ClassId) (S : own_TGi) : Prop := Exa Z h a "com/example/fenceline/fenceline/Digraph" ∧ Fld Z h a "com/example/fenceline/fenceline/Digraph" "first" "[I" (.ref b0) ∧ Fld Z h a "com/example/fenceline/fenceline/Digraph" "next" "[I" (.ref b1) ∧ Fld Z h a "com/example/fenceline/fenceline/Digraph" "tails" "[I" (.ref b2) ∧ Fld Z h a "com/example/fenceline/fenceline/Digraph" "heads" "[I" (.ref b3) ∧ Fld Z h a "com/example/fenceline/fenceline/Digraph" "firstIn" "[I" (.ref b4) ∧ Fld Z h a "com/example/fenceline/fenceline/Digraph" "nextIn" "[I" (.ref b5) ∧ Fld Z h a "com/example/fenceline/fenceline/Digraph" "edgeCount" "I" (.int S.2.2.2.2.2.2) ∧ own_Ar Z h b0 k0 .int (3 : Int32) (List.map Value.int S.1) (.int (0 : Int32)) ∧ own_Ar Z h b1 k1 .int (16 : Int32) (List.map Value.int S.2.1) (.int (0 : Int32)) ∧ own_Ar Z h b2 k2 .int (16 : Int32) (List.map Value.int S.2.2.1) (.int (0 : Int32)) ∧ own_Ar Z h b3 k3 .int (16 : Int32) (List.map Value.int S.2.2.2.1) (.int (0 : Int32)) ∧ own_Ar Z h b4 k4 .int (3 : Int32) (List.map Value.int S.2.2.2.2.1) (.int (0 : Int32)) ∧ own_Ar Z h b5 k5 .int (16 : Int32) (List.map Value.int S.2.2.2.2.2.1) (.int (0 : Int32))
def own_addn (S : own_TGn) (a b : Int32) : own_TGn := (S.1.set (a).toNatClampNeg S.2.2.2.2, S.2.1.set (S.2.2.2.2).toNatClampNeg (S.1.getD (a).toNatClampNeg 0), S.2.2.1.set (S.2.2.2.2).toNatClampNeg a, S.2.2.2.1.set (S.2.2.2.2).toNatClampNeg b, S.2.2.2.2 + (1 : Int32))
def own_addi (S : own_TGi) (a b : Int32) : own_TGi := (S.1.set (a).toNatClampNeg S.2.2.2.2.2.2, S.2.1.set (S.2.2.2.2.2.2).toNatClampNeg (S.1.getD (a).toNatClampNeg 0), S.2.2.1.set (S.2.2.2.2.2.2).toNatClampNeg a, S.2.2.2.1.set (S.2.2.2.2.2.2).toNatClampNeg b, S.2.2.2.2.1.set (b).toNatClampNeg S.2.2.2.2.2.2, S.2.2.2.2.2.1.set (S.2.2.2.2.2.2).toNatClampNeg (S.2.2.2.2.1.getD (b).toNatClampNeg 0), S.2.2.2.2.2.2 + (1 : Int32))
def own_remn (S : own_TGn) : own_TGn := (S.1.set (S.2.2.1.getD (S.2.2.2.2 - (1 : Int32)).toNatClampNeg 0).toNatClampNeg (S.2.1.getD (S.2.2.2.2 - (1 : Int32)).toNatClampNeg 0), S.2.1, S.2.2.1, S.2.2.2.1, S.2.2.2.2 - (1 : Int32))
def own_remi (S : own_TGi) : own_TGi := (S.1.set (S.2.2.1.getD (S.2.2.2.2.2.2 - (1 : Int32)).toNatClampNeg 0).toNatClampNeg (S.2.1.getD (S.2.2.2.2.2.2 - (1 : Int32)).toNatClampNeg 0), S.2.1, S.2.2.1, S.2.2.2.1, S.2.2.2.2.1.set (S.2.2.2.1.getD (S.2.2.2.2.2.2 - (1 : Int32)).toNatClampNeg 0).toNatClampNeg (S.2.2.2.2.2.1.getD (S.2.2.2.2.2.2 - (1 : Int32)).toNatClampNeg 0), S.2.2.2.2.2.1, S.2.2.2.2.2.2 - (1 : Int32))
abbrev own_pEn (S : own_TGn) (a b : Int32) : Prop := (¬ a < 0 ∧ a < (3 : Int32)) ∧ (¬ b < 0 ∧ b < (3 : Int32)) ∧ (¬ S.2.2.2.2 < 0 ∧ S.2.2.2.2 < (16 : Int32)) ∧ ¬ S.2.2.2.2 = (16 : Int32)
abbrev own_pEi (S : own_TGi) (a b : Int32) : Prop := (¬ a < 0 ∧ a < (3 : Int32)) ∧ (¬ b < 0 ∧ b < (3 : Int32)) ∧ (¬ S.2.2.2.2.2.2 < 0 ∧ S.2.2.2.2.2.2 < (16 : Int32)) ∧ ¬ S.2.2.2.2.2.2 = (16 : Int32)
abbrev own_pRn (S : own_TGn) : Prop := (¬ S.2.2.2.2 - (1 : Int32) < 0 ∧ S.2.2.2.2 - (1 : Int32) < (16 : Int32)) ∧ (¬ S.2.2.1.getD (S.2.2.2.2 - (1 : Int32)).toNatClampNeg 0 < 0 ∧ S.2.2.1.getD (S.2.2.2.2 - (1 : Int32)).toNatClampNeg 0 < (3 : Int32))
abbrev own_pRi (S : own_TGi) : Prop := (¬ S.2.2.2.2.2.2 - (1 : Int32) < 0 ∧ S.2.2.2.2.2.2 - (1 : Int32) < (16 : Int32)) ∧ (¬ S.2.2.1.getD (S.2.2.2.2.2.2 - (1 : Int32)).toNatClampNeg 0 < 0 ∧ S.2.2.1.getD (S.2.2.2.2.2.2 - (1 : Int32)).toNatClampNeg 0 < (3 : Int32)) ∧ (¬ S.2.2.2.1.getD (S.2.2.2.2.2.2 - (1 : Int32)).toNatClampNeg 0 < 0 ∧ S.2.2.2.1.getD (S.2.2.2.2.2.2 - (1 : Int32)).toNatClampNeg 0 < (3 : Int32))
abbrev own_m1 : List Int32 := List.replicate (List.replicate ((3 : Int32)).toNatClampNeg (0 : Int32)).length (-1 : Int32)
abbrev own_z16 : List Int32 := List.replicate ((16 : Int32)).toNatClampNeg (0 : Int32)
abbrev own_g0n : own_TGn := (own_m1, own_z16, own_z16, own_z16, (0 : Int32))
abbrev own_g0i : own_TGi := (own_m1, own_z16, own_z16, own_z16, own_m1, own_z16, (0 : Int32))
def own_ex (n x y : Int32) : Int32 := if y = n then 1 else if x = n then 0 else -1
abbrev own_okn (a b c d e f : Int32) : Prop := own_pEn own_g0n a d ∧ own_pEn (own_addn own_g0n a d) b e ∧ own_pEn (own_addn (own_addn own_g0n a d) b e) c f ∧ own_pRn (own_addn (own_addn (own_addn own_g0n a d) b e) c f) ∧
  (own_remn (own_addn (own_addn (own_addn own_g0n a d) b e) c f)).2.2.2.2 = (2 : Int32) ∧ ∀ i ∈ [(0 : Int32), 1, 2], (own_remn (own_addn (own_addn (own_addn own_g0n a d) b e) c f)).1.getD (i).toNatClampNeg 0 = own_ex i a b
abbrev own_oki (a b c d e f : Int32) : Prop := own_pEi own_g0i a d ∧ own_pEi (own_addi own_g0i a d) b e ∧ own_pEi (own_addi (own_addi own_g0i a d) b e) c f ∧ own_pRi (own_addi (own_addi (own_addi own_g0i a d) b e) c f) ∧
  (own_remi (own_addi (own_addi (own_addi own_g0i a d) b e) c f)).2.2.2.2.2.2 = (2 : Int32) ∧ (∀ i ∈ [(0 : Int32), 1, 2], (own_remi (own_addi (own_addi (own_addi own_g0i a d) b e) c f)).1.getD (i).toNatClampNeg 0 = own_ex i a b) ∧ ∀ i ∈ [(0 : Int32), 1, 2], (own_remi (own_addi (own_addi (own_addi own_g0i a d) b e) c f)).2.2.2.2.1.getD (i).toNatClampNeg 0 = own_ex i d e
def own_D : List Int32 := [0, 1, 2]
theorem own_blln : (own_D.all fun a => own_D.all fun b => own_D.all fun c => own_D.all fun d => own_D.all fun e => own_D.all fun f => decide (own_okn a b c d e f)) = true := by decide +kernel
theorem own_alln : ∀ a ∈ own_D, ∀ b ∈ own_D, ∀ c ∈ own_D, ∀ d ∈ own_D, ∀ e ∈ own_D, ∀ f ∈ own_D, own_okn a b c d e f := fun a ha b hb c hc d hd e he f hf =>
  of_decide_eq_true (List.all_eq_true.mp (List.all_eq_true.mp (List.all_eq_true.mp (List.all_eq_true.mp (List.all_eq_true.mp (List.all_eq_true.mp own_blln a ha) b hb) c hc) d hd) e he) f hf)
theorem own_blli : (own_D.all fun a => own_D.all fun b => own_D.all fun c => own_D.all fun d => own_D.all fun e => own_D.all fun f => decide (own_oki a b c d e f)) = true := by decide +kernel
theorem own_alli : ∀ a ∈ own_D, ∀ b ∈ own_D, ∀ c ∈ own_D, ∀ d ∈ own_D, ∀ e ∈ own_D, ∀ f ∈ own_D, own_oki a b c d e f := fun a ha b hb c hc d hd e he f hf =>
  of_decide_eq_true (List.all_eq_true.mp (List.all_eq_true.mp (List.all_eq_true.mp (List.all_eq_true.mp (List.all_eq_true.mp (List.all_eq_true.mp own_blli a ha) b hb) c hc) d hd) e he) f hf)
theorem own_in3 (x : Int32) : ((x &&& (255 : Int32)) % (3 : Int32)) ∈ own_D := by
  have h1 := c_mask x (255 : Int32) 8 (by decide) (by decide)
  have h4 := (c_irem (x &&& (255 : Int32)) (3 : Int32) 3 (by decide)).1 (by omega)
  have h2 : ((x &&& (255 : Int32)) % (3 : Int32)).toInt = 0 ∨ ((x &&& (255 : Int32)) % (3 : Int32)).toInt = 1 ∨ ((x &&& (255 : Int32)) % (3 : Int32)).toInt = 2 := by omega
  generalize ((x &&& (255 : Int32)) % (3 : Int32)) = y at *
  have h3 : ∀ k : Int32, y.toInt = k.toInt → y = k := fun k q => Int32.toInt_inj.mp q
  rcases h2 with h | h | h
  · rw [h3 0 (h.trans (by decide))]; decide
  · rw [h3 1 (h.trans (by decide))]; decide
  · rw [h3 2 (h.trans (by decide))]; decide
theorem d2_0 : decode jdk_29_method_65_code 0 = .ok (.iload_n 0, 1) := by decide +kernel
theorem d2_1 : decode jdk_29_method_65_code 1 = .ok (.iload_n 1, 1) := by decide +kernel
theorem d2_2 : decode jdk_29_method_65_code 2 = .ok (.if_icmp .lt 7, 3) := by decide +kernel
theorem d2_5 : decode jdk_29_method_65_code 5 = .ok (.iload_n 0, 1) := by decide +kernel
theorem d2_6 : decode jdk_29_method_65_code 6 = .ok (.goto 4, 3) := by decide +kernel
theorem d2_10 : decode jdk_29_method_65_code 10 = .ok (.ireturn, 1) := by decide +kernel
theorem ef2 (m : MethodId) (x0 : Int32) (x1 : Int32) : entryFrame m #[(.int x0), (.int x1)] 2 = mkF m 0 #[.val (.int x0), .val (.int x1)] [] := by first | (simp [entryFrame, mkF, argsToLocals, Value.category]; done) | rfl
def Q2 (Z : State)  (h0 : Heap) (n0 : Nat) (v : Option Value) (h : Heap) (L : List Loc) : Prop := v = some (.int (16 : Int32)) ∧ Fr n0 L ∧ h = h0
set_option maxRecDepth 65536 in
set_option maxHeartbeats 40000000 in
theorem rm2 (l : Launch) (Z : State) (a0 : Array Value) (hw : ∀ d ∈ tables_1, d.before a0 Z = true) (ws : List Jvm.Cond)  (h0 : Heap) (n0 : Nat) (Z0 : n0 ≤ h0.size) :
    MetFree l (⟨"java/lang/Math", "max", "(II)I"⟩ : MethodName) (head1 (Jvm.Cond.code (⟨"java/lang/Math", "max", "(II)I"⟩ : MethodName) jdk_29_method_65_code 2 (some .int) :: ws) ({ frames := 0, cells := 0, slots := 0, locals := 0 } : Room)) (fun a U => a = #[(.int (16 : Int32)), (.int (0 : Int32))] ∧ Z.Warmed39 U.vm ∧ U.heap = h0) (fun _ _ _ _ _ => True) (fun _ U o U' => ∃ v L, o = .returned v ∧ Q2 Z  h0 n0 v U'.heap L ∧ FrameEnd U o U' L ({ frames := 0, cells := 0, slots := 0, locals := 0 } : Room).cells ({ frames := 0, cells := 0, slots := 0, locals := 0 } : Room).slots) := by
  refine MetFree.of_bodySF (Jvm.Free.JP.mathPlain rfl (by decide +kernel)) hisR ?_
  intro p e s m args below meth c s₁ Bd hml0 hP hK
  obtain ⟨rfl, hZ, hh⟩ := hP
  have hx := Bd.exec
  have hby := Bd.bytes
  have hml : c.maxLocals = 2 := hml0
  have hown : s.vm.findClass "java/lang/Math" = some m.cls := findClass_of_methodNamed Bd.named
  have hnm := (name_of_methodNamed Bd.named Bd.method).1
  have X0 : Stand p l e ({ frames := 0, cells := 0, slots := 0, locals := 0 } : Room) s m #[(.int (16 : Int32)), (.int (0 : Int32))] below meth c s₁ [] 0 0 := Stand.of_body Bd
  have e0 : s₁.heap = h0 := by rw [← hh, Bd.state]; rfl
  have N0 := Fr.nil n0
  refine (show own_G p.tables e below (own_P s (Q2 Z  h0 n0) 0 0) (s₁.setTop (entryFrame m #[(.int (16 : Int32)), (.int (0 : Int32))] 2)) from ?_)
  refine own_via (fun t k => castTop (ef2 m (16 : Int32) (0 : Int32)) k) ?_
  show own_G p.tables e below _ (s₁.setTop (mkF m 0 #[.val (.int (16 : Int32)), .val (.int (0 : Int32))] []))
  refine own_via (S' := s₁.setTop (mkF m 2 #[.val (.int (16 : Int32)), .val (.int (0 : Int32))] [(.int (0 : Int32)), (.int (16 : Int32))])) (fun t k => ?_) ?_
  · show Steps p.tables e below (s₁.setTop (mkF m 0 #[.val (.int (16 : Int32)), .val (.int (0 : Int32))] [])) t
    refine XS.iloadN X0.here hx rfl (hb hby d2_0) rfl ?_
    show Steps p.tables e below (s₁.setTop (mkF m 1 #[.val (.int (16 : Int32)), .val (.int (0 : Int32))] [(.int (16 : Int32))])) t
    refine XS.iloadN X0.here hx rfl (hb hby d2_1) rfl ?_
    exact k
  refine own_via (S' := s₁.setTop (mkF m 5 #[.val (.int (16 : Int32)), .val (.int (0 : Int32))] [])) (fun t k => XS.icmpNo (g := (mkF m 2 #[.val (.int (16 : Int32)), .val (.int (0 : Int32))] [(.int (0 : Int32)), (.int (16 : Int32))])) X0.here hx rfl (hb hby d2_2) rfl (flt (by decide : ¬ ((16 : Int32) < (0 : Int32)))).1 k) ?_
  refine own_via (S' := s₁.setTop (mkF m 10 #[.val (.int (16 : Int32)), .val (.int (0 : Int32))] [(.int (16 : Int32))])) (fun t k => ?_) ?_
  · show Steps p.tables e below (s₁.setTop (mkF m 5 #[.val (.int (16 : Int32)), .val (.int (0 : Int32))] [])) t
    refine XS.iloadN X0.here hx rfl (hb hby d2_5) rfl ?_
    show Steps p.tables e below (s₁.setTop (mkF m 6 #[.val (.int (16 : Int32)), .val (.int (0 : Int32))] [(.int (16 : Int32))])) t
    refine XS.goto X0.here hx rfl (pc0 := 6) (pc' := 10) rfl (hb hby d2_6) (by decide) (by decide) ?_
    exact k
  exact own_end (h := h0) X0 (v := some (.int (16 : Int32))) Bd.notSynchronized (fun h => by rw [Bd.returns] at h; cases h) (fun fs hr => retOut X0 hx Bd.returns rfl (Or.inl ⟨rfl, Or.inl rfl, _, rfl⟩) (hb hby d2_10) hr) e0 ⟨rfl, N0, rfl⟩ (by decide) (by decide)
theorem d5_0 : decode jdk_65_method_103_code 0 = .ok (.iconst 0, 1) := by decide +kernel
theorem d5_1 : decode jdk_65_method_103_code 1 = .ok (.istore_n 2, 1) := by decide +kernel
theorem d5_2 : decode jdk_65_method_103_code 2 = .ok (.aload_n 0, 1) := by decide +kernel
theorem d5_3 : decode jdk_65_method_103_code 3 = .ok (.arraylength, 1) := by decide +kernel
theorem d5_4 : decode jdk_65_method_103_code 4 = .ok (.istore_n 3, 1) := by decide +kernel
theorem d5_5 : decode jdk_65_method_103_code 5 = .ok (.iload_n 2, 1) := by decide +kernel
theorem d5_6 : decode jdk_65_method_103_code 6 = .ok (.iload_n 3, 1) := by decide +kernel
theorem d5_7 : decode jdk_65_method_103_code 7 = .ok (.if_icmp .ge 13, 3) := by decide +kernel
theorem d5_10 : decode jdk_65_method_103_code 10 = .ok (.aload_n 0, 1) := by decide +kernel
theorem d5_11 : decode jdk_65_method_103_code 11 = .ok (.iload_n 2, 1) := by decide +kernel
theorem d5_12 : decode jdk_65_method_103_code 12 = .ok (.iload_n 1, 1) := by decide +kernel
theorem d5_13 : decode jdk_65_method_103_code 13 = .ok (.iastore, 1) := by decide +kernel
theorem d5_14 : decode jdk_65_method_103_code 14 = .ok (.iinc 2 1, 3) := by decide +kernel
theorem d5_17 : decode jdk_65_method_103_code 17 = .ok (.goto (-12), 3) := by decide +kernel
theorem d5_20 : decode jdk_65_method_103_code 20 = .ok (.return_, 1) := by decide +kernel
theorem pn5 : plainName "java/util/Arrays" = true := by first | (simp [plainName, overriddenIn]; done) | decide +kernel
theorem ef5 (m : MethodId) (x0 : Addr) (x1 : Int32) : entryFrame m #[(.ref x0), (.int x1)] 4 = mkF m 0 #[.val (.ref x0), .val (.int x1), .unset, .unset] [] := by first | (simp [entryFrame, mkF, argsToLocals, Value.category]; done) | rfl
def Q5 (Z : State) (a1 : Addr) (p2 : Int32) (k : ClassId) (z : Int32) (xs : List Int32) (h0 : Heap) (n0 : Nat) (v : Option Value) (h : Heap) (L : List Loc) : Prop := v = none ∧ Fr n0 L ∧ Keep h0 h [a1] ∧ own_Ar Z h a1 k .int z (List.map Value.int (List.replicate xs.length p2)) (.int (0 : Int32))
set_option maxRecDepth 65536 in
set_option maxHeartbeats 40000000 in
theorem rm5 (l : Launch) (Z : State) (a0 : Array Value) (hw : ∀ d ∈ tables_1, d.before a0 Z = true) (ws : List Jvm.Cond) (a1 : Addr) (p2 : Int32) (k : ClassId) (z : Int32) (xs : List Int32) (h0 : Heap) (n0 : Nat) (Z0 : n0 ≤ h0.size) (V_a1 : own_Ar Z h0 a1 k .int z (List.map Value.int xs) (.int (0 : Int32))) (g_a1 : n0 ≤ a1) :
    MetFree l (⟨"java/util/Arrays", "fill", "([II)V"⟩ : MethodName) (head1 (Jvm.Cond.code (⟨"java/util/Arrays", "fill", "([II)V"⟩ : MethodName) jdk_65_method_103_code 4 none :: ws) ({ frames := 0, cells := 0, slots := 0, locals := 0 } : Room)) (fun a U => a = #[(.ref a1), (.int p2)] ∧ Z.Warmed39 U.vm ∧ U.heap = h0) (fun _ _ _ _ _ => True) (fun _ U o U' => ∃ v L, o = .returned v ∧ Q5 Z a1 p2 k z xs h0 n0 v U'.heap L ∧ FrameEnd U o U' L ({ frames := 0, cells := 0, slots := 0, locals := 0 } : Room).cells ({ frames := 0, cells := 0, slots := 0, locals := 0 } : Room).slots) := by
  refine MetFree.of_bodySF (plainFor_of_name pn5) hisR ?_
  intro p e s m args below meth c s₁ Bd hml0 hP hK
  obtain ⟨rfl, hZ, hh⟩ := hP
  have hx := Bd.exec
  have hby := Bd.bytes
  have hml : c.maxLocals = 4 := hml0
  have hown : s.vm.findClass "java/util/Arrays" = some m.cls := findClass_of_methodNamed Bd.named
  have hnm := (name_of_methodNamed Bd.named Bd.method).1
  have X0 : Stand p l e ({ frames := 0, cells := 0, slots := 0, locals := 0 } : Room) s m #[(.ref a1), (.int p2)] below meth c s₁ [] 0 0 := Stand.of_body Bd
  have e0 : s₁.heap = h0 := by rw [← hh, Bd.state]; rfl
  have N0 := Fr.nil n0
  refine (show own_G p.tables e below (own_P s (Q5 Z a1 p2 k z xs h0 n0) 0 0) (s₁.setTop (entryFrame m #[(.ref a1), (.int p2)] 4)) from ?_)
  refine own_via (fun t k => castTop (ef5 m a1 p2) k) ?_
  show own_G p.tables e below _ (s₁.setTop (mkF m 0 #[.val (.ref a1), .val (.int p2), .unset, .unset] []))
  have K0 := Keep.refl h0 [a1]
  have hz := V_a1.1.choose_spec.2.2.2.1
  have hlen : xs.length = z.toNatClampNeg := by rw [← V_a1.2]; simp
  refine own_via (S' := s₁.setTop (mkF m 3 #[.val (.ref a1), .val (.int p2), .val (.int (0 : Int32)), .unset] [(.ref a1)])) (fun t k => ?_) ?_
  · show Steps p.tables e below (s₁.setTop (mkF m 0 #[.val (.ref a1), .val (.int p2), .unset, .unset] [])) t
    refine XS.iconst X0.here hx rfl (hb hby d5_0) ?_
    show Steps p.tables e below (s₁.setTop (mkF m 1 #[.val (.ref a1), .val (.int p2), .unset, .unset] [(.int (0 : Int32))])) t
    refine XS.istoreN X0.here hx rfl (hb hby d5_1) rfl (l' := #[.val (.ref a1), .val (.int p2), .val (.int (0 : Int32)), .unset]) rfl ?_
    show Steps p.tables e below (s₁.setTop (mkF m 2 #[.val (.ref a1), .val (.int p2), .val (.int (0 : Int32)), .unset] [])) t
    refine XS.aloadN X0.here hx rfl (hb hby d5_2) rfl rfl ?_
    exact k
  obtain ⟨⟨cl1, Ar1, q1, S1, Nn1, H1, G1⟩, Le1⟩ := id V_a1
  refine own_via (S' := s₁.setTop (mkF m 4 #[.val (.ref a1), .val (.int p2), .val (.int (0 : Int32)), .unset] [(.int z)])) (fun t kz_ => X0.arraylength hx (by rw [e0]; exact Ar1.1) (State.isArrayOf_alike hZ.alike Ar1.2.1) (g := (mkF m 3 #[.val (.ref a1), .val (.int p2), .val (.int (0 : Int32)), .unset] [(.ref a1)])) rfl rfl (hb hby d5_3) _ (by rw [len_of S1 Nn1]; exact kz_)) ?_
  refine own_via (S' := s₁.setTop (mkF m 5 #[.val (.ref a1), .val (.int p2), .val (.int (0 : Int32)), .val (.int z)] [])) (fun t k => ?_) ?_
  · show Steps p.tables e below (s₁.setTop (mkF m 4 #[.val (.ref a1), .val (.int p2), .val (.int (0 : Int32)), .unset] [(.int z)])) t
    refine XS.istoreN X0.here hx rfl (hb hby d5_4) rfl (l' := #[.val (.ref a1), .val (.int p2), .val (.int (0 : Int32)), .val (.int z)]) rfl ?_
    exact k
  have loop : ∀ (r : Nat) (T : State) (h : Heap) (locs : List Loc) (i : Int32), Fr n0 locs → Stand p l e ({ frames := 0, cells := 0, slots := 0, locals := 0 } : Room) s m #[(.ref a1), (.int p2)] below meth c T locs 0 0 → T.heap = h → Keep h0 h [a1] → ¬ i < 0 → i.toNatClampNeg + r = z.toNatClampNeg → own_Ar Z h a1 k .int z (List.map Value.int (own_fl xs i.toNatClampNeg p2)) (.int (0 : Int32)) → own_G p.tables e below (own_P s (Q5 Z a1 p2 k z xs h0 n0) 0 0) (T.setTop (mkF m 5 #[.val (.ref a1), .val (.int p2), .val (.int i), .val (.int z)] [])) := by
    intro r
    induction r with
    | zero =>
      intro T h locs i N X eT K hi hr V
      refine own_via (S' := T.setTop (mkF m 7 #[.val (.ref a1), .val (.int p2), .val (.int i), .val (.int z)] [(.int z), (.int i)])) (fun t k => ?_) ?_
      · show Steps p.tables e below (T.setTop (mkF m 5 #[.val (.ref a1), .val (.int p2), .val (.int i), .val (.int z)] [])) t
        refine XS.iloadN X.here hx rfl (hb hby d5_5) rfl ?_
        show Steps p.tables e below (T.setTop (mkF m 6 #[.val (.ref a1), .val (.int p2), .val (.int i), .val (.int z)] [(.int i)])) t
        refine XS.iloadN X.here hx rfl (hb hby d5_6) rfl ?_
        exact k
      refine own_via (S' := T.setTop (mkF m 20 #[.val (.ref a1), .val (.int p2), .val (.int i), .val (.int z)] [])) (fun t k => XS.icmpYes (g := (mkF m 7 #[.val (.ref a1), .val (.int p2), .val (.int i), .val (.int z)] [(.int z), (.int i)])) X.here hx rfl (pc0 := 7) (pc' := 20) rfl (hb hby d5_7) rfl (flt (own_out hi hr)).2.1 (by decide) (by decide) k) ?_
      have Vz := V
      have hiz : i.toNatClampNeg = xs.length := by omega
      rw [hiz, own_flN] at Vz
      exact own_end (h := h) X (v := none) Bd.notSynchronized (fun _ => rfl) (fun fs hr => X.returnOut hx Bd.returns (hb hby d5_20) hr) eT ⟨rfl, N, K, Vz⟩ (by decide) (by decide)
    | succ r ih =>
      intro T h locs i N X eT K hi hr V
      refine own_via (S' := T.setTop (mkF m 7 #[.val (.ref a1), .val (.int p2), .val (.int i), .val (.int z)] [(.int z), (.int i)])) (fun t k => ?_) ?_
      · show Steps p.tables e below (T.setTop (mkF m 5 #[.val (.ref a1), .val (.int p2), .val (.int i), .val (.int z)] [])) t
        refine XS.iloadN X.here hx rfl (hb hby d5_5) rfl ?_
        show Steps p.tables e below (T.setTop (mkF m 6 #[.val (.ref a1), .val (.int p2), .val (.int i), .val (.int z)] [(.int i)])) t
        refine XS.iloadN X.here hx rfl (hb hby d5_6) rfl ?_
        exact k
      refine own_via (S' := T.setTop (mkF m 10 #[.val (.ref a1), .val (.int p2), .val (.int i), .val (.int z)] [])) (fun t k => XS.icmpNo (g := (mkF m 7 #[.val (.ref a1), .val (.int p2), .val (.int i), .val (.int z)] [(.int z), (.int i)])) X.here hx rfl (hb hby d5_7) rfl (tlt (own_up hi hz hr).1).2.1 k) ?_
      refine own_via (S' := T.setTop (mkF m 13 #[.val (.ref a1), .val (.int p2), .val (.int i), .val (.int z)] [(.int p2), (.int i), (.ref a1)])) (fun t k => ?_) ?_
      · show Steps p.tables e below (T.setTop (mkF m 10 #[.val (.ref a1), .val (.int p2), .val (.int i), .val (.int z)] [])) t
        refine XS.aloadN X.here hx rfl (hb hby d5_10) rfl rfl ?_
        show Steps p.tables e below (T.setTop (mkF m 11 #[.val (.ref a1), .val (.int p2), .val (.int i), .val (.int z)] [(.ref a1)])) t
        refine XS.iloadN X.here hx rfl (hb hby d5_11) rfl ?_
        show Steps p.tables e below (T.setTop (mkF m 12 #[.val (.ref a1), .val (.int p2), .val (.int i), .val (.int z)] [(.int i), (.ref a1)])) t
        refine XS.iloadN X.here hx rfl (hb hby d5_12) rfl ?_
        exact k
      obtain ⟨⟨cl4, Ar4, q4, S4, Nn4, H4, G4⟩, Le4⟩ := id V
      have hin4 : ¬ (i < 0 ∨ cl4.slots.size ≤ (i).toNatClampNeg) := inb_of S4 ⟨hi, (own_up hi hz hr).1⟩
      obtain ⟨T4, h4, X4, e4, W4, st4⟩ := stI X hx hZ eT Ar4 (j := i) hin4 (g := (mkF m 13 #[.val (.ref a1), .val (.int p2), .val (.int i), .val (.int z)] [(.int p2), (.int i), (.ref a1)])) rfl rfl (hb hby d5_13)
      have V4 : own_Ar Z h4 a1 k .int z (List.map Value.int ((own_fl xs i.toNatClampNeg p2).set (i).toNatClampNeg p2)) (.int (0 : Int32)) := own_Ar.setI Ar4 q4 S4 Nn4 H4 G4 rfl W4 hin4 Le4
      have K5 : Keep h0 h4 [a1] := Keep.wr K W4 (Or.inl (List.mem_of_getElem? (i := 0) rfl))
      have N5 := Fr.snoc X4 N g_a1
      refine own_via st4 ?_
      show own_G p.tables e below _ (T4.setTop (mkF m 14 #[.val (.ref a1), .val (.int p2), .val (.int i), .val (.int z)] []))
      refine own_via (S' := T4.setTop (mkF m 5 #[.val (.ref a1), .val (.int p2), .val (.int (i + (1 : Int32))), .val (.int z)] [])) (fun t k => ?_) ?_
      · show Steps p.tables e below (T4.setTop (mkF m 14 #[.val (.ref a1), .val (.int p2), .val (.int i), .val (.int z)] [])) t
        refine XS.iinc X4.here hx rfl (hb hby d5_14) rfl (l' := #[.val (.ref a1), .val (.int p2), .val (.int (i + (1 : Int32))), .val (.int z)]) rfl ?_
        show Steps p.tables e below (T4.setTop (mkF m 17 #[.val (.ref a1), .val (.int p2), .val (.int (i + (1 : Int32))), .val (.int z)] [])) t
        refine XS.goto X4.here hx rfl (pc0 := 17) (pc' := 5) rfl (hb hby d5_17) (by decide) (by decide) ?_
        exact k
      have Vn := V4
      rw [own_flS xs _ p2 (by rw [hlen]; exact own_ixn ⟨hi, (own_up hi hz hr).1⟩), ← (own_up hi hz hr).2.2] at Vn
      exact ih _ _ _ _ N5 X4 e4 K5 (own_up hi hz hr).2.1 (by rw [(own_up hi hz hr).2.2]; omega) Vn
  exact loop z.toNatClampNeg _ _ _ 0 N0 X0 e0 K0 (by decide) (by simp) (by rw [show (0 : Int32).toNatClampNeg = 0 by decide, own_fl0]; exact V_a1)
theorem d3_0 : decode prog_26_method_2_code 0 = .ok (.aload_n 0, 1) := by decide +kernel
theorem d3_1 : decode prog_26_method_2_code 1 = .ok (.invokespecial 13, 3) := by decide +kernel
theorem d3_4 : decode prog_26_method_2_code 4 = .ok (.aload_n 0, 1) := by decide +kernel
theorem d3_5 : decode prog_26_method_2_code 5 = .ok (.iload_n 1, 1) := by decide +kernel
theorem d3_6 : decode prog_26_method_2_code 6 = .ok (.newarray .int, 2) := by decide +kernel
theorem d3_8 : decode prog_26_method_2_code 8 = .ok (.putfield 18, 3) := by decide +kernel
theorem d3_11 : decode prog_26_method_2_code 11 = .ok (.aload_n 0, 1) := by decide +kernel
theorem d3_12 : decode prog_26_method_2_code 12 = .ok (.getfield 18, 3) := by decide +kernel
theorem d3_15 : decode prog_26_method_2_code 15 = .ok (.iconst (-1), 1) := by decide +kernel
theorem d3_16 : decode prog_26_method_2_code 16 = .ok (.invokestatic 22, 3) := by decide +kernel
theorem d3_19 : decode prog_26_method_2_code 19 = .ok (.aload_n 0, 1) := by decide +kernel
theorem d3_20 : decode prog_26_method_2_code 20 = .ok (.iload_n 3, 1) := by decide +kernel
theorem d3_21 : decode prog_26_method_2_code 21 = .ok (.newarray .int, 2) := by decide +kernel
theorem d3_23 : decode prog_26_method_2_code 23 = .ok (.putfield 28, 3) := by decide +kernel
theorem d3_26 : decode prog_26_method_2_code 26 = .ok (.aload_n 0, 1) := by decide +kernel
theorem d3_27 : decode prog_26_method_2_code 27 = .ok (.iload_n 3, 1) := by decide +kernel
theorem d3_28 : decode prog_26_method_2_code 28 = .ok (.newarray .int, 2) := by decide +kernel
theorem d3_30 : decode prog_26_method_2_code 30 = .ok (.putfield 31, 3) := by decide +kernel
theorem d3_33 : decode prog_26_method_2_code 33 = .ok (.aload_n 0, 1) := by decide +kernel
theorem d3_34 : decode prog_26_method_2_code 34 = .ok (.iload_n 3, 1) := by decide +kernel
theorem d3_35 : decode prog_26_method_2_code 35 = .ok (.newarray .int, 2) := by decide +kernel
theorem d3_37 : decode prog_26_method_2_code 37 = .ok (.putfield 34, 3) := by decide +kernel
theorem d3_40 : decode prog_26_method_2_code 40 = .ok (.iload_n 2, 1) := by decide +kernel
theorem d3_41 : decode prog_26_method_2_code 41 = .ok (.ifCond .eq 32, 3) := by decide +kernel
theorem d3_73 : decode prog_26_method_2_code 73 = .ok (.aload_n 0, 1) := by decide +kernel
theorem d3_74 : decode prog_26_method_2_code 74 = .ok (.aconst_null, 1) := by decide +kernel
theorem d3_75 : decode prog_26_method_2_code 75 = .ok (.putfield 37, 3) := by decide +kernel
theorem d3_78 : decode prog_26_method_2_code 78 = .ok (.return_, 1) := by decide +kernel
theorem pn3 : plainName "com/example/fenceline/fenceline/Digraph" = true := by first | (simp [plainName, overriddenIn]; done) | decide +kernel
theorem pd_0 : parseMethodDescriptor "([II)V" = some ⟨[(.array .int), .int], none⟩ := by decide +kernel
theorem ef3 (m : MethodId) (x0 : Addr) (x1 : Int32) (x2 : Int32) (x3 : Int32) : entryFrame m #[(.ref x0), (.int x1), (.int x2), (.int x3)] 4 = mkF m 0 #[.val (.ref x0), .val (.int x1), .val (.int x2), .val (.int x3)] [] := by first | (simp [entryFrame, mkF, argsToLocals, Value.category]; done) | rfl
def Q3n (Z : State) (a1 : Addr) (h0 : Heap) (n0 : Nat) (v : Option Value) (h : Heap) (L : List Loc) : Prop := v = none ∧ Fr n0 L ∧ Keep h0 h [a1] ∧ ∃ (b0 b1 b2 b3 : Addr) (k0 k1 k2 k3 : ClassId), n0 ≤ b0 ∧ n0 ≤ b1 ∧ n0 ≤ b2 ∧ n0 ≤ b3 ∧ h0.size ≤ b0 ∧ h0.size ≤ b1 ∧ h0.size ≤ b2 ∧ h0.size ≤ b3 ∧ a1 ≠ b0 ∧ a1 ≠ b1 ∧ a1 ≠ b2 ∧ a1 ≠ b3 ∧ b0 ≠ b1 ∧ b0 ≠ b2 ∧ b0 ≠ b3 ∧ b1 ≠ b2 ∧ b1 ≠ b3 ∧ b2 ≠ b3 ∧ own_Gn Z h a1 b0 b1 b2 b3 k0 k1 k2 k3 own_g0n
set_option maxRecDepth 65536 in
set_option maxHeartbeats 40000000 in
theorem rm3n (l : Launch) (Z : State) (a0 : Array Value) (hw : ∀ d ∈ tables_1, d.before a0 Z = true) (ws : List Jvm.Cond) (a1 : Addr) (h0 : Heap) (n0 : Nat) (Z0 : n0 ≤ h0.size) (F0_0 : Fld Z h0 a1 "com/example/fenceline/fenceline/Digraph" "first" "[I" .null) (F1_0 : Fld Z h0 a1 "com/example/fenceline/fenceline/Digraph" "next" "[I" .null) (F2_0 : Fld Z h0 a1 "com/example/fenceline/fenceline/Digraph" "firstIn" "[I" .null) (F3_0 : Fld Z h0 a1 "com/example/fenceline/fenceline/Digraph" "nextIn" "[I" .null) (F4_0 : Fld Z h0 a1 "com/example/fenceline/fenceline/Digraph" "tails" "[I" .null) (F5_0 : Fld Z h0 a1 "com/example/fenceline/fenceline/Digraph" "heads" "[I" .null) (F6_0 : Fld Z h0 a1 "com/example/fenceline/fenceline/Digraph" "edgeCount" "I" (.int (0 : Int32))) (E_a1 : Exa Z h0 a1 "com/example/fenceline/fenceline/Digraph") (g_a1 : n0 ≤ a1) :
    MetFree l (⟨"com/example/fenceline/fenceline/Digraph", "<init>", "(IZI)V"⟩ : MethodName) (head1 (Jvm.Cond.code (⟨"com/example/fenceline/fenceline/Digraph", "<init>", "(IZI)V"⟩ : MethodName) prog_26_method_2_code 4 none :: ws) ({ frames := 1, cells := 4, slots := 51, locals := 15 } : Room)) (fun a U => a = #[(.ref a1), (.int (3 : Int32)), (.int (0 : Int32)), (.int (16 : Int32))] ∧ Z.Warmed39 U.vm ∧ U.heap = h0) (fun _ _ _ _ _ => True) (fun _ U o U' => ∃ v L, o = .returned v ∧ Q3n Z a1 h0 n0 v U'.heap L ∧ FrameEnd U o U' L ({ frames := 1, cells := 4, slots := 51, locals := 15 } : Room).cells ({ frames := 1, cells := 4, slots := 51, locals := 15 } : Room).slots) := by
  refine MetFree.of_bodySF (plainFor_of_name pn3) hisR ?_
  intro p e s m args below meth c s₁ Bd hml0 hP hK
  obtain ⟨rfl, hZ, hh⟩ := hP
  have hx := Bd.exec
  have hby := Bd.bytes
  have hml : c.maxLocals = 4 := hml0
  have hown : s.vm.findClass "com/example/fenceline/fenceline/Digraph" = some m.cls := findClass_of_methodNamed Bd.named
  have hnm := (name_of_methodNamed Bd.named Bd.method).1
  have X0 : Stand p l e ({ frames := 1, cells := 4, slots := 51, locals := 15 } : Room) s m #[(.ref a1), (.int (3 : Int32)), (.int (0 : Int32)), (.int (16 : Int32))] below meth c s₁ [] 0 0 := Stand.of_body Bd
  have e0 : s₁.heap = h0 := by rw [← hh, Bd.state]; rfl
  have N0 := Fr.nil n0
  refine (show own_G p.tables e below (own_P s (Q3n Z a1 h0 n0) 4 51) (s₁.setTop (entryFrame m #[(.ref a1), (.int (3 : Int32)), (.int (0 : Int32)), (.int (16 : Int32))] 4)) from ?_)
  refine own_via (fun t k => castTop (ef3 m a1 (3 : Int32) (0 : Int32) (16 : Int32)) k) ?_
  show own_G p.tables e below _ (s₁.setTop (mkF m 0 #[.val (.ref a1), .val (.int (3 : Int32)), .val (.int (0 : Int32)), .val (.int (16 : Int32))] []))
  have K0 := Keep.refl h0 [a1]
  refine own_via (S' := s₁.setTop (mkF m 1 #[.val (.ref a1), .val (.int (3 : Int32)), .val (.int (0 : Int32)), .val (.int (16 : Int32))] [(.ref a1)])) (fun t k => ?_) ?_
  · show Steps p.tables e below (s₁.setTop (mkF m 0 #[.val (.ref a1), .val (.int (3 : Int32)), .val (.int (0 : Int32)), .val (.int (16 : Int32))] [])) t
    refine XS.aloadN X0.here hx rfl (hb hby d3_0) rfl rfl ?_
    exact k
  obtain ⟨T1, X1, e1, st1⟩ := initO X0 hx hZ hown (hw _ (List.mem_of_getElem? (i := 13) rfl)) (hw _ (List.mem_of_getElem? (i := 14) rfl)) (hw _ (List.mem_of_getElem? (i := 15) rfl)) e0 (g := (mkF m 1 #[.val (.ref a1), .val (.int (3 : Int32)), .val (.int (0 : Int32)), .val (.int (16 : Int32))] [(.ref a1)])) rfl (by rw [hml]; rfl) rfl (hb hby d3_1) (by decide) (W := 0) (by show 2 * 0 + _ ≤ _; exact Nat.le_of_eq rfl) (by decide)
  refine own_via st1 ?_
  show own_G p.tables e below _ (T1.setTop (mkF m 4 #[.val (.ref a1), .val (.int (3 : Int32)), .val (.int (0 : Int32)), .val (.int (16 : Int32))] []))
  refine own_via (S' := T1.setTop (mkF m 6 #[.val (.ref a1), .val (.int (3 : Int32)), .val (.int (0 : Int32)), .val (.int (16 : Int32))] [(.int (3 : Int32)), (.ref a1)])) (fun t k => ?_) ?_
  · show Steps p.tables e below (T1.setTop (mkF m 4 #[.val (.ref a1), .val (.int (3 : Int32)), .val (.int (0 : Int32)), .val (.int (16 : Int32))] [])) t
    refine XS.aloadN X1.here hx rfl (hb hby d3_4) rfl rfl ?_
    show Steps p.tables e below (T1.setTop (mkF m 5 #[.val (.ref a1), .val (.int (3 : Int32)), .val (.int (0 : Int32)), .val (.int (16 : Int32))] [(.ref a1)])) t
    refine XS.iloadN X1.here hx rfl (hb hby d3_5) rfl ?_
    exact k
  obtain ⟨T2, h2, k2, X2, e2, E2, A2, st2⟩ := newP X1 hx hZ (hw _ (List.mem_of_getElem? (i := 16) rfl)) e1 (g := (mkF m 6 #[.val (.ref a1), .val (.int (3 : Int32)), .val (.int (0 : Int32)), .val (.int (16 : Int32))] [(.int (3 : Int32)), (.ref a1)])) rfl (hb hby d3_6) rfl (by decide) (cap := 3) (by decide) (by decide) (by decide) (by decide)
  obtain ⟨b2, g2⟩ : ∃ z, z = h0.size := ⟨_, rfl⟩
  have ne_a1_b2 : a1 ≠ b2 := Nat.ne_of_lt (Nat.lt_of_lt_of_le (E_a1).lt (Nat.le_of_eq g2.symm))
  have g_b2 : n0 ≤ b2 := Nat.le_trans (Nat.le_trans Z0 K0.1) (Nat.le_of_eq g2.symm)
  have sz_b2 : h0.size ≤ b2 := Nat.le_trans K0.1 (Nat.le_of_eq g2.symm)
  rw [← g2] at A2 st2
  have K2 : Keep h0 h2 [a1] := Keep.ext K0 E2
  have V_b2 : own_Ar Z h2 b2 k2 .int (3 : Int32) (List.map Value.int (List.replicate ((3 : Int32)).toNatClampNeg (0 : Int32))) (.int (0 : Int32)) := own_Ar.newI A2 (by decide)
  refine own_via st2 ?_
  show own_G p.tables e below _ (T2.setTop (mkF m 8 #[.val (.ref a1), .val (.int (3 : Int32)), .val (.int (0 : Int32)), .val (.int (16 : Int32))] [(.ref b2), (.ref a1)]))
  have c3 := (Fld.ext E2 F0_0)
  have c4 := (Exa.ext E2 E_a1)
  obtain ⟨T5, h5, X5, e5, W5, st5⟩ := putF X2 hx hZ hown (host := "") (Or.inl (hw _ (List.mem_of_getElem? (i := 17) rfl))) Via.refl e2 c3 c4 (Or.inr ⟨(hw _ (List.mem_of_getElem? (i := 18) rfl)), rfl, hnm⟩) (hw _ (List.mem_of_getElem? (i := 1) rfl)) (ty := (.array .int)) (by decide) rfl rfl (g := (mkF m 8 #[.val (.ref a1), .val (.int (3 : Int32)), .val (.int (0 : Int32)), .val (.int (16 : Int32))] [(.ref b2), (.ref a1)])) rfl rfl (hb hby d3_8)
  have F5 := Fld.same W5 c3
  have K6 : Keep h0 h5 [a1] := Keep.wr K2 W5 (Or.inl (List.mem_of_getElem? (i := 0) rfl))
  have N6 := Fr.snoc X5 N0 g_a1
  refine own_via st5 ?_
  show own_G p.tables e below _ (T5.setTop (mkF m 11 #[.val (.ref a1), .val (.int (3 : Int32)), .val (.int (0 : Int32)), .val (.int (16 : Int32))] []))
  refine own_via (S' := T5.setTop (mkF m 12 #[.val (.ref a1), .val (.int (3 : Int32)), .val (.int (0 : Int32)), .val (.int (16 : Int32))] [(.ref a1)])) (fun t k => ?_) ?_
  · show Steps p.tables e below (T5.setTop (mkF m 11 #[.val (.ref a1), .val (.int (3 : Int32)), .val (.int (0 : Int32)), .val (.int (16 : Int32))] [])) t
    refine XS.aloadN X5.here hx rfl (hb hby d3_11) rfl rfl ?_
    exact k
  obtain ⟨T7, X7, e7, st7⟩ := getF X5 hx hZ hown (host := "") (Or.inl (hw _ (List.mem_of_getElem? (i := 17) rfl))) Via.refl e5 F5 (g := (mkF m 12 #[.val (.ref a1), .val (.int (3 : Int32)), .val (.int (0 : Int32)), .val (.int (16 : Int32))] [(.ref a1)])) rfl rfl (hb hby d3_12)
  refine own_via st7 ?_
  show own_G p.tables e below _ (T7.setTop (mkF m 15 #[.val (.ref a1), .val (.int (3 : Int32)), .val (.int (0 : Int32)), .val (.int (16 : Int32))] [(.ref b2)]))
  refine own_via (S' := T7.setTop (mkF m 16 #[.val (.ref a1), .val (.int (3 : Int32)), .val (.int (0 : Int32)), .val (.int (16 : Int32))] [(.int (-1 : Int32)), (.ref b2)])) (fun t k => ?_) ?_
  · show Steps p.tables e below (T7.setTop (mkF m 15 #[.val (.ref a1), .val (.int (3 : Int32)), .val (.int (0 : Int32)), .val (.int (16 : Int32))] [(.ref b2)])) t
    refine XS.iconst X7.here hx rfl (hb hby d3_15) ?_
    exact k
  have c8 := (own_Ar.other V_b2 W5 (Ne.symm ne_a1_b2))
  obtain ⟨_, _, ⟨T9, L9, k9, n9⟩, -, X9, ⟨Lc9, hQ9, l9, y9, z9⟩, st9⟩ := Jvm.LawKit.callS X7 hx (y := (⟨"java/util/Arrays", "fill", "([II)V"⟩ : MethodName)) hown (mvT hZ (hw _ (List.mem_of_getElem? (i := 19) rfl))) (mvT hZ (hw _ (List.mem_of_getElem? (i := 20) rfl))) (mvT hZ (hw _ (List.mem_of_getElem? (i := 21) rfl))) (mvT hZ (hw _ (List.mem_of_getElem? (i := 22) rfl))) (by decide) (backOf (W := 0) (rm5 l Z a0 hw [] b2 (-1 : Int32) k2 (3 : Int32) (List.replicate ((3 : Int32)).toNatClampNeg (0 : Int32)) h5 n0 (Nat.le_trans Z0 K6.1) c8 g_b2) hZ (hw _ (List.mem_of_getElem? (i := 22) rfl)) (hw _ (List.mem_of_getElem? (i := 21) rfl)) (by decide) (by decide)) (g := (mkF m 16 #[.val (.ref a1), .val (.int (3 : Int32)), .val (.int (0 : Int32)), .val (.int (16 : Int32))] [(.int (-1 : Int32)), (.ref b2)])) rfl (by rw [hml]; rfl) (argsL := [(.ref b2), (.int (-1 : Int32))]) (rest := []) (lenOf pd_0 rfl) rfl (by show 2 * 0 + _ ≤ _; exact Nat.le_of_eq rfl) (hb hby d3_16) (fun _ _ => ⟨rfl, e7, (by decide : 1 + 0 ≤ _), (by decide : 3 + 0 ≤ _)⟩)
  dsimp only [Pt.U, Pt.locs, Pt.cells, Pt.slots] at X9 l9 y9 z9 st9 hQ9
  subst l9 y9 z9
  obtain ⟨rfl, Nq9, Kc9, Vc9⟩ := hQ9
  have N9 := Fr.app N6 Nq9
  refine own_via st9 ?_
  show own_G p.tables e below _ (T9.setTop (mkF m 19 #[.val (.ref a1), .val (.int (3 : Int32)), .val (.int (0 : Int32)), .val (.int (16 : Int32))] []))
  have K9 : Keep h0 T9.heap [a1] := Keep.trans K6 Kc9 (allS (Or.inr sz_b2) all0)
  refine own_via (S' := T9.setTop (mkF m 21 #[.val (.ref a1), .val (.int (3 : Int32)), .val (.int (0 : Int32)), .val (.int (16 : Int32))] [(.int (16 : Int32)), (.ref a1)])) (fun t k => ?_) ?_
  · show Steps p.tables e below (T9.setTop (mkF m 19 #[.val (.ref a1), .val (.int (3 : Int32)), .val (.int (0 : Int32)), .val (.int (16 : Int32))] [])) t
    refine XS.aloadN X9.here hx rfl (hb hby d3_19) rfl rfl ?_
    show Steps p.tables e below (T9.setTop (mkF m 20 #[.val (.ref a1), .val (.int (3 : Int32)), .val (.int (0 : Int32)), .val (.int (16 : Int32))] [(.ref a1)])) t
    refine XS.iloadN X9.here hx rfl (hb hby d3_20) rfl ?_
    exact k
  obtain ⟨T10, h10, k10, X10, e10, E10, A10, st10⟩ := newP X9 hx hZ (hw _ (List.mem_of_getElem? (i := 16) rfl)) rfl (g := (mkF m 21 #[.val (.ref a1), .val (.int (3 : Int32)), .val (.int (0 : Int32)), .val (.int (16 : Int32))] [(.int (16 : Int32)), (.ref a1)])) rfl (hb hby d3_21) rfl (by decide) (cap := 16) (by decide) (by decide) (by decide) (by decide)
  have c11 := (Exa.keep (Exa.wr W5 c4) Kc9)
  obtain ⟨b10, g10⟩ : ∃ z, z = T9.heap.size := ⟨_, rfl⟩
  have ne_a1_b10 : a1 ≠ b10 := Nat.ne_of_lt (Nat.lt_of_lt_of_le (c11).lt (Nat.le_of_eq g10.symm))
  have ne_b2_b10 : b2 ≠ b10 := Nat.ne_of_lt (Nat.lt_of_lt_of_le (Vc9).lt (Nat.le_of_eq g10.symm))
  have g_b10 : n0 ≤ b10 := Nat.le_trans (Nat.le_trans Z0 K9.1) (Nat.le_of_eq g10.symm)
  have sz_b10 : h0.size ≤ b10 := Nat.le_trans K9.1 (Nat.le_of_eq g10.symm)
  rw [← g10] at A10 st10
  have K10 : Keep h0 h10 [a1] := Keep.ext K9 E10
  have V_b10 : own_Ar Z h10 b10 k10 .int (16 : Int32) (List.map Value.int (List.replicate ((16 : Int32)).toNatClampNeg (0 : Int32))) (.int (0 : Int32)) := own_Ar.newI A10 (by decide)
  refine own_via st10 ?_
  show own_G p.tables e below _ (T10.setTop (mkF m 23 #[.val (.ref a1), .val (.int (3 : Int32)), .val (.int (0 : Int32)), .val (.int (16 : Int32))] [(.ref b10), (.ref a1)]))
  have c12 := (Fld.ext E10 (Fld.keep (Fld.other W5 (Fld.ext E2 F1_0) (Or.inr (slot_ne (Or.inl (hw _ (List.mem_of_getElem? (i := 24) rfl))) (Or.inr (hw _ (List.mem_of_getElem? (i := 18) rfl))) (by decide) (t := (.array .int)) (t' := (.array .int)) (by decide) (by decide)))) Kc9 (ninS ne_a1_b2 nin0)))
  have c13 := (Exa.ext E10 c11)
  obtain ⟨T14, h14, X14, e14, W14, st14⟩ := putF X10 hx hZ hown (host := "") (Or.inl (hw _ (List.mem_of_getElem? (i := 23) rfl))) Via.refl e10 c12 c13 (Or.inl (hw _ (List.mem_of_getElem? (i := 24) rfl))) (hw _ (List.mem_of_getElem? (i := 1) rfl)) (ty := (.array .int)) (by decide) rfl rfl (g := (mkF m 23 #[.val (.ref a1), .val (.int (3 : Int32)), .val (.int (0 : Int32)), .val (.int (16 : Int32))] [(.ref b10), (.ref a1)])) rfl rfl (hb hby d3_23)
  have F14 := Fld.same W14 c12
  have K15 : Keep h0 h14 [a1] := Keep.wr K10 W14 (Or.inl (List.mem_of_getElem? (i := 0) rfl))
  have N15 := Fr.snoc X14 N9 g_a1
  refine own_via st14 ?_
  show own_G p.tables e below _ (T14.setTop (mkF m 26 #[.val (.ref a1), .val (.int (3 : Int32)), .val (.int (0 : Int32)), .val (.int (16 : Int32))] []))
  refine own_via (S' := T14.setTop (mkF m 28 #[.val (.ref a1), .val (.int (3 : Int32)), .val (.int (0 : Int32)), .val (.int (16 : Int32))] [(.int (16 : Int32)), (.ref a1)])) (fun t k => ?_) ?_
  · show Steps p.tables e below (T14.setTop (mkF m 26 #[.val (.ref a1), .val (.int (3 : Int32)), .val (.int (0 : Int32)), .val (.int (16 : Int32))] [])) t
    refine XS.aloadN X14.here hx rfl (hb hby d3_26) rfl rfl ?_
    show Steps p.tables e below (T14.setTop (mkF m 27 #[.val (.ref a1), .val (.int (3 : Int32)), .val (.int (0 : Int32)), .val (.int (16 : Int32))] [(.ref a1)])) t
    refine XS.iloadN X14.here hx rfl (hb hby d3_27) rfl ?_
    exact k
  obtain ⟨T16, h16, k16, X16, e16, E16, A16, st16⟩ := newP X14 hx hZ (hw _ (List.mem_of_getElem? (i := 16) rfl)) e14 (g := (mkF m 28 #[.val (.ref a1), .val (.int (3 : Int32)), .val (.int (0 : Int32)), .val (.int (16 : Int32))] [(.int (16 : Int32)), (.ref a1)])) rfl (hb hby d3_28) rfl (by decide) (cap := 16) (by decide) (by decide) (by decide) (by decide)
  have c17 := (Exa.wr W14 c13)
  have c18 := (own_Ar.other (own_Ar.ext Vc9 E10) W14 (Ne.symm ne_a1_b2))
  have c19 := (own_Ar.other V_b10 W14 (Ne.symm ne_a1_b10))
  obtain ⟨b16, g16⟩ : ∃ z, z = h14.size := ⟨_, rfl⟩
  have ne_a1_b16 : a1 ≠ b16 := Nat.ne_of_lt (Nat.lt_of_lt_of_le (c17).lt (Nat.le_of_eq g16.symm))
  have ne_b2_b16 : b2 ≠ b16 := Nat.ne_of_lt (Nat.lt_of_lt_of_le (c18).lt (Nat.le_of_eq g16.symm))
  have ne_b10_b16 : b10 ≠ b16 := Nat.ne_of_lt (Nat.lt_of_lt_of_le (c19).lt (Nat.le_of_eq g16.symm))
  have g_b16 : n0 ≤ b16 := Nat.le_trans (Nat.le_trans Z0 K15.1) (Nat.le_of_eq g16.symm)
  have sz_b16 : h0.size ≤ b16 := Nat.le_trans K15.1 (Nat.le_of_eq g16.symm)
  rw [← g16] at A16 st16
  have K16 : Keep h0 h16 [a1] := Keep.ext K15 E16
  have V_b16 : own_Ar Z h16 b16 k16 .int (16 : Int32) (List.map Value.int (List.replicate ((16 : Int32)).toNatClampNeg (0 : Int32))) (.int (0 : Int32)) := own_Ar.newI A16 (by decide)
  refine own_via st16 ?_
  show own_G p.tables e below _ (T16.setTop (mkF m 30 #[.val (.ref a1), .val (.int (3 : Int32)), .val (.int (0 : Int32)), .val (.int (16 : Int32))] [(.ref b16), (.ref a1)]))
  have c20 := (Fld.ext E16 (Fld.other W14 (Fld.ext E10 (Fld.keep (Fld.other W5 (Fld.ext E2 F4_0) (Or.inr (slot_ne (Or.inl (hw _ (List.mem_of_getElem? (i := 26) rfl))) (Or.inr (hw _ (List.mem_of_getElem? (i := 18) rfl))) (by decide) (t := (.array .int)) (t' := (.array .int)) (by decide) (by decide)))) Kc9 (ninS ne_a1_b2 nin0))) (Or.inr (slot_ne (Or.inl (hw _ (List.mem_of_getElem? (i := 26) rfl))) (Or.inl (hw _ (List.mem_of_getElem? (i := 24) rfl))) (by decide) (t := (.array .int)) (t' := (.array .int)) (by decide) (by decide)))))
  have c21 := (Exa.ext E16 c17)
  obtain ⟨T22, h22, X22, e22, W22, st22⟩ := putF X16 hx hZ hown (host := "") (Or.inl (hw _ (List.mem_of_getElem? (i := 25) rfl))) Via.refl e16 c20 c21 (Or.inl (hw _ (List.mem_of_getElem? (i := 26) rfl))) (hw _ (List.mem_of_getElem? (i := 1) rfl)) (ty := (.array .int)) (by decide) rfl rfl (g := (mkF m 30 #[.val (.ref a1), .val (.int (3 : Int32)), .val (.int (0 : Int32)), .val (.int (16 : Int32))] [(.ref b16), (.ref a1)])) rfl rfl (hb hby d3_30)
  have F22 := Fld.same W22 c20
  have K23 : Keep h0 h22 [a1] := Keep.wr K16 W22 (Or.inl (List.mem_of_getElem? (i := 0) rfl))
  have N23 := Fr.snoc X22 N15 g_a1
  refine own_via st22 ?_
  show own_G p.tables e below _ (T22.setTop (mkF m 33 #[.val (.ref a1), .val (.int (3 : Int32)), .val (.int (0 : Int32)), .val (.int (16 : Int32))] []))
  refine own_via (S' := T22.setTop (mkF m 35 #[.val (.ref a1), .val (.int (3 : Int32)), .val (.int (0 : Int32)), .val (.int (16 : Int32))] [(.int (16 : Int32)), (.ref a1)])) (fun t k => ?_) ?_
  · show Steps p.tables e below (T22.setTop (mkF m 33 #[.val (.ref a1), .val (.int (3 : Int32)), .val (.int (0 : Int32)), .val (.int (16 : Int32))] [])) t
    refine XS.aloadN X22.here hx rfl (hb hby d3_33) rfl rfl ?_
    show Steps p.tables e below (T22.setTop (mkF m 34 #[.val (.ref a1), .val (.int (3 : Int32)), .val (.int (0 : Int32)), .val (.int (16 : Int32))] [(.ref a1)])) t
    refine XS.iloadN X22.here hx rfl (hb hby d3_34) rfl ?_
    exact k
  obtain ⟨T24, h24, k24, X24, e24, E24, A24, st24⟩ := newP X22 hx hZ (hw _ (List.mem_of_getElem? (i := 16) rfl)) e22 (g := (mkF m 35 #[.val (.ref a1), .val (.int (3 : Int32)), .val (.int (0 : Int32)), .val (.int (16 : Int32))] [(.int (16 : Int32)), (.ref a1)])) rfl (hb hby d3_35) rfl (by decide) (cap := 16) (by decide) (by decide) (by decide) (by decide)
  have c25 := (Exa.wr W22 c21)
  have c26 := (own_Ar.other (own_Ar.ext c18 E16) W22 (Ne.symm ne_a1_b2))
  have c27 := (own_Ar.other (own_Ar.ext c19 E16) W22 (Ne.symm ne_a1_b10))
  have c28 := (own_Ar.other V_b16 W22 (Ne.symm ne_a1_b16))
  obtain ⟨b24, g24⟩ : ∃ z, z = h22.size := ⟨_, rfl⟩
  have ne_a1_b24 : a1 ≠ b24 := Nat.ne_of_lt (Nat.lt_of_lt_of_le (c25).lt (Nat.le_of_eq g24.symm))
  have ne_b2_b24 : b2 ≠ b24 := Nat.ne_of_lt (Nat.lt_of_lt_of_le (c26).lt (Nat.le_of_eq g24.symm))
  have ne_b10_b24 : b10 ≠ b24 := Nat.ne_of_lt (Nat.lt_of_lt_of_le (c27).lt (Nat.le_of_eq g24.symm))
  have ne_b16_b24 : b16 ≠ b24 := Nat.ne_of_lt (Nat.lt_of_lt_of_le (c28).lt (Nat.le_of_eq g24.symm))
  have g_b24 : n0 ≤ b24 := Nat.le_trans (Nat.le_trans Z0 K23.1) (Nat.le_of_eq g24.symm)
  have sz_b24 : h0.size ≤ b24 := Nat.le_trans K23.1 (Nat.le_of_eq g24.symm)
  rw [← g24] at A24 st24
  have K24 : Keep h0 h24 [a1] := Keep.ext K23 E24
  have V_b24 : own_Ar Z h24 b24 k24 .int (16 : Int32) (List.map Value.int (List.replicate ((16 : Int32)).toNatClampNeg (0 : Int32))) (.int (0 : Int32)) := own_Ar.newI A24 (by decide)
  refine own_via st24 ?_
  show own_G p.tables e below _ (T24.setTop (mkF m 37 #[.val (.ref a1), .val (.int (3 : Int32)), .val (.int (0 : Int32)), .val (.int (16 : Int32))] [(.ref b24), (.ref a1)]))
  have c29 := (Fld.ext E24 (Fld.other W22 (Fld.ext E16 (Fld.other W14 (Fld.ext E10 (Fld.keep (Fld.other W5 (Fld.ext E2 F5_0) (Or.inr (slot_ne (Or.inl (hw _ (List.mem_of_getElem? (i := 28) rfl))) (Or.inr (hw _ (List.mem_of_getElem? (i := 18) rfl))) (by decide) (t := (.array .int)) (t' := (.array .int)) (by decide) (by decide)))) Kc9 (ninS ne_a1_b2 nin0))) (Or.inr (slot_ne (Or.inl (hw _ (List.mem_of_getElem? (i := 28) rfl))) (Or.inl (hw _ (List.mem_of_getElem? (i := 24) rfl))) (by decide) (t := (.array .int)) (t' := (.array .int)) (by decide) (by decide))))) (Or.inr (slot_ne (Or.inl (hw _ (List.mem_of_getElem? (i := 28) rfl))) (Or.inl (hw _ (List.mem_of_getElem? (i := 26) rfl))) (by decide) (t := (.array .int)) (t' := (.array .int)) (by decide) (by decide)))))
  have c30 := (Exa.ext E24 c25)
  obtain ⟨T31, h31, X31, e31, W31, st31⟩ := putF X24 hx hZ hown (host := "") (Or.inl (hw _ (List.mem_of_getElem? (i := 27) rfl))) Via.refl e24 c29 c30 (Or.inl (hw _ (List.mem_of_getElem? (i := 28) rfl))) (hw _ (List.mem_of_getElem? (i := 1) rfl)) (ty := (.array .int)) (by decide) rfl rfl (g := (mkF m 37 #[.val (.ref a1), .val (.int (3 : Int32)), .val (.int (0 : Int32)), .val (.int (16 : Int32))] [(.ref b24), (.ref a1)])) rfl rfl (hb hby d3_37)
  have F31 := Fld.same W31 c29
  have K32 : Keep h0 h31 [a1] := Keep.wr K24 W31 (Or.inl (List.mem_of_getElem? (i := 0) rfl))
  have N32 := Fr.snoc X31 N23 g_a1
  refine own_via st31 ?_
  show own_G p.tables e below _ (T31.setTop (mkF m 40 #[.val (.ref a1), .val (.int (3 : Int32)), .val (.int (0 : Int32)), .val (.int (16 : Int32))] []))
  refine own_via (S' := T31.setTop (mkF m 41 #[.val (.ref a1), .val (.int (3 : Int32)), .val (.int (0 : Int32)), .val (.int (16 : Int32))] [(.int (0 : Int32))])) (fun t k => ?_) ?_
  · show Steps p.tables e below (T31.setTop (mkF m 40 #[.val (.ref a1), .val (.int (3 : Int32)), .val (.int (0 : Int32)), .val (.int (16 : Int32))] [])) t
    refine XS.iloadN X31.here hx rfl (hb hby d3_40) rfl ?_
    exact k
  refine own_via (S' := T31.setTop (mkF m 73 #[.val (.ref a1), .val (.int (3 : Int32)), .val (.int (0 : Int32)), .val (.int (16 : Int32))] [])) (fun t k => XS.ifYes (g := (mkF m 41 #[.val (.ref a1), .val (.int (3 : Int32)), .val (.int (0 : Int32)), .val (.int (16 : Int32))] [(.int (0 : Int32))])) X31.here hx rfl (pc0 := 41) (pc' := 73) rfl (hb hby d3_41) rfl ((if0 _ _).trans (teq (by decide : (0 : Int32) = (0 : Int32))).1) (by decide) (by decide) k) ?_
  refine own_via (S' := T31.setTop (mkF m 75 #[.val (.ref a1), .val (.int (3 : Int32)), .val (.int (0 : Int32)), .val (.int (16 : Int32))] [.null, (.ref a1)])) (fun t k => ?_) ?_
  · show Steps p.tables e below (T31.setTop (mkF m 73 #[.val (.ref a1), .val (.int (3 : Int32)), .val (.int (0 : Int32)), .val (.int (16 : Int32))] [])) t
    refine XS.aloadN X31.here hx rfl (hb hby d3_73) rfl rfl ?_
    show Steps p.tables e below (T31.setTop (mkF m 74 #[.val (.ref a1), .val (.int (3 : Int32)), .val (.int (0 : Int32)), .val (.int (16 : Int32))] [(.ref a1)])) t
    refine XS.aconstNull X31.here hx rfl (hb hby d3_74) ?_
    exact k
  have c34 := (Fld.other W31 (Fld.ext E24 (Fld.other W22 (Fld.ext E16 (Fld.other W14 (Fld.ext E10 (Fld.keep (Fld.other W5 (Fld.ext E2 F2_0) (Or.inr (slot_ne (Or.inr (hw _ (List.mem_of_getElem? (i := 30) rfl))) (Or.inr (hw _ (List.mem_of_getElem? (i := 18) rfl))) (by decide) (t := (.array .int)) (t' := (.array .int)) (by decide) (by decide)))) Kc9 (ninS ne_a1_b2 nin0))) (Or.inr (slot_ne (Or.inr (hw _ (List.mem_of_getElem? (i := 30) rfl))) (Or.inl (hw _ (List.mem_of_getElem? (i := 24) rfl))) (by decide) (t := (.array .int)) (t' := (.array .int)) (by decide) (by decide))))) (Or.inr (slot_ne (Or.inr (hw _ (List.mem_of_getElem? (i := 30) rfl))) (Or.inl (hw _ (List.mem_of_getElem? (i := 26) rfl))) (by decide) (t := (.array .int)) (t' := (.array .int)) (by decide) (by decide))))) (Or.inr (slot_ne (Or.inr (hw _ (List.mem_of_getElem? (i := 30) rfl))) (Or.inl (hw _ (List.mem_of_getElem? (i := 28) rfl))) (by decide) (t := (.array .int)) (t' := (.array .int)) (by decide) (by decide))))
  have c35 := (Exa.wr W31 c30)
  obtain ⟨T36, h36, X36, e36, W36, st36⟩ := putF X31 hx hZ hown (host := "") (Or.inl (hw _ (List.mem_of_getElem? (i := 29) rfl))) Via.refl e31 c34 c35 (Or.inr ⟨(hw _ (List.mem_of_getElem? (i := 30) rfl)), rfl, hnm⟩) (hw _ (List.mem_of_getElem? (i := 1) rfl)) (ty := (.array .int)) (by decide) rfl rfl (g := (mkF m 75 #[.val (.ref a1), .val (.int (3 : Int32)), .val (.int (0 : Int32)), .val (.int (16 : Int32))] [.null, (.ref a1)])) rfl rfl (hb hby d3_75)
  have F36 := Fld.same W36 c34
  have K37 : Keep h0 h36 [a1] := Keep.wr K32 W36 (Or.inl (List.mem_of_getElem? (i := 0) rfl))
  have N37 := Fr.snoc X36 N32 g_a1
  refine own_via st36 ?_
  show own_G p.tables e below _ (T36.setTop (mkF m 78 #[.val (.ref a1), .val (.int (3 : Int32)), .val (.int (0 : Int32)), .val (.int (16 : Int32))] []))
  have c38 := (Exa.wr W36 c35)
  have c39 := (Fld.other W36 (Fld.other W31 (Fld.ext E24 (Fld.other W22 (Fld.ext E16 (Fld.other W14 (Fld.ext E10 (Fld.keep F5 Kc9 (ninS ne_a1_b2 nin0))) (Or.inr (slot_ne (Or.inr (hw _ (List.mem_of_getElem? (i := 18) rfl))) (Or.inl (hw _ (List.mem_of_getElem? (i := 24) rfl))) (by decide) (t := (.array .int)) (t' := (.array .int)) (by decide) (by decide))))) (Or.inr (slot_ne (Or.inr (hw _ (List.mem_of_getElem? (i := 18) rfl))) (Or.inl (hw _ (List.mem_of_getElem? (i := 26) rfl))) (by decide) (t := (.array .int)) (t' := (.array .int)) (by decide) (by decide))))) (Or.inr (slot_ne (Or.inr (hw _ (List.mem_of_getElem? (i := 18) rfl))) (Or.inl (hw _ (List.mem_of_getElem? (i := 28) rfl))) (by decide) (t := (.array .int)) (t' := (.array .int)) (by decide) (by decide)))) (Or.inr (slot_ne (Or.inr (hw _ (List.mem_of_getElem? (i := 18) rfl))) (Or.inr (hw _ (List.mem_of_getElem? (i := 30) rfl))) (by decide) (t := (.array .int)) (t' := (.array .int)) (by decide) (by decide))))
  have c40 := (Fld.other W36 (Fld.other W31 (Fld.ext E24 (Fld.other W22 (Fld.ext E16 F14) (Or.inr (slot_ne (Or.inl (hw _ (List.mem_of_getElem? (i := 24) rfl))) (Or.inl (hw _ (List.mem_of_getElem? (i := 26) rfl))) (by decide) (t := (.array .int)) (t' := (.array .int)) (by decide) (by decide))))) (Or.inr (slot_ne (Or.inl (hw _ (List.mem_of_getElem? (i := 24) rfl))) (Or.inl (hw _ (List.mem_of_getElem? (i := 28) rfl))) (by decide) (t := (.array .int)) (t' := (.array .int)) (by decide) (by decide)))) (Or.inr (slot_ne (Or.inl (hw _ (List.mem_of_getElem? (i := 24) rfl))) (Or.inr (hw _ (List.mem_of_getElem? (i := 30) rfl))) (by decide) (t := (.array .int)) (t' := (.array .int)) (by decide) (by decide))))
  have c41 := (Fld.other W36 (Fld.other W31 (Fld.ext E24 F22) (Or.inr (slot_ne (Or.inl (hw _ (List.mem_of_getElem? (i := 26) rfl))) (Or.inl (hw _ (List.mem_of_getElem? (i := 28) rfl))) (by decide) (t := (.array .int)) (t' := (.array .int)) (by decide) (by decide)))) (Or.inr (slot_ne (Or.inl (hw _ (List.mem_of_getElem? (i := 26) rfl))) (Or.inr (hw _ (List.mem_of_getElem? (i := 30) rfl))) (by decide) (t := (.array .int)) (t' := (.array .int)) (by decide) (by decide))))
  have c42 := (Fld.other W36 F31 (Or.inr (slot_ne (Or.inl (hw _ (List.mem_of_getElem? (i := 28) rfl))) (Or.inr (hw _ (List.mem_of_getElem? (i := 30) rfl))) (by decide) (t := (.array .int)) (t' := (.array .int)) (by decide) (by decide))))
  have c43 := (Fld.other W36 (Fld.other W31 (Fld.ext E24 (Fld.other W22 (Fld.ext E16 (Fld.other W14 (Fld.ext E10 (Fld.keep (Fld.other W5 (Fld.ext E2 F6_0) (Or.inr (slot_ne (Or.inl (hw _ (List.mem_of_getElem? (i := 37) rfl))) (Or.inr (hw _ (List.mem_of_getElem? (i := 18) rfl))) (by decide) (t := .int) (t' := (.array .int)) (by decide) (by decide)))) Kc9 (ninS ne_a1_b2 nin0))) (Or.inr (slot_ne (Or.inl (hw _ (List.mem_of_getElem? (i := 37) rfl))) (Or.inl (hw _ (List.mem_of_getElem? (i := 24) rfl))) (by decide) (t := .int) (t' := (.array .int)) (by decide) (by decide))))) (Or.inr (slot_ne (Or.inl (hw _ (List.mem_of_getElem? (i := 37) rfl))) (Or.inl (hw _ (List.mem_of_getElem? (i := 26) rfl))) (by decide) (t := .int) (t' := (.array .int)) (by decide) (by decide))))) (Or.inr (slot_ne (Or.inl (hw _ (List.mem_of_getElem? (i := 37) rfl))) (Or.inl (hw _ (List.mem_of_getElem? (i := 28) rfl))) (by decide) (t := .int) (t' := (.array .int)) (by decide) (by decide)))) (Or.inr (slot_ne (Or.inl (hw _ (List.mem_of_getElem? (i := 37) rfl))) (Or.inr (hw _ (List.mem_of_getElem? (i := 30) rfl))) (by decide) (t := .int) (t' := (.array .int)) (by decide) (by decide))))
  have c44 := (Fld.other W36 (Fld.other W31 (Fld.ext E24 (Fld.other W22 (Fld.ext E16 (Fld.other W14 (Fld.ext E10 (Fld.keep (Fld.other W5 (Fld.ext E2 F3_0) (Or.inr (slot_ne (Or.inl (hw _ (List.mem_of_getElem? (i := 39) rfl))) (Or.inr (hw _ (List.mem_of_getElem? (i := 18) rfl))) (by decide) (t := (.array .int)) (t' := (.array .int)) (by decide) (by decide)))) Kc9 (ninS ne_a1_b2 nin0))) (Or.inr (slot_ne (Or.inl (hw _ (List.mem_of_getElem? (i := 39) rfl))) (Or.inl (hw _ (List.mem_of_getElem? (i := 24) rfl))) (by decide) (t := (.array .int)) (t' := (.array .int)) (by decide) (by decide))))) (Or.inr (slot_ne (Or.inl (hw _ (List.mem_of_getElem? (i := 39) rfl))) (Or.inl (hw _ (List.mem_of_getElem? (i := 26) rfl))) (by decide) (t := (.array .int)) (t' := (.array .int)) (by decide) (by decide))))) (Or.inr (slot_ne (Or.inl (hw _ (List.mem_of_getElem? (i := 39) rfl))) (Or.inl (hw _ (List.mem_of_getElem? (i := 28) rfl))) (by decide) (t := (.array .int)) (t' := (.array .int)) (by decide) (by decide)))) (Or.inr (slot_ne (Or.inl (hw _ (List.mem_of_getElem? (i := 39) rfl))) (Or.inr (hw _ (List.mem_of_getElem? (i := 30) rfl))) (by decide) (t := (.array .int)) (t' := (.array .int)) (by decide) (by decide))))
  have c45 := (own_Ar.other (own_Ar.other (own_Ar.ext c26 E24) W31 (Ne.symm ne_a1_b2)) W36 (Ne.symm ne_a1_b2))
  have c46 := (own_Ar.other (own_Ar.other (own_Ar.ext c27 E24) W31 (Ne.symm ne_a1_b10)) W36 (Ne.symm ne_a1_b10))
  have c47 := (own_Ar.other (own_Ar.other (own_Ar.ext c28 E24) W31 (Ne.symm ne_a1_b16)) W36 (Ne.symm ne_a1_b16))
  have c48 := (own_Ar.other (own_Ar.other V_b24 W31 (Ne.symm ne_a1_b24)) W36 (Ne.symm ne_a1_b24))
  exact own_end (h := h36) X36 (v := none) Bd.notSynchronized (fun _ => rfl) (fun fs hr => X36.returnOut hx Bd.returns (hb hby d3_78) hr) e36 ⟨rfl, N37, K37, b2, b10, b16, b24, k2, k10, k16, k24, g_b2, g_b10, g_b16, g_b24, sz_b2, sz_b10, sz_b16, sz_b24, ne_a1_b2, ne_a1_b10, ne_a1_b16, ne_a1_b24, ne_b2_b10, ne_b2_b16, ne_b2_b24, ne_b10_b16, ne_b10_b24, ne_b16_b24, ⟨c38, c39, c40, c41, c42, c43, F36, c44, c45, c46, c47, c48⟩⟩ (by decide) (by decide)
theorem d3_44 : decode prog_26_method_2_code 44 = .ok (.aload_n 0, 1) := by decide +kernel
theorem d3_45 : decode prog_26_method_2_code 45 = .ok (.iload_n 1, 1) := by decide +kernel
theorem d3_46 : decode prog_26_method_2_code 46 = .ok (.newarray .int, 2) := by decide +kernel
theorem d3_48 : decode prog_26_method_2_code 48 = .ok (.putfield 37, 3) := by decide +kernel
theorem d3_51 : decode prog_26_method_2_code 51 = .ok (.aload_n 0, 1) := by decide +kernel
theorem d3_52 : decode prog_26_method_2_code 52 = .ok (.getfield 37, 3) := by decide +kernel
theorem d3_55 : decode prog_26_method_2_code 55 = .ok (.iconst (-1), 1) := by decide +kernel
theorem d3_56 : decode prog_26_method_2_code 56 = .ok (.invokestatic 22, 3) := by decide +kernel
theorem d3_59 : decode prog_26_method_2_code 59 = .ok (.aload_n 0, 1) := by decide +kernel
theorem d3_60 : decode prog_26_method_2_code 60 = .ok (.aload_n 0, 1) := by decide +kernel
theorem d3_61 : decode prog_26_method_2_code 61 = .ok (.getfield 28, 3) := by decide +kernel
theorem d3_64 : decode prog_26_method_2_code 64 = .ok (.arraylength, 1) := by decide +kernel
theorem d3_65 : decode prog_26_method_2_code 65 = .ok (.newarray .int, 2) := by decide +kernel
theorem d3_67 : decode prog_26_method_2_code 67 = .ok (.putfield 40, 3) := by decide +kernel
theorem d3_70 : decode prog_26_method_2_code 70 = .ok (.goto 8, 3) := by decide +kernel
def Q3i (Z : State) (a1 : Addr) (h0 : Heap) (n0 : Nat) (v : Option Value) (h : Heap) (L : List Loc) : Prop := v = none ∧ Fr n0 L ∧ Keep h0 h [a1] ∧ ∃ (b0 b1 b2 b3 b4 b5 : Addr) (k0 k1 k2 k3 k4 k5 : ClassId), n0 ≤ b0 ∧ n0 ≤ b1 ∧ n0 ≤ b2 ∧ n0 ≤ b3 ∧ n0 ≤ b4 ∧ n0 ≤ b5 ∧ h0.size ≤ b0 ∧ h0.size ≤ b1 ∧ h0.size ≤ b2 ∧ h0.size ≤ b3 ∧ h0.size ≤ b4 ∧ h0.size ≤ b5 ∧ a1 ≠ b0 ∧ a1 ≠ b1 ∧ a1 ≠ b2 ∧ a1 ≠ b3 ∧ a1 ≠ b4 ∧ a1 ≠ b5 ∧ b0 ≠ b1 ∧ b0 ≠ b2 ∧ b0 ≠ b3 ∧ b0 ≠ b4 ∧ b0 ≠ b5 ∧ b1 ≠ b2 ∧ b1 ≠ b3 ∧ b1 ≠ b4 ∧ b1 ≠ b5 ∧ b2 ≠ b3 ∧ b2 ≠ b4 ∧ b2 ≠ b5 ∧ b3 ≠ b4 ∧ b3 ≠ b5 ∧ b4 ≠ b5 ∧ own_Gi Z h a1 b0 b1 b2 b3 b4 b5 k0 k1 k2 k3 k4 k5 own_g0i
set_option maxRecDepth 65536 in
set_option maxHeartbeats 40000000 in
theorem rm3i (l : Launch) (Z : State) (a0 : Array Value) (hw : ∀ d ∈ tables_1, d.before a0 Z = true) (ws : List Jvm.Cond) (a1 : Addr) (h0 : Heap) (n0 : Nat) (Z0 : n0 ≤ h0.size) (F0_0 : Fld Z h0 a1 "com/example/fenceline/fenceline/Digraph" "first" "[I" .null) (F1_0 : Fld Z h0 a1 "com/example/fenceline/fenceline/Digraph" "next" "[I" .null) (F2_0 : Fld Z h0 a1 "com/example/fenceline/fenceline/Digraph" "firstIn" "[I" .null) (F3_0 : Fld Z h0 a1 "com/example/fenceline/fenceline/Digraph" "nextIn" "[I" .null) (F4_0 : Fld Z h0 a1 "com/example/fenceline/fenceline/Digraph" "tails" "[I" .null) (F5_0 : Fld Z h0 a1 "com/example/fenceline/fenceline/Digraph" "heads" "[I" .null) (F6_0 : Fld Z h0 a1 "com/example/fenceline/fenceline/Digraph" "edgeCount" "I" (.int (0 : Int32))) (E_a1 : Exa Z h0 a1 "com/example/fenceline/fenceline/Digraph") (g_a1 : n0 ≤ a1) :
    MetFree l (⟨"com/example/fenceline/fenceline/Digraph", "<init>", "(IZI)V"⟩ : MethodName) (head1 (Jvm.Cond.code (⟨"com/example/fenceline/fenceline/Digraph", "<init>", "(IZI)V"⟩ : MethodName) prog_26_method_2_code 4 none :: ws) ({ frames := 1, cells := 6, slots := 70, locals := 15 } : Room)) (fun a U => a = #[(.ref a1), (.int (3 : Int32)), (.int (1 : Int32)), (.int (16 : Int32))] ∧ Z.Warmed39 U.vm ∧ U.heap = h0) (fun _ _ _ _ _ => True) (fun _ U o U' => ∃ v L, o = .returned v ∧ Q3i Z a1 h0 n0 v U'.heap L ∧ FrameEnd U o U' L ({ frames := 1, cells := 6, slots := 70, locals := 15 } : Room).cells ({ frames := 1, cells := 6, slots := 70, locals := 15 } : Room).slots) := by
  refine MetFree.of_bodySF (plainFor_of_name pn3) hisR ?_
  intro p e s m args below meth c s₁ Bd hml0 hP hK
  obtain ⟨rfl, hZ, hh⟩ := hP
  have hx := Bd.exec
  have hby := Bd.bytes
  have hml : c.maxLocals = 4 := hml0
  have hown : s.vm.findClass "com/example/fenceline/fenceline/Digraph" = some m.cls := findClass_of_methodNamed Bd.named
  have hnm := (name_of_methodNamed Bd.named Bd.method).1
  have X0 : Stand p l e ({ frames := 1, cells := 6, slots := 70, locals := 15 } : Room) s m #[(.ref a1), (.int (3 : Int32)), (.int (1 : Int32)), (.int (16 : Int32))] below meth c s₁ [] 0 0 := Stand.of_body Bd
  have e0 : s₁.heap = h0 := by rw [← hh, Bd.state]; rfl
  have N0 := Fr.nil n0
  refine (show own_G p.tables e below (own_P s (Q3i Z a1 h0 n0) 6 70) (s₁.setTop (entryFrame m #[(.ref a1), (.int (3 : Int32)), (.int (1 : Int32)), (.int (16 : Int32))] 4)) from ?_)
  refine own_via (fun t k => castTop (ef3 m a1 (3 : Int32) (1 : Int32) (16 : Int32)) k) ?_
  show own_G p.tables e below _ (s₁.setTop (mkF m 0 #[.val (.ref a1), .val (.int (3 : Int32)), .val (.int (1 : Int32)), .val (.int (16 : Int32))] []))
  have K0 := Keep.refl h0 [a1]
  refine own_via (S' := s₁.setTop (mkF m 1 #[.val (.ref a1), .val (.int (3 : Int32)), .val (.int (1 : Int32)), .val (.int (16 : Int32))] [(.ref a1)])) (fun t k => ?_) ?_
  · show Steps p.tables e below (s₁.setTop (mkF m 0 #[.val (.ref a1), .val (.int (3 : Int32)), .val (.int (1 : Int32)), .val (.int (16 : Int32))] [])) t
    refine XS.aloadN X0.here hx rfl (hb hby d3_0) rfl rfl ?_
    exact k
  obtain ⟨T1, X1, e1, st1⟩ := initO X0 hx hZ hown (hw _ (List.mem_of_getElem? (i := 13) rfl)) (hw _ (List.mem_of_getElem? (i := 14) rfl)) (hw _ (List.mem_of_getElem? (i := 15) rfl)) e0 (g := (mkF m 1 #[.val (.ref a1), .val (.int (3 : Int32)), .val (.int (1 : Int32)), .val (.int (16 : Int32))] [(.ref a1)])) rfl (by rw [hml]; rfl) rfl (hb hby d3_1) (by decide) (W := 0) (by show 2 * 0 + _ ≤ _; exact Nat.le_of_eq rfl) (by decide)
  refine own_via st1 ?_
  show own_G p.tables e below _ (T1.setTop (mkF m 4 #[.val (.ref a1), .val (.int (3 : Int32)), .val (.int (1 : Int32)), .val (.int (16 : Int32))] []))
  refine own_via (S' := T1.setTop (mkF m 6 #[.val (.ref a1), .val (.int (3 : Int32)), .val (.int (1 : Int32)), .val (.int (16 : Int32))] [(.int (3 : Int32)), (.ref a1)])) (fun t k => ?_) ?_
  · show Steps p.tables e below (T1.setTop (mkF m 4 #[.val (.ref a1), .val (.int (3 : Int32)), .val (.int (1 : Int32)), .val (.int (16 : Int32))] [])) t
    refine XS.aloadN X1.here hx rfl (hb hby d3_4) rfl rfl ?_
    show Steps p.tables e below (T1.setTop (mkF m 5 #[.val (.ref a1), .val (.int (3 : Int32)), .val (.int (1 : Int32)), .val (.int (16 : Int32))] [(.ref a1)])) t
    refine XS.iloadN X1.here hx rfl (hb hby d3_5) rfl ?_
    exact k
  obtain ⟨T2, h2, k2, X2, e2, E2, A2, st2⟩ := newP X1 hx hZ (hw _ (List.mem_of_getElem? (i := 16) rfl)) e1 (g := (mkF m 6 #[.val (.ref a1), .val (.int (3 : Int32)), .val (.int (1 : Int32)), .val (.int (16 : Int32))] [(.int (3 : Int32)), (.ref a1)])) rfl (hb hby d3_6) rfl (by decide) (cap := 3) (by decide) (by decide) (by decide) (by decide)
  obtain ⟨b2, g2⟩ : ∃ z, z = h0.size := ⟨_, rfl⟩
  have ne_a1_b2 : a1 ≠ b2 := Nat.ne_of_lt (Nat.lt_of_lt_of_le (E_a1).lt (Nat.le_of_eq g2.symm))
  have g_b2 : n0 ≤ b2 := Nat.le_trans (Nat.le_trans Z0 K0.1) (Nat.le_of_eq g2.symm)
  have sz_b2 : h0.size ≤ b2 := Nat.le_trans K0.1 (Nat.le_of_eq g2.symm)
  rw [← g2] at A2 st2
  have K2 : Keep h0 h2 [a1] := Keep.ext K0 E2
  have V_b2 : own_Ar Z h2 b2 k2 .int (3 : Int32) (List.map Value.int (List.replicate ((3 : Int32)).toNatClampNeg (0 : Int32))) (.int (0 : Int32)) := own_Ar.newI A2 (by decide)
  refine own_via st2 ?_
  show own_G p.tables e below _ (T2.setTop (mkF m 8 #[.val (.ref a1), .val (.int (3 : Int32)), .val (.int (1 : Int32)), .val (.int (16 : Int32))] [(.ref b2), (.ref a1)]))
  have c3 := (Fld.ext E2 F0_0)
  have c4 := (Exa.ext E2 E_a1)
  obtain ⟨T5, h5, X5, e5, W5, st5⟩ := putF X2 hx hZ hown (host := "") (Or.inl (hw _ (List.mem_of_getElem? (i := 17) rfl))) Via.refl e2 c3 c4 (Or.inr ⟨(hw _ (List.mem_of_getElem? (i := 18) rfl)), rfl, hnm⟩) (hw _ (List.mem_of_getElem? (i := 1) rfl)) (ty := (.array .int)) (by decide) rfl rfl (g := (mkF m 8 #[.val (.ref a1), .val (.int (3 : Int32)), .val (.int (1 : Int32)), .val (.int (16 : Int32))] [(.ref b2), (.ref a1)])) rfl rfl (hb hby d3_8)
  have F5 := Fld.same W5 c3
  have K6 : Keep h0 h5 [a1] := Keep.wr K2 W5 (Or.inl (List.mem_of_getElem? (i := 0) rfl))
  have N6 := Fr.snoc X5 N0 g_a1
  refine own_via st5 ?_
  show own_G p.tables e below _ (T5.setTop (mkF m 11 #[.val (.ref a1), .val (.int (3 : Int32)), .val (.int (1 : Int32)), .val (.int (16 : Int32))] []))
  refine own_via (S' := T5.setTop (mkF m 12 #[.val (.ref a1), .val (.int (3 : Int32)), .val (.int (1 : Int32)), .val (.int (16 : Int32))] [(.ref a1)])) (fun t k => ?_) ?_
  · show Steps p.tables e below (T5.setTop (mkF m 11 #[.val (.ref a1), .val (.int (3 : Int32)), .val (.int (1 : Int32)), .val (.int (16 : Int32))] [])) t
    refine XS.aloadN X5.here hx rfl (hb hby d3_11) rfl rfl ?_
    exact k
  obtain ⟨T7, X7, e7, st7⟩ := getF X5 hx hZ hown (host := "") (Or.inl (hw _ (List.mem_of_getElem? (i := 17) rfl))) Via.refl e5 F5 (g := (mkF m 12 #[.val (.ref a1), .val (.int (3 : Int32)), .val (.int (1 : Int32)), .val (.int (16 : Int32))] [(.ref a1)])) rfl rfl (hb hby d3_12)
  refine own_via st7 ?_
  show own_G p.tables e below _ (T7.setTop (mkF m 15 #[.val (.ref a1), .val (.int (3 : Int32)), .val (.int (1 : Int32)), .val (.int (16 : Int32))] [(.ref b2)]))
  refine own_via (S' := T7.setTop (mkF m 16 #[.val (.ref a1), .val (.int (3 : Int32)), .val (.int (1 : Int32)), .val (.int (16 : Int32))] [(.int (-1 : Int32)), (.ref b2)])) (fun t k => ?_) ?_
  · show Steps p.tables e below (T7.setTop (mkF m 15 #[.val (.ref a1), .val (.int (3 : Int32)), .val (.int (1 : Int32)), .val (.int (16 : Int32))] [(.ref b2)])) t
    refine XS.iconst X7.here hx rfl (hb hby d3_15) ?_
    exact k
  have c8 := (own_Ar.other V_b2 W5 (Ne.symm ne_a1_b2))
  obtain ⟨_, _, ⟨T9, L9, k9, n9⟩, -, X9, ⟨Lc9, hQ9, l9, y9, z9⟩, st9⟩ := Jvm.LawKit.callS X7 hx (y := (⟨"java/util/Arrays", "fill", "([II)V"⟩ : MethodName)) hown (mvT hZ (hw _ (List.mem_of_getElem? (i := 19) rfl))) (mvT hZ (hw _ (List.mem_of_getElem? (i := 20) rfl))) (mvT hZ (hw _ (List.mem_of_getElem? (i := 21) rfl))) (mvT hZ (hw _ (List.mem_of_getElem? (i := 22) rfl))) (by decide) (backOf (W := 0) (rm5 l Z a0 hw [] b2 (-1 : Int32) k2 (3 : Int32) (List.replicate ((3 : Int32)).toNatClampNeg (0 : Int32)) h5 n0 (Nat.le_trans Z0 K6.1) c8 g_b2) hZ (hw _ (List.mem_of_getElem? (i := 22) rfl)) (hw _ (List.mem_of_getElem? (i := 21) rfl)) (by decide) (by decide)) (g := (mkF m 16 #[.val (.ref a1), .val (.int (3 : Int32)), .val (.int (1 : Int32)), .val (.int (16 : Int32))] [(.int (-1 : Int32)), (.ref b2)])) rfl (by rw [hml]; rfl) (argsL := [(.ref b2), (.int (-1 : Int32))]) (rest := []) (lenOf pd_0 rfl) rfl (by show 2 * 0 + _ ≤ _; exact Nat.le_of_eq rfl) (hb hby d3_16) (fun _ _ => ⟨rfl, e7, (by decide : 1 + 0 ≤ _), (by decide : 3 + 0 ≤ _)⟩)
  dsimp only [Pt.U, Pt.locs, Pt.cells, Pt.slots] at X9 l9 y9 z9 st9 hQ9
  subst l9 y9 z9
  obtain ⟨rfl, Nq9, Kc9, Vc9⟩ := hQ9
  have N9 := Fr.app N6 Nq9
  refine own_via st9 ?_
  show own_G p.tables e below _ (T9.setTop (mkF m 19 #[.val (.ref a1), .val (.int (3 : Int32)), .val (.int (1 : Int32)), .val (.int (16 : Int32))] []))
  have K9 : Keep h0 T9.heap [a1] := Keep.trans K6 Kc9 (allS (Or.inr sz_b2) all0)
  refine own_via (S' := T9.setTop (mkF m 21 #[.val (.ref a1), .val (.int (3 : Int32)), .val (.int (1 : Int32)), .val (.int (16 : Int32))] [(.int (16 : Int32)), (.ref a1)])) (fun t k => ?_) ?_
  · show Steps p.tables e below (T9.setTop (mkF m 19 #[.val (.ref a1), .val (.int (3 : Int32)), .val (.int (1 : Int32)), .val (.int (16 : Int32))] [])) t
    refine XS.aloadN X9.here hx rfl (hb hby d3_19) rfl rfl ?_
    show Steps p.tables e below (T9.setTop (mkF m 20 #[.val (.ref a1), .val (.int (3 : Int32)), .val (.int (1 : Int32)), .val (.int (16 : Int32))] [(.ref a1)])) t
    refine XS.iloadN X9.here hx rfl (hb hby d3_20) rfl ?_
    exact k
  obtain ⟨T10, h10, k10, X10, e10, E10, A10, st10⟩ := newP X9 hx hZ (hw _ (List.mem_of_getElem? (i := 16) rfl)) rfl (g := (mkF m 21 #[.val (.ref a1), .val (.int (3 : Int32)), .val (.int (1 : Int32)), .val (.int (16 : Int32))] [(.int (16 : Int32)), (.ref a1)])) rfl (hb hby d3_21) rfl (by decide) (cap := 16) (by decide) (by decide) (by decide) (by decide)
  have c11 := (Exa.keep (Exa.wr W5 c4) Kc9)
  obtain ⟨b10, g10⟩ : ∃ z, z = T9.heap.size := ⟨_, rfl⟩
  have ne_a1_b10 : a1 ≠ b10 := Nat.ne_of_lt (Nat.lt_of_lt_of_le (c11).lt (Nat.le_of_eq g10.symm))
  have ne_b2_b10 : b2 ≠ b10 := Nat.ne_of_lt (Nat.lt_of_lt_of_le (Vc9).lt (Nat.le_of_eq g10.symm))
  have g_b10 : n0 ≤ b10 := Nat.le_trans (Nat.le_trans Z0 K9.1) (Nat.le_of_eq g10.symm)
  have sz_b10 : h0.size ≤ b10 := Nat.le_trans K9.1 (Nat.le_of_eq g10.symm)
  rw [← g10] at A10 st10
  have K10 : Keep h0 h10 [a1] := Keep.ext K9 E10
  have V_b10 : own_Ar Z h10 b10 k10 .int (16 : Int32) (List.map Value.int (List.replicate ((16 : Int32)).toNatClampNeg (0 : Int32))) (.int (0 : Int32)) := own_Ar.newI A10 (by decide)
  refine own_via st10 ?_
  show own_G p.tables e below _ (T10.setTop (mkF m 23 #[.val (.ref a1), .val (.int (3 : Int32)), .val (.int (1 : Int32)), .val (.int (16 : Int32))] [(.ref b10), (.ref a1)]))
  have c12 := (Fld.ext E10 (Fld.keep (Fld.other W5 (Fld.ext E2 F1_0) (Or.inr (slot_ne (Or.inl (hw _ (List.mem_of_getElem? (i := 24) rfl))) (Or.inr (hw _ (List.mem_of_getElem? (i := 18) rfl))) (by decide) (t := (.array .int)) (t' := (.array .int)) (by decide) (by decide)))) Kc9 (ninS ne_a1_b2 nin0)))
  have c13 := (Exa.ext E10 c11)
  obtain ⟨T14, h14, X14, e14, W14, st14⟩ := putF X10 hx hZ hown (host := "") (Or.inl (hw _ (List.mem_of_getElem? (i := 23) rfl))) Via.refl e10 c12 c13 (Or.inl (hw _ (List.mem_of_getElem? (i := 24) rfl))) (hw _ (List.mem_of_getElem? (i := 1) rfl)) (ty := (.array .int)) (by decide) rfl rfl (g := (mkF m 23 #[.val (.ref a1), .val (.int (3 : Int32)), .val (.int (1 : Int32)), .val (.int (16 : Int32))] [(.ref b10), (.ref a1)])) rfl rfl (hb hby d3_23)
  have F14 := Fld.same W14 c12
  have K15 : Keep h0 h14 [a1] := Keep.wr K10 W14 (Or.inl (List.mem_of_getElem? (i := 0) rfl))
  have N15 := Fr.snoc X14 N9 g_a1
  refine own_via st14 ?_
  show own_G p.tables e below _ (T14.setTop (mkF m 26 #[.val (.ref a1), .val (.int (3 : Int32)), .val (.int (1 : Int32)), .val (.int (16 : Int32))] []))
  refine own_via (S' := T14.setTop (mkF m 28 #[.val (.ref a1), .val (.int (3 : Int32)), .val (.int (1 : Int32)), .val (.int (16 : Int32))] [(.int (16 : Int32)), (.ref a1)])) (fun t k => ?_) ?_
  · show Steps p.tables e below (T14.setTop (mkF m 26 #[.val (.ref a1), .val (.int (3 : Int32)), .val (.int (1 : Int32)), .val (.int (16 : Int32))] [])) t
    refine XS.aloadN X14.here hx rfl (hb hby d3_26) rfl rfl ?_
    show Steps p.tables e below (T14.setTop (mkF m 27 #[.val (.ref a1), .val (.int (3 : Int32)), .val (.int (1 : Int32)), .val (.int (16 : Int32))] [(.ref a1)])) t
    refine XS.iloadN X14.here hx rfl (hb hby d3_27) rfl ?_
    exact k
  obtain ⟨T16, h16, k16, X16, e16, E16, A16, st16⟩ := newP X14 hx hZ (hw _ (List.mem_of_getElem? (i := 16) rfl)) e14 (g := (mkF m 28 #[.val (.ref a1), .val (.int (3 : Int32)), .val (.int (1 : Int32)), .val (.int (16 : Int32))] [(.int (16 : Int32)), (.ref a1)])) rfl (hb hby d3_28) rfl (by decide) (cap := 16) (by decide) (by decide) (by decide) (by decide)
  have c17 := (Exa.wr W14 c13)
  have c18 := (own_Ar.other (own_Ar.ext Vc9 E10) W14 (Ne.symm ne_a1_b2))
  have c19 := (own_Ar.other V_b10 W14 (Ne.symm ne_a1_b10))
  obtain ⟨b16, g16⟩ : ∃ z, z = h14.size := ⟨_, rfl⟩
  have ne_a1_b16 : a1 ≠ b16 := Nat.ne_of_lt (Nat.lt_of_lt_of_le (c17).lt (Nat.le_of_eq g16.symm))
  have ne_b2_b16 : b2 ≠ b16 := Nat.ne_of_lt (Nat.lt_of_lt_of_le (c18).lt (Nat.le_of_eq g16.symm))
  have ne_b10_b16 : b10 ≠ b16 := Nat.ne_of_lt (Nat.lt_of_lt_of_le (c19).lt (Nat.le_of_eq g16.symm))
  have g_b16 : n0 ≤ b16 := Nat.le_trans (Nat.le_trans Z0 K15.1) (Nat.le_of_eq g16.symm)
  have sz_b16 : h0.size ≤ b16 := Nat.le_trans K15.1 (Nat.le_of_eq g16.symm)
  rw [← g16] at A16 st16
  have K16 : Keep h0 h16 [a1] := Keep.ext K15 E16
  have V_b16 : own_Ar Z h16 b16 k16 .int (16 : Int32) (List.map Value.int (List.replicate ((16 : Int32)).toNatClampNeg (0 : Int32))) (.int (0 : Int32)) := own_Ar.newI A16 (by decide)
  refine own_via st16 ?_
  show own_G p.tables e below _ (T16.setTop (mkF m 30 #[.val (.ref a1), .val (.int (3 : Int32)), .val (.int (1 : Int32)), .val (.int (16 : Int32))] [(.ref b16), (.ref a1)]))
  have c20 := (Fld.ext E16 (Fld.other W14 (Fld.ext E10 (Fld.keep (Fld.other W5 (Fld.ext E2 F4_0) (Or.inr (slot_ne (Or.inl (hw _ (List.mem_of_getElem? (i := 26) rfl))) (Or.inr (hw _ (List.mem_of_getElem? (i := 18) rfl))) (by decide) (t := (.array .int)) (t' := (.array .int)) (by decide) (by decide)))) Kc9 (ninS ne_a1_b2 nin0))) (Or.inr (slot_ne (Or.inl (hw _ (List.mem_of_getElem? (i := 26) rfl))) (Or.inl (hw _ (List.mem_of_getElem? (i := 24) rfl))) (by decide) (t := (.array .int)) (t' := (.array .int)) (by decide) (by decide)))))
  have c21 := (Exa.ext E16 c17)
  obtain ⟨T22, h22, X22, e22, W22, st22⟩ := putF X16 hx hZ hown (host := "") (Or.inl (hw _ (List.mem_of_getElem? (i := 25) rfl))) Via.refl e16 c20 c21 (Or.inl (hw _ (List.mem_of_getElem? (i := 26) rfl))) (hw _ (List.mem_of_getElem? (i := 1) rfl)) (ty := (.array .int)) (by decide) rfl rfl (g := (mkF m 30 #[.val (.ref a1), .val (.int (3 : Int32)), .val (.int (1 : Int32)), .val (.int (16 : Int32))] [(.ref b16), (.ref a1)])) rfl rfl (hb hby d3_30)
  have F22 := Fld.same W22 c20
  have K23 : Keep h0 h22 [a1] := Keep.wr K16 W22 (Or.inl (List.mem_of_getElem? (i := 0) rfl))
  have N23 := Fr.snoc X22 N15 g_a1
  refine own_via st22 ?_
  show own_G p.tables e below _ (T22.setTop (mkF m 33 #[.val (.ref a1), .val (.int (3 : Int32)), .val (.int (1 : Int32)), .val (.int (16 : Int32))] []))
  refine own_via (S' := T22.setTop (mkF m 35 #[.val (.ref a1), .val (.int (3 : Int32)), .val (.int (1 : Int32)), .val (.int (16 : Int32))] [(.int (16 : Int32)), (.ref a1)])) (fun t k => ?_) ?_
  · show Steps p.tables e below (T22.setTop (mkF m 33 #[.val (.ref a1), .val (.int (3 : Int32)), .val (.int (1 : Int32)), .val (.int (16 : Int32))] [])) t
    refine XS.aloadN X22.here hx rfl (hb hby d3_33) rfl rfl ?_
    show Steps p.tables e below (T22.setTop (mkF m 34 #[.val (.ref a1), .val (.int (3 : Int32)), .val (.int (1 : Int32)), .val (.int (16 : Int32))] [(.ref a1)])) t
    refine XS.iloadN X22.here hx rfl (hb hby d3_34) rfl ?_
    exact k
  obtain ⟨T24, h24, k24, X24, e24, E24, A24, st24⟩ := newP X22 hx hZ (hw _ (List.mem_of_getElem? (i := 16) rfl)) e22 (g := (mkF m 35 #[.val (.ref a1), .val (.int (3 : Int32)), .val (.int (1 : Int32)), .val (.int (16 : Int32))] [(.int (16 : Int32)), (.ref a1)])) rfl (hb hby d3_35) rfl (by decide) (cap := 16) (by decide) (by decide) (by decide) (by decide)
  have c25 := (Exa.wr W22 c21)
  have c26 := (own_Ar.other (own_Ar.ext c18 E16) W22 (Ne.symm ne_a1_b2))
  have c27 := (own_Ar.other (own_Ar.ext c19 E16) W22 (Ne.symm ne_a1_b10))
  have c28 := (own_Ar.other V_b16 W22 (Ne.symm ne_a1_b16))
  obtain ⟨b24, g24⟩ : ∃ z, z = h22.size := ⟨_, rfl⟩
  have ne_a1_b24 : a1 ≠ b24 := Nat.ne_of_lt (Nat.lt_of_lt_of_le (c25).lt (Nat.le_of_eq g24.symm))
  have ne_b2_b24 : b2 ≠ b24 := Nat.ne_of_lt (Nat.lt_of_lt_of_le (c26).lt (Nat.le_of_eq g24.symm))
  have ne_b10_b24 : b10 ≠ b24 := Nat.ne_of_lt (Nat.lt_of_lt_of_le (c27).lt (Nat.le_of_eq g24.symm))
  have ne_b16_b24 : b16 ≠ b24 := Nat.ne_of_lt (Nat.lt_of_lt_of_le (c28).lt (Nat.le_of_eq g24.symm))
  have g_b24 : n0 ≤ b24 := Nat.le_trans (Nat.le_trans Z0 K23.1) (Nat.le_of_eq g24.symm)
  have sz_b24 : h0.size ≤ b24 := Nat.le_trans K23.1 (Nat.le_of_eq g24.symm)
  rw [← g24] at A24 st24
  have K24 : Keep h0 h24 [a1] := Keep.ext K23 E24
  have V_b24 : own_Ar Z h24 b24 k24 .int (16 : Int32) (List.map Value.int (List.replicate ((16 : Int32)).toNatClampNeg (0 : Int32))) (.int (0 : Int32)) := own_Ar.newI A24 (by decide)
  refine own_via st24 ?_
  show own_G p.tables e below _ (T24.setTop (mkF m 37 #[.val (.ref a1), .val (.int (3 : Int32)), .val (.int (1 : Int32)), .val (.int (16 : Int32))] [(.ref b24), (.ref a1)]))
  have c29 := (Fld.ext E24 (Fld.other W22 (Fld.ext E16 (Fld.other W14 (Fld.ext E10 (Fld.keep (Fld.other W5 (Fld.ext E2 F5_0) (Or.inr (slot_ne (Or.inl (hw _ (List.mem_of_getElem? (i := 28) rfl))) (Or.inr (hw _ (List.mem_of_getElem? (i := 18) rfl))) (by decide) (t := (.array .int)) (t' := (.array .int)) (by decide) (by decide)))) Kc9 (ninS ne_a1_b2 nin0))) (Or.inr (slot_ne (Or.inl (hw _ (List.mem_of_getElem? (i := 28) rfl))) (Or.inl (hw _ (List.mem_of_getElem? (i := 24) rfl))) (by decide) (t := (.array .int)) (t' := (.array .int)) (by decide) (by decide))))) (Or.inr (slot_ne (Or.inl (hw _ (List.mem_of_getElem? (i := 28) rfl))) (Or.inl (hw _ (List.mem_of_getElem? (i := 26) rfl))) (by decide) (t := (.array .int)) (t' := (.array .int)) (by decide) (by decide)))))
  have c30 := (Exa.ext E24 c25)
  obtain ⟨T31, h31, X31, e31, W31, st31⟩ := putF X24 hx hZ hown (host := "") (Or.inl (hw _ (List.mem_of_getElem? (i := 27) rfl))) Via.refl e24 c29 c30 (Or.inl (hw _ (List.mem_of_getElem? (i := 28) rfl))) (hw _ (List.mem_of_getElem? (i := 1) rfl)) (ty := (.array .int)) (by decide) rfl rfl (g := (mkF m 37 #[.val (.ref a1), .val (.int (3 : Int32)), .val (.int (1 : Int32)), .val (.int (16 : Int32))] [(.ref b24), (.ref a1)])) rfl rfl (hb hby d3_37)
  have F31 := Fld.same W31 c29
  have K32 : Keep h0 h31 [a1] := Keep.wr K24 W31 (Or.inl (List.mem_of_getElem? (i := 0) rfl))
  have N32 := Fr.snoc X31 N23 g_a1
  refine own_via st31 ?_
  show own_G p.tables e below _ (T31.setTop (mkF m 40 #[.val (.ref a1), .val (.int (3 : Int32)), .val (.int (1 : Int32)), .val (.int (16 : Int32))] []))
  refine own_via (S' := T31.setTop (mkF m 41 #[.val (.ref a1), .val (.int (3 : Int32)), .val (.int (1 : Int32)), .val (.int (16 : Int32))] [(.int (1 : Int32))])) (fun t k => ?_) ?_
  · show Steps p.tables e below (T31.setTop (mkF m 40 #[.val (.ref a1), .val (.int (3 : Int32)), .val (.int (1 : Int32)), .val (.int (16 : Int32))] [])) t
    refine XS.iloadN X31.here hx rfl (hb hby d3_40) rfl ?_
    exact k
  refine own_via (S' := T31.setTop (mkF m 44 #[.val (.ref a1), .val (.int (3 : Int32)), .val (.int (1 : Int32)), .val (.int (16 : Int32))] [])) (fun t k => XS.ifNo (g := (mkF m 41 #[.val (.ref a1), .val (.int (3 : Int32)), .val (.int (1 : Int32)), .val (.int (16 : Int32))] [(.int (1 : Int32))])) X31.here hx rfl (hb hby d3_41) rfl ((if0 _ _).trans (feq (by decide : ¬ ((1 : Int32) = (0 : Int32)))).1) k) ?_
  refine own_via (S' := T31.setTop (mkF m 46 #[.val (.ref a1), .val (.int (3 : Int32)), .val (.int (1 : Int32)), .val (.int (16 : Int32))] [(.int (3 : Int32)), (.ref a1)])) (fun t k => ?_) ?_
  · show Steps p.tables e below (T31.setTop (mkF m 44 #[.val (.ref a1), .val (.int (3 : Int32)), .val (.int (1 : Int32)), .val (.int (16 : Int32))] [])) t
    refine XS.aloadN X31.here hx rfl (hb hby d3_44) rfl rfl ?_
    show Steps p.tables e below (T31.setTop (mkF m 45 #[.val (.ref a1), .val (.int (3 : Int32)), .val (.int (1 : Int32)), .val (.int (16 : Int32))] [(.ref a1)])) t
    refine XS.iloadN X31.here hx rfl (hb hby d3_45) rfl ?_
    exact k
  obtain ⟨T34, h34, k34, X34, e34, E34, A34, st34⟩ := newP X31 hx hZ (hw _ (List.mem_of_getElem? (i := 16) rfl)) e31 (g := (mkF m 46 #[.val (.ref a1), .val (.int (3 : Int32)), .val (.int (1 : Int32)), .val (.int (16 : Int32))] [(.int (3 : Int32)), (.ref a1)])) rfl (hb hby d3_46) rfl (by decide) (cap := 3) (by decide) (by decide) (by decide) (by decide)
  have c35 := (Exa.wr W31 c30)
  have c36 := (own_Ar.other (own_Ar.ext c26 E24) W31 (Ne.symm ne_a1_b2))
  have c37 := (own_Ar.other (own_Ar.ext c27 E24) W31 (Ne.symm ne_a1_b10))
  have c38 := (own_Ar.other (own_Ar.ext c28 E24) W31 (Ne.symm ne_a1_b16))
  have c39 := (own_Ar.other V_b24 W31 (Ne.symm ne_a1_b24))
  obtain ⟨b34, g34⟩ : ∃ z, z = h31.size := ⟨_, rfl⟩
  have ne_a1_b34 : a1 ≠ b34 := Nat.ne_of_lt (Nat.lt_of_lt_of_le (c35).lt (Nat.le_of_eq g34.symm))
  have ne_b2_b34 : b2 ≠ b34 := Nat.ne_of_lt (Nat.lt_of_lt_of_le (c36).lt (Nat.le_of_eq g34.symm))
  have ne_b10_b34 : b10 ≠ b34 := Nat.ne_of_lt (Nat.lt_of_lt_of_le (c37).lt (Nat.le_of_eq g34.symm))
  have ne_b16_b34 : b16 ≠ b34 := Nat.ne_of_lt (Nat.lt_of_lt_of_le (c38).lt (Nat.le_of_eq g34.symm))
  have ne_b24_b34 : b24 ≠ b34 := Nat.ne_of_lt (Nat.lt_of_lt_of_le (c39).lt (Nat.le_of_eq g34.symm))
  have g_b34 : n0 ≤ b34 := Nat.le_trans (Nat.le_trans Z0 K32.1) (Nat.le_of_eq g34.symm)
  have sz_b34 : h0.size ≤ b34 := Nat.le_trans K32.1 (Nat.le_of_eq g34.symm)
  rw [← g34] at A34 st34
  have K34 : Keep h0 h34 [a1] := Keep.ext K32 E34
  have V_b34 : own_Ar Z h34 b34 k34 .int (3 : Int32) (List.map Value.int (List.replicate ((3 : Int32)).toNatClampNeg (0 : Int32))) (.int (0 : Int32)) := own_Ar.newI A34 (by decide)
  refine own_via st34 ?_
  show own_G p.tables e below _ (T34.setTop (mkF m 48 #[.val (.ref a1), .val (.int (3 : Int32)), .val (.int (1 : Int32)), .val (.int (16 : Int32))] [(.ref b34), (.ref a1)]))
  have c40 := (Fld.ext E34 (Fld.other W31 (Fld.ext E24 (Fld.other W22 (Fld.ext E16 (Fld.other W14 (Fld.ext E10 (Fld.keep (Fld.other W5 (Fld.ext E2 F2_0) (Or.inr (slot_ne (Or.inr (hw _ (List.mem_of_getElem? (i := 30) rfl))) (Or.inr (hw _ (List.mem_of_getElem? (i := 18) rfl))) (by decide) (t := (.array .int)) (t' := (.array .int)) (by decide) (by decide)))) Kc9 (ninS ne_a1_b2 nin0))) (Or.inr (slot_ne (Or.inr (hw _ (List.mem_of_getElem? (i := 30) rfl))) (Or.inl (hw _ (List.mem_of_getElem? (i := 24) rfl))) (by decide) (t := (.array .int)) (t' := (.array .int)) (by decide) (by decide))))) (Or.inr (slot_ne (Or.inr (hw _ (List.mem_of_getElem? (i := 30) rfl))) (Or.inl (hw _ (List.mem_of_getElem? (i := 26) rfl))) (by decide) (t := (.array .int)) (t' := (.array .int)) (by decide) (by decide))))) (Or.inr (slot_ne (Or.inr (hw _ (List.mem_of_getElem? (i := 30) rfl))) (Or.inl (hw _ (List.mem_of_getElem? (i := 28) rfl))) (by decide) (t := (.array .int)) (t' := (.array .int)) (by decide) (by decide)))))
  have c41 := (Exa.ext E34 c35)
  obtain ⟨T42, h42, X42, e42, W42, st42⟩ := putF X34 hx hZ hown (host := "") (Or.inl (hw _ (List.mem_of_getElem? (i := 29) rfl))) Via.refl e34 c40 c41 (Or.inr ⟨(hw _ (List.mem_of_getElem? (i := 30) rfl)), rfl, hnm⟩) (hw _ (List.mem_of_getElem? (i := 1) rfl)) (ty := (.array .int)) (by decide) rfl rfl (g := (mkF m 48 #[.val (.ref a1), .val (.int (3 : Int32)), .val (.int (1 : Int32)), .val (.int (16 : Int32))] [(.ref b34), (.ref a1)])) rfl rfl (hb hby d3_48)
  have F42 := Fld.same W42 c40
  have K43 : Keep h0 h42 [a1] := Keep.wr K34 W42 (Or.inl (List.mem_of_getElem? (i := 0) rfl))
  have N43 := Fr.snoc X42 N32 g_a1
  refine own_via st42 ?_
  show own_G p.tables e below _ (T42.setTop (mkF m 51 #[.val (.ref a1), .val (.int (3 : Int32)), .val (.int (1 : Int32)), .val (.int (16 : Int32))] []))
  refine own_via (S' := T42.setTop (mkF m 52 #[.val (.ref a1), .val (.int (3 : Int32)), .val (.int (1 : Int32)), .val (.int (16 : Int32))] [(.ref a1)])) (fun t k => ?_) ?_
  · show Steps p.tables e below (T42.setTop (mkF m 51 #[.val (.ref a1), .val (.int (3 : Int32)), .val (.int (1 : Int32)), .val (.int (16 : Int32))] [])) t
    refine XS.aloadN X42.here hx rfl (hb hby d3_51) rfl rfl ?_
    exact k
  obtain ⟨T44, X44, e44, st44⟩ := getF X42 hx hZ hown (host := "") (Or.inl (hw _ (List.mem_of_getElem? (i := 29) rfl))) Via.refl e42 F42 (g := (mkF m 52 #[.val (.ref a1), .val (.int (3 : Int32)), .val (.int (1 : Int32)), .val (.int (16 : Int32))] [(.ref a1)])) rfl rfl (hb hby d3_52)
  refine own_via st44 ?_
  show own_G p.tables e below _ (T44.setTop (mkF m 55 #[.val (.ref a1), .val (.int (3 : Int32)), .val (.int (1 : Int32)), .val (.int (16 : Int32))] [(.ref b34)]))
  refine own_via (S' := T44.setTop (mkF m 56 #[.val (.ref a1), .val (.int (3 : Int32)), .val (.int (1 : Int32)), .val (.int (16 : Int32))] [(.int (-1 : Int32)), (.ref b34)])) (fun t k => ?_) ?_
  · show Steps p.tables e below (T44.setTop (mkF m 55 #[.val (.ref a1), .val (.int (3 : Int32)), .val (.int (1 : Int32)), .val (.int (16 : Int32))] [(.ref b34)])) t
    refine XS.iconst X44.here hx rfl (hb hby d3_55) ?_
    exact k
  have c45 := (own_Ar.other V_b34 W42 (Ne.symm ne_a1_b34))
  obtain ⟨_, _, ⟨T46, L46, k46, n46⟩, -, X46, ⟨Lc46, hQ46, l46, y46, z46⟩, st46⟩ := Jvm.LawKit.callS X44 hx (y := (⟨"java/util/Arrays", "fill", "([II)V"⟩ : MethodName)) hown (mvT hZ (hw _ (List.mem_of_getElem? (i := 19) rfl))) (mvT hZ (hw _ (List.mem_of_getElem? (i := 20) rfl))) (mvT hZ (hw _ (List.mem_of_getElem? (i := 21) rfl))) (mvT hZ (hw _ (List.mem_of_getElem? (i := 22) rfl))) (by decide) (backOf (W := 0) (rm5 l Z a0 hw [] b34 (-1 : Int32) k34 (3 : Int32) (List.replicate ((3 : Int32)).toNatClampNeg (0 : Int32)) h42 n0 (Nat.le_trans Z0 K43.1) c45 g_b34) hZ (hw _ (List.mem_of_getElem? (i := 22) rfl)) (hw _ (List.mem_of_getElem? (i := 21) rfl)) (by decide) (by decide)) (g := (mkF m 56 #[.val (.ref a1), .val (.int (3 : Int32)), .val (.int (1 : Int32)), .val (.int (16 : Int32))] [(.int (-1 : Int32)), (.ref b34)])) rfl (by rw [hml]; rfl) (argsL := [(.ref b34), (.int (-1 : Int32))]) (rest := []) (lenOf pd_0 rfl) rfl (by show 2 * 0 + _ ≤ _; exact Nat.le_of_eq rfl) (hb hby d3_56) (fun _ _ => ⟨rfl, e44, (by decide : 5 + 0 ≤ _), (by decide : 54 + 0 ≤ _)⟩)
  dsimp only [Pt.U, Pt.locs, Pt.cells, Pt.slots] at X46 l46 y46 z46 st46 hQ46
  subst l46 y46 z46
  obtain ⟨rfl, Nq46, Kc46, Vc46⟩ := hQ46
  have N46 := Fr.app N43 Nq46
  refine own_via st46 ?_
  show own_G p.tables e below _ (T46.setTop (mkF m 59 #[.val (.ref a1), .val (.int (3 : Int32)), .val (.int (1 : Int32)), .val (.int (16 : Int32))] []))
  have K46 : Keep h0 T46.heap [a1] := Keep.trans K43 Kc46 (allS (Or.inr sz_b34) all0)
  refine own_via (S' := T46.setTop (mkF m 61 #[.val (.ref a1), .val (.int (3 : Int32)), .val (.int (1 : Int32)), .val (.int (16 : Int32))] [(.ref a1), (.ref a1)])) (fun t k => ?_) ?_
  · show Steps p.tables e below (T46.setTop (mkF m 59 #[.val (.ref a1), .val (.int (3 : Int32)), .val (.int (1 : Int32)), .val (.int (16 : Int32))] [])) t
    refine XS.aloadN X46.here hx rfl (hb hby d3_59) rfl rfl ?_
    show Steps p.tables e below (T46.setTop (mkF m 60 #[.val (.ref a1), .val (.int (3 : Int32)), .val (.int (1 : Int32)), .val (.int (16 : Int32))] [(.ref a1)])) t
    refine XS.aloadN X46.here hx rfl (hb hby d3_60) rfl rfl ?_
    exact k
  have c47 := (Fld.keep (Fld.other W42 (Fld.ext E34 (Fld.other W31 (Fld.ext E24 (Fld.other W22 (Fld.ext E16 F14) (Or.inr (slot_ne (Or.inl (hw _ (List.mem_of_getElem? (i := 24) rfl))) (Or.inl (hw _ (List.mem_of_getElem? (i := 26) rfl))) (by decide) (t := (.array .int)) (t' := (.array .int)) (by decide) (by decide))))) (Or.inr (slot_ne (Or.inl (hw _ (List.mem_of_getElem? (i := 24) rfl))) (Or.inl (hw _ (List.mem_of_getElem? (i := 28) rfl))) (by decide) (t := (.array .int)) (t' := (.array .int)) (by decide) (by decide))))) (Or.inr (slot_ne (Or.inl (hw _ (List.mem_of_getElem? (i := 24) rfl))) (Or.inr (hw _ (List.mem_of_getElem? (i := 30) rfl))) (by decide) (t := (.array .int)) (t' := (.array .int)) (by decide) (by decide)))) Kc46 (ninS ne_a1_b34 nin0))
  obtain ⟨T48, X48, e48, st48⟩ := getF X46 hx hZ hown (host := "") (Or.inl (hw _ (List.mem_of_getElem? (i := 23) rfl))) Via.refl rfl c47 (g := (mkF m 61 #[.val (.ref a1), .val (.int (3 : Int32)), .val (.int (1 : Int32)), .val (.int (16 : Int32))] [(.ref a1), (.ref a1)])) rfl rfl (hb hby d3_61)
  refine own_via st48 ?_
  show own_G p.tables e below _ (T48.setTop (mkF m 64 #[.val (.ref a1), .val (.int (3 : Int32)), .val (.int (1 : Int32)), .val (.int (16 : Int32))] [(.ref b10), (.ref a1)]))
  have c49 := (own_Ar.keep (own_Ar.other (own_Ar.ext c37 E34) W42 (Ne.symm ne_a1_b10)) Kc46 (ninS ne_b10_b34 nin0))
  obtain ⟨⟨cl50, Ar50, q50, S50, Nn50, H50, G50⟩, Le50⟩ := id c49
  refine own_via (S' := T48.setTop (mkF m 65 #[.val (.ref a1), .val (.int (3 : Int32)), .val (.int (1 : Int32)), .val (.int (16 : Int32))] [(.int (16 : Int32)), (.ref a1)])) (fun t kz_ => X48.arraylength hx (by rw [e48]; exact Ar50.1) (State.isArrayOf_alike hZ.alike Ar50.2.1) (g := (mkF m 64 #[.val (.ref a1), .val (.int (3 : Int32)), .val (.int (1 : Int32)), .val (.int (16 : Int32))] [(.ref b10), (.ref a1)])) rfl rfl (hb hby d3_64) _ (by rw [len_of S50 Nn50]; exact kz_)) ?_
  obtain ⟨T51, h51, k51, X51, e51, E51, A51, st51⟩ := newP X48 hx hZ (hw _ (List.mem_of_getElem? (i := 16) rfl)) e48 (g := (mkF m 65 #[.val (.ref a1), .val (.int (3 : Int32)), .val (.int (1 : Int32)), .val (.int (16 : Int32))] [(.int (16 : Int32)), (.ref a1)])) rfl (hb hby d3_65) rfl (by decide) (cap := 16) (by decide) (by decide) (by decide) (by decide)
  have c52 := (Exa.keep (Exa.wr W42 c41) Kc46)
  have c53 := (own_Ar.keep (own_Ar.other (own_Ar.ext c36 E34) W42 (Ne.symm ne_a1_b2)) Kc46 (ninS ne_b2_b34 nin0))
  have c54 := (own_Ar.keep (own_Ar.other (own_Ar.ext c38 E34) W42 (Ne.symm ne_a1_b16)) Kc46 (ninS ne_b16_b34 nin0))
  have c55 := (own_Ar.keep (own_Ar.other (own_Ar.ext c39 E34) W42 (Ne.symm ne_a1_b24)) Kc46 (ninS ne_b24_b34 nin0))
  obtain ⟨b51, g51⟩ : ∃ z, z = T46.heap.size := ⟨_, rfl⟩
  have ne_a1_b51 : a1 ≠ b51 := Nat.ne_of_lt (Nat.lt_of_lt_of_le (c52).lt (Nat.le_of_eq g51.symm))
  have ne_b2_b51 : b2 ≠ b51 := Nat.ne_of_lt (Nat.lt_of_lt_of_le (c53).lt (Nat.le_of_eq g51.symm))
  have ne_b10_b51 : b10 ≠ b51 := Nat.ne_of_lt (Nat.lt_of_lt_of_le (c49).lt (Nat.le_of_eq g51.symm))
  have ne_b16_b51 : b16 ≠ b51 := Nat.ne_of_lt (Nat.lt_of_lt_of_le (c54).lt (Nat.le_of_eq g51.symm))
  have ne_b24_b51 : b24 ≠ b51 := Nat.ne_of_lt (Nat.lt_of_lt_of_le (c55).lt (Nat.le_of_eq g51.symm))
  have ne_b34_b51 : b34 ≠ b51 := Nat.ne_of_lt (Nat.lt_of_lt_of_le (Vc46).lt (Nat.le_of_eq g51.symm))
  have g_b51 : n0 ≤ b51 := Nat.le_trans (Nat.le_trans Z0 K46.1) (Nat.le_of_eq g51.symm)
  have sz_b51 : h0.size ≤ b51 := Nat.le_trans K46.1 (Nat.le_of_eq g51.symm)
  rw [← g51] at A51 st51
  have K51 : Keep h0 h51 [a1] := Keep.ext K46 E51
  have V_b51 : own_Ar Z h51 b51 k51 .int (16 : Int32) (List.map Value.int (List.replicate ((16 : Int32)).toNatClampNeg (0 : Int32))) (.int (0 : Int32)) := own_Ar.newI A51 (by decide)
  refine own_via st51 ?_
  show own_G p.tables e below _ (T51.setTop (mkF m 67 #[.val (.ref a1), .val (.int (3 : Int32)), .val (.int (1 : Int32)), .val (.int (16 : Int32))] [(.ref b51), (.ref a1)]))
  have c56 := (Fld.ext E51 (Fld.keep (Fld.other W42 (Fld.ext E34 (Fld.other W31 (Fld.ext E24 (Fld.other W22 (Fld.ext E16 (Fld.other W14 (Fld.ext E10 (Fld.keep (Fld.other W5 (Fld.ext E2 F3_0) (Or.inr (slot_ne (Or.inl (hw _ (List.mem_of_getElem? (i := 39) rfl))) (Or.inr (hw _ (List.mem_of_getElem? (i := 18) rfl))) (by decide) (t := (.array .int)) (t' := (.array .int)) (by decide) (by decide)))) Kc9 (ninS ne_a1_b2 nin0))) (Or.inr (slot_ne (Or.inl (hw _ (List.mem_of_getElem? (i := 39) rfl))) (Or.inl (hw _ (List.mem_of_getElem? (i := 24) rfl))) (by decide) (t := (.array .int)) (t' := (.array .int)) (by decide) (by decide))))) (Or.inr (slot_ne (Or.inl (hw _ (List.mem_of_getElem? (i := 39) rfl))) (Or.inl (hw _ (List.mem_of_getElem? (i := 26) rfl))) (by decide) (t := (.array .int)) (t' := (.array .int)) (by decide) (by decide))))) (Or.inr (slot_ne (Or.inl (hw _ (List.mem_of_getElem? (i := 39) rfl))) (Or.inl (hw _ (List.mem_of_getElem? (i := 28) rfl))) (by decide) (t := (.array .int)) (t' := (.array .int)) (by decide) (by decide))))) (Or.inr (slot_ne (Or.inl (hw _ (List.mem_of_getElem? (i := 39) rfl))) (Or.inr (hw _ (List.mem_of_getElem? (i := 30) rfl))) (by decide) (t := (.array .int)) (t' := (.array .int)) (by decide) (by decide)))) Kc46 (ninS ne_a1_b34 nin0)))
  have c57 := (Exa.ext E51 c52)
  obtain ⟨T58, h58, X58, e58, W58, st58⟩ := putF X51 hx hZ hown (host := "") (Or.inl (hw _ (List.mem_of_getElem? (i := 38) rfl))) Via.refl e51 c56 c57 (Or.inl (hw _ (List.mem_of_getElem? (i := 39) rfl))) (hw _ (List.mem_of_getElem? (i := 1) rfl)) (ty := (.array .int)) (by decide) rfl rfl (g := (mkF m 67 #[.val (.ref a1), .val (.int (3 : Int32)), .val (.int (1 : Int32)), .val (.int (16 : Int32))] [(.ref b51), (.ref a1)])) rfl rfl (hb hby d3_67)
  have F58 := Fld.same W58 c56
  have K59 : Keep h0 h58 [a1] := Keep.wr K51 W58 (Or.inl (List.mem_of_getElem? (i := 0) rfl))
  have N59 := Fr.snoc X58 N46 g_a1
  refine own_via st58 ?_
  show own_G p.tables e below _ (T58.setTop (mkF m 70 #[.val (.ref a1), .val (.int (3 : Int32)), .val (.int (1 : Int32)), .val (.int (16 : Int32))] []))
  refine own_via (S' := T58.setTop (mkF m 78 #[.val (.ref a1), .val (.int (3 : Int32)), .val (.int (1 : Int32)), .val (.int (16 : Int32))] [])) (fun t k => ?_) ?_
  · show Steps p.tables e below (T58.setTop (mkF m 70 #[.val (.ref a1), .val (.int (3 : Int32)), .val (.int (1 : Int32)), .val (.int (16 : Int32))] [])) t
    refine XS.goto X58.here hx rfl (pc0 := 70) (pc' := 78) rfl (hb hby d3_70) (by decide) (by decide) ?_
    exact k
  have c60 := (Exa.wr W58 c57)
  have c61 := (Fld.other W58 (Fld.ext E51 (Fld.keep (Fld.other W42 (Fld.ext E34 (Fld.other W31 (Fld.ext E24 (Fld.other W22 (Fld.ext E16 (Fld.other W14 (Fld.ext E10 (Fld.keep F5 Kc9 (ninS ne_a1_b2 nin0))) (Or.inr (slot_ne (Or.inr (hw _ (List.mem_of_getElem? (i := 18) rfl))) (Or.inl (hw _ (List.mem_of_getElem? (i := 24) rfl))) (by decide) (t := (.array .int)) (t' := (.array .int)) (by decide) (by decide))))) (Or.inr (slot_ne (Or.inr (hw _ (List.mem_of_getElem? (i := 18) rfl))) (Or.inl (hw _ (List.mem_of_getElem? (i := 26) rfl))) (by decide) (t := (.array .int)) (t' := (.array .int)) (by decide) (by decide))))) (Or.inr (slot_ne (Or.inr (hw _ (List.mem_of_getElem? (i := 18) rfl))) (Or.inl (hw _ (List.mem_of_getElem? (i := 28) rfl))) (by decide) (t := (.array .int)) (t' := (.array .int)) (by decide) (by decide))))) (Or.inr (slot_ne (Or.inr (hw _ (List.mem_of_getElem? (i := 18) rfl))) (Or.inr (hw _ (List.mem_of_getElem? (i := 30) rfl))) (by decide) (t := (.array .int)) (t' := (.array .int)) (by decide) (by decide)))) Kc46 (ninS ne_a1_b34 nin0))) (Or.inr (slot_ne (Or.inr (hw _ (List.mem_of_getElem? (i := 18) rfl))) (Or.inl (hw _ (List.mem_of_getElem? (i := 39) rfl))) (by decide) (t := (.array .int)) (t' := (.array .int)) (by decide) (by decide))))
  have c62 := (Fld.other W58 (Fld.ext E51 c47) (Or.inr (slot_ne (Or.inl (hw _ (List.mem_of_getElem? (i := 24) rfl))) (Or.inl (hw _ (List.mem_of_getElem? (i := 39) rfl))) (by decide) (t := (.array .int)) (t' := (.array .int)) (by decide) (by decide))))
  have c63 := (Fld.other W58 (Fld.ext E51 (Fld.keep (Fld.other W42 (Fld.ext E34 (Fld.other W31 (Fld.ext E24 F22) (Or.inr (slot_ne (Or.inl (hw _ (List.mem_of_getElem? (i := 26) rfl))) (Or.inl (hw _ (List.mem_of_getElem? (i := 28) rfl))) (by decide) (t := (.array .int)) (t' := (.array .int)) (by decide) (by decide))))) (Or.inr (slot_ne (Or.inl (hw _ (List.mem_of_getElem? (i := 26) rfl))) (Or.inr (hw _ (List.mem_of_getElem? (i := 30) rfl))) (by decide) (t := (.array .int)) (t' := (.array .int)) (by decide) (by decide)))) Kc46 (ninS ne_a1_b34 nin0))) (Or.inr (slot_ne (Or.inl (hw _ (List.mem_of_getElem? (i := 26) rfl))) (Or.inl (hw _ (List.mem_of_getElem? (i := 39) rfl))) (by decide) (t := (.array .int)) (t' := (.array .int)) (by decide) (by decide))))
  have c64 := (Fld.other W58 (Fld.ext E51 (Fld.keep (Fld.other W42 (Fld.ext E34 F31) (Or.inr (slot_ne (Or.inl (hw _ (List.mem_of_getElem? (i := 28) rfl))) (Or.inr (hw _ (List.mem_of_getElem? (i := 30) rfl))) (by decide) (t := (.array .int)) (t' := (.array .int)) (by decide) (by decide)))) Kc46 (ninS ne_a1_b34 nin0))) (Or.inr (slot_ne (Or.inl (hw _ (List.mem_of_getElem? (i := 28) rfl))) (Or.inl (hw _ (List.mem_of_getElem? (i := 39) rfl))) (by decide) (t := (.array .int)) (t' := (.array .int)) (by decide) (by decide))))
  have c65 := (Fld.other W58 (Fld.ext E51 (Fld.keep F42 Kc46 (ninS ne_a1_b34 nin0))) (Or.inr (slot_ne (Or.inr (hw _ (List.mem_of_getElem? (i := 30) rfl))) (Or.inl (hw _ (List.mem_of_getElem? (i := 39) rfl))) (by decide) (t := (.array .int)) (t' := (.array .int)) (by decide) (by decide))))
  have c66 := (Fld.other W58 (Fld.ext E51 (Fld.keep (Fld.other W42 (Fld.ext E34 (Fld.other W31 (Fld.ext E24 (Fld.other W22 (Fld.ext E16 (Fld.other W14 (Fld.ext E10 (Fld.keep (Fld.other W5 (Fld.ext E2 F6_0) (Or.inr (slot_ne (Or.inl (hw _ (List.mem_of_getElem? (i := 37) rfl))) (Or.inr (hw _ (List.mem_of_getElem? (i := 18) rfl))) (by decide) (t := .int) (t' := (.array .int)) (by decide) (by decide)))) Kc9 (ninS ne_a1_b2 nin0))) (Or.inr (slot_ne (Or.inl (hw _ (List.mem_of_getElem? (i := 37) rfl))) (Or.inl (hw _ (List.mem_of_getElem? (i := 24) rfl))) (by decide) (t := .int) (t' := (.array .int)) (by decide) (by decide))))) (Or.inr (slot_ne (Or.inl (hw _ (List.mem_of_getElem? (i := 37) rfl))) (Or.inl (hw _ (List.mem_of_getElem? (i := 26) rfl))) (by decide) (t := .int) (t' := (.array .int)) (by decide) (by decide))))) (Or.inr (slot_ne (Or.inl (hw _ (List.mem_of_getElem? (i := 37) rfl))) (Or.inl (hw _ (List.mem_of_getElem? (i := 28) rfl))) (by decide) (t := .int) (t' := (.array .int)) (by decide) (by decide))))) (Or.inr (slot_ne (Or.inl (hw _ (List.mem_of_getElem? (i := 37) rfl))) (Or.inr (hw _ (List.mem_of_getElem? (i := 30) rfl))) (by decide) (t := .int) (t' := (.array .int)) (by decide) (by decide)))) Kc46 (ninS ne_a1_b34 nin0))) (Or.inr (slot_ne (Or.inl (hw _ (List.mem_of_getElem? (i := 37) rfl))) (Or.inl (hw _ (List.mem_of_getElem? (i := 39) rfl))) (by decide) (t := .int) (t' := (.array .int)) (by decide) (by decide))))
  have c67 := (own_Ar.other (own_Ar.ext c53 E51) W58 (Ne.symm ne_a1_b2))
  have c68 := (own_Ar.other (own_Ar.ext c49 E51) W58 (Ne.symm ne_a1_b10))
  have c69 := (own_Ar.other (own_Ar.ext c54 E51) W58 (Ne.symm ne_a1_b16))
  have c70 := (own_Ar.other (own_Ar.ext c55 E51) W58 (Ne.symm ne_a1_b24))
  have c71 := (own_Ar.other (own_Ar.ext Vc46 E51) W58 (Ne.symm ne_a1_b34))
  have c72 := (own_Ar.other V_b51 W58 (Ne.symm ne_a1_b51))
  exact own_end (h := h58) X58 (v := none) Bd.notSynchronized (fun _ => rfl) (fun fs hr => X58.returnOut hx Bd.returns (hb hby d3_78) hr) e58 ⟨rfl, N59, K59, b2, b10, b16, b24, b34, b51, k2, k10, k16, k24, k34, k51, g_b2, g_b10, g_b16, g_b24, g_b34, g_b51, sz_b2, sz_b10, sz_b16, sz_b24, sz_b34, sz_b51, ne_a1_b2, ne_a1_b10, ne_a1_b16, ne_a1_b24, ne_a1_b34, ne_a1_b51, ne_b2_b10, ne_b2_b16, ne_b2_b24, ne_b2_b34, ne_b2_b51, ne_b10_b16, ne_b10_b24, ne_b10_b34, ne_b10_b51, ne_b16_b24, ne_b16_b34, ne_b16_b51, ne_b24_b34, ne_b24_b51, ne_b34_b51, ⟨c60, c61, c62, c63, c64, c65, F58, c66, c67, c68, c69, c70, c71, c72⟩⟩ (by decide) (by decide)
theorem d1_0 : decode prog_26_method_1_code 0 = .ok (.aload_n 0, 1) := by decide +kernel
theorem d1_1 : decode prog_26_method_1_code 1 = .ok (.iload_n 1, 1) := by decide +kernel
theorem d1_2 : decode prog_26_method_1_code 2 = .ok (.iconst 0, 1) := by decide +kernel
theorem d1_3 : decode prog_26_method_1_code 3 = .ok (.bipush 16, 2) := by decide +kernel
theorem d1_5 : decode prog_26_method_1_code 5 = .ok (.iload_n 2, 1) := by decide +kernel
theorem d1_6 : decode prog_26_method_1_code 6 = .ok (.invokestatic 1, 3) := by decide +kernel
theorem d1_9 : decode prog_26_method_1_code 9 = .ok (.invokespecial 7, 3) := by decide +kernel
theorem d1_12 : decode prog_26_method_1_code 12 = .ok (.return_, 1) := by decide +kernel
theorem pn1 : plainName "com/example/fenceline/fenceline/Digraph" = true := by first | (simp [plainName, overriddenIn]; done) | decide +kernel
theorem pd_1 : parseMethodDescriptor "(II)I" = some ⟨[.int, .int], some .int⟩ := by decide +kernel
theorem pd_2 : parseMethodDescriptor "(IZI)V" = some ⟨[.int, .boolean, .int], none⟩ := by decide +kernel
theorem ef1 (m : MethodId) (x0 : Addr) (x1 : Int32) (x2 : Int32) : entryFrame m #[(.ref x0), (.int x1), (.int x2)] 3 = mkF m 0 #[.val (.ref x0), .val (.int x1), .val (.int x2)] [] := by first | (simp [entryFrame, mkF, argsToLocals, Value.category]; done) | rfl
def Q1 (Z : State) (a1 : Addr) (h0 : Heap) (n0 : Nat) (v : Option Value) (h : Heap) (L : List Loc) : Prop := v = none ∧ Fr n0 L ∧ Keep h0 h [a1] ∧ ∃ (b0 b1 b2 b3 : Addr) (k0 k1 k2 k3 : ClassId), n0 ≤ b0 ∧ n0 ≤ b1 ∧ n0 ≤ b2 ∧ n0 ≤ b3 ∧ h0.size ≤ b0 ∧ h0.size ≤ b1 ∧ h0.size ≤ b2 ∧ h0.size ≤ b3 ∧ a1 ≠ b0 ∧ a1 ≠ b1 ∧ a1 ≠ b2 ∧ a1 ≠ b3 ∧ b0 ≠ b1 ∧ b0 ≠ b2 ∧ b0 ≠ b3 ∧ b1 ≠ b2 ∧ b1 ≠ b3 ∧ b2 ≠ b3 ∧ own_Gn Z h a1 b0 b1 b2 b3 k0 k1 k2 k3 own_g0n
set_option maxRecDepth 65536 in
set_option maxHeartbeats 40000000 in
theorem rm1 (l : Launch) (Z : State) (a0 : Array Value) (hw : ∀ d ∈ tables_1, d.before a0 Z = true) (ws : List Jvm.Cond) (a1 : Addr) (h0 : Heap) (n0 : Nat) (Z0 : n0 ≤ h0.size) (F0_0 : Fld Z h0 a1 "com/example/fenceline/fenceline/Digraph" "first" "[I" .null) (F1_0 : Fld Z h0 a1 "com/example/fenceline/fenceline/Digraph" "next" "[I" .null) (F2_0 : Fld Z h0 a1 "com/example/fenceline/fenceline/Digraph" "firstIn" "[I" .null) (F3_0 : Fld Z h0 a1 "com/example/fenceline/fenceline/Digraph" "nextIn" "[I" .null) (F4_0 : Fld Z h0 a1 "com/example/fenceline/fenceline/Digraph" "tails" "[I" .null) (F5_0 : Fld Z h0 a1 "com/example/fenceline/fenceline/Digraph" "heads" "[I" .null) (F6_0 : Fld Z h0 a1 "com/example/fenceline/fenceline/Digraph" "edgeCount" "I" (.int (0 : Int32))) (E_a1 : Exa Z h0 a1 "com/example/fenceline/fenceline/Digraph") (g_a1 : n0 ≤ a1) :
    MetFree l (⟨"com/example/fenceline/fenceline/Digraph", "<init>", "(II)V"⟩ : MethodName) (head1 (Jvm.Cond.code (⟨"com/example/fenceline/fenceline/Digraph", "<init>", "(II)V"⟩ : MethodName) prog_26_method_1_code 3 none :: ws) ({ frames := 2, cells := 4, slots := 51, locals := 30 } : Room)) (fun a U => a = #[(.ref a1), (.int (3 : Int32)), (.int (0 : Int32))] ∧ Z.Warmed39 U.vm ∧ U.heap = h0) (fun _ _ _ _ _ => True) (fun _ U o U' => ∃ v L, o = .returned v ∧ Q1 Z a1 h0 n0 v U'.heap L ∧ FrameEnd U o U' L ({ frames := 2, cells := 4, slots := 51, locals := 30 } : Room).cells ({ frames := 2, cells := 4, slots := 51, locals := 30 } : Room).slots) := by
  refine MetFree.of_bodySF (plainFor_of_name pn1) hisR ?_
  intro p e s m args below meth c s₁ Bd hml0 hP hK
  obtain ⟨rfl, hZ, hh⟩ := hP
  have hx := Bd.exec
  have hby := Bd.bytes
  have hml : c.maxLocals = 3 := hml0
  have hown : s.vm.findClass "com/example/fenceline/fenceline/Digraph" = some m.cls := findClass_of_methodNamed Bd.named
  have hnm := (name_of_methodNamed Bd.named Bd.method).1
  have X0 : Stand p l e ({ frames := 2, cells := 4, slots := 51, locals := 30 } : Room) s m #[(.ref a1), (.int (3 : Int32)), (.int (0 : Int32))] below meth c s₁ [] 0 0 := Stand.of_body Bd
  have e0 : s₁.heap = h0 := by rw [← hh, Bd.state]; rfl
  have N0 := Fr.nil n0
  refine (show own_G p.tables e below (own_P s (Q1 Z a1 h0 n0) 4 51) (s₁.setTop (entryFrame m #[(.ref a1), (.int (3 : Int32)), (.int (0 : Int32))] 3)) from ?_)
  refine own_via (fun t k => castTop (ef1 m a1 (3 : Int32) (0 : Int32)) k) ?_
  show own_G p.tables e below _ (s₁.setTop (mkF m 0 #[.val (.ref a1), .val (.int (3 : Int32)), .val (.int (0 : Int32))] []))
  have K0 := Keep.refl h0 [a1]
  refine own_via (S' := s₁.setTop (mkF m 6 #[.val (.ref a1), .val (.int (3 : Int32)), .val (.int (0 : Int32))] [(.int (0 : Int32)), (.int (16 : Int32)), (.int (0 : Int32)), (.int (3 : Int32)), (.ref a1)])) (fun t k => ?_) ?_
  · show Steps p.tables e below (s₁.setTop (mkF m 0 #[.val (.ref a1), .val (.int (3 : Int32)), .val (.int (0 : Int32))] [])) t
    refine XS.aloadN X0.here hx rfl (hb hby d1_0) rfl rfl ?_
    show Steps p.tables e below (s₁.setTop (mkF m 1 #[.val (.ref a1), .val (.int (3 : Int32)), .val (.int (0 : Int32))] [(.ref a1)])) t
    refine XS.iloadN X0.here hx rfl (hb hby d1_1) rfl ?_
    show Steps p.tables e below (s₁.setTop (mkF m 2 #[.val (.ref a1), .val (.int (3 : Int32)), .val (.int (0 : Int32))] [(.int (3 : Int32)), (.ref a1)])) t
    refine XS.iconst X0.here hx rfl (hb hby d1_2) ?_
    show Steps p.tables e below (s₁.setTop (mkF m 3 #[.val (.ref a1), .val (.int (3 : Int32)), .val (.int (0 : Int32))] [(.int (0 : Int32)), (.int (3 : Int32)), (.ref a1)])) t
    refine XS.bipush X0.here hx rfl (hb hby d1_3) ?_
    show Steps p.tables e below (s₁.setTop (mkF m 5 #[.val (.ref a1), .val (.int (3 : Int32)), .val (.int (0 : Int32))] [(.int (16 : Int32)), (.int (0 : Int32)), (.int (3 : Int32)), (.ref a1)])) t
    refine XS.iloadN X0.here hx rfl (hb hby d1_5) rfl ?_
    exact k
  obtain ⟨_, _, ⟨T1, L1, k1, n1⟩, -, X1, ⟨Lc1, hQ1, l1, y1, z1⟩, st1⟩ := Jvm.LawKit.callS X0 hx (y := (⟨"java/lang/Math", "max", "(II)I"⟩ : MethodName)) hown (mvT hZ (hw _ (List.mem_of_getElem? (i := 6) rfl))) (mvT hZ (hw _ (List.mem_of_getElem? (i := 7) rfl))) (mvT hZ (hw _ (List.mem_of_getElem? (i := 8) rfl))) (mvT hZ (hw _ (List.mem_of_getElem? (i := 9) rfl))) (by decide) (backOf (W := 3) (rm2 l Z a0 hw [] h0 n0 (Nat.le_trans Z0 K0.1)) hZ (hw _ (List.mem_of_getElem? (i := 9) rfl)) (hw _ (List.mem_of_getElem? (i := 8) rfl)) (by decide) (by decide)) (g := (mkF m 6 #[.val (.ref a1), .val (.int (3 : Int32)), .val (.int (0 : Int32))] [(.int (0 : Int32)), (.int (16 : Int32)), (.int (0 : Int32)), (.int (3 : Int32)), (.ref a1)])) rfl (by rw [hml]; rfl) (argsL := [(.int (16 : Int32)), (.int (0 : Int32))]) (rest := [(.int (0 : Int32)), (.int (3 : Int32)), (.ref a1)]) (lenOf pd_1 rfl) rfl (by show 2 * 0 + _ ≤ _; exact Nat.le_of_eq rfl) (hb hby d1_6) (fun _ _ => ⟨rfl, e0, (by decide : 0 + 0 ≤ _), (by decide : 0 + 0 ≤ _)⟩)
  dsimp only [Pt.U, Pt.locs, Pt.cells, Pt.slots] at X1 l1 y1 z1 st1 hQ1
  subst l1 y1 z1
  obtain ⟨rfl, Nq1, hh1⟩ := hQ1
  have N1 := Fr.app N0 Nq1
  refine own_via st1 ?_
  show own_G p.tables e below _ (T1.setTop (mkF m 9 #[.val (.ref a1), .val (.int (3 : Int32)), .val (.int (0 : Int32))] [(.int (16 : Int32)), (.int (0 : Int32)), (.int (3 : Int32)), (.ref a1)]))
  obtain ⟨_, _, ⟨T2, L2, k2, n2⟩, -, X2, ⟨Lc2, hQ2, l2, y2, z2⟩, st2⟩ := X1.specialBack hx (y := (⟨"com/example/fenceline/fenceline/Digraph", "<init>", "(IZI)V"⟩ : MethodName)) rfl hown (mvT hZ (hw _ (List.mem_of_getElem? (i := 10) rfl))) (mvT hZ (hw _ (List.mem_of_getElem? (i := 11) rfl))) (mvT hZ (hw _ (List.mem_of_getElem? (i := 12) rfl))) (by decide) (backOf (W := 0) (rm3n l Z a0 hw [] a1 h0 n0 (Nat.le_trans Z0 K0.1) F0_0 F1_0 F2_0 F3_0 F4_0 F5_0 F6_0 E_a1 g_a1) hZ (hw _ (List.mem_of_getElem? (i := 12) rfl)) (hw _ (List.mem_of_getElem? (i := 2) rfl)) (by decide) (by decide)) (g := (mkF m 9 #[.val (.ref a1), .val (.int (3 : Int32)), .val (.int (0 : Int32))] [(.int (16 : Int32)), (.int (0 : Int32)), (.int (3 : Int32)), (.ref a1)])) rfl (by rw [hml]; rfl) (Steps.refl _) (a := a1) (argsL := [(.int (3 : Int32)), (.int (0 : Int32)), (.int (16 : Int32))]) (rest := []) (lenOf pd_2 rfl) rfl (by show 2 * 0 + _ ≤ _; exact Nat.le_of_eq rfl) (hb hby d1_9) (fun _ _ => ⟨rfl, hh1, (by decide : 0 + 4 ≤ _), (by decide : 0 + 51 ≤ _)⟩)
  dsimp only [Pt.U, Pt.locs, Pt.cells, Pt.slots] at X2 l2 y2 z2 st2 hQ2
  subst l2 y2 z2
  obtain ⟨rfl, Nq2, Kc2, b02, b12, b22, b32, k02, k12, k22, k32, gg2_0, gg2_1, gg2_2, gg2_3, hs2_0, hs2_1, hs2_2, hs2_3, nn2_0, nn2_1, nn2_2, nn2_3, nn2_4, nn2_5, nn2_6, nn2_7, nn2_8, nn2_9, DS2⟩ := hQ2
  have N2 := Fr.app N1 Nq2
  refine own_via (fun t k => st2.trans k) ?_
  show own_G p.tables e below _ (T2.setTop (mkF m 12 #[.val (.ref a1), .val (.int (3 : Int32)), .val (.int (0 : Int32))] []))
  have K2 : Keep h0 T2.heap [a1] := Keep.trans K0 Kc2 (allS (Or.inl (List.mem_of_getElem? (i := 0) rfl)) all0)
  have sz2_0 : h0.size ≤ b02 := Nat.le_trans K0.1 hs2_0
  have sz2_1 : h0.size ≤ b12 := Nat.le_trans K0.1 hs2_1
  have sz2_2 : h0.size ≤ b22 := Nat.le_trans K0.1 hs2_2
  have sz2_3 : h0.size ≤ b32 := Nat.le_trans K0.1 hs2_3
  obtain ⟨D2_0, D2_1, D2_2, D2_3, D2_4, D2_5, D2_6, D2_7, D2_8, D2_9, D2_10, D2_11⟩ := id DS2
  exact own_end (h := T2.heap) X2 (v := none) Bd.notSynchronized (fun _ => rfl) (fun fs hr => X2.returnOut hx Bd.returns (hb hby d1_12) hr) rfl ⟨rfl, N2, K2, b02, b12, b22, b32, k02, k12, k22, k32, gg2_0, gg2_1, gg2_2, gg2_3, sz2_0, sz2_1, sz2_2, sz2_3, nn2_0, nn2_1, nn2_2, nn2_3, nn2_4, nn2_5, nn2_6, nn2_7, nn2_8, nn2_9, ⟨D2_0, D2_1, D2_2, D2_3, D2_4, D2_5, D2_6, D2_7, D2_8, D2_9, D2_10, D2_11⟩⟩ (by decide) (by decide)
theorem d11_0 : decode prog_26_method_5_code 0 = .ok (.new 8, 3) := by decide +kernel
theorem d11_3 : decode prog_26_method_5_code 3 = .ok (.dup, 1) := by decide +kernel
theorem d11_4 : decode prog_26_method_5_code 4 = .ok (.iload_n 0, 1) := by decide +kernel
theorem d11_5 : decode prog_26_method_5_code 5 = .ok (.iconst 1, 1) := by decide +kernel
theorem d11_6 : decode prog_26_method_5_code 6 = .ok (.bipush 16, 2) := by decide +kernel
theorem d11_8 : decode prog_26_method_5_code 8 = .ok (.iload_n 1, 1) := by decide +kernel
theorem d11_9 : decode prog_26_method_5_code 9 = .ok (.invokestatic 1, 3) := by decide +kernel
theorem d11_12 : decode prog_26_method_5_code 12 = .ok (.invokespecial 7, 3) := by decide +kernel
theorem d11_15 : decode prog_26_method_5_code 15 = .ok (.areturn, 1) := by decide +kernel
theorem pn11 : plainName "com/example/fenceline/fenceline/Digraph" = true := by first | (simp [plainName, overriddenIn]; done) | decide +kernel
theorem ef11 (m : MethodId) (x0 : Int32) (x1 : Int32) : entryFrame m #[(.int x0), (.int x1)] 2 = mkF m 0 #[.val (.int x0), .val (.int x1)] [] := by first | (simp [entryFrame, mkF, argsToLocals, Value.category]; done) | rfl
def Q11 (Z : State)  (h0 : Heap) (n0 : Nat) (v : Option Value) (h : Heap) (L : List Loc) : Prop := ∃ r : Addr, v = some (.ref r) ∧ Fr n0 L ∧ Keep h0 h [] ∧ n0 ≤ r ∧ h0.size ≤ r ∧ ∃ (b0 b1 b2 b3 b4 b5 : Addr) (k0 k1 k2 k3 k4 k5 : ClassId), n0 ≤ b0 ∧ n0 ≤ b1 ∧ n0 ≤ b2 ∧ n0 ≤ b3 ∧ n0 ≤ b4 ∧ n0 ≤ b5 ∧ h0.size ≤ b0 ∧ h0.size ≤ b1 ∧ h0.size ≤ b2 ∧ h0.size ≤ b3 ∧ h0.size ≤ b4 ∧ h0.size ≤ b5 ∧ r ≠ b0 ∧ r ≠ b1 ∧ r ≠ b2 ∧ r ≠ b3 ∧ r ≠ b4 ∧ r ≠ b5 ∧ b0 ≠ b1 ∧ b0 ≠ b2 ∧ b0 ≠ b3 ∧ b0 ≠ b4 ∧ b0 ≠ b5 ∧ b1 ≠ b2 ∧ b1 ≠ b3 ∧ b1 ≠ b4 ∧ b1 ≠ b5 ∧ b2 ≠ b3 ∧ b2 ≠ b4 ∧ b2 ≠ b5 ∧ b3 ≠ b4 ∧ b3 ≠ b5 ∧ b4 ≠ b5 ∧ own_Gi Z h r b0 b1 b2 b3 b4 b5 k0 k1 k2 k3 k4 k5 own_g0i
set_option maxRecDepth 65536 in
set_option maxHeartbeats 40000000 in
theorem rm11 (l : Launch) (Z : State) (a0 : Array Value) (hw : ∀ d ∈ tables_1, d.before a0 Z = true) (ws : List Jvm.Cond)  (h0 : Heap) (n0 : Nat) (Z0 : n0 ≤ h0.size) :
    MetFree l (⟨"com/example/fenceline/fenceline/Digraph", "withInEdges", "(II)Lcom/example/fenceline/fenceline/Digraph;"⟩ : MethodName) (head1 (Jvm.Cond.code (⟨"com/example/fenceline/fenceline/Digraph", "withInEdges", "(II)Lcom/example/fenceline/fenceline/Digraph;"⟩ : MethodName) prog_26_method_5_code 2 (some (.object "com/example/fenceline/fenceline/Digraph")) :: ws) ({ frames := 2, cells := 7, slots := 77, locals := 31 } : Room)) (fun a U => a = #[(.int (3 : Int32)), (.int (0 : Int32))] ∧ Z.Warmed39 U.vm ∧ U.heap = h0) (fun _ _ _ _ _ => True) (fun _ U o U' => ∃ v L, o = .returned v ∧ Q11 Z  h0 n0 v U'.heap L ∧ FrameEnd U o U' L ({ frames := 2, cells := 7, slots := 77, locals := 31 } : Room).cells ({ frames := 2, cells := 7, slots := 77, locals := 31 } : Room).slots) := by
  refine MetFree.of_bodySF (plainFor_of_name pn11) hisR ?_
  intro p e s m args below meth c s₁ Bd hml0 hP hK
  obtain ⟨rfl, hZ, hh⟩ := hP
  have hx := Bd.exec
  have hby := Bd.bytes
  have hml : c.maxLocals = 2 := hml0
  have hown : s.vm.findClass "com/example/fenceline/fenceline/Digraph" = some m.cls := findClass_of_methodNamed Bd.named
  have hnm := (name_of_methodNamed Bd.named Bd.method).1
  have X0 : Stand p l e ({ frames := 2, cells := 7, slots := 77, locals := 31 } : Room) s m #[(.int (3 : Int32)), (.int (0 : Int32))] below meth c s₁ [] 0 0 := Stand.of_body Bd
  have e0 : s₁.heap = h0 := by rw [← hh, Bd.state]; rfl
  have N0 := Fr.nil n0
  refine (show own_G p.tables e below (own_P s (Q11 Z  h0 n0) 7 77) (s₁.setTop (entryFrame m #[(.int (3 : Int32)), (.int (0 : Int32))] 2)) from ?_)
  refine own_via (fun t k => castTop (ef11 m (3 : Int32) (0 : Int32)) k) ?_
  show own_G p.tables e below _ (s₁.setTop (mkF m 0 #[.val (.int (3 : Int32)), .val (.int (0 : Int32))] []))
  have K0 := Keep.refl h0 []
  obtain ⟨T1, h1, X1, e1, E1, A1, D1, -, st1⟩ := newO X0 hx hZ hown (hw _ (List.mem_of_getElem? (i := 62) rfl)) (hw _ (List.mem_of_getElem? (i := 1) rfl)) (hw _ (List.mem_of_getElem? (i := 2) rfl)) e0 (g := (mkF m 0 #[.val (.int (3 : Int32)), .val (.int (0 : Int32))] [])) rfl (hb hby d11_0) (by decide) (by decide)
  obtain ⟨b1, g1⟩ : ∃ z, z = h0.size := ⟨_, rfl⟩
  have g_b1 : n0 ≤ b1 := Nat.le_trans (Nat.le_trans Z0 K0.1) (Nat.le_of_eq g1.symm)
  have sz_b1 : h0.size ≤ b1 := Nat.le_trans K0.1 (Nat.le_of_eq g1.symm)
  rw [← g1] at A1 D1 st1
  have K1 : Keep h0 h1 [] := Keep.ext K0 E1
  have F_first_b1 : Fld Z h1 b1 "com/example/fenceline/fenceline/Digraph" "first" "[I" .null := D1 (Or.inr (hw _ (List.mem_of_getElem? (i := 18) rfl))) (ty := (.array .int)) (by decide)
  have F_next_b1 : Fld Z h1 b1 "com/example/fenceline/fenceline/Digraph" "next" "[I" .null := D1 (Or.inl (hw _ (List.mem_of_getElem? (i := 24) rfl))) (ty := (.array .int)) (by decide)
  have F_tails_b1 : Fld Z h1 b1 "com/example/fenceline/fenceline/Digraph" "tails" "[I" .null := D1 (Or.inl (hw _ (List.mem_of_getElem? (i := 26) rfl))) (ty := (.array .int)) (by decide)
  have F_heads_b1 : Fld Z h1 b1 "com/example/fenceline/fenceline/Digraph" "heads" "[I" .null := D1 (Or.inl (hw _ (List.mem_of_getElem? (i := 28) rfl))) (ty := (.array .int)) (by decide)
  have F_firstIn_b1 : Fld Z h1 b1 "com/example/fenceline/fenceline/Digraph" "firstIn" "[I" .null := D1 (Or.inr (hw _ (List.mem_of_getElem? (i := 30) rfl))) (ty := (.array .int)) (by decide)
  have F_edgeCount_b1 : Fld Z h1 b1 "com/example/fenceline/fenceline/Digraph" "edgeCount" "I" (.int (0 : Int32)) := D1 (Or.inl (hw _ (List.mem_of_getElem? (i := 37) rfl))) (ty := .int) (by decide)
  have F_nextIn_b1 : Fld Z h1 b1 "com/example/fenceline/fenceline/Digraph" "nextIn" "[I" .null := D1 (Or.inl (hw _ (List.mem_of_getElem? (i := 39) rfl))) (ty := (.array .int)) (by decide)
  refine own_via st1 ?_
  show own_G p.tables e below _ (T1.setTop (mkF m 3 #[.val (.int (3 : Int32)), .val (.int (0 : Int32))] [(.ref b1)]))
  refine own_via (S' := T1.setTop (mkF m 9 #[.val (.int (3 : Int32)), .val (.int (0 : Int32))] [(.int (0 : Int32)), (.int (16 : Int32)), (.int (1 : Int32)), (.int (3 : Int32)), (.ref b1), (.ref b1)])) (fun t k => ?_) ?_
  · show Steps p.tables e below (T1.setTop (mkF m 3 #[.val (.int (3 : Int32)), .val (.int (0 : Int32))] [(.ref b1)])) t
    refine XS.dup X1.here hx rfl (hb hby d11_3) rfl rfl ?_
    show Steps p.tables e below (T1.setTop (mkF m 4 #[.val (.int (3 : Int32)), .val (.int (0 : Int32))] [(.ref b1), (.ref b1)])) t
    refine XS.iloadN X1.here hx rfl (hb hby d11_4) rfl ?_
    show Steps p.tables e below (T1.setTop (mkF m 5 #[.val (.int (3 : Int32)), .val (.int (0 : Int32))] [(.int (3 : Int32)), (.ref b1), (.ref b1)])) t
    refine XS.iconst X1.here hx rfl (hb hby d11_5) ?_
    show Steps p.tables e below (T1.setTop (mkF m 6 #[.val (.int (3 : Int32)), .val (.int (0 : Int32))] [(.int (1 : Int32)), (.int (3 : Int32)), (.ref b1), (.ref b1)])) t
    refine XS.bipush X1.here hx rfl (hb hby d11_6) ?_
    show Steps p.tables e below (T1.setTop (mkF m 8 #[.val (.int (3 : Int32)), .val (.int (0 : Int32))] [(.int (16 : Int32)), (.int (1 : Int32)), (.int (3 : Int32)), (.ref b1), (.ref b1)])) t
    refine XS.iloadN X1.here hx rfl (hb hby d11_8) rfl ?_
    exact k
  obtain ⟨_, _, ⟨T2, L2, k2, n2⟩, -, X2, ⟨Lc2, hQ2, l2, y2, z2⟩, st2⟩ := Jvm.LawKit.callS X1 hx (y := (⟨"java/lang/Math", "max", "(II)I"⟩ : MethodName)) hown (mvT hZ (hw _ (List.mem_of_getElem? (i := 6) rfl))) (mvT hZ (hw _ (List.mem_of_getElem? (i := 7) rfl))) (mvT hZ (hw _ (List.mem_of_getElem? (i := 8) rfl))) (mvT hZ (hw _ (List.mem_of_getElem? (i := 9) rfl))) (by decide) (backOf (W := 4) (rm2 l Z a0 hw [] h1 n0 (Nat.le_trans Z0 K1.1)) hZ (hw _ (List.mem_of_getElem? (i := 9) rfl)) (hw _ (List.mem_of_getElem? (i := 8) rfl)) (by decide) (by decide)) (g := (mkF m 9 #[.val (.int (3 : Int32)), .val (.int (0 : Int32))] [(.int (0 : Int32)), (.int (16 : Int32)), (.int (1 : Int32)), (.int (3 : Int32)), (.ref b1), (.ref b1)])) rfl (by rw [hml]; rfl) (argsL := [(.int (16 : Int32)), (.int (0 : Int32))]) (rest := [(.int (1 : Int32)), (.int (3 : Int32)), (.ref b1), (.ref b1)]) (lenOf pd_1 rfl) rfl (by show 2 * 0 + _ ≤ _; exact Nat.le_of_eq rfl) (hb hby d11_9) (fun _ _ => ⟨rfl, e1, (by decide : 1 + 0 ≤ _), (by decide : 7 + 0 ≤ _)⟩)
  dsimp only [Pt.U, Pt.locs, Pt.cells, Pt.slots] at X2 l2 y2 z2 st2 hQ2
  subst l2 y2 z2
  obtain ⟨rfl, Nq2, hh2⟩ := hQ2
  have N2 := Fr.app N0 Nq2
  refine own_via st2 ?_
  show own_G p.tables e below _ (T2.setTop (mkF m 12 #[.val (.int (3 : Int32)), .val (.int (0 : Int32))] [(.int (16 : Int32)), (.int (1 : Int32)), (.int (3 : Int32)), (.ref b1), (.ref b1)]))
  obtain ⟨_, _, ⟨T3, L3, k3, n3⟩, -, X3, ⟨Lc3, hQ3, l3, y3, z3⟩, st3⟩ := X2.specialBack hx (y := (⟨"com/example/fenceline/fenceline/Digraph", "<init>", "(IZI)V"⟩ : MethodName)) rfl hown (mvT hZ (hw _ (List.mem_of_getElem? (i := 10) rfl))) (mvT hZ (hw _ (List.mem_of_getElem? (i := 11) rfl))) (mvT hZ (hw _ (List.mem_of_getElem? (i := 12) rfl))) (by decide) (backOf (W := 1) (rm3i l Z a0 hw [] b1 h1 n0 (Nat.le_trans Z0 K1.1) F_first_b1 F_next_b1 F_firstIn_b1 F_nextIn_b1 F_tails_b1 F_heads_b1 F_edgeCount_b1 A1 g_b1) hZ (hw _ (List.mem_of_getElem? (i := 12) rfl)) (hw _ (List.mem_of_getElem? (i := 2) rfl)) (by decide) (by decide)) (g := (mkF m 12 #[.val (.int (3 : Int32)), .val (.int (0 : Int32))] [(.int (16 : Int32)), (.int (1 : Int32)), (.int (3 : Int32)), (.ref b1), (.ref b1)])) rfl (by rw [hml]; rfl) (Steps.refl _) (a := b1) (argsL := [(.int (3 : Int32)), (.int (1 : Int32)), (.int (16 : Int32))]) (rest := [(.ref b1)]) (lenOf pd_2 rfl) rfl (by show 2 * 0 + _ ≤ _; exact Nat.le_of_eq rfl) (hb hby d11_12) (fun _ _ => ⟨rfl, hh2, (by decide : 1 + 6 ≤ _), (by decide : 7 + 70 ≤ _)⟩)
  dsimp only [Pt.U, Pt.locs, Pt.cells, Pt.slots] at X3 l3 y3 z3 st3 hQ3
  subst l3 y3 z3
  obtain ⟨rfl, Nq3, Kc3, b03, b13, b23, b33, b43, b53, k03, k13, k23, k33, k43, k53, gg3_0, gg3_1, gg3_2, gg3_3, gg3_4, gg3_5, hs3_0, hs3_1, hs3_2, hs3_3, hs3_4, hs3_5, nn3_0, nn3_1, nn3_2, nn3_3, nn3_4, nn3_5, nn3_6, nn3_7, nn3_8, nn3_9, nn3_10, nn3_11, nn3_12, nn3_13, nn3_14, nn3_15, nn3_16, nn3_17, nn3_18, nn3_19, nn3_20, DS3⟩ := hQ3
  have N3 := Fr.app N2 Nq3
  refine own_via (fun t k => st3.trans k) ?_
  show own_G p.tables e below _ (T3.setTop (mkF m 15 #[.val (.int (3 : Int32)), .val (.int (0 : Int32))] [(.ref b1)]))
  have K3 : Keep h0 T3.heap [] := Keep.trans K1 Kc3 (allS (Or.inr sz_b1) all0)
  have sz3_0 : h0.size ≤ b03 := Nat.le_trans K1.1 hs3_0
  have sz3_1 : h0.size ≤ b13 := Nat.le_trans K1.1 hs3_1
  have sz3_2 : h0.size ≤ b23 := Nat.le_trans K1.1 hs3_2
  have sz3_3 : h0.size ≤ b33 := Nat.le_trans K1.1 hs3_3
  have sz3_4 : h0.size ≤ b43 := Nat.le_trans K1.1 hs3_4
  have sz3_5 : h0.size ≤ b53 := Nat.le_trans K1.1 hs3_5
  obtain ⟨D3_0, D3_1, D3_2, D3_3, D3_4, D3_5, D3_6, D3_7, D3_8, D3_9, D3_10, D3_11, D3_12, D3_13⟩ := id DS3
  exact own_end (h := T3.heap) X3 (v := some (.ref b1)) Bd.notSynchronized (fun h => by rw [Bd.returns] at h; cases h) (fun fs hr => retOut X3 hx Bd.returns rfl (Or.inr (Or.inr (Or.inr (Or.inr ⟨rfl, rfl, rfl⟩)))) (hb hby d11_15) hr) rfl ⟨b1, rfl, N3, K3, g_b1, sz_b1, b03, b13, b23, b33, b43, b53, k03, k13, k23, k33, k43, k53, gg3_0, gg3_1, gg3_2, gg3_3, gg3_4, gg3_5, sz3_0, sz3_1, sz3_2, sz3_3, sz3_4, sz3_5, nn3_0, nn3_1, nn3_2, nn3_3, nn3_4, nn3_5, nn3_6, nn3_7, nn3_8, nn3_9, nn3_10, nn3_11, nn3_12, nn3_13, nn3_14, nn3_15, nn3_16, nn3_17, nn3_18, nn3_19, nn3_20, ⟨D3_0, D3_1, D3_2, D3_3, D3_4, D3_5, D3_6, D3_7, D3_8, D3_9, D3_10, D3_11, D3_12, D3_13⟩⟩ (by decide) (by decide)
theorem d6_0 : decode prog_26_method_9_code 0 = .ok (.aload_n 0, 1) := by decide +kernel
theorem d6_1 : decode prog_26_method_9_code 1 = .ok (.getfield 51, 3) := by decide +kernel
theorem d6_4 : decode prog_26_method_9_code 4 = .ok (.aload_n 0, 1) := by decide +kernel
theorem d6_5 : decode prog_26_method_9_code 5 = .ok (.getfield 34, 3) := by decide +kernel
theorem d6_8 : decode prog_26_method_9_code 8 = .ok (.arraylength, 1) := by decide +kernel
theorem d6_9 : decode prog_26_method_9_code 9 = .ok (.if_icmp .ne 70, 3) := by decide +kernel
theorem d6_79 : decode prog_26_method_9_code 79 = .ok (.aload_n 0, 1) := by decide +kernel
theorem d6_80 : decode prog_26_method_9_code 80 = .ok (.getfield 28, 3) := by decide +kernel
theorem d6_83 : decode prog_26_method_9_code 83 = .ok (.aload_n 0, 1) := by decide +kernel
theorem d6_84 : decode prog_26_method_9_code 84 = .ok (.getfield 51, 3) := by decide +kernel
theorem d6_87 : decode prog_26_method_9_code 87 = .ok (.aload_n 0, 1) := by decide +kernel
theorem d6_88 : decode prog_26_method_9_code 88 = .ok (.getfield 18, 3) := by decide +kernel
theorem d6_91 : decode prog_26_method_9_code 91 = .ok (.iload_n 1, 1) := by decide +kernel
theorem d6_92 : decode prog_26_method_9_code 92 = .ok (.iaload, 1) := by decide +kernel
theorem d6_93 : decode prog_26_method_9_code 93 = .ok (.iastore, 1) := by decide +kernel
theorem d6_94 : decode prog_26_method_9_code 94 = .ok (.aload_n 0, 1) := by decide +kernel
theorem d6_95 : decode prog_26_method_9_code 95 = .ok (.getfield 31, 3) := by decide +kernel
theorem d6_98 : decode prog_26_method_9_code 98 = .ok (.aload_n 0, 1) := by decide +kernel
theorem d6_99 : decode prog_26_method_9_code 99 = .ok (.getfield 51, 3) := by decide +kernel
theorem d6_102 : decode prog_26_method_9_code 102 = .ok (.iload_n 1, 1) := by decide +kernel
theorem d6_103 : decode prog_26_method_9_code 103 = .ok (.iastore, 1) := by decide +kernel
theorem d6_104 : decode prog_26_method_9_code 104 = .ok (.aload_n 0, 1) := by decide +kernel
theorem d6_105 : decode prog_26_method_9_code 105 = .ok (.getfield 34, 3) := by decide +kernel
theorem d6_108 : decode prog_26_method_9_code 108 = .ok (.aload_n 0, 1) := by decide +kernel
theorem d6_109 : decode prog_26_method_9_code 109 = .ok (.getfield 51, 3) := by decide +kernel
theorem d6_112 : decode prog_26_method_9_code 112 = .ok (.iload_n 2, 1) := by decide +kernel
theorem d6_113 : decode prog_26_method_9_code 113 = .ok (.iastore, 1) := by decide +kernel
theorem d6_114 : decode prog_26_method_9_code 114 = .ok (.aload_n 0, 1) := by decide +kernel
theorem d6_115 : decode prog_26_method_9_code 115 = .ok (.getfield 18, 3) := by decide +kernel
theorem d6_118 : decode prog_26_method_9_code 118 = .ok (.iload_n 1, 1) := by decide +kernel
theorem d6_119 : decode prog_26_method_9_code 119 = .ok (.aload_n 0, 1) := by decide +kernel
theorem d6_120 : decode prog_26_method_9_code 120 = .ok (.getfield 51, 3) := by decide +kernel
theorem d6_123 : decode prog_26_method_9_code 123 = .ok (.iastore, 1) := by decide +kernel
theorem d6_124 : decode prog_26_method_9_code 124 = .ok (.aload_n 0, 1) := by decide +kernel
theorem d6_125 : decode prog_26_method_9_code 125 = .ok (.getfield 40, 3) := by decide +kernel
theorem d6_128 : decode prog_26_method_9_code 128 = .ok (.ifnull 28, 3) := by decide +kernel
theorem d6_156 : decode prog_26_method_9_code 156 = .ok (.aload_n 0, 1) := by decide +kernel
theorem d6_157 : decode prog_26_method_9_code 157 = .ok (.dup, 1) := by decide +kernel
theorem d6_158 : decode prog_26_method_9_code 158 = .ok (.getfield 51, 3) := by decide +kernel
theorem d6_161 : decode prog_26_method_9_code 161 = .ok (.iconst 1, 1) := by decide +kernel
theorem d6_162 : decode prog_26_method_9_code 162 = .ok (.iadd, 1) := by decide +kernel
theorem d6_163 : decode prog_26_method_9_code 163 = .ok (.putfield 51, 3) := by decide +kernel
theorem d6_166 : decode prog_26_method_9_code 166 = .ok (.return_, 1) := by decide +kernel
theorem pn6 : plainName "com/example/fenceline/fenceline/Digraph" = true := by first | (simp [plainName, overriddenIn]; done) | decide +kernel
theorem ef6 (m : MethodId) (x0 : Addr) (x1 : Int32) (x2 : Int32) : entryFrame m #[(.ref x0), (.int x1), (.int x2)] 4 = mkF m 0 #[.val (.ref x0), .val (.int x1), .val (.int x2), .unset] [] := by first | (simp [entryFrame, mkF, argsToLocals, Value.category]; done) | rfl
def Q6n (Z : State) (a1 : Addr) (p2 : Int32) (p3 : Int32) (b0 : Addr) (b1 : Addr) (b2 : Addr) (b3 : Addr) (k0 : ClassId) (k1 : ClassId) (k2 : ClassId) (k3 : ClassId) (S : own_TGn) (h0 : Heap) (n0 : Nat) (v : Option Value) (h : Heap) (L : List Loc) : Prop := v = none ∧ Fr n0 L ∧ Keep h0 h [a1, b0, b1, b2, b3] ∧ ∃ S' : own_TGn, S' = own_addn S p2 p3 ∧ own_Gn Z h a1 b0 b1 b2 b3 k0 k1 k2 k3 S'
set_option maxRecDepth 65536 in
set_option maxHeartbeats 40000000 in
theorem rm6n (l : Launch) (Z : State) (a0 : Array Value) (hw : ∀ d ∈ tables_1, d.before a0 Z = true) (ws : List Jvm.Cond) (a1 : Addr) (p2 : Int32) (p3 : Int32) (b0 : Addr) (b1 : Addr) (b2 : Addr) (b3 : Addr) (k0 : ClassId) (k1 : ClassId) (k2 : ClassId) (k3 : ClassId) (S : own_TGn) (h0 : Heap) (n0 : Nat) (Z0 : n0 ≤ h0.size) (DS0 : own_Gn Z h0 a1 b0 b1 b2 b3 k0 k1 k2 k3 S) (ne0 : a1 ≠ b0) (ne1 : a1 ≠ b1) (ne2 : a1 ≠ b2) (ne3 : a1 ≠ b3) (ne4 : b0 ≠ b1) (ne5 : b0 ≠ b2) (ne6 : b0 ≠ b3) (ne7 : b1 ≠ b2) (ne8 : b1 ≠ b3) (ne9 : b2 ≠ b3) (g0 : n0 ≤ a1) (g1 : n0 ≤ b0) (g2 : n0 ≤ b1) (g3 : n0 ≤ b2) (g4 : n0 ≤ b3) (hpre : own_pEn S p2 p3) :
    MetFree l (⟨"com/example/fenceline/fenceline/Digraph", "addEdge", "(II)V"⟩ : MethodName) (head1 (Jvm.Cond.code (⟨"com/example/fenceline/fenceline/Digraph", "addEdge", "(II)V"⟩ : MethodName) prog_26_method_9_code 4 none :: ws) ({ frames := 0, cells := 0, slots := 0, locals := 0 } : Room)) (fun a U => a = #[(.ref a1), (.int p2), (.int p3)] ∧ Z.Warmed39 U.vm ∧ U.heap = h0) (fun _ _ _ _ _ => True) (fun _ U o U' => ∃ v L, o = .returned v ∧ Q6n Z a1 p2 p3 b0 b1 b2 b3 k0 k1 k2 k3 S h0 n0 v U'.heap L ∧ FrameEnd U o U' L ({ frames := 0, cells := 0, slots := 0, locals := 0 } : Room).cells ({ frames := 0, cells := 0, slots := 0, locals := 0 } : Room).slots) := by
  refine MetFree.of_bodySF (plainFor_of_name pn6) hisR ?_
  intro p e s m args below meth c s₁ Bd hml0 hP hK
  obtain ⟨rfl, hZ, hh⟩ := hP
  have hx := Bd.exec
  have hby := Bd.bytes
  have hml : c.maxLocals = 4 := hml0
  have hown : s.vm.findClass "com/example/fenceline/fenceline/Digraph" = some m.cls := findClass_of_methodNamed Bd.named
  have hnm := (name_of_methodNamed Bd.named Bd.method).1
  have X0 : Stand p l e ({ frames := 0, cells := 0, slots := 0, locals := 0 } : Room) s m #[(.ref a1), (.int p2), (.int p3)] below meth c s₁ [] 0 0 := Stand.of_body Bd
  have e0 : s₁.heap = h0 := by rw [← hh, Bd.state]; rfl
  have N0 := Fr.nil n0
  refine (show own_G p.tables e below (own_P s (Q6n Z a1 p2 p3 b0 b1 b2 b3 k0 k1 k2 k3 S h0 n0) 0 0) (s₁.setTop (entryFrame m #[(.ref a1), (.int p2), (.int p3)] 4)) from ?_)
  refine own_via (fun t k => castTop (ef6 m a1 p2 p3) k) ?_
  show own_G p.tables e below _ (s₁.setTop (mkF m 0 #[.val (.ref a1), .val (.int p2), .val (.int p3), .unset] []))
  obtain ⟨Dz_0, Dz_1, Dz_2, Dz_3, Dz_4, Dz_5, Dz_6, Dz_7, Dz_8, Dz_9, Dz_10, Dz_11⟩ := id DS0
  have K0 := Keep.refl h0 [a1, b0, b1, b2, b3]
  refine own_via (S' := s₁.setTop (mkF m 1 #[.val (.ref a1), .val (.int p2), .val (.int p3), .unset] [(.ref a1)])) (fun t k => ?_) ?_
  · show Steps p.tables e below (s₁.setTop (mkF m 0 #[.val (.ref a1), .val (.int p2), .val (.int p3), .unset] [])) t
    refine XS.aloadN X0.here hx rfl (hb hby d6_0) rfl rfl ?_
    exact k
  obtain ⟨T1, X1, e1, st1⟩ := getF X0 hx hZ hown (host := "") (Or.inl (hw _ (List.mem_of_getElem? (i := 36) rfl))) Via.refl e0 Dz_5 (g := (mkF m 1 #[.val (.ref a1), .val (.int p2), .val (.int p3), .unset] [(.ref a1)])) rfl rfl (hb hby d6_1)
  refine own_via st1 ?_
  show own_G p.tables e below _ (T1.setTop (mkF m 4 #[.val (.ref a1), .val (.int p2), .val (.int p3), .unset] [(.int S.2.2.2.2)]))
  refine own_via (S' := T1.setTop (mkF m 5 #[.val (.ref a1), .val (.int p2), .val (.int p3), .unset] [(.ref a1), (.int S.2.2.2.2)])) (fun t k => ?_) ?_
  · show Steps p.tables e below (T1.setTop (mkF m 4 #[.val (.ref a1), .val (.int p2), .val (.int p3), .unset] [(.int S.2.2.2.2)])) t
    refine XS.aloadN X1.here hx rfl (hb hby d6_4) rfl rfl ?_
    exact k
  obtain ⟨T2, X2, e2, st2⟩ := getF X1 hx hZ hown (host := "") (Or.inl (hw _ (List.mem_of_getElem? (i := 27) rfl))) Via.refl e1 Dz_4 (g := (mkF m 5 #[.val (.ref a1), .val (.int p2), .val (.int p3), .unset] [(.ref a1), (.int S.2.2.2.2)])) rfl rfl (hb hby d6_5)
  refine own_via st2 ?_
  show own_G p.tables e below _ (T2.setTop (mkF m 8 #[.val (.ref a1), .val (.int p2), .val (.int p3), .unset] [(.ref b3), (.int S.2.2.2.2)]))
  obtain ⟨⟨cl3, Ar3, q3, S3, Nn3, H3, G3⟩, Le3⟩ := id Dz_11
  refine own_via (S' := T2.setTop (mkF m 9 #[.val (.ref a1), .val (.int p2), .val (.int p3), .unset] [(.int (16 : Int32)), (.int S.2.2.2.2)])) (fun t kz_ => X2.arraylength hx (by rw [e2]; exact Ar3.1) (State.isArrayOf_alike hZ.alike Ar3.2.1) (g := (mkF m 8 #[.val (.ref a1), .val (.int p2), .val (.int p3), .unset] [(.ref b3), (.int S.2.2.2.2)])) rfl rfl (hb hby d6_8) _ (by rw [len_of S3 Nn3]; exact kz_)) ?_
  refine own_via (S' := T2.setTop (mkF m 79 #[.val (.ref a1), .val (.int p2), .val (.int p3), .unset] [])) (fun t k => XS.icmpYes (g := (mkF m 9 #[.val (.ref a1), .val (.int p2), .val (.int p3), .unset] [(.int (16 : Int32)), (.int S.2.2.2.2)])) X2.here hx rfl (pc0 := 9) (pc' := 79) rfl (hb hby d6_9) rfl (feq hpre.2.2.2).2 (by decide) (by decide) k) ?_
  refine own_via (S' := T2.setTop (mkF m 80 #[.val (.ref a1), .val (.int p2), .val (.int p3), .unset] [(.ref a1)])) (fun t k => ?_) ?_
  · show Steps p.tables e below (T2.setTop (mkF m 79 #[.val (.ref a1), .val (.int p2), .val (.int p3), .unset] [])) t
    refine XS.aloadN X2.here hx rfl (hb hby d6_79) rfl rfl ?_
    exact k
  obtain ⟨T5, X5, e5, st5⟩ := getF X2 hx hZ hown (host := "") (Or.inl (hw _ (List.mem_of_getElem? (i := 23) rfl))) Via.refl e2 Dz_2 (g := (mkF m 80 #[.val (.ref a1), .val (.int p2), .val (.int p3), .unset] [(.ref a1)])) rfl rfl (hb hby d6_80)
  refine own_via st5 ?_
  show own_G p.tables e below _ (T5.setTop (mkF m 83 #[.val (.ref a1), .val (.int p2), .val (.int p3), .unset] [(.ref b1)]))
  refine own_via (S' := T5.setTop (mkF m 84 #[.val (.ref a1), .val (.int p2), .val (.int p3), .unset] [(.ref a1), (.ref b1)])) (fun t k => ?_) ?_
  · show Steps p.tables e below (T5.setTop (mkF m 83 #[.val (.ref a1), .val (.int p2), .val (.int p3), .unset] [(.ref b1)])) t
    refine XS.aloadN X5.here hx rfl (hb hby d6_83) rfl rfl ?_
    exact k
  obtain ⟨T6, X6, e6, st6⟩ := getF X5 hx hZ hown (host := "") (Or.inl (hw _ (List.mem_of_getElem? (i := 36) rfl))) Via.refl e5 Dz_5 (g := (mkF m 84 #[.val (.ref a1), .val (.int p2), .val (.int p3), .unset] [(.ref a1), (.ref b1)])) rfl rfl (hb hby d6_84)
  refine own_via st6 ?_
  show own_G p.tables e below _ (T6.setTop (mkF m 87 #[.val (.ref a1), .val (.int p2), .val (.int p3), .unset] [(.int S.2.2.2.2), (.ref b1)]))
  refine own_via (S' := T6.setTop (mkF m 88 #[.val (.ref a1), .val (.int p2), .val (.int p3), .unset] [(.ref a1), (.int S.2.2.2.2), (.ref b1)])) (fun t k => ?_) ?_
  · show Steps p.tables e below (T6.setTop (mkF m 87 #[.val (.ref a1), .val (.int p2), .val (.int p3), .unset] [(.int S.2.2.2.2), (.ref b1)])) t
    refine XS.aloadN X6.here hx rfl (hb hby d6_87) rfl rfl ?_
    exact k
  obtain ⟨T7, X7, e7, st7⟩ := getF X6 hx hZ hown (host := "") (Or.inl (hw _ (List.mem_of_getElem? (i := 17) rfl))) Via.refl e6 Dz_1 (g := (mkF m 88 #[.val (.ref a1), .val (.int p2), .val (.int p3), .unset] [(.ref a1), (.int S.2.2.2.2), (.ref b1)])) rfl rfl (hb hby d6_88)
  refine own_via st7 ?_
  show own_G p.tables e below _ (T7.setTop (mkF m 91 #[.val (.ref a1), .val (.int p2), .val (.int p3), .unset] [(.ref b0), (.int S.2.2.2.2), (.ref b1)]))
  refine own_via (S' := T7.setTop (mkF m 92 #[.val (.ref a1), .val (.int p2), .val (.int p3), .unset] [(.int p2), (.ref b0), (.int S.2.2.2.2), (.ref b1)])) (fun t k => ?_) ?_
  · show Steps p.tables e below (T7.setTop (mkF m 91 #[.val (.ref a1), .val (.int p2), .val (.int p3), .unset] [(.ref b0), (.int S.2.2.2.2), (.ref b1)])) t
    refine XS.iloadN X7.here hx rfl (hb hby d6_91) rfl ?_
    exact k
  obtain ⟨⟨cl8, Ar8, q8, S8, Nn8, H8, G8⟩, Le8⟩ := id Dz_8
  have hin8 : ¬ (p2 < 0 ∨ cl8.slots.size ≤ (p2).toNatClampNeg) := inb_of S8 hpre.1
  have hat8 : cl8.slots[(p2).toNatClampNeg]? = some (.int (S.1.getD (p2).toNatClampNeg 0)) := Has.at H8 hin8 (own_gI _ _)
  refine own_via (S' := T7.setTop (mkF m 93 #[.val (.ref a1), .val (.int p2), .val (.int p3), .unset] [(.int (S.1.getD (p2).toNatClampNeg 0)), (.int S.2.2.2.2), (.ref b1)])) (fun t kz_ => X7.iaload hx (j := p2) (v := (.int (S.1.getD (p2).toNatClampNeg 0))) (by rw [e7]; exact Ar8.1) (State.isArrayOf_alike hZ.alike Ar8.2.1) Ar8.2.2 hin8 hat8 (g := (mkF m 92 #[.val (.ref a1), .val (.int p2), .val (.int p3), .unset] [(.int p2), (.ref b0), (.int S.2.2.2.2), (.ref b1)])) rfl rfl (hb hby d6_92) _ kz_) ?_
  obtain ⟨⟨cl9, Ar9, q9, S9, Nn9, H9, G9⟩, Le9⟩ := id Dz_9
  have hin9 : ¬ (S.2.2.2.2 < 0 ∨ cl9.slots.size ≤ (S.2.2.2.2).toNatClampNeg) := inb_of S9 hpre.2.2.1
  obtain ⟨T9, h9, X9, e9, W9, st9⟩ := stI X7 hx hZ e7 Ar9 (j := S.2.2.2.2) hin9 (g := (mkF m 93 #[.val (.ref a1), .val (.int p2), .val (.int p3), .unset] [(.int (S.1.getD (p2).toNatClampNeg 0)), (.int S.2.2.2.2), (.ref b1)])) rfl rfl (hb hby d6_93)
  have V9 : own_Ar Z h9 b1 k1 .int (16 : Int32) (List.map Value.int (S.2.1.set (S.2.2.2.2).toNatClampNeg (S.1.getD (p2).toNatClampNeg 0))) (.int (0 : Int32)) := own_Ar.setI Ar9 q9 S9 Nn9 H9 G9 rfl W9 hin9 Le9
  have K10 : Keep h0 h9 [a1, b0, b1, b2, b3] := Keep.wr K0 W9 (Or.inl (List.mem_of_getElem? (i := 2) rfl))
  have N10 := Fr.snoc X9 N0 g2
  refine own_via st9 ?_
  show own_G p.tables e below _ (T9.setTop (mkF m 94 #[.val (.ref a1), .val (.int p2), .val (.int p3), .unset] []))
  refine own_via (S' := T9.setTop (mkF m 95 #[.val (.ref a1), .val (.int p2), .val (.int p3), .unset] [(.ref a1)])) (fun t k => ?_) ?_
  · show Steps p.tables e below (T9.setTop (mkF m 94 #[.val (.ref a1), .val (.int p2), .val (.int p3), .unset] [])) t
    refine XS.aloadN X9.here hx rfl (hb hby d6_94) rfl rfl ?_
    exact k
  have c11 := (Fld.other W9 Dz_3 (Or.inl ne1))
  obtain ⟨T12, X12, e12, st12⟩ := getF X9 hx hZ hown (host := "") (Or.inl (hw _ (List.mem_of_getElem? (i := 25) rfl))) Via.refl e9 c11 (g := (mkF m 95 #[.val (.ref a1), .val (.int p2), .val (.int p3), .unset] [(.ref a1)])) rfl rfl (hb hby d6_95)
  refine own_via st12 ?_
  show own_G p.tables e below _ (T12.setTop (mkF m 98 #[.val (.ref a1), .val (.int p2), .val (.int p3), .unset] [(.ref b2)]))
  refine own_via (S' := T12.setTop (mkF m 99 #[.val (.ref a1), .val (.int p2), .val (.int p3), .unset] [(.ref a1), (.ref b2)])) (fun t k => ?_) ?_
  · show Steps p.tables e below (T12.setTop (mkF m 98 #[.val (.ref a1), .val (.int p2), .val (.int p3), .unset] [(.ref b2)])) t
    refine XS.aloadN X12.here hx rfl (hb hby d6_98) rfl rfl ?_
    exact k
  have c13 := (Fld.other W9 Dz_5 (Or.inl ne1))
  obtain ⟨T14, X14, e14, st14⟩ := getF X12 hx hZ hown (host := "") (Or.inl (hw _ (List.mem_of_getElem? (i := 36) rfl))) Via.refl e12 c13 (g := (mkF m 99 #[.val (.ref a1), .val (.int p2), .val (.int p3), .unset] [(.ref a1), (.ref b2)])) rfl rfl (hb hby d6_99)
  refine own_via st14 ?_
  show own_G p.tables e below _ (T14.setTop (mkF m 102 #[.val (.ref a1), .val (.int p2), .val (.int p3), .unset] [(.int S.2.2.2.2), (.ref b2)]))
  refine own_via (S' := T14.setTop (mkF m 103 #[.val (.ref a1), .val (.int p2), .val (.int p3), .unset] [(.int p2), (.int S.2.2.2.2), (.ref b2)])) (fun t k => ?_) ?_
  · show Steps p.tables e below (T14.setTop (mkF m 102 #[.val (.ref a1), .val (.int p2), .val (.int p3), .unset] [(.int S.2.2.2.2), (.ref b2)])) t
    refine XS.iloadN X14.here hx rfl (hb hby d6_102) rfl ?_
    exact k
  have c15 := (own_Ar.other Dz_10 W9 (Ne.symm ne7))
  obtain ⟨⟨cl16, Ar16, q16, S16, Nn16, H16, G16⟩, Le16⟩ := id c15
  have hin16 : ¬ (S.2.2.2.2 < 0 ∨ cl16.slots.size ≤ (S.2.2.2.2).toNatClampNeg) := inb_of S16 hpre.2.2.1
  obtain ⟨T16, h16, X16, e16, W16, st16⟩ := stI X14 hx hZ e14 Ar16 (j := S.2.2.2.2) hin16 (g := (mkF m 103 #[.val (.ref a1), .val (.int p2), .val (.int p3), .unset] [(.int p2), (.int S.2.2.2.2), (.ref b2)])) rfl rfl (hb hby d6_103)
  have V16 : own_Ar Z h16 b2 k2 .int (16 : Int32) (List.map Value.int (S.2.2.1.set (S.2.2.2.2).toNatClampNeg p2)) (.int (0 : Int32)) := own_Ar.setI Ar16 q16 S16 Nn16 H16 G16 rfl W16 hin16 Le16
  have K17 : Keep h0 h16 [a1, b0, b1, b2, b3] := Keep.wr K10 W16 (Or.inl (List.mem_of_getElem? (i := 3) rfl))
  have N17 := Fr.snoc X16 N10 g3
  refine own_via st16 ?_
  show own_G p.tables e below _ (T16.setTop (mkF m 104 #[.val (.ref a1), .val (.int p2), .val (.int p3), .unset] []))
  refine own_via (S' := T16.setTop (mkF m 105 #[.val (.ref a1), .val (.int p2), .val (.int p3), .unset] [(.ref a1)])) (fun t k => ?_) ?_
  · show Steps p.tables e below (T16.setTop (mkF m 104 #[.val (.ref a1), .val (.int p2), .val (.int p3), .unset] [])) t
    refine XS.aloadN X16.here hx rfl (hb hby d6_104) rfl rfl ?_
    exact k
  have c18 := (Fld.other W16 (Fld.other W9 Dz_4 (Or.inl ne1)) (Or.inl ne2))
  obtain ⟨T19, X19, e19, st19⟩ := getF X16 hx hZ hown (host := "") (Or.inl (hw _ (List.mem_of_getElem? (i := 27) rfl))) Via.refl e16 c18 (g := (mkF m 105 #[.val (.ref a1), .val (.int p2), .val (.int p3), .unset] [(.ref a1)])) rfl rfl (hb hby d6_105)
  refine own_via st19 ?_
  show own_G p.tables e below _ (T19.setTop (mkF m 108 #[.val (.ref a1), .val (.int p2), .val (.int p3), .unset] [(.ref b3)]))
  refine own_via (S' := T19.setTop (mkF m 109 #[.val (.ref a1), .val (.int p2), .val (.int p3), .unset] [(.ref a1), (.ref b3)])) (fun t k => ?_) ?_
  · show Steps p.tables e below (T19.setTop (mkF m 108 #[.val (.ref a1), .val (.int p2), .val (.int p3), .unset] [(.ref b3)])) t
    refine XS.aloadN X19.here hx rfl (hb hby d6_108) rfl rfl ?_
    exact k
  have c20 := (Fld.other W16 c13 (Or.inl ne2))
  obtain ⟨T21, X21, e21, st21⟩ := getF X19 hx hZ hown (host := "") (Or.inl (hw _ (List.mem_of_getElem? (i := 36) rfl))) Via.refl e19 c20 (g := (mkF m 109 #[.val (.ref a1), .val (.int p2), .val (.int p3), .unset] [(.ref a1), (.ref b3)])) rfl rfl (hb hby d6_109)
  refine own_via st21 ?_
  show own_G p.tables e below _ (T21.setTop (mkF m 112 #[.val (.ref a1), .val (.int p2), .val (.int p3), .unset] [(.int S.2.2.2.2), (.ref b3)]))
  refine own_via (S' := T21.setTop (mkF m 113 #[.val (.ref a1), .val (.int p2), .val (.int p3), .unset] [(.int p3), (.int S.2.2.2.2), (.ref b3)])) (fun t k => ?_) ?_
  · show Steps p.tables e below (T21.setTop (mkF m 112 #[.val (.ref a1), .val (.int p2), .val (.int p3), .unset] [(.int S.2.2.2.2), (.ref b3)])) t
    refine XS.iloadN X21.here hx rfl (hb hby d6_112) rfl ?_
    exact k
  have c22 := (own_Ar.other (own_Ar.other Dz_11 W9 (Ne.symm ne8)) W16 (Ne.symm ne9))
  obtain ⟨⟨cl23, Ar23, q23, S23, Nn23, H23, G23⟩, Le23⟩ := id c22
  have hin23 : ¬ (S.2.2.2.2 < 0 ∨ cl23.slots.size ≤ (S.2.2.2.2).toNatClampNeg) := inb_of S23 hpre.2.2.1
  obtain ⟨T23, h23, X23, e23, W23, st23⟩ := stI X21 hx hZ e21 Ar23 (j := S.2.2.2.2) hin23 (g := (mkF m 113 #[.val (.ref a1), .val (.int p2), .val (.int p3), .unset] [(.int p3), (.int S.2.2.2.2), (.ref b3)])) rfl rfl (hb hby d6_113)
  have V23 : own_Ar Z h23 b3 k3 .int (16 : Int32) (List.map Value.int (S.2.2.2.1.set (S.2.2.2.2).toNatClampNeg p3)) (.int (0 : Int32)) := own_Ar.setI Ar23 q23 S23 Nn23 H23 G23 rfl W23 hin23 Le23
  have K24 : Keep h0 h23 [a1, b0, b1, b2, b3] := Keep.wr K17 W23 (Or.inl (List.mem_of_getElem? (i := 4) rfl))
  have N24 := Fr.snoc X23 N17 g4
  refine own_via st23 ?_
  show own_G p.tables e below _ (T23.setTop (mkF m 114 #[.val (.ref a1), .val (.int p2), .val (.int p3), .unset] []))
  refine own_via (S' := T23.setTop (mkF m 115 #[.val (.ref a1), .val (.int p2), .val (.int p3), .unset] [(.ref a1)])) (fun t k => ?_) ?_
  · show Steps p.tables e below (T23.setTop (mkF m 114 #[.val (.ref a1), .val (.int p2), .val (.int p3), .unset] [])) t
    refine XS.aloadN X23.here hx rfl (hb hby d6_114) rfl rfl ?_
    exact k
  have c25 := (Fld.other W23 (Fld.other W16 (Fld.other W9 Dz_1 (Or.inl ne1)) (Or.inl ne2)) (Or.inl ne3))
  obtain ⟨T26, X26, e26, st26⟩ := getF X23 hx hZ hown (host := "") (Or.inl (hw _ (List.mem_of_getElem? (i := 17) rfl))) Via.refl e23 c25 (g := (mkF m 115 #[.val (.ref a1), .val (.int p2), .val (.int p3), .unset] [(.ref a1)])) rfl rfl (hb hby d6_115)
  refine own_via st26 ?_
  show own_G p.tables e below _ (T26.setTop (mkF m 118 #[.val (.ref a1), .val (.int p2), .val (.int p3), .unset] [(.ref b0)]))
  refine own_via (S' := T26.setTop (mkF m 120 #[.val (.ref a1), .val (.int p2), .val (.int p3), .unset] [(.ref a1), (.int p2), (.ref b0)])) (fun t k => ?_) ?_
  · show Steps p.tables e below (T26.setTop (mkF m 118 #[.val (.ref a1), .val (.int p2), .val (.int p3), .unset] [(.ref b0)])) t
    refine XS.iloadN X26.here hx rfl (hb hby d6_118) rfl ?_
    show Steps p.tables e below (T26.setTop (mkF m 119 #[.val (.ref a1), .val (.int p2), .val (.int p3), .unset] [(.int p2), (.ref b0)])) t
    refine XS.aloadN X26.here hx rfl (hb hby d6_119) rfl rfl ?_
    exact k
  have c27 := (Fld.other W23 c20 (Or.inl ne3))
  obtain ⟨T28, X28, e28, st28⟩ := getF X26 hx hZ hown (host := "") (Or.inl (hw _ (List.mem_of_getElem? (i := 36) rfl))) Via.refl e26 c27 (g := (mkF m 120 #[.val (.ref a1), .val (.int p2), .val (.int p3), .unset] [(.ref a1), (.int p2), (.ref b0)])) rfl rfl (hb hby d6_120)
  refine own_via st28 ?_
  show own_G p.tables e below _ (T28.setTop (mkF m 123 #[.val (.ref a1), .val (.int p2), .val (.int p3), .unset] [(.int S.2.2.2.2), (.int p2), (.ref b0)]))
  have c29 := (own_Ar.other (own_Ar.other (own_Ar.other Dz_8 W9 ne4) W16 ne5) W23 ne6)
  obtain ⟨⟨cl30, Ar30, q30, S30, Nn30, H30, G30⟩, Le30⟩ := id c29
  have hin30 : ¬ (p2 < 0 ∨ cl30.slots.size ≤ (p2).toNatClampNeg) := inb_of S30 hpre.1
  obtain ⟨T30, h30, X30, e30, W30, st30⟩ := stI X28 hx hZ e28 Ar30 (j := p2) hin30 (g := (mkF m 123 #[.val (.ref a1), .val (.int p2), .val (.int p3), .unset] [(.int S.2.2.2.2), (.int p2), (.ref b0)])) rfl rfl (hb hby d6_123)
  have V30 : own_Ar Z h30 b0 k0 .int (3 : Int32) (List.map Value.int (S.1.set (p2).toNatClampNeg S.2.2.2.2)) (.int (0 : Int32)) := own_Ar.setI Ar30 q30 S30 Nn30 H30 G30 rfl W30 hin30 Le30
  have K31 : Keep h0 h30 [a1, b0, b1, b2, b3] := Keep.wr K24 W30 (Or.inl (List.mem_of_getElem? (i := 1) rfl))
  have N31 := Fr.snoc X30 N24 g1
  refine own_via st30 ?_
  show own_G p.tables e below _ (T30.setTop (mkF m 124 #[.val (.ref a1), .val (.int p2), .val (.int p3), .unset] []))
  refine own_via (S' := T30.setTop (mkF m 125 #[.val (.ref a1), .val (.int p2), .val (.int p3), .unset] [(.ref a1)])) (fun t k => ?_) ?_
  · show Steps p.tables e below (T30.setTop (mkF m 124 #[.val (.ref a1), .val (.int p2), .val (.int p3), .unset] [])) t
    refine XS.aloadN X30.here hx rfl (hb hby d6_124) rfl rfl ?_
    exact k
  have c32 := (Fld.other W30 (Fld.other W23 (Fld.other W16 (Fld.other W9 Dz_7 (Or.inl ne1)) (Or.inl ne2)) (Or.inl ne3)) (Or.inl ne0))
  obtain ⟨T33, X33, e33, st33⟩ := getF X30 hx hZ hown (host := "") (Or.inl (hw _ (List.mem_of_getElem? (i := 38) rfl))) Via.refl e30 c32 (g := (mkF m 125 #[.val (.ref a1), .val (.int p2), .val (.int p3), .unset] [(.ref a1)])) rfl rfl (hb hby d6_125)
  refine own_via st33 ?_
  show own_G p.tables e below _ (T33.setTop (mkF m 128 #[.val (.ref a1), .val (.int p2), .val (.int p3), .unset] [.null]))
  refine own_via (S' := T33.setTop (mkF m 156 #[.val (.ref a1), .val (.int p2), .val (.int p3), .unset] [])) (fun t k => XS.ifnullYes (g := (mkF m 128 #[.val (.ref a1), .val (.int p2), .val (.int p3), .unset] [.null])) X33.here hx rfl (pc0 := 128) (pc' := 156) rfl (hb hby d6_128) rfl (by decide) (by decide) k) ?_
  refine own_via (S' := T33.setTop (mkF m 158 #[.val (.ref a1), .val (.int p2), .val (.int p3), .unset] [(.ref a1), (.ref a1)])) (fun t k => ?_) ?_
  · show Steps p.tables e below (T33.setTop (mkF m 156 #[.val (.ref a1), .val (.int p2), .val (.int p3), .unset] [])) t
    refine XS.aloadN X33.here hx rfl (hb hby d6_156) rfl rfl ?_
    show Steps p.tables e below (T33.setTop (mkF m 157 #[.val (.ref a1), .val (.int p2), .val (.int p3), .unset] [(.ref a1)])) t
    refine XS.dup X33.here hx rfl (hb hby d6_157) rfl rfl ?_
    exact k
  have c35 := (Fld.other W30 c27 (Or.inl ne0))
  obtain ⟨T36, X36, e36, st36⟩ := getF X33 hx hZ hown (host := "") (Or.inl (hw _ (List.mem_of_getElem? (i := 36) rfl))) Via.refl e33 c35 (g := (mkF m 158 #[.val (.ref a1), .val (.int p2), .val (.int p3), .unset] [(.ref a1), (.ref a1)])) rfl rfl (hb hby d6_158)
  refine own_via st36 ?_
  show own_G p.tables e below _ (T36.setTop (mkF m 161 #[.val (.ref a1), .val (.int p2), .val (.int p3), .unset] [(.int S.2.2.2.2), (.ref a1)]))
  refine own_via (S' := T36.setTop (mkF m 163 #[.val (.ref a1), .val (.int p2), .val (.int p3), .unset] [(.int (S.2.2.2.2 + (1 : Int32))), (.ref a1)])) (fun t k => ?_) ?_
  · show Steps p.tables e below (T36.setTop (mkF m 161 #[.val (.ref a1), .val (.int p2), .val (.int p3), .unset] [(.int S.2.2.2.2), (.ref a1)])) t
    refine XS.iconst X36.here hx rfl (hb hby d6_161) ?_
    show Steps p.tables e below (T36.setTop (mkF m 162 #[.val (.ref a1), .val (.int p2), .val (.int p3), .unset] [(.int (1 : Int32)), (.int S.2.2.2.2), (.ref a1)])) t
    refine XS.iadd X36.here hx rfl (hb hby d6_162) rfl ?_
    exact k
  have c37 := (Exa.wr W30 (Exa.wr W23 (Exa.wr W16 (Exa.wr W9 Dz_0))))
  obtain ⟨T38, h38, X38, e38, W38, st38⟩ := putF X36 hx hZ hown (host := "") (Or.inl (hw _ (List.mem_of_getElem? (i := 36) rfl))) Via.refl e36 c35 c37 (Or.inl (hw _ (List.mem_of_getElem? (i := 37) rfl))) (hw _ (List.mem_of_getElem? (i := 1) rfl)) (ty := .int) (by decide) rfl rfl (g := (mkF m 163 #[.val (.ref a1), .val (.int p2), .val (.int p3), .unset] [(.int (S.2.2.2.2 + (1 : Int32))), (.ref a1)])) rfl rfl (hb hby d6_163)
  have F38 := Fld.same W38 c35
  have K39 : Keep h0 h38 [a1, b0, b1, b2, b3] := Keep.wr K31 W38 (Or.inl (List.mem_of_getElem? (i := 0) rfl))
  have N39 := Fr.snoc X38 N31 g0
  refine own_via st38 ?_
  show own_G p.tables e below _ (T38.setTop (mkF m 166 #[.val (.ref a1), .val (.int p2), .val (.int p3), .unset] []))
  have c40 := (Exa.wr W38 c37)
  have c41 := (Fld.other W38 (Fld.other W30 c25 (Or.inl ne0)) (Or.inr (slot_ne (Or.inr (hw _ (List.mem_of_getElem? (i := 18) rfl))) (Or.inl (hw _ (List.mem_of_getElem? (i := 37) rfl))) (by decide) (t := (.array .int)) (t' := .int) (by decide) (by decide))))
  have c42 := (Fld.other W38 (Fld.other W30 (Fld.other W23 (Fld.other W16 (Fld.other W9 Dz_2 (Or.inl ne1)) (Or.inl ne2)) (Or.inl ne3)) (Or.inl ne0)) (Or.inr (slot_ne (Or.inl (hw _ (List.mem_of_getElem? (i := 24) rfl))) (Or.inl (hw _ (List.mem_of_getElem? (i := 37) rfl))) (by decide) (t := (.array .int)) (t' := .int) (by decide) (by decide))))
  have c43 := (Fld.other W38 (Fld.other W30 (Fld.other W23 (Fld.other W16 c11 (Or.inl ne2)) (Or.inl ne3)) (Or.inl ne0)) (Or.inr (slot_ne (Or.inl (hw _ (List.mem_of_getElem? (i := 26) rfl))) (Or.inl (hw _ (List.mem_of_getElem? (i := 37) rfl))) (by decide) (t := (.array .int)) (t' := .int) (by decide) (by decide))))
  have c44 := (Fld.other W38 (Fld.other W30 (Fld.other W23 c18 (Or.inl ne3)) (Or.inl ne0)) (Or.inr (slot_ne (Or.inl (hw _ (List.mem_of_getElem? (i := 28) rfl))) (Or.inl (hw _ (List.mem_of_getElem? (i := 37) rfl))) (by decide) (t := (.array .int)) (t' := .int) (by decide) (by decide))))
  have c45 := (Fld.other W38 (Fld.other W30 (Fld.other W23 (Fld.other W16 (Fld.other W9 Dz_6 (Or.inl ne1)) (Or.inl ne2)) (Or.inl ne3)) (Or.inl ne0)) (Or.inr (slot_ne (Or.inr (hw _ (List.mem_of_getElem? (i := 30) rfl))) (Or.inl (hw _ (List.mem_of_getElem? (i := 37) rfl))) (by decide) (t := (.array .int)) (t' := .int) (by decide) (by decide))))
  have c46 := (Fld.other W38 c32 (Or.inr (slot_ne (Or.inl (hw _ (List.mem_of_getElem? (i := 39) rfl))) (Or.inl (hw _ (List.mem_of_getElem? (i := 37) rfl))) (by decide) (t := (.array .int)) (t' := .int) (by decide) (by decide))))
  have c47 := (own_Ar.other V30 W38 (Ne.symm ne0))
  have c48 := (own_Ar.other (own_Ar.other (own_Ar.other (own_Ar.other V9 W16 ne7) W23 ne8) W30 (Ne.symm ne4)) W38 (Ne.symm ne1))
  have c49 := (own_Ar.other (own_Ar.other (own_Ar.other V16 W23 ne9) W30 (Ne.symm ne5)) W38 (Ne.symm ne2))
  have c50 := (own_Ar.other (own_Ar.other V23 W30 (Ne.symm ne6)) W38 (Ne.symm ne3))
  exact own_end (h := h38) X38 (v := none) Bd.notSynchronized (fun _ => rfl) (fun fs hr => X38.returnOut hx Bd.returns (hb hby d6_166) hr) e38 ⟨rfl, N39, K39, _, rfl, ⟨c40, c41, c42, c43, c44, F38, c45, c46, c47, c48, c49, c50⟩⟩ (by decide) (by decide)
theorem d7_0 : decode prog_26_method_10_code 0 = .ok (.aload_n 0, 1) := by decide +kernel
theorem d7_1 : decode prog_26_method_10_code 1 = .ok (.dup, 1) := by decide +kernel
theorem d7_2 : decode prog_26_method_10_code 2 = .ok (.getfield 51, 3) := by decide +kernel
theorem d7_5 : decode prog_26_method_10_code 5 = .ok (.iconst 1, 1) := by decide +kernel
theorem d7_6 : decode prog_26_method_10_code 6 = .ok (.isub, 1) := by decide +kernel
theorem d7_7 : decode prog_26_method_10_code 7 = .ok (.putfield 51, 3) := by decide +kernel
theorem d7_10 : decode prog_26_method_10_code 10 = .ok (.aload_n 0, 1) := by decide +kernel
theorem d7_11 : decode prog_26_method_10_code 11 = .ok (.getfield 18, 3) := by decide +kernel
theorem d7_14 : decode prog_26_method_10_code 14 = .ok (.aload_n 0, 1) := by decide +kernel
theorem d7_15 : decode prog_26_method_10_code 15 = .ok (.getfield 31, 3) := by decide +kernel
theorem d7_18 : decode prog_26_method_10_code 18 = .ok (.aload_n 0, 1) := by decide +kernel
theorem d7_19 : decode prog_26_method_10_code 19 = .ok (.getfield 51, 3) := by decide +kernel
theorem d7_22 : decode prog_26_method_10_code 22 = .ok (.iaload, 1) := by decide +kernel
theorem d7_23 : decode prog_26_method_10_code 23 = .ok (.aload_n 0, 1) := by decide +kernel
theorem d7_24 : decode prog_26_method_10_code 24 = .ok (.getfield 28, 3) := by decide +kernel
theorem d7_27 : decode prog_26_method_10_code 27 = .ok (.aload_n 0, 1) := by decide +kernel
theorem d7_28 : decode prog_26_method_10_code 28 = .ok (.getfield 51, 3) := by decide +kernel
theorem d7_31 : decode prog_26_method_10_code 31 = .ok (.iaload, 1) := by decide +kernel
theorem d7_32 : decode prog_26_method_10_code 32 = .ok (.iastore, 1) := by decide +kernel
theorem d7_33 : decode prog_26_method_10_code 33 = .ok (.aload_n 0, 1) := by decide +kernel
theorem d7_34 : decode prog_26_method_10_code 34 = .ok (.getfield 40, 3) := by decide +kernel
theorem d7_37 : decode prog_26_method_10_code 37 = .ok (.ifnull 26, 3) := by decide +kernel
theorem d7_63 : decode prog_26_method_10_code 63 = .ok (.return_, 1) := by decide +kernel
theorem pn7 : plainName "com/example/fenceline/fenceline/Digraph" = true := by first | (simp [plainName, overriddenIn]; done) | decide +kernel
theorem ef7 (m : MethodId) (x0 : Addr) : entryFrame m #[(.ref x0)] 1 = mkF m 0 #[.val (.ref x0)] [] := by first | (simp [entryFrame, mkF, argsToLocals, Value.category]; done) | rfl
def Q7n (Z : State) (a1 : Addr) (b0 : Addr) (b1 : Addr) (b2 : Addr) (b3 : Addr) (k0 : ClassId) (k1 : ClassId) (k2 : ClassId) (k3 : ClassId) (S : own_TGn) (h0 : Heap) (n0 : Nat) (v : Option Value) (h : Heap) (L : List Loc) : Prop := v = none ∧ Fr n0 L ∧ Keep h0 h [a1, b0, b1, b2, b3] ∧ ∃ S' : own_TGn, S' = own_remn S ∧ own_Gn Z h a1 b0 b1 b2 b3 k0 k1 k2 k3 S'
set_option maxRecDepth 65536 in
set_option maxHeartbeats 40000000 in
theorem rm7n (l : Launch) (Z : State) (a0 : Array Value) (hw : ∀ d ∈ tables_1, d.before a0 Z = true) (ws : List Jvm.Cond) (a1 : Addr) (b0 : Addr) (b1 : Addr) (b2 : Addr) (b3 : Addr) (k0 : ClassId) (k1 : ClassId) (k2 : ClassId) (k3 : ClassId) (S : own_TGn) (h0 : Heap) (n0 : Nat) (Z0 : n0 ≤ h0.size) (DS0 : own_Gn Z h0 a1 b0 b1 b2 b3 k0 k1 k2 k3 S) (ne0 : a1 ≠ b0) (ne1 : a1 ≠ b1) (ne2 : a1 ≠ b2) (ne3 : a1 ≠ b3) (ne4 : b0 ≠ b1) (ne5 : b0 ≠ b2) (ne6 : b0 ≠ b3) (ne7 : b1 ≠ b2) (ne8 : b1 ≠ b3) (ne9 : b2 ≠ b3) (g0 : n0 ≤ a1) (g1 : n0 ≤ b0) (g2 : n0 ≤ b1) (g3 : n0 ≤ b2) (g4 : n0 ≤ b3) (hpre : own_pRn S) :
    MetFree l (⟨"com/example/fenceline/fenceline/Digraph", "removeLastEdge", "()V"⟩ : MethodName) (head1 (Jvm.Cond.code (⟨"com/example/fenceline/fenceline/Digraph", "removeLastEdge", "()V"⟩ : MethodName) prog_26_method_10_code 1 none :: ws) ({ frames := 0, cells := 0, slots := 0, locals := 0 } : Room)) (fun a U => a = #[(.ref a1)] ∧ Z.Warmed39 U.vm ∧ U.heap = h0) (fun _ _ _ _ _ => True) (fun _ U o U' => ∃ v L, o = .returned v ∧ Q7n Z a1 b0 b1 b2 b3 k0 k1 k2 k3 S h0 n0 v U'.heap L ∧ FrameEnd U o U' L ({ frames := 0, cells := 0, slots := 0, locals := 0 } : Room).cells ({ frames := 0, cells := 0, slots := 0, locals := 0 } : Room).slots) := by
  refine MetFree.of_bodySF (plainFor_of_name pn7) hisR ?_
  intro p e s m args below meth c s₁ Bd hml0 hP hK
  obtain ⟨rfl, hZ, hh⟩ := hP
  have hx := Bd.exec
  have hby := Bd.bytes
  have hml : c.maxLocals = 1 := hml0
  have hown : s.vm.findClass "com/example/fenceline/fenceline/Digraph" = some m.cls := findClass_of_methodNamed Bd.named
  have hnm := (name_of_methodNamed Bd.named Bd.method).1
  have X0 : Stand p l e ({ frames := 0, cells := 0, slots := 0, locals := 0 } : Room) s m #[(.ref a1)] below meth c s₁ [] 0 0 := Stand.of_body Bd
  have e0 : s₁.heap = h0 := by rw [← hh, Bd.state]; rfl
  have N0 := Fr.nil n0
  refine (show own_G p.tables e below (own_P s (Q7n Z a1 b0 b1 b2 b3 k0 k1 k2 k3 S h0 n0) 0 0) (s₁.setTop (entryFrame m #[(.ref a1)] 1)) from ?_)
  refine own_via (fun t k => castTop (ef7 m a1) k) ?_
  show own_G p.tables e below _ (s₁.setTop (mkF m 0 #[.val (.ref a1)] []))
  obtain ⟨Dz_0, Dz_1, Dz_2, Dz_3, Dz_4, Dz_5, Dz_6, Dz_7, Dz_8, Dz_9, Dz_10, Dz_11⟩ := id DS0
  have K0 := Keep.refl h0 [a1, b0, b1, b2, b3]
  refine own_via (S' := s₁.setTop (mkF m 2 #[.val (.ref a1)] [(.ref a1), (.ref a1)])) (fun t k => ?_) ?_
  · show Steps p.tables e below (s₁.setTop (mkF m 0 #[.val (.ref a1)] [])) t
    refine XS.aloadN X0.here hx rfl (hb hby d7_0) rfl rfl ?_
    show Steps p.tables e below (s₁.setTop (mkF m 1 #[.val (.ref a1)] [(.ref a1)])) t
    refine XS.dup X0.here hx rfl (hb hby d7_1) rfl rfl ?_
    exact k
  obtain ⟨T1, X1, e1, st1⟩ := getF X0 hx hZ hown (host := "") (Or.inl (hw _ (List.mem_of_getElem? (i := 36) rfl))) Via.refl e0 Dz_5 (g := (mkF m 2 #[.val (.ref a1)] [(.ref a1), (.ref a1)])) rfl rfl (hb hby d7_2)
  refine own_via st1 ?_
  show own_G p.tables e below _ (T1.setTop (mkF m 5 #[.val (.ref a1)] [(.int S.2.2.2.2), (.ref a1)]))
  refine own_via (S' := T1.setTop (mkF m 7 #[.val (.ref a1)] [(.int (S.2.2.2.2 - (1 : Int32))), (.ref a1)])) (fun t k => ?_) ?_
  · show Steps p.tables e below (T1.setTop (mkF m 5 #[.val (.ref a1)] [(.int S.2.2.2.2), (.ref a1)])) t
    refine XS.iconst X1.here hx rfl (hb hby d7_5) ?_
    show Steps p.tables e below (T1.setTop (mkF m 6 #[.val (.ref a1)] [(.int (1 : Int32)), (.int S.2.2.2.2), (.ref a1)])) t
    refine XS.isub X1.here hx rfl (hb hby d7_6) rfl ?_
    exact k
  obtain ⟨T2, h2, X2, e2, W2, st2⟩ := putF X1 hx hZ hown (host := "") (Or.inl (hw _ (List.mem_of_getElem? (i := 36) rfl))) Via.refl e1 Dz_5 Dz_0 (Or.inl (hw _ (List.mem_of_getElem? (i := 37) rfl))) (hw _ (List.mem_of_getElem? (i := 1) rfl)) (ty := .int) (by decide) rfl rfl (g := (mkF m 7 #[.val (.ref a1)] [(.int (S.2.2.2.2 - (1 : Int32))), (.ref a1)])) rfl rfl (hb hby d7_7)
  have F2 := Fld.same W2 Dz_5
  have K3 : Keep h0 h2 [a1, b0, b1, b2, b3] := Keep.wr K0 W2 (Or.inl (List.mem_of_getElem? (i := 0) rfl))
  have N3 := Fr.snoc X2 N0 g0
  refine own_via st2 ?_
  show own_G p.tables e below _ (T2.setTop (mkF m 10 #[.val (.ref a1)] []))
  refine own_via (S' := T2.setTop (mkF m 11 #[.val (.ref a1)] [(.ref a1)])) (fun t k => ?_) ?_
  · show Steps p.tables e below (T2.setTop (mkF m 10 #[.val (.ref a1)] [])) t
    refine XS.aloadN X2.here hx rfl (hb hby d7_10) rfl rfl ?_
    exact k
  have c4 := (Fld.other W2 Dz_1 (Or.inr (slot_ne (Or.inr (hw _ (List.mem_of_getElem? (i := 18) rfl))) (Or.inl (hw _ (List.mem_of_getElem? (i := 37) rfl))) (by decide) (t := (.array .int)) (t' := .int) (by decide) (by decide))))
  obtain ⟨T5, X5, e5, st5⟩ := getF X2 hx hZ hown (host := "") (Or.inl (hw _ (List.mem_of_getElem? (i := 17) rfl))) Via.refl e2 c4 (g := (mkF m 11 #[.val (.ref a1)] [(.ref a1)])) rfl rfl (hb hby d7_11)
  refine own_via st5 ?_
  show own_G p.tables e below _ (T5.setTop (mkF m 14 #[.val (.ref a1)] [(.ref b0)]))
  refine own_via (S' := T5.setTop (mkF m 15 #[.val (.ref a1)] [(.ref a1), (.ref b0)])) (fun t k => ?_) ?_
  · show Steps p.tables e below (T5.setTop (mkF m 14 #[.val (.ref a1)] [(.ref b0)])) t
    refine XS.aloadN X5.here hx rfl (hb hby d7_14) rfl rfl ?_
    exact k
  have c6 := (Fld.other W2 Dz_3 (Or.inr (slot_ne (Or.inl (hw _ (List.mem_of_getElem? (i := 26) rfl))) (Or.inl (hw _ (List.mem_of_getElem? (i := 37) rfl))) (by decide) (t := (.array .int)) (t' := .int) (by decide) (by decide))))
  obtain ⟨T7, X7, e7, st7⟩ := getF X5 hx hZ hown (host := "") (Or.inl (hw _ (List.mem_of_getElem? (i := 25) rfl))) Via.refl e5 c6 (g := (mkF m 15 #[.val (.ref a1)] [(.ref a1), (.ref b0)])) rfl rfl (hb hby d7_15)
  refine own_via st7 ?_
  show own_G p.tables e below _ (T7.setTop (mkF m 18 #[.val (.ref a1)] [(.ref b2), (.ref b0)]))
  refine own_via (S' := T7.setTop (mkF m 19 #[.val (.ref a1)] [(.ref a1), (.ref b2), (.ref b0)])) (fun t k => ?_) ?_
  · show Steps p.tables e below (T7.setTop (mkF m 18 #[.val (.ref a1)] [(.ref b2), (.ref b0)])) t
    refine XS.aloadN X7.here hx rfl (hb hby d7_18) rfl rfl ?_
    exact k
  obtain ⟨T8, X8, e8, st8⟩ := getF X7 hx hZ hown (host := "") (Or.inl (hw _ (List.mem_of_getElem? (i := 36) rfl))) Via.refl e7 F2 (g := (mkF m 19 #[.val (.ref a1)] [(.ref a1), (.ref b2), (.ref b0)])) rfl rfl (hb hby d7_19)
  refine own_via st8 ?_
  show own_G p.tables e below _ (T8.setTop (mkF m 22 #[.val (.ref a1)] [(.int (S.2.2.2.2 - (1 : Int32))), (.ref b2), (.ref b0)]))
  have c9 := (own_Ar.other Dz_10 W2 (Ne.symm ne2))
  obtain ⟨⟨cl10, Ar10, q10, S10, Nn10, H10, G10⟩, Le10⟩ := id c9
  have hin10 : ¬ ((S.2.2.2.2 - (1 : Int32)) < 0 ∨ cl10.slots.size ≤ ((S.2.2.2.2 - (1 : Int32))).toNatClampNeg) := inb_of S10 hpre.1
  have hat10 : cl10.slots[((S.2.2.2.2 - (1 : Int32))).toNatClampNeg]? = some (.int (S.2.2.1.getD ((S.2.2.2.2 - (1 : Int32))).toNatClampNeg 0)) := Has.at H10 hin10 (own_gI _ _)
  refine own_via (S' := T8.setTop (mkF m 23 #[.val (.ref a1)] [(.int (S.2.2.1.getD ((S.2.2.2.2 - (1 : Int32))).toNatClampNeg 0)), (.ref b0)])) (fun t kz_ => X8.iaload hx (j := (S.2.2.2.2 - (1 : Int32))) (v := (.int (S.2.2.1.getD ((S.2.2.2.2 - (1 : Int32))).toNatClampNeg 0))) (by rw [e8]; exact Ar10.1) (State.isArrayOf_alike hZ.alike Ar10.2.1) Ar10.2.2 hin10 hat10 (g := (mkF m 22 #[.val (.ref a1)] [(.int (S.2.2.2.2 - (1 : Int32))), (.ref b2), (.ref b0)])) rfl rfl (hb hby d7_22) _ kz_) ?_
  refine own_via (S' := T8.setTop (mkF m 24 #[.val (.ref a1)] [(.ref a1), (.int (S.2.2.1.getD ((S.2.2.2.2 - (1 : Int32))).toNatClampNeg 0)), (.ref b0)])) (fun t k => ?_) ?_
  · show Steps p.tables e below (T8.setTop (mkF m 23 #[.val (.ref a1)] [(.int (S.2.2.1.getD ((S.2.2.2.2 - (1 : Int32))).toNatClampNeg 0)), (.ref b0)])) t
    refine XS.aloadN X8.here hx rfl (hb hby d7_23) rfl rfl ?_
    exact k
  have c11 := (Fld.other W2 Dz_2 (Or.inr (slot_ne (Or.inl (hw _ (List.mem_of_getElem? (i := 24) rfl))) (Or.inl (hw _ (List.mem_of_getElem? (i := 37) rfl))) (by decide) (t := (.array .int)) (t' := .int) (by decide) (by decide))))
  obtain ⟨T12, X12, e12, st12⟩ := getF X8 hx hZ hown (host := "") (Or.inl (hw _ (List.mem_of_getElem? (i := 23) rfl))) Via.refl e8 c11 (g := (mkF m 24 #[.val (.ref a1)] [(.ref a1), (.int (S.2.2.1.getD ((S.2.2.2.2 - (1 : Int32))).toNatClampNeg 0)), (.ref b0)])) rfl rfl (hb hby d7_24)
  refine own_via st12 ?_
  show own_G p.tables e below _ (T12.setTop (mkF m 27 #[.val (.ref a1)] [(.ref b1), (.int (S.2.2.1.getD ((S.2.2.2.2 - (1 : Int32))).toNatClampNeg 0)), (.ref b0)]))
  refine own_via (S' := T12.setTop (mkF m 28 #[.val (.ref a1)] [(.ref a1), (.ref b1), (.int (S.2.2.1.getD ((S.2.2.2.2 - (1 : Int32))).toNatClampNeg 0)), (.ref b0)])) (fun t k => ?_) ?_
  · show Steps p.tables e below (T12.setTop (mkF m 27 #[.val (.ref a1)] [(.ref b1), (.int (S.2.2.1.getD ((S.2.2.2.2 - (1 : Int32))).toNatClampNeg 0)), (.ref b0)])) t
    refine XS.aloadN X12.here hx rfl (hb hby d7_27) rfl rfl ?_
    exact k
  obtain ⟨T13, X13, e13, st13⟩ := getF X12 hx hZ hown (host := "") (Or.inl (hw _ (List.mem_of_getElem? (i := 36) rfl))) Via.refl e12 F2 (g := (mkF m 28 #[.val (.ref a1)] [(.ref a1), (.ref b1), (.int (S.2.2.1.getD ((S.2.2.2.2 - (1 : Int32))).toNatClampNeg 0)), (.ref b0)])) rfl rfl (hb hby d7_28)
  refine own_via st13 ?_
  show own_G p.tables e below _ (T13.setTop (mkF m 31 #[.val (.ref a1)] [(.int (S.2.2.2.2 - (1 : Int32))), (.ref b1), (.int (S.2.2.1.getD ((S.2.2.2.2 - (1 : Int32))).toNatClampNeg 0)), (.ref b0)]))
  have c14 := (own_Ar.other Dz_9 W2 (Ne.symm ne1))
  obtain ⟨⟨cl15, Ar15, q15, S15, Nn15, H15, G15⟩, Le15⟩ := id c14
  have hin15 : ¬ ((S.2.2.2.2 - (1 : Int32)) < 0 ∨ cl15.slots.size ≤ ((S.2.2.2.2 - (1 : Int32))).toNatClampNeg) := inb_of S15 hpre.1
  have hat15 : cl15.slots[((S.2.2.2.2 - (1 : Int32))).toNatClampNeg]? = some (.int (S.2.1.getD ((S.2.2.2.2 - (1 : Int32))).toNatClampNeg 0)) := Has.at H15 hin15 (own_gI _ _)
  refine own_via (S' := T13.setTop (mkF m 32 #[.val (.ref a1)] [(.int (S.2.1.getD ((S.2.2.2.2 - (1 : Int32))).toNatClampNeg 0)), (.int (S.2.2.1.getD ((S.2.2.2.2 - (1 : Int32))).toNatClampNeg 0)), (.ref b0)])) (fun t kz_ => X13.iaload hx (j := (S.2.2.2.2 - (1 : Int32))) (v := (.int (S.2.1.getD ((S.2.2.2.2 - (1 : Int32))).toNatClampNeg 0))) (by rw [e13]; exact Ar15.1) (State.isArrayOf_alike hZ.alike Ar15.2.1) Ar15.2.2 hin15 hat15 (g := (mkF m 31 #[.val (.ref a1)] [(.int (S.2.2.2.2 - (1 : Int32))), (.ref b1), (.int (S.2.2.1.getD ((S.2.2.2.2 - (1 : Int32))).toNatClampNeg 0)), (.ref b0)])) rfl rfl (hb hby d7_31) _ kz_) ?_
  have c16 := (own_Ar.other Dz_8 W2 (Ne.symm ne0))
  obtain ⟨⟨cl17, Ar17, q17, S17, Nn17, H17, G17⟩, Le17⟩ := id c16
  have hin17 : ¬ ((S.2.2.1.getD ((S.2.2.2.2 - (1 : Int32))).toNatClampNeg 0) < 0 ∨ cl17.slots.size ≤ ((S.2.2.1.getD ((S.2.2.2.2 - (1 : Int32))).toNatClampNeg 0)).toNatClampNeg) := inb_of S17 hpre.2
  obtain ⟨T17, h17, X17, e17, W17, st17⟩ := stI X13 hx hZ e13 Ar17 (j := (S.2.2.1.getD ((S.2.2.2.2 - (1 : Int32))).toNatClampNeg 0)) hin17 (g := (mkF m 32 #[.val (.ref a1)] [(.int (S.2.1.getD ((S.2.2.2.2 - (1 : Int32))).toNatClampNeg 0)), (.int (S.2.2.1.getD ((S.2.2.2.2 - (1 : Int32))).toNatClampNeg 0)), (.ref b0)])) rfl rfl (hb hby d7_32)
  have V17 : own_Ar Z h17 b0 k0 .int (3 : Int32) (List.map Value.int (S.1.set ((S.2.2.1.getD ((S.2.2.2.2 - (1 : Int32))).toNatClampNeg 0)).toNatClampNeg (S.2.1.getD ((S.2.2.2.2 - (1 : Int32))).toNatClampNeg 0))) (.int (0 : Int32)) := own_Ar.setI Ar17 q17 S17 Nn17 H17 G17 rfl W17 hin17 Le17
  have K18 : Keep h0 h17 [a1, b0, b1, b2, b3] := Keep.wr K3 W17 (Or.inl (List.mem_of_getElem? (i := 1) rfl))
  have N18 := Fr.snoc X17 N3 g1
  refine own_via st17 ?_
  show own_G p.tables e below _ (T17.setTop (mkF m 33 #[.val (.ref a1)] []))
  refine own_via (S' := T17.setTop (mkF m 34 #[.val (.ref a1)] [(.ref a1)])) (fun t k => ?_) ?_
  · show Steps p.tables e below (T17.setTop (mkF m 33 #[.val (.ref a1)] [])) t
    refine XS.aloadN X17.here hx rfl (hb hby d7_33) rfl rfl ?_
    exact k
  have c19 := (Fld.other W17 (Fld.other W2 Dz_7 (Or.inr (slot_ne (Or.inl (hw _ (List.mem_of_getElem? (i := 39) rfl))) (Or.inl (hw _ (List.mem_of_getElem? (i := 37) rfl))) (by decide) (t := (.array .int)) (t' := .int) (by decide) (by decide)))) (Or.inl ne0))
  obtain ⟨T20, X20, e20, st20⟩ := getF X17 hx hZ hown (host := "") (Or.inl (hw _ (List.mem_of_getElem? (i := 38) rfl))) Via.refl e17 c19 (g := (mkF m 34 #[.val (.ref a1)] [(.ref a1)])) rfl rfl (hb hby d7_34)
  refine own_via st20 ?_
  show own_G p.tables e below _ (T20.setTop (mkF m 37 #[.val (.ref a1)] [.null]))
  refine own_via (S' := T20.setTop (mkF m 63 #[.val (.ref a1)] [])) (fun t k => XS.ifnullYes (g := (mkF m 37 #[.val (.ref a1)] [.null])) X20.here hx rfl (pc0 := 37) (pc' := 63) rfl (hb hby d7_37) rfl (by decide) (by decide) k) ?_
  have c22 := (Exa.wr W17 (Exa.wr W2 Dz_0))
  have c23 := (Fld.other W17 c4 (Or.inl ne0))
  have c24 := (Fld.other W17 c11 (Or.inl ne0))
  have c25 := (Fld.other W17 c6 (Or.inl ne0))
  have c26 := (Fld.other W17 (Fld.other W2 Dz_4 (Or.inr (slot_ne (Or.inl (hw _ (List.mem_of_getElem? (i := 28) rfl))) (Or.inl (hw _ (List.mem_of_getElem? (i := 37) rfl))) (by decide) (t := (.array .int)) (t' := .int) (by decide) (by decide)))) (Or.inl ne0))
  have c27 := (Fld.other W17 F2 (Or.inl ne0))
  have c28 := (Fld.other W17 (Fld.other W2 Dz_6 (Or.inr (slot_ne (Or.inr (hw _ (List.mem_of_getElem? (i := 30) rfl))) (Or.inl (hw _ (List.mem_of_getElem? (i := 37) rfl))) (by decide) (t := (.array .int)) (t' := .int) (by decide) (by decide)))) (Or.inl ne0))
  have c29 := (own_Ar.other c14 W17 (Ne.symm ne4))
  have c30 := (own_Ar.other c9 W17 (Ne.symm ne5))
  have c31 := (own_Ar.other (own_Ar.other Dz_11 W2 (Ne.symm ne3)) W17 (Ne.symm ne6))
  exact own_end (h := h17) X20 (v := none) Bd.notSynchronized (fun _ => rfl) (fun fs hr => X20.returnOut hx Bd.returns (hb hby d7_63) hr) e20 ⟨rfl, N18, K18, _, rfl, ⟨c22, c23, c24, c25, c26, c27, c28, c19, V17, c29, c30, c31⟩⟩ (by decide) (by decide)
theorem d6_131 : decode prog_26_method_9_code 131 = .ok (.aload_n 0, 1) := by decide +kernel
theorem d6_132 : decode prog_26_method_9_code 132 = .ok (.getfield 40, 3) := by decide +kernel
theorem d6_135 : decode prog_26_method_9_code 135 = .ok (.aload_n 0, 1) := by decide +kernel
theorem d6_136 : decode prog_26_method_9_code 136 = .ok (.getfield 51, 3) := by decide +kernel
theorem d6_139 : decode prog_26_method_9_code 139 = .ok (.aload_n 0, 1) := by decide +kernel
theorem d6_140 : decode prog_26_method_9_code 140 = .ok (.getfield 37, 3) := by decide +kernel
theorem d6_143 : decode prog_26_method_9_code 143 = .ok (.iload_n 2, 1) := by decide +kernel
theorem d6_144 : decode prog_26_method_9_code 144 = .ok (.iaload, 1) := by decide +kernel
theorem d6_145 : decode prog_26_method_9_code 145 = .ok (.iastore, 1) := by decide +kernel
theorem d6_146 : decode prog_26_method_9_code 146 = .ok (.aload_n 0, 1) := by decide +kernel
theorem d6_147 : decode prog_26_method_9_code 147 = .ok (.getfield 37, 3) := by decide +kernel
theorem d6_150 : decode prog_26_method_9_code 150 = .ok (.iload_n 2, 1) := by decide +kernel
theorem d6_151 : decode prog_26_method_9_code 151 = .ok (.aload_n 0, 1) := by decide +kernel
theorem d6_152 : decode prog_26_method_9_code 152 = .ok (.getfield 51, 3) := by decide +kernel
theorem d6_155 : decode prog_26_method_9_code 155 = .ok (.iastore, 1) := by decide +kernel
def Q6i (Z : State) (a1 : Addr) (p2 : Int32) (p3 : Int32) (b0 : Addr) (b1 : Addr) (b2 : Addr) (b3 : Addr) (b4 : Addr) (b5 : Addr) (k0 : ClassId) (k1 : ClassId) (k2 : ClassId) (k3 : ClassId) (k4 : ClassId) (k5 : ClassId) (S : own_TGi) (h0 : Heap) (n0 : Nat) (v : Option Value) (h : Heap) (L : List Loc) : Prop := v = none ∧ Fr n0 L ∧ Keep h0 h [a1, b0, b1, b2, b3, b4, b5] ∧ ∃ S' : own_TGi, S' = own_addi S p2 p3 ∧ own_Gi Z h a1 b0 b1 b2 b3 b4 b5 k0 k1 k2 k3 k4 k5 S'
set_option maxRecDepth 65536 in
set_option maxHeartbeats 40000000 in
theorem rm6i (l : Launch) (Z : State) (a0 : Array Value) (hw : ∀ d ∈ tables_1, d.before a0 Z = true) (ws : List Jvm.Cond) (a1 : Addr) (p2 : Int32) (p3 : Int32) (b0 : Addr) (b1 : Addr) (b2 : Addr) (b3 : Addr) (b4 : Addr) (b5 : Addr) (k0 : ClassId) (k1 : ClassId) (k2 : ClassId) (k3 : ClassId) (k4 : ClassId) (k5 : ClassId) (S : own_TGi) (h0 : Heap) (n0 : Nat) (Z0 : n0 ≤ h0.size) (DS0 : own_Gi Z h0 a1 b0 b1 b2 b3 b4 b5 k0 k1 k2 k3 k4 k5 S) (ne0 : a1 ≠ b0) (ne1 : a1 ≠ b1) (ne2 : a1 ≠ b2) (ne3 : a1 ≠ b3) (ne4 : a1 ≠ b4) (ne5 : a1 ≠ b5) (ne6 : b0 ≠ b1) (ne7 : b0 ≠ b2) (ne8 : b0 ≠ b3) (ne9 : b0 ≠ b4) (ne10 : b0 ≠ b5) (ne11 : b1 ≠ b2) (ne12 : b1 ≠ b3) (ne13 : b1 ≠ b4) (ne14 : b1 ≠ b5) (ne15 : b2 ≠ b3) (ne16 : b2 ≠ b4) (ne17 : b2 ≠ b5) (ne18 : b3 ≠ b4) (ne19 : b3 ≠ b5) (ne20 : b4 ≠ b5) (g0 : n0 ≤ a1) (g1 : n0 ≤ b0) (g2 : n0 ≤ b1) (g3 : n0 ≤ b2) (g4 : n0 ≤ b3) (g5 : n0 ≤ b4) (g6 : n0 ≤ b5) (hpre : own_pEi S p2 p3) :
    MetFree l (⟨"com/example/fenceline/fenceline/Digraph", "addEdge", "(II)V"⟩ : MethodName) (head1 (Jvm.Cond.code (⟨"com/example/fenceline/fenceline/Digraph", "addEdge", "(II)V"⟩ : MethodName) prog_26_method_9_code 4 none :: ws) ({ frames := 0, cells := 0, slots := 0, locals := 0 } : Room)) (fun a U => a = #[(.ref a1), (.int p2), (.int p3)] ∧ Z.Warmed39 U.vm ∧ U.heap = h0) (fun _ _ _ _ _ => True) (fun _ U o U' => ∃ v L, o = .returned v ∧ Q6i Z a1 p2 p3 b0 b1 b2 b3 b4 b5 k0 k1 k2 k3 k4 k5 S h0 n0 v U'.heap L ∧ FrameEnd U o U' L ({ frames := 0, cells := 0, slots := 0, locals := 0 } : Room).cells ({ frames := 0, cells := 0, slots := 0, locals := 0 } : Room).slots) := by
  refine MetFree.of_bodySF (plainFor_of_name pn6) hisR ?_
  intro p e s m args below meth c s₁ Bd hml0 hP hK
  obtain ⟨rfl, hZ, hh⟩ := hP
  have hx := Bd.exec
  have hby := Bd.bytes
  have hml : c.maxLocals = 4 := hml0
  have hown : s.vm.findClass "com/example/fenceline/fenceline/Digraph" = some m.cls := findClass_of_methodNamed Bd.named
  have hnm := (name_of_methodNamed Bd.named Bd.method).1
  have X0 : Stand p l e ({ frames := 0, cells := 0, slots := 0, locals := 0 } : Room) s m #[(.ref a1), (.int p2), (.int p3)] below meth c s₁ [] 0 0 := Stand.of_body Bd
  have e0 : s₁.heap = h0 := by rw [← hh, Bd.state]; rfl
  have N0 := Fr.nil n0
  refine (show own_G p.tables e below (own_P s (Q6i Z a1 p2 p3 b0 b1 b2 b3 b4 b5 k0 k1 k2 k3 k4 k5 S h0 n0) 0 0) (s₁.setTop (entryFrame m #[(.ref a1), (.int p2), (.int p3)] 4)) from ?_)
  refine own_via (fun t k => castTop (ef6 m a1 p2 p3) k) ?_
  show own_G p.tables e below _ (s₁.setTop (mkF m 0 #[.val (.ref a1), .val (.int p2), .val (.int p3), .unset] []))
  obtain ⟨Dz_0, Dz_1, Dz_2, Dz_3, Dz_4, Dz_5, Dz_6, Dz_7, Dz_8, Dz_9, Dz_10, Dz_11, Dz_12, Dz_13⟩ := id DS0
  have K0 := Keep.refl h0 [a1, b0, b1, b2, b3, b4, b5]
  refine own_via (S' := s₁.setTop (mkF m 1 #[.val (.ref a1), .val (.int p2), .val (.int p3), .unset] [(.ref a1)])) (fun t k => ?_) ?_
  · show Steps p.tables e below (s₁.setTop (mkF m 0 #[.val (.ref a1), .val (.int p2), .val (.int p3), .unset] [])) t
    refine XS.aloadN X0.here hx rfl (hb hby d6_0) rfl rfl ?_
    exact k
  obtain ⟨T1, X1, e1, st1⟩ := getF X0 hx hZ hown (host := "") (Or.inl (hw _ (List.mem_of_getElem? (i := 36) rfl))) Via.refl e0 Dz_7 (g := (mkF m 1 #[.val (.ref a1), .val (.int p2), .val (.int p3), .unset] [(.ref a1)])) rfl rfl (hb hby d6_1)
  refine own_via st1 ?_
  show own_G p.tables e below _ (T1.setTop (mkF m 4 #[.val (.ref a1), .val (.int p2), .val (.int p3), .unset] [(.int S.2.2.2.2.2.2)]))
  refine own_via (S' := T1.setTop (mkF m 5 #[.val (.ref a1), .val (.int p2), .val (.int p3), .unset] [(.ref a1), (.int S.2.2.2.2.2.2)])) (fun t k => ?_) ?_
  · show Steps p.tables e below (T1.setTop (mkF m 4 #[.val (.ref a1), .val (.int p2), .val (.int p3), .unset] [(.int S.2.2.2.2.2.2)])) t
    refine XS.aloadN X1.here hx rfl (hb hby d6_4) rfl rfl ?_
    exact k
  obtain ⟨T2, X2, e2, st2⟩ := getF X1 hx hZ hown (host := "") (Or.inl (hw _ (List.mem_of_getElem? (i := 27) rfl))) Via.refl e1 Dz_4 (g := (mkF m 5 #[.val (.ref a1), .val (.int p2), .val (.int p3), .unset] [(.ref a1), (.int S.2.2.2.2.2.2)])) rfl rfl (hb hby d6_5)
  refine own_via st2 ?_
  show own_G p.tables e below _ (T2.setTop (mkF m 8 #[.val (.ref a1), .val (.int p2), .val (.int p3), .unset] [(.ref b3), (.int S.2.2.2.2.2.2)]))
  obtain ⟨⟨cl3, Ar3, q3, S3, Nn3, H3, G3⟩, Le3⟩ := id Dz_11
  refine own_via (S' := T2.setTop (mkF m 9 #[.val (.ref a1), .val (.int p2), .val (.int p3), .unset] [(.int (16 : Int32)), (.int S.2.2.2.2.2.2)])) (fun t kz_ => X2.arraylength hx (by rw [e2]; exact Ar3.1) (State.isArrayOf_alike hZ.alike Ar3.2.1) (g := (mkF m 8 #[.val (.ref a1), .val (.int p2), .val (.int p3), .unset] [(.ref b3), (.int S.2.2.2.2.2.2)])) rfl rfl (hb hby d6_8) _ (by rw [len_of S3 Nn3]; exact kz_)) ?_
  refine own_via (S' := T2.setTop (mkF m 79 #[.val (.ref a1), .val (.int p2), .val (.int p3), .unset] [])) (fun t k => XS.icmpYes (g := (mkF m 9 #[.val (.ref a1), .val (.int p2), .val (.int p3), .unset] [(.int (16 : Int32)), (.int S.2.2.2.2.2.2)])) X2.here hx rfl (pc0 := 9) (pc' := 79) rfl (hb hby d6_9) rfl (feq hpre.2.2.2).2 (by decide) (by decide) k) ?_
  refine own_via (S' := T2.setTop (mkF m 80 #[.val (.ref a1), .val (.int p2), .val (.int p3), .unset] [(.ref a1)])) (fun t k => ?_) ?_
  · show Steps p.tables e below (T2.setTop (mkF m 79 #[.val (.ref a1), .val (.int p2), .val (.int p3), .unset] [])) t
    refine XS.aloadN X2.here hx rfl (hb hby d6_79) rfl rfl ?_
    exact k
  obtain ⟨T5, X5, e5, st5⟩ := getF X2 hx hZ hown (host := "") (Or.inl (hw _ (List.mem_of_getElem? (i := 23) rfl))) Via.refl e2 Dz_2 (g := (mkF m 80 #[.val (.ref a1), .val (.int p2), .val (.int p3), .unset] [(.ref a1)])) rfl rfl (hb hby d6_80)
  refine own_via st5 ?_
  show own_G p.tables e below _ (T5.setTop (mkF m 83 #[.val (.ref a1), .val (.int p2), .val (.int p3), .unset] [(.ref b1)]))
  refine own_via (S' := T5.setTop (mkF m 84 #[.val (.ref a1), .val (.int p2), .val (.int p3), .unset] [(.ref a1), (.ref b1)])) (fun t k => ?_) ?_
  · show Steps p.tables e below (T5.setTop (mkF m 83 #[.val (.ref a1), .val (.int p2), .val (.int p3), .unset] [(.ref b1)])) t
    refine XS.aloadN X5.here hx rfl (hb hby d6_83) rfl rfl ?_
    exact k
  obtain ⟨T6, X6, e6, st6⟩ := getF X5 hx hZ hown (host := "") (Or.inl (hw _ (List.mem_of_getElem? (i := 36) rfl))) Via.refl e5 Dz_7 (g := (mkF m 84 #[.val (.ref a1), .val (.int p2), .val (.int p3), .unset] [(.ref a1), (.ref b1)])) rfl rfl (hb hby d6_84)
  refine own_via st6 ?_
  show own_G p.tables e below _ (T6.setTop (mkF m 87 #[.val (.ref a1), .val (.int p2), .val (.int p3), .unset] [(.int S.2.2.2.2.2.2), (.ref b1)]))
  refine own_via (S' := T6.setTop (mkF m 88 #[.val (.ref a1), .val (.int p2), .val (.int p3), .unset] [(.ref a1), (.int S.2.2.2.2.2.2), (.ref b1)])) (fun t k => ?_) ?_
  · show Steps p.tables e below (T6.setTop (mkF m 87 #[.val (.ref a1), .val (.int p2), .val (.int p3), .unset] [(.int S.2.2.2.2.2.2), (.ref b1)])) t
    refine XS.aloadN X6.here hx rfl (hb hby d6_87) rfl rfl ?_
    exact k
  obtain ⟨T7, X7, e7, st7⟩ := getF X6 hx hZ hown (host := "") (Or.inl (hw _ (List.mem_of_getElem? (i := 17) rfl))) Via.refl e6 Dz_1 (g := (mkF m 88 #[.val (.ref a1), .val (.int p2), .val (.int p3), .unset] [(.ref a1), (.int S.2.2.2.2.2.2), (.ref b1)])) rfl rfl (hb hby d6_88)
  refine own_via st7 ?_
  show own_G p.tables e below _ (T7.setTop (mkF m 91 #[.val (.ref a1), .val (.int p2), .val (.int p3), .unset] [(.ref b0), (.int S.2.2.2.2.2.2), (.ref b1)]))
  refine own_via (S' := T7.setTop (mkF m 92 #[.val (.ref a1), .val (.int p2), .val (.int p3), .unset] [(.int p2), (.ref b0), (.int S.2.2.2.2.2.2), (.ref b1)])) (fun t k => ?_) ?_
  · show Steps p.tables e below (T7.setTop (mkF m 91 #[.val (.ref a1), .val (.int p2), .val (.int p3), .unset] [(.ref b0), (.int S.2.2.2.2.2.2), (.ref b1)])) t
    refine XS.iloadN X7.here hx rfl (hb hby d6_91) rfl ?_
    exact k
  obtain ⟨⟨cl8, Ar8, q8, S8, Nn8, H8, G8⟩, Le8⟩ := id Dz_8
  have hin8 : ¬ (p2 < 0 ∨ cl8.slots.size ≤ (p2).toNatClampNeg) := inb_of S8 hpre.1
  have hat8 : cl8.slots[(p2).toNatClampNeg]? = some (.int (S.1.getD (p2).toNatClampNeg 0)) := Has.at H8 hin8 (own_gI _ _)
  refine own_via (S' := T7.setTop (mkF m 93 #[.val (.ref a1), .val (.int p2), .val (.int p3), .unset] [(.int (S.1.getD (p2).toNatClampNeg 0)), (.int S.2.2.2.2.2.2), (.ref b1)])) (fun t kz_ => X7.iaload hx (j := p2) (v := (.int (S.1.getD (p2).toNatClampNeg 0))) (by rw [e7]; exact Ar8.1) (State.isArrayOf_alike hZ.alike Ar8.2.1) Ar8.2.2 hin8 hat8 (g := (mkF m 92 #[.val (.ref a1), .val (.int p2), .val (.int p3), .unset] [(.int p2), (.ref b0), (.int S.2.2.2.2.2.2), (.ref b1)])) rfl rfl (hb hby d6_92) _ kz_) ?_
  obtain ⟨⟨cl9, Ar9, q9, S9, Nn9, H9, G9⟩, Le9⟩ := id Dz_9
  have hin9 : ¬ (S.2.2.2.2.2.2 < 0 ∨ cl9.slots.size ≤ (S.2.2.2.2.2.2).toNatClampNeg) := inb_of S9 hpre.2.2.1
  obtain ⟨T9, h9, X9, e9, W9, st9⟩ := stI X7 hx hZ e7 Ar9 (j := S.2.2.2.2.2.2) hin9 (g := (mkF m 93 #[.val (.ref a1), .val (.int p2), .val (.int p3), .unset] [(.int (S.1.getD (p2).toNatClampNeg 0)), (.int S.2.2.2.2.2.2), (.ref b1)])) rfl rfl (hb hby d6_93)
  have V9 : own_Ar Z h9 b1 k1 .int (16 : Int32) (List.map Value.int (S.2.1.set (S.2.2.2.2.2.2).toNatClampNeg (S.1.getD (p2).toNatClampNeg 0))) (.int (0 : Int32)) := own_Ar.setI Ar9 q9 S9 Nn9 H9 G9 rfl W9 hin9 Le9
  have K10 : Keep h0 h9 [a1, b0, b1, b2, b3, b4, b5] := Keep.wr K0 W9 (Or.inl (List.mem_of_getElem? (i := 2) rfl))
  have N10 := Fr.snoc X9 N0 g2
  refine own_via st9 ?_
  show own_G p.tables e below _ (T9.setTop (mkF m 94 #[.val (.ref a1), .val (.int p2), .val (.int p3), .unset] []))
  refine own_via (S' := T9.setTop (mkF m 95 #[.val (.ref a1), .val (.int p2), .val (.int p3), .unset] [(.ref a1)])) (fun t k => ?_) ?_
  · show Steps p.tables e below (T9.setTop (mkF m 94 #[.val (.ref a1), .val (.int p2), .val (.int p3), .unset] [])) t
    refine XS.aloadN X9.here hx rfl (hb hby d6_94) rfl rfl ?_
    exact k
  have c11 := (Fld.other W9 Dz_3 (Or.inl ne1))
  obtain ⟨T12, X12, e12, st12⟩ := getF X9 hx hZ hown (host := "") (Or.inl (hw _ (List.mem_of_getElem? (i := 25) rfl))) Via.refl e9 c11 (g := (mkF m 95 #[.val (.ref a1), .val (.int p2), .val (.int p3), .unset] [(.ref a1)])) rfl rfl (hb hby d6_95)
  refine own_via st12 ?_
  show own_G p.tables e below _ (T12.setTop (mkF m 98 #[.val (.ref a1), .val (.int p2), .val (.int p3), .unset] [(.ref b2)]))
  refine own_via (S' := T12.setTop (mkF m 99 #[.val (.ref a1), .val (.int p2), .val (.int p3), .unset] [(.ref a1), (.ref b2)])) (fun t k => ?_) ?_
  · show Steps p.tables e below (T12.setTop (mkF m 98 #[.val (.ref a1), .val (.int p2), .val (.int p3), .unset] [(.ref b2)])) t
    refine XS.aloadN X12.here hx rfl (hb hby d6_98) rfl rfl ?_
    exact k
  have c13 := (Fld.other W9 Dz_7 (Or.inl ne1))
  obtain ⟨T14, X14, e14, st14⟩ := getF X12 hx hZ hown (host := "") (Or.inl (hw _ (List.mem_of_getElem? (i := 36) rfl))) Via.refl e12 c13 (g := (mkF m 99 #[.val (.ref a1), .val (.int p2), .val (.int p3), .unset] [(.ref a1), (.ref b2)])) rfl rfl (hb hby d6_99)
  refine own_via st14 ?_
  show own_G p.tables e below _ (T14.setTop (mkF m 102 #[.val (.ref a1), .val (.int p2), .val (.int p3), .unset] [(.int S.2.2.2.2.2.2), (.ref b2)]))
  refine own_via (S' := T14.setTop (mkF m 103 #[.val (.ref a1), .val (.int p2), .val (.int p3), .unset] [(.int p2), (.int S.2.2.2.2.2.2), (.ref b2)])) (fun t k => ?_) ?_
  · show Steps p.tables e below (T14.setTop (mkF m 102 #[.val (.ref a1), .val (.int p2), .val (.int p3), .unset] [(.int S.2.2.2.2.2.2), (.ref b2)])) t
    refine XS.iloadN X14.here hx rfl (hb hby d6_102) rfl ?_
    exact k
  have c15 := (own_Ar.other Dz_10 W9 (Ne.symm ne11))
  obtain ⟨⟨cl16, Ar16, q16, S16, Nn16, H16, G16⟩, Le16⟩ := id c15
  have hin16 : ¬ (S.2.2.2.2.2.2 < 0 ∨ cl16.slots.size ≤ (S.2.2.2.2.2.2).toNatClampNeg) := inb_of S16 hpre.2.2.1
  obtain ⟨T16, h16, X16, e16, W16, st16⟩ := stI X14 hx hZ e14 Ar16 (j := S.2.2.2.2.2.2) hin16 (g := (mkF m 103 #[.val (.ref a1), .val (.int p2), .val (.int p3), .unset] [(.int p2), (.int S.2.2.2.2.2.2), (.ref b2)])) rfl rfl (hb hby d6_103)
  have V16 : own_Ar Z h16 b2 k2 .int (16 : Int32) (List.map Value.int (S.2.2.1.set (S.2.2.2.2.2.2).toNatClampNeg p2)) (.int (0 : Int32)) := own_Ar.setI Ar16 q16 S16 Nn16 H16 G16 rfl W16 hin16 Le16
  have K17 : Keep h0 h16 [a1, b0, b1, b2, b3, b4, b5] := Keep.wr K10 W16 (Or.inl (List.mem_of_getElem? (i := 3) rfl))
  have N17 := Fr.snoc X16 N10 g3
  refine own_via st16 ?_
  show own_G p.tables e below _ (T16.setTop (mkF m 104 #[.val (.ref a1), .val (.int p2), .val (.int p3), .unset] []))
  refine own_via (S' := T16.setTop (mkF m 105 #[.val (.ref a1), .val (.int p2), .val (.int p3), .unset] [(.ref a1)])) (fun t k => ?_) ?_
  · show Steps p.tables e below (T16.setTop (mkF m 104 #[.val (.ref a1), .val (.int p2), .val (.int p3), .unset] [])) t
    refine XS.aloadN X16.here hx rfl (hb hby d6_104) rfl rfl ?_
    exact k
  have c18 := (Fld.other W16 (Fld.other W9 Dz_4 (Or.inl ne1)) (Or.inl ne2))
  obtain ⟨T19, X19, e19, st19⟩ := getF X16 hx hZ hown (host := "") (Or.inl (hw _ (List.mem_of_getElem? (i := 27) rfl))) Via.refl e16 c18 (g := (mkF m 105 #[.val (.ref a1), .val (.int p2), .val (.int p3), .unset] [(.ref a1)])) rfl rfl (hb hby d6_105)
  refine own_via st19 ?_
  show own_G p.tables e below _ (T19.setTop (mkF m 108 #[.val (.ref a1), .val (.int p2), .val (.int p3), .unset] [(.ref b3)]))
  refine own_via (S' := T19.setTop (mkF m 109 #[.val (.ref a1), .val (.int p2), .val (.int p3), .unset] [(.ref a1), (.ref b3)])) (fun t k => ?_) ?_
  · show Steps p.tables e below (T19.setTop (mkF m 108 #[.val (.ref a1), .val (.int p2), .val (.int p3), .unset] [(.ref b3)])) t
    refine XS.aloadN X19.here hx rfl (hb hby d6_108) rfl rfl ?_
    exact k
  have c20 := (Fld.other W16 c13 (Or.inl ne2))
  obtain ⟨T21, X21, e21, st21⟩ := getF X19 hx hZ hown (host := "") (Or.inl (hw _ (List.mem_of_getElem? (i := 36) rfl))) Via.refl e19 c20 (g := (mkF m 109 #[.val (.ref a1), .val (.int p2), .val (.int p3), .unset] [(.ref a1), (.ref b3)])) rfl rfl (hb hby d6_109)
  refine own_via st21 ?_
  show own_G p.tables e below _ (T21.setTop (mkF m 112 #[.val (.ref a1), .val (.int p2), .val (.int p3), .unset] [(.int S.2.2.2.2.2.2), (.ref b3)]))
  refine own_via (S' := T21.setTop (mkF m 113 #[.val (.ref a1), .val (.int p2), .val (.int p3), .unset] [(.int p3), (.int S.2.2.2.2.2.2), (.ref b3)])) (fun t k => ?_) ?_
  · show Steps p.tables e below (T21.setTop (mkF m 112 #[.val (.ref a1), .val (.int p2), .val (.int p3), .unset] [(.int S.2.2.2.2.2.2), (.ref b3)])) t
    refine XS.iloadN X21.here hx rfl (hb hby d6_112) rfl ?_
    exact k
  have c22 := (own_Ar.other (own_Ar.other Dz_11 W9 (Ne.symm ne12)) W16 (Ne.symm ne15))
  obtain ⟨⟨cl23, Ar23, q23, S23, Nn23, H23, G23⟩, Le23⟩ := id c22
  have hin23 : ¬ (S.2.2.2.2.2.2 < 0 ∨ cl23.slots.size ≤ (S.2.2.2.2.2.2).toNatClampNeg) := inb_of S23 hpre.2.2.1
  obtain ⟨T23, h23, X23, e23, W23, st23⟩ := stI X21 hx hZ e21 Ar23 (j := S.2.2.2.2.2.2) hin23 (g := (mkF m 113 #[.val (.ref a1), .val (.int p2), .val (.int p3), .unset] [(.int p3), (.int S.2.2.2.2.2.2), (.ref b3)])) rfl rfl (hb hby d6_113)
  have V23 : own_Ar Z h23 b3 k3 .int (16 : Int32) (List.map Value.int (S.2.2.2.1.set (S.2.2.2.2.2.2).toNatClampNeg p3)) (.int (0 : Int32)) := own_Ar.setI Ar23 q23 S23 Nn23 H23 G23 rfl W23 hin23 Le23
  have K24 : Keep h0 h23 [a1, b0, b1, b2, b3, b4, b5] := Keep.wr K17 W23 (Or.inl (List.mem_of_getElem? (i := 4) rfl))
  have N24 := Fr.snoc X23 N17 g4
  refine own_via st23 ?_
  show own_G p.tables e below _ (T23.setTop (mkF m 114 #[.val (.ref a1), .val (.int p2), .val (.int p3), .unset] []))
  refine own_via (S' := T23.setTop (mkF m 115 #[.val (.ref a1), .val (.int p2), .val (.int p3), .unset] [(.ref a1)])) (fun t k => ?_) ?_
  · show Steps p.tables e below (T23.setTop (mkF m 114 #[.val (.ref a1), .val (.int p2), .val (.int p3), .unset] [])) t
    refine XS.aloadN X23.here hx rfl (hb hby d6_114) rfl rfl ?_
    exact k
  have c25 := (Fld.other W23 (Fld.other W16 (Fld.other W9 Dz_1 (Or.inl ne1)) (Or.inl ne2)) (Or.inl ne3))
  obtain ⟨T26, X26, e26, st26⟩ := getF X23 hx hZ hown (host := "") (Or.inl (hw _ (List.mem_of_getElem? (i := 17) rfl))) Via.refl e23 c25 (g := (mkF m 115 #[.val (.ref a1), .val (.int p2), .val (.int p3), .unset] [(.ref a1)])) rfl rfl (hb hby d6_115)
  refine own_via st26 ?_
  show own_G p.tables e below _ (T26.setTop (mkF m 118 #[.val (.ref a1), .val (.int p2), .val (.int p3), .unset] [(.ref b0)]))
  refine own_via (S' := T26.setTop (mkF m 120 #[.val (.ref a1), .val (.int p2), .val (.int p3), .unset] [(.ref a1), (.int p2), (.ref b0)])) (fun t k => ?_) ?_
  · show Steps p.tables e below (T26.setTop (mkF m 118 #[.val (.ref a1), .val (.int p2), .val (.int p3), .unset] [(.ref b0)])) t
    refine XS.iloadN X26.here hx rfl (hb hby d6_118) rfl ?_
    show Steps p.tables e below (T26.setTop (mkF m 119 #[.val (.ref a1), .val (.int p2), .val (.int p3), .unset] [(.int p2), (.ref b0)])) t
    refine XS.aloadN X26.here hx rfl (hb hby d6_119) rfl rfl ?_
    exact k
  have c27 := (Fld.other W23 c20 (Or.inl ne3))
  obtain ⟨T28, X28, e28, st28⟩ := getF X26 hx hZ hown (host := "") (Or.inl (hw _ (List.mem_of_getElem? (i := 36) rfl))) Via.refl e26 c27 (g := (mkF m 120 #[.val (.ref a1), .val (.int p2), .val (.int p3), .unset] [(.ref a1), (.int p2), (.ref b0)])) rfl rfl (hb hby d6_120)
  refine own_via st28 ?_
  show own_G p.tables e below _ (T28.setTop (mkF m 123 #[.val (.ref a1), .val (.int p2), .val (.int p3), .unset] [(.int S.2.2.2.2.2.2), (.int p2), (.ref b0)]))
  have c29 := (own_Ar.other (own_Ar.other (own_Ar.other Dz_8 W9 ne6) W16 ne7) W23 ne8)
  obtain ⟨⟨cl30, Ar30, q30, S30, Nn30, H30, G30⟩, Le30⟩ := id c29
  have hin30 : ¬ (p2 < 0 ∨ cl30.slots.size ≤ (p2).toNatClampNeg) := inb_of S30 hpre.1
  obtain ⟨T30, h30, X30, e30, W30, st30⟩ := stI X28 hx hZ e28 Ar30 (j := p2) hin30 (g := (mkF m 123 #[.val (.ref a1), .val (.int p2), .val (.int p3), .unset] [(.int S.2.2.2.2.2.2), (.int p2), (.ref b0)])) rfl rfl (hb hby d6_123)
  have V30 : own_Ar Z h30 b0 k0 .int (3 : Int32) (List.map Value.int (S.1.set (p2).toNatClampNeg S.2.2.2.2.2.2)) (.int (0 : Int32)) := own_Ar.setI Ar30 q30 S30 Nn30 H30 G30 rfl W30 hin30 Le30
  have K31 : Keep h0 h30 [a1, b0, b1, b2, b3, b4, b5] := Keep.wr K24 W30 (Or.inl (List.mem_of_getElem? (i := 1) rfl))
  have N31 := Fr.snoc X30 N24 g1
  refine own_via st30 ?_
  show own_G p.tables e below _ (T30.setTop (mkF m 124 #[.val (.ref a1), .val (.int p2), .val (.int p3), .unset] []))
  refine own_via (S' := T30.setTop (mkF m 125 #[.val (.ref a1), .val (.int p2), .val (.int p3), .unset] [(.ref a1)])) (fun t k => ?_) ?_
  · show Steps p.tables e below (T30.setTop (mkF m 124 #[.val (.ref a1), .val (.int p2), .val (.int p3), .unset] [])) t
    refine XS.aloadN X30.here hx rfl (hb hby d6_124) rfl rfl ?_
    exact k
  have c32 := (Fld.other W30 (Fld.other W23 (Fld.other W16 (Fld.other W9 Dz_6 (Or.inl ne1)) (Or.inl ne2)) (Or.inl ne3)) (Or.inl ne0))
  obtain ⟨T33, X33, e33, st33⟩ := getF X30 hx hZ hown (host := "") (Or.inl (hw _ (List.mem_of_getElem? (i := 38) rfl))) Via.refl e30 c32 (g := (mkF m 125 #[.val (.ref a1), .val (.int p2), .val (.int p3), .unset] [(.ref a1)])) rfl rfl (hb hby d6_125)
  refine own_via st33 ?_
  show own_G p.tables e below _ (T33.setTop (mkF m 128 #[.val (.ref a1), .val (.int p2), .val (.int p3), .unset] [(.ref b5)]))
  refine own_via (S' := T33.setTop (mkF m 131 #[.val (.ref a1), .val (.int p2), .val (.int p3), .unset] [])) (fun t k => XS.ifnullNo (g := (mkF m 128 #[.val (.ref a1), .val (.int p2), .val (.int p3), .unset] [(.ref b5)])) X33.here hx rfl (hb hby d6_128) rfl k) ?_
  refine own_via (S' := T33.setTop (mkF m 132 #[.val (.ref a1), .val (.int p2), .val (.int p3), .unset] [(.ref a1)])) (fun t k => ?_) ?_
  · show Steps p.tables e below (T33.setTop (mkF m 131 #[.val (.ref a1), .val (.int p2), .val (.int p3), .unset] [])) t
    refine XS.aloadN X33.here hx rfl (hb hby d6_131) rfl rfl ?_
    exact k
  obtain ⟨T35, X35, e35, st35⟩ := getF X33 hx hZ hown (host := "") (Or.inl (hw _ (List.mem_of_getElem? (i := 38) rfl))) Via.refl e33 c32 (g := (mkF m 132 #[.val (.ref a1), .val (.int p2), .val (.int p3), .unset] [(.ref a1)])) rfl rfl (hb hby d6_132)
  refine own_via st35 ?_
  show own_G p.tables e below _ (T35.setTop (mkF m 135 #[.val (.ref a1), .val (.int p2), .val (.int p3), .unset] [(.ref b5)]))
  refine own_via (S' := T35.setTop (mkF m 136 #[.val (.ref a1), .val (.int p2), .val (.int p3), .unset] [(.ref a1), (.ref b5)])) (fun t k => ?_) ?_
  · show Steps p.tables e below (T35.setTop (mkF m 135 #[.val (.ref a1), .val (.int p2), .val (.int p3), .unset] [(.ref b5)])) t
    refine XS.aloadN X35.here hx rfl (hb hby d6_135) rfl rfl ?_
    exact k
  have c36 := (Fld.other W30 c27 (Or.inl ne0))
  obtain ⟨T37, X37, e37, st37⟩ := getF X35 hx hZ hown (host := "") (Or.inl (hw _ (List.mem_of_getElem? (i := 36) rfl))) Via.refl e35 c36 (g := (mkF m 136 #[.val (.ref a1), .val (.int p2), .val (.int p3), .unset] [(.ref a1), (.ref b5)])) rfl rfl (hb hby d6_136)
  refine own_via st37 ?_
  show own_G p.tables e below _ (T37.setTop (mkF m 139 #[.val (.ref a1), .val (.int p2), .val (.int p3), .unset] [(.int S.2.2.2.2.2.2), (.ref b5)]))
  refine own_via (S' := T37.setTop (mkF m 140 #[.val (.ref a1), .val (.int p2), .val (.int p3), .unset] [(.ref a1), (.int S.2.2.2.2.2.2), (.ref b5)])) (fun t k => ?_) ?_
  · show Steps p.tables e below (T37.setTop (mkF m 139 #[.val (.ref a1), .val (.int p2), .val (.int p3), .unset] [(.int S.2.2.2.2.2.2), (.ref b5)])) t
    refine XS.aloadN X37.here hx rfl (hb hby d6_139) rfl rfl ?_
    exact k
  have c38 := (Fld.other W30 (Fld.other W23 (Fld.other W16 (Fld.other W9 Dz_5 (Or.inl ne1)) (Or.inl ne2)) (Or.inl ne3)) (Or.inl ne0))
  obtain ⟨T39, X39, e39, st39⟩ := getF X37 hx hZ hown (host := "") (Or.inl (hw _ (List.mem_of_getElem? (i := 29) rfl))) Via.refl e37 c38 (g := (mkF m 140 #[.val (.ref a1), .val (.int p2), .val (.int p3), .unset] [(.ref a1), (.int S.2.2.2.2.2.2), (.ref b5)])) rfl rfl (hb hby d6_140)
  refine own_via st39 ?_
  show own_G p.tables e below _ (T39.setTop (mkF m 143 #[.val (.ref a1), .val (.int p2), .val (.int p3), .unset] [(.ref b4), (.int S.2.2.2.2.2.2), (.ref b5)]))
  refine own_via (S' := T39.setTop (mkF m 144 #[.val (.ref a1), .val (.int p2), .val (.int p3), .unset] [(.int p3), (.ref b4), (.int S.2.2.2.2.2.2), (.ref b5)])) (fun t k => ?_) ?_
  · show Steps p.tables e below (T39.setTop (mkF m 143 #[.val (.ref a1), .val (.int p2), .val (.int p3), .unset] [(.ref b4), (.int S.2.2.2.2.2.2), (.ref b5)])) t
    refine XS.iloadN X39.here hx rfl (hb hby d6_143) rfl ?_
    exact k
  have c40 := (own_Ar.other (own_Ar.other (own_Ar.other (own_Ar.other Dz_12 W9 (Ne.symm ne13)) W16 (Ne.symm ne16)) W23 (Ne.symm ne18)) W30 (Ne.symm ne9))
  obtain ⟨⟨cl41, Ar41, q41, S41, Nn41, H41, G41⟩, Le41⟩ := id c40
  have hin41 : ¬ (p3 < 0 ∨ cl41.slots.size ≤ (p3).toNatClampNeg) := inb_of S41 hpre.2.1
  have hat41 : cl41.slots[(p3).toNatClampNeg]? = some (.int (S.2.2.2.2.1.getD (p3).toNatClampNeg 0)) := Has.at H41 hin41 (own_gI _ _)
  refine own_via (S' := T39.setTop (mkF m 145 #[.val (.ref a1), .val (.int p2), .val (.int p3), .unset] [(.int (S.2.2.2.2.1.getD (p3).toNatClampNeg 0)), (.int S.2.2.2.2.2.2), (.ref b5)])) (fun t kz_ => X39.iaload hx (j := p3) (v := (.int (S.2.2.2.2.1.getD (p3).toNatClampNeg 0))) (by rw [e39]; exact Ar41.1) (State.isArrayOf_alike hZ.alike Ar41.2.1) Ar41.2.2 hin41 hat41 (g := (mkF m 144 #[.val (.ref a1), .val (.int p2), .val (.int p3), .unset] [(.int p3), (.ref b4), (.int S.2.2.2.2.2.2), (.ref b5)])) rfl rfl (hb hby d6_144) _ kz_) ?_
  have c42 := (own_Ar.other (own_Ar.other (own_Ar.other (own_Ar.other Dz_13 W9 (Ne.symm ne14)) W16 (Ne.symm ne17)) W23 (Ne.symm ne19)) W30 (Ne.symm ne10))
  obtain ⟨⟨cl43, Ar43, q43, S43, Nn43, H43, G43⟩, Le43⟩ := id c42
  have hin43 : ¬ (S.2.2.2.2.2.2 < 0 ∨ cl43.slots.size ≤ (S.2.2.2.2.2.2).toNatClampNeg) := inb_of S43 hpre.2.2.1
  obtain ⟨T43, h43, X43, e43, W43, st43⟩ := stI X39 hx hZ e39 Ar43 (j := S.2.2.2.2.2.2) hin43 (g := (mkF m 145 #[.val (.ref a1), .val (.int p2), .val (.int p3), .unset] [(.int (S.2.2.2.2.1.getD (p3).toNatClampNeg 0)), (.int S.2.2.2.2.2.2), (.ref b5)])) rfl rfl (hb hby d6_145)
  have V43 : own_Ar Z h43 b5 k5 .int (16 : Int32) (List.map Value.int (S.2.2.2.2.2.1.set (S.2.2.2.2.2.2).toNatClampNeg (S.2.2.2.2.1.getD (p3).toNatClampNeg 0))) (.int (0 : Int32)) := own_Ar.setI Ar43 q43 S43 Nn43 H43 G43 rfl W43 hin43 Le43
  have K44 : Keep h0 h43 [a1, b0, b1, b2, b3, b4, b5] := Keep.wr K31 W43 (Or.inl (List.mem_of_getElem? (i := 6) rfl))
  have N44 := Fr.snoc X43 N31 g6
  refine own_via st43 ?_
  show own_G p.tables e below _ (T43.setTop (mkF m 146 #[.val (.ref a1), .val (.int p2), .val (.int p3), .unset] []))
  refine own_via (S' := T43.setTop (mkF m 147 #[.val (.ref a1), .val (.int p2), .val (.int p3), .unset] [(.ref a1)])) (fun t k => ?_) ?_
  · show Steps p.tables e below (T43.setTop (mkF m 146 #[.val (.ref a1), .val (.int p2), .val (.int p3), .unset] [])) t
    refine XS.aloadN X43.here hx rfl (hb hby d6_146) rfl rfl ?_
    exact k
  have c45 := (Fld.other W43 c38 (Or.inl ne5))
  obtain ⟨T46, X46, e46, st46⟩ := getF X43 hx hZ hown (host := "") (Or.inl (hw _ (List.mem_of_getElem? (i := 29) rfl))) Via.refl e43 c45 (g := (mkF m 147 #[.val (.ref a1), .val (.int p2), .val (.int p3), .unset] [(.ref a1)])) rfl rfl (hb hby d6_147)
  refine own_via st46 ?_
  show own_G p.tables e below _ (T46.setTop (mkF m 150 #[.val (.ref a1), .val (.int p2), .val (.int p3), .unset] [(.ref b4)]))
  refine own_via (S' := T46.setTop (mkF m 152 #[.val (.ref a1), .val (.int p2), .val (.int p3), .unset] [(.ref a1), (.int p3), (.ref b4)])) (fun t k => ?_) ?_
  · show Steps p.tables e below (T46.setTop (mkF m 150 #[.val (.ref a1), .val (.int p2), .val (.int p3), .unset] [(.ref b4)])) t
    refine XS.iloadN X46.here hx rfl (hb hby d6_150) rfl ?_
    show Steps p.tables e below (T46.setTop (mkF m 151 #[.val (.ref a1), .val (.int p2), .val (.int p3), .unset] [(.int p3), (.ref b4)])) t
    refine XS.aloadN X46.here hx rfl (hb hby d6_151) rfl rfl ?_
    exact k
  have c47 := (Fld.other W43 c36 (Or.inl ne5))
  obtain ⟨T48, X48, e48, st48⟩ := getF X46 hx hZ hown (host := "") (Or.inl (hw _ (List.mem_of_getElem? (i := 36) rfl))) Via.refl e46 c47 (g := (mkF m 152 #[.val (.ref a1), .val (.int p2), .val (.int p3), .unset] [(.ref a1), (.int p3), (.ref b4)])) rfl rfl (hb hby d6_152)
  refine own_via st48 ?_
  show own_G p.tables e below _ (T48.setTop (mkF m 155 #[.val (.ref a1), .val (.int p2), .val (.int p3), .unset] [(.int S.2.2.2.2.2.2), (.int p3), (.ref b4)]))
  have c49 := (own_Ar.other c40 W43 ne20)
  obtain ⟨⟨cl50, Ar50, q50, S50, Nn50, H50, G50⟩, Le50⟩ := id c49
  have hin50 : ¬ (p3 < 0 ∨ cl50.slots.size ≤ (p3).toNatClampNeg) := inb_of S50 hpre.2.1
  obtain ⟨T50, h50, X50, e50, W50, st50⟩ := stI X48 hx hZ e48 Ar50 (j := p3) hin50 (g := (mkF m 155 #[.val (.ref a1), .val (.int p2), .val (.int p3), .unset] [(.int S.2.2.2.2.2.2), (.int p3), (.ref b4)])) rfl rfl (hb hby d6_155)
  have V50 : own_Ar Z h50 b4 k4 .int (3 : Int32) (List.map Value.int (S.2.2.2.2.1.set (p3).toNatClampNeg S.2.2.2.2.2.2)) (.int (0 : Int32)) := own_Ar.setI Ar50 q50 S50 Nn50 H50 G50 rfl W50 hin50 Le50
  have K51 : Keep h0 h50 [a1, b0, b1, b2, b3, b4, b5] := Keep.wr K44 W50 (Or.inl (List.mem_of_getElem? (i := 5) rfl))
  have N51 := Fr.snoc X50 N44 g5
  refine own_via st50 ?_
  show own_G p.tables e below _ (T50.setTop (mkF m 156 #[.val (.ref a1), .val (.int p2), .val (.int p3), .unset] []))
  refine own_via (S' := T50.setTop (mkF m 158 #[.val (.ref a1), .val (.int p2), .val (.int p3), .unset] [(.ref a1), (.ref a1)])) (fun t k => ?_) ?_
  · show Steps p.tables e below (T50.setTop (mkF m 156 #[.val (.ref a1), .val (.int p2), .val (.int p3), .unset] [])) t
    refine XS.aloadN X50.here hx rfl (hb hby d6_156) rfl rfl ?_
    show Steps p.tables e below (T50.setTop (mkF m 157 #[.val (.ref a1), .val (.int p2), .val (.int p3), .unset] [(.ref a1)])) t
    refine XS.dup X50.here hx rfl (hb hby d6_157) rfl rfl ?_
    exact k
  have c52 := (Fld.other W50 c47 (Or.inl ne4))
  obtain ⟨T53, X53, e53, st53⟩ := getF X50 hx hZ hown (host := "") (Or.inl (hw _ (List.mem_of_getElem? (i := 36) rfl))) Via.refl e50 c52 (g := (mkF m 158 #[.val (.ref a1), .val (.int p2), .val (.int p3), .unset] [(.ref a1), (.ref a1)])) rfl rfl (hb hby d6_158)
  refine own_via st53 ?_
  show own_G p.tables e below _ (T53.setTop (mkF m 161 #[.val (.ref a1), .val (.int p2), .val (.int p3), .unset] [(.int S.2.2.2.2.2.2), (.ref a1)]))
  refine own_via (S' := T53.setTop (mkF m 163 #[.val (.ref a1), .val (.int p2), .val (.int p3), .unset] [(.int (S.2.2.2.2.2.2 + (1 : Int32))), (.ref a1)])) (fun t k => ?_) ?_
  · show Steps p.tables e below (T53.setTop (mkF m 161 #[.val (.ref a1), .val (.int p2), .val (.int p3), .unset] [(.int S.2.2.2.2.2.2), (.ref a1)])) t
    refine XS.iconst X53.here hx rfl (hb hby d6_161) ?_
    show Steps p.tables e below (T53.setTop (mkF m 162 #[.val (.ref a1), .val (.int p2), .val (.int p3), .unset] [(.int (1 : Int32)), (.int S.2.2.2.2.2.2), (.ref a1)])) t
    refine XS.iadd X53.here hx rfl (hb hby d6_162) rfl ?_
    exact k
  have c54 := (Exa.wr W50 (Exa.wr W43 (Exa.wr W30 (Exa.wr W23 (Exa.wr W16 (Exa.wr W9 Dz_0))))))
  obtain ⟨T55, h55, X55, e55, W55, st55⟩ := putF X53 hx hZ hown (host := "") (Or.inl (hw _ (List.mem_of_getElem? (i := 36) rfl))) Via.refl e53 c52 c54 (Or.inl (hw _ (List.mem_of_getElem? (i := 37) rfl))) (hw _ (List.mem_of_getElem? (i := 1) rfl)) (ty := .int) (by decide) rfl rfl (g := (mkF m 163 #[.val (.ref a1), .val (.int p2), .val (.int p3), .unset] [(.int (S.2.2.2.2.2.2 + (1 : Int32))), (.ref a1)])) rfl rfl (hb hby d6_163)
  have F55 := Fld.same W55 c52
  have K56 : Keep h0 h55 [a1, b0, b1, b2, b3, b4, b5] := Keep.wr K51 W55 (Or.inl (List.mem_of_getElem? (i := 0) rfl))
  have N56 := Fr.snoc X55 N51 g0
  refine own_via st55 ?_
  show own_G p.tables e below _ (T55.setTop (mkF m 166 #[.val (.ref a1), .val (.int p2), .val (.int p3), .unset] []))
  have c57 := (Exa.wr W55 c54)
  have c58 := (Fld.other W55 (Fld.other W50 (Fld.other W43 (Fld.other W30 c25 (Or.inl ne0)) (Or.inl ne5)) (Or.inl ne4)) (Or.inr (slot_ne (Or.inr (hw _ (List.mem_of_getElem? (i := 18) rfl))) (Or.inl (hw _ (List.mem_of_getElem? (i := 37) rfl))) (by decide) (t := (.array .int)) (t' := .int) (by decide) (by decide))))
  have c59 := (Fld.other W55 (Fld.other W50 (Fld.other W43 (Fld.other W30 (Fld.other W23 (Fld.other W16 (Fld.other W9 Dz_2 (Or.inl ne1)) (Or.inl ne2)) (Or.inl ne3)) (Or.inl ne0)) (Or.inl ne5)) (Or.inl ne4)) (Or.inr (slot_ne (Or.inl (hw _ (List.mem_of_getElem? (i := 24) rfl))) (Or.inl (hw _ (List.mem_of_getElem? (i := 37) rfl))) (by decide) (t := (.array .int)) (t' := .int) (by decide) (by decide))))
  have c60 := (Fld.other W55 (Fld.other W50 (Fld.other W43 (Fld.other W30 (Fld.other W23 (Fld.other W16 c11 (Or.inl ne2)) (Or.inl ne3)) (Or.inl ne0)) (Or.inl ne5)) (Or.inl ne4)) (Or.inr (slot_ne (Or.inl (hw _ (List.mem_of_getElem? (i := 26) rfl))) (Or.inl (hw _ (List.mem_of_getElem? (i := 37) rfl))) (by decide) (t := (.array .int)) (t' := .int) (by decide) (by decide))))
  have c61 := (Fld.other W55 (Fld.other W50 (Fld.other W43 (Fld.other W30 (Fld.other W23 c18 (Or.inl ne3)) (Or.inl ne0)) (Or.inl ne5)) (Or.inl ne4)) (Or.inr (slot_ne (Or.inl (hw _ (List.mem_of_getElem? (i := 28) rfl))) (Or.inl (hw _ (List.mem_of_getElem? (i := 37) rfl))) (by decide) (t := (.array .int)) (t' := .int) (by decide) (by decide))))
  have c62 := (Fld.other W55 (Fld.other W50 c45 (Or.inl ne4)) (Or.inr (slot_ne (Or.inr (hw _ (List.mem_of_getElem? (i := 30) rfl))) (Or.inl (hw _ (List.mem_of_getElem? (i := 37) rfl))) (by decide) (t := (.array .int)) (t' := .int) (by decide) (by decide))))
  have c63 := (Fld.other W55 (Fld.other W50 (Fld.other W43 c32 (Or.inl ne5)) (Or.inl ne4)) (Or.inr (slot_ne (Or.inl (hw _ (List.mem_of_getElem? (i := 39) rfl))) (Or.inl (hw _ (List.mem_of_getElem? (i := 37) rfl))) (by decide) (t := (.array .int)) (t' := .int) (by decide) (by decide))))
  have c64 := (own_Ar.other (own_Ar.other (own_Ar.other V30 W43 ne10) W50 ne9) W55 (Ne.symm ne0))
  have c65 := (own_Ar.other (own_Ar.other (own_Ar.other (own_Ar.other (own_Ar.other (own_Ar.other V9 W16 ne11) W23 ne12) W30 (Ne.symm ne6)) W43 ne14) W50 ne13) W55 (Ne.symm ne1))
  have c66 := (own_Ar.other (own_Ar.other (own_Ar.other (own_Ar.other (own_Ar.other V16 W23 ne15) W30 (Ne.symm ne7)) W43 ne17) W50 ne16) W55 (Ne.symm ne2))
  have c67 := (own_Ar.other (own_Ar.other (own_Ar.other (own_Ar.other V23 W30 (Ne.symm ne8)) W43 ne19) W50 ne18) W55 (Ne.symm ne3))
  have c68 := (own_Ar.other V50 W55 (Ne.symm ne4))
  have c69 := (own_Ar.other (own_Ar.other V43 W50 (Ne.symm ne20)) W55 (Ne.symm ne5))
  exact own_end (h := h55) X55 (v := none) Bd.notSynchronized (fun _ => rfl) (fun fs hr => X55.returnOut hx Bd.returns (hb hby d6_166) hr) e55 ⟨rfl, N56, K56, _, rfl, ⟨c57, c58, c59, c60, c61, c62, c63, F55, c64, c65, c66, c67, c68, c69⟩⟩ (by decide) (by decide)
theorem d7_40 : decode prog_26_method_10_code 40 = .ok (.aload_n 0, 1) := by decide +kernel
theorem d7_41 : decode prog_26_method_10_code 41 = .ok (.getfield 37, 3) := by decide +kernel
theorem d7_44 : decode prog_26_method_10_code 44 = .ok (.aload_n 0, 1) := by decide +kernel
theorem d7_45 : decode prog_26_method_10_code 45 = .ok (.getfield 34, 3) := by decide +kernel
theorem d7_48 : decode prog_26_method_10_code 48 = .ok (.aload_n 0, 1) := by decide +kernel
theorem d7_49 : decode prog_26_method_10_code 49 = .ok (.getfield 51, 3) := by decide +kernel
theorem d7_52 : decode prog_26_method_10_code 52 = .ok (.iaload, 1) := by decide +kernel
theorem d7_53 : decode prog_26_method_10_code 53 = .ok (.aload_n 0, 1) := by decide +kernel
theorem d7_54 : decode prog_26_method_10_code 54 = .ok (.getfield 40, 3) := by decide +kernel
theorem d7_57 : decode prog_26_method_10_code 57 = .ok (.aload_n 0, 1) := by decide +kernel
theorem d7_58 : decode prog_26_method_10_code 58 = .ok (.getfield 51, 3) := by decide +kernel
theorem d7_61 : decode prog_26_method_10_code 61 = .ok (.iaload, 1) := by decide +kernel
theorem d7_62 : decode prog_26_method_10_code 62 = .ok (.iastore, 1) := by decide +kernel
def Q7i (Z : State) (a1 : Addr) (b0 : Addr) (b1 : Addr) (b2 : Addr) (b3 : Addr) (b4 : Addr) (b5 : Addr) (k0 : ClassId) (k1 : ClassId) (k2 : ClassId) (k3 : ClassId) (k4 : ClassId) (k5 : ClassId) (S : own_TGi) (h0 : Heap) (n0 : Nat) (v : Option Value) (h : Heap) (L : List Loc) : Prop := v = none ∧ Fr n0 L ∧ Keep h0 h [a1, b0, b1, b2, b3, b4, b5] ∧ ∃ S' : own_TGi, S' = own_remi S ∧ own_Gi Z h a1 b0 b1 b2 b3 b4 b5 k0 k1 k2 k3 k4 k5 S'
set_option maxRecDepth 65536 in
set_option maxHeartbeats 40000000 in
theorem rm7i (l : Launch) (Z : State) (a0 : Array Value) (hw : ∀ d ∈ tables_1, d.before a0 Z = true) (ws : List Jvm.Cond) (a1 : Addr) (b0 : Addr) (b1 : Addr) (b2 : Addr) (b3 : Addr) (b4 : Addr) (b5 : Addr) (k0 : ClassId) (k1 : ClassId) (k2 : ClassId) (k3 : ClassId) (k4 : ClassId) (k5 : ClassId) (S : own_TGi) (h0 : Heap) (n0 : Nat) (Z0 : n0 ≤ h0.size) (DS0 : own_Gi Z h0 a1 b0 b1 b2 b3 b4 b5 k0 k1 k2 k3 k4 k5 S) (ne0 : a1 ≠ b0) (ne1 : a1 ≠ b1) (ne2 : a1 ≠ b2) (ne3 : a1 ≠ b3) (ne4 : a1 ≠ b4) (ne5 : a1 ≠ b5) (ne6 : b0 ≠ b1) (ne7 : b0 ≠ b2) (ne8 : b0 ≠ b3) (ne9 : b0 ≠ b4) (ne10 : b0 ≠ b5) (ne11 : b1 ≠ b2) (ne12 : b1 ≠ b3) (ne13 : b1 ≠ b4) (ne14 : b1 ≠ b5) (ne15 : b2 ≠ b3) (ne16 : b2 ≠ b4) (ne17 : b2 ≠ b5) (ne18 : b3 ≠ b4) (ne19 : b3 ≠ b5) (ne20 : b4 ≠ b5) (g0 : n0 ≤ a1) (g1 : n0 ≤ b0) (g2 : n0 ≤ b1) (g3 : n0 ≤ b2) (g4 : n0 ≤ b3) (g5 : n0 ≤ b4) (g6 : n0 ≤ b5) (hpre : own_pRi S) :
    MetFree l (⟨"com/example/fenceline/fenceline/Digraph", "removeLastEdge", "()V"⟩ : MethodName) (head1 (Jvm.Cond.code (⟨"com/example/fenceline/fenceline/Digraph", "removeLastEdge", "()V"⟩ : MethodName) prog_26_method_10_code 1 none :: ws) ({ frames := 0, cells := 0, slots := 0, locals := 0 } : Room)) (fun a U => a = #[(.ref a1)] ∧ Z.Warmed39 U.vm ∧ U.heap = h0) (fun _ _ _ _ _ => True) (fun _ U o U' => ∃ v L, o = .returned v ∧ Q7i Z a1 b0 b1 b2 b3 b4 b5 k0 k1 k2 k3 k4 k5 S h0 n0 v U'.heap L ∧ FrameEnd U o U' L ({ frames := 0, cells := 0, slots := 0, locals := 0 } : Room).cells ({ frames := 0, cells := 0, slots := 0, locals := 0 } : Room).slots) := by
  refine MetFree.of_bodySF (plainFor_of_name pn7) hisR ?_
  intro p e s m args below meth c s₁ Bd hml0 hP hK
  obtain ⟨rfl, hZ, hh⟩ := hP
  have hx := Bd.exec
  have hby := Bd.bytes
  have hml : c.maxLocals = 1 := hml0
  have hown : s.vm.findClass "com/example/fenceline/fenceline/Digraph" = some m.cls := findClass_of_methodNamed Bd.named
  have hnm := (name_of_methodNamed Bd.named Bd.method).1
  have X0 : Stand p l e ({ frames := 0, cells := 0, slots := 0, locals := 0 } : Room) s m #[(.ref a1)] below meth c s₁ [] 0 0 := Stand.of_body Bd
  have e0 : s₁.heap = h0 := by rw [← hh, Bd.state]; rfl
  have N0 := Fr.nil n0
  refine (show own_G p.tables e below (own_P s (Q7i Z a1 b0 b1 b2 b3 b4 b5 k0 k1 k2 k3 k4 k5 S h0 n0) 0 0) (s₁.setTop (entryFrame m #[(.ref a1)] 1)) from ?_)
  refine own_via (fun t k => castTop (ef7 m a1) k) ?_
  show own_G p.tables e below _ (s₁.setTop (mkF m 0 #[.val (.ref a1)] []))
  obtain ⟨Dz_0, Dz_1, Dz_2, Dz_3, Dz_4, Dz_5, Dz_6, Dz_7, Dz_8, Dz_9, Dz_10, Dz_11, Dz_12, Dz_13⟩ := id DS0
  have K0 := Keep.refl h0 [a1, b0, b1, b2, b3, b4, b5]
  refine own_via (S' := s₁.setTop (mkF m 2 #[.val (.ref a1)] [(.ref a1), (.ref a1)])) (fun t k => ?_) ?_
  · show Steps p.tables e below (s₁.setTop (mkF m 0 #[.val (.ref a1)] [])) t
    refine XS.aloadN X0.here hx rfl (hb hby d7_0) rfl rfl ?_
    show Steps p.tables e below (s₁.setTop (mkF m 1 #[.val (.ref a1)] [(.ref a1)])) t
    refine XS.dup X0.here hx rfl (hb hby d7_1) rfl rfl ?_
    exact k
  obtain ⟨T1, X1, e1, st1⟩ := getF X0 hx hZ hown (host := "") (Or.inl (hw _ (List.mem_of_getElem? (i := 36) rfl))) Via.refl e0 Dz_7 (g := (mkF m 2 #[.val (.ref a1)] [(.ref a1), (.ref a1)])) rfl rfl (hb hby d7_2)
  refine own_via st1 ?_
  show own_G p.tables e below _ (T1.setTop (mkF m 5 #[.val (.ref a1)] [(.int S.2.2.2.2.2.2), (.ref a1)]))
  refine own_via (S' := T1.setTop (mkF m 7 #[.val (.ref a1)] [(.int (S.2.2.2.2.2.2 - (1 : Int32))), (.ref a1)])) (fun t k => ?_) ?_
  · show Steps p.tables e below (T1.setTop (mkF m 5 #[.val (.ref a1)] [(.int S.2.2.2.2.2.2), (.ref a1)])) t
    refine XS.iconst X1.here hx rfl (hb hby d7_5) ?_
    show Steps p.tables e below (T1.setTop (mkF m 6 #[.val (.ref a1)] [(.int (1 : Int32)), (.int S.2.2.2.2.2.2), (.ref a1)])) t
    refine XS.isub X1.here hx rfl (hb hby d7_6) rfl ?_
    exact k
  obtain ⟨T2, h2, X2, e2, W2, st2⟩ := putF X1 hx hZ hown (host := "") (Or.inl (hw _ (List.mem_of_getElem? (i := 36) rfl))) Via.refl e1 Dz_7 Dz_0 (Or.inl (hw _ (List.mem_of_getElem? (i := 37) rfl))) (hw _ (List.mem_of_getElem? (i := 1) rfl)) (ty := .int) (by decide) rfl rfl (g := (mkF m 7 #[.val (.ref a1)] [(.int (S.2.2.2.2.2.2 - (1 : Int32))), (.ref a1)])) rfl rfl (hb hby d7_7)
  have F2 := Fld.same W2 Dz_7
  have K3 : Keep h0 h2 [a1, b0, b1, b2, b3, b4, b5] := Keep.wr K0 W2 (Or.inl (List.mem_of_getElem? (i := 0) rfl))
  have N3 := Fr.snoc X2 N0 g0
  refine own_via st2 ?_
  show own_G p.tables e below _ (T2.setTop (mkF m 10 #[.val (.ref a1)] []))
  refine own_via (S' := T2.setTop (mkF m 11 #[.val (.ref a1)] [(.ref a1)])) (fun t k => ?_) ?_
  · show Steps p.tables e below (T2.setTop (mkF m 10 #[.val (.ref a1)] [])) t
    refine XS.aloadN X2.here hx rfl (hb hby d7_10) rfl rfl ?_
    exact k
  have c4 := (Fld.other W2 Dz_1 (Or.inr (slot_ne (Or.inr (hw _ (List.mem_of_getElem? (i := 18) rfl))) (Or.inl (hw _ (List.mem_of_getElem? (i := 37) rfl))) (by decide) (t := (.array .int)) (t' := .int) (by decide) (by decide))))
  obtain ⟨T5, X5, e5, st5⟩ := getF X2 hx hZ hown (host := "") (Or.inl (hw _ (List.mem_of_getElem? (i := 17) rfl))) Via.refl e2 c4 (g := (mkF m 11 #[.val (.ref a1)] [(.ref a1)])) rfl rfl (hb hby d7_11)
  refine own_via st5 ?_
  show own_G p.tables e below _ (T5.setTop (mkF m 14 #[.val (.ref a1)] [(.ref b0)]))
  refine own_via (S' := T5.setTop (mkF m 15 #[.val (.ref a1)] [(.ref a1), (.ref b0)])) (fun t k => ?_) ?_
  · show Steps p.tables e below (T5.setTop (mkF m 14 #[.val (.ref a1)] [(.ref b0)])) t
    refine XS.aloadN X5.here hx rfl (hb hby d7_14) rfl rfl ?_
    exact k
  have c6 := (Fld.other W2 Dz_3 (Or.inr (slot_ne (Or.inl (hw _ (List.mem_of_getElem? (i := 26) rfl))) (Or.inl (hw _ (List.mem_of_getElem? (i := 37) rfl))) (by decide) (t := (.array .int)) (t' := .int) (by decide) (by decide))))
  obtain ⟨T7, X7, e7, st7⟩ := getF X5 hx hZ hown (host := "") (Or.inl (hw _ (List.mem_of_getElem? (i := 25) rfl))) Via.refl e5 c6 (g := (mkF m 15 #[.val (.ref a1)] [(.ref a1), (.ref b0)])) rfl rfl (hb hby d7_15)
  refine own_via st7 ?_
  show own_G p.tables e below _ (T7.setTop (mkF m 18 #[.val (.ref a1)] [(.ref b2), (.ref b0)]))
  refine own_via (S' := T7.setTop (mkF m 19 #[.val (.ref a1)] [(.ref a1), (.ref b2), (.ref b0)])) (fun t k => ?_) ?_
  · show Steps p.tables e below (T7.setTop (mkF m 18 #[.val (.ref a1)] [(.ref b2), (.ref b0)])) t
    refine XS.aloadN X7.here hx rfl (hb hby d7_18) rfl rfl ?_
    exact k
  obtain ⟨T8, X8, e8, st8⟩ := getF X7 hx hZ hown (host := "") (Or.inl (hw _ (List.mem_of_getElem? (i := 36) rfl))) Via.refl e7 F2 (g := (mkF m 19 #[.val (.ref a1)] [(.ref a1), (.ref b2), (.ref b0)])) rfl rfl (hb hby d7_19)
  refine own_via st8 ?_
  show own_G p.tables e below _ (T8.setTop (mkF m 22 #[.val (.ref a1)] [(.int (S.2.2.2.2.2.2 - (1 : Int32))), (.ref b2), (.ref b0)]))
  have c9 := (own_Ar.other Dz_10 W2 (Ne.symm ne2))
  obtain ⟨⟨cl10, Ar10, q10, S10, Nn10, H10, G10⟩, Le10⟩ := id c9
  have hin10 : ¬ ((S.2.2.2.2.2.2 - (1 : Int32)) < 0 ∨ cl10.slots.size ≤ ((S.2.2.2.2.2.2 - (1 : Int32))).toNatClampNeg) := inb_of S10 hpre.1
  have hat10 : cl10.slots[((S.2.2.2.2.2.2 - (1 : Int32))).toNatClampNeg]? = some (.int (S.2.2.1.getD ((S.2.2.2.2.2.2 - (1 : Int32))).toNatClampNeg 0)) := Has.at H10 hin10 (own_gI _ _)
  refine own_via (S' := T8.setTop (mkF m 23 #[.val (.ref a1)] [(.int (S.2.2.1.getD ((S.2.2.2.2.2.2 - (1 : Int32))).toNatClampNeg 0)), (.ref b0)])) (fun t kz_ => X8.iaload hx (j := (S.2.2.2.2.2.2 - (1 : Int32))) (v := (.int (S.2.2.1.getD ((S.2.2.2.2.2.2 - (1 : Int32))).toNatClampNeg 0))) (by rw [e8]; exact Ar10.1) (State.isArrayOf_alike hZ.alike Ar10.2.1) Ar10.2.2 hin10 hat10 (g := (mkF m 22 #[.val (.ref a1)] [(.int (S.2.2.2.2.2.2 - (1 : Int32))), (.ref b2), (.ref b0)])) rfl rfl (hb hby d7_22) _ kz_) ?_
  refine own_via (S' := T8.setTop (mkF m 24 #[.val (.ref a1)] [(.ref a1), (.int (S.2.2.1.getD ((S.2.2.2.2.2.2 - (1 : Int32))).toNatClampNeg 0)), (.ref b0)])) (fun t k => ?_) ?_
  · show Steps p.tables e below (T8.setTop (mkF m 23 #[.val (.ref a1)] [(.int (S.2.2.1.getD ((S.2.2.2.2.2.2 - (1 : Int32))).toNatClampNeg 0)), (.ref b0)])) t
    refine XS.aloadN X8.here hx rfl (hb hby d7_23) rfl rfl ?_
    exact k
  have c11 := (Fld.other W2 Dz_2 (Or.inr (slot_ne (Or.inl (hw _ (List.mem_of_getElem? (i := 24) rfl))) (Or.inl (hw _ (List.mem_of_getElem? (i := 37) rfl))) (by decide) (t := (.array .int)) (t' := .int) (by decide) (by decide))))
  obtain ⟨T12, X12, e12, st12⟩ := getF X8 hx hZ hown (host := "") (Or.inl (hw _ (List.mem_of_getElem? (i := 23) rfl))) Via.refl e8 c11 (g := (mkF m 24 #[.val (.ref a1)] [(.ref a1), (.int (S.2.2.1.getD ((S.2.2.2.2.2.2 - (1 : Int32))).toNatClampNeg 0)), (.ref b0)])) rfl rfl (hb hby d7_24)
  refine own_via st12 ?_
  show own_G p.tables e below _ (T12.setTop (mkF m 27 #[.val (.ref a1)] [(.ref b1), (.int (S.2.2.1.getD ((S.2.2.2.2.2.2 - (1 : Int32))).toNatClampNeg 0)), (.ref b0)]))
  refine own_via (S' := T12.setTop (mkF m 28 #[.val (.ref a1)] [(.ref a1), (.ref b1), (.int (S.2.2.1.getD ((S.2.2.2.2.2.2 - (1 : Int32))).toNatClampNeg 0)), (.ref b0)])) (fun t k => ?_) ?_
  · show Steps p.tables e below (T12.setTop (mkF m 27 #[.val (.ref a1)] [(.ref b1), (.int (S.2.2.1.getD ((S.2.2.2.2.2.2 - (1 : Int32))).toNatClampNeg 0)), (.ref b0)])) t
    refine XS.aloadN X12.here hx rfl (hb hby d7_27) rfl rfl ?_
    exact k
  obtain ⟨T13, X13, e13, st13⟩ := getF X12 hx hZ hown (host := "") (Or.inl (hw _ (List.mem_of_getElem? (i := 36) rfl))) Via.refl e12 F2 (g := (mkF m 28 #[.val (.ref a1)] [(.ref a1), (.ref b1), (.int (S.2.2.1.getD ((S.2.2.2.2.2.2 - (1 : Int32))).toNatClampNeg 0)), (.ref b0)])) rfl rfl (hb hby d7_28)
  refine own_via st13 ?_
  show own_G p.tables e below _ (T13.setTop (mkF m 31 #[.val (.ref a1)] [(.int (S.2.2.2.2.2.2 - (1 : Int32))), (.ref b1), (.int (S.2.2.1.getD ((S.2.2.2.2.2.2 - (1 : Int32))).toNatClampNeg 0)), (.ref b0)]))
  have c14 := (own_Ar.other Dz_9 W2 (Ne.symm ne1))
  obtain ⟨⟨cl15, Ar15, q15, S15, Nn15, H15, G15⟩, Le15⟩ := id c14
  have hin15 : ¬ ((S.2.2.2.2.2.2 - (1 : Int32)) < 0 ∨ cl15.slots.size ≤ ((S.2.2.2.2.2.2 - (1 : Int32))).toNatClampNeg) := inb_of S15 hpre.1
  have hat15 : cl15.slots[((S.2.2.2.2.2.2 - (1 : Int32))).toNatClampNeg]? = some (.int (S.2.1.getD ((S.2.2.2.2.2.2 - (1 : Int32))).toNatClampNeg 0)) := Has.at H15 hin15 (own_gI _ _)
  refine own_via (S' := T13.setTop (mkF m 32 #[.val (.ref a1)] [(.int (S.2.1.getD ((S.2.2.2.2.2.2 - (1 : Int32))).toNatClampNeg 0)), (.int (S.2.2.1.getD ((S.2.2.2.2.2.2 - (1 : Int32))).toNatClampNeg 0)), (.ref b0)])) (fun t kz_ => X13.iaload hx (j := (S.2.2.2.2.2.2 - (1 : Int32))) (v := (.int (S.2.1.getD ((S.2.2.2.2.2.2 - (1 : Int32))).toNatClampNeg 0))) (by rw [e13]; exact Ar15.1) (State.isArrayOf_alike hZ.alike Ar15.2.1) Ar15.2.2 hin15 hat15 (g := (mkF m 31 #[.val (.ref a1)] [(.int (S.2.2.2.2.2.2 - (1 : Int32))), (.ref b1), (.int (S.2.2.1.getD ((S.2.2.2.2.2.2 - (1 : Int32))).toNatClampNeg 0)), (.ref b0)])) rfl rfl (hb hby d7_31) _ kz_) ?_
  have c16 := (own_Ar.other Dz_8 W2 (Ne.symm ne0))
  obtain ⟨⟨cl17, Ar17, q17, S17, Nn17, H17, G17⟩, Le17⟩ := id c16
  have hin17 : ¬ ((S.2.2.1.getD ((S.2.2.2.2.2.2 - (1 : Int32))).toNatClampNeg 0) < 0 ∨ cl17.slots.size ≤ ((S.2.2.1.getD ((S.2.2.2.2.2.2 - (1 : Int32))).toNatClampNeg 0)).toNatClampNeg) := inb_of S17 hpre.2.1
  obtain ⟨T17, h17, X17, e17, W17, st17⟩ := stI X13 hx hZ e13 Ar17 (j := (S.2.2.1.getD ((S.2.2.2.2.2.2 - (1 : Int32))).toNatClampNeg 0)) hin17 (g := (mkF m 32 #[.val (.ref a1)] [(.int (S.2.1.getD ((S.2.2.2.2.2.2 - (1 : Int32))).toNatClampNeg 0)), (.int (S.2.2.1.getD ((S.2.2.2.2.2.2 - (1 : Int32))).toNatClampNeg 0)), (.ref b0)])) rfl rfl (hb hby d7_32)
  have V17 : own_Ar Z h17 b0 k0 .int (3 : Int32) (List.map Value.int (S.1.set ((S.2.2.1.getD ((S.2.2.2.2.2.2 - (1 : Int32))).toNatClampNeg 0)).toNatClampNeg (S.2.1.getD ((S.2.2.2.2.2.2 - (1 : Int32))).toNatClampNeg 0))) (.int (0 : Int32)) := own_Ar.setI Ar17 q17 S17 Nn17 H17 G17 rfl W17 hin17 Le17
  have K18 : Keep h0 h17 [a1, b0, b1, b2, b3, b4, b5] := Keep.wr K3 W17 (Or.inl (List.mem_of_getElem? (i := 1) rfl))
  have N18 := Fr.snoc X17 N3 g1
  refine own_via st17 ?_
  show own_G p.tables e below _ (T17.setTop (mkF m 33 #[.val (.ref a1)] []))
  refine own_via (S' := T17.setTop (mkF m 34 #[.val (.ref a1)] [(.ref a1)])) (fun t k => ?_) ?_
  · show Steps p.tables e below (T17.setTop (mkF m 33 #[.val (.ref a1)] [])) t
    refine XS.aloadN X17.here hx rfl (hb hby d7_33) rfl rfl ?_
    exact k
  have c19 := (Fld.other W17 (Fld.other W2 Dz_6 (Or.inr (slot_ne (Or.inl (hw _ (List.mem_of_getElem? (i := 39) rfl))) (Or.inl (hw _ (List.mem_of_getElem? (i := 37) rfl))) (by decide) (t := (.array .int)) (t' := .int) (by decide) (by decide)))) (Or.inl ne0))
  obtain ⟨T20, X20, e20, st20⟩ := getF X17 hx hZ hown (host := "") (Or.inl (hw _ (List.mem_of_getElem? (i := 38) rfl))) Via.refl e17 c19 (g := (mkF m 34 #[.val (.ref a1)] [(.ref a1)])) rfl rfl (hb hby d7_34)
  refine own_via st20 ?_
  show own_G p.tables e below _ (T20.setTop (mkF m 37 #[.val (.ref a1)] [(.ref b5)]))
  refine own_via (S' := T20.setTop (mkF m 40 #[.val (.ref a1)] [])) (fun t k => XS.ifnullNo (g := (mkF m 37 #[.val (.ref a1)] [(.ref b5)])) X20.here hx rfl (hb hby d7_37) rfl k) ?_
  refine own_via (S' := T20.setTop (mkF m 41 #[.val (.ref a1)] [(.ref a1)])) (fun t k => ?_) ?_
  · show Steps p.tables e below (T20.setTop (mkF m 40 #[.val (.ref a1)] [])) t
    refine XS.aloadN X20.here hx rfl (hb hby d7_40) rfl rfl ?_
    exact k
  have c22 := (Fld.other W17 (Fld.other W2 Dz_5 (Or.inr (slot_ne (Or.inr (hw _ (List.mem_of_getElem? (i := 30) rfl))) (Or.inl (hw _ (List.mem_of_getElem? (i := 37) rfl))) (by decide) (t := (.array .int)) (t' := .int) (by decide) (by decide)))) (Or.inl ne0))
  obtain ⟨T23, X23, e23, st23⟩ := getF X20 hx hZ hown (host := "") (Or.inl (hw _ (List.mem_of_getElem? (i := 29) rfl))) Via.refl e20 c22 (g := (mkF m 41 #[.val (.ref a1)] [(.ref a1)])) rfl rfl (hb hby d7_41)
  refine own_via st23 ?_
  show own_G p.tables e below _ (T23.setTop (mkF m 44 #[.val (.ref a1)] [(.ref b4)]))
  refine own_via (S' := T23.setTop (mkF m 45 #[.val (.ref a1)] [(.ref a1), (.ref b4)])) (fun t k => ?_) ?_
  · show Steps p.tables e below (T23.setTop (mkF m 44 #[.val (.ref a1)] [(.ref b4)])) t
    refine XS.aloadN X23.here hx rfl (hb hby d7_44) rfl rfl ?_
    exact k
  have c24 := (Fld.other W17 (Fld.other W2 Dz_4 (Or.inr (slot_ne (Or.inl (hw _ (List.mem_of_getElem? (i := 28) rfl))) (Or.inl (hw _ (List.mem_of_getElem? (i := 37) rfl))) (by decide) (t := (.array .int)) (t' := .int) (by decide) (by decide)))) (Or.inl ne0))
  obtain ⟨T25, X25, e25, st25⟩ := getF X23 hx hZ hown (host := "") (Or.inl (hw _ (List.mem_of_getElem? (i := 27) rfl))) Via.refl e23 c24 (g := (mkF m 45 #[.val (.ref a1)] [(.ref a1), (.ref b4)])) rfl rfl (hb hby d7_45)
  refine own_via st25 ?_
  show own_G p.tables e below _ (T25.setTop (mkF m 48 #[.val (.ref a1)] [(.ref b3), (.ref b4)]))
  refine own_via (S' := T25.setTop (mkF m 49 #[.val (.ref a1)] [(.ref a1), (.ref b3), (.ref b4)])) (fun t k => ?_) ?_
  · show Steps p.tables e below (T25.setTop (mkF m 48 #[.val (.ref a1)] [(.ref b3), (.ref b4)])) t
    refine XS.aloadN X25.here hx rfl (hb hby d7_48) rfl rfl ?_
    exact k
  have c26 := (Fld.other W17 F2 (Or.inl ne0))
  obtain ⟨T27, X27, e27, st27⟩ := getF X25 hx hZ hown (host := "") (Or.inl (hw _ (List.mem_of_getElem? (i := 36) rfl))) Via.refl e25 c26 (g := (mkF m 49 #[.val (.ref a1)] [(.ref a1), (.ref b3), (.ref b4)])) rfl rfl (hb hby d7_49)
  refine own_via st27 ?_
  show own_G p.tables e below _ (T27.setTop (mkF m 52 #[.val (.ref a1)] [(.int (S.2.2.2.2.2.2 - (1 : Int32))), (.ref b3), (.ref b4)]))
  have c28 := (own_Ar.other (own_Ar.other Dz_11 W2 (Ne.symm ne3)) W17 (Ne.symm ne8))
  obtain ⟨⟨cl29, Ar29, q29, S29, Nn29, H29, G29⟩, Le29⟩ := id c28
  have hin29 : ¬ ((S.2.2.2.2.2.2 - (1 : Int32)) < 0 ∨ cl29.slots.size ≤ ((S.2.2.2.2.2.2 - (1 : Int32))).toNatClampNeg) := inb_of S29 hpre.1
  have hat29 : cl29.slots[((S.2.2.2.2.2.2 - (1 : Int32))).toNatClampNeg]? = some (.int (S.2.2.2.1.getD ((S.2.2.2.2.2.2 - (1 : Int32))).toNatClampNeg 0)) := Has.at H29 hin29 (own_gI _ _)
  refine own_via (S' := T27.setTop (mkF m 53 #[.val (.ref a1)] [(.int (S.2.2.2.1.getD ((S.2.2.2.2.2.2 - (1 : Int32))).toNatClampNeg 0)), (.ref b4)])) (fun t kz_ => X27.iaload hx (j := (S.2.2.2.2.2.2 - (1 : Int32))) (v := (.int (S.2.2.2.1.getD ((S.2.2.2.2.2.2 - (1 : Int32))).toNatClampNeg 0))) (by rw [e27]; exact Ar29.1) (State.isArrayOf_alike hZ.alike Ar29.2.1) Ar29.2.2 hin29 hat29 (g := (mkF m 52 #[.val (.ref a1)] [(.int (S.2.2.2.2.2.2 - (1 : Int32))), (.ref b3), (.ref b4)])) rfl rfl (hb hby d7_52) _ kz_) ?_
  refine own_via (S' := T27.setTop (mkF m 54 #[.val (.ref a1)] [(.ref a1), (.int (S.2.2.2.1.getD ((S.2.2.2.2.2.2 - (1 : Int32))).toNatClampNeg 0)), (.ref b4)])) (fun t k => ?_) ?_
  · show Steps p.tables e below (T27.setTop (mkF m 53 #[.val (.ref a1)] [(.int (S.2.2.2.1.getD ((S.2.2.2.2.2.2 - (1 : Int32))).toNatClampNeg 0)), (.ref b4)])) t
    refine XS.aloadN X27.here hx rfl (hb hby d7_53) rfl rfl ?_
    exact k
  obtain ⟨T30, X30, e30, st30⟩ := getF X27 hx hZ hown (host := "") (Or.inl (hw _ (List.mem_of_getElem? (i := 38) rfl))) Via.refl e27 c19 (g := (mkF m 54 #[.val (.ref a1)] [(.ref a1), (.int (S.2.2.2.1.getD ((S.2.2.2.2.2.2 - (1 : Int32))).toNatClampNeg 0)), (.ref b4)])) rfl rfl (hb hby d7_54)
  refine own_via st30 ?_
  show own_G p.tables e below _ (T30.setTop (mkF m 57 #[.val (.ref a1)] [(.ref b5), (.int (S.2.2.2.1.getD ((S.2.2.2.2.2.2 - (1 : Int32))).toNatClampNeg 0)), (.ref b4)]))
  refine own_via (S' := T30.setTop (mkF m 58 #[.val (.ref a1)] [(.ref a1), (.ref b5), (.int (S.2.2.2.1.getD ((S.2.2.2.2.2.2 - (1 : Int32))).toNatClampNeg 0)), (.ref b4)])) (fun t k => ?_) ?_
  · show Steps p.tables e below (T30.setTop (mkF m 57 #[.val (.ref a1)] [(.ref b5), (.int (S.2.2.2.1.getD ((S.2.2.2.2.2.2 - (1 : Int32))).toNatClampNeg 0)), (.ref b4)])) t
    refine XS.aloadN X30.here hx rfl (hb hby d7_57) rfl rfl ?_
    exact k
  obtain ⟨T31, X31, e31, st31⟩ := getF X30 hx hZ hown (host := "") (Or.inl (hw _ (List.mem_of_getElem? (i := 36) rfl))) Via.refl e30 c26 (g := (mkF m 58 #[.val (.ref a1)] [(.ref a1), (.ref b5), (.int (S.2.2.2.1.getD ((S.2.2.2.2.2.2 - (1 : Int32))).toNatClampNeg 0)), (.ref b4)])) rfl rfl (hb hby d7_58)
  refine own_via st31 ?_
  show own_G p.tables e below _ (T31.setTop (mkF m 61 #[.val (.ref a1)] [(.int (S.2.2.2.2.2.2 - (1 : Int32))), (.ref b5), (.int (S.2.2.2.1.getD ((S.2.2.2.2.2.2 - (1 : Int32))).toNatClampNeg 0)), (.ref b4)]))
  have c32 := (own_Ar.other (own_Ar.other Dz_13 W2 (Ne.symm ne5)) W17 (Ne.symm ne10))
  obtain ⟨⟨cl33, Ar33, q33, S33, Nn33, H33, G33⟩, Le33⟩ := id c32
  have hin33 : ¬ ((S.2.2.2.2.2.2 - (1 : Int32)) < 0 ∨ cl33.slots.size ≤ ((S.2.2.2.2.2.2 - (1 : Int32))).toNatClampNeg) := inb_of S33 hpre.1
  have hat33 : cl33.slots[((S.2.2.2.2.2.2 - (1 : Int32))).toNatClampNeg]? = some (.int (S.2.2.2.2.2.1.getD ((S.2.2.2.2.2.2 - (1 : Int32))).toNatClampNeg 0)) := Has.at H33 hin33 (own_gI _ _)
  refine own_via (S' := T31.setTop (mkF m 62 #[.val (.ref a1)] [(.int (S.2.2.2.2.2.1.getD ((S.2.2.2.2.2.2 - (1 : Int32))).toNatClampNeg 0)), (.int (S.2.2.2.1.getD ((S.2.2.2.2.2.2 - (1 : Int32))).toNatClampNeg 0)), (.ref b4)])) (fun t kz_ => X31.iaload hx (j := (S.2.2.2.2.2.2 - (1 : Int32))) (v := (.int (S.2.2.2.2.2.1.getD ((S.2.2.2.2.2.2 - (1 : Int32))).toNatClampNeg 0))) (by rw [e31]; exact Ar33.1) (State.isArrayOf_alike hZ.alike Ar33.2.1) Ar33.2.2 hin33 hat33 (g := (mkF m 61 #[.val (.ref a1)] [(.int (S.2.2.2.2.2.2 - (1 : Int32))), (.ref b5), (.int (S.2.2.2.1.getD ((S.2.2.2.2.2.2 - (1 : Int32))).toNatClampNeg 0)), (.ref b4)])) rfl rfl (hb hby d7_61) _ kz_) ?_
  have c34 := (own_Ar.other (own_Ar.other Dz_12 W2 (Ne.symm ne4)) W17 (Ne.symm ne9))
  obtain ⟨⟨cl35, Ar35, q35, S35, Nn35, H35, G35⟩, Le35⟩ := id c34
  have hin35 : ¬ ((S.2.2.2.1.getD ((S.2.2.2.2.2.2 - (1 : Int32))).toNatClampNeg 0) < 0 ∨ cl35.slots.size ≤ ((S.2.2.2.1.getD ((S.2.2.2.2.2.2 - (1 : Int32))).toNatClampNeg 0)).toNatClampNeg) := inb_of S35 hpre.2.2
  obtain ⟨T35, h35, X35, e35, W35, st35⟩ := stI X31 hx hZ e31 Ar35 (j := (S.2.2.2.1.getD ((S.2.2.2.2.2.2 - (1 : Int32))).toNatClampNeg 0)) hin35 (g := (mkF m 62 #[.val (.ref a1)] [(.int (S.2.2.2.2.2.1.getD ((S.2.2.2.2.2.2 - (1 : Int32))).toNatClampNeg 0)), (.int (S.2.2.2.1.getD ((S.2.2.2.2.2.2 - (1 : Int32))).toNatClampNeg 0)), (.ref b4)])) rfl rfl (hb hby d7_62)
  have V35 : own_Ar Z h35 b4 k4 .int (3 : Int32) (List.map Value.int (S.2.2.2.2.1.set ((S.2.2.2.1.getD ((S.2.2.2.2.2.2 - (1 : Int32))).toNatClampNeg 0)).toNatClampNeg (S.2.2.2.2.2.1.getD ((S.2.2.2.2.2.2 - (1 : Int32))).toNatClampNeg 0))) (.int (0 : Int32)) := own_Ar.setI Ar35 q35 S35 Nn35 H35 G35 rfl W35 hin35 Le35
  have K36 : Keep h0 h35 [a1, b0, b1, b2, b3, b4, b5] := Keep.wr K18 W35 (Or.inl (List.mem_of_getElem? (i := 5) rfl))
  have N36 := Fr.snoc X35 N18 g5
  refine own_via st35 ?_
  show own_G p.tables e below _ (T35.setTop (mkF m 63 #[.val (.ref a1)] []))
  have c37 := (Exa.wr W35 (Exa.wr W17 (Exa.wr W2 Dz_0)))
  have c38 := (Fld.other W35 (Fld.other W17 c4 (Or.inl ne0)) (Or.inl ne4))
  have c39 := (Fld.other W35 (Fld.other W17 c11 (Or.inl ne0)) (Or.inl ne4))
  have c40 := (Fld.other W35 (Fld.other W17 c6 (Or.inl ne0)) (Or.inl ne4))
  have c41 := (Fld.other W35 c24 (Or.inl ne4))
  have c42 := (Fld.other W35 c22 (Or.inl ne4))
  have c43 := (Fld.other W35 c19 (Or.inl ne4))
  have c44 := (Fld.other W35 c26 (Or.inl ne4))
  have c45 := (own_Ar.other V17 W35 ne9)
  have c46 := (own_Ar.other (own_Ar.other c14 W17 (Ne.symm ne6)) W35 ne13)
  have c47 := (own_Ar.other (own_Ar.other c9 W17 (Ne.symm ne7)) W35 ne16)
  have c48 := (own_Ar.other c28 W35 ne18)
  have c49 := (own_Ar.other c32 W35 (Ne.symm ne20))
  exact own_end (h := h35) X35 (v := none) Bd.notSynchronized (fun _ => rfl) (fun fs hr => X35.returnOut hx Bd.returns (hb hby d7_63) hr) e35 ⟨rfl, N36, K36, _, rfl, ⟨c37, c38, c39, c40, c41, c42, c43, c44, c45, c46, c47, c48, V35, c49⟩⟩ (by decide) (by decide)
theorem d8_0 : decode prog_26_method_8_code 0 = .ok (.aload_n 0, 1) := by decide +kernel
theorem d8_1 : decode prog_26_method_8_code 1 = .ok (.getfield 51, 3) := by decide +kernel
theorem d8_4 : decode prog_26_method_8_code 4 = .ok (.ireturn, 1) := by decide +kernel
theorem pn8 : plainName "com/example/fenceline/fenceline/Digraph" = true := by first | (simp [plainName, overriddenIn]; done) | decide +kernel
theorem ef8 (m : MethodId) (x0 : Addr) : entryFrame m #[(.ref x0)] 1 = mkF m 0 #[.val (.ref x0)] [] := by first | (simp [entryFrame, mkF, argsToLocals, Value.category]; done) | rfl
def Q8 (Z : State) (a1 : Addr) (p1 : Int32) (h0 : Heap) (n0 : Nat) (v : Option Value) (h : Heap) (L : List Loc) : Prop := v = some (.int p1) ∧ Fr n0 L ∧ h = h0
set_option maxRecDepth 65536 in
set_option maxHeartbeats 40000000 in
theorem rm8 (l : Launch) (Z : State) (a0 : Array Value) (hw : ∀ d ∈ tables_1, d.before a0 Z = true) (ws : List Jvm.Cond) (a1 : Addr) (p1 : Int32) (h0 : Heap) (n0 : Nat) (Z0 : n0 ≤ h0.size) (F0_0 : Fld Z h0 a1 "com/example/fenceline/fenceline/Digraph" "edgeCount" "I" (.int p1)) :
    MetFree l (⟨"com/example/fenceline/fenceline/Digraph", "edgeCount", "()I"⟩ : MethodName) (head1 (Jvm.Cond.code (⟨"com/example/fenceline/fenceline/Digraph", "edgeCount", "()I"⟩ : MethodName) prog_26_method_8_code 1 (some .int) :: ws) ({ frames := 0, cells := 0, slots := 0, locals := 0 } : Room)) (fun a U => a = #[(.ref a1)] ∧ Z.Warmed39 U.vm ∧ U.heap = h0) (fun _ _ _ _ _ => True) (fun _ U o U' => ∃ v L, o = .returned v ∧ Q8 Z a1 p1 h0 n0 v U'.heap L ∧ FrameEnd U o U' L ({ frames := 0, cells := 0, slots := 0, locals := 0 } : Room).cells ({ frames := 0, cells := 0, slots := 0, locals := 0 } : Room).slots) := by
  refine MetFree.of_bodySF (plainFor_of_name pn8) hisR ?_
  intro p e s m args below meth c s₁ Bd hml0 hP hK
  obtain ⟨rfl, hZ, hh⟩ := hP
  have hx := Bd.exec
  have hby := Bd.bytes
  have hml : c.maxLocals = 1 := hml0
  have hown : s.vm.findClass "com/example/fenceline/fenceline/Digraph" = some m.cls := findClass_of_methodNamed Bd.named
  have hnm := (name_of_methodNamed Bd.named Bd.method).1
  have X0 : Stand p l e ({ frames := 0, cells := 0, slots := 0, locals := 0 } : Room) s m #[(.ref a1)] below meth c s₁ [] 0 0 := Stand.of_body Bd
  have e0 : s₁.heap = h0 := by rw [← hh, Bd.state]; rfl
  have N0 := Fr.nil n0
  refine (show own_G p.tables e below (own_P s (Q8 Z a1 p1 h0 n0) 0 0) (s₁.setTop (entryFrame m #[(.ref a1)] 1)) from ?_)
  refine own_via (fun t k => castTop (ef8 m a1) k) ?_
  show own_G p.tables e below _ (s₁.setTop (mkF m 0 #[.val (.ref a1)] []))
  refine own_via (S' := s₁.setTop (mkF m 1 #[.val (.ref a1)] [(.ref a1)])) (fun t k => ?_) ?_
  · show Steps p.tables e below (s₁.setTop (mkF m 0 #[.val (.ref a1)] [])) t
    refine XS.aloadN X0.here hx rfl (hb hby d8_0) rfl rfl ?_
    exact k
  obtain ⟨T1, X1, e1, st1⟩ := getF X0 hx hZ hown (host := "") (Or.inl (hw _ (List.mem_of_getElem? (i := 36) rfl))) Via.refl e0 F0_0 (g := (mkF m 1 #[.val (.ref a1)] [(.ref a1)])) rfl rfl (hb hby d8_1)
  refine own_via st1 ?_
  show own_G p.tables e below _ (T1.setTop (mkF m 4 #[.val (.ref a1)] [(.int p1)]))
  exact own_end (h := h0) X1 (v := some (.int p1)) Bd.notSynchronized (fun h => by rw [Bd.returns] at h; cases h) (fun fs hr => retOut X1 hx Bd.returns rfl (Or.inl ⟨rfl, Or.inl rfl, _, rfl⟩) (hb hby d8_4) hr) e1 ⟨by rfl, N0, rfl⟩ (by decide) (by decide)
theorem d9_0 : decode prog_26_method_11_code 0 = .ok (.aload_n 0, 1) := by decide +kernel
theorem d9_1 : decode prog_26_method_11_code 1 = .ok (.getfield 18, 3) := by decide +kernel
theorem d9_4 : decode prog_26_method_11_code 4 = .ok (.iload_n 1, 1) := by decide +kernel
theorem d9_5 : decode prog_26_method_11_code 5 = .ok (.iaload, 1) := by decide +kernel
theorem d9_6 : decode prog_26_method_11_code 6 = .ok (.ireturn, 1) := by decide +kernel
theorem pn9 : plainName "com/example/fenceline/fenceline/Digraph" = true := by first | (simp [plainName, overriddenIn]; done) | decide +kernel
theorem ef9 (m : MethodId) (x0 : Addr) (x1 : Int32) : entryFrame m #[(.ref x0), (.int x1)] 2 = mkF m 0 #[.val (.ref x0), .val (.int x1)] [] := by first | (simp [entryFrame, mkF, argsToLocals, Value.category]; done) | rfl
def Q9 (Z : State) (a1 : Addr) (p2 : Int32) (b : Addr) (k : ClassId) (xs : List Int32) (h0 : Heap) (n0 : Nat) (v : Option Value) (h : Heap) (L : List Loc) : Prop := v = some (.int (xs.getD (p2).toNatClampNeg 0)) ∧ Fr n0 L ∧ h = h0
set_option maxRecDepth 65536 in
set_option maxHeartbeats 40000000 in
theorem rm9 (l : Launch) (Z : State) (a0 : Array Value) (hw : ∀ d ∈ tables_1, d.before a0 Z = true) (ws : List Jvm.Cond) (a1 : Addr) (p2 : Int32) (b : Addr) (k : ClassId) (xs : List Int32) (h0 : Heap) (n0 : Nat) (Z0 : n0 ≤ h0.size) (F1 : Fld Z h0 a1 "com/example/fenceline/fenceline/Digraph" "first" "[I" (.ref b)) (V1 : own_Ar Z h0 b k .int (3 : Int32) (List.map Value.int xs) (.int (0 : Int32))) (hix : ¬ p2 < 0 ∧ p2 < (3 : Int32)) :
    MetFree l (⟨"com/example/fenceline/fenceline/Digraph", "firstEdge", "(I)I"⟩ : MethodName) (head1 (Jvm.Cond.code (⟨"com/example/fenceline/fenceline/Digraph", "firstEdge", "(I)I"⟩ : MethodName) prog_26_method_11_code 2 (some .int) :: ws) ({ frames := 0, cells := 0, slots := 0, locals := 0 } : Room)) (fun a U => a = #[(.ref a1), (.int p2)] ∧ Z.Warmed39 U.vm ∧ U.heap = h0) (fun _ _ _ _ _ => True) (fun _ U o U' => ∃ v L, o = .returned v ∧ Q9 Z a1 p2 b k xs h0 n0 v U'.heap L ∧ FrameEnd U o U' L ({ frames := 0, cells := 0, slots := 0, locals := 0 } : Room).cells ({ frames := 0, cells := 0, slots := 0, locals := 0 } : Room).slots) := by
  refine MetFree.of_bodySF (plainFor_of_name pn9) hisR ?_
  intro p e s m args below meth c s₁ Bd hml0 hP hK
  obtain ⟨rfl, hZ, hh⟩ := hP
  have hx := Bd.exec
  have hby := Bd.bytes
  have hml : c.maxLocals = 2 := hml0
  have hown : s.vm.findClass "com/example/fenceline/fenceline/Digraph" = some m.cls := findClass_of_methodNamed Bd.named
  have hnm := (name_of_methodNamed Bd.named Bd.method).1
  have X0 : Stand p l e ({ frames := 0, cells := 0, slots := 0, locals := 0 } : Room) s m #[(.ref a1), (.int p2)] below meth c s₁ [] 0 0 := Stand.of_body Bd
  have e0 : s₁.heap = h0 := by rw [← hh, Bd.state]; rfl
  have N0 := Fr.nil n0
  refine (show own_G p.tables e below (own_P s (Q9 Z a1 p2 b k xs h0 n0) 0 0) (s₁.setTop (entryFrame m #[(.ref a1), (.int p2)] 2)) from ?_)
  refine own_via (fun t k => castTop (ef9 m a1 p2) k) ?_
  show own_G p.tables e below _ (s₁.setTop (mkF m 0 #[.val (.ref a1), .val (.int p2)] []))
  refine own_via (S' := s₁.setTop (mkF m 1 #[.val (.ref a1), .val (.int p2)] [(.ref a1)])) (fun t k => ?_) ?_
  · show Steps p.tables e below (s₁.setTop (mkF m 0 #[.val (.ref a1), .val (.int p2)] [])) t
    refine XS.aloadN X0.here hx rfl (hb hby d9_0) rfl rfl ?_
    exact k
  obtain ⟨T1, X1, e1, st1⟩ := getF X0 hx hZ hown (host := "") (Or.inl (hw _ (List.mem_of_getElem? (i := 17) rfl))) Via.refl e0 F1 (g := (mkF m 1 #[.val (.ref a1), .val (.int p2)] [(.ref a1)])) rfl rfl (hb hby d9_1)
  refine own_via st1 ?_
  show own_G p.tables e below _ (T1.setTop (mkF m 4 #[.val (.ref a1), .val (.int p2)] [(.ref b)]))
  refine own_via (S' := T1.setTop (mkF m 5 #[.val (.ref a1), .val (.int p2)] [(.int p2), (.ref b)])) (fun t k => ?_) ?_
  · show Steps p.tables e below (T1.setTop (mkF m 4 #[.val (.ref a1), .val (.int p2)] [(.ref b)])) t
    refine XS.iloadN X1.here hx rfl (hb hby d9_4) rfl ?_
    exact k
  obtain ⟨⟨cl2, Ar2, q2, S2, Nn2, H2, G2⟩, Le2⟩ := id V1
  have hin2 : ¬ (p2 < 0 ∨ cl2.slots.size ≤ (p2).toNatClampNeg) := inb_of S2 hix
  have hat2 : cl2.slots[(p2).toNatClampNeg]? = some (.int (xs.getD (p2).toNatClampNeg 0)) := Has.at H2 hin2 (own_gI _ _)
  refine own_via (S' := T1.setTop (mkF m 6 #[.val (.ref a1), .val (.int p2)] [(.int (xs.getD (p2).toNatClampNeg 0))])) (fun t kz_ => X1.iaload hx (j := p2) (v := (.int (xs.getD (p2).toNatClampNeg 0))) (by rw [e1]; exact Ar2.1) (State.isArrayOf_alike hZ.alike Ar2.2.1) Ar2.2.2 hin2 hat2 (g := (mkF m 5 #[.val (.ref a1), .val (.int p2)] [(.int p2), (.ref b)])) rfl rfl (hb hby d9_5) _ kz_) ?_
  exact own_end (h := h0) X1 (v := some (.int (xs.getD (p2).toNatClampNeg 0))) Bd.notSynchronized (fun h => by rw [Bd.returns] at h; cases h) (fun fs hr => retOut X1 hx Bd.returns rfl (Or.inl ⟨rfl, Or.inl rfl, _, rfl⟩) (hb hby d9_6) hr) e1 ⟨by rfl, N0, rfl⟩ (by decide) (by decide)
theorem d12_0 : decode prog_26_method_13_code 0 = .ok (.aload_n 0, 1) := by decide +kernel
theorem d12_1 : decode prog_26_method_13_code 1 = .ok (.getfield 37, 3) := by decide +kernel
theorem d12_4 : decode prog_26_method_13_code 4 = .ok (.iload_n 1, 1) := by decide +kernel
theorem d12_5 : decode prog_26_method_13_code 5 = .ok (.iaload, 1) := by decide +kernel
theorem d12_6 : decode prog_26_method_13_code 6 = .ok (.ireturn, 1) := by decide +kernel
theorem pn12 : plainName "com/example/fenceline/fenceline/Digraph" = true := by first | (simp [plainName, overriddenIn]; done) | decide +kernel
theorem ef12 (m : MethodId) (x0 : Addr) (x1 : Int32) : entryFrame m #[(.ref x0), (.int x1)] 2 = mkF m 0 #[.val (.ref x0), .val (.int x1)] [] := by first | (simp [entryFrame, mkF, argsToLocals, Value.category]; done) | rfl
def Q12 (Z : State) (a1 : Addr) (p2 : Int32) (b : Addr) (k : ClassId) (xs : List Int32) (h0 : Heap) (n0 : Nat) (v : Option Value) (h : Heap) (L : List Loc) : Prop := v = some (.int (xs.getD (p2).toNatClampNeg 0)) ∧ Fr n0 L ∧ h = h0
set_option maxRecDepth 65536 in
set_option maxHeartbeats 40000000 in
theorem rm12 (l : Launch) (Z : State) (a0 : Array Value) (hw : ∀ d ∈ tables_1, d.before a0 Z = true) (ws : List Jvm.Cond) (a1 : Addr) (p2 : Int32) (b : Addr) (k : ClassId) (xs : List Int32) (h0 : Heap) (n0 : Nat) (Z0 : n0 ≤ h0.size) (F1 : Fld Z h0 a1 "com/example/fenceline/fenceline/Digraph" "firstIn" "[I" (.ref b)) (V1 : own_Ar Z h0 b k .int (3 : Int32) (List.map Value.int xs) (.int (0 : Int32))) (hix : ¬ p2 < 0 ∧ p2 < (3 : Int32)) :
    MetFree l (⟨"com/example/fenceline/fenceline/Digraph", "firstInEdge", "(I)I"⟩ : MethodName) (head1 (Jvm.Cond.code (⟨"com/example/fenceline/fenceline/Digraph", "firstInEdge", "(I)I"⟩ : MethodName) prog_26_method_13_code 2 (some .int) :: ws) ({ frames := 0, cells := 0, slots := 0, locals := 0 } : Room)) (fun a U => a = #[(.ref a1), (.int p2)] ∧ Z.Warmed39 U.vm ∧ U.heap = h0) (fun _ _ _ _ _ => True) (fun _ U o U' => ∃ v L, o = .returned v ∧ Q12 Z a1 p2 b k xs h0 n0 v U'.heap L ∧ FrameEnd U o U' L ({ frames := 0, cells := 0, slots := 0, locals := 0 } : Room).cells ({ frames := 0, cells := 0, slots := 0, locals := 0 } : Room).slots) := by
  refine MetFree.of_bodySF (plainFor_of_name pn12) hisR ?_
  intro p e s m args below meth c s₁ Bd hml0 hP hK
  obtain ⟨rfl, hZ, hh⟩ := hP
  have hx := Bd.exec
  have hby := Bd.bytes
  have hml : c.maxLocals = 2 := hml0
  have hown : s.vm.findClass "com/example/fenceline/fenceline/Digraph" = some m.cls := findClass_of_methodNamed Bd.named
  have hnm := (name_of_methodNamed Bd.named Bd.method).1
  have X0 : Stand p l e ({ frames := 0, cells := 0, slots := 0, locals := 0 } : Room) s m #[(.ref a1), (.int p2)] below meth c s₁ [] 0 0 := Stand.of_body Bd
  have e0 : s₁.heap = h0 := by rw [← hh, Bd.state]; rfl
  have N0 := Fr.nil n0
  refine (show own_G p.tables e below (own_P s (Q12 Z a1 p2 b k xs h0 n0) 0 0) (s₁.setTop (entryFrame m #[(.ref a1), (.int p2)] 2)) from ?_)
  refine own_via (fun t k => castTop (ef12 m a1 p2) k) ?_
  show own_G p.tables e below _ (s₁.setTop (mkF m 0 #[.val (.ref a1), .val (.int p2)] []))
  refine own_via (S' := s₁.setTop (mkF m 1 #[.val (.ref a1), .val (.int p2)] [(.ref a1)])) (fun t k => ?_) ?_
  · show Steps p.tables e below (s₁.setTop (mkF m 0 #[.val (.ref a1), .val (.int p2)] [])) t
    refine XS.aloadN X0.here hx rfl (hb hby d12_0) rfl rfl ?_
    exact k
  obtain ⟨T1, X1, e1, st1⟩ := getF X0 hx hZ hown (host := "") (Or.inl (hw _ (List.mem_of_getElem? (i := 29) rfl))) Via.refl e0 F1 (g := (mkF m 1 #[.val (.ref a1), .val (.int p2)] [(.ref a1)])) rfl rfl (hb hby d12_1)
  refine own_via st1 ?_
  show own_G p.tables e below _ (T1.setTop (mkF m 4 #[.val (.ref a1), .val (.int p2)] [(.ref b)]))
  refine own_via (S' := T1.setTop (mkF m 5 #[.val (.ref a1), .val (.int p2)] [(.int p2), (.ref b)])) (fun t k => ?_) ?_
  · show Steps p.tables e below (T1.setTop (mkF m 4 #[.val (.ref a1), .val (.int p2)] [(.ref b)])) t
    refine XS.iloadN X1.here hx rfl (hb hby d12_4) rfl ?_
    exact k
  obtain ⟨⟨cl2, Ar2, q2, S2, Nn2, H2, G2⟩, Le2⟩ := id V1
  have hin2 : ¬ (p2 < 0 ∨ cl2.slots.size ≤ (p2).toNatClampNeg) := inb_of S2 hix
  have hat2 : cl2.slots[(p2).toNatClampNeg]? = some (.int (xs.getD (p2).toNatClampNeg 0)) := Has.at H2 hin2 (own_gI _ _)
  refine own_via (S' := T1.setTop (mkF m 6 #[.val (.ref a1), .val (.int p2)] [(.int (xs.getD (p2).toNatClampNeg 0))])) (fun t kz_ => X1.iaload hx (j := p2) (v := (.int (xs.getD (p2).toNatClampNeg 0))) (by rw [e1]; exact Ar2.1) (State.isArrayOf_alike hZ.alike Ar2.2.1) Ar2.2.2 hin2 hat2 (g := (mkF m 5 #[.val (.ref a1), .val (.int p2)] [(.int p2), (.ref b)])) rfl rfl (hb hby d12_5) _ kz_) ?_
  exact own_end (h := h0) X1 (v := some (.int (xs.getD (p2).toNatClampNeg 0))) Bd.notSynchronized (fun h => by rw [Bd.returns] at h; cases h) (fun fs hr => retOut X1 hx Bd.returns rfl (Or.inl ⟨rfl, Or.inl rfl, _, rfl⟩) (hb hby d12_6) hr) e1 ⟨by rfl, N0, rfl⟩ (by decide) (by decide)
theorem d10_0 : decode method_3_code 0 = .ok (.iload_n 2, 1) := by decide +kernel
theorem d10_1 : decode method_3_code 1 = .ok (.iload_n 0, 1) := by decide +kernel
theorem d10_2 : decode method_3_code 2 = .ok (.if_icmp .ne 5, 3) := by decide +kernel
theorem d10_5 : decode method_3_code 5 = .ok (.iconst 1, 1) := by decide +kernel
theorem d10_6 : decode method_3_code 6 = .ok (.ireturn, 1) := by decide +kernel
theorem d10_7 : decode method_3_code 7 = .ok (.iload_n 1, 1) := by decide +kernel
theorem d10_8 : decode method_3_code 8 = .ok (.iload_n 0, 1) := by decide +kernel
theorem d10_9 : decode method_3_code 9 = .ok (.if_icmp .ne 5, 3) := by decide +kernel
theorem d10_12 : decode method_3_code 12 = .ok (.iconst 0, 1) := by decide +kernel
theorem d10_13 : decode method_3_code 13 = .ok (.ireturn, 1) := by decide +kernel
theorem d10_14 : decode method_3_code 14 = .ok (.iconst (-1), 1) := by decide +kernel
theorem d10_15 : decode method_3_code 15 = .ok (.ireturn, 1) := by decide +kernel
theorem pn10 : plainName "com/example/fenceline/fenceline/DigraphRemoveLastEdgePinLaw" = true := by first | (simp [plainName, overriddenIn]; done) | decide +kernel
theorem ef10 (m : MethodId) (x0 : Int32) (x1 : Int32) (x2 : Int32) : entryFrame m #[(.int x0), (.int x1), (.int x2)] 3 = mkF m 0 #[.val (.int x0), .val (.int x1), .val (.int x2)] [] := by first | (simp [entryFrame, mkF, argsToLocals, Value.category]; done) | rfl
def Q10 (Z : State) (p1 : Int32) (p2 : Int32) (p3 : Int32) (h0 : Heap) (n0 : Nat) (v : Option Value) (h : Heap) (L : List Loc) : Prop := v = some (.int (own_ex p1 p2 p3)) ∧ Fr n0 L ∧ h = h0
set_option maxRecDepth 65536 in
set_option maxHeartbeats 40000000 in
theorem rm10 (l : Launch) (Z : State) (a0 : Array Value) (hw : ∀ d ∈ tables_1, d.before a0 Z = true) (ws : List Jvm.Cond) (p1 : Int32) (p2 : Int32) (p3 : Int32) (h0 : Heap) (n0 : Nat) (Z0 : n0 ≤ h0.size) :
    MetFree l (⟨"com/example/fenceline/fenceline/DigraphRemoveLastEdgePinLaw", "expect", "(III)I"⟩ : MethodName) (head1 (Jvm.Cond.code (⟨"com/example/fenceline/fenceline/DigraphRemoveLastEdgePinLaw", "expect", "(III)I"⟩ : MethodName) method_3_code 3 (some .int) :: ws) ({ frames := 0, cells := 0, slots := 0, locals := 0 } : Room)) (fun a U => a = #[(.int p1), (.int p2), (.int p3)] ∧ Z.Warmed39 U.vm ∧ U.heap = h0) (fun _ _ _ _ _ => True) (fun _ U o U' => ∃ v L, o = .returned v ∧ Q10 Z p1 p2 p3 h0 n0 v U'.heap L ∧ FrameEnd U o U' L ({ frames := 0, cells := 0, slots := 0, locals := 0 } : Room).cells ({ frames := 0, cells := 0, slots := 0, locals := 0 } : Room).slots) := by
  refine MetFree.of_bodySF (plainFor_of_name pn10) hisR ?_
  intro p e s m args below meth c s₁ Bd hml0 hP hK
  obtain ⟨rfl, hZ, hh⟩ := hP
  have hx := Bd.exec
  have hby := Bd.bytes
  have hml : c.maxLocals = 3 := hml0
  have hown : s.vm.findClass "com/example/fenceline/fenceline/DigraphRemoveLastEdgePinLaw" = some m.cls := findClass_of_methodNamed Bd.named
  have hnm := (name_of_methodNamed Bd.named Bd.method).1
  have X0 : Stand p l e ({ frames := 0, cells := 0, slots := 0, locals := 0 } : Room) s m #[(.int p1), (.int p2), (.int p3)] below meth c s₁ [] 0 0 := Stand.of_body Bd
  have e0 : s₁.heap = h0 := by rw [← hh, Bd.state]; rfl
  have N0 := Fr.nil n0
  refine (show own_G p.tables e below (own_P s (Q10 Z p1 p2 p3 h0 n0) 0 0) (s₁.setTop (entryFrame m #[(.int p1), (.int p2), (.int p3)] 3)) from ?_)
  refine own_via (fun t k => castTop (ef10 m p1 p2 p3) k) ?_
  show own_G p.tables e below _ (s₁.setTop (mkF m 0 #[.val (.int p1), .val (.int p2), .val (.int p3)] []))
  refine own_via (S' := s₁.setTop (mkF m 2 #[.val (.int p1), .val (.int p2), .val (.int p3)] [(.int p1), (.int p3)])) (fun t k => ?_) ?_
  · show Steps p.tables e below (s₁.setTop (mkF m 0 #[.val (.int p1), .val (.int p2), .val (.int p3)] [])) t
    refine XS.iloadN X0.here hx rfl (hb hby d10_0) rfl ?_
    show Steps p.tables e below (s₁.setTop (mkF m 1 #[.val (.int p1), .val (.int p2), .val (.int p3)] [(.int p3)])) t
    refine XS.iloadN X0.here hx rfl (hb hby d10_1) rfl ?_
    exact k
  by_cases hc2_1 : p3 = p1
  · refine own_via (S' := s₁.setTop (mkF m 5 #[.val (.int p1), .val (.int p2), .val (.int p3)] [])) (fun t k => XS.icmpNo (g := (mkF m 2 #[.val (.int p1), .val (.int p2), .val (.int p3)] [(.int p1), (.int p3)])) X0.here hx rfl (hb hby d10_2) rfl (teq hc2_1).2 k) ?_
    refine own_via (S' := s₁.setTop (mkF m 6 #[.val (.int p1), .val (.int p2), .val (.int p3)] [(.int (1 : Int32))])) (fun t k => ?_) ?_
    · show Steps p.tables e below (s₁.setTop (mkF m 5 #[.val (.int p1), .val (.int p2), .val (.int p3)] [])) t
      refine XS.iconst X0.here hx rfl (hb hby d10_5) ?_
      exact k
    exact own_end (h := h0) X0 (v := some (.int (1 : Int32))) Bd.notSynchronized (fun h => by rw [Bd.returns] at h; cases h) (fun fs hr => retOut X0 hx Bd.returns rfl (Or.inl ⟨rfl, Or.inl rfl, _, rfl⟩) (hb hby d10_6) hr) e0 ⟨by show some (Value.int _) = some (Value.int _); congr 2; unfold own_ex; grind, N0, rfl⟩ (by decide) (by decide)
  · refine own_via (S' := s₁.setTop (mkF m 7 #[.val (.int p1), .val (.int p2), .val (.int p3)] [])) (fun t k => XS.icmpYes (g := (mkF m 2 #[.val (.int p1), .val (.int p2), .val (.int p3)] [(.int p1), (.int p3)])) X0.here hx rfl (pc0 := 2) (pc' := 7) rfl (hb hby d10_2) rfl (feq hc2_1).2 (by decide) (by decide) k) ?_
    refine own_via (S' := s₁.setTop (mkF m 9 #[.val (.int p1), .val (.int p2), .val (.int p3)] [(.int p1), (.int p2)])) (fun t k => ?_) ?_
    · show Steps p.tables e below (s₁.setTop (mkF m 7 #[.val (.int p1), .val (.int p2), .val (.int p3)] [])) t
      refine XS.iloadN X0.here hx rfl (hb hby d10_7) rfl ?_
      show Steps p.tables e below (s₁.setTop (mkF m 8 #[.val (.int p1), .val (.int p2), .val (.int p3)] [(.int p2)])) t
      refine XS.iloadN X0.here hx rfl (hb hby d10_8) rfl ?_
      exact k
    by_cases hc9_2 : p2 = p1
    · refine own_via (S' := s₁.setTop (mkF m 12 #[.val (.int p1), .val (.int p2), .val (.int p3)] [])) (fun t k => XS.icmpNo (g := (mkF m 9 #[.val (.int p1), .val (.int p2), .val (.int p3)] [(.int p1), (.int p2)])) X0.here hx rfl (hb hby d10_9) rfl (teq hc9_2).2 k) ?_
      refine own_via (S' := s₁.setTop (mkF m 13 #[.val (.int p1), .val (.int p2), .val (.int p3)] [(.int (0 : Int32))])) (fun t k => ?_) ?_
      · show Steps p.tables e below (s₁.setTop (mkF m 12 #[.val (.int p1), .val (.int p2), .val (.int p3)] [])) t
        refine XS.iconst X0.here hx rfl (hb hby d10_12) ?_
        exact k
      exact own_end (h := h0) X0 (v := some (.int (0 : Int32))) Bd.notSynchronized (fun h => by rw [Bd.returns] at h; cases h) (fun fs hr => retOut X0 hx Bd.returns rfl (Or.inl ⟨rfl, Or.inl rfl, _, rfl⟩) (hb hby d10_13) hr) e0 ⟨by show some (Value.int _) = some (Value.int _); congr 2; unfold own_ex; grind, N0, rfl⟩ (by decide) (by decide)
    · refine own_via (S' := s₁.setTop (mkF m 14 #[.val (.int p1), .val (.int p2), .val (.int p3)] [])) (fun t k => XS.icmpYes (g := (mkF m 9 #[.val (.int p1), .val (.int p2), .val (.int p3)] [(.int p1), (.int p2)])) X0.here hx rfl (pc0 := 9) (pc' := 14) rfl (hb hby d10_9) rfl (feq hc9_2).2 (by decide) (by decide) k) ?_
      refine own_via (S' := s₁.setTop (mkF m 15 #[.val (.int p1), .val (.int p2), .val (.int p3)] [(.int (-1 : Int32))])) (fun t k => ?_) ?_
      · show Steps p.tables e below (s₁.setTop (mkF m 14 #[.val (.int p1), .val (.int p2), .val (.int p3)] [])) t
        refine XS.iconst X0.here hx rfl (hb hby d10_14) ?_
        exact k
      exact own_end (h := h0) X0 (v := some (.int (-1 : Int32))) Bd.notSynchronized (fun h => by rw [Bd.returns] at h; cases h) (fun fs hr => retOut X0 hx Bd.returns rfl (Or.inl ⟨rfl, Or.inl rfl, _, rfl⟩) (hb hby d10_15) hr) e0 ⟨by show some (Value.int _) = some (Value.int _); congr 2; unfold own_ex; grind, N0, rfl⟩ (by decide) (by decide)
theorem pn0 : plainName "com/example/fenceline/fenceline/DigraphRemoveLastEdgePinLaw" = true := by first | (simp [plainName, overriddenIn]; done) | decide +kernel
theorem pd_3 : parseMethodDescriptor "(II)V" = some ⟨[.int, .int], none⟩ := by decide +kernel
theorem pd_4 : parseMethodDescriptor "()V" = some ⟨[], none⟩ := by decide +kernel
theorem pd_5 : parseMethodDescriptor "()I" = some ⟨[], some .int⟩ := by decide +kernel
theorem pd_6 : parseMethodDescriptor "(I)I" = some ⟨[.int], some .int⟩ := by decide +kernel
theorem pd_7 : parseMethodDescriptor "(III)I" = some ⟨[.int, .int, .int], some .int⟩ := by decide +kernel
theorem pd_8 : parseMethodDescriptor "(II)Lcom/example/fenceline/fenceline/Digraph;" = some ⟨[.int, .int], some (.object "com/example/fenceline/fenceline/Digraph")⟩ := by decide +kernel
theorem ef0 (m : MethodId) (x0 : Int32) (x1 : Int32) (x2 : Int32) : entryFrame m #[(.int x0), (.int x1), (.int x2)] maxLocals = mkF m 0 #[.val (.int x0), .val (.int x1), .val (.int x2), .unset, .unset, .unset, .unset, .unset, .unset, .unset, .unset, .unset] [] := by first | (simp [entryFrame, mkF, argsToLocals, Value.category, maxLocals]; done) | rfl
def Q0 (Z : State) (p1 : Int32) (p2 : Int32) (p3 : Int32) (h0 : Heap) (n0 : Nat) (v : Option Value) (h : Heap) (L : List Loc) : Prop := v = some (.int 1) ∧ Fr n0 L
set_option maxRecDepth 65536 in
set_option maxHeartbeats 40000000 in
theorem rm0 (l : Launch) (Z : State) (a0 : Array Value) (hw : ∀ d ∈ tables_1, d.before a0 Z = true) (ws : List Jvm.Cond) (p1 : Int32) (p2 : Int32) (p3 : Int32) (h0 : Heap) (n0 : Nat) (Z0 : n0 ≤ h0.size) :
    MetFree l x (head1 (Jvm.Cond.code x code maxLocals ret :: ws) room_1) (fun a U => a = #[(.int p1), (.int p2), (.int p3)] ∧ Z.Warmed39 U.vm ∧ U.heap = h0) (fun _ _ _ _ _ => True) (fun _ U o U' => ∃ v L, o = .returned v ∧ Q0 Z p1 p2 p3 h0 n0 v U'.heap L ∧ FrameEnd U o U' L 24 256) := by
  refine MetFree.of_bodySF (plainFor_of_name pn0) hisR ?_
  intro p e s m args below meth c s₁ Bd hml0 hP hK
  obtain ⟨rfl, hZ, hh⟩ := hP
  have hx := Bd.exec
  have hby := Bd.bytes
  have hml : c.maxLocals = 12 := hml0
  have hown : s.vm.findClass "com/example/fenceline/fenceline/DigraphRemoveLastEdgePinLaw" = some m.cls := findClass_of_methodNamed Bd.named
  have hnm := (name_of_methodNamed Bd.named Bd.method).1
  have X0 : Stand p l e room_1 s m #[(.int p1), (.int p2), (.int p3)] below meth c s₁ [] 0 0 := Stand.of_body Bd
  have e0 : s₁.heap = h0 := by rw [← hh, Bd.state]; rfl
  have N0 := Fr.nil n0
  refine (show own_G p.tables e below (own_P s (Q0 Z p1 p2 p3 h0 n0) 24 256) (s₁.setTop (entryFrame m #[(.int p1), (.int p2), (.int p3)] maxLocals)) from ?_)
  refine own_via (fun t k => castTop (ef0 m p1 p2 p3) k) ?_
  show own_G p.tables e below _ (s₁.setTop (mkF m 0 #[.val (.int p1), .val (.int p2), .val (.int p3), .unset, .unset, .unset, .unset, .unset, .unset, .unset, .unset, .unset] []))
  have K0 := Keep.refl h0 []
  refine own_via (S' := s₁.setTop (mkF m 3 #[.val (.int p1), .val (.int p2), .val (.int p3), .unset, .unset, .unset, .unset, .unset, .unset, .unset, .unset, .unset] [(.int (p1 &&& (1 : Int32)))])) (fun t k => ?_) ?_
  · show Steps p.tables e below (s₁.setTop (mkF m 0 #[.val (.int p1), .val (.int p2), .val (.int p3), .unset, .unset, .unset, .unset, .unset, .unset, .unset, .unset, .unset] [])) t
    refine XS.iloadN X0.here hx rfl (hb hby at_0) rfl ?_
    show Steps p.tables e below (s₁.setTop (mkF m 1 #[.val (.int p1), .val (.int p2), .val (.int p3), .unset, .unset, .unset, .unset, .unset, .unset, .unset, .unset, .unset] [(.int p1)])) t
    refine XS.iconst X0.here hx rfl (hb hby at_1) ?_
    show Steps p.tables e below (s₁.setTop (mkF m 2 #[.val (.int p1), .val (.int p2), .val (.int p3), .unset, .unset, .unset, .unset, .unset, .unset, .unset, .unset, .unset] [(.int (1 : Int32)), (.int p1)])) t
    refine XS.iand X0.here hx rfl (hb hby at_2) rfl ?_
    exact k
  by_cases hc3_1 : (p1 &&& (1 : Int32)) = (0 : Int32)
  · refine own_via (S' := s₁.setTop (mkF m 10 #[.val (.int p1), .val (.int p2), .val (.int p3), .unset, .unset, .unset, .unset, .unset, .unset, .unset, .unset, .unset] [])) (fun t k => XS.ifYes (g := (mkF m 3 #[.val (.int p1), .val (.int p2), .val (.int p3), .unset, .unset, .unset, .unset, .unset, .unset, .unset, .unset, .unset] [(.int (p1 &&& (1 : Int32)))])) X0.here hx rfl (pc0 := 3) (pc' := 10) rfl (hb hby at_3) rfl ((if0 _ _).trans (teq hc3_1).1) (by decide) (by decide) k) ?_
    refine own_via (S' := s₁.setTop (mkF m 21 #[.val (.int p1), .val (.int p2), .val (.int p3), .val (.int (0 : Int32)), .val (.int ((p2 &&& (255 : Int32)) % (3 : Int32))), .unset, .unset, .unset, .unset, .unset, .unset, .unset] [])) (fun t k => ?_) ?_
    · show Steps p.tables e below (s₁.setTop (mkF m 10 #[.val (.int p1), .val (.int p2), .val (.int p3), .unset, .unset, .unset, .unset, .unset, .unset, .unset, .unset, .unset] [])) t
      refine XS.iconst X0.here hx rfl (hb hby at_10) ?_
      show Steps p.tables e below (s₁.setTop (mkF m 11 #[.val (.int p1), .val (.int p2), .val (.int p3), .unset, .unset, .unset, .unset, .unset, .unset, .unset, .unset, .unset] [(.int (0 : Int32))])) t
      refine XS.istoreN X0.here hx rfl (hb hby at_11) rfl (l' := #[.val (.int p1), .val (.int p2), .val (.int p3), .val (.int (0 : Int32)), .unset, .unset, .unset, .unset, .unset, .unset, .unset, .unset]) rfl ?_
      show Steps p.tables e below (s₁.setTop (mkF m 12 #[.val (.int p1), .val (.int p2), .val (.int p3), .val (.int (0 : Int32)), .unset, .unset, .unset, .unset, .unset, .unset, .unset, .unset] [])) t
      refine XS.iloadN X0.here hx rfl (hb hby at_12) rfl ?_
      show Steps p.tables e below (s₁.setTop (mkF m 13 #[.val (.int p1), .val (.int p2), .val (.int p3), .val (.int (0 : Int32)), .unset, .unset, .unset, .unset, .unset, .unset, .unset, .unset] [(.int p2)])) t
      refine XS.sipush X0.here hx rfl (hb hby at_13) ?_
      show Steps p.tables e below (s₁.setTop (mkF m 16 #[.val (.int p1), .val (.int p2), .val (.int p3), .val (.int (0 : Int32)), .unset, .unset, .unset, .unset, .unset, .unset, .unset, .unset] [(.int (255 : Int32)), (.int p2)])) t
      refine XS.iand X0.here hx rfl (hb hby at_16) rfl ?_
      show Steps p.tables e below (s₁.setTop (mkF m 17 #[.val (.int p1), .val (.int p2), .val (.int p3), .val (.int (0 : Int32)), .unset, .unset, .unset, .unset, .unset, .unset, .unset, .unset] [(.int (p2 &&& (255 : Int32)))])) t
      refine XS.iconst X0.here hx rfl (hb hby at_17) ?_
      show Steps p.tables e below (s₁.setTop (mkF m 18 #[.val (.int p1), .val (.int p2), .val (.int p3), .val (.int (0 : Int32)), .unset, .unset, .unset, .unset, .unset, .unset, .unset, .unset] [(.int (3 : Int32)), (.int (p2 &&& (255 : Int32)))])) t
      refine iremM X0 hx rfl (hb hby at_18) rfl (by decide) ?_
      show Steps p.tables e below (s₁.setTop (mkF m 19 #[.val (.int p1), .val (.int p2), .val (.int p3), .val (.int (0 : Int32)), .unset, .unset, .unset, .unset, .unset, .unset, .unset, .unset] [(.int ((p2 &&& (255 : Int32)) % (3 : Int32)))])) t
      refine XS.istore X0.here hx rfl (hb hby at_19) rfl (l' := #[.val (.int p1), .val (.int p2), .val (.int p3), .val (.int (0 : Int32)), .val (.int ((p2 &&& (255 : Int32)) % (3 : Int32))), .unset, .unset, .unset, .unset, .unset, .unset, .unset]) rfl ?_
      exact k
    obtain ⟨va0, hn_va0⟩ : ∃ z, z = ((p2 &&& (255 : Int32)) % (3 : Int32)) := ⟨_, rfl⟩
    rw [← hn_va0]
    show own_G p.tables e below _ (s₁.setTop (mkF m 21 #[.val (.int p1), .val (.int p2), .val (.int p3), .val (.int (0 : Int32)), .val (.int va0), .unset, .unset, .unset, .unset, .unset, .unset, .unset] []))
    have hd_va0 : va0 ∈ own_D := by rw [hn_va0]; exact own_in3 _
    refine own_via (S' := s₁.setTop (mkF m 33 #[.val (.int p1), .val (.int p2), .val (.int p3), .val (.int (0 : Int32)), .val (.int va0), .val (.int ((((p2.toUInt32 >>> ((8 : Int32) &&& 31).toUInt32).toInt32) &&& (255 : Int32)) % (3 : Int32))), .unset, .unset, .unset, .unset, .unset, .unset] [])) (fun t k => ?_) ?_
    · show Steps p.tables e below (s₁.setTop (mkF m 21 #[.val (.int p1), .val (.int p2), .val (.int p3), .val (.int (0 : Int32)), .val (.int va0), .unset, .unset, .unset, .unset, .unset, .unset, .unset] [])) t
      refine XS.iloadN X0.here hx rfl (hb hby at_21) rfl ?_
      show Steps p.tables e below (s₁.setTop (mkF m 22 #[.val (.int p1), .val (.int p2), .val (.int p3), .val (.int (0 : Int32)), .val (.int va0), .unset, .unset, .unset, .unset, .unset, .unset, .unset] [(.int p2)])) t
      refine XS.bipush X0.here hx rfl (hb hby at_22) ?_
      show Steps p.tables e below (s₁.setTop (mkF m 24 #[.val (.int p1), .val (.int p2), .val (.int p3), .val (.int (0 : Int32)), .val (.int va0), .unset, .unset, .unset, .unset, .unset, .unset, .unset] [(.int (8 : Int32)), (.int p2)])) t
      refine XS.iushr X0.here hx rfl (hb hby at_24) rfl ?_
      show Steps p.tables e below (s₁.setTop (mkF m 25 #[.val (.int p1), .val (.int p2), .val (.int p3), .val (.int (0 : Int32)), .val (.int va0), .unset, .unset, .unset, .unset, .unset, .unset, .unset] [(.int ((p2.toUInt32 >>> ((8 : Int32) &&& 31).toUInt32).toInt32))])) t
      refine XS.sipush X0.here hx rfl (hb hby at_25) ?_
      show Steps p.tables e below (s₁.setTop (mkF m 28 #[.val (.int p1), .val (.int p2), .val (.int p3), .val (.int (0 : Int32)), .val (.int va0), .unset, .unset, .unset, .unset, .unset, .unset, .unset] [(.int (255 : Int32)), (.int ((p2.toUInt32 >>> ((8 : Int32) &&& 31).toUInt32).toInt32))])) t
      refine XS.iand X0.here hx rfl (hb hby at_28) rfl ?_
      show Steps p.tables e below (s₁.setTop (mkF m 29 #[.val (.int p1), .val (.int p2), .val (.int p3), .val (.int (0 : Int32)), .val (.int va0), .unset, .unset, .unset, .unset, .unset, .unset, .unset] [(.int (((p2.toUInt32 >>> ((8 : Int32) &&& 31).toUInt32).toInt32) &&& (255 : Int32)))])) t
      refine XS.iconst X0.here hx rfl (hb hby at_29) ?_
      show Steps p.tables e below (s₁.setTop (mkF m 30 #[.val (.int p1), .val (.int p2), .val (.int p3), .val (.int (0 : Int32)), .val (.int va0), .unset, .unset, .unset, .unset, .unset, .unset, .unset] [(.int (3 : Int32)), (.int (((p2.toUInt32 >>> ((8 : Int32) &&& 31).toUInt32).toInt32) &&& (255 : Int32)))])) t
      refine iremM X0 hx rfl (hb hby at_30) rfl (by decide) ?_
      show Steps p.tables e below (s₁.setTop (mkF m 31 #[.val (.int p1), .val (.int p2), .val (.int p3), .val (.int (0 : Int32)), .val (.int va0), .unset, .unset, .unset, .unset, .unset, .unset, .unset] [(.int ((((p2.toUInt32 >>> ((8 : Int32) &&& 31).toUInt32).toInt32) &&& (255 : Int32)) % (3 : Int32)))])) t
      refine XS.istore X0.here hx rfl (hb hby at_31) rfl (l' := #[.val (.int p1), .val (.int p2), .val (.int p3), .val (.int (0 : Int32)), .val (.int va0), .val (.int ((((p2.toUInt32 >>> ((8 : Int32) &&& 31).toUInt32).toInt32) &&& (255 : Int32)) % (3 : Int32))), .unset, .unset, .unset, .unset, .unset, .unset]) rfl ?_
      exact k
    obtain ⟨va1, hn_va1⟩ : ∃ z, z = ((((p2.toUInt32 >>> ((8 : Int32) &&& 31).toUInt32).toInt32) &&& (255 : Int32)) % (3 : Int32)) := ⟨_, rfl⟩
    rw [← hn_va1]
    show own_G p.tables e below _ (s₁.setTop (mkF m 33 #[.val (.int p1), .val (.int p2), .val (.int p3), .val (.int (0 : Int32)), .val (.int va0), .val (.int va1), .unset, .unset, .unset, .unset, .unset, .unset] []))
    have hd_va1 : va1 ∈ own_D := by rw [hn_va1]; exact own_in3 _
    refine own_via (S' := s₁.setTop (mkF m 45 #[.val (.int p1), .val (.int p2), .val (.int p3), .val (.int (0 : Int32)), .val (.int va0), .val (.int va1), .val (.int ((((p2.toUInt32 >>> ((16 : Int32) &&& 31).toUInt32).toInt32) &&& (255 : Int32)) % (3 : Int32))), .unset, .unset, .unset, .unset, .unset] [])) (fun t k => ?_) ?_
    · show Steps p.tables e below (s₁.setTop (mkF m 33 #[.val (.int p1), .val (.int p2), .val (.int p3), .val (.int (0 : Int32)), .val (.int va0), .val (.int va1), .unset, .unset, .unset, .unset, .unset, .unset] [])) t
      refine XS.iloadN X0.here hx rfl (hb hby at_33) rfl ?_
      show Steps p.tables e below (s₁.setTop (mkF m 34 #[.val (.int p1), .val (.int p2), .val (.int p3), .val (.int (0 : Int32)), .val (.int va0), .val (.int va1), .unset, .unset, .unset, .unset, .unset, .unset] [(.int p2)])) t
      refine XS.bipush X0.here hx rfl (hb hby at_34) ?_
      show Steps p.tables e below (s₁.setTop (mkF m 36 #[.val (.int p1), .val (.int p2), .val (.int p3), .val (.int (0 : Int32)), .val (.int va0), .val (.int va1), .unset, .unset, .unset, .unset, .unset, .unset] [(.int (16 : Int32)), (.int p2)])) t
      refine XS.iushr X0.here hx rfl (hb hby at_36) rfl ?_
      show Steps p.tables e below (s₁.setTop (mkF m 37 #[.val (.int p1), .val (.int p2), .val (.int p3), .val (.int (0 : Int32)), .val (.int va0), .val (.int va1), .unset, .unset, .unset, .unset, .unset, .unset] [(.int ((p2.toUInt32 >>> ((16 : Int32) &&& 31).toUInt32).toInt32))])) t
      refine XS.sipush X0.here hx rfl (hb hby at_37) ?_
      show Steps p.tables e below (s₁.setTop (mkF m 40 #[.val (.int p1), .val (.int p2), .val (.int p3), .val (.int (0 : Int32)), .val (.int va0), .val (.int va1), .unset, .unset, .unset, .unset, .unset, .unset] [(.int (255 : Int32)), (.int ((p2.toUInt32 >>> ((16 : Int32) &&& 31).toUInt32).toInt32))])) t
      refine XS.iand X0.here hx rfl (hb hby at_40) rfl ?_
      show Steps p.tables e below (s₁.setTop (mkF m 41 #[.val (.int p1), .val (.int p2), .val (.int p3), .val (.int (0 : Int32)), .val (.int va0), .val (.int va1), .unset, .unset, .unset, .unset, .unset, .unset] [(.int (((p2.toUInt32 >>> ((16 : Int32) &&& 31).toUInt32).toInt32) &&& (255 : Int32)))])) t
      refine XS.iconst X0.here hx rfl (hb hby at_41) ?_
      show Steps p.tables e below (s₁.setTop (mkF m 42 #[.val (.int p1), .val (.int p2), .val (.int p3), .val (.int (0 : Int32)), .val (.int va0), .val (.int va1), .unset, .unset, .unset, .unset, .unset, .unset] [(.int (3 : Int32)), (.int (((p2.toUInt32 >>> ((16 : Int32) &&& 31).toUInt32).toInt32) &&& (255 : Int32)))])) t
      refine iremM X0 hx rfl (hb hby at_42) rfl (by decide) ?_
      show Steps p.tables e below (s₁.setTop (mkF m 43 #[.val (.int p1), .val (.int p2), .val (.int p3), .val (.int (0 : Int32)), .val (.int va0), .val (.int va1), .unset, .unset, .unset, .unset, .unset, .unset] [(.int ((((p2.toUInt32 >>> ((16 : Int32) &&& 31).toUInt32).toInt32) &&& (255 : Int32)) % (3 : Int32)))])) t
      refine XS.istore X0.here hx rfl (hb hby at_43) rfl (l' := #[.val (.int p1), .val (.int p2), .val (.int p3), .val (.int (0 : Int32)), .val (.int va0), .val (.int va1), .val (.int ((((p2.toUInt32 >>> ((16 : Int32) &&& 31).toUInt32).toInt32) &&& (255 : Int32)) % (3 : Int32))), .unset, .unset, .unset, .unset, .unset]) rfl ?_
      exact k
    obtain ⟨va2, hn_va2⟩ : ∃ z, z = ((((p2.toUInt32 >>> ((16 : Int32) &&& 31).toUInt32).toInt32) &&& (255 : Int32)) % (3 : Int32)) := ⟨_, rfl⟩
    rw [← hn_va2]
    show own_G p.tables e below _ (s₁.setTop (mkF m 45 #[.val (.int p1), .val (.int p2), .val (.int p3), .val (.int (0 : Int32)), .val (.int va0), .val (.int va1), .val (.int va2), .unset, .unset, .unset, .unset, .unset] []))
    have hd_va2 : va2 ∈ own_D := by rw [hn_va2]; exact own_in3 _
    refine own_via (S' := s₁.setTop (mkF m 54 #[.val (.int p1), .val (.int p2), .val (.int p3), .val (.int (0 : Int32)), .val (.int va0), .val (.int va1), .val (.int va2), .val (.int ((p3 &&& (255 : Int32)) % (3 : Int32))), .unset, .unset, .unset, .unset] [])) (fun t k => ?_) ?_
    · show Steps p.tables e below (s₁.setTop (mkF m 45 #[.val (.int p1), .val (.int p2), .val (.int p3), .val (.int (0 : Int32)), .val (.int va0), .val (.int va1), .val (.int va2), .unset, .unset, .unset, .unset, .unset] [])) t
      refine XS.iloadN X0.here hx rfl (hb hby at_45) rfl ?_
      show Steps p.tables e below (s₁.setTop (mkF m 46 #[.val (.int p1), .val (.int p2), .val (.int p3), .val (.int (0 : Int32)), .val (.int va0), .val (.int va1), .val (.int va2), .unset, .unset, .unset, .unset, .unset] [(.int p3)])) t
      refine XS.sipush X0.here hx rfl (hb hby at_46) ?_
      show Steps p.tables e below (s₁.setTop (mkF m 49 #[.val (.int p1), .val (.int p2), .val (.int p3), .val (.int (0 : Int32)), .val (.int va0), .val (.int va1), .val (.int va2), .unset, .unset, .unset, .unset, .unset] [(.int (255 : Int32)), (.int p3)])) t
      refine XS.iand X0.here hx rfl (hb hby at_49) rfl ?_
      show Steps p.tables e below (s₁.setTop (mkF m 50 #[.val (.int p1), .val (.int p2), .val (.int p3), .val (.int (0 : Int32)), .val (.int va0), .val (.int va1), .val (.int va2), .unset, .unset, .unset, .unset, .unset] [(.int (p3 &&& (255 : Int32)))])) t
      refine XS.iconst X0.here hx rfl (hb hby at_50) ?_
      show Steps p.tables e below (s₁.setTop (mkF m 51 #[.val (.int p1), .val (.int p2), .val (.int p3), .val (.int (0 : Int32)), .val (.int va0), .val (.int va1), .val (.int va2), .unset, .unset, .unset, .unset, .unset] [(.int (3 : Int32)), (.int (p3 &&& (255 : Int32)))])) t
      refine iremM X0 hx rfl (hb hby at_51) rfl (by decide) ?_
      show Steps p.tables e below (s₁.setTop (mkF m 52 #[.val (.int p1), .val (.int p2), .val (.int p3), .val (.int (0 : Int32)), .val (.int va0), .val (.int va1), .val (.int va2), .unset, .unset, .unset, .unset, .unset] [(.int ((p3 &&& (255 : Int32)) % (3 : Int32)))])) t
      refine XS.istore X0.here hx rfl (hb hby at_52) rfl (l' := #[.val (.int p1), .val (.int p2), .val (.int p3), .val (.int (0 : Int32)), .val (.int va0), .val (.int va1), .val (.int va2), .val (.int ((p3 &&& (255 : Int32)) % (3 : Int32))), .unset, .unset, .unset, .unset]) rfl ?_
      exact k
    obtain ⟨vb0, hn_vb0⟩ : ∃ z, z = ((p3 &&& (255 : Int32)) % (3 : Int32)) := ⟨_, rfl⟩
    rw [← hn_vb0]
    show own_G p.tables e below _ (s₁.setTop (mkF m 54 #[.val (.int p1), .val (.int p2), .val (.int p3), .val (.int (0 : Int32)), .val (.int va0), .val (.int va1), .val (.int va2), .val (.int vb0), .unset, .unset, .unset, .unset] []))
    have hd_vb0 : vb0 ∈ own_D := by rw [hn_vb0]; exact own_in3 _
    refine own_via (S' := s₁.setTop (mkF m 66 #[.val (.int p1), .val (.int p2), .val (.int p3), .val (.int (0 : Int32)), .val (.int va0), .val (.int va1), .val (.int va2), .val (.int vb0), .val (.int ((((p3.toUInt32 >>> ((8 : Int32) &&& 31).toUInt32).toInt32) &&& (255 : Int32)) % (3 : Int32))), .unset, .unset, .unset] [])) (fun t k => ?_) ?_
    · show Steps p.tables e below (s₁.setTop (mkF m 54 #[.val (.int p1), .val (.int p2), .val (.int p3), .val (.int (0 : Int32)), .val (.int va0), .val (.int va1), .val (.int va2), .val (.int vb0), .unset, .unset, .unset, .unset] [])) t
      refine XS.iloadN X0.here hx rfl (hb hby at_54) rfl ?_
      show Steps p.tables e below (s₁.setTop (mkF m 55 #[.val (.int p1), .val (.int p2), .val (.int p3), .val (.int (0 : Int32)), .val (.int va0), .val (.int va1), .val (.int va2), .val (.int vb0), .unset, .unset, .unset, .unset] [(.int p3)])) t
      refine XS.bipush X0.here hx rfl (hb hby at_55) ?_
      show Steps p.tables e below (s₁.setTop (mkF m 57 #[.val (.int p1), .val (.int p2), .val (.int p3), .val (.int (0 : Int32)), .val (.int va0), .val (.int va1), .val (.int va2), .val (.int vb0), .unset, .unset, .unset, .unset] [(.int (8 : Int32)), (.int p3)])) t
      refine XS.iushr X0.here hx rfl (hb hby at_57) rfl ?_
      show Steps p.tables e below (s₁.setTop (mkF m 58 #[.val (.int p1), .val (.int p2), .val (.int p3), .val (.int (0 : Int32)), .val (.int va0), .val (.int va1), .val (.int va2), .val (.int vb0), .unset, .unset, .unset, .unset] [(.int ((p3.toUInt32 >>> ((8 : Int32) &&& 31).toUInt32).toInt32))])) t
      refine XS.sipush X0.here hx rfl (hb hby at_58) ?_
      show Steps p.tables e below (s₁.setTop (mkF m 61 #[.val (.int p1), .val (.int p2), .val (.int p3), .val (.int (0 : Int32)), .val (.int va0), .val (.int va1), .val (.int va2), .val (.int vb0), .unset, .unset, .unset, .unset] [(.int (255 : Int32)), (.int ((p3.toUInt32 >>> ((8 : Int32) &&& 31).toUInt32).toInt32))])) t
      refine XS.iand X0.here hx rfl (hb hby at_61) rfl ?_
      show Steps p.tables e below (s₁.setTop (mkF m 62 #[.val (.int p1), .val (.int p2), .val (.int p3), .val (.int (0 : Int32)), .val (.int va0), .val (.int va1), .val (.int va2), .val (.int vb0), .unset, .unset, .unset, .unset] [(.int (((p3.toUInt32 >>> ((8 : Int32) &&& 31).toUInt32).toInt32) &&& (255 : Int32)))])) t
      refine XS.iconst X0.here hx rfl (hb hby at_62) ?_
      show Steps p.tables e below (s₁.setTop (mkF m 63 #[.val (.int p1), .val (.int p2), .val (.int p3), .val (.int (0 : Int32)), .val (.int va0), .val (.int va1), .val (.int va2), .val (.int vb0), .unset, .unset, .unset, .unset] [(.int (3 : Int32)), (.int (((p3.toUInt32 >>> ((8 : Int32) &&& 31).toUInt32).toInt32) &&& (255 : Int32)))])) t
      refine iremM X0 hx rfl (hb hby at_63) rfl (by decide) ?_
      show Steps p.tables e below (s₁.setTop (mkF m 64 #[.val (.int p1), .val (.int p2), .val (.int p3), .val (.int (0 : Int32)), .val (.int va0), .val (.int va1), .val (.int va2), .val (.int vb0), .unset, .unset, .unset, .unset] [(.int ((((p3.toUInt32 >>> ((8 : Int32) &&& 31).toUInt32).toInt32) &&& (255 : Int32)) % (3 : Int32)))])) t
      refine XS.istore X0.here hx rfl (hb hby at_64) rfl (l' := #[.val (.int p1), .val (.int p2), .val (.int p3), .val (.int (0 : Int32)), .val (.int va0), .val (.int va1), .val (.int va2), .val (.int vb0), .val (.int ((((p3.toUInt32 >>> ((8 : Int32) &&& 31).toUInt32).toInt32) &&& (255 : Int32)) % (3 : Int32))), .unset, .unset, .unset]) rfl ?_
      exact k
    obtain ⟨vb1, hn_vb1⟩ : ∃ z, z = ((((p3.toUInt32 >>> ((8 : Int32) &&& 31).toUInt32).toInt32) &&& (255 : Int32)) % (3 : Int32)) := ⟨_, rfl⟩
    rw [← hn_vb1]
    show own_G p.tables e below _ (s₁.setTop (mkF m 66 #[.val (.int p1), .val (.int p2), .val (.int p3), .val (.int (0 : Int32)), .val (.int va0), .val (.int va1), .val (.int va2), .val (.int vb0), .val (.int vb1), .unset, .unset, .unset] []))
    have hd_vb1 : vb1 ∈ own_D := by rw [hn_vb1]; exact own_in3 _
    refine own_via (S' := s₁.setTop (mkF m 78 #[.val (.int p1), .val (.int p2), .val (.int p3), .val (.int (0 : Int32)), .val (.int va0), .val (.int va1), .val (.int va2), .val (.int vb0), .val (.int vb1), .val (.int ((((p3.toUInt32 >>> ((16 : Int32) &&& 31).toUInt32).toInt32) &&& (255 : Int32)) % (3 : Int32))), .unset, .unset] [])) (fun t k => ?_) ?_
    · show Steps p.tables e below (s₁.setTop (mkF m 66 #[.val (.int p1), .val (.int p2), .val (.int p3), .val (.int (0 : Int32)), .val (.int va0), .val (.int va1), .val (.int va2), .val (.int vb0), .val (.int vb1), .unset, .unset, .unset] [])) t
      refine XS.iloadN X0.here hx rfl (hb hby at_66) rfl ?_
      show Steps p.tables e below (s₁.setTop (mkF m 67 #[.val (.int p1), .val (.int p2), .val (.int p3), .val (.int (0 : Int32)), .val (.int va0), .val (.int va1), .val (.int va2), .val (.int vb0), .val (.int vb1), .unset, .unset, .unset] [(.int p3)])) t
      refine XS.bipush X0.here hx rfl (hb hby at_67) ?_
      show Steps p.tables e below (s₁.setTop (mkF m 69 #[.val (.int p1), .val (.int p2), .val (.int p3), .val (.int (0 : Int32)), .val (.int va0), .val (.int va1), .val (.int va2), .val (.int vb0), .val (.int vb1), .unset, .unset, .unset] [(.int (16 : Int32)), (.int p3)])) t
      refine XS.iushr X0.here hx rfl (hb hby at_69) rfl ?_
      show Steps p.tables e below (s₁.setTop (mkF m 70 #[.val (.int p1), .val (.int p2), .val (.int p3), .val (.int (0 : Int32)), .val (.int va0), .val (.int va1), .val (.int va2), .val (.int vb0), .val (.int vb1), .unset, .unset, .unset] [(.int ((p3.toUInt32 >>> ((16 : Int32) &&& 31).toUInt32).toInt32))])) t
      refine XS.sipush X0.here hx rfl (hb hby at_70) ?_
      show Steps p.tables e below (s₁.setTop (mkF m 73 #[.val (.int p1), .val (.int p2), .val (.int p3), .val (.int (0 : Int32)), .val (.int va0), .val (.int va1), .val (.int va2), .val (.int vb0), .val (.int vb1), .unset, .unset, .unset] [(.int (255 : Int32)), (.int ((p3.toUInt32 >>> ((16 : Int32) &&& 31).toUInt32).toInt32))])) t
      refine XS.iand X0.here hx rfl (hb hby at_73) rfl ?_
      show Steps p.tables e below (s₁.setTop (mkF m 74 #[.val (.int p1), .val (.int p2), .val (.int p3), .val (.int (0 : Int32)), .val (.int va0), .val (.int va1), .val (.int va2), .val (.int vb0), .val (.int vb1), .unset, .unset, .unset] [(.int (((p3.toUInt32 >>> ((16 : Int32) &&& 31).toUInt32).toInt32) &&& (255 : Int32)))])) t
      refine XS.iconst X0.here hx rfl (hb hby at_74) ?_
      show Steps p.tables e below (s₁.setTop (mkF m 75 #[.val (.int p1), .val (.int p2), .val (.int p3), .val (.int (0 : Int32)), .val (.int va0), .val (.int va1), .val (.int va2), .val (.int vb0), .val (.int vb1), .unset, .unset, .unset] [(.int (3 : Int32)), (.int (((p3.toUInt32 >>> ((16 : Int32) &&& 31).toUInt32).toInt32) &&& (255 : Int32)))])) t
      refine iremM X0 hx rfl (hb hby at_75) rfl (by decide) ?_
      show Steps p.tables e below (s₁.setTop (mkF m 76 #[.val (.int p1), .val (.int p2), .val (.int p3), .val (.int (0 : Int32)), .val (.int va0), .val (.int va1), .val (.int va2), .val (.int vb0), .val (.int vb1), .unset, .unset, .unset] [(.int ((((p3.toUInt32 >>> ((16 : Int32) &&& 31).toUInt32).toInt32) &&& (255 : Int32)) % (3 : Int32)))])) t
      refine XS.istore X0.here hx rfl (hb hby at_76) rfl (l' := #[.val (.int p1), .val (.int p2), .val (.int p3), .val (.int (0 : Int32)), .val (.int va0), .val (.int va1), .val (.int va2), .val (.int vb0), .val (.int vb1), .val (.int ((((p3.toUInt32 >>> ((16 : Int32) &&& 31).toUInt32).toInt32) &&& (255 : Int32)) % (3 : Int32))), .unset, .unset]) rfl ?_
      exact k
    obtain ⟨vb2, hn_vb2⟩ : ∃ z, z = ((((p3.toUInt32 >>> ((16 : Int32) &&& 31).toUInt32).toInt32) &&& (255 : Int32)) % (3 : Int32)) := ⟨_, rfl⟩
    rw [← hn_vb2]
    show own_G p.tables e below _ (s₁.setTop (mkF m 78 #[.val (.int p1), .val (.int p2), .val (.int p3), .val (.int (0 : Int32)), .val (.int va0), .val (.int va1), .val (.int va2), .val (.int vb0), .val (.int vb1), .val (.int vb2), .unset, .unset] []))
    have hd_vb2 : vb2 ∈ own_D := by rw [hn_vb2]; exact own_in3 _
    have hkn := own_alln va0 hd_va0 va1 hd_va1 va2 hd_va2 vb0 hd_vb0 vb1 hd_vb1 vb2 hd_vb2
    have hki := own_alli va0 hd_va0 va1 hd_va1 va2 hd_va2 vb0 hd_vb0 vb1 hd_vb1 vb2 hd_vb2
    refine own_via (S' := s₁.setTop (mkF m 79 #[.val (.int p1), .val (.int p2), .val (.int p3), .val (.int (0 : Int32)), .val (.int va0), .val (.int va1), .val (.int va2), .val (.int vb0), .val (.int vb1), .val (.int vb2), .unset, .unset] [(.int (0 : Int32))])) (fun t k => ?_) ?_
    · show Steps p.tables e below (s₁.setTop (mkF m 78 #[.val (.int p1), .val (.int p2), .val (.int p3), .val (.int (0 : Int32)), .val (.int va0), .val (.int va1), .val (.int va2), .val (.int vb0), .val (.int vb1), .val (.int vb2), .unset, .unset] [])) t
      refine XS.iloadN X0.here hx rfl (hb hby at_78) rfl ?_
      exact k
    refine own_via (S' := s₁.setTop (mkF m 90 #[.val (.int p1), .val (.int p2), .val (.int p3), .val (.int (0 : Int32)), .val (.int va0), .val (.int va1), .val (.int va2), .val (.int vb0), .val (.int vb1), .val (.int vb2), .unset, .unset] [])) (fun t k => XS.ifYes (g := (mkF m 79 #[.val (.int p1), .val (.int p2), .val (.int p3), .val (.int (0 : Int32)), .val (.int va0), .val (.int va1), .val (.int va2), .val (.int vb0), .val (.int vb1), .val (.int vb2), .unset, .unset] [(.int (0 : Int32))])) X0.here hx rfl (pc0 := 79) (pc' := 90) rfl (hb hby at_79) rfl ((if0 _ _).trans (teq (by decide : (0 : Int32) = (0 : Int32))).1) (by decide) (by decide) k) ?_
    obtain ⟨T3, h3, X3, e3, E3, A3, D3, -, st3⟩ := newO X0 hx hZ hown (hw _ (List.mem_of_getElem? (i := 0) rfl)) (hw _ (List.mem_of_getElem? (i := 1) rfl)) (hw _ (List.mem_of_getElem? (i := 2) rfl)) e0 (g := (mkF m 90 #[.val (.int p1), .val (.int p2), .val (.int p3), .val (.int (0 : Int32)), .val (.int va0), .val (.int va1), .val (.int va2), .val (.int vb0), .val (.int vb1), .val (.int vb2), .unset, .unset] [])) rfl (hb hby at_90) (by decide) (by decide)
    obtain ⟨b3, g3⟩ : ∃ z, z = h0.size := ⟨_, rfl⟩
    have g_b3 : n0 ≤ b3 := Nat.le_trans (Nat.le_trans Z0 K0.1) (Nat.le_of_eq g3.symm)
    have sz_b3 : h0.size ≤ b3 := Nat.le_trans K0.1 (Nat.le_of_eq g3.symm)
    rw [← g3] at A3 D3 st3
    have K3 : Keep h0 h3 [] := Keep.ext K0 E3
    have F_first_b3 : Fld Z h3 b3 "com/example/fenceline/fenceline/Digraph" "first" "[I" .null := D3 (Or.inr (hw _ (List.mem_of_getElem? (i := 18) rfl))) (ty := (.array .int)) (by decide)
    have F_next_b3 : Fld Z h3 b3 "com/example/fenceline/fenceline/Digraph" "next" "[I" .null := D3 (Or.inl (hw _ (List.mem_of_getElem? (i := 24) rfl))) (ty := (.array .int)) (by decide)
    have F_tails_b3 : Fld Z h3 b3 "com/example/fenceline/fenceline/Digraph" "tails" "[I" .null := D3 (Or.inl (hw _ (List.mem_of_getElem? (i := 26) rfl))) (ty := (.array .int)) (by decide)
    have F_heads_b3 : Fld Z h3 b3 "com/example/fenceline/fenceline/Digraph" "heads" "[I" .null := D3 (Or.inl (hw _ (List.mem_of_getElem? (i := 28) rfl))) (ty := (.array .int)) (by decide)
    have F_firstIn_b3 : Fld Z h3 b3 "com/example/fenceline/fenceline/Digraph" "firstIn" "[I" .null := D3 (Or.inr (hw _ (List.mem_of_getElem? (i := 30) rfl))) (ty := (.array .int)) (by decide)
    have F_edgeCount_b3 : Fld Z h3 b3 "com/example/fenceline/fenceline/Digraph" "edgeCount" "I" (.int (0 : Int32)) := D3 (Or.inl (hw _ (List.mem_of_getElem? (i := 37) rfl))) (ty := .int) (by decide)
    have F_nextIn_b3 : Fld Z h3 b3 "com/example/fenceline/fenceline/Digraph" "nextIn" "[I" .null := D3 (Or.inl (hw _ (List.mem_of_getElem? (i := 39) rfl))) (ty := (.array .int)) (by decide)
    refine own_via st3 ?_
    show own_G p.tables e below _ (T3.setTop (mkF m 93 #[.val (.int p1), .val (.int p2), .val (.int p3), .val (.int (0 : Int32)), .val (.int va0), .val (.int va1), .val (.int va2), .val (.int vb0), .val (.int vb1), .val (.int vb2), .unset, .unset] [(.ref b3)]))
    refine own_via (S' := T3.setTop (mkF m 96 #[.val (.int p1), .val (.int p2), .val (.int p3), .val (.int (0 : Int32)), .val (.int va0), .val (.int va1), .val (.int va2), .val (.int vb0), .val (.int vb1), .val (.int vb2), .unset, .unset] [(.int (0 : Int32)), (.int (3 : Int32)), (.ref b3), (.ref b3)])) (fun t k => ?_) ?_
    · show Steps p.tables e below (T3.setTop (mkF m 93 #[.val (.int p1), .val (.int p2), .val (.int p3), .val (.int (0 : Int32)), .val (.int va0), .val (.int va1), .val (.int va2), .val (.int vb0), .val (.int vb1), .val (.int vb2), .unset, .unset] [(.ref b3)])) t
      refine XS.dup X3.here hx rfl (hb hby at_93) rfl rfl ?_
      show Steps p.tables e below (T3.setTop (mkF m 94 #[.val (.int p1), .val (.int p2), .val (.int p3), .val (.int (0 : Int32)), .val (.int va0), .val (.int va1), .val (.int va2), .val (.int vb0), .val (.int vb1), .val (.int vb2), .unset, .unset] [(.ref b3), (.ref b3)])) t
      refine XS.iconst X3.here hx rfl (hb hby at_94) ?_
      show Steps p.tables e below (T3.setTop (mkF m 95 #[.val (.int p1), .val (.int p2), .val (.int p3), .val (.int (0 : Int32)), .val (.int va0), .val (.int va1), .val (.int va2), .val (.int vb0), .val (.int vb1), .val (.int vb2), .unset, .unset] [(.int (3 : Int32)), (.ref b3), (.ref b3)])) t
      refine XS.iconst X3.here hx rfl (hb hby at_95) ?_
      exact k
    obtain ⟨_, _, ⟨T4, L4, k4, n4⟩, -, X4, ⟨Lc4, hQ4, l4, y4, z4⟩, st4⟩ := X3.specialBack hx (y := (⟨"com/example/fenceline/fenceline/Digraph", "<init>", "(II)V"⟩ : MethodName)) rfl hown (mvT hZ (hw _ (List.mem_of_getElem? (i := 3) rfl))) (mvT hZ (hw _ (List.mem_of_getElem? (i := 4) rfl))) (mvT hZ (hw _ (List.mem_of_getElem? (i := 5) rfl))) (by decide) (backOf (W := 1) (rm1 l Z a0 hw [] b3 h3 n0 (Nat.le_trans Z0 K3.1) F_first_b3 F_next_b3 F_firstIn_b3 F_nextIn_b3 F_tails_b3 F_heads_b3 F_edgeCount_b3 A3 g_b3) hZ (hw _ (List.mem_of_getElem? (i := 5) rfl)) (hw _ (List.mem_of_getElem? (i := 2) rfl)) (by decide) (by decide)) (g := (mkF m 96 #[.val (.int p1), .val (.int p2), .val (.int p3), .val (.int (0 : Int32)), .val (.int va0), .val (.int va1), .val (.int va2), .val (.int vb0), .val (.int vb1), .val (.int vb2), .unset, .unset] [(.int (0 : Int32)), (.int (3 : Int32)), (.ref b3), (.ref b3)])) rfl (by rw [hml]; rfl) (Steps.refl _) (a := b3) (argsL := [(.int (3 : Int32)), (.int (0 : Int32))]) (rest := [(.ref b3)]) (lenOf pd_3 rfl) rfl (by show 2 * 0 + _ ≤ _; exact Nat.le_of_eq rfl) (hb hby at_96) (fun _ _ => ⟨rfl, e3, (by decide : 1 + 4 ≤ _), (by decide : 7 + 51 ≤ _)⟩)
    dsimp only [Pt.U, Pt.locs, Pt.cells, Pt.slots] at X4 l4 y4 z4 st4 hQ4
    subst l4 y4 z4
    obtain ⟨rfl, Nq4, Kc4, b04, b14, b24, b34, k04, k14, k24, k34, gg4_0, gg4_1, gg4_2, gg4_3, hs4_0, hs4_1, hs4_2, hs4_3, nn4_0, nn4_1, nn4_2, nn4_3, nn4_4, nn4_5, nn4_6, nn4_7, nn4_8, nn4_9, DS4⟩ := hQ4
    have N4 := Fr.app N0 Nq4
    refine own_via (fun t k => st4.trans k) ?_
    show own_G p.tables e below _ (T4.setTop (mkF m 99 #[.val (.int p1), .val (.int p2), .val (.int p3), .val (.int (0 : Int32)), .val (.int va0), .val (.int va1), .val (.int va2), .val (.int vb0), .val (.int vb1), .val (.int vb2), .unset, .unset] [(.ref b3)]))
    have K4 : Keep h0 T4.heap [] := Keep.trans K3 Kc4 (allS (Or.inr sz_b3) all0)
    have sz4_0 : h0.size ≤ b04 := Nat.le_trans K3.1 hs4_0
    have sz4_1 : h0.size ≤ b14 := Nat.le_trans K3.1 hs4_1
    have sz4_2 : h0.size ≤ b24 := Nat.le_trans K3.1 hs4_2
    have sz4_3 : h0.size ≤ b34 := Nat.le_trans K3.1 hs4_3
    obtain ⟨D4_0, D4_1, D4_2, D4_3, D4_4, D4_5, D4_6, D4_7, D4_8, D4_9, D4_10, D4_11⟩ := id DS4
    refine own_via (S' := T4.setTop (mkF m 107 #[.val (.int p1), .val (.int p2), .val (.int p3), .val (.int (0 : Int32)), .val (.int va0), .val (.int va1), .val (.int va2), .val (.int vb0), .val (.int vb1), .val (.int vb2), .val (.ref b3), .unset] [(.int vb0), (.int va0), (.ref b3)])) (fun t k => ?_) ?_
    · show Steps p.tables e below (T4.setTop (mkF m 99 #[.val (.int p1), .val (.int p2), .val (.int p3), .val (.int (0 : Int32)), .val (.int va0), .val (.int va1), .val (.int va2), .val (.int vb0), .val (.int vb1), .val (.int vb2), .unset, .unset] [(.ref b3)])) t
      refine XS.astore X4.here hx rfl (hb hby at_99) rfl rfl (l' := #[.val (.int p1), .val (.int p2), .val (.int p3), .val (.int (0 : Int32)), .val (.int va0), .val (.int va1), .val (.int va2), .val (.int vb0), .val (.int vb1), .val (.int vb2), .val (.ref b3), .unset]) rfl ?_
      show Steps p.tables e below (T4.setTop (mkF m 101 #[.val (.int p1), .val (.int p2), .val (.int p3), .val (.int (0 : Int32)), .val (.int va0), .val (.int va1), .val (.int va2), .val (.int vb0), .val (.int vb1), .val (.int vb2), .val (.ref b3), .unset] [])) t
      refine XS.aload X4.here hx rfl (hb hby at_101) rfl rfl ?_
      show Steps p.tables e below (T4.setTop (mkF m 103 #[.val (.int p1), .val (.int p2), .val (.int p3), .val (.int (0 : Int32)), .val (.int va0), .val (.int va1), .val (.int va2), .val (.int vb0), .val (.int vb1), .val (.int vb2), .val (.ref b3), .unset] [(.ref b3)])) t
      refine XS.iload X4.here hx rfl (hb hby at_103) rfl ?_
      show Steps p.tables e below (T4.setTop (mkF m 105 #[.val (.int p1), .val (.int p2), .val (.int p3), .val (.int (0 : Int32)), .val (.int va0), .val (.int va1), .val (.int va2), .val (.int vb0), .val (.int vb1), .val (.int vb2), .val (.ref b3), .unset] [(.int va0), (.ref b3)])) t
      refine XS.iload X4.here hx rfl (hb hby at_105) rfl ?_
      exact k
    obtain ⟨cq5, kq5, q5a, q5b, q5c⟩ := isOf hZ rfl D4_0
    obtain ⟨_, _, ⟨T5, L5, k5, n5⟩, -, X5, ⟨Lc5, hQ5, l5, y5, z5⟩, st5⟩ := X4.virtualBack hx (y := (⟨"com/example/fenceline/fenceline/Digraph", "addEdge", "(II)V"⟩ : MethodName)) (z := (⟨"com/example/fenceline/fenceline/Digraph", "addEdge", "(II)V"⟩ : MethodName)) hown (mvT hZ (hw _ (List.mem_of_getElem? (i := 31) rfl))) (mvT hZ (hw _ (List.mem_of_getElem? (i := 32) rfl))) (notFace_of_selects (args := #[]) (mvT hZ (hw _ (List.mem_of_getElem? (i := 34) rfl)))) (mvT hZ (hw _ (List.mem_of_getElem? (i := 34) rfl))) (mvT hZ (hw _ (List.mem_of_getElem? (i := 33) rfl))) (by decide) (backOf (W := 0) (rm6n l Z a0 hw [] b3 va0 vb0 b04 b14 b24 b34 k04 k14 k24 k34 own_g0n T4.heap n0 (Nat.le_trans Z0 K4.1) ⟨D4_0, D4_1, D4_2, D4_3, D4_4, D4_5, D4_6, D4_7, D4_8, D4_9, D4_10, D4_11⟩ nn4_0 nn4_1 nn4_2 nn4_3 nn4_4 nn4_5 nn4_6 nn4_7 nn4_8 nn4_9 g_b3 gg4_0 gg4_1 gg4_2 gg4_3 (hkn.1)) hZ (hw _ (List.mem_of_getElem? (i := 35) rfl)) (hw _ (List.mem_of_getElem? (i := 2) rfl)) (by decide) (by decide)) q5a q5c (g := (mkF m 107 #[.val (.int p1), .val (.int p2), .val (.int p3), .val (.int (0 : Int32)), .val (.int va0), .val (.int va1), .val (.int va2), .val (.int vb0), .val (.int vb1), .val (.int vb2), .val (.ref b3), .unset] [(.int vb0), (.int va0), (.ref b3)])) rfl (by rw [hml]; rfl) (Steps.refl _) (argsL := [(.int va0), (.int vb0)]) (rest := []) (lenOf pd_3 rfl) rfl (by show 2 * 0 + _ ≤ _; exact Nat.le_of_eq rfl) (hb hby at_107) (fun _ _ => ⟨rfl, rfl, (by decide : 5 + 0 ≤ _), (by decide : 58 + 0 ≤ _)⟩)
    dsimp only [Pt.U, Pt.locs, Pt.cells, Pt.slots] at X5 l5 y5 z5 st5 hQ5
    subst l5 y5 z5
    obtain ⟨rfl, Nq5, Kc5, Sv5, hS5, DS5⟩ := hQ5
    have N5 := Fr.app N4 Nq5
    refine own_via (fun t k => st5.trans k) ?_
    show own_G p.tables e below _ (T5.setTop (mkF m 110 #[.val (.int p1), .val (.int p2), .val (.int p3), .val (.int (0 : Int32)), .val (.int va0), .val (.int va1), .val (.int va2), .val (.int vb0), .val (.int vb1), .val (.int vb2), .val (.ref b3), .unset] []))
    have K5 : Keep h0 T5.heap [] := Keep.trans K4 Kc5 (allS (Or.inr sz_b3) (allS (Or.inr sz4_0) (allS (Or.inr sz4_1) (allS (Or.inr sz4_2) (allS (Or.inr sz4_3) all0)))))
    obtain ⟨D5_0, D5_1, D5_2, D5_3, D5_4, D5_5, D5_6, D5_7, D5_8, D5_9, D5_10, D5_11⟩ := id DS5
    refine own_via (S' := T5.setTop (mkF m 116 #[.val (.int p1), .val (.int p2), .val (.int p3), .val (.int (0 : Int32)), .val (.int va0), .val (.int va1), .val (.int va2), .val (.int vb0), .val (.int vb1), .val (.int vb2), .val (.ref b3), .unset] [(.int vb1), (.int va1), (.ref b3)])) (fun t k => ?_) ?_
    · show Steps p.tables e below (T5.setTop (mkF m 110 #[.val (.int p1), .val (.int p2), .val (.int p3), .val (.int (0 : Int32)), .val (.int va0), .val (.int va1), .val (.int va2), .val (.int vb0), .val (.int vb1), .val (.int vb2), .val (.ref b3), .unset] [])) t
      refine XS.aload X5.here hx rfl (hb hby at_110) rfl rfl ?_
      show Steps p.tables e below (T5.setTop (mkF m 112 #[.val (.int p1), .val (.int p2), .val (.int p3), .val (.int (0 : Int32)), .val (.int va0), .val (.int va1), .val (.int va2), .val (.int vb0), .val (.int vb1), .val (.int vb2), .val (.ref b3), .unset] [(.ref b3)])) t
      refine XS.iload X5.here hx rfl (hb hby at_112) rfl ?_
      show Steps p.tables e below (T5.setTop (mkF m 114 #[.val (.int p1), .val (.int p2), .val (.int p3), .val (.int (0 : Int32)), .val (.int va0), .val (.int va1), .val (.int va2), .val (.int vb0), .val (.int vb1), .val (.int vb2), .val (.ref b3), .unset] [(.int va1), (.ref b3)])) t
      refine XS.iload X5.here hx rfl (hb hby at_114) rfl ?_
      exact k
    obtain ⟨cq6, kq6, q6a, q6b, q6c⟩ := isOf hZ rfl D5_0
    obtain ⟨_, _, ⟨T6, L6, k6, n6⟩, -, X6, ⟨Lc6, hQ6, l6, y6, z6⟩, st6⟩ := X5.virtualBack hx (y := (⟨"com/example/fenceline/fenceline/Digraph", "addEdge", "(II)V"⟩ : MethodName)) (z := (⟨"com/example/fenceline/fenceline/Digraph", "addEdge", "(II)V"⟩ : MethodName)) hown (mvT hZ (hw _ (List.mem_of_getElem? (i := 31) rfl))) (mvT hZ (hw _ (List.mem_of_getElem? (i := 32) rfl))) (notFace_of_selects (args := #[]) (mvT hZ (hw _ (List.mem_of_getElem? (i := 34) rfl)))) (mvT hZ (hw _ (List.mem_of_getElem? (i := 34) rfl))) (mvT hZ (hw _ (List.mem_of_getElem? (i := 33) rfl))) (by decide) (backOf (W := 0) (rm6n l Z a0 hw [] b3 va1 vb1 b04 b14 b24 b34 k04 k14 k24 k34 Sv5 T5.heap n0 (Nat.le_trans Z0 K5.1) ⟨D5_0, D5_1, D5_2, D5_3, D5_4, D5_5, D5_6, D5_7, D5_8, D5_9, D5_10, D5_11⟩ nn4_0 nn4_1 nn4_2 nn4_3 nn4_4 nn4_5 nn4_6 nn4_7 nn4_8 nn4_9 g_b3 gg4_0 gg4_1 gg4_2 gg4_3 (by rw [hS5]; exact hkn.2.1)) hZ (hw _ (List.mem_of_getElem? (i := 35) rfl)) (hw _ (List.mem_of_getElem? (i := 2) rfl)) (by decide) (by decide)) q6a q6c (g := (mkF m 116 #[.val (.int p1), .val (.int p2), .val (.int p3), .val (.int (0 : Int32)), .val (.int va0), .val (.int va1), .val (.int va2), .val (.int vb0), .val (.int vb1), .val (.int vb2), .val (.ref b3), .unset] [(.int vb1), (.int va1), (.ref b3)])) rfl (by rw [hml]; rfl) (Steps.refl _) (argsL := [(.int va1), (.int vb1)]) (rest := []) (lenOf pd_3 rfl) rfl (by show 2 * 0 + _ ≤ _; exact Nat.le_of_eq rfl) (hb hby at_116) (fun _ _ => ⟨rfl, rfl, (by decide : 5 + 0 ≤ _), (by decide : 58 + 0 ≤ _)⟩)
    dsimp only [Pt.U, Pt.locs, Pt.cells, Pt.slots] at X6 l6 y6 z6 st6 hQ6
    subst l6 y6 z6
    obtain ⟨rfl, Nq6, Kc6, Sv6, hS6, DS6⟩ := hQ6
    have N6 := Fr.app N5 Nq6
    refine own_via (fun t k => st6.trans k) ?_
    show own_G p.tables e below _ (T6.setTop (mkF m 119 #[.val (.int p1), .val (.int p2), .val (.int p3), .val (.int (0 : Int32)), .val (.int va0), .val (.int va1), .val (.int va2), .val (.int vb0), .val (.int vb1), .val (.int vb2), .val (.ref b3), .unset] []))
    have K6 : Keep h0 T6.heap [] := Keep.trans K5 Kc6 (allS (Or.inr sz_b3) (allS (Or.inr sz4_0) (allS (Or.inr sz4_1) (allS (Or.inr sz4_2) (allS (Or.inr sz4_3) all0)))))
    obtain ⟨D6_0, D6_1, D6_2, D6_3, D6_4, D6_5, D6_6, D6_7, D6_8, D6_9, D6_10, D6_11⟩ := id DS6
    refine own_via (S' := T6.setTop (mkF m 125 #[.val (.int p1), .val (.int p2), .val (.int p3), .val (.int (0 : Int32)), .val (.int va0), .val (.int va1), .val (.int va2), .val (.int vb0), .val (.int vb1), .val (.int vb2), .val (.ref b3), .unset] [(.int vb2), (.int va2), (.ref b3)])) (fun t k => ?_) ?_
    · show Steps p.tables e below (T6.setTop (mkF m 119 #[.val (.int p1), .val (.int p2), .val (.int p3), .val (.int (0 : Int32)), .val (.int va0), .val (.int va1), .val (.int va2), .val (.int vb0), .val (.int vb1), .val (.int vb2), .val (.ref b3), .unset] [])) t
      refine XS.aload X6.here hx rfl (hb hby at_119) rfl rfl ?_
      show Steps p.tables e below (T6.setTop (mkF m 121 #[.val (.int p1), .val (.int p2), .val (.int p3), .val (.int (0 : Int32)), .val (.int va0), .val (.int va1), .val (.int va2), .val (.int vb0), .val (.int vb1), .val (.int vb2), .val (.ref b3), .unset] [(.ref b3)])) t
      refine XS.iload X6.here hx rfl (hb hby at_121) rfl ?_
      show Steps p.tables e below (T6.setTop (mkF m 123 #[.val (.int p1), .val (.int p2), .val (.int p3), .val (.int (0 : Int32)), .val (.int va0), .val (.int va1), .val (.int va2), .val (.int vb0), .val (.int vb1), .val (.int vb2), .val (.ref b3), .unset] [(.int va2), (.ref b3)])) t
      refine XS.iload X6.here hx rfl (hb hby at_123) rfl ?_
      exact k
    obtain ⟨cq7, kq7, q7a, q7b, q7c⟩ := isOf hZ rfl D6_0
    obtain ⟨_, _, ⟨T7, L7, k7, n7⟩, -, X7, ⟨Lc7, hQ7, l7, y7, z7⟩, st7⟩ := X6.virtualBack hx (y := (⟨"com/example/fenceline/fenceline/Digraph", "addEdge", "(II)V"⟩ : MethodName)) (z := (⟨"com/example/fenceline/fenceline/Digraph", "addEdge", "(II)V"⟩ : MethodName)) hown (mvT hZ (hw _ (List.mem_of_getElem? (i := 31) rfl))) (mvT hZ (hw _ (List.mem_of_getElem? (i := 32) rfl))) (notFace_of_selects (args := #[]) (mvT hZ (hw _ (List.mem_of_getElem? (i := 34) rfl)))) (mvT hZ (hw _ (List.mem_of_getElem? (i := 34) rfl))) (mvT hZ (hw _ (List.mem_of_getElem? (i := 33) rfl))) (by decide) (backOf (W := 0) (rm6n l Z a0 hw [] b3 va2 vb2 b04 b14 b24 b34 k04 k14 k24 k34 Sv6 T6.heap n0 (Nat.le_trans Z0 K6.1) ⟨D6_0, D6_1, D6_2, D6_3, D6_4, D6_5, D6_6, D6_7, D6_8, D6_9, D6_10, D6_11⟩ nn4_0 nn4_1 nn4_2 nn4_3 nn4_4 nn4_5 nn4_6 nn4_7 nn4_8 nn4_9 g_b3 gg4_0 gg4_1 gg4_2 gg4_3 (by rw [hS6, hS5]; exact hkn.2.2.1)) hZ (hw _ (List.mem_of_getElem? (i := 35) rfl)) (hw _ (List.mem_of_getElem? (i := 2) rfl)) (by decide) (by decide)) q7a q7c (g := (mkF m 125 #[.val (.int p1), .val (.int p2), .val (.int p3), .val (.int (0 : Int32)), .val (.int va0), .val (.int va1), .val (.int va2), .val (.int vb0), .val (.int vb1), .val (.int vb2), .val (.ref b3), .unset] [(.int vb2), (.int va2), (.ref b3)])) rfl (by rw [hml]; rfl) (Steps.refl _) (argsL := [(.int va2), (.int vb2)]) (rest := []) (lenOf pd_3 rfl) rfl (by show 2 * 0 + _ ≤ _; exact Nat.le_of_eq rfl) (hb hby at_125) (fun _ _ => ⟨rfl, rfl, (by decide : 5 + 0 ≤ _), (by decide : 58 + 0 ≤ _)⟩)
    dsimp only [Pt.U, Pt.locs, Pt.cells, Pt.slots] at X7 l7 y7 z7 st7 hQ7
    subst l7 y7 z7
    obtain ⟨rfl, Nq7, Kc7, Sv7, hS7, DS7⟩ := hQ7
    have N7 := Fr.app N6 Nq7
    refine own_via (fun t k => st7.trans k) ?_
    show own_G p.tables e below _ (T7.setTop (mkF m 128 #[.val (.int p1), .val (.int p2), .val (.int p3), .val (.int (0 : Int32)), .val (.int va0), .val (.int va1), .val (.int va2), .val (.int vb0), .val (.int vb1), .val (.int vb2), .val (.ref b3), .unset] []))
    have K7 : Keep h0 T7.heap [] := Keep.trans K6 Kc7 (allS (Or.inr sz_b3) (allS (Or.inr sz4_0) (allS (Or.inr sz4_1) (allS (Or.inr sz4_2) (allS (Or.inr sz4_3) all0)))))
    obtain ⟨D7_0, D7_1, D7_2, D7_3, D7_4, D7_5, D7_6, D7_7, D7_8, D7_9, D7_10, D7_11⟩ := id DS7
    refine own_via (S' := T7.setTop (mkF m 130 #[.val (.int p1), .val (.int p2), .val (.int p3), .val (.int (0 : Int32)), .val (.int va0), .val (.int va1), .val (.int va2), .val (.int vb0), .val (.int vb1), .val (.int vb2), .val (.ref b3), .unset] [(.ref b3)])) (fun t k => ?_) ?_
    · show Steps p.tables e below (T7.setTop (mkF m 128 #[.val (.int p1), .val (.int p2), .val (.int p3), .val (.int (0 : Int32)), .val (.int va0), .val (.int va1), .val (.int va2), .val (.int vb0), .val (.int vb1), .val (.int vb2), .val (.ref b3), .unset] [])) t
      refine XS.aload X7.here hx rfl (hb hby at_128) rfl rfl ?_
      exact k
    obtain ⟨cq8, kq8, q8a, q8b, q8c⟩ := isOf hZ rfl D7_0
    obtain ⟨_, _, ⟨T8, L8, k8, n8⟩, -, X8, ⟨Lc8, hQ8, l8, y8, z8⟩, st8⟩ := X7.virtualBack hx (y := (⟨"com/example/fenceline/fenceline/Digraph", "removeLastEdge", "()V"⟩ : MethodName)) (z := (⟨"com/example/fenceline/fenceline/Digraph", "removeLastEdge", "()V"⟩ : MethodName)) hown (mvT hZ (hw _ (List.mem_of_getElem? (i := 40) rfl))) (mvT hZ (hw _ (List.mem_of_getElem? (i := 41) rfl))) (notFace_of_selects (args := #[]) (mvT hZ (hw _ (List.mem_of_getElem? (i := 43) rfl)))) (mvT hZ (hw _ (List.mem_of_getElem? (i := 43) rfl))) (mvT hZ (hw _ (List.mem_of_getElem? (i := 42) rfl))) (by decide) (backOf (W := 0) (rm7n l Z a0 hw [] b3 b04 b14 b24 b34 k04 k14 k24 k34 Sv7 T7.heap n0 (Nat.le_trans Z0 K7.1) ⟨D7_0, D7_1, D7_2, D7_3, D7_4, D7_5, D7_6, D7_7, D7_8, D7_9, D7_10, D7_11⟩ nn4_0 nn4_1 nn4_2 nn4_3 nn4_4 nn4_5 nn4_6 nn4_7 nn4_8 nn4_9 g_b3 gg4_0 gg4_1 gg4_2 gg4_3 (by rw [hS7, hS6, hS5]; exact hkn.2.2.2.1)) hZ (hw _ (List.mem_of_getElem? (i := 44) rfl)) (hw _ (List.mem_of_getElem? (i := 2) rfl)) (by decide) (by decide)) q8a q8c (g := (mkF m 130 #[.val (.int p1), .val (.int p2), .val (.int p3), .val (.int (0 : Int32)), .val (.int va0), .val (.int va1), .val (.int va2), .val (.int vb0), .val (.int vb1), .val (.int vb2), .val (.ref b3), .unset] [(.ref b3)])) rfl (by rw [hml]; rfl) (Steps.refl _) (argsL := []) (rest := []) (lenOf pd_4 rfl) rfl (by show 2 * 0 + _ ≤ _; exact Nat.le_of_eq rfl) (hb hby at_130) (fun _ _ => ⟨rfl, rfl, (by decide : 5 + 0 ≤ _), (by decide : 58 + 0 ≤ _)⟩)
    dsimp only [Pt.U, Pt.locs, Pt.cells, Pt.slots] at X8 l8 y8 z8 st8 hQ8
    subst l8 y8 z8
    obtain ⟨rfl, Nq8, Kc8, Sv8, hS8, DS8⟩ := hQ8
    have N8 := Fr.app N7 Nq8
    refine own_via (fun t k => st8.trans k) ?_
    show own_G p.tables e below _ (T8.setTop (mkF m 133 #[.val (.int p1), .val (.int p2), .val (.int p3), .val (.int (0 : Int32)), .val (.int va0), .val (.int va1), .val (.int va2), .val (.int vb0), .val (.int vb1), .val (.int vb2), .val (.ref b3), .unset] []))
    have K8 : Keep h0 T8.heap [] := Keep.trans K7 Kc8 (allS (Or.inr sz_b3) (allS (Or.inr sz4_0) (allS (Or.inr sz4_1) (allS (Or.inr sz4_2) (allS (Or.inr sz4_3) all0)))))
    obtain ⟨D8_0, D8_1, D8_2, D8_3, D8_4, D8_5, D8_6, D8_7, D8_8, D8_9, D8_10, D8_11⟩ := id DS8
    refine own_via (S' := T8.setTop (mkF m 135 #[.val (.int p1), .val (.int p2), .val (.int p3), .val (.int (0 : Int32)), .val (.int va0), .val (.int va1), .val (.int va2), .val (.int vb0), .val (.int vb1), .val (.int vb2), .val (.ref b3), .unset] [(.ref b3)])) (fun t k => ?_) ?_
    · show Steps p.tables e below (T8.setTop (mkF m 133 #[.val (.int p1), .val (.int p2), .val (.int p3), .val (.int (0 : Int32)), .val (.int va0), .val (.int va1), .val (.int va2), .val (.int vb0), .val (.int vb1), .val (.int vb2), .val (.ref b3), .unset] [])) t
      refine XS.aload X8.here hx rfl (hb hby at_133) rfl rfl ?_
      exact k
    obtain ⟨cq9, kq9, q9a, q9b, q9c⟩ := isOf hZ rfl D8_0
    obtain ⟨_, _, ⟨T9, L9, k9, n9⟩, -, X9, ⟨Lc9, hQ9, l9, y9, z9⟩, st9⟩ := X8.virtualBack hx (y := (⟨"com/example/fenceline/fenceline/Digraph", "edgeCount", "()I"⟩ : MethodName)) (z := (⟨"com/example/fenceline/fenceline/Digraph", "edgeCount", "()I"⟩ : MethodName)) hown (mvT hZ (hw _ (List.mem_of_getElem? (i := 45) rfl))) (mvT hZ (hw _ (List.mem_of_getElem? (i := 46) rfl))) (notFace_of_selects (args := #[]) (mvT hZ (hw _ (List.mem_of_getElem? (i := 48) rfl)))) (mvT hZ (hw _ (List.mem_of_getElem? (i := 48) rfl))) (mvT hZ (hw _ (List.mem_of_getElem? (i := 47) rfl))) (by decide) (backOf (W := 0) (rm8 l Z a0 hw [] b3 Sv8.2.2.2.2 T8.heap n0 (Nat.le_trans Z0 K8.1) D8_5) hZ (hw _ (List.mem_of_getElem? (i := 49) rfl)) (hw _ (List.mem_of_getElem? (i := 2) rfl)) (by decide) (by decide)) q9a q9c (g := (mkF m 135 #[.val (.int p1), .val (.int p2), .val (.int p3), .val (.int (0 : Int32)), .val (.int va0), .val (.int va1), .val (.int va2), .val (.int vb0), .val (.int vb1), .val (.int vb2), .val (.ref b3), .unset] [(.ref b3)])) rfl (by rw [hml]; rfl) (Steps.refl _) (argsL := []) (rest := []) (lenOf pd_5 rfl) rfl (by show 2 * 0 + _ ≤ _; exact Nat.le_of_eq rfl) (hb hby at_135) (fun _ _ => ⟨rfl, rfl, (by decide : 5 + 0 ≤ _), (by decide : 58 + 0 ≤ _)⟩)
    dsimp only [Pt.U, Pt.locs, Pt.cells, Pt.slots] at X9 l9 y9 z9 st9 hQ9
    subst l9 y9 z9
    obtain ⟨rfl, Nq9, hh9⟩ := hQ9
    have N9 := Fr.app N8 Nq9
    refine own_via (fun t k => st9.trans k) ?_
    show own_G p.tables e below _ (T9.setTop (mkF m 138 #[.val (.int p1), .val (.int p2), .val (.int p3), .val (.int (0 : Int32)), .val (.int va0), .val (.int va1), .val (.int va2), .val (.int vb0), .val (.int vb1), .val (.int vb2), .val (.ref b3), .unset] [(.int Sv8.2.2.2.2)]))
    refine own_via (S' := T9.setTop (mkF m 139 #[.val (.int p1), .val (.int p2), .val (.int p3), .val (.int (0 : Int32)), .val (.int va0), .val (.int va1), .val (.int va2), .val (.int vb0), .val (.int vb1), .val (.int vb2), .val (.ref b3), .unset] [(.int (2 : Int32)), (.int Sv8.2.2.2.2)])) (fun t k => ?_) ?_
    · show Steps p.tables e below (T9.setTop (mkF m 138 #[.val (.int p1), .val (.int p2), .val (.int p3), .val (.int (0 : Int32)), .val (.int va0), .val (.int va1), .val (.int va2), .val (.int vb0), .val (.int vb1), .val (.int vb2), .val (.ref b3), .unset] [(.int Sv8.2.2.2.2)])) t
      refine XS.iconst X9.here hx rfl (hb hby at_138) ?_
      exact k
    refine own_via (S' := T9.setTop (mkF m 142 #[.val (.int p1), .val (.int p2), .val (.int p3), .val (.int (0 : Int32)), .val (.int va0), .val (.int va1), .val (.int va2), .val (.int vb0), .val (.int vb1), .val (.int vb2), .val (.ref b3), .unset] [])) (fun t k => XS.icmpNo (g := (mkF m 139 #[.val (.int p1), .val (.int p2), .val (.int p3), .val (.int (0 : Int32)), .val (.int va0), .val (.int va1), .val (.int va2), .val (.int vb0), .val (.int vb1), .val (.int vb2), .val (.ref b3), .unset] [(.int (2 : Int32)), (.int Sv8.2.2.2.2)])) X9.here hx rfl (hb hby at_139) rfl (teq (by rw [hS8, hS7, hS6, hS5]; exact hkn.2.2.2.2.1)).2 k) ?_
    refine own_via (S' := T9.setTop (mkF m 151 #[.val (.int p1), .val (.int p2), .val (.int p3), .val (.int (0 : Int32)), .val (.int va0), .val (.int va1), .val (.int va2), .val (.int vb0), .val (.int vb1), .val (.int vb2), .val (.ref b3), .val (.int (1 : Int32))] [(.int (1 : Int32))])) (fun t k => ?_) ?_
    · show Steps p.tables e below (T9.setTop (mkF m 142 #[.val (.int p1), .val (.int p2), .val (.int p3), .val (.int (0 : Int32)), .val (.int va0), .val (.int va1), .val (.int va2), .val (.int vb0), .val (.int vb1), .val (.int vb2), .val (.ref b3), .unset] [])) t
      refine XS.iconst X9.here hx rfl (hb hby at_142) ?_
      show Steps p.tables e below (T9.setTop (mkF m 143 #[.val (.int p1), .val (.int p2), .val (.int p3), .val (.int (0 : Int32)), .val (.int va0), .val (.int va1), .val (.int va2), .val (.int vb0), .val (.int vb1), .val (.int vb2), .val (.ref b3), .unset] [(.int (1 : Int32))])) t
      refine XS.goto X9.here hx rfl (pc0 := 143) (pc' := 147) rfl (hb hby at_143) (by decide) (by decide) ?_
      show Steps p.tables e below (T9.setTop (mkF m 147 #[.val (.int p1), .val (.int p2), .val (.int p3), .val (.int (0 : Int32)), .val (.int va0), .val (.int va1), .val (.int va2), .val (.int vb0), .val (.int vb1), .val (.int vb2), .val (.ref b3), .unset] [(.int (1 : Int32))])) t
      refine XS.istore X9.here hx rfl (hb hby at_147) rfl (l' := #[.val (.int p1), .val (.int p2), .val (.int p3), .val (.int (0 : Int32)), .val (.int va0), .val (.int va1), .val (.int va2), .val (.int vb0), .val (.int vb1), .val (.int vb2), .val (.ref b3), .val (.int (1 : Int32))]) rfl ?_
      show Steps p.tables e below (T9.setTop (mkF m 149 #[.val (.int p1), .val (.int p2), .val (.int p3), .val (.int (0 : Int32)), .val (.int va0), .val (.int va1), .val (.int va2), .val (.int vb0), .val (.int vb1), .val (.int vb2), .val (.ref b3), .val (.int (1 : Int32))] [])) t
      refine XS.iload X9.here hx rfl (hb hby at_149) rfl ?_
      exact k
    refine own_via (S' := T9.setTop (mkF m 154 #[.val (.int p1), .val (.int p2), .val (.int p3), .val (.int (0 : Int32)), .val (.int va0), .val (.int va1), .val (.int va2), .val (.int vb0), .val (.int vb1), .val (.int vb2), .val (.ref b3), .val (.int (1 : Int32))] [])) (fun t k => XS.ifNo (g := (mkF m 151 #[.val (.int p1), .val (.int p2), .val (.int p3), .val (.int (0 : Int32)), .val (.int va0), .val (.int va1), .val (.int va2), .val (.int vb0), .val (.int vb1), .val (.int vb2), .val (.ref b3), .val (.int (1 : Int32))] [(.int (1 : Int32))])) X9.here hx rfl (hb hby at_151) rfl ((if0 _ _).trans (feq (by decide : ¬ ((1 : Int32) = (0 : Int32)))).1) k) ?_
    refine own_via (S' := T9.setTop (mkF m 157 #[.val (.int p1), .val (.int p2), .val (.int p3), .val (.int (0 : Int32)), .val (.int va0), .val (.int va1), .val (.int va2), .val (.int vb0), .val (.int vb1), .val (.int vb2), .val (.ref b3), .val (.int (1 : Int32))] [(.int (0 : Int32)), (.ref b3)])) (fun t k => ?_) ?_
    · show Steps p.tables e below (T9.setTop (mkF m 154 #[.val (.int p1), .val (.int p2), .val (.int p3), .val (.int (0 : Int32)), .val (.int va0), .val (.int va1), .val (.int va2), .val (.int vb0), .val (.int vb1), .val (.int vb2), .val (.ref b3), .val (.int (1 : Int32))] [])) t
      refine XS.aload X9.here hx rfl (hb hby at_154) rfl rfl ?_
      show Steps p.tables e below (T9.setTop (mkF m 156 #[.val (.int p1), .val (.int p2), .val (.int p3), .val (.int (0 : Int32)), .val (.int va0), .val (.int va1), .val (.int va2), .val (.int vb0), .val (.int vb1), .val (.int vb2), .val (.ref b3), .val (.int (1 : Int32))] [(.ref b3)])) t
      refine XS.iconst X9.here hx rfl (hb hby at_156) ?_
      exact k
    obtain ⟨cq12, kq12, q12a, q12b, q12c⟩ := isOf hZ hh9 D8_0
    obtain ⟨_, _, ⟨T12, L12, k12, n12⟩, -, X12, ⟨Lc12, hQ12, l12, y12, z12⟩, st12⟩ := X9.virtualBack hx (y := (⟨"com/example/fenceline/fenceline/Digraph", "firstEdge", "(I)I"⟩ : MethodName)) (z := (⟨"com/example/fenceline/fenceline/Digraph", "firstEdge", "(I)I"⟩ : MethodName)) hown (mvT hZ (hw _ (List.mem_of_getElem? (i := 50) rfl))) (mvT hZ (hw _ (List.mem_of_getElem? (i := 51) rfl))) (notFace_of_selects (args := #[]) (mvT hZ (hw _ (List.mem_of_getElem? (i := 53) rfl)))) (mvT hZ (hw _ (List.mem_of_getElem? (i := 53) rfl))) (mvT hZ (hw _ (List.mem_of_getElem? (i := 52) rfl))) (by decide) (backOf (W := 0) (rm9 l Z a0 hw [] b3 (0 : Int32) b04 k04 Sv8.1 T8.heap n0 (Nat.le_trans Z0 K8.1) D8_1 D8_8 ⟨by decide, by decide⟩) hZ (hw _ (List.mem_of_getElem? (i := 54) rfl)) (hw _ (List.mem_of_getElem? (i := 2) rfl)) (by decide) (by decide)) q12a q12c (g := (mkF m 157 #[.val (.int p1), .val (.int p2), .val (.int p3), .val (.int (0 : Int32)), .val (.int va0), .val (.int va1), .val (.int va2), .val (.int vb0), .val (.int vb1), .val (.int vb2), .val (.ref b3), .val (.int (1 : Int32))] [(.int (0 : Int32)), (.ref b3)])) rfl (by rw [hml]; rfl) (Steps.refl _) (argsL := [(.int (0 : Int32))]) (rest := []) (lenOf pd_6 rfl) rfl (by show 2 * 0 + _ ≤ _; exact Nat.le_of_eq rfl) (hb hby at_157) (fun _ _ => ⟨rfl, hh9, (by decide : 5 + 0 ≤ _), (by decide : 58 + 0 ≤ _)⟩)
    dsimp only [Pt.U, Pt.locs, Pt.cells, Pt.slots] at X12 l12 y12 z12 st12 hQ12
    subst l12 y12 z12
    obtain ⟨rfl, Nq12, hh12⟩ := hQ12
    have N12 := Fr.app N9 Nq12
    refine own_via (fun t k => st12.trans k) ?_
    show own_G p.tables e below _ (T12.setTop (mkF m 160 #[.val (.int p1), .val (.int p2), .val (.int p3), .val (.int (0 : Int32)), .val (.int va0), .val (.int va1), .val (.int va2), .val (.int vb0), .val (.int vb1), .val (.int vb2), .val (.ref b3), .val (.int (1 : Int32))] [(.int (Sv8.1.getD ((0 : Int32)).toNatClampNeg 0))]))
    refine own_via (S' := T12.setTop (mkF m 165 #[.val (.int p1), .val (.int p2), .val (.int p3), .val (.int (0 : Int32)), .val (.int va0), .val (.int va1), .val (.int va2), .val (.int vb0), .val (.int vb1), .val (.int vb2), .val (.ref b3), .val (.int (1 : Int32))] [(.int va1), (.int va0), (.int (0 : Int32)), (.int (Sv8.1.getD ((0 : Int32)).toNatClampNeg 0))])) (fun t k => ?_) ?_
    · show Steps p.tables e below (T12.setTop (mkF m 160 #[.val (.int p1), .val (.int p2), .val (.int p3), .val (.int (0 : Int32)), .val (.int va0), .val (.int va1), .val (.int va2), .val (.int vb0), .val (.int vb1), .val (.int vb2), .val (.ref b3), .val (.int (1 : Int32))] [(.int (Sv8.1.getD ((0 : Int32)).toNatClampNeg 0))])) t
      refine XS.iconst X12.here hx rfl (hb hby at_160) ?_
      show Steps p.tables e below (T12.setTop (mkF m 161 #[.val (.int p1), .val (.int p2), .val (.int p3), .val (.int (0 : Int32)), .val (.int va0), .val (.int va1), .val (.int va2), .val (.int vb0), .val (.int vb1), .val (.int vb2), .val (.ref b3), .val (.int (1 : Int32))] [(.int (0 : Int32)), (.int (Sv8.1.getD ((0 : Int32)).toNatClampNeg 0))])) t
      refine XS.iload X12.here hx rfl (hb hby at_161) rfl ?_
      show Steps p.tables e below (T12.setTop (mkF m 163 #[.val (.int p1), .val (.int p2), .val (.int p3), .val (.int (0 : Int32)), .val (.int va0), .val (.int va1), .val (.int va2), .val (.int vb0), .val (.int vb1), .val (.int vb2), .val (.ref b3), .val (.int (1 : Int32))] [(.int va0), (.int (0 : Int32)), (.int (Sv8.1.getD ((0 : Int32)).toNatClampNeg 0))])) t
      refine XS.iload X12.here hx rfl (hb hby at_163) rfl ?_
      exact k
    obtain ⟨_, _, ⟨T13, L13, k13, n13⟩, -, X13, ⟨Lc13, hQ13, l13, y13, z13⟩, st13⟩ := Jvm.LawKit.callS X12 hx (y := (⟨"com/example/fenceline/fenceline/DigraphRemoveLastEdgePinLaw", "expect", "(III)I"⟩ : MethodName)) hown (mvT hZ (hw _ (List.mem_of_getElem? (i := 55) rfl))) (mvT hZ (hw _ (List.mem_of_getElem? (i := 56) rfl))) (mvT hZ (hw _ (List.mem_of_getElem? (i := 57) rfl))) (mvT hZ (hw _ (List.mem_of_getElem? (i := 58) rfl))) (by decide) (backOf (W := 1) (rm10 l Z a0 hw [] (0 : Int32) va0 va1 T8.heap n0 (Nat.le_trans Z0 K8.1)) hZ (hw _ (List.mem_of_getElem? (i := 58) rfl)) (hw _ (List.mem_of_getElem? (i := 57) rfl)) (by decide) (by decide)) (g := (mkF m 165 #[.val (.int p1), .val (.int p2), .val (.int p3), .val (.int (0 : Int32)), .val (.int va0), .val (.int va1), .val (.int va2), .val (.int vb0), .val (.int vb1), .val (.int vb2), .val (.ref b3), .val (.int (1 : Int32))] [(.int va1), (.int va0), (.int (0 : Int32)), (.int (Sv8.1.getD ((0 : Int32)).toNatClampNeg 0))])) rfl (by rw [hml]; rfl) (argsL := [(.int (0 : Int32)), (.int va0), (.int va1)]) (rest := [(.int (Sv8.1.getD ((0 : Int32)).toNatClampNeg 0))]) (lenOf pd_7 rfl) rfl (by show 2 * 0 + _ ≤ _; exact Nat.le_of_eq rfl) (hb hby at_165) (fun _ _ => ⟨rfl, hh12, (by decide : 5 + 0 ≤ _), (by decide : 58 + 0 ≤ _)⟩)
    dsimp only [Pt.U, Pt.locs, Pt.cells, Pt.slots] at X13 l13 y13 z13 st13 hQ13
    subst l13 y13 z13
    obtain ⟨rfl, Nq13, hh13⟩ := hQ13
    have N13 := Fr.app N12 Nq13
    refine own_via st13 ?_
    show own_G p.tables e below _ (T13.setTop (mkF m 168 #[.val (.int p1), .val (.int p2), .val (.int p3), .val (.int (0 : Int32)), .val (.int va0), .val (.int va1), .val (.int va2), .val (.int vb0), .val (.int vb1), .val (.int vb2), .val (.ref b3), .val (.int (1 : Int32))] [(.int (own_ex (0 : Int32) va0 va1)), (.int (Sv8.1.getD ((0 : Int32)).toNatClampNeg 0))]))
    refine own_via (S' := T13.setTop (mkF m 171 #[.val (.int p1), .val (.int p2), .val (.int p3), .val (.int (0 : Int32)), .val (.int va0), .val (.int va1), .val (.int va2), .val (.int vb0), .val (.int vb1), .val (.int vb2), .val (.ref b3), .val (.int (1 : Int32))] [])) (fun t k => XS.icmpNo (g := (mkF m 168 #[.val (.int p1), .val (.int p2), .val (.int p3), .val (.int (0 : Int32)), .val (.int va0), .val (.int va1), .val (.int va2), .val (.int vb0), .val (.int vb1), .val (.int vb2), .val (.ref b3), .val (.int (1 : Int32))] [(.int (own_ex (0 : Int32) va0 va1)), (.int (Sv8.1.getD ((0 : Int32)).toNatClampNeg 0))])) X13.here hx rfl (hb hby at_168) rfl (teq (by rw [hS8, hS7, hS6, hS5]; exact hkn.2.2.2.2.2 0 (by decide))).2 k) ?_
    refine own_via (S' := T13.setTop (mkF m 180 #[.val (.int p1), .val (.int p2), .val (.int p3), .val (.int (0 : Int32)), .val (.int va0), .val (.int va1), .val (.int va2), .val (.int vb0), .val (.int vb1), .val (.int vb2), .val (.ref b3), .val (.int (1 : Int32))] [(.int (1 : Int32))])) (fun t k => ?_) ?_
    · show Steps p.tables e below (T13.setTop (mkF m 171 #[.val (.int p1), .val (.int p2), .val (.int p3), .val (.int (0 : Int32)), .val (.int va0), .val (.int va1), .val (.int va2), .val (.int vb0), .val (.int vb1), .val (.int vb2), .val (.ref b3), .val (.int (1 : Int32))] [])) t
      refine XS.iconst X13.here hx rfl (hb hby at_171) ?_
      show Steps p.tables e below (T13.setTop (mkF m 172 #[.val (.int p1), .val (.int p2), .val (.int p3), .val (.int (0 : Int32)), .val (.int va0), .val (.int va1), .val (.int va2), .val (.int vb0), .val (.int vb1), .val (.int vb2), .val (.ref b3), .val (.int (1 : Int32))] [(.int (1 : Int32))])) t
      refine XS.goto X13.here hx rfl (pc0 := 172) (pc' := 176) rfl (hb hby at_172) (by decide) (by decide) ?_
      show Steps p.tables e below (T13.setTop (mkF m 176 #[.val (.int p1), .val (.int p2), .val (.int p3), .val (.int (0 : Int32)), .val (.int va0), .val (.int va1), .val (.int va2), .val (.int vb0), .val (.int vb1), .val (.int vb2), .val (.ref b3), .val (.int (1 : Int32))] [(.int (1 : Int32))])) t
      refine XS.istore X13.here hx rfl (hb hby at_176) rfl (l' := #[.val (.int p1), .val (.int p2), .val (.int p3), .val (.int (0 : Int32)), .val (.int va0), .val (.int va1), .val (.int va2), .val (.int vb0), .val (.int vb1), .val (.int vb2), .val (.ref b3), .val (.int (1 : Int32))]) rfl ?_
      show Steps p.tables e below (T13.setTop (mkF m 178 #[.val (.int p1), .val (.int p2), .val (.int p3), .val (.int (0 : Int32)), .val (.int va0), .val (.int va1), .val (.int va2), .val (.int vb0), .val (.int vb1), .val (.int vb2), .val (.ref b3), .val (.int (1 : Int32))] [])) t
      refine XS.iload X13.here hx rfl (hb hby at_178) rfl ?_
      exact k
    refine own_via (S' := T13.setTop (mkF m 183 #[.val (.int p1), .val (.int p2), .val (.int p3), .val (.int (0 : Int32)), .val (.int va0), .val (.int va1), .val (.int va2), .val (.int vb0), .val (.int vb1), .val (.int vb2), .val (.ref b3), .val (.int (1 : Int32))] [])) (fun t k => XS.ifNo (g := (mkF m 180 #[.val (.int p1), .val (.int p2), .val (.int p3), .val (.int (0 : Int32)), .val (.int va0), .val (.int va1), .val (.int va2), .val (.int vb0), .val (.int vb1), .val (.int vb2), .val (.ref b3), .val (.int (1 : Int32))] [(.int (1 : Int32))])) X13.here hx rfl (hb hby at_180) rfl ((if0 _ _).trans (feq (by decide : ¬ ((1 : Int32) = (0 : Int32)))).1) k) ?_
    refine own_via (S' := T13.setTop (mkF m 186 #[.val (.int p1), .val (.int p2), .val (.int p3), .val (.int (0 : Int32)), .val (.int va0), .val (.int va1), .val (.int va2), .val (.int vb0), .val (.int vb1), .val (.int vb2), .val (.ref b3), .val (.int (1 : Int32))] [(.int (1 : Int32)), (.ref b3)])) (fun t k => ?_) ?_
    · show Steps p.tables e below (T13.setTop (mkF m 183 #[.val (.int p1), .val (.int p2), .val (.int p3), .val (.int (0 : Int32)), .val (.int va0), .val (.int va1), .val (.int va2), .val (.int vb0), .val (.int vb1), .val (.int vb2), .val (.ref b3), .val (.int (1 : Int32))] [])) t
      refine XS.aload X13.here hx rfl (hb hby at_183) rfl rfl ?_
      show Steps p.tables e below (T13.setTop (mkF m 185 #[.val (.int p1), .val (.int p2), .val (.int p3), .val (.int (0 : Int32)), .val (.int va0), .val (.int va1), .val (.int va2), .val (.int vb0), .val (.int vb1), .val (.int vb2), .val (.ref b3), .val (.int (1 : Int32))] [(.ref b3)])) t
      refine XS.iconst X13.here hx rfl (hb hby at_185) ?_
      exact k
    obtain ⟨cq16, kq16, q16a, q16b, q16c⟩ := isOf hZ hh13 D8_0
    obtain ⟨_, _, ⟨T16, L16, k16, n16⟩, -, X16, ⟨Lc16, hQ16, l16, y16, z16⟩, st16⟩ := X13.virtualBack hx (y := (⟨"com/example/fenceline/fenceline/Digraph", "firstEdge", "(I)I"⟩ : MethodName)) (z := (⟨"com/example/fenceline/fenceline/Digraph", "firstEdge", "(I)I"⟩ : MethodName)) hown (mvT hZ (hw _ (List.mem_of_getElem? (i := 50) rfl))) (mvT hZ (hw _ (List.mem_of_getElem? (i := 51) rfl))) (notFace_of_selects (args := #[]) (mvT hZ (hw _ (List.mem_of_getElem? (i := 53) rfl)))) (mvT hZ (hw _ (List.mem_of_getElem? (i := 53) rfl))) (mvT hZ (hw _ (List.mem_of_getElem? (i := 52) rfl))) (by decide) (backOf (W := 0) (rm9 l Z a0 hw [] b3 (1 : Int32) b04 k04 Sv8.1 T8.heap n0 (Nat.le_trans Z0 K8.1) D8_1 D8_8 ⟨by decide, by decide⟩) hZ (hw _ (List.mem_of_getElem? (i := 54) rfl)) (hw _ (List.mem_of_getElem? (i := 2) rfl)) (by decide) (by decide)) q16a q16c (g := (mkF m 186 #[.val (.int p1), .val (.int p2), .val (.int p3), .val (.int (0 : Int32)), .val (.int va0), .val (.int va1), .val (.int va2), .val (.int vb0), .val (.int vb1), .val (.int vb2), .val (.ref b3), .val (.int (1 : Int32))] [(.int (1 : Int32)), (.ref b3)])) rfl (by rw [hml]; rfl) (Steps.refl _) (argsL := [(.int (1 : Int32))]) (rest := []) (lenOf pd_6 rfl) rfl (by show 2 * 0 + _ ≤ _; exact Nat.le_of_eq rfl) (hb hby at_186) (fun _ _ => ⟨rfl, hh13, (by decide : 5 + 0 ≤ _), (by decide : 58 + 0 ≤ _)⟩)
    dsimp only [Pt.U, Pt.locs, Pt.cells, Pt.slots] at X16 l16 y16 z16 st16 hQ16
    subst l16 y16 z16
    obtain ⟨rfl, Nq16, hh16⟩ := hQ16
    have N16 := Fr.app N13 Nq16
    refine own_via (fun t k => st16.trans k) ?_
    show own_G p.tables e below _ (T16.setTop (mkF m 189 #[.val (.int p1), .val (.int p2), .val (.int p3), .val (.int (0 : Int32)), .val (.int va0), .val (.int va1), .val (.int va2), .val (.int vb0), .val (.int vb1), .val (.int vb2), .val (.ref b3), .val (.int (1 : Int32))] [(.int (Sv8.1.getD ((1 : Int32)).toNatClampNeg 0))]))
    refine own_via (S' := T16.setTop (mkF m 194 #[.val (.int p1), .val (.int p2), .val (.int p3), .val (.int (0 : Int32)), .val (.int va0), .val (.int va1), .val (.int va2), .val (.int vb0), .val (.int vb1), .val (.int vb2), .val (.ref b3), .val (.int (1 : Int32))] [(.int va1), (.int va0), (.int (1 : Int32)), (.int (Sv8.1.getD ((1 : Int32)).toNatClampNeg 0))])) (fun t k => ?_) ?_
    · show Steps p.tables e below (T16.setTop (mkF m 189 #[.val (.int p1), .val (.int p2), .val (.int p3), .val (.int (0 : Int32)), .val (.int va0), .val (.int va1), .val (.int va2), .val (.int vb0), .val (.int vb1), .val (.int vb2), .val (.ref b3), .val (.int (1 : Int32))] [(.int (Sv8.1.getD ((1 : Int32)).toNatClampNeg 0))])) t
      refine XS.iconst X16.here hx rfl (hb hby at_189) ?_
      show Steps p.tables e below (T16.setTop (mkF m 190 #[.val (.int p1), .val (.int p2), .val (.int p3), .val (.int (0 : Int32)), .val (.int va0), .val (.int va1), .val (.int va2), .val (.int vb0), .val (.int vb1), .val (.int vb2), .val (.ref b3), .val (.int (1 : Int32))] [(.int (1 : Int32)), (.int (Sv8.1.getD ((1 : Int32)).toNatClampNeg 0))])) t
      refine XS.iload X16.here hx rfl (hb hby at_190) rfl ?_
      show Steps p.tables e below (T16.setTop (mkF m 192 #[.val (.int p1), .val (.int p2), .val (.int p3), .val (.int (0 : Int32)), .val (.int va0), .val (.int va1), .val (.int va2), .val (.int vb0), .val (.int vb1), .val (.int vb2), .val (.ref b3), .val (.int (1 : Int32))] [(.int va0), (.int (1 : Int32)), (.int (Sv8.1.getD ((1 : Int32)).toNatClampNeg 0))])) t
      refine XS.iload X16.here hx rfl (hb hby at_192) rfl ?_
      exact k
    obtain ⟨_, _, ⟨T17, L17, k17, n17⟩, -, X17, ⟨Lc17, hQ17, l17, y17, z17⟩, st17⟩ := Jvm.LawKit.callS X16 hx (y := (⟨"com/example/fenceline/fenceline/DigraphRemoveLastEdgePinLaw", "expect", "(III)I"⟩ : MethodName)) hown (mvT hZ (hw _ (List.mem_of_getElem? (i := 55) rfl))) (mvT hZ (hw _ (List.mem_of_getElem? (i := 56) rfl))) (mvT hZ (hw _ (List.mem_of_getElem? (i := 57) rfl))) (mvT hZ (hw _ (List.mem_of_getElem? (i := 58) rfl))) (by decide) (backOf (W := 1) (rm10 l Z a0 hw [] (1 : Int32) va0 va1 T8.heap n0 (Nat.le_trans Z0 K8.1)) hZ (hw _ (List.mem_of_getElem? (i := 58) rfl)) (hw _ (List.mem_of_getElem? (i := 57) rfl)) (by decide) (by decide)) (g := (mkF m 194 #[.val (.int p1), .val (.int p2), .val (.int p3), .val (.int (0 : Int32)), .val (.int va0), .val (.int va1), .val (.int va2), .val (.int vb0), .val (.int vb1), .val (.int vb2), .val (.ref b3), .val (.int (1 : Int32))] [(.int va1), (.int va0), (.int (1 : Int32)), (.int (Sv8.1.getD ((1 : Int32)).toNatClampNeg 0))])) rfl (by rw [hml]; rfl) (argsL := [(.int (1 : Int32)), (.int va0), (.int va1)]) (rest := [(.int (Sv8.1.getD ((1 : Int32)).toNatClampNeg 0))]) (lenOf pd_7 rfl) rfl (by show 2 * 0 + _ ≤ _; exact Nat.le_of_eq rfl) (hb hby at_194) (fun _ _ => ⟨rfl, hh16, (by decide : 5 + 0 ≤ _), (by decide : 58 + 0 ≤ _)⟩)
    dsimp only [Pt.U, Pt.locs, Pt.cells, Pt.slots] at X17 l17 y17 z17 st17 hQ17
    subst l17 y17 z17
    obtain ⟨rfl, Nq17, hh17⟩ := hQ17
    have N17 := Fr.app N16 Nq17
    refine own_via st17 ?_
    show own_G p.tables e below _ (T17.setTop (mkF m 197 #[.val (.int p1), .val (.int p2), .val (.int p3), .val (.int (0 : Int32)), .val (.int va0), .val (.int va1), .val (.int va2), .val (.int vb0), .val (.int vb1), .val (.int vb2), .val (.ref b3), .val (.int (1 : Int32))] [(.int (own_ex (1 : Int32) va0 va1)), (.int (Sv8.1.getD ((1 : Int32)).toNatClampNeg 0))]))
    refine own_via (S' := T17.setTop (mkF m 200 #[.val (.int p1), .val (.int p2), .val (.int p3), .val (.int (0 : Int32)), .val (.int va0), .val (.int va1), .val (.int va2), .val (.int vb0), .val (.int vb1), .val (.int vb2), .val (.ref b3), .val (.int (1 : Int32))] [])) (fun t k => XS.icmpNo (g := (mkF m 197 #[.val (.int p1), .val (.int p2), .val (.int p3), .val (.int (0 : Int32)), .val (.int va0), .val (.int va1), .val (.int va2), .val (.int vb0), .val (.int vb1), .val (.int vb2), .val (.ref b3), .val (.int (1 : Int32))] [(.int (own_ex (1 : Int32) va0 va1)), (.int (Sv8.1.getD ((1 : Int32)).toNatClampNeg 0))])) X17.here hx rfl (hb hby at_197) rfl (teq (by rw [hS8, hS7, hS6, hS5]; exact hkn.2.2.2.2.2 1 (by decide))).2 k) ?_
    refine own_via (S' := T17.setTop (mkF m 209 #[.val (.int p1), .val (.int p2), .val (.int p3), .val (.int (0 : Int32)), .val (.int va0), .val (.int va1), .val (.int va2), .val (.int vb0), .val (.int vb1), .val (.int vb2), .val (.ref b3), .val (.int (1 : Int32))] [(.int (1 : Int32))])) (fun t k => ?_) ?_
    · show Steps p.tables e below (T17.setTop (mkF m 200 #[.val (.int p1), .val (.int p2), .val (.int p3), .val (.int (0 : Int32)), .val (.int va0), .val (.int va1), .val (.int va2), .val (.int vb0), .val (.int vb1), .val (.int vb2), .val (.ref b3), .val (.int (1 : Int32))] [])) t
      refine XS.iconst X17.here hx rfl (hb hby at_200) ?_
      show Steps p.tables e below (T17.setTop (mkF m 201 #[.val (.int p1), .val (.int p2), .val (.int p3), .val (.int (0 : Int32)), .val (.int va0), .val (.int va1), .val (.int va2), .val (.int vb0), .val (.int vb1), .val (.int vb2), .val (.ref b3), .val (.int (1 : Int32))] [(.int (1 : Int32))])) t
      refine XS.goto X17.here hx rfl (pc0 := 201) (pc' := 205) rfl (hb hby at_201) (by decide) (by decide) ?_
      show Steps p.tables e below (T17.setTop (mkF m 205 #[.val (.int p1), .val (.int p2), .val (.int p3), .val (.int (0 : Int32)), .val (.int va0), .val (.int va1), .val (.int va2), .val (.int vb0), .val (.int vb1), .val (.int vb2), .val (.ref b3), .val (.int (1 : Int32))] [(.int (1 : Int32))])) t
      refine XS.istore X17.here hx rfl (hb hby at_205) rfl (l' := #[.val (.int p1), .val (.int p2), .val (.int p3), .val (.int (0 : Int32)), .val (.int va0), .val (.int va1), .val (.int va2), .val (.int vb0), .val (.int vb1), .val (.int vb2), .val (.ref b3), .val (.int (1 : Int32))]) rfl ?_
      show Steps p.tables e below (T17.setTop (mkF m 207 #[.val (.int p1), .val (.int p2), .val (.int p3), .val (.int (0 : Int32)), .val (.int va0), .val (.int va1), .val (.int va2), .val (.int vb0), .val (.int vb1), .val (.int vb2), .val (.ref b3), .val (.int (1 : Int32))] [])) t
      refine XS.iload X17.here hx rfl (hb hby at_207) rfl ?_
      exact k
    refine own_via (S' := T17.setTop (mkF m 212 #[.val (.int p1), .val (.int p2), .val (.int p3), .val (.int (0 : Int32)), .val (.int va0), .val (.int va1), .val (.int va2), .val (.int vb0), .val (.int vb1), .val (.int vb2), .val (.ref b3), .val (.int (1 : Int32))] [])) (fun t k => XS.ifNo (g := (mkF m 209 #[.val (.int p1), .val (.int p2), .val (.int p3), .val (.int (0 : Int32)), .val (.int va0), .val (.int va1), .val (.int va2), .val (.int vb0), .val (.int vb1), .val (.int vb2), .val (.ref b3), .val (.int (1 : Int32))] [(.int (1 : Int32))])) X17.here hx rfl (hb hby at_209) rfl ((if0 _ _).trans (feq (by decide : ¬ ((1 : Int32) = (0 : Int32)))).1) k) ?_
    refine own_via (S' := T17.setTop (mkF m 215 #[.val (.int p1), .val (.int p2), .val (.int p3), .val (.int (0 : Int32)), .val (.int va0), .val (.int va1), .val (.int va2), .val (.int vb0), .val (.int vb1), .val (.int vb2), .val (.ref b3), .val (.int (1 : Int32))] [(.int (2 : Int32)), (.ref b3)])) (fun t k => ?_) ?_
    · show Steps p.tables e below (T17.setTop (mkF m 212 #[.val (.int p1), .val (.int p2), .val (.int p3), .val (.int (0 : Int32)), .val (.int va0), .val (.int va1), .val (.int va2), .val (.int vb0), .val (.int vb1), .val (.int vb2), .val (.ref b3), .val (.int (1 : Int32))] [])) t
      refine XS.aload X17.here hx rfl (hb hby at_212) rfl rfl ?_
      show Steps p.tables e below (T17.setTop (mkF m 214 #[.val (.int p1), .val (.int p2), .val (.int p3), .val (.int (0 : Int32)), .val (.int va0), .val (.int va1), .val (.int va2), .val (.int vb0), .val (.int vb1), .val (.int vb2), .val (.ref b3), .val (.int (1 : Int32))] [(.ref b3)])) t
      refine XS.iconst X17.here hx rfl (hb hby at_214) ?_
      exact k
    obtain ⟨cq20, kq20, q20a, q20b, q20c⟩ := isOf hZ hh17 D8_0
    obtain ⟨_, _, ⟨T20, L20, k20, n20⟩, -, X20, ⟨Lc20, hQ20, l20, y20, z20⟩, st20⟩ := X17.virtualBack hx (y := (⟨"com/example/fenceline/fenceline/Digraph", "firstEdge", "(I)I"⟩ : MethodName)) (z := (⟨"com/example/fenceline/fenceline/Digraph", "firstEdge", "(I)I"⟩ : MethodName)) hown (mvT hZ (hw _ (List.mem_of_getElem? (i := 50) rfl))) (mvT hZ (hw _ (List.mem_of_getElem? (i := 51) rfl))) (notFace_of_selects (args := #[]) (mvT hZ (hw _ (List.mem_of_getElem? (i := 53) rfl)))) (mvT hZ (hw _ (List.mem_of_getElem? (i := 53) rfl))) (mvT hZ (hw _ (List.mem_of_getElem? (i := 52) rfl))) (by decide) (backOf (W := 0) (rm9 l Z a0 hw [] b3 (2 : Int32) b04 k04 Sv8.1 T8.heap n0 (Nat.le_trans Z0 K8.1) D8_1 D8_8 ⟨by decide, by decide⟩) hZ (hw _ (List.mem_of_getElem? (i := 54) rfl)) (hw _ (List.mem_of_getElem? (i := 2) rfl)) (by decide) (by decide)) q20a q20c (g := (mkF m 215 #[.val (.int p1), .val (.int p2), .val (.int p3), .val (.int (0 : Int32)), .val (.int va0), .val (.int va1), .val (.int va2), .val (.int vb0), .val (.int vb1), .val (.int vb2), .val (.ref b3), .val (.int (1 : Int32))] [(.int (2 : Int32)), (.ref b3)])) rfl (by rw [hml]; rfl) (Steps.refl _) (argsL := [(.int (2 : Int32))]) (rest := []) (lenOf pd_6 rfl) rfl (by show 2 * 0 + _ ≤ _; exact Nat.le_of_eq rfl) (hb hby at_215) (fun _ _ => ⟨rfl, hh17, (by decide : 5 + 0 ≤ _), (by decide : 58 + 0 ≤ _)⟩)
    dsimp only [Pt.U, Pt.locs, Pt.cells, Pt.slots] at X20 l20 y20 z20 st20 hQ20
    subst l20 y20 z20
    obtain ⟨rfl, Nq20, hh20⟩ := hQ20
    have N20 := Fr.app N17 Nq20
    refine own_via (fun t k => st20.trans k) ?_
    show own_G p.tables e below _ (T20.setTop (mkF m 218 #[.val (.int p1), .val (.int p2), .val (.int p3), .val (.int (0 : Int32)), .val (.int va0), .val (.int va1), .val (.int va2), .val (.int vb0), .val (.int vb1), .val (.int vb2), .val (.ref b3), .val (.int (1 : Int32))] [(.int (Sv8.1.getD ((2 : Int32)).toNatClampNeg 0))]))
    refine own_via (S' := T20.setTop (mkF m 223 #[.val (.int p1), .val (.int p2), .val (.int p3), .val (.int (0 : Int32)), .val (.int va0), .val (.int va1), .val (.int va2), .val (.int vb0), .val (.int vb1), .val (.int vb2), .val (.ref b3), .val (.int (1 : Int32))] [(.int va1), (.int va0), (.int (2 : Int32)), (.int (Sv8.1.getD ((2 : Int32)).toNatClampNeg 0))])) (fun t k => ?_) ?_
    · show Steps p.tables e below (T20.setTop (mkF m 218 #[.val (.int p1), .val (.int p2), .val (.int p3), .val (.int (0 : Int32)), .val (.int va0), .val (.int va1), .val (.int va2), .val (.int vb0), .val (.int vb1), .val (.int vb2), .val (.ref b3), .val (.int (1 : Int32))] [(.int (Sv8.1.getD ((2 : Int32)).toNatClampNeg 0))])) t
      refine XS.iconst X20.here hx rfl (hb hby at_218) ?_
      show Steps p.tables e below (T20.setTop (mkF m 219 #[.val (.int p1), .val (.int p2), .val (.int p3), .val (.int (0 : Int32)), .val (.int va0), .val (.int va1), .val (.int va2), .val (.int vb0), .val (.int vb1), .val (.int vb2), .val (.ref b3), .val (.int (1 : Int32))] [(.int (2 : Int32)), (.int (Sv8.1.getD ((2 : Int32)).toNatClampNeg 0))])) t
      refine XS.iload X20.here hx rfl (hb hby at_219) rfl ?_
      show Steps p.tables e below (T20.setTop (mkF m 221 #[.val (.int p1), .val (.int p2), .val (.int p3), .val (.int (0 : Int32)), .val (.int va0), .val (.int va1), .val (.int va2), .val (.int vb0), .val (.int vb1), .val (.int vb2), .val (.ref b3), .val (.int (1 : Int32))] [(.int va0), (.int (2 : Int32)), (.int (Sv8.1.getD ((2 : Int32)).toNatClampNeg 0))])) t
      refine XS.iload X20.here hx rfl (hb hby at_221) rfl ?_
      exact k
    obtain ⟨_, _, ⟨T21, L21, k21, n21⟩, -, X21, ⟨Lc21, hQ21, l21, y21, z21⟩, st21⟩ := Jvm.LawKit.callS X20 hx (y := (⟨"com/example/fenceline/fenceline/DigraphRemoveLastEdgePinLaw", "expect", "(III)I"⟩ : MethodName)) hown (mvT hZ (hw _ (List.mem_of_getElem? (i := 55) rfl))) (mvT hZ (hw _ (List.mem_of_getElem? (i := 56) rfl))) (mvT hZ (hw _ (List.mem_of_getElem? (i := 57) rfl))) (mvT hZ (hw _ (List.mem_of_getElem? (i := 58) rfl))) (by decide) (backOf (W := 1) (rm10 l Z a0 hw [] (2 : Int32) va0 va1 T8.heap n0 (Nat.le_trans Z0 K8.1)) hZ (hw _ (List.mem_of_getElem? (i := 58) rfl)) (hw _ (List.mem_of_getElem? (i := 57) rfl)) (by decide) (by decide)) (g := (mkF m 223 #[.val (.int p1), .val (.int p2), .val (.int p3), .val (.int (0 : Int32)), .val (.int va0), .val (.int va1), .val (.int va2), .val (.int vb0), .val (.int vb1), .val (.int vb2), .val (.ref b3), .val (.int (1 : Int32))] [(.int va1), (.int va0), (.int (2 : Int32)), (.int (Sv8.1.getD ((2 : Int32)).toNatClampNeg 0))])) rfl (by rw [hml]; rfl) (argsL := [(.int (2 : Int32)), (.int va0), (.int va1)]) (rest := [(.int (Sv8.1.getD ((2 : Int32)).toNatClampNeg 0))]) (lenOf pd_7 rfl) rfl (by show 2 * 0 + _ ≤ _; exact Nat.le_of_eq rfl) (hb hby at_223) (fun _ _ => ⟨rfl, hh20, (by decide : 5 + 0 ≤ _), (by decide : 58 + 0 ≤ _)⟩)
    dsimp only [Pt.U, Pt.locs, Pt.cells, Pt.slots] at X21 l21 y21 z21 st21 hQ21
    subst l21 y21 z21
    obtain ⟨rfl, Nq21, hh21⟩ := hQ21
    have N21 := Fr.app N20 Nq21
    refine own_via st21 ?_
    show own_G p.tables e below _ (T21.setTop (mkF m 226 #[.val (.int p1), .val (.int p2), .val (.int p3), .val (.int (0 : Int32)), .val (.int va0), .val (.int va1), .val (.int va2), .val (.int vb0), .val (.int vb1), .val (.int vb2), .val (.ref b3), .val (.int (1 : Int32))] [(.int (own_ex (2 : Int32) va0 va1)), (.int (Sv8.1.getD ((2 : Int32)).toNatClampNeg 0))]))
    refine own_via (S' := T21.setTop (mkF m 229 #[.val (.int p1), .val (.int p2), .val (.int p3), .val (.int (0 : Int32)), .val (.int va0), .val (.int va1), .val (.int va2), .val (.int vb0), .val (.int vb1), .val (.int vb2), .val (.ref b3), .val (.int (1 : Int32))] [])) (fun t k => XS.icmpNo (g := (mkF m 226 #[.val (.int p1), .val (.int p2), .val (.int p3), .val (.int (0 : Int32)), .val (.int va0), .val (.int va1), .val (.int va2), .val (.int vb0), .val (.int vb1), .val (.int vb2), .val (.ref b3), .val (.int (1 : Int32))] [(.int (own_ex (2 : Int32) va0 va1)), (.int (Sv8.1.getD ((2 : Int32)).toNatClampNeg 0))])) X21.here hx rfl (hb hby at_226) rfl (teq (by rw [hS8, hS7, hS6, hS5]; exact hkn.2.2.2.2.2 2 (by decide))).2 k) ?_
    refine own_via (S' := T21.setTop (mkF m 237 #[.val (.int p1), .val (.int p2), .val (.int p3), .val (.int (0 : Int32)), .val (.int va0), .val (.int va1), .val (.int va2), .val (.int vb0), .val (.int vb1), .val (.int vb2), .val (.ref b3), .val (.int (1 : Int32))] [(.int (0 : Int32))])) (fun t k => ?_) ?_
    · show Steps p.tables e below (T21.setTop (mkF m 229 #[.val (.int p1), .val (.int p2), .val (.int p3), .val (.int (0 : Int32)), .val (.int va0), .val (.int va1), .val (.int va2), .val (.int vb0), .val (.int vb1), .val (.int vb2), .val (.ref b3), .val (.int (1 : Int32))] [])) t
      refine XS.iconst X21.here hx rfl (hb hby at_229) ?_
      show Steps p.tables e below (T21.setTop (mkF m 230 #[.val (.int p1), .val (.int p2), .val (.int p3), .val (.int (0 : Int32)), .val (.int va0), .val (.int va1), .val (.int va2), .val (.int vb0), .val (.int vb1), .val (.int vb2), .val (.ref b3), .val (.int (1 : Int32))] [(.int (1 : Int32))])) t
      refine XS.goto X21.here hx rfl (pc0 := 230) (pc' := 234) rfl (hb hby at_230) (by decide) (by decide) ?_
      show Steps p.tables e below (T21.setTop (mkF m 234 #[.val (.int p1), .val (.int p2), .val (.int p3), .val (.int (0 : Int32)), .val (.int va0), .val (.int va1), .val (.int va2), .val (.int vb0), .val (.int vb1), .val (.int vb2), .val (.ref b3), .val (.int (1 : Int32))] [(.int (1 : Int32))])) t
      refine XS.istore X21.here hx rfl (hb hby at_234) rfl (l' := #[.val (.int p1), .val (.int p2), .val (.int p3), .val (.int (0 : Int32)), .val (.int va0), .val (.int va1), .val (.int va2), .val (.int vb0), .val (.int vb1), .val (.int vb2), .val (.ref b3), .val (.int (1 : Int32))]) rfl ?_
      show Steps p.tables e below (T21.setTop (mkF m 236 #[.val (.int p1), .val (.int p2), .val (.int p3), .val (.int (0 : Int32)), .val (.int va0), .val (.int va1), .val (.int va2), .val (.int vb0), .val (.int vb1), .val (.int vb2), .val (.ref b3), .val (.int (1 : Int32))] [])) t
      refine XS.iloadN X21.here hx rfl (hb hby at_236) rfl ?_
      exact k
    refine own_via (S' := T21.setTop (mkF m 327 #[.val (.int p1), .val (.int p2), .val (.int p3), .val (.int (0 : Int32)), .val (.int va0), .val (.int va1), .val (.int va2), .val (.int vb0), .val (.int vb1), .val (.int vb2), .val (.ref b3), .val (.int (1 : Int32))] [])) (fun t k => XS.ifYes (g := (mkF m 237 #[.val (.int p1), .val (.int p2), .val (.int p3), .val (.int (0 : Int32)), .val (.int va0), .val (.int va1), .val (.int va2), .val (.int vb0), .val (.int vb1), .val (.int vb2), .val (.ref b3), .val (.int (1 : Int32))] [(.int (0 : Int32))])) X21.here hx rfl (pc0 := 237) (pc' := 327) rfl (hb hby at_237) rfl ((if0 _ _).trans (teq (by decide : (0 : Int32) = (0 : Int32))).1) (by decide) (by decide) k) ?_
    refine own_via (S' := T21.setTop (mkF m 329 #[.val (.int p1), .val (.int p2), .val (.int p3), .val (.int (0 : Int32)), .val (.int va0), .val (.int va1), .val (.int va2), .val (.int vb0), .val (.int vb1), .val (.int vb2), .val (.ref b3), .val (.int (1 : Int32))] [(.int (1 : Int32))])) (fun t k => ?_) ?_
    · show Steps p.tables e below (T21.setTop (mkF m 327 #[.val (.int p1), .val (.int p2), .val (.int p3), .val (.int (0 : Int32)), .val (.int va0), .val (.int va1), .val (.int va2), .val (.int vb0), .val (.int vb1), .val (.int vb2), .val (.ref b3), .val (.int (1 : Int32))] [])) t
      refine XS.iload X21.here hx rfl (hb hby at_327) rfl ?_
      exact k
    exact own_end (h := T8.heap) X21 (v := some (.int (1 : Int32))) Bd.notSynchronized (fun h => by rw [Bd.returns] at h; cases h) (fun fs hr => retN X21 hx (t := .boolean) Bd.returns (by simp) (hb hby at_329) hr) hh21 ⟨rfl, N21⟩ (by decide) (by decide)
  · refine own_via (S' := s₁.setTop (mkF m 6 #[.val (.int p1), .val (.int p2), .val (.int p3), .unset, .unset, .unset, .unset, .unset, .unset, .unset, .unset, .unset] [])) (fun t k => XS.ifNo (g := (mkF m 3 #[.val (.int p1), .val (.int p2), .val (.int p3), .unset, .unset, .unset, .unset, .unset, .unset, .unset, .unset, .unset] [(.int (p1 &&& (1 : Int32)))])) X0.here hx rfl (hb hby at_3) rfl ((if0 _ _).trans (feq hc3_1).1) k) ?_
    refine own_via (S' := s₁.setTop (mkF m 21 #[.val (.int p1), .val (.int p2), .val (.int p3), .val (.int (1 : Int32)), .val (.int ((p2 &&& (255 : Int32)) % (3 : Int32))), .unset, .unset, .unset, .unset, .unset, .unset, .unset] [])) (fun t k => ?_) ?_
    · show Steps p.tables e below (s₁.setTop (mkF m 6 #[.val (.int p1), .val (.int p2), .val (.int p3), .unset, .unset, .unset, .unset, .unset, .unset, .unset, .unset, .unset] [])) t
      refine XS.iconst X0.here hx rfl (hb hby at_6) ?_
      show Steps p.tables e below (s₁.setTop (mkF m 7 #[.val (.int p1), .val (.int p2), .val (.int p3), .unset, .unset, .unset, .unset, .unset, .unset, .unset, .unset, .unset] [(.int (1 : Int32))])) t
      refine XS.goto X0.here hx rfl (pc0 := 7) (pc' := 11) rfl (hb hby at_7) (by decide) (by decide) ?_
      show Steps p.tables e below (s₁.setTop (mkF m 11 #[.val (.int p1), .val (.int p2), .val (.int p3), .unset, .unset, .unset, .unset, .unset, .unset, .unset, .unset, .unset] [(.int (1 : Int32))])) t
      refine XS.istoreN X0.here hx rfl (hb hby at_11) rfl (l' := #[.val (.int p1), .val (.int p2), .val (.int p3), .val (.int (1 : Int32)), .unset, .unset, .unset, .unset, .unset, .unset, .unset, .unset]) rfl ?_
      show Steps p.tables e below (s₁.setTop (mkF m 12 #[.val (.int p1), .val (.int p2), .val (.int p3), .val (.int (1 : Int32)), .unset, .unset, .unset, .unset, .unset, .unset, .unset, .unset] [])) t
      refine XS.iloadN X0.here hx rfl (hb hby at_12) rfl ?_
      show Steps p.tables e below (s₁.setTop (mkF m 13 #[.val (.int p1), .val (.int p2), .val (.int p3), .val (.int (1 : Int32)), .unset, .unset, .unset, .unset, .unset, .unset, .unset, .unset] [(.int p2)])) t
      refine XS.sipush X0.here hx rfl (hb hby at_13) ?_
      show Steps p.tables e below (s₁.setTop (mkF m 16 #[.val (.int p1), .val (.int p2), .val (.int p3), .val (.int (1 : Int32)), .unset, .unset, .unset, .unset, .unset, .unset, .unset, .unset] [(.int (255 : Int32)), (.int p2)])) t
      refine XS.iand X0.here hx rfl (hb hby at_16) rfl ?_
      show Steps p.tables e below (s₁.setTop (mkF m 17 #[.val (.int p1), .val (.int p2), .val (.int p3), .val (.int (1 : Int32)), .unset, .unset, .unset, .unset, .unset, .unset, .unset, .unset] [(.int (p2 &&& (255 : Int32)))])) t
      refine XS.iconst X0.here hx rfl (hb hby at_17) ?_
      show Steps p.tables e below (s₁.setTop (mkF m 18 #[.val (.int p1), .val (.int p2), .val (.int p3), .val (.int (1 : Int32)), .unset, .unset, .unset, .unset, .unset, .unset, .unset, .unset] [(.int (3 : Int32)), (.int (p2 &&& (255 : Int32)))])) t
      refine iremM X0 hx rfl (hb hby at_18) rfl (by decide) ?_
      show Steps p.tables e below (s₁.setTop (mkF m 19 #[.val (.int p1), .val (.int p2), .val (.int p3), .val (.int (1 : Int32)), .unset, .unset, .unset, .unset, .unset, .unset, .unset, .unset] [(.int ((p2 &&& (255 : Int32)) % (3 : Int32)))])) t
      refine XS.istore X0.here hx rfl (hb hby at_19) rfl (l' := #[.val (.int p1), .val (.int p2), .val (.int p3), .val (.int (1 : Int32)), .val (.int ((p2 &&& (255 : Int32)) % (3 : Int32))), .unset, .unset, .unset, .unset, .unset, .unset, .unset]) rfl ?_
      exact k
    obtain ⟨va0, hn_va0⟩ : ∃ z, z = ((p2 &&& (255 : Int32)) % (3 : Int32)) := ⟨_, rfl⟩
    rw [← hn_va0]
    show own_G p.tables e below _ (s₁.setTop (mkF m 21 #[.val (.int p1), .val (.int p2), .val (.int p3), .val (.int (1 : Int32)), .val (.int va0), .unset, .unset, .unset, .unset, .unset, .unset, .unset] []))
    have hd_va0 : va0 ∈ own_D := by rw [hn_va0]; exact own_in3 _
    refine own_via (S' := s₁.setTop (mkF m 33 #[.val (.int p1), .val (.int p2), .val (.int p3), .val (.int (1 : Int32)), .val (.int va0), .val (.int ((((p2.toUInt32 >>> ((8 : Int32) &&& 31).toUInt32).toInt32) &&& (255 : Int32)) % (3 : Int32))), .unset, .unset, .unset, .unset, .unset, .unset] [])) (fun t k => ?_) ?_
    · show Steps p.tables e below (s₁.setTop (mkF m 21 #[.val (.int p1), .val (.int p2), .val (.int p3), .val (.int (1 : Int32)), .val (.int va0), .unset, .unset, .unset, .unset, .unset, .unset, .unset] [])) t
      refine XS.iloadN X0.here hx rfl (hb hby at_21) rfl ?_
      show Steps p.tables e below (s₁.setTop (mkF m 22 #[.val (.int p1), .val (.int p2), .val (.int p3), .val (.int (1 : Int32)), .val (.int va0), .unset, .unset, .unset, .unset, .unset, .unset, .unset] [(.int p2)])) t
      refine XS.bipush X0.here hx rfl (hb hby at_22) ?_
      show Steps p.tables e below (s₁.setTop (mkF m 24 #[.val (.int p1), .val (.int p2), .val (.int p3), .val (.int (1 : Int32)), .val (.int va0), .unset, .unset, .unset, .unset, .unset, .unset, .unset] [(.int (8 : Int32)), (.int p2)])) t
      refine XS.iushr X0.here hx rfl (hb hby at_24) rfl ?_
      show Steps p.tables e below (s₁.setTop (mkF m 25 #[.val (.int p1), .val (.int p2), .val (.int p3), .val (.int (1 : Int32)), .val (.int va0), .unset, .unset, .unset, .unset, .unset, .unset, .unset] [(.int ((p2.toUInt32 >>> ((8 : Int32) &&& 31).toUInt32).toInt32))])) t
      refine XS.sipush X0.here hx rfl (hb hby at_25) ?_
      show Steps p.tables e below (s₁.setTop (mkF m 28 #[.val (.int p1), .val (.int p2), .val (.int p3), .val (.int (1 : Int32)), .val (.int va0), .unset, .unset, .unset, .unset, .unset, .unset, .unset] [(.int (255 : Int32)), (.int ((p2.toUInt32 >>> ((8 : Int32) &&& 31).toUInt32).toInt32))])) t
      refine XS.iand X0.here hx rfl (hb hby at_28) rfl ?_
      show Steps p.tables e below (s₁.setTop (mkF m 29 #[.val (.int p1), .val (.int p2), .val (.int p3), .val (.int (1 : Int32)), .val (.int va0), .unset, .unset, .unset, .unset, .unset, .unset, .unset] [(.int (((p2.toUInt32 >>> ((8 : Int32) &&& 31).toUInt32).toInt32) &&& (255 : Int32)))])) t
      refine XS.iconst X0.here hx rfl (hb hby at_29) ?_
      show Steps p.tables e below (s₁.setTop (mkF m 30 #[.val (.int p1), .val (.int p2), .val (.int p3), .val (.int (1 : Int32)), .val (.int va0), .unset, .unset, .unset, .unset, .unset, .unset, .unset] [(.int (3 : Int32)), (.int (((p2.toUInt32 >>> ((8 : Int32) &&& 31).toUInt32).toInt32) &&& (255 : Int32)))])) t
      refine iremM X0 hx rfl (hb hby at_30) rfl (by decide) ?_
      show Steps p.tables e below (s₁.setTop (mkF m 31 #[.val (.int p1), .val (.int p2), .val (.int p3), .val (.int (1 : Int32)), .val (.int va0), .unset, .unset, .unset, .unset, .unset, .unset, .unset] [(.int ((((p2.toUInt32 >>> ((8 : Int32) &&& 31).toUInt32).toInt32) &&& (255 : Int32)) % (3 : Int32)))])) t
      refine XS.istore X0.here hx rfl (hb hby at_31) rfl (l' := #[.val (.int p1), .val (.int p2), .val (.int p3), .val (.int (1 : Int32)), .val (.int va0), .val (.int ((((p2.toUInt32 >>> ((8 : Int32) &&& 31).toUInt32).toInt32) &&& (255 : Int32)) % (3 : Int32))), .unset, .unset, .unset, .unset, .unset, .unset]) rfl ?_
      exact k
    obtain ⟨va1, hn_va1⟩ : ∃ z, z = ((((p2.toUInt32 >>> ((8 : Int32) &&& 31).toUInt32).toInt32) &&& (255 : Int32)) % (3 : Int32)) := ⟨_, rfl⟩
    rw [← hn_va1]
    show own_G p.tables e below _ (s₁.setTop (mkF m 33 #[.val (.int p1), .val (.int p2), .val (.int p3), .val (.int (1 : Int32)), .val (.int va0), .val (.int va1), .unset, .unset, .unset, .unset, .unset, .unset] []))
    have hd_va1 : va1 ∈ own_D := by rw [hn_va1]; exact own_in3 _
    refine own_via (S' := s₁.setTop (mkF m 45 #[.val (.int p1), .val (.int p2), .val (.int p3), .val (.int (1 : Int32)), .val (.int va0), .val (.int va1), .val (.int ((((p2.toUInt32 >>> ((16 : Int32) &&& 31).toUInt32).toInt32) &&& (255 : Int32)) % (3 : Int32))), .unset, .unset, .unset, .unset, .unset] [])) (fun t k => ?_) ?_
    · show Steps p.tables e below (s₁.setTop (mkF m 33 #[.val (.int p1), .val (.int p2), .val (.int p3), .val (.int (1 : Int32)), .val (.int va0), .val (.int va1), .unset, .unset, .unset, .unset, .unset, .unset] [])) t
      refine XS.iloadN X0.here hx rfl (hb hby at_33) rfl ?_
      show Steps p.tables e below (s₁.setTop (mkF m 34 #[.val (.int p1), .val (.int p2), .val (.int p3), .val (.int (1 : Int32)), .val (.int va0), .val (.int va1), .unset, .unset, .unset, .unset, .unset, .unset] [(.int p2)])) t
      refine XS.bipush X0.here hx rfl (hb hby at_34) ?_
      show Steps p.tables e below (s₁.setTop (mkF m 36 #[.val (.int p1), .val (.int p2), .val (.int p3), .val (.int (1 : Int32)), .val (.int va0), .val (.int va1), .unset, .unset, .unset, .unset, .unset, .unset] [(.int (16 : Int32)), (.int p2)])) t
      refine XS.iushr X0.here hx rfl (hb hby at_36) rfl ?_
      show Steps p.tables e below (s₁.setTop (mkF m 37 #[.val (.int p1), .val (.int p2), .val (.int p3), .val (.int (1 : Int32)), .val (.int va0), .val (.int va1), .unset, .unset, .unset, .unset, .unset, .unset] [(.int ((p2.toUInt32 >>> ((16 : Int32) &&& 31).toUInt32).toInt32))])) t
      refine XS.sipush X0.here hx rfl (hb hby at_37) ?_
      show Steps p.tables e below (s₁.setTop (mkF m 40 #[.val (.int p1), .val (.int p2), .val (.int p3), .val (.int (1 : Int32)), .val (.int va0), .val (.int va1), .unset, .unset, .unset, .unset, .unset, .unset] [(.int (255 : Int32)), (.int ((p2.toUInt32 >>> ((16 : Int32) &&& 31).toUInt32).toInt32))])) t
      refine XS.iand X0.here hx rfl (hb hby at_40) rfl ?_
      show Steps p.tables e below (s₁.setTop (mkF m 41 #[.val (.int p1), .val (.int p2), .val (.int p3), .val (.int (1 : Int32)), .val (.int va0), .val (.int va1), .unset, .unset, .unset, .unset, .unset, .unset] [(.int (((p2.toUInt32 >>> ((16 : Int32) &&& 31).toUInt32).toInt32) &&& (255 : Int32)))])) t
      refine XS.iconst X0.here hx rfl (hb hby at_41) ?_
      show Steps p.tables e below (s₁.setTop (mkF m 42 #[.val (.int p1), .val (.int p2), .val (.int p3), .val (.int (1 : Int32)), .val (.int va0), .val (.int va1), .unset, .unset, .unset, .unset, .unset, .unset] [(.int (3 : Int32)), (.int (((p2.toUInt32 >>> ((16 : Int32) &&& 31).toUInt32).toInt32) &&& (255 : Int32)))])) t
      refine iremM X0 hx rfl (hb hby at_42) rfl (by decide) ?_
      show Steps p.tables e below (s₁.setTop (mkF m 43 #[.val (.int p1), .val (.int p2), .val (.int p3), .val (.int (1 : Int32)), .val (.int va0), .val (.int va1), .unset, .unset, .unset, .unset, .unset, .unset] [(.int ((((p2.toUInt32 >>> ((16 : Int32) &&& 31).toUInt32).toInt32) &&& (255 : Int32)) % (3 : Int32)))])) t
      refine XS.istore X0.here hx rfl (hb hby at_43) rfl (l' := #[.val (.int p1), .val (.int p2), .val (.int p3), .val (.int (1 : Int32)), .val (.int va0), .val (.int va1), .val (.int ((((p2.toUInt32 >>> ((16 : Int32) &&& 31).toUInt32).toInt32) &&& (255 : Int32)) % (3 : Int32))), .unset, .unset, .unset, .unset, .unset]) rfl ?_
      exact k
    obtain ⟨va2, hn_va2⟩ : ∃ z, z = ((((p2.toUInt32 >>> ((16 : Int32) &&& 31).toUInt32).toInt32) &&& (255 : Int32)) % (3 : Int32)) := ⟨_, rfl⟩
    rw [← hn_va2]
    show own_G p.tables e below _ (s₁.setTop (mkF m 45 #[.val (.int p1), .val (.int p2), .val (.int p3), .val (.int (1 : Int32)), .val (.int va0), .val (.int va1), .val (.int va2), .unset, .unset, .unset, .unset, .unset] []))
    have hd_va2 : va2 ∈ own_D := by rw [hn_va2]; exact own_in3 _
    refine own_via (S' := s₁.setTop (mkF m 54 #[.val (.int p1), .val (.int p2), .val (.int p3), .val (.int (1 : Int32)), .val (.int va0), .val (.int va1), .val (.int va2), .val (.int ((p3 &&& (255 : Int32)) % (3 : Int32))), .unset, .unset, .unset, .unset] [])) (fun t k => ?_) ?_
    · show Steps p.tables e below (s₁.setTop (mkF m 45 #[.val (.int p1), .val (.int p2), .val (.int p3), .val (.int (1 : Int32)), .val (.int va0), .val (.int va1), .val (.int va2), .unset, .unset, .unset, .unset, .unset] [])) t
      refine XS.iloadN X0.here hx rfl (hb hby at_45) rfl ?_
      show Steps p.tables e below (s₁.setTop (mkF m 46 #[.val (.int p1), .val (.int p2), .val (.int p3), .val (.int (1 : Int32)), .val (.int va0), .val (.int va1), .val (.int va2), .unset, .unset, .unset, .unset, .unset] [(.int p3)])) t
      refine XS.sipush X0.here hx rfl (hb hby at_46) ?_
      show Steps p.tables e below (s₁.setTop (mkF m 49 #[.val (.int p1), .val (.int p2), .val (.int p3), .val (.int (1 : Int32)), .val (.int va0), .val (.int va1), .val (.int va2), .unset, .unset, .unset, .unset, .unset] [(.int (255 : Int32)), (.int p3)])) t
      refine XS.iand X0.here hx rfl (hb hby at_49) rfl ?_
      show Steps p.tables e below (s₁.setTop (mkF m 50 #[.val (.int p1), .val (.int p2), .val (.int p3), .val (.int (1 : Int32)), .val (.int va0), .val (.int va1), .val (.int va2), .unset, .unset, .unset, .unset, .unset] [(.int (p3 &&& (255 : Int32)))])) t
      refine XS.iconst X0.here hx rfl (hb hby at_50) ?_
      show Steps p.tables e below (s₁.setTop (mkF m 51 #[.val (.int p1), .val (.int p2), .val (.int p3), .val (.int (1 : Int32)), .val (.int va0), .val (.int va1), .val (.int va2), .unset, .unset, .unset, .unset, .unset] [(.int (3 : Int32)), (.int (p3 &&& (255 : Int32)))])) t
      refine iremM X0 hx rfl (hb hby at_51) rfl (by decide) ?_
      show Steps p.tables e below (s₁.setTop (mkF m 52 #[.val (.int p1), .val (.int p2), .val (.int p3), .val (.int (1 : Int32)), .val (.int va0), .val (.int va1), .val (.int va2), .unset, .unset, .unset, .unset, .unset] [(.int ((p3 &&& (255 : Int32)) % (3 : Int32)))])) t
      refine XS.istore X0.here hx rfl (hb hby at_52) rfl (l' := #[.val (.int p1), .val (.int p2), .val (.int p3), .val (.int (1 : Int32)), .val (.int va0), .val (.int va1), .val (.int va2), .val (.int ((p3 &&& (255 : Int32)) % (3 : Int32))), .unset, .unset, .unset, .unset]) rfl ?_
      exact k
    obtain ⟨vb0, hn_vb0⟩ : ∃ z, z = ((p3 &&& (255 : Int32)) % (3 : Int32)) := ⟨_, rfl⟩
    rw [← hn_vb0]
    show own_G p.tables e below _ (s₁.setTop (mkF m 54 #[.val (.int p1), .val (.int p2), .val (.int p3), .val (.int (1 : Int32)), .val (.int va0), .val (.int va1), .val (.int va2), .val (.int vb0), .unset, .unset, .unset, .unset] []))
    have hd_vb0 : vb0 ∈ own_D := by rw [hn_vb0]; exact own_in3 _
    refine own_via (S' := s₁.setTop (mkF m 66 #[.val (.int p1), .val (.int p2), .val (.int p3), .val (.int (1 : Int32)), .val (.int va0), .val (.int va1), .val (.int va2), .val (.int vb0), .val (.int ((((p3.toUInt32 >>> ((8 : Int32) &&& 31).toUInt32).toInt32) &&& (255 : Int32)) % (3 : Int32))), .unset, .unset, .unset] [])) (fun t k => ?_) ?_
    · show Steps p.tables e below (s₁.setTop (mkF m 54 #[.val (.int p1), .val (.int p2), .val (.int p3), .val (.int (1 : Int32)), .val (.int va0), .val (.int va1), .val (.int va2), .val (.int vb0), .unset, .unset, .unset, .unset] [])) t
      refine XS.iloadN X0.here hx rfl (hb hby at_54) rfl ?_
      show Steps p.tables e below (s₁.setTop (mkF m 55 #[.val (.int p1), .val (.int p2), .val (.int p3), .val (.int (1 : Int32)), .val (.int va0), .val (.int va1), .val (.int va2), .val (.int vb0), .unset, .unset, .unset, .unset] [(.int p3)])) t
      refine XS.bipush X0.here hx rfl (hb hby at_55) ?_
      show Steps p.tables e below (s₁.setTop (mkF m 57 #[.val (.int p1), .val (.int p2), .val (.int p3), .val (.int (1 : Int32)), .val (.int va0), .val (.int va1), .val (.int va2), .val (.int vb0), .unset, .unset, .unset, .unset] [(.int (8 : Int32)), (.int p3)])) t
      refine XS.iushr X0.here hx rfl (hb hby at_57) rfl ?_
      show Steps p.tables e below (s₁.setTop (mkF m 58 #[.val (.int p1), .val (.int p2), .val (.int p3), .val (.int (1 : Int32)), .val (.int va0), .val (.int va1), .val (.int va2), .val (.int vb0), .unset, .unset, .unset, .unset] [(.int ((p3.toUInt32 >>> ((8 : Int32) &&& 31).toUInt32).toInt32))])) t
      refine XS.sipush X0.here hx rfl (hb hby at_58) ?_
      show Steps p.tables e below (s₁.setTop (mkF m 61 #[.val (.int p1), .val (.int p2), .val (.int p3), .val (.int (1 : Int32)), .val (.int va0), .val (.int va1), .val (.int va2), .val (.int vb0), .unset, .unset, .unset, .unset] [(.int (255 : Int32)), (.int ((p3.toUInt32 >>> ((8 : Int32) &&& 31).toUInt32).toInt32))])) t
      refine XS.iand X0.here hx rfl (hb hby at_61) rfl ?_
      show Steps p.tables e below (s₁.setTop (mkF m 62 #[.val (.int p1), .val (.int p2), .val (.int p3), .val (.int (1 : Int32)), .val (.int va0), .val (.int va1), .val (.int va2), .val (.int vb0), .unset, .unset, .unset, .unset] [(.int (((p3.toUInt32 >>> ((8 : Int32) &&& 31).toUInt32).toInt32) &&& (255 : Int32)))])) t
      refine XS.iconst X0.here hx rfl (hb hby at_62) ?_
      show Steps p.tables e below (s₁.setTop (mkF m 63 #[.val (.int p1), .val (.int p2), .val (.int p3), .val (.int (1 : Int32)), .val (.int va0), .val (.int va1), .val (.int va2), .val (.int vb0), .unset, .unset, .unset, .unset] [(.int (3 : Int32)), (.int (((p3.toUInt32 >>> ((8 : Int32) &&& 31).toUInt32).toInt32) &&& (255 : Int32)))])) t
      refine iremM X0 hx rfl (hb hby at_63) rfl (by decide) ?_
      show Steps p.tables e below (s₁.setTop (mkF m 64 #[.val (.int p1), .val (.int p2), .val (.int p3), .val (.int (1 : Int32)), .val (.int va0), .val (.int va1), .val (.int va2), .val (.int vb0), .unset, .unset, .unset, .unset] [(.int ((((p3.toUInt32 >>> ((8 : Int32) &&& 31).toUInt32).toInt32) &&& (255 : Int32)) % (3 : Int32)))])) t
      refine XS.istore X0.here hx rfl (hb hby at_64) rfl (l' := #[.val (.int p1), .val (.int p2), .val (.int p3), .val (.int (1 : Int32)), .val (.int va0), .val (.int va1), .val (.int va2), .val (.int vb0), .val (.int ((((p3.toUInt32 >>> ((8 : Int32) &&& 31).toUInt32).toInt32) &&& (255 : Int32)) % (3 : Int32))), .unset, .unset, .unset]) rfl ?_
      exact k
    obtain ⟨vb1, hn_vb1⟩ : ∃ z, z = ((((p3.toUInt32 >>> ((8 : Int32) &&& 31).toUInt32).toInt32) &&& (255 : Int32)) % (3 : Int32)) := ⟨_, rfl⟩
    rw [← hn_vb1]
    show own_G p.tables e below _ (s₁.setTop (mkF m 66 #[.val (.int p1), .val (.int p2), .val (.int p3), .val (.int (1 : Int32)), .val (.int va0), .val (.int va1), .val (.int va2), .val (.int vb0), .val (.int vb1), .unset, .unset, .unset] []))
    have hd_vb1 : vb1 ∈ own_D := by rw [hn_vb1]; exact own_in3 _
    refine own_via (S' := s₁.setTop (mkF m 78 #[.val (.int p1), .val (.int p2), .val (.int p3), .val (.int (1 : Int32)), .val (.int va0), .val (.int va1), .val (.int va2), .val (.int vb0), .val (.int vb1), .val (.int ((((p3.toUInt32 >>> ((16 : Int32) &&& 31).toUInt32).toInt32) &&& (255 : Int32)) % (3 : Int32))), .unset, .unset] [])) (fun t k => ?_) ?_
    · show Steps p.tables e below (s₁.setTop (mkF m 66 #[.val (.int p1), .val (.int p2), .val (.int p3), .val (.int (1 : Int32)), .val (.int va0), .val (.int va1), .val (.int va2), .val (.int vb0), .val (.int vb1), .unset, .unset, .unset] [])) t
      refine XS.iloadN X0.here hx rfl (hb hby at_66) rfl ?_
      show Steps p.tables e below (s₁.setTop (mkF m 67 #[.val (.int p1), .val (.int p2), .val (.int p3), .val (.int (1 : Int32)), .val (.int va0), .val (.int va1), .val (.int va2), .val (.int vb0), .val (.int vb1), .unset, .unset, .unset] [(.int p3)])) t
      refine XS.bipush X0.here hx rfl (hb hby at_67) ?_
      show Steps p.tables e below (s₁.setTop (mkF m 69 #[.val (.int p1), .val (.int p2), .val (.int p3), .val (.int (1 : Int32)), .val (.int va0), .val (.int va1), .val (.int va2), .val (.int vb0), .val (.int vb1), .unset, .unset, .unset] [(.int (16 : Int32)), (.int p3)])) t
      refine XS.iushr X0.here hx rfl (hb hby at_69) rfl ?_
      show Steps p.tables e below (s₁.setTop (mkF m 70 #[.val (.int p1), .val (.int p2), .val (.int p3), .val (.int (1 : Int32)), .val (.int va0), .val (.int va1), .val (.int va2), .val (.int vb0), .val (.int vb1), .unset, .unset, .unset] [(.int ((p3.toUInt32 >>> ((16 : Int32) &&& 31).toUInt32).toInt32))])) t
      refine XS.sipush X0.here hx rfl (hb hby at_70) ?_
      show Steps p.tables e below (s₁.setTop (mkF m 73 #[.val (.int p1), .val (.int p2), .val (.int p3), .val (.int (1 : Int32)), .val (.int va0), .val (.int va1), .val (.int va2), .val (.int vb0), .val (.int vb1), .unset, .unset, .unset] [(.int (255 : Int32)), (.int ((p3.toUInt32 >>> ((16 : Int32) &&& 31).toUInt32).toInt32))])) t
      refine XS.iand X0.here hx rfl (hb hby at_73) rfl ?_
      show Steps p.tables e below (s₁.setTop (mkF m 74 #[.val (.int p1), .val (.int p2), .val (.int p3), .val (.int (1 : Int32)), .val (.int va0), .val (.int va1), .val (.int va2), .val (.int vb0), .val (.int vb1), .unset, .unset, .unset] [(.int (((p3.toUInt32 >>> ((16 : Int32) &&& 31).toUInt32).toInt32) &&& (255 : Int32)))])) t
      refine XS.iconst X0.here hx rfl (hb hby at_74) ?_
      show Steps p.tables e below (s₁.setTop (mkF m 75 #[.val (.int p1), .val (.int p2), .val (.int p3), .val (.int (1 : Int32)), .val (.int va0), .val (.int va1), .val (.int va2), .val (.int vb0), .val (.int vb1), .unset, .unset, .unset] [(.int (3 : Int32)), (.int (((p3.toUInt32 >>> ((16 : Int32) &&& 31).toUInt32).toInt32) &&& (255 : Int32)))])) t
      refine iremM X0 hx rfl (hb hby at_75) rfl (by decide) ?_
      show Steps p.tables e below (s₁.setTop (mkF m 76 #[.val (.int p1), .val (.int p2), .val (.int p3), .val (.int (1 : Int32)), .val (.int va0), .val (.int va1), .val (.int va2), .val (.int vb0), .val (.int vb1), .unset, .unset, .unset] [(.int ((((p3.toUInt32 >>> ((16 : Int32) &&& 31).toUInt32).toInt32) &&& (255 : Int32)) % (3 : Int32)))])) t
      refine XS.istore X0.here hx rfl (hb hby at_76) rfl (l' := #[.val (.int p1), .val (.int p2), .val (.int p3), .val (.int (1 : Int32)), .val (.int va0), .val (.int va1), .val (.int va2), .val (.int vb0), .val (.int vb1), .val (.int ((((p3.toUInt32 >>> ((16 : Int32) &&& 31).toUInt32).toInt32) &&& (255 : Int32)) % (3 : Int32))), .unset, .unset]) rfl ?_
      exact k
    obtain ⟨vb2, hn_vb2⟩ : ∃ z, z = ((((p3.toUInt32 >>> ((16 : Int32) &&& 31).toUInt32).toInt32) &&& (255 : Int32)) % (3 : Int32)) := ⟨_, rfl⟩
    rw [← hn_vb2]
    show own_G p.tables e below _ (s₁.setTop (mkF m 78 #[.val (.int p1), .val (.int p2), .val (.int p3), .val (.int (1 : Int32)), .val (.int va0), .val (.int va1), .val (.int va2), .val (.int vb0), .val (.int vb1), .val (.int vb2), .unset, .unset] []))
    have hd_vb2 : vb2 ∈ own_D := by rw [hn_vb2]; exact own_in3 _
    have hkn := own_alln va0 hd_va0 va1 hd_va1 va2 hd_va2 vb0 hd_vb0 vb1 hd_vb1 vb2 hd_vb2
    have hki := own_alli va0 hd_va0 va1 hd_va1 va2 hd_va2 vb0 hd_vb0 vb1 hd_vb1 vb2 hd_vb2
    refine own_via (S' := s₁.setTop (mkF m 79 #[.val (.int p1), .val (.int p2), .val (.int p3), .val (.int (1 : Int32)), .val (.int va0), .val (.int va1), .val (.int va2), .val (.int vb0), .val (.int vb1), .val (.int vb2), .unset, .unset] [(.int (1 : Int32))])) (fun t k => ?_) ?_
    · show Steps p.tables e below (s₁.setTop (mkF m 78 #[.val (.int p1), .val (.int p2), .val (.int p3), .val (.int (1 : Int32)), .val (.int va0), .val (.int va1), .val (.int va2), .val (.int vb0), .val (.int vb1), .val (.int vb2), .unset, .unset] [])) t
      refine XS.iloadN X0.here hx rfl (hb hby at_78) rfl ?_
      exact k
    refine own_via (S' := s₁.setTop (mkF m 82 #[.val (.int p1), .val (.int p2), .val (.int p3), .val (.int (1 : Int32)), .val (.int va0), .val (.int va1), .val (.int va2), .val (.int vb0), .val (.int vb1), .val (.int vb2), .unset, .unset] [])) (fun t k => XS.ifNo (g := (mkF m 79 #[.val (.int p1), .val (.int p2), .val (.int p3), .val (.int (1 : Int32)), .val (.int va0), .val (.int va1), .val (.int va2), .val (.int vb0), .val (.int vb1), .val (.int vb2), .unset, .unset] [(.int (1 : Int32))])) X0.here hx rfl (hb hby at_79) rfl ((if0 _ _).trans (feq (by decide : ¬ ((1 : Int32) = (0 : Int32)))).1) k) ?_
    refine own_via (S' := s₁.setTop (mkF m 84 #[.val (.int p1), .val (.int p2), .val (.int p3), .val (.int (1 : Int32)), .val (.int va0), .val (.int va1), .val (.int va2), .val (.int vb0), .val (.int vb1), .val (.int vb2), .unset, .unset] [(.int (0 : Int32)), (.int (3 : Int32))])) (fun t k => ?_) ?_
    · show Steps p.tables e below (s₁.setTop (mkF m 82 #[.val (.int p1), .val (.int p2), .val (.int p3), .val (.int (1 : Int32)), .val (.int va0), .val (.int va1), .val (.int va2), .val (.int vb0), .val (.int vb1), .val (.int vb2), .unset, .unset] [])) t
      refine XS.iconst X0.here hx rfl (hb hby at_82) ?_
      show Steps p.tables e below (s₁.setTop (mkF m 83 #[.val (.int p1), .val (.int p2), .val (.int p3), .val (.int (1 : Int32)), .val (.int va0), .val (.int va1), .val (.int va2), .val (.int vb0), .val (.int vb1), .val (.int vb2), .unset, .unset] [(.int (3 : Int32))])) t
      refine XS.iconst X0.here hx rfl (hb hby at_83) ?_
      exact k
    obtain ⟨_, _, ⟨T25, L25, k25, n25⟩, -, X25, ⟨Lc25, hQ25, l25, y25, z25⟩, st25⟩ := Jvm.LawKit.callS X0 hx (y := (⟨"com/example/fenceline/fenceline/Digraph", "withInEdges", "(II)Lcom/example/fenceline/fenceline/Digraph;"⟩ : MethodName)) hown (mvT hZ (hw _ (List.mem_of_getElem? (i := 59) rfl))) (mvT hZ (hw _ (List.mem_of_getElem? (i := 60) rfl))) (mvT hZ (hw _ (List.mem_of_getElem? (i := 2) rfl))) (mvT hZ (hw _ (List.mem_of_getElem? (i := 61) rfl))) (by decide) (backOf (W := 0) (rm11 l Z a0 hw [] h0 n0 (Nat.le_trans Z0 K0.1)) hZ (hw _ (List.mem_of_getElem? (i := 61) rfl)) (hw _ (List.mem_of_getElem? (i := 2) rfl)) (by decide) (by decide)) (g := (mkF m 84 #[.val (.int p1), .val (.int p2), .val (.int p3), .val (.int (1 : Int32)), .val (.int va0), .val (.int va1), .val (.int va2), .val (.int vb0), .val (.int vb1), .val (.int vb2), .unset, .unset] [(.int (0 : Int32)), (.int (3 : Int32))])) rfl (by rw [hml]; rfl) (argsL := [(.int (3 : Int32)), (.int (0 : Int32))]) (rest := []) (lenOf pd_8 rfl) rfl (by show 2 * 0 + _ ≤ _; exact Nat.le_of_eq rfl) (hb hby at_84) (fun _ _ => ⟨rfl, e0, (by decide : 0 + 7 ≤ _), (by decide : 0 + 77 ≤ _)⟩)
    dsimp only [Pt.U, Pt.locs, Pt.cells, Pt.slots] at X25 l25 y25 z25 st25 hQ25
    subst l25 y25 z25
    obtain ⟨r25, rfl, Nq25, Kc25, gr25, hr25, b025, b125, b225, b325, b425, b525, k025, k125, k225, k325, k425, k525, gg25_0, gg25_1, gg25_2, gg25_3, gg25_4, gg25_5, hs25_0, hs25_1, hs25_2, hs25_3, hs25_4, hs25_5, nn25_0, nn25_1, nn25_2, nn25_3, nn25_4, nn25_5, nn25_6, nn25_7, nn25_8, nn25_9, nn25_10, nn25_11, nn25_12, nn25_13, nn25_14, nn25_15, nn25_16, nn25_17, nn25_18, nn25_19, nn25_20, DS25⟩ := hQ25
    have N25 := Fr.app N0 Nq25
    refine own_via st25 ?_
    show own_G p.tables e below _ (T25.setTop (mkF m 87 #[.val (.int p1), .val (.int p2), .val (.int p3), .val (.int (1 : Int32)), .val (.int va0), .val (.int va1), .val (.int va2), .val (.int vb0), .val (.int vb1), .val (.int vb2), .unset, .unset] [(.ref r25)]))
    have K25 : Keep h0 T25.heap [] := Keep.trans K0 Kc25 all0
    have sr25 : h0.size ≤ r25 := Nat.le_trans K0.1 hr25
    have sz25_0 : h0.size ≤ b025 := Nat.le_trans K0.1 hs25_0
    have sz25_1 : h0.size ≤ b125 := Nat.le_trans K0.1 hs25_1
    have sz25_2 : h0.size ≤ b225 := Nat.le_trans K0.1 hs25_2
    have sz25_3 : h0.size ≤ b325 := Nat.le_trans K0.1 hs25_3
    have sz25_4 : h0.size ≤ b425 := Nat.le_trans K0.1 hs25_4
    have sz25_5 : h0.size ≤ b525 := Nat.le_trans K0.1 hs25_5
    obtain ⟨D25_0, D25_1, D25_2, D25_3, D25_4, D25_5, D25_6, D25_7, D25_8, D25_9, D25_10, D25_11, D25_12, D25_13⟩ := id DS25
    refine own_via (S' := T25.setTop (mkF m 107 #[.val (.int p1), .val (.int p2), .val (.int p3), .val (.int (1 : Int32)), .val (.int va0), .val (.int va1), .val (.int va2), .val (.int vb0), .val (.int vb1), .val (.int vb2), .val (.ref r25), .unset] [(.int vb0), (.int va0), (.ref r25)])) (fun t k => ?_) ?_
    · show Steps p.tables e below (T25.setTop (mkF m 87 #[.val (.int p1), .val (.int p2), .val (.int p3), .val (.int (1 : Int32)), .val (.int va0), .val (.int va1), .val (.int va2), .val (.int vb0), .val (.int vb1), .val (.int vb2), .unset, .unset] [(.ref r25)])) t
      refine XS.goto X25.here hx rfl (pc0 := 87) (pc' := 99) rfl (hb hby at_87) (by decide) (by decide) ?_
      show Steps p.tables e below (T25.setTop (mkF m 99 #[.val (.int p1), .val (.int p2), .val (.int p3), .val (.int (1 : Int32)), .val (.int va0), .val (.int va1), .val (.int va2), .val (.int vb0), .val (.int vb1), .val (.int vb2), .unset, .unset] [(.ref r25)])) t
      refine XS.astore X25.here hx rfl (hb hby at_99) rfl rfl (l' := #[.val (.int p1), .val (.int p2), .val (.int p3), .val (.int (1 : Int32)), .val (.int va0), .val (.int va1), .val (.int va2), .val (.int vb0), .val (.int vb1), .val (.int vb2), .val (.ref r25), .unset]) rfl ?_
      show Steps p.tables e below (T25.setTop (mkF m 101 #[.val (.int p1), .val (.int p2), .val (.int p3), .val (.int (1 : Int32)), .val (.int va0), .val (.int va1), .val (.int va2), .val (.int vb0), .val (.int vb1), .val (.int vb2), .val (.ref r25), .unset] [])) t
      refine XS.aload X25.here hx rfl (hb hby at_101) rfl rfl ?_
      show Steps p.tables e below (T25.setTop (mkF m 103 #[.val (.int p1), .val (.int p2), .val (.int p3), .val (.int (1 : Int32)), .val (.int va0), .val (.int va1), .val (.int va2), .val (.int vb0), .val (.int vb1), .val (.int vb2), .val (.ref r25), .unset] [(.ref r25)])) t
      refine XS.iload X25.here hx rfl (hb hby at_103) rfl ?_
      show Steps p.tables e below (T25.setTop (mkF m 105 #[.val (.int p1), .val (.int p2), .val (.int p3), .val (.int (1 : Int32)), .val (.int va0), .val (.int va1), .val (.int va2), .val (.int vb0), .val (.int vb1), .val (.int vb2), .val (.ref r25), .unset] [(.int va0), (.ref r25)])) t
      refine XS.iload X25.here hx rfl (hb hby at_105) rfl ?_
      exact k
    obtain ⟨cq26, kq26, q26a, q26b, q26c⟩ := isOf hZ rfl D25_0
    obtain ⟨_, _, ⟨T26, L26, k26, n26⟩, -, X26, ⟨Lc26, hQ26, l26, y26, z26⟩, st26⟩ := X25.virtualBack hx (y := (⟨"com/example/fenceline/fenceline/Digraph", "addEdge", "(II)V"⟩ : MethodName)) (z := (⟨"com/example/fenceline/fenceline/Digraph", "addEdge", "(II)V"⟩ : MethodName)) hown (mvT hZ (hw _ (List.mem_of_getElem? (i := 31) rfl))) (mvT hZ (hw _ (List.mem_of_getElem? (i := 32) rfl))) (notFace_of_selects (args := #[]) (mvT hZ (hw _ (List.mem_of_getElem? (i := 34) rfl)))) (mvT hZ (hw _ (List.mem_of_getElem? (i := 34) rfl))) (mvT hZ (hw _ (List.mem_of_getElem? (i := 33) rfl))) (by decide) (backOf (W := 0) (rm6i l Z a0 hw [] r25 va0 vb0 b025 b125 b225 b325 b425 b525 k025 k125 k225 k325 k425 k525 own_g0i T25.heap n0 (Nat.le_trans Z0 K25.1) ⟨D25_0, D25_1, D25_2, D25_3, D25_4, D25_5, D25_6, D25_7, D25_8, D25_9, D25_10, D25_11, D25_12, D25_13⟩ nn25_0 nn25_1 nn25_2 nn25_3 nn25_4 nn25_5 nn25_6 nn25_7 nn25_8 nn25_9 nn25_10 nn25_11 nn25_12 nn25_13 nn25_14 nn25_15 nn25_16 nn25_17 nn25_18 nn25_19 nn25_20 gr25 gg25_0 gg25_1 gg25_2 gg25_3 gg25_4 gg25_5 (hki.1)) hZ (hw _ (List.mem_of_getElem? (i := 35) rfl)) (hw _ (List.mem_of_getElem? (i := 2) rfl)) (by decide) (by decide)) q26a q26c (g := (mkF m 107 #[.val (.int p1), .val (.int p2), .val (.int p3), .val (.int (1 : Int32)), .val (.int va0), .val (.int va1), .val (.int va2), .val (.int vb0), .val (.int vb1), .val (.int vb2), .val (.ref r25), .unset] [(.int vb0), (.int va0), (.ref r25)])) rfl (by rw [hml]; rfl) (Steps.refl _) (argsL := [(.int va0), (.int vb0)]) (rest := []) (lenOf pd_3 rfl) rfl (by show 2 * 0 + _ ≤ _; exact Nat.le_of_eq rfl) (hb hby at_107) (fun _ _ => ⟨rfl, rfl, (by decide : 7 + 0 ≤ _), (by decide : 77 + 0 ≤ _)⟩)
    dsimp only [Pt.U, Pt.locs, Pt.cells, Pt.slots] at X26 l26 y26 z26 st26 hQ26
    subst l26 y26 z26
    obtain ⟨rfl, Nq26, Kc26, Sv26, hS26, DS26⟩ := hQ26
    have N26 := Fr.app N25 Nq26
    refine own_via (fun t k => st26.trans k) ?_
    show own_G p.tables e below _ (T26.setTop (mkF m 110 #[.val (.int p1), .val (.int p2), .val (.int p3), .val (.int (1 : Int32)), .val (.int va0), .val (.int va1), .val (.int va2), .val (.int vb0), .val (.int vb1), .val (.int vb2), .val (.ref r25), .unset] []))
    have K26 : Keep h0 T26.heap [] := Keep.trans K25 Kc26 (allS (Or.inr sr25) (allS (Or.inr sz25_0) (allS (Or.inr sz25_1) (allS (Or.inr sz25_2) (allS (Or.inr sz25_3) (allS (Or.inr sz25_4) (allS (Or.inr sz25_5) all0)))))))
    obtain ⟨D26_0, D26_1, D26_2, D26_3, D26_4, D26_5, D26_6, D26_7, D26_8, D26_9, D26_10, D26_11, D26_12, D26_13⟩ := id DS26
    refine own_via (S' := T26.setTop (mkF m 116 #[.val (.int p1), .val (.int p2), .val (.int p3), .val (.int (1 : Int32)), .val (.int va0), .val (.int va1), .val (.int va2), .val (.int vb0), .val (.int vb1), .val (.int vb2), .val (.ref r25), .unset] [(.int vb1), (.int va1), (.ref r25)])) (fun t k => ?_) ?_
    · show Steps p.tables e below (T26.setTop (mkF m 110 #[.val (.int p1), .val (.int p2), .val (.int p3), .val (.int (1 : Int32)), .val (.int va0), .val (.int va1), .val (.int va2), .val (.int vb0), .val (.int vb1), .val (.int vb2), .val (.ref r25), .unset] [])) t
      refine XS.aload X26.here hx rfl (hb hby at_110) rfl rfl ?_
      show Steps p.tables e below (T26.setTop (mkF m 112 #[.val (.int p1), .val (.int p2), .val (.int p3), .val (.int (1 : Int32)), .val (.int va0), .val (.int va1), .val (.int va2), .val (.int vb0), .val (.int vb1), .val (.int vb2), .val (.ref r25), .unset] [(.ref r25)])) t
      refine XS.iload X26.here hx rfl (hb hby at_112) rfl ?_
      show Steps p.tables e below (T26.setTop (mkF m 114 #[.val (.int p1), .val (.int p2), .val (.int p3), .val (.int (1 : Int32)), .val (.int va0), .val (.int va1), .val (.int va2), .val (.int vb0), .val (.int vb1), .val (.int vb2), .val (.ref r25), .unset] [(.int va1), (.ref r25)])) t
      refine XS.iload X26.here hx rfl (hb hby at_114) rfl ?_
      exact k
    obtain ⟨cq27, kq27, q27a, q27b, q27c⟩ := isOf hZ rfl D26_0
    obtain ⟨_, _, ⟨T27, L27, k27, n27⟩, -, X27, ⟨Lc27, hQ27, l27, y27, z27⟩, st27⟩ := X26.virtualBack hx (y := (⟨"com/example/fenceline/fenceline/Digraph", "addEdge", "(II)V"⟩ : MethodName)) (z := (⟨"com/example/fenceline/fenceline/Digraph", "addEdge", "(II)V"⟩ : MethodName)) hown (mvT hZ (hw _ (List.mem_of_getElem? (i := 31) rfl))) (mvT hZ (hw _ (List.mem_of_getElem? (i := 32) rfl))) (notFace_of_selects (args := #[]) (mvT hZ (hw _ (List.mem_of_getElem? (i := 34) rfl)))) (mvT hZ (hw _ (List.mem_of_getElem? (i := 34) rfl))) (mvT hZ (hw _ (List.mem_of_getElem? (i := 33) rfl))) (by decide) (backOf (W := 0) (rm6i l Z a0 hw [] r25 va1 vb1 b025 b125 b225 b325 b425 b525 k025 k125 k225 k325 k425 k525 Sv26 T26.heap n0 (Nat.le_trans Z0 K26.1) ⟨D26_0, D26_1, D26_2, D26_3, D26_4, D26_5, D26_6, D26_7, D26_8, D26_9, D26_10, D26_11, D26_12, D26_13⟩ nn25_0 nn25_1 nn25_2 nn25_3 nn25_4 nn25_5 nn25_6 nn25_7 nn25_8 nn25_9 nn25_10 nn25_11 nn25_12 nn25_13 nn25_14 nn25_15 nn25_16 nn25_17 nn25_18 nn25_19 nn25_20 gr25 gg25_0 gg25_1 gg25_2 gg25_3 gg25_4 gg25_5 (by rw [hS26]; exact hki.2.1)) hZ (hw _ (List.mem_of_getElem? (i := 35) rfl)) (hw _ (List.mem_of_getElem? (i := 2) rfl)) (by decide) (by decide)) q27a q27c (g := (mkF m 116 #[.val (.int p1), .val (.int p2), .val (.int p3), .val (.int (1 : Int32)), .val (.int va0), .val (.int va1), .val (.int va2), .val (.int vb0), .val (.int vb1), .val (.int vb2), .val (.ref r25), .unset] [(.int vb1), (.int va1), (.ref r25)])) rfl (by rw [hml]; rfl) (Steps.refl _) (argsL := [(.int va1), (.int vb1)]) (rest := []) (lenOf pd_3 rfl) rfl (by show 2 * 0 + _ ≤ _; exact Nat.le_of_eq rfl) (hb hby at_116) (fun _ _ => ⟨rfl, rfl, (by decide : 7 + 0 ≤ _), (by decide : 77 + 0 ≤ _)⟩)
    dsimp only [Pt.U, Pt.locs, Pt.cells, Pt.slots] at X27 l27 y27 z27 st27 hQ27
    subst l27 y27 z27
    obtain ⟨rfl, Nq27, Kc27, Sv27, hS27, DS27⟩ := hQ27
    have N27 := Fr.app N26 Nq27
    refine own_via (fun t k => st27.trans k) ?_
    show own_G p.tables e below _ (T27.setTop (mkF m 119 #[.val (.int p1), .val (.int p2), .val (.int p3), .val (.int (1 : Int32)), .val (.int va0), .val (.int va1), .val (.int va2), .val (.int vb0), .val (.int vb1), .val (.int vb2), .val (.ref r25), .unset] []))
    have K27 : Keep h0 T27.heap [] := Keep.trans K26 Kc27 (allS (Or.inr sr25) (allS (Or.inr sz25_0) (allS (Or.inr sz25_1) (allS (Or.inr sz25_2) (allS (Or.inr sz25_3) (allS (Or.inr sz25_4) (allS (Or.inr sz25_5) all0)))))))
    obtain ⟨D27_0, D27_1, D27_2, D27_3, D27_4, D27_5, D27_6, D27_7, D27_8, D27_9, D27_10, D27_11, D27_12, D27_13⟩ := id DS27
    refine own_via (S' := T27.setTop (mkF m 125 #[.val (.int p1), .val (.int p2), .val (.int p3), .val (.int (1 : Int32)), .val (.int va0), .val (.int va1), .val (.int va2), .val (.int vb0), .val (.int vb1), .val (.int vb2), .val (.ref r25), .unset] [(.int vb2), (.int va2), (.ref r25)])) (fun t k => ?_) ?_
    · show Steps p.tables e below (T27.setTop (mkF m 119 #[.val (.int p1), .val (.int p2), .val (.int p3), .val (.int (1 : Int32)), .val (.int va0), .val (.int va1), .val (.int va2), .val (.int vb0), .val (.int vb1), .val (.int vb2), .val (.ref r25), .unset] [])) t
      refine XS.aload X27.here hx rfl (hb hby at_119) rfl rfl ?_
      show Steps p.tables e below (T27.setTop (mkF m 121 #[.val (.int p1), .val (.int p2), .val (.int p3), .val (.int (1 : Int32)), .val (.int va0), .val (.int va1), .val (.int va2), .val (.int vb0), .val (.int vb1), .val (.int vb2), .val (.ref r25), .unset] [(.ref r25)])) t
      refine XS.iload X27.here hx rfl (hb hby at_121) rfl ?_
      show Steps p.tables e below (T27.setTop (mkF m 123 #[.val (.int p1), .val (.int p2), .val (.int p3), .val (.int (1 : Int32)), .val (.int va0), .val (.int va1), .val (.int va2), .val (.int vb0), .val (.int vb1), .val (.int vb2), .val (.ref r25), .unset] [(.int va2), (.ref r25)])) t
      refine XS.iload X27.here hx rfl (hb hby at_123) rfl ?_
      exact k
    obtain ⟨cq28, kq28, q28a, q28b, q28c⟩ := isOf hZ rfl D27_0
    obtain ⟨_, _, ⟨T28, L28, k28, n28⟩, -, X28, ⟨Lc28, hQ28, l28, y28, z28⟩, st28⟩ := X27.virtualBack hx (y := (⟨"com/example/fenceline/fenceline/Digraph", "addEdge", "(II)V"⟩ : MethodName)) (z := (⟨"com/example/fenceline/fenceline/Digraph", "addEdge", "(II)V"⟩ : MethodName)) hown (mvT hZ (hw _ (List.mem_of_getElem? (i := 31) rfl))) (mvT hZ (hw _ (List.mem_of_getElem? (i := 32) rfl))) (notFace_of_selects (args := #[]) (mvT hZ (hw _ (List.mem_of_getElem? (i := 34) rfl)))) (mvT hZ (hw _ (List.mem_of_getElem? (i := 34) rfl))) (mvT hZ (hw _ (List.mem_of_getElem? (i := 33) rfl))) (by decide) (backOf (W := 0) (rm6i l Z a0 hw [] r25 va2 vb2 b025 b125 b225 b325 b425 b525 k025 k125 k225 k325 k425 k525 Sv27 T27.heap n0 (Nat.le_trans Z0 K27.1) ⟨D27_0, D27_1, D27_2, D27_3, D27_4, D27_5, D27_6, D27_7, D27_8, D27_9, D27_10, D27_11, D27_12, D27_13⟩ nn25_0 nn25_1 nn25_2 nn25_3 nn25_4 nn25_5 nn25_6 nn25_7 nn25_8 nn25_9 nn25_10 nn25_11 nn25_12 nn25_13 nn25_14 nn25_15 nn25_16 nn25_17 nn25_18 nn25_19 nn25_20 gr25 gg25_0 gg25_1 gg25_2 gg25_3 gg25_4 gg25_5 (by rw [hS27, hS26]; exact hki.2.2.1)) hZ (hw _ (List.mem_of_getElem? (i := 35) rfl)) (hw _ (List.mem_of_getElem? (i := 2) rfl)) (by decide) (by decide)) q28a q28c (g := (mkF m 125 #[.val (.int p1), .val (.int p2), .val (.int p3), .val (.int (1 : Int32)), .val (.int va0), .val (.int va1), .val (.int va2), .val (.int vb0), .val (.int vb1), .val (.int vb2), .val (.ref r25), .unset] [(.int vb2), (.int va2), (.ref r25)])) rfl (by rw [hml]; rfl) (Steps.refl _) (argsL := [(.int va2), (.int vb2)]) (rest := []) (lenOf pd_3 rfl) rfl (by show 2 * 0 + _ ≤ _; exact Nat.le_of_eq rfl) (hb hby at_125) (fun _ _ => ⟨rfl, rfl, (by decide : 7 + 0 ≤ _), (by decide : 77 + 0 ≤ _)⟩)
    dsimp only [Pt.U, Pt.locs, Pt.cells, Pt.slots] at X28 l28 y28 z28 st28 hQ28
    subst l28 y28 z28
    obtain ⟨rfl, Nq28, Kc28, Sv28, hS28, DS28⟩ := hQ28
    have N28 := Fr.app N27 Nq28
    refine own_via (fun t k => st28.trans k) ?_
    show own_G p.tables e below _ (T28.setTop (mkF m 128 #[.val (.int p1), .val (.int p2), .val (.int p3), .val (.int (1 : Int32)), .val (.int va0), .val (.int va1), .val (.int va2), .val (.int vb0), .val (.int vb1), .val (.int vb2), .val (.ref r25), .unset] []))
    have K28 : Keep h0 T28.heap [] := Keep.trans K27 Kc28 (allS (Or.inr sr25) (allS (Or.inr sz25_0) (allS (Or.inr sz25_1) (allS (Or.inr sz25_2) (allS (Or.inr sz25_3) (allS (Or.inr sz25_4) (allS (Or.inr sz25_5) all0)))))))
    obtain ⟨D28_0, D28_1, D28_2, D28_3, D28_4, D28_5, D28_6, D28_7, D28_8, D28_9, D28_10, D28_11, D28_12, D28_13⟩ := id DS28
    refine own_via (S' := T28.setTop (mkF m 130 #[.val (.int p1), .val (.int p2), .val (.int p3), .val (.int (1 : Int32)), .val (.int va0), .val (.int va1), .val (.int va2), .val (.int vb0), .val (.int vb1), .val (.int vb2), .val (.ref r25), .unset] [(.ref r25)])) (fun t k => ?_) ?_
    · show Steps p.tables e below (T28.setTop (mkF m 128 #[.val (.int p1), .val (.int p2), .val (.int p3), .val (.int (1 : Int32)), .val (.int va0), .val (.int va1), .val (.int va2), .val (.int vb0), .val (.int vb1), .val (.int vb2), .val (.ref r25), .unset] [])) t
      refine XS.aload X28.here hx rfl (hb hby at_128) rfl rfl ?_
      exact k
    obtain ⟨cq29, kq29, q29a, q29b, q29c⟩ := isOf hZ rfl D28_0
    obtain ⟨_, _, ⟨T29, L29, k29, n29⟩, -, X29, ⟨Lc29, hQ29, l29, y29, z29⟩, st29⟩ := X28.virtualBack hx (y := (⟨"com/example/fenceline/fenceline/Digraph", "removeLastEdge", "()V"⟩ : MethodName)) (z := (⟨"com/example/fenceline/fenceline/Digraph", "removeLastEdge", "()V"⟩ : MethodName)) hown (mvT hZ (hw _ (List.mem_of_getElem? (i := 40) rfl))) (mvT hZ (hw _ (List.mem_of_getElem? (i := 41) rfl))) (notFace_of_selects (args := #[]) (mvT hZ (hw _ (List.mem_of_getElem? (i := 43) rfl)))) (mvT hZ (hw _ (List.mem_of_getElem? (i := 43) rfl))) (mvT hZ (hw _ (List.mem_of_getElem? (i := 42) rfl))) (by decide) (backOf (W := 0) (rm7i l Z a0 hw [] r25 b025 b125 b225 b325 b425 b525 k025 k125 k225 k325 k425 k525 Sv28 T28.heap n0 (Nat.le_trans Z0 K28.1) ⟨D28_0, D28_1, D28_2, D28_3, D28_4, D28_5, D28_6, D28_7, D28_8, D28_9, D28_10, D28_11, D28_12, D28_13⟩ nn25_0 nn25_1 nn25_2 nn25_3 nn25_4 nn25_5 nn25_6 nn25_7 nn25_8 nn25_9 nn25_10 nn25_11 nn25_12 nn25_13 nn25_14 nn25_15 nn25_16 nn25_17 nn25_18 nn25_19 nn25_20 gr25 gg25_0 gg25_1 gg25_2 gg25_3 gg25_4 gg25_5 (by rw [hS28, hS27, hS26]; exact hki.2.2.2.1)) hZ (hw _ (List.mem_of_getElem? (i := 44) rfl)) (hw _ (List.mem_of_getElem? (i := 2) rfl)) (by decide) (by decide)) q29a q29c (g := (mkF m 130 #[.val (.int p1), .val (.int p2), .val (.int p3), .val (.int (1 : Int32)), .val (.int va0), .val (.int va1), .val (.int va2), .val (.int vb0), .val (.int vb1), .val (.int vb2), .val (.ref r25), .unset] [(.ref r25)])) rfl (by rw [hml]; rfl) (Steps.refl _) (argsL := []) (rest := []) (lenOf pd_4 rfl) rfl (by show 2 * 0 + _ ≤ _; exact Nat.le_of_eq rfl) (hb hby at_130) (fun _ _ => ⟨rfl, rfl, (by decide : 7 + 0 ≤ _), (by decide : 77 + 0 ≤ _)⟩)
    dsimp only [Pt.U, Pt.locs, Pt.cells, Pt.slots] at X29 l29 y29 z29 st29 hQ29
    subst l29 y29 z29
    obtain ⟨rfl, Nq29, Kc29, Sv29, hS29, DS29⟩ := hQ29
    have N29 := Fr.app N28 Nq29
    refine own_via (fun t k => st29.trans k) ?_
    show own_G p.tables e below _ (T29.setTop (mkF m 133 #[.val (.int p1), .val (.int p2), .val (.int p3), .val (.int (1 : Int32)), .val (.int va0), .val (.int va1), .val (.int va2), .val (.int vb0), .val (.int vb1), .val (.int vb2), .val (.ref r25), .unset] []))
    have K29 : Keep h0 T29.heap [] := Keep.trans K28 Kc29 (allS (Or.inr sr25) (allS (Or.inr sz25_0) (allS (Or.inr sz25_1) (allS (Or.inr sz25_2) (allS (Or.inr sz25_3) (allS (Or.inr sz25_4) (allS (Or.inr sz25_5) all0)))))))
    obtain ⟨D29_0, D29_1, D29_2, D29_3, D29_4, D29_5, D29_6, D29_7, D29_8, D29_9, D29_10, D29_11, D29_12, D29_13⟩ := id DS29
    refine own_via (S' := T29.setTop (mkF m 135 #[.val (.int p1), .val (.int p2), .val (.int p3), .val (.int (1 : Int32)), .val (.int va0), .val (.int va1), .val (.int va2), .val (.int vb0), .val (.int vb1), .val (.int vb2), .val (.ref r25), .unset] [(.ref r25)])) (fun t k => ?_) ?_
    · show Steps p.tables e below (T29.setTop (mkF m 133 #[.val (.int p1), .val (.int p2), .val (.int p3), .val (.int (1 : Int32)), .val (.int va0), .val (.int va1), .val (.int va2), .val (.int vb0), .val (.int vb1), .val (.int vb2), .val (.ref r25), .unset] [])) t
      refine XS.aload X29.here hx rfl (hb hby at_133) rfl rfl ?_
      exact k
    obtain ⟨cq30, kq30, q30a, q30b, q30c⟩ := isOf hZ rfl D29_0
    obtain ⟨_, _, ⟨T30, L30, k30, n30⟩, -, X30, ⟨Lc30, hQ30, l30, y30, z30⟩, st30⟩ := X29.virtualBack hx (y := (⟨"com/example/fenceline/fenceline/Digraph", "edgeCount", "()I"⟩ : MethodName)) (z := (⟨"com/example/fenceline/fenceline/Digraph", "edgeCount", "()I"⟩ : MethodName)) hown (mvT hZ (hw _ (List.mem_of_getElem? (i := 45) rfl))) (mvT hZ (hw _ (List.mem_of_getElem? (i := 46) rfl))) (notFace_of_selects (args := #[]) (mvT hZ (hw _ (List.mem_of_getElem? (i := 48) rfl)))) (mvT hZ (hw _ (List.mem_of_getElem? (i := 48) rfl))) (mvT hZ (hw _ (List.mem_of_getElem? (i := 47) rfl))) (by decide) (backOf (W := 0) (rm8 l Z a0 hw [] r25 Sv29.2.2.2.2.2.2 T29.heap n0 (Nat.le_trans Z0 K29.1) D29_7) hZ (hw _ (List.mem_of_getElem? (i := 49) rfl)) (hw _ (List.mem_of_getElem? (i := 2) rfl)) (by decide) (by decide)) q30a q30c (g := (mkF m 135 #[.val (.int p1), .val (.int p2), .val (.int p3), .val (.int (1 : Int32)), .val (.int va0), .val (.int va1), .val (.int va2), .val (.int vb0), .val (.int vb1), .val (.int vb2), .val (.ref r25), .unset] [(.ref r25)])) rfl (by rw [hml]; rfl) (Steps.refl _) (argsL := []) (rest := []) (lenOf pd_5 rfl) rfl (by show 2 * 0 + _ ≤ _; exact Nat.le_of_eq rfl) (hb hby at_135) (fun _ _ => ⟨rfl, rfl, (by decide : 7 + 0 ≤ _), (by decide : 77 + 0 ≤ _)⟩)
    dsimp only [Pt.U, Pt.locs, Pt.cells, Pt.slots] at X30 l30 y30 z30 st30 hQ30
    subst l30 y30 z30
    obtain ⟨rfl, Nq30, hh30⟩ := hQ30
    have N30 := Fr.app N29 Nq30
    refine own_via (fun t k => st30.trans k) ?_
    show own_G p.tables e below _ (T30.setTop (mkF m 138 #[.val (.int p1), .val (.int p2), .val (.int p3), .val (.int (1 : Int32)), .val (.int va0), .val (.int va1), .val (.int va2), .val (.int vb0), .val (.int vb1), .val (.int vb2), .val (.ref r25), .unset] [(.int Sv29.2.2.2.2.2.2)]))
    refine own_via (S' := T30.setTop (mkF m 139 #[.val (.int p1), .val (.int p2), .val (.int p3), .val (.int (1 : Int32)), .val (.int va0), .val (.int va1), .val (.int va2), .val (.int vb0), .val (.int vb1), .val (.int vb2), .val (.ref r25), .unset] [(.int (2 : Int32)), (.int Sv29.2.2.2.2.2.2)])) (fun t k => ?_) ?_
    · show Steps p.tables e below (T30.setTop (mkF m 138 #[.val (.int p1), .val (.int p2), .val (.int p3), .val (.int (1 : Int32)), .val (.int va0), .val (.int va1), .val (.int va2), .val (.int vb0), .val (.int vb1), .val (.int vb2), .val (.ref r25), .unset] [(.int Sv29.2.2.2.2.2.2)])) t
      refine XS.iconst X30.here hx rfl (hb hby at_138) ?_
      exact k
    refine own_via (S' := T30.setTop (mkF m 142 #[.val (.int p1), .val (.int p2), .val (.int p3), .val (.int (1 : Int32)), .val (.int va0), .val (.int va1), .val (.int va2), .val (.int vb0), .val (.int vb1), .val (.int vb2), .val (.ref r25), .unset] [])) (fun t k => XS.icmpNo (g := (mkF m 139 #[.val (.int p1), .val (.int p2), .val (.int p3), .val (.int (1 : Int32)), .val (.int va0), .val (.int va1), .val (.int va2), .val (.int vb0), .val (.int vb1), .val (.int vb2), .val (.ref r25), .unset] [(.int (2 : Int32)), (.int Sv29.2.2.2.2.2.2)])) X30.here hx rfl (hb hby at_139) rfl (teq (by rw [hS29, hS28, hS27, hS26]; exact hki.2.2.2.2.1)).2 k) ?_
    refine own_via (S' := T30.setTop (mkF m 151 #[.val (.int p1), .val (.int p2), .val (.int p3), .val (.int (1 : Int32)), .val (.int va0), .val (.int va1), .val (.int va2), .val (.int vb0), .val (.int vb1), .val (.int vb2), .val (.ref r25), .val (.int (1 : Int32))] [(.int (1 : Int32))])) (fun t k => ?_) ?_
    · show Steps p.tables e below (T30.setTop (mkF m 142 #[.val (.int p1), .val (.int p2), .val (.int p3), .val (.int (1 : Int32)), .val (.int va0), .val (.int va1), .val (.int va2), .val (.int vb0), .val (.int vb1), .val (.int vb2), .val (.ref r25), .unset] [])) t
      refine XS.iconst X30.here hx rfl (hb hby at_142) ?_
      show Steps p.tables e below (T30.setTop (mkF m 143 #[.val (.int p1), .val (.int p2), .val (.int p3), .val (.int (1 : Int32)), .val (.int va0), .val (.int va1), .val (.int va2), .val (.int vb0), .val (.int vb1), .val (.int vb2), .val (.ref r25), .unset] [(.int (1 : Int32))])) t
      refine XS.goto X30.here hx rfl (pc0 := 143) (pc' := 147) rfl (hb hby at_143) (by decide) (by decide) ?_
      show Steps p.tables e below (T30.setTop (mkF m 147 #[.val (.int p1), .val (.int p2), .val (.int p3), .val (.int (1 : Int32)), .val (.int va0), .val (.int va1), .val (.int va2), .val (.int vb0), .val (.int vb1), .val (.int vb2), .val (.ref r25), .unset] [(.int (1 : Int32))])) t
      refine XS.istore X30.here hx rfl (hb hby at_147) rfl (l' := #[.val (.int p1), .val (.int p2), .val (.int p3), .val (.int (1 : Int32)), .val (.int va0), .val (.int va1), .val (.int va2), .val (.int vb0), .val (.int vb1), .val (.int vb2), .val (.ref r25), .val (.int (1 : Int32))]) rfl ?_
      show Steps p.tables e below (T30.setTop (mkF m 149 #[.val (.int p1), .val (.int p2), .val (.int p3), .val (.int (1 : Int32)), .val (.int va0), .val (.int va1), .val (.int va2), .val (.int vb0), .val (.int vb1), .val (.int vb2), .val (.ref r25), .val (.int (1 : Int32))] [])) t
      refine XS.iload X30.here hx rfl (hb hby at_149) rfl ?_
      exact k
    refine own_via (S' := T30.setTop (mkF m 154 #[.val (.int p1), .val (.int p2), .val (.int p3), .val (.int (1 : Int32)), .val (.int va0), .val (.int va1), .val (.int va2), .val (.int vb0), .val (.int vb1), .val (.int vb2), .val (.ref r25), .val (.int (1 : Int32))] [])) (fun t k => XS.ifNo (g := (mkF m 151 #[.val (.int p1), .val (.int p2), .val (.int p3), .val (.int (1 : Int32)), .val (.int va0), .val (.int va1), .val (.int va2), .val (.int vb0), .val (.int vb1), .val (.int vb2), .val (.ref r25), .val (.int (1 : Int32))] [(.int (1 : Int32))])) X30.here hx rfl (hb hby at_151) rfl ((if0 _ _).trans (feq (by decide : ¬ ((1 : Int32) = (0 : Int32)))).1) k) ?_
    refine own_via (S' := T30.setTop (mkF m 157 #[.val (.int p1), .val (.int p2), .val (.int p3), .val (.int (1 : Int32)), .val (.int va0), .val (.int va1), .val (.int va2), .val (.int vb0), .val (.int vb1), .val (.int vb2), .val (.ref r25), .val (.int (1 : Int32))] [(.int (0 : Int32)), (.ref r25)])) (fun t k => ?_) ?_
    · show Steps p.tables e below (T30.setTop (mkF m 154 #[.val (.int p1), .val (.int p2), .val (.int p3), .val (.int (1 : Int32)), .val (.int va0), .val (.int va1), .val (.int va2), .val (.int vb0), .val (.int vb1), .val (.int vb2), .val (.ref r25), .val (.int (1 : Int32))] [])) t
      refine XS.aload X30.here hx rfl (hb hby at_154) rfl rfl ?_
      show Steps p.tables e below (T30.setTop (mkF m 156 #[.val (.int p1), .val (.int p2), .val (.int p3), .val (.int (1 : Int32)), .val (.int va0), .val (.int va1), .val (.int va2), .val (.int vb0), .val (.int vb1), .val (.int vb2), .val (.ref r25), .val (.int (1 : Int32))] [(.ref r25)])) t
      refine XS.iconst X30.here hx rfl (hb hby at_156) ?_
      exact k
    obtain ⟨cq33, kq33, q33a, q33b, q33c⟩ := isOf hZ hh30 D29_0
    obtain ⟨_, _, ⟨T33, L33, k33, n33⟩, -, X33, ⟨Lc33, hQ33, l33, y33, z33⟩, st33⟩ := X30.virtualBack hx (y := (⟨"com/example/fenceline/fenceline/Digraph", "firstEdge", "(I)I"⟩ : MethodName)) (z := (⟨"com/example/fenceline/fenceline/Digraph", "firstEdge", "(I)I"⟩ : MethodName)) hown (mvT hZ (hw _ (List.mem_of_getElem? (i := 50) rfl))) (mvT hZ (hw _ (List.mem_of_getElem? (i := 51) rfl))) (notFace_of_selects (args := #[]) (mvT hZ (hw _ (List.mem_of_getElem? (i := 53) rfl)))) (mvT hZ (hw _ (List.mem_of_getElem? (i := 53) rfl))) (mvT hZ (hw _ (List.mem_of_getElem? (i := 52) rfl))) (by decide) (backOf (W := 0) (rm9 l Z a0 hw [] r25 (0 : Int32) b025 k025 Sv29.1 T29.heap n0 (Nat.le_trans Z0 K29.1) D29_1 D29_8 ⟨by decide, by decide⟩) hZ (hw _ (List.mem_of_getElem? (i := 54) rfl)) (hw _ (List.mem_of_getElem? (i := 2) rfl)) (by decide) (by decide)) q33a q33c (g := (mkF m 157 #[.val (.int p1), .val (.int p2), .val (.int p3), .val (.int (1 : Int32)), .val (.int va0), .val (.int va1), .val (.int va2), .val (.int vb0), .val (.int vb1), .val (.int vb2), .val (.ref r25), .val (.int (1 : Int32))] [(.int (0 : Int32)), (.ref r25)])) rfl (by rw [hml]; rfl) (Steps.refl _) (argsL := [(.int (0 : Int32))]) (rest := []) (lenOf pd_6 rfl) rfl (by show 2 * 0 + _ ≤ _; exact Nat.le_of_eq rfl) (hb hby at_157) (fun _ _ => ⟨rfl, hh30, (by decide : 7 + 0 ≤ _), (by decide : 77 + 0 ≤ _)⟩)
    dsimp only [Pt.U, Pt.locs, Pt.cells, Pt.slots] at X33 l33 y33 z33 st33 hQ33
    subst l33 y33 z33
    obtain ⟨rfl, Nq33, hh33⟩ := hQ33
    have N33 := Fr.app N30 Nq33
    refine own_via (fun t k => st33.trans k) ?_
    show own_G p.tables e below _ (T33.setTop (mkF m 160 #[.val (.int p1), .val (.int p2), .val (.int p3), .val (.int (1 : Int32)), .val (.int va0), .val (.int va1), .val (.int va2), .val (.int vb0), .val (.int vb1), .val (.int vb2), .val (.ref r25), .val (.int (1 : Int32))] [(.int (Sv29.1.getD ((0 : Int32)).toNatClampNeg 0))]))
    refine own_via (S' := T33.setTop (mkF m 165 #[.val (.int p1), .val (.int p2), .val (.int p3), .val (.int (1 : Int32)), .val (.int va0), .val (.int va1), .val (.int va2), .val (.int vb0), .val (.int vb1), .val (.int vb2), .val (.ref r25), .val (.int (1 : Int32))] [(.int va1), (.int va0), (.int (0 : Int32)), (.int (Sv29.1.getD ((0 : Int32)).toNatClampNeg 0))])) (fun t k => ?_) ?_
    · show Steps p.tables e below (T33.setTop (mkF m 160 #[.val (.int p1), .val (.int p2), .val (.int p3), .val (.int (1 : Int32)), .val (.int va0), .val (.int va1), .val (.int va2), .val (.int vb0), .val (.int vb1), .val (.int vb2), .val (.ref r25), .val (.int (1 : Int32))] [(.int (Sv29.1.getD ((0 : Int32)).toNatClampNeg 0))])) t
      refine XS.iconst X33.here hx rfl (hb hby at_160) ?_
      show Steps p.tables e below (T33.setTop (mkF m 161 #[.val (.int p1), .val (.int p2), .val (.int p3), .val (.int (1 : Int32)), .val (.int va0), .val (.int va1), .val (.int va2), .val (.int vb0), .val (.int vb1), .val (.int vb2), .val (.ref r25), .val (.int (1 : Int32))] [(.int (0 : Int32)), (.int (Sv29.1.getD ((0 : Int32)).toNatClampNeg 0))])) t
      refine XS.iload X33.here hx rfl (hb hby at_161) rfl ?_
      show Steps p.tables e below (T33.setTop (mkF m 163 #[.val (.int p1), .val (.int p2), .val (.int p3), .val (.int (1 : Int32)), .val (.int va0), .val (.int va1), .val (.int va2), .val (.int vb0), .val (.int vb1), .val (.int vb2), .val (.ref r25), .val (.int (1 : Int32))] [(.int va0), (.int (0 : Int32)), (.int (Sv29.1.getD ((0 : Int32)).toNatClampNeg 0))])) t
      refine XS.iload X33.here hx rfl (hb hby at_163) rfl ?_
      exact k
    obtain ⟨_, _, ⟨T34, L34, k34, n34⟩, -, X34, ⟨Lc34, hQ34, l34, y34, z34⟩, st34⟩ := Jvm.LawKit.callS X33 hx (y := (⟨"com/example/fenceline/fenceline/DigraphRemoveLastEdgePinLaw", "expect", "(III)I"⟩ : MethodName)) hown (mvT hZ (hw _ (List.mem_of_getElem? (i := 55) rfl))) (mvT hZ (hw _ (List.mem_of_getElem? (i := 56) rfl))) (mvT hZ (hw _ (List.mem_of_getElem? (i := 57) rfl))) (mvT hZ (hw _ (List.mem_of_getElem? (i := 58) rfl))) (by decide) (backOf (W := 1) (rm10 l Z a0 hw [] (0 : Int32) va0 va1 T29.heap n0 (Nat.le_trans Z0 K29.1)) hZ (hw _ (List.mem_of_getElem? (i := 58) rfl)) (hw _ (List.mem_of_getElem? (i := 57) rfl)) (by decide) (by decide)) (g := (mkF m 165 #[.val (.int p1), .val (.int p2), .val (.int p3), .val (.int (1 : Int32)), .val (.int va0), .val (.int va1), .val (.int va2), .val (.int vb0), .val (.int vb1), .val (.int vb2), .val (.ref r25), .val (.int (1 : Int32))] [(.int va1), (.int va0), (.int (0 : Int32)), (.int (Sv29.1.getD ((0 : Int32)).toNatClampNeg 0))])) rfl (by rw [hml]; rfl) (argsL := [(.int (0 : Int32)), (.int va0), (.int va1)]) (rest := [(.int (Sv29.1.getD ((0 : Int32)).toNatClampNeg 0))]) (lenOf pd_7 rfl) rfl (by show 2 * 0 + _ ≤ _; exact Nat.le_of_eq rfl) (hb hby at_165) (fun _ _ => ⟨rfl, hh33, (by decide : 7 + 0 ≤ _), (by decide : 77 + 0 ≤ _)⟩)
    dsimp only [Pt.U, Pt.locs, Pt.cells, Pt.slots] at X34 l34 y34 z34 st34 hQ34
    subst l34 y34 z34
    obtain ⟨rfl, Nq34, hh34⟩ := hQ34
    have N34 := Fr.app N33 Nq34
    refine own_via st34 ?_
    show own_G p.tables e below _ (T34.setTop (mkF m 168 #[.val (.int p1), .val (.int p2), .val (.int p3), .val (.int (1 : Int32)), .val (.int va0), .val (.int va1), .val (.int va2), .val (.int vb0), .val (.int vb1), .val (.int vb2), .val (.ref r25), .val (.int (1 : Int32))] [(.int (own_ex (0 : Int32) va0 va1)), (.int (Sv29.1.getD ((0 : Int32)).toNatClampNeg 0))]))
    refine own_via (S' := T34.setTop (mkF m 171 #[.val (.int p1), .val (.int p2), .val (.int p3), .val (.int (1 : Int32)), .val (.int va0), .val (.int va1), .val (.int va2), .val (.int vb0), .val (.int vb1), .val (.int vb2), .val (.ref r25), .val (.int (1 : Int32))] [])) (fun t k => XS.icmpNo (g := (mkF m 168 #[.val (.int p1), .val (.int p2), .val (.int p3), .val (.int (1 : Int32)), .val (.int va0), .val (.int va1), .val (.int va2), .val (.int vb0), .val (.int vb1), .val (.int vb2), .val (.ref r25), .val (.int (1 : Int32))] [(.int (own_ex (0 : Int32) va0 va1)), (.int (Sv29.1.getD ((0 : Int32)).toNatClampNeg 0))])) X34.here hx rfl (hb hby at_168) rfl (teq (by rw [hS29, hS28, hS27, hS26]; exact hki.2.2.2.2.2.1 0 (by decide))).2 k) ?_
    refine own_via (S' := T34.setTop (mkF m 180 #[.val (.int p1), .val (.int p2), .val (.int p3), .val (.int (1 : Int32)), .val (.int va0), .val (.int va1), .val (.int va2), .val (.int vb0), .val (.int vb1), .val (.int vb2), .val (.ref r25), .val (.int (1 : Int32))] [(.int (1 : Int32))])) (fun t k => ?_) ?_
    · show Steps p.tables e below (T34.setTop (mkF m 171 #[.val (.int p1), .val (.int p2), .val (.int p3), .val (.int (1 : Int32)), .val (.int va0), .val (.int va1), .val (.int va2), .val (.int vb0), .val (.int vb1), .val (.int vb2), .val (.ref r25), .val (.int (1 : Int32))] [])) t
      refine XS.iconst X34.here hx rfl (hb hby at_171) ?_
      show Steps p.tables e below (T34.setTop (mkF m 172 #[.val (.int p1), .val (.int p2), .val (.int p3), .val (.int (1 : Int32)), .val (.int va0), .val (.int va1), .val (.int va2), .val (.int vb0), .val (.int vb1), .val (.int vb2), .val (.ref r25), .val (.int (1 : Int32))] [(.int (1 : Int32))])) t
      refine XS.goto X34.here hx rfl (pc0 := 172) (pc' := 176) rfl (hb hby at_172) (by decide) (by decide) ?_
      show Steps p.tables e below (T34.setTop (mkF m 176 #[.val (.int p1), .val (.int p2), .val (.int p3), .val (.int (1 : Int32)), .val (.int va0), .val (.int va1), .val (.int va2), .val (.int vb0), .val (.int vb1), .val (.int vb2), .val (.ref r25), .val (.int (1 : Int32))] [(.int (1 : Int32))])) t
      refine XS.istore X34.here hx rfl (hb hby at_176) rfl (l' := #[.val (.int p1), .val (.int p2), .val (.int p3), .val (.int (1 : Int32)), .val (.int va0), .val (.int va1), .val (.int va2), .val (.int vb0), .val (.int vb1), .val (.int vb2), .val (.ref r25), .val (.int (1 : Int32))]) rfl ?_
      show Steps p.tables e below (T34.setTop (mkF m 178 #[.val (.int p1), .val (.int p2), .val (.int p3), .val (.int (1 : Int32)), .val (.int va0), .val (.int va1), .val (.int va2), .val (.int vb0), .val (.int vb1), .val (.int vb2), .val (.ref r25), .val (.int (1 : Int32))] [])) t
      refine XS.iload X34.here hx rfl (hb hby at_178) rfl ?_
      exact k
    refine own_via (S' := T34.setTop (mkF m 183 #[.val (.int p1), .val (.int p2), .val (.int p3), .val (.int (1 : Int32)), .val (.int va0), .val (.int va1), .val (.int va2), .val (.int vb0), .val (.int vb1), .val (.int vb2), .val (.ref r25), .val (.int (1 : Int32))] [])) (fun t k => XS.ifNo (g := (mkF m 180 #[.val (.int p1), .val (.int p2), .val (.int p3), .val (.int (1 : Int32)), .val (.int va0), .val (.int va1), .val (.int va2), .val (.int vb0), .val (.int vb1), .val (.int vb2), .val (.ref r25), .val (.int (1 : Int32))] [(.int (1 : Int32))])) X34.here hx rfl (hb hby at_180) rfl ((if0 _ _).trans (feq (by decide : ¬ ((1 : Int32) = (0 : Int32)))).1) k) ?_
    refine own_via (S' := T34.setTop (mkF m 186 #[.val (.int p1), .val (.int p2), .val (.int p3), .val (.int (1 : Int32)), .val (.int va0), .val (.int va1), .val (.int va2), .val (.int vb0), .val (.int vb1), .val (.int vb2), .val (.ref r25), .val (.int (1 : Int32))] [(.int (1 : Int32)), (.ref r25)])) (fun t k => ?_) ?_
    · show Steps p.tables e below (T34.setTop (mkF m 183 #[.val (.int p1), .val (.int p2), .val (.int p3), .val (.int (1 : Int32)), .val (.int va0), .val (.int va1), .val (.int va2), .val (.int vb0), .val (.int vb1), .val (.int vb2), .val (.ref r25), .val (.int (1 : Int32))] [])) t
      refine XS.aload X34.here hx rfl (hb hby at_183) rfl rfl ?_
      show Steps p.tables e below (T34.setTop (mkF m 185 #[.val (.int p1), .val (.int p2), .val (.int p3), .val (.int (1 : Int32)), .val (.int va0), .val (.int va1), .val (.int va2), .val (.int vb0), .val (.int vb1), .val (.int vb2), .val (.ref r25), .val (.int (1 : Int32))] [(.ref r25)])) t
      refine XS.iconst X34.here hx rfl (hb hby at_185) ?_
      exact k
    obtain ⟨cq37, kq37, q37a, q37b, q37c⟩ := isOf hZ hh34 D29_0
    obtain ⟨_, _, ⟨T37, L37, k37, n37⟩, -, X37, ⟨Lc37, hQ37, l37, y37, z37⟩, st37⟩ := X34.virtualBack hx (y := (⟨"com/example/fenceline/fenceline/Digraph", "firstEdge", "(I)I"⟩ : MethodName)) (z := (⟨"com/example/fenceline/fenceline/Digraph", "firstEdge", "(I)I"⟩ : MethodName)) hown (mvT hZ (hw _ (List.mem_of_getElem? (i := 50) rfl))) (mvT hZ (hw _ (List.mem_of_getElem? (i := 51) rfl))) (notFace_of_selects (args := #[]) (mvT hZ (hw _ (List.mem_of_getElem? (i := 53) rfl)))) (mvT hZ (hw _ (List.mem_of_getElem? (i := 53) rfl))) (mvT hZ (hw _ (List.mem_of_getElem? (i := 52) rfl))) (by decide) (backOf (W := 0) (rm9 l Z a0 hw [] r25 (1 : Int32) b025 k025 Sv29.1 T29.heap n0 (Nat.le_trans Z0 K29.1) D29_1 D29_8 ⟨by decide, by decide⟩) hZ (hw _ (List.mem_of_getElem? (i := 54) rfl)) (hw _ (List.mem_of_getElem? (i := 2) rfl)) (by decide) (by decide)) q37a q37c (g := (mkF m 186 #[.val (.int p1), .val (.int p2), .val (.int p3), .val (.int (1 : Int32)), .val (.int va0), .val (.int va1), .val (.int va2), .val (.int vb0), .val (.int vb1), .val (.int vb2), .val (.ref r25), .val (.int (1 : Int32))] [(.int (1 : Int32)), (.ref r25)])) rfl (by rw [hml]; rfl) (Steps.refl _) (argsL := [(.int (1 : Int32))]) (rest := []) (lenOf pd_6 rfl) rfl (by show 2 * 0 + _ ≤ _; exact Nat.le_of_eq rfl) (hb hby at_186) (fun _ _ => ⟨rfl, hh34, (by decide : 7 + 0 ≤ _), (by decide : 77 + 0 ≤ _)⟩)
    dsimp only [Pt.U, Pt.locs, Pt.cells, Pt.slots] at X37 l37 y37 z37 st37 hQ37
    subst l37 y37 z37
    obtain ⟨rfl, Nq37, hh37⟩ := hQ37
    have N37 := Fr.app N34 Nq37
    refine own_via (fun t k => st37.trans k) ?_
    show own_G p.tables e below _ (T37.setTop (mkF m 189 #[.val (.int p1), .val (.int p2), .val (.int p3), .val (.int (1 : Int32)), .val (.int va0), .val (.int va1), .val (.int va2), .val (.int vb0), .val (.int vb1), .val (.int vb2), .val (.ref r25), .val (.int (1 : Int32))] [(.int (Sv29.1.getD ((1 : Int32)).toNatClampNeg 0))]))
    refine own_via (S' := T37.setTop (mkF m 194 #[.val (.int p1), .val (.int p2), .val (.int p3), .val (.int (1 : Int32)), .val (.int va0), .val (.int va1), .val (.int va2), .val (.int vb0), .val (.int vb1), .val (.int vb2), .val (.ref r25), .val (.int (1 : Int32))] [(.int va1), (.int va0), (.int (1 : Int32)), (.int (Sv29.1.getD ((1 : Int32)).toNatClampNeg 0))])) (fun t k => ?_) ?_
    · show Steps p.tables e below (T37.setTop (mkF m 189 #[.val (.int p1), .val (.int p2), .val (.int p3), .val (.int (1 : Int32)), .val (.int va0), .val (.int va1), .val (.int va2), .val (.int vb0), .val (.int vb1), .val (.int vb2), .val (.ref r25), .val (.int (1 : Int32))] [(.int (Sv29.1.getD ((1 : Int32)).toNatClampNeg 0))])) t
      refine XS.iconst X37.here hx rfl (hb hby at_189) ?_
      show Steps p.tables e below (T37.setTop (mkF m 190 #[.val (.int p1), .val (.int p2), .val (.int p3), .val (.int (1 : Int32)), .val (.int va0), .val (.int va1), .val (.int va2), .val (.int vb0), .val (.int vb1), .val (.int vb2), .val (.ref r25), .val (.int (1 : Int32))] [(.int (1 : Int32)), (.int (Sv29.1.getD ((1 : Int32)).toNatClampNeg 0))])) t
      refine XS.iload X37.here hx rfl (hb hby at_190) rfl ?_
      show Steps p.tables e below (T37.setTop (mkF m 192 #[.val (.int p1), .val (.int p2), .val (.int p3), .val (.int (1 : Int32)), .val (.int va0), .val (.int va1), .val (.int va2), .val (.int vb0), .val (.int vb1), .val (.int vb2), .val (.ref r25), .val (.int (1 : Int32))] [(.int va0), (.int (1 : Int32)), (.int (Sv29.1.getD ((1 : Int32)).toNatClampNeg 0))])) t
      refine XS.iload X37.here hx rfl (hb hby at_192) rfl ?_
      exact k
    obtain ⟨_, _, ⟨T38, L38, k38, n38⟩, -, X38, ⟨Lc38, hQ38, l38, y38, z38⟩, st38⟩ := Jvm.LawKit.callS X37 hx (y := (⟨"com/example/fenceline/fenceline/DigraphRemoveLastEdgePinLaw", "expect", "(III)I"⟩ : MethodName)) hown (mvT hZ (hw _ (List.mem_of_getElem? (i := 55) rfl))) (mvT hZ (hw _ (List.mem_of_getElem? (i := 56) rfl))) (mvT hZ (hw _ (List.mem_of_getElem? (i := 57) rfl))) (mvT hZ (hw _ (List.mem_of_getElem? (i := 58) rfl))) (by decide) (backOf (W := 1) (rm10 l Z a0 hw [] (1 : Int32) va0 va1 T29.heap n0 (Nat.le_trans Z0 K29.1)) hZ (hw _ (List.mem_of_getElem? (i := 58) rfl)) (hw _ (List.mem_of_getElem? (i := 57) rfl)) (by decide) (by decide)) (g := (mkF m 194 #[.val (.int p1), .val (.int p2), .val (.int p3), .val (.int (1 : Int32)), .val (.int va0), .val (.int va1), .val (.int va2), .val (.int vb0), .val (.int vb1), .val (.int vb2), .val (.ref r25), .val (.int (1 : Int32))] [(.int va1), (.int va0), (.int (1 : Int32)), (.int (Sv29.1.getD ((1 : Int32)).toNatClampNeg 0))])) rfl (by rw [hml]; rfl) (argsL := [(.int (1 : Int32)), (.int va0), (.int va1)]) (rest := [(.int (Sv29.1.getD ((1 : Int32)).toNatClampNeg 0))]) (lenOf pd_7 rfl) rfl (by show 2 * 0 + _ ≤ _; exact Nat.le_of_eq rfl) (hb hby at_194) (fun _ _ => ⟨rfl, hh37, (by decide : 7 + 0 ≤ _), (by decide : 77 + 0 ≤ _)⟩)
    dsimp only [Pt.U, Pt.locs, Pt.cells, Pt.slots] at X38 l38 y38 z38 st38 hQ38
    subst l38 y38 z38
    obtain ⟨rfl, Nq38, hh38⟩ := hQ38
    have N38 := Fr.app N37 Nq38
    refine own_via st38 ?_
    show own_G p.tables e below _ (T38.setTop (mkF m 197 #[.val (.int p1), .val (.int p2), .val (.int p3), .val (.int (1 : Int32)), .val (.int va0), .val (.int va1), .val (.int va2), .val (.int vb0), .val (.int vb1), .val (.int vb2), .val (.ref r25), .val (.int (1 : Int32))] [(.int (own_ex (1 : Int32) va0 va1)), (.int (Sv29.1.getD ((1 : Int32)).toNatClampNeg 0))]))
    refine own_via (S' := T38.setTop (mkF m 200 #[.val (.int p1), .val (.int p2), .val (.int p3), .val (.int (1 : Int32)), .val (.int va0), .val (.int va1), .val (.int va2), .val (.int vb0), .val (.int vb1), .val (.int vb2), .val (.ref r25), .val (.int (1 : Int32))] [])) (fun t k => XS.icmpNo (g := (mkF m 197 #[.val (.int p1), .val (.int p2), .val (.int p3), .val (.int (1 : Int32)), .val (.int va0), .val (.int va1), .val (.int va2), .val (.int vb0), .val (.int vb1), .val (.int vb2), .val (.ref r25), .val (.int (1 : Int32))] [(.int (own_ex (1 : Int32) va0 va1)), (.int (Sv29.1.getD ((1 : Int32)).toNatClampNeg 0))])) X38.here hx rfl (hb hby at_197) rfl (teq (by rw [hS29, hS28, hS27, hS26]; exact hki.2.2.2.2.2.1 1 (by decide))).2 k) ?_
    refine own_via (S' := T38.setTop (mkF m 209 #[.val (.int p1), .val (.int p2), .val (.int p3), .val (.int (1 : Int32)), .val (.int va0), .val (.int va1), .val (.int va2), .val (.int vb0), .val (.int vb1), .val (.int vb2), .val (.ref r25), .val (.int (1 : Int32))] [(.int (1 : Int32))])) (fun t k => ?_) ?_
    · show Steps p.tables e below (T38.setTop (mkF m 200 #[.val (.int p1), .val (.int p2), .val (.int p3), .val (.int (1 : Int32)), .val (.int va0), .val (.int va1), .val (.int va2), .val (.int vb0), .val (.int vb1), .val (.int vb2), .val (.ref r25), .val (.int (1 : Int32))] [])) t
      refine XS.iconst X38.here hx rfl (hb hby at_200) ?_
      show Steps p.tables e below (T38.setTop (mkF m 201 #[.val (.int p1), .val (.int p2), .val (.int p3), .val (.int (1 : Int32)), .val (.int va0), .val (.int va1), .val (.int va2), .val (.int vb0), .val (.int vb1), .val (.int vb2), .val (.ref r25), .val (.int (1 : Int32))] [(.int (1 : Int32))])) t
      refine XS.goto X38.here hx rfl (pc0 := 201) (pc' := 205) rfl (hb hby at_201) (by decide) (by decide) ?_
      show Steps p.tables e below (T38.setTop (mkF m 205 #[.val (.int p1), .val (.int p2), .val (.int p3), .val (.int (1 : Int32)), .val (.int va0), .val (.int va1), .val (.int va2), .val (.int vb0), .val (.int vb1), .val (.int vb2), .val (.ref r25), .val (.int (1 : Int32))] [(.int (1 : Int32))])) t
      refine XS.istore X38.here hx rfl (hb hby at_205) rfl (l' := #[.val (.int p1), .val (.int p2), .val (.int p3), .val (.int (1 : Int32)), .val (.int va0), .val (.int va1), .val (.int va2), .val (.int vb0), .val (.int vb1), .val (.int vb2), .val (.ref r25), .val (.int (1 : Int32))]) rfl ?_
      show Steps p.tables e below (T38.setTop (mkF m 207 #[.val (.int p1), .val (.int p2), .val (.int p3), .val (.int (1 : Int32)), .val (.int va0), .val (.int va1), .val (.int va2), .val (.int vb0), .val (.int vb1), .val (.int vb2), .val (.ref r25), .val (.int (1 : Int32))] [])) t
      refine XS.iload X38.here hx rfl (hb hby at_207) rfl ?_
      exact k
    refine own_via (S' := T38.setTop (mkF m 212 #[.val (.int p1), .val (.int p2), .val (.int p3), .val (.int (1 : Int32)), .val (.int va0), .val (.int va1), .val (.int va2), .val (.int vb0), .val (.int vb1), .val (.int vb2), .val (.ref r25), .val (.int (1 : Int32))] [])) (fun t k => XS.ifNo (g := (mkF m 209 #[.val (.int p1), .val (.int p2), .val (.int p3), .val (.int (1 : Int32)), .val (.int va0), .val (.int va1), .val (.int va2), .val (.int vb0), .val (.int vb1), .val (.int vb2), .val (.ref r25), .val (.int (1 : Int32))] [(.int (1 : Int32))])) X38.here hx rfl (hb hby at_209) rfl ((if0 _ _).trans (feq (by decide : ¬ ((1 : Int32) = (0 : Int32)))).1) k) ?_
    refine own_via (S' := T38.setTop (mkF m 215 #[.val (.int p1), .val (.int p2), .val (.int p3), .val (.int (1 : Int32)), .val (.int va0), .val (.int va1), .val (.int va2), .val (.int vb0), .val (.int vb1), .val (.int vb2), .val (.ref r25), .val (.int (1 : Int32))] [(.int (2 : Int32)), (.ref r25)])) (fun t k => ?_) ?_
    · show Steps p.tables e below (T38.setTop (mkF m 212 #[.val (.int p1), .val (.int p2), .val (.int p3), .val (.int (1 : Int32)), .val (.int va0), .val (.int va1), .val (.int va2), .val (.int vb0), .val (.int vb1), .val (.int vb2), .val (.ref r25), .val (.int (1 : Int32))] [])) t
      refine XS.aload X38.here hx rfl (hb hby at_212) rfl rfl ?_
      show Steps p.tables e below (T38.setTop (mkF m 214 #[.val (.int p1), .val (.int p2), .val (.int p3), .val (.int (1 : Int32)), .val (.int va0), .val (.int va1), .val (.int va2), .val (.int vb0), .val (.int vb1), .val (.int vb2), .val (.ref r25), .val (.int (1 : Int32))] [(.ref r25)])) t
      refine XS.iconst X38.here hx rfl (hb hby at_214) ?_
      exact k
    obtain ⟨cq41, kq41, q41a, q41b, q41c⟩ := isOf hZ hh38 D29_0
    obtain ⟨_, _, ⟨T41, L41, k41, n41⟩, -, X41, ⟨Lc41, hQ41, l41, y41, z41⟩, st41⟩ := X38.virtualBack hx (y := (⟨"com/example/fenceline/fenceline/Digraph", "firstEdge", "(I)I"⟩ : MethodName)) (z := (⟨"com/example/fenceline/fenceline/Digraph", "firstEdge", "(I)I"⟩ : MethodName)) hown (mvT hZ (hw _ (List.mem_of_getElem? (i := 50) rfl))) (mvT hZ (hw _ (List.mem_of_getElem? (i := 51) rfl))) (notFace_of_selects (args := #[]) (mvT hZ (hw _ (List.mem_of_getElem? (i := 53) rfl)))) (mvT hZ (hw _ (List.mem_of_getElem? (i := 53) rfl))) (mvT hZ (hw _ (List.mem_of_getElem? (i := 52) rfl))) (by decide) (backOf (W := 0) (rm9 l Z a0 hw [] r25 (2 : Int32) b025 k025 Sv29.1 T29.heap n0 (Nat.le_trans Z0 K29.1) D29_1 D29_8 ⟨by decide, by decide⟩) hZ (hw _ (List.mem_of_getElem? (i := 54) rfl)) (hw _ (List.mem_of_getElem? (i := 2) rfl)) (by decide) (by decide)) q41a q41c (g := (mkF m 215 #[.val (.int p1), .val (.int p2), .val (.int p3), .val (.int (1 : Int32)), .val (.int va0), .val (.int va1), .val (.int va2), .val (.int vb0), .val (.int vb1), .val (.int vb2), .val (.ref r25), .val (.int (1 : Int32))] [(.int (2 : Int32)), (.ref r25)])) rfl (by rw [hml]; rfl) (Steps.refl _) (argsL := [(.int (2 : Int32))]) (rest := []) (lenOf pd_6 rfl) rfl (by show 2 * 0 + _ ≤ _; exact Nat.le_of_eq rfl) (hb hby at_215) (fun _ _ => ⟨rfl, hh38, (by decide : 7 + 0 ≤ _), (by decide : 77 + 0 ≤ _)⟩)
    dsimp only [Pt.U, Pt.locs, Pt.cells, Pt.slots] at X41 l41 y41 z41 st41 hQ41
    subst l41 y41 z41
    obtain ⟨rfl, Nq41, hh41⟩ := hQ41
    have N41 := Fr.app N38 Nq41
    refine own_via (fun t k => st41.trans k) ?_
    show own_G p.tables e below _ (T41.setTop (mkF m 218 #[.val (.int p1), .val (.int p2), .val (.int p3), .val (.int (1 : Int32)), .val (.int va0), .val (.int va1), .val (.int va2), .val (.int vb0), .val (.int vb1), .val (.int vb2), .val (.ref r25), .val (.int (1 : Int32))] [(.int (Sv29.1.getD ((2 : Int32)).toNatClampNeg 0))]))
    refine own_via (S' := T41.setTop (mkF m 223 #[.val (.int p1), .val (.int p2), .val (.int p3), .val (.int (1 : Int32)), .val (.int va0), .val (.int va1), .val (.int va2), .val (.int vb0), .val (.int vb1), .val (.int vb2), .val (.ref r25), .val (.int (1 : Int32))] [(.int va1), (.int va0), (.int (2 : Int32)), (.int (Sv29.1.getD ((2 : Int32)).toNatClampNeg 0))])) (fun t k => ?_) ?_
    · show Steps p.tables e below (T41.setTop (mkF m 218 #[.val (.int p1), .val (.int p2), .val (.int p3), .val (.int (1 : Int32)), .val (.int va0), .val (.int va1), .val (.int va2), .val (.int vb0), .val (.int vb1), .val (.int vb2), .val (.ref r25), .val (.int (1 : Int32))] [(.int (Sv29.1.getD ((2 : Int32)).toNatClampNeg 0))])) t
      refine XS.iconst X41.here hx rfl (hb hby at_218) ?_
      show Steps p.tables e below (T41.setTop (mkF m 219 #[.val (.int p1), .val (.int p2), .val (.int p3), .val (.int (1 : Int32)), .val (.int va0), .val (.int va1), .val (.int va2), .val (.int vb0), .val (.int vb1), .val (.int vb2), .val (.ref r25), .val (.int (1 : Int32))] [(.int (2 : Int32)), (.int (Sv29.1.getD ((2 : Int32)).toNatClampNeg 0))])) t
      refine XS.iload X41.here hx rfl (hb hby at_219) rfl ?_
      show Steps p.tables e below (T41.setTop (mkF m 221 #[.val (.int p1), .val (.int p2), .val (.int p3), .val (.int (1 : Int32)), .val (.int va0), .val (.int va1), .val (.int va2), .val (.int vb0), .val (.int vb1), .val (.int vb2), .val (.ref r25), .val (.int (1 : Int32))] [(.int va0), (.int (2 : Int32)), (.int (Sv29.1.getD ((2 : Int32)).toNatClampNeg 0))])) t
      refine XS.iload X41.here hx rfl (hb hby at_221) rfl ?_
      exact k
    obtain ⟨_, _, ⟨T42, L42, k42, n42⟩, -, X42, ⟨Lc42, hQ42, l42, y42, z42⟩, st42⟩ := Jvm.LawKit.callS X41 hx (y := (⟨"com/example/fenceline/fenceline/DigraphRemoveLastEdgePinLaw", "expect", "(III)I"⟩ : MethodName)) hown (mvT hZ (hw _ (List.mem_of_getElem? (i := 55) rfl))) (mvT hZ (hw _ (List.mem_of_getElem? (i := 56) rfl))) (mvT hZ (hw _ (List.mem_of_getElem? (i := 57) rfl))) (mvT hZ (hw _ (List.mem_of_getElem? (i := 58) rfl))) (by decide) (backOf (W := 1) (rm10 l Z a0 hw [] (2 : Int32) va0 va1 T29.heap n0 (Nat.le_trans Z0 K29.1)) hZ (hw _ (List.mem_of_getElem? (i := 58) rfl)) (hw _ (List.mem_of_getElem? (i := 57) rfl)) (by decide) (by decide)) (g := (mkF m 223 #[.val (.int p1), .val (.int p2), .val (.int p3), .val (.int (1 : Int32)), .val (.int va0), .val (.int va1), .val (.int va2), .val (.int vb0), .val (.int vb1), .val (.int vb2), .val (.ref r25), .val (.int (1 : Int32))] [(.int va1), (.int va0), (.int (2 : Int32)), (.int (Sv29.1.getD ((2 : Int32)).toNatClampNeg 0))])) rfl (by rw [hml]; rfl) (argsL := [(.int (2 : Int32)), (.int va0), (.int va1)]) (rest := [(.int (Sv29.1.getD ((2 : Int32)).toNatClampNeg 0))]) (lenOf pd_7 rfl) rfl (by show 2 * 0 + _ ≤ _; exact Nat.le_of_eq rfl) (hb hby at_223) (fun _ _ => ⟨rfl, hh41, (by decide : 7 + 0 ≤ _), (by decide : 77 + 0 ≤ _)⟩)
    dsimp only [Pt.U, Pt.locs, Pt.cells, Pt.slots] at X42 l42 y42 z42 st42 hQ42
    subst l42 y42 z42
    obtain ⟨rfl, Nq42, hh42⟩ := hQ42
    have N42 := Fr.app N41 Nq42
    refine own_via st42 ?_
    show own_G p.tables e below _ (T42.setTop (mkF m 226 #[.val (.int p1), .val (.int p2), .val (.int p3), .val (.int (1 : Int32)), .val (.int va0), .val (.int va1), .val (.int va2), .val (.int vb0), .val (.int vb1), .val (.int vb2), .val (.ref r25), .val (.int (1 : Int32))] [(.int (own_ex (2 : Int32) va0 va1)), (.int (Sv29.1.getD ((2 : Int32)).toNatClampNeg 0))]))
    refine own_via (S' := T42.setTop (mkF m 229 #[.val (.int p1), .val (.int p2), .val (.int p3), .val (.int (1 : Int32)), .val (.int va0), .val (.int va1), .val (.int va2), .val (.int vb0), .val (.int vb1), .val (.int vb2), .val (.ref r25), .val (.int (1 : Int32))] [])) (fun t k => XS.icmpNo (g := (mkF m 226 #[.val (.int p1), .val (.int p2), .val (.int p3), .val (.int (1 : Int32)), .val (.int va0), .val (.int va1), .val (.int va2), .val (.int vb0), .val (.int vb1), .val (.int vb2), .val (.ref r25), .val (.int (1 : Int32))] [(.int (own_ex (2 : Int32) va0 va1)), (.int (Sv29.1.getD ((2 : Int32)).toNatClampNeg 0))])) X42.here hx rfl (hb hby at_226) rfl (teq (by rw [hS29, hS28, hS27, hS26]; exact hki.2.2.2.2.2.1 2 (by decide))).2 k) ?_
    refine own_via (S' := T42.setTop (mkF m 237 #[.val (.int p1), .val (.int p2), .val (.int p3), .val (.int (1 : Int32)), .val (.int va0), .val (.int va1), .val (.int va2), .val (.int vb0), .val (.int vb1), .val (.int vb2), .val (.ref r25), .val (.int (1 : Int32))] [(.int (1 : Int32))])) (fun t k => ?_) ?_
    · show Steps p.tables e below (T42.setTop (mkF m 229 #[.val (.int p1), .val (.int p2), .val (.int p3), .val (.int (1 : Int32)), .val (.int va0), .val (.int va1), .val (.int va2), .val (.int vb0), .val (.int vb1), .val (.int vb2), .val (.ref r25), .val (.int (1 : Int32))] [])) t
      refine XS.iconst X42.here hx rfl (hb hby at_229) ?_
      show Steps p.tables e below (T42.setTop (mkF m 230 #[.val (.int p1), .val (.int p2), .val (.int p3), .val (.int (1 : Int32)), .val (.int va0), .val (.int va1), .val (.int va2), .val (.int vb0), .val (.int vb1), .val (.int vb2), .val (.ref r25), .val (.int (1 : Int32))] [(.int (1 : Int32))])) t
      refine XS.goto X42.here hx rfl (pc0 := 230) (pc' := 234) rfl (hb hby at_230) (by decide) (by decide) ?_
      show Steps p.tables e below (T42.setTop (mkF m 234 #[.val (.int p1), .val (.int p2), .val (.int p3), .val (.int (1 : Int32)), .val (.int va0), .val (.int va1), .val (.int va2), .val (.int vb0), .val (.int vb1), .val (.int vb2), .val (.ref r25), .val (.int (1 : Int32))] [(.int (1 : Int32))])) t
      refine XS.istore X42.here hx rfl (hb hby at_234) rfl (l' := #[.val (.int p1), .val (.int p2), .val (.int p3), .val (.int (1 : Int32)), .val (.int va0), .val (.int va1), .val (.int va2), .val (.int vb0), .val (.int vb1), .val (.int vb2), .val (.ref r25), .val (.int (1 : Int32))]) rfl ?_
      show Steps p.tables e below (T42.setTop (mkF m 236 #[.val (.int p1), .val (.int p2), .val (.int p3), .val (.int (1 : Int32)), .val (.int va0), .val (.int va1), .val (.int va2), .val (.int vb0), .val (.int vb1), .val (.int vb2), .val (.ref r25), .val (.int (1 : Int32))] [])) t
      refine XS.iloadN X42.here hx rfl (hb hby at_236) rfl ?_
      exact k
    refine own_via (S' := T42.setTop (mkF m 240 #[.val (.int p1), .val (.int p2), .val (.int p3), .val (.int (1 : Int32)), .val (.int va0), .val (.int va1), .val (.int va2), .val (.int vb0), .val (.int vb1), .val (.int vb2), .val (.ref r25), .val (.int (1 : Int32))] [])) (fun t k => XS.ifNo (g := (mkF m 237 #[.val (.int p1), .val (.int p2), .val (.int p3), .val (.int (1 : Int32)), .val (.int va0), .val (.int va1), .val (.int va2), .val (.int vb0), .val (.int vb1), .val (.int vb2), .val (.ref r25), .val (.int (1 : Int32))] [(.int (1 : Int32))])) X42.here hx rfl (hb hby at_237) rfl ((if0 _ _).trans (feq (by decide : ¬ ((1 : Int32) = (0 : Int32)))).1) k) ?_
    refine own_via (S' := T42.setTop (mkF m 242 #[.val (.int p1), .val (.int p2), .val (.int p3), .val (.int (1 : Int32)), .val (.int va0), .val (.int va1), .val (.int va2), .val (.int vb0), .val (.int vb1), .val (.int vb2), .val (.ref r25), .val (.int (1 : Int32))] [(.int (1 : Int32))])) (fun t k => ?_) ?_
    · show Steps p.tables e below (T42.setTop (mkF m 240 #[.val (.int p1), .val (.int p2), .val (.int p3), .val (.int (1 : Int32)), .val (.int va0), .val (.int va1), .val (.int va2), .val (.int vb0), .val (.int vb1), .val (.int vb2), .val (.ref r25), .val (.int (1 : Int32))] [])) t
      refine XS.iload X42.here hx rfl (hb hby at_240) rfl ?_
      exact k
    refine own_via (S' := T42.setTop (mkF m 245 #[.val (.int p1), .val (.int p2), .val (.int p3), .val (.int (1 : Int32)), .val (.int va0), .val (.int va1), .val (.int va2), .val (.int vb0), .val (.int vb1), .val (.int vb2), .val (.ref r25), .val (.int (1 : Int32))] [])) (fun t k => XS.ifNo (g := (mkF m 242 #[.val (.int p1), .val (.int p2), .val (.int p3), .val (.int (1 : Int32)), .val (.int va0), .val (.int va1), .val (.int va2), .val (.int vb0), .val (.int vb1), .val (.int vb2), .val (.ref r25), .val (.int (1 : Int32))] [(.int (1 : Int32))])) X42.here hx rfl (hb hby at_242) rfl ((if0 _ _).trans (feq (by decide : ¬ ((1 : Int32) = (0 : Int32)))).1) k) ?_
    refine own_via (S' := T42.setTop (mkF m 248 #[.val (.int p1), .val (.int p2), .val (.int p3), .val (.int (1 : Int32)), .val (.int va0), .val (.int va1), .val (.int va2), .val (.int vb0), .val (.int vb1), .val (.int vb2), .val (.ref r25), .val (.int (1 : Int32))] [(.int (0 : Int32)), (.ref r25)])) (fun t k => ?_) ?_
    · show Steps p.tables e below (T42.setTop (mkF m 245 #[.val (.int p1), .val (.int p2), .val (.int p3), .val (.int (1 : Int32)), .val (.int va0), .val (.int va1), .val (.int va2), .val (.int vb0), .val (.int vb1), .val (.int vb2), .val (.ref r25), .val (.int (1 : Int32))] [])) t
      refine XS.aload X42.here hx rfl (hb hby at_245) rfl rfl ?_
      show Steps p.tables e below (T42.setTop (mkF m 247 #[.val (.int p1), .val (.int p2), .val (.int p3), .val (.int (1 : Int32)), .val (.int va0), .val (.int va1), .val (.int va2), .val (.int vb0), .val (.int vb1), .val (.int vb2), .val (.ref r25), .val (.int (1 : Int32))] [(.ref r25)])) t
      refine XS.iconst X42.here hx rfl (hb hby at_247) ?_
      exact k
    obtain ⟨cq46, kq46, q46a, q46b, q46c⟩ := isOf hZ hh42 D29_0
    obtain ⟨_, _, ⟨T46, L46, k46, n46⟩, -, X46, ⟨Lc46, hQ46, l46, y46, z46⟩, st46⟩ := X42.virtualBack hx (y := (⟨"com/example/fenceline/fenceline/Digraph", "firstInEdge", "(I)I"⟩ : MethodName)) (z := (⟨"com/example/fenceline/fenceline/Digraph", "firstInEdge", "(I)I"⟩ : MethodName)) hown (mvT hZ (hw _ (List.mem_of_getElem? (i := 63) rfl))) (mvT hZ (hw _ (List.mem_of_getElem? (i := 64) rfl))) (notFace_of_selects (args := #[]) (mvT hZ (hw _ (List.mem_of_getElem? (i := 66) rfl)))) (mvT hZ (hw _ (List.mem_of_getElem? (i := 66) rfl))) (mvT hZ (hw _ (List.mem_of_getElem? (i := 65) rfl))) (by decide) (backOf (W := 0) (rm12 l Z a0 hw [] r25 (0 : Int32) b425 k425 Sv29.2.2.2.2.1 T29.heap n0 (Nat.le_trans Z0 K29.1) D29_5 D29_12 ⟨by decide, by decide⟩) hZ (hw _ (List.mem_of_getElem? (i := 67) rfl)) (hw _ (List.mem_of_getElem? (i := 2) rfl)) (by decide) (by decide)) q46a q46c (g := (mkF m 248 #[.val (.int p1), .val (.int p2), .val (.int p3), .val (.int (1 : Int32)), .val (.int va0), .val (.int va1), .val (.int va2), .val (.int vb0), .val (.int vb1), .val (.int vb2), .val (.ref r25), .val (.int (1 : Int32))] [(.int (0 : Int32)), (.ref r25)])) rfl (by rw [hml]; rfl) (Steps.refl _) (argsL := [(.int (0 : Int32))]) (rest := []) (lenOf pd_6 rfl) rfl (by show 2 * 0 + _ ≤ _; exact Nat.le_of_eq rfl) (hb hby at_248) (fun _ _ => ⟨rfl, hh42, (by decide : 7 + 0 ≤ _), (by decide : 77 + 0 ≤ _)⟩)
    dsimp only [Pt.U, Pt.locs, Pt.cells, Pt.slots] at X46 l46 y46 z46 st46 hQ46
    subst l46 y46 z46
    obtain ⟨rfl, Nq46, hh46⟩ := hQ46
    have N46 := Fr.app N42 Nq46
    refine own_via (fun t k => st46.trans k) ?_
    show own_G p.tables e below _ (T46.setTop (mkF m 251 #[.val (.int p1), .val (.int p2), .val (.int p3), .val (.int (1 : Int32)), .val (.int va0), .val (.int va1), .val (.int va2), .val (.int vb0), .val (.int vb1), .val (.int vb2), .val (.ref r25), .val (.int (1 : Int32))] [(.int (Sv29.2.2.2.2.1.getD ((0 : Int32)).toNatClampNeg 0))]))
    refine own_via (S' := T46.setTop (mkF m 256 #[.val (.int p1), .val (.int p2), .val (.int p3), .val (.int (1 : Int32)), .val (.int va0), .val (.int va1), .val (.int va2), .val (.int vb0), .val (.int vb1), .val (.int vb2), .val (.ref r25), .val (.int (1 : Int32))] [(.int vb1), (.int vb0), (.int (0 : Int32)), (.int (Sv29.2.2.2.2.1.getD ((0 : Int32)).toNatClampNeg 0))])) (fun t k => ?_) ?_
    · show Steps p.tables e below (T46.setTop (mkF m 251 #[.val (.int p1), .val (.int p2), .val (.int p3), .val (.int (1 : Int32)), .val (.int va0), .val (.int va1), .val (.int va2), .val (.int vb0), .val (.int vb1), .val (.int vb2), .val (.ref r25), .val (.int (1 : Int32))] [(.int (Sv29.2.2.2.2.1.getD ((0 : Int32)).toNatClampNeg 0))])) t
      refine XS.iconst X46.here hx rfl (hb hby at_251) ?_
      show Steps p.tables e below (T46.setTop (mkF m 252 #[.val (.int p1), .val (.int p2), .val (.int p3), .val (.int (1 : Int32)), .val (.int va0), .val (.int va1), .val (.int va2), .val (.int vb0), .val (.int vb1), .val (.int vb2), .val (.ref r25), .val (.int (1 : Int32))] [(.int (0 : Int32)), (.int (Sv29.2.2.2.2.1.getD ((0 : Int32)).toNatClampNeg 0))])) t
      refine XS.iload X46.here hx rfl (hb hby at_252) rfl ?_
      show Steps p.tables e below (T46.setTop (mkF m 254 #[.val (.int p1), .val (.int p2), .val (.int p3), .val (.int (1 : Int32)), .val (.int va0), .val (.int va1), .val (.int va2), .val (.int vb0), .val (.int vb1), .val (.int vb2), .val (.ref r25), .val (.int (1 : Int32))] [(.int vb0), (.int (0 : Int32)), (.int (Sv29.2.2.2.2.1.getD ((0 : Int32)).toNatClampNeg 0))])) t
      refine XS.iload X46.here hx rfl (hb hby at_254) rfl ?_
      exact k
    obtain ⟨_, _, ⟨T47, L47, k47, n47⟩, -, X47, ⟨Lc47, hQ47, l47, y47, z47⟩, st47⟩ := Jvm.LawKit.callS X46 hx (y := (⟨"com/example/fenceline/fenceline/DigraphRemoveLastEdgePinLaw", "expect", "(III)I"⟩ : MethodName)) hown (mvT hZ (hw _ (List.mem_of_getElem? (i := 55) rfl))) (mvT hZ (hw _ (List.mem_of_getElem? (i := 56) rfl))) (mvT hZ (hw _ (List.mem_of_getElem? (i := 57) rfl))) (mvT hZ (hw _ (List.mem_of_getElem? (i := 58) rfl))) (by decide) (backOf (W := 1) (rm10 l Z a0 hw [] (0 : Int32) vb0 vb1 T29.heap n0 (Nat.le_trans Z0 K29.1)) hZ (hw _ (List.mem_of_getElem? (i := 58) rfl)) (hw _ (List.mem_of_getElem? (i := 57) rfl)) (by decide) (by decide)) (g := (mkF m 256 #[.val (.int p1), .val (.int p2), .val (.int p3), .val (.int (1 : Int32)), .val (.int va0), .val (.int va1), .val (.int va2), .val (.int vb0), .val (.int vb1), .val (.int vb2), .val (.ref r25), .val (.int (1 : Int32))] [(.int vb1), (.int vb0), (.int (0 : Int32)), (.int (Sv29.2.2.2.2.1.getD ((0 : Int32)).toNatClampNeg 0))])) rfl (by rw [hml]; rfl) (argsL := [(.int (0 : Int32)), (.int vb0), (.int vb1)]) (rest := [(.int (Sv29.2.2.2.2.1.getD ((0 : Int32)).toNatClampNeg 0))]) (lenOf pd_7 rfl) rfl (by show 2 * 0 + _ ≤ _; exact Nat.le_of_eq rfl) (hb hby at_256) (fun _ _ => ⟨rfl, hh46, (by decide : 7 + 0 ≤ _), (by decide : 77 + 0 ≤ _)⟩)
    dsimp only [Pt.U, Pt.locs, Pt.cells, Pt.slots] at X47 l47 y47 z47 st47 hQ47
    subst l47 y47 z47
    obtain ⟨rfl, Nq47, hh47⟩ := hQ47
    have N47 := Fr.app N46 Nq47
    refine own_via st47 ?_
    show own_G p.tables e below _ (T47.setTop (mkF m 259 #[.val (.int p1), .val (.int p2), .val (.int p3), .val (.int (1 : Int32)), .val (.int va0), .val (.int va1), .val (.int va2), .val (.int vb0), .val (.int vb1), .val (.int vb2), .val (.ref r25), .val (.int (1 : Int32))] [(.int (own_ex (0 : Int32) vb0 vb1)), (.int (Sv29.2.2.2.2.1.getD ((0 : Int32)).toNatClampNeg 0))]))
    refine own_via (S' := T47.setTop (mkF m 262 #[.val (.int p1), .val (.int p2), .val (.int p3), .val (.int (1 : Int32)), .val (.int va0), .val (.int va1), .val (.int va2), .val (.int vb0), .val (.int vb1), .val (.int vb2), .val (.ref r25), .val (.int (1 : Int32))] [])) (fun t k => XS.icmpNo (g := (mkF m 259 #[.val (.int p1), .val (.int p2), .val (.int p3), .val (.int (1 : Int32)), .val (.int va0), .val (.int va1), .val (.int va2), .val (.int vb0), .val (.int vb1), .val (.int vb2), .val (.ref r25), .val (.int (1 : Int32))] [(.int (own_ex (0 : Int32) vb0 vb1)), (.int (Sv29.2.2.2.2.1.getD ((0 : Int32)).toNatClampNeg 0))])) X47.here hx rfl (hb hby at_259) rfl (teq (by rw [hS29, hS28, hS27, hS26]; exact hki.2.2.2.2.2.2 0 (by decide))).2 k) ?_
    refine own_via (S' := T47.setTop (mkF m 271 #[.val (.int p1), .val (.int p2), .val (.int p3), .val (.int (1 : Int32)), .val (.int va0), .val (.int va1), .val (.int va2), .val (.int vb0), .val (.int vb1), .val (.int vb2), .val (.ref r25), .val (.int (1 : Int32))] [(.int (1 : Int32))])) (fun t k => ?_) ?_
    · show Steps p.tables e below (T47.setTop (mkF m 262 #[.val (.int p1), .val (.int p2), .val (.int p3), .val (.int (1 : Int32)), .val (.int va0), .val (.int va1), .val (.int va2), .val (.int vb0), .val (.int vb1), .val (.int vb2), .val (.ref r25), .val (.int (1 : Int32))] [])) t
      refine XS.iconst X47.here hx rfl (hb hby at_262) ?_
      show Steps p.tables e below (T47.setTop (mkF m 263 #[.val (.int p1), .val (.int p2), .val (.int p3), .val (.int (1 : Int32)), .val (.int va0), .val (.int va1), .val (.int va2), .val (.int vb0), .val (.int vb1), .val (.int vb2), .val (.ref r25), .val (.int (1 : Int32))] [(.int (1 : Int32))])) t
      refine XS.goto X47.here hx rfl (pc0 := 263) (pc' := 267) rfl (hb hby at_263) (by decide) (by decide) ?_
      show Steps p.tables e below (T47.setTop (mkF m 267 #[.val (.int p1), .val (.int p2), .val (.int p3), .val (.int (1 : Int32)), .val (.int va0), .val (.int va1), .val (.int va2), .val (.int vb0), .val (.int vb1), .val (.int vb2), .val (.ref r25), .val (.int (1 : Int32))] [(.int (1 : Int32))])) t
      refine XS.istore X47.here hx rfl (hb hby at_267) rfl (l' := #[.val (.int p1), .val (.int p2), .val (.int p3), .val (.int (1 : Int32)), .val (.int va0), .val (.int va1), .val (.int va2), .val (.int vb0), .val (.int vb1), .val (.int vb2), .val (.ref r25), .val (.int (1 : Int32))]) rfl ?_
      show Steps p.tables e below (T47.setTop (mkF m 269 #[.val (.int p1), .val (.int p2), .val (.int p3), .val (.int (1 : Int32)), .val (.int va0), .val (.int va1), .val (.int va2), .val (.int vb0), .val (.int vb1), .val (.int vb2), .val (.ref r25), .val (.int (1 : Int32))] [])) t
      refine XS.iload X47.here hx rfl (hb hby at_269) rfl ?_
      exact k
    refine own_via (S' := T47.setTop (mkF m 274 #[.val (.int p1), .val (.int p2), .val (.int p3), .val (.int (1 : Int32)), .val (.int va0), .val (.int va1), .val (.int va2), .val (.int vb0), .val (.int vb1), .val (.int vb2), .val (.ref r25), .val (.int (1 : Int32))] [])) (fun t k => XS.ifNo (g := (mkF m 271 #[.val (.int p1), .val (.int p2), .val (.int p3), .val (.int (1 : Int32)), .val (.int va0), .val (.int va1), .val (.int va2), .val (.int vb0), .val (.int vb1), .val (.int vb2), .val (.ref r25), .val (.int (1 : Int32))] [(.int (1 : Int32))])) X47.here hx rfl (hb hby at_271) rfl ((if0 _ _).trans (feq (by decide : ¬ ((1 : Int32) = (0 : Int32)))).1) k) ?_
    refine own_via (S' := T47.setTop (mkF m 277 #[.val (.int p1), .val (.int p2), .val (.int p3), .val (.int (1 : Int32)), .val (.int va0), .val (.int va1), .val (.int va2), .val (.int vb0), .val (.int vb1), .val (.int vb2), .val (.ref r25), .val (.int (1 : Int32))] [(.int (1 : Int32)), (.ref r25)])) (fun t k => ?_) ?_
    · show Steps p.tables e below (T47.setTop (mkF m 274 #[.val (.int p1), .val (.int p2), .val (.int p3), .val (.int (1 : Int32)), .val (.int va0), .val (.int va1), .val (.int va2), .val (.int vb0), .val (.int vb1), .val (.int vb2), .val (.ref r25), .val (.int (1 : Int32))] [])) t
      refine XS.aload X47.here hx rfl (hb hby at_274) rfl rfl ?_
      show Steps p.tables e below (T47.setTop (mkF m 276 #[.val (.int p1), .val (.int p2), .val (.int p3), .val (.int (1 : Int32)), .val (.int va0), .val (.int va1), .val (.int va2), .val (.int vb0), .val (.int vb1), .val (.int vb2), .val (.ref r25), .val (.int (1 : Int32))] [(.ref r25)])) t
      refine XS.iconst X47.here hx rfl (hb hby at_276) ?_
      exact k
    obtain ⟨cq50, kq50, q50a, q50b, q50c⟩ := isOf hZ hh47 D29_0
    obtain ⟨_, _, ⟨T50, L50, k50, n50⟩, -, X50, ⟨Lc50, hQ50, l50, y50, z50⟩, st50⟩ := X47.virtualBack hx (y := (⟨"com/example/fenceline/fenceline/Digraph", "firstInEdge", "(I)I"⟩ : MethodName)) (z := (⟨"com/example/fenceline/fenceline/Digraph", "firstInEdge", "(I)I"⟩ : MethodName)) hown (mvT hZ (hw _ (List.mem_of_getElem? (i := 63) rfl))) (mvT hZ (hw _ (List.mem_of_getElem? (i := 64) rfl))) (notFace_of_selects (args := #[]) (mvT hZ (hw _ (List.mem_of_getElem? (i := 66) rfl)))) (mvT hZ (hw _ (List.mem_of_getElem? (i := 66) rfl))) (mvT hZ (hw _ (List.mem_of_getElem? (i := 65) rfl))) (by decide) (backOf (W := 0) (rm12 l Z a0 hw [] r25 (1 : Int32) b425 k425 Sv29.2.2.2.2.1 T29.heap n0 (Nat.le_trans Z0 K29.1) D29_5 D29_12 ⟨by decide, by decide⟩) hZ (hw _ (List.mem_of_getElem? (i := 67) rfl)) (hw _ (List.mem_of_getElem? (i := 2) rfl)) (by decide) (by decide)) q50a q50c (g := (mkF m 277 #[.val (.int p1), .val (.int p2), .val (.int p3), .val (.int (1 : Int32)), .val (.int va0), .val (.int va1), .val (.int va2), .val (.int vb0), .val (.int vb1), .val (.int vb2), .val (.ref r25), .val (.int (1 : Int32))] [(.int (1 : Int32)), (.ref r25)])) rfl (by rw [hml]; rfl) (Steps.refl _) (argsL := [(.int (1 : Int32))]) (rest := []) (lenOf pd_6 rfl) rfl (by show 2 * 0 + _ ≤ _; exact Nat.le_of_eq rfl) (hb hby at_277) (fun _ _ => ⟨rfl, hh47, (by decide : 7 + 0 ≤ _), (by decide : 77 + 0 ≤ _)⟩)
    dsimp only [Pt.U, Pt.locs, Pt.cells, Pt.slots] at X50 l50 y50 z50 st50 hQ50
    subst l50 y50 z50
    obtain ⟨rfl, Nq50, hh50⟩ := hQ50
    have N50 := Fr.app N47 Nq50
    refine own_via (fun t k => st50.trans k) ?_
    show own_G p.tables e below _ (T50.setTop (mkF m 280 #[.val (.int p1), .val (.int p2), .val (.int p3), .val (.int (1 : Int32)), .val (.int va0), .val (.int va1), .val (.int va2), .val (.int vb0), .val (.int vb1), .val (.int vb2), .val (.ref r25), .val (.int (1 : Int32))] [(.int (Sv29.2.2.2.2.1.getD ((1 : Int32)).toNatClampNeg 0))]))
    refine own_via (S' := T50.setTop (mkF m 285 #[.val (.int p1), .val (.int p2), .val (.int p3), .val (.int (1 : Int32)), .val (.int va0), .val (.int va1), .val (.int va2), .val (.int vb0), .val (.int vb1), .val (.int vb2), .val (.ref r25), .val (.int (1 : Int32))] [(.int vb1), (.int vb0), (.int (1 : Int32)), (.int (Sv29.2.2.2.2.1.getD ((1 : Int32)).toNatClampNeg 0))])) (fun t k => ?_) ?_
    · show Steps p.tables e below (T50.setTop (mkF m 280 #[.val (.int p1), .val (.int p2), .val (.int p3), .val (.int (1 : Int32)), .val (.int va0), .val (.int va1), .val (.int va2), .val (.int vb0), .val (.int vb1), .val (.int vb2), .val (.ref r25), .val (.int (1 : Int32))] [(.int (Sv29.2.2.2.2.1.getD ((1 : Int32)).toNatClampNeg 0))])) t
      refine XS.iconst X50.here hx rfl (hb hby at_280) ?_
      show Steps p.tables e below (T50.setTop (mkF m 281 #[.val (.int p1), .val (.int p2), .val (.int p3), .val (.int (1 : Int32)), .val (.int va0), .val (.int va1), .val (.int va2), .val (.int vb0), .val (.int vb1), .val (.int vb2), .val (.ref r25), .val (.int (1 : Int32))] [(.int (1 : Int32)), (.int (Sv29.2.2.2.2.1.getD ((1 : Int32)).toNatClampNeg 0))])) t
      refine XS.iload X50.here hx rfl (hb hby at_281) rfl ?_
      show Steps p.tables e below (T50.setTop (mkF m 283 #[.val (.int p1), .val (.int p2), .val (.int p3), .val (.int (1 : Int32)), .val (.int va0), .val (.int va1), .val (.int va2), .val (.int vb0), .val (.int vb1), .val (.int vb2), .val (.ref r25), .val (.int (1 : Int32))] [(.int vb0), (.int (1 : Int32)), (.int (Sv29.2.2.2.2.1.getD ((1 : Int32)).toNatClampNeg 0))])) t
      refine XS.iload X50.here hx rfl (hb hby at_283) rfl ?_
      exact k
    obtain ⟨_, _, ⟨T51, L51, k51, n51⟩, -, X51, ⟨Lc51, hQ51, l51, y51, z51⟩, st51⟩ := Jvm.LawKit.callS X50 hx (y := (⟨"com/example/fenceline/fenceline/DigraphRemoveLastEdgePinLaw", "expect", "(III)I"⟩ : MethodName)) hown (mvT hZ (hw _ (List.mem_of_getElem? (i := 55) rfl))) (mvT hZ (hw _ (List.mem_of_getElem? (i := 56) rfl))) (mvT hZ (hw _ (List.mem_of_getElem? (i := 57) rfl))) (mvT hZ (hw _ (List.mem_of_getElem? (i := 58) rfl))) (by decide) (backOf (W := 1) (rm10 l Z a0 hw [] (1 : Int32) vb0 vb1 T29.heap n0 (Nat.le_trans Z0 K29.1)) hZ (hw _ (List.mem_of_getElem? (i := 58) rfl)) (hw _ (List.mem_of_getElem? (i := 57) rfl)) (by decide) (by decide)) (g := (mkF m 285 #[.val (.int p1), .val (.int p2), .val (.int p3), .val (.int (1 : Int32)), .val (.int va0), .val (.int va1), .val (.int va2), .val (.int vb0), .val (.int vb1), .val (.int vb2), .val (.ref r25), .val (.int (1 : Int32))] [(.int vb1), (.int vb0), (.int (1 : Int32)), (.int (Sv29.2.2.2.2.1.getD ((1 : Int32)).toNatClampNeg 0))])) rfl (by rw [hml]; rfl) (argsL := [(.int (1 : Int32)), (.int vb0), (.int vb1)]) (rest := [(.int (Sv29.2.2.2.2.1.getD ((1 : Int32)).toNatClampNeg 0))]) (lenOf pd_7 rfl) rfl (by show 2 * 0 + _ ≤ _; exact Nat.le_of_eq rfl) (hb hby at_285) (fun _ _ => ⟨rfl, hh50, (by decide : 7 + 0 ≤ _), (by decide : 77 + 0 ≤ _)⟩)
    dsimp only [Pt.U, Pt.locs, Pt.cells, Pt.slots] at X51 l51 y51 z51 st51 hQ51
    subst l51 y51 z51
    obtain ⟨rfl, Nq51, hh51⟩ := hQ51
    have N51 := Fr.app N50 Nq51
    refine own_via st51 ?_
    show own_G p.tables e below _ (T51.setTop (mkF m 288 #[.val (.int p1), .val (.int p2), .val (.int p3), .val (.int (1 : Int32)), .val (.int va0), .val (.int va1), .val (.int va2), .val (.int vb0), .val (.int vb1), .val (.int vb2), .val (.ref r25), .val (.int (1 : Int32))] [(.int (own_ex (1 : Int32) vb0 vb1)), (.int (Sv29.2.2.2.2.1.getD ((1 : Int32)).toNatClampNeg 0))]))
    refine own_via (S' := T51.setTop (mkF m 291 #[.val (.int p1), .val (.int p2), .val (.int p3), .val (.int (1 : Int32)), .val (.int va0), .val (.int va1), .val (.int va2), .val (.int vb0), .val (.int vb1), .val (.int vb2), .val (.ref r25), .val (.int (1 : Int32))] [])) (fun t k => XS.icmpNo (g := (mkF m 288 #[.val (.int p1), .val (.int p2), .val (.int p3), .val (.int (1 : Int32)), .val (.int va0), .val (.int va1), .val (.int va2), .val (.int vb0), .val (.int vb1), .val (.int vb2), .val (.ref r25), .val (.int (1 : Int32))] [(.int (own_ex (1 : Int32) vb0 vb1)), (.int (Sv29.2.2.2.2.1.getD ((1 : Int32)).toNatClampNeg 0))])) X51.here hx rfl (hb hby at_288) rfl (teq (by rw [hS29, hS28, hS27, hS26]; exact hki.2.2.2.2.2.2 1 (by decide))).2 k) ?_
    refine own_via (S' := T51.setTop (mkF m 300 #[.val (.int p1), .val (.int p2), .val (.int p3), .val (.int (1 : Int32)), .val (.int va0), .val (.int va1), .val (.int va2), .val (.int vb0), .val (.int vb1), .val (.int vb2), .val (.ref r25), .val (.int (1 : Int32))] [(.int (1 : Int32))])) (fun t k => ?_) ?_
    · show Steps p.tables e below (T51.setTop (mkF m 291 #[.val (.int p1), .val (.int p2), .val (.int p3), .val (.int (1 : Int32)), .val (.int va0), .val (.int va1), .val (.int va2), .val (.int vb0), .val (.int vb1), .val (.int vb2), .val (.ref r25), .val (.int (1 : Int32))] [])) t
      refine XS.iconst X51.here hx rfl (hb hby at_291) ?_
      show Steps p.tables e below (T51.setTop (mkF m 292 #[.val (.int p1), .val (.int p2), .val (.int p3), .val (.int (1 : Int32)), .val (.int va0), .val (.int va1), .val (.int va2), .val (.int vb0), .val (.int vb1), .val (.int vb2), .val (.ref r25), .val (.int (1 : Int32))] [(.int (1 : Int32))])) t
      refine XS.goto X51.here hx rfl (pc0 := 292) (pc' := 296) rfl (hb hby at_292) (by decide) (by decide) ?_
      show Steps p.tables e below (T51.setTop (mkF m 296 #[.val (.int p1), .val (.int p2), .val (.int p3), .val (.int (1 : Int32)), .val (.int va0), .val (.int va1), .val (.int va2), .val (.int vb0), .val (.int vb1), .val (.int vb2), .val (.ref r25), .val (.int (1 : Int32))] [(.int (1 : Int32))])) t
      refine XS.istore X51.here hx rfl (hb hby at_296) rfl (l' := #[.val (.int p1), .val (.int p2), .val (.int p3), .val (.int (1 : Int32)), .val (.int va0), .val (.int va1), .val (.int va2), .val (.int vb0), .val (.int vb1), .val (.int vb2), .val (.ref r25), .val (.int (1 : Int32))]) rfl ?_
      show Steps p.tables e below (T51.setTop (mkF m 298 #[.val (.int p1), .val (.int p2), .val (.int p3), .val (.int (1 : Int32)), .val (.int va0), .val (.int va1), .val (.int va2), .val (.int vb0), .val (.int vb1), .val (.int vb2), .val (.ref r25), .val (.int (1 : Int32))] [])) t
      refine XS.iload X51.here hx rfl (hb hby at_298) rfl ?_
      exact k
    refine own_via (S' := T51.setTop (mkF m 303 #[.val (.int p1), .val (.int p2), .val (.int p3), .val (.int (1 : Int32)), .val (.int va0), .val (.int va1), .val (.int va2), .val (.int vb0), .val (.int vb1), .val (.int vb2), .val (.ref r25), .val (.int (1 : Int32))] [])) (fun t k => XS.ifNo (g := (mkF m 300 #[.val (.int p1), .val (.int p2), .val (.int p3), .val (.int (1 : Int32)), .val (.int va0), .val (.int va1), .val (.int va2), .val (.int vb0), .val (.int vb1), .val (.int vb2), .val (.ref r25), .val (.int (1 : Int32))] [(.int (1 : Int32))])) X51.here hx rfl (hb hby at_300) rfl ((if0 _ _).trans (feq (by decide : ¬ ((1 : Int32) = (0 : Int32)))).1) k) ?_
    refine own_via (S' := T51.setTop (mkF m 306 #[.val (.int p1), .val (.int p2), .val (.int p3), .val (.int (1 : Int32)), .val (.int va0), .val (.int va1), .val (.int va2), .val (.int vb0), .val (.int vb1), .val (.int vb2), .val (.ref r25), .val (.int (1 : Int32))] [(.int (2 : Int32)), (.ref r25)])) (fun t k => ?_) ?_
    · show Steps p.tables e below (T51.setTop (mkF m 303 #[.val (.int p1), .val (.int p2), .val (.int p3), .val (.int (1 : Int32)), .val (.int va0), .val (.int va1), .val (.int va2), .val (.int vb0), .val (.int vb1), .val (.int vb2), .val (.ref r25), .val (.int (1 : Int32))] [])) t
      refine XS.aload X51.here hx rfl (hb hby at_303) rfl rfl ?_
      show Steps p.tables e below (T51.setTop (mkF m 305 #[.val (.int p1), .val (.int p2), .val (.int p3), .val (.int (1 : Int32)), .val (.int va0), .val (.int va1), .val (.int va2), .val (.int vb0), .val (.int vb1), .val (.int vb2), .val (.ref r25), .val (.int (1 : Int32))] [(.ref r25)])) t
      refine XS.iconst X51.here hx rfl (hb hby at_305) ?_
      exact k
    obtain ⟨cq54, kq54, q54a, q54b, q54c⟩ := isOf hZ hh51 D29_0
    obtain ⟨_, _, ⟨T54, L54, k54, n54⟩, -, X54, ⟨Lc54, hQ54, l54, y54, z54⟩, st54⟩ := X51.virtualBack hx (y := (⟨"com/example/fenceline/fenceline/Digraph", "firstInEdge", "(I)I"⟩ : MethodName)) (z := (⟨"com/example/fenceline/fenceline/Digraph", "firstInEdge", "(I)I"⟩ : MethodName)) hown (mvT hZ (hw _ (List.mem_of_getElem? (i := 63) rfl))) (mvT hZ (hw _ (List.mem_of_getElem? (i := 64) rfl))) (notFace_of_selects (args := #[]) (mvT hZ (hw _ (List.mem_of_getElem? (i := 66) rfl)))) (mvT hZ (hw _ (List.mem_of_getElem? (i := 66) rfl))) (mvT hZ (hw _ (List.mem_of_getElem? (i := 65) rfl))) (by decide) (backOf (W := 0) (rm12 l Z a0 hw [] r25 (2 : Int32) b425 k425 Sv29.2.2.2.2.1 T29.heap n0 (Nat.le_trans Z0 K29.1) D29_5 D29_12 ⟨by decide, by decide⟩) hZ (hw _ (List.mem_of_getElem? (i := 67) rfl)) (hw _ (List.mem_of_getElem? (i := 2) rfl)) (by decide) (by decide)) q54a q54c (g := (mkF m 306 #[.val (.int p1), .val (.int p2), .val (.int p3), .val (.int (1 : Int32)), .val (.int va0), .val (.int va1), .val (.int va2), .val (.int vb0), .val (.int vb1), .val (.int vb2), .val (.ref r25), .val (.int (1 : Int32))] [(.int (2 : Int32)), (.ref r25)])) rfl (by rw [hml]; rfl) (Steps.refl _) (argsL := [(.int (2 : Int32))]) (rest := []) (lenOf pd_6 rfl) rfl (by show 2 * 0 + _ ≤ _; exact Nat.le_of_eq rfl) (hb hby at_306) (fun _ _ => ⟨rfl, hh51, (by decide : 7 + 0 ≤ _), (by decide : 77 + 0 ≤ _)⟩)
    dsimp only [Pt.U, Pt.locs, Pt.cells, Pt.slots] at X54 l54 y54 z54 st54 hQ54
    subst l54 y54 z54
    obtain ⟨rfl, Nq54, hh54⟩ := hQ54
    have N54 := Fr.app N51 Nq54
    refine own_via (fun t k => st54.trans k) ?_
    show own_G p.tables e below _ (T54.setTop (mkF m 309 #[.val (.int p1), .val (.int p2), .val (.int p3), .val (.int (1 : Int32)), .val (.int va0), .val (.int va1), .val (.int va2), .val (.int vb0), .val (.int vb1), .val (.int vb2), .val (.ref r25), .val (.int (1 : Int32))] [(.int (Sv29.2.2.2.2.1.getD ((2 : Int32)).toNatClampNeg 0))]))
    refine own_via (S' := T54.setTop (mkF m 314 #[.val (.int p1), .val (.int p2), .val (.int p3), .val (.int (1 : Int32)), .val (.int va0), .val (.int va1), .val (.int va2), .val (.int vb0), .val (.int vb1), .val (.int vb2), .val (.ref r25), .val (.int (1 : Int32))] [(.int vb1), (.int vb0), (.int (2 : Int32)), (.int (Sv29.2.2.2.2.1.getD ((2 : Int32)).toNatClampNeg 0))])) (fun t k => ?_) ?_
    · show Steps p.tables e below (T54.setTop (mkF m 309 #[.val (.int p1), .val (.int p2), .val (.int p3), .val (.int (1 : Int32)), .val (.int va0), .val (.int va1), .val (.int va2), .val (.int vb0), .val (.int vb1), .val (.int vb2), .val (.ref r25), .val (.int (1 : Int32))] [(.int (Sv29.2.2.2.2.1.getD ((2 : Int32)).toNatClampNeg 0))])) t
      refine XS.iconst X54.here hx rfl (hb hby at_309) ?_
      show Steps p.tables e below (T54.setTop (mkF m 310 #[.val (.int p1), .val (.int p2), .val (.int p3), .val (.int (1 : Int32)), .val (.int va0), .val (.int va1), .val (.int va2), .val (.int vb0), .val (.int vb1), .val (.int vb2), .val (.ref r25), .val (.int (1 : Int32))] [(.int (2 : Int32)), (.int (Sv29.2.2.2.2.1.getD ((2 : Int32)).toNatClampNeg 0))])) t
      refine XS.iload X54.here hx rfl (hb hby at_310) rfl ?_
      show Steps p.tables e below (T54.setTop (mkF m 312 #[.val (.int p1), .val (.int p2), .val (.int p3), .val (.int (1 : Int32)), .val (.int va0), .val (.int va1), .val (.int va2), .val (.int vb0), .val (.int vb1), .val (.int vb2), .val (.ref r25), .val (.int (1 : Int32))] [(.int vb0), (.int (2 : Int32)), (.int (Sv29.2.2.2.2.1.getD ((2 : Int32)).toNatClampNeg 0))])) t
      refine XS.iload X54.here hx rfl (hb hby at_312) rfl ?_
      exact k
    obtain ⟨_, _, ⟨T55, L55, k55, n55⟩, -, X55, ⟨Lc55, hQ55, l55, y55, z55⟩, st55⟩ := Jvm.LawKit.callS X54 hx (y := (⟨"com/example/fenceline/fenceline/DigraphRemoveLastEdgePinLaw", "expect", "(III)I"⟩ : MethodName)) hown (mvT hZ (hw _ (List.mem_of_getElem? (i := 55) rfl))) (mvT hZ (hw _ (List.mem_of_getElem? (i := 56) rfl))) (mvT hZ (hw _ (List.mem_of_getElem? (i := 57) rfl))) (mvT hZ (hw _ (List.mem_of_getElem? (i := 58) rfl))) (by decide) (backOf (W := 1) (rm10 l Z a0 hw [] (2 : Int32) vb0 vb1 T29.heap n0 (Nat.le_trans Z0 K29.1)) hZ (hw _ (List.mem_of_getElem? (i := 58) rfl)) (hw _ (List.mem_of_getElem? (i := 57) rfl)) (by decide) (by decide)) (g := (mkF m 314 #[.val (.int p1), .val (.int p2), .val (.int p3), .val (.int (1 : Int32)), .val (.int va0), .val (.int va1), .val (.int va2), .val (.int vb0), .val (.int vb1), .val (.int vb2), .val (.ref r25), .val (.int (1 : Int32))] [(.int vb1), (.int vb0), (.int (2 : Int32)), (.int (Sv29.2.2.2.2.1.getD ((2 : Int32)).toNatClampNeg 0))])) rfl (by rw [hml]; rfl) (argsL := [(.int (2 : Int32)), (.int vb0), (.int vb1)]) (rest := [(.int (Sv29.2.2.2.2.1.getD ((2 : Int32)).toNatClampNeg 0))]) (lenOf pd_7 rfl) rfl (by show 2 * 0 + _ ≤ _; exact Nat.le_of_eq rfl) (hb hby at_314) (fun _ _ => ⟨rfl, hh54, (by decide : 7 + 0 ≤ _), (by decide : 77 + 0 ≤ _)⟩)
    dsimp only [Pt.U, Pt.locs, Pt.cells, Pt.slots] at X55 l55 y55 z55 st55 hQ55
    subst l55 y55 z55
    obtain ⟨rfl, Nq55, hh55⟩ := hQ55
    have N55 := Fr.app N54 Nq55
    refine own_via st55 ?_
    show own_G p.tables e below _ (T55.setTop (mkF m 317 #[.val (.int p1), .val (.int p2), .val (.int p3), .val (.int (1 : Int32)), .val (.int va0), .val (.int va1), .val (.int va2), .val (.int vb0), .val (.int vb1), .val (.int vb2), .val (.ref r25), .val (.int (1 : Int32))] [(.int (own_ex (2 : Int32) vb0 vb1)), (.int (Sv29.2.2.2.2.1.getD ((2 : Int32)).toNatClampNeg 0))]))
    refine own_via (S' := T55.setTop (mkF m 320 #[.val (.int p1), .val (.int p2), .val (.int p3), .val (.int (1 : Int32)), .val (.int va0), .val (.int va1), .val (.int va2), .val (.int vb0), .val (.int vb1), .val (.int vb2), .val (.ref r25), .val (.int (1 : Int32))] [])) (fun t k => XS.icmpNo (g := (mkF m 317 #[.val (.int p1), .val (.int p2), .val (.int p3), .val (.int (1 : Int32)), .val (.int va0), .val (.int va1), .val (.int va2), .val (.int vb0), .val (.int vb1), .val (.int vb2), .val (.ref r25), .val (.int (1 : Int32))] [(.int (own_ex (2 : Int32) vb0 vb1)), (.int (Sv29.2.2.2.2.1.getD ((2 : Int32)).toNatClampNeg 0))])) X55.here hx rfl (hb hby at_317) rfl (teq (by rw [hS29, hS28, hS27, hS26]; exact hki.2.2.2.2.2.2 2 (by decide))).2 k) ?_
    refine own_via (S' := T55.setTop (mkF m 329 #[.val (.int p1), .val (.int p2), .val (.int p3), .val (.int (1 : Int32)), .val (.int va0), .val (.int va1), .val (.int va2), .val (.int vb0), .val (.int vb1), .val (.int vb2), .val (.ref r25), .val (.int (1 : Int32))] [(.int (1 : Int32))])) (fun t k => ?_) ?_
    · show Steps p.tables e below (T55.setTop (mkF m 320 #[.val (.int p1), .val (.int p2), .val (.int p3), .val (.int (1 : Int32)), .val (.int va0), .val (.int va1), .val (.int va2), .val (.int vb0), .val (.int vb1), .val (.int vb2), .val (.ref r25), .val (.int (1 : Int32))] [])) t
      refine XS.iconst X55.here hx rfl (hb hby at_320) ?_
      show Steps p.tables e below (T55.setTop (mkF m 321 #[.val (.int p1), .val (.int p2), .val (.int p3), .val (.int (1 : Int32)), .val (.int va0), .val (.int va1), .val (.int va2), .val (.int vb0), .val (.int vb1), .val (.int vb2), .val (.ref r25), .val (.int (1 : Int32))] [(.int (1 : Int32))])) t
      refine XS.goto X55.here hx rfl (pc0 := 321) (pc' := 325) rfl (hb hby at_321) (by decide) (by decide) ?_
      show Steps p.tables e below (T55.setTop (mkF m 325 #[.val (.int p1), .val (.int p2), .val (.int p3), .val (.int (1 : Int32)), .val (.int va0), .val (.int va1), .val (.int va2), .val (.int vb0), .val (.int vb1), .val (.int vb2), .val (.ref r25), .val (.int (1 : Int32))] [(.int (1 : Int32))])) t
      refine XS.istore X55.here hx rfl (hb hby at_325) rfl (l' := #[.val (.int p1), .val (.int p2), .val (.int p3), .val (.int (1 : Int32)), .val (.int va0), .val (.int va1), .val (.int va2), .val (.int vb0), .val (.int vb1), .val (.int vb2), .val (.ref r25), .val (.int (1 : Int32))]) rfl ?_
      show Steps p.tables e below (T55.setTop (mkF m 327 #[.val (.int p1), .val (.int p2), .val (.int p3), .val (.int (1 : Int32)), .val (.int va0), .val (.int va1), .val (.int va2), .val (.int vb0), .val (.int vb1), .val (.int vb2), .val (.ref r25), .val (.int (1 : Int32))] [])) t
      refine XS.iload X55.here hx rfl (hb hby at_327) rfl ?_
      exact k
    exact own_end (h := T29.heap) X55 (v := some (.int (1 : Int32))) Bd.notSynchronized (fun h => by rw [Bd.returns] at h; cases h) (fun fs hr => retN X55 hx (t := .boolean) Bd.returns (by simp) (hb hby at_329) hr) hh55 ⟨rfl, N55⟩ (by decide) (by decide)
set_option maxRecDepth 65536 in
set_option maxHeartbeats 40000000 in
theorem comes_1 {Post : Tables → Env → Array Value → State → Outcome → State → Prop} (hpost : ∀ tb e args s v u, (limb_1_1.after args s (.returned v) u = true ∧ limb_1_2.after args s (.returned v) u = true ∧ True) → FrameEnd s (.returned v) u (Jvm.fieldLocs frame_1_writes args s ++ Jvm.arrayLocs frame_1_arrays args s ++ Jvm.staticLocs frame_1_statics s) 24 256 → Post tb e args s (.returned v) u) :
    ArmFor flags0 classFile x code maxLocals ret World_1 tables_1 room_1 Calls_1 rest_1 Pre_1 Post := by
  intro l hfl _ _ p e ha hc hk s m args below hf hA hF happ hP
  obtain ⟨hcalls, hrest, hpre⟩ := hP
  obtain ⟨-, -, -, hnamed, -, -, -, hat⟩ := (Spec.applies_iff hf).mp happ
  obtain ⟨hg, hn⟩ := and_e (Cond.before_iff.mp (show (Jvm.Cond.and given_1 narrow_1).before args s = true from hpre))
  obtain ⟨hcount, hg0⟩ := and_e hg
  obtain ⟨ga0, hg1⟩ := and_e hg0
  obtain ⟨ga1, hg2⟩ := and_e hg1
  have ga2 := hg2
  obtain ⟨w0, w1, w2, rfl⟩ : ∃ w0 w1 w2 : Value, args = #[w0, w1, w2] := by
    have hs : args.size = 3 := by simpa [Cond.value, given_1] using hcount
    obtain ⟨L⟩ := args
    match L, hs with
    | [w0, w1, w2], _ => exact ⟨w0, w1, w2, rfl⟩
  have hw := fun d (hd : d ∈ tables_1) => atoms_spec (ws := Jvm.Cond.code x code maxLocals ret :: tables_1) hat d (List.mem_cons_of_mem _ hd)
  obtain ⟨i0, ei0⟩ := is_v ga0
  obtain rfl : w0 = (.int i0) := Option.some.inj ei0
  obtain ⟨i1, ei1⟩ := is_v ga1
  obtain rfl : w1 = (.int i1) := Option.some.inj ei1
  obtain ⟨i2, ei2⟩ := is_v ga2
  obtain rfl : w2 = (.int i2) := Option.some.inj ei2
  obtain ⟨n, o, h1, h2, h3, _, L, rfl, ⟨rfl, N⟩, hq⟩ := rm0 l s _ hw tables_1 i0 i1 i2  s.heap s.heap.size (Nat.le_refl _)  p e ha hc hk s m _ below hf ((Spec.applies_iff_loose hf).mp happ).1 ⟨rfl, State.Warmed39.refl s, rfl⟩ trivial
  refine ⟨n, _, h1, h2, h3, hpost _ _ _ _ _ _ ⟨Cond.after_iff.mpr rfl, Cond.after_iff.mpr (eq_i res_at (Term.int_eval (1)) rfl), trivial⟩ ⟨hq.1, hq.2.1, (hq.2.2.sift fun y hy => Or.inr (N y hy)).mono (by decide) (by decide)⟩⟩
theorem main_1_1 : Claimed_1_1 := comes_1 fun _ _ _ _ _ _ h hF => ⟨h.1, hF⟩
theorem main_1_2 : Claimed_1_2 := comes_1 fun _ _ _ _ _ _ h hF => ⟨h.2.1, hF⟩
end Jvm.Pilot.@@N@@
namespace Jvm.Pilot.@@N@@
open Jvm Jvm.ClassFile Sem Op Lib Jvm.Free Jvm.Stand Jvm.Pilot.@@N@@.Jvm.D
/-! MADE BY PROGRAM (witnessworld.py) out of the Statement's table words and the real class files: 11 classes; the members and pool entries that the words name. The judged class is class 1, her method 1. -/
namespace start1
open Jvm.ClassFile
def u (s : String) : CpInfo := .utf8 (stringToUtf16 s)
/-- a pool by its gaps: so many unusable entries, then the entry; so many at the end -/
def gap : Nat → List CpInfo → List CpInfo
  | 0, r => r
  | n + 1, r => .unusable :: gap n r
def poolList (es : List (Nat × CpInfo)) (last : Nat) : List CpInfo := es.foldr (fun e r => gap e.1 (e.2 :: r)) (gap last [])
def pool (es : List (Nat × CpInfo)) (last : Nat) : Array CpInfo := ⟨poolList es last⟩
def fileOf (pool : Array CpInfo) (this : Nat) (attrs : Array Attribute := #[]) (ms : Array MethodInfo := #[]) (fl : Nat := 33) (sup : Nat := 0) (ifs : Array Nat := #[]) (fds : Array FieldInfo := #[]) : ClassFile where
  minorVersion := 0
  majorVersion := 65
  constantPool := pool
  accessFlags := fl
  thisClass := this
  superClass := sup
  interfaces := ifs
  fields := fds
  methods := ms
  attributes := attrs
def plain (name : String) (sup : Option ClassId) : Class where
  name := name
  kind := .ordinary
  loader := none
  accessFlags := 33
  super := sup
  interfaces := #[]
  cf := none
  fields := #[]
  methods := #[]
  instanceTypes := #[]
  staticTypes := #[]
  resolved := #[]
  callSites := []
  init := .initialized
  statics := none
  mirror := none

def pool0 : Array CpInfo := pool [(5, u "<init>"), (0, u "()V"), (1, .class_ 10), (1, u "java/lang/Object")] 113

def k0c0 : Code := { maxStack := 0, maxLocals := 1, code := object_method_1_code, exceptionTable := #[], attributes := #[] }
def k0m0 : Method := { name := "<init>", desc := "()V", sig := { parameters := [], returnType := none }, accessFlags := 1, code := some k0c0 }
/-- java/lang/Object -/
def k0 : Class := { plain "java/lang/Object" none with
  accessFlags := 33
  interfaces := #[]
  cf := some (fileOf pool0 8 #[] #[{ accessFlags := 1, nameIndex := 5, descriptorIndex := 6, attributes := #[] }] 33 0 #[] #[])
  fields := #[]
  methods := #[k0m0]
  instanceTypes := #[]
  staticTypes := #[]
  resolved := Array.replicate 124 none
  statics := none }

def pool1 : Array CpInfo := pool [(2, .class_ 4), (1, u "java/lang/Object"), (0, u "<init>"), (0, u "()V"), (0, .methodref 8 9), (0, .class_ 10), (0, .nameAndType 11 12), (0, u "com/example/fenceline/fenceline/Digraph"), (0, u "withInEdges"), (0, u "(II)Lcom/example/fenceline/fenceline/Digraph;"), (0, .methodref 8 14), (0, .nameAndType 5 15), (0, u "(II)V"), (0, .methodref 8 17), (0, .nameAndType 18 15), (0, u "addEdge"), (0, .methodref 8 20), (0, .nameAndType 21 6), (0, u "removeLastEdge"), (0, .methodref 8 23), (0, .nameAndType 24 25), (0, u "edgeCount"), (0, u "()I"), (0, .methodref 8 27), (0, .nameAndType 28 29), (0, u "firstEdge"), (0, u "(I)I"), (0, .methodref 31 32), (0, .class_ 33), (0, .nameAndType 34 35), (0, u "com/example/fenceline/fenceline/DigraphRemoveLastEdgePinLaw"), (0, u "expect"), (0, u "(III)I"), (0, .methodref 8 37), (0, .nameAndType 38 29), (0, u "firstInEdge"), (2, u "law"), (0, u "(III)Z")] 3

def k1m0 : Method := { name := "<init>", desc := "()V", sig := { parameters := [], returnType := none }, accessFlags := 1, code := none }
def k1c1 : Code := { maxStack := 4, maxLocals := 12, code := code, exceptionTable := #[], attributes := #[] }
def k1m1 : Method := { name := "law", desc := "(III)Z", sig := { parameters := [.int, .int, .int], returnType := some .boolean }, accessFlags := 9, code := some k1c1 }
def k1c2 : Code := { maxStack := 2, maxLocals := 3, code := method_3_code, exceptionTable := #[], attributes := #[] }
def k1m2 : Method := { name := "expect", desc := "(III)I", sig := { parameters := [.int, .int, .int], returnType := some .int }, accessFlags := 10, code := some k1c2 }
/-- com/example/fenceline/fenceline/DigraphRemoveLastEdgePinLaw -/
def k1 : Class := { plain "com/example/fenceline/fenceline/DigraphRemoveLastEdgePinLaw" (some 0) with
  accessFlags := 49
  interfaces := #[]
  cf := some (fileOf pool1 31 #[] #[{ accessFlags := 1, nameIndex := 5, descriptorIndex := 6, attributes := #[] }, { accessFlags := 9, nameIndex := 41, descriptorIndex := 42, attributes := #[] }, { accessFlags := 10, nameIndex := 34, descriptorIndex := 35, attributes := #[] }] 49 2 #[] #[])
  fields := #[]
  methods := #[k1m0, k1m1, k1m2]
  instanceTypes := #[]
  staticTypes := #[]
  resolved := Array.replicate 46 none
  statics := none }

def pool2 : Array CpInfo := pool [(1, .methodref 2 3), (0, .class_ 4), (0, .nameAndType 5 6), (0, u "java/lang/Math"), (0, u "max"), (0, u "(II)I"), (0, .methodref 8 9), (0, .class_ 10), (0, .nameAndType 11 12), (0, u "com/example/fenceline/fenceline/Digraph"), (0, u "<init>"), (0, u "(IZI)V"), (0, .methodref 14 15), (0, .class_ 16), (0, .nameAndType 11 17), (0, u "java/lang/Object"), (0, u "()V"), (0, .fieldref 8 19), (0, .nameAndType 20 21), (0, u "first"), (0, u "[I"), (0, .methodref 23 24), (0, .class_ 25), (0, .nameAndType 26 27), (0, u "java/util/Arrays"), (0, u "fill"), (0, u "([II)V"), (0, .fieldref 8 29), (0, .nameAndType 30 21), (0, u "next"), (0, .fieldref 8 32), (0, .nameAndType 33 21), (0, u "tails"), (0, .fieldref 8 35), (0, .nameAndType 36 21), (0, u "heads"), (0, .fieldref 8 38), (0, .nameAndType 39 21), (0, u "firstIn"), (0, .fieldref 8 41), (0, .nameAndType 42 21), (0, u "nextIn"), (3, u "()I"), (4, .fieldref 8 52), (0, .nameAndType 53 54), (0, u "edgeCount"), (0, u "I"), (14, u "NO_EDGE"), (2, u "(II)V"), (3, u "withInEdges"), (0, u "(II)Lcom/example/fenceline/fenceline/Digraph;"), (2, u "addEdge"), (0, u "removeLastEdge"), (0, u "firstEdge"), (0, u "(I)I"), (1, u "firstInEdge")] 8

def k2c0 : Code := { maxStack := 5, maxLocals := 3, code := prog_26_method_1_code, exceptionTable := #[], attributes := #[] }
def k2m0 : Method := { name := "<init>", desc := "(II)V", sig := { parameters := [.int, .int], returnType := none }, accessFlags := 0, code := some k2c0 }
def k2c1 : Code := { maxStack := 2, maxLocals := 4, code := prog_26_method_2_code, exceptionTable := #[], attributes := #[] }
def k2m1 : Method := { name := "<init>", desc := "(IZI)V", sig := { parameters := [.int, .boolean, .int], returnType := none }, accessFlags := 2, code := some k2c1 }
def k2c2 : Code := { maxStack := 6, maxLocals := 2, code := prog_26_method_5_code, exceptionTable := #[], attributes := #[] }
def k2m2 : Method := { name := "withInEdges", desc := "(II)Lcom/example/fenceline/fenceline/Digraph;", sig := { parameters := [.int, .int], returnType := some (.object "com/example/fenceline/fenceline/Digraph") }, accessFlags := 8, code := some k2c2 }
def k2c3 : Code := { maxStack := 1, maxLocals := 1, code := prog_26_method_8_code, exceptionTable := #[], attributes := #[] }
def k2m3 : Method := { name := "edgeCount", desc := "()I", sig := { parameters := [], returnType := some .int }, accessFlags := 0, code := some k2c3 }
def k2c4 : Code := { maxStack := 4, maxLocals := 4, code := prog_26_method_9_code, exceptionTable := #[], attributes := #[] }
def k2m4 : Method := { name := "addEdge", desc := "(II)V", sig := { parameters := [.int, .int], returnType := none }, accessFlags := 0, code := some k2c4 }
def k2c5 : Code := { maxStack := 4, maxLocals := 1, code := prog_26_method_10_code, exceptionTable := #[], attributes := #[] }
def k2m5 : Method := { name := "removeLastEdge", desc := "()V", sig := { parameters := [], returnType := none }, accessFlags := 0, code := some k2c5 }
def k2c6 : Code := { maxStack := 2, maxLocals := 2, code := prog_26_method_11_code, exceptionTable := #[], attributes := #[] }
def k2m6 : Method := { name := "firstEdge", desc := "(I)I", sig := { parameters := [.int], returnType := some .int }, accessFlags := 0, code := some k2c6 }
def k2c7 : Code := { maxStack := 2, maxLocals := 2, code := prog_26_method_13_code, exceptionTable := #[], attributes := #[] }
def k2m7 : Method := { name := "firstInEdge", desc := "(I)I", sig := { parameters := [.int], returnType := some .int }, accessFlags := 0, code := some k2c7 }
/-- com/example/fenceline/fenceline/Digraph -/
def k2 : Class := { plain "com/example/fenceline/fenceline/Digraph" (some 0) with
  accessFlags := 48
  interfaces := #[]
  cf := some (fileOf pool2 8 #[] #[{ accessFlags := 0, nameIndex := 11, descriptorIndex := 72, attributes := #[] }, { accessFlags := 2, nameIndex := 11, descriptorIndex := 12, attributes := #[] }, { accessFlags := 8, nameIndex := 76, descriptorIndex := 77, attributes := #[] }, { accessFlags := 0, nameIndex := 53, descriptorIndex := 46, attributes := #[] }, { accessFlags := 0, nameIndex := 80, descriptorIndex := 72, attributes := #[] }, { accessFlags := 0, nameIndex := 81, descriptorIndex := 17, attributes := #[] }, { accessFlags := 0, nameIndex := 82, descriptorIndex := 83, attributes := #[] }, { accessFlags := 0, nameIndex := 85, descriptorIndex := 83, attributes := #[] }] 48 14 #[] #[{ accessFlags := 24, nameIndex := 69, descriptorIndex := 54, attributes := #[] }, { accessFlags := 18, nameIndex := 20, descriptorIndex := 21, attributes := #[] }, { accessFlags := 2, nameIndex := 30, descriptorIndex := 21, attributes := #[] }, { accessFlags := 18, nameIndex := 39, descriptorIndex := 21, attributes := #[] }, { accessFlags := 2, nameIndex := 42, descriptorIndex := 21, attributes := #[] }, { accessFlags := 2, nameIndex := 33, descriptorIndex := 21, attributes := #[] }, { accessFlags := 2, nameIndex := 36, descriptorIndex := 21, attributes := #[] }, { accessFlags := 2, nameIndex := 53, descriptorIndex := 54, attributes := #[] }])
  fields := #[{ name := "NO_EDGE", type := .int, accessFlags := 24, slot := 0, constantValue := 0 }, { name := "first", type := (.array .int), accessFlags := 18, slot := 0, constantValue := 0 }, { name := "next", type := (.array .int), accessFlags := 2, slot := 1, constantValue := 0 }, { name := "firstIn", type := (.array .int), accessFlags := 18, slot := 2, constantValue := 0 }, { name := "nextIn", type := (.array .int), accessFlags := 2, slot := 3, constantValue := 0 }, { name := "tails", type := (.array .int), accessFlags := 2, slot := 4, constantValue := 0 }, { name := "heads", type := (.array .int), accessFlags := 2, slot := 5, constantValue := 0 }, { name := "edgeCount", type := .int, accessFlags := 2, slot := 6, constantValue := 0 }]
  methods := #[k2m0, k2m1, k2m2, k2m3, k2m4, k2m5, k2m6, k2m7]
  instanceTypes := #[(.array .int), (.array .int), (.array .int), (.array .int), (.array .int), (.array .int), .int]
  staticTypes := #[.int]
  resolved := Array.replicate 94 none
  statics := none }

def pool3 : Array CpInfo := pool [(1, .class_ 2), (0, u "java/lang/Math"), (1, .class_ 6), (1, u "java/lang/Object"), (0, u "<init>"), (0, u "()V"), (89, .class_ 100), (1, u "java/lang/Math$RandomNumberGeneratorHolder"), (71, u "negativeZeroFloatBits"), (0, u "J"), (2, u "negativeZeroDoubleBits"), (21, u "max"), (46, u "$assertionsDisabled"), (0, u "Z"), (88, u "(II)I"), (2, u "twoToTheDoubleScaleDown"), (0, u "D"), (4, u "twoToTheDoubleScaleUp"), (9, u "E"), (3, u "PI"), (2, u "TAU"), (2, u "DEGREES_TO_RADIANS"), (0, u "RADIANS_TO_DEGREES")] 94

def k3m0 : Method := { name := "<init>", desc := "()V", sig := { parameters := [], returnType := none }, accessFlags := 2, code := none }
def k3c1 : Code := { maxStack := 2, maxLocals := 2, code := jdk_29_method_65_code, exceptionTable := #[], attributes := #[] }
def k3m1 : Method := { name := "max", desc := "(II)I", sig := { parameters := [.int, .int], returnType := some .int }, accessFlags := 9, code := some k3c1 }
/-- java/lang/Math -/
def k3 : Class := { plain "java/lang/Math" (some 0) with
  accessFlags := 49
  interfaces := #[]
  cf := some (fileOf pool3 1 #[.nestMembers #[98]] #[{ accessFlags := 2, nameIndex := 7, descriptorIndex := 8, attributes := #[] }, { accessFlags := 9, nameIndex := 198, descriptorIndex := 335, attributes := #[] }] 49 4 #[] #[{ accessFlags := 25, nameIndex := 354, descriptorIndex := 339, attributes := #[] }, { accessFlags := 25, nameIndex := 358, descriptorIndex := 339, attributes := #[] }, { accessFlags := 25, nameIndex := 361, descriptorIndex := 339, attributes := #[] }, { accessFlags := 26, nameIndex := 364, descriptorIndex := 339, attributes := #[] }, { accessFlags := 26, nameIndex := 365, descriptorIndex := 339, attributes := #[] }, { accessFlags := 26, nameIndex := 172, descriptorIndex := 173, attributes := #[] }, { accessFlags := 26, nameIndex := 176, descriptorIndex := 173, attributes := #[] }, { accessFlags := 8, nameIndex := 344, descriptorIndex := 339, attributes := #[] }, { accessFlags := 8, nameIndex := 338, descriptorIndex := 339, attributes := #[] }, { accessFlags := 4120, nameIndex := 245, descriptorIndex := 246, attributes := #[] }])
  fields := #[{ name := "E", type := .double, accessFlags := 25, slot := 0, constantValue := 0 }, { name := "PI", type := .double, accessFlags := 25, slot := 1, constantValue := 0 }, { name := "TAU", type := .double, accessFlags := 25, slot := 2, constantValue := 0 }, { name := "DEGREES_TO_RADIANS", type := .double, accessFlags := 26, slot := 3, constantValue := 0 }, { name := "RADIANS_TO_DEGREES", type := .double, accessFlags := 26, slot := 4, constantValue := 0 }, { name := "negativeZeroFloatBits", type := .long, accessFlags := 26, slot := 5, constantValue := 0 }, { name := "negativeZeroDoubleBits", type := .long, accessFlags := 26, slot := 6, constantValue := 0 }, { name := "twoToTheDoubleScaleUp", type := .double, accessFlags := 8, slot := 7, constantValue := 0 }, { name := "twoToTheDoubleScaleDown", type := .double, accessFlags := 8, slot := 8, constantValue := 0 }, { name := "$assertionsDisabled", type := .boolean, accessFlags := 4120, slot := 9, constantValue := 0 }]
  methods := #[k3m0, k3m1]
  instanceTypes := #[]
  staticTypes := #[.double, .double, .double, .double, .double, .long, .long, .double, .double, .boolean]
  resolved := Array.replicate 460 none
  statics := none }

def pool4 : Array CpInfo := pool [(2, .class_ 4), (1, u "java/lang/Object"), (0, u "<init>"), (0, u "()V"), (7, .class_ 16), (1, u "java/util/Arrays"), (57, .class_ 76), (1, u "java/util/Arrays$NaturalOrder"), (36, .class_ 115), (1, u "java/util/Arrays$LegacyMergeSort"), (1, u "Z"), (257, .class_ 376), (0, u "java/util/Arrays$ArrayList"), (68, u "$assertionsDisabled"), (269, u "MIN_ARRAY_SORT_GRAN"), (0, u "I"), (2, u "INSERTIONSORT_THRESHOLD"), (120, u "fill"), (4, u "([II)V"), (129, .class_ 976), (0, u "java/util/Arrays$ArrayItr")] 52

def k4m0 : Method := { name := "<init>", desc := "()V", sig := { parameters := [], returnType := none }, accessFlags := 2, code := none }
def k4c1 : Code := { maxStack := 3, maxLocals := 4, code := jdk_65_method_103_code, exceptionTable := #[], attributes := #[] }
def k4m1 : Method := { name := "fill", desc := "([II)V", sig := { parameters := [(.array .int), .int], returnType := none }, accessFlags := 9, code := some k4c1 }
/-- java/util/Arrays -/
def k4 : Class := { plain "java/util/Arrays" (some 0) with
  accessFlags := 49
  interfaces := #[]
  cf := some (fileOf pool4 14 #[.nestMembers #[975, 375, 113, 74]] #[{ accessFlags := 2, nameIndex := 5, descriptorIndex := 6, attributes := #[] }, { accessFlags := 9, nameIndex := 840, descriptorIndex := 845, attributes := #[] }] 49 2 #[] #[{ accessFlags := 26, nameIndex := 715, descriptorIndex := 716, attributes := #[] }, { accessFlags := 26, nameIndex := 719, descriptorIndex := 716, attributes := #[] }, { accessFlags := 4120, nameIndex := 445, descriptorIndex := 117, attributes := #[] }])
  fields := #[{ name := "MIN_ARRAY_SORT_GRAN", type := .int, accessFlags := 26, slot := 0, constantValue := 0 }, { name := "INSERTIONSORT_THRESHOLD", type := .int, accessFlags := 26, slot := 1, constantValue := 0 }, { name := "$assertionsDisabled", type := .boolean, accessFlags := 4120, slot := 2, constantValue := 0 }]
  methods := #[k4m0, k4m1]
  instanceTypes := #[]
  staticTypes := #[.int, .int, .boolean]
  resolved := Array.replicate 1029 none
  statics := none }

def pool5 : Array CpInfo := pool [(1, u "java/lang/Cloneable"), (0, .class_ 1), (0, u "java/lang/Object"), (0, .class_ 3)] 3

/-- java/lang/Cloneable -/
def k5 : Class := { plain "java/lang/Cloneable" (some 0) with
  accessFlags := 1537
  interfaces := #[]
  cf := some (fileOf pool5 2 #[] #[] 1537 4 #[] #[])
  fields := #[]
  methods := #[]
  instanceTypes := #[]
  staticTypes := #[]
  resolved := Array.replicate 8 none
  statics := none }

def pool6 : Array CpInfo := pool [(1, u "java/io/Serializable"), (0, .class_ 1), (0, u "java/lang/Object"), (0, .class_ 3)] 3

/-- java/io/Serializable -/
def k6 : Class := { plain "java/io/Serializable" (some 0) with
  accessFlags := 1537
  interfaces := #[]
  cf := some (fileOf pool6 2 #[] #[] 1537 4 #[] #[])
  fields := #[]
  methods := #[]
  instanceTypes := #[]
  staticTypes := #[]
  resolved := Array.replicate 8 none
  statics := none }

/-- the primitive byte -/
def k7 : Class := { plain "byte" none with kind := .primitive 'B', accessFlags := 0x411 }
/-- [B -/
def k8 : Class := { plain "[B" (some 0) with kind := .array 7 .byte, interfaces := #[5, 6], accessFlags := 1041 }

/-- the primitive int -/
def k9 : Class := { plain "int" none with kind := .primitive 'I', accessFlags := 0x411 }
/-- [I -/
def k10 : Class := { plain "[I" (some 0) with kind := .array 9 .int, interfaces := #[5, 6], accessFlags := 1041 }

def heap : Heap := #[]
def classes : Array Class := #[k0, k1, k2, k3, k4, k5, k6, k7, k8, k9, k10]
def interned : List (Array UInt16 × Addr) := []
def slotsUsed : Nat := 0
def theMethod : MethodId := ⟨1, 1⟩
def args0 : Array Value := #[.int 3, .int 1, .int 2]
def aboutOver (below : List Frame) : State where
  vm := { classes := classes, interned := interned.toArray }
  heap := heap
  slotsUsed := slotsUsed
  threads := #[{ frames := .invoking theMethod args0 :: below }]
def below0 : List Frame := [.native { method := ⟨0, 0⟩, args := #[] }]
def about1 : State := aboutOver below0
def p0 : Program := .bare "" "" ""
def e0 : Env := launch0.env 0 0 0
theorem w_frames : about1.frames = Frame.invoking theMethod args0 :: below0 := rfl
set_option maxRecDepth 65536 in
theorem w_args : argsFit about1.vm theMethod args0 = true := by decide +kernel
set_option maxRecDepth 65536 in
theorem w_heap : heapFits about1 = true := by decide +kernel
set_option maxRecDepth 65536 in
theorem w_runnable : about1.curStatus? = some .runnable := by decide +kernel
set_option maxRecDepth 65536 in
theorem w_alone : about1.alone = true := by decide +kernel
set_option maxRecDepth 65536 in
theorem w_named : about1.methodNamed? x = some theMethod := by decide +kernel
set_option maxRecDepth 65536 in
theorem w_hears : about1.hears theMethod below0 = true := by decide +kernel
set_option maxRecDepth 65536 in
theorem w_ripe : about1.ripe theMethod args0 below0 = true := by decide +kernel
theorem w_running : about1.status = .running := rfl
set_option maxRecDepth 65536 in
theorem w_room : about1.hasRoom e0.platform room_1 = true :=
  launch0.hasRoom_least _ room_1 (by decide +kernel) (by decide +kernel) (by decide +kernel) (by decide +kernel) (by decide +kernel) (by decide +kernel)
theorem allAtoms_all (ts : List Jvm.Cond) (a : Array Jvm.Value) (st : Jvm.State) : (allAtoms ts).before a st = ts.all (fun c => c.before a st) := by
  induction ts with
  | nil => rfl
  | cons c t ih =>
    show (Jvm.Cond.and c (allAtoms t)).before a st = _
    rw [Jvm.Cond.before_and, ih, List.all_cons]
def words1 : List Jvm.Cond := Jvm.Cond.code x code maxLocals ret :: tables_1
/-- a 'code' word, met by the world's own term for the bytes: nothing is compared byte by byte -/
theorem code_word {y : MethodName} {bytes : ByteArray} {mx : Nat} {rt : Option FieldType} {a : Array Value} {s : State} {m : MethodId} {meth : Method} {c : Code} (h1 : s.methodNamed? y = some m) (h2 : s.vm.method? m = some meth) (h3 : meth.code = some c) (h4 : c.code = bytes)
    (h5 : (c.maxLocals == mx && c.exceptionTable.isEmpty && decide (c.maxStack ≤ mostOperands) && decide (meth.sig.returnType = rt) && !meth.locks && decide (parseMethodDescriptor y.desc = some meth.sig)) = true) : (Jvm.Cond.code y bytes mx rt).before a s = true := by
  simp only [Bool.and_eq_true, beq_iff_eq, Bool.not_eq_true', decide_eq_true_eq] at h5
  obtain ⟨⟨⟨⟨⟨g1, g2⟩, g3⟩, g4⟩, g5⟩, g6⟩ := h5
  simp [Cond.before, Cond.holds, Cond.value, h1, h2, h3, h4, g1, g2, g3, g4, g5, g6]
def isCode : Jvm.Cond → Bool
  | .code _ _ _ _ => true
  | _ => false
theorem all_split {L : List Jvm.Cond} {P : Jvm.Cond → Bool} (h1 : L.all (fun c => isCode c || P c) = true) (h2 : ∀ c ∈ L.filter isCode, P c = true) : L.all P = true := by
  refine List.all_eq_true.mpr fun c hc => ?_
  have h := List.all_eq_true.mp h1 c hc
  rcases Bool.eq_false_or_eq_true (isCode c) with hi | hi
  · exact h2 c (List.mem_filter.mpr ⟨hc, hi⟩)
  · simpa [hi] using h
set_option maxRecDepth 65536 in
theorem w_c0 : (Jvm.Cond.code x code maxLocals ret).before args0 about1 = true := code_word (m := ⟨1, 1⟩) (meth := k1m1) (c := k1c1) (by decide +kernel) rfl rfl rfl (by decide +kernel)
set_option maxRecDepth 65536 in
theorem w_c1 : (Jvm.Cond.code ({ cls := "com/example/fenceline/fenceline/Digraph", name := "<init>", desc := "(II)V" } : Jvm.MethodName) prog_26_method_1_code (3 : Nat) (Option.none : Option Jvm.ClassFile.FieldType)).before args0 about1 = true := code_word (m := ⟨2, 0⟩) (meth := k2m0) (c := k2c0) (by decide +kernel) rfl rfl rfl (by decide +kernel)
set_option maxRecDepth 65536 in
theorem w_c2 : (Jvm.Cond.code ({ cls := "java/lang/Math", name := "max", desc := "(II)I" } : Jvm.MethodName) jdk_29_method_65_code (2 : Nat) (Option.some Jvm.ClassFile.FieldType.int)).before args0 about1 = true := code_word (m := ⟨3, 1⟩) (meth := k3m1) (c := k3c1) (by decide +kernel) rfl rfl rfl (by decide +kernel)
set_option maxRecDepth 65536 in
theorem w_c3 : (Jvm.Cond.code ({ cls := "com/example/fenceline/fenceline/Digraph", name := "<init>", desc := "(IZI)V" } : Jvm.MethodName) prog_26_method_2_code (4 : Nat) (Option.none : Option Jvm.ClassFile.FieldType)).before args0 about1 = true := code_word (m := ⟨2, 1⟩) (meth := k2m1) (c := k2c1) (by decide +kernel) rfl rfl rfl (by decide +kernel)
set_option maxRecDepth 65536 in
theorem w_c4 : (Jvm.Cond.code ({ cls := "java/lang/Object", name := "<init>", desc := "()V" } : Jvm.MethodName) object_method_1_code (1 : Nat) (Option.none : Option Jvm.ClassFile.FieldType)).before args0 about1 = true := code_word (m := ⟨0, 0⟩) (meth := k0m0) (c := k0c0) (by decide +kernel) rfl rfl rfl (by decide +kernel)
set_option maxRecDepth 65536 in
theorem w_c5 : (Jvm.Cond.code ({ cls := "java/util/Arrays", name := "fill", desc := "([II)V" } : Jvm.MethodName) jdk_65_method_103_code (4 : Nat) (Option.none : Option Jvm.ClassFile.FieldType)).before args0 about1 = true := code_word (m := ⟨4, 1⟩) (meth := k4m1) (c := k4c1) (by decide +kernel) rfl rfl rfl (by decide +kernel)
set_option maxRecDepth 65536 in
theorem w_c6 : (Jvm.Cond.code ({ cls := "com/example/fenceline/fenceline/Digraph", name := "addEdge", desc := "(II)V" } : Jvm.MethodName) prog_26_method_9_code (4 : Nat) (Option.none : Option Jvm.ClassFile.FieldType)).before args0 about1 = true := code_word (m := ⟨2, 4⟩) (meth := k2m4) (c := k2c4) (by decide +kernel) rfl rfl rfl (by decide +kernel)
set_option maxRecDepth 65536 in
theorem w_c7 : (Jvm.Cond.code ({ cls := "com/example/fenceline/fenceline/Digraph", name := "removeLastEdge", desc := "()V" } : Jvm.MethodName) prog_26_method_10_code (1 : Nat) (Option.none : Option Jvm.ClassFile.FieldType)).before args0 about1 = true := code_word (m := ⟨2, 5⟩) (meth := k2m5) (c := k2c5) (by decide +kernel) rfl rfl rfl (by decide +kernel)
set_option maxRecDepth 65536 in
theorem w_c8 : (Jvm.Cond.code ({ cls := "com/example/fenceline/fenceline/Digraph", name := "edgeCount", desc := "()I" } : Jvm.MethodName) prog_26_method_8_code (1 : Nat) (Option.some Jvm.ClassFile.FieldType.int)).before args0 about1 = true := code_word (m := ⟨2, 3⟩) (meth := k2m3) (c := k2c3) (by decide +kernel) rfl rfl rfl (by decide +kernel)
set_option maxRecDepth 65536 in
theorem w_c9 : (Jvm.Cond.code ({ cls := "com/example/fenceline/fenceline/Digraph", name := "firstEdge", desc := "(I)I" } : Jvm.MethodName) prog_26_method_11_code (2 : Nat) (Option.some Jvm.ClassFile.FieldType.int)).before args0 about1 = true := code_word (m := ⟨2, 6⟩) (meth := k2m6) (c := k2c6) (by decide +kernel) rfl rfl rfl (by decide +kernel)
set_option maxRecDepth 65536 in
theorem w_c10 : (Jvm.Cond.code ({ cls := "com/example/fenceline/fenceline/DigraphRemoveLastEdgePinLaw", name := "expect", desc := "(III)I" } : Jvm.MethodName) method_3_code (3 : Nat) (Option.some Jvm.ClassFile.FieldType.int)).before args0 about1 = true := code_word (m := ⟨1, 2⟩) (meth := k1m2) (c := k1c2) (by decide +kernel) rfl rfl rfl (by decide +kernel)
set_option maxRecDepth 65536 in
theorem w_c11 : (Jvm.Cond.code ({ cls := "com/example/fenceline/fenceline/Digraph", name := "withInEdges", desc := "(II)Lcom/example/fenceline/fenceline/Digraph;" } : Jvm.MethodName) prog_26_method_5_code (2 : Nat) (Option.some (Jvm.ClassFile.FieldType.object "com/example/fenceline/fenceline/Digraph"))).before args0 about1 = true := code_word (m := ⟨2, 2⟩) (meth := k2m2) (c := k2c2) (by decide +kernel) rfl rfl rfl (by decide +kernel)
set_option maxRecDepth 65536 in
theorem w_c12 : (Jvm.Cond.code ({ cls := "com/example/fenceline/fenceline/Digraph", name := "firstInEdge", desc := "(I)I" } : Jvm.MethodName) prog_26_method_13_code (2 : Nat) (Option.some Jvm.ClassFile.FieldType.int)).before args0 about1 = true := code_word (m := ⟨2, 7⟩) (meth := k2m7) (c := k2c7) (by decide +kernel) rfl rfl rfl (by decide +kernel)
def codes1 : List Jvm.Cond := [Jvm.Cond.code x code maxLocals ret, Jvm.Cond.code ({ cls := "com/example/fenceline/fenceline/Digraph", name := "<init>", desc := "(II)V" } : Jvm.MethodName) prog_26_method_1_code (3 : Nat) (Option.none : Option Jvm.ClassFile.FieldType), Jvm.Cond.code ({ cls := "java/lang/Math", name := "max", desc := "(II)I" } : Jvm.MethodName) jdk_29_method_65_code (2 : Nat) (Option.some Jvm.ClassFile.FieldType.int), Jvm.Cond.code ({ cls := "com/example/fenceline/fenceline/Digraph", name := "<init>", desc := "(IZI)V" } : Jvm.MethodName) prog_26_method_2_code (4 : Nat) (Option.none : Option Jvm.ClassFile.FieldType), Jvm.Cond.code ({ cls := "java/lang/Object", name := "<init>", desc := "()V" } : Jvm.MethodName) object_method_1_code (1 : Nat) (Option.none : Option Jvm.ClassFile.FieldType), Jvm.Cond.code ({ cls := "java/util/Arrays", name := "fill", desc := "([II)V" } : Jvm.MethodName) jdk_65_method_103_code (4 : Nat) (Option.none : Option Jvm.ClassFile.FieldType), Jvm.Cond.code ({ cls := "com/example/fenceline/fenceline/Digraph", name := "addEdge", desc := "(II)V" } : Jvm.MethodName) prog_26_method_9_code (4 : Nat) (Option.none : Option Jvm.ClassFile.FieldType), Jvm.Cond.code ({ cls := "com/example/fenceline/fenceline/Digraph", name := "removeLastEdge", desc := "()V" } : Jvm.MethodName) prog_26_method_10_code (1 : Nat) (Option.none : Option Jvm.ClassFile.FieldType), Jvm.Cond.code ({ cls := "com/example/fenceline/fenceline/Digraph", name := "edgeCount", desc := "()I" } : Jvm.MethodName) prog_26_method_8_code (1 : Nat) (Option.some Jvm.ClassFile.FieldType.int), Jvm.Cond.code ({ cls := "com/example/fenceline/fenceline/Digraph", name := "firstEdge", desc := "(I)I" } : Jvm.MethodName) prog_26_method_11_code (2 : Nat) (Option.some Jvm.ClassFile.FieldType.int), Jvm.Cond.code ({ cls := "com/example/fenceline/fenceline/DigraphRemoveLastEdgePinLaw", name := "expect", desc := "(III)I" } : Jvm.MethodName) method_3_code (3 : Nat) (Option.some Jvm.ClassFile.FieldType.int), Jvm.Cond.code ({ cls := "com/example/fenceline/fenceline/Digraph", name := "withInEdges", desc := "(II)Lcom/example/fenceline/fenceline/Digraph;" } : Jvm.MethodName) prog_26_method_5_code (2 : Nat) (Option.some (Jvm.ClassFile.FieldType.object "com/example/fenceline/fenceline/Digraph")), Jvm.Cond.code ({ cls := "com/example/fenceline/fenceline/Digraph", name := "firstInEdge", desc := "(I)I" } : Jvm.MethodName) prog_26_method_13_code (2 : Nat) (Option.some Jvm.ClassFile.FieldType.int)]
set_option maxRecDepth 65536 in
theorem codes_eq : words1.filter isCode = codes1 := rfl
theorem w_codes : ∀ c ∈ words1.filter isCode, c.before args0 about1 = true := by
  rw [codes_eq]
  intro c hc
  simp only [codes1, List.mem_cons, List.not_mem_nil, or_false] at hc
  rcases hc with rfl | rfl | rfl | rfl | rfl | rfl | rfl | rfl | rfl | rfl | rfl | rfl | rfl
  · exact w_c0
  · exact w_c1
  · exact w_c2
  · exact w_c3
  · exact w_c4
  · exact w_c5
  · exact w_c6
  · exact w_c7
  · exact w_c8
  · exact w_c9
  · exact w_c10
  · exact w_c11
  · exact w_c12
set_option maxRecDepth 65536 in
theorem w_t1 : (words1.take 24).all (fun c => isCode c || c.before args0 about1) = true := by decide +kernel
set_option maxRecDepth 65536 in
theorem w_t2 : ((words1.drop 24).take 24).all (fun c => isCode c || c.before args0 about1) = true := by decide +kernel
set_option maxRecDepth 65536 in
theorem w_t3 : ((words1.drop 24).drop 24).all (fun c => isCode c || c.before args0 about1) = true := by decide +kernel
theorem w_tables : (allAtoms (Jvm.Cond.code x code maxLocals ret :: tables_1)).before args0 about1 = true := by
  rw [allAtoms_all]
  show words1.all (fun c => c.before args0 about1) = true
  refine all_split ?_ w_codes
  rw [← List.take_append_drop 24 words1, List.all_append, w_t1, ← List.take_append_drop 24 (words1.drop 24), List.all_append, w_t2, w_t3]
  rfl
set_option maxRecDepth 65536 in
theorem w_case : (Jvm.Cond.and given_1 narrow_1).before args0 about1 = true := by decide +kernel
theorem w_applies : (headSpec (Jvm.Cond.code x code maxLocals ret :: tables_1) room_1).applies x e0.platform about1 = true :=
  (Spec.applies_iff w_frames).mpr ⟨w_running, w_runnable, w_alone, w_named, w_hears, w_ripe, w_room, w_tables⟩
theorem atStart : AtStart classFile x code maxLocals ret World_1 tables_1 room_1 Calls_1 rest_1 Pre_1 launch0 p0 e0 about1 theMethod args0 below0 :=
  ⟨lists_1, trivial, launch0.admits_env _ _ _, launch0.least_env, fairChoices_fair.cas, fairChoices_fair.clock, w_frames, w_args, w_heap, w_applies, trivial, trivial, w_case⟩
end start1
theorem witness_1 : WitnessClaimed_1 := ⟨start1.p0, start1.e0, start1.about1, start1.theMethod, start1.args0, start1.below0, start1.atStart⟩
end Jvm.Pilot.@@N@@
