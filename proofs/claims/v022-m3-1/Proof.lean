import JvmDerived
import JvmDerived.Pilot.@@N@@Statement
import JvmDerived.Pilot.@@N@@Code
set_option linter.unusedVariables false
set_option linter.unusedSimpArgs false
namespace Jvm.Pilot.@@N@@
open Jvm Jvm.ClassFile Sem Op Lib Jvm.Free Jvm.Stand Jvm.LawKit Jvm.RoadKit Bundle Jvm.Pilot.@@N@@.Jvm.D
/-- from S the body ends as Q says -/
def own_G (tb : Tables) (e : Env) (below : List Frame) (Q : State → Outcome → Prop) (S : State) : Prop := ∃ s₂ o, Steps tb e below S s₂ ∧ s₂.status = .running ∧ Ended s₂ below o ∧ Q s₂ o
theorem own_via {tb : Tables} {e : Env} {below : List Frame} {Q : State → Outcome → Prop} {S S' : State} (h : ∀ t, Steps tb e below S' t → Steps tb e below S t) (g : own_G tb e below Q S') : own_G tb e below Q S := by
  obtain ⟨t, o, k, r⟩ := g
  exact ⟨t, o, h t k, r⟩
def own_P (U : State) (Q : Option Value → Heap → List Loc → Prop) (cells slots : Nat) : State → Outcome → Prop := fun U' o => ∃ v L, o = .returned v ∧ Q v U'.heap L ∧ FrameEnd U o U' L cells slots
theorem own_end {p : Program} {l : Launch} {e : Env} {R : Room} {s : State} {m : MethodId} {args : Array Value} {below : List Frame} {meth : Method} {c : Code} {T : State} {locs : List Loc} {cells slots C S : Nat} {Q : Option Value → Heap → List Loc → Prop} {h : Heap} {G : State}
    (X : Stand p l e R s m args below meth c T locs cells slots) {v : Option Value} (hlk : meth.locks = false) (hv : meth.sig.returnType = none → v = none)
    (st : ∀ fs, (∀ (f : JFrame) (acts : List Action), f.method = m → f.locked = none → f.entered = [] → (doReturn e (T.setTop f) acts v).1 = T.setFrames fs) → Steps p.tables e below G (T.setFrames fs))
    (eT : T.heap = h) (hq : Q v h locs) (h1 : cells ≤ C) (h2 : slots ≤ S) : own_G p.tables e below (own_P s Q C S) G := by
  obtain ⟨fs, hr, hrun, hended, hW, hsame⟩ := X.leave (v := v) hv hlk
  exact ⟨_, _, st fs hr, hrun, hended, _, _, rfl, eT ▸ hq, ⟨_, rfl⟩, hW, hsame.mono h1 h2⟩
def own_Ar (Z : State) (h : Heap) (a : Addr) (k : ClassId) (ty : FieldType) (z : Int32) (vs : List Value) (d : Value) : Prop := Arv Z h a k ty z vs d ∧ vs.length = z.toNatClampNeg
theorem own_Ar.lt {Z : State} {h : Heap} {a : Addr} {k : ClassId} {ty : FieldType} {z : Int32} {vs : List Value} {d : Value} (F : own_Ar Z h a k ty z vs d) : a < h.size := F.1.lt
theorem own_Ar.ext {Z : State} {h h' : Heap} {a : Addr} {k : ClassId} {ty : FieldType} {z : Int32} {vs : List Value} {d : Value} (F : own_Ar Z h a k ty z vs d) (E : Ext h h') : own_Ar Z h' a k ty z vs d := ⟨F.1.ext E, F.2⟩
theorem own_Ar.other {Z : State} {h h' : Heap} {a b : Addr} {k : ClassId} {ty : FieldType} {z : Int32} {vs : List Value} {d : Value} {sl : Nat} {v : Value} (F : own_Ar Z h b k ty z vs d) (W : Wr h h' a sl v) (q : b ≠ a) : own_Ar Z h' b k ty z vs d := ⟨F.1.other W q, F.2⟩
theorem own_Ar.keep {Z : State} {h h' : Heap} {a : Addr} {k : ClassId} {ty : FieldType} {z : Int32} {vs : List Value} {d : Value} {ws : List Addr} (F : own_Ar Z h a k ty z vs d) (K : Keep h h' ws) (q : a ∉ ws) : own_Ar Z h' a k ty z vs d := ⟨F.1.keep K q, F.2⟩
theorem own_ixn {j z : Int32} (h : ¬ j < 0 ∧ j < z) : j.toNatClampNeg < z.toNatClampNeg := by
  obtain ⟨h1, h2⟩ := h
  rw [Int32.lt_iff_toInt_lt] at h1 h2
  have e0 : (0 : Int32).toInt = 0 := by decide
  have t1 : j.toNatClampNeg = j.toInt.toNat := rfl
  have t2 : z.toNatClampNeg = z.toInt.toNat := rfl
  omega
theorem own_gI (xs : List Int32) (i : Nat) : (xs.map Value.int).getD i (.int 0) = .int (xs.getD i 0) := by simp [List.getD_eq_getElem?_getD]
theorem own_gJ (xs : List Int64) (i : Nat) : (xs.map Value.long).getD i (.long 0) = .long (xs.getD i 0) := by simp [List.getD_eq_getElem?_getD]
theorem own_setI (xs : List Int32) (i : Nat) (v : Int32) : (xs.map Value.int).set i (.int v) = (xs.set i v).map Value.int := by simp [List.map_set]
theorem own_setJ (xs : List Int64) (i : Nat) (v : Int64) : (xs.map Value.long).set i (.long v) = (xs.set i v).map Value.long := by simp [List.map_set]
theorem own_Ar.setI {Z : State} {h h' : Heap} {a : Addr} {k : ClassId} {ty : FieldType} {z j v : Int32} {xs : List Int32} {c : Cell} (A : Arr Z h a c ty) (q1 : c.cls = k) (S : c.slots.size = z.toNatClampNeg) (q3 : ¬ z < 0) (H : Has c (xs.map Value.int) (.int 0)) (G : ∀ i, i < c.slots.size → fits ty ((xs.map Value.int).getD i (.int 0)) = true) (hv : fits ty (.int v) = true)
    (W : Wr h h' a j.toNatClampNeg (.int v)) (hin : ¬ (j < 0 ∨ c.slots.size ≤ j.toNatClampNeg)) (Le : (xs.map Value.int).length = z.toNatClampNeg) : own_Ar Z h' a k ty z ((xs.set j.toNatClampNeg v).map Value.int) (.int 0) := by
  have hl : j.toNatClampNeg < (xs.map Value.int).length := by rw [Le, ← S]; exact Nat.lt_of_not_le fun q => hin (Or.inr q)
  refine ⟨?_, by rw [← Le]; simp⟩
  rw [← own_setI]
  exact Arv.set A q1 S q3 H G hv W _ rfl hl
theorem own_Ar.setJ {Z : State} {h h' : Heap} {a : Addr} {k : ClassId} {ty : FieldType} {z j : Int32} {v : Int64} {xs : List Int64} {c : Cell} (A : Arr Z h a c ty) (q1 : c.cls = k) (S : c.slots.size = z.toNatClampNeg) (q3 : ¬ z < 0) (H : Has c (xs.map Value.long) (.long 0)) (G : ∀ i, i < c.slots.size → fits ty ((xs.map Value.long).getD i (.long 0)) = true) (hv : fits ty (.long v) = true)
    (W : Wr h h' a j.toNatClampNeg (.long v)) (hin : ¬ (j < 0 ∨ c.slots.size ≤ j.toNatClampNeg)) (Le : (xs.map Value.long).length = z.toNatClampNeg) : own_Ar Z h' a k ty z ((xs.set j.toNatClampNeg v).map Value.long) (.long 0) := by
  have hl : j.toNatClampNeg < (xs.map Value.long).length := by rw [Le, ← S]; exact Nat.lt_of_not_le fun q => hin (Or.inr q)
  refine ⟨?_, by rw [← Le]; simp⟩
  rw [← own_setJ]
  exact Arv.set A q1 S q3 H G hv W _ rfl hl
theorem own_Ar.newI {Z : State} {h : Heap} {a : Addr} {k : ClassId} {z : Int32} (A : Arr Z h a (newA k .int z) .int) (q : ¬ z < 0) : own_Ar Z h a k .int z ((List.replicate z.toNatClampNeg (0 : Int32)).map Value.int) (.int (0 : Int32)) := by
  refine ⟨?_, by simp⟩
  rw [List.map_replicate]
  exact (Arv.new A q).pad (pad_rep [] (.int (0 : Int32)) _)
theorem own_Ar.newB {Z : State} {h : Heap} {a : Addr} {k : ClassId} {z : Int32} (A : Arr Z h a (newA k .byte z) .byte) (q : ¬ z < 0) : own_Ar Z h a k .byte z ((List.replicate z.toNatClampNeg (0 : Int32)).map Value.int) (.int (0 : Int32)) := by
  refine ⟨?_, by simp⟩
  rw [List.map_replicate]
  exact (Arv.new A q).pad (pad_rep [] (.int (0 : Int32)) _)
theorem own_Ar.newJ {Z : State} {h : Heap} {a : Addr} {k : ClassId} {z : Int32} (A : Arr Z h a (newA k .long z) .long) (q : ¬ z < 0) : own_Ar Z h a k .long z ((List.replicate z.toNatClampNeg (0 : Int64)).map Value.long) (.long (0 : Int64)) := by
  refine ⟨?_, by simp⟩
  rw [List.map_replicate]
  exact (Arv.new A q).pad (pad_rep [] (.long (0 : Int64)) _)
def own_fl (xs : List Int32) (i : Nat) (x : Int32) : List Int32 := List.replicate i x ++ xs.drop i
theorem own_fl0 (xs : List Int32) (x : Int32) : own_fl xs 0 x = xs := by simp [own_fl]
theorem own_flN (xs : List Int32) (x : Int32) : own_fl xs xs.length x = List.replicate xs.length x := by simp [own_fl]
theorem own_flS (xs : List Int32) (i : Nat) (x : Int32) (h : i < xs.length) : (own_fl xs i x).set i x = own_fl xs (i + 1) x := by
  unfold own_fl
  rw [List.set_append_right _ _ (by simp), List.drop_eq_getElem_cons h]
  simp only [List.length_replicate, Nat.sub_self, List.set_cons_zero, List.replicate_succ', List.append_assoc, List.cons_append, List.nil_append]
theorem own_up {i z : Int32} {r : Nat} (h0 : ¬ i < 0) (hz : ¬ z < 0) (e : i.toNatClampNeg + (r + 1) = z.toNatClampNeg) : i < z ∧ ¬ (i + (1 : Int32)) < 0 ∧ (i + (1 : Int32)).toNatClampNeg = i.toNatClampNeg + 1 := by
  have t1 : i.toNatClampNeg = i.toInt.toNat := rfl
  have t2 : z.toNatClampNeg = z.toInt.toNat := rfl
  have t3 : (i + (1 : Int32)).toNatClampNeg = (i + (1 : Int32)).toInt.toNat := rfl
  have e0 : (0 : Int32).toInt = 0 := by decide
  have e1 : (1 : Int32).toInt = 1 := by decide
  have a := c_iadd i (1 : Int32)
  have b1 := rng32 (i + (1 : Int32))
  have b2 := rng32 i
  have b3 := rng32 z
  rw [Int32.lt_iff_toInt_lt] at h0 hz
  rw [Int32.lt_iff_toInt_lt, Int32.lt_iff_toInt_lt]
  rw [e1] at a
  have e2 : (i + (1 : Int32)).toInt = i.toInt + 1 := by omega
  omega
theorem own_out {i z : Int32} (h0 : ¬ i < 0) (e : i.toNatClampNeg + 0 = z.toNatClampNeg) : ¬ i < z := by
  have t1 : i.toNatClampNeg = i.toInt.toNat := rfl
  have t2 : z.toNatClampNeg = z.toInt.toNat := rfl
  have e0 : (0 : Int32).toInt = 0 := by decide
  rw [Int32.lt_iff_toInt_lt] at h0
  rw [Int32.lt_iff_toInt_lt]
  omega
abbrev own_T := List Int32 × List Int32 × Int32
def own_DS (Z : State) (h : Heap) (a bm bp : Addr) (km kp : ClassId) (z : Int32) (S : own_T) : Prop := Exa Z h a "com/example/vendace/vendace/localrecoding/DenseSet" ∧ Fld Z h a "com/example/vendace/vendace/localrecoding/DenseSet" "members" "[I" (.ref bm) ∧ Fld Z h a "com/example/vendace/vendace/localrecoding/DenseSet" "places" "[I" (.ref bp) ∧ Fld Z h a "com/example/vendace/vendace/localrecoding/DenseSet" "size" "I" (.int S.2.2) ∧ own_Ar Z h bm km .int z (List.map Value.int S.1) (.int (0 : Int32)) ∧ own_Ar Z h bp kp .int z (List.map Value.int S.2.1) (.int (0 : Int32))
abbrev own_s0 (z : Int32) : own_T := (List.replicate (z).toNatClampNeg (0 : Int32), List.replicate (List.replicate (z).toNatClampNeg (0 : Int32)).length (-1 : Int32), (0 : Int32))
def own_add (S : own_T) (v : Int32) : own_T := if S.2.1.getD (v).toNatClampNeg 0 < (0 : Int32) then (S.1.set (S.2.2).toNatClampNeg v, S.2.1.set (v).toNatClampNeg S.2.2, S.2.2 + (1 : Int32)) else S
def own_rem (S : own_T) (v : Int32) : own_T := if S.2.1.getD (v).toNatClampNeg 0 < (0 : Int32) then S else (S.1.set (S.2.1.getD (v).toNatClampNeg 0).toNatClampNeg (S.1.getD (S.2.2 - (1 : Int32)).toNatClampNeg 0), (S.2.1.set (S.1.getD (S.2.2 - (1 : Int32)).toNatClampNeg 0).toNatClampNeg (S.2.1.getD (v).toNatClampNeg 0)).set (v).toNatClampNeg (-1 : Int32), S.2.2 - (1 : Int32))
abbrev own_preA (z : Int32) (S : own_T) (v : Int32) : Prop := (¬ v < 0 ∧ v < z) ∧ (S.2.1.getD (v).toNatClampNeg 0 < (0 : Int32) → ¬ S.2.2 < 0 ∧ S.2.2 < z)
abbrev own_preR (z : Int32) (S : own_T) (v : Int32) : Prop := (¬ v < 0 ∧ v < z) ∧ (¬ S.2.1.getD (v).toNatClampNeg 0 < (0 : Int32) → (¬ S.2.2 - (1 : Int32) < 0 ∧ S.2.2 - (1 : Int32) < z) ∧ S.2.1.getD (v).toNatClampNeg 0 < z ∧ (¬ S.1.getD (S.2.2 - (1 : Int32)).toNatClampNeg 0 < 0 ∧ S.1.getD (S.2.2 - (1 : Int32)).toNatClampNeg 0 < z))
def own_ix : List Int32 → Int32 → Int32 → Int32
  | [], _, _ => -1
  | w :: ws, k, v => if v = w then k else own_ix ws (k + 1) v
def own_ins (W : List Int32) (v : Int32) : List Int32 := if v ∈ W then W else W ++ [v]
def own_I (z : Int32) (W : List Int32) (S : own_T) : Prop := S.2.2.toInt = W.length ∧ (∀ i, i < W.length → S.1.getD i 0 = W.getD i 0) ∧ (∀ v : Int32, ¬ v < 0 → v < z → S.2.1.getD v.toNatClampNeg 0 = own_ix W 0 v) ∧ S.1.length = z.toNatClampNeg ∧ S.2.1.length = z.toNatClampNeg ∧ W.length ≤ 4 ∧ (W.length : Int) ≤ z.toInt ∧ (∀ w ∈ W, ¬ w < 0 ∧ w < z) ∧ W.Nodup
theorem own_inj {v w : Int32} (hv : ¬ v < 0) (hw : ¬ w < 0) (h : v.toNatClampNeg = w.toNatClampNeg) : v = w := by
  rw [Int32.lt_iff_toInt_lt] at hv hw
  have e0 : (0 : Int32).toInt = 0 := by decide
  have t1 : v.toNatClampNeg = v.toInt.toNat := rfl
  have t2 : w.toNatClampNeg = w.toInt.toNat := rfl
  exact Int32.toInt_inj.mp (by omega)
theorem own_ixm (W : List Int32) (k v : Int32) (hk : 0 ≤ k.toInt) (hl : k.toInt + W.length < 100) : (v ∈ W → 0 ≤ (own_ix W k v).toInt) ∧ (v ∉ W → own_ix W k v = -1) := by
  induction W generalizing k with
  | nil => simp [own_ix]
  | cons w W ih =>
    have e1 : (k + 1).toInt = k.toInt + 1 := by
      rw [Int32.toInt_add, show (1 : Int32).toInt = 1 by decide]
      simp only [List.length_cons] at hl
      rw [Int.bmod_eq_of_le] <;> omega
    have := ih (k + 1) (by omega) (by simp only [List.length_cons] at hl; omega)
    unfold own_ix
    constructor
    · intro h
      split
      · exact hk
      · rename_i q
        exact this.1 (by simpa [q] using h)
    · intro h
      have q : ¬ v = w := fun e => h (by simp [e])
      rw [if_neg q]
      exact this.2 (fun e => h (by simp [e]))
theorem own_ixa (W : List Int32) (k v u : Int32) (hu : u ∉ W) : own_ix (W ++ [u]) k v = if v = u then k + Int32.ofNat W.length else own_ix W k v := by
  induction W generalizing k with
  | nil => simp [own_ix]
  | cons w W ih =>
    have := ih (k + 1) (fun e => hu (by simp [e]))
    simp only [List.cons_append, own_ix, this]
    by_cases q : v = w
    · have : ¬ v = u := fun e => hu (by simp [← e, q])
      simp [q]
      intro e; exact absurd (by simp [e]) hu
    · simp only [q, if_false]
      by_cases r : v = u
      · simp only [r, if_true, List.length_cons]
        rw [Int32.ofNat_add]
        have : Int32.ofNat 1 = 1 := rfl
        rw [this]
        rw [Int32.add_assoc, Int32.add_comm 1]
      · simp [r]
theorem own_pig (z v : Int32) (W : List Int32) (h4 : W.length < 4) (nd : W.Nodup) (hr : ∀ w ∈ W, ¬ w < 0 ∧ w < z) (q : v ∉ W) (hv : ¬ v < 0 ∧ v < z) : (W.length : Int) < z.toInt := by
  have e0 : (0 : Int32).toInt = 0 := by decide
  have ne : ∀ {a b : Int32}, ¬ a = b → a.toInt ≠ b.toInt := fun h e => h (Int32.toInt_inj.mp e)
  simp only [Int32.lt_iff_toInt_lt] at hr hv
  match W, h4, nd, hr, q with
  | [], _, _, _, _ => simp; omega
  | [a], _, _, hr, q =>
    have ha := hr a (by simp)
    have h1 : v.toInt ≠ a.toInt := ne (by simpa using q)
    simp; omega
  | [a, b], _, nd, hr, q =>
    have ha := hr a (by simp)
    have hb := hr b (by simp)
    simp only [List.mem_cons, List.not_mem_nil, or_false, not_or] at q
    have h1 := ne q.1
    have h2 := ne q.2
    have h3 : a.toInt ≠ b.toInt := ne (by simpa using nd)
    simp; omega
  | [a, b, c], _, nd, hr, q =>
    have ha := hr a (by simp)
    have hb := hr b (by simp)
    have hc := hr c (by simp)
    simp only [List.mem_cons, List.not_mem_nil, or_false, not_or] at q
    have h1 := ne q.1
    have h2 := ne q.2.1
    have h5 := ne q.2.2
    simp at nd
    have h3 : a.toInt ≠ b.toInt := ne nd.1.1
    have h6 : a.toInt ≠ c.toInt := ne nd.1.2
    have h7 : b.toInt ≠ c.toInt := ne nd.2
    simp; omega
theorem own_insl (W : List Int32) (v : Int32) : (own_ins W v).length ≤ W.length + 1 := by unfold own_ins; split <;> simp
theorem own_I0 (z : Int32) (hz : ¬ z < 0) : own_I z [] (own_s0 z) := by
  refine ⟨(show (0 : Int32).toInt = 0 by decide), by simp, ?_, by simp, by simp, by simp, ?_, by simp, by simp⟩
  · intro v h1 h2
    have := own_ixn ⟨h1, h2⟩
    simp [own_ix, List.getD_eq_getElem?_getD, this]
  · rw [Int32.lt_iff_toInt_lt] at hz
    have e0 : (0 : Int32).toInt = 0 := by decide
    simp only [List.length_nil]
    omega
theorem own_IA (z v : Int32) (W : List Int32) (S : own_T) (h : own_I z W S) (hv : ¬ v < 0 ∧ v < z) (h4 : W.length < 4) : own_preA z S v ∧ own_I z (own_ins W v) (own_add S v) := by
  obtain ⟨i1, i2, i3, i4, i5, i6, i7, i8, i9⟩ := h
  have hlt : v ∉ W → (W.length : Int) < z.toInt := fun q => own_pig z v W h4 i9 i8 q hv
  have hix := own_ixm W 0 v (by decide) (by have : (0 : Int32).toInt = 0 := by decide
                                            omega)
  have e0 : (0 : Int32).toInt = 0 := by decide
  have hp := i3 v hv.1 hv.2
  by_cases q : v ∈ W
  · have hn : ¬ S.2.1.getD v.toNatClampNeg 0 < 0 := by
      rw [hp, Int32.lt_iff_toInt_lt]
      have := hix.1 q
      omega
    refine ⟨⟨hv, fun r => absurd r hn⟩, ?_⟩
    rw [show own_ins W v = W from if_pos q, show own_add S v = S from if_neg hn]
    exact ⟨i1, i2, i3, i4, i5, i6, i7, i8, i9⟩
  · have hn : S.2.1.getD v.toNatClampNeg 0 < 0 := by
      rw [hp, hix.2 q]; decide
    have hW := hlt q
    have hsz : ¬ S.2.2 < 0 ∧ S.2.2 < z := by
      rw [Int32.lt_iff_toInt_lt, Int32.lt_iff_toInt_lt]; omega
    have hs1 : (S.2.2 + 1).toInt = S.2.2.toInt + 1 := by
      rw [Int32.toInt_add, show (1 : Int32).toInt = 1 by decide]
      rw [Int.bmod_eq_of_le] <;> omega
    have hsn : S.2.2.toNatClampNeg = W.length := by
      have t1 : S.2.2.toNatClampNeg = S.2.2.toInt.toNat := rfl
      omega
    refine ⟨⟨hv, fun _ => hsz⟩, ?_⟩
    rw [show own_ins W v = W ++ [v] from if_neg q, show own_add S v = _ from if_pos hn]
    refine ⟨?_, ?_, ?_, by simpa using i4, by simpa using i5, by simp; omega, by simp; omega, ?_, by rw [List.nodup_append]; exact ⟨i9, by simp, fun a ha b hb e => q (by rw [List.mem_singleton] at hb; rw [← hb, ← e]; exact ha)⟩⟩
    · show (S.2.2 + 1).toInt = _
      rw [hs1, i1]; simp
    · intro i hi
      show (S.1.set S.2.2.toNatClampNeg v).getD i 0 = _
      rw [hsn]
      have hl : W.length < S.1.length := by
        rw [i4]
        have t2 : z.toNatClampNeg = z.toInt.toNat := rfl
        omega
      simp only [List.length_append, List.length_singleton] at hi
      by_cases r : i = W.length
      · subst r
        simp [List.getD_eq_getElem?_getD, hl]
      · have := i2 i (by omega)
        simp only [List.getD_eq_getElem?_getD] at this ⊢
        rw [List.getElem?_set_ne (fun e => r e.symm), List.getElem?_append_left (by omega)]
        exact this
    · intro u h1 h2
      show (S.2.1.set v.toNatClampNeg S.2.2).getD u.toNatClampNeg 0 = _
      rw [own_ixa W 0 u v q]
      by_cases r : u = v
      · subst r
        have := own_ixn ⟨h1, h2⟩
        rw [← i5] at this
        simp only [List.getD_eq_getElem?_getD, List.getElem?_set_self this, if_true, Option.getD_some]
        refine Int32.toInt_inj.mp ?_
        rw [i1, Int32.zero_add, Int32.toInt_ofNat_of_lt (by omega)]
      · have hne : ¬ v.toNatClampNeg = u.toNatClampNeg := fun e => r (own_inj hv.1 h1 e).symm
        rw [if_neg r, ← i3 u h1 h2]
        simp only [List.getD_eq_getElem?_getD, List.getElem?_set_ne hne]
    · intro w hw
      rcases List.mem_append.mp hw with e | e
      · exact i8 w e
      · rw [List.mem_singleton.mp e]; exact hv
theorem own_chain (z va vb vc vd : Int32) (ha : ¬ va < 0 ∧ va < z) (hb : ¬ vb < 0 ∧ vb < z) (hc : ¬ vc < 0 ∧ vc < z) (hd : ¬ vd < 0 ∧ vd < z) :
    own_preA z (own_s0 z) va ∧ own_preA z (own_add (own_s0 z) va) vb ∧ own_preA z (own_add (own_add (own_s0 z) va) vb) vc ∧ own_preA z (own_add (own_add (own_add (own_s0 z) va) vb) vc) vd ∧
      own_I z (own_ins (own_ins (own_ins [va] vb) vc) vd) (own_add (own_add (own_add (own_add (own_s0 z) va) vb) vc) vd) := by
  have hz : ¬ z < 0 := by grind
  have l1 := own_insl [va] vb
  have l2 := own_insl (own_ins [va] vb) vc
  simp only [List.length_singleton] at l1
  obtain ⟨p1, j1⟩ := own_IA z va [] _ (own_I0 z hz) ha (by simp)
  rw [show own_ins [] va = [va] from if_neg (by simp)] at j1
  obtain ⟨p2, j2⟩ := own_IA z vb _ _ j1 hb (by simp)
  obtain ⟨p3, j3⟩ := own_IA z vc _ _ j2 hc (by omega)
  obtain ⟨p4, j4⟩ := own_IA z vd _ _ j3 hd (by omega)
  exact ⟨p1, p2, p3, p4, j4⟩
theorem own_done (z : Int32) (W : List Int32) (S : own_T) (h : own_I z W S) (k : Int32) (hk : k.toInt = W.length) (E : List Int32) (hE : ∀ i, i < W.length → E.getD i 0 = W.getD i 0) : S.2.2 = k ∧ ∀ i : Int32, ¬ i < 0 → i < k → S.1.getD (i).toNatClampNeg 0 = E.getD (i).toNatClampNeg 0 := by
  obtain ⟨i1, i2, -⟩ := h
  refine ⟨Int32.toInt_inj.mp (by rw [i1, hk]), fun i h1 h2 => ?_⟩
  have hi : i.toNatClampNeg < W.length := by
    have := own_ixn ⟨h1, h2⟩
    have t2 : k.toNatClampNeg = k.toInt.toNat := rfl
    omega
  rw [i2 _ hi, hE _ hi]
theorem own_z (z : Int32) (W : List Int32) (S : own_T) (h : own_I z W S) (k : Int32) (hk : k.toInt = W.length) : ¬ z < k := by
  obtain ⟨i1, i2, i3, i4, i5, i6, i7, i8⟩ := h
  rw [Int32.lt_iff_toInt_lt]; omega
theorem own_zz (x : Int32) : 1 ≤ ((x &&& (15 : Int32)) + (1 : Int32)).toInt ∧ ((x &&& (15 : Int32)) + (1 : Int32)).toInt ≤ 16 := by
  have h1 := c_mask x (15 : Int32) 4 (by decide) (by decide)
  have e := c_iadd (x &&& (15 : Int32)) 1
  rw [show (1 : Int32).toInt = 1 by decide] at e
  have b := rng32 ((x &&& (15 : Int32)) + (1 : Int32))
  omega
theorem own_nz {n : Int32} (h : 1 ≤ n.toInt) : n ≠ 0 := by rintro rfl; revert h; decide
theorem own_remI (x n : Int32) (h : 1 ≤ n.toInt) : ¬ ((x &&& (2147483647 : Int32)) % n) < 0 ∧ ((x &&& (2147483647 : Int32)) % n) < n := by
  have h1 := c_mask x (2147483647 : Int32) 31 (by decide) (by decide)
  have h2 := (c_irem (x &&& (2147483647 : Int32)) n n.toInt rfl).1 (by omega)
  have h3 := Int.emod_nonneg (x &&& (2147483647 : Int32)).toInt (show n.toInt ≠ 0 by omega)
  have h4 := Int.emod_lt_of_pos (x &&& (2147483647 : Int32)).toInt (show 0 < n.toInt by omega)
  rw [Int32.lt_iff_toInt_lt, Int32.lt_iff_toInt_lt, show (0 : Int32).toInt = 0 by decide]
  omega
theorem own_cap {z : Int32} (h : 1 ≤ z.toInt ∧ z.toInt ≤ 16) : ¬ z < 0 ∧ z.toNatClampNeg ≤ 16 := by
  have t2 : z.toNatClampNeg = z.toInt.toNat := rfl
  rw [Int32.lt_iff_toInt_lt, show (0 : Int32).toInt = 0 by decide]
  omega
theorem own_lk {i k z : Int32} (h : i < k) (hk : ¬ z < k) : i < z := by grind
theorem d3_0 : decode jdk_65_method_103_code 0 = .ok (.iconst 0, 1) := by decide +kernel
theorem d3_1 : decode jdk_65_method_103_code 1 = .ok (.istore_n 2, 1) := by decide +kernel
theorem d3_2 : decode jdk_65_method_103_code 2 = .ok (.aload_n 0, 1) := by decide +kernel
theorem d3_3 : decode jdk_65_method_103_code 3 = .ok (.arraylength, 1) := by decide +kernel
theorem d3_4 : decode jdk_65_method_103_code 4 = .ok (.istore_n 3, 1) := by decide +kernel
theorem d3_5 : decode jdk_65_method_103_code 5 = .ok (.iload_n 2, 1) := by decide +kernel
theorem d3_6 : decode jdk_65_method_103_code 6 = .ok (.iload_n 3, 1) := by decide +kernel
theorem d3_7 : decode jdk_65_method_103_code 7 = .ok (.if_icmp .ge 13, 3) := by decide +kernel
theorem d3_10 : decode jdk_65_method_103_code 10 = .ok (.aload_n 0, 1) := by decide +kernel
theorem d3_11 : decode jdk_65_method_103_code 11 = .ok (.iload_n 2, 1) := by decide +kernel
theorem d3_12 : decode jdk_65_method_103_code 12 = .ok (.iload_n 1, 1) := by decide +kernel
theorem d3_13 : decode jdk_65_method_103_code 13 = .ok (.iastore, 1) := by decide +kernel
theorem d3_14 : decode jdk_65_method_103_code 14 = .ok (.iinc 2 1, 3) := by decide +kernel
theorem d3_17 : decode jdk_65_method_103_code 17 = .ok (.goto (-12), 3) := by decide +kernel
theorem d3_20 : decode jdk_65_method_103_code 20 = .ok (.return_, 1) := by decide +kernel
theorem pn3 : plainName "java/util/Arrays" = true := by first | (simp [plainName, overriddenIn]; done) | decide +kernel
theorem ef3 (m : MethodId) (x0 : Addr) (x1 : Int32) : entryFrame m #[(.ref x0), (.int x1)] 4 = mkF m 0 #[.val (.ref x0), .val (.int x1), .unset, .unset] [] := by first | (simp [entryFrame, mkF, argsToLocals, Value.category]; done) | rfl
def Q3 (Z : State) (a1 : Addr) (p2 : Int32) (k : ClassId) (z : Int32) (xs : List Int32) (h0 : Heap) (n0 : Nat) (v : Option Value) (h : Heap) (L : List Loc) : Prop := v = none ∧ Fr n0 L ∧ Keep h0 h [a1] ∧ own_Ar Z h a1 k .int z (List.map Value.int (List.replicate xs.length p2)) (.int (0 : Int32))
set_option maxRecDepth 65536 in
set_option maxHeartbeats 40000000 in
theorem rm3 (l : Launch) (Z : State) (a0 : Array Value) (hw : ∀ d ∈ tables_1, d.before a0 Z = true) (ws : List Jvm.Cond) (a1 : Addr) (p2 : Int32) (k : ClassId) (z : Int32) (xs : List Int32) (h0 : Heap) (n0 : Nat) (Z0 : n0 ≤ h0.size) (V_a1 : own_Ar Z h0 a1 k .int z (List.map Value.int xs) (.int (0 : Int32))) (g_a1 : n0 ≤ a1) :
    MetFree l (⟨"java/util/Arrays", "fill", "([II)V"⟩ : MethodName) (head1 (Jvm.Cond.code (⟨"java/util/Arrays", "fill", "([II)V"⟩ : MethodName) jdk_65_method_103_code 4 none :: ws) ({ frames := 0, cells := 0, slots := 0, locals := 0 } : Room)) (fun a U => a = #[(.ref a1), (.int p2)] ∧ Z.Warmed39 U.vm ∧ U.heap = h0) (fun _ _ _ _ _ => True) (fun _ U o U' => ∃ v L, o = .returned v ∧ Q3 Z a1 p2 k z xs h0 n0 v U'.heap L ∧ FrameEnd U o U' L ({ frames := 0, cells := 0, slots := 0, locals := 0 } : Room).cells ({ frames := 0, cells := 0, slots := 0, locals := 0 } : Room).slots) := by
  refine MetFree.of_bodySF (plainFor_of_name pn3) hisR ?_
  intro p e s m args below meth c s₁ Bd hml0 hP hK
  obtain ⟨rfl, hZ, hh⟩ := hP
  have hx := Bd.exec
  have hby := Bd.bytes
  have hml : c.maxLocals = 4 := hml0
  have hown : s.vm.findClass "java/util/Arrays" = some m.cls := findClass_of_methodNamed Bd.named
  have hnm := (name_of_methodNamed Bd.named Bd.method).1
  have X0 : Stand p l e ({ frames := 0, cells := 0, slots := 0, locals := 0 } : Room) s m #[(.ref a1), (.int p2)] below meth c s₁ [] 0 0 := Stand.of_body Bd
  have e0 : s₁.heap = h0 := by rw [← hh, Bd.state]; rfl
  have N0 := Fr.nil n0
  refine (show own_G p.tables e below (own_P s (Q3 Z a1 p2 k z xs h0 n0) 0 0) (s₁.setTop (entryFrame m #[(.ref a1), (.int p2)] 4)) from ?_)
  refine own_via (fun t k => castTop (ef3 m a1 p2) k) ?_
  show own_G p.tables e below _ (s₁.setTop (mkF m 0 #[.val (.ref a1), .val (.int p2), .unset, .unset] []))
  have K0 := Keep.refl h0 [a1]
  have hz := V_a1.1.choose_spec.2.2.2.1
  have hlen : xs.length = z.toNatClampNeg := by rw [← V_a1.2]; simp
  refine own_via (S' := s₁.setTop (mkF m 3 #[.val (.ref a1), .val (.int p2), .val (.int (0 : Int32)), .unset] [(.ref a1)])) (fun t k => ?_) ?_
  · show Steps p.tables e below (s₁.setTop (mkF m 0 #[.val (.ref a1), .val (.int p2), .unset, .unset] [])) t
    refine XS.iconst X0.here hx rfl (hb hby d3_0) ?_
    show Steps p.tables e below (s₁.setTop (mkF m 1 #[.val (.ref a1), .val (.int p2), .unset, .unset] [(.int (0 : Int32))])) t
    refine XS.istoreN X0.here hx rfl (hb hby d3_1) rfl (l' := #[.val (.ref a1), .val (.int p2), .val (.int (0 : Int32)), .unset]) rfl ?_
    show Steps p.tables e below (s₁.setTop (mkF m 2 #[.val (.ref a1), .val (.int p2), .val (.int (0 : Int32)), .unset] [])) t
    refine XS.aloadN X0.here hx rfl (hb hby d3_2) rfl rfl ?_
    exact k
  obtain ⟨⟨cl1, Ar1, q1, S1, Nn1, H1, G1⟩, Le1⟩ := id V_a1
  refine own_via (S' := s₁.setTop (mkF m 4 #[.val (.ref a1), .val (.int p2), .val (.int (0 : Int32)), .unset] [(.int z)])) (fun t kz_ => X0.arraylength hx (by rw [e0]; exact Ar1.1) (State.isArrayOf_alike hZ.alike Ar1.2.1) (g := (mkF m 3 #[.val (.ref a1), .val (.int p2), .val (.int (0 : Int32)), .unset] [(.ref a1)])) rfl rfl (hb hby d3_3) _ (by rw [len_of S1 Nn1]; exact kz_)) ?_
  refine own_via (S' := s₁.setTop (mkF m 5 #[.val (.ref a1), .val (.int p2), .val (.int (0 : Int32)), .val (.int z)] [])) (fun t k => ?_) ?_
  · show Steps p.tables e below (s₁.setTop (mkF m 4 #[.val (.ref a1), .val (.int p2), .val (.int (0 : Int32)), .unset] [(.int z)])) t
    refine XS.istoreN X0.here hx rfl (hb hby d3_4) rfl (l' := #[.val (.ref a1), .val (.int p2), .val (.int (0 : Int32)), .val (.int z)]) rfl ?_
    exact k
  have loop : ∀ (r : Nat) (T : State) (h : Heap) (locs : List Loc) (i : Int32), Fr n0 locs → Stand p l e ({ frames := 0, cells := 0, slots := 0, locals := 0 } : Room) s m #[(.ref a1), (.int p2)] below meth c T locs 0 0 → T.heap = h → Keep h0 h [a1] → ¬ i < 0 → i.toNatClampNeg + r = z.toNatClampNeg → own_Ar Z h a1 k .int z (List.map Value.int (own_fl xs i.toNatClampNeg p2)) (.int (0 : Int32)) → own_G p.tables e below (own_P s (Q3 Z a1 p2 k z xs h0 n0) 0 0) (T.setTop (mkF m 5 #[.val (.ref a1), .val (.int p2), .val (.int i), .val (.int z)] [])) := by
    intro r
    induction r with
    | zero =>
      intro T h locs i N X eT K hi hr V
      refine own_via (S' := T.setTop (mkF m 7 #[.val (.ref a1), .val (.int p2), .val (.int i), .val (.int z)] [(.int z), (.int i)])) (fun t k => ?_) ?_
      · show Steps p.tables e below (T.setTop (mkF m 5 #[.val (.ref a1), .val (.int p2), .val (.int i), .val (.int z)] [])) t
        refine XS.iloadN X.here hx rfl (hb hby d3_5) rfl ?_
        show Steps p.tables e below (T.setTop (mkF m 6 #[.val (.ref a1), .val (.int p2), .val (.int i), .val (.int z)] [(.int i)])) t
        refine XS.iloadN X.here hx rfl (hb hby d3_6) rfl ?_
        exact k
      refine own_via (S' := T.setTop (mkF m 20 #[.val (.ref a1), .val (.int p2), .val (.int i), .val (.int z)] [])) (fun t k => XS.icmpYes (g := (mkF m 7 #[.val (.ref a1), .val (.int p2), .val (.int i), .val (.int z)] [(.int z), (.int i)])) X.here hx rfl (pc0 := 7) (pc' := 20) rfl (hb hby d3_7) rfl (flt (own_out hi hr)).2.1 (by decide) (by decide) k) ?_
      have Vz := V
      have hiz : i.toNatClampNeg = xs.length := by omega
      rw [hiz, own_flN] at Vz
      exact own_end (h := h) X (v := none) Bd.notSynchronized (fun _ => rfl) (fun fs hr => X.returnOut hx Bd.returns (hb hby d3_20) hr) eT ⟨rfl, N, K, Vz⟩ (by decide) (by decide)
    | succ r ih =>
      intro T h locs i N X eT K hi hr V
      refine own_via (S' := T.setTop (mkF m 7 #[.val (.ref a1), .val (.int p2), .val (.int i), .val (.int z)] [(.int z), (.int i)])) (fun t k => ?_) ?_
      · show Steps p.tables e below (T.setTop (mkF m 5 #[.val (.ref a1), .val (.int p2), .val (.int i), .val (.int z)] [])) t
        refine XS.iloadN X.here hx rfl (hb hby d3_5) rfl ?_
        show Steps p.tables e below (T.setTop (mkF m 6 #[.val (.ref a1), .val (.int p2), .val (.int i), .val (.int z)] [(.int i)])) t
        refine XS.iloadN X.here hx rfl (hb hby d3_6) rfl ?_
        exact k
      refine own_via (S' := T.setTop (mkF m 10 #[.val (.ref a1), .val (.int p2), .val (.int i), .val (.int z)] [])) (fun t k => XS.icmpNo (g := (mkF m 7 #[.val (.ref a1), .val (.int p2), .val (.int i), .val (.int z)] [(.int z), (.int i)])) X.here hx rfl (hb hby d3_7) rfl (tlt (own_up hi hz hr).1).2.1 k) ?_
      refine own_via (S' := T.setTop (mkF m 13 #[.val (.ref a1), .val (.int p2), .val (.int i), .val (.int z)] [(.int p2), (.int i), (.ref a1)])) (fun t k => ?_) ?_
      · show Steps p.tables e below (T.setTop (mkF m 10 #[.val (.ref a1), .val (.int p2), .val (.int i), .val (.int z)] [])) t
        refine XS.aloadN X.here hx rfl (hb hby d3_10) rfl rfl ?_
        show Steps p.tables e below (T.setTop (mkF m 11 #[.val (.ref a1), .val (.int p2), .val (.int i), .val (.int z)] [(.ref a1)])) t
        refine XS.iloadN X.here hx rfl (hb hby d3_11) rfl ?_
        show Steps p.tables e below (T.setTop (mkF m 12 #[.val (.ref a1), .val (.int p2), .val (.int i), .val (.int z)] [(.int i), (.ref a1)])) t
        refine XS.iloadN X.here hx rfl (hb hby d3_12) rfl ?_
        exact k
      obtain ⟨⟨cl4, Ar4, q4, S4, Nn4, H4, G4⟩, Le4⟩ := id V
      have hin4 : ¬ (i < 0 ∨ cl4.slots.size ≤ (i).toNatClampNeg) := inb_of S4 ⟨hi, (own_up hi hz hr).1⟩
      obtain ⟨T4, h4, X4, e4, W4, st4⟩ := stI X hx hZ eT Ar4 (j := i) hin4 (g := (mkF m 13 #[.val (.ref a1), .val (.int p2), .val (.int i), .val (.int z)] [(.int p2), (.int i), (.ref a1)])) rfl rfl (hb hby d3_13)
      have V4 : own_Ar Z h4 a1 k .int z (List.map Value.int ((own_fl xs i.toNatClampNeg p2).set (i).toNatClampNeg p2)) (.int (0 : Int32)) := own_Ar.setI Ar4 q4 S4 Nn4 H4 G4 rfl W4 hin4 Le4
      have K5 : Keep h0 h4 [a1] := Keep.wr K W4 (Or.inl (List.mem_of_getElem? (i := 0) rfl))
      have N5 := Fr.snoc X4 N g_a1
      refine own_via st4 ?_
      show own_G p.tables e below _ (T4.setTop (mkF m 14 #[.val (.ref a1), .val (.int p2), .val (.int i), .val (.int z)] []))
      refine own_via (S' := T4.setTop (mkF m 5 #[.val (.ref a1), .val (.int p2), .val (.int (i + (1 : Int32))), .val (.int z)] [])) (fun t k => ?_) ?_
      · show Steps p.tables e below (T4.setTop (mkF m 14 #[.val (.ref a1), .val (.int p2), .val (.int i), .val (.int z)] [])) t
        refine XS.iinc X4.here hx rfl (hb hby d3_14) rfl (l' := #[.val (.ref a1), .val (.int p2), .val (.int (i + (1 : Int32))), .val (.int z)]) rfl ?_
        show Steps p.tables e below (T4.setTop (mkF m 17 #[.val (.ref a1), .val (.int p2), .val (.int (i + (1 : Int32))), .val (.int z)] [])) t
        refine XS.goto X4.here hx rfl (pc0 := 17) (pc' := 5) rfl (hb hby d3_17) (by decide) (by decide) ?_
        exact k
      have Vn := V4
      rw [own_flS xs _ p2 (by rw [hlen]; exact own_ixn ⟨hi, (own_up hi hz hr).1⟩), ← (own_up hi hz hr).2.2] at Vn
      exact ih _ _ _ _ N5 X4 e4 K5 (own_up hi hz hr).2.1 (by rw [(own_up hi hz hr).2.2]; omega) Vn
  exact loop z.toNatClampNeg _ _ _ 0 N0 X0 e0 K0 (by decide) (by simp) (by rw [show (0 : Int32).toNatClampNeg = 0 by decide, own_fl0]; exact V_a1)
theorem d1_0 : decode prog_30_method_1_code 0 = .ok (.aload_n 0, 1) := by decide +kernel
theorem d1_1 : decode prog_30_method_1_code 1 = .ok (.invokespecial 1, 3) := by decide +kernel
theorem d1_4 : decode prog_30_method_1_code 4 = .ok (.aload_n 0, 1) := by decide +kernel
theorem d1_5 : decode prog_30_method_1_code 5 = .ok (.iload_n 1, 1) := by decide +kernel
theorem d1_6 : decode prog_30_method_1_code 6 = .ok (.newarray .int, 2) := by decide +kernel
theorem d1_8 : decode prog_30_method_1_code 8 = .ok (.putfield 7, 3) := by decide +kernel
theorem d1_11 : decode prog_30_method_1_code 11 = .ok (.aload_n 0, 1) := by decide +kernel
theorem d1_12 : decode prog_30_method_1_code 12 = .ok (.iload_n 1, 1) := by decide +kernel
theorem d1_13 : decode prog_30_method_1_code 13 = .ok (.newarray .int, 2) := by decide +kernel
theorem d1_15 : decode prog_30_method_1_code 15 = .ok (.putfield 13, 3) := by decide +kernel
theorem d1_18 : decode prog_30_method_1_code 18 = .ok (.aload_n 0, 1) := by decide +kernel
theorem d1_19 : decode prog_30_method_1_code 19 = .ok (.getfield 13, 3) := by decide +kernel
theorem d1_22 : decode prog_30_method_1_code 22 = .ok (.iconst (-1), 1) := by decide +kernel
theorem d1_23 : decode prog_30_method_1_code 23 = .ok (.invokestatic 16, 3) := by decide +kernel
theorem d1_26 : decode prog_30_method_1_code 26 = .ok (.return_, 1) := by decide +kernel
theorem pn1 : plainName "com/example/vendace/vendace/localrecoding/DenseSet" = true := by first | (simp [plainName, overriddenIn]; done) | decide +kernel
theorem pd_0 : parseMethodDescriptor "([II)V" = some ⟨[(.array .int), .int], none⟩ := by decide +kernel
theorem ef1 (m : MethodId) (x0 : Addr) (x1 : Int32) : entryFrame m #[(.ref x0), (.int x1)] 2 = mkF m 0 #[.val (.ref x0), .val (.int x1)] [] := by first | (simp [entryFrame, mkF, argsToLocals, Value.category]; done) | rfl
def Q1 (Z : State) (a1 : Addr) (p1 : Int32) (h0 : Heap) (n0 : Nat) (v : Option Value) (h : Heap) (L : List Loc) : Prop := v = none ∧ Fr n0 L ∧ Keep h0 h [a1] ∧ ∃ (bm bp : Addr) (km kp : ClassId), n0 ≤ bm ∧ n0 ≤ bp ∧ h0.size ≤ bm ∧ h0.size ≤ bp ∧ a1 ≠ bm ∧ a1 ≠ bp ∧ bm ≠ bp ∧ own_DS Z h a1 bm bp km kp p1 (own_s0 p1)
set_option maxRecDepth 65536 in
set_option maxHeartbeats 40000000 in
theorem rm1 (l : Launch) (Z : State) (a0 : Array Value) (hw : ∀ d ∈ tables_1, d.before a0 Z = true) (ws : List Jvm.Cond) (a1 : Addr) (p1 : Int32) (h0 : Heap) (n0 : Nat) (Z0 : n0 ≤ h0.size) (F0_0 : Fld Z h0 a1 "com/example/vendace/vendace/localrecoding/DenseSet" "members" "[I" .null) (F1_0 : Fld Z h0 a1 "com/example/vendace/vendace/localrecoding/DenseSet" "places" "[I" .null) (F2_0 : Fld Z h0 a1 "com/example/vendace/vendace/localrecoding/DenseSet" "size" "I" (.int (0 : Int32))) (E_a1 : Exa Z h0 a1 "com/example/vendace/vendace/localrecoding/DenseSet") (g_a1 : n0 ≤ a1) (hz : ¬ p1 < 0) (hcap : p1.toNatClampNeg ≤ 16) :
    MetFree l (⟨"com/example/vendace/vendace/localrecoding/DenseSet", "<init>", "(I)V"⟩ : MethodName) (head1 (Jvm.Cond.code (⟨"com/example/vendace/vendace/localrecoding/DenseSet", "<init>", "(I)V"⟩ : MethodName) prog_30_method_1_code 2 none :: ws) ({ frames := 1, cells := 2, slots := 32, locals := 15 } : Room)) (fun a U => a = #[(.ref a1), (.int p1)] ∧ Z.Warmed39 U.vm ∧ U.heap = h0) (fun _ _ _ _ _ => True) (fun _ U o U' => ∃ v L, o = .returned v ∧ Q1 Z a1 p1 h0 n0 v U'.heap L ∧ FrameEnd U o U' L ({ frames := 1, cells := 2, slots := 32, locals := 15 } : Room).cells ({ frames := 1, cells := 2, slots := 32, locals := 15 } : Room).slots) := by
  refine MetFree.of_bodySF (plainFor_of_name pn1) hisR ?_
  intro p e s m args below meth c s₁ Bd hml0 hP hK
  obtain ⟨rfl, hZ, hh⟩ := hP
  have hx := Bd.exec
  have hby := Bd.bytes
  have hml : c.maxLocals = 2 := hml0
  have hown : s.vm.findClass "com/example/vendace/vendace/localrecoding/DenseSet" = some m.cls := findClass_of_methodNamed Bd.named
  have hnm := (name_of_methodNamed Bd.named Bd.method).1
  have X0 : Stand p l e ({ frames := 1, cells := 2, slots := 32, locals := 15 } : Room) s m #[(.ref a1), (.int p1)] below meth c s₁ [] 0 0 := Stand.of_body Bd
  have e0 : s₁.heap = h0 := by rw [← hh, Bd.state]; rfl
  have N0 := Fr.nil n0
  refine (show own_G p.tables e below (own_P s (Q1 Z a1 p1 h0 n0) 2 32) (s₁.setTop (entryFrame m #[(.ref a1), (.int p1)] 2)) from ?_)
  refine own_via (fun t k => castTop (ef1 m a1 p1) k) ?_
  show own_G p.tables e below _ (s₁.setTop (mkF m 0 #[.val (.ref a1), .val (.int p1)] []))
  have K0 := Keep.refl h0 [a1]
  refine own_via (S' := s₁.setTop (mkF m 1 #[.val (.ref a1), .val (.int p1)] [(.ref a1)])) (fun t k => ?_) ?_
  · show Steps p.tables e below (s₁.setTop (mkF m 0 #[.val (.ref a1), .val (.int p1)] [])) t
    refine XS.aloadN X0.here hx rfl (hb hby d1_0) rfl rfl ?_
    exact k
  obtain ⟨T1, X1, e1, st1⟩ := initO X0 hx hZ hown (hw _ (List.mem_of_getElem? (i := 7) rfl)) (hw _ (List.mem_of_getElem? (i := 8) rfl)) (hw _ (List.mem_of_getElem? (i := 9) rfl)) e0 (g := (mkF m 1 #[.val (.ref a1), .val (.int p1)] [(.ref a1)])) rfl (by rw [hml]; rfl) rfl (hb hby d1_1) (by decide) (W := 0) (by show 2 * 0 + _ ≤ _; exact Nat.le_of_eq rfl) (by decide)
  refine own_via st1 ?_
  show own_G p.tables e below _ (T1.setTop (mkF m 4 #[.val (.ref a1), .val (.int p1)] []))
  refine own_via (S' := T1.setTop (mkF m 6 #[.val (.ref a1), .val (.int p1)] [(.int p1), (.ref a1)])) (fun t k => ?_) ?_
  · show Steps p.tables e below (T1.setTop (mkF m 4 #[.val (.ref a1), .val (.int p1)] [])) t
    refine XS.aloadN X1.here hx rfl (hb hby d1_4) rfl rfl ?_
    show Steps p.tables e below (T1.setTop (mkF m 5 #[.val (.ref a1), .val (.int p1)] [(.ref a1)])) t
    refine XS.iloadN X1.here hx rfl (hb hby d1_5) rfl ?_
    exact k
  obtain ⟨T2, h2, k2, X2, e2, E2, A2, st2⟩ := newP X1 hx hZ (hw _ (List.mem_of_getElem? (i := 10) rfl)) e1 (g := (mkF m 6 #[.val (.ref a1), .val (.int p1)] [(.int p1), (.ref a1)])) rfl (hb hby d1_6) rfl hz (cap := 16) hcap (by decide) (by decide) (by decide)
  obtain ⟨b2, g2⟩ : ∃ z, z = h0.size := ⟨_, rfl⟩
  have ne_a1_b2 : a1 ≠ b2 := Nat.ne_of_lt (Nat.lt_of_lt_of_le (E_a1).lt (Nat.le_of_eq g2.symm))
  have g_b2 : n0 ≤ b2 := Nat.le_trans (Nat.le_trans Z0 K0.1) (Nat.le_of_eq g2.symm)
  have sz_b2 : h0.size ≤ b2 := Nat.le_trans K0.1 (Nat.le_of_eq g2.symm)
  rw [← g2] at A2 st2
  have K2 : Keep h0 h2 [a1] := Keep.ext K0 E2
  have V_b2 : own_Ar Z h2 b2 k2 .int p1 (List.map Value.int (List.replicate (p1).toNatClampNeg (0 : Int32))) (.int (0 : Int32)) := own_Ar.newI A2 hz
  refine own_via st2 ?_
  show own_G p.tables e below _ (T2.setTop (mkF m 8 #[.val (.ref a1), .val (.int p1)] [(.ref b2), (.ref a1)]))
  have c3 := (Fld.ext E2 F0_0)
  have c4 := (Exa.ext E2 E_a1)
  obtain ⟨T5, h5, X5, e5, W5, st5⟩ := putF X2 hx hZ hown (host := "") (Or.inl (hw _ (List.mem_of_getElem? (i := 11) rfl))) Via.refl e2 c3 c4 (Or.inr ⟨(hw _ (List.mem_of_getElem? (i := 12) rfl)), rfl, hnm⟩) (hw _ (List.mem_of_getElem? (i := 2) rfl)) (ty := (.array .int)) (by decide) rfl rfl (g := (mkF m 8 #[.val (.ref a1), .val (.int p1)] [(.ref b2), (.ref a1)])) rfl rfl (hb hby d1_8)
  have F5 := Fld.same W5 c3
  have K6 : Keep h0 h5 [a1] := Keep.wr K2 W5 (Or.inl (List.mem_of_getElem? (i := 0) rfl))
  have N6 := Fr.snoc X5 N0 g_a1
  refine own_via st5 ?_
  show own_G p.tables e below _ (T5.setTop (mkF m 11 #[.val (.ref a1), .val (.int p1)] []))
  refine own_via (S' := T5.setTop (mkF m 13 #[.val (.ref a1), .val (.int p1)] [(.int p1), (.ref a1)])) (fun t k => ?_) ?_
  · show Steps p.tables e below (T5.setTop (mkF m 11 #[.val (.ref a1), .val (.int p1)] [])) t
    refine XS.aloadN X5.here hx rfl (hb hby d1_11) rfl rfl ?_
    show Steps p.tables e below (T5.setTop (mkF m 12 #[.val (.ref a1), .val (.int p1)] [(.ref a1)])) t
    refine XS.iloadN X5.here hx rfl (hb hby d1_12) rfl ?_
    exact k
  obtain ⟨T7, h7, k7, X7, e7, E7, A7, st7⟩ := newP X5 hx hZ (hw _ (List.mem_of_getElem? (i := 10) rfl)) e5 (g := (mkF m 13 #[.val (.ref a1), .val (.int p1)] [(.int p1), (.ref a1)])) rfl (hb hby d1_13) rfl hz (cap := 16) hcap (by decide) (by decide) (by decide)
  have c8 := (Exa.wr W5 c4)
  have c9 := (own_Ar.other V_b2 W5 (Ne.symm ne_a1_b2))
  obtain ⟨b7, g7⟩ : ∃ z, z = h5.size := ⟨_, rfl⟩
  have ne_a1_b7 : a1 ≠ b7 := Nat.ne_of_lt (Nat.lt_of_lt_of_le (c8).lt (Nat.le_of_eq g7.symm))
  have ne_b2_b7 : b2 ≠ b7 := Nat.ne_of_lt (Nat.lt_of_lt_of_le (c9).lt (Nat.le_of_eq g7.symm))
  have g_b7 : n0 ≤ b7 := Nat.le_trans (Nat.le_trans Z0 K6.1) (Nat.le_of_eq g7.symm)
  have sz_b7 : h0.size ≤ b7 := Nat.le_trans K6.1 (Nat.le_of_eq g7.symm)
  rw [← g7] at A7 st7
  have K7 : Keep h0 h7 [a1] := Keep.ext K6 E7
  have V_b7 : own_Ar Z h7 b7 k7 .int p1 (List.map Value.int (List.replicate (p1).toNatClampNeg (0 : Int32))) (.int (0 : Int32)) := own_Ar.newI A7 hz
  refine own_via st7 ?_
  show own_G p.tables e below _ (T7.setTop (mkF m 15 #[.val (.ref a1), .val (.int p1)] [(.ref b7), (.ref a1)]))
  have c10 := (Fld.ext E7 (Fld.other W5 (Fld.ext E2 F1_0) (Or.inr (slot_ne (Or.inr (hw _ (List.mem_of_getElem? (i := 14) rfl))) (Or.inr (hw _ (List.mem_of_getElem? (i := 12) rfl))) (by decide) (t := (.array .int)) (t' := (.array .int)) (by decide) (by decide)))))
  have c11 := (Exa.ext E7 c8)
  obtain ⟨T12, h12, X12, e12, W12, st12⟩ := putF X7 hx hZ hown (host := "") (Or.inl (hw _ (List.mem_of_getElem? (i := 13) rfl))) Via.refl e7 c10 c11 (Or.inr ⟨(hw _ (List.mem_of_getElem? (i := 14) rfl)), rfl, hnm⟩) (hw _ (List.mem_of_getElem? (i := 2) rfl)) (ty := (.array .int)) (by decide) rfl rfl (g := (mkF m 15 #[.val (.ref a1), .val (.int p1)] [(.ref b7), (.ref a1)])) rfl rfl (hb hby d1_15)
  have F12 := Fld.same W12 c10
  have K13 : Keep h0 h12 [a1] := Keep.wr K7 W12 (Or.inl (List.mem_of_getElem? (i := 0) rfl))
  have N13 := Fr.snoc X12 N6 g_a1
  refine own_via st12 ?_
  show own_G p.tables e below _ (T12.setTop (mkF m 18 #[.val (.ref a1), .val (.int p1)] []))
  refine own_via (S' := T12.setTop (mkF m 19 #[.val (.ref a1), .val (.int p1)] [(.ref a1)])) (fun t k => ?_) ?_
  · show Steps p.tables e below (T12.setTop (mkF m 18 #[.val (.ref a1), .val (.int p1)] [])) t
    refine XS.aloadN X12.here hx rfl (hb hby d1_18) rfl rfl ?_
    exact k
  obtain ⟨T14, X14, e14, st14⟩ := getF X12 hx hZ hown (host := "") (Or.inl (hw _ (List.mem_of_getElem? (i := 13) rfl))) Via.refl e12 F12 (g := (mkF m 19 #[.val (.ref a1), .val (.int p1)] [(.ref a1)])) rfl rfl (hb hby d1_19)
  refine own_via st14 ?_
  show own_G p.tables e below _ (T14.setTop (mkF m 22 #[.val (.ref a1), .val (.int p1)] [(.ref b7)]))
  refine own_via (S' := T14.setTop (mkF m 23 #[.val (.ref a1), .val (.int p1)] [(.int (-1 : Int32)), (.ref b7)])) (fun t k => ?_) ?_
  · show Steps p.tables e below (T14.setTop (mkF m 22 #[.val (.ref a1), .val (.int p1)] [(.ref b7)])) t
    refine XS.iconst X14.here hx rfl (hb hby d1_22) ?_
    exact k
  have c15 := (own_Ar.other V_b7 W12 (Ne.symm ne_a1_b7))
  obtain ⟨_, _, ⟨T16, L16, k16, n16⟩, -, X16, ⟨Lc16, hQ16, l16, y16, z16⟩, st16⟩ := Jvm.LawKit.callS X14 hx (y := (⟨"java/util/Arrays", "fill", "([II)V"⟩ : MethodName)) hown (mvT hZ (hw _ (List.mem_of_getElem? (i := 15) rfl))) (mvT hZ (hw _ (List.mem_of_getElem? (i := 16) rfl))) (mvT hZ (hw _ (List.mem_of_getElem? (i := 17) rfl))) (mvT hZ (hw _ (List.mem_of_getElem? (i := 18) rfl))) (by decide) (backOf (W := 0) (rm3 l Z a0 hw [] b7 (-1 : Int32) k7 p1 (List.replicate (p1).toNatClampNeg (0 : Int32)) h12 n0 (Nat.le_trans Z0 K13.1) c15 g_b7) hZ (hw _ (List.mem_of_getElem? (i := 18) rfl)) (hw _ (List.mem_of_getElem? (i := 17) rfl)) (by decide) (by decide)) (g := (mkF m 23 #[.val (.ref a1), .val (.int p1)] [(.int (-1 : Int32)), (.ref b7)])) rfl (by rw [hml]; rfl) (argsL := [(.ref b7), (.int (-1 : Int32))]) (rest := []) (lenOf pd_0 rfl) rfl (by show 2 * 0 + _ ≤ _; exact Nat.le_of_eq rfl) (hb hby d1_23) (fun _ _ => ⟨rfl, e14, (by decide : 2 + 0 ≤ _), (by decide : 32 + 0 ≤ _)⟩)
  dsimp only [Pt.U, Pt.locs, Pt.cells, Pt.slots] at X16 l16 y16 z16 st16 hQ16
  subst l16 y16 z16
  obtain ⟨rfl, Nq16, Kc16, Vc16⟩ := hQ16
  have N16 := Fr.app N13 Nq16
  refine own_via st16 ?_
  show own_G p.tables e below _ (T16.setTop (mkF m 26 #[.val (.ref a1), .val (.int p1)] []))
  have K16 : Keep h0 T16.heap [a1] := Keep.trans K13 Kc16 (allS (Or.inr sz_b7) all0)
  have c17 := (Exa.keep (Exa.wr W12 c11) Kc16)
  have c18 := (Fld.keep (Fld.other W12 (Fld.ext E7 F5) (Or.inr (slot_ne (Or.inr (hw _ (List.mem_of_getElem? (i := 12) rfl))) (Or.inr (hw _ (List.mem_of_getElem? (i := 14) rfl))) (by decide) (t := (.array .int)) (t' := (.array .int)) (by decide) (by decide)))) Kc16 (ninS ne_a1_b7 nin0))
  have c19 := (Fld.keep F12 Kc16 (ninS ne_a1_b7 nin0))
  have c20 := (Fld.keep (Fld.other W12 (Fld.ext E7 (Fld.other W5 (Fld.ext E2 F2_0) (Or.inr (slot_ne (Or.inl (hw _ (List.mem_of_getElem? (i := 25) rfl))) (Or.inr (hw _ (List.mem_of_getElem? (i := 12) rfl))) (by decide) (t := .int) (t' := (.array .int)) (by decide) (by decide))))) (Or.inr (slot_ne (Or.inl (hw _ (List.mem_of_getElem? (i := 25) rfl))) (Or.inr (hw _ (List.mem_of_getElem? (i := 14) rfl))) (by decide) (t := .int) (t' := (.array .int)) (by decide) (by decide)))) Kc16 (ninS ne_a1_b7 nin0))
  have c21 := (own_Ar.keep (own_Ar.other (own_Ar.ext c9 E7) W12 (Ne.symm ne_a1_b2)) Kc16 (ninS ne_b2_b7 nin0))
  exact own_end (h := T16.heap) X16 (v := none) Bd.notSynchronized (fun _ => rfl) (fun fs hr => X16.returnOut hx Bd.returns (hb hby d1_26) hr) rfl ⟨rfl, N16, K16, b2, b7, k2, k7, g_b2, g_b7, sz_b2, sz_b7, ne_a1_b2, ne_a1_b7, ne_b2_b7, ⟨c17, c18, c19, c20, c21, Vc16⟩⟩ (by decide) (by decide)
theorem d4_0 : decode prog_30_method_4_code 0 = .ok (.aload_n 0, 1) := by decide +kernel
theorem d4_1 : decode prog_30_method_4_code 1 = .ok (.getfield 13, 3) := by decide +kernel
theorem d4_4 : decode prog_30_method_4_code 4 = .ok (.iload_n 1, 1) := by decide +kernel
theorem d4_5 : decode prog_30_method_4_code 5 = .ok (.iaload, 1) := by decide +kernel
theorem d4_6 : decode prog_30_method_4_code 6 = .ok (.ifCond .lt 4, 3) := by decide +kernel
theorem d4_9 : decode prog_30_method_4_code 9 = .ok (.return_, 1) := by decide +kernel
theorem d4_10 : decode prog_30_method_4_code 10 = .ok (.aload_n 0, 1) := by decide +kernel
theorem d4_11 : decode prog_30_method_4_code 11 = .ok (.getfield 13, 3) := by decide +kernel
theorem d4_14 : decode prog_30_method_4_code 14 = .ok (.iload_n 1, 1) := by decide +kernel
theorem d4_15 : decode prog_30_method_4_code 15 = .ok (.aload_n 0, 1) := by decide +kernel
theorem d4_16 : decode prog_30_method_4_code 16 = .ok (.getfield 22, 3) := by decide +kernel
theorem d4_19 : decode prog_30_method_4_code 19 = .ok (.iastore, 1) := by decide +kernel
theorem d4_20 : decode prog_30_method_4_code 20 = .ok (.aload_n 0, 1) := by decide +kernel
theorem d4_21 : decode prog_30_method_4_code 21 = .ok (.getfield 7, 3) := by decide +kernel
theorem d4_24 : decode prog_30_method_4_code 24 = .ok (.aload_n 0, 1) := by decide +kernel
theorem d4_25 : decode prog_30_method_4_code 25 = .ok (.dup, 1) := by decide +kernel
theorem d4_26 : decode prog_30_method_4_code 26 = .ok (.getfield 22, 3) := by decide +kernel
theorem d4_29 : decode prog_30_method_4_code 29 = .ok (.dup_x1, 1) := by decide +kernel
theorem d4_30 : decode prog_30_method_4_code 30 = .ok (.iconst 1, 1) := by decide +kernel
theorem d4_31 : decode prog_30_method_4_code 31 = .ok (.iadd, 1) := by decide +kernel
theorem d4_32 : decode prog_30_method_4_code 32 = .ok (.putfield 22, 3) := by decide +kernel
theorem d4_35 : decode prog_30_method_4_code 35 = .ok (.iload_n 1, 1) := by decide +kernel
theorem d4_36 : decode prog_30_method_4_code 36 = .ok (.iastore, 1) := by decide +kernel
theorem d4_37 : decode prog_30_method_4_code 37 = .ok (.return_, 1) := by decide +kernel
theorem pn4 : plainName "com/example/vendace/vendace/localrecoding/DenseSet" = true := by first | (simp [plainName, overriddenIn]; done) | decide +kernel
theorem ef4 (m : MethodId) (x0 : Addr) (x1 : Int32) : entryFrame m #[(.ref x0), (.int x1)] 2 = mkF m 0 #[.val (.ref x0), .val (.int x1)] [] := by first | (simp [entryFrame, mkF, argsToLocals, Value.category]; done) | rfl
def Q4 (Z : State) (a1 : Addr) (p2 : Int32) (bm : Addr) (bp : Addr) (km : ClassId) (kp : ClassId) (z : Int32) (S : own_T) (h0 : Heap) (n0 : Nat) (v : Option Value) (h : Heap) (L : List Loc) : Prop := v = none ∧ Fr n0 L ∧ Keep h0 h [a1, bm, bp] ∧ ∃ S' : own_T, S' = own_add S p2 ∧ own_DS Z h a1 bm bp km kp z S'
set_option maxRecDepth 65536 in
set_option maxHeartbeats 40000000 in
theorem rm4 (l : Launch) (Z : State) (a0 : Array Value) (hw : ∀ d ∈ tables_1, d.before a0 Z = true) (ws : List Jvm.Cond) (a1 : Addr) (p2 : Int32) (bm : Addr) (bp : Addr) (km : ClassId) (kp : ClassId) (z : Int32) (S : own_T) (h0 : Heap) (n0 : Nat) (Z0 : n0 ≤ h0.size) (DS0 : own_DS Z h0 a1 bm bp km kp z S) (ne1 : a1 ≠ bm) (ne2 : a1 ≠ bp) (ne3 : bm ≠ bp) (g1 : n0 ≤ a1) (g2 : n0 ≤ bm) (g3 : n0 ≤ bp) (hpre : own_preA z S p2) :
    MetFree l (⟨"com/example/vendace/vendace/localrecoding/DenseSet", "add", "(I)V"⟩ : MethodName) (head1 (Jvm.Cond.code (⟨"com/example/vendace/vendace/localrecoding/DenseSet", "add", "(I)V"⟩ : MethodName) prog_30_method_4_code 2 none :: ws) ({ frames := 0, cells := 0, slots := 0, locals := 0 } : Room)) (fun a U => a = #[(.ref a1), (.int p2)] ∧ Z.Warmed39 U.vm ∧ U.heap = h0) (fun _ _ _ _ _ => True) (fun _ U o U' => ∃ v L, o = .returned v ∧ Q4 Z a1 p2 bm bp km kp z S h0 n0 v U'.heap L ∧ FrameEnd U o U' L ({ frames := 0, cells := 0, slots := 0, locals := 0 } : Room).cells ({ frames := 0, cells := 0, slots := 0, locals := 0 } : Room).slots) := by
  refine MetFree.of_bodySF (plainFor_of_name pn4) hisR ?_
  intro p e s m args below meth c s₁ Bd hml0 hP hK
  obtain ⟨rfl, hZ, hh⟩ := hP
  have hx := Bd.exec
  have hby := Bd.bytes
  have hml : c.maxLocals = 2 := hml0
  have hown : s.vm.findClass "com/example/vendace/vendace/localrecoding/DenseSet" = some m.cls := findClass_of_methodNamed Bd.named
  have hnm := (name_of_methodNamed Bd.named Bd.method).1
  have X0 : Stand p l e ({ frames := 0, cells := 0, slots := 0, locals := 0 } : Room) s m #[(.ref a1), (.int p2)] below meth c s₁ [] 0 0 := Stand.of_body Bd
  have e0 : s₁.heap = h0 := by rw [← hh, Bd.state]; rfl
  have N0 := Fr.nil n0
  refine (show own_G p.tables e below (own_P s (Q4 Z a1 p2 bm bp km kp z S h0 n0) 0 0) (s₁.setTop (entryFrame m #[(.ref a1), (.int p2)] 2)) from ?_)
  refine own_via (fun t k => castTop (ef4 m a1 p2) k) ?_
  show own_G p.tables e below _ (s₁.setTop (mkF m 0 #[.val (.ref a1), .val (.int p2)] []))
  obtain ⟨DE, DM, DP, DZ, DA, DB⟩ := id DS0
  have K0 := Keep.refl h0 [a1, bm, bp]
  refine own_via (S' := s₁.setTop (mkF m 1 #[.val (.ref a1), .val (.int p2)] [(.ref a1)])) (fun t k => ?_) ?_
  · show Steps p.tables e below (s₁.setTop (mkF m 0 #[.val (.ref a1), .val (.int p2)] [])) t
    refine XS.aloadN X0.here hx rfl (hb hby d4_0) rfl rfl ?_
    exact k
  obtain ⟨T1, X1, e1, st1⟩ := getF X0 hx hZ hown (host := "") (Or.inl (hw _ (List.mem_of_getElem? (i := 13) rfl))) Via.refl e0 DP (g := (mkF m 1 #[.val (.ref a1), .val (.int p2)] [(.ref a1)])) rfl rfl (hb hby d4_1)
  refine own_via st1 ?_
  show own_G p.tables e below _ (T1.setTop (mkF m 4 #[.val (.ref a1), .val (.int p2)] [(.ref bp)]))
  refine own_via (S' := T1.setTop (mkF m 5 #[.val (.ref a1), .val (.int p2)] [(.int p2), (.ref bp)])) (fun t k => ?_) ?_
  · show Steps p.tables e below (T1.setTop (mkF m 4 #[.val (.ref a1), .val (.int p2)] [(.ref bp)])) t
    refine XS.iloadN X1.here hx rfl (hb hby d4_4) rfl ?_
    exact k
  obtain ⟨⟨cl2, Ar2, q2, S2, Nn2, H2, G2⟩, Le2⟩ := id DB
  have hin2 : ¬ (p2 < 0 ∨ cl2.slots.size ≤ (p2).toNatClampNeg) := inb_of S2 hpre.1
  have hat2 : cl2.slots[(p2).toNatClampNeg]? = some (.int (S.2.1.getD (p2).toNatClampNeg 0)) := Has.at H2 hin2 (own_gI _ _)
  refine own_via (S' := T1.setTop (mkF m 6 #[.val (.ref a1), .val (.int p2)] [(.int (S.2.1.getD (p2).toNatClampNeg 0))])) (fun t kz_ => X1.iaload hx (j := p2) (v := (.int (S.2.1.getD (p2).toNatClampNeg 0))) (by rw [e1]; exact Ar2.1) (State.isArrayOf_alike hZ.alike Ar2.2.1) Ar2.2.2 hin2 hat2 (g := (mkF m 5 #[.val (.ref a1), .val (.int p2)] [(.int p2), (.ref bp)])) rfl rfl (hb hby d4_5) _ kz_) ?_
  by_cases hc6_3 : (S.2.1.getD (p2).toNatClampNeg 0) < (0 : Int32)
  · refine own_via (S' := T1.setTop (mkF m 10 #[.val (.ref a1), .val (.int p2)] [])) (fun t k => XS.ifYes (g := (mkF m 6 #[.val (.ref a1), .val (.int p2)] [(.int (S.2.1.getD (p2).toNatClampNeg 0))])) X1.here hx rfl (pc0 := 6) (pc' := 10) rfl (hb hby d4_6) rfl ((if0 _ _).trans (tlt hc6_3).1) (by decide) (by decide) k) ?_
    refine own_via (S' := T1.setTop (mkF m 11 #[.val (.ref a1), .val (.int p2)] [(.ref a1)])) (fun t k => ?_) ?_
    · show Steps p.tables e below (T1.setTop (mkF m 10 #[.val (.ref a1), .val (.int p2)] [])) t
      refine XS.aloadN X1.here hx rfl (hb hby d4_10) rfl rfl ?_
      exact k
    obtain ⟨T4, X4, e4, st4⟩ := getF X1 hx hZ hown (host := "") (Or.inl (hw _ (List.mem_of_getElem? (i := 13) rfl))) Via.refl e1 DP (g := (mkF m 11 #[.val (.ref a1), .val (.int p2)] [(.ref a1)])) rfl rfl (hb hby d4_11)
    refine own_via st4 ?_
    show own_G p.tables e below _ (T4.setTop (mkF m 14 #[.val (.ref a1), .val (.int p2)] [(.ref bp)]))
    refine own_via (S' := T4.setTop (mkF m 16 #[.val (.ref a1), .val (.int p2)] [(.ref a1), (.int p2), (.ref bp)])) (fun t k => ?_) ?_
    · show Steps p.tables e below (T4.setTop (mkF m 14 #[.val (.ref a1), .val (.int p2)] [(.ref bp)])) t
      refine XS.iloadN X4.here hx rfl (hb hby d4_14) rfl ?_
      show Steps p.tables e below (T4.setTop (mkF m 15 #[.val (.ref a1), .val (.int p2)] [(.int p2), (.ref bp)])) t
      refine XS.aloadN X4.here hx rfl (hb hby d4_15) rfl rfl ?_
      exact k
    obtain ⟨T5, X5, e5, st5⟩ := getF X4 hx hZ hown (host := "") (Or.inl (hw _ (List.mem_of_getElem? (i := 24) rfl))) Via.refl e4 DZ (g := (mkF m 16 #[.val (.ref a1), .val (.int p2)] [(.ref a1), (.int p2), (.ref bp)])) rfl rfl (hb hby d4_16)
    refine own_via st5 ?_
    show own_G p.tables e below _ (T5.setTop (mkF m 19 #[.val (.ref a1), .val (.int p2)] [(.int S.2.2), (.int p2), (.ref bp)]))
    obtain ⟨⟨cl6, Ar6, q6, S6, Nn6, H6, G6⟩, Le6⟩ := id DB
    have hin6 : ¬ (p2 < 0 ∨ cl6.slots.size ≤ (p2).toNatClampNeg) := inb_of S6 hpre.1
    obtain ⟨T6, h6, X6, e6, W6, st6⟩ := stI X5 hx hZ e5 Ar6 (j := p2) hin6 (g := (mkF m 19 #[.val (.ref a1), .val (.int p2)] [(.int S.2.2), (.int p2), (.ref bp)])) rfl rfl (hb hby d4_19)
    have V6 : own_Ar Z h6 bp kp .int z (List.map Value.int (S.2.1.set (p2).toNatClampNeg S.2.2)) (.int (0 : Int32)) := own_Ar.setI Ar6 q6 S6 Nn6 H6 G6 rfl W6 hin6 Le6
    have K7 : Keep h0 h6 [a1, bm, bp] := Keep.wr K0 W6 (Or.inl (List.mem_of_getElem? (i := 2) rfl))
    have N7 := Fr.snoc X6 N0 g3
    refine own_via st6 ?_
    show own_G p.tables e below _ (T6.setTop (mkF m 20 #[.val (.ref a1), .val (.int p2)] []))
    refine own_via (S' := T6.setTop (mkF m 21 #[.val (.ref a1), .val (.int p2)] [(.ref a1)])) (fun t k => ?_) ?_
    · show Steps p.tables e below (T6.setTop (mkF m 20 #[.val (.ref a1), .val (.int p2)] [])) t
      refine XS.aloadN X6.here hx rfl (hb hby d4_20) rfl rfl ?_
      exact k
    have c8 := (Fld.other W6 DM (Or.inl ne2))
    obtain ⟨T9, X9, e9, st9⟩ := getF X6 hx hZ hown (host := "") (Or.inl (hw _ (List.mem_of_getElem? (i := 11) rfl))) Via.refl e6 c8 (g := (mkF m 21 #[.val (.ref a1), .val (.int p2)] [(.ref a1)])) rfl rfl (hb hby d4_21)
    refine own_via st9 ?_
    show own_G p.tables e below _ (T9.setTop (mkF m 24 #[.val (.ref a1), .val (.int p2)] [(.ref bm)]))
    refine own_via (S' := T9.setTop (mkF m 26 #[.val (.ref a1), .val (.int p2)] [(.ref a1), (.ref a1), (.ref bm)])) (fun t k => ?_) ?_
    · show Steps p.tables e below (T9.setTop (mkF m 24 #[.val (.ref a1), .val (.int p2)] [(.ref bm)])) t
      refine XS.aloadN X9.here hx rfl (hb hby d4_24) rfl rfl ?_
      show Steps p.tables e below (T9.setTop (mkF m 25 #[.val (.ref a1), .val (.int p2)] [(.ref a1), (.ref bm)])) t
      refine XS.dup X9.here hx rfl (hb hby d4_25) rfl rfl ?_
      exact k
    have c10 := (Fld.other W6 DZ (Or.inl ne2))
    obtain ⟨T11, X11, e11, st11⟩ := getF X9 hx hZ hown (host := "") (Or.inl (hw _ (List.mem_of_getElem? (i := 24) rfl))) Via.refl e9 c10 (g := (mkF m 26 #[.val (.ref a1), .val (.int p2)] [(.ref a1), (.ref a1), (.ref bm)])) rfl rfl (hb hby d4_26)
    refine own_via st11 ?_
    show own_G p.tables e below _ (T11.setTop (mkF m 29 #[.val (.ref a1), .val (.int p2)] [(.int S.2.2), (.ref a1), (.ref bm)]))
    refine own_via (S' := T11.setTop (mkF m 32 #[.val (.ref a1), .val (.int p2)] [(.int (S.2.2 + (1 : Int32))), (.ref a1), (.int S.2.2), (.ref bm)])) (fun t k => ?_) ?_
    · show Steps p.tables e below (T11.setTop (mkF m 29 #[.val (.ref a1), .val (.int p2)] [(.int S.2.2), (.ref a1), (.ref bm)])) t
      refine XS.dupX1 X11.here hx rfl (hb hby d4_29) rfl rfl rfl ?_
      show Steps p.tables e below (T11.setTop (mkF m 30 #[.val (.ref a1), .val (.int p2)] [(.int S.2.2), (.ref a1), (.int S.2.2), (.ref bm)])) t
      refine XS.iconst X11.here hx rfl (hb hby d4_30) ?_
      show Steps p.tables e below (T11.setTop (mkF m 31 #[.val (.ref a1), .val (.int p2)] [(.int (1 : Int32)), (.int S.2.2), (.ref a1), (.int S.2.2), (.ref bm)])) t
      refine XS.iadd X11.here hx rfl (hb hby d4_31) rfl ?_
      exact k
    have c12 := (Exa.wr W6 DE)
    obtain ⟨T13, h13, X13, e13, W13, st13⟩ := putF X11 hx hZ hown (host := "") (Or.inl (hw _ (List.mem_of_getElem? (i := 24) rfl))) Via.refl e11 c10 c12 (Or.inl (hw _ (List.mem_of_getElem? (i := 25) rfl))) (hw _ (List.mem_of_getElem? (i := 2) rfl)) (ty := .int) (by decide) rfl rfl (g := (mkF m 32 #[.val (.ref a1), .val (.int p2)] [(.int (S.2.2 + (1 : Int32))), (.ref a1), (.int S.2.2), (.ref bm)])) rfl rfl (hb hby d4_32)
    have F13 := Fld.same W13 c10
    have K14 : Keep h0 h13 [a1, bm, bp] := Keep.wr K7 W13 (Or.inl (List.mem_of_getElem? (i := 0) rfl))
    have N14 := Fr.snoc X13 N7 g1
    refine own_via st13 ?_
    show own_G p.tables e below _ (T13.setTop (mkF m 35 #[.val (.ref a1), .val (.int p2)] [(.int S.2.2), (.ref bm)]))
    refine own_via (S' := T13.setTop (mkF m 36 #[.val (.ref a1), .val (.int p2)] [(.int p2), (.int S.2.2), (.ref bm)])) (fun t k => ?_) ?_
    · show Steps p.tables e below (T13.setTop (mkF m 35 #[.val (.ref a1), .val (.int p2)] [(.int S.2.2), (.ref bm)])) t
      refine XS.iloadN X13.here hx rfl (hb hby d4_35) rfl ?_
      exact k
    have c15 := (own_Ar.other (own_Ar.other DA W6 ne3) W13 (Ne.symm ne1))
    obtain ⟨⟨cl16, Ar16, q16, S16, Nn16, H16, G16⟩, Le16⟩ := id c15
    have hin16 : ¬ (S.2.2 < 0 ∨ cl16.slots.size ≤ (S.2.2).toNatClampNeg) := inb_of S16 (hpre.2 hc6_3)
    obtain ⟨T16, h16, X16, e16, W16, st16⟩ := stI X13 hx hZ e13 Ar16 (j := S.2.2) hin16 (g := (mkF m 36 #[.val (.ref a1), .val (.int p2)] [(.int p2), (.int S.2.2), (.ref bm)])) rfl rfl (hb hby d4_36)
    have V16 : own_Ar Z h16 bm km .int z (List.map Value.int (S.1.set (S.2.2).toNatClampNeg p2)) (.int (0 : Int32)) := own_Ar.setI Ar16 q16 S16 Nn16 H16 G16 rfl W16 hin16 Le16
    have K17 : Keep h0 h16 [a1, bm, bp] := Keep.wr K14 W16 (Or.inl (List.mem_of_getElem? (i := 1) rfl))
    have N17 := Fr.snoc X16 N14 g2
    refine own_via st16 ?_
    show own_G p.tables e below _ (T16.setTop (mkF m 37 #[.val (.ref a1), .val (.int p2)] []))
    have c18 := (Exa.wr W16 (Exa.wr W13 c12))
    have c19 := (Fld.other W16 (Fld.other W13 c8 (Or.inr (slot_ne (Or.inr (hw _ (List.mem_of_getElem? (i := 12) rfl))) (Or.inl (hw _ (List.mem_of_getElem? (i := 25) rfl))) (by decide) (t := (.array .int)) (t' := .int) (by decide) (by decide)))) (Or.inl ne1))
    have c20 := (Fld.other W16 (Fld.other W13 (Fld.other W6 DP (Or.inl ne2)) (Or.inr (slot_ne (Or.inr (hw _ (List.mem_of_getElem? (i := 14) rfl))) (Or.inl (hw _ (List.mem_of_getElem? (i := 25) rfl))) (by decide) (t := (.array .int)) (t' := .int) (by decide) (by decide)))) (Or.inl ne1))
    have c21 := (Fld.other W16 F13 (Or.inl ne1))
    have c22 := (own_Ar.other (own_Ar.other V6 W13 (Ne.symm ne2)) W16 (Ne.symm ne3))
    have hS : own_add S p2 = _ := (by unfold own_add; exact if_pos hc6_3)
    exact own_end (h := h16) X16 (v := none) Bd.notSynchronized (fun _ => rfl) (fun fs hr => X16.returnOut hx Bd.returns (hb hby d4_37) hr) e16 ⟨rfl, N17, K17, _, hS.symm, ⟨c18, c19, c20, c21, V16, c22⟩⟩ (by decide) (by decide)
  · refine own_via (S' := T1.setTop (mkF m 9 #[.val (.ref a1), .val (.int p2)] [])) (fun t k => XS.ifNo (g := (mkF m 6 #[.val (.ref a1), .val (.int p2)] [(.int (S.2.1.getD (p2).toNatClampNeg 0))])) X1.here hx rfl (hb hby d4_6) rfl ((if0 _ _).trans (flt hc6_3).1) k) ?_
    have hS : own_add S p2 = _ := (by unfold own_add; exact if_neg hc6_3)
    exact own_end (h := h0) X1 (v := none) Bd.notSynchronized (fun _ => rfl) (fun fs hr => X1.returnOut hx Bd.returns (hb hby d4_9) hr) e1 ⟨rfl, N0, K0, _, hS.symm, ⟨DE, DM, DP, DZ, DA, DB⟩⟩ (by decide) (by decide)
theorem d5_0 : decode prog_30_method_2_code 0 = .ok (.aload_n 0, 1) := by decide +kernel
theorem d5_1 : decode prog_30_method_2_code 1 = .ok (.getfield 22, 3) := by decide +kernel
theorem d5_4 : decode prog_30_method_2_code 4 = .ok (.ireturn, 1) := by decide +kernel
theorem pn5 : plainName "com/example/vendace/vendace/localrecoding/DenseSet" = true := by first | (simp [plainName, overriddenIn]; done) | decide +kernel
theorem ef5 (m : MethodId) (x0 : Addr) : entryFrame m #[(.ref x0)] 1 = mkF m 0 #[.val (.ref x0)] [] := by first | (simp [entryFrame, mkF, argsToLocals, Value.category]; done) | rfl
def Q5 (Z : State) (a1 : Addr) (p1 : Int32) (h0 : Heap) (n0 : Nat) (v : Option Value) (h : Heap) (L : List Loc) : Prop := v = some (.int p1) ∧ Fr n0 L ∧ h = h0
set_option maxRecDepth 65536 in
set_option maxHeartbeats 40000000 in
theorem rm5 (l : Launch) (Z : State) (a0 : Array Value) (hw : ∀ d ∈ tables_1, d.before a0 Z = true) (ws : List Jvm.Cond) (a1 : Addr) (p1 : Int32) (h0 : Heap) (n0 : Nat) (Z0 : n0 ≤ h0.size) (F0_0 : Fld Z h0 a1 "com/example/vendace/vendace/localrecoding/DenseSet" "size" "I" (.int p1)) :
    MetFree l (⟨"com/example/vendace/vendace/localrecoding/DenseSet", "size", "()I"⟩ : MethodName) (head1 (Jvm.Cond.code (⟨"com/example/vendace/vendace/localrecoding/DenseSet", "size", "()I"⟩ : MethodName) prog_30_method_2_code 1 (some .int) :: ws) ({ frames := 0, cells := 0, slots := 0, locals := 0 } : Room)) (fun a U => a = #[(.ref a1)] ∧ Z.Warmed39 U.vm ∧ U.heap = h0) (fun _ _ _ _ _ => True) (fun _ U o U' => ∃ v L, o = .returned v ∧ Q5 Z a1 p1 h0 n0 v U'.heap L ∧ FrameEnd U o U' L ({ frames := 0, cells := 0, slots := 0, locals := 0 } : Room).cells ({ frames := 0, cells := 0, slots := 0, locals := 0 } : Room).slots) := by
  refine MetFree.of_bodySF (plainFor_of_name pn5) hisR ?_
  intro p e s m args below meth c s₁ Bd hml0 hP hK
  obtain ⟨rfl, hZ, hh⟩ := hP
  have hx := Bd.exec
  have hby := Bd.bytes
  have hml : c.maxLocals = 1 := hml0
  have hown : s.vm.findClass "com/example/vendace/vendace/localrecoding/DenseSet" = some m.cls := findClass_of_methodNamed Bd.named
  have hnm := (name_of_methodNamed Bd.named Bd.method).1
  have X0 : Stand p l e ({ frames := 0, cells := 0, slots := 0, locals := 0 } : Room) s m #[(.ref a1)] below meth c s₁ [] 0 0 := Stand.of_body Bd
  have e0 : s₁.heap = h0 := by rw [← hh, Bd.state]; rfl
  have N0 := Fr.nil n0
  refine (show own_G p.tables e below (own_P s (Q5 Z a1 p1 h0 n0) 0 0) (s₁.setTop (entryFrame m #[(.ref a1)] 1)) from ?_)
  refine own_via (fun t k => castTop (ef5 m a1) k) ?_
  show own_G p.tables e below _ (s₁.setTop (mkF m 0 #[.val (.ref a1)] []))
  refine own_via (S' := s₁.setTop (mkF m 1 #[.val (.ref a1)] [(.ref a1)])) (fun t k => ?_) ?_
  · show Steps p.tables e below (s₁.setTop (mkF m 0 #[.val (.ref a1)] [])) t
    refine XS.aloadN X0.here hx rfl (hb hby d5_0) rfl rfl ?_
    exact k
  obtain ⟨T1, X1, e1, st1⟩ := getF X0 hx hZ hown (host := "") (Or.inl (hw _ (List.mem_of_getElem? (i := 24) rfl))) Via.refl e0 F0_0 (g := (mkF m 1 #[.val (.ref a1)] [(.ref a1)])) rfl rfl (hb hby d5_1)
  refine own_via st1 ?_
  show own_G p.tables e below _ (T1.setTop (mkF m 4 #[.val (.ref a1)] [(.int p1)]))
  exact own_end (h := h0) X1 (v := some (.int p1)) Bd.notSynchronized (fun h => by rw [Bd.returns] at h; cases h) (fun fs hr => retOut X1 hx Bd.returns rfl (Or.inl ⟨rfl, Or.inl rfl, _, rfl⟩) (hb hby d5_4) hr) e1 ⟨by rfl, N0, rfl⟩ (by decide) (by decide)
theorem d6_0 : decode prog_30_method_3_code 0 = .ok (.aload_n 0, 1) := by decide +kernel
theorem d6_1 : decode prog_30_method_3_code 1 = .ok (.getfield 7, 3) := by decide +kernel
theorem d6_4 : decode prog_30_method_3_code 4 = .ok (.iload_n 1, 1) := by decide +kernel
theorem d6_5 : decode prog_30_method_3_code 5 = .ok (.iaload, 1) := by decide +kernel
theorem d6_6 : decode prog_30_method_3_code 6 = .ok (.ireturn, 1) := by decide +kernel
theorem pn6 : plainName "com/example/vendace/vendace/localrecoding/DenseSet" = true := by first | (simp [plainName, overriddenIn]; done) | decide +kernel
theorem ef6 (m : MethodId) (x0 : Addr) (x1 : Int32) : entryFrame m #[(.ref x0), (.int x1)] 2 = mkF m 0 #[.val (.ref x0), .val (.int x1)] [] := by first | (simp [entryFrame, mkF, argsToLocals, Value.category]; done) | rfl
def Q6 (Z : State) (a1 : Addr) (p2 : Int32) (bm : Addr) (km : ClassId) (z : Int32) (xs : List Int32) (h0 : Heap) (n0 : Nat) (v : Option Value) (h : Heap) (L : List Loc) : Prop := v = some (.int (xs.getD (p2).toNatClampNeg 0)) ∧ Fr n0 L ∧ h = h0
set_option maxRecDepth 65536 in
set_option maxHeartbeats 40000000 in
theorem rm6 (l : Launch) (Z : State) (a0 : Array Value) (hw : ∀ d ∈ tables_1, d.before a0 Z = true) (ws : List Jvm.Cond) (a1 : Addr) (p2 : Int32) (bm : Addr) (km : ClassId) (z : Int32) (xs : List Int32) (h0 : Heap) (n0 : Nat) (Z0 : n0 ≤ h0.size) (F1 : Fld Z h0 a1 "com/example/vendace/vendace/localrecoding/DenseSet" "members" "[I" (.ref bm)) (V1 : own_Ar Z h0 bm km .int z (List.map Value.int xs) (.int (0 : Int32))) (hix : ¬ p2 < 0 ∧ p2 < z) :
    MetFree l (⟨"com/example/vendace/vendace/localrecoding/DenseSet", "member", "(I)I"⟩ : MethodName) (head1 (Jvm.Cond.code (⟨"com/example/vendace/vendace/localrecoding/DenseSet", "member", "(I)I"⟩ : MethodName) prog_30_method_3_code 2 (some .int) :: ws) ({ frames := 0, cells := 0, slots := 0, locals := 0 } : Room)) (fun a U => a = #[(.ref a1), (.int p2)] ∧ Z.Warmed39 U.vm ∧ U.heap = h0) (fun _ _ _ _ _ => True) (fun _ U o U' => ∃ v L, o = .returned v ∧ Q6 Z a1 p2 bm km z xs h0 n0 v U'.heap L ∧ FrameEnd U o U' L ({ frames := 0, cells := 0, slots := 0, locals := 0 } : Room).cells ({ frames := 0, cells := 0, slots := 0, locals := 0 } : Room).slots) := by
  refine MetFree.of_bodySF (plainFor_of_name pn6) hisR ?_
  intro p e s m args below meth c s₁ Bd hml0 hP hK
  obtain ⟨rfl, hZ, hh⟩ := hP
  have hx := Bd.exec
  have hby := Bd.bytes
  have hml : c.maxLocals = 2 := hml0
  have hown : s.vm.findClass "com/example/vendace/vendace/localrecoding/DenseSet" = some m.cls := findClass_of_methodNamed Bd.named
  have hnm := (name_of_methodNamed Bd.named Bd.method).1
  have X0 : Stand p l e ({ frames := 0, cells := 0, slots := 0, locals := 0 } : Room) s m #[(.ref a1), (.int p2)] below meth c s₁ [] 0 0 := Stand.of_body Bd
  have e0 : s₁.heap = h0 := by rw [← hh, Bd.state]; rfl
  have N0 := Fr.nil n0
  refine (show own_G p.tables e below (own_P s (Q6 Z a1 p2 bm km z xs h0 n0) 0 0) (s₁.setTop (entryFrame m #[(.ref a1), (.int p2)] 2)) from ?_)
  refine own_via (fun t k => castTop (ef6 m a1 p2) k) ?_
  show own_G p.tables e below _ (s₁.setTop (mkF m 0 #[.val (.ref a1), .val (.int p2)] []))
  refine own_via (S' := s₁.setTop (mkF m 1 #[.val (.ref a1), .val (.int p2)] [(.ref a1)])) (fun t k => ?_) ?_
  · show Steps p.tables e below (s₁.setTop (mkF m 0 #[.val (.ref a1), .val (.int p2)] [])) t
    refine XS.aloadN X0.here hx rfl (hb hby d6_0) rfl rfl ?_
    exact k
  obtain ⟨T1, X1, e1, st1⟩ := getF X0 hx hZ hown (host := "") (Or.inl (hw _ (List.mem_of_getElem? (i := 11) rfl))) Via.refl e0 F1 (g := (mkF m 1 #[.val (.ref a1), .val (.int p2)] [(.ref a1)])) rfl rfl (hb hby d6_1)
  refine own_via st1 ?_
  show own_G p.tables e below _ (T1.setTop (mkF m 4 #[.val (.ref a1), .val (.int p2)] [(.ref bm)]))
  refine own_via (S' := T1.setTop (mkF m 5 #[.val (.ref a1), .val (.int p2)] [(.int p2), (.ref bm)])) (fun t k => ?_) ?_
  · show Steps p.tables e below (T1.setTop (mkF m 4 #[.val (.ref a1), .val (.int p2)] [(.ref bm)])) t
    refine XS.iloadN X1.here hx rfl (hb hby d6_4) rfl ?_
    exact k
  obtain ⟨⟨cl2, Ar2, q2, S2, Nn2, H2, G2⟩, Le2⟩ := id V1
  have hin2 : ¬ (p2 < 0 ∨ cl2.slots.size ≤ (p2).toNatClampNeg) := inb_of S2 hix
  have hat2 : cl2.slots[(p2).toNatClampNeg]? = some (.int (xs.getD (p2).toNatClampNeg 0)) := Has.at H2 hin2 (own_gI _ _)
  refine own_via (S' := T1.setTop (mkF m 6 #[.val (.ref a1), .val (.int p2)] [(.int (xs.getD (p2).toNatClampNeg 0))])) (fun t kz_ => X1.iaload hx (j := p2) (v := (.int (xs.getD (p2).toNatClampNeg 0))) (by rw [e1]; exact Ar2.1) (State.isArrayOf_alike hZ.alike Ar2.2.1) Ar2.2.2 hin2 hat2 (g := (mkF m 5 #[.val (.ref a1), .val (.int p2)] [(.int p2), (.ref bm)])) rfl rfl (hb hby d6_5) _ kz_) ?_
  exact own_end (h := h0) X1 (v := some (.int (xs.getD (p2).toNatClampNeg 0))) Bd.notSynchronized (fun h => by rw [Bd.returns] at h; cases h) (fun fs hr => retOut X1 hx Bd.returns rfl (Or.inl ⟨rfl, Or.inl rfl, _, rfl⟩) (hb hby d6_6) hr) e1 ⟨by rfl, N0, rfl⟩ (by decide) (by decide)
theorem pn0 : plainName "com/example/vendace/vendace/localrecoding/DenseSetAddPinLaw" = true := by first | (simp [plainName, overriddenIn]; done) | decide +kernel
theorem pd_1 : parseMethodDescriptor "(I)V" = some ⟨[.int], none⟩ := by decide +kernel
theorem pd_2 : parseMethodDescriptor "()I" = some ⟨[], some .int⟩ := by decide +kernel
theorem pd_3 : parseMethodDescriptor "(I)I" = some ⟨[.int], some .int⟩ := by decide +kernel
theorem ef0 (m : MethodId) (x0 : Int32) (x1 : Int32) (x2 : Int32) (x3 : Int32) (x4 : Int32) : entryFrame m #[(.int x0), (.int x1), (.int x2), (.int x3), (.int x4)] maxLocals = mkF m 0 #[.val (.int x0), .val (.int x1), .val (.int x2), .val (.int x3), .val (.int x4), .unset, .unset, .unset, .unset, .unset, .unset, .unset, .unset, .unset] [] := by first | (simp [entryFrame, mkF, argsToLocals, Value.category, maxLocals]; done) | rfl
def Q0 (Z : State) (p1 : Int32) (p2 : Int32) (p3 : Int32) (p4 : Int32) (p5 : Int32) (h0 : Heap) (n0 : Nat) (v : Option Value) (h : Heap) (L : List Loc) : Prop := v = some (.int 1) ∧ Fr n0 L
set_option maxRecDepth 65536 in
set_option maxHeartbeats 40000000 in
theorem rm0 (l : Launch) (Z : State) (a0 : Array Value) (hw : ∀ d ∈ tables_1, d.before a0 Z = true) (ws : List Jvm.Cond) (p1 : Int32) (p2 : Int32) (p3 : Int32) (p4 : Int32) (p5 : Int32) (h0 : Heap) (n0 : Nat) (Z0 : n0 ≤ h0.size) :
    MetFree l x (head1 (Jvm.Cond.code x code maxLocals ret :: ws) room_1) (fun a U => a = #[(.int p1), (.int p2), (.int p3), (.int p4), (.int p5)] ∧ Z.Warmed39 U.vm ∧ U.heap = h0) (fun _ _ _ _ _ => True) (fun _ U o U' => ∃ v L, o = .returned v ∧ Q0 Z p1 p2 p3 p4 p5 h0 n0 v U'.heap L ∧ FrameEnd U o U' L 16 192) := by
  refine MetFree.of_bodySF (plainFor_of_name pn0) hisR ?_
  intro p e s m args below meth c s₁ Bd hml0 hP hK
  obtain ⟨rfl, hZ, hh⟩ := hP
  have hx := Bd.exec
  have hby := Bd.bytes
  have hml : c.maxLocals = 14 := hml0
  have hown : s.vm.findClass "com/example/vendace/vendace/localrecoding/DenseSetAddPinLaw" = some m.cls := findClass_of_methodNamed Bd.named
  have hnm := (name_of_methodNamed Bd.named Bd.method).1
  have X0 : Stand p l e room_1 s m #[(.int p1), (.int p2), (.int p3), (.int p4), (.int p5)] below meth c s₁ [] 0 0 := Stand.of_body Bd
  have e0 : s₁.heap = h0 := by rw [← hh, Bd.state]; rfl
  have N0 := Fr.nil n0
  refine (show own_G p.tables e below (own_P s (Q0 Z p1 p2 p3 p4 p5 h0 n0) 16 192) (s₁.setTop (entryFrame m #[(.int p1), (.int p2), (.int p3), (.int p4), (.int p5)] maxLocals)) from ?_)
  refine own_via (fun t k => castTop (ef0 m p1 p2 p3 p4 p5) k) ?_
  show own_G p.tables e below _ (s₁.setTop (mkF m 0 #[.val (.int p1), .val (.int p2), .val (.int p3), .val (.int p4), .val (.int p5), .unset, .unset, .unset, .unset, .unset, .unset, .unset, .unset, .unset] []))
  have K0 := Keep.refl h0 []
  refine own_via (S' := s₁.setTop (mkF m 8 #[.val (.int p1), .val (.int p2), .val (.int p3), .val (.int p4), .val (.int p5), .val (.int ((p1 &&& (15 : Int32)) + (1 : Int32))), .unset, .unset, .unset, .unset, .unset, .unset, .unset, .unset] [])) (fun t k => ?_) ?_
  · show Steps p.tables e below (s₁.setTop (mkF m 0 #[.val (.int p1), .val (.int p2), .val (.int p3), .val (.int p4), .val (.int p5), .unset, .unset, .unset, .unset, .unset, .unset, .unset, .unset, .unset] [])) t
    refine XS.iloadN X0.here hx rfl (hb hby at_0) rfl ?_
    show Steps p.tables e below (s₁.setTop (mkF m 1 #[.val (.int p1), .val (.int p2), .val (.int p3), .val (.int p4), .val (.int p5), .unset, .unset, .unset, .unset, .unset, .unset, .unset, .unset, .unset] [(.int p1)])) t
    refine XS.bipush X0.here hx rfl (hb hby at_1) ?_
    show Steps p.tables e below (s₁.setTop (mkF m 3 #[.val (.int p1), .val (.int p2), .val (.int p3), .val (.int p4), .val (.int p5), .unset, .unset, .unset, .unset, .unset, .unset, .unset, .unset, .unset] [(.int (15 : Int32)), (.int p1)])) t
    refine XS.iand X0.here hx rfl (hb hby at_3) rfl ?_
    show Steps p.tables e below (s₁.setTop (mkF m 4 #[.val (.int p1), .val (.int p2), .val (.int p3), .val (.int p4), .val (.int p5), .unset, .unset, .unset, .unset, .unset, .unset, .unset, .unset, .unset] [(.int (p1 &&& (15 : Int32)))])) t
    refine XS.iconst X0.here hx rfl (hb hby at_4) ?_
    show Steps p.tables e below (s₁.setTop (mkF m 5 #[.val (.int p1), .val (.int p2), .val (.int p3), .val (.int p4), .val (.int p5), .unset, .unset, .unset, .unset, .unset, .unset, .unset, .unset, .unset] [(.int (1 : Int32)), (.int (p1 &&& (15 : Int32)))])) t
    refine XS.iadd X0.here hx rfl (hb hby at_5) rfl ?_
    show Steps p.tables e below (s₁.setTop (mkF m 6 #[.val (.int p1), .val (.int p2), .val (.int p3), .val (.int p4), .val (.int p5), .unset, .unset, .unset, .unset, .unset, .unset, .unset, .unset, .unset] [(.int ((p1 &&& (15 : Int32)) + (1 : Int32)))])) t
    refine XS.istore X0.here hx rfl (hb hby at_6) rfl (l' := #[.val (.int p1), .val (.int p2), .val (.int p3), .val (.int p4), .val (.int p5), .val (.int ((p1 &&& (15 : Int32)) + (1 : Int32))), .unset, .unset, .unset, .unset, .unset, .unset, .unset, .unset]) rfl ?_
    exact k
  obtain ⟨zz, hn_zz⟩ : ∃ z, z = ((p1 &&& (15 : Int32)) + (1 : Int32)) := ⟨_, rfl⟩
  rw [← hn_zz]
  show own_G p.tables e below _ (s₁.setTop (mkF m 8 #[.val (.int p1), .val (.int p2), .val (.int p3), .val (.int p4), .val (.int p5), .val (.int zz), .unset, .unset, .unset, .unset, .unset, .unset, .unset, .unset] []))
  have hzz := own_zz p1
  rw [← hn_zz] at hzz
  refine own_via (S' := s₁.setTop (mkF m 17 #[.val (.int p1), .val (.int p2), .val (.int p3), .val (.int p4), .val (.int p5), .val (.int zz), .val (.int ((p2 &&& (2147483647 : Int32)) % zz)), .unset, .unset, .unset, .unset, .unset, .unset, .unset] [])) (fun t k => ?_) ?_
  · show Steps p.tables e below (s₁.setTop (mkF m 8 #[.val (.int p1), .val (.int p2), .val (.int p3), .val (.int p4), .val (.int p5), .val (.int zz), .unset, .unset, .unset, .unset, .unset, .unset, .unset, .unset] [])) t
    refine XS.iloadN X0.here hx rfl (hb hby at_8) rfl ?_
    show Steps p.tables e below (s₁.setTop (mkF m 9 #[.val (.int p1), .val (.int p2), .val (.int p3), .val (.int p4), .val (.int p5), .val (.int zz), .unset, .unset, .unset, .unset, .unset, .unset, .unset, .unset] [(.int p2)])) t
    refine X0.ldcInt hx hown (mvT hZ (hw _ (List.mem_of_getElem? (i := 0) rfl))) (g := (mkF m 9 #[.val (.int p1), .val (.int p2), .val (.int p3), .val (.int p4), .val (.int p5), .val (.int zz), .unset, .unset, .unset, .unset, .unset, .unset, .unset, .unset] [(.int p2)])) rfl (hb hby at_9) _ ?_
    show Steps p.tables e below (s₁.setTop (mkF m 11 #[.val (.int p1), .val (.int p2), .val (.int p3), .val (.int p4), .val (.int p5), .val (.int zz), .unset, .unset, .unset, .unset, .unset, .unset, .unset, .unset] [(.int (2147483647 : Int32)), (.int p2)])) t
    refine XS.iand X0.here hx rfl (hb hby at_11) rfl ?_
    show Steps p.tables e below (s₁.setTop (mkF m 12 #[.val (.int p1), .val (.int p2), .val (.int p3), .val (.int p4), .val (.int p5), .val (.int zz), .unset, .unset, .unset, .unset, .unset, .unset, .unset, .unset] [(.int (p2 &&& (2147483647 : Int32)))])) t
    refine XS.iload X0.here hx rfl (hb hby at_12) rfl ?_
    show Steps p.tables e below (s₁.setTop (mkF m 14 #[.val (.int p1), .val (.int p2), .val (.int p3), .val (.int p4), .val (.int p5), .val (.int zz), .unset, .unset, .unset, .unset, .unset, .unset, .unset, .unset] [(.int zz), (.int (p2 &&& (2147483647 : Int32)))])) t
    refine iremM X0 hx rfl (hb hby at_14) rfl (own_nz hzz.1) ?_
    show Steps p.tables e below (s₁.setTop (mkF m 15 #[.val (.int p1), .val (.int p2), .val (.int p3), .val (.int p4), .val (.int p5), .val (.int zz), .unset, .unset, .unset, .unset, .unset, .unset, .unset, .unset] [(.int ((p2 &&& (2147483647 : Int32)) % zz))])) t
    refine XS.istore X0.here hx rfl (hb hby at_15) rfl (l' := #[.val (.int p1), .val (.int p2), .val (.int p3), .val (.int p4), .val (.int p5), .val (.int zz), .val (.int ((p2 &&& (2147483647 : Int32)) % zz)), .unset, .unset, .unset, .unset, .unset, .unset, .unset]) rfl ?_
    exact k
  obtain ⟨va, hn_va⟩ : ∃ z, z = ((p2 &&& (2147483647 : Int32)) % zz) := ⟨_, rfl⟩
  rw [← hn_va]
  show own_G p.tables e below _ (s₁.setTop (mkF m 17 #[.val (.int p1), .val (.int p2), .val (.int p3), .val (.int p4), .val (.int p5), .val (.int zz), .val (.int va), .unset, .unset, .unset, .unset, .unset, .unset, .unset] []))
  have hva := own_remI p2 zz hzz.1
  rw [← hn_va] at hva
  refine own_via (S' := s₁.setTop (mkF m 26 #[.val (.int p1), .val (.int p2), .val (.int p3), .val (.int p4), .val (.int p5), .val (.int zz), .val (.int va), .val (.int ((p3 &&& (2147483647 : Int32)) % zz)), .unset, .unset, .unset, .unset, .unset, .unset] [])) (fun t k => ?_) ?_
  · show Steps p.tables e below (s₁.setTop (mkF m 17 #[.val (.int p1), .val (.int p2), .val (.int p3), .val (.int p4), .val (.int p5), .val (.int zz), .val (.int va), .unset, .unset, .unset, .unset, .unset, .unset, .unset] [])) t
    refine XS.iloadN X0.here hx rfl (hb hby at_17) rfl ?_
    show Steps p.tables e below (s₁.setTop (mkF m 18 #[.val (.int p1), .val (.int p2), .val (.int p3), .val (.int p4), .val (.int p5), .val (.int zz), .val (.int va), .unset, .unset, .unset, .unset, .unset, .unset, .unset] [(.int p3)])) t
    refine X0.ldcInt hx hown (mvT hZ (hw _ (List.mem_of_getElem? (i := 0) rfl))) (g := (mkF m 18 #[.val (.int p1), .val (.int p2), .val (.int p3), .val (.int p4), .val (.int p5), .val (.int zz), .val (.int va), .unset, .unset, .unset, .unset, .unset, .unset, .unset] [(.int p3)])) rfl (hb hby at_18) _ ?_
    show Steps p.tables e below (s₁.setTop (mkF m 20 #[.val (.int p1), .val (.int p2), .val (.int p3), .val (.int p4), .val (.int p5), .val (.int zz), .val (.int va), .unset, .unset, .unset, .unset, .unset, .unset, .unset] [(.int (2147483647 : Int32)), (.int p3)])) t
    refine XS.iand X0.here hx rfl (hb hby at_20) rfl ?_
    show Steps p.tables e below (s₁.setTop (mkF m 21 #[.val (.int p1), .val (.int p2), .val (.int p3), .val (.int p4), .val (.int p5), .val (.int zz), .val (.int va), .unset, .unset, .unset, .unset, .unset, .unset, .unset] [(.int (p3 &&& (2147483647 : Int32)))])) t
    refine XS.iload X0.here hx rfl (hb hby at_21) rfl ?_
    show Steps p.tables e below (s₁.setTop (mkF m 23 #[.val (.int p1), .val (.int p2), .val (.int p3), .val (.int p4), .val (.int p5), .val (.int zz), .val (.int va), .unset, .unset, .unset, .unset, .unset, .unset, .unset] [(.int zz), (.int (p3 &&& (2147483647 : Int32)))])) t
    refine iremM X0 hx rfl (hb hby at_23) rfl (own_nz hzz.1) ?_
    show Steps p.tables e below (s₁.setTop (mkF m 24 #[.val (.int p1), .val (.int p2), .val (.int p3), .val (.int p4), .val (.int p5), .val (.int zz), .val (.int va), .unset, .unset, .unset, .unset, .unset, .unset, .unset] [(.int ((p3 &&& (2147483647 : Int32)) % zz))])) t
    refine XS.istore X0.here hx rfl (hb hby at_24) rfl (l' := #[.val (.int p1), .val (.int p2), .val (.int p3), .val (.int p4), .val (.int p5), .val (.int zz), .val (.int va), .val (.int ((p3 &&& (2147483647 : Int32)) % zz)), .unset, .unset, .unset, .unset, .unset, .unset]) rfl ?_
    exact k
  obtain ⟨vb, hn_vb⟩ : ∃ z, z = ((p3 &&& (2147483647 : Int32)) % zz) := ⟨_, rfl⟩
  rw [← hn_vb]
  show own_G p.tables e below _ (s₁.setTop (mkF m 26 #[.val (.int p1), .val (.int p2), .val (.int p3), .val (.int p4), .val (.int p5), .val (.int zz), .val (.int va), .val (.int vb), .unset, .unset, .unset, .unset, .unset, .unset] []))
  have hvb := own_remI p3 zz hzz.1
  rw [← hn_vb] at hvb
  refine own_via (S' := s₁.setTop (mkF m 35 #[.val (.int p1), .val (.int p2), .val (.int p3), .val (.int p4), .val (.int p5), .val (.int zz), .val (.int va), .val (.int vb), .val (.int ((p4 &&& (2147483647 : Int32)) % zz)), .unset, .unset, .unset, .unset, .unset] [])) (fun t k => ?_) ?_
  · show Steps p.tables e below (s₁.setTop (mkF m 26 #[.val (.int p1), .val (.int p2), .val (.int p3), .val (.int p4), .val (.int p5), .val (.int zz), .val (.int va), .val (.int vb), .unset, .unset, .unset, .unset, .unset, .unset] [])) t
    refine XS.iloadN X0.here hx rfl (hb hby at_26) rfl ?_
    show Steps p.tables e below (s₁.setTop (mkF m 27 #[.val (.int p1), .val (.int p2), .val (.int p3), .val (.int p4), .val (.int p5), .val (.int zz), .val (.int va), .val (.int vb), .unset, .unset, .unset, .unset, .unset, .unset] [(.int p4)])) t
    refine X0.ldcInt hx hown (mvT hZ (hw _ (List.mem_of_getElem? (i := 0) rfl))) (g := (mkF m 27 #[.val (.int p1), .val (.int p2), .val (.int p3), .val (.int p4), .val (.int p5), .val (.int zz), .val (.int va), .val (.int vb), .unset, .unset, .unset, .unset, .unset, .unset] [(.int p4)])) rfl (hb hby at_27) _ ?_
    show Steps p.tables e below (s₁.setTop (mkF m 29 #[.val (.int p1), .val (.int p2), .val (.int p3), .val (.int p4), .val (.int p5), .val (.int zz), .val (.int va), .val (.int vb), .unset, .unset, .unset, .unset, .unset, .unset] [(.int (2147483647 : Int32)), (.int p4)])) t
    refine XS.iand X0.here hx rfl (hb hby at_29) rfl ?_
    show Steps p.tables e below (s₁.setTop (mkF m 30 #[.val (.int p1), .val (.int p2), .val (.int p3), .val (.int p4), .val (.int p5), .val (.int zz), .val (.int va), .val (.int vb), .unset, .unset, .unset, .unset, .unset, .unset] [(.int (p4 &&& (2147483647 : Int32)))])) t
    refine XS.iload X0.here hx rfl (hb hby at_30) rfl ?_
    show Steps p.tables e below (s₁.setTop (mkF m 32 #[.val (.int p1), .val (.int p2), .val (.int p3), .val (.int p4), .val (.int p5), .val (.int zz), .val (.int va), .val (.int vb), .unset, .unset, .unset, .unset, .unset, .unset] [(.int zz), (.int (p4 &&& (2147483647 : Int32)))])) t
    refine iremM X0 hx rfl (hb hby at_32) rfl (own_nz hzz.1) ?_
    show Steps p.tables e below (s₁.setTop (mkF m 33 #[.val (.int p1), .val (.int p2), .val (.int p3), .val (.int p4), .val (.int p5), .val (.int zz), .val (.int va), .val (.int vb), .unset, .unset, .unset, .unset, .unset, .unset] [(.int ((p4 &&& (2147483647 : Int32)) % zz))])) t
    refine XS.istore X0.here hx rfl (hb hby at_33) rfl (l' := #[.val (.int p1), .val (.int p2), .val (.int p3), .val (.int p4), .val (.int p5), .val (.int zz), .val (.int va), .val (.int vb), .val (.int ((p4 &&& (2147483647 : Int32)) % zz)), .unset, .unset, .unset, .unset, .unset]) rfl ?_
    exact k
  obtain ⟨vc, hn_vc⟩ : ∃ z, z = ((p4 &&& (2147483647 : Int32)) % zz) := ⟨_, rfl⟩
  rw [← hn_vc]
  show own_G p.tables e below _ (s₁.setTop (mkF m 35 #[.val (.int p1), .val (.int p2), .val (.int p3), .val (.int p4), .val (.int p5), .val (.int zz), .val (.int va), .val (.int vb), .val (.int vc), .unset, .unset, .unset, .unset, .unset] []))
  have hvc := own_remI p4 zz hzz.1
  rw [← hn_vc] at hvc
  refine own_via (S' := s₁.setTop (mkF m 45 #[.val (.int p1), .val (.int p2), .val (.int p3), .val (.int p4), .val (.int p5), .val (.int zz), .val (.int va), .val (.int vb), .val (.int vc), .val (.int ((p5 &&& (2147483647 : Int32)) % zz)), .unset, .unset, .unset, .unset] [])) (fun t k => ?_) ?_
  · show Steps p.tables e below (s₁.setTop (mkF m 35 #[.val (.int p1), .val (.int p2), .val (.int p3), .val (.int p4), .val (.int p5), .val (.int zz), .val (.int va), .val (.int vb), .val (.int vc), .unset, .unset, .unset, .unset, .unset] [])) t
    refine XS.iload X0.here hx rfl (hb hby at_35) rfl ?_
    show Steps p.tables e below (s₁.setTop (mkF m 37 #[.val (.int p1), .val (.int p2), .val (.int p3), .val (.int p4), .val (.int p5), .val (.int zz), .val (.int va), .val (.int vb), .val (.int vc), .unset, .unset, .unset, .unset, .unset] [(.int p5)])) t
    refine X0.ldcInt hx hown (mvT hZ (hw _ (List.mem_of_getElem? (i := 0) rfl))) (g := (mkF m 37 #[.val (.int p1), .val (.int p2), .val (.int p3), .val (.int p4), .val (.int p5), .val (.int zz), .val (.int va), .val (.int vb), .val (.int vc), .unset, .unset, .unset, .unset, .unset] [(.int p5)])) rfl (hb hby at_37) _ ?_
    show Steps p.tables e below (s₁.setTop (mkF m 39 #[.val (.int p1), .val (.int p2), .val (.int p3), .val (.int p4), .val (.int p5), .val (.int zz), .val (.int va), .val (.int vb), .val (.int vc), .unset, .unset, .unset, .unset, .unset] [(.int (2147483647 : Int32)), (.int p5)])) t
    refine XS.iand X0.here hx rfl (hb hby at_39) rfl ?_
    show Steps p.tables e below (s₁.setTop (mkF m 40 #[.val (.int p1), .val (.int p2), .val (.int p3), .val (.int p4), .val (.int p5), .val (.int zz), .val (.int va), .val (.int vb), .val (.int vc), .unset, .unset, .unset, .unset, .unset] [(.int (p5 &&& (2147483647 : Int32)))])) t
    refine XS.iload X0.here hx rfl (hb hby at_40) rfl ?_
    show Steps p.tables e below (s₁.setTop (mkF m 42 #[.val (.int p1), .val (.int p2), .val (.int p3), .val (.int p4), .val (.int p5), .val (.int zz), .val (.int va), .val (.int vb), .val (.int vc), .unset, .unset, .unset, .unset, .unset] [(.int zz), (.int (p5 &&& (2147483647 : Int32)))])) t
    refine iremM X0 hx rfl (hb hby at_42) rfl (own_nz hzz.1) ?_
    show Steps p.tables e below (s₁.setTop (mkF m 43 #[.val (.int p1), .val (.int p2), .val (.int p3), .val (.int p4), .val (.int p5), .val (.int zz), .val (.int va), .val (.int vb), .val (.int vc), .unset, .unset, .unset, .unset, .unset] [(.int ((p5 &&& (2147483647 : Int32)) % zz))])) t
    refine XS.istore X0.here hx rfl (hb hby at_43) rfl (l' := #[.val (.int p1), .val (.int p2), .val (.int p3), .val (.int p4), .val (.int p5), .val (.int zz), .val (.int va), .val (.int vb), .val (.int vc), .val (.int ((p5 &&& (2147483647 : Int32)) % zz)), .unset, .unset, .unset, .unset]) rfl ?_
    exact k
  obtain ⟨vd, hn_vd⟩ : ∃ z, z = ((p5 &&& (2147483647 : Int32)) % zz) := ⟨_, rfl⟩
  rw [← hn_vd]
  show own_G p.tables e below _ (s₁.setTop (mkF m 45 #[.val (.int p1), .val (.int p2), .val (.int p3), .val (.int p4), .val (.int p5), .val (.int zz), .val (.int va), .val (.int vb), .val (.int vc), .val (.int vd), .unset, .unset, .unset, .unset] []))
  have hvd := own_remI p5 zz hzz.1
  rw [← hn_vd] at hvd
  have hch := own_chain zz va vb vc vd hva hvb hvc hvd
  obtain ⟨T1, h1, X1, e1, E1, A1, D1, -, st1⟩ := newO X0 hx hZ hown (hw _ (List.mem_of_getElem? (i := 1) rfl)) (hw _ (List.mem_of_getElem? (i := 2) rfl)) (hw _ (List.mem_of_getElem? (i := 3) rfl)) e0 (g := (mkF m 45 #[.val (.int p1), .val (.int p2), .val (.int p3), .val (.int p4), .val (.int p5), .val (.int zz), .val (.int va), .val (.int vb), .val (.int vc), .val (.int vd), .unset, .unset, .unset, .unset] [])) rfl (hb hby at_45) (by decide) (by decide)
  obtain ⟨b1, g1⟩ : ∃ z, z = h0.size := ⟨_, rfl⟩
  have g_b1 : n0 ≤ b1 := Nat.le_trans (Nat.le_trans Z0 K0.1) (Nat.le_of_eq g1.symm)
  have sz_b1 : h0.size ≤ b1 := Nat.le_trans K0.1 (Nat.le_of_eq g1.symm)
  rw [← g1] at A1 D1 st1
  have K1 : Keep h0 h1 [] := Keep.ext K0 E1
  have F_members_b1 : Fld Z h1 b1 "com/example/vendace/vendace/localrecoding/DenseSet" "members" "[I" .null := D1 (Or.inr (hw _ (List.mem_of_getElem? (i := 12) rfl))) (ty := (.array .int)) (by decide)
  have F_places_b1 : Fld Z h1 b1 "com/example/vendace/vendace/localrecoding/DenseSet" "places" "[I" .null := D1 (Or.inr (hw _ (List.mem_of_getElem? (i := 14) rfl))) (ty := (.array .int)) (by decide)
  have F_size_b1 : Fld Z h1 b1 "com/example/vendace/vendace/localrecoding/DenseSet" "size" "I" (.int (0 : Int32)) := D1 (Or.inl (hw _ (List.mem_of_getElem? (i := 25) rfl))) (ty := .int) (by decide)
  refine own_via st1 ?_
  show own_G p.tables e below _ (T1.setTop (mkF m 48 #[.val (.int p1), .val (.int p2), .val (.int p3), .val (.int p4), .val (.int p5), .val (.int zz), .val (.int va), .val (.int vb), .val (.int vc), .val (.int vd), .unset, .unset, .unset, .unset] [(.ref b1)]))
  refine own_via (S' := T1.setTop (mkF m 51 #[.val (.int p1), .val (.int p2), .val (.int p3), .val (.int p4), .val (.int p5), .val (.int zz), .val (.int va), .val (.int vb), .val (.int vc), .val (.int vd), .unset, .unset, .unset, .unset] [(.int zz), (.ref b1), (.ref b1)])) (fun t k => ?_) ?_
  · show Steps p.tables e below (T1.setTop (mkF m 48 #[.val (.int p1), .val (.int p2), .val (.int p3), .val (.int p4), .val (.int p5), .val (.int zz), .val (.int va), .val (.int vb), .val (.int vc), .val (.int vd), .unset, .unset, .unset, .unset] [(.ref b1)])) t
    refine XS.dup X1.here hx rfl (hb hby at_48) rfl rfl ?_
    show Steps p.tables e below (T1.setTop (mkF m 49 #[.val (.int p1), .val (.int p2), .val (.int p3), .val (.int p4), .val (.int p5), .val (.int zz), .val (.int va), .val (.int vb), .val (.int vc), .val (.int vd), .unset, .unset, .unset, .unset] [(.ref b1), (.ref b1)])) t
    refine XS.iload X1.here hx rfl (hb hby at_49) rfl ?_
    exact k
  obtain ⟨_, _, ⟨T2, L2, k2, n2⟩, -, X2, ⟨Lc2, hQ2, l2, y2, z2⟩, st2⟩ := X1.specialBack hx (y := (⟨"com/example/vendace/vendace/localrecoding/DenseSet", "<init>", "(I)V"⟩ : MethodName)) rfl hown (mvT hZ (hw _ (List.mem_of_getElem? (i := 4) rfl))) (mvT hZ (hw _ (List.mem_of_getElem? (i := 5) rfl))) (mvT hZ (hw _ (List.mem_of_getElem? (i := 6) rfl))) (by decide) (backOf (W := 1) (rm1 l Z a0 hw [] b1 zz h1 n0 (Nat.le_trans Z0 K1.1) F_members_b1 F_places_b1 F_size_b1 A1 g_b1 (own_cap hzz).1 (own_cap hzz).2) hZ (hw _ (List.mem_of_getElem? (i := 6) rfl)) (hw _ (List.mem_of_getElem? (i := 3) rfl)) (by decide) (by decide)) (g := (mkF m 51 #[.val (.int p1), .val (.int p2), .val (.int p3), .val (.int p4), .val (.int p5), .val (.int zz), .val (.int va), .val (.int vb), .val (.int vc), .val (.int vd), .unset, .unset, .unset, .unset] [(.int zz), (.ref b1), (.ref b1)])) rfl (by rw [hml]; rfl) (Steps.refl _) (a := b1) (argsL := [(.int zz)]) (rest := [(.ref b1)]) (lenOf pd_1 rfl) rfl (by show 2 * 0 + _ ≤ _; exact Nat.le_of_eq rfl) (hb hby at_51) (fun _ _ => ⟨rfl, e1, (by decide : 1 + 2 ≤ _), (by decide : 3 + 32 ≤ _)⟩)
  dsimp only [Pt.U, Pt.locs, Pt.cells, Pt.slots] at X2 l2 y2 z2 st2 hQ2
  subst l2 y2 z2
  obtain ⟨rfl, Nq2, Kc2, bm2, bp2, km2, kp2, gm2, gp2, hm2, hp2, na2, nb2, nc2, DS2⟩ := hQ2
  have N2 := Fr.app N0 Nq2
  refine own_via (fun t k => st2.trans k) ?_
  show own_G p.tables e below _ (T2.setTop (mkF m 54 #[.val (.int p1), .val (.int p2), .val (.int p3), .val (.int p4), .val (.int p5), .val (.int zz), .val (.int va), .val (.int vb), .val (.int vc), .val (.int vd), .unset, .unset, .unset, .unset] [(.ref b1)]))
  have K2 : Keep h0 T2.heap [] := Keep.trans K1 Kc2 (allS (Or.inr sz_b1) all0)
  obtain ⟨DE2, DM2, DP2, DZ2, DA2, DB2⟩ := id DS2
  have sm2 : h0.size ≤ bm2 := Nat.le_trans K1.1 hm2
  have sp2 : h0.size ≤ bp2 := Nat.le_trans K1.1 hp2
  refine own_via (S' := T2.setTop (mkF m 60 #[.val (.int p1), .val (.int p2), .val (.int p3), .val (.int p4), .val (.int p5), .val (.int zz), .val (.int va), .val (.int vb), .val (.int vc), .val (.int vd), .val (.ref b1), .unset, .unset, .unset] [(.int va), (.ref b1)])) (fun t k => ?_) ?_
  · show Steps p.tables e below (T2.setTop (mkF m 54 #[.val (.int p1), .val (.int p2), .val (.int p3), .val (.int p4), .val (.int p5), .val (.int zz), .val (.int va), .val (.int vb), .val (.int vc), .val (.int vd), .unset, .unset, .unset, .unset] [(.ref b1)])) t
    refine XS.astore X2.here hx rfl (hb hby at_54) rfl rfl (l' := #[.val (.int p1), .val (.int p2), .val (.int p3), .val (.int p4), .val (.int p5), .val (.int zz), .val (.int va), .val (.int vb), .val (.int vc), .val (.int vd), .val (.ref b1), .unset, .unset, .unset]) rfl ?_
    show Steps p.tables e below (T2.setTop (mkF m 56 #[.val (.int p1), .val (.int p2), .val (.int p3), .val (.int p4), .val (.int p5), .val (.int zz), .val (.int va), .val (.int vb), .val (.int vc), .val (.int vd), .val (.ref b1), .unset, .unset, .unset] [])) t
    refine XS.aload X2.here hx rfl (hb hby at_56) rfl rfl ?_
    show Steps p.tables e below (T2.setTop (mkF m 58 #[.val (.int p1), .val (.int p2), .val (.int p3), .val (.int p4), .val (.int p5), .val (.int zz), .val (.int va), .val (.int vb), .val (.int vc), .val (.int vd), .val (.ref b1), .unset, .unset, .unset] [(.ref b1)])) t
    refine XS.iload X2.here hx rfl (hb hby at_58) rfl ?_
    exact k
  obtain ⟨cq3, kq3, q3a, q3b, q3c⟩ := isOf hZ rfl DE2
  obtain ⟨_, _, ⟨T3, L3, k3, n3⟩, -, X3, ⟨Lc3, hQ3, l3, y3, z3⟩, st3⟩ := X2.virtualBack hx (y := (⟨"com/example/vendace/vendace/localrecoding/DenseSet", "add", "(I)V"⟩ : MethodName)) (z := (⟨"com/example/vendace/vendace/localrecoding/DenseSet", "add", "(I)V"⟩ : MethodName)) hown (mvT hZ (hw _ (List.mem_of_getElem? (i := 19) rfl))) (mvT hZ (hw _ (List.mem_of_getElem? (i := 20) rfl))) (notFace_of_selects (args := #[]) (mvT hZ (hw _ (List.mem_of_getElem? (i := 22) rfl)))) (mvT hZ (hw _ (List.mem_of_getElem? (i := 22) rfl))) (mvT hZ (hw _ (List.mem_of_getElem? (i := 21) rfl))) (by decide) (backOf (W := 0) (rm4 l Z a0 hw [] b1 va bm2 bp2 km2 kp2 zz (own_s0 zz) T2.heap n0 (Nat.le_trans Z0 K2.1) ⟨DE2, DM2, DP2, DZ2, DA2, DB2⟩ na2 nb2 nc2 g_b1 gm2 gp2 hch.1) hZ (hw _ (List.mem_of_getElem? (i := 23) rfl)) (hw _ (List.mem_of_getElem? (i := 3) rfl)) (by decide) (by decide)) q3a q3c (g := (mkF m 60 #[.val (.int p1), .val (.int p2), .val (.int p3), .val (.int p4), .val (.int p5), .val (.int zz), .val (.int va), .val (.int vb), .val (.int vc), .val (.int vd), .val (.ref b1), .unset, .unset, .unset] [(.int va), (.ref b1)])) rfl (by rw [hml]; rfl) (Steps.refl _) (argsL := [(.int va)]) (rest := []) (lenOf pd_1 rfl) rfl (by show 2 * 0 + _ ≤ _; exact Nat.le_of_eq rfl) (hb hby at_60) (fun _ _ => ⟨rfl, rfl, (by decide : 3 + 0 ≤ _), (by decide : 35 + 0 ≤ _)⟩)
  dsimp only [Pt.U, Pt.locs, Pt.cells, Pt.slots] at X3 l3 y3 z3 st3 hQ3
  subst l3 y3 z3
  obtain ⟨rfl, Nq3, Kc3, Sv3, hS3, DS3⟩ := hQ3
  have N3 := Fr.app N2 Nq3
  refine own_via (fun t k => st3.trans k) ?_
  show own_G p.tables e below _ (T3.setTop (mkF m 63 #[.val (.int p1), .val (.int p2), .val (.int p3), .val (.int p4), .val (.int p5), .val (.int zz), .val (.int va), .val (.int vb), .val (.int vc), .val (.int vd), .val (.ref b1), .unset, .unset, .unset] []))
  have K3 : Keep h0 T3.heap [] := Keep.trans K2 Kc3 (allS (Or.inr sz_b1) (allS (Or.inr sm2) (allS (Or.inr sp2) all0)))
  obtain ⟨DE3, DM3, DP3, DZ3, DA3, DB3⟩ := id DS3
  refine own_via (S' := T3.setTop (mkF m 67 #[.val (.int p1), .val (.int p2), .val (.int p3), .val (.int p4), .val (.int p5), .val (.int zz), .val (.int va), .val (.int vb), .val (.int vc), .val (.int vd), .val (.ref b1), .unset, .unset, .unset] [(.int vb), (.ref b1)])) (fun t k => ?_) ?_
  · show Steps p.tables e below (T3.setTop (mkF m 63 #[.val (.int p1), .val (.int p2), .val (.int p3), .val (.int p4), .val (.int p5), .val (.int zz), .val (.int va), .val (.int vb), .val (.int vc), .val (.int vd), .val (.ref b1), .unset, .unset, .unset] [])) t
    refine XS.aload X3.here hx rfl (hb hby at_63) rfl rfl ?_
    show Steps p.tables e below (T3.setTop (mkF m 65 #[.val (.int p1), .val (.int p2), .val (.int p3), .val (.int p4), .val (.int p5), .val (.int zz), .val (.int va), .val (.int vb), .val (.int vc), .val (.int vd), .val (.ref b1), .unset, .unset, .unset] [(.ref b1)])) t
    refine XS.iload X3.here hx rfl (hb hby at_65) rfl ?_
    exact k
  obtain ⟨cq4, kq4, q4a, q4b, q4c⟩ := isOf hZ rfl DE3
  obtain ⟨_, _, ⟨T4, L4, k4, n4⟩, -, X4, ⟨Lc4, hQ4, l4, y4, z4⟩, st4⟩ := X3.virtualBack hx (y := (⟨"com/example/vendace/vendace/localrecoding/DenseSet", "add", "(I)V"⟩ : MethodName)) (z := (⟨"com/example/vendace/vendace/localrecoding/DenseSet", "add", "(I)V"⟩ : MethodName)) hown (mvT hZ (hw _ (List.mem_of_getElem? (i := 19) rfl))) (mvT hZ (hw _ (List.mem_of_getElem? (i := 20) rfl))) (notFace_of_selects (args := #[]) (mvT hZ (hw _ (List.mem_of_getElem? (i := 22) rfl)))) (mvT hZ (hw _ (List.mem_of_getElem? (i := 22) rfl))) (mvT hZ (hw _ (List.mem_of_getElem? (i := 21) rfl))) (by decide) (backOf (W := 0) (rm4 l Z a0 hw [] b1 vb bm2 bp2 km2 kp2 zz Sv3 T3.heap n0 (Nat.le_trans Z0 K3.1) ⟨DE3, DM3, DP3, DZ3, DA3, DB3⟩ na2 nb2 nc2 g_b1 gm2 gp2 (by rw [hS3]; exact hch.2.1)) hZ (hw _ (List.mem_of_getElem? (i := 23) rfl)) (hw _ (List.mem_of_getElem? (i := 3) rfl)) (by decide) (by decide)) q4a q4c (g := (mkF m 67 #[.val (.int p1), .val (.int p2), .val (.int p3), .val (.int p4), .val (.int p5), .val (.int zz), .val (.int va), .val (.int vb), .val (.int vc), .val (.int vd), .val (.ref b1), .unset, .unset, .unset] [(.int vb), (.ref b1)])) rfl (by rw [hml]; rfl) (Steps.refl _) (argsL := [(.int vb)]) (rest := []) (lenOf pd_1 rfl) rfl (by show 2 * 0 + _ ≤ _; exact Nat.le_of_eq rfl) (hb hby at_67) (fun _ _ => ⟨rfl, rfl, (by decide : 3 + 0 ≤ _), (by decide : 35 + 0 ≤ _)⟩)
  dsimp only [Pt.U, Pt.locs, Pt.cells, Pt.slots] at X4 l4 y4 z4 st4 hQ4
  subst l4 y4 z4
  obtain ⟨rfl, Nq4, Kc4, Sv4, hS4, DS4⟩ := hQ4
  have N4 := Fr.app N3 Nq4
  refine own_via (fun t k => st4.trans k) ?_
  show own_G p.tables e below _ (T4.setTop (mkF m 70 #[.val (.int p1), .val (.int p2), .val (.int p3), .val (.int p4), .val (.int p5), .val (.int zz), .val (.int va), .val (.int vb), .val (.int vc), .val (.int vd), .val (.ref b1), .unset, .unset, .unset] []))
  have K4 : Keep h0 T4.heap [] := Keep.trans K3 Kc4 (allS (Or.inr sz_b1) (allS (Or.inr sm2) (allS (Or.inr sp2) all0)))
  obtain ⟨DE4, DM4, DP4, DZ4, DA4, DB4⟩ := id DS4
  refine own_via (S' := T4.setTop (mkF m 74 #[.val (.int p1), .val (.int p2), .val (.int p3), .val (.int p4), .val (.int p5), .val (.int zz), .val (.int va), .val (.int vb), .val (.int vc), .val (.int vd), .val (.ref b1), .unset, .unset, .unset] [(.int vc), (.ref b1)])) (fun t k => ?_) ?_
  · show Steps p.tables e below (T4.setTop (mkF m 70 #[.val (.int p1), .val (.int p2), .val (.int p3), .val (.int p4), .val (.int p5), .val (.int zz), .val (.int va), .val (.int vb), .val (.int vc), .val (.int vd), .val (.ref b1), .unset, .unset, .unset] [])) t
    refine XS.aload X4.here hx rfl (hb hby at_70) rfl rfl ?_
    show Steps p.tables e below (T4.setTop (mkF m 72 #[.val (.int p1), .val (.int p2), .val (.int p3), .val (.int p4), .val (.int p5), .val (.int zz), .val (.int va), .val (.int vb), .val (.int vc), .val (.int vd), .val (.ref b1), .unset, .unset, .unset] [(.ref b1)])) t
    refine XS.iload X4.here hx rfl (hb hby at_72) rfl ?_
    exact k
  obtain ⟨cq5, kq5, q5a, q5b, q5c⟩ := isOf hZ rfl DE4
  obtain ⟨_, _, ⟨T5, L5, k5, n5⟩, -, X5, ⟨Lc5, hQ5, l5, y5, z5⟩, st5⟩ := X4.virtualBack hx (y := (⟨"com/example/vendace/vendace/localrecoding/DenseSet", "add", "(I)V"⟩ : MethodName)) (z := (⟨"com/example/vendace/vendace/localrecoding/DenseSet", "add", "(I)V"⟩ : MethodName)) hown (mvT hZ (hw _ (List.mem_of_getElem? (i := 19) rfl))) (mvT hZ (hw _ (List.mem_of_getElem? (i := 20) rfl))) (notFace_of_selects (args := #[]) (mvT hZ (hw _ (List.mem_of_getElem? (i := 22) rfl)))) (mvT hZ (hw _ (List.mem_of_getElem? (i := 22) rfl))) (mvT hZ (hw _ (List.mem_of_getElem? (i := 21) rfl))) (by decide) (backOf (W := 0) (rm4 l Z a0 hw [] b1 vc bm2 bp2 km2 kp2 zz Sv4 T4.heap n0 (Nat.le_trans Z0 K4.1) ⟨DE4, DM4, DP4, DZ4, DA4, DB4⟩ na2 nb2 nc2 g_b1 gm2 gp2 (by rw [hS4, hS3]; exact hch.2.2.1)) hZ (hw _ (List.mem_of_getElem? (i := 23) rfl)) (hw _ (List.mem_of_getElem? (i := 3) rfl)) (by decide) (by decide)) q5a q5c (g := (mkF m 74 #[.val (.int p1), .val (.int p2), .val (.int p3), .val (.int p4), .val (.int p5), .val (.int zz), .val (.int va), .val (.int vb), .val (.int vc), .val (.int vd), .val (.ref b1), .unset, .unset, .unset] [(.int vc), (.ref b1)])) rfl (by rw [hml]; rfl) (Steps.refl _) (argsL := [(.int vc)]) (rest := []) (lenOf pd_1 rfl) rfl (by show 2 * 0 + _ ≤ _; exact Nat.le_of_eq rfl) (hb hby at_74) (fun _ _ => ⟨rfl, rfl, (by decide : 3 + 0 ≤ _), (by decide : 35 + 0 ≤ _)⟩)
  dsimp only [Pt.U, Pt.locs, Pt.cells, Pt.slots] at X5 l5 y5 z5 st5 hQ5
  subst l5 y5 z5
  obtain ⟨rfl, Nq5, Kc5, Sv5, hS5, DS5⟩ := hQ5
  have N5 := Fr.app N4 Nq5
  refine own_via (fun t k => st5.trans k) ?_
  show own_G p.tables e below _ (T5.setTop (mkF m 77 #[.val (.int p1), .val (.int p2), .val (.int p3), .val (.int p4), .val (.int p5), .val (.int zz), .val (.int va), .val (.int vb), .val (.int vc), .val (.int vd), .val (.ref b1), .unset, .unset, .unset] []))
  have K5 : Keep h0 T5.heap [] := Keep.trans K4 Kc5 (allS (Or.inr sz_b1) (allS (Or.inr sm2) (allS (Or.inr sp2) all0)))
  obtain ⟨DE5, DM5, DP5, DZ5, DA5, DB5⟩ := id DS5
  refine own_via (S' := T5.setTop (mkF m 81 #[.val (.int p1), .val (.int p2), .val (.int p3), .val (.int p4), .val (.int p5), .val (.int zz), .val (.int va), .val (.int vb), .val (.int vc), .val (.int vd), .val (.ref b1), .unset, .unset, .unset] [(.int vd), (.ref b1)])) (fun t k => ?_) ?_
  · show Steps p.tables e below (T5.setTop (mkF m 77 #[.val (.int p1), .val (.int p2), .val (.int p3), .val (.int p4), .val (.int p5), .val (.int zz), .val (.int va), .val (.int vb), .val (.int vc), .val (.int vd), .val (.ref b1), .unset, .unset, .unset] [])) t
    refine XS.aload X5.here hx rfl (hb hby at_77) rfl rfl ?_
    show Steps p.tables e below (T5.setTop (mkF m 79 #[.val (.int p1), .val (.int p2), .val (.int p3), .val (.int p4), .val (.int p5), .val (.int zz), .val (.int va), .val (.int vb), .val (.int vc), .val (.int vd), .val (.ref b1), .unset, .unset, .unset] [(.ref b1)])) t
    refine XS.iload X5.here hx rfl (hb hby at_79) rfl ?_
    exact k
  obtain ⟨cq6, kq6, q6a, q6b, q6c⟩ := isOf hZ rfl DE5
  obtain ⟨_, _, ⟨T6, L6, k6, n6⟩, -, X6, ⟨Lc6, hQ6, l6, y6, z6⟩, st6⟩ := X5.virtualBack hx (y := (⟨"com/example/vendace/vendace/localrecoding/DenseSet", "add", "(I)V"⟩ : MethodName)) (z := (⟨"com/example/vendace/vendace/localrecoding/DenseSet", "add", "(I)V"⟩ : MethodName)) hown (mvT hZ (hw _ (List.mem_of_getElem? (i := 19) rfl))) (mvT hZ (hw _ (List.mem_of_getElem? (i := 20) rfl))) (notFace_of_selects (args := #[]) (mvT hZ (hw _ (List.mem_of_getElem? (i := 22) rfl)))) (mvT hZ (hw _ (List.mem_of_getElem? (i := 22) rfl))) (mvT hZ (hw _ (List.mem_of_getElem? (i := 21) rfl))) (by decide) (backOf (W := 0) (rm4 l Z a0 hw [] b1 vd bm2 bp2 km2 kp2 zz Sv5 T5.heap n0 (Nat.le_trans Z0 K5.1) ⟨DE5, DM5, DP5, DZ5, DA5, DB5⟩ na2 nb2 nc2 g_b1 gm2 gp2 (by rw [hS5, hS4, hS3]; exact hch.2.2.2.1)) hZ (hw _ (List.mem_of_getElem? (i := 23) rfl)) (hw _ (List.mem_of_getElem? (i := 3) rfl)) (by decide) (by decide)) q6a q6c (g := (mkF m 81 #[.val (.int p1), .val (.int p2), .val (.int p3), .val (.int p4), .val (.int p5), .val (.int zz), .val (.int va), .val (.int vb), .val (.int vc), .val (.int vd), .val (.ref b1), .unset, .unset, .unset] [(.int vd), (.ref b1)])) rfl (by rw [hml]; rfl) (Steps.refl _) (argsL := [(.int vd)]) (rest := []) (lenOf pd_1 rfl) rfl (by show 2 * 0 + _ ≤ _; exact Nat.le_of_eq rfl) (hb hby at_81) (fun _ _ => ⟨rfl, rfl, (by decide : 3 + 0 ≤ _), (by decide : 35 + 0 ≤ _)⟩)
  dsimp only [Pt.U, Pt.locs, Pt.cells, Pt.slots] at X6 l6 y6 z6 st6 hQ6
  subst l6 y6 z6
  obtain ⟨rfl, Nq6, Kc6, Sv6, hS6, DS6⟩ := hQ6
  have N6 := Fr.app N5 Nq6
  refine own_via (fun t k => st6.trans k) ?_
  show own_G p.tables e below _ (T6.setTop (mkF m 84 #[.val (.int p1), .val (.int p2), .val (.int p3), .val (.int p4), .val (.int p5), .val (.int zz), .val (.int va), .val (.int vb), .val (.int vc), .val (.int vd), .val (.ref b1), .unset, .unset, .unset] []))
  have K6 : Keep h0 T6.heap [] := Keep.trans K5 Kc6 (allS (Or.inr sz_b1) (allS (Or.inr sm2) (allS (Or.inr sp2) all0)))
  obtain ⟨DE6, DM6, DP6, DZ6, DA6, DB6⟩ := id DS6
  refine own_via (S' := T6.setTop (mkF m 85 #[.val (.int p1), .val (.int p2), .val (.int p3), .val (.int p4), .val (.int p5), .val (.int zz), .val (.int va), .val (.int vb), .val (.int vc), .val (.int vd), .val (.ref b1), .unset, .unset, .unset] [(.int (4 : Int32))])) (fun t k => ?_) ?_
  · show Steps p.tables e below (T6.setTop (mkF m 84 #[.val (.int p1), .val (.int p2), .val (.int p3), .val (.int p4), .val (.int p5), .val (.int zz), .val (.int va), .val (.int vb), .val (.int vc), .val (.int vd), .val (.ref b1), .unset, .unset, .unset] [])) t
    refine XS.iconst X6.here hx rfl (hb hby at_84) ?_
    exact k
  obtain ⟨T7, h7, k7, X7, e7, E7, A7, st7⟩ := newP X6 hx hZ (hw _ (List.mem_of_getElem? (i := 10) rfl)) rfl (g := (mkF m 85 #[.val (.int p1), .val (.int p2), .val (.int p3), .val (.int p4), .val (.int p5), .val (.int zz), .val (.int va), .val (.int vb), .val (.int vc), .val (.int vd), .val (.ref b1), .unset, .unset, .unset] [(.int (4 : Int32))])) rfl (hb hby at_85) rfl (by decide) (cap := 4) (by decide) (by decide) (by decide) (by decide)
  obtain ⟨b7, g7⟩ : ∃ z, z = T6.heap.size := ⟨_, rfl⟩
  have ne_b1_b7 : b1 ≠ b7 := Nat.ne_of_lt (Nat.lt_of_lt_of_le (DE6).lt (Nat.le_of_eq g7.symm))
  have ne_bm2_b7 : bm2 ≠ b7 := Nat.ne_of_lt (Nat.lt_of_lt_of_le (DA6).lt (Nat.le_of_eq g7.symm))
  have ne_bp2_b7 : bp2 ≠ b7 := Nat.ne_of_lt (Nat.lt_of_lt_of_le (DB6).lt (Nat.le_of_eq g7.symm))
  have g_b7 : n0 ≤ b7 := Nat.le_trans (Nat.le_trans Z0 K6.1) (Nat.le_of_eq g7.symm)
  have sz_b7 : h0.size ≤ b7 := Nat.le_trans K6.1 (Nat.le_of_eq g7.symm)
  rw [← g7] at A7 st7
  have K7 : Keep h0 h7 [] := Keep.ext K6 E7
  have V_b7 : own_Ar Z h7 b7 k7 .int (4 : Int32) (List.map Value.int (List.replicate ((4 : Int32)).toNatClampNeg (0 : Int32))) (.int (0 : Int32)) := own_Ar.newI A7 (by decide)
  refine own_via st7 ?_
  show own_G p.tables e below _ (T7.setTop (mkF m 87 #[.val (.int p1), .val (.int p2), .val (.int p3), .val (.int p4), .val (.int p5), .val (.int zz), .val (.int va), .val (.int vb), .val (.int vc), .val (.int vd), .val (.ref b1), .unset, .unset, .unset] [(.ref b7)]))
  refine own_via (S' := T7.setTop (mkF m 98 #[.val (.int p1), .val (.int p2), .val (.int p3), .val (.int p4), .val (.int p5), .val (.int zz), .val (.int va), .val (.int vb), .val (.int vc), .val (.int vd), .val (.ref b1), .val (.ref b7), .val (.int (0 : Int32)), .unset] [(.int va), (.int (0 : Int32)), (.ref b7)])) (fun t k => ?_) ?_
  · show Steps p.tables e below (T7.setTop (mkF m 87 #[.val (.int p1), .val (.int p2), .val (.int p3), .val (.int p4), .val (.int p5), .val (.int zz), .val (.int va), .val (.int vb), .val (.int vc), .val (.int vd), .val (.ref b1), .unset, .unset, .unset] [(.ref b7)])) t
    refine XS.astore X7.here hx rfl (hb hby at_87) rfl rfl (l' := #[.val (.int p1), .val (.int p2), .val (.int p3), .val (.int p4), .val (.int p5), .val (.int zz), .val (.int va), .val (.int vb), .val (.int vc), .val (.int vd), .val (.ref b1), .val (.ref b7), .unset, .unset]) rfl ?_
    show Steps p.tables e below (T7.setTop (mkF m 89 #[.val (.int p1), .val (.int p2), .val (.int p3), .val (.int p4), .val (.int p5), .val (.int zz), .val (.int va), .val (.int vb), .val (.int vc), .val (.int vd), .val (.ref b1), .val (.ref b7), .unset, .unset] [])) t
    refine XS.iconst X7.here hx rfl (hb hby at_89) ?_
    show Steps p.tables e below (T7.setTop (mkF m 90 #[.val (.int p1), .val (.int p2), .val (.int p3), .val (.int p4), .val (.int p5), .val (.int zz), .val (.int va), .val (.int vb), .val (.int vc), .val (.int vd), .val (.ref b1), .val (.ref b7), .unset, .unset] [(.int (0 : Int32))])) t
    refine XS.istore X7.here hx rfl (hb hby at_90) rfl (l' := #[.val (.int p1), .val (.int p2), .val (.int p3), .val (.int p4), .val (.int p5), .val (.int zz), .val (.int va), .val (.int vb), .val (.int vc), .val (.int vd), .val (.ref b1), .val (.ref b7), .val (.int (0 : Int32)), .unset]) rfl ?_
    show Steps p.tables e below (T7.setTop (mkF m 92 #[.val (.int p1), .val (.int p2), .val (.int p3), .val (.int p4), .val (.int p5), .val (.int zz), .val (.int va), .val (.int vb), .val (.int vc), .val (.int vd), .val (.ref b1), .val (.ref b7), .val (.int (0 : Int32)), .unset] [])) t
    refine XS.aload X7.here hx rfl (hb hby at_92) rfl rfl ?_
    show Steps p.tables e below (T7.setTop (mkF m 94 #[.val (.int p1), .val (.int p2), .val (.int p3), .val (.int p4), .val (.int p5), .val (.int zz), .val (.int va), .val (.int vb), .val (.int vc), .val (.int vd), .val (.ref b1), .val (.ref b7), .val (.int (0 : Int32)), .unset] [(.ref b7)])) t
    refine XS.iload X7.here hx rfl (hb hby at_94) rfl ?_
    show Steps p.tables e below (T7.setTop (mkF m 96 #[.val (.int p1), .val (.int p2), .val (.int p3), .val (.int p4), .val (.int p5), .val (.int zz), .val (.int va), .val (.int vb), .val (.int vc), .val (.int vd), .val (.ref b1), .val (.ref b7), .val (.int (0 : Int32)), .unset] [(.int (0 : Int32)), (.ref b7)])) t
    refine XS.iload X7.here hx rfl (hb hby at_96) rfl ?_
    exact k
  obtain ⟨⟨cl8, Ar8, q8, S8, Nn8, H8, G8⟩, Le8⟩ := id V_b7
  have hin8 : ¬ ((0 : Int32) < 0 ∨ cl8.slots.size ≤ ((0 : Int32)).toNatClampNeg) := inb_of S8 ⟨by decide, by decide⟩
  obtain ⟨T8, h8, X8, e8, W8, st8⟩ := stI X7 hx hZ e7 Ar8 (j := (0 : Int32)) hin8 (g := (mkF m 98 #[.val (.int p1), .val (.int p2), .val (.int p3), .val (.int p4), .val (.int p5), .val (.int zz), .val (.int va), .val (.int vb), .val (.int vc), .val (.int vd), .val (.ref b1), .val (.ref b7), .val (.int (0 : Int32)), .unset] [(.int va), (.int (0 : Int32)), (.ref b7)])) rfl rfl (hb hby at_98)
  have V8 : own_Ar Z h8 b7 k7 .int (4 : Int32) (List.map Value.int ((List.replicate ((4 : Int32)).toNatClampNeg (0 : Int32)).set ((0 : Int32)).toNatClampNeg va)) (.int (0 : Int32)) := own_Ar.setI Ar8 q8 S8 Nn8 H8 G8 rfl W8 hin8 Le8
  have K9 : Keep h0 h8 [] := Keep.wr K7 W8 (Or.inr sz_b7)
  have N9 := Fr.snoc X8 N6 g_b7
  refine own_via st8 ?_
  show own_G p.tables e below _ (T8.setTop (mkF m 99 #[.val (.int p1), .val (.int p2), .val (.int p3), .val (.int p4), .val (.int p5), .val (.int zz), .val (.int va), .val (.int vb), .val (.int vc), .val (.int vd), .val (.ref b1), .val (.ref b7), .val (.int (0 : Int32)), .unset] []))
  refine own_via (S' := T8.setTop (mkF m 105 #[.val (.int p1), .val (.int p2), .val (.int p3), .val (.int p4), .val (.int p5), .val (.int zz), .val (.int va), .val (.int vb), .val (.int vc), .val (.int vd), .val (.ref b1), .val (.ref b7), .val (.int (1 : Int32)), .unset] [])) (fun t k => ?_) ?_
  · show Steps p.tables e below (T8.setTop (mkF m 99 #[.val (.int p1), .val (.int p2), .val (.int p3), .val (.int p4), .val (.int p5), .val (.int zz), .val (.int va), .val (.int vb), .val (.int vc), .val (.int vd), .val (.ref b1), .val (.ref b7), .val (.int (0 : Int32)), .unset] [])) t
    refine XS.iload X8.here hx rfl (hb hby at_99) rfl ?_
    show Steps p.tables e below (T8.setTop (mkF m 101 #[.val (.int p1), .val (.int p2), .val (.int p3), .val (.int p4), .val (.int p5), .val (.int zz), .val (.int va), .val (.int vb), .val (.int vc), .val (.int vd), .val (.ref b1), .val (.ref b7), .val (.int (0 : Int32)), .unset] [(.int (0 : Int32))])) t
    refine XS.iconst X8.here hx rfl (hb hby at_101) ?_
    show Steps p.tables e below (T8.setTop (mkF m 102 #[.val (.int p1), .val (.int p2), .val (.int p3), .val (.int p4), .val (.int p5), .val (.int zz), .val (.int va), .val (.int vb), .val (.int vc), .val (.int vd), .val (.ref b1), .val (.ref b7), .val (.int (0 : Int32)), .unset] [(.int (1 : Int32)), (.int (0 : Int32))])) t
    refine XS.iadd X8.here hx rfl (hb hby at_102) rfl ?_
    show Steps p.tables e below (T8.setTop (mkF m 103 #[.val (.int p1), .val (.int p2), .val (.int p3), .val (.int p4), .val (.int p5), .val (.int zz), .val (.int va), .val (.int vb), .val (.int vc), .val (.int vd), .val (.ref b1), .val (.ref b7), .val (.int (0 : Int32)), .unset] [(.int (1 : Int32))])) t
    refine XS.istore X8.here hx rfl (hb hby at_103) rfl (l' := #[.val (.int p1), .val (.int p2), .val (.int p3), .val (.int p4), .val (.int p5), .val (.int zz), .val (.int va), .val (.int vb), .val (.int vc), .val (.int vd), .val (.ref b1), .val (.ref b7), .val (.int (1 : Int32)), .unset]) rfl ?_
    exact k
  have hI : own_I zz (own_ins (own_ins (own_ins [va] vb) vc) vd) Sv6 := by rw [hS6, hS5, hS4, hS3]; exact hch.2.2.2.2
  have J : ∀ (T : State) (h : Heap) (locs : List Loc) (xe : List Int32) (kk : Int32), Fr n0 locs → Stand p l e room_1 s m #[(.int p1), (.int p2), (.int p3), (.int p4), (.int p5)] below meth c T locs 4 39 → T.heap = h → n0 ≤ h.size → own_DS Z h b1 bm2 bp2 km2 kp2 zz Sv6 → own_Ar Z h b7 k7 .int (4 : Int32) (List.map Value.int xe) (.int (0 : Int32)) → (Sv6.2.2 = kk ∧ ∀ i : Int32, ¬ i < 0 → i < kk → Sv6.1.getD (i).toNatClampNeg 0 = xe.getD (i).toNatClampNeg 0) → ¬ zz < kk → 0 < kk → own_G p.tables e below (own_P s (Q0 Z p1 p2 p3 p4 p5 h0 n0) 16 192) (T.setTop (mkF m 186 #[.val (.int p1), .val (.int p2), .val (.int p3), .val (.int p4), .val (.int p5), .val (.int zz), .val (.int va), .val (.int vb), .val (.int vc), .val (.int vd), .val (.ref b1), .val (.ref b7), .val (.int kk), .unset] [])) := by
    intro T h locs xe kk N X eT hsz DSJ VE hfin hkz hk0
    obtain ⟨DE, DM, DP, DZ, DA, DB⟩ := id DSJ
    refine own_via (S' := T.setTop (mkF m 188 #[.val (.int p1), .val (.int p2), .val (.int p3), .val (.int p4), .val (.int p5), .val (.int zz), .val (.int va), .val (.int vb), .val (.int vc), .val (.int vd), .val (.ref b1), .val (.ref b7), .val (.int kk), .unset] [(.ref b1)])) (fun t k => ?_) ?_
    · show Steps p.tables e below (T.setTop (mkF m 186 #[.val (.int p1), .val (.int p2), .val (.int p3), .val (.int p4), .val (.int p5), .val (.int zz), .val (.int va), .val (.int vb), .val (.int vc), .val (.int vd), .val (.ref b1), .val (.ref b7), .val (.int kk), .unset] [])) t
      refine XS.aload X.here hx rfl (hb hby at_186) rfl rfl ?_
      exact k
    obtain ⟨cq10, kq10, q10a, q10b, q10c⟩ := isOf hZ eT DE
    obtain ⟨_, _, ⟨T10, L10, k10, n10⟩, -, X10, ⟨Lc10, hQ10, l10, y10, z10⟩, st10⟩ := X.virtualBack hx (y := (⟨"com/example/vendace/vendace/localrecoding/DenseSet", "size", "()I"⟩ : MethodName)) (z := (⟨"com/example/vendace/vendace/localrecoding/DenseSet", "size", "()I"⟩ : MethodName)) hown (mvT hZ (hw _ (List.mem_of_getElem? (i := 26) rfl))) (mvT hZ (hw _ (List.mem_of_getElem? (i := 27) rfl))) (notFace_of_selects (args := #[]) (mvT hZ (hw _ (List.mem_of_getElem? (i := 29) rfl)))) (mvT hZ (hw _ (List.mem_of_getElem? (i := 29) rfl))) (mvT hZ (hw _ (List.mem_of_getElem? (i := 28) rfl))) (by decide) (backOf (W := 0) (rm5 l Z a0 hw [] b1 Sv6.2.2 h n0 hsz DZ) hZ (hw _ (List.mem_of_getElem? (i := 30) rfl)) (hw _ (List.mem_of_getElem? (i := 3) rfl)) (by decide) (by decide)) q10a q10c (g := (mkF m 188 #[.val (.int p1), .val (.int p2), .val (.int p3), .val (.int p4), .val (.int p5), .val (.int zz), .val (.int va), .val (.int vb), .val (.int vc), .val (.int vd), .val (.ref b1), .val (.ref b7), .val (.int kk), .unset] [(.ref b1)])) rfl (by rw [hml]; rfl) (Steps.refl _) (argsL := []) (rest := []) (lenOf pd_2 rfl) rfl (by show 2 * 0 + _ ≤ _; exact Nat.le_of_eq rfl) (hb hby at_188) (fun _ _ => ⟨rfl, eT, (by decide : 4 + 0 ≤ _), (by decide : 39 + 0 ≤ _)⟩)
    dsimp only [Pt.U, Pt.locs, Pt.cells, Pt.slots] at X10 l10 y10 z10 st10 hQ10
    subst l10 y10 z10
    obtain ⟨rfl, Nq10, hh10⟩ := hQ10
    have N10 := Fr.app N Nq10
    refine own_via (fun t k => st10.trans k) ?_
    show own_G p.tables e below _ (T10.setTop (mkF m 191 #[.val (.int p1), .val (.int p2), .val (.int p3), .val (.int p4), .val (.int p5), .val (.int zz), .val (.int va), .val (.int vb), .val (.int vc), .val (.int vd), .val (.ref b1), .val (.ref b7), .val (.int kk), .unset] [(.int Sv6.2.2)]))
    refine own_via (S' := T10.setTop (mkF m 193 #[.val (.int p1), .val (.int p2), .val (.int p3), .val (.int p4), .val (.int p5), .val (.int zz), .val (.int va), .val (.int vb), .val (.int vc), .val (.int vd), .val (.ref b1), .val (.ref b7), .val (.int kk), .unset] [(.int kk), (.int Sv6.2.2)])) (fun t k => ?_) ?_
    · show Steps p.tables e below (T10.setTop (mkF m 191 #[.val (.int p1), .val (.int p2), .val (.int p3), .val (.int p4), .val (.int p5), .val (.int zz), .val (.int va), .val (.int vb), .val (.int vc), .val (.int vd), .val (.ref b1), .val (.ref b7), .val (.int kk), .unset] [(.int Sv6.2.2)])) t
      refine XS.iload X10.here hx rfl (hb hby at_191) rfl ?_
      exact k
    refine own_via (S' := T10.setTop (mkF m 198 #[.val (.int p1), .val (.int p2), .val (.int p3), .val (.int p4), .val (.int p5), .val (.int zz), .val (.int va), .val (.int vb), .val (.int vc), .val (.int vd), .val (.ref b1), .val (.ref b7), .val (.int kk), .unset] [])) (fun t k => XS.icmpYes (g := (mkF m 193 #[.val (.int p1), .val (.int p2), .val (.int p3), .val (.int p4), .val (.int p5), .val (.int zz), .val (.int va), .val (.int vb), .val (.int vc), .val (.int vd), .val (.ref b1), .val (.ref b7), .val (.int kk), .unset] [(.int kk), (.int Sv6.2.2)])) X10.here hx rfl (pc0 := 193) (pc' := 198) rfl (hb hby at_193) rfl (teq hfin.1).1 (by decide) (by decide) k) ?_
    refine own_via (S' := T10.setTop (mkF m 201 #[.val (.int p1), .val (.int p2), .val (.int p3), .val (.int p4), .val (.int p5), .val (.int zz), .val (.int va), .val (.int vb), .val (.int vc), .val (.int vd), .val (.ref b1), .val (.ref b7), .val (.int kk), .unset] [(.int (0 : Int32)), (.ref b1)])) (fun t k => ?_) ?_
    · show Steps p.tables e below (T10.setTop (mkF m 198 #[.val (.int p1), .val (.int p2), .val (.int p3), .val (.int p4), .val (.int p5), .val (.int zz), .val (.int va), .val (.int vb), .val (.int vc), .val (.int vd), .val (.ref b1), .val (.ref b7), .val (.int kk), .unset] [])) t
      refine XS.aload X10.here hx rfl (hb hby at_198) rfl rfl ?_
      show Steps p.tables e below (T10.setTop (mkF m 200 #[.val (.int p1), .val (.int p2), .val (.int p3), .val (.int p4), .val (.int p5), .val (.int zz), .val (.int va), .val (.int vb), .val (.int vc), .val (.int vd), .val (.ref b1), .val (.ref b7), .val (.int kk), .unset] [(.ref b1)])) t
      refine XS.iconst X10.here hx rfl (hb hby at_200) ?_
      exact k
    obtain ⟨cq12, kq12, q12a, q12b, q12c⟩ := isOf hZ hh10 DE
    obtain ⟨_, _, ⟨T12, L12, k12, n12⟩, -, X12, ⟨Lc12, hQ12, l12, y12, z12⟩, st12⟩ := X10.virtualBack hx (y := (⟨"com/example/vendace/vendace/localrecoding/DenseSet", "member", "(I)I"⟩ : MethodName)) (z := (⟨"com/example/vendace/vendace/localrecoding/DenseSet", "member", "(I)I"⟩ : MethodName)) hown (mvT hZ (hw _ (List.mem_of_getElem? (i := 31) rfl))) (mvT hZ (hw _ (List.mem_of_getElem? (i := 32) rfl))) (notFace_of_selects (args := #[]) (mvT hZ (hw _ (List.mem_of_getElem? (i := 34) rfl)))) (mvT hZ (hw _ (List.mem_of_getElem? (i := 34) rfl))) (mvT hZ (hw _ (List.mem_of_getElem? (i := 33) rfl))) (by decide) (backOf (W := 0) (rm6 l Z a0 hw [] b1 (0 : Int32) bm2 km2 zz Sv6.1 h n0 hsz DM DA ⟨by decide, own_lk hk0 hkz⟩) hZ (hw _ (List.mem_of_getElem? (i := 35) rfl)) (hw _ (List.mem_of_getElem? (i := 3) rfl)) (by decide) (by decide)) q12a q12c (g := (mkF m 201 #[.val (.int p1), .val (.int p2), .val (.int p3), .val (.int p4), .val (.int p5), .val (.int zz), .val (.int va), .val (.int vb), .val (.int vc), .val (.int vd), .val (.ref b1), .val (.ref b7), .val (.int kk), .unset] [(.int (0 : Int32)), (.ref b1)])) rfl (by rw [hml]; rfl) (Steps.refl _) (argsL := [(.int (0 : Int32))]) (rest := []) (lenOf pd_3 rfl) rfl (by show 2 * 0 + _ ≤ _; exact Nat.le_of_eq rfl) (hb hby at_201) (fun _ _ => ⟨rfl, hh10, (by decide : 4 + 0 ≤ _), (by decide : 39 + 0 ≤ _)⟩)
    dsimp only [Pt.U, Pt.locs, Pt.cells, Pt.slots] at X12 l12 y12 z12 st12 hQ12
    subst l12 y12 z12
    obtain ⟨rfl, Nq12, hh12⟩ := hQ12
    have N12 := Fr.app N10 Nq12
    refine own_via (fun t k => st12.trans k) ?_
    show own_G p.tables e below _ (T12.setTop (mkF m 204 #[.val (.int p1), .val (.int p2), .val (.int p3), .val (.int p4), .val (.int p5), .val (.int zz), .val (.int va), .val (.int vb), .val (.int vc), .val (.int vd), .val (.ref b1), .val (.ref b7), .val (.int kk), .unset] [(.int (Sv6.1.getD ((0 : Int32)).toNatClampNeg 0))]))
    refine own_via (S' := T12.setTop (mkF m 207 #[.val (.int p1), .val (.int p2), .val (.int p3), .val (.int p4), .val (.int p5), .val (.int zz), .val (.int va), .val (.int vb), .val (.int vc), .val (.int vd), .val (.ref b1), .val (.ref b7), .val (.int kk), .unset] [(.int (0 : Int32)), (.ref b7), (.int (Sv6.1.getD ((0 : Int32)).toNatClampNeg 0))])) (fun t k => ?_) ?_
    · show Steps p.tables e below (T12.setTop (mkF m 204 #[.val (.int p1), .val (.int p2), .val (.int p3), .val (.int p4), .val (.int p5), .val (.int zz), .val (.int va), .val (.int vb), .val (.int vc), .val (.int vd), .val (.ref b1), .val (.ref b7), .val (.int kk), .unset] [(.int (Sv6.1.getD ((0 : Int32)).toNatClampNeg 0))])) t
      refine XS.aload X12.here hx rfl (hb hby at_204) rfl rfl ?_
      show Steps p.tables e below (T12.setTop (mkF m 206 #[.val (.int p1), .val (.int p2), .val (.int p3), .val (.int p4), .val (.int p5), .val (.int zz), .val (.int va), .val (.int vb), .val (.int vc), .val (.int vd), .val (.ref b1), .val (.ref b7), .val (.int kk), .unset] [(.ref b7), (.int (Sv6.1.getD ((0 : Int32)).toNatClampNeg 0))])) t
      refine XS.iconst X12.here hx rfl (hb hby at_206) ?_
      exact k
    obtain ⟨⟨cl13, Ar13, q13, S13, Nn13, H13, G13⟩, Le13⟩ := id VE
    have hin13 : ¬ ((0 : Int32) < 0 ∨ cl13.slots.size ≤ ((0 : Int32)).toNatClampNeg) := inb_of S13 ⟨by decide, by decide⟩
    have hat13 : cl13.slots[((0 : Int32)).toNatClampNeg]? = some (.int (xe.getD ((0 : Int32)).toNatClampNeg 0)) := Has.at H13 hin13 (own_gI _ _)
    refine own_via (S' := T12.setTop (mkF m 208 #[.val (.int p1), .val (.int p2), .val (.int p3), .val (.int p4), .val (.int p5), .val (.int zz), .val (.int va), .val (.int vb), .val (.int vc), .val (.int vd), .val (.ref b1), .val (.ref b7), .val (.int kk), .unset] [(.int (xe.getD ((0 : Int32)).toNatClampNeg 0)), (.int (Sv6.1.getD ((0 : Int32)).toNatClampNeg 0))])) (fun t kz_ => X12.iaload hx (j := (0 : Int32)) (v := (.int (xe.getD ((0 : Int32)).toNatClampNeg 0))) (by rw [hh12]; exact Ar13.1) (State.isArrayOf_alike hZ.alike Ar13.2.1) Ar13.2.2 hin13 hat13 (g := (mkF m 207 #[.val (.int p1), .val (.int p2), .val (.int p3), .val (.int p4), .val (.int p5), .val (.int zz), .val (.int va), .val (.int vb), .val (.int vc), .val (.int vd), .val (.ref b1), .val (.ref b7), .val (.int kk), .unset] [(.int (0 : Int32)), (.ref b7), (.int (Sv6.1.getD ((0 : Int32)).toNatClampNeg 0))])) rfl rfl (hb hby at_207) _ kz_) ?_
    refine own_via (S' := T12.setTop (mkF m 211 #[.val (.int p1), .val (.int p2), .val (.int p3), .val (.int p4), .val (.int p5), .val (.int zz), .val (.int va), .val (.int vb), .val (.int vc), .val (.int vd), .val (.ref b1), .val (.ref b7), .val (.int kk), .unset] [])) (fun t k => XS.icmpNo (g := (mkF m 208 #[.val (.int p1), .val (.int p2), .val (.int p3), .val (.int p4), .val (.int p5), .val (.int zz), .val (.int va), .val (.int vb), .val (.int vc), .val (.int vd), .val (.ref b1), .val (.ref b7), .val (.int kk), .unset] [(.int (xe.getD ((0 : Int32)).toNatClampNeg 0)), (.int (Sv6.1.getD ((0 : Int32)).toNatClampNeg 0))])) X12.here hx rfl (hb hby at_208) rfl (teq (hfin.2 0 (by decide) hk0)).2 k) ?_
    refine own_via (S' := T12.setTop (mkF m 221 #[.val (.int p1), .val (.int p2), .val (.int p3), .val (.int p4), .val (.int p5), .val (.int zz), .val (.int va), .val (.int vb), .val (.int vc), .val (.int vd), .val (.ref b1), .val (.ref b7), .val (.int kk), .val (.int (1 : Int32))] [(.int (1 : Int32)), (.int kk)])) (fun t k => ?_) ?_
    · show Steps p.tables e below (T12.setTop (mkF m 211 #[.val (.int p1), .val (.int p2), .val (.int p3), .val (.int p4), .val (.int p5), .val (.int zz), .val (.int va), .val (.int vb), .val (.int vc), .val (.int vd), .val (.ref b1), .val (.ref b7), .val (.int kk), .unset] [])) t
      refine XS.iconst X12.here hx rfl (hb hby at_211) ?_
      show Steps p.tables e below (T12.setTop (mkF m 212 #[.val (.int p1), .val (.int p2), .val (.int p3), .val (.int p4), .val (.int p5), .val (.int zz), .val (.int va), .val (.int vb), .val (.int vc), .val (.int vd), .val (.ref b1), .val (.ref b7), .val (.int kk), .unset] [(.int (1 : Int32))])) t
      refine XS.goto X12.here hx rfl (pc0 := 212) (pc' := 216) rfl (hb hby at_212) (by decide) (by decide) ?_
      show Steps p.tables e below (T12.setTop (mkF m 216 #[.val (.int p1), .val (.int p2), .val (.int p3), .val (.int p4), .val (.int p5), .val (.int zz), .val (.int va), .val (.int vb), .val (.int vc), .val (.int vd), .val (.ref b1), .val (.ref b7), .val (.int kk), .unset] [(.int (1 : Int32))])) t
      refine XS.istore X12.here hx rfl (hb hby at_216) rfl (l' := #[.val (.int p1), .val (.int p2), .val (.int p3), .val (.int p4), .val (.int p5), .val (.int zz), .val (.int va), .val (.int vb), .val (.int vc), .val (.int vd), .val (.ref b1), .val (.ref b7), .val (.int kk), .val (.int (1 : Int32))]) rfl ?_
      show Steps p.tables e below (T12.setTop (mkF m 218 #[.val (.int p1), .val (.int p2), .val (.int p3), .val (.int p4), .val (.int p5), .val (.int zz), .val (.int va), .val (.int vb), .val (.int vc), .val (.int vd), .val (.ref b1), .val (.ref b7), .val (.int kk), .val (.int (1 : Int32))] [])) t
      refine XS.iload X12.here hx rfl (hb hby at_218) rfl ?_
      show Steps p.tables e below (T12.setTop (mkF m 220 #[.val (.int p1), .val (.int p2), .val (.int p3), .val (.int p4), .val (.int p5), .val (.int zz), .val (.int va), .val (.int vb), .val (.int vc), .val (.int vd), .val (.ref b1), .val (.ref b7), .val (.int kk), .val (.int (1 : Int32))] [(.int kk)])) t
      refine XS.iconst X12.here hx rfl (hb hby at_220) ?_
      exact k
    by_cases hc221_15 : (1 : Int32) < kk
    · refine own_via (S' := T12.setTop (mkF m 224 #[.val (.int p1), .val (.int p2), .val (.int p3), .val (.int p4), .val (.int p5), .val (.int zz), .val (.int va), .val (.int vb), .val (.int vc), .val (.int vd), .val (.ref b1), .val (.ref b7), .val (.int kk), .val (.int (1 : Int32))] [])) (fun t k => XS.icmpNo (g := (mkF m 221 #[.val (.int p1), .val (.int p2), .val (.int p3), .val (.int p4), .val (.int p5), .val (.int zz), .val (.int va), .val (.int vb), .val (.int vc), .val (.int vd), .val (.ref b1), .val (.ref b7), .val (.int kk), .val (.int (1 : Int32))] [(.int (1 : Int32)), (.int kk)])) X12.here hx rfl (hb hby at_221) rfl (tlt hc221_15).2.2.2 k) ?_
      refine own_via (S' := T12.setTop (mkF m 226 #[.val (.int p1), .val (.int p2), .val (.int p3), .val (.int p4), .val (.int p5), .val (.int zz), .val (.int va), .val (.int vb), .val (.int vc), .val (.int vd), .val (.ref b1), .val (.ref b7), .val (.int kk), .val (.int (1 : Int32))] [(.int (1 : Int32))])) (fun t k => ?_) ?_
      · show Steps p.tables e below (T12.setTop (mkF m 224 #[.val (.int p1), .val (.int p2), .val (.int p3), .val (.int p4), .val (.int p5), .val (.int zz), .val (.int va), .val (.int vb), .val (.int vc), .val (.int vd), .val (.ref b1), .val (.ref b7), .val (.int kk), .val (.int (1 : Int32))] [])) t
        refine XS.iload X12.here hx rfl (hb hby at_224) rfl ?_
        exact k
      refine own_via (S' := T12.setTop (mkF m 229 #[.val (.int p1), .val (.int p2), .val (.int p3), .val (.int p4), .val (.int p5), .val (.int zz), .val (.int va), .val (.int vb), .val (.int vc), .val (.int vd), .val (.ref b1), .val (.ref b7), .val (.int kk), .val (.int (1 : Int32))] [])) (fun t k => XS.ifNo (g := (mkF m 226 #[.val (.int p1), .val (.int p2), .val (.int p3), .val (.int p4), .val (.int p5), .val (.int zz), .val (.int va), .val (.int vb), .val (.int vc), .val (.int vd), .val (.ref b1), .val (.ref b7), .val (.int kk), .val (.int (1 : Int32))] [(.int (1 : Int32))])) X12.here hx rfl (hb hby at_226) rfl ((if0 _ _).trans (feq (by decide : ¬ ((1 : Int32) = (0 : Int32)))).1) k) ?_
      refine own_via (S' := T12.setTop (mkF m 232 #[.val (.int p1), .val (.int p2), .val (.int p3), .val (.int p4), .val (.int p5), .val (.int zz), .val (.int va), .val (.int vb), .val (.int vc), .val (.int vd), .val (.ref b1), .val (.ref b7), .val (.int kk), .val (.int (1 : Int32))] [(.int (1 : Int32)), (.ref b1)])) (fun t k => ?_) ?_
      · show Steps p.tables e below (T12.setTop (mkF m 229 #[.val (.int p1), .val (.int p2), .val (.int p3), .val (.int p4), .val (.int p5), .val (.int zz), .val (.int va), .val (.int vb), .val (.int vc), .val (.int vd), .val (.ref b1), .val (.ref b7), .val (.int kk), .val (.int (1 : Int32))] [])) t
        refine XS.aload X12.here hx rfl (hb hby at_229) rfl rfl ?_
        show Steps p.tables e below (T12.setTop (mkF m 231 #[.val (.int p1), .val (.int p2), .val (.int p3), .val (.int p4), .val (.int p5), .val (.int zz), .val (.int va), .val (.int vb), .val (.int vc), .val (.int vd), .val (.ref b1), .val (.ref b7), .val (.int kk), .val (.int (1 : Int32))] [(.ref b1)])) t
        refine XS.iconst X12.here hx rfl (hb hby at_231) ?_
        exact k
      obtain ⟨cq17, kq17, q17a, q17b, q17c⟩ := isOf hZ hh12 DE
      obtain ⟨_, _, ⟨T17, L17, k17, n17⟩, -, X17, ⟨Lc17, hQ17, l17, y17, z17⟩, st17⟩ := X12.virtualBack hx (y := (⟨"com/example/vendace/vendace/localrecoding/DenseSet", "member", "(I)I"⟩ : MethodName)) (z := (⟨"com/example/vendace/vendace/localrecoding/DenseSet", "member", "(I)I"⟩ : MethodName)) hown (mvT hZ (hw _ (List.mem_of_getElem? (i := 31) rfl))) (mvT hZ (hw _ (List.mem_of_getElem? (i := 32) rfl))) (notFace_of_selects (args := #[]) (mvT hZ (hw _ (List.mem_of_getElem? (i := 34) rfl)))) (mvT hZ (hw _ (List.mem_of_getElem? (i := 34) rfl))) (mvT hZ (hw _ (List.mem_of_getElem? (i := 33) rfl))) (by decide) (backOf (W := 0) (rm6 l Z a0 hw [] b1 (1 : Int32) bm2 km2 zz Sv6.1 h n0 hsz DM DA ⟨by decide, own_lk hc221_15 hkz⟩) hZ (hw _ (List.mem_of_getElem? (i := 35) rfl)) (hw _ (List.mem_of_getElem? (i := 3) rfl)) (by decide) (by decide)) q17a q17c (g := (mkF m 232 #[.val (.int p1), .val (.int p2), .val (.int p3), .val (.int p4), .val (.int p5), .val (.int zz), .val (.int va), .val (.int vb), .val (.int vc), .val (.int vd), .val (.ref b1), .val (.ref b7), .val (.int kk), .val (.int (1 : Int32))] [(.int (1 : Int32)), (.ref b1)])) rfl (by rw [hml]; rfl) (Steps.refl _) (argsL := [(.int (1 : Int32))]) (rest := []) (lenOf pd_3 rfl) rfl (by show 2 * 0 + _ ≤ _; exact Nat.le_of_eq rfl) (hb hby at_232) (fun _ _ => ⟨rfl, hh12, (by decide : 4 + 0 ≤ _), (by decide : 39 + 0 ≤ _)⟩)
      dsimp only [Pt.U, Pt.locs, Pt.cells, Pt.slots] at X17 l17 y17 z17 st17 hQ17
      subst l17 y17 z17
      obtain ⟨rfl, Nq17, hh17⟩ := hQ17
      have N17 := Fr.app N12 Nq17
      refine own_via (fun t k => st17.trans k) ?_
      show own_G p.tables e below _ (T17.setTop (mkF m 235 #[.val (.int p1), .val (.int p2), .val (.int p3), .val (.int p4), .val (.int p5), .val (.int zz), .val (.int va), .val (.int vb), .val (.int vc), .val (.int vd), .val (.ref b1), .val (.ref b7), .val (.int kk), .val (.int (1 : Int32))] [(.int (Sv6.1.getD ((1 : Int32)).toNatClampNeg 0))]))
      refine own_via (S' := T17.setTop (mkF m 238 #[.val (.int p1), .val (.int p2), .val (.int p3), .val (.int p4), .val (.int p5), .val (.int zz), .val (.int va), .val (.int vb), .val (.int vc), .val (.int vd), .val (.ref b1), .val (.ref b7), .val (.int kk), .val (.int (1 : Int32))] [(.int (1 : Int32)), (.ref b7), (.int (Sv6.1.getD ((1 : Int32)).toNatClampNeg 0))])) (fun t k => ?_) ?_
      · show Steps p.tables e below (T17.setTop (mkF m 235 #[.val (.int p1), .val (.int p2), .val (.int p3), .val (.int p4), .val (.int p5), .val (.int zz), .val (.int va), .val (.int vb), .val (.int vc), .val (.int vd), .val (.ref b1), .val (.ref b7), .val (.int kk), .val (.int (1 : Int32))] [(.int (Sv6.1.getD ((1 : Int32)).toNatClampNeg 0))])) t
        refine XS.aload X17.here hx rfl (hb hby at_235) rfl rfl ?_
        show Steps p.tables e below (T17.setTop (mkF m 237 #[.val (.int p1), .val (.int p2), .val (.int p3), .val (.int p4), .val (.int p5), .val (.int zz), .val (.int va), .val (.int vb), .val (.int vc), .val (.int vd), .val (.ref b1), .val (.ref b7), .val (.int kk), .val (.int (1 : Int32))] [(.ref b7), (.int (Sv6.1.getD ((1 : Int32)).toNatClampNeg 0))])) t
        refine XS.iconst X17.here hx rfl (hb hby at_237) ?_
        exact k
      obtain ⟨⟨cl18, Ar18, q18, S18, Nn18, H18, G18⟩, Le18⟩ := id VE
      have hin18 : ¬ ((1 : Int32) < 0 ∨ cl18.slots.size ≤ ((1 : Int32)).toNatClampNeg) := inb_of S18 ⟨by decide, by decide⟩
      have hat18 : cl18.slots[((1 : Int32)).toNatClampNeg]? = some (.int (xe.getD ((1 : Int32)).toNatClampNeg 0)) := Has.at H18 hin18 (own_gI _ _)
      refine own_via (S' := T17.setTop (mkF m 239 #[.val (.int p1), .val (.int p2), .val (.int p3), .val (.int p4), .val (.int p5), .val (.int zz), .val (.int va), .val (.int vb), .val (.int vc), .val (.int vd), .val (.ref b1), .val (.ref b7), .val (.int kk), .val (.int (1 : Int32))] [(.int (xe.getD ((1 : Int32)).toNatClampNeg 0)), (.int (Sv6.1.getD ((1 : Int32)).toNatClampNeg 0))])) (fun t kz_ => X17.iaload hx (j := (1 : Int32)) (v := (.int (xe.getD ((1 : Int32)).toNatClampNeg 0))) (by rw [hh17]; exact Ar18.1) (State.isArrayOf_alike hZ.alike Ar18.2.1) Ar18.2.2 hin18 hat18 (g := (mkF m 238 #[.val (.int p1), .val (.int p2), .val (.int p3), .val (.int p4), .val (.int p5), .val (.int zz), .val (.int va), .val (.int vb), .val (.int vc), .val (.int vd), .val (.ref b1), .val (.ref b7), .val (.int kk), .val (.int (1 : Int32))] [(.int (1 : Int32)), (.ref b7), (.int (Sv6.1.getD ((1 : Int32)).toNatClampNeg 0))])) rfl rfl (hb hby at_238) _ kz_) ?_
      refine own_via (S' := T17.setTop (mkF m 242 #[.val (.int p1), .val (.int p2), .val (.int p3), .val (.int p4), .val (.int p5), .val (.int zz), .val (.int va), .val (.int vb), .val (.int vc), .val (.int vd), .val (.ref b1), .val (.ref b7), .val (.int kk), .val (.int (1 : Int32))] [])) (fun t k => XS.icmpNo (g := (mkF m 239 #[.val (.int p1), .val (.int p2), .val (.int p3), .val (.int p4), .val (.int p5), .val (.int zz), .val (.int va), .val (.int vb), .val (.int vc), .val (.int vd), .val (.ref b1), .val (.ref b7), .val (.int kk), .val (.int (1 : Int32))] [(.int (xe.getD ((1 : Int32)).toNatClampNeg 0)), (.int (Sv6.1.getD ((1 : Int32)).toNatClampNeg 0))])) X17.here hx rfl (hb hby at_239) rfl (teq (hfin.2 1 (by decide) hc221_15)).2 k) ?_
      refine own_via (S' := T17.setTop (mkF m 252 #[.val (.int p1), .val (.int p2), .val (.int p3), .val (.int p4), .val (.int p5), .val (.int zz), .val (.int va), .val (.int vb), .val (.int vc), .val (.int vd), .val (.ref b1), .val (.ref b7), .val (.int kk), .val (.int (1 : Int32))] [(.int (2 : Int32)), (.int kk)])) (fun t k => ?_) ?_
      · show Steps p.tables e below (T17.setTop (mkF m 242 #[.val (.int p1), .val (.int p2), .val (.int p3), .val (.int p4), .val (.int p5), .val (.int zz), .val (.int va), .val (.int vb), .val (.int vc), .val (.int vd), .val (.ref b1), .val (.ref b7), .val (.int kk), .val (.int (1 : Int32))] [])) t
        refine XS.iconst X17.here hx rfl (hb hby at_242) ?_
        show Steps p.tables e below (T17.setTop (mkF m 243 #[.val (.int p1), .val (.int p2), .val (.int p3), .val (.int p4), .val (.int p5), .val (.int zz), .val (.int va), .val (.int vb), .val (.int vc), .val (.int vd), .val (.ref b1), .val (.ref b7), .val (.int kk), .val (.int (1 : Int32))] [(.int (1 : Int32))])) t
        refine XS.goto X17.here hx rfl (pc0 := 243) (pc' := 247) rfl (hb hby at_243) (by decide) (by decide) ?_
        show Steps p.tables e below (T17.setTop (mkF m 247 #[.val (.int p1), .val (.int p2), .val (.int p3), .val (.int p4), .val (.int p5), .val (.int zz), .val (.int va), .val (.int vb), .val (.int vc), .val (.int vd), .val (.ref b1), .val (.ref b7), .val (.int kk), .val (.int (1 : Int32))] [(.int (1 : Int32))])) t
        refine XS.istore X17.here hx rfl (hb hby at_247) rfl (l' := #[.val (.int p1), .val (.int p2), .val (.int p3), .val (.int p4), .val (.int p5), .val (.int zz), .val (.int va), .val (.int vb), .val (.int vc), .val (.int vd), .val (.ref b1), .val (.ref b7), .val (.int kk), .val (.int (1 : Int32))]) rfl ?_
        show Steps p.tables e below (T17.setTop (mkF m 249 #[.val (.int p1), .val (.int p2), .val (.int p3), .val (.int p4), .val (.int p5), .val (.int zz), .val (.int va), .val (.int vb), .val (.int vc), .val (.int vd), .val (.ref b1), .val (.ref b7), .val (.int kk), .val (.int (1 : Int32))] [])) t
        refine XS.iload X17.here hx rfl (hb hby at_249) rfl ?_
        show Steps p.tables e below (T17.setTop (mkF m 251 #[.val (.int p1), .val (.int p2), .val (.int p3), .val (.int p4), .val (.int p5), .val (.int zz), .val (.int va), .val (.int vb), .val (.int vc), .val (.int vd), .val (.ref b1), .val (.ref b7), .val (.int kk), .val (.int (1 : Int32))] [(.int kk)])) t
        refine XS.iconst X17.here hx rfl (hb hby at_251) ?_
        exact k
      by_cases hc252_20 : (2 : Int32) < kk
      · refine own_via (S' := T17.setTop (mkF m 255 #[.val (.int p1), .val (.int p2), .val (.int p3), .val (.int p4), .val (.int p5), .val (.int zz), .val (.int va), .val (.int vb), .val (.int vc), .val (.int vd), .val (.ref b1), .val (.ref b7), .val (.int kk), .val (.int (1 : Int32))] [])) (fun t k => XS.icmpNo (g := (mkF m 252 #[.val (.int p1), .val (.int p2), .val (.int p3), .val (.int p4), .val (.int p5), .val (.int zz), .val (.int va), .val (.int vb), .val (.int vc), .val (.int vd), .val (.ref b1), .val (.ref b7), .val (.int kk), .val (.int (1 : Int32))] [(.int (2 : Int32)), (.int kk)])) X17.here hx rfl (hb hby at_252) rfl (tlt hc252_20).2.2.2 k) ?_
        refine own_via (S' := T17.setTop (mkF m 257 #[.val (.int p1), .val (.int p2), .val (.int p3), .val (.int p4), .val (.int p5), .val (.int zz), .val (.int va), .val (.int vb), .val (.int vc), .val (.int vd), .val (.ref b1), .val (.ref b7), .val (.int kk), .val (.int (1 : Int32))] [(.int (1 : Int32))])) (fun t k => ?_) ?_
        · show Steps p.tables e below (T17.setTop (mkF m 255 #[.val (.int p1), .val (.int p2), .val (.int p3), .val (.int p4), .val (.int p5), .val (.int zz), .val (.int va), .val (.int vb), .val (.int vc), .val (.int vd), .val (.ref b1), .val (.ref b7), .val (.int kk), .val (.int (1 : Int32))] [])) t
          refine XS.iload X17.here hx rfl (hb hby at_255) rfl ?_
          exact k
        refine own_via (S' := T17.setTop (mkF m 260 #[.val (.int p1), .val (.int p2), .val (.int p3), .val (.int p4), .val (.int p5), .val (.int zz), .val (.int va), .val (.int vb), .val (.int vc), .val (.int vd), .val (.ref b1), .val (.ref b7), .val (.int kk), .val (.int (1 : Int32))] [])) (fun t k => XS.ifNo (g := (mkF m 257 #[.val (.int p1), .val (.int p2), .val (.int p3), .val (.int p4), .val (.int p5), .val (.int zz), .val (.int va), .val (.int vb), .val (.int vc), .val (.int vd), .val (.ref b1), .val (.ref b7), .val (.int kk), .val (.int (1 : Int32))] [(.int (1 : Int32))])) X17.here hx rfl (hb hby at_257) rfl ((if0 _ _).trans (feq (by decide : ¬ ((1 : Int32) = (0 : Int32)))).1) k) ?_
        refine own_via (S' := T17.setTop (mkF m 263 #[.val (.int p1), .val (.int p2), .val (.int p3), .val (.int p4), .val (.int p5), .val (.int zz), .val (.int va), .val (.int vb), .val (.int vc), .val (.int vd), .val (.ref b1), .val (.ref b7), .val (.int kk), .val (.int (1 : Int32))] [(.int (2 : Int32)), (.ref b1)])) (fun t k => ?_) ?_
        · show Steps p.tables e below (T17.setTop (mkF m 260 #[.val (.int p1), .val (.int p2), .val (.int p3), .val (.int p4), .val (.int p5), .val (.int zz), .val (.int va), .val (.int vb), .val (.int vc), .val (.int vd), .val (.ref b1), .val (.ref b7), .val (.int kk), .val (.int (1 : Int32))] [])) t
          refine XS.aload X17.here hx rfl (hb hby at_260) rfl rfl ?_
          show Steps p.tables e below (T17.setTop (mkF m 262 #[.val (.int p1), .val (.int p2), .val (.int p3), .val (.int p4), .val (.int p5), .val (.int zz), .val (.int va), .val (.int vb), .val (.int vc), .val (.int vd), .val (.ref b1), .val (.ref b7), .val (.int kk), .val (.int (1 : Int32))] [(.ref b1)])) t
          refine XS.iconst X17.here hx rfl (hb hby at_262) ?_
          exact k
        obtain ⟨cq22, kq22, q22a, q22b, q22c⟩ := isOf hZ hh17 DE
        obtain ⟨_, _, ⟨T22, L22, k22, n22⟩, -, X22, ⟨Lc22, hQ22, l22, y22, z22⟩, st22⟩ := X17.virtualBack hx (y := (⟨"com/example/vendace/vendace/localrecoding/DenseSet", "member", "(I)I"⟩ : MethodName)) (z := (⟨"com/example/vendace/vendace/localrecoding/DenseSet", "member", "(I)I"⟩ : MethodName)) hown (mvT hZ (hw _ (List.mem_of_getElem? (i := 31) rfl))) (mvT hZ (hw _ (List.mem_of_getElem? (i := 32) rfl))) (notFace_of_selects (args := #[]) (mvT hZ (hw _ (List.mem_of_getElem? (i := 34) rfl)))) (mvT hZ (hw _ (List.mem_of_getElem? (i := 34) rfl))) (mvT hZ (hw _ (List.mem_of_getElem? (i := 33) rfl))) (by decide) (backOf (W := 0) (rm6 l Z a0 hw [] b1 (2 : Int32) bm2 km2 zz Sv6.1 h n0 hsz DM DA ⟨by decide, own_lk hc252_20 hkz⟩) hZ (hw _ (List.mem_of_getElem? (i := 35) rfl)) (hw _ (List.mem_of_getElem? (i := 3) rfl)) (by decide) (by decide)) q22a q22c (g := (mkF m 263 #[.val (.int p1), .val (.int p2), .val (.int p3), .val (.int p4), .val (.int p5), .val (.int zz), .val (.int va), .val (.int vb), .val (.int vc), .val (.int vd), .val (.ref b1), .val (.ref b7), .val (.int kk), .val (.int (1 : Int32))] [(.int (2 : Int32)), (.ref b1)])) rfl (by rw [hml]; rfl) (Steps.refl _) (argsL := [(.int (2 : Int32))]) (rest := []) (lenOf pd_3 rfl) rfl (by show 2 * 0 + _ ≤ _; exact Nat.le_of_eq rfl) (hb hby at_263) (fun _ _ => ⟨rfl, hh17, (by decide : 4 + 0 ≤ _), (by decide : 39 + 0 ≤ _)⟩)
        dsimp only [Pt.U, Pt.locs, Pt.cells, Pt.slots] at X22 l22 y22 z22 st22 hQ22
        subst l22 y22 z22
        obtain ⟨rfl, Nq22, hh22⟩ := hQ22
        have N22 := Fr.app N17 Nq22
        refine own_via (fun t k => st22.trans k) ?_
        show own_G p.tables e below _ (T22.setTop (mkF m 266 #[.val (.int p1), .val (.int p2), .val (.int p3), .val (.int p4), .val (.int p5), .val (.int zz), .val (.int va), .val (.int vb), .val (.int vc), .val (.int vd), .val (.ref b1), .val (.ref b7), .val (.int kk), .val (.int (1 : Int32))] [(.int (Sv6.1.getD ((2 : Int32)).toNatClampNeg 0))]))
        refine own_via (S' := T22.setTop (mkF m 269 #[.val (.int p1), .val (.int p2), .val (.int p3), .val (.int p4), .val (.int p5), .val (.int zz), .val (.int va), .val (.int vb), .val (.int vc), .val (.int vd), .val (.ref b1), .val (.ref b7), .val (.int kk), .val (.int (1 : Int32))] [(.int (2 : Int32)), (.ref b7), (.int (Sv6.1.getD ((2 : Int32)).toNatClampNeg 0))])) (fun t k => ?_) ?_
        · show Steps p.tables e below (T22.setTop (mkF m 266 #[.val (.int p1), .val (.int p2), .val (.int p3), .val (.int p4), .val (.int p5), .val (.int zz), .val (.int va), .val (.int vb), .val (.int vc), .val (.int vd), .val (.ref b1), .val (.ref b7), .val (.int kk), .val (.int (1 : Int32))] [(.int (Sv6.1.getD ((2 : Int32)).toNatClampNeg 0))])) t
          refine XS.aload X22.here hx rfl (hb hby at_266) rfl rfl ?_
          show Steps p.tables e below (T22.setTop (mkF m 268 #[.val (.int p1), .val (.int p2), .val (.int p3), .val (.int p4), .val (.int p5), .val (.int zz), .val (.int va), .val (.int vb), .val (.int vc), .val (.int vd), .val (.ref b1), .val (.ref b7), .val (.int kk), .val (.int (1 : Int32))] [(.ref b7), (.int (Sv6.1.getD ((2 : Int32)).toNatClampNeg 0))])) t
          refine XS.iconst X22.here hx rfl (hb hby at_268) ?_
          exact k
        obtain ⟨⟨cl23, Ar23, q23, S23, Nn23, H23, G23⟩, Le23⟩ := id VE
        have hin23 : ¬ ((2 : Int32) < 0 ∨ cl23.slots.size ≤ ((2 : Int32)).toNatClampNeg) := inb_of S23 ⟨by decide, by decide⟩
        have hat23 : cl23.slots[((2 : Int32)).toNatClampNeg]? = some (.int (xe.getD ((2 : Int32)).toNatClampNeg 0)) := Has.at H23 hin23 (own_gI _ _)
        refine own_via (S' := T22.setTop (mkF m 270 #[.val (.int p1), .val (.int p2), .val (.int p3), .val (.int p4), .val (.int p5), .val (.int zz), .val (.int va), .val (.int vb), .val (.int vc), .val (.int vd), .val (.ref b1), .val (.ref b7), .val (.int kk), .val (.int (1 : Int32))] [(.int (xe.getD ((2 : Int32)).toNatClampNeg 0)), (.int (Sv6.1.getD ((2 : Int32)).toNatClampNeg 0))])) (fun t kz_ => X22.iaload hx (j := (2 : Int32)) (v := (.int (xe.getD ((2 : Int32)).toNatClampNeg 0))) (by rw [hh22]; exact Ar23.1) (State.isArrayOf_alike hZ.alike Ar23.2.1) Ar23.2.2 hin23 hat23 (g := (mkF m 269 #[.val (.int p1), .val (.int p2), .val (.int p3), .val (.int p4), .val (.int p5), .val (.int zz), .val (.int va), .val (.int vb), .val (.int vc), .val (.int vd), .val (.ref b1), .val (.ref b7), .val (.int kk), .val (.int (1 : Int32))] [(.int (2 : Int32)), (.ref b7), (.int (Sv6.1.getD ((2 : Int32)).toNatClampNeg 0))])) rfl rfl (hb hby at_269) _ kz_) ?_
        refine own_via (S' := T22.setTop (mkF m 273 #[.val (.int p1), .val (.int p2), .val (.int p3), .val (.int p4), .val (.int p5), .val (.int zz), .val (.int va), .val (.int vb), .val (.int vc), .val (.int vd), .val (.ref b1), .val (.ref b7), .val (.int kk), .val (.int (1 : Int32))] [])) (fun t k => XS.icmpNo (g := (mkF m 270 #[.val (.int p1), .val (.int p2), .val (.int p3), .val (.int p4), .val (.int p5), .val (.int zz), .val (.int va), .val (.int vb), .val (.int vc), .val (.int vd), .val (.ref b1), .val (.ref b7), .val (.int kk), .val (.int (1 : Int32))] [(.int (xe.getD ((2 : Int32)).toNatClampNeg 0)), (.int (Sv6.1.getD ((2 : Int32)).toNatClampNeg 0))])) X22.here hx rfl (hb hby at_270) rfl (teq (hfin.2 2 (by decide) hc252_20)).2 k) ?_
        refine own_via (S' := T22.setTop (mkF m 283 #[.val (.int p1), .val (.int p2), .val (.int p3), .val (.int p4), .val (.int p5), .val (.int zz), .val (.int va), .val (.int vb), .val (.int vc), .val (.int vd), .val (.ref b1), .val (.ref b7), .val (.int kk), .val (.int (1 : Int32))] [(.int (3 : Int32)), (.int kk)])) (fun t k => ?_) ?_
        · show Steps p.tables e below (T22.setTop (mkF m 273 #[.val (.int p1), .val (.int p2), .val (.int p3), .val (.int p4), .val (.int p5), .val (.int zz), .val (.int va), .val (.int vb), .val (.int vc), .val (.int vd), .val (.ref b1), .val (.ref b7), .val (.int kk), .val (.int (1 : Int32))] [])) t
          refine XS.iconst X22.here hx rfl (hb hby at_273) ?_
          show Steps p.tables e below (T22.setTop (mkF m 274 #[.val (.int p1), .val (.int p2), .val (.int p3), .val (.int p4), .val (.int p5), .val (.int zz), .val (.int va), .val (.int vb), .val (.int vc), .val (.int vd), .val (.ref b1), .val (.ref b7), .val (.int kk), .val (.int (1 : Int32))] [(.int (1 : Int32))])) t
          refine XS.goto X22.here hx rfl (pc0 := 274) (pc' := 278) rfl (hb hby at_274) (by decide) (by decide) ?_
          show Steps p.tables e below (T22.setTop (mkF m 278 #[.val (.int p1), .val (.int p2), .val (.int p3), .val (.int p4), .val (.int p5), .val (.int zz), .val (.int va), .val (.int vb), .val (.int vc), .val (.int vd), .val (.ref b1), .val (.ref b7), .val (.int kk), .val (.int (1 : Int32))] [(.int (1 : Int32))])) t
          refine XS.istore X22.here hx rfl (hb hby at_278) rfl (l' := #[.val (.int p1), .val (.int p2), .val (.int p3), .val (.int p4), .val (.int p5), .val (.int zz), .val (.int va), .val (.int vb), .val (.int vc), .val (.int vd), .val (.ref b1), .val (.ref b7), .val (.int kk), .val (.int (1 : Int32))]) rfl ?_
          show Steps p.tables e below (T22.setTop (mkF m 280 #[.val (.int p1), .val (.int p2), .val (.int p3), .val (.int p4), .val (.int p5), .val (.int zz), .val (.int va), .val (.int vb), .val (.int vc), .val (.int vd), .val (.ref b1), .val (.ref b7), .val (.int kk), .val (.int (1 : Int32))] [])) t
          refine XS.iload X22.here hx rfl (hb hby at_280) rfl ?_
          show Steps p.tables e below (T22.setTop (mkF m 282 #[.val (.int p1), .val (.int p2), .val (.int p3), .val (.int p4), .val (.int p5), .val (.int zz), .val (.int va), .val (.int vb), .val (.int vc), .val (.int vd), .val (.ref b1), .val (.ref b7), .val (.int kk), .val (.int (1 : Int32))] [(.int kk)])) t
          refine XS.iconst X22.here hx rfl (hb hby at_282) ?_
          exact k
        by_cases hc283_25 : (3 : Int32) < kk
        · refine own_via (S' := T22.setTop (mkF m 286 #[.val (.int p1), .val (.int p2), .val (.int p3), .val (.int p4), .val (.int p5), .val (.int zz), .val (.int va), .val (.int vb), .val (.int vc), .val (.int vd), .val (.ref b1), .val (.ref b7), .val (.int kk), .val (.int (1 : Int32))] [])) (fun t k => XS.icmpNo (g := (mkF m 283 #[.val (.int p1), .val (.int p2), .val (.int p3), .val (.int p4), .val (.int p5), .val (.int zz), .val (.int va), .val (.int vb), .val (.int vc), .val (.int vd), .val (.ref b1), .val (.ref b7), .val (.int kk), .val (.int (1 : Int32))] [(.int (3 : Int32)), (.int kk)])) X22.here hx rfl (hb hby at_283) rfl (tlt hc283_25).2.2.2 k) ?_
          refine own_via (S' := T22.setTop (mkF m 288 #[.val (.int p1), .val (.int p2), .val (.int p3), .val (.int p4), .val (.int p5), .val (.int zz), .val (.int va), .val (.int vb), .val (.int vc), .val (.int vd), .val (.ref b1), .val (.ref b7), .val (.int kk), .val (.int (1 : Int32))] [(.int (1 : Int32))])) (fun t k => ?_) ?_
          · show Steps p.tables e below (T22.setTop (mkF m 286 #[.val (.int p1), .val (.int p2), .val (.int p3), .val (.int p4), .val (.int p5), .val (.int zz), .val (.int va), .val (.int vb), .val (.int vc), .val (.int vd), .val (.ref b1), .val (.ref b7), .val (.int kk), .val (.int (1 : Int32))] [])) t
            refine XS.iload X22.here hx rfl (hb hby at_286) rfl ?_
            exact k
          refine own_via (S' := T22.setTop (mkF m 291 #[.val (.int p1), .val (.int p2), .val (.int p3), .val (.int p4), .val (.int p5), .val (.int zz), .val (.int va), .val (.int vb), .val (.int vc), .val (.int vd), .val (.ref b1), .val (.ref b7), .val (.int kk), .val (.int (1 : Int32))] [])) (fun t k => XS.ifNo (g := (mkF m 288 #[.val (.int p1), .val (.int p2), .val (.int p3), .val (.int p4), .val (.int p5), .val (.int zz), .val (.int va), .val (.int vb), .val (.int vc), .val (.int vd), .val (.ref b1), .val (.ref b7), .val (.int kk), .val (.int (1 : Int32))] [(.int (1 : Int32))])) X22.here hx rfl (hb hby at_288) rfl ((if0 _ _).trans (feq (by decide : ¬ ((1 : Int32) = (0 : Int32)))).1) k) ?_
          refine own_via (S' := T22.setTop (mkF m 294 #[.val (.int p1), .val (.int p2), .val (.int p3), .val (.int p4), .val (.int p5), .val (.int zz), .val (.int va), .val (.int vb), .val (.int vc), .val (.int vd), .val (.ref b1), .val (.ref b7), .val (.int kk), .val (.int (1 : Int32))] [(.int (3 : Int32)), (.ref b1)])) (fun t k => ?_) ?_
          · show Steps p.tables e below (T22.setTop (mkF m 291 #[.val (.int p1), .val (.int p2), .val (.int p3), .val (.int p4), .val (.int p5), .val (.int zz), .val (.int va), .val (.int vb), .val (.int vc), .val (.int vd), .val (.ref b1), .val (.ref b7), .val (.int kk), .val (.int (1 : Int32))] [])) t
            refine XS.aload X22.here hx rfl (hb hby at_291) rfl rfl ?_
            show Steps p.tables e below (T22.setTop (mkF m 293 #[.val (.int p1), .val (.int p2), .val (.int p3), .val (.int p4), .val (.int p5), .val (.int zz), .val (.int va), .val (.int vb), .val (.int vc), .val (.int vd), .val (.ref b1), .val (.ref b7), .val (.int kk), .val (.int (1 : Int32))] [(.ref b1)])) t
            refine XS.iconst X22.here hx rfl (hb hby at_293) ?_
            exact k
          obtain ⟨cq27, kq27, q27a, q27b, q27c⟩ := isOf hZ hh22 DE
          obtain ⟨_, _, ⟨T27, L27, k27, n27⟩, -, X27, ⟨Lc27, hQ27, l27, y27, z27⟩, st27⟩ := X22.virtualBack hx (y := (⟨"com/example/vendace/vendace/localrecoding/DenseSet", "member", "(I)I"⟩ : MethodName)) (z := (⟨"com/example/vendace/vendace/localrecoding/DenseSet", "member", "(I)I"⟩ : MethodName)) hown (mvT hZ (hw _ (List.mem_of_getElem? (i := 31) rfl))) (mvT hZ (hw _ (List.mem_of_getElem? (i := 32) rfl))) (notFace_of_selects (args := #[]) (mvT hZ (hw _ (List.mem_of_getElem? (i := 34) rfl)))) (mvT hZ (hw _ (List.mem_of_getElem? (i := 34) rfl))) (mvT hZ (hw _ (List.mem_of_getElem? (i := 33) rfl))) (by decide) (backOf (W := 0) (rm6 l Z a0 hw [] b1 (3 : Int32) bm2 km2 zz Sv6.1 h n0 hsz DM DA ⟨by decide, own_lk hc283_25 hkz⟩) hZ (hw _ (List.mem_of_getElem? (i := 35) rfl)) (hw _ (List.mem_of_getElem? (i := 3) rfl)) (by decide) (by decide)) q27a q27c (g := (mkF m 294 #[.val (.int p1), .val (.int p2), .val (.int p3), .val (.int p4), .val (.int p5), .val (.int zz), .val (.int va), .val (.int vb), .val (.int vc), .val (.int vd), .val (.ref b1), .val (.ref b7), .val (.int kk), .val (.int (1 : Int32))] [(.int (3 : Int32)), (.ref b1)])) rfl (by rw [hml]; rfl) (Steps.refl _) (argsL := [(.int (3 : Int32))]) (rest := []) (lenOf pd_3 rfl) rfl (by show 2 * 0 + _ ≤ _; exact Nat.le_of_eq rfl) (hb hby at_294) (fun _ _ => ⟨rfl, hh22, (by decide : 4 + 0 ≤ _), (by decide : 39 + 0 ≤ _)⟩)
          dsimp only [Pt.U, Pt.locs, Pt.cells, Pt.slots] at X27 l27 y27 z27 st27 hQ27
          subst l27 y27 z27
          obtain ⟨rfl, Nq27, hh27⟩ := hQ27
          have N27 := Fr.app N22 Nq27
          refine own_via (fun t k => st27.trans k) ?_
          show own_G p.tables e below _ (T27.setTop (mkF m 297 #[.val (.int p1), .val (.int p2), .val (.int p3), .val (.int p4), .val (.int p5), .val (.int zz), .val (.int va), .val (.int vb), .val (.int vc), .val (.int vd), .val (.ref b1), .val (.ref b7), .val (.int kk), .val (.int (1 : Int32))] [(.int (Sv6.1.getD ((3 : Int32)).toNatClampNeg 0))]))
          refine own_via (S' := T27.setTop (mkF m 300 #[.val (.int p1), .val (.int p2), .val (.int p3), .val (.int p4), .val (.int p5), .val (.int zz), .val (.int va), .val (.int vb), .val (.int vc), .val (.int vd), .val (.ref b1), .val (.ref b7), .val (.int kk), .val (.int (1 : Int32))] [(.int (3 : Int32)), (.ref b7), (.int (Sv6.1.getD ((3 : Int32)).toNatClampNeg 0))])) (fun t k => ?_) ?_
          · show Steps p.tables e below (T27.setTop (mkF m 297 #[.val (.int p1), .val (.int p2), .val (.int p3), .val (.int p4), .val (.int p5), .val (.int zz), .val (.int va), .val (.int vb), .val (.int vc), .val (.int vd), .val (.ref b1), .val (.ref b7), .val (.int kk), .val (.int (1 : Int32))] [(.int (Sv6.1.getD ((3 : Int32)).toNatClampNeg 0))])) t
            refine XS.aload X27.here hx rfl (hb hby at_297) rfl rfl ?_
            show Steps p.tables e below (T27.setTop (mkF m 299 #[.val (.int p1), .val (.int p2), .val (.int p3), .val (.int p4), .val (.int p5), .val (.int zz), .val (.int va), .val (.int vb), .val (.int vc), .val (.int vd), .val (.ref b1), .val (.ref b7), .val (.int kk), .val (.int (1 : Int32))] [(.ref b7), (.int (Sv6.1.getD ((3 : Int32)).toNatClampNeg 0))])) t
            refine XS.iconst X27.here hx rfl (hb hby at_299) ?_
            exact k
          obtain ⟨⟨cl28, Ar28, q28, S28, Nn28, H28, G28⟩, Le28⟩ := id VE
          have hin28 : ¬ ((3 : Int32) < 0 ∨ cl28.slots.size ≤ ((3 : Int32)).toNatClampNeg) := inb_of S28 ⟨by decide, by decide⟩
          have hat28 : cl28.slots[((3 : Int32)).toNatClampNeg]? = some (.int (xe.getD ((3 : Int32)).toNatClampNeg 0)) := Has.at H28 hin28 (own_gI _ _)
          refine own_via (S' := T27.setTop (mkF m 301 #[.val (.int p1), .val (.int p2), .val (.int p3), .val (.int p4), .val (.int p5), .val (.int zz), .val (.int va), .val (.int vb), .val (.int vc), .val (.int vd), .val (.ref b1), .val (.ref b7), .val (.int kk), .val (.int (1 : Int32))] [(.int (xe.getD ((3 : Int32)).toNatClampNeg 0)), (.int (Sv6.1.getD ((3 : Int32)).toNatClampNeg 0))])) (fun t kz_ => X27.iaload hx (j := (3 : Int32)) (v := (.int (xe.getD ((3 : Int32)).toNatClampNeg 0))) (by rw [hh27]; exact Ar28.1) (State.isArrayOf_alike hZ.alike Ar28.2.1) Ar28.2.2 hin28 hat28 (g := (mkF m 300 #[.val (.int p1), .val (.int p2), .val (.int p3), .val (.int p4), .val (.int p5), .val (.int zz), .val (.int va), .val (.int vb), .val (.int vc), .val (.int vd), .val (.ref b1), .val (.ref b7), .val (.int kk), .val (.int (1 : Int32))] [(.int (3 : Int32)), (.ref b7), (.int (Sv6.1.getD ((3 : Int32)).toNatClampNeg 0))])) rfl rfl (hb hby at_300) _ kz_) ?_
          refine own_via (S' := T27.setTop (mkF m 304 #[.val (.int p1), .val (.int p2), .val (.int p3), .val (.int p4), .val (.int p5), .val (.int zz), .val (.int va), .val (.int vb), .val (.int vc), .val (.int vd), .val (.ref b1), .val (.ref b7), .val (.int kk), .val (.int (1 : Int32))] [])) (fun t k => XS.icmpNo (g := (mkF m 301 #[.val (.int p1), .val (.int p2), .val (.int p3), .val (.int p4), .val (.int p5), .val (.int zz), .val (.int va), .val (.int vb), .val (.int vc), .val (.int vd), .val (.ref b1), .val (.ref b7), .val (.int kk), .val (.int (1 : Int32))] [(.int (xe.getD ((3 : Int32)).toNatClampNeg 0)), (.int (Sv6.1.getD ((3 : Int32)).toNatClampNeg 0))])) X27.here hx rfl (hb hby at_301) rfl (teq (hfin.2 3 (by decide) hc283_25)).2 k) ?_
          refine own_via (S' := T27.setTop (mkF m 313 #[.val (.int p1), .val (.int p2), .val (.int p3), .val (.int p4), .val (.int p5), .val (.int zz), .val (.int va), .val (.int vb), .val (.int vc), .val (.int vd), .val (.ref b1), .val (.ref b7), .val (.int kk), .val (.int (1 : Int32))] [(.int (1 : Int32))])) (fun t k => ?_) ?_
          · show Steps p.tables e below (T27.setTop (mkF m 304 #[.val (.int p1), .val (.int p2), .val (.int p3), .val (.int p4), .val (.int p5), .val (.int zz), .val (.int va), .val (.int vb), .val (.int vc), .val (.int vd), .val (.ref b1), .val (.ref b7), .val (.int kk), .val (.int (1 : Int32))] [])) t
            refine XS.iconst X27.here hx rfl (hb hby at_304) ?_
            show Steps p.tables e below (T27.setTop (mkF m 305 #[.val (.int p1), .val (.int p2), .val (.int p3), .val (.int p4), .val (.int p5), .val (.int zz), .val (.int va), .val (.int vb), .val (.int vc), .val (.int vd), .val (.ref b1), .val (.ref b7), .val (.int kk), .val (.int (1 : Int32))] [(.int (1 : Int32))])) t
            refine XS.goto X27.here hx rfl (pc0 := 305) (pc' := 309) rfl (hb hby at_305) (by decide) (by decide) ?_
            show Steps p.tables e below (T27.setTop (mkF m 309 #[.val (.int p1), .val (.int p2), .val (.int p3), .val (.int p4), .val (.int p5), .val (.int zz), .val (.int va), .val (.int vb), .val (.int vc), .val (.int vd), .val (.ref b1), .val (.ref b7), .val (.int kk), .val (.int (1 : Int32))] [(.int (1 : Int32))])) t
            refine XS.istore X27.here hx rfl (hb hby at_309) rfl (l' := #[.val (.int p1), .val (.int p2), .val (.int p3), .val (.int p4), .val (.int p5), .val (.int zz), .val (.int va), .val (.int vb), .val (.int vc), .val (.int vd), .val (.ref b1), .val (.ref b7), .val (.int kk), .val (.int (1 : Int32))]) rfl ?_
            show Steps p.tables e below (T27.setTop (mkF m 311 #[.val (.int p1), .val (.int p2), .val (.int p3), .val (.int p4), .val (.int p5), .val (.int zz), .val (.int va), .val (.int vb), .val (.int vc), .val (.int vd), .val (.ref b1), .val (.ref b7), .val (.int kk), .val (.int (1 : Int32))] [])) t
            refine XS.iload X27.here hx rfl (hb hby at_311) rfl ?_
            exact k
          exact own_end (h := h) X27 (v := some (.int (1 : Int32))) Bd.notSynchronized (fun h => by rw [Bd.returns] at h; cases h) (fun fs hr => retN X27 hx (t := .boolean) Bd.returns (by simp) (hb hby at_313) hr) hh27 ⟨rfl, N27⟩ (by decide) (by decide)
        · refine own_via (S' := T22.setTop (mkF m 311 #[.val (.int p1), .val (.int p2), .val (.int p3), .val (.int p4), .val (.int p5), .val (.int zz), .val (.int va), .val (.int vb), .val (.int vc), .val (.int vd), .val (.ref b1), .val (.ref b7), .val (.int kk), .val (.int (1 : Int32))] [])) (fun t k => XS.icmpYes (g := (mkF m 283 #[.val (.int p1), .val (.int p2), .val (.int p3), .val (.int p4), .val (.int p5), .val (.int zz), .val (.int va), .val (.int vb), .val (.int vc), .val (.int vd), .val (.ref b1), .val (.ref b7), .val (.int kk), .val (.int (1 : Int32))] [(.int (3 : Int32)), (.int kk)])) X22.here hx rfl (pc0 := 283) (pc' := 311) rfl (hb hby at_283) rfl (flt hc283_25).2.2.2 (by decide) (by decide) k) ?_
          refine own_via (S' := T22.setTop (mkF m 313 #[.val (.int p1), .val (.int p2), .val (.int p3), .val (.int p4), .val (.int p5), .val (.int zz), .val (.int va), .val (.int vb), .val (.int vc), .val (.int vd), .val (.ref b1), .val (.ref b7), .val (.int kk), .val (.int (1 : Int32))] [(.int (1 : Int32))])) (fun t k => ?_) ?_
          · show Steps p.tables e below (T22.setTop (mkF m 311 #[.val (.int p1), .val (.int p2), .val (.int p3), .val (.int p4), .val (.int p5), .val (.int zz), .val (.int va), .val (.int vb), .val (.int vc), .val (.int vd), .val (.ref b1), .val (.ref b7), .val (.int kk), .val (.int (1 : Int32))] [])) t
            refine XS.iload X22.here hx rfl (hb hby at_311) rfl ?_
            exact k
          exact own_end (h := h) X22 (v := some (.int (1 : Int32))) Bd.notSynchronized (fun h => by rw [Bd.returns] at h; cases h) (fun fs hr => retN X22 hx (t := .boolean) Bd.returns (by simp) (hb hby at_313) hr) hh22 ⟨rfl, N22⟩ (by decide) (by decide)
      · refine own_via (S' := T17.setTop (mkF m 280 #[.val (.int p1), .val (.int p2), .val (.int p3), .val (.int p4), .val (.int p5), .val (.int zz), .val (.int va), .val (.int vb), .val (.int vc), .val (.int vd), .val (.ref b1), .val (.ref b7), .val (.int kk), .val (.int (1 : Int32))] [])) (fun t k => XS.icmpYes (g := (mkF m 252 #[.val (.int p1), .val (.int p2), .val (.int p3), .val (.int p4), .val (.int p5), .val (.int zz), .val (.int va), .val (.int vb), .val (.int vc), .val (.int vd), .val (.ref b1), .val (.ref b7), .val (.int kk), .val (.int (1 : Int32))] [(.int (2 : Int32)), (.int kk)])) X17.here hx rfl (pc0 := 252) (pc' := 280) rfl (hb hby at_252) rfl (flt hc252_20).2.2.2 (by decide) (by decide) k) ?_
        refine own_via (S' := T17.setTop (mkF m 283 #[.val (.int p1), .val (.int p2), .val (.int p3), .val (.int p4), .val (.int p5), .val (.int zz), .val (.int va), .val (.int vb), .val (.int vc), .val (.int vd), .val (.ref b1), .val (.ref b7), .val (.int kk), .val (.int (1 : Int32))] [(.int (3 : Int32)), (.int kk)])) (fun t k => ?_) ?_
        · show Steps p.tables e below (T17.setTop (mkF m 280 #[.val (.int p1), .val (.int p2), .val (.int p3), .val (.int p4), .val (.int p5), .val (.int zz), .val (.int va), .val (.int vb), .val (.int vc), .val (.int vd), .val (.ref b1), .val (.ref b7), .val (.int kk), .val (.int (1 : Int32))] [])) t
          refine XS.iload X17.here hx rfl (hb hby at_280) rfl ?_
          show Steps p.tables e below (T17.setTop (mkF m 282 #[.val (.int p1), .val (.int p2), .val (.int p3), .val (.int p4), .val (.int p5), .val (.int zz), .val (.int va), .val (.int vb), .val (.int vc), .val (.int vd), .val (.ref b1), .val (.ref b7), .val (.int kk), .val (.int (1 : Int32))] [(.int kk)])) t
          refine XS.iconst X17.here hx rfl (hb hby at_282) ?_
          exact k
        refine own_via (S' := T17.setTop (mkF m 311 #[.val (.int p1), .val (.int p2), .val (.int p3), .val (.int p4), .val (.int p5), .val (.int zz), .val (.int va), .val (.int vb), .val (.int vc), .val (.int vd), .val (.ref b1), .val (.ref b7), .val (.int kk), .val (.int (1 : Int32))] [])) (fun t k => XS.icmpYes (g := (mkF m 283 #[.val (.int p1), .val (.int p2), .val (.int p3), .val (.int p4), .val (.int p5), .val (.int zz), .val (.int va), .val (.int vb), .val (.int vc), .val (.int vd), .val (.ref b1), .val (.ref b7), .val (.int kk), .val (.int (1 : Int32))] [(.int (3 : Int32)), (.int kk)])) X17.here hx rfl (pc0 := 283) (pc' := 311) rfl (hb hby at_283) rfl (flt (by grind)).2.2.2 (by decide) (by decide) k) ?_
        refine own_via (S' := T17.setTop (mkF m 313 #[.val (.int p1), .val (.int p2), .val (.int p3), .val (.int p4), .val (.int p5), .val (.int zz), .val (.int va), .val (.int vb), .val (.int vc), .val (.int vd), .val (.ref b1), .val (.ref b7), .val (.int kk), .val (.int (1 : Int32))] [(.int (1 : Int32))])) (fun t k => ?_) ?_
        · show Steps p.tables e below (T17.setTop (mkF m 311 #[.val (.int p1), .val (.int p2), .val (.int p3), .val (.int p4), .val (.int p5), .val (.int zz), .val (.int va), .val (.int vb), .val (.int vc), .val (.int vd), .val (.ref b1), .val (.ref b7), .val (.int kk), .val (.int (1 : Int32))] [])) t
          refine XS.iload X17.here hx rfl (hb hby at_311) rfl ?_
          exact k
        exact own_end (h := h) X17 (v := some (.int (1 : Int32))) Bd.notSynchronized (fun h => by rw [Bd.returns] at h; cases h) (fun fs hr => retN X17 hx (t := .boolean) Bd.returns (by simp) (hb hby at_313) hr) hh17 ⟨rfl, N17⟩ (by decide) (by decide)
    · refine own_via (S' := T12.setTop (mkF m 249 #[.val (.int p1), .val (.int p2), .val (.int p3), .val (.int p4), .val (.int p5), .val (.int zz), .val (.int va), .val (.int vb), .val (.int vc), .val (.int vd), .val (.ref b1), .val (.ref b7), .val (.int kk), .val (.int (1 : Int32))] [])) (fun t k => XS.icmpYes (g := (mkF m 221 #[.val (.int p1), .val (.int p2), .val (.int p3), .val (.int p4), .val (.int p5), .val (.int zz), .val (.int va), .val (.int vb), .val (.int vc), .val (.int vd), .val (.ref b1), .val (.ref b7), .val (.int kk), .val (.int (1 : Int32))] [(.int (1 : Int32)), (.int kk)])) X12.here hx rfl (pc0 := 221) (pc' := 249) rfl (hb hby at_221) rfl (flt hc221_15).2.2.2 (by decide) (by decide) k) ?_
      refine own_via (S' := T12.setTop (mkF m 252 #[.val (.int p1), .val (.int p2), .val (.int p3), .val (.int p4), .val (.int p5), .val (.int zz), .val (.int va), .val (.int vb), .val (.int vc), .val (.int vd), .val (.ref b1), .val (.ref b7), .val (.int kk), .val (.int (1 : Int32))] [(.int (2 : Int32)), (.int kk)])) (fun t k => ?_) ?_
      · show Steps p.tables e below (T12.setTop (mkF m 249 #[.val (.int p1), .val (.int p2), .val (.int p3), .val (.int p4), .val (.int p5), .val (.int zz), .val (.int va), .val (.int vb), .val (.int vc), .val (.int vd), .val (.ref b1), .val (.ref b7), .val (.int kk), .val (.int (1 : Int32))] [])) t
        refine XS.iload X12.here hx rfl (hb hby at_249) rfl ?_
        show Steps p.tables e below (T12.setTop (mkF m 251 #[.val (.int p1), .val (.int p2), .val (.int p3), .val (.int p4), .val (.int p5), .val (.int zz), .val (.int va), .val (.int vb), .val (.int vc), .val (.int vd), .val (.ref b1), .val (.ref b7), .val (.int kk), .val (.int (1 : Int32))] [(.int kk)])) t
        refine XS.iconst X12.here hx rfl (hb hby at_251) ?_
        exact k
      refine own_via (S' := T12.setTop (mkF m 280 #[.val (.int p1), .val (.int p2), .val (.int p3), .val (.int p4), .val (.int p5), .val (.int zz), .val (.int va), .val (.int vb), .val (.int vc), .val (.int vd), .val (.ref b1), .val (.ref b7), .val (.int kk), .val (.int (1 : Int32))] [])) (fun t k => XS.icmpYes (g := (mkF m 252 #[.val (.int p1), .val (.int p2), .val (.int p3), .val (.int p4), .val (.int p5), .val (.int zz), .val (.int va), .val (.int vb), .val (.int vc), .val (.int vd), .val (.ref b1), .val (.ref b7), .val (.int kk), .val (.int (1 : Int32))] [(.int (2 : Int32)), (.int kk)])) X12.here hx rfl (pc0 := 252) (pc' := 280) rfl (hb hby at_252) rfl (flt (by grind)).2.2.2 (by decide) (by decide) k) ?_
      refine own_via (S' := T12.setTop (mkF m 283 #[.val (.int p1), .val (.int p2), .val (.int p3), .val (.int p4), .val (.int p5), .val (.int zz), .val (.int va), .val (.int vb), .val (.int vc), .val (.int vd), .val (.ref b1), .val (.ref b7), .val (.int kk), .val (.int (1 : Int32))] [(.int (3 : Int32)), (.int kk)])) (fun t k => ?_) ?_
      · show Steps p.tables e below (T12.setTop (mkF m 280 #[.val (.int p1), .val (.int p2), .val (.int p3), .val (.int p4), .val (.int p5), .val (.int zz), .val (.int va), .val (.int vb), .val (.int vc), .val (.int vd), .val (.ref b1), .val (.ref b7), .val (.int kk), .val (.int (1 : Int32))] [])) t
        refine XS.iload X12.here hx rfl (hb hby at_280) rfl ?_
        show Steps p.tables e below (T12.setTop (mkF m 282 #[.val (.int p1), .val (.int p2), .val (.int p3), .val (.int p4), .val (.int p5), .val (.int zz), .val (.int va), .val (.int vb), .val (.int vc), .val (.int vd), .val (.ref b1), .val (.ref b7), .val (.int kk), .val (.int (1 : Int32))] [(.int kk)])) t
        refine XS.iconst X12.here hx rfl (hb hby at_282) ?_
        exact k
      refine own_via (S' := T12.setTop (mkF m 311 #[.val (.int p1), .val (.int p2), .val (.int p3), .val (.int p4), .val (.int p5), .val (.int zz), .val (.int va), .val (.int vb), .val (.int vc), .val (.int vd), .val (.ref b1), .val (.ref b7), .val (.int kk), .val (.int (1 : Int32))] [])) (fun t k => XS.icmpYes (g := (mkF m 283 #[.val (.int p1), .val (.int p2), .val (.int p3), .val (.int p4), .val (.int p5), .val (.int zz), .val (.int va), .val (.int vb), .val (.int vc), .val (.int vd), .val (.ref b1), .val (.ref b7), .val (.int kk), .val (.int (1 : Int32))] [(.int (3 : Int32)), (.int kk)])) X12.here hx rfl (pc0 := 283) (pc' := 311) rfl (hb hby at_283) rfl (flt (by grind)).2.2.2 (by decide) (by decide) k) ?_
      refine own_via (S' := T12.setTop (mkF m 313 #[.val (.int p1), .val (.int p2), .val (.int p3), .val (.int p4), .val (.int p5), .val (.int zz), .val (.int va), .val (.int vb), .val (.int vc), .val (.int vd), .val (.ref b1), .val (.ref b7), .val (.int kk), .val (.int (1 : Int32))] [(.int (1 : Int32))])) (fun t k => ?_) ?_
      · show Steps p.tables e below (T12.setTop (mkF m 311 #[.val (.int p1), .val (.int p2), .val (.int p3), .val (.int p4), .val (.int p5), .val (.int zz), .val (.int va), .val (.int vb), .val (.int vc), .val (.int vd), .val (.ref b1), .val (.ref b7), .val (.int kk), .val (.int (1 : Int32))] [])) t
        refine XS.iload X12.here hx rfl (hb hby at_311) rfl ?_
        exact k
      exact own_end (h := h) X12 (v := some (.int (1 : Int32))) Bd.notSynchronized (fun h => by rw [Bd.returns] at h; cases h) (fun fs hr => retN X12 hx (t := .boolean) Bd.returns (by simp) (hb hby at_313) hr) hh12 ⟨rfl, N12⟩ (by decide) (by decide)
  refine own_via (S' := T8.setTop (mkF m 109 #[.val (.int p1), .val (.int p2), .val (.int p3), .val (.int p4), .val (.int p5), .val (.int zz), .val (.int va), .val (.int vb), .val (.int vc), .val (.int vd), .val (.ref b1), .val (.ref b7), .val (.int (1 : Int32)), .unset] [(.int va), (.int vb)])) (fun t k => ?_) ?_
  · show Steps p.tables e below (T8.setTop (mkF m 105 #[.val (.int p1), .val (.int p2), .val (.int p3), .val (.int p4), .val (.int p5), .val (.int zz), .val (.int va), .val (.int vb), .val (.int vc), .val (.int vd), .val (.ref b1), .val (.ref b7), .val (.int (1 : Int32)), .unset] [])) t
    refine XS.iload X8.here hx rfl (hb hby at_105) rfl ?_
    show Steps p.tables e below (T8.setTop (mkF m 107 #[.val (.int p1), .val (.int p2), .val (.int p3), .val (.int p4), .val (.int p5), .val (.int zz), .val (.int va), .val (.int vb), .val (.int vc), .val (.int vd), .val (.ref b1), .val (.ref b7), .val (.int (1 : Int32)), .unset] [(.int vb)])) t
    refine XS.iload X8.here hx rfl (hb hby at_107) rfl ?_
    exact k
  by_cases hc109_33 : vb = va
  · refine own_via (S' := T8.setTop (mkF m 125 #[.val (.int p1), .val (.int p2), .val (.int p3), .val (.int p4), .val (.int p5), .val (.int zz), .val (.int va), .val (.int vb), .val (.int vc), .val (.int vd), .val (.ref b1), .val (.ref b7), .val (.int (1 : Int32)), .unset] [])) (fun t k => XS.icmpYes (g := (mkF m 109 #[.val (.int p1), .val (.int p2), .val (.int p3), .val (.int p4), .val (.int p5), .val (.int zz), .val (.int va), .val (.int vb), .val (.int vc), .val (.int vd), .val (.ref b1), .val (.ref b7), .val (.int (1 : Int32)), .unset] [(.int va), (.int vb)])) X8.here hx rfl (pc0 := 109) (pc' := 125) rfl (hb hby at_109) rfl (teq hc109_33).1 (by decide) (by decide) k) ?_
    refine own_via (S' := T8.setTop (mkF m 129 #[.val (.int p1), .val (.int p2), .val (.int p3), .val (.int p4), .val (.int p5), .val (.int zz), .val (.int va), .val (.int vb), .val (.int vc), .val (.int vd), .val (.ref b1), .val (.ref b7), .val (.int (1 : Int32)), .unset] [(.int va), (.int vc)])) (fun t k => ?_) ?_
    · show Steps p.tables e below (T8.setTop (mkF m 125 #[.val (.int p1), .val (.int p2), .val (.int p3), .val (.int p4), .val (.int p5), .val (.int zz), .val (.int va), .val (.int vb), .val (.int vc), .val (.int vd), .val (.ref b1), .val (.ref b7), .val (.int (1 : Int32)), .unset] [])) t
      refine XS.iload X8.here hx rfl (hb hby at_125) rfl ?_
      show Steps p.tables e below (T8.setTop (mkF m 127 #[.val (.int p1), .val (.int p2), .val (.int p3), .val (.int p4), .val (.int p5), .val (.int zz), .val (.int va), .val (.int vb), .val (.int vc), .val (.int vd), .val (.ref b1), .val (.ref b7), .val (.int (1 : Int32)), .unset] [(.int vc)])) t
      refine XS.iload X8.here hx rfl (hb hby at_127) rfl ?_
      exact k
    by_cases hc129_34 : vc = va
    · refine own_via (S' := T8.setTop (mkF m 152 #[.val (.int p1), .val (.int p2), .val (.int p3), .val (.int p4), .val (.int p5), .val (.int zz), .val (.int va), .val (.int vb), .val (.int vc), .val (.int vd), .val (.ref b1), .val (.ref b7), .val (.int (1 : Int32)), .unset] [])) (fun t k => XS.icmpYes (g := (mkF m 129 #[.val (.int p1), .val (.int p2), .val (.int p3), .val (.int p4), .val (.int p5), .val (.int zz), .val (.int va), .val (.int vb), .val (.int vc), .val (.int vd), .val (.ref b1), .val (.ref b7), .val (.int (1 : Int32)), .unset] [(.int va), (.int vc)])) X8.here hx rfl (pc0 := 129) (pc' := 152) rfl (hb hby at_129) rfl (teq hc129_34).1 (by decide) (by decide) k) ?_
      refine own_via (S' := T8.setTop (mkF m 156 #[.val (.int p1), .val (.int p2), .val (.int p3), .val (.int p4), .val (.int p5), .val (.int zz), .val (.int va), .val (.int vb), .val (.int vc), .val (.int vd), .val (.ref b1), .val (.ref b7), .val (.int (1 : Int32)), .unset] [(.int va), (.int vd)])) (fun t k => ?_) ?_
      · show Steps p.tables e below (T8.setTop (mkF m 152 #[.val (.int p1), .val (.int p2), .val (.int p3), .val (.int p4), .val (.int p5), .val (.int zz), .val (.int va), .val (.int vb), .val (.int vc), .val (.int vd), .val (.ref b1), .val (.ref b7), .val (.int (1 : Int32)), .unset] [])) t
        refine XS.iload X8.here hx rfl (hb hby at_152) rfl ?_
        show Steps p.tables e below (T8.setTop (mkF m 154 #[.val (.int p1), .val (.int p2), .val (.int p3), .val (.int p4), .val (.int p5), .val (.int zz), .val (.int va), .val (.int vb), .val (.int vc), .val (.int vd), .val (.ref b1), .val (.ref b7), .val (.int (1 : Int32)), .unset] [(.int vd)])) t
        refine XS.iload X8.here hx rfl (hb hby at_154) rfl ?_
        exact k
      by_cases hc156_35 : vd = va
      · refine own_via (S' := T8.setTop (mkF m 186 #[.val (.int p1), .val (.int p2), .val (.int p3), .val (.int p4), .val (.int p5), .val (.int zz), .val (.int va), .val (.int vb), .val (.int vc), .val (.int vd), .val (.ref b1), .val (.ref b7), .val (.int (1 : Int32)), .unset] [])) (fun t k => XS.icmpYes (g := (mkF m 156 #[.val (.int p1), .val (.int p2), .val (.int p3), .val (.int p4), .val (.int p5), .val (.int zz), .val (.int va), .val (.int vb), .val (.int vc), .val (.int vd), .val (.ref b1), .val (.ref b7), .val (.int (1 : Int32)), .unset] [(.int va), (.int vd)])) X8.here hx rfl (pc0 := 156) (pc' := 186) rfl (hb hby at_156) rfl (teq hc156_35).1 (by decide) (by decide) k) ?_
        have hW36 : (own_ins (own_ins (own_ins [va] vb) vc) vd) = [va] := by simp [own_ins, hc109_33, hc129_34, hc156_35]
        have hJ36 := hI
        rw [hW36] at hJ36
        have c37 := (Exa.wr W8 (Exa.ext E7 DE6))
        have c38 := (Fld.other W8 (Fld.ext E7 DM6) (Or.inl ne_b1_b7))
        have c39 := (Fld.other W8 (Fld.ext E7 DP6) (Or.inl ne_b1_b7))
        have c40 := (Fld.other W8 (Fld.ext E7 DZ6) (Or.inl ne_b1_b7))
        have c41 := (own_Ar.other (own_Ar.ext DA6 E7) W8 ne_bm2_b7)
        have c42 := (own_Ar.other (own_Ar.ext DB6 E7) W8 ne_bp2_b7)
        exact J _ _ _ _ _ N9 X8 e8 (Nat.le_trans Z0 K9.1) ⟨c37, c38, c39, c40, c41, c42⟩ V8 (own_done zz _ _ hJ36 (1 : Int32) rfl _ (by
            intro i hi
            have hi2 : i = 0 := by simp at hi; omega
            rcases hi2 with rfl <;> rfl)) (own_z zz _ _ hJ36 (1 : Int32) rfl) (by decide)
      · refine own_via (S' := T8.setTop (mkF m 159 #[.val (.int p1), .val (.int p2), .val (.int p3), .val (.int p4), .val (.int p5), .val (.int zz), .val (.int va), .val (.int vb), .val (.int vc), .val (.int vd), .val (.ref b1), .val (.ref b7), .val (.int (1 : Int32)), .unset] [])) (fun t k => XS.icmpNo (g := (mkF m 156 #[.val (.int p1), .val (.int p2), .val (.int p3), .val (.int p4), .val (.int p5), .val (.int zz), .val (.int va), .val (.int vb), .val (.int vc), .val (.int vd), .val (.ref b1), .val (.ref b7), .val (.int (1 : Int32)), .unset] [(.int va), (.int vd)])) X8.here hx rfl (hb hby at_156) rfl (feq hc156_35).1 k) ?_
        refine own_via (S' := T8.setTop (mkF m 163 #[.val (.int p1), .val (.int p2), .val (.int p3), .val (.int p4), .val (.int p5), .val (.int zz), .val (.int va), .val (.int vb), .val (.int vc), .val (.int vd), .val (.ref b1), .val (.ref b7), .val (.int (1 : Int32)), .unset] [(.int vb), (.int vd)])) (fun t k => ?_) ?_
        · show Steps p.tables e below (T8.setTop (mkF m 159 #[.val (.int p1), .val (.int p2), .val (.int p3), .val (.int p4), .val (.int p5), .val (.int zz), .val (.int va), .val (.int vb), .val (.int vc), .val (.int vd), .val (.ref b1), .val (.ref b7), .val (.int (1 : Int32)), .unset] [])) t
          refine XS.iload X8.here hx rfl (hb hby at_159) rfl ?_
          show Steps p.tables e below (T8.setTop (mkF m 161 #[.val (.int p1), .val (.int p2), .val (.int p3), .val (.int p4), .val (.int p5), .val (.int zz), .val (.int va), .val (.int vb), .val (.int vc), .val (.int vd), .val (.ref b1), .val (.ref b7), .val (.int (1 : Int32)), .unset] [(.int vd)])) t
          refine XS.iload X8.here hx rfl (hb hby at_161) rfl ?_
          exact k
        refine own_via (S' := T8.setTop (mkF m 166 #[.val (.int p1), .val (.int p2), .val (.int p3), .val (.int p4), .val (.int p5), .val (.int zz), .val (.int va), .val (.int vb), .val (.int vc), .val (.int vd), .val (.ref b1), .val (.ref b7), .val (.int (1 : Int32)), .unset] [])) (fun t k => XS.icmpNo (g := (mkF m 163 #[.val (.int p1), .val (.int p2), .val (.int p3), .val (.int p4), .val (.int p5), .val (.int zz), .val (.int va), .val (.int vb), .val (.int vc), .val (.int vd), .val (.ref b1), .val (.ref b7), .val (.int (1 : Int32)), .unset] [(.int vb), (.int vd)])) X8.here hx rfl (hb hby at_163) rfl (feq (by grind)).1 k) ?_
        refine own_via (S' := T8.setTop (mkF m 170 #[.val (.int p1), .val (.int p2), .val (.int p3), .val (.int p4), .val (.int p5), .val (.int zz), .val (.int va), .val (.int vb), .val (.int vc), .val (.int vd), .val (.ref b1), .val (.ref b7), .val (.int (1 : Int32)), .unset] [(.int vc), (.int vd)])) (fun t k => ?_) ?_
        · show Steps p.tables e below (T8.setTop (mkF m 166 #[.val (.int p1), .val (.int p2), .val (.int p3), .val (.int p4), .val (.int p5), .val (.int zz), .val (.int va), .val (.int vb), .val (.int vc), .val (.int vd), .val (.ref b1), .val (.ref b7), .val (.int (1 : Int32)), .unset] [])) t
          refine XS.iload X8.here hx rfl (hb hby at_166) rfl ?_
          show Steps p.tables e below (T8.setTop (mkF m 168 #[.val (.int p1), .val (.int p2), .val (.int p3), .val (.int p4), .val (.int p5), .val (.int zz), .val (.int va), .val (.int vb), .val (.int vc), .val (.int vd), .val (.ref b1), .val (.ref b7), .val (.int (1 : Int32)), .unset] [(.int vd)])) t
          refine XS.iload X8.here hx rfl (hb hby at_168) rfl ?_
          exact k
        refine own_via (S' := T8.setTop (mkF m 173 #[.val (.int p1), .val (.int p2), .val (.int p3), .val (.int p4), .val (.int p5), .val (.int zz), .val (.int va), .val (.int vb), .val (.int vc), .val (.int vd), .val (.ref b1), .val (.ref b7), .val (.int (1 : Int32)), .unset] [])) (fun t k => XS.icmpNo (g := (mkF m 170 #[.val (.int p1), .val (.int p2), .val (.int p3), .val (.int p4), .val (.int p5), .val (.int zz), .val (.int va), .val (.int vb), .val (.int vc), .val (.int vd), .val (.ref b1), .val (.ref b7), .val (.int (1 : Int32)), .unset] [(.int vc), (.int vd)])) X8.here hx rfl (hb hby at_170) rfl (feq (by grind)).1 k) ?_
        refine own_via (S' := T8.setTop (mkF m 179 #[.val (.int p1), .val (.int p2), .val (.int p3), .val (.int p4), .val (.int p5), .val (.int zz), .val (.int va), .val (.int vb), .val (.int vc), .val (.int vd), .val (.ref b1), .val (.ref b7), .val (.int (1 : Int32)), .unset] [(.int vd), (.int (1 : Int32)), (.ref b7)])) (fun t k => ?_) ?_
        · show Steps p.tables e below (T8.setTop (mkF m 173 #[.val (.int p1), .val (.int p2), .val (.int p3), .val (.int p4), .val (.int p5), .val (.int zz), .val (.int va), .val (.int vb), .val (.int vc), .val (.int vd), .val (.ref b1), .val (.ref b7), .val (.int (1 : Int32)), .unset] [])) t
          refine XS.aload X8.here hx rfl (hb hby at_173) rfl rfl ?_
          show Steps p.tables e below (T8.setTop (mkF m 175 #[.val (.int p1), .val (.int p2), .val (.int p3), .val (.int p4), .val (.int p5), .val (.int zz), .val (.int va), .val (.int vb), .val (.int vc), .val (.int vd), .val (.ref b1), .val (.ref b7), .val (.int (1 : Int32)), .unset] [(.ref b7)])) t
          refine XS.iload X8.here hx rfl (hb hby at_175) rfl ?_
          show Steps p.tables e below (T8.setTop (mkF m 177 #[.val (.int p1), .val (.int p2), .val (.int p3), .val (.int p4), .val (.int p5), .val (.int zz), .val (.int va), .val (.int vb), .val (.int vc), .val (.int vd), .val (.ref b1), .val (.ref b7), .val (.int (1 : Int32)), .unset] [(.int (1 : Int32)), (.ref b7)])) t
          refine XS.iload X8.here hx rfl (hb hby at_177) rfl ?_
          exact k
        obtain ⟨⟨cl45, Ar45, q45, S45, Nn45, H45, G45⟩, Le45⟩ := id V8
        have hin45 : ¬ ((1 : Int32) < 0 ∨ cl45.slots.size ≤ ((1 : Int32)).toNatClampNeg) := inb_of S45 ⟨by decide, by decide⟩
        obtain ⟨T45, h45, X45, e45, W45, st45⟩ := stI X8 hx hZ e8 Ar45 (j := (1 : Int32)) hin45 (g := (mkF m 179 #[.val (.int p1), .val (.int p2), .val (.int p3), .val (.int p4), .val (.int p5), .val (.int zz), .val (.int va), .val (.int vb), .val (.int vc), .val (.int vd), .val (.ref b1), .val (.ref b7), .val (.int (1 : Int32)), .unset] [(.int vd), (.int (1 : Int32)), (.ref b7)])) rfl rfl (hb hby at_179)
        have V45 : own_Ar Z h45 b7 k7 .int (4 : Int32) (List.map Value.int (((List.replicate ((4 : Int32)).toNatClampNeg (0 : Int32)).set ((0 : Int32)).toNatClampNeg va).set ((1 : Int32)).toNatClampNeg vd)) (.int (0 : Int32)) := own_Ar.setI Ar45 q45 S45 Nn45 H45 G45 rfl W45 hin45 Le45
        have K46 : Keep h0 h45 [] := Keep.wr K9 W45 (Or.inr sz_b7)
        have N46 := Fr.snoc X45 N9 g_b7
        refine own_via st45 ?_
        show own_G p.tables e below _ (T45.setTop (mkF m 180 #[.val (.int p1), .val (.int p2), .val (.int p3), .val (.int p4), .val (.int p5), .val (.int zz), .val (.int va), .val (.int vb), .val (.int vc), .val (.int vd), .val (.ref b1), .val (.ref b7), .val (.int (1 : Int32)), .unset] []))
        refine own_via (S' := T45.setTop (mkF m 186 #[.val (.int p1), .val (.int p2), .val (.int p3), .val (.int p4), .val (.int p5), .val (.int zz), .val (.int va), .val (.int vb), .val (.int vc), .val (.int vd), .val (.ref b1), .val (.ref b7), .val (.int (2 : Int32)), .unset] [])) (fun t k => ?_) ?_
        · show Steps p.tables e below (T45.setTop (mkF m 180 #[.val (.int p1), .val (.int p2), .val (.int p3), .val (.int p4), .val (.int p5), .val (.int zz), .val (.int va), .val (.int vb), .val (.int vc), .val (.int vd), .val (.ref b1), .val (.ref b7), .val (.int (1 : Int32)), .unset] [])) t
          refine XS.iload X45.here hx rfl (hb hby at_180) rfl ?_
          show Steps p.tables e below (T45.setTop (mkF m 182 #[.val (.int p1), .val (.int p2), .val (.int p3), .val (.int p4), .val (.int p5), .val (.int zz), .val (.int va), .val (.int vb), .val (.int vc), .val (.int vd), .val (.ref b1), .val (.ref b7), .val (.int (1 : Int32)), .unset] [(.int (1 : Int32))])) t
          refine XS.iconst X45.here hx rfl (hb hby at_182) ?_
          show Steps p.tables e below (T45.setTop (mkF m 183 #[.val (.int p1), .val (.int p2), .val (.int p3), .val (.int p4), .val (.int p5), .val (.int zz), .val (.int va), .val (.int vb), .val (.int vc), .val (.int vd), .val (.ref b1), .val (.ref b7), .val (.int (1 : Int32)), .unset] [(.int (1 : Int32)), (.int (1 : Int32))])) t
          refine XS.iadd X45.here hx rfl (hb hby at_183) rfl ?_
          show Steps p.tables e below (T45.setTop (mkF m 184 #[.val (.int p1), .val (.int p2), .val (.int p3), .val (.int p4), .val (.int p5), .val (.int zz), .val (.int va), .val (.int vb), .val (.int vc), .val (.int vd), .val (.ref b1), .val (.ref b7), .val (.int (1 : Int32)), .unset] [(.int (2 : Int32))])) t
          refine XS.istore X45.here hx rfl (hb hby at_184) rfl (l' := #[.val (.int p1), .val (.int p2), .val (.int p3), .val (.int p4), .val (.int p5), .val (.int zz), .val (.int va), .val (.int vb), .val (.int vc), .val (.int vd), .val (.ref b1), .val (.ref b7), .val (.int (2 : Int32)), .unset]) rfl ?_
          exact k
        have hW47 : (own_ins (own_ins (own_ins [va] vb) vc) vd) = [va, vd] := by simp [own_ins, hc109_33, hc129_34, hc156_35]
        have hJ47 := hI
        rw [hW47] at hJ47
        have c48 := (Exa.wr W45 (Exa.wr W8 (Exa.ext E7 DE6)))
        have c49 := (Fld.other W45 (Fld.other W8 (Fld.ext E7 DM6) (Or.inl ne_b1_b7)) (Or.inl ne_b1_b7))
        have c50 := (Fld.other W45 (Fld.other W8 (Fld.ext E7 DP6) (Or.inl ne_b1_b7)) (Or.inl ne_b1_b7))
        have c51 := (Fld.other W45 (Fld.other W8 (Fld.ext E7 DZ6) (Or.inl ne_b1_b7)) (Or.inl ne_b1_b7))
        have c52 := (own_Ar.other (own_Ar.other (own_Ar.ext DA6 E7) W8 ne_bm2_b7) W45 ne_bm2_b7)
        have c53 := (own_Ar.other (own_Ar.other (own_Ar.ext DB6 E7) W8 ne_bp2_b7) W45 ne_bp2_b7)
        exact J _ _ _ _ _ N46 X45 e45 (Nat.le_trans Z0 K46.1) ⟨c48, c49, c50, c51, c52, c53⟩ V45 (own_done zz _ _ hJ47 (2 : Int32) rfl _ (by
            intro i hi
            have hi2 : i = 0 ∨ i = 1 := by simp at hi; omega
            rcases hi2 with rfl | rfl <;> rfl)) (own_z zz _ _ hJ47 (2 : Int32) rfl) (by decide)
    · refine own_via (S' := T8.setTop (mkF m 132 #[.val (.int p1), .val (.int p2), .val (.int p3), .val (.int p4), .val (.int p5), .val (.int zz), .val (.int va), .val (.int vb), .val (.int vc), .val (.int vd), .val (.ref b1), .val (.ref b7), .val (.int (1 : Int32)), .unset] [])) (fun t k => XS.icmpNo (g := (mkF m 129 #[.val (.int p1), .val (.int p2), .val (.int p3), .val (.int p4), .val (.int p5), .val (.int zz), .val (.int va), .val (.int vb), .val (.int vc), .val (.int vd), .val (.ref b1), .val (.ref b7), .val (.int (1 : Int32)), .unset] [(.int va), (.int vc)])) X8.here hx rfl (hb hby at_129) rfl (feq hc129_34).1 k) ?_
      refine own_via (S' := T8.setTop (mkF m 136 #[.val (.int p1), .val (.int p2), .val (.int p3), .val (.int p4), .val (.int p5), .val (.int zz), .val (.int va), .val (.int vb), .val (.int vc), .val (.int vd), .val (.ref b1), .val (.ref b7), .val (.int (1 : Int32)), .unset] [(.int vb), (.int vc)])) (fun t k => ?_) ?_
      · show Steps p.tables e below (T8.setTop (mkF m 132 #[.val (.int p1), .val (.int p2), .val (.int p3), .val (.int p4), .val (.int p5), .val (.int zz), .val (.int va), .val (.int vb), .val (.int vc), .val (.int vd), .val (.ref b1), .val (.ref b7), .val (.int (1 : Int32)), .unset] [])) t
        refine XS.iload X8.here hx rfl (hb hby at_132) rfl ?_
        show Steps p.tables e below (T8.setTop (mkF m 134 #[.val (.int p1), .val (.int p2), .val (.int p3), .val (.int p4), .val (.int p5), .val (.int zz), .val (.int va), .val (.int vb), .val (.int vc), .val (.int vd), .val (.ref b1), .val (.ref b7), .val (.int (1 : Int32)), .unset] [(.int vc)])) t
        refine XS.iload X8.here hx rfl (hb hby at_134) rfl ?_
        exact k
      refine own_via (S' := T8.setTop (mkF m 139 #[.val (.int p1), .val (.int p2), .val (.int p3), .val (.int p4), .val (.int p5), .val (.int zz), .val (.int va), .val (.int vb), .val (.int vc), .val (.int vd), .val (.ref b1), .val (.ref b7), .val (.int (1 : Int32)), .unset] [])) (fun t k => XS.icmpNo (g := (mkF m 136 #[.val (.int p1), .val (.int p2), .val (.int p3), .val (.int p4), .val (.int p5), .val (.int zz), .val (.int va), .val (.int vb), .val (.int vc), .val (.int vd), .val (.ref b1), .val (.ref b7), .val (.int (1 : Int32)), .unset] [(.int vb), (.int vc)])) X8.here hx rfl (hb hby at_136) rfl (feq (by grind)).1 k) ?_
      refine own_via (S' := T8.setTop (mkF m 145 #[.val (.int p1), .val (.int p2), .val (.int p3), .val (.int p4), .val (.int p5), .val (.int zz), .val (.int va), .val (.int vb), .val (.int vc), .val (.int vd), .val (.ref b1), .val (.ref b7), .val (.int (1 : Int32)), .unset] [(.int vc), (.int (1 : Int32)), (.ref b7)])) (fun t k => ?_) ?_
      · show Steps p.tables e below (T8.setTop (mkF m 139 #[.val (.int p1), .val (.int p2), .val (.int p3), .val (.int p4), .val (.int p5), .val (.int zz), .val (.int va), .val (.int vb), .val (.int vc), .val (.int vd), .val (.ref b1), .val (.ref b7), .val (.int (1 : Int32)), .unset] [])) t
        refine XS.aload X8.here hx rfl (hb hby at_139) rfl rfl ?_
        show Steps p.tables e below (T8.setTop (mkF m 141 #[.val (.int p1), .val (.int p2), .val (.int p3), .val (.int p4), .val (.int p5), .val (.int zz), .val (.int va), .val (.int vb), .val (.int vc), .val (.int vd), .val (.ref b1), .val (.ref b7), .val (.int (1 : Int32)), .unset] [(.ref b7)])) t
        refine XS.iload X8.here hx rfl (hb hby at_141) rfl ?_
        show Steps p.tables e below (T8.setTop (mkF m 143 #[.val (.int p1), .val (.int p2), .val (.int p3), .val (.int p4), .val (.int p5), .val (.int zz), .val (.int va), .val (.int vb), .val (.int vc), .val (.int vd), .val (.ref b1), .val (.ref b7), .val (.int (1 : Int32)), .unset] [(.int (1 : Int32)), (.ref b7)])) t
        refine XS.iload X8.here hx rfl (hb hby at_143) rfl ?_
        exact k
      obtain ⟨⟨cl55, Ar55, q55, S55, Nn55, H55, G55⟩, Le55⟩ := id V8
      have hin55 : ¬ ((1 : Int32) < 0 ∨ cl55.slots.size ≤ ((1 : Int32)).toNatClampNeg) := inb_of S55 ⟨by decide, by decide⟩
      obtain ⟨T55, h55, X55, e55, W55, st55⟩ := stI X8 hx hZ e8 Ar55 (j := (1 : Int32)) hin55 (g := (mkF m 145 #[.val (.int p1), .val (.int p2), .val (.int p3), .val (.int p4), .val (.int p5), .val (.int zz), .val (.int va), .val (.int vb), .val (.int vc), .val (.int vd), .val (.ref b1), .val (.ref b7), .val (.int (1 : Int32)), .unset] [(.int vc), (.int (1 : Int32)), (.ref b7)])) rfl rfl (hb hby at_145)
      have V55 : own_Ar Z h55 b7 k7 .int (4 : Int32) (List.map Value.int (((List.replicate ((4 : Int32)).toNatClampNeg (0 : Int32)).set ((0 : Int32)).toNatClampNeg va).set ((1 : Int32)).toNatClampNeg vc)) (.int (0 : Int32)) := own_Ar.setI Ar55 q55 S55 Nn55 H55 G55 rfl W55 hin55 Le55
      have K56 : Keep h0 h55 [] := Keep.wr K9 W55 (Or.inr sz_b7)
      have N56 := Fr.snoc X55 N9 g_b7
      refine own_via st55 ?_
      show own_G p.tables e below _ (T55.setTop (mkF m 146 #[.val (.int p1), .val (.int p2), .val (.int p3), .val (.int p4), .val (.int p5), .val (.int zz), .val (.int va), .val (.int vb), .val (.int vc), .val (.int vd), .val (.ref b1), .val (.ref b7), .val (.int (1 : Int32)), .unset] []))
      refine own_via (S' := T55.setTop (mkF m 156 #[.val (.int p1), .val (.int p2), .val (.int p3), .val (.int p4), .val (.int p5), .val (.int zz), .val (.int va), .val (.int vb), .val (.int vc), .val (.int vd), .val (.ref b1), .val (.ref b7), .val (.int (2 : Int32)), .unset] [(.int va), (.int vd)])) (fun t k => ?_) ?_
      · show Steps p.tables e below (T55.setTop (mkF m 146 #[.val (.int p1), .val (.int p2), .val (.int p3), .val (.int p4), .val (.int p5), .val (.int zz), .val (.int va), .val (.int vb), .val (.int vc), .val (.int vd), .val (.ref b1), .val (.ref b7), .val (.int (1 : Int32)), .unset] [])) t
        refine XS.iload X55.here hx rfl (hb hby at_146) rfl ?_
        show Steps p.tables e below (T55.setTop (mkF m 148 #[.val (.int p1), .val (.int p2), .val (.int p3), .val (.int p4), .val (.int p5), .val (.int zz), .val (.int va), .val (.int vb), .val (.int vc), .val (.int vd), .val (.ref b1), .val (.ref b7), .val (.int (1 : Int32)), .unset] [(.int (1 : Int32))])) t
        refine XS.iconst X55.here hx rfl (hb hby at_148) ?_
        show Steps p.tables e below (T55.setTop (mkF m 149 #[.val (.int p1), .val (.int p2), .val (.int p3), .val (.int p4), .val (.int p5), .val (.int zz), .val (.int va), .val (.int vb), .val (.int vc), .val (.int vd), .val (.ref b1), .val (.ref b7), .val (.int (1 : Int32)), .unset] [(.int (1 : Int32)), (.int (1 : Int32))])) t
        refine XS.iadd X55.here hx rfl (hb hby at_149) rfl ?_
        show Steps p.tables e below (T55.setTop (mkF m 150 #[.val (.int p1), .val (.int p2), .val (.int p3), .val (.int p4), .val (.int p5), .val (.int zz), .val (.int va), .val (.int vb), .val (.int vc), .val (.int vd), .val (.ref b1), .val (.ref b7), .val (.int (1 : Int32)), .unset] [(.int (2 : Int32))])) t
        refine XS.istore X55.here hx rfl (hb hby at_150) rfl (l' := #[.val (.int p1), .val (.int p2), .val (.int p3), .val (.int p4), .val (.int p5), .val (.int zz), .val (.int va), .val (.int vb), .val (.int vc), .val (.int vd), .val (.ref b1), .val (.ref b7), .val (.int (2 : Int32)), .unset]) rfl ?_
        show Steps p.tables e below (T55.setTop (mkF m 152 #[.val (.int p1), .val (.int p2), .val (.int p3), .val (.int p4), .val (.int p5), .val (.int zz), .val (.int va), .val (.int vb), .val (.int vc), .val (.int vd), .val (.ref b1), .val (.ref b7), .val (.int (2 : Int32)), .unset] [])) t
        refine XS.iload X55.here hx rfl (hb hby at_152) rfl ?_
        show Steps p.tables e below (T55.setTop (mkF m 154 #[.val (.int p1), .val (.int p2), .val (.int p3), .val (.int p4), .val (.int p5), .val (.int zz), .val (.int va), .val (.int vb), .val (.int vc), .val (.int vd), .val (.ref b1), .val (.ref b7), .val (.int (2 : Int32)), .unset] [(.int vd)])) t
        refine XS.iload X55.here hx rfl (hb hby at_154) rfl ?_
        exact k
      by_cases hc156_57 : vd = va
      · refine own_via (S' := T55.setTop (mkF m 186 #[.val (.int p1), .val (.int p2), .val (.int p3), .val (.int p4), .val (.int p5), .val (.int zz), .val (.int va), .val (.int vb), .val (.int vc), .val (.int vd), .val (.ref b1), .val (.ref b7), .val (.int (2 : Int32)), .unset] [])) (fun t k => XS.icmpYes (g := (mkF m 156 #[.val (.int p1), .val (.int p2), .val (.int p3), .val (.int p4), .val (.int p5), .val (.int zz), .val (.int va), .val (.int vb), .val (.int vc), .val (.int vd), .val (.ref b1), .val (.ref b7), .val (.int (2 : Int32)), .unset] [(.int va), (.int vd)])) X55.here hx rfl (pc0 := 156) (pc' := 186) rfl (hb hby at_156) rfl (teq hc156_57).1 (by decide) (by decide) k) ?_
        have hW58 : (own_ins (own_ins (own_ins [va] vb) vc) vd) = [va, vc] := by simp [own_ins, hc109_33, hc129_34, hc156_57]
        have hJ58 := hI
        rw [hW58] at hJ58
        have c59 := (Exa.wr W55 (Exa.wr W8 (Exa.ext E7 DE6)))
        have c60 := (Fld.other W55 (Fld.other W8 (Fld.ext E7 DM6) (Or.inl ne_b1_b7)) (Or.inl ne_b1_b7))
        have c61 := (Fld.other W55 (Fld.other W8 (Fld.ext E7 DP6) (Or.inl ne_b1_b7)) (Or.inl ne_b1_b7))
        have c62 := (Fld.other W55 (Fld.other W8 (Fld.ext E7 DZ6) (Or.inl ne_b1_b7)) (Or.inl ne_b1_b7))
        have c63 := (own_Ar.other (own_Ar.other (own_Ar.ext DA6 E7) W8 ne_bm2_b7) W55 ne_bm2_b7)
        have c64 := (own_Ar.other (own_Ar.other (own_Ar.ext DB6 E7) W8 ne_bp2_b7) W55 ne_bp2_b7)
        exact J _ _ _ _ _ N56 X55 e55 (Nat.le_trans Z0 K56.1) ⟨c59, c60, c61, c62, c63, c64⟩ V55 (own_done zz _ _ hJ58 (2 : Int32) rfl _ (by
            intro i hi
            have hi2 : i = 0 ∨ i = 1 := by simp at hi; omega
            rcases hi2 with rfl | rfl <;> rfl)) (own_z zz _ _ hJ58 (2 : Int32) rfl) (by decide)
      · refine own_via (S' := T55.setTop (mkF m 159 #[.val (.int p1), .val (.int p2), .val (.int p3), .val (.int p4), .val (.int p5), .val (.int zz), .val (.int va), .val (.int vb), .val (.int vc), .val (.int vd), .val (.ref b1), .val (.ref b7), .val (.int (2 : Int32)), .unset] [])) (fun t k => XS.icmpNo (g := (mkF m 156 #[.val (.int p1), .val (.int p2), .val (.int p3), .val (.int p4), .val (.int p5), .val (.int zz), .val (.int va), .val (.int vb), .val (.int vc), .val (.int vd), .val (.ref b1), .val (.ref b7), .val (.int (2 : Int32)), .unset] [(.int va), (.int vd)])) X55.here hx rfl (hb hby at_156) rfl (feq hc156_57).1 k) ?_
        refine own_via (S' := T55.setTop (mkF m 163 #[.val (.int p1), .val (.int p2), .val (.int p3), .val (.int p4), .val (.int p5), .val (.int zz), .val (.int va), .val (.int vb), .val (.int vc), .val (.int vd), .val (.ref b1), .val (.ref b7), .val (.int (2 : Int32)), .unset] [(.int vb), (.int vd)])) (fun t k => ?_) ?_
        · show Steps p.tables e below (T55.setTop (mkF m 159 #[.val (.int p1), .val (.int p2), .val (.int p3), .val (.int p4), .val (.int p5), .val (.int zz), .val (.int va), .val (.int vb), .val (.int vc), .val (.int vd), .val (.ref b1), .val (.ref b7), .val (.int (2 : Int32)), .unset] [])) t
          refine XS.iload X55.here hx rfl (hb hby at_159) rfl ?_
          show Steps p.tables e below (T55.setTop (mkF m 161 #[.val (.int p1), .val (.int p2), .val (.int p3), .val (.int p4), .val (.int p5), .val (.int zz), .val (.int va), .val (.int vb), .val (.int vc), .val (.int vd), .val (.ref b1), .val (.ref b7), .val (.int (2 : Int32)), .unset] [(.int vd)])) t
          refine XS.iload X55.here hx rfl (hb hby at_161) rfl ?_
          exact k
        refine own_via (S' := T55.setTop (mkF m 166 #[.val (.int p1), .val (.int p2), .val (.int p3), .val (.int p4), .val (.int p5), .val (.int zz), .val (.int va), .val (.int vb), .val (.int vc), .val (.int vd), .val (.ref b1), .val (.ref b7), .val (.int (2 : Int32)), .unset] [])) (fun t k => XS.icmpNo (g := (mkF m 163 #[.val (.int p1), .val (.int p2), .val (.int p3), .val (.int p4), .val (.int p5), .val (.int zz), .val (.int va), .val (.int vb), .val (.int vc), .val (.int vd), .val (.ref b1), .val (.ref b7), .val (.int (2 : Int32)), .unset] [(.int vb), (.int vd)])) X55.here hx rfl (hb hby at_163) rfl (feq (by grind)).1 k) ?_
        refine own_via (S' := T55.setTop (mkF m 170 #[.val (.int p1), .val (.int p2), .val (.int p3), .val (.int p4), .val (.int p5), .val (.int zz), .val (.int va), .val (.int vb), .val (.int vc), .val (.int vd), .val (.ref b1), .val (.ref b7), .val (.int (2 : Int32)), .unset] [(.int vc), (.int vd)])) (fun t k => ?_) ?_
        · show Steps p.tables e below (T55.setTop (mkF m 166 #[.val (.int p1), .val (.int p2), .val (.int p3), .val (.int p4), .val (.int p5), .val (.int zz), .val (.int va), .val (.int vb), .val (.int vc), .val (.int vd), .val (.ref b1), .val (.ref b7), .val (.int (2 : Int32)), .unset] [])) t
          refine XS.iload X55.here hx rfl (hb hby at_166) rfl ?_
          show Steps p.tables e below (T55.setTop (mkF m 168 #[.val (.int p1), .val (.int p2), .val (.int p3), .val (.int p4), .val (.int p5), .val (.int zz), .val (.int va), .val (.int vb), .val (.int vc), .val (.int vd), .val (.ref b1), .val (.ref b7), .val (.int (2 : Int32)), .unset] [(.int vd)])) t
          refine XS.iload X55.here hx rfl (hb hby at_168) rfl ?_
          exact k
        by_cases hc170_66 : vd = vc
        · refine own_via (S' := T55.setTop (mkF m 186 #[.val (.int p1), .val (.int p2), .val (.int p3), .val (.int p4), .val (.int p5), .val (.int zz), .val (.int va), .val (.int vb), .val (.int vc), .val (.int vd), .val (.ref b1), .val (.ref b7), .val (.int (2 : Int32)), .unset] [])) (fun t k => XS.icmpYes (g := (mkF m 170 #[.val (.int p1), .val (.int p2), .val (.int p3), .val (.int p4), .val (.int p5), .val (.int zz), .val (.int va), .val (.int vb), .val (.int vc), .val (.int vd), .val (.ref b1), .val (.ref b7), .val (.int (2 : Int32)), .unset] [(.int vc), (.int vd)])) X55.here hx rfl (pc0 := 170) (pc' := 186) rfl (hb hby at_170) rfl (teq hc170_66).1 (by decide) (by decide) k) ?_
          have hW67 : (own_ins (own_ins (own_ins [va] vb) vc) vd) = [va, vc] := by simp [own_ins, hc109_33, hc129_34, hc156_57, hc170_66]
          have hJ67 := hI
          rw [hW67] at hJ67
          have c68 := (Exa.wr W55 (Exa.wr W8 (Exa.ext E7 DE6)))
          have c69 := (Fld.other W55 (Fld.other W8 (Fld.ext E7 DM6) (Or.inl ne_b1_b7)) (Or.inl ne_b1_b7))
          have c70 := (Fld.other W55 (Fld.other W8 (Fld.ext E7 DP6) (Or.inl ne_b1_b7)) (Or.inl ne_b1_b7))
          have c71 := (Fld.other W55 (Fld.other W8 (Fld.ext E7 DZ6) (Or.inl ne_b1_b7)) (Or.inl ne_b1_b7))
          have c72 := (own_Ar.other (own_Ar.other (own_Ar.ext DA6 E7) W8 ne_bm2_b7) W55 ne_bm2_b7)
          have c73 := (own_Ar.other (own_Ar.other (own_Ar.ext DB6 E7) W8 ne_bp2_b7) W55 ne_bp2_b7)
          exact J _ _ _ _ _ N56 X55 e55 (Nat.le_trans Z0 K56.1) ⟨c68, c69, c70, c71, c72, c73⟩ V55 (own_done zz _ _ hJ67 (2 : Int32) rfl _ (by
              intro i hi
              have hi2 : i = 0 ∨ i = 1 := by simp at hi; omega
              rcases hi2 with rfl | rfl <;> rfl)) (own_z zz _ _ hJ67 (2 : Int32) rfl) (by decide)
        · refine own_via (S' := T55.setTop (mkF m 173 #[.val (.int p1), .val (.int p2), .val (.int p3), .val (.int p4), .val (.int p5), .val (.int zz), .val (.int va), .val (.int vb), .val (.int vc), .val (.int vd), .val (.ref b1), .val (.ref b7), .val (.int (2 : Int32)), .unset] [])) (fun t k => XS.icmpNo (g := (mkF m 170 #[.val (.int p1), .val (.int p2), .val (.int p3), .val (.int p4), .val (.int p5), .val (.int zz), .val (.int va), .val (.int vb), .val (.int vc), .val (.int vd), .val (.ref b1), .val (.ref b7), .val (.int (2 : Int32)), .unset] [(.int vc), (.int vd)])) X55.here hx rfl (hb hby at_170) rfl (feq hc170_66).1 k) ?_
          refine own_via (S' := T55.setTop (mkF m 179 #[.val (.int p1), .val (.int p2), .val (.int p3), .val (.int p4), .val (.int p5), .val (.int zz), .val (.int va), .val (.int vb), .val (.int vc), .val (.int vd), .val (.ref b1), .val (.ref b7), .val (.int (2 : Int32)), .unset] [(.int vd), (.int (2 : Int32)), (.ref b7)])) (fun t k => ?_) ?_
          · show Steps p.tables e below (T55.setTop (mkF m 173 #[.val (.int p1), .val (.int p2), .val (.int p3), .val (.int p4), .val (.int p5), .val (.int zz), .val (.int va), .val (.int vb), .val (.int vc), .val (.int vd), .val (.ref b1), .val (.ref b7), .val (.int (2 : Int32)), .unset] [])) t
            refine XS.aload X55.here hx rfl (hb hby at_173) rfl rfl ?_
            show Steps p.tables e below (T55.setTop (mkF m 175 #[.val (.int p1), .val (.int p2), .val (.int p3), .val (.int p4), .val (.int p5), .val (.int zz), .val (.int va), .val (.int vb), .val (.int vc), .val (.int vd), .val (.ref b1), .val (.ref b7), .val (.int (2 : Int32)), .unset] [(.ref b7)])) t
            refine XS.iload X55.here hx rfl (hb hby at_175) rfl ?_
            show Steps p.tables e below (T55.setTop (mkF m 177 #[.val (.int p1), .val (.int p2), .val (.int p3), .val (.int p4), .val (.int p5), .val (.int zz), .val (.int va), .val (.int vb), .val (.int vc), .val (.int vd), .val (.ref b1), .val (.ref b7), .val (.int (2 : Int32)), .unset] [(.int (2 : Int32)), (.ref b7)])) t
            refine XS.iload X55.here hx rfl (hb hby at_177) rfl ?_
            exact k
          obtain ⟨⟨cl74, Ar74, q74, S74, Nn74, H74, G74⟩, Le74⟩ := id V55
          have hin74 : ¬ ((2 : Int32) < 0 ∨ cl74.slots.size ≤ ((2 : Int32)).toNatClampNeg) := inb_of S74 ⟨by decide, by decide⟩
          obtain ⟨T74, h74, X74, e74, W74, st74⟩ := stI X55 hx hZ e55 Ar74 (j := (2 : Int32)) hin74 (g := (mkF m 179 #[.val (.int p1), .val (.int p2), .val (.int p3), .val (.int p4), .val (.int p5), .val (.int zz), .val (.int va), .val (.int vb), .val (.int vc), .val (.int vd), .val (.ref b1), .val (.ref b7), .val (.int (2 : Int32)), .unset] [(.int vd), (.int (2 : Int32)), (.ref b7)])) rfl rfl (hb hby at_179)
          have V74 : own_Ar Z h74 b7 k7 .int (4 : Int32) (List.map Value.int ((((List.replicate ((4 : Int32)).toNatClampNeg (0 : Int32)).set ((0 : Int32)).toNatClampNeg va).set ((1 : Int32)).toNatClampNeg vc).set ((2 : Int32)).toNatClampNeg vd)) (.int (0 : Int32)) := own_Ar.setI Ar74 q74 S74 Nn74 H74 G74 rfl W74 hin74 Le74
          have K75 : Keep h0 h74 [] := Keep.wr K56 W74 (Or.inr sz_b7)
          have N75 := Fr.snoc X74 N56 g_b7
          refine own_via st74 ?_
          show own_G p.tables e below _ (T74.setTop (mkF m 180 #[.val (.int p1), .val (.int p2), .val (.int p3), .val (.int p4), .val (.int p5), .val (.int zz), .val (.int va), .val (.int vb), .val (.int vc), .val (.int vd), .val (.ref b1), .val (.ref b7), .val (.int (2 : Int32)), .unset] []))
          refine own_via (S' := T74.setTop (mkF m 186 #[.val (.int p1), .val (.int p2), .val (.int p3), .val (.int p4), .val (.int p5), .val (.int zz), .val (.int va), .val (.int vb), .val (.int vc), .val (.int vd), .val (.ref b1), .val (.ref b7), .val (.int (3 : Int32)), .unset] [])) (fun t k => ?_) ?_
          · show Steps p.tables e below (T74.setTop (mkF m 180 #[.val (.int p1), .val (.int p2), .val (.int p3), .val (.int p4), .val (.int p5), .val (.int zz), .val (.int va), .val (.int vb), .val (.int vc), .val (.int vd), .val (.ref b1), .val (.ref b7), .val (.int (2 : Int32)), .unset] [])) t
            refine XS.iload X74.here hx rfl (hb hby at_180) rfl ?_
            show Steps p.tables e below (T74.setTop (mkF m 182 #[.val (.int p1), .val (.int p2), .val (.int p3), .val (.int p4), .val (.int p5), .val (.int zz), .val (.int va), .val (.int vb), .val (.int vc), .val (.int vd), .val (.ref b1), .val (.ref b7), .val (.int (2 : Int32)), .unset] [(.int (2 : Int32))])) t
            refine XS.iconst X74.here hx rfl (hb hby at_182) ?_
            show Steps p.tables e below (T74.setTop (mkF m 183 #[.val (.int p1), .val (.int p2), .val (.int p3), .val (.int p4), .val (.int p5), .val (.int zz), .val (.int va), .val (.int vb), .val (.int vc), .val (.int vd), .val (.ref b1), .val (.ref b7), .val (.int (2 : Int32)), .unset] [(.int (1 : Int32)), (.int (2 : Int32))])) t
            refine XS.iadd X74.here hx rfl (hb hby at_183) rfl ?_
            show Steps p.tables e below (T74.setTop (mkF m 184 #[.val (.int p1), .val (.int p2), .val (.int p3), .val (.int p4), .val (.int p5), .val (.int zz), .val (.int va), .val (.int vb), .val (.int vc), .val (.int vd), .val (.ref b1), .val (.ref b7), .val (.int (2 : Int32)), .unset] [(.int (3 : Int32))])) t
            refine XS.istore X74.here hx rfl (hb hby at_184) rfl (l' := #[.val (.int p1), .val (.int p2), .val (.int p3), .val (.int p4), .val (.int p5), .val (.int zz), .val (.int va), .val (.int vb), .val (.int vc), .val (.int vd), .val (.ref b1), .val (.ref b7), .val (.int (3 : Int32)), .unset]) rfl ?_
            exact k
          have hW76 : (own_ins (own_ins (own_ins [va] vb) vc) vd) = [va, vc, vd] := by simp [own_ins, hc109_33, hc129_34, hc156_57, hc170_66]
          have hJ76 := hI
          rw [hW76] at hJ76
          have c77 := (Exa.wr W74 (Exa.wr W55 (Exa.wr W8 (Exa.ext E7 DE6))))
          have c78 := (Fld.other W74 (Fld.other W55 (Fld.other W8 (Fld.ext E7 DM6) (Or.inl ne_b1_b7)) (Or.inl ne_b1_b7)) (Or.inl ne_b1_b7))
          have c79 := (Fld.other W74 (Fld.other W55 (Fld.other W8 (Fld.ext E7 DP6) (Or.inl ne_b1_b7)) (Or.inl ne_b1_b7)) (Or.inl ne_b1_b7))
          have c80 := (Fld.other W74 (Fld.other W55 (Fld.other W8 (Fld.ext E7 DZ6) (Or.inl ne_b1_b7)) (Or.inl ne_b1_b7)) (Or.inl ne_b1_b7))
          have c81 := (own_Ar.other (own_Ar.other (own_Ar.other (own_Ar.ext DA6 E7) W8 ne_bm2_b7) W55 ne_bm2_b7) W74 ne_bm2_b7)
          have c82 := (own_Ar.other (own_Ar.other (own_Ar.other (own_Ar.ext DB6 E7) W8 ne_bp2_b7) W55 ne_bp2_b7) W74 ne_bp2_b7)
          exact J _ _ _ _ _ N75 X74 e74 (Nat.le_trans Z0 K75.1) ⟨c77, c78, c79, c80, c81, c82⟩ V74 (own_done zz _ _ hJ76 (3 : Int32) rfl _ (by
              intro i hi
              have hi2 : i = 0 ∨ i = 1 ∨ i = 2 := by simp at hi; omega
              rcases hi2 with rfl | rfl | rfl <;> rfl)) (own_z zz _ _ hJ76 (3 : Int32) rfl) (by decide)
  · refine own_via (S' := T8.setTop (mkF m 112 #[.val (.int p1), .val (.int p2), .val (.int p3), .val (.int p4), .val (.int p5), .val (.int zz), .val (.int va), .val (.int vb), .val (.int vc), .val (.int vd), .val (.ref b1), .val (.ref b7), .val (.int (1 : Int32)), .unset] [])) (fun t k => XS.icmpNo (g := (mkF m 109 #[.val (.int p1), .val (.int p2), .val (.int p3), .val (.int p4), .val (.int p5), .val (.int zz), .val (.int va), .val (.int vb), .val (.int vc), .val (.int vd), .val (.ref b1), .val (.ref b7), .val (.int (1 : Int32)), .unset] [(.int va), (.int vb)])) X8.here hx rfl (hb hby at_109) rfl (feq hc109_33).1 k) ?_
    refine own_via (S' := T8.setTop (mkF m 118 #[.val (.int p1), .val (.int p2), .val (.int p3), .val (.int p4), .val (.int p5), .val (.int zz), .val (.int va), .val (.int vb), .val (.int vc), .val (.int vd), .val (.ref b1), .val (.ref b7), .val (.int (1 : Int32)), .unset] [(.int vb), (.int (1 : Int32)), (.ref b7)])) (fun t k => ?_) ?_
    · show Steps p.tables e below (T8.setTop (mkF m 112 #[.val (.int p1), .val (.int p2), .val (.int p3), .val (.int p4), .val (.int p5), .val (.int zz), .val (.int va), .val (.int vb), .val (.int vc), .val (.int vd), .val (.ref b1), .val (.ref b7), .val (.int (1 : Int32)), .unset] [])) t
      refine XS.aload X8.here hx rfl (hb hby at_112) rfl rfl ?_
      show Steps p.tables e below (T8.setTop (mkF m 114 #[.val (.int p1), .val (.int p2), .val (.int p3), .val (.int p4), .val (.int p5), .val (.int zz), .val (.int va), .val (.int vb), .val (.int vc), .val (.int vd), .val (.ref b1), .val (.ref b7), .val (.int (1 : Int32)), .unset] [(.ref b7)])) t
      refine XS.iload X8.here hx rfl (hb hby at_114) rfl ?_
      show Steps p.tables e below (T8.setTop (mkF m 116 #[.val (.int p1), .val (.int p2), .val (.int p3), .val (.int p4), .val (.int p5), .val (.int zz), .val (.int va), .val (.int vb), .val (.int vc), .val (.int vd), .val (.ref b1), .val (.ref b7), .val (.int (1 : Int32)), .unset] [(.int (1 : Int32)), (.ref b7)])) t
      refine XS.iload X8.here hx rfl (hb hby at_116) rfl ?_
      exact k
    obtain ⟨⟨cl83, Ar83, q83, S83, Nn83, H83, G83⟩, Le83⟩ := id V8
    have hin83 : ¬ ((1 : Int32) < 0 ∨ cl83.slots.size ≤ ((1 : Int32)).toNatClampNeg) := inb_of S83 ⟨by decide, by decide⟩
    obtain ⟨T83, h83, X83, e83, W83, st83⟩ := stI X8 hx hZ e8 Ar83 (j := (1 : Int32)) hin83 (g := (mkF m 118 #[.val (.int p1), .val (.int p2), .val (.int p3), .val (.int p4), .val (.int p5), .val (.int zz), .val (.int va), .val (.int vb), .val (.int vc), .val (.int vd), .val (.ref b1), .val (.ref b7), .val (.int (1 : Int32)), .unset] [(.int vb), (.int (1 : Int32)), (.ref b7)])) rfl rfl (hb hby at_118)
    have V83 : own_Ar Z h83 b7 k7 .int (4 : Int32) (List.map Value.int (((List.replicate ((4 : Int32)).toNatClampNeg (0 : Int32)).set ((0 : Int32)).toNatClampNeg va).set ((1 : Int32)).toNatClampNeg vb)) (.int (0 : Int32)) := own_Ar.setI Ar83 q83 S83 Nn83 H83 G83 rfl W83 hin83 Le83
    have K84 : Keep h0 h83 [] := Keep.wr K9 W83 (Or.inr sz_b7)
    have N84 := Fr.snoc X83 N9 g_b7
    refine own_via st83 ?_
    show own_G p.tables e below _ (T83.setTop (mkF m 119 #[.val (.int p1), .val (.int p2), .val (.int p3), .val (.int p4), .val (.int p5), .val (.int zz), .val (.int va), .val (.int vb), .val (.int vc), .val (.int vd), .val (.ref b1), .val (.ref b7), .val (.int (1 : Int32)), .unset] []))
    refine own_via (S' := T83.setTop (mkF m 129 #[.val (.int p1), .val (.int p2), .val (.int p3), .val (.int p4), .val (.int p5), .val (.int zz), .val (.int va), .val (.int vb), .val (.int vc), .val (.int vd), .val (.ref b1), .val (.ref b7), .val (.int (2 : Int32)), .unset] [(.int va), (.int vc)])) (fun t k => ?_) ?_
    · show Steps p.tables e below (T83.setTop (mkF m 119 #[.val (.int p1), .val (.int p2), .val (.int p3), .val (.int p4), .val (.int p5), .val (.int zz), .val (.int va), .val (.int vb), .val (.int vc), .val (.int vd), .val (.ref b1), .val (.ref b7), .val (.int (1 : Int32)), .unset] [])) t
      refine XS.iload X83.here hx rfl (hb hby at_119) rfl ?_
      show Steps p.tables e below (T83.setTop (mkF m 121 #[.val (.int p1), .val (.int p2), .val (.int p3), .val (.int p4), .val (.int p5), .val (.int zz), .val (.int va), .val (.int vb), .val (.int vc), .val (.int vd), .val (.ref b1), .val (.ref b7), .val (.int (1 : Int32)), .unset] [(.int (1 : Int32))])) t
      refine XS.iconst X83.here hx rfl (hb hby at_121) ?_
      show Steps p.tables e below (T83.setTop (mkF m 122 #[.val (.int p1), .val (.int p2), .val (.int p3), .val (.int p4), .val (.int p5), .val (.int zz), .val (.int va), .val (.int vb), .val (.int vc), .val (.int vd), .val (.ref b1), .val (.ref b7), .val (.int (1 : Int32)), .unset] [(.int (1 : Int32)), (.int (1 : Int32))])) t
      refine XS.iadd X83.here hx rfl (hb hby at_122) rfl ?_
      show Steps p.tables e below (T83.setTop (mkF m 123 #[.val (.int p1), .val (.int p2), .val (.int p3), .val (.int p4), .val (.int p5), .val (.int zz), .val (.int va), .val (.int vb), .val (.int vc), .val (.int vd), .val (.ref b1), .val (.ref b7), .val (.int (1 : Int32)), .unset] [(.int (2 : Int32))])) t
      refine XS.istore X83.here hx rfl (hb hby at_123) rfl (l' := #[.val (.int p1), .val (.int p2), .val (.int p3), .val (.int p4), .val (.int p5), .val (.int zz), .val (.int va), .val (.int vb), .val (.int vc), .val (.int vd), .val (.ref b1), .val (.ref b7), .val (.int (2 : Int32)), .unset]) rfl ?_
      show Steps p.tables e below (T83.setTop (mkF m 125 #[.val (.int p1), .val (.int p2), .val (.int p3), .val (.int p4), .val (.int p5), .val (.int zz), .val (.int va), .val (.int vb), .val (.int vc), .val (.int vd), .val (.ref b1), .val (.ref b7), .val (.int (2 : Int32)), .unset] [])) t
      refine XS.iload X83.here hx rfl (hb hby at_125) rfl ?_
      show Steps p.tables e below (T83.setTop (mkF m 127 #[.val (.int p1), .val (.int p2), .val (.int p3), .val (.int p4), .val (.int p5), .val (.int zz), .val (.int va), .val (.int vb), .val (.int vc), .val (.int vd), .val (.ref b1), .val (.ref b7), .val (.int (2 : Int32)), .unset] [(.int vc)])) t
      refine XS.iload X83.here hx rfl (hb hby at_127) rfl ?_
      exact k
    by_cases hc129_85 : vc = va
    · refine own_via (S' := T83.setTop (mkF m 152 #[.val (.int p1), .val (.int p2), .val (.int p3), .val (.int p4), .val (.int p5), .val (.int zz), .val (.int va), .val (.int vb), .val (.int vc), .val (.int vd), .val (.ref b1), .val (.ref b7), .val (.int (2 : Int32)), .unset] [])) (fun t k => XS.icmpYes (g := (mkF m 129 #[.val (.int p1), .val (.int p2), .val (.int p3), .val (.int p4), .val (.int p5), .val (.int zz), .val (.int va), .val (.int vb), .val (.int vc), .val (.int vd), .val (.ref b1), .val (.ref b7), .val (.int (2 : Int32)), .unset] [(.int va), (.int vc)])) X83.here hx rfl (pc0 := 129) (pc' := 152) rfl (hb hby at_129) rfl (teq hc129_85).1 (by decide) (by decide) k) ?_
      refine own_via (S' := T83.setTop (mkF m 156 #[.val (.int p1), .val (.int p2), .val (.int p3), .val (.int p4), .val (.int p5), .val (.int zz), .val (.int va), .val (.int vb), .val (.int vc), .val (.int vd), .val (.ref b1), .val (.ref b7), .val (.int (2 : Int32)), .unset] [(.int va), (.int vd)])) (fun t k => ?_) ?_
      · show Steps p.tables e below (T83.setTop (mkF m 152 #[.val (.int p1), .val (.int p2), .val (.int p3), .val (.int p4), .val (.int p5), .val (.int zz), .val (.int va), .val (.int vb), .val (.int vc), .val (.int vd), .val (.ref b1), .val (.ref b7), .val (.int (2 : Int32)), .unset] [])) t
        refine XS.iload X83.here hx rfl (hb hby at_152) rfl ?_
        show Steps p.tables e below (T83.setTop (mkF m 154 #[.val (.int p1), .val (.int p2), .val (.int p3), .val (.int p4), .val (.int p5), .val (.int zz), .val (.int va), .val (.int vb), .val (.int vc), .val (.int vd), .val (.ref b1), .val (.ref b7), .val (.int (2 : Int32)), .unset] [(.int vd)])) t
        refine XS.iload X83.here hx rfl (hb hby at_154) rfl ?_
        exact k
      by_cases hc156_86 : vd = va
      · refine own_via (S' := T83.setTop (mkF m 186 #[.val (.int p1), .val (.int p2), .val (.int p3), .val (.int p4), .val (.int p5), .val (.int zz), .val (.int va), .val (.int vb), .val (.int vc), .val (.int vd), .val (.ref b1), .val (.ref b7), .val (.int (2 : Int32)), .unset] [])) (fun t k => XS.icmpYes (g := (mkF m 156 #[.val (.int p1), .val (.int p2), .val (.int p3), .val (.int p4), .val (.int p5), .val (.int zz), .val (.int va), .val (.int vb), .val (.int vc), .val (.int vd), .val (.ref b1), .val (.ref b7), .val (.int (2 : Int32)), .unset] [(.int va), (.int vd)])) X83.here hx rfl (pc0 := 156) (pc' := 186) rfl (hb hby at_156) rfl (teq hc156_86).1 (by decide) (by decide) k) ?_
        have hW87 : (own_ins (own_ins (own_ins [va] vb) vc) vd) = [va, vb] := by simp [own_ins, hc109_33, hc129_85, hc156_86]
        have hJ87 := hI
        rw [hW87] at hJ87
        have c88 := (Exa.wr W83 (Exa.wr W8 (Exa.ext E7 DE6)))
        have c89 := (Fld.other W83 (Fld.other W8 (Fld.ext E7 DM6) (Or.inl ne_b1_b7)) (Or.inl ne_b1_b7))
        have c90 := (Fld.other W83 (Fld.other W8 (Fld.ext E7 DP6) (Or.inl ne_b1_b7)) (Or.inl ne_b1_b7))
        have c91 := (Fld.other W83 (Fld.other W8 (Fld.ext E7 DZ6) (Or.inl ne_b1_b7)) (Or.inl ne_b1_b7))
        have c92 := (own_Ar.other (own_Ar.other (own_Ar.ext DA6 E7) W8 ne_bm2_b7) W83 ne_bm2_b7)
        have c93 := (own_Ar.other (own_Ar.other (own_Ar.ext DB6 E7) W8 ne_bp2_b7) W83 ne_bp2_b7)
        exact J _ _ _ _ _ N84 X83 e83 (Nat.le_trans Z0 K84.1) ⟨c88, c89, c90, c91, c92, c93⟩ V83 (own_done zz _ _ hJ87 (2 : Int32) rfl _ (by
            intro i hi
            have hi2 : i = 0 ∨ i = 1 := by simp at hi; omega
            rcases hi2 with rfl | rfl <;> rfl)) (own_z zz _ _ hJ87 (2 : Int32) rfl) (by decide)
      · refine own_via (S' := T83.setTop (mkF m 159 #[.val (.int p1), .val (.int p2), .val (.int p3), .val (.int p4), .val (.int p5), .val (.int zz), .val (.int va), .val (.int vb), .val (.int vc), .val (.int vd), .val (.ref b1), .val (.ref b7), .val (.int (2 : Int32)), .unset] [])) (fun t k => XS.icmpNo (g := (mkF m 156 #[.val (.int p1), .val (.int p2), .val (.int p3), .val (.int p4), .val (.int p5), .val (.int zz), .val (.int va), .val (.int vb), .val (.int vc), .val (.int vd), .val (.ref b1), .val (.ref b7), .val (.int (2 : Int32)), .unset] [(.int va), (.int vd)])) X83.here hx rfl (hb hby at_156) rfl (feq hc156_86).1 k) ?_
        refine own_via (S' := T83.setTop (mkF m 163 #[.val (.int p1), .val (.int p2), .val (.int p3), .val (.int p4), .val (.int p5), .val (.int zz), .val (.int va), .val (.int vb), .val (.int vc), .val (.int vd), .val (.ref b1), .val (.ref b7), .val (.int (2 : Int32)), .unset] [(.int vb), (.int vd)])) (fun t k => ?_) ?_
        · show Steps p.tables e below (T83.setTop (mkF m 159 #[.val (.int p1), .val (.int p2), .val (.int p3), .val (.int p4), .val (.int p5), .val (.int zz), .val (.int va), .val (.int vb), .val (.int vc), .val (.int vd), .val (.ref b1), .val (.ref b7), .val (.int (2 : Int32)), .unset] [])) t
          refine XS.iload X83.here hx rfl (hb hby at_159) rfl ?_
          show Steps p.tables e below (T83.setTop (mkF m 161 #[.val (.int p1), .val (.int p2), .val (.int p3), .val (.int p4), .val (.int p5), .val (.int zz), .val (.int va), .val (.int vb), .val (.int vc), .val (.int vd), .val (.ref b1), .val (.ref b7), .val (.int (2 : Int32)), .unset] [(.int vd)])) t
          refine XS.iload X83.here hx rfl (hb hby at_161) rfl ?_
          exact k
        by_cases hc163_94 : vd = vb
        · refine own_via (S' := T83.setTop (mkF m 186 #[.val (.int p1), .val (.int p2), .val (.int p3), .val (.int p4), .val (.int p5), .val (.int zz), .val (.int va), .val (.int vb), .val (.int vc), .val (.int vd), .val (.ref b1), .val (.ref b7), .val (.int (2 : Int32)), .unset] [])) (fun t k => XS.icmpYes (g := (mkF m 163 #[.val (.int p1), .val (.int p2), .val (.int p3), .val (.int p4), .val (.int p5), .val (.int zz), .val (.int va), .val (.int vb), .val (.int vc), .val (.int vd), .val (.ref b1), .val (.ref b7), .val (.int (2 : Int32)), .unset] [(.int vb), (.int vd)])) X83.here hx rfl (pc0 := 163) (pc' := 186) rfl (hb hby at_163) rfl (teq hc163_94).1 (by decide) (by decide) k) ?_
          have hW95 : (own_ins (own_ins (own_ins [va] vb) vc) vd) = [va, vb] := by simp [own_ins, hc109_33, hc129_85, hc156_86, hc163_94]
          have hJ95 := hI
          rw [hW95] at hJ95
          have c96 := (Exa.wr W83 (Exa.wr W8 (Exa.ext E7 DE6)))
          have c97 := (Fld.other W83 (Fld.other W8 (Fld.ext E7 DM6) (Or.inl ne_b1_b7)) (Or.inl ne_b1_b7))
          have c98 := (Fld.other W83 (Fld.other W8 (Fld.ext E7 DP6) (Or.inl ne_b1_b7)) (Or.inl ne_b1_b7))
          have c99 := (Fld.other W83 (Fld.other W8 (Fld.ext E7 DZ6) (Or.inl ne_b1_b7)) (Or.inl ne_b1_b7))
          have c100 := (own_Ar.other (own_Ar.other (own_Ar.ext DA6 E7) W8 ne_bm2_b7) W83 ne_bm2_b7)
          have c101 := (own_Ar.other (own_Ar.other (own_Ar.ext DB6 E7) W8 ne_bp2_b7) W83 ne_bp2_b7)
          exact J _ _ _ _ _ N84 X83 e83 (Nat.le_trans Z0 K84.1) ⟨c96, c97, c98, c99, c100, c101⟩ V83 (own_done zz _ _ hJ95 (2 : Int32) rfl _ (by
              intro i hi
              have hi2 : i = 0 ∨ i = 1 := by simp at hi; omega
              rcases hi2 with rfl | rfl <;> rfl)) (own_z zz _ _ hJ95 (2 : Int32) rfl) (by decide)
        · refine own_via (S' := T83.setTop (mkF m 166 #[.val (.int p1), .val (.int p2), .val (.int p3), .val (.int p4), .val (.int p5), .val (.int zz), .val (.int va), .val (.int vb), .val (.int vc), .val (.int vd), .val (.ref b1), .val (.ref b7), .val (.int (2 : Int32)), .unset] [])) (fun t k => XS.icmpNo (g := (mkF m 163 #[.val (.int p1), .val (.int p2), .val (.int p3), .val (.int p4), .val (.int p5), .val (.int zz), .val (.int va), .val (.int vb), .val (.int vc), .val (.int vd), .val (.ref b1), .val (.ref b7), .val (.int (2 : Int32)), .unset] [(.int vb), (.int vd)])) X83.here hx rfl (hb hby at_163) rfl (feq hc163_94).1 k) ?_
          refine own_via (S' := T83.setTop (mkF m 170 #[.val (.int p1), .val (.int p2), .val (.int p3), .val (.int p4), .val (.int p5), .val (.int zz), .val (.int va), .val (.int vb), .val (.int vc), .val (.int vd), .val (.ref b1), .val (.ref b7), .val (.int (2 : Int32)), .unset] [(.int vc), (.int vd)])) (fun t k => ?_) ?_
          · show Steps p.tables e below (T83.setTop (mkF m 166 #[.val (.int p1), .val (.int p2), .val (.int p3), .val (.int p4), .val (.int p5), .val (.int zz), .val (.int va), .val (.int vb), .val (.int vc), .val (.int vd), .val (.ref b1), .val (.ref b7), .val (.int (2 : Int32)), .unset] [])) t
            refine XS.iload X83.here hx rfl (hb hby at_166) rfl ?_
            show Steps p.tables e below (T83.setTop (mkF m 168 #[.val (.int p1), .val (.int p2), .val (.int p3), .val (.int p4), .val (.int p5), .val (.int zz), .val (.int va), .val (.int vb), .val (.int vc), .val (.int vd), .val (.ref b1), .val (.ref b7), .val (.int (2 : Int32)), .unset] [(.int vd)])) t
            refine XS.iload X83.here hx rfl (hb hby at_168) rfl ?_
            exact k
          refine own_via (S' := T83.setTop (mkF m 173 #[.val (.int p1), .val (.int p2), .val (.int p3), .val (.int p4), .val (.int p5), .val (.int zz), .val (.int va), .val (.int vb), .val (.int vc), .val (.int vd), .val (.ref b1), .val (.ref b7), .val (.int (2 : Int32)), .unset] [])) (fun t k => XS.icmpNo (g := (mkF m 170 #[.val (.int p1), .val (.int p2), .val (.int p3), .val (.int p4), .val (.int p5), .val (.int zz), .val (.int va), .val (.int vb), .val (.int vc), .val (.int vd), .val (.ref b1), .val (.ref b7), .val (.int (2 : Int32)), .unset] [(.int vc), (.int vd)])) X83.here hx rfl (hb hby at_170) rfl (feq (by grind)).1 k) ?_
          refine own_via (S' := T83.setTop (mkF m 179 #[.val (.int p1), .val (.int p2), .val (.int p3), .val (.int p4), .val (.int p5), .val (.int zz), .val (.int va), .val (.int vb), .val (.int vc), .val (.int vd), .val (.ref b1), .val (.ref b7), .val (.int (2 : Int32)), .unset] [(.int vd), (.int (2 : Int32)), (.ref b7)])) (fun t k => ?_) ?_
          · show Steps p.tables e below (T83.setTop (mkF m 173 #[.val (.int p1), .val (.int p2), .val (.int p3), .val (.int p4), .val (.int p5), .val (.int zz), .val (.int va), .val (.int vb), .val (.int vc), .val (.int vd), .val (.ref b1), .val (.ref b7), .val (.int (2 : Int32)), .unset] [])) t
            refine XS.aload X83.here hx rfl (hb hby at_173) rfl rfl ?_
            show Steps p.tables e below (T83.setTop (mkF m 175 #[.val (.int p1), .val (.int p2), .val (.int p3), .val (.int p4), .val (.int p5), .val (.int zz), .val (.int va), .val (.int vb), .val (.int vc), .val (.int vd), .val (.ref b1), .val (.ref b7), .val (.int (2 : Int32)), .unset] [(.ref b7)])) t
            refine XS.iload X83.here hx rfl (hb hby at_175) rfl ?_
            show Steps p.tables e below (T83.setTop (mkF m 177 #[.val (.int p1), .val (.int p2), .val (.int p3), .val (.int p4), .val (.int p5), .val (.int zz), .val (.int va), .val (.int vb), .val (.int vc), .val (.int vd), .val (.ref b1), .val (.ref b7), .val (.int (2 : Int32)), .unset] [(.int (2 : Int32)), (.ref b7)])) t
            refine XS.iload X83.here hx rfl (hb hby at_177) rfl ?_
            exact k
          obtain ⟨⟨cl103, Ar103, q103, S103, Nn103, H103, G103⟩, Le103⟩ := id V83
          have hin103 : ¬ ((2 : Int32) < 0 ∨ cl103.slots.size ≤ ((2 : Int32)).toNatClampNeg) := inb_of S103 ⟨by decide, by decide⟩
          obtain ⟨T103, h103, X103, e103, W103, st103⟩ := stI X83 hx hZ e83 Ar103 (j := (2 : Int32)) hin103 (g := (mkF m 179 #[.val (.int p1), .val (.int p2), .val (.int p3), .val (.int p4), .val (.int p5), .val (.int zz), .val (.int va), .val (.int vb), .val (.int vc), .val (.int vd), .val (.ref b1), .val (.ref b7), .val (.int (2 : Int32)), .unset] [(.int vd), (.int (2 : Int32)), (.ref b7)])) rfl rfl (hb hby at_179)
          have V103 : own_Ar Z h103 b7 k7 .int (4 : Int32) (List.map Value.int ((((List.replicate ((4 : Int32)).toNatClampNeg (0 : Int32)).set ((0 : Int32)).toNatClampNeg va).set ((1 : Int32)).toNatClampNeg vb).set ((2 : Int32)).toNatClampNeg vd)) (.int (0 : Int32)) := own_Ar.setI Ar103 q103 S103 Nn103 H103 G103 rfl W103 hin103 Le103
          have K104 : Keep h0 h103 [] := Keep.wr K84 W103 (Or.inr sz_b7)
          have N104 := Fr.snoc X103 N84 g_b7
          refine own_via st103 ?_
          show own_G p.tables e below _ (T103.setTop (mkF m 180 #[.val (.int p1), .val (.int p2), .val (.int p3), .val (.int p4), .val (.int p5), .val (.int zz), .val (.int va), .val (.int vb), .val (.int vc), .val (.int vd), .val (.ref b1), .val (.ref b7), .val (.int (2 : Int32)), .unset] []))
          refine own_via (S' := T103.setTop (mkF m 186 #[.val (.int p1), .val (.int p2), .val (.int p3), .val (.int p4), .val (.int p5), .val (.int zz), .val (.int va), .val (.int vb), .val (.int vc), .val (.int vd), .val (.ref b1), .val (.ref b7), .val (.int (3 : Int32)), .unset] [])) (fun t k => ?_) ?_
          · show Steps p.tables e below (T103.setTop (mkF m 180 #[.val (.int p1), .val (.int p2), .val (.int p3), .val (.int p4), .val (.int p5), .val (.int zz), .val (.int va), .val (.int vb), .val (.int vc), .val (.int vd), .val (.ref b1), .val (.ref b7), .val (.int (2 : Int32)), .unset] [])) t
            refine XS.iload X103.here hx rfl (hb hby at_180) rfl ?_
            show Steps p.tables e below (T103.setTop (mkF m 182 #[.val (.int p1), .val (.int p2), .val (.int p3), .val (.int p4), .val (.int p5), .val (.int zz), .val (.int va), .val (.int vb), .val (.int vc), .val (.int vd), .val (.ref b1), .val (.ref b7), .val (.int (2 : Int32)), .unset] [(.int (2 : Int32))])) t
            refine XS.iconst X103.here hx rfl (hb hby at_182) ?_
            show Steps p.tables e below (T103.setTop (mkF m 183 #[.val (.int p1), .val (.int p2), .val (.int p3), .val (.int p4), .val (.int p5), .val (.int zz), .val (.int va), .val (.int vb), .val (.int vc), .val (.int vd), .val (.ref b1), .val (.ref b7), .val (.int (2 : Int32)), .unset] [(.int (1 : Int32)), (.int (2 : Int32))])) t
            refine XS.iadd X103.here hx rfl (hb hby at_183) rfl ?_
            show Steps p.tables e below (T103.setTop (mkF m 184 #[.val (.int p1), .val (.int p2), .val (.int p3), .val (.int p4), .val (.int p5), .val (.int zz), .val (.int va), .val (.int vb), .val (.int vc), .val (.int vd), .val (.ref b1), .val (.ref b7), .val (.int (2 : Int32)), .unset] [(.int (3 : Int32))])) t
            refine XS.istore X103.here hx rfl (hb hby at_184) rfl (l' := #[.val (.int p1), .val (.int p2), .val (.int p3), .val (.int p4), .val (.int p5), .val (.int zz), .val (.int va), .val (.int vb), .val (.int vc), .val (.int vd), .val (.ref b1), .val (.ref b7), .val (.int (3 : Int32)), .unset]) rfl ?_
            exact k
          have hW105 : (own_ins (own_ins (own_ins [va] vb) vc) vd) = [va, vb, vd] := by simp [own_ins, hc109_33, hc129_85, hc156_86, hc163_94]
          have hJ105 := hI
          rw [hW105] at hJ105
          have c106 := (Exa.wr W103 (Exa.wr W83 (Exa.wr W8 (Exa.ext E7 DE6))))
          have c107 := (Fld.other W103 (Fld.other W83 (Fld.other W8 (Fld.ext E7 DM6) (Or.inl ne_b1_b7)) (Or.inl ne_b1_b7)) (Or.inl ne_b1_b7))
          have c108 := (Fld.other W103 (Fld.other W83 (Fld.other W8 (Fld.ext E7 DP6) (Or.inl ne_b1_b7)) (Or.inl ne_b1_b7)) (Or.inl ne_b1_b7))
          have c109 := (Fld.other W103 (Fld.other W83 (Fld.other W8 (Fld.ext E7 DZ6) (Or.inl ne_b1_b7)) (Or.inl ne_b1_b7)) (Or.inl ne_b1_b7))
          have c110 := (own_Ar.other (own_Ar.other (own_Ar.other (own_Ar.ext DA6 E7) W8 ne_bm2_b7) W83 ne_bm2_b7) W103 ne_bm2_b7)
          have c111 := (own_Ar.other (own_Ar.other (own_Ar.other (own_Ar.ext DB6 E7) W8 ne_bp2_b7) W83 ne_bp2_b7) W103 ne_bp2_b7)
          exact J _ _ _ _ _ N104 X103 e103 (Nat.le_trans Z0 K104.1) ⟨c106, c107, c108, c109, c110, c111⟩ V103 (own_done zz _ _ hJ105 (3 : Int32) rfl _ (by
              intro i hi
              have hi2 : i = 0 ∨ i = 1 ∨ i = 2 := by simp at hi; omega
              rcases hi2 with rfl | rfl | rfl <;> rfl)) (own_z zz _ _ hJ105 (3 : Int32) rfl) (by decide)
    · refine own_via (S' := T83.setTop (mkF m 132 #[.val (.int p1), .val (.int p2), .val (.int p3), .val (.int p4), .val (.int p5), .val (.int zz), .val (.int va), .val (.int vb), .val (.int vc), .val (.int vd), .val (.ref b1), .val (.ref b7), .val (.int (2 : Int32)), .unset] [])) (fun t k => XS.icmpNo (g := (mkF m 129 #[.val (.int p1), .val (.int p2), .val (.int p3), .val (.int p4), .val (.int p5), .val (.int zz), .val (.int va), .val (.int vb), .val (.int vc), .val (.int vd), .val (.ref b1), .val (.ref b7), .val (.int (2 : Int32)), .unset] [(.int va), (.int vc)])) X83.here hx rfl (hb hby at_129) rfl (feq hc129_85).1 k) ?_
      refine own_via (S' := T83.setTop (mkF m 136 #[.val (.int p1), .val (.int p2), .val (.int p3), .val (.int p4), .val (.int p5), .val (.int zz), .val (.int va), .val (.int vb), .val (.int vc), .val (.int vd), .val (.ref b1), .val (.ref b7), .val (.int (2 : Int32)), .unset] [(.int vb), (.int vc)])) (fun t k => ?_) ?_
      · show Steps p.tables e below (T83.setTop (mkF m 132 #[.val (.int p1), .val (.int p2), .val (.int p3), .val (.int p4), .val (.int p5), .val (.int zz), .val (.int va), .val (.int vb), .val (.int vc), .val (.int vd), .val (.ref b1), .val (.ref b7), .val (.int (2 : Int32)), .unset] [])) t
        refine XS.iload X83.here hx rfl (hb hby at_132) rfl ?_
        show Steps p.tables e below (T83.setTop (mkF m 134 #[.val (.int p1), .val (.int p2), .val (.int p3), .val (.int p4), .val (.int p5), .val (.int zz), .val (.int va), .val (.int vb), .val (.int vc), .val (.int vd), .val (.ref b1), .val (.ref b7), .val (.int (2 : Int32)), .unset] [(.int vc)])) t
        refine XS.iload X83.here hx rfl (hb hby at_134) rfl ?_
        exact k
      by_cases hc136_112 : vc = vb
      · refine own_via (S' := T83.setTop (mkF m 152 #[.val (.int p1), .val (.int p2), .val (.int p3), .val (.int p4), .val (.int p5), .val (.int zz), .val (.int va), .val (.int vb), .val (.int vc), .val (.int vd), .val (.ref b1), .val (.ref b7), .val (.int (2 : Int32)), .unset] [])) (fun t k => XS.icmpYes (g := (mkF m 136 #[.val (.int p1), .val (.int p2), .val (.int p3), .val (.int p4), .val (.int p5), .val (.int zz), .val (.int va), .val (.int vb), .val (.int vc), .val (.int vd), .val (.ref b1), .val (.ref b7), .val (.int (2 : Int32)), .unset] [(.int vb), (.int vc)])) X83.here hx rfl (pc0 := 136) (pc' := 152) rfl (hb hby at_136) rfl (teq hc136_112).1 (by decide) (by decide) k) ?_
        refine own_via (S' := T83.setTop (mkF m 156 #[.val (.int p1), .val (.int p2), .val (.int p3), .val (.int p4), .val (.int p5), .val (.int zz), .val (.int va), .val (.int vb), .val (.int vc), .val (.int vd), .val (.ref b1), .val (.ref b7), .val (.int (2 : Int32)), .unset] [(.int va), (.int vd)])) (fun t k => ?_) ?_
        · show Steps p.tables e below (T83.setTop (mkF m 152 #[.val (.int p1), .val (.int p2), .val (.int p3), .val (.int p4), .val (.int p5), .val (.int zz), .val (.int va), .val (.int vb), .val (.int vc), .val (.int vd), .val (.ref b1), .val (.ref b7), .val (.int (2 : Int32)), .unset] [])) t
          refine XS.iload X83.here hx rfl (hb hby at_152) rfl ?_
          show Steps p.tables e below (T83.setTop (mkF m 154 #[.val (.int p1), .val (.int p2), .val (.int p3), .val (.int p4), .val (.int p5), .val (.int zz), .val (.int va), .val (.int vb), .val (.int vc), .val (.int vd), .val (.ref b1), .val (.ref b7), .val (.int (2 : Int32)), .unset] [(.int vd)])) t
          refine XS.iload X83.here hx rfl (hb hby at_154) rfl ?_
          exact k
        by_cases hc156_113 : vd = va
        · refine own_via (S' := T83.setTop (mkF m 186 #[.val (.int p1), .val (.int p2), .val (.int p3), .val (.int p4), .val (.int p5), .val (.int zz), .val (.int va), .val (.int vb), .val (.int vc), .val (.int vd), .val (.ref b1), .val (.ref b7), .val (.int (2 : Int32)), .unset] [])) (fun t k => XS.icmpYes (g := (mkF m 156 #[.val (.int p1), .val (.int p2), .val (.int p3), .val (.int p4), .val (.int p5), .val (.int zz), .val (.int va), .val (.int vb), .val (.int vc), .val (.int vd), .val (.ref b1), .val (.ref b7), .val (.int (2 : Int32)), .unset] [(.int va), (.int vd)])) X83.here hx rfl (pc0 := 156) (pc' := 186) rfl (hb hby at_156) rfl (teq hc156_113).1 (by decide) (by decide) k) ?_
          have hW114 : (own_ins (own_ins (own_ins [va] vb) vc) vd) = [va, vb] := by simp [own_ins, hc109_33, hc129_85, hc136_112, hc156_113]
          have hJ114 := hI
          rw [hW114] at hJ114
          have c115 := (Exa.wr W83 (Exa.wr W8 (Exa.ext E7 DE6)))
          have c116 := (Fld.other W83 (Fld.other W8 (Fld.ext E7 DM6) (Or.inl ne_b1_b7)) (Or.inl ne_b1_b7))
          have c117 := (Fld.other W83 (Fld.other W8 (Fld.ext E7 DP6) (Or.inl ne_b1_b7)) (Or.inl ne_b1_b7))
          have c118 := (Fld.other W83 (Fld.other W8 (Fld.ext E7 DZ6) (Or.inl ne_b1_b7)) (Or.inl ne_b1_b7))
          have c119 := (own_Ar.other (own_Ar.other (own_Ar.ext DA6 E7) W8 ne_bm2_b7) W83 ne_bm2_b7)
          have c120 := (own_Ar.other (own_Ar.other (own_Ar.ext DB6 E7) W8 ne_bp2_b7) W83 ne_bp2_b7)
          exact J _ _ _ _ _ N84 X83 e83 (Nat.le_trans Z0 K84.1) ⟨c115, c116, c117, c118, c119, c120⟩ V83 (own_done zz _ _ hJ114 (2 : Int32) rfl _ (by
              intro i hi
              have hi2 : i = 0 ∨ i = 1 := by simp at hi; omega
              rcases hi2 with rfl | rfl <;> rfl)) (own_z zz _ _ hJ114 (2 : Int32) rfl) (by decide)
        · refine own_via (S' := T83.setTop (mkF m 159 #[.val (.int p1), .val (.int p2), .val (.int p3), .val (.int p4), .val (.int p5), .val (.int zz), .val (.int va), .val (.int vb), .val (.int vc), .val (.int vd), .val (.ref b1), .val (.ref b7), .val (.int (2 : Int32)), .unset] [])) (fun t k => XS.icmpNo (g := (mkF m 156 #[.val (.int p1), .val (.int p2), .val (.int p3), .val (.int p4), .val (.int p5), .val (.int zz), .val (.int va), .val (.int vb), .val (.int vc), .val (.int vd), .val (.ref b1), .val (.ref b7), .val (.int (2 : Int32)), .unset] [(.int va), (.int vd)])) X83.here hx rfl (hb hby at_156) rfl (feq hc156_113).1 k) ?_
          refine own_via (S' := T83.setTop (mkF m 163 #[.val (.int p1), .val (.int p2), .val (.int p3), .val (.int p4), .val (.int p5), .val (.int zz), .val (.int va), .val (.int vb), .val (.int vc), .val (.int vd), .val (.ref b1), .val (.ref b7), .val (.int (2 : Int32)), .unset] [(.int vb), (.int vd)])) (fun t k => ?_) ?_
          · show Steps p.tables e below (T83.setTop (mkF m 159 #[.val (.int p1), .val (.int p2), .val (.int p3), .val (.int p4), .val (.int p5), .val (.int zz), .val (.int va), .val (.int vb), .val (.int vc), .val (.int vd), .val (.ref b1), .val (.ref b7), .val (.int (2 : Int32)), .unset] [])) t
            refine XS.iload X83.here hx rfl (hb hby at_159) rfl ?_
            show Steps p.tables e below (T83.setTop (mkF m 161 #[.val (.int p1), .val (.int p2), .val (.int p3), .val (.int p4), .val (.int p5), .val (.int zz), .val (.int va), .val (.int vb), .val (.int vc), .val (.int vd), .val (.ref b1), .val (.ref b7), .val (.int (2 : Int32)), .unset] [(.int vd)])) t
            refine XS.iload X83.here hx rfl (hb hby at_161) rfl ?_
            exact k
          by_cases hc163_121 : vd = vb
          · refine own_via (S' := T83.setTop (mkF m 186 #[.val (.int p1), .val (.int p2), .val (.int p3), .val (.int p4), .val (.int p5), .val (.int zz), .val (.int va), .val (.int vb), .val (.int vc), .val (.int vd), .val (.ref b1), .val (.ref b7), .val (.int (2 : Int32)), .unset] [])) (fun t k => XS.icmpYes (g := (mkF m 163 #[.val (.int p1), .val (.int p2), .val (.int p3), .val (.int p4), .val (.int p5), .val (.int zz), .val (.int va), .val (.int vb), .val (.int vc), .val (.int vd), .val (.ref b1), .val (.ref b7), .val (.int (2 : Int32)), .unset] [(.int vb), (.int vd)])) X83.here hx rfl (pc0 := 163) (pc' := 186) rfl (hb hby at_163) rfl (teq hc163_121).1 (by decide) (by decide) k) ?_
            have hW122 : (own_ins (own_ins (own_ins [va] vb) vc) vd) = [va, vb] := by simp [own_ins, hc109_33, hc129_85, hc136_112, hc156_113, hc163_121]
            have hJ122 := hI
            rw [hW122] at hJ122
            have c123 := (Exa.wr W83 (Exa.wr W8 (Exa.ext E7 DE6)))
            have c124 := (Fld.other W83 (Fld.other W8 (Fld.ext E7 DM6) (Or.inl ne_b1_b7)) (Or.inl ne_b1_b7))
            have c125 := (Fld.other W83 (Fld.other W8 (Fld.ext E7 DP6) (Or.inl ne_b1_b7)) (Or.inl ne_b1_b7))
            have c126 := (Fld.other W83 (Fld.other W8 (Fld.ext E7 DZ6) (Or.inl ne_b1_b7)) (Or.inl ne_b1_b7))
            have c127 := (own_Ar.other (own_Ar.other (own_Ar.ext DA6 E7) W8 ne_bm2_b7) W83 ne_bm2_b7)
            have c128 := (own_Ar.other (own_Ar.other (own_Ar.ext DB6 E7) W8 ne_bp2_b7) W83 ne_bp2_b7)
            exact J _ _ _ _ _ N84 X83 e83 (Nat.le_trans Z0 K84.1) ⟨c123, c124, c125, c126, c127, c128⟩ V83 (own_done zz _ _ hJ122 (2 : Int32) rfl _ (by
                intro i hi
                have hi2 : i = 0 ∨ i = 1 := by simp at hi; omega
                rcases hi2 with rfl | rfl <;> rfl)) (own_z zz _ _ hJ122 (2 : Int32) rfl) (by decide)
          · refine own_via (S' := T83.setTop (mkF m 166 #[.val (.int p1), .val (.int p2), .val (.int p3), .val (.int p4), .val (.int p5), .val (.int zz), .val (.int va), .val (.int vb), .val (.int vc), .val (.int vd), .val (.ref b1), .val (.ref b7), .val (.int (2 : Int32)), .unset] [])) (fun t k => XS.icmpNo (g := (mkF m 163 #[.val (.int p1), .val (.int p2), .val (.int p3), .val (.int p4), .val (.int p5), .val (.int zz), .val (.int va), .val (.int vb), .val (.int vc), .val (.int vd), .val (.ref b1), .val (.ref b7), .val (.int (2 : Int32)), .unset] [(.int vb), (.int vd)])) X83.here hx rfl (hb hby at_163) rfl (feq hc163_121).1 k) ?_
            refine own_via (S' := T83.setTop (mkF m 170 #[.val (.int p1), .val (.int p2), .val (.int p3), .val (.int p4), .val (.int p5), .val (.int zz), .val (.int va), .val (.int vb), .val (.int vc), .val (.int vd), .val (.ref b1), .val (.ref b7), .val (.int (2 : Int32)), .unset] [(.int vc), (.int vd)])) (fun t k => ?_) ?_
            · show Steps p.tables e below (T83.setTop (mkF m 166 #[.val (.int p1), .val (.int p2), .val (.int p3), .val (.int p4), .val (.int p5), .val (.int zz), .val (.int va), .val (.int vb), .val (.int vc), .val (.int vd), .val (.ref b1), .val (.ref b7), .val (.int (2 : Int32)), .unset] [])) t
              refine XS.iload X83.here hx rfl (hb hby at_166) rfl ?_
              show Steps p.tables e below (T83.setTop (mkF m 168 #[.val (.int p1), .val (.int p2), .val (.int p3), .val (.int p4), .val (.int p5), .val (.int zz), .val (.int va), .val (.int vb), .val (.int vc), .val (.int vd), .val (.ref b1), .val (.ref b7), .val (.int (2 : Int32)), .unset] [(.int vd)])) t
              refine XS.iload X83.here hx rfl (hb hby at_168) rfl ?_
              exact k
            refine own_via (S' := T83.setTop (mkF m 173 #[.val (.int p1), .val (.int p2), .val (.int p3), .val (.int p4), .val (.int p5), .val (.int zz), .val (.int va), .val (.int vb), .val (.int vc), .val (.int vd), .val (.ref b1), .val (.ref b7), .val (.int (2 : Int32)), .unset] [])) (fun t k => XS.icmpNo (g := (mkF m 170 #[.val (.int p1), .val (.int p2), .val (.int p3), .val (.int p4), .val (.int p5), .val (.int zz), .val (.int va), .val (.int vb), .val (.int vc), .val (.int vd), .val (.ref b1), .val (.ref b7), .val (.int (2 : Int32)), .unset] [(.int vc), (.int vd)])) X83.here hx rfl (hb hby at_170) rfl (feq (by grind)).1 k) ?_
            refine own_via (S' := T83.setTop (mkF m 179 #[.val (.int p1), .val (.int p2), .val (.int p3), .val (.int p4), .val (.int p5), .val (.int zz), .val (.int va), .val (.int vb), .val (.int vc), .val (.int vd), .val (.ref b1), .val (.ref b7), .val (.int (2 : Int32)), .unset] [(.int vd), (.int (2 : Int32)), (.ref b7)])) (fun t k => ?_) ?_
            · show Steps p.tables e below (T83.setTop (mkF m 173 #[.val (.int p1), .val (.int p2), .val (.int p3), .val (.int p4), .val (.int p5), .val (.int zz), .val (.int va), .val (.int vb), .val (.int vc), .val (.int vd), .val (.ref b1), .val (.ref b7), .val (.int (2 : Int32)), .unset] [])) t
              refine XS.aload X83.here hx rfl (hb hby at_173) rfl rfl ?_
              show Steps p.tables e below (T83.setTop (mkF m 175 #[.val (.int p1), .val (.int p2), .val (.int p3), .val (.int p4), .val (.int p5), .val (.int zz), .val (.int va), .val (.int vb), .val (.int vc), .val (.int vd), .val (.ref b1), .val (.ref b7), .val (.int (2 : Int32)), .unset] [(.ref b7)])) t
              refine XS.iload X83.here hx rfl (hb hby at_175) rfl ?_
              show Steps p.tables e below (T83.setTop (mkF m 177 #[.val (.int p1), .val (.int p2), .val (.int p3), .val (.int p4), .val (.int p5), .val (.int zz), .val (.int va), .val (.int vb), .val (.int vc), .val (.int vd), .val (.ref b1), .val (.ref b7), .val (.int (2 : Int32)), .unset] [(.int (2 : Int32)), (.ref b7)])) t
              refine XS.iload X83.here hx rfl (hb hby at_177) rfl ?_
              exact k
            obtain ⟨⟨cl130, Ar130, q130, S130, Nn130, H130, G130⟩, Le130⟩ := id V83
            have hin130 : ¬ ((2 : Int32) < 0 ∨ cl130.slots.size ≤ ((2 : Int32)).toNatClampNeg) := inb_of S130 ⟨by decide, by decide⟩
            obtain ⟨T130, h130, X130, e130, W130, st130⟩ := stI X83 hx hZ e83 Ar130 (j := (2 : Int32)) hin130 (g := (mkF m 179 #[.val (.int p1), .val (.int p2), .val (.int p3), .val (.int p4), .val (.int p5), .val (.int zz), .val (.int va), .val (.int vb), .val (.int vc), .val (.int vd), .val (.ref b1), .val (.ref b7), .val (.int (2 : Int32)), .unset] [(.int vd), (.int (2 : Int32)), (.ref b7)])) rfl rfl (hb hby at_179)
            have V130 : own_Ar Z h130 b7 k7 .int (4 : Int32) (List.map Value.int ((((List.replicate ((4 : Int32)).toNatClampNeg (0 : Int32)).set ((0 : Int32)).toNatClampNeg va).set ((1 : Int32)).toNatClampNeg vb).set ((2 : Int32)).toNatClampNeg vd)) (.int (0 : Int32)) := own_Ar.setI Ar130 q130 S130 Nn130 H130 G130 rfl W130 hin130 Le130
            have K131 : Keep h0 h130 [] := Keep.wr K84 W130 (Or.inr sz_b7)
            have N131 := Fr.snoc X130 N84 g_b7
            refine own_via st130 ?_
            show own_G p.tables e below _ (T130.setTop (mkF m 180 #[.val (.int p1), .val (.int p2), .val (.int p3), .val (.int p4), .val (.int p5), .val (.int zz), .val (.int va), .val (.int vb), .val (.int vc), .val (.int vd), .val (.ref b1), .val (.ref b7), .val (.int (2 : Int32)), .unset] []))
            refine own_via (S' := T130.setTop (mkF m 186 #[.val (.int p1), .val (.int p2), .val (.int p3), .val (.int p4), .val (.int p5), .val (.int zz), .val (.int va), .val (.int vb), .val (.int vc), .val (.int vd), .val (.ref b1), .val (.ref b7), .val (.int (3 : Int32)), .unset] [])) (fun t k => ?_) ?_
            · show Steps p.tables e below (T130.setTop (mkF m 180 #[.val (.int p1), .val (.int p2), .val (.int p3), .val (.int p4), .val (.int p5), .val (.int zz), .val (.int va), .val (.int vb), .val (.int vc), .val (.int vd), .val (.ref b1), .val (.ref b7), .val (.int (2 : Int32)), .unset] [])) t
              refine XS.iload X130.here hx rfl (hb hby at_180) rfl ?_
              show Steps p.tables e below (T130.setTop (mkF m 182 #[.val (.int p1), .val (.int p2), .val (.int p3), .val (.int p4), .val (.int p5), .val (.int zz), .val (.int va), .val (.int vb), .val (.int vc), .val (.int vd), .val (.ref b1), .val (.ref b7), .val (.int (2 : Int32)), .unset] [(.int (2 : Int32))])) t
              refine XS.iconst X130.here hx rfl (hb hby at_182) ?_
              show Steps p.tables e below (T130.setTop (mkF m 183 #[.val (.int p1), .val (.int p2), .val (.int p3), .val (.int p4), .val (.int p5), .val (.int zz), .val (.int va), .val (.int vb), .val (.int vc), .val (.int vd), .val (.ref b1), .val (.ref b7), .val (.int (2 : Int32)), .unset] [(.int (1 : Int32)), (.int (2 : Int32))])) t
              refine XS.iadd X130.here hx rfl (hb hby at_183) rfl ?_
              show Steps p.tables e below (T130.setTop (mkF m 184 #[.val (.int p1), .val (.int p2), .val (.int p3), .val (.int p4), .val (.int p5), .val (.int zz), .val (.int va), .val (.int vb), .val (.int vc), .val (.int vd), .val (.ref b1), .val (.ref b7), .val (.int (2 : Int32)), .unset] [(.int (3 : Int32))])) t
              refine XS.istore X130.here hx rfl (hb hby at_184) rfl (l' := #[.val (.int p1), .val (.int p2), .val (.int p3), .val (.int p4), .val (.int p5), .val (.int zz), .val (.int va), .val (.int vb), .val (.int vc), .val (.int vd), .val (.ref b1), .val (.ref b7), .val (.int (3 : Int32)), .unset]) rfl ?_
              exact k
            have hW132 : (own_ins (own_ins (own_ins [va] vb) vc) vd) = [va, vb, vd] := by simp [own_ins, hc109_33, hc129_85, hc136_112, hc156_113, hc163_121]
            have hJ132 := hI
            rw [hW132] at hJ132
            have c133 := (Exa.wr W130 (Exa.wr W83 (Exa.wr W8 (Exa.ext E7 DE6))))
            have c134 := (Fld.other W130 (Fld.other W83 (Fld.other W8 (Fld.ext E7 DM6) (Or.inl ne_b1_b7)) (Or.inl ne_b1_b7)) (Or.inl ne_b1_b7))
            have c135 := (Fld.other W130 (Fld.other W83 (Fld.other W8 (Fld.ext E7 DP6) (Or.inl ne_b1_b7)) (Or.inl ne_b1_b7)) (Or.inl ne_b1_b7))
            have c136 := (Fld.other W130 (Fld.other W83 (Fld.other W8 (Fld.ext E7 DZ6) (Or.inl ne_b1_b7)) (Or.inl ne_b1_b7)) (Or.inl ne_b1_b7))
            have c137 := (own_Ar.other (own_Ar.other (own_Ar.other (own_Ar.ext DA6 E7) W8 ne_bm2_b7) W83 ne_bm2_b7) W130 ne_bm2_b7)
            have c138 := (own_Ar.other (own_Ar.other (own_Ar.other (own_Ar.ext DB6 E7) W8 ne_bp2_b7) W83 ne_bp2_b7) W130 ne_bp2_b7)
            exact J _ _ _ _ _ N131 X130 e130 (Nat.le_trans Z0 K131.1) ⟨c133, c134, c135, c136, c137, c138⟩ V130 (own_done zz _ _ hJ132 (3 : Int32) rfl _ (by
                intro i hi
                have hi2 : i = 0 ∨ i = 1 ∨ i = 2 := by simp at hi; omega
                rcases hi2 with rfl | rfl | rfl <;> rfl)) (own_z zz _ _ hJ132 (3 : Int32) rfl) (by decide)
      · refine own_via (S' := T83.setTop (mkF m 139 #[.val (.int p1), .val (.int p2), .val (.int p3), .val (.int p4), .val (.int p5), .val (.int zz), .val (.int va), .val (.int vb), .val (.int vc), .val (.int vd), .val (.ref b1), .val (.ref b7), .val (.int (2 : Int32)), .unset] [])) (fun t k => XS.icmpNo (g := (mkF m 136 #[.val (.int p1), .val (.int p2), .val (.int p3), .val (.int p4), .val (.int p5), .val (.int zz), .val (.int va), .val (.int vb), .val (.int vc), .val (.int vd), .val (.ref b1), .val (.ref b7), .val (.int (2 : Int32)), .unset] [(.int vb), (.int vc)])) X83.here hx rfl (hb hby at_136) rfl (feq hc136_112).1 k) ?_
        refine own_via (S' := T83.setTop (mkF m 145 #[.val (.int p1), .val (.int p2), .val (.int p3), .val (.int p4), .val (.int p5), .val (.int zz), .val (.int va), .val (.int vb), .val (.int vc), .val (.int vd), .val (.ref b1), .val (.ref b7), .val (.int (2 : Int32)), .unset] [(.int vc), (.int (2 : Int32)), (.ref b7)])) (fun t k => ?_) ?_
        · show Steps p.tables e below (T83.setTop (mkF m 139 #[.val (.int p1), .val (.int p2), .val (.int p3), .val (.int p4), .val (.int p5), .val (.int zz), .val (.int va), .val (.int vb), .val (.int vc), .val (.int vd), .val (.ref b1), .val (.ref b7), .val (.int (2 : Int32)), .unset] [])) t
          refine XS.aload X83.here hx rfl (hb hby at_139) rfl rfl ?_
          show Steps p.tables e below (T83.setTop (mkF m 141 #[.val (.int p1), .val (.int p2), .val (.int p3), .val (.int p4), .val (.int p5), .val (.int zz), .val (.int va), .val (.int vb), .val (.int vc), .val (.int vd), .val (.ref b1), .val (.ref b7), .val (.int (2 : Int32)), .unset] [(.ref b7)])) t
          refine XS.iload X83.here hx rfl (hb hby at_141) rfl ?_
          show Steps p.tables e below (T83.setTop (mkF m 143 #[.val (.int p1), .val (.int p2), .val (.int p3), .val (.int p4), .val (.int p5), .val (.int zz), .val (.int va), .val (.int vb), .val (.int vc), .val (.int vd), .val (.ref b1), .val (.ref b7), .val (.int (2 : Int32)), .unset] [(.int (2 : Int32)), (.ref b7)])) t
          refine XS.iload X83.here hx rfl (hb hby at_143) rfl ?_
          exact k
        obtain ⟨⟨cl139, Ar139, q139, S139, Nn139, H139, G139⟩, Le139⟩ := id V83
        have hin139 : ¬ ((2 : Int32) < 0 ∨ cl139.slots.size ≤ ((2 : Int32)).toNatClampNeg) := inb_of S139 ⟨by decide, by decide⟩
        obtain ⟨T139, h139, X139, e139, W139, st139⟩ := stI X83 hx hZ e83 Ar139 (j := (2 : Int32)) hin139 (g := (mkF m 145 #[.val (.int p1), .val (.int p2), .val (.int p3), .val (.int p4), .val (.int p5), .val (.int zz), .val (.int va), .val (.int vb), .val (.int vc), .val (.int vd), .val (.ref b1), .val (.ref b7), .val (.int (2 : Int32)), .unset] [(.int vc), (.int (2 : Int32)), (.ref b7)])) rfl rfl (hb hby at_145)
        have V139 : own_Ar Z h139 b7 k7 .int (4 : Int32) (List.map Value.int ((((List.replicate ((4 : Int32)).toNatClampNeg (0 : Int32)).set ((0 : Int32)).toNatClampNeg va).set ((1 : Int32)).toNatClampNeg vb).set ((2 : Int32)).toNatClampNeg vc)) (.int (0 : Int32)) := own_Ar.setI Ar139 q139 S139 Nn139 H139 G139 rfl W139 hin139 Le139
        have K140 : Keep h0 h139 [] := Keep.wr K84 W139 (Or.inr sz_b7)
        have N140 := Fr.snoc X139 N84 g_b7
        refine own_via st139 ?_
        show own_G p.tables e below _ (T139.setTop (mkF m 146 #[.val (.int p1), .val (.int p2), .val (.int p3), .val (.int p4), .val (.int p5), .val (.int zz), .val (.int va), .val (.int vb), .val (.int vc), .val (.int vd), .val (.ref b1), .val (.ref b7), .val (.int (2 : Int32)), .unset] []))
        refine own_via (S' := T139.setTop (mkF m 156 #[.val (.int p1), .val (.int p2), .val (.int p3), .val (.int p4), .val (.int p5), .val (.int zz), .val (.int va), .val (.int vb), .val (.int vc), .val (.int vd), .val (.ref b1), .val (.ref b7), .val (.int (3 : Int32)), .unset] [(.int va), (.int vd)])) (fun t k => ?_) ?_
        · show Steps p.tables e below (T139.setTop (mkF m 146 #[.val (.int p1), .val (.int p2), .val (.int p3), .val (.int p4), .val (.int p5), .val (.int zz), .val (.int va), .val (.int vb), .val (.int vc), .val (.int vd), .val (.ref b1), .val (.ref b7), .val (.int (2 : Int32)), .unset] [])) t
          refine XS.iload X139.here hx rfl (hb hby at_146) rfl ?_
          show Steps p.tables e below (T139.setTop (mkF m 148 #[.val (.int p1), .val (.int p2), .val (.int p3), .val (.int p4), .val (.int p5), .val (.int zz), .val (.int va), .val (.int vb), .val (.int vc), .val (.int vd), .val (.ref b1), .val (.ref b7), .val (.int (2 : Int32)), .unset] [(.int (2 : Int32))])) t
          refine XS.iconst X139.here hx rfl (hb hby at_148) ?_
          show Steps p.tables e below (T139.setTop (mkF m 149 #[.val (.int p1), .val (.int p2), .val (.int p3), .val (.int p4), .val (.int p5), .val (.int zz), .val (.int va), .val (.int vb), .val (.int vc), .val (.int vd), .val (.ref b1), .val (.ref b7), .val (.int (2 : Int32)), .unset] [(.int (1 : Int32)), (.int (2 : Int32))])) t
          refine XS.iadd X139.here hx rfl (hb hby at_149) rfl ?_
          show Steps p.tables e below (T139.setTop (mkF m 150 #[.val (.int p1), .val (.int p2), .val (.int p3), .val (.int p4), .val (.int p5), .val (.int zz), .val (.int va), .val (.int vb), .val (.int vc), .val (.int vd), .val (.ref b1), .val (.ref b7), .val (.int (2 : Int32)), .unset] [(.int (3 : Int32))])) t
          refine XS.istore X139.here hx rfl (hb hby at_150) rfl (l' := #[.val (.int p1), .val (.int p2), .val (.int p3), .val (.int p4), .val (.int p5), .val (.int zz), .val (.int va), .val (.int vb), .val (.int vc), .val (.int vd), .val (.ref b1), .val (.ref b7), .val (.int (3 : Int32)), .unset]) rfl ?_
          show Steps p.tables e below (T139.setTop (mkF m 152 #[.val (.int p1), .val (.int p2), .val (.int p3), .val (.int p4), .val (.int p5), .val (.int zz), .val (.int va), .val (.int vb), .val (.int vc), .val (.int vd), .val (.ref b1), .val (.ref b7), .val (.int (3 : Int32)), .unset] [])) t
          refine XS.iload X139.here hx rfl (hb hby at_152) rfl ?_
          show Steps p.tables e below (T139.setTop (mkF m 154 #[.val (.int p1), .val (.int p2), .val (.int p3), .val (.int p4), .val (.int p5), .val (.int zz), .val (.int va), .val (.int vb), .val (.int vc), .val (.int vd), .val (.ref b1), .val (.ref b7), .val (.int (3 : Int32)), .unset] [(.int vd)])) t
          refine XS.iload X139.here hx rfl (hb hby at_154) rfl ?_
          exact k
        by_cases hc156_141 : vd = va
        · refine own_via (S' := T139.setTop (mkF m 186 #[.val (.int p1), .val (.int p2), .val (.int p3), .val (.int p4), .val (.int p5), .val (.int zz), .val (.int va), .val (.int vb), .val (.int vc), .val (.int vd), .val (.ref b1), .val (.ref b7), .val (.int (3 : Int32)), .unset] [])) (fun t k => XS.icmpYes (g := (mkF m 156 #[.val (.int p1), .val (.int p2), .val (.int p3), .val (.int p4), .val (.int p5), .val (.int zz), .val (.int va), .val (.int vb), .val (.int vc), .val (.int vd), .val (.ref b1), .val (.ref b7), .val (.int (3 : Int32)), .unset] [(.int va), (.int vd)])) X139.here hx rfl (pc0 := 156) (pc' := 186) rfl (hb hby at_156) rfl (teq hc156_141).1 (by decide) (by decide) k) ?_
          have hW142 : (own_ins (own_ins (own_ins [va] vb) vc) vd) = [va, vb, vc] := by simp [own_ins, hc109_33, hc129_85, hc136_112, hc156_141]
          have hJ142 := hI
          rw [hW142] at hJ142
          have c143 := (Exa.wr W139 (Exa.wr W83 (Exa.wr W8 (Exa.ext E7 DE6))))
          have c144 := (Fld.other W139 (Fld.other W83 (Fld.other W8 (Fld.ext E7 DM6) (Or.inl ne_b1_b7)) (Or.inl ne_b1_b7)) (Or.inl ne_b1_b7))
          have c145 := (Fld.other W139 (Fld.other W83 (Fld.other W8 (Fld.ext E7 DP6) (Or.inl ne_b1_b7)) (Or.inl ne_b1_b7)) (Or.inl ne_b1_b7))
          have c146 := (Fld.other W139 (Fld.other W83 (Fld.other W8 (Fld.ext E7 DZ6) (Or.inl ne_b1_b7)) (Or.inl ne_b1_b7)) (Or.inl ne_b1_b7))
          have c147 := (own_Ar.other (own_Ar.other (own_Ar.other (own_Ar.ext DA6 E7) W8 ne_bm2_b7) W83 ne_bm2_b7) W139 ne_bm2_b7)
          have c148 := (own_Ar.other (own_Ar.other (own_Ar.other (own_Ar.ext DB6 E7) W8 ne_bp2_b7) W83 ne_bp2_b7) W139 ne_bp2_b7)
          exact J _ _ _ _ _ N140 X139 e139 (Nat.le_trans Z0 K140.1) ⟨c143, c144, c145, c146, c147, c148⟩ V139 (own_done zz _ _ hJ142 (3 : Int32) rfl _ (by
              intro i hi
              have hi2 : i = 0 ∨ i = 1 ∨ i = 2 := by simp at hi; omega
              rcases hi2 with rfl | rfl | rfl <;> rfl)) (own_z zz _ _ hJ142 (3 : Int32) rfl) (by decide)
        · refine own_via (S' := T139.setTop (mkF m 159 #[.val (.int p1), .val (.int p2), .val (.int p3), .val (.int p4), .val (.int p5), .val (.int zz), .val (.int va), .val (.int vb), .val (.int vc), .val (.int vd), .val (.ref b1), .val (.ref b7), .val (.int (3 : Int32)), .unset] [])) (fun t k => XS.icmpNo (g := (mkF m 156 #[.val (.int p1), .val (.int p2), .val (.int p3), .val (.int p4), .val (.int p5), .val (.int zz), .val (.int va), .val (.int vb), .val (.int vc), .val (.int vd), .val (.ref b1), .val (.ref b7), .val (.int (3 : Int32)), .unset] [(.int va), (.int vd)])) X139.here hx rfl (hb hby at_156) rfl (feq hc156_141).1 k) ?_
          refine own_via (S' := T139.setTop (mkF m 163 #[.val (.int p1), .val (.int p2), .val (.int p3), .val (.int p4), .val (.int p5), .val (.int zz), .val (.int va), .val (.int vb), .val (.int vc), .val (.int vd), .val (.ref b1), .val (.ref b7), .val (.int (3 : Int32)), .unset] [(.int vb), (.int vd)])) (fun t k => ?_) ?_
          · show Steps p.tables e below (T139.setTop (mkF m 159 #[.val (.int p1), .val (.int p2), .val (.int p3), .val (.int p4), .val (.int p5), .val (.int zz), .val (.int va), .val (.int vb), .val (.int vc), .val (.int vd), .val (.ref b1), .val (.ref b7), .val (.int (3 : Int32)), .unset] [])) t
            refine XS.iload X139.here hx rfl (hb hby at_159) rfl ?_
            show Steps p.tables e below (T139.setTop (mkF m 161 #[.val (.int p1), .val (.int p2), .val (.int p3), .val (.int p4), .val (.int p5), .val (.int zz), .val (.int va), .val (.int vb), .val (.int vc), .val (.int vd), .val (.ref b1), .val (.ref b7), .val (.int (3 : Int32)), .unset] [(.int vd)])) t
            refine XS.iload X139.here hx rfl (hb hby at_161) rfl ?_
            exact k
          by_cases hc163_149 : vd = vb
          · refine own_via (S' := T139.setTop (mkF m 186 #[.val (.int p1), .val (.int p2), .val (.int p3), .val (.int p4), .val (.int p5), .val (.int zz), .val (.int va), .val (.int vb), .val (.int vc), .val (.int vd), .val (.ref b1), .val (.ref b7), .val (.int (3 : Int32)), .unset] [])) (fun t k => XS.icmpYes (g := (mkF m 163 #[.val (.int p1), .val (.int p2), .val (.int p3), .val (.int p4), .val (.int p5), .val (.int zz), .val (.int va), .val (.int vb), .val (.int vc), .val (.int vd), .val (.ref b1), .val (.ref b7), .val (.int (3 : Int32)), .unset] [(.int vb), (.int vd)])) X139.here hx rfl (pc0 := 163) (pc' := 186) rfl (hb hby at_163) rfl (teq hc163_149).1 (by decide) (by decide) k) ?_
            have hW150 : (own_ins (own_ins (own_ins [va] vb) vc) vd) = [va, vb, vc] := by simp [own_ins, hc109_33, hc129_85, hc136_112, hc156_141, hc163_149]
            have hJ150 := hI
            rw [hW150] at hJ150
            have c151 := (Exa.wr W139 (Exa.wr W83 (Exa.wr W8 (Exa.ext E7 DE6))))
            have c152 := (Fld.other W139 (Fld.other W83 (Fld.other W8 (Fld.ext E7 DM6) (Or.inl ne_b1_b7)) (Or.inl ne_b1_b7)) (Or.inl ne_b1_b7))
            have c153 := (Fld.other W139 (Fld.other W83 (Fld.other W8 (Fld.ext E7 DP6) (Or.inl ne_b1_b7)) (Or.inl ne_b1_b7)) (Or.inl ne_b1_b7))
            have c154 := (Fld.other W139 (Fld.other W83 (Fld.other W8 (Fld.ext E7 DZ6) (Or.inl ne_b1_b7)) (Or.inl ne_b1_b7)) (Or.inl ne_b1_b7))
            have c155 := (own_Ar.other (own_Ar.other (own_Ar.other (own_Ar.ext DA6 E7) W8 ne_bm2_b7) W83 ne_bm2_b7) W139 ne_bm2_b7)
            have c156 := (own_Ar.other (own_Ar.other (own_Ar.other (own_Ar.ext DB6 E7) W8 ne_bp2_b7) W83 ne_bp2_b7) W139 ne_bp2_b7)
            exact J _ _ _ _ _ N140 X139 e139 (Nat.le_trans Z0 K140.1) ⟨c151, c152, c153, c154, c155, c156⟩ V139 (own_done zz _ _ hJ150 (3 : Int32) rfl _ (by
                intro i hi
                have hi2 : i = 0 ∨ i = 1 ∨ i = 2 := by simp at hi; omega
                rcases hi2 with rfl | rfl | rfl <;> rfl)) (own_z zz _ _ hJ150 (3 : Int32) rfl) (by decide)
          · refine own_via (S' := T139.setTop (mkF m 166 #[.val (.int p1), .val (.int p2), .val (.int p3), .val (.int p4), .val (.int p5), .val (.int zz), .val (.int va), .val (.int vb), .val (.int vc), .val (.int vd), .val (.ref b1), .val (.ref b7), .val (.int (3 : Int32)), .unset] [])) (fun t k => XS.icmpNo (g := (mkF m 163 #[.val (.int p1), .val (.int p2), .val (.int p3), .val (.int p4), .val (.int p5), .val (.int zz), .val (.int va), .val (.int vb), .val (.int vc), .val (.int vd), .val (.ref b1), .val (.ref b7), .val (.int (3 : Int32)), .unset] [(.int vb), (.int vd)])) X139.here hx rfl (hb hby at_163) rfl (feq hc163_149).1 k) ?_
            refine own_via (S' := T139.setTop (mkF m 170 #[.val (.int p1), .val (.int p2), .val (.int p3), .val (.int p4), .val (.int p5), .val (.int zz), .val (.int va), .val (.int vb), .val (.int vc), .val (.int vd), .val (.ref b1), .val (.ref b7), .val (.int (3 : Int32)), .unset] [(.int vc), (.int vd)])) (fun t k => ?_) ?_
            · show Steps p.tables e below (T139.setTop (mkF m 166 #[.val (.int p1), .val (.int p2), .val (.int p3), .val (.int p4), .val (.int p5), .val (.int zz), .val (.int va), .val (.int vb), .val (.int vc), .val (.int vd), .val (.ref b1), .val (.ref b7), .val (.int (3 : Int32)), .unset] [])) t
              refine XS.iload X139.here hx rfl (hb hby at_166) rfl ?_
              show Steps p.tables e below (T139.setTop (mkF m 168 #[.val (.int p1), .val (.int p2), .val (.int p3), .val (.int p4), .val (.int p5), .val (.int zz), .val (.int va), .val (.int vb), .val (.int vc), .val (.int vd), .val (.ref b1), .val (.ref b7), .val (.int (3 : Int32)), .unset] [(.int vd)])) t
              refine XS.iload X139.here hx rfl (hb hby at_168) rfl ?_
              exact k
            by_cases hc170_157 : vd = vc
            · refine own_via (S' := T139.setTop (mkF m 186 #[.val (.int p1), .val (.int p2), .val (.int p3), .val (.int p4), .val (.int p5), .val (.int zz), .val (.int va), .val (.int vb), .val (.int vc), .val (.int vd), .val (.ref b1), .val (.ref b7), .val (.int (3 : Int32)), .unset] [])) (fun t k => XS.icmpYes (g := (mkF m 170 #[.val (.int p1), .val (.int p2), .val (.int p3), .val (.int p4), .val (.int p5), .val (.int zz), .val (.int va), .val (.int vb), .val (.int vc), .val (.int vd), .val (.ref b1), .val (.ref b7), .val (.int (3 : Int32)), .unset] [(.int vc), (.int vd)])) X139.here hx rfl (pc0 := 170) (pc' := 186) rfl (hb hby at_170) rfl (teq hc170_157).1 (by decide) (by decide) k) ?_
              have hW158 : (own_ins (own_ins (own_ins [va] vb) vc) vd) = [va, vb, vc] := by simp [own_ins, hc109_33, hc129_85, hc136_112, hc156_141, hc163_149, hc170_157]
              have hJ158 := hI
              rw [hW158] at hJ158
              have c159 := (Exa.wr W139 (Exa.wr W83 (Exa.wr W8 (Exa.ext E7 DE6))))
              have c160 := (Fld.other W139 (Fld.other W83 (Fld.other W8 (Fld.ext E7 DM6) (Or.inl ne_b1_b7)) (Or.inl ne_b1_b7)) (Or.inl ne_b1_b7))
              have c161 := (Fld.other W139 (Fld.other W83 (Fld.other W8 (Fld.ext E7 DP6) (Or.inl ne_b1_b7)) (Or.inl ne_b1_b7)) (Or.inl ne_b1_b7))
              have c162 := (Fld.other W139 (Fld.other W83 (Fld.other W8 (Fld.ext E7 DZ6) (Or.inl ne_b1_b7)) (Or.inl ne_b1_b7)) (Or.inl ne_b1_b7))
              have c163 := (own_Ar.other (own_Ar.other (own_Ar.other (own_Ar.ext DA6 E7) W8 ne_bm2_b7) W83 ne_bm2_b7) W139 ne_bm2_b7)
              have c164 := (own_Ar.other (own_Ar.other (own_Ar.other (own_Ar.ext DB6 E7) W8 ne_bp2_b7) W83 ne_bp2_b7) W139 ne_bp2_b7)
              exact J _ _ _ _ _ N140 X139 e139 (Nat.le_trans Z0 K140.1) ⟨c159, c160, c161, c162, c163, c164⟩ V139 (own_done zz _ _ hJ158 (3 : Int32) rfl _ (by
                  intro i hi
                  have hi2 : i = 0 ∨ i = 1 ∨ i = 2 := by simp at hi; omega
                  rcases hi2 with rfl | rfl | rfl <;> rfl)) (own_z zz _ _ hJ158 (3 : Int32) rfl) (by decide)
            · refine own_via (S' := T139.setTop (mkF m 173 #[.val (.int p1), .val (.int p2), .val (.int p3), .val (.int p4), .val (.int p5), .val (.int zz), .val (.int va), .val (.int vb), .val (.int vc), .val (.int vd), .val (.ref b1), .val (.ref b7), .val (.int (3 : Int32)), .unset] [])) (fun t k => XS.icmpNo (g := (mkF m 170 #[.val (.int p1), .val (.int p2), .val (.int p3), .val (.int p4), .val (.int p5), .val (.int zz), .val (.int va), .val (.int vb), .val (.int vc), .val (.int vd), .val (.ref b1), .val (.ref b7), .val (.int (3 : Int32)), .unset] [(.int vc), (.int vd)])) X139.here hx rfl (hb hby at_170) rfl (feq hc170_157).1 k) ?_
              refine own_via (S' := T139.setTop (mkF m 179 #[.val (.int p1), .val (.int p2), .val (.int p3), .val (.int p4), .val (.int p5), .val (.int zz), .val (.int va), .val (.int vb), .val (.int vc), .val (.int vd), .val (.ref b1), .val (.ref b7), .val (.int (3 : Int32)), .unset] [(.int vd), (.int (3 : Int32)), (.ref b7)])) (fun t k => ?_) ?_
              · show Steps p.tables e below (T139.setTop (mkF m 173 #[.val (.int p1), .val (.int p2), .val (.int p3), .val (.int p4), .val (.int p5), .val (.int zz), .val (.int va), .val (.int vb), .val (.int vc), .val (.int vd), .val (.ref b1), .val (.ref b7), .val (.int (3 : Int32)), .unset] [])) t
                refine XS.aload X139.here hx rfl (hb hby at_173) rfl rfl ?_
                show Steps p.tables e below (T139.setTop (mkF m 175 #[.val (.int p1), .val (.int p2), .val (.int p3), .val (.int p4), .val (.int p5), .val (.int zz), .val (.int va), .val (.int vb), .val (.int vc), .val (.int vd), .val (.ref b1), .val (.ref b7), .val (.int (3 : Int32)), .unset] [(.ref b7)])) t
                refine XS.iload X139.here hx rfl (hb hby at_175) rfl ?_
                show Steps p.tables e below (T139.setTop (mkF m 177 #[.val (.int p1), .val (.int p2), .val (.int p3), .val (.int p4), .val (.int p5), .val (.int zz), .val (.int va), .val (.int vb), .val (.int vc), .val (.int vd), .val (.ref b1), .val (.ref b7), .val (.int (3 : Int32)), .unset] [(.int (3 : Int32)), (.ref b7)])) t
                refine XS.iload X139.here hx rfl (hb hby at_177) rfl ?_
                exact k
              obtain ⟨⟨cl165, Ar165, q165, S165, Nn165, H165, G165⟩, Le165⟩ := id V139
              have hin165 : ¬ ((3 : Int32) < 0 ∨ cl165.slots.size ≤ ((3 : Int32)).toNatClampNeg) := inb_of S165 ⟨by decide, by decide⟩
              obtain ⟨T165, h165, X165, e165, W165, st165⟩ := stI X139 hx hZ e139 Ar165 (j := (3 : Int32)) hin165 (g := (mkF m 179 #[.val (.int p1), .val (.int p2), .val (.int p3), .val (.int p4), .val (.int p5), .val (.int zz), .val (.int va), .val (.int vb), .val (.int vc), .val (.int vd), .val (.ref b1), .val (.ref b7), .val (.int (3 : Int32)), .unset] [(.int vd), (.int (3 : Int32)), (.ref b7)])) rfl rfl (hb hby at_179)
              have V165 : own_Ar Z h165 b7 k7 .int (4 : Int32) (List.map Value.int (((((List.replicate ((4 : Int32)).toNatClampNeg (0 : Int32)).set ((0 : Int32)).toNatClampNeg va).set ((1 : Int32)).toNatClampNeg vb).set ((2 : Int32)).toNatClampNeg vc).set ((3 : Int32)).toNatClampNeg vd)) (.int (0 : Int32)) := own_Ar.setI Ar165 q165 S165 Nn165 H165 G165 rfl W165 hin165 Le165
              have K166 : Keep h0 h165 [] := Keep.wr K140 W165 (Or.inr sz_b7)
              have N166 := Fr.snoc X165 N140 g_b7
              refine own_via st165 ?_
              show own_G p.tables e below _ (T165.setTop (mkF m 180 #[.val (.int p1), .val (.int p2), .val (.int p3), .val (.int p4), .val (.int p5), .val (.int zz), .val (.int va), .val (.int vb), .val (.int vc), .val (.int vd), .val (.ref b1), .val (.ref b7), .val (.int (3 : Int32)), .unset] []))
              refine own_via (S' := T165.setTop (mkF m 186 #[.val (.int p1), .val (.int p2), .val (.int p3), .val (.int p4), .val (.int p5), .val (.int zz), .val (.int va), .val (.int vb), .val (.int vc), .val (.int vd), .val (.ref b1), .val (.ref b7), .val (.int (4 : Int32)), .unset] [])) (fun t k => ?_) ?_
              · show Steps p.tables e below (T165.setTop (mkF m 180 #[.val (.int p1), .val (.int p2), .val (.int p3), .val (.int p4), .val (.int p5), .val (.int zz), .val (.int va), .val (.int vb), .val (.int vc), .val (.int vd), .val (.ref b1), .val (.ref b7), .val (.int (3 : Int32)), .unset] [])) t
                refine XS.iload X165.here hx rfl (hb hby at_180) rfl ?_
                show Steps p.tables e below (T165.setTop (mkF m 182 #[.val (.int p1), .val (.int p2), .val (.int p3), .val (.int p4), .val (.int p5), .val (.int zz), .val (.int va), .val (.int vb), .val (.int vc), .val (.int vd), .val (.ref b1), .val (.ref b7), .val (.int (3 : Int32)), .unset] [(.int (3 : Int32))])) t
                refine XS.iconst X165.here hx rfl (hb hby at_182) ?_
                show Steps p.tables e below (T165.setTop (mkF m 183 #[.val (.int p1), .val (.int p2), .val (.int p3), .val (.int p4), .val (.int p5), .val (.int zz), .val (.int va), .val (.int vb), .val (.int vc), .val (.int vd), .val (.ref b1), .val (.ref b7), .val (.int (3 : Int32)), .unset] [(.int (1 : Int32)), (.int (3 : Int32))])) t
                refine XS.iadd X165.here hx rfl (hb hby at_183) rfl ?_
                show Steps p.tables e below (T165.setTop (mkF m 184 #[.val (.int p1), .val (.int p2), .val (.int p3), .val (.int p4), .val (.int p5), .val (.int zz), .val (.int va), .val (.int vb), .val (.int vc), .val (.int vd), .val (.ref b1), .val (.ref b7), .val (.int (3 : Int32)), .unset] [(.int (4 : Int32))])) t
                refine XS.istore X165.here hx rfl (hb hby at_184) rfl (l' := #[.val (.int p1), .val (.int p2), .val (.int p3), .val (.int p4), .val (.int p5), .val (.int zz), .val (.int va), .val (.int vb), .val (.int vc), .val (.int vd), .val (.ref b1), .val (.ref b7), .val (.int (4 : Int32)), .unset]) rfl ?_
                exact k
              have hW167 : (own_ins (own_ins (own_ins [va] vb) vc) vd) = [va, vb, vc, vd] := by simp [own_ins, hc109_33, hc129_85, hc136_112, hc156_141, hc163_149, hc170_157]
              have hJ167 := hI
              rw [hW167] at hJ167
              have c168 := (Exa.wr W165 (Exa.wr W139 (Exa.wr W83 (Exa.wr W8 (Exa.ext E7 DE6)))))
              have c169 := (Fld.other W165 (Fld.other W139 (Fld.other W83 (Fld.other W8 (Fld.ext E7 DM6) (Or.inl ne_b1_b7)) (Or.inl ne_b1_b7)) (Or.inl ne_b1_b7)) (Or.inl ne_b1_b7))
              have c170 := (Fld.other W165 (Fld.other W139 (Fld.other W83 (Fld.other W8 (Fld.ext E7 DP6) (Or.inl ne_b1_b7)) (Or.inl ne_b1_b7)) (Or.inl ne_b1_b7)) (Or.inl ne_b1_b7))
              have c171 := (Fld.other W165 (Fld.other W139 (Fld.other W83 (Fld.other W8 (Fld.ext E7 DZ6) (Or.inl ne_b1_b7)) (Or.inl ne_b1_b7)) (Or.inl ne_b1_b7)) (Or.inl ne_b1_b7))
              have c172 := (own_Ar.other (own_Ar.other (own_Ar.other (own_Ar.other (own_Ar.ext DA6 E7) W8 ne_bm2_b7) W83 ne_bm2_b7) W139 ne_bm2_b7) W165 ne_bm2_b7)
              have c173 := (own_Ar.other (own_Ar.other (own_Ar.other (own_Ar.other (own_Ar.ext DB6 E7) W8 ne_bp2_b7) W83 ne_bp2_b7) W139 ne_bp2_b7) W165 ne_bp2_b7)
              exact J _ _ _ _ _ N166 X165 e165 (Nat.le_trans Z0 K166.1) ⟨c168, c169, c170, c171, c172, c173⟩ V165 (own_done zz _ _ hJ167 (4 : Int32) rfl _ (by
                  intro i hi
                  have hi2 : i = 0 ∨ i = 1 ∨ i = 2 ∨ i = 3 := by simp at hi; omega
                  rcases hi2 with rfl | rfl | rfl | rfl <;> rfl)) (own_z zz _ _ hJ167 (4 : Int32) rfl) (by decide)
set_option maxRecDepth 65536 in
set_option maxHeartbeats 40000000 in
theorem comes_1 {Post : Tables → Env → Array Value → State → Outcome → State → Prop} (hpost : ∀ tb e args s v u, (limb_1_1.after args s (.returned v) u = true ∧ limb_1_2.after args s (.returned v) u = true ∧ True) → FrameEnd s (.returned v) u (Jvm.fieldLocs frame_1_writes args s ++ Jvm.arrayLocs frame_1_arrays args s ++ Jvm.staticLocs frame_1_statics s) 16 192 → Post tb e args s (.returned v) u) :
    ArmFor flags0 classFile x code maxLocals ret World_1 tables_1 room_1 Calls_1 rest_1 Pre_1 Post := by
  intro l hfl _ _ p e ha hc hk s m args below hf hA hF happ hP
  obtain ⟨hcalls, hrest, hpre⟩ := hP
  obtain ⟨-, -, -, hnamed, -, -, -, hat⟩ := (Spec.applies_iff hf).mp happ
  obtain ⟨hg, hn⟩ := and_e (Cond.before_iff.mp (show (Jvm.Cond.and given_1 narrow_1).before args s = true from hpre))
  obtain ⟨hcount, hg0⟩ := and_e hg
  obtain ⟨ga0, hg1⟩ := and_e hg0
  obtain ⟨ga1, hg2⟩ := and_e hg1
  obtain ⟨ga2, hg3⟩ := and_e hg2
  obtain ⟨ga3, hg4⟩ := and_e hg3
  have ga4 := hg4
  obtain ⟨w0, w1, w2, w3, w4, rfl⟩ : ∃ w0 w1 w2 w3 w4 : Value, args = #[w0, w1, w2, w3, w4] := by
    have hs : args.size = 5 := by simpa [Cond.value, given_1] using hcount
    obtain ⟨L⟩ := args
    match L, hs with
    | [w0, w1, w2, w3, w4], _ => exact ⟨w0, w1, w2, w3, w4, rfl⟩
  have hw := fun d (hd : d ∈ tables_1) => atoms_spec (ws := Jvm.Cond.code x code maxLocals ret :: tables_1) hat d (List.mem_cons_of_mem _ hd)
  obtain ⟨i0, ei0⟩ := is_v ga0
  obtain rfl : w0 = (.int i0) := Option.some.inj ei0
  obtain ⟨i1, ei1⟩ := is_v ga1
  obtain rfl : w1 = (.int i1) := Option.some.inj ei1
  obtain ⟨i2, ei2⟩ := is_v ga2
  obtain rfl : w2 = (.int i2) := Option.some.inj ei2
  obtain ⟨i3, ei3⟩ := is_v ga3
  obtain rfl : w3 = (.int i3) := Option.some.inj ei3
  obtain ⟨i4, ei4⟩ := is_v ga4
  obtain rfl : w4 = (.int i4) := Option.some.inj ei4
  obtain ⟨n, o, h1, h2, h3, _, L, rfl, ⟨rfl, N⟩, hq⟩ := rm0 l s _ hw tables_1 i0 i1 i2 i3 i4  s.heap s.heap.size (Nat.le_refl _)  p e ha hc hk s m _ below hf ((Spec.applies_iff_loose hf).mp happ).1 ⟨rfl, State.Warmed39.refl s, rfl⟩ trivial
  refine ⟨n, _, h1, h2, h3, hpost _ _ _ _ _ _ ⟨Cond.after_iff.mpr rfl, Cond.after_iff.mpr (eq_i res_at (Term.int_eval (1)) rfl), trivial⟩ ⟨hq.1, hq.2.1, (hq.2.2.sift fun y hy => Or.inr (N y hy)).mono (by decide) (by decide)⟩⟩
theorem main_1_1 : Claimed_1_1 := comes_1 fun _ _ _ _ _ _ h hF => ⟨h.1, hF⟩
theorem main_1_2 : Claimed_1_2 := comes_1 fun _ _ _ _ _ _ h hF => ⟨h.2.1, hF⟩
end Jvm.Pilot.@@N@@
namespace Jvm.Pilot.@@N@@
open Jvm Jvm.ClassFile Sem Op Lib Jvm.Free Jvm.Stand Jvm.Pilot.@@N@@.Jvm.D
/-! MADE BY PROGRAM (witnessworld.py) out of the Statement's table words and the real class files: 10 classes; the members and pool entries that the words name. The judged class is class 1, her method 1. -/
namespace start1
open Jvm.ClassFile
def u (s : String) : CpInfo := .utf8 (stringToUtf16 s)
/-- a pool by its gaps: so many unusable entries, then the entry; so many at the end -/
def gap : Nat → List CpInfo → List CpInfo
  | 0, r => r
  | n + 1, r => .unusable :: gap n r
def poolList (es : List (Nat × CpInfo)) (last : Nat) : List CpInfo := es.foldr (fun e r => gap e.1 (e.2 :: r)) (gap last [])
def pool (es : List (Nat × CpInfo)) (last : Nat) : Array CpInfo := ⟨poolList es last⟩
def fileOf (pool : Array CpInfo) (this : Nat) (attrs : Array Attribute := #[]) (ms : Array MethodInfo := #[]) (fl : Nat := 33) (sup : Nat := 0) (ifs : Array Nat := #[]) (fds : Array FieldInfo := #[]) : ClassFile where
  minorVersion := 0
  majorVersion := 65
  constantPool := pool
  accessFlags := fl
  thisClass := this
  superClass := sup
  interfaces := ifs
  fields := fds
  methods := ms
  attributes := attrs
def plain (name : String) (sup : Option ClassId) : Class where
  name := name
  kind := .ordinary
  loader := none
  accessFlags := 33
  super := sup
  interfaces := #[]
  cf := none
  fields := #[]
  methods := #[]
  instanceTypes := #[]
  staticTypes := #[]
  resolved := #[]
  callSites := []
  init := .initialized
  statics := none
  mirror := none

def pool0 : Array CpInfo := pool [(5, u "<init>"), (0, u "()V"), (1, .class_ 10), (1, u "java/lang/Object")] 113

def k0c0 : Code := { maxStack := 0, maxLocals := 1, code := object_method_1_code, exceptionTable := #[], attributes := #[] }
def k0m0 : Method := { name := "<init>", desc := "()V", sig := { parameters := [], returnType := none }, accessFlags := 1, code := some k0c0 }
/-- java/lang/Object -/
def k0 : Class := { plain "java/lang/Object" none with
  accessFlags := 33
  interfaces := #[]
  cf := some (fileOf pool0 8 #[] #[{ accessFlags := 1, nameIndex := 5, descriptorIndex := 6, attributes := #[] }] 33 0 #[] #[])
  fields := #[]
  methods := #[k0m0]
  instanceTypes := #[]
  staticTypes := #[]
  resolved := Array.replicate 124 none
  statics := none }

def pool1 : Array CpInfo := pool [(2, .class_ 4), (1, u "java/lang/Object"), (0, u "<init>"), (0, u "()V"), (0, .integer 2147483647), (0, .class_ 9), (0, u "com/example/vendace/vendace/localrecoding/DenseSet"), (0, .methodref 8 11), (0, .nameAndType 5 12), (0, u "(I)V"), (0, .methodref 8 14), (0, .nameAndType 15 12), (0, u "add"), (0, .methodref 8 17), (0, .nameAndType 18 19), (0, u "size"), (0, u "()I"), (0, .methodref 8 21), (0, .nameAndType 22 23), (0, u "member"), (0, u "(I)I"), (0, .class_ 25), (0, u "com/example/vendace/vendace/localrecoding/DenseSetAddPinLaw"), (2, u "law"), (0, u "(IIIII)Z")] 5

def k1m0 : Method := { name := "<init>", desc := "()V", sig := { parameters := [], returnType := none }, accessFlags := 1, code := none }
def k1c1 : Code := { maxStack := 3, maxLocals := 14, code := code, exceptionTable := #[], attributes := #[] }
def k1m1 : Method := { name := "law", desc := "(IIIII)Z", sig := { parameters := [.int, .int, .int, .int, .int], returnType := some .boolean }, accessFlags := 9, code := some k1c1 }
/-- com/example/vendace/vendace/localrecoding/DenseSetAddPinLaw -/
def k1 : Class := { plain "com/example/vendace/vendace/localrecoding/DenseSetAddPinLaw" (some 0) with
  accessFlags := 49
  interfaces := #[]
  cf := some (fileOf pool1 24 #[] #[{ accessFlags := 1, nameIndex := 5, descriptorIndex := 6, attributes := #[] }, { accessFlags := 9, nameIndex := 28, descriptorIndex := 29, attributes := #[] }] 49 2 #[] #[])
  fields := #[]
  methods := #[k1m0, k1m1]
  instanceTypes := #[]
  staticTypes := #[]
  resolved := Array.replicate 35 none
  statics := none }

def pool2 : Array CpInfo := pool [(1, .methodref 2 3), (0, .class_ 4), (0, .nameAndType 5 6), (0, u "java/lang/Object"), (0, u "<init>"), (0, u "()V"), (0, .fieldref 8 9), (0, .class_ 10), (0, .nameAndType 11 12), (0, u "com/example/vendace/vendace/localrecoding/DenseSet"), (0, u "members"), (0, u "[I"), (0, .fieldref 8 14), (0, .nameAndType 15 12), (0, u "places"), (0, .methodref 17 18), (0, .class_ 19), (0, .nameAndType 20 21), (0, u "java/util/Arrays"), (0, u "fill"), (0, u "([II)V"), (0, .fieldref 8 23), (0, .nameAndType 24 25), (0, u "size"), (0, u "I"), (0, u "(I)V"), (2, u "()I"), (0, u "member"), (0, u "(I)I"), (0, u "add")] 6

def k2c0 : Code := { maxStack := 2, maxLocals := 2, code := prog_30_method_1_code, exceptionTable := #[], attributes := #[] }
def k2m0 : Method := { name := "<init>", desc := "(I)V", sig := { parameters := [.int], returnType := none }, accessFlags := 0, code := some k2c0 }
def k2c1 : Code := { maxStack := 1, maxLocals := 1, code := prog_30_method_2_code, exceptionTable := #[], attributes := #[] }
def k2m1 : Method := { name := "size", desc := "()I", sig := { parameters := [], returnType := some .int }, accessFlags := 0, code := some k2c1 }
def k2c2 : Code := { maxStack := 2, maxLocals := 2, code := prog_30_method_3_code, exceptionTable := #[], attributes := #[] }
def k2m2 : Method := { name := "member", desc := "(I)I", sig := { parameters := [.int], returnType := some .int }, accessFlags := 0, code := some k2c2 }
def k2c3 : Code := { maxStack := 5, maxLocals := 2, code := prog_30_method_4_code, exceptionTable := #[], attributes := #[] }
def k2m3 : Method := { name := "add", desc := "(I)V", sig := { parameters := [.int], returnType := none }, accessFlags := 0, code := some k2c3 }
/-- com/example/vendace/vendace/localrecoding/DenseSet -/
def k2 : Class := { plain "com/example/vendace/vendace/localrecoding/DenseSet" (some 0) with
  accessFlags := 48
  interfaces := #[]
  cf := some (fileOf pool2 8 #[] #[{ accessFlags := 0, nameIndex := 5, descriptorIndex := 26, attributes := #[] }, { accessFlags := 0, nameIndex := 24, descriptorIndex := 29, attributes := #[] }, { accessFlags := 0, nameIndex := 30, descriptorIndex := 31, attributes := #[] }, { accessFlags := 0, nameIndex := 32, descriptorIndex := 26, attributes := #[] }] 48 2 #[] #[{ accessFlags := 18, nameIndex := 11, descriptorIndex := 12, attributes := #[] }, { accessFlags := 18, nameIndex := 15, descriptorIndex := 12, attributes := #[] }, { accessFlags := 2, nameIndex := 24, descriptorIndex := 25, attributes := #[] }])
  fields := #[{ name := "members", type := (.array .int), accessFlags := 18, slot := 0, constantValue := 0 }, { name := "places", type := (.array .int), accessFlags := 18, slot := 1, constantValue := 0 }, { name := "size", type := .int, accessFlags := 2, slot := 2, constantValue := 0 }]
  methods := #[k2m0, k2m1, k2m2, k2m3]
  instanceTypes := #[(.array .int), (.array .int), .int]
  staticTypes := #[]
  resolved := Array.replicate 39 none
  statics := none }

def pool3 : Array CpInfo := pool [(2, .class_ 4), (1, u "java/lang/Object"), (0, u "<init>"), (0, u "()V"), (7, .class_ 16), (1, u "java/util/Arrays"), (57, .class_ 76), (1, u "java/util/Arrays$NaturalOrder"), (36, .class_ 115), (1, u "java/util/Arrays$LegacyMergeSort"), (1, u "Z"), (257, .class_ 376), (0, u "java/util/Arrays$ArrayList"), (68, u "$assertionsDisabled"), (269, u "MIN_ARRAY_SORT_GRAN"), (0, u "I"), (2, u "INSERTIONSORT_THRESHOLD"), (120, u "fill"), (4, u "([II)V"), (129, .class_ 976), (0, u "java/util/Arrays$ArrayItr")] 52

def k3m0 : Method := { name := "<init>", desc := "()V", sig := { parameters := [], returnType := none }, accessFlags := 2, code := none }
def k3c1 : Code := { maxStack := 3, maxLocals := 4, code := jdk_65_method_103_code, exceptionTable := #[], attributes := #[] }
def k3m1 : Method := { name := "fill", desc := "([II)V", sig := { parameters := [(.array .int), .int], returnType := none }, accessFlags := 9, code := some k3c1 }
/-- java/util/Arrays -/
def k3 : Class := { plain "java/util/Arrays" (some 0) with
  accessFlags := 49
  interfaces := #[]
  cf := some (fileOf pool3 14 #[.nestMembers #[975, 375, 113, 74]] #[{ accessFlags := 2, nameIndex := 5, descriptorIndex := 6, attributes := #[] }, { accessFlags := 9, nameIndex := 840, descriptorIndex := 845, attributes := #[] }] 49 2 #[] #[{ accessFlags := 26, nameIndex := 715, descriptorIndex := 716, attributes := #[] }, { accessFlags := 26, nameIndex := 719, descriptorIndex := 716, attributes := #[] }, { accessFlags := 4120, nameIndex := 445, descriptorIndex := 117, attributes := #[] }])
  fields := #[{ name := "MIN_ARRAY_SORT_GRAN", type := .int, accessFlags := 26, slot := 0, constantValue := 0 }, { name := "INSERTIONSORT_THRESHOLD", type := .int, accessFlags := 26, slot := 1, constantValue := 0 }, { name := "$assertionsDisabled", type := .boolean, accessFlags := 4120, slot := 2, constantValue := 0 }]
  methods := #[k3m0, k3m1]
  instanceTypes := #[]
  staticTypes := #[.int, .int, .boolean]
  resolved := Array.replicate 1029 none
  statics := none }

def pool4 : Array CpInfo := pool [(1, u "java/lang/Cloneable"), (0, .class_ 1), (0, u "java/lang/Object"), (0, .class_ 3)] 3

/-- java/lang/Cloneable -/
def k4 : Class := { plain "java/lang/Cloneable" (some 0) with
  accessFlags := 1537
  interfaces := #[]
  cf := some (fileOf pool4 2 #[] #[] 1537 4 #[] #[])
  fields := #[]
  methods := #[]
  instanceTypes := #[]
  staticTypes := #[]
  resolved := Array.replicate 8 none
  statics := none }

def pool5 : Array CpInfo := pool [(1, u "java/io/Serializable"), (0, .class_ 1), (0, u "java/lang/Object"), (0, .class_ 3)] 3

/-- java/io/Serializable -/
def k5 : Class := { plain "java/io/Serializable" (some 0) with
  accessFlags := 1537
  interfaces := #[]
  cf := some (fileOf pool5 2 #[] #[] 1537 4 #[] #[])
  fields := #[]
  methods := #[]
  instanceTypes := #[]
  staticTypes := #[]
  resolved := Array.replicate 8 none
  statics := none }

/-- the primitive byte -/
def k6 : Class := { plain "byte" none with kind := .primitive 'B', accessFlags := 0x411 }
/-- [B -/
def k7 : Class := { plain "[B" (some 0) with kind := .array 6 .byte, interfaces := #[4, 5], accessFlags := 1041 }

/-- the primitive int -/
def k8 : Class := { plain "int" none with kind := .primitive 'I', accessFlags := 0x411 }
/-- [I -/
def k9 : Class := { plain "[I" (some 0) with kind := .array 8 .int, interfaces := #[4, 5], accessFlags := 1041 }

def heap : Heap := #[]
def classes : Array Class := #[k0, k1, k2, k3, k4, k5, k6, k7, k8, k9]
def interned : List (Array UInt16 × Addr) := []
def slotsUsed : Nat := 0
def theMethod : MethodId := ⟨1, 1⟩
def args0 : Array Value := #[.int 3, .int 1, .int 2, .int 1, .int 2]
def aboutOver (below : List Frame) : State where
  vm := { classes := classes, interned := interned.toArray }
  heap := heap
  slotsUsed := slotsUsed
  threads := #[{ frames := .invoking theMethod args0 :: below }]
def below0 : List Frame := [.native { method := ⟨0, 0⟩, args := #[] }]
def about1 : State := aboutOver below0
def p0 : Program := .bare "" "" ""
def e0 : Env := launch0.env 0 0 0
theorem w_frames : about1.frames = Frame.invoking theMethod args0 :: below0 := rfl
set_option maxRecDepth 65536 in
theorem w_args : argsFit about1.vm theMethod args0 = true := by decide +kernel
set_option maxRecDepth 65536 in
theorem w_heap : heapFits about1 = true := by decide +kernel
set_option maxRecDepth 65536 in
theorem w_runnable : about1.curStatus? = some .runnable := by decide +kernel
set_option maxRecDepth 65536 in
theorem w_alone : about1.alone = true := by decide +kernel
set_option maxRecDepth 65536 in
theorem w_named : about1.methodNamed? x = some theMethod := by decide +kernel
set_option maxRecDepth 65536 in
theorem w_hears : about1.hears theMethod below0 = true := by decide +kernel
set_option maxRecDepth 65536 in
theorem w_ripe : about1.ripe theMethod args0 below0 = true := by decide +kernel
theorem w_running : about1.status = .running := rfl
set_option maxRecDepth 65536 in
theorem w_room : about1.hasRoom e0.platform room_1 = true :=
  launch0.hasRoom_least _ room_1 (by decide +kernel) (by decide +kernel) (by decide +kernel) (by decide +kernel) (by decide +kernel) (by decide +kernel)
theorem allAtoms_all (ts : List Jvm.Cond) (a : Array Jvm.Value) (st : Jvm.State) : (allAtoms ts).before a st = ts.all (fun c => c.before a st) := by
  induction ts with
  | nil => rfl
  | cons c t ih =>
    show (Jvm.Cond.and c (allAtoms t)).before a st = _
    rw [Jvm.Cond.before_and, ih, List.all_cons]
def words1 : List Jvm.Cond := Jvm.Cond.code x code maxLocals ret :: tables_1
/-- a 'code' word, met by the world's own term for the bytes: nothing is compared byte by byte -/
theorem code_word {y : MethodName} {bytes : ByteArray} {mx : Nat} {rt : Option FieldType} {a : Array Value} {s : State} {m : MethodId} {meth : Method} {c : Code} (h1 : s.methodNamed? y = some m) (h2 : s.vm.method? m = some meth) (h3 : meth.code = some c) (h4 : c.code = bytes)
    (h5 : (c.maxLocals == mx && c.exceptionTable.isEmpty && decide (c.maxStack ≤ mostOperands) && decide (meth.sig.returnType = rt) && !meth.locks && decide (parseMethodDescriptor y.desc = some meth.sig)) = true) : (Jvm.Cond.code y bytes mx rt).before a s = true := by
  simp only [Bool.and_eq_true, beq_iff_eq, Bool.not_eq_true', decide_eq_true_eq] at h5
  obtain ⟨⟨⟨⟨⟨g1, g2⟩, g3⟩, g4⟩, g5⟩, g6⟩ := h5
  simp [Cond.before, Cond.holds, Cond.value, h1, h2, h3, h4, g1, g2, g3, g4, g5, g6]
def isCode : Jvm.Cond → Bool
  | .code _ _ _ _ => true
  | _ => false
theorem all_split {L : List Jvm.Cond} {P : Jvm.Cond → Bool} (h1 : L.all (fun c => isCode c || P c) = true) (h2 : ∀ c ∈ L.filter isCode, P c = true) : L.all P = true := by
  refine List.all_eq_true.mpr fun c hc => ?_
  have h := List.all_eq_true.mp h1 c hc
  rcases Bool.eq_false_or_eq_true (isCode c) with hi | hi
  · exact h2 c (List.mem_filter.mpr ⟨hc, hi⟩)
  · simpa [hi] using h
set_option maxRecDepth 65536 in
theorem w_c0 : (Jvm.Cond.code x code maxLocals ret).before args0 about1 = true := code_word (m := ⟨1, 1⟩) (meth := k1m1) (c := k1c1) (by decide +kernel) rfl rfl rfl (by decide +kernel)
set_option maxRecDepth 65536 in
theorem w_c1 : (Jvm.Cond.code ({ cls := "com/example/vendace/vendace/localrecoding/DenseSet", name := "<init>", desc := "(I)V" } : Jvm.MethodName) prog_30_method_1_code (2 : Nat) (Option.none : Option Jvm.ClassFile.FieldType)).before args0 about1 = true := code_word (m := ⟨2, 0⟩) (meth := k2m0) (c := k2c0) (by decide +kernel) rfl rfl rfl (by decide +kernel)
set_option maxRecDepth 65536 in
theorem w_c2 : (Jvm.Cond.code ({ cls := "java/lang/Object", name := "<init>", desc := "()V" } : Jvm.MethodName) object_method_1_code (1 : Nat) (Option.none : Option Jvm.ClassFile.FieldType)).before args0 about1 = true := code_word (m := ⟨0, 0⟩) (meth := k0m0) (c := k0c0) (by decide +kernel) rfl rfl rfl (by decide +kernel)
set_option maxRecDepth 65536 in
theorem w_c3 : (Jvm.Cond.code ({ cls := "java/util/Arrays", name := "fill", desc := "([II)V" } : Jvm.MethodName) jdk_65_method_103_code (4 : Nat) (Option.none : Option Jvm.ClassFile.FieldType)).before args0 about1 = true := code_word (m := ⟨3, 1⟩) (meth := k3m1) (c := k3c1) (by decide +kernel) rfl rfl rfl (by decide +kernel)
set_option maxRecDepth 65536 in
theorem w_c4 : (Jvm.Cond.code ({ cls := "com/example/vendace/vendace/localrecoding/DenseSet", name := "add", desc := "(I)V" } : Jvm.MethodName) prog_30_method_4_code (2 : Nat) (Option.none : Option Jvm.ClassFile.FieldType)).before args0 about1 = true := code_word (m := ⟨2, 3⟩) (meth := k2m3) (c := k2c3) (by decide +kernel) rfl rfl rfl (by decide +kernel)
set_option maxRecDepth 65536 in
theorem w_c5 : (Jvm.Cond.code ({ cls := "com/example/vendace/vendace/localrecoding/DenseSet", name := "size", desc := "()I" } : Jvm.MethodName) prog_30_method_2_code (1 : Nat) (Option.some Jvm.ClassFile.FieldType.int)).before args0 about1 = true := code_word (m := ⟨2, 1⟩) (meth := k2m1) (c := k2c1) (by decide +kernel) rfl rfl rfl (by decide +kernel)
set_option maxRecDepth 65536 in
theorem w_c6 : (Jvm.Cond.code ({ cls := "com/example/vendace/vendace/localrecoding/DenseSet", name := "member", desc := "(I)I" } : Jvm.MethodName) prog_30_method_3_code (2 : Nat) (Option.some Jvm.ClassFile.FieldType.int)).before args0 about1 = true := code_word (m := ⟨2, 2⟩) (meth := k2m2) (c := k2c2) (by decide +kernel) rfl rfl rfl (by decide +kernel)
def codes1 : List Jvm.Cond := [Jvm.Cond.code x code maxLocals ret, Jvm.Cond.code ({ cls := "com/example/vendace/vendace/localrecoding/DenseSet", name := "<init>", desc := "(I)V" } : Jvm.MethodName) prog_30_method_1_code (2 : Nat) (Option.none : Option Jvm.ClassFile.FieldType), Jvm.Cond.code ({ cls := "java/lang/Object", name := "<init>", desc := "()V" } : Jvm.MethodName) object_method_1_code (1 : Nat) (Option.none : Option Jvm.ClassFile.FieldType), Jvm.Cond.code ({ cls := "java/util/Arrays", name := "fill", desc := "([II)V" } : Jvm.MethodName) jdk_65_method_103_code (4 : Nat) (Option.none : Option Jvm.ClassFile.FieldType), Jvm.Cond.code ({ cls := "com/example/vendace/vendace/localrecoding/DenseSet", name := "add", desc := "(I)V" } : Jvm.MethodName) prog_30_method_4_code (2 : Nat) (Option.none : Option Jvm.ClassFile.FieldType), Jvm.Cond.code ({ cls := "com/example/vendace/vendace/localrecoding/DenseSet", name := "size", desc := "()I" } : Jvm.MethodName) prog_30_method_2_code (1 : Nat) (Option.some Jvm.ClassFile.FieldType.int), Jvm.Cond.code ({ cls := "com/example/vendace/vendace/localrecoding/DenseSet", name := "member", desc := "(I)I" } : Jvm.MethodName) prog_30_method_3_code (2 : Nat) (Option.some Jvm.ClassFile.FieldType.int)]
set_option maxRecDepth 65536 in
theorem codes_eq : words1.filter isCode = codes1 := rfl
theorem w_codes : ∀ c ∈ words1.filter isCode, c.before args0 about1 = true := by
  rw [codes_eq]
  intro c hc
  simp only [codes1, List.mem_cons, List.not_mem_nil, or_false] at hc
  rcases hc with rfl | rfl | rfl | rfl | rfl | rfl | rfl
  · exact w_c0
  · exact w_c1
  · exact w_c2
  · exact w_c3
  · exact w_c4
  · exact w_c5
  · exact w_c6
set_option maxRecDepth 65536 in
theorem w_t1 : (words1.take 24).all (fun c => isCode c || c.before args0 about1) = true := by decide +kernel
set_option maxRecDepth 65536 in
theorem w_t2 : (words1.drop 24).all (fun c => isCode c || c.before args0 about1) = true := by decide +kernel
theorem w_tables : (allAtoms (Jvm.Cond.code x code maxLocals ret :: tables_1)).before args0 about1 = true := by
  rw [allAtoms_all]
  show words1.all (fun c => c.before args0 about1) = true
  refine all_split ?_ w_codes
  rw [← List.take_append_drop 24 words1, List.all_append, w_t1, w_t2]
  rfl
set_option maxRecDepth 65536 in
theorem w_case : (Jvm.Cond.and given_1 narrow_1).before args0 about1 = true := by decide +kernel
theorem w_applies : (headSpec (Jvm.Cond.code x code maxLocals ret :: tables_1) room_1).applies x e0.platform about1 = true :=
  (Spec.applies_iff w_frames).mpr ⟨w_running, w_runnable, w_alone, w_named, w_hears, w_ripe, w_room, w_tables⟩
theorem atStart : AtStart classFile x code maxLocals ret World_1 tables_1 room_1 Calls_1 rest_1 Pre_1 launch0 p0 e0 about1 theMethod args0 below0 :=
  ⟨lists_1, trivial, launch0.admits_env _ _ _, launch0.least_env, fairChoices_fair.cas, fairChoices_fair.clock, w_frames, w_args, w_heap, w_applies, trivial, trivial, w_case⟩
end start1
theorem witness_1 : WitnessClaimed_1 := ⟨start1.p0, start1.e0, start1.about1, start1.theMethod, start1.args0, start1.below0, start1.atStart⟩
end Jvm.Pilot.@@N@@
