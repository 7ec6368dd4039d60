import JvmDerived
import JvmDerived.Pilot.@@N@@Statement
import JvmDerived.Pilot.@@N@@Code
set_option linter.unusedVariables false
set_option linter.unusedSimpArgs false
namespace Jvm.Pilot.@@N@@
open Jvm Jvm.ClassFile Sem Op Lib Jvm.Free Jvm.Stand Jvm.LawKit Jvm.RoadKit Bundle Jvm.Pilot.@@N@@.Jvm.D
/-- from S the body ends as Q says -/
def own_G (tb : Tables) (e : Env) (below : List Frame) (Q : State → Outcome → Prop) (S : State) : Prop := ∃ s₂ o, Steps tb e below S s₂ ∧ s₂.status = .running ∧ Ended s₂ below o ∧ Q s₂ o
theorem own_via {tb : Tables} {e : Env} {below : List Frame} {Q : State → Outcome → Prop} {S S' : State} (h : ∀ t, Steps tb e below S' t → Steps tb e below S t) (g : own_G tb e below Q S') : own_G tb e below Q S := by
  obtain ⟨t, o, k, r⟩ := g
  exact ⟨t, o, h t k, r⟩
def own_P (U : State) (Q : Option Value → Heap → List Loc → Prop) (cells slots : Nat) : State → Outcome → Prop := fun U' o => ∃ v L, o = .returned v ∧ Q v U'.heap L ∧ FrameEnd U o U' L cells slots
theorem own_end {p : Program} {l : Launch} {e : Env} {R : Room} {s : State} {m : MethodId} {args : Array Value} {below : List Frame} {meth : Method} {c : Code} {T : State} {locs : List Loc} {cells slots C S : Nat} {Q : Option Value → Heap → List Loc → Prop} {h : Heap} {G : State}
    (X : Stand p l e R s m args below meth c T locs cells slots) {v : Option Value} (hlk : meth.locks = false) (hv : meth.sig.returnType = none → v = none)
    (st : ∀ fs, (∀ (f : JFrame) (acts : List Action), f.method = m → f.locked = none → f.entered = [] → (doReturn e (T.setTop f) acts v).1 = T.setFrames fs) → Steps p.tables e below G (T.setFrames fs))
    (eT : T.heap = h) (hq : Q v h locs) (h1 : cells ≤ C) (h2 : slots ≤ S) : own_G p.tables e below (own_P s Q C S) G := by
  obtain ⟨fs, hr, hrun, hended, hW, hsame⟩ := X.leave (v := v) hv hlk
  exact ⟨_, _, st fs hr, hrun, hended, _, _, rfl, eT ▸ hq, ⟨_, rfl⟩, hW, hsame.mono h1 h2⟩
def own_Ar (Z : State) (h : Heap) (a : Addr) (k : ClassId) (ty : FieldType) (z : Int32) (vs : List Value) (d : Value) : Prop := Arv Z h a k ty z vs d ∧ vs.length = z.toNatClampNeg
theorem own_Ar.lt {Z : State} {h : Heap} {a : Addr} {k : ClassId} {ty : FieldType} {z : Int32} {vs : List Value} {d : Value} (F : own_Ar Z h a k ty z vs d) : a < h.size := F.1.lt
theorem own_Ar.ext {Z : State} {h h' : Heap} {a : Addr} {k : ClassId} {ty : FieldType} {z : Int32} {vs : List Value} {d : Value} (F : own_Ar Z h a k ty z vs d) (E : Ext h h') : own_Ar Z h' a k ty z vs d := ⟨F.1.ext E, F.2⟩
theorem own_Ar.other {Z : State} {h h' : Heap} {a b : Addr} {k : ClassId} {ty : FieldType} {z : Int32} {vs : List Value} {d : Value} {sl : Nat} {v : Value} (F : own_Ar Z h b k ty z vs d) (W : Wr h h' a sl v) (q : b ≠ a) : own_Ar Z h' b k ty z vs d := ⟨F.1.other W q, F.2⟩
theorem own_Ar.keep {Z : State} {h h' : Heap} {a : Addr} {k : ClassId} {ty : FieldType} {z : Int32} {vs : List Value} {d : Value} {ws : List Addr} (F : own_Ar Z h a k ty z vs d) (K : Keep h h' ws) (q : a ∉ ws) : own_Ar Z h' a k ty z vs d := ⟨F.1.keep K q, F.2⟩
theorem own_ixn {j z : Int32} (h : ¬ j < 0 ∧ j < z) : j.toNatClampNeg < z.toNatClampNeg := by
  obtain ⟨h1, h2⟩ := h
  rw [Int32.lt_iff_toInt_lt] at h1 h2
  have e0 : (0 : Int32).toInt = 0 := by decide
  have t1 : j.toNatClampNeg = j.toInt.toNat := rfl
  have t2 : z.toNatClampNeg = z.toInt.toNat := rfl
  omega
theorem own_gI (xs : List Int32) (i : Nat) : (xs.map Value.int).getD i (.int 0) = .int (xs.getD i 0) := by simp [List.getD_eq_getElem?_getD]
theorem own_gJ (xs : List Int64) (i : Nat) : (xs.map Value.long).getD i (.long 0) = .long (xs.getD i 0) := by simp [List.getD_eq_getElem?_getD]
theorem own_setI (xs : List Int32) (i : Nat) (v : Int32) : (xs.map Value.int).set i (.int v) = (xs.set i v).map Value.int := by simp [List.map_set]
theorem own_setJ (xs : List Int64) (i : Nat) (v : Int64) : (xs.map Value.long).set i (.long v) = (xs.set i v).map Value.long := by simp [List.map_set]
theorem own_Ar.setI {Z : State} {h h' : Heap} {a : Addr} {k : ClassId} {ty : FieldType} {z j v : Int32} {xs : List Int32} {c : Cell} (A : Arr Z h a c ty) (q1 : c.cls = k) (S : c.slots.size = z.toNatClampNeg) (q3 : ¬ z < 0) (H : Has c (xs.map Value.int) (.int 0)) (G : ∀ i, i < c.slots.size → fits ty ((xs.map Value.int).getD i (.int 0)) = true) (hv : fits ty (.int v) = true)
    (W : Wr h h' a j.toNatClampNeg (.int v)) (hin : ¬ (j < 0 ∨ c.slots.size ≤ j.toNatClampNeg)) (Le : (xs.map Value.int).length = z.toNatClampNeg) : own_Ar Z h' a k ty z ((xs.set j.toNatClampNeg v).map Value.int) (.int 0) := by
  have hl : j.toNatClampNeg < (xs.map Value.int).length := by rw [Le, ← S]; exact Nat.lt_of_not_le fun q => hin (Or.inr q)
  refine ⟨?_, by rw [← Le]; simp⟩
  rw [← own_setI]
  exact Arv.set A q1 S q3 H G hv W _ rfl hl
theorem own_Ar.setJ {Z : State} {h h' : Heap} {a : Addr} {k : ClassId} {ty : FieldType} {z j : Int32} {v : Int64} {xs : List Int64} {c : Cell} (A : Arr Z h a c ty) (q1 : c.cls = k) (S : c.slots.size = z.toNatClampNeg) (q3 : ¬ z < 0) (H : Has c (xs.map Value.long) (.long 0)) (G : ∀ i, i < c.slots.size → fits ty ((xs.map Value.long).getD i (.long 0)) = true) (hv : fits ty (.long v) = true)
    (W : Wr h h' a j.toNatClampNeg (.long v)) (hin : ¬ (j < 0 ∨ c.slots.size ≤ j.toNatClampNeg)) (Le : (xs.map Value.long).length = z.toNatClampNeg) : own_Ar Z h' a k ty z ((xs.set j.toNatClampNeg v).map Value.long) (.long 0) := by
  have hl : j.toNatClampNeg < (xs.map Value.long).length := by rw [Le, ← S]; exact Nat.lt_of_not_le fun q => hin (Or.inr q)
  refine ⟨?_, by rw [← Le]; simp⟩
  rw [← own_setJ]
  exact Arv.set A q1 S q3 H G hv W _ rfl hl
theorem own_Ar.newI {Z : State} {h : Heap} {a : Addr} {k : ClassId} {z : Int32} (A : Arr Z h a (newA k .int z) .int) (q : ¬ z < 0) : own_Ar Z h a k .int z ((List.replicate z.toNatClampNeg (0 : Int32)).map Value.int) (.int (0 : Int32)) := by
  refine ⟨?_, by simp⟩
  rw [List.map_replicate]
  exact (Arv.new A q).pad (pad_rep [] (.int (0 : Int32)) _)
theorem own_Ar.newB {Z : State} {h : Heap} {a : Addr} {k : ClassId} {z : Int32} (A : Arr Z h a (newA k .byte z) .byte) (q : ¬ z < 0) : own_Ar Z h a k .byte z ((List.replicate z.toNatClampNeg (0 : Int32)).map Value.int) (.int (0 : Int32)) := by
  refine ⟨?_, by simp⟩
  rw [List.map_replicate]
  exact (Arv.new A q).pad (pad_rep [] (.int (0 : Int32)) _)
theorem own_Ar.newJ {Z : State} {h : Heap} {a : Addr} {k : ClassId} {z : Int32} (A : Arr Z h a (newA k .long z) .long) (q : ¬ z < 0) : own_Ar Z h a k .long z ((List.replicate z.toNatClampNeg (0 : Int64)).map Value.long) (.long (0 : Int64)) := by
  refine ⟨?_, by simp⟩
  rw [List.map_replicate]
  exact (Arv.new A q).pad (pad_rep [] (.long (0 : Int64)) _)
def own_fl (xs : List Int32) (i : Nat) (x : Int32) : List Int32 := List.replicate i x ++ xs.drop i
theorem own_fl0 (xs : List Int32) (x : Int32) : own_fl xs 0 x = xs := by simp [own_fl]
theorem own_flN (xs : List Int32) (x : Int32) : own_fl xs xs.length x = List.replicate xs.length x := by simp [own_fl]
theorem own_flS (xs : List Int32) (i : Nat) (x : Int32) (h : i < xs.length) : (own_fl xs i x).set i x = own_fl xs (i + 1) x := by
  unfold own_fl
  rw [List.set_append_right _ _ (by simp), List.drop_eq_getElem_cons h]
  simp only [List.length_replicate, Nat.sub_self, List.set_cons_zero, List.replicate_succ', List.append_assoc, List.cons_append, List.nil_append]
theorem own_up {i z : Int32} {r : Nat} (h0 : ¬ i < 0) (hz : ¬ z < 0) (e : i.toNatClampNeg + (r + 1) = z.toNatClampNeg) : i < z ∧ ¬ (i + (1 : Int32)) < 0 ∧ (i + (1 : Int32)).toNatClampNeg = i.toNatClampNeg + 1 := by
  have t1 : i.toNatClampNeg = i.toInt.toNat := rfl
  have t2 : z.toNatClampNeg = z.toInt.toNat := rfl
  have t3 : (i + (1 : Int32)).toNatClampNeg = (i + (1 : Int32)).toInt.toNat := rfl
  have e0 : (0 : Int32).toInt = 0 := by decide
  have e1 : (1 : Int32).toInt = 1 := by decide
  have a := c_iadd i (1 : Int32)
  have b1 := rng32 (i + (1 : Int32))
  have b2 := rng32 i
  have b3 := rng32 z
  rw [Int32.lt_iff_toInt_lt] at h0 hz
  rw [Int32.lt_iff_toInt_lt, Int32.lt_iff_toInt_lt]
  rw [e1] at a
  have e2 : (i + (1 : Int32)).toInt = i.toInt + 1 := by omega
  omega
theorem own_out {i z : Int32} (h0 : ¬ i < 0) (e : i.toNatClampNeg + 0 = z.toNatClampNeg) : ¬ i < z := by
  have t1 : i.toNatClampNeg = i.toInt.toNat := rfl
  have t2 : z.toNatClampNeg = z.toInt.toNat := rfl
  have e0 : (0 : Int32).toInt = 0 := by decide
  rw [Int32.lt_iff_toInt_lt] at h0
  rw [Int32.lt_iff_toInt_lt]
  omega
theorem own_dupX2 {tb : Tables} [Ours tb] {e : Env} {below : List Frame} {T target : State} {m : MethodId} {c : Code} {g : JFrame} (h : At T m c below) (hx : tb.exec = Jvm.exec) (hg : g.method = m) {x y z : Value} {rest : List Value} (hd : decode c.code g.pc = .ok (.dup_x2, 1)) (hs : g.stack = x :: y :: z :: rest) (h1 : x.category = 1) (h2 : y.category = 1) (h3 : z.category = 1)
    (hr : Steps tb e below (T.setTop { g with pc := g.pc + 1, stack := x :: y :: z :: x :: rest }) target) : Steps tb e below (T.setTop g) target := by
  subst hg
  jvm_step h [h.top, hx, hd, hs, h1, h2, h3]
  exact hr
theorem own_gd {α : Type} (l : List α) (d : α) {i : Nat} (h : i < l.length) : l.getD i d = l[i] := by simp [List.getD_eq_getElem?_getD, h]
abbrev own_Rm := List (Int32 × List Int32)
abbrev own_d0 : Int32 × List Int32 := (0, [])
def own_Rw (Z : State) (h : Heap) (N : Nat) (bs : List Addr) (Rm : own_Rm) : Prop := bs.length = Rm.length ∧ bs.Nodup ∧ ∀ j, j < bs.length → N ≤ bs.getD j 0 ∧ ∃ k, own_Ar Z h (bs.getD j 0) k .int (Rm.getD j own_d0).1 (List.map Value.int (Rm.getD j own_d0).2) (.int (0 : Int32))
theorem own_Rw.nil (Z : State) (h : Heap) (N : Nat) : own_Rw Z h N [] [] := ⟨rfl, List.nodup_nil, fun j hj => absurd hj (Nat.not_lt_zero _)⟩
theorem own_Rw.ext {Z : State} {h h' : Heap} {N : Nat} {bs : List Addr} {Rm : own_Rm} (F : own_Rw Z h N bs Rm) (E : Ext h h') : own_Rw Z h' N bs Rm := ⟨F.1, F.2.1, fun j hj => ⟨(F.2.2 j hj).1, by obtain ⟨k, V⟩ := (F.2.2 j hj).2; exact ⟨k, V.ext E⟩⟩⟩
theorem own_Rw.other {Z : State} {h h' : Heap} {N : Nat} {bs : List Addr} {Rm : own_Rm} {a : Addr} {sl : Nat} {v : Value} (F : own_Rw Z h N bs Rm) (W : Wr h h' a sl v) (ha : a < N) : own_Rw Z h' N bs Rm := ⟨F.1, F.2.1, fun j hj => ⟨(F.2.2 j hj).1, by obtain ⟨k, V⟩ := (F.2.2 j hj).2; exact ⟨k, V.other W (Nat.ne_of_gt (Nat.lt_of_lt_of_le ha (F.2.2 j hj).1))⟩⟩⟩
theorem own_Rw.push {Z : State} {h h' : Heap} {N : Nat} {bs : List Addr} {Rm : own_Rm} {b : Addr} {k : ClassId} {z : Int32} {xs : List Int32} (F : own_Rw Z h N bs Rm) (E : Ext h h') (hb : b = h.size) (hN : N ≤ b) (V : own_Ar Z h' b k .int z (List.map Value.int xs) (.int (0 : Int32))) : own_Rw Z h' N (bs ++ [b]) (Rm ++ [(z, xs)]) := by
  obtain ⟨F1, F2, F3⟩ := F
  refine ⟨by simp [F1], ?_, fun j hj => ?_⟩
  · rw [List.nodup_append]
    refine ⟨F2, by simp, fun x hx y hy => ?_⟩
    obtain ⟨j, hj, rfl⟩ := List.mem_iff_getElem.mp hx
    obtain ⟨k', V'⟩ := (F3 j hj).2
    have := V'.lt
    rw [own_gd _ _ hj] at this
    simp at hy
    subst hy hb
    exact Nat.ne_of_lt this
  · by_cases q : j < bs.length
    · have e1 : (bs ++ [b]).getD j 0 = bs.getD j 0 := by simp [List.getD_eq_getElem?_getD, List.getElem?_append_left q]
      have e2 : (Rm ++ [(z, xs)]).getD j own_d0 = Rm.getD j own_d0 := by simp [List.getD_eq_getElem?_getD, List.getElem?_append_left (F1 ▸ q)]
      rw [e1, e2]
      obtain ⟨k', V'⟩ := (F3 j q).2
      exact ⟨(F3 j q).1, k', V'.ext E⟩
    · have hj' : j = bs.length := by simp at hj; omega
      subst hj'
      have e1 : (bs ++ [b]).getD bs.length 0 = b := by simp [List.getD_eq_getElem?_getD]
      have e2 : (Rm ++ [(z, xs)]).getD bs.length own_d0 = (z, xs) := by rw [F1]; simp [List.getD_eq_getElem?_getD]
      rw [e1, e2]
      exact ⟨hN, k, V⟩
theorem own_Rw.upd {Z : State} {h h' : Heap} {N : Nat} {bs : List Addr} {Rm : own_Rm} {i sl : Nat} {v : Value} {k : ClassId} {xs : List Int32} (F : own_Rw Z h N bs Rm) (hi : i < bs.length) (W : Wr h h' (bs.getD i 0) sl v) (V : own_Ar Z h' (bs.getD i 0) k .int (Rm.getD i own_d0).1 (List.map Value.int xs) (.int (0 : Int32))) : own_Rw Z h' N bs (Rm.set i ((Rm.getD i own_d0).1, xs)) := by
  obtain ⟨F1, F2, F3⟩ := F
  refine ⟨by simp [F1], F2, fun j hj => ⟨(F3 j hj).1, ?_⟩⟩
  by_cases q : j = i
  · subst q
    have e2 : (Rm.set j ((Rm.getD j own_d0).1, xs)).getD j own_d0 = ((Rm.getD j own_d0).1, xs) := by simp [List.getD_eq_getElem?_getD, List.getElem?_set_self (F1 ▸ hj)]
    rw [e2]
    exact ⟨k, V⟩
  · have e2 : (Rm.set i ((Rm.getD i own_d0).1, xs)).getD j own_d0 = Rm.getD j own_d0 := by simp [List.getD_eq_getElem?_getD, List.getElem?_set_ne (Ne.symm q)]
    rw [e2]
    obtain ⟨k', V'⟩ := (F3 j hj).2
    refine ⟨k', V'.other W ?_⟩
    rw [own_gd _ _ hj, own_gd _ _ hi]
    intro he
    rcases Nat.lt_or_gt_of_ne q with y | y
    · exact List.pairwise_iff_getElem.mp F2 _ _ hj hi y he
    · exact List.pairwise_iff_getElem.mp F2 _ _ hi hj y he.symm
theorem own_bref (bs : List Addr) (j : Nat) (h : j < bs.length) : (List.map Value.ref bs).getD j .null = .ref (bs.getD j 0) := by simp [List.getD_eq_getElem?_getD, h]
theorem own_app {Z : State} {h h' : Heap} {a b : Addr} {k : ClassId} {z j : Int32} {bs : List Addr} {c : Cell} (A : Arr Z h a c (.array .int)) (q1 : c.cls = k) (S : c.slots.size = z.toNatClampNeg) (q3 : ¬ z < 0) (H : Has c (List.map Value.ref bs) .null) (G : ∀ i, i < c.slots.size → fits (.array .int) ((List.map Value.ref bs).getD i .null) = true) (W : Wr h h' a j.toNatClampNeg (.ref b)) (hj : bs.length = j.toNatClampNeg) : Arv Z h' a k (.array .int) z (List.map Value.ref (bs ++ [b])) .null := by
  have e : ∀ i, (List.map Value.ref bs ++ [Value.null]).getD i .null = (List.map Value.ref bs).getD i .null := fun i => by
    by_cases q : i < (List.map Value.ref bs).length
    · simp only [List.getD_eq_getElem?_getD, List.getElem?_append_left q]
    · by_cases q2 : i = (List.map Value.ref bs).length
      · subst q2; simp [List.getD_eq_getElem?_getD]
      · rw [List.getD_eq_getElem?_getD, List.getD_eq_getElem?_getD, List.getElem?_eq_none (by simp at q q2 ⊢; omega), List.getElem?_eq_none (by omega)]
  have r := Arv.set (vs := List.map Value.ref bs ++ [Value.null]) A q1 S q3 (fun i hi => by rw [e]; exact H i hi) (fun i hi => by rw [e]; exact G i hi) (v := .ref b) rfl W (List.map Value.ref bs).length (by simp [hj]) (by simp)
  have e2 : (List.map Value.ref bs ++ [Value.null]).set (List.map Value.ref bs).length (.ref b) = List.map Value.ref (bs ++ [b]) := by rw [List.set_append_right _ _ (Nat.le_refl _)]; simp
  rw [e2] at r
  exact r
theorem own_flG (xs : List Int32) (i : Nat) (x : Int32) : (own_fl xs i x).getD i 0 = xs.getD i 0 := by
  unfold own_fl
  simp [List.getD_eq_getElem?_getD, List.getElem?_append_right, List.getElem?_drop]
def own_l1 (xs : List Int32) (i : Int32) (r : Nat) (ls : List Int32) : List Int32 := match r with
  | 0 => ls
  | r + 1 => own_l1 xs (i + (1 : Int32)) r (ls.set (xs.getD (i).toNatClampNeg 0).toNatClampNeg ((ls.getD (xs.getD (i).toNatClampNeg 0).toNatClampNeg 0) + (1 : Int32)))
theorem own_l1len (xs : List Int32) (r : Nat) : ∀ (i : Int32) (ls : List Int32), (own_l1 xs i r ls).length = ls.length := by
  induction r with
  | zero => intro i ls; rfl
  | succ r ih => intro i ls; rw [own_l1, ih]; simp
def own_mk (c : Int32) : Int32 × List Int32 := (c, List.replicate (c).toNatClampNeg (0 : Int32))
theorem own_tk (LF : List Int32) (i : Nat) (h : i < LF.length) : (LF.map own_mk).take i ++ [own_mk (LF.getD i 0)] = (LF.map own_mk).take (i + 1) := by
  rw [List.take_succ_eq_append_getElem (by simpa using h)]
  simp [List.getD_eq_getElem?_getD, h]
abbrev own_T3 := List Int32 × List Int32 × own_Rm
abbrev own_t3 (xs : List Int32) (i : Int32) : Nat := (xs.getD (i).toNatClampNeg 0).toNatClampNeg
def own_s3 (xs : List Int32) (i : Int32) (S : own_T3) : own_T3 := (S.1.set (own_t3 xs i) (S.1.getD (own_t3 xs i) 0 + (1 : Int32)), S.2.1 ++ [S.1.getD (own_t3 xs i) 0], S.2.2.set (own_t3 xs i) ((S.2.2.getD (own_t3 xs i) own_d0).1, (S.2.2.getD (own_t3 xs i) own_d0).2.set (S.1.getD (own_t3 xs i) 0).toNatClampNeg i))
def own_l3 (xs : List Int32) (i : Int32) (r : Nat) (S : own_T3) : own_T3 := match r with
  | 0 => S
  | r + 1 => own_l3 xs (i + (1 : Int32)) r (own_s3 xs i S)
def own_ok3 (xs : List Int32) (i : Int32) (r : Nat) (S : own_T3) : Prop := match r with
  | 0 => True
  | r + 1 => (¬ S.1.getD (own_t3 xs i) 0 < 0 ∧ S.1.getD (own_t3 xs i) 0 < (S.2.2.getD (own_t3 xs i) own_d0).1) ∧ own_ok3 xs (i + (1 : Int32)) r (own_s3 xs i S)
instance own_dec3 (xs : List Int32) : (r : Nat) → (i : Int32) → (S : own_T3) → Decidable (own_ok3 xs i r S)
  | 0, _, _ => isTrue trivial
  | r + 1, i, S => by
    unfold own_ok3
    have := own_dec3 xs r (i + (1 : Int32)) (own_s3 xs i S)
    infer_instance
theorem own_ys (qs ys : List Int32) (q : Int32) (i : Nat) (hq : qs.length = i) (h : i < ys.length) : (qs ++ ys.drop i).set i q = (qs ++ [q]) ++ ys.drop (i + 1) := by
  subst hq
  rw [List.set_append_right _ _ (Nat.le_refl _), List.drop_eq_getElem_cons h]
  simp only [Nat.sub_self, List.set_cons_zero, List.append_assoc, List.cons_append, List.nil_append]
def own_LF (xs : List Int32) (tc z : Int32) : List Int32 := own_l1 xs (0 : Int32) (z).toNatClampNeg (List.replicate (tc).toNatClampNeg (0 : Int32))
def own_S0 (LF : List Int32) : own_T3 := (List.replicate LF.length (0 : Int32), [], LF.map own_mk)
def own_res (xs : List Int32) (tc z : Int32) : own_T3 := own_l3 xs (0 : Int32) (z).toNatClampNeg (own_S0 (own_LF xs tc z))
def own_b1 (xs : List Int32) (i j : Int32) : Int32 := if j < i ∧ xs.getD (j).toNatClampNeg 0 = xs.getD (i).toNatClampNeg 0 then 1 else 0
def own_bef (xs : List Int32) (i : Int32) : Int32 := (0 : Int32) + own_b1 xs i 0 + own_b1 xs i 1 + own_b1 xs i 2 + own_b1 xs i 3
def own_c1 (xs : List Int32) (n t j : Int32) : Int32 := if j < n ∧ xs.getD (j).toNatClampNeg 0 = t then 1 else 0
def own_cnt (xs : List Int32) (n t : Int32) : Int32 := (0 : Int32) + own_c1 xs n t 0 + own_c1 xs n t 1 + own_c1 xs n t 2 + own_c1 xs n t 3 + own_c1 xs n t 4
theorem own_add1 {c S x : Int32} (h : c = S) (hx : x = 1) : c + (1 : Int32) = S + x := by rw [h, hx]
theorem own_add0 {c S x : Int32} (h : c = S) (hx : x = 0) : c = S + x := by rw [h, hx, Int32.add_zero]
theorem own_cA {c r : Nat} (h : c + (r + 1) ≤ 6) : c + 1 ≤ 6 ∧ (c + 1) + r ≤ 6 := by omega
theorem own_sA {c r : Nat} (h : c + 5 * (r + 1) ≤ 28) : c + 5 ≤ 28 ∧ (c + 5) + 5 * r ≤ 28 := by omega
theorem own_okS {xs : List Int32} {i : Int32} {r : Nat} {S : own_T3} (h : own_ok3 xs i (r + 1) S) : (¬ S.1.getD (own_t3 xs i) 0 < 0 ∧ S.1.getD (own_t3 xs i) 0 < (S.2.2.getD (own_t3 xs i) own_d0).1) ∧ own_ok3 xs (i + (1 : Int32)) r (own_s3 xs i S) := h
theorem own_LFlen (xs : List Int32) (tc z : Int32) : (own_LF xs tc z).length = (tc).toNatClampNeg := by unfold own_LF; rw [own_l1len]; simp
theorem own_tr {a b z : Int32} (h : a < b) (h2 : b < z) : a < z := by grind
abbrev own_hop (xs qs : List Int32) (tc : Int32) (Rm : own_Rm) (i : Int32) : Prop := qs.getD (i).toNatClampNeg 0 = own_bef xs i ∧ (¬ own_bef xs i < 0 ∧ own_bef xs i < (Rm.getD (own_t3 xs i) own_d0).1) ∧ (Rm.getD (own_t3 xs i) own_d0).2.getD (own_bef xs i).toNatClampNeg 0 = i
def own_chk (tc n : Int32) (xs : List Int32) : Prop := (∀ i ∈ [(0 : Int32), 1, 2, 3, 4], i < n → ¬ xs.getD (i).toNatClampNeg 0 < 0 ∧ xs.getD (i).toNatClampNeg 0 < tc) ∧
  (∀ t ∈ [(0 : Int32), 1, 2, 3], t < tc → ¬ (own_LF xs tc n).getD (t).toNatClampNeg 0 < 0 ∧ ((own_LF xs tc n).getD (t).toNatClampNeg 0).toNatClampNeg ≤ 5) ∧ own_ok3 xs (0 : Int32) (n).toNatClampNeg (own_S0 (own_LF xs tc n)) ∧
  (∀ i ∈ [(0 : Int32), 1, 2, 3, 4], i < n → own_hop xs (own_res xs tc n).2.1 tc (own_res xs tc n).2.2 i) ∧ (∀ t ∈ [(0 : Int32), 1, 2, 3], t < tc → ((own_res xs tc n).2.2.getD (t).toNatClampNeg own_d0).1 = own_cnt xs n t)
instance (tc n : Int32) (xs : List Int32) : Decidable (own_chk tc n xs) := by unfold own_chk; infer_instance
def own_D : List Int32 := [0, 1, 2, 3]
def own_E : List Int32 := [1, 2, 3, 4]
theorem own_k0 : (own_E.all fun t => decide (own_chk t 0 [])) = true := by decide +kernel
theorem own_kz : own_chk 0 0 [] := by decide +kernel
theorem own_k1 : (own_E.all fun t => own_D.all fun a => decide (a < t → own_chk t 1 [a])) = true := by decide +kernel
theorem own_k2 : (own_E.all fun t => own_D.all fun a => own_D.all fun b => decide (a < t → b < t → own_chk t 2 [a, b])) = true := by decide +kernel
theorem own_k3 : (own_E.all fun t => own_D.all fun a => own_D.all fun b => own_D.all fun c => decide (a < t → b < t → c < t → own_chk t 3 [a, b, c])) = true := by decide +kernel
theorem own_k4 : (own_E.all fun t => own_D.all fun a => own_D.all fun b => own_D.all fun c => own_D.all fun d => decide (a < t → b < t → c < t → d < t → own_chk t 4 [a, b, c, d])) = true := by decide +kernel
theorem own_k5 : (own_E.all fun t => own_D.all fun a => own_D.all fun b => own_D.all fun c => own_D.all fun d => own_D.all fun e => decide (a < t → b < t → c < t → d < t → e < t → own_chk t 5 [a, b, c, d, e])) = true := by decide +kernel
theorem own_f1 {t n a : Int32} (ht : t ∈ own_E) (hn : n = 1) (ha : a ∈ own_D) (la : a < t) : own_chk t n ((List.replicate (n).toNatClampNeg (0 : Int32)).set ((0 : Int32)).toNatClampNeg a) := by
  subst hn
  exact (of_decide_eq_true (List.all_eq_true.mp (List.all_eq_true.mp own_k1 t ht) a ha)) la
theorem own_f2 {t n a b : Int32} (ht : t ∈ own_E) (hn : n = 2) (ha : a ∈ own_D) (la : a < t) (hb : b ∈ own_D) (lb : b < t) : own_chk t n (((List.replicate (n).toNatClampNeg (0 : Int32)).set ((0 : Int32)).toNatClampNeg a).set ((1 : Int32)).toNatClampNeg b) := by
  subst hn
  exact (of_decide_eq_true (List.all_eq_true.mp (List.all_eq_true.mp (List.all_eq_true.mp own_k2 t ht) a ha) b hb)) la lb
theorem own_f3 {t n a b c : Int32} (ht : t ∈ own_E) (hn : n = 3) (ha : a ∈ own_D) (la : a < t) (hb : b ∈ own_D) (lb : b < t) (hc : c ∈ own_D) (lc : c < t) : own_chk t n ((((List.replicate (n).toNatClampNeg (0 : Int32)).set ((0 : Int32)).toNatClampNeg a).set ((1 : Int32)).toNatClampNeg b).set ((2 : Int32)).toNatClampNeg c) := by
  subst hn
  exact (of_decide_eq_true (List.all_eq_true.mp (List.all_eq_true.mp (List.all_eq_true.mp (List.all_eq_true.mp own_k3 t ht) a ha) b hb) c hc)) la lb lc
theorem own_f4 {t n a b c d : Int32} (ht : t ∈ own_E) (hn : n = 4) (ha : a ∈ own_D) (la : a < t) (hb : b ∈ own_D) (lb : b < t) (hc : c ∈ own_D) (lc : c < t) (hd : d ∈ own_D) (ld : d < t) : own_chk t n (((((List.replicate (n).toNatClampNeg (0 : Int32)).set ((0 : Int32)).toNatClampNeg a).set ((1 : Int32)).toNatClampNeg b).set ((2 : Int32)).toNatClampNeg c).set ((3 : Int32)).toNatClampNeg d) := by
  subst hn
  exact (of_decide_eq_true (List.all_eq_true.mp (List.all_eq_true.mp (List.all_eq_true.mp (List.all_eq_true.mp (List.all_eq_true.mp own_k4 t ht) a ha) b hb) c hc) d hd)) la lb lc ld
theorem own_f5 {t n a b c d e : Int32} (ht : t ∈ own_E) (hn : n = 5) (ha : a ∈ own_D) (la : a < t) (hb : b ∈ own_D) (lb : b < t) (hc : c ∈ own_D) (lc : c < t) (hd : d ∈ own_D) (ld : d < t) (he : e ∈ own_D) (le : e < t) : own_chk t n ((((((List.replicate (n).toNatClampNeg (0 : Int32)).set ((0 : Int32)).toNatClampNeg a).set ((1 : Int32)).toNatClampNeg b).set ((2 : Int32)).toNatClampNeg c).set ((3 : Int32)).toNatClampNeg d).set ((4 : Int32)).toNatClampNeg e) := by
  subst hn
  exact (of_decide_eq_true (List.all_eq_true.mp (List.all_eq_true.mp (List.all_eq_true.mp (List.all_eq_true.mp (List.all_eq_true.mp (List.all_eq_true.mp own_k5 t ht) a ha) b hb) c hc) d hd) e he)) la lb lc ld le
theorem own_f0 {t n : Int32} (ht : t = 0 ∨ t ∈ own_E) (hn : n = 0) : own_chk t n (List.replicate (n).toNatClampNeg (0 : Int32)) := by
  subst hn
  rcases ht with rfl | ht
  · exact own_kz
  · exact of_decide_eq_true (List.all_eq_true.mp own_k0 t ht)
def own_F : List Int32 := [0, 1, 2, 3, 4, 5]
theorem own_Fc {n : Int32} (h : n ∈ own_F) : n = 0 ∨ n = 1 ∨ n = 2 ∨ n = 3 ∨ n = 4 ∨ n = 5 := by simpa [own_F] using h
theorem own_nb {n : Int32} (h : n ∈ own_F) : ¬ n < 0 ∧ n.toNatClampNeg ≤ 5 := by rcases own_Fc h with rfl | rfl | rfl | rfl | rfl | rfl <;> decide
theorem own_n0 {n : Int32} (h : n ∈ own_F) (g : ¬ 0 < n) : n = 0 := by rcases own_Fc h with rfl | rfl | rfl | rfl | rfl | rfl <;> first | rfl | exact absurd (by decide) g
theorem own_n1 {n : Int32} (h : n ∈ own_F) (f : 0 < n) (g : ¬ 1 < n) : n = 1 := by rcases own_Fc h with rfl | rfl | rfl | rfl | rfl | rfl <;> first | rfl | exact absurd f (by decide) | exact absurd (by decide) g
theorem own_n2 {n : Int32} (h : n ∈ own_F) (f : 1 < n) (g : ¬ 2 < n) : n = 2 := by rcases own_Fc h with rfl | rfl | rfl | rfl | rfl | rfl <;> first | rfl | exact absurd f (by decide) | exact absurd (by decide) g
theorem own_n3 {n : Int32} (h : n ∈ own_F) (f : 2 < n) (g : ¬ 3 < n) : n = 3 := by rcases own_Fc h with rfl | rfl | rfl | rfl | rfl | rfl <;> first | rfl | exact absurd f (by decide) | exact absurd (by decide) g
theorem own_n4 {n : Int32} (h : n ∈ own_F) (f : 3 < n) (g : ¬ 4 < n) : n = 4 := by rcases own_Fc h with rfl | rfl | rfl | rfl | rfl | rfl <;> first | rfl | exact absurd f (by decide) | exact absurd (by decide) g
theorem own_n5 {n : Int32} (h : n ∈ own_F) (f : 4 < n) : n = 5 := by rcases own_Fc h with rfl | rfl | rfl | rfl | rfl | rfl <;> first | rfl | exact absurd f (by decide)
theorem own_ne0 {tc n : Int32} (h : tc = 0 → n = 0) (g : 0 < n) : tc ≠ 0 := fun q => by rw [h q] at g; exact absurd g (by decide)
theorem own_lts {n j k : Int32} (h : j < k) (g : ¬ j < n) : ¬ k < n := by grind
theorem own_pt {y : Int32} (k : Int32) (h : y.toInt = k.toInt) : y = k := Int32.toInt_inj.mp h
theorem own_tcD (x : Int32) : ((x &&& (7 : Int32)) % (5 : Int32)) = 0 ∨ ((x &&& (7 : Int32)) % (5 : Int32)) ∈ own_E := by
  have h1 := c_mask x (7 : Int32) 3 (by decide) (by decide)
  have h4 := (c_irem (x &&& (7 : Int32)) (5 : Int32) 5 (by decide)).1 (by omega)
  have h2 : ((x &&& (7 : Int32)) % (5 : Int32)).toInt = 0 ∨ ((x &&& (7 : Int32)) % (5 : Int32)).toInt = 1 ∨ ((x &&& (7 : Int32)) % (5 : Int32)).toInt = 2 ∨ ((x &&& (7 : Int32)) % (5 : Int32)).toInt = 3 ∨ ((x &&& (7 : Int32)) % (5 : Int32)).toInt = 4 := by omega
  generalize ((x &&& (7 : Int32)) % (5 : Int32)) = y at *
  rcases h2 with h | h | h | h | h
  · exact Or.inl (own_pt 0 (h.trans (by decide)))
  · rw [own_pt 1 (h.trans (by decide))]; exact Or.inr (by decide)
  · rw [own_pt 2 (h.trans (by decide))]; exact Or.inr (by decide)
  · rw [own_pt 3 (h.trans (by decide))]; exact Or.inr (by decide)
  · rw [own_pt 4 (h.trans (by decide))]; exact Or.inr (by decide)
theorem own_nF (x : Int32) : ((x &&& (7 : Int32)) % (6 : Int32)) ∈ own_F := by
  have h1 := c_mask x (7 : Int32) 3 (by decide) (by decide)
  have h4 := (c_irem (x &&& (7 : Int32)) (6 : Int32) 6 (by decide)).1 (by omega)
  have h2 : ((x &&& (7 : Int32)) % (6 : Int32)).toInt = 0 ∨ ((x &&& (7 : Int32)) % (6 : Int32)).toInt = 1 ∨ ((x &&& (7 : Int32)) % (6 : Int32)).toInt = 2 ∨ ((x &&& (7 : Int32)) % (6 : Int32)).toInt = 3 ∨ ((x &&& (7 : Int32)) % (6 : Int32)).toInt = 4 ∨ ((x &&& (7 : Int32)) % (6 : Int32)).toInt = 5 := by omega
  generalize ((x &&& (7 : Int32)) % (6 : Int32)) = y at *
  rcases h2 with h | h | h | h | h | h
  · rw [own_pt 0 (h.trans (by decide))]; decide
  · rw [own_pt 1 (h.trans (by decide))]; decide
  · rw [own_pt 2 (h.trans (by decide))]; decide
  · rw [own_pt 3 (h.trans (by decide))]; decide
  · rw [own_pt 4 (h.trans (by decide))]; decide
  · rw [own_pt 5 (h.trans (by decide))]; decide
theorem own_tcB {t : Int32} (h : t = 0 ∨ t ∈ own_E) : ¬ t < 0 ∧ t.toNatClampNeg ≤ 4 := by
  rcases h with rfl | h
  · decide
  · have q : t = 1 ∨ t = 2 ∨ t = 3 ∨ t = 4 := by simpa [own_E] using h
    rcases q with rfl | rfl | rfl | rfl <;> decide
theorem own_pk (y t : Int32) (ht : t ∈ own_E) : ((y &&& (7 : Int32)) % t) ∈ own_D ∧ ((y &&& (7 : Int32)) % t) < t := by
  have h1 := c_mask y (7 : Int32) 3 (by decide) (by decide)
  have h2 : (y &&& (7 : Int32)).toInt = 0 ∨ (y &&& (7 : Int32)).toInt = 1 ∨ (y &&& (7 : Int32)).toInt = 2 ∨ (y &&& (7 : Int32)).toInt = 3 ∨ (y &&& (7 : Int32)).toInt = 4 ∨ (y &&& (7 : Int32)).toInt = 5 ∨ (y &&& (7 : Int32)).toInt = 6 ∨ (y &&& (7 : Int32)).toInt = 7 := by omega
  generalize (y &&& (7 : Int32)) = w at *
  have q : t = 1 ∨ t = 2 ∨ t = 3 ∨ t = 4 := by simpa [own_E] using ht
  have e : w = 0 ∨ w = 1 ∨ w = 2 ∨ w = 3 ∨ w = 4 ∨ w = 5 ∨ w = 6 ∨ w = 7 := by
    rcases h2 with h | h | h | h | h | h | h | h
    · exact Or.inl (own_pt 0 (h.trans (by decide)))
    · exact Or.inr (Or.inl (own_pt 1 (h.trans (by decide))))
    · exact Or.inr (Or.inr (Or.inl (own_pt 2 (h.trans (by decide)))))
    · exact Or.inr (Or.inr (Or.inr (Or.inl (own_pt 3 (h.trans (by decide))))))
    · exact Or.inr (Or.inr (Or.inr (Or.inr (Or.inl (own_pt 4 (h.trans (by decide)))))))
    · exact Or.inr (Or.inr (Or.inr (Or.inr (Or.inr (Or.inl (own_pt 5 (h.trans (by decide))))))))
    · exact Or.inr (Or.inr (Or.inr (Or.inr (Or.inr (Or.inr (Or.inl (own_pt 6 (h.trans (by decide)))))))))
    · exact Or.inr (Or.inr (Or.inr (Or.inr (Or.inr (Or.inr (Or.inr (own_pt 7 (h.trans (by decide)))))))))
  rcases q with rfl | rfl | rfl | rfl <;> rcases e with rfl | rfl | rfl | rfl | rfl | rfl | rfl | rfl <;> decide
theorem own_i5 {n i : Int32} (h : n ∈ own_F) (h0 : ¬ i < 0) (h1 : i < n) : i ∈ [(0 : Int32), 1, 2, 3, 4] := by
  have b : i.toInt = 0 ∨ i.toInt = 1 ∨ i.toInt = 2 ∨ i.toInt = 3 ∨ i.toInt = 4 := by
    rw [Int32.lt_iff_toInt_lt, show (0 : Int32).toInt = 0 by decide] at h0
    rw [Int32.lt_iff_toInt_lt] at h1
    have : n.toInt ≤ 5 := by rcases own_Fc h with rfl | rfl | rfl | rfl | rfl | rfl <;> decide
    omega
  rcases b with q | q | q | q | q
  · rw [own_pt 0 (q.trans (by decide))]; decide
  · rw [own_pt 1 (q.trans (by decide))]; decide
  · rw [own_pt 2 (q.trans (by decide))]; decide
  · rw [own_pt 3 (q.trans (by decide))]; decide
  · rw [own_pt 4 (q.trans (by decide))]; decide
theorem own_i4 {t i : Int32} (h : t = 0 ∨ t ∈ own_E) (h0 : ¬ i < 0) (h1 : i < t) : i ∈ [(0 : Int32), 1, 2, 3] := by
  have b : i.toInt = 0 ∨ i.toInt = 1 ∨ i.toInt = 2 ∨ i.toInt = 3 := by
    rw [Int32.lt_iff_toInt_lt, show (0 : Int32).toInt = 0 by decide] at h0
    rw [Int32.lt_iff_toInt_lt] at h1
    have : t.toInt ≤ 4 := by
      rcases h with rfl | h
      · decide
      · have q : t = 1 ∨ t = 2 ∨ t = 3 ∨ t = 4 := by simpa [own_E] using h
        rcases q with rfl | rfl | rfl | rfl <;> decide
    omega
  rcases b with q | q | q | q
  · rw [own_pt 0 (q.trans (by decide))]; decide
  · rw [own_pt 1 (q.trans (by decide))]; decide
  · rw [own_pt 2 (q.trans (by decide))]; decide
  · rw [own_pt 3 (q.trans (by decide))]; decide
theorem d5_0 : decode method_4_code 0 = .ok (.iconst 0, 1) := by decide +kernel
theorem d5_1 : decode method_4_code 1 = .ok (.istore_n 2, 1) := by decide +kernel
theorem d5_2 : decode method_4_code 2 = .ok (.iload_n 1, 1) := by decide +kernel
theorem d5_3 : decode method_4_code 3 = .ok (.ifCond .le 15, 3) := by decide +kernel
theorem d5_6 : decode method_4_code 6 = .ok (.aload_n 0, 1) := by decide +kernel
theorem d5_7 : decode method_4_code 7 = .ok (.iconst 0, 1) := by decide +kernel
theorem d5_8 : decode method_4_code 8 = .ok (.iaload, 1) := by decide +kernel
theorem d5_9 : decode method_4_code 9 = .ok (.aload_n 0, 1) := by decide +kernel
theorem d5_10 : decode method_4_code 10 = .ok (.iload_n 1, 1) := by decide +kernel
theorem d5_11 : decode method_4_code 11 = .ok (.iaload, 1) := by decide +kernel
theorem d5_12 : decode method_4_code 12 = .ok (.if_icmp .ne 6, 3) := by decide +kernel
theorem d5_15 : decode method_4_code 15 = .ok (.iinc 2 1, 3) := by decide +kernel
theorem d5_18 : decode method_4_code 18 = .ok (.iload_n 1, 1) := by decide +kernel
theorem d5_19 : decode method_4_code 19 = .ok (.iconst 1, 1) := by decide +kernel
theorem d5_20 : decode method_4_code 20 = .ok (.if_icmp .le 15, 3) := by decide +kernel
theorem d5_23 : decode method_4_code 23 = .ok (.aload_n 0, 1) := by decide +kernel
theorem d5_24 : decode method_4_code 24 = .ok (.iconst 1, 1) := by decide +kernel
theorem d5_25 : decode method_4_code 25 = .ok (.iaload, 1) := by decide +kernel
theorem d5_26 : decode method_4_code 26 = .ok (.aload_n 0, 1) := by decide +kernel
theorem d5_27 : decode method_4_code 27 = .ok (.iload_n 1, 1) := by decide +kernel
theorem d5_28 : decode method_4_code 28 = .ok (.iaload, 1) := by decide +kernel
theorem d5_29 : decode method_4_code 29 = .ok (.if_icmp .ne 6, 3) := by decide +kernel
theorem d5_32 : decode method_4_code 32 = .ok (.iinc 2 1, 3) := by decide +kernel
theorem d5_35 : decode method_4_code 35 = .ok (.iload_n 1, 1) := by decide +kernel
theorem d5_36 : decode method_4_code 36 = .ok (.iconst 2, 1) := by decide +kernel
theorem d5_37 : decode method_4_code 37 = .ok (.if_icmp .le 15, 3) := by decide +kernel
theorem d5_40 : decode method_4_code 40 = .ok (.aload_n 0, 1) := by decide +kernel
theorem d5_41 : decode method_4_code 41 = .ok (.iconst 2, 1) := by decide +kernel
theorem d5_42 : decode method_4_code 42 = .ok (.iaload, 1) := by decide +kernel
theorem d5_43 : decode method_4_code 43 = .ok (.aload_n 0, 1) := by decide +kernel
theorem d5_44 : decode method_4_code 44 = .ok (.iload_n 1, 1) := by decide +kernel
theorem d5_45 : decode method_4_code 45 = .ok (.iaload, 1) := by decide +kernel
theorem d5_46 : decode method_4_code 46 = .ok (.if_icmp .ne 6, 3) := by decide +kernel
theorem d5_49 : decode method_4_code 49 = .ok (.iinc 2 1, 3) := by decide +kernel
theorem d5_52 : decode method_4_code 52 = .ok (.iload_n 1, 1) := by decide +kernel
theorem d5_53 : decode method_4_code 53 = .ok (.iconst 3, 1) := by decide +kernel
theorem d5_54 : decode method_4_code 54 = .ok (.if_icmp .le 15, 3) := by decide +kernel
theorem d5_57 : decode method_4_code 57 = .ok (.aload_n 0, 1) := by decide +kernel
theorem d5_58 : decode method_4_code 58 = .ok (.iconst 3, 1) := by decide +kernel
theorem d5_59 : decode method_4_code 59 = .ok (.iaload, 1) := by decide +kernel
theorem d5_60 : decode method_4_code 60 = .ok (.aload_n 0, 1) := by decide +kernel
theorem d5_61 : decode method_4_code 61 = .ok (.iload_n 1, 1) := by decide +kernel
theorem d5_62 : decode method_4_code 62 = .ok (.iaload, 1) := by decide +kernel
theorem d5_63 : decode method_4_code 63 = .ok (.if_icmp .ne 6, 3) := by decide +kernel
theorem d5_66 : decode method_4_code 66 = .ok (.iinc 2 1, 3) := by decide +kernel
theorem d5_69 : decode method_4_code 69 = .ok (.iload_n 2, 1) := by decide +kernel
theorem d5_70 : decode method_4_code 70 = .ok (.ireturn, 1) := by decide +kernel
theorem pn5 : plainName "com/example/fenceline/fenceline/TraceThreadsPinLaw" = true := by first | (simp [plainName, overriddenIn]; done) | decide +kernel
theorem ef5 (m : MethodId) (x0 : Addr) (x1 : Int32) : entryFrame m #[(.ref x0), (.int x1)] 3 = mkF m 0 #[.val (.ref x0), .val (.int x1), .unset] [] := by first | (simp [entryFrame, mkF, argsToLocals, Value.category]; done) | rfl
def Q5 (Z : State) (a1 : Addr) (p2 : Int32) (kA : ClassId) (z : Int32) (xs : List Int32) (h0 : Heap) (n0 : Nat) (v : Option Value) (h : Heap) (L : List Loc) : Prop := v = some (.int (own_bef xs p2)) ∧ Fr n0 L ∧ h = h0
set_option maxRecDepth 65536 in
set_option maxHeartbeats 40000000 in
theorem rm5 (l : Launch) (Z : State) (a0 : Array Value) (hw : ∀ d ∈ tables_1, d.before a0 Z = true) (ws : List Jvm.Cond) (a1 : Addr) (p2 : Int32) (kA : ClassId) (z : Int32) (xs : List Int32) (h0 : Heap) (n0 : Nat) (Z0 : n0 ≤ h0.size) (V1 : own_Ar Z h0 a1 kA .int z (List.map Value.int xs) (.int (0 : Int32))) (hi0 : ¬ p2 < 0) (hiz : p2 < z) :
    MetFree l (⟨"com/example/fenceline/fenceline/TraceThreadsPinLaw", "before", "([II)I"⟩ : MethodName) (head1 (Jvm.Cond.code (⟨"com/example/fenceline/fenceline/TraceThreadsPinLaw", "before", "([II)I"⟩ : MethodName) method_4_code 3 (some .int) :: ws) ({ frames := 0, cells := 0, slots := 0, locals := 0 } : Room)) (fun a U => a = #[(.ref a1), (.int p2)] ∧ Z.Warmed39 U.vm ∧ U.heap = h0) (fun _ _ _ _ _ => True) (fun _ U o U' => ∃ v L, o = .returned v ∧ Q5 Z a1 p2 kA z xs h0 n0 v U'.heap L ∧ FrameEnd U o U' L ({ frames := 0, cells := 0, slots := 0, locals := 0 } : Room).cells ({ frames := 0, cells := 0, slots := 0, locals := 0 } : Room).slots) := by
  refine MetFree.of_bodySF (plainFor_of_name pn5) hisR ?_
  intro p e s m args below meth c s₁ Bd hml0 hP hK
  obtain ⟨rfl, hZ, hh⟩ := hP
  have hx := Bd.exec
  have hby := Bd.bytes
  have hml : c.maxLocals = 3 := hml0
  have hown : s.vm.findClass "com/example/fenceline/fenceline/TraceThreadsPinLaw" = some m.cls := findClass_of_methodNamed Bd.named
  have hnm := (name_of_methodNamed Bd.named Bd.method).1
  have X0 : Stand p l e ({ frames := 0, cells := 0, slots := 0, locals := 0 } : Room) s m #[(.ref a1), (.int p2)] below meth c s₁ [] 0 0 := Stand.of_body Bd
  have e0 : s₁.heap = h0 := by rw [← hh, Bd.state]; rfl
  have N0 := Fr.nil n0
  refine (show own_G p.tables e below (own_P s (Q5 Z a1 p2 kA z xs h0 n0) 0 0) (s₁.setTop (entryFrame m #[(.ref a1), (.int p2)] 3)) from ?_)
  refine own_via (fun t k => castTop (ef5 m a1 p2) k) ?_
  show own_G p.tables e below _ (s₁.setTop (mkF m 0 #[.val (.ref a1), .val (.int p2), .unset] []))
  refine own_via (S' := s₁.setTop (mkF m 2 #[.val (.ref a1), .val (.int p2), .val (.int (0 : Int32))] [])) (fun t k => ?_) ?_
  · show Steps p.tables e below (s₁.setTop (mkF m 0 #[.val (.ref a1), .val (.int p2), .unset] [])) t
    refine XS.iconst X0.here hx rfl (hb hby d5_0) ?_
    show Steps p.tables e below (s₁.setTop (mkF m 1 #[.val (.ref a1), .val (.int p2), .unset] [(.int (0 : Int32))])) t
    refine XS.istoreN X0.here hx rfl (hb hby d5_1) rfl (l' := #[.val (.ref a1), .val (.int p2), .val (.int (0 : Int32))]) rfl ?_
    exact k
  have J0 : ∀ c0 : Int32, c0 = (0 : Int32) → own_G p.tables e below (own_P s (Q5 Z a1 p2 kA z xs h0 n0) 0 0) (s₁.setTop (mkF m 2 #[.val (.ref a1), .val (.int p2), .val (.int c0)] [])) := by
    intro c0 hs0
    have J1 : ∀ c1 : Int32, c1 = ((0 : Int32) + own_b1 xs p2 (0 : Int32)) → own_G p.tables e below (own_P s (Q5 Z a1 p2 kA z xs h0 n0) 0 0) (s₁.setTop (mkF m 18 #[.val (.ref a1), .val (.int p2), .val (.int c1)] [])) := by
      intro c1 hs1
      have J2 : ∀ c2 : Int32, c2 = (((0 : Int32) + own_b1 xs p2 (0 : Int32)) + own_b1 xs p2 (1 : Int32)) → own_G p.tables e below (own_P s (Q5 Z a1 p2 kA z xs h0 n0) 0 0) (s₁.setTop (mkF m 35 #[.val (.ref a1), .val (.int p2), .val (.int c2)] [])) := by
        intro c2 hs2
        have J3 : ∀ c3 : Int32, c3 = ((((0 : Int32) + own_b1 xs p2 (0 : Int32)) + own_b1 xs p2 (1 : Int32)) + own_b1 xs p2 (2 : Int32)) → own_G p.tables e below (own_P s (Q5 Z a1 p2 kA z xs h0 n0) 0 0) (s₁.setTop (mkF m 52 #[.val (.ref a1), .val (.int p2), .val (.int c3)] [])) := by
          intro c3 hs3
          have J4 : ∀ c4 : Int32, c4 = (((((0 : Int32) + own_b1 xs p2 (0 : Int32)) + own_b1 xs p2 (1 : Int32)) + own_b1 xs p2 (2 : Int32)) + own_b1 xs p2 (3 : Int32)) → own_G p.tables e below (own_P s (Q5 Z a1 p2 kA z xs h0 n0) 0 0) (s₁.setTop (mkF m 69 #[.val (.ref a1), .val (.int p2), .val (.int c4)] [])) := by
            intro c4 hs4
            show own_G p.tables e below _ (s₁.setTop (mkF m 69 #[.val (.ref a1), .val (.int p2), .val (.int c4)] []))
            refine own_via (S' := s₁.setTop (mkF m 70 #[.val (.ref a1), .val (.int p2), .val (.int c4)] [(.int c4)])) (fun t k => ?_) ?_
            · show Steps p.tables e below (s₁.setTop (mkF m 69 #[.val (.ref a1), .val (.int p2), .val (.int c4)] [])) t
              refine XS.iloadN X0.here hx rfl (hb hby d5_69) rfl ?_
              exact k
            exact own_end (h := h0) X0 (v := some (.int c4)) Bd.notSynchronized (fun h => by rw [Bd.returns] at h; cases h) (fun fs hr => retOut X0 hx Bd.returns rfl (Or.inl ⟨rfl, Or.inl rfl, _, rfl⟩) (hb hby d5_70) hr) e0 ⟨congrArg (fun q => some (Value.int q)) hs4, N0, rfl⟩ (by decide) (by decide)
          show own_G p.tables e below _ (s₁.setTop (mkF m 52 #[.val (.ref a1), .val (.int p2), .val (.int c3)] []))
          refine own_via (S' := s₁.setTop (mkF m 54 #[.val (.ref a1), .val (.int p2), .val (.int c3)] [(.int (3 : Int32)), (.int p2)])) (fun t k => ?_) ?_
          · show Steps p.tables e below (s₁.setTop (mkF m 52 #[.val (.ref a1), .val (.int p2), .val (.int c3)] [])) t
            refine XS.iloadN X0.here hx rfl (hb hby d5_52) rfl ?_
            show Steps p.tables e below (s₁.setTop (mkF m 53 #[.val (.ref a1), .val (.int p2), .val (.int c3)] [(.int p2)])) t
            refine XS.iconst X0.here hx rfl (hb hby d5_53) ?_
            exact k
          by_cases hc54_1 : (3 : Int32) < p2
          · refine own_via (S' := s₁.setTop (mkF m 57 #[.val (.ref a1), .val (.int p2), .val (.int c3)] [])) (fun t k => XS.icmpNo (g := (mkF m 54 #[.val (.ref a1), .val (.int p2), .val (.int c3)] [(.int (3 : Int32)), (.int p2)])) X0.here hx rfl (hb hby d5_54) rfl (tlt hc54_1).2.2.2 k) ?_
            refine own_via (S' := s₁.setTop (mkF m 59 #[.val (.ref a1), .val (.int p2), .val (.int c3)] [(.int (3 : Int32)), (.ref a1)])) (fun t k => ?_) ?_
            · show Steps p.tables e below (s₁.setTop (mkF m 57 #[.val (.ref a1), .val (.int p2), .val (.int c3)] [])) t
              refine XS.aloadN X0.here hx rfl (hb hby d5_57) rfl rfl ?_
              show Steps p.tables e below (s₁.setTop (mkF m 58 #[.val (.ref a1), .val (.int p2), .val (.int c3)] [(.ref a1)])) t
              refine XS.iconst X0.here hx rfl (hb hby d5_58) ?_
              exact k
            obtain ⟨⟨cl2, Ar2, q2, S2, Nn2, H2, G2⟩, Le2⟩ := id V1
            have hin2 : ¬ ((3 : Int32) < 0 ∨ cl2.slots.size ≤ ((3 : Int32)).toNatClampNeg) := inb_of S2 ⟨by decide, own_tr hc54_1 hiz⟩
            have hat2 : cl2.slots[((3 : Int32)).toNatClampNeg]? = some (.int (xs.getD ((3 : Int32)).toNatClampNeg 0)) := Has.at H2 hin2 (own_gI _ _)
            refine own_via (S' := s₁.setTop (mkF m 60 #[.val (.ref a1), .val (.int p2), .val (.int c3)] [(.int (xs.getD ((3 : Int32)).toNatClampNeg 0))])) (fun t kz_ => X0.iaload hx (j := (3 : Int32)) (v := (.int (xs.getD ((3 : Int32)).toNatClampNeg 0))) (by rw [e0]; exact Ar2.1) (State.isArrayOf_alike hZ.alike Ar2.2.1) Ar2.2.2 hin2 hat2 (g := (mkF m 59 #[.val (.ref a1), .val (.int p2), .val (.int c3)] [(.int (3 : Int32)), (.ref a1)])) rfl rfl (hb hby d5_59) _ kz_) ?_
            refine own_via (S' := s₁.setTop (mkF m 62 #[.val (.ref a1), .val (.int p2), .val (.int c3)] [(.int p2), (.ref a1), (.int (xs.getD ((3 : Int32)).toNatClampNeg 0))])) (fun t k => ?_) ?_
            · show Steps p.tables e below (s₁.setTop (mkF m 60 #[.val (.ref a1), .val (.int p2), .val (.int c3)] [(.int (xs.getD ((3 : Int32)).toNatClampNeg 0))])) t
              refine XS.aloadN X0.here hx rfl (hb hby d5_60) rfl rfl ?_
              show Steps p.tables e below (s₁.setTop (mkF m 61 #[.val (.ref a1), .val (.int p2), .val (.int c3)] [(.ref a1), (.int (xs.getD ((3 : Int32)).toNatClampNeg 0))])) t
              refine XS.iloadN X0.here hx rfl (hb hby d5_61) rfl ?_
              exact k
            obtain ⟨⟨cl3, Ar3, q3, S3, Nn3, H3, G3⟩, Le3⟩ := id V1
            have hin3 : ¬ (p2 < 0 ∨ cl3.slots.size ≤ (p2).toNatClampNeg) := inb_of S3 ⟨hi0, hiz⟩
            have hat3 : cl3.slots[(p2).toNatClampNeg]? = some (.int (xs.getD (p2).toNatClampNeg 0)) := Has.at H3 hin3 (own_gI _ _)
            refine own_via (S' := s₁.setTop (mkF m 63 #[.val (.ref a1), .val (.int p2), .val (.int c3)] [(.int (xs.getD (p2).toNatClampNeg 0)), (.int (xs.getD ((3 : Int32)).toNatClampNeg 0))])) (fun t kz_ => X0.iaload hx (j := p2) (v := (.int (xs.getD (p2).toNatClampNeg 0))) (by rw [e0]; exact Ar3.1) (State.isArrayOf_alike hZ.alike Ar3.2.1) Ar3.2.2 hin3 hat3 (g := (mkF m 62 #[.val (.ref a1), .val (.int p2), .val (.int c3)] [(.int p2), (.ref a1), (.int (xs.getD ((3 : Int32)).toNatClampNeg 0))])) rfl rfl (hb hby d5_62) _ kz_) ?_
            by_cases hc63_4 : (xs.getD ((3 : Int32)).toNatClampNeg 0) = (xs.getD (p2).toNatClampNeg 0)
            · refine own_via (S' := s₁.setTop (mkF m 66 #[.val (.ref a1), .val (.int p2), .val (.int c3)] [])) (fun t k => XS.icmpNo (g := (mkF m 63 #[.val (.ref a1), .val (.int p2), .val (.int c3)] [(.int (xs.getD (p2).toNatClampNeg 0)), (.int (xs.getD ((3 : Int32)).toNatClampNeg 0))])) X0.here hx rfl (hb hby d5_63) rfl (teq hc63_4).2 k) ?_
              refine own_via (S' := s₁.setTop (mkF m 69 #[.val (.ref a1), .val (.int p2), .val (.int (c3 + (1 : Int32)))] [])) (fun t k => ?_) ?_
              · show Steps p.tables e below (s₁.setTop (mkF m 66 #[.val (.ref a1), .val (.int p2), .val (.int c3)] [])) t
                refine XS.iinc X0.here hx rfl (hb hby d5_66) rfl (l' := #[.val (.ref a1), .val (.int p2), .val (.int (c3 + (1 : Int32)))]) rfl ?_
                exact k
              exact J4 _ (own_add1 hs3 (if_pos ⟨hc54_1, hc63_4⟩))
            · refine own_via (S' := s₁.setTop (mkF m 69 #[.val (.ref a1), .val (.int p2), .val (.int c3)] [])) (fun t k => XS.icmpYes (g := (mkF m 63 #[.val (.ref a1), .val (.int p2), .val (.int c3)] [(.int (xs.getD (p2).toNatClampNeg 0)), (.int (xs.getD ((3 : Int32)).toNatClampNeg 0))])) X0.here hx rfl (pc0 := 63) (pc' := 69) rfl (hb hby d5_63) rfl (feq hc63_4).2 (by decide) (by decide) k) ?_
              exact J4 _ (own_add0 hs3 (if_neg (fun q => hc63_4 q.2)))
          · refine own_via (S' := s₁.setTop (mkF m 69 #[.val (.ref a1), .val (.int p2), .val (.int c3)] [])) (fun t k => XS.icmpYes (g := (mkF m 54 #[.val (.ref a1), .val (.int p2), .val (.int c3)] [(.int (3 : Int32)), (.int p2)])) X0.here hx rfl (pc0 := 54) (pc' := 69) rfl (hb hby d5_54) rfl (flt hc54_1).2.2.2 (by decide) (by decide) k) ?_
            exact J4 _ (own_add0 hs3 (if_neg (fun q => hc54_1 q.1)))
        show own_G p.tables e below _ (s₁.setTop (mkF m 35 #[.val (.ref a1), .val (.int p2), .val (.int c2)] []))
        refine own_via (S' := s₁.setTop (mkF m 37 #[.val (.ref a1), .val (.int p2), .val (.int c2)] [(.int (2 : Int32)), (.int p2)])) (fun t k => ?_) ?_
        · show Steps p.tables e below (s₁.setTop (mkF m 35 #[.val (.ref a1), .val (.int p2), .val (.int c2)] [])) t
          refine XS.iloadN X0.here hx rfl (hb hby d5_35) rfl ?_
          show Steps p.tables e below (s₁.setTop (mkF m 36 #[.val (.ref a1), .val (.int p2), .val (.int c2)] [(.int p2)])) t
          refine XS.iconst X0.here hx rfl (hb hby d5_36) ?_
          exact k
        by_cases hc37_5 : (2 : Int32) < p2
        · refine own_via (S' := s₁.setTop (mkF m 40 #[.val (.ref a1), .val (.int p2), .val (.int c2)] [])) (fun t k => XS.icmpNo (g := (mkF m 37 #[.val (.ref a1), .val (.int p2), .val (.int c2)] [(.int (2 : Int32)), (.int p2)])) X0.here hx rfl (hb hby d5_37) rfl (tlt hc37_5).2.2.2 k) ?_
          refine own_via (S' := s₁.setTop (mkF m 42 #[.val (.ref a1), .val (.int p2), .val (.int c2)] [(.int (2 : Int32)), (.ref a1)])) (fun t k => ?_) ?_
          · show Steps p.tables e below (s₁.setTop (mkF m 40 #[.val (.ref a1), .val (.int p2), .val (.int c2)] [])) t
            refine XS.aloadN X0.here hx rfl (hb hby d5_40) rfl rfl ?_
            show Steps p.tables e below (s₁.setTop (mkF m 41 #[.val (.ref a1), .val (.int p2), .val (.int c2)] [(.ref a1)])) t
            refine XS.iconst X0.here hx rfl (hb hby d5_41) ?_
            exact k
          obtain ⟨⟨cl6, Ar6, q6, S6, Nn6, H6, G6⟩, Le6⟩ := id V1
          have hin6 : ¬ ((2 : Int32) < 0 ∨ cl6.slots.size ≤ ((2 : Int32)).toNatClampNeg) := inb_of S6 ⟨by decide, own_tr hc37_5 hiz⟩
          have hat6 : cl6.slots[((2 : Int32)).toNatClampNeg]? = some (.int (xs.getD ((2 : Int32)).toNatClampNeg 0)) := Has.at H6 hin6 (own_gI _ _)
          refine own_via (S' := s₁.setTop (mkF m 43 #[.val (.ref a1), .val (.int p2), .val (.int c2)] [(.int (xs.getD ((2 : Int32)).toNatClampNeg 0))])) (fun t kz_ => X0.iaload hx (j := (2 : Int32)) (v := (.int (xs.getD ((2 : Int32)).toNatClampNeg 0))) (by rw [e0]; exact Ar6.1) (State.isArrayOf_alike hZ.alike Ar6.2.1) Ar6.2.2 hin6 hat6 (g := (mkF m 42 #[.val (.ref a1), .val (.int p2), .val (.int c2)] [(.int (2 : Int32)), (.ref a1)])) rfl rfl (hb hby d5_42) _ kz_) ?_
          refine own_via (S' := s₁.setTop (mkF m 45 #[.val (.ref a1), .val (.int p2), .val (.int c2)] [(.int p2), (.ref a1), (.int (xs.getD ((2 : Int32)).toNatClampNeg 0))])) (fun t k => ?_) ?_
          · show Steps p.tables e below (s₁.setTop (mkF m 43 #[.val (.ref a1), .val (.int p2), .val (.int c2)] [(.int (xs.getD ((2 : Int32)).toNatClampNeg 0))])) t
            refine XS.aloadN X0.here hx rfl (hb hby d5_43) rfl rfl ?_
            show Steps p.tables e below (s₁.setTop (mkF m 44 #[.val (.ref a1), .val (.int p2), .val (.int c2)] [(.ref a1), (.int (xs.getD ((2 : Int32)).toNatClampNeg 0))])) t
            refine XS.iloadN X0.here hx rfl (hb hby d5_44) rfl ?_
            exact k
          obtain ⟨⟨cl7, Ar7, q7, S7, Nn7, H7, G7⟩, Le7⟩ := id V1
          have hin7 : ¬ (p2 < 0 ∨ cl7.slots.size ≤ (p2).toNatClampNeg) := inb_of S7 ⟨hi0, hiz⟩
          have hat7 : cl7.slots[(p2).toNatClampNeg]? = some (.int (xs.getD (p2).toNatClampNeg 0)) := Has.at H7 hin7 (own_gI _ _)
          refine own_via (S' := s₁.setTop (mkF m 46 #[.val (.ref a1), .val (.int p2), .val (.int c2)] [(.int (xs.getD (p2).toNatClampNeg 0)), (.int (xs.getD ((2 : Int32)).toNatClampNeg 0))])) (fun t kz_ => X0.iaload hx (j := p2) (v := (.int (xs.getD (p2).toNatClampNeg 0))) (by rw [e0]; exact Ar7.1) (State.isArrayOf_alike hZ.alike Ar7.2.1) Ar7.2.2 hin7 hat7 (g := (mkF m 45 #[.val (.ref a1), .val (.int p2), .val (.int c2)] [(.int p2), (.ref a1), (.int (xs.getD ((2 : Int32)).toNatClampNeg 0))])) rfl rfl (hb hby d5_45) _ kz_) ?_
          by_cases hc46_8 : (xs.getD ((2 : Int32)).toNatClampNeg 0) = (xs.getD (p2).toNatClampNeg 0)
          · refine own_via (S' := s₁.setTop (mkF m 49 #[.val (.ref a1), .val (.int p2), .val (.int c2)] [])) (fun t k => XS.icmpNo (g := (mkF m 46 #[.val (.ref a1), .val (.int p2), .val (.int c2)] [(.int (xs.getD (p2).toNatClampNeg 0)), (.int (xs.getD ((2 : Int32)).toNatClampNeg 0))])) X0.here hx rfl (hb hby d5_46) rfl (teq hc46_8).2 k) ?_
            refine own_via (S' := s₁.setTop (mkF m 52 #[.val (.ref a1), .val (.int p2), .val (.int (c2 + (1 : Int32)))] [])) (fun t k => ?_) ?_
            · show Steps p.tables e below (s₁.setTop (mkF m 49 #[.val (.ref a1), .val (.int p2), .val (.int c2)] [])) t
              refine XS.iinc X0.here hx rfl (hb hby d5_49) rfl (l' := #[.val (.ref a1), .val (.int p2), .val (.int (c2 + (1 : Int32)))]) rfl ?_
              exact k
            exact J3 _ (own_add1 hs2 (if_pos ⟨hc37_5, hc46_8⟩))
          · refine own_via (S' := s₁.setTop (mkF m 52 #[.val (.ref a1), .val (.int p2), .val (.int c2)] [])) (fun t k => XS.icmpYes (g := (mkF m 46 #[.val (.ref a1), .val (.int p2), .val (.int c2)] [(.int (xs.getD (p2).toNatClampNeg 0)), (.int (xs.getD ((2 : Int32)).toNatClampNeg 0))])) X0.here hx rfl (pc0 := 46) (pc' := 52) rfl (hb hby d5_46) rfl (feq hc46_8).2 (by decide) (by decide) k) ?_
            exact J3 _ (own_add0 hs2 (if_neg (fun q => hc46_8 q.2)))
        · refine own_via (S' := s₁.setTop (mkF m 52 #[.val (.ref a1), .val (.int p2), .val (.int c2)] [])) (fun t k => XS.icmpYes (g := (mkF m 37 #[.val (.ref a1), .val (.int p2), .val (.int c2)] [(.int (2 : Int32)), (.int p2)])) X0.here hx rfl (pc0 := 37) (pc' := 52) rfl (hb hby d5_37) rfl (flt hc37_5).2.2.2 (by decide) (by decide) k) ?_
          exact J3 _ (own_add0 hs2 (if_neg (fun q => hc37_5 q.1)))
      show own_G p.tables e below _ (s₁.setTop (mkF m 18 #[.val (.ref a1), .val (.int p2), .val (.int c1)] []))
      refine own_via (S' := s₁.setTop (mkF m 20 #[.val (.ref a1), .val (.int p2), .val (.int c1)] [(.int (1 : Int32)), (.int p2)])) (fun t k => ?_) ?_
      · show Steps p.tables e below (s₁.setTop (mkF m 18 #[.val (.ref a1), .val (.int p2), .val (.int c1)] [])) t
        refine XS.iloadN X0.here hx rfl (hb hby d5_18) rfl ?_
        show Steps p.tables e below (s₁.setTop (mkF m 19 #[.val (.ref a1), .val (.int p2), .val (.int c1)] [(.int p2)])) t
        refine XS.iconst X0.here hx rfl (hb hby d5_19) ?_
        exact k
      by_cases hc20_9 : (1 : Int32) < p2
      · refine own_via (S' := s₁.setTop (mkF m 23 #[.val (.ref a1), .val (.int p2), .val (.int c1)] [])) (fun t k => XS.icmpNo (g := (mkF m 20 #[.val (.ref a1), .val (.int p2), .val (.int c1)] [(.int (1 : Int32)), (.int p2)])) X0.here hx rfl (hb hby d5_20) rfl (tlt hc20_9).2.2.2 k) ?_
        refine own_via (S' := s₁.setTop (mkF m 25 #[.val (.ref a1), .val (.int p2), .val (.int c1)] [(.int (1 : Int32)), (.ref a1)])) (fun t k => ?_) ?_
        · show Steps p.tables e below (s₁.setTop (mkF m 23 #[.val (.ref a1), .val (.int p2), .val (.int c1)] [])) t
          refine XS.aloadN X0.here hx rfl (hb hby d5_23) rfl rfl ?_
          show Steps p.tables e below (s₁.setTop (mkF m 24 #[.val (.ref a1), .val (.int p2), .val (.int c1)] [(.ref a1)])) t
          refine XS.iconst X0.here hx rfl (hb hby d5_24) ?_
          exact k
        obtain ⟨⟨cl10, Ar10, q10, S10, Nn10, H10, G10⟩, Le10⟩ := id V1
        have hin10 : ¬ ((1 : Int32) < 0 ∨ cl10.slots.size ≤ ((1 : Int32)).toNatClampNeg) := inb_of S10 ⟨by decide, own_tr hc20_9 hiz⟩
        have hat10 : cl10.slots[((1 : Int32)).toNatClampNeg]? = some (.int (xs.getD ((1 : Int32)).toNatClampNeg 0)) := Has.at H10 hin10 (own_gI _ _)
        refine own_via (S' := s₁.setTop (mkF m 26 #[.val (.ref a1), .val (.int p2), .val (.int c1)] [(.int (xs.getD ((1 : Int32)).toNatClampNeg 0))])) (fun t kz_ => X0.iaload hx (j := (1 : Int32)) (v := (.int (xs.getD ((1 : Int32)).toNatClampNeg 0))) (by rw [e0]; exact Ar10.1) (State.isArrayOf_alike hZ.alike Ar10.2.1) Ar10.2.2 hin10 hat10 (g := (mkF m 25 #[.val (.ref a1), .val (.int p2), .val (.int c1)] [(.int (1 : Int32)), (.ref a1)])) rfl rfl (hb hby d5_25) _ kz_) ?_
        refine own_via (S' := s₁.setTop (mkF m 28 #[.val (.ref a1), .val (.int p2), .val (.int c1)] [(.int p2), (.ref a1), (.int (xs.getD ((1 : Int32)).toNatClampNeg 0))])) (fun t k => ?_) ?_
        · show Steps p.tables e below (s₁.setTop (mkF m 26 #[.val (.ref a1), .val (.int p2), .val (.int c1)] [(.int (xs.getD ((1 : Int32)).toNatClampNeg 0))])) t
          refine XS.aloadN X0.here hx rfl (hb hby d5_26) rfl rfl ?_
          show Steps p.tables e below (s₁.setTop (mkF m 27 #[.val (.ref a1), .val (.int p2), .val (.int c1)] [(.ref a1), (.int (xs.getD ((1 : Int32)).toNatClampNeg 0))])) t
          refine XS.iloadN X0.here hx rfl (hb hby d5_27) rfl ?_
          exact k
        obtain ⟨⟨cl11, Ar11, q11, S11, Nn11, H11, G11⟩, Le11⟩ := id V1
        have hin11 : ¬ (p2 < 0 ∨ cl11.slots.size ≤ (p2).toNatClampNeg) := inb_of S11 ⟨hi0, hiz⟩
        have hat11 : cl11.slots[(p2).toNatClampNeg]? = some (.int (xs.getD (p2).toNatClampNeg 0)) := Has.at H11 hin11 (own_gI _ _)
        refine own_via (S' := s₁.setTop (mkF m 29 #[.val (.ref a1), .val (.int p2), .val (.int c1)] [(.int (xs.getD (p2).toNatClampNeg 0)), (.int (xs.getD ((1 : Int32)).toNatClampNeg 0))])) (fun t kz_ => X0.iaload hx (j := p2) (v := (.int (xs.getD (p2).toNatClampNeg 0))) (by rw [e0]; exact Ar11.1) (State.isArrayOf_alike hZ.alike Ar11.2.1) Ar11.2.2 hin11 hat11 (g := (mkF m 28 #[.val (.ref a1), .val (.int p2), .val (.int c1)] [(.int p2), (.ref a1), (.int (xs.getD ((1 : Int32)).toNatClampNeg 0))])) rfl rfl (hb hby d5_28) _ kz_) ?_
        by_cases hc29_12 : (xs.getD ((1 : Int32)).toNatClampNeg 0) = (xs.getD (p2).toNatClampNeg 0)
        · refine own_via (S' := s₁.setTop (mkF m 32 #[.val (.ref a1), .val (.int p2), .val (.int c1)] [])) (fun t k => XS.icmpNo (g := (mkF m 29 #[.val (.ref a1), .val (.int p2), .val (.int c1)] [(.int (xs.getD (p2).toNatClampNeg 0)), (.int (xs.getD ((1 : Int32)).toNatClampNeg 0))])) X0.here hx rfl (hb hby d5_29) rfl (teq hc29_12).2 k) ?_
          refine own_via (S' := s₁.setTop (mkF m 35 #[.val (.ref a1), .val (.int p2), .val (.int (c1 + (1 : Int32)))] [])) (fun t k => ?_) ?_
          · show Steps p.tables e below (s₁.setTop (mkF m 32 #[.val (.ref a1), .val (.int p2), .val (.int c1)] [])) t
            refine XS.iinc X0.here hx rfl (hb hby d5_32) rfl (l' := #[.val (.ref a1), .val (.int p2), .val (.int (c1 + (1 : Int32)))]) rfl ?_
            exact k
          exact J2 _ (own_add1 hs1 (if_pos ⟨hc20_9, hc29_12⟩))
        · refine own_via (S' := s₁.setTop (mkF m 35 #[.val (.ref a1), .val (.int p2), .val (.int c1)] [])) (fun t k => XS.icmpYes (g := (mkF m 29 #[.val (.ref a1), .val (.int p2), .val (.int c1)] [(.int (xs.getD (p2).toNatClampNeg 0)), (.int (xs.getD ((1 : Int32)).toNatClampNeg 0))])) X0.here hx rfl (pc0 := 29) (pc' := 35) rfl (hb hby d5_29) rfl (feq hc29_12).2 (by decide) (by decide) k) ?_
          exact J2 _ (own_add0 hs1 (if_neg (fun q => hc29_12 q.2)))
      · refine own_via (S' := s₁.setTop (mkF m 35 #[.val (.ref a1), .val (.int p2), .val (.int c1)] [])) (fun t k => XS.icmpYes (g := (mkF m 20 #[.val (.ref a1), .val (.int p2), .val (.int c1)] [(.int (1 : Int32)), (.int p2)])) X0.here hx rfl (pc0 := 20) (pc' := 35) rfl (hb hby d5_20) rfl (flt hc20_9).2.2.2 (by decide) (by decide) k) ?_
        exact J2 _ (own_add0 hs1 (if_neg (fun q => hc20_9 q.1)))
    show own_G p.tables e below _ (s₁.setTop (mkF m 2 #[.val (.ref a1), .val (.int p2), .val (.int c0)] []))
    refine own_via (S' := s₁.setTop (mkF m 3 #[.val (.ref a1), .val (.int p2), .val (.int c0)] [(.int p2)])) (fun t k => ?_) ?_
    · show Steps p.tables e below (s₁.setTop (mkF m 2 #[.val (.ref a1), .val (.int p2), .val (.int c0)] [])) t
      refine XS.iloadN X0.here hx rfl (hb hby d5_2) rfl ?_
      exact k
    by_cases hc3_13 : (0 : Int32) < p2
    · refine own_via (S' := s₁.setTop (mkF m 6 #[.val (.ref a1), .val (.int p2), .val (.int c0)] [])) (fun t k => XS.ifNo (g := (mkF m 3 #[.val (.ref a1), .val (.int p2), .val (.int c0)] [(.int p2)])) X0.here hx rfl (hb hby d5_3) rfl ((if0 _ _).trans (tlt hc3_13).2.2.2) k) ?_
      refine own_via (S' := s₁.setTop (mkF m 8 #[.val (.ref a1), .val (.int p2), .val (.int c0)] [(.int (0 : Int32)), (.ref a1)])) (fun t k => ?_) ?_
      · show Steps p.tables e below (s₁.setTop (mkF m 6 #[.val (.ref a1), .val (.int p2), .val (.int c0)] [])) t
        refine XS.aloadN X0.here hx rfl (hb hby d5_6) rfl rfl ?_
        show Steps p.tables e below (s₁.setTop (mkF m 7 #[.val (.ref a1), .val (.int p2), .val (.int c0)] [(.ref a1)])) t
        refine XS.iconst X0.here hx rfl (hb hby d5_7) ?_
        exact k
      obtain ⟨⟨cl14, Ar14, q14, S14, Nn14, H14, G14⟩, Le14⟩ := id V1
      have hin14 : ¬ ((0 : Int32) < 0 ∨ cl14.slots.size ≤ ((0 : Int32)).toNatClampNeg) := inb_of S14 ⟨by decide, own_tr hc3_13 hiz⟩
      have hat14 : cl14.slots[((0 : Int32)).toNatClampNeg]? = some (.int (xs.getD ((0 : Int32)).toNatClampNeg 0)) := Has.at H14 hin14 (own_gI _ _)
      refine own_via (S' := s₁.setTop (mkF m 9 #[.val (.ref a1), .val (.int p2), .val (.int c0)] [(.int (xs.getD ((0 : Int32)).toNatClampNeg 0))])) (fun t kz_ => X0.iaload hx (j := (0 : Int32)) (v := (.int (xs.getD ((0 : Int32)).toNatClampNeg 0))) (by rw [e0]; exact Ar14.1) (State.isArrayOf_alike hZ.alike Ar14.2.1) Ar14.2.2 hin14 hat14 (g := (mkF m 8 #[.val (.ref a1), .val (.int p2), .val (.int c0)] [(.int (0 : Int32)), (.ref a1)])) rfl rfl (hb hby d5_8) _ kz_) ?_
      refine own_via (S' := s₁.setTop (mkF m 11 #[.val (.ref a1), .val (.int p2), .val (.int c0)] [(.int p2), (.ref a1), (.int (xs.getD ((0 : Int32)).toNatClampNeg 0))])) (fun t k => ?_) ?_
      · show Steps p.tables e below (s₁.setTop (mkF m 9 #[.val (.ref a1), .val (.int p2), .val (.int c0)] [(.int (xs.getD ((0 : Int32)).toNatClampNeg 0))])) t
        refine XS.aloadN X0.here hx rfl (hb hby d5_9) rfl rfl ?_
        show Steps p.tables e below (s₁.setTop (mkF m 10 #[.val (.ref a1), .val (.int p2), .val (.int c0)] [(.ref a1), (.int (xs.getD ((0 : Int32)).toNatClampNeg 0))])) t
        refine XS.iloadN X0.here hx rfl (hb hby d5_10) rfl ?_
        exact k
      obtain ⟨⟨cl15, Ar15, q15, S15, Nn15, H15, G15⟩, Le15⟩ := id V1
      have hin15 : ¬ (p2 < 0 ∨ cl15.slots.size ≤ (p2).toNatClampNeg) := inb_of S15 ⟨hi0, hiz⟩
      have hat15 : cl15.slots[(p2).toNatClampNeg]? = some (.int (xs.getD (p2).toNatClampNeg 0)) := Has.at H15 hin15 (own_gI _ _)
      refine own_via (S' := s₁.setTop (mkF m 12 #[.val (.ref a1), .val (.int p2), .val (.int c0)] [(.int (xs.getD (p2).toNatClampNeg 0)), (.int (xs.getD ((0 : Int32)).toNatClampNeg 0))])) (fun t kz_ => X0.iaload hx (j := p2) (v := (.int (xs.getD (p2).toNatClampNeg 0))) (by rw [e0]; exact Ar15.1) (State.isArrayOf_alike hZ.alike Ar15.2.1) Ar15.2.2 hin15 hat15 (g := (mkF m 11 #[.val (.ref a1), .val (.int p2), .val (.int c0)] [(.int p2), (.ref a1), (.int (xs.getD ((0 : Int32)).toNatClampNeg 0))])) rfl rfl (hb hby d5_11) _ kz_) ?_
      by_cases hc12_16 : (xs.getD ((0 : Int32)).toNatClampNeg 0) = (xs.getD (p2).toNatClampNeg 0)
      · refine own_via (S' := s₁.setTop (mkF m 15 #[.val (.ref a1), .val (.int p2), .val (.int c0)] [])) (fun t k => XS.icmpNo (g := (mkF m 12 #[.val (.ref a1), .val (.int p2), .val (.int c0)] [(.int (xs.getD (p2).toNatClampNeg 0)), (.int (xs.getD ((0 : Int32)).toNatClampNeg 0))])) X0.here hx rfl (hb hby d5_12) rfl (teq hc12_16).2 k) ?_
        refine own_via (S' := s₁.setTop (mkF m 18 #[.val (.ref a1), .val (.int p2), .val (.int (c0 + (1 : Int32)))] [])) (fun t k => ?_) ?_
        · show Steps p.tables e below (s₁.setTop (mkF m 15 #[.val (.ref a1), .val (.int p2), .val (.int c0)] [])) t
          refine XS.iinc X0.here hx rfl (hb hby d5_15) rfl (l' := #[.val (.ref a1), .val (.int p2), .val (.int (c0 + (1 : Int32)))]) rfl ?_
          exact k
        exact J1 _ (own_add1 hs0 (if_pos ⟨hc3_13, hc12_16⟩))
      · refine own_via (S' := s₁.setTop (mkF m 18 #[.val (.ref a1), .val (.int p2), .val (.int c0)] [])) (fun t k => XS.icmpYes (g := (mkF m 12 #[.val (.ref a1), .val (.int p2), .val (.int c0)] [(.int (xs.getD (p2).toNatClampNeg 0)), (.int (xs.getD ((0 : Int32)).toNatClampNeg 0))])) X0.here hx rfl (pc0 := 12) (pc' := 18) rfl (hb hby d5_12) rfl (feq hc12_16).2 (by decide) (by decide) k) ?_
        exact J1 _ (own_add0 hs0 (if_neg (fun q => hc12_16 q.2)))
    · refine own_via (S' := s₁.setTop (mkF m 18 #[.val (.ref a1), .val (.int p2), .val (.int c0)] [])) (fun t k => XS.ifYes (g := (mkF m 3 #[.val (.ref a1), .val (.int p2), .val (.int c0)] [(.int p2)])) X0.here hx rfl (pc0 := 3) (pc' := 18) rfl (hb hby d5_3) rfl ((if0 _ _).trans (flt hc3_13).2.2.2) (by decide) (by decide) k) ?_
      exact J1 _ (own_add0 hs0 (if_neg (fun q => hc3_13 q.1)))
  exact J0 _ rfl
theorem d6_0 : decode method_5_code 0 = .ok (.iconst 0, 1) := by decide +kernel
theorem d6_1 : decode method_5_code 1 = .ok (.istore_n 3, 1) := by decide +kernel
theorem d6_2 : decode method_5_code 2 = .ok (.iload_n 1, 1) := by decide +kernel
theorem d6_3 : decode method_5_code 3 = .ok (.ifCond .le 13, 3) := by decide +kernel
theorem d6_6 : decode method_5_code 6 = .ok (.aload_n 0, 1) := by decide +kernel
theorem d6_7 : decode method_5_code 7 = .ok (.iconst 0, 1) := by decide +kernel
theorem d6_8 : decode method_5_code 8 = .ok (.iaload, 1) := by decide +kernel
theorem d6_9 : decode method_5_code 9 = .ok (.iload_n 2, 1) := by decide +kernel
theorem d6_10 : decode method_5_code 10 = .ok (.if_icmp .ne 6, 3) := by decide +kernel
theorem d6_13 : decode method_5_code 13 = .ok (.iinc 3 1, 3) := by decide +kernel
theorem d6_16 : decode method_5_code 16 = .ok (.iload_n 1, 1) := by decide +kernel
theorem d6_17 : decode method_5_code 17 = .ok (.iconst 1, 1) := by decide +kernel
theorem d6_18 : decode method_5_code 18 = .ok (.if_icmp .le 13, 3) := by decide +kernel
theorem d6_21 : decode method_5_code 21 = .ok (.aload_n 0, 1) := by decide +kernel
theorem d6_22 : decode method_5_code 22 = .ok (.iconst 1, 1) := by decide +kernel
theorem d6_23 : decode method_5_code 23 = .ok (.iaload, 1) := by decide +kernel
theorem d6_24 : decode method_5_code 24 = .ok (.iload_n 2, 1) := by decide +kernel
theorem d6_25 : decode method_5_code 25 = .ok (.if_icmp .ne 6, 3) := by decide +kernel
theorem d6_28 : decode method_5_code 28 = .ok (.iinc 3 1, 3) := by decide +kernel
theorem d6_31 : decode method_5_code 31 = .ok (.iload_n 1, 1) := by decide +kernel
theorem d6_32 : decode method_5_code 32 = .ok (.iconst 2, 1) := by decide +kernel
theorem d6_33 : decode method_5_code 33 = .ok (.if_icmp .le 13, 3) := by decide +kernel
theorem d6_36 : decode method_5_code 36 = .ok (.aload_n 0, 1) := by decide +kernel
theorem d6_37 : decode method_5_code 37 = .ok (.iconst 2, 1) := by decide +kernel
theorem d6_38 : decode method_5_code 38 = .ok (.iaload, 1) := by decide +kernel
theorem d6_39 : decode method_5_code 39 = .ok (.iload_n 2, 1) := by decide +kernel
theorem d6_40 : decode method_5_code 40 = .ok (.if_icmp .ne 6, 3) := by decide +kernel
theorem d6_43 : decode method_5_code 43 = .ok (.iinc 3 1, 3) := by decide +kernel
theorem d6_46 : decode method_5_code 46 = .ok (.iload_n 1, 1) := by decide +kernel
theorem d6_47 : decode method_5_code 47 = .ok (.iconst 3, 1) := by decide +kernel
theorem d6_48 : decode method_5_code 48 = .ok (.if_icmp .le 13, 3) := by decide +kernel
theorem d6_51 : decode method_5_code 51 = .ok (.aload_n 0, 1) := by decide +kernel
theorem d6_52 : decode method_5_code 52 = .ok (.iconst 3, 1) := by decide +kernel
theorem d6_53 : decode method_5_code 53 = .ok (.iaload, 1) := by decide +kernel
theorem d6_54 : decode method_5_code 54 = .ok (.iload_n 2, 1) := by decide +kernel
theorem d6_55 : decode method_5_code 55 = .ok (.if_icmp .ne 6, 3) := by decide +kernel
theorem d6_58 : decode method_5_code 58 = .ok (.iinc 3 1, 3) := by decide +kernel
theorem d6_61 : decode method_5_code 61 = .ok (.iload_n 1, 1) := by decide +kernel
theorem d6_62 : decode method_5_code 62 = .ok (.iconst 4, 1) := by decide +kernel
theorem d6_63 : decode method_5_code 63 = .ok (.if_icmp .le 13, 3) := by decide +kernel
theorem d6_66 : decode method_5_code 66 = .ok (.aload_n 0, 1) := by decide +kernel
theorem d6_67 : decode method_5_code 67 = .ok (.iconst 4, 1) := by decide +kernel
theorem d6_68 : decode method_5_code 68 = .ok (.iaload, 1) := by decide +kernel
theorem d6_69 : decode method_5_code 69 = .ok (.iload_n 2, 1) := by decide +kernel
theorem d6_70 : decode method_5_code 70 = .ok (.if_icmp .ne 6, 3) := by decide +kernel
theorem d6_73 : decode method_5_code 73 = .ok (.iinc 3 1, 3) := by decide +kernel
theorem d6_76 : decode method_5_code 76 = .ok (.iload_n 3, 1) := by decide +kernel
theorem d6_77 : decode method_5_code 77 = .ok (.ireturn, 1) := by decide +kernel
theorem pn6 : plainName "com/example/fenceline/fenceline/TraceThreadsPinLaw" = true := by first | (simp [plainName, overriddenIn]; done) | decide +kernel
theorem ef6 (m : MethodId) (x0 : Addr) (x1 : Int32) (x2 : Int32) : entryFrame m #[(.ref x0), (.int x1), (.int x2)] 4 = mkF m 0 #[.val (.ref x0), .val (.int x1), .val (.int x2), .unset] [] := by first | (simp [entryFrame, mkF, argsToLocals, Value.category]; done) | rfl
def Q6 (Z : State) (a1 : Addr) (z : Int32) (p3 : Int32) (kA : ClassId) (xs : List Int32) (h0 : Heap) (n0 : Nat) (v : Option Value) (h : Heap) (L : List Loc) : Prop := v = some (.int (own_cnt xs z p3)) ∧ Fr n0 L ∧ h = h0
set_option maxRecDepth 65536 in
set_option maxHeartbeats 40000000 in
theorem rm6 (l : Launch) (Z : State) (a0 : Array Value) (hw : ∀ d ∈ tables_1, d.before a0 Z = true) (ws : List Jvm.Cond) (a1 : Addr) (z : Int32) (p3 : Int32) (kA : ClassId) (xs : List Int32) (h0 : Heap) (n0 : Nat) (Z0 : n0 ≤ h0.size) (V1 : own_Ar Z h0 a1 kA .int z (List.map Value.int xs) (.int (0 : Int32))) :
    MetFree l (⟨"com/example/fenceline/fenceline/TraceThreadsPinLaw", "countOf", "([III)I"⟩ : MethodName) (head1 (Jvm.Cond.code (⟨"com/example/fenceline/fenceline/TraceThreadsPinLaw", "countOf", "([III)I"⟩ : MethodName) method_5_code 4 (some .int) :: ws) ({ frames := 0, cells := 0, slots := 0, locals := 0 } : Room)) (fun a U => a = #[(.ref a1), (.int z), (.int p3)] ∧ Z.Warmed39 U.vm ∧ U.heap = h0) (fun _ _ _ _ _ => True) (fun _ U o U' => ∃ v L, o = .returned v ∧ Q6 Z a1 z p3 kA xs h0 n0 v U'.heap L ∧ FrameEnd U o U' L ({ frames := 0, cells := 0, slots := 0, locals := 0 } : Room).cells ({ frames := 0, cells := 0, slots := 0, locals := 0 } : Room).slots) := by
  refine MetFree.of_bodySF (plainFor_of_name pn6) hisR ?_
  intro p e s m args below meth c s₁ Bd hml0 hP hK
  obtain ⟨rfl, hZ, hh⟩ := hP
  have hx := Bd.exec
  have hby := Bd.bytes
  have hml : c.maxLocals = 4 := hml0
  have hown : s.vm.findClass "com/example/fenceline/fenceline/TraceThreadsPinLaw" = some m.cls := findClass_of_methodNamed Bd.named
  have hnm := (name_of_methodNamed Bd.named Bd.method).1
  have X0 : Stand p l e ({ frames := 0, cells := 0, slots := 0, locals := 0 } : Room) s m #[(.ref a1), (.int z), (.int p3)] below meth c s₁ [] 0 0 := Stand.of_body Bd
  have e0 : s₁.heap = h0 := by rw [← hh, Bd.state]; rfl
  have N0 := Fr.nil n0
  refine (show own_G p.tables e below (own_P s (Q6 Z a1 z p3 kA xs h0 n0) 0 0) (s₁.setTop (entryFrame m #[(.ref a1), (.int z), (.int p3)] 4)) from ?_)
  refine own_via (fun t k => castTop (ef6 m a1 z p3) k) ?_
  show own_G p.tables e below _ (s₁.setTop (mkF m 0 #[.val (.ref a1), .val (.int z), .val (.int p3), .unset] []))
  refine own_via (S' := s₁.setTop (mkF m 2 #[.val (.ref a1), .val (.int z), .val (.int p3), .val (.int (0 : Int32))] [])) (fun t k => ?_) ?_
  · show Steps p.tables e below (s₁.setTop (mkF m 0 #[.val (.ref a1), .val (.int z), .val (.int p3), .unset] [])) t
    refine XS.iconst X0.here hx rfl (hb hby d6_0) ?_
    show Steps p.tables e below (s₁.setTop (mkF m 1 #[.val (.ref a1), .val (.int z), .val (.int p3), .unset] [(.int (0 : Int32))])) t
    refine XS.istoreN X0.here hx rfl (hb hby d6_1) rfl (l' := #[.val (.ref a1), .val (.int z), .val (.int p3), .val (.int (0 : Int32))]) rfl ?_
    exact k
  have J0 : ∀ c0 : Int32, c0 = (0 : Int32) → own_G p.tables e below (own_P s (Q6 Z a1 z p3 kA xs h0 n0) 0 0) (s₁.setTop (mkF m 2 #[.val (.ref a1), .val (.int z), .val (.int p3), .val (.int c0)] [])) := by
    intro c0 hs0
    have J1 : ∀ c1 : Int32, c1 = ((0 : Int32) + own_c1 xs z p3 (0 : Int32)) → own_G p.tables e below (own_P s (Q6 Z a1 z p3 kA xs h0 n0) 0 0) (s₁.setTop (mkF m 16 #[.val (.ref a1), .val (.int z), .val (.int p3), .val (.int c1)] [])) := by
      intro c1 hs1
      have J2 : ∀ c2 : Int32, c2 = (((0 : Int32) + own_c1 xs z p3 (0 : Int32)) + own_c1 xs z p3 (1 : Int32)) → own_G p.tables e below (own_P s (Q6 Z a1 z p3 kA xs h0 n0) 0 0) (s₁.setTop (mkF m 31 #[.val (.ref a1), .val (.int z), .val (.int p3), .val (.int c2)] [])) := by
        intro c2 hs2
        have J3 : ∀ c3 : Int32, c3 = ((((0 : Int32) + own_c1 xs z p3 (0 : Int32)) + own_c1 xs z p3 (1 : Int32)) + own_c1 xs z p3 (2 : Int32)) → own_G p.tables e below (own_P s (Q6 Z a1 z p3 kA xs h0 n0) 0 0) (s₁.setTop (mkF m 46 #[.val (.ref a1), .val (.int z), .val (.int p3), .val (.int c3)] [])) := by
          intro c3 hs3
          have J4 : ∀ c4 : Int32, c4 = (((((0 : Int32) + own_c1 xs z p3 (0 : Int32)) + own_c1 xs z p3 (1 : Int32)) + own_c1 xs z p3 (2 : Int32)) + own_c1 xs z p3 (3 : Int32)) → own_G p.tables e below (own_P s (Q6 Z a1 z p3 kA xs h0 n0) 0 0) (s₁.setTop (mkF m 61 #[.val (.ref a1), .val (.int z), .val (.int p3), .val (.int c4)] [])) := by
            intro c4 hs4
            have J5 : ∀ c5 : Int32, c5 = ((((((0 : Int32) + own_c1 xs z p3 (0 : Int32)) + own_c1 xs z p3 (1 : Int32)) + own_c1 xs z p3 (2 : Int32)) + own_c1 xs z p3 (3 : Int32)) + own_c1 xs z p3 (4 : Int32)) → own_G p.tables e below (own_P s (Q6 Z a1 z p3 kA xs h0 n0) 0 0) (s₁.setTop (mkF m 76 #[.val (.ref a1), .val (.int z), .val (.int p3), .val (.int c5)] [])) := by
              intro c5 hs5
              show own_G p.tables e below _ (s₁.setTop (mkF m 76 #[.val (.ref a1), .val (.int z), .val (.int p3), .val (.int c5)] []))
              refine own_via (S' := s₁.setTop (mkF m 77 #[.val (.ref a1), .val (.int z), .val (.int p3), .val (.int c5)] [(.int c5)])) (fun t k => ?_) ?_
              · show Steps p.tables e below (s₁.setTop (mkF m 76 #[.val (.ref a1), .val (.int z), .val (.int p3), .val (.int c5)] [])) t
                refine XS.iloadN X0.here hx rfl (hb hby d6_76) rfl ?_
                exact k
              exact own_end (h := h0) X0 (v := some (.int c5)) Bd.notSynchronized (fun h => by rw [Bd.returns] at h; cases h) (fun fs hr => retOut X0 hx Bd.returns rfl (Or.inl ⟨rfl, Or.inl rfl, _, rfl⟩) (hb hby d6_77) hr) e0 ⟨congrArg (fun q => some (Value.int q)) hs5, N0, rfl⟩ (by decide) (by decide)
            show own_G p.tables e below _ (s₁.setTop (mkF m 61 #[.val (.ref a1), .val (.int z), .val (.int p3), .val (.int c4)] []))
            refine own_via (S' := s₁.setTop (mkF m 63 #[.val (.ref a1), .val (.int z), .val (.int p3), .val (.int c4)] [(.int (4 : Int32)), (.int z)])) (fun t k => ?_) ?_
            · show Steps p.tables e below (s₁.setTop (mkF m 61 #[.val (.ref a1), .val (.int z), .val (.int p3), .val (.int c4)] [])) t
              refine XS.iloadN X0.here hx rfl (hb hby d6_61) rfl ?_
              show Steps p.tables e below (s₁.setTop (mkF m 62 #[.val (.ref a1), .val (.int z), .val (.int p3), .val (.int c4)] [(.int z)])) t
              refine XS.iconst X0.here hx rfl (hb hby d6_62) ?_
              exact k
            by_cases hc63_1 : (4 : Int32) < z
            · refine own_via (S' := s₁.setTop (mkF m 66 #[.val (.ref a1), .val (.int z), .val (.int p3), .val (.int c4)] [])) (fun t k => XS.icmpNo (g := (mkF m 63 #[.val (.ref a1), .val (.int z), .val (.int p3), .val (.int c4)] [(.int (4 : Int32)), (.int z)])) X0.here hx rfl (hb hby d6_63) rfl (tlt hc63_1).2.2.2 k) ?_
              refine own_via (S' := s₁.setTop (mkF m 68 #[.val (.ref a1), .val (.int z), .val (.int p3), .val (.int c4)] [(.int (4 : Int32)), (.ref a1)])) (fun t k => ?_) ?_
              · show Steps p.tables e below (s₁.setTop (mkF m 66 #[.val (.ref a1), .val (.int z), .val (.int p3), .val (.int c4)] [])) t
                refine XS.aloadN X0.here hx rfl (hb hby d6_66) rfl rfl ?_
                show Steps p.tables e below (s₁.setTop (mkF m 67 #[.val (.ref a1), .val (.int z), .val (.int p3), .val (.int c4)] [(.ref a1)])) t
                refine XS.iconst X0.here hx rfl (hb hby d6_67) ?_
                exact k
              obtain ⟨⟨cl2, Ar2, q2, S2, Nn2, H2, G2⟩, Le2⟩ := id V1
              have hin2 : ¬ ((4 : Int32) < 0 ∨ cl2.slots.size ≤ ((4 : Int32)).toNatClampNeg) := inb_of S2 ⟨by decide, hc63_1⟩
              have hat2 : cl2.slots[((4 : Int32)).toNatClampNeg]? = some (.int (xs.getD ((4 : Int32)).toNatClampNeg 0)) := Has.at H2 hin2 (own_gI _ _)
              refine own_via (S' := s₁.setTop (mkF m 69 #[.val (.ref a1), .val (.int z), .val (.int p3), .val (.int c4)] [(.int (xs.getD ((4 : Int32)).toNatClampNeg 0))])) (fun t kz_ => X0.iaload hx (j := (4 : Int32)) (v := (.int (xs.getD ((4 : Int32)).toNatClampNeg 0))) (by rw [e0]; exact Ar2.1) (State.isArrayOf_alike hZ.alike Ar2.2.1) Ar2.2.2 hin2 hat2 (g := (mkF m 68 #[.val (.ref a1), .val (.int z), .val (.int p3), .val (.int c4)] [(.int (4 : Int32)), (.ref a1)])) rfl rfl (hb hby d6_68) _ kz_) ?_
              refine own_via (S' := s₁.setTop (mkF m 70 #[.val (.ref a1), .val (.int z), .val (.int p3), .val (.int c4)] [(.int p3), (.int (xs.getD ((4 : Int32)).toNatClampNeg 0))])) (fun t k => ?_) ?_
              · show Steps p.tables e below (s₁.setTop (mkF m 69 #[.val (.ref a1), .val (.int z), .val (.int p3), .val (.int c4)] [(.int (xs.getD ((4 : Int32)).toNatClampNeg 0))])) t
                refine XS.iloadN X0.here hx rfl (hb hby d6_69) rfl ?_
                exact k
              by_cases hc70_3 : (xs.getD ((4 : Int32)).toNatClampNeg 0) = p3
              · refine own_via (S' := s₁.setTop (mkF m 73 #[.val (.ref a1), .val (.int z), .val (.int p3), .val (.int c4)] [])) (fun t k => XS.icmpNo (g := (mkF m 70 #[.val (.ref a1), .val (.int z), .val (.int p3), .val (.int c4)] [(.int p3), (.int (xs.getD ((4 : Int32)).toNatClampNeg 0))])) X0.here hx rfl (hb hby d6_70) rfl (teq hc70_3).2 k) ?_
                refine own_via (S' := s₁.setTop (mkF m 76 #[.val (.ref a1), .val (.int z), .val (.int p3), .val (.int (c4 + (1 : Int32)))] [])) (fun t k => ?_) ?_
                · show Steps p.tables e below (s₁.setTop (mkF m 73 #[.val (.ref a1), .val (.int z), .val (.int p3), .val (.int c4)] [])) t
                  refine XS.iinc X0.here hx rfl (hb hby d6_73) rfl (l' := #[.val (.ref a1), .val (.int z), .val (.int p3), .val (.int (c4 + (1 : Int32)))]) rfl ?_
                  exact k
                exact J5 _ (own_add1 hs4 (if_pos ⟨hc63_1, hc70_3⟩))
              · refine own_via (S' := s₁.setTop (mkF m 76 #[.val (.ref a1), .val (.int z), .val (.int p3), .val (.int c4)] [])) (fun t k => XS.icmpYes (g := (mkF m 70 #[.val (.ref a1), .val (.int z), .val (.int p3), .val (.int c4)] [(.int p3), (.int (xs.getD ((4 : Int32)).toNatClampNeg 0))])) X0.here hx rfl (pc0 := 70) (pc' := 76) rfl (hb hby d6_70) rfl (feq hc70_3).2 (by decide) (by decide) k) ?_
                exact J5 _ (own_add0 hs4 (if_neg (fun q => hc70_3 q.2)))
            · refine own_via (S' := s₁.setTop (mkF m 76 #[.val (.ref a1), .val (.int z), .val (.int p3), .val (.int c4)] [])) (fun t k => XS.icmpYes (g := (mkF m 63 #[.val (.ref a1), .val (.int z), .val (.int p3), .val (.int c4)] [(.int (4 : Int32)), (.int z)])) X0.here hx rfl (pc0 := 63) (pc' := 76) rfl (hb hby d6_63) rfl (flt hc63_1).2.2.2 (by decide) (by decide) k) ?_
              exact J5 _ (own_add0 hs4 (if_neg (fun q => hc63_1 q.1)))
          show own_G p.tables e below _ (s₁.setTop (mkF m 46 #[.val (.ref a1), .val (.int z), .val (.int p3), .val (.int c3)] []))
          refine own_via (S' := s₁.setTop (mkF m 48 #[.val (.ref a1), .val (.int z), .val (.int p3), .val (.int c3)] [(.int (3 : Int32)), (.int z)])) (fun t k => ?_) ?_
          · show Steps p.tables e below (s₁.setTop (mkF m 46 #[.val (.ref a1), .val (.int z), .val (.int p3), .val (.int c3)] [])) t
            refine XS.iloadN X0.here hx rfl (hb hby d6_46) rfl ?_
            show Steps p.tables e below (s₁.setTop (mkF m 47 #[.val (.ref a1), .val (.int z), .val (.int p3), .val (.int c3)] [(.int z)])) t
            refine XS.iconst X0.here hx rfl (hb hby d6_47) ?_
            exact k
          by_cases hc48_4 : (3 : Int32) < z
          · refine own_via (S' := s₁.setTop (mkF m 51 #[.val (.ref a1), .val (.int z), .val (.int p3), .val (.int c3)] [])) (fun t k => XS.icmpNo (g := (mkF m 48 #[.val (.ref a1), .val (.int z), .val (.int p3), .val (.int c3)] [(.int (3 : Int32)), (.int z)])) X0.here hx rfl (hb hby d6_48) rfl (tlt hc48_4).2.2.2 k) ?_
            refine own_via (S' := s₁.setTop (mkF m 53 #[.val (.ref a1), .val (.int z), .val (.int p3), .val (.int c3)] [(.int (3 : Int32)), (.ref a1)])) (fun t k => ?_) ?_
            · show Steps p.tables e below (s₁.setTop (mkF m 51 #[.val (.ref a1), .val (.int z), .val (.int p3), .val (.int c3)] [])) t
              refine XS.aloadN X0.here hx rfl (hb hby d6_51) rfl rfl ?_
              show Steps p.tables e below (s₁.setTop (mkF m 52 #[.val (.ref a1), .val (.int z), .val (.int p3), .val (.int c3)] [(.ref a1)])) t
              refine XS.iconst X0.here hx rfl (hb hby d6_52) ?_
              exact k
            obtain ⟨⟨cl5, Ar5, q5, S5, Nn5, H5, G5⟩, Le5⟩ := id V1
            have hin5 : ¬ ((3 : Int32) < 0 ∨ cl5.slots.size ≤ ((3 : Int32)).toNatClampNeg) := inb_of S5 ⟨by decide, hc48_4⟩
            have hat5 : cl5.slots[((3 : Int32)).toNatClampNeg]? = some (.int (xs.getD ((3 : Int32)).toNatClampNeg 0)) := Has.at H5 hin5 (own_gI _ _)
            refine own_via (S' := s₁.setTop (mkF m 54 #[.val (.ref a1), .val (.int z), .val (.int p3), .val (.int c3)] [(.int (xs.getD ((3 : Int32)).toNatClampNeg 0))])) (fun t kz_ => X0.iaload hx (j := (3 : Int32)) (v := (.int (xs.getD ((3 : Int32)).toNatClampNeg 0))) (by rw [e0]; exact Ar5.1) (State.isArrayOf_alike hZ.alike Ar5.2.1) Ar5.2.2 hin5 hat5 (g := (mkF m 53 #[.val (.ref a1), .val (.int z), .val (.int p3), .val (.int c3)] [(.int (3 : Int32)), (.ref a1)])) rfl rfl (hb hby d6_53) _ kz_) ?_
            refine own_via (S' := s₁.setTop (mkF m 55 #[.val (.ref a1), .val (.int z), .val (.int p3), .val (.int c3)] [(.int p3), (.int (xs.getD ((3 : Int32)).toNatClampNeg 0))])) (fun t k => ?_) ?_
            · show Steps p.tables e below (s₁.setTop (mkF m 54 #[.val (.ref a1), .val (.int z), .val (.int p3), .val (.int c3)] [(.int (xs.getD ((3 : Int32)).toNatClampNeg 0))])) t
              refine XS.iloadN X0.here hx rfl (hb hby d6_54) rfl ?_
              exact k
            by_cases hc55_6 : (xs.getD ((3 : Int32)).toNatClampNeg 0) = p3
            · refine own_via (S' := s₁.setTop (mkF m 58 #[.val (.ref a1), .val (.int z), .val (.int p3), .val (.int c3)] [])) (fun t k => XS.icmpNo (g := (mkF m 55 #[.val (.ref a1), .val (.int z), .val (.int p3), .val (.int c3)] [(.int p3), (.int (xs.getD ((3 : Int32)).toNatClampNeg 0))])) X0.here hx rfl (hb hby d6_55) rfl (teq hc55_6).2 k) ?_
              refine own_via (S' := s₁.setTop (mkF m 61 #[.val (.ref a1), .val (.int z), .val (.int p3), .val (.int (c3 + (1 : Int32)))] [])) (fun t k => ?_) ?_
              · show Steps p.tables e below (s₁.setTop (mkF m 58 #[.val (.ref a1), .val (.int z), .val (.int p3), .val (.int c3)] [])) t
                refine XS.iinc X0.here hx rfl (hb hby d6_58) rfl (l' := #[.val (.ref a1), .val (.int z), .val (.int p3), .val (.int (c3 + (1 : Int32)))]) rfl ?_
                exact k
              exact J4 _ (own_add1 hs3 (if_pos ⟨hc48_4, hc55_6⟩))
            · refine own_via (S' := s₁.setTop (mkF m 61 #[.val (.ref a1), .val (.int z), .val (.int p3), .val (.int c3)] [])) (fun t k => XS.icmpYes (g := (mkF m 55 #[.val (.ref a1), .val (.int z), .val (.int p3), .val (.int c3)] [(.int p3), (.int (xs.getD ((3 : Int32)).toNatClampNeg 0))])) X0.here hx rfl (pc0 := 55) (pc' := 61) rfl (hb hby d6_55) rfl (feq hc55_6).2 (by decide) (by decide) k) ?_
              exact J4 _ (own_add0 hs3 (if_neg (fun q => hc55_6 q.2)))
          · refine own_via (S' := s₁.setTop (mkF m 61 #[.val (.ref a1), .val (.int z), .val (.int p3), .val (.int c3)] [])) (fun t k => XS.icmpYes (g := (mkF m 48 #[.val (.ref a1), .val (.int z), .val (.int p3), .val (.int c3)] [(.int (3 : Int32)), (.int z)])) X0.here hx rfl (pc0 := 48) (pc' := 61) rfl (hb hby d6_48) rfl (flt hc48_4).2.2.2 (by decide) (by decide) k) ?_
            exact J4 _ (own_add0 hs3 (if_neg (fun q => hc48_4 q.1)))
        show own_G p.tables e below _ (s₁.setTop (mkF m 31 #[.val (.ref a1), .val (.int z), .val (.int p3), .val (.int c2)] []))
        refine own_via (S' := s₁.setTop (mkF m 33 #[.val (.ref a1), .val (.int z), .val (.int p3), .val (.int c2)] [(.int (2 : Int32)), (.int z)])) (fun t k => ?_) ?_
        · show Steps p.tables e below (s₁.setTop (mkF m 31 #[.val (.ref a1), .val (.int z), .val (.int p3), .val (.int c2)] [])) t
          refine XS.iloadN X0.here hx rfl (hb hby d6_31) rfl ?_
          show Steps p.tables e below (s₁.setTop (mkF m 32 #[.val (.ref a1), .val (.int z), .val (.int p3), .val (.int c2)] [(.int z)])) t
          refine XS.iconst X0.here hx rfl (hb hby d6_32) ?_
          exact k
        by_cases hc33_7 : (2 : Int32) < z
        · refine own_via (S' := s₁.setTop (mkF m 36 #[.val (.ref a1), .val (.int z), .val (.int p3), .val (.int c2)] [])) (fun t k => XS.icmpNo (g := (mkF m 33 #[.val (.ref a1), .val (.int z), .val (.int p3), .val (.int c2)] [(.int (2 : Int32)), (.int z)])) X0.here hx rfl (hb hby d6_33) rfl (tlt hc33_7).2.2.2 k) ?_
          refine own_via (S' := s₁.setTop (mkF m 38 #[.val (.ref a1), .val (.int z), .val (.int p3), .val (.int c2)] [(.int (2 : Int32)), (.ref a1)])) (fun t k => ?_) ?_
          · show Steps p.tables e below (s₁.setTop (mkF m 36 #[.val (.ref a1), .val (.int z), .val (.int p3), .val (.int c2)] [])) t
            refine XS.aloadN X0.here hx rfl (hb hby d6_36) rfl rfl ?_
            show Steps p.tables e below (s₁.setTop (mkF m 37 #[.val (.ref a1), .val (.int z), .val (.int p3), .val (.int c2)] [(.ref a1)])) t
            refine XS.iconst X0.here hx rfl (hb hby d6_37) ?_
            exact k
          obtain ⟨⟨cl8, Ar8, q8, S8, Nn8, H8, G8⟩, Le8⟩ := id V1
          have hin8 : ¬ ((2 : Int32) < 0 ∨ cl8.slots.size ≤ ((2 : Int32)).toNatClampNeg) := inb_of S8 ⟨by decide, hc33_7⟩
          have hat8 : cl8.slots[((2 : Int32)).toNatClampNeg]? = some (.int (xs.getD ((2 : Int32)).toNatClampNeg 0)) := Has.at H8 hin8 (own_gI _ _)
          refine own_via (S' := s₁.setTop (mkF m 39 #[.val (.ref a1), .val (.int z), .val (.int p3), .val (.int c2)] [(.int (xs.getD ((2 : Int32)).toNatClampNeg 0))])) (fun t kz_ => X0.iaload hx (j := (2 : Int32)) (v := (.int (xs.getD ((2 : Int32)).toNatClampNeg 0))) (by rw [e0]; exact Ar8.1) (State.isArrayOf_alike hZ.alike Ar8.2.1) Ar8.2.2 hin8 hat8 (g := (mkF m 38 #[.val (.ref a1), .val (.int z), .val (.int p3), .val (.int c2)] [(.int (2 : Int32)), (.ref a1)])) rfl rfl (hb hby d6_38) _ kz_) ?_
          refine own_via (S' := s₁.setTop (mkF m 40 #[.val (.ref a1), .val (.int z), .val (.int p3), .val (.int c2)] [(.int p3), (.int (xs.getD ((2 : Int32)).toNatClampNeg 0))])) (fun t k => ?_) ?_
          · show Steps p.tables e below (s₁.setTop (mkF m 39 #[.val (.ref a1), .val (.int z), .val (.int p3), .val (.int c2)] [(.int (xs.getD ((2 : Int32)).toNatClampNeg 0))])) t
            refine XS.iloadN X0.here hx rfl (hb hby d6_39) rfl ?_
            exact k
          by_cases hc40_9 : (xs.getD ((2 : Int32)).toNatClampNeg 0) = p3
          · refine own_via (S' := s₁.setTop (mkF m 43 #[.val (.ref a1), .val (.int z), .val (.int p3), .val (.int c2)] [])) (fun t k => XS.icmpNo (g := (mkF m 40 #[.val (.ref a1), .val (.int z), .val (.int p3), .val (.int c2)] [(.int p3), (.int (xs.getD ((2 : Int32)).toNatClampNeg 0))])) X0.here hx rfl (hb hby d6_40) rfl (teq hc40_9).2 k) ?_
            refine own_via (S' := s₁.setTop (mkF m 46 #[.val (.ref a1), .val (.int z), .val (.int p3), .val (.int (c2 + (1 : Int32)))] [])) (fun t k => ?_) ?_
            · show Steps p.tables e below (s₁.setTop (mkF m 43 #[.val (.ref a1), .val (.int z), .val (.int p3), .val (.int c2)] [])) t
              refine XS.iinc X0.here hx rfl (hb hby d6_43) rfl (l' := #[.val (.ref a1), .val (.int z), .val (.int p3), .val (.int (c2 + (1 : Int32)))]) rfl ?_
              exact k
            exact J3 _ (own_add1 hs2 (if_pos ⟨hc33_7, hc40_9⟩))
          · refine own_via (S' := s₁.setTop (mkF m 46 #[.val (.ref a1), .val (.int z), .val (.int p3), .val (.int c2)] [])) (fun t k => XS.icmpYes (g := (mkF m 40 #[.val (.ref a1), .val (.int z), .val (.int p3), .val (.int c2)] [(.int p3), (.int (xs.getD ((2 : Int32)).toNatClampNeg 0))])) X0.here hx rfl (pc0 := 40) (pc' := 46) rfl (hb hby d6_40) rfl (feq hc40_9).2 (by decide) (by decide) k) ?_
            exact J3 _ (own_add0 hs2 (if_neg (fun q => hc40_9 q.2)))
        · refine own_via (S' := s₁.setTop (mkF m 46 #[.val (.ref a1), .val (.int z), .val (.int p3), .val (.int c2)] [])) (fun t k => XS.icmpYes (g := (mkF m 33 #[.val (.ref a1), .val (.int z), .val (.int p3), .val (.int c2)] [(.int (2 : Int32)), (.int z)])) X0.here hx rfl (pc0 := 33) (pc' := 46) rfl (hb hby d6_33) rfl (flt hc33_7).2.2.2 (by decide) (by decide) k) ?_
          exact J3 _ (own_add0 hs2 (if_neg (fun q => hc33_7 q.1)))
      show own_G p.tables e below _ (s₁.setTop (mkF m 16 #[.val (.ref a1), .val (.int z), .val (.int p3), .val (.int c1)] []))
      refine own_via (S' := s₁.setTop (mkF m 18 #[.val (.ref a1), .val (.int z), .val (.int p3), .val (.int c1)] [(.int (1 : Int32)), (.int z)])) (fun t k => ?_) ?_
      · show Steps p.tables e below (s₁.setTop (mkF m 16 #[.val (.ref a1), .val (.int z), .val (.int p3), .val (.int c1)] [])) t
        refine XS.iloadN X0.here hx rfl (hb hby d6_16) rfl ?_
        show Steps p.tables e below (s₁.setTop (mkF m 17 #[.val (.ref a1), .val (.int z), .val (.int p3), .val (.int c1)] [(.int z)])) t
        refine XS.iconst X0.here hx rfl (hb hby d6_17) ?_
        exact k
      by_cases hc18_10 : (1 : Int32) < z
      · refine own_via (S' := s₁.setTop (mkF m 21 #[.val (.ref a1), .val (.int z), .val (.int p3), .val (.int c1)] [])) (fun t k => XS.icmpNo (g := (mkF m 18 #[.val (.ref a1), .val (.int z), .val (.int p3), .val (.int c1)] [(.int (1 : Int32)), (.int z)])) X0.here hx rfl (hb hby d6_18) rfl (tlt hc18_10).2.2.2 k) ?_
        refine own_via (S' := s₁.setTop (mkF m 23 #[.val (.ref a1), .val (.int z), .val (.int p3), .val (.int c1)] [(.int (1 : Int32)), (.ref a1)])) (fun t k => ?_) ?_
        · show Steps p.tables e below (s₁.setTop (mkF m 21 #[.val (.ref a1), .val (.int z), .val (.int p3), .val (.int c1)] [])) t
          refine XS.aloadN X0.here hx rfl (hb hby d6_21) rfl rfl ?_
          show Steps p.tables e below (s₁.setTop (mkF m 22 #[.val (.ref a1), .val (.int z), .val (.int p3), .val (.int c1)] [(.ref a1)])) t
          refine XS.iconst X0.here hx rfl (hb hby d6_22) ?_
          exact k
        obtain ⟨⟨cl11, Ar11, q11, S11, Nn11, H11, G11⟩, Le11⟩ := id V1
        have hin11 : ¬ ((1 : Int32) < 0 ∨ cl11.slots.size ≤ ((1 : Int32)).toNatClampNeg) := inb_of S11 ⟨by decide, hc18_10⟩
        have hat11 : cl11.slots[((1 : Int32)).toNatClampNeg]? = some (.int (xs.getD ((1 : Int32)).toNatClampNeg 0)) := Has.at H11 hin11 (own_gI _ _)
        refine own_via (S' := s₁.setTop (mkF m 24 #[.val (.ref a1), .val (.int z), .val (.int p3), .val (.int c1)] [(.int (xs.getD ((1 : Int32)).toNatClampNeg 0))])) (fun t kz_ => X0.iaload hx (j := (1 : Int32)) (v := (.int (xs.getD ((1 : Int32)).toNatClampNeg 0))) (by rw [e0]; exact Ar11.1) (State.isArrayOf_alike hZ.alike Ar11.2.1) Ar11.2.2 hin11 hat11 (g := (mkF m 23 #[.val (.ref a1), .val (.int z), .val (.int p3), .val (.int c1)] [(.int (1 : Int32)), (.ref a1)])) rfl rfl (hb hby d6_23) _ kz_) ?_
        refine own_via (S' := s₁.setTop (mkF m 25 #[.val (.ref a1), .val (.int z), .val (.int p3), .val (.int c1)] [(.int p3), (.int (xs.getD ((1 : Int32)).toNatClampNeg 0))])) (fun t k => ?_) ?_
        · show Steps p.tables e below (s₁.setTop (mkF m 24 #[.val (.ref a1), .val (.int z), .val (.int p3), .val (.int c1)] [(.int (xs.getD ((1 : Int32)).toNatClampNeg 0))])) t
          refine XS.iloadN X0.here hx rfl (hb hby d6_24) rfl ?_
          exact k
        by_cases hc25_12 : (xs.getD ((1 : Int32)).toNatClampNeg 0) = p3
        · refine own_via (S' := s₁.setTop (mkF m 28 #[.val (.ref a1), .val (.int z), .val (.int p3), .val (.int c1)] [])) (fun t k => XS.icmpNo (g := (mkF m 25 #[.val (.ref a1), .val (.int z), .val (.int p3), .val (.int c1)] [(.int p3), (.int (xs.getD ((1 : Int32)).toNatClampNeg 0))])) X0.here hx rfl (hb hby d6_25) rfl (teq hc25_12).2 k) ?_
          refine own_via (S' := s₁.setTop (mkF m 31 #[.val (.ref a1), .val (.int z), .val (.int p3), .val (.int (c1 + (1 : Int32)))] [])) (fun t k => ?_) ?_
          · show Steps p.tables e below (s₁.setTop (mkF m 28 #[.val (.ref a1), .val (.int z), .val (.int p3), .val (.int c1)] [])) t
            refine XS.iinc X0.here hx rfl (hb hby d6_28) rfl (l' := #[.val (.ref a1), .val (.int z), .val (.int p3), .val (.int (c1 + (1 : Int32)))]) rfl ?_
            exact k
          exact J2 _ (own_add1 hs1 (if_pos ⟨hc18_10, hc25_12⟩))
        · refine own_via (S' := s₁.setTop (mkF m 31 #[.val (.ref a1), .val (.int z), .val (.int p3), .val (.int c1)] [])) (fun t k => XS.icmpYes (g := (mkF m 25 #[.val (.ref a1), .val (.int z), .val (.int p3), .val (.int c1)] [(.int p3), (.int (xs.getD ((1 : Int32)).toNatClampNeg 0))])) X0.here hx rfl (pc0 := 25) (pc' := 31) rfl (hb hby d6_25) rfl (feq hc25_12).2 (by decide) (by decide) k) ?_
          exact J2 _ (own_add0 hs1 (if_neg (fun q => hc25_12 q.2)))
      · refine own_via (S' := s₁.setTop (mkF m 31 #[.val (.ref a1), .val (.int z), .val (.int p3), .val (.int c1)] [])) (fun t k => XS.icmpYes (g := (mkF m 18 #[.val (.ref a1), .val (.int z), .val (.int p3), .val (.int c1)] [(.int (1 : Int32)), (.int z)])) X0.here hx rfl (pc0 := 18) (pc' := 31) rfl (hb hby d6_18) rfl (flt hc18_10).2.2.2 (by decide) (by decide) k) ?_
        exact J2 _ (own_add0 hs1 (if_neg (fun q => hc18_10 q.1)))
    show own_G p.tables e below _ (s₁.setTop (mkF m 2 #[.val (.ref a1), .val (.int z), .val (.int p3), .val (.int c0)] []))
    refine own_via (S' := s₁.setTop (mkF m 3 #[.val (.ref a1), .val (.int z), .val (.int p3), .val (.int c0)] [(.int z)])) (fun t k => ?_) ?_
    · show Steps p.tables e below (s₁.setTop (mkF m 2 #[.val (.ref a1), .val (.int z), .val (.int p3), .val (.int c0)] [])) t
      refine XS.iloadN X0.here hx rfl (hb hby d6_2) rfl ?_
      exact k
    by_cases hc3_13 : (0 : Int32) < z
    · refine own_via (S' := s₁.setTop (mkF m 6 #[.val (.ref a1), .val (.int z), .val (.int p3), .val (.int c0)] [])) (fun t k => XS.ifNo (g := (mkF m 3 #[.val (.ref a1), .val (.int z), .val (.int p3), .val (.int c0)] [(.int z)])) X0.here hx rfl (hb hby d6_3) rfl ((if0 _ _).trans (tlt hc3_13).2.2.2) k) ?_
      refine own_via (S' := s₁.setTop (mkF m 8 #[.val (.ref a1), .val (.int z), .val (.int p3), .val (.int c0)] [(.int (0 : Int32)), (.ref a1)])) (fun t k => ?_) ?_
      · show Steps p.tables e below (s₁.setTop (mkF m 6 #[.val (.ref a1), .val (.int z), .val (.int p3), .val (.int c0)] [])) t
        refine XS.aloadN X0.here hx rfl (hb hby d6_6) rfl rfl ?_
        show Steps p.tables e below (s₁.setTop (mkF m 7 #[.val (.ref a1), .val (.int z), .val (.int p3), .val (.int c0)] [(.ref a1)])) t
        refine XS.iconst X0.here hx rfl (hb hby d6_7) ?_
        exact k
      obtain ⟨⟨cl14, Ar14, q14, S14, Nn14, H14, G14⟩, Le14⟩ := id V1
      have hin14 : ¬ ((0 : Int32) < 0 ∨ cl14.slots.size ≤ ((0 : Int32)).toNatClampNeg) := inb_of S14 ⟨by decide, hc3_13⟩
      have hat14 : cl14.slots[((0 : Int32)).toNatClampNeg]? = some (.int (xs.getD ((0 : Int32)).toNatClampNeg 0)) := Has.at H14 hin14 (own_gI _ _)
      refine own_via (S' := s₁.setTop (mkF m 9 #[.val (.ref a1), .val (.int z), .val (.int p3), .val (.int c0)] [(.int (xs.getD ((0 : Int32)).toNatClampNeg 0))])) (fun t kz_ => X0.iaload hx (j := (0 : Int32)) (v := (.int (xs.getD ((0 : Int32)).toNatClampNeg 0))) (by rw [e0]; exact Ar14.1) (State.isArrayOf_alike hZ.alike Ar14.2.1) Ar14.2.2 hin14 hat14 (g := (mkF m 8 #[.val (.ref a1), .val (.int z), .val (.int p3), .val (.int c0)] [(.int (0 : Int32)), (.ref a1)])) rfl rfl (hb hby d6_8) _ kz_) ?_
      refine own_via (S' := s₁.setTop (mkF m 10 #[.val (.ref a1), .val (.int z), .val (.int p3), .val (.int c0)] [(.int p3), (.int (xs.getD ((0 : Int32)).toNatClampNeg 0))])) (fun t k => ?_) ?_
      · show Steps p.tables e below (s₁.setTop (mkF m 9 #[.val (.ref a1), .val (.int z), .val (.int p3), .val (.int c0)] [(.int (xs.getD ((0 : Int32)).toNatClampNeg 0))])) t
        refine XS.iloadN X0.here hx rfl (hb hby d6_9) rfl ?_
        exact k
      by_cases hc10_15 : (xs.getD ((0 : Int32)).toNatClampNeg 0) = p3
      · refine own_via (S' := s₁.setTop (mkF m 13 #[.val (.ref a1), .val (.int z), .val (.int p3), .val (.int c0)] [])) (fun t k => XS.icmpNo (g := (mkF m 10 #[.val (.ref a1), .val (.int z), .val (.int p3), .val (.int c0)] [(.int p3), (.int (xs.getD ((0 : Int32)).toNatClampNeg 0))])) X0.here hx rfl (hb hby d6_10) rfl (teq hc10_15).2 k) ?_
        refine own_via (S' := s₁.setTop (mkF m 16 #[.val (.ref a1), .val (.int z), .val (.int p3), .val (.int (c0 + (1 : Int32)))] [])) (fun t k => ?_) ?_
        · show Steps p.tables e below (s₁.setTop (mkF m 13 #[.val (.ref a1), .val (.int z), .val (.int p3), .val (.int c0)] [])) t
          refine XS.iinc X0.here hx rfl (hb hby d6_13) rfl (l' := #[.val (.ref a1), .val (.int z), .val (.int p3), .val (.int (c0 + (1 : Int32)))]) rfl ?_
          exact k
        exact J1 _ (own_add1 hs0 (if_pos ⟨hc3_13, hc10_15⟩))
      · refine own_via (S' := s₁.setTop (mkF m 16 #[.val (.ref a1), .val (.int z), .val (.int p3), .val (.int c0)] [])) (fun t k => XS.icmpYes (g := (mkF m 10 #[.val (.ref a1), .val (.int z), .val (.int p3), .val (.int c0)] [(.int p3), (.int (xs.getD ((0 : Int32)).toNatClampNeg 0))])) X0.here hx rfl (pc0 := 10) (pc' := 16) rfl (hb hby d6_10) rfl (feq hc10_15).2 (by decide) (by decide) k) ?_
        exact J1 _ (own_add0 hs0 (if_neg (fun q => hc10_15 q.2)))
    · refine own_via (S' := s₁.setTop (mkF m 16 #[.val (.ref a1), .val (.int z), .val (.int p3), .val (.int c0)] [])) (fun t k => XS.ifYes (g := (mkF m 3 #[.val (.ref a1), .val (.int z), .val (.int p3), .val (.int c0)] [(.int z)])) X0.here hx rfl (pc0 := 3) (pc' := 16) rfl (hb hby d6_3) rfl ((if0 _ _).trans (flt hc3_13).2.2.2) (by decide) (by decide) k) ?_
      exact J1 _ (own_add0 hs0 (if_neg (fun q => hc3_13 q.1)))
  exact J0 _ rfl
theorem d4_0 : decode method_3_code 0 = .ok (.iload_n 0, 1) := by decide +kernel
theorem d4_1 : decode method_3_code 1 = .ok (.iconst 3, 1) := by decide +kernel
theorem d4_2 : decode method_3_code 2 = .ok (.iload_n 1, 1) := by decide +kernel
theorem d4_3 : decode method_3_code 3 = .ok (.imul, 1) := by decide +kernel
theorem d4_4 : decode method_3_code 4 = .ok (.iushr, 1) := by decide +kernel
theorem d4_5 : decode method_3_code 5 = .ok (.bipush 7, 2) := by decide +kernel
theorem d4_7 : decode method_3_code 7 = .ok (.iand, 1) := by decide +kernel
theorem d4_8 : decode method_3_code 8 = .ok (.iload_n 2, 1) := by decide +kernel
theorem d4_9 : decode method_3_code 9 = .ok (.irem, 1) := by decide +kernel
theorem d4_10 : decode method_3_code 10 = .ok (.ireturn, 1) := by decide +kernel
theorem pn4 : plainName "com/example/fenceline/fenceline/TraceThreadsPinLaw" = true := by first | (simp [plainName, overriddenIn]; done) | decide +kernel
theorem ef4 (m : MethodId) (x0 : Int32) (x1 : Int32) (x2 : Int32) : entryFrame m #[(.int x0), (.int x1), (.int x2)] 3 = mkF m 0 #[.val (.int x0), .val (.int x1), .val (.int x2)] [] := by first | (simp [entryFrame, mkF, argsToLocals, Value.category]; done) | rfl
def Q4 (Z : State) (p1 : Int32) (p2 : Int32) (p3 : Int32) (h0 : Heap) (n0 : Nat) (v : Option Value) (h : Heap) (L : List Loc) : Prop := ∃ x : Int32, v = some (.int x) ∧ Fr n0 L ∧ h = h0 ∧ x ∈ own_D ∧ x < p3
set_option maxRecDepth 65536 in
set_option maxHeartbeats 40000000 in
theorem rm4 (l : Launch) (Z : State) (a0 : Array Value) (hw : ∀ d ∈ tables_1, d.before a0 Z = true) (ws : List Jvm.Cond) (p1 : Int32) (p2 : Int32) (p3 : Int32) (h0 : Heap) (n0 : Nat) (Z0 : n0 ≤ h0.size) (ht : p3 ∈ own_E) :
    MetFree l (⟨"com/example/fenceline/fenceline/TraceThreadsPinLaw", "pick", "(III)I"⟩ : MethodName) (head1 (Jvm.Cond.code (⟨"com/example/fenceline/fenceline/TraceThreadsPinLaw", "pick", "(III)I"⟩ : MethodName) method_3_code 3 (some .int) :: ws) ({ frames := 0, cells := 0, slots := 0, locals := 0 } : Room)) (fun a U => a = #[(.int p1), (.int p2), (.int p3)] ∧ Z.Warmed39 U.vm ∧ U.heap = h0) (fun _ _ _ _ _ => True) (fun _ U o U' => ∃ v L, o = .returned v ∧ Q4 Z p1 p2 p3 h0 n0 v U'.heap L ∧ FrameEnd U o U' L ({ frames := 0, cells := 0, slots := 0, locals := 0 } : Room).cells ({ frames := 0, cells := 0, slots := 0, locals := 0 } : Room).slots) := by
  refine MetFree.of_bodySF (plainFor_of_name pn4) hisR ?_
  intro p e s m args below meth c s₁ Bd hml0 hP hK
  obtain ⟨rfl, hZ, hh⟩ := hP
  have hx := Bd.exec
  have hby := Bd.bytes
  have hml : c.maxLocals = 3 := hml0
  have hown : s.vm.findClass "com/example/fenceline/fenceline/TraceThreadsPinLaw" = some m.cls := findClass_of_methodNamed Bd.named
  have hnm := (name_of_methodNamed Bd.named Bd.method).1
  have X0 : Stand p l e ({ frames := 0, cells := 0, slots := 0, locals := 0 } : Room) s m #[(.int p1), (.int p2), (.int p3)] below meth c s₁ [] 0 0 := Stand.of_body Bd
  have e0 : s₁.heap = h0 := by rw [← hh, Bd.state]; rfl
  have N0 := Fr.nil n0
  refine (show own_G p.tables e below (own_P s (Q4 Z p1 p2 p3 h0 n0) 0 0) (s₁.setTop (entryFrame m #[(.int p1), (.int p2), (.int p3)] 3)) from ?_)
  refine own_via (fun t k => castTop (ef4 m p1 p2 p3) k) ?_
  show own_G p.tables e below _ (s₁.setTop (mkF m 0 #[.val (.int p1), .val (.int p2), .val (.int p3)] []))
  refine own_via (S' := s₁.setTop (mkF m 10 #[.val (.int p1), .val (.int p2), .val (.int p3)] [(.int ((((p1.toUInt32 >>> (((3 : Int32) * p2) &&& 31).toUInt32).toInt32) &&& (7 : Int32)) % p3))])) (fun t k => ?_) ?_
  · show Steps p.tables e below (s₁.setTop (mkF m 0 #[.val (.int p1), .val (.int p2), .val (.int p3)] [])) t
    refine XS.iloadN X0.here hx rfl (hb hby d4_0) rfl ?_
    show Steps p.tables e below (s₁.setTop (mkF m 1 #[.val (.int p1), .val (.int p2), .val (.int p3)] [(.int p1)])) t
    refine XS.iconst X0.here hx rfl (hb hby d4_1) ?_
    show Steps p.tables e below (s₁.setTop (mkF m 2 #[.val (.int p1), .val (.int p2), .val (.int p3)] [(.int (3 : Int32)), (.int p1)])) t
    refine XS.iloadN X0.here hx rfl (hb hby d4_2) rfl ?_
    show Steps p.tables e below (s₁.setTop (mkF m 3 #[.val (.int p1), .val (.int p2), .val (.int p3)] [(.int p2), (.int (3 : Int32)), (.int p1)])) t
    refine XS.imul X0.here hx rfl (hb hby d4_3) rfl ?_
    show Steps p.tables e below (s₁.setTop (mkF m 4 #[.val (.int p1), .val (.int p2), .val (.int p3)] [(.int ((3 : Int32) * p2)), (.int p1)])) t
    refine XS.iushr X0.here hx rfl (hb hby d4_4) rfl ?_
    show Steps p.tables e below (s₁.setTop (mkF m 5 #[.val (.int p1), .val (.int p2), .val (.int p3)] [(.int ((p1.toUInt32 >>> (((3 : Int32) * p2) &&& 31).toUInt32).toInt32))])) t
    refine XS.bipush X0.here hx rfl (hb hby d4_5) ?_
    show Steps p.tables e below (s₁.setTop (mkF m 7 #[.val (.int p1), .val (.int p2), .val (.int p3)] [(.int (7 : Int32)), (.int ((p1.toUInt32 >>> (((3 : Int32) * p2) &&& 31).toUInt32).toInt32))])) t
    refine XS.iand X0.here hx rfl (hb hby d4_7) rfl ?_
    show Steps p.tables e below (s₁.setTop (mkF m 8 #[.val (.int p1), .val (.int p2), .val (.int p3)] [(.int (((p1.toUInt32 >>> (((3 : Int32) * p2) &&& 31).toUInt32).toInt32) &&& (7 : Int32)))])) t
    refine XS.iloadN X0.here hx rfl (hb hby d4_8) rfl ?_
    show Steps p.tables e below (s₁.setTop (mkF m 9 #[.val (.int p1), .val (.int p2), .val (.int p3)] [(.int p3), (.int (((p1.toUInt32 >>> (((3 : Int32) * p2) &&& 31).toUInt32).toInt32) &&& (7 : Int32)))])) t
    refine iremM X0 hx rfl (hb hby d4_9) rfl (fun q => by subst q; exact absurd ht (by decide)) ?_
    exact k
  exact own_end (h := h0) X0 (v := some (.int ((((p1.toUInt32 >>> (((3 : Int32) * p2) &&& 31).toUInt32).toInt32) &&& (7 : Int32)) % p3))) Bd.notSynchronized (fun h => by rw [Bd.returns] at h; cases h) (fun fs hr => retOut X0 hx Bd.returns rfl (Or.inl ⟨rfl, Or.inl rfl, _, rfl⟩) (hb hby d4_10) hr) e0 ⟨_, rfl, N0, rfl, (own_pk _ _ ht).1, (own_pk _ _ ht).2⟩ (by decide) (by decide)
theorem d2_0 : decode method_6_code 0 = .ok (.iload 4, 2) := by decide +kernel
theorem d2_2 : decode method_6_code 2 = .ok (.iload_n 3, 1) := by decide +kernel
theorem d2_3 : decode method_6_code 3 = .ok (.if_icmp .lt 5, 3) := by decide +kernel
theorem d2_6 : decode method_6_code 6 = .ok (.iconst 1, 1) := by decide +kernel
theorem d2_7 : decode method_6_code 7 = .ok (.ireturn, 1) := by decide +kernel
theorem d2_8 : decode method_6_code 8 = .ok (.aload_n 0, 1) := by decide +kernel
theorem d2_9 : decode method_6_code 9 = .ok (.iload 4, 2) := by decide +kernel
theorem d2_11 : decode method_6_code 11 = .ok (.invokestatic 27, 3) := by decide +kernel
theorem d2_14 : decode method_6_code 14 = .ok (.istore 5, 2) := by decide +kernel
theorem d2_16 : decode method_6_code 16 = .ok (.aload_n 1, 1) := by decide +kernel
theorem d2_17 : decode method_6_code 17 = .ok (.iload 4, 2) := by decide +kernel
theorem d2_19 : decode method_6_code 19 = .ok (.iaload, 1) := by decide +kernel
theorem d2_20 : decode method_6_code 20 = .ok (.iload 5, 2) := by decide +kernel
theorem d2_22 : decode method_6_code 22 = .ok (.if_icmp .eq 5, 3) := by decide +kernel
theorem d2_27 : decode method_6_code 27 = .ok (.aload_n 2, 1) := by decide +kernel
theorem d2_28 : decode method_6_code 28 = .ok (.aload_n 0, 1) := by decide +kernel
theorem d2_29 : decode method_6_code 29 = .ok (.iload 4, 2) := by decide +kernel
theorem d2_31 : decode method_6_code 31 = .ok (.iaload, 1) := by decide +kernel
theorem d2_32 : decode method_6_code 32 = .ok (.aaload, 1) := by decide +kernel
theorem d2_33 : decode method_6_code 33 = .ok (.astore 6, 2) := by decide +kernel
theorem d2_35 : decode method_6_code 35 = .ok (.aload 6, 2) := by decide +kernel
theorem d2_37 : decode method_6_code 37 = .ok (.ifnull 25, 3) := by decide +kernel
theorem d2_40 : decode method_6_code 40 = .ok (.iload 5, 2) := by decide +kernel
theorem d2_42 : decode method_6_code 42 = .ok (.aload 6, 2) := by decide +kernel
theorem d2_44 : decode method_6_code 44 = .ok (.arraylength, 1) := by decide +kernel
theorem d2_45 : decode method_6_code 45 = .ok (.if_icmp .ge 17, 3) := by decide +kernel
theorem d2_48 : decode method_6_code 48 = .ok (.aload 6, 2) := by decide +kernel
theorem d2_50 : decode method_6_code 50 = .ok (.iload 5, 2) := by decide +kernel
theorem d2_52 : decode method_6_code 52 = .ok (.iaload, 1) := by decide +kernel
theorem d2_53 : decode method_6_code 53 = .ok (.iload 4, 2) := by decide +kernel
theorem d2_55 : decode method_6_code 55 = .ok (.if_icmp .ne 7, 3) := by decide +kernel
theorem d2_58 : decode method_6_code 58 = .ok (.iconst 1, 1) := by decide +kernel
theorem d2_59 : decode method_6_code 59 = .ok (.goto 4, 3) := by decide +kernel
theorem d2_63 : decode method_6_code 63 = .ok (.ireturn, 1) := by decide +kernel
theorem pn2 : plainName "com/example/fenceline/fenceline/TraceThreadsPinLaw" = true := by first | (simp [plainName, overriddenIn]; done) | decide +kernel
theorem pd_0 : parseMethodDescriptor "([II)I" = some ⟨[(.array .int), .int], some .int⟩ := by decide +kernel
theorem ef2 (m : MethodId) (x0 : Addr) (x1 : Addr) (x2 : Addr) (x3 : Int32) (x4 : Int32) : entryFrame m #[(.ref x0), (.ref x1), (.ref x2), (.int x3), (.int x4)] 7 = mkF m 0 #[.val (.ref x0), .val (.ref x1), .val (.ref x2), .val (.int x3), .val (.int x4), .unset, .unset] [] := by first | (simp [entryFrame, mkF, argsToLocals, Value.category]; done) | rfl
def Q2 (Z : State) (a1 : Addr) (a3 : Addr) (ar : Addr) (z : Int32) (p5 : Int32) (tc : Int32) (kC : ClassId) (qs : List Int32) (kA : ClassId) (kr : ClassId) (xs : List Int32) (bs : List Addr) (Rm : own_Rm) (NN : Nat) (h0 : Heap) (n0 : Nat) (v : Option Value) (h : Heap) (L : List Loc) : Prop := v = some (.int (1 : Int32)) ∧ Fr n0 L ∧ h = h0
set_option maxRecDepth 65536 in
set_option maxHeartbeats 40000000 in
theorem rm2 (l : Launch) (Z : State) (a0 : Array Value) (hw : ∀ d ∈ tables_1, d.before a0 Z = true) (ws : List Jvm.Cond) (a1 : Addr) (a3 : Addr) (ar : Addr) (z : Int32) (p5 : Int32) (tc : Int32) (kC : ClassId) (qs : List Int32) (kA : ClassId) (kr : ClassId) (xs : List Int32) (bs : List Addr) (Rm : own_Rm) (NN : Nat) (h0 : Heap) (n0 : Nat) (Z0 : n0 ≤ h0.size) (V1 : own_Ar Z h0 a1 kA .int z (List.map Value.int xs) (.int (0 : Int32))) (V3 : own_Ar Z h0 a3 kC .int z (List.map Value.int qs) (.int (0 : Int32))) (VR : Arv Z h0 ar kr (.array .int) tc (List.map Value.ref bs) .null) (RW : own_Rw Z h0 NN bs Rm) (hbl : bs.length = (tc).toNatClampNeg) (hi0 : ¬ p5 < 0) (hg : p5 < z → ¬ xs.getD (p5).toNatClampNeg 0 < 0 ∧ xs.getD (p5).toNatClampNeg 0 < tc) (hop : p5 < z → own_hop xs qs tc Rm p5) :
    MetFree l (⟨"com/example/fenceline/fenceline/TraceThreadsPinLaw", "opOk", "([I[I[[III)Z"⟩ : MethodName) (head1 (Jvm.Cond.code (⟨"com/example/fenceline/fenceline/TraceThreadsPinLaw", "opOk", "([I[I[[III)Z"⟩ : MethodName) method_6_code 7 (some .boolean) :: ws) ({ frames := 1, cells := 0, slots := 0, locals := 14 } : Room)) (fun a U => a = #[(.ref a1), (.ref a3), (.ref ar), (.int z), (.int p5)] ∧ Z.Warmed39 U.vm ∧ U.heap = h0) (fun _ _ _ _ _ => True) (fun _ U o U' => ∃ v L, o = .returned v ∧ Q2 Z a1 a3 ar z p5 tc kC qs kA kr xs bs Rm NN h0 n0 v U'.heap L ∧ FrameEnd U o U' L ({ frames := 1, cells := 0, slots := 0, locals := 14 } : Room).cells ({ frames := 1, cells := 0, slots := 0, locals := 14 } : Room).slots) := by
  refine MetFree.of_bodySF (plainFor_of_name pn2) hisR ?_
  intro p e s m args below meth c s₁ Bd hml0 hP hK
  obtain ⟨rfl, hZ, hh⟩ := hP
  have hx := Bd.exec
  have hby := Bd.bytes
  have hml : c.maxLocals = 7 := hml0
  have hown : s.vm.findClass "com/example/fenceline/fenceline/TraceThreadsPinLaw" = some m.cls := findClass_of_methodNamed Bd.named
  have hnm := (name_of_methodNamed Bd.named Bd.method).1
  have X0 : Stand p l e ({ frames := 1, cells := 0, slots := 0, locals := 14 } : Room) s m #[(.ref a1), (.ref a3), (.ref ar), (.int z), (.int p5)] below meth c s₁ [] 0 0 := Stand.of_body Bd
  have e0 : s₁.heap = h0 := by rw [← hh, Bd.state]; rfl
  have N0 := Fr.nil n0
  refine (show own_G p.tables e below (own_P s (Q2 Z a1 a3 ar z p5 tc kC qs kA kr xs bs Rm NN h0 n0) 0 0) (s₁.setTop (entryFrame m #[(.ref a1), (.ref a3), (.ref ar), (.int z), (.int p5)] 7)) from ?_)
  refine own_via (fun t k => castTop (ef2 m a1 a3 ar z p5) k) ?_
  show own_G p.tables e below _ (s₁.setTop (mkF m 0 #[.val (.ref a1), .val (.ref a3), .val (.ref ar), .val (.int z), .val (.int p5), .unset, .unset] []))
  refine own_via (S' := s₁.setTop (mkF m 3 #[.val (.ref a1), .val (.ref a3), .val (.ref ar), .val (.int z), .val (.int p5), .unset, .unset] [(.int z), (.int p5)])) (fun t k => ?_) ?_
  · show Steps p.tables e below (s₁.setTop (mkF m 0 #[.val (.ref a1), .val (.ref a3), .val (.ref ar), .val (.int z), .val (.int p5), .unset, .unset] [])) t
    refine XS.iload X0.here hx rfl (hb hby d2_0) rfl ?_
    show Steps p.tables e below (s₁.setTop (mkF m 2 #[.val (.ref a1), .val (.ref a3), .val (.ref ar), .val (.int z), .val (.int p5), .unset, .unset] [(.int p5)])) t
    refine XS.iloadN X0.here hx rfl (hb hby d2_2) rfl ?_
    exact k
  by_cases hc3_1 : p5 < z
  · refine own_via (S' := s₁.setTop (mkF m 8 #[.val (.ref a1), .val (.ref a3), .val (.ref ar), .val (.int z), .val (.int p5), .unset, .unset] [])) (fun t k => XS.icmpYes (g := (mkF m 3 #[.val (.ref a1), .val (.ref a3), .val (.ref ar), .val (.int z), .val (.int p5), .unset, .unset] [(.int z), (.int p5)])) X0.here hx rfl (pc0 := 3) (pc' := 8) rfl (hb hby d2_3) rfl (tlt hc3_1).1 (by decide) (by decide) k) ?_
    refine own_via (S' := s₁.setTop (mkF m 11 #[.val (.ref a1), .val (.ref a3), .val (.ref ar), .val (.int z), .val (.int p5), .unset, .unset] [(.int p5), (.ref a1)])) (fun t k => ?_) ?_
    · show Steps p.tables e below (s₁.setTop (mkF m 8 #[.val (.ref a1), .val (.ref a3), .val (.ref ar), .val (.int z), .val (.int p5), .unset, .unset] [])) t
      refine XS.aloadN X0.here hx rfl (hb hby d2_8) rfl rfl ?_
      show Steps p.tables e below (s₁.setTop (mkF m 9 #[.val (.ref a1), .val (.ref a3), .val (.ref ar), .val (.int z), .val (.int p5), .unset, .unset] [(.ref a1)])) t
      refine XS.iload X0.here hx rfl (hb hby d2_9) rfl ?_
      exact k
    obtain ⟨_, _, ⟨T2, L2, k2, n2⟩, -, X2, ⟨Lc2, hQ2, l2, y2, z2⟩, st2⟩ := Jvm.LawKit.callS X0 hx (y := (⟨"com/example/fenceline/fenceline/TraceThreadsPinLaw", "before", "([II)I"⟩ : MethodName)) hown (mvT hZ (hw _ (List.mem_of_getElem? (i := 18) rfl))) (mvT hZ (hw _ (List.mem_of_getElem? (i := 19) rfl))) (mvT hZ (hw _ (List.mem_of_getElem? (i := 9) rfl))) (mvT hZ (hw _ (List.mem_of_getElem? (i := 20) rfl))) (by decide) (backOf (W := 0) (rm5 l Z a0 hw [] a1 p5 kA z xs h0 n0 Z0 V1 hi0 hc3_1) hZ (hw _ (List.mem_of_getElem? (i := 20) rfl)) (hw _ (List.mem_of_getElem? (i := 9) rfl)) (by decide) (by decide)) (g := (mkF m 11 #[.val (.ref a1), .val (.ref a3), .val (.ref ar), .val (.int z), .val (.int p5), .unset, .unset] [(.int p5), (.ref a1)])) rfl (by rw [hml]; rfl) (argsL := [(.ref a1), (.int p5)]) (rest := []) (lenOf pd_0 rfl) rfl (by show 2 * 0 + _ ≤ _; exact Nat.le_of_eq rfl) (hb hby d2_11) (fun _ _ => ⟨rfl, e0, (by decide : 0 + 0 ≤ _), (by decide : 0 + 0 ≤ _)⟩)
    dsimp only [Pt.U, Pt.locs, Pt.cells, Pt.slots] at X2 l2 y2 z2 st2 hQ2
    subst l2 y2 z2
    obtain ⟨rfl, Nq2, hh2⟩ := hQ2
    have N2 := Fr.app N0 Nq2
    refine own_via st2 ?_
    show own_G p.tables e below _ (T2.setTop (mkF m 14 #[.val (.ref a1), .val (.ref a3), .val (.ref ar), .val (.int z), .val (.int p5), .unset, .unset] [(.int (own_bef xs p5))]))
    refine own_via (S' := T2.setTop (mkF m 19 #[.val (.ref a1), .val (.ref a3), .val (.ref ar), .val (.int z), .val (.int p5), .val (.int (own_bef xs p5)), .unset] [(.int p5), (.ref a3)])) (fun t k => ?_) ?_
    · show Steps p.tables e below (T2.setTop (mkF m 14 #[.val (.ref a1), .val (.ref a3), .val (.ref ar), .val (.int z), .val (.int p5), .unset, .unset] [(.int (own_bef xs p5))])) t
      refine XS.istore X2.here hx rfl (hb hby d2_14) rfl (l' := #[.val (.ref a1), .val (.ref a3), .val (.ref ar), .val (.int z), .val (.int p5), .val (.int (own_bef xs p5)), .unset]) rfl ?_
      show Steps p.tables e below (T2.setTop (mkF m 16 #[.val (.ref a1), .val (.ref a3), .val (.ref ar), .val (.int z), .val (.int p5), .val (.int (own_bef xs p5)), .unset] [])) t
      refine XS.aloadN X2.here hx rfl (hb hby d2_16) rfl rfl ?_
      show Steps p.tables e below (T2.setTop (mkF m 17 #[.val (.ref a1), .val (.ref a3), .val (.ref ar), .val (.int z), .val (.int p5), .val (.int (own_bef xs p5)), .unset] [(.ref a3)])) t
      refine XS.iload X2.here hx rfl (hb hby d2_17) rfl ?_
      exact k
    obtain ⟨⟨cl3, Ar3, q3, S3, Nn3, H3, G3⟩, Le3⟩ := id V3
    have hin3 : ¬ (p5 < 0 ∨ cl3.slots.size ≤ (p5).toNatClampNeg) := inb_of S3 ⟨hi0, hc3_1⟩
    have hat3 : cl3.slots[(p5).toNatClampNeg]? = some (.int (qs.getD (p5).toNatClampNeg 0)) := Has.at H3 hin3 (own_gI _ _)
    refine own_via (S' := T2.setTop (mkF m 20 #[.val (.ref a1), .val (.ref a3), .val (.ref ar), .val (.int z), .val (.int p5), .val (.int (own_bef xs p5)), .unset] [(.int (qs.getD (p5).toNatClampNeg 0))])) (fun t kz_ => X2.iaload hx (j := p5) (v := (.int (qs.getD (p5).toNatClampNeg 0))) (by rw [hh2]; exact Ar3.1) (State.isArrayOf_alike hZ.alike Ar3.2.1) Ar3.2.2 hin3 hat3 (g := (mkF m 19 #[.val (.ref a1), .val (.ref a3), .val (.ref ar), .val (.int z), .val (.int p5), .val (.int (own_bef xs p5)), .unset] [(.int p5), (.ref a3)])) rfl rfl (hb hby d2_19) _ kz_) ?_
    refine own_via (S' := T2.setTop (mkF m 22 #[.val (.ref a1), .val (.ref a3), .val (.ref ar), .val (.int z), .val (.int p5), .val (.int (own_bef xs p5)), .unset] [(.int (own_bef xs p5)), (.int (qs.getD (p5).toNatClampNeg 0))])) (fun t k => ?_) ?_
    · show Steps p.tables e below (T2.setTop (mkF m 20 #[.val (.ref a1), .val (.ref a3), .val (.ref ar), .val (.int z), .val (.int p5), .val (.int (own_bef xs p5)), .unset] [(.int (qs.getD (p5).toNatClampNeg 0))])) t
      refine XS.iload X2.here hx rfl (hb hby d2_20) rfl ?_
      exact k
    refine own_via (S' := T2.setTop (mkF m 27 #[.val (.ref a1), .val (.ref a3), .val (.ref ar), .val (.int z), .val (.int p5), .val (.int (own_bef xs p5)), .unset] [])) (fun t k => XS.icmpYes (g := (mkF m 22 #[.val (.ref a1), .val (.ref a3), .val (.ref ar), .val (.int z), .val (.int p5), .val (.int (own_bef xs p5)), .unset] [(.int (own_bef xs p5)), (.int (qs.getD (p5).toNatClampNeg 0))])) X2.here hx rfl (pc0 := 22) (pc' := 27) rfl (hb hby d2_22) rfl (teq (hop hc3_1).1).1 (by decide) (by decide) k) ?_
    refine own_via (S' := T2.setTop (mkF m 31 #[.val (.ref a1), .val (.ref a3), .val (.ref ar), .val (.int z), .val (.int p5), .val (.int (own_bef xs p5)), .unset] [(.int p5), (.ref a1), (.ref ar)])) (fun t k => ?_) ?_
    · show Steps p.tables e below (T2.setTop (mkF m 27 #[.val (.ref a1), .val (.ref a3), .val (.ref ar), .val (.int z), .val (.int p5), .val (.int (own_bef xs p5)), .unset] [])) t
      refine XS.aloadN X2.here hx rfl (hb hby d2_27) rfl rfl ?_
      show Steps p.tables e below (T2.setTop (mkF m 28 #[.val (.ref a1), .val (.ref a3), .val (.ref ar), .val (.int z), .val (.int p5), .val (.int (own_bef xs p5)), .unset] [(.ref ar)])) t
      refine XS.aloadN X2.here hx rfl (hb hby d2_28) rfl rfl ?_
      show Steps p.tables e below (T2.setTop (mkF m 29 #[.val (.ref a1), .val (.ref a3), .val (.ref ar), .val (.int z), .val (.int p5), .val (.int (own_bef xs p5)), .unset] [(.ref a1), (.ref ar)])) t
      refine XS.iload X2.here hx rfl (hb hby d2_29) rfl ?_
      exact k
    obtain ⟨⟨cl5, Ar5, q5, S5, Nn5, H5, G5⟩, Le5⟩ := id V1
    have hin5 : ¬ (p5 < 0 ∨ cl5.slots.size ≤ (p5).toNatClampNeg) := inb_of S5 ⟨hi0, hc3_1⟩
    have hat5 : cl5.slots[(p5).toNatClampNeg]? = some (.int (xs.getD (p5).toNatClampNeg 0)) := Has.at H5 hin5 (own_gI _ _)
    refine own_via (S' := T2.setTop (mkF m 32 #[.val (.ref a1), .val (.ref a3), .val (.ref ar), .val (.int z), .val (.int p5), .val (.int (own_bef xs p5)), .unset] [(.int (xs.getD (p5).toNatClampNeg 0)), (.ref ar)])) (fun t kz_ => X2.iaload hx (j := p5) (v := (.int (xs.getD (p5).toNatClampNeg 0))) (by rw [hh2]; exact Ar5.1) (State.isArrayOf_alike hZ.alike Ar5.2.1) Ar5.2.2 hin5 hat5 (g := (mkF m 31 #[.val (.ref a1), .val (.ref a3), .val (.ref ar), .val (.int z), .val (.int p5), .val (.int (own_bef xs p5)), .unset] [(.int p5), (.ref a1), (.ref ar)])) rfl rfl (hb hby d2_31) _ kz_) ?_
    obtain ⟨cl6, Ar6, q6, S6, Nn6, H6, G6⟩ := id VR
    have hin6 : ¬ ((xs.getD (p5).toNatClampNeg 0) < 0 ∨ cl6.slots.size ≤ ((xs.getD (p5).toNatClampNeg 0)).toNatClampNeg) := inb_of S6 (hg hc3_1)
    have hj7 : ((xs.getD (p5).toNatClampNeg 0)).toNatClampNeg < bs.length := by rw [hbl]; exact own_ixn (hg hc3_1)
    have hat6 : cl6.slots[((xs.getD (p5).toNatClampNeg 0)).toNatClampNeg]? = some (.ref (bs.getD ((xs.getD (p5).toNatClampNeg 0)).toNatClampNeg 0)) := Has.at H6 hin6 (own_bref _ _ hj7)
    refine own_via (S' := T2.setTop (mkF m 33 #[.val (.ref a1), .val (.ref a3), .val (.ref ar), .val (.int z), .val (.int p5), .val (.int (own_bef xs p5)), .unset] [(.ref (bs.getD ((xs.getD (p5).toNatClampNeg 0)).toNatClampNeg 0))])) (fun t kz_ => X2.aaload hx (j := (xs.getD (p5).toNatClampNeg 0)) (v := (.ref (bs.getD ((xs.getD (p5).toNatClampNeg 0)).toNatClampNeg 0))) (by rw [hh2]; exact Ar6.1) (State.isArrayOf_alike hZ.alike Ar6.2.1) rfl Ar6.2.2 hin6 hat6 (g := (mkF m 32 #[.val (.ref a1), .val (.ref a3), .val (.ref ar), .val (.int z), .val (.int p5), .val (.int (own_bef xs p5)), .unset] [(.int (xs.getD (p5).toNatClampNeg 0)), (.ref ar)])) rfl rfl (hb hby d2_32) _ kz_) ?_
    obtain ⟨nn8, kr8, Vr8⟩ := (RW).2.2 _ hj7
    refine own_via (S' := T2.setTop (mkF m 37 #[.val (.ref a1), .val (.ref a3), .val (.ref ar), .val (.int z), .val (.int p5), .val (.int (own_bef xs p5)), .val (.ref (bs.getD ((xs.getD (p5).toNatClampNeg 0)).toNatClampNeg 0))] [(.ref (bs.getD ((xs.getD (p5).toNatClampNeg 0)).toNatClampNeg 0))])) (fun t k => ?_) ?_
    · show Steps p.tables e below (T2.setTop (mkF m 33 #[.val (.ref a1), .val (.ref a3), .val (.ref ar), .val (.int z), .val (.int p5), .val (.int (own_bef xs p5)), .unset] [(.ref (bs.getD ((xs.getD (p5).toNatClampNeg 0)).toNatClampNeg 0))])) t
      refine XS.astore X2.here hx rfl (hb hby d2_33) rfl rfl (l' := #[.val (.ref a1), .val (.ref a3), .val (.ref ar), .val (.int z), .val (.int p5), .val (.int (own_bef xs p5)), .val (.ref (bs.getD ((xs.getD (p5).toNatClampNeg 0)).toNatClampNeg 0))]) rfl ?_
      show Steps p.tables e below (T2.setTop (mkF m 35 #[.val (.ref a1), .val (.ref a3), .val (.ref ar), .val (.int z), .val (.int p5), .val (.int (own_bef xs p5)), .val (.ref (bs.getD ((xs.getD (p5).toNatClampNeg 0)).toNatClampNeg 0))] [])) t
      refine XS.aload X2.here hx rfl (hb hby d2_35) rfl rfl ?_
      exact k
    refine own_via (S' := T2.setTop (mkF m 40 #[.val (.ref a1), .val (.ref a3), .val (.ref ar), .val (.int z), .val (.int p5), .val (.int (own_bef xs p5)), .val (.ref (bs.getD ((xs.getD (p5).toNatClampNeg 0)).toNatClampNeg 0))] [])) (fun t k => XS.ifnullNo (g := (mkF m 37 #[.val (.ref a1), .val (.ref a3), .val (.ref ar), .val (.int z), .val (.int p5), .val (.int (own_bef xs p5)), .val (.ref (bs.getD ((xs.getD (p5).toNatClampNeg 0)).toNatClampNeg 0))] [(.ref (bs.getD ((xs.getD (p5).toNatClampNeg 0)).toNatClampNeg 0))])) X2.here hx rfl (hb hby d2_37) rfl k) ?_
    refine own_via (S' := T2.setTop (mkF m 44 #[.val (.ref a1), .val (.ref a3), .val (.ref ar), .val (.int z), .val (.int p5), .val (.int (own_bef xs p5)), .val (.ref (bs.getD ((xs.getD (p5).toNatClampNeg 0)).toNatClampNeg 0))] [(.ref (bs.getD ((xs.getD (p5).toNatClampNeg 0)).toNatClampNeg 0)), (.int (own_bef xs p5))])) (fun t k => ?_) ?_
    · show Steps p.tables e below (T2.setTop (mkF m 40 #[.val (.ref a1), .val (.ref a3), .val (.ref ar), .val (.int z), .val (.int p5), .val (.int (own_bef xs p5)), .val (.ref (bs.getD ((xs.getD (p5).toNatClampNeg 0)).toNatClampNeg 0))] [])) t
      refine XS.iload X2.here hx rfl (hb hby d2_40) rfl ?_
      show Steps p.tables e below (T2.setTop (mkF m 42 #[.val (.ref a1), .val (.ref a3), .val (.ref ar), .val (.int z), .val (.int p5), .val (.int (own_bef xs p5)), .val (.ref (bs.getD ((xs.getD (p5).toNatClampNeg 0)).toNatClampNeg 0))] [(.int (own_bef xs p5))])) t
      refine XS.aload X2.here hx rfl (hb hby d2_42) rfl rfl ?_
      exact k
    obtain ⟨⟨cl10, Ar10, q10, S10, Nn10, H10, G10⟩, Le10⟩ := id Vr8
    refine own_via (S' := T2.setTop (mkF m 45 #[.val (.ref a1), .val (.ref a3), .val (.ref ar), .val (.int z), .val (.int p5), .val (.int (own_bef xs p5)), .val (.ref (bs.getD ((xs.getD (p5).toNatClampNeg 0)).toNatClampNeg 0))] [(.int (Rm.getD ((xs.getD (p5).toNatClampNeg 0)).toNatClampNeg own_d0).1), (.int (own_bef xs p5))])) (fun t kz_ => X2.arraylength hx (by rw [hh2]; exact Ar10.1) (State.isArrayOf_alike hZ.alike Ar10.2.1) (g := (mkF m 44 #[.val (.ref a1), .val (.ref a3), .val (.ref ar), .val (.int z), .val (.int p5), .val (.int (own_bef xs p5)), .val (.ref (bs.getD ((xs.getD (p5).toNatClampNeg 0)).toNatClampNeg 0))] [(.ref (bs.getD ((xs.getD (p5).toNatClampNeg 0)).toNatClampNeg 0)), (.int (own_bef xs p5))])) rfl rfl (hb hby d2_44) _ (by rw [len_of S10 Nn10]; exact kz_)) ?_
    refine own_via (S' := T2.setTop (mkF m 48 #[.val (.ref a1), .val (.ref a3), .val (.ref ar), .val (.int z), .val (.int p5), .val (.int (own_bef xs p5)), .val (.ref (bs.getD ((xs.getD (p5).toNatClampNeg 0)).toNatClampNeg 0))] [])) (fun t k => XS.icmpNo (g := (mkF m 45 #[.val (.ref a1), .val (.ref a3), .val (.ref ar), .val (.int z), .val (.int p5), .val (.int (own_bef xs p5)), .val (.ref (bs.getD ((xs.getD (p5).toNatClampNeg 0)).toNatClampNeg 0))] [(.int (Rm.getD ((xs.getD (p5).toNatClampNeg 0)).toNatClampNeg own_d0).1), (.int (own_bef xs p5))])) X2.here hx rfl (hb hby d2_45) rfl (tlt (hop hc3_1).2.1.2).2.1 k) ?_
    refine own_via (S' := T2.setTop (mkF m 52 #[.val (.ref a1), .val (.ref a3), .val (.ref ar), .val (.int z), .val (.int p5), .val (.int (own_bef xs p5)), .val (.ref (bs.getD ((xs.getD (p5).toNatClampNeg 0)).toNatClampNeg 0))] [(.int (own_bef xs p5)), (.ref (bs.getD ((xs.getD (p5).toNatClampNeg 0)).toNatClampNeg 0))])) (fun t k => ?_) ?_
    · show Steps p.tables e below (T2.setTop (mkF m 48 #[.val (.ref a1), .val (.ref a3), .val (.ref ar), .val (.int z), .val (.int p5), .val (.int (own_bef xs p5)), .val (.ref (bs.getD ((xs.getD (p5).toNatClampNeg 0)).toNatClampNeg 0))] [])) t
      refine XS.aload X2.here hx rfl (hb hby d2_48) rfl rfl ?_
      show Steps p.tables e below (T2.setTop (mkF m 50 #[.val (.ref a1), .val (.ref a3), .val (.ref ar), .val (.int z), .val (.int p5), .val (.int (own_bef xs p5)), .val (.ref (bs.getD ((xs.getD (p5).toNatClampNeg 0)).toNatClampNeg 0))] [(.ref (bs.getD ((xs.getD (p5).toNatClampNeg 0)).toNatClampNeg 0))])) t
      refine XS.iload X2.here hx rfl (hb hby d2_50) rfl ?_
      exact k
    obtain ⟨⟨cl12, Ar12, q12, S12, Nn12, H12, G12⟩, Le12⟩ := id Vr8
    have hin12 : ¬ ((own_bef xs p5) < 0 ∨ cl12.slots.size ≤ ((own_bef xs p5)).toNatClampNeg) := inb_of S12 (hop hc3_1).2.1
    have hat12 : cl12.slots[((own_bef xs p5)).toNatClampNeg]? = some (.int ((Rm.getD ((xs.getD (p5).toNatClampNeg 0)).toNatClampNeg own_d0).2.getD ((own_bef xs p5)).toNatClampNeg 0)) := Has.at H12 hin12 (own_gI _ _)
    refine own_via (S' := T2.setTop (mkF m 53 #[.val (.ref a1), .val (.ref a3), .val (.ref ar), .val (.int z), .val (.int p5), .val (.int (own_bef xs p5)), .val (.ref (bs.getD ((xs.getD (p5).toNatClampNeg 0)).toNatClampNeg 0))] [(.int ((Rm.getD ((xs.getD (p5).toNatClampNeg 0)).toNatClampNeg own_d0).2.getD ((own_bef xs p5)).toNatClampNeg 0))])) (fun t kz_ => X2.iaload hx (j := (own_bef xs p5)) (v := (.int ((Rm.getD ((xs.getD (p5).toNatClampNeg 0)).toNatClampNeg own_d0).2.getD ((own_bef xs p5)).toNatClampNeg 0))) (by rw [hh2]; exact Ar12.1) (State.isArrayOf_alike hZ.alike Ar12.2.1) Ar12.2.2 hin12 hat12 (g := (mkF m 52 #[.val (.ref a1), .val (.ref a3), .val (.ref ar), .val (.int z), .val (.int p5), .val (.int (own_bef xs p5)), .val (.ref (bs.getD ((xs.getD (p5).toNatClampNeg 0)).toNatClampNeg 0))] [(.int (own_bef xs p5)), (.ref (bs.getD ((xs.getD (p5).toNatClampNeg 0)).toNatClampNeg 0))])) rfl rfl (hb hby d2_52) _ kz_) ?_
    refine own_via (S' := T2.setTop (mkF m 55 #[.val (.ref a1), .val (.ref a3), .val (.ref ar), .val (.int z), .val (.int p5), .val (.int (own_bef xs p5)), .val (.ref (bs.getD ((xs.getD (p5).toNatClampNeg 0)).toNatClampNeg 0))] [(.int p5), (.int ((Rm.getD ((xs.getD (p5).toNatClampNeg 0)).toNatClampNeg own_d0).2.getD ((own_bef xs p5)).toNatClampNeg 0))])) (fun t k => ?_) ?_
    · show Steps p.tables e below (T2.setTop (mkF m 53 #[.val (.ref a1), .val (.ref a3), .val (.ref ar), .val (.int z), .val (.int p5), .val (.int (own_bef xs p5)), .val (.ref (bs.getD ((xs.getD (p5).toNatClampNeg 0)).toNatClampNeg 0))] [(.int ((Rm.getD ((xs.getD (p5).toNatClampNeg 0)).toNatClampNeg own_d0).2.getD ((own_bef xs p5)).toNatClampNeg 0))])) t
      refine XS.iload X2.here hx rfl (hb hby d2_53) rfl ?_
      exact k
    refine own_via (S' := T2.setTop (mkF m 58 #[.val (.ref a1), .val (.ref a3), .val (.ref ar), .val (.int z), .val (.int p5), .val (.int (own_bef xs p5)), .val (.ref (bs.getD ((xs.getD (p5).toNatClampNeg 0)).toNatClampNeg 0))] [])) (fun t k => XS.icmpNo (g := (mkF m 55 #[.val (.ref a1), .val (.ref a3), .val (.ref ar), .val (.int z), .val (.int p5), .val (.int (own_bef xs p5)), .val (.ref (bs.getD ((xs.getD (p5).toNatClampNeg 0)).toNatClampNeg 0))] [(.int p5), (.int ((Rm.getD ((xs.getD (p5).toNatClampNeg 0)).toNatClampNeg own_d0).2.getD ((own_bef xs p5)).toNatClampNeg 0))])) X2.here hx rfl (hb hby d2_55) rfl (teq (hop hc3_1).2.2).2 k) ?_
    refine own_via (S' := T2.setTop (mkF m 63 #[.val (.ref a1), .val (.ref a3), .val (.ref ar), .val (.int z), .val (.int p5), .val (.int (own_bef xs p5)), .val (.ref (bs.getD ((xs.getD (p5).toNatClampNeg 0)).toNatClampNeg 0))] [(.int (1 : Int32))])) (fun t k => ?_) ?_
    · show Steps p.tables e below (T2.setTop (mkF m 58 #[.val (.ref a1), .val (.ref a3), .val (.ref ar), .val (.int z), .val (.int p5), .val (.int (own_bef xs p5)), .val (.ref (bs.getD ((xs.getD (p5).toNatClampNeg 0)).toNatClampNeg 0))] [])) t
      refine XS.iconst X2.here hx rfl (hb hby d2_58) ?_
      show Steps p.tables e below (T2.setTop (mkF m 59 #[.val (.ref a1), .val (.ref a3), .val (.ref ar), .val (.int z), .val (.int p5), .val (.int (own_bef xs p5)), .val (.ref (bs.getD ((xs.getD (p5).toNatClampNeg 0)).toNatClampNeg 0))] [(.int (1 : Int32))])) t
      refine XS.goto X2.here hx rfl (pc0 := 59) (pc' := 63) rfl (hb hby d2_59) (by decide) (by decide) ?_
      exact k
    exact own_end (h := h0) X2 (v := some (.int (1 : Int32))) Bd.notSynchronized (fun h => by rw [Bd.returns] at h; cases h) (fun fs hr => retN X2 hx (t := .boolean) Bd.returns (by simp) (hb hby d2_63) hr) hh2 ⟨rfl, N2, rfl⟩ (by decide) (by decide)
  · refine own_via (S' := s₁.setTop (mkF m 6 #[.val (.ref a1), .val (.ref a3), .val (.ref ar), .val (.int z), .val (.int p5), .unset, .unset] [])) (fun t k => XS.icmpNo (g := (mkF m 3 #[.val (.ref a1), .val (.ref a3), .val (.ref ar), .val (.int z), .val (.int p5), .unset, .unset] [(.int z), (.int p5)])) X0.here hx rfl (hb hby d2_3) rfl (flt hc3_1).1 k) ?_
    refine own_via (S' := s₁.setTop (mkF m 7 #[.val (.ref a1), .val (.ref a3), .val (.ref ar), .val (.int z), .val (.int p5), .unset, .unset] [(.int (1 : Int32))])) (fun t k => ?_) ?_
    · show Steps p.tables e below (s₁.setTop (mkF m 6 #[.val (.ref a1), .val (.ref a3), .val (.ref ar), .val (.int z), .val (.int p5), .unset, .unset] [])) t
      refine XS.iconst X0.here hx rfl (hb hby d2_6) ?_
      exact k
    exact own_end (h := h0) X0 (v := some (.int (1 : Int32))) Bd.notSynchronized (fun h => by rw [Bd.returns] at h; cases h) (fun fs hr => retN X0 hx (t := .boolean) Bd.returns (by simp) (hb hby d2_7) hr) e0 ⟨rfl, N0, rfl⟩ (by decide) (by decide)
theorem d3_0 : decode method_7_code 0 = .ok (.iload 4, 2) := by decide +kernel
theorem d3_2 : decode method_7_code 2 = .ok (.iload_n 3, 1) := by decide +kernel
theorem d3_3 : decode method_7_code 3 = .ok (.if_icmp .lt 5, 3) := by decide +kernel
theorem d3_6 : decode method_7_code 6 = .ok (.iconst 1, 1) := by decide +kernel
theorem d3_7 : decode method_7_code 7 = .ok (.ireturn, 1) := by decide +kernel
theorem d3_8 : decode method_7_code 8 = .ok (.aload_n 0, 1) := by decide +kernel
theorem d3_9 : decode method_7_code 9 = .ok (.iload 4, 2) := by decide +kernel
theorem d3_11 : decode method_7_code 11 = .ok (.aaload, 1) := by decide +kernel
theorem d3_12 : decode method_7_code 12 = .ok (.ifnull 22, 3) := by decide +kernel
theorem d3_15 : decode method_7_code 15 = .ok (.aload_n 0, 1) := by decide +kernel
theorem d3_16 : decode method_7_code 16 = .ok (.iload 4, 2) := by decide +kernel
theorem d3_18 : decode method_7_code 18 = .ok (.aaload, 1) := by decide +kernel
theorem d3_19 : decode method_7_code 19 = .ok (.arraylength, 1) := by decide +kernel
theorem d3_20 : decode method_7_code 20 = .ok (.aload_n 1, 1) := by decide +kernel
theorem d3_21 : decode method_7_code 21 = .ok (.iload_n 2, 1) := by decide +kernel
theorem d3_22 : decode method_7_code 22 = .ok (.iload 4, 2) := by decide +kernel
theorem d3_24 : decode method_7_code 24 = .ok (.invokestatic 31, 3) := by decide +kernel
theorem d3_27 : decode method_7_code 27 = .ok (.if_icmp .ne 7, 3) := by decide +kernel
theorem d3_30 : decode method_7_code 30 = .ok (.iconst 1, 1) := by decide +kernel
theorem d3_31 : decode method_7_code 31 = .ok (.goto 4, 3) := by decide +kernel
theorem d3_35 : decode method_7_code 35 = .ok (.ireturn, 1) := by decide +kernel
theorem pn3 : plainName "com/example/fenceline/fenceline/TraceThreadsPinLaw" = true := by first | (simp [plainName, overriddenIn]; done) | decide +kernel
theorem pd_1 : parseMethodDescriptor "([III)I" = some ⟨[(.array .int), .int, .int], some .int⟩ := by decide +kernel
theorem ef3 (m : MethodId) (x0 : Addr) (x1 : Addr) (x2 : Int32) (x3 : Int32) (x4 : Int32) : entryFrame m #[(.ref x0), (.ref x1), (.int x2), (.int x3), (.int x4)] 5 = mkF m 0 #[.val (.ref x0), .val (.ref x1), .val (.int x2), .val (.int x3), .val (.int x4)] [] := by first | (simp [entryFrame, mkF, argsToLocals, Value.category]; done) | rfl
def Q3 (Z : State) (ar : Addr) (a1 : Addr) (z : Int32) (tc : Int32) (p5 : Int32) (kA : ClassId) (kr : ClassId) (xs : List Int32) (bs : List Addr) (Rm : own_Rm) (NN : Nat) (h0 : Heap) (n0 : Nat) (v : Option Value) (h : Heap) (L : List Loc) : Prop := v = some (.int (1 : Int32)) ∧ Fr n0 L ∧ h = h0
set_option maxRecDepth 65536 in
set_option maxHeartbeats 40000000 in
theorem rm3 (l : Launch) (Z : State) (a0 : Array Value) (hw : ∀ d ∈ tables_1, d.before a0 Z = true) (ws : List Jvm.Cond) (ar : Addr) (a1 : Addr) (z : Int32) (tc : Int32) (p5 : Int32) (kA : ClassId) (kr : ClassId) (xs : List Int32) (bs : List Addr) (Rm : own_Rm) (NN : Nat) (h0 : Heap) (n0 : Nat) (Z0 : n0 ≤ h0.size) (V1 : own_Ar Z h0 a1 kA .int z (List.map Value.int xs) (.int (0 : Int32))) (VR : Arv Z h0 ar kr (.array .int) tc (List.map Value.ref bs) .null) (RW : own_Rw Z h0 NN bs Rm) (hbl : bs.length = (tc).toNatClampNeg) (hi0 : ¬ p5 < 0) (hle : p5 < tc → (Rm.getD (p5).toNatClampNeg own_d0).1 = own_cnt xs z p5) :
    MetFree l (⟨"com/example/fenceline/fenceline/TraceThreadsPinLaw", "lenOk", "([[I[IIII)Z"⟩ : MethodName) (head1 (Jvm.Cond.code (⟨"com/example/fenceline/fenceline/TraceThreadsPinLaw", "lenOk", "([[I[IIII)Z"⟩ : MethodName) method_7_code 5 (some .boolean) :: ws) ({ frames := 1, cells := 0, slots := 0, locals := 16 } : Room)) (fun a U => a = #[(.ref ar), (.ref a1), (.int z), (.int tc), (.int p5)] ∧ Z.Warmed39 U.vm ∧ U.heap = h0) (fun _ _ _ _ _ => True) (fun _ U o U' => ∃ v L, o = .returned v ∧ Q3 Z ar a1 z tc p5 kA kr xs bs Rm NN h0 n0 v U'.heap L ∧ FrameEnd U o U' L ({ frames := 1, cells := 0, slots := 0, locals := 16 } : Room).cells ({ frames := 1, cells := 0, slots := 0, locals := 16 } : Room).slots) := by
  refine MetFree.of_bodySF (plainFor_of_name pn3) hisR ?_
  intro p e s m args below meth c s₁ Bd hml0 hP hK
  obtain ⟨rfl, hZ, hh⟩ := hP
  have hx := Bd.exec
  have hby := Bd.bytes
  have hml : c.maxLocals = 5 := hml0
  have hown : s.vm.findClass "com/example/fenceline/fenceline/TraceThreadsPinLaw" = some m.cls := findClass_of_methodNamed Bd.named
  have hnm := (name_of_methodNamed Bd.named Bd.method).1
  have X0 : Stand p l e ({ frames := 1, cells := 0, slots := 0, locals := 16 } : Room) s m #[(.ref ar), (.ref a1), (.int z), (.int tc), (.int p5)] below meth c s₁ [] 0 0 := Stand.of_body Bd
  have e0 : s₁.heap = h0 := by rw [← hh, Bd.state]; rfl
  have N0 := Fr.nil n0
  refine (show own_G p.tables e below (own_P s (Q3 Z ar a1 z tc p5 kA kr xs bs Rm NN h0 n0) 0 0) (s₁.setTop (entryFrame m #[(.ref ar), (.ref a1), (.int z), (.int tc), (.int p5)] 5)) from ?_)
  refine own_via (fun t k => castTop (ef3 m ar a1 z tc p5) k) ?_
  show own_G p.tables e below _ (s₁.setTop (mkF m 0 #[.val (.ref ar), .val (.ref a1), .val (.int z), .val (.int tc), .val (.int p5)] []))
  refine own_via (S' := s₁.setTop (mkF m 3 #[.val (.ref ar), .val (.ref a1), .val (.int z), .val (.int tc), .val (.int p5)] [(.int tc), (.int p5)])) (fun t k => ?_) ?_
  · show Steps p.tables e below (s₁.setTop (mkF m 0 #[.val (.ref ar), .val (.ref a1), .val (.int z), .val (.int tc), .val (.int p5)] [])) t
    refine XS.iload X0.here hx rfl (hb hby d3_0) rfl ?_
    show Steps p.tables e below (s₁.setTop (mkF m 2 #[.val (.ref ar), .val (.ref a1), .val (.int z), .val (.int tc), .val (.int p5)] [(.int p5)])) t
    refine XS.iloadN X0.here hx rfl (hb hby d3_2) rfl ?_
    exact k
  by_cases hc3_1 : p5 < tc
  · refine own_via (S' := s₁.setTop (mkF m 8 #[.val (.ref ar), .val (.ref a1), .val (.int z), .val (.int tc), .val (.int p5)] [])) (fun t k => XS.icmpYes (g := (mkF m 3 #[.val (.ref ar), .val (.ref a1), .val (.int z), .val (.int tc), .val (.int p5)] [(.int tc), (.int p5)])) X0.here hx rfl (pc0 := 3) (pc' := 8) rfl (hb hby d3_3) rfl (tlt hc3_1).1 (by decide) (by decide) k) ?_
    refine own_via (S' := s₁.setTop (mkF m 11 #[.val (.ref ar), .val (.ref a1), .val (.int z), .val (.int tc), .val (.int p5)] [(.int p5), (.ref ar)])) (fun t k => ?_) ?_
    · show Steps p.tables e below (s₁.setTop (mkF m 8 #[.val (.ref ar), .val (.ref a1), .val (.int z), .val (.int tc), .val (.int p5)] [])) t
      refine XS.aloadN X0.here hx rfl (hb hby d3_8) rfl rfl ?_
      show Steps p.tables e below (s₁.setTop (mkF m 9 #[.val (.ref ar), .val (.ref a1), .val (.int z), .val (.int tc), .val (.int p5)] [(.ref ar)])) t
      refine XS.iload X0.here hx rfl (hb hby d3_9) rfl ?_
      exact k
    obtain ⟨cl2, Ar2, q2, S2, Nn2, H2, G2⟩ := id VR
    have hin2 : ¬ (p5 < 0 ∨ cl2.slots.size ≤ (p5).toNatClampNeg) := inb_of S2 ⟨hi0, hc3_1⟩
    have hj3 : (p5).toNatClampNeg < bs.length := by rw [hbl]; exact own_ixn ⟨hi0, hc3_1⟩
    have hat2 : cl2.slots[(p5).toNatClampNeg]? = some (.ref (bs.getD (p5).toNatClampNeg 0)) := Has.at H2 hin2 (own_bref _ _ hj3)
    refine own_via (S' := s₁.setTop (mkF m 12 #[.val (.ref ar), .val (.ref a1), .val (.int z), .val (.int tc), .val (.int p5)] [(.ref (bs.getD (p5).toNatClampNeg 0))])) (fun t kz_ => X0.aaload hx (j := p5) (v := (.ref (bs.getD (p5).toNatClampNeg 0))) (by rw [e0]; exact Ar2.1) (State.isArrayOf_alike hZ.alike Ar2.2.1) rfl Ar2.2.2 hin2 hat2 (g := (mkF m 11 #[.val (.ref ar), .val (.ref a1), .val (.int z), .val (.int tc), .val (.int p5)] [(.int p5), (.ref ar)])) rfl rfl (hb hby d3_11) _ kz_) ?_
    obtain ⟨nn4, kr4, Vr4⟩ := (RW).2.2 _ hj3
    refine own_via (S' := s₁.setTop (mkF m 15 #[.val (.ref ar), .val (.ref a1), .val (.int z), .val (.int tc), .val (.int p5)] [])) (fun t k => XS.ifnullNo (g := (mkF m 12 #[.val (.ref ar), .val (.ref a1), .val (.int z), .val (.int tc), .val (.int p5)] [(.ref (bs.getD (p5).toNatClampNeg 0))])) X0.here hx rfl (hb hby d3_12) rfl k) ?_
    refine own_via (S' := s₁.setTop (mkF m 18 #[.val (.ref ar), .val (.ref a1), .val (.int z), .val (.int tc), .val (.int p5)] [(.int p5), (.ref ar)])) (fun t k => ?_) ?_
    · show Steps p.tables e below (s₁.setTop (mkF m 15 #[.val (.ref ar), .val (.ref a1), .val (.int z), .val (.int tc), .val (.int p5)] [])) t
      refine XS.aloadN X0.here hx rfl (hb hby d3_15) rfl rfl ?_
      show Steps p.tables e below (s₁.setTop (mkF m 16 #[.val (.ref ar), .val (.ref a1), .val (.int z), .val (.int tc), .val (.int p5)] [(.ref ar)])) t
      refine XS.iload X0.here hx rfl (hb hby d3_16) rfl ?_
      exact k
    obtain ⟨cl6, Ar6, q6, S6, Nn6, H6, G6⟩ := id VR
    have hin6 : ¬ (p5 < 0 ∨ cl6.slots.size ≤ (p5).toNatClampNeg) := inb_of S6 ⟨hi0, hc3_1⟩
    have hj7 : (p5).toNatClampNeg < bs.length := by rw [hbl]; exact own_ixn ⟨hi0, hc3_1⟩
    have hat6 : cl6.slots[(p5).toNatClampNeg]? = some (.ref (bs.getD (p5).toNatClampNeg 0)) := Has.at H6 hin6 (own_bref _ _ hj7)
    refine own_via (S' := s₁.setTop (mkF m 19 #[.val (.ref ar), .val (.ref a1), .val (.int z), .val (.int tc), .val (.int p5)] [(.ref (bs.getD (p5).toNatClampNeg 0))])) (fun t kz_ => X0.aaload hx (j := p5) (v := (.ref (bs.getD (p5).toNatClampNeg 0))) (by rw [e0]; exact Ar6.1) (State.isArrayOf_alike hZ.alike Ar6.2.1) rfl Ar6.2.2 hin6 hat6 (g := (mkF m 18 #[.val (.ref ar), .val (.ref a1), .val (.int z), .val (.int tc), .val (.int p5)] [(.int p5), (.ref ar)])) rfl rfl (hb hby d3_18) _ kz_) ?_
    obtain ⟨nn8, kr8, Vr8⟩ := (RW).2.2 _ hj7
    obtain ⟨⟨cl9, Ar9, q9, S9, Nn9, H9, G9⟩, Le9⟩ := id Vr4
    refine own_via (S' := s₁.setTop (mkF m 20 #[.val (.ref ar), .val (.ref a1), .val (.int z), .val (.int tc), .val (.int p5)] [(.int (Rm.getD (p5).toNatClampNeg own_d0).1)])) (fun t kz_ => X0.arraylength hx (by rw [e0]; exact Ar9.1) (State.isArrayOf_alike hZ.alike Ar9.2.1) (g := (mkF m 19 #[.val (.ref ar), .val (.ref a1), .val (.int z), .val (.int tc), .val (.int p5)] [(.ref (bs.getD (p5).toNatClampNeg 0))])) rfl rfl (hb hby d3_19) _ (by rw [len_of S9 Nn9]; exact kz_)) ?_
    refine own_via (S' := s₁.setTop (mkF m 24 #[.val (.ref ar), .val (.ref a1), .val (.int z), .val (.int tc), .val (.int p5)] [(.int p5), (.int z), (.ref a1), (.int (Rm.getD (p5).toNatClampNeg own_d0).1)])) (fun t k => ?_) ?_
    · show Steps p.tables e below (s₁.setTop (mkF m 20 #[.val (.ref ar), .val (.ref a1), .val (.int z), .val (.int tc), .val (.int p5)] [(.int (Rm.getD (p5).toNatClampNeg own_d0).1)])) t
      refine XS.aloadN X0.here hx rfl (hb hby d3_20) rfl rfl ?_
      show Steps p.tables e below (s₁.setTop (mkF m 21 #[.val (.ref ar), .val (.ref a1), .val (.int z), .val (.int tc), .val (.int p5)] [(.ref a1), (.int (Rm.getD (p5).toNatClampNeg own_d0).1)])) t
      refine XS.iloadN X0.here hx rfl (hb hby d3_21) rfl ?_
      show Steps p.tables e below (s₁.setTop (mkF m 22 #[.val (.ref ar), .val (.ref a1), .val (.int z), .val (.int tc), .val (.int p5)] [(.int z), (.ref a1), (.int (Rm.getD (p5).toNatClampNeg own_d0).1)])) t
      refine XS.iload X0.here hx rfl (hb hby d3_22) rfl ?_
      exact k
    obtain ⟨_, _, ⟨T10, L10, k10, n10⟩, -, X10, ⟨Lc10, hQ10, l10, y10, z10⟩, st10⟩ := Jvm.LawKit.callS X0 hx (y := (⟨"com/example/fenceline/fenceline/TraceThreadsPinLaw", "countOf", "([III)I"⟩ : MethodName)) hown (mvT hZ (hw _ (List.mem_of_getElem? (i := 21) rfl))) (mvT hZ (hw _ (List.mem_of_getElem? (i := 22) rfl))) (mvT hZ (hw _ (List.mem_of_getElem? (i := 9) rfl))) (mvT hZ (hw _ (List.mem_of_getElem? (i := 23) rfl))) (by decide) (backOf (W := 1) (rm6 l Z a0 hw [] a1 z p5 kA xs h0 n0 Z0 V1) hZ (hw _ (List.mem_of_getElem? (i := 23) rfl)) (hw _ (List.mem_of_getElem? (i := 9) rfl)) (by decide) (by decide)) (g := (mkF m 24 #[.val (.ref ar), .val (.ref a1), .val (.int z), .val (.int tc), .val (.int p5)] [(.int p5), (.int z), (.ref a1), (.int (Rm.getD (p5).toNatClampNeg own_d0).1)])) rfl (by rw [hml]; rfl) (argsL := [(.ref a1), (.int z), (.int p5)]) (rest := [(.int (Rm.getD (p5).toNatClampNeg own_d0).1)]) (lenOf pd_1 rfl) rfl (by show 2 * 0 + _ ≤ _; exact Nat.le_of_eq rfl) (hb hby d3_24) (fun _ _ => ⟨rfl, e0, (by decide : 0 + 0 ≤ _), (by decide : 0 + 0 ≤ _)⟩)
    dsimp only [Pt.U, Pt.locs, Pt.cells, Pt.slots] at X10 l10 y10 z10 st10 hQ10
    subst l10 y10 z10
    obtain ⟨rfl, Nq10, hh10⟩ := hQ10
    have N10 := Fr.app N0 Nq10
    refine own_via st10 ?_
    show own_G p.tables e below _ (T10.setTop (mkF m 27 #[.val (.ref ar), .val (.ref a1), .val (.int z), .val (.int tc), .val (.int p5)] [(.int (own_cnt xs z p5)), (.int (Rm.getD (p5).toNatClampNeg own_d0).1)]))
    refine own_via (S' := T10.setTop (mkF m 30 #[.val (.ref ar), .val (.ref a1), .val (.int z), .val (.int tc), .val (.int p5)] [])) (fun t k => XS.icmpNo (g := (mkF m 27 #[.val (.ref ar), .val (.ref a1), .val (.int z), .val (.int tc), .val (.int p5)] [(.int (own_cnt xs z p5)), (.int (Rm.getD (p5).toNatClampNeg own_d0).1)])) X10.here hx rfl (hb hby d3_27) rfl (teq (hle hc3_1)).2 k) ?_
    refine own_via (S' := T10.setTop (mkF m 35 #[.val (.ref ar), .val (.ref a1), .val (.int z), .val (.int tc), .val (.int p5)] [(.int (1 : Int32))])) (fun t k => ?_) ?_
    · show Steps p.tables e below (T10.setTop (mkF m 30 #[.val (.ref ar), .val (.ref a1), .val (.int z), .val (.int tc), .val (.int p5)] [])) t
      refine XS.iconst X10.here hx rfl (hb hby d3_30) ?_
      show Steps p.tables e below (T10.setTop (mkF m 31 #[.val (.ref ar), .val (.ref a1), .val (.int z), .val (.int tc), .val (.int p5)] [(.int (1 : Int32))])) t
      refine XS.goto X10.here hx rfl (pc0 := 31) (pc' := 35) rfl (hb hby d3_31) (by decide) (by decide) ?_
      exact k
    exact own_end (h := h0) X10 (v := some (.int (1 : Int32))) Bd.notSynchronized (fun h => by rw [Bd.returns] at h; cases h) (fun fs hr => retN X10 hx (t := .boolean) Bd.returns (by simp) (hb hby d3_35) hr) hh10 ⟨rfl, N10, rfl⟩ (by decide) (by decide)
  · refine own_via (S' := s₁.setTop (mkF m 6 #[.val (.ref ar), .val (.ref a1), .val (.int z), .val (.int tc), .val (.int p5)] [])) (fun t k => XS.icmpNo (g := (mkF m 3 #[.val (.ref ar), .val (.ref a1), .val (.int z), .val (.int tc), .val (.int p5)] [(.int tc), (.int p5)])) X0.here hx rfl (hb hby d3_3) rfl (flt hc3_1).1 k) ?_
    refine own_via (S' := s₁.setTop (mkF m 7 #[.val (.ref ar), .val (.ref a1), .val (.int z), .val (.int tc), .val (.int p5)] [(.int (1 : Int32))])) (fun t k => ?_) ?_
    · show Steps p.tables e below (s₁.setTop (mkF m 6 #[.val (.ref ar), .val (.ref a1), .val (.int z), .val (.int tc), .val (.int p5)] [])) t
      refine XS.iconst X0.here hx rfl (hb hby d3_6) ?_
      exact k
    exact own_end (h := h0) X0 (v := some (.int (1 : Int32))) Bd.notSynchronized (fun h => by rw [Bd.returns] at h; cases h) (fun fs hr => retN X0 hx (t := .boolean) Bd.returns (by simp) (hb hby d3_7) hr) e0 ⟨rfl, N0, rfl⟩ (by decide) (by decide)
theorem own_c26 {n : Nat} (h : n ≤ 4) : 2 + n ≤ 6 := by omega
theorem own_s28 {n : Nat} (h : n ≤ 4) : 8 + 5 * n ≤ 28 := by omega
theorem d1_0 : decode prog_128_method_6_code 0 = .ok (.iload_n 1, 1) := by decide +kernel
theorem d1_1 : decode prog_128_method_6_code 1 = .ok (.newarray .int, 2) := by decide +kernel
theorem d1_3 : decode prog_128_method_6_code 3 = .ok (.astore_n 3, 1) := by decide +kernel
theorem d1_4 : decode prog_128_method_6_code 4 = .ok (.aload_n 0, 1) := by decide +kernel
theorem d1_5 : decode prog_128_method_6_code 5 = .ok (.astore 4, 2) := by decide +kernel
theorem d1_7 : decode prog_128_method_6_code 7 = .ok (.aload 4, 2) := by decide +kernel
theorem d1_9 : decode prog_128_method_6_code 9 = .ok (.arraylength, 1) := by decide +kernel
theorem d1_10 : decode prog_128_method_6_code 10 = .ok (.istore 5, 2) := by decide +kernel
theorem d1_12 : decode prog_128_method_6_code 12 = .ok (.iconst 0, 1) := by decide +kernel
theorem d1_13 : decode prog_128_method_6_code 13 = .ok (.istore 6, 2) := by decide +kernel
theorem d1_15 : decode prog_128_method_6_code 15 = .ok (.iload 6, 2) := by decide +kernel
theorem d1_17 : decode prog_128_method_6_code 17 = .ok (.iload 5, 2) := by decide +kernel
theorem d1_19 : decode prog_128_method_6_code 19 = .ok (.if_icmp .ge 24, 3) := by decide +kernel
theorem d1_22 : decode prog_128_method_6_code 22 = .ok (.aload 4, 2) := by decide +kernel
theorem d1_24 : decode prog_128_method_6_code 24 = .ok (.iload 6, 2) := by decide +kernel
theorem d1_26 : decode prog_128_method_6_code 26 = .ok (.iaload, 1) := by decide +kernel
theorem d1_27 : decode prog_128_method_6_code 27 = .ok (.istore 7, 2) := by decide +kernel
theorem d1_29 : decode prog_128_method_6_code 29 = .ok (.aload_n 3, 1) := by decide +kernel
theorem d1_30 : decode prog_128_method_6_code 30 = .ok (.iload 7, 2) := by decide +kernel
theorem d1_32 : decode prog_128_method_6_code 32 = .ok (.dup2, 1) := by decide +kernel
theorem d1_33 : decode prog_128_method_6_code 33 = .ok (.iaload, 1) := by decide +kernel
theorem d1_34 : decode prog_128_method_6_code 34 = .ok (.iconst 1, 1) := by decide +kernel
theorem d1_35 : decode prog_128_method_6_code 35 = .ok (.iadd, 1) := by decide +kernel
theorem d1_36 : decode prog_128_method_6_code 36 = .ok (.iastore, 1) := by decide +kernel
theorem d1_37 : decode prog_128_method_6_code 37 = .ok (.iinc 6 1, 3) := by decide +kernel
theorem d1_40 : decode prog_128_method_6_code 40 = .ok (.goto (-25), 3) := by decide +kernel
theorem d1_43 : decode prog_128_method_6_code 43 = .ok (.iload_n 1, 1) := by decide +kernel
theorem d1_44 : decode prog_128_method_6_code 44 = .ok (.anewarray 79, 3) := by decide +kernel
theorem d1_47 : decode prog_128_method_6_code 47 = .ok (.astore 4, 2) := by decide +kernel
theorem d1_49 : decode prog_128_method_6_code 49 = .ok (.iconst 0, 1) := by decide +kernel
theorem d1_50 : decode prog_128_method_6_code 50 = .ok (.istore 5, 2) := by decide +kernel
theorem d1_52 : decode prog_128_method_6_code 52 = .ok (.iload 5, 2) := by decide +kernel
theorem d1_54 : decode prog_128_method_6_code 54 = .ok (.iload_n 1, 1) := by decide +kernel
theorem d1_55 : decode prog_128_method_6_code 55 = .ok (.if_icmp .ge 25, 3) := by decide +kernel
theorem d1_58 : decode prog_128_method_6_code 58 = .ok (.aload 4, 2) := by decide +kernel
theorem d1_60 : decode prog_128_method_6_code 60 = .ok (.iload 5, 2) := by decide +kernel
theorem d1_62 : decode prog_128_method_6_code 62 = .ok (.aload_n 3, 1) := by decide +kernel
theorem d1_63 : decode prog_128_method_6_code 63 = .ok (.iload 5, 2) := by decide +kernel
theorem d1_65 : decode prog_128_method_6_code 65 = .ok (.iaload, 1) := by decide +kernel
theorem d1_66 : decode prog_128_method_6_code 66 = .ok (.newarray .int, 2) := by decide +kernel
theorem d1_68 : decode prog_128_method_6_code 68 = .ok (.aastore, 1) := by decide +kernel
theorem d1_69 : decode prog_128_method_6_code 69 = .ok (.aload_n 3, 1) := by decide +kernel
theorem d1_70 : decode prog_128_method_6_code 70 = .ok (.iload 5, 2) := by decide +kernel
theorem d1_72 : decode prog_128_method_6_code 72 = .ok (.iconst 0, 1) := by decide +kernel
theorem d1_73 : decode prog_128_method_6_code 73 = .ok (.iastore, 1) := by decide +kernel
theorem d1_74 : decode prog_128_method_6_code 74 = .ok (.iinc 5 1, 3) := by decide +kernel
theorem d1_77 : decode prog_128_method_6_code 77 = .ok (.goto (-25), 3) := by decide +kernel
theorem d1_80 : decode prog_128_method_6_code 80 = .ok (.iconst 0, 1) := by decide +kernel
theorem d1_81 : decode prog_128_method_6_code 81 = .ok (.istore 5, 2) := by decide +kernel
theorem d1_83 : decode prog_128_method_6_code 83 = .ok (.iload 5, 2) := by decide +kernel
theorem d1_85 : decode prog_128_method_6_code 85 = .ok (.aload_n 0, 1) := by decide +kernel
theorem d1_86 : decode prog_128_method_6_code 86 = .ok (.arraylength, 1) := by decide +kernel
theorem d1_87 : decode prog_128_method_6_code 87 = .ok (.if_icmp .ge 40, 3) := by decide +kernel
theorem d1_90 : decode prog_128_method_6_code 90 = .ok (.aload_n 0, 1) := by decide +kernel
theorem d1_91 : decode prog_128_method_6_code 91 = .ok (.iload 5, 2) := by decide +kernel
theorem d1_93 : decode prog_128_method_6_code 93 = .ok (.iaload, 1) := by decide +kernel
theorem d1_94 : decode prog_128_method_6_code 94 = .ok (.istore 6, 2) := by decide +kernel
theorem d1_96 : decode prog_128_method_6_code 96 = .ok (.aload_n 2, 1) := by decide +kernel
theorem d1_97 : decode prog_128_method_6_code 97 = .ok (.iload 5, 2) := by decide +kernel
theorem d1_99 : decode prog_128_method_6_code 99 = .ok (.aload_n 3, 1) := by decide +kernel
theorem d1_100 : decode prog_128_method_6_code 100 = .ok (.iload 6, 2) := by decide +kernel
theorem d1_102 : decode prog_128_method_6_code 102 = .ok (.iaload, 1) := by decide +kernel
theorem d1_103 : decode prog_128_method_6_code 103 = .ok (.iastore, 1) := by decide +kernel
theorem d1_104 : decode prog_128_method_6_code 104 = .ok (.aload 4, 2) := by decide +kernel
theorem d1_106 : decode prog_128_method_6_code 106 = .ok (.iload 6, 2) := by decide +kernel
theorem d1_108 : decode prog_128_method_6_code 108 = .ok (.aaload, 1) := by decide +kernel
theorem d1_109 : decode prog_128_method_6_code 109 = .ok (.aload_n 3, 1) := by decide +kernel
theorem d1_110 : decode prog_128_method_6_code 110 = .ok (.iload 6, 2) := by decide +kernel
theorem d1_112 : decode prog_128_method_6_code 112 = .ok (.dup2, 1) := by decide +kernel
theorem d1_113 : decode prog_128_method_6_code 113 = .ok (.iaload, 1) := by decide +kernel
theorem d1_114 : decode prog_128_method_6_code 114 = .ok (.dup_x2, 1) := by decide +kernel
theorem d1_115 : decode prog_128_method_6_code 115 = .ok (.iconst 1, 1) := by decide +kernel
theorem d1_116 : decode prog_128_method_6_code 116 = .ok (.iadd, 1) := by decide +kernel
theorem d1_117 : decode prog_128_method_6_code 117 = .ok (.iastore, 1) := by decide +kernel
theorem d1_118 : decode prog_128_method_6_code 118 = .ok (.iload 5, 2) := by decide +kernel
theorem d1_120 : decode prog_128_method_6_code 120 = .ok (.iastore, 1) := by decide +kernel
theorem d1_121 : decode prog_128_method_6_code 121 = .ok (.iinc 5 1, 3) := by decide +kernel
theorem d1_124 : decode prog_128_method_6_code 124 = .ok (.goto (-41), 3) := by decide +kernel
theorem d1_127 : decode prog_128_method_6_code 127 = .ok (.aload 4, 2) := by decide +kernel
theorem d1_129 : decode prog_128_method_6_code 129 = .ok (.areturn, 1) := by decide +kernel
theorem pn1 : plainName "com/example/fenceline/fenceline/Trace" = true := by first | (simp [plainName, overriddenIn]; done) | decide +kernel
theorem ef1 (m : MethodId) (x0 : Addr) (x1 : Int32) (x2 : Addr) : entryFrame m #[(.ref x0), (.int x1), (.ref x2)] 8 = mkF m 0 #[.val (.ref x0), .val (.int x1), .val (.ref x2), .unset, .unset, .unset, .unset, .unset] [] := by first | (simp [entryFrame, mkF, argsToLocals, Value.category]; done) | rfl
def Q1 (Z : State) (a1 : Addr) (tc : Int32) (a3 : Addr) (kA : ClassId) (kC : ClassId) (z : Int32) (xs : List Int32) (ys : List Int32) (h0 : Heap) (n0 : Nat) (v : Option Value) (h : Heap) (L : List Loc) : Prop := ∃ (ar : Addr) (kr : ClassId) (bs : List Addr), v = some (.ref ar) ∧ Fr n0 L ∧ Keep h0 h [a3] ∧ own_Ar Z h a3 kC .int z (List.map Value.int (own_res xs tc z).2.1) (.int (0 : Int32)) ∧ Arv Z h ar kr (.array .int) tc (List.map Value.ref bs) .null ∧ own_Rw Z h (ar + 1) bs (own_res xs tc z).2.2 ∧ bs.length = (tc).toNatClampNeg
set_option maxRecDepth 65536 in
set_option maxHeartbeats 40000000 in
theorem rm1 (l : Launch) (Z : State) (a0 : Array Value) (hw : ∀ d ∈ tables_1, d.before a0 Z = true) (ws : List Jvm.Cond) (a1 : Addr) (tc : Int32) (a3 : Addr) (kA : ClassId) (kC : ClassId) (z : Int32) (xs : List Int32) (ys : List Int32) (h0 : Heap) (n0 : Nat) (Z0 : n0 ≤ h0.size) (V1 : own_Ar Z h0 a1 kA .int z (List.map Value.int xs) (.int (0 : Int32))) (V3 : own_Ar Z h0 a3 kC .int z (List.map Value.int ys) (.int (0 : Int32))) (ne13 : a1 ≠ a3) (g3 : n0 ≤ a3) (htc0 : ¬ tc < 0) (htc4 : (tc).toNatClampNeg ≤ 4) (hgood : ∀ i : Int32, ¬ i < 0 → i < z → ¬ xs.getD (i).toNatClampNeg 0 < 0 ∧ xs.getD (i).toNatClampNeg 0 < tc) (hcap : ∀ t : Int32, ¬ t < 0 → t < tc → ¬ (own_LF xs tc z).getD (t).toNatClampNeg 0 < 0 ∧ ((own_LF xs tc z).getD (t).toNatClampNeg 0).toNatClampNeg ≤ 5) (hok0 : own_ok3 xs (0 : Int32) (z).toNatClampNeg (own_S0 (own_LF xs tc z))) :
    MetFree l (⟨"com/example/fenceline/fenceline/Trace", "threads", "([II[I)[[I"⟩ : MethodName) (head1 (Jvm.Cond.code (⟨"com/example/fenceline/fenceline/Trace", "threads", "([II[I)[[I"⟩ : MethodName) prog_128_method_6_code 8 (some (.array (.array .int))) :: ws) ({ frames := 0, cells := 6, slots := 28, locals := 0 } : Room)) (fun a U => a = #[(.ref a1), (.int tc), (.ref a3)] ∧ Z.Warmed39 U.vm ∧ U.heap = h0) (fun _ _ _ _ _ => True) (fun _ U o U' => ∃ v L, o = .returned v ∧ Q1 Z a1 tc a3 kA kC z xs ys h0 n0 v U'.heap L ∧ FrameEnd U o U' L ({ frames := 0, cells := 6, slots := 28, locals := 0 } : Room).cells ({ frames := 0, cells := 6, slots := 28, locals := 0 } : Room).slots) := by
  refine MetFree.of_bodySF (plainFor_of_name pn1) hisR ?_
  intro p e s m args below meth c s₁ Bd hml0 hP hK
  obtain ⟨rfl, hZ, hh⟩ := hP
  have hx := Bd.exec
  have hby := Bd.bytes
  have hml : c.maxLocals = 8 := hml0
  have hown : s.vm.findClass "com/example/fenceline/fenceline/Trace" = some m.cls := findClass_of_methodNamed Bd.named
  have hnm := (name_of_methodNamed Bd.named Bd.method).1
  have X0 : Stand p l e ({ frames := 0, cells := 6, slots := 28, locals := 0 } : Room) s m #[(.ref a1), (.int tc), (.ref a3)] below meth c s₁ [] 0 0 := Stand.of_body Bd
  have e0 : s₁.heap = h0 := by rw [← hh, Bd.state]; rfl
  have N0 := Fr.nil n0
  refine (show own_G p.tables e below (own_P s (Q1 Z a1 tc a3 kA kC z xs ys h0 n0) 6 28) (s₁.setTop (entryFrame m #[(.ref a1), (.int tc), (.ref a3)] 8)) from ?_)
  refine own_via (fun t k => castTop (ef1 m a1 tc a3) k) ?_
  show own_G p.tables e below _ (s₁.setTop (mkF m 0 #[.val (.ref a1), .val (.int tc), .val (.ref a3), .unset, .unset, .unset, .unset, .unset] []))
  have K0 := Keep.refl h0 [a3]
  have hz := V1.1.choose_spec.2.2.2.1
  have hlen : ys.length = z.toNatClampNeg := by rw [← V3.2]; simp
  refine own_via (S' := s₁.setTop (mkF m 1 #[.val (.ref a1), .val (.int tc), .val (.ref a3), .unset, .unset, .unset, .unset, .unset] [(.int tc)])) (fun t k => ?_) ?_
  · show Steps p.tables e below (s₁.setTop (mkF m 0 #[.val (.ref a1), .val (.int tc), .val (.ref a3), .unset, .unset, .unset, .unset, .unset] [])) t
    refine XS.iloadN X0.here hx rfl (hb hby d1_0) rfl ?_
    exact k
  obtain ⟨T1, h1, k1, X1, e1, E1, A1, st1⟩ := newP X0 hx hZ (hw _ (List.mem_of_getElem? (i := 0) rfl)) e0 (g := (mkF m 1 #[.val (.ref a1), .val (.int tc), .val (.ref a3), .unset, .unset, .unset, .unset, .unset] [(.int tc)])) rfl (hb hby d1_1) rfl htc0 (cap := 4) htc4 (by decide) (by decide) (by decide)
  obtain ⟨b1, g1⟩ : ∃ z, z = h0.size := ⟨_, rfl⟩
  have ne_a1_b1 : a1 ≠ b1 := Nat.ne_of_lt (Nat.lt_of_lt_of_le (V1).lt (Nat.le_of_eq g1.symm))
  have ne_a3_b1 : a3 ≠ b1 := Nat.ne_of_lt (Nat.lt_of_lt_of_le (V3).lt (Nat.le_of_eq g1.symm))
  have g_b1 : n0 ≤ b1 := Nat.le_trans (Nat.le_trans Z0 K0.1) (Nat.le_of_eq g1.symm)
  have sz_b1 : h0.size ≤ b1 := Nat.le_trans K0.1 (Nat.le_of_eq g1.symm)
  rw [← g1] at A1 st1
  have K1 : Keep h0 h1 [a3] := Keep.ext K0 E1
  have V_b1 : own_Ar Z h1 b1 k1 .int tc (List.map Value.int (List.replicate (tc).toNatClampNeg (0 : Int32))) (.int (0 : Int32)) := own_Ar.newI A1 htc0
  refine own_via st1 ?_
  show own_G p.tables e below _ (T1.setTop (mkF m 3 #[.val (.ref a1), .val (.int tc), .val (.ref a3), .unset, .unset, .unset, .unset, .unset] [(.ref b1)]))
  refine own_via (S' := T1.setTop (mkF m 9 #[.val (.ref a1), .val (.int tc), .val (.ref a3), .val (.ref b1), .val (.ref a1), .unset, .unset, .unset] [(.ref a1)])) (fun t k => ?_) ?_
  · show Steps p.tables e below (T1.setTop (mkF m 3 #[.val (.ref a1), .val (.int tc), .val (.ref a3), .unset, .unset, .unset, .unset, .unset] [(.ref b1)])) t
    refine XS.astoreN X1.here hx rfl (hb hby d1_3) rfl rfl (l' := #[.val (.ref a1), .val (.int tc), .val (.ref a3), .val (.ref b1), .unset, .unset, .unset, .unset]) rfl ?_
    show Steps p.tables e below (T1.setTop (mkF m 4 #[.val (.ref a1), .val (.int tc), .val (.ref a3), .val (.ref b1), .unset, .unset, .unset, .unset] [])) t
    refine XS.aloadN X1.here hx rfl (hb hby d1_4) rfl rfl ?_
    show Steps p.tables e below (T1.setTop (mkF m 5 #[.val (.ref a1), .val (.int tc), .val (.ref a3), .val (.ref b1), .unset, .unset, .unset, .unset] [(.ref a1)])) t
    refine XS.astore X1.here hx rfl (hb hby d1_5) rfl rfl (l' := #[.val (.ref a1), .val (.int tc), .val (.ref a3), .val (.ref b1), .val (.ref a1), .unset, .unset, .unset]) rfl ?_
    show Steps p.tables e below (T1.setTop (mkF m 7 #[.val (.ref a1), .val (.int tc), .val (.ref a3), .val (.ref b1), .val (.ref a1), .unset, .unset, .unset] [])) t
    refine XS.aload X1.here hx rfl (hb hby d1_7) rfl rfl ?_
    exact k
  have c2 := (own_Ar.ext V1 E1)
  obtain ⟨⟨cl3, Ar3, q3, S3, Nn3, H3, G3⟩, Le3⟩ := id c2
  refine own_via (S' := T1.setTop (mkF m 10 #[.val (.ref a1), .val (.int tc), .val (.ref a3), .val (.ref b1), .val (.ref a1), .unset, .unset, .unset] [(.int z)])) (fun t kz_ => X1.arraylength hx (by rw [e1]; exact Ar3.1) (State.isArrayOf_alike hZ.alike Ar3.2.1) (g := (mkF m 9 #[.val (.ref a1), .val (.int tc), .val (.ref a3), .val (.ref b1), .val (.ref a1), .unset, .unset, .unset] [(.ref a1)])) rfl rfl (hb hby d1_9) _ (by rw [len_of S3 Nn3]; exact kz_)) ?_
  refine own_via (S' := T1.setTop (mkF m 15 #[.val (.ref a1), .val (.int tc), .val (.ref a3), .val (.ref b1), .val (.ref a1), .val (.int z), .val (.int (0 : Int32)), .unset] [])) (fun t k => ?_) ?_
  · show Steps p.tables e below (T1.setTop (mkF m 10 #[.val (.ref a1), .val (.int tc), .val (.ref a3), .val (.ref b1), .val (.ref a1), .unset, .unset, .unset] [(.int z)])) t
    refine XS.istore X1.here hx rfl (hb hby d1_10) rfl (l' := #[.val (.ref a1), .val (.int tc), .val (.ref a3), .val (.ref b1), .val (.ref a1), .val (.int z), .unset, .unset]) rfl ?_
    show Steps p.tables e below (T1.setTop (mkF m 12 #[.val (.ref a1), .val (.int tc), .val (.ref a3), .val (.ref b1), .val (.ref a1), .val (.int z), .unset, .unset] [])) t
    refine XS.iconst X1.here hx rfl (hb hby d1_12) ?_
    show Steps p.tables e below (T1.setTop (mkF m 13 #[.val (.ref a1), .val (.int tc), .val (.ref a3), .val (.ref b1), .val (.ref a1), .val (.int z), .unset, .unset] [(.int (0 : Int32))])) t
    refine XS.istore X1.here hx rfl (hb hby d1_13) rfl (l' := #[.val (.ref a1), .val (.int tc), .val (.ref a3), .val (.ref b1), .val (.ref a1), .val (.int z), .val (.int (0 : Int32)), .unset]) rfl ?_
    exact k
  have loop1 : ∀ (r : Nat) (T : State) (h : Heap) (locs : List Loc) (i1 : Int32) (ls1 : List Int32) (o : Slot), Fr n0 locs → Stand p l e ({ frames := 0, cells := 6, slots := 28, locals := 0 } : Room) s m #[(.ref a1), (.int tc), (.ref a3)] below meth c T locs 1 4 → T.heap = h → Keep h0 h [a3] → (¬ i1 < 0) → (i1.toNatClampNeg + r = z.toNatClampNeg) → (own_Ar Z h a1 kA .int z (List.map Value.int xs) (.int (0 : Int32))) → (own_Ar Z h a3 kC .int z (List.map Value.int ys) (.int (0 : Int32))) → (own_Ar Z h b1 k1 .int tc (List.map Value.int ls1) (.int (0 : Int32))) → (own_l1 xs i1 r ls1 = (own_LF xs tc z)) → (o = .unset ∨ ∃ w : Int32, o = .val (.int w)) → own_G p.tables e below (own_P s (Q1 Z a1 tc a3 kA kC z xs ys h0 n0) 6 28) (T.setTop (mkF m 15 #[.val (.ref a1), .val (.int tc), .val (.ref a3), .val (.ref b1), .val (.ref a1), .val (.int z), .val (.int i1), o] [])) := by
    intro r
    induction r with
    | zero =>
      intro T h locs i1 ls1 o N X eT K hi1 hr1 V1 V3 VL hl1 ho
      refine own_via (S' := T.setTop (mkF m 19 #[.val (.ref a1), .val (.int tc), .val (.ref a3), .val (.ref b1), .val (.ref a1), .val (.int z), .val (.int i1), o] [(.int z), (.int i1)])) (fun t k => ?_) ?_
      · show Steps p.tables e below (T.setTop (mkF m 15 #[.val (.ref a1), .val (.int tc), .val (.ref a3), .val (.ref b1), .val (.ref a1), .val (.int z), .val (.int i1), o] [])) t
        refine XS.iload X.here hx rfl (hb hby d1_15) rfl ?_
        show Steps p.tables e below (T.setTop (mkF m 17 #[.val (.ref a1), .val (.int tc), .val (.ref a3), .val (.ref b1), .val (.ref a1), .val (.int z), .val (.int i1), o] [(.int i1)])) t
        refine XS.iload X.here hx rfl (hb hby d1_17) rfl ?_
        exact k
      refine own_via (S' := T.setTop (mkF m 43 #[.val (.ref a1), .val (.int tc), .val (.ref a3), .val (.ref b1), .val (.ref a1), .val (.int z), .val (.int i1), o] [])) (fun t k => XS.icmpYes (g := (mkF m 19 #[.val (.ref a1), .val (.int tc), .val (.ref a3), .val (.ref b1), .val (.ref a1), .val (.int z), .val (.int i1), o] [(.int z), (.int i1)])) X.here hx rfl (pc0 := 19) (pc' := 43) rfl (hb hby d1_19) rfl (flt (own_out hi1 hr1)).2.1 (by decide) (by decide) k) ?_
      refine own_via (S' := T.setTop (mkF m 44 #[.val (.ref a1), .val (.int tc), .val (.ref a3), .val (.ref b1), .val (.ref a1), .val (.int z), .val (.int i1), o] [(.int tc)])) (fun t k => ?_) ?_
      · show Steps p.tables e below (T.setTop (mkF m 43 #[.val (.ref a1), .val (.int tc), .val (.ref a3), .val (.ref b1), .val (.ref a1), .val (.int z), .val (.int i1), o] [])) t
        refine XS.iloadN X.here hx rfl (hb hby d1_43) rfl ?_
        exact k
      obtain ⟨T5, h5, k5, X5, e5, E5, A5, -, O5, st5⟩ := newRA X hx hZ hown (C := "[I") (ty := .int) (by decide) (hw _ (List.mem_of_getElem? (i := 5) rfl)) (hw _ (List.mem_of_getElem? (i := 6) rfl)) eT (g := (mkF m 44 #[.val (.ref a1), .val (.int tc), .val (.ref a3), .val (.ref b1), .val (.ref a1), .val (.int z), .val (.int i1), o] [(.int tc)])) rfl (hb hby d1_44) rfl htc0 (cap := 4) htc4 (by decide) (by decide) (by decide) (ad := "[[I") (by decide)
      obtain ⟨b5, g5⟩ : ∃ z, z = h.size := ⟨_, rfl⟩
      have ne_a1_b5 : a1 ≠ b5 := Nat.ne_of_lt (Nat.lt_of_lt_of_le (V1).lt (Nat.le_of_eq g5.symm))
      have ne_a3_b5 : a3 ≠ b5 := Nat.ne_of_lt (Nat.lt_of_lt_of_le (V3).lt (Nat.le_of_eq g5.symm))
      have ne_b1_b5 : b1 ≠ b5 := Nat.ne_of_lt (Nat.lt_of_lt_of_le (VL).lt (Nat.le_of_eq g5.symm))
      have g_b5 : n0 ≤ b5 := Nat.le_trans (Nat.le_trans Z0 K.1) (Nat.le_of_eq g5.symm)
      have sz_b5 : h0.size ≤ b5 := Nat.le_trans K.1 (Nat.le_of_eq g5.symm)
      rw [← g5] at A5 st5
      have lt_a1 : a1 < b5 + 1 := Nat.lt_succ_of_lt (Nat.lt_of_lt_of_le (V1).lt (Nat.le_of_eq g5.symm))
      have lt_a3 : a3 < b5 + 1 := Nat.lt_succ_of_lt (Nat.lt_of_lt_of_le (V3).lt (Nat.le_of_eq g5.symm))
      have lt_b1 : b1 < b5 + 1 := Nat.lt_succ_of_lt (Nat.lt_of_lt_of_le (VL).lt (Nat.le_of_eq g5.symm))
      have K5 : Keep h0 h5 [a3] := Keep.ext K E5
      have V_b5 : Arv Z h5 b5 k5 (.array .int) tc (List.map Value.ref []) .null := Arv.new A5 htc0
      refine own_via st5 ?_
      show own_G p.tables e below _ (T5.setTop (mkF m 47 #[.val (.ref a1), .val (.int tc), .val (.ref a3), .val (.ref b1), .val (.ref a1), .val (.int z), .val (.int i1), o] [(.ref b5)]))
      refine own_via (S' := T5.setTop (mkF m 52 #[.val (.ref a1), .val (.int tc), .val (.ref a3), .val (.ref b1), .val (.ref b5), .val (.int (0 : Int32)), .val (.int i1), o] [])) (fun t k => ?_) ?_
      · show Steps p.tables e below (T5.setTop (mkF m 47 #[.val (.ref a1), .val (.int tc), .val (.ref a3), .val (.ref b1), .val (.ref a1), .val (.int z), .val (.int i1), o] [(.ref b5)])) t
        refine XS.astore X5.here hx rfl (hb hby d1_47) rfl rfl (l' := #[.val (.ref a1), .val (.int tc), .val (.ref a3), .val (.ref b1), .val (.ref b5), .val (.int z), .val (.int i1), o]) rfl ?_
        show Steps p.tables e below (T5.setTop (mkF m 49 #[.val (.ref a1), .val (.int tc), .val (.ref a3), .val (.ref b1), .val (.ref b5), .val (.int z), .val (.int i1), o] [])) t
        refine XS.iconst X5.here hx rfl (hb hby d1_49) ?_
        show Steps p.tables e below (T5.setTop (mkF m 50 #[.val (.ref a1), .val (.int tc), .val (.ref a3), .val (.ref b1), .val (.ref b5), .val (.int z), .val (.int i1), o] [(.int (0 : Int32))])) t
        refine XS.istore X5.here hx rfl (hb hby d1_50) rfl (l' := #[.val (.ref a1), .val (.int tc), .val (.ref a3), .val (.ref b1), .val (.ref b5), .val (.int (0 : Int32)), .val (.int i1), o]) rfl ?_
        exact k
      have c6 := (own_Ar.ext V1 E5)
      have c7 := (own_Ar.ext V3 E5)
      have c8 := (own_Ar.ext VL E5)
      have loop2 : ∀ (r : Nat) (T : State) (h : Heap) (locs : List Loc) (i2 : Int32) (bs : List Addr) (Rm2 : own_Rm) (cells2 : Nat) (slots2 : Nat), Fr n0 locs → Stand p l e ({ frames := 0, cells := 6, slots := 28, locals := 0 } : Room) s m #[(.ref a1), (.int tc), (.ref a3)] below meth c T locs cells2 slots2 → T.heap = h → Keep h0 h [a3] → (¬ i2 < 0) → (i2.toNatClampNeg + r = tc.toNatClampNeg) → (cells2 + r ≤ 6) → (slots2 + 5 * r ≤ 28) → (own_Ar Z h a1 kA .int z (List.map Value.int xs) (.int (0 : Int32))) → (own_Ar Z h a3 kC .int z (List.map Value.int ys) (.int (0 : Int32))) → (own_Ar Z h b1 k1 .int tc (List.map Value.int (own_fl (own_LF xs tc z) (i2).toNatClampNeg 0)) (.int (0 : Int32))) → (Arv Z h b5 k5 (.array .int) tc (List.map Value.ref bs) .null) → (own_Rw Z h (b5 + 1) bs Rm2) → (bs.length = i2.toNatClampNeg) → (Rm2 = ((own_LF xs tc z).map own_mk).take i2.toNatClampNeg) → own_G p.tables e below (own_P s (Q1 Z a1 tc a3 kA kC z xs ys h0 n0) 6 28) (T.setTop (mkF m 52 #[.val (.ref a1), .val (.int tc), .val (.ref a3), .val (.ref b1), .val (.ref b5), .val (.int i2), .val (.int i1), o] [])) := by
        intro r
        induction r with
        | zero =>
          intro T h locs i2 bs Rm2 cells2 slots2 N X eT K hi2 hr2 hcel hslo V1 V3 VL VR RW hbs hRm
          refine own_via (S' := T.setTop (mkF m 55 #[.val (.ref a1), .val (.int tc), .val (.ref a3), .val (.ref b1), .val (.ref b5), .val (.int i2), .val (.int i1), o] [(.int tc), (.int i2)])) (fun t k => ?_) ?_
          · show Steps p.tables e below (T.setTop (mkF m 52 #[.val (.ref a1), .val (.int tc), .val (.ref a3), .val (.ref b1), .val (.ref b5), .val (.int i2), .val (.int i1), o] [])) t
            refine XS.iload X.here hx rfl (hb hby d1_52) rfl ?_
            show Steps p.tables e below (T.setTop (mkF m 54 #[.val (.ref a1), .val (.int tc), .val (.ref a3), .val (.ref b1), .val (.ref b5), .val (.int i2), .val (.int i1), o] [(.int i2)])) t
            refine XS.iloadN X.here hx rfl (hb hby d1_54) rfl ?_
            exact k
          refine own_via (S' := T.setTop (mkF m 80 #[.val (.ref a1), .val (.int tc), .val (.ref a3), .val (.ref b1), .val (.ref b5), .val (.int i2), .val (.int i1), o] [])) (fun t k => XS.icmpYes (g := (mkF m 55 #[.val (.ref a1), .val (.int tc), .val (.ref a3), .val (.ref b1), .val (.ref b5), .val (.int i2), .val (.int i1), o] [(.int tc), (.int i2)])) X.here hx rfl (pc0 := 55) (pc' := 80) rfl (hb hby d1_55) rfl (flt (own_out hi2 hr2)).2.1 (by decide) (by decide) k) ?_
          refine own_via (S' := T.setTop (mkF m 83 #[.val (.ref a1), .val (.int tc), .val (.ref a3), .val (.ref b1), .val (.ref b5), .val (.int (0 : Int32)), .val (.int i1), o] [])) (fun t k => ?_) ?_
          · show Steps p.tables e below (T.setTop (mkF m 80 #[.val (.ref a1), .val (.int tc), .val (.ref a3), .val (.ref b1), .val (.ref b5), .val (.int i2), .val (.int i1), o] [])) t
            refine XS.iconst X.here hx rfl (hb hby d1_80) ?_
            show Steps p.tables e below (T.setTop (mkF m 81 #[.val (.ref a1), .val (.int tc), .val (.ref a3), .val (.ref b1), .val (.ref b5), .val (.int i2), .val (.int i1), o] [(.int (0 : Int32))])) t
            refine XS.istore X.here hx rfl (hb hby d1_81) rfl (l' := #[.val (.ref a1), .val (.int tc), .val (.ref a3), .val (.ref b1), .val (.ref b5), .val (.int (0 : Int32)), .val (.int i1), o]) rfl ?_
            exact k
          have hbl : bs.length = tc.toNatClampNeg := hbs.trans hr2
          have hiL : i2.toNatClampNeg = (own_LF xs tc z).length := by rw [own_LFlen]; exact hr2
          have VLn := VL
          rw [hiL, own_flN] at VLn
          have RWn := RW
          rw [hRm, hiL, List.take_of_length_le (by simp)] at RWn
          have loop3 : ∀ (r : Nat) (T : State) (h : Heap) (locs : List Loc) (i3 : Int32) (w3 : Int32) (ls3 : List Int32) (qs : List Int32) (Rm3 : own_Rm), Fr n0 locs → Stand p l e ({ frames := 0, cells := 6, slots := 28, locals := 0 } : Room) s m #[(.ref a1), (.int tc), (.ref a3)] below meth c T locs cells2 slots2 → T.heap = h → Keep h0 h [a3] → (¬ i3 < 0) → (i3.toNatClampNeg + r = z.toNatClampNeg) → (own_Ar Z h a1 kA .int z (List.map Value.int xs) (.int (0 : Int32))) → (own_Ar Z h a3 kC .int z (List.map Value.int (qs ++ List.drop (i3).toNatClampNeg ys)) (.int (0 : Int32))) → (own_Ar Z h b1 k1 .int tc (List.map Value.int ls3) (.int (0 : Int32))) → (Arv Z h b5 k5 (.array .int) tc (List.map Value.ref bs) .null) → (own_Rw Z h (b5 + 1) bs Rm3) → (qs.length = i3.toNatClampNeg) → (own_ok3 xs i3 r (ls3, qs, Rm3)) → (own_l3 xs i3 r (ls3, qs, Rm3) = own_res xs tc z) → own_G p.tables e below (own_P s (Q1 Z a1 tc a3 kA kC z xs ys h0 n0) 6 28) (T.setTop (mkF m 83 #[.val (.ref a1), .val (.int tc), .val (.ref a3), .val (.ref b1), .val (.ref b5), .val (.int i3), .val (.int w3), o] [])) := by
            intro r
            induction r with
            | zero =>
              intro T h locs i3 w3 ls3 qs Rm3 N X eT K hi3 hr3 V1 V3 VL VR RW hqs hok hres
              refine own_via (S' := T.setTop (mkF m 86 #[.val (.ref a1), .val (.int tc), .val (.ref a3), .val (.ref b1), .val (.ref b5), .val (.int i3), .val (.int w3), o] [(.ref a1), (.int i3)])) (fun t k => ?_) ?_
              · show Steps p.tables e below (T.setTop (mkF m 83 #[.val (.ref a1), .val (.int tc), .val (.ref a3), .val (.ref b1), .val (.ref b5), .val (.int i3), .val (.int w3), o] [])) t
                refine XS.iload X.here hx rfl (hb hby d1_83) rfl ?_
                show Steps p.tables e below (T.setTop (mkF m 85 #[.val (.ref a1), .val (.int tc), .val (.ref a3), .val (.ref b1), .val (.ref b5), .val (.int i3), .val (.int w3), o] [(.int i3)])) t
                refine XS.aloadN X.here hx rfl (hb hby d1_85) rfl rfl ?_
                exact k
              obtain ⟨⟨cl10, Ar10, q10, S10, Nn10, H10, G10⟩, Le10⟩ := id V1
              refine own_via (S' := T.setTop (mkF m 87 #[.val (.ref a1), .val (.int tc), .val (.ref a3), .val (.ref b1), .val (.ref b5), .val (.int i3), .val (.int w3), o] [(.int z), (.int i3)])) (fun t kz_ => X.arraylength hx (by rw [eT]; exact Ar10.1) (State.isArrayOf_alike hZ.alike Ar10.2.1) (g := (mkF m 86 #[.val (.ref a1), .val (.int tc), .val (.ref a3), .val (.ref b1), .val (.ref b5), .val (.int i3), .val (.int w3), o] [(.ref a1), (.int i3)])) rfl rfl (hb hby d1_86) _ (by rw [len_of S10 Nn10]; exact kz_)) ?_
              refine own_via (S' := T.setTop (mkF m 127 #[.val (.ref a1), .val (.int tc), .val (.ref a3), .val (.ref b1), .val (.ref b5), .val (.int i3), .val (.int w3), o] [])) (fun t k => XS.icmpYes (g := (mkF m 87 #[.val (.ref a1), .val (.int tc), .val (.ref a3), .val (.ref b1), .val (.ref b5), .val (.int i3), .val (.int w3), o] [(.int z), (.int i3)])) X.here hx rfl (pc0 := 87) (pc' := 127) rfl (hb hby d1_87) rfl (flt (own_out hi3 hr3)).2.1 (by decide) (by decide) k) ?_
              refine own_via (S' := T.setTop (mkF m 129 #[.val (.ref a1), .val (.int tc), .val (.ref a3), .val (.ref b1), .val (.ref b5), .val (.int i3), .val (.int w3), o] [(.ref b5)])) (fun t k => ?_) ?_
              · show Steps p.tables e below (T.setTop (mkF m 127 #[.val (.ref a1), .val (.int tc), .val (.ref a3), .val (.ref b1), .val (.ref b5), .val (.int i3), .val (.int w3), o] [])) t
                refine XS.aload X.here hx rfl (hb hby d1_127) rfl rfl ?_
                exact k
              have hR : (ls3, qs, Rm3) = own_res xs tc z := hres
              have VP := V3
              rw [show i3.toNatClampNeg = ys.length from by rw [hlen]; exact hr3, List.drop_length, List.append_nil, show qs = (own_res xs tc z).2.1 from by rw [← hR]] at VP
              have RWP := RW
              rw [show Rm3 = (own_res xs tc z).2.2 from by rw [← hR]] at RWP
              exact own_end (h := h) X (v := some (.ref b5)) Bd.notSynchronized (fun h => by rw [Bd.returns] at h; cases h) (fun fs hr => retOut X hx Bd.returns rfl (Or.inr (Or.inr (Or.inr (Or.inr ⟨rfl, rfl, rfl⟩)))) (hb hby d1_129) hr) eT ⟨_, _, _, rfl, N, K, VP, VR, RWP, hbl⟩ (Nat.le_trans (Nat.le_add_right _ _) hcel) (Nat.le_trans (Nat.le_add_right _ _) hslo)
            | succ r ih =>
              intro T h locs i3 w3 ls3 qs Rm3 N X eT K hi3 hr3 V1 V3 VL VR RW hqs hok hres
              refine own_via (S' := T.setTop (mkF m 86 #[.val (.ref a1), .val (.int tc), .val (.ref a3), .val (.ref b1), .val (.ref b5), .val (.int i3), .val (.int w3), o] [(.ref a1), (.int i3)])) (fun t k => ?_) ?_
              · show Steps p.tables e below (T.setTop (mkF m 83 #[.val (.ref a1), .val (.int tc), .val (.ref a3), .val (.ref b1), .val (.ref b5), .val (.int i3), .val (.int w3), o] [])) t
                refine XS.iload X.here hx rfl (hb hby d1_83) rfl ?_
                show Steps p.tables e below (T.setTop (mkF m 85 #[.val (.ref a1), .val (.int tc), .val (.ref a3), .val (.ref b1), .val (.ref b5), .val (.int i3), .val (.int w3), o] [(.int i3)])) t
                refine XS.aloadN X.here hx rfl (hb hby d1_85) rfl rfl ?_
                exact k
              obtain ⟨⟨cl12, Ar12, q12, S12, Nn12, H12, G12⟩, Le12⟩ := id V1
              refine own_via (S' := T.setTop (mkF m 87 #[.val (.ref a1), .val (.int tc), .val (.ref a3), .val (.ref b1), .val (.ref b5), .val (.int i3), .val (.int w3), o] [(.int z), (.int i3)])) (fun t kz_ => X.arraylength hx (by rw [eT]; exact Ar12.1) (State.isArrayOf_alike hZ.alike Ar12.2.1) (g := (mkF m 86 #[.val (.ref a1), .val (.int tc), .val (.ref a3), .val (.ref b1), .val (.ref b5), .val (.int i3), .val (.int w3), o] [(.ref a1), (.int i3)])) rfl rfl (hb hby d1_86) _ (by rw [len_of S12 Nn12]; exact kz_)) ?_
              refine own_via (S' := T.setTop (mkF m 90 #[.val (.ref a1), .val (.int tc), .val (.ref a3), .val (.ref b1), .val (.ref b5), .val (.int i3), .val (.int w3), o] [])) (fun t k => XS.icmpNo (g := (mkF m 87 #[.val (.ref a1), .val (.int tc), .val (.ref a3), .val (.ref b1), .val (.ref b5), .val (.int i3), .val (.int w3), o] [(.int z), (.int i3)])) X.here hx rfl (hb hby d1_87) rfl (tlt (own_up hi3 hz hr3).1).2.1 k) ?_
              refine own_via (S' := T.setTop (mkF m 93 #[.val (.ref a1), .val (.int tc), .val (.ref a3), .val (.ref b1), .val (.ref b5), .val (.int i3), .val (.int w3), o] [(.int i3), (.ref a1)])) (fun t k => ?_) ?_
              · show Steps p.tables e below (T.setTop (mkF m 90 #[.val (.ref a1), .val (.int tc), .val (.ref a3), .val (.ref b1), .val (.ref b5), .val (.int i3), .val (.int w3), o] [])) t
                refine XS.aloadN X.here hx rfl (hb hby d1_90) rfl rfl ?_
                show Steps p.tables e below (T.setTop (mkF m 91 #[.val (.ref a1), .val (.int tc), .val (.ref a3), .val (.ref b1), .val (.ref b5), .val (.int i3), .val (.int w3), o] [(.ref a1)])) t
                refine XS.iload X.here hx rfl (hb hby d1_91) rfl ?_
                exact k
              obtain ⟨⟨cl14, Ar14, q14, S14, Nn14, H14, G14⟩, Le14⟩ := id V1
              have hin14 : ¬ (i3 < 0 ∨ cl14.slots.size ≤ (i3).toNatClampNeg) := inb_of S14 ⟨hi3, (own_up hi3 hz hr3).1⟩
              have hat14 : cl14.slots[(i3).toNatClampNeg]? = some (.int (xs.getD (i3).toNatClampNeg 0)) := Has.at H14 hin14 (own_gI _ _)
              refine own_via (S' := T.setTop (mkF m 94 #[.val (.ref a1), .val (.int tc), .val (.ref a3), .val (.ref b1), .val (.ref b5), .val (.int i3), .val (.int w3), o] [(.int (xs.getD (i3).toNatClampNeg 0))])) (fun t kz_ => X.iaload hx (j := i3) (v := (.int (xs.getD (i3).toNatClampNeg 0))) (by rw [eT]; exact Ar14.1) (State.isArrayOf_alike hZ.alike Ar14.2.1) Ar14.2.2 hin14 hat14 (g := (mkF m 93 #[.val (.ref a1), .val (.int tc), .val (.ref a3), .val (.ref b1), .val (.ref b5), .val (.int i3), .val (.int w3), o] [(.int i3), (.ref a1)])) rfl rfl (hb hby d1_93) _ kz_) ?_
              refine own_via (S' := T.setTop (mkF m 102 #[.val (.ref a1), .val (.int tc), .val (.ref a3), .val (.ref b1), .val (.ref b5), .val (.int i3), .val (.int (xs.getD (i3).toNatClampNeg 0)), o] [(.int (xs.getD (i3).toNatClampNeg 0)), (.ref b1), (.int i3), (.ref a3)])) (fun t k => ?_) ?_
              · show Steps p.tables e below (T.setTop (mkF m 94 #[.val (.ref a1), .val (.int tc), .val (.ref a3), .val (.ref b1), .val (.ref b5), .val (.int i3), .val (.int w3), o] [(.int (xs.getD (i3).toNatClampNeg 0))])) t
                refine XS.istore X.here hx rfl (hb hby d1_94) rfl (l' := #[.val (.ref a1), .val (.int tc), .val (.ref a3), .val (.ref b1), .val (.ref b5), .val (.int i3), .val (.int (xs.getD (i3).toNatClampNeg 0)), o]) rfl ?_
                show Steps p.tables e below (T.setTop (mkF m 96 #[.val (.ref a1), .val (.int tc), .val (.ref a3), .val (.ref b1), .val (.ref b5), .val (.int i3), .val (.int (xs.getD (i3).toNatClampNeg 0)), o] [])) t
                refine XS.aloadN X.here hx rfl (hb hby d1_96) rfl rfl ?_
                show Steps p.tables e below (T.setTop (mkF m 97 #[.val (.ref a1), .val (.int tc), .val (.ref a3), .val (.ref b1), .val (.ref b5), .val (.int i3), .val (.int (xs.getD (i3).toNatClampNeg 0)), o] [(.ref a3)])) t
                refine XS.iload X.here hx rfl (hb hby d1_97) rfl ?_
                show Steps p.tables e below (T.setTop (mkF m 99 #[.val (.ref a1), .val (.int tc), .val (.ref a3), .val (.ref b1), .val (.ref b5), .val (.int i3), .val (.int (xs.getD (i3).toNatClampNeg 0)), o] [(.int i3), (.ref a3)])) t
                refine XS.aloadN X.here hx rfl (hb hby d1_99) rfl rfl ?_
                show Steps p.tables e below (T.setTop (mkF m 100 #[.val (.ref a1), .val (.int tc), .val (.ref a3), .val (.ref b1), .val (.ref b5), .val (.int i3), .val (.int (xs.getD (i3).toNatClampNeg 0)), o] [(.ref b1), (.int i3), (.ref a3)])) t
                refine XS.iload X.here hx rfl (hb hby d1_100) rfl ?_
                exact k
              obtain ⟨⟨cl15, Ar15, q15, S15, Nn15, H15, G15⟩, Le15⟩ := id VL
              have hin15 : ¬ ((xs.getD (i3).toNatClampNeg 0) < 0 ∨ cl15.slots.size ≤ ((xs.getD (i3).toNatClampNeg 0)).toNatClampNeg) := inb_of S15 (hgood _ hi3 (own_up hi3 hz hr3).1)
              have hat15 : cl15.slots[((xs.getD (i3).toNatClampNeg 0)).toNatClampNeg]? = some (.int (ls3.getD ((xs.getD (i3).toNatClampNeg 0)).toNatClampNeg 0)) := Has.at H15 hin15 (own_gI _ _)
              refine own_via (S' := T.setTop (mkF m 103 #[.val (.ref a1), .val (.int tc), .val (.ref a3), .val (.ref b1), .val (.ref b5), .val (.int i3), .val (.int (xs.getD (i3).toNatClampNeg 0)), o] [(.int (ls3.getD ((xs.getD (i3).toNatClampNeg 0)).toNatClampNeg 0)), (.int i3), (.ref a3)])) (fun t kz_ => X.iaload hx (j := (xs.getD (i3).toNatClampNeg 0)) (v := (.int (ls3.getD ((xs.getD (i3).toNatClampNeg 0)).toNatClampNeg 0))) (by rw [eT]; exact Ar15.1) (State.isArrayOf_alike hZ.alike Ar15.2.1) Ar15.2.2 hin15 hat15 (g := (mkF m 102 #[.val (.ref a1), .val (.int tc), .val (.ref a3), .val (.ref b1), .val (.ref b5), .val (.int i3), .val (.int (xs.getD (i3).toNatClampNeg 0)), o] [(.int (xs.getD (i3).toNatClampNeg 0)), (.ref b1), (.int i3), (.ref a3)])) rfl rfl (hb hby d1_102) _ kz_) ?_
              obtain ⟨⟨cl16, Ar16, q16, S16, Nn16, H16, G16⟩, Le16⟩ := id V3
              have hin16 : ¬ (i3 < 0 ∨ cl16.slots.size ≤ (i3).toNatClampNeg) := inb_of S16 ⟨hi3, (own_up hi3 hz hr3).1⟩
              obtain ⟨T16, h16, X16, e16, W16, st16⟩ := stI X hx hZ eT Ar16 (j := i3) hin16 (g := (mkF m 103 #[.val (.ref a1), .val (.int tc), .val (.ref a3), .val (.ref b1), .val (.ref b5), .val (.int i3), .val (.int (xs.getD (i3).toNatClampNeg 0)), o] [(.int (ls3.getD ((xs.getD (i3).toNatClampNeg 0)).toNatClampNeg 0)), (.int i3), (.ref a3)])) rfl rfl (hb hby d1_103)
              have V16 : own_Ar Z h16 a3 kC .int z (List.map Value.int ((qs ++ List.drop (i3).toNatClampNeg ys).set (i3).toNatClampNeg (ls3.getD ((xs.getD (i3).toNatClampNeg 0)).toNatClampNeg 0))) (.int (0 : Int32)) := own_Ar.setI Ar16 q16 S16 Nn16 H16 G16 rfl W16 hin16 Le16
              have K17 : Keep h0 h16 [a3] := Keep.wr K W16 (Or.inl (List.mem_of_getElem? (i := 0) rfl))
              have N17 := Fr.snoc X16 N g3
              refine own_via st16 ?_
              show own_G p.tables e below _ (T16.setTop (mkF m 104 #[.val (.ref a1), .val (.int tc), .val (.ref a3), .val (.ref b1), .val (.ref b5), .val (.int i3), .val (.int (xs.getD (i3).toNatClampNeg 0)), o] []))
              refine own_via (S' := T16.setTop (mkF m 108 #[.val (.ref a1), .val (.int tc), .val (.ref a3), .val (.ref b1), .val (.ref b5), .val (.int i3), .val (.int (xs.getD (i3).toNatClampNeg 0)), o] [(.int (xs.getD (i3).toNatClampNeg 0)), (.ref b5)])) (fun t k => ?_) ?_
              · show Steps p.tables e below (T16.setTop (mkF m 104 #[.val (.ref a1), .val (.int tc), .val (.ref a3), .val (.ref b1), .val (.ref b5), .val (.int i3), .val (.int (xs.getD (i3).toNatClampNeg 0)), o] [])) t
                refine XS.aload X16.here hx rfl (hb hby d1_104) rfl rfl ?_
                show Steps p.tables e below (T16.setTop (mkF m 106 #[.val (.ref a1), .val (.int tc), .val (.ref a3), .val (.ref b1), .val (.ref b5), .val (.int i3), .val (.int (xs.getD (i3).toNatClampNeg 0)), o] [(.ref b5)])) t
                refine XS.iload X16.here hx rfl (hb hby d1_106) rfl ?_
                exact k
              have c18 := (Arv.other VR W16 (Ne.symm ne_a3_b5))
              obtain ⟨cl19, Ar19, q19, S19, Nn19, H19, G19⟩ := id c18
              have hin19 : ¬ ((xs.getD (i3).toNatClampNeg 0) < 0 ∨ cl19.slots.size ≤ ((xs.getD (i3).toNatClampNeg 0)).toNatClampNeg) := inb_of S19 (hgood _ hi3 (own_up hi3 hz hr3).1)
              have hj20 : ((xs.getD (i3).toNatClampNeg 0)).toNatClampNeg < bs.length := by rw [hbl]; exact own_ixn (hgood _ hi3 (own_up hi3 hz hr3).1)
              have hat19 : cl19.slots[((xs.getD (i3).toNatClampNeg 0)).toNatClampNeg]? = some (.ref (bs.getD ((xs.getD (i3).toNatClampNeg 0)).toNatClampNeg 0)) := Has.at H19 hin19 (own_bref _ _ hj20)
              refine own_via (S' := T16.setTop (mkF m 109 #[.val (.ref a1), .val (.int tc), .val (.ref a3), .val (.ref b1), .val (.ref b5), .val (.int i3), .val (.int (xs.getD (i3).toNatClampNeg 0)), o] [(.ref (bs.getD ((xs.getD (i3).toNatClampNeg 0)).toNatClampNeg 0))])) (fun t kz_ => X16.aaload hx (j := (xs.getD (i3).toNatClampNeg 0)) (v := (.ref (bs.getD ((xs.getD (i3).toNatClampNeg 0)).toNatClampNeg 0))) (by rw [e16]; exact Ar19.1) (State.isArrayOf_alike hZ.alike Ar19.2.1) rfl Ar19.2.2 hin19 hat19 (g := (mkF m 108 #[.val (.ref a1), .val (.int tc), .val (.ref a3), .val (.ref b1), .val (.ref b5), .val (.int i3), .val (.int (xs.getD (i3).toNatClampNeg 0)), o] [(.int (xs.getD (i3).toNatClampNeg 0)), (.ref b5)])) rfl rfl (hb hby d1_108) _ kz_) ?_
              have c21 := (own_Rw.other RW W16 lt_a3)
              obtain ⟨nn22, kr22, Vr22⟩ := (c21).2.2 _ hj20
              have nr_a1 : (bs.getD ((xs.getD (i3).toNatClampNeg 0)).toNatClampNeg 0) ≠ a1 := Nat.ne_of_gt (Nat.lt_of_lt_of_le lt_a1 nn22)
              have nr_a3 : (bs.getD ((xs.getD (i3).toNatClampNeg 0)).toNatClampNeg 0) ≠ a3 := Nat.ne_of_gt (Nat.lt_of_lt_of_le lt_a3 nn22)
              have nr_b1 : (bs.getD ((xs.getD (i3).toNatClampNeg 0)).toNatClampNeg 0) ≠ b1 := Nat.ne_of_gt (Nat.lt_of_lt_of_le lt_b1 nn22)
              have nr_b5 : (bs.getD ((xs.getD (i3).toNatClampNeg 0)).toNatClampNeg 0) ≠ b5 := Nat.ne_of_gt (Nat.lt_of_lt_of_le (Nat.lt_succ_self b5) nn22)
              have gr : n0 ≤ (bs.getD ((xs.getD (i3).toNatClampNeg 0)).toNatClampNeg 0) := Nat.le_trans g_b5 (Nat.le_trans (Nat.le_succ _) nn22)
              have szr : h0.size ≤ (bs.getD ((xs.getD (i3).toNatClampNeg 0)).toNatClampNeg 0) := Nat.le_trans sz_b5 (Nat.le_trans (Nat.le_succ _) nn22)
              refine own_via (S' := T16.setTop (mkF m 113 #[.val (.ref a1), .val (.int tc), .val (.ref a3), .val (.ref b1), .val (.ref b5), .val (.int i3), .val (.int (xs.getD (i3).toNatClampNeg 0)), o] [(.int (xs.getD (i3).toNatClampNeg 0)), (.ref b1), (.int (xs.getD (i3).toNatClampNeg 0)), (.ref b1), (.ref (bs.getD ((xs.getD (i3).toNatClampNeg 0)).toNatClampNeg 0))])) (fun t k => ?_) ?_
              · show Steps p.tables e below (T16.setTop (mkF m 109 #[.val (.ref a1), .val (.int tc), .val (.ref a3), .val (.ref b1), .val (.ref b5), .val (.int i3), .val (.int (xs.getD (i3).toNatClampNeg 0)), o] [(.ref (bs.getD ((xs.getD (i3).toNatClampNeg 0)).toNatClampNeg 0))])) t
                refine XS.aloadN X16.here hx rfl (hb hby d1_109) rfl rfl ?_
                show Steps p.tables e below (T16.setTop (mkF m 110 #[.val (.ref a1), .val (.int tc), .val (.ref a3), .val (.ref b1), .val (.ref b5), .val (.int i3), .val (.int (xs.getD (i3).toNatClampNeg 0)), o] [(.ref b1), (.ref (bs.getD ((xs.getD (i3).toNatClampNeg 0)).toNatClampNeg 0))])) t
                refine XS.iload X16.here hx rfl (hb hby d1_110) rfl ?_
                show Steps p.tables e below (T16.setTop (mkF m 112 #[.val (.ref a1), .val (.int tc), .val (.ref a3), .val (.ref b1), .val (.ref b5), .val (.int i3), .val (.int (xs.getD (i3).toNatClampNeg 0)), o] [(.int (xs.getD (i3).toNatClampNeg 0)), (.ref b1), (.ref (bs.getD ((xs.getD (i3).toNatClampNeg 0)).toNatClampNeg 0))])) t
                refine Jvm.Free.XT.dup2 X16.here hx rfl (hb hby d1_112) rfl rfl rfl ?_
                exact k
              have c23 := (own_Ar.other VL W16 (Ne.symm ne_a3_b1))
              obtain ⟨⟨cl24, Ar24, q24, S24, Nn24, H24, G24⟩, Le24⟩ := id c23
              have hin24 : ¬ ((xs.getD (i3).toNatClampNeg 0) < 0 ∨ cl24.slots.size ≤ ((xs.getD (i3).toNatClampNeg 0)).toNatClampNeg) := inb_of S24 (hgood _ hi3 (own_up hi3 hz hr3).1)
              have hat24 : cl24.slots[((xs.getD (i3).toNatClampNeg 0)).toNatClampNeg]? = some (.int (ls3.getD ((xs.getD (i3).toNatClampNeg 0)).toNatClampNeg 0)) := Has.at H24 hin24 (own_gI _ _)
              refine own_via (S' := T16.setTop (mkF m 114 #[.val (.ref a1), .val (.int tc), .val (.ref a3), .val (.ref b1), .val (.ref b5), .val (.int i3), .val (.int (xs.getD (i3).toNatClampNeg 0)), o] [(.int (ls3.getD ((xs.getD (i3).toNatClampNeg 0)).toNatClampNeg 0)), (.int (xs.getD (i3).toNatClampNeg 0)), (.ref b1), (.ref (bs.getD ((xs.getD (i3).toNatClampNeg 0)).toNatClampNeg 0))])) (fun t kz_ => X16.iaload hx (j := (xs.getD (i3).toNatClampNeg 0)) (v := (.int (ls3.getD ((xs.getD (i3).toNatClampNeg 0)).toNatClampNeg 0))) (by rw [e16]; exact Ar24.1) (State.isArrayOf_alike hZ.alike Ar24.2.1) Ar24.2.2 hin24 hat24 (g := (mkF m 113 #[.val (.ref a1), .val (.int tc), .val (.ref a3), .val (.ref b1), .val (.ref b5), .val (.int i3), .val (.int (xs.getD (i3).toNatClampNeg 0)), o] [(.int (xs.getD (i3).toNatClampNeg 0)), (.ref b1), (.int (xs.getD (i3).toNatClampNeg 0)), (.ref b1), (.ref (bs.getD ((xs.getD (i3).toNatClampNeg 0)).toNatClampNeg 0))])) rfl rfl (hb hby d1_113) _ kz_) ?_
              refine own_via (S' := T16.setTop (mkF m 115 #[.val (.ref a1), .val (.int tc), .val (.ref a3), .val (.ref b1), .val (.ref b5), .val (.int i3), .val (.int (xs.getD (i3).toNatClampNeg 0)), o] [(.int (ls3.getD ((xs.getD (i3).toNatClampNeg 0)).toNatClampNeg 0)), (.int (xs.getD (i3).toNatClampNeg 0)), (.ref b1), (.int (ls3.getD ((xs.getD (i3).toNatClampNeg 0)).toNatClampNeg 0)), (.ref (bs.getD ((xs.getD (i3).toNatClampNeg 0)).toNatClampNeg 0))])) (fun t kz_ => own_dupX2 (g := (mkF m 114 #[.val (.ref a1), .val (.int tc), .val (.ref a3), .val (.ref b1), .val (.ref b5), .val (.int i3), .val (.int (xs.getD (i3).toNatClampNeg 0)), o] [(.int (ls3.getD ((xs.getD (i3).toNatClampNeg 0)).toNatClampNeg 0)), (.int (xs.getD (i3).toNatClampNeg 0)), (.ref b1), (.ref (bs.getD ((xs.getD (i3).toNatClampNeg 0)).toNatClampNeg 0))])) X16.here hx rfl (hb hby d1_114) rfl rfl rfl rfl kz_) ?_
              refine own_via (S' := T16.setTop (mkF m 117 #[.val (.ref a1), .val (.int tc), .val (.ref a3), .val (.ref b1), .val (.ref b5), .val (.int i3), .val (.int (xs.getD (i3).toNatClampNeg 0)), o] [(.int ((ls3.getD ((xs.getD (i3).toNatClampNeg 0)).toNatClampNeg 0) + (1 : Int32))), (.int (xs.getD (i3).toNatClampNeg 0)), (.ref b1), (.int (ls3.getD ((xs.getD (i3).toNatClampNeg 0)).toNatClampNeg 0)), (.ref (bs.getD ((xs.getD (i3).toNatClampNeg 0)).toNatClampNeg 0))])) (fun t k => ?_) ?_
              · show Steps p.tables e below (T16.setTop (mkF m 115 #[.val (.ref a1), .val (.int tc), .val (.ref a3), .val (.ref b1), .val (.ref b5), .val (.int i3), .val (.int (xs.getD (i3).toNatClampNeg 0)), o] [(.int (ls3.getD ((xs.getD (i3).toNatClampNeg 0)).toNatClampNeg 0)), (.int (xs.getD (i3).toNatClampNeg 0)), (.ref b1), (.int (ls3.getD ((xs.getD (i3).toNatClampNeg 0)).toNatClampNeg 0)), (.ref (bs.getD ((xs.getD (i3).toNatClampNeg 0)).toNatClampNeg 0))])) t
                refine XS.iconst X16.here hx rfl (hb hby d1_115) ?_
                show Steps p.tables e below (T16.setTop (mkF m 116 #[.val (.ref a1), .val (.int tc), .val (.ref a3), .val (.ref b1), .val (.ref b5), .val (.int i3), .val (.int (xs.getD (i3).toNatClampNeg 0)), o] [(.int (1 : Int32)), (.int (ls3.getD ((xs.getD (i3).toNatClampNeg 0)).toNatClampNeg 0)), (.int (xs.getD (i3).toNatClampNeg 0)), (.ref b1), (.int (ls3.getD ((xs.getD (i3).toNatClampNeg 0)).toNatClampNeg 0)), (.ref (bs.getD ((xs.getD (i3).toNatClampNeg 0)).toNatClampNeg 0))])) t
                refine XS.iadd X16.here hx rfl (hb hby d1_116) rfl ?_
                exact k
              obtain ⟨⟨cl25, Ar25, q25, S25, Nn25, H25, G25⟩, Le25⟩ := id c23
              have hin25 : ¬ ((xs.getD (i3).toNatClampNeg 0) < 0 ∨ cl25.slots.size ≤ ((xs.getD (i3).toNatClampNeg 0)).toNatClampNeg) := inb_of S25 (hgood _ hi3 (own_up hi3 hz hr3).1)
              obtain ⟨T25, h25, X25, e25, W25, st25⟩ := stI X16 hx hZ e16 Ar25 (j := (xs.getD (i3).toNatClampNeg 0)) hin25 (g := (mkF m 117 #[.val (.ref a1), .val (.int tc), .val (.ref a3), .val (.ref b1), .val (.ref b5), .val (.int i3), .val (.int (xs.getD (i3).toNatClampNeg 0)), o] [(.int ((ls3.getD ((xs.getD (i3).toNatClampNeg 0)).toNatClampNeg 0) + (1 : Int32))), (.int (xs.getD (i3).toNatClampNeg 0)), (.ref b1), (.int (ls3.getD ((xs.getD (i3).toNatClampNeg 0)).toNatClampNeg 0)), (.ref (bs.getD ((xs.getD (i3).toNatClampNeg 0)).toNatClampNeg 0))])) rfl rfl (hb hby d1_117)
              have V25 : own_Ar Z h25 b1 k1 .int tc (List.map Value.int (ls3.set ((xs.getD (i3).toNatClampNeg 0)).toNatClampNeg ((ls3.getD ((xs.getD (i3).toNatClampNeg 0)).toNatClampNeg 0) + (1 : Int32)))) (.int (0 : Int32)) := own_Ar.setI Ar25 q25 S25 Nn25 H25 G25 rfl W25 hin25 Le25
              have K26 : Keep h0 h25 [a3] := Keep.wr K17 W25 (Or.inr sz_b1)
              have N26 := Fr.snoc X25 N17 g_b1
              refine own_via st25 ?_
              show own_G p.tables e below _ (T25.setTop (mkF m 118 #[.val (.ref a1), .val (.int tc), .val (.ref a3), .val (.ref b1), .val (.ref b5), .val (.int i3), .val (.int (xs.getD (i3).toNatClampNeg 0)), o] [(.int (ls3.getD ((xs.getD (i3).toNatClampNeg 0)).toNatClampNeg 0)), (.ref (bs.getD ((xs.getD (i3).toNatClampNeg 0)).toNatClampNeg 0))]))
              refine own_via (S' := T25.setTop (mkF m 120 #[.val (.ref a1), .val (.int tc), .val (.ref a3), .val (.ref b1), .val (.ref b5), .val (.int i3), .val (.int (xs.getD (i3).toNatClampNeg 0)), o] [(.int i3), (.int (ls3.getD ((xs.getD (i3).toNatClampNeg 0)).toNatClampNeg 0)), (.ref (bs.getD ((xs.getD (i3).toNatClampNeg 0)).toNatClampNeg 0))])) (fun t k => ?_) ?_
              · show Steps p.tables e below (T25.setTop (mkF m 118 #[.val (.ref a1), .val (.int tc), .val (.ref a3), .val (.ref b1), .val (.ref b5), .val (.int i3), .val (.int (xs.getD (i3).toNatClampNeg 0)), o] [(.int (ls3.getD ((xs.getD (i3).toNatClampNeg 0)).toNatClampNeg 0)), (.ref (bs.getD ((xs.getD (i3).toNatClampNeg 0)).toNatClampNeg 0))])) t
                refine XS.iload X25.here hx rfl (hb hby d1_118) rfl ?_
                exact k
              have c27 := (own_Rw.other c21 W25 lt_b1)
              have c28 := (own_Ar.other Vr22 W25 nr_b1)
              obtain ⟨⟨cl29, Ar29, q29, S29, Nn29, H29, G29⟩, Le29⟩ := id c28
              have hin29 : ¬ ((ls3.getD ((xs.getD (i3).toNatClampNeg 0)).toNatClampNeg 0) < 0 ∨ cl29.slots.size ≤ ((ls3.getD ((xs.getD (i3).toNatClampNeg 0)).toNatClampNeg 0)).toNatClampNeg) := inb_of S29 (own_okS hok).1
              obtain ⟨T29, h29, X29, e29, W29, st29⟩ := stI X25 hx hZ e25 Ar29 (j := (ls3.getD ((xs.getD (i3).toNatClampNeg 0)).toNatClampNeg 0)) hin29 (g := (mkF m 120 #[.val (.ref a1), .val (.int tc), .val (.ref a3), .val (.ref b1), .val (.ref b5), .val (.int i3), .val (.int (xs.getD (i3).toNatClampNeg 0)), o] [(.int i3), (.int (ls3.getD ((xs.getD (i3).toNatClampNeg 0)).toNatClampNeg 0)), (.ref (bs.getD ((xs.getD (i3).toNatClampNeg 0)).toNatClampNeg 0))])) rfl rfl (hb hby d1_120)
              have V29 : own_Ar Z h29 (bs.getD ((xs.getD (i3).toNatClampNeg 0)).toNatClampNeg 0) kr22 .int (Rm3.getD ((xs.getD (i3).toNatClampNeg 0)).toNatClampNeg own_d0).1 (List.map Value.int ((Rm3.getD ((xs.getD (i3).toNatClampNeg 0)).toNatClampNeg own_d0).2.set ((ls3.getD ((xs.getD (i3).toNatClampNeg 0)).toNatClampNeg 0)).toNatClampNeg i3)) (.int (0 : Int32)) := own_Ar.setI Ar29 q29 S29 Nn29 H29 G29 rfl W29 hin29 Le29
              have K30 : Keep h0 h29 [a3] := Keep.wr K26 W29 (Or.inr szr)
              have N30 := Fr.snoc X29 N26 gr
              refine own_via st29 ?_
              show own_G p.tables e below _ (T29.setTop (mkF m 121 #[.val (.ref a1), .val (.int tc), .val (.ref a3), .val (.ref b1), .val (.ref b5), .val (.int i3), .val (.int (xs.getD (i3).toNatClampNeg 0)), o] []))
              have RW29 := own_Rw.upd c27 hj20 W29 V29
              refine own_via (S' := T29.setTop (mkF m 83 #[.val (.ref a1), .val (.int tc), .val (.ref a3), .val (.ref b1), .val (.ref b5), .val (.int (i3 + (1 : Int32))), .val (.int (xs.getD (i3).toNatClampNeg 0)), o] [])) (fun t k => ?_) ?_
              · show Steps p.tables e below (T29.setTop (mkF m 121 #[.val (.ref a1), .val (.int tc), .val (.ref a3), .val (.ref b1), .val (.ref b5), .val (.int i3), .val (.int (xs.getD (i3).toNatClampNeg 0)), o] [])) t
                refine XS.iinc X29.here hx rfl (hb hby d1_121) rfl (l' := #[.val (.ref a1), .val (.int tc), .val (.ref a3), .val (.ref b1), .val (.ref b5), .val (.int (i3 + (1 : Int32))), .val (.int (xs.getD (i3).toNatClampNeg 0)), o]) rfl ?_
                show Steps p.tables e below (T29.setTop (mkF m 124 #[.val (.ref a1), .val (.int tc), .val (.ref a3), .val (.ref b1), .val (.ref b5), .val (.int (i3 + (1 : Int32))), .val (.int (xs.getD (i3).toNatClampNeg 0)), o] [])) t
                refine XS.goto X29.here hx rfl (pc0 := 124) (pc' := 83) rfl (hb hby d1_124) (by decide) (by decide) ?_
                exact k
              have c31 := (own_Ar.other (own_Ar.other V16 W25 ne_a3_b1) W29 (Ne.symm nr_a3))
              have Vn := c31
              rw [own_ys qs ys _ _ hqs (by rw [hlen]; exact own_ixn ⟨hi3, (own_up hi3 hz hr3).1⟩), ← (own_up hi3 hz hr3).2.2] at Vn
              have c32 := (own_Ar.other (own_Ar.other (own_Ar.other V1 W16 ne13) W25 ne_a1_b1) W29 (Ne.symm nr_a1))
              have c33 := (own_Ar.other V25 W29 (Ne.symm nr_b1))
              have c34 := (Arv.other (Arv.other c18 W25 (Ne.symm ne_b1_b5)) W29 (Ne.symm nr_b5))
              exact ih _ _ _ _ _ _ _ _ N30 X29 e29 K30 (own_up hi3 hz hr3).2.1 (by rw [(own_up hi3 hz hr3).2.2]; omega) c32 Vn c33 c34 RW29 (by rw [(own_up hi3 hz hr3).2.2, ← hqs]; simp) (own_okS hok).2 hres
          exact loop3 z.toNatClampNeg _ _ _ 0 _ _ [] _ N X eT K (by decide) (by simp) V1 (by rw [show ((0 : Int32)).toNatClampNeg = 0 by decide, List.drop_zero, List.nil_append]; exact V3) VLn VR RWn rfl hok0 rfl
        | succ r ih =>
          intro T h locs i2 bs Rm2 cells2 slots2 N X eT K hi2 hr2 hcel hslo V1 V3 VL VR RW hbs hRm
          refine own_via (S' := T.setTop (mkF m 55 #[.val (.ref a1), .val (.int tc), .val (.ref a3), .val (.ref b1), .val (.ref b5), .val (.int i2), .val (.int i1), o] [(.int tc), (.int i2)])) (fun t k => ?_) ?_
          · show Steps p.tables e below (T.setTop (mkF m 52 #[.val (.ref a1), .val (.int tc), .val (.ref a3), .val (.ref b1), .val (.ref b5), .val (.int i2), .val (.int i1), o] [])) t
            refine XS.iload X.here hx rfl (hb hby d1_52) rfl ?_
            show Steps p.tables e below (T.setTop (mkF m 54 #[.val (.ref a1), .val (.int tc), .val (.ref a3), .val (.ref b1), .val (.ref b5), .val (.int i2), .val (.int i1), o] [(.int i2)])) t
            refine XS.iloadN X.here hx rfl (hb hby d1_54) rfl ?_
            exact k
          refine own_via (S' := T.setTop (mkF m 58 #[.val (.ref a1), .val (.int tc), .val (.ref a3), .val (.ref b1), .val (.ref b5), .val (.int i2), .val (.int i1), o] [])) (fun t k => XS.icmpNo (g := (mkF m 55 #[.val (.ref a1), .val (.int tc), .val (.ref a3), .val (.ref b1), .val (.ref b5), .val (.int i2), .val (.int i1), o] [(.int tc), (.int i2)])) X.here hx rfl (hb hby d1_55) rfl (tlt (own_up hi2 htc0 hr2).1).2.1 k) ?_
          refine own_via (S' := T.setTop (mkF m 65 #[.val (.ref a1), .val (.int tc), .val (.ref a3), .val (.ref b1), .val (.ref b5), .val (.int i2), .val (.int i1), o] [(.int i2), (.ref b1), (.int i2), (.ref b5)])) (fun t k => ?_) ?_
          · show Steps p.tables e below (T.setTop (mkF m 58 #[.val (.ref a1), .val (.int tc), .val (.ref a3), .val (.ref b1), .val (.ref b5), .val (.int i2), .val (.int i1), o] [])) t
            refine XS.aload X.here hx rfl (hb hby d1_58) rfl rfl ?_
            show Steps p.tables e below (T.setTop (mkF m 60 #[.val (.ref a1), .val (.int tc), .val (.ref a3), .val (.ref b1), .val (.ref b5), .val (.int i2), .val (.int i1), o] [(.ref b5)])) t
            refine XS.iload X.here hx rfl (hb hby d1_60) rfl ?_
            show Steps p.tables e below (T.setTop (mkF m 62 #[.val (.ref a1), .val (.int tc), .val (.ref a3), .val (.ref b1), .val (.ref b5), .val (.int i2), .val (.int i1), o] [(.int i2), (.ref b5)])) t
            refine XS.aloadN X.here hx rfl (hb hby d1_62) rfl rfl ?_
            show Steps p.tables e below (T.setTop (mkF m 63 #[.val (.ref a1), .val (.int tc), .val (.ref a3), .val (.ref b1), .val (.ref b5), .val (.int i2), .val (.int i1), o] [(.ref b1), (.int i2), (.ref b5)])) t
            refine XS.iload X.here hx rfl (hb hby d1_63) rfl ?_
            exact k
          obtain ⟨⟨cl36, Ar36, q36, S36, Nn36, H36, G36⟩, Le36⟩ := id VL
          have hin36 : ¬ (i2 < 0 ∨ cl36.slots.size ≤ (i2).toNatClampNeg) := inb_of S36 ⟨hi2, (own_up hi2 htc0 hr2).1⟩
          have hat36 : cl36.slots[(i2).toNatClampNeg]? = some (.int ((own_LF xs tc z).getD (i2).toNatClampNeg 0)) := Has.at H36 hin36 ((own_gI _ _).trans (congrArg Value.int (own_flG _ _ _)))
          refine own_via (S' := T.setTop (mkF m 66 #[.val (.ref a1), .val (.int tc), .val (.ref a3), .val (.ref b1), .val (.ref b5), .val (.int i2), .val (.int i1), o] [(.int ((own_LF xs tc z).getD (i2).toNatClampNeg 0)), (.int i2), (.ref b5)])) (fun t kz_ => X.iaload hx (j := i2) (v := (.int ((own_LF xs tc z).getD (i2).toNatClampNeg 0))) (by rw [eT]; exact Ar36.1) (State.isArrayOf_alike hZ.alike Ar36.2.1) Ar36.2.2 hin36 hat36 (g := (mkF m 65 #[.val (.ref a1), .val (.int tc), .val (.ref a3), .val (.ref b1), .val (.ref b5), .val (.int i2), .val (.int i1), o] [(.int i2), (.ref b1), (.int i2), (.ref b5)])) rfl rfl (hb hby d1_65) _ kz_) ?_
          obtain ⟨T37, h37, k37, X37, e37, E37, A37, EX37, st37⟩ := newPE X hx hZ (hw _ (List.mem_of_getElem? (i := 0) rfl)) eT (g := (mkF m 66 #[.val (.ref a1), .val (.int tc), .val (.ref a3), .val (.ref b1), .val (.ref b5), .val (.int i2), .val (.int i1), o] [(.int ((own_LF xs tc z).getD (i2).toNatClampNeg 0)), (.int i2), (.ref b5)])) rfl (hb hby d1_66) rfl (hcap _ hi2 (own_up hi2 htc0 hr2).1).1 (cap := 5) (hcap _ hi2 (own_up hi2 htc0 hr2).1).2 (by decide) (own_cA hcel).1 (own_sA hslo).1 (ad := "[I") (by decide)
          obtain ⟨b37, g37⟩ : ∃ z, z = h.size := ⟨_, rfl⟩
          have ne_a1_b37 : a1 ≠ b37 := Nat.ne_of_lt (Nat.lt_of_lt_of_le (V1).lt (Nat.le_of_eq g37.symm))
          have ne_a3_b37 : a3 ≠ b37 := Nat.ne_of_lt (Nat.lt_of_lt_of_le (V3).lt (Nat.le_of_eq g37.symm))
          have ne_b1_b37 : b1 ≠ b37 := Nat.ne_of_lt (Nat.lt_of_lt_of_le (VL).lt (Nat.le_of_eq g37.symm))
          have ne_b5_b37 : b5 ≠ b37 := Nat.ne_of_lt (Nat.lt_of_lt_of_le (VR).lt (Nat.le_of_eq g37.symm))
          have g_b37 : n0 ≤ b37 := Nat.le_trans (Nat.le_trans Z0 K.1) (Nat.le_of_eq g37.symm)
          have sz_b37 : h0.size ≤ b37 := Nat.le_trans K.1 (Nat.le_of_eq g37.symm)
          rw [← g37] at A37 EX37 st37
          have K37 : Keep h0 h37 [a3] := Keep.ext K E37
          have V_b37 : own_Ar Z h37 b37 k37 .int ((own_LF xs tc z).getD (i2).toNatClampNeg 0) (List.map Value.int (List.replicate (((own_LF xs tc z).getD (i2).toNatClampNeg 0)).toNatClampNeg (0 : Int32))) (.int (0 : Int32)) := own_Ar.newI A37 (hcap _ hi2 (own_up hi2 htc0 hr2).1).1
          have NN37 : b5 + 1 ≤ b37 := Nat.lt_of_lt_of_le (VR).lt (Nat.le_of_eq g37.symm)
          have RW37 : own_Rw Z h37 (b5 + 1) (bs ++ [b37]) (Rm2 ++ [own_mk (((own_LF xs tc z).getD (i2).toNatClampNeg 0))]) := own_Rw.push RW E37 g37 NN37 V_b37
          refine own_via st37 ?_
          show own_G p.tables e below _ (T37.setTop (mkF m 68 #[.val (.ref a1), .val (.int tc), .val (.ref a3), .val (.ref b1), .val (.ref b5), .val (.int i2), .val (.int i1), o] [(.ref b37), (.int i2), (.ref b5)]))
          have c38 := (VR.ext E37)
          obtain ⟨cl39, Ar39, q39, S39, Nn39, H39, G39⟩ := id c38
          have hin39 : ¬ (i2 < 0 ∨ cl39.slots.size ≤ (i2).toNatClampNeg) := inb_of S39 ⟨hi2, (own_up hi2 htc0 hr2).1⟩
          obtain ⟨T39, h39, X39, e39, W39, st39⟩ := stR X37 hx hZ e37 Ar39 (j := i2) hin39 rfl (Sto.ofVA Ar39 q39 O5 (Ins.self EX37)) (g := (mkF m 68 #[.val (.ref a1), .val (.int tc), .val (.ref a3), .val (.ref b1), .val (.ref b5), .val (.int i2), .val (.int i1), o] [(.ref b37), (.int i2), (.ref b5)])) rfl rfl (hb hby d1_68)
          have V39 : Arv Z h39 b5 k5 (.array .int) tc (List.map Value.ref (bs ++ [b37])) .null := own_app Ar39 q39 S39 Nn39 H39 G39 W39 hbs
          have K40 : Keep h0 h39 [a3] := Keep.wr K37 W39 (Or.inr sz_b5)
          have N40 := Fr.snoc X39 N g_b5
          refine own_via st39 ?_
          show own_G p.tables e below _ (T39.setTop (mkF m 69 #[.val (.ref a1), .val (.int tc), .val (.ref a3), .val (.ref b1), .val (.ref b5), .val (.int i2), .val (.int i1), o] []))
          refine own_via (S' := T39.setTop (mkF m 73 #[.val (.ref a1), .val (.int tc), .val (.ref a3), .val (.ref b1), .val (.ref b5), .val (.int i2), .val (.int i1), o] [(.int (0 : Int32)), (.int i2), (.ref b1)])) (fun t k => ?_) ?_
          · show Steps p.tables e below (T39.setTop (mkF m 69 #[.val (.ref a1), .val (.int tc), .val (.ref a3), .val (.ref b1), .val (.ref b5), .val (.int i2), .val (.int i1), o] [])) t
            refine XS.aloadN X39.here hx rfl (hb hby d1_69) rfl rfl ?_
            show Steps p.tables e below (T39.setTop (mkF m 70 #[.val (.ref a1), .val (.int tc), .val (.ref a3), .val (.ref b1), .val (.ref b5), .val (.int i2), .val (.int i1), o] [(.ref b1)])) t
            refine XS.iload X39.here hx rfl (hb hby d1_70) rfl ?_
            show Steps p.tables e below (T39.setTop (mkF m 72 #[.val (.ref a1), .val (.int tc), .val (.ref a3), .val (.ref b1), .val (.ref b5), .val (.int i2), .val (.int i1), o] [(.int i2), (.ref b1)])) t
            refine XS.iconst X39.here hx rfl (hb hby d1_72) ?_
            exact k
          have c41 := (own_Ar.other (own_Ar.ext VL E37) W39 ne_b1_b5)
          obtain ⟨⟨cl42, Ar42, q42, S42, Nn42, H42, G42⟩, Le42⟩ := id c41
          have hin42 : ¬ (i2 < 0 ∨ cl42.slots.size ≤ (i2).toNatClampNeg) := inb_of S42 ⟨hi2, (own_up hi2 htc0 hr2).1⟩
          obtain ⟨T42, h42, X42, e42, W42, st42⟩ := stI X39 hx hZ e39 Ar42 (j := i2) hin42 (g := (mkF m 73 #[.val (.ref a1), .val (.int tc), .val (.ref a3), .val (.ref b1), .val (.ref b5), .val (.int i2), .val (.int i1), o] [(.int (0 : Int32)), (.int i2), (.ref b1)])) rfl rfl (hb hby d1_73)
          have V42 : own_Ar Z h42 b1 k1 .int tc (List.map Value.int ((own_fl (own_LF xs tc z) (i2).toNatClampNeg 0).set (i2).toNatClampNeg (0 : Int32))) (.int (0 : Int32)) := own_Ar.setI Ar42 q42 S42 Nn42 H42 G42 rfl W42 hin42 Le42
          have K43 : Keep h0 h42 [a3] := Keep.wr K40 W42 (Or.inr sz_b1)
          have N43 := Fr.snoc X42 N40 g_b1
          refine own_via st42 ?_
          show own_G p.tables e below _ (T42.setTop (mkF m 74 #[.val (.ref a1), .val (.int tc), .val (.ref a3), .val (.ref b1), .val (.ref b5), .val (.int i2), .val (.int i1), o] []))
          refine own_via (S' := T42.setTop (mkF m 52 #[.val (.ref a1), .val (.int tc), .val (.ref a3), .val (.ref b1), .val (.ref b5), .val (.int (i2 + (1 : Int32))), .val (.int i1), o] [])) (fun t k => ?_) ?_
          · show Steps p.tables e below (T42.setTop (mkF m 74 #[.val (.ref a1), .val (.int tc), .val (.ref a3), .val (.ref b1), .val (.ref b5), .val (.int i2), .val (.int i1), o] [])) t
            refine XS.iinc X42.here hx rfl (hb hby d1_74) rfl (l' := #[.val (.ref a1), .val (.int tc), .val (.ref a3), .val (.ref b1), .val (.ref b5), .val (.int (i2 + (1 : Int32))), .val (.int i1), o]) rfl ?_
            show Steps p.tables e below (T42.setTop (mkF m 77 #[.val (.ref a1), .val (.int tc), .val (.ref a3), .val (.ref b1), .val (.ref b5), .val (.int (i2 + (1 : Int32))), .val (.int i1), o] [])) t
            refine XS.goto X42.here hx rfl (pc0 := 77) (pc' := 52) rfl (hb hby d1_77) (by decide) (by decide) ?_
            exact k
          have Vn := V42
          rw [own_flS _ _ _ (by rw [own_LFlen]; exact own_ixn ⟨hi2, (own_up hi2 htc0 hr2).1⟩), ← (own_up hi2 htc0 hr2).2.2] at Vn
          have c44 := (own_Ar.other (own_Ar.other (own_Ar.ext V1 E37) W39 ne_a1_b5) W42 ne_a1_b1)
          have c45 := (own_Ar.other (own_Ar.other (own_Ar.ext V3 E37) W39 ne_a3_b5) W42 ne_a3_b1)
          have c46 := (Arv.other V39 W42 (Ne.symm ne_b1_b5))
          have c47 := (own_Rw.other (own_Rw.other RW37 W39 (Nat.lt_succ_self b5)) W42 lt_b1)
          exact ih _ _ _ _ _ _ _ _ N43 X42 e42 K43 (own_up hi2 htc0 hr2).2.1 (by rw [(own_up hi2 htc0 hr2).2.2]; omega) (own_cA hcel).2 (own_sA hslo).2 c44 c45 Vn c46 c47 (by rw [(own_up hi2 htc0 hr2).2.2, ← hbs]; simp) (by rw [hRm, (own_up hi2 htc0 hr2).2.2]; exact own_tk _ _ (by rw [own_LFlen]; exact own_ixn ⟨hi2, (own_up hi2 htc0 hr2).1⟩))
      exact loop2 tc.toNatClampNeg _ _ _ 0 [] [] _ _ N X5 e5 K5 (by decide) (by simp) (own_c26 htc4) (own_s28 htc4) c6 c7 (by rw [show ((0 : Int32)).toNatClampNeg = 0 by decide, own_fl0, ← (show ls1 = (own_LF xs tc z) from hl1)]; exact c8) V_b5 (own_Rw.nil Z h5 (b5 + 1)) rfl (by rw [show ((0 : Int32)).toNatClampNeg = 0 by decide]; rfl)
    | succ r ih =>
      intro T h locs i1 ls1 o N X eT K hi1 hr1 V1 V3 VL hl1 ho
      refine own_via (S' := T.setTop (mkF m 19 #[.val (.ref a1), .val (.int tc), .val (.ref a3), .val (.ref b1), .val (.ref a1), .val (.int z), .val (.int i1), o] [(.int z), (.int i1)])) (fun t k => ?_) ?_
      · show Steps p.tables e below (T.setTop (mkF m 15 #[.val (.ref a1), .val (.int tc), .val (.ref a3), .val (.ref b1), .val (.ref a1), .val (.int z), .val (.int i1), o] [])) t
        refine XS.iload X.here hx rfl (hb hby d1_15) rfl ?_
        show Steps p.tables e below (T.setTop (mkF m 17 #[.val (.ref a1), .val (.int tc), .val (.ref a3), .val (.ref b1), .val (.ref a1), .val (.int z), .val (.int i1), o] [(.int i1)])) t
        refine XS.iload X.here hx rfl (hb hby d1_17) rfl ?_
        exact k
      refine own_via (S' := T.setTop (mkF m 22 #[.val (.ref a1), .val (.int tc), .val (.ref a3), .val (.ref b1), .val (.ref a1), .val (.int z), .val (.int i1), o] [])) (fun t k => XS.icmpNo (g := (mkF m 19 #[.val (.ref a1), .val (.int tc), .val (.ref a3), .val (.ref b1), .val (.ref a1), .val (.int z), .val (.int i1), o] [(.int z), (.int i1)])) X.here hx rfl (hb hby d1_19) rfl (tlt (own_up hi1 hz hr1).1).2.1 k) ?_
      refine own_via (S' := T.setTop (mkF m 26 #[.val (.ref a1), .val (.int tc), .val (.ref a3), .val (.ref b1), .val (.ref a1), .val (.int z), .val (.int i1), o] [(.int i1), (.ref a1)])) (fun t k => ?_) ?_
      · show Steps p.tables e below (T.setTop (mkF m 22 #[.val (.ref a1), .val (.int tc), .val (.ref a3), .val (.ref b1), .val (.ref a1), .val (.int z), .val (.int i1), o] [])) t
        refine XS.aload X.here hx rfl (hb hby d1_22) rfl rfl ?_
        show Steps p.tables e below (T.setTop (mkF m 24 #[.val (.ref a1), .val (.int tc), .val (.ref a3), .val (.ref b1), .val (.ref a1), .val (.int z), .val (.int i1), o] [(.ref a1)])) t
        refine XS.iload X.here hx rfl (hb hby d1_24) rfl ?_
        exact k
      obtain ⟨⟨cl49, Ar49, q49, S49, Nn49, H49, G49⟩, Le49⟩ := id V1
      have hin49 : ¬ (i1 < 0 ∨ cl49.slots.size ≤ (i1).toNatClampNeg) := inb_of S49 ⟨hi1, (own_up hi1 hz hr1).1⟩
      have hat49 : cl49.slots[(i1).toNatClampNeg]? = some (.int (xs.getD (i1).toNatClampNeg 0)) := Has.at H49 hin49 (own_gI _ _)
      refine own_via (S' := T.setTop (mkF m 27 #[.val (.ref a1), .val (.int tc), .val (.ref a3), .val (.ref b1), .val (.ref a1), .val (.int z), .val (.int i1), o] [(.int (xs.getD (i1).toNatClampNeg 0))])) (fun t kz_ => X.iaload hx (j := i1) (v := (.int (xs.getD (i1).toNatClampNeg 0))) (by rw [eT]; exact Ar49.1) (State.isArrayOf_alike hZ.alike Ar49.2.1) Ar49.2.2 hin49 hat49 (g := (mkF m 26 #[.val (.ref a1), .val (.int tc), .val (.ref a3), .val (.ref b1), .val (.ref a1), .val (.int z), .val (.int i1), o] [(.int i1), (.ref a1)])) rfl rfl (hb hby d1_26) _ kz_) ?_
      refine own_via (S' := T.setTop (mkF m 33 #[.val (.ref a1), .val (.int tc), .val (.ref a3), .val (.ref b1), .val (.ref a1), .val (.int z), .val (.int i1), .val (.int (xs.getD (i1).toNatClampNeg 0))] [(.int (xs.getD (i1).toNatClampNeg 0)), (.ref b1), (.int (xs.getD (i1).toNatClampNeg 0)), (.ref b1)])) (fun t k => ?_) ?_
      · show Steps p.tables e below (T.setTop (mkF m 27 #[.val (.ref a1), .val (.int tc), .val (.ref a3), .val (.ref b1), .val (.ref a1), .val (.int z), .val (.int i1), o] [(.int (xs.getD (i1).toNatClampNeg 0))])) t
        refine XS.istore X.here hx rfl (hb hby d1_27) rfl (l' := #[.val (.ref a1), .val (.int tc), .val (.ref a3), .val (.ref b1), .val (.ref a1), .val (.int z), .val (.int i1), .val (.int (xs.getD (i1).toNatClampNeg 0))]) (by rcases ho with rfl | ⟨w, rfl⟩ <;> rfl) ?_
        show Steps p.tables e below (T.setTop (mkF m 29 #[.val (.ref a1), .val (.int tc), .val (.ref a3), .val (.ref b1), .val (.ref a1), .val (.int z), .val (.int i1), .val (.int (xs.getD (i1).toNatClampNeg 0))] [])) t
        refine XS.aloadN X.here hx rfl (hb hby d1_29) rfl rfl ?_
        show Steps p.tables e below (T.setTop (mkF m 30 #[.val (.ref a1), .val (.int tc), .val (.ref a3), .val (.ref b1), .val (.ref a1), .val (.int z), .val (.int i1), .val (.int (xs.getD (i1).toNatClampNeg 0))] [(.ref b1)])) t
        refine XS.iload X.here hx rfl (hb hby d1_30) rfl ?_
        show Steps p.tables e below (T.setTop (mkF m 32 #[.val (.ref a1), .val (.int tc), .val (.ref a3), .val (.ref b1), .val (.ref a1), .val (.int z), .val (.int i1), .val (.int (xs.getD (i1).toNatClampNeg 0))] [(.int (xs.getD (i1).toNatClampNeg 0)), (.ref b1)])) t
        refine Jvm.Free.XT.dup2 X.here hx rfl (hb hby d1_32) rfl rfl rfl ?_
        exact k
      obtain ⟨⟨cl50, Ar50, q50, S50, Nn50, H50, G50⟩, Le50⟩ := id VL
      have hin50 : ¬ ((xs.getD (i1).toNatClampNeg 0) < 0 ∨ cl50.slots.size ≤ ((xs.getD (i1).toNatClampNeg 0)).toNatClampNeg) := inb_of S50 (hgood _ hi1 (own_up hi1 hz hr1).1)
      have hat50 : cl50.slots[((xs.getD (i1).toNatClampNeg 0)).toNatClampNeg]? = some (.int (ls1.getD ((xs.getD (i1).toNatClampNeg 0)).toNatClampNeg 0)) := Has.at H50 hin50 (own_gI _ _)
      refine own_via (S' := T.setTop (mkF m 34 #[.val (.ref a1), .val (.int tc), .val (.ref a3), .val (.ref b1), .val (.ref a1), .val (.int z), .val (.int i1), .val (.int (xs.getD (i1).toNatClampNeg 0))] [(.int (ls1.getD ((xs.getD (i1).toNatClampNeg 0)).toNatClampNeg 0)), (.int (xs.getD (i1).toNatClampNeg 0)), (.ref b1)])) (fun t kz_ => X.iaload hx (j := (xs.getD (i1).toNatClampNeg 0)) (v := (.int (ls1.getD ((xs.getD (i1).toNatClampNeg 0)).toNatClampNeg 0))) (by rw [eT]; exact Ar50.1) (State.isArrayOf_alike hZ.alike Ar50.2.1) Ar50.2.2 hin50 hat50 (g := (mkF m 33 #[.val (.ref a1), .val (.int tc), .val (.ref a3), .val (.ref b1), .val (.ref a1), .val (.int z), .val (.int i1), .val (.int (xs.getD (i1).toNatClampNeg 0))] [(.int (xs.getD (i1).toNatClampNeg 0)), (.ref b1), (.int (xs.getD (i1).toNatClampNeg 0)), (.ref b1)])) rfl rfl (hb hby d1_33) _ kz_) ?_
      refine own_via (S' := T.setTop (mkF m 36 #[.val (.ref a1), .val (.int tc), .val (.ref a3), .val (.ref b1), .val (.ref a1), .val (.int z), .val (.int i1), .val (.int (xs.getD (i1).toNatClampNeg 0))] [(.int ((ls1.getD ((xs.getD (i1).toNatClampNeg 0)).toNatClampNeg 0) + (1 : Int32))), (.int (xs.getD (i1).toNatClampNeg 0)), (.ref b1)])) (fun t k => ?_) ?_
      · show Steps p.tables e below (T.setTop (mkF m 34 #[.val (.ref a1), .val (.int tc), .val (.ref a3), .val (.ref b1), .val (.ref a1), .val (.int z), .val (.int i1), .val (.int (xs.getD (i1).toNatClampNeg 0))] [(.int (ls1.getD ((xs.getD (i1).toNatClampNeg 0)).toNatClampNeg 0)), (.int (xs.getD (i1).toNatClampNeg 0)), (.ref b1)])) t
        refine XS.iconst X.here hx rfl (hb hby d1_34) ?_
        show Steps p.tables e below (T.setTop (mkF m 35 #[.val (.ref a1), .val (.int tc), .val (.ref a3), .val (.ref b1), .val (.ref a1), .val (.int z), .val (.int i1), .val (.int (xs.getD (i1).toNatClampNeg 0))] [(.int (1 : Int32)), (.int (ls1.getD ((xs.getD (i1).toNatClampNeg 0)).toNatClampNeg 0)), (.int (xs.getD (i1).toNatClampNeg 0)), (.ref b1)])) t
        refine XS.iadd X.here hx rfl (hb hby d1_35) rfl ?_
        exact k
      obtain ⟨⟨cl51, Ar51, q51, S51, Nn51, H51, G51⟩, Le51⟩ := id VL
      have hin51 : ¬ ((xs.getD (i1).toNatClampNeg 0) < 0 ∨ cl51.slots.size ≤ ((xs.getD (i1).toNatClampNeg 0)).toNatClampNeg) := inb_of S51 (hgood _ hi1 (own_up hi1 hz hr1).1)
      obtain ⟨T51, h51, X51, e51, W51, st51⟩ := stI X hx hZ eT Ar51 (j := (xs.getD (i1).toNatClampNeg 0)) hin51 (g := (mkF m 36 #[.val (.ref a1), .val (.int tc), .val (.ref a3), .val (.ref b1), .val (.ref a1), .val (.int z), .val (.int i1), .val (.int (xs.getD (i1).toNatClampNeg 0))] [(.int ((ls1.getD ((xs.getD (i1).toNatClampNeg 0)).toNatClampNeg 0) + (1 : Int32))), (.int (xs.getD (i1).toNatClampNeg 0)), (.ref b1)])) rfl rfl (hb hby d1_36)
      have V51 : own_Ar Z h51 b1 k1 .int tc (List.map Value.int (ls1.set ((xs.getD (i1).toNatClampNeg 0)).toNatClampNeg ((ls1.getD ((xs.getD (i1).toNatClampNeg 0)).toNatClampNeg 0) + (1 : Int32)))) (.int (0 : Int32)) := own_Ar.setI Ar51 q51 S51 Nn51 H51 G51 rfl W51 hin51 Le51
      have K52 : Keep h0 h51 [a3] := Keep.wr K W51 (Or.inr sz_b1)
      have N52 := Fr.snoc X51 N g_b1
      refine own_via st51 ?_
      show own_G p.tables e below _ (T51.setTop (mkF m 37 #[.val (.ref a1), .val (.int tc), .val (.ref a3), .val (.ref b1), .val (.ref a1), .val (.int z), .val (.int i1), .val (.int (xs.getD (i1).toNatClampNeg 0))] []))
      refine own_via (S' := T51.setTop (mkF m 15 #[.val (.ref a1), .val (.int tc), .val (.ref a3), .val (.ref b1), .val (.ref a1), .val (.int z), .val (.int (i1 + (1 : Int32))), .val (.int (xs.getD (i1).toNatClampNeg 0))] [])) (fun t k => ?_) ?_
      · show Steps p.tables e below (T51.setTop (mkF m 37 #[.val (.ref a1), .val (.int tc), .val (.ref a3), .val (.ref b1), .val (.ref a1), .val (.int z), .val (.int i1), .val (.int (xs.getD (i1).toNatClampNeg 0))] [])) t
        refine XS.iinc X51.here hx rfl (hb hby d1_37) rfl (l' := #[.val (.ref a1), .val (.int tc), .val (.ref a3), .val (.ref b1), .val (.ref a1), .val (.int z), .val (.int (i1 + (1 : Int32))), .val (.int (xs.getD (i1).toNatClampNeg 0))]) rfl ?_
        show Steps p.tables e below (T51.setTop (mkF m 40 #[.val (.ref a1), .val (.int tc), .val (.ref a3), .val (.ref b1), .val (.ref a1), .val (.int z), .val (.int (i1 + (1 : Int32))), .val (.int (xs.getD (i1).toNatClampNeg 0))] [])) t
        refine XS.goto X51.here hx rfl (pc0 := 40) (pc' := 15) rfl (hb hby d1_40) (by decide) (by decide) ?_
        exact k
      have c53 := (own_Ar.other V1 W51 ne_a1_b1)
      have c54 := (own_Ar.other V3 W51 ne_a3_b1)
      exact ih _ _ _ _ _ _ N52 X51 e51 K52 (own_up hi1 hz hr1).2.1 (by rw [(own_up hi1 hz hr1).2.2]; omega) c53 c54 V51 hl1 (Or.inr ⟨_, rfl⟩)
  have c55 := (own_Ar.ext V3 E1)
  exact loop1 z.toNatClampNeg _ _ _ 0 _ _ N0 X1 e1 K1 (by decide) (by simp) c2 c55 V_b1 rfl (Or.inl rfl)
theorem pn0 : plainName "com/example/fenceline/fenceline/TraceThreadsPinLaw" = true := by first | (simp [plainName, overriddenIn]; done) | decide +kernel
theorem pd_2 : parseMethodDescriptor "([II[I)[[I" = some ⟨[(.array .int), .int, (.array .int)], some (.array (.array .int))⟩ := by decide +kernel
theorem pd_3 : parseMethodDescriptor "([I[I[[III)Z" = some ⟨[(.array .int), (.array .int), (.array (.array .int)), .int, .int], some .boolean⟩ := by decide +kernel
theorem pd_4 : parseMethodDescriptor "([[I[IIII)Z" = some ⟨[(.array (.array .int)), (.array .int), .int, .int, .int], some .boolean⟩ := by decide +kernel
theorem pd_5 : parseMethodDescriptor "(III)I" = some ⟨[.int, .int, .int], some .int⟩ := by decide +kernel
theorem ef0 (m : MethodId) (x0 : Int32) (x1 : Int32) (x2 : Int32) (x3 : Int32) : entryFrame m #[(.int x0), (.int x1), (.int x2), (.int x3)] maxLocals = mkF m 0 #[.val (.int x0), .val (.int x1), .val (.int x2), .val (.int x3), .unset, .unset, .unset, .unset, .unset] [] := by first | (simp [entryFrame, mkF, argsToLocals, Value.category, maxLocals]; done) | rfl
def Q0 (Z : State) (p1 : Int32) (p2 : Int32) (p3 : Int32) (p4 : Int32) (h0 : Heap) (n0 : Nat) (v : Option Value) (h : Heap) (L : List Loc) : Prop := v = some (.int 1) ∧ Fr n0 L
set_option maxRecDepth 65536 in
set_option maxHeartbeats 40000000 in
theorem rm0 (l : Launch) (Z : State) (a0 : Array Value) (hw : ∀ d ∈ tables_1, d.before a0 Z = true) (ws : List Jvm.Cond) (p1 : Int32) (p2 : Int32) (p3 : Int32) (p4 : Int32) (h0 : Heap) (n0 : Nat) (Z0 : n0 ≤ h0.size) :
    MetFree l x (head1 (Jvm.Cond.code x code maxLocals ret :: ws) room_1) (fun a U => a = #[(.int p1), (.int p2), (.int p3), (.int p4)] ∧ Z.Warmed39 U.vm ∧ U.heap = h0) (fun _ _ _ _ _ => True) (fun _ U o U' => ∃ v L, o = .returned v ∧ Q0 Z p1 p2 p3 p4 h0 n0 v U'.heap L ∧ FrameEnd U o U' L 24 128) := by
  refine MetFree.of_bodySF (plainFor_of_name pn0) hisR ?_
  intro p e s m args below meth c s₁ Bd hml0 hP hK
  obtain ⟨rfl, hZ, hh⟩ := hP
  have hx := Bd.exec
  have hby := Bd.bytes
  have hml : c.maxLocals = 9 := hml0
  have hown : s.vm.findClass "com/example/fenceline/fenceline/TraceThreadsPinLaw" = some m.cls := findClass_of_methodNamed Bd.named
  have hnm := (name_of_methodNamed Bd.named Bd.method).1
  have X0 : Stand p l e room_1 s m #[(.int p1), (.int p2), (.int p3), (.int p4)] below meth c s₁ [] 0 0 := Stand.of_body Bd
  have e0 : s₁.heap = h0 := by rw [← hh, Bd.state]; rfl
  have N0 := Fr.nil n0
  refine (show own_G p.tables e below (own_P s (Q0 Z p1 p2 p3 p4 h0 n0) 24 128) (s₁.setTop (entryFrame m #[(.int p1), (.int p2), (.int p3), (.int p4)] maxLocals)) from ?_)
  refine own_via (fun t k => castTop (ef0 m p1 p2 p3 p4) k) ?_
  show own_G p.tables e below _ (s₁.setTop (mkF m 0 #[.val (.int p1), .val (.int p2), .val (.int p3), .val (.int p4), .unset, .unset, .unset, .unset, .unset] []))
  have K0 := Keep.refl h0 []
  refine own_via (S' := s₁.setTop (mkF m 8 #[.val (.int p1), .val (.int p2), .val (.int p3), .val (.int p4), .val (.int ((p1 &&& (7 : Int32)) % (5 : Int32))), .unset, .unset, .unset, .unset] [])) (fun t k => ?_) ?_
  · show Steps p.tables e below (s₁.setTop (mkF m 0 #[.val (.int p1), .val (.int p2), .val (.int p3), .val (.int p4), .unset, .unset, .unset, .unset, .unset] [])) t
    refine XS.iloadN X0.here hx rfl (hb hby at_0) rfl ?_
    show Steps p.tables e below (s₁.setTop (mkF m 1 #[.val (.int p1), .val (.int p2), .val (.int p3), .val (.int p4), .unset, .unset, .unset, .unset, .unset] [(.int p1)])) t
    refine XS.bipush X0.here hx rfl (hb hby at_1) ?_
    show Steps p.tables e below (s₁.setTop (mkF m 3 #[.val (.int p1), .val (.int p2), .val (.int p3), .val (.int p4), .unset, .unset, .unset, .unset, .unset] [(.int (7 : Int32)), (.int p1)])) t
    refine XS.iand X0.here hx rfl (hb hby at_3) rfl ?_
    show Steps p.tables e below (s₁.setTop (mkF m 4 #[.val (.int p1), .val (.int p2), .val (.int p3), .val (.int p4), .unset, .unset, .unset, .unset, .unset] [(.int (p1 &&& (7 : Int32)))])) t
    refine XS.iconst X0.here hx rfl (hb hby at_4) ?_
    show Steps p.tables e below (s₁.setTop (mkF m 5 #[.val (.int p1), .val (.int p2), .val (.int p3), .val (.int p4), .unset, .unset, .unset, .unset, .unset] [(.int (5 : Int32)), (.int (p1 &&& (7 : Int32)))])) t
    refine iremM X0 hx rfl (hb hby at_5) rfl (by decide) ?_
    show Steps p.tables e below (s₁.setTop (mkF m 6 #[.val (.int p1), .val (.int p2), .val (.int p3), .val (.int p4), .unset, .unset, .unset, .unset, .unset] [(.int ((p1 &&& (7 : Int32)) % (5 : Int32)))])) t
    refine XS.istore X0.here hx rfl (hb hby at_6) rfl (l' := #[.val (.int p1), .val (.int p2), .val (.int p3), .val (.int p4), .val (.int ((p1 &&& (7 : Int32)) % (5 : Int32))), .unset, .unset, .unset, .unset]) rfl ?_
    exact k
  obtain ⟨tc, hn_tc⟩ : ∃ z, z = ((p1 &&& (7 : Int32)) % (5 : Int32)) := ⟨_, rfl⟩
  rw [← hn_tc]
  show own_G p.tables e below _ (s₁.setTop (mkF m 8 #[.val (.int p1), .val (.int p2), .val (.int p3), .val (.int p4), .val (.int tc), .unset, .unset, .unset, .unset] []))
  have htc := own_tcD p1
  rw [← hn_tc] at htc
  have J1 : ∀ n : Int32, n ∈ own_F → (tc = 0 → n = 0) → own_G p.tables e below (own_P s (Q0 Z p1 p2 p3 p4 h0 n0) 24 128) (s₁.setTop (mkF m 24 #[.val (.int p1), .val (.int p2), .val (.int p3), .val (.int p4), .val (.int tc), .unset, .unset, .unset, .unset] [(.int n)])) := by
    intro n hn hn0
    refine own_via (S' := s₁.setTop (mkF m 28 #[.val (.int p1), .val (.int p2), .val (.int p3), .val (.int p4), .val (.int tc), .val (.int n), .unset, .unset, .unset] [(.int n)])) (fun t k => ?_) ?_
    · show Steps p.tables e below (s₁.setTop (mkF m 24 #[.val (.int p1), .val (.int p2), .val (.int p3), .val (.int p4), .val (.int tc), .unset, .unset, .unset, .unset] [(.int n)])) t
      refine XS.istore X0.here hx rfl (hb hby at_24) rfl (l' := #[.val (.int p1), .val (.int p2), .val (.int p3), .val (.int p4), .val (.int tc), .val (.int n), .unset, .unset, .unset]) rfl ?_
      show Steps p.tables e below (s₁.setTop (mkF m 26 #[.val (.int p1), .val (.int p2), .val (.int p3), .val (.int p4), .val (.int tc), .val (.int n), .unset, .unset, .unset] [])) t
      refine XS.iload X0.here hx rfl (hb hby at_26) rfl ?_
      exact k
    obtain ⟨T1, h1, k1, X1, e1, E1, A1, st1⟩ := newP X0 hx hZ (hw _ (List.mem_of_getElem? (i := 0) rfl)) e0 (g := (mkF m 28 #[.val (.int p1), .val (.int p2), .val (.int p3), .val (.int p4), .val (.int tc), .val (.int n), .unset, .unset, .unset] [(.int n)])) rfl (hb hby at_28) rfl (own_nb hn).1 (cap := 5) (own_nb hn).2 (by decide) (by decide) (by decide)
    obtain ⟨b1, g1⟩ : ∃ z, z = h0.size := ⟨_, rfl⟩
    have g_b1 : n0 ≤ b1 := Nat.le_trans (Nat.le_trans Z0 K0.1) (Nat.le_of_eq g1.symm)
    have sz_b1 : h0.size ≤ b1 := Nat.le_trans K0.1 (Nat.le_of_eq g1.symm)
    rw [← g1] at A1 st1
    have K1 : Keep h0 h1 [] := Keep.ext K0 E1
    have V_b1 : own_Ar Z h1 b1 k1 .int n (List.map Value.int (List.replicate (n).toNatClampNeg (0 : Int32))) (.int (0 : Int32)) := own_Ar.newI A1 (own_nb hn).1
    refine own_via st1 ?_
    show own_G p.tables e below _ (T1.setTop (mkF m 30 #[.val (.int p1), .val (.int p2), .val (.int p3), .val (.int p4), .val (.int tc), .val (.int n), .unset, .unset, .unset] [(.ref b1)]))
    refine own_via (S' := T1.setTop (mkF m 34 #[.val (.int p1), .val (.int p2), .val (.int p3), .val (.int p4), .val (.int tc), .val (.int n), .val (.ref b1), .unset, .unset] [(.int n)])) (fun t k => ?_) ?_
    · show Steps p.tables e below (T1.setTop (mkF m 30 #[.val (.int p1), .val (.int p2), .val (.int p3), .val (.int p4), .val (.int tc), .val (.int n), .unset, .unset, .unset] [(.ref b1)])) t
      refine XS.astore X1.here hx rfl (hb hby at_30) rfl rfl (l' := #[.val (.int p1), .val (.int p2), .val (.int p3), .val (.int p4), .val (.int tc), .val (.int n), .val (.ref b1), .unset, .unset]) rfl ?_
      show Steps p.tables e below (T1.setTop (mkF m 32 #[.val (.int p1), .val (.int p2), .val (.int p3), .val (.int p4), .val (.int tc), .val (.int n), .val (.ref b1), .unset, .unset] [])) t
      refine XS.iload X1.here hx rfl (hb hby at_32) rfl ?_
      exact k
    obtain ⟨T2, h2, k2, X2, e2, E2, A2, st2⟩ := newP X1 hx hZ (hw _ (List.mem_of_getElem? (i := 0) rfl)) e1 (g := (mkF m 34 #[.val (.int p1), .val (.int p2), .val (.int p3), .val (.int p4), .val (.int tc), .val (.int n), .val (.ref b1), .unset, .unset] [(.int n)])) rfl (hb hby at_34) rfl (own_nb hn).1 (cap := 5) (own_nb hn).2 (by decide) (by decide) (by decide)
    obtain ⟨b2, g2⟩ : ∃ z, z = h1.size := ⟨_, rfl⟩
    have ne_b1_b2 : b1 ≠ b2 := Nat.ne_of_lt (Nat.lt_of_lt_of_le (V_b1).lt (Nat.le_of_eq g2.symm))
    have g_b2 : n0 ≤ b2 := Nat.le_trans (Nat.le_trans Z0 K1.1) (Nat.le_of_eq g2.symm)
    have sz_b2 : h0.size ≤ b2 := Nat.le_trans K1.1 (Nat.le_of_eq g2.symm)
    rw [← g2] at A2 st2
    have K2 : Keep h0 h2 [] := Keep.ext K1 E2
    have V_b2 : own_Ar Z h2 b2 k2 .int n (List.map Value.int (List.replicate (n).toNatClampNeg (0 : Int32))) (.int (0 : Int32)) := own_Ar.newI A2 (own_nb hn).1
    refine own_via st2 ?_
    show own_G p.tables e below _ (T2.setTop (mkF m 36 #[.val (.int p1), .val (.int p2), .val (.int p3), .val (.int p4), .val (.int tc), .val (.int n), .val (.ref b1), .unset, .unset] [(.ref b2)]))
    refine own_via (S' := T2.setTop (mkF m 38 #[.val (.int p1), .val (.int p2), .val (.int p3), .val (.int p4), .val (.int tc), .val (.int n), .val (.ref b1), .val (.ref b2), .unset] [])) (fun t k => ?_) ?_
    · show Steps p.tables e below (T2.setTop (mkF m 36 #[.val (.int p1), .val (.int p2), .val (.int p3), .val (.int p4), .val (.int tc), .val (.int n), .val (.ref b1), .unset, .unset] [(.ref b2)])) t
      refine XS.astore X2.here hx rfl (hb hby at_36) rfl rfl (l' := #[.val (.int p1), .val (.int p2), .val (.int p3), .val (.int p4), .val (.int tc), .val (.int n), .val (.ref b1), .val (.ref b2), .unset]) rfl ?_
      exact k
    have J2 : ∀ (T : State) (h : Heap) (locs : List Loc) (xs ys : List Int32), Fr n0 locs → Stand p l e room_1 s m #[(.int p1), (.int p2), (.int p3), (.int p4)] below meth c T locs 2 10 → T.heap = h → n0 ≤ h.size → own_Ar Z h b1 k1 .int n (List.map Value.int xs) (.int (0 : Int32)) → own_Ar Z h b2 k2 .int n (List.map Value.int ys) (.int (0 : Int32)) → own_chk tc n xs → own_G p.tables e below (own_P s (Q0 Z p1 p2 p3 p4 h0 n0) 24 128) (T.setTop (mkF m 147 #[.val (.int p1), .val (.int p2), .val (.int p3), .val (.int p4), .val (.int tc), .val (.int n), .val (.ref b1), .val (.ref b2), .unset] [])) := by
      intro T h locs xs ys N X eT hsz V1 V3 hchk
      refine own_via (S' := T.setTop (mkF m 153 #[.val (.int p1), .val (.int p2), .val (.int p3), .val (.int p4), .val (.int tc), .val (.int n), .val (.ref b1), .val (.ref b2), .unset] [(.ref b2), (.int tc), (.ref b1)])) (fun t k => ?_) ?_
      · show Steps p.tables e below (T.setTop (mkF m 147 #[.val (.int p1), .val (.int p2), .val (.int p3), .val (.int p4), .val (.int tc), .val (.int n), .val (.ref b1), .val (.ref b2), .unset] [])) t
        refine XS.aload X.here hx rfl (hb hby at_147) rfl rfl ?_
        show Steps p.tables e below (T.setTop (mkF m 149 #[.val (.int p1), .val (.int p2), .val (.int p3), .val (.int p4), .val (.int tc), .val (.int n), .val (.ref b1), .val (.ref b2), .unset] [(.ref b1)])) t
        refine XS.iload X.here hx rfl (hb hby at_149) rfl ?_
        show Steps p.tables e below (T.setTop (mkF m 151 #[.val (.int p1), .val (.int p2), .val (.int p3), .val (.int p4), .val (.int tc), .val (.int n), .val (.ref b1), .val (.ref b2), .unset] [(.int tc), (.ref b1)])) t
        refine XS.aload X.here hx rfl (hb hby at_151) rfl rfl ?_
        exact k
      obtain ⟨_, _, ⟨T3, L3, k3, n3⟩, -, X3, ⟨Lc3, hQ3, l3, y3, z3⟩, st3⟩ := Jvm.LawKit.callS X hx (y := (⟨"com/example/fenceline/fenceline/Trace", "threads", "([II[I)[[I"⟩ : MethodName)) hown (mvT hZ (hw _ (List.mem_of_getElem? (i := 1) rfl))) (mvT hZ (hw _ (List.mem_of_getElem? (i := 2) rfl))) (mvT hZ (hw _ (List.mem_of_getElem? (i := 3) rfl))) (mvT hZ (hw _ (List.mem_of_getElem? (i := 4) rfl))) (by decide) (backOf (W := 0) (rm1 l Z a0 hw [] b1 tc b2 k1 k2 n xs ys h n0 hsz V1 V3 ne_b1_b2 g_b2 (own_tcB htc).1 (own_tcB htc).2 (fun i h0 h1 => hchk.1 i (own_i5 hn h0 h1) h1) (fun t h0 h1 => hchk.2.1 t (own_i4 htc h0 h1) h1) hchk.2.2.1) hZ (hw _ (List.mem_of_getElem? (i := 4) rfl)) (hw _ (List.mem_of_getElem? (i := 3) rfl)) (by decide) (by decide)) (g := (mkF m 153 #[.val (.int p1), .val (.int p2), .val (.int p3), .val (.int p4), .val (.int tc), .val (.int n), .val (.ref b1), .val (.ref b2), .unset] [(.ref b2), (.int tc), (.ref b1)])) rfl (by rw [hml]; rfl) (argsL := [(.ref b1), (.int tc), (.ref b2)]) (rest := []) (lenOf pd_2 rfl) rfl (by show 2 * 0 + _ ≤ _; exact Nat.le_of_eq rfl) (hb hby at_153) (fun _ _ => ⟨rfl, eT, (by decide : 2 + 6 ≤ _), (by decide : 10 + 28 ≤ _)⟩)
      dsimp only [Pt.U, Pt.locs, Pt.cells, Pt.slots] at X3 l3 y3 z3 st3 hQ3
      subst l3 y3 z3
      obtain ⟨ar3, kr3, bs3, rfl, Nq3, Kc3, Vq3, VR3, RW3, hbl3⟩ := hQ3
      have N3 := Fr.app N Nq3
      refine own_via st3 ?_
      show own_G p.tables e below _ (T3.setTop (mkF m 156 #[.val (.int p1), .val (.int p2), .val (.int p3), .val (.int p4), .val (.int tc), .val (.int n), .val (.ref b1), .val (.ref b2), .unset] [(.ref ar3)]))
      have hsz2 := Nat.le_trans hsz Kc3.1
      refine own_via (S' := T3.setTop (mkF m 160 #[.val (.int p1), .val (.int p2), .val (.int p3), .val (.int p4), .val (.int tc), .val (.int n), .val (.ref b1), .val (.ref b2), .val (.ref ar3)] [(.ref ar3)])) (fun t k => ?_) ?_
      · show Steps p.tables e below (T3.setTop (mkF m 156 #[.val (.int p1), .val (.int p2), .val (.int p3), .val (.int p4), .val (.int tc), .val (.int n), .val (.ref b1), .val (.ref b2), .unset] [(.ref ar3)])) t
        refine XS.astore X3.here hx rfl (hb hby at_156) rfl rfl (l' := #[.val (.int p1), .val (.int p2), .val (.int p3), .val (.int p4), .val (.int tc), .val (.int n), .val (.ref b1), .val (.ref b2), .val (.ref ar3)]) rfl ?_
        show Steps p.tables e below (T3.setTop (mkF m 158 #[.val (.int p1), .val (.int p2), .val (.int p3), .val (.int p4), .val (.int tc), .val (.int n), .val (.ref b1), .val (.ref b2), .val (.ref ar3)] [])) t
        refine XS.aload X3.here hx rfl (hb hby at_158) rfl rfl ?_
        exact k
      refine own_via (S' := T3.setTop (mkF m 163 #[.val (.int p1), .val (.int p2), .val (.int p3), .val (.int p4), .val (.int tc), .val (.int n), .val (.ref b1), .val (.ref b2), .val (.ref ar3)] [])) (fun t k => XS.ifnullNo (g := (mkF m 160 #[.val (.int p1), .val (.int p2), .val (.int p3), .val (.int p4), .val (.int tc), .val (.int n), .val (.ref b1), .val (.ref b2), .val (.ref ar3)] [(.ref ar3)])) X3.here hx rfl (hb hby at_160) rfl k) ?_
      refine own_via (S' := T3.setTop (mkF m 165 #[.val (.int p1), .val (.int p2), .val (.int p3), .val (.int p4), .val (.int tc), .val (.int n), .val (.ref b1), .val (.ref b2), .val (.ref ar3)] [(.ref ar3)])) (fun t k => ?_) ?_
      · show Steps p.tables e below (T3.setTop (mkF m 163 #[.val (.int p1), .val (.int p2), .val (.int p3), .val (.int p4), .val (.int tc), .val (.int n), .val (.ref b1), .val (.ref b2), .val (.ref ar3)] [])) t
        refine XS.aload X3.here hx rfl (hb hby at_163) rfl rfl ?_
        exact k
      obtain ⟨cl5, Ar5, q5, S5, Nn5, H5, G5⟩ := id VR3
      refine own_via (S' := T3.setTop (mkF m 166 #[.val (.int p1), .val (.int p2), .val (.int p3), .val (.int p4), .val (.int tc), .val (.int n), .val (.ref b1), .val (.ref b2), .val (.ref ar3)] [(.int tc)])) (fun t kz_ => X3.arraylength hx (by exact Ar5.1) (State.isArrayOf_alike hZ.alike Ar5.2.1) (g := (mkF m 165 #[.val (.int p1), .val (.int p2), .val (.int p3), .val (.int p4), .val (.int tc), .val (.int n), .val (.ref b1), .val (.ref b2), .val (.ref ar3)] [(.ref ar3)])) rfl rfl (hb hby at_165) _ (by rw [len_of S5 Nn5]; exact kz_)) ?_
      refine own_via (S' := T3.setTop (mkF m 168 #[.val (.int p1), .val (.int p2), .val (.int p3), .val (.int p4), .val (.int tc), .val (.int n), .val (.ref b1), .val (.ref b2), .val (.ref ar3)] [(.int tc), (.int tc)])) (fun t k => ?_) ?_
      · show Steps p.tables e below (T3.setTop (mkF m 166 #[.val (.int p1), .val (.int p2), .val (.int p3), .val (.int p4), .val (.int tc), .val (.int n), .val (.ref b1), .val (.ref b2), .val (.ref ar3)] [(.int tc)])) t
        refine XS.iload X3.here hx rfl (hb hby at_166) rfl ?_
        exact k
      refine own_via (S' := T3.setTop (mkF m 173 #[.val (.int p1), .val (.int p2), .val (.int p3), .val (.int p4), .val (.int tc), .val (.int n), .val (.ref b1), .val (.ref b2), .val (.ref ar3)] [])) (fun t k => XS.icmpYes (g := (mkF m 168 #[.val (.int p1), .val (.int p2), .val (.int p3), .val (.int p4), .val (.int tc), .val (.int n), .val (.ref b1), .val (.ref b2), .val (.ref ar3)] [(.int tc), (.int tc)])) X3.here hx rfl (pc0 := 168) (pc' := 173) rfl (hb hby at_168) rfl (teq (rfl : tc = tc)).1 (by decide) (by decide) k) ?_
      refine own_via (S' := T3.setTop (mkF m 182 #[.val (.int p1), .val (.int p2), .val (.int p3), .val (.int p4), .val (.int tc), .val (.int n), .val (.ref b1), .val (.ref b2), .val (.ref ar3)] [(.int (0 : Int32)), (.int n), (.ref ar3), (.ref b2), (.ref b1)])) (fun t k => ?_) ?_
      · show Steps p.tables e below (T3.setTop (mkF m 173 #[.val (.int p1), .val (.int p2), .val (.int p3), .val (.int p4), .val (.int tc), .val (.int n), .val (.ref b1), .val (.ref b2), .val (.ref ar3)] [])) t
        refine XS.aload X3.here hx rfl (hb hby at_173) rfl rfl ?_
        show Steps p.tables e below (T3.setTop (mkF m 175 #[.val (.int p1), .val (.int p2), .val (.int p3), .val (.int p4), .val (.int tc), .val (.int n), .val (.ref b1), .val (.ref b2), .val (.ref ar3)] [(.ref b1)])) t
        refine XS.aload X3.here hx rfl (hb hby at_175) rfl rfl ?_
        show Steps p.tables e below (T3.setTop (mkF m 177 #[.val (.int p1), .val (.int p2), .val (.int p3), .val (.int p4), .val (.int tc), .val (.int n), .val (.ref b1), .val (.ref b2), .val (.ref ar3)] [(.ref b2), (.ref b1)])) t
        refine XS.aload X3.here hx rfl (hb hby at_177) rfl rfl ?_
        show Steps p.tables e below (T3.setTop (mkF m 179 #[.val (.int p1), .val (.int p2), .val (.int p3), .val (.int p4), .val (.int tc), .val (.int n), .val (.ref b1), .val (.ref b2), .val (.ref ar3)] [(.ref ar3), (.ref b2), (.ref b1)])) t
        refine XS.iload X3.here hx rfl (hb hby at_179) rfl ?_
        show Steps p.tables e below (T3.setTop (mkF m 181 #[.val (.int p1), .val (.int p2), .val (.int p3), .val (.int p4), .val (.int tc), .val (.int n), .val (.ref b1), .val (.ref b2), .val (.ref ar3)] [(.int n), (.ref ar3), (.ref b2), (.ref b1)])) t
        refine XS.iconst X3.here hx rfl (hb hby at_181) ?_
        exact k
      have c7 := (own_Ar.keep V1 Kc3 (ninS ne_b1_b2 nin0))
      obtain ⟨_, _, ⟨T8, L8, k8, n8⟩, -, X8, ⟨Lc8, hQ8, l8, y8, z8⟩, st8⟩ := Jvm.LawKit.callS X3 hx (y := (⟨"com/example/fenceline/fenceline/TraceThreadsPinLaw", "opOk", "([I[I[[III)Z"⟩ : MethodName)) hown (mvT hZ (hw _ (List.mem_of_getElem? (i := 7) rfl))) (mvT hZ (hw _ (List.mem_of_getElem? (i := 8) rfl))) (mvT hZ (hw _ (List.mem_of_getElem? (i := 9) rfl))) (mvT hZ (hw _ (List.mem_of_getElem? (i := 10) rfl))) (by decide) (backOf (W := 0) (rm2 l Z a0 hw [] b1 b2 ar3 n (0 : Int32) tc k2 (own_res xs tc n).2.1 k1 kr3 xs bs3 (own_res xs tc n).2.2 (ar3 + 1) T3.heap n0 hsz2 c7 Vq3 VR3 RW3 hbl3 (by decide) (fun h1 => hchk.1 _ (by decide) h1) (fun h1 => hchk.2.2.2.1 _ (by decide) h1)) hZ (hw _ (List.mem_of_getElem? (i := 10) rfl)) (hw _ (List.mem_of_getElem? (i := 9) rfl)) (by decide) (by decide)) (g := (mkF m 182 #[.val (.int p1), .val (.int p2), .val (.int p3), .val (.int p4), .val (.int tc), .val (.int n), .val (.ref b1), .val (.ref b2), .val (.ref ar3)] [(.int (0 : Int32)), (.int n), (.ref ar3), (.ref b2), (.ref b1)])) rfl (by rw [hml]; rfl) (argsL := [(.ref b1), (.ref b2), (.ref ar3), (.int n), (.int (0 : Int32))]) (rest := []) (lenOf pd_3 rfl) rfl (by show 2 * 0 + _ ≤ _; exact Nat.le_of_eq rfl) (hb hby at_182) (fun _ _ => ⟨rfl, rfl, (by decide : 8 + 0 ≤ _), (by decide : 38 + 0 ≤ _)⟩)
      dsimp only [Pt.U, Pt.locs, Pt.cells, Pt.slots] at X8 l8 y8 z8 st8 hQ8
      subst l8 y8 z8
      obtain ⟨rfl, Nq8, hh8⟩ := hQ8
      have N8 := Fr.app N3 Nq8
      refine own_via st8 ?_
      show own_G p.tables e below _ (T8.setTop (mkF m 185 #[.val (.int p1), .val (.int p2), .val (.int p3), .val (.int p4), .val (.int tc), .val (.int n), .val (.ref b1), .val (.ref b2), .val (.ref ar3)] [(.int (1 : Int32))]))
      refine own_via (S' := T8.setTop (mkF m 188 #[.val (.int p1), .val (.int p2), .val (.int p3), .val (.int p4), .val (.int tc), .val (.int n), .val (.ref b1), .val (.ref b2), .val (.ref ar3)] [])) (fun t k => XS.ifNo (g := (mkF m 185 #[.val (.int p1), .val (.int p2), .val (.int p3), .val (.int p4), .val (.int tc), .val (.int n), .val (.ref b1), .val (.ref b2), .val (.ref ar3)] [(.int (1 : Int32))])) X8.here hx rfl (hb hby at_185) rfl ((if0 _ _).trans (feq (by decide : ¬ ((1 : Int32) = (0 : Int32)))).1) k) ?_
      refine own_via (S' := T8.setTop (mkF m 197 #[.val (.int p1), .val (.int p2), .val (.int p3), .val (.int p4), .val (.int tc), .val (.int n), .val (.ref b1), .val (.ref b2), .val (.ref ar3)] [(.int (1 : Int32)), (.int n), (.ref ar3), (.ref b2), (.ref b1)])) (fun t k => ?_) ?_
      · show Steps p.tables e below (T8.setTop (mkF m 188 #[.val (.int p1), .val (.int p2), .val (.int p3), .val (.int p4), .val (.int tc), .val (.int n), .val (.ref b1), .val (.ref b2), .val (.ref ar3)] [])) t
        refine XS.aload X8.here hx rfl (hb hby at_188) rfl rfl ?_
        show Steps p.tables e below (T8.setTop (mkF m 190 #[.val (.int p1), .val (.int p2), .val (.int p3), .val (.int p4), .val (.int tc), .val (.int n), .val (.ref b1), .val (.ref b2), .val (.ref ar3)] [(.ref b1)])) t
        refine XS.aload X8.here hx rfl (hb hby at_190) rfl rfl ?_
        show Steps p.tables e below (T8.setTop (mkF m 192 #[.val (.int p1), .val (.int p2), .val (.int p3), .val (.int p4), .val (.int tc), .val (.int n), .val (.ref b1), .val (.ref b2), .val (.ref ar3)] [(.ref b2), (.ref b1)])) t
        refine XS.aload X8.here hx rfl (hb hby at_192) rfl rfl ?_
        show Steps p.tables e below (T8.setTop (mkF m 194 #[.val (.int p1), .val (.int p2), .val (.int p3), .val (.int p4), .val (.int tc), .val (.int n), .val (.ref b1), .val (.ref b2), .val (.ref ar3)] [(.ref ar3), (.ref b2), (.ref b1)])) t
        refine XS.iload X8.here hx rfl (hb hby at_194) rfl ?_
        show Steps p.tables e below (T8.setTop (mkF m 196 #[.val (.int p1), .val (.int p2), .val (.int p3), .val (.int p4), .val (.int tc), .val (.int n), .val (.ref b1), .val (.ref b2), .val (.ref ar3)] [(.int n), (.ref ar3), (.ref b2), (.ref b1)])) t
        refine XS.iconst X8.here hx rfl (hb hby at_196) ?_
        exact k
      obtain ⟨_, _, ⟨T10, L10, k10, n10⟩, -, X10, ⟨Lc10, hQ10, l10, y10, z10⟩, st10⟩ := Jvm.LawKit.callS X8 hx (y := (⟨"com/example/fenceline/fenceline/TraceThreadsPinLaw", "opOk", "([I[I[[III)Z"⟩ : MethodName)) hown (mvT hZ (hw _ (List.mem_of_getElem? (i := 7) rfl))) (mvT hZ (hw _ (List.mem_of_getElem? (i := 8) rfl))) (mvT hZ (hw _ (List.mem_of_getElem? (i := 9) rfl))) (mvT hZ (hw _ (List.mem_of_getElem? (i := 10) rfl))) (by decide) (backOf (W := 0) (rm2 l Z a0 hw [] b1 b2 ar3 n (1 : Int32) tc k2 (own_res xs tc n).2.1 k1 kr3 xs bs3 (own_res xs tc n).2.2 (ar3 + 1) T3.heap n0 hsz2 c7 Vq3 VR3 RW3 hbl3 (by decide) (fun h1 => hchk.1 _ (by decide) h1) (fun h1 => hchk.2.2.2.1 _ (by decide) h1)) hZ (hw _ (List.mem_of_getElem? (i := 10) rfl)) (hw _ (List.mem_of_getElem? (i := 9) rfl)) (by decide) (by decide)) (g := (mkF m 197 #[.val (.int p1), .val (.int p2), .val (.int p3), .val (.int p4), .val (.int tc), .val (.int n), .val (.ref b1), .val (.ref b2), .val (.ref ar3)] [(.int (1 : Int32)), (.int n), (.ref ar3), (.ref b2), (.ref b1)])) rfl (by rw [hml]; rfl) (argsL := [(.ref b1), (.ref b2), (.ref ar3), (.int n), (.int (1 : Int32))]) (rest := []) (lenOf pd_3 rfl) rfl (by show 2 * 0 + _ ≤ _; exact Nat.le_of_eq rfl) (hb hby at_197) (fun _ _ => ⟨rfl, hh8, (by decide : 8 + 0 ≤ _), (by decide : 38 + 0 ≤ _)⟩)
      dsimp only [Pt.U, Pt.locs, Pt.cells, Pt.slots] at X10 l10 y10 z10 st10 hQ10
      subst l10 y10 z10
      obtain ⟨rfl, Nq10, hh10⟩ := hQ10
      have N10 := Fr.app N8 Nq10
      refine own_via st10 ?_
      show own_G p.tables e below _ (T10.setTop (mkF m 200 #[.val (.int p1), .val (.int p2), .val (.int p3), .val (.int p4), .val (.int tc), .val (.int n), .val (.ref b1), .val (.ref b2), .val (.ref ar3)] [(.int (1 : Int32))]))
      refine own_via (S' := T10.setTop (mkF m 203 #[.val (.int p1), .val (.int p2), .val (.int p3), .val (.int p4), .val (.int tc), .val (.int n), .val (.ref b1), .val (.ref b2), .val (.ref ar3)] [])) (fun t k => XS.ifNo (g := (mkF m 200 #[.val (.int p1), .val (.int p2), .val (.int p3), .val (.int p4), .val (.int tc), .val (.int n), .val (.ref b1), .val (.ref b2), .val (.ref ar3)] [(.int (1 : Int32))])) X10.here hx rfl (hb hby at_200) rfl ((if0 _ _).trans (feq (by decide : ¬ ((1 : Int32) = (0 : Int32)))).1) k) ?_
      refine own_via (S' := T10.setTop (mkF m 212 #[.val (.int p1), .val (.int p2), .val (.int p3), .val (.int p4), .val (.int tc), .val (.int n), .val (.ref b1), .val (.ref b2), .val (.ref ar3)] [(.int (2 : Int32)), (.int n), (.ref ar3), (.ref b2), (.ref b1)])) (fun t k => ?_) ?_
      · show Steps p.tables e below (T10.setTop (mkF m 203 #[.val (.int p1), .val (.int p2), .val (.int p3), .val (.int p4), .val (.int tc), .val (.int n), .val (.ref b1), .val (.ref b2), .val (.ref ar3)] [])) t
        refine XS.aload X10.here hx rfl (hb hby at_203) rfl rfl ?_
        show Steps p.tables e below (T10.setTop (mkF m 205 #[.val (.int p1), .val (.int p2), .val (.int p3), .val (.int p4), .val (.int tc), .val (.int n), .val (.ref b1), .val (.ref b2), .val (.ref ar3)] [(.ref b1)])) t
        refine XS.aload X10.here hx rfl (hb hby at_205) rfl rfl ?_
        show Steps p.tables e below (T10.setTop (mkF m 207 #[.val (.int p1), .val (.int p2), .val (.int p3), .val (.int p4), .val (.int tc), .val (.int n), .val (.ref b1), .val (.ref b2), .val (.ref ar3)] [(.ref b2), (.ref b1)])) t
        refine XS.aload X10.here hx rfl (hb hby at_207) rfl rfl ?_
        show Steps p.tables e below (T10.setTop (mkF m 209 #[.val (.int p1), .val (.int p2), .val (.int p3), .val (.int p4), .val (.int tc), .val (.int n), .val (.ref b1), .val (.ref b2), .val (.ref ar3)] [(.ref ar3), (.ref b2), (.ref b1)])) t
        refine XS.iload X10.here hx rfl (hb hby at_209) rfl ?_
        show Steps p.tables e below (T10.setTop (mkF m 211 #[.val (.int p1), .val (.int p2), .val (.int p3), .val (.int p4), .val (.int tc), .val (.int n), .val (.ref b1), .val (.ref b2), .val (.ref ar3)] [(.int n), (.ref ar3), (.ref b2), (.ref b1)])) t
        refine XS.iconst X10.here hx rfl (hb hby at_211) ?_
        exact k
      obtain ⟨_, _, ⟨T12, L12, k12, n12⟩, -, X12, ⟨Lc12, hQ12, l12, y12, z12⟩, st12⟩ := Jvm.LawKit.callS X10 hx (y := (⟨"com/example/fenceline/fenceline/TraceThreadsPinLaw", "opOk", "([I[I[[III)Z"⟩ : MethodName)) hown (mvT hZ (hw _ (List.mem_of_getElem? (i := 7) rfl))) (mvT hZ (hw _ (List.mem_of_getElem? (i := 8) rfl))) (mvT hZ (hw _ (List.mem_of_getElem? (i := 9) rfl))) (mvT hZ (hw _ (List.mem_of_getElem? (i := 10) rfl))) (by decide) (backOf (W := 0) (rm2 l Z a0 hw [] b1 b2 ar3 n (2 : Int32) tc k2 (own_res xs tc n).2.1 k1 kr3 xs bs3 (own_res xs tc n).2.2 (ar3 + 1) T3.heap n0 hsz2 c7 Vq3 VR3 RW3 hbl3 (by decide) (fun h1 => hchk.1 _ (by decide) h1) (fun h1 => hchk.2.2.2.1 _ (by decide) h1)) hZ (hw _ (List.mem_of_getElem? (i := 10) rfl)) (hw _ (List.mem_of_getElem? (i := 9) rfl)) (by decide) (by decide)) (g := (mkF m 212 #[.val (.int p1), .val (.int p2), .val (.int p3), .val (.int p4), .val (.int tc), .val (.int n), .val (.ref b1), .val (.ref b2), .val (.ref ar3)] [(.int (2 : Int32)), (.int n), (.ref ar3), (.ref b2), (.ref b1)])) rfl (by rw [hml]; rfl) (argsL := [(.ref b1), (.ref b2), (.ref ar3), (.int n), (.int (2 : Int32))]) (rest := []) (lenOf pd_3 rfl) rfl (by show 2 * 0 + _ ≤ _; exact Nat.le_of_eq rfl) (hb hby at_212) (fun _ _ => ⟨rfl, hh10, (by decide : 8 + 0 ≤ _), (by decide : 38 + 0 ≤ _)⟩)
      dsimp only [Pt.U, Pt.locs, Pt.cells, Pt.slots] at X12 l12 y12 z12 st12 hQ12
      subst l12 y12 z12
      obtain ⟨rfl, Nq12, hh12⟩ := hQ12
      have N12 := Fr.app N10 Nq12
      refine own_via st12 ?_
      show own_G p.tables e below _ (T12.setTop (mkF m 215 #[.val (.int p1), .val (.int p2), .val (.int p3), .val (.int p4), .val (.int tc), .val (.int n), .val (.ref b1), .val (.ref b2), .val (.ref ar3)] [(.int (1 : Int32))]))
      refine own_via (S' := T12.setTop (mkF m 218 #[.val (.int p1), .val (.int p2), .val (.int p3), .val (.int p4), .val (.int tc), .val (.int n), .val (.ref b1), .val (.ref b2), .val (.ref ar3)] [])) (fun t k => XS.ifNo (g := (mkF m 215 #[.val (.int p1), .val (.int p2), .val (.int p3), .val (.int p4), .val (.int tc), .val (.int n), .val (.ref b1), .val (.ref b2), .val (.ref ar3)] [(.int (1 : Int32))])) X12.here hx rfl (hb hby at_215) rfl ((if0 _ _).trans (feq (by decide : ¬ ((1 : Int32) = (0 : Int32)))).1) k) ?_
      refine own_via (S' := T12.setTop (mkF m 227 #[.val (.int p1), .val (.int p2), .val (.int p3), .val (.int p4), .val (.int tc), .val (.int n), .val (.ref b1), .val (.ref b2), .val (.ref ar3)] [(.int (3 : Int32)), (.int n), (.ref ar3), (.ref b2), (.ref b1)])) (fun t k => ?_) ?_
      · show Steps p.tables e below (T12.setTop (mkF m 218 #[.val (.int p1), .val (.int p2), .val (.int p3), .val (.int p4), .val (.int tc), .val (.int n), .val (.ref b1), .val (.ref b2), .val (.ref ar3)] [])) t
        refine XS.aload X12.here hx rfl (hb hby at_218) rfl rfl ?_
        show Steps p.tables e below (T12.setTop (mkF m 220 #[.val (.int p1), .val (.int p2), .val (.int p3), .val (.int p4), .val (.int tc), .val (.int n), .val (.ref b1), .val (.ref b2), .val (.ref ar3)] [(.ref b1)])) t
        refine XS.aload X12.here hx rfl (hb hby at_220) rfl rfl ?_
        show Steps p.tables e below (T12.setTop (mkF m 222 #[.val (.int p1), .val (.int p2), .val (.int p3), .val (.int p4), .val (.int tc), .val (.int n), .val (.ref b1), .val (.ref b2), .val (.ref ar3)] [(.ref b2), (.ref b1)])) t
        refine XS.aload X12.here hx rfl (hb hby at_222) rfl rfl ?_
        show Steps p.tables e below (T12.setTop (mkF m 224 #[.val (.int p1), .val (.int p2), .val (.int p3), .val (.int p4), .val (.int tc), .val (.int n), .val (.ref b1), .val (.ref b2), .val (.ref ar3)] [(.ref ar3), (.ref b2), (.ref b1)])) t
        refine XS.iload X12.here hx rfl (hb hby at_224) rfl ?_
        show Steps p.tables e below (T12.setTop (mkF m 226 #[.val (.int p1), .val (.int p2), .val (.int p3), .val (.int p4), .val (.int tc), .val (.int n), .val (.ref b1), .val (.ref b2), .val (.ref ar3)] [(.int n), (.ref ar3), (.ref b2), (.ref b1)])) t
        refine XS.iconst X12.here hx rfl (hb hby at_226) ?_
        exact k
      obtain ⟨_, _, ⟨T14, L14, k14, n14⟩, -, X14, ⟨Lc14, hQ14, l14, y14, z14⟩, st14⟩ := Jvm.LawKit.callS X12 hx (y := (⟨"com/example/fenceline/fenceline/TraceThreadsPinLaw", "opOk", "([I[I[[III)Z"⟩ : MethodName)) hown (mvT hZ (hw _ (List.mem_of_getElem? (i := 7) rfl))) (mvT hZ (hw _ (List.mem_of_getElem? (i := 8) rfl))) (mvT hZ (hw _ (List.mem_of_getElem? (i := 9) rfl))) (mvT hZ (hw _ (List.mem_of_getElem? (i := 10) rfl))) (by decide) (backOf (W := 0) (rm2 l Z a0 hw [] b1 b2 ar3 n (3 : Int32) tc k2 (own_res xs tc n).2.1 k1 kr3 xs bs3 (own_res xs tc n).2.2 (ar3 + 1) T3.heap n0 hsz2 c7 Vq3 VR3 RW3 hbl3 (by decide) (fun h1 => hchk.1 _ (by decide) h1) (fun h1 => hchk.2.2.2.1 _ (by decide) h1)) hZ (hw _ (List.mem_of_getElem? (i := 10) rfl)) (hw _ (List.mem_of_getElem? (i := 9) rfl)) (by decide) (by decide)) (g := (mkF m 227 #[.val (.int p1), .val (.int p2), .val (.int p3), .val (.int p4), .val (.int tc), .val (.int n), .val (.ref b1), .val (.ref b2), .val (.ref ar3)] [(.int (3 : Int32)), (.int n), (.ref ar3), (.ref b2), (.ref b1)])) rfl (by rw [hml]; rfl) (argsL := [(.ref b1), (.ref b2), (.ref ar3), (.int n), (.int (3 : Int32))]) (rest := []) (lenOf pd_3 rfl) rfl (by show 2 * 0 + _ ≤ _; exact Nat.le_of_eq rfl) (hb hby at_227) (fun _ _ => ⟨rfl, hh12, (by decide : 8 + 0 ≤ _), (by decide : 38 + 0 ≤ _)⟩)
      dsimp only [Pt.U, Pt.locs, Pt.cells, Pt.slots] at X14 l14 y14 z14 st14 hQ14
      subst l14 y14 z14
      obtain ⟨rfl, Nq14, hh14⟩ := hQ14
      have N14 := Fr.app N12 Nq14
      refine own_via st14 ?_
      show own_G p.tables e below _ (T14.setTop (mkF m 230 #[.val (.int p1), .val (.int p2), .val (.int p3), .val (.int p4), .val (.int tc), .val (.int n), .val (.ref b1), .val (.ref b2), .val (.ref ar3)] [(.int (1 : Int32))]))
      refine own_via (S' := T14.setTop (mkF m 233 #[.val (.int p1), .val (.int p2), .val (.int p3), .val (.int p4), .val (.int tc), .val (.int n), .val (.ref b1), .val (.ref b2), .val (.ref ar3)] [])) (fun t k => XS.ifNo (g := (mkF m 230 #[.val (.int p1), .val (.int p2), .val (.int p3), .val (.int p4), .val (.int tc), .val (.int n), .val (.ref b1), .val (.ref b2), .val (.ref ar3)] [(.int (1 : Int32))])) X14.here hx rfl (hb hby at_230) rfl ((if0 _ _).trans (feq (by decide : ¬ ((1 : Int32) = (0 : Int32)))).1) k) ?_
      refine own_via (S' := T14.setTop (mkF m 242 #[.val (.int p1), .val (.int p2), .val (.int p3), .val (.int p4), .val (.int tc), .val (.int n), .val (.ref b1), .val (.ref b2), .val (.ref ar3)] [(.int (4 : Int32)), (.int n), (.ref ar3), (.ref b2), (.ref b1)])) (fun t k => ?_) ?_
      · show Steps p.tables e below (T14.setTop (mkF m 233 #[.val (.int p1), .val (.int p2), .val (.int p3), .val (.int p4), .val (.int tc), .val (.int n), .val (.ref b1), .val (.ref b2), .val (.ref ar3)] [])) t
        refine XS.aload X14.here hx rfl (hb hby at_233) rfl rfl ?_
        show Steps p.tables e below (T14.setTop (mkF m 235 #[.val (.int p1), .val (.int p2), .val (.int p3), .val (.int p4), .val (.int tc), .val (.int n), .val (.ref b1), .val (.ref b2), .val (.ref ar3)] [(.ref b1)])) t
        refine XS.aload X14.here hx rfl (hb hby at_235) rfl rfl ?_
        show Steps p.tables e below (T14.setTop (mkF m 237 #[.val (.int p1), .val (.int p2), .val (.int p3), .val (.int p4), .val (.int tc), .val (.int n), .val (.ref b1), .val (.ref b2), .val (.ref ar3)] [(.ref b2), (.ref b1)])) t
        refine XS.aload X14.here hx rfl (hb hby at_237) rfl rfl ?_
        show Steps p.tables e below (T14.setTop (mkF m 239 #[.val (.int p1), .val (.int p2), .val (.int p3), .val (.int p4), .val (.int tc), .val (.int n), .val (.ref b1), .val (.ref b2), .val (.ref ar3)] [(.ref ar3), (.ref b2), (.ref b1)])) t
        refine XS.iload X14.here hx rfl (hb hby at_239) rfl ?_
        show Steps p.tables e below (T14.setTop (mkF m 241 #[.val (.int p1), .val (.int p2), .val (.int p3), .val (.int p4), .val (.int tc), .val (.int n), .val (.ref b1), .val (.ref b2), .val (.ref ar3)] [(.int n), (.ref ar3), (.ref b2), (.ref b1)])) t
        refine XS.iconst X14.here hx rfl (hb hby at_241) ?_
        exact k
      obtain ⟨_, _, ⟨T16, L16, k16, n16⟩, -, X16, ⟨Lc16, hQ16, l16, y16, z16⟩, st16⟩ := Jvm.LawKit.callS X14 hx (y := (⟨"com/example/fenceline/fenceline/TraceThreadsPinLaw", "opOk", "([I[I[[III)Z"⟩ : MethodName)) hown (mvT hZ (hw _ (List.mem_of_getElem? (i := 7) rfl))) (mvT hZ (hw _ (List.mem_of_getElem? (i := 8) rfl))) (mvT hZ (hw _ (List.mem_of_getElem? (i := 9) rfl))) (mvT hZ (hw _ (List.mem_of_getElem? (i := 10) rfl))) (by decide) (backOf (W := 0) (rm2 l Z a0 hw [] b1 b2 ar3 n (4 : Int32) tc k2 (own_res xs tc n).2.1 k1 kr3 xs bs3 (own_res xs tc n).2.2 (ar3 + 1) T3.heap n0 hsz2 c7 Vq3 VR3 RW3 hbl3 (by decide) (fun h1 => hchk.1 _ (by decide) h1) (fun h1 => hchk.2.2.2.1 _ (by decide) h1)) hZ (hw _ (List.mem_of_getElem? (i := 10) rfl)) (hw _ (List.mem_of_getElem? (i := 9) rfl)) (by decide) (by decide)) (g := (mkF m 242 #[.val (.int p1), .val (.int p2), .val (.int p3), .val (.int p4), .val (.int tc), .val (.int n), .val (.ref b1), .val (.ref b2), .val (.ref ar3)] [(.int (4 : Int32)), (.int n), (.ref ar3), (.ref b2), (.ref b1)])) rfl (by rw [hml]; rfl) (argsL := [(.ref b1), (.ref b2), (.ref ar3), (.int n), (.int (4 : Int32))]) (rest := []) (lenOf pd_3 rfl) rfl (by show 2 * 0 + _ ≤ _; exact Nat.le_of_eq rfl) (hb hby at_242) (fun _ _ => ⟨rfl, hh14, (by decide : 8 + 0 ≤ _), (by decide : 38 + 0 ≤ _)⟩)
      dsimp only [Pt.U, Pt.locs, Pt.cells, Pt.slots] at X16 l16 y16 z16 st16 hQ16
      subst l16 y16 z16
      obtain ⟨rfl, Nq16, hh16⟩ := hQ16
      have N16 := Fr.app N14 Nq16
      refine own_via st16 ?_
      show own_G p.tables e below _ (T16.setTop (mkF m 245 #[.val (.int p1), .val (.int p2), .val (.int p3), .val (.int p4), .val (.int tc), .val (.int n), .val (.ref b1), .val (.ref b2), .val (.ref ar3)] [(.int (1 : Int32))]))
      refine own_via (S' := T16.setTop (mkF m 248 #[.val (.int p1), .val (.int p2), .val (.int p3), .val (.int p4), .val (.int tc), .val (.int n), .val (.ref b1), .val (.ref b2), .val (.ref ar3)] [])) (fun t k => XS.ifNo (g := (mkF m 245 #[.val (.int p1), .val (.int p2), .val (.int p3), .val (.int p4), .val (.int tc), .val (.int n), .val (.ref b1), .val (.ref b2), .val (.ref ar3)] [(.int (1 : Int32))])) X16.here hx rfl (hb hby at_245) rfl ((if0 _ _).trans (feq (by decide : ¬ ((1 : Int32) = (0 : Int32)))).1) k) ?_
      refine own_via (S' := T16.setTop (mkF m 257 #[.val (.int p1), .val (.int p2), .val (.int p3), .val (.int p4), .val (.int tc), .val (.int n), .val (.ref b1), .val (.ref b2), .val (.ref ar3)] [(.int (0 : Int32)), (.int tc), (.int n), (.ref b1), (.ref ar3)])) (fun t k => ?_) ?_
      · show Steps p.tables e below (T16.setTop (mkF m 248 #[.val (.int p1), .val (.int p2), .val (.int p3), .val (.int p4), .val (.int tc), .val (.int n), .val (.ref b1), .val (.ref b2), .val (.ref ar3)] [])) t
        refine XS.aload X16.here hx rfl (hb hby at_248) rfl rfl ?_
        show Steps p.tables e below (T16.setTop (mkF m 250 #[.val (.int p1), .val (.int p2), .val (.int p3), .val (.int p4), .val (.int tc), .val (.int n), .val (.ref b1), .val (.ref b2), .val (.ref ar3)] [(.ref ar3)])) t
        refine XS.aload X16.here hx rfl (hb hby at_250) rfl rfl ?_
        show Steps p.tables e below (T16.setTop (mkF m 252 #[.val (.int p1), .val (.int p2), .val (.int p3), .val (.int p4), .val (.int tc), .val (.int n), .val (.ref b1), .val (.ref b2), .val (.ref ar3)] [(.ref b1), (.ref ar3)])) t
        refine XS.iload X16.here hx rfl (hb hby at_252) rfl ?_
        show Steps p.tables e below (T16.setTop (mkF m 254 #[.val (.int p1), .val (.int p2), .val (.int p3), .val (.int p4), .val (.int tc), .val (.int n), .val (.ref b1), .val (.ref b2), .val (.ref ar3)] [(.int n), (.ref b1), (.ref ar3)])) t
        refine XS.iload X16.here hx rfl (hb hby at_254) rfl ?_
        show Steps p.tables e below (T16.setTop (mkF m 256 #[.val (.int p1), .val (.int p2), .val (.int p3), .val (.int p4), .val (.int tc), .val (.int n), .val (.ref b1), .val (.ref b2), .val (.ref ar3)] [(.int tc), (.int n), (.ref b1), (.ref ar3)])) t
        refine XS.iconst X16.here hx rfl (hb hby at_256) ?_
        exact k
      obtain ⟨_, _, ⟨T18, L18, k18, n18⟩, -, X18, ⟨Lc18, hQ18, l18, y18, z18⟩, st18⟩ := Jvm.LawKit.callS X16 hx (y := (⟨"com/example/fenceline/fenceline/TraceThreadsPinLaw", "lenOk", "([[I[IIII)Z"⟩ : MethodName)) hown (mvT hZ (hw _ (List.mem_of_getElem? (i := 11) rfl))) (mvT hZ (hw _ (List.mem_of_getElem? (i := 12) rfl))) (mvT hZ (hw _ (List.mem_of_getElem? (i := 9) rfl))) (mvT hZ (hw _ (List.mem_of_getElem? (i := 13) rfl))) (by decide) (backOf (W := 0) (rm3 l Z a0 hw [] ar3 b1 n tc (0 : Int32) k1 kr3 xs bs3 (own_res xs tc n).2.2 (ar3 + 1) T3.heap n0 hsz2 c7 VR3 RW3 hbl3 (by decide) (fun h1 => hchk.2.2.2.2 _ (by decide) h1)) hZ (hw _ (List.mem_of_getElem? (i := 13) rfl)) (hw _ (List.mem_of_getElem? (i := 9) rfl)) (by decide) (by decide)) (g := (mkF m 257 #[.val (.int p1), .val (.int p2), .val (.int p3), .val (.int p4), .val (.int tc), .val (.int n), .val (.ref b1), .val (.ref b2), .val (.ref ar3)] [(.int (0 : Int32)), (.int tc), (.int n), (.ref b1), (.ref ar3)])) rfl (by rw [hml]; rfl) (argsL := [(.ref ar3), (.ref b1), (.int n), (.int tc), (.int (0 : Int32))]) (rest := []) (lenOf pd_4 rfl) rfl (by show 2 * 0 + _ ≤ _; exact Nat.le_of_eq rfl) (hb hby at_257) (fun _ _ => ⟨rfl, hh16, (by decide : 8 + 0 ≤ _), (by decide : 38 + 0 ≤ _)⟩)
      dsimp only [Pt.U, Pt.locs, Pt.cells, Pt.slots] at X18 l18 y18 z18 st18 hQ18
      subst l18 y18 z18
      obtain ⟨rfl, Nq18, hh18⟩ := hQ18
      have N18 := Fr.app N16 Nq18
      refine own_via st18 ?_
      show own_G p.tables e below _ (T18.setTop (mkF m 260 #[.val (.int p1), .val (.int p2), .val (.int p3), .val (.int p4), .val (.int tc), .val (.int n), .val (.ref b1), .val (.ref b2), .val (.ref ar3)] [(.int (1 : Int32))]))
      refine own_via (S' := T18.setTop (mkF m 263 #[.val (.int p1), .val (.int p2), .val (.int p3), .val (.int p4), .val (.int tc), .val (.int n), .val (.ref b1), .val (.ref b2), .val (.ref ar3)] [])) (fun t k => XS.ifNo (g := (mkF m 260 #[.val (.int p1), .val (.int p2), .val (.int p3), .val (.int p4), .val (.int tc), .val (.int n), .val (.ref b1), .val (.ref b2), .val (.ref ar3)] [(.int (1 : Int32))])) X18.here hx rfl (hb hby at_260) rfl ((if0 _ _).trans (feq (by decide : ¬ ((1 : Int32) = (0 : Int32)))).1) k) ?_
      refine own_via (S' := T18.setTop (mkF m 272 #[.val (.int p1), .val (.int p2), .val (.int p3), .val (.int p4), .val (.int tc), .val (.int n), .val (.ref b1), .val (.ref b2), .val (.ref ar3)] [(.int (1 : Int32)), (.int tc), (.int n), (.ref b1), (.ref ar3)])) (fun t k => ?_) ?_
      · show Steps p.tables e below (T18.setTop (mkF m 263 #[.val (.int p1), .val (.int p2), .val (.int p3), .val (.int p4), .val (.int tc), .val (.int n), .val (.ref b1), .val (.ref b2), .val (.ref ar3)] [])) t
        refine XS.aload X18.here hx rfl (hb hby at_263) rfl rfl ?_
        show Steps p.tables e below (T18.setTop (mkF m 265 #[.val (.int p1), .val (.int p2), .val (.int p3), .val (.int p4), .val (.int tc), .val (.int n), .val (.ref b1), .val (.ref b2), .val (.ref ar3)] [(.ref ar3)])) t
        refine XS.aload X18.here hx rfl (hb hby at_265) rfl rfl ?_
        show Steps p.tables e below (T18.setTop (mkF m 267 #[.val (.int p1), .val (.int p2), .val (.int p3), .val (.int p4), .val (.int tc), .val (.int n), .val (.ref b1), .val (.ref b2), .val (.ref ar3)] [(.ref b1), (.ref ar3)])) t
        refine XS.iload X18.here hx rfl (hb hby at_267) rfl ?_
        show Steps p.tables e below (T18.setTop (mkF m 269 #[.val (.int p1), .val (.int p2), .val (.int p3), .val (.int p4), .val (.int tc), .val (.int n), .val (.ref b1), .val (.ref b2), .val (.ref ar3)] [(.int n), (.ref b1), (.ref ar3)])) t
        refine XS.iload X18.here hx rfl (hb hby at_269) rfl ?_
        show Steps p.tables e below (T18.setTop (mkF m 271 #[.val (.int p1), .val (.int p2), .val (.int p3), .val (.int p4), .val (.int tc), .val (.int n), .val (.ref b1), .val (.ref b2), .val (.ref ar3)] [(.int tc), (.int n), (.ref b1), (.ref ar3)])) t
        refine XS.iconst X18.here hx rfl (hb hby at_271) ?_
        exact k
      obtain ⟨_, _, ⟨T20, L20, k20, n20⟩, -, X20, ⟨Lc20, hQ20, l20, y20, z20⟩, st20⟩ := Jvm.LawKit.callS X18 hx (y := (⟨"com/example/fenceline/fenceline/TraceThreadsPinLaw", "lenOk", "([[I[IIII)Z"⟩ : MethodName)) hown (mvT hZ (hw _ (List.mem_of_getElem? (i := 11) rfl))) (mvT hZ (hw _ (List.mem_of_getElem? (i := 12) rfl))) (mvT hZ (hw _ (List.mem_of_getElem? (i := 9) rfl))) (mvT hZ (hw _ (List.mem_of_getElem? (i := 13) rfl))) (by decide) (backOf (W := 0) (rm3 l Z a0 hw [] ar3 b1 n tc (1 : Int32) k1 kr3 xs bs3 (own_res xs tc n).2.2 (ar3 + 1) T3.heap n0 hsz2 c7 VR3 RW3 hbl3 (by decide) (fun h1 => hchk.2.2.2.2 _ (by decide) h1)) hZ (hw _ (List.mem_of_getElem? (i := 13) rfl)) (hw _ (List.mem_of_getElem? (i := 9) rfl)) (by decide) (by decide)) (g := (mkF m 272 #[.val (.int p1), .val (.int p2), .val (.int p3), .val (.int p4), .val (.int tc), .val (.int n), .val (.ref b1), .val (.ref b2), .val (.ref ar3)] [(.int (1 : Int32)), (.int tc), (.int n), (.ref b1), (.ref ar3)])) rfl (by rw [hml]; rfl) (argsL := [(.ref ar3), (.ref b1), (.int n), (.int tc), (.int (1 : Int32))]) (rest := []) (lenOf pd_4 rfl) rfl (by show 2 * 0 + _ ≤ _; exact Nat.le_of_eq rfl) (hb hby at_272) (fun _ _ => ⟨rfl, hh18, (by decide : 8 + 0 ≤ _), (by decide : 38 + 0 ≤ _)⟩)
      dsimp only [Pt.U, Pt.locs, Pt.cells, Pt.slots] at X20 l20 y20 z20 st20 hQ20
      subst l20 y20 z20
      obtain ⟨rfl, Nq20, hh20⟩ := hQ20
      have N20 := Fr.app N18 Nq20
      refine own_via st20 ?_
      show own_G p.tables e below _ (T20.setTop (mkF m 275 #[.val (.int p1), .val (.int p2), .val (.int p3), .val (.int p4), .val (.int tc), .val (.int n), .val (.ref b1), .val (.ref b2), .val (.ref ar3)] [(.int (1 : Int32))]))
      refine own_via (S' := T20.setTop (mkF m 278 #[.val (.int p1), .val (.int p2), .val (.int p3), .val (.int p4), .val (.int tc), .val (.int n), .val (.ref b1), .val (.ref b2), .val (.ref ar3)] [])) (fun t k => XS.ifNo (g := (mkF m 275 #[.val (.int p1), .val (.int p2), .val (.int p3), .val (.int p4), .val (.int tc), .val (.int n), .val (.ref b1), .val (.ref b2), .val (.ref ar3)] [(.int (1 : Int32))])) X20.here hx rfl (hb hby at_275) rfl ((if0 _ _).trans (feq (by decide : ¬ ((1 : Int32) = (0 : Int32)))).1) k) ?_
      refine own_via (S' := T20.setTop (mkF m 287 #[.val (.int p1), .val (.int p2), .val (.int p3), .val (.int p4), .val (.int tc), .val (.int n), .val (.ref b1), .val (.ref b2), .val (.ref ar3)] [(.int (2 : Int32)), (.int tc), (.int n), (.ref b1), (.ref ar3)])) (fun t k => ?_) ?_
      · show Steps p.tables e below (T20.setTop (mkF m 278 #[.val (.int p1), .val (.int p2), .val (.int p3), .val (.int p4), .val (.int tc), .val (.int n), .val (.ref b1), .val (.ref b2), .val (.ref ar3)] [])) t
        refine XS.aload X20.here hx rfl (hb hby at_278) rfl rfl ?_
        show Steps p.tables e below (T20.setTop (mkF m 280 #[.val (.int p1), .val (.int p2), .val (.int p3), .val (.int p4), .val (.int tc), .val (.int n), .val (.ref b1), .val (.ref b2), .val (.ref ar3)] [(.ref ar3)])) t
        refine XS.aload X20.here hx rfl (hb hby at_280) rfl rfl ?_
        show Steps p.tables e below (T20.setTop (mkF m 282 #[.val (.int p1), .val (.int p2), .val (.int p3), .val (.int p4), .val (.int tc), .val (.int n), .val (.ref b1), .val (.ref b2), .val (.ref ar3)] [(.ref b1), (.ref ar3)])) t
        refine XS.iload X20.here hx rfl (hb hby at_282) rfl ?_
        show Steps p.tables e below (T20.setTop (mkF m 284 #[.val (.int p1), .val (.int p2), .val (.int p3), .val (.int p4), .val (.int tc), .val (.int n), .val (.ref b1), .val (.ref b2), .val (.ref ar3)] [(.int n), (.ref b1), (.ref ar3)])) t
        refine XS.iload X20.here hx rfl (hb hby at_284) rfl ?_
        show Steps p.tables e below (T20.setTop (mkF m 286 #[.val (.int p1), .val (.int p2), .val (.int p3), .val (.int p4), .val (.int tc), .val (.int n), .val (.ref b1), .val (.ref b2), .val (.ref ar3)] [(.int tc), (.int n), (.ref b1), (.ref ar3)])) t
        refine XS.iconst X20.here hx rfl (hb hby at_286) ?_
        exact k
      obtain ⟨_, _, ⟨T22, L22, k22, n22⟩, -, X22, ⟨Lc22, hQ22, l22, y22, z22⟩, st22⟩ := Jvm.LawKit.callS X20 hx (y := (⟨"com/example/fenceline/fenceline/TraceThreadsPinLaw", "lenOk", "([[I[IIII)Z"⟩ : MethodName)) hown (mvT hZ (hw _ (List.mem_of_getElem? (i := 11) rfl))) (mvT hZ (hw _ (List.mem_of_getElem? (i := 12) rfl))) (mvT hZ (hw _ (List.mem_of_getElem? (i := 9) rfl))) (mvT hZ (hw _ (List.mem_of_getElem? (i := 13) rfl))) (by decide) (backOf (W := 0) (rm3 l Z a0 hw [] ar3 b1 n tc (2 : Int32) k1 kr3 xs bs3 (own_res xs tc n).2.2 (ar3 + 1) T3.heap n0 hsz2 c7 VR3 RW3 hbl3 (by decide) (fun h1 => hchk.2.2.2.2 _ (by decide) h1)) hZ (hw _ (List.mem_of_getElem? (i := 13) rfl)) (hw _ (List.mem_of_getElem? (i := 9) rfl)) (by decide) (by decide)) (g := (mkF m 287 #[.val (.int p1), .val (.int p2), .val (.int p3), .val (.int p4), .val (.int tc), .val (.int n), .val (.ref b1), .val (.ref b2), .val (.ref ar3)] [(.int (2 : Int32)), (.int tc), (.int n), (.ref b1), (.ref ar3)])) rfl (by rw [hml]; rfl) (argsL := [(.ref ar3), (.ref b1), (.int n), (.int tc), (.int (2 : Int32))]) (rest := []) (lenOf pd_4 rfl) rfl (by show 2 * 0 + _ ≤ _; exact Nat.le_of_eq rfl) (hb hby at_287) (fun _ _ => ⟨rfl, hh20, (by decide : 8 + 0 ≤ _), (by decide : 38 + 0 ≤ _)⟩)
      dsimp only [Pt.U, Pt.locs, Pt.cells, Pt.slots] at X22 l22 y22 z22 st22 hQ22
      subst l22 y22 z22
      obtain ⟨rfl, Nq22, hh22⟩ := hQ22
      have N22 := Fr.app N20 Nq22
      refine own_via st22 ?_
      show own_G p.tables e below _ (T22.setTop (mkF m 290 #[.val (.int p1), .val (.int p2), .val (.int p3), .val (.int p4), .val (.int tc), .val (.int n), .val (.ref b1), .val (.ref b2), .val (.ref ar3)] [(.int (1 : Int32))]))
      refine own_via (S' := T22.setTop (mkF m 293 #[.val (.int p1), .val (.int p2), .val (.int p3), .val (.int p4), .val (.int tc), .val (.int n), .val (.ref b1), .val (.ref b2), .val (.ref ar3)] [])) (fun t k => XS.ifNo (g := (mkF m 290 #[.val (.int p1), .val (.int p2), .val (.int p3), .val (.int p4), .val (.int tc), .val (.int n), .val (.ref b1), .val (.ref b2), .val (.ref ar3)] [(.int (1 : Int32))])) X22.here hx rfl (hb hby at_290) rfl ((if0 _ _).trans (feq (by decide : ¬ ((1 : Int32) = (0 : Int32)))).1) k) ?_
      refine own_via (S' := T22.setTop (mkF m 302 #[.val (.int p1), .val (.int p2), .val (.int p3), .val (.int p4), .val (.int tc), .val (.int n), .val (.ref b1), .val (.ref b2), .val (.ref ar3)] [(.int (3 : Int32)), (.int tc), (.int n), (.ref b1), (.ref ar3)])) (fun t k => ?_) ?_
      · show Steps p.tables e below (T22.setTop (mkF m 293 #[.val (.int p1), .val (.int p2), .val (.int p3), .val (.int p4), .val (.int tc), .val (.int n), .val (.ref b1), .val (.ref b2), .val (.ref ar3)] [])) t
        refine XS.aload X22.here hx rfl (hb hby at_293) rfl rfl ?_
        show Steps p.tables e below (T22.setTop (mkF m 295 #[.val (.int p1), .val (.int p2), .val (.int p3), .val (.int p4), .val (.int tc), .val (.int n), .val (.ref b1), .val (.ref b2), .val (.ref ar3)] [(.ref ar3)])) t
        refine XS.aload X22.here hx rfl (hb hby at_295) rfl rfl ?_
        show Steps p.tables e below (T22.setTop (mkF m 297 #[.val (.int p1), .val (.int p2), .val (.int p3), .val (.int p4), .val (.int tc), .val (.int n), .val (.ref b1), .val (.ref b2), .val (.ref ar3)] [(.ref b1), (.ref ar3)])) t
        refine XS.iload X22.here hx rfl (hb hby at_297) rfl ?_
        show Steps p.tables e below (T22.setTop (mkF m 299 #[.val (.int p1), .val (.int p2), .val (.int p3), .val (.int p4), .val (.int tc), .val (.int n), .val (.ref b1), .val (.ref b2), .val (.ref ar3)] [(.int n), (.ref b1), (.ref ar3)])) t
        refine XS.iload X22.here hx rfl (hb hby at_299) rfl ?_
        show Steps p.tables e below (T22.setTop (mkF m 301 #[.val (.int p1), .val (.int p2), .val (.int p3), .val (.int p4), .val (.int tc), .val (.int n), .val (.ref b1), .val (.ref b2), .val (.ref ar3)] [(.int tc), (.int n), (.ref b1), (.ref ar3)])) t
        refine XS.iconst X22.here hx rfl (hb hby at_301) ?_
        exact k
      obtain ⟨_, _, ⟨T24, L24, k24, n24⟩, -, X24, ⟨Lc24, hQ24, l24, y24, z24⟩, st24⟩ := Jvm.LawKit.callS X22 hx (y := (⟨"com/example/fenceline/fenceline/TraceThreadsPinLaw", "lenOk", "([[I[IIII)Z"⟩ : MethodName)) hown (mvT hZ (hw _ (List.mem_of_getElem? (i := 11) rfl))) (mvT hZ (hw _ (List.mem_of_getElem? (i := 12) rfl))) (mvT hZ (hw _ (List.mem_of_getElem? (i := 9) rfl))) (mvT hZ (hw _ (List.mem_of_getElem? (i := 13) rfl))) (by decide) (backOf (W := 0) (rm3 l Z a0 hw [] ar3 b1 n tc (3 : Int32) k1 kr3 xs bs3 (own_res xs tc n).2.2 (ar3 + 1) T3.heap n0 hsz2 c7 VR3 RW3 hbl3 (by decide) (fun h1 => hchk.2.2.2.2 _ (by decide) h1)) hZ (hw _ (List.mem_of_getElem? (i := 13) rfl)) (hw _ (List.mem_of_getElem? (i := 9) rfl)) (by decide) (by decide)) (g := (mkF m 302 #[.val (.int p1), .val (.int p2), .val (.int p3), .val (.int p4), .val (.int tc), .val (.int n), .val (.ref b1), .val (.ref b2), .val (.ref ar3)] [(.int (3 : Int32)), (.int tc), (.int n), (.ref b1), (.ref ar3)])) rfl (by rw [hml]; rfl) (argsL := [(.ref ar3), (.ref b1), (.int n), (.int tc), (.int (3 : Int32))]) (rest := []) (lenOf pd_4 rfl) rfl (by show 2 * 0 + _ ≤ _; exact Nat.le_of_eq rfl) (hb hby at_302) (fun _ _ => ⟨rfl, hh22, (by decide : 8 + 0 ≤ _), (by decide : 38 + 0 ≤ _)⟩)
      dsimp only [Pt.U, Pt.locs, Pt.cells, Pt.slots] at X24 l24 y24 z24 st24 hQ24
      subst l24 y24 z24
      obtain ⟨rfl, Nq24, hh24⟩ := hQ24
      have N24 := Fr.app N22 Nq24
      refine own_via st24 ?_
      show own_G p.tables e below _ (T24.setTop (mkF m 305 #[.val (.int p1), .val (.int p2), .val (.int p3), .val (.int p4), .val (.int tc), .val (.int n), .val (.ref b1), .val (.ref b2), .val (.ref ar3)] [(.int (1 : Int32))]))
      refine own_via (S' := T24.setTop (mkF m 308 #[.val (.int p1), .val (.int p2), .val (.int p3), .val (.int p4), .val (.int tc), .val (.int n), .val (.ref b1), .val (.ref b2), .val (.ref ar3)] [])) (fun t k => XS.ifNo (g := (mkF m 305 #[.val (.int p1), .val (.int p2), .val (.int p3), .val (.int p4), .val (.int tc), .val (.int n), .val (.ref b1), .val (.ref b2), .val (.ref ar3)] [(.int (1 : Int32))])) X24.here hx rfl (hb hby at_305) rfl ((if0 _ _).trans (feq (by decide : ¬ ((1 : Int32) = (0 : Int32)))).1) k) ?_
      refine own_via (S' := T24.setTop (mkF m 313 #[.val (.int p1), .val (.int p2), .val (.int p3), .val (.int p4), .val (.int tc), .val (.int n), .val (.ref b1), .val (.ref b2), .val (.ref ar3)] [(.int (1 : Int32))])) (fun t k => ?_) ?_
      · show Steps p.tables e below (T24.setTop (mkF m 308 #[.val (.int p1), .val (.int p2), .val (.int p3), .val (.int p4), .val (.int tc), .val (.int n), .val (.ref b1), .val (.ref b2), .val (.ref ar3)] [])) t
        refine XS.iconst X24.here hx rfl (hb hby at_308) ?_
        show Steps p.tables e below (T24.setTop (mkF m 309 #[.val (.int p1), .val (.int p2), .val (.int p3), .val (.int p4), .val (.int tc), .val (.int n), .val (.ref b1), .val (.ref b2), .val (.ref ar3)] [(.int (1 : Int32))])) t
        refine XS.goto X24.here hx rfl (pc0 := 309) (pc' := 313) rfl (hb hby at_309) (by decide) (by decide) ?_
        exact k
      exact own_end (h := T3.heap) X24 (v := some (.int (1 : Int32))) Bd.notSynchronized (fun h => by rw [Bd.returns] at h; cases h) (fun fs hr => retN X24 hx (t := .boolean) Bd.returns (by simp) (hb hby at_313) hr) hh24 ⟨rfl, N24⟩ (by decide) (by decide)
    refine own_via (S' := T2.setTop (mkF m 40 #[.val (.int p1), .val (.int p2), .val (.int p3), .val (.int p4), .val (.int tc), .val (.int n), .val (.ref b1), .val (.ref b2), .unset] [(.int n)])) (fun t k => ?_) ?_
    · show Steps p.tables e below (T2.setTop (mkF m 38 #[.val (.int p1), .val (.int p2), .val (.int p3), .val (.int p4), .val (.int tc), .val (.int n), .val (.ref b1), .val (.ref b2), .unset] [])) t
      refine XS.iload X2.here hx rfl (hb hby at_38) rfl ?_
      exact k
    by_cases hc40_26 : (0 : Int32) < n
    · have tE := htc.resolve_left (own_ne0 hn0 hc40_26)
      refine own_via (S' := T2.setTop (mkF m 43 #[.val (.int p1), .val (.int p2), .val (.int p3), .val (.int p4), .val (.int tc), .val (.int n), .val (.ref b1), .val (.ref b2), .unset] [])) (fun t k => XS.ifNo (g := (mkF m 40 #[.val (.int p1), .val (.int p2), .val (.int p3), .val (.int p4), .val (.int tc), .val (.int n), .val (.ref b1), .val (.ref b2), .unset] [(.int n)])) X2.here hx rfl (hb hby at_40) rfl ((if0 _ _).trans (tlt hc40_26).2.2.2) k) ?_
      refine own_via (S' := T2.setTop (mkF m 50 #[.val (.int p1), .val (.int p2), .val (.int p3), .val (.int p4), .val (.int tc), .val (.int n), .val (.ref b1), .val (.ref b2), .unset] [(.int tc), (.int (0 : Int32)), (.int p2), (.int (0 : Int32)), (.ref b1)])) (fun t k => ?_) ?_
      · show Steps p.tables e below (T2.setTop (mkF m 43 #[.val (.int p1), .val (.int p2), .val (.int p3), .val (.int p4), .val (.int tc), .val (.int n), .val (.ref b1), .val (.ref b2), .unset] [])) t
        refine XS.aload X2.here hx rfl (hb hby at_43) rfl rfl ?_
        show Steps p.tables e below (T2.setTop (mkF m 45 #[.val (.int p1), .val (.int p2), .val (.int p3), .val (.int p4), .val (.int tc), .val (.int n), .val (.ref b1), .val (.ref b2), .unset] [(.ref b1)])) t
        refine XS.iconst X2.here hx rfl (hb hby at_45) ?_
        show Steps p.tables e below (T2.setTop (mkF m 46 #[.val (.int p1), .val (.int p2), .val (.int p3), .val (.int p4), .val (.int tc), .val (.int n), .val (.ref b1), .val (.ref b2), .unset] [(.int (0 : Int32)), (.ref b1)])) t
        refine XS.iloadN X2.here hx rfl (hb hby at_46) rfl ?_
        show Steps p.tables e below (T2.setTop (mkF m 47 #[.val (.int p1), .val (.int p2), .val (.int p3), .val (.int p4), .val (.int tc), .val (.int n), .val (.ref b1), .val (.ref b2), .unset] [(.int p2), (.int (0 : Int32)), (.ref b1)])) t
        refine XS.iconst X2.here hx rfl (hb hby at_47) ?_
        show Steps p.tables e below (T2.setTop (mkF m 48 #[.val (.int p1), .val (.int p2), .val (.int p3), .val (.int p4), .val (.int tc), .val (.int n), .val (.ref b1), .val (.ref b2), .unset] [(.int (0 : Int32)), (.int p2), (.int (0 : Int32)), (.ref b1)])) t
        refine XS.iload X2.here hx rfl (hb hby at_48) rfl ?_
        exact k
      obtain ⟨_, _, ⟨T27, L27, k27, n27⟩, -, X27, ⟨Lc27, hQ27, l27, y27, z27⟩, st27⟩ := Jvm.LawKit.callS X2 hx (y := (⟨"com/example/fenceline/fenceline/TraceThreadsPinLaw", "pick", "(III)I"⟩ : MethodName)) hown (mvT hZ (hw _ (List.mem_of_getElem? (i := 14) rfl))) (mvT hZ (hw _ (List.mem_of_getElem? (i := 15) rfl))) (mvT hZ (hw _ (List.mem_of_getElem? (i := 9) rfl))) (mvT hZ (hw _ (List.mem_of_getElem? (i := 16) rfl))) (by decide) (backOf (W := 2) (rm4 l Z a0 hw [] p2 (0 : Int32) tc h2 n0 (Nat.le_trans Z0 K2.1) tE) hZ (hw _ (List.mem_of_getElem? (i := 16) rfl)) (hw _ (List.mem_of_getElem? (i := 9) rfl)) (by decide) (by decide)) (g := (mkF m 50 #[.val (.int p1), .val (.int p2), .val (.int p3), .val (.int p4), .val (.int tc), .val (.int n), .val (.ref b1), .val (.ref b2), .unset] [(.int tc), (.int (0 : Int32)), (.int p2), (.int (0 : Int32)), (.ref b1)])) rfl (by rw [hml]; rfl) (argsL := [(.int p2), (.int (0 : Int32)), (.int tc)]) (rest := [(.int (0 : Int32)), (.ref b1)]) (lenOf pd_5 rfl) rfl (by show 2 * 0 + _ ≤ _; exact Nat.le_of_eq rfl) (hb hby at_50) (fun _ _ => ⟨rfl, e2, (by decide : 2 + 0 ≤ _), (by decide : 10 + 0 ≤ _)⟩)
      dsimp only [Pt.U, Pt.locs, Pt.cells, Pt.slots] at X27 l27 y27 z27 st27 hQ27
      subst l27 y27 z27
      obtain ⟨x27, rfl, Nq27, hh27, hd27, lt27⟩ := hQ27
      have N27 := Fr.app N0 Nq27
      refine own_via st27 ?_
      show own_G p.tables e below _ (T27.setTop (mkF m 53 #[.val (.int p1), .val (.int p2), .val (.int p3), .val (.int p4), .val (.int tc), .val (.int n), .val (.ref b1), .val (.ref b2), .unset] [(.int x27), (.int (0 : Int32)), (.ref b1)]))
      have c28 := (own_Ar.ext V_b1 E2)
      obtain ⟨⟨cl29, Ar29, q29, S29, Nn29, H29, G29⟩, Le29⟩ := id c28
      have hin29 : ¬ ((0 : Int32) < 0 ∨ cl29.slots.size ≤ ((0 : Int32)).toNatClampNeg) := inb_of S29 ⟨by decide, hc40_26⟩
      obtain ⟨T29, h29, X29, e29, W29, st29⟩ := stI X27 hx hZ hh27 Ar29 (j := (0 : Int32)) hin29 (g := (mkF m 53 #[.val (.int p1), .val (.int p2), .val (.int p3), .val (.int p4), .val (.int tc), .val (.int n), .val (.ref b1), .val (.ref b2), .unset] [(.int x27), (.int (0 : Int32)), (.ref b1)])) rfl rfl (hb hby at_53)
      have V29 : own_Ar Z h29 b1 k1 .int n (List.map Value.int ((List.replicate (n).toNatClampNeg (0 : Int32)).set ((0 : Int32)).toNatClampNeg x27)) (.int (0 : Int32)) := own_Ar.setI Ar29 q29 S29 Nn29 H29 G29 rfl W29 hin29 Le29
      have K30 : Keep h0 h29 [] := Keep.wr K2 W29 (Or.inr sz_b1)
      have N30 := Fr.snoc X29 N27 g_b1
      refine own_via st29 ?_
      show own_G p.tables e below _ (T29.setTop (mkF m 54 #[.val (.int p1), .val (.int p2), .val (.int p3), .val (.int p4), .val (.int tc), .val (.int n), .val (.ref b1), .val (.ref b2), .unset] []))
      refine own_via (S' := T29.setTop (mkF m 58 #[.val (.int p1), .val (.int p2), .val (.int p3), .val (.int p4), .val (.int tc), .val (.int n), .val (.ref b1), .val (.ref b2), .unset] [(.int p4), (.int (0 : Int32)), (.ref b2)])) (fun t k => ?_) ?_
      · show Steps p.tables e below (T29.setTop (mkF m 54 #[.val (.int p1), .val (.int p2), .val (.int p3), .val (.int p4), .val (.int tc), .val (.int n), .val (.ref b1), .val (.ref b2), .unset] [])) t
        refine XS.aload X29.here hx rfl (hb hby at_54) rfl rfl ?_
        show Steps p.tables e below (T29.setTop (mkF m 56 #[.val (.int p1), .val (.int p2), .val (.int p3), .val (.int p4), .val (.int tc), .val (.int n), .val (.ref b1), .val (.ref b2), .unset] [(.ref b2)])) t
        refine XS.iconst X29.here hx rfl (hb hby at_56) ?_
        show Steps p.tables e below (T29.setTop (mkF m 57 #[.val (.int p1), .val (.int p2), .val (.int p3), .val (.int p4), .val (.int tc), .val (.int n), .val (.ref b1), .val (.ref b2), .unset] [(.int (0 : Int32)), (.ref b2)])) t
        refine XS.iloadN X29.here hx rfl (hb hby at_57) rfl ?_
        exact k
      have c31 := (own_Ar.other V_b2 W29 (Ne.symm ne_b1_b2))
      obtain ⟨⟨cl32, Ar32, q32, S32, Nn32, H32, G32⟩, Le32⟩ := id c31
      have hin32 : ¬ ((0 : Int32) < 0 ∨ cl32.slots.size ≤ ((0 : Int32)).toNatClampNeg) := inb_of S32 ⟨by decide, hc40_26⟩
      obtain ⟨T32, h32, X32, e32, W32, st32⟩ := stI X29 hx hZ e29 Ar32 (j := (0 : Int32)) hin32 (g := (mkF m 58 #[.val (.int p1), .val (.int p2), .val (.int p3), .val (.int p4), .val (.int tc), .val (.int n), .val (.ref b1), .val (.ref b2), .unset] [(.int p4), (.int (0 : Int32)), (.ref b2)])) rfl rfl (hb hby at_58)
      have V32 : own_Ar Z h32 b2 k2 .int n (List.map Value.int ((List.replicate (n).toNatClampNeg (0 : Int32)).set ((0 : Int32)).toNatClampNeg p4)) (.int (0 : Int32)) := own_Ar.setI Ar32 q32 S32 Nn32 H32 G32 rfl W32 hin32 Le32
      have K33 : Keep h0 h32 [] := Keep.wr K30 W32 (Or.inr sz_b2)
      have N33 := Fr.snoc X32 N30 g_b2
      refine own_via st32 ?_
      show own_G p.tables e below _ (T32.setTop (mkF m 59 #[.val (.int p1), .val (.int p2), .val (.int p3), .val (.int p4), .val (.int tc), .val (.int n), .val (.ref b1), .val (.ref b2), .unset] []))
      refine own_via (S' := T32.setTop (mkF m 62 #[.val (.int p1), .val (.int p2), .val (.int p3), .val (.int p4), .val (.int tc), .val (.int n), .val (.ref b1), .val (.ref b2), .unset] [(.int (1 : Int32)), (.int n)])) (fun t k => ?_) ?_
      · show Steps p.tables e below (T32.setTop (mkF m 59 #[.val (.int p1), .val (.int p2), .val (.int p3), .val (.int p4), .val (.int tc), .val (.int n), .val (.ref b1), .val (.ref b2), .unset] [])) t
        refine XS.iload X32.here hx rfl (hb hby at_59) rfl ?_
        show Steps p.tables e below (T32.setTop (mkF m 61 #[.val (.int p1), .val (.int p2), .val (.int p3), .val (.int p4), .val (.int tc), .val (.int n), .val (.ref b1), .val (.ref b2), .unset] [(.int n)])) t
        refine XS.iconst X32.here hx rfl (hb hby at_61) ?_
        exact k
      by_cases hc62_34 : (1 : Int32) < n
      · refine own_via (S' := T32.setTop (mkF m 65 #[.val (.int p1), .val (.int p2), .val (.int p3), .val (.int p4), .val (.int tc), .val (.int n), .val (.ref b1), .val (.ref b2), .unset] [])) (fun t k => XS.icmpNo (g := (mkF m 62 #[.val (.int p1), .val (.int p2), .val (.int p3), .val (.int p4), .val (.int tc), .val (.int n), .val (.ref b1), .val (.ref b2), .unset] [(.int (1 : Int32)), (.int n)])) X32.here hx rfl (hb hby at_62) rfl (tlt hc62_34).2.2.2 k) ?_
        refine own_via (S' := T32.setTop (mkF m 72 #[.val (.int p1), .val (.int p2), .val (.int p3), .val (.int p4), .val (.int tc), .val (.int n), .val (.ref b1), .val (.ref b2), .unset] [(.int tc), (.int (1 : Int32)), (.int p2), (.int (1 : Int32)), (.ref b1)])) (fun t k => ?_) ?_
        · show Steps p.tables e below (T32.setTop (mkF m 65 #[.val (.int p1), .val (.int p2), .val (.int p3), .val (.int p4), .val (.int tc), .val (.int n), .val (.ref b1), .val (.ref b2), .unset] [])) t
          refine XS.aload X32.here hx rfl (hb hby at_65) rfl rfl ?_
          show Steps p.tables e below (T32.setTop (mkF m 67 #[.val (.int p1), .val (.int p2), .val (.int p3), .val (.int p4), .val (.int tc), .val (.int n), .val (.ref b1), .val (.ref b2), .unset] [(.ref b1)])) t
          refine XS.iconst X32.here hx rfl (hb hby at_67) ?_
          show Steps p.tables e below (T32.setTop (mkF m 68 #[.val (.int p1), .val (.int p2), .val (.int p3), .val (.int p4), .val (.int tc), .val (.int n), .val (.ref b1), .val (.ref b2), .unset] [(.int (1 : Int32)), (.ref b1)])) t
          refine XS.iloadN X32.here hx rfl (hb hby at_68) rfl ?_
          show Steps p.tables e below (T32.setTop (mkF m 69 #[.val (.int p1), .val (.int p2), .val (.int p3), .val (.int p4), .val (.int tc), .val (.int n), .val (.ref b1), .val (.ref b2), .unset] [(.int p2), (.int (1 : Int32)), (.ref b1)])) t
          refine XS.iconst X32.here hx rfl (hb hby at_69) ?_
          show Steps p.tables e below (T32.setTop (mkF m 70 #[.val (.int p1), .val (.int p2), .val (.int p3), .val (.int p4), .val (.int tc), .val (.int n), .val (.ref b1), .val (.ref b2), .unset] [(.int (1 : Int32)), (.int p2), (.int (1 : Int32)), (.ref b1)])) t
          refine XS.iload X32.here hx rfl (hb hby at_70) rfl ?_
          exact k
        obtain ⟨_, _, ⟨T35, L35, k35, n35⟩, -, X35, ⟨Lc35, hQ35, l35, y35, z35⟩, st35⟩ := Jvm.LawKit.callS X32 hx (y := (⟨"com/example/fenceline/fenceline/TraceThreadsPinLaw", "pick", "(III)I"⟩ : MethodName)) hown (mvT hZ (hw _ (List.mem_of_getElem? (i := 14) rfl))) (mvT hZ (hw _ (List.mem_of_getElem? (i := 15) rfl))) (mvT hZ (hw _ (List.mem_of_getElem? (i := 9) rfl))) (mvT hZ (hw _ (List.mem_of_getElem? (i := 16) rfl))) (by decide) (backOf (W := 2) (rm4 l Z a0 hw [] p2 (1 : Int32) tc h32 n0 (Nat.le_trans Z0 K33.1) tE) hZ (hw _ (List.mem_of_getElem? (i := 16) rfl)) (hw _ (List.mem_of_getElem? (i := 9) rfl)) (by decide) (by decide)) (g := (mkF m 72 #[.val (.int p1), .val (.int p2), .val (.int p3), .val (.int p4), .val (.int tc), .val (.int n), .val (.ref b1), .val (.ref b2), .unset] [(.int tc), (.int (1 : Int32)), (.int p2), (.int (1 : Int32)), (.ref b1)])) rfl (by rw [hml]; rfl) (argsL := [(.int p2), (.int (1 : Int32)), (.int tc)]) (rest := [(.int (1 : Int32)), (.ref b1)]) (lenOf pd_5 rfl) rfl (by show 2 * 0 + _ ≤ _; exact Nat.le_of_eq rfl) (hb hby at_72) (fun _ _ => ⟨rfl, e32, (by decide : 2 + 0 ≤ _), (by decide : 10 + 0 ≤ _)⟩)
        dsimp only [Pt.U, Pt.locs, Pt.cells, Pt.slots] at X35 l35 y35 z35 st35 hQ35
        subst l35 y35 z35
        obtain ⟨x35, rfl, Nq35, hh35, hd35, lt35⟩ := hQ35
        have N35 := Fr.app N33 Nq35
        refine own_via st35 ?_
        show own_G p.tables e below _ (T35.setTop (mkF m 75 #[.val (.int p1), .val (.int p2), .val (.int p3), .val (.int p4), .val (.int tc), .val (.int n), .val (.ref b1), .val (.ref b2), .unset] [(.int x35), (.int (1 : Int32)), (.ref b1)]))
        have c36 := (own_Ar.other V29 W32 ne_b1_b2)
        obtain ⟨⟨cl37, Ar37, q37, S37, Nn37, H37, G37⟩, Le37⟩ := id c36
        have hin37 : ¬ ((1 : Int32) < 0 ∨ cl37.slots.size ≤ ((1 : Int32)).toNatClampNeg) := inb_of S37 ⟨by decide, hc62_34⟩
        obtain ⟨T37, h37, X37, e37, W37, st37⟩ := stI X35 hx hZ hh35 Ar37 (j := (1 : Int32)) hin37 (g := (mkF m 75 #[.val (.int p1), .val (.int p2), .val (.int p3), .val (.int p4), .val (.int tc), .val (.int n), .val (.ref b1), .val (.ref b2), .unset] [(.int x35), (.int (1 : Int32)), (.ref b1)])) rfl rfl (hb hby at_75)
        have V37 : own_Ar Z h37 b1 k1 .int n (List.map Value.int (((List.replicate (n).toNatClampNeg (0 : Int32)).set ((0 : Int32)).toNatClampNeg x27).set ((1 : Int32)).toNatClampNeg x35)) (.int (0 : Int32)) := own_Ar.setI Ar37 q37 S37 Nn37 H37 G37 rfl W37 hin37 Le37
        have K38 : Keep h0 h37 [] := Keep.wr K33 W37 (Or.inr sz_b1)
        have N38 := Fr.snoc X37 N35 g_b1
        refine own_via st37 ?_
        show own_G p.tables e below _ (T37.setTop (mkF m 76 #[.val (.int p1), .val (.int p2), .val (.int p3), .val (.int p4), .val (.int tc), .val (.int n), .val (.ref b1), .val (.ref b2), .unset] []))
        refine own_via (S' := T37.setTop (mkF m 80 #[.val (.int p1), .val (.int p2), .val (.int p3), .val (.int p4), .val (.int tc), .val (.int n), .val (.ref b1), .val (.ref b2), .unset] [(.int p4), (.int (1 : Int32)), (.ref b2)])) (fun t k => ?_) ?_
        · show Steps p.tables e below (T37.setTop (mkF m 76 #[.val (.int p1), .val (.int p2), .val (.int p3), .val (.int p4), .val (.int tc), .val (.int n), .val (.ref b1), .val (.ref b2), .unset] [])) t
          refine XS.aload X37.here hx rfl (hb hby at_76) rfl rfl ?_
          show Steps p.tables e below (T37.setTop (mkF m 78 #[.val (.int p1), .val (.int p2), .val (.int p3), .val (.int p4), .val (.int tc), .val (.int n), .val (.ref b1), .val (.ref b2), .unset] [(.ref b2)])) t
          refine XS.iconst X37.here hx rfl (hb hby at_78) ?_
          show Steps p.tables e below (T37.setTop (mkF m 79 #[.val (.int p1), .val (.int p2), .val (.int p3), .val (.int p4), .val (.int tc), .val (.int n), .val (.ref b1), .val (.ref b2), .unset] [(.int (1 : Int32)), (.ref b2)])) t
          refine XS.iloadN X37.here hx rfl (hb hby at_79) rfl ?_
          exact k
        have c39 := (own_Ar.other V32 W37 (Ne.symm ne_b1_b2))
        obtain ⟨⟨cl40, Ar40, q40, S40, Nn40, H40, G40⟩, Le40⟩ := id c39
        have hin40 : ¬ ((1 : Int32) < 0 ∨ cl40.slots.size ≤ ((1 : Int32)).toNatClampNeg) := inb_of S40 ⟨by decide, hc62_34⟩
        obtain ⟨T40, h40, X40, e40, W40, st40⟩ := stI X37 hx hZ e37 Ar40 (j := (1 : Int32)) hin40 (g := (mkF m 80 #[.val (.int p1), .val (.int p2), .val (.int p3), .val (.int p4), .val (.int tc), .val (.int n), .val (.ref b1), .val (.ref b2), .unset] [(.int p4), (.int (1 : Int32)), (.ref b2)])) rfl rfl (hb hby at_80)
        have V40 : own_Ar Z h40 b2 k2 .int n (List.map Value.int (((List.replicate (n).toNatClampNeg (0 : Int32)).set ((0 : Int32)).toNatClampNeg p4).set ((1 : Int32)).toNatClampNeg p4)) (.int (0 : Int32)) := own_Ar.setI Ar40 q40 S40 Nn40 H40 G40 rfl W40 hin40 Le40
        have K41 : Keep h0 h40 [] := Keep.wr K38 W40 (Or.inr sz_b2)
        have N41 := Fr.snoc X40 N38 g_b2
        refine own_via st40 ?_
        show own_G p.tables e below _ (T40.setTop (mkF m 81 #[.val (.int p1), .val (.int p2), .val (.int p3), .val (.int p4), .val (.int tc), .val (.int n), .val (.ref b1), .val (.ref b2), .unset] []))
        refine own_via (S' := T40.setTop (mkF m 84 #[.val (.int p1), .val (.int p2), .val (.int p3), .val (.int p4), .val (.int tc), .val (.int n), .val (.ref b1), .val (.ref b2), .unset] [(.int (2 : Int32)), (.int n)])) (fun t k => ?_) ?_
        · show Steps p.tables e below (T40.setTop (mkF m 81 #[.val (.int p1), .val (.int p2), .val (.int p3), .val (.int p4), .val (.int tc), .val (.int n), .val (.ref b1), .val (.ref b2), .unset] [])) t
          refine XS.iload X40.here hx rfl (hb hby at_81) rfl ?_
          show Steps p.tables e below (T40.setTop (mkF m 83 #[.val (.int p1), .val (.int p2), .val (.int p3), .val (.int p4), .val (.int tc), .val (.int n), .val (.ref b1), .val (.ref b2), .unset] [(.int n)])) t
          refine XS.iconst X40.here hx rfl (hb hby at_83) ?_
          exact k
        by_cases hc84_42 : (2 : Int32) < n
        · refine own_via (S' := T40.setTop (mkF m 87 #[.val (.int p1), .val (.int p2), .val (.int p3), .val (.int p4), .val (.int tc), .val (.int n), .val (.ref b1), .val (.ref b2), .unset] [])) (fun t k => XS.icmpNo (g := (mkF m 84 #[.val (.int p1), .val (.int p2), .val (.int p3), .val (.int p4), .val (.int tc), .val (.int n), .val (.ref b1), .val (.ref b2), .unset] [(.int (2 : Int32)), (.int n)])) X40.here hx rfl (hb hby at_84) rfl (tlt hc84_42).2.2.2 k) ?_
          refine own_via (S' := T40.setTop (mkF m 94 #[.val (.int p1), .val (.int p2), .val (.int p3), .val (.int p4), .val (.int tc), .val (.int n), .val (.ref b1), .val (.ref b2), .unset] [(.int tc), (.int (2 : Int32)), (.int p2), (.int (2 : Int32)), (.ref b1)])) (fun t k => ?_) ?_
          · show Steps p.tables e below (T40.setTop (mkF m 87 #[.val (.int p1), .val (.int p2), .val (.int p3), .val (.int p4), .val (.int tc), .val (.int n), .val (.ref b1), .val (.ref b2), .unset] [])) t
            refine XS.aload X40.here hx rfl (hb hby at_87) rfl rfl ?_
            show Steps p.tables e below (T40.setTop (mkF m 89 #[.val (.int p1), .val (.int p2), .val (.int p3), .val (.int p4), .val (.int tc), .val (.int n), .val (.ref b1), .val (.ref b2), .unset] [(.ref b1)])) t
            refine XS.iconst X40.here hx rfl (hb hby at_89) ?_
            show Steps p.tables e below (T40.setTop (mkF m 90 #[.val (.int p1), .val (.int p2), .val (.int p3), .val (.int p4), .val (.int tc), .val (.int n), .val (.ref b1), .val (.ref b2), .unset] [(.int (2 : Int32)), (.ref b1)])) t
            refine XS.iloadN X40.here hx rfl (hb hby at_90) rfl ?_
            show Steps p.tables e below (T40.setTop (mkF m 91 #[.val (.int p1), .val (.int p2), .val (.int p3), .val (.int p4), .val (.int tc), .val (.int n), .val (.ref b1), .val (.ref b2), .unset] [(.int p2), (.int (2 : Int32)), (.ref b1)])) t
            refine XS.iconst X40.here hx rfl (hb hby at_91) ?_
            show Steps p.tables e below (T40.setTop (mkF m 92 #[.val (.int p1), .val (.int p2), .val (.int p3), .val (.int p4), .val (.int tc), .val (.int n), .val (.ref b1), .val (.ref b2), .unset] [(.int (2 : Int32)), (.int p2), (.int (2 : Int32)), (.ref b1)])) t
            refine XS.iload X40.here hx rfl (hb hby at_92) rfl ?_
            exact k
          obtain ⟨_, _, ⟨T43, L43, k43, n43⟩, -, X43, ⟨Lc43, hQ43, l43, y43, z43⟩, st43⟩ := Jvm.LawKit.callS X40 hx (y := (⟨"com/example/fenceline/fenceline/TraceThreadsPinLaw", "pick", "(III)I"⟩ : MethodName)) hown (mvT hZ (hw _ (List.mem_of_getElem? (i := 14) rfl))) (mvT hZ (hw _ (List.mem_of_getElem? (i := 15) rfl))) (mvT hZ (hw _ (List.mem_of_getElem? (i := 9) rfl))) (mvT hZ (hw _ (List.mem_of_getElem? (i := 16) rfl))) (by decide) (backOf (W := 2) (rm4 l Z a0 hw [] p2 (2 : Int32) tc h40 n0 (Nat.le_trans Z0 K41.1) tE) hZ (hw _ (List.mem_of_getElem? (i := 16) rfl)) (hw _ (List.mem_of_getElem? (i := 9) rfl)) (by decide) (by decide)) (g := (mkF m 94 #[.val (.int p1), .val (.int p2), .val (.int p3), .val (.int p4), .val (.int tc), .val (.int n), .val (.ref b1), .val (.ref b2), .unset] [(.int tc), (.int (2 : Int32)), (.int p2), (.int (2 : Int32)), (.ref b1)])) rfl (by rw [hml]; rfl) (argsL := [(.int p2), (.int (2 : Int32)), (.int tc)]) (rest := [(.int (2 : Int32)), (.ref b1)]) (lenOf pd_5 rfl) rfl (by show 2 * 0 + _ ≤ _; exact Nat.le_of_eq rfl) (hb hby at_94) (fun _ _ => ⟨rfl, e40, (by decide : 2 + 0 ≤ _), (by decide : 10 + 0 ≤ _)⟩)
          dsimp only [Pt.U, Pt.locs, Pt.cells, Pt.slots] at X43 l43 y43 z43 st43 hQ43
          subst l43 y43 z43
          obtain ⟨x43, rfl, Nq43, hh43, hd43, lt43⟩ := hQ43
          have N43 := Fr.app N41 Nq43
          refine own_via st43 ?_
          show own_G p.tables e below _ (T43.setTop (mkF m 97 #[.val (.int p1), .val (.int p2), .val (.int p3), .val (.int p4), .val (.int tc), .val (.int n), .val (.ref b1), .val (.ref b2), .unset] [(.int x43), (.int (2 : Int32)), (.ref b1)]))
          have c44 := (own_Ar.other V37 W40 ne_b1_b2)
          obtain ⟨⟨cl45, Ar45, q45, S45, Nn45, H45, G45⟩, Le45⟩ := id c44
          have hin45 : ¬ ((2 : Int32) < 0 ∨ cl45.slots.size ≤ ((2 : Int32)).toNatClampNeg) := inb_of S45 ⟨by decide, hc84_42⟩
          obtain ⟨T45, h45, X45, e45, W45, st45⟩ := stI X43 hx hZ hh43 Ar45 (j := (2 : Int32)) hin45 (g := (mkF m 97 #[.val (.int p1), .val (.int p2), .val (.int p3), .val (.int p4), .val (.int tc), .val (.int n), .val (.ref b1), .val (.ref b2), .unset] [(.int x43), (.int (2 : Int32)), (.ref b1)])) rfl rfl (hb hby at_97)
          have V45 : own_Ar Z h45 b1 k1 .int n (List.map Value.int ((((List.replicate (n).toNatClampNeg (0 : Int32)).set ((0 : Int32)).toNatClampNeg x27).set ((1 : Int32)).toNatClampNeg x35).set ((2 : Int32)).toNatClampNeg x43)) (.int (0 : Int32)) := own_Ar.setI Ar45 q45 S45 Nn45 H45 G45 rfl W45 hin45 Le45
          have K46 : Keep h0 h45 [] := Keep.wr K41 W45 (Or.inr sz_b1)
          have N46 := Fr.snoc X45 N43 g_b1
          refine own_via st45 ?_
          show own_G p.tables e below _ (T45.setTop (mkF m 98 #[.val (.int p1), .val (.int p2), .val (.int p3), .val (.int p4), .val (.int tc), .val (.int n), .val (.ref b1), .val (.ref b2), .unset] []))
          refine own_via (S' := T45.setTop (mkF m 102 #[.val (.int p1), .val (.int p2), .val (.int p3), .val (.int p4), .val (.int tc), .val (.int n), .val (.ref b1), .val (.ref b2), .unset] [(.int p4), (.int (2 : Int32)), (.ref b2)])) (fun t k => ?_) ?_
          · show Steps p.tables e below (T45.setTop (mkF m 98 #[.val (.int p1), .val (.int p2), .val (.int p3), .val (.int p4), .val (.int tc), .val (.int n), .val (.ref b1), .val (.ref b2), .unset] [])) t
            refine XS.aload X45.here hx rfl (hb hby at_98) rfl rfl ?_
            show Steps p.tables e below (T45.setTop (mkF m 100 #[.val (.int p1), .val (.int p2), .val (.int p3), .val (.int p4), .val (.int tc), .val (.int n), .val (.ref b1), .val (.ref b2), .unset] [(.ref b2)])) t
            refine XS.iconst X45.here hx rfl (hb hby at_100) ?_
            show Steps p.tables e below (T45.setTop (mkF m 101 #[.val (.int p1), .val (.int p2), .val (.int p3), .val (.int p4), .val (.int tc), .val (.int n), .val (.ref b1), .val (.ref b2), .unset] [(.int (2 : Int32)), (.ref b2)])) t
            refine XS.iloadN X45.here hx rfl (hb hby at_101) rfl ?_
            exact k
          have c47 := (own_Ar.other V40 W45 (Ne.symm ne_b1_b2))
          obtain ⟨⟨cl48, Ar48, q48, S48, Nn48, H48, G48⟩, Le48⟩ := id c47
          have hin48 : ¬ ((2 : Int32) < 0 ∨ cl48.slots.size ≤ ((2 : Int32)).toNatClampNeg) := inb_of S48 ⟨by decide, hc84_42⟩
          obtain ⟨T48, h48, X48, e48, W48, st48⟩ := stI X45 hx hZ e45 Ar48 (j := (2 : Int32)) hin48 (g := (mkF m 102 #[.val (.int p1), .val (.int p2), .val (.int p3), .val (.int p4), .val (.int tc), .val (.int n), .val (.ref b1), .val (.ref b2), .unset] [(.int p4), (.int (2 : Int32)), (.ref b2)])) rfl rfl (hb hby at_102)
          have V48 : own_Ar Z h48 b2 k2 .int n (List.map Value.int ((((List.replicate (n).toNatClampNeg (0 : Int32)).set ((0 : Int32)).toNatClampNeg p4).set ((1 : Int32)).toNatClampNeg p4).set ((2 : Int32)).toNatClampNeg p4)) (.int (0 : Int32)) := own_Ar.setI Ar48 q48 S48 Nn48 H48 G48 rfl W48 hin48 Le48
          have K49 : Keep h0 h48 [] := Keep.wr K46 W48 (Or.inr sz_b2)
          have N49 := Fr.snoc X48 N46 g_b2
          refine own_via st48 ?_
          show own_G p.tables e below _ (T48.setTop (mkF m 103 #[.val (.int p1), .val (.int p2), .val (.int p3), .val (.int p4), .val (.int tc), .val (.int n), .val (.ref b1), .val (.ref b2), .unset] []))
          refine own_via (S' := T48.setTop (mkF m 106 #[.val (.int p1), .val (.int p2), .val (.int p3), .val (.int p4), .val (.int tc), .val (.int n), .val (.ref b1), .val (.ref b2), .unset] [(.int (3 : Int32)), (.int n)])) (fun t k => ?_) ?_
          · show Steps p.tables e below (T48.setTop (mkF m 103 #[.val (.int p1), .val (.int p2), .val (.int p3), .val (.int p4), .val (.int tc), .val (.int n), .val (.ref b1), .val (.ref b2), .unset] [])) t
            refine XS.iload X48.here hx rfl (hb hby at_103) rfl ?_
            show Steps p.tables e below (T48.setTop (mkF m 105 #[.val (.int p1), .val (.int p2), .val (.int p3), .val (.int p4), .val (.int tc), .val (.int n), .val (.ref b1), .val (.ref b2), .unset] [(.int n)])) t
            refine XS.iconst X48.here hx rfl (hb hby at_105) ?_
            exact k
          by_cases hc106_50 : (3 : Int32) < n
          · refine own_via (S' := T48.setTop (mkF m 109 #[.val (.int p1), .val (.int p2), .val (.int p3), .val (.int p4), .val (.int tc), .val (.int n), .val (.ref b1), .val (.ref b2), .unset] [])) (fun t k => XS.icmpNo (g := (mkF m 106 #[.val (.int p1), .val (.int p2), .val (.int p3), .val (.int p4), .val (.int tc), .val (.int n), .val (.ref b1), .val (.ref b2), .unset] [(.int (3 : Int32)), (.int n)])) X48.here hx rfl (hb hby at_106) rfl (tlt hc106_50).2.2.2 k) ?_
            refine own_via (S' := T48.setTop (mkF m 116 #[.val (.int p1), .val (.int p2), .val (.int p3), .val (.int p4), .val (.int tc), .val (.int n), .val (.ref b1), .val (.ref b2), .unset] [(.int tc), (.int (3 : Int32)), (.int p2), (.int (3 : Int32)), (.ref b1)])) (fun t k => ?_) ?_
            · show Steps p.tables e below (T48.setTop (mkF m 109 #[.val (.int p1), .val (.int p2), .val (.int p3), .val (.int p4), .val (.int tc), .val (.int n), .val (.ref b1), .val (.ref b2), .unset] [])) t
              refine XS.aload X48.here hx rfl (hb hby at_109) rfl rfl ?_
              show Steps p.tables e below (T48.setTop (mkF m 111 #[.val (.int p1), .val (.int p2), .val (.int p3), .val (.int p4), .val (.int tc), .val (.int n), .val (.ref b1), .val (.ref b2), .unset] [(.ref b1)])) t
              refine XS.iconst X48.here hx rfl (hb hby at_111) ?_
              show Steps p.tables e below (T48.setTop (mkF m 112 #[.val (.int p1), .val (.int p2), .val (.int p3), .val (.int p4), .val (.int tc), .val (.int n), .val (.ref b1), .val (.ref b2), .unset] [(.int (3 : Int32)), (.ref b1)])) t
              refine XS.iloadN X48.here hx rfl (hb hby at_112) rfl ?_
              show Steps p.tables e below (T48.setTop (mkF m 113 #[.val (.int p1), .val (.int p2), .val (.int p3), .val (.int p4), .val (.int tc), .val (.int n), .val (.ref b1), .val (.ref b2), .unset] [(.int p2), (.int (3 : Int32)), (.ref b1)])) t
              refine XS.iconst X48.here hx rfl (hb hby at_113) ?_
              show Steps p.tables e below (T48.setTop (mkF m 114 #[.val (.int p1), .val (.int p2), .val (.int p3), .val (.int p4), .val (.int tc), .val (.int n), .val (.ref b1), .val (.ref b2), .unset] [(.int (3 : Int32)), (.int p2), (.int (3 : Int32)), (.ref b1)])) t
              refine XS.iload X48.here hx rfl (hb hby at_114) rfl ?_
              exact k
            obtain ⟨_, _, ⟨T51, L51, k51, n51⟩, -, X51, ⟨Lc51, hQ51, l51, y51, z51⟩, st51⟩ := Jvm.LawKit.callS X48 hx (y := (⟨"com/example/fenceline/fenceline/TraceThreadsPinLaw", "pick", "(III)I"⟩ : MethodName)) hown (mvT hZ (hw _ (List.mem_of_getElem? (i := 14) rfl))) (mvT hZ (hw _ (List.mem_of_getElem? (i := 15) rfl))) (mvT hZ (hw _ (List.mem_of_getElem? (i := 9) rfl))) (mvT hZ (hw _ (List.mem_of_getElem? (i := 16) rfl))) (by decide) (backOf (W := 2) (rm4 l Z a0 hw [] p2 (3 : Int32) tc h48 n0 (Nat.le_trans Z0 K49.1) tE) hZ (hw _ (List.mem_of_getElem? (i := 16) rfl)) (hw _ (List.mem_of_getElem? (i := 9) rfl)) (by decide) (by decide)) (g := (mkF m 116 #[.val (.int p1), .val (.int p2), .val (.int p3), .val (.int p4), .val (.int tc), .val (.int n), .val (.ref b1), .val (.ref b2), .unset] [(.int tc), (.int (3 : Int32)), (.int p2), (.int (3 : Int32)), (.ref b1)])) rfl (by rw [hml]; rfl) (argsL := [(.int p2), (.int (3 : Int32)), (.int tc)]) (rest := [(.int (3 : Int32)), (.ref b1)]) (lenOf pd_5 rfl) rfl (by show 2 * 0 + _ ≤ _; exact Nat.le_of_eq rfl) (hb hby at_116) (fun _ _ => ⟨rfl, e48, (by decide : 2 + 0 ≤ _), (by decide : 10 + 0 ≤ _)⟩)
            dsimp only [Pt.U, Pt.locs, Pt.cells, Pt.slots] at X51 l51 y51 z51 st51 hQ51
            subst l51 y51 z51
            obtain ⟨x51, rfl, Nq51, hh51, hd51, lt51⟩ := hQ51
            have N51 := Fr.app N49 Nq51
            refine own_via st51 ?_
            show own_G p.tables e below _ (T51.setTop (mkF m 119 #[.val (.int p1), .val (.int p2), .val (.int p3), .val (.int p4), .val (.int tc), .val (.int n), .val (.ref b1), .val (.ref b2), .unset] [(.int x51), (.int (3 : Int32)), (.ref b1)]))
            have c52 := (own_Ar.other V45 W48 ne_b1_b2)
            obtain ⟨⟨cl53, Ar53, q53, S53, Nn53, H53, G53⟩, Le53⟩ := id c52
            have hin53 : ¬ ((3 : Int32) < 0 ∨ cl53.slots.size ≤ ((3 : Int32)).toNatClampNeg) := inb_of S53 ⟨by decide, hc106_50⟩
            obtain ⟨T53, h53, X53, e53, W53, st53⟩ := stI X51 hx hZ hh51 Ar53 (j := (3 : Int32)) hin53 (g := (mkF m 119 #[.val (.int p1), .val (.int p2), .val (.int p3), .val (.int p4), .val (.int tc), .val (.int n), .val (.ref b1), .val (.ref b2), .unset] [(.int x51), (.int (3 : Int32)), (.ref b1)])) rfl rfl (hb hby at_119)
            have V53 : own_Ar Z h53 b1 k1 .int n (List.map Value.int (((((List.replicate (n).toNatClampNeg (0 : Int32)).set ((0 : Int32)).toNatClampNeg x27).set ((1 : Int32)).toNatClampNeg x35).set ((2 : Int32)).toNatClampNeg x43).set ((3 : Int32)).toNatClampNeg x51)) (.int (0 : Int32)) := own_Ar.setI Ar53 q53 S53 Nn53 H53 G53 rfl W53 hin53 Le53
            have K54 : Keep h0 h53 [] := Keep.wr K49 W53 (Or.inr sz_b1)
            have N54 := Fr.snoc X53 N51 g_b1
            refine own_via st53 ?_
            show own_G p.tables e below _ (T53.setTop (mkF m 120 #[.val (.int p1), .val (.int p2), .val (.int p3), .val (.int p4), .val (.int tc), .val (.int n), .val (.ref b1), .val (.ref b2), .unset] []))
            refine own_via (S' := T53.setTop (mkF m 124 #[.val (.int p1), .val (.int p2), .val (.int p3), .val (.int p4), .val (.int tc), .val (.int n), .val (.ref b1), .val (.ref b2), .unset] [(.int p4), (.int (3 : Int32)), (.ref b2)])) (fun t k => ?_) ?_
            · show Steps p.tables e below (T53.setTop (mkF m 120 #[.val (.int p1), .val (.int p2), .val (.int p3), .val (.int p4), .val (.int tc), .val (.int n), .val (.ref b1), .val (.ref b2), .unset] [])) t
              refine XS.aload X53.here hx rfl (hb hby at_120) rfl rfl ?_
              show Steps p.tables e below (T53.setTop (mkF m 122 #[.val (.int p1), .val (.int p2), .val (.int p3), .val (.int p4), .val (.int tc), .val (.int n), .val (.ref b1), .val (.ref b2), .unset] [(.ref b2)])) t
              refine XS.iconst X53.here hx rfl (hb hby at_122) ?_
              show Steps p.tables e below (T53.setTop (mkF m 123 #[.val (.int p1), .val (.int p2), .val (.int p3), .val (.int p4), .val (.int tc), .val (.int n), .val (.ref b1), .val (.ref b2), .unset] [(.int (3 : Int32)), (.ref b2)])) t
              refine XS.iloadN X53.here hx rfl (hb hby at_123) rfl ?_
              exact k
            have c55 := (own_Ar.other V48 W53 (Ne.symm ne_b1_b2))
            obtain ⟨⟨cl56, Ar56, q56, S56, Nn56, H56, G56⟩, Le56⟩ := id c55
            have hin56 : ¬ ((3 : Int32) < 0 ∨ cl56.slots.size ≤ ((3 : Int32)).toNatClampNeg) := inb_of S56 ⟨by decide, hc106_50⟩
            obtain ⟨T56, h56, X56, e56, W56, st56⟩ := stI X53 hx hZ e53 Ar56 (j := (3 : Int32)) hin56 (g := (mkF m 124 #[.val (.int p1), .val (.int p2), .val (.int p3), .val (.int p4), .val (.int tc), .val (.int n), .val (.ref b1), .val (.ref b2), .unset] [(.int p4), (.int (3 : Int32)), (.ref b2)])) rfl rfl (hb hby at_124)
            have V56 : own_Ar Z h56 b2 k2 .int n (List.map Value.int (((((List.replicate (n).toNatClampNeg (0 : Int32)).set ((0 : Int32)).toNatClampNeg p4).set ((1 : Int32)).toNatClampNeg p4).set ((2 : Int32)).toNatClampNeg p4).set ((3 : Int32)).toNatClampNeg p4)) (.int (0 : Int32)) := own_Ar.setI Ar56 q56 S56 Nn56 H56 G56 rfl W56 hin56 Le56
            have K57 : Keep h0 h56 [] := Keep.wr K54 W56 (Or.inr sz_b2)
            have N57 := Fr.snoc X56 N54 g_b2
            refine own_via st56 ?_
            show own_G p.tables e below _ (T56.setTop (mkF m 125 #[.val (.int p1), .val (.int p2), .val (.int p3), .val (.int p4), .val (.int tc), .val (.int n), .val (.ref b1), .val (.ref b2), .unset] []))
            refine own_via (S' := T56.setTop (mkF m 128 #[.val (.int p1), .val (.int p2), .val (.int p3), .val (.int p4), .val (.int tc), .val (.int n), .val (.ref b1), .val (.ref b2), .unset] [(.int (4 : Int32)), (.int n)])) (fun t k => ?_) ?_
            · show Steps p.tables e below (T56.setTop (mkF m 125 #[.val (.int p1), .val (.int p2), .val (.int p3), .val (.int p4), .val (.int tc), .val (.int n), .val (.ref b1), .val (.ref b2), .unset] [])) t
              refine XS.iload X56.here hx rfl (hb hby at_125) rfl ?_
              show Steps p.tables e below (T56.setTop (mkF m 127 #[.val (.int p1), .val (.int p2), .val (.int p3), .val (.int p4), .val (.int tc), .val (.int n), .val (.ref b1), .val (.ref b2), .unset] [(.int n)])) t
              refine XS.iconst X56.here hx rfl (hb hby at_127) ?_
              exact k
            by_cases hc128_58 : (4 : Int32) < n
            · refine own_via (S' := T56.setTop (mkF m 131 #[.val (.int p1), .val (.int p2), .val (.int p3), .val (.int p4), .val (.int tc), .val (.int n), .val (.ref b1), .val (.ref b2), .unset] [])) (fun t k => XS.icmpNo (g := (mkF m 128 #[.val (.int p1), .val (.int p2), .val (.int p3), .val (.int p4), .val (.int tc), .val (.int n), .val (.ref b1), .val (.ref b2), .unset] [(.int (4 : Int32)), (.int n)])) X56.here hx rfl (hb hby at_128) rfl (tlt hc128_58).2.2.2 k) ?_
              refine own_via (S' := T56.setTop (mkF m 138 #[.val (.int p1), .val (.int p2), .val (.int p3), .val (.int p4), .val (.int tc), .val (.int n), .val (.ref b1), .val (.ref b2), .unset] [(.int tc), (.int (4 : Int32)), (.int p2), (.int (4 : Int32)), (.ref b1)])) (fun t k => ?_) ?_
              · show Steps p.tables e below (T56.setTop (mkF m 131 #[.val (.int p1), .val (.int p2), .val (.int p3), .val (.int p4), .val (.int tc), .val (.int n), .val (.ref b1), .val (.ref b2), .unset] [])) t
                refine XS.aload X56.here hx rfl (hb hby at_131) rfl rfl ?_
                show Steps p.tables e below (T56.setTop (mkF m 133 #[.val (.int p1), .val (.int p2), .val (.int p3), .val (.int p4), .val (.int tc), .val (.int n), .val (.ref b1), .val (.ref b2), .unset] [(.ref b1)])) t
                refine XS.iconst X56.here hx rfl (hb hby at_133) ?_
                show Steps p.tables e below (T56.setTop (mkF m 134 #[.val (.int p1), .val (.int p2), .val (.int p3), .val (.int p4), .val (.int tc), .val (.int n), .val (.ref b1), .val (.ref b2), .unset] [(.int (4 : Int32)), (.ref b1)])) t
                refine XS.iloadN X56.here hx rfl (hb hby at_134) rfl ?_
                show Steps p.tables e below (T56.setTop (mkF m 135 #[.val (.int p1), .val (.int p2), .val (.int p3), .val (.int p4), .val (.int tc), .val (.int n), .val (.ref b1), .val (.ref b2), .unset] [(.int p2), (.int (4 : Int32)), (.ref b1)])) t
                refine XS.iconst X56.here hx rfl (hb hby at_135) ?_
                show Steps p.tables e below (T56.setTop (mkF m 136 #[.val (.int p1), .val (.int p2), .val (.int p3), .val (.int p4), .val (.int tc), .val (.int n), .val (.ref b1), .val (.ref b2), .unset] [(.int (4 : Int32)), (.int p2), (.int (4 : Int32)), (.ref b1)])) t
                refine XS.iload X56.here hx rfl (hb hby at_136) rfl ?_
                exact k
              obtain ⟨_, _, ⟨T59, L59, k59, n59⟩, -, X59, ⟨Lc59, hQ59, l59, y59, z59⟩, st59⟩ := Jvm.LawKit.callS X56 hx (y := (⟨"com/example/fenceline/fenceline/TraceThreadsPinLaw", "pick", "(III)I"⟩ : MethodName)) hown (mvT hZ (hw _ (List.mem_of_getElem? (i := 14) rfl))) (mvT hZ (hw _ (List.mem_of_getElem? (i := 15) rfl))) (mvT hZ (hw _ (List.mem_of_getElem? (i := 9) rfl))) (mvT hZ (hw _ (List.mem_of_getElem? (i := 16) rfl))) (by decide) (backOf (W := 2) (rm4 l Z a0 hw [] p2 (4 : Int32) tc h56 n0 (Nat.le_trans Z0 K57.1) tE) hZ (hw _ (List.mem_of_getElem? (i := 16) rfl)) (hw _ (List.mem_of_getElem? (i := 9) rfl)) (by decide) (by decide)) (g := (mkF m 138 #[.val (.int p1), .val (.int p2), .val (.int p3), .val (.int p4), .val (.int tc), .val (.int n), .val (.ref b1), .val (.ref b2), .unset] [(.int tc), (.int (4 : Int32)), (.int p2), (.int (4 : Int32)), (.ref b1)])) rfl (by rw [hml]; rfl) (argsL := [(.int p2), (.int (4 : Int32)), (.int tc)]) (rest := [(.int (4 : Int32)), (.ref b1)]) (lenOf pd_5 rfl) rfl (by show 2 * 0 + _ ≤ _; exact Nat.le_of_eq rfl) (hb hby at_138) (fun _ _ => ⟨rfl, e56, (by decide : 2 + 0 ≤ _), (by decide : 10 + 0 ≤ _)⟩)
              dsimp only [Pt.U, Pt.locs, Pt.cells, Pt.slots] at X59 l59 y59 z59 st59 hQ59
              subst l59 y59 z59
              obtain ⟨x59, rfl, Nq59, hh59, hd59, lt59⟩ := hQ59
              have N59 := Fr.app N57 Nq59
              refine own_via st59 ?_
              show own_G p.tables e below _ (T59.setTop (mkF m 141 #[.val (.int p1), .val (.int p2), .val (.int p3), .val (.int p4), .val (.int tc), .val (.int n), .val (.ref b1), .val (.ref b2), .unset] [(.int x59), (.int (4 : Int32)), (.ref b1)]))
              have c60 := (own_Ar.other V53 W56 ne_b1_b2)
              obtain ⟨⟨cl61, Ar61, q61, S61, Nn61, H61, G61⟩, Le61⟩ := id c60
              have hin61 : ¬ ((4 : Int32) < 0 ∨ cl61.slots.size ≤ ((4 : Int32)).toNatClampNeg) := inb_of S61 ⟨by decide, hc128_58⟩
              obtain ⟨T61, h61, X61, e61, W61, st61⟩ := stI X59 hx hZ hh59 Ar61 (j := (4 : Int32)) hin61 (g := (mkF m 141 #[.val (.int p1), .val (.int p2), .val (.int p3), .val (.int p4), .val (.int tc), .val (.int n), .val (.ref b1), .val (.ref b2), .unset] [(.int x59), (.int (4 : Int32)), (.ref b1)])) rfl rfl (hb hby at_141)
              have V61 : own_Ar Z h61 b1 k1 .int n (List.map Value.int ((((((List.replicate (n).toNatClampNeg (0 : Int32)).set ((0 : Int32)).toNatClampNeg x27).set ((1 : Int32)).toNatClampNeg x35).set ((2 : Int32)).toNatClampNeg x43).set ((3 : Int32)).toNatClampNeg x51).set ((4 : Int32)).toNatClampNeg x59)) (.int (0 : Int32)) := own_Ar.setI Ar61 q61 S61 Nn61 H61 G61 rfl W61 hin61 Le61
              have K62 : Keep h0 h61 [] := Keep.wr K57 W61 (Or.inr sz_b1)
              have N62 := Fr.snoc X61 N59 g_b1
              refine own_via st61 ?_
              show own_G p.tables e below _ (T61.setTop (mkF m 142 #[.val (.int p1), .val (.int p2), .val (.int p3), .val (.int p4), .val (.int tc), .val (.int n), .val (.ref b1), .val (.ref b2), .unset] []))
              refine own_via (S' := T61.setTop (mkF m 146 #[.val (.int p1), .val (.int p2), .val (.int p3), .val (.int p4), .val (.int tc), .val (.int n), .val (.ref b1), .val (.ref b2), .unset] [(.int p4), (.int (4 : Int32)), (.ref b2)])) (fun t k => ?_) ?_
              · show Steps p.tables e below (T61.setTop (mkF m 142 #[.val (.int p1), .val (.int p2), .val (.int p3), .val (.int p4), .val (.int tc), .val (.int n), .val (.ref b1), .val (.ref b2), .unset] [])) t
                refine XS.aload X61.here hx rfl (hb hby at_142) rfl rfl ?_
                show Steps p.tables e below (T61.setTop (mkF m 144 #[.val (.int p1), .val (.int p2), .val (.int p3), .val (.int p4), .val (.int tc), .val (.int n), .val (.ref b1), .val (.ref b2), .unset] [(.ref b2)])) t
                refine XS.iconst X61.here hx rfl (hb hby at_144) ?_
                show Steps p.tables e below (T61.setTop (mkF m 145 #[.val (.int p1), .val (.int p2), .val (.int p3), .val (.int p4), .val (.int tc), .val (.int n), .val (.ref b1), .val (.ref b2), .unset] [(.int (4 : Int32)), (.ref b2)])) t
                refine XS.iloadN X61.here hx rfl (hb hby at_145) rfl ?_
                exact k
              have c63 := (own_Ar.other V56 W61 (Ne.symm ne_b1_b2))
              obtain ⟨⟨cl64, Ar64, q64, S64, Nn64, H64, G64⟩, Le64⟩ := id c63
              have hin64 : ¬ ((4 : Int32) < 0 ∨ cl64.slots.size ≤ ((4 : Int32)).toNatClampNeg) := inb_of S64 ⟨by decide, hc128_58⟩
              obtain ⟨T64, h64, X64, e64, W64, st64⟩ := stI X61 hx hZ e61 Ar64 (j := (4 : Int32)) hin64 (g := (mkF m 146 #[.val (.int p1), .val (.int p2), .val (.int p3), .val (.int p4), .val (.int tc), .val (.int n), .val (.ref b1), .val (.ref b2), .unset] [(.int p4), (.int (4 : Int32)), (.ref b2)])) rfl rfl (hb hby at_146)
              have V64 : own_Ar Z h64 b2 k2 .int n (List.map Value.int ((((((List.replicate (n).toNatClampNeg (0 : Int32)).set ((0 : Int32)).toNatClampNeg p4).set ((1 : Int32)).toNatClampNeg p4).set ((2 : Int32)).toNatClampNeg p4).set ((3 : Int32)).toNatClampNeg p4).set ((4 : Int32)).toNatClampNeg p4)) (.int (0 : Int32)) := own_Ar.setI Ar64 q64 S64 Nn64 H64 G64 rfl W64 hin64 Le64
              have K65 : Keep h0 h64 [] := Keep.wr K62 W64 (Or.inr sz_b2)
              have N65 := Fr.snoc X64 N62 g_b2
              refine own_via st64 ?_
              show own_G p.tables e below _ (T64.setTop (mkF m 147 #[.val (.int p1), .val (.int p2), .val (.int p3), .val (.int p4), .val (.int tc), .val (.int n), .val (.ref b1), .val (.ref b2), .unset] []))
              have c66 := (own_Ar.other V61 W64 ne_b1_b2)
              exact J2 _ _ _ _ _ N65 X64 e64 (Nat.le_trans Z0 K65.1) c66 V64 (own_f5 tE (own_n5 hn hc128_58) hd27 lt27 hd35 lt35 hd43 lt43 hd51 lt51 hd59 lt59)
            · refine own_via (S' := T56.setTop (mkF m 147 #[.val (.int p1), .val (.int p2), .val (.int p3), .val (.int p4), .val (.int tc), .val (.int n), .val (.ref b1), .val (.ref b2), .unset] [])) (fun t k => XS.icmpYes (g := (mkF m 128 #[.val (.int p1), .val (.int p2), .val (.int p3), .val (.int p4), .val (.int tc), .val (.int n), .val (.ref b1), .val (.ref b2), .unset] [(.int (4 : Int32)), (.int n)])) X56.here hx rfl (pc0 := 128) (pc' := 147) rfl (hb hby at_128) rfl (flt hc128_58).2.2.2 (by decide) (by decide) k) ?_
              have c67 := (own_Ar.other V53 W56 ne_b1_b2)
              exact J2 _ _ _ _ _ N57 X56 e56 (Nat.le_trans Z0 K57.1) c67 V56 (own_f4 tE (own_n4 hn hc106_50 hc128_58) hd27 lt27 hd35 lt35 hd43 lt43 hd51 lt51)
          · refine own_via (S' := T48.setTop (mkF m 125 #[.val (.int p1), .val (.int p2), .val (.int p3), .val (.int p4), .val (.int tc), .val (.int n), .val (.ref b1), .val (.ref b2), .unset] [])) (fun t k => XS.icmpYes (g := (mkF m 106 #[.val (.int p1), .val (.int p2), .val (.int p3), .val (.int p4), .val (.int tc), .val (.int n), .val (.ref b1), .val (.ref b2), .unset] [(.int (3 : Int32)), (.int n)])) X48.here hx rfl (pc0 := 106) (pc' := 125) rfl (hb hby at_106) rfl (flt hc106_50).2.2.2 (by decide) (by decide) k) ?_
            refine own_via (S' := T48.setTop (mkF m 128 #[.val (.int p1), .val (.int p2), .val (.int p3), .val (.int p4), .val (.int tc), .val (.int n), .val (.ref b1), .val (.ref b2), .unset] [(.int (4 : Int32)), (.int n)])) (fun t k => ?_) ?_
            · show Steps p.tables e below (T48.setTop (mkF m 125 #[.val (.int p1), .val (.int p2), .val (.int p3), .val (.int p4), .val (.int tc), .val (.int n), .val (.ref b1), .val (.ref b2), .unset] [])) t
              refine XS.iload X48.here hx rfl (hb hby at_125) rfl ?_
              show Steps p.tables e below (T48.setTop (mkF m 127 #[.val (.int p1), .val (.int p2), .val (.int p3), .val (.int p4), .val (.int tc), .val (.int n), .val (.ref b1), .val (.ref b2), .unset] [(.int n)])) t
              refine XS.iconst X48.here hx rfl (hb hby at_127) ?_
              exact k
            refine own_via (S' := T48.setTop (mkF m 147 #[.val (.int p1), .val (.int p2), .val (.int p3), .val (.int p4), .val (.int tc), .val (.int n), .val (.ref b1), .val (.ref b2), .unset] [])) (fun t k => XS.icmpYes (g := (mkF m 128 #[.val (.int p1), .val (.int p2), .val (.int p3), .val (.int p4), .val (.int tc), .val (.int n), .val (.ref b1), .val (.ref b2), .unset] [(.int (4 : Int32)), (.int n)])) X48.here hx rfl (pc0 := 128) (pc' := 147) rfl (hb hby at_128) rfl (flt (own_lts (by decide) hc106_50)).2.2.2 (by decide) (by decide) k) ?_
            have c69 := (own_Ar.other V45 W48 ne_b1_b2)
            exact J2 _ _ _ _ _ N49 X48 e48 (Nat.le_trans Z0 K49.1) c69 V48 (own_f3 tE (own_n3 hn hc84_42 hc106_50) hd27 lt27 hd35 lt35 hd43 lt43)
        · refine own_via (S' := T40.setTop (mkF m 103 #[.val (.int p1), .val (.int p2), .val (.int p3), .val (.int p4), .val (.int tc), .val (.int n), .val (.ref b1), .val (.ref b2), .unset] [])) (fun t k => XS.icmpYes (g := (mkF m 84 #[.val (.int p1), .val (.int p2), .val (.int p3), .val (.int p4), .val (.int tc), .val (.int n), .val (.ref b1), .val (.ref b2), .unset] [(.int (2 : Int32)), (.int n)])) X40.here hx rfl (pc0 := 84) (pc' := 103) rfl (hb hby at_84) rfl (flt hc84_42).2.2.2 (by decide) (by decide) k) ?_
          refine own_via (S' := T40.setTop (mkF m 106 #[.val (.int p1), .val (.int p2), .val (.int p3), .val (.int p4), .val (.int tc), .val (.int n), .val (.ref b1), .val (.ref b2), .unset] [(.int (3 : Int32)), (.int n)])) (fun t k => ?_) ?_
          · show Steps p.tables e below (T40.setTop (mkF m 103 #[.val (.int p1), .val (.int p2), .val (.int p3), .val (.int p4), .val (.int tc), .val (.int n), .val (.ref b1), .val (.ref b2), .unset] [])) t
            refine XS.iload X40.here hx rfl (hb hby at_103) rfl ?_
            show Steps p.tables e below (T40.setTop (mkF m 105 #[.val (.int p1), .val (.int p2), .val (.int p3), .val (.int p4), .val (.int tc), .val (.int n), .val (.ref b1), .val (.ref b2), .unset] [(.int n)])) t
            refine XS.iconst X40.here hx rfl (hb hby at_105) ?_
            exact k
          refine own_via (S' := T40.setTop (mkF m 125 #[.val (.int p1), .val (.int p2), .val (.int p3), .val (.int p4), .val (.int tc), .val (.int n), .val (.ref b1), .val (.ref b2), .unset] [])) (fun t k => XS.icmpYes (g := (mkF m 106 #[.val (.int p1), .val (.int p2), .val (.int p3), .val (.int p4), .val (.int tc), .val (.int n), .val (.ref b1), .val (.ref b2), .unset] [(.int (3 : Int32)), (.int n)])) X40.here hx rfl (pc0 := 106) (pc' := 125) rfl (hb hby at_106) rfl (flt (own_lts (by decide) hc84_42)).2.2.2 (by decide) (by decide) k) ?_
          refine own_via (S' := T40.setTop (mkF m 128 #[.val (.int p1), .val (.int p2), .val (.int p3), .val (.int p4), .val (.int tc), .val (.int n), .val (.ref b1), .val (.ref b2), .unset] [(.int (4 : Int32)), (.int n)])) (fun t k => ?_) ?_
          · show Steps p.tables e below (T40.setTop (mkF m 125 #[.val (.int p1), .val (.int p2), .val (.int p3), .val (.int p4), .val (.int tc), .val (.int n), .val (.ref b1), .val (.ref b2), .unset] [])) t
            refine XS.iload X40.here hx rfl (hb hby at_125) rfl ?_
            show Steps p.tables e below (T40.setTop (mkF m 127 #[.val (.int p1), .val (.int p2), .val (.int p3), .val (.int p4), .val (.int tc), .val (.int n), .val (.ref b1), .val (.ref b2), .unset] [(.int n)])) t
            refine XS.iconst X40.here hx rfl (hb hby at_127) ?_
            exact k
          refine own_via (S' := T40.setTop (mkF m 147 #[.val (.int p1), .val (.int p2), .val (.int p3), .val (.int p4), .val (.int tc), .val (.int n), .val (.ref b1), .val (.ref b2), .unset] [])) (fun t k => XS.icmpYes (g := (mkF m 128 #[.val (.int p1), .val (.int p2), .val (.int p3), .val (.int p4), .val (.int tc), .val (.int n), .val (.ref b1), .val (.ref b2), .unset] [(.int (4 : Int32)), (.int n)])) X40.here hx rfl (pc0 := 128) (pc' := 147) rfl (hb hby at_128) rfl (flt (own_lts (by decide) hc84_42)).2.2.2 (by decide) (by decide) k) ?_
          have c72 := (own_Ar.other V37 W40 ne_b1_b2)
          exact J2 _ _ _ _ _ N41 X40 e40 (Nat.le_trans Z0 K41.1) c72 V40 (own_f2 tE (own_n2 hn hc62_34 hc84_42) hd27 lt27 hd35 lt35)
      · refine own_via (S' := T32.setTop (mkF m 81 #[.val (.int p1), .val (.int p2), .val (.int p3), .val (.int p4), .val (.int tc), .val (.int n), .val (.ref b1), .val (.ref b2), .unset] [])) (fun t k => XS.icmpYes (g := (mkF m 62 #[.val (.int p1), .val (.int p2), .val (.int p3), .val (.int p4), .val (.int tc), .val (.int n), .val (.ref b1), .val (.ref b2), .unset] [(.int (1 : Int32)), (.int n)])) X32.here hx rfl (pc0 := 62) (pc' := 81) rfl (hb hby at_62) rfl (flt hc62_34).2.2.2 (by decide) (by decide) k) ?_
        refine own_via (S' := T32.setTop (mkF m 84 #[.val (.int p1), .val (.int p2), .val (.int p3), .val (.int p4), .val (.int tc), .val (.int n), .val (.ref b1), .val (.ref b2), .unset] [(.int (2 : Int32)), (.int n)])) (fun t k => ?_) ?_
        · show Steps p.tables e below (T32.setTop (mkF m 81 #[.val (.int p1), .val (.int p2), .val (.int p3), .val (.int p4), .val (.int tc), .val (.int n), .val (.ref b1), .val (.ref b2), .unset] [])) t
          refine XS.iload X32.here hx rfl (hb hby at_81) rfl ?_
          show Steps p.tables e below (T32.setTop (mkF m 83 #[.val (.int p1), .val (.int p2), .val (.int p3), .val (.int p4), .val (.int tc), .val (.int n), .val (.ref b1), .val (.ref b2), .unset] [(.int n)])) t
          refine XS.iconst X32.here hx rfl (hb hby at_83) ?_
          exact k
        refine own_via (S' := T32.setTop (mkF m 103 #[.val (.int p1), .val (.int p2), .val (.int p3), .val (.int p4), .val (.int tc), .val (.int n), .val (.ref b1), .val (.ref b2), .unset] [])) (fun t k => XS.icmpYes (g := (mkF m 84 #[.val (.int p1), .val (.int p2), .val (.int p3), .val (.int p4), .val (.int tc), .val (.int n), .val (.ref b1), .val (.ref b2), .unset] [(.int (2 : Int32)), (.int n)])) X32.here hx rfl (pc0 := 84) (pc' := 103) rfl (hb hby at_84) rfl (flt (own_lts (by decide) hc62_34)).2.2.2 (by decide) (by decide) k) ?_
        refine own_via (S' := T32.setTop (mkF m 106 #[.val (.int p1), .val (.int p2), .val (.int p3), .val (.int p4), .val (.int tc), .val (.int n), .val (.ref b1), .val (.ref b2), .unset] [(.int (3 : Int32)), (.int n)])) (fun t k => ?_) ?_
        · show Steps p.tables e below (T32.setTop (mkF m 103 #[.val (.int p1), .val (.int p2), .val (.int p3), .val (.int p4), .val (.int tc), .val (.int n), .val (.ref b1), .val (.ref b2), .unset] [])) t
          refine XS.iload X32.here hx rfl (hb hby at_103) rfl ?_
          show Steps p.tables e below (T32.setTop (mkF m 105 #[.val (.int p1), .val (.int p2), .val (.int p3), .val (.int p4), .val (.int tc), .val (.int n), .val (.ref b1), .val (.ref b2), .unset] [(.int n)])) t
          refine XS.iconst X32.here hx rfl (hb hby at_105) ?_
          exact k
        refine own_via (S' := T32.setTop (mkF m 125 #[.val (.int p1), .val (.int p2), .val (.int p3), .val (.int p4), .val (.int tc), .val (.int n), .val (.ref b1), .val (.ref b2), .unset] [])) (fun t k => XS.icmpYes (g := (mkF m 106 #[.val (.int p1), .val (.int p2), .val (.int p3), .val (.int p4), .val (.int tc), .val (.int n), .val (.ref b1), .val (.ref b2), .unset] [(.int (3 : Int32)), (.int n)])) X32.here hx rfl (pc0 := 106) (pc' := 125) rfl (hb hby at_106) rfl (flt (own_lts (by decide) hc62_34)).2.2.2 (by decide) (by decide) k) ?_
        refine own_via (S' := T32.setTop (mkF m 128 #[.val (.int p1), .val (.int p2), .val (.int p3), .val (.int p4), .val (.int tc), .val (.int n), .val (.ref b1), .val (.ref b2), .unset] [(.int (4 : Int32)), (.int n)])) (fun t k => ?_) ?_
        · show Steps p.tables e below (T32.setTop (mkF m 125 #[.val (.int p1), .val (.int p2), .val (.int p3), .val (.int p4), .val (.int tc), .val (.int n), .val (.ref b1), .val (.ref b2), .unset] [])) t
          refine XS.iload X32.here hx rfl (hb hby at_125) rfl ?_
          show Steps p.tables e below (T32.setTop (mkF m 127 #[.val (.int p1), .val (.int p2), .val (.int p3), .val (.int p4), .val (.int tc), .val (.int n), .val (.ref b1), .val (.ref b2), .unset] [(.int n)])) t
          refine XS.iconst X32.here hx rfl (hb hby at_127) ?_
          exact k
        refine own_via (S' := T32.setTop (mkF m 147 #[.val (.int p1), .val (.int p2), .val (.int p3), .val (.int p4), .val (.int tc), .val (.int n), .val (.ref b1), .val (.ref b2), .unset] [])) (fun t k => XS.icmpYes (g := (mkF m 128 #[.val (.int p1), .val (.int p2), .val (.int p3), .val (.int p4), .val (.int tc), .val (.int n), .val (.ref b1), .val (.ref b2), .unset] [(.int (4 : Int32)), (.int n)])) X32.here hx rfl (pc0 := 128) (pc' := 147) rfl (hb hby at_128) rfl (flt (own_lts (by decide) hc62_34)).2.2.2 (by decide) (by decide) k) ?_
        have c76 := (own_Ar.other V29 W32 ne_b1_b2)
        exact J2 _ _ _ _ _ N33 X32 e32 (Nat.le_trans Z0 K33.1) c76 V32 (own_f1 tE (own_n1 hn hc40_26 hc62_34) hd27 lt27)
    · refine own_via (S' := T2.setTop (mkF m 59 #[.val (.int p1), .val (.int p2), .val (.int p3), .val (.int p4), .val (.int tc), .val (.int n), .val (.ref b1), .val (.ref b2), .unset] [])) (fun t k => XS.ifYes (g := (mkF m 40 #[.val (.int p1), .val (.int p2), .val (.int p3), .val (.int p4), .val (.int tc), .val (.int n), .val (.ref b1), .val (.ref b2), .unset] [(.int n)])) X2.here hx rfl (pc0 := 40) (pc' := 59) rfl (hb hby at_40) rfl ((if0 _ _).trans (flt hc40_26).2.2.2) (by decide) (by decide) k) ?_
      refine own_via (S' := T2.setTop (mkF m 62 #[.val (.int p1), .val (.int p2), .val (.int p3), .val (.int p4), .val (.int tc), .val (.int n), .val (.ref b1), .val (.ref b2), .unset] [(.int (1 : Int32)), (.int n)])) (fun t k => ?_) ?_
      · show Steps p.tables e below (T2.setTop (mkF m 59 #[.val (.int p1), .val (.int p2), .val (.int p3), .val (.int p4), .val (.int tc), .val (.int n), .val (.ref b1), .val (.ref b2), .unset] [])) t
        refine XS.iload X2.here hx rfl (hb hby at_59) rfl ?_
        show Steps p.tables e below (T2.setTop (mkF m 61 #[.val (.int p1), .val (.int p2), .val (.int p3), .val (.int p4), .val (.int tc), .val (.int n), .val (.ref b1), .val (.ref b2), .unset] [(.int n)])) t
        refine XS.iconst X2.here hx rfl (hb hby at_61) ?_
        exact k
      refine own_via (S' := T2.setTop (mkF m 81 #[.val (.int p1), .val (.int p2), .val (.int p3), .val (.int p4), .val (.int tc), .val (.int n), .val (.ref b1), .val (.ref b2), .unset] [])) (fun t k => XS.icmpYes (g := (mkF m 62 #[.val (.int p1), .val (.int p2), .val (.int p3), .val (.int p4), .val (.int tc), .val (.int n), .val (.ref b1), .val (.ref b2), .unset] [(.int (1 : Int32)), (.int n)])) X2.here hx rfl (pc0 := 62) (pc' := 81) rfl (hb hby at_62) rfl (flt (own_lts (by decide) hc40_26)).2.2.2 (by decide) (by decide) k) ?_
      refine own_via (S' := T2.setTop (mkF m 84 #[.val (.int p1), .val (.int p2), .val (.int p3), .val (.int p4), .val (.int tc), .val (.int n), .val (.ref b1), .val (.ref b2), .unset] [(.int (2 : Int32)), (.int n)])) (fun t k => ?_) ?_
      · show Steps p.tables e below (T2.setTop (mkF m 81 #[.val (.int p1), .val (.int p2), .val (.int p3), .val (.int p4), .val (.int tc), .val (.int n), .val (.ref b1), .val (.ref b2), .unset] [])) t
        refine XS.iload X2.here hx rfl (hb hby at_81) rfl ?_
        show Steps p.tables e below (T2.setTop (mkF m 83 #[.val (.int p1), .val (.int p2), .val (.int p3), .val (.int p4), .val (.int tc), .val (.int n), .val (.ref b1), .val (.ref b2), .unset] [(.int n)])) t
        refine XS.iconst X2.here hx rfl (hb hby at_83) ?_
        exact k
      refine own_via (S' := T2.setTop (mkF m 103 #[.val (.int p1), .val (.int p2), .val (.int p3), .val (.int p4), .val (.int tc), .val (.int n), .val (.ref b1), .val (.ref b2), .unset] [])) (fun t k => XS.icmpYes (g := (mkF m 84 #[.val (.int p1), .val (.int p2), .val (.int p3), .val (.int p4), .val (.int tc), .val (.int n), .val (.ref b1), .val (.ref b2), .unset] [(.int (2 : Int32)), (.int n)])) X2.here hx rfl (pc0 := 84) (pc' := 103) rfl (hb hby at_84) rfl (flt (own_lts (by decide) hc40_26)).2.2.2 (by decide) (by decide) k) ?_
      refine own_via (S' := T2.setTop (mkF m 106 #[.val (.int p1), .val (.int p2), .val (.int p3), .val (.int p4), .val (.int tc), .val (.int n), .val (.ref b1), .val (.ref b2), .unset] [(.int (3 : Int32)), (.int n)])) (fun t k => ?_) ?_
      · show Steps p.tables e below (T2.setTop (mkF m 103 #[.val (.int p1), .val (.int p2), .val (.int p3), .val (.int p4), .val (.int tc), .val (.int n), .val (.ref b1), .val (.ref b2), .unset] [])) t
        refine XS.iload X2.here hx rfl (hb hby at_103) rfl ?_
        show Steps p.tables e below (T2.setTop (mkF m 105 #[.val (.int p1), .val (.int p2), .val (.int p3), .val (.int p4), .val (.int tc), .val (.int n), .val (.ref b1), .val (.ref b2), .unset] [(.int n)])) t
        refine XS.iconst X2.here hx rfl (hb hby at_105) ?_
        exact k
      refine own_via (S' := T2.setTop (mkF m 125 #[.val (.int p1), .val (.int p2), .val (.int p3), .val (.int p4), .val (.int tc), .val (.int n), .val (.ref b1), .val (.ref b2), .unset] [])) (fun t k => XS.icmpYes (g := (mkF m 106 #[.val (.int p1), .val (.int p2), .val (.int p3), .val (.int p4), .val (.int tc), .val (.int n), .val (.ref b1), .val (.ref b2), .unset] [(.int (3 : Int32)), (.int n)])) X2.here hx rfl (pc0 := 106) (pc' := 125) rfl (hb hby at_106) rfl (flt (own_lts (by decide) hc40_26)).2.2.2 (by decide) (by decide) k) ?_
      refine own_via (S' := T2.setTop (mkF m 128 #[.val (.int p1), .val (.int p2), .val (.int p3), .val (.int p4), .val (.int tc), .val (.int n), .val (.ref b1), .val (.ref b2), .unset] [(.int (4 : Int32)), (.int n)])) (fun t k => ?_) ?_
      · show Steps p.tables e below (T2.setTop (mkF m 125 #[.val (.int p1), .val (.int p2), .val (.int p3), .val (.int p4), .val (.int tc), .val (.int n), .val (.ref b1), .val (.ref b2), .unset] [])) t
        refine XS.iload X2.here hx rfl (hb hby at_125) rfl ?_
        show Steps p.tables e below (T2.setTop (mkF m 127 #[.val (.int p1), .val (.int p2), .val (.int p3), .val (.int p4), .val (.int tc), .val (.int n), .val (.ref b1), .val (.ref b2), .unset] [(.int n)])) t
        refine XS.iconst X2.here hx rfl (hb hby at_127) ?_
        exact k
      refine own_via (S' := T2.setTop (mkF m 147 #[.val (.int p1), .val (.int p2), .val (.int p3), .val (.int p4), .val (.int tc), .val (.int n), .val (.ref b1), .val (.ref b2), .unset] [])) (fun t k => XS.icmpYes (g := (mkF m 128 #[.val (.int p1), .val (.int p2), .val (.int p3), .val (.int p4), .val (.int tc), .val (.int n), .val (.ref b1), .val (.ref b2), .unset] [(.int (4 : Int32)), (.int n)])) X2.here hx rfl (pc0 := 128) (pc' := 147) rfl (hb hby at_128) rfl (flt (own_lts (by decide) hc40_26)).2.2.2 (by decide) (by decide) k) ?_
      have c81 := (own_Ar.ext V_b1 E2)
      exact J2 _ _ _ _ _ N0 X2 e2 (Nat.le_trans Z0 K2.1) c81 V_b2 (own_f0 htc (own_n0 hn hc40_26))
  refine own_via (S' := s₁.setTop (mkF m 10 #[.val (.int p1), .val (.int p2), .val (.int p3), .val (.int p4), .val (.int tc), .unset, .unset, .unset, .unset] [(.int tc)])) (fun t k => ?_) ?_
  · show Steps p.tables e below (s₁.setTop (mkF m 8 #[.val (.int p1), .val (.int p2), .val (.int p3), .val (.int p4), .val (.int tc), .unset, .unset, .unset, .unset] [])) t
    refine XS.iload X0.here hx rfl (hb hby at_8) rfl ?_
    exact k
  by_cases hc10_82 : tc = (0 : Int32)
  · refine own_via (S' := s₁.setTop (mkF m 13 #[.val (.int p1), .val (.int p2), .val (.int p3), .val (.int p4), .val (.int tc), .unset, .unset, .unset, .unset] [])) (fun t k => XS.ifNo (g := (mkF m 10 #[.val (.int p1), .val (.int p2), .val (.int p3), .val (.int p4), .val (.int tc), .unset, .unset, .unset, .unset] [(.int tc)])) X0.here hx rfl (hb hby at_10) rfl ((if0 _ _).trans (teq hc10_82).2) k) ?_
    refine own_via (S' := s₁.setTop (mkF m 24 #[.val (.int p1), .val (.int p2), .val (.int p3), .val (.int p4), .val (.int tc), .unset, .unset, .unset, .unset] [(.int (0 : Int32))])) (fun t k => ?_) ?_
    · show Steps p.tables e below (s₁.setTop (mkF m 13 #[.val (.int p1), .val (.int p2), .val (.int p3), .val (.int p4), .val (.int tc), .unset, .unset, .unset, .unset] [])) t
      refine XS.iconst X0.here hx rfl (hb hby at_13) ?_
      show Steps p.tables e below (s₁.setTop (mkF m 14 #[.val (.int p1), .val (.int p2), .val (.int p3), .val (.int p4), .val (.int tc), .unset, .unset, .unset, .unset] [(.int (0 : Int32))])) t
      refine XS.goto X0.here hx rfl (pc0 := 14) (pc' := 24) rfl (hb hby at_14) (by decide) (by decide) ?_
      exact k
    exact J1 _ (by decide) (fun _ => rfl)
  · refine own_via (S' := s₁.setTop (mkF m 17 #[.val (.int p1), .val (.int p2), .val (.int p3), .val (.int p4), .val (.int tc), .unset, .unset, .unset, .unset] [])) (fun t k => XS.ifYes (g := (mkF m 10 #[.val (.int p1), .val (.int p2), .val (.int p3), .val (.int p4), .val (.int tc), .unset, .unset, .unset, .unset] [(.int tc)])) X0.here hx rfl (pc0 := 10) (pc' := 17) rfl (hb hby at_10) rfl ((if0 _ _).trans (feq hc10_82).2) (by decide) (by decide) k) ?_
    refine own_via (S' := s₁.setTop (mkF m 24 #[.val (.int p1), .val (.int p2), .val (.int p3), .val (.int p4), .val (.int tc), .unset, .unset, .unset, .unset] [(.int ((p3 &&& (7 : Int32)) % (6 : Int32)))])) (fun t k => ?_) ?_
    · show Steps p.tables e below (s₁.setTop (mkF m 17 #[.val (.int p1), .val (.int p2), .val (.int p3), .val (.int p4), .val (.int tc), .unset, .unset, .unset, .unset] [])) t
      refine XS.iloadN X0.here hx rfl (hb hby at_17) rfl ?_
      show Steps p.tables e below (s₁.setTop (mkF m 18 #[.val (.int p1), .val (.int p2), .val (.int p3), .val (.int p4), .val (.int tc), .unset, .unset, .unset, .unset] [(.int p3)])) t
      refine XS.bipush X0.here hx rfl (hb hby at_18) ?_
      show Steps p.tables e below (s₁.setTop (mkF m 20 #[.val (.int p1), .val (.int p2), .val (.int p3), .val (.int p4), .val (.int tc), .unset, .unset, .unset, .unset] [(.int (7 : Int32)), (.int p3)])) t
      refine XS.iand X0.here hx rfl (hb hby at_20) rfl ?_
      show Steps p.tables e below (s₁.setTop (mkF m 21 #[.val (.int p1), .val (.int p2), .val (.int p3), .val (.int p4), .val (.int tc), .unset, .unset, .unset, .unset] [(.int (p3 &&& (7 : Int32)))])) t
      refine XS.bipush X0.here hx rfl (hb hby at_21) ?_
      show Steps p.tables e below (s₁.setTop (mkF m 23 #[.val (.int p1), .val (.int p2), .val (.int p3), .val (.int p4), .val (.int tc), .unset, .unset, .unset, .unset] [(.int (6 : Int32)), (.int (p3 &&& (7 : Int32)))])) t
      refine iremM X0 hx rfl (hb hby at_23) rfl (by decide) ?_
      exact k
    exact J1 _ (own_nF p3) (fun q => absurd q hc10_82)
set_option maxRecDepth 65536 in
set_option maxHeartbeats 40000000 in
theorem comes_1 {Post : Tables → Env → Array Value → State → Outcome → State → Prop} (hpost : ∀ tb e args s v u, (limb_1_1.after args s (.returned v) u = true ∧ limb_1_2.after args s (.returned v) u = true ∧ True) → FrameEnd s (.returned v) u (Jvm.fieldLocs frame_1_writes args s ++ Jvm.arrayLocs frame_1_arrays args s ++ Jvm.staticLocs frame_1_statics s) 24 128 → Post tb e args s (.returned v) u) :
    ArmFor flags0 classFile x code maxLocals ret World_1 tables_1 room_1 Calls_1 rest_1 Pre_1 Post := by
  intro l hfl _ _ p e ha hc hk s m args below hf hA hF happ hP
  obtain ⟨hcalls, hrest, hpre⟩ := hP
  obtain ⟨-, -, -, hnamed, -, -, -, hat⟩ := (Spec.applies_iff hf).mp happ
  obtain ⟨hg, hn⟩ := and_e (Cond.before_iff.mp (show (Jvm.Cond.and given_1 narrow_1).before args s = true from hpre))
  obtain ⟨hcount, hg0⟩ := and_e hg
  obtain ⟨ga0, hg1⟩ := and_e hg0
  obtain ⟨ga1, hg2⟩ := and_e hg1
  obtain ⟨ga2, hg3⟩ := and_e hg2
  have ga3 := hg3
  obtain ⟨w0, w1, w2, w3, rfl⟩ : ∃ w0 w1 w2 w3 : Value, args = #[w0, w1, w2, w3] := by
    have hs : args.size = 4 := by simpa [Cond.value, given_1] using hcount
    obtain ⟨L⟩ := args
    match L, hs with
    | [w0, w1, w2, w3], _ => exact ⟨w0, w1, w2, w3, rfl⟩
  have hw := fun d (hd : d ∈ tables_1) => atoms_spec (ws := Jvm.Cond.code x code maxLocals ret :: tables_1) hat d (List.mem_cons_of_mem _ hd)
  obtain ⟨i0, ei0⟩ := is_v ga0
  obtain rfl : w0 = (.int i0) := Option.some.inj ei0
  obtain ⟨i1, ei1⟩ := is_v ga1
  obtain rfl : w1 = (.int i1) := Option.some.inj ei1
  obtain ⟨i2, ei2⟩ := is_v ga2
  obtain rfl : w2 = (.int i2) := Option.some.inj ei2
  obtain ⟨i3, ei3⟩ := is_v ga3
  obtain rfl : w3 = (.int i3) := Option.some.inj ei3
  obtain ⟨n, o, h1, h2, h3, _, L, rfl, ⟨rfl, N⟩, hq⟩ := rm0 l s _ hw tables_1 i0 i1 i2 i3  s.heap s.heap.size (Nat.le_refl _)  p e ha hc hk s m _ below hf ((Spec.applies_iff_loose hf).mp happ).1 ⟨rfl, State.Warmed39.refl s, rfl⟩ trivial
  refine ⟨n, _, h1, h2, h3, hpost _ _ _ _ _ _ ⟨Cond.after_iff.mpr rfl, Cond.after_iff.mpr (eq_i res_at (Term.int_eval (1)) rfl), trivial⟩ ⟨hq.1, hq.2.1, (hq.2.2.sift fun y hy => Or.inr (N y hy)).mono (by decide) (by decide)⟩⟩
theorem main_1_1 : Claimed_1_1 := comes_1 fun _ _ _ _ _ _ h hF => ⟨h.1, hF⟩
theorem main_1_2 : Claimed_1_2 := comes_1 fun _ _ _ _ _ _ h hF => ⟨h.2.1, hF⟩
end Jvm.Pilot.@@N@@
namespace Jvm.Pilot.@@N@@
open Jvm Jvm.ClassFile Sem Op Lib Jvm.Free Jvm.Stand Jvm.Pilot.@@N@@.Jvm.D
/-! MADE BY PROGRAM (witnessworld.py) out of the Statement's table words and the real class files: 9 classes; the members and pool entries that the words name. The judged class is class 1, her method 1. -/
namespace start1
open Jvm.ClassFile
def u (s : String) : CpInfo := .utf8 (stringToUtf16 s)
/-- a pool by its gaps: so many unusable entries, then the entry; so many at the end -/
def gap : Nat → List CpInfo → List CpInfo
  | 0, r => r
  | n + 1, r => .unusable :: gap n r
def poolList (es : List (Nat × CpInfo)) (last : Nat) : List CpInfo := es.foldr (fun e r => gap e.1 (e.2 :: r)) (gap last [])
def pool (es : List (Nat × CpInfo)) (last : Nat) : Array CpInfo := ⟨poolList es last⟩
def fileOf (pool : Array CpInfo) (this : Nat) (attrs : Array Attribute := #[]) (ms : Array MethodInfo := #[]) (fl : Nat := 33) (sup : Nat := 0) (ifs : Array Nat := #[]) (fds : Array FieldInfo := #[]) : ClassFile where
  minorVersion := 0
  majorVersion := 65
  constantPool := pool
  accessFlags := fl
  thisClass := this
  superClass := sup
  interfaces := ifs
  fields := fds
  methods := ms
  attributes := attrs
def plain (name : String) (sup : Option ClassId) : Class where
  name := name
  kind := .ordinary
  loader := none
  accessFlags := 33
  super := sup
  interfaces := #[]
  cf := none
  fields := #[]
  methods := #[]
  instanceTypes := #[]
  staticTypes := #[]
  resolved := #[]
  callSites := []
  init := .initialized
  statics := none
  mirror := none

def pool0 : Array CpInfo := pool [(5, u "<init>"), (0, u "()V"), (1, .class_ 10), (1, u "java/lang/Object")] 113

def k0m0 : Method := { name := "<init>", desc := "()V", sig := { parameters := [], returnType := none }, accessFlags := 1, code := none }
/-- java/lang/Object -/
def k0 : Class := { plain "java/lang/Object" none with
  accessFlags := 33
  interfaces := #[]
  cf := some (fileOf pool0 8 #[] #[{ accessFlags := 1, nameIndex := 5, descriptorIndex := 6, attributes := #[] }] 33 0 #[] #[])
  fields := #[]
  methods := #[k0m0]
  instanceTypes := #[]
  staticTypes := #[]
  resolved := Array.replicate 124 none
  statics := none }

def pool1 : Array CpInfo := pool [(2, .class_ 4), (1, u "java/lang/Object"), (0, u "<init>"), (0, u "()V"), (0, .methodref 8 9), (0, .class_ 10), (0, .nameAndType 11 12), (0, u "com/example/fenceline/fenceline/TraceThreadsPinLaw"), (0, u "pick"), (0, u "(III)I"), (0, .methodref 14 15), (0, .class_ 16), (0, .nameAndType 17 18), (0, u "com/example/fenceline/fenceline/Trace"), (0, u "threads"), (0, u "([II[I)[[I"), (0, .methodref 8 20), (0, .nameAndType 21 22), (0, u "opOk"), (0, u "([I[I[[III)Z"), (0, .methodref 8 24), (0, .nameAndType 25 26), (0, u "lenOk"), (0, u "([[I[IIII)Z"), (0, .methodref 8 28), (0, .nameAndType 29 30), (0, u "before"), (0, u "([II)I"), (0, .methodref 8 32), (0, .nameAndType 33 34), (0, u "countOf"), (0, u "([III)I"), (2, u "law"), (0, u "(IIII)Z")] 7

def k1m0 : Method := { name := "<init>", desc := "()V", sig := { parameters := [], returnType := none }, accessFlags := 1, code := none }
def k1c1 : Code := { maxStack := 5, maxLocals := 9, code := code, exceptionTable := #[], attributes := #[] }
def k1m1 : Method := { name := "law", desc := "(IIII)Z", sig := { parameters := [.int, .int, .int, .int], returnType := some .boolean }, accessFlags := 9, code := some k1c1 }
def k1c2 : Code := { maxStack := 3, maxLocals := 3, code := method_3_code, exceptionTable := #[], attributes := #[] }
def k1m2 : Method := { name := "pick", desc := "(III)I", sig := { parameters := [.int, .int, .int], returnType := some .int }, accessFlags := 10, code := some k1c2 }
def k1c3 : Code := { maxStack := 3, maxLocals := 3, code := method_4_code, exceptionTable := #[], attributes := #[] }
def k1m3 : Method := { name := "before", desc := "([II)I", sig := { parameters := [(.array .int), .int], returnType := some .int }, accessFlags := 10, code := some k1c3 }
def k1c4 : Code := { maxStack := 2, maxLocals := 4, code := method_5_code, exceptionTable := #[], attributes := #[] }
def k1m4 : Method := { name := "countOf", desc := "([III)I", sig := { parameters := [(.array .int), .int, .int], returnType := some .int }, accessFlags := 10, code := some k1c4 }
def k1c5 : Code := { maxStack := 3, maxLocals := 7, code := method_6_code, exceptionTable := #[], attributes := #[] }
def k1m5 : Method := { name := "opOk", desc := "([I[I[[III)Z", sig := { parameters := [(.array .int), (.array .int), (.array (.array .int)), .int, .int], returnType := some .boolean }, accessFlags := 10, code := some k1c5 }
def k1c6 : Code := { maxStack := 4, maxLocals := 5, code := method_7_code, exceptionTable := #[], attributes := #[] }
def k1m6 : Method := { name := "lenOk", desc := "([[I[IIII)Z", sig := { parameters := [(.array (.array .int)), (.array .int), .int, .int, .int], returnType := some .boolean }, accessFlags := 10, code := some k1c6 }
/-- com/example/fenceline/fenceline/TraceThreadsPinLaw -/
def k1 : Class := { plain "com/example/fenceline/fenceline/TraceThreadsPinLaw" (some 0) with
  accessFlags := 49
  interfaces := #[]
  cf := some (fileOf pool1 8 #[] #[{ accessFlags := 1, nameIndex := 5, descriptorIndex := 6, attributes := #[] }, { accessFlags := 9, nameIndex := 37, descriptorIndex := 38, attributes := #[] }, { accessFlags := 10, nameIndex := 11, descriptorIndex := 12, attributes := #[] }, { accessFlags := 10, nameIndex := 29, descriptorIndex := 30, attributes := #[] }, { accessFlags := 10, nameIndex := 33, descriptorIndex := 34, attributes := #[] }, { accessFlags := 10, nameIndex := 21, descriptorIndex := 22, attributes := #[] }, { accessFlags := 10, nameIndex := 25, descriptorIndex := 26, attributes := #[] }] 49 2 #[] #[])
  fields := #[]
  methods := #[k1m0, k1m1, k1m2, k1m3, k1m4, k1m5, k1m6]
  instanceTypes := #[]
  staticTypes := #[]
  resolved := Array.replicate 46 none
  statics := none }

def pool2 : Array CpInfo := pool [(2, .class_ 4), (1, u "com/example/fenceline/fenceline/Trace"), (11, u "[Lcom/example/fenceline/fenceline/Operation;"), (5, u "threadOf"), (6, u "accesses"), (3, u "addresses"), (2, u "threads"), (0, u "([II[I)[[I"), (2, u "responseTimes"), (5, .class_ 48), (1, u "java/lang/Object"), (3, u "operations"), (2, u "[B"), (2, u "[I"), (4, u "[[I"), (2, u "positions"), (2, u "Z"), (2, u "sources"), (2, u "finalSources"), (2, u "awaited"), (0, .class_ 58), (29, u "writes"), (2, u "NO_READS"), (7, .class_ 122), (1, u "com/example/fenceline/fenceline/Trace$Writes"), (19, u "Lcom/example/fenceline/fenceline/Trace$Writes;"), (3, u "INITIAL"), (0, u "I"), (2, u "NO_FINAL"), (1, u "NONE"), (0, u "READS"), (1, u "WRITES")] 35

def k2c0 : Code := { maxStack := 6, maxLocals := 8, code := prog_128_method_6_code, exceptionTable := #[], attributes := #[] }
def k2m0 : Method := { name := "threads", desc := "([II[I)[[I", sig := { parameters := [(.array .int), .int, (.array .int)], returnType := some (.array (.array .int)) }, accessFlags := 8, code := some k2c0 }
/-- com/example/fenceline/fenceline/Trace -/
def k2 : Class := { plain "com/example/fenceline/fenceline/Trace" (some 0) with
  accessFlags := 49
  interfaces := #[]
  cf := some (fileOf pool2 2 #[.nestMembers #[120]] #[{ accessFlags := 8, nameIndex := 36, descriptorIndex := 37, attributes := #[] }] 49 46 #[] #[{ accessFlags := 24, nameIndex := 146, descriptorIndex := 147, attributes := #[] }, { accessFlags := 24, nameIndex := 150, descriptorIndex := 147, attributes := #[] }, { accessFlags := 24, nameIndex := 152, descriptorIndex := 147, attributes := #[] }, { accessFlags := 26, nameIndex := 112, descriptorIndex := 58, attributes := #[] }, { accessFlags := 24, nameIndex := 153, descriptorIndex := 147, attributes := #[] }, { accessFlags := 24, nameIndex := 155, descriptorIndex := 147, attributes := #[] }, { accessFlags := 18, nameIndex := 52, descriptorIndex := 16, attributes := #[] }, { accessFlags := 18, nameIndex := 29, descriptorIndex := 55, attributes := #[] }, { accessFlags := 18, nameIndex := 22, descriptorIndex := 58, attributes := #[] }, { accessFlags := 18, nameIndex := 33, descriptorIndex := 58, attributes := #[] }, { accessFlags := 18, nameIndex := 36, descriptorIndex := 63, attributes := #[] }, { accessFlags := 18, nameIndex := 72, descriptorIndex := 58, attributes := #[] }, { accessFlags := 18, nameIndex := 75, descriptorIndex := 58, attributes := #[] }, { accessFlags := 18, nameIndex := 66, descriptorIndex := 58, attributes := #[] }, { accessFlags := 18, nameIndex := 40, descriptorIndex := 69, attributes := #[] }, { accessFlags := 18, nameIndex := 78, descriptorIndex := 63, attributes := #[] }, { accessFlags := 2, nameIndex := 109, descriptorIndex := 142, attributes := #[] }])
  fields := #[{ name := "INITIAL", type := .int, accessFlags := 24, slot := 0, constantValue := 0 }, { name := "NO_FINAL", type := .int, accessFlags := 24, slot := 1, constantValue := 0 }, { name := "NONE", type := .int, accessFlags := 24, slot := 2, constantValue := 0 }, { name := "NO_READS", type := (.array .int), accessFlags := 26, slot := 3, constantValue := 0 }, { name := "READS", type := .int, accessFlags := 24, slot := 4, constantValue := 0 }, { name := "WRITES", type := .int, accessFlags := 24, slot := 5, constantValue := 0 }, { name := "operations", type := (.array (.object "com/example/fenceline/fenceline/Operation")), accessFlags := 18, slot := 0, constantValue := 0 }, { name := "accesses", type := (.array .byte), accessFlags := 18, slot := 1, constantValue := 0 }, { name := "threadOf", type := (.array .int), accessFlags := 18, slot := 2, constantValue := 0 }, { name := "addresses", type := (.array .int), accessFlags := 18, slot := 3, constantValue := 0 }, { name := "threads", type := (.array (.array .int)), accessFlags := 18, slot := 4, constantValue := 0 }, { name := "sources", type := (.array .int), accessFlags := 18, slot := 5, constantValue := 0 }, { name := "finalSources", type := (.array .int), accessFlags := 18, slot := 6, constantValue := 0 }, { name := "positions", type := (.array .int), accessFlags := 18, slot := 7, constantValue := 0 }, { name := "responseTimes", type := .boolean, accessFlags := 18, slot := 8, constantValue := 0 }, { name := "awaited", type := (.array (.array .int)), accessFlags := 18, slot := 9, constantValue := 0 }, { name := "writes", type := (.object "com/example/fenceline/fenceline/Trace$Writes"), accessFlags := 2, slot := 10, constantValue := 0 }]
  methods := #[k2m0]
  instanceTypes := #[(.array (.object "com/example/fenceline/fenceline/Operation")), (.array .byte), (.array .int), (.array .int), (.array (.array .int)), (.array .int), (.array .int), (.array .int), .boolean, (.array (.array .int)), (.object "com/example/fenceline/fenceline/Trace$Writes")]
  staticTypes := #[.int, .int, .int, (.array .int), .int, .int]
  resolved := Array.replicate 191 none
  statics := none }

def pool3 : Array CpInfo := pool [(1, u "java/lang/Cloneable"), (0, .class_ 1), (0, u "java/lang/Object"), (0, .class_ 3)] 3

/-- java/lang/Cloneable -/
def k3 : Class := { plain "java/lang/Cloneable" (some 0) with
  accessFlags := 1537
  interfaces := #[]
  cf := some (fileOf pool3 2 #[] #[] 1537 4 #[] #[])
  fields := #[]
  methods := #[]
  instanceTypes := #[]
  staticTypes := #[]
  resolved := Array.replicate 8 none
  statics := none }

def pool4 : Array CpInfo := pool [(1, u "java/io/Serializable"), (0, .class_ 1), (0, u "java/lang/Object"), (0, .class_ 3)] 3

/-- java/io/Serializable -/
def k4 : Class := { plain "java/io/Serializable" (some 0) with
  accessFlags := 1537
  interfaces := #[]
  cf := some (fileOf pool4 2 #[] #[] 1537 4 #[] #[])
  fields := #[]
  methods := #[]
  instanceTypes := #[]
  staticTypes := #[]
  resolved := Array.replicate 8 none
  statics := none }

/-- the primitive byte -/
def k5 : Class := { plain "byte" none with kind := .primitive 'B', accessFlags := 0x411 }
/-- [B -/
def k6 : Class := { plain "[B" (some 0) with kind := .array 5 .byte, interfaces := #[3, 4], accessFlags := 1041 }

/-- the primitive int -/
def k7 : Class := { plain "int" none with kind := .primitive 'I', accessFlags := 0x411 }
/-- [I -/
def k8 : Class := { plain "[I" (some 0) with kind := .array 7 .int, interfaces := #[3, 4], accessFlags := 1041 }

def heap : Heap := #[]
/-- [[I -/
def k9 : Class := { plain "[[I" (some 0) with kind := .array 8 (.array .int), interfaces := #[3, 4], accessFlags := 1041 }
def classes : Array Class := #[k0, k1, k2, k3, k4, k5, k6, k7, k8, k9]
def interned : List (Array UInt16 × Addr) := []
def slotsUsed : Nat := 0
def theMethod : MethodId := ⟨1, 1⟩
def args0 : Array Value := #[.int 3, .int 1234, .int 4, .int 7]
def aboutOver (below : List Frame) : State where
  vm := { classes := classes, interned := interned.toArray }
  heap := heap
  slotsUsed := slotsUsed
  threads := #[{ frames := .invoking theMethod args0 :: below }]
def below0 : List Frame := [.native { method := ⟨0, 0⟩, args := #[] }]
def about1 : State := aboutOver below0
def p0 : Program := .bare "" "" ""
def e0 : Env := launch0.env 0 0 0
theorem w_frames : about1.frames = Frame.invoking theMethod args0 :: below0 := rfl
set_option maxRecDepth 65536 in
theorem w_args : argsFit about1.vm theMethod args0 = true := by decide +kernel
set_option maxRecDepth 65536 in
theorem w_heap : heapFits about1 = true := by decide +kernel
set_option maxRecDepth 65536 in
theorem w_runnable : about1.curStatus? = some .runnable := by decide +kernel
set_option maxRecDepth 65536 in
theorem w_alone : about1.alone = true := by decide +kernel
set_option maxRecDepth 65536 in
theorem w_named : about1.methodNamed? x = some theMethod := by decide +kernel
set_option maxRecDepth 65536 in
theorem w_hears : about1.hears theMethod below0 = true := by decide +kernel
set_option maxRecDepth 65536 in
theorem w_ripe : about1.ripe theMethod args0 below0 = true := by decide +kernel
theorem w_running : about1.status = .running := rfl
set_option maxRecDepth 65536 in
theorem w_room : about1.hasRoom e0.platform room_1 = true :=
  launch0.hasRoom_least _ room_1 (by decide +kernel) (by decide +kernel) (by decide +kernel) (by decide +kernel) (by decide +kernel) (by decide +kernel)
theorem allAtoms_all (ts : List Jvm.Cond) (a : Array Jvm.Value) (st : Jvm.State) : (allAtoms ts).before a st = ts.all (fun c => c.before a st) := by
  induction ts with
  | nil => rfl
  | cons c t ih =>
    show (Jvm.Cond.and c (allAtoms t)).before a st = _
    rw [Jvm.Cond.before_and, ih, List.all_cons]
def words1 : List Jvm.Cond := Jvm.Cond.code x code maxLocals ret :: tables_1
/-- a 'code' word, met by the world's own term for the bytes: nothing is compared byte by byte -/
theorem code_word {y : MethodName} {bytes : ByteArray} {mx : Nat} {rt : Option FieldType} {a : Array Value} {s : State} {m : MethodId} {meth : Method} {c : Code} (h1 : s.methodNamed? y = some m) (h2 : s.vm.method? m = some meth) (h3 : meth.code = some c) (h4 : c.code = bytes)
    (h5 : (c.maxLocals == mx && c.exceptionTable.isEmpty && decide (c.maxStack ≤ mostOperands) && decide (meth.sig.returnType = rt) && !meth.locks && decide (parseMethodDescriptor y.desc = some meth.sig)) = true) : (Jvm.Cond.code y bytes mx rt).before a s = true := by
  simp only [Bool.and_eq_true, beq_iff_eq, Bool.not_eq_true', decide_eq_true_eq] at h5
  obtain ⟨⟨⟨⟨⟨g1, g2⟩, g3⟩, g4⟩, g5⟩, g6⟩ := h5
  simp [Cond.before, Cond.holds, Cond.value, h1, h2, h3, h4, g1, g2, g3, g4, g5, g6]
def isCode : Jvm.Cond → Bool
  | .code _ _ _ _ => true
  | _ => false
theorem all_split {L : List Jvm.Cond} {P : Jvm.Cond → Bool} (h1 : L.all (fun c => isCode c || P c) = true) (h2 : ∀ c ∈ L.filter isCode, P c = true) : L.all P = true := by
  refine List.all_eq_true.mpr fun c hc => ?_
  have h := List.all_eq_true.mp h1 c hc
  rcases Bool.eq_false_or_eq_true (isCode c) with hi | hi
  · exact h2 c (List.mem_filter.mpr ⟨hc, hi⟩)
  · simpa [hi] using h
set_option maxRecDepth 65536 in
theorem w_c0 : (Jvm.Cond.code x code maxLocals ret).before args0 about1 = true := code_word (m := ⟨1, 1⟩) (meth := k1m1) (c := k1c1) (by decide +kernel) rfl rfl rfl (by decide +kernel)
set_option maxRecDepth 65536 in
theorem w_c1 : (Jvm.Cond.code ({ cls := "com/example/fenceline/fenceline/Trace", name := "threads", desc := "([II[I)[[I" } : Jvm.MethodName) prog_128_method_6_code (8 : Nat) (Option.some (Jvm.ClassFile.FieldType.array (Jvm.ClassFile.FieldType.array Jvm.ClassFile.FieldType.int)))).before args0 about1 = true := code_word (m := ⟨2, 0⟩) (meth := k2m0) (c := k2c0) (by decide +kernel) rfl rfl rfl (by decide +kernel)
set_option maxRecDepth 65536 in
theorem w_c2 : (Jvm.Cond.code ({ cls := "com/example/fenceline/fenceline/TraceThreadsPinLaw", name := "opOk", desc := "([I[I[[III)Z" } : Jvm.MethodName) method_6_code (7 : Nat) (Option.some Jvm.ClassFile.FieldType.boolean)).before args0 about1 = true := code_word (m := ⟨1, 5⟩) (meth := k1m5) (c := k1c5) (by decide +kernel) rfl rfl rfl (by decide +kernel)
set_option maxRecDepth 65536 in
theorem w_c3 : (Jvm.Cond.code ({ cls := "com/example/fenceline/fenceline/TraceThreadsPinLaw", name := "lenOk", desc := "([[I[IIII)Z" } : Jvm.MethodName) method_7_code (5 : Nat) (Option.some Jvm.ClassFile.FieldType.boolean)).before args0 about1 = true := code_word (m := ⟨1, 6⟩) (meth := k1m6) (c := k1c6) (by decide +kernel) rfl rfl rfl (by decide +kernel)
set_option maxRecDepth 65536 in
theorem w_c4 : (Jvm.Cond.code ({ cls := "com/example/fenceline/fenceline/TraceThreadsPinLaw", name := "pick", desc := "(III)I" } : Jvm.MethodName) method_3_code (3 : Nat) (Option.some Jvm.ClassFile.FieldType.int)).before args0 about1 = true := code_word (m := ⟨1, 2⟩) (meth := k1m2) (c := k1c2) (by decide +kernel) rfl rfl rfl (by decide +kernel)
set_option maxRecDepth 65536 in
theorem w_c5 : (Jvm.Cond.code ({ cls := "com/example/fenceline/fenceline/TraceThreadsPinLaw", name := "before", desc := "([II)I" } : Jvm.MethodName) method_4_code (3 : Nat) (Option.some Jvm.ClassFile.FieldType.int)).before args0 about1 = true := code_word (m := ⟨1, 3⟩) (meth := k1m3) (c := k1c3) (by decide +kernel) rfl rfl rfl (by decide +kernel)
set_option maxRecDepth 65536 in
theorem w_c6 : (Jvm.Cond.code ({ cls := "com/example/fenceline/fenceline/TraceThreadsPinLaw", name := "countOf", desc := "([III)I" } : Jvm.MethodName) method_5_code (4 : Nat) (Option.some Jvm.ClassFile.FieldType.int)).before args0 about1 = true := code_word (m := ⟨1, 4⟩) (meth := k1m4) (c := k1c4) (by decide +kernel) rfl rfl rfl (by decide +kernel)
def codes1 : List Jvm.Cond := [Jvm.Cond.code x code maxLocals ret, Jvm.Cond.code ({ cls := "com/example/fenceline/fenceline/Trace", name := "threads", desc := "([II[I)[[I" } : Jvm.MethodName) prog_128_method_6_code (8 : Nat) (Option.some (Jvm.ClassFile.FieldType.array (Jvm.ClassFile.FieldType.array Jvm.ClassFile.FieldType.int))), Jvm.Cond.code ({ cls := "com/example/fenceline/fenceline/TraceThreadsPinLaw", name := "opOk", desc := "([I[I[[III)Z" } : Jvm.MethodName) method_6_code (7 : Nat) (Option.some Jvm.ClassFile.FieldType.boolean), Jvm.Cond.code ({ cls := "com/example/fenceline/fenceline/TraceThreadsPinLaw", name := "lenOk", desc := "([[I[IIII)Z" } : Jvm.MethodName) method_7_code (5 : Nat) (Option.some Jvm.ClassFile.FieldType.boolean), Jvm.Cond.code ({ cls := "com/example/fenceline/fenceline/TraceThreadsPinLaw", name := "pick", desc := "(III)I" } : Jvm.MethodName) method_3_code (3 : Nat) (Option.some Jvm.ClassFile.FieldType.int), Jvm.Cond.code ({ cls := "com/example/fenceline/fenceline/TraceThreadsPinLaw", name := "before", desc := "([II)I" } : Jvm.MethodName) method_4_code (3 : Nat) (Option.some Jvm.ClassFile.FieldType.int), Jvm.Cond.code ({ cls := "com/example/fenceline/fenceline/TraceThreadsPinLaw", name := "countOf", desc := "([III)I" } : Jvm.MethodName) method_5_code (4 : Nat) (Option.some Jvm.ClassFile.FieldType.int)]
set_option maxRecDepth 65536 in
theorem codes_eq : words1.filter isCode = codes1 := rfl
theorem w_codes : ∀ c ∈ words1.filter isCode, c.before args0 about1 = true := by
  rw [codes_eq]
  intro c hc
  simp only [codes1, List.mem_cons, List.not_mem_nil, or_false] at hc
  rcases hc with rfl | rfl | rfl | rfl | rfl | rfl | rfl
  · exact w_c0
  · exact w_c1
  · exact w_c2
  · exact w_c3
  · exact w_c4
  · exact w_c5
  · exact w_c6
set_option maxRecDepth 65536 in
theorem w_t1 : (words1.take 24).all (fun c => isCode c || c.before args0 about1) = true := by decide +kernel
set_option maxRecDepth 65536 in
theorem w_t2 : (words1.drop 24).all (fun c => isCode c || c.before args0 about1) = true := by decide +kernel
theorem w_tables : (allAtoms (Jvm.Cond.code x code maxLocals ret :: tables_1)).before args0 about1 = true := by
  rw [allAtoms_all]
  show words1.all (fun c => c.before args0 about1) = true
  refine all_split ?_ w_codes
  rw [← List.take_append_drop 24 words1, List.all_append, w_t1, w_t2]
  rfl
set_option maxRecDepth 65536 in
theorem w_case : (Jvm.Cond.and given_1 narrow_1).before args0 about1 = true := by decide +kernel
theorem w_applies : (headSpec (Jvm.Cond.code x code maxLocals ret :: tables_1) room_1).applies x e0.platform about1 = true :=
  (Spec.applies_iff w_frames).mpr ⟨w_running, w_runnable, w_alone, w_named, w_hears, w_ripe, w_room, w_tables⟩
theorem atStart : AtStart classFile x code maxLocals ret World_1 tables_1 room_1 Calls_1 rest_1 Pre_1 launch0 p0 e0 about1 theMethod args0 below0 :=
  ⟨lists_1, trivial, launch0.admits_env _ _ _, launch0.least_env, fairChoices_fair.cas, fairChoices_fair.clock, w_frames, w_args, w_heap, w_applies, trivial, trivial, w_case⟩
end start1
theorem witness_1 : WitnessClaimed_1 := ⟨start1.p0, start1.e0, start1.about1, start1.theMethod, start1.args0, start1.below0, start1.atStart⟩
end Jvm.Pilot.@@N@@
