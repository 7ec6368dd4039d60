import JvmDerived
import JvmDerived.Pilot.@@N@@Statement
import JvmDerived.Pilot.@@N@@Code
set_option linter.unusedVariables false
set_option linter.unusedSimpArgs false
namespace Jvm.Pilot.@@N@@
open Jvm Jvm.ClassFile Sem Op Lib Jvm.Free Jvm.Stand Jvm.LawKit Jvm.RoadKit Bundle Jvm.Pilot.@@N@@.Jvm.D
/-- from S the body ends as Q says -/
def own_G (tb : Tables) (e : Env) (below : List Frame) (Q : State → Outcome → Prop) (S : State) : Prop := ∃ s₂ o, Steps tb e below S s₂ ∧ s₂.status = .running ∧ Ended s₂ below o ∧ Q s₂ o
theorem own_via {tb : Tables} {e : Env} {below : List Frame} {Q : State → Outcome → Prop} {S S' : State} (h : ∀ t, Steps tb e below S' t → Steps tb e below S t) (g : own_G tb e below Q S') : own_G tb e below Q S := by
  obtain ⟨t, o, k, r⟩ := g
  exact ⟨t, o, h t k, r⟩
def own_P (U : State) (Q : Option Value → Heap → List Loc → Prop) (cells slots : Nat) : State → Outcome → Prop := fun U' o => ∃ v L, o = .returned v ∧ Q v U'.heap L ∧ FrameEnd U o U' L cells slots
theorem own_end {p : Program} {l : Launch} {e : Env} {R : Room} {s : State} {m : MethodId} {args : Array Value} {below : List Frame} {meth : Method} {c : Code} {T : State} {locs : List Loc} {cells slots C S : Nat} {Q : Option Value → Heap → List Loc → Prop} {h : Heap} {G : State}
    (X : Stand p l e R s m args below meth c T locs cells slots) {v : Option Value} (hlk : meth.locks = false) (hv : meth.sig.returnType = none → v = none)
    (st : ∀ fs, (∀ (f : JFrame) (acts : List Action), f.method = m → f.locked = none → f.entered = [] → (doReturn e (T.setTop f) acts v).1 = T.setFrames fs) → Steps p.tables e below G (T.setFrames fs))
    (eT : T.heap = h) (hq : Q v h locs) (h1 : cells ≤ C) (h2 : slots ≤ S) : own_G p.tables e below (own_P s Q C S) G := by
  obtain ⟨fs, hr, hrun, hended, hW, hsame⟩ := X.leave (v := v) hv hlk
  exact ⟨_, _, st fs hr, hrun, hended, _, _, rfl, eT ▸ hq, ⟨_, rfl⟩, hW, hsame.mono h1 h2⟩
def own_tr (c : Int32) : Int32 := if c = 1 then 0 else if c ≤ 5 then 1 else 2
theorem own_rng (x : Int32) : 1 ≤ (x &&& (2147483647 : Int32)) % (6 : Int32) + (1 : Int32) ∧ (x &&& (2147483647 : Int32)) % (6 : Int32) + (1 : Int32) ≤ 6 := by
  have h1 := c_mask x (2147483647 : Int32) 31 (by decide) (by decide)
  have h2 := (c_irem (x &&& (2147483647 : Int32)) (6 : Int32) 6 (by decide)).1 (by omega)
  generalize (x &&& (2147483647 : Int32)) % (6 : Int32) = y at *
  have h3 : 0 ≤ y ∧ y ≤ 5 := by rw [Int32.le_iff_toInt_le, Int32.le_iff_toInt_le]; constructor <;> (show _ ≤ _) <;> simp <;> omega
  grind
theorem d1_0 : decode prog_8_method_9_code 0 = .ok (.iload_n 0, 1) := by decide +kernel
theorem d1_1 : decode prog_8_method_9_code 1 = .ok (.iconst 1, 1) := by decide +kernel
theorem d1_2 : decode prog_8_method_9_code 2 = .ok (.if_icmp .ne 8, 3) := by decide +kernel
theorem d1_5 : decode prog_8_method_9_code 5 = .ok (.iconst 0, 1) := by decide +kernel
theorem d1_6 : decode prog_8_method_9_code 6 = .ok (.istore_n 1, 1) := by decide +kernel
theorem d1_7 : decode prog_8_method_9_code 7 = .ok (.goto 15, 3) := by decide +kernel
theorem d1_10 : decode prog_8_method_9_code 10 = .ok (.iload_n 0, 1) := by decide +kernel
theorem d1_11 : decode prog_8_method_9_code 11 = .ok (.iconst 5, 1) := by decide +kernel
theorem d1_12 : decode prog_8_method_9_code 12 = .ok (.if_icmp .gt 8, 3) := by decide +kernel
theorem d1_15 : decode prog_8_method_9_code 15 = .ok (.iconst 1, 1) := by decide +kernel
theorem d1_16 : decode prog_8_method_9_code 16 = .ok (.istore_n 1, 1) := by decide +kernel
theorem d1_17 : decode prog_8_method_9_code 17 = .ok (.goto 5, 3) := by decide +kernel
theorem d1_20 : decode prog_8_method_9_code 20 = .ok (.iconst 2, 1) := by decide +kernel
theorem d1_21 : decode prog_8_method_9_code 21 = .ok (.istore_n 1, 1) := by decide +kernel
theorem d1_22 : decode prog_8_method_9_code 22 = .ok (.iload_n 1, 1) := by decide +kernel
theorem d1_23 : decode prog_8_method_9_code 23 = .ok (.ireturn, 1) := by decide +kernel
theorem pn1 : plainName "com/example/ringkeep/ringkeep/Game" = true := by first | (simp [plainName, overriddenIn]; done) | decide +kernel
theorem ef1 (m : MethodId) (x0 : Int32) : entryFrame m #[(.int x0)] 2 = mkF m 0 #[.val (.int x0), .unset] [] := by first | (simp [entryFrame, mkF, argsToLocals, Value.category]; done) | rfl
def Q1 (Z : State) (p1 : Int32) (h0 : Heap) (n0 : Nat) (v : Option Value) (h : Heap) (L : List Loc) : Prop := v = some (.int (own_tr p1)) ∧ Fr n0 L ∧ h = h0
set_option maxRecDepth 65536 in
set_option maxHeartbeats 40000000 in
theorem rm1 (l : Launch) (Z : State) (a0 : Array Value) (hw : ∀ d ∈ tables_1, d.before a0 Z = true) (ws : List Jvm.Cond) (p1 : Int32) (h0 : Heap) (n0 : Nat) (Z0 : n0 ≤ h0.size) :
    MetFree l (⟨"com/example/ringkeep/ringkeep/Game", "tradesPerTurn", "(I)I"⟩ : MethodName) (head1 (Jvm.Cond.code (⟨"com/example/ringkeep/ringkeep/Game", "tradesPerTurn", "(I)I"⟩ : MethodName) prog_8_method_9_code 2 (some .int) :: ws) ({ frames := 0, cells := 0, slots := 0, locals := 0 } : Room)) (fun a U => a = #[(.int p1)] ∧ Z.Warmed39 U.vm ∧ U.heap = h0) (fun _ _ _ _ _ => True) (fun _ U o U' => ∃ v L, o = .returned v ∧ Q1 Z p1 h0 n0 v U'.heap L ∧ FrameEnd U o U' L ({ frames := 0, cells := 0, slots := 0, locals := 0 } : Room).cells ({ frames := 0, cells := 0, slots := 0, locals := 0 } : Room).slots) := by
  refine MetFree.of_bodySF (plainFor_of_name pn1) hisR ?_
  intro p e s m args below meth c s₁ Bd hml0 hP hK
  obtain ⟨rfl, hZ, hh⟩ := hP
  have hx := Bd.exec
  have hby := Bd.bytes
  have hml : c.maxLocals = 2 := hml0
  have hown : s.vm.findClass "com/example/ringkeep/ringkeep/Game" = some m.cls := findClass_of_methodNamed Bd.named
  have hnm := (name_of_methodNamed Bd.named Bd.method).1
  have X0 : Stand p l e ({ frames := 0, cells := 0, slots := 0, locals := 0 } : Room) s m #[(.int p1)] below meth c s₁ [] 0 0 := Stand.of_body Bd
  have e0 : s₁.heap = h0 := by rw [← hh, Bd.state]; rfl
  have N0 := Fr.nil n0
  refine (show own_G p.tables e below (own_P s (Q1 Z p1 h0 n0) 0 0) (s₁.setTop (entryFrame m #[(.int p1)] 2)) from ?_)
  refine own_via (fun t k => castTop (ef1 m p1) k) ?_
  show own_G p.tables e below _ (s₁.setTop (mkF m 0 #[.val (.int p1), .unset] []))
  refine own_via (S' := s₁.setTop (mkF m 2 #[.val (.int p1), .unset] [(.int (1 : Int32)), (.int p1)])) (fun t k => ?_) ?_
  · show Steps p.tables e below (s₁.setTop (mkF m 0 #[.val (.int p1), .unset] [])) t
    refine XS.iloadN X0.here hx rfl (hb hby d1_0) rfl ?_
    show Steps p.tables e below (s₁.setTop (mkF m 1 #[.val (.int p1), .unset] [(.int p1)])) t
    refine XS.iconst X0.here hx rfl (hb hby d1_1) ?_
    exact k
  by_cases hc2_1 : p1 = (1 : Int32)
  · refine own_via (S' := s₁.setTop (mkF m 5 #[.val (.int p1), .unset] [])) (fun t k => XS.icmpNo (g := (mkF m 2 #[.val (.int p1), .unset] [(.int (1 : Int32)), (.int p1)])) X0.here hx rfl (hb hby d1_2) rfl (teq hc2_1).2 k) ?_
    refine own_via (S' := s₁.setTop (mkF m 23 #[.val (.int p1), .val (.int (0 : Int32))] [(.int (0 : Int32))])) (fun t k => ?_) ?_
    · show Steps p.tables e below (s₁.setTop (mkF m 5 #[.val (.int p1), .unset] [])) t
      refine XS.iconst X0.here hx rfl (hb hby d1_5) ?_
      show Steps p.tables e below (s₁.setTop (mkF m 6 #[.val (.int p1), .unset] [(.int (0 : Int32))])) t
      refine XS.istoreN X0.here hx rfl (hb hby d1_6) rfl (l' := #[.val (.int p1), .val (.int (0 : Int32))]) rfl ?_
      show Steps p.tables e below (s₁.setTop (mkF m 7 #[.val (.int p1), .val (.int (0 : Int32))] [])) t
      refine XS.goto X0.here hx rfl (pc0 := 7) (pc' := 22) rfl (hb hby d1_7) (by decide) (by decide) ?_
      show Steps p.tables e below (s₁.setTop (mkF m 22 #[.val (.int p1), .val (.int (0 : Int32))] [])) t
      refine XS.iloadN X0.here hx rfl (hb hby d1_22) rfl ?_
      exact k
    exact own_end (h := h0) X0 (v := some (.int (0 : Int32))) Bd.notSynchronized (fun h => by rw [Bd.returns] at h; cases h) (fun fs hr => retOut X0 hx Bd.returns rfl (Or.inl ⟨rfl, Or.inl rfl, _, rfl⟩) (hb hby d1_23) hr) e0 ⟨by show some (Value.int _) = some (Value.int _); congr 2; unfold own_tr; grind, N0, rfl⟩ (by decide) (by decide)
  · refine own_via (S' := s₁.setTop (mkF m 10 #[.val (.int p1), .unset] [])) (fun t k => XS.icmpYes (g := (mkF m 2 #[.val (.int p1), .unset] [(.int (1 : Int32)), (.int p1)])) X0.here hx rfl (pc0 := 2) (pc' := 10) rfl (hb hby d1_2) rfl (feq hc2_1).2 (by decide) (by decide) k) ?_
    refine own_via (S' := s₁.setTop (mkF m 12 #[.val (.int p1), .unset] [(.int (5 : Int32)), (.int p1)])) (fun t k => ?_) ?_
    · show Steps p.tables e below (s₁.setTop (mkF m 10 #[.val (.int p1), .unset] [])) t
      refine XS.iloadN X0.here hx rfl (hb hby d1_10) rfl ?_
      show Steps p.tables e below (s₁.setTop (mkF m 11 #[.val (.int p1), .unset] [(.int p1)])) t
      refine XS.iconst X0.here hx rfl (hb hby d1_11) ?_
      exact k
    by_cases hc12_2 : (5 : Int32) < p1
    · refine own_via (S' := s₁.setTop (mkF m 20 #[.val (.int p1), .unset] [])) (fun t k => XS.icmpYes (g := (mkF m 12 #[.val (.int p1), .unset] [(.int (5 : Int32)), (.int p1)])) X0.here hx rfl (pc0 := 12) (pc' := 20) rfl (hb hby d1_12) rfl (tlt hc12_2).2.2.1 (by decide) (by decide) k) ?_
      refine own_via (S' := s₁.setTop (mkF m 23 #[.val (.int p1), .val (.int (2 : Int32))] [(.int (2 : Int32))])) (fun t k => ?_) ?_
      · show Steps p.tables e below (s₁.setTop (mkF m 20 #[.val (.int p1), .unset] [])) t
        refine XS.iconst X0.here hx rfl (hb hby d1_20) ?_
        show Steps p.tables e below (s₁.setTop (mkF m 21 #[.val (.int p1), .unset] [(.int (2 : Int32))])) t
        refine XS.istoreN X0.here hx rfl (hb hby d1_21) rfl (l' := #[.val (.int p1), .val (.int (2 : Int32))]) rfl ?_
        show Steps p.tables e below (s₁.setTop (mkF m 22 #[.val (.int p1), .val (.int (2 : Int32))] [])) t
        refine XS.iloadN X0.here hx rfl (hb hby d1_22) rfl ?_
        exact k
      exact own_end (h := h0) X0 (v := some (.int (2 : Int32))) Bd.notSynchronized (fun h => by rw [Bd.returns] at h; cases h) (fun fs hr => retOut X0 hx Bd.returns rfl (Or.inl ⟨rfl, Or.inl rfl, _, rfl⟩) (hb hby d1_23) hr) e0 ⟨by show some (Value.int _) = some (Value.int _); congr 2; unfold own_tr; grind, N0, rfl⟩ (by decide) (by decide)
    · refine own_via (S' := s₁.setTop (mkF m 15 #[.val (.int p1), .unset] [])) (fun t k => XS.icmpNo (g := (mkF m 12 #[.val (.int p1), .unset] [(.int (5 : Int32)), (.int p1)])) X0.here hx rfl (hb hby d1_12) rfl (flt hc12_2).2.2.1 k) ?_
      refine own_via (S' := s₁.setTop (mkF m 23 #[.val (.int p1), .val (.int (1 : Int32))] [(.int (1 : Int32))])) (fun t k => ?_) ?_
      · show Steps p.tables e below (s₁.setTop (mkF m 15 #[.val (.int p1), .unset] [])) t
        refine XS.iconst X0.here hx rfl (hb hby d1_15) ?_
        show Steps p.tables e below (s₁.setTop (mkF m 16 #[.val (.int p1), .unset] [(.int (1 : Int32))])) t
        refine XS.istoreN X0.here hx rfl (hb hby d1_16) rfl (l' := #[.val (.int p1), .val (.int (1 : Int32))]) rfl ?_
        show Steps p.tables e below (s₁.setTop (mkF m 17 #[.val (.int p1), .val (.int (1 : Int32))] [])) t
        refine XS.goto X0.here hx rfl (pc0 := 17) (pc' := 22) rfl (hb hby d1_17) (by decide) (by decide) ?_
        show Steps p.tables e below (s₁.setTop (mkF m 22 #[.val (.int p1), .val (.int (1 : Int32))] [])) t
        refine XS.iloadN X0.here hx rfl (hb hby d1_22) rfl ?_
        exact k
      exact own_end (h := h0) X0 (v := some (.int (1 : Int32))) Bd.notSynchronized (fun h => by rw [Bd.returns] at h; cases h) (fun fs hr => retOut X0 hx Bd.returns rfl (Or.inl ⟨rfl, Or.inl rfl, _, rfl⟩) (hb hby d1_23) hr) e0 ⟨by show some (Value.int _) = some (Value.int _); congr 2; unfold own_tr; grind, N0, rfl⟩ (by decide) (by decide)
theorem own_ix {y : Int32} (h : 1 ≤ y ∧ y ≤ 6) : ¬ y < 0 ∧ y < (7 : Int32) := by grind
theorem own_el {y : Int32} (h : 1 ≤ y ∧ y ≤ 6) : [(Value.int (0 : Int32)), (.int (0 : Int32)), (.int (1 : Int32)), (.int (1 : Int32)), (.int (1 : Int32)), (.int (1 : Int32)), (.int (2 : Int32))].getD y.toNatClampNeg (.int (0 : Int32)) = Value.int (own_tr y) := by
  have h2 : y = 1 ∨ y = 2 ∨ y = 3 ∨ y = 4 ∨ y = 5 ∨ y = 6 := by grind
  rcases h2 with rfl | rfl | rfl | rfl | rfl | rfl <;> rfl
theorem pn0 : plainName "com/example/ringkeep/ringkeep/GameTradesPerTurnPinLaw" = true := by first | (simp [plainName, overriddenIn]; done) | decide +kernel
theorem pd_0 : parseMethodDescriptor "(I)I" = some ⟨[.int], some .int⟩ := by decide +kernel
theorem ef0 (m : MethodId) (x0 : Int32) : entryFrame m #[(.int x0)] maxLocals = mkF m 0 #[.val (.int x0), .unset, .unset] [] := by first | (simp [entryFrame, mkF, argsToLocals, Value.category, maxLocals]; done) | rfl
def Q0 (Z : State) (p1 : Int32) (h0 : Heap) (n0 : Nat) (v : Option Value) (h : Heap) (L : List Loc) : Prop := v = some (.int 1) ∧ Fr n0 L
set_option maxRecDepth 65536 in
set_option maxHeartbeats 40000000 in
theorem rm0 (l : Launch) (Z : State) (a0 : Array Value) (hw : ∀ d ∈ tables_1, d.before a0 Z = true) (ws : List Jvm.Cond) (p1 : Int32) (h0 : Heap) (n0 : Nat) (Z0 : n0 ≤ h0.size) :
    MetFree l x (head1 (Jvm.Cond.code x code maxLocals ret :: ws) room_1) (fun a U => a = #[(.int p1)] ∧ Z.Warmed39 U.vm ∧ U.heap = h0) (fun _ _ _ _ _ => True) (fun _ U o U' => ∃ v L, o = .returned v ∧ Q0 Z p1 h0 n0 v U'.heap L ∧ FrameEnd U o U' L 16 128) := by
  refine MetFree.of_bodySF (plainFor_of_name pn0) hisR ?_
  intro p e s m args below meth c s₁ Bd hml0 hP hK
  obtain ⟨rfl, hZ, hh⟩ := hP
  have hx := Bd.exec
  have hby := Bd.bytes
  have hml : c.maxLocals = 3 := hml0
  have hown : s.vm.findClass "com/example/ringkeep/ringkeep/GameTradesPerTurnPinLaw" = some m.cls := findClass_of_methodNamed Bd.named
  have hnm := (name_of_methodNamed Bd.named Bd.method).1
  have X0 : Stand p l e room_1 s m #[(.int p1)] below meth c s₁ [] 0 0 := Stand.of_body Bd
  have e0 : s₁.heap = h0 := by rw [← hh, Bd.state]; rfl
  have N0 := Fr.nil n0
  refine (show own_G p.tables e below (own_P s (Q0 Z p1 h0 n0) 16 128) (s₁.setTop (entryFrame m #[(.int p1)] maxLocals)) from ?_)
  refine own_via (fun t k => castTop (ef0 m p1) k) ?_
  show own_G p.tables e below _ (s₁.setTop (mkF m 0 #[.val (.int p1), .unset, .unset] []))
  have K0 := Keep.refl h0 []
  refine own_via (S' := s₁.setTop (mkF m 12 #[.val (.int p1), .val (.int (((p1 &&& (2147483647 : Int32)) % (6 : Int32)) + (1 : Int32))), .unset] [(.int (7 : Int32))])) (fun t k => ?_) ?_
  · show Steps p.tables e below (s₁.setTop (mkF m 0 #[.val (.int p1), .unset, .unset] [])) t
    refine XS.iloadN X0.here hx rfl (hb hby at_0) rfl ?_
    show Steps p.tables e below (s₁.setTop (mkF m 1 #[.val (.int p1), .unset, .unset] [(.int p1)])) t
    refine X0.ldcInt hx hown (mvT hZ (hw _ (List.mem_of_getElem? (i := 0) rfl))) (g := (mkF m 1 #[.val (.int p1), .unset, .unset] [(.int p1)])) rfl (hb hby at_1) _ ?_
    show Steps p.tables e below (s₁.setTop (mkF m 3 #[.val (.int p1), .unset, .unset] [(.int (2147483647 : Int32)), (.int p1)])) t
    refine XS.iand X0.here hx rfl (hb hby at_3) rfl ?_
    show Steps p.tables e below (s₁.setTop (mkF m 4 #[.val (.int p1), .unset, .unset] [(.int (p1 &&& (2147483647 : Int32)))])) t
    refine XS.bipush X0.here hx rfl (hb hby at_4) ?_
    show Steps p.tables e below (s₁.setTop (mkF m 6 #[.val (.int p1), .unset, .unset] [(.int (6 : Int32)), (.int (p1 &&& (2147483647 : Int32)))])) t
    refine iremM X0 hx rfl (hb hby at_6) rfl (by decide) ?_
    show Steps p.tables e below (s₁.setTop (mkF m 7 #[.val (.int p1), .unset, .unset] [(.int ((p1 &&& (2147483647 : Int32)) % (6 : Int32)))])) t
    refine XS.iconst X0.here hx rfl (hb hby at_7) ?_
    show Steps p.tables e below (s₁.setTop (mkF m 8 #[.val (.int p1), .unset, .unset] [(.int (1 : Int32)), (.int ((p1 &&& (2147483647 : Int32)) % (6 : Int32)))])) t
    refine XS.iadd X0.here hx rfl (hb hby at_8) rfl ?_
    show Steps p.tables e below (s₁.setTop (mkF m 9 #[.val (.int p1), .unset, .unset] [(.int (((p1 &&& (2147483647 : Int32)) % (6 : Int32)) + (1 : Int32)))])) t
    refine XS.istoreN X0.here hx rfl (hb hby at_9) rfl (l' := #[.val (.int p1), .val (.int (((p1 &&& (2147483647 : Int32)) % (6 : Int32)) + (1 : Int32))), .unset]) rfl ?_
    show Steps p.tables e below (s₁.setTop (mkF m 10 #[.val (.int p1), .val (.int (((p1 &&& (2147483647 : Int32)) % (6 : Int32)) + (1 : Int32))), .unset] [])) t
    refine XS.bipush X0.here hx rfl (hb hby at_10) ?_
    exact k
  obtain ⟨T1, h1, k1, X1, e1, E1, A1, st1⟩ := newP X0 hx hZ (hw _ (List.mem_of_getElem? (i := 1) rfl)) e0 (g := (mkF m 12 #[.val (.int p1), .val (.int (((p1 &&& (2147483647 : Int32)) % (6 : Int32)) + (1 : Int32))), .unset] [(.int (7 : Int32))])) rfl (hb hby at_12) rfl (by decide) (cap := 7) (by decide) (by decide) (by decide) (by decide)
  obtain ⟨b1, g1⟩ : ∃ z, z = h0.size := ⟨_, rfl⟩
  have g_b1 : n0 ≤ b1 := Nat.le_trans (Nat.le_trans Z0 K0.1) (Nat.le_of_eq g1.symm)
  have sz_b1 : h0.size ≤ b1 := Nat.le_trans K0.1 (Nat.le_of_eq g1.symm)
  rw [← g1] at A1 st1
  have K1 : Keep h0 h1 [] := Keep.ext K0 E1
  have V_b1 : Arv Z h1 b1 k1 .int (7 : Int32) [(.int (0 : Int32)), (.int (0 : Int32)), (.int (0 : Int32)), (.int (0 : Int32)), (.int (0 : Int32)), (.int (0 : Int32)), (.int (0 : Int32))] (.int (0 : Int32)) := (Arv.new A1 (by decide)).pad (pad_rep [] (.int (0 : Int32)) 7)
  refine own_via st1 ?_
  show own_G p.tables e below _ (T1.setTop (mkF m 14 #[.val (.int p1), .val (.int (((p1 &&& (2147483647 : Int32)) % (6 : Int32)) + (1 : Int32))), .unset] [(.ref b1)]))
  refine own_via (S' := T1.setTop (mkF m 17 #[.val (.int p1), .val (.int (((p1 &&& (2147483647 : Int32)) % (6 : Int32)) + (1 : Int32))), .unset] [(.int (0 : Int32)), (.int (0 : Int32)), (.ref b1), (.ref b1)])) (fun t k => ?_) ?_
  · show Steps p.tables e below (T1.setTop (mkF m 14 #[.val (.int p1), .val (.int (((p1 &&& (2147483647 : Int32)) % (6 : Int32)) + (1 : Int32))), .unset] [(.ref b1)])) t
    refine XS.dup X1.here hx rfl (hb hby at_14) rfl rfl ?_
    show Steps p.tables e below (T1.setTop (mkF m 15 #[.val (.int p1), .val (.int (((p1 &&& (2147483647 : Int32)) % (6 : Int32)) + (1 : Int32))), .unset] [(.ref b1), (.ref b1)])) t
    refine XS.iconst X1.here hx rfl (hb hby at_15) ?_
    show Steps p.tables e below (T1.setTop (mkF m 16 #[.val (.int p1), .val (.int (((p1 &&& (2147483647 : Int32)) % (6 : Int32)) + (1 : Int32))), .unset] [(.int (0 : Int32)), (.ref b1), (.ref b1)])) t
    refine XS.iconst X1.here hx rfl (hb hby at_16) ?_
    exact k
  obtain ⟨cl2, Ar2, q2, S2, Nn2, H2, G2⟩ := id V_b1
  have hin2 : ¬ ((0 : Int32) < 0 ∨ cl2.slots.size ≤ ((0 : Int32)).toNatClampNeg) := inb_of S2 ⟨by decide, by decide⟩
  obtain ⟨T2, h2, X2, e2, W2, st2⟩ := stI X1 hx hZ e1 Ar2 (j := (0 : Int32)) hin2 (g := (mkF m 17 #[.val (.int p1), .val (.int (((p1 &&& (2147483647 : Int32)) % (6 : Int32)) + (1 : Int32))), .unset] [(.int (0 : Int32)), (.int (0 : Int32)), (.ref b1), (.ref b1)])) rfl rfl (hb hby at_17)
  have V2 : Arv Z h2 b1 k1 .int (7 : Int32) [(.int (0 : Int32)), (.int (0 : Int32)), (.int (0 : Int32)), (.int (0 : Int32)), (.int (0 : Int32)), (.int (0 : Int32)), (.int (0 : Int32))] (.int (0 : Int32)) := Arv.set Ar2 q2 S2 Nn2 H2 G2 rfl W2 0 rfl (by decide)
  have K3 : Keep h0 h2 [] := Keep.wr K1 W2 (Or.inr sz_b1)
  have N3 := Fr.snoc X2 N0 g_b1
  refine own_via st2 ?_
  show own_G p.tables e below _ (T2.setTop (mkF m 18 #[.val (.int p1), .val (.int (((p1 &&& (2147483647 : Int32)) % (6 : Int32)) + (1 : Int32))), .unset] [(.ref b1)]))
  refine own_via (S' := T2.setTop (mkF m 21 #[.val (.int p1), .val (.int (((p1 &&& (2147483647 : Int32)) % (6 : Int32)) + (1 : Int32))), .unset] [(.int (0 : Int32)), (.int (1 : Int32)), (.ref b1), (.ref b1)])) (fun t k => ?_) ?_
  · show Steps p.tables e below (T2.setTop (mkF m 18 #[.val (.int p1), .val (.int (((p1 &&& (2147483647 : Int32)) % (6 : Int32)) + (1 : Int32))), .unset] [(.ref b1)])) t
    refine XS.dup X2.here hx rfl (hb hby at_18) rfl rfl ?_
    show Steps p.tables e below (T2.setTop (mkF m 19 #[.val (.int p1), .val (.int (((p1 &&& (2147483647 : Int32)) % (6 : Int32)) + (1 : Int32))), .unset] [(.ref b1), (.ref b1)])) t
    refine XS.iconst X2.here hx rfl (hb hby at_19) ?_
    show Steps p.tables e below (T2.setTop (mkF m 20 #[.val (.int p1), .val (.int (((p1 &&& (2147483647 : Int32)) % (6 : Int32)) + (1 : Int32))), .unset] [(.int (1 : Int32)), (.ref b1), (.ref b1)])) t
    refine XS.iconst X2.here hx rfl (hb hby at_20) ?_
    exact k
  obtain ⟨cl4, Ar4, q4, S4, Nn4, H4, G4⟩ := id V2
  have hin4 : ¬ ((1 : Int32) < 0 ∨ cl4.slots.size ≤ ((1 : Int32)).toNatClampNeg) := inb_of S4 ⟨by decide, by decide⟩
  obtain ⟨T4, h4, X4, e4, W4, st4⟩ := stI X2 hx hZ e2 Ar4 (j := (1 : Int32)) hin4 (g := (mkF m 21 #[.val (.int p1), .val (.int (((p1 &&& (2147483647 : Int32)) % (6 : Int32)) + (1 : Int32))), .unset] [(.int (0 : Int32)), (.int (1 : Int32)), (.ref b1), (.ref b1)])) rfl rfl (hb hby at_21)
  have V4 : Arv Z h4 b1 k1 .int (7 : Int32) [(.int (0 : Int32)), (.int (0 : Int32)), (.int (0 : Int32)), (.int (0 : Int32)), (.int (0 : Int32)), (.int (0 : Int32)), (.int (0 : Int32))] (.int (0 : Int32)) := Arv.set Ar4 q4 S4 Nn4 H4 G4 rfl W4 1 rfl (by decide)
  have K5 : Keep h0 h4 [] := Keep.wr K3 W4 (Or.inr sz_b1)
  have N5 := Fr.snoc X4 N3 g_b1
  refine own_via st4 ?_
  show own_G p.tables e below _ (T4.setTop (mkF m 22 #[.val (.int p1), .val (.int (((p1 &&& (2147483647 : Int32)) % (6 : Int32)) + (1 : Int32))), .unset] [(.ref b1)]))
  refine own_via (S' := T4.setTop (mkF m 25 #[.val (.int p1), .val (.int (((p1 &&& (2147483647 : Int32)) % (6 : Int32)) + (1 : Int32))), .unset] [(.int (1 : Int32)), (.int (2 : Int32)), (.ref b1), (.ref b1)])) (fun t k => ?_) ?_
  · show Steps p.tables e below (T4.setTop (mkF m 22 #[.val (.int p1), .val (.int (((p1 &&& (2147483647 : Int32)) % (6 : Int32)) + (1 : Int32))), .unset] [(.ref b1)])) t
    refine XS.dup X4.here hx rfl (hb hby at_22) rfl rfl ?_
    show Steps p.tables e below (T4.setTop (mkF m 23 #[.val (.int p1), .val (.int (((p1 &&& (2147483647 : Int32)) % (6 : Int32)) + (1 : Int32))), .unset] [(.ref b1), (.ref b1)])) t
    refine XS.iconst X4.here hx rfl (hb hby at_23) ?_
    show Steps p.tables e below (T4.setTop (mkF m 24 #[.val (.int p1), .val (.int (((p1 &&& (2147483647 : Int32)) % (6 : Int32)) + (1 : Int32))), .unset] [(.int (2 : Int32)), (.ref b1), (.ref b1)])) t
    refine XS.iconst X4.here hx rfl (hb hby at_24) ?_
    exact k
  obtain ⟨cl6, Ar6, q6, S6, Nn6, H6, G6⟩ := id V4
  have hin6 : ¬ ((2 : Int32) < 0 ∨ cl6.slots.size ≤ ((2 : Int32)).toNatClampNeg) := inb_of S6 ⟨by decide, by decide⟩
  obtain ⟨T6, h6, X6, e6, W6, st6⟩ := stI X4 hx hZ e4 Ar6 (j := (2 : Int32)) hin6 (g := (mkF m 25 #[.val (.int p1), .val (.int (((p1 &&& (2147483647 : Int32)) % (6 : Int32)) + (1 : Int32))), .unset] [(.int (1 : Int32)), (.int (2 : Int32)), (.ref b1), (.ref b1)])) rfl rfl (hb hby at_25)
  have V6 : Arv Z h6 b1 k1 .int (7 : Int32) [(.int (0 : Int32)), (.int (0 : Int32)), (.int (1 : Int32)), (.int (0 : Int32)), (.int (0 : Int32)), (.int (0 : Int32)), (.int (0 : Int32))] (.int (0 : Int32)) := Arv.set Ar6 q6 S6 Nn6 H6 G6 rfl W6 2 rfl (by decide)
  have K7 : Keep h0 h6 [] := Keep.wr K5 W6 (Or.inr sz_b1)
  have N7 := Fr.snoc X6 N5 g_b1
  refine own_via st6 ?_
  show own_G p.tables e below _ (T6.setTop (mkF m 26 #[.val (.int p1), .val (.int (((p1 &&& (2147483647 : Int32)) % (6 : Int32)) + (1 : Int32))), .unset] [(.ref b1)]))
  refine own_via (S' := T6.setTop (mkF m 29 #[.val (.int p1), .val (.int (((p1 &&& (2147483647 : Int32)) % (6 : Int32)) + (1 : Int32))), .unset] [(.int (1 : Int32)), (.int (3 : Int32)), (.ref b1), (.ref b1)])) (fun t k => ?_) ?_
  · show Steps p.tables e below (T6.setTop (mkF m 26 #[.val (.int p1), .val (.int (((p1 &&& (2147483647 : Int32)) % (6 : Int32)) + (1 : Int32))), .unset] [(.ref b1)])) t
    refine XS.dup X6.here hx rfl (hb hby at_26) rfl rfl ?_
    show Steps p.tables e below (T6.setTop (mkF m 27 #[.val (.int p1), .val (.int (((p1 &&& (2147483647 : Int32)) % (6 : Int32)) + (1 : Int32))), .unset] [(.ref b1), (.ref b1)])) t
    refine XS.iconst X6.here hx rfl (hb hby at_27) ?_
    show Steps p.tables e below (T6.setTop (mkF m 28 #[.val (.int p1), .val (.int (((p1 &&& (2147483647 : Int32)) % (6 : Int32)) + (1 : Int32))), .unset] [(.int (3 : Int32)), (.ref b1), (.ref b1)])) t
    refine XS.iconst X6.here hx rfl (hb hby at_28) ?_
    exact k
  obtain ⟨cl8, Ar8, q8, S8, Nn8, H8, G8⟩ := id V6
  have hin8 : ¬ ((3 : Int32) < 0 ∨ cl8.slots.size ≤ ((3 : Int32)).toNatClampNeg) := inb_of S8 ⟨by decide, by decide⟩
  obtain ⟨T8, h8, X8, e8, W8, st8⟩ := stI X6 hx hZ e6 Ar8 (j := (3 : Int32)) hin8 (g := (mkF m 29 #[.val (.int p1), .val (.int (((p1 &&& (2147483647 : Int32)) % (6 : Int32)) + (1 : Int32))), .unset] [(.int (1 : Int32)), (.int (3 : Int32)), (.ref b1), (.ref b1)])) rfl rfl (hb hby at_29)
  have V8 : Arv Z h8 b1 k1 .int (7 : Int32) [(.int (0 : Int32)), (.int (0 : Int32)), (.int (1 : Int32)), (.int (1 : Int32)), (.int (0 : Int32)), (.int (0 : Int32)), (.int (0 : Int32))] (.int (0 : Int32)) := Arv.set Ar8 q8 S8 Nn8 H8 G8 rfl W8 3 rfl (by decide)
  have K9 : Keep h0 h8 [] := Keep.wr K7 W8 (Or.inr sz_b1)
  have N9 := Fr.snoc X8 N7 g_b1
  refine own_via st8 ?_
  show own_G p.tables e below _ (T8.setTop (mkF m 30 #[.val (.int p1), .val (.int (((p1 &&& (2147483647 : Int32)) % (6 : Int32)) + (1 : Int32))), .unset] [(.ref b1)]))
  refine own_via (S' := T8.setTop (mkF m 33 #[.val (.int p1), .val (.int (((p1 &&& (2147483647 : Int32)) % (6 : Int32)) + (1 : Int32))), .unset] [(.int (1 : Int32)), (.int (4 : Int32)), (.ref b1), (.ref b1)])) (fun t k => ?_) ?_
  · show Steps p.tables e below (T8.setTop (mkF m 30 #[.val (.int p1), .val (.int (((p1 &&& (2147483647 : Int32)) % (6 : Int32)) + (1 : Int32))), .unset] [(.ref b1)])) t
    refine XS.dup X8.here hx rfl (hb hby at_30) rfl rfl ?_
    show Steps p.tables e below (T8.setTop (mkF m 31 #[.val (.int p1), .val (.int (((p1 &&& (2147483647 : Int32)) % (6 : Int32)) + (1 : Int32))), .unset] [(.ref b1), (.ref b1)])) t
    refine XS.iconst X8.here hx rfl (hb hby at_31) ?_
    show Steps p.tables e below (T8.setTop (mkF m 32 #[.val (.int p1), .val (.int (((p1 &&& (2147483647 : Int32)) % (6 : Int32)) + (1 : Int32))), .unset] [(.int (4 : Int32)), (.ref b1), (.ref b1)])) t
    refine XS.iconst X8.here hx rfl (hb hby at_32) ?_
    exact k
  obtain ⟨cl10, Ar10, q10, S10, Nn10, H10, G10⟩ := id V8
  have hin10 : ¬ ((4 : Int32) < 0 ∨ cl10.slots.size ≤ ((4 : Int32)).toNatClampNeg) := inb_of S10 ⟨by decide, by decide⟩
  obtain ⟨T10, h10, X10, e10, W10, st10⟩ := stI X8 hx hZ e8 Ar10 (j := (4 : Int32)) hin10 (g := (mkF m 33 #[.val (.int p1), .val (.int (((p1 &&& (2147483647 : Int32)) % (6 : Int32)) + (1 : Int32))), .unset] [(.int (1 : Int32)), (.int (4 : Int32)), (.ref b1), (.ref b1)])) rfl rfl (hb hby at_33)
  have V10 : Arv Z h10 b1 k1 .int (7 : Int32) [(.int (0 : Int32)), (.int (0 : Int32)), (.int (1 : Int32)), (.int (1 : Int32)), (.int (1 : Int32)), (.int (0 : Int32)), (.int (0 : Int32))] (.int (0 : Int32)) := Arv.set Ar10 q10 S10 Nn10 H10 G10 rfl W10 4 rfl (by decide)
  have K11 : Keep h0 h10 [] := Keep.wr K9 W10 (Or.inr sz_b1)
  have N11 := Fr.snoc X10 N9 g_b1
  refine own_via st10 ?_
  show own_G p.tables e below _ (T10.setTop (mkF m 34 #[.val (.int p1), .val (.int (((p1 &&& (2147483647 : Int32)) % (6 : Int32)) + (1 : Int32))), .unset] [(.ref b1)]))
  refine own_via (S' := T10.setTop (mkF m 37 #[.val (.int p1), .val (.int (((p1 &&& (2147483647 : Int32)) % (6 : Int32)) + (1 : Int32))), .unset] [(.int (1 : Int32)), (.int (5 : Int32)), (.ref b1), (.ref b1)])) (fun t k => ?_) ?_
  · show Steps p.tables e below (T10.setTop (mkF m 34 #[.val (.int p1), .val (.int (((p1 &&& (2147483647 : Int32)) % (6 : Int32)) + (1 : Int32))), .unset] [(.ref b1)])) t
    refine XS.dup X10.here hx rfl (hb hby at_34) rfl rfl ?_
    show Steps p.tables e below (T10.setTop (mkF m 35 #[.val (.int p1), .val (.int (((p1 &&& (2147483647 : Int32)) % (6 : Int32)) + (1 : Int32))), .unset] [(.ref b1), (.ref b1)])) t
    refine XS.iconst X10.here hx rfl (hb hby at_35) ?_
    show Steps p.tables e below (T10.setTop (mkF m 36 #[.val (.int p1), .val (.int (((p1 &&& (2147483647 : Int32)) % (6 : Int32)) + (1 : Int32))), .unset] [(.int (5 : Int32)), (.ref b1), (.ref b1)])) t
    refine XS.iconst X10.here hx rfl (hb hby at_36) ?_
    exact k
  obtain ⟨cl12, Ar12, q12, S12, Nn12, H12, G12⟩ := id V10
  have hin12 : ¬ ((5 : Int32) < 0 ∨ cl12.slots.size ≤ ((5 : Int32)).toNatClampNeg) := inb_of S12 ⟨by decide, by decide⟩
  obtain ⟨T12, h12, X12, e12, W12, st12⟩ := stI X10 hx hZ e10 Ar12 (j := (5 : Int32)) hin12 (g := (mkF m 37 #[.val (.int p1), .val (.int (((p1 &&& (2147483647 : Int32)) % (6 : Int32)) + (1 : Int32))), .unset] [(.int (1 : Int32)), (.int (5 : Int32)), (.ref b1), (.ref b1)])) rfl rfl (hb hby at_37)
  have V12 : Arv Z h12 b1 k1 .int (7 : Int32) [(.int (0 : Int32)), (.int (0 : Int32)), (.int (1 : Int32)), (.int (1 : Int32)), (.int (1 : Int32)), (.int (1 : Int32)), (.int (0 : Int32))] (.int (0 : Int32)) := Arv.set Ar12 q12 S12 Nn12 H12 G12 rfl W12 5 rfl (by decide)
  have K13 : Keep h0 h12 [] := Keep.wr K11 W12 (Or.inr sz_b1)
  have N13 := Fr.snoc X12 N11 g_b1
  refine own_via st12 ?_
  show own_G p.tables e below _ (T12.setTop (mkF m 38 #[.val (.int p1), .val (.int (((p1 &&& (2147483647 : Int32)) % (6 : Int32)) + (1 : Int32))), .unset] [(.ref b1)]))
  refine own_via (S' := T12.setTop (mkF m 42 #[.val (.int p1), .val (.int (((p1 &&& (2147483647 : Int32)) % (6 : Int32)) + (1 : Int32))), .unset] [(.int (2 : Int32)), (.int (6 : Int32)), (.ref b1), (.ref b1)])) (fun t k => ?_) ?_
  · show Steps p.tables e below (T12.setTop (mkF m 38 #[.val (.int p1), .val (.int (((p1 &&& (2147483647 : Int32)) % (6 : Int32)) + (1 : Int32))), .unset] [(.ref b1)])) t
    refine XS.dup X12.here hx rfl (hb hby at_38) rfl rfl ?_
    show Steps p.tables e below (T12.setTop (mkF m 39 #[.val (.int p1), .val (.int (((p1 &&& (2147483647 : Int32)) % (6 : Int32)) + (1 : Int32))), .unset] [(.ref b1), (.ref b1)])) t
    refine XS.bipush X12.here hx rfl (hb hby at_39) ?_
    show Steps p.tables e below (T12.setTop (mkF m 41 #[.val (.int p1), .val (.int (((p1 &&& (2147483647 : Int32)) % (6 : Int32)) + (1 : Int32))), .unset] [(.int (6 : Int32)), (.ref b1), (.ref b1)])) t
    refine XS.iconst X12.here hx rfl (hb hby at_41) ?_
    exact k
  obtain ⟨cl14, Ar14, q14, S14, Nn14, H14, G14⟩ := id V12
  have hin14 : ¬ ((6 : Int32) < 0 ∨ cl14.slots.size ≤ ((6 : Int32)).toNatClampNeg) := inb_of S14 ⟨by decide, by decide⟩
  obtain ⟨T14, h14, X14, e14, W14, st14⟩ := stI X12 hx hZ e12 Ar14 (j := (6 : Int32)) hin14 (g := (mkF m 42 #[.val (.int p1), .val (.int (((p1 &&& (2147483647 : Int32)) % (6 : Int32)) + (1 : Int32))), .unset] [(.int (2 : Int32)), (.int (6 : Int32)), (.ref b1), (.ref b1)])) rfl rfl (hb hby at_42)
  have V14 : Arv Z h14 b1 k1 .int (7 : Int32) [(.int (0 : Int32)), (.int (0 : Int32)), (.int (1 : Int32)), (.int (1 : Int32)), (.int (1 : Int32)), (.int (1 : Int32)), (.int (2 : Int32))] (.int (0 : Int32)) := Arv.set Ar14 q14 S14 Nn14 H14 G14 rfl W14 6 rfl (by decide)
  have K15 : Keep h0 h14 [] := Keep.wr K13 W14 (Or.inr sz_b1)
  have N15 := Fr.snoc X14 N13 g_b1
  refine own_via st14 ?_
  show own_G p.tables e below _ (T14.setTop (mkF m 43 #[.val (.int p1), .val (.int (((p1 &&& (2147483647 : Int32)) % (6 : Int32)) + (1 : Int32))), .unset] [(.ref b1)]))
  refine own_via (S' := T14.setTop (mkF m 45 #[.val (.int p1), .val (.int (((p1 &&& (2147483647 : Int32)) % (6 : Int32)) + (1 : Int32))), .val (.ref b1)] [(.int (((p1 &&& (2147483647 : Int32)) % (6 : Int32)) + (1 : Int32)))])) (fun t k => ?_) ?_
  · show Steps p.tables e below (T14.setTop (mkF m 43 #[.val (.int p1), .val (.int (((p1 &&& (2147483647 : Int32)) % (6 : Int32)) + (1 : Int32))), .unset] [(.ref b1)])) t
    refine XS.astoreN X14.here hx rfl (hb hby at_43) rfl rfl (l' := #[.val (.int p1), .val (.int (((p1 &&& (2147483647 : Int32)) % (6 : Int32)) + (1 : Int32))), .val (.ref b1)]) rfl ?_
    show Steps p.tables e below (T14.setTop (mkF m 44 #[.val (.int p1), .val (.int (((p1 &&& (2147483647 : Int32)) % (6 : Int32)) + (1 : Int32))), .val (.ref b1)] [])) t
    refine XS.iloadN X14.here hx rfl (hb hby at_44) rfl ?_
    exact k
  obtain ⟨_, _, ⟨T16, L16, k16, n16⟩, -, X16, ⟨Lc16, hQ16, l16, y16, z16⟩, st16⟩ := Jvm.LawKit.callS X14 hx (y := (⟨"com/example/ringkeep/ringkeep/Game", "tradesPerTurn", "(I)I"⟩ : MethodName)) hown (mvT hZ (hw _ (List.mem_of_getElem? (i := 2) rfl))) (mvT hZ (hw _ (List.mem_of_getElem? (i := 3) rfl))) (mvT hZ (hw _ (List.mem_of_getElem? (i := 4) rfl))) (mvT hZ (hw _ (List.mem_of_getElem? (i := 5) rfl))) (by decide) (backOf (W := 0) (rm1 l Z a0 hw [] (((p1 &&& (2147483647 : Int32)) % (6 : Int32)) + (1 : Int32)) h14 n0 (Nat.le_trans Z0 K15.1)) hZ (hw _ (List.mem_of_getElem? (i := 5) rfl)) (hw _ (List.mem_of_getElem? (i := 4) rfl)) (by decide) (by decide)) (g := (mkF m 45 #[.val (.int p1), .val (.int (((p1 &&& (2147483647 : Int32)) % (6 : Int32)) + (1 : Int32))), .val (.ref b1)] [(.int (((p1 &&& (2147483647 : Int32)) % (6 : Int32)) + (1 : Int32)))])) rfl (by rw [hml]; rfl) (argsL := [(.int (((p1 &&& (2147483647 : Int32)) % (6 : Int32)) + (1 : Int32)))]) (rest := []) (lenOf pd_0 rfl) rfl (by show 2 * 0 + _ ≤ _; exact Nat.le_of_eq rfl) (hb hby at_45) (fun _ _ => ⟨rfl, e14, (by decide : 1 + 0 ≤ _), (by decide : 7 + 0 ≤ _)⟩)
  dsimp only [Pt.U, Pt.locs, Pt.cells, Pt.slots] at X16 l16 y16 z16 st16 hQ16
  subst l16 y16 z16
  obtain ⟨rfl, Nq16, hh16⟩ := hQ16
  have N16 := Fr.app N15 Nq16
  refine own_via st16 ?_
  show own_G p.tables e below _ (T16.setTop (mkF m 48 #[.val (.int p1), .val (.int (((p1 &&& (2147483647 : Int32)) % (6 : Int32)) + (1 : Int32))), .val (.ref b1)] [(.int (own_tr (((p1 &&& (2147483647 : Int32)) % (6 : Int32)) + (1 : Int32))))]))
  refine own_via (S' := T16.setTop (mkF m 50 #[.val (.int p1), .val (.int (((p1 &&& (2147483647 : Int32)) % (6 : Int32)) + (1 : Int32))), .val (.ref b1)] [(.int (((p1 &&& (2147483647 : Int32)) % (6 : Int32)) + (1 : Int32))), (.ref b1), (.int (own_tr (((p1 &&& (2147483647 : Int32)) % (6 : Int32)) + (1 : Int32))))])) (fun t k => ?_) ?_
  · show Steps p.tables e below (T16.setTop (mkF m 48 #[.val (.int p1), .val (.int (((p1 &&& (2147483647 : Int32)) % (6 : Int32)) + (1 : Int32))), .val (.ref b1)] [(.int (own_tr (((p1 &&& (2147483647 : Int32)) % (6 : Int32)) + (1 : Int32))))])) t
    refine XS.aloadN X16.here hx rfl (hb hby at_48) rfl rfl ?_
    show Steps p.tables e below (T16.setTop (mkF m 49 #[.val (.int p1), .val (.int (((p1 &&& (2147483647 : Int32)) % (6 : Int32)) + (1 : Int32))), .val (.ref b1)] [(.ref b1), (.int (own_tr (((p1 &&& (2147483647 : Int32)) % (6 : Int32)) + (1 : Int32))))])) t
    refine XS.iloadN X16.here hx rfl (hb hby at_49) rfl ?_
    exact k
  obtain ⟨cl17, Ar17, q17, S17, Nn17, H17, G17⟩ := id V14
  have hin17 : ¬ ((((p1 &&& (2147483647 : Int32)) % (6 : Int32)) + (1 : Int32)) < 0 ∨ cl17.slots.size ≤ ((((p1 &&& (2147483647 : Int32)) % (6 : Int32)) + (1 : Int32))).toNatClampNeg) := inb_of S17 (own_ix (own_rng p1))
  have hat17 : cl17.slots[((((p1 &&& (2147483647 : Int32)) % (6 : Int32)) + (1 : Int32))).toNatClampNeg]? = some (.int (own_tr (((p1 &&& (2147483647 : Int32)) % (6 : Int32)) + (1 : Int32)))) := Has.at H17 hin17 (own_el (own_rng p1))
  refine own_via (S' := T16.setTop (mkF m 51 #[.val (.int p1), .val (.int (((p1 &&& (2147483647 : Int32)) % (6 : Int32)) + (1 : Int32))), .val (.ref b1)] [(.int (own_tr (((p1 &&& (2147483647 : Int32)) % (6 : Int32)) + (1 : Int32)))), (.int (own_tr (((p1 &&& (2147483647 : Int32)) % (6 : Int32)) + (1 : Int32))))])) (fun t kk => X16.iaload hx (j := (((p1 &&& (2147483647 : Int32)) % (6 : Int32)) + (1 : Int32))) (v := (.int (own_tr (((p1 &&& (2147483647 : Int32)) % (6 : Int32)) + (1 : Int32))))) (by rw [hh16]; exact Ar17.1) (State.isArrayOf_alike hZ.alike Ar17.2.1) Ar17.2.2 hin17 hat17 (g := (mkF m 50 #[.val (.int p1), .val (.int (((p1 &&& (2147483647 : Int32)) % (6 : Int32)) + (1 : Int32))), .val (.ref b1)] [(.int (((p1 &&& (2147483647 : Int32)) % (6 : Int32)) + (1 : Int32))), (.ref b1), (.int (own_tr (((p1 &&& (2147483647 : Int32)) % (6 : Int32)) + (1 : Int32))))])) rfl rfl (hb hby at_50) _ kk) ?_
  refine own_via (S' := T16.setTop (mkF m 54 #[.val (.int p1), .val (.int (((p1 &&& (2147483647 : Int32)) % (6 : Int32)) + (1 : Int32))), .val (.ref b1)] [])) (fun t k => XS.icmpNo (g := (mkF m 51 #[.val (.int p1), .val (.int (((p1 &&& (2147483647 : Int32)) % (6 : Int32)) + (1 : Int32))), .val (.ref b1)] [(.int (own_tr (((p1 &&& (2147483647 : Int32)) % (6 : Int32)) + (1 : Int32)))), (.int (own_tr (((p1 &&& (2147483647 : Int32)) % (6 : Int32)) + (1 : Int32))))])) X16.here hx rfl (hb hby at_51) rfl (teq (rfl : (own_tr (((p1 &&& (2147483647 : Int32)) % (6 : Int32)) + (1 : Int32))) = (own_tr (((p1 &&& (2147483647 : Int32)) % (6 : Int32)) + (1 : Int32))))).2 k) ?_
  refine own_via (S' := T16.setTop (mkF m 59 #[.val (.int p1), .val (.int (((p1 &&& (2147483647 : Int32)) % (6 : Int32)) + (1 : Int32))), .val (.ref b1)] [(.int (1 : Int32))])) (fun t k => ?_) ?_
  · show Steps p.tables e below (T16.setTop (mkF m 54 #[.val (.int p1), .val (.int (((p1 &&& (2147483647 : Int32)) % (6 : Int32)) + (1 : Int32))), .val (.ref b1)] [])) t
    refine XS.iconst X16.here hx rfl (hb hby at_54) ?_
    show Steps p.tables e below (T16.setTop (mkF m 55 #[.val (.int p1), .val (.int (((p1 &&& (2147483647 : Int32)) % (6 : Int32)) + (1 : Int32))), .val (.ref b1)] [(.int (1 : Int32))])) t
    refine XS.goto X16.here hx rfl (pc0 := 55) (pc' := 59) rfl (hb hby at_55) (by decide) (by decide) ?_
    exact k
  exact own_end (h := h14) X16 (v := some (.int (1 : Int32))) Bd.notSynchronized (fun h => by rw [Bd.returns] at h; cases h) (fun fs hr => retN X16 hx (t := .boolean) Bd.returns (by simp) (hb hby at_59) hr) hh16 ⟨rfl, N16⟩ (by decide) (by decide)
set_option maxRecDepth 65536 in
set_option maxHeartbeats 40000000 in
theorem comes_1 {Post : Tables → Env → Array Value → State → Outcome → State → Prop} (hpost : ∀ tb e args s v u, (limb_1_1.after args s (.returned v) u = true ∧ limb_1_2.after args s (.returned v) u = true ∧ True) → FrameEnd s (.returned v) u (Jvm.fieldLocs frame_1_writes args s ++ Jvm.arrayLocs frame_1_arrays args s ++ Jvm.staticLocs frame_1_statics s) 16 128 → Post tb e args s (.returned v) u) :
    ArmFor flags0 classFile x code maxLocals ret World_1 tables_1 room_1 Calls_1 rest_1 Pre_1 Post := by
  intro l hfl _ _ p e ha hc hk s m args below hf hA hF happ hP
  obtain ⟨hcalls, hrest, hpre⟩ := hP
  obtain ⟨-, -, -, hnamed, -, -, -, hat⟩ := (Spec.applies_iff hf).mp happ
  obtain ⟨hg, hn⟩ := and_e (Cond.before_iff.mp (show (Jvm.Cond.and given_1 narrow_1).before args s = true from hpre))
  obtain ⟨hcount, hg0⟩ := and_e hg
  have ga0 := hg0
  obtain ⟨w0, rfl⟩ : ∃ w0 : Value, args = #[w0] := by
    have hs : args.size = 1 := by simpa [Cond.value, given_1] using hcount
    obtain ⟨L⟩ := args
    match L, hs with
    | [w0], _ => exact ⟨w0, rfl⟩
  have hw := fun d (hd : d ∈ tables_1) => atoms_spec (ws := Jvm.Cond.code x code maxLocals ret :: tables_1) hat d (List.mem_cons_of_mem _ hd)
  obtain ⟨i0, ei0⟩ := is_v ga0
  obtain rfl : w0 = (.int i0) := Option.some.inj ei0
  obtain ⟨n, o, h1, h2, h3, _, L, rfl, ⟨rfl, N⟩, hq⟩ := rm0 l s _ hw tables_1 i0  s.heap s.heap.size (Nat.le_refl _)  p e ha hc hk s m _ below hf ((Spec.applies_iff_loose hf).mp happ).1 ⟨rfl, State.Warmed39.refl s, rfl⟩ trivial
  refine ⟨n, _, h1, h2, h3, hpost _ _ _ _ _ _ ⟨Cond.after_iff.mpr rfl, Cond.after_iff.mpr (eq_i res_at (Term.int_eval (1)) rfl), trivial⟩ ⟨hq.1, hq.2.1, (hq.2.2.sift fun y hy => Or.inr (N y hy)).mono (by decide) (by decide)⟩⟩
theorem main_1_1 : Claimed_1_1 := comes_1 fun _ _ _ _ _ _ h hF => ⟨h.1, hF⟩
theorem main_1_2 : Claimed_1_2 := comes_1 fun _ _ _ _ _ _ h hF => ⟨h.2.1, hF⟩
end Jvm.Pilot.@@N@@
namespace Jvm.Pilot.@@N@@
open Jvm Jvm.ClassFile Sem Op Lib Jvm.Free Jvm.Stand Jvm.Pilot.@@N@@.Jvm.D
/-! MADE BY PROGRAM (witnessworld.py) out of the Statement's table words and the real class files: 9 classes; the members and pool entries that the words name. The judged class is class 1, her method 1. -/
namespace start1
open Jvm.ClassFile
def u (s : String) : CpInfo := .utf8 (stringToUtf16 s)
/-- a pool by its gaps: so many unusable entries, then the entry; so many at the end -/
def gap : Nat → List CpInfo → List CpInfo
  | 0, r => r
  | n + 1, r => .unusable :: gap n r
def poolList (es : List (Nat × CpInfo)) (last : Nat) : List CpInfo := es.foldr (fun e r => gap e.1 (e.2 :: r)) (gap last [])
def pool (es : List (Nat × CpInfo)) (last : Nat) : Array CpInfo := ⟨poolList es last⟩
def fileOf (pool : Array CpInfo) (this : Nat) (attrs : Array Attribute := #[]) (ms : Array MethodInfo := #[]) (fl : Nat := 33) (sup : Nat := 0) (ifs : Array Nat := #[]) (fds : Array FieldInfo := #[]) : ClassFile where
  minorVersion := 0
  majorVersion := 65
  constantPool := pool
  accessFlags := fl
  thisClass := this
  superClass := sup
  interfaces := ifs
  fields := fds
  methods := ms
  attributes := attrs
def plain (name : String) (sup : Option ClassId) : Class where
  name := name
  kind := .ordinary
  loader := none
  accessFlags := 33
  super := sup
  interfaces := #[]
  cf := none
  fields := #[]
  methods := #[]
  instanceTypes := #[]
  staticTypes := #[]
  resolved := #[]
  callSites := []
  init := .initialized
  statics := none
  mirror := none

def pool0 : Array CpInfo := pool [(5, u "<init>"), (0, u "()V"), (1, .class_ 10), (1, u "java/lang/Object")] 113

def k0m0 : Method := { name := "<init>", desc := "()V", sig := { parameters := [], returnType := none }, accessFlags := 1, code := none }
/-- java/lang/Object -/
def k0 : Class := { plain "java/lang/Object" none with
  accessFlags := 33
  interfaces := #[]
  cf := some (fileOf pool0 8 #[] #[{ accessFlags := 1, nameIndex := 5, descriptorIndex := 6, attributes := #[] }] 33 0 #[] #[])
  fields := #[]
  methods := #[k0m0]
  instanceTypes := #[]
  staticTypes := #[]
  resolved := Array.replicate 124 none
  statics := none }

def pool1 : Array CpInfo := pool [(2, .class_ 4), (1, u "java/lang/Object"), (0, u "<init>"), (0, u "()V"), (0, .integer 2147483647), (0, .methodref 9 10), (0, .class_ 11), (0, .nameAndType 12 13), (0, u "com/example/ringkeep/ringkeep/Game"), (0, u "tradesPerTurn"), (0, u "(I)I"), (0, .class_ 15), (0, u "com/example/ringkeep/ringkeep/GameTradesPerTurnPinLaw"), (2, u "law"), (0, u "(I)Z")] 5

def k1m0 : Method := { name := "<init>", desc := "()V", sig := { parameters := [], returnType := none }, accessFlags := 1, code := none }
def k1c1 : Code := { maxStack := 4, maxLocals := 3, code := code, exceptionTable := #[], attributes := #[] }
def k1m1 : Method := { name := "law", desc := "(I)Z", sig := { parameters := [.int], returnType := some .boolean }, accessFlags := 9, code := some k1c1 }
/-- com/example/ringkeep/ringkeep/GameTradesPerTurnPinLaw -/
def k1 : Class := { plain "com/example/ringkeep/ringkeep/GameTradesPerTurnPinLaw" (some 0) with
  accessFlags := 49
  interfaces := #[]
  cf := some (fileOf pool1 14 #[] #[{ accessFlags := 1, nameIndex := 5, descriptorIndex := 6, attributes := #[] }, { accessFlags := 9, nameIndex := 18, descriptorIndex := 19, attributes := #[] }] 49 2 #[] #[])
  fields := #[]
  methods := #[k1m0, k1m1]
  instanceTypes := #[]
  staticTypes := #[]
  resolved := Array.replicate 25 none
  statics := none }

def pool2 : Array CpInfo := pool [(2, .class_ 4), (1, u "java/lang/Object"), (3, .class_ 10), (1, u "com/example/ringkeep/ringkeep/Game"), (0, u "turn"), (0, u "I"), (2, u "current"), (5, u "Lcom/example/ringkeep/ringkeep/Phase;"), (2, u "phase"), (5, u "questions"), (0, u "Ljava/util/List;"), (2, u "hands"), (2, u "deck"), (2, u "discard"), (2, u "bag"), (2, u "monsterDiscard"), (2, u "trophies"), (2, u "dice"), (2, u "players"), (2, u "mode"), (0, u "Lcom/example/ringkeep/ringkeep/Mode;"), (2, u "seed"), (0, u "Ljava/lang/Long;"), (2, u "rng"), (0, u "Lcom/example/ringkeep/ringkeep/Rng;"), (2, u "board"), (0, u "Lcom/example/ringkeep/ringkeep/Board;"), (38, u "OPENING_BAG"), (10, u "BOX_CARDS"), (3, u "(I)I"), (29, u "STARTER_IDS"), (5, u "pending"), (0, u "Lcom/example/ringkeep/ringkeep/Decision;"), (31, u "verdict"), (3, u "Lcom/example/ringkeep/ringkeep/Verdict;"), (22, u "tradesMade"), (7, u "missing"), (0, u "Z"), (4, u "drawsLeft"), (7, u "held"), (19, u "STARTING_MONSTERS"), (103, u "tradesPerTurn"), (27, .class_ 397), (1, u "com/example/ringkeep/ringkeep/Game$CardRule"), (72, .class_ 472), (1, u "com/example/ringkeep/ringkeep/Game$1"), (11, u "ANY_TARGET"), (0, u "Ljava/util/function/Function;"), (537, u "MIN_PLAYERS"), (2, u "MAX_PLAYERS"), (1, u "MAX_FORTIFIED"), (1, u "SOLO_DISCARDS"), (0, u "DRAW_2_CARDS"), (0, u "TOKENS_DRAWN"), (0, u "GOBLIN_KING_DRAWS")] 393

def k2c0 : Code := { maxStack := 2, maxLocals := 2, code := prog_8_method_9_code, exceptionTable := #[], attributes := #[] }
def k2m0 : Method := { name := "tradesPerTurn", desc := "(I)I", sig := { parameters := [.int], returnType := some .int }, accessFlags := 8, code := some k2c0 }
/-- com/example/ringkeep/ringkeep/Game -/
def k2 : Class := { plain "com/example/ringkeep/ringkeep/Game" (some 0) with
  accessFlags := 48
  interfaces := #[]
  cf := some (fileOf pool2 8 #[.nestMembers #[470, 395]] #[{ accessFlags := 8, nameIndex := 367, descriptorIndex := 125, attributes := #[] }] 48 2 #[] #[{ accessFlags := 24, nameIndex := 1023, descriptorIndex := 12, attributes := #[] }, { accessFlags := 24, nameIndex := 1026, descriptorIndex := 12, attributes := #[] }, { accessFlags := 24, nameIndex := 1028, descriptorIndex := 12, attributes := #[] }, { accessFlags := 26, nameIndex := 1030, descriptorIndex := 12, attributes := #[] }, { accessFlags := 26, nameIndex := 1031, descriptorIndex := 12, attributes := #[] }, { accessFlags := 26, nameIndex := 1032, descriptorIndex := 12, attributes := #[] }, { accessFlags := 26, nameIndex := 1033, descriptorIndex := 12, attributes := #[] }, { accessFlags := 26, nameIndex := 484, descriptorIndex := 485, attributes := #[] }, { accessFlags := 26, nameIndex := 263, descriptorIndex := 31, attributes := #[] }, { accessFlags := 26, nameIndex := 155, descriptorIndex := 31, attributes := #[] }, { accessFlags := 26, nameIndex := 110, descriptorIndex := 31, attributes := #[] }, { accessFlags := 26, nameIndex := 121, descriptorIndex := 31, attributes := #[] }, { accessFlags := 18, nameIndex := 55, descriptorIndex := 12, attributes := #[] }, { accessFlags := 18, nameIndex := 58, descriptorIndex := 59, attributes := #[] }, { accessFlags := 18, nameIndex := 62, descriptorIndex := 63, attributes := #[] }, { accessFlags := 18, nameIndex := 66, descriptorIndex := 67, attributes := #[] }, { accessFlags := 2, nameIndex := 11, descriptorIndex := 12, attributes := #[] }, { accessFlags := 2, nameIndex := 15, descriptorIndex := 12, attributes := #[] }, { accessFlags := 2, nameIndex := 24, descriptorIndex := 21, attributes := #[] }, { accessFlags := 2, nameIndex := 161, descriptorIndex := 162, attributes := #[] }, { accessFlags := 2, nameIndex := 194, descriptorIndex := 198, attributes := #[] }, { accessFlags := 2, nameIndex := 221, descriptorIndex := 12, attributes := #[] }, { accessFlags := 2, nameIndex := 229, descriptorIndex := 230, attributes := #[] }, { accessFlags := 2, nameIndex := 235, descriptorIndex := 12, attributes := #[] }, { accessFlags := 2, nameIndex := 243, descriptorIndex := 12, attributes := #[] }, { accessFlags := 18, nameIndex := 30, descriptorIndex := 31, attributes := #[] }, { accessFlags := 18, nameIndex := 70, descriptorIndex := 71, attributes := #[] }, { accessFlags := 18, nameIndex := 34, descriptorIndex := 31, attributes := #[] }, { accessFlags := 18, nameIndex := 37, descriptorIndex := 31, attributes := #[] }, { accessFlags := 18, nameIndex := 40, descriptorIndex := 31, attributes := #[] }, { accessFlags := 18, nameIndex := 43, descriptorIndex := 31, attributes := #[] }, { accessFlags := 18, nameIndex := 46, descriptorIndex := 31, attributes := #[] }, { accessFlags := 18, nameIndex := 49, descriptorIndex := 31, attributes := #[] }, { accessFlags := 18, nameIndex := 52, descriptorIndex := 31, attributes := #[] }])
  fields := #[{ name := "MIN_PLAYERS", type := .int, accessFlags := 24, slot := 0, constantValue := 0 }, { name := "MAX_PLAYERS", type := .int, accessFlags := 24, slot := 1, constantValue := 0 }, { name := "MAX_FORTIFIED", type := .int, accessFlags := 24, slot := 2, constantValue := 0 }, { name := "SOLO_DISCARDS", type := .int, accessFlags := 26, slot := 3, constantValue := 0 }, { name := "DRAW_2_CARDS", type := .int, accessFlags := 26, slot := 4, constantValue := 0 }, { name := "TOKENS_DRAWN", type := .int, accessFlags := 26, slot := 5, constantValue := 0 }, { name := "GOBLIN_KING_DRAWS", type := .int, accessFlags := 26, slot := 6, constantValue := 0 }, { name := "ANY_TARGET", type := (.object "java/util/function/Function"), accessFlags := 26, slot := 7, constantValue := 0 }, { name := "STARTING_MONSTERS", type := (.object "java/util/List"), accessFlags := 26, slot := 8, constantValue := 0 }, { name := "STARTER_IDS", type := (.object "java/util/List"), accessFlags := 26, slot := 9, constantValue := 0 }, { name := "OPENING_BAG", type := (.object "java/util/List"), accessFlags := 26, slot := 10, constantValue := 0 }, { name := "BOX_CARDS", type := (.object "java/util/List"), accessFlags := 26, slot := 11, constantValue := 0 }, { name := "players", type := .int, accessFlags := 18, slot := 0, constantValue := 0 }, { name := "mode", type := (.object "com/example/ringkeep/ringkeep/Mode"), accessFlags := 18, slot := 1, constantValue := 0 }, { name := "seed", type := (.object "java/lang/Long"), accessFlags := 18, slot := 2, constantValue := 0 }, { name := "rng", type := (.object "com/example/ringkeep/ringkeep/Rng"), accessFlags := 18, slot := 3, constantValue := 0 }, { name := "turn", type := .int, accessFlags := 2, slot := 4, constantValue := 0 }, { name := "current", type := .int, accessFlags := 2, slot := 5, constantValue := 0 }, { name := "phase", type := (.object "com/example/ringkeep/ringkeep/Phase"), accessFlags := 2, slot := 6, constantValue := 0 }, { name := "pending", type := (.object "com/example/ringkeep/ringkeep/Decision"), accessFlags := 2, slot := 7, constantValue := 0 }, { name := "verdict", type := (.object "com/example/ringkeep/ringkeep/Verdict"), accessFlags := 2, slot := 8, constantValue := 0 }, { name := "tradesMade", type := .int, accessFlags := 2, slot := 9, constantValue := 0 }, { name := "missing", type := .boolean, accessFlags := 2, slot := 10, constantValue := 0 }, { name := "drawsLeft", type := .int, accessFlags := 2, slot := 11, constantValue := 0 }, { name := "held", type := .int, accessFlags := 2, slot := 12, constantValue := 0 }, { name := "questions", type := (.object "java/util/List"), accessFlags := 18, slot := 13, constantValue := 0 }, { name := "board", type := (.object "com/example/ringkeep/ringkeep/Board"), accessFlags := 18, slot := 14, constantValue := 0 }, { name := "hands", type := (.object "java/util/List"), accessFlags := 18, slot := 15, constantValue := 0 }, { name := "deck", type := (.object "java/util/List"), accessFlags := 18, slot := 16, constantValue := 0 }, { name := "discard", type := (.object "java/util/List"), accessFlags := 18, slot := 17, constantValue := 0 }, { name := "bag", type := (.object "java/util/List"), accessFlags := 18, slot := 18, constantValue := 0 }, { name := "monsterDiscard", type := (.object "java/util/List"), accessFlags := 18, slot := 19, constantValue := 0 }, { name := "trophies", type := (.object "java/util/List"), accessFlags := 18, slot := 20, constantValue := 0 }, { name := "dice", type := (.object "java/util/List"), accessFlags := 18, slot := 21, constantValue := 0 }]
  methods := #[k2m0]
  instanceTypes := #[.int, (.object "com/example/ringkeep/ringkeep/Mode"), (.object "java/lang/Long"), (.object "com/example/ringkeep/ringkeep/Rng"), .int, .int, (.object "com/example/ringkeep/ringkeep/Phase"), (.object "com/example/ringkeep/ringkeep/Decision"), (.object "com/example/ringkeep/ringkeep/Verdict"), .int, .boolean, .int, .int, (.object "java/util/List"), (.object "com/example/ringkeep/ringkeep/Board"), (.object "java/util/List"), (.object "java/util/List"), (.object "java/util/List"), (.object "java/util/List"), (.object "java/util/List"), (.object "java/util/List"), (.object "java/util/List")]
  staticTypes := #[.int, .int, .int, .int, .int, .int, .int, (.object "java/util/function/Function"), (.object "java/util/List"), (.object "java/util/List"), (.object "java/util/List"), (.object "java/util/List")]
  resolved := Array.replicate 1427 none
  statics := none }

def pool3 : Array CpInfo := pool [(1, u "java/lang/Cloneable"), (0, .class_ 1), (0, u "java/lang/Object"), (0, .class_ 3)] 3

/-- java/lang/Cloneable -/
def k3 : Class := { plain "java/lang/Cloneable" (some 0) with
  accessFlags := 1537
  interfaces := #[]
  cf := some (fileOf pool3 2 #[] #[] 1537 4 #[] #[])
  fields := #[]
  methods := #[]
  instanceTypes := #[]
  staticTypes := #[]
  resolved := Array.replicate 8 none
  statics := none }

def pool4 : Array CpInfo := pool [(1, u "java/io/Serializable"), (0, .class_ 1), (0, u "java/lang/Object"), (0, .class_ 3)] 3

/-- java/io/Serializable -/
def k4 : Class := { plain "java/io/Serializable" (some 0) with
  accessFlags := 1537
  interfaces := #[]
  cf := some (fileOf pool4 2 #[] #[] 1537 4 #[] #[])
  fields := #[]
  methods := #[]
  instanceTypes := #[]
  staticTypes := #[]
  resolved := Array.replicate 8 none
  statics := none }

/-- the primitive byte -/
def k5 : Class := { plain "byte" none with kind := .primitive 'B', accessFlags := 0x411 }
/-- [B -/
def k6 : Class := { plain "[B" (some 0) with kind := .array 5 .byte, interfaces := #[3, 4], accessFlags := 1041 }

/-- the primitive int -/
def k7 : Class := { plain "int" none with kind := .primitive 'I', accessFlags := 0x411 }
/-- [I -/
def k8 : Class := { plain "[I" (some 0) with kind := .array 7 .int, interfaces := #[3, 4], accessFlags := 1041 }

def heap : Heap := #[]
def classes : Array Class := #[k0, k1, k2, k3, k4, k5, k6, k7, k8]
def interned : List (Array UInt16 × Addr) := []
def slotsUsed : Nat := 0
def theMethod : MethodId := ⟨1, 1⟩
def args0 : Array Value := #[.int 5]
def aboutOver (below : List Frame) : State where
  vm := { classes := classes, interned := interned.toArray }
  heap := heap
  slotsUsed := slotsUsed
  threads := #[{ frames := .invoking theMethod args0 :: below }]
def below0 : List Frame := [.native { method := ⟨0, 0⟩, args := #[] }]
def about1 : State := aboutOver below0
def p0 : Program := .bare "" "" ""
def e0 : Env := launch0.env 0 0 0
theorem w_frames : about1.frames = Frame.invoking theMethod args0 :: below0 := rfl
set_option maxRecDepth 65536 in
theorem w_args : argsFit about1.vm theMethod args0 = true := by decide +kernel
set_option maxRecDepth 65536 in
theorem w_heap : heapFits about1 = true := by decide +kernel
set_option maxRecDepth 65536 in
theorem w_runnable : about1.curStatus? = some .runnable := by decide +kernel
set_option maxRecDepth 65536 in
theorem w_alone : about1.alone = true := by decide +kernel
set_option maxRecDepth 65536 in
theorem w_named : about1.methodNamed? x = some theMethod := by decide +kernel
set_option maxRecDepth 65536 in
theorem w_hears : about1.hears theMethod below0 = true := by decide +kernel
set_option maxRecDepth 65536 in
theorem w_ripe : about1.ripe theMethod args0 below0 = true := by decide +kernel
theorem w_running : about1.status = .running := rfl
set_option maxRecDepth 65536 in
theorem w_room : about1.hasRoom e0.platform room_1 = true :=
  launch0.hasRoom_least _ room_1 (by decide +kernel) (by decide +kernel) (by decide +kernel) (by decide +kernel) (by decide +kernel) (by decide +kernel)
theorem allAtoms_all (ts : List Jvm.Cond) (a : Array Jvm.Value) (st : Jvm.State) : (allAtoms ts).before a st = ts.all (fun c => c.before a st) := by
  induction ts with
  | nil => rfl
  | cons c t ih =>
    show (Jvm.Cond.and c (allAtoms t)).before a st = _
    rw [Jvm.Cond.before_and, ih, List.all_cons]
def words1 : List Jvm.Cond := Jvm.Cond.code x code maxLocals ret :: tables_1
/-- a 'code' word, met by the world's own term for the bytes: nothing is compared byte by byte -/
theorem code_word {y : MethodName} {bytes : ByteArray} {mx : Nat} {rt : Option FieldType} {a : Array Value} {s : State} {m : MethodId} {meth : Method} {c : Code} (h1 : s.methodNamed? y = some m) (h2 : s.vm.method? m = some meth) (h3 : meth.code = some c) (h4 : c.code = bytes)
    (h5 : (c.maxLocals == mx && c.exceptionTable.isEmpty && decide (c.maxStack ≤ mostOperands) && decide (meth.sig.returnType = rt) && !meth.locks && decide (parseMethodDescriptor y.desc = some meth.sig)) = true) : (Jvm.Cond.code y bytes mx rt).before a s = true := by
  simp only [Bool.and_eq_true, beq_iff_eq, Bool.not_eq_true', decide_eq_true_eq] at h5
  obtain ⟨⟨⟨⟨⟨g1, g2⟩, g3⟩, g4⟩, g5⟩, g6⟩ := h5
  simp [Cond.before, Cond.holds, Cond.value, h1, h2, h3, h4, g1, g2, g3, g4, g5, g6]
def isCode : Jvm.Cond → Bool
  | .code _ _ _ _ => true
  | _ => false
theorem all_split {L : List Jvm.Cond} {P : Jvm.Cond → Bool} (h1 : L.all (fun c => isCode c || P c) = true) (h2 : ∀ c ∈ L.filter isCode, P c = true) : L.all P = true := by
  refine List.all_eq_true.mpr fun c hc => ?_
  have h := List.all_eq_true.mp h1 c hc
  rcases Bool.eq_false_or_eq_true (isCode c) with hi | hi
  · exact h2 c (List.mem_filter.mpr ⟨hc, hi⟩)
  · simpa [hi] using h
set_option maxRecDepth 65536 in
theorem w_c0 : (Jvm.Cond.code x code maxLocals ret).before args0 about1 = true := code_word (m := ⟨1, 1⟩) (meth := k1m1) (c := k1c1) (by decide +kernel) rfl rfl rfl (by decide +kernel)
set_option maxRecDepth 65536 in
theorem w_c1 : (Jvm.Cond.code ({ cls := "com/example/ringkeep/ringkeep/Game", name := "tradesPerTurn", desc := "(I)I" } : Jvm.MethodName) prog_8_method_9_code (2 : Nat) (Option.some Jvm.ClassFile.FieldType.int)).before args0 about1 = true := code_word (m := ⟨2, 0⟩) (meth := k2m0) (c := k2c0) (by decide +kernel) rfl rfl rfl (by decide +kernel)
def codes1 : List Jvm.Cond := [Jvm.Cond.code x code maxLocals ret, Jvm.Cond.code ({ cls := "com/example/ringkeep/ringkeep/Game", name := "tradesPerTurn", desc := "(I)I" } : Jvm.MethodName) prog_8_method_9_code (2 : Nat) (Option.some Jvm.ClassFile.FieldType.int)]
set_option maxRecDepth 65536 in
theorem codes_eq : words1.filter isCode = codes1 := rfl
theorem w_codes : ∀ c ∈ words1.filter isCode, c.before args0 about1 = true := by
  rw [codes_eq]
  intro c hc
  simp only [codes1, List.mem_cons, List.not_mem_nil, or_false] at hc
  rcases hc with rfl | rfl
  · exact w_c0
  · exact w_c1
set_option maxRecDepth 65536 in
theorem w_t1 : words1.all (fun c => isCode c || c.before args0 about1) = true := by decide +kernel
theorem w_tables : (allAtoms (Jvm.Cond.code x code maxLocals ret :: tables_1)).before args0 about1 = true := by
  rw [allAtoms_all]
  show words1.all (fun c => c.before args0 about1) = true
  refine all_split ?_ w_codes
  rw [w_t1]
set_option maxRecDepth 65536 in
theorem w_case : (Jvm.Cond.and given_1 narrow_1).before args0 about1 = true := by decide +kernel
theorem w_applies : (headSpec (Jvm.Cond.code x code maxLocals ret :: tables_1) room_1).applies x e0.platform about1 = true :=
  (Spec.applies_iff w_frames).mpr ⟨w_running, w_runnable, w_alone, w_named, w_hears, w_ripe, w_room, w_tables⟩
theorem atStart : AtStart classFile x code maxLocals ret World_1 tables_1 room_1 Calls_1 rest_1 Pre_1 launch0 p0 e0 about1 theMethod args0 below0 :=
  ⟨lists_1, trivial, launch0.admits_env _ _ _, launch0.least_env, fairChoices_fair.cas, fairChoices_fair.clock, w_frames, w_args, w_heap, w_applies, trivial, trivial, w_case⟩
end start1
theorem witness_1 : WitnessClaimed_1 := ⟨start1.p0, start1.e0, start1.about1, start1.theMethod, start1.args0, start1.below0, start1.atStart⟩
end Jvm.Pilot.@@N@@
