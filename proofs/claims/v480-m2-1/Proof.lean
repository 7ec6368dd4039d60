import JvmDerived
import JvmDerived.Pilot.@@N@@Statement
import JvmDerived.Pilot.@@N@@Code
set_option linter.unusedVariables false
set_option linter.unusedSimpArgs false
namespace Jvm.Pilot.@@N@@
open Jvm Jvm.ClassFile Sem Op Lib Jvm.Free Jvm.Stand Jvm.LawKit Jvm.RoadKit Bundle Jvm.Pilot.@@N@@.Jvm.D
/-- from S the body ends as Q says -/
def own_G (tb : Tables) (e : Env) (below : List Frame) (Q : State → Outcome → Prop) (S : State) : Prop := ∃ s₂ o, Steps tb e below S s₂ ∧ s₂.status = .running ∧ Ended s₂ below o ∧ Q s₂ o
theorem own_via {tb : Tables} {e : Env} {below : List Frame} {Q : State → Outcome → Prop} {S S' : State} (h : ∀ t, Steps tb e below S' t → Steps tb e below S t) (g : own_G tb e below Q S') : own_G tb e below Q S := by
  obtain ⟨t, o, k, r⟩ := g
  exact ⟨t, o, h t k, r⟩
def own_P (U : State) (Q : Option Value → Heap → List Loc → Prop) (cells slots : Nat) : State → Outcome → Prop := fun U' o => ∃ v L, o = .returned v ∧ Q v U'.heap L ∧ FrameEnd U o U' L cells slots
theorem own_end {p : Program} {l : Launch} {e : Env} {R : Room} {s : State} {m : MethodId} {args : Array Value} {below : List Frame} {meth : Method} {c : Code} {T : State} {locs : List Loc} {cells slots C S : Nat} {Q : Option Value → Heap → List Loc → Prop} {h : Heap} {G : State}
    (X : Stand p l e R s m args below meth c T locs cells slots) {v : Option Value} (hlk : meth.locks = false) (hv : meth.sig.returnType = none → v = none)
    (st : ∀ fs, (∀ (f : JFrame) (acts : List Action), f.method = m → f.locked = none → f.entered = [] → (doReturn e (T.setTop f) acts v).1 = T.setFrames fs) → Steps p.tables e below G (T.setFrames fs))
    (eT : T.heap = h) (hq : Q v h locs) (h1 : cells ≤ C) (h2 : slots ≤ S) : own_G p.tables e below (own_P s Q C S) G := by
  obtain ⟨fs, hr, hrun, hended, hW, hsame⟩ := X.leave (v := v) hv hlk
  exact ⟨_, _, st fs hr, hrun, hended, _, _, rfl, eT ▸ hq, ⟨_, rfl⟩, hW, hsame.mono h1 h2⟩
def own_M (Z : State) (C : String) (mr : Addr) : Prop := ∃ (c : ClassId) (k : Class), Z.vm.findClass C = some c ∧ Z.vm.classes[c]? = some k ∧ k.mirror = some mr
theorem own_mir {Z s : State} (hZ : Z.Warmed39 s.vm) {C : String} {mr : Addr} (h : own_M Z C mr) : ∃ cB kB, s.vm.findClass C = some cB ∧ s.vm.classes[cB]? = some kB ∧ kB.mirror = some mr := by
  obtain ⟨c, k, m1, m2, m3⟩ := h
  obtain ⟨k', q, ek⟩ := hZ.alike.2.2 _ _ m2
  exact ⟨c, k', by rw [hZ.alike.findClass]; exact m1, q, by rw [ek]; exact m3⟩
def own_om (a e m : Addr) : Int32 := if a = e ∨ a = m then 1 else 0
def own_big (o : Int32) : Int32 := if 2 ≤ o then 1 else 0
theorem own_mono {x y o1 o2 : Int32} (h1 : x = own_big o1) (h2 : y = own_big o2) (r1 : 0 ≤ o1 ∧ o1 ≤ 3) (r2 : 0 ≤ o2 ∧ o2 ≤ 3) (hle : ¬ 0 < o1 - o2) (hx : ¬ x = 0) : ¬ y = 0 := by
  unfold own_big at *; grind
theorem d1_0 : decode method_2_code 0 = .ok (.iload_n 0, 1) := by decide +kernel
theorem d1_1 : decode method_2_code 1 = .ok (.iconst 3, 1) := by decide +kernel
theorem d1_2 : decode method_2_code 2 = .ok (.iand, 1) := by decide +kernel
theorem d1_3 : decode method_2_code 3 = .ok (.istore_n 1, 1) := by decide +kernel
theorem d1_4 : decode method_2_code 4 = .ok (.iload_n 1, 1) := by decide +kernel
theorem d1_5 : decode method_2_code 5 = .ok (.ifCond .ne 7, 3) := by decide +kernel
theorem d1_8 : decode method_2_code 8 = .ok (.getstatic 7, 3) := by decide +kernel
theorem d1_11 : decode method_2_code 11 = .ok (.areturn, 1) := by decide +kernel
theorem d1_12 : decode method_2_code 12 = .ok (.iload_n 1, 1) := by decide +kernel
theorem d1_13 : decode method_2_code 13 = .ok (.iconst 1, 1) := by decide +kernel
theorem d1_14 : decode method_2_code 14 = .ok (.if_icmp .ne 7, 3) := by decide +kernel
theorem d1_17 : decode method_2_code 17 = .ok (.getstatic 13, 3) := by decide +kernel
theorem d1_20 : decode method_2_code 20 = .ok (.areturn, 1) := by decide +kernel
theorem d1_21 : decode method_2_code 21 = .ok (.iload_n 1, 1) := by decide +kernel
theorem d1_22 : decode method_2_code 22 = .ok (.iconst 2, 1) := by decide +kernel
theorem d1_23 : decode method_2_code 23 = .ok (.if_icmp .ne 7, 3) := by decide +kernel
theorem d1_26 : decode method_2_code 26 = .ok (.getstatic 16, 3) := by decide +kernel
theorem d1_29 : decode method_2_code 29 = .ok (.areturn, 1) := by decide +kernel
theorem d1_30 : decode method_2_code 30 = .ok (.getstatic 19, 3) := by decide +kernel
theorem d1_33 : decode method_2_code 33 = .ok (.areturn, 1) := by decide +kernel
theorem pn1 : plainName "com/example/midstream/midstream/core/FanoutOneToManyPinLaw" = true := by first | (simp [plainName, overriddenIn]; done) | decide +kernel
theorem ef1 (m : MethodId) (x0 : Int32) : entryFrame m #[(.int x0)] 2 = mkF m 0 #[.val (.int x0), .unset] [] := by first | (simp [entryFrame, mkF, argsToLocals, Value.category]; done) | rfl
def Q1 (Z : State) (p1 : Int32) (aS : Addr) (aO : Addr) (aE : Addr) (aM : Addr) (h0 : Heap) (n0 : Nat) (v : Option Value) (h : Heap) (L : List Loc) : Prop := ∃ (r : Addr) (o : Int32), v = some (.ref r) ∧ Fr n0 L ∧ h = h0 ∧ Exa Z h0 r "com/example/midstream/midstream/core/Fanout" ∧ Fld Z h0 r "java/lang/Enum" "ordinal" "I" (.int o) ∧ own_om r aE aM = own_big o ∧ 0 ≤ o ∧ o ≤ 3
set_option maxRecDepth 65536 in
set_option maxHeartbeats 40000000 in
theorem rm1 (l : Launch) (Z : State) (a0 : Array Value) (hw : ∀ d ∈ tables_1, d.before a0 Z = true) (ws : List Jvm.Cond) (p1 : Int32) (aS : Addr) (aO : Addr) (aE : Addr) (aM : Addr) (h0 : Heap) (n0 : Nat) (Z0 : n0 ≤ h0.size) (S_aS : Sta Z h0 "com/example/midstream/midstream/core/Fanout" "ONE_PER_SOURCE_ROW" "Lcom/example/midstream/midstream/core/Fanout;" (.ref aS)) (S_aO : Sta Z h0 "com/example/midstream/midstream/core/Fanout" "ONE" "Lcom/example/midstream/midstream/core/Fanout;" (.ref aO)) (S_aE : Sta Z h0 "com/example/midstream/midstream/core/Fanout" "ONE_PER_EDGE" "Lcom/example/midstream/midstream/core/Fanout;" (.ref aE)) (S_aM : Sta Z h0 "com/example/midstream/midstream/core/Fanout" "MANY" "Lcom/example/midstream/midstream/core/Fanout;" (.ref aM)) (E_aS : Exa Z h0 aS "com/example/midstream/midstream/core/Fanout") (F_aS : Fld Z h0 aS "java/lang/Enum" "ordinal" "I" (.int (0 : Int32))) (E_aO : Exa Z h0 aO "com/example/midstream/midstream/core/Fanout") (F_aO : Fld Z h0 aO "java/lang/Enum" "ordinal" "I" (.int (1 : Int32))) (E_aE : Exa Z h0 aE "com/example/midstream/midstream/core/Fanout") (F_aE : Fld Z h0 aE "java/lang/Enum" "ordinal" "I" (.int (2 : Int32))) (E_aM : Exa Z h0 aM "com/example/midstream/midstream/core/Fanout") (F_aM : Fld Z h0 aM "java/lang/Enum" "ordinal" "I" (.int (3 : Int32))) (ne_aS_aE : aS ≠ aE) (ne_aS_aM : aS ≠ aM) (ne_aO_aE : aO ≠ aE) (ne_aO_aM : aO ≠ aM) :
    MetFree l (⟨"com/example/midstream/midstream/core/FanoutOneToManyPinLaw", "pick", "(I)Lcom/example/midstream/midstream/core/Fanout;"⟩ : MethodName) (head1 (Jvm.Cond.code (⟨"com/example/midstream/midstream/core/FanoutOneToManyPinLaw", "pick", "(I)Lcom/example/midstream/midstream/core/Fanout;"⟩ : MethodName) method_2_code 2 (some (.object "com/example/midstream/midstream/core/Fanout")) :: ws) ({ frames := 0, cells := 0, slots := 0, locals := 0 } : Room)) (fun a U => a = #[(.int p1)] ∧ Z.Warmed39 U.vm ∧ U.heap = h0) (fun _ _ _ _ _ => True) (fun _ U o U' => ∃ v L, o = .returned v ∧ Q1 Z p1 aS aO aE aM h0 n0 v U'.heap L ∧ FrameEnd U o U' L ({ frames := 0, cells := 0, slots := 0, locals := 0 } : Room).cells ({ frames := 0, cells := 0, slots := 0, locals := 0 } : Room).slots) := by
  refine MetFree.of_bodySF (plainFor_of_name pn1) hisR ?_
  intro p e s m args below meth c s₁ Bd hml0 hP hK
  obtain ⟨rfl, hZ, hh⟩ := hP
  have hx := Bd.exec
  have hby := Bd.bytes
  have hml : c.maxLocals = 2 := hml0
  have hown : s.vm.findClass "com/example/midstream/midstream/core/FanoutOneToManyPinLaw" = some m.cls := findClass_of_methodNamed Bd.named
  have hnm := (name_of_methodNamed Bd.named Bd.method).1
  have X0 : Stand p l e ({ frames := 0, cells := 0, slots := 0, locals := 0 } : Room) s m #[(.int p1)] below meth c s₁ [] 0 0 := Stand.of_body Bd
  have e0 : s₁.heap = h0 := by rw [← hh, Bd.state]; rfl
  have N0 := Fr.nil n0
  refine (show own_G p.tables e below (own_P s (Q1 Z p1 aS aO aE aM h0 n0) 0 0) (s₁.setTop (entryFrame m #[(.int p1)] 2)) from ?_)
  refine own_via (fun t k => castTop (ef1 m p1) k) ?_
  show own_G p.tables e below _ (s₁.setTop (mkF m 0 #[.val (.int p1), .unset] []))
  refine own_via (S' := s₁.setTop (mkF m 5 #[.val (.int p1), .val (.int (p1 &&& (3 : Int32)))] [(.int (p1 &&& (3 : Int32)))])) (fun t k => ?_) ?_
  · show Steps p.tables e below (s₁.setTop (mkF m 0 #[.val (.int p1), .unset] [])) t
    refine XS.iloadN X0.here hx rfl (hb hby d1_0) rfl ?_
    show Steps p.tables e below (s₁.setTop (mkF m 1 #[.val (.int p1), .unset] [(.int p1)])) t
    refine XS.iconst X0.here hx rfl (hb hby d1_1) ?_
    show Steps p.tables e below (s₁.setTop (mkF m 2 #[.val (.int p1), .unset] [(.int (3 : Int32)), (.int p1)])) t
    refine XS.iand X0.here hx rfl (hb hby d1_2) rfl ?_
    show Steps p.tables e below (s₁.setTop (mkF m 3 #[.val (.int p1), .unset] [(.int (p1 &&& (3 : Int32)))])) t
    refine XS.istoreN X0.here hx rfl (hb hby d1_3) rfl (l' := #[.val (.int p1), .val (.int (p1 &&& (3 : Int32)))]) rfl ?_
    show Steps p.tables e below (s₁.setTop (mkF m 4 #[.val (.int p1), .val (.int (p1 &&& (3 : Int32)))] [])) t
    refine XS.iloadN X0.here hx rfl (hb hby d1_4) rfl ?_
    exact k
  by_cases hc5_1 : (p1 &&& (3 : Int32)) = (0 : Int32)
  · refine own_via (S' := s₁.setTop (mkF m 8 #[.val (.int p1), .val (.int (p1 &&& (3 : Int32)))] [])) (fun t k => XS.ifNo (g := (mkF m 5 #[.val (.int p1), .val (.int (p1 &&& (3 : Int32)))] [(.int (p1 &&& (3 : Int32)))])) X0.here hx rfl (hb hby d1_5) rfl ((if0 _ _).trans (teq hc5_1).2) k) ?_
    obtain ⟨T2, X2, e2, st2⟩ := getS2 X0 hx hZ hown (host := "") (Or.inl (hw _ (List.mem_of_getElem? (i := 4) rfl))) Via.refl e0 S_aS (g := (mkF m 8 #[.val (.int p1), .val (.int (p1 &&& (3 : Int32)))] [])) rfl (hb hby d1_8)
    refine own_via st2 ?_
    show own_G p.tables e below _ (T2.setTop (mkF m 11 #[.val (.int p1), .val (.int (p1 &&& (3 : Int32)))] [(.ref aS)]))
    exact own_end (h := h0) X2 (v := some (.ref aS)) Bd.notSynchronized (fun h => by rw [Bd.returns] at h; cases h) (fun fs hr => retOut X2 hx Bd.returns rfl (Or.inr (Or.inr (Or.inr (Or.inr ⟨rfl, rfl, rfl⟩)))) (hb hby d1_11) hr) e2 ⟨aS, (0 : Int32), rfl, N0, rfl, E_aS, F_aS, by unfold own_om own_big; grind, by decide⟩ (by decide) (by decide)
  · refine own_via (S' := s₁.setTop (mkF m 12 #[.val (.int p1), .val (.int (p1 &&& (3 : Int32)))] [])) (fun t k => XS.ifYes (g := (mkF m 5 #[.val (.int p1), .val (.int (p1 &&& (3 : Int32)))] [(.int (p1 &&& (3 : Int32)))])) X0.here hx rfl (pc0 := 5) (pc' := 12) rfl (hb hby d1_5) rfl ((if0 _ _).trans (feq hc5_1).2) (by decide) (by decide) k) ?_
    refine own_via (S' := s₁.setTop (mkF m 14 #[.val (.int p1), .val (.int (p1 &&& (3 : Int32)))] [(.int (1 : Int32)), (.int (p1 &&& (3 : Int32)))])) (fun t k => ?_) ?_
    · show Steps p.tables e below (s₁.setTop (mkF m 12 #[.val (.int p1), .val (.int (p1 &&& (3 : Int32)))] [])) t
      refine XS.iloadN X0.here hx rfl (hb hby d1_12) rfl ?_
      show Steps p.tables e below (s₁.setTop (mkF m 13 #[.val (.int p1), .val (.int (p1 &&& (3 : Int32)))] [(.int (p1 &&& (3 : Int32)))])) t
      refine XS.iconst X0.here hx rfl (hb hby d1_13) ?_
      exact k
    by_cases hc14_3 : (p1 &&& (3 : Int32)) = (1 : Int32)
    · refine own_via (S' := s₁.setTop (mkF m 17 #[.val (.int p1), .val (.int (p1 &&& (3 : Int32)))] [])) (fun t k => XS.icmpNo (g := (mkF m 14 #[.val (.int p1), .val (.int (p1 &&& (3 : Int32)))] [(.int (1 : Int32)), (.int (p1 &&& (3 : Int32)))])) X0.here hx rfl (hb hby d1_14) rfl (teq hc14_3).2 k) ?_
      obtain ⟨T4, X4, e4, st4⟩ := getS2 X0 hx hZ hown (host := "") (Or.inl (hw _ (List.mem_of_getElem? (i := 32) rfl))) Via.refl e0 S_aO (g := (mkF m 17 #[.val (.int p1), .val (.int (p1 &&& (3 : Int32)))] [])) rfl (hb hby d1_17)
      refine own_via st4 ?_
      show own_G p.tables e below _ (T4.setTop (mkF m 20 #[.val (.int p1), .val (.int (p1 &&& (3 : Int32)))] [(.ref aO)]))
      exact own_end (h := h0) X4 (v := some (.ref aO)) Bd.notSynchronized (fun h => by rw [Bd.returns] at h; cases h) (fun fs hr => retOut X4 hx Bd.returns rfl (Or.inr (Or.inr (Or.inr (Or.inr ⟨rfl, rfl, rfl⟩)))) (hb hby d1_20) hr) e4 ⟨aO, (1 : Int32), rfl, N0, rfl, E_aO, F_aO, by unfold own_om own_big; grind, by decide⟩ (by decide) (by decide)
    · refine own_via (S' := s₁.setTop (mkF m 21 #[.val (.int p1), .val (.int (p1 &&& (3 : Int32)))] [])) (fun t k => XS.icmpYes (g := (mkF m 14 #[.val (.int p1), .val (.int (p1 &&& (3 : Int32)))] [(.int (1 : Int32)), (.int (p1 &&& (3 : Int32)))])) X0.here hx rfl (pc0 := 14) (pc' := 21) rfl (hb hby d1_14) rfl (feq hc14_3).2 (by decide) (by decide) k) ?_
      refine own_via (S' := s₁.setTop (mkF m 23 #[.val (.int p1), .val (.int (p1 &&& (3 : Int32)))] [(.int (2 : Int32)), (.int (p1 &&& (3 : Int32)))])) (fun t k => ?_) ?_
      · show Steps p.tables e below (s₁.setTop (mkF m 21 #[.val (.int p1), .val (.int (p1 &&& (3 : Int32)))] [])) t
        refine XS.iloadN X0.here hx rfl (hb hby d1_21) rfl ?_
        show Steps p.tables e below (s₁.setTop (mkF m 22 #[.val (.int p1), .val (.int (p1 &&& (3 : Int32)))] [(.int (p1 &&& (3 : Int32)))])) t
        refine XS.iconst X0.here hx rfl (hb hby d1_22) ?_
        exact k
      by_cases hc23_5 : (p1 &&& (3 : Int32)) = (2 : Int32)
      · refine own_via (S' := s₁.setTop (mkF m 26 #[.val (.int p1), .val (.int (p1 &&& (3 : Int32)))] [])) (fun t k => XS.icmpNo (g := (mkF m 23 #[.val (.int p1), .val (.int (p1 &&& (3 : Int32)))] [(.int (2 : Int32)), (.int (p1 &&& (3 : Int32)))])) X0.here hx rfl (hb hby d1_23) rfl (teq hc23_5).2 k) ?_
        obtain ⟨T6, X6, e6, st6⟩ := getS2 X0 hx hZ hown (host := "") (Or.inl (hw _ (List.mem_of_getElem? (i := 34) rfl))) Via.refl e0 S_aE (g := (mkF m 26 #[.val (.int p1), .val (.int (p1 &&& (3 : Int32)))] [])) rfl (hb hby d1_26)
        refine own_via st6 ?_
        show own_G p.tables e below _ (T6.setTop (mkF m 29 #[.val (.int p1), .val (.int (p1 &&& (3 : Int32)))] [(.ref aE)]))
        exact own_end (h := h0) X6 (v := some (.ref aE)) Bd.notSynchronized (fun h => by rw [Bd.returns] at h; cases h) (fun fs hr => retOut X6 hx Bd.returns rfl (Or.inr (Or.inr (Or.inr (Or.inr ⟨rfl, rfl, rfl⟩)))) (hb hby d1_29) hr) e6 ⟨aE, (2 : Int32), rfl, N0, rfl, E_aE, F_aE, by unfold own_om own_big; grind, by decide⟩ (by decide) (by decide)
      · refine own_via (S' := s₁.setTop (mkF m 30 #[.val (.int p1), .val (.int (p1 &&& (3 : Int32)))] [])) (fun t k => XS.icmpYes (g := (mkF m 23 #[.val (.int p1), .val (.int (p1 &&& (3 : Int32)))] [(.int (2 : Int32)), (.int (p1 &&& (3 : Int32)))])) X0.here hx rfl (pc0 := 23) (pc' := 30) rfl (hb hby d1_23) rfl (feq hc23_5).2 (by decide) (by decide) k) ?_
        obtain ⟨T7, X7, e7, st7⟩ := getS2 X0 hx hZ hown (host := "") (Or.inl (hw _ (List.mem_of_getElem? (i := 7) rfl))) Via.refl e0 S_aM (g := (mkF m 30 #[.val (.int p1), .val (.int (p1 &&& (3 : Int32)))] [])) rfl (hb hby d1_30)
        refine own_via st7 ?_
        show own_G p.tables e below _ (T7.setTop (mkF m 33 #[.val (.int p1), .val (.int (p1 &&& (3 : Int32)))] [(.ref aM)]))
        exact own_end (h := h0) X7 (v := some (.ref aM)) Bd.notSynchronized (fun h => by rw [Bd.returns] at h; cases h) (fun fs hr => retOut X7 hx Bd.returns rfl (Or.inr (Or.inr (Or.inr (Or.inr ⟨rfl, rfl, rfl⟩)))) (hb hby d1_33) hr) e7 ⟨aM, (3 : Int32), rfl, N0, rfl, E_aM, F_aM, by unfold own_om own_big; grind, by decide⟩ (by decide) (by decide)
theorem d2_0 : decode prog_2_method_4_code 0 = .ok (.aload_n 0, 1) := by decide +kernel
theorem d2_1 : decode prog_2_method_4_code 1 = .ok (.getstatic 10, 3) := by decide +kernel
theorem d2_4 : decode prog_2_method_4_code 4 = .ok (.if_acmp .eq 10, 3) := by decide +kernel
theorem d2_7 : decode prog_2_method_4_code 7 = .ok (.aload_n 0, 1) := by decide +kernel
theorem d2_8 : decode prog_2_method_4_code 8 = .ok (.getstatic 13, 3) := by decide +kernel
theorem d2_11 : decode prog_2_method_4_code 11 = .ok (.if_acmp .ne 7, 3) := by decide +kernel
theorem d2_14 : decode prog_2_method_4_code 14 = .ok (.iconst 1, 1) := by decide +kernel
theorem d2_15 : decode prog_2_method_4_code 15 = .ok (.goto 4, 3) := by decide +kernel
theorem d2_18 : decode prog_2_method_4_code 18 = .ok (.iconst 0, 1) := by decide +kernel
theorem d2_19 : decode prog_2_method_4_code 19 = .ok (.ireturn, 1) := by decide +kernel
theorem pn2 : plainName "com/example/midstream/midstream/core/Fanout" = true := by first | (simp [plainName, overriddenIn]; done) | decide +kernel
theorem ef2 (m : MethodId) (x0 : Addr) : entryFrame m #[(.ref x0)] 1 = mkF m 0 #[.val (.ref x0)] [] := by first | (simp [entryFrame, mkF, argsToLocals, Value.category]; done) | rfl
def Q2 (Z : State) (a1 : Addr) (aE : Addr) (aM : Addr) (h0 : Heap) (n0 : Nat) (v : Option Value) (h : Heap) (L : List Loc) : Prop := v = some (.int (own_om a1 aE aM)) ∧ Fr n0 L ∧ h = h0
set_option maxRecDepth 65536 in
set_option maxHeartbeats 40000000 in
theorem rm2 (l : Launch) (Z : State) (a0 : Array Value) (hw : ∀ d ∈ tables_1, d.before a0 Z = true) (ws : List Jvm.Cond) (a1 : Addr) (aE : Addr) (aM : Addr) (h0 : Heap) (n0 : Nat) (Z0 : n0 ≤ h0.size) (S_aE : Sta Z h0 "com/example/midstream/midstream/core/Fanout" "ONE_PER_EDGE" "Lcom/example/midstream/midstream/core/Fanout;" (.ref aE)) (S_aM : Sta Z h0 "com/example/midstream/midstream/core/Fanout" "MANY" "Lcom/example/midstream/midstream/core/Fanout;" (.ref aM)) :
    MetFree l (⟨"com/example/midstream/midstream/core/Fanout", "oneToMany", "()Z"⟩ : MethodName) (head1 (Jvm.Cond.code (⟨"com/example/midstream/midstream/core/Fanout", "oneToMany", "()Z"⟩ : MethodName) prog_2_method_4_code 1 (some .boolean) :: ws) ({ frames := 0, cells := 0, slots := 0, locals := 0 } : Room)) (fun a U => a = #[(.ref a1)] ∧ Z.Warmed39 U.vm ∧ U.heap = h0) (fun _ _ _ _ _ => True) (fun _ U o U' => ∃ v L, o = .returned v ∧ Q2 Z a1 aE aM h0 n0 v U'.heap L ∧ FrameEnd U o U' L ({ frames := 0, cells := 0, slots := 0, locals := 0 } : Room).cells ({ frames := 0, cells := 0, slots := 0, locals := 0 } : Room).slots) := by
  refine MetFree.of_bodySF (plainFor_of_name pn2) hisR ?_
  intro p e s m args below meth c s₁ Bd hml0 hP hK
  obtain ⟨rfl, hZ, hh⟩ := hP
  have hx := Bd.exec
  have hby := Bd.bytes
  have hml : c.maxLocals = 1 := hml0
  have hown : s.vm.findClass "com/example/midstream/midstream/core/Fanout" = some m.cls := findClass_of_methodNamed Bd.named
  have hnm := (name_of_methodNamed Bd.named Bd.method).1
  have X0 : Stand p l e ({ frames := 0, cells := 0, slots := 0, locals := 0 } : Room) s m #[(.ref a1)] below meth c s₁ [] 0 0 := Stand.of_body Bd
  have e0 : s₁.heap = h0 := by rw [← hh, Bd.state]; rfl
  have N0 := Fr.nil n0
  refine (show own_G p.tables e below (own_P s (Q2 Z a1 aE aM h0 n0) 0 0) (s₁.setTop (entryFrame m #[(.ref a1)] 1)) from ?_)
  refine own_via (fun t k => castTop (ef2 m a1) k) ?_
  show own_G p.tables e below _ (s₁.setTop (mkF m 0 #[.val (.ref a1)] []))
  refine own_via (S' := s₁.setTop (mkF m 1 #[.val (.ref a1)] [(.ref a1)])) (fun t k => ?_) ?_
  · show Steps p.tables e below (s₁.setTop (mkF m 0 #[.val (.ref a1)] [])) t
    refine XS.aloadN X0.here hx rfl (hb hby d2_0) rfl rfl ?_
    exact k
  obtain ⟨T1, X1, e1, st1⟩ := getS2 X0 hx hZ hown (host := "") (Or.inl (hw _ (List.mem_of_getElem? (i := 14) rfl))) Via.refl e0 S_aE (g := (mkF m 1 #[.val (.ref a1)] [(.ref a1)])) rfl (hb hby d2_1)
  refine own_via st1 ?_
  show own_G p.tables e below _ (T1.setTop (mkF m 4 #[.val (.ref a1)] [(.ref aE), (.ref a1)]))
  by_cases hc4_2 : a1 = aE
  · refine own_via (S' := T1.setTop (mkF m 14 #[.val (.ref a1)] [])) (fun t k => Jvm.RoadKit.acmp (g := (mkF m 4 #[.val (.ref a1)] [(.ref aE), (.ref a1)])) X1 hx rfl rfl rfl (pc0 := 4) (pc' := 14) (same := true) rfl (hb hby d2_4) rfl (decide_eq_true (congrArg Value.ref hc4_2)) (by decide) (by decide) k) ?_
    refine own_via (S' := T1.setTop (mkF m 19 #[.val (.ref a1)] [(.int (1 : Int32))])) (fun t k => ?_) ?_
    · show Steps p.tables e below (T1.setTop (mkF m 14 #[.val (.ref a1)] [])) t
      refine XS.iconst X1.here hx rfl (hb hby d2_14) ?_
      show Steps p.tables e below (T1.setTop (mkF m 15 #[.val (.ref a1)] [(.int (1 : Int32))])) t
      refine XS.goto X1.here hx rfl (pc0 := 15) (pc' := 19) rfl (hb hby d2_15) (by decide) (by decide) ?_
      exact k
    exact own_end (h := h0) X1 (v := some (.int (1 : Int32))) Bd.notSynchronized (fun h => by rw [Bd.returns] at h; cases h) (fun fs hr => retN X1 hx (t := .boolean) Bd.returns (by simp) (hb hby d2_19) hr) e1 ⟨by show some (Value.int _) = some (Value.int _); congr 2; unfold own_om; grind, N0, rfl⟩ (by decide) (by decide)
  · refine own_via (S' := T1.setTop (mkF m 7 #[.val (.ref a1)] [])) (fun t k => Jvm.RoadKit.acmp (g := (mkF m 4 #[.val (.ref a1)] [(.ref aE), (.ref a1)])) X1 hx rfl rfl rfl (pc0 := 4) (pc' := 7) (same := false) rfl (hb hby d2_4) rfl (decide_eq_false fun q => hc4_2 (Value.ref.inj q)) (by decide) (by decide) k) ?_
    refine own_via (S' := T1.setTop (mkF m 8 #[.val (.ref a1)] [(.ref a1)])) (fun t k => ?_) ?_
    · show Steps p.tables e below (T1.setTop (mkF m 7 #[.val (.ref a1)] [])) t
      refine XS.aloadN X1.here hx rfl (hb hby d2_7) rfl rfl ?_
      exact k
    obtain ⟨T3, X3, e3, st3⟩ := getS2 X1 hx hZ hown (host := "") (Or.inl (hw _ (List.mem_of_getElem? (i := 16) rfl))) Via.refl e1 S_aM (g := (mkF m 8 #[.val (.ref a1)] [(.ref a1)])) rfl (hb hby d2_8)
    refine own_via st3 ?_
    show own_G p.tables e below _ (T3.setTop (mkF m 11 #[.val (.ref a1)] [(.ref aM), (.ref a1)]))
    by_cases hc11_4 : a1 = aM
    · refine own_via (S' := T3.setTop (mkF m 14 #[.val (.ref a1)] [])) (fun t k => Jvm.RoadKit.acmp (g := (mkF m 11 #[.val (.ref a1)] [(.ref aM), (.ref a1)])) X3 hx rfl rfl rfl (pc0 := 11) (pc' := 14) (same := true) rfl (hb hby d2_11) rfl (decide_eq_true (congrArg Value.ref hc11_4)) (by decide) (by decide) k) ?_
      refine own_via (S' := T3.setTop (mkF m 19 #[.val (.ref a1)] [(.int (1 : Int32))])) (fun t k => ?_) ?_
      · show Steps p.tables e below (T3.setTop (mkF m 14 #[.val (.ref a1)] [])) t
        refine XS.iconst X3.here hx rfl (hb hby d2_14) ?_
        show Steps p.tables e below (T3.setTop (mkF m 15 #[.val (.ref a1)] [(.int (1 : Int32))])) t
        refine XS.goto X3.here hx rfl (pc0 := 15) (pc' := 19) rfl (hb hby d2_15) (by decide) (by decide) ?_
        exact k
      exact own_end (h := h0) X3 (v := some (.int (1 : Int32))) Bd.notSynchronized (fun h => by rw [Bd.returns] at h; cases h) (fun fs hr => retN X3 hx (t := .boolean) Bd.returns (by simp) (hb hby d2_19) hr) e3 ⟨by show some (Value.int _) = some (Value.int _); congr 2; unfold own_om; grind, N0, rfl⟩ (by decide) (by decide)
    · refine own_via (S' := T3.setTop (mkF m 18 #[.val (.ref a1)] [])) (fun t k => Jvm.RoadKit.acmp (g := (mkF m 11 #[.val (.ref a1)] [(.ref aM), (.ref a1)])) X3 hx rfl rfl rfl (pc0 := 11) (pc' := 18) (same := false) rfl (hb hby d2_11) rfl (decide_eq_false fun q => hc11_4 (Value.ref.inj q)) (by decide) (by decide) k) ?_
      refine own_via (S' := T3.setTop (mkF m 19 #[.val (.ref a1)] [(.int (0 : Int32))])) (fun t k => ?_) ?_
      · show Steps p.tables e below (T3.setTop (mkF m 18 #[.val (.ref a1)] [])) t
        refine XS.iconst X3.here hx rfl (hb hby d2_18) ?_
        exact k
      exact own_end (h := h0) X3 (v := some (.int (0 : Int32))) Bd.notSynchronized (fun h => by rw [Bd.returns] at h; cases h) (fun fs hr => retN X3 hx (t := .boolean) Bd.returns (by simp) (hb hby d2_19) hr) e3 ⟨by show some (Value.int _) = some (Value.int _); congr 2; unfold own_om; grind, N0, rfl⟩ (by decide) (by decide)
theorem d3_0 : decode jdk_37_method_8_code 0 = .ok (.aload_n 1, 1) := by decide +kernel
theorem d3_1 : decode jdk_37_method_8_code 1 = .ok (.astore_n 2, 1) := by decide +kernel
theorem d3_2 : decode jdk_37_method_8_code 2 = .ok (.aload_n 0, 1) := by decide +kernel
theorem d3_3 : decode jdk_37_method_8_code 3 = .ok (.astore_n 3, 1) := by decide +kernel
theorem d3_4 : decode jdk_37_method_8_code 4 = .ok (.aload_n 3, 1) := by decide +kernel
theorem d3_5 : decode jdk_37_method_8_code 5 = .ok (.invokevirtual 29, 3) := by decide +kernel
theorem d3_8 : decode jdk_37_method_8_code 8 = .ok (.aload_n 2, 1) := by decide +kernel
theorem d3_9 : decode jdk_37_method_8_code 9 = .ok (.invokevirtual 29, 3) := by decide +kernel
theorem d3_12 : decode jdk_37_method_8_code 12 = .ok (.if_acmp .eq 22, 3) := by decide +kernel
theorem d3_34 : decode jdk_37_method_8_code 34 = .ok (.aload_n 3, 1) := by decide +kernel
theorem d3_35 : decode jdk_37_method_8_code 35 = .ok (.getfield 7, 3) := by decide +kernel
theorem d3_38 : decode jdk_37_method_8_code 38 = .ok (.aload_n 2, 1) := by decide +kernel
theorem d3_39 : decode jdk_37_method_8_code 39 = .ok (.getfield 7, 3) := by decide +kernel
theorem d3_42 : decode jdk_37_method_8_code 42 = .ok (.isub, 1) := by decide +kernel
theorem d3_43 : decode jdk_37_method_8_code 43 = .ok (.ireturn, 1) := by decide +kernel
theorem pn3 : plainName "java/lang/Enum" = true := by first | (simp [plainName, overriddenIn]; done) | decide +kernel
theorem ef3 (m : MethodId) (x0 : Addr) (x1 : Addr) : entryFrame m #[(.ref x0), (.ref x1)] 4 = mkF m 0 #[.val (.ref x0), .val (.ref x1), .unset, .unset] [] := by first | (simp [entryFrame, mkF, argsToLocals, Value.category]; done) | rfl
def Q3 (Z : State) (a1 : Addr) (a2 : Addr) (o1 : Int32) (o2 : Int32) (mr : Addr) (h0 : Heap) (n0 : Nat) (v : Option Value) (h : Heap) (L : List Loc) : Prop := v = some (.int (o1 - o2)) ∧ Fr n0 L ∧ h = h0
set_option maxRecDepth 65536 in
set_option maxHeartbeats 40000000 in
theorem rm3 (l : Launch) (Z : State) (a0 : Array Value) (hw : ∀ d ∈ tables_1, d.before a0 Z = true) (ws : List Jvm.Cond) (a1 : Addr) (a2 : Addr) (o1 : Int32) (o2 : Int32) (mr : Addr) (h0 : Heap) (n0 : Nat) (Z0 : n0 ≤ h0.size) (E1 : Exa Z h0 a1 "com/example/midstream/midstream/core/Fanout") (E2 : Exa Z h0 a2 "com/example/midstream/midstream/core/Fanout") (F1 : Fld Z h0 a1 "java/lang/Enum" "ordinal" "I" (.int o1)) (F2 : Fld Z h0 a2 "java/lang/Enum" "ordinal" "I" (.int o2)) (MM : own_M Z "com/example/midstream/midstream/core/Fanout" mr) :
    MetFree l (⟨"java/lang/Enum", "compareTo", "(Ljava/lang/Enum;)I"⟩ : MethodName) (head1 (Jvm.Cond.code (⟨"java/lang/Enum", "compareTo", "(Ljava/lang/Enum;)I"⟩ : MethodName) jdk_37_method_8_code 4 (some .int) :: ws) ({ frames := 1, cells := 0, slots := 0, locals := 15 } : Room)) (fun a U => a = #[(.ref a1), (.ref a2)] ∧ Z.Warmed39 U.vm ∧ U.heap = h0) (fun _ _ _ _ _ => True) (fun _ U o U' => ∃ v L, o = .returned v ∧ Q3 Z a1 a2 o1 o2 mr h0 n0 v U'.heap L ∧ FrameEnd U o U' L ({ frames := 1, cells := 0, slots := 0, locals := 15 } : Room).cells ({ frames := 1, cells := 0, slots := 0, locals := 15 } : Room).slots) := by
  refine MetFree.of_bodySF (plainFor_of_name pn3) hisR ?_
  intro p e s m args below meth c s₁ Bd hml0 hP hK
  obtain ⟨rfl, hZ, hh⟩ := hP
  have hx := Bd.exec
  have hby := Bd.bytes
  have hml : c.maxLocals = 4 := hml0
  have hown : s.vm.findClass "java/lang/Enum" = some m.cls := findClass_of_methodNamed Bd.named
  have hnm := (name_of_methodNamed Bd.named Bd.method).1
  have X0 : Stand p l e ({ frames := 1, cells := 0, slots := 0, locals := 15 } : Room) s m #[(.ref a1), (.ref a2)] below meth c s₁ [] 0 0 := Stand.of_body Bd
  have e0 : s₁.heap = h0 := by rw [← hh, Bd.state]; rfl
  have N0 := Fr.nil n0
  refine (show own_G p.tables e below (own_P s (Q3 Z a1 a2 o1 o2 mr h0 n0) 0 0) (s₁.setTop (entryFrame m #[(.ref a1), (.ref a2)] 4)) from ?_)
  refine own_via (fun t k => castTop (ef3 m a1 a2) k) ?_
  show own_G p.tables e below _ (s₁.setTop (mkF m 0 #[.val (.ref a1), .val (.ref a2), .unset, .unset] []))
  refine own_via (S' := s₁.setTop (mkF m 5 #[.val (.ref a1), .val (.ref a2), .val (.ref a2), .val (.ref a1)] [(.ref a1)])) (fun t k => ?_) ?_
  · show Steps p.tables e below (s₁.setTop (mkF m 0 #[.val (.ref a1), .val (.ref a2), .unset, .unset] [])) t
    refine XS.aloadN X0.here hx rfl (hb hby d3_0) rfl rfl ?_
    show Steps p.tables e below (s₁.setTop (mkF m 1 #[.val (.ref a1), .val (.ref a2), .unset, .unset] [(.ref a2)])) t
    refine XS.astoreN X0.here hx rfl (hb hby d3_1) rfl rfl (l' := #[.val (.ref a1), .val (.ref a2), .val (.ref a2), .unset]) rfl ?_
    show Steps p.tables e below (s₁.setTop (mkF m 2 #[.val (.ref a1), .val (.ref a2), .val (.ref a2), .unset] [])) t
    refine XS.aloadN X0.here hx rfl (hb hby d3_2) rfl rfl ?_
    show Steps p.tables e below (s₁.setTop (mkF m 3 #[.val (.ref a1), .val (.ref a2), .val (.ref a2), .unset] [(.ref a1)])) t
    refine XS.astoreN X0.here hx rfl (hb hby d3_3) rfl rfl (l' := #[.val (.ref a1), .val (.ref a2), .val (.ref a2), .val (.ref a1)]) rfl ?_
    show Steps p.tables e below (s₁.setTop (mkF m 4 #[.val (.ref a1), .val (.ref a2), .val (.ref a2), .val (.ref a1)] [])) t
    refine XS.aloadN X0.here hx rfl (hb hby d3_4) rfl rfl ?_
    exact k
  obtain ⟨cB1, kB1, i11, i21, i31⟩ := isOf hZ e0 E1
  obtain ⟨cC1, kC1, m11, m21, m31⟩ := own_mir hZ MM
  cases i11.symm.trans m11
  obtain ⟨vm1, X1, st1⟩ := X0.getClassOf hx hown (mvT hZ (hw _ (List.mem_of_getElem? (i := 24) rfl))) (mvT hZ (hw _ (List.mem_of_getElem? (i := 25) rfl))) (notFace_of_selects (args := #[]) (mvT hZ (hw _ (List.mem_of_getElem? (i := 27) rfl)))) (mvT hZ (hw _ (List.mem_of_getElem? (i := 27) rfl))) (mvT hZ (hw _ (List.mem_of_getElem? (i := 26) rfl))) (mvT hZ (hw _ (List.mem_of_getElem? (i := 28) rfl))) i11 i31 m21 m31 (g := (mkF m 5 #[.val (.ref a1), .val (.ref a2), .val (.ref a2), .val (.ref a1)] [(.ref a1)])) rfl (by rw [hml]; rfl) rfl (hb hby d3_5) (by decide) (Nat.le_of_ble_eq_true rfl)
  have e1 : (s₁.setVm vm1).heap = h0 := e0
  refine own_via st1 ?_
  show own_G p.tables e below _ ((s₁.setVm vm1).setTop (mkF m 8 #[.val (.ref a1), .val (.ref a2), .val (.ref a2), .val (.ref a1)] [(.ref mr)]))
  refine own_via (S' := (s₁.setVm vm1).setTop (mkF m 9 #[.val (.ref a1), .val (.ref a2), .val (.ref a2), .val (.ref a1)] [(.ref a2), (.ref mr)])) (fun t k => ?_) ?_
  · show Steps p.tables e below ((s₁.setVm vm1).setTop (mkF m 8 #[.val (.ref a1), .val (.ref a2), .val (.ref a2), .val (.ref a1)] [(.ref mr)])) t
    refine XS.aloadN X1.here hx rfl (hb hby d3_8) rfl rfl ?_
    exact k
  obtain ⟨cB2, kB2, i12, i22, i32⟩ := isOf hZ e1 E2
  obtain ⟨cC2, kC2, m12, m22, m32⟩ := own_mir hZ MM
  cases i12.symm.trans m12
  obtain ⟨vm2, X2, st2⟩ := X1.getClassOf hx hown (mvT hZ (hw _ (List.mem_of_getElem? (i := 24) rfl))) (mvT hZ (hw _ (List.mem_of_getElem? (i := 25) rfl))) (notFace_of_selects (args := #[]) (mvT hZ (hw _ (List.mem_of_getElem? (i := 27) rfl)))) (mvT hZ (hw _ (List.mem_of_getElem? (i := 27) rfl))) (mvT hZ (hw _ (List.mem_of_getElem? (i := 26) rfl))) (mvT hZ (hw _ (List.mem_of_getElem? (i := 28) rfl))) i12 i32 m22 m32 (g := (mkF m 9 #[.val (.ref a1), .val (.ref a2), .val (.ref a2), .val (.ref a1)] [(.ref a2), (.ref mr)])) rfl (by rw [hml]; rfl) rfl (hb hby d3_9) (by decide) (Nat.le_of_ble_eq_true rfl)
  have e2 : ((s₁.setVm vm1).setVm vm2).heap = h0 := e1
  refine own_via st2 ?_
  show own_G p.tables e below _ (((s₁.setVm vm1).setVm vm2).setTop (mkF m 12 #[.val (.ref a1), .val (.ref a2), .val (.ref a2), .val (.ref a1)] [(.ref mr), (.ref mr)]))
  refine own_via (S' := ((s₁.setVm vm1).setVm vm2).setTop (mkF m 34 #[.val (.ref a1), .val (.ref a2), .val (.ref a2), .val (.ref a1)] [])) (fun t k => Jvm.RoadKit.acmp (g := (mkF m 12 #[.val (.ref a1), .val (.ref a2), .val (.ref a2), .val (.ref a1)] [(.ref mr), (.ref mr)])) X2 hx rfl rfl rfl (pc0 := 12) (pc' := 34) (same := true) rfl (hb hby d3_12) rfl (decide_eq_true rfl) (by decide) (by decide) k) ?_
  refine own_via (S' := ((s₁.setVm vm1).setVm vm2).setTop (mkF m 35 #[.val (.ref a1), .val (.ref a2), .val (.ref a2), .val (.ref a1)] [(.ref a1)])) (fun t k => ?_) ?_
  · show Steps p.tables e below (((s₁.setVm vm1).setVm vm2).setTop (mkF m 34 #[.val (.ref a1), .val (.ref a2), .val (.ref a2), .val (.ref a1)] [])) t
    refine XS.aloadN X2.here hx rfl (hb hby d3_34) rfl rfl ?_
    exact k
  obtain ⟨T4, X4, e4, st4⟩ := getF X2 hx hZ hown (host := "") (Or.inl (hw _ (List.mem_of_getElem? (i := 30) rfl))) Via.refl e2 F1 (g := (mkF m 35 #[.val (.ref a1), .val (.ref a2), .val (.ref a2), .val (.ref a1)] [(.ref a1)])) rfl rfl (hb hby d3_35)
  refine own_via st4 ?_
  show own_G p.tables e below _ (T4.setTop (mkF m 38 #[.val (.ref a1), .val (.ref a2), .val (.ref a2), .val (.ref a1)] [(.int o1)]))
  refine own_via (S' := T4.setTop (mkF m 39 #[.val (.ref a1), .val (.ref a2), .val (.ref a2), .val (.ref a1)] [(.ref a2), (.int o1)])) (fun t k => ?_) ?_
  · show Steps p.tables e below (T4.setTop (mkF m 38 #[.val (.ref a1), .val (.ref a2), .val (.ref a2), .val (.ref a1)] [(.int o1)])) t
    refine XS.aloadN X4.here hx rfl (hb hby d3_38) rfl rfl ?_
    exact k
  obtain ⟨T5, X5, e5, st5⟩ := getF X4 hx hZ hown (host := "") (Or.inl (hw _ (List.mem_of_getElem? (i := 30) rfl))) Via.refl e4 F2 (g := (mkF m 39 #[.val (.ref a1), .val (.ref a2), .val (.ref a2), .val (.ref a1)] [(.ref a2), (.int o1)])) rfl rfl (hb hby d3_39)
  refine own_via st5 ?_
  show own_G p.tables e below _ (T5.setTop (mkF m 42 #[.val (.ref a1), .val (.ref a2), .val (.ref a2), .val (.ref a1)] [(.int o2), (.int o1)]))
  refine own_via (S' := T5.setTop (mkF m 43 #[.val (.ref a1), .val (.ref a2), .val (.ref a2), .val (.ref a1)] [(.int (o1 - o2))])) (fun t k => ?_) ?_
  · show Steps p.tables e below (T5.setTop (mkF m 42 #[.val (.ref a1), .val (.ref a2), .val (.ref a2), .val (.ref a1)] [(.int o2), (.int o1)])) t
    refine XS.isub X5.here hx rfl (hb hby d3_42) rfl ?_
    exact k
  exact own_end (h := h0) X5 (v := some (.int (o1 - o2))) Bd.notSynchronized (fun h => by rw [Bd.returns] at h; cases h) (fun fs hr => retOut X5 hx Bd.returns rfl (Or.inl ⟨rfl, Or.inl rfl, _, rfl⟩) (hb hby d3_43) hr) e5 ⟨by rfl, N0, rfl⟩ (by decide) (by decide)
theorem pn0 : plainName "com/example/midstream/midstream/core/FanoutOneToManyPinLaw" = true := by first | (simp [plainName, overriddenIn]; done) | decide +kernel
theorem pd_0 : parseMethodDescriptor "(I)Lcom/example/midstream/midstream/core/Fanout;" = some ⟨[.int], some (.object "com/example/midstream/midstream/core/Fanout")⟩ := by decide +kernel
theorem pd_1 : parseMethodDescriptor "()Z" = some ⟨[], some .boolean⟩ := by decide +kernel
theorem pd_2 : parseMethodDescriptor "(Ljava/lang/Enum;)I" = some ⟨[(.object "java/lang/Enum")], some .int⟩ := by decide +kernel
theorem ef0 (m : MethodId) (x0 : Int32) (x1 : Int32) : entryFrame m #[(.int x0), (.int x1)] maxLocals = mkF m 0 #[.val (.int x0), .val (.int x1), .unset, .unset, .unset, .unset, .unset, .unset] [] := by first | (simp [entryFrame, mkF, argsToLocals, Value.category, maxLocals]; done) | rfl
def Q0 (Z : State) (p1 : Int32) (p2 : Int32) (aS : Addr) (aO : Addr) (aE : Addr) (aM : Addr) (mr : Addr) (h0 : Heap) (n0 : Nat) (v : Option Value) (h : Heap) (L : List Loc) : Prop := v = some (.int 1) ∧ Fr n0 L
set_option maxRecDepth 65536 in
set_option maxHeartbeats 40000000 in
theorem rm0 (l : Launch) (Z : State) (a0 : Array Value) (hw : ∀ d ∈ tables_1, d.before a0 Z = true) (ws : List Jvm.Cond) (p1 : Int32) (p2 : Int32) (aS : Addr) (aO : Addr) (aE : Addr) (aM : Addr) (mr : Addr) (h0 : Heap) (n0 : Nat) (Z0 : n0 ≤ h0.size) (S_aS : Sta Z h0 "com/example/midstream/midstream/core/Fanout" "ONE_PER_SOURCE_ROW" "Lcom/example/midstream/midstream/core/Fanout;" (.ref aS)) (S_aO : Sta Z h0 "com/example/midstream/midstream/core/Fanout" "ONE" "Lcom/example/midstream/midstream/core/Fanout;" (.ref aO)) (S_aE : Sta Z h0 "com/example/midstream/midstream/core/Fanout" "ONE_PER_EDGE" "Lcom/example/midstream/midstream/core/Fanout;" (.ref aE)) (S_aM : Sta Z h0 "com/example/midstream/midstream/core/Fanout" "MANY" "Lcom/example/midstream/midstream/core/Fanout;" (.ref aM)) (E_aS : Exa Z h0 aS "com/example/midstream/midstream/core/Fanout") (F_aS : Fld Z h0 aS "java/lang/Enum" "ordinal" "I" (.int (0 : Int32))) (E_aO : Exa Z h0 aO "com/example/midstream/midstream/core/Fanout") (F_aO : Fld Z h0 aO "java/lang/Enum" "ordinal" "I" (.int (1 : Int32))) (E_aE : Exa Z h0 aE "com/example/midstream/midstream/core/Fanout") (F_aE : Fld Z h0 aE "java/lang/Enum" "ordinal" "I" (.int (2 : Int32))) (E_aM : Exa Z h0 aM "com/example/midstream/midstream/core/Fanout") (F_aM : Fld Z h0 aM "java/lang/Enum" "ordinal" "I" (.int (3 : Int32))) (ne_aS_aE : aS ≠ aE) (ne_aS_aM : aS ≠ aM) (ne_aO_aE : aO ≠ aE) (ne_aO_aM : aO ≠ aM) (MM : own_M Z "com/example/midstream/midstream/core/Fanout" mr) :
    MetFree l x (head1 (Jvm.Cond.code x code maxLocals ret :: ws) room_1) (fun a U => a = #[(.int p1), (.int p2)] ∧ Z.Warmed39 U.vm ∧ U.heap = h0) (fun _ _ _ _ _ => True) (fun _ U o U' => ∃ v L, o = .returned v ∧ Q0 Z p1 p2 aS aO aE aM mr h0 n0 v U'.heap L ∧ FrameEnd U o U' L 0 0) := by
  refine MetFree.of_bodySF (plainFor_of_name pn0) hisR ?_
  intro p e s m args below meth c s₁ Bd hml0 hP hK
  obtain ⟨rfl, hZ, hh⟩ := hP
  have hx := Bd.exec
  have hby := Bd.bytes
  have hml : c.maxLocals = 8 := hml0
  have hown : s.vm.findClass "com/example/midstream/midstream/core/FanoutOneToManyPinLaw" = some m.cls := findClass_of_methodNamed Bd.named
  have hnm := (name_of_methodNamed Bd.named Bd.method).1
  have X0 : Stand p l e room_1 s m #[(.int p1), (.int p2)] below meth c s₁ [] 0 0 := Stand.of_body Bd
  have e0 : s₁.heap = h0 := by rw [← hh, Bd.state]; rfl
  have N0 := Fr.nil n0
  refine (show own_G p.tables e below (own_P s (Q0 Z p1 p2 aS aO aE aM mr h0 n0) 0 0) (s₁.setTop (entryFrame m #[(.int p1), (.int p2)] maxLocals)) from ?_)
  refine own_via (fun t k => castTop (ef0 m p1 p2) k) ?_
  show own_G p.tables e below _ (s₁.setTop (mkF m 0 #[.val (.int p1), .val (.int p2), .unset, .unset, .unset, .unset, .unset, .unset] []))
  refine own_via (S' := s₁.setTop (mkF m 1 #[.val (.int p1), .val (.int p2), .unset, .unset, .unset, .unset, .unset, .unset] [(.int p1)])) (fun t k => ?_) ?_
  · show Steps p.tables e below (s₁.setTop (mkF m 0 #[.val (.int p1), .val (.int p2), .unset, .unset, .unset, .unset, .unset, .unset] [])) t
    refine XS.iloadN X0.here hx rfl (hb hby at_0) rfl ?_
    exact k
  obtain ⟨_, _, ⟨T1, L1, k1, n1⟩, -, X1, ⟨Lc1, hQ1, l1, y1, z1⟩, st1⟩ := Jvm.LawKit.callS X0 hx (y := (⟨"com/example/midstream/midstream/core/FanoutOneToManyPinLaw", "pick", "(I)Lcom/example/midstream/midstream/core/Fanout;"⟩ : MethodName)) hown (mvT hZ (hw _ (List.mem_of_getElem? (i := 0) rfl))) (mvT hZ (hw _ (List.mem_of_getElem? (i := 1) rfl))) (mvT hZ (hw _ (List.mem_of_getElem? (i := 2) rfl))) (mvT hZ (hw _ (List.mem_of_getElem? (i := 3) rfl))) (by decide) (backOf (W := 0) (rm1 l Z a0 hw [] p1 aS aO aE aM h0 n0 Z0 S_aS S_aO S_aE S_aM E_aS F_aS E_aO F_aO E_aE F_aE E_aM F_aM ne_aS_aE ne_aS_aM ne_aO_aE ne_aO_aM) hZ (hw _ (List.mem_of_getElem? (i := 3) rfl)) (hw _ (List.mem_of_getElem? (i := 2) rfl)) (by decide) (by decide)) (g := (mkF m 1 #[.val (.int p1), .val (.int p2), .unset, .unset, .unset, .unset, .unset, .unset] [(.int p1)])) rfl (by rw [hml]; rfl) (argsL := [(.int p1)]) (rest := []) (lenOf pd_0 rfl) rfl (by show 2 * 0 + _ ≤ _; exact Nat.le_of_eq rfl) (hb hby at_1) (fun _ _ => ⟨rfl, e0, (by decide : 0 + 0 ≤ _), (by decide : 0 + 0 ≤ _)⟩)
  dsimp only [Pt.U, Pt.locs, Pt.cells, Pt.slots] at X1 l1 y1 z1 st1 hQ1
  subst l1 y1 z1
  obtain ⟨r1, o1, rfl, Nq1, hh1, Er1, Fr1, ho1, hr1⟩ := hQ1
  have N1 := Fr.app N0 Nq1
  refine own_via st1 ?_
  show own_G p.tables e below _ (T1.setTop (mkF m 4 #[.val (.int p1), .val (.int p2), .unset, .unset, .unset, .unset, .unset, .unset] [(.ref r1)]))
  refine own_via (S' := T1.setTop (mkF m 6 #[.val (.int p1), .val (.int p2), .val (.ref r1), .unset, .unset, .unset, .unset, .unset] [(.int p2)])) (fun t k => ?_) ?_
  · show Steps p.tables e below (T1.setTop (mkF m 4 #[.val (.int p1), .val (.int p2), .unset, .unset, .unset, .unset, .unset, .unset] [(.ref r1)])) t
    refine XS.astoreN X1.here hx rfl (hb hby at_4) rfl rfl (l' := #[.val (.int p1), .val (.int p2), .val (.ref r1), .unset, .unset, .unset, .unset, .unset]) rfl ?_
    show Steps p.tables e below (T1.setTop (mkF m 5 #[.val (.int p1), .val (.int p2), .val (.ref r1), .unset, .unset, .unset, .unset, .unset] [])) t
    refine XS.iloadN X1.here hx rfl (hb hby at_5) rfl ?_
    exact k
  obtain ⟨_, _, ⟨T2, L2, k2, n2⟩, -, X2, ⟨Lc2, hQ2, l2, y2, z2⟩, st2⟩ := Jvm.LawKit.callS X1 hx (y := (⟨"com/example/midstream/midstream/core/FanoutOneToManyPinLaw", "pick", "(I)Lcom/example/midstream/midstream/core/Fanout;"⟩ : MethodName)) hown (mvT hZ (hw _ (List.mem_of_getElem? (i := 0) rfl))) (mvT hZ (hw _ (List.mem_of_getElem? (i := 1) rfl))) (mvT hZ (hw _ (List.mem_of_getElem? (i := 2) rfl))) (mvT hZ (hw _ (List.mem_of_getElem? (i := 3) rfl))) (by decide) (backOf (W := 0) (rm1 l Z a0 hw [] p2 aS aO aE aM h0 n0 Z0 S_aS S_aO S_aE S_aM E_aS F_aS E_aO F_aO E_aE F_aE E_aM F_aM ne_aS_aE ne_aS_aM ne_aO_aE ne_aO_aM) hZ (hw _ (List.mem_of_getElem? (i := 3) rfl)) (hw _ (List.mem_of_getElem? (i := 2) rfl)) (by decide) (by decide)) (g := (mkF m 6 #[.val (.int p1), .val (.int p2), .val (.ref r1), .unset, .unset, .unset, .unset, .unset] [(.int p2)])) rfl (by rw [hml]; rfl) (argsL := [(.int p2)]) (rest := []) (lenOf pd_0 rfl) rfl (by show 2 * 0 + _ ≤ _; exact Nat.le_of_eq rfl) (hb hby at_6) (fun _ _ => ⟨rfl, hh1, (by decide : 0 + 0 ≤ _), (by decide : 0 + 0 ≤ _)⟩)
  dsimp only [Pt.U, Pt.locs, Pt.cells, Pt.slots] at X2 l2 y2 z2 st2 hQ2
  subst l2 y2 z2
  obtain ⟨r2, o2, rfl, Nq2, hh2, Er2, Fr2, ho2, hr2⟩ := hQ2
  have N2 := Fr.app N1 Nq2
  refine own_via st2 ?_
  show own_G p.tables e below _ (T2.setTop (mkF m 9 #[.val (.int p1), .val (.int p2), .val (.ref r1), .unset, .unset, .unset, .unset, .unset] [(.ref r2)]))
  refine own_via (S' := T2.setTop (mkF m 11 #[.val (.int p1), .val (.int p2), .val (.ref r1), .val (.ref r2), .unset, .unset, .unset, .unset] [(.ref r1)])) (fun t k => ?_) ?_
  · show Steps p.tables e below (T2.setTop (mkF m 9 #[.val (.int p1), .val (.int p2), .val (.ref r1), .unset, .unset, .unset, .unset, .unset] [(.ref r2)])) t
    refine XS.astoreN X2.here hx rfl (hb hby at_9) rfl rfl (l' := #[.val (.int p1), .val (.int p2), .val (.ref r1), .val (.ref r2), .unset, .unset, .unset, .unset]) rfl ?_
    show Steps p.tables e below (T2.setTop (mkF m 10 #[.val (.int p1), .val (.int p2), .val (.ref r1), .val (.ref r2), .unset, .unset, .unset, .unset] [])) t
    refine XS.aloadN X2.here hx rfl (hb hby at_10) rfl rfl ?_
    exact k
  obtain ⟨cq3, kq3, q3a, q3b, q3c⟩ := isOf hZ hh2 Er1
  obtain ⟨_, _, ⟨T3, L3, k3, n3⟩, -, X3, ⟨Lc3, hQ3, l3, y3, z3⟩, st3⟩ := X2.virtualBack hx (y := (⟨"com/example/midstream/midstream/core/Fanout", "oneToMany", "()Z"⟩ : MethodName)) (z := (⟨"com/example/midstream/midstream/core/Fanout", "oneToMany", "()Z"⟩ : MethodName)) hown (mvT hZ (hw _ (List.mem_of_getElem? (i := 9) rfl))) (mvT hZ (hw _ (List.mem_of_getElem? (i := 10) rfl))) (notFace_of_selects (args := #[]) (mvT hZ (hw _ (List.mem_of_getElem? (i := 12) rfl)))) (mvT hZ (hw _ (List.mem_of_getElem? (i := 12) rfl))) (mvT hZ (hw _ (List.mem_of_getElem? (i := 11) rfl))) (by decide) (backOf (W := 0) (rm2 l Z a0 hw [] r1 aE aM h0 n0 Z0 S_aE S_aM) hZ (hw _ (List.mem_of_getElem? (i := 13) rfl)) (hw _ (List.mem_of_getElem? (i := 5) rfl)) (by decide) (by decide)) q3a q3c (g := (mkF m 11 #[.val (.int p1), .val (.int p2), .val (.ref r1), .val (.ref r2), .unset, .unset, .unset, .unset] [(.ref r1)])) rfl (by rw [hml]; rfl) (Steps.refl _) (argsL := []) (rest := []) (lenOf pd_1 rfl) rfl (by show 2 * 0 + _ ≤ _; exact Nat.le_of_eq rfl) (hb hby at_11) (fun _ _ => ⟨rfl, hh2, (by decide : 0 + 0 ≤ _), (by decide : 0 + 0 ≤ _)⟩)
  dsimp only [Pt.U, Pt.locs, Pt.cells, Pt.slots] at X3 l3 y3 z3 st3 hQ3
  subst l3 y3 z3
  obtain ⟨rfl, Nq3, hh3⟩ := hQ3
  have N3 := Fr.app N2 Nq3
  refine own_via (fun t k => st3.trans k) ?_
  show own_G p.tables e below _ (T3.setTop (mkF m 14 #[.val (.int p1), .val (.int p2), .val (.ref r1), .val (.ref r2), .unset, .unset, .unset, .unset] [(.int (own_om r1 aE aM))]))
  refine own_via (S' := T3.setTop (mkF m 17 #[.val (.int p1), .val (.int p2), .val (.ref r1), .val (.ref r2), .val (.int (own_om r1 aE aM)), .unset, .unset, .unset] [(.ref r2)])) (fun t k => ?_) ?_
  · show Steps p.tables e below (T3.setTop (mkF m 14 #[.val (.int p1), .val (.int p2), .val (.ref r1), .val (.ref r2), .unset, .unset, .unset, .unset] [(.int (own_om r1 aE aM))])) t
    refine XS.istore X3.here hx rfl (hb hby at_14) rfl (l' := #[.val (.int p1), .val (.int p2), .val (.ref r1), .val (.ref r2), .val (.int (own_om r1 aE aM)), .unset, .unset, .unset]) rfl ?_
    show Steps p.tables e below (T3.setTop (mkF m 16 #[.val (.int p1), .val (.int p2), .val (.ref r1), .val (.ref r2), .val (.int (own_om r1 aE aM)), .unset, .unset, .unset] [])) t
    refine XS.aloadN X3.here hx rfl (hb hby at_16) rfl rfl ?_
    exact k
  obtain ⟨cq4, kq4, q4a, q4b, q4c⟩ := isOf hZ hh3 Er2
  obtain ⟨_, _, ⟨T4, L4, k4, n4⟩, -, X4, ⟨Lc4, hQ4, l4, y4, z4⟩, st4⟩ := X3.virtualBack hx (y := (⟨"com/example/midstream/midstream/core/Fanout", "oneToMany", "()Z"⟩ : MethodName)) (z := (⟨"com/example/midstream/midstream/core/Fanout", "oneToMany", "()Z"⟩ : MethodName)) hown (mvT hZ (hw _ (List.mem_of_getElem? (i := 9) rfl))) (mvT hZ (hw _ (List.mem_of_getElem? (i := 10) rfl))) (notFace_of_selects (args := #[]) (mvT hZ (hw _ (List.mem_of_getElem? (i := 12) rfl)))) (mvT hZ (hw _ (List.mem_of_getElem? (i := 12) rfl))) (mvT hZ (hw _ (List.mem_of_getElem? (i := 11) rfl))) (by decide) (backOf (W := 0) (rm2 l Z a0 hw [] r2 aE aM h0 n0 Z0 S_aE S_aM) hZ (hw _ (List.mem_of_getElem? (i := 13) rfl)) (hw _ (List.mem_of_getElem? (i := 5) rfl)) (by decide) (by decide)) q4a q4c (g := (mkF m 17 #[.val (.int p1), .val (.int p2), .val (.ref r1), .val (.ref r2), .val (.int (own_om r1 aE aM)), .unset, .unset, .unset] [(.ref r2)])) rfl (by rw [hml]; rfl) (Steps.refl _) (argsL := []) (rest := []) (lenOf pd_1 rfl) rfl (by show 2 * 0 + _ ≤ _; exact Nat.le_of_eq rfl) (hb hby at_17) (fun _ _ => ⟨rfl, hh3, (by decide : 0 + 0 ≤ _), (by decide : 0 + 0 ≤ _)⟩)
  dsimp only [Pt.U, Pt.locs, Pt.cells, Pt.slots] at X4 l4 y4 z4 st4 hQ4
  subst l4 y4 z4
  obtain ⟨rfl, Nq4, hh4⟩ := hQ4
  have N4 := Fr.app N3 Nq4
  refine own_via (fun t k => st4.trans k) ?_
  show own_G p.tables e below _ (T4.setTop (mkF m 20 #[.val (.int p1), .val (.int p2), .val (.ref r1), .val (.ref r2), .val (.int (own_om r1 aE aM)), .unset, .unset, .unset] [(.int (own_om r2 aE aM))]))
  refine own_via (S' := T4.setTop (mkF m 24 #[.val (.int p1), .val (.int p2), .val (.ref r1), .val (.ref r2), .val (.int (own_om r1 aE aM)), .val (.int (own_om r2 aE aM)), .unset, .unset] [(.ref r2), (.ref r1)])) (fun t k => ?_) ?_
  · show Steps p.tables e below (T4.setTop (mkF m 20 #[.val (.int p1), .val (.int p2), .val (.ref r1), .val (.ref r2), .val (.int (own_om r1 aE aM)), .unset, .unset, .unset] [(.int (own_om r2 aE aM))])) t
    refine XS.istore X4.here hx rfl (hb hby at_20) rfl (l' := #[.val (.int p1), .val (.int p2), .val (.ref r1), .val (.ref r2), .val (.int (own_om r1 aE aM)), .val (.int (own_om r2 aE aM)), .unset, .unset]) rfl ?_
    show Steps p.tables e below (T4.setTop (mkF m 22 #[.val (.int p1), .val (.int p2), .val (.ref r1), .val (.ref r2), .val (.int (own_om r1 aE aM)), .val (.int (own_om r2 aE aM)), .unset, .unset] [])) t
    refine XS.aloadN X4.here hx rfl (hb hby at_22) rfl rfl ?_
    show Steps p.tables e below (T4.setTop (mkF m 23 #[.val (.int p1), .val (.int p2), .val (.ref r1), .val (.ref r2), .val (.int (own_om r1 aE aM)), .val (.int (own_om r2 aE aM)), .unset, .unset] [(.ref r1)])) t
    refine XS.aloadN X4.here hx rfl (hb hby at_23) rfl rfl ?_
    exact k
  obtain ⟨cq5, kq5, q5a, q5b, q5c⟩ := isOf hZ hh4 Er1
  obtain ⟨_, _, ⟨T5, L5, k5, n5⟩, -, X5, ⟨Lc5, hQ5, l5, y5, z5⟩, st5⟩ := X4.virtualBackUp hx (x := (⟨"com/example/midstream/midstream/core/Fanout", "compareTo", "(Ljava/lang/Enum;)I"⟩ : MethodName)) (y := (⟨"java/lang/Enum", "compareTo", "(Ljava/lang/Enum;)I"⟩ : MethodName)) (owner := "java/lang/Enum") hown (mvT hZ (hw _ (List.mem_of_getElem? (i := 17) rfl))) (mvT hZ (hw _ (List.mem_of_getElem? (i := 18) rfl))) (mvT hZ (hw _ (List.mem_of_getElem? (i := 19) rfl))) (by decide) (mvT hZ (hw _ (List.mem_of_getElem? (i := 21) rfl))) (mvT hZ (hw _ (List.mem_of_getElem? (i := 20) rfl))) (backOf (W := 0) (rm3 l Z a0 hw [] r1 r2 o1 o2 mr h0 n0 Z0 Er1 Er2 Fr1 Fr2 MM) hZ (hw _ (List.mem_of_getElem? (i := 23) rfl)) (hw _ (List.mem_of_getElem? (i := 22) rfl)) (by decide) (by decide)) q5a q5c (g := (mkF m 24 #[.val (.int p1), .val (.int p2), .val (.ref r1), .val (.ref r2), .val (.int (own_om r1 aE aM)), .val (.int (own_om r2 aE aM)), .unset, .unset] [(.ref r2), (.ref r1)])) rfl (by rw [hml]; rfl) (Steps.refl _) (argsL := [(.ref r2)]) (rest := []) (lenOf pd_2 rfl) rfl (by show 2 * 0 + _ ≤ _; exact Nat.le_of_eq rfl) (hb hby at_24) (fun _ _ => ⟨rfl, hh4, (by decide : 0 + 0 ≤ _), (by decide : 0 + 0 ≤ _)⟩)
  dsimp only [Pt.U, Pt.locs, Pt.cells, Pt.slots] at X5 l5 y5 z5 st5 hQ5
  subst l5 y5 z5
  obtain ⟨rfl, Nq5, hh5⟩ := hQ5
  have N5 := Fr.app N4 Nq5
  refine own_via (fun t k => st5.trans k) ?_
  show own_G p.tables e below _ (T5.setTop (mkF m 27 #[.val (.int p1), .val (.int p2), .val (.ref r1), .val (.ref r2), .val (.int (own_om r1 aE aM)), .val (.int (own_om r2 aE aM)), .unset, .unset] [(.int (o1 - o2))]))
  by_cases hc27_6 : (0 : Int32) < (o1 - o2)
  · refine own_via (S' := T5.setTop (mkF m 40 #[.val (.int p1), .val (.int p2), .val (.ref r1), .val (.ref r2), .val (.int (own_om r1 aE aM)), .val (.int (own_om r2 aE aM)), .unset, .unset] [])) (fun t k => XS.ifYes (g := (mkF m 27 #[.val (.int p1), .val (.int p2), .val (.ref r1), .val (.ref r2), .val (.int (own_om r1 aE aM)), .val (.int (own_om r2 aE aM)), .unset, .unset] [(.int (o1 - o2))])) X5.here hx rfl (pc0 := 27) (pc' := 40) rfl (hb hby at_27) rfl ((if0 _ _).trans (tlt hc27_6).2.2.1) (by decide) (by decide) k) ?_
    refine own_via (S' := T5.setTop (mkF m 47 #[.val (.int p1), .val (.int p2), .val (.ref r1), .val (.ref r2), .val (.int (own_om r1 aE aM)), .val (.int (own_om r2 aE aM)), .val (.int (1 : Int32)), .unset] [])) (fun t k => ?_) ?_
    · show Steps p.tables e below (T5.setTop (mkF m 40 #[.val (.int p1), .val (.int p2), .val (.ref r1), .val (.ref r2), .val (.int (own_om r1 aE aM)), .val (.int (own_om r2 aE aM)), .unset, .unset] [])) t
      refine XS.iconst X5.here hx rfl (hb hby at_40) ?_
      show Steps p.tables e below (T5.setTop (mkF m 41 #[.val (.int p1), .val (.int p2), .val (.ref r1), .val (.ref r2), .val (.int (own_om r1 aE aM)), .val (.int (own_om r2 aE aM)), .unset, .unset] [(.int (1 : Int32))])) t
      refine XS.goto X5.here hx rfl (pc0 := 41) (pc' := 45) rfl (hb hby at_41) (by decide) (by decide) ?_
      show Steps p.tables e below (T5.setTop (mkF m 45 #[.val (.int p1), .val (.int p2), .val (.ref r1), .val (.ref r2), .val (.int (own_om r1 aE aM)), .val (.int (own_om r2 aE aM)), .unset, .unset] [(.int (1 : Int32))])) t
      refine XS.istore X5.here hx rfl (hb hby at_45) rfl (l' := #[.val (.int p1), .val (.int p2), .val (.ref r1), .val (.ref r2), .val (.int (own_om r1 aE aM)), .val (.int (own_om r2 aE aM)), .val (.int (1 : Int32)), .unset]) rfl ?_
      exact k
    obtain ⟨T7, X7, e7, st7⟩ := getS2 X5 hx hZ hown (host := "") (Or.inl (hw _ (List.mem_of_getElem? (i := 32) rfl))) Via.refl hh5 S_aO (g := (mkF m 47 #[.val (.int p1), .val (.int p2), .val (.ref r1), .val (.ref r2), .val (.int (own_om r1 aE aM)), .val (.int (own_om r2 aE aM)), .val (.int (1 : Int32)), .unset] [])) rfl (hb hby at_47)
    refine own_via st7 ?_
    show own_G p.tables e below _ (T7.setTop (mkF m 50 #[.val (.int p1), .val (.int p2), .val (.ref r1), .val (.ref r2), .val (.int (own_om r1 aE aM)), .val (.int (own_om r2 aE aM)), .val (.int (1 : Int32)), .unset] [(.ref aO)]))
    obtain ⟨cq8, kq8, q8a, q8b, q8c⟩ := isOf hZ e7 E_aO
    obtain ⟨_, _, ⟨T8, L8, k8, n8⟩, -, X8, ⟨Lc8, hQ8, l8, y8, z8⟩, st8⟩ := X7.virtualBack hx (y := (⟨"com/example/midstream/midstream/core/Fanout", "oneToMany", "()Z"⟩ : MethodName)) (z := (⟨"com/example/midstream/midstream/core/Fanout", "oneToMany", "()Z"⟩ : MethodName)) hown (mvT hZ (hw _ (List.mem_of_getElem? (i := 9) rfl))) (mvT hZ (hw _ (List.mem_of_getElem? (i := 10) rfl))) (notFace_of_selects (args := #[]) (mvT hZ (hw _ (List.mem_of_getElem? (i := 12) rfl)))) (mvT hZ (hw _ (List.mem_of_getElem? (i := 12) rfl))) (mvT hZ (hw _ (List.mem_of_getElem? (i := 11) rfl))) (by decide) (backOf (W := 0) (rm2 l Z a0 hw [] aO aE aM h0 n0 Z0 S_aE S_aM) hZ (hw _ (List.mem_of_getElem? (i := 13) rfl)) (hw _ (List.mem_of_getElem? (i := 5) rfl)) (by decide) (by decide)) q8a q8c (g := (mkF m 50 #[.val (.int p1), .val (.int p2), .val (.ref r1), .val (.ref r2), .val (.int (own_om r1 aE aM)), .val (.int (own_om r2 aE aM)), .val (.int (1 : Int32)), .unset] [(.ref aO)])) rfl (by rw [hml]; rfl) (Steps.refl _) (argsL := []) (rest := []) (lenOf pd_1 rfl) rfl (by show 2 * 0 + _ ≤ _; exact Nat.le_of_eq rfl) (hb hby at_50) (fun _ _ => ⟨rfl, e7, (by decide : 0 + 0 ≤ _), (by decide : 0 + 0 ≤ _)⟩)
    dsimp only [Pt.U, Pt.locs, Pt.cells, Pt.slots] at X8 l8 y8 z8 st8 hQ8
    subst l8 y8 z8
    obtain ⟨rfl, Nq8, hh8⟩ := hQ8
    have N8 := Fr.app N5 Nq8
    refine own_via (fun t k => st8.trans k) ?_
    show own_G p.tables e below _ (T8.setTop (mkF m 53 #[.val (.int p1), .val (.int p2), .val (.ref r1), .val (.ref r2), .val (.int (own_om r1 aE aM)), .val (.int (own_om r2 aE aM)), .val (.int (1 : Int32)), .unset] [(.int (own_om aO aE aM))]))
    refine own_via (S' := T8.setTop (mkF m 56 #[.val (.int p1), .val (.int p2), .val (.ref r1), .val (.ref r2), .val (.int (own_om r1 aE aM)), .val (.int (own_om r2 aE aM)), .val (.int (1 : Int32)), .unset] [])) (fun t k => XS.ifNo (g := (mkF m 53 #[.val (.int p1), .val (.int p2), .val (.ref r1), .val (.ref r2), .val (.int (own_om r1 aE aM)), .val (.int (own_om r2 aE aM)), .val (.int (1 : Int32)), .unset] [(.int (own_om aO aE aM))])) X8.here hx rfl (hb hby at_53) rfl ((if0 _ _).trans (teq (by unfold own_om; grind)).2) k) ?_
    obtain ⟨T10, X10, e10, st10⟩ := getS2 X8 hx hZ hown (host := "") (Or.inl (hw _ (List.mem_of_getElem? (i := 34) rfl))) Via.refl hh8 S_aE (g := (mkF m 56 #[.val (.int p1), .val (.int p2), .val (.ref r1), .val (.ref r2), .val (.int (own_om r1 aE aM)), .val (.int (own_om r2 aE aM)), .val (.int (1 : Int32)), .unset] [])) rfl (hb hby at_56)
    refine own_via st10 ?_
    show own_G p.tables e below _ (T10.setTop (mkF m 59 #[.val (.int p1), .val (.int p2), .val (.ref r1), .val (.ref r2), .val (.int (own_om r1 aE aM)), .val (.int (own_om r2 aE aM)), .val (.int (1 : Int32)), .unset] [(.ref aE)]))
    obtain ⟨cq11, kq11, q11a, q11b, q11c⟩ := isOf hZ e10 E_aE
    obtain ⟨_, _, ⟨T11, L11, k11, n11⟩, -, X11, ⟨Lc11, hQ11, l11, y11, z11⟩, st11⟩ := X10.virtualBack hx (y := (⟨"com/example/midstream/midstream/core/Fanout", "oneToMany", "()Z"⟩ : MethodName)) (z := (⟨"com/example/midstream/midstream/core/Fanout", "oneToMany", "()Z"⟩ : MethodName)) hown (mvT hZ (hw _ (List.mem_of_getElem? (i := 9) rfl))) (mvT hZ (hw _ (List.mem_of_getElem? (i := 10) rfl))) (notFace_of_selects (args := #[]) (mvT hZ (hw _ (List.mem_of_getElem? (i := 12) rfl)))) (mvT hZ (hw _ (List.mem_of_getElem? (i := 12) rfl))) (mvT hZ (hw _ (List.mem_of_getElem? (i := 11) rfl))) (by decide) (backOf (W := 0) (rm2 l Z a0 hw [] aE aE aM h0 n0 Z0 S_aE S_aM) hZ (hw _ (List.mem_of_getElem? (i := 13) rfl)) (hw _ (List.mem_of_getElem? (i := 5) rfl)) (by decide) (by decide)) q11a q11c (g := (mkF m 59 #[.val (.int p1), .val (.int p2), .val (.ref r1), .val (.ref r2), .val (.int (own_om r1 aE aM)), .val (.int (own_om r2 aE aM)), .val (.int (1 : Int32)), .unset] [(.ref aE)])) rfl (by rw [hml]; rfl) (Steps.refl _) (argsL := []) (rest := []) (lenOf pd_1 rfl) rfl (by show 2 * 0 + _ ≤ _; exact Nat.le_of_eq rfl) (hb hby at_59) (fun _ _ => ⟨rfl, e10, (by decide : 0 + 0 ≤ _), (by decide : 0 + 0 ≤ _)⟩)
    dsimp only [Pt.U, Pt.locs, Pt.cells, Pt.slots] at X11 l11 y11 z11 st11 hQ11
    subst l11 y11 z11
    obtain ⟨rfl, Nq11, hh11⟩ := hQ11
    have N11 := Fr.app N8 Nq11
    refine own_via (fun t k => st11.trans k) ?_
    show own_G p.tables e below _ (T11.setTop (mkF m 62 #[.val (.int p1), .val (.int p2), .val (.ref r1), .val (.ref r2), .val (.int (own_om r1 aE aM)), .val (.int (own_om r2 aE aM)), .val (.int (1 : Int32)), .unset] [(.int (own_om aE aE aM))]))
    refine own_via (S' := T11.setTop (mkF m 65 #[.val (.int p1), .val (.int p2), .val (.ref r1), .val (.ref r2), .val (.int (own_om r1 aE aM)), .val (.int (own_om r2 aE aM)), .val (.int (1 : Int32)), .unset] [])) (fun t k => XS.ifNo (g := (mkF m 62 #[.val (.int p1), .val (.int p2), .val (.ref r1), .val (.ref r2), .val (.int (own_om r1 aE aM)), .val (.int (own_om r2 aE aM)), .val (.int (1 : Int32)), .unset] [(.int (own_om aE aE aM))])) X11.here hx rfl (hb hby at_62) rfl ((if0 _ _).trans (feq (by unfold own_om; grind)).1) k) ?_
    refine own_via (S' := T11.setTop (mkF m 74 #[.val (.int p1), .val (.int p2), .val (.ref r1), .val (.ref r2), .val (.int (own_om r1 aE aM)), .val (.int (own_om r2 aE aM)), .val (.int (1 : Int32)), .val (.int (1 : Int32))] [(.int (1 : Int32))])) (fun t k => ?_) ?_
    · show Steps p.tables e below (T11.setTop (mkF m 65 #[.val (.int p1), .val (.int p2), .val (.ref r1), .val (.ref r2), .val (.int (own_om r1 aE aM)), .val (.int (own_om r2 aE aM)), .val (.int (1 : Int32)), .unset] [])) t
      refine XS.iconst X11.here hx rfl (hb hby at_65) ?_
      show Steps p.tables e below (T11.setTop (mkF m 66 #[.val (.int p1), .val (.int p2), .val (.ref r1), .val (.ref r2), .val (.int (own_om r1 aE aM)), .val (.int (own_om r2 aE aM)), .val (.int (1 : Int32)), .unset] [(.int (1 : Int32))])) t
      refine XS.goto X11.here hx rfl (pc0 := 66) (pc' := 70) rfl (hb hby at_66) (by decide) (by decide) ?_
      show Steps p.tables e below (T11.setTop (mkF m 70 #[.val (.int p1), .val (.int p2), .val (.ref r1), .val (.ref r2), .val (.int (own_om r1 aE aM)), .val (.int (own_om r2 aE aM)), .val (.int (1 : Int32)), .unset] [(.int (1 : Int32))])) t
      refine XS.istore X11.here hx rfl (hb hby at_70) rfl (l' := #[.val (.int p1), .val (.int p2), .val (.ref r1), .val (.ref r2), .val (.int (own_om r1 aE aM)), .val (.int (own_om r2 aE aM)), .val (.int (1 : Int32)), .val (.int (1 : Int32))]) rfl ?_
      show Steps p.tables e below (T11.setTop (mkF m 72 #[.val (.int p1), .val (.int p2), .val (.ref r1), .val (.ref r2), .val (.int (own_om r1 aE aM)), .val (.int (own_om r2 aE aM)), .val (.int (1 : Int32)), .val (.int (1 : Int32))] [])) t
      refine XS.iload X11.here hx rfl (hb hby at_72) rfl ?_
      exact k
    refine own_via (S' := T11.setTop (mkF m 77 #[.val (.int p1), .val (.int p2), .val (.ref r1), .val (.ref r2), .val (.int (own_om r1 aE aM)), .val (.int (own_om r2 aE aM)), .val (.int (1 : Int32)), .val (.int (1 : Int32))] [])) (fun t k => XS.ifNo (g := (mkF m 74 #[.val (.int p1), .val (.int p2), .val (.ref r1), .val (.ref r2), .val (.int (own_om r1 aE aM)), .val (.int (own_om r2 aE aM)), .val (.int (1 : Int32)), .val (.int (1 : Int32))] [(.int (1 : Int32))])) X11.here hx rfl (hb hby at_74) rfl ((if0 _ _).trans (feq (by decide : ¬ ((1 : Int32) = (0 : Int32)))).1) k) ?_
    refine own_via (S' := T11.setTop (mkF m 79 #[.val (.int p1), .val (.int p2), .val (.ref r1), .val (.ref r2), .val (.int (own_om r1 aE aM)), .val (.int (own_om r2 aE aM)), .val (.int (1 : Int32)), .val (.int (1 : Int32))] [(.int (1 : Int32))])) (fun t k => ?_) ?_
    · show Steps p.tables e below (T11.setTop (mkF m 77 #[.val (.int p1), .val (.int p2), .val (.ref r1), .val (.ref r2), .val (.int (own_om r1 aE aM)), .val (.int (own_om r2 aE aM)), .val (.int (1 : Int32)), .val (.int (1 : Int32))] [])) t
      refine XS.iload X11.here hx rfl (hb hby at_77) rfl ?_
      exact k
    refine own_via (S' := T11.setTop (mkF m 82 #[.val (.int p1), .val (.int p2), .val (.ref r1), .val (.ref r2), .val (.int (own_om r1 aE aM)), .val (.int (own_om r2 aE aM)), .val (.int (1 : Int32)), .val (.int (1 : Int32))] [])) (fun t k => XS.ifNo (g := (mkF m 79 #[.val (.int p1), .val (.int p2), .val (.ref r1), .val (.ref r2), .val (.int (own_om r1 aE aM)), .val (.int (own_om r2 aE aM)), .val (.int (1 : Int32)), .val (.int (1 : Int32))] [(.int (1 : Int32))])) X11.here hx rfl (hb hby at_79) rfl ((if0 _ _).trans (feq (by decide : ¬ ((1 : Int32) = (0 : Int32)))).1) k) ?_
    refine own_via (S' := T11.setTop (mkF m 87 #[.val (.int p1), .val (.int p2), .val (.ref r1), .val (.ref r2), .val (.int (own_om r1 aE aM)), .val (.int (own_om r2 aE aM)), .val (.int (1 : Int32)), .val (.int (1 : Int32))] [(.int (1 : Int32))])) (fun t k => ?_) ?_
    · show Steps p.tables e below (T11.setTop (mkF m 82 #[.val (.int p1), .val (.int p2), .val (.ref r1), .val (.ref r2), .val (.int (own_om r1 aE aM)), .val (.int (own_om r2 aE aM)), .val (.int (1 : Int32)), .val (.int (1 : Int32))] [])) t
      refine XS.iconst X11.here hx rfl (hb hby at_82) ?_
      show Steps p.tables e below (T11.setTop (mkF m 83 #[.val (.int p1), .val (.int p2), .val (.ref r1), .val (.ref r2), .val (.int (own_om r1 aE aM)), .val (.int (own_om r2 aE aM)), .val (.int (1 : Int32)), .val (.int (1 : Int32))] [(.int (1 : Int32))])) t
      refine XS.goto X11.here hx rfl (pc0 := 83) (pc' := 87) rfl (hb hby at_83) (by decide) (by decide) ?_
      exact k
    exact own_end (h := h0) X11 (v := some (.int (1 : Int32))) Bd.notSynchronized (fun h => by rw [Bd.returns] at h; cases h) (fun fs hr => retN X11 hx (t := .boolean) Bd.returns (by simp) (hb hby at_87) hr) hh11 ⟨rfl, N11⟩ (by decide) (by decide)
  · refine own_via (S' := T5.setTop (mkF m 30 #[.val (.int p1), .val (.int p2), .val (.ref r1), .val (.ref r2), .val (.int (own_om r1 aE aM)), .val (.int (own_om r2 aE aM)), .unset, .unset] [])) (fun t k => XS.ifNo (g := (mkF m 27 #[.val (.int p1), .val (.int p2), .val (.ref r1), .val (.ref r2), .val (.int (own_om r1 aE aM)), .val (.int (own_om r2 aE aM)), .unset, .unset] [(.int (o1 - o2))])) X5.here hx rfl (hb hby at_27) rfl ((if0 _ _).trans (flt hc27_6).2.2.1) k) ?_
    refine own_via (S' := T5.setTop (mkF m 32 #[.val (.int p1), .val (.int p2), .val (.ref r1), .val (.ref r2), .val (.int (own_om r1 aE aM)), .val (.int (own_om r2 aE aM)), .unset, .unset] [(.int (own_om r1 aE aM))])) (fun t k => ?_) ?_
    · show Steps p.tables e below (T5.setTop (mkF m 30 #[.val (.int p1), .val (.int p2), .val (.ref r1), .val (.ref r2), .val (.int (own_om r1 aE aM)), .val (.int (own_om r2 aE aM)), .unset, .unset] [])) t
      refine XS.iload X5.here hx rfl (hb hby at_30) rfl ?_
      exact k
    by_cases hc32_15 : (own_om r1 aE aM) = (0 : Int32)
    · refine own_via (S' := T5.setTop (mkF m 40 #[.val (.int p1), .val (.int p2), .val (.ref r1), .val (.ref r2), .val (.int (own_om r1 aE aM)), .val (.int (own_om r2 aE aM)), .unset, .unset] [])) (fun t k => XS.ifYes (g := (mkF m 32 #[.val (.int p1), .val (.int p2), .val (.ref r1), .val (.ref r2), .val (.int (own_om r1 aE aM)), .val (.int (own_om r2 aE aM)), .unset, .unset] [(.int (own_om r1 aE aM))])) X5.here hx rfl (pc0 := 32) (pc' := 40) rfl (hb hby at_32) rfl ((if0 _ _).trans (teq hc32_15).1) (by decide) (by decide) k) ?_
      refine own_via (S' := T5.setTop (mkF m 47 #[.val (.int p1), .val (.int p2), .val (.ref r1), .val (.ref r2), .val (.int (own_om r1 aE aM)), .val (.int (own_om r2 aE aM)), .val (.int (1 : Int32)), .unset] [])) (fun t k => ?_) ?_
      · show Steps p.tables e below (T5.setTop (mkF m 40 #[.val (.int p1), .val (.int p2), .val (.ref r1), .val (.ref r2), .val (.int (own_om r1 aE aM)), .val (.int (own_om r2 aE aM)), .unset, .unset] [])) t
        refine XS.iconst X5.here hx rfl (hb hby at_40) ?_
        show Steps p.tables e below (T5.setTop (mkF m 41 #[.val (.int p1), .val (.int p2), .val (.ref r1), .val (.ref r2), .val (.int (own_om r1 aE aM)), .val (.int (own_om r2 aE aM)), .unset, .unset] [(.int (1 : Int32))])) t
        refine XS.goto X5.here hx rfl (pc0 := 41) (pc' := 45) rfl (hb hby at_41) (by decide) (by decide) ?_
        show Steps p.tables e below (T5.setTop (mkF m 45 #[.val (.int p1), .val (.int p2), .val (.ref r1), .val (.ref r2), .val (.int (own_om r1 aE aM)), .val (.int (own_om r2 aE aM)), .unset, .unset] [(.int (1 : Int32))])) t
        refine XS.istore X5.here hx rfl (hb hby at_45) rfl (l' := #[.val (.int p1), .val (.int p2), .val (.ref r1), .val (.ref r2), .val (.int (own_om r1 aE aM)), .val (.int (own_om r2 aE aM)), .val (.int (1 : Int32)), .unset]) rfl ?_
        exact k
      obtain ⟨T16, X16, e16, st16⟩ := getS2 X5 hx hZ hown (host := "") (Or.inl (hw _ (List.mem_of_getElem? (i := 32) rfl))) Via.refl hh5 S_aO (g := (mkF m 47 #[.val (.int p1), .val (.int p2), .val (.ref r1), .val (.ref r2), .val (.int (own_om r1 aE aM)), .val (.int (own_om r2 aE aM)), .val (.int (1 : Int32)), .unset] [])) rfl (hb hby at_47)
      refine own_via st16 ?_
      show own_G p.tables e below _ (T16.setTop (mkF m 50 #[.val (.int p1), .val (.int p2), .val (.ref r1), .val (.ref r2), .val (.int (own_om r1 aE aM)), .val (.int (own_om r2 aE aM)), .val (.int (1 : Int32)), .unset] [(.ref aO)]))
      obtain ⟨cq17, kq17, q17a, q17b, q17c⟩ := isOf hZ e16 E_aO
      obtain ⟨_, _, ⟨T17, L17, k17, n17⟩, -, X17, ⟨Lc17, hQ17, l17, y17, z17⟩, st17⟩ := X16.virtualBack hx (y := (⟨"com/example/midstream/midstream/core/Fanout", "oneToMany", "()Z"⟩ : MethodName)) (z := (⟨"com/example/midstream/midstream/core/Fanout", "oneToMany", "()Z"⟩ : MethodName)) hown (mvT hZ (hw _ (List.mem_of_getElem? (i := 9) rfl))) (mvT hZ (hw _ (List.mem_of_getElem? (i := 10) rfl))) (notFace_of_selects (args := #[]) (mvT hZ (hw _ (List.mem_of_getElem? (i := 12) rfl)))) (mvT hZ (hw _ (List.mem_of_getElem? (i := 12) rfl))) (mvT hZ (hw _ (List.mem_of_getElem? (i := 11) rfl))) (by decide) (backOf (W := 0) (rm2 l Z a0 hw [] aO aE aM h0 n0 Z0 S_aE S_aM) hZ (hw _ (List.mem_of_getElem? (i := 13) rfl)) (hw _ (List.mem_of_getElem? (i := 5) rfl)) (by decide) (by decide)) q17a q17c (g := (mkF m 50 #[.val (.int p1), .val (.int p2), .val (.ref r1), .val (.ref r2), .val (.int (own_om r1 aE aM)), .val (.int (own_om r2 aE aM)), .val (.int (1 : Int32)), .unset] [(.ref aO)])) rfl (by rw [hml]; rfl) (Steps.refl _) (argsL := []) (rest := []) (lenOf pd_1 rfl) rfl (by show 2 * 0 + _ ≤ _; exact Nat.le_of_eq rfl) (hb hby at_50) (fun _ _ => ⟨rfl, e16, (by decide : 0 + 0 ≤ _), (by decide : 0 + 0 ≤ _)⟩)
      dsimp only [Pt.U, Pt.locs, Pt.cells, Pt.slots] at X17 l17 y17 z17 st17 hQ17
      subst l17 y17 z17
      obtain ⟨rfl, Nq17, hh17⟩ := hQ17
      have N17 := Fr.app N5 Nq17
      refine own_via (fun t k => st17.trans k) ?_
      show own_G p.tables e below _ (T17.setTop (mkF m 53 #[.val (.int p1), .val (.int p2), .val (.ref r1), .val (.ref r2), .val (.int (own_om r1 aE aM)), .val (.int (own_om r2 aE aM)), .val (.int (1 : Int32)), .unset] [(.int (own_om aO aE aM))]))
      refine own_via (S' := T17.setTop (mkF m 56 #[.val (.int p1), .val (.int p2), .val (.ref r1), .val (.ref r2), .val (.int (own_om r1 aE aM)), .val (.int (own_om r2 aE aM)), .val (.int (1 : Int32)), .unset] [])) (fun t k => XS.ifNo (g := (mkF m 53 #[.val (.int p1), .val (.int p2), .val (.ref r1), .val (.ref r2), .val (.int (own_om r1 aE aM)), .val (.int (own_om r2 aE aM)), .val (.int (1 : Int32)), .unset] [(.int (own_om aO aE aM))])) X17.here hx rfl (hb hby at_53) rfl ((if0 _ _).trans (teq (by unfold own_om; grind)).2) k) ?_
      obtain ⟨T19, X19, e19, st19⟩ := getS2 X17 hx hZ hown (host := "") (Or.inl (hw _ (List.mem_of_getElem? (i := 34) rfl))) Via.refl hh17 S_aE (g := (mkF m 56 #[.val (.int p1), .val (.int p2), .val (.ref r1), .val (.ref r2), .val (.int (own_om r1 aE aM)), .val (.int (own_om r2 aE aM)), .val (.int (1 : Int32)), .unset] [])) rfl (hb hby at_56)
      refine own_via st19 ?_
      show own_G p.tables e below _ (T19.setTop (mkF m 59 #[.val (.int p1), .val (.int p2), .val (.ref r1), .val (.ref r2), .val (.int (own_om r1 aE aM)), .val (.int (own_om r2 aE aM)), .val (.int (1 : Int32)), .unset] [(.ref aE)]))
      obtain ⟨cq20, kq20, q20a, q20b, q20c⟩ := isOf hZ e19 E_aE
      obtain ⟨_, _, ⟨T20, L20, k20, n20⟩, -, X20, ⟨Lc20, hQ20, l20, y20, z20⟩, st20⟩ := X19.virtualBack hx (y := (⟨"com/example/midstream/midstream/core/Fanout", "oneToMany", "()Z"⟩ : MethodName)) (z := (⟨"com/example/midstream/midstream/core/Fanout", "oneToMany", "()Z"⟩ : MethodName)) hown (mvT hZ (hw _ (List.mem_of_getElem? (i := 9) rfl))) (mvT hZ (hw _ (List.mem_of_getElem? (i := 10) rfl))) (notFace_of_selects (args := #[]) (mvT hZ (hw _ (List.mem_of_getElem? (i := 12) rfl)))) (mvT hZ (hw _ (List.mem_of_getElem? (i := 12) rfl))) (mvT hZ (hw _ (List.mem_of_getElem? (i := 11) rfl))) (by decide) (backOf (W := 0) (rm2 l Z a0 hw [] aE aE aM h0 n0 Z0 S_aE S_aM) hZ (hw _ (List.mem_of_getElem? (i := 13) rfl)) (hw _ (List.mem_of_getElem? (i := 5) rfl)) (by decide) (by decide)) q20a q20c (g := (mkF m 59 #[.val (.int p1), .val (.int p2), .val (.ref r1), .val (.ref r2), .val (.int (own_om r1 aE aM)), .val (.int (own_om r2 aE aM)), .val (.int (1 : Int32)), .unset] [(.ref aE)])) rfl (by rw [hml]; rfl) (Steps.refl _) (argsL := []) (rest := []) (lenOf pd_1 rfl) rfl (by show 2 * 0 + _ ≤ _; exact Nat.le_of_eq rfl) (hb hby at_59) (fun _ _ => ⟨rfl, e19, (by decide : 0 + 0 ≤ _), (by decide : 0 + 0 ≤ _)⟩)
      dsimp only [Pt.U, Pt.locs, Pt.cells, Pt.slots] at X20 l20 y20 z20 st20 hQ20
      subst l20 y20 z20
      obtain ⟨rfl, Nq20, hh20⟩ := hQ20
      have N20 := Fr.app N17 Nq20
      refine own_via (fun t k => st20.trans k) ?_
      show own_G p.tables e below _ (T20.setTop (mkF m 62 #[.val (.int p1), .val (.int p2), .val (.ref r1), .val (.ref r2), .val (.int (own_om r1 aE aM)), .val (.int (own_om r2 aE aM)), .val (.int (1 : Int32)), .unset] [(.int (own_om aE aE aM))]))
      refine own_via (S' := T20.setTop (mkF m 65 #[.val (.int p1), .val (.int p2), .val (.ref r1), .val (.ref r2), .val (.int (own_om r1 aE aM)), .val (.int (own_om r2 aE aM)), .val (.int (1 : Int32)), .unset] [])) (fun t k => XS.ifNo (g := (mkF m 62 #[.val (.int p1), .val (.int p2), .val (.ref r1), .val (.ref r2), .val (.int (own_om r1 aE aM)), .val (.int (own_om r2 aE aM)), .val (.int (1 : Int32)), .unset] [(.int (own_om aE aE aM))])) X20.here hx rfl (hb hby at_62) rfl ((if0 _ _).trans (feq (by unfold own_om; grind)).1) k) ?_
      refine own_via (S' := T20.setTop (mkF m 74 #[.val (.int p1), .val (.int p2), .val (.ref r1), .val (.ref r2), .val (.int (own_om r1 aE aM)), .val (.int (own_om r2 aE aM)), .val (.int (1 : Int32)), .val (.int (1 : Int32))] [(.int (1 : Int32))])) (fun t k => ?_) ?_
      · show Steps p.tables e below (T20.setTop (mkF m 65 #[.val (.int p1), .val (.int p2), .val (.ref r1), .val (.ref r2), .val (.int (own_om r1 aE aM)), .val (.int (own_om r2 aE aM)), .val (.int (1 : Int32)), .unset] [])) t
        refine XS.iconst X20.here hx rfl (hb hby at_65) ?_
        show Steps p.tables e below (T20.setTop (mkF m 66 #[.val (.int p1), .val (.int p2), .val (.ref r1), .val (.ref r2), .val (.int (own_om r1 aE aM)), .val (.int (own_om r2 aE aM)), .val (.int (1 : Int32)), .unset] [(.int (1 : Int32))])) t
        refine XS.goto X20.here hx rfl (pc0 := 66) (pc' := 70) rfl (hb hby at_66) (by decide) (by decide) ?_
        show Steps p.tables e below (T20.setTop (mkF m 70 #[.val (.int p1), .val (.int p2), .val (.ref r1), .val (.ref r2), .val (.int (own_om r1 aE aM)), .val (.int (own_om r2 aE aM)), .val (.int (1 : Int32)), .unset] [(.int (1 : Int32))])) t
        refine XS.istore X20.here hx rfl (hb hby at_70) rfl (l' := #[.val (.int p1), .val (.int p2), .val (.ref r1), .val (.ref r2), .val (.int (own_om r1 aE aM)), .val (.int (own_om r2 aE aM)), .val (.int (1 : Int32)), .val (.int (1 : Int32))]) rfl ?_
        show Steps p.tables e below (T20.setTop (mkF m 72 #[.val (.int p1), .val (.int p2), .val (.ref r1), .val (.ref r2), .val (.int (own_om r1 aE aM)), .val (.int (own_om r2 aE aM)), .val (.int (1 : Int32)), .val (.int (1 : Int32))] [])) t
        refine XS.iload X20.here hx rfl (hb hby at_72) rfl ?_
        exact k
      refine own_via (S' := T20.setTop (mkF m 77 #[.val (.int p1), .val (.int p2), .val (.ref r1), .val (.ref r2), .val (.int (own_om r1 aE aM)), .val (.int (own_om r2 aE aM)), .val (.int (1 : Int32)), .val (.int (1 : Int32))] [])) (fun t k => XS.ifNo (g := (mkF m 74 #[.val (.int p1), .val (.int p2), .val (.ref r1), .val (.ref r2), .val (.int (own_om r1 aE aM)), .val (.int (own_om r2 aE aM)), .val (.int (1 : Int32)), .val (.int (1 : Int32))] [(.int (1 : Int32))])) X20.here hx rfl (hb hby at_74) rfl ((if0 _ _).trans (feq (by decide : ¬ ((1 : Int32) = (0 : Int32)))).1) k) ?_
      refine own_via (S' := T20.setTop (mkF m 79 #[.val (.int p1), .val (.int p2), .val (.ref r1), .val (.ref r2), .val (.int (own_om r1 aE aM)), .val (.int (own_om r2 aE aM)), .val (.int (1 : Int32)), .val (.int (1 : Int32))] [(.int (1 : Int32))])) (fun t k => ?_) ?_
      · show Steps p.tables e below (T20.setTop (mkF m 77 #[.val (.int p1), .val (.int p2), .val (.ref r1), .val (.ref r2), .val (.int (own_om r1 aE aM)), .val (.int (own_om r2 aE aM)), .val (.int (1 : Int32)), .val (.int (1 : Int32))] [])) t
        refine XS.iload X20.here hx rfl (hb hby at_77) rfl ?_
        exact k
      refine own_via (S' := T20.setTop (mkF m 82 #[.val (.int p1), .val (.int p2), .val (.ref r1), .val (.ref r2), .val (.int (own_om r1 aE aM)), .val (.int (own_om r2 aE aM)), .val (.int (1 : Int32)), .val (.int (1 : Int32))] [])) (fun t k => XS.ifNo (g := (mkF m 79 #[.val (.int p1), .val (.int p2), .val (.ref r1), .val (.ref r2), .val (.int (own_om r1 aE aM)), .val (.int (own_om r2 aE aM)), .val (.int (1 : Int32)), .val (.int (1 : Int32))] [(.int (1 : Int32))])) X20.here hx rfl (hb hby at_79) rfl ((if0 _ _).trans (feq (by decide : ¬ ((1 : Int32) = (0 : Int32)))).1) k) ?_
      refine own_via (S' := T20.setTop (mkF m 87 #[.val (.int p1), .val (.int p2), .val (.ref r1), .val (.ref r2), .val (.int (own_om r1 aE aM)), .val (.int (own_om r2 aE aM)), .val (.int (1 : Int32)), .val (.int (1 : Int32))] [(.int (1 : Int32))])) (fun t k => ?_) ?_
      · show Steps p.tables e below (T20.setTop (mkF m 82 #[.val (.int p1), .val (.int p2), .val (.ref r1), .val (.ref r2), .val (.int (own_om r1 aE aM)), .val (.int (own_om r2 aE aM)), .val (.int (1 : Int32)), .val (.int (1 : Int32))] [])) t
        refine XS.iconst X20.here hx rfl (hb hby at_82) ?_
        show Steps p.tables e below (T20.setTop (mkF m 83 #[.val (.int p1), .val (.int p2), .val (.ref r1), .val (.ref r2), .val (.int (own_om r1 aE aM)), .val (.int (own_om r2 aE aM)), .val (.int (1 : Int32)), .val (.int (1 : Int32))] [(.int (1 : Int32))])) t
        refine XS.goto X20.here hx rfl (pc0 := 83) (pc' := 87) rfl (hb hby at_83) (by decide) (by decide) ?_
        exact k
      exact own_end (h := h0) X20 (v := some (.int (1 : Int32))) Bd.notSynchronized (fun h => by rw [Bd.returns] at h; cases h) (fun fs hr => retN X20 hx (t := .boolean) Bd.returns (by simp) (hb hby at_87) hr) hh20 ⟨rfl, N20⟩ (by decide) (by decide)
    · refine own_via (S' := T5.setTop (mkF m 35 #[.val (.int p1), .val (.int p2), .val (.ref r1), .val (.ref r2), .val (.int (own_om r1 aE aM)), .val (.int (own_om r2 aE aM)), .unset, .unset] [])) (fun t k => XS.ifNo (g := (mkF m 32 #[.val (.int p1), .val (.int p2), .val (.ref r1), .val (.ref r2), .val (.int (own_om r1 aE aM)), .val (.int (own_om r2 aE aM)), .unset, .unset] [(.int (own_om r1 aE aM))])) X5.here hx rfl (hb hby at_32) rfl ((if0 _ _).trans (feq hc32_15).1) k) ?_
      refine own_via (S' := T5.setTop (mkF m 37 #[.val (.int p1), .val (.int p2), .val (.ref r1), .val (.ref r2), .val (.int (own_om r1 aE aM)), .val (.int (own_om r2 aE aM)), .unset, .unset] [(.int (own_om r2 aE aM))])) (fun t k => ?_) ?_
      · show Steps p.tables e below (T5.setTop (mkF m 35 #[.val (.int p1), .val (.int p2), .val (.ref r1), .val (.ref r2), .val (.int (own_om r1 aE aM)), .val (.int (own_om r2 aE aM)), .unset, .unset] [])) t
        refine XS.iload X5.here hx rfl (hb hby at_35) rfl ?_
        exact k
      refine own_via (S' := T5.setTop (mkF m 40 #[.val (.int p1), .val (.int p2), .val (.ref r1), .val (.ref r2), .val (.int (own_om r1 aE aM)), .val (.int (own_om r2 aE aM)), .unset, .unset] [])) (fun t k => XS.ifNo (g := (mkF m 37 #[.val (.int p1), .val (.int p2), .val (.ref r1), .val (.ref r2), .val (.int (own_om r1 aE aM)), .val (.int (own_om r2 aE aM)), .unset, .unset] [(.int (own_om r2 aE aM))])) X5.here hx rfl (hb hby at_37) rfl ((if0 _ _).trans (feq (own_mono ho1 ho2 hr1 hr2 hc27_6 hc32_15)).1) k) ?_
      refine own_via (S' := T5.setTop (mkF m 47 #[.val (.int p1), .val (.int p2), .val (.ref r1), .val (.ref r2), .val (.int (own_om r1 aE aM)), .val (.int (own_om r2 aE aM)), .val (.int (1 : Int32)), .unset] [])) (fun t k => ?_) ?_
      · show Steps p.tables e below (T5.setTop (mkF m 40 #[.val (.int p1), .val (.int p2), .val (.ref r1), .val (.ref r2), .val (.int (own_om r1 aE aM)), .val (.int (own_om r2 aE aM)), .unset, .unset] [])) t
        refine XS.iconst X5.here hx rfl (hb hby at_40) ?_
        show Steps p.tables e below (T5.setTop (mkF m 41 #[.val (.int p1), .val (.int p2), .val (.ref r1), .val (.ref r2), .val (.int (own_om r1 aE aM)), .val (.int (own_om r2 aE aM)), .unset, .unset] [(.int (1 : Int32))])) t
        refine XS.goto X5.here hx rfl (pc0 := 41) (pc' := 45) rfl (hb hby at_41) (by decide) (by decide) ?_
        show Steps p.tables e below (T5.setTop (mkF m 45 #[.val (.int p1), .val (.int p2), .val (.ref r1), .val (.ref r2), .val (.int (own_om r1 aE aM)), .val (.int (own_om r2 aE aM)), .unset, .unset] [(.int (1 : Int32))])) t
        refine XS.istore X5.here hx rfl (hb hby at_45) rfl (l' := #[.val (.int p1), .val (.int p2), .val (.ref r1), .val (.ref r2), .val (.int (own_om r1 aE aM)), .val (.int (own_om r2 aE aM)), .val (.int (1 : Int32)), .unset]) rfl ?_
        exact k
      obtain ⟨T25, X25, e25, st25⟩ := getS2 X5 hx hZ hown (host := "") (Or.inl (hw _ (List.mem_of_getElem? (i := 32) rfl))) Via.refl hh5 S_aO (g := (mkF m 47 #[.val (.int p1), .val (.int p2), .val (.ref r1), .val (.ref r2), .val (.int (own_om r1 aE aM)), .val (.int (own_om r2 aE aM)), .val (.int (1 : Int32)), .unset] [])) rfl (hb hby at_47)
      refine own_via st25 ?_
      show own_G p.tables e below _ (T25.setTop (mkF m 50 #[.val (.int p1), .val (.int p2), .val (.ref r1), .val (.ref r2), .val (.int (own_om r1 aE aM)), .val (.int (own_om r2 aE aM)), .val (.int (1 : Int32)), .unset] [(.ref aO)]))
      obtain ⟨cq26, kq26, q26a, q26b, q26c⟩ := isOf hZ e25 E_aO
      obtain ⟨_, _, ⟨T26, L26, k26, n26⟩, -, X26, ⟨Lc26, hQ26, l26, y26, z26⟩, st26⟩ := X25.virtualBack hx (y := (⟨"com/example/midstream/midstream/core/Fanout", "oneToMany", "()Z"⟩ : MethodName)) (z := (⟨"com/example/midstream/midstream/core/Fanout", "oneToMany", "()Z"⟩ : MethodName)) hown (mvT hZ (hw _ (List.mem_of_getElem? (i := 9) rfl))) (mvT hZ (hw _ (List.mem_of_getElem? (i := 10) rfl))) (notFace_of_selects (args := #[]) (mvT hZ (hw _ (List.mem_of_getElem? (i := 12) rfl)))) (mvT hZ (hw _ (List.mem_of_getElem? (i := 12) rfl))) (mvT hZ (hw _ (List.mem_of_getElem? (i := 11) rfl))) (by decide) (backOf (W := 0) (rm2 l Z a0 hw [] aO aE aM h0 n0 Z0 S_aE S_aM) hZ (hw _ (List.mem_of_getElem? (i := 13) rfl)) (hw _ (List.mem_of_getElem? (i := 5) rfl)) (by decide) (by decide)) q26a q26c (g := (mkF m 50 #[.val (.int p1), .val (.int p2), .val (.ref r1), .val (.ref r2), .val (.int (own_om r1 aE aM)), .val (.int (own_om r2 aE aM)), .val (.int (1 : Int32)), .unset] [(.ref aO)])) rfl (by rw [hml]; rfl) (Steps.refl _) (argsL := []) (rest := []) (lenOf pd_1 rfl) rfl (by show 2 * 0 + _ ≤ _; exact Nat.le_of_eq rfl) (hb hby at_50) (fun _ _ => ⟨rfl, e25, (by decide : 0 + 0 ≤ _), (by decide : 0 + 0 ≤ _)⟩)
      dsimp only [Pt.U, Pt.locs, Pt.cells, Pt.slots] at X26 l26 y26 z26 st26 hQ26
      subst l26 y26 z26
      obtain ⟨rfl, Nq26, hh26⟩ := hQ26
      have N26 := Fr.app N5 Nq26
      refine own_via (fun t k => st26.trans k) ?_
      show own_G p.tables e below _ (T26.setTop (mkF m 53 #[.val (.int p1), .val (.int p2), .val (.ref r1), .val (.ref r2), .val (.int (own_om r1 aE aM)), .val (.int (own_om r2 aE aM)), .val (.int (1 : Int32)), .unset] [(.int (own_om aO aE aM))]))
      refine own_via (S' := T26.setTop (mkF m 56 #[.val (.int p1), .val (.int p2), .val (.ref r1), .val (.ref r2), .val (.int (own_om r1 aE aM)), .val (.int (own_om r2 aE aM)), .val (.int (1 : Int32)), .unset] [])) (fun t k => XS.ifNo (g := (mkF m 53 #[.val (.int p1), .val (.int p2), .val (.ref r1), .val (.ref r2), .val (.int (own_om r1 aE aM)), .val (.int (own_om r2 aE aM)), .val (.int (1 : Int32)), .unset] [(.int (own_om aO aE aM))])) X26.here hx rfl (hb hby at_53) rfl ((if0 _ _).trans (teq (by unfold own_om; grind)).2) k) ?_
      obtain ⟨T28, X28, e28, st28⟩ := getS2 X26 hx hZ hown (host := "") (Or.inl (hw _ (List.mem_of_getElem? (i := 34) rfl))) Via.refl hh26 S_aE (g := (mkF m 56 #[.val (.int p1), .val (.int p2), .val (.ref r1), .val (.ref r2), .val (.int (own_om r1 aE aM)), .val (.int (own_om r2 aE aM)), .val (.int (1 : Int32)), .unset] [])) rfl (hb hby at_56)
      refine own_via st28 ?_
      show own_G p.tables e below _ (T28.setTop (mkF m 59 #[.val (.int p1), .val (.int p2), .val (.ref r1), .val (.ref r2), .val (.int (own_om r1 aE aM)), .val (.int (own_om r2 aE aM)), .val (.int (1 : Int32)), .unset] [(.ref aE)]))
      obtain ⟨cq29, kq29, q29a, q29b, q29c⟩ := isOf hZ e28 E_aE
      obtain ⟨_, _, ⟨T29, L29, k29, n29⟩, -, X29, ⟨Lc29, hQ29, l29, y29, z29⟩, st29⟩ := X28.virtualBack hx (y := (⟨"com/example/midstream/midstream/core/Fanout", "oneToMany", "()Z"⟩ : MethodName)) (z := (⟨"com/example/midstream/midstream/core/Fanout", "oneToMany", "()Z"⟩ : MethodName)) hown (mvT hZ (hw _ (List.mem_of_getElem? (i := 9) rfl))) (mvT hZ (hw _ (List.mem_of_getElem? (i := 10) rfl))) (notFace_of_selects (args := #[]) (mvT hZ (hw _ (List.mem_of_getElem? (i := 12) rfl)))) (mvT hZ (hw _ (List.mem_of_getElem? (i := 12) rfl))) (mvT hZ (hw _ (List.mem_of_getElem? (i := 11) rfl))) (by decide) (backOf (W := 0) (rm2 l Z a0 hw [] aE aE aM h0 n0 Z0 S_aE S_aM) hZ (hw _ (List.mem_of_getElem? (i := 13) rfl)) (hw _ (List.mem_of_getElem? (i := 5) rfl)) (by decide) (by decide)) q29a q29c (g := (mkF m 59 #[.val (.int p1), .val (.int p2), .val (.ref r1), .val (.ref r2), .val (.int (own_om r1 aE aM)), .val (.int (own_om r2 aE aM)), .val (.int (1 : Int32)), .unset] [(.ref aE)])) rfl (by rw [hml]; rfl) (Steps.refl _) (argsL := []) (rest := []) (lenOf pd_1 rfl) rfl (by show 2 * 0 + _ ≤ _; exact Nat.le_of_eq rfl) (hb hby at_59) (fun _ _ => ⟨rfl, e28, (by decide : 0 + 0 ≤ _), (by decide : 0 + 0 ≤ _)⟩)
      dsimp only [Pt.U, Pt.locs, Pt.cells, Pt.slots] at X29 l29 y29 z29 st29 hQ29
      subst l29 y29 z29
      obtain ⟨rfl, Nq29, hh29⟩ := hQ29
      have N29 := Fr.app N26 Nq29
      refine own_via (fun t k => st29.trans k) ?_
      show own_G p.tables e below _ (T29.setTop (mkF m 62 #[.val (.int p1), .val (.int p2), .val (.ref r1), .val (.ref r2), .val (.int (own_om r1 aE aM)), .val (.int (own_om r2 aE aM)), .val (.int (1 : Int32)), .unset] [(.int (own_om aE aE aM))]))
      refine own_via (S' := T29.setTop (mkF m 65 #[.val (.int p1), .val (.int p2), .val (.ref r1), .val (.ref r2), .val (.int (own_om r1 aE aM)), .val (.int (own_om r2 aE aM)), .val (.int (1 : Int32)), .unset] [])) (fun t k => XS.ifNo (g := (mkF m 62 #[.val (.int p1), .val (.int p2), .val (.ref r1), .val (.ref r2), .val (.int (own_om r1 aE aM)), .val (.int (own_om r2 aE aM)), .val (.int (1 : Int32)), .unset] [(.int (own_om aE aE aM))])) X29.here hx rfl (hb hby at_62) rfl ((if0 _ _).trans (feq (by unfold own_om; grind)).1) k) ?_
      refine own_via (S' := T29.setTop (mkF m 74 #[.val (.int p1), .val (.int p2), .val (.ref r1), .val (.ref r2), .val (.int (own_om r1 aE aM)), .val (.int (own_om r2 aE aM)), .val (.int (1 : Int32)), .val (.int (1 : Int32))] [(.int (1 : Int32))])) (fun t k => ?_) ?_
      · show Steps p.tables e below (T29.setTop (mkF m 65 #[.val (.int p1), .val (.int p2), .val (.ref r1), .val (.ref r2), .val (.int (own_om r1 aE aM)), .val (.int (own_om r2 aE aM)), .val (.int (1 : Int32)), .unset] [])) t
        refine XS.iconst X29.here hx rfl (hb hby at_65) ?_
        show Steps p.tables e below (T29.setTop (mkF m 66 #[.val (.int p1), .val (.int p2), .val (.ref r1), .val (.ref r2), .val (.int (own_om r1 aE aM)), .val (.int (own_om r2 aE aM)), .val (.int (1 : Int32)), .unset] [(.int (1 : Int32))])) t
        refine XS.goto X29.here hx rfl (pc0 := 66) (pc' := 70) rfl (hb hby at_66) (by decide) (by decide) ?_
        show Steps p.tables e below (T29.setTop (mkF m 70 #[.val (.int p1), .val (.int p2), .val (.ref r1), .val (.ref r2), .val (.int (own_om r1 aE aM)), .val (.int (own_om r2 aE aM)), .val (.int (1 : Int32)), .unset] [(.int (1 : Int32))])) t
        refine XS.istore X29.here hx rfl (hb hby at_70) rfl (l' := #[.val (.int p1), .val (.int p2), .val (.ref r1), .val (.ref r2), .val (.int (own_om r1 aE aM)), .val (.int (own_om r2 aE aM)), .val (.int (1 : Int32)), .val (.int (1 : Int32))]) rfl ?_
        show Steps p.tables e below (T29.setTop (mkF m 72 #[.val (.int p1), .val (.int p2), .val (.ref r1), .val (.ref r2), .val (.int (own_om r1 aE aM)), .val (.int (own_om r2 aE aM)), .val (.int (1 : Int32)), .val (.int (1 : Int32))] [])) t
        refine XS.iload X29.here hx rfl (hb hby at_72) rfl ?_
        exact k
      refine own_via (S' := T29.setTop (mkF m 77 #[.val (.int p1), .val (.int p2), .val (.ref r1), .val (.ref r2), .val (.int (own_om r1 aE aM)), .val (.int (own_om r2 aE aM)), .val (.int (1 : Int32)), .val (.int (1 : Int32))] [])) (fun t k => XS.ifNo (g := (mkF m 74 #[.val (.int p1), .val (.int p2), .val (.ref r1), .val (.ref r2), .val (.int (own_om r1 aE aM)), .val (.int (own_om r2 aE aM)), .val (.int (1 : Int32)), .val (.int (1 : Int32))] [(.int (1 : Int32))])) X29.here hx rfl (hb hby at_74) rfl ((if0 _ _).trans (feq (by decide : ¬ ((1 : Int32) = (0 : Int32)))).1) k) ?_
      refine own_via (S' := T29.setTop (mkF m 79 #[.val (.int p1), .val (.int p2), .val (.ref r1), .val (.ref r2), .val (.int (own_om r1 aE aM)), .val (.int (own_om r2 aE aM)), .val (.int (1 : Int32)), .val (.int (1 : Int32))] [(.int (1 : Int32))])) (fun t k => ?_) ?_
      · show Steps p.tables e below (T29.setTop (mkF m 77 #[.val (.int p1), .val (.int p2), .val (.ref r1), .val (.ref r2), .val (.int (own_om r1 aE aM)), .val (.int (own_om r2 aE aM)), .val (.int (1 : Int32)), .val (.int (1 : Int32))] [])) t
        refine XS.iload X29.here hx rfl (hb hby at_77) rfl ?_
        exact k
      refine own_via (S' := T29.setTop (mkF m 82 #[.val (.int p1), .val (.int p2), .val (.ref r1), .val (.ref r2), .val (.int (own_om r1 aE aM)), .val (.int (own_om r2 aE aM)), .val (.int (1 : Int32)), .val (.int (1 : Int32))] [])) (fun t k => XS.ifNo (g := (mkF m 79 #[.val (.int p1), .val (.int p2), .val (.ref r1), .val (.ref r2), .val (.int (own_om r1 aE aM)), .val (.int (own_om r2 aE aM)), .val (.int (1 : Int32)), .val (.int (1 : Int32))] [(.int (1 : Int32))])) X29.here hx rfl (hb hby at_79) rfl ((if0 _ _).trans (feq (by decide : ¬ ((1 : Int32) = (0 : Int32)))).1) k) ?_
      refine own_via (S' := T29.setTop (mkF m 87 #[.val (.int p1), .val (.int p2), .val (.ref r1), .val (.ref r2), .val (.int (own_om r1 aE aM)), .val (.int (own_om r2 aE aM)), .val (.int (1 : Int32)), .val (.int (1 : Int32))] [(.int (1 : Int32))])) (fun t k => ?_) ?_
      · show Steps p.tables e below (T29.setTop (mkF m 82 #[.val (.int p1), .val (.int p2), .val (.ref r1), .val (.ref r2), .val (.int (own_om r1 aE aM)), .val (.int (own_om r2 aE aM)), .val (.int (1 : Int32)), .val (.int (1 : Int32))] [])) t
        refine XS.iconst X29.here hx rfl (hb hby at_82) ?_
        show Steps p.tables e below (T29.setTop (mkF m 83 #[.val (.int p1), .val (.int p2), .val (.ref r1), .val (.ref r2), .val (.int (own_om r1 aE aM)), .val (.int (own_om r2 aE aM)), .val (.int (1 : Int32)), .val (.int (1 : Int32))] [(.int (1 : Int32))])) t
        refine XS.goto X29.here hx rfl (pc0 := 83) (pc' := 87) rfl (hb hby at_83) (by decide) (by decide) ?_
        exact k
      exact own_end (h := h0) X29 (v := some (.int (1 : Int32))) Bd.notSynchronized (fun h => by rw [Bd.returns] at h; cases h) (fun fs hr => retN X29 hx (t := .boolean) Bd.returns (by simp) (hb hby at_87) hr) hh29 ⟨rfl, N29⟩ (by decide) (by decide)
set_option maxRecDepth 65536 in
set_option maxHeartbeats 40000000 in
theorem comes_1 {Post : Tables → Env → Array Value → State → Outcome → State → Prop} (hpost : ∀ tb e args s v u, (limb_1_1.after args s (.returned v) u = true ∧ limb_1_2.after args s (.returned v) u = true ∧ True) → FrameEnd s (.returned v) u (Jvm.fieldLocs frame_1_writes args s ++ Jvm.arrayLocs frame_1_arrays args s ++ Jvm.staticLocs frame_1_statics s) 0 0 → Post tb e args s (.returned v) u) :
    ArmFor flags0 classFile x code maxLocals ret World_1 tables_1 room_1 Calls_1 rest_1 Pre_1 Post := by
  intro l hfl _ _ p e ha hc hk s m args below hf hA hF happ hP
  obtain ⟨hcalls, hrest, hpre⟩ := hP
  obtain ⟨-, -, -, hnamed, -, -, -, hat⟩ := (Spec.applies_iff hf).mp happ
  obtain ⟨hg, hn⟩ := and_e (Cond.before_iff.mp (show (Jvm.Cond.and given_1 narrow_1).before args s = true from hpre))
  obtain ⟨hcount, hg0⟩ := and_e hg
  obtain ⟨ga0, hg1⟩ := and_e hg0
  have ga1 := hg1
  obtain ⟨w0, w1, rfl⟩ : ∃ w0 w1 : Value, args = #[w0, w1] := by
    have hs : args.size = 2 := by simpa [Cond.value, given_1] using hcount
    obtain ⟨L⟩ := args
    match L, hs with
    | [w0, w1], _ => exact ⟨w0, w1, rfl⟩
  have hw := fun d (hd : d ∈ tables_1) => atoms_spec (ws := Jvm.Cond.code x code maxLocals ret :: tables_1) hat d (List.mem_cons_of_mem _ hd)
  obtain ⟨i0, ei0⟩ := is_v ga0
  obtain rfl : w0 = (.int i0) := Option.some.inj ei0
  obtain ⟨i1, ei1⟩ := is_v ga1
  obtain rfl : w1 = (.int i1) := Option.some.inj ei1
  obtain ⟨nn1, nn2⟩ := and_e hn
  obtain ⟨nn3, nn4⟩ := and_e nn2
  obtain ⟨nn5, nn6⟩ := and_e nn4
  obtain ⟨nn7, nn8⟩ := and_e nn6
  obtain ⟨nn9, nn10⟩ := and_e nn8
  obtain ⟨nn11, nn12⟩ := and_e nn10
  obtain ⟨nn13, nn14⟩ := and_e nn12
  obtain ⟨a_ONE_PER_SOURCE_ROW, ev_ONE_PER_SOURCE_ROW⟩ := exa_v nn1
  have E_ONE_PER_SOURCE_ROW := Exa.start ev_ONE_PER_SOURCE_ROW nn1
  have S_ONE_PER_SOURCE_ROW := Sta.start ev_ONE_PER_SOURCE_ROW (Or.inr ⟨(hw _ (List.mem_of_getElem? (i := 5) rfl)), (hw _ (List.mem_of_getElem? (i := 6) rfl))⟩)
  obtain ⟨a_MANY, ev_MANY⟩ := exa_v nn3
  have E_MANY := Exa.start ev_MANY nn3
  have S_MANY := Sta.start ev_MANY (Or.inr ⟨(hw _ (List.mem_of_getElem? (i := 5) rfl)), (hw _ (List.mem_of_getElem? (i := 8) rfl))⟩)
  obtain ⟨a_ONE_PER_EDGE, ev_ONE_PER_EDGE⟩ := exa_v nn5
  have E_ONE_PER_EDGE := Exa.start ev_ONE_PER_EDGE nn5
  have S_ONE_PER_EDGE := Sta.start ev_ONE_PER_EDGE (Or.inr ⟨(hw _ (List.mem_of_getElem? (i := 5) rfl)), (hw _ (List.mem_of_getElem? (i := 15) rfl))⟩)
  obtain ⟨a_ONE, ev_ONE⟩ := exa_v nn13
  have E_ONE := Exa.start ev_ONE nn13
  have S_ONE := Sta.start ev_ONE (Or.inr ⟨(hw _ (List.mem_of_getElem? (i := 5) rfl)), (hw _ (List.mem_of_getElem? (i := 33) rfl))⟩)
  obtain ⟨yy_ONE_PER_SOURCE_ROW, e1_ONE_PER_SOURCE_ROW, e2_ONE_PER_SOURCE_ROW⟩ := Cond.eq_worth nn7
  obtain rfl : yy_ONE_PER_SOURCE_ROW = .int (0 : Int32) := Option.some.inj (e2_ONE_PER_SOURCE_ROW.symm.trans (Term.int_eval _))
  have F_ONE_PER_SOURCE_ROW := Fld.start ((fld_at ev_ONE_PER_SOURCE_ROW).symm.trans e1_ONE_PER_SOURCE_ROW)
  obtain ⟨yy_ONE_PER_EDGE, e1_ONE_PER_EDGE, e2_ONE_PER_EDGE⟩ := Cond.eq_worth nn9
  obtain rfl : yy_ONE_PER_EDGE = .int (2 : Int32) := Option.some.inj (e2_ONE_PER_EDGE.symm.trans (Term.int_eval _))
  have F_ONE_PER_EDGE := Fld.start ((fld_at ev_ONE_PER_EDGE).symm.trans e1_ONE_PER_EDGE)
  obtain ⟨yy_MANY, e1_MANY, e2_MANY⟩ := Cond.eq_worth nn11
  obtain rfl : yy_MANY = .int (3 : Int32) := Option.some.inj (e2_MANY.symm.trans (Term.int_eval _))
  have F_MANY := Fld.start ((fld_at ev_MANY).symm.trans e1_MANY)
  obtain ⟨yy_ONE, e1_ONE, e2_ONE⟩ := Cond.eq_worth nn14
  obtain rfl : yy_ONE = .int (1 : Int32) := Option.some.inj (e2_ONE.symm.trans (Term.int_eval _))
  have F_ONE := Fld.start ((fld_at ev_ONE).symm.trans e1_ONE)
  have ne_aS_aE : a_ONE_PER_SOURCE_ROW ≠ a_ONE_PER_EDGE := Fld.ne F_ONE_PER_SOURCE_ROW F_ONE_PER_EDGE (by decide)
  have ne_aS_aM : a_ONE_PER_SOURCE_ROW ≠ a_MANY := Fld.ne F_ONE_PER_SOURCE_ROW F_MANY (by decide)
  have ne_aO_aE : a_ONE ≠ a_ONE_PER_EDGE := Fld.ne F_ONE F_ONE_PER_EDGE (by decide)
  have ne_aO_aM : a_ONE ≠ a_MANY := Fld.ne F_ONE F_MANY (by decide)
  obtain ⟨cMM, kMM, mMM, MM1, MM2, MM3, -⟩ := hcalls.1
  obtain ⟨n, o, h1, h2, h3, _, L, rfl, ⟨rfl, N⟩, hq⟩ := rm0 l s _ hw tables_1 i0 i1 a_ONE_PER_SOURCE_ROW a_ONE a_ONE_PER_EDGE a_MANY mMM s.heap s.heap.size (Nat.le_refl _) S_ONE_PER_SOURCE_ROW S_ONE S_ONE_PER_EDGE S_MANY E_ONE_PER_SOURCE_ROW F_ONE_PER_SOURCE_ROW E_ONE F_ONE E_ONE_PER_EDGE F_ONE_PER_EDGE E_MANY F_MANY ne_aS_aE ne_aS_aM ne_aO_aE ne_aO_aM ⟨cMM, kMM, MM1, MM2, MM3⟩ p e ha hc hk s m _ below hf ((Spec.applies_iff_loose hf).mp happ).1 ⟨rfl, State.Warmed39.refl s, rfl⟩ trivial
  refine ⟨n, _, h1, h2, h3, hpost _ _ _ _ _ _ ⟨Cond.after_iff.mpr rfl, Cond.after_iff.mpr (eq_i res_at (Term.int_eval (1)) rfl), trivial⟩ ⟨hq.1, hq.2.1, (hq.2.2.sift fun y hy => Or.inr (N y hy)).mono (by decide) (by decide)⟩⟩
theorem main_1_1 : Claimed_1_1 := comes_1 fun _ _ _ _ _ _ h hF => ⟨h.1, hF⟩
theorem main_1_2 : Claimed_1_2 := comes_1 fun _ _ _ _ _ _ h hF => ⟨h.2.1, hF⟩
end Jvm.Pilot.@@N@@
namespace Jvm.Pilot.@@N@@
open Jvm Jvm.ClassFile Sem Op Lib Jvm.Free Jvm.Stand Jvm.Pilot.@@N@@.Jvm.D
/-! MADE BY PROGRAM (witnessworld.py) out of the Statement's table words and the real class files: 12 classes; the members and pool entries that the words name. The judged class is class 1, her method 2. -/
namespace start1
open Jvm.ClassFile
def u (s : String) : CpInfo := .utf8 (stringToUtf16 s)
/-- a pool by its gaps: so many unusable entries, then the entry; so many at the end -/
def gap : Nat → List CpInfo → List CpInfo
  | 0, r => r
  | n + 1, r => .unusable :: gap n r
def poolList (es : List (Nat × CpInfo)) (last : Nat) : List CpInfo := es.foldr (fun e r => gap e.1 (e.2 :: r)) (gap last [])
def pool (es : List (Nat × CpInfo)) (last : Nat) : Array CpInfo := ⟨poolList es last⟩
def fileOf (pool : Array CpInfo) (this : Nat) (attrs : Array Attribute := #[]) (ms : Array MethodInfo := #[]) (fl : Nat := 33) (sup : Nat := 0) (ifs : Array Nat := #[]) (fds : Array FieldInfo := #[]) : ClassFile where
  minorVersion := 0
  majorVersion := 65
  constantPool := pool
  accessFlags := fl
  thisClass := this
  superClass := sup
  interfaces := ifs
  fields := fds
  methods := ms
  attributes := attrs
def plain (name : String) (sup : Option ClassId) : Class where
  name := name
  kind := .ordinary
  loader := none
  accessFlags := 33
  super := sup
  interfaces := #[]
  cf := none
  fields := #[]
  methods := #[]
  instanceTypes := #[]
  staticTypes := #[]
  resolved := #[]
  callSites := []
  init := .initialized
  statics := none
  mirror := none

def pool0 : Array CpInfo := pool [(5, u "<init>"), (0, u "()V"), (1, .class_ 10), (1, u "java/lang/Object"), (0, u "getClass"), (0, u "()Ljava/lang/Class;")] 111

def k0m0 : Method := { name := "<init>", desc := "()V", sig := { parameters := [], returnType := none }, accessFlags := 1, code := none }
def k0m1 : Method := { name := "getClass", desc := "()Ljava/lang/Class;", sig := { parameters := [], returnType := some (.object "java/lang/Class") }, accessFlags := 273, code := none }
/-- java/lang/Object -/
def k0 : Class := { plain "java/lang/Object" none with
  accessFlags := 33
  interfaces := #[]
  cf := some (fileOf pool0 8 #[] #[{ accessFlags := 1, nameIndex := 5, descriptorIndex := 6, attributes := #[] }, { accessFlags := 273, nameIndex := 11, descriptorIndex := 12, attributes := #[] }] 33 0 #[] #[])
  fields := #[]
  methods := #[k0m0, k0m1]
  instanceTypes := #[]
  staticTypes := #[]
  resolved := Array.replicate 124 none
  statics := none }

def pool1 : Array CpInfo := pool [(2, .class_ 4), (1, u "java/lang/Object"), (0, u "<init>"), (0, u "()V"), (0, .fieldref 8 9), (0, .class_ 10), (0, .nameAndType 11 12), (0, u "com/example/midstream/midstream/core/Fanout"), (0, u "ONE_PER_SOURCE_ROW"), (0, u "Lcom/example/midstream/midstream/core/Fanout;"), (0, .fieldref 8 14), (0, .nameAndType 15 12), (0, u "ONE"), (0, .fieldref 8 17), (0, .nameAndType 18 12), (0, u "ONE_PER_EDGE"), (0, .fieldref 8 20), (0, .nameAndType 21 12), (0, u "MANY"), (0, .methodref 23 24), (0, .class_ 25), (0, .nameAndType 26 27), (0, u "com/example/midstream/midstream/core/FanoutOneToManyPinLaw"), (0, u "pick"), (0, u "(I)Lcom/example/midstream/midstream/core/Fanout;"), (0, .methodref 8 29), (0, .nameAndType 30 31), (0, u "oneToMany"), (0, u "()Z"), (0, .methodref 8 33), (0, .nameAndType 34 35), (0, u "compareTo"), (0, u "(Ljava/lang/Enum;)I"), (3, u "law"), (0, u "(II)Z")] 2

def k1m0 : Method := { name := "<init>", desc := "()V", sig := { parameters := [], returnType := none }, accessFlags := 1, code := none }
def k1c1 : Code := { maxStack := 2, maxLocals := 2, code := method_2_code, exceptionTable := #[], attributes := #[] }
def k1m1 : Method := { name := "pick", desc := "(I)Lcom/example/midstream/midstream/core/Fanout;", sig := { parameters := [.int], returnType := some (.object "com/example/midstream/midstream/core/Fanout") }, accessFlags := 10, code := some k1c1 }
def k1c2 : Code := { maxStack := 2, maxLocals := 8, code := code, exceptionTable := #[], attributes := #[] }
def k1m2 : Method := { name := "law", desc := "(II)Z", sig := { parameters := [.int, .int], returnType := some .boolean }, accessFlags := 9, code := some k1c2 }
/-- com/example/midstream/midstream/core/FanoutOneToManyPinLaw -/
def k1 : Class := { plain "com/example/midstream/midstream/core/FanoutOneToManyPinLaw" (some 0) with
  accessFlags := 49
  interfaces := #[]
  cf := some (fileOf pool1 23 #[] #[{ accessFlags := 1, nameIndex := 5, descriptorIndex := 6, attributes := #[] }, { accessFlags := 10, nameIndex := 26, descriptorIndex := 27, attributes := #[] }, { accessFlags := 9, nameIndex := 39, descriptorIndex := 40, attributes := #[] }] 49 2 #[] #[])
  fields := #[]
  methods := #[k1m0, k1m1, k1m2]
  instanceTypes := #[]
  staticTypes := #[]
  resolved := Array.replicate 43 none
  statics := none }

def pool2 : Array CpInfo := pool [(1, .class_ 2), (0, u "java/lang/constant/Constable"), (0, .class_ 4), (0, u "java/lang/Object")] 6

/-- java/lang/constant/Constable -/
def k2 : Class := { plain "java/lang/constant/Constable" (some 0) with
  accessFlags := 1537
  interfaces := #[]
  cf := some (fileOf pool2 1 #[] #[] 1537 3 #[] #[])
  fields := #[]
  methods := #[]
  instanceTypes := #[]
  staticTypes := #[]
  resolved := Array.replicate 11 none
  statics := none }

def pool3 : Array CpInfo := pool [(1, .class_ 2), (0, u "java/lang/Comparable"), (0, .class_ 4), (0, u "java/lang/Object")] 7

/-- java/lang/Comparable -/
def k3 : Class := { plain "java/lang/Comparable" (some 0) with
  accessFlags := 1537
  interfaces := #[]
  cf := some (fileOf pool3 1 #[] #[] 1537 3 #[] #[])
  fields := #[]
  methods := #[]
  instanceTypes := #[]
  staticTypes := #[]
  resolved := Array.replicate 12 none
  statics := none }

def pool4 : Array CpInfo := pool [(1, .class_ 2), (0, u "java/io/Serializable"), (0, .class_ 4), (0, u "java/lang/Object")] 2

/-- java/io/Serializable -/
def k4 : Class := { plain "java/io/Serializable" (some 0) with
  accessFlags := 1537
  interfaces := #[]
  cf := some (fileOf pool4 1 #[] #[] 1537 3 #[] #[])
  fields := #[]
  methods := #[]
  instanceTypes := #[]
  staticTypes := #[]
  resolved := Array.replicate 7 none
  statics := none }

def pool5 : Array CpInfo := pool [(2, .class_ 4), (1, u "java/lang/Enum"), (0, u "name"), (0, u "Ljava/lang/String;"), (0, .fieldref 2 8), (0, .nameAndType 9 10), (0, u "ordinal"), (0, u "I"), (1, .class_ 14), (1, u "java/lang/Object"), (4, u "hash"), (9, .methodref 12 30), (0, .nameAndType 31 32), (0, u "getClass"), (0, u "()Ljava/lang/Class;"), (70, u "compareTo"), (0, u "(Ljava/lang/Enum;)I"), (1, .class_ 108), (1, u "java/lang/Enum$EnumDesc"), (2, .class_ 112), (0, u "java/lang/constant/Constable"), (0, .class_ 114), (0, u "java/lang/Comparable"), (0, .class_ 116), (0, u "java/io/Serializable")] 87

def k5c0 : Code := { maxStack := 2, maxLocals := 4, code := jdk_37_method_8_code, exceptionTable := #[], attributes := #[] }
def k5m0 : Method := { name := "compareTo", desc := "(Ljava/lang/Enum;)I", sig := { parameters := [(.object "java/lang/Enum")], returnType := some .int }, accessFlags := 17, code := some k5c0 }
/-- java/lang/Enum -/
def k5 : Class := { plain "java/lang/Enum" (some 0) with
  accessFlags := 1057
  interfaces := #[2, 3, 4]
  cf := some (fileOf pool5 2 #[.nestMembers #[106]] #[{ accessFlags := 17, nameIndex := 103, descriptorIndex := 104, attributes := #[] }] 1057 12 #[111, 113, 115] #[{ accessFlags := 18, nameIndex := 5, descriptorIndex := 6, attributes := #[] }, { accessFlags := 18, nameIndex := 9, descriptorIndex := 10, attributes := #[] }, { accessFlags := 2, nameIndex := 19, descriptorIndex := 10, attributes := #[] }])
  fields := #[{ name := "name", type := (.object "java/lang/String"), accessFlags := 18, slot := 0, constantValue := 0 }, { name := "ordinal", type := .int, accessFlags := 18, slot := 1, constantValue := 0 }, { name := "hash", type := .int, accessFlags := 2, slot := 2, constantValue := 0 }]
  methods := #[k5m0]
  instanceTypes := #[(.object "java/lang/String"), .int, .int]
  staticTypes := #[]
  resolved := Array.replicate 204 none
  statics := none }

def pool6 : Array CpInfo := pool [(1, .class_ 2), (0, u "com/example/midstream/midstream/core/Fanout"), (2, u "ONE_PER_SOURCE_ROW"), (0, u "Lcom/example/midstream/midstream/core/Fanout;"), (2, u "ONE"), (0, .fieldref 1 11), (0, .nameAndType 12 6), (0, u "ONE_PER_EDGE"), (0, .fieldref 1 14), (0, .nameAndType 15 6), (0, u "MANY"), (2, u "$VALUES"), (0, u "[Lcom/example/midstream/midstream/core/Fanout;"), (6, .class_ 28), (1, u "java/lang/Enum"), (26, u "oneToMany"), (0, u "()Z")] 7

def k6c0 : Code := { maxStack := 2, maxLocals := 1, code := prog_2_method_4_code, exceptionTable := #[], attributes := #[] }
def k6m0 : Method := { name := "oneToMany", desc := "()Z", sig := { parameters := [], returnType := some .boolean }, accessFlags := 1, code := some k6c0 }
/-- com/example/midstream/midstream/core/Fanout -/
def k6 : Class := { plain "com/example/midstream/midstream/core/Fanout" (some 5) with
  accessFlags := 16433
  interfaces := #[]
  cf := some (fileOf pool6 1 #[] #[{ accessFlags := 1, nameIndex := 55, descriptorIndex := 56, attributes := #[] }] 16433 26 #[] #[{ accessFlags := 16409, nameIndex := 5, descriptorIndex := 6, attributes := #[] }, { accessFlags := 16409, nameIndex := 9, descriptorIndex := 6, attributes := #[] }, { accessFlags := 16409, nameIndex := 12, descriptorIndex := 6, attributes := #[] }, { accessFlags := 16409, nameIndex := 15, descriptorIndex := 6, attributes := #[] }, { accessFlags := 4122, nameIndex := 18, descriptorIndex := 19, attributes := #[] }])
  fields := #[{ name := "ONE_PER_SOURCE_ROW", type := (.object "com/example/midstream/midstream/core/Fanout"), accessFlags := 16409, slot := 0, constantValue := 0 }, { name := "ONE", type := (.object "com/example/midstream/midstream/core/Fanout"), accessFlags := 16409, slot := 1, constantValue := 0 }, { name := "ONE_PER_EDGE", type := (.object "com/example/midstream/midstream/core/Fanout"), accessFlags := 16409, slot := 2, constantValue := 0 }, { name := "MANY", type := (.object "com/example/midstream/midstream/core/Fanout"), accessFlags := 16409, slot := 3, constantValue := 0 }, { name := "$VALUES", type := (.array (.object "com/example/midstream/midstream/core/Fanout")), accessFlags := 4122, slot := 4, constantValue := 0 }]
  methods := #[k6m0]
  instanceTypes := #[(.object "java/lang/String"), .int, .int]
  staticTypes := #[(.object "com/example/midstream/midstream/core/Fanout"), (.object "com/example/midstream/midstream/core/Fanout"), (.object "com/example/midstream/midstream/core/Fanout"), (.object "com/example/midstream/midstream/core/Fanout"), (.array (.object "com/example/midstream/midstream/core/Fanout"))]
  resolved := Array.replicate 64 none
  mirror := some 1
  statics := some 0 }

def pool7 : Array CpInfo := pool [(1, u "java/lang/Cloneable"), (0, .class_ 1), (0, u "java/lang/Object"), (0, .class_ 3)] 3

/-- java/lang/Cloneable -/
def k7 : Class := { plain "java/lang/Cloneable" (some 0) with
  accessFlags := 1537
  interfaces := #[]
  cf := some (fileOf pool7 2 #[] #[] 1537 4 #[] #[])
  fields := #[]
  methods := #[]
  instanceTypes := #[]
  staticTypes := #[]
  resolved := Array.replicate 8 none
  statics := none }

/-- the primitive byte -/
def k8 : Class := { plain "byte" none with kind := .primitive 'B', accessFlags := 0x411 }
/-- [B -/
def k9 : Class := { plain "[B" (some 0) with kind := .array 8 .byte, interfaces := #[7, 4], accessFlags := 1041 }

/-- the primitive int -/
def k10 : Class := { plain "int" none with kind := .primitive 'I', accessFlags := 0x411 }
/-- [I -/
def k11 : Class := { plain "[I" (some 0) with kind := .array 10 .int, interfaces := #[7, 4], accessFlags := 1041 }

def heap : Heap := #[{ cls := 6, slots := #[.ref 2, .ref 3, .ref 4, .ref 5, .null], vm := .statics 6 },
  { cls := 0, slots := #[], vm := .mirror 6 },
  { cls := 6, slots := #[.null, .int 0, .int 0], vm := .none },
  { cls := 6, slots := #[.null, .int 1, .int 0], vm := .none },
  { cls := 6, slots := #[.null, .int 2, .int 0], vm := .none },
  { cls := 6, slots := #[.null, .int 3, .int 0], vm := .none }]
def classes : Array Class := #[k0, k1, k2, k3, k4, k5, k6, k7, k8, k9, k10, k11]
def interned : List (Array UInt16 × Addr) := []
def slotsUsed : Nat := 17
def theMethod : MethodId := ⟨1, 2⟩
def args0 : Array Value := #[.int 5, .int 7]
def aboutOver (below : List Frame) : State where
  vm := { classes := classes, interned := interned.toArray }
  heap := heap
  slotsUsed := slotsUsed
  threads := #[{ frames := .invoking theMethod args0 :: below }]
def below0 : List Frame := [.native { method := ⟨0, 0⟩, args := #[] }]
def about1 : State := aboutOver below0
def p0 : Program := .bare "" "" ""
def e0 : Env := launch0.env 0 0 0
theorem w_frames : about1.frames = Frame.invoking theMethod args0 :: below0 := rfl
set_option maxRecDepth 65536 in
theorem w_args : argsFit about1.vm theMethod args0 = true := by decide +kernel
set_option maxRecDepth 65536 in
theorem w_heap : heapFits about1 = true := by decide +kernel
set_option maxRecDepth 65536 in
theorem w_runnable : about1.curStatus? = some .runnable := by decide +kernel
set_option maxRecDepth 65536 in
theorem w_alone : about1.alone = true := by decide +kernel
set_option maxRecDepth 65536 in
theorem w_named : about1.methodNamed? x = some theMethod := by decide +kernel
set_option maxRecDepth 65536 in
theorem w_hears : about1.hears theMethod below0 = true := by decide +kernel
set_option maxRecDepth 65536 in
theorem w_ripe : about1.ripe theMethod args0 below0 = true := by decide +kernel
theorem w_running : about1.status = .running := rfl
set_option maxRecDepth 65536 in
theorem w_room : about1.hasRoom e0.platform room_1 = true :=
  launch0.hasRoom_least _ room_1 (by decide +kernel) (by decide +kernel) (by decide +kernel) (by decide +kernel) (by decide +kernel) (by decide +kernel)
theorem allAtoms_all (ts : List Jvm.Cond) (a : Array Jvm.Value) (st : Jvm.State) : (allAtoms ts).before a st = ts.all (fun c => c.before a st) := by
  induction ts with
  | nil => rfl
  | cons c t ih =>
    show (Jvm.Cond.and c (allAtoms t)).before a st = _
    rw [Jvm.Cond.before_and, ih, List.all_cons]
def words1 : List Jvm.Cond := Jvm.Cond.code x code maxLocals ret :: tables_1
/-- a 'code' word, met by the world's own term for the bytes: nothing is compared byte by byte -/
theorem code_word {y : MethodName} {bytes : ByteArray} {mx : Nat} {rt : Option FieldType} {a : Array Value} {s : State} {m : MethodId} {meth : Method} {c : Code} (h1 : s.methodNamed? y = some m) (h2 : s.vm.method? m = some meth) (h3 : meth.code = some c) (h4 : c.code = bytes)
    (h5 : (c.maxLocals == mx && c.exceptionTable.isEmpty && decide (c.maxStack ≤ mostOperands) && decide (meth.sig.returnType = rt) && !meth.locks && decide (parseMethodDescriptor y.desc = some meth.sig)) = true) : (Jvm.Cond.code y bytes mx rt).before a s = true := by
  simp only [Bool.and_eq_true, beq_iff_eq, Bool.not_eq_true', decide_eq_true_eq] at h5
  obtain ⟨⟨⟨⟨⟨g1, g2⟩, g3⟩, g4⟩, g5⟩, g6⟩ := h5
  simp [Cond.before, Cond.holds, Cond.value, h1, h2, h3, h4, g1, g2, g3, g4, g5, g6]
def isCode : Jvm.Cond → Bool
  | .code _ _ _ _ => true
  | _ => false
theorem all_split {L : List Jvm.Cond} {P : Jvm.Cond → Bool} (h1 : L.all (fun c => isCode c || P c) = true) (h2 : ∀ c ∈ L.filter isCode, P c = true) : L.all P = true := by
  refine List.all_eq_true.mpr fun c hc => ?_
  have h := List.all_eq_true.mp h1 c hc
  rcases Bool.eq_false_or_eq_true (isCode c) with hi | hi
  · exact h2 c (List.mem_filter.mpr ⟨hc, hi⟩)
  · simpa [hi] using h
set_option maxRecDepth 65536 in
theorem w_c0 : (Jvm.Cond.code x code maxLocals ret).before args0 about1 = true := code_word (m := ⟨1, 2⟩) (meth := k1m2) (c := k1c2) (by decide +kernel) rfl rfl rfl (by decide +kernel)
set_option maxRecDepth 65536 in
theorem w_c1 : (Jvm.Cond.code ({ cls := "com/example/midstream/midstream/core/FanoutOneToManyPinLaw", name := "pick", desc := "(I)Lcom/example/midstream/midstream/core/Fanout;" } : Jvm.MethodName) method_2_code (2 : Nat) (Option.some (Jvm.ClassFile.FieldType.object "com/example/midstream/midstream/core/Fanout"))).before args0 about1 = true := code_word (m := ⟨1, 1⟩) (meth := k1m1) (c := k1c1) (by decide +kernel) rfl rfl rfl (by decide +kernel)
set_option maxRecDepth 65536 in
theorem w_c2 : (Jvm.Cond.code ({ cls := "com/example/midstream/midstream/core/Fanout", name := "oneToMany", desc := "()Z" } : Jvm.MethodName) prog_2_method_4_code (1 : Nat) (Option.some Jvm.ClassFile.FieldType.boolean)).before args0 about1 = true := code_word (m := ⟨6, 0⟩) (meth := k6m0) (c := k6c0) (by decide +kernel) rfl rfl rfl (by decide +kernel)
set_option maxRecDepth 65536 in
theorem w_c3 : (Jvm.Cond.code ({ cls := "java/lang/Enum", name := "compareTo", desc := "(Ljava/lang/Enum;)I" } : Jvm.MethodName) jdk_37_method_8_code (4 : Nat) (Option.some Jvm.ClassFile.FieldType.int)).before args0 about1 = true := code_word (m := ⟨5, 0⟩) (meth := k5m0) (c := k5c0) (by decide +kernel) rfl rfl rfl (by decide +kernel)
def codes1 : List Jvm.Cond := [Jvm.Cond.code x code maxLocals ret, Jvm.Cond.code ({ cls := "com/example/midstream/midstream/core/FanoutOneToManyPinLaw", name := "pick", desc := "(I)Lcom/example/midstream/midstream/core/Fanout;" } : Jvm.MethodName) method_2_code (2 : Nat) (Option.some (Jvm.ClassFile.FieldType.object "com/example/midstream/midstream/core/Fanout")), Jvm.Cond.code ({ cls := "com/example/midstream/midstream/core/Fanout", name := "oneToMany", desc := "()Z" } : Jvm.MethodName) prog_2_method_4_code (1 : Nat) (Option.some Jvm.ClassFile.FieldType.boolean), Jvm.Cond.code ({ cls := "java/lang/Enum", name := "compareTo", desc := "(Ljava/lang/Enum;)I" } : Jvm.MethodName) jdk_37_method_8_code (4 : Nat) (Option.some Jvm.ClassFile.FieldType.int)]
set_option maxRecDepth 65536 in
theorem codes_eq : words1.filter isCode = codes1 := rfl
theorem w_codes : ∀ c ∈ words1.filter isCode, c.before args0 about1 = true := by
  rw [codes_eq]
  intro c hc
  simp only [codes1, List.mem_cons, List.not_mem_nil, or_false] at hc
  rcases hc with rfl | rfl | rfl | rfl
  · exact w_c0
  · exact w_c1
  · exact w_c2
  · exact w_c3
set_option maxRecDepth 65536 in
theorem w_t1 : (words1.take 24).all (fun c => isCode c || c.before args0 about1) = true := by decide +kernel
set_option maxRecDepth 65536 in
theorem w_t2 : (words1.drop 24).all (fun c => isCode c || c.before args0 about1) = true := by decide +kernel
theorem w_tables : (allAtoms (Jvm.Cond.code x code maxLocals ret :: tables_1)).before args0 about1 = true := by
  rw [allAtoms_all]
  show words1.all (fun c => c.before args0 about1) = true
  refine all_split ?_ w_codes
  rw [← List.take_append_drop 24 words1, List.all_append, w_t1, w_t2]
  rfl
set_option maxRecDepth 65536 in
theorem w_case : (Jvm.Cond.and given_1 narrow_1).before args0 about1 = true := by decide +kernel
theorem w_applies : (headSpec (Jvm.Cond.code x code maxLocals ret :: tables_1) room_1).applies x e0.platform about1 = true :=
  (Spec.applies_iff w_frames).mpr ⟨w_running, w_runnable, w_alone, w_named, w_hears, w_ripe, w_room, w_tables⟩
theorem atStart : AtStart classFile x code maxLocals ret World_1 tables_1 room_1 Calls_1 rest_1 Pre_1 launch0 p0 e0 about1 theMethod args0 below0 :=
  ⟨lists_1, trivial, launch0.admits_env _ _ _, launch0.least_env, fairChoices_fair.cas, fairChoices_fair.clock, w_frames, w_args, w_heap, w_applies, ⟨⟨6, k6, 1, by decide +kernel, rfl, rfl, _, rfl, rfl⟩, trivial⟩, trivial, w_case⟩
end start1
theorem witness_1 : WitnessClaimed_1 := ⟨start1.p0, start1.e0, start1.about1, start1.theMethod, start1.args0, start1.below0, start1.atStart⟩
end Jvm.Pilot.@@N@@
