import JvmDerived
import JvmDerived.Pilot.@@N@@Statement
import JvmDerived.Pilot.@@N@@Code
set_option linter.unusedVariables false
set_option linter.unusedSimpArgs false
namespace Jvm.Pilot.@@N@@
open Jvm Jvm.ClassFile Sem Op Lib Jvm.Free Jvm.Stand Jvm.LawKit Jvm.RoadKit Bundle Jvm.Pilot.@@N@@.Jvm.D
/-- from S the body ends as Q says -/
def own_G (tb : Tables) (e : Env) (below : List Frame) (Q : State → Outcome → Prop) (S : State) : Prop := ∃ s₂ o, Steps tb e below S s₂ ∧ s₂.status = .running ∧ Ended s₂ below o ∧ Q s₂ o
theorem own_via {tb : Tables} {e : Env} {below : List Frame} {Q : State → Outcome → Prop} {S S' : State} (h : ∀ t, Steps tb e below S' t → Steps tb e below S t) (g : own_G tb e below Q S') : own_G tb e below Q S := by
  obtain ⟨t, o, k, r⟩ := g
  exact ⟨t, o, h t k, r⟩
def own_P (U : State) (Q : Option Value → Heap → List Loc → Prop) (cells slots : Nat) : State → Outcome → Prop := fun U' o => ∃ v L, o = .returned v ∧ Q v U'.heap L ∧ FrameEnd U o U' L cells slots
theorem own_end {p : Program} {l : Launch} {e : Env} {R : Room} {s : State} {m : MethodId} {args : Array Value} {below : List Frame} {meth : Method} {c : Code} {T : State} {locs : List Loc} {cells slots C S : Nat} {Q : Option Value → Heap → List Loc → Prop} {h : Heap} {G : State}
    (X : Stand p l e R s m args below meth c T locs cells slots) {v : Option Value} (hlk : meth.locks = false) (hv : meth.sig.returnType = none → v = none)
    (st : ∀ fs, (∀ (f : JFrame) (acts : List Action), f.method = m → f.locked = none → f.entered = [] → (doReturn e (T.setTop f) acts v).1 = T.setFrames fs) → Steps p.tables e below G (T.setFrames fs))
    (eT : T.heap = h) (hq : Q v h locs) (h1 : cells ≤ C) (h2 : slots ≤ S) : own_G p.tables e below (own_P s Q C S) G := by
  obtain ⟨fs, hr, hrun, hended, hW, hsame⟩ := X.leave (v := v) hv hlk
  exact ⟨_, _, st fs hr, hrun, hended, _, _, rfl, eT ▸ hq, ⟨_, rfl⟩, hW, hsame.mono h1 h2⟩
def own_gr (t : Int64) : Int32 := if 0 < t then 1 else 0
def own_re (t u : Int64) : Int32 := if t < u then 0 else 1
def own_qu (q : Int64) : Int32 := if q = -2 then 0 else 1
def own_cg (t q : Int64) : Int32 := if own_gr t = 0 then 0 else if own_qu q = 0 then 1 else 0
theorem own_r1 (t : Int64) : own_gr t = own_re t 1 := by unfold own_gr own_re; grind
theorem own_bit (t : Int64) : own_gr t = 0 ∨ own_gr t = 1 := by unfold own_gr; split <;> simp
theorem own_c1 (t : Int64) : own_cg t (-2) = own_gr t := by
  have h := own_bit t
  have h2 : own_qu (-2) = 0 := by decide
  unfold own_cg; rw [h2]; grind
theorem d2_0 : decode jdk_30_method_1_code 0 = .ok (.aload_n 0, 1) := by decide +kernel
theorem d2_1 : decode jdk_30_method_1_code 1 = .ok (.invokespecial 1, 3) := by decide +kernel
theorem d2_4 : decode jdk_30_method_1_code 4 = .ok (.return_, 1) := by decide +kernel
theorem pn2 : plainName "java/lang/Record" = true := by first | (simp [plainName, overriddenIn]; done) | decide +kernel
theorem ef2 (m : MethodId) (x0 : Addr) : entryFrame m #[(.ref x0)] 1 = mkF m 0 #[.val (.ref x0)] [] := by first | (simp [entryFrame, mkF, argsToLocals, Value.category]; done) | rfl
def Q2 (Z : State) (a1 : Addr) (h0 : Heap) (n0 : Nat) (v : Option Value) (h : Heap) (L : List Loc) : Prop := v = none ∧ Fr n0 L ∧ h = h0
set_option maxRecDepth 65536 in
set_option maxHeartbeats 40000000 in
theorem rm2 (l : Launch) (Z : State) (a0 : Array Value) (hw : ∀ d ∈ tables_1, d.before a0 Z = true) (ws : List Jvm.Cond) (a1 : Addr) (h0 : Heap) (n0 : Nat) (Z0 : n0 ≤ h0.size) :
    MetFree l (⟨"java/lang/Record", "<init>", "()V"⟩ : MethodName) (head1 (Jvm.Cond.code (⟨"java/lang/Record", "<init>", "()V"⟩ : MethodName) jdk_30_method_1_code 1 none :: ws) ({ frames := 1, cells := 0, slots := 0, locals := 12 } : Room)) (fun a U => a = #[(.ref a1)] ∧ Z.Warmed39 U.vm ∧ U.heap = h0) (fun _ _ _ _ _ => True) (fun _ U o U' => ∃ v L, o = .returned v ∧ Q2 Z a1 h0 n0 v U'.heap L ∧ FrameEnd U o U' L ({ frames := 1, cells := 0, slots := 0, locals := 12 } : Room).cells ({ frames := 1, cells := 0, slots := 0, locals := 12 } : Room).slots) := by
  refine MetFree.of_bodySF (plainFor_of_name pn2) hisR ?_
  intro p e s m args below meth c s₁ Bd hml0 hP hK
  obtain ⟨rfl, hZ, hh⟩ := hP
  have hx := Bd.exec
  have hby := Bd.bytes
  have hml : c.maxLocals = 1 := hml0
  have hown : s.vm.findClass "java/lang/Record" = some m.cls := findClass_of_methodNamed Bd.named
  have hnm := (name_of_methodNamed Bd.named Bd.method).1
  have X0 : Stand p l e ({ frames := 1, cells := 0, slots := 0, locals := 12 } : Room) s m #[(.ref a1)] below meth c s₁ [] 0 0 := Stand.of_body Bd
  have e0 : s₁.heap = h0 := by rw [← hh, Bd.state]; rfl
  have N0 := Fr.nil n0
  refine (show own_G p.tables e below (own_P s (Q2 Z a1 h0 n0) 0 0) (s₁.setTop (entryFrame m #[(.ref a1)] 1)) from ?_)
  refine own_via (fun t k => castTop (ef2 m a1) k) ?_
  show own_G p.tables e below _ (s₁.setTop (mkF m 0 #[.val (.ref a1)] []))
  refine own_via (S' := s₁.setTop (mkF m 1 #[.val (.ref a1)] [(.ref a1)])) (fun t k => ?_) ?_
  · show Steps p.tables e below (s₁.setTop (mkF m 0 #[.val (.ref a1)] [])) t
    refine XS.aloadN X0.here hx rfl (hb hby d2_0) rfl rfl ?_
    exact k
  obtain ⟨T1, X1, e1, st1⟩ := initO X0 hx hZ hown (hw _ (List.mem_of_getElem? (i := 11) rfl)) (hw _ (List.mem_of_getElem? (i := 12) rfl)) (hw _ (List.mem_of_getElem? (i := 13) rfl)) e0 (g := (mkF m 1 #[.val (.ref a1)] [(.ref a1)])) rfl (by rw [hml]; rfl) rfl (hb hby d2_1) (by decide) (W := 0) (by show 2 * 0 + _ ≤ _; exact Nat.le_of_eq rfl) (by decide)
  refine own_via st1 ?_
  show own_G p.tables e below _ (T1.setTop (mkF m 4 #[.val (.ref a1)] []))
  exact own_end (h := h0) X1 (v := none) Bd.notSynchronized (fun _ => rfl) (fun fs hr => X1.returnOut hx Bd.returns (hb hby d2_4) hr) e1 ⟨rfl, N0, rfl⟩ (by decide) (by decide)
theorem d1_0 : decode prog_26_method_1_code 0 = .ok (.aload_n 0, 1) := by decide +kernel
theorem d1_1 : decode prog_26_method_1_code 1 = .ok (.invokespecial 1, 3) := by decide +kernel
theorem d1_4 : decode prog_26_method_1_code 4 = .ok (.aload_n 0, 1) := by decide +kernel
theorem d1_5 : decode prog_26_method_1_code 5 = .ok (.lload_n 1, 1) := by decide +kernel
theorem d1_6 : decode prog_26_method_1_code 6 = .ok (.putfield 7, 3) := by decide +kernel
theorem d1_9 : decode prog_26_method_1_code 9 = .ok (.aload_n 0, 1) := by decide +kernel
theorem d1_10 : decode prog_26_method_1_code 10 = .ok (.lload_n 3, 1) := by decide +kernel
theorem d1_11 : decode prog_26_method_1_code 11 = .ok (.putfield 13, 3) := by decide +kernel
theorem d1_14 : decode prog_26_method_1_code 14 = .ok (.aload_n 0, 1) := by decide +kernel
theorem d1_15 : decode prog_26_method_1_code 15 = .ok (.lload 5, 2) := by decide +kernel
theorem d1_17 : decode prog_26_method_1_code 17 = .ok (.putfield 16, 3) := by decide +kernel
theorem d1_20 : decode prog_26_method_1_code 20 = .ok (.aload_n 0, 1) := by decide +kernel
theorem d1_21 : decode prog_26_method_1_code 21 = .ok (.lload 7, 2) := by decide +kernel
theorem d1_23 : decode prog_26_method_1_code 23 = .ok (.putfield 19, 3) := by decide +kernel
theorem d1_26 : decode prog_26_method_1_code 26 = .ok (.aload_n 0, 1) := by decide +kernel
theorem d1_27 : decode prog_26_method_1_code 27 = .ok (.lload 9, 2) := by decide +kernel
theorem d1_29 : decode prog_26_method_1_code 29 = .ok (.putfield 22, 3) := by decide +kernel
theorem d1_32 : decode prog_26_method_1_code 32 = .ok (.return_, 1) := by decide +kernel
theorem pn1 : plainName "com/example/gard/gard/redis/AcquireAnswer" = true := by first | (simp [plainName, overriddenIn]; done) | decide +kernel
theorem pd_0 : parseMethodDescriptor "()V" = some ⟨[], none⟩ := by decide +kernel
theorem ef1 (m : MethodId) (x0 : Addr) (x1 : Int64) (x2 : Int64) (x3 : Int64) (x4 : Int64) (x5 : Int64) : entryFrame m #[(.ref x0), (.long x1), (.long x2), (.long x3), (.long x4), (.long x5)] 11 = mkF m 0 #[.val (.ref x0), .val (.long x1), .second, .val (.long x2), .second, .val (.long x3), .second, .val (.long x4), .second, .val (.long x5), .second] [] := by first | (simp [entryFrame, mkF, argsToLocals, Value.category]; done) | rfl
def Q1 (Z : State) (a1 : Addr) (q0 : Int64) (q1 : Int64) (q2 : Int64) (q3 : Int64) (q4 : Int64) (h0 : Heap) (n0 : Nat) (v : Option Value) (h : Heap) (L : List Loc) : Prop := v = none ∧ Fr n0 L ∧ Keep h0 h [a1] ∧ Exa Z h a1 "com/example/gard/gard/redis/AcquireAnswer" ∧ Fld Z h a1 "com/example/gard/gard/redis/AcquireAnswer" "token" "J" (.long q0) ∧ Fld Z h a1 "com/example/gard/gard/redis/AcquireAnswer" "left" "J" (.long q1) ∧ Fld Z h a1 "com/example/gard/gard/redis/AcquireAnswer" "stamp" "J" (.long q2) ∧ Fld Z h a1 "com/example/gard/gard/redis/AcquireAnswer" "quarantineLeft" "J" (.long q3) ∧ Fld Z h a1 "com/example/gard/gard/redis/AcquireAnswer" "micros" "J" (.long q4)
set_option maxRecDepth 65536 in
set_option maxHeartbeats 40000000 in
theorem rm1 (l : Launch) (Z : State) (a0 : Array Value) (hw : ∀ d ∈ tables_1, d.before a0 Z = true) (ws : List Jvm.Cond) (a1 : Addr) (q0 : Int64) (q1 : Int64) (q2 : Int64) (q3 : Int64) (q4 : Int64) (h0 : Heap) (n0 : Nat) (Z0 : n0 ≤ h0.size) (F0_0 : Fld Z h0 a1 "com/example/gard/gard/redis/AcquireAnswer" "token" "J" (.long (0 : Int64))) (F1_0 : Fld Z h0 a1 "com/example/gard/gard/redis/AcquireAnswer" "left" "J" (.long (0 : Int64))) (F2_0 : Fld Z h0 a1 "com/example/gard/gard/redis/AcquireAnswer" "stamp" "J" (.long (0 : Int64))) (F3_0 : Fld Z h0 a1 "com/example/gard/gard/redis/AcquireAnswer" "quarantineLeft" "J" (.long (0 : Int64))) (F4_0 : Fld Z h0 a1 "com/example/gard/gard/redis/AcquireAnswer" "micros" "J" (.long (0 : Int64))) (E_a1 : Exa Z h0 a1 "com/example/gard/gard/redis/AcquireAnswer") (g_a1 : n0 ≤ a1) :
    MetFree l (⟨"com/example/gard/gard/redis/AcquireAnswer", "<init>", "(JJJJJ)V"⟩ : MethodName) (head1 (Jvm.Cond.code (⟨"com/example/gard/gard/redis/AcquireAnswer", "<init>", "(JJJJJ)V"⟩ : MethodName) prog_26_method_1_code 11 none :: ws) ({ frames := 2, cells := 0, slots := 0, locals := 24 } : Room)) (fun a U => a = #[(.ref a1), (.long q0), (.long q1), (.long q2), (.long q3), (.long q4)] ∧ Z.Warmed39 U.vm ∧ U.heap = h0) (fun _ _ _ _ _ => True) (fun _ U o U' => ∃ v L, o = .returned v ∧ Q1 Z a1 q0 q1 q2 q3 q4 h0 n0 v U'.heap L ∧ FrameEnd U o U' L ({ frames := 2, cells := 0, slots := 0, locals := 24 } : Room).cells ({ frames := 2, cells := 0, slots := 0, locals := 24 } : Room).slots) := by
  refine MetFree.of_bodySF (plainFor_of_name pn1) hisR ?_
  intro p e s m args below meth c s₁ Bd hml0 hP hK
  obtain ⟨rfl, hZ, hh⟩ := hP
  have hx := Bd.exec
  have hby := Bd.bytes
  have hml : c.maxLocals = 11 := hml0
  have hown : s.vm.findClass "com/example/gard/gard/redis/AcquireAnswer" = some m.cls := findClass_of_methodNamed Bd.named
  have hnm := (name_of_methodNamed Bd.named Bd.method).1
  have X0 : Stand p l e ({ frames := 2, cells := 0, slots := 0, locals := 24 } : Room) s m #[(.ref a1), (.long q0), (.long q1), (.long q2), (.long q3), (.long q4)] below meth c s₁ [] 0 0 := Stand.of_body Bd
  have e0 : s₁.heap = h0 := by rw [← hh, Bd.state]; rfl
  have N0 := Fr.nil n0
  refine (show own_G p.tables e below (own_P s (Q1 Z a1 q0 q1 q2 q3 q4 h0 n0) 0 0) (s₁.setTop (entryFrame m #[(.ref a1), (.long q0), (.long q1), (.long q2), (.long q3), (.long q4)] 11)) from ?_)
  refine own_via (fun t k => castTop (ef1 m a1 q0 q1 q2 q3 q4) k) ?_
  show own_G p.tables e below _ (s₁.setTop (mkF m 0 #[.val (.ref a1), .val (.long q0), .second, .val (.long q1), .second, .val (.long q2), .second, .val (.long q3), .second, .val (.long q4), .second] []))
  have K0 := Keep.refl h0 [a1]
  refine own_via (S' := s₁.setTop (mkF m 1 #[.val (.ref a1), .val (.long q0), .second, .val (.long q1), .second, .val (.long q2), .second, .val (.long q3), .second, .val (.long q4), .second] [(.ref a1)])) (fun t k => ?_) ?_
  · show Steps p.tables e below (s₁.setTop (mkF m 0 #[.val (.ref a1), .val (.long q0), .second, .val (.long q1), .second, .val (.long q2), .second, .val (.long q3), .second, .val (.long q4), .second] [])) t
    refine XS.aloadN X0.here hx rfl (hb hby d1_0) rfl rfl ?_
    exact k
  obtain ⟨_, _, ⟨T1, L1, k1, n1⟩, -, X1, ⟨Lc1, hQ1, l1, y1, z1⟩, st1⟩ := X0.specialBack hx (y := (⟨"java/lang/Record", "<init>", "()V"⟩ : MethodName)) rfl hown (mvT hZ (hw _ (List.mem_of_getElem? (i := 6) rfl))) (mvT hZ (hw _ (List.mem_of_getElem? (i := 7) rfl))) (mvT hZ (hw _ (List.mem_of_getElem? (i := 10) rfl))) (by decide) (backOf (W := 0) (rm2 l Z a0 hw [] a1 h0 n0 (Nat.le_trans Z0 K0.1)) hZ (hw _ (List.mem_of_getElem? (i := 10) rfl)) (hw _ (List.mem_of_getElem? (i := 9) rfl)) (by decide) (by decide)) (g := (mkF m 1 #[.val (.ref a1), .val (.long q0), .second, .val (.long q1), .second, .val (.long q2), .second, .val (.long q3), .second, .val (.long q4), .second] [(.ref a1)])) rfl (by rw [hml]; rfl) (Steps.refl _) (a := a1) (argsL := []) (rest := []) (lenOf pd_0 rfl) rfl (by show 2 * 0 + _ ≤ _; exact Nat.le_of_eq rfl) (hb hby d1_1) (fun _ _ => ⟨rfl, e0, (by decide : 0 + 0 ≤ _), (by decide : 0 + 0 ≤ _)⟩)
  dsimp only [Pt.U, Pt.locs, Pt.cells, Pt.slots] at X1 l1 y1 z1 st1 hQ1
  subst l1 y1 z1
  obtain ⟨rfl, Nq1, hh1⟩ := hQ1
  have N1 := Fr.app N0 Nq1
  refine own_via (fun t k => st1.trans k) ?_
  show own_G p.tables e below _ (T1.setTop (mkF m 4 #[.val (.ref a1), .val (.long q0), .second, .val (.long q1), .second, .val (.long q2), .second, .val (.long q3), .second, .val (.long q4), .second] []))
  refine own_via (S' := T1.setTop (mkF m 6 #[.val (.ref a1), .val (.long q0), .second, .val (.long q1), .second, .val (.long q2), .second, .val (.long q3), .second, .val (.long q4), .second] [(.long q0), (.ref a1)])) (fun t k => ?_) ?_
  · show Steps p.tables e below (T1.setTop (mkF m 4 #[.val (.ref a1), .val (.long q0), .second, .val (.long q1), .second, .val (.long q2), .second, .val (.long q3), .second, .val (.long q4), .second] [])) t
    refine XS.aloadN X1.here hx rfl (hb hby d1_4) rfl rfl ?_
    show Steps p.tables e below (T1.setTop (mkF m 5 #[.val (.ref a1), .val (.long q0), .second, .val (.long q1), .second, .val (.long q2), .second, .val (.long q3), .second, .val (.long q4), .second] [(.ref a1)])) t
    refine XS.lloadN X1.here hx rfl (hb hby d1_5) rfl ?_
    exact k
  obtain ⟨T2, h2, X2, e2, W2, st2⟩ := putF X1 hx hZ hown (host := "") (Or.inl (hw _ (List.mem_of_getElem? (i := 14) rfl))) Via.refl hh1 F0_0 E_a1 (Or.inr ⟨(hw _ (List.mem_of_getElem? (i := 15) rfl)), rfl, hnm⟩) (hw _ (List.mem_of_getElem? (i := 1) rfl)) (ty := .long) (by decide) rfl rfl (g := (mkF m 6 #[.val (.ref a1), .val (.long q0), .second, .val (.long q1), .second, .val (.long q2), .second, .val (.long q3), .second, .val (.long q4), .second] [(.long q0), (.ref a1)])) rfl rfl (hb hby d1_6)
  have F2 := Fld.same W2 F0_0
  have K3 : Keep h0 h2 [a1] := Keep.wr K0 W2 (Or.inl (List.mem_of_getElem? (i := 0) rfl))
  have N3 := Fr.snoc X2 N1 g_a1
  refine own_via st2 ?_
  show own_G p.tables e below _ (T2.setTop (mkF m 9 #[.val (.ref a1), .val (.long q0), .second, .val (.long q1), .second, .val (.long q2), .second, .val (.long q3), .second, .val (.long q4), .second] []))
  refine own_via (S' := T2.setTop (mkF m 11 #[.val (.ref a1), .val (.long q0), .second, .val (.long q1), .second, .val (.long q2), .second, .val (.long q3), .second, .val (.long q4), .second] [(.long q1), (.ref a1)])) (fun t k => ?_) ?_
  · show Steps p.tables e below (T2.setTop (mkF m 9 #[.val (.ref a1), .val (.long q0), .second, .val (.long q1), .second, .val (.long q2), .second, .val (.long q3), .second, .val (.long q4), .second] [])) t
    refine XS.aloadN X2.here hx rfl (hb hby d1_9) rfl rfl ?_
    show Steps p.tables e below (T2.setTop (mkF m 10 #[.val (.ref a1), .val (.long q0), .second, .val (.long q1), .second, .val (.long q2), .second, .val (.long q3), .second, .val (.long q4), .second] [(.ref a1)])) t
    refine XS.lloadN X2.here hx rfl (hb hby d1_10) rfl ?_
    exact k
  have c4 := (Fld.other W2 F1_0 (Or.inr (slot_ne (Or.inr (hw _ (List.mem_of_getElem? (i := 17) rfl))) (Or.inr (hw _ (List.mem_of_getElem? (i := 15) rfl))) (by decide) (t := .long) (t' := .long) (by decide) (by decide))))
  have c5 := (Exa.wr W2 E_a1)
  obtain ⟨T6, h6, X6, e6, W6, st6⟩ := putF X2 hx hZ hown (host := "") (Or.inl (hw _ (List.mem_of_getElem? (i := 16) rfl))) Via.refl e2 c4 c5 (Or.inr ⟨(hw _ (List.mem_of_getElem? (i := 17) rfl)), rfl, hnm⟩) (hw _ (List.mem_of_getElem? (i := 1) rfl)) (ty := .long) (by decide) rfl rfl (g := (mkF m 11 #[.val (.ref a1), .val (.long q0), .second, .val (.long q1), .second, .val (.long q2), .second, .val (.long q3), .second, .val (.long q4), .second] [(.long q1), (.ref a1)])) rfl rfl (hb hby d1_11)
  have F6 := Fld.same W6 c4
  have K7 : Keep h0 h6 [a1] := Keep.wr K3 W6 (Or.inl (List.mem_of_getElem? (i := 0) rfl))
  have N7 := Fr.snoc X6 N3 g_a1
  refine own_via st6 ?_
  show own_G p.tables e below _ (T6.setTop (mkF m 14 #[.val (.ref a1), .val (.long q0), .second, .val (.long q1), .second, .val (.long q2), .second, .val (.long q3), .second, .val (.long q4), .second] []))
  refine own_via (S' := T6.setTop (mkF m 17 #[.val (.ref a1), .val (.long q0), .second, .val (.long q1), .second, .val (.long q2), .second, .val (.long q3), .second, .val (.long q4), .second] [(.long q2), (.ref a1)])) (fun t k => ?_) ?_
  · show Steps p.tables e below (T6.setTop (mkF m 14 #[.val (.ref a1), .val (.long q0), .second, .val (.long q1), .second, .val (.long q2), .second, .val (.long q3), .second, .val (.long q4), .second] [])) t
    refine XS.aloadN X6.here hx rfl (hb hby d1_14) rfl rfl ?_
    show Steps p.tables e below (T6.setTop (mkF m 15 #[.val (.ref a1), .val (.long q0), .second, .val (.long q1), .second, .val (.long q2), .second, .val (.long q3), .second, .val (.long q4), .second] [(.ref a1)])) t
    refine XS.lload X6.here hx rfl (hb hby d1_15) rfl ?_
    exact k
  have c8 := (Fld.other W6 (Fld.other W2 F2_0 (Or.inr (slot_ne (Or.inr (hw _ (List.mem_of_getElem? (i := 19) rfl))) (Or.inr (hw _ (List.mem_of_getElem? (i := 15) rfl))) (by decide) (t := .long) (t' := .long) (by decide) (by decide)))) (Or.inr (slot_ne (Or.inr (hw _ (List.mem_of_getElem? (i := 19) rfl))) (Or.inr (hw _ (List.mem_of_getElem? (i := 17) rfl))) (by decide) (t := .long) (t' := .long) (by decide) (by decide))))
  have c9 := (Exa.wr W6 c5)
  obtain ⟨T10, h10, X10, e10, W10, st10⟩ := putF X6 hx hZ hown (host := "") (Or.inl (hw _ (List.mem_of_getElem? (i := 18) rfl))) Via.refl e6 c8 c9 (Or.inr ⟨(hw _ (List.mem_of_getElem? (i := 19) rfl)), rfl, hnm⟩) (hw _ (List.mem_of_getElem? (i := 1) rfl)) (ty := .long) (by decide) rfl rfl (g := (mkF m 17 #[.val (.ref a1), .val (.long q0), .second, .val (.long q1), .second, .val (.long q2), .second, .val (.long q3), .second, .val (.long q4), .second] [(.long q2), (.ref a1)])) rfl rfl (hb hby d1_17)
  have F10 := Fld.same W10 c8
  have K11 : Keep h0 h10 [a1] := Keep.wr K7 W10 (Or.inl (List.mem_of_getElem? (i := 0) rfl))
  have N11 := Fr.snoc X10 N7 g_a1
  refine own_via st10 ?_
  show own_G p.tables e below _ (T10.setTop (mkF m 20 #[.val (.ref a1), .val (.long q0), .second, .val (.long q1), .second, .val (.long q2), .second, .val (.long q3), .second, .val (.long q4), .second] []))
  refine own_via (S' := T10.setTop (mkF m 23 #[.val (.ref a1), .val (.long q0), .second, .val (.long q1), .second, .val (.long q2), .second, .val (.long q3), .second, .val (.long q4), .second] [(.long q3), (.ref a1)])) (fun t k => ?_) ?_
  · show Steps p.tables e below (T10.setTop (mkF m 20 #[.val (.ref a1), .val (.long q0), .second, .val (.long q1), .second, .val (.long q2), .second, .val (.long q3), .second, .val (.long q4), .second] [])) t
    refine XS.aloadN X10.here hx rfl (hb hby d1_20) rfl rfl ?_
    show Steps p.tables e below (T10.setTop (mkF m 21 #[.val (.ref a1), .val (.long q0), .second, .val (.long q1), .second, .val (.long q2), .second, .val (.long q3), .second, .val (.long q4), .second] [(.ref a1)])) t
    refine XS.lload X10.here hx rfl (hb hby d1_21) rfl ?_
    exact k
  have c12 := (Fld.other W10 (Fld.other W6 (Fld.other W2 F3_0 (Or.inr (slot_ne (Or.inr (hw _ (List.mem_of_getElem? (i := 21) rfl))) (Or.inr (hw _ (List.mem_of_getElem? (i := 15) rfl))) (by decide) (t := .long) (t' := .long) (by decide) (by decide)))) (Or.inr (slot_ne (Or.inr (hw _ (List.mem_of_getElem? (i := 21) rfl))) (Or.inr (hw _ (List.mem_of_getElem? (i := 17) rfl))) (by decide) (t := .long) (t' := .long) (by decide) (by decide)))) (Or.inr (slot_ne (Or.inr (hw _ (List.mem_of_getElem? (i := 21) rfl))) (Or.inr (hw _ (List.mem_of_getElem? (i := 19) rfl))) (by decide) (t := .long) (t' := .long) (by decide) (by decide))))
  have c13 := (Exa.wr W10 c9)
  obtain ⟨T14, h14, X14, e14, W14, st14⟩ := putF X10 hx hZ hown (host := "") (Or.inl (hw _ (List.mem_of_getElem? (i := 20) rfl))) Via.refl e10 c12 c13 (Or.inr ⟨(hw _ (List.mem_of_getElem? (i := 21) rfl)), rfl, hnm⟩) (hw _ (List.mem_of_getElem? (i := 1) rfl)) (ty := .long) (by decide) rfl rfl (g := (mkF m 23 #[.val (.ref a1), .val (.long q0), .second, .val (.long q1), .second, .val (.long q2), .second, .val (.long q3), .second, .val (.long q4), .second] [(.long q3), (.ref a1)])) rfl rfl (hb hby d1_23)
  have F14 := Fld.same W14 c12
  have K15 : Keep h0 h14 [a1] := Keep.wr K11 W14 (Or.inl (List.mem_of_getElem? (i := 0) rfl))
  have N15 := Fr.snoc X14 N11 g_a1
  refine own_via st14 ?_
  show own_G p.tables e below _ (T14.setTop (mkF m 26 #[.val (.ref a1), .val (.long q0), .second, .val (.long q1), .second, .val (.long q2), .second, .val (.long q3), .second, .val (.long q4), .second] []))
  refine own_via (S' := T14.setTop (mkF m 29 #[.val (.ref a1), .val (.long q0), .second, .val (.long q1), .second, .val (.long q2), .second, .val (.long q3), .second, .val (.long q4), .second] [(.long q4), (.ref a1)])) (fun t k => ?_) ?_
  · show Steps p.tables e below (T14.setTop (mkF m 26 #[.val (.ref a1), .val (.long q0), .second, .val (.long q1), .second, .val (.long q2), .second, .val (.long q3), .second, .val (.long q4), .second] [])) t
    refine XS.aloadN X14.here hx rfl (hb hby d1_26) rfl rfl ?_
    show Steps p.tables e below (T14.setTop (mkF m 27 #[.val (.ref a1), .val (.long q0), .second, .val (.long q1), .second, .val (.long q2), .second, .val (.long q3), .second, .val (.long q4), .second] [(.ref a1)])) t
    refine XS.lload X14.here hx rfl (hb hby d1_27) rfl ?_
    exact k
  have c16 := (Fld.other W14 (Fld.other W10 (Fld.other W6 (Fld.other W2 F4_0 (Or.inr (slot_ne (Or.inr (hw _ (List.mem_of_getElem? (i := 23) rfl))) (Or.inr (hw _ (List.mem_of_getElem? (i := 15) rfl))) (by decide) (t := .long) (t' := .long) (by decide) (by decide)))) (Or.inr (slot_ne (Or.inr (hw _ (List.mem_of_getElem? (i := 23) rfl))) (Or.inr (hw _ (List.mem_of_getElem? (i := 17) rfl))) (by decide) (t := .long) (t' := .long) (by decide) (by decide)))) (Or.inr (slot_ne (Or.inr (hw _ (List.mem_of_getElem? (i := 23) rfl))) (Or.inr (hw _ (List.mem_of_getElem? (i := 19) rfl))) (by decide) (t := .long) (t' := .long) (by decide) (by decide)))) (Or.inr (slot_ne (Or.inr (hw _ (List.mem_of_getElem? (i := 23) rfl))) (Or.inr (hw _ (List.mem_of_getElem? (i := 21) rfl))) (by decide) (t := .long) (t' := .long) (by decide) (by decide))))
  have c17 := (Exa.wr W14 c13)
  obtain ⟨T18, h18, X18, e18, W18, st18⟩ := putF X14 hx hZ hown (host := "") (Or.inl (hw _ (List.mem_of_getElem? (i := 22) rfl))) Via.refl e14 c16 c17 (Or.inr ⟨(hw _ (List.mem_of_getElem? (i := 23) rfl)), rfl, hnm⟩) (hw _ (List.mem_of_getElem? (i := 1) rfl)) (ty := .long) (by decide) rfl rfl (g := (mkF m 29 #[.val (.ref a1), .val (.long q0), .second, .val (.long q1), .second, .val (.long q2), .second, .val (.long q3), .second, .val (.long q4), .second] [(.long q4), (.ref a1)])) rfl rfl (hb hby d1_29)
  have F18 := Fld.same W18 c16
  have K19 : Keep h0 h18 [a1] := Keep.wr K15 W18 (Or.inl (List.mem_of_getElem? (i := 0) rfl))
  have N19 := Fr.snoc X18 N15 g_a1
  refine own_via st18 ?_
  show own_G p.tables e below _ (T18.setTop (mkF m 32 #[.val (.ref a1), .val (.long q0), .second, .val (.long q1), .second, .val (.long q2), .second, .val (.long q3), .second, .val (.long q4), .second] []))
  have c20 := (Exa.wr W18 c17)
  have c21 := (Fld.other W18 (Fld.other W14 (Fld.other W10 (Fld.other W6 F2 (Or.inr (slot_ne (Or.inr (hw _ (List.mem_of_getElem? (i := 15) rfl))) (Or.inr (hw _ (List.mem_of_getElem? (i := 17) rfl))) (by decide) (t := .long) (t' := .long) (by decide) (by decide)))) (Or.inr (slot_ne (Or.inr (hw _ (List.mem_of_getElem? (i := 15) rfl))) (Or.inr (hw _ (List.mem_of_getElem? (i := 19) rfl))) (by decide) (t := .long) (t' := .long) (by decide) (by decide)))) (Or.inr (slot_ne (Or.inr (hw _ (List.mem_of_getElem? (i := 15) rfl))) (Or.inr (hw _ (List.mem_of_getElem? (i := 21) rfl))) (by decide) (t := .long) (t' := .long) (by decide) (by decide)))) (Or.inr (slot_ne (Or.inr (hw _ (List.mem_of_getElem? (i := 15) rfl))) (Or.inr (hw _ (List.mem_of_getElem? (i := 23) rfl))) (by decide) (t := .long) (t' := .long) (by decide) (by decide))))
  have c22 := (Fld.other W18 (Fld.other W14 (Fld.other W10 F6 (Or.inr (slot_ne (Or.inr (hw _ (List.mem_of_getElem? (i := 17) rfl))) (Or.inr (hw _ (List.mem_of_getElem? (i := 19) rfl))) (by decide) (t := .long) (t' := .long) (by decide) (by decide)))) (Or.inr (slot_ne (Or.inr (hw _ (List.mem_of_getElem? (i := 17) rfl))) (Or.inr (hw _ (List.mem_of_getElem? (i := 21) rfl))) (by decide) (t := .long) (t' := .long) (by decide) (by decide)))) (Or.inr (slot_ne (Or.inr (hw _ (List.mem_of_getElem? (i := 17) rfl))) (Or.inr (hw _ (List.mem_of_getElem? (i := 23) rfl))) (by decide) (t := .long) (t' := .long) (by decide) (by decide))))
  have c23 := (Fld.other W18 (Fld.other W14 F10 (Or.inr (slot_ne (Or.inr (hw _ (List.mem_of_getElem? (i := 19) rfl))) (Or.inr (hw _ (List.mem_of_getElem? (i := 21) rfl))) (by decide) (t := .long) (t' := .long) (by decide) (by decide)))) (Or.inr (slot_ne (Or.inr (hw _ (List.mem_of_getElem? (i := 19) rfl))) (Or.inr (hw _ (List.mem_of_getElem? (i := 23) rfl))) (by decide) (t := .long) (t' := .long) (by decide) (by decide))))
  have c24 := (Fld.other W18 F14 (Or.inr (slot_ne (Or.inr (hw _ (List.mem_of_getElem? (i := 21) rfl))) (Or.inr (hw _ (List.mem_of_getElem? (i := 23) rfl))) (by decide) (t := .long) (t' := .long) (by decide) (by decide))))
  exact own_end (h := h18) X18 (v := none) Bd.notSynchronized (fun _ => rfl) (fun fs hr => X18.returnOut hx Bd.returns (hb hby d1_32) hr) e18 ⟨rfl, N19, K19, c20, c21, c22, c23, c24, F18⟩ (by decide) (by decide)
theorem d4_0 : decode prog_26_method_3_code 0 = .ok (.aload_n 0, 1) := by decide +kernel
theorem d4_1 : decode prog_26_method_3_code 1 = .ok (.getfield 7, 3) := by decide +kernel
theorem d4_4 : decode prog_26_method_3_code 4 = .ok (.lconst 0, 1) := by decide +kernel
theorem d4_5 : decode prog_26_method_3_code 5 = .ok (.lcmp, 1) := by decide +kernel
theorem d4_6 : decode prog_26_method_3_code 6 = .ok (.ifCond .le 7, 3) := by decide +kernel
theorem d4_9 : decode prog_26_method_3_code 9 = .ok (.iconst 1, 1) := by decide +kernel
theorem d4_10 : decode prog_26_method_3_code 10 = .ok (.goto 4, 3) := by decide +kernel
theorem d4_13 : decode prog_26_method_3_code 13 = .ok (.iconst 0, 1) := by decide +kernel
theorem d4_14 : decode prog_26_method_3_code 14 = .ok (.ireturn, 1) := by decide +kernel
theorem pn4 : plainName "com/example/gard/gard/redis/AcquireAnswer" = true := by first | (simp [plainName, overriddenIn]; done) | decide +kernel
theorem ef4 (m : MethodId) (x0 : Addr) : entryFrame m #[(.ref x0)] 1 = mkF m 0 #[.val (.ref x0)] [] := by first | (simp [entryFrame, mkF, argsToLocals, Value.category]; done) | rfl
def Q4 (Z : State) (a1 : Addr) (q1 : Int64) (h0 : Heap) (n0 : Nat) (v : Option Value) (h : Heap) (L : List Loc) : Prop := v = some (.int (own_gr q1)) ∧ Fr n0 L ∧ h = h0
set_option maxRecDepth 65536 in
set_option maxHeartbeats 40000000 in
theorem rm4 (l : Launch) (Z : State) (a0 : Array Value) (hw : ∀ d ∈ tables_1, d.before a0 Z = true) (ws : List Jvm.Cond) (a1 : Addr) (q1 : Int64) (h0 : Heap) (n0 : Nat) (Z0 : n0 ≤ h0.size) (F0_0 : Fld Z h0 a1 "com/example/gard/gard/redis/AcquireAnswer" "token" "J" (.long q1)) :
    MetFree l (⟨"com/example/gard/gard/redis/AcquireAnswer", "granted", "()Z"⟩ : MethodName) (head1 (Jvm.Cond.code (⟨"com/example/gard/gard/redis/AcquireAnswer", "granted", "()Z"⟩ : MethodName) prog_26_method_3_code 1 (some .boolean) :: ws) ({ frames := 0, cells := 0, slots := 0, locals := 0 } : Room)) (fun a U => a = #[(.ref a1)] ∧ Z.Warmed39 U.vm ∧ U.heap = h0) (fun _ _ _ _ _ => True) (fun _ U o U' => ∃ v L, o = .returned v ∧ Q4 Z a1 q1 h0 n0 v U'.heap L ∧ FrameEnd U o U' L ({ frames := 0, cells := 0, slots := 0, locals := 0 } : Room).cells ({ frames := 0, cells := 0, slots := 0, locals := 0 } : Room).slots) := by
  refine MetFree.of_bodySF (plainFor_of_name pn4) hisR ?_
  intro p e s m args below meth c s₁ Bd hml0 hP hK
  obtain ⟨rfl, hZ, hh⟩ := hP
  have hx := Bd.exec
  have hby := Bd.bytes
  have hml : c.maxLocals = 1 := hml0
  have hown : s.vm.findClass "com/example/gard/gard/redis/AcquireAnswer" = some m.cls := findClass_of_methodNamed Bd.named
  have hnm := (name_of_methodNamed Bd.named Bd.method).1
  have X0 : Stand p l e ({ frames := 0, cells := 0, slots := 0, locals := 0 } : Room) s m #[(.ref a1)] below meth c s₁ [] 0 0 := Stand.of_body Bd
  have e0 : s₁.heap = h0 := by rw [← hh, Bd.state]; rfl
  have N0 := Fr.nil n0
  refine (show own_G p.tables e below (own_P s (Q4 Z a1 q1 h0 n0) 0 0) (s₁.setTop (entryFrame m #[(.ref a1)] 1)) from ?_)
  refine own_via (fun t k => castTop (ef4 m a1) k) ?_
  show own_G p.tables e below _ (s₁.setTop (mkF m 0 #[.val (.ref a1)] []))
  refine own_via (S' := s₁.setTop (mkF m 1 #[.val (.ref a1)] [(.ref a1)])) (fun t k => ?_) ?_
  · show Steps p.tables e below (s₁.setTop (mkF m 0 #[.val (.ref a1)] [])) t
    refine XS.aloadN X0.here hx rfl (hb hby d4_0) rfl rfl ?_
    exact k
  obtain ⟨T1, X1, e1, st1⟩ := getF X0 hx hZ hown (host := "") (Or.inl (hw _ (List.mem_of_getElem? (i := 14) rfl))) Via.refl e0 F0_0 (g := (mkF m 1 #[.val (.ref a1)] [(.ref a1)])) rfl rfl (hb hby d4_1)
  refine own_via st1 ?_
  show own_G p.tables e below _ (T1.setTop (mkF m 4 #[.val (.ref a1)] [(.long q1)]))
  refine own_via (S' := T1.setTop (mkF m 6 #[.val (.ref a1)] [(.int (lcmpW q1 (0 : Int64)))])) (fun t k => ?_) ?_
  · show Steps p.tables e below (T1.setTop (mkF m 4 #[.val (.ref a1)] [(.long q1)])) t
    refine XS.lconst X1.here hx rfl (hb hby d4_4) ?_
    show Steps p.tables e below (T1.setTop (mkF m 5 #[.val (.ref a1)] [(.long (0 : Int64)), (.long q1)])) t
    refine XS.lcmp X1.here hx rfl (hb hby d4_5) rfl ?_
    exact k
  by_cases hc6_2 : (0 : Int64) < q1
  · refine own_via (S' := T1.setTop (mkF m 9 #[.val (.ref a1)] [])) (fun t k => XS.ifNo (g := (mkF m 6 #[.val (.ref a1)] [(.int (lcmpW q1 (0 : Int64)))])) X1.here hx rfl (hb hby d4_6) rfl ((if0 _ _).trans (tlt ((lw_gt q1 (0 : Int64)).mpr hc6_2)).2.2.2) k) ?_
    refine own_via (S' := T1.setTop (mkF m 14 #[.val (.ref a1)] [(.int (1 : Int32))])) (fun t k => ?_) ?_
    · show Steps p.tables e below (T1.setTop (mkF m 9 #[.val (.ref a1)] [])) t
      refine XS.iconst X1.here hx rfl (hb hby d4_9) ?_
      show Steps p.tables e below (T1.setTop (mkF m 10 #[.val (.ref a1)] [(.int (1 : Int32))])) t
      refine XS.goto X1.here hx rfl (pc0 := 10) (pc' := 14) rfl (hb hby d4_10) (by decide) (by decide) ?_
      exact k
    exact own_end (h := h0) X1 (v := some (.int (1 : Int32))) Bd.notSynchronized (fun h => by rw [Bd.returns] at h; cases h) (fun fs hr => retN X1 hx (t := .boolean) Bd.returns (by simp) (hb hby d4_14) hr) e1 ⟨by show some (Value.int _) = some (Value.int _); congr 2; unfold own_gr; grind, N0, rfl⟩ (by decide) (by decide)
  · refine own_via (S' := T1.setTop (mkF m 13 #[.val (.ref a1)] [])) (fun t k => XS.ifYes (g := (mkF m 6 #[.val (.ref a1)] [(.int (lcmpW q1 (0 : Int64)))])) X1.here hx rfl (pc0 := 6) (pc' := 13) rfl (hb hby d4_6) rfl ((if0 _ _).trans (flt (fun q => hc6_2 ((lw_gt q1 (0 : Int64)).mp q))).2.2.2) (by decide) (by decide) k) ?_
    refine own_via (S' := T1.setTop (mkF m 14 #[.val (.ref a1)] [(.int (0 : Int32))])) (fun t k => ?_) ?_
    · show Steps p.tables e below (T1.setTop (mkF m 13 #[.val (.ref a1)] [])) t
      refine XS.iconst X1.here hx rfl (hb hby d4_13) ?_
      exact k
    exact own_end (h := h0) X1 (v := some (.int (0 : Int32))) Bd.notSynchronized (fun h => by rw [Bd.returns] at h; cases h) (fun fs hr => retN X1 hx (t := .boolean) Bd.returns (by simp) (hb hby d4_14) hr) e1 ⟨by show some (Value.int _) = some (Value.int _); congr 2; unfold own_gr; grind, N0, rfl⟩ (by decide) (by decide)
theorem d5_0 : decode method_2_code 0 = .ok (.lload_n 0, 1) := by decide +kernel
theorem d5_1 : decode method_2_code 1 = .ok (.lconst 0, 1) := by decide +kernel
theorem d5_2 : decode method_2_code 2 = .ok (.lcmp, 1) := by decide +kernel
theorem d5_3 : decode method_2_code 3 = .ok (.ifCond .ne 5, 3) := by decide +kernel
theorem d5_6 : decode method_2_code 6 = .ok (.iconst 0, 1) := by decide +kernel
theorem d5_7 : decode method_2_code 7 = .ok (.ireturn, 1) := by decide +kernel
theorem d5_8 : decode method_2_code 8 = .ok (.lload_n 0, 1) := by decide +kernel
theorem d5_9 : decode method_2_code 9 = .ok (.lconst 0, 1) := by decide +kernel
theorem d5_10 : decode method_2_code 10 = .ok (.lcmp, 1) := by decide +kernel
theorem d5_11 : decode method_2_code 11 = .ok (.ifCond .ge 5, 3) := by decide +kernel
theorem d5_14 : decode method_2_code 14 = .ok (.iconst 0, 1) := by decide +kernel
theorem d5_15 : decode method_2_code 15 = .ok (.ireturn, 1) := by decide +kernel
theorem d5_16 : decode method_2_code 16 = .ok (.iconst 1, 1) := by decide +kernel
theorem d5_17 : decode method_2_code 17 = .ok (.ireturn, 1) := by decide +kernel
theorem pn5 : plainName "com/example/gard/gard/redis/AcquireAnswerGrantedPinLaw" = true := by first | (simp [plainName, overriddenIn]; done) | decide +kernel
theorem ef5 (m : MethodId) (x0 : Int64) : entryFrame m #[(.long x0)] 2 = mkF m 0 #[.val (.long x0), .second] [] := by first | (simp [entryFrame, mkF, argsToLocals, Value.category]; done) | rfl
def Q5 (Z : State) (q1 : Int64) (h0 : Heap) (n0 : Nat) (v : Option Value) (h : Heap) (L : List Loc) : Prop := v = some (.int (own_gr q1)) ∧ Fr n0 L ∧ h = h0
set_option maxRecDepth 65536 in
set_option maxHeartbeats 40000000 in
theorem rm5 (l : Launch) (Z : State) (a0 : Array Value) (hw : ∀ d ∈ tables_1, d.before a0 Z = true) (ws : List Jvm.Cond) (q1 : Int64) (h0 : Heap) (n0 : Nat) (Z0 : n0 ≤ h0.size) :
    MetFree l (⟨"com/example/gard/gard/redis/AcquireAnswerGrantedPinLaw", "expectedGranted", "(J)Z"⟩ : MethodName) (head1 (Jvm.Cond.code (⟨"com/example/gard/gard/redis/AcquireAnswerGrantedPinLaw", "expectedGranted", "(J)Z"⟩ : MethodName) method_2_code 2 (some .boolean) :: ws) ({ frames := 0, cells := 0, slots := 0, locals := 0 } : Room)) (fun a U => a = #[(.long q1)] ∧ Z.Warmed39 U.vm ∧ U.heap = h0) (fun _ _ _ _ _ => True) (fun _ U o U' => ∃ v L, o = .returned v ∧ Q5 Z q1 h0 n0 v U'.heap L ∧ FrameEnd U o U' L ({ frames := 0, cells := 0, slots := 0, locals := 0 } : Room).cells ({ frames := 0, cells := 0, slots := 0, locals := 0 } : Room).slots) := by
  refine MetFree.of_bodySF (plainFor_of_name pn5) hisR ?_
  intro p e s m args below meth c s₁ Bd hml0 hP hK
  obtain ⟨rfl, hZ, hh⟩ := hP
  have hx := Bd.exec
  have hby := Bd.bytes
  have hml : c.maxLocals = 2 := hml0
  have hown : s.vm.findClass "com/example/gard/gard/redis/AcquireAnswerGrantedPinLaw" = some m.cls := findClass_of_methodNamed Bd.named
  have hnm := (name_of_methodNamed Bd.named Bd.method).1
  have X0 : Stand p l e ({ frames := 0, cells := 0, slots := 0, locals := 0 } : Room) s m #[(.long q1)] below meth c s₁ [] 0 0 := Stand.of_body Bd
  have e0 : s₁.heap = h0 := by rw [← hh, Bd.state]; rfl
  have N0 := Fr.nil n0
  refine (show own_G p.tables e below (own_P s (Q5 Z q1 h0 n0) 0 0) (s₁.setTop (entryFrame m #[(.long q1)] 2)) from ?_)
  refine own_via (fun t k => castTop (ef5 m q1) k) ?_
  show own_G p.tables e below _ (s₁.setTop (mkF m 0 #[.val (.long q1), .second] []))
  refine own_via (S' := s₁.setTop (mkF m 3 #[.val (.long q1), .second] [(.int (lcmpW q1 (0 : Int64)))])) (fun t k => ?_) ?_
  · show Steps p.tables e below (s₁.setTop (mkF m 0 #[.val (.long q1), .second] [])) t
    refine XS.lloadN X0.here hx rfl (hb hby d5_0) rfl ?_
    show Steps p.tables e below (s₁.setTop (mkF m 1 #[.val (.long q1), .second] [(.long q1)])) t
    refine XS.lconst X0.here hx rfl (hb hby d5_1) ?_
    show Steps p.tables e below (s₁.setTop (mkF m 2 #[.val (.long q1), .second] [(.long (0 : Int64)), (.long q1)])) t
    refine XS.lcmp X0.here hx rfl (hb hby d5_2) rfl ?_
    exact k
  by_cases hc3_1 : q1 = (0 : Int64)
  · refine own_via (S' := s₁.setTop (mkF m 6 #[.val (.long q1), .second] [])) (fun t k => XS.ifNo (g := (mkF m 3 #[.val (.long q1), .second] [(.int (lcmpW q1 (0 : Int64)))])) X0.here hx rfl (hb hby d5_3) rfl ((if0 _ _).trans (teq ((lw_eq q1 (0 : Int64)).mpr hc3_1)).2) k) ?_
    refine own_via (S' := s₁.setTop (mkF m 7 #[.val (.long q1), .second] [(.int (0 : Int32))])) (fun t k => ?_) ?_
    · show Steps p.tables e below (s₁.setTop (mkF m 6 #[.val (.long q1), .second] [])) t
      refine XS.iconst X0.here hx rfl (hb hby d5_6) ?_
      exact k
    exact own_end (h := h0) X0 (v := some (.int (0 : Int32))) Bd.notSynchronized (fun h => by rw [Bd.returns] at h; cases h) (fun fs hr => retN X0 hx (t := .boolean) Bd.returns (by simp) (hb hby d5_7) hr) e0 ⟨by show some (Value.int _) = some (Value.int _); congr 2; unfold own_gr; grind, N0, rfl⟩ (by decide) (by decide)
  · refine own_via (S' := s₁.setTop (mkF m 8 #[.val (.long q1), .second] [])) (fun t k => XS.ifYes (g := (mkF m 3 #[.val (.long q1), .second] [(.int (lcmpW q1 (0 : Int64)))])) X0.here hx rfl (pc0 := 3) (pc' := 8) rfl (hb hby d5_3) rfl ((if0 _ _).trans (feq (fun q => hc3_1 ((lw_eq q1 (0 : Int64)).mp q))).2) (by decide) (by decide) k) ?_
    refine own_via (S' := s₁.setTop (mkF m 11 #[.val (.long q1), .second] [(.int (lcmpW q1 (0 : Int64)))])) (fun t k => ?_) ?_
    · show Steps p.tables e below (s₁.setTop (mkF m 8 #[.val (.long q1), .second] [])) t
      refine XS.lloadN X0.here hx rfl (hb hby d5_8) rfl ?_
      show Steps p.tables e below (s₁.setTop (mkF m 9 #[.val (.long q1), .second] [(.long q1)])) t
      refine XS.lconst X0.here hx rfl (hb hby d5_9) ?_
      show Steps p.tables e below (s₁.setTop (mkF m 10 #[.val (.long q1), .second] [(.long (0 : Int64)), (.long q1)])) t
      refine XS.lcmp X0.here hx rfl (hb hby d5_10) rfl ?_
      exact k
    by_cases hc11_2 : q1 < (0 : Int64)
    · refine own_via (S' := s₁.setTop (mkF m 14 #[.val (.long q1), .second] [])) (fun t k => XS.ifNo (g := (mkF m 11 #[.val (.long q1), .second] [(.int (lcmpW q1 (0 : Int64)))])) X0.here hx rfl (hb hby d5_11) rfl ((if0 _ _).trans (tlt ((lw_lt q1 (0 : Int64)).mpr hc11_2)).2.1) k) ?_
      refine own_via (S' := s₁.setTop (mkF m 15 #[.val (.long q1), .second] [(.int (0 : Int32))])) (fun t k => ?_) ?_
      · show Steps p.tables e below (s₁.setTop (mkF m 14 #[.val (.long q1), .second] [])) t
        refine XS.iconst X0.here hx rfl (hb hby d5_14) ?_
        exact k
      exact own_end (h := h0) X0 (v := some (.int (0 : Int32))) Bd.notSynchronized (fun h => by rw [Bd.returns] at h; cases h) (fun fs hr => retN X0 hx (t := .boolean) Bd.returns (by simp) (hb hby d5_15) hr) e0 ⟨by show some (Value.int _) = some (Value.int _); congr 2; unfold own_gr; grind, N0, rfl⟩ (by decide) (by decide)
    · refine own_via (S' := s₁.setTop (mkF m 16 #[.val (.long q1), .second] [])) (fun t k => XS.ifYes (g := (mkF m 11 #[.val (.long q1), .second] [(.int (lcmpW q1 (0 : Int64)))])) X0.here hx rfl (pc0 := 11) (pc' := 16) rfl (hb hby d5_11) rfl ((if0 _ _).trans (flt (fun q => hc11_2 ((lw_lt q1 (0 : Int64)).mp q))).2.1) (by decide) (by decide) k) ?_
      refine own_via (S' := s₁.setTop (mkF m 17 #[.val (.long q1), .second] [(.int (1 : Int32))])) (fun t k => ?_) ?_
      · show Steps p.tables e below (s₁.setTop (mkF m 16 #[.val (.long q1), .second] [])) t
        refine XS.iconst X0.here hx rfl (hb hby d5_16) ?_
        exact k
      exact own_end (h := h0) X0 (v := some (.int (1 : Int32))) Bd.notSynchronized (fun h => by rw [Bd.returns] at h; cases h) (fun fs hr => retN X0 hx (t := .boolean) Bd.returns (by simp) (hb hby d5_17) hr) e0 ⟨by show some (Value.int _) = some (Value.int _); congr 2; unfold own_gr; grind, N0, rfl⟩ (by decide) (by decide)
theorem d6_0 : decode prog_26_method_6_code 0 = .ok (.aload_n 0, 1) := by decide +kernel
theorem d6_1 : decode prog_26_method_6_code 1 = .ok (.getfield 7, 3) := by decide +kernel
theorem d6_4 : decode prog_26_method_6_code 4 = .ok (.lload_n 1, 1) := by decide +kernel
theorem d6_5 : decode prog_26_method_6_code 5 = .ok (.lcmp, 1) := by decide +kernel
theorem d6_6 : decode prog_26_method_6_code 6 = .ok (.ifCond .lt 7, 3) := by decide +kernel
theorem d6_9 : decode prog_26_method_6_code 9 = .ok (.iconst 1, 1) := by decide +kernel
theorem d6_10 : decode prog_26_method_6_code 10 = .ok (.goto 4, 3) := by decide +kernel
theorem d6_13 : decode prog_26_method_6_code 13 = .ok (.iconst 0, 1) := by decide +kernel
theorem d6_14 : decode prog_26_method_6_code 14 = .ok (.ireturn, 1) := by decide +kernel
theorem pn6 : plainName "com/example/gard/gard/redis/AcquireAnswer" = true := by first | (simp [plainName, overriddenIn]; done) | decide +kernel
theorem ef6 (m : MethodId) (x0 : Addr) (x1 : Int64) : entryFrame m #[(.ref x0), (.long x1)] 3 = mkF m 0 #[.val (.ref x0), .val (.long x1), .second] [] := by first | (simp [entryFrame, mkF, argsToLocals, Value.category]; done) | rfl
def Q6 (Z : State) (a1 : Addr) (q2 : Int64) (q1 : Int64) (h0 : Heap) (n0 : Nat) (v : Option Value) (h : Heap) (L : List Loc) : Prop := v = some (.int (own_re q1 q2)) ∧ Fr n0 L ∧ h = h0
set_option maxRecDepth 65536 in
set_option maxHeartbeats 40000000 in
theorem rm6 (l : Launch) (Z : State) (a0 : Array Value) (hw : ∀ d ∈ tables_1, d.before a0 Z = true) (ws : List Jvm.Cond) (a1 : Addr) (q2 : Int64) (q1 : Int64) (h0 : Heap) (n0 : Nat) (Z0 : n0 ≤ h0.size) (F0_0 : Fld Z h0 a1 "com/example/gard/gard/redis/AcquireAnswer" "token" "J" (.long q1)) :
    MetFree l (⟨"com/example/gard/gard/redis/AcquireAnswer", "reached", "(J)Z"⟩ : MethodName) (head1 (Jvm.Cond.code (⟨"com/example/gard/gard/redis/AcquireAnswer", "reached", "(J)Z"⟩ : MethodName) prog_26_method_6_code 3 (some .boolean) :: ws) ({ frames := 0, cells := 0, slots := 0, locals := 0 } : Room)) (fun a U => a = #[(.ref a1), (.long q2)] ∧ Z.Warmed39 U.vm ∧ U.heap = h0) (fun _ _ _ _ _ => True) (fun _ U o U' => ∃ v L, o = .returned v ∧ Q6 Z a1 q2 q1 h0 n0 v U'.heap L ∧ FrameEnd U o U' L ({ frames := 0, cells := 0, slots := 0, locals := 0 } : Room).cells ({ frames := 0, cells := 0, slots := 0, locals := 0 } : Room).slots) := by
  refine MetFree.of_bodySF (plainFor_of_name pn6) hisR ?_
  intro p e s m args below meth c s₁ Bd hml0 hP hK
  obtain ⟨rfl, hZ, hh⟩ := hP
  have hx := Bd.exec
  have hby := Bd.bytes
  have hml : c.maxLocals = 3 := hml0
  have hown : s.vm.findClass "com/example/gard/gard/redis/AcquireAnswer" = some m.cls := findClass_of_methodNamed Bd.named
  have hnm := (name_of_methodNamed Bd.named Bd.method).1
  have X0 : Stand p l e ({ frames := 0, cells := 0, slots := 0, locals := 0 } : Room) s m #[(.ref a1), (.long q2)] below meth c s₁ [] 0 0 := Stand.of_body Bd
  have e0 : s₁.heap = h0 := by rw [← hh, Bd.state]; rfl
  have N0 := Fr.nil n0
  refine (show own_G p.tables e below (own_P s (Q6 Z a1 q2 q1 h0 n0) 0 0) (s₁.setTop (entryFrame m #[(.ref a1), (.long q2)] 3)) from ?_)
  refine own_via (fun t k => castTop (ef6 m a1 q2) k) ?_
  show own_G p.tables e below _ (s₁.setTop (mkF m 0 #[.val (.ref a1), .val (.long q2), .second] []))
  refine own_via (S' := s₁.setTop (mkF m 1 #[.val (.ref a1), .val (.long q2), .second] [(.ref a1)])) (fun t k => ?_) ?_
  · show Steps p.tables e below (s₁.setTop (mkF m 0 #[.val (.ref a1), .val (.long q2), .second] [])) t
    refine XS.aloadN X0.here hx rfl (hb hby d6_0) rfl rfl ?_
    exact k
  obtain ⟨T1, X1, e1, st1⟩ := getF X0 hx hZ hown (host := "") (Or.inl (hw _ (List.mem_of_getElem? (i := 14) rfl))) Via.refl e0 F0_0 (g := (mkF m 1 #[.val (.ref a1), .val (.long q2), .second] [(.ref a1)])) rfl rfl (hb hby d6_1)
  refine own_via st1 ?_
  show own_G p.tables e below _ (T1.setTop (mkF m 4 #[.val (.ref a1), .val (.long q2), .second] [(.long q1)]))
  refine own_via (S' := T1.setTop (mkF m 6 #[.val (.ref a1), .val (.long q2), .second] [(.int (lcmpW q1 q2))])) (fun t k => ?_) ?_
  · show Steps p.tables e below (T1.setTop (mkF m 4 #[.val (.ref a1), .val (.long q2), .second] [(.long q1)])) t
    refine XS.lloadN X1.here hx rfl (hb hby d6_4) rfl ?_
    show Steps p.tables e below (T1.setTop (mkF m 5 #[.val (.ref a1), .val (.long q2), .second] [(.long q2), (.long q1)])) t
    refine XS.lcmp X1.here hx rfl (hb hby d6_5) rfl ?_
    exact k
  by_cases hc6_2 : q1 < q2
  · refine own_via (S' := T1.setTop (mkF m 13 #[.val (.ref a1), .val (.long q2), .second] [])) (fun t k => XS.ifYes (g := (mkF m 6 #[.val (.ref a1), .val (.long q2), .second] [(.int (lcmpW q1 q2))])) X1.here hx rfl (pc0 := 6) (pc' := 13) rfl (hb hby d6_6) rfl ((if0 _ _).trans (tlt ((lw_lt q1 q2).mpr hc6_2)).1) (by decide) (by decide) k) ?_
    refine own_via (S' := T1.setTop (mkF m 14 #[.val (.ref a1), .val (.long q2), .second] [(.int (0 : Int32))])) (fun t k => ?_) ?_
    · show Steps p.tables e below (T1.setTop (mkF m 13 #[.val (.ref a1), .val (.long q2), .second] [])) t
      refine XS.iconst X1.here hx rfl (hb hby d6_13) ?_
      exact k
    exact own_end (h := h0) X1 (v := some (.int (0 : Int32))) Bd.notSynchronized (fun h => by rw [Bd.returns] at h; cases h) (fun fs hr => retN X1 hx (t := .boolean) Bd.returns (by simp) (hb hby d6_14) hr) e1 ⟨by show some (Value.int _) = some (Value.int _); congr 2; unfold own_re; grind, N0, rfl⟩ (by decide) (by decide)
  · refine own_via (S' := T1.setTop (mkF m 9 #[.val (.ref a1), .val (.long q2), .second] [])) (fun t k => XS.ifNo (g := (mkF m 6 #[.val (.ref a1), .val (.long q2), .second] [(.int (lcmpW q1 q2))])) X1.here hx rfl (hb hby d6_6) rfl ((if0 _ _).trans (flt (fun q => hc6_2 ((lw_lt q1 q2).mp q))).1) k) ?_
    refine own_via (S' := T1.setTop (mkF m 14 #[.val (.ref a1), .val (.long q2), .second] [(.int (1 : Int32))])) (fun t k => ?_) ?_
    · show Steps p.tables e below (T1.setTop (mkF m 9 #[.val (.ref a1), .val (.long q2), .second] [])) t
      refine XS.iconst X1.here hx rfl (hb hby d6_9) ?_
      show Steps p.tables e below (T1.setTop (mkF m 10 #[.val (.ref a1), .val (.long q2), .second] [(.int (1 : Int32))])) t
      refine XS.goto X1.here hx rfl (pc0 := 10) (pc' := 14) rfl (hb hby d6_10) (by decide) (by decide) ?_
      exact k
    exact own_end (h := h0) X1 (v := some (.int (1 : Int32))) Bd.notSynchronized (fun h => by rw [Bd.returns] at h; cases h) (fun fs hr => retN X1 hx (t := .boolean) Bd.returns (by simp) (hb hby d6_14) hr) e1 ⟨by show some (Value.int _) = some (Value.int _); congr 2; unfold own_re; grind, N0, rfl⟩ (by decide) (by decide)
theorem d8_0 : decode prog_26_method_4_code 0 = .ok (.aload_n 0, 1) := by decide +kernel
theorem d8_1 : decode prog_26_method_4_code 1 = .ok (.getfield 19, 3) := by decide +kernel
theorem d8_4 : decode prog_26_method_4_code 4 = .ok (.ldc2_w 41, 3) := by decide +kernel
theorem d8_7 : decode prog_26_method_4_code 7 = .ok (.lcmp, 1) := by decide +kernel
theorem d8_8 : decode prog_26_method_4_code 8 = .ok (.ifCond .eq 7, 3) := by decide +kernel
theorem d8_11 : decode prog_26_method_4_code 11 = .ok (.iconst 1, 1) := by decide +kernel
theorem d8_12 : decode prog_26_method_4_code 12 = .ok (.goto 4, 3) := by decide +kernel
theorem d8_15 : decode prog_26_method_4_code 15 = .ok (.iconst 0, 1) := by decide +kernel
theorem d8_16 : decode prog_26_method_4_code 16 = .ok (.ireturn, 1) := by decide +kernel
theorem pn8 : plainName "com/example/gard/gard/redis/AcquireAnswer" = true := by first | (simp [plainName, overriddenIn]; done) | decide +kernel
theorem ef8 (m : MethodId) (x0 : Addr) : entryFrame m #[(.ref x0)] 1 = mkF m 0 #[.val (.ref x0)] [] := by first | (simp [entryFrame, mkF, argsToLocals, Value.category]; done) | rfl
def Q8 (Z : State) (a1 : Addr) (q1 : Int64) (h0 : Heap) (n0 : Nat) (v : Option Value) (h : Heap) (L : List Loc) : Prop := v = some (.int (own_qu q1)) ∧ Fr n0 L ∧ h = h0
set_option maxRecDepth 65536 in
set_option maxHeartbeats 40000000 in
theorem rm8 (l : Launch) (Z : State) (a0 : Array Value) (hw : ∀ d ∈ tables_1, d.before a0 Z = true) (ws : List Jvm.Cond) (a1 : Addr) (q1 : Int64) (h0 : Heap) (n0 : Nat) (Z0 : n0 ≤ h0.size) (F0_0 : Fld Z h0 a1 "com/example/gard/gard/redis/AcquireAnswer" "quarantineLeft" "J" (.long q1)) :
    MetFree l (⟨"com/example/gard/gard/redis/AcquireAnswer", "quarantined", "()Z"⟩ : MethodName) (head1 (Jvm.Cond.code (⟨"com/example/gard/gard/redis/AcquireAnswer", "quarantined", "()Z"⟩ : MethodName) prog_26_method_4_code 1 (some .boolean) :: ws) ({ frames := 0, cells := 0, slots := 0, locals := 0 } : Room)) (fun a U => a = #[(.ref a1)] ∧ Z.Warmed39 U.vm ∧ U.heap = h0) (fun _ _ _ _ _ => True) (fun _ U o U' => ∃ v L, o = .returned v ∧ Q8 Z a1 q1 h0 n0 v U'.heap L ∧ FrameEnd U o U' L ({ frames := 0, cells := 0, slots := 0, locals := 0 } : Room).cells ({ frames := 0, cells := 0, slots := 0, locals := 0 } : Room).slots) := by
  refine MetFree.of_bodySF (plainFor_of_name pn8) hisR ?_
  intro p e s m args below meth c s₁ Bd hml0 hP hK
  obtain ⟨rfl, hZ, hh⟩ := hP
  have hx := Bd.exec
  have hby := Bd.bytes
  have hml : c.maxLocals = 1 := hml0
  have hown : s.vm.findClass "com/example/gard/gard/redis/AcquireAnswer" = some m.cls := findClass_of_methodNamed Bd.named
  have hnm := (name_of_methodNamed Bd.named Bd.method).1
  have X0 : Stand p l e ({ frames := 0, cells := 0, slots := 0, locals := 0 } : Room) s m #[(.ref a1)] below meth c s₁ [] 0 0 := Stand.of_body Bd
  have e0 : s₁.heap = h0 := by rw [← hh, Bd.state]; rfl
  have N0 := Fr.nil n0
  refine (show own_G p.tables e below (own_P s (Q8 Z a1 q1 h0 n0) 0 0) (s₁.setTop (entryFrame m #[(.ref a1)] 1)) from ?_)
  refine own_via (fun t k => castTop (ef8 m a1) k) ?_
  show own_G p.tables e below _ (s₁.setTop (mkF m 0 #[.val (.ref a1)] []))
  refine own_via (S' := s₁.setTop (mkF m 1 #[.val (.ref a1)] [(.ref a1)])) (fun t k => ?_) ?_
  · show Steps p.tables e below (s₁.setTop (mkF m 0 #[.val (.ref a1)] [])) t
    refine XS.aloadN X0.here hx rfl (hb hby d8_0) rfl rfl ?_
    exact k
  obtain ⟨T1, X1, e1, st1⟩ := getF X0 hx hZ hown (host := "") (Or.inl (hw _ (List.mem_of_getElem? (i := 20) rfl))) Via.refl e0 F0_0 (g := (mkF m 1 #[.val (.ref a1)] [(.ref a1)])) rfl rfl (hb hby d8_1)
  refine own_via st1 ?_
  show own_G p.tables e below _ (T1.setTop (mkF m 4 #[.val (.ref a1)] [(.long q1)]))
  refine own_via (S' := T1.setTop (mkF m 8 #[.val (.ref a1)] [(.int (lcmpW q1 (-2 : Int64)))])) (fun t k => ?_) ?_
  · show Steps p.tables e below (T1.setTop (mkF m 4 #[.val (.ref a1)] [(.long q1)])) t
    refine X1.ldc2Long hx hown (mvT hZ (hw _ (List.mem_of_getElem? (i := 50) rfl))) (g := (mkF m 4 #[.val (.ref a1)] [(.long q1)])) rfl (hb hby d8_4) _ ?_
    show Steps p.tables e below (T1.setTop (mkF m 7 #[.val (.ref a1)] [(.long (-2 : Int64)), (.long q1)])) t
    refine XS.lcmp X1.here hx rfl (hb hby d8_7) rfl ?_
    exact k
  by_cases hc8_2 : q1 = (-2 : Int64)
  · refine own_via (S' := T1.setTop (mkF m 15 #[.val (.ref a1)] [])) (fun t k => XS.ifYes (g := (mkF m 8 #[.val (.ref a1)] [(.int (lcmpW q1 (-2 : Int64)))])) X1.here hx rfl (pc0 := 8) (pc' := 15) rfl (hb hby d8_8) rfl ((if0 _ _).trans (teq ((lw_eq q1 (-2 : Int64)).mpr hc8_2)).1) (by decide) (by decide) k) ?_
    refine own_via (S' := T1.setTop (mkF m 16 #[.val (.ref a1)] [(.int (0 : Int32))])) (fun t k => ?_) ?_
    · show Steps p.tables e below (T1.setTop (mkF m 15 #[.val (.ref a1)] [])) t
      refine XS.iconst X1.here hx rfl (hb hby d8_15) ?_
      exact k
    exact own_end (h := h0) X1 (v := some (.int (0 : Int32))) Bd.notSynchronized (fun h => by rw [Bd.returns] at h; cases h) (fun fs hr => retN X1 hx (t := .boolean) Bd.returns (by simp) (hb hby d8_16) hr) e1 ⟨by show some (Value.int _) = some (Value.int _); congr 2; unfold own_qu; grind, N0, rfl⟩ (by decide) (by decide)
  · refine own_via (S' := T1.setTop (mkF m 11 #[.val (.ref a1)] [])) (fun t k => XS.ifNo (g := (mkF m 8 #[.val (.ref a1)] [(.int (lcmpW q1 (-2 : Int64)))])) X1.here hx rfl (hb hby d8_8) rfl ((if0 _ _).trans (feq (fun q => hc8_2 ((lw_eq q1 (-2 : Int64)).mp q))).1) k) ?_
    refine own_via (S' := T1.setTop (mkF m 16 #[.val (.ref a1)] [(.int (1 : Int32))])) (fun t k => ?_) ?_
    · show Steps p.tables e below (T1.setTop (mkF m 11 #[.val (.ref a1)] [])) t
      refine XS.iconst X1.here hx rfl (hb hby d8_11) ?_
      show Steps p.tables e below (T1.setTop (mkF m 12 #[.val (.ref a1)] [(.int (1 : Int32))])) t
      refine XS.goto X1.here hx rfl (pc0 := 12) (pc' := 16) rfl (hb hby d8_12) (by decide) (by decide) ?_
      exact k
    exact own_end (h := h0) X1 (v := some (.int (1 : Int32))) Bd.notSynchronized (fun h => by rw [Bd.returns] at h; cases h) (fun fs hr => retN X1 hx (t := .boolean) Bd.returns (by simp) (hb hby d8_16) hr) e1 ⟨by show some (Value.int _) = some (Value.int _); congr 2; unfold own_qu; grind, N0, rfl⟩ (by decide) (by decide)
theorem d7_0 : decode prog_26_method_5_code 0 = .ok (.aload_n 0, 1) := by decide +kernel
theorem d7_1 : decode prog_26_method_5_code 1 = .ok (.invokevirtual 46, 3) := by decide +kernel
theorem d7_4 : decode prog_26_method_5_code 4 = .ok (.ifCond .eq 14, 3) := by decide +kernel
theorem d7_7 : decode prog_26_method_5_code 7 = .ok (.aload_n 0, 1) := by decide +kernel
theorem d7_8 : decode prog_26_method_5_code 8 = .ok (.invokevirtual 50, 3) := by decide +kernel
theorem d7_11 : decode prog_26_method_5_code 11 = .ok (.ifCond .ne 7, 3) := by decide +kernel
theorem d7_14 : decode prog_26_method_5_code 14 = .ok (.iconst 1, 1) := by decide +kernel
theorem d7_15 : decode prog_26_method_5_code 15 = .ok (.goto 4, 3) := by decide +kernel
theorem d7_18 : decode prog_26_method_5_code 18 = .ok (.iconst 0, 1) := by decide +kernel
theorem d7_19 : decode prog_26_method_5_code 19 = .ok (.ireturn, 1) := by decide +kernel
theorem pn7 : plainName "com/example/gard/gard/redis/AcquireAnswer" = true := by first | (simp [plainName, overriddenIn]; done) | decide +kernel
theorem pd_1 : parseMethodDescriptor "()Z" = some ⟨[], some .boolean⟩ := by decide +kernel
theorem ef7 (m : MethodId) (x0 : Addr) : entryFrame m #[(.ref x0)] 1 = mkF m 0 #[.val (.ref x0)] [] := by first | (simp [entryFrame, mkF, argsToLocals, Value.category]; done) | rfl
def Q7 (Z : State) (a1 : Addr) (q1 : Int64) (q2 : Int64) (h0 : Heap) (n0 : Nat) (v : Option Value) (h : Heap) (L : List Loc) : Prop := v = some (.int (own_cg q1 q2)) ∧ Fr n0 L ∧ h = h0
set_option maxRecDepth 65536 in
set_option maxHeartbeats 40000000 in
theorem rm7 (l : Launch) (Z : State) (a0 : Array Value) (hw : ∀ d ∈ tables_1, d.before a0 Z = true) (ws : List Jvm.Cond) (a1 : Addr) (q1 : Int64) (q2 : Int64) (h0 : Heap) (n0 : Nat) (Z0 : n0 ≤ h0.size) (F0_0 : Fld Z h0 a1 "com/example/gard/gard/redis/AcquireAnswer" "token" "J" (.long q1)) (F1_0 : Fld Z h0 a1 "com/example/gard/gard/redis/AcquireAnswer" "quarantineLeft" "J" (.long q2)) (E_a1 : Exa Z h0 a1 "com/example/gard/gard/redis/AcquireAnswer") :
    MetFree l (⟨"com/example/gard/gard/redis/AcquireAnswer", "countsAsGrant", "()Z"⟩ : MethodName) (head1 (Jvm.Cond.code (⟨"com/example/gard/gard/redis/AcquireAnswer", "countsAsGrant", "()Z"⟩ : MethodName) prog_26_method_5_code 1 (some .boolean) :: ws) ({ frames := 1, cells := 0, slots := 0, locals := 12 } : Room)) (fun a U => a = #[(.ref a1)] ∧ Z.Warmed39 U.vm ∧ U.heap = h0) (fun _ _ _ _ _ => True) (fun _ U o U' => ∃ v L, o = .returned v ∧ Q7 Z a1 q1 q2 h0 n0 v U'.heap L ∧ FrameEnd U o U' L ({ frames := 1, cells := 0, slots := 0, locals := 12 } : Room).cells ({ frames := 1, cells := 0, slots := 0, locals := 12 } : Room).slots) := by
  refine MetFree.of_bodySF (plainFor_of_name pn7) hisR ?_
  intro p e s m args below meth c s₁ Bd hml0 hP hK
  obtain ⟨rfl, hZ, hh⟩ := hP
  have hx := Bd.exec
  have hby := Bd.bytes
  have hml : c.maxLocals = 1 := hml0
  have hown : s.vm.findClass "com/example/gard/gard/redis/AcquireAnswer" = some m.cls := findClass_of_methodNamed Bd.named
  have hnm := (name_of_methodNamed Bd.named Bd.method).1
  have X0 : Stand p l e ({ frames := 1, cells := 0, slots := 0, locals := 12 } : Room) s m #[(.ref a1)] below meth c s₁ [] 0 0 := Stand.of_body Bd
  have e0 : s₁.heap = h0 := by rw [← hh, Bd.state]; rfl
  have N0 := Fr.nil n0
  refine (show own_G p.tables e below (own_P s (Q7 Z a1 q1 q2 h0 n0) 0 0) (s₁.setTop (entryFrame m #[(.ref a1)] 1)) from ?_)
  refine own_via (fun t k => castTop (ef7 m a1) k) ?_
  show own_G p.tables e below _ (s₁.setTop (mkF m 0 #[.val (.ref a1)] []))
  refine own_via (S' := s₁.setTop (mkF m 1 #[.val (.ref a1)] [(.ref a1)])) (fun t k => ?_) ?_
  · show Steps p.tables e below (s₁.setTop (mkF m 0 #[.val (.ref a1)] [])) t
    refine XS.aloadN X0.here hx rfl (hb hby d7_0) rfl rfl ?_
    exact k
  obtain ⟨cq1, kq1, q1a, q1b, q1c⟩ := isOf hZ e0 E_a1
  obtain ⟨_, _, ⟨T1, L1, k1, n1⟩, -, X1, ⟨Lc1, hQ1, l1, y1, z1⟩, st1⟩ := X0.virtualBack hx (y := (⟨"com/example/gard/gard/redis/AcquireAnswer", "granted", "()Z"⟩ : MethodName)) (z := (⟨"com/example/gard/gard/redis/AcquireAnswer", "granted", "()Z"⟩ : MethodName)) hown (mvT hZ (hw _ (List.mem_of_getElem? (i := 44) rfl))) (mvT hZ (hw _ (List.mem_of_getElem? (i := 26) rfl))) (notFace_of_selects (args := #[]) (mvT hZ (hw _ (List.mem_of_getElem? (i := 28) rfl)))) (mvT hZ (hw _ (List.mem_of_getElem? (i := 28) rfl))) (mvT hZ (hw _ (List.mem_of_getElem? (i := 27) rfl))) (by decide) (backOf (W := 0) (rm4 l Z a0 hw [] a1 q1 h0 n0 Z0 F0_0) hZ (hw _ (List.mem_of_getElem? (i := 29) rfl)) (hw _ (List.mem_of_getElem? (i := 2) rfl)) (by decide) (by decide)) q1a q1c (g := (mkF m 1 #[.val (.ref a1)] [(.ref a1)])) rfl (by rw [hml]; rfl) (Steps.refl _) (argsL := []) (rest := []) (lenOf pd_1 rfl) rfl (by show 2 * 0 + _ ≤ _; exact Nat.le_of_eq rfl) (hb hby d7_1) (fun _ _ => ⟨rfl, e0, (by decide : 0 + 0 ≤ _), (by decide : 0 + 0 ≤ _)⟩)
  dsimp only [Pt.U, Pt.locs, Pt.cells, Pt.slots] at X1 l1 y1 z1 st1 hQ1
  subst l1 y1 z1
  obtain ⟨rfl, Nq1, hh1⟩ := hQ1
  have N1 := Fr.app N0 Nq1
  refine own_via (fun t k => st1.trans k) ?_
  show own_G p.tables e below _ (T1.setTop (mkF m 4 #[.val (.ref a1)] [(.int (own_gr q1))]))
  by_cases hc4_2 : (own_gr q1) = (0 : Int32)
  · refine own_via (S' := T1.setTop (mkF m 18 #[.val (.ref a1)] [])) (fun t k => XS.ifYes (g := (mkF m 4 #[.val (.ref a1)] [(.int (own_gr q1))])) X1.here hx rfl (pc0 := 4) (pc' := 18) rfl (hb hby d7_4) rfl ((if0 _ _).trans (teq hc4_2).1) (by decide) (by decide) k) ?_
    refine own_via (S' := T1.setTop (mkF m 19 #[.val (.ref a1)] [(.int (0 : Int32))])) (fun t k => ?_) ?_
    · show Steps p.tables e below (T1.setTop (mkF m 18 #[.val (.ref a1)] [])) t
      refine XS.iconst X1.here hx rfl (hb hby d7_18) ?_
      exact k
    exact own_end (h := h0) X1 (v := some (.int (0 : Int32))) Bd.notSynchronized (fun h => by rw [Bd.returns] at h; cases h) (fun fs hr => retN X1 hx (t := .boolean) Bd.returns (by simp) (hb hby d7_19) hr) hh1 ⟨by show some (Value.int _) = some (Value.int _); congr 2; unfold own_cg; grind, N1, rfl⟩ (by decide) (by decide)
  · refine own_via (S' := T1.setTop (mkF m 7 #[.val (.ref a1)] [])) (fun t k => XS.ifNo (g := (mkF m 4 #[.val (.ref a1)] [(.int (own_gr q1))])) X1.here hx rfl (hb hby d7_4) rfl ((if0 _ _).trans (feq hc4_2).1) k) ?_
    refine own_via (S' := T1.setTop (mkF m 8 #[.val (.ref a1)] [(.ref a1)])) (fun t k => ?_) ?_
    · show Steps p.tables e below (T1.setTop (mkF m 7 #[.val (.ref a1)] [])) t
      refine XS.aloadN X1.here hx rfl (hb hby d7_7) rfl rfl ?_
      exact k
    obtain ⟨cq3, kq3, q3a, q3b, q3c⟩ := isOf hZ hh1 E_a1
    obtain ⟨_, _, ⟨T3, L3, k3, n3⟩, -, X3, ⟨Lc3, hQ3, l3, y3, z3⟩, st3⟩ := X1.virtualBack hx (y := (⟨"com/example/gard/gard/redis/AcquireAnswer", "quarantined", "()Z"⟩ : MethodName)) (z := (⟨"com/example/gard/gard/redis/AcquireAnswer", "quarantined", "()Z"⟩ : MethodName)) hown (mvT hZ (hw _ (List.mem_of_getElem? (i := 45) rfl))) (mvT hZ (hw _ (List.mem_of_getElem? (i := 46) rfl))) (notFace_of_selects (args := #[]) (mvT hZ (hw _ (List.mem_of_getElem? (i := 48) rfl)))) (mvT hZ (hw _ (List.mem_of_getElem? (i := 48) rfl))) (mvT hZ (hw _ (List.mem_of_getElem? (i := 47) rfl))) (by decide) (backOf (W := 0) (rm8 l Z a0 hw [] a1 q2 h0 n0 Z0 F1_0) hZ (hw _ (List.mem_of_getElem? (i := 49) rfl)) (hw _ (List.mem_of_getElem? (i := 2) rfl)) (by decide) (by decide)) q3a q3c (g := (mkF m 8 #[.val (.ref a1)] [(.ref a1)])) rfl (by rw [hml]; rfl) (Steps.refl _) (argsL := []) (rest := []) (lenOf pd_1 rfl) rfl (by show 2 * 0 + _ ≤ _; exact Nat.le_of_eq rfl) (hb hby d7_8) (fun _ _ => ⟨rfl, hh1, (by decide : 0 + 0 ≤ _), (by decide : 0 + 0 ≤ _)⟩)
    dsimp only [Pt.U, Pt.locs, Pt.cells, Pt.slots] at X3 l3 y3 z3 st3 hQ3
    subst l3 y3 z3
    obtain ⟨rfl, Nq3, hh3⟩ := hQ3
    have N3 := Fr.app N1 Nq3
    refine own_via (fun t k => st3.trans k) ?_
    show own_G p.tables e below _ (T3.setTop (mkF m 11 #[.val (.ref a1)] [(.int (own_qu q2))]))
    by_cases hc11_4 : (own_qu q2) = (0 : Int32)
    · refine own_via (S' := T3.setTop (mkF m 14 #[.val (.ref a1)] [])) (fun t k => XS.ifNo (g := (mkF m 11 #[.val (.ref a1)] [(.int (own_qu q2))])) X3.here hx rfl (hb hby d7_11) rfl ((if0 _ _).trans (teq hc11_4).2) k) ?_
      refine own_via (S' := T3.setTop (mkF m 19 #[.val (.ref a1)] [(.int (1 : Int32))])) (fun t k => ?_) ?_
      · show Steps p.tables e below (T3.setTop (mkF m 14 #[.val (.ref a1)] [])) t
        refine XS.iconst X3.here hx rfl (hb hby d7_14) ?_
        show Steps p.tables e below (T3.setTop (mkF m 15 #[.val (.ref a1)] [(.int (1 : Int32))])) t
        refine XS.goto X3.here hx rfl (pc0 := 15) (pc' := 19) rfl (hb hby d7_15) (by decide) (by decide) ?_
        exact k
      exact own_end (h := h0) X3 (v := some (.int (1 : Int32))) Bd.notSynchronized (fun h => by rw [Bd.returns] at h; cases h) (fun fs hr => retN X3 hx (t := .boolean) Bd.returns (by simp) (hb hby d7_19) hr) hh3 ⟨by show some (Value.int _) = some (Value.int _); congr 2; unfold own_cg; grind, N3, rfl⟩ (by decide) (by decide)
    · refine own_via (S' := T3.setTop (mkF m 18 #[.val (.ref a1)] [])) (fun t k => XS.ifYes (g := (mkF m 11 #[.val (.ref a1)] [(.int (own_qu q2))])) X3.here hx rfl (pc0 := 11) (pc' := 18) rfl (hb hby d7_11) rfl ((if0 _ _).trans (feq hc11_4).2) (by decide) (by decide) k) ?_
      refine own_via (S' := T3.setTop (mkF m 19 #[.val (.ref a1)] [(.int (0 : Int32))])) (fun t k => ?_) ?_
      · show Steps p.tables e below (T3.setTop (mkF m 18 #[.val (.ref a1)] [])) t
        refine XS.iconst X3.here hx rfl (hb hby d7_18) ?_
        exact k
      exact own_end (h := h0) X3 (v := some (.int (0 : Int32))) Bd.notSynchronized (fun h => by rw [Bd.returns] at h; cases h) (fun fs hr => retN X3 hx (t := .boolean) Bd.returns (by simp) (hb hby d7_19) hr) hh3 ⟨by show some (Value.int _) = some (Value.int _); congr 2; unfold own_cg; grind, N3, rfl⟩ (by decide) (by decide)
theorem pn0 : plainName "com/example/gard/gard/redis/AcquireAnswerGrantedPinLaw" = true := by first | (simp [plainName, overriddenIn]; done) | decide +kernel
theorem pd_2 : parseMethodDescriptor "(JJJJJ)V" = some ⟨[.long, .long, .long, .long, .long], none⟩ := by decide +kernel
theorem pd_3 : parseMethodDescriptor "(J)Z" = some ⟨[.long], some .boolean⟩ := by decide +kernel
theorem ef0 (m : MethodId) (x0 : Int64) (x1 : Int64) (x2 : Int64) (x3 : Int64) (x4 : Int64) : entryFrame m #[(.long x0), (.long x1), (.long x2), (.long x3), (.long x4)] maxLocals = mkF m 0 #[.val (.long x0), .second, .val (.long x1), .second, .val (.long x2), .second, .val (.long x3), .second, .val (.long x4), .second, .unset, .unset, .unset, .unset] [] := by first | (simp [entryFrame, mkF, argsToLocals, Value.category, maxLocals]; done) | rfl
def Q0 (Z : State) (q1 : Int64) (q2 : Int64) (q3 : Int64) (q4 : Int64) (q5 : Int64) (h0 : Heap) (n0 : Nat) (v : Option Value) (h : Heap) (L : List Loc) : Prop := v = some (.int 1) ∧ Fr n0 L
set_option maxRecDepth 65536 in
set_option maxHeartbeats 40000000 in
theorem rm0 (l : Launch) (Z : State) (a0 : Array Value) (hw : ∀ d ∈ tables_1, d.before a0 Z = true) (ws : List Jvm.Cond) (q1 : Int64) (q2 : Int64) (q3 : Int64) (q4 : Int64) (q5 : Int64) (h0 : Heap) (n0 : Nat) (Z0 : n0 ≤ h0.size) :
    MetFree l x (head1 (Jvm.Cond.code x code maxLocals ret :: ws) room_1) (fun a U => a = #[(.long q1), (.long q2), (.long q3), (.long q4), (.long q5)] ∧ Z.Warmed39 U.vm ∧ U.heap = h0) (fun _ _ _ _ _ => True) (fun _ U o U' => ∃ v L, o = .returned v ∧ Q0 Z q1 q2 q3 q4 q5 h0 n0 v U'.heap L ∧ FrameEnd U o U' L 16 128) := by
  refine MetFree.of_bodySF (plainFor_of_name pn0) hisR ?_
  intro p e s m args below meth c s₁ Bd hml0 hP hK
  obtain ⟨rfl, hZ, hh⟩ := hP
  have hx := Bd.exec
  have hby := Bd.bytes
  have hml : c.maxLocals = 14 := hml0
  have hown : s.vm.findClass "com/example/gard/gard/redis/AcquireAnswerGrantedPinLaw" = some m.cls := findClass_of_methodNamed Bd.named
  have hnm := (name_of_methodNamed Bd.named Bd.method).1
  have X0 : Stand p l e room_1 s m #[(.long q1), (.long q2), (.long q3), (.long q4), (.long q5)] below meth c s₁ [] 0 0 := Stand.of_body Bd
  have e0 : s₁.heap = h0 := by rw [← hh, Bd.state]; rfl
  have N0 := Fr.nil n0
  refine (show own_G p.tables e below (own_P s (Q0 Z q1 q2 q3 q4 q5 h0 n0) 16 128) (s₁.setTop (entryFrame m #[(.long q1), (.long q2), (.long q3), (.long q4), (.long q5)] maxLocals)) from ?_)
  refine own_via (fun t k => castTop (ef0 m q1 q2 q3 q4 q5) k) ?_
  show own_G p.tables e below _ (s₁.setTop (mkF m 0 #[.val (.long q1), .second, .val (.long q2), .second, .val (.long q3), .second, .val (.long q4), .second, .val (.long q5), .second, .unset, .unset, .unset, .unset] []))
  have K0 := Keep.refl h0 []
  obtain ⟨T1, h1, X1, e1, E1, A1, D1, -, st1⟩ := newO X0 hx hZ hown (hw _ (List.mem_of_getElem? (i := 0) rfl)) (hw _ (List.mem_of_getElem? (i := 1) rfl)) (hw _ (List.mem_of_getElem? (i := 2) rfl)) e0 (g := (mkF m 0 #[.val (.long q1), .second, .val (.long q2), .second, .val (.long q3), .second, .val (.long q4), .second, .val (.long q5), .second, .unset, .unset, .unset, .unset] [])) rfl (hb hby at_0) (by decide) (by decide)
  obtain ⟨b1, g1⟩ : ∃ z, z = h0.size := ⟨_, rfl⟩
  have g_b1 : n0 ≤ b1 := Nat.le_trans (Nat.le_trans Z0 K0.1) (Nat.le_of_eq g1.symm)
  have sz_b1 : h0.size ≤ b1 := Nat.le_trans K0.1 (Nat.le_of_eq g1.symm)
  rw [← g1] at A1 D1 st1
  have K1 : Keep h0 h1 [] := Keep.ext K0 E1
  have F_token_b1 : Fld Z h1 b1 "com/example/gard/gard/redis/AcquireAnswer" "token" "J" (.long (0 : Int64)) := D1 (Or.inr (hw _ (List.mem_of_getElem? (i := 15) rfl))) (ty := .long) (by decide)
  have F_left_b1 : Fld Z h1 b1 "com/example/gard/gard/redis/AcquireAnswer" "left" "J" (.long (0 : Int64)) := D1 (Or.inr (hw _ (List.mem_of_getElem? (i := 17) rfl))) (ty := .long) (by decide)
  have F_stamp_b1 : Fld Z h1 b1 "com/example/gard/gard/redis/AcquireAnswer" "stamp" "J" (.long (0 : Int64)) := D1 (Or.inr (hw _ (List.mem_of_getElem? (i := 19) rfl))) (ty := .long) (by decide)
  have F_quarantineLeft_b1 : Fld Z h1 b1 "com/example/gard/gard/redis/AcquireAnswer" "quarantineLeft" "J" (.long (0 : Int64)) := D1 (Or.inr (hw _ (List.mem_of_getElem? (i := 21) rfl))) (ty := .long) (by decide)
  have F_micros_b1 : Fld Z h1 b1 "com/example/gard/gard/redis/AcquireAnswer" "micros" "J" (.long (0 : Int64)) := D1 (Or.inr (hw _ (List.mem_of_getElem? (i := 23) rfl))) (ty := .long) (by decide)
  refine own_via st1 ?_
  show own_G p.tables e below _ (T1.setTop (mkF m 3 #[.val (.long q1), .second, .val (.long q2), .second, .val (.long q3), .second, .val (.long q4), .second, .val (.long q5), .second, .unset, .unset, .unset, .unset] [(.ref b1)]))
  refine own_via (S' := T1.setTop (mkF m 12 #[.val (.long q1), .second, .val (.long q2), .second, .val (.long q3), .second, .val (.long q4), .second, .val (.long q5), .second, .unset, .unset, .unset, .unset] [(.long q5), (.long q4), (.long q3), (.long q2), (.long q1), (.ref b1), (.ref b1)])) (fun t k => ?_) ?_
  · show Steps p.tables e below (T1.setTop (mkF m 3 #[.val (.long q1), .second, .val (.long q2), .second, .val (.long q3), .second, .val (.long q4), .second, .val (.long q5), .second, .unset, .unset, .unset, .unset] [(.ref b1)])) t
    refine XS.dup X1.here hx rfl (hb hby at_3) rfl rfl ?_
    show Steps p.tables e below (T1.setTop (mkF m 4 #[.val (.long q1), .second, .val (.long q2), .second, .val (.long q3), .second, .val (.long q4), .second, .val (.long q5), .second, .unset, .unset, .unset, .unset] [(.ref b1), (.ref b1)])) t
    refine XS.lloadN X1.here hx rfl (hb hby at_4) rfl ?_
    show Steps p.tables e below (T1.setTop (mkF m 5 #[.val (.long q1), .second, .val (.long q2), .second, .val (.long q3), .second, .val (.long q4), .second, .val (.long q5), .second, .unset, .unset, .unset, .unset] [(.long q1), (.ref b1), (.ref b1)])) t
    refine XS.lloadN X1.here hx rfl (hb hby at_5) rfl ?_
    show Steps p.tables e below (T1.setTop (mkF m 6 #[.val (.long q1), .second, .val (.long q2), .second, .val (.long q3), .second, .val (.long q4), .second, .val (.long q5), .second, .unset, .unset, .unset, .unset] [(.long q2), (.long q1), (.ref b1), (.ref b1)])) t
    refine XS.lload X1.here hx rfl (hb hby at_6) rfl ?_
    show Steps p.tables e below (T1.setTop (mkF m 8 #[.val (.long q1), .second, .val (.long q2), .second, .val (.long q3), .second, .val (.long q4), .second, .val (.long q5), .second, .unset, .unset, .unset, .unset] [(.long q3), (.long q2), (.long q1), (.ref b1), (.ref b1)])) t
    refine XS.lload X1.here hx rfl (hb hby at_8) rfl ?_
    show Steps p.tables e below (T1.setTop (mkF m 10 #[.val (.long q1), .second, .val (.long q2), .second, .val (.long q3), .second, .val (.long q4), .second, .val (.long q5), .second, .unset, .unset, .unset, .unset] [(.long q4), (.long q3), (.long q2), (.long q1), (.ref b1), (.ref b1)])) t
    refine XS.lload X1.here hx rfl (hb hby at_10) rfl ?_
    exact k
  obtain ⟨_, _, ⟨T2, L2, k2, n2⟩, -, X2, ⟨Lc2, hQ2, l2, y2, z2⟩, st2⟩ := X1.specialBack hx (y := (⟨"com/example/gard/gard/redis/AcquireAnswer", "<init>", "(JJJJJ)V"⟩ : MethodName)) rfl hown (mvT hZ (hw _ (List.mem_of_getElem? (i := 3) rfl))) (mvT hZ (hw _ (List.mem_of_getElem? (i := 4) rfl))) (mvT hZ (hw _ (List.mem_of_getElem? (i := 5) rfl))) (by decide) (backOf (W := 1) (rm1 l Z a0 hw [] b1 q1 q2 q3 q4 q5 h1 n0 (Nat.le_trans Z0 K1.1) F_token_b1 F_left_b1 F_stamp_b1 F_quarantineLeft_b1 F_micros_b1 A1 g_b1 ) hZ (hw _ (List.mem_of_getElem? (i := 5) rfl)) (hw _ (List.mem_of_getElem? (i := 2) rfl)) (by decide) (by decide)) (g := (mkF m 12 #[.val (.long q1), .second, .val (.long q2), .second, .val (.long q3), .second, .val (.long q4), .second, .val (.long q5), .second, .unset, .unset, .unset, .unset] [(.long q5), (.long q4), (.long q3), (.long q2), (.long q1), (.ref b1), (.ref b1)])) rfl (by rw [hml]; rfl) (Steps.refl _) (a := b1) (argsL := [(.long q1), (.long q2), (.long q3), (.long q4), (.long q5)]) (rest := [(.ref b1)]) (lenOf pd_2 rfl) rfl (by show 2 * 0 + _ ≤ _; exact Nat.le_of_eq rfl) (hb hby at_12) (fun _ _ => ⟨rfl, e1, (by decide : 1 + 0 ≤ _), (by decide : 5 + 0 ≤ _)⟩)
  dsimp only [Pt.U, Pt.locs, Pt.cells, Pt.slots] at X2 l2 y2 z2 st2 hQ2
  subst l2 y2 z2
  obtain ⟨rfl, Nq2, Kc2, Ec2, Fc2_0, Fc2_1, Fc2_2, Fc2_3, Fc2_4⟩ := hQ2
  have N2 := Fr.app N0 Nq2
  refine own_via (fun t k => st2.trans k) ?_
  show own_G p.tables e below _ (T2.setTop (mkF m 15 #[.val (.long q1), .second, .val (.long q2), .second, .val (.long q3), .second, .val (.long q4), .second, .val (.long q5), .second, .unset, .unset, .unset, .unset] [(.ref b1)]))
  have K2 : Keep h0 T2.heap [] := Keep.trans K1 Kc2 (allS (Or.inr sz_b1) all0)
  refine own_via (S' := T2.setTop (mkF m 17 #[.val (.long q1), .second, .val (.long q2), .second, .val (.long q3), .second, .val (.long q4), .second, .val (.long q5), .second, .val (.ref b1), .unset, .unset, .unset] [])) (fun t k => ?_) ?_
  · show Steps p.tables e below (T2.setTop (mkF m 15 #[.val (.long q1), .second, .val (.long q2), .second, .val (.long q3), .second, .val (.long q4), .second, .val (.long q5), .second, .unset, .unset, .unset, .unset] [(.ref b1)])) t
    refine XS.astore X2.here hx rfl (hb hby at_15) rfl rfl (l' := #[.val (.long q1), .second, .val (.long q2), .second, .val (.long q3), .second, .val (.long q4), .second, .val (.long q5), .second, .val (.ref b1), .unset, .unset, .unset]) rfl ?_
    exact k
  obtain ⟨T3, h3, X3, e3, E3, A3, D3, -, st3⟩ := newO X2 hx hZ hown (hw _ (List.mem_of_getElem? (i := 0) rfl)) (hw _ (List.mem_of_getElem? (i := 1) rfl)) (hw _ (List.mem_of_getElem? (i := 2) rfl)) rfl (g := (mkF m 17 #[.val (.long q1), .second, .val (.long q2), .second, .val (.long q3), .second, .val (.long q4), .second, .val (.long q5), .second, .val (.ref b1), .unset, .unset, .unset] [])) rfl (hb hby at_17) (by decide) (by decide)
  obtain ⟨b3, g3⟩ : ∃ z, z = T2.heap.size := ⟨_, rfl⟩
  have ne_b1_b3 : b1 ≠ b3 := Nat.ne_of_lt (Nat.lt_of_lt_of_le (Ec2).lt (Nat.le_of_eq g3.symm))
  have g_b3 : n0 ≤ b3 := Nat.le_trans (Nat.le_trans Z0 K2.1) (Nat.le_of_eq g3.symm)
  have sz_b3 : h0.size ≤ b3 := Nat.le_trans K2.1 (Nat.le_of_eq g3.symm)
  rw [← g3] at A3 D3 st3
  have K3 : Keep h0 h3 [] := Keep.ext K2 E3
  have F_token_b3 : Fld Z h3 b3 "com/example/gard/gard/redis/AcquireAnswer" "token" "J" (.long (0 : Int64)) := D3 (Or.inr (hw _ (List.mem_of_getElem? (i := 15) rfl))) (ty := .long) (by decide)
  have F_left_b3 : Fld Z h3 b3 "com/example/gard/gard/redis/AcquireAnswer" "left" "J" (.long (0 : Int64)) := D3 (Or.inr (hw _ (List.mem_of_getElem? (i := 17) rfl))) (ty := .long) (by decide)
  have F_stamp_b3 : Fld Z h3 b3 "com/example/gard/gard/redis/AcquireAnswer" "stamp" "J" (.long (0 : Int64)) := D3 (Or.inr (hw _ (List.mem_of_getElem? (i := 19) rfl))) (ty := .long) (by decide)
  have F_quarantineLeft_b3 : Fld Z h3 b3 "com/example/gard/gard/redis/AcquireAnswer" "quarantineLeft" "J" (.long (0 : Int64)) := D3 (Or.inr (hw _ (List.mem_of_getElem? (i := 21) rfl))) (ty := .long) (by decide)
  have F_micros_b3 : Fld Z h3 b3 "com/example/gard/gard/redis/AcquireAnswer" "micros" "J" (.long (0 : Int64)) := D3 (Or.inr (hw _ (List.mem_of_getElem? (i := 23) rfl))) (ty := .long) (by decide)
  refine own_via st3 ?_
  show own_G p.tables e below _ (T3.setTop (mkF m 20 #[.val (.long q1), .second, .val (.long q2), .second, .val (.long q3), .second, .val (.long q4), .second, .val (.long q5), .second, .val (.ref b1), .unset, .unset, .unset] [(.ref b3)]))
  refine own_via (S' := T3.setTop (mkF m 29 #[.val (.long q1), .second, .val (.long q2), .second, .val (.long q3), .second, .val (.long q4), .second, .val (.long q5), .second, .val (.ref b1), .unset, .unset, .unset] [(.long q5), (.long q4), (.long q3), (.long q2), (.long (0 : Int64)), (.ref b3), (.ref b3)])) (fun t k => ?_) ?_
  · show Steps p.tables e below (T3.setTop (mkF m 20 #[.val (.long q1), .second, .val (.long q2), .second, .val (.long q3), .second, .val (.long q4), .second, .val (.long q5), .second, .val (.ref b1), .unset, .unset, .unset] [(.ref b3)])) t
    refine XS.dup X3.here hx rfl (hb hby at_20) rfl rfl ?_
    show Steps p.tables e below (T3.setTop (mkF m 21 #[.val (.long q1), .second, .val (.long q2), .second, .val (.long q3), .second, .val (.long q4), .second, .val (.long q5), .second, .val (.ref b1), .unset, .unset, .unset] [(.ref b3), (.ref b3)])) t
    refine XS.lconst X3.here hx rfl (hb hby at_21) ?_
    show Steps p.tables e below (T3.setTop (mkF m 22 #[.val (.long q1), .second, .val (.long q2), .second, .val (.long q3), .second, .val (.long q4), .second, .val (.long q5), .second, .val (.ref b1), .unset, .unset, .unset] [(.long (0 : Int64)), (.ref b3), (.ref b3)])) t
    refine XS.lloadN X3.here hx rfl (hb hby at_22) rfl ?_
    show Steps p.tables e below (T3.setTop (mkF m 23 #[.val (.long q1), .second, .val (.long q2), .second, .val (.long q3), .second, .val (.long q4), .second, .val (.long q5), .second, .val (.ref b1), .unset, .unset, .unset] [(.long q2), (.long (0 : Int64)), (.ref b3), (.ref b3)])) t
    refine XS.lload X3.here hx rfl (hb hby at_23) rfl ?_
    show Steps p.tables e below (T3.setTop (mkF m 25 #[.val (.long q1), .second, .val (.long q2), .second, .val (.long q3), .second, .val (.long q4), .second, .val (.long q5), .second, .val (.ref b1), .unset, .unset, .unset] [(.long q3), (.long q2), (.long (0 : Int64)), (.ref b3), (.ref b3)])) t
    refine XS.lload X3.here hx rfl (hb hby at_25) rfl ?_
    show Steps p.tables e below (T3.setTop (mkF m 27 #[.val (.long q1), .second, .val (.long q2), .second, .val (.long q3), .second, .val (.long q4), .second, .val (.long q5), .second, .val (.ref b1), .unset, .unset, .unset] [(.long q4), (.long q3), (.long q2), (.long (0 : Int64)), (.ref b3), (.ref b3)])) t
    refine XS.lload X3.here hx rfl (hb hby at_27) rfl ?_
    exact k
  obtain ⟨_, _, ⟨T4, L4, k4, n4⟩, -, X4, ⟨Lc4, hQ4, l4, y4, z4⟩, st4⟩ := X3.specialBack hx (y := (⟨"com/example/gard/gard/redis/AcquireAnswer", "<init>", "(JJJJJ)V"⟩ : MethodName)) rfl hown (mvT hZ (hw _ (List.mem_of_getElem? (i := 3) rfl))) (mvT hZ (hw _ (List.mem_of_getElem? (i := 4) rfl))) (mvT hZ (hw _ (List.mem_of_getElem? (i := 5) rfl))) (by decide) (backOf (W := 1) (rm1 l Z a0 hw [] b3 (0 : Int64) q2 q3 q4 q5 h3 n0 (Nat.le_trans Z0 K3.1) F_token_b3 F_left_b3 F_stamp_b3 F_quarantineLeft_b3 F_micros_b3 A3 g_b3 ) hZ (hw _ (List.mem_of_getElem? (i := 5) rfl)) (hw _ (List.mem_of_getElem? (i := 2) rfl)) (by decide) (by decide)) (g := (mkF m 29 #[.val (.long q1), .second, .val (.long q2), .second, .val (.long q3), .second, .val (.long q4), .second, .val (.long q5), .second, .val (.ref b1), .unset, .unset, .unset] [(.long q5), (.long q4), (.long q3), (.long q2), (.long (0 : Int64)), (.ref b3), (.ref b3)])) rfl (by rw [hml]; rfl) (Steps.refl _) (a := b3) (argsL := [(.long (0 : Int64)), (.long q2), (.long q3), (.long q4), (.long q5)]) (rest := [(.ref b3)]) (lenOf pd_2 rfl) rfl (by show 2 * 0 + _ ≤ _; exact Nat.le_of_eq rfl) (hb hby at_29) (fun _ _ => ⟨rfl, e3, (by decide : 2 + 0 ≤ _), (by decide : 10 + 0 ≤ _)⟩)
  dsimp only [Pt.U, Pt.locs, Pt.cells, Pt.slots] at X4 l4 y4 z4 st4 hQ4
  subst l4 y4 z4
  obtain ⟨rfl, Nq4, Kc4, Ec4, Fc4_0, Fc4_1, Fc4_2, Fc4_3, Fc4_4⟩ := hQ4
  have N4 := Fr.app N2 Nq4
  refine own_via (fun t k => st4.trans k) ?_
  show own_G p.tables e below _ (T4.setTop (mkF m 32 #[.val (.long q1), .second, .val (.long q2), .second, .val (.long q3), .second, .val (.long q4), .second, .val (.long q5), .second, .val (.ref b1), .unset, .unset, .unset] [(.ref b3)]))
  have K4 : Keep h0 T4.heap [] := Keep.trans K3 Kc4 (allS (Or.inr sz_b3) all0)
  refine own_via (S' := T4.setTop (mkF m 34 #[.val (.long q1), .second, .val (.long q2), .second, .val (.long q3), .second, .val (.long q4), .second, .val (.long q5), .second, .val (.ref b1), .val (.ref b3), .unset, .unset] [])) (fun t k => ?_) ?_
  · show Steps p.tables e below (T4.setTop (mkF m 32 #[.val (.long q1), .second, .val (.long q2), .second, .val (.long q3), .second, .val (.long q4), .second, .val (.long q5), .second, .val (.ref b1), .unset, .unset, .unset] [(.ref b3)])) t
    refine XS.astore X4.here hx rfl (hb hby at_32) rfl rfl (l' := #[.val (.long q1), .second, .val (.long q2), .second, .val (.long q3), .second, .val (.long q4), .second, .val (.long q5), .second, .val (.ref b1), .val (.ref b3), .unset, .unset]) rfl ?_
    exact k
  obtain ⟨T5, h5, X5, e5, E5, A5, D5, -, st5⟩ := newO X4 hx hZ hown (hw _ (List.mem_of_getElem? (i := 0) rfl)) (hw _ (List.mem_of_getElem? (i := 1) rfl)) (hw _ (List.mem_of_getElem? (i := 2) rfl)) rfl (g := (mkF m 34 #[.val (.long q1), .second, .val (.long q2), .second, .val (.long q3), .second, .val (.long q4), .second, .val (.long q5), .second, .val (.ref b1), .val (.ref b3), .unset, .unset] [])) rfl (hb hby at_34) (by decide) (by decide)
  have c6 := (Exa.keep (Exa.ext E3 Ec2) Kc4)
  obtain ⟨b5, g5⟩ : ∃ z, z = T4.heap.size := ⟨_, rfl⟩
  have ne_b1_b5 : b1 ≠ b5 := Nat.ne_of_lt (Nat.lt_of_lt_of_le (c6).lt (Nat.le_of_eq g5.symm))
  have ne_b3_b5 : b3 ≠ b5 := Nat.ne_of_lt (Nat.lt_of_lt_of_le (Ec4).lt (Nat.le_of_eq g5.symm))
  have g_b5 : n0 ≤ b5 := Nat.le_trans (Nat.le_trans Z0 K4.1) (Nat.le_of_eq g5.symm)
  have sz_b5 : h0.size ≤ b5 := Nat.le_trans K4.1 (Nat.le_of_eq g5.symm)
  rw [← g5] at A5 D5 st5
  have K5 : Keep h0 h5 [] := Keep.ext K4 E5
  have F_token_b5 : Fld Z h5 b5 "com/example/gard/gard/redis/AcquireAnswer" "token" "J" (.long (0 : Int64)) := D5 (Or.inr (hw _ (List.mem_of_getElem? (i := 15) rfl))) (ty := .long) (by decide)
  have F_left_b5 : Fld Z h5 b5 "com/example/gard/gard/redis/AcquireAnswer" "left" "J" (.long (0 : Int64)) := D5 (Or.inr (hw _ (List.mem_of_getElem? (i := 17) rfl))) (ty := .long) (by decide)
  have F_stamp_b5 : Fld Z h5 b5 "com/example/gard/gard/redis/AcquireAnswer" "stamp" "J" (.long (0 : Int64)) := D5 (Or.inr (hw _ (List.mem_of_getElem? (i := 19) rfl))) (ty := .long) (by decide)
  have F_quarantineLeft_b5 : Fld Z h5 b5 "com/example/gard/gard/redis/AcquireAnswer" "quarantineLeft" "J" (.long (0 : Int64)) := D5 (Or.inr (hw _ (List.mem_of_getElem? (i := 21) rfl))) (ty := .long) (by decide)
  have F_micros_b5 : Fld Z h5 b5 "com/example/gard/gard/redis/AcquireAnswer" "micros" "J" (.long (0 : Int64)) := D5 (Or.inr (hw _ (List.mem_of_getElem? (i := 23) rfl))) (ty := .long) (by decide)
  refine own_via st5 ?_
  show own_G p.tables e below _ (T5.setTop (mkF m 37 #[.val (.long q1), .second, .val (.long q2), .second, .val (.long q3), .second, .val (.long q4), .second, .val (.long q5), .second, .val (.ref b1), .val (.ref b3), .unset, .unset] [(.ref b5)]))
  refine own_via (S' := T5.setTop (mkF m 47 #[.val (.long q1), .second, .val (.long q2), .second, .val (.long q3), .second, .val (.long q4), .second, .val (.long q5), .second, .val (.ref b1), .val (.ref b3), .unset, .unset] [(.long q5), (.long (-2 : Int64)), (.long q3), (.long q2), (.long q1), (.ref b5), (.ref b5)])) (fun t k => ?_) ?_
  · show Steps p.tables e below (T5.setTop (mkF m 37 #[.val (.long q1), .second, .val (.long q2), .second, .val (.long q3), .second, .val (.long q4), .second, .val (.long q5), .second, .val (.ref b1), .val (.ref b3), .unset, .unset] [(.ref b5)])) t
    refine XS.dup X5.here hx rfl (hb hby at_37) rfl rfl ?_
    show Steps p.tables e below (T5.setTop (mkF m 38 #[.val (.long q1), .second, .val (.long q2), .second, .val (.long q3), .second, .val (.long q4), .second, .val (.long q5), .second, .val (.ref b1), .val (.ref b3), .unset, .unset] [(.ref b5), (.ref b5)])) t
    refine XS.lloadN X5.here hx rfl (hb hby at_38) rfl ?_
    show Steps p.tables e below (T5.setTop (mkF m 39 #[.val (.long q1), .second, .val (.long q2), .second, .val (.long q3), .second, .val (.long q4), .second, .val (.long q5), .second, .val (.ref b1), .val (.ref b3), .unset, .unset] [(.long q1), (.ref b5), (.ref b5)])) t
    refine XS.lloadN X5.here hx rfl (hb hby at_39) rfl ?_
    show Steps p.tables e below (T5.setTop (mkF m 40 #[.val (.long q1), .second, .val (.long q2), .second, .val (.long q3), .second, .val (.long q4), .second, .val (.long q5), .second, .val (.ref b1), .val (.ref b3), .unset, .unset] [(.long q2), (.long q1), (.ref b5), (.ref b5)])) t
    refine XS.lload X5.here hx rfl (hb hby at_40) rfl ?_
    show Steps p.tables e below (T5.setTop (mkF m 42 #[.val (.long q1), .second, .val (.long q2), .second, .val (.long q3), .second, .val (.long q4), .second, .val (.long q5), .second, .val (.ref b1), .val (.ref b3), .unset, .unset] [(.long q3), (.long q2), (.long q1), (.ref b5), (.ref b5)])) t
    refine X5.ldc2Long hx hown (mvT hZ (hw _ (List.mem_of_getElem? (i := 24) rfl))) (g := (mkF m 42 #[.val (.long q1), .second, .val (.long q2), .second, .val (.long q3), .second, .val (.long q4), .second, .val (.long q5), .second, .val (.ref b1), .val (.ref b3), .unset, .unset] [(.long q3), (.long q2), (.long q1), (.ref b5), (.ref b5)])) rfl (hb hby at_42) _ ?_
    show Steps p.tables e below (T5.setTop (mkF m 45 #[.val (.long q1), .second, .val (.long q2), .second, .val (.long q3), .second, .val (.long q4), .second, .val (.long q5), .second, .val (.ref b1), .val (.ref b3), .unset, .unset] [(.long (-2 : Int64)), (.long q3), (.long q2), (.long q1), (.ref b5), (.ref b5)])) t
    refine XS.lload X5.here hx rfl (hb hby at_45) rfl ?_
    exact k
  obtain ⟨_, _, ⟨T7, L7, k7, n7⟩, -, X7, ⟨Lc7, hQ7, l7, y7, z7⟩, st7⟩ := X5.specialBack hx (y := (⟨"com/example/gard/gard/redis/AcquireAnswer", "<init>", "(JJJJJ)V"⟩ : MethodName)) rfl hown (mvT hZ (hw _ (List.mem_of_getElem? (i := 3) rfl))) (mvT hZ (hw _ (List.mem_of_getElem? (i := 4) rfl))) (mvT hZ (hw _ (List.mem_of_getElem? (i := 5) rfl))) (by decide) (backOf (W := 1) (rm1 l Z a0 hw [] b5 q1 q2 q3 (-2 : Int64) q5 h5 n0 (Nat.le_trans Z0 K5.1) F_token_b5 F_left_b5 F_stamp_b5 F_quarantineLeft_b5 F_micros_b5 A5 g_b5 ) hZ (hw _ (List.mem_of_getElem? (i := 5) rfl)) (hw _ (List.mem_of_getElem? (i := 2) rfl)) (by decide) (by decide)) (g := (mkF m 47 #[.val (.long q1), .second, .val (.long q2), .second, .val (.long q3), .second, .val (.long q4), .second, .val (.long q5), .second, .val (.ref b1), .val (.ref b3), .unset, .unset] [(.long q5), (.long (-2 : Int64)), (.long q3), (.long q2), (.long q1), (.ref b5), (.ref b5)])) rfl (by rw [hml]; rfl) (Steps.refl _) (a := b5) (argsL := [(.long q1), (.long q2), (.long q3), (.long (-2 : Int64)), (.long q5)]) (rest := [(.ref b5)]) (lenOf pd_2 rfl) rfl (by show 2 * 0 + _ ≤ _; exact Nat.le_of_eq rfl) (hb hby at_47) (fun _ _ => ⟨rfl, e5, (by decide : 3 + 0 ≤ _), (by decide : 15 + 0 ≤ _)⟩)
  dsimp only [Pt.U, Pt.locs, Pt.cells, Pt.slots] at X7 l7 y7 z7 st7 hQ7
  subst l7 y7 z7
  obtain ⟨rfl, Nq7, Kc7, Ec7, Fc7_0, Fc7_1, Fc7_2, Fc7_3, Fc7_4⟩ := hQ7
  have N7 := Fr.app N4 Nq7
  refine own_via (fun t k => st7.trans k) ?_
  show own_G p.tables e below _ (T7.setTop (mkF m 50 #[.val (.long q1), .second, .val (.long q2), .second, .val (.long q3), .second, .val (.long q4), .second, .val (.long q5), .second, .val (.ref b1), .val (.ref b3), .unset, .unset] [(.ref b5)]))
  have K7 : Keep h0 T7.heap [] := Keep.trans K5 Kc7 (allS (Or.inr sz_b5) all0)
  refine own_via (S' := T7.setTop (mkF m 54 #[.val (.long q1), .second, .val (.long q2), .second, .val (.long q3), .second, .val (.long q4), .second, .val (.long q5), .second, .val (.ref b1), .val (.ref b3), .val (.ref b5), .unset] [(.ref b1)])) (fun t k => ?_) ?_
  · show Steps p.tables e below (T7.setTop (mkF m 50 #[.val (.long q1), .second, .val (.long q2), .second, .val (.long q3), .second, .val (.long q4), .second, .val (.long q5), .second, .val (.ref b1), .val (.ref b3), .unset, .unset] [(.ref b5)])) t
    refine XS.astore X7.here hx rfl (hb hby at_50) rfl rfl (l' := #[.val (.long q1), .second, .val (.long q2), .second, .val (.long q3), .second, .val (.long q4), .second, .val (.long q5), .second, .val (.ref b1), .val (.ref b3), .val (.ref b5), .unset]) rfl ?_
    show Steps p.tables e below (T7.setTop (mkF m 52 #[.val (.long q1), .second, .val (.long q2), .second, .val (.long q3), .second, .val (.long q4), .second, .val (.long q5), .second, .val (.ref b1), .val (.ref b3), .val (.ref b5), .unset] [])) t
    refine XS.aload X7.here hx rfl (hb hby at_52) rfl rfl ?_
    exact k
  have c8 := (Fld.keep (Fld.ext E5 (Fld.keep (Fld.ext E3 Fc2_0) Kc4 (ninS ne_b1_b3 nin0))) Kc7 (ninS ne_b1_b5 nin0))
  have c10 := (Exa.keep (Exa.ext E5 c6) Kc7)
  obtain ⟨cq9, kq9, q9a, q9b, q9c⟩ := isOf hZ rfl c10
  obtain ⟨_, _, ⟨T9, L9, k9, n9⟩, -, X9, ⟨Lc9, hQ9, l9, y9, z9⟩, st9⟩ := X7.virtualBack hx (y := (⟨"com/example/gard/gard/redis/AcquireAnswer", "granted", "()Z"⟩ : MethodName)) (z := (⟨"com/example/gard/gard/redis/AcquireAnswer", "granted", "()Z"⟩ : MethodName)) hown (mvT hZ (hw _ (List.mem_of_getElem? (i := 25) rfl))) (mvT hZ (hw _ (List.mem_of_getElem? (i := 26) rfl))) (notFace_of_selects (args := #[]) (mvT hZ (hw _ (List.mem_of_getElem? (i := 28) rfl)))) (mvT hZ (hw _ (List.mem_of_getElem? (i := 28) rfl))) (mvT hZ (hw _ (List.mem_of_getElem? (i := 27) rfl))) (by decide) (backOf (W := 0) (rm4 l Z a0 hw [] b1 q1 T7.heap n0 (Nat.le_trans Z0 K7.1) c8) hZ (hw _ (List.mem_of_getElem? (i := 29) rfl)) (hw _ (List.mem_of_getElem? (i := 2) rfl)) (by decide) (by decide)) q9a q9c (g := (mkF m 54 #[.val (.long q1), .second, .val (.long q2), .second, .val (.long q3), .second, .val (.long q4), .second, .val (.long q5), .second, .val (.ref b1), .val (.ref b3), .val (.ref b5), .unset] [(.ref b1)])) rfl (by rw [hml]; rfl) (Steps.refl _) (argsL := []) (rest := []) (lenOf pd_1 rfl) rfl (by show 2 * 0 + _ ≤ _; exact Nat.le_of_eq rfl) (hb hby at_54) (fun _ _ => ⟨rfl, rfl, (by decide : 3 + 0 ≤ _), (by decide : 15 + 0 ≤ _)⟩)
  dsimp only [Pt.U, Pt.locs, Pt.cells, Pt.slots] at X9 l9 y9 z9 st9 hQ9
  subst l9 y9 z9
  obtain ⟨rfl, Nq9, hh9⟩ := hQ9
  have N9 := Fr.app N7 Nq9
  refine own_via (fun t k => st9.trans k) ?_
  show own_G p.tables e below _ (T9.setTop (mkF m 57 #[.val (.long q1), .second, .val (.long q2), .second, .val (.long q3), .second, .val (.long q4), .second, .val (.long q5), .second, .val (.ref b1), .val (.ref b3), .val (.ref b5), .unset] [(.int (own_gr q1))]))
  refine own_via (S' := T9.setTop (mkF m 62 #[.val (.long q1), .second, .val (.long q2), .second, .val (.long q3), .second, .val (.long q4), .second, .val (.long q5), .second, .val (.ref b1), .val (.ref b3), .val (.ref b5), .val (.int (own_gr q1))] [(.long q1), (.int (own_gr q1))])) (fun t k => ?_) ?_
  · show Steps p.tables e below (T9.setTop (mkF m 57 #[.val (.long q1), .second, .val (.long q2), .second, .val (.long q3), .second, .val (.long q4), .second, .val (.long q5), .second, .val (.ref b1), .val (.ref b3), .val (.ref b5), .unset] [(.int (own_gr q1))])) t
    refine XS.istore X9.here hx rfl (hb hby at_57) rfl (l' := #[.val (.long q1), .second, .val (.long q2), .second, .val (.long q3), .second, .val (.long q4), .second, .val (.long q5), .second, .val (.ref b1), .val (.ref b3), .val (.ref b5), .val (.int (own_gr q1))]) rfl ?_
    show Steps p.tables e below (T9.setTop (mkF m 59 #[.val (.long q1), .second, .val (.long q2), .second, .val (.long q3), .second, .val (.long q4), .second, .val (.long q5), .second, .val (.ref b1), .val (.ref b3), .val (.ref b5), .val (.int (own_gr q1))] [])) t
    refine XS.iload X9.here hx rfl (hb hby at_59) rfl ?_
    show Steps p.tables e below (T9.setTop (mkF m 61 #[.val (.long q1), .second, .val (.long q2), .second, .val (.long q3), .second, .val (.long q4), .second, .val (.long q5), .second, .val (.ref b1), .val (.ref b3), .val (.ref b5), .val (.int (own_gr q1))] [(.int (own_gr q1))])) t
    refine XS.lloadN X9.here hx rfl (hb hby at_61) rfl ?_
    exact k
  obtain ⟨_, _, ⟨T11, L11, k11, n11⟩, -, X11, ⟨Lc11, hQ11, l11, y11, z11⟩, st11⟩ := Jvm.LawKit.callS X9 hx (y := (⟨"com/example/gard/gard/redis/AcquireAnswerGrantedPinLaw", "expectedGranted", "(J)Z"⟩ : MethodName)) hown (mvT hZ (hw _ (List.mem_of_getElem? (i := 30) rfl))) (mvT hZ (hw _ (List.mem_of_getElem? (i := 31) rfl))) (mvT hZ (hw _ (List.mem_of_getElem? (i := 32) rfl))) (mvT hZ (hw _ (List.mem_of_getElem? (i := 33) rfl))) (by decide) (backOf (W := 1) (rm5 l Z a0 hw [] q1 T7.heap n0 (Nat.le_trans Z0 K7.1)) hZ (hw _ (List.mem_of_getElem? (i := 33) rfl)) (hw _ (List.mem_of_getElem? (i := 32) rfl)) (by decide) (by decide)) (g := (mkF m 62 #[.val (.long q1), .second, .val (.long q2), .second, .val (.long q3), .second, .val (.long q4), .second, .val (.long q5), .second, .val (.ref b1), .val (.ref b3), .val (.ref b5), .val (.int (own_gr q1))] [(.long q1), (.int (own_gr q1))])) rfl (by rw [hml]; rfl) (argsL := [(.long q1)]) (rest := [(.int (own_gr q1))]) (lenOf pd_3 rfl) rfl (by show 2 * 0 + _ ≤ _; exact Nat.le_of_eq rfl) (hb hby at_62) (fun _ _ => ⟨rfl, hh9, (by decide : 3 + 0 ≤ _), (by decide : 15 + 0 ≤ _)⟩)
  dsimp only [Pt.U, Pt.locs, Pt.cells, Pt.slots] at X11 l11 y11 z11 st11 hQ11
  subst l11 y11 z11
  obtain ⟨rfl, Nq11, hh11⟩ := hQ11
  have N11 := Fr.app N9 Nq11
  refine own_via st11 ?_
  show own_G p.tables e below _ (T11.setTop (mkF m 65 #[.val (.long q1), .second, .val (.long q2), .second, .val (.long q3), .second, .val (.long q4), .second, .val (.long q5), .second, .val (.ref b1), .val (.ref b3), .val (.ref b5), .val (.int (own_gr q1))] [(.int (own_gr q1)), (.int (own_gr q1))]))
  refine own_via (S' := T11.setTop (mkF m 70 #[.val (.long q1), .second, .val (.long q2), .second, .val (.long q3), .second, .val (.long q4), .second, .val (.long q5), .second, .val (.ref b1), .val (.ref b3), .val (.ref b5), .val (.int (own_gr q1))] [])) (fun t k => XS.icmpYes (g := (mkF m 65 #[.val (.long q1), .second, .val (.long q2), .second, .val (.long q3), .second, .val (.long q4), .second, .val (.long q5), .second, .val (.ref b1), .val (.ref b3), .val (.ref b5), .val (.int (own_gr q1))] [(.int (own_gr q1)), (.int (own_gr q1))])) X11.here hx rfl (pc0 := 65) (pc' := 70) rfl (hb hby at_65) rfl (teq (rfl : (own_gr q1) = (own_gr q1))).1 (by decide) (by decide) k) ?_
  refine own_via (S' := T11.setTop (mkF m 72 #[.val (.long q1), .second, .val (.long q2), .second, .val (.long q3), .second, .val (.long q4), .second, .val (.long q5), .second, .val (.ref b1), .val (.ref b3), .val (.ref b5), .val (.int (own_gr q1))] [(.ref b3)])) (fun t k => ?_) ?_
  · show Steps p.tables e below (T11.setTop (mkF m 70 #[.val (.long q1), .second, .val (.long q2), .second, .val (.long q3), .second, .val (.long q4), .second, .val (.long q5), .second, .val (.ref b1), .val (.ref b3), .val (.ref b5), .val (.int (own_gr q1))] [])) t
    refine XS.aload X11.here hx rfl (hb hby at_70) rfl rfl ?_
    exact k
  have c13 := (Fld.keep (Fld.ext E5 Fc4_0) Kc7 (ninS ne_b3_b5 nin0))
  have c15 := (Exa.keep (Exa.ext E5 Ec4) Kc7)
  obtain ⟨cq14, kq14, q14a, q14b, q14c⟩ := isOf hZ hh11 c15
  obtain ⟨_, _, ⟨T14, L14, k14, n14⟩, -, X14, ⟨Lc14, hQ14, l14, y14, z14⟩, st14⟩ := X11.virtualBack hx (y := (⟨"com/example/gard/gard/redis/AcquireAnswer", "granted", "()Z"⟩ : MethodName)) (z := (⟨"com/example/gard/gard/redis/AcquireAnswer", "granted", "()Z"⟩ : MethodName)) hown (mvT hZ (hw _ (List.mem_of_getElem? (i := 25) rfl))) (mvT hZ (hw _ (List.mem_of_getElem? (i := 26) rfl))) (notFace_of_selects (args := #[]) (mvT hZ (hw _ (List.mem_of_getElem? (i := 28) rfl)))) (mvT hZ (hw _ (List.mem_of_getElem? (i := 28) rfl))) (mvT hZ (hw _ (List.mem_of_getElem? (i := 27) rfl))) (by decide) (backOf (W := 0) (rm4 l Z a0 hw [] b3 (0 : Int64) T7.heap n0 (Nat.le_trans Z0 K7.1) c13) hZ (hw _ (List.mem_of_getElem? (i := 29) rfl)) (hw _ (List.mem_of_getElem? (i := 2) rfl)) (by decide) (by decide)) q14a q14c (g := (mkF m 72 #[.val (.long q1), .second, .val (.long q2), .second, .val (.long q3), .second, .val (.long q4), .second, .val (.long q5), .second, .val (.ref b1), .val (.ref b3), .val (.ref b5), .val (.int (own_gr q1))] [(.ref b3)])) rfl (by rw [hml]; rfl) (Steps.refl _) (argsL := []) (rest := []) (lenOf pd_1 rfl) rfl (by show 2 * 0 + _ ≤ _; exact Nat.le_of_eq rfl) (hb hby at_72) (fun _ _ => ⟨rfl, hh11, (by decide : 3 + 0 ≤ _), (by decide : 15 + 0 ≤ _)⟩)
  dsimp only [Pt.U, Pt.locs, Pt.cells, Pt.slots] at X14 l14 y14 z14 st14 hQ14
  subst l14 y14 z14
  obtain ⟨rfl, Nq14, hh14⟩ := hQ14
  have N14 := Fr.app N11 Nq14
  refine own_via (fun t k => st14.trans k) ?_
  show own_G p.tables e below _ (T14.setTop (mkF m 75 #[.val (.long q1), .second, .val (.long q2), .second, .val (.long q3), .second, .val (.long q4), .second, .val (.long q5), .second, .val (.ref b1), .val (.ref b3), .val (.ref b5), .val (.int (own_gr q1))] [(.int (own_gr (0 : Int64)))]))
  refine own_via (S' := T14.setTop (mkF m 80 #[.val (.long q1), .second, .val (.long q2), .second, .val (.long q3), .second, .val (.long q4), .second, .val (.long q5), .second, .val (.ref b1), .val (.ref b3), .val (.ref b5), .val (.int (own_gr q1))] [])) (fun t k => XS.ifYes (g := (mkF m 75 #[.val (.long q1), .second, .val (.long q2), .second, .val (.long q3), .second, .val (.long q4), .second, .val (.long q5), .second, .val (.ref b1), .val (.ref b3), .val (.ref b5), .val (.int (own_gr q1))] [(.int (own_gr (0 : Int64)))])) X14.here hx rfl (pc0 := 75) (pc' := 80) rfl (hb hby at_75) rfl ((if0 _ _).trans (teq (by decide)).1) (by decide) (by decide) k) ?_
  refine own_via (S' := T14.setTop (mkF m 85 #[.val (.long q1), .second, .val (.long q2), .second, .val (.long q3), .second, .val (.long q4), .second, .val (.long q5), .second, .val (.ref b1), .val (.ref b3), .val (.ref b5), .val (.int (own_gr q1))] [(.long (1 : Int64)), (.ref b1), (.int (own_gr q1))])) (fun t k => ?_) ?_
  · show Steps p.tables e below (T14.setTop (mkF m 80 #[.val (.long q1), .second, .val (.long q2), .second, .val (.long q3), .second, .val (.long q4), .second, .val (.long q5), .second, .val (.ref b1), .val (.ref b3), .val (.ref b5), .val (.int (own_gr q1))] [])) t
    refine XS.iload X14.here hx rfl (hb hby at_80) rfl ?_
    show Steps p.tables e below (T14.setTop (mkF m 82 #[.val (.long q1), .second, .val (.long q2), .second, .val (.long q3), .second, .val (.long q4), .second, .val (.long q5), .second, .val (.ref b1), .val (.ref b3), .val (.ref b5), .val (.int (own_gr q1))] [(.int (own_gr q1))])) t
    refine XS.aload X14.here hx rfl (hb hby at_82) rfl rfl ?_
    show Steps p.tables e below (T14.setTop (mkF m 84 #[.val (.long q1), .second, .val (.long q2), .second, .val (.long q3), .second, .val (.long q4), .second, .val (.long q5), .second, .val (.ref b1), .val (.ref b3), .val (.ref b5), .val (.int (own_gr q1))] [(.ref b1), (.int (own_gr q1))])) t
    refine XS.lconst X14.here hx rfl (hb hby at_84) ?_
    exact k
  obtain ⟨cq17, kq17, q17a, q17b, q17c⟩ := isOf hZ hh14 c10
  obtain ⟨_, _, ⟨T17, L17, k17, n17⟩, -, X17, ⟨Lc17, hQ17, l17, y17, z17⟩, st17⟩ := X14.virtualBack hx (y := (⟨"com/example/gard/gard/redis/AcquireAnswer", "reached", "(J)Z"⟩ : MethodName)) (z := (⟨"com/example/gard/gard/redis/AcquireAnswer", "reached", "(J)Z"⟩ : MethodName)) hown (mvT hZ (hw _ (List.mem_of_getElem? (i := 34) rfl))) (mvT hZ (hw _ (List.mem_of_getElem? (i := 35) rfl))) (notFace_of_selects (args := #[]) (mvT hZ (hw _ (List.mem_of_getElem? (i := 37) rfl)))) (mvT hZ (hw _ (List.mem_of_getElem? (i := 37) rfl))) (mvT hZ (hw _ (List.mem_of_getElem? (i := 36) rfl))) (by decide) (backOf (W := 1) (rm6 l Z a0 hw [] b1 (1 : Int64) q1 T7.heap n0 (Nat.le_trans Z0 K7.1) c8) hZ (hw _ (List.mem_of_getElem? (i := 38) rfl)) (hw _ (List.mem_of_getElem? (i := 2) rfl)) (by decide) (by decide)) q17a q17c (g := (mkF m 85 #[.val (.long q1), .second, .val (.long q2), .second, .val (.long q3), .second, .val (.long q4), .second, .val (.long q5), .second, .val (.ref b1), .val (.ref b3), .val (.ref b5), .val (.int (own_gr q1))] [(.long (1 : Int64)), (.ref b1), (.int (own_gr q1))])) rfl (by rw [hml]; rfl) (Steps.refl _) (argsL := [(.long (1 : Int64))]) (rest := [(.int (own_gr q1))]) (lenOf pd_3 rfl) rfl (by show 2 * 0 + _ ≤ _; exact Nat.le_of_eq rfl) (hb hby at_85) (fun _ _ => ⟨rfl, hh14, (by decide : 3 + 0 ≤ _), (by decide : 15 + 0 ≤ _)⟩)
  dsimp only [Pt.U, Pt.locs, Pt.cells, Pt.slots] at X17 l17 y17 z17 st17 hQ17
  subst l17 y17 z17
  obtain ⟨rfl, Nq17, hh17⟩ := hQ17
  have N17 := Fr.app N14 Nq17
  refine own_via (fun t k => st17.trans k) ?_
  show own_G p.tables e below _ (T17.setTop (mkF m 88 #[.val (.long q1), .second, .val (.long q2), .second, .val (.long q3), .second, .val (.long q4), .second, .val (.long q5), .second, .val (.ref b1), .val (.ref b3), .val (.ref b5), .val (.int (own_gr q1))] [(.int (own_re q1 (1 : Int64))), (.int (own_gr q1))]))
  refine own_via (S' := T17.setTop (mkF m 93 #[.val (.long q1), .second, .val (.long q2), .second, .val (.long q3), .second, .val (.long q4), .second, .val (.long q5), .second, .val (.ref b1), .val (.ref b3), .val (.ref b5), .val (.int (own_gr q1))] [])) (fun t k => XS.icmpYes (g := (mkF m 88 #[.val (.long q1), .second, .val (.long q2), .second, .val (.long q3), .second, .val (.long q4), .second, .val (.long q5), .second, .val (.ref b1), .val (.ref b3), .val (.ref b5), .val (.int (own_gr q1))] [(.int (own_re q1 (1 : Int64))), (.int (own_gr q1))])) X17.here hx rfl (pc0 := 88) (pc' := 93) rfl (hb hby at_88) rfl (teq (own_r1 q1)).1 (by decide) (by decide) k) ?_
  refine own_via (S' := T17.setTop (mkF m 95 #[.val (.long q1), .second, .val (.long q2), .second, .val (.long q3), .second, .val (.long q4), .second, .val (.long q5), .second, .val (.ref b1), .val (.ref b3), .val (.ref b5), .val (.int (own_gr q1))] [(.ref b5)])) (fun t k => ?_) ?_
  · show Steps p.tables e below (T17.setTop (mkF m 93 #[.val (.long q1), .second, .val (.long q2), .second, .val (.long q3), .second, .val (.long q4), .second, .val (.long q5), .second, .val (.ref b1), .val (.ref b3), .val (.ref b5), .val (.int (own_gr q1))] [])) t
    refine XS.aload X17.here hx rfl (hb hby at_93) rfl rfl ?_
    exact k
  obtain ⟨cq19, kq19, q19a, q19b, q19c⟩ := isOf hZ hh17 Ec7
  obtain ⟨_, _, ⟨T19, L19, k19, n19⟩, -, X19, ⟨Lc19, hQ19, l19, y19, z19⟩, st19⟩ := X17.virtualBack hx (y := (⟨"com/example/gard/gard/redis/AcquireAnswer", "countsAsGrant", "()Z"⟩ : MethodName)) (z := (⟨"com/example/gard/gard/redis/AcquireAnswer", "countsAsGrant", "()Z"⟩ : MethodName)) hown (mvT hZ (hw _ (List.mem_of_getElem? (i := 39) rfl))) (mvT hZ (hw _ (List.mem_of_getElem? (i := 40) rfl))) (notFace_of_selects (args := #[]) (mvT hZ (hw _ (List.mem_of_getElem? (i := 42) rfl)))) (mvT hZ (hw _ (List.mem_of_getElem? (i := 42) rfl))) (mvT hZ (hw _ (List.mem_of_getElem? (i := 41) rfl))) (by decide) (backOf (W := 0) (rm7 l Z a0 hw [] b5 q1 (-2 : Int64) T7.heap n0 (Nat.le_trans Z0 K7.1) Fc7_0 Fc7_3 Ec7) hZ (hw _ (List.mem_of_getElem? (i := 43) rfl)) (hw _ (List.mem_of_getElem? (i := 2) rfl)) (by decide) (by decide)) q19a q19c (g := (mkF m 95 #[.val (.long q1), .second, .val (.long q2), .second, .val (.long q3), .second, .val (.long q4), .second, .val (.long q5), .second, .val (.ref b1), .val (.ref b3), .val (.ref b5), .val (.int (own_gr q1))] [(.ref b5)])) rfl (by rw [hml]; rfl) (Steps.refl _) (argsL := []) (rest := []) (lenOf pd_1 rfl) rfl (by show 2 * 0 + _ ≤ _; exact Nat.le_of_eq rfl) (hb hby at_95) (fun _ _ => ⟨rfl, hh17, (by decide : 3 + 0 ≤ _), (by decide : 15 + 0 ≤ _)⟩)
  dsimp only [Pt.U, Pt.locs, Pt.cells, Pt.slots] at X19 l19 y19 z19 st19 hQ19
  subst l19 y19 z19
  obtain ⟨rfl, Nq19, hh19⟩ := hQ19
  have N19 := Fr.app N17 Nq19
  refine own_via (fun t k => st19.trans k) ?_
  show own_G p.tables e below _ (T19.setTop (mkF m 98 #[.val (.long q1), .second, .val (.long q2), .second, .val (.long q3), .second, .val (.long q4), .second, .val (.long q5), .second, .val (.ref b1), .val (.ref b3), .val (.ref b5), .val (.int (own_gr q1))] [(.int (own_cg q1 (-2 : Int64)))]))
  refine own_via (S' := T19.setTop (mkF m 100 #[.val (.long q1), .second, .val (.long q2), .second, .val (.long q3), .second, .val (.long q4), .second, .val (.long q5), .second, .val (.ref b1), .val (.ref b3), .val (.ref b5), .val (.int (own_gr q1))] [(.int (own_gr q1)), (.int (own_cg q1 (-2 : Int64)))])) (fun t k => ?_) ?_
  · show Steps p.tables e below (T19.setTop (mkF m 98 #[.val (.long q1), .second, .val (.long q2), .second, .val (.long q3), .second, .val (.long q4), .second, .val (.long q5), .second, .val (.ref b1), .val (.ref b3), .val (.ref b5), .val (.int (own_gr q1))] [(.int (own_cg q1 (-2 : Int64)))])) t
    refine XS.iload X19.here hx rfl (hb hby at_98) rfl ?_
    exact k
  refine own_via (S' := T19.setTop (mkF m 105 #[.val (.long q1), .second, .val (.long q2), .second, .val (.long q3), .second, .val (.long q4), .second, .val (.long q5), .second, .val (.ref b1), .val (.ref b3), .val (.ref b5), .val (.int (own_gr q1))] [])) (fun t k => XS.icmpYes (g := (mkF m 100 #[.val (.long q1), .second, .val (.long q2), .second, .val (.long q3), .second, .val (.long q4), .second, .val (.long q5), .second, .val (.ref b1), .val (.ref b3), .val (.ref b5), .val (.int (own_gr q1))] [(.int (own_gr q1)), (.int (own_cg q1 (-2 : Int64)))])) X19.here hx rfl (pc0 := 100) (pc' := 105) rfl (hb hby at_100) rfl (teq (own_c1 q1)).1 (by decide) (by decide) k) ?_
  refine own_via (S' := T19.setTop (mkF m 106 #[.val (.long q1), .second, .val (.long q2), .second, .val (.long q3), .second, .val (.long q4), .second, .val (.long q5), .second, .val (.ref b1), .val (.ref b3), .val (.ref b5), .val (.int (own_gr q1))] [(.int (1 : Int32))])) (fun t k => ?_) ?_
  · show Steps p.tables e below (T19.setTop (mkF m 105 #[.val (.long q1), .second, .val (.long q2), .second, .val (.long q3), .second, .val (.long q4), .second, .val (.long q5), .second, .val (.ref b1), .val (.ref b3), .val (.ref b5), .val (.int (own_gr q1))] [])) t
    refine XS.iconst X19.here hx rfl (hb hby at_105) ?_
    exact k
  exact own_end (h := T7.heap) X19 (v := some (.int (1 : Int32))) Bd.notSynchronized (fun h => by rw [Bd.returns] at h; cases h) (fun fs hr => retN X19 hx (t := .boolean) Bd.returns (by simp) (hb hby at_106) hr) hh19 ⟨rfl, N19⟩ (by decide) (by decide)
set_option maxRecDepth 65536 in
set_option maxHeartbeats 40000000 in
theorem comes_1 {Post : Tables → Env → Array Value → State → Outcome → State → Prop} (hpost : ∀ tb e args s v u, (limb_1_1.after args s (.returned v) u = true ∧ limb_1_2.after args s (.returned v) u = true ∧ True) → FrameEnd s (.returned v) u (Jvm.fieldLocs frame_1_writes args s ++ Jvm.arrayLocs frame_1_arrays args s ++ Jvm.staticLocs frame_1_statics s) 16 128 → Post tb e args s (.returned v) u) :
    ArmFor flags0 classFile x code maxLocals ret World_1 tables_1 room_1 Calls_1 rest_1 Pre_1 Post := by
  intro l hfl _ _ p e ha hc hk s m args below hf hA hF happ hP
  obtain ⟨hcalls, hrest, hpre⟩ := hP
  obtain ⟨-, -, -, hnamed, -, -, -, hat⟩ := (Spec.applies_iff hf).mp happ
  obtain ⟨hg, hn⟩ := and_e (Cond.before_iff.mp (show (Jvm.Cond.and given_1 narrow_1).before args s = true from hpre))
  obtain ⟨hcount, hg0⟩ := and_e hg
  obtain ⟨ga0, hg1⟩ := and_e hg0
  obtain ⟨ga1, hg2⟩ := and_e hg1
  obtain ⟨ga2, hg3⟩ := and_e hg2
  obtain ⟨ga3, hg4⟩ := and_e hg3
  have ga4 := hg4
  obtain ⟨w0, w1, w2, w3, w4, rfl⟩ : ∃ w0 w1 w2 w3 w4 : Value, args = #[w0, w1, w2, w3, w4] := by
    have hs : args.size = 5 := by simpa [Cond.value, given_1] using hcount
    obtain ⟨L⟩ := args
    match L, hs with
    | [w0, w1, w2, w3, w4], _ => exact ⟨w0, w1, w2, w3, w4, rfl⟩
  have hw := fun d (hd : d ∈ tables_1) => atoms_spec (ws := Jvm.Cond.code x code maxLocals ret :: tables_1) hat d (List.mem_cons_of_mem _ hd)
  obtain ⟨i0, ei0⟩ := isL_v ga0
  obtain rfl : w0 = (.long i0) := Option.some.inj ei0
  obtain ⟨i1, ei1⟩ := isL_v ga1
  obtain rfl : w1 = (.long i1) := Option.some.inj ei1
  obtain ⟨i2, ei2⟩ := isL_v ga2
  obtain rfl : w2 = (.long i2) := Option.some.inj ei2
  obtain ⟨i3, ei3⟩ := isL_v ga3
  obtain rfl : w3 = (.long i3) := Option.some.inj ei3
  obtain ⟨i4, ei4⟩ := isL_v ga4
  obtain rfl : w4 = (.long i4) := Option.some.inj ei4
  obtain ⟨n, o, h1, h2, h3, _, L, rfl, ⟨rfl, N⟩, hq⟩ := rm0 l s _ hw tables_1 i0 i1 i2 i3 i4  s.heap s.heap.size (Nat.le_refl _)  p e ha hc hk s m _ below hf ((Spec.applies_iff_loose hf).mp happ).1 ⟨rfl, State.Warmed39.refl s, rfl⟩ trivial
  refine ⟨n, _, h1, h2, h3, hpost _ _ _ _ _ _ ⟨Cond.after_iff.mpr rfl, Cond.after_iff.mpr (eq_i res_at (Term.int_eval (1)) rfl), trivial⟩ ⟨hq.1, hq.2.1, (hq.2.2.sift fun y hy => Or.inr (N y hy)).mono (by decide) (by decide)⟩⟩
theorem main_1_1 : Claimed_1_1 := comes_1 fun _ _ _ _ _ _ h hF => ⟨h.1, hF⟩
theorem main_1_2 : Claimed_1_2 := comes_1 fun _ _ _ _ _ _ h hF => ⟨h.2.1, hF⟩
end Jvm.Pilot.@@N@@
namespace Jvm.Pilot.@@N@@
open Jvm Jvm.ClassFile Sem Op Lib Jvm.Free Jvm.Stand Jvm.Pilot.@@N@@.Jvm.D
/-! MADE BY PROGRAM (witnessworld.py) out of the Statement's table words and the real class files: 10 classes; the members and pool entries that the words name. The judged class is class 1, her method 2. -/
namespace start1
open Jvm.ClassFile
def u (s : String) : CpInfo := .utf8 (stringToUtf16 s)
/-- a pool by its gaps: so many unusable entries, then the entry; so many at the end -/
def gap : Nat → List CpInfo → List CpInfo
  | 0, r => r
  | n + 1, r => .unusable :: gap n r
def poolList (es : List (Nat × CpInfo)) (last : Nat) : List CpInfo := es.foldr (fun e r => gap e.1 (e.2 :: r)) (gap last [])
def pool (es : List (Nat × CpInfo)) (last : Nat) : Array CpInfo := ⟨poolList es last⟩
def fileOf (pool : Array CpInfo) (this : Nat) (attrs : Array Attribute := #[]) (ms : Array MethodInfo := #[]) (fl : Nat := 33) (sup : Nat := 0) (ifs : Array Nat := #[]) (fds : Array FieldInfo := #[]) : ClassFile where
  minorVersion := 0
  majorVersion := 65
  constantPool := pool
  accessFlags := fl
  thisClass := this
  superClass := sup
  interfaces := ifs
  fields := fds
  methods := ms
  attributes := attrs
def plain (name : String) (sup : Option ClassId) : Class where
  name := name
  kind := .ordinary
  loader := none
  accessFlags := 33
  super := sup
  interfaces := #[]
  cf := none
  fields := #[]
  methods := #[]
  instanceTypes := #[]
  staticTypes := #[]
  resolved := #[]
  callSites := []
  init := .initialized
  statics := none
  mirror := none

def pool0 : Array CpInfo := pool [(5, u "<init>"), (0, u "()V"), (1, .class_ 10), (1, u "java/lang/Object")] 113

def k0c0 : Code := { maxStack := 0, maxLocals := 1, code := object_method_1_code, exceptionTable := #[], attributes := #[] }
def k0m0 : Method := { name := "<init>", desc := "()V", sig := { parameters := [], returnType := none }, accessFlags := 1, code := some k0c0 }
/-- java/lang/Object -/
def k0 : Class := { plain "java/lang/Object" none with
  accessFlags := 33
  interfaces := #[]
  cf := some (fileOf pool0 8 #[] #[{ accessFlags := 1, nameIndex := 5, descriptorIndex := 6, attributes := #[] }] 33 0 #[] #[])
  fields := #[]
  methods := #[k0m0]
  instanceTypes := #[]
  staticTypes := #[]
  resolved := Array.replicate 124 none
  statics := none }

def pool1 : Array CpInfo := pool [(2, .class_ 4), (1, u "java/lang/Object"), (0, u "<init>"), (0, u "()V"), (0, .class_ 8), (0, u "com/example/gard/gard/redis/AcquireAnswer"), (0, .methodref 7 10), (0, .nameAndType 5 11), (0, u "(JJJJJ)V"), (0, .long 18446744073709551614), (1, .methodref 7 15), (0, .nameAndType 16 17), (0, u "granted"), (0, u "()Z"), (0, .methodref 19 20), (0, .class_ 21), (0, .nameAndType 22 23), (0, u "com/example/gard/gard/redis/AcquireAnswerGrantedPinLaw"), (0, u "expectedGranted"), (0, u "(J)Z"), (0, .methodref 7 25), (0, .nameAndType 26 23), (0, u "reached"), (0, .methodref 7 28), (0, .nameAndType 29 17), (0, u "countsAsGrant"), (3, u "law"), (0, u "(JJJJJ)Z")] 2

def k1m0 : Method := { name := "<init>", desc := "()V", sig := { parameters := [], returnType := none }, accessFlags := 2, code := none }
def k1c1 : Code := { maxStack := 4, maxLocals := 2, code := method_2_code, exceptionTable := #[], attributes := #[] }
def k1m1 : Method := { name := "expectedGranted", desc := "(J)Z", sig := { parameters := [.long], returnType := some .boolean }, accessFlags := 10, code := some k1c1 }
def k1c2 : Code := { maxStack := 12, maxLocals := 14, code := code, exceptionTable := #[], attributes := #[] }
def k1m2 : Method := { name := "law", desc := "(JJJJJ)Z", sig := { parameters := [.long, .long, .long, .long, .long], returnType := some .boolean }, accessFlags := 9, code := some k1c2 }
/-- com/example/gard/gard/redis/AcquireAnswerGrantedPinLaw -/
def k1 : Class := { plain "com/example/gard/gard/redis/AcquireAnswerGrantedPinLaw" (some 0) with
  accessFlags := 49
  interfaces := #[]
  cf := some (fileOf pool1 19 #[] #[{ accessFlags := 2, nameIndex := 5, descriptorIndex := 6, attributes := #[] }, { accessFlags := 10, nameIndex := 22, descriptorIndex := 23, attributes := #[] }, { accessFlags := 9, nameIndex := 33, descriptorIndex := 34, attributes := #[] }] 49 2 #[] #[])
  fields := #[]
  methods := #[k1m0, k1m1, k1m2]
  instanceTypes := #[]
  staticTypes := #[]
  resolved := Array.replicate 37 none
  statics := none }

def pool2 : Array CpInfo := pool [(1, .methodref 2 3), (0, .class_ 4), (0, .nameAndType 5 6), (0, u "java/lang/Object"), (0, u "<init>"), (0, u "()V"), (0, .class_ 8), (0, u "java/lang/Record")] 13

def k2c0 : Code := { maxStack := 1, maxLocals := 1, code := jdk_30_method_1_code, exceptionTable := #[], attributes := #[] }
def k2m0 : Method := { name := "<init>", desc := "()V", sig := { parameters := [], returnType := none }, accessFlags := 4, code := some k2c0 }
/-- java/lang/Record -/
def k2 : Class := { plain "java/lang/Record" (some 0) with
  accessFlags := 1057
  interfaces := #[]
  cf := some (fileOf pool2 7 #[] #[{ accessFlags := 4, nameIndex := 5, descriptorIndex := 6, attributes := #[] }] 1057 2 #[] #[])
  fields := #[]
  methods := #[k2m0]
  instanceTypes := #[]
  staticTypes := #[]
  resolved := Array.replicate 22 none
  statics := none }

def pool3 : Array CpInfo := pool [(1, .methodref 2 3), (0, .class_ 4), (0, .nameAndType 5 6), (0, u "java/lang/Record"), (0, u "<init>"), (0, u "()V"), (0, .fieldref 8 9), (0, .class_ 10), (0, .nameAndType 11 12), (0, u "com/example/gard/gard/redis/AcquireAnswer"), (0, u "token"), (0, u "J"), (0, .fieldref 8 14), (0, .nameAndType 15 12), (0, u "left"), (0, .fieldref 8 17), (0, .nameAndType 18 12), (0, u "stamp"), (0, .fieldref 8 20), (0, .nameAndType 21 12), (0, u "quarantineLeft"), (0, .fieldref 8 23), (0, .nameAndType 24 12), (0, u "micros"), (16, .long 18446744073709551614), (3, u "(JJJJJ)V"), (0, .methodref 8 47), (0, .nameAndType 48 49), (0, u "granted"), (0, u "()Z"), (0, .methodref 8 51), (0, .nameAndType 52 49), (0, u "quarantined"), (22, u "countsAsGrant"), (0, u "reached"), (0, u "(J)Z")] 28

def k3c0 : Code := { maxStack := 3, maxLocals := 11, code := prog_26_method_1_code, exceptionTable := #[], attributes := #[] }
def k3m0 : Method := { name := "<init>", desc := "(JJJJJ)V", sig := { parameters := [.long, .long, .long, .long, .long], returnType := none }, accessFlags := 0, code := some k3c0 }
def k3c1 : Code := { maxStack := 4, maxLocals := 1, code := prog_26_method_3_code, exceptionTable := #[], attributes := #[] }
def k3m1 : Method := { name := "granted", desc := "()Z", sig := { parameters := [], returnType := some .boolean }, accessFlags := 0, code := some k3c1 }
def k3c2 : Code := { maxStack := 4, maxLocals := 1, code := prog_26_method_4_code, exceptionTable := #[], attributes := #[] }
def k3m2 : Method := { name := "quarantined", desc := "()Z", sig := { parameters := [], returnType := some .boolean }, accessFlags := 0, code := some k3c2 }
def k3c3 : Code := { maxStack := 1, maxLocals := 1, code := prog_26_method_5_code, exceptionTable := #[], attributes := #[] }
def k3m3 : Method := { name := "countsAsGrant", desc := "()Z", sig := { parameters := [], returnType := some .boolean }, accessFlags := 0, code := some k3c3 }
def k3c4 : Code := { maxStack := 4, maxLocals := 3, code := prog_26_method_6_code, exceptionTable := #[], attributes := #[] }
def k3m4 : Method := { name := "reached", desc := "(J)Z", sig := { parameters := [.long], returnType := some .boolean }, accessFlags := 0, code := some k3c4 }
/-- com/example/gard/gard/redis/AcquireAnswer -/
def k3 : Class := { plain "com/example/gard/gard/redis/AcquireAnswer" (some 2) with
  accessFlags := 48
  interfaces := #[]
  cf := some (fileOf pool3 8 #[] #[{ accessFlags := 0, nameIndex := 5, descriptorIndex := 45, attributes := #[] }, { accessFlags := 0, nameIndex := 48, descriptorIndex := 49, attributes := #[] }, { accessFlags := 0, nameIndex := 52, descriptorIndex := 49, attributes := #[] }, { accessFlags := 0, nameIndex := 75, descriptorIndex := 49, attributes := #[] }, { accessFlags := 0, nameIndex := 76, descriptorIndex := 77, attributes := #[] }] 48 2 #[] #[{ accessFlags := 18, nameIndex := 11, descriptorIndex := 12, attributes := #[] }, { accessFlags := 18, nameIndex := 15, descriptorIndex := 12, attributes := #[] }, { accessFlags := 18, nameIndex := 18, descriptorIndex := 12, attributes := #[] }, { accessFlags := 18, nameIndex := 21, descriptorIndex := 12, attributes := #[] }, { accessFlags := 18, nameIndex := 24, descriptorIndex := 12, attributes := #[] }])
  fields := #[{ name := "token", type := .long, accessFlags := 18, slot := 0, constantValue := 0 }, { name := "left", type := .long, accessFlags := 18, slot := 1, constantValue := 0 }, { name := "stamp", type := .long, accessFlags := 18, slot := 2, constantValue := 0 }, { name := "quarantineLeft", type := .long, accessFlags := 18, slot := 3, constantValue := 0 }, { name := "micros", type := .long, accessFlags := 18, slot := 4, constantValue := 0 }]
  methods := #[k3m0, k3m1, k3m2, k3m3, k3m4]
  instanceTypes := #[.long, .long, .long, .long, .long]
  staticTypes := #[]
  resolved := Array.replicate 106 none
  statics := none }

def pool4 : Array CpInfo := pool [(1, u "java/lang/Cloneable"), (0, .class_ 1), (0, u "java/lang/Object"), (0, .class_ 3)] 3

/-- java/lang/Cloneable -/
def k4 : Class := { plain "java/lang/Cloneable" (some 0) with
  accessFlags := 1537
  interfaces := #[]
  cf := some (fileOf pool4 2 #[] #[] 1537 4 #[] #[])
  fields := #[]
  methods := #[]
  instanceTypes := #[]
  staticTypes := #[]
  resolved := Array.replicate 8 none
  statics := none }

def pool5 : Array CpInfo := pool [(1, u "java/io/Serializable"), (0, .class_ 1), (0, u "java/lang/Object"), (0, .class_ 3)] 3

/-- java/io/Serializable -/
def k5 : Class := { plain "java/io/Serializable" (some 0) with
  accessFlags := 1537
  interfaces := #[]
  cf := some (fileOf pool5 2 #[] #[] 1537 4 #[] #[])
  fields := #[]
  methods := #[]
  instanceTypes := #[]
  staticTypes := #[]
  resolved := Array.replicate 8 none
  statics := none }

/-- the primitive byte -/
def k6 : Class := { plain "byte" none with kind := .primitive 'B', accessFlags := 0x411 }
/-- [B -/
def k7 : Class := { plain "[B" (some 0) with kind := .array 6 .byte, interfaces := #[4, 5], accessFlags := 1041 }

/-- the primitive int -/
def k8 : Class := { plain "int" none with kind := .primitive 'I', accessFlags := 0x411 }
/-- [I -/
def k9 : Class := { plain "[I" (some 0) with kind := .array 8 .int, interfaces := #[4, 5], accessFlags := 1041 }

def heap : Heap := #[]
def classes : Array Class := #[k0, k1, k2, k3, k4, k5, k6, k7, k8, k9]
def interned : List (Array UInt16 × Addr) := []
def slotsUsed : Nat := 0
def theMethod : MethodId := ⟨1, 2⟩
def args0 : Array Value := #[.long 5, .long 7, .long 1, .long 1, .long 2]
def aboutOver (below : List Frame) : State where
  vm := { classes := classes, interned := interned.toArray }
  heap := heap
  slotsUsed := slotsUsed
  threads := #[{ frames := .invoking theMethod args0 :: below }]
def below0 : List Frame := [.native { method := ⟨0, 0⟩, args := #[] }]
def about1 : State := aboutOver below0
def p0 : Program := .bare "" "" ""
def e0 : Env := launch0.env 0 0 0
theorem w_frames : about1.frames = Frame.invoking theMethod args0 :: below0 := rfl
set_option maxRecDepth 65536 in
theorem w_args : argsFit about1.vm theMethod args0 = true := by decide +kernel
set_option maxRecDepth 65536 in
theorem w_heap : heapFits about1 = true := by decide +kernel
set_option maxRecDepth 65536 in
theorem w_runnable : about1.curStatus? = some .runnable := by decide +kernel
set_option maxRecDepth 65536 in
theorem w_alone : about1.alone = true := by decide +kernel
set_option maxRecDepth 65536 in
theorem w_named : about1.methodNamed? x = some theMethod := by decide +kernel
set_option maxRecDepth 65536 in
theorem w_hears : about1.hears theMethod below0 = true := by decide +kernel
set_option maxRecDepth 65536 in
theorem w_ripe : about1.ripe theMethod args0 below0 = true := by decide +kernel
theorem w_running : about1.status = .running := rfl
set_option maxRecDepth 65536 in
theorem w_room : about1.hasRoom e0.platform room_1 = true :=
  launch0.hasRoom_least _ room_1 (by decide +kernel) (by decide +kernel) (by decide +kernel) (by decide +kernel) (by decide +kernel) (by decide +kernel)
theorem allAtoms_all (ts : List Jvm.Cond) (a : Array Jvm.Value) (st : Jvm.State) : (allAtoms ts).before a st = ts.all (fun c => c.before a st) := by
  induction ts with
  | nil => rfl
  | cons c t ih =>
    show (Jvm.Cond.and c (allAtoms t)).before a st = _
    rw [Jvm.Cond.before_and, ih, List.all_cons]
def words1 : List Jvm.Cond := Jvm.Cond.code x code maxLocals ret :: tables_1
/-- a 'code' word, met by the world's own term for the bytes: nothing is compared byte by byte -/
theorem code_word {y : MethodName} {bytes : ByteArray} {mx : Nat} {rt : Option FieldType} {a : Array Value} {s : State} {m : MethodId} {meth : Method} {c : Code} (h1 : s.methodNamed? y = some m) (h2 : s.vm.method? m = some meth) (h3 : meth.code = some c) (h4 : c.code = bytes)
    (h5 : (c.maxLocals == mx && c.exceptionTable.isEmpty && decide (c.maxStack ≤ mostOperands) && decide (meth.sig.returnType = rt) && !meth.locks && decide (parseMethodDescriptor y.desc = some meth.sig)) = true) : (Jvm.Cond.code y bytes mx rt).before a s = true := by
  simp only [Bool.and_eq_true, beq_iff_eq, Bool.not_eq_true', decide_eq_true_eq] at h5
  obtain ⟨⟨⟨⟨⟨g1, g2⟩, g3⟩, g4⟩, g5⟩, g6⟩ := h5
  simp [Cond.before, Cond.holds, Cond.value, h1, h2, h3, h4, g1, g2, g3, g4, g5, g6]
def isCode : Jvm.Cond → Bool
  | .code _ _ _ _ => true
  | _ => false
theorem all_split {L : List Jvm.Cond} {P : Jvm.Cond → Bool} (h1 : L.all (fun c => isCode c || P c) = true) (h2 : ∀ c ∈ L.filter isCode, P c = true) : L.all P = true := by
  refine List.all_eq_true.mpr fun c hc => ?_
  have h := List.all_eq_true.mp h1 c hc
  rcases Bool.eq_false_or_eq_true (isCode c) with hi | hi
  · exact h2 c (List.mem_filter.mpr ⟨hc, hi⟩)
  · simpa [hi] using h
set_option maxRecDepth 65536 in
theorem w_c0 : (Jvm.Cond.code x code maxLocals ret).before args0 about1 = true := code_word (m := ⟨1, 2⟩) (meth := k1m2) (c := k1c2) (by decide +kernel) rfl rfl rfl (by decide +kernel)
set_option maxRecDepth 65536 in
theorem w_c1 : (Jvm.Cond.code ({ cls := "com/example/gard/gard/redis/AcquireAnswer", name := "<init>", desc := "(JJJJJ)V" } : Jvm.MethodName) prog_26_method_1_code (11 : Nat) (Option.none : Option Jvm.ClassFile.FieldType)).before args0 about1 = true := code_word (m := ⟨3, 0⟩) (meth := k3m0) (c := k3c0) (by decide +kernel) rfl rfl rfl (by decide +kernel)
set_option maxRecDepth 65536 in
theorem w_c2 : (Jvm.Cond.code ({ cls := "java/lang/Record", name := "<init>", desc := "()V" } : Jvm.MethodName) jdk_30_method_1_code (1 : Nat) (Option.none : Option Jvm.ClassFile.FieldType)).before args0 about1 = true := code_word (m := ⟨2, 0⟩) (meth := k2m0) (c := k2c0) (by decide +kernel) rfl rfl rfl (by decide +kernel)
set_option maxRecDepth 65536 in
theorem w_c3 : (Jvm.Cond.code ({ cls := "java/lang/Object", name := "<init>", desc := "()V" } : Jvm.MethodName) object_method_1_code (1 : Nat) (Option.none : Option Jvm.ClassFile.FieldType)).before args0 about1 = true := code_word (m := ⟨0, 0⟩) (meth := k0m0) (c := k0c0) (by decide +kernel) rfl rfl rfl (by decide +kernel)
set_option maxRecDepth 65536 in
theorem w_c4 : (Jvm.Cond.code ({ cls := "com/example/gard/gard/redis/AcquireAnswer", name := "granted", desc := "()Z" } : Jvm.MethodName) prog_26_method_3_code (1 : Nat) (Option.some Jvm.ClassFile.FieldType.boolean)).before args0 about1 = true := code_word (m := ⟨3, 1⟩) (meth := k3m1) (c := k3c1) (by decide +kernel) rfl rfl rfl (by decide +kernel)
set_option maxRecDepth 65536 in
theorem w_c5 : (Jvm.Cond.code ({ cls := "com/example/gard/gard/redis/AcquireAnswerGrantedPinLaw", name := "expectedGranted", desc := "(J)Z" } : Jvm.MethodName) method_2_code (2 : Nat) (Option.some Jvm.ClassFile.FieldType.boolean)).before args0 about1 = true := code_word (m := ⟨1, 1⟩) (meth := k1m1) (c := k1c1) (by decide +kernel) rfl rfl rfl (by decide +kernel)
set_option maxRecDepth 65536 in
theorem w_c6 : (Jvm.Cond.code ({ cls := "com/example/gard/gard/redis/AcquireAnswer", name := "reached", desc := "(J)Z" } : Jvm.MethodName) prog_26_method_6_code (3 : Nat) (Option.some Jvm.ClassFile.FieldType.boolean)).before args0 about1 = true := code_word (m := ⟨3, 4⟩) (meth := k3m4) (c := k3c4) (by decide +kernel) rfl rfl rfl (by decide +kernel)
set_option maxRecDepth 65536 in
theorem w_c7 : (Jvm.Cond.code ({ cls := "com/example/gard/gard/redis/AcquireAnswer", name := "countsAsGrant", desc := "()Z" } : Jvm.MethodName) prog_26_method_5_code (1 : Nat) (Option.some Jvm.ClassFile.FieldType.boolean)).before args0 about1 = true := code_word (m := ⟨3, 3⟩) (meth := k3m3) (c := k3c3) (by decide +kernel) rfl rfl rfl (by decide +kernel)
set_option maxRecDepth 65536 in
theorem w_c8 : (Jvm.Cond.code ({ cls := "com/example/gard/gard/redis/AcquireAnswer", name := "quarantined", desc := "()Z" } : Jvm.MethodName) prog_26_method_4_code (1 : Nat) (Option.some Jvm.ClassFile.FieldType.boolean)).before args0 about1 = true := code_word (m := ⟨3, 2⟩) (meth := k3m2) (c := k3c2) (by decide +kernel) rfl rfl rfl (by decide +kernel)
def codes1 : List Jvm.Cond := [Jvm.Cond.code x code maxLocals ret, Jvm.Cond.code ({ cls := "com/example/gard/gard/redis/AcquireAnswer", name := "<init>", desc := "(JJJJJ)V" } : Jvm.MethodName) prog_26_method_1_code (11 : Nat) (Option.none : Option Jvm.ClassFile.FieldType), Jvm.Cond.code ({ cls := "java/lang/Record", name := "<init>", desc := "()V" } : Jvm.MethodName) jdk_30_method_1_code (1 : Nat) (Option.none : Option Jvm.ClassFile.FieldType), Jvm.Cond.code ({ cls := "java/lang/Object", name := "<init>", desc := "()V" } : Jvm.MethodName) object_method_1_code (1 : Nat) (Option.none : Option Jvm.ClassFile.FieldType), Jvm.Cond.code ({ cls := "com/example/gard/gard/redis/AcquireAnswer", name := "granted", desc := "()Z" } : Jvm.MethodName) prog_26_method_3_code (1 : Nat) (Option.some Jvm.ClassFile.FieldType.boolean), Jvm.Cond.code ({ cls := "com/example/gard/gard/redis/AcquireAnswerGrantedPinLaw", name := "expectedGranted", desc := "(J)Z" } : Jvm.MethodName) method_2_code (2 : Nat) (Option.some Jvm.ClassFile.FieldType.boolean), Jvm.Cond.code ({ cls := "com/example/gard/gard/redis/AcquireAnswer", name := "reached", desc := "(J)Z" } : Jvm.MethodName) prog_26_method_6_code (3 : Nat) (Option.some Jvm.ClassFile.FieldType.boolean), Jvm.Cond.code ({ cls := "com/example/gard/gard/redis/AcquireAnswer", name := "countsAsGrant", desc := "()Z" } : Jvm.MethodName) prog_26_method_5_code (1 : Nat) (Option.some Jvm.ClassFile.FieldType.boolean), Jvm.Cond.code ({ cls := "com/example/gard/gard/redis/AcquireAnswer", name := "quarantined", desc := "()Z" } : Jvm.MethodName) prog_26_method_4_code (1 : Nat) (Option.some Jvm.ClassFile.FieldType.boolean)]
set_option maxRecDepth 65536 in
theorem codes_eq : words1.filter isCode = codes1 := rfl
theorem w_codes : ∀ c ∈ words1.filter isCode, c.before args0 about1 = true := by
  rw [codes_eq]
  intro c hc
  simp only [codes1, List.mem_cons, List.not_mem_nil, or_false] at hc
  rcases hc with rfl | rfl | rfl | rfl | rfl | rfl | rfl | rfl | rfl
  · exact w_c0
  · exact w_c1
  · exact w_c2
  · exact w_c3
  · exact w_c4
  · exact w_c5
  · exact w_c6
  · exact w_c7
  · exact w_c8
set_option maxRecDepth 65536 in
theorem w_t1 : (words1.take 24).all (fun c => isCode c || c.before args0 about1) = true := by decide +kernel
set_option maxRecDepth 65536 in
theorem w_t2 : ((words1.drop 24).take 24).all (fun c => isCode c || c.before args0 about1) = true := by decide +kernel
set_option maxRecDepth 65536 in
theorem w_t3 : ((words1.drop 24).drop 24).all (fun c => isCode c || c.before args0 about1) = true := by decide +kernel
theorem w_tables : (allAtoms (Jvm.Cond.code x code maxLocals ret :: tables_1)).before args0 about1 = true := by
  rw [allAtoms_all]
  show words1.all (fun c => c.before args0 about1) = true
  refine all_split ?_ w_codes
  rw [← List.take_append_drop 24 words1, List.all_append, w_t1, ← List.take_append_drop 24 (words1.drop 24), List.all_append, w_t2, w_t3]
  rfl
set_option maxRecDepth 65536 in
theorem w_case : (Jvm.Cond.and given_1 narrow_1).before args0 about1 = true := by decide +kernel
theorem w_applies : (headSpec (Jvm.Cond.code x code maxLocals ret :: tables_1) room_1).applies x e0.platform about1 = true :=
  (Spec.applies_iff w_frames).mpr ⟨w_running, w_runnable, w_alone, w_named, w_hears, w_ripe, w_room, w_tables⟩
theorem atStart : AtStart classFile x code maxLocals ret World_1 tables_1 room_1 Calls_1 rest_1 Pre_1 launch0 p0 e0 about1 theMethod args0 below0 :=
  ⟨lists_1, trivial, launch0.admits_env _ _ _, launch0.least_env, fairChoices_fair.cas, fairChoices_fair.clock, w_frames, w_args, w_heap, w_applies, trivial, trivial, w_case⟩
end start1
theorem witness_1 : WitnessClaimed_1 := ⟨start1.p0, start1.e0, start1.about1, start1.theMethod, start1.args0, start1.below0, start1.atStart⟩
end Jvm.Pilot.@@N@@
