import JvmDerived
import JvmDerived.Pilot.@@N@@Statement
import JvmDerived.Pilot.@@N@@Code
set_option linter.unusedVariables false
set_option linter.unusedSimpArgs false
@@BLOCK:NumsL.lean.txt@@
namespace Jvm.Pilot.@@N@@
open Jvm Jvm.ClassFile Sem Op Lib Jvm.Free Jvm.Stand Jvm.LawKit Jvm.RoadKit Bundle Jvm.Pilot.@@N@@.Jvm.D
/-- the run that stands at st comes to a return: Q says what is returned, the heap and the places written; at most kc cells and ks slots are new -/
def own_Ends (p : Program) (e : Env) (below : List Frame) (s : State) (kc ks : Nat) (Q : Option Value → Heap → List Loc → Prop) (st : State) : Prop :=
  ∃ s₂ o, Steps p.tables e below st s₂ ∧ s₂.status = .running ∧ Ended s₂ below o ∧ ∃ v L, o = .returned v ∧ Q v s₂.heap L ∧ FrameEnd s o s₂ L kc ks
theorem own_step {p : Program} {e : Env} {below : List Frame} {s : State} {kc ks : Nat} {Q : Option Value → Heap → List Loc → Prop} {st st' : State}
    (h : ∀ t, Steps p.tables e below st' t → Steps p.tables e below st t) (k : own_Ends p e below s kc ks Q st') : own_Ends p e below s kc ks Q st := by
  obtain ⟨s₂, o, h1, h2⟩ := k
  exact ⟨s₂, o, h _ h1, h2⟩
theorem own_ret {p : Program} {l : Launch} {e : Env} {R : Room} {s : State} {m : MethodId} {args : Array Value} {below : List Frame} {meth : Method} {c : Code} {T : State} {locs : List Loc} {cells slots : Nat} {kc ks : Nat} {Q : Option Value → Heap → List Loc → Prop} {st : State}
    (X : Stand p l e R s m args below meth c T locs cells slots) (hlocks : meth.locks = false) {v : Option Value} (hv : meth.sig.returnType = none → v = none) (hq : Q v T.heap locs) (hc : cells ≤ kc) (hs : slots ≤ ks)
    (hr : ∀ fs, (∀ (f : JFrame) (acts : List Action), f.method = m → f.locked = none → f.entered = [] → (doReturn e (T.setTop f) acts v).1 = T.setFrames fs) → Steps p.tables e below st (T.setFrames fs)) : own_Ends p e below s kc ks Q st := by
  obtain ⟨fs, h1, hrun, hended, hW, hsame⟩ := X.leave (v := v) hv hlocks
  exact ⟨_, _, hr fs h1, hrun, hended, v, locs, rfl, hq, ⟨_, rfl⟩, hW, hsame.mono hc hs⟩

def own_b3 (x y z : Int64) : Int32 := if x = 0 ∧ y = 0 ∧ z = 0 then 1 else 0
def own_b1 (x : Int64) : Int32 := if x = 0 then 1 else 0
theorem own_or {x y : Int64} (h : x ||| y = 0) : x = 0 ∧ y = 0 := by
  have e : x.toBitVec ||| y.toBitVec = 0#64 := congrArg Int64.toBitVec h
  have q := BitVec.or_eq_zero_iff.mp e
  exact ⟨Int64.toBitVec_inj.mp q.1, Int64.toBitVec_inj.mp q.2⟩
theorem own_yes {x y z : Int64} (h : x ||| y ||| z = 0) : own_b3 x y z = 1 := by
  obtain ⟨h1, h2⟩ := own_or h
  obtain ⟨h3, h4⟩ := own_or h1
  simp [own_b3, h2, h3, h4]
theorem own_no {x y z : Int64} (h : ¬ x ||| y ||| z = 0) : own_b3 x y z = 0 := by
  refine if_neg fun q => h ?_
  obtain ⟨rfl, rfl, rfl⟩ := q
  rfl
theorem own_keep {x y z : Int64} (h : x ||| y ||| z = 0) : own_b1 x = 1 := by
  obtain ⟨h1, h2⟩ := own_or h
  obtain ⟨h3, h4⟩ := own_or h1
  simp [own_b1, h3]
theorem own_d1_0 : decode jdk_30_method_1_code 0 = .ok (.aload_n 0, 1) := by decide +kernel
theorem own_d1_1 : decode jdk_30_method_1_code 1 = .ok (.invokespecial 1, 3) := by decide +kernel
theorem own_d1_4 : decode jdk_30_method_1_code 4 = .ok (.return_, 1) := by decide +kernel
theorem own_pn0 : plainName "java/lang/Record" = true := by first | (simp [plainName, overriddenIn]; done) | decide +kernel
theorem own_ef1 (m : MethodId) (r0 : Addr) : entryFrame m #[(.ref r0)] 1 = mkF m 0 #[.val (.ref r0)] [] := by first | (simp [entryFrame, mkF, argsToLocals, Value.category]; done) | rfl
def own_Q1 (Z : State) (r0 : Addr)  (h0 : Heap) (n0 : Nat) (v : Option Value) (h : Heap) (L : List Loc) : Prop := v = none ∧ Fr n0 L ∧ h = h0
set_option maxRecDepth 65536 in
set_option maxHeartbeats 40000000 in
theorem own_rm1 (l : Launch) (Z : State) (a0 : Array Value) (hw : ∀ d ∈ tables_1, d.before a0 Z = true) (ws : List Jvm.Cond) (r0 : Addr)  (h0 : Heap) (n0 : Nat) (Z0 : n0 ≤ h0.size)  :
    MetFree l (⟨"java/lang/Record", "<init>", "()V"⟩ : MethodName) (head1 (Jvm.Cond.code (⟨"java/lang/Record", "<init>", "()V"⟩ : MethodName) jdk_30_method_1_code 1 none :: ws) ({ frames := 1, cells := 0, slots := 0, locals := 12 } : Room)) (fun a U => a = #[(.ref r0)] ∧ Z.Warmed39 U.vm ∧ U.heap = h0) (fun _ _ _ _ _ => True) (fun _ U o U' => ∃ v L, o = .returned v ∧ own_Q1 Z r0  h0 n0 v U'.heap L ∧ FrameEnd U o U' L ({ frames := 1, cells := 0, slots := 0, locals := 12 } : Room).cells ({ frames := 1, cells := 0, slots := 0, locals := 12 } : Room).slots) := by
  refine MetFree.of_bodySF (plainFor_of_name own_pn0) hisR ?_
  intro p e s m args below meth c s₁ Bd hml0 hP hK
  obtain ⟨rfl, hZ, hh⟩ := hP
  have hx := Bd.exec
  have hby := Bd.bytes
  have hml : c.maxLocals = 1 := hml0
  have hown : s.vm.findClass "java/lang/Record" = some m.cls := findClass_of_methodNamed Bd.named
  have hnm := (name_of_methodNamed Bd.named Bd.method).1
  have X0 : Stand p l e ({ frames := 1, cells := 0, slots := 0, locals := 12 } : Room) s m #[(.ref r0)] below meth c s₁ [] 0 0 := Stand.of_body Bd
  have e0 : s₁.heap = h0 := by rw [← hh, Bd.state]; rfl
  have N0 := Fr.nil n0
  suffices H : own_Ends p e below s ({ frames := 1, cells := 0, slots := 0, locals := 12 } : Room).cells ({ frames := 1, cells := 0, slots := 0, locals := 12 } : Room).slots (own_Q1 Z r0  h0 n0) (s₁.setTop (mkF m 0 #[.val (.ref r0)] [])) by
    obtain ⟨s₂, o, h1, h2⟩ := H
    exact ⟨s₂, o, castTop (own_ef1 m r0) h1, h2⟩
  show own_Ends _ _ _ _ _ _ _ (s₁.setTop (mkF m 0 #[.val (.ref r0)] []))
  refine own_step (fun _ k => XS.aloadN X0.here hx rfl (hb hby own_d1_0) rfl rfl k) ?_
  show own_Ends _ _ _ _ _ _ _ (s₁.setTop (mkF m 1 #[.val (.ref r0)] [(.ref r0)]))
  obtain ⟨T1, X1, e1, st1⟩ := initO X0 hx hZ hown (hw _ (List.mem_of_getElem? (i := 11) rfl)) (hw _ (List.mem_of_getElem? (i := 12) rfl)) (hw _ (List.mem_of_getElem? (i := 13) rfl)) e0 (g := (mkF m 1 #[.val (.ref r0)] [(.ref r0)])) rfl (by rw [hml]; rfl) rfl (hb hby own_d1_1) (by decide) (W := 0) (by show 2 * 0 + _ ≤ _; exact Nat.le_of_eq rfl) (by decide)
  refine own_step (fun _ k => st1 _ k) ?_
  show own_Ends _ _ _ _ _ _ _ (T1.setTop (mkF m 4 #[.val (.ref r0)] []))
  refine own_ret X1 (BodyLoose.notSynchronized Bd) (v := none) (fun _ => rfl) ?_ (by decide) (by decide) (fun fs hr => X1.returnOut hx Bd.returns (hb hby own_d1_4) hr)
  show own_Q1 Z r0  h0 n0 none T1.heap _
  rw [e1]
  exact ⟨rfl, N0, rfl⟩
theorem own_d2_0 : decode prog_57_method_1_code 0 = .ok (.aload_n 0, 1) := by decide +kernel
theorem own_d2_1 : decode prog_57_method_1_code 1 = .ok (.invokespecial 1, 3) := by decide +kernel
theorem own_d2_4 : decode prog_57_method_1_code 4 = .ok (.aload_n 0, 1) := by decide +kernel
theorem own_d2_5 : decode prog_57_method_1_code 5 = .ok (.lload_n 1, 1) := by decide +kernel
theorem own_d2_6 : decode prog_57_method_1_code 6 = .ok (.putfield 7, 3) := by decide +kernel
theorem own_d2_9 : decode prog_57_method_1_code 9 = .ok (.aload_n 0, 1) := by decide +kernel
theorem own_d2_10 : decode prog_57_method_1_code 10 = .ok (.lload_n 3, 1) := by decide +kernel
theorem own_d2_11 : decode prog_57_method_1_code 11 = .ok (.putfield 13, 3) := by decide +kernel
theorem own_d2_14 : decode prog_57_method_1_code 14 = .ok (.aload_n 0, 1) := by decide +kernel
theorem own_d2_15 : decode prog_57_method_1_code 15 = .ok (.lload 5, 2) := by decide +kernel
theorem own_d2_17 : decode prog_57_method_1_code 17 = .ok (.putfield 16, 3) := by decide +kernel
theorem own_d2_20 : decode prog_57_method_1_code 20 = .ok (.return_, 1) := by decide +kernel
theorem own_pn1 : plainName "com/example/diptych/diptych/solver/Cost" = true := by first | (simp [plainName, overriddenIn]; done) | decide +kernel
theorem own_ef2 (m : MethodId) (r0 : Addr) (q1 : Int64) (q2 : Int64) (q3 : Int64) : entryFrame m #[(.ref r0), (.long q1), (.long q2), (.long q3)] 7 = mkF m 0 #[.val (.ref r0), .val (.long q1), .second, .val (.long q2), .second, .val (.long q3), .second] [] := by first | (simp [entryFrame, mkF, argsToLocals, Value.category]; done) | rfl
theorem own_pd0 : parseMethodDescriptor "()V" = some ⟨[], none⟩ := by decide +kernel
def own_Q2 (Z : State) (r0 : Addr) (q1 : Int64) (q2 : Int64) (q3 : Int64)  (h0 : Heap) (n0 : Nat) (v : Option Value) (h : Heap) (L : List Loc) : Prop := v = none ∧ Fr n0 L ∧ Keep h0 h [r0] ∧ Exa Z h r0 "com/example/diptych/diptych/solver/Cost" ∧ Fld Z h r0 "com/example/diptych/diptych/solver/Cost" "violations" "J" (.long q1) ∧ Fld Z h r0 "com/example/diptych/diptych/solver/Cost" "shortfall" "J" (.long q2) ∧ Fld Z h r0 "com/example/diptych/diptych/solver/Cost" "objective" "J" (.long q3)
set_option maxRecDepth 65536 in
set_option maxHeartbeats 40000000 in
theorem own_rm2 (l : Launch) (Z : State) (a0 : Array Value) (hw : ∀ d ∈ tables_1, d.before a0 Z = true) (ws : List Jvm.Cond) (r0 : Addr) (q1 : Int64) (q2 : Int64) (q3 : Int64)  (h0 : Heap) (n0 : Nat) (Z0 : n0 ≤ h0.size) (F0 : Fld Z h0 r0 "com/example/diptych/diptych/solver/Cost" "violations" "J" (.long (0 : Int64))) (F1 : Fld Z h0 r0 "com/example/diptych/diptych/solver/Cost" "shortfall" "J" (.long (0 : Int64))) (F2 : Fld Z h0 r0 "com/example/diptych/diptych/solver/Cost" "objective" "J" (.long (0 : Int64))) (EX : Exa Z h0 r0 "com/example/diptych/diptych/solver/Cost") (G : n0 ≤ r0) :
    MetFree l (⟨"com/example/diptych/diptych/solver/Cost", "<init>", "(JJJ)V"⟩ : MethodName) (head1 (Jvm.Cond.code (⟨"com/example/diptych/diptych/solver/Cost", "<init>", "(JJJ)V"⟩ : MethodName) prog_57_method_1_code 7 none :: ws) ({ frames := 2, cells := 0, slots := 0, locals := 24 } : Room)) (fun a U => a = #[(.ref r0), (.long q1), (.long q2), (.long q3)] ∧ Z.Warmed39 U.vm ∧ U.heap = h0) (fun _ _ _ _ _ => True) (fun _ U o U' => ∃ v L, o = .returned v ∧ own_Q2 Z r0 q1 q2 q3  h0 n0 v U'.heap L ∧ FrameEnd U o U' L ({ frames := 2, cells := 0, slots := 0, locals := 24 } : Room).cells ({ frames := 2, cells := 0, slots := 0, locals := 24 } : Room).slots) := by
  refine MetFree.of_bodySF (plainFor_of_name own_pn1) hisR ?_
  intro p e s m args below meth c s₁ Bd hml0 hP hK
  obtain ⟨rfl, hZ, hh⟩ := hP
  have hx := Bd.exec
  have hby := Bd.bytes
  have hml : c.maxLocals = 7 := hml0
  have hown : s.vm.findClass "com/example/diptych/diptych/solver/Cost" = some m.cls := findClass_of_methodNamed Bd.named
  have hnm := (name_of_methodNamed Bd.named Bd.method).1
  have X0 : Stand p l e ({ frames := 2, cells := 0, slots := 0, locals := 24 } : Room) s m #[(.ref r0), (.long q1), (.long q2), (.long q3)] below meth c s₁ [] 0 0 := Stand.of_body Bd
  have e0 : s₁.heap = h0 := by rw [← hh, Bd.state]; rfl
  have N0 := Fr.nil n0
  suffices H : own_Ends p e below s ({ frames := 2, cells := 0, slots := 0, locals := 24 } : Room).cells ({ frames := 2, cells := 0, slots := 0, locals := 24 } : Room).slots (own_Q2 Z r0 q1 q2 q3  h0 n0) (s₁.setTop (mkF m 0 #[.val (.ref r0), .val (.long q1), .second, .val (.long q2), .second, .val (.long q3), .second] [])) by
    obtain ⟨s₂, o, h1, h2⟩ := H
    exact ⟨s₂, o, castTop (own_ef2 m r0 q1 q2 q3) h1, h2⟩
  show own_Ends _ _ _ _ _ _ _ (s₁.setTop (mkF m 0 #[.val (.ref r0), .val (.long q1), .second, .val (.long q2), .second, .val (.long q3), .second] []))
  have Kp0 := Keep.refl h0 [r0]
  refine own_step (fun _ k => XS.aloadN X0.here hx rfl (hb hby own_d2_0) rfl rfl k) ?_
  show own_Ends _ _ _ _ _ _ _ (s₁.setTop (mkF m 1 #[.val (.ref r0), .val (.long q1), .second, .val (.long q2), .second, .val (.long q3), .second] [(.ref r0)]))
  obtain ⟨_, _, ⟨T2, L2, k2, n2⟩, -, X2, ⟨Lc2, hQ2, l2, y2, z2⟩, st2⟩ := X0.specialBack hx (y := (⟨"java/lang/Record", "<init>", "()V"⟩ : MethodName)) rfl hown (mvT hZ (hw _ (List.mem_of_getElem? (i := 6) rfl))) (mvT hZ (hw _ (List.mem_of_getElem? (i := 7) rfl))) (mvT hZ (hw _ (List.mem_of_getElem? (i := 10) rfl))) (by decide) (backOf (W := 0) (own_rm1 l Z a0 hw [] r0  h0 n0 Z0 ) hZ (hw _ (List.mem_of_getElem? (i := 10) rfl)) (hw _ (List.mem_of_getElem? (i := 9) rfl)) (by decide) (by decide)) (g := (mkF m 1 #[.val (.ref r0), .val (.long q1), .second, .val (.long q2), .second, .val (.long q3), .second] [(.ref r0)])) rfl (by rw [hml]; rfl) (Steps.refl _) (a := r0) (argsL := []) (rest := []) (lenOf own_pd0 rfl) rfl (by show 2 * 0 + _ ≤ _; exact Nat.le_of_eq rfl) (hb hby own_d2_1) (fun _ _ => ⟨rfl, e0, (by decide : 0 + 0 ≤ _), (by decide : 0 + 0 ≤ _)⟩)
  dsimp only [Pt.U, Pt.locs, Pt.cells, Pt.slots] at X2 l2 y2 z2 st2 hQ2
  subst l2 y2 z2
  obtain ⟨rfl, Nq2, e2⟩ := hQ2
  have N2 := Fr.app N0 Nq2
  refine own_step (fun _ k => st2.trans k) ?_
  show own_Ends _ _ _ _ _ _ _ (T2.setTop (mkF m 4 #[.val (.ref r0), .val (.long q1), .second, .val (.long q2), .second, .val (.long q3), .second] []))
  refine own_step (fun _ k => XS.aloadN X2.here hx rfl (hb hby own_d2_4) rfl rfl k) ?_
  show own_Ends _ _ _ _ _ _ _ (T2.setTop (mkF m 5 #[.val (.ref r0), .val (.long q1), .second, .val (.long q2), .second, .val (.long q3), .second] [(.ref r0)]))
  refine own_step (fun _ k => XS.lloadN X2.here hx rfl (hb hby own_d2_5) rfl k) ?_
  show own_Ends _ _ _ _ _ _ _ (T2.setTop (mkF m 6 #[.val (.ref r0), .val (.long q1), .second, .val (.long q2), .second, .val (.long q3), .second] [(.long q1), (.ref r0)]))
  obtain ⟨T3, h3, X3, e3, W3, st3⟩ := putF X2 hx hZ hown (host := "") (Or.inl (hw _ (List.mem_of_getElem? (i := 14) rfl))) Via.refl e2 F0 EX (Or.inr ⟨(hw _ (List.mem_of_getElem? (i := 15) rfl)), rfl, hnm⟩) (hw _ (List.mem_of_getElem? (i := 1) rfl)) (ty := .long) (by decide) rfl rfl (g := (mkF m 6 #[.val (.ref r0), .val (.long q1), .second, .val (.long q2), .second, .val (.long q3), .second] [(.long q1), (.ref r0)])) rfl rfl (hb hby own_d2_6)
  have N3 := Fr.snoc X3 N2 G
  have F3_r0_shortfall := Fld.other W3 F1 (Or.inr (RoadKit.slot_ne (Or.inr (hw _ (List.mem_of_getElem? (i := 17) rfl))) (Or.inr (hw _ (List.mem_of_getElem? (i := 15) rfl))) (by decide) (t := .long) (t' := .long) (by decide) (by decide)))
  have F3_r0_objective := Fld.other W3 F2 (Or.inr (RoadKit.slot_ne (Or.inr (hw _ (List.mem_of_getElem? (i := 19) rfl))) (Or.inr (hw _ (List.mem_of_getElem? (i := 15) rfl))) (by decide) (t := .long) (t' := .long) (by decide) (by decide)))
  have A3_r0 := Exa.wr W3 EX
  have Z3 := Nat.le_trans Z0 (Keep.of_wr W3).1
  have Kp3 := Kp0.wr W3 (Or.inl (List.mem_of_getElem? (i := 0) rfl))
  have F3_r0_violations := Fld.same W3 F0
  refine own_step (fun _ k => st3 _ k) ?_
  show own_Ends _ _ _ _ _ _ _ (T3.setTop (mkF m 9 #[.val (.ref r0), .val (.long q1), .second, .val (.long q2), .second, .val (.long q3), .second] []))
  refine own_step (fun _ k => XS.aloadN X3.here hx rfl (hb hby own_d2_9) rfl rfl k) ?_
  show own_Ends _ _ _ _ _ _ _ (T3.setTop (mkF m 10 #[.val (.ref r0), .val (.long q1), .second, .val (.long q2), .second, .val (.long q3), .second] [(.ref r0)]))
  refine own_step (fun _ k => XS.lloadN X3.here hx rfl (hb hby own_d2_10) rfl k) ?_
  show own_Ends _ _ _ _ _ _ _ (T3.setTop (mkF m 11 #[.val (.ref r0), .val (.long q1), .second, .val (.long q2), .second, .val (.long q3), .second] [(.long q2), (.ref r0)]))
  obtain ⟨T4, h4, X4, e4, W4, st4⟩ := putF X3 hx hZ hown (host := "") (Or.inl (hw _ (List.mem_of_getElem? (i := 16) rfl))) Via.refl e3 F3_r0_shortfall A3_r0 (Or.inr ⟨(hw _ (List.mem_of_getElem? (i := 17) rfl)), rfl, hnm⟩) (hw _ (List.mem_of_getElem? (i := 1) rfl)) (ty := .long) (by decide) rfl rfl (g := (mkF m 11 #[.val (.ref r0), .val (.long q1), .second, .val (.long q2), .second, .val (.long q3), .second] [(.long q2), (.ref r0)])) rfl rfl (hb hby own_d2_11)
  have N4 := Fr.snoc X4 N3 G
  have F4_r0_violations := Fld.other W4 F3_r0_violations (Or.inr (RoadKit.slot_ne (Or.inr (hw _ (List.mem_of_getElem? (i := 15) rfl))) (Or.inr (hw _ (List.mem_of_getElem? (i := 17) rfl))) (by decide) (t := .long) (t' := .long) (by decide) (by decide)))
  have F4_r0_objective := Fld.other W4 F3_r0_objective (Or.inr (RoadKit.slot_ne (Or.inr (hw _ (List.mem_of_getElem? (i := 19) rfl))) (Or.inr (hw _ (List.mem_of_getElem? (i := 17) rfl))) (by decide) (t := .long) (t' := .long) (by decide) (by decide)))
  have A4_r0 := Exa.wr W4 A3_r0
  have Z4 := Nat.le_trans Z3 (Keep.of_wr W4).1
  have Kp4 := Kp3.wr W4 (Or.inl (List.mem_of_getElem? (i := 0) rfl))
  have F4_r0_shortfall := Fld.same W4 F3_r0_shortfall
  refine own_step (fun _ k => st4 _ k) ?_
  show own_Ends _ _ _ _ _ _ _ (T4.setTop (mkF m 14 #[.val (.ref r0), .val (.long q1), .second, .val (.long q2), .second, .val (.long q3), .second] []))
  refine own_step (fun _ k => XS.aloadN X4.here hx rfl (hb hby own_d2_14) rfl rfl k) ?_
  show own_Ends _ _ _ _ _ _ _ (T4.setTop (mkF m 15 #[.val (.ref r0), .val (.long q1), .second, .val (.long q2), .second, .val (.long q3), .second] [(.ref r0)]))
  refine own_step (fun _ k => XS.lload X4.here hx rfl (hb hby own_d2_15) rfl k) ?_
  show own_Ends _ _ _ _ _ _ _ (T4.setTop (mkF m 17 #[.val (.ref r0), .val (.long q1), .second, .val (.long q2), .second, .val (.long q3), .second] [(.long q3), (.ref r0)]))
  obtain ⟨T5, h5, X5, e5, W5, st5⟩ := putF X4 hx hZ hown (host := "") (Or.inl (hw _ (List.mem_of_getElem? (i := 18) rfl))) Via.refl e4 F4_r0_objective A4_r0 (Or.inr ⟨(hw _ (List.mem_of_getElem? (i := 19) rfl)), rfl, hnm⟩) (hw _ (List.mem_of_getElem? (i := 1) rfl)) (ty := .long) (by decide) rfl rfl (g := (mkF m 17 #[.val (.ref r0), .val (.long q1), .second, .val (.long q2), .second, .val (.long q3), .second] [(.long q3), (.ref r0)])) rfl rfl (hb hby own_d2_17)
  have N5 := Fr.snoc X5 N4 G
  have F5_r0_violations := Fld.other W5 F4_r0_violations (Or.inr (RoadKit.slot_ne (Or.inr (hw _ (List.mem_of_getElem? (i := 15) rfl))) (Or.inr (hw _ (List.mem_of_getElem? (i := 19) rfl))) (by decide) (t := .long) (t' := .long) (by decide) (by decide)))
  have F5_r0_shortfall := Fld.other W5 F4_r0_shortfall (Or.inr (RoadKit.slot_ne (Or.inr (hw _ (List.mem_of_getElem? (i := 17) rfl))) (Or.inr (hw _ (List.mem_of_getElem? (i := 19) rfl))) (by decide) (t := .long) (t' := .long) (by decide) (by decide)))
  have A5_r0 := Exa.wr W5 A4_r0
  have Z5 := Nat.le_trans Z4 (Keep.of_wr W5).1
  have Kp5 := Kp4.wr W5 (Or.inl (List.mem_of_getElem? (i := 0) rfl))
  have F5_r0_objective := Fld.same W5 F4_r0_objective
  refine own_step (fun _ k => st5 _ k) ?_
  show own_Ends _ _ _ _ _ _ _ (T5.setTop (mkF m 20 #[.val (.ref r0), .val (.long q1), .second, .val (.long q2), .second, .val (.long q3), .second] []))
  refine own_ret X5 (BodyLoose.notSynchronized Bd) (v := none) (fun _ => rfl) ?_ (by decide) (by decide) (fun fs hr => X5.returnOut hx Bd.returns (hb hby own_d2_20) hr)
  show own_Q2 Z r0 q1 q2 q3  h0 n0 none T5.heap _
  rw [e5]
  exact ⟨rfl, N5, Kp5, A5_r0, F5_r0_violations, F5_r0_shortfall, F5_r0_objective⟩
theorem own_d3_0 : decode prog_57_method_3_code 0 = .ok (.aload_n 0, 1) := by decide +kernel
theorem own_d3_1 : decode prog_57_method_3_code 1 = .ok (.getfield 7, 3) := by decide +kernel
theorem own_d3_4 : decode prog_57_method_3_code 4 = .ok (.lconst 0, 1) := by decide +kernel
theorem own_d3_5 : decode prog_57_method_3_code 5 = .ok (.lcmp, 1) := by decide +kernel
theorem own_d3_6 : decode prog_57_method_3_code 6 = .ok (.ifCond .ne 25, 3) := by decide +kernel
theorem own_d3_9 : decode prog_57_method_3_code 9 = .ok (.aload_n 0, 1) := by decide +kernel
theorem own_d3_10 : decode prog_57_method_3_code 10 = .ok (.getfield 13, 3) := by decide +kernel
theorem own_d3_13 : decode prog_57_method_3_code 13 = .ok (.lconst 0, 1) := by decide +kernel
theorem own_d3_14 : decode prog_57_method_3_code 14 = .ok (.lcmp, 1) := by decide +kernel
theorem own_d3_15 : decode prog_57_method_3_code 15 = .ok (.ifCond .ne 16, 3) := by decide +kernel
theorem own_d3_18 : decode prog_57_method_3_code 18 = .ok (.aload_n 0, 1) := by decide +kernel
theorem own_d3_19 : decode prog_57_method_3_code 19 = .ok (.getfield 16, 3) := by decide +kernel
theorem own_d3_22 : decode prog_57_method_3_code 22 = .ok (.lconst 0, 1) := by decide +kernel
theorem own_d3_23 : decode prog_57_method_3_code 23 = .ok (.lcmp, 1) := by decide +kernel
theorem own_d3_24 : decode prog_57_method_3_code 24 = .ok (.ifCond .ne 7, 3) := by decide +kernel
theorem own_d3_27 : decode prog_57_method_3_code 27 = .ok (.iconst 1, 1) := by decide +kernel
theorem own_d3_28 : decode prog_57_method_3_code 28 = .ok (.goto 4, 3) := by decide +kernel
theorem own_d3_31 : decode prog_57_method_3_code 31 = .ok (.iconst 0, 1) := by decide +kernel
theorem own_d3_32 : decode prog_57_method_3_code 32 = .ok (.ireturn, 1) := by decide +kernel
theorem own_ef3 (m : MethodId) (r0 : Addr) : entryFrame m #[(.ref r0)] 1 = mkF m 0 #[.val (.ref r0)] [] := by first | (simp [entryFrame, mkF, argsToLocals, Value.category]; done) | rfl
def own_Q3 (Z : State) (r0 : Addr) (x y z : Int64) (h0 : Heap) (n0 : Nat) (v : Option Value) (h : Heap) (L : List Loc) : Prop := v = some (.int (own_b3 x y z)) ∧ Fr n0 L ∧ h = h0
set_option maxRecDepth 65536 in
set_option maxHeartbeats 40000000 in
theorem own_rm3 (l : Launch) (Z : State) (a0 : Array Value) (hw : ∀ d ∈ tables_1, d.before a0 Z = true) (ws : List Jvm.Cond) (r0 : Addr) (x y z : Int64) (h0 : Heap) (n0 : Nat) (Z0 : n0 ≤ h0.size) (F0 : Fld Z h0 r0 "com/example/diptych/diptych/solver/Cost" "violations" "J" (.long x)) (F1 : Fld Z h0 r0 "com/example/diptych/diptych/solver/Cost" "shortfall" "J" (.long y)) (F2 : Fld Z h0 r0 "com/example/diptych/diptych/solver/Cost" "objective" "J" (.long z)) :
    MetFree l (⟨"com/example/diptych/diptych/solver/Cost", "isNothing", "()Z"⟩ : MethodName) (head1 (Jvm.Cond.code (⟨"com/example/diptych/diptych/solver/Cost", "isNothing", "()Z"⟩ : MethodName) prog_57_method_3_code 1 (some .boolean) :: ws) ({ frames := 0, cells := 0, slots := 0, locals := 0 } : Room)) (fun a U => a = #[(.ref r0)] ∧ Z.Warmed39 U.vm ∧ U.heap = h0) (fun _ _ _ _ _ => True) (fun _ U o U' => ∃ v L, o = .returned v ∧ own_Q3 Z r0 x y z h0 n0 v U'.heap L ∧ FrameEnd U o U' L ({ frames := 0, cells := 0, slots := 0, locals := 0 } : Room).cells ({ frames := 0, cells := 0, slots := 0, locals := 0 } : Room).slots) := by
  refine MetFree.of_bodySF (plainFor_of_name own_pn1) hisR ?_
  intro p e s m args below meth c s₁ Bd hml0 hP hK
  obtain ⟨rfl, hZ, hh⟩ := hP
  have hx := Bd.exec
  have hby := Bd.bytes
  have hml : c.maxLocals = 1 := hml0
  have hown : s.vm.findClass "com/example/diptych/diptych/solver/Cost" = some m.cls := findClass_of_methodNamed Bd.named
  have hnm := (name_of_methodNamed Bd.named Bd.method).1
  have X0 : Stand p l e ({ frames := 0, cells := 0, slots := 0, locals := 0 } : Room) s m #[(.ref r0)] below meth c s₁ [] 0 0 := Stand.of_body Bd
  have e0 : s₁.heap = h0 := by rw [← hh, Bd.state]; rfl
  have N0 := Fr.nil n0
  suffices H : own_Ends p e below s ({ frames := 0, cells := 0, slots := 0, locals := 0 } : Room).cells ({ frames := 0, cells := 0, slots := 0, locals := 0 } : Room).slots (own_Q3 Z r0 x y z h0 n0) (s₁.setTop (mkF m 0 #[.val (.ref r0)] [])) by
    obtain ⟨s₂, o, h1, h2⟩ := H
    exact ⟨s₂, o, castTop (own_ef3 m r0) h1, h2⟩
  show own_Ends _ _ _ _ _ _ _ (s₁.setTop (mkF m 0 #[.val (.ref r0)] []))
  refine own_step (fun _ k => XS.aloadN X0.here hx rfl (hb hby own_d3_0) rfl rfl k) ?_
  show own_Ends _ _ _ _ _ _ _ (s₁.setTop (mkF m 1 #[.val (.ref r0)] [(.ref r0)]))
  obtain ⟨T6, X6, e6, st6⟩ := getF X0 hx hZ hown (host := "") (Or.inl (hw _ (List.mem_of_getElem? (i := 14) rfl))) Via.refl e0 F0 (g := (mkF m 1 #[.val (.ref r0)] [(.ref r0)])) rfl rfl (hb hby own_d3_1)
  refine own_step (fun _ k => st6 _ k) ?_
  show own_Ends _ _ _ _ _ _ _ (T6.setTop (mkF m 4 #[.val (.ref r0)] [(.long x)]))
  refine own_step (fun _ k => XS.lconst X6.here hx rfl (hb hby own_d3_4) k) ?_
  show own_Ends _ _ _ _ _ _ _ (T6.setTop (mkF m 5 #[.val (.ref r0)] [(.long (0 : Int64)), (.long x)]))
  refine own_step (fun _ k => XS.lcmp X6.here hx rfl (hb hby own_d3_5) rfl k) ?_
  show own_Ends _ _ _ _ _ _ _ (T6.setTop (mkF m 6 #[.val (.ref r0)] [(.int (lcmpW x (0 : Int64)))]))
  by_cases h1 : x = (0 : Int64)
  · refine own_step (fun _ k => XS.ifNo X6.here hx rfl (hb hby own_d3_6) rfl ((if0 _ _).trans (teq ((lw_eq _ _).mpr h1)).2) k) ?_
    show own_Ends _ _ _ _ _ _ _ (T6.setTop (mkF m 9 #[.val (.ref r0)] []))
    refine own_step (fun _ k => XS.aloadN X6.here hx rfl (hb hby own_d3_9) rfl rfl k) ?_
    show own_Ends _ _ _ _ _ _ _ (T6.setTop (mkF m 10 #[.val (.ref r0)] [(.ref r0)]))
    obtain ⟨T7, X7, e7, st7⟩ := getF X6 hx hZ hown (host := "") (Or.inl (hw _ (List.mem_of_getElem? (i := 16) rfl))) Via.refl e6 F1 (g := (mkF m 10 #[.val (.ref r0)] [(.ref r0)])) rfl rfl (hb hby own_d3_10)
    refine own_step (fun _ k => st7 _ k) ?_
    show own_Ends _ _ _ _ _ _ _ (T7.setTop (mkF m 13 #[.val (.ref r0)] [(.long y)]))
    refine own_step (fun _ k => XS.lconst X7.here hx rfl (hb hby own_d3_13) k) ?_
    show own_Ends _ _ _ _ _ _ _ (T7.setTop (mkF m 14 #[.val (.ref r0)] [(.long (0 : Int64)), (.long y)]))
    refine own_step (fun _ k => XS.lcmp X7.here hx rfl (hb hby own_d3_14) rfl k) ?_
    show own_Ends _ _ _ _ _ _ _ (T7.setTop (mkF m 15 #[.val (.ref r0)] [(.int (lcmpW y (0 : Int64)))]))
    by_cases h2 : y = (0 : Int64)
    · refine own_step (fun _ k => XS.ifNo X7.here hx rfl (hb hby own_d3_15) rfl ((if0 _ _).trans (teq ((lw_eq _ _).mpr h2)).2) k) ?_
      show own_Ends _ _ _ _ _ _ _ (T7.setTop (mkF m 18 #[.val (.ref r0)] []))
      refine own_step (fun _ k => XS.aloadN X7.here hx rfl (hb hby own_d3_18) rfl rfl k) ?_
      show own_Ends _ _ _ _ _ _ _ (T7.setTop (mkF m 19 #[.val (.ref r0)] [(.ref r0)]))
      obtain ⟨T8, X8, e8, st8⟩ := getF X7 hx hZ hown (host := "") (Or.inl (hw _ (List.mem_of_getElem? (i := 18) rfl))) Via.refl e7 F2 (g := (mkF m 19 #[.val (.ref r0)] [(.ref r0)])) rfl rfl (hb hby own_d3_19)
      refine own_step (fun _ k => st8 _ k) ?_
      show own_Ends _ _ _ _ _ _ _ (T8.setTop (mkF m 22 #[.val (.ref r0)] [(.long z)]))
      refine own_step (fun _ k => XS.lconst X8.here hx rfl (hb hby own_d3_22) k) ?_
      show own_Ends _ _ _ _ _ _ _ (T8.setTop (mkF m 23 #[.val (.ref r0)] [(.long (0 : Int64)), (.long z)]))
      refine own_step (fun _ k => XS.lcmp X8.here hx rfl (hb hby own_d3_23) rfl k) ?_
      show own_Ends _ _ _ _ _ _ _ (T8.setTop (mkF m 24 #[.val (.ref r0)] [(.int (lcmpW z (0 : Int64)))]))
      by_cases h3 : z = (0 : Int64)
      · refine own_step (fun _ k => XS.ifNo X8.here hx rfl (hb hby own_d3_24) rfl ((if0 _ _).trans (teq ((lw_eq _ _).mpr h3)).2) k) ?_
        show own_Ends _ _ _ _ _ _ _ (T8.setTop (mkF m 27 #[.val (.ref r0)] []))
        refine own_step (fun _ k => XS.iconst X8.here hx rfl (hb hby own_d3_27) k) ?_
        show own_Ends _ _ _ _ _ _ _ (T8.setTop (mkF m 28 #[.val (.ref r0)] [(.int (1 : Int32))]))
        refine own_step (fun _ k => XS.goto X8.here hx rfl (pc0 := 28) (pc' := 32) rfl (hb hby own_d3_28) (by decide) (by decide) k) ?_
        show own_Ends _ _ _ _ _ _ _ (T8.setTop (mkF m 32 #[.val (.ref r0)] [(.int (1 : Int32))]))
        refine own_ret X8 (BodyLoose.notSynchronized Bd) (v := (some (.int (1 : Int32)))) (fun h => by rw [Bd.returns] at h; cases h) ?_ (by decide) (by decide) (fun fs hr => X8.ireturnOut hx Bd.returns rfl (by simp) (hb hby own_d3_32) hr)
        show own_Q3 Z r0 x y z h0 n0 (some (.int (1 : Int32))) T8.heap _
        rw [e8]
        exact ⟨by simp [own_b3, h1, h2, h3], N0, rfl⟩
      · refine own_step (fun _ k => XS.ifYes X8.here hx rfl (pc0 := 24) (pc' := 31) rfl (hb hby own_d3_24) rfl ((if0 _ _).trans (feq (fun q => h3 ((lw_eq _ _).mp q))).2) (by decide) (by decide) k) ?_
        show own_Ends _ _ _ _ _ _ _ (T8.setTop (mkF m 31 #[.val (.ref r0)] []))
        refine own_step (fun _ k => XS.iconst X8.here hx rfl (hb hby own_d3_31) k) ?_
        show own_Ends _ _ _ _ _ _ _ (T8.setTop (mkF m 32 #[.val (.ref r0)] [(.int (0 : Int32))]))
        refine own_ret X8 (BodyLoose.notSynchronized Bd) (v := (some (.int (0 : Int32)))) (fun h => by rw [Bd.returns] at h; cases h) ?_ (by decide) (by decide) (fun fs hr => X8.ireturnOut hx Bd.returns rfl (by simp) (hb hby own_d3_32) hr)
        show own_Q3 Z r0 x y z h0 n0 (some (.int (0 : Int32))) T8.heap _
        rw [e8]
        exact ⟨by simp [own_b3, h3], N0, rfl⟩
    · refine own_step (fun _ k => XS.ifYes X7.here hx rfl (pc0 := 15) (pc' := 31) rfl (hb hby own_d3_15) rfl ((if0 _ _).trans (feq (fun q => h2 ((lw_eq _ _).mp q))).2) (by decide) (by decide) k) ?_
      show own_Ends _ _ _ _ _ _ _ (T7.setTop (mkF m 31 #[.val (.ref r0)] []))
      refine own_step (fun _ k => XS.iconst X7.here hx rfl (hb hby own_d3_31) k) ?_
      show own_Ends _ _ _ _ _ _ _ (T7.setTop (mkF m 32 #[.val (.ref r0)] [(.int (0 : Int32))]))
      refine own_ret X7 (BodyLoose.notSynchronized Bd) (v := (some (.int (0 : Int32)))) (fun h => by rw [Bd.returns] at h; cases h) ?_ (by decide) (by decide) (fun fs hr => X7.ireturnOut hx Bd.returns rfl (by simp) (hb hby own_d3_32) hr)
      show own_Q3 Z r0 x y z h0 n0 (some (.int (0 : Int32))) T7.heap _
      rw [e7]
      exact ⟨by simp [own_b3, h2], N0, rfl⟩
  · refine own_step (fun _ k => XS.ifYes X6.here hx rfl (pc0 := 6) (pc' := 31) rfl (hb hby own_d3_6) rfl ((if0 _ _).trans (feq (fun q => h1 ((lw_eq _ _).mp q))).2) (by decide) (by decide) k) ?_
    show own_Ends _ _ _ _ _ _ _ (T6.setTop (mkF m 31 #[.val (.ref r0)] []))
    refine own_step (fun _ k => XS.iconst X6.here hx rfl (hb hby own_d3_31) k) ?_
    show own_Ends _ _ _ _ _ _ _ (T6.setTop (mkF m 32 #[.val (.ref r0)] [(.int (0 : Int32))]))
    refine own_ret X6 (BodyLoose.notSynchronized Bd) (v := (some (.int (0 : Int32)))) (fun h => by rw [Bd.returns] at h; cases h) ?_ (by decide) (by decide) (fun fs hr => X6.ireturnOut hx Bd.returns rfl (by simp) (hb hby own_d3_32) hr)
    show own_Q3 Z r0 x y z h0 n0 (some (.int (0 : Int32))) T6.heap _
    rw [e6]
    exact ⟨by simp [own_b3, h1], N0, rfl⟩
theorem own_d4_0 : decode prog_57_method_2_code 0 = .ok (.aload_n 0, 1) := by decide +kernel
theorem own_d4_1 : decode prog_57_method_2_code 1 = .ok (.getfield 7, 3) := by decide +kernel
theorem own_d4_4 : decode prog_57_method_2_code 4 = .ok (.lconst 0, 1) := by decide +kernel
theorem own_d4_5 : decode prog_57_method_2_code 5 = .ok (.lcmp, 1) := by decide +kernel
theorem own_d4_6 : decode prog_57_method_2_code 6 = .ok (.ifCond .ne 7, 3) := by decide +kernel
theorem own_d4_9 : decode prog_57_method_2_code 9 = .ok (.iconst 1, 1) := by decide +kernel
theorem own_d4_10 : decode prog_57_method_2_code 10 = .ok (.goto 4, 3) := by decide +kernel
theorem own_d4_13 : decode prog_57_method_2_code 13 = .ok (.iconst 0, 1) := by decide +kernel
theorem own_d4_14 : decode prog_57_method_2_code 14 = .ok (.ireturn, 1) := by decide +kernel
theorem own_ef4 (m : MethodId) (r0 : Addr) : entryFrame m #[(.ref r0)] 1 = mkF m 0 #[.val (.ref r0)] [] := by first | (simp [entryFrame, mkF, argsToLocals, Value.category]; done) | rfl
def own_Q4 (Z : State) (r0 : Addr) (x : Int64) (h0 : Heap) (n0 : Nat) (v : Option Value) (h : Heap) (L : List Loc) : Prop := v = some (.int (own_b1 x)) ∧ Fr n0 L ∧ h = h0
set_option maxRecDepth 65536 in
set_option maxHeartbeats 40000000 in
theorem own_rm4 (l : Launch) (Z : State) (a0 : Array Value) (hw : ∀ d ∈ tables_1, d.before a0 Z = true) (ws : List Jvm.Cond) (r0 : Addr) (x : Int64) (h0 : Heap) (n0 : Nat) (Z0 : n0 ≤ h0.size) (F0 : Fld Z h0 r0 "com/example/diptych/diptych/solver/Cost" "violations" "J" (.long x)) :
    MetFree l (⟨"com/example/diptych/diptych/solver/Cost", "keepsHardRules", "()Z"⟩ : MethodName) (head1 (Jvm.Cond.code (⟨"com/example/diptych/diptych/solver/Cost", "keepsHardRules", "()Z"⟩ : MethodName) prog_57_method_2_code 1 (some .boolean) :: ws) ({ frames := 0, cells := 0, slots := 0, locals := 0 } : Room)) (fun a U => a = #[(.ref r0)] ∧ Z.Warmed39 U.vm ∧ U.heap = h0) (fun _ _ _ _ _ => True) (fun _ U o U' => ∃ v L, o = .returned v ∧ own_Q4 Z r0 x h0 n0 v U'.heap L ∧ FrameEnd U o U' L ({ frames := 0, cells := 0, slots := 0, locals := 0 } : Room).cells ({ frames := 0, cells := 0, slots := 0, locals := 0 } : Room).slots) := by
  refine MetFree.of_bodySF (plainFor_of_name own_pn1) hisR ?_
  intro p e s m args below meth c s₁ Bd hml0 hP hK
  obtain ⟨rfl, hZ, hh⟩ := hP
  have hx := Bd.exec
  have hby := Bd.bytes
  have hml : c.maxLocals = 1 := hml0
  have hown : s.vm.findClass "com/example/diptych/diptych/solver/Cost" = some m.cls := findClass_of_methodNamed Bd.named
  have hnm := (name_of_methodNamed Bd.named Bd.method).1
  have X0 : Stand p l e ({ frames := 0, cells := 0, slots := 0, locals := 0 } : Room) s m #[(.ref r0)] below meth c s₁ [] 0 0 := Stand.of_body Bd
  have e0 : s₁.heap = h0 := by rw [← hh, Bd.state]; rfl
  have N0 := Fr.nil n0
  suffices H : own_Ends p e below s ({ frames := 0, cells := 0, slots := 0, locals := 0 } : Room).cells ({ frames := 0, cells := 0, slots := 0, locals := 0 } : Room).slots (own_Q4 Z r0 x h0 n0) (s₁.setTop (mkF m 0 #[.val (.ref r0)] [])) by
    obtain ⟨s₂, o, h1, h2⟩ := H
    exact ⟨s₂, o, castTop (own_ef4 m r0) h1, h2⟩
  show own_Ends _ _ _ _ _ _ _ (s₁.setTop (mkF m 0 #[.val (.ref r0)] []))
  refine own_step (fun _ k => XS.aloadN X0.here hx rfl (hb hby own_d4_0) rfl rfl k) ?_
  show own_Ends _ _ _ _ _ _ _ (s₁.setTop (mkF m 1 #[.val (.ref r0)] [(.ref r0)]))
  obtain ⟨T9, X9, e9, st9⟩ := getF X0 hx hZ hown (host := "") (Or.inl (hw _ (List.mem_of_getElem? (i := 14) rfl))) Via.refl e0 F0 (g := (mkF m 1 #[.val (.ref r0)] [(.ref r0)])) rfl rfl (hb hby own_d4_1)
  refine own_step (fun _ k => st9 _ k) ?_
  show own_Ends _ _ _ _ _ _ _ (T9.setTop (mkF m 4 #[.val (.ref r0)] [(.long x)]))
  refine own_step (fun _ k => XS.lconst X9.here hx rfl (hb hby own_d4_4) k) ?_
  show own_Ends _ _ _ _ _ _ _ (T9.setTop (mkF m 5 #[.val (.ref r0)] [(.long (0 : Int64)), (.long x)]))
  refine own_step (fun _ k => XS.lcmp X9.here hx rfl (hb hby own_d4_5) rfl k) ?_
  show own_Ends _ _ _ _ _ _ _ (T9.setTop (mkF m 6 #[.val (.ref r0)] [(.int (lcmpW x (0 : Int64)))]))
  by_cases h1 : x = (0 : Int64)
  · refine own_step (fun _ k => XS.ifNo X9.here hx rfl (hb hby own_d4_6) rfl ((if0 _ _).trans (teq ((lw_eq _ _).mpr h1)).2) k) ?_
    show own_Ends _ _ _ _ _ _ _ (T9.setTop (mkF m 9 #[.val (.ref r0)] []))
    refine own_step (fun _ k => XS.iconst X9.here hx rfl (hb hby own_d4_9) k) ?_
    show own_Ends _ _ _ _ _ _ _ (T9.setTop (mkF m 10 #[.val (.ref r0)] [(.int (1 : Int32))]))
    refine own_step (fun _ k => XS.goto X9.here hx rfl (pc0 := 10) (pc' := 14) rfl (hb hby own_d4_10) (by decide) (by decide) k) ?_
    show own_Ends _ _ _ _ _ _ _ (T9.setTop (mkF m 14 #[.val (.ref r0)] [(.int (1 : Int32))]))
    refine own_ret X9 (BodyLoose.notSynchronized Bd) (v := (some (.int (1 : Int32)))) (fun h => by rw [Bd.returns] at h; cases h) ?_ (by decide) (by decide) (fun fs hr => X9.ireturnOut hx Bd.returns rfl (by simp) (hb hby own_d4_14) hr)
    show own_Q4 Z r0 x h0 n0 (some (.int (1 : Int32))) T9.heap _
    rw [e9]
    exact ⟨by simp [own_b1, h1], N0, rfl⟩
  · refine own_step (fun _ k => XS.ifYes X9.here hx rfl (pc0 := 6) (pc' := 13) rfl (hb hby own_d4_6) rfl ((if0 _ _).trans (feq (fun q => h1 ((lw_eq _ _).mp q))).2) (by decide) (by decide) k) ?_
    show own_Ends _ _ _ _ _ _ _ (T9.setTop (mkF m 13 #[.val (.ref r0)] []))
    refine own_step (fun _ k => XS.iconst X9.here hx rfl (hb hby own_d4_13) k) ?_
    show own_Ends _ _ _ _ _ _ _ (T9.setTop (mkF m 14 #[.val (.ref r0)] [(.int (0 : Int32))]))
    refine own_ret X9 (BodyLoose.notSynchronized Bd) (v := (some (.int (0 : Int32)))) (fun h => by rw [Bd.returns] at h; cases h) ?_ (by decide) (by decide) (fun fs hr => X9.ireturnOut hx Bd.returns rfl (by simp) (hb hby own_d4_14) hr)
    show own_Q4 Z r0 x h0 n0 (some (.int (0 : Int32))) T9.heap _
    rw [e9]
    exact ⟨by simp [own_b1, h1], N0, rfl⟩
theorem own_pn2 : plainName "com/example/diptych/diptych/solver/CostIsNothingPinLaw" = true := by first | (simp [plainName, overriddenIn]; done) | decide +kernel
theorem own_ef0 (m : MethodId) (q0 : Int64) (q1 : Int64) (q2 : Int64) (p3 : Int32) : entryFrame m #[(.long q0), (.long q1), (.long q2), (.int p3)] maxLocals = mkF m 0 #[.val (.long q0), .second, .val (.long q1), .second, .val (.long q2), .second, .val (.int p3), .unset, .unset, .unset, .unset, .unset, .unset, .unset, .unset, .unset] [] := by first | (simp [entryFrame, mkF, argsToLocals, Value.category, maxLocals]; done) | rfl
theorem own_pd1 : parseMethodDescriptor "(JJJ)V" = some ⟨[.long, .long, .long], none⟩ := by decide +kernel
theorem own_pd2 : parseMethodDescriptor "()Z" = some ⟨[], some .boolean⟩ := by decide +kernel
def own_Q0 (Z : State) (q0 : Int64) (q1 : Int64) (q2 : Int64) (p3 : Int32)  (h0 : Heap) (n0 : Nat) (v : Option Value) (h : Heap) (L : List Loc) : Prop := v = some (.int 1) ∧ Fr n0 L
set_option maxRecDepth 65536 in
set_option maxHeartbeats 40000000 in
theorem own_rm0 (l : Launch) (Z : State) (a0 : Array Value) (hw : ∀ d ∈ tables_1, d.before a0 Z = true) (ws : List Jvm.Cond) (q0 : Int64) (q1 : Int64) (q2 : Int64) (p3 : Int32)  (h0 : Heap) (n0 : Nat) (Z0 : n0 ≤ h0.size)  :
    MetFree l x (head1 (Jvm.Cond.code x code maxLocals ret :: ws) room_1) (fun a U => a = #[(.long q0), (.long q1), (.long q2), (.int p3)] ∧ Z.Warmed39 U.vm ∧ U.heap = h0) (fun _ _ _ _ _ => True) (fun _ U o U' => ∃ v L, o = .returned v ∧ own_Q0 Z q0 q1 q2 p3  h0 n0 v U'.heap L ∧ FrameEnd U o U' L 1 3) := by
  refine MetFree.of_bodySF (plainFor_of_name own_pn2) hisR ?_
  intro p e s m args below meth c s₁ Bd hml0 hP hK
  obtain ⟨rfl, hZ, hh⟩ := hP
  have hx := Bd.exec
  have hby := Bd.bytes
  have hml : c.maxLocals = 16 := hml0
  have hown : s.vm.findClass "com/example/diptych/diptych/solver/CostIsNothingPinLaw" = some m.cls := findClass_of_methodNamed Bd.named
  have hnm := (name_of_methodNamed Bd.named Bd.method).1
  have X0 : Stand p l e room_1 s m #[(.long q0), (.long q1), (.long q2), (.int p3)] below meth c s₁ [] 0 0 := Stand.of_body Bd
  have e0 : s₁.heap = h0 := by rw [← hh, Bd.state]; rfl
  have N0 := Fr.nil n0
  suffices H : own_Ends p e below s 1 3 (own_Q0 Z q0 q1 q2 p3  h0 n0) (s₁.setTop (mkF m 0 #[.val (.long q0), .second, .val (.long q1), .second, .val (.long q2), .second, .val (.int p3), .unset, .unset, .unset, .unset, .unset, .unset, .unset, .unset, .unset] [])) by
    obtain ⟨s₂, o, h1, h2⟩ := H
    exact ⟨s₂, o, castTop (own_ef0 m q0 q1 q2 p3) h1, h2⟩
  show own_Ends _ _ _ _ _ _ _ (s₁.setTop (mkF m 0 #[.val (.long q0), .second, .val (.long q1), .second, .val (.long q2), .second, .val (.int p3), .unset, .unset, .unset, .unset, .unset, .unset, .unset, .unset, .unset] []))
  have J12_10 : ∀ (v : Int64), own_Ends p e below s 1 3 (own_Q0 Z q0 q1 q2 p3  h0 n0) (s₁.setTop (mkF m 12 #[.val (.long q0), .second, .val (.long q1), .second, .val (.long q2), .second, .val (.int p3), .unset, .unset, .unset, .unset, .unset, .unset, .unset, .unset, .unset] [(.long v)])) := by
    intro v
    show own_Ends _ _ _ _ _ _ _ (s₁.setTop (mkF m 12 #[.val (.long q0), .second, .val (.long q1), .second, .val (.long q2), .second, .val (.int p3), .unset, .unset, .unset, .unset, .unset, .unset, .unset, .unset, .unset] [(.long v)]))
    refine own_step (fun _ k => XS.lstore X0.here hx rfl (hb hby at_12) rfl (l' := #[.val (.long q0), .second, .val (.long q1), .second, .val (.long q2), .second, .val (.int p3), .val (.long v), .second, .unset, .unset, .unset, .unset, .unset, .unset, .unset]) rfl k) ?_
    show own_Ends _ _ _ _ _ _ _ (s₁.setTop (mkF m 14 #[.val (.long q0), .second, .val (.long q1), .second, .val (.long q2), .second, .val (.int p3), .val (.long v), .second, .unset, .unset, .unset, .unset, .unset, .unset, .unset] []))
    refine own_step (fun _ k => XS.iload X0.here hx rfl (hb hby at_14) rfl k) ?_
    show own_Ends _ _ _ _ _ _ _ (s₁.setTop (mkF m 16 #[.val (.long q0), .second, .val (.long q1), .second, .val (.long q2), .second, .val (.int p3), .val (.long v), .second, .unset, .unset, .unset, .unset, .unset, .unset, .unset] [(.int p3)]))
    refine own_step (fun _ k => XS.iconst X0.here hx rfl (hb hby at_16) k) ?_
    show own_Ends _ _ _ _ _ _ _ (s₁.setTop (mkF m 17 #[.val (.long q0), .second, .val (.long q1), .second, .val (.long q2), .second, .val (.int p3), .val (.long v), .second, .unset, .unset, .unset, .unset, .unset, .unset, .unset] [(.int (2 : Int32)), (.int p3)]))
    refine own_step (fun _ k => XS.iand X0.here hx rfl (hb hby at_17) rfl k) ?_
    show own_Ends _ _ _ _ _ _ _ (s₁.setTop (mkF m 18 #[.val (.long q0), .second, .val (.long q1), .second, .val (.long q2), .second, .val (.int p3), .val (.long v), .second, .unset, .unset, .unset, .unset, .unset, .unset, .unset] [(.int (p3 &&& (2 : Int32)))]))
    have J26_11 : ∀ (sv : Int64), own_Ends p e below s 1 3 (own_Q0 Z q0 q1 q2 p3  h0 n0) (s₁.setTop (mkF m 26 #[.val (.long q0), .second, .val (.long q1), .second, .val (.long q2), .second, .val (.int p3), .val (.long v), .second, .unset, .unset, .unset, .unset, .unset, .unset, .unset] [(.long sv)])) := by
      intro sv
      show own_Ends _ _ _ _ _ _ _ (s₁.setTop (mkF m 26 #[.val (.long q0), .second, .val (.long q1), .second, .val (.long q2), .second, .val (.int p3), .val (.long v), .second, .unset, .unset, .unset, .unset, .unset, .unset, .unset] [(.long sv)]))
      refine own_step (fun _ k => XS.lstore X0.here hx rfl (hb hby at_26) rfl (l' := #[.val (.long q0), .second, .val (.long q1), .second, .val (.long q2), .second, .val (.int p3), .val (.long v), .second, .val (.long sv), .second, .unset, .unset, .unset, .unset, .unset]) rfl k) ?_
      show own_Ends _ _ _ _ _ _ _ (s₁.setTop (mkF m 28 #[.val (.long q0), .second, .val (.long q1), .second, .val (.long q2), .second, .val (.int p3), .val (.long v), .second, .val (.long sv), .second, .unset, .unset, .unset, .unset, .unset] []))
      refine own_step (fun _ k => XS.iload X0.here hx rfl (hb hby at_28) rfl k) ?_
      show own_Ends _ _ _ _ _ _ _ (s₁.setTop (mkF m 30 #[.val (.long q0), .second, .val (.long q1), .second, .val (.long q2), .second, .val (.int p3), .val (.long v), .second, .val (.long sv), .second, .unset, .unset, .unset, .unset, .unset] [(.int p3)]))
      refine own_step (fun _ k => XS.iconst X0.here hx rfl (hb hby at_30) k) ?_
      show own_Ends _ _ _ _ _ _ _ (s₁.setTop (mkF m 31 #[.val (.long q0), .second, .val (.long q1), .second, .val (.long q2), .second, .val (.int p3), .val (.long v), .second, .val (.long sv), .second, .unset, .unset, .unset, .unset, .unset] [(.int (4 : Int32)), (.int p3)]))
      refine own_step (fun _ k => XS.iand X0.here hx rfl (hb hby at_31) rfl k) ?_
      show own_Ends _ _ _ _ _ _ _ (s₁.setTop (mkF m 32 #[.val (.long q0), .second, .val (.long q1), .second, .val (.long q2), .second, .val (.int p3), .val (.long v), .second, .val (.long sv), .second, .unset, .unset, .unset, .unset, .unset] [(.int (p3 &&& (4 : Int32)))]))
      have J41_12 : ∀ (o : Int64), own_Ends p e below s 1 3 (own_Q0 Z q0 q1 q2 p3  h0 n0) (s₁.setTop (mkF m 41 #[.val (.long q0), .second, .val (.long q1), .second, .val (.long q2), .second, .val (.int p3), .val (.long v), .second, .val (.long sv), .second, .unset, .unset, .unset, .unset, .unset] [(.long o)])) := by
        intro o
        show own_Ends _ _ _ _ _ _ _ (s₁.setTop (mkF m 41 #[.val (.long q0), .second, .val (.long q1), .second, .val (.long q2), .second, .val (.int p3), .val (.long v), .second, .val (.long sv), .second, .unset, .unset, .unset, .unset, .unset] [(.long o)]))
        refine own_step (fun _ k => XS.lstore X0.here hx rfl (hb hby at_41) rfl (l' := #[.val (.long q0), .second, .val (.long q1), .second, .val (.long q2), .second, .val (.int p3), .val (.long v), .second, .val (.long sv), .second, .val (.long o), .second, .unset, .unset, .unset]) rfl k) ?_
        show own_Ends _ _ _ _ _ _ _ (s₁.setTop (mkF m 43 #[.val (.long q0), .second, .val (.long q1), .second, .val (.long q2), .second, .val (.int p3), .val (.long v), .second, .val (.long sv), .second, .val (.long o), .second, .unset, .unset, .unset] []))
        obtain ⟨T13, h13, X13, e13, E13, A13, D13, -, st13⟩ := newO X0 hx hZ hown (hw _ (List.mem_of_getElem? (i := 0) rfl)) (hw _ (List.mem_of_getElem? (i := 1) rfl)) (hw _ (List.mem_of_getElem? (i := 2) rfl)) e0 (g := (mkF m 43 #[.val (.long q0), .second, .val (.long q1), .second, .val (.long q2), .second, .val (.int p3), .val (.long v), .second, .val (.long sv), .second, .val (.long o), .second, .unset, .unset, .unset] [])) rfl (hb hby at_43) (by decide) (by decide)
        obtain ⟨b13, g13⟩ : ∃ z, z = h0.size := ⟨_, rfl⟩
        rw [← g13] at A13 D13 st13
        have gn13 : n0 ≤ b13 := Nat.le_trans Z0 (Nat.le_of_eq g13.symm)
        have Z13 := Nat.le_trans Z0 E13.1
        have F13_b13_violations : Fld Z h13 b13 "com/example/diptych/diptych/solver/Cost" "violations" "J" (.long (0 : Int64)) := D13 (Or.inr (hw _ (List.mem_of_getElem? (i := 15) rfl))) (ty := .long) (by decide)
        have F13_b13_shortfall : Fld Z h13 b13 "com/example/diptych/diptych/solver/Cost" "shortfall" "J" (.long (0 : Int64)) := D13 (Or.inr (hw _ (List.mem_of_getElem? (i := 17) rfl))) (ty := .long) (by decide)
        have F13_b13_objective : Fld Z h13 b13 "com/example/diptych/diptych/solver/Cost" "objective" "J" (.long (0 : Int64)) := D13 (Or.inr (hw _ (List.mem_of_getElem? (i := 19) rfl))) (ty := .long) (by decide)
        refine own_step (fun _ k => st13 _ k) ?_
        show own_Ends _ _ _ _ _ _ _ (T13.setTop (mkF m 46 #[.val (.long q0), .second, .val (.long q1), .second, .val (.long q2), .second, .val (.int p3), .val (.long v), .second, .val (.long sv), .second, .val (.long o), .second, .unset, .unset, .unset] [(.ref b13)]))
        refine own_step (fun _ k => XS.dup X13.here hx rfl (hb hby at_46) rfl rfl k) ?_
        show own_Ends _ _ _ _ _ _ _ (T13.setTop (mkF m 47 #[.val (.long q0), .second, .val (.long q1), .second, .val (.long q2), .second, .val (.int p3), .val (.long v), .second, .val (.long sv), .second, .val (.long o), .second, .unset, .unset, .unset] [(.ref b13), (.ref b13)]))
        refine own_step (fun _ k => XS.lload X13.here hx rfl (hb hby at_47) rfl k) ?_
        show own_Ends _ _ _ _ _ _ _ (T13.setTop (mkF m 49 #[.val (.long q0), .second, .val (.long q1), .second, .val (.long q2), .second, .val (.int p3), .val (.long v), .second, .val (.long sv), .second, .val (.long o), .second, .unset, .unset, .unset] [(.long v), (.ref b13), (.ref b13)]))
        refine own_step (fun _ k => XS.lload X13.here hx rfl (hb hby at_49) rfl k) ?_
        show own_Ends _ _ _ _ _ _ _ (T13.setTop (mkF m 51 #[.val (.long q0), .second, .val (.long q1), .second, .val (.long q2), .second, .val (.int p3), .val (.long v), .second, .val (.long sv), .second, .val (.long o), .second, .unset, .unset, .unset] [(.long sv), (.long v), (.ref b13), (.ref b13)]))
        refine own_step (fun _ k => XS.lload X13.here hx rfl (hb hby at_51) rfl k) ?_
        show own_Ends _ _ _ _ _ _ _ (T13.setTop (mkF m 53 #[.val (.long q0), .second, .val (.long q1), .second, .val (.long q2), .second, .val (.int p3), .val (.long v), .second, .val (.long sv), .second, .val (.long o), .second, .unset, .unset, .unset] [(.long o), (.long sv), (.long v), (.ref b13), (.ref b13)]))
        obtain ⟨_, _, ⟨T14, L14, k14, n14⟩, -, X14, ⟨Lc14, hQ14, l14, y14, z14⟩, st14⟩ := X13.specialBack hx (y := (⟨"com/example/diptych/diptych/solver/Cost", "<init>", "(JJJ)V"⟩ : MethodName)) rfl hown (mvT hZ (hw _ (List.mem_of_getElem? (i := 3) rfl))) (mvT hZ (hw _ (List.mem_of_getElem? (i := 4) rfl))) (mvT hZ (hw _ (List.mem_of_getElem? (i := 5) rfl))) (by decide) (backOf (W := 1) (own_rm2 l Z a0 hw [] b13 v sv o  h13 n0 Z13 F13_b13_violations F13_b13_shortfall F13_b13_objective A13 gn13) hZ (hw _ (List.mem_of_getElem? (i := 5) rfl)) (hw _ (List.mem_of_getElem? (i := 2) rfl)) (by decide) (by decide)) (g := (mkF m 53 #[.val (.long q0), .second, .val (.long q1), .second, .val (.long q2), .second, .val (.int p3), .val (.long v), .second, .val (.long sv), .second, .val (.long o), .second, .unset, .unset, .unset] [(.long o), (.long sv), (.long v), (.ref b13), (.ref b13)])) rfl (by rw [hml]; rfl) (Steps.refl _) (a := b13) (argsL := [(.long v), (.long sv), (.long o)]) (rest := [(.ref b13)]) (lenOf own_pd1 rfl) rfl (by show 2 * 0 + _ ≤ _; exact Nat.le_of_eq rfl) (hb hby at_53) (fun _ _ => ⟨rfl, e13, (by decide : 1 + 0 ≤ _), (by decide : 3 + 0 ≤ _)⟩)
        dsimp only [Pt.U, Pt.locs, Pt.cells, Pt.slots] at X14 l14 y14 z14 st14 hQ14
        subst l14 y14 z14
        obtain ⟨rfl, Nq14, K14, A14, G0_14, G1_14, G2_14⟩ := hQ14
        have N14 := Fr.app N0 Nq14
        refine own_step (fun _ k => st14.trans k) ?_
        show own_Ends _ _ _ _ _ _ _ (T14.setTop (mkF m 56 #[.val (.long q0), .second, .val (.long q1), .second, .val (.long q2), .second, .val (.int p3), .val (.long v), .second, .val (.long sv), .second, .val (.long o), .second, .unset, .unset, .unset] [(.ref b13)]))
        have Z14 := Nat.le_trans Z13 K14.1
        refine own_step (fun _ k => XS.astore X14.here hx rfl (hb hby at_56) rfl rfl (l' := #[.val (.long q0), .second, .val (.long q1), .second, .val (.long q2), .second, .val (.int p3), .val (.long v), .second, .val (.long sv), .second, .val (.long o), .second, .val (.ref b13), .unset, .unset]) rfl k) ?_
        show own_Ends _ _ _ _ _ _ _ (T14.setTop (mkF m 58 #[.val (.long q0), .second, .val (.long q1), .second, .val (.long q2), .second, .val (.int p3), .val (.long v), .second, .val (.long sv), .second, .val (.long o), .second, .val (.ref b13), .unset, .unset] []))
        refine own_step (fun _ k => XS.lload X14.here hx rfl (hb hby at_58) rfl k) ?_
        show own_Ends _ _ _ _ _ _ _ (T14.setTop (mkF m 60 #[.val (.long q0), .second, .val (.long q1), .second, .val (.long q2), .second, .val (.int p3), .val (.long v), .second, .val (.long sv), .second, .val (.long o), .second, .val (.ref b13), .unset, .unset] [(.long v)]))
        refine own_step (fun _ k => XS.lload X14.here hx rfl (hb hby at_60) rfl k) ?_
        show own_Ends _ _ _ _ _ _ _ (T14.setTop (mkF m 62 #[.val (.long q0), .second, .val (.long q1), .second, .val (.long q2), .second, .val (.int p3), .val (.long v), .second, .val (.long sv), .second, .val (.long o), .second, .val (.ref b13), .unset, .unset] [(.long sv), (.long v)]))
        refine own_step (fun _ k => XS.lor X14.here hx rfl (hb hby at_62) rfl k) ?_
        show own_Ends _ _ _ _ _ _ _ (T14.setTop (mkF m 63 #[.val (.long q0), .second, .val (.long q1), .second, .val (.long q2), .second, .val (.int p3), .val (.long v), .second, .val (.long sv), .second, .val (.long o), .second, .val (.ref b13), .unset, .unset] [(.long (v ||| sv))]))
        refine own_step (fun _ k => XS.lload X14.here hx rfl (hb hby at_63) rfl k) ?_
        show own_Ends _ _ _ _ _ _ _ (T14.setTop (mkF m 65 #[.val (.long q0), .second, .val (.long q1), .second, .val (.long q2), .second, .val (.int p3), .val (.long v), .second, .val (.long sv), .second, .val (.long o), .second, .val (.ref b13), .unset, .unset] [(.long o), (.long (v ||| sv))]))
        refine own_step (fun _ k => XS.lor X14.here hx rfl (hb hby at_65) rfl k) ?_
        show own_Ends _ _ _ _ _ _ _ (T14.setTop (mkF m 66 #[.val (.long q0), .second, .val (.long q1), .second, .val (.long q2), .second, .val (.int p3), .val (.long v), .second, .val (.long sv), .second, .val (.long o), .second, .val (.ref b13), .unset, .unset] [(.long ((v ||| sv) ||| o))]))
        refine own_step (fun _ k => XS.lconst X14.here hx rfl (hb hby at_66) k) ?_
        show own_Ends _ _ _ _ _ _ _ (T14.setTop (mkF m 67 #[.val (.long q0), .second, .val (.long q1), .second, .val (.long q2), .second, .val (.int p3), .val (.long v), .second, .val (.long sv), .second, .val (.long o), .second, .val (.ref b13), .unset, .unset] [(.long (0 : Int64)), (.long ((v ||| sv) ||| o))]))
        refine own_step (fun _ k => XS.lcmp X14.here hx rfl (hb hby at_67) rfl k) ?_
        show own_Ends _ _ _ _ _ _ _ (T14.setTop (mkF m 68 #[.val (.long q0), .second, .val (.long q1), .second, .val (.long q2), .second, .val (.int p3), .val (.long v), .second, .val (.long sv), .second, .val (.long o), .second, .val (.ref b13), .unset, .unset] [(.int (lcmpW ((v ||| sv) ||| o) (0 : Int64)))]))
        by_cases h1 : ((v ||| sv) ||| o) = (0 : Int64)
        · refine own_step (fun _ k => XS.ifNo X14.here hx rfl (hb hby at_68) rfl ((if0 _ _).trans (teq ((lw_eq _ _).mpr h1)).2) k) ?_
          show own_Ends _ _ _ _ _ _ _ (T14.setTop (mkF m 71 #[.val (.long q0), .second, .val (.long q1), .second, .val (.long q2), .second, .val (.int p3), .val (.long v), .second, .val (.long sv), .second, .val (.long o), .second, .val (.ref b13), .unset, .unset] []))
          refine own_step (fun _ k => XS.iconst X14.here hx rfl (hb hby at_71) k) ?_
          show own_Ends _ _ _ _ _ _ _ (T14.setTop (mkF m 72 #[.val (.long q0), .second, .val (.long q1), .second, .val (.long q2), .second, .val (.int p3), .val (.long v), .second, .val (.long sv), .second, .val (.long o), .second, .val (.ref b13), .unset, .unset] [(.int (1 : Int32))]))
          refine own_step (fun _ k => XS.goto X14.here hx rfl (pc0 := 72) (pc' := 76) rfl (hb hby at_72) (by decide) (by decide) k) ?_
          show own_Ends _ _ _ _ _ _ _ (T14.setTop (mkF m 76 #[.val (.long q0), .second, .val (.long q1), .second, .val (.long q2), .second, .val (.int p3), .val (.long v), .second, .val (.long sv), .second, .val (.long o), .second, .val (.ref b13), .unset, .unset] [(.int (1 : Int32))]))
          refine own_step (fun _ k => XS.istore X14.here hx rfl (hb hby at_76) rfl (l' := #[.val (.long q0), .second, .val (.long q1), .second, .val (.long q2), .second, .val (.int p3), .val (.long v), .second, .val (.long sv), .second, .val (.long o), .second, .val (.ref b13), .val (.int (1 : Int32)), .unset]) rfl k) ?_
          show own_Ends _ _ _ _ _ _ _ (T14.setTop (mkF m 78 #[.val (.long q0), .second, .val (.long q1), .second, .val (.long q2), .second, .val (.int p3), .val (.long v), .second, .val (.long sv), .second, .val (.long o), .second, .val (.ref b13), .val (.int (1 : Int32)), .unset] []))
          refine own_step (fun _ k => XS.aload X14.here hx rfl (hb hby at_78) rfl rfl k) ?_
          show own_Ends _ _ _ _ _ _ _ (T14.setTop (mkF m 80 #[.val (.long q0), .second, .val (.long q1), .second, .val (.long q2), .second, .val (.int p3), .val (.long v), .second, .val (.long sv), .second, .val (.long o), .second, .val (.ref b13), .val (.int (1 : Int32)), .unset] [(.ref b13)]))
          obtain ⟨cq16, kq16, qa16, qb16, qc16⟩ := isOf hZ rfl A14
          obtain ⟨_, _, ⟨T16, L16, k16, n16⟩, -, X16, ⟨Lc16, hQ16, l16, y16, z16⟩, st16⟩ := X14.virtualBack hx (y := (⟨"com/example/diptych/diptych/solver/Cost", "isNothing", "()Z"⟩ : MethodName)) (z := (⟨"com/example/diptych/diptych/solver/Cost", "isNothing", "()Z"⟩ : MethodName)) hown (mvT hZ (hw _ (List.mem_of_getElem? (i := 20) rfl))) (mvT hZ (hw _ (List.mem_of_getElem? (i := 21) rfl))) (notFace_of_selects (args := #[]) (mvT hZ (hw _ (List.mem_of_getElem? (i := 23) rfl)))) (mvT hZ (hw _ (List.mem_of_getElem? (i := 23) rfl))) (mvT hZ (hw _ (List.mem_of_getElem? (i := 22) rfl))) (by decide) (backOf (W := 0) (own_rm3 l Z a0 hw [] b13 v sv o T14.heap n0 Z14 G0_14 G1_14 G2_14) hZ (hw _ (List.mem_of_getElem? (i := 24) rfl)) (hw _ (List.mem_of_getElem? (i := 2) rfl)) (by decide) (by decide)) qa16 qc16 (g := (mkF m 80 #[.val (.long q0), .second, .val (.long q1), .second, .val (.long q2), .second, .val (.int p3), .val (.long v), .second, .val (.long sv), .second, .val (.long o), .second, .val (.ref b13), .val (.int (1 : Int32)), .unset] [(.ref b13)])) rfl (by rw [hml]; rfl) (Steps.refl _) (argsL := []) (rest := []) (lenOf own_pd2 rfl) rfl (by show 2 * 0 + _ ≤ _; exact Nat.le_of_eq rfl) (hb hby at_80) (fun _ _ => ⟨rfl, rfl, (by decide : 1 + 0 ≤ _), (by decide : 3 + 0 ≤ _)⟩)
          dsimp only [Pt.U, Pt.locs, Pt.cells, Pt.slots] at X16 l16 y16 z16 st16 hQ16
          subst l16 y16 z16
          obtain ⟨rfl, Nq16, e16⟩ := hQ16
          have N16 := Fr.app N14 Nq16
          refine own_step (fun _ k => st16.trans k) ?_
          show own_Ends _ _ _ _ _ _ _ (T16.setTop (mkF m 83 #[.val (.long q0), .second, .val (.long q1), .second, .val (.long q2), .second, .val (.int p3), .val (.long v), .second, .val (.long sv), .second, .val (.long o), .second, .val (.ref b13), .val (.int (1 : Int32)), .unset] [(.int (own_b3 v sv o))]))
          rw [own_yes h1]
          show own_Ends _ _ _ _ _ _ _ (T16.setTop (mkF m 83 #[.val (.long q0), .second, .val (.long q1), .second, .val (.long q2), .second, .val (.int p3), .val (.long v), .second, .val (.long sv), .second, .val (.long o), .second, .val (.ref b13), .val (.int (1 : Int32)), .unset] [(.int (1 : Int32))]))
          refine own_step (fun _ k => XS.istore X16.here hx rfl (hb hby at_83) rfl (l' := #[.val (.long q0), .second, .val (.long q1), .second, .val (.long q2), .second, .val (.int p3), .val (.long v), .second, .val (.long sv), .second, .val (.long o), .second, .val (.ref b13), .val (.int (1 : Int32)), .val (.int (1 : Int32))]) rfl k) ?_
          show own_Ends _ _ _ _ _ _ _ (T16.setTop (mkF m 85 #[.val (.long q0), .second, .val (.long q1), .second, .val (.long q2), .second, .val (.int p3), .val (.long v), .second, .val (.long sv), .second, .val (.long o), .second, .val (.ref b13), .val (.int (1 : Int32)), .val (.int (1 : Int32))] []))
          refine own_step (fun _ k => XS.iload X16.here hx rfl (hb hby at_85) rfl k) ?_
          show own_Ends _ _ _ _ _ _ _ (T16.setTop (mkF m 87 #[.val (.long q0), .second, .val (.long q1), .second, .val (.long q2), .second, .val (.int p3), .val (.long v), .second, .val (.long sv), .second, .val (.long o), .second, .val (.ref b13), .val (.int (1 : Int32)), .val (.int (1 : Int32))] [(.int (1 : Int32))]))
          refine own_step (fun _ k => XS.iload X16.here hx rfl (hb hby at_87) rfl k) ?_
          show own_Ends _ _ _ _ _ _ _ (T16.setTop (mkF m 89 #[.val (.long q0), .second, .val (.long q1), .second, .val (.long q2), .second, .val (.int p3), .val (.long v), .second, .val (.long sv), .second, .val (.long o), .second, .val (.ref b13), .val (.int (1 : Int32)), .val (.int (1 : Int32))] [(.int (1 : Int32)), (.int (1 : Int32))]))
          refine own_step (fun _ k => XS.icmpYes X16.here hx rfl (pc0 := 89) (pc' := 94) rfl (hb hby at_89) rfl (teq rfl).1 (by decide) (by decide) k) ?_
          show own_Ends _ _ _ _ _ _ _ (T16.setTop (mkF m 94 #[.val (.long q0), .second, .val (.long q1), .second, .val (.long q2), .second, .val (.int p3), .val (.long v), .second, .val (.long sv), .second, .val (.long o), .second, .val (.ref b13), .val (.int (1 : Int32)), .val (.int (1 : Int32))] []))
          refine own_step (fun _ k => XS.iload X16.here hx rfl (hb hby at_94) rfl k) ?_
          show own_Ends _ _ _ _ _ _ _ (T16.setTop (mkF m 96 #[.val (.long q0), .second, .val (.long q1), .second, .val (.long q2), .second, .val (.int p3), .val (.long v), .second, .val (.long sv), .second, .val (.long o), .second, .val (.ref b13), .val (.int (1 : Int32)), .val (.int (1 : Int32))] [(.int (1 : Int32))]))
          refine own_step (fun _ k => XS.ifNo X16.here hx rfl (hb hby at_96) rfl ((if0 _ _).trans (feq (by decide)).1) k) ?_
          show own_Ends _ _ _ _ _ _ _ (T16.setTop (mkF m 99 #[.val (.long q0), .second, .val (.long q1), .second, .val (.long q2), .second, .val (.int p3), .val (.long v), .second, .val (.long sv), .second, .val (.long o), .second, .val (.ref b13), .val (.int (1 : Int32)), .val (.int (1 : Int32))] []))
          refine own_step (fun _ k => XS.aload X16.here hx rfl (hb hby at_99) rfl rfl k) ?_
          show own_Ends _ _ _ _ _ _ _ (T16.setTop (mkF m 101 #[.val (.long q0), .second, .val (.long q1), .second, .val (.long q2), .second, .val (.int p3), .val (.long v), .second, .val (.long sv), .second, .val (.long o), .second, .val (.ref b13), .val (.int (1 : Int32)), .val (.int (1 : Int32))] [(.ref b13)]))
          obtain ⟨cq17, kq17, qa17, qb17, qc17⟩ := isOf hZ e16 A14
          obtain ⟨_, _, ⟨T17, L17, k17, n17⟩, -, X17, ⟨Lc17, hQ17, l17, y17, z17⟩, st17⟩ := X16.virtualBack hx (y := (⟨"com/example/diptych/diptych/solver/Cost", "keepsHardRules", "()Z"⟩ : MethodName)) (z := (⟨"com/example/diptych/diptych/solver/Cost", "keepsHardRules", "()Z"⟩ : MethodName)) hown (mvT hZ (hw _ (List.mem_of_getElem? (i := 25) rfl))) (mvT hZ (hw _ (List.mem_of_getElem? (i := 26) rfl))) (notFace_of_selects (args := #[]) (mvT hZ (hw _ (List.mem_of_getElem? (i := 28) rfl)))) (mvT hZ (hw _ (List.mem_of_getElem? (i := 28) rfl))) (mvT hZ (hw _ (List.mem_of_getElem? (i := 27) rfl))) (by decide) (backOf (W := 0) (own_rm4 l Z a0 hw [] b13 v T14.heap n0 Z14 G0_14) hZ (hw _ (List.mem_of_getElem? (i := 29) rfl)) (hw _ (List.mem_of_getElem? (i := 2) rfl)) (by decide) (by decide)) qa17 qc17 (g := (mkF m 101 #[.val (.long q0), .second, .val (.long q1), .second, .val (.long q2), .second, .val (.int p3), .val (.long v), .second, .val (.long sv), .second, .val (.long o), .second, .val (.ref b13), .val (.int (1 : Int32)), .val (.int (1 : Int32))] [(.ref b13)])) rfl (by rw [hml]; rfl) (Steps.refl _) (argsL := []) (rest := []) (lenOf own_pd2 rfl) rfl (by show 2 * 0 + _ ≤ _; exact Nat.le_of_eq rfl) (hb hby at_101) (fun _ _ => ⟨rfl, e16, (by decide : 1 + 0 ≤ _), (by decide : 3 + 0 ≤ _)⟩)
          dsimp only [Pt.U, Pt.locs, Pt.cells, Pt.slots] at X17 l17 y17 z17 st17 hQ17
          subst l17 y17 z17
          obtain ⟨rfl, Nq17, e17⟩ := hQ17
          have N17 := Fr.app N16 Nq17
          refine own_step (fun _ k => st17.trans k) ?_
          show own_Ends _ _ _ _ _ _ _ (T17.setTop (mkF m 104 #[.val (.long q0), .second, .val (.long q1), .second, .val (.long q2), .second, .val (.int p3), .val (.long v), .second, .val (.long sv), .second, .val (.long o), .second, .val (.ref b13), .val (.int (1 : Int32)), .val (.int (1 : Int32))] [(.int (own_b1 v))]))
          rw [own_keep h1]
          show own_Ends _ _ _ _ _ _ _ (T17.setTop (mkF m 104 #[.val (.long q0), .second, .val (.long q1), .second, .val (.long q2), .second, .val (.int p3), .val (.long v), .second, .val (.long sv), .second, .val (.long o), .second, .val (.ref b13), .val (.int (1 : Int32)), .val (.int (1 : Int32))] [(.int (1 : Int32))]))
          refine own_step (fun _ k => XS.ifYes X17.here hx rfl (pc0 := 104) (pc' := 109) rfl (hb hby at_104) rfl ((if0 _ _).trans (feq (by decide)).2) (by decide) (by decide) k) ?_
          show own_Ends _ _ _ _ _ _ _ (T17.setTop (mkF m 109 #[.val (.long q0), .second, .val (.long q1), .second, .val (.long q2), .second, .val (.int p3), .val (.long v), .second, .val (.long sv), .second, .val (.long o), .second, .val (.ref b13), .val (.int (1 : Int32)), .val (.int (1 : Int32))] []))
          refine own_step (fun _ k => XS.iconst X17.here hx rfl (hb hby at_109) k) ?_
          show own_Ends _ _ _ _ _ _ _ (T17.setTop (mkF m 110 #[.val (.long q0), .second, .val (.long q1), .second, .val (.long q2), .second, .val (.int p3), .val (.long v), .second, .val (.long sv), .second, .val (.long o), .second, .val (.ref b13), .val (.int (1 : Int32)), .val (.int (1 : Int32))] [(.int (1 : Int32))]))
          refine own_ret X17 (BodyLoose.notSynchronized Bd) (v := (some (.int (1 : Int32)))) (fun h => by rw [Bd.returns] at h; cases h) ?_ (by decide) (by decide) (fun fs hr => X17.ireturnOut hx Bd.returns rfl (by simp) (hb hby at_110) hr)
          show own_Q0 Z q0 q1 q2 p3  h0 n0 (some (.int (1 : Int32))) T17.heap _
          rw [e17]
          exact ⟨rfl, N17⟩
        · refine own_step (fun _ k => XS.ifYes X14.here hx rfl (pc0 := 68) (pc' := 75) rfl (hb hby at_68) rfl ((if0 _ _).trans (feq (fun q => h1 ((lw_eq _ _).mp q))).2) (by decide) (by decide) k) ?_
          show own_Ends _ _ _ _ _ _ _ (T14.setTop (mkF m 75 #[.val (.long q0), .second, .val (.long q1), .second, .val (.long q2), .second, .val (.int p3), .val (.long v), .second, .val (.long sv), .second, .val (.long o), .second, .val (.ref b13), .unset, .unset] []))
          refine own_step (fun _ k => XS.iconst X14.here hx rfl (hb hby at_75) k) ?_
          show own_Ends _ _ _ _ _ _ _ (T14.setTop (mkF m 76 #[.val (.long q0), .second, .val (.long q1), .second, .val (.long q2), .second, .val (.int p3), .val (.long v), .second, .val (.long sv), .second, .val (.long o), .second, .val (.ref b13), .unset, .unset] [(.int (0 : Int32))]))
          refine own_step (fun _ k => XS.istore X14.here hx rfl (hb hby at_76) rfl (l' := #[.val (.long q0), .second, .val (.long q1), .second, .val (.long q2), .second, .val (.int p3), .val (.long v), .second, .val (.long sv), .second, .val (.long o), .second, .val (.ref b13), .val (.int (0 : Int32)), .unset]) rfl k) ?_
          show own_Ends _ _ _ _ _ _ _ (T14.setTop (mkF m 78 #[.val (.long q0), .second, .val (.long q1), .second, .val (.long q2), .second, .val (.int p3), .val (.long v), .second, .val (.long sv), .second, .val (.long o), .second, .val (.ref b13), .val (.int (0 : Int32)), .unset] []))
          refine own_step (fun _ k => XS.aload X14.here hx rfl (hb hby at_78) rfl rfl k) ?_
          show own_Ends _ _ _ _ _ _ _ (T14.setTop (mkF m 80 #[.val (.long q0), .second, .val (.long q1), .second, .val (.long q2), .second, .val (.int p3), .val (.long v), .second, .val (.long sv), .second, .val (.long o), .second, .val (.ref b13), .val (.int (0 : Int32)), .unset] [(.ref b13)]))
          obtain ⟨cq15, kq15, qa15, qb15, qc15⟩ := isOf hZ rfl A14
          obtain ⟨_, _, ⟨T15, L15, k15, n15⟩, -, X15, ⟨Lc15, hQ15, l15, y15, z15⟩, st15⟩ := X14.virtualBack hx (y := (⟨"com/example/diptych/diptych/solver/Cost", "isNothing", "()Z"⟩ : MethodName)) (z := (⟨"com/example/diptych/diptych/solver/Cost", "isNothing", "()Z"⟩ : MethodName)) hown (mvT hZ (hw _ (List.mem_of_getElem? (i := 20) rfl))) (mvT hZ (hw _ (List.mem_of_getElem? (i := 21) rfl))) (notFace_of_selects (args := #[]) (mvT hZ (hw _ (List.mem_of_getElem? (i := 23) rfl)))) (mvT hZ (hw _ (List.mem_of_getElem? (i := 23) rfl))) (mvT hZ (hw _ (List.mem_of_getElem? (i := 22) rfl))) (by decide) (backOf (W := 0) (own_rm3 l Z a0 hw [] b13 v sv o T14.heap n0 Z14 G0_14 G1_14 G2_14) hZ (hw _ (List.mem_of_getElem? (i := 24) rfl)) (hw _ (List.mem_of_getElem? (i := 2) rfl)) (by decide) (by decide)) qa15 qc15 (g := (mkF m 80 #[.val (.long q0), .second, .val (.long q1), .second, .val (.long q2), .second, .val (.int p3), .val (.long v), .second, .val (.long sv), .second, .val (.long o), .second, .val (.ref b13), .val (.int (0 : Int32)), .unset] [(.ref b13)])) rfl (by rw [hml]; rfl) (Steps.refl _) (argsL := []) (rest := []) (lenOf own_pd2 rfl) rfl (by show 2 * 0 + _ ≤ _; exact Nat.le_of_eq rfl) (hb hby at_80) (fun _ _ => ⟨rfl, rfl, (by decide : 1 + 0 ≤ _), (by decide : 3 + 0 ≤ _)⟩)
          dsimp only [Pt.U, Pt.locs, Pt.cells, Pt.slots] at X15 l15 y15 z15 st15 hQ15
          subst l15 y15 z15
          obtain ⟨rfl, Nq15, e15⟩ := hQ15
          have N15 := Fr.app N14 Nq15
          refine own_step (fun _ k => st15.trans k) ?_
          show own_Ends _ _ _ _ _ _ _ (T15.setTop (mkF m 83 #[.val (.long q0), .second, .val (.long q1), .second, .val (.long q2), .second, .val (.int p3), .val (.long v), .second, .val (.long sv), .second, .val (.long o), .second, .val (.ref b13), .val (.int (0 : Int32)), .unset] [(.int (own_b3 v sv o))]))
          rw [own_no h1]
          show own_Ends _ _ _ _ _ _ _ (T15.setTop (mkF m 83 #[.val (.long q0), .second, .val (.long q1), .second, .val (.long q2), .second, .val (.int p3), .val (.long v), .second, .val (.long sv), .second, .val (.long o), .second, .val (.ref b13), .val (.int (0 : Int32)), .unset] [(.int (0 : Int32))]))
          refine own_step (fun _ k => XS.istore X15.here hx rfl (hb hby at_83) rfl (l' := #[.val (.long q0), .second, .val (.long q1), .second, .val (.long q2), .second, .val (.int p3), .val (.long v), .second, .val (.long sv), .second, .val (.long o), .second, .val (.ref b13), .val (.int (0 : Int32)), .val (.int (0 : Int32))]) rfl k) ?_
          show own_Ends _ _ _ _ _ _ _ (T15.setTop (mkF m 85 #[.val (.long q0), .second, .val (.long q1), .second, .val (.long q2), .second, .val (.int p3), .val (.long v), .second, .val (.long sv), .second, .val (.long o), .second, .val (.ref b13), .val (.int (0 : Int32)), .val (.int (0 : Int32))] []))
          refine own_step (fun _ k => XS.iload X15.here hx rfl (hb hby at_85) rfl k) ?_
          show own_Ends _ _ _ _ _ _ _ (T15.setTop (mkF m 87 #[.val (.long q0), .second, .val (.long q1), .second, .val (.long q2), .second, .val (.int p3), .val (.long v), .second, .val (.long sv), .second, .val (.long o), .second, .val (.ref b13), .val (.int (0 : Int32)), .val (.int (0 : Int32))] [(.int (0 : Int32))]))
          refine own_step (fun _ k => XS.iload X15.here hx rfl (hb hby at_87) rfl k) ?_
          show own_Ends _ _ _ _ _ _ _ (T15.setTop (mkF m 89 #[.val (.long q0), .second, .val (.long q1), .second, .val (.long q2), .second, .val (.int p3), .val (.long v), .second, .val (.long sv), .second, .val (.long o), .second, .val (.ref b13), .val (.int (0 : Int32)), .val (.int (0 : Int32))] [(.int (0 : Int32)), (.int (0 : Int32))]))
          refine own_step (fun _ k => XS.icmpYes X15.here hx rfl (pc0 := 89) (pc' := 94) rfl (hb hby at_89) rfl (teq rfl).1 (by decide) (by decide) k) ?_
          show own_Ends _ _ _ _ _ _ _ (T15.setTop (mkF m 94 #[.val (.long q0), .second, .val (.long q1), .second, .val (.long q2), .second, .val (.int p3), .val (.long v), .second, .val (.long sv), .second, .val (.long o), .second, .val (.ref b13), .val (.int (0 : Int32)), .val (.int (0 : Int32))] []))
          refine own_step (fun _ k => XS.iload X15.here hx rfl (hb hby at_94) rfl k) ?_
          show own_Ends _ _ _ _ _ _ _ (T15.setTop (mkF m 96 #[.val (.long q0), .second, .val (.long q1), .second, .val (.long q2), .second, .val (.int p3), .val (.long v), .second, .val (.long sv), .second, .val (.long o), .second, .val (.ref b13), .val (.int (0 : Int32)), .val (.int (0 : Int32))] [(.int (0 : Int32))]))
          refine own_step (fun _ k => XS.ifYes X15.here hx rfl (pc0 := 96) (pc' := 109) rfl (hb hby at_96) rfl ((if0 _ _).trans (teq rfl).1) (by decide) (by decide) k) ?_
          show own_Ends _ _ _ _ _ _ _ (T15.setTop (mkF m 109 #[.val (.long q0), .second, .val (.long q1), .second, .val (.long q2), .second, .val (.int p3), .val (.long v), .second, .val (.long sv), .second, .val (.long o), .second, .val (.ref b13), .val (.int (0 : Int32)), .val (.int (0 : Int32))] []))
          refine own_step (fun _ k => XS.iconst X15.here hx rfl (hb hby at_109) k) ?_
          show own_Ends _ _ _ _ _ _ _ (T15.setTop (mkF m 110 #[.val (.long q0), .second, .val (.long q1), .second, .val (.long q2), .second, .val (.int p3), .val (.long v), .second, .val (.long sv), .second, .val (.long o), .second, .val (.ref b13), .val (.int (0 : Int32)), .val (.int (0 : Int32))] [(.int (1 : Int32))]))
          refine own_ret X15 (BodyLoose.notSynchronized Bd) (v := (some (.int (1 : Int32)))) (fun h => by rw [Bd.returns] at h; cases h) ?_ (by decide) (by decide) (fun fs hr => X15.ireturnOut hx Bd.returns rfl (by simp) (hb hby at_110) hr)
          show own_Q0 Z q0 q1 q2 p3  h0 n0 (some (.int (1 : Int32))) T15.heap _
          rw [e15]
          exact ⟨rfl, N15⟩
      by_cases h : (p3 &&& (4 : Int32)) = (0 : Int32)
      · refine own_step (fun _ k => XS.ifYes X0.here hx rfl (pc0 := 32) (pc' := 39) rfl (hb hby at_32) rfl ((if0 _ _).trans (teq h).1) (by decide) (by decide) k) ?_
        show own_Ends _ _ _ _ _ _ _ (s₁.setTop (mkF m 39 #[.val (.long q0), .second, .val (.long q1), .second, .val (.long q2), .second, .val (.int p3), .val (.long v), .second, .val (.long sv), .second, .unset, .unset, .unset, .unset, .unset] []))
        refine own_step (fun _ k => XS.lload X0.here hx rfl (hb hby at_39) rfl k) ?_
        show own_Ends _ _ _ _ _ _ _ (s₁.setTop (mkF m 41 #[.val (.long q0), .second, .val (.long q1), .second, .val (.long q2), .second, .val (.int p3), .val (.long v), .second, .val (.long sv), .second, .unset, .unset, .unset, .unset, .unset] [(.long q2)]))
        exact J41_12 _
      · refine own_step (fun _ k => XS.ifNo X0.here hx rfl (hb hby at_32) rfl ((if0 _ _).trans (feq h).1) k) ?_
        show own_Ends _ _ _ _ _ _ _ (s₁.setTop (mkF m 35 #[.val (.long q0), .second, .val (.long q1), .second, .val (.long q2), .second, .val (.int p3), .val (.long v), .second, .val (.long sv), .second, .unset, .unset, .unset, .unset, .unset] []))
        refine own_step (fun _ k => XS.lconst X0.here hx rfl (hb hby at_35) k) ?_
        show own_Ends _ _ _ _ _ _ _ (s₁.setTop (mkF m 36 #[.val (.long q0), .second, .val (.long q1), .second, .val (.long q2), .second, .val (.int p3), .val (.long v), .second, .val (.long sv), .second, .unset, .unset, .unset, .unset, .unset] [(.long (0 : Int64))]))
        refine own_step (fun _ k => XS.goto X0.here hx rfl (pc0 := 36) (pc' := 41) rfl (hb hby at_36) (by decide) (by decide) k) ?_
        show own_Ends _ _ _ _ _ _ _ (s₁.setTop (mkF m 41 #[.val (.long q0), .second, .val (.long q1), .second, .val (.long q2), .second, .val (.int p3), .val (.long v), .second, .val (.long sv), .second, .unset, .unset, .unset, .unset, .unset] [(.long (0 : Int64))]))
        exact J41_12 _
    by_cases h : (p3 &&& (2 : Int32)) = (0 : Int32)
    · refine own_step (fun _ k => XS.ifYes X0.here hx rfl (pc0 := 18) (pc' := 25) rfl (hb hby at_18) rfl ((if0 _ _).trans (teq h).1) (by decide) (by decide) k) ?_
      show own_Ends _ _ _ _ _ _ _ (s₁.setTop (mkF m 25 #[.val (.long q0), .second, .val (.long q1), .second, .val (.long q2), .second, .val (.int p3), .val (.long v), .second, .unset, .unset, .unset, .unset, .unset, .unset, .unset] []))
      refine own_step (fun _ k => XS.lloadN X0.here hx rfl (hb hby at_25) rfl k) ?_
      show own_Ends _ _ _ _ _ _ _ (s₁.setTop (mkF m 26 #[.val (.long q0), .second, .val (.long q1), .second, .val (.long q2), .second, .val (.int p3), .val (.long v), .second, .unset, .unset, .unset, .unset, .unset, .unset, .unset] [(.long q1)]))
      exact J26_11 _
    · refine own_step (fun _ k => XS.ifNo X0.here hx rfl (hb hby at_18) rfl ((if0 _ _).trans (feq h).1) k) ?_
      show own_Ends _ _ _ _ _ _ _ (s₁.setTop (mkF m 21 #[.val (.long q0), .second, .val (.long q1), .second, .val (.long q2), .second, .val (.int p3), .val (.long v), .second, .unset, .unset, .unset, .unset, .unset, .unset, .unset] []))
      refine own_step (fun _ k => XS.lconst X0.here hx rfl (hb hby at_21) k) ?_
      show own_Ends _ _ _ _ _ _ _ (s₁.setTop (mkF m 22 #[.val (.long q0), .second, .val (.long q1), .second, .val (.long q2), .second, .val (.int p3), .val (.long v), .second, .unset, .unset, .unset, .unset, .unset, .unset, .unset] [(.long (0 : Int64))]))
      refine own_step (fun _ k => XS.goto X0.here hx rfl (pc0 := 22) (pc' := 26) rfl (hb hby at_22) (by decide) (by decide) k) ?_
      show own_Ends _ _ _ _ _ _ _ (s₁.setTop (mkF m 26 #[.val (.long q0), .second, .val (.long q1), .second, .val (.long q2), .second, .val (.int p3), .val (.long v), .second, .unset, .unset, .unset, .unset, .unset, .unset, .unset] [(.long (0 : Int64))]))
      exact J26_11 _
  refine own_step (fun _ k => XS.iload X0.here hx rfl (hb hby at_0) rfl k) ?_
  show own_Ends _ _ _ _ _ _ _ (s₁.setTop (mkF m 2 #[.val (.long q0), .second, .val (.long q1), .second, .val (.long q2), .second, .val (.int p3), .unset, .unset, .unset, .unset, .unset, .unset, .unset, .unset, .unset] [(.int p3)]))
  refine own_step (fun _ k => XS.iconst X0.here hx rfl (hb hby at_2) k) ?_
  show own_Ends _ _ _ _ _ _ _ (s₁.setTop (mkF m 3 #[.val (.long q0), .second, .val (.long q1), .second, .val (.long q2), .second, .val (.int p3), .unset, .unset, .unset, .unset, .unset, .unset, .unset, .unset, .unset] [(.int (1 : Int32)), (.int p3)]))
  refine own_step (fun _ k => XS.iand X0.here hx rfl (hb hby at_3) rfl k) ?_
  show own_Ends _ _ _ _ _ _ _ (s₁.setTop (mkF m 4 #[.val (.long q0), .second, .val (.long q1), .second, .val (.long q2), .second, .val (.int p3), .unset, .unset, .unset, .unset, .unset, .unset, .unset, .unset, .unset] [(.int (p3 &&& (1 : Int32)))]))
  by_cases h : (p3 &&& (1 : Int32)) = (0 : Int32)
  · refine own_step (fun _ k => XS.ifYes X0.here hx rfl (pc0 := 4) (pc' := 11) rfl (hb hby at_4) rfl ((if0 _ _).trans (teq h).1) (by decide) (by decide) k) ?_
    show own_Ends _ _ _ _ _ _ _ (s₁.setTop (mkF m 11 #[.val (.long q0), .second, .val (.long q1), .second, .val (.long q2), .second, .val (.int p3), .unset, .unset, .unset, .unset, .unset, .unset, .unset, .unset, .unset] []))
    refine own_step (fun _ k => XS.lloadN X0.here hx rfl (hb hby at_11) rfl k) ?_
    show own_Ends _ _ _ _ _ _ _ (s₁.setTop (mkF m 12 #[.val (.long q0), .second, .val (.long q1), .second, .val (.long q2), .second, .val (.int p3), .unset, .unset, .unset, .unset, .unset, .unset, .unset, .unset, .unset] [(.long q0)]))
    exact J12_10 _
  · refine own_step (fun _ k => XS.ifNo X0.here hx rfl (hb hby at_4) rfl ((if0 _ _).trans (feq h).1) k) ?_
    show own_Ends _ _ _ _ _ _ _ (s₁.setTop (mkF m 7 #[.val (.long q0), .second, .val (.long q1), .second, .val (.long q2), .second, .val (.int p3), .unset, .unset, .unset, .unset, .unset, .unset, .unset, .unset, .unset] []))
    refine own_step (fun _ k => XS.lconst X0.here hx rfl (hb hby at_7) k) ?_
    show own_Ends _ _ _ _ _ _ _ (s₁.setTop (mkF m 8 #[.val (.long q0), .second, .val (.long q1), .second, .val (.long q2), .second, .val (.int p3), .unset, .unset, .unset, .unset, .unset, .unset, .unset, .unset, .unset] [(.long (0 : Int64))]))
    refine own_step (fun _ k => XS.goto X0.here hx rfl (pc0 := 8) (pc' := 12) rfl (hb hby at_8) (by decide) (by decide) k) ?_
    show own_Ends _ _ _ _ _ _ _ (s₁.setTop (mkF m 12 #[.val (.long q0), .second, .val (.long q1), .second, .val (.long q2), .second, .val (.int p3), .unset, .unset, .unset, .unset, .unset, .unset, .unset, .unset, .unset] [(.long (0 : Int64))]))
    exact J12_10 _
set_option maxRecDepth 65536 in
set_option maxHeartbeats 40000000 in
theorem comes_1 {Post : Tables → Env → Array Value → State → Outcome → State → Prop} (hpost : ∀ tb e args s v u, (limb_1_1.after args s (.returned v) u = true ∧ limb_1_2.after args s (.returned v) u = true ∧ True) → FrameEnd s (.returned v) u (Jvm.fieldLocs frame_1_writes args s ++ Jvm.arrayLocs frame_1_arrays args s ++ Jvm.staticLocs frame_1_statics s) 16 128 → Post tb e args s (.returned v) u) :
    ArmFor flags0 classFile x code maxLocals ret World_1 tables_1 room_1 Calls_1 rest_1 Pre_1 Post := by
  intro l hfl _ _ p e ha hc hk s m args below hf hA hF happ hP
  obtain ⟨hcalls, hrest, hpre⟩ := hP
  obtain ⟨-, -, -, hnamed, -, -, -, hat⟩ := (Spec.applies_iff hf).mp happ
  obtain ⟨hg, hn⟩ := and_e (Cond.before_iff.mp (show (Jvm.Cond.and given_1 narrow_1).before args s = true from hpre))
  obtain ⟨g0, hg⟩ := and_e hg
  obtain ⟨ga0, hg⟩ := and_e hg
  obtain ⟨ga1, hg⟩ := and_e hg
  obtain ⟨ga2, hg⟩ := and_e hg
  obtain ⟨w0, w1, w2, w3, rfl⟩ : ∃ w0 w1 w2 w3 : Value, args = #[w0, w1, w2, w3] := by
    have hs : args.size = 4 := by simpa [Cond.value, given_1] using g0
    obtain ⟨L⟩ := args
    match L, hs with
    | [w0, w1, w2, w3], _ => exact ⟨w0, w1, w2, w3, rfl⟩
  have hw := fun d (hd : d ∈ tables_1) => atoms_spec (ws := Jvm.Cond.code x code maxLocals ret :: tables_1) hat d (List.mem_cons_of_mem _ hd)
  obtain ⟨i0, ei0⟩ := isL_v ga0
  obtain rfl : w0 = (.long i0) := Option.some.inj ei0
  obtain ⟨i1, ei1⟩ := isL_v ga1
  obtain rfl : w1 = (.long i1) := Option.some.inj ei1
  obtain ⟨i2, ei2⟩ := isL_v ga2
  obtain rfl : w2 = (.long i2) := Option.some.inj ei2
  obtain ⟨i3, ei3⟩ := is_v hg
  obtain rfl : w3 = (.int i3) := Option.some.inj ei3
  obtain ⟨n, o, h1, h2, h3, _, L, rfl, ⟨rfl, N⟩, hq⟩ := own_rm0 l s _ hw tables_1 i0 i1 i2 i3 s.heap s.heap.size (Nat.le_refl _)  p e ha hc hk s m _ below hf ((Spec.applies_iff_loose hf).mp happ).1 ⟨rfl, State.Warmed39.refl s, rfl⟩ trivial
  refine ⟨n, _, h1, h2, h3, hpost _ _ _ _ _ _ ⟨Cond.after_iff.mpr rfl, Cond.after_iff.mpr (eq_i res_at (Term.int_eval (1)) rfl), trivial⟩ ⟨hq.1, hq.2.1, (hq.2.2.sift fun y hy => Or.inr (N y hy)).mono (by decide) (by decide)⟩⟩
theorem main_1_1 : Claimed_1_1 := comes_1 fun _ _ _ _ _ _ h hF => ⟨h.1, hF⟩
theorem main_1_2 : Claimed_1_2 := comes_1 fun _ _ _ _ _ _ h hF => ⟨h.2.1, hF⟩
end Jvm.Pilot.@@N@@
namespace Jvm.Pilot.@@N@@
open Jvm Jvm.ClassFile Sem Op Lib Jvm.Free Jvm.Stand Jvm.Pilot.@@N@@.Jvm.D
/-! MADE BY PROGRAM (witnessworld.py) out of the Statement's table words and the real class files: 11 classes; the members and pool entries that the words name. The judged class is class 1, her method 1. -/
namespace start1
open Jvm.ClassFile
def u (s : String) : CpInfo := .utf8 (stringToUtf16 s)
/-- a pool by its gaps: so many unusable entries, then the entry; so many at the end -/
def gap : Nat → List CpInfo → List CpInfo
  | 0, r => r
  | n + 1, r => .unusable :: gap n r
def poolList (es : List (Nat × CpInfo)) (last : Nat) : List CpInfo := es.foldr (fun e r => gap e.1 (e.2 :: r)) (gap last [])
def pool (es : List (Nat × CpInfo)) (last : Nat) : Array CpInfo := ⟨poolList es last⟩
def fileOf (pool : Array CpInfo) (this : Nat) (attrs : Array Attribute := #[]) (ms : Array MethodInfo := #[]) (fl : Nat := 33) (sup : Nat := 0) (ifs : Array Nat := #[]) (fds : Array FieldInfo := #[]) : ClassFile where
  minorVersion := 0
  majorVersion := 65
  constantPool := pool
  accessFlags := fl
  thisClass := this
  superClass := sup
  interfaces := ifs
  fields := fds
  methods := ms
  attributes := attrs
def plain (name : String) (sup : Option ClassId) : Class where
  name := name
  kind := .ordinary
  loader := none
  accessFlags := 33
  super := sup
  interfaces := #[]
  cf := none
  fields := #[]
  methods := #[]
  instanceTypes := #[]
  staticTypes := #[]
  resolved := #[]
  callSites := []
  init := .initialized
  statics := none
  mirror := none

def pool0 : Array CpInfo := pool [(5, u "<init>"), (0, u "()V"), (1, .class_ 10), (1, u "java/lang/Object")] 113

def k0c0 : Code := { maxStack := 0, maxLocals := 1, code := object_method_1_code, exceptionTable := #[], attributes := #[] }
def k0m0 : Method := { name := "<init>", desc := "()V", sig := { parameters := [], returnType := none }, accessFlags := 1, code := some k0c0 }
/-- java/lang/Object -/
def k0 : Class := { plain "java/lang/Object" none with
  accessFlags := 33
  interfaces := #[]
  cf := some (fileOf pool0 8 #[] #[{ accessFlags := 1, nameIndex := 5, descriptorIndex := 6, attributes := #[] }] 33 0 #[] #[])
  fields := #[]
  methods := #[k0m0]
  instanceTypes := #[]
  staticTypes := #[]
  resolved := Array.replicate 124 none
  statics := none }

def pool1 : Array CpInfo := pool [(2, .class_ 4), (1, u "java/lang/Object"), (0, u "<init>"), (0, u "()V"), (0, .class_ 8), (0, u "com/example/diptych/diptych/solver/Cost"), (0, .methodref 7 10), (0, .nameAndType 5 11), (0, u "(JJJ)V"), (0, .methodref 7 13), (0, .nameAndType 14 15), (0, u "isNothing"), (0, u "()Z"), (0, .methodref 7 17), (0, .nameAndType 18 15), (0, u "keepsHardRules"), (0, .class_ 20), (0, u "com/example/diptych/diptych/solver/CostIsNothingPinLaw"), (2, u "law"), (0, u "(JJJI)Z")] 3

def k1m0 : Method := { name := "<init>", desc := "()V", sig := { parameters := [], returnType := none }, accessFlags := 1, code := none }
def k1c1 : Code := { maxStack := 8, maxLocals := 16, code := code, exceptionTable := #[], attributes := #[] }
def k1m1 : Method := { name := "law", desc := "(JJJI)Z", sig := { parameters := [.long, .long, .long, .int], returnType := some .boolean }, accessFlags := 9, code := some k1c1 }
/-- com/example/diptych/diptych/solver/CostIsNothingPinLaw -/
def k1 : Class := { plain "com/example/diptych/diptych/solver/CostIsNothingPinLaw" (some 0) with
  accessFlags := 49
  interfaces := #[]
  cf := some (fileOf pool1 19 #[] #[{ accessFlags := 1, nameIndex := 5, descriptorIndex := 6, attributes := #[] }, { accessFlags := 9, nameIndex := 23, descriptorIndex := 24, attributes := #[] }] 49 2 #[] #[])
  fields := #[]
  methods := #[k1m0, k1m1]
  instanceTypes := #[]
  staticTypes := #[]
  resolved := Array.replicate 28 none
  statics := none }

def pool2 : Array CpInfo := pool [(1, .methodref 2 3), (0, .class_ 4), (0, .nameAndType 5 6), (0, u "java/lang/Object"), (0, u "<init>"), (0, u "()V"), (0, .class_ 8), (0, u "java/lang/Record")] 13

def k2c0 : Code := { maxStack := 1, maxLocals := 1, code := jdk_30_method_1_code, exceptionTable := #[], attributes := #[] }
def k2m0 : Method := { name := "<init>", desc := "()V", sig := { parameters := [], returnType := none }, accessFlags := 4, code := some k2c0 }
/-- java/lang/Record -/
def k2 : Class := { plain "java/lang/Record" (some 0) with
  accessFlags := 1057
  interfaces := #[]
  cf := some (fileOf pool2 7 #[] #[{ accessFlags := 4, nameIndex := 5, descriptorIndex := 6, attributes := #[] }] 1057 2 #[] #[])
  fields := #[]
  methods := #[k2m0]
  instanceTypes := #[]
  staticTypes := #[]
  resolved := Array.replicate 22 none
  statics := none }

def pool3 : Array CpInfo := pool [(1, .class_ 2), (0, u "java/lang/Comparable"), (0, .class_ 4), (0, u "java/lang/Object")] 7

/-- java/lang/Comparable -/
def k3 : Class := { plain "java/lang/Comparable" (some 0) with
  accessFlags := 1537
  interfaces := #[]
  cf := some (fileOf pool3 1 #[] #[] 1537 3 #[] #[])
  fields := #[]
  methods := #[]
  instanceTypes := #[]
  staticTypes := #[]
  resolved := Array.replicate 12 none
  statics := none }

def pool4 : Array CpInfo := pool [(1, .methodref 2 3), (0, .class_ 4), (0, .nameAndType 5 6), (0, u "java/lang/Record"), (0, u "<init>"), (0, u "()V"), (0, .fieldref 8 9), (0, .class_ 10), (0, .nameAndType 11 12), (0, u "com/example/diptych/diptych/solver/Cost"), (0, u "violations"), (0, u "J"), (0, .fieldref 8 14), (0, .nameAndType 15 12), (0, u "shortfall"), (0, .fieldref 8 17), (0, .nameAndType 18 12), (0, u "objective"), (2, u "ORDER"), (0, u "Ljava/util/Comparator;"), (34, .class_ 58), (0, u "java/lang/Comparable"), (2, u "(JJJ)V"), (3, u "keepsHardRules"), (0, u "()Z"), (1, u "isNothing")] 51

def k4c0 : Code := { maxStack := 3, maxLocals := 7, code := prog_57_method_1_code, exceptionTable := #[], attributes := #[] }
def k4m0 : Method := { name := "<init>", desc := "(JJJ)V", sig := { parameters := [.long, .long, .long], returnType := none }, accessFlags := 1, code := some k4c0 }
def k4c1 : Code := { maxStack := 4, maxLocals := 1, code := prog_57_method_2_code, exceptionTable := #[], attributes := #[] }
def k4m1 : Method := { name := "keepsHardRules", desc := "()Z", sig := { parameters := [], returnType := some .boolean }, accessFlags := 1, code := some k4c1 }
def k4c2 : Code := { maxStack := 4, maxLocals := 1, code := prog_57_method_3_code, exceptionTable := #[], attributes := #[] }
def k4m2 : Method := { name := "isNothing", desc := "()Z", sig := { parameters := [], returnType := some .boolean }, accessFlags := 1, code := some k4c2 }
/-- com/example/diptych/diptych/solver/Cost -/
def k4 : Class := { plain "com/example/diptych/diptych/solver/Cost" (some 2) with
  accessFlags := 49
  interfaces := #[3]
  cf := some (fileOf pool4 8 #[] #[{ accessFlags := 1, nameIndex := 5, descriptorIndex := 61, attributes := #[] }, { accessFlags := 1, nameIndex := 65, descriptorIndex := 66, attributes := #[] }, { accessFlags := 1, nameIndex := 68, descriptorIndex := 66, attributes := #[] }] 49 2 #[57] #[{ accessFlags := 18, nameIndex := 11, descriptorIndex := 12, attributes := #[] }, { accessFlags := 18, nameIndex := 15, descriptorIndex := 12, attributes := #[] }, { accessFlags := 18, nameIndex := 18, descriptorIndex := 12, attributes := #[] }, { accessFlags := 26, nameIndex := 21, descriptorIndex := 22, attributes := #[] }])
  fields := #[{ name := "violations", type := .long, accessFlags := 18, slot := 0, constantValue := 0 }, { name := "shortfall", type := .long, accessFlags := 18, slot := 1, constantValue := 0 }, { name := "objective", type := .long, accessFlags := 18, slot := 2, constantValue := 0 }, { name := "ORDER", type := (.object "java/util/Comparator"), accessFlags := 26, slot := 0, constantValue := 0 }]
  methods := #[k4m0, k4m1, k4m2]
  instanceTypes := #[.long, .long, .long]
  staticTypes := #[(.object "java/util/Comparator")]
  resolved := Array.replicate 120 none
  statics := none }

def pool5 : Array CpInfo := pool [(1, u "java/lang/Cloneable"), (0, .class_ 1), (0, u "java/lang/Object"), (0, .class_ 3)] 3

/-- java/lang/Cloneable -/
def k5 : Class := { plain "java/lang/Cloneable" (some 0) with
  accessFlags := 1537
  interfaces := #[]
  cf := some (fileOf pool5 2 #[] #[] 1537 4 #[] #[])
  fields := #[]
  methods := #[]
  instanceTypes := #[]
  staticTypes := #[]
  resolved := Array.replicate 8 none
  statics := none }

def pool6 : Array CpInfo := pool [(1, u "java/io/Serializable"), (0, .class_ 1), (0, u "java/lang/Object"), (0, .class_ 3)] 3

/-- java/io/Serializable -/
def k6 : Class := { plain "java/io/Serializable" (some 0) with
  accessFlags := 1537
  interfaces := #[]
  cf := some (fileOf pool6 2 #[] #[] 1537 4 #[] #[])
  fields := #[]
  methods := #[]
  instanceTypes := #[]
  staticTypes := #[]
  resolved := Array.replicate 8 none
  statics := none }

/-- the primitive byte -/
def k7 : Class := { plain "byte" none with kind := .primitive 'B', accessFlags := 0x411 }
/-- [B -/
def k8 : Class := { plain "[B" (some 0) with kind := .array 7 .byte, interfaces := #[5, 6], accessFlags := 1041 }

/-- the primitive int -/
def k9 : Class := { plain "int" none with kind := .primitive 'I', accessFlags := 0x411 }
/-- [I -/
def k10 : Class := { plain "[I" (some 0) with kind := .array 9 .int, interfaces := #[5, 6], accessFlags := 1041 }

def heap : Heap := #[]
def classes : Array Class := #[k0, k1, k2, k3, k4, k5, k6, k7, k8, k9, k10]
def interned : List (Array UInt16 × Addr) := []
def slotsUsed : Nat := 0
def theMethod : MethodId := ⟨1, 1⟩
def args0 : Array Value := #[.long 5, .long 7, .long 9, .int 3]
def aboutOver (below : List Frame) : State where
  vm := { classes := classes, interned := interned.toArray }
  heap := heap
  slotsUsed := slotsUsed
  threads := #[{ frames := .invoking theMethod args0 :: below }]
def below0 : List Frame := [.native { method := ⟨0, 0⟩, args := #[] }]
def about1 : State := aboutOver below0
def p0 : Program := .bare "" "" ""
def e0 : Env := launch0.env 0 0 0
theorem w_frames : about1.frames = Frame.invoking theMethod args0 :: below0 := rfl
set_option maxRecDepth 65536 in
theorem w_args : argsFit about1.vm theMethod args0 = true := by decide +kernel
set_option maxRecDepth 65536 in
theorem w_heap : heapFits about1 = true := by decide +kernel
set_option maxRecDepth 65536 in
theorem w_runnable : about1.curStatus? = some .runnable := by decide +kernel
set_option maxRecDepth 65536 in
theorem w_alone : about1.alone = true := by decide +kernel
set_option maxRecDepth 65536 in
theorem w_named : about1.methodNamed? x = some theMethod := by decide +kernel
set_option maxRecDepth 65536 in
theorem w_hears : about1.hears theMethod below0 = true := by decide +kernel
set_option maxRecDepth 65536 in
theorem w_ripe : about1.ripe theMethod args0 below0 = true := by decide +kernel
theorem w_running : about1.status = .running := rfl
set_option maxRecDepth 65536 in
theorem w_room : about1.hasRoom e0.platform room_1 = true :=
  launch0.hasRoom_least _ room_1 (by decide +kernel) (by decide +kernel) (by decide +kernel) (by decide +kernel) (by decide +kernel) (by decide +kernel)
theorem allAtoms_all (ts : List Jvm.Cond) (a : Array Jvm.Value) (st : Jvm.State) : (allAtoms ts).before a st = ts.all (fun c => c.before a st) := by
  induction ts with
  | nil => rfl
  | cons c t ih =>
    show (Jvm.Cond.and c (allAtoms t)).before a st = _
    rw [Jvm.Cond.before_and, ih, List.all_cons]
def words1 : List Jvm.Cond := Jvm.Cond.code x code maxLocals ret :: tables_1
/-- a 'code' word, met by the world's own term for the bytes: nothing is compared byte by byte -/
theorem code_word {y : MethodName} {bytes : ByteArray} {mx : Nat} {rt : Option FieldType} {a : Array Value} {s : State} {m : MethodId} {meth : Method} {c : Code} (h1 : s.methodNamed? y = some m) (h2 : s.vm.method? m = some meth) (h3 : meth.code = some c) (h4 : c.code = bytes)
    (h5 : (c.maxLocals == mx && c.exceptionTable.isEmpty && decide (c.maxStack ≤ mostOperands) && decide (meth.sig.returnType = rt) && !meth.locks && decide (parseMethodDescriptor y.desc = some meth.sig)) = true) : (Jvm.Cond.code y bytes mx rt).before a s = true := by
  simp only [Bool.and_eq_true, beq_iff_eq, Bool.not_eq_true', decide_eq_true_eq] at h5
  obtain ⟨⟨⟨⟨⟨g1, g2⟩, g3⟩, g4⟩, g5⟩, g6⟩ := h5
  simp [Cond.before, Cond.holds, Cond.value, h1, h2, h3, h4, g1, g2, g3, g4, g5, g6]
def isCode : Jvm.Cond → Bool
  | .code _ _ _ _ => true
  | _ => false
theorem all_split {L : List Jvm.Cond} {P : Jvm.Cond → Bool} (h1 : L.all (fun c => isCode c || P c) = true) (h2 : ∀ c ∈ L.filter isCode, P c = true) : L.all P = true := by
  refine List.all_eq_true.mpr fun c hc => ?_
  have h := List.all_eq_true.mp h1 c hc
  rcases Bool.eq_false_or_eq_true (isCode c) with hi | hi
  · exact h2 c (List.mem_filter.mpr ⟨hc, hi⟩)
  · simpa [hi] using h
set_option maxRecDepth 65536 in
theorem w_c0 : (Jvm.Cond.code x code maxLocals ret).before args0 about1 = true := code_word (m := ⟨1, 1⟩) (meth := k1m1) (c := k1c1) (by decide +kernel) rfl rfl rfl (by decide +kernel)
set_option maxRecDepth 65536 in
theorem w_c1 : (Jvm.Cond.code ({ cls := "com/example/diptych/diptych/solver/Cost", name := "<init>", desc := "(JJJ)V" } : Jvm.MethodName) prog_57_method_1_code (7 : Nat) (Option.none : Option Jvm.ClassFile.FieldType)).before args0 about1 = true := code_word (m := ⟨4, 0⟩) (meth := k4m0) (c := k4c0) (by decide +kernel) rfl rfl rfl (by decide +kernel)
set_option maxRecDepth 65536 in
theorem w_c2 : (Jvm.Cond.code ({ cls := "java/lang/Record", name := "<init>", desc := "()V" } : Jvm.MethodName) jdk_30_method_1_code (1 : Nat) (Option.none : Option Jvm.ClassFile.FieldType)).before args0 about1 = true := code_word (m := ⟨2, 0⟩) (meth := k2m0) (c := k2c0) (by decide +kernel) rfl rfl rfl (by decide +kernel)
set_option maxRecDepth 65536 in
theorem w_c3 : (Jvm.Cond.code ({ cls := "java/lang/Object", name := "<init>", desc := "()V" } : Jvm.MethodName) object_method_1_code (1 : Nat) (Option.none : Option Jvm.ClassFile.FieldType)).before args0 about1 = true := code_word (m := ⟨0, 0⟩) (meth := k0m0) (c := k0c0) (by decide +kernel) rfl rfl rfl (by decide +kernel)
set_option maxRecDepth 65536 in
theorem w_c4 : (Jvm.Cond.code ({ cls := "com/example/diptych/diptych/solver/Cost", name := "isNothing", desc := "()Z" } : Jvm.MethodName) prog_57_method_3_code (1 : Nat) (Option.some Jvm.ClassFile.FieldType.boolean)).before args0 about1 = true := code_word (m := ⟨4, 2⟩) (meth := k4m2) (c := k4c2) (by decide +kernel) rfl rfl rfl (by decide +kernel)
set_option maxRecDepth 65536 in
theorem w_c5 : (Jvm.Cond.code ({ cls := "com/example/diptych/diptych/solver/Cost", name := "keepsHardRules", desc := "()Z" } : Jvm.MethodName) prog_57_method_2_code (1 : Nat) (Option.some Jvm.ClassFile.FieldType.boolean)).before args0 about1 = true := code_word (m := ⟨4, 1⟩) (meth := k4m1) (c := k4c1) (by decide +kernel) rfl rfl rfl (by decide +kernel)
def codes1 : List Jvm.Cond := [Jvm.Cond.code x code maxLocals ret, Jvm.Cond.code ({ cls := "com/example/diptych/diptych/solver/Cost", name := "<init>", desc := "(JJJ)V" } : Jvm.MethodName) prog_57_method_1_code (7 : Nat) (Option.none : Option Jvm.ClassFile.FieldType), Jvm.Cond.code ({ cls := "java/lang/Record", name := "<init>", desc := "()V" } : Jvm.MethodName) jdk_30_method_1_code (1 : Nat) (Option.none : Option Jvm.ClassFile.FieldType), Jvm.Cond.code ({ cls := "java/lang/Object", name := "<init>", desc := "()V" } : Jvm.MethodName) object_method_1_code (1 : Nat) (Option.none : Option Jvm.ClassFile.FieldType), Jvm.Cond.code ({ cls := "com/example/diptych/diptych/solver/Cost", name := "isNothing", desc := "()Z" } : Jvm.MethodName) prog_57_method_3_code (1 : Nat) (Option.some Jvm.ClassFile.FieldType.boolean), Jvm.Cond.code ({ cls := "com/example/diptych/diptych/solver/Cost", name := "keepsHardRules", desc := "()Z" } : Jvm.MethodName) prog_57_method_2_code (1 : Nat) (Option.some Jvm.ClassFile.FieldType.boolean)]
set_option maxRecDepth 65536 in
theorem codes_eq : words1.filter isCode = codes1 := rfl
theorem w_codes : ∀ c ∈ words1.filter isCode, c.before args0 about1 = true := by
  rw [codes_eq]
  intro c hc
  simp only [codes1, List.mem_cons, List.not_mem_nil, or_false] at hc
  rcases hc with rfl | rfl | rfl | rfl | rfl | rfl
  · exact w_c0
  · exact w_c1
  · exact w_c2
  · exact w_c3
  · exact w_c4
  · exact w_c5
set_option maxRecDepth 65536 in
theorem w_t1 : (words1.take 24).all (fun c => isCode c || c.before args0 about1) = true := by decide +kernel
set_option maxRecDepth 65536 in
theorem w_t2 : (words1.drop 24).all (fun c => isCode c || c.before args0 about1) = true := by decide +kernel
theorem w_tables : (allAtoms (Jvm.Cond.code x code maxLocals ret :: tables_1)).before args0 about1 = true := by
  rw [allAtoms_all]
  show words1.all (fun c => c.before args0 about1) = true
  refine all_split ?_ w_codes
  rw [← List.take_append_drop 24 words1, List.all_append, w_t1, w_t2]
  rfl
set_option maxRecDepth 65536 in
theorem w_case : (Jvm.Cond.and given_1 narrow_1).before args0 about1 = true := by decide +kernel
theorem w_applies : (headSpec (Jvm.Cond.code x code maxLocals ret :: tables_1) room_1).applies x e0.platform about1 = true :=
  (Spec.applies_iff w_frames).mpr ⟨w_running, w_runnable, w_alone, w_named, w_hears, w_ripe, w_room, w_tables⟩
theorem atStart : AtStart classFile x code maxLocals ret World_1 tables_1 room_1 Calls_1 rest_1 Pre_1 launch0 p0 e0 about1 theMethod args0 below0 :=
  ⟨lists_1, trivial, launch0.admits_env _ _ _, launch0.least_env, fairChoices_fair.cas, fairChoices_fair.clock, w_frames, w_args, w_heap, w_applies, trivial, trivial, w_case⟩
end start1
theorem witness_1 : WitnessClaimed_1 := ⟨start1.p0, start1.e0, start1.about1, start1.theMethod, start1.args0, start1.below0, start1.atStart⟩
end Jvm.Pilot.@@N@@
