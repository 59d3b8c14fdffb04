import JvmDerived
import JvmDerived.Pilot.@@N@@Statement
import JvmDerived.Pilot.@@N@@Code
set_option linter.unusedVariables false
set_option linter.unusedSimpArgs false
@@BLOCK:NumsL.lean.txt@@
namespace Jvm.Pilot.@@N@@
open Jvm Jvm.ClassFile Sem Op Lib Jvm.Free Jvm.Stand Jvm.LawKit Jvm.RoadKit Bundle Jvm.Pilot.@@N@@.Jvm.D
/-- the run that stands at st comes to a return: Q says what is returned, the heap and the places written; at most kc cells and ks slots are new -/
def own_Ends (p : Program) (e : Env) (below : List Frame) (s : State) (kc ks : Nat) (Q : Option Value → Heap → List Loc → Prop) (st : State) : Prop :=
  ∃ s₂ o, Steps p.tables e below st s₂ ∧ s₂.status = .running ∧ Ended s₂ below o ∧ ∃ v L, o = .returned v ∧ Q v s₂.heap L ∧ FrameEnd s o s₂ L kc ks
theorem own_step {p : Program} {e : Env} {below : List Frame} {s : State} {kc ks : Nat} {Q : Option Value → Heap → List Loc → Prop} {st st' : State}
    (h : ∀ t, Steps p.tables e below st' t → Steps p.tables e below st t) (k : own_Ends p e below s kc ks Q st') : own_Ends p e below s kc ks Q st := by
  obtain ⟨s₂, o, h1, h2⟩ := k
  exact ⟨s₂, o, h _ h1, h2⟩
theorem own_ret {p : Program} {l : Launch} {e : Env} {R : Room} {s : State} {m : MethodId} {args : Array Value} {below : List Frame} {meth : Method} {c : Code} {T : State} {locs : List Loc} {cells slots : Nat} {kc ks : Nat} {Q : Option Value → Heap → List Loc → Prop} {st : State}
    (X : Stand p l e R s m args below meth c T locs cells slots) (hlocks : meth.locks = false) {v : Option Value} (hv : meth.sig.returnType = none → v = none) (hq : Q v T.heap locs) (hc : cells ≤ kc) (hs : slots ≤ ks)
    (hr : ∀ fs, (∀ (f : JFrame) (acts : List Action), f.method = m → f.locked = none → f.entered = [] → (doReturn e (T.setTop f) acts v).1 = T.setFrames fs) → Steps p.tables e below st (T.setFrames fs)) : own_Ends p e below s kc ks Q st := by
  obtain ⟨fs, h1, hrun, hended, hW, hsame⟩ := X.leave (v := v) hv hlocks
  exact ⟨_, _, hr fs h1, hrun, hended, v, locs, rfl, hq, ⟨_, rfl⟩, hW, hsame.mono hc hs⟩

def own_drop (age q : Int64) : Int32 := if q * (1000000 : Int64) < age then 1 else 0
def own_exp (age q : Int64) : Int32 := if 0 < age then (if q < age / (1000000 : Int64) then 1 else if age / (1000000 : Int64) = q then (if age - (age / (1000000 : Int64)) * (1000000 : Int64) = 0 then 0 else 1) else 0) else 0
theorem own_lt {x y : Int64} : x < y ↔ x.toInt < y.toInt := Int64.lt_iff_toInt_lt
theorem own_sec (x : Int64) : ¬ ((1 : Int64) + ((x &&& (9223372036854775807 : Int64)) - (x &&& (9223372036854775807 : Int64)) / (9223372036854 : Int64) * (9223372036854 : Int64))) < 1 ∧
    ¬ (9223372036854 : Int64) < ((1 : Int64) + ((x &&& (9223372036854775807 : Int64)) - (x &&& (9223372036854775807 : Int64)) / (9223372036854 : Int64) * (9223372036854 : Int64))) := by
  have e := Jvm.Kit.i64_mask x 9223372036854775807 (k := 63) (by decide) (by decide)
  generalize x &&& (9223372036854775807 : Int64) = y at *
  have e2 := Jvm.Kit.i64_rem_nonneg (x := y) (y := 9223372036854) (by omega)
  have e0 : (9223372036854 : Int64).toInt = 9223372036854 := rfl
  have e1 : (1 : Int64).toInt = 1 := rfl
  rw [e0] at e2
  generalize y - y / 9223372036854 * 9223372036854 = r at *
  rw [own_lt, own_lt, Jvm.Kit.i64_add (by omega) (by omega)]
  omega
theorem own_same {age q : Int64} (h1 : ¬ q < 1) (h2 : ¬ (9223372036854 : Int64) < q) : own_drop age q = own_exp age q := by
  have e0 : (0 : Int64).toInt = 0 := rfl
  have e1 : (1 : Int64).toInt = 1 := rfl
  have e2 : (9223372036854 : Int64).toInt = 9223372036854 := rfl
  have e3 : (1000000 : Int64).toInt = 1000000 := rfl
  rw [own_lt] at h1 h2
  have hm : (q * (1000000 : Int64)).toInt = q.toInt * 1000000 := by rw [Jvm.Kit.i64_mul (by rw [e3]; omega) (by rw [e3]; omega), e3]
  unfold own_drop own_exp
  by_cases hp : 0 < age
  · rw [if_pos hp]
    rw [own_lt] at hp
    have hd : (age / (1000000 : Int64)).toInt = age.toInt / 1000000 := by
      rw [Jvm.Kit.i64_div (by omega), e3, Int.tdiv_eq_ediv_of_nonneg (by omega)]
    have hr : (age - age / (1000000 : Int64) * (1000000 : Int64)).toInt = age.toInt % 1000000 := by
      rw [Jvm.Kit.i64_rem_nonneg (by omega), e3]
    simp only [own_lt, hm, hd, ← Int64.toInt_inj, hr, e0]
    split <;> split <;> (try split) <;> (try split) <;> first | rfl | omega
  · rw [if_neg hp]
    rw [own_lt] at hp
    refine if_neg ?_
    rw [own_lt, hm]
    omega
theorem own_d1_0 : decode jdk_30_method_1_code 0 = .ok (.aload_n 0, 1) := by decide +kernel
theorem own_d1_1 : decode jdk_30_method_1_code 1 = .ok (.invokespecial 1, 3) := by decide +kernel
theorem own_d1_4 : decode jdk_30_method_1_code 4 = .ok (.return_, 1) := by decide +kernel
theorem own_pn0 : plainName "java/lang/Record" = true := by first | (simp [plainName, overriddenIn]; done) | decide +kernel
theorem own_ef1 (m : MethodId) (r0 : Addr) : entryFrame m #[(.ref r0)] 1 = mkF m 0 #[.val (.ref r0)] [] := by first | (simp [entryFrame, mkF, argsToLocals, Value.category]; done) | rfl
def own_Q1 (Z : State) (r0 : Addr)  (h0 : Heap) (n0 : Nat) (v : Option Value) (h : Heap) (L : List Loc) : Prop := v = none ∧ Fr n0 L ∧ h = h0
set_option maxRecDepth 65536 in
set_option maxHeartbeats 40000000 in
theorem own_rm1 (l : Launch) (Z : State) (a0 : Array Value) (hw : ∀ d ∈ tables_1, d.before a0 Z = true) (ws : List Jvm.Cond) (r0 : Addr)  (h0 : Heap) (n0 : Nat) (Z0 : n0 ≤ h0.size)  :
    MetFree l (⟨"java/lang/Record", "<init>", "()V"⟩ : MethodName) (head1 (Jvm.Cond.code (⟨"java/lang/Record", "<init>", "()V"⟩ : MethodName) jdk_30_method_1_code 1 none :: ws) ({ frames := 1, cells := 0, slots := 0, locals := 12 } : Room)) (fun a U => a = #[(.ref r0)] ∧ Z.Warmed39 U.vm ∧ U.heap = h0) (fun _ _ _ _ _ => True) (fun _ U o U' => ∃ v L, o = .returned v ∧ own_Q1 Z r0  h0 n0 v U'.heap L ∧ FrameEnd U o U' L ({ frames := 1, cells := 0, slots := 0, locals := 12 } : Room).cells ({ frames := 1, cells := 0, slots := 0, locals := 12 } : Room).slots) := by
  refine MetFree.of_bodySF (plainFor_of_name own_pn0) hisR ?_
  intro p e s m args below meth c s₁ Bd hml0 hP hK
  obtain ⟨rfl, hZ, hh⟩ := hP
  have hx := Bd.exec
  have hby := Bd.bytes
  have hml : c.maxLocals = 1 := hml0
  have hown : s.vm.findClass "java/lang/Record" = some m.cls := findClass_of_methodNamed Bd.named
  have hnm := (name_of_methodNamed Bd.named Bd.method).1
  have X0 : Stand p l e ({ frames := 1, cells := 0, slots := 0, locals := 12 } : Room) s m #[(.ref r0)] below meth c s₁ [] 0 0 := Stand.of_body Bd
  have e0 : s₁.heap = h0 := by rw [← hh, Bd.state]; rfl
  have N0 := Fr.nil n0
  suffices H : own_Ends p e below s ({ frames := 1, cells := 0, slots := 0, locals := 12 } : Room).cells ({ frames := 1, cells := 0, slots := 0, locals := 12 } : Room).slots (own_Q1 Z r0  h0 n0) (s₁.setTop (mkF m 0 #[.val (.ref r0)] [])) by
    obtain ⟨s₂, o, h1, h2⟩ := H
    exact ⟨s₂, o, castTop (own_ef1 m r0) h1, h2⟩
  show own_Ends _ _ _ _ _ _ _ (s₁.setTop (mkF m 0 #[.val (.ref r0)] []))
  refine own_step (fun _ k => XS.aloadN X0.here hx rfl (hb hby own_d1_0) rfl rfl k) ?_
  show own_Ends _ _ _ _ _ _ _ (s₁.setTop (mkF m 1 #[.val (.ref r0)] [(.ref r0)]))
  obtain ⟨T1, X1, e1, st1⟩ := initO X0 hx hZ hown (hw _ (List.mem_of_getElem? (i := 17) rfl)) (hw _ (List.mem_of_getElem? (i := 18) rfl)) (hw _ (List.mem_of_getElem? (i := 19) rfl)) e0 (g := (mkF m 1 #[.val (.ref r0)] [(.ref r0)])) rfl (by rw [hml]; rfl) rfl (hb hby own_d1_1) (by decide) (W := 0) (by show 2 * 0 + _ ≤ _; exact Nat.le_of_eq rfl) (by decide)
  refine own_step (fun _ k => st1 _ k) ?_
  show own_Ends _ _ _ _ _ _ _ (T1.setTop (mkF m 4 #[.val (.ref r0)] []))
  refine own_ret X1 (BodyLoose.notSynchronized Bd) (v := none) (fun _ => rfl) ?_ (by decide) (by decide) (fun fs hr => X1.returnOut hx Bd.returns (hb hby own_d1_4) hr)
  show own_Q1 Z r0  h0 n0 none T1.heap _
  rw [e1]
  exact ⟨rfl, N0, rfl⟩
theorem own_d2_0 : decode prog_46_method_1_code 0 = .ok (.aload_n 0, 1) := by decide +kernel
theorem own_d2_1 : decode prog_46_method_1_code 1 = .ok (.invokespecial 3, 3) := by decide +kernel
theorem own_d2_4 : decode prog_46_method_1_code 4 = .ok (.lload_n 1, 1) := by decide +kernel
theorem own_d2_5 : decode prog_46_method_1_code 5 = .ok (.lconst 1, 1) := by decide +kernel
theorem own_d2_6 : decode prog_46_method_1_code 6 = .ok (.lcmp, 1) := by decide +kernel
theorem own_d2_7 : decode prog_46_method_1_code 7 = .ok (.ifCond .lt 11, 3) := by decide +kernel
theorem own_d2_10 : decode prog_46_method_1_code 10 = .ok (.lload_n 1, 1) := by decide +kernel
theorem own_d2_11 : decode prog_46_method_1_code 11 = .ok (.ldc2_w 11, 3) := by decide +kernel
theorem own_d2_14 : decode prog_46_method_1_code 14 = .ok (.lcmp, 1) := by decide +kernel
theorem own_d2_15 : decode prog_46_method_1_code 15 = .ok (.ifCond .le 17, 3) := by decide +kernel
theorem own_d2_18 : decode prog_46_method_1_code 18 = .ok (.new 13, 3) := by decide +kernel
theorem own_d2_21 : decode prog_46_method_1_code 21 = .ok (.dup, 1) := by decide +kernel
theorem own_d2_22 : decode prog_46_method_1_code 22 = .ok (.lload_n 1, 1) := by decide +kernel
theorem own_d2_28 : decode prog_46_method_1_code 28 = .ok (.invokespecial 19, 3) := by decide +kernel
theorem own_d2_31 : decode prog_46_method_1_code 31 = .ok (.athrow, 1) := by decide +kernel
theorem own_d2_32 : decode prog_46_method_1_code 32 = .ok (.aload_n 0, 1) := by decide +kernel
theorem own_d2_33 : decode prog_46_method_1_code 33 = .ok (.lload_n 1, 1) := by decide +kernel
theorem own_d2_34 : decode prog_46_method_1_code 34 = .ok (.putfield 22, 3) := by decide +kernel
theorem own_d2_37 : decode prog_46_method_1_code 37 = .ok (.return_, 1) := by decide +kernel
theorem own_pn1 : plainName "com/example/even_column/evencolumn/core/RetentionRule$MaxAge" = true := by first | (simp [plainName, overriddenIn]; done) | decide +kernel
theorem own_ef2 (m : MethodId) (r0 : Addr) (q1 : Int64) : entryFrame m #[(.ref r0), (.long q1)] 3 = mkF m 0 #[.val (.ref r0), .val (.long q1), .second] [] := by first | (simp [entryFrame, mkF, argsToLocals, Value.category]; done) | rfl
theorem own_pd0 : parseMethodDescriptor "()V" = some ⟨[], none⟩ := by decide +kernel
def own_Q2 (Z : State) (r0 : Addr) (q1 : Int64)  (h0 : Heap) (n0 : Nat) (v : Option Value) (h : Heap) (L : List Loc) : Prop := v = none ∧ Fr n0 L ∧ Keep h0 h [r0] ∧ Exa Z h r0 "com/example/even_column/evencolumn/core/RetentionRule$MaxAge" ∧ Fld Z h r0 "com/example/even_column/evencolumn/core/RetentionRule$MaxAge" "seconds" "J" (.long q1)
set_option maxRecDepth 65536 in
set_option maxHeartbeats 40000000 in
theorem own_rm2 (l : Launch) (Z : State) (a0 : Array Value) (hw : ∀ d ∈ tables_1, d.before a0 Z = true) (ws : List Jvm.Cond) (r0 : Addr) (q1 : Int64)  (h0 : Heap) (n0 : Nat) (Z0 : n0 ≤ h0.size) (F0 : Fld Z h0 r0 "com/example/even_column/evencolumn/core/RetentionRule$MaxAge" "seconds" "J" (.long (0 : Int64))) (EX : Exa Z h0 r0 "com/example/even_column/evencolumn/core/RetentionRule$MaxAge") (G : n0 ≤ r0) (hA : ¬ q1 < (1 : Int64)) (hB : ¬ (9223372036854 : Int64) < q1) :
    MetFree l (⟨"com/example/even_column/evencolumn/core/RetentionRule$MaxAge", "<init>", "(J)V"⟩ : MethodName) (head1 (Jvm.Cond.code (⟨"com/example/even_column/evencolumn/core/RetentionRule$MaxAge", "<init>", "(J)V"⟩ : MethodName) prog_46_method_1_code 3 none :: ws) ({ frames := 2, cells := 0, slots := 0, locals := 24 } : Room)) (fun a U => a = #[(.ref r0), (.long q1)] ∧ Z.Warmed39 U.vm ∧ U.heap = h0) (fun _ _ _ _ _ => True) (fun _ U o U' => ∃ v L, o = .returned v ∧ own_Q2 Z r0 q1  h0 n0 v U'.heap L ∧ FrameEnd U o U' L ({ frames := 2, cells := 0, slots := 0, locals := 24 } : Room).cells ({ frames := 2, cells := 0, slots := 0, locals := 24 } : Room).slots) := by
  refine MetFree.of_bodySF (plainFor_of_name own_pn1) hisR ?_
  intro p e s m args below meth c s₁ Bd hml0 hP hK
  obtain ⟨rfl, hZ, hh⟩ := hP
  have hx := Bd.exec
  have hby := Bd.bytes
  have hml : c.maxLocals = 3 := hml0
  have hown : s.vm.findClass "com/example/even_column/evencolumn/core/RetentionRule$MaxAge" = some m.cls := findClass_of_methodNamed Bd.named
  have hnm := (name_of_methodNamed Bd.named Bd.method).1
  have X0 : Stand p l e ({ frames := 2, cells := 0, slots := 0, locals := 24 } : Room) s m #[(.ref r0), (.long q1)] below meth c s₁ [] 0 0 := Stand.of_body Bd
  have e0 : s₁.heap = h0 := by rw [← hh, Bd.state]; rfl
  have N0 := Fr.nil n0
  suffices H : own_Ends p e below s ({ frames := 2, cells := 0, slots := 0, locals := 24 } : Room).cells ({ frames := 2, cells := 0, slots := 0, locals := 24 } : Room).slots (own_Q2 Z r0 q1  h0 n0) (s₁.setTop (mkF m 0 #[.val (.ref r0), .val (.long q1), .second] [])) by
    obtain ⟨s₂, o, h1, h2⟩ := H
    exact ⟨s₂, o, castTop (own_ef2 m r0 q1) h1, h2⟩
  show own_Ends _ _ _ _ _ _ _ (s₁.setTop (mkF m 0 #[.val (.ref r0), .val (.long q1), .second] []))
  have Kp0 := Keep.refl h0 [r0]
  refine own_step (fun _ k => XS.aloadN X0.here hx rfl (hb hby own_d2_0) rfl rfl k) ?_
  show own_Ends _ _ _ _ _ _ _ (s₁.setTop (mkF m 1 #[.val (.ref r0), .val (.long q1), .second] [(.ref r0)]))
  obtain ⟨_, _, ⟨T2, L2, k2, n2⟩, -, X2, ⟨Lc2, hQ2, l2, y2, z2⟩, st2⟩ := X0.specialBack hx (y := (⟨"java/lang/Record", "<init>", "()V"⟩ : MethodName)) rfl hown (mvT hZ (hw _ (List.mem_of_getElem? (i := 12) rfl))) (mvT hZ (hw _ (List.mem_of_getElem? (i := 13) rfl))) (mvT hZ (hw _ (List.mem_of_getElem? (i := 16) rfl))) (by decide) (backOf (W := 0) (own_rm1 l Z a0 hw [] r0  h0 n0 Z0 ) hZ (hw _ (List.mem_of_getElem? (i := 16) rfl)) (hw _ (List.mem_of_getElem? (i := 15) rfl)) (by decide) (by decide)) (g := (mkF m 1 #[.val (.ref r0), .val (.long q1), .second] [(.ref r0)])) rfl (by rw [hml]; rfl) (Steps.refl _) (a := r0) (argsL := []) (rest := []) (lenOf own_pd0 rfl) rfl (by show 2 * 0 + _ ≤ _; exact Nat.le_of_eq rfl) (hb hby own_d2_1) (fun _ _ => ⟨rfl, e0, (by decide : 0 + 0 ≤ _), (by decide : 0 + 0 ≤ _)⟩)
  dsimp only [Pt.U, Pt.locs, Pt.cells, Pt.slots] at X2 l2 y2 z2 st2 hQ2
  subst l2 y2 z2
  obtain ⟨rfl, Nq2, e2⟩ := hQ2
  have N2 := Fr.app N0 Nq2
  refine own_step (fun _ k => st2.trans k) ?_
  show own_Ends _ _ _ _ _ _ _ (T2.setTop (mkF m 4 #[.val (.ref r0), .val (.long q1), .second] []))
  refine own_step (fun _ k => XS.lloadN X2.here hx rfl (hb hby own_d2_4) rfl k) ?_
  show own_Ends _ _ _ _ _ _ _ (T2.setTop (mkF m 5 #[.val (.ref r0), .val (.long q1), .second] [(.long q1)]))
  refine own_step (fun _ k => XS.lconst X2.here hx rfl (hb hby own_d2_5) k) ?_
  show own_Ends _ _ _ _ _ _ _ (T2.setTop (mkF m 6 #[.val (.ref r0), .val (.long q1), .second] [(.long (1 : Int64)), (.long q1)]))
  refine own_step (fun _ k => XS.lcmp X2.here hx rfl (hb hby own_d2_6) rfl k) ?_
  show own_Ends _ _ _ _ _ _ _ (T2.setTop (mkF m 7 #[.val (.ref r0), .val (.long q1), .second] [(.int (lcmpW q1 (1 : Int64)))]))
  refine own_step (fun _ k => XS.ifNo X2.here hx rfl (hb hby own_d2_7) rfl ((if0 _ _).trans (flt (fun q => hA ((lw_lt _ _).mp q))).1) k) ?_
  show own_Ends _ _ _ _ _ _ _ (T2.setTop (mkF m 10 #[.val (.ref r0), .val (.long q1), .second] []))
  refine own_step (fun _ k => XS.lloadN X2.here hx rfl (hb hby own_d2_10) rfl k) ?_
  show own_Ends _ _ _ _ _ _ _ (T2.setTop (mkF m 11 #[.val (.ref r0), .val (.long q1), .second] [(.long q1)]))
  refine own_step (fun _ k => X2.ldc2Long hx hown (mvT hZ (hw _ (List.mem_of_getElem? (i := 20) rfl))) (g := (mkF m 11 #[.val (.ref r0), .val (.long q1), .second] [(.long q1)])) rfl (hb hby own_d2_11) _ k) ?_
  show own_Ends _ _ _ _ _ _ _ (T2.setTop (mkF m 14 #[.val (.ref r0), .val (.long q1), .second] [(.long (9223372036854 : Int64)), (.long q1)]))
  refine own_step (fun _ k => XS.lcmp X2.here hx rfl (hb hby own_d2_14) rfl k) ?_
  show own_Ends _ _ _ _ _ _ _ (T2.setTop (mkF m 15 #[.val (.ref r0), .val (.long q1), .second] [(.int (lcmpW q1 (9223372036854 : Int64)))]))
  refine own_step (fun _ k => XS.ifYes X2.here hx rfl (pc0 := 15) (pc' := 32) rfl (hb hby own_d2_15) rfl ((if0 _ _).trans (flt (fun q => hB ((lw_gt _ _).mp q))).2.2.2) (by decide) (by decide) k) ?_
  show own_Ends _ _ _ _ _ _ _ (T2.setTop (mkF m 32 #[.val (.ref r0), .val (.long q1), .second] []))
  refine own_step (fun _ k => XS.aloadN X2.here hx rfl (hb hby own_d2_32) rfl rfl k) ?_
  show own_Ends _ _ _ _ _ _ _ (T2.setTop (mkF m 33 #[.val (.ref r0), .val (.long q1), .second] [(.ref r0)]))
  refine own_step (fun _ k => XS.lloadN X2.here hx rfl (hb hby own_d2_33) rfl k) ?_
  show own_Ends _ _ _ _ _ _ _ (T2.setTop (mkF m 34 #[.val (.ref r0), .val (.long q1), .second] [(.long q1), (.ref r0)]))
  obtain ⟨T3, h3, X3, e3, W3, st3⟩ := putF X2 hx hZ hown (host := "") (Or.inl (hw _ (List.mem_of_getElem? (i := 21) rfl))) Via.refl e2 F0 EX (Or.inr ⟨(hw _ (List.mem_of_getElem? (i := 22) rfl)), rfl, hnm⟩) (hw _ (List.mem_of_getElem? (i := 7) rfl)) (ty := .long) (by decide) rfl rfl (g := (mkF m 34 #[.val (.ref r0), .val (.long q1), .second] [(.long q1), (.ref r0)])) rfl rfl (hb hby own_d2_34)
  have N3 := Fr.snoc X3 N2 G
  have A3_r0 := Exa.wr W3 EX
  have Z3 := Nat.le_trans Z0 (Keep.of_wr W3).1
  have Kp3 := Kp0.wr W3 (Or.inl (List.mem_of_getElem? (i := 0) rfl))
  have F3_r0_seconds := Fld.same W3 F0
  refine own_step (fun _ k => st3 _ k) ?_
  show own_Ends _ _ _ _ _ _ _ (T3.setTop (mkF m 37 #[.val (.ref r0), .val (.long q1), .second] []))
  refine own_ret X3 (BodyLoose.notSynchronized Bd) (v := none) (fun _ => rfl) ?_ (by decide) (by decide) (fun fs hr => X3.returnOut hx Bd.returns (hb hby own_d2_37) hr)
  show own_Q2 Z r0 q1  h0 n0 none T3.heap _
  rw [e3]
  exact ⟨rfl, N3, Kp3, A3_r0, F3_r0_seconds⟩
theorem own_d3_0 : decode prog_46_method_2_code 0 = .ok (.lload 5, 2) := by decide +kernel
theorem own_d3_2 : decode prog_46_method_2_code 2 = .ok (.lload_n 3, 1) := by decide +kernel
theorem own_d3_3 : decode prog_46_method_2_code 3 = .ok (.lsub, 1) := by decide +kernel
theorem own_d3_4 : decode prog_46_method_2_code 4 = .ok (.aload_n 0, 1) := by decide +kernel
theorem own_d3_5 : decode prog_46_method_2_code 5 = .ok (.getfield 22, 3) := by decide +kernel
theorem own_d3_8 : decode prog_46_method_2_code 8 = .ok (.ldc2_w 26, 3) := by decide +kernel
theorem own_d3_11 : decode prog_46_method_2_code 11 = .ok (.lmul, 1) := by decide +kernel
theorem own_d3_12 : decode prog_46_method_2_code 12 = .ok (.lcmp, 1) := by decide +kernel
theorem own_d3_13 : decode prog_46_method_2_code 13 = .ok (.ifCond .le 7, 3) := by decide +kernel
theorem own_d3_16 : decode prog_46_method_2_code 16 = .ok (.iconst 1, 1) := by decide +kernel
theorem own_d3_17 : decode prog_46_method_2_code 17 = .ok (.goto 4, 3) := by decide +kernel
theorem own_d3_20 : decode prog_46_method_2_code 20 = .ok (.iconst 0, 1) := by decide +kernel
theorem own_d3_21 : decode prog_46_method_2_code 21 = .ok (.ireturn, 1) := by decide +kernel
theorem own_ef3 (m : MethodId) (r0 : Addr) (q1 : Int64) (q2 : Int64) (q3 : Int64) : entryFrame m #[(.ref r0), (.long q1), (.long q2), (.long q3)] 7 = mkF m 0 #[.val (.ref r0), .val (.long q1), .second, .val (.long q2), .second, .val (.long q3), .second] [] := by first | (simp [entryFrame, mkF, argsToLocals, Value.category]; done) | rfl
def own_Q3 (Z : State) (r0 : Addr) (q1 : Int64) (q2 : Int64) (q3 : Int64) (sec : Int64) (h0 : Heap) (n0 : Nat) (v : Option Value) (h : Heap) (L : List Loc) : Prop := v = some (.int (own_drop (q3 - q2) sec)) ∧ Fr n0 L ∧ h = h0
set_option maxRecDepth 65536 in
set_option maxHeartbeats 40000000 in
theorem own_rm3 (l : Launch) (Z : State) (a0 : Array Value) (hw : ∀ d ∈ tables_1, d.before a0 Z = true) (ws : List Jvm.Cond) (r0 : Addr) (q1 : Int64) (q2 : Int64) (q3 : Int64) (sec : Int64) (h0 : Heap) (n0 : Nat) (Z0 : n0 ≤ h0.size) (F0 : Fld Z h0 r0 "com/example/even_column/evencolumn/core/RetentionRule$MaxAge" "seconds" "J" (.long sec)) :
    MetFree l (⟨"com/example/even_column/evencolumn/core/RetentionRule$MaxAge", "drops", "(JJJ)Z"⟩ : MethodName) (head1 (Jvm.Cond.code (⟨"com/example/even_column/evencolumn/core/RetentionRule$MaxAge", "drops", "(JJJ)Z"⟩ : MethodName) prog_46_method_2_code 7 (some .boolean) :: ws) ({ frames := 0, cells := 0, slots := 0, locals := 0 } : Room)) (fun a U => a = #[(.ref r0), (.long q1), (.long q2), (.long q3)] ∧ Z.Warmed39 U.vm ∧ U.heap = h0) (fun _ _ _ _ _ => True) (fun _ U o U' => ∃ v L, o = .returned v ∧ own_Q3 Z r0 q1 q2 q3 sec h0 n0 v U'.heap L ∧ FrameEnd U o U' L ({ frames := 0, cells := 0, slots := 0, locals := 0 } : Room).cells ({ frames := 0, cells := 0, slots := 0, locals := 0 } : Room).slots) := by
  refine MetFree.of_bodySF (plainFor_of_name own_pn1) hisR ?_
  intro p e s m args below meth c s₁ Bd hml0 hP hK
  obtain ⟨rfl, hZ, hh⟩ := hP
  have hx := Bd.exec
  have hby := Bd.bytes
  have hml : c.maxLocals = 7 := hml0
  have hown : s.vm.findClass "com/example/even_column/evencolumn/core/RetentionRule$MaxAge" = some m.cls := findClass_of_methodNamed Bd.named
  have hnm := (name_of_methodNamed Bd.named Bd.method).1
  have X0 : Stand p l e ({ frames := 0, cells := 0, slots := 0, locals := 0 } : Room) s m #[(.ref r0), (.long q1), (.long q2), (.long q3)] below meth c s₁ [] 0 0 := Stand.of_body Bd
  have e0 : s₁.heap = h0 := by rw [← hh, Bd.state]; rfl
  have N0 := Fr.nil n0
  suffices H : own_Ends p e below s ({ frames := 0, cells := 0, slots := 0, locals := 0 } : Room).cells ({ frames := 0, cells := 0, slots := 0, locals := 0 } : Room).slots (own_Q3 Z r0 q1 q2 q3 sec h0 n0) (s₁.setTop (mkF m 0 #[.val (.ref r0), .val (.long q1), .second, .val (.long q2), .second, .val (.long q3), .second] [])) by
    obtain ⟨s₂, o, h1, h2⟩ := H
    exact ⟨s₂, o, castTop (own_ef3 m r0 q1 q2 q3) h1, h2⟩
  show own_Ends _ _ _ _ _ _ _ (s₁.setTop (mkF m 0 #[.val (.ref r0), .val (.long q1), .second, .val (.long q2), .second, .val (.long q3), .second] []))
  refine own_step (fun _ k => XS.lload X0.here hx rfl (hb hby own_d3_0) rfl k) ?_
  show own_Ends _ _ _ _ _ _ _ (s₁.setTop (mkF m 2 #[.val (.ref r0), .val (.long q1), .second, .val (.long q2), .second, .val (.long q3), .second] [(.long q3)]))
  refine own_step (fun _ k => XS.lloadN X0.here hx rfl (hb hby own_d3_2) rfl k) ?_
  show own_Ends _ _ _ _ _ _ _ (s₁.setTop (mkF m 3 #[.val (.ref r0), .val (.long q1), .second, .val (.long q2), .second, .val (.long q3), .second] [(.long q2), (.long q3)]))
  refine own_step (fun _ k => XS.lsub X0.here hx rfl (hb hby own_d3_3) rfl k) ?_
  show own_Ends _ _ _ _ _ _ _ (s₁.setTop (mkF m 4 #[.val (.ref r0), .val (.long q1), .second, .val (.long q2), .second, .val (.long q3), .second] [(.long (q3 - q2))]))
  refine own_step (fun _ k => XS.aloadN X0.here hx rfl (hb hby own_d3_4) rfl rfl k) ?_
  show own_Ends _ _ _ _ _ _ _ (s₁.setTop (mkF m 5 #[.val (.ref r0), .val (.long q1), .second, .val (.long q2), .second, .val (.long q3), .second] [(.ref r0), (.long (q3 - q2))]))
  obtain ⟨T4, X4, e4, st4⟩ := getF X0 hx hZ hown (host := "") (Or.inl (hw _ (List.mem_of_getElem? (i := 21) rfl))) Via.refl e0 F0 (g := (mkF m 5 #[.val (.ref r0), .val (.long q1), .second, .val (.long q2), .second, .val (.long q3), .second] [(.ref r0), (.long (q3 - q2))])) rfl rfl (hb hby own_d3_5)
  refine own_step (fun _ k => st4 _ k) ?_
  show own_Ends _ _ _ _ _ _ _ (T4.setTop (mkF m 8 #[.val (.ref r0), .val (.long q1), .second, .val (.long q2), .second, .val (.long q3), .second] [(.long sec), (.long (q3 - q2))]))
  refine own_step (fun _ k => X4.ldc2Long hx hown (mvT hZ (hw _ (List.mem_of_getElem? (i := 28) rfl))) (g := (mkF m 8 #[.val (.ref r0), .val (.long q1), .second, .val (.long q2), .second, .val (.long q3), .second] [(.long sec), (.long (q3 - q2))])) rfl (hb hby own_d3_8) _ k) ?_
  show own_Ends _ _ _ _ _ _ _ (T4.setTop (mkF m 11 #[.val (.ref r0), .val (.long q1), .second, .val (.long q2), .second, .val (.long q3), .second] [(.long (1000000 : Int64)), (.long sec), (.long (q3 - q2))]))
  refine own_step (fun _ k => XS.lmul X4.here hx rfl (hb hby own_d3_11) rfl k) ?_
  show own_Ends _ _ _ _ _ _ _ (T4.setTop (mkF m 12 #[.val (.ref r0), .val (.long q1), .second, .val (.long q2), .second, .val (.long q3), .second] [(.long (sec * (1000000 : Int64))), (.long (q3 - q2))]))
  refine own_step (fun _ k => XS.lcmp X4.here hx rfl (hb hby own_d3_12) rfl k) ?_
  show own_Ends _ _ _ _ _ _ _ (T4.setTop (mkF m 13 #[.val (.ref r0), .val (.long q1), .second, .val (.long q2), .second, .val (.long q3), .second] [(.int (lcmpW (q3 - q2) (sec * (1000000 : Int64))))]))
  by_cases h1 : (sec * (1000000 : Int64)) < (q3 - q2)
  · refine own_step (fun _ k => XS.ifNo X4.here hx rfl (hb hby own_d3_13) rfl ((if0 _ _).trans (tlt ((lw_gt _ _).mpr h1)).2.2.2) k) ?_
    show own_Ends _ _ _ _ _ _ _ (T4.setTop (mkF m 16 #[.val (.ref r0), .val (.long q1), .second, .val (.long q2), .second, .val (.long q3), .second] []))
    refine own_step (fun _ k => XS.iconst X4.here hx rfl (hb hby own_d3_16) k) ?_
    show own_Ends _ _ _ _ _ _ _ (T4.setTop (mkF m 17 #[.val (.ref r0), .val (.long q1), .second, .val (.long q2), .second, .val (.long q3), .second] [(.int (1 : Int32))]))
    refine own_step (fun _ k => XS.goto X4.here hx rfl (pc0 := 17) (pc' := 21) rfl (hb hby own_d3_17) (by decide) (by decide) k) ?_
    show own_Ends _ _ _ _ _ _ _ (T4.setTop (mkF m 21 #[.val (.ref r0), .val (.long q1), .second, .val (.long q2), .second, .val (.long q3), .second] [(.int (1 : Int32))]))
    refine own_ret X4 (BodyLoose.notSynchronized Bd) (v := (some (.int (1 : Int32)))) (fun h => by rw [Bd.returns] at h; cases h) ?_ (by decide) (by decide) (fun fs hr => X4.ireturnOut hx Bd.returns rfl (by simp) (hb hby own_d3_21) hr)
    show own_Q3 Z r0 q1 q2 q3 sec h0 n0 (some (.int (1 : Int32))) T4.heap _
    rw [e4]
    exact ⟨by simp [own_drop, h1], N0, rfl⟩
  · refine own_step (fun _ k => XS.ifYes X4.here hx rfl (pc0 := 13) (pc' := 20) rfl (hb hby own_d3_13) rfl ((if0 _ _).trans (flt (fun q => h1 ((lw_gt _ _).mp q))).2.2.2) (by decide) (by decide) k) ?_
    show own_Ends _ _ _ _ _ _ _ (T4.setTop (mkF m 20 #[.val (.ref r0), .val (.long q1), .second, .val (.long q2), .second, .val (.long q3), .second] []))
    refine own_step (fun _ k => XS.iconst X4.here hx rfl (hb hby own_d3_20) k) ?_
    show own_Ends _ _ _ _ _ _ _ (T4.setTop (mkF m 21 #[.val (.ref r0), .val (.long q1), .second, .val (.long q2), .second, .val (.long q3), .second] [(.int (0 : Int32))]))
    refine own_ret X4 (BodyLoose.notSynchronized Bd) (v := (some (.int (0 : Int32)))) (fun h => by rw [Bd.returns] at h; cases h) ?_ (by decide) (by decide) (fun fs hr => X4.ireturnOut hx Bd.returns rfl (by simp) (hb hby own_d3_21) hr)
    show own_Q3 Z r0 q1 q2 q3 sec h0 n0 (some (.int (0 : Int32))) T4.heap _
    rw [e4]
    exact ⟨by simp [own_drop, h1], N0, rfl⟩
theorem own_d4_0 : decode method_3_code 0 = .ok (.lload_n 0, 1) := by decide +kernel
theorem own_d4_1 : decode method_3_code 1 = .ok (.lconst 0, 1) := by decide +kernel
theorem own_d4_2 : decode method_3_code 2 = .ok (.lcmp, 1) := by decide +kernel
theorem own_d4_3 : decode method_3_code 3 = .ok (.ifCond .gt 5, 3) := by decide +kernel
theorem own_d4_6 : decode method_3_code 6 = .ok (.iconst 0, 1) := by decide +kernel
theorem own_d4_7 : decode method_3_code 7 = .ok (.ireturn, 1) := by decide +kernel
theorem own_d4_8 : decode method_3_code 8 = .ok (.lload_n 0, 1) := by decide +kernel
theorem own_d4_9 : decode method_3_code 9 = .ok (.ldc2_w 15, 3) := by decide +kernel
theorem own_d4_12 : decode method_3_code 12 = .ok (.ldiv, 1) := by decide +kernel
theorem own_d4_13 : decode method_3_code 13 = .ok (.lstore 4, 2) := by decide +kernel
theorem own_d4_15 : decode method_3_code 15 = .ok (.lload_n 0, 1) := by decide +kernel
theorem own_d4_16 : decode method_3_code 16 = .ok (.ldc2_w 15, 3) := by decide +kernel
theorem own_d4_19 : decode method_3_code 19 = .ok (.lrem, 1) := by decide +kernel
theorem own_d4_20 : decode method_3_code 20 = .ok (.lstore 6, 2) := by decide +kernel
theorem own_d4_22 : decode method_3_code 22 = .ok (.lload 4, 2) := by decide +kernel
theorem own_d4_24 : decode method_3_code 24 = .ok (.lload_n 2, 1) := by decide +kernel
theorem own_d4_25 : decode method_3_code 25 = .ok (.lcmp, 1) := by decide +kernel
theorem own_d4_26 : decode method_3_code 26 = .ok (.ifCond .le 5, 3) := by decide +kernel
theorem own_d4_29 : decode method_3_code 29 = .ok (.iconst 1, 1) := by decide +kernel
theorem own_d4_30 : decode method_3_code 30 = .ok (.ireturn, 1) := by decide +kernel
theorem own_d4_31 : decode method_3_code 31 = .ok (.lload 4, 2) := by decide +kernel
theorem own_d4_33 : decode method_3_code 33 = .ok (.lload_n 2, 1) := by decide +kernel
theorem own_d4_34 : decode method_3_code 34 = .ok (.lcmp, 1) := by decide +kernel
theorem own_d4_35 : decode method_3_code 35 = .ok (.ifCond .ne 16, 3) := by decide +kernel
theorem own_d4_38 : decode method_3_code 38 = .ok (.lload 6, 2) := by decide +kernel
theorem own_d4_40 : decode method_3_code 40 = .ok (.lconst 0, 1) := by decide +kernel
theorem own_d4_41 : decode method_3_code 41 = .ok (.lcmp, 1) := by decide +kernel
theorem own_d4_42 : decode method_3_code 42 = .ok (.ifCond .eq 7, 3) := by decide +kernel
theorem own_d4_45 : decode method_3_code 45 = .ok (.iconst 1, 1) := by decide +kernel
theorem own_d4_46 : decode method_3_code 46 = .ok (.goto 4, 3) := by decide +kernel
theorem own_d4_49 : decode method_3_code 49 = .ok (.iconst 0, 1) := by decide +kernel
theorem own_d4_50 : decode method_3_code 50 = .ok (.ireturn, 1) := by decide +kernel
theorem own_d4_51 : decode method_3_code 51 = .ok (.iconst 0, 1) := by decide +kernel
theorem own_d4_52 : decode method_3_code 52 = .ok (.ireturn, 1) := by decide +kernel
theorem own_pn2 : plainName "com/example/even_column/evencolumn/core/MaxAgeDropsPinLaw" = true := by first | (simp [plainName, overriddenIn]; done) | decide +kernel
theorem own_ef4 (m : MethodId) (q0 : Int64) (q1 : Int64) : entryFrame m #[(.long q0), (.long q1)] 8 = mkF m 0 #[.val (.long q0), .second, .val (.long q1), .second, .unset, .unset, .unset, .unset] [] := by first | (simp [entryFrame, mkF, argsToLocals, Value.category]; done) | rfl
def own_Q4 (Z : State) (q0 : Int64) (q1 : Int64)  (h0 : Heap) (n0 : Nat) (v : Option Value) (h : Heap) (L : List Loc) : Prop := v = some (.int (own_exp q0 q1)) ∧ Fr n0 L ∧ h = h0
set_option maxRecDepth 65536 in
set_option maxHeartbeats 40000000 in
theorem own_rm4 (l : Launch) (Z : State) (a0 : Array Value) (hw : ∀ d ∈ tables_1, d.before a0 Z = true) (ws : List Jvm.Cond) (q0 : Int64) (q1 : Int64)  (h0 : Heap) (n0 : Nat) (Z0 : n0 ≤ h0.size)  :
    MetFree l (⟨"com/example/even_column/evencolumn/core/MaxAgeDropsPinLaw", "expected", "(JJ)Z"⟩ : MethodName) (head1 (Jvm.Cond.code (⟨"com/example/even_column/evencolumn/core/MaxAgeDropsPinLaw", "expected", "(JJ)Z"⟩ : MethodName) method_3_code 8 (some .boolean) :: ws) ({ frames := 0, cells := 0, slots := 0, locals := 0 } : Room)) (fun a U => a = #[(.long q0), (.long q1)] ∧ Z.Warmed39 U.vm ∧ U.heap = h0) (fun _ _ _ _ _ => True) (fun _ U o U' => ∃ v L, o = .returned v ∧ own_Q4 Z q0 q1  h0 n0 v U'.heap L ∧ FrameEnd U o U' L ({ frames := 0, cells := 0, slots := 0, locals := 0 } : Room).cells ({ frames := 0, cells := 0, slots := 0, locals := 0 } : Room).slots) := by
  refine MetFree.of_bodySF (plainFor_of_name own_pn2) hisR ?_
  intro p e s m args below meth c s₁ Bd hml0 hP hK
  obtain ⟨rfl, hZ, hh⟩ := hP
  have hx := Bd.exec
  have hby := Bd.bytes
  have hml : c.maxLocals = 8 := hml0
  have hown : s.vm.findClass "com/example/even_column/evencolumn/core/MaxAgeDropsPinLaw" = some m.cls := findClass_of_methodNamed Bd.named
  have hnm := (name_of_methodNamed Bd.named Bd.method).1
  have X0 : Stand p l e ({ frames := 0, cells := 0, slots := 0, locals := 0 } : Room) s m #[(.long q0), (.long q1)] below meth c s₁ [] 0 0 := Stand.of_body Bd
  have e0 : s₁.heap = h0 := by rw [← hh, Bd.state]; rfl
  have N0 := Fr.nil n0
  suffices H : own_Ends p e below s ({ frames := 0, cells := 0, slots := 0, locals := 0 } : Room).cells ({ frames := 0, cells := 0, slots := 0, locals := 0 } : Room).slots (own_Q4 Z q0 q1  h0 n0) (s₁.setTop (mkF m 0 #[.val (.long q0), .second, .val (.long q1), .second, .unset, .unset, .unset, .unset] [])) by
    obtain ⟨s₂, o, h1, h2⟩ := H
    exact ⟨s₂, o, castTop (own_ef4 m q0 q1) h1, h2⟩
  show own_Ends _ _ _ _ _ _ _ (s₁.setTop (mkF m 0 #[.val (.long q0), .second, .val (.long q1), .second, .unset, .unset, .unset, .unset] []))
  refine own_step (fun _ k => XS.lloadN X0.here hx rfl (hb hby own_d4_0) rfl k) ?_
  show own_Ends _ _ _ _ _ _ _ (s₁.setTop (mkF m 1 #[.val (.long q0), .second, .val (.long q1), .second, .unset, .unset, .unset, .unset] [(.long q0)]))
  refine own_step (fun _ k => XS.lconst X0.here hx rfl (hb hby own_d4_1) k) ?_
  show own_Ends _ _ _ _ _ _ _ (s₁.setTop (mkF m 2 #[.val (.long q0), .second, .val (.long q1), .second, .unset, .unset, .unset, .unset] [(.long (0 : Int64)), (.long q0)]))
  refine own_step (fun _ k => XS.lcmp X0.here hx rfl (hb hby own_d4_2) rfl k) ?_
  show own_Ends _ _ _ _ _ _ _ (s₁.setTop (mkF m 3 #[.val (.long q0), .second, .val (.long q1), .second, .unset, .unset, .unset, .unset] [(.int (lcmpW q0 (0 : Int64)))]))
  by_cases h1 : (0 : Int64) < q0
  · refine own_step (fun _ k => XS.ifYes X0.here hx rfl (pc0 := 3) (pc' := 8) rfl (hb hby own_d4_3) rfl ((if0 _ _).trans (tlt ((lw_gt _ _).mpr h1)).2.2.1) (by decide) (by decide) k) ?_
    show own_Ends _ _ _ _ _ _ _ (s₁.setTop (mkF m 8 #[.val (.long q0), .second, .val (.long q1), .second, .unset, .unset, .unset, .unset] []))
    refine own_step (fun _ k => XS.lloadN X0.here hx rfl (hb hby own_d4_8) rfl k) ?_
    show own_Ends _ _ _ _ _ _ _ (s₁.setTop (mkF m 9 #[.val (.long q0), .second, .val (.long q1), .second, .unset, .unset, .unset, .unset] [(.long q0)]))
    refine own_step (fun _ k => X0.ldc2Long hx hown (mvT hZ (hw _ (List.mem_of_getElem? (i := 2) rfl))) (g := (mkF m 9 #[.val (.long q0), .second, .val (.long q1), .second, .unset, .unset, .unset, .unset] [(.long q0)])) rfl (hb hby own_d4_9) _ k) ?_
    show own_Ends _ _ _ _ _ _ _ (s₁.setTop (mkF m 12 #[.val (.long q0), .second, .val (.long q1), .second, .unset, .unset, .unset, .unset] [(.long (1000000 : Int64)), (.long q0)]))
    refine own_step (fun _ k => XS.ldiv X0.here hx rfl (hb hby own_d4_12) rfl (by decide) k) ?_
    show own_Ends _ _ _ _ _ _ _ (s₁.setTop (mkF m 13 #[.val (.long q0), .second, .val (.long q1), .second, .unset, .unset, .unset, .unset] [(.long (q0 / (1000000 : Int64)))]))
    refine own_step (fun _ k => XS.lstore X0.here hx rfl (hb hby own_d4_13) rfl (l' := #[.val (.long q0), .second, .val (.long q1), .second, .val (.long (q0 / (1000000 : Int64))), .second, .unset, .unset]) rfl k) ?_
    show own_Ends _ _ _ _ _ _ _ (s₁.setTop (mkF m 15 #[.val (.long q0), .second, .val (.long q1), .second, .val (.long (q0 / (1000000 : Int64))), .second, .unset, .unset] []))
    refine own_step (fun _ k => XS.lloadN X0.here hx rfl (hb hby own_d4_15) rfl k) ?_
    show own_Ends _ _ _ _ _ _ _ (s₁.setTop (mkF m 16 #[.val (.long q0), .second, .val (.long q1), .second, .val (.long (q0 / (1000000 : Int64))), .second, .unset, .unset] [(.long q0)]))
    refine own_step (fun _ k => X0.ldc2Long hx hown (mvT hZ (hw _ (List.mem_of_getElem? (i := 2) rfl))) (g := (mkF m 16 #[.val (.long q0), .second, .val (.long q1), .second, .val (.long (q0 / (1000000 : Int64))), .second, .unset, .unset] [(.long q0)])) rfl (hb hby own_d4_16) _ k) ?_
    show own_Ends _ _ _ _ _ _ _ (s₁.setTop (mkF m 19 #[.val (.long q0), .second, .val (.long q1), .second, .val (.long (q0 / (1000000 : Int64))), .second, .unset, .unset] [(.long (1000000 : Int64)), (.long q0)]))
    refine own_step (fun _ k => XS.lrem X0.here hx rfl (hb hby own_d4_19) rfl (by decide) k) ?_
    show own_Ends _ _ _ _ _ _ _ (s₁.setTop (mkF m 20 #[.val (.long q0), .second, .val (.long q1), .second, .val (.long (q0 / (1000000 : Int64))), .second, .unset, .unset] [(.long (q0 - (q0 / (1000000 : Int64)) * (1000000 : Int64)))]))
    refine own_step (fun _ k => XS.lstore X0.here hx rfl (hb hby own_d4_20) rfl (l' := #[.val (.long q0), .second, .val (.long q1), .second, .val (.long (q0 / (1000000 : Int64))), .second, .val (.long (q0 - (q0 / (1000000 : Int64)) * (1000000 : Int64))), .second]) rfl k) ?_
    show own_Ends _ _ _ _ _ _ _ (s₁.setTop (mkF m 22 #[.val (.long q0), .second, .val (.long q1), .second, .val (.long (q0 / (1000000 : Int64))), .second, .val (.long (q0 - (q0 / (1000000 : Int64)) * (1000000 : Int64))), .second] []))
    refine own_step (fun _ k => XS.lload X0.here hx rfl (hb hby own_d4_22) rfl k) ?_
    show own_Ends _ _ _ _ _ _ _ (s₁.setTop (mkF m 24 #[.val (.long q0), .second, .val (.long q1), .second, .val (.long (q0 / (1000000 : Int64))), .second, .val (.long (q0 - (q0 / (1000000 : Int64)) * (1000000 : Int64))), .second] [(.long (q0 / (1000000 : Int64)))]))
    refine own_step (fun _ k => XS.lloadN X0.here hx rfl (hb hby own_d4_24) rfl k) ?_
    show own_Ends _ _ _ _ _ _ _ (s₁.setTop (mkF m 25 #[.val (.long q0), .second, .val (.long q1), .second, .val (.long (q0 / (1000000 : Int64))), .second, .val (.long (q0 - (q0 / (1000000 : Int64)) * (1000000 : Int64))), .second] [(.long q1), (.long (q0 / (1000000 : Int64)))]))
    refine own_step (fun _ k => XS.lcmp X0.here hx rfl (hb hby own_d4_25) rfl k) ?_
    show own_Ends _ _ _ _ _ _ _ (s₁.setTop (mkF m 26 #[.val (.long q0), .second, .val (.long q1), .second, .val (.long (q0 / (1000000 : Int64))), .second, .val (.long (q0 - (q0 / (1000000 : Int64)) * (1000000 : Int64))), .second] [(.int (lcmpW (q0 / (1000000 : Int64)) q1))]))
    by_cases h2 : q1 < (q0 / (1000000 : Int64))
    · refine own_step (fun _ k => XS.ifNo X0.here hx rfl (hb hby own_d4_26) rfl ((if0 _ _).trans (tlt ((lw_gt _ _).mpr h2)).2.2.2) k) ?_
      show own_Ends _ _ _ _ _ _ _ (s₁.setTop (mkF m 29 #[.val (.long q0), .second, .val (.long q1), .second, .val (.long (q0 / (1000000 : Int64))), .second, .val (.long (q0 - (q0 / (1000000 : Int64)) * (1000000 : Int64))), .second] []))
      refine own_step (fun _ k => XS.iconst X0.here hx rfl (hb hby own_d4_29) k) ?_
      show own_Ends _ _ _ _ _ _ _ (s₁.setTop (mkF m 30 #[.val (.long q0), .second, .val (.long q1), .second, .val (.long (q0 / (1000000 : Int64))), .second, .val (.long (q0 - (q0 / (1000000 : Int64)) * (1000000 : Int64))), .second] [(.int (1 : Int32))]))
      refine own_ret X0 (BodyLoose.notSynchronized Bd) (v := (some (.int (1 : Int32)))) (fun h => by rw [Bd.returns] at h; cases h) ?_ (by decide) (by decide) (fun fs hr => X0.ireturnOut hx Bd.returns rfl (by simp) (hb hby own_d4_30) hr)
      show own_Q4 Z q0 q1  h0 n0 (some (.int (1 : Int32))) s₁.heap _
      rw [e0]
      refine ⟨?_, N0, rfl⟩
      simp only [own_exp, if_pos h1, if_pos h2]
      try simp
    · refine own_step (fun _ k => XS.ifYes X0.here hx rfl (pc0 := 26) (pc' := 31) rfl (hb hby own_d4_26) rfl ((if0 _ _).trans (flt (fun q => h2 ((lw_gt _ _).mp q))).2.2.2) (by decide) (by decide) k) ?_
      show own_Ends _ _ _ _ _ _ _ (s₁.setTop (mkF m 31 #[.val (.long q0), .second, .val (.long q1), .second, .val (.long (q0 / (1000000 : Int64))), .second, .val (.long (q0 - (q0 / (1000000 : Int64)) * (1000000 : Int64))), .second] []))
      refine own_step (fun _ k => XS.lload X0.here hx rfl (hb hby own_d4_31) rfl k) ?_
      show own_Ends _ _ _ _ _ _ _ (s₁.setTop (mkF m 33 #[.val (.long q0), .second, .val (.long q1), .second, .val (.long (q0 / (1000000 : Int64))), .second, .val (.long (q0 - (q0 / (1000000 : Int64)) * (1000000 : Int64))), .second] [(.long (q0 / (1000000 : Int64)))]))
      refine own_step (fun _ k => XS.lloadN X0.here hx rfl (hb hby own_d4_33) rfl k) ?_
      show own_Ends _ _ _ _ _ _ _ (s₁.setTop (mkF m 34 #[.val (.long q0), .second, .val (.long q1), .second, .val (.long (q0 / (1000000 : Int64))), .second, .val (.long (q0 - (q0 / (1000000 : Int64)) * (1000000 : Int64))), .second] [(.long q1), (.long (q0 / (1000000 : Int64)))]))
      refine own_step (fun _ k => XS.lcmp X0.here hx rfl (hb hby own_d4_34) rfl k) ?_
      show own_Ends _ _ _ _ _ _ _ (s₁.setTop (mkF m 35 #[.val (.long q0), .second, .val (.long q1), .second, .val (.long (q0 / (1000000 : Int64))), .second, .val (.long (q0 - (q0 / (1000000 : Int64)) * (1000000 : Int64))), .second] [(.int (lcmpW (q0 / (1000000 : Int64)) q1))]))
      by_cases h3 : (q0 / (1000000 : Int64)) = q1
      · refine own_step (fun _ k => XS.ifNo X0.here hx rfl (hb hby own_d4_35) rfl ((if0 _ _).trans (teq ((lw_eq _ _).mpr h3)).2) k) ?_
        show own_Ends _ _ _ _ _ _ _ (s₁.setTop (mkF m 38 #[.val (.long q0), .second, .val (.long q1), .second, .val (.long (q0 / (1000000 : Int64))), .second, .val (.long (q0 - (q0 / (1000000 : Int64)) * (1000000 : Int64))), .second] []))
        refine own_step (fun _ k => XS.lload X0.here hx rfl (hb hby own_d4_38) rfl k) ?_
        show own_Ends _ _ _ _ _ _ _ (s₁.setTop (mkF m 40 #[.val (.long q0), .second, .val (.long q1), .second, .val (.long (q0 / (1000000 : Int64))), .second, .val (.long (q0 - (q0 / (1000000 : Int64)) * (1000000 : Int64))), .second] [(.long (q0 - (q0 / (1000000 : Int64)) * (1000000 : Int64)))]))
        refine own_step (fun _ k => XS.lconst X0.here hx rfl (hb hby own_d4_40) k) ?_
        show own_Ends _ _ _ _ _ _ _ (s₁.setTop (mkF m 41 #[.val (.long q0), .second, .val (.long q1), .second, .val (.long (q0 / (1000000 : Int64))), .second, .val (.long (q0 - (q0 / (1000000 : Int64)) * (1000000 : Int64))), .second] [(.long (0 : Int64)), (.long (q0 - (q0 / (1000000 : Int64)) * (1000000 : Int64)))]))
        refine own_step (fun _ k => XS.lcmp X0.here hx rfl (hb hby own_d4_41) rfl k) ?_
        show own_Ends _ _ _ _ _ _ _ (s₁.setTop (mkF m 42 #[.val (.long q0), .second, .val (.long q1), .second, .val (.long (q0 / (1000000 : Int64))), .second, .val (.long (q0 - (q0 / (1000000 : Int64)) * (1000000 : Int64))), .second] [(.int (lcmpW (q0 - (q0 / (1000000 : Int64)) * (1000000 : Int64)) (0 : Int64)))]))
        by_cases h4 : (q0 - (q0 / (1000000 : Int64)) * (1000000 : Int64)) = (0 : Int64)
        · refine own_step (fun _ k => XS.ifYes X0.here hx rfl (pc0 := 42) (pc' := 49) rfl (hb hby own_d4_42) rfl ((if0 _ _).trans (teq ((lw_eq _ _).mpr h4)).1) (by decide) (by decide) k) ?_
          show own_Ends _ _ _ _ _ _ _ (s₁.setTop (mkF m 49 #[.val (.long q0), .second, .val (.long q1), .second, .val (.long (q0 / (1000000 : Int64))), .second, .val (.long (q0 - (q0 / (1000000 : Int64)) * (1000000 : Int64))), .second] []))
          refine own_step (fun _ k => XS.iconst X0.here hx rfl (hb hby own_d4_49) k) ?_
          show own_Ends _ _ _ _ _ _ _ (s₁.setTop (mkF m 50 #[.val (.long q0), .second, .val (.long q1), .second, .val (.long (q0 / (1000000 : Int64))), .second, .val (.long (q0 - (q0 / (1000000 : Int64)) * (1000000 : Int64))), .second] [(.int (0 : Int32))]))
          refine own_ret X0 (BodyLoose.notSynchronized Bd) (v := (some (.int (0 : Int32)))) (fun h => by rw [Bd.returns] at h; cases h) ?_ (by decide) (by decide) (fun fs hr => X0.ireturnOut hx Bd.returns rfl (by simp) (hb hby own_d4_50) hr)
          show own_Q4 Z q0 q1  h0 n0 (some (.int (0 : Int32))) s₁.heap _
          rw [e0]
          refine ⟨?_, N0, rfl⟩
          simp only [own_exp, if_pos h1, if_neg h2, if_pos h3, if_pos h4]
          try simp
        · refine own_step (fun _ k => XS.ifNo X0.here hx rfl (hb hby own_d4_42) rfl ((if0 _ _).trans (feq (fun q => h4 ((lw_eq _ _).mp q))).1) k) ?_
          show own_Ends _ _ _ _ _ _ _ (s₁.setTop (mkF m 45 #[.val (.long q0), .second, .val (.long q1), .second, .val (.long (q0 / (1000000 : Int64))), .second, .val (.long (q0 - (q0 / (1000000 : Int64)) * (1000000 : Int64))), .second] []))
          refine own_step (fun _ k => XS.iconst X0.here hx rfl (hb hby own_d4_45) k) ?_
          show own_Ends _ _ _ _ _ _ _ (s₁.setTop (mkF m 46 #[.val (.long q0), .second, .val (.long q1), .second, .val (.long (q0 / (1000000 : Int64))), .second, .val (.long (q0 - (q0 / (1000000 : Int64)) * (1000000 : Int64))), .second] [(.int (1 : Int32))]))
          refine own_step (fun _ k => XS.goto X0.here hx rfl (pc0 := 46) (pc' := 50) rfl (hb hby own_d4_46) (by decide) (by decide) k) ?_
          show own_Ends _ _ _ _ _ _ _ (s₁.setTop (mkF m 50 #[.val (.long q0), .second, .val (.long q1), .second, .val (.long (q0 / (1000000 : Int64))), .second, .val (.long (q0 - (q0 / (1000000 : Int64)) * (1000000 : Int64))), .second] [(.int (1 : Int32))]))
          refine own_ret X0 (BodyLoose.notSynchronized Bd) (v := (some (.int (1 : Int32)))) (fun h => by rw [Bd.returns] at h; cases h) ?_ (by decide) (by decide) (fun fs hr => X0.ireturnOut hx Bd.returns rfl (by simp) (hb hby own_d4_50) hr)
          show own_Q4 Z q0 q1  h0 n0 (some (.int (1 : Int32))) s₁.heap _
          rw [e0]
          refine ⟨?_, N0, rfl⟩
          simp only [own_exp, if_pos h1, if_neg h2, if_pos h3, if_neg h4]
          try simp
      · refine own_step (fun _ k => XS.ifYes X0.here hx rfl (pc0 := 35) (pc' := 51) rfl (hb hby own_d4_35) rfl ((if0 _ _).trans (feq (fun q => h3 ((lw_eq _ _).mp q))).2) (by decide) (by decide) k) ?_
        show own_Ends _ _ _ _ _ _ _ (s₁.setTop (mkF m 51 #[.val (.long q0), .second, .val (.long q1), .second, .val (.long (q0 / (1000000 : Int64))), .second, .val (.long (q0 - (q0 / (1000000 : Int64)) * (1000000 : Int64))), .second] []))
        refine own_step (fun _ k => XS.iconst X0.here hx rfl (hb hby own_d4_51) k) ?_
        show own_Ends _ _ _ _ _ _ _ (s₁.setTop (mkF m 52 #[.val (.long q0), .second, .val (.long q1), .second, .val (.long (q0 / (1000000 : Int64))), .second, .val (.long (q0 - (q0 / (1000000 : Int64)) * (1000000 : Int64))), .second] [(.int (0 : Int32))]))
        refine own_ret X0 (BodyLoose.notSynchronized Bd) (v := (some (.int (0 : Int32)))) (fun h => by rw [Bd.returns] at h; cases h) ?_ (by decide) (by decide) (fun fs hr => X0.ireturnOut hx Bd.returns rfl (by simp) (hb hby own_d4_52) hr)
        show own_Q4 Z q0 q1  h0 n0 (some (.int (0 : Int32))) s₁.heap _
        rw [e0]
        refine ⟨?_, N0, rfl⟩
        simp only [own_exp, if_pos h1, if_neg h2, if_neg h3]
        try simp
  · refine own_step (fun _ k => XS.ifNo X0.here hx rfl (hb hby own_d4_3) rfl ((if0 _ _).trans (flt (fun q => h1 ((lw_gt _ _).mp q))).2.2.1) k) ?_
    show own_Ends _ _ _ _ _ _ _ (s₁.setTop (mkF m 6 #[.val (.long q0), .second, .val (.long q1), .second, .unset, .unset, .unset, .unset] []))
    refine own_step (fun _ k => XS.iconst X0.here hx rfl (hb hby own_d4_6) k) ?_
    show own_Ends _ _ _ _ _ _ _ (s₁.setTop (mkF m 7 #[.val (.long q0), .second, .val (.long q1), .second, .unset, .unset, .unset, .unset] [(.int (0 : Int32))]))
    refine own_ret X0 (BodyLoose.notSynchronized Bd) (v := (some (.int (0 : Int32)))) (fun h => by rw [Bd.returns] at h; cases h) ?_ (by decide) (by decide) (fun fs hr => X0.ireturnOut hx Bd.returns rfl (by simp) (hb hby own_d4_7) hr)
    show own_Q4 Z q0 q1  h0 n0 (some (.int (0 : Int32))) s₁.heap _
    rw [e0]
    refine ⟨?_, N0, rfl⟩
    simp only [own_exp, if_neg h1]
    try simp
theorem own_ef0 (m : MethodId) (q0 : Int64) (q1 : Int64) (q2 : Int64) (q3 : Int64) (p4 : Int32) : entryFrame m #[(.long q0), (.long q1), (.long q2), (.long q3), (.int p4)] maxLocals = mkF m 0 #[.val (.long q0), .second, .val (.long q1), .second, .val (.long q2), .second, .val (.long q3), .second, .val (.int p4), .unset, .unset, .unset, .unset, .unset, .unset, .unset, .unset, .unset, .unset] [] := by first | (simp [entryFrame, mkF, argsToLocals, Value.category, maxLocals]; done) | rfl
theorem own_pd1 : parseMethodDescriptor "(J)V" = some ⟨[.long], none⟩ := by decide +kernel
theorem own_pd2 : parseMethodDescriptor "(JJJ)Z" = some ⟨[.long, .long, .long], some .boolean⟩ := by decide +kernel
theorem own_pd3 : parseMethodDescriptor "(JJ)Z" = some ⟨[.long, .long], some .boolean⟩ := by decide +kernel
def own_Q0 (Z : State) (q0 : Int64) (q1 : Int64) (q2 : Int64) (q3 : Int64) (p4 : Int32)  (h0 : Heap) (n0 : Nat) (v : Option Value) (h : Heap) (L : List Loc) : Prop := v = some (.int 1) ∧ Fr n0 L
set_option maxRecDepth 65536 in
set_option maxHeartbeats 40000000 in
theorem own_rm0 (l : Launch) (Z : State) (a0 : Array Value) (hw : ∀ d ∈ tables_1, d.before a0 Z = true) (ws : List Jvm.Cond) (q0 : Int64) (q1 : Int64) (q2 : Int64) (q3 : Int64) (p4 : Int32)  (h0 : Heap) (n0 : Nat) (Z0 : n0 ≤ h0.size)  :
    MetFree l x (head1 (Jvm.Cond.code x code maxLocals ret :: ws) room_1) (fun a U => a = #[(.long q0), (.long q1), (.long q2), (.long q3), (.int p4)] ∧ Z.Warmed39 U.vm ∧ U.heap = h0) (fun _ _ _ _ _ => True) (fun _ U o U' => ∃ v L, o = .returned v ∧ own_Q0 Z q0 q1 q2 q3 p4  h0 n0 v U'.heap L ∧ FrameEnd U o U' L 1 1) := by
  refine MetFree.of_bodySF (plainFor_of_name own_pn2) hisR ?_
  intro p e s m args below meth c s₁ Bd hml0 hP hK
  obtain ⟨rfl, hZ, hh⟩ := hP
  have hx := Bd.exec
  have hby := Bd.bytes
  have hml : c.maxLocals = 19 := hml0
  have hown : s.vm.findClass "com/example/even_column/evencolumn/core/MaxAgeDropsPinLaw" = some m.cls := findClass_of_methodNamed Bd.named
  have hnm := (name_of_methodNamed Bd.named Bd.method).1
  have X0 : Stand p l e room_1 s m #[(.long q0), (.long q1), (.long q2), (.long q3), (.int p4)] below meth c s₁ [] 0 0 := Stand.of_body Bd
  have e0 : s₁.heap = h0 := by rw [← hh, Bd.state]; rfl
  have N0 := Fr.nil n0
  suffices H : own_Ends p e below s 1 1 (own_Q0 Z q0 q1 q2 q3 p4  h0 n0) (s₁.setTop (mkF m 0 #[.val (.long q0), .second, .val (.long q1), .second, .val (.long q2), .second, .val (.long q3), .second, .val (.int p4), .unset, .unset, .unset, .unset, .unset, .unset, .unset, .unset, .unset, .unset] [])) by
    obtain ⟨s₂, o, h1, h2⟩ := H
    exact ⟨s₂, o, castTop (own_ef0 m q0 q1 q2 q3 p4) h1, h2⟩
  show own_Ends _ _ _ _ _ _ _ (s₁.setTop (mkF m 0 #[.val (.long q0), .second, .val (.long q1), .second, .val (.long q2), .second, .val (.long q3), .second, .val (.int p4), .unset, .unset, .unset, .unset, .unset, .unset, .unset, .unset, .unset, .unset] []))
  refine own_step (fun _ k => XS.lconst X0.here hx rfl (hb hby at_0) k) ?_
  show own_Ends _ _ _ _ _ _ _ (s₁.setTop (mkF m 1 #[.val (.long q0), .second, .val (.long q1), .second, .val (.long q2), .second, .val (.long q3), .second, .val (.int p4), .unset, .unset, .unset, .unset, .unset, .unset, .unset, .unset, .unset, .unset] [(.long (1 : Int64))]))
  refine own_step (fun _ k => XS.lloadN X0.here hx rfl (hb hby at_1) rfl k) ?_
  show own_Ends _ _ _ _ _ _ _ (s₁.setTop (mkF m 2 #[.val (.long q0), .second, .val (.long q1), .second, .val (.long q2), .second, .val (.long q3), .second, .val (.int p4), .unset, .unset, .unset, .unset, .unset, .unset, .unset, .unset, .unset, .unset] [(.long q0), (.long (1 : Int64))]))
  refine own_step (fun _ k => X0.ldc2Long hx hown (mvT hZ (hw _ (List.mem_of_getElem? (i := 0) rfl))) (g := (mkF m 2 #[.val (.long q0), .second, .val (.long q1), .second, .val (.long q2), .second, .val (.long q3), .second, .val (.int p4), .unset, .unset, .unset, .unset, .unset, .unset, .unset, .unset, .unset, .unset] [(.long q0), (.long (1 : Int64))])) rfl (hb hby at_2) _ k) ?_
  show own_Ends _ _ _ _ _ _ _ (s₁.setTop (mkF m 5 #[.val (.long q0), .second, .val (.long q1), .second, .val (.long q2), .second, .val (.long q3), .second, .val (.int p4), .unset, .unset, .unset, .unset, .unset, .unset, .unset, .unset, .unset, .unset] [(.long (9223372036854775807 : Int64)), (.long q0), (.long (1 : Int64))]))
  refine own_step (fun _ k => XS.land X0.here hx rfl (hb hby at_5) rfl k) ?_
  show own_Ends _ _ _ _ _ _ _ (s₁.setTop (mkF m 6 #[.val (.long q0), .second, .val (.long q1), .second, .val (.long q2), .second, .val (.long q3), .second, .val (.int p4), .unset, .unset, .unset, .unset, .unset, .unset, .unset, .unset, .unset, .unset] [(.long (q0 &&& (9223372036854775807 : Int64))), (.long (1 : Int64))]))
  refine own_step (fun _ k => X0.ldc2Long hx hown (mvT hZ (hw _ (List.mem_of_getElem? (i := 1) rfl))) (g := (mkF m 6 #[.val (.long q0), .second, .val (.long q1), .second, .val (.long q2), .second, .val (.long q3), .second, .val (.int p4), .unset, .unset, .unset, .unset, .unset, .unset, .unset, .unset, .unset, .unset] [(.long (q0 &&& (9223372036854775807 : Int64))), (.long (1 : Int64))])) rfl (hb hby at_6) _ k) ?_
  show own_Ends _ _ _ _ _ _ _ (s₁.setTop (mkF m 9 #[.val (.long q0), .second, .val (.long q1), .second, .val (.long q2), .second, .val (.long q3), .second, .val (.int p4), .unset, .unset, .unset, .unset, .unset, .unset, .unset, .unset, .unset, .unset] [(.long (9223372036854 : Int64)), (.long (q0 &&& (9223372036854775807 : Int64))), (.long (1 : Int64))]))
  refine own_step (fun _ k => XS.lrem X0.here hx rfl (hb hby at_9) rfl (by decide) k) ?_
  show own_Ends _ _ _ _ _ _ _ (s₁.setTop (mkF m 10 #[.val (.long q0), .second, .val (.long q1), .second, .val (.long q2), .second, .val (.long q3), .second, .val (.int p4), .unset, .unset, .unset, .unset, .unset, .unset, .unset, .unset, .unset, .unset] [(.long ((q0 &&& (9223372036854775807 : Int64)) - ((q0 &&& (9223372036854775807 : Int64)) / (9223372036854 : Int64)) * (9223372036854 : Int64))), (.long (1 : Int64))]))
  refine own_step (fun _ k => XS.ladd X0.here hx rfl (hb hby at_10) rfl k) ?_
  show own_Ends _ _ _ _ _ _ _ (s₁.setTop (mkF m 11 #[.val (.long q0), .second, .val (.long q1), .second, .val (.long q2), .second, .val (.long q3), .second, .val (.int p4), .unset, .unset, .unset, .unset, .unset, .unset, .unset, .unset, .unset, .unset] [(.long ((1 : Int64) + ((q0 &&& (9223372036854775807 : Int64)) - ((q0 &&& (9223372036854775807 : Int64)) / (9223372036854 : Int64)) * (9223372036854 : Int64))))]))
  obtain ⟨hA, hB⟩ := own_sec q0
  generalize ((1 : Int64) + ((q0 &&& (9223372036854775807 : Int64)) - ((q0 &&& (9223372036854775807 : Int64)) / (9223372036854 : Int64)) * (9223372036854 : Int64))) = sec at hA hB ⊢
  refine own_step (fun _ k => XS.lstore X0.here hx rfl (hb hby at_11) rfl (l' := #[.val (.long q0), .second, .val (.long q1), .second, .val (.long q2), .second, .val (.long q3), .second, .val (.int p4), .val (.long sec), .second, .unset, .unset, .unset, .unset, .unset, .unset, .unset, .unset]) rfl k) ?_
  show own_Ends _ _ _ _ _ _ _ (s₁.setTop (mkF m 13 #[.val (.long q0), .second, .val (.long q1), .second, .val (.long q2), .second, .val (.long q3), .second, .val (.int p4), .val (.long sec), .second, .unset, .unset, .unset, .unset, .unset, .unset, .unset, .unset] []))
  refine own_step (fun _ k => XS.lload X0.here hx rfl (hb hby at_13) rfl k) ?_
  show own_Ends _ _ _ _ _ _ _ (s₁.setTop (mkF m 15 #[.val (.long q0), .second, .val (.long q1), .second, .val (.long q2), .second, .val (.long q3), .second, .val (.int p4), .val (.long sec), .second, .unset, .unset, .unset, .unset, .unset, .unset, .unset, .unset] [(.long sec)]))
  refine own_step (fun _ k => X0.ldc2Long hx hown (mvT hZ (hw _ (List.mem_of_getElem? (i := 2) rfl))) (g := (mkF m 15 #[.val (.long q0), .second, .val (.long q1), .second, .val (.long q2), .second, .val (.long q3), .second, .val (.int p4), .val (.long sec), .second, .unset, .unset, .unset, .unset, .unset, .unset, .unset, .unset] [(.long sec)])) rfl (hb hby at_15) _ k) ?_
  show own_Ends _ _ _ _ _ _ _ (s₁.setTop (mkF m 18 #[.val (.long q0), .second, .val (.long q1), .second, .val (.long q2), .second, .val (.long q3), .second, .val (.int p4), .val (.long sec), .second, .unset, .unset, .unset, .unset, .unset, .unset, .unset, .unset] [(.long (1000000 : Int64)), (.long sec)]))
  refine own_step (fun _ k => XS.lmul X0.here hx rfl (hb hby at_18) rfl k) ?_
  show own_Ends _ _ _ _ _ _ _ (s₁.setTop (mkF m 19 #[.val (.long q0), .second, .val (.long q1), .second, .val (.long q2), .second, .val (.long q3), .second, .val (.int p4), .val (.long sec), .second, .unset, .unset, .unset, .unset, .unset, .unset, .unset, .unset] [(.long (sec * (1000000 : Int64)))]))
  refine own_step (fun _ k => XS.lstore X0.here hx rfl (hb hby at_19) rfl (l' := #[.val (.long q0), .second, .val (.long q1), .second, .val (.long q2), .second, .val (.long q3), .second, .val (.int p4), .val (.long sec), .second, .val (.long (sec * (1000000 : Int64))), .second, .unset, .unset, .unset, .unset, .unset, .unset]) rfl k) ?_
  show own_Ends _ _ _ _ _ _ _ (s₁.setTop (mkF m 21 #[.val (.long q0), .second, .val (.long q1), .second, .val (.long q2), .second, .val (.long q3), .second, .val (.int p4), .val (.long sec), .second, .val (.long (sec * (1000000 : Int64))), .second, .unset, .unset, .unset, .unset, .unset, .unset] []))
  refine own_step (fun _ k => XS.iload X0.here hx rfl (hb hby at_21) rfl k) ?_
  show own_Ends _ _ _ _ _ _ _ (s₁.setTop (mkF m 23 #[.val (.long q0), .second, .val (.long q1), .second, .val (.long q2), .second, .val (.long q3), .second, .val (.int p4), .val (.long sec), .second, .val (.long (sec * (1000000 : Int64))), .second, .unset, .unset, .unset, .unset, .unset, .unset] [(.int p4)]))
  refine own_step (fun _ k => XS.iconst X0.here hx rfl (hb hby at_23) k) ?_
  show own_Ends _ _ _ _ _ _ _ (s₁.setTop (mkF m 24 #[.val (.long q0), .second, .val (.long q1), .second, .val (.long q2), .second, .val (.long q3), .second, .val (.int p4), .val (.long sec), .second, .val (.long (sec * (1000000 : Int64))), .second, .unset, .unset, .unset, .unset, .unset, .unset] [(.int (1 : Int32)), (.int p4)]))
  refine own_step (fun _ k => XS.iand X0.here hx rfl (hb hby at_24) rfl k) ?_
  show own_Ends _ _ _ _ _ _ _ (s₁.setTop (mkF m 25 #[.val (.long q0), .second, .val (.long q1), .second, .val (.long q2), .second, .val (.long q3), .second, .val (.int p4), .val (.long sec), .second, .val (.long (sec * (1000000 : Int64))), .second, .unset, .unset, .unset, .unset, .unset, .unset] [(.int (p4 &&& (1 : Int32)))]))
  by_cases h1 : (p4 &&& (1 : Int32)) = (0 : Int32)
  · refine own_step (fun _ k => XS.ifYes X0.here hx rfl (pc0 := 25) (pc' := 63) rfl (hb hby at_25) rfl ((if0 _ _).trans (teq h1).1) (by decide) (by decide) k) ?_
    show own_Ends _ _ _ _ _ _ _ (s₁.setTop (mkF m 63 #[.val (.long q0), .second, .val (.long q1), .second, .val (.long q2), .second, .val (.long q3), .second, .val (.int p4), .val (.long sec), .second, .val (.long (sec * (1000000 : Int64))), .second, .unset, .unset, .unset, .unset, .unset, .unset] []))
    refine own_step (fun _ k => XS.lload X0.here hx rfl (hb hby at_63) rfl k) ?_
    show own_Ends _ _ _ _ _ _ _ (s₁.setTop (mkF m 65 #[.val (.long q0), .second, .val (.long q1), .second, .val (.long q2), .second, .val (.long q3), .second, .val (.int p4), .val (.long sec), .second, .val (.long (sec * (1000000 : Int64))), .second, .unset, .unset, .unset, .unset, .unset, .unset] [(.long q2)]))
    refine own_step (fun _ k => XS.iconst X0.here hx rfl (hb hby at_65) k) ?_
    show own_Ends _ _ _ _ _ _ _ (s₁.setTop (mkF m 66 #[.val (.long q0), .second, .val (.long q1), .second, .val (.long q2), .second, .val (.long q3), .second, .val (.int p4), .val (.long sec), .second, .val (.long (sec * (1000000 : Int64))), .second, .unset, .unset, .unset, .unset, .unset, .unset] [(.int (2 : Int32)), (.long q2)]))
    refine own_step (fun _ k => XT.lshr X0.here hx rfl (hb hby at_66) rfl k) ?_
    show own_Ends _ _ _ _ _ _ _ (s₁.setTop (mkF m 67 #[.val (.long q0), .second, .val (.long q1), .second, .val (.long q2), .second, .val (.long q3), .second, .val (.int p4), .val (.long sec), .second, .val (.long (sec * (1000000 : Int64))), .second, .unset, .unset, .unset, .unset, .unset, .unset] [(.long (q2 >>> (((2 : Int32)).toInt64 &&& 63)))]))
    generalize hnow : (q2 >>> (((2 : Int32)).toInt64 &&& 63)) = now
    refine own_step (fun _ k => XS.lstore X0.here hx rfl (hb hby at_67) rfl (l' := #[.val (.long q0), .second, .val (.long q1), .second, .val (.long q2), .second, .val (.long q3), .second, .val (.int p4), .val (.long sec), .second, .val (.long (sec * (1000000 : Int64))), .second, .val (.long now), .second, .unset, .unset, .unset, .unset]) rfl k) ?_
    show own_Ends _ _ _ _ _ _ _ (s₁.setTop (mkF m 69 #[.val (.long q0), .second, .val (.long q1), .second, .val (.long q2), .second, .val (.long q3), .second, .val (.int p4), .val (.long sec), .second, .val (.long (sec * (1000000 : Int64))), .second, .val (.long now), .second, .unset, .unset, .unset, .unset] []))
    refine own_step (fun _ k => XS.lload X0.here hx rfl (hb hby at_69) rfl k) ?_
    show own_Ends _ _ _ _ _ _ _ (s₁.setTop (mkF m 71 #[.val (.long q0), .second, .val (.long q1), .second, .val (.long q2), .second, .val (.long q3), .second, .val (.int p4), .val (.long sec), .second, .val (.long (sec * (1000000 : Int64))), .second, .val (.long now), .second, .unset, .unset, .unset, .unset] [(.long q3)]))
    refine own_step (fun _ k => XS.iconst X0.here hx rfl (hb hby at_71) k) ?_
    show own_Ends _ _ _ _ _ _ _ (s₁.setTop (mkF m 72 #[.val (.long q0), .second, .val (.long q1), .second, .val (.long q2), .second, .val (.long q3), .second, .val (.int p4), .val (.long sec), .second, .val (.long (sec * (1000000 : Int64))), .second, .val (.long now), .second, .unset, .unset, .unset, .unset] [(.int (2 : Int32)), (.long q3)]))
    refine own_step (fun _ k => XT.lshr X0.here hx rfl (hb hby at_72) rfl k) ?_
    show own_Ends _ _ _ _ _ _ _ (s₁.setTop (mkF m 73 #[.val (.long q0), .second, .val (.long q1), .second, .val (.long q2), .second, .val (.long q3), .second, .val (.int p4), .val (.long sec), .second, .val (.long (sec * (1000000 : Int64))), .second, .val (.long now), .second, .unset, .unset, .unset, .unset] [(.long (q3 >>> (((2 : Int32)).toInt64 &&& 63)))]))
    generalize hts : (q3 >>> (((2 : Int32)).toInt64 &&& 63)) = ts
    refine own_step (fun _ k => XS.lstore X0.here hx rfl (hb hby at_73) rfl (l' := #[.val (.long q0), .second, .val (.long q1), .second, .val (.long q2), .second, .val (.long q3), .second, .val (.int p4), .val (.long sec), .second, .val (.long (sec * (1000000 : Int64))), .second, .val (.long now), .second, .val (.long ts), .second, .unset, .unset]) rfl k) ?_
    show own_Ends _ _ _ _ _ _ _ (s₁.setTop (mkF m 75 #[.val (.long q0), .second, .val (.long q1), .second, .val (.long q2), .second, .val (.long q3), .second, .val (.int p4), .val (.long sec), .second, .val (.long (sec * (1000000 : Int64))), .second, .val (.long now), .second, .val (.long ts), .second, .unset, .unset] []))
    obtain ⟨T5, h5, X5, e5, E5, A5, D5, -, st5⟩ := newO X0 hx hZ hown (hw _ (List.mem_of_getElem? (i := 6) rfl)) (hw _ (List.mem_of_getElem? (i := 7) rfl)) (hw _ (List.mem_of_getElem? (i := 8) rfl)) e0 (g := (mkF m 75 #[.val (.long q0), .second, .val (.long q1), .second, .val (.long q2), .second, .val (.long q3), .second, .val (.int p4), .val (.long sec), .second, .val (.long (sec * (1000000 : Int64))), .second, .val (.long now), .second, .val (.long ts), .second, .unset, .unset] [])) rfl (hb hby at_75) (by decide) (by decide)
    obtain ⟨b5, g5⟩ : ∃ z, z = h0.size := ⟨_, rfl⟩
    rw [← g5] at A5 D5 st5
    have gn5 : n0 ≤ b5 := Nat.le_trans Z0 (Nat.le_of_eq g5.symm)
    have Z5 := Nat.le_trans Z0 E5.1
    have F5_b5_seconds : Fld Z h5 b5 "com/example/even_column/evencolumn/core/RetentionRule$MaxAge" "seconds" "J" (.long (0 : Int64)) := D5 (Or.inr (hw _ (List.mem_of_getElem? (i := 22) rfl))) (ty := .long) (by decide)
    refine own_step (fun _ k => st5 _ k) ?_
    show own_Ends _ _ _ _ _ _ _ (T5.setTop (mkF m 78 #[.val (.long q0), .second, .val (.long q1), .second, .val (.long q2), .second, .val (.long q3), .second, .val (.int p4), .val (.long sec), .second, .val (.long (sec * (1000000 : Int64))), .second, .val (.long now), .second, .val (.long ts), .second, .unset, .unset] [(.ref b5)]))
    refine own_step (fun _ k => XS.dup X5.here hx rfl (hb hby at_78) rfl rfl k) ?_
    show own_Ends _ _ _ _ _ _ _ (T5.setTop (mkF m 79 #[.val (.long q0), .second, .val (.long q1), .second, .val (.long q2), .second, .val (.long q3), .second, .val (.int p4), .val (.long sec), .second, .val (.long (sec * (1000000 : Int64))), .second, .val (.long now), .second, .val (.long ts), .second, .unset, .unset] [(.ref b5), (.ref b5)]))
    refine own_step (fun _ k => XS.lload X5.here hx rfl (hb hby at_79) rfl k) ?_
    show own_Ends _ _ _ _ _ _ _ (T5.setTop (mkF m 81 #[.val (.long q0), .second, .val (.long q1), .second, .val (.long q2), .second, .val (.long q3), .second, .val (.int p4), .val (.long sec), .second, .val (.long (sec * (1000000 : Int64))), .second, .val (.long now), .second, .val (.long ts), .second, .unset, .unset] [(.long sec), (.ref b5), (.ref b5)]))
    obtain ⟨_, _, ⟨T6, L6, k6, n6⟩, -, X6, ⟨Lc6, hQ6, l6, y6, z6⟩, st6⟩ := X5.specialBack hx (y := (⟨"com/example/even_column/evencolumn/core/RetentionRule$MaxAge", "<init>", "(J)V"⟩ : MethodName)) rfl hown (mvT hZ (hw _ (List.mem_of_getElem? (i := 9) rfl))) (mvT hZ (hw _ (List.mem_of_getElem? (i := 10) rfl))) (mvT hZ (hw _ (List.mem_of_getElem? (i := 11) rfl))) (by decide) (backOf (W := 1) (own_rm2 l Z a0 hw [] b5 sec  h5 n0 Z5 F5_b5_seconds A5 gn5 hA hB) hZ (hw _ (List.mem_of_getElem? (i := 11) rfl)) (hw _ (List.mem_of_getElem? (i := 8) rfl)) (by decide) (by decide)) (g := (mkF m 81 #[.val (.long q0), .second, .val (.long q1), .second, .val (.long q2), .second, .val (.long q3), .second, .val (.int p4), .val (.long sec), .second, .val (.long (sec * (1000000 : Int64))), .second, .val (.long now), .second, .val (.long ts), .second, .unset, .unset] [(.long sec), (.ref b5), (.ref b5)])) rfl (by rw [hml]; rfl) (Steps.refl _) (a := b5) (argsL := [(.long sec)]) (rest := [(.ref b5)]) (lenOf own_pd1 rfl) rfl (by show 2 * 0 + _ ≤ _; exact Nat.le_of_eq rfl) (hb hby at_81) (fun _ _ => ⟨rfl, e5, (by decide : 1 + 0 ≤ _), (by decide : 1 + 0 ≤ _)⟩)
    dsimp only [Pt.U, Pt.locs, Pt.cells, Pt.slots] at X6 l6 y6 z6 st6 hQ6
    subst l6 y6 z6
    obtain ⟨rfl, Nq6, K6, A6, G0_6⟩ := hQ6
    have N6 := Fr.app N0 Nq6
    refine own_step (fun _ k => st6.trans k) ?_
    show own_Ends _ _ _ _ _ _ _ (T6.setTop (mkF m 84 #[.val (.long q0), .second, .val (.long q1), .second, .val (.long q2), .second, .val (.long q3), .second, .val (.int p4), .val (.long sec), .second, .val (.long (sec * (1000000 : Int64))), .second, .val (.long now), .second, .val (.long ts), .second, .unset, .unset] [(.ref b5)]))
    have Z6 := Nat.le_trans Z5 K6.1
    refine own_step (fun _ k => XS.astore X6.here hx rfl (hb hby at_84) rfl rfl (l' := #[.val (.long q0), .second, .val (.long q1), .second, .val (.long q2), .second, .val (.long q3), .second, .val (.int p4), .val (.long sec), .second, .val (.long (sec * (1000000 : Int64))), .second, .val (.long now), .second, .val (.long ts), .second, .val (.ref b5), .unset]) rfl k) ?_
    show own_Ends _ _ _ _ _ _ _ (T6.setTop (mkF m 86 #[.val (.long q0), .second, .val (.long q1), .second, .val (.long q2), .second, .val (.long q3), .second, .val (.int p4), .val (.long sec), .second, .val (.long (sec * (1000000 : Int64))), .second, .val (.long now), .second, .val (.long ts), .second, .val (.ref b5), .unset] []))
    refine own_step (fun _ k => XS.aload X6.here hx rfl (hb hby at_86) rfl rfl k) ?_
    show own_Ends _ _ _ _ _ _ _ (T6.setTop (mkF m 88 #[.val (.long q0), .second, .val (.long q1), .second, .val (.long q2), .second, .val (.long q3), .second, .val (.int p4), .val (.long sec), .second, .val (.long (sec * (1000000 : Int64))), .second, .val (.long now), .second, .val (.long ts), .second, .val (.ref b5), .unset] [(.ref b5)]))
    refine own_step (fun _ k => XS.lloadN X6.here hx rfl (hb hby at_88) rfl k) ?_
    show own_Ends _ _ _ _ _ _ _ (T6.setTop (mkF m 89 #[.val (.long q0), .second, .val (.long q1), .second, .val (.long q2), .second, .val (.long q3), .second, .val (.int p4), .val (.long sec), .second, .val (.long (sec * (1000000 : Int64))), .second, .val (.long now), .second, .val (.long ts), .second, .val (.ref b5), .unset] [(.long q1), (.ref b5)]))
    refine own_step (fun _ k => XS.lload X6.here hx rfl (hb hby at_89) rfl k) ?_
    show own_Ends _ _ _ _ _ _ _ (T6.setTop (mkF m 91 #[.val (.long q0), .second, .val (.long q1), .second, .val (.long q2), .second, .val (.long q3), .second, .val (.int p4), .val (.long sec), .second, .val (.long (sec * (1000000 : Int64))), .second, .val (.long now), .second, .val (.long ts), .second, .val (.ref b5), .unset] [(.long ts), (.long q1), (.ref b5)]))
    refine own_step (fun _ k => XS.lload X6.here hx rfl (hb hby at_91) rfl k) ?_
    show own_Ends _ _ _ _ _ _ _ (T6.setTop (mkF m 93 #[.val (.long q0), .second, .val (.long q1), .second, .val (.long q2), .second, .val (.long q3), .second, .val (.int p4), .val (.long sec), .second, .val (.long (sec * (1000000 : Int64))), .second, .val (.long now), .second, .val (.long ts), .second, .val (.ref b5), .unset] [(.long now), (.long ts), (.long q1), (.ref b5)]))
    obtain ⟨cq7, kq7, qa7, qb7, qc7⟩ := isOf hZ rfl A6
    obtain ⟨_, _, ⟨T7, L7, k7, n7⟩, -, X7, ⟨Lc7, hQ7, l7, y7, z7⟩, st7⟩ := X6.virtualBack hx (y := (⟨"com/example/even_column/evencolumn/core/RetentionRule$MaxAge", "drops", "(JJJ)Z"⟩ : MethodName)) (z := (⟨"com/example/even_column/evencolumn/core/RetentionRule$MaxAge", "drops", "(JJJ)Z"⟩ : MethodName)) hown (mvT hZ (hw _ (List.mem_of_getElem? (i := 23) rfl))) (mvT hZ (hw _ (List.mem_of_getElem? (i := 24) rfl))) (notFace_of_selects (args := #[]) (mvT hZ (hw _ (List.mem_of_getElem? (i := 26) rfl)))) (mvT hZ (hw _ (List.mem_of_getElem? (i := 26) rfl))) (mvT hZ (hw _ (List.mem_of_getElem? (i := 25) rfl))) (by decide) (backOf (W := 0) (own_rm3 l Z a0 hw [] b5 q1 ts now sec T6.heap n0 Z6 G0_6) hZ (hw _ (List.mem_of_getElem? (i := 27) rfl)) (hw _ (List.mem_of_getElem? (i := 8) rfl)) (by decide) (by decide)) qa7 qc7 (g := (mkF m 93 #[.val (.long q0), .second, .val (.long q1), .second, .val (.long q2), .second, .val (.long q3), .second, .val (.int p4), .val (.long sec), .second, .val (.long (sec * (1000000 : Int64))), .second, .val (.long now), .second, .val (.long ts), .second, .val (.ref b5), .unset] [(.long now), (.long ts), (.long q1), (.ref b5)])) rfl (by rw [hml]; rfl) (Steps.refl _) (argsL := [(.long q1), (.long ts), (.long now)]) (rest := []) (lenOf own_pd2 rfl) rfl (by show 2 * 0 + _ ≤ _; exact Nat.le_of_eq rfl) (hb hby at_93) (fun _ _ => ⟨rfl, rfl, (by decide : 1 + 0 ≤ _), (by decide : 1 + 0 ≤ _)⟩)
    dsimp only [Pt.U, Pt.locs, Pt.cells, Pt.slots] at X7 l7 y7 z7 st7 hQ7
    subst l7 y7 z7
    obtain ⟨rfl, Nq7, e7⟩ := hQ7
    have N7 := Fr.app N6 Nq7
    refine own_step (fun _ k => st7.trans k) ?_
    show own_Ends _ _ _ _ _ _ _ (T7.setTop (mkF m 96 #[.val (.long q0), .second, .val (.long q1), .second, .val (.long q2), .second, .val (.long q3), .second, .val (.int p4), .val (.long sec), .second, .val (.long (sec * (1000000 : Int64))), .second, .val (.long now), .second, .val (.long ts), .second, .val (.ref b5), .unset] [(.int (own_drop (now - ts) sec))]))
    refine own_step (fun _ k => XS.istore X7.here hx rfl (hb hby at_96) rfl (l' := #[.val (.long q0), .second, .val (.long q1), .second, .val (.long q2), .second, .val (.long q3), .second, .val (.int p4), .val (.long sec), .second, .val (.long (sec * (1000000 : Int64))), .second, .val (.long now), .second, .val (.long ts), .second, .val (.ref b5), .val (.int (own_drop (now - ts) sec))]) rfl k) ?_
    show own_Ends _ _ _ _ _ _ _ (T7.setTop (mkF m 98 #[.val (.long q0), .second, .val (.long q1), .second, .val (.long q2), .second, .val (.long q3), .second, .val (.int p4), .val (.long sec), .second, .val (.long (sec * (1000000 : Int64))), .second, .val (.long now), .second, .val (.long ts), .second, .val (.ref b5), .val (.int (own_drop (now - ts) sec))] []))
    refine own_step (fun _ k => XS.iload X7.here hx rfl (hb hby at_98) rfl k) ?_
    show own_Ends _ _ _ _ _ _ _ (T7.setTop (mkF m 100 #[.val (.long q0), .second, .val (.long q1), .second, .val (.long q2), .second, .val (.long q3), .second, .val (.int p4), .val (.long sec), .second, .val (.long (sec * (1000000 : Int64))), .second, .val (.long now), .second, .val (.long ts), .second, .val (.ref b5), .val (.int (own_drop (now - ts) sec))] [(.int (own_drop (now - ts) sec))]))
    refine own_step (fun _ k => XS.lload X7.here hx rfl (hb hby at_100) rfl k) ?_
    show own_Ends _ _ _ _ _ _ _ (T7.setTop (mkF m 102 #[.val (.long q0), .second, .val (.long q1), .second, .val (.long q2), .second, .val (.long q3), .second, .val (.int p4), .val (.long sec), .second, .val (.long (sec * (1000000 : Int64))), .second, .val (.long now), .second, .val (.long ts), .second, .val (.ref b5), .val (.int (own_drop (now - ts) sec))] [(.long now), (.int (own_drop (now - ts) sec))]))
    refine own_step (fun _ k => XS.lload X7.here hx rfl (hb hby at_102) rfl k) ?_
    show own_Ends _ _ _ _ _ _ _ (T7.setTop (mkF m 104 #[.val (.long q0), .second, .val (.long q1), .second, .val (.long q2), .second, .val (.long q3), .second, .val (.int p4), .val (.long sec), .second, .val (.long (sec * (1000000 : Int64))), .second, .val (.long now), .second, .val (.long ts), .second, .val (.ref b5), .val (.int (own_drop (now - ts) sec))] [(.long ts), (.long now), (.int (own_drop (now - ts) sec))]))
    refine own_step (fun _ k => XS.lsub X7.here hx rfl (hb hby at_104) rfl k) ?_
    show own_Ends _ _ _ _ _ _ _ (T7.setTop (mkF m 105 #[.val (.long q0), .second, .val (.long q1), .second, .val (.long q2), .second, .val (.long q3), .second, .val (.int p4), .val (.long sec), .second, .val (.long (sec * (1000000 : Int64))), .second, .val (.long now), .second, .val (.long ts), .second, .val (.ref b5), .val (.int (own_drop (now - ts) sec))] [(.long (now - ts)), (.int (own_drop (now - ts) sec))]))
    refine own_step (fun _ k => XS.lload X7.here hx rfl (hb hby at_105) rfl k) ?_
    show own_Ends _ _ _ _ _ _ _ (T7.setTop (mkF m 107 #[.val (.long q0), .second, .val (.long q1), .second, .val (.long q2), .second, .val (.long q3), .second, .val (.int p4), .val (.long sec), .second, .val (.long (sec * (1000000 : Int64))), .second, .val (.long now), .second, .val (.long ts), .second, .val (.ref b5), .val (.int (own_drop (now - ts) sec))] [(.long sec), (.long (now - ts)), (.int (own_drop (now - ts) sec))]))
    obtain ⟨_, _, ⟨T8, L8, k8, n8⟩, -, X8, ⟨Lc8, hQ8, l8, y8, z8⟩, st8⟩ := Jvm.LawKit.callS X7 hx (y := (⟨"com/example/even_column/evencolumn/core/MaxAgeDropsPinLaw", "expected", "(JJ)Z"⟩ : MethodName)) hown (mvT hZ (hw _ (List.mem_of_getElem? (i := 29) rfl))) (mvT hZ (hw _ (List.mem_of_getElem? (i := 30) rfl))) (mvT hZ (hw _ (List.mem_of_getElem? (i := 31) rfl))) (mvT hZ (hw _ (List.mem_of_getElem? (i := 32) rfl))) (by decide) (backOf (W := 1) (own_rm4 l Z a0 hw [] (now - ts) sec  T6.heap n0 Z6 ) hZ (hw _ (List.mem_of_getElem? (i := 32) rfl)) (hw _ (List.mem_of_getElem? (i := 31) rfl)) (by decide) (by decide)) (g := (mkF m 107 #[.val (.long q0), .second, .val (.long q1), .second, .val (.long q2), .second, .val (.long q3), .second, .val (.int p4), .val (.long sec), .second, .val (.long (sec * (1000000 : Int64))), .second, .val (.long now), .second, .val (.long ts), .second, .val (.ref b5), .val (.int (own_drop (now - ts) sec))] [(.long sec), (.long (now - ts)), (.int (own_drop (now - ts) sec))])) rfl (by rw [hml]; rfl) (argsL := [(.long (now - ts)), (.long sec)]) (rest := [(.int (own_drop (now - ts) sec))]) (lenOf own_pd3 rfl) rfl (by show 2 * 0 + _ ≤ _; exact Nat.le_of_eq rfl) (hb hby at_107) (fun _ _ => ⟨rfl, e7, (by decide : 1 + 0 ≤ _), (by decide : 1 + 0 ≤ _)⟩)
    dsimp only [Pt.U, Pt.locs, Pt.cells, Pt.slots] at X8 l8 y8 z8 st8 hQ8
    subst l8 y8 z8
    obtain ⟨rfl, Nq8, e8⟩ := hQ8
    have N8 := Fr.app N7 Nq8
    refine own_step (fun _ k => st8 _ k) ?_
    show own_Ends _ _ _ _ _ _ _ (T8.setTop (mkF m 110 #[.val (.long q0), .second, .val (.long q1), .second, .val (.long q2), .second, .val (.long q3), .second, .val (.int p4), .val (.long sec), .second, .val (.long (sec * (1000000 : Int64))), .second, .val (.long now), .second, .val (.long ts), .second, .val (.ref b5), .val (.int (own_drop (now - ts) sec))] [(.int (own_exp (now - ts) sec)), (.int (own_drop (now - ts) sec))]))
    refine own_step (fun _ k => XS.icmpNo X8.here hx rfl (hb hby at_110) rfl (teq (own_same hA hB)).2 k) ?_
    show own_Ends _ _ _ _ _ _ _ (T8.setTop (mkF m 113 #[.val (.long q0), .second, .val (.long q1), .second, .val (.long q2), .second, .val (.long q3), .second, .val (.int p4), .val (.long sec), .second, .val (.long (sec * (1000000 : Int64))), .second, .val (.long now), .second, .val (.long ts), .second, .val (.ref b5), .val (.int (own_drop (now - ts) sec))] []))
    refine own_step (fun _ k => XS.iconst X8.here hx rfl (hb hby at_113) k) ?_
    show own_Ends _ _ _ _ _ _ _ (T8.setTop (mkF m 114 #[.val (.long q0), .second, .val (.long q1), .second, .val (.long q2), .second, .val (.long q3), .second, .val (.int p4), .val (.long sec), .second, .val (.long (sec * (1000000 : Int64))), .second, .val (.long now), .second, .val (.long ts), .second, .val (.ref b5), .val (.int (own_drop (now - ts) sec))] [(.int (1 : Int32))]))
    refine own_step (fun _ k => XS.goto X8.here hx rfl (pc0 := 114) (pc' := 118) rfl (hb hby at_114) (by decide) (by decide) k) ?_
    show own_Ends _ _ _ _ _ _ _ (T8.setTop (mkF m 118 #[.val (.long q0), .second, .val (.long q1), .second, .val (.long q2), .second, .val (.long q3), .second, .val (.int p4), .val (.long sec), .second, .val (.long (sec * (1000000 : Int64))), .second, .val (.long now), .second, .val (.long ts), .second, .val (.ref b5), .val (.int (own_drop (now - ts) sec))] [(.int (1 : Int32))]))
    refine own_ret X8 (BodyLoose.notSynchronized Bd) (v := (some (.int (1 : Int32)))) (fun h => by rw [Bd.returns] at h; cases h) ?_ (by decide) (by decide) (fun fs hr => X8.ireturnOut hx Bd.returns rfl (by simp) (hb hby at_118) hr)
    show own_Q0 Z q0 q1 q2 q3 p4  h0 n0 (some (.int (1 : Int32))) T8.heap _
    rw [e8]
    exact ⟨rfl, N8⟩
  · refine own_step (fun _ k => XS.ifNo X0.here hx rfl (hb hby at_25) rfl ((if0 _ _).trans (feq h1).1) k) ?_
    show own_Ends _ _ _ _ _ _ _ (s₁.setTop (mkF m 28 #[.val (.long q0), .second, .val (.long q1), .second, .val (.long q2), .second, .val (.long q3), .second, .val (.int p4), .val (.long sec), .second, .val (.long (sec * (1000000 : Int64))), .second, .unset, .unset, .unset, .unset, .unset, .unset] []))
    refine own_step (fun _ k => XS.lload X0.here hx rfl (hb hby at_28) rfl k) ?_
    show own_Ends _ _ _ _ _ _ _ (s₁.setTop (mkF m 30 #[.val (.long q0), .second, .val (.long q1), .second, .val (.long q2), .second, .val (.long q3), .second, .val (.int p4), .val (.long sec), .second, .val (.long (sec * (1000000 : Int64))), .second, .unset, .unset, .unset, .unset, .unset, .unset] [(.long q2)]))
    refine own_step (fun _ k => XS.iconst X0.here hx rfl (hb hby at_30) k) ?_
    show own_Ends _ _ _ _ _ _ _ (s₁.setTop (mkF m 31 #[.val (.long q0), .second, .val (.long q1), .second, .val (.long q2), .second, .val (.long q3), .second, .val (.int p4), .val (.long sec), .second, .val (.long (sec * (1000000 : Int64))), .second, .unset, .unset, .unset, .unset, .unset, .unset] [(.int (2 : Int32)), (.long q2)]))
    refine own_step (fun _ k => XT.lushr X0.here hx rfl (hb hby at_31) rfl k) ?_
    show own_Ends _ _ _ _ _ _ _ (s₁.setTop (mkF m 32 #[.val (.long q0), .second, .val (.long q1), .second, .val (.long q2), .second, .val (.long q3), .second, .val (.int p4), .val (.long sec), .second, .val (.long (sec * (1000000 : Int64))), .second, .unset, .unset, .unset, .unset, .unset, .unset] [(.long (XT.ushrL q2 (2 : Int32)))]))
    generalize hnow : (XT.ushrL q2 (2 : Int32)) = now
    refine own_step (fun _ k => XS.lstore X0.here hx rfl (hb hby at_32) rfl (l' := #[.val (.long q0), .second, .val (.long q1), .second, .val (.long q2), .second, .val (.long q3), .second, .val (.int p4), .val (.long sec), .second, .val (.long (sec * (1000000 : Int64))), .second, .val (.long now), .second, .unset, .unset, .unset, .unset]) rfl k) ?_
    show own_Ends _ _ _ _ _ _ _ (s₁.setTop (mkF m 34 #[.val (.long q0), .second, .val (.long q1), .second, .val (.long q2), .second, .val (.long q3), .second, .val (.int p4), .val (.long sec), .second, .val (.long (sec * (1000000 : Int64))), .second, .val (.long now), .second, .unset, .unset, .unset, .unset] []))
    refine own_step (fun _ k => XS.lload X0.here hx rfl (hb hby at_34) rfl k) ?_
    show own_Ends _ _ _ _ _ _ _ (s₁.setTop (mkF m 36 #[.val (.long q0), .second, .val (.long q1), .second, .val (.long q2), .second, .val (.long q3), .second, .val (.int p4), .val (.long sec), .second, .val (.long (sec * (1000000 : Int64))), .second, .val (.long now), .second, .unset, .unset, .unset, .unset] [(.long q3)]))
    refine own_step (fun _ k => X0.ldc2Long hx hown (mvT hZ (hw _ (List.mem_of_getElem? (i := 3) rfl))) (g := (mkF m 36 #[.val (.long q0), .second, .val (.long q1), .second, .val (.long q2), .second, .val (.long q3), .second, .val (.int p4), .val (.long sec), .second, .val (.long (sec * (1000000 : Int64))), .second, .val (.long now), .second, .unset, .unset, .unset, .unset] [(.long q3)])) rfl (hb hby at_36) _ k) ?_
    show own_Ends _ _ _ _ _ _ _ (s₁.setTop (mkF m 39 #[.val (.long q0), .second, .val (.long q1), .second, .val (.long q2), .second, .val (.long q3), .second, .val (.int p4), .val (.long sec), .second, .val (.long (sec * (1000000 : Int64))), .second, .val (.long now), .second, .unset, .unset, .unset, .unset] [(.long (7 : Int64)), (.long q3)]))
    refine own_step (fun _ k => XS.land X0.here hx rfl (hb hby at_39) rfl k) ?_
    show own_Ends _ _ _ _ _ _ _ (s₁.setTop (mkF m 40 #[.val (.long q0), .second, .val (.long q1), .second, .val (.long q2), .second, .val (.long q3), .second, .val (.int p4), .val (.long sec), .second, .val (.long (sec * (1000000 : Int64))), .second, .val (.long now), .second, .unset, .unset, .unset, .unset] [(.long (q3 &&& (7 : Int64)))]))
    refine own_step (fun _ k => X0.ldc2Long hx hown (mvT hZ (hw _ (List.mem_of_getElem? (i := 4) rfl))) (g := (mkF m 40 #[.val (.long q0), .second, .val (.long q1), .second, .val (.long q2), .second, .val (.long q3), .second, .val (.int p4), .val (.long sec), .second, .val (.long (sec * (1000000 : Int64))), .second, .val (.long now), .second, .unset, .unset, .unset, .unset] [(.long (q3 &&& (7 : Int64)))])) rfl (hb hby at_40) _ k) ?_
    show own_Ends _ _ _ _ _ _ _ (s₁.setTop (mkF m 43 #[.val (.long q0), .second, .val (.long q1), .second, .val (.long q2), .second, .val (.long q3), .second, .val (.int p4), .val (.long sec), .second, .val (.long (sec * (1000000 : Int64))), .second, .val (.long now), .second, .unset, .unset, .unset, .unset] [(.long (5 : Int64)), (.long (q3 &&& (7 : Int64)))]))
    refine own_step (fun _ k => XS.lrem X0.here hx rfl (hb hby at_43) rfl (by decide) k) ?_
    show own_Ends _ _ _ _ _ _ _ (s₁.setTop (mkF m 44 #[.val (.long q0), .second, .val (.long q1), .second, .val (.long q2), .second, .val (.long q3), .second, .val (.int p4), .val (.long sec), .second, .val (.long (sec * (1000000 : Int64))), .second, .val (.long now), .second, .unset, .unset, .unset, .unset] [(.long ((q3 &&& (7 : Int64)) - ((q3 &&& (7 : Int64)) / (5 : Int64)) * (5 : Int64)))]))
    refine own_step (fun _ k => X0.ldc2Long hx hown (mvT hZ (hw _ (List.mem_of_getElem? (i := 5) rfl))) (g := (mkF m 44 #[.val (.long q0), .second, .val (.long q1), .second, .val (.long q2), .second, .val (.long q3), .second, .val (.int p4), .val (.long sec), .second, .val (.long (sec * (1000000 : Int64))), .second, .val (.long now), .second, .unset, .unset, .unset, .unset] [(.long ((q3 &&& (7 : Int64)) - ((q3 &&& (7 : Int64)) / (5 : Int64)) * (5 : Int64)))])) rfl (hb hby at_44) _ k) ?_
    show own_Ends _ _ _ _ _ _ _ (s₁.setTop (mkF m 47 #[.val (.long q0), .second, .val (.long q1), .second, .val (.long q2), .second, .val (.long q3), .second, .val (.int p4), .val (.long sec), .second, .val (.long (sec * (1000000 : Int64))), .second, .val (.long now), .second, .unset, .unset, .unset, .unset] [(.long (2 : Int64)), (.long ((q3 &&& (7 : Int64)) - ((q3 &&& (7 : Int64)) / (5 : Int64)) * (5 : Int64)))]))
    refine own_step (fun _ k => XS.lsub X0.here hx rfl (hb hby at_47) rfl k) ?_
    show own_Ends _ _ _ _ _ _ _ (s₁.setTop (mkF m 48 #[.val (.long q0), .second, .val (.long q1), .second, .val (.long q2), .second, .val (.long q3), .second, .val (.int p4), .val (.long sec), .second, .val (.long (sec * (1000000 : Int64))), .second, .val (.long now), .second, .unset, .unset, .unset, .unset] [(.long (((q3 &&& (7 : Int64)) - ((q3 &&& (7 : Int64)) / (5 : Int64)) * (5 : Int64)) - (2 : Int64)))]))
    generalize hdd : (((q3 &&& (7 : Int64)) - ((q3 &&& (7 : Int64)) / (5 : Int64)) * (5 : Int64)) - (2 : Int64)) = dd
    refine own_step (fun _ k => XS.lstore X0.here hx rfl (hb hby at_48) rfl (l' := #[.val (.long q0), .second, .val (.long q1), .second, .val (.long q2), .second, .val (.long q3), .second, .val (.int p4), .val (.long sec), .second, .val (.long (sec * (1000000 : Int64))), .second, .val (.long now), .second, .unset, .unset, .val (.long dd), .second]) rfl k) ?_
    show own_Ends _ _ _ _ _ _ _ (s₁.setTop (mkF m 50 #[.val (.long q0), .second, .val (.long q1), .second, .val (.long q2), .second, .val (.long q3), .second, .val (.int p4), .val (.long sec), .second, .val (.long (sec * (1000000 : Int64))), .second, .val (.long now), .second, .unset, .unset, .val (.long dd), .second] []))
    refine own_step (fun _ k => XS.lload X0.here hx rfl (hb hby at_50) rfl k) ?_
    show own_Ends _ _ _ _ _ _ _ (s₁.setTop (mkF m 52 #[.val (.long q0), .second, .val (.long q1), .second, .val (.long q2), .second, .val (.long q3), .second, .val (.int p4), .val (.long sec), .second, .val (.long (sec * (1000000 : Int64))), .second, .val (.long now), .second, .unset, .unset, .val (.long dd), .second] [(.long now)]))
    refine own_step (fun _ k => XS.lload X0.here hx rfl (hb hby at_52) rfl k) ?_
    show own_Ends _ _ _ _ _ _ _ (s₁.setTop (mkF m 54 #[.val (.long q0), .second, .val (.long q1), .second, .val (.long q2), .second, .val (.long q3), .second, .val (.int p4), .val (.long sec), .second, .val (.long (sec * (1000000 : Int64))), .second, .val (.long now), .second, .unset, .unset, .val (.long dd), .second] [(.long (sec * (1000000 : Int64))), (.long now)]))
    refine own_step (fun _ k => XS.lload X0.here hx rfl (hb hby at_54) rfl k) ?_
    show own_Ends _ _ _ _ _ _ _ (s₁.setTop (mkF m 56 #[.val (.long q0), .second, .val (.long q1), .second, .val (.long q2), .second, .val (.long q3), .second, .val (.int p4), .val (.long sec), .second, .val (.long (sec * (1000000 : Int64))), .second, .val (.long now), .second, .unset, .unset, .val (.long dd), .second] [(.long dd), (.long (sec * (1000000 : Int64))), (.long now)]))
    refine own_step (fun _ k => XS.ladd X0.here hx rfl (hb hby at_56) rfl k) ?_
    show own_Ends _ _ _ _ _ _ _ (s₁.setTop (mkF m 57 #[.val (.long q0), .second, .val (.long q1), .second, .val (.long q2), .second, .val (.long q3), .second, .val (.int p4), .val (.long sec), .second, .val (.long (sec * (1000000 : Int64))), .second, .val (.long now), .second, .unset, .unset, .val (.long dd), .second] [(.long ((sec * (1000000 : Int64)) + dd)), (.long now)]))
    refine own_step (fun _ k => XS.lsub X0.here hx rfl (hb hby at_57) rfl k) ?_
    show own_Ends _ _ _ _ _ _ _ (s₁.setTop (mkF m 58 #[.val (.long q0), .second, .val (.long q1), .second, .val (.long q2), .second, .val (.long q3), .second, .val (.int p4), .val (.long sec), .second, .val (.long (sec * (1000000 : Int64))), .second, .val (.long now), .second, .unset, .unset, .val (.long dd), .second] [(.long (now - ((sec * (1000000 : Int64)) + dd)))]))
    generalize hts : (now - ((sec * (1000000 : Int64)) + dd)) = ts
    refine own_step (fun _ k => XS.lstore X0.here hx rfl (hb hby at_58) rfl (l' := #[.val (.long q0), .second, .val (.long q1), .second, .val (.long q2), .second, .val (.long q3), .second, .val (.int p4), .val (.long sec), .second, .val (.long (sec * (1000000 : Int64))), .second, .val (.long now), .second, .val (.long ts), .second, .val (.long dd), .second]) rfl k) ?_
    show own_Ends _ _ _ _ _ _ _ (s₁.setTop (mkF m 60 #[.val (.long q0), .second, .val (.long q1), .second, .val (.long q2), .second, .val (.long q3), .second, .val (.int p4), .val (.long sec), .second, .val (.long (sec * (1000000 : Int64))), .second, .val (.long now), .second, .val (.long ts), .second, .val (.long dd), .second] []))
    refine own_step (fun _ k => XS.goto X0.here hx rfl (pc0 := 60) (pc' := 75) rfl (hb hby at_60) (by decide) (by decide) k) ?_
    show own_Ends _ _ _ _ _ _ _ (s₁.setTop (mkF m 75 #[.val (.long q0), .second, .val (.long q1), .second, .val (.long q2), .second, .val (.long q3), .second, .val (.int p4), .val (.long sec), .second, .val (.long (sec * (1000000 : Int64))), .second, .val (.long now), .second, .val (.long ts), .second, .val (.long dd), .second] []))
    obtain ⟨T9, h9, X9, e9, E9, A9, D9, -, st9⟩ := newO X0 hx hZ hown (hw _ (List.mem_of_getElem? (i := 6) rfl)) (hw _ (List.mem_of_getElem? (i := 7) rfl)) (hw _ (List.mem_of_getElem? (i := 8) rfl)) e0 (g := (mkF m 75 #[.val (.long q0), .second, .val (.long q1), .second, .val (.long q2), .second, .val (.long q3), .second, .val (.int p4), .val (.long sec), .second, .val (.long (sec * (1000000 : Int64))), .second, .val (.long now), .second, .val (.long ts), .second, .val (.long dd), .second] [])) rfl (hb hby at_75) (by decide) (by decide)
    obtain ⟨b9, g9⟩ : ∃ z, z = h0.size := ⟨_, rfl⟩
    rw [← g9] at A9 D9 st9
    have gn9 : n0 ≤ b9 := Nat.le_trans Z0 (Nat.le_of_eq g9.symm)
    have Z9 := Nat.le_trans Z0 E9.1
    have F9_b9_seconds : Fld Z h9 b9 "com/example/even_column/evencolumn/core/RetentionRule$MaxAge" "seconds" "J" (.long (0 : Int64)) := D9 (Or.inr (hw _ (List.mem_of_getElem? (i := 22) rfl))) (ty := .long) (by decide)
    refine own_step (fun _ k => st9 _ k) ?_
    show own_Ends _ _ _ _ _ _ _ (T9.setTop (mkF m 78 #[.val (.long q0), .second, .val (.long q1), .second, .val (.long q2), .second, .val (.long q3), .second, .val (.int p4), .val (.long sec), .second, .val (.long (sec * (1000000 : Int64))), .second, .val (.long now), .second, .val (.long ts), .second, .val (.long dd), .second] [(.ref b9)]))
    refine own_step (fun _ k => XS.dup X9.here hx rfl (hb hby at_78) rfl rfl k) ?_
    show own_Ends _ _ _ _ _ _ _ (T9.setTop (mkF m 79 #[.val (.long q0), .second, .val (.long q1), .second, .val (.long q2), .second, .val (.long q3), .second, .val (.int p4), .val (.long sec), .second, .val (.long (sec * (1000000 : Int64))), .second, .val (.long now), .second, .val (.long ts), .second, .val (.long dd), .second] [(.ref b9), (.ref b9)]))
    refine own_step (fun _ k => XS.lload X9.here hx rfl (hb hby at_79) rfl k) ?_
    show own_Ends _ _ _ _ _ _ _ (T9.setTop (mkF m 81 #[.val (.long q0), .second, .val (.long q1), .second, .val (.long q2), .second, .val (.long q3), .second, .val (.int p4), .val (.long sec), .second, .val (.long (sec * (1000000 : Int64))), .second, .val (.long now), .second, .val (.long ts), .second, .val (.long dd), .second] [(.long sec), (.ref b9), (.ref b9)]))
    obtain ⟨_, _, ⟨T10, L10, k10, n10⟩, -, X10, ⟨Lc10, hQ10, l10, y10, z10⟩, st10⟩ := X9.specialBack hx (y := (⟨"com/example/even_column/evencolumn/core/RetentionRule$MaxAge", "<init>", "(J)V"⟩ : MethodName)) rfl hown (mvT hZ (hw _ (List.mem_of_getElem? (i := 9) rfl))) (mvT hZ (hw _ (List.mem_of_getElem? (i := 10) rfl))) (mvT hZ (hw _ (List.mem_of_getElem? (i := 11) rfl))) (by decide) (backOf (W := 1) (own_rm2 l Z a0 hw [] b9 sec  h9 n0 Z9 F9_b9_seconds A9 gn9 hA hB) hZ (hw _ (List.mem_of_getElem? (i := 11) rfl)) (hw _ (List.mem_of_getElem? (i := 8) rfl)) (by decide) (by decide)) (g := (mkF m 81 #[.val (.long q0), .second, .val (.long q1), .second, .val (.long q2), .second, .val (.long q3), .second, .val (.int p4), .val (.long sec), .second, .val (.long (sec * (1000000 : Int64))), .second, .val (.long now), .second, .val (.long ts), .second, .val (.long dd), .second] [(.long sec), (.ref b9), (.ref b9)])) rfl (by rw [hml]; rfl) (Steps.refl _) (a := b9) (argsL := [(.long sec)]) (rest := [(.ref b9)]) (lenOf own_pd1 rfl) rfl (by show 2 * 0 + _ ≤ _; exact Nat.le_of_eq rfl) (hb hby at_81) (fun _ _ => ⟨rfl, e9, (by decide : 1 + 0 ≤ _), (by decide : 1 + 0 ≤ _)⟩)
    dsimp only [Pt.U, Pt.locs, Pt.cells, Pt.slots] at X10 l10 y10 z10 st10 hQ10
    subst l10 y10 z10
    obtain ⟨rfl, Nq10, K10, A10, G0_10⟩ := hQ10
    have N10 := Fr.app N0 Nq10
    refine own_step (fun _ k => st10.trans k) ?_
    show own_Ends _ _ _ _ _ _ _ (T10.setTop (mkF m 84 #[.val (.long q0), .second, .val (.long q1), .second, .val (.long q2), .second, .val (.long q3), .second, .val (.int p4), .val (.long sec), .second, .val (.long (sec * (1000000 : Int64))), .second, .val (.long now), .second, .val (.long ts), .second, .val (.long dd), .second] [(.ref b9)]))
    have Z10 := Nat.le_trans Z9 K10.1
    refine own_step (fun _ k => XS.astore X10.here hx rfl (hb hby at_84) rfl rfl (l' := #[.val (.long q0), .second, .val (.long q1), .second, .val (.long q2), .second, .val (.long q3), .second, .val (.int p4), .val (.long sec), .second, .val (.long (sec * (1000000 : Int64))), .second, .val (.long now), .second, .val (.long ts), .second, .val (.ref b9), .unset]) rfl k) ?_
    show own_Ends _ _ _ _ _ _ _ (T10.setTop (mkF m 86 #[.val (.long q0), .second, .val (.long q1), .second, .val (.long q2), .second, .val (.long q3), .second, .val (.int p4), .val (.long sec), .second, .val (.long (sec * (1000000 : Int64))), .second, .val (.long now), .second, .val (.long ts), .second, .val (.ref b9), .unset] []))
    refine own_step (fun _ k => XS.aload X10.here hx rfl (hb hby at_86) rfl rfl k) ?_
    show own_Ends _ _ _ _ _ _ _ (T10.setTop (mkF m 88 #[.val (.long q0), .second, .val (.long q1), .second, .val (.long q2), .second, .val (.long q3), .second, .val (.int p4), .val (.long sec), .second, .val (.long (sec * (1000000 : Int64))), .second, .val (.long now), .second, .val (.long ts), .second, .val (.ref b9), .unset] [(.ref b9)]))
    refine own_step (fun _ k => XS.lloadN X10.here hx rfl (hb hby at_88) rfl k) ?_
    show own_Ends _ _ _ _ _ _ _ (T10.setTop (mkF m 89 #[.val (.long q0), .second, .val (.long q1), .second, .val (.long q2), .second, .val (.long q3), .second, .val (.int p4), .val (.long sec), .second, .val (.long (sec * (1000000 : Int64))), .second, .val (.long now), .second, .val (.long ts), .second, .val (.ref b9), .unset] [(.long q1), (.ref b9)]))
    refine own_step (fun _ k => XS.lload X10.here hx rfl (hb hby at_89) rfl k) ?_
    show own_Ends _ _ _ _ _ _ _ (T10.setTop (mkF m 91 #[.val (.long q0), .second, .val (.long q1), .second, .val (.long q2), .second, .val (.long q3), .second, .val (.int p4), .val (.long sec), .second, .val (.long (sec * (1000000 : Int64))), .second, .val (.long now), .second, .val (.long ts), .second, .val (.ref b9), .unset] [(.long ts), (.long q1), (.ref b9)]))
    refine own_step (fun _ k => XS.lload X10.here hx rfl (hb hby at_91) rfl k) ?_
    show own_Ends _ _ _ _ _ _ _ (T10.setTop (mkF m 93 #[.val (.long q0), .second, .val (.long q1), .second, .val (.long q2), .second, .val (.long q3), .second, .val (.int p4), .val (.long sec), .second, .val (.long (sec * (1000000 : Int64))), .second, .val (.long now), .second, .val (.long ts), .second, .val (.ref b9), .unset] [(.long now), (.long ts), (.long q1), (.ref b9)]))
    obtain ⟨cq11, kq11, qa11, qb11, qc11⟩ := isOf hZ rfl A10
    obtain ⟨_, _, ⟨T11, L11, k11, n11⟩, -, X11, ⟨Lc11, hQ11, l11, y11, z11⟩, st11⟩ := X10.virtualBack hx (y := (⟨"com/example/even_column/evencolumn/core/RetentionRule$MaxAge", "drops", "(JJJ)Z"⟩ : MethodName)) (z := (⟨"com/example/even_column/evencolumn/core/RetentionRule$MaxAge", "drops", "(JJJ)Z"⟩ : MethodName)) hown (mvT hZ (hw _ (List.mem_of_getElem? (i := 23) rfl))) (mvT hZ (hw _ (List.mem_of_getElem? (i := 24) rfl))) (notFace_of_selects (args := #[]) (mvT hZ (hw _ (List.mem_of_getElem? (i := 26) rfl)))) (mvT hZ (hw _ (List.mem_of_getElem? (i := 26) rfl))) (mvT hZ (hw _ (List.mem_of_getElem? (i := 25) rfl))) (by decide) (backOf (W := 0) (own_rm3 l Z a0 hw [] b9 q1 ts now sec T10.heap n0 Z10 G0_10) hZ (hw _ (List.mem_of_getElem? (i := 27) rfl)) (hw _ (List.mem_of_getElem? (i := 8) rfl)) (by decide) (by decide)) qa11 qc11 (g := (mkF m 93 #[.val (.long q0), .second, .val (.long q1), .second, .val (.long q2), .second, .val (.long q3), .second, .val (.int p4), .val (.long sec), .second, .val (.long (sec * (1000000 : Int64))), .second, .val (.long now), .second, .val (.long ts), .second, .val (.ref b9), .unset] [(.long now), (.long ts), (.long q1), (.ref b9)])) rfl (by rw [hml]; rfl) (Steps.refl _) (argsL := [(.long q1), (.long ts), (.long now)]) (rest := []) (lenOf own_pd2 rfl) rfl (by show 2 * 0 + _ ≤ _; exact Nat.le_of_eq rfl) (hb hby at_93) (fun _ _ => ⟨rfl, rfl, (by decide : 1 + 0 ≤ _), (by decide : 1 + 0 ≤ _)⟩)
    dsimp only [Pt.U, Pt.locs, Pt.cells, Pt.slots] at X11 l11 y11 z11 st11 hQ11
    subst l11 y11 z11
    obtain ⟨rfl, Nq11, e11⟩ := hQ11
    have N11 := Fr.app N10 Nq11
    refine own_step (fun _ k => st11.trans k) ?_
    show own_Ends _ _ _ _ _ _ _ (T11.setTop (mkF m 96 #[.val (.long q0), .second, .val (.long q1), .second, .val (.long q2), .second, .val (.long q3), .second, .val (.int p4), .val (.long sec), .second, .val (.long (sec * (1000000 : Int64))), .second, .val (.long now), .second, .val (.long ts), .second, .val (.ref b9), .unset] [(.int (own_drop (now - ts) sec))]))
    refine own_step (fun _ k => XS.istore X11.here hx rfl (hb hby at_96) rfl (l' := #[.val (.long q0), .second, .val (.long q1), .second, .val (.long q2), .second, .val (.long q3), .second, .val (.int p4), .val (.long sec), .second, .val (.long (sec * (1000000 : Int64))), .second, .val (.long now), .second, .val (.long ts), .second, .val (.ref b9), .val (.int (own_drop (now - ts) sec))]) rfl k) ?_
    show own_Ends _ _ _ _ _ _ _ (T11.setTop (mkF m 98 #[.val (.long q0), .second, .val (.long q1), .second, .val (.long q2), .second, .val (.long q3), .second, .val (.int p4), .val (.long sec), .second, .val (.long (sec * (1000000 : Int64))), .second, .val (.long now), .second, .val (.long ts), .second, .val (.ref b9), .val (.int (own_drop (now - ts) sec))] []))
    refine own_step (fun _ k => XS.iload X11.here hx rfl (hb hby at_98) rfl k) ?_
    show own_Ends _ _ _ _ _ _ _ (T11.setTop (mkF m 100 #[.val (.long q0), .second, .val (.long q1), .second, .val (.long q2), .second, .val (.long q3), .second, .val (.int p4), .val (.long sec), .second, .val (.long (sec * (1000000 : Int64))), .second, .val (.long now), .second, .val (.long ts), .second, .val (.ref b9), .val (.int (own_drop (now - ts) sec))] [(.int (own_drop (now - ts) sec))]))
    refine own_step (fun _ k => XS.lload X11.here hx rfl (hb hby at_100) rfl k) ?_
    show own_Ends _ _ _ _ _ _ _ (T11.setTop (mkF m 102 #[.val (.long q0), .second, .val (.long q1), .second, .val (.long q2), .second, .val (.long q3), .second, .val (.int p4), .val (.long sec), .second, .val (.long (sec * (1000000 : Int64))), .second, .val (.long now), .second, .val (.long ts), .second, .val (.ref b9), .val (.int (own_drop (now - ts) sec))] [(.long now), (.int (own_drop (now - ts) sec))]))
    refine own_step (fun _ k => XS.lload X11.here hx rfl (hb hby at_102) rfl k) ?_
    show own_Ends _ _ _ _ _ _ _ (T11.setTop (mkF m 104 #[.val (.long q0), .second, .val (.long q1), .second, .val (.long q2), .second, .val (.long q3), .second, .val (.int p4), .val (.long sec), .second, .val (.long (sec * (1000000 : Int64))), .second, .val (.long now), .second, .val (.long ts), .second, .val (.ref b9), .val (.int (own_drop (now - ts) sec))] [(.long ts), (.long now), (.int (own_drop (now - ts) sec))]))
    refine own_step (fun _ k => XS.lsub X11.here hx rfl (hb hby at_104) rfl k) ?_
    show own_Ends _ _ _ _ _ _ _ (T11.setTop (mkF m 105 #[.val (.long q0), .second, .val (.long q1), .second, .val (.long q2), .second, .val (.long q3), .second, .val (.int p4), .val (.long sec), .second, .val (.long (sec * (1000000 : Int64))), .second, .val (.long now), .second, .val (.long ts), .second, .val (.ref b9), .val (.int (own_drop (now - ts) sec))] [(.long (now - ts)), (.int (own_drop (now - ts) sec))]))
    refine own_step (fun _ k => XS.lload X11.here hx rfl (hb hby at_105) rfl k) ?_
    show own_Ends _ _ _ _ _ _ _ (T11.setTop (mkF m 107 #[.val (.long q0), .second, .val (.long q1), .second, .val (.long q2), .second, .val (.long q3), .second, .val (.int p4), .val (.long sec), .second, .val (.long (sec * (1000000 : Int64))), .second, .val (.long now), .second, .val (.long ts), .second, .val (.ref b9), .val (.int (own_drop (now - ts) sec))] [(.long sec), (.long (now - ts)), (.int (own_drop (now - ts) sec))]))
    obtain ⟨_, _, ⟨T12, L12, k12, n12⟩, -, X12, ⟨Lc12, hQ12, l12, y12, z12⟩, st12⟩ := Jvm.LawKit.callS X11 hx (y := (⟨"com/example/even_column/evencolumn/core/MaxAgeDropsPinLaw", "expected", "(JJ)Z"⟩ : MethodName)) hown (mvT hZ (hw _ (List.mem_of_getElem? (i := 29) rfl))) (mvT hZ (hw _ (List.mem_of_getElem? (i := 30) rfl))) (mvT hZ (hw _ (List.mem_of_getElem? (i := 31) rfl))) (mvT hZ (hw _ (List.mem_of_getElem? (i := 32) rfl))) (by decide) (backOf (W := 1) (own_rm4 l Z a0 hw [] (now - ts) sec  T10.heap n0 Z10 ) hZ (hw _ (List.mem_of_getElem? (i := 32) rfl)) (hw _ (List.mem_of_getElem? (i := 31) rfl)) (by decide) (by decide)) (g := (mkF m 107 #[.val (.long q0), .second, .val (.long q1), .second, .val (.long q2), .second, .val (.long q3), .second, .val (.int p4), .val (.long sec), .second, .val (.long (sec * (1000000 : Int64))), .second, .val (.long now), .second, .val (.long ts), .second, .val (.ref b9), .val (.int (own_drop (now - ts) sec))] [(.long sec), (.long (now - ts)), (.int (own_drop (now - ts) sec))])) rfl (by rw [hml]; rfl) (argsL := [(.long (now - ts)), (.long sec)]) (rest := [(.int (own_drop (now - ts) sec))]) (lenOf own_pd3 rfl) rfl (by show 2 * 0 + _ ≤ _; exact Nat.le_of_eq rfl) (hb hby at_107) (fun _ _ => ⟨rfl, e11, (by decide : 1 + 0 ≤ _), (by decide : 1 + 0 ≤ _)⟩)
    dsimp only [Pt.U, Pt.locs, Pt.cells, Pt.slots] at X12 l12 y12 z12 st12 hQ12
    subst l12 y12 z12
    obtain ⟨rfl, Nq12, e12⟩ := hQ12
    have N12 := Fr.app N11 Nq12
    refine own_step (fun _ k => st12 _ k) ?_
    show own_Ends _ _ _ _ _ _ _ (T12.setTop (mkF m 110 #[.val (.long q0), .second, .val (.long q1), .second, .val (.long q2), .second, .val (.long q3), .second, .val (.int p4), .val (.long sec), .second, .val (.long (sec * (1000000 : Int64))), .second, .val (.long now), .second, .val (.long ts), .second, .val (.ref b9), .val (.int (own_drop (now - ts) sec))] [(.int (own_exp (now - ts) sec)), (.int (own_drop (now - ts) sec))]))
    refine own_step (fun _ k => XS.icmpNo X12.here hx rfl (hb hby at_110) rfl (teq (own_same hA hB)).2 k) ?_
    show own_Ends _ _ _ _ _ _ _ (T12.setTop (mkF m 113 #[.val (.long q0), .second, .val (.long q1), .second, .val (.long q2), .second, .val (.long q3), .second, .val (.int p4), .val (.long sec), .second, .val (.long (sec * (1000000 : Int64))), .second, .val (.long now), .second, .val (.long ts), .second, .val (.ref b9), .val (.int (own_drop (now - ts) sec))] []))
    refine own_step (fun _ k => XS.iconst X12.here hx rfl (hb hby at_113) k) ?_
    show own_Ends _ _ _ _ _ _ _ (T12.setTop (mkF m 114 #[.val (.long q0), .second, .val (.long q1), .second, .val (.long q2), .second, .val (.long q3), .second, .val (.int p4), .val (.long sec), .second, .val (.long (sec * (1000000 : Int64))), .second, .val (.long now), .second, .val (.long ts), .second, .val (.ref b9), .val (.int (own_drop (now - ts) sec))] [(.int (1 : Int32))]))
    refine own_step (fun _ k => XS.goto X12.here hx rfl (pc0 := 114) (pc' := 118) rfl (hb hby at_114) (by decide) (by decide) k) ?_
    show own_Ends _ _ _ _ _ _ _ (T12.setTop (mkF m 118 #[.val (.long q0), .second, .val (.long q1), .second, .val (.long q2), .second, .val (.long q3), .second, .val (.int p4), .val (.long sec), .second, .val (.long (sec * (1000000 : Int64))), .second, .val (.long now), .second, .val (.long ts), .second, .val (.ref b9), .val (.int (own_drop (now - ts) sec))] [(.int (1 : Int32))]))
    refine own_ret X12 (BodyLoose.notSynchronized Bd) (v := (some (.int (1 : Int32)))) (fun h => by rw [Bd.returns] at h; cases h) ?_ (by decide) (by decide) (fun fs hr => X12.ireturnOut hx Bd.returns rfl (by simp) (hb hby at_118) hr)
    show own_Q0 Z q0 q1 q2 q3 p4  h0 n0 (some (.int (1 : Int32))) T12.heap _
    rw [e12]
    exact ⟨rfl, N12⟩
set_option maxRecDepth 65536 in
set_option maxHeartbeats 40000000 in
theorem comes_1 {Post : Tables → Env → Array Value → State → Outcome → State → Prop} (hpost : ∀ tb e args s v u, (limb_1_1.after args s (.returned v) u = true ∧ limb_1_2.after args s (.returned v) u = true ∧ True) → FrameEnd s (.returned v) u (Jvm.fieldLocs frame_1_writes args s ++ Jvm.arrayLocs frame_1_arrays args s ++ Jvm.staticLocs frame_1_statics s) 16 128 → Post tb e args s (.returned v) u) :
    ArmFor flags0 classFile x code maxLocals ret World_1 tables_1 room_1 Calls_1 rest_1 Pre_1 Post := by
  intro l hfl _ _ p e ha hc hk s m args below hf hA hF happ hP
  obtain ⟨hcalls, hrest, hpre⟩ := hP
  obtain ⟨-, -, -, hnamed, -, -, -, hat⟩ := (Spec.applies_iff hf).mp happ
  obtain ⟨hg, hn⟩ := and_e (Cond.before_iff.mp (show (Jvm.Cond.and given_1 narrow_1).before args s = true from hpre))
  obtain ⟨g0, hg⟩ := and_e hg
  obtain ⟨ga0, hg⟩ := and_e hg
  obtain ⟨ga1, hg⟩ := and_e hg
  obtain ⟨ga2, hg⟩ := and_e hg
  obtain ⟨ga3, hg⟩ := and_e hg
  obtain ⟨w0, w1, w2, w3, w4, rfl⟩ : ∃ w0 w1 w2 w3 w4 : Value, args = #[w0, w1, w2, w3, w4] := by
    have hs : args.size = 5 := by simpa [Cond.value, given_1] using g0
    obtain ⟨L⟩ := args
    match L, hs with
    | [w0, w1, w2, w3, w4], _ => exact ⟨w0, w1, w2, w3, w4, rfl⟩
  have hw := fun d (hd : d ∈ tables_1) => atoms_spec (ws := Jvm.Cond.code x code maxLocals ret :: tables_1) hat d (List.mem_cons_of_mem _ hd)
  obtain ⟨i0, ei0⟩ := isL_v ga0
  obtain rfl : w0 = (.long i0) := Option.some.inj ei0
  obtain ⟨i1, ei1⟩ := isL_v ga1
  obtain rfl : w1 = (.long i1) := Option.some.inj ei1
  obtain ⟨i2, ei2⟩ := isL_v ga2
  obtain rfl : w2 = (.long i2) := Option.some.inj ei2
  obtain ⟨i3, ei3⟩ := isL_v ga3
  obtain rfl : w3 = (.long i3) := Option.some.inj ei3
  obtain ⟨i4, ei4⟩ := is_v hg
  obtain rfl : w4 = (.int i4) := Option.some.inj ei4
  obtain ⟨n, o, h1, h2, h3, _, L, rfl, ⟨rfl, N⟩, hq⟩ := own_rm0 l s _ hw tables_1 i0 i1 i2 i3 i4 s.heap s.heap.size (Nat.le_refl _)  p e ha hc hk s m _ below hf ((Spec.applies_iff_loose hf).mp happ).1 ⟨rfl, State.Warmed39.refl s, rfl⟩ trivial
  refine ⟨n, _, h1, h2, h3, hpost _ _ _ _ _ _ ⟨Cond.after_iff.mpr rfl, Cond.after_iff.mpr (eq_i res_at (Term.int_eval (1)) rfl), trivial⟩ ⟨hq.1, hq.2.1, (hq.2.2.sift fun y hy => Or.inr (N y hy)).mono (by decide) (by decide)⟩⟩
theorem main_1_1 : Claimed_1_1 := comes_1 fun _ _ _ _ _ _ h hF => ⟨h.1, hF⟩
theorem main_1_2 : Claimed_1_2 := comes_1 fun _ _ _ _ _ _ h hF => ⟨h.2.1, hF⟩
end Jvm.Pilot.@@N@@
namespace Jvm.Pilot.@@N@@
open Jvm Jvm.ClassFile Sem Op Lib Jvm.Free Jvm.Stand Jvm.Pilot.@@N@@.Jvm.D
/-! MADE BY PROGRAM (witnessworld.py) out of the Statement's table words and the real class files: 11 classes; the members and pool entries that the words name. The judged class is class 1, her method 1. -/
namespace start1
open Jvm.ClassFile
def u (s : String) : CpInfo := .utf8 (stringToUtf16 s)
/-- a pool by its gaps: so many unusable entries, then the entry; so many at the end -/
def gap : Nat → List CpInfo → List CpInfo
  | 0, r => r
  | n + 1, r => .unusable :: gap n r
def poolList (es : List (Nat × CpInfo)) (last : Nat) : List CpInfo := es.foldr (fun e r => gap e.1 (e.2 :: r)) (gap last [])
def pool (es : List (Nat × CpInfo)) (last : Nat) : Array CpInfo := ⟨poolList es last⟩
def fileOf (pool : Array CpInfo) (this : Nat) (attrs : Array Attribute := #[]) (ms : Array MethodInfo := #[]) (fl : Nat := 33) (sup : Nat := 0) (ifs : Array Nat := #[]) (fds : Array FieldInfo := #[]) : ClassFile where
  minorVersion := 0
  majorVersion := 65
  constantPool := pool
  accessFlags := fl
  thisClass := this
  superClass := sup
  interfaces := ifs
  fields := fds
  methods := ms
  attributes := attrs
def plain (name : String) (sup : Option ClassId) : Class where
  name := name
  kind := .ordinary
  loader := none
  accessFlags := 33
  super := sup
  interfaces := #[]
  cf := none
  fields := #[]
  methods := #[]
  instanceTypes := #[]
  staticTypes := #[]
  resolved := #[]
  callSites := []
  init := .initialized
  statics := none
  mirror := none

def pool0 : Array CpInfo := pool [(5, u "<init>"), (0, u "()V"), (1, .class_ 10), (1, u "java/lang/Object")] 113

def k0c0 : Code := { maxStack := 0, maxLocals := 1, code := object_method_1_code, exceptionTable := #[], attributes := #[] }
def k0m0 : Method := { name := "<init>", desc := "()V", sig := { parameters := [], returnType := none }, accessFlags := 1, code := some k0c0 }
/-- java/lang/Object -/
def k0 : Class := { plain "java/lang/Object" none with
  accessFlags := 33
  interfaces := #[]
  cf := some (fileOf pool0 8 #[] #[{ accessFlags := 1, nameIndex := 5, descriptorIndex := 6, attributes := #[] }] 33 0 #[] #[])
  fields := #[]
  methods := #[k0m0]
  instanceTypes := #[]
  staticTypes := #[]
  resolved := Array.replicate 124 none
  statics := none }

def pool1 : Array CpInfo := pool [(2, .class_ 4), (1, u "java/lang/Object"), (0, u "<init>"), (0, u "()V"), (2, .long 9223372036854775807), (1, .class_ 12), (0, u "com/example/even_column/evencolumn/core/RetentionRule$MaxAge"), (0, .long 9223372036854), (1, .long 1000000), (1, .long 7), (1, .long 5), (1, .long 2), (1, .methodref 11 24), (0, .nameAndType 5 25), (0, u "(J)V"), (0, .methodref 11 27), (0, .nameAndType 28 29), (0, u "drops"), (0, u "(JJJ)Z"), (0, .methodref 31 32), (0, .class_ 33), (0, .nameAndType 34 35), (0, u "com/example/even_column/evencolumn/core/MaxAgeDropsPinLaw"), (0, u "expected"), (0, u "(JJ)Z"), (2, u "law"), (0, u "(JJJJI)Z")] 7

def k1m0 : Method := { name := "<init>", desc := "()V", sig := { parameters := [], returnType := none }, accessFlags := 1, code := none }
def k1c1 : Code := { maxStack := 7, maxLocals := 19, code := code, exceptionTable := #[], attributes := #[] }
def k1m1 : Method := { name := "law", desc := "(JJJJI)Z", sig := { parameters := [.long, .long, .long, .long, .int], returnType := some .boolean }, accessFlags := 9, code := some k1c1 }
def k1c2 : Code := { maxStack := 4, maxLocals := 8, code := method_3_code, exceptionTable := #[], attributes := #[] }
def k1m2 : Method := { name := "expected", desc := "(JJ)Z", sig := { parameters := [.long, .long], returnType := some .boolean }, accessFlags := 10, code := some k1c2 }
/-- com/example/even_column/evencolumn/core/MaxAgeDropsPinLaw -/
def k1 : Class := { plain "com/example/even_column/evencolumn/core/MaxAgeDropsPinLaw" (some 0) with
  accessFlags := 49
  interfaces := #[]
  cf := some (fileOf pool1 31 #[] #[{ accessFlags := 1, nameIndex := 5, descriptorIndex := 6, attributes := #[] }, { accessFlags := 9, nameIndex := 38, descriptorIndex := 39, attributes := #[] }, { accessFlags := 10, nameIndex := 34, descriptorIndex := 35, attributes := #[] }] 49 2 #[] #[])
  fields := #[]
  methods := #[k1m0, k1m1, k1m2]
  instanceTypes := #[]
  staticTypes := #[]
  resolved := Array.replicate 47 none
  statics := none }

def pool2 : Array CpInfo := pool [(1, .methodref 2 3), (0, .class_ 4), (0, .nameAndType 5 6), (0, u "java/lang/Object"), (0, u "<init>"), (0, u "()V"), (0, .class_ 8), (0, u "java/lang/Record")] 13

def k2c0 : Code := { maxStack := 1, maxLocals := 1, code := jdk_30_method_1_code, exceptionTable := #[], attributes := #[] }
def k2m0 : Method := { name := "<init>", desc := "()V", sig := { parameters := [], returnType := none }, accessFlags := 4, code := some k2c0 }
/-- java/lang/Record -/
def k2 : Class := { plain "java/lang/Record" (some 0) with
  accessFlags := 1057
  interfaces := #[]
  cf := some (fileOf pool2 7 #[] #[{ accessFlags := 4, nameIndex := 5, descriptorIndex := 6, attributes := #[] }] 1057 2 #[] #[])
  fields := #[]
  methods := #[k2m0]
  instanceTypes := #[]
  staticTypes := #[]
  resolved := Array.replicate 22 none
  statics := none }

def pool3 : Array CpInfo := pool [(19, .class_ 20), (0, u "com/example/even_column/evencolumn/core/RetentionRule"), (0, .class_ 22), (0, u "java/lang/Object"), (12, .class_ 36), (0, u "com/example/even_column/evencolumn/core/RetentionRule$Intersection"), (0, .class_ 38), (0, u "com/example/even_column/evencolumn/core/RetentionRule$Union"), (0, .class_ 40), (0, u "com/example/even_column/evencolumn/core/RetentionRule$MaxAge"), (0, .class_ 42), (0, u "com/example/even_column/evencolumn/core/RetentionRule$MaxVersions")] 6

/-- com/example/even_column/evencolumn/core/RetentionRule -/
def k3 : Class := { plain "com/example/even_column/evencolumn/core/RetentionRule" (some 0) with
  accessFlags := 1537
  interfaces := #[]
  cf := some (fileOf pool3 19 #[.nestMembers #[35, 37, 39, 41]] #[] 1537 21 #[] #[])
  fields := #[]
  methods := #[]
  instanceTypes := #[]
  staticTypes := #[]
  resolved := Array.replicate 49 none
  statics := none }

def pool4 : Array CpInfo := pool [(3, .methodref 4 5), (0, .class_ 6), (0, .nameAndType 7 8), (0, u "java/lang/Record"), (0, u "<init>"), (0, u "()V"), (0, .class_ 10), (0, u "com/example/even_column/evencolumn/core/RetentionRule$MaxAge"), (0, .long 9223372036854), (10, .fieldref 9 23), (0, .nameAndType 24 25), (0, u "seconds"), (0, u "J"), (0, .long 1000000), (13, .class_ 41), (0, u "com/example/even_column/evencolumn/core/RetentionRule"), (0, u "MAX_SECONDS"), (1, u "(J)V"), (4, u "drops"), (0, u "(JJJ)Z")] 33

def k4c0 : Code := { maxStack := 4, maxLocals := 3, code := prog_46_method_1_code, exceptionTable := #[], attributes := #[] }
def k4m0 : Method := { name := "<init>", desc := "(J)V", sig := { parameters := [.long], returnType := none }, accessFlags := 1, code := some k4c0 }
def k4c1 : Code := { maxStack := 6, maxLocals := 7, code := prog_46_method_2_code, exceptionTable := #[], attributes := #[] }
def k4m1 : Method := { name := "drops", desc := "(JJJ)Z", sig := { parameters := [.long, .long, .long], returnType := some .boolean }, accessFlags := 1, code := some k4c1 }
/-- com/example/even_column/evencolumn/core/RetentionRule$MaxAge -/
def k4 : Class := { plain "com/example/even_column/evencolumn/core/RetentionRule$MaxAge" (some 2) with
  accessFlags := 49
  interfaces := #[3]
  cf := some (fileOf pool4 9 #[.nestHost 40] #[{ accessFlags := 1, nameIndex := 7, descriptorIndex := 44, attributes := #[] }, { accessFlags := 1, nameIndex := 49, descriptorIndex := 50, attributes := #[] }] 49 4 #[40] #[{ accessFlags := 18, nameIndex := 24, descriptorIndex := 25, attributes := #[] }, { accessFlags := 25, nameIndex := 42, descriptorIndex := 25, attributes := #[] }])
  fields := #[{ name := "seconds", type := .long, accessFlags := 18, slot := 0, constantValue := 0 }, { name := "MAX_SECONDS", type := .long, accessFlags := 25, slot := 0, constantValue := 0 }]
  methods := #[k4m0, k4m1]
  instanceTypes := #[.long]
  staticTypes := #[.long]
  resolved := Array.replicate 84 none
  statics := none }

def pool5 : Array CpInfo := pool [(1, u "java/lang/Cloneable"), (0, .class_ 1), (0, u "java/lang/Object"), (0, .class_ 3)] 3

/-- java/lang/Cloneable -/
def k5 : Class := { plain "java/lang/Cloneable" (some 0) with
  accessFlags := 1537
  interfaces := #[]
  cf := some (fileOf pool5 2 #[] #[] 1537 4 #[] #[])
  fields := #[]
  methods := #[]
  instanceTypes := #[]
  staticTypes := #[]
  resolved := Array.replicate 8 none
  statics := none }

def pool6 : Array CpInfo := pool [(1, u "java/io/Serializable"), (0, .class_ 1), (0, u "java/lang/Object"), (0, .class_ 3)] 3

/-- java/io/Serializable -/
def k6 : Class := { plain "java/io/Serializable" (some 0) with
  accessFlags := 1537
  interfaces := #[]
  cf := some (fileOf pool6 2 #[] #[] 1537 4 #[] #[])
  fields := #[]
  methods := #[]
  instanceTypes := #[]
  staticTypes := #[]
  resolved := Array.replicate 8 none
  statics := none }

/-- the primitive byte -/
def k7 : Class := { plain "byte" none with kind := .primitive 'B', accessFlags := 0x411 }
/-- [B -/
def k8 : Class := { plain "[B" (some 0) with kind := .array 7 .byte, interfaces := #[5, 6], accessFlags := 1041 }

/-- the primitive int -/
def k9 : Class := { plain "int" none with kind := .primitive 'I', accessFlags := 0x411 }
/-- [I -/
def k10 : Class := { plain "[I" (some 0) with kind := .array 9 .int, interfaces := #[5, 6], accessFlags := 1041 }

def heap : Heap := #[]
def classes : Array Class := #[k0, k1, k2, k3, k4, k5, k6, k7, k8, k9, k10]
def interned : List (Array UInt16 × Addr) := []
def slotsUsed : Nat := 0
def theMethod : MethodId := ⟨1, 1⟩
def args0 : Array Value := #[.long 5, .long 7, .long 9, .long 3, .int 4]
def aboutOver (below : List Frame) : State where
  vm := { classes := classes, interned := interned.toArray }
  heap := heap
  slotsUsed := slotsUsed
  threads := #[{ frames := .invoking theMethod args0 :: below }]
def below0 : List Frame := [.native { method := ⟨0, 0⟩, args := #[] }]
def about1 : State := aboutOver below0
def p0 : Program := .bare "" "" ""
def e0 : Env := launch0.env 0 0 0
theorem w_frames : about1.frames = Frame.invoking theMethod args0 :: below0 := rfl
set_option maxRecDepth 65536 in
theorem w_args : argsFit about1.vm theMethod args0 = true := by decide +kernel
set_option maxRecDepth 65536 in
theorem w_heap : heapFits about1 = true := by decide +kernel
set_option maxRecDepth 65536 in
theorem w_runnable : about1.curStatus? = some .runnable := by decide +kernel
set_option maxRecDepth 65536 in
theorem w_alone : about1.alone = true := by decide +kernel
set_option maxRecDepth 65536 in
theorem w_named : about1.methodNamed? x = some theMethod := by decide +kernel
set_option maxRecDepth 65536 in
theorem w_hears : about1.hears theMethod below0 = true := by decide +kernel
set_option maxRecDepth 65536 in
theorem w_ripe : about1.ripe theMethod args0 below0 = true := by decide +kernel
theorem w_running : about1.status = .running := rfl
set_option maxRecDepth 65536 in
theorem w_room : about1.hasRoom e0.platform room_1 = true :=
  launch0.hasRoom_least _ room_1 (by decide +kernel) (by decide +kernel) (by decide +kernel) (by decide +kernel) (by decide +kernel) (by decide +kernel)
theorem allAtoms_all (ts : List Jvm.Cond) (a : Array Jvm.Value) (st : Jvm.State) : (allAtoms ts).before a st = ts.all (fun c => c.before a st) := by
  induction ts with
  | nil => rfl
  | cons c t ih =>
    show (Jvm.Cond.and c (allAtoms t)).before a st = _
    rw [Jvm.Cond.before_and, ih, List.all_cons]
def words1 : List Jvm.Cond := Jvm.Cond.code x code maxLocals ret :: tables_1
/-- a 'code' word, met by the world's own term for the bytes: nothing is compared byte by byte -/
theorem code_word {y : MethodName} {bytes : ByteArray} {mx : Nat} {rt : Option FieldType} {a : Array Value} {s : State} {m : MethodId} {meth : Method} {c : Code} (h1 : s.methodNamed? y = some m) (h2 : s.vm.method? m = some meth) (h3 : meth.code = some c) (h4 : c.code = bytes)
    (h5 : (c.maxLocals == mx && c.exceptionTable.isEmpty && decide (c.maxStack ≤ mostOperands) && decide (meth.sig.returnType = rt) && !meth.locks && decide (parseMethodDescriptor y.desc = some meth.sig)) = true) : (Jvm.Cond.code y bytes mx rt).before a s = true := by
  simp only [Bool.and_eq_true, beq_iff_eq, Bool.not_eq_true', decide_eq_true_eq] at h5
  obtain ⟨⟨⟨⟨⟨g1, g2⟩, g3⟩, g4⟩, g5⟩, g6⟩ := h5
  simp [Cond.before, Cond.holds, Cond.value, h1, h2, h3, h4, g1, g2, g3, g4, g5, g6]
def isCode : Jvm.Cond → Bool
  | .code _ _ _ _ => true
  | _ => false
theorem all_split {L : List Jvm.Cond} {P : Jvm.Cond → Bool} (h1 : L.all (fun c => isCode c || P c) = true) (h2 : ∀ c ∈ L.filter isCode, P c = true) : L.all P = true := by
  refine List.all_eq_true.mpr fun c hc => ?_
  have h := List.all_eq_true.mp h1 c hc
  rcases Bool.eq_false_or_eq_true (isCode c) with hi | hi
  · exact h2 c (List.mem_filter.mpr ⟨hc, hi⟩)
  · simpa [hi] using h
set_option maxRecDepth 65536 in
theorem w_c0 : (Jvm.Cond.code x code maxLocals ret).before args0 about1 = true := code_word (m := ⟨1, 1⟩) (meth := k1m1) (c := k1c1) (by decide +kernel) rfl rfl rfl (by decide +kernel)
set_option maxRecDepth 65536 in
theorem w_c1 : (Jvm.Cond.code ({ cls := "com/example/even_column/evencolumn/core/RetentionRule$MaxAge", name := "<init>", desc := "(J)V" } : Jvm.MethodName) prog_46_method_1_code (3 : Nat) (Option.none : Option Jvm.ClassFile.FieldType)).before args0 about1 = true := code_word (m := ⟨4, 0⟩) (meth := k4m0) (c := k4c0) (by decide +kernel) rfl rfl rfl (by decide +kernel)
set_option maxRecDepth 65536 in
theorem w_c2 : (Jvm.Cond.code ({ cls := "java/lang/Record", name := "<init>", desc := "()V" } : Jvm.MethodName) jdk_30_method_1_code (1 : Nat) (Option.none : Option Jvm.ClassFile.FieldType)).before args0 about1 = true := code_word (m := ⟨2, 0⟩) (meth := k2m0) (c := k2c0) (by decide +kernel) rfl rfl rfl (by decide +kernel)
set_option maxRecDepth 65536 in
theorem w_c3 : (Jvm.Cond.code ({ cls := "java/lang/Object", name := "<init>", desc := "()V" } : Jvm.MethodName) object_method_1_code (1 : Nat) (Option.none : Option Jvm.ClassFile.FieldType)).before args0 about1 = true := code_word (m := ⟨0, 0⟩) (meth := k0m0) (c := k0c0) (by decide +kernel) rfl rfl rfl (by decide +kernel)
set_option maxRecDepth 65536 in
theorem w_c4 : (Jvm.Cond.code ({ cls := "com/example/even_column/evencolumn/core/RetentionRule$MaxAge", name := "drops", desc := "(JJJ)Z" } : Jvm.MethodName) prog_46_method_2_code (7 : Nat) (Option.some Jvm.ClassFile.FieldType.boolean)).before args0 about1 = true := code_word (m := ⟨4, 1⟩) (meth := k4m1) (c := k4c1) (by decide +kernel) rfl rfl rfl (by decide +kernel)
set_option maxRecDepth 65536 in
theorem w_c5 : (Jvm.Cond.code ({ cls := "com/example/even_column/evencolumn/core/MaxAgeDropsPinLaw", name := "expected", desc := "(JJ)Z" } : Jvm.MethodName) method_3_code (8 : Nat) (Option.some Jvm.ClassFile.FieldType.boolean)).before args0 about1 = true := code_word (m := ⟨1, 2⟩) (meth := k1m2) (c := k1c2) (by decide +kernel) rfl rfl rfl (by decide +kernel)
def codes1 : List Jvm.Cond := [Jvm.Cond.code x code maxLocals ret, Jvm.Cond.code ({ cls := "com/example/even_column/evencolumn/core/RetentionRule$MaxAge", name := "<init>", desc := "(J)V" } : Jvm.MethodName) prog_46_method_1_code (3 : Nat) (Option.none : Option Jvm.ClassFile.FieldType), Jvm.Cond.code ({ cls := "java/lang/Record", name := "<init>", desc := "()V" } : Jvm.MethodName) jdk_30_method_1_code (1 : Nat) (Option.none : Option Jvm.ClassFile.FieldType), Jvm.Cond.code ({ cls := "java/lang/Object", name := "<init>", desc := "()V" } : Jvm.MethodName) object_method_1_code (1 : Nat) (Option.none : Option Jvm.ClassFile.FieldType), Jvm.Cond.code ({ cls := "com/example/even_column/evencolumn/core/RetentionRule$MaxAge", name := "drops", desc := "(JJJ)Z" } : Jvm.MethodName) prog_46_method_2_code (7 : Nat) (Option.some Jvm.ClassFile.FieldType.boolean), Jvm.Cond.code ({ cls := "com/example/even_column/evencolumn/core/MaxAgeDropsPinLaw", name := "expected", desc := "(JJ)Z" } : Jvm.MethodName) method_3_code (8 : Nat) (Option.some Jvm.ClassFile.FieldType.boolean)]
set_option maxRecDepth 65536 in
theorem codes_eq : words1.filter isCode = codes1 := rfl
theorem w_codes : ∀ c ∈ words1.filter isCode, c.before args0 about1 = true := by
  rw [codes_eq]
  intro c hc
  simp only [codes1, List.mem_cons, List.not_mem_nil, or_false] at hc
  rcases hc with rfl | rfl | rfl | rfl | rfl | rfl
  · exact w_c0
  · exact w_c1
  · exact w_c2
  · exact w_c3
  · exact w_c4
  · exact w_c5
set_option maxRecDepth 65536 in
theorem w_t1 : (words1.take 24).all (fun c => isCode c || c.before args0 about1) = true := by decide +kernel
set_option maxRecDepth 65536 in
theorem w_t2 : (words1.drop 24).all (fun c => isCode c || c.before args0 about1) = true := by decide +kernel
theorem w_tables : (allAtoms (Jvm.Cond.code x code maxLocals ret :: tables_1)).before args0 about1 = true := by
  rw [allAtoms_all]
  show words1.all (fun c => c.before args0 about1) = true
  refine all_split ?_ w_codes
  rw [← List.take_append_drop 24 words1, List.all_append, w_t1, w_t2]
  rfl
set_option maxRecDepth 65536 in
theorem w_case : (Jvm.Cond.and given_1 narrow_1).before args0 about1 = true := by decide +kernel
theorem w_applies : (headSpec (Jvm.Cond.code x code maxLocals ret :: tables_1) room_1).applies x e0.platform about1 = true :=
  (Spec.applies_iff w_frames).mpr ⟨w_running, w_runnable, w_alone, w_named, w_hears, w_ripe, w_room, w_tables⟩
theorem atStart : AtStart classFile x code maxLocals ret World_1 tables_1 room_1 Calls_1 rest_1 Pre_1 launch0 p0 e0 about1 theMethod args0 below0 :=
  ⟨lists_1, trivial, launch0.admits_env _ _ _, launch0.least_env, fairChoices_fair.cas, fairChoices_fair.clock, w_frames, w_args, w_heap, w_applies, trivial, trivial, w_case⟩
end start1
theorem witness_1 : WitnessClaimed_1 := ⟨start1.p0, start1.e0, start1.about1, start1.theMethod, start1.args0, start1.below0, start1.atStart⟩
end Jvm.Pilot.@@N@@
