import JvmDerived
import JvmDerived.Pilot.@@N@@Statement
import JvmDerived.Pilot.@@N@@Code
set_option linter.unusedVariables false
set_option linter.unusedSimpArgs false
@@BLOCK:NumsL.lean.txt@@
namespace Jvm.Pilot.@@N@@
open Jvm Jvm.ClassFile Sem Op Lib Jvm.Free Jvm.Stand Jvm.LawKit Jvm.RoadKit Bundle Jvm.Pilot.@@N@@.Jvm.D
/-- the run that stands at st comes to a return: Q says what is returned, the heap and the places written; at most kc cells and ks slots are new -/
def own_Ends (p : Program) (e : Env) (below : List Frame) (s : State) (kc ks : Nat) (Q : Option Value → Heap → List Loc → Prop) (st : State) : Prop :=
  ∃ s₂ o, Steps p.tables e below st s₂ ∧ s₂.status = .running ∧ Ended s₂ below o ∧ ∃ v L, o = .returned v ∧ Q v s₂.heap L ∧ FrameEnd s o s₂ L kc ks
theorem own_step {p : Program} {e : Env} {below : List Frame} {s : State} {kc ks : Nat} {Q : Option Value → Heap → List Loc → Prop} {st st' : State}
    (h : ∀ t, Steps p.tables e below st' t → Steps p.tables e below st t) (k : own_Ends p e below s kc ks Q st') : own_Ends p e below s kc ks Q st := by
  obtain ⟨s₂, o, h1, h2⟩ := k
  exact ⟨s₂, o, h _ h1, h2⟩
theorem own_ret {p : Program} {l : Launch} {e : Env} {R : Room} {s : State} {m : MethodId} {args : Array Value} {below : List Frame} {meth : Method} {c : Code} {T : State} {locs : List Loc} {cells slots : Nat} {kc ks : Nat} {Q : Option Value → Heap → List Loc → Prop} {st : State}
    (X : Stand p l e R s m args below meth c T locs cells slots) (hlocks : meth.locks = false) {v : Option Value} (hv : meth.sig.returnType = none → v = none) (hq : Q v T.heap locs) (hc : cells ≤ kc) (hs : slots ≤ ks)
    (hr : ∀ fs, (∀ (f : JFrame) (acts : List Action), f.method = m → f.locked = none → f.entered = [] → (doReturn e (T.setTop f) acts v).1 = T.setFrames fs) → Steps p.tables e below st (T.setFrames fs)) : own_Ends p e below s kc ks Q st := by
  obtain ⟨fs, h1, hrun, hended, hW, hsame⟩ := X.leave (v := v) hv hlocks
  exact ⟨_, _, hr fs h1, hrun, hended, v, locs, rfl, hq, ⟨_, rfl⟩, hW, hsame.mono hc hs⟩

theorem own_nb (x : Int32) : nar .byte x.toInt8.toInt32 = x.toInt8.toInt32 := by
  show x.toInt8.toInt32.toInt8.toInt32 = x.toInt8.toInt32
  rw [Int8.toInt8_toInt32]
def own_pick (x : Int32) : Int32 := if XT.ushr x 8 &&& 3 = 0 then 32 else if XT.ushr x 8 &&& 3 = 1 then 9 else if XT.ushr x 8 &&& 3 = 2 then 13 else x.toInt8.toInt32
theorem own_pickn (x : Int32) : nar .byte (own_pick x) = own_pick x := by
  unfold own_pick
  split
  · rfl
  split
  · rfl
  split
  · rfl
  exact own_nb x
def own_ok (b : Int32) : Int32 := if b = 32 then 1 else if b = 9 then 1 else if b = 13 then 1 else 0
def own_blank : List Int32 → Int32
  | [] => 1
  | b :: r => if own_ok b = 0 then 0 else own_blank r
theorem own_five (x : Int32) : ∀ r, r = ((x &&& (2147483647 : Int32)) - (x &&& (2147483647 : Int32)) / (5 : Int32) * (5 : Int32)) → r = 0 ∨ r = 1 ∨ r = 2 ∨ r = 3 ∨ r = 4 := by
  intro r hr
  have e := Jvm.Kit.i32_mask x 2147483647 (k := 31) (by decide) (by decide)
  generalize x &&& (2147483647 : Int32) = y at *
  rw [irem_eq_mod] at hr
  have h := Jvm.Kit.i32_rem_nonneg (x := y) (y := 5) (by omega)
  rw [← hr] at h
  have e5 : (5 : Int32).toInt = 5 := rfl
  rw [e5] at h
  have h2 : r.toInt = 0 ∨ r.toInt = 1 ∨ r.toInt = 2 ∨ r.toInt = 3 ∨ r.toInt = 4 := by omega
  rcases h2 with h | h | h | h | h
  · exact Or.inl (Int32.toInt_inj.mp h)
  · exact Or.inr (Or.inl (Int32.toInt_inj.mp h))
  · exact Or.inr (Or.inr (Or.inl (Int32.toInt_inj.mp h)))
  · exact Or.inr (Or.inr (Or.inr (Or.inl (Int32.toInt_inj.mp h))))
  · exact Or.inr (Or.inr (Or.inr (Or.inr (Int32.toInt_inj.mp h))))
theorem own_ti {i : Nat} (h : i < 1000) : (Int32.ofNat i).toInt = i := by rw [Int32.toInt_ofNat_of_lt (by omega)]
theorem own_tn {i : Nat} (h : i < 1000) : (Int32.ofNat i).toNatClampNeg = i := by simp only [Int32.toNatClampNeg, own_ti h]; omega
theorem own_il {i n : Nat} (h : i < n) (hn : n < 1000) : Int32.ofNat i < Int32.ofNat n := by rw [Int32.lt_iff_toInt_lt, own_ti (by omega), own_ti hn]; omega
theorem own_nl {i n : Nat} (h : ¬ i < n) (hi : i < 1000) (hn : n < 1000) : ¬ Int32.ofNat i < Int32.ofNat n := by rw [Int32.lt_iff_toInt_lt, own_ti hi, own_ti hn]; omega
theorem own_up (i : Nat) : Int32.ofNat i + 1 = Int32.ofNat (i + 1) := Int32.ofNat_succ i
theorem own_in {cl : Cell} {n i : Nat} (hS : cl.slots.size = n) (hn : n < 1000) (hi : i < n) : ¬ (Int32.ofNat i < 0 ∨ cl.slots.size ≤ (Int32.ofNat i).toNatClampNeg) := by
  rw [hS, own_tn (by omega), Int32.lt_iff_toInt_lt, own_ti (by omega)]
  have : (0 : Int32).toInt = 0 := rfl
  omega
theorem own_hat {cl : Cell} {bs : List Int32} {d : Value} (H : Has cl (bs.map Value.int) d) (hS : cl.slots.size = bs.length) : ∀ (i : Nat) (h : i < bs.length), cl.slots[i]? = some (.int bs[i]) := by
  intro i h
  rw [H i (by omega)]
  simp [List.getD_eq_getElem?_getD, h]
theorem own_cut {bs : List Int32} {i : Nat} (h : i < bs.length) : own_blank (bs.drop i) = if own_ok bs[i] = 0 then 0 else own_blank (bs.drop (i + 1)) := by
  rw [List.drop_eq_getElem_cons h]; rfl
theorem own_d1_0 : decode method_2_code 0 = .ok (.iload_n 0, 1) := by decide +kernel
theorem own_d1_1 : decode method_2_code 1 = .ok (.bipush 8, 2) := by decide +kernel
theorem own_d1_3 : decode method_2_code 3 = .ok (.iushr, 1) := by decide +kernel
theorem own_d1_4 : decode method_2_code 4 = .ok (.iconst 3, 1) := by decide +kernel
theorem own_d1_5 : decode method_2_code 5 = .ok (.iand, 1) := by decide +kernel
theorem own_d1_6 : decode method_2_code 6 = .ok (.istore_n 1, 1) := by decide +kernel
theorem own_d1_7 : decode method_2_code 7 = .ok (.iload_n 1, 1) := by decide +kernel
theorem own_d1_8 : decode method_2_code 8 = .ok (.ifCond .ne 6, 3) := by decide +kernel
theorem own_d1_11 : decode method_2_code 11 = .ok (.bipush 32, 2) := by decide +kernel
theorem own_d1_13 : decode method_2_code 13 = .ok (.ireturn, 1) := by decide +kernel
theorem own_d1_14 : decode method_2_code 14 = .ok (.iload_n 1, 1) := by decide +kernel
theorem own_d1_15 : decode method_2_code 15 = .ok (.iconst 1, 1) := by decide +kernel
theorem own_d1_16 : decode method_2_code 16 = .ok (.if_icmp .ne 6, 3) := by decide +kernel
theorem own_d1_19 : decode method_2_code 19 = .ok (.bipush 9, 2) := by decide +kernel
theorem own_d1_21 : decode method_2_code 21 = .ok (.ireturn, 1) := by decide +kernel
theorem own_d1_22 : decode method_2_code 22 = .ok (.iload_n 1, 1) := by decide +kernel
theorem own_d1_23 : decode method_2_code 23 = .ok (.iconst 2, 1) := by decide +kernel
theorem own_d1_24 : decode method_2_code 24 = .ok (.if_icmp .ne 6, 3) := by decide +kernel
theorem own_d1_27 : decode method_2_code 27 = .ok (.bipush 13, 2) := by decide +kernel
theorem own_d1_29 : decode method_2_code 29 = .ok (.ireturn, 1) := by decide +kernel
theorem own_d1_30 : decode method_2_code 30 = .ok (.iload_n 0, 1) := by decide +kernel
theorem own_d1_31 : decode method_2_code 31 = .ok (.i2b, 1) := by decide +kernel
theorem own_d1_32 : decode method_2_code 32 = .ok (.ireturn, 1) := by decide +kernel
theorem own_pn0 : plainName "com/example/rulewright/rulewright/cli/EventLinesIsBlankPinLaw" = true := by first | (simp [plainName, overriddenIn]; done) | decide +kernel
theorem own_ef1 (m : MethodId) (p0 : Int32) : entryFrame m #[(.int p0)] 2 = mkF m 0 #[.val (.int p0), .unset] [] := by first | (simp [entryFrame, mkF, argsToLocals, Value.category]; done) | rfl
def own_Q1 (Z : State) (p0 : Int32)  (h0 : Heap) (n0 : Nat) (v : Option Value) (h : Heap) (L : List Loc) : Prop := v = some (.int (own_pick p0)) ∧ Fr n0 L ∧ h = h0
set_option maxRecDepth 65536 in
set_option maxHeartbeats 40000000 in
theorem own_rm1 (l : Launch) (Z : State) (a0 : Array Value) (hw : ∀ d ∈ tables_1, d.before a0 Z = true) (ws : List Jvm.Cond) (p0 : Int32)  (h0 : Heap) (n0 : Nat) (Z0 : n0 ≤ h0.size)  :
    MetFree l (⟨"com/example/rulewright/rulewright/cli/EventLinesIsBlankPinLaw", "pick", "(I)B"⟩ : MethodName) (head1 (Jvm.Cond.code (⟨"com/example/rulewright/rulewright/cli/EventLinesIsBlankPinLaw", "pick", "(I)B"⟩ : MethodName) method_2_code 2 (some .byte) :: ws) ({ frames := 0, cells := 0, slots := 0, locals := 0 } : Room)) (fun a U => a = #[(.int p0)] ∧ Z.Warmed39 U.vm ∧ U.heap = h0) (fun _ _ _ _ _ => True) (fun _ U o U' => ∃ v L, o = .returned v ∧ own_Q1 Z p0  h0 n0 v U'.heap L ∧ FrameEnd U o U' L ({ frames := 0, cells := 0, slots := 0, locals := 0 } : Room).cells ({ frames := 0, cells := 0, slots := 0, locals := 0 } : Room).slots) := by
  refine MetFree.of_bodySF (plainFor_of_name own_pn0) hisR ?_
  intro p e s m args below meth c s₁ Bd hml0 hP hK
  obtain ⟨rfl, hZ, hh⟩ := hP
  have hx := Bd.exec
  have hby := Bd.bytes
  have hml : c.maxLocals = 2 := hml0
  have hown : s.vm.findClass "com/example/rulewright/rulewright/cli/EventLinesIsBlankPinLaw" = some m.cls := findClass_of_methodNamed Bd.named
  have hnm := (name_of_methodNamed Bd.named Bd.method).1
  have X0 : Stand p l e ({ frames := 0, cells := 0, slots := 0, locals := 0 } : Room) s m #[(.int p0)] below meth c s₁ [] 0 0 := Stand.of_body Bd
  have e0 : s₁.heap = h0 := by rw [← hh, Bd.state]; rfl
  have N0 := Fr.nil n0
  suffices H : own_Ends p e below s ({ frames := 0, cells := 0, slots := 0, locals := 0 } : Room).cells ({ frames := 0, cells := 0, slots := 0, locals := 0 } : Room).slots (own_Q1 Z p0  h0 n0) (s₁.setTop (mkF m 0 #[.val (.int p0), .unset] [])) by
    obtain ⟨s₂, o, h1, h2⟩ := H
    exact ⟨s₂, o, castTop (own_ef1 m p0) h1, h2⟩
  show own_Ends _ _ _ _ _ _ _ (s₁.setTop (mkF m 0 #[.val (.int p0), .unset] []))
  refine own_step (fun _ k => XS.iloadN X0.here hx rfl (hb hby own_d1_0) rfl k) ?_
  show own_Ends _ _ _ _ _ _ _ (s₁.setTop (mkF m 1 #[.val (.int p0), .unset] [(.int p0)]))
  refine own_step (fun _ k => XS.bipush X0.here hx rfl (hb hby own_d1_1) k) ?_
  show own_Ends _ _ _ _ _ _ _ (s₁.setTop (mkF m 3 #[.val (.int p0), .unset] [(.int (8 : Int32)), (.int p0)]))
  refine own_step (fun _ k => XT.iushr X0.here hx rfl (hb hby own_d1_3) rfl k) ?_
  show own_Ends _ _ _ _ _ _ _ (s₁.setTop (mkF m 4 #[.val (.int p0), .unset] [(.int (XT.ushr p0 (8 : Int32)))]))
  refine own_step (fun _ k => XS.iconst X0.here hx rfl (hb hby own_d1_4) k) ?_
  show own_Ends _ _ _ _ _ _ _ (s₁.setTop (mkF m 5 #[.val (.int p0), .unset] [(.int (3 : Int32)), (.int (XT.ushr p0 (8 : Int32)))]))
  refine own_step (fun _ k => XS.iand X0.here hx rfl (hb hby own_d1_5) rfl k) ?_
  show own_Ends _ _ _ _ _ _ _ (s₁.setTop (mkF m 6 #[.val (.int p0), .unset] [(.int ((XT.ushr p0 (8 : Int32)) &&& (3 : Int32)))]))
  refine own_step (fun _ k => XS.istoreN X0.here hx rfl (hb hby own_d1_6) rfl (l' := #[.val (.int p0), .val (.int ((XT.ushr p0 (8 : Int32)) &&& (3 : Int32)))]) rfl k) ?_
  show own_Ends _ _ _ _ _ _ _ (s₁.setTop (mkF m 7 #[.val (.int p0), .val (.int ((XT.ushr p0 (8 : Int32)) &&& (3 : Int32)))] []))
  refine own_step (fun _ k => XS.iloadN X0.here hx rfl (hb hby own_d1_7) rfl k) ?_
  show own_Ends _ _ _ _ _ _ _ (s₁.setTop (mkF m 8 #[.val (.int p0), .val (.int ((XT.ushr p0 (8 : Int32)) &&& (3 : Int32)))] [(.int ((XT.ushr p0 (8 : Int32)) &&& (3 : Int32)))]))
  by_cases h1 : ((XT.ushr p0 (8 : Int32)) &&& (3 : Int32)) = (0 : Int32)
  · refine own_step (fun _ k => XS.ifNo X0.here hx rfl (hb hby own_d1_8) rfl ((if0 _ _).trans (teq h1).2) k) ?_
    show own_Ends _ _ _ _ _ _ _ (s₁.setTop (mkF m 11 #[.val (.int p0), .val (.int ((XT.ushr p0 (8 : Int32)) &&& (3 : Int32)))] []))
    refine own_step (fun _ k => XS.bipush X0.here hx rfl (hb hby own_d1_11) k) ?_
    show own_Ends _ _ _ _ _ _ _ (s₁.setTop (mkF m 13 #[.val (.int p0), .val (.int ((XT.ushr p0 (8 : Int32)) &&& (3 : Int32)))] [(.int (32 : Int32))]))
    refine own_ret X0 (BodyLoose.notSynchronized Bd) (v := (some (.int (32 : Int32)))) (fun h => by rw [Bd.returns] at h; cases h) ?_ (by decide) (by decide) (fun fs hr => X0.ireturnOut hx Bd.returns rfl (by simp) (hb hby own_d1_13) hr)
    show own_Q1 Z p0  h0 n0 (some (.int (32 : Int32))) s₁.heap _
    rw [e0]
    exact ⟨by simp [own_pick, h1], N0, rfl⟩
  · refine own_step (fun _ k => XS.ifYes X0.here hx rfl (pc0 := 8) (pc' := 14) rfl (hb hby own_d1_8) rfl ((if0 _ _).trans (feq h1).2) (by decide) (by decide) k) ?_
    show own_Ends _ _ _ _ _ _ _ (s₁.setTop (mkF m 14 #[.val (.int p0), .val (.int ((XT.ushr p0 (8 : Int32)) &&& (3 : Int32)))] []))
    refine own_step (fun _ k => XS.iloadN X0.here hx rfl (hb hby own_d1_14) rfl k) ?_
    show own_Ends _ _ _ _ _ _ _ (s₁.setTop (mkF m 15 #[.val (.int p0), .val (.int ((XT.ushr p0 (8 : Int32)) &&& (3 : Int32)))] [(.int ((XT.ushr p0 (8 : Int32)) &&& (3 : Int32)))]))
    refine own_step (fun _ k => XS.iconst X0.here hx rfl (hb hby own_d1_15) k) ?_
    show own_Ends _ _ _ _ _ _ _ (s₁.setTop (mkF m 16 #[.val (.int p0), .val (.int ((XT.ushr p0 (8 : Int32)) &&& (3 : Int32)))] [(.int (1 : Int32)), (.int ((XT.ushr p0 (8 : Int32)) &&& (3 : Int32)))]))
    by_cases h2 : ((XT.ushr p0 (8 : Int32)) &&& (3 : Int32)) = (1 : Int32)
    · refine own_step (fun _ k => XS.icmpNo X0.here hx rfl (hb hby own_d1_16) rfl (teq h2).2 k) ?_
      show own_Ends _ _ _ _ _ _ _ (s₁.setTop (mkF m 19 #[.val (.int p0), .val (.int ((XT.ushr p0 (8 : Int32)) &&& (3 : Int32)))] []))
      refine own_step (fun _ k => XS.bipush X0.here hx rfl (hb hby own_d1_19) k) ?_
      show own_Ends _ _ _ _ _ _ _ (s₁.setTop (mkF m 21 #[.val (.int p0), .val (.int ((XT.ushr p0 (8 : Int32)) &&& (3 : Int32)))] [(.int (9 : Int32))]))
      refine own_ret X0 (BodyLoose.notSynchronized Bd) (v := (some (.int (9 : Int32)))) (fun h => by rw [Bd.returns] at h; cases h) ?_ (by decide) (by decide) (fun fs hr => X0.ireturnOut hx Bd.returns rfl (by simp) (hb hby own_d1_21) hr)
      show own_Q1 Z p0  h0 n0 (some (.int (9 : Int32))) s₁.heap _
      rw [e0]
      exact ⟨by simp [own_pick, h1, h2], N0, rfl⟩
    · refine own_step (fun _ k => XS.icmpYes X0.here hx rfl (pc0 := 16) (pc' := 22) rfl (hb hby own_d1_16) rfl (feq h2).2 (by decide) (by decide) k) ?_
      show own_Ends _ _ _ _ _ _ _ (s₁.setTop (mkF m 22 #[.val (.int p0), .val (.int ((XT.ushr p0 (8 : Int32)) &&& (3 : Int32)))] []))
      refine own_step (fun _ k => XS.iloadN X0.here hx rfl (hb hby own_d1_22) rfl k) ?_
      show own_Ends _ _ _ _ _ _ _ (s₁.setTop (mkF m 23 #[.val (.int p0), .val (.int ((XT.ushr p0 (8 : Int32)) &&& (3 : Int32)))] [(.int ((XT.ushr p0 (8 : Int32)) &&& (3 : Int32)))]))
      refine own_step (fun _ k => XS.iconst X0.here hx rfl (hb hby own_d1_23) k) ?_
      show own_Ends _ _ _ _ _ _ _ (s₁.setTop (mkF m 24 #[.val (.int p0), .val (.int ((XT.ushr p0 (8 : Int32)) &&& (3 : Int32)))] [(.int (2 : Int32)), (.int ((XT.ushr p0 (8 : Int32)) &&& (3 : Int32)))]))
      by_cases h3 : ((XT.ushr p0 (8 : Int32)) &&& (3 : Int32)) = (2 : Int32)
      · refine own_step (fun _ k => XS.icmpNo X0.here hx rfl (hb hby own_d1_24) rfl (teq h3).2 k) ?_
        show own_Ends _ _ _ _ _ _ _ (s₁.setTop (mkF m 27 #[.val (.int p0), .val (.int ((XT.ushr p0 (8 : Int32)) &&& (3 : Int32)))] []))
        refine own_step (fun _ k => XS.bipush X0.here hx rfl (hb hby own_d1_27) k) ?_
        show own_Ends _ _ _ _ _ _ _ (s₁.setTop (mkF m 29 #[.val (.int p0), .val (.int ((XT.ushr p0 (8 : Int32)) &&& (3 : Int32)))] [(.int (13 : Int32))]))
        refine own_ret X0 (BodyLoose.notSynchronized Bd) (v := (some (.int (13 : Int32)))) (fun h => by rw [Bd.returns] at h; cases h) ?_ (by decide) (by decide) (fun fs hr => X0.ireturnOut hx Bd.returns rfl (by simp) (hb hby own_d1_29) hr)
        show own_Q1 Z p0  h0 n0 (some (.int (13 : Int32))) s₁.heap _
        rw [e0]
        exact ⟨by simp [own_pick, h1, h2, h3], N0, rfl⟩
      · refine own_step (fun _ k => XS.icmpYes X0.here hx rfl (pc0 := 24) (pc' := 30) rfl (hb hby own_d1_24) rfl (feq h3).2 (by decide) (by decide) k) ?_
        show own_Ends _ _ _ _ _ _ _ (s₁.setTop (mkF m 30 #[.val (.int p0), .val (.int ((XT.ushr p0 (8 : Int32)) &&& (3 : Int32)))] []))
        refine own_step (fun _ k => XS.iloadN X0.here hx rfl (hb hby own_d1_30) rfl k) ?_
        show own_Ends _ _ _ _ _ _ _ (s₁.setTop (mkF m 31 #[.val (.int p0), .val (.int ((XT.ushr p0 (8 : Int32)) &&& (3 : Int32)))] [(.int p0)]))
        refine own_step (fun _ k => XS.i2b X0.here hx rfl (hb hby own_d1_31) rfl k) ?_
        show own_Ends _ _ _ _ _ _ _ (s₁.setTop (mkF m 32 #[.val (.int p0), .val (.int ((XT.ushr p0 (8 : Int32)) &&& (3 : Int32)))] [(.int ((p0).toInt8.toInt32))]))
        refine own_ret X0 (BodyLoose.notSynchronized Bd) (v := (some (.int ((p0).toInt8.toInt32)))) (fun h => by rw [Bd.returns] at h; cases h) ?_ (by decide) (by decide) (fun fs hr => X0.ireturnOut hx Bd.returns (congrArg Value.int (own_nb p0)) (by simp) (hb hby own_d1_32) hr)
        show own_Q1 Z p0  h0 n0 (some (.int ((p0).toInt8.toInt32))) s₁.heap _
        rw [e0]
        exact ⟨by simp [own_pick, h1, h2, h3], N0, rfl⟩
theorem own_d2_0 : decode method_3_code 0 = .ok (.iload_n 0, 1) := by decide +kernel
theorem own_d2_1 : decode method_3_code 1 = .ok (.bipush 32, 2) := by decide +kernel
theorem own_d2_3 : decode method_3_code 3 = .ok (.if_icmp .eq 15, 3) := by decide +kernel
theorem own_d2_6 : decode method_3_code 6 = .ok (.iload_n 0, 1) := by decide +kernel
theorem own_d2_7 : decode method_3_code 7 = .ok (.bipush 9, 2) := by decide +kernel
theorem own_d2_9 : decode method_3_code 9 = .ok (.if_icmp .eq 9, 3) := by decide +kernel
theorem own_d2_12 : decode method_3_code 12 = .ok (.iload_n 0, 1) := by decide +kernel
theorem own_d2_13 : decode method_3_code 13 = .ok (.bipush 13, 2) := by decide +kernel
theorem own_d2_15 : decode method_3_code 15 = .ok (.if_icmp .ne 7, 3) := by decide +kernel
theorem own_d2_18 : decode method_3_code 18 = .ok (.iconst 1, 1) := by decide +kernel
theorem own_d2_19 : decode method_3_code 19 = .ok (.goto 4, 3) := by decide +kernel
theorem own_d2_22 : decode method_3_code 22 = .ok (.iconst 0, 1) := by decide +kernel
theorem own_d2_23 : decode method_3_code 23 = .ok (.ireturn, 1) := by decide +kernel
theorem own_ef2 (m : MethodId) (p0 : Int32) : entryFrame m #[(.int p0)] 1 = mkF m 0 #[.val (.int p0)] [] := by first | (simp [entryFrame, mkF, argsToLocals, Value.category]; done) | rfl
def own_Q2 (Z : State) (p0 : Int32)  (h0 : Heap) (n0 : Nat) (v : Option Value) (h : Heap) (L : List Loc) : Prop := v = some (.int (own_ok p0)) ∧ Fr n0 L ∧ h = h0
set_option maxRecDepth 65536 in
set_option maxHeartbeats 40000000 in
theorem own_rm2 (l : Launch) (Z : State) (a0 : Array Value) (hw : ∀ d ∈ tables_1, d.before a0 Z = true) (ws : List Jvm.Cond) (p0 : Int32)  (h0 : Heap) (n0 : Nat) (Z0 : n0 ≤ h0.size)  :
    MetFree l (⟨"com/example/rulewright/rulewright/cli/EventLinesIsBlankPinLaw", "ok", "(B)Z"⟩ : MethodName) (head1 (Jvm.Cond.code (⟨"com/example/rulewright/rulewright/cli/EventLinesIsBlankPinLaw", "ok", "(B)Z"⟩ : MethodName) method_3_code 1 (some .boolean) :: ws) ({ frames := 0, cells := 0, slots := 0, locals := 0 } : Room)) (fun a U => a = #[(.int p0)] ∧ Z.Warmed39 U.vm ∧ U.heap = h0) (fun _ _ _ _ _ => True) (fun _ U o U' => ∃ v L, o = .returned v ∧ own_Q2 Z p0  h0 n0 v U'.heap L ∧ FrameEnd U o U' L ({ frames := 0, cells := 0, slots := 0, locals := 0 } : Room).cells ({ frames := 0, cells := 0, slots := 0, locals := 0 } : Room).slots) := by
  refine MetFree.of_bodySF (plainFor_of_name own_pn0) hisR ?_
  intro p e s m args below meth c s₁ Bd hml0 hP hK
  obtain ⟨rfl, hZ, hh⟩ := hP
  have hx := Bd.exec
  have hby := Bd.bytes
  have hml : c.maxLocals = 1 := hml0
  have hown : s.vm.findClass "com/example/rulewright/rulewright/cli/EventLinesIsBlankPinLaw" = some m.cls := findClass_of_methodNamed Bd.named
  have hnm := (name_of_methodNamed Bd.named Bd.method).1
  have X0 : Stand p l e ({ frames := 0, cells := 0, slots := 0, locals := 0 } : Room) s m #[(.int p0)] below meth c s₁ [] 0 0 := Stand.of_body Bd
  have e0 : s₁.heap = h0 := by rw [← hh, Bd.state]; rfl
  have N0 := Fr.nil n0
  suffices H : own_Ends p e below s ({ frames := 0, cells := 0, slots := 0, locals := 0 } : Room).cells ({ frames := 0, cells := 0, slots := 0, locals := 0 } : Room).slots (own_Q2 Z p0  h0 n0) (s₁.setTop (mkF m 0 #[.val (.int p0)] [])) by
    obtain ⟨s₂, o, h1, h2⟩ := H
    exact ⟨s₂, o, castTop (own_ef2 m p0) h1, h2⟩
  show own_Ends _ _ _ _ _ _ _ (s₁.setTop (mkF m 0 #[.val (.int p0)] []))
  refine own_step (fun _ k => XS.iloadN X0.here hx rfl (hb hby own_d2_0) rfl k) ?_
  show own_Ends _ _ _ _ _ _ _ (s₁.setTop (mkF m 1 #[.val (.int p0)] [(.int p0)]))
  refine own_step (fun _ k => XS.bipush X0.here hx rfl (hb hby own_d2_1) k) ?_
  show own_Ends _ _ _ _ _ _ _ (s₁.setTop (mkF m 3 #[.val (.int p0)] [(.int (32 : Int32)), (.int p0)]))
  by_cases h1 : p0 = (32 : Int32)
  · refine own_step (fun _ k => XS.icmpYes X0.here hx rfl (pc0 := 3) (pc' := 18) rfl (hb hby own_d2_3) rfl (teq h1).1 (by decide) (by decide) k) ?_
    show own_Ends _ _ _ _ _ _ _ (s₁.setTop (mkF m 18 #[.val (.int p0)] []))
    refine own_step (fun _ k => XS.iconst X0.here hx rfl (hb hby own_d2_18) k) ?_
    show own_Ends _ _ _ _ _ _ _ (s₁.setTop (mkF m 19 #[.val (.int p0)] [(.int (1 : Int32))]))
    refine own_step (fun _ k => XS.goto X0.here hx rfl (pc0 := 19) (pc' := 23) rfl (hb hby own_d2_19) (by decide) (by decide) k) ?_
    show own_Ends _ _ _ _ _ _ _ (s₁.setTop (mkF m 23 #[.val (.int p0)] [(.int (1 : Int32))]))
    refine own_ret X0 (BodyLoose.notSynchronized Bd) (v := (some (.int (1 : Int32)))) (fun h => by rw [Bd.returns] at h; cases h) ?_ (by decide) (by decide) (fun fs hr => X0.ireturnOut hx Bd.returns rfl (by simp) (hb hby own_d2_23) hr)
    show own_Q2 Z p0  h0 n0 (some (.int (1 : Int32))) s₁.heap _
    rw [e0]
    exact ⟨by simp [own_ok, h1], N0, rfl⟩
  · refine own_step (fun _ k => XS.icmpNo X0.here hx rfl (hb hby own_d2_3) rfl (feq h1).1 k) ?_
    show own_Ends _ _ _ _ _ _ _ (s₁.setTop (mkF m 6 #[.val (.int p0)] []))
    refine own_step (fun _ k => XS.iloadN X0.here hx rfl (hb hby own_d2_6) rfl k) ?_
    show own_Ends _ _ _ _ _ _ _ (s₁.setTop (mkF m 7 #[.val (.int p0)] [(.int p0)]))
    refine own_step (fun _ k => XS.bipush X0.here hx rfl (hb hby own_d2_7) k) ?_
    show own_Ends _ _ _ _ _ _ _ (s₁.setTop (mkF m 9 #[.val (.int p0)] [(.int (9 : Int32)), (.int p0)]))
    by_cases h2 : p0 = (9 : Int32)
    · refine own_step (fun _ k => XS.icmpYes X0.here hx rfl (pc0 := 9) (pc' := 18) rfl (hb hby own_d2_9) rfl (teq h2).1 (by decide) (by decide) k) ?_
      show own_Ends _ _ _ _ _ _ _ (s₁.setTop (mkF m 18 #[.val (.int p0)] []))
      refine own_step (fun _ k => XS.iconst X0.here hx rfl (hb hby own_d2_18) k) ?_
      show own_Ends _ _ _ _ _ _ _ (s₁.setTop (mkF m 19 #[.val (.int p0)] [(.int (1 : Int32))]))
      refine own_step (fun _ k => XS.goto X0.here hx rfl (pc0 := 19) (pc' := 23) rfl (hb hby own_d2_19) (by decide) (by decide) k) ?_
      show own_Ends _ _ _ _ _ _ _ (s₁.setTop (mkF m 23 #[.val (.int p0)] [(.int (1 : Int32))]))
      refine own_ret X0 (BodyLoose.notSynchronized Bd) (v := (some (.int (1 : Int32)))) (fun h => by rw [Bd.returns] at h; cases h) ?_ (by decide) (by decide) (fun fs hr => X0.ireturnOut hx Bd.returns rfl (by simp) (hb hby own_d2_23) hr)
      show own_Q2 Z p0  h0 n0 (some (.int (1 : Int32))) s₁.heap _
      rw [e0]
      exact ⟨by simp [own_ok, h1, h2], N0, rfl⟩
    · refine own_step (fun _ k => XS.icmpNo X0.here hx rfl (hb hby own_d2_9) rfl (feq h2).1 k) ?_
      show own_Ends _ _ _ _ _ _ _ (s₁.setTop (mkF m 12 #[.val (.int p0)] []))
      refine own_step (fun _ k => XS.iloadN X0.here hx rfl (hb hby own_d2_12) rfl k) ?_
      show own_Ends _ _ _ _ _ _ _ (s₁.setTop (mkF m 13 #[.val (.int p0)] [(.int p0)]))
      refine own_step (fun _ k => XS.bipush X0.here hx rfl (hb hby own_d2_13) k) ?_
      show own_Ends _ _ _ _ _ _ _ (s₁.setTop (mkF m 15 #[.val (.int p0)] [(.int (13 : Int32)), (.int p0)]))
      by_cases h3 : p0 = (13 : Int32)
      · refine own_step (fun _ k => XS.icmpNo X0.here hx rfl (hb hby own_d2_15) rfl (teq h3).2 k) ?_
        show own_Ends _ _ _ _ _ _ _ (s₁.setTop (mkF m 18 #[.val (.int p0)] []))
        refine own_step (fun _ k => XS.iconst X0.here hx rfl (hb hby own_d2_18) k) ?_
        show own_Ends _ _ _ _ _ _ _ (s₁.setTop (mkF m 19 #[.val (.int p0)] [(.int (1 : Int32))]))
        refine own_step (fun _ k => XS.goto X0.here hx rfl (pc0 := 19) (pc' := 23) rfl (hb hby own_d2_19) (by decide) (by decide) k) ?_
        show own_Ends _ _ _ _ _ _ _ (s₁.setTop (mkF m 23 #[.val (.int p0)] [(.int (1 : Int32))]))
        refine own_ret X0 (BodyLoose.notSynchronized Bd) (v := (some (.int (1 : Int32)))) (fun h => by rw [Bd.returns] at h; cases h) ?_ (by decide) (by decide) (fun fs hr => X0.ireturnOut hx Bd.returns rfl (by simp) (hb hby own_d2_23) hr)
        show own_Q2 Z p0  h0 n0 (some (.int (1 : Int32))) s₁.heap _
        rw [e0]
        exact ⟨by simp [own_ok, h1, h2, h3], N0, rfl⟩
      · refine own_step (fun _ k => XS.icmpYes X0.here hx rfl (pc0 := 15) (pc' := 22) rfl (hb hby own_d2_15) rfl (feq h3).2 (by decide) (by decide) k) ?_
        show own_Ends _ _ _ _ _ _ _ (s₁.setTop (mkF m 22 #[.val (.int p0)] []))
        refine own_step (fun _ k => XS.iconst X0.here hx rfl (hb hby own_d2_22) k) ?_
        show own_Ends _ _ _ _ _ _ _ (s₁.setTop (mkF m 23 #[.val (.int p0)] [(.int (0 : Int32))]))
        refine own_ret X0 (BodyLoose.notSynchronized Bd) (v := (some (.int (0 : Int32)))) (fun h => by rw [Bd.returns] at h; cases h) ?_ (by decide) (by decide) (fun fs hr => X0.ireturnOut hx Bd.returns rfl (by simp) (hb hby own_d2_23) hr)
        show own_Q2 Z p0  h0 n0 (some (.int (0 : Int32))) s₁.heap _
        rw [e0]
        exact ⟨by simp [own_ok, h1, h2, h3], N0, rfl⟩
theorem own_d3_0 : decode prog_16_method_2_code 0 = .ok (.aload_n 0, 1) := by decide +kernel
theorem own_d3_1 : decode prog_16_method_2_code 1 = .ok (.astore_n 1, 1) := by decide +kernel
theorem own_d3_2 : decode prog_16_method_2_code 2 = .ok (.aload_n 1, 1) := by decide +kernel
theorem own_d3_3 : decode prog_16_method_2_code 3 = .ok (.arraylength, 1) := by decide +kernel
theorem own_d3_4 : decode prog_16_method_2_code 4 = .ok (.istore_n 2, 1) := by decide +kernel
theorem own_d3_5 : decode prog_16_method_2_code 5 = .ok (.iconst 0, 1) := by decide +kernel
theorem own_d3_6 : decode prog_16_method_2_code 6 = .ok (.istore_n 3, 1) := by decide +kernel
theorem own_d3_7 : decode prog_16_method_2_code 7 = .ok (.iload_n 3, 1) := by decide +kernel
theorem own_d3_8 : decode prog_16_method_2_code 8 = .ok (.iload_n 2, 1) := by decide +kernel
theorem own_d3_9 : decode prog_16_method_2_code 9 = .ok (.if_icmp .ge 37, 3) := by decide +kernel
theorem own_d3_12 : decode prog_16_method_2_code 12 = .ok (.aload_n 1, 1) := by decide +kernel
theorem own_d3_13 : decode prog_16_method_2_code 13 = .ok (.iload_n 3, 1) := by decide +kernel
theorem own_d3_14 : decode prog_16_method_2_code 14 = .ok (.baload, 1) := by decide +kernel
theorem own_d3_15 : decode prog_16_method_2_code 15 = .ok (.istore 4, 2) := by decide +kernel
theorem own_d3_17 : decode prog_16_method_2_code 17 = .ok (.iload 4, 2) := by decide +kernel
theorem own_d3_19 : decode prog_16_method_2_code 19 = .ok (.bipush 32, 2) := by decide +kernel
theorem own_d3_21 : decode prog_16_method_2_code 21 = .ok (.if_icmp .eq 19, 3) := by decide +kernel
theorem own_d3_24 : decode prog_16_method_2_code 24 = .ok (.iload 4, 2) := by decide +kernel
theorem own_d3_26 : decode prog_16_method_2_code 26 = .ok (.bipush 9, 2) := by decide +kernel
theorem own_d3_28 : decode prog_16_method_2_code 28 = .ok (.if_icmp .eq 12, 3) := by decide +kernel
theorem own_d3_31 : decode prog_16_method_2_code 31 = .ok (.iload 4, 2) := by decide +kernel
theorem own_d3_33 : decode prog_16_method_2_code 33 = .ok (.bipush 13, 2) := by decide +kernel
theorem own_d3_35 : decode prog_16_method_2_code 35 = .ok (.if_icmp .eq 5, 3) := by decide +kernel
theorem own_d3_38 : decode prog_16_method_2_code 38 = .ok (.iconst 0, 1) := by decide +kernel
theorem own_d3_39 : decode prog_16_method_2_code 39 = .ok (.ireturn, 1) := by decide +kernel
theorem own_d3_40 : decode prog_16_method_2_code 40 = .ok (.iinc 3 1, 3) := by decide +kernel
theorem own_d3_43 : decode prog_16_method_2_code 43 = .ok (.goto (-36), 3) := by decide +kernel
theorem own_d3_46 : decode prog_16_method_2_code 46 = .ok (.iconst 1, 1) := by decide +kernel
theorem own_d3_47 : decode prog_16_method_2_code 47 = .ok (.ireturn, 1) := by decide +kernel
theorem own_pn1 : plainName "com/example/rulewright/rulewright/cli/EventLines" = true := by first | (simp [plainName, overriddenIn]; done) | decide +kernel
theorem own_ef3 (m : MethodId) (r0 : Addr) : entryFrame m #[(.ref r0)] 5 = mkF m 0 #[.val (.ref r0), .unset, .unset, .unset, .unset] [] := by first | (simp [entryFrame, mkF, argsToLocals, Value.category]; done) | rfl
def own_Q3 (Z : State) (r0 : Addr) (cl : Cell) (bs : List Int32) (h0 : Heap) (n0 : Nat) (v : Option Value) (h : Heap) (L : List Loc) : Prop := v = some (.int (own_blank bs)) ∧ Fr n0 L ∧ h = h0
set_option maxRecDepth 65536 in
set_option maxHeartbeats 40000000 in
theorem own_rm3 (l : Launch) (Z : State) (a0 : Array Value) (hw : ∀ d ∈ tables_1, d.before a0 Z = true) (ws : List Jvm.Cond) (r0 : Addr) (cl : Cell) (bs : List Int32) (h0 : Heap) (n0 : Nat) (Z0 : n0 ≤ h0.size) (Ar : Arr Z h0 r0 cl .byte) (hS : cl.slots.size = bs.length) (hM : bs.length < 999) (hat : ∀ (i : Nat) (h : i < bs.length), cl.slots[i]? = some (.int bs[i])) :
    MetFree l (⟨"com/example/rulewright/rulewright/cli/EventLines", "isBlank", "([B)Z"⟩ : MethodName) (head1 (Jvm.Cond.code (⟨"com/example/rulewright/rulewright/cli/EventLines", "isBlank", "([B)Z"⟩ : MethodName) prog_16_method_2_code 5 (some .boolean) :: ws) ({ frames := 0, cells := 0, slots := 0, locals := 0 } : Room)) (fun a U => a = #[(.ref r0)] ∧ Z.Warmed39 U.vm ∧ U.heap = h0) (fun _ _ _ _ _ => True) (fun _ U o U' => ∃ v L, o = .returned v ∧ own_Q3 Z r0 cl bs h0 n0 v U'.heap L ∧ FrameEnd U o U' L ({ frames := 0, cells := 0, slots := 0, locals := 0 } : Room).cells ({ frames := 0, cells := 0, slots := 0, locals := 0 } : Room).slots) := by
  refine MetFree.of_bodySF (plainFor_of_name own_pn1) hisR ?_
  intro p e s m args below meth c s₁ Bd hml0 hP hK
  obtain ⟨rfl, hZ, hh⟩ := hP
  have hx := Bd.exec
  have hby := Bd.bytes
  have hml : c.maxLocals = 5 := hml0
  have hown : s.vm.findClass "com/example/rulewright/rulewright/cli/EventLines" = some m.cls := findClass_of_methodNamed Bd.named
  have hnm := (name_of_methodNamed Bd.named Bd.method).1
  have X0 : Stand p l e ({ frames := 0, cells := 0, slots := 0, locals := 0 } : Room) s m #[(.ref r0)] below meth c s₁ [] 0 0 := Stand.of_body Bd
  have e0 : s₁.heap = h0 := by rw [← hh, Bd.state]; rfl
  have N0 := Fr.nil n0
  suffices H : own_Ends p e below s ({ frames := 0, cells := 0, slots := 0, locals := 0 } : Room).cells ({ frames := 0, cells := 0, slots := 0, locals := 0 } : Room).slots (own_Q3 Z r0 cl bs h0 n0) (s₁.setTop (mkF m 0 #[.val (.ref r0), .unset, .unset, .unset, .unset] [])) by
    obtain ⟨s₂, o, h1, h2⟩ := H
    exact ⟨s₂, o, castTop (own_ef3 m r0) h1, h2⟩
  show own_Ends _ _ _ _ _ _ _ (s₁.setTop (mkF m 0 #[.val (.ref r0), .unset, .unset, .unset, .unset] []))
  refine own_step (fun _ k => XS.aloadN X0.here hx rfl (hb hby own_d3_0) rfl rfl k) ?_
  show own_Ends _ _ _ _ _ _ _ (s₁.setTop (mkF m 1 #[.val (.ref r0), .unset, .unset, .unset, .unset] [(.ref r0)]))
  refine own_step (fun _ k => XS.astoreN X0.here hx rfl (hb hby own_d3_1) rfl rfl (l' := #[.val (.ref r0), .val (.ref r0), .unset, .unset, .unset]) rfl k) ?_
  show own_Ends _ _ _ _ _ _ _ (s₁.setTop (mkF m 2 #[.val (.ref r0), .val (.ref r0), .unset, .unset, .unset] []))
  refine own_step (fun _ k => XS.aloadN X0.here hx rfl (hb hby own_d3_2) rfl rfl k) ?_
  show own_Ends _ _ _ _ _ _ _ (s₁.setTop (mkF m 3 #[.val (.ref r0), .val (.ref r0), .unset, .unset, .unset] [(.ref r0)]))
  refine own_step (fun _ k => X0.arraylength hx (by rw [e0]; exact Ar.1) (State.isArrayOf_alike hZ.alike Ar.2.1) (g := (mkF m 3 #[.val (.ref r0), .val (.ref r0), .unset, .unset, .unset] [(.ref r0)])) rfl rfl (hb hby own_d3_3) _ k) ?_
  rw [hS]
  show own_Ends _ _ _ _ _ _ _ (s₁.setTop (mkF m 4 #[.val (.ref r0), .val (.ref r0), .unset, .unset, .unset] [(.int (Int32.ofNat bs.length))]))
  refine own_step (fun _ k => XS.istoreN X0.here hx rfl (hb hby own_d3_4) rfl (l' := #[.val (.ref r0), .val (.ref r0), .val (.int (Int32.ofNat bs.length)), .unset, .unset]) rfl k) ?_
  show own_Ends _ _ _ _ _ _ _ (s₁.setTop (mkF m 5 #[.val (.ref r0), .val (.ref r0), .val (.int (Int32.ofNat bs.length)), .unset, .unset] []))
  refine own_step (fun _ k => XS.iconst X0.here hx rfl (hb hby own_d3_5) k) ?_
  show own_Ends _ _ _ _ _ _ _ (s₁.setTop (mkF m 6 #[.val (.ref r0), .val (.ref r0), .val (.int (Int32.ofNat bs.length)), .unset, .unset] [(.int (0 : Int32))]))
  refine own_step (fun _ k => XS.istoreN X0.here hx rfl (hb hby own_d3_6) rfl (l' := #[.val (.ref r0), .val (.ref r0), .val (.int (Int32.ofNat bs.length)), .val (.int (0 : Int32)), .unset]) rfl k) ?_
  show own_Ends _ _ _ _ _ _ _ (s₁.setTop (mkF m 7 #[.val (.ref r0), .val (.ref r0), .val (.int (Int32.ofNat bs.length)), .val (.int (0 : Int32)), .unset] []))
  have loop : ∀ (k i : Nat) (sl : Slot), One sl → i + k = bs.length → own_blank bs = own_blank (bs.drop i) → own_Ends p e below s ({ frames := 0, cells := 0, slots := 0, locals := 0 } : Room).cells ({ frames := 0, cells := 0, slots := 0, locals := 0 } : Room).slots (own_Q3 Z r0 cl bs h0 n0) (s₁.setTop (mkF m 7 #[.val (.ref r0), .val (.ref r0), .val (.int (Int32.ofNat bs.length)), .val (.int (Int32.ofNat i)), sl] [])) := by
    intro k
    induction k with
    | zero =>
      intro i sl hsl hk hbl
      show own_Ends _ _ _ _ _ _ _ (s₁.setTop (mkF m 7 #[.val (.ref r0), .val (.ref r0), .val (.int (Int32.ofNat bs.length)), .val (.int (Int32.ofNat i)), sl] []))
      refine own_step (fun _ k => XS.iloadN X0.here hx rfl (hb hby own_d3_7) rfl k) ?_
      show own_Ends _ _ _ _ _ _ _ (s₁.setTop (mkF m 8 #[.val (.ref r0), .val (.ref r0), .val (.int (Int32.ofNat bs.length)), .val (.int (Int32.ofNat i)), sl] [(.int (Int32.ofNat i))]))
      refine own_step (fun _ k => XS.iloadN X0.here hx rfl (hb hby own_d3_8) rfl k) ?_
      show own_Ends _ _ _ _ _ _ _ (s₁.setTop (mkF m 9 #[.val (.ref r0), .val (.ref r0), .val (.int (Int32.ofNat bs.length)), .val (.int (Int32.ofNat i)), sl] [(.int (Int32.ofNat bs.length)), (.int (Int32.ofNat i))]))
      refine own_step (fun _ k => XS.icmpYes X0.here hx rfl (pc0 := 9) (pc' := 46) rfl (hb hby own_d3_9) rfl (flt (own_nl (by omega) (by omega) (by omega))).2.1 (by decide) (by decide) k) ?_
      show own_Ends _ _ _ _ _ _ _ (s₁.setTop (mkF m 46 #[.val (.ref r0), .val (.ref r0), .val (.int (Int32.ofNat bs.length)), .val (.int (Int32.ofNat i)), sl] []))
      refine own_step (fun _ k => XS.iconst X0.here hx rfl (hb hby own_d3_46) k) ?_
      show own_Ends _ _ _ _ _ _ _ (s₁.setTop (mkF m 47 #[.val (.ref r0), .val (.ref r0), .val (.int (Int32.ofNat bs.length)), .val (.int (Int32.ofNat i)), sl] [(.int (1 : Int32))]))
      refine own_ret X0 (BodyLoose.notSynchronized Bd) (v := (some (.int (1 : Int32)))) (fun h => by rw [Bd.returns] at h; cases h) ?_ (by decide) (by decide) (fun fs hr => X0.ireturnOut hx Bd.returns rfl (by simp) (hb hby own_d3_47) hr)
      show own_Q3 Z r0 cl bs h0 n0 (some (.int (1 : Int32))) s₁.heap _
      rw [e0]
      exact ⟨by rw [hbl, List.drop_eq_nil_of_le (by omega)]; rfl, N0, rfl⟩
    | succ k ih =>
      intro i sl hsl hk hbl
      have hi : i < bs.length := by omega
      rw [own_cut hi] at hbl
      have hv : cl.slots[(Int32.ofNat i).toNatClampNeg]? = some (.int bs[i]) := by rw [own_tn (by omega)]; exact hat i hi
      show own_Ends _ _ _ _ _ _ _ (s₁.setTop (mkF m 7 #[.val (.ref r0), .val (.ref r0), .val (.int (Int32.ofNat bs.length)), .val (.int (Int32.ofNat i)), sl] []))
      refine own_step (fun _ k => XS.iloadN X0.here hx rfl (hb hby own_d3_7) rfl k) ?_
      show own_Ends _ _ _ _ _ _ _ (s₁.setTop (mkF m 8 #[.val (.ref r0), .val (.ref r0), .val (.int (Int32.ofNat bs.length)), .val (.int (Int32.ofNat i)), sl] [(.int (Int32.ofNat i))]))
      refine own_step (fun _ k => XS.iloadN X0.here hx rfl (hb hby own_d3_8) rfl k) ?_
      show own_Ends _ _ _ _ _ _ _ (s₁.setTop (mkF m 9 #[.val (.ref r0), .val (.ref r0), .val (.int (Int32.ofNat bs.length)), .val (.int (Int32.ofNat i)), sl] [(.int (Int32.ofNat bs.length)), (.int (Int32.ofNat i))]))
      refine own_step (fun _ k => XS.icmpNo X0.here hx rfl (hb hby own_d3_9) rfl (tlt (own_il hi (by omega))).2.1 k) ?_
      show own_Ends _ _ _ _ _ _ _ (s₁.setTop (mkF m 12 #[.val (.ref r0), .val (.ref r0), .val (.int (Int32.ofNat bs.length)), .val (.int (Int32.ofNat i)), sl] []))
      refine own_step (fun _ k => XS.aloadN X0.here hx rfl (hb hby own_d3_12) rfl rfl k) ?_
      show own_Ends _ _ _ _ _ _ _ (s₁.setTop (mkF m 13 #[.val (.ref r0), .val (.ref r0), .val (.int (Int32.ofNat bs.length)), .val (.int (Int32.ofNat i)), sl] [(.ref r0)]))
      refine own_step (fun _ k => XS.iloadN X0.here hx rfl (hb hby own_d3_13) rfl k) ?_
      show own_Ends _ _ _ _ _ _ _ (s₁.setTop (mkF m 14 #[.val (.ref r0), .val (.ref r0), .val (.int (Int32.ofNat bs.length)), .val (.int (Int32.ofNat i)), sl] [(.int (Int32.ofNat i)), (.ref r0)]))
      refine own_step (fun _ k => X0.baloadBytes hx (j := (Int32.ofNat i)) (v := (.int bs[i])) (by rw [e0]; exact Ar.1) (State.isArrayOf_alike hZ.alike Ar.2.1) Ar.2.2 (own_in hS (by omega) hi) hv (g := (mkF m 14 #[.val (.ref r0), .val (.ref r0), .val (.int (Int32.ofNat bs.length)), .val (.int (Int32.ofNat i)), sl] [(.int (Int32.ofNat i)), (.ref r0)])) rfl rfl (hb hby own_d3_14) _ k) ?_
      show own_Ends _ _ _ _ _ _ _ (s₁.setTop (mkF m 15 #[.val (.ref r0), .val (.ref r0), .val (.int (Int32.ofNat bs.length)), .val (.int (Int32.ofNat i)), sl] [(.int bs[i])]))
      generalize bs[i] = b at hbl hv ⊢
      refine own_step (fun _ k => XS.istore X0.here hx rfl (hb hby own_d3_15) rfl (l' := #[.val (.ref r0), .val (.ref r0), .val (.int (Int32.ofNat bs.length)), .val (.int (Int32.ofNat i)), .val (.int b)]) (by rcases hsl with rfl | ⟨w, rfl, hw⟩ <;> first | rfl | (cases w <;> first | rfl | (simp [Value.category] at hw))) k) ?_
      show own_Ends _ _ _ _ _ _ _ (s₁.setTop (mkF m 17 #[.val (.ref r0), .val (.ref r0), .val (.int (Int32.ofNat bs.length)), .val (.int (Int32.ofNat i)), .val (.int b)] []))
      have J40_1 : ∀ (hok : ¬ own_ok b = 0), own_Ends p e below s ({ frames := 0, cells := 0, slots := 0, locals := 0 } : Room).cells ({ frames := 0, cells := 0, slots := 0, locals := 0 } : Room).slots (own_Q3 Z r0 cl bs h0 n0) (s₁.setTop (mkF m 40 #[.val (.ref r0), .val (.ref r0), .val (.int (Int32.ofNat bs.length)), .val (.int (Int32.ofNat i)), .val (.int b)] [])) := by
        intro hok
        show own_Ends _ _ _ _ _ _ _ (s₁.setTop (mkF m 40 #[.val (.ref r0), .val (.ref r0), .val (.int (Int32.ofNat bs.length)), .val (.int (Int32.ofNat i)), .val (.int b)] []))
        refine own_step (fun _ k => XS.iinc X0.here hx rfl (hb hby own_d3_40) rfl (l' := #[.val (.ref r0), .val (.ref r0), .val (.int (Int32.ofNat bs.length)), .val (.int ((Int32.ofNat i) + (1 : Int32))), .val (.int b)]) rfl k) ?_
        show own_Ends _ _ _ _ _ _ _ (s₁.setTop (mkF m 43 #[.val (.ref r0), .val (.ref r0), .val (.int (Int32.ofNat bs.length)), .val (.int ((Int32.ofNat i) + (1 : Int32))), .val (.int b)] []))
        rw [own_up]
        show own_Ends _ _ _ _ _ _ _ (s₁.setTop (mkF m 43 #[.val (.ref r0), .val (.ref r0), .val (.int (Int32.ofNat bs.length)), .val (.int (Int32.ofNat (i + 1))), .val (.int b)] []))
        refine own_step (fun _ k => XS.goto X0.here hx rfl (pc0 := 43) (pc' := 7) rfl (hb hby own_d3_43) (by decide) (by decide) k) ?_
        show own_Ends _ _ _ _ _ _ _ (s₁.setTop (mkF m 7 #[.val (.ref r0), .val (.ref r0), .val (.int (Int32.ofNat bs.length)), .val (.int (Int32.ofNat (i + 1))), .val (.int b)] []))
        rw [if_neg hok] at hbl
        exact ih (i + 1) _ (One.val rfl) (by omega) hbl
      refine own_step (fun _ k => XS.iload X0.here hx rfl (hb hby own_d3_17) rfl k) ?_
      show own_Ends _ _ _ _ _ _ _ (s₁.setTop (mkF m 19 #[.val (.ref r0), .val (.ref r0), .val (.int (Int32.ofNat bs.length)), .val (.int (Int32.ofNat i)), .val (.int b)] [(.int b)]))
      refine own_step (fun _ k => XS.bipush X0.here hx rfl (hb hby own_d3_19) k) ?_
      show own_Ends _ _ _ _ _ _ _ (s₁.setTop (mkF m 21 #[.val (.ref r0), .val (.ref r0), .val (.int (Int32.ofNat bs.length)), .val (.int (Int32.ofNat i)), .val (.int b)] [(.int (32 : Int32)), (.int b)]))
      by_cases h1 : b = (32 : Int32)
      · refine own_step (fun _ k => XS.icmpYes X0.here hx rfl (pc0 := 21) (pc' := 40) rfl (hb hby own_d3_21) rfl (teq h1).1 (by decide) (by decide) k) ?_
        show own_Ends _ _ _ _ _ _ _ (s₁.setTop (mkF m 40 #[.val (.ref r0), .val (.ref r0), .val (.int (Int32.ofNat bs.length)), .val (.int (Int32.ofNat i)), .val (.int b)] []))
        exact J40_1 (by simp [own_ok, h1])
      · refine own_step (fun _ k => XS.icmpNo X0.here hx rfl (hb hby own_d3_21) rfl (feq h1).1 k) ?_
        show own_Ends _ _ _ _ _ _ _ (s₁.setTop (mkF m 24 #[.val (.ref r0), .val (.ref r0), .val (.int (Int32.ofNat bs.length)), .val (.int (Int32.ofNat i)), .val (.int b)] []))
        refine own_step (fun _ k => XS.iload X0.here hx rfl (hb hby own_d3_24) rfl k) ?_
        show own_Ends _ _ _ _ _ _ _ (s₁.setTop (mkF m 26 #[.val (.ref r0), .val (.ref r0), .val (.int (Int32.ofNat bs.length)), .val (.int (Int32.ofNat i)), .val (.int b)] [(.int b)]))
        refine own_step (fun _ k => XS.bipush X0.here hx rfl (hb hby own_d3_26) k) ?_
        show own_Ends _ _ _ _ _ _ _ (s₁.setTop (mkF m 28 #[.val (.ref r0), .val (.ref r0), .val (.int (Int32.ofNat bs.length)), .val (.int (Int32.ofNat i)), .val (.int b)] [(.int (9 : Int32)), (.int b)]))
        by_cases h2 : b = (9 : Int32)
        · refine own_step (fun _ k => XS.icmpYes X0.here hx rfl (pc0 := 28) (pc' := 40) rfl (hb hby own_d3_28) rfl (teq h2).1 (by decide) (by decide) k) ?_
          show own_Ends _ _ _ _ _ _ _ (s₁.setTop (mkF m 40 #[.val (.ref r0), .val (.ref r0), .val (.int (Int32.ofNat bs.length)), .val (.int (Int32.ofNat i)), .val (.int b)] []))
          exact J40_1 (by simp [own_ok, h1, h2])
        · refine own_step (fun _ k => XS.icmpNo X0.here hx rfl (hb hby own_d3_28) rfl (feq h2).1 k) ?_
          show own_Ends _ _ _ _ _ _ _ (s₁.setTop (mkF m 31 #[.val (.ref r0), .val (.ref r0), .val (.int (Int32.ofNat bs.length)), .val (.int (Int32.ofNat i)), .val (.int b)] []))
          refine own_step (fun _ k => XS.iload X0.here hx rfl (hb hby own_d3_31) rfl k) ?_
          show own_Ends _ _ _ _ _ _ _ (s₁.setTop (mkF m 33 #[.val (.ref r0), .val (.ref r0), .val (.int (Int32.ofNat bs.length)), .val (.int (Int32.ofNat i)), .val (.int b)] [(.int b)]))
          refine own_step (fun _ k => XS.bipush X0.here hx rfl (hb hby own_d3_33) k) ?_
          show own_Ends _ _ _ _ _ _ _ (s₁.setTop (mkF m 35 #[.val (.ref r0), .val (.ref r0), .val (.int (Int32.ofNat bs.length)), .val (.int (Int32.ofNat i)), .val (.int b)] [(.int (13 : Int32)), (.int b)]))
          by_cases h3 : b = (13 : Int32)
          · refine own_step (fun _ k => XS.icmpYes X0.here hx rfl (pc0 := 35) (pc' := 40) rfl (hb hby own_d3_35) rfl (teq h3).1 (by decide) (by decide) k) ?_
            show own_Ends _ _ _ _ _ _ _ (s₁.setTop (mkF m 40 #[.val (.ref r0), .val (.ref r0), .val (.int (Int32.ofNat bs.length)), .val (.int (Int32.ofNat i)), .val (.int b)] []))
            exact J40_1 (by simp [own_ok, h1, h2, h3])
          · refine own_step (fun _ k => XS.icmpNo X0.here hx rfl (hb hby own_d3_35) rfl (feq h3).1 k) ?_
            show own_Ends _ _ _ _ _ _ _ (s₁.setTop (mkF m 38 #[.val (.ref r0), .val (.ref r0), .val (.int (Int32.ofNat bs.length)), .val (.int (Int32.ofNat i)), .val (.int b)] []))
            refine own_step (fun _ k => XS.iconst X0.here hx rfl (hb hby own_d3_38) k) ?_
            show own_Ends _ _ _ _ _ _ _ (s₁.setTop (mkF m 39 #[.val (.ref r0), .val (.ref r0), .val (.int (Int32.ofNat bs.length)), .val (.int (Int32.ofNat i)), .val (.int b)] [(.int (0 : Int32))]))
            refine own_ret X0 (BodyLoose.notSynchronized Bd) (v := (some (.int (0 : Int32)))) (fun h => by rw [Bd.returns] at h; cases h) ?_ (by decide) (by decide) (fun fs hr => X0.ireturnOut hx Bd.returns rfl (by simp) (hb hby own_d3_39) hr)
            show own_Q3 Z r0 cl bs h0 n0 (some (.int (0 : Int32))) s₁.heap _
            rw [e0]
            exact ⟨by rw [hbl, if_pos (by simp [own_ok, h1, h2, h3])], N0, rfl⟩
  exact loop bs.length 0 _ One.u (by omega) rfl
theorem own_ef0 (m : MethodId) (p0 : Int32) (p1 : Int32) (p2 : Int32) (p3 : Int32) (p4 : Int32) : entryFrame m #[(.int p0), (.int p1), (.int p2), (.int p3), (.int p4)] maxLocals = mkF m 0 #[.val (.int p0), .val (.int p1), .val (.int p2), .val (.int p3), .val (.int p4), .unset, .unset, .unset, .unset, .unset, .unset, .unset] [] := by first | (simp [entryFrame, mkF, argsToLocals, Value.category, maxLocals]; done) | rfl
theorem own_pd0 : parseMethodDescriptor "(I)B" = some ⟨[.int], some .byte⟩ := by decide +kernel
theorem own_pd1 : parseMethodDescriptor "([B)Z" = some ⟨[(.array .byte)], some .boolean⟩ := by decide +kernel
theorem own_pd2 : parseMethodDescriptor "(B)Z" = some ⟨[.byte], some .boolean⟩ := by decide +kernel
def own_Q0 (Z : State) (p0 : Int32) (p1 : Int32) (p2 : Int32) (p3 : Int32) (p4 : Int32)  (h0 : Heap) (n0 : Nat) (v : Option Value) (h : Heap) (L : List Loc) : Prop := v = some (.int 1) ∧ Fr n0 L
set_option maxRecDepth 65536 in
set_option maxHeartbeats 40000000 in
theorem own_rm0 (l : Launch) (Z : State) (a0 : Array Value) (hw : ∀ d ∈ tables_1, d.before a0 Z = true) (ws : List Jvm.Cond) (p0 : Int32) (p1 : Int32) (p2 : Int32) (p3 : Int32) (p4 : Int32)  (h0 : Heap) (n0 : Nat) (Z0 : n0 ≤ h0.size)  :
    MetFree l x (head1 (Jvm.Cond.code x code maxLocals ret :: ws) room_1) (fun a U => a = #[(.int p0), (.int p1), (.int p2), (.int p3), (.int p4)] ∧ Z.Warmed39 U.vm ∧ U.heap = h0) (fun _ _ _ _ _ => True) (fun _ U o U' => ∃ v L, o = .returned v ∧ own_Q0 Z p0 p1 p2 p3 p4  h0 n0 v U'.heap L ∧ FrameEnd U o U' L 1 4) := by
  refine MetFree.of_bodySF (plainFor_of_name own_pn0) hisR ?_
  intro p e s m args below meth c s₁ Bd hml0 hP hK
  obtain ⟨rfl, hZ, hh⟩ := hP
  have hx := Bd.exec
  have hby := Bd.bytes
  have hml : c.maxLocals = 12 := hml0
  have hown : s.vm.findClass "com/example/rulewright/rulewright/cli/EventLinesIsBlankPinLaw" = some m.cls := findClass_of_methodNamed Bd.named
  have hnm := (name_of_methodNamed Bd.named Bd.method).1
  have X0 : Stand p l e room_1 s m #[(.int p0), (.int p1), (.int p2), (.int p3), (.int p4)] below meth c s₁ [] 0 0 := Stand.of_body Bd
  have e0 : s₁.heap = h0 := by rw [← hh, Bd.state]; rfl
  have N0 := Fr.nil n0
  suffices H : own_Ends p e below s 1 4 (own_Q0 Z p0 p1 p2 p3 p4  h0 n0) (s₁.setTop (mkF m 0 #[.val (.int p0), .val (.int p1), .val (.int p2), .val (.int p3), .val (.int p4), .unset, .unset, .unset, .unset, .unset, .unset, .unset] [])) by
    obtain ⟨s₂, o, h1, h2⟩ := H
    exact ⟨s₂, o, castTop (own_ef0 m p0 p1 p2 p3 p4) h1, h2⟩
  show own_Ends _ _ _ _ _ _ _ (s₁.setTop (mkF m 0 #[.val (.int p0), .val (.int p1), .val (.int p2), .val (.int p3), .val (.int p4), .unset, .unset, .unset, .unset, .unset, .unset, .unset] []))
  refine own_step (fun _ k => XS.iloadN X0.here hx rfl (hb hby at_0) rfl k) ?_
  show own_Ends _ _ _ _ _ _ _ (s₁.setTop (mkF m 1 #[.val (.int p0), .val (.int p1), .val (.int p2), .val (.int p3), .val (.int p4), .unset, .unset, .unset, .unset, .unset, .unset, .unset] [(.int p0)]))
  refine own_step (fun _ k => X0.ldcInt hx hown (mvT hZ (hw _ (List.mem_of_getElem? (i := 0) rfl))) (g := (mkF m 1 #[.val (.int p0), .val (.int p1), .val (.int p2), .val (.int p3), .val (.int p4), .unset, .unset, .unset, .unset, .unset, .unset, .unset] [(.int p0)])) rfl (hb hby at_1) _ k) ?_
  show own_Ends _ _ _ _ _ _ _ (s₁.setTop (mkF m 3 #[.val (.int p0), .val (.int p1), .val (.int p2), .val (.int p3), .val (.int p4), .unset, .unset, .unset, .unset, .unset, .unset, .unset] [(.int (2147483647 : Int32)), (.int p0)]))
  refine own_step (fun _ k => XS.iand X0.here hx rfl (hb hby at_3) rfl k) ?_
  show own_Ends _ _ _ _ _ _ _ (s₁.setTop (mkF m 4 #[.val (.int p0), .val (.int p1), .val (.int p2), .val (.int p3), .val (.int p4), .unset, .unset, .unset, .unset, .unset, .unset, .unset] [(.int (p0 &&& (2147483647 : Int32)))]))
  refine own_step (fun _ k => XS.iconst X0.here hx rfl (hb hby at_4) k) ?_
  show own_Ends _ _ _ _ _ _ _ (s₁.setTop (mkF m 5 #[.val (.int p0), .val (.int p1), .val (.int p2), .val (.int p3), .val (.int p4), .unset, .unset, .unset, .unset, .unset, .unset, .unset] [(.int (5 : Int32)), (.int (p0 &&& (2147483647 : Int32)))]))
  refine own_step (fun _ k => XS.irem X0.here hx rfl (hb hby at_5) rfl (by decide) k) ?_
  show own_Ends _ _ _ _ _ _ _ (s₁.setTop (mkF m 6 #[.val (.int p0), .val (.int p1), .val (.int p2), .val (.int p3), .val (.int p4), .unset, .unset, .unset, .unset, .unset, .unset, .unset] [(.int ((p0 &&& (2147483647 : Int32)) - ((p0 &&& (2147483647 : Int32)) / (5 : Int32)) * (5 : Int32)))]))
  have hfv := own_five p0 _ rfl
  generalize ((p0 &&& (2147483647 : Int32)) - ((p0 &&& (2147483647 : Int32)) / (5 : Int32)) * (5 : Int32)) = nn at hfv ⊢
  refine own_step (fun _ k => XS.istore X0.here hx rfl (hb hby at_6) rfl (l' := #[.val (.int p0), .val (.int p1), .val (.int p2), .val (.int p3), .val (.int p4), .val (.int nn), .unset, .unset, .unset, .unset, .unset, .unset]) rfl k) ?_
  show own_Ends _ _ _ _ _ _ _ (s₁.setTop (mkF m 8 #[.val (.int p0), .val (.int p1), .val (.int p2), .val (.int p3), .val (.int p4), .val (.int nn), .unset, .unset, .unset, .unset, .unset, .unset] []))
  refine own_step (fun _ k => XS.iloadN X0.here hx rfl (hb hby at_8) rfl k) ?_
  show own_Ends _ _ _ _ _ _ _ (s₁.setTop (mkF m 9 #[.val (.int p0), .val (.int p1), .val (.int p2), .val (.int p3), .val (.int p4), .val (.int nn), .unset, .unset, .unset, .unset, .unset, .unset] [(.int p1)]))
  obtain ⟨_, _, ⟨T2, L2, k2, n2⟩, -, X2, ⟨Lc2, hQ2, l2, y2, z2⟩, st2⟩ := Jvm.LawKit.callS X0 hx (y := (⟨"com/example/rulewright/rulewright/cli/EventLinesIsBlankPinLaw", "pick", "(I)B"⟩ : MethodName)) hown (mvT hZ (hw _ (List.mem_of_getElem? (i := 1) rfl))) (mvT hZ (hw _ (List.mem_of_getElem? (i := 2) rfl))) (mvT hZ (hw _ (List.mem_of_getElem? (i := 3) rfl))) (mvT hZ (hw _ (List.mem_of_getElem? (i := 4) rfl))) (by decide) (backOf (W := 0) (own_rm1 l Z a0 hw [] p1  h0 n0 Z0 ) hZ (hw _ (List.mem_of_getElem? (i := 4) rfl)) (hw _ (List.mem_of_getElem? (i := 3) rfl)) (by decide) (by decide)) (g := (mkF m 9 #[.val (.int p0), .val (.int p1), .val (.int p2), .val (.int p3), .val (.int p4), .val (.int nn), .unset, .unset, .unset, .unset, .unset, .unset] [(.int p1)])) rfl (by rw [hml]; rfl) (argsL := [(.int p1)]) (rest := []) (lenOf own_pd0 rfl) rfl (by show 2 * 0 + _ ≤ _; exact Nat.le_of_eq rfl) (hb hby at_9) (fun _ _ => ⟨rfl, e0, (by decide : 0 + 0 ≤ _), (by decide : 0 + 0 ≤ _)⟩)
  dsimp only [Pt.U, Pt.locs, Pt.cells, Pt.slots] at X2 l2 y2 z2 st2 hQ2
  subst l2 y2 z2
  obtain ⟨rfl, Nq2, e2⟩ := hQ2
  have N2 := Fr.app N0 Nq2
  refine own_step (fun _ k => st2 _ k) ?_
  show own_Ends _ _ _ _ _ _ _ (T2.setTop (mkF m 12 #[.val (.int p0), .val (.int p1), .val (.int p2), .val (.int p3), .val (.int p4), .val (.int nn), .unset, .unset, .unset, .unset, .unset, .unset] [(.int (own_pick p1))]))
  have nb0 := own_pickn p1
  generalize own_pick p1 = b0_ at nb0 ⊢
  show own_Ends _ _ _ _ _ _ _ (T2.setTop (mkF m 12 #[.val (.int p0), .val (.int p1), .val (.int p2), .val (.int p3), .val (.int p4), .val (.int nn), .unset, .unset, .unset, .unset, .unset, .unset] [(.int b0_)]))
  refine own_step (fun _ k => XS.istore X2.here hx rfl (hb hby at_12) rfl (l' := #[.val (.int p0), .val (.int p1), .val (.int p2), .val (.int p3), .val (.int p4), .val (.int nn), .val (.int b0_), .unset, .unset, .unset, .unset, .unset]) rfl k) ?_
  show own_Ends _ _ _ _ _ _ _ (T2.setTop (mkF m 14 #[.val (.int p0), .val (.int p1), .val (.int p2), .val (.int p3), .val (.int p4), .val (.int nn), .val (.int b0_), .unset, .unset, .unset, .unset, .unset] []))
  refine own_step (fun _ k => XS.iloadN X2.here hx rfl (hb hby at_14) rfl k) ?_
  show own_Ends _ _ _ _ _ _ _ (T2.setTop (mkF m 15 #[.val (.int p0), .val (.int p1), .val (.int p2), .val (.int p3), .val (.int p4), .val (.int nn), .val (.int b0_), .unset, .unset, .unset, .unset, .unset] [(.int p2)]))
  obtain ⟨_, _, ⟨T3, L3, k3, n3⟩, -, X3, ⟨Lc3, hQ3, l3, y3, z3⟩, st3⟩ := Jvm.LawKit.callS X2 hx (y := (⟨"com/example/rulewright/rulewright/cli/EventLinesIsBlankPinLaw", "pick", "(I)B"⟩ : MethodName)) hown (mvT hZ (hw _ (List.mem_of_getElem? (i := 1) rfl))) (mvT hZ (hw _ (List.mem_of_getElem? (i := 2) rfl))) (mvT hZ (hw _ (List.mem_of_getElem? (i := 3) rfl))) (mvT hZ (hw _ (List.mem_of_getElem? (i := 4) rfl))) (by decide) (backOf (W := 0) (own_rm1 l Z a0 hw [] p2  h0 n0 Z0 ) hZ (hw _ (List.mem_of_getElem? (i := 4) rfl)) (hw _ (List.mem_of_getElem? (i := 3) rfl)) (by decide) (by decide)) (g := (mkF m 15 #[.val (.int p0), .val (.int p1), .val (.int p2), .val (.int p3), .val (.int p4), .val (.int nn), .val (.int b0_), .unset, .unset, .unset, .unset, .unset] [(.int p2)])) rfl (by rw [hml]; rfl) (argsL := [(.int p2)]) (rest := []) (lenOf own_pd0 rfl) rfl (by show 2 * 0 + _ ≤ _; exact Nat.le_of_eq rfl) (hb hby at_15) (fun _ _ => ⟨rfl, e2, (by decide : 0 + 0 ≤ _), (by decide : 0 + 0 ≤ _)⟩)
  dsimp only [Pt.U, Pt.locs, Pt.cells, Pt.slots] at X3 l3 y3 z3 st3 hQ3
  subst l3 y3 z3
  obtain ⟨rfl, Nq3, e3⟩ := hQ3
  have N3 := Fr.app N2 Nq3
  refine own_step (fun _ k => st3 _ k) ?_
  show own_Ends _ _ _ _ _ _ _ (T3.setTop (mkF m 18 #[.val (.int p0), .val (.int p1), .val (.int p2), .val (.int p3), .val (.int p4), .val (.int nn), .val (.int b0_), .unset, .unset, .unset, .unset, .unset] [(.int (own_pick p2))]))
  have nb1 := own_pickn p2
  generalize own_pick p2 = b1_ at nb1 ⊢
  show own_Ends _ _ _ _ _ _ _ (T3.setTop (mkF m 18 #[.val (.int p0), .val (.int p1), .val (.int p2), .val (.int p3), .val (.int p4), .val (.int nn), .val (.int b0_), .unset, .unset, .unset, .unset, .unset] [(.int b1_)]))
  refine own_step (fun _ k => XS.istore X3.here hx rfl (hb hby at_18) rfl (l' := #[.val (.int p0), .val (.int p1), .val (.int p2), .val (.int p3), .val (.int p4), .val (.int nn), .val (.int b0_), .val (.int b1_), .unset, .unset, .unset, .unset]) rfl k) ?_
  show own_Ends _ _ _ _ _ _ _ (T3.setTop (mkF m 20 #[.val (.int p0), .val (.int p1), .val (.int p2), .val (.int p3), .val (.int p4), .val (.int nn), .val (.int b0_), .val (.int b1_), .unset, .unset, .unset, .unset] []))
  refine own_step (fun _ k => XS.iloadN X3.here hx rfl (hb hby at_20) rfl k) ?_
  show own_Ends _ _ _ _ _ _ _ (T3.setTop (mkF m 21 #[.val (.int p0), .val (.int p1), .val (.int p2), .val (.int p3), .val (.int p4), .val (.int nn), .val (.int b0_), .val (.int b1_), .unset, .unset, .unset, .unset] [(.int p3)]))
  obtain ⟨_, _, ⟨T4, L4, k4, n4⟩, -, X4, ⟨Lc4, hQ4, l4, y4, z4⟩, st4⟩ := Jvm.LawKit.callS X3 hx (y := (⟨"com/example/rulewright/rulewright/cli/EventLinesIsBlankPinLaw", "pick", "(I)B"⟩ : MethodName)) hown (mvT hZ (hw _ (List.mem_of_getElem? (i := 1) rfl))) (mvT hZ (hw _ (List.mem_of_getElem? (i := 2) rfl))) (mvT hZ (hw _ (List.mem_of_getElem? (i := 3) rfl))) (mvT hZ (hw _ (List.mem_of_getElem? (i := 4) rfl))) (by decide) (backOf (W := 0) (own_rm1 l Z a0 hw [] p3  h0 n0 Z0 ) hZ (hw _ (List.mem_of_getElem? (i := 4) rfl)) (hw _ (List.mem_of_getElem? (i := 3) rfl)) (by decide) (by decide)) (g := (mkF m 21 #[.val (.int p0), .val (.int p1), .val (.int p2), .val (.int p3), .val (.int p4), .val (.int nn), .val (.int b0_), .val (.int b1_), .unset, .unset, .unset, .unset] [(.int p3)])) rfl (by rw [hml]; rfl) (argsL := [(.int p3)]) (rest := []) (lenOf own_pd0 rfl) rfl (by show 2 * 0 + _ ≤ _; exact Nat.le_of_eq rfl) (hb hby at_21) (fun _ _ => ⟨rfl, e3, (by decide : 0 + 0 ≤ _), (by decide : 0 + 0 ≤ _)⟩)
  dsimp only [Pt.U, Pt.locs, Pt.cells, Pt.slots] at X4 l4 y4 z4 st4 hQ4
  subst l4 y4 z4
  obtain ⟨rfl, Nq4, e4⟩ := hQ4
  have N4 := Fr.app N3 Nq4
  refine own_step (fun _ k => st4 _ k) ?_
  show own_Ends _ _ _ _ _ _ _ (T4.setTop (mkF m 24 #[.val (.int p0), .val (.int p1), .val (.int p2), .val (.int p3), .val (.int p4), .val (.int nn), .val (.int b0_), .val (.int b1_), .unset, .unset, .unset, .unset] [(.int (own_pick p3))]))
  have nb2 := own_pickn p3
  generalize own_pick p3 = b2_ at nb2 ⊢
  show own_Ends _ _ _ _ _ _ _ (T4.setTop (mkF m 24 #[.val (.int p0), .val (.int p1), .val (.int p2), .val (.int p3), .val (.int p4), .val (.int nn), .val (.int b0_), .val (.int b1_), .unset, .unset, .unset, .unset] [(.int b2_)]))
  refine own_step (fun _ k => XS.istore X4.here hx rfl (hb hby at_24) rfl (l' := #[.val (.int p0), .val (.int p1), .val (.int p2), .val (.int p3), .val (.int p4), .val (.int nn), .val (.int b0_), .val (.int b1_), .val (.int b2_), .unset, .unset, .unset]) rfl k) ?_
  show own_Ends _ _ _ _ _ _ _ (T4.setTop (mkF m 26 #[.val (.int p0), .val (.int p1), .val (.int p2), .val (.int p3), .val (.int p4), .val (.int nn), .val (.int b0_), .val (.int b1_), .val (.int b2_), .unset, .unset, .unset] []))
  refine own_step (fun _ k => XS.iload X4.here hx rfl (hb hby at_26) rfl k) ?_
  show own_Ends _ _ _ _ _ _ _ (T4.setTop (mkF m 28 #[.val (.int p0), .val (.int p1), .val (.int p2), .val (.int p3), .val (.int p4), .val (.int nn), .val (.int b0_), .val (.int b1_), .val (.int b2_), .unset, .unset, .unset] [(.int p4)]))
  obtain ⟨_, _, ⟨T5, L5, k5, n5⟩, -, X5, ⟨Lc5, hQ5, l5, y5, z5⟩, st5⟩ := Jvm.LawKit.callS X4 hx (y := (⟨"com/example/rulewright/rulewright/cli/EventLinesIsBlankPinLaw", "pick", "(I)B"⟩ : MethodName)) hown (mvT hZ (hw _ (List.mem_of_getElem? (i := 1) rfl))) (mvT hZ (hw _ (List.mem_of_getElem? (i := 2) rfl))) (mvT hZ (hw _ (List.mem_of_getElem? (i := 3) rfl))) (mvT hZ (hw _ (List.mem_of_getElem? (i := 4) rfl))) (by decide) (backOf (W := 0) (own_rm1 l Z a0 hw [] p4  h0 n0 Z0 ) hZ (hw _ (List.mem_of_getElem? (i := 4) rfl)) (hw _ (List.mem_of_getElem? (i := 3) rfl)) (by decide) (by decide)) (g := (mkF m 28 #[.val (.int p0), .val (.int p1), .val (.int p2), .val (.int p3), .val (.int p4), .val (.int nn), .val (.int b0_), .val (.int b1_), .val (.int b2_), .unset, .unset, .unset] [(.int p4)])) rfl (by rw [hml]; rfl) (argsL := [(.int p4)]) (rest := []) (lenOf own_pd0 rfl) rfl (by show 2 * 0 + _ ≤ _; exact Nat.le_of_eq rfl) (hb hby at_28) (fun _ _ => ⟨rfl, e4, (by decide : 0 + 0 ≤ _), (by decide : 0 + 0 ≤ _)⟩)
  dsimp only [Pt.U, Pt.locs, Pt.cells, Pt.slots] at X5 l5 y5 z5 st5 hQ5
  subst l5 y5 z5
  obtain ⟨rfl, Nq5, e5⟩ := hQ5
  have N5 := Fr.app N4 Nq5
  refine own_step (fun _ k => st5 _ k) ?_
  show own_Ends _ _ _ _ _ _ _ (T5.setTop (mkF m 31 #[.val (.int p0), .val (.int p1), .val (.int p2), .val (.int p3), .val (.int p4), .val (.int nn), .val (.int b0_), .val (.int b1_), .val (.int b2_), .unset, .unset, .unset] [(.int (own_pick p4))]))
  have nb3 := own_pickn p4
  generalize own_pick p4 = b3_ at nb3 ⊢
  show own_Ends _ _ _ _ _ _ _ (T5.setTop (mkF m 31 #[.val (.int p0), .val (.int p1), .val (.int p2), .val (.int p3), .val (.int p4), .val (.int nn), .val (.int b0_), .val (.int b1_), .val (.int b2_), .unset, .unset, .unset] [(.int b3_)]))
  refine own_step (fun _ k => XS.istore X5.here hx rfl (hb hby at_31) rfl (l' := #[.val (.int p0), .val (.int p1), .val (.int p2), .val (.int p3), .val (.int p4), .val (.int nn), .val (.int b0_), .val (.int b1_), .val (.int b2_), .val (.int b3_), .unset, .unset]) rfl k) ?_
  show own_Ends _ _ _ _ _ _ _ (T5.setTop (mkF m 33 #[.val (.int p0), .val (.int p1), .val (.int p2), .val (.int p3), .val (.int p4), .val (.int nn), .val (.int b0_), .val (.int b1_), .val (.int b2_), .val (.int b3_), .unset, .unset] []))
  refine own_step (fun _ k => XS.iload X5.here hx rfl (hb hby at_33) rfl k) ?_
  show own_Ends _ _ _ _ _ _ _ (T5.setTop (mkF m 35 #[.val (.int p0), .val (.int p1), .val (.int p2), .val (.int p3), .val (.int p4), .val (.int nn), .val (.int b0_), .val (.int b1_), .val (.int b2_), .val (.int b3_), .unset, .unset] [(.int nn)]))
  rcases hfv with rfl | rfl | rfl | rfl | rfl
  · show own_Ends _ _ _ _ _ _ _ (T5.setTop (mkF m 35 #[.val (.int p0), .val (.int p1), .val (.int p2), .val (.int p3), .val (.int p4), .val (.int (0 : Int32)), .val (.int b0_), .val (.int b1_), .val (.int b2_), .val (.int b3_), .unset, .unset] [(.int (0 : Int32))]))
    obtain ⟨T6, h6, k6, X6, e6, E6, A6, st6⟩ := newP X5 hx hZ (hw _ (List.mem_of_getElem? (i := 5) rfl)) e5 (g := (mkF m 35 #[.val (.int p0), .val (.int p1), .val (.int p2), .val (.int p3), .val (.int p4), .val (.int (0 : Int32)), .val (.int b0_), .val (.int b1_), .val (.int b2_), .val (.int b3_), .unset, .unset] [(.int (0 : Int32))])) rfl (hb hby at_35) rfl (by decide) (cap := 0) (by decide) (by decide) (by decide) (by decide)
    obtain ⟨b6, g6⟩ : ∃ z, z = h0.size := ⟨_, rfl⟩
    rw [← g6] at A6 st6
    have gn6 : n0 ≤ b6 := Nat.le_trans Z0 (Nat.le_of_eq g6.symm)
    have Z6 := Nat.le_trans Z0 E6.1
    have V6_b6 : Arv Z h6 b6 k6 .byte (0 : Int32) [] (.int (0 : Int32)) := (Arv.new A6 (by decide)).pad (pad_rep [] (.int (0 : Int32)) 0)
    refine own_step (fun _ k => st6 _ k) ?_
    show own_Ends _ _ _ _ _ _ _ (T6.setTop (mkF m 37 #[.val (.int p0), .val (.int p1), .val (.int p2), .val (.int p3), .val (.int p4), .val (.int (0 : Int32)), .val (.int b0_), .val (.int b1_), .val (.int b2_), .val (.int b3_), .unset, .unset] [(.ref b6)]))
    refine own_step (fun _ k => XS.astore X6.here hx rfl (hb hby at_37) rfl rfl (l' := #[.val (.int p0), .val (.int p1), .val (.int p2), .val (.int p3), .val (.int p4), .val (.int (0 : Int32)), .val (.int b0_), .val (.int b1_), .val (.int b2_), .val (.int b3_), .val (.ref b6), .unset]) rfl k) ?_
    show own_Ends _ _ _ _ _ _ _ (T6.setTop (mkF m 39 #[.val (.int p0), .val (.int p1), .val (.int p2), .val (.int p3), .val (.int p4), .val (.int (0 : Int32)), .val (.int b0_), .val (.int b1_), .val (.int b2_), .val (.int b3_), .val (.ref b6), .unset] []))
    refine own_step (fun _ k => XS.iload X6.here hx rfl (hb hby at_39) rfl k) ?_
    show own_Ends _ _ _ _ _ _ _ (T6.setTop (mkF m 41 #[.val (.int p0), .val (.int p1), .val (.int p2), .val (.int p3), .val (.int p4), .val (.int (0 : Int32)), .val (.int b0_), .val (.int b1_), .val (.int b2_), .val (.int b3_), .val (.ref b6), .unset] [(.int (0 : Int32))]))
    refine own_step (fun _ k => XS.ifYes X6.here hx rfl (pc0 := 41) (pc' := 50) rfl (hb hby at_41) rfl ((if0 _ _).trans (flt (by decide)).2.2.2) (by decide) (by decide) k) ?_
    show own_Ends _ _ _ _ _ _ _ (T6.setTop (mkF m 50 #[.val (.int p0), .val (.int p1), .val (.int p2), .val (.int p3), .val (.int p4), .val (.int (0 : Int32)), .val (.int b0_), .val (.int b1_), .val (.int b2_), .val (.int b3_), .val (.ref b6), .unset] []))
    refine own_step (fun _ k => XS.iload X6.here hx rfl (hb hby at_50) rfl k) ?_
    show own_Ends _ _ _ _ _ _ _ (T6.setTop (mkF m 52 #[.val (.int p0), .val (.int p1), .val (.int p2), .val (.int p3), .val (.int p4), .val (.int (0 : Int32)), .val (.int b0_), .val (.int b1_), .val (.int b2_), .val (.int b3_), .val (.ref b6), .unset] [(.int (0 : Int32))]))
    refine own_step (fun _ k => XS.iconst X6.here hx rfl (hb hby at_52) k) ?_
    show own_Ends _ _ _ _ _ _ _ (T6.setTop (mkF m 53 #[.val (.int p0), .val (.int p1), .val (.int p2), .val (.int p3), .val (.int p4), .val (.int (0 : Int32)), .val (.int b0_), .val (.int b1_), .val (.int b2_), .val (.int b3_), .val (.ref b6), .unset] [(.int (1 : Int32)), (.int (0 : Int32))]))
    refine own_step (fun _ k => XS.icmpYes X6.here hx rfl (pc0 := 53) (pc' := 62) rfl (hb hby at_53) rfl (flt (by decide)).2.2.2 (by decide) (by decide) k) ?_
    show own_Ends _ _ _ _ _ _ _ (T6.setTop (mkF m 62 #[.val (.int p0), .val (.int p1), .val (.int p2), .val (.int p3), .val (.int p4), .val (.int (0 : Int32)), .val (.int b0_), .val (.int b1_), .val (.int b2_), .val (.int b3_), .val (.ref b6), .unset] []))
    refine own_step (fun _ k => XS.iload X6.here hx rfl (hb hby at_62) rfl k) ?_
    show own_Ends _ _ _ _ _ _ _ (T6.setTop (mkF m 64 #[.val (.int p0), .val (.int p1), .val (.int p2), .val (.int p3), .val (.int p4), .val (.int (0 : Int32)), .val (.int b0_), .val (.int b1_), .val (.int b2_), .val (.int b3_), .val (.ref b6), .unset] [(.int (0 : Int32))]))
    refine own_step (fun _ k => XS.iconst X6.here hx rfl (hb hby at_64) k) ?_
    show own_Ends _ _ _ _ _ _ _ (T6.setTop (mkF m 65 #[.val (.int p0), .val (.int p1), .val (.int p2), .val (.int p3), .val (.int p4), .val (.int (0 : Int32)), .val (.int b0_), .val (.int b1_), .val (.int b2_), .val (.int b3_), .val (.ref b6), .unset] [(.int (2 : Int32)), (.int (0 : Int32))]))
    refine own_step (fun _ k => XS.icmpYes X6.here hx rfl (pc0 := 65) (pc' := 74) rfl (hb hby at_65) rfl (flt (by decide)).2.2.2 (by decide) (by decide) k) ?_
    show own_Ends _ _ _ _ _ _ _ (T6.setTop (mkF m 74 #[.val (.int p0), .val (.int p1), .val (.int p2), .val (.int p3), .val (.int p4), .val (.int (0 : Int32)), .val (.int b0_), .val (.int b1_), .val (.int b2_), .val (.int b3_), .val (.ref b6), .unset] []))
    refine own_step (fun _ k => XS.iload X6.here hx rfl (hb hby at_74) rfl k) ?_
    show own_Ends _ _ _ _ _ _ _ (T6.setTop (mkF m 76 #[.val (.int p0), .val (.int p1), .val (.int p2), .val (.int p3), .val (.int p4), .val (.int (0 : Int32)), .val (.int b0_), .val (.int b1_), .val (.int b2_), .val (.int b3_), .val (.ref b6), .unset] [(.int (0 : Int32))]))
    refine own_step (fun _ k => XS.iconst X6.here hx rfl (hb hby at_76) k) ?_
    show own_Ends _ _ _ _ _ _ _ (T6.setTop (mkF m 77 #[.val (.int p0), .val (.int p1), .val (.int p2), .val (.int p3), .val (.int p4), .val (.int (0 : Int32)), .val (.int b0_), .val (.int b1_), .val (.int b2_), .val (.int b3_), .val (.ref b6), .unset] [(.int (3 : Int32)), (.int (0 : Int32))]))
    refine own_step (fun _ k => XS.icmpYes X6.here hx rfl (pc0 := 77) (pc' := 86) rfl (hb hby at_77) rfl (flt (by decide)).2.2.2 (by decide) (by decide) k) ?_
    show own_Ends _ _ _ _ _ _ _ (T6.setTop (mkF m 86 #[.val (.int p0), .val (.int p1), .val (.int p2), .val (.int p3), .val (.int p4), .val (.int (0 : Int32)), .val (.int b0_), .val (.int b1_), .val (.int b2_), .val (.int b3_), .val (.ref b6), .unset] []))
    refine own_step (fun _ k => XS.iload X6.here hx rfl (hb hby at_86) rfl k) ?_
    show own_Ends _ _ _ _ _ _ _ (T6.setTop (mkF m 88 #[.val (.int p0), .val (.int p1), .val (.int p2), .val (.int p3), .val (.int p4), .val (.int (0 : Int32)), .val (.int b0_), .val (.int b1_), .val (.int b2_), .val (.int b3_), .val (.ref b6), .unset] [(.int (0 : Int32))]))
    refine own_step (fun _ k => XS.iconst X6.here hx rfl (hb hby at_88) k) ?_
    show own_Ends _ _ _ _ _ _ _ (T6.setTop (mkF m 89 #[.val (.int p0), .val (.int p1), .val (.int p2), .val (.int p3), .val (.int p4), .val (.int (0 : Int32)), .val (.int b0_), .val (.int b1_), .val (.int b2_), .val (.int b3_), .val (.ref b6), .unset] [(.int (1 : Int32)), (.int (0 : Int32))]))
    have J147_7 : ∀ (lJ7 : List Loc) (NJ7 : Fr n0 lJ7) (TJ7 : State) (XJ7 : Stand p l e room_1 s m #[(.int p0), (.int p1), (.int p2), (.int p3), (.int p4)] below meth c TJ7 lJ7 1 0) (eJ7 : TJ7.heap = h6) (ex : Int32) (hex : ex = own_blank []), own_Ends p e below s 1 4 (own_Q0 Z p0 p1 p2 p3 p4  h0 n0) (TJ7.setTop (mkF m 147 #[.val (.int p0), .val (.int p1), .val (.int p2), .val (.int p3), .val (.int p4), .val (.int (0 : Int32)), .val (.int b0_), .val (.int b1_), .val (.int b2_), .val (.int b3_), .val (.ref b6), .unset] [(.int ex)])) := by
      intro lJ7 NJ7 TJ7 XJ7 eJ7 ex hex
      show own_Ends _ _ _ _ _ _ _ (TJ7.setTop (mkF m 147 #[.val (.int p0), .val (.int p1), .val (.int p2), .val (.int p3), .val (.int p4), .val (.int (0 : Int32)), .val (.int b0_), .val (.int b1_), .val (.int b2_), .val (.int b3_), .val (.ref b6), .unset] [(.int ex)]))
      refine own_step (fun _ k => XS.istore XJ7.here hx rfl (hb hby at_147) rfl (l' := #[.val (.int p0), .val (.int p1), .val (.int p2), .val (.int p3), .val (.int p4), .val (.int (0 : Int32)), .val (.int b0_), .val (.int b1_), .val (.int b2_), .val (.int b3_), .val (.ref b6), .val (.int ex)]) rfl k) ?_
      show own_Ends _ _ _ _ _ _ _ (TJ7.setTop (mkF m 149 #[.val (.int p0), .val (.int p1), .val (.int p2), .val (.int p3), .val (.int p4), .val (.int (0 : Int32)), .val (.int b0_), .val (.int b1_), .val (.int b2_), .val (.int b3_), .val (.ref b6), .val (.int ex)] []))
      refine own_step (fun _ k => XS.aload XJ7.here hx rfl (hb hby at_149) rfl rfl k) ?_
      show own_Ends _ _ _ _ _ _ _ (TJ7.setTop (mkF m 151 #[.val (.int p0), .val (.int p1), .val (.int p2), .val (.int p3), .val (.int p4), .val (.int (0 : Int32)), .val (.int b0_), .val (.int b1_), .val (.int b2_), .val (.int b3_), .val (.ref b6), .val (.int ex)] [(.ref b6)]))
      obtain ⟨cl8, Ar8, qq8, S8, M8, H8, G8⟩ := V6_b6
      obtain ⟨_, _, ⟨T9, L9, k9, n9⟩, -, X9, ⟨Lc9, hQ9, l9, y9, z9⟩, st9⟩ := Jvm.LawKit.callS XJ7 hx (y := (⟨"com/example/rulewright/rulewright/cli/EventLines", "isBlank", "([B)Z"⟩ : MethodName)) hown (mvT hZ (hw _ (List.mem_of_getElem? (i := 6) rfl))) (mvT hZ (hw _ (List.mem_of_getElem? (i := 7) rfl))) (mvT hZ (hw _ (List.mem_of_getElem? (i := 8) rfl))) (mvT hZ (hw _ (List.mem_of_getElem? (i := 9) rfl))) (by decide) (backOf (W := 0) (own_rm3 l Z a0 hw [] b6 cl8 [] h6 n0 Z6 Ar8 (S8.trans (show ((0 : Int32)).toNatClampNeg = 0 by decide)) (by simp) (own_hat (bs := []) H8 (S8.trans (show ((0 : Int32)).toNatClampNeg = 0 by decide)))) hZ (hw _ (List.mem_of_getElem? (i := 9) rfl)) (hw _ (List.mem_of_getElem? (i := 8) rfl)) (by decide) (by decide)) (g := (mkF m 151 #[.val (.int p0), .val (.int p1), .val (.int p2), .val (.int p3), .val (.int p4), .val (.int (0 : Int32)), .val (.int b0_), .val (.int b1_), .val (.int b2_), .val (.int b3_), .val (.ref b6), .val (.int ex)] [(.ref b6)])) rfl (by rw [hml]; rfl) (argsL := [(.ref b6)]) (rest := []) (lenOf own_pd1 rfl) rfl (by show 2 * 0 + _ ≤ _; exact Nat.le_of_eq rfl) (hb hby at_151) (fun _ _ => ⟨rfl, eJ7, (by decide : 1 + 0 ≤ _), (by decide : 0 + 0 ≤ _)⟩)
      dsimp only [Pt.U, Pt.locs, Pt.cells, Pt.slots] at X9 l9 y9 z9 st9 hQ9
      subst l9 y9 z9
      obtain ⟨rfl, Nq9, e9⟩ := hQ9
      have N9 := Fr.app NJ7 Nq9
      refine own_step (fun _ k => st9 _ k) ?_
      show own_Ends _ _ _ _ _ _ _ (T9.setTop (mkF m 154 #[.val (.int p0), .val (.int p1), .val (.int p2), .val (.int p3), .val (.int p4), .val (.int (0 : Int32)), .val (.int b0_), .val (.int b1_), .val (.int b2_), .val (.int b3_), .val (.ref b6), .val (.int ex)] [(.int (own_blank []))]))
      refine own_step (fun _ k => XS.iload X9.here hx rfl (hb hby at_154) rfl k) ?_
      show own_Ends _ _ _ _ _ _ _ (T9.setTop (mkF m 156 #[.val (.int p0), .val (.int p1), .val (.int p2), .val (.int p3), .val (.int p4), .val (.int (0 : Int32)), .val (.int b0_), .val (.int b1_), .val (.int b2_), .val (.int b3_), .val (.ref b6), .val (.int ex)] [(.int ex), (.int (own_blank []))]))
      refine own_step (fun _ k => XS.icmpNo X9.here hx rfl (hb hby at_156) rfl (teq hex.symm).2 k) ?_
      show own_Ends _ _ _ _ _ _ _ (T9.setTop (mkF m 159 #[.val (.int p0), .val (.int p1), .val (.int p2), .val (.int p3), .val (.int p4), .val (.int (0 : Int32)), .val (.int b0_), .val (.int b1_), .val (.int b2_), .val (.int b3_), .val (.ref b6), .val (.int ex)] []))
      refine own_step (fun _ k => XS.iconst X9.here hx rfl (hb hby at_159) k) ?_
      show own_Ends _ _ _ _ _ _ _ (T9.setTop (mkF m 160 #[.val (.int p0), .val (.int p1), .val (.int p2), .val (.int p3), .val (.int p4), .val (.int (0 : Int32)), .val (.int b0_), .val (.int b1_), .val (.int b2_), .val (.int b3_), .val (.ref b6), .val (.int ex)] [(.int (1 : Int32))]))
      refine own_step (fun _ k => XS.goto X9.here hx rfl (pc0 := 160) (pc' := 164) rfl (hb hby at_160) (by decide) (by decide) k) ?_
      show own_Ends _ _ _ _ _ _ _ (T9.setTop (mkF m 164 #[.val (.int p0), .val (.int p1), .val (.int p2), .val (.int p3), .val (.int p4), .val (.int (0 : Int32)), .val (.int b0_), .val (.int b1_), .val (.int b2_), .val (.int b3_), .val (.ref b6), .val (.int ex)] [(.int (1 : Int32))]))
      refine own_ret X9 (BodyLoose.notSynchronized Bd) (v := (some (.int (1 : Int32)))) (fun h => by rw [Bd.returns] at h; cases h) ?_ (by decide) (by decide) (fun fs hr => X9.ireturnOut hx Bd.returns rfl (by simp) (hb hby at_164) hr)
      show own_Q0 Z p0 p1 p2 p3 p4  h0 n0 (some (.int (1 : Int32))) T9.heap _
      rw [e9]
      exact ⟨rfl, N9⟩
    refine own_step (fun _ k => XS.icmpYes X6.here hx rfl (pc0 := 89) (pc' := 100) rfl (hb hby at_89) rfl (tlt (by decide)).1 (by decide) (by decide) k) ?_
    show own_Ends _ _ _ _ _ _ _ (T6.setTop (mkF m 100 #[.val (.int p0), .val (.int p1), .val (.int p2), .val (.int p3), .val (.int p4), .val (.int (0 : Int32)), .val (.int b0_), .val (.int b1_), .val (.int b2_), .val (.int b3_), .val (.ref b6), .unset] []))
    refine own_step (fun _ k => XS.iload X6.here hx rfl (hb hby at_100) rfl k) ?_
    show own_Ends _ _ _ _ _ _ _ (T6.setTop (mkF m 102 #[.val (.int p0), .val (.int p1), .val (.int p2), .val (.int p3), .val (.int p4), .val (.int (0 : Int32)), .val (.int b0_), .val (.int b1_), .val (.int b2_), .val (.int b3_), .val (.ref b6), .unset] [(.int (0 : Int32))]))
    refine own_step (fun _ k => XS.iconst X6.here hx rfl (hb hby at_102) k) ?_
    show own_Ends _ _ _ _ _ _ _ (T6.setTop (mkF m 103 #[.val (.int p0), .val (.int p1), .val (.int p2), .val (.int p3), .val (.int p4), .val (.int (0 : Int32)), .val (.int b0_), .val (.int b1_), .val (.int b2_), .val (.int b3_), .val (.ref b6), .unset] [(.int (2 : Int32)), (.int (0 : Int32))]))
    refine own_step (fun _ k => XS.icmpYes X6.here hx rfl (pc0 := 103) (pc' := 114) rfl (hb hby at_103) rfl (tlt (by decide)).1 (by decide) (by decide) k) ?_
    show own_Ends _ _ _ _ _ _ _ (T6.setTop (mkF m 114 #[.val (.int p0), .val (.int p1), .val (.int p2), .val (.int p3), .val (.int p4), .val (.int (0 : Int32)), .val (.int b0_), .val (.int b1_), .val (.int b2_), .val (.int b3_), .val (.ref b6), .unset] []))
    refine own_step (fun _ k => XS.iload X6.here hx rfl (hb hby at_114) rfl k) ?_
    show own_Ends _ _ _ _ _ _ _ (T6.setTop (mkF m 116 #[.val (.int p0), .val (.int p1), .val (.int p2), .val (.int p3), .val (.int p4), .val (.int (0 : Int32)), .val (.int b0_), .val (.int b1_), .val (.int b2_), .val (.int b3_), .val (.ref b6), .unset] [(.int (0 : Int32))]))
    refine own_step (fun _ k => XS.iconst X6.here hx rfl (hb hby at_116) k) ?_
    show own_Ends _ _ _ _ _ _ _ (T6.setTop (mkF m 117 #[.val (.int p0), .val (.int p1), .val (.int p2), .val (.int p3), .val (.int p4), .val (.int (0 : Int32)), .val (.int b0_), .val (.int b1_), .val (.int b2_), .val (.int b3_), .val (.ref b6), .unset] [(.int (3 : Int32)), (.int (0 : Int32))]))
    refine own_step (fun _ k => XS.icmpYes X6.here hx rfl (pc0 := 117) (pc' := 128) rfl (hb hby at_117) rfl (tlt (by decide)).1 (by decide) (by decide) k) ?_
    show own_Ends _ _ _ _ _ _ _ (T6.setTop (mkF m 128 #[.val (.int p0), .val (.int p1), .val (.int p2), .val (.int p3), .val (.int p4), .val (.int (0 : Int32)), .val (.int b0_), .val (.int b1_), .val (.int b2_), .val (.int b3_), .val (.ref b6), .unset] []))
    refine own_step (fun _ k => XS.iload X6.here hx rfl (hb hby at_128) rfl k) ?_
    show own_Ends _ _ _ _ _ _ _ (T6.setTop (mkF m 130 #[.val (.int p0), .val (.int p1), .val (.int p2), .val (.int p3), .val (.int p4), .val (.int (0 : Int32)), .val (.int b0_), .val (.int b1_), .val (.int b2_), .val (.int b3_), .val (.ref b6), .unset] [(.int (0 : Int32))]))
    refine own_step (fun _ k => XS.iconst X6.here hx rfl (hb hby at_130) k) ?_
    show own_Ends _ _ _ _ _ _ _ (T6.setTop (mkF m 131 #[.val (.int p0), .val (.int p1), .val (.int p2), .val (.int p3), .val (.int p4), .val (.int (0 : Int32)), .val (.int b0_), .val (.int b1_), .val (.int b2_), .val (.int b3_), .val (.ref b6), .unset] [(.int (4 : Int32)), (.int (0 : Int32))]))
    refine own_step (fun _ k => XS.icmpYes X6.here hx rfl (pc0 := 131) (pc' := 142) rfl (hb hby at_131) rfl (tlt (by decide)).1 (by decide) (by decide) k) ?_
    show own_Ends _ _ _ _ _ _ _ (T6.setTop (mkF m 142 #[.val (.int p0), .val (.int p1), .val (.int p2), .val (.int p3), .val (.int p4), .val (.int (0 : Int32)), .val (.int b0_), .val (.int b1_), .val (.int b2_), .val (.int b3_), .val (.ref b6), .unset] []))
    refine own_step (fun _ k => XS.iconst X6.here hx rfl (hb hby at_142) k) ?_
    show own_Ends _ _ _ _ _ _ _ (T6.setTop (mkF m 143 #[.val (.int p0), .val (.int p1), .val (.int p2), .val (.int p3), .val (.int p4), .val (.int (0 : Int32)), .val (.int b0_), .val (.int b1_), .val (.int b2_), .val (.int b3_), .val (.ref b6), .unset] [(.int (1 : Int32))]))
    refine own_step (fun _ k => XS.goto X6.here hx rfl (pc0 := 143) (pc' := 147) rfl (hb hby at_143) (by decide) (by decide) k) ?_
    show own_Ends _ _ _ _ _ _ _ (T6.setTop (mkF m 147 #[.val (.int p0), .val (.int p1), .val (.int p2), .val (.int p3), .val (.int p4), .val (.int (0 : Int32)), .val (.int b0_), .val (.int b1_), .val (.int b2_), .val (.int b3_), .val (.ref b6), .unset] [(.int (1 : Int32))]))
    exact J147_7 _ N5 _ X6 e6 _ (by simp [own_blank])
  · show own_Ends _ _ _ _ _ _ _ (T5.setTop (mkF m 35 #[.val (.int p0), .val (.int p1), .val (.int p2), .val (.int p3), .val (.int p4), .val (.int (1 : Int32)), .val (.int b0_), .val (.int b1_), .val (.int b2_), .val (.int b3_), .unset, .unset] [(.int (1 : Int32))]))
    obtain ⟨T10, h10, k10, X10, e10, E10, A10, st10⟩ := newP X5 hx hZ (hw _ (List.mem_of_getElem? (i := 5) rfl)) e5 (g := (mkF m 35 #[.val (.int p0), .val (.int p1), .val (.int p2), .val (.int p3), .val (.int p4), .val (.int (1 : Int32)), .val (.int b0_), .val (.int b1_), .val (.int b2_), .val (.int b3_), .unset, .unset] [(.int (1 : Int32))])) rfl (hb hby at_35) rfl (by decide) (cap := 1) (by decide) (by decide) (by decide) (by decide)
    obtain ⟨b10, g10⟩ : ∃ z, z = h0.size := ⟨_, rfl⟩
    rw [← g10] at A10 st10
    have gn10 : n0 ≤ b10 := Nat.le_trans Z0 (Nat.le_of_eq g10.symm)
    have Z10 := Nat.le_trans Z0 E10.1
    have V10_b10 : Arv Z h10 b10 k10 .byte (1 : Int32) [(.int (0 : Int32))] (.int (0 : Int32)) := (Arv.new A10 (by decide)).pad (pad_rep [] (.int (0 : Int32)) 1)
    refine own_step (fun _ k => st10 _ k) ?_
    show own_Ends _ _ _ _ _ _ _ (T10.setTop (mkF m 37 #[.val (.int p0), .val (.int p1), .val (.int p2), .val (.int p3), .val (.int p4), .val (.int (1 : Int32)), .val (.int b0_), .val (.int b1_), .val (.int b2_), .val (.int b3_), .unset, .unset] [(.ref b10)]))
    refine own_step (fun _ k => XS.astore X10.here hx rfl (hb hby at_37) rfl rfl (l' := #[.val (.int p0), .val (.int p1), .val (.int p2), .val (.int p3), .val (.int p4), .val (.int (1 : Int32)), .val (.int b0_), .val (.int b1_), .val (.int b2_), .val (.int b3_), .val (.ref b10), .unset]) rfl k) ?_
    show own_Ends _ _ _ _ _ _ _ (T10.setTop (mkF m 39 #[.val (.int p0), .val (.int p1), .val (.int p2), .val (.int p3), .val (.int p4), .val (.int (1 : Int32)), .val (.int b0_), .val (.int b1_), .val (.int b2_), .val (.int b3_), .val (.ref b10), .unset] []))
    refine own_step (fun _ k => XS.iload X10.here hx rfl (hb hby at_39) rfl k) ?_
    show own_Ends _ _ _ _ _ _ _ (T10.setTop (mkF m 41 #[.val (.int p0), .val (.int p1), .val (.int p2), .val (.int p3), .val (.int p4), .val (.int (1 : Int32)), .val (.int b0_), .val (.int b1_), .val (.int b2_), .val (.int b3_), .val (.ref b10), .unset] [(.int (1 : Int32))]))
    refine own_step (fun _ k => XS.ifNo X10.here hx rfl (hb hby at_41) rfl ((if0 _ _).trans (tlt (by decide)).2.2.2) k) ?_
    show own_Ends _ _ _ _ _ _ _ (T10.setTop (mkF m 44 #[.val (.int p0), .val (.int p1), .val (.int p2), .val (.int p3), .val (.int p4), .val (.int (1 : Int32)), .val (.int b0_), .val (.int b1_), .val (.int b2_), .val (.int b3_), .val (.ref b10), .unset] []))
    refine own_step (fun _ k => XS.aload X10.here hx rfl (hb hby at_44) rfl rfl k) ?_
    show own_Ends _ _ _ _ _ _ _ (T10.setTop (mkF m 46 #[.val (.int p0), .val (.int p1), .val (.int p2), .val (.int p3), .val (.int p4), .val (.int (1 : Int32)), .val (.int b0_), .val (.int b1_), .val (.int b2_), .val (.int b3_), .val (.ref b10), .unset] [(.ref b10)]))
    refine own_step (fun _ k => XS.iconst X10.here hx rfl (hb hby at_46) k) ?_
    show own_Ends _ _ _ _ _ _ _ (T10.setTop (mkF m 47 #[.val (.int p0), .val (.int p1), .val (.int p2), .val (.int p3), .val (.int p4), .val (.int (1 : Int32)), .val (.int b0_), .val (.int b1_), .val (.int b2_), .val (.int b3_), .val (.ref b10), .unset] [(.int (0 : Int32)), (.ref b10)]))
    refine own_step (fun _ k => XS.iload X10.here hx rfl (hb hby at_47) rfl k) ?_
    show own_Ends _ _ _ _ _ _ _ (T10.setTop (mkF m 49 #[.val (.int p0), .val (.int p1), .val (.int p2), .val (.int p3), .val (.int p4), .val (.int (1 : Int32)), .val (.int b0_), .val (.int b1_), .val (.int b2_), .val (.int b3_), .val (.ref b10), .unset] [(.int b0_), (.int (0 : Int32)), (.ref b10)]))
    obtain ⟨cl11, Ar11, qq11, S11, M11, H11, G11⟩ := V10_b10
    have hin11 : ¬ ((0 : Int32) < 0 ∨ cl11.slots.size ≤ ((0 : Int32)).toNatClampNeg) := inb_of S11 ⟨by decide, by decide⟩
    obtain ⟨T11, h11, X11, e11, W11, st11⟩ := stB X10 hx hZ e10 Ar11 (j := (0 : Int32)) hin11 (g := (mkF m 49 #[.val (.int p0), .val (.int p1), .val (.int p2), .val (.int p3), .val (.int p4), .val (.int (1 : Int32)), .val (.int b0_), .val (.int b1_), .val (.int b2_), .val (.int b3_), .val (.ref b10), .unset] [(.int b0_), (.int (0 : Int32)), (.ref b10)])) rfl rfl (hb hby at_49)
    have N11 := Fr.snoc X11 N5 gn10
    rw [nb0] at W11
    have V11_b10 : Arv Z h11 b10 k10 .byte (1 : Int32) [(.int b0_)] (.int (0 : Int32)) := Arv.set Ar11 qq11 S11 M11 H11 G11 (by have := fits_nar_byte b0_; rw [show (b0_).toInt8.toInt32 = b0_ from nb0] at this; exact this) W11 0 (by decide) (by simp)
    have Z11 := Nat.le_trans Z10 (Keep.of_wr W11).1
    refine own_step (fun _ k => st11 _ k) ?_
    show own_Ends _ _ _ _ _ _ _ (T11.setTop (mkF m 50 #[.val (.int p0), .val (.int p1), .val (.int p2), .val (.int p3), .val (.int p4), .val (.int (1 : Int32)), .val (.int b0_), .val (.int b1_), .val (.int b2_), .val (.int b3_), .val (.ref b10), .unset] []))
    refine own_step (fun _ k => XS.iload X11.here hx rfl (hb hby at_50) rfl k) ?_
    show own_Ends _ _ _ _ _ _ _ (T11.setTop (mkF m 52 #[.val (.int p0), .val (.int p1), .val (.int p2), .val (.int p3), .val (.int p4), .val (.int (1 : Int32)), .val (.int b0_), .val (.int b1_), .val (.int b2_), .val (.int b3_), .val (.ref b10), .unset] [(.int (1 : Int32))]))
    refine own_step (fun _ k => XS.iconst X11.here hx rfl (hb hby at_52) k) ?_
    show own_Ends _ _ _ _ _ _ _ (T11.setTop (mkF m 53 #[.val (.int p0), .val (.int p1), .val (.int p2), .val (.int p3), .val (.int p4), .val (.int (1 : Int32)), .val (.int b0_), .val (.int b1_), .val (.int b2_), .val (.int b3_), .val (.ref b10), .unset] [(.int (1 : Int32)), (.int (1 : Int32))]))
    refine own_step (fun _ k => XS.icmpYes X11.here hx rfl (pc0 := 53) (pc' := 62) rfl (hb hby at_53) rfl (flt (by decide)).2.2.2 (by decide) (by decide) k) ?_
    show own_Ends _ _ _ _ _ _ _ (T11.setTop (mkF m 62 #[.val (.int p0), .val (.int p1), .val (.int p2), .val (.int p3), .val (.int p4), .val (.int (1 : Int32)), .val (.int b0_), .val (.int b1_), .val (.int b2_), .val (.int b3_), .val (.ref b10), .unset] []))
    refine own_step (fun _ k => XS.iload X11.here hx rfl (hb hby at_62) rfl k) ?_
    show own_Ends _ _ _ _ _ _ _ (T11.setTop (mkF m 64 #[.val (.int p0), .val (.int p1), .val (.int p2), .val (.int p3), .val (.int p4), .val (.int (1 : Int32)), .val (.int b0_), .val (.int b1_), .val (.int b2_), .val (.int b3_), .val (.ref b10), .unset] [(.int (1 : Int32))]))
    refine own_step (fun _ k => XS.iconst X11.here hx rfl (hb hby at_64) k) ?_
    show own_Ends _ _ _ _ _ _ _ (T11.setTop (mkF m 65 #[.val (.int p0), .val (.int p1), .val (.int p2), .val (.int p3), .val (.int p4), .val (.int (1 : Int32)), .val (.int b0_), .val (.int b1_), .val (.int b2_), .val (.int b3_), .val (.ref b10), .unset] [(.int (2 : Int32)), (.int (1 : Int32))]))
    refine own_step (fun _ k => XS.icmpYes X11.here hx rfl (pc0 := 65) (pc' := 74) rfl (hb hby at_65) rfl (flt (by decide)).2.2.2 (by decide) (by decide) k) ?_
    show own_Ends _ _ _ _ _ _ _ (T11.setTop (mkF m 74 #[.val (.int p0), .val (.int p1), .val (.int p2), .val (.int p3), .val (.int p4), .val (.int (1 : Int32)), .val (.int b0_), .val (.int b1_), .val (.int b2_), .val (.int b3_), .val (.ref b10), .unset] []))
    refine own_step (fun _ k => XS.iload X11.here hx rfl (hb hby at_74) rfl k) ?_
    show own_Ends _ _ _ _ _ _ _ (T11.setTop (mkF m 76 #[.val (.int p0), .val (.int p1), .val (.int p2), .val (.int p3), .val (.int p4), .val (.int (1 : Int32)), .val (.int b0_), .val (.int b1_), .val (.int b2_), .val (.int b3_), .val (.ref b10), .unset] [(.int (1 : Int32))]))
    refine own_step (fun _ k => XS.iconst X11.here hx rfl (hb hby at_76) k) ?_
    show own_Ends _ _ _ _ _ _ _ (T11.setTop (mkF m 77 #[.val (.int p0), .val (.int p1), .val (.int p2), .val (.int p3), .val (.int p4), .val (.int (1 : Int32)), .val (.int b0_), .val (.int b1_), .val (.int b2_), .val (.int b3_), .val (.ref b10), .unset] [(.int (3 : Int32)), (.int (1 : Int32))]))
    refine own_step (fun _ k => XS.icmpYes X11.here hx rfl (pc0 := 77) (pc' := 86) rfl (hb hby at_77) rfl (flt (by decide)).2.2.2 (by decide) (by decide) k) ?_
    show own_Ends _ _ _ _ _ _ _ (T11.setTop (mkF m 86 #[.val (.int p0), .val (.int p1), .val (.int p2), .val (.int p3), .val (.int p4), .val (.int (1 : Int32)), .val (.int b0_), .val (.int b1_), .val (.int b2_), .val (.int b3_), .val (.ref b10), .unset] []))
    refine own_step (fun _ k => XS.iload X11.here hx rfl (hb hby at_86) rfl k) ?_
    show own_Ends _ _ _ _ _ _ _ (T11.setTop (mkF m 88 #[.val (.int p0), .val (.int p1), .val (.int p2), .val (.int p3), .val (.int p4), .val (.int (1 : Int32)), .val (.int b0_), .val (.int b1_), .val (.int b2_), .val (.int b3_), .val (.ref b10), .unset] [(.int (1 : Int32))]))
    refine own_step (fun _ k => XS.iconst X11.here hx rfl (hb hby at_88) k) ?_
    show own_Ends _ _ _ _ _ _ _ (T11.setTop (mkF m 89 #[.val (.int p0), .val (.int p1), .val (.int p2), .val (.int p3), .val (.int p4), .val (.int (1 : Int32)), .val (.int b0_), .val (.int b1_), .val (.int b2_), .val (.int b3_), .val (.ref b10), .unset] [(.int (1 : Int32)), (.int (1 : Int32))]))
    have J147_12 : ∀ (lJ12 : List Loc) (NJ12 : Fr n0 lJ12) (TJ12 : State) (XJ12 : Stand p l e room_1 s m #[(.int p0), (.int p1), (.int p2), (.int p3), (.int p4)] below meth c TJ12 lJ12 1 1) (eJ12 : TJ12.heap = h11) (ex : Int32) (hex : ex = own_blank [b0_]), own_Ends p e below s 1 4 (own_Q0 Z p0 p1 p2 p3 p4  h0 n0) (TJ12.setTop (mkF m 147 #[.val (.int p0), .val (.int p1), .val (.int p2), .val (.int p3), .val (.int p4), .val (.int (1 : Int32)), .val (.int b0_), .val (.int b1_), .val (.int b2_), .val (.int b3_), .val (.ref b10), .unset] [(.int ex)])) := by
      intro lJ12 NJ12 TJ12 XJ12 eJ12 ex hex
      show own_Ends _ _ _ _ _ _ _ (TJ12.setTop (mkF m 147 #[.val (.int p0), .val (.int p1), .val (.int p2), .val (.int p3), .val (.int p4), .val (.int (1 : Int32)), .val (.int b0_), .val (.int b1_), .val (.int b2_), .val (.int b3_), .val (.ref b10), .unset] [(.int ex)]))
      refine own_step (fun _ k => XS.istore XJ12.here hx rfl (hb hby at_147) rfl (l' := #[.val (.int p0), .val (.int p1), .val (.int p2), .val (.int p3), .val (.int p4), .val (.int (1 : Int32)), .val (.int b0_), .val (.int b1_), .val (.int b2_), .val (.int b3_), .val (.ref b10), .val (.int ex)]) rfl k) ?_
      show own_Ends _ _ _ _ _ _ _ (TJ12.setTop (mkF m 149 #[.val (.int p0), .val (.int p1), .val (.int p2), .val (.int p3), .val (.int p4), .val (.int (1 : Int32)), .val (.int b0_), .val (.int b1_), .val (.int b2_), .val (.int b3_), .val (.ref b10), .val (.int ex)] []))
      refine own_step (fun _ k => XS.aload XJ12.here hx rfl (hb hby at_149) rfl rfl k) ?_
      show own_Ends _ _ _ _ _ _ _ (TJ12.setTop (mkF m 151 #[.val (.int p0), .val (.int p1), .val (.int p2), .val (.int p3), .val (.int p4), .val (.int (1 : Int32)), .val (.int b0_), .val (.int b1_), .val (.int b2_), .val (.int b3_), .val (.ref b10), .val (.int ex)] [(.ref b10)]))
      obtain ⟨cl14, Ar14, qq14, S14, M14, H14, G14⟩ := V11_b10
      obtain ⟨_, _, ⟨T15, L15, k15, n15⟩, -, X15, ⟨Lc15, hQ15, l15, y15, z15⟩, st15⟩ := Jvm.LawKit.callS XJ12 hx (y := (⟨"com/example/rulewright/rulewright/cli/EventLines", "isBlank", "([B)Z"⟩ : MethodName)) hown (mvT hZ (hw _ (List.mem_of_getElem? (i := 6) rfl))) (mvT hZ (hw _ (List.mem_of_getElem? (i := 7) rfl))) (mvT hZ (hw _ (List.mem_of_getElem? (i := 8) rfl))) (mvT hZ (hw _ (List.mem_of_getElem? (i := 9) rfl))) (by decide) (backOf (W := 0) (own_rm3 l Z a0 hw [] b10 cl14 [b0_] h11 n0 Z11 Ar14 (S14.trans (show ((1 : Int32)).toNatClampNeg = 1 by decide)) (by simp) (own_hat (bs := [b0_]) H14 (S14.trans (show ((1 : Int32)).toNatClampNeg = 1 by decide)))) hZ (hw _ (List.mem_of_getElem? (i := 9) rfl)) (hw _ (List.mem_of_getElem? (i := 8) rfl)) (by decide) (by decide)) (g := (mkF m 151 #[.val (.int p0), .val (.int p1), .val (.int p2), .val (.int p3), .val (.int p4), .val (.int (1 : Int32)), .val (.int b0_), .val (.int b1_), .val (.int b2_), .val (.int b3_), .val (.ref b10), .val (.int ex)] [(.ref b10)])) rfl (by rw [hml]; rfl) (argsL := [(.ref b10)]) (rest := []) (lenOf own_pd1 rfl) rfl (by show 2 * 0 + _ ≤ _; exact Nat.le_of_eq rfl) (hb hby at_151) (fun _ _ => ⟨rfl, eJ12, (by decide : 1 + 0 ≤ _), (by decide : 1 + 0 ≤ _)⟩)
      dsimp only [Pt.U, Pt.locs, Pt.cells, Pt.slots] at X15 l15 y15 z15 st15 hQ15
      subst l15 y15 z15
      obtain ⟨rfl, Nq15, e15⟩ := hQ15
      have N15 := Fr.app NJ12 Nq15
      refine own_step (fun _ k => st15 _ k) ?_
      show own_Ends _ _ _ _ _ _ _ (T15.setTop (mkF m 154 #[.val (.int p0), .val (.int p1), .val (.int p2), .val (.int p3), .val (.int p4), .val (.int (1 : Int32)), .val (.int b0_), .val (.int b1_), .val (.int b2_), .val (.int b3_), .val (.ref b10), .val (.int ex)] [(.int (own_blank [b0_]))]))
      refine own_step (fun _ k => XS.iload X15.here hx rfl (hb hby at_154) rfl k) ?_
      show own_Ends _ _ _ _ _ _ _ (T15.setTop (mkF m 156 #[.val (.int p0), .val (.int p1), .val (.int p2), .val (.int p3), .val (.int p4), .val (.int (1 : Int32)), .val (.int b0_), .val (.int b1_), .val (.int b2_), .val (.int b3_), .val (.ref b10), .val (.int ex)] [(.int ex), (.int (own_blank [b0_]))]))
      refine own_step (fun _ k => XS.icmpNo X15.here hx rfl (hb hby at_156) rfl (teq hex.symm).2 k) ?_
      show own_Ends _ _ _ _ _ _ _ (T15.setTop (mkF m 159 #[.val (.int p0), .val (.int p1), .val (.int p2), .val (.int p3), .val (.int p4), .val (.int (1 : Int32)), .val (.int b0_), .val (.int b1_), .val (.int b2_), .val (.int b3_), .val (.ref b10), .val (.int ex)] []))
      refine own_step (fun _ k => XS.iconst X15.here hx rfl (hb hby at_159) k) ?_
      show own_Ends _ _ _ _ _ _ _ (T15.setTop (mkF m 160 #[.val (.int p0), .val (.int p1), .val (.int p2), .val (.int p3), .val (.int p4), .val (.int (1 : Int32)), .val (.int b0_), .val (.int b1_), .val (.int b2_), .val (.int b3_), .val (.ref b10), .val (.int ex)] [(.int (1 : Int32))]))
      refine own_step (fun _ k => XS.goto X15.here hx rfl (pc0 := 160) (pc' := 164) rfl (hb hby at_160) (by decide) (by decide) k) ?_
      show own_Ends _ _ _ _ _ _ _ (T15.setTop (mkF m 164 #[.val (.int p0), .val (.int p1), .val (.int p2), .val (.int p3), .val (.int p4), .val (.int (1 : Int32)), .val (.int b0_), .val (.int b1_), .val (.int b2_), .val (.int b3_), .val (.ref b10), .val (.int ex)] [(.int (1 : Int32))]))
      refine own_ret X15 (BodyLoose.notSynchronized Bd) (v := (some (.int (1 : Int32)))) (fun h => by rw [Bd.returns] at h; cases h) ?_ (by decide) (by decide) (fun fs hr => X15.ireturnOut hx Bd.returns rfl (by simp) (hb hby at_164) hr)
      show own_Q0 Z p0 p1 p2 p3 p4  h0 n0 (some (.int (1 : Int32))) T15.heap _
      rw [e15]
      exact ⟨rfl, N15⟩
    refine own_step (fun _ k => XS.icmpNo X11.here hx rfl (hb hby at_89) rfl (flt (by decide)).1 k) ?_
    show own_Ends _ _ _ _ _ _ _ (T11.setTop (mkF m 92 #[.val (.int p0), .val (.int p1), .val (.int p2), .val (.int p3), .val (.int p4), .val (.int (1 : Int32)), .val (.int b0_), .val (.int b1_), .val (.int b2_), .val (.int b3_), .val (.ref b10), .unset] []))
    refine own_step (fun _ k => XS.iload X11.here hx rfl (hb hby at_92) rfl k) ?_
    show own_Ends _ _ _ _ _ _ _ (T11.setTop (mkF m 94 #[.val (.int p0), .val (.int p1), .val (.int p2), .val (.int p3), .val (.int p4), .val (.int (1 : Int32)), .val (.int b0_), .val (.int b1_), .val (.int b2_), .val (.int b3_), .val (.ref b10), .unset] [(.int b0_)]))
    obtain ⟨_, _, ⟨T13, L13, k13, n13⟩, -, X13, ⟨Lc13, hQ13, l13, y13, z13⟩, st13⟩ := Jvm.LawKit.callS X11 hx (y := (⟨"com/example/rulewright/rulewright/cli/EventLinesIsBlankPinLaw", "ok", "(B)Z"⟩ : MethodName)) hown (mvT hZ (hw _ (List.mem_of_getElem? (i := 10) rfl))) (mvT hZ (hw _ (List.mem_of_getElem? (i := 11) rfl))) (mvT hZ (hw _ (List.mem_of_getElem? (i := 3) rfl))) (mvT hZ (hw _ (List.mem_of_getElem? (i := 12) rfl))) (by decide) (backOf (W := 0) (own_rm2 l Z a0 hw [] b0_  h11 n0 Z11 ) hZ (hw _ (List.mem_of_getElem? (i := 12) rfl)) (hw _ (List.mem_of_getElem? (i := 3) rfl)) (by decide) (by decide)) (g := (mkF m 94 #[.val (.int p0), .val (.int p1), .val (.int p2), .val (.int p3), .val (.int p4), .val (.int (1 : Int32)), .val (.int b0_), .val (.int b1_), .val (.int b2_), .val (.int b3_), .val (.ref b10), .unset] [(.int b0_)])) rfl (by rw [hml]; rfl) (argsL := [(.int b0_)]) (rest := []) (lenOf own_pd2 rfl) rfl (by show 2 * 0 + _ ≤ _; exact Nat.le_of_eq rfl) (hb hby at_94) (fun _ _ => ⟨rfl, e11, (by decide : 1 + 0 ≤ _), (by decide : 1 + 0 ≤ _)⟩)
    dsimp only [Pt.U, Pt.locs, Pt.cells, Pt.slots] at X13 l13 y13 z13 st13 hQ13
    subst l13 y13 z13
    obtain ⟨rfl, Nq13, e13⟩ := hQ13
    have N13 := Fr.app N11 Nq13
    refine own_step (fun _ k => st13 _ k) ?_
    show own_Ends _ _ _ _ _ _ _ (T13.setTop (mkF m 97 #[.val (.int p0), .val (.int p1), .val (.int p2), .val (.int p3), .val (.int p4), .val (.int (1 : Int32)), .val (.int b0_), .val (.int b1_), .val (.int b2_), .val (.int b3_), .val (.ref b10), .unset] [(.int (own_ok b0_))]))
    by_cases o0 : (own_ok b0_) = (0 : Int32)
    · refine own_step (fun _ k => XS.ifYes X13.here hx rfl (pc0 := 97) (pc' := 146) rfl (hb hby at_97) rfl ((if0 _ _).trans (teq o0).1) (by decide) (by decide) k) ?_
      show own_Ends _ _ _ _ _ _ _ (T13.setTop (mkF m 146 #[.val (.int p0), .val (.int p1), .val (.int p2), .val (.int p3), .val (.int p4), .val (.int (1 : Int32)), .val (.int b0_), .val (.int b1_), .val (.int b2_), .val (.int b3_), .val (.ref b10), .unset] []))
      refine own_step (fun _ k => XS.iconst X13.here hx rfl (hb hby at_146) k) ?_
      show own_Ends _ _ _ _ _ _ _ (T13.setTop (mkF m 147 #[.val (.int p0), .val (.int p1), .val (.int p2), .val (.int p3), .val (.int p4), .val (.int (1 : Int32)), .val (.int b0_), .val (.int b1_), .val (.int b2_), .val (.int b3_), .val (.ref b10), .unset] [(.int (0 : Int32))]))
      exact J147_12 _ N13 _ X13 e13 _ (by simp [own_blank, o0])
    · refine own_step (fun _ k => XS.ifNo X13.here hx rfl (hb hby at_97) rfl ((if0 _ _).trans (feq o0).1) k) ?_
      show own_Ends _ _ _ _ _ _ _ (T13.setTop (mkF m 100 #[.val (.int p0), .val (.int p1), .val (.int p2), .val (.int p3), .val (.int p4), .val (.int (1 : Int32)), .val (.int b0_), .val (.int b1_), .val (.int b2_), .val (.int b3_), .val (.ref b10), .unset] []))
      refine own_step (fun _ k => XS.iload X13.here hx rfl (hb hby at_100) rfl k) ?_
      show own_Ends _ _ _ _ _ _ _ (T13.setTop (mkF m 102 #[.val (.int p0), .val (.int p1), .val (.int p2), .val (.int p3), .val (.int p4), .val (.int (1 : Int32)), .val (.int b0_), .val (.int b1_), .val (.int b2_), .val (.int b3_), .val (.ref b10), .unset] [(.int (1 : Int32))]))
      refine own_step (fun _ k => XS.iconst X13.here hx rfl (hb hby at_102) k) ?_
      show own_Ends _ _ _ _ _ _ _ (T13.setTop (mkF m 103 #[.val (.int p0), .val (.int p1), .val (.int p2), .val (.int p3), .val (.int p4), .val (.int (1 : Int32)), .val (.int b0_), .val (.int b1_), .val (.int b2_), .val (.int b3_), .val (.ref b10), .unset] [(.int (2 : Int32)), (.int (1 : Int32))]))
      refine own_step (fun _ k => XS.icmpYes X13.here hx rfl (pc0 := 103) (pc' := 114) rfl (hb hby at_103) rfl (tlt (by decide)).1 (by decide) (by decide) k) ?_
      show own_Ends _ _ _ _ _ _ _ (T13.setTop (mkF m 114 #[.val (.int p0), .val (.int p1), .val (.int p2), .val (.int p3), .val (.int p4), .val (.int (1 : Int32)), .val (.int b0_), .val (.int b1_), .val (.int b2_), .val (.int b3_), .val (.ref b10), .unset] []))
      refine own_step (fun _ k => XS.iload X13.here hx rfl (hb hby at_114) rfl k) ?_
      show own_Ends _ _ _ _ _ _ _ (T13.setTop (mkF m 116 #[.val (.int p0), .val (.int p1), .val (.int p2), .val (.int p3), .val (.int p4), .val (.int (1 : Int32)), .val (.int b0_), .val (.int b1_), .val (.int b2_), .val (.int b3_), .val (.ref b10), .unset] [(.int (1 : Int32))]))
      refine own_step (fun _ k => XS.iconst X13.here hx rfl (hb hby at_116) k) ?_
      show own_Ends _ _ _ _ _ _ _ (T13.setTop (mkF m 117 #[.val (.int p0), .val (.int p1), .val (.int p2), .val (.int p3), .val (.int p4), .val (.int (1 : Int32)), .val (.int b0_), .val (.int b1_), .val (.int b2_), .val (.int b3_), .val (.ref b10), .unset] [(.int (3 : Int32)), (.int (1 : Int32))]))
      refine own_step (fun _ k => XS.icmpYes X13.here hx rfl (pc0 := 117) (pc' := 128) rfl (hb hby at_117) rfl (tlt (by decide)).1 (by decide) (by decide) k) ?_
      show own_Ends _ _ _ _ _ _ _ (T13.setTop (mkF m 128 #[.val (.int p0), .val (.int p1), .val (.int p2), .val (.int p3), .val (.int p4), .val (.int (1 : Int32)), .val (.int b0_), .val (.int b1_), .val (.int b2_), .val (.int b3_), .val (.ref b10), .unset] []))
      refine own_step (fun _ k => XS.iload X13.here hx rfl (hb hby at_128) rfl k) ?_
      show own_Ends _ _ _ _ _ _ _ (T13.setTop (mkF m 130 #[.val (.int p0), .val (.int p1), .val (.int p2), .val (.int p3), .val (.int p4), .val (.int (1 : Int32)), .val (.int b0_), .val (.int b1_), .val (.int b2_), .val (.int b3_), .val (.ref b10), .unset] [(.int (1 : Int32))]))
      refine own_step (fun _ k => XS.iconst X13.here hx rfl (hb hby at_130) k) ?_
      show own_Ends _ _ _ _ _ _ _ (T13.setTop (mkF m 131 #[.val (.int p0), .val (.int p1), .val (.int p2), .val (.int p3), .val (.int p4), .val (.int (1 : Int32)), .val (.int b0_), .val (.int b1_), .val (.int b2_), .val (.int b3_), .val (.ref b10), .unset] [(.int (4 : Int32)), (.int (1 : Int32))]))
      refine own_step (fun _ k => XS.icmpYes X13.here hx rfl (pc0 := 131) (pc' := 142) rfl (hb hby at_131) rfl (tlt (by decide)).1 (by decide) (by decide) k) ?_
      show own_Ends _ _ _ _ _ _ _ (T13.setTop (mkF m 142 #[.val (.int p0), .val (.int p1), .val (.int p2), .val (.int p3), .val (.int p4), .val (.int (1 : Int32)), .val (.int b0_), .val (.int b1_), .val (.int b2_), .val (.int b3_), .val (.ref b10), .unset] []))
      refine own_step (fun _ k => XS.iconst X13.here hx rfl (hb hby at_142) k) ?_
      show own_Ends _ _ _ _ _ _ _ (T13.setTop (mkF m 143 #[.val (.int p0), .val (.int p1), .val (.int p2), .val (.int p3), .val (.int p4), .val (.int (1 : Int32)), .val (.int b0_), .val (.int b1_), .val (.int b2_), .val (.int b3_), .val (.ref b10), .unset] [(.int (1 : Int32))]))
      refine own_step (fun _ k => XS.goto X13.here hx rfl (pc0 := 143) (pc' := 147) rfl (hb hby at_143) (by decide) (by decide) k) ?_
      show own_Ends _ _ _ _ _ _ _ (T13.setTop (mkF m 147 #[.val (.int p0), .val (.int p1), .val (.int p2), .val (.int p3), .val (.int p4), .val (.int (1 : Int32)), .val (.int b0_), .val (.int b1_), .val (.int b2_), .val (.int b3_), .val (.ref b10), .unset] [(.int (1 : Int32))]))
      exact J147_12 _ N13 _ X13 e13 _ (by simp [own_blank, o0])
  · show own_Ends _ _ _ _ _ _ _ (T5.setTop (mkF m 35 #[.val (.int p0), .val (.int p1), .val (.int p2), .val (.int p3), .val (.int p4), .val (.int (2 : Int32)), .val (.int b0_), .val (.int b1_), .val (.int b2_), .val (.int b3_), .unset, .unset] [(.int (2 : Int32))]))
    obtain ⟨T16, h16, k16, X16, e16, E16, A16, st16⟩ := newP X5 hx hZ (hw _ (List.mem_of_getElem? (i := 5) rfl)) e5 (g := (mkF m 35 #[.val (.int p0), .val (.int p1), .val (.int p2), .val (.int p3), .val (.int p4), .val (.int (2 : Int32)), .val (.int b0_), .val (.int b1_), .val (.int b2_), .val (.int b3_), .unset, .unset] [(.int (2 : Int32))])) rfl (hb hby at_35) rfl (by decide) (cap := 2) (by decide) (by decide) (by decide) (by decide)
    obtain ⟨b16, g16⟩ : ∃ z, z = h0.size := ⟨_, rfl⟩
    rw [← g16] at A16 st16
    have gn16 : n0 ≤ b16 := Nat.le_trans Z0 (Nat.le_of_eq g16.symm)
    have Z16 := Nat.le_trans Z0 E16.1
    have V16_b16 : Arv Z h16 b16 k16 .byte (2 : Int32) [(.int (0 : Int32)), (.int (0 : Int32))] (.int (0 : Int32)) := (Arv.new A16 (by decide)).pad (pad_rep [] (.int (0 : Int32)) 2)
    refine own_step (fun _ k => st16 _ k) ?_
    show own_Ends _ _ _ _ _ _ _ (T16.setTop (mkF m 37 #[.val (.int p0), .val (.int p1), .val (.int p2), .val (.int p3), .val (.int p4), .val (.int (2 : Int32)), .val (.int b0_), .val (.int b1_), .val (.int b2_), .val (.int b3_), .unset, .unset] [(.ref b16)]))
    refine own_step (fun _ k => XS.astore X16.here hx rfl (hb hby at_37) rfl rfl (l' := #[.val (.int p0), .val (.int p1), .val (.int p2), .val (.int p3), .val (.int p4), .val (.int (2 : Int32)), .val (.int b0_), .val (.int b1_), .val (.int b2_), .val (.int b3_), .val (.ref b16), .unset]) rfl k) ?_
    show own_Ends _ _ _ _ _ _ _ (T16.setTop (mkF m 39 #[.val (.int p0), .val (.int p1), .val (.int p2), .val (.int p3), .val (.int p4), .val (.int (2 : Int32)), .val (.int b0_), .val (.int b1_), .val (.int b2_), .val (.int b3_), .val (.ref b16), .unset] []))
    refine own_step (fun _ k => XS.iload X16.here hx rfl (hb hby at_39) rfl k) ?_
    show own_Ends _ _ _ _ _ _ _ (T16.setTop (mkF m 41 #[.val (.int p0), .val (.int p1), .val (.int p2), .val (.int p3), .val (.int p4), .val (.int (2 : Int32)), .val (.int b0_), .val (.int b1_), .val (.int b2_), .val (.int b3_), .val (.ref b16), .unset] [(.int (2 : Int32))]))
    refine own_step (fun _ k => XS.ifNo X16.here hx rfl (hb hby at_41) rfl ((if0 _ _).trans (tlt (by decide)).2.2.2) k) ?_
    show own_Ends _ _ _ _ _ _ _ (T16.setTop (mkF m 44 #[.val (.int p0), .val (.int p1), .val (.int p2), .val (.int p3), .val (.int p4), .val (.int (2 : Int32)), .val (.int b0_), .val (.int b1_), .val (.int b2_), .val (.int b3_), .val (.ref b16), .unset] []))
    refine own_step (fun _ k => XS.aload X16.here hx rfl (hb hby at_44) rfl rfl k) ?_
    show own_Ends _ _ _ _ _ _ _ (T16.setTop (mkF m 46 #[.val (.int p0), .val (.int p1), .val (.int p2), .val (.int p3), .val (.int p4), .val (.int (2 : Int32)), .val (.int b0_), .val (.int b1_), .val (.int b2_), .val (.int b3_), .val (.ref b16), .unset] [(.ref b16)]))
    refine own_step (fun _ k => XS.iconst X16.here hx rfl (hb hby at_46) k) ?_
    show own_Ends _ _ _ _ _ _ _ (T16.setTop (mkF m 47 #[.val (.int p0), .val (.int p1), .val (.int p2), .val (.int p3), .val (.int p4), .val (.int (2 : Int32)), .val (.int b0_), .val (.int b1_), .val (.int b2_), .val (.int b3_), .val (.ref b16), .unset] [(.int (0 : Int32)), (.ref b16)]))
    refine own_step (fun _ k => XS.iload X16.here hx rfl (hb hby at_47) rfl k) ?_
    show own_Ends _ _ _ _ _ _ _ (T16.setTop (mkF m 49 #[.val (.int p0), .val (.int p1), .val (.int p2), .val (.int p3), .val (.int p4), .val (.int (2 : Int32)), .val (.int b0_), .val (.int b1_), .val (.int b2_), .val (.int b3_), .val (.ref b16), .unset] [(.int b0_), (.int (0 : Int32)), (.ref b16)]))
    obtain ⟨cl17, Ar17, qq17, S17, M17, H17, G17⟩ := V16_b16
    have hin17 : ¬ ((0 : Int32) < 0 ∨ cl17.slots.size ≤ ((0 : Int32)).toNatClampNeg) := inb_of S17 ⟨by decide, by decide⟩
    obtain ⟨T17, h17, X17, e17, W17, st17⟩ := stB X16 hx hZ e16 Ar17 (j := (0 : Int32)) hin17 (g := (mkF m 49 #[.val (.int p0), .val (.int p1), .val (.int p2), .val (.int p3), .val (.int p4), .val (.int (2 : Int32)), .val (.int b0_), .val (.int b1_), .val (.int b2_), .val (.int b3_), .val (.ref b16), .unset] [(.int b0_), (.int (0 : Int32)), (.ref b16)])) rfl rfl (hb hby at_49)
    have N17 := Fr.snoc X17 N5 gn16
    rw [nb0] at W17
    have V17_b16 : Arv Z h17 b16 k16 .byte (2 : Int32) [(.int b0_), (.int (0 : Int32))] (.int (0 : Int32)) := Arv.set Ar17 qq17 S17 M17 H17 G17 (by have := fits_nar_byte b0_; rw [show (b0_).toInt8.toInt32 = b0_ from nb0] at this; exact this) W17 0 (by decide) (by simp)
    have Z17 := Nat.le_trans Z16 (Keep.of_wr W17).1
    refine own_step (fun _ k => st17 _ k) ?_
    show own_Ends _ _ _ _ _ _ _ (T17.setTop (mkF m 50 #[.val (.int p0), .val (.int p1), .val (.int p2), .val (.int p3), .val (.int p4), .val (.int (2 : Int32)), .val (.int b0_), .val (.int b1_), .val (.int b2_), .val (.int b3_), .val (.ref b16), .unset] []))
    refine own_step (fun _ k => XS.iload X17.here hx rfl (hb hby at_50) rfl k) ?_
    show own_Ends _ _ _ _ _ _ _ (T17.setTop (mkF m 52 #[.val (.int p0), .val (.int p1), .val (.int p2), .val (.int p3), .val (.int p4), .val (.int (2 : Int32)), .val (.int b0_), .val (.int b1_), .val (.int b2_), .val (.int b3_), .val (.ref b16), .unset] [(.int (2 : Int32))]))
    refine own_step (fun _ k => XS.iconst X17.here hx rfl (hb hby at_52) k) ?_
    show own_Ends _ _ _ _ _ _ _ (T17.setTop (mkF m 53 #[.val (.int p0), .val (.int p1), .val (.int p2), .val (.int p3), .val (.int p4), .val (.int (2 : Int32)), .val (.int b0_), .val (.int b1_), .val (.int b2_), .val (.int b3_), .val (.ref b16), .unset] [(.int (1 : Int32)), (.int (2 : Int32))]))
    refine own_step (fun _ k => XS.icmpNo X17.here hx rfl (hb hby at_53) rfl (tlt (by decide)).2.2.2 k) ?_
    show own_Ends _ _ _ _ _ _ _ (T17.setTop (mkF m 56 #[.val (.int p0), .val (.int p1), .val (.int p2), .val (.int p3), .val (.int p4), .val (.int (2 : Int32)), .val (.int b0_), .val (.int b1_), .val (.int b2_), .val (.int b3_), .val (.ref b16), .unset] []))
    refine own_step (fun _ k => XS.aload X17.here hx rfl (hb hby at_56) rfl rfl k) ?_
    show own_Ends _ _ _ _ _ _ _ (T17.setTop (mkF m 58 #[.val (.int p0), .val (.int p1), .val (.int p2), .val (.int p3), .val (.int p4), .val (.int (2 : Int32)), .val (.int b0_), .val (.int b1_), .val (.int b2_), .val (.int b3_), .val (.ref b16), .unset] [(.ref b16)]))
    refine own_step (fun _ k => XS.iconst X17.here hx rfl (hb hby at_58) k) ?_
    show own_Ends _ _ _ _ _ _ _ (T17.setTop (mkF m 59 #[.val (.int p0), .val (.int p1), .val (.int p2), .val (.int p3), .val (.int p4), .val (.int (2 : Int32)), .val (.int b0_), .val (.int b1_), .val (.int b2_), .val (.int b3_), .val (.ref b16), .unset] [(.int (1 : Int32)), (.ref b16)]))
    refine own_step (fun _ k => XS.iload X17.here hx rfl (hb hby at_59) rfl k) ?_
    show own_Ends _ _ _ _ _ _ _ (T17.setTop (mkF m 61 #[.val (.int p0), .val (.int p1), .val (.int p2), .val (.int p3), .val (.int p4), .val (.int (2 : Int32)), .val (.int b0_), .val (.int b1_), .val (.int b2_), .val (.int b3_), .val (.ref b16), .unset] [(.int b1_), (.int (1 : Int32)), (.ref b16)]))
    obtain ⟨cl18, Ar18, qq18, S18, M18, H18, G18⟩ := V17_b16
    have hin18 : ¬ ((1 : Int32) < 0 ∨ cl18.slots.size ≤ ((1 : Int32)).toNatClampNeg) := inb_of S18 ⟨by decide, by decide⟩
    obtain ⟨T18, h18, X18, e18, W18, st18⟩ := stB X17 hx hZ e17 Ar18 (j := (1 : Int32)) hin18 (g := (mkF m 61 #[.val (.int p0), .val (.int p1), .val (.int p2), .val (.int p3), .val (.int p4), .val (.int (2 : Int32)), .val (.int b0_), .val (.int b1_), .val (.int b2_), .val (.int b3_), .val (.ref b16), .unset] [(.int b1_), (.int (1 : Int32)), (.ref b16)])) rfl rfl (hb hby at_61)
    have N18 := Fr.snoc X18 N17 gn16
    rw [nb1] at W18
    have V18_b16 : Arv Z h18 b16 k16 .byte (2 : Int32) [(.int b0_), (.int b1_)] (.int (0 : Int32)) := Arv.set Ar18 qq18 S18 M18 H18 G18 (by have := fits_nar_byte b1_; rw [show (b1_).toInt8.toInt32 = b1_ from nb1] at this; exact this) W18 1 (by decide) (by simp)
    have Z18 := Nat.le_trans Z17 (Keep.of_wr W18).1
    refine own_step (fun _ k => st18 _ k) ?_
    show own_Ends _ _ _ _ _ _ _ (T18.setTop (mkF m 62 #[.val (.int p0), .val (.int p1), .val (.int p2), .val (.int p3), .val (.int p4), .val (.int (2 : Int32)), .val (.int b0_), .val (.int b1_), .val (.int b2_), .val (.int b3_), .val (.ref b16), .unset] []))
    refine own_step (fun _ k => XS.iload X18.here hx rfl (hb hby at_62) rfl k) ?_
    show own_Ends _ _ _ _ _ _ _ (T18.setTop (mkF m 64 #[.val (.int p0), .val (.int p1), .val (.int p2), .val (.int p3), .val (.int p4), .val (.int (2 : Int32)), .val (.int b0_), .val (.int b1_), .val (.int b2_), .val (.int b3_), .val (.ref b16), .unset] [(.int (2 : Int32))]))
    refine own_step (fun _ k => XS.iconst X18.here hx rfl (hb hby at_64) k) ?_
    show own_Ends _ _ _ _ _ _ _ (T18.setTop (mkF m 65 #[.val (.int p0), .val (.int p1), .val (.int p2), .val (.int p3), .val (.int p4), .val (.int (2 : Int32)), .val (.int b0_), .val (.int b1_), .val (.int b2_), .val (.int b3_), .val (.ref b16), .unset] [(.int (2 : Int32)), (.int (2 : Int32))]))
    refine own_step (fun _ k => XS.icmpYes X18.here hx rfl (pc0 := 65) (pc' := 74) rfl (hb hby at_65) rfl (flt (by decide)).2.2.2 (by decide) (by decide) k) ?_
    show own_Ends _ _ _ _ _ _ _ (T18.setTop (mkF m 74 #[.val (.int p0), .val (.int p1), .val (.int p2), .val (.int p3), .val (.int p4), .val (.int (2 : Int32)), .val (.int b0_), .val (.int b1_), .val (.int b2_), .val (.int b3_), .val (.ref b16), .unset] []))
    refine own_step (fun _ k => XS.iload X18.here hx rfl (hb hby at_74) rfl k) ?_
    show own_Ends _ _ _ _ _ _ _ (T18.setTop (mkF m 76 #[.val (.int p0), .val (.int p1), .val (.int p2), .val (.int p3), .val (.int p4), .val (.int (2 : Int32)), .val (.int b0_), .val (.int b1_), .val (.int b2_), .val (.int b3_), .val (.ref b16), .unset] [(.int (2 : Int32))]))
    refine own_step (fun _ k => XS.iconst X18.here hx rfl (hb hby at_76) k) ?_
    show own_Ends _ _ _ _ _ _ _ (T18.setTop (mkF m 77 #[.val (.int p0), .val (.int p1), .val (.int p2), .val (.int p3), .val (.int p4), .val (.int (2 : Int32)), .val (.int b0_), .val (.int b1_), .val (.int b2_), .val (.int b3_), .val (.ref b16), .unset] [(.int (3 : Int32)), (.int (2 : Int32))]))
    refine own_step (fun _ k => XS.icmpYes X18.here hx rfl (pc0 := 77) (pc' := 86) rfl (hb hby at_77) rfl (flt (by decide)).2.2.2 (by decide) (by decide) k) ?_
    show own_Ends _ _ _ _ _ _ _ (T18.setTop (mkF m 86 #[.val (.int p0), .val (.int p1), .val (.int p2), .val (.int p3), .val (.int p4), .val (.int (2 : Int32)), .val (.int b0_), .val (.int b1_), .val (.int b2_), .val (.int b3_), .val (.ref b16), .unset] []))
    refine own_step (fun _ k => XS.iload X18.here hx rfl (hb hby at_86) rfl k) ?_
    show own_Ends _ _ _ _ _ _ _ (T18.setTop (mkF m 88 #[.val (.int p0), .val (.int p1), .val (.int p2), .val (.int p3), .val (.int p4), .val (.int (2 : Int32)), .val (.int b0_), .val (.int b1_), .val (.int b2_), .val (.int b3_), .val (.ref b16), .unset] [(.int (2 : Int32))]))
    refine own_step (fun _ k => XS.iconst X18.here hx rfl (hb hby at_88) k) ?_
    show own_Ends _ _ _ _ _ _ _ (T18.setTop (mkF m 89 #[.val (.int p0), .val (.int p1), .val (.int p2), .val (.int p3), .val (.int p4), .val (.int (2 : Int32)), .val (.int b0_), .val (.int b1_), .val (.int b2_), .val (.int b3_), .val (.ref b16), .unset] [(.int (1 : Int32)), (.int (2 : Int32))]))
    have J147_19 : ∀ (lJ19 : List Loc) (NJ19 : Fr n0 lJ19) (TJ19 : State) (XJ19 : Stand p l e room_1 s m #[(.int p0), (.int p1), (.int p2), (.int p3), (.int p4)] below meth c TJ19 lJ19 1 2) (eJ19 : TJ19.heap = h18) (ex : Int32) (hex : ex = own_blank [b0_, b1_]), own_Ends p e below s 1 4 (own_Q0 Z p0 p1 p2 p3 p4  h0 n0) (TJ19.setTop (mkF m 147 #[.val (.int p0), .val (.int p1), .val (.int p2), .val (.int p3), .val (.int p4), .val (.int (2 : Int32)), .val (.int b0_), .val (.int b1_), .val (.int b2_), .val (.int b3_), .val (.ref b16), .unset] [(.int ex)])) := by
      intro lJ19 NJ19 TJ19 XJ19 eJ19 ex hex
      show own_Ends _ _ _ _ _ _ _ (TJ19.setTop (mkF m 147 #[.val (.int p0), .val (.int p1), .val (.int p2), .val (.int p3), .val (.int p4), .val (.int (2 : Int32)), .val (.int b0_), .val (.int b1_), .val (.int b2_), .val (.int b3_), .val (.ref b16), .unset] [(.int ex)]))
      refine own_step (fun _ k => XS.istore XJ19.here hx rfl (hb hby at_147) rfl (l' := #[.val (.int p0), .val (.int p1), .val (.int p2), .val (.int p3), .val (.int p4), .val (.int (2 : Int32)), .val (.int b0_), .val (.int b1_), .val (.int b2_), .val (.int b3_), .val (.ref b16), .val (.int ex)]) rfl k) ?_
      show own_Ends _ _ _ _ _ _ _ (TJ19.setTop (mkF m 149 #[.val (.int p0), .val (.int p1), .val (.int p2), .val (.int p3), .val (.int p4), .val (.int (2 : Int32)), .val (.int b0_), .val (.int b1_), .val (.int b2_), .val (.int b3_), .val (.ref b16), .val (.int ex)] []))
      refine own_step (fun _ k => XS.aload XJ19.here hx rfl (hb hby at_149) rfl rfl k) ?_
      show own_Ends _ _ _ _ _ _ _ (TJ19.setTop (mkF m 151 #[.val (.int p0), .val (.int p1), .val (.int p2), .val (.int p3), .val (.int p4), .val (.int (2 : Int32)), .val (.int b0_), .val (.int b1_), .val (.int b2_), .val (.int b3_), .val (.ref b16), .val (.int ex)] [(.ref b16)]))
      obtain ⟨cl22, Ar22, qq22, S22, M22, H22, G22⟩ := V18_b16
      obtain ⟨_, _, ⟨T23, L23, k23, n23⟩, -, X23, ⟨Lc23, hQ23, l23, y23, z23⟩, st23⟩ := Jvm.LawKit.callS XJ19 hx (y := (⟨"com/example/rulewright/rulewright/cli/EventLines", "isBlank", "([B)Z"⟩ : MethodName)) hown (mvT hZ (hw _ (List.mem_of_getElem? (i := 6) rfl))) (mvT hZ (hw _ (List.mem_of_getElem? (i := 7) rfl))) (mvT hZ (hw _ (List.mem_of_getElem? (i := 8) rfl))) (mvT hZ (hw _ (List.mem_of_getElem? (i := 9) rfl))) (by decide) (backOf (W := 0) (own_rm3 l Z a0 hw [] b16 cl22 [b0_, b1_] h18 n0 Z18 Ar22 (S22.trans (show ((2 : Int32)).toNatClampNeg = 2 by decide)) (by simp) (own_hat (bs := [b0_, b1_]) H22 (S22.trans (show ((2 : Int32)).toNatClampNeg = 2 by decide)))) hZ (hw _ (List.mem_of_getElem? (i := 9) rfl)) (hw _ (List.mem_of_getElem? (i := 8) rfl)) (by decide) (by decide)) (g := (mkF m 151 #[.val (.int p0), .val (.int p1), .val (.int p2), .val (.int p3), .val (.int p4), .val (.int (2 : Int32)), .val (.int b0_), .val (.int b1_), .val (.int b2_), .val (.int b3_), .val (.ref b16), .val (.int ex)] [(.ref b16)])) rfl (by rw [hml]; rfl) (argsL := [(.ref b16)]) (rest := []) (lenOf own_pd1 rfl) rfl (by show 2 * 0 + _ ≤ _; exact Nat.le_of_eq rfl) (hb hby at_151) (fun _ _ => ⟨rfl, eJ19, (by decide : 1 + 0 ≤ _), (by decide : 2 + 0 ≤ _)⟩)
      dsimp only [Pt.U, Pt.locs, Pt.cells, Pt.slots] at X23 l23 y23 z23 st23 hQ23
      subst l23 y23 z23
      obtain ⟨rfl, Nq23, e23⟩ := hQ23
      have N23 := Fr.app NJ19 Nq23
      refine own_step (fun _ k => st23 _ k) ?_
      show own_Ends _ _ _ _ _ _ _ (T23.setTop (mkF m 154 #[.val (.int p0), .val (.int p1), .val (.int p2), .val (.int p3), .val (.int p4), .val (.int (2 : Int32)), .val (.int b0_), .val (.int b1_), .val (.int b2_), .val (.int b3_), .val (.ref b16), .val (.int ex)] [(.int (own_blank [b0_, b1_]))]))
      refine own_step (fun _ k => XS.iload X23.here hx rfl (hb hby at_154) rfl k) ?_
      show own_Ends _ _ _ _ _ _ _ (T23.setTop (mkF m 156 #[.val (.int p0), .val (.int p1), .val (.int p2), .val (.int p3), .val (.int p4), .val (.int (2 : Int32)), .val (.int b0_), .val (.int b1_), .val (.int b2_), .val (.int b3_), .val (.ref b16), .val (.int ex)] [(.int ex), (.int (own_blank [b0_, b1_]))]))
      refine own_step (fun _ k => XS.icmpNo X23.here hx rfl (hb hby at_156) rfl (teq hex.symm).2 k) ?_
      show own_Ends _ _ _ _ _ _ _ (T23.setTop (mkF m 159 #[.val (.int p0), .val (.int p1), .val (.int p2), .val (.int p3), .val (.int p4), .val (.int (2 : Int32)), .val (.int b0_), .val (.int b1_), .val (.int b2_), .val (.int b3_), .val (.ref b16), .val (.int ex)] []))
      refine own_step (fun _ k => XS.iconst X23.here hx rfl (hb hby at_159) k) ?_
      show own_Ends _ _ _ _ _ _ _ (T23.setTop (mkF m 160 #[.val (.int p0), .val (.int p1), .val (.int p2), .val (.int p3), .val (.int p4), .val (.int (2 : Int32)), .val (.int b0_), .val (.int b1_), .val (.int b2_), .val (.int b3_), .val (.ref b16), .val (.int ex)] [(.int (1 : Int32))]))
      refine own_step (fun _ k => XS.goto X23.here hx rfl (pc0 := 160) (pc' := 164) rfl (hb hby at_160) (by decide) (by decide) k) ?_
      show own_Ends _ _ _ _ _ _ _ (T23.setTop (mkF m 164 #[.val (.int p0), .val (.int p1), .val (.int p2), .val (.int p3), .val (.int p4), .val (.int (2 : Int32)), .val (.int b0_), .val (.int b1_), .val (.int b2_), .val (.int b3_), .val (.ref b16), .val (.int ex)] [(.int (1 : Int32))]))
      refine own_ret X23 (BodyLoose.notSynchronized Bd) (v := (some (.int (1 : Int32)))) (fun h => by rw [Bd.returns] at h; cases h) ?_ (by decide) (by decide) (fun fs hr => X23.ireturnOut hx Bd.returns rfl (by simp) (hb hby at_164) hr)
      show own_Q0 Z p0 p1 p2 p3 p4  h0 n0 (some (.int (1 : Int32))) T23.heap _
      rw [e23]
      exact ⟨rfl, N23⟩
    refine own_step (fun _ k => XS.icmpNo X18.here hx rfl (hb hby at_89) rfl (flt (by decide)).1 k) ?_
    show own_Ends _ _ _ _ _ _ _ (T18.setTop (mkF m 92 #[.val (.int p0), .val (.int p1), .val (.int p2), .val (.int p3), .val (.int p4), .val (.int (2 : Int32)), .val (.int b0_), .val (.int b1_), .val (.int b2_), .val (.int b3_), .val (.ref b16), .unset] []))
    refine own_step (fun _ k => XS.iload X18.here hx rfl (hb hby at_92) rfl k) ?_
    show own_Ends _ _ _ _ _ _ _ (T18.setTop (mkF m 94 #[.val (.int p0), .val (.int p1), .val (.int p2), .val (.int p3), .val (.int p4), .val (.int (2 : Int32)), .val (.int b0_), .val (.int b1_), .val (.int b2_), .val (.int b3_), .val (.ref b16), .unset] [(.int b0_)]))
    obtain ⟨_, _, ⟨T20, L20, k20, n20⟩, -, X20, ⟨Lc20, hQ20, l20, y20, z20⟩, st20⟩ := Jvm.LawKit.callS X18 hx (y := (⟨"com/example/rulewright/rulewright/cli/EventLinesIsBlankPinLaw", "ok", "(B)Z"⟩ : MethodName)) hown (mvT hZ (hw _ (List.mem_of_getElem? (i := 10) rfl))) (mvT hZ (hw _ (List.mem_of_getElem? (i := 11) rfl))) (mvT hZ (hw _ (List.mem_of_getElem? (i := 3) rfl))) (mvT hZ (hw _ (List.mem_of_getElem? (i := 12) rfl))) (by decide) (backOf (W := 0) (own_rm2 l Z a0 hw [] b0_  h18 n0 Z18 ) hZ (hw _ (List.mem_of_getElem? (i := 12) rfl)) (hw _ (List.mem_of_getElem? (i := 3) rfl)) (by decide) (by decide)) (g := (mkF m 94 #[.val (.int p0), .val (.int p1), .val (.int p2), .val (.int p3), .val (.int p4), .val (.int (2 : Int32)), .val (.int b0_), .val (.int b1_), .val (.int b2_), .val (.int b3_), .val (.ref b16), .unset] [(.int b0_)])) rfl (by rw [hml]; rfl) (argsL := [(.int b0_)]) (rest := []) (lenOf own_pd2 rfl) rfl (by show 2 * 0 + _ ≤ _; exact Nat.le_of_eq rfl) (hb hby at_94) (fun _ _ => ⟨rfl, e18, (by decide : 1 + 0 ≤ _), (by decide : 2 + 0 ≤ _)⟩)
    dsimp only [Pt.U, Pt.locs, Pt.cells, Pt.slots] at X20 l20 y20 z20 st20 hQ20
    subst l20 y20 z20
    obtain ⟨rfl, Nq20, e20⟩ := hQ20
    have N20 := Fr.app N18 Nq20
    refine own_step (fun _ k => st20 _ k) ?_
    show own_Ends _ _ _ _ _ _ _ (T20.setTop (mkF m 97 #[.val (.int p0), .val (.int p1), .val (.int p2), .val (.int p3), .val (.int p4), .val (.int (2 : Int32)), .val (.int b0_), .val (.int b1_), .val (.int b2_), .val (.int b3_), .val (.ref b16), .unset] [(.int (own_ok b0_))]))
    by_cases o0 : (own_ok b0_) = (0 : Int32)
    · refine own_step (fun _ k => XS.ifYes X20.here hx rfl (pc0 := 97) (pc' := 146) rfl (hb hby at_97) rfl ((if0 _ _).trans (teq o0).1) (by decide) (by decide) k) ?_
      show own_Ends _ _ _ _ _ _ _ (T20.setTop (mkF m 146 #[.val (.int p0), .val (.int p1), .val (.int p2), .val (.int p3), .val (.int p4), .val (.int (2 : Int32)), .val (.int b0_), .val (.int b1_), .val (.int b2_), .val (.int b3_), .val (.ref b16), .unset] []))
      refine own_step (fun _ k => XS.iconst X20.here hx rfl (hb hby at_146) k) ?_
      show own_Ends _ _ _ _ _ _ _ (T20.setTop (mkF m 147 #[.val (.int p0), .val (.int p1), .val (.int p2), .val (.int p3), .val (.int p4), .val (.int (2 : Int32)), .val (.int b0_), .val (.int b1_), .val (.int b2_), .val (.int b3_), .val (.ref b16), .unset] [(.int (0 : Int32))]))
      exact J147_19 _ N20 _ X20 e20 _ (by simp [own_blank, o0])
    · refine own_step (fun _ k => XS.ifNo X20.here hx rfl (hb hby at_97) rfl ((if0 _ _).trans (feq o0).1) k) ?_
      show own_Ends _ _ _ _ _ _ _ (T20.setTop (mkF m 100 #[.val (.int p0), .val (.int p1), .val (.int p2), .val (.int p3), .val (.int p4), .val (.int (2 : Int32)), .val (.int b0_), .val (.int b1_), .val (.int b2_), .val (.int b3_), .val (.ref b16), .unset] []))
      refine own_step (fun _ k => XS.iload X20.here hx rfl (hb hby at_100) rfl k) ?_
      show own_Ends _ _ _ _ _ _ _ (T20.setTop (mkF m 102 #[.val (.int p0), .val (.int p1), .val (.int p2), .val (.int p3), .val (.int p4), .val (.int (2 : Int32)), .val (.int b0_), .val (.int b1_), .val (.int b2_), .val (.int b3_), .val (.ref b16), .unset] [(.int (2 : Int32))]))
      refine own_step (fun _ k => XS.iconst X20.here hx rfl (hb hby at_102) k) ?_
      show own_Ends _ _ _ _ _ _ _ (T20.setTop (mkF m 103 #[.val (.int p0), .val (.int p1), .val (.int p2), .val (.int p3), .val (.int p4), .val (.int (2 : Int32)), .val (.int b0_), .val (.int b1_), .val (.int b2_), .val (.int b3_), .val (.ref b16), .unset] [(.int (2 : Int32)), (.int (2 : Int32))]))
      refine own_step (fun _ k => XS.icmpNo X20.here hx rfl (hb hby at_103) rfl (flt (by decide)).1 k) ?_
      show own_Ends _ _ _ _ _ _ _ (T20.setTop (mkF m 106 #[.val (.int p0), .val (.int p1), .val (.int p2), .val (.int p3), .val (.int p4), .val (.int (2 : Int32)), .val (.int b0_), .val (.int b1_), .val (.int b2_), .val (.int b3_), .val (.ref b16), .unset] []))
      refine own_step (fun _ k => XS.iload X20.here hx rfl (hb hby at_106) rfl k) ?_
      show own_Ends _ _ _ _ _ _ _ (T20.setTop (mkF m 108 #[.val (.int p0), .val (.int p1), .val (.int p2), .val (.int p3), .val (.int p4), .val (.int (2 : Int32)), .val (.int b0_), .val (.int b1_), .val (.int b2_), .val (.int b3_), .val (.ref b16), .unset] [(.int b1_)]))
      obtain ⟨_, _, ⟨T21, L21, k21, n21⟩, -, X21, ⟨Lc21, hQ21, l21, y21, z21⟩, st21⟩ := Jvm.LawKit.callS X20 hx (y := (⟨"com/example/rulewright/rulewright/cli/EventLinesIsBlankPinLaw", "ok", "(B)Z"⟩ : MethodName)) hown (mvT hZ (hw _ (List.mem_of_getElem? (i := 10) rfl))) (mvT hZ (hw _ (List.mem_of_getElem? (i := 11) rfl))) (mvT hZ (hw _ (List.mem_of_getElem? (i := 3) rfl))) (mvT hZ (hw _ (List.mem_of_getElem? (i := 12) rfl))) (by decide) (backOf (W := 0) (own_rm2 l Z a0 hw [] b1_  h18 n0 Z18 ) hZ (hw _ (List.mem_of_getElem? (i := 12) rfl)) (hw _ (List.mem_of_getElem? (i := 3) rfl)) (by decide) (by decide)) (g := (mkF m 108 #[.val (.int p0), .val (.int p1), .val (.int p2), .val (.int p3), .val (.int p4), .val (.int (2 : Int32)), .val (.int b0_), .val (.int b1_), .val (.int b2_), .val (.int b3_), .val (.ref b16), .unset] [(.int b1_)])) rfl (by rw [hml]; rfl) (argsL := [(.int b1_)]) (rest := []) (lenOf own_pd2 rfl) rfl (by show 2 * 0 + _ ≤ _; exact Nat.le_of_eq rfl) (hb hby at_108) (fun _ _ => ⟨rfl, e20, (by decide : 1 + 0 ≤ _), (by decide : 2 + 0 ≤ _)⟩)
      dsimp only [Pt.U, Pt.locs, Pt.cells, Pt.slots] at X21 l21 y21 z21 st21 hQ21
      subst l21 y21 z21
      obtain ⟨rfl, Nq21, e21⟩ := hQ21
      have N21 := Fr.app N20 Nq21
      refine own_step (fun _ k => st21 _ k) ?_
      show own_Ends _ _ _ _ _ _ _ (T21.setTop (mkF m 111 #[.val (.int p0), .val (.int p1), .val (.int p2), .val (.int p3), .val (.int p4), .val (.int (2 : Int32)), .val (.int b0_), .val (.int b1_), .val (.int b2_), .val (.int b3_), .val (.ref b16), .unset] [(.int (own_ok b1_))]))
      by_cases o1 : (own_ok b1_) = (0 : Int32)
      · refine own_step (fun _ k => XS.ifYes X21.here hx rfl (pc0 := 111) (pc' := 146) rfl (hb hby at_111) rfl ((if0 _ _).trans (teq o1).1) (by decide) (by decide) k) ?_
        show own_Ends _ _ _ _ _ _ _ (T21.setTop (mkF m 146 #[.val (.int p0), .val (.int p1), .val (.int p2), .val (.int p3), .val (.int p4), .val (.int (2 : Int32)), .val (.int b0_), .val (.int b1_), .val (.int b2_), .val (.int b3_), .val (.ref b16), .unset] []))
        refine own_step (fun _ k => XS.iconst X21.here hx rfl (hb hby at_146) k) ?_
        show own_Ends _ _ _ _ _ _ _ (T21.setTop (mkF m 147 #[.val (.int p0), .val (.int p1), .val (.int p2), .val (.int p3), .val (.int p4), .val (.int (2 : Int32)), .val (.int b0_), .val (.int b1_), .val (.int b2_), .val (.int b3_), .val (.ref b16), .unset] [(.int (0 : Int32))]))
        exact J147_19 _ N21 _ X21 e21 _ (by simp [own_blank, o0, o1])
      · refine own_step (fun _ k => XS.ifNo X21.here hx rfl (hb hby at_111) rfl ((if0 _ _).trans (feq o1).1) k) ?_
        show own_Ends _ _ _ _ _ _ _ (T21.setTop (mkF m 114 #[.val (.int p0), .val (.int p1), .val (.int p2), .val (.int p3), .val (.int p4), .val (.int (2 : Int32)), .val (.int b0_), .val (.int b1_), .val (.int b2_), .val (.int b3_), .val (.ref b16), .unset] []))
        refine own_step (fun _ k => XS.iload X21.here hx rfl (hb hby at_114) rfl k) ?_
        show own_Ends _ _ _ _ _ _ _ (T21.setTop (mkF m 116 #[.val (.int p0), .val (.int p1), .val (.int p2), .val (.int p3), .val (.int p4), .val (.int (2 : Int32)), .val (.int b0_), .val (.int b1_), .val (.int b2_), .val (.int b3_), .val (.ref b16), .unset] [(.int (2 : Int32))]))
        refine own_step (fun _ k => XS.iconst X21.here hx rfl (hb hby at_116) k) ?_
        show own_Ends _ _ _ _ _ _ _ (T21.setTop (mkF m 117 #[.val (.int p0), .val (.int p1), .val (.int p2), .val (.int p3), .val (.int p4), .val (.int (2 : Int32)), .val (.int b0_), .val (.int b1_), .val (.int b2_), .val (.int b3_), .val (.ref b16), .unset] [(.int (3 : Int32)), (.int (2 : Int32))]))
        refine own_step (fun _ k => XS.icmpYes X21.here hx rfl (pc0 := 117) (pc' := 128) rfl (hb hby at_117) rfl (tlt (by decide)).1 (by decide) (by decide) k) ?_
        show own_Ends _ _ _ _ _ _ _ (T21.setTop (mkF m 128 #[.val (.int p0), .val (.int p1), .val (.int p2), .val (.int p3), .val (.int p4), .val (.int (2 : Int32)), .val (.int b0_), .val (.int b1_), .val (.int b2_), .val (.int b3_), .val (.ref b16), .unset] []))
        refine own_step (fun _ k => XS.iload X21.here hx rfl (hb hby at_128) rfl k) ?_
        show own_Ends _ _ _ _ _ _ _ (T21.setTop (mkF m 130 #[.val (.int p0), .val (.int p1), .val (.int p2), .val (.int p3), .val (.int p4), .val (.int (2 : Int32)), .val (.int b0_), .val (.int b1_), .val (.int b2_), .val (.int b3_), .val (.ref b16), .unset] [(.int (2 : Int32))]))
        refine own_step (fun _ k => XS.iconst X21.here hx rfl (hb hby at_130) k) ?_
        show own_Ends _ _ _ _ _ _ _ (T21.setTop (mkF m 131 #[.val (.int p0), .val (.int p1), .val (.int p2), .val (.int p3), .val (.int p4), .val (.int (2 : Int32)), .val (.int b0_), .val (.int b1_), .val (.int b2_), .val (.int b3_), .val (.ref b16), .unset] [(.int (4 : Int32)), (.int (2 : Int32))]))
        refine own_step (fun _ k => XS.icmpYes X21.here hx rfl (pc0 := 131) (pc' := 142) rfl (hb hby at_131) rfl (tlt (by decide)).1 (by decide) (by decide) k) ?_
        show own_Ends _ _ _ _ _ _ _ (T21.setTop (mkF m 142 #[.val (.int p0), .val (.int p1), .val (.int p2), .val (.int p3), .val (.int p4), .val (.int (2 : Int32)), .val (.int b0_), .val (.int b1_), .val (.int b2_), .val (.int b3_), .val (.ref b16), .unset] []))
        refine own_step (fun _ k => XS.iconst X21.here hx rfl (hb hby at_142) k) ?_
        show own_Ends _ _ _ _ _ _ _ (T21.setTop (mkF m 143 #[.val (.int p0), .val (.int p1), .val (.int p2), .val (.int p3), .val (.int p4), .val (.int (2 : Int32)), .val (.int b0_), .val (.int b1_), .val (.int b2_), .val (.int b3_), .val (.ref b16), .unset] [(.int (1 : Int32))]))
        refine own_step (fun _ k => XS.goto X21.here hx rfl (pc0 := 143) (pc' := 147) rfl (hb hby at_143) (by decide) (by decide) k) ?_
        show own_Ends _ _ _ _ _ _ _ (T21.setTop (mkF m 147 #[.val (.int p0), .val (.int p1), .val (.int p2), .val (.int p3), .val (.int p4), .val (.int (2 : Int32)), .val (.int b0_), .val (.int b1_), .val (.int b2_), .val (.int b3_), .val (.ref b16), .unset] [(.int (1 : Int32))]))
        exact J147_19 _ N21 _ X21 e21 _ (by simp [own_blank, o0, o1])
  · show own_Ends _ _ _ _ _ _ _ (T5.setTop (mkF m 35 #[.val (.int p0), .val (.int p1), .val (.int p2), .val (.int p3), .val (.int p4), .val (.int (3 : Int32)), .val (.int b0_), .val (.int b1_), .val (.int b2_), .val (.int b3_), .unset, .unset] [(.int (3 : Int32))]))
    obtain ⟨T24, h24, k24, X24, e24, E24, A24, st24⟩ := newP X5 hx hZ (hw _ (List.mem_of_getElem? (i := 5) rfl)) e5 (g := (mkF m 35 #[.val (.int p0), .val (.int p1), .val (.int p2), .val (.int p3), .val (.int p4), .val (.int (3 : Int32)), .val (.int b0_), .val (.int b1_), .val (.int b2_), .val (.int b3_), .unset, .unset] [(.int (3 : Int32))])) rfl (hb hby at_35) rfl (by decide) (cap := 3) (by decide) (by decide) (by decide) (by decide)
    obtain ⟨b24, g24⟩ : ∃ z, z = h0.size := ⟨_, rfl⟩
    rw [← g24] at A24 st24
    have gn24 : n0 ≤ b24 := Nat.le_trans Z0 (Nat.le_of_eq g24.symm)
    have Z24 := Nat.le_trans Z0 E24.1
    have V24_b24 : Arv Z h24 b24 k24 .byte (3 : Int32) [(.int (0 : Int32)), (.int (0 : Int32)), (.int (0 : Int32))] (.int (0 : Int32)) := (Arv.new A24 (by decide)).pad (pad_rep [] (.int (0 : Int32)) 3)
    refine own_step (fun _ k => st24 _ k) ?_
    show own_Ends _ _ _ _ _ _ _ (T24.setTop (mkF m 37 #[.val (.int p0), .val (.int p1), .val (.int p2), .val (.int p3), .val (.int p4), .val (.int (3 : Int32)), .val (.int b0_), .val (.int b1_), .val (.int b2_), .val (.int b3_), .unset, .unset] [(.ref b24)]))
    refine own_step (fun _ k => XS.astore X24.here hx rfl (hb hby at_37) rfl rfl (l' := #[.val (.int p0), .val (.int p1), .val (.int p2), .val (.int p3), .val (.int p4), .val (.int (3 : Int32)), .val (.int b0_), .val (.int b1_), .val (.int b2_), .val (.int b3_), .val (.ref b24), .unset]) rfl k) ?_
    show own_Ends _ _ _ _ _ _ _ (T24.setTop (mkF m 39 #[.val (.int p0), .val (.int p1), .val (.int p2), .val (.int p3), .val (.int p4), .val (.int (3 : Int32)), .val (.int b0_), .val (.int b1_), .val (.int b2_), .val (.int b3_), .val (.ref b24), .unset] []))
    refine own_step (fun _ k => XS.iload X24.here hx rfl (hb hby at_39) rfl k) ?_
    show own_Ends _ _ _ _ _ _ _ (T24.setTop (mkF m 41 #[.val (.int p0), .val (.int p1), .val (.int p2), .val (.int p3), .val (.int p4), .val (.int (3 : Int32)), .val (.int b0_), .val (.int b1_), .val (.int b2_), .val (.int b3_), .val (.ref b24), .unset] [(.int (3 : Int32))]))
    refine own_step (fun _ k => XS.ifNo X24.here hx rfl (hb hby at_41) rfl ((if0 _ _).trans (tlt (by decide)).2.2.2) k) ?_
    show own_Ends _ _ _ _ _ _ _ (T24.setTop (mkF m 44 #[.val (.int p0), .val (.int p1), .val (.int p2), .val (.int p3), .val (.int p4), .val (.int (3 : Int32)), .val (.int b0_), .val (.int b1_), .val (.int b2_), .val (.int b3_), .val (.ref b24), .unset] []))
    refine own_step (fun _ k => XS.aload X24.here hx rfl (hb hby at_44) rfl rfl k) ?_
    show own_Ends _ _ _ _ _ _ _ (T24.setTop (mkF m 46 #[.val (.int p0), .val (.int p1), .val (.int p2), .val (.int p3), .val (.int p4), .val (.int (3 : Int32)), .val (.int b0_), .val (.int b1_), .val (.int b2_), .val (.int b3_), .val (.ref b24), .unset] [(.ref b24)]))
    refine own_step (fun _ k => XS.iconst X24.here hx rfl (hb hby at_46) k) ?_
    show own_Ends _ _ _ _ _ _ _ (T24.setTop (mkF m 47 #[.val (.int p0), .val (.int p1), .val (.int p2), .val (.int p3), .val (.int p4), .val (.int (3 : Int32)), .val (.int b0_), .val (.int b1_), .val (.int b2_), .val (.int b3_), .val (.ref b24), .unset] [(.int (0 : Int32)), (.ref b24)]))
    refine own_step (fun _ k => XS.iload X24.here hx rfl (hb hby at_47) rfl k) ?_
    show own_Ends _ _ _ _ _ _ _ (T24.setTop (mkF m 49 #[.val (.int p0), .val (.int p1), .val (.int p2), .val (.int p3), .val (.int p4), .val (.int (3 : Int32)), .val (.int b0_), .val (.int b1_), .val (.int b2_), .val (.int b3_), .val (.ref b24), .unset] [(.int b0_), (.int (0 : Int32)), (.ref b24)]))
    obtain ⟨cl25, Ar25, qq25, S25, M25, H25, G25⟩ := V24_b24
    have hin25 : ¬ ((0 : Int32) < 0 ∨ cl25.slots.size ≤ ((0 : Int32)).toNatClampNeg) := inb_of S25 ⟨by decide, by decide⟩
    obtain ⟨T25, h25, X25, e25, W25, st25⟩ := stB X24 hx hZ e24 Ar25 (j := (0 : Int32)) hin25 (g := (mkF m 49 #[.val (.int p0), .val (.int p1), .val (.int p2), .val (.int p3), .val (.int p4), .val (.int (3 : Int32)), .val (.int b0_), .val (.int b1_), .val (.int b2_), .val (.int b3_), .val (.ref b24), .unset] [(.int b0_), (.int (0 : Int32)), (.ref b24)])) rfl rfl (hb hby at_49)
    have N25 := Fr.snoc X25 N5 gn24
    rw [nb0] at W25
    have V25_b24 : Arv Z h25 b24 k24 .byte (3 : Int32) [(.int b0_), (.int (0 : Int32)), (.int (0 : Int32))] (.int (0 : Int32)) := Arv.set Ar25 qq25 S25 M25 H25 G25 (by have := fits_nar_byte b0_; rw [show (b0_).toInt8.toInt32 = b0_ from nb0] at this; exact this) W25 0 (by decide) (by simp)
    have Z25 := Nat.le_trans Z24 (Keep.of_wr W25).1
    refine own_step (fun _ k => st25 _ k) ?_
    show own_Ends _ _ _ _ _ _ _ (T25.setTop (mkF m 50 #[.val (.int p0), .val (.int p1), .val (.int p2), .val (.int p3), .val (.int p4), .val (.int (3 : Int32)), .val (.int b0_), .val (.int b1_), .val (.int b2_), .val (.int b3_), .val (.ref b24), .unset] []))
    refine own_step (fun _ k => XS.iload X25.here hx rfl (hb hby at_50) rfl k) ?_
    show own_Ends _ _ _ _ _ _ _ (T25.setTop (mkF m 52 #[.val (.int p0), .val (.int p1), .val (.int p2), .val (.int p3), .val (.int p4), .val (.int (3 : Int32)), .val (.int b0_), .val (.int b1_), .val (.int b2_), .val (.int b3_), .val (.ref b24), .unset] [(.int (3 : Int32))]))
    refine own_step (fun _ k => XS.iconst X25.here hx rfl (hb hby at_52) k) ?_
    show own_Ends _ _ _ _ _ _ _ (T25.setTop (mkF m 53 #[.val (.int p0), .val (.int p1), .val (.int p2), .val (.int p3), .val (.int p4), .val (.int (3 : Int32)), .val (.int b0_), .val (.int b1_), .val (.int b2_), .val (.int b3_), .val (.ref b24), .unset] [(.int (1 : Int32)), (.int (3 : Int32))]))
    refine own_step (fun _ k => XS.icmpNo X25.here hx rfl (hb hby at_53) rfl (tlt (by decide)).2.2.2 k) ?_
    show own_Ends _ _ _ _ _ _ _ (T25.setTop (mkF m 56 #[.val (.int p0), .val (.int p1), .val (.int p2), .val (.int p3), .val (.int p4), .val (.int (3 : Int32)), .val (.int b0_), .val (.int b1_), .val (.int b2_), .val (.int b3_), .val (.ref b24), .unset] []))
    refine own_step (fun _ k => XS.aload X25.here hx rfl (hb hby at_56) rfl rfl k) ?_
    show own_Ends _ _ _ _ _ _ _ (T25.setTop (mkF m 58 #[.val (.int p0), .val (.int p1), .val (.int p2), .val (.int p3), .val (.int p4), .val (.int (3 : Int32)), .val (.int b0_), .val (.int b1_), .val (.int b2_), .val (.int b3_), .val (.ref b24), .unset] [(.ref b24)]))
    refine own_step (fun _ k => XS.iconst X25.here hx rfl (hb hby at_58) k) ?_
    show own_Ends _ _ _ _ _ _ _ (T25.setTop (mkF m 59 #[.val (.int p0), .val (.int p1), .val (.int p2), .val (.int p3), .val (.int p4), .val (.int (3 : Int32)), .val (.int b0_), .val (.int b1_), .val (.int b2_), .val (.int b3_), .val (.ref b24), .unset] [(.int (1 : Int32)), (.ref b24)]))
    refine own_step (fun _ k => XS.iload X25.here hx rfl (hb hby at_59) rfl k) ?_
    show own_Ends _ _ _ _ _ _ _ (T25.setTop (mkF m 61 #[.val (.int p0), .val (.int p1), .val (.int p2), .val (.int p3), .val (.int p4), .val (.int (3 : Int32)), .val (.int b0_), .val (.int b1_), .val (.int b2_), .val (.int b3_), .val (.ref b24), .unset] [(.int b1_), (.int (1 : Int32)), (.ref b24)]))
    obtain ⟨cl26, Ar26, qq26, S26, M26, H26, G26⟩ := V25_b24
    have hin26 : ¬ ((1 : Int32) < 0 ∨ cl26.slots.size ≤ ((1 : Int32)).toNatClampNeg) := inb_of S26 ⟨by decide, by decide⟩
    obtain ⟨T26, h26, X26, e26, W26, st26⟩ := stB X25 hx hZ e25 Ar26 (j := (1 : Int32)) hin26 (g := (mkF m 61 #[.val (.int p0), .val (.int p1), .val (.int p2), .val (.int p3), .val (.int p4), .val (.int (3 : Int32)), .val (.int b0_), .val (.int b1_), .val (.int b2_), .val (.int b3_), .val (.ref b24), .unset] [(.int b1_), (.int (1 : Int32)), (.ref b24)])) rfl rfl (hb hby at_61)
    have N26 := Fr.snoc X26 N25 gn24
    rw [nb1] at W26
    have V26_b24 : Arv Z h26 b24 k24 .byte (3 : Int32) [(.int b0_), (.int b1_), (.int (0 : Int32))] (.int (0 : Int32)) := Arv.set Ar26 qq26 S26 M26 H26 G26 (by have := fits_nar_byte b1_; rw [show (b1_).toInt8.toInt32 = b1_ from nb1] at this; exact this) W26 1 (by decide) (by simp)
    have Z26 := Nat.le_trans Z25 (Keep.of_wr W26).1
    refine own_step (fun _ k => st26 _ k) ?_
    show own_Ends _ _ _ _ _ _ _ (T26.setTop (mkF m 62 #[.val (.int p0), .val (.int p1), .val (.int p2), .val (.int p3), .val (.int p4), .val (.int (3 : Int32)), .val (.int b0_), .val (.int b1_), .val (.int b2_), .val (.int b3_), .val (.ref b24), .unset] []))
    refine own_step (fun _ k => XS.iload X26.here hx rfl (hb hby at_62) rfl k) ?_
    show own_Ends _ _ _ _ _ _ _ (T26.setTop (mkF m 64 #[.val (.int p0), .val (.int p1), .val (.int p2), .val (.int p3), .val (.int p4), .val (.int (3 : Int32)), .val (.int b0_), .val (.int b1_), .val (.int b2_), .val (.int b3_), .val (.ref b24), .unset] [(.int (3 : Int32))]))
    refine own_step (fun _ k => XS.iconst X26.here hx rfl (hb hby at_64) k) ?_
    show own_Ends _ _ _ _ _ _ _ (T26.setTop (mkF m 65 #[.val (.int p0), .val (.int p1), .val (.int p2), .val (.int p3), .val (.int p4), .val (.int (3 : Int32)), .val (.int b0_), .val (.int b1_), .val (.int b2_), .val (.int b3_), .val (.ref b24), .unset] [(.int (2 : Int32)), (.int (3 : Int32))]))
    refine own_step (fun _ k => XS.icmpNo X26.here hx rfl (hb hby at_65) rfl (tlt (by decide)).2.2.2 k) ?_
    show own_Ends _ _ _ _ _ _ _ (T26.setTop (mkF m 68 #[.val (.int p0), .val (.int p1), .val (.int p2), .val (.int p3), .val (.int p4), .val (.int (3 : Int32)), .val (.int b0_), .val (.int b1_), .val (.int b2_), .val (.int b3_), .val (.ref b24), .unset] []))
    refine own_step (fun _ k => XS.aload X26.here hx rfl (hb hby at_68) rfl rfl k) ?_
    show own_Ends _ _ _ _ _ _ _ (T26.setTop (mkF m 70 #[.val (.int p0), .val (.int p1), .val (.int p2), .val (.int p3), .val (.int p4), .val (.int (3 : Int32)), .val (.int b0_), .val (.int b1_), .val (.int b2_), .val (.int b3_), .val (.ref b24), .unset] [(.ref b24)]))
    refine own_step (fun _ k => XS.iconst X26.here hx rfl (hb hby at_70) k) ?_
    show own_Ends _ _ _ _ _ _ _ (T26.setTop (mkF m 71 #[.val (.int p0), .val (.int p1), .val (.int p2), .val (.int p3), .val (.int p4), .val (.int (3 : Int32)), .val (.int b0_), .val (.int b1_), .val (.int b2_), .val (.int b3_), .val (.ref b24), .unset] [(.int (2 : Int32)), (.ref b24)]))
    refine own_step (fun _ k => XS.iload X26.here hx rfl (hb hby at_71) rfl k) ?_
    show own_Ends _ _ _ _ _ _ _ (T26.setTop (mkF m 73 #[.val (.int p0), .val (.int p1), .val (.int p2), .val (.int p3), .val (.int p4), .val (.int (3 : Int32)), .val (.int b0_), .val (.int b1_), .val (.int b2_), .val (.int b3_), .val (.ref b24), .unset] [(.int b2_), (.int (2 : Int32)), (.ref b24)]))
    obtain ⟨cl27, Ar27, qq27, S27, M27, H27, G27⟩ := V26_b24
    have hin27 : ¬ ((2 : Int32) < 0 ∨ cl27.slots.size ≤ ((2 : Int32)).toNatClampNeg) := inb_of S27 ⟨by decide, by decide⟩
    obtain ⟨T27, h27, X27, e27, W27, st27⟩ := stB X26 hx hZ e26 Ar27 (j := (2 : Int32)) hin27 (g := (mkF m 73 #[.val (.int p0), .val (.int p1), .val (.int p2), .val (.int p3), .val (.int p4), .val (.int (3 : Int32)), .val (.int b0_), .val (.int b1_), .val (.int b2_), .val (.int b3_), .val (.ref b24), .unset] [(.int b2_), (.int (2 : Int32)), (.ref b24)])) rfl rfl (hb hby at_73)
    have N27 := Fr.snoc X27 N26 gn24
    rw [nb2] at W27
    have V27_b24 : Arv Z h27 b24 k24 .byte (3 : Int32) [(.int b0_), (.int b1_), (.int b2_)] (.int (0 : Int32)) := Arv.set Ar27 qq27 S27 M27 H27 G27 (by have := fits_nar_byte b2_; rw [show (b2_).toInt8.toInt32 = b2_ from nb2] at this; exact this) W27 2 (by decide) (by simp)
    have Z27 := Nat.le_trans Z26 (Keep.of_wr W27).1
    refine own_step (fun _ k => st27 _ k) ?_
    show own_Ends _ _ _ _ _ _ _ (T27.setTop (mkF m 74 #[.val (.int p0), .val (.int p1), .val (.int p2), .val (.int p3), .val (.int p4), .val (.int (3 : Int32)), .val (.int b0_), .val (.int b1_), .val (.int b2_), .val (.int b3_), .val (.ref b24), .unset] []))
    refine own_step (fun _ k => XS.iload X27.here hx rfl (hb hby at_74) rfl k) ?_
    show own_Ends _ _ _ _ _ _ _ (T27.setTop (mkF m 76 #[.val (.int p0), .val (.int p1), .val (.int p2), .val (.int p3), .val (.int p4), .val (.int (3 : Int32)), .val (.int b0_), .val (.int b1_), .val (.int b2_), .val (.int b3_), .val (.ref b24), .unset] [(.int (3 : Int32))]))
    refine own_step (fun _ k => XS.iconst X27.here hx rfl (hb hby at_76) k) ?_
    show own_Ends _ _ _ _ _ _ _ (T27.setTop (mkF m 77 #[.val (.int p0), .val (.int p1), .val (.int p2), .val (.int p3), .val (.int p4), .val (.int (3 : Int32)), .val (.int b0_), .val (.int b1_), .val (.int b2_), .val (.int b3_), .val (.ref b24), .unset] [(.int (3 : Int32)), (.int (3 : Int32))]))
    refine own_step (fun _ k => XS.icmpYes X27.here hx rfl (pc0 := 77) (pc' := 86) rfl (hb hby at_77) rfl (flt (by decide)).2.2.2 (by decide) (by decide) k) ?_
    show own_Ends _ _ _ _ _ _ _ (T27.setTop (mkF m 86 #[.val (.int p0), .val (.int p1), .val (.int p2), .val (.int p3), .val (.int p4), .val (.int (3 : Int32)), .val (.int b0_), .val (.int b1_), .val (.int b2_), .val (.int b3_), .val (.ref b24), .unset] []))
    refine own_step (fun _ k => XS.iload X27.here hx rfl (hb hby at_86) rfl k) ?_
    show own_Ends _ _ _ _ _ _ _ (T27.setTop (mkF m 88 #[.val (.int p0), .val (.int p1), .val (.int p2), .val (.int p3), .val (.int p4), .val (.int (3 : Int32)), .val (.int b0_), .val (.int b1_), .val (.int b2_), .val (.int b3_), .val (.ref b24), .unset] [(.int (3 : Int32))]))
    refine own_step (fun _ k => XS.iconst X27.here hx rfl (hb hby at_88) k) ?_
    show own_Ends _ _ _ _ _ _ _ (T27.setTop (mkF m 89 #[.val (.int p0), .val (.int p1), .val (.int p2), .val (.int p3), .val (.int p4), .val (.int (3 : Int32)), .val (.int b0_), .val (.int b1_), .val (.int b2_), .val (.int b3_), .val (.ref b24), .unset] [(.int (1 : Int32)), (.int (3 : Int32))]))
    have J147_28 : ∀ (lJ28 : List Loc) (NJ28 : Fr n0 lJ28) (TJ28 : State) (XJ28 : Stand p l e room_1 s m #[(.int p0), (.int p1), (.int p2), (.int p3), (.int p4)] below meth c TJ28 lJ28 1 3) (eJ28 : TJ28.heap = h27) (ex : Int32) (hex : ex = own_blank [b0_, b1_, b2_]), own_Ends p e below s 1 4 (own_Q0 Z p0 p1 p2 p3 p4  h0 n0) (TJ28.setTop (mkF m 147 #[.val (.int p0), .val (.int p1), .val (.int p2), .val (.int p3), .val (.int p4), .val (.int (3 : Int32)), .val (.int b0_), .val (.int b1_), .val (.int b2_), .val (.int b3_), .val (.ref b24), .unset] [(.int ex)])) := by
      intro lJ28 NJ28 TJ28 XJ28 eJ28 ex hex
      show own_Ends _ _ _ _ _ _ _ (TJ28.setTop (mkF m 147 #[.val (.int p0), .val (.int p1), .val (.int p2), .val (.int p3), .val (.int p4), .val (.int (3 : Int32)), .val (.int b0_), .val (.int b1_), .val (.int b2_), .val (.int b3_), .val (.ref b24), .unset] [(.int ex)]))
      refine own_step (fun _ k => XS.istore XJ28.here hx rfl (hb hby at_147) rfl (l' := #[.val (.int p0), .val (.int p1), .val (.int p2), .val (.int p3), .val (.int p4), .val (.int (3 : Int32)), .val (.int b0_), .val (.int b1_), .val (.int b2_), .val (.int b3_), .val (.ref b24), .val (.int ex)]) rfl k) ?_
      show own_Ends _ _ _ _ _ _ _ (TJ28.setTop (mkF m 149 #[.val (.int p0), .val (.int p1), .val (.int p2), .val (.int p3), .val (.int p4), .val (.int (3 : Int32)), .val (.int b0_), .val (.int b1_), .val (.int b2_), .val (.int b3_), .val (.ref b24), .val (.int ex)] []))
      refine own_step (fun _ k => XS.aload XJ28.here hx rfl (hb hby at_149) rfl rfl k) ?_
      show own_Ends _ _ _ _ _ _ _ (TJ28.setTop (mkF m 151 #[.val (.int p0), .val (.int p1), .val (.int p2), .val (.int p3), .val (.int p4), .val (.int (3 : Int32)), .val (.int b0_), .val (.int b1_), .val (.int b2_), .val (.int b3_), .val (.ref b24), .val (.int ex)] [(.ref b24)]))
      obtain ⟨cl32, Ar32, qq32, S32, M32, H32, G32⟩ := V27_b24
      obtain ⟨_, _, ⟨T33, L33, k33, n33⟩, -, X33, ⟨Lc33, hQ33, l33, y33, z33⟩, st33⟩ := Jvm.LawKit.callS XJ28 hx (y := (⟨"com/example/rulewright/rulewright/cli/EventLines", "isBlank", "([B)Z"⟩ : MethodName)) hown (mvT hZ (hw _ (List.mem_of_getElem? (i := 6) rfl))) (mvT hZ (hw _ (List.mem_of_getElem? (i := 7) rfl))) (mvT hZ (hw _ (List.mem_of_getElem? (i := 8) rfl))) (mvT hZ (hw _ (List.mem_of_getElem? (i := 9) rfl))) (by decide) (backOf (W := 0) (own_rm3 l Z a0 hw [] b24 cl32 [b0_, b1_, b2_] h27 n0 Z27 Ar32 (S32.trans (show ((3 : Int32)).toNatClampNeg = 3 by decide)) (by simp) (own_hat (bs := [b0_, b1_, b2_]) H32 (S32.trans (show ((3 : Int32)).toNatClampNeg = 3 by decide)))) hZ (hw _ (List.mem_of_getElem? (i := 9) rfl)) (hw _ (List.mem_of_getElem? (i := 8) rfl)) (by decide) (by decide)) (g := (mkF m 151 #[.val (.int p0), .val (.int p1), .val (.int p2), .val (.int p3), .val (.int p4), .val (.int (3 : Int32)), .val (.int b0_), .val (.int b1_), .val (.int b2_), .val (.int b3_), .val (.ref b24), .val (.int ex)] [(.ref b24)])) rfl (by rw [hml]; rfl) (argsL := [(.ref b24)]) (rest := []) (lenOf own_pd1 rfl) rfl (by show 2 * 0 + _ ≤ _; exact Nat.le_of_eq rfl) (hb hby at_151) (fun _ _ => ⟨rfl, eJ28, (by decide : 1 + 0 ≤ _), (by decide : 3 + 0 ≤ _)⟩)
      dsimp only [Pt.U, Pt.locs, Pt.cells, Pt.slots] at X33 l33 y33 z33 st33 hQ33
      subst l33 y33 z33
      obtain ⟨rfl, Nq33, e33⟩ := hQ33
      have N33 := Fr.app NJ28 Nq33
      refine own_step (fun _ k => st33 _ k) ?_
      show own_Ends _ _ _ _ _ _ _ (T33.setTop (mkF m 154 #[.val (.int p0), .val (.int p1), .val (.int p2), .val (.int p3), .val (.int p4), .val (.int (3 : Int32)), .val (.int b0_), .val (.int b1_), .val (.int b2_), .val (.int b3_), .val (.ref b24), .val (.int ex)] [(.int (own_blank [b0_, b1_, b2_]))]))
      refine own_step (fun _ k => XS.iload X33.here hx rfl (hb hby at_154) rfl k) ?_
      show own_Ends _ _ _ _ _ _ _ (T33.setTop (mkF m 156 #[.val (.int p0), .val (.int p1), .val (.int p2), .val (.int p3), .val (.int p4), .val (.int (3 : Int32)), .val (.int b0_), .val (.int b1_), .val (.int b2_), .val (.int b3_), .val (.ref b24), .val (.int ex)] [(.int ex), (.int (own_blank [b0_, b1_, b2_]))]))
      refine own_step (fun _ k => XS.icmpNo X33.here hx rfl (hb hby at_156) rfl (teq hex.symm).2 k) ?_
      show own_Ends _ _ _ _ _ _ _ (T33.setTop (mkF m 159 #[.val (.int p0), .val (.int p1), .val (.int p2), .val (.int p3), .val (.int p4), .val (.int (3 : Int32)), .val (.int b0_), .val (.int b1_), .val (.int b2_), .val (.int b3_), .val (.ref b24), .val (.int ex)] []))
      refine own_step (fun _ k => XS.iconst X33.here hx rfl (hb hby at_159) k) ?_
      show own_Ends _ _ _ _ _ _ _ (T33.setTop (mkF m 160 #[.val (.int p0), .val (.int p1), .val (.int p2), .val (.int p3), .val (.int p4), .val (.int (3 : Int32)), .val (.int b0_), .val (.int b1_), .val (.int b2_), .val (.int b3_), .val (.ref b24), .val (.int ex)] [(.int (1 : Int32))]))
      refine own_step (fun _ k => XS.goto X33.here hx rfl (pc0 := 160) (pc' := 164) rfl (hb hby at_160) (by decide) (by decide) k) ?_
      show own_Ends _ _ _ _ _ _ _ (T33.setTop (mkF m 164 #[.val (.int p0), .val (.int p1), .val (.int p2), .val (.int p3), .val (.int p4), .val (.int (3 : Int32)), .val (.int b0_), .val (.int b1_), .val (.int b2_), .val (.int b3_), .val (.ref b24), .val (.int ex)] [(.int (1 : Int32))]))
      refine own_ret X33 (BodyLoose.notSynchronized Bd) (v := (some (.int (1 : Int32)))) (fun h => by rw [Bd.returns] at h; cases h) ?_ (by decide) (by decide) (fun fs hr => X33.ireturnOut hx Bd.returns rfl (by simp) (hb hby at_164) hr)
      show own_Q0 Z p0 p1 p2 p3 p4  h0 n0 (some (.int (1 : Int32))) T33.heap _
      rw [e33]
      exact ⟨rfl, N33⟩
    refine own_step (fun _ k => XS.icmpNo X27.here hx rfl (hb hby at_89) rfl (flt (by decide)).1 k) ?_
    show own_Ends _ _ _ _ _ _ _ (T27.setTop (mkF m 92 #[.val (.int p0), .val (.int p1), .val (.int p2), .val (.int p3), .val (.int p4), .val (.int (3 : Int32)), .val (.int b0_), .val (.int b1_), .val (.int b2_), .val (.int b3_), .val (.ref b24), .unset] []))
    refine own_step (fun _ k => XS.iload X27.here hx rfl (hb hby at_92) rfl k) ?_
    show own_Ends _ _ _ _ _ _ _ (T27.setTop (mkF m 94 #[.val (.int p0), .val (.int p1), .val (.int p2), .val (.int p3), .val (.int p4), .val (.int (3 : Int32)), .val (.int b0_), .val (.int b1_), .val (.int b2_), .val (.int b3_), .val (.ref b24), .unset] [(.int b0_)]))
    obtain ⟨_, _, ⟨T29, L29, k29, n29⟩, -, X29, ⟨Lc29, hQ29, l29, y29, z29⟩, st29⟩ := Jvm.LawKit.callS X27 hx (y := (⟨"com/example/rulewright/rulewright/cli/EventLinesIsBlankPinLaw", "ok", "(B)Z"⟩ : MethodName)) hown (mvT hZ (hw _ (List.mem_of_getElem? (i := 10) rfl))) (mvT hZ (hw _ (List.mem_of_getElem? (i := 11) rfl))) (mvT hZ (hw _ (List.mem_of_getElem? (i := 3) rfl))) (mvT hZ (hw _ (List.mem_of_getElem? (i := 12) rfl))) (by decide) (backOf (W := 0) (own_rm2 l Z a0 hw [] b0_  h27 n0 Z27 ) hZ (hw _ (List.mem_of_getElem? (i := 12) rfl)) (hw _ (List.mem_of_getElem? (i := 3) rfl)) (by decide) (by decide)) (g := (mkF m 94 #[.val (.int p0), .val (.int p1), .val (.int p2), .val (.int p3), .val (.int p4), .val (.int (3 : Int32)), .val (.int b0_), .val (.int b1_), .val (.int b2_), .val (.int b3_), .val (.ref b24), .unset] [(.int b0_)])) rfl (by rw [hml]; rfl) (argsL := [(.int b0_)]) (rest := []) (lenOf own_pd2 rfl) rfl (by show 2 * 0 + _ ≤ _; exact Nat.le_of_eq rfl) (hb hby at_94) (fun _ _ => ⟨rfl, e27, (by decide : 1 + 0 ≤ _), (by decide : 3 + 0 ≤ _)⟩)
    dsimp only [Pt.U, Pt.locs, Pt.cells, Pt.slots] at X29 l29 y29 z29 st29 hQ29
    subst l29 y29 z29
    obtain ⟨rfl, Nq29, e29⟩ := hQ29
    have N29 := Fr.app N27 Nq29
    refine own_step (fun _ k => st29 _ k) ?_
    show own_Ends _ _ _ _ _ _ _ (T29.setTop (mkF m 97 #[.val (.int p0), .val (.int p1), .val (.int p2), .val (.int p3), .val (.int p4), .val (.int (3 : Int32)), .val (.int b0_), .val (.int b1_), .val (.int b2_), .val (.int b3_), .val (.ref b24), .unset] [(.int (own_ok b0_))]))
    by_cases o0 : (own_ok b0_) = (0 : Int32)
    · refine own_step (fun _ k => XS.ifYes X29.here hx rfl (pc0 := 97) (pc' := 146) rfl (hb hby at_97) rfl ((if0 _ _).trans (teq o0).1) (by decide) (by decide) k) ?_
      show own_Ends _ _ _ _ _ _ _ (T29.setTop (mkF m 146 #[.val (.int p0), .val (.int p1), .val (.int p2), .val (.int p3), .val (.int p4), .val (.int (3 : Int32)), .val (.int b0_), .val (.int b1_), .val (.int b2_), .val (.int b3_), .val (.ref b24), .unset] []))
      refine own_step (fun _ k => XS.iconst X29.here hx rfl (hb hby at_146) k) ?_
      show own_Ends _ _ _ _ _ _ _ (T29.setTop (mkF m 147 #[.val (.int p0), .val (.int p1), .val (.int p2), .val (.int p3), .val (.int p4), .val (.int (3 : Int32)), .val (.int b0_), .val (.int b1_), .val (.int b2_), .val (.int b3_), .val (.ref b24), .unset] [(.int (0 : Int32))]))
      exact J147_28 _ N29 _ X29 e29 _ (by simp [own_blank, o0])
    · refine own_step (fun _ k => XS.ifNo X29.here hx rfl (hb hby at_97) rfl ((if0 _ _).trans (feq o0).1) k) ?_
      show own_Ends _ _ _ _ _ _ _ (T29.setTop (mkF m 100 #[.val (.int p0), .val (.int p1), .val (.int p2), .val (.int p3), .val (.int p4), .val (.int (3 : Int32)), .val (.int b0_), .val (.int b1_), .val (.int b2_), .val (.int b3_), .val (.ref b24), .unset] []))
      refine own_step (fun _ k => XS.iload X29.here hx rfl (hb hby at_100) rfl k) ?_
      show own_Ends _ _ _ _ _ _ _ (T29.setTop (mkF m 102 #[.val (.int p0), .val (.int p1), .val (.int p2), .val (.int p3), .val (.int p4), .val (.int (3 : Int32)), .val (.int b0_), .val (.int b1_), .val (.int b2_), .val (.int b3_), .val (.ref b24), .unset] [(.int (3 : Int32))]))
      refine own_step (fun _ k => XS.iconst X29.here hx rfl (hb hby at_102) k) ?_
      show own_Ends _ _ _ _ _ _ _ (T29.setTop (mkF m 103 #[.val (.int p0), .val (.int p1), .val (.int p2), .val (.int p3), .val (.int p4), .val (.int (3 : Int32)), .val (.int b0_), .val (.int b1_), .val (.int b2_), .val (.int b3_), .val (.ref b24), .unset] [(.int (2 : Int32)), (.int (3 : Int32))]))
      refine own_step (fun _ k => XS.icmpNo X29.here hx rfl (hb hby at_103) rfl (flt (by decide)).1 k) ?_
      show own_Ends _ _ _ _ _ _ _ (T29.setTop (mkF m 106 #[.val (.int p0), .val (.int p1), .val (.int p2), .val (.int p3), .val (.int p4), .val (.int (3 : Int32)), .val (.int b0_), .val (.int b1_), .val (.int b2_), .val (.int b3_), .val (.ref b24), .unset] []))
      refine own_step (fun _ k => XS.iload X29.here hx rfl (hb hby at_106) rfl k) ?_
      show own_Ends _ _ _ _ _ _ _ (T29.setTop (mkF m 108 #[.val (.int p0), .val (.int p1), .val (.int p2), .val (.int p3), .val (.int p4), .val (.int (3 : Int32)), .val (.int b0_), .val (.int b1_), .val (.int b2_), .val (.int b3_), .val (.ref b24), .unset] [(.int b1_)]))
      obtain ⟨_, _, ⟨T30, L30, k30, n30⟩, -, X30, ⟨Lc30, hQ30, l30, y30, z30⟩, st30⟩ := Jvm.LawKit.callS X29 hx (y := (⟨"com/example/rulewright/rulewright/cli/EventLinesIsBlankPinLaw", "ok", "(B)Z"⟩ : MethodName)) hown (mvT hZ (hw _ (List.mem_of_getElem? (i := 10) rfl))) (mvT hZ (hw _ (List.mem_of_getElem? (i := 11) rfl))) (mvT hZ (hw _ (List.mem_of_getElem? (i := 3) rfl))) (mvT hZ (hw _ (List.mem_of_getElem? (i := 12) rfl))) (by decide) (backOf (W := 0) (own_rm2 l Z a0 hw [] b1_  h27 n0 Z27 ) hZ (hw _ (List.mem_of_getElem? (i := 12) rfl)) (hw _ (List.mem_of_getElem? (i := 3) rfl)) (by decide) (by decide)) (g := (mkF m 108 #[.val (.int p0), .val (.int p1), .val (.int p2), .val (.int p3), .val (.int p4), .val (.int (3 : Int32)), .val (.int b0_), .val (.int b1_), .val (.int b2_), .val (.int b3_), .val (.ref b24), .unset] [(.int b1_)])) rfl (by rw [hml]; rfl) (argsL := [(.int b1_)]) (rest := []) (lenOf own_pd2 rfl) rfl (by show 2 * 0 + _ ≤ _; exact Nat.le_of_eq rfl) (hb hby at_108) (fun _ _ => ⟨rfl, e29, (by decide : 1 + 0 ≤ _), (by decide : 3 + 0 ≤ _)⟩)
      dsimp only [Pt.U, Pt.locs, Pt.cells, Pt.slots] at X30 l30 y30 z30 st30 hQ30
      subst l30 y30 z30
      obtain ⟨rfl, Nq30, e30⟩ := hQ30
      have N30 := Fr.app N29 Nq30
      refine own_step (fun _ k => st30 _ k) ?_
      show own_Ends _ _ _ _ _ _ _ (T30.setTop (mkF m 111 #[.val (.int p0), .val (.int p1), .val (.int p2), .val (.int p3), .val (.int p4), .val (.int (3 : Int32)), .val (.int b0_), .val (.int b1_), .val (.int b2_), .val (.int b3_), .val (.ref b24), .unset] [(.int (own_ok b1_))]))
      by_cases o1 : (own_ok b1_) = (0 : Int32)
      · refine own_step (fun _ k => XS.ifYes X30.here hx rfl (pc0 := 111) (pc' := 146) rfl (hb hby at_111) rfl ((if0 _ _).trans (teq o1).1) (by decide) (by decide) k) ?_
        show own_Ends _ _ _ _ _ _ _ (T30.setTop (mkF m 146 #[.val (.int p0), .val (.int p1), .val (.int p2), .val (.int p3), .val (.int p4), .val (.int (3 : Int32)), .val (.int b0_), .val (.int b1_), .val (.int b2_), .val (.int b3_), .val (.ref b24), .unset] []))
        refine own_step (fun _ k => XS.iconst X30.here hx rfl (hb hby at_146) k) ?_
        show own_Ends _ _ _ _ _ _ _ (T30.setTop (mkF m 147 #[.val (.int p0), .val (.int p1), .val (.int p2), .val (.int p3), .val (.int p4), .val (.int (3 : Int32)), .val (.int b0_), .val (.int b1_), .val (.int b2_), .val (.int b3_), .val (.ref b24), .unset] [(.int (0 : Int32))]))
        exact J147_28 _ N30 _ X30 e30 _ (by simp [own_blank, o0, o1])
      · refine own_step (fun _ k => XS.ifNo X30.here hx rfl (hb hby at_111) rfl ((if0 _ _).trans (feq o1).1) k) ?_
        show own_Ends _ _ _ _ _ _ _ (T30.setTop (mkF m 114 #[.val (.int p0), .val (.int p1), .val (.int p2), .val (.int p3), .val (.int p4), .val (.int (3 : Int32)), .val (.int b0_), .val (.int b1_), .val (.int b2_), .val (.int b3_), .val (.ref b24), .unset] []))
        refine own_step (fun _ k => XS.iload X30.here hx rfl (hb hby at_114) rfl k) ?_
        show own_Ends _ _ _ _ _ _ _ (T30.setTop (mkF m 116 #[.val (.int p0), .val (.int p1), .val (.int p2), .val (.int p3), .val (.int p4), .val (.int (3 : Int32)), .val (.int b0_), .val (.int b1_), .val (.int b2_), .val (.int b3_), .val (.ref b24), .unset] [(.int (3 : Int32))]))
        refine own_step (fun _ k => XS.iconst X30.here hx rfl (hb hby at_116) k) ?_
        show own_Ends _ _ _ _ _ _ _ (T30.setTop (mkF m 117 #[.val (.int p0), .val (.int p1), .val (.int p2), .val (.int p3), .val (.int p4), .val (.int (3 : Int32)), .val (.int b0_), .val (.int b1_), .val (.int b2_), .val (.int b3_), .val (.ref b24), .unset] [(.int (3 : Int32)), (.int (3 : Int32))]))
        refine own_step (fun _ k => XS.icmpNo X30.here hx rfl (hb hby at_117) rfl (flt (by decide)).1 k) ?_
        show own_Ends _ _ _ _ _ _ _ (T30.setTop (mkF m 120 #[.val (.int p0), .val (.int p1), .val (.int p2), .val (.int p3), .val (.int p4), .val (.int (3 : Int32)), .val (.int b0_), .val (.int b1_), .val (.int b2_), .val (.int b3_), .val (.ref b24), .unset] []))
        refine own_step (fun _ k => XS.iload X30.here hx rfl (hb hby at_120) rfl k) ?_
        show own_Ends _ _ _ _ _ _ _ (T30.setTop (mkF m 122 #[.val (.int p0), .val (.int p1), .val (.int p2), .val (.int p3), .val (.int p4), .val (.int (3 : Int32)), .val (.int b0_), .val (.int b1_), .val (.int b2_), .val (.int b3_), .val (.ref b24), .unset] [(.int b2_)]))
        obtain ⟨_, _, ⟨T31, L31, k31, n31⟩, -, X31, ⟨Lc31, hQ31, l31, y31, z31⟩, st31⟩ := Jvm.LawKit.callS X30 hx (y := (⟨"com/example/rulewright/rulewright/cli/EventLinesIsBlankPinLaw", "ok", "(B)Z"⟩ : MethodName)) hown (mvT hZ (hw _ (List.mem_of_getElem? (i := 10) rfl))) (mvT hZ (hw _ (List.mem_of_getElem? (i := 11) rfl))) (mvT hZ (hw _ (List.mem_of_getElem? (i := 3) rfl))) (mvT hZ (hw _ (List.mem_of_getElem? (i := 12) rfl))) (by decide) (backOf (W := 0) (own_rm2 l Z a0 hw [] b2_  h27 n0 Z27 ) hZ (hw _ (List.mem_of_getElem? (i := 12) rfl)) (hw _ (List.mem_of_getElem? (i := 3) rfl)) (by decide) (by decide)) (g := (mkF m 122 #[.val (.int p0), .val (.int p1), .val (.int p2), .val (.int p3), .val (.int p4), .val (.int (3 : Int32)), .val (.int b0_), .val (.int b1_), .val (.int b2_), .val (.int b3_), .val (.ref b24), .unset] [(.int b2_)])) rfl (by rw [hml]; rfl) (argsL := [(.int b2_)]) (rest := []) (lenOf own_pd2 rfl) rfl (by show 2 * 0 + _ ≤ _; exact Nat.le_of_eq rfl) (hb hby at_122) (fun _ _ => ⟨rfl, e30, (by decide : 1 + 0 ≤ _), (by decide : 3 + 0 ≤ _)⟩)
        dsimp only [Pt.U, Pt.locs, Pt.cells, Pt.slots] at X31 l31 y31 z31 st31 hQ31
        subst l31 y31 z31
        obtain ⟨rfl, Nq31, e31⟩ := hQ31
        have N31 := Fr.app N30 Nq31
        refine own_step (fun _ k => st31 _ k) ?_
        show own_Ends _ _ _ _ _ _ _ (T31.setTop (mkF m 125 #[.val (.int p0), .val (.int p1), .val (.int p2), .val (.int p3), .val (.int p4), .val (.int (3 : Int32)), .val (.int b0_), .val (.int b1_), .val (.int b2_), .val (.int b3_), .val (.ref b24), .unset] [(.int (own_ok b2_))]))
        by_cases o2 : (own_ok b2_) = (0 : Int32)
        · refine own_step (fun _ k => XS.ifYes X31.here hx rfl (pc0 := 125) (pc' := 146) rfl (hb hby at_125) rfl ((if0 _ _).trans (teq o2).1) (by decide) (by decide) k) ?_
          show own_Ends _ _ _ _ _ _ _ (T31.setTop (mkF m 146 #[.val (.int p0), .val (.int p1), .val (.int p2), .val (.int p3), .val (.int p4), .val (.int (3 : Int32)), .val (.int b0_), .val (.int b1_), .val (.int b2_), .val (.int b3_), .val (.ref b24), .unset] []))
          refine own_step (fun _ k => XS.iconst X31.here hx rfl (hb hby at_146) k) ?_
          show own_Ends _ _ _ _ _ _ _ (T31.setTop (mkF m 147 #[.val (.int p0), .val (.int p1), .val (.int p2), .val (.int p3), .val (.int p4), .val (.int (3 : Int32)), .val (.int b0_), .val (.int b1_), .val (.int b2_), .val (.int b3_), .val (.ref b24), .unset] [(.int (0 : Int32))]))
          exact J147_28 _ N31 _ X31 e31 _ (by simp [own_blank, o0, o1, o2])
        · refine own_step (fun _ k => XS.ifNo X31.here hx rfl (hb hby at_125) rfl ((if0 _ _).trans (feq o2).1) k) ?_
          show own_Ends _ _ _ _ _ _ _ (T31.setTop (mkF m 128 #[.val (.int p0), .val (.int p1), .val (.int p2), .val (.int p3), .val (.int p4), .val (.int (3 : Int32)), .val (.int b0_), .val (.int b1_), .val (.int b2_), .val (.int b3_), .val (.ref b24), .unset] []))
          refine own_step (fun _ k => XS.iload X31.here hx rfl (hb hby at_128) rfl k) ?_
          show own_Ends _ _ _ _ _ _ _ (T31.setTop (mkF m 130 #[.val (.int p0), .val (.int p1), .val (.int p2), .val (.int p3), .val (.int p4), .val (.int (3 : Int32)), .val (.int b0_), .val (.int b1_), .val (.int b2_), .val (.int b3_), .val (.ref b24), .unset] [(.int (3 : Int32))]))
          refine own_step (fun _ k => XS.iconst X31.here hx rfl (hb hby at_130) k) ?_
          show own_Ends _ _ _ _ _ _ _ (T31.setTop (mkF m 131 #[.val (.int p0), .val (.int p1), .val (.int p2), .val (.int p3), .val (.int p4), .val (.int (3 : Int32)), .val (.int b0_), .val (.int b1_), .val (.int b2_), .val (.int b3_), .val (.ref b24), .unset] [(.int (4 : Int32)), (.int (3 : Int32))]))
          refine own_step (fun _ k => XS.icmpYes X31.here hx rfl (pc0 := 131) (pc' := 142) rfl (hb hby at_131) rfl (tlt (by decide)).1 (by decide) (by decide) k) ?_
          show own_Ends _ _ _ _ _ _ _ (T31.setTop (mkF m 142 #[.val (.int p0), .val (.int p1), .val (.int p2), .val (.int p3), .val (.int p4), .val (.int (3 : Int32)), .val (.int b0_), .val (.int b1_), .val (.int b2_), .val (.int b3_), .val (.ref b24), .unset] []))
          refine own_step (fun _ k => XS.iconst X31.here hx rfl (hb hby at_142) k) ?_
          show own_Ends _ _ _ _ _ _ _ (T31.setTop (mkF m 143 #[.val (.int p0), .val (.int p1), .val (.int p2), .val (.int p3), .val (.int p4), .val (.int (3 : Int32)), .val (.int b0_), .val (.int b1_), .val (.int b2_), .val (.int b3_), .val (.ref b24), .unset] [(.int (1 : Int32))]))
          refine own_step (fun _ k => XS.goto X31.here hx rfl (pc0 := 143) (pc' := 147) rfl (hb hby at_143) (by decide) (by decide) k) ?_
          show own_Ends _ _ _ _ _ _ _ (T31.setTop (mkF m 147 #[.val (.int p0), .val (.int p1), .val (.int p2), .val (.int p3), .val (.int p4), .val (.int (3 : Int32)), .val (.int b0_), .val (.int b1_), .val (.int b2_), .val (.int b3_), .val (.ref b24), .unset] [(.int (1 : Int32))]))
          exact J147_28 _ N31 _ X31 e31 _ (by simp [own_blank, o0, o1, o2])
  · show own_Ends _ _ _ _ _ _ _ (T5.setTop (mkF m 35 #[.val (.int p0), .val (.int p1), .val (.int p2), .val (.int p3), .val (.int p4), .val (.int (4 : Int32)), .val (.int b0_), .val (.int b1_), .val (.int b2_), .val (.int b3_), .unset, .unset] [(.int (4 : Int32))]))
    obtain ⟨T34, h34, k34, X34, e34, E34, A34, st34⟩ := newP X5 hx hZ (hw _ (List.mem_of_getElem? (i := 5) rfl)) e5 (g := (mkF m 35 #[.val (.int p0), .val (.int p1), .val (.int p2), .val (.int p3), .val (.int p4), .val (.int (4 : Int32)), .val (.int b0_), .val (.int b1_), .val (.int b2_), .val (.int b3_), .unset, .unset] [(.int (4 : Int32))])) rfl (hb hby at_35) rfl (by decide) (cap := 4) (by decide) (by decide) (by decide) (by decide)
    obtain ⟨b34, g34⟩ : ∃ z, z = h0.size := ⟨_, rfl⟩
    rw [← g34] at A34 st34
    have gn34 : n0 ≤ b34 := Nat.le_trans Z0 (Nat.le_of_eq g34.symm)
    have Z34 := Nat.le_trans Z0 E34.1
    have V34_b34 : Arv Z h34 b34 k34 .byte (4 : Int32) [(.int (0 : Int32)), (.int (0 : Int32)), (.int (0 : Int32)), (.int (0 : Int32))] (.int (0 : Int32)) := (Arv.new A34 (by decide)).pad (pad_rep [] (.int (0 : Int32)) 4)
    refine own_step (fun _ k => st34 _ k) ?_
    show own_Ends _ _ _ _ _ _ _ (T34.setTop (mkF m 37 #[.val (.int p0), .val (.int p1), .val (.int p2), .val (.int p3), .val (.int p4), .val (.int (4 : Int32)), .val (.int b0_), .val (.int b1_), .val (.int b2_), .val (.int b3_), .unset, .unset] [(.ref b34)]))
    refine own_step (fun _ k => XS.astore X34.here hx rfl (hb hby at_37) rfl rfl (l' := #[.val (.int p0), .val (.int p1), .val (.int p2), .val (.int p3), .val (.int p4), .val (.int (4 : Int32)), .val (.int b0_), .val (.int b1_), .val (.int b2_), .val (.int b3_), .val (.ref b34), .unset]) rfl k) ?_
    show own_Ends _ _ _ _ _ _ _ (T34.setTop (mkF m 39 #[.val (.int p0), .val (.int p1), .val (.int p2), .val (.int p3), .val (.int p4), .val (.int (4 : Int32)), .val (.int b0_), .val (.int b1_), .val (.int b2_), .val (.int b3_), .val (.ref b34), .unset] []))
    refine own_step (fun _ k => XS.iload X34.here hx rfl (hb hby at_39) rfl k) ?_
    show own_Ends _ _ _ _ _ _ _ (T34.setTop (mkF m 41 #[.val (.int p0), .val (.int p1), .val (.int p2), .val (.int p3), .val (.int p4), .val (.int (4 : Int32)), .val (.int b0_), .val (.int b1_), .val (.int b2_), .val (.int b3_), .val (.ref b34), .unset] [(.int (4 : Int32))]))
    refine own_step (fun _ k => XS.ifNo X34.here hx rfl (hb hby at_41) rfl ((if0 _ _).trans (tlt (by decide)).2.2.2) k) ?_
    show own_Ends _ _ _ _ _ _ _ (T34.setTop (mkF m 44 #[.val (.int p0), .val (.int p1), .val (.int p2), .val (.int p3), .val (.int p4), .val (.int (4 : Int32)), .val (.int b0_), .val (.int b1_), .val (.int b2_), .val (.int b3_), .val (.ref b34), .unset] []))
    refine own_step (fun _ k => XS.aload X34.here hx rfl (hb hby at_44) rfl rfl k) ?_
    show own_Ends _ _ _ _ _ _ _ (T34.setTop (mkF m 46 #[.val (.int p0), .val (.int p1), .val (.int p2), .val (.int p3), .val (.int p4), .val (.int (4 : Int32)), .val (.int b0_), .val (.int b1_), .val (.int b2_), .val (.int b3_), .val (.ref b34), .unset] [(.ref b34)]))
    refine own_step (fun _ k => XS.iconst X34.here hx rfl (hb hby at_46) k) ?_
    show own_Ends _ _ _ _ _ _ _ (T34.setTop (mkF m 47 #[.val (.int p0), .val (.int p1), .val (.int p2), .val (.int p3), .val (.int p4), .val (.int (4 : Int32)), .val (.int b0_), .val (.int b1_), .val (.int b2_), .val (.int b3_), .val (.ref b34), .unset] [(.int (0 : Int32)), (.ref b34)]))
    refine own_step (fun _ k => XS.iload X34.here hx rfl (hb hby at_47) rfl k) ?_
    show own_Ends _ _ _ _ _ _ _ (T34.setTop (mkF m 49 #[.val (.int p0), .val (.int p1), .val (.int p2), .val (.int p3), .val (.int p4), .val (.int (4 : Int32)), .val (.int b0_), .val (.int b1_), .val (.int b2_), .val (.int b3_), .val (.ref b34), .unset] [(.int b0_), (.int (0 : Int32)), (.ref b34)]))
    obtain ⟨cl35, Ar35, qq35, S35, M35, H35, G35⟩ := V34_b34
    have hin35 : ¬ ((0 : Int32) < 0 ∨ cl35.slots.size ≤ ((0 : Int32)).toNatClampNeg) := inb_of S35 ⟨by decide, by decide⟩
    obtain ⟨T35, h35, X35, e35, W35, st35⟩ := stB X34 hx hZ e34 Ar35 (j := (0 : Int32)) hin35 (g := (mkF m 49 #[.val (.int p0), .val (.int p1), .val (.int p2), .val (.int p3), .val (.int p4), .val (.int (4 : Int32)), .val (.int b0_), .val (.int b1_), .val (.int b2_), .val (.int b3_), .val (.ref b34), .unset] [(.int b0_), (.int (0 : Int32)), (.ref b34)])) rfl rfl (hb hby at_49)
    have N35 := Fr.snoc X35 N5 gn34
    rw [nb0] at W35
    have V35_b34 : Arv Z h35 b34 k34 .byte (4 : Int32) [(.int b0_), (.int (0 : Int32)), (.int (0 : Int32)), (.int (0 : Int32))] (.int (0 : Int32)) := Arv.set Ar35 qq35 S35 M35 H35 G35 (by have := fits_nar_byte b0_; rw [show (b0_).toInt8.toInt32 = b0_ from nb0] at this; exact this) W35 0 (by decide) (by simp)
    have Z35 := Nat.le_trans Z34 (Keep.of_wr W35).1
    refine own_step (fun _ k => st35 _ k) ?_
    show own_Ends _ _ _ _ _ _ _ (T35.setTop (mkF m 50 #[.val (.int p0), .val (.int p1), .val (.int p2), .val (.int p3), .val (.int p4), .val (.int (4 : Int32)), .val (.int b0_), .val (.int b1_), .val (.int b2_), .val (.int b3_), .val (.ref b34), .unset] []))
    refine own_step (fun _ k => XS.iload X35.here hx rfl (hb hby at_50) rfl k) ?_
    show own_Ends _ _ _ _ _ _ _ (T35.setTop (mkF m 52 #[.val (.int p0), .val (.int p1), .val (.int p2), .val (.int p3), .val (.int p4), .val (.int (4 : Int32)), .val (.int b0_), .val (.int b1_), .val (.int b2_), .val (.int b3_), .val (.ref b34), .unset] [(.int (4 : Int32))]))
    refine own_step (fun _ k => XS.iconst X35.here hx rfl (hb hby at_52) k) ?_
    show own_Ends _ _ _ _ _ _ _ (T35.setTop (mkF m 53 #[.val (.int p0), .val (.int p1), .val (.int p2), .val (.int p3), .val (.int p4), .val (.int (4 : Int32)), .val (.int b0_), .val (.int b1_), .val (.int b2_), .val (.int b3_), .val (.ref b34), .unset] [(.int (1 : Int32)), (.int (4 : Int32))]))
    refine own_step (fun _ k => XS.icmpNo X35.here hx rfl (hb hby at_53) rfl (tlt (by decide)).2.2.2 k) ?_
    show own_Ends _ _ _ _ _ _ _ (T35.setTop (mkF m 56 #[.val (.int p0), .val (.int p1), .val (.int p2), .val (.int p3), .val (.int p4), .val (.int (4 : Int32)), .val (.int b0_), .val (.int b1_), .val (.int b2_), .val (.int b3_), .val (.ref b34), .unset] []))
    refine own_step (fun _ k => XS.aload X35.here hx rfl (hb hby at_56) rfl rfl k) ?_
    show own_Ends _ _ _ _ _ _ _ (T35.setTop (mkF m 58 #[.val (.int p0), .val (.int p1), .val (.int p2), .val (.int p3), .val (.int p4), .val (.int (4 : Int32)), .val (.int b0_), .val (.int b1_), .val (.int b2_), .val (.int b3_), .val (.ref b34), .unset] [(.ref b34)]))
    refine own_step (fun _ k => XS.iconst X35.here hx rfl (hb hby at_58) k) ?_
    show own_Ends _ _ _ _ _ _ _ (T35.setTop (mkF m 59 #[.val (.int p0), .val (.int p1), .val (.int p2), .val (.int p3), .val (.int p4), .val (.int (4 : Int32)), .val (.int b0_), .val (.int b1_), .val (.int b2_), .val (.int b3_), .val (.ref b34), .unset] [(.int (1 : Int32)), (.ref b34)]))
    refine own_step (fun _ k => XS.iload X35.here hx rfl (hb hby at_59) rfl k) ?_
    show own_Ends _ _ _ _ _ _ _ (T35.setTop (mkF m 61 #[.val (.int p0), .val (.int p1), .val (.int p2), .val (.int p3), .val (.int p4), .val (.int (4 : Int32)), .val (.int b0_), .val (.int b1_), .val (.int b2_), .val (.int b3_), .val (.ref b34), .unset] [(.int b1_), (.int (1 : Int32)), (.ref b34)]))
    obtain ⟨cl36, Ar36, qq36, S36, M36, H36, G36⟩ := V35_b34
    have hin36 : ¬ ((1 : Int32) < 0 ∨ cl36.slots.size ≤ ((1 : Int32)).toNatClampNeg) := inb_of S36 ⟨by decide, by decide⟩
    obtain ⟨T36, h36, X36, e36, W36, st36⟩ := stB X35 hx hZ e35 Ar36 (j := (1 : Int32)) hin36 (g := (mkF m 61 #[.val (.int p0), .val (.int p1), .val (.int p2), .val (.int p3), .val (.int p4), .val (.int (4 : Int32)), .val (.int b0_), .val (.int b1_), .val (.int b2_), .val (.int b3_), .val (.ref b34), .unset] [(.int b1_), (.int (1 : Int32)), (.ref b34)])) rfl rfl (hb hby at_61)
    have N36 := Fr.snoc X36 N35 gn34
    rw [nb1] at W36
    have V36_b34 : Arv Z h36 b34 k34 .byte (4 : Int32) [(.int b0_), (.int b1_), (.int (0 : Int32)), (.int (0 : Int32))] (.int (0 : Int32)) := Arv.set Ar36 qq36 S36 M36 H36 G36 (by have := fits_nar_byte b1_; rw [show (b1_).toInt8.toInt32 = b1_ from nb1] at this; exact this) W36 1 (by decide) (by simp)
    have Z36 := Nat.le_trans Z35 (Keep.of_wr W36).1
    refine own_step (fun _ k => st36 _ k) ?_
    show own_Ends _ _ _ _ _ _ _ (T36.setTop (mkF m 62 #[.val (.int p0), .val (.int p1), .val (.int p2), .val (.int p3), .val (.int p4), .val (.int (4 : Int32)), .val (.int b0_), .val (.int b1_), .val (.int b2_), .val (.int b3_), .val (.ref b34), .unset] []))
    refine own_step (fun _ k => XS.iload X36.here hx rfl (hb hby at_62) rfl k) ?_
    show own_Ends _ _ _ _ _ _ _ (T36.setTop (mkF m 64 #[.val (.int p0), .val (.int p1), .val (.int p2), .val (.int p3), .val (.int p4), .val (.int (4 : Int32)), .val (.int b0_), .val (.int b1_), .val (.int b2_), .val (.int b3_), .val (.ref b34), .unset] [(.int (4 : Int32))]))
    refine own_step (fun _ k => XS.iconst X36.here hx rfl (hb hby at_64) k) ?_
    show own_Ends _ _ _ _ _ _ _ (T36.setTop (mkF m 65 #[.val (.int p0), .val (.int p1), .val (.int p2), .val (.int p3), .val (.int p4), .val (.int (4 : Int32)), .val (.int b0_), .val (.int b1_), .val (.int b2_), .val (.int b3_), .val (.ref b34), .unset] [(.int (2 : Int32)), (.int (4 : Int32))]))
    refine own_step (fun _ k => XS.icmpNo X36.here hx rfl (hb hby at_65) rfl (tlt (by decide)).2.2.2 k) ?_
    show own_Ends _ _ _ _ _ _ _ (T36.setTop (mkF m 68 #[.val (.int p0), .val (.int p1), .val (.int p2), .val (.int p3), .val (.int p4), .val (.int (4 : Int32)), .val (.int b0_), .val (.int b1_), .val (.int b2_), .val (.int b3_), .val (.ref b34), .unset] []))
    refine own_step (fun _ k => XS.aload X36.here hx rfl (hb hby at_68) rfl rfl k) ?_
    show own_Ends _ _ _ _ _ _ _ (T36.setTop (mkF m 70 #[.val (.int p0), .val (.int p1), .val (.int p2), .val (.int p3), .val (.int p4), .val (.int (4 : Int32)), .val (.int b0_), .val (.int b1_), .val (.int b2_), .val (.int b3_), .val (.ref b34), .unset] [(.ref b34)]))
    refine own_step (fun _ k => XS.iconst X36.here hx rfl (hb hby at_70) k) ?_
    show own_Ends _ _ _ _ _ _ _ (T36.setTop (mkF m 71 #[.val (.int p0), .val (.int p1), .val (.int p2), .val (.int p3), .val (.int p4), .val (.int (4 : Int32)), .val (.int b0_), .val (.int b1_), .val (.int b2_), .val (.int b3_), .val (.ref b34), .unset] [(.int (2 : Int32)), (.ref b34)]))
    refine own_step (fun _ k => XS.iload X36.here hx rfl (hb hby at_71) rfl k) ?_
    show own_Ends _ _ _ _ _ _ _ (T36.setTop (mkF m 73 #[.val (.int p0), .val (.int p1), .val (.int p2), .val (.int p3), .val (.int p4), .val (.int (4 : Int32)), .val (.int b0_), .val (.int b1_), .val (.int b2_), .val (.int b3_), .val (.ref b34), .unset] [(.int b2_), (.int (2 : Int32)), (.ref b34)]))
    obtain ⟨cl37, Ar37, qq37, S37, M37, H37, G37⟩ := V36_b34
    have hin37 : ¬ ((2 : Int32) < 0 ∨ cl37.slots.size ≤ ((2 : Int32)).toNatClampNeg) := inb_of S37 ⟨by decide, by decide⟩
    obtain ⟨T37, h37, X37, e37, W37, st37⟩ := stB X36 hx hZ e36 Ar37 (j := (2 : Int32)) hin37 (g := (mkF m 73 #[.val (.int p0), .val (.int p1), .val (.int p2), .val (.int p3), .val (.int p4), .val (.int (4 : Int32)), .val (.int b0_), .val (.int b1_), .val (.int b2_), .val (.int b3_), .val (.ref b34), .unset] [(.int b2_), (.int (2 : Int32)), (.ref b34)])) rfl rfl (hb hby at_73)
    have N37 := Fr.snoc X37 N36 gn34
    rw [nb2] at W37
    have V37_b34 : Arv Z h37 b34 k34 .byte (4 : Int32) [(.int b0_), (.int b1_), (.int b2_), (.int (0 : Int32))] (.int (0 : Int32)) := Arv.set Ar37 qq37 S37 M37 H37 G37 (by have := fits_nar_byte b2_; rw [show (b2_).toInt8.toInt32 = b2_ from nb2] at this; exact this) W37 2 (by decide) (by simp)
    have Z37 := Nat.le_trans Z36 (Keep.of_wr W37).1
    refine own_step (fun _ k => st37 _ k) ?_
    show own_Ends _ _ _ _ _ _ _ (T37.setTop (mkF m 74 #[.val (.int p0), .val (.int p1), .val (.int p2), .val (.int p3), .val (.int p4), .val (.int (4 : Int32)), .val (.int b0_), .val (.int b1_), .val (.int b2_), .val (.int b3_), .val (.ref b34), .unset] []))
    refine own_step (fun _ k => XS.iload X37.here hx rfl (hb hby at_74) rfl k) ?_
    show own_Ends _ _ _ _ _ _ _ (T37.setTop (mkF m 76 #[.val (.int p0), .val (.int p1), .val (.int p2), .val (.int p3), .val (.int p4), .val (.int (4 : Int32)), .val (.int b0_), .val (.int b1_), .val (.int b2_), .val (.int b3_), .val (.ref b34), .unset] [(.int (4 : Int32))]))
    refine own_step (fun _ k => XS.iconst X37.here hx rfl (hb hby at_76) k) ?_
    show own_Ends _ _ _ _ _ _ _ (T37.setTop (mkF m 77 #[.val (.int p0), .val (.int p1), .val (.int p2), .val (.int p3), .val (.int p4), .val (.int (4 : Int32)), .val (.int b0_), .val (.int b1_), .val (.int b2_), .val (.int b3_), .val (.ref b34), .unset] [(.int (3 : Int32)), (.int (4 : Int32))]))
    refine own_step (fun _ k => XS.icmpNo X37.here hx rfl (hb hby at_77) rfl (tlt (by decide)).2.2.2 k) ?_
    show own_Ends _ _ _ _ _ _ _ (T37.setTop (mkF m 80 #[.val (.int p0), .val (.int p1), .val (.int p2), .val (.int p3), .val (.int p4), .val (.int (4 : Int32)), .val (.int b0_), .val (.int b1_), .val (.int b2_), .val (.int b3_), .val (.ref b34), .unset] []))
    refine own_step (fun _ k => XS.aload X37.here hx rfl (hb hby at_80) rfl rfl k) ?_
    show own_Ends _ _ _ _ _ _ _ (T37.setTop (mkF m 82 #[.val (.int p0), .val (.int p1), .val (.int p2), .val (.int p3), .val (.int p4), .val (.int (4 : Int32)), .val (.int b0_), .val (.int b1_), .val (.int b2_), .val (.int b3_), .val (.ref b34), .unset] [(.ref b34)]))
    refine own_step (fun _ k => XS.iconst X37.here hx rfl (hb hby at_82) k) ?_
    show own_Ends _ _ _ _ _ _ _ (T37.setTop (mkF m 83 #[.val (.int p0), .val (.int p1), .val (.int p2), .val (.int p3), .val (.int p4), .val (.int (4 : Int32)), .val (.int b0_), .val (.int b1_), .val (.int b2_), .val (.int b3_), .val (.ref b34), .unset] [(.int (3 : Int32)), (.ref b34)]))
    refine own_step (fun _ k => XS.iload X37.here hx rfl (hb hby at_83) rfl k) ?_
    show own_Ends _ _ _ _ _ _ _ (T37.setTop (mkF m 85 #[.val (.int p0), .val (.int p1), .val (.int p2), .val (.int p3), .val (.int p4), .val (.int (4 : Int32)), .val (.int b0_), .val (.int b1_), .val (.int b2_), .val (.int b3_), .val (.ref b34), .unset] [(.int b3_), (.int (3 : Int32)), (.ref b34)]))
    obtain ⟨cl38, Ar38, qq38, S38, M38, H38, G38⟩ := V37_b34
    have hin38 : ¬ ((3 : Int32) < 0 ∨ cl38.slots.size ≤ ((3 : Int32)).toNatClampNeg) := inb_of S38 ⟨by decide, by decide⟩
    obtain ⟨T38, h38, X38, e38, W38, st38⟩ := stB X37 hx hZ e37 Ar38 (j := (3 : Int32)) hin38 (g := (mkF m 85 #[.val (.int p0), .val (.int p1), .val (.int p2), .val (.int p3), .val (.int p4), .val (.int (4 : Int32)), .val (.int b0_), .val (.int b1_), .val (.int b2_), .val (.int b3_), .val (.ref b34), .unset] [(.int b3_), (.int (3 : Int32)), (.ref b34)])) rfl rfl (hb hby at_85)
    have N38 := Fr.snoc X38 N37 gn34
    rw [nb3] at W38
    have V38_b34 : Arv Z h38 b34 k34 .byte (4 : Int32) [(.int b0_), (.int b1_), (.int b2_), (.int b3_)] (.int (0 : Int32)) := Arv.set Ar38 qq38 S38 M38 H38 G38 (by have := fits_nar_byte b3_; rw [show (b3_).toInt8.toInt32 = b3_ from nb3] at this; exact this) W38 3 (by decide) (by simp)
    have Z38 := Nat.le_trans Z37 (Keep.of_wr W38).1
    refine own_step (fun _ k => st38 _ k) ?_
    show own_Ends _ _ _ _ _ _ _ (T38.setTop (mkF m 86 #[.val (.int p0), .val (.int p1), .val (.int p2), .val (.int p3), .val (.int p4), .val (.int (4 : Int32)), .val (.int b0_), .val (.int b1_), .val (.int b2_), .val (.int b3_), .val (.ref b34), .unset] []))
    refine own_step (fun _ k => XS.iload X38.here hx rfl (hb hby at_86) rfl k) ?_
    show own_Ends _ _ _ _ _ _ _ (T38.setTop (mkF m 88 #[.val (.int p0), .val (.int p1), .val (.int p2), .val (.int p3), .val (.int p4), .val (.int (4 : Int32)), .val (.int b0_), .val (.int b1_), .val (.int b2_), .val (.int b3_), .val (.ref b34), .unset] [(.int (4 : Int32))]))
    refine own_step (fun _ k => XS.iconst X38.here hx rfl (hb hby at_88) k) ?_
    show own_Ends _ _ _ _ _ _ _ (T38.setTop (mkF m 89 #[.val (.int p0), .val (.int p1), .val (.int p2), .val (.int p3), .val (.int p4), .val (.int (4 : Int32)), .val (.int b0_), .val (.int b1_), .val (.int b2_), .val (.int b3_), .val (.ref b34), .unset] [(.int (1 : Int32)), (.int (4 : Int32))]))
    have J147_39 : ∀ (lJ39 : List Loc) (NJ39 : Fr n0 lJ39) (TJ39 : State) (XJ39 : Stand p l e room_1 s m #[(.int p0), (.int p1), (.int p2), (.int p3), (.int p4)] below meth c TJ39 lJ39 1 4) (eJ39 : TJ39.heap = h38) (ex : Int32) (hex : ex = own_blank [b0_, b1_, b2_, b3_]), own_Ends p e below s 1 4 (own_Q0 Z p0 p1 p2 p3 p4  h0 n0) (TJ39.setTop (mkF m 147 #[.val (.int p0), .val (.int p1), .val (.int p2), .val (.int p3), .val (.int p4), .val (.int (4 : Int32)), .val (.int b0_), .val (.int b1_), .val (.int b2_), .val (.int b3_), .val (.ref b34), .unset] [(.int ex)])) := by
      intro lJ39 NJ39 TJ39 XJ39 eJ39 ex hex
      show own_Ends _ _ _ _ _ _ _ (TJ39.setTop (mkF m 147 #[.val (.int p0), .val (.int p1), .val (.int p2), .val (.int p3), .val (.int p4), .val (.int (4 : Int32)), .val (.int b0_), .val (.int b1_), .val (.int b2_), .val (.int b3_), .val (.ref b34), .unset] [(.int ex)]))
      refine own_step (fun _ k => XS.istore XJ39.here hx rfl (hb hby at_147) rfl (l' := #[.val (.int p0), .val (.int p1), .val (.int p2), .val (.int p3), .val (.int p4), .val (.int (4 : Int32)), .val (.int b0_), .val (.int b1_), .val (.int b2_), .val (.int b3_), .val (.ref b34), .val (.int ex)]) rfl k) ?_
      show own_Ends _ _ _ _ _ _ _ (TJ39.setTop (mkF m 149 #[.val (.int p0), .val (.int p1), .val (.int p2), .val (.int p3), .val (.int p4), .val (.int (4 : Int32)), .val (.int b0_), .val (.int b1_), .val (.int b2_), .val (.int b3_), .val (.ref b34), .val (.int ex)] []))
      refine own_step (fun _ k => XS.aload XJ39.here hx rfl (hb hby at_149) rfl rfl k) ?_
      show own_Ends _ _ _ _ _ _ _ (TJ39.setTop (mkF m 151 #[.val (.int p0), .val (.int p1), .val (.int p2), .val (.int p3), .val (.int p4), .val (.int (4 : Int32)), .val (.int b0_), .val (.int b1_), .val (.int b2_), .val (.int b3_), .val (.ref b34), .val (.int ex)] [(.ref b34)]))
      obtain ⟨cl44, Ar44, qq44, S44, M44, H44, G44⟩ := V38_b34
      obtain ⟨_, _, ⟨T45, L45, k45, n45⟩, -, X45, ⟨Lc45, hQ45, l45, y45, z45⟩, st45⟩ := Jvm.LawKit.callS XJ39 hx (y := (⟨"com/example/rulewright/rulewright/cli/EventLines", "isBlank", "([B)Z"⟩ : MethodName)) hown (mvT hZ (hw _ (List.mem_of_getElem? (i := 6) rfl))) (mvT hZ (hw _ (List.mem_of_getElem? (i := 7) rfl))) (mvT hZ (hw _ (List.mem_of_getElem? (i := 8) rfl))) (mvT hZ (hw _ (List.mem_of_getElem? (i := 9) rfl))) (by decide) (backOf (W := 0) (own_rm3 l Z a0 hw [] b34 cl44 [b0_, b1_, b2_, b3_] h38 n0 Z38 Ar44 (S44.trans (show ((4 : Int32)).toNatClampNeg = 4 by decide)) (by simp) (own_hat (bs := [b0_, b1_, b2_, b3_]) H44 (S44.trans (show ((4 : Int32)).toNatClampNeg = 4 by decide)))) hZ (hw _ (List.mem_of_getElem? (i := 9) rfl)) (hw _ (List.mem_of_getElem? (i := 8) rfl)) (by decide) (by decide)) (g := (mkF m 151 #[.val (.int p0), .val (.int p1), .val (.int p2), .val (.int p3), .val (.int p4), .val (.int (4 : Int32)), .val (.int b0_), .val (.int b1_), .val (.int b2_), .val (.int b3_), .val (.ref b34), .val (.int ex)] [(.ref b34)])) rfl (by rw [hml]; rfl) (argsL := [(.ref b34)]) (rest := []) (lenOf own_pd1 rfl) rfl (by show 2 * 0 + _ ≤ _; exact Nat.le_of_eq rfl) (hb hby at_151) (fun _ _ => ⟨rfl, eJ39, (by decide : 1 + 0 ≤ _), (by decide : 4 + 0 ≤ _)⟩)
      dsimp only [Pt.U, Pt.locs, Pt.cells, Pt.slots] at X45 l45 y45 z45 st45 hQ45
      subst l45 y45 z45
      obtain ⟨rfl, Nq45, e45⟩ := hQ45
      have N45 := Fr.app NJ39 Nq45
      refine own_step (fun _ k => st45 _ k) ?_
      show own_Ends _ _ _ _ _ _ _ (T45.setTop (mkF m 154 #[.val (.int p0), .val (.int p1), .val (.int p2), .val (.int p3), .val (.int p4), .val (.int (4 : Int32)), .val (.int b0_), .val (.int b1_), .val (.int b2_), .val (.int b3_), .val (.ref b34), .val (.int ex)] [(.int (own_blank [b0_, b1_, b2_, b3_]))]))
      refine own_step (fun _ k => XS.iload X45.here hx rfl (hb hby at_154) rfl k) ?_
      show own_Ends _ _ _ _ _ _ _ (T45.setTop (mkF m 156 #[.val (.int p0), .val (.int p1), .val (.int p2), .val (.int p3), .val (.int p4), .val (.int (4 : Int32)), .val (.int b0_), .val (.int b1_), .val (.int b2_), .val (.int b3_), .val (.ref b34), .val (.int ex)] [(.int ex), (.int (own_blank [b0_, b1_, b2_, b3_]))]))
      refine own_step (fun _ k => XS.icmpNo X45.here hx rfl (hb hby at_156) rfl (teq hex.symm).2 k) ?_
      show own_Ends _ _ _ _ _ _ _ (T45.setTop (mkF m 159 #[.val (.int p0), .val (.int p1), .val (.int p2), .val (.int p3), .val (.int p4), .val (.int (4 : Int32)), .val (.int b0_), .val (.int b1_), .val (.int b2_), .val (.int b3_), .val (.ref b34), .val (.int ex)] []))
      refine own_step (fun _ k => XS.iconst X45.here hx rfl (hb hby at_159) k) ?_
      show own_Ends _ _ _ _ _ _ _ (T45.setTop (mkF m 160 #[.val (.int p0), .val (.int p1), .val (.int p2), .val (.int p3), .val (.int p4), .val (.int (4 : Int32)), .val (.int b0_), .val (.int b1_), .val (.int b2_), .val (.int b3_), .val (.ref b34), .val (.int ex)] [(.int (1 : Int32))]))
      refine own_step (fun _ k => XS.goto X45.here hx rfl (pc0 := 160) (pc' := 164) rfl (hb hby at_160) (by decide) (by decide) k) ?_
      show own_Ends _ _ _ _ _ _ _ (T45.setTop (mkF m 164 #[.val (.int p0), .val (.int p1), .val (.int p2), .val (.int p3), .val (.int p4), .val (.int (4 : Int32)), .val (.int b0_), .val (.int b1_), .val (.int b2_), .val (.int b3_), .val (.ref b34), .val (.int ex)] [(.int (1 : Int32))]))
      refine own_ret X45 (BodyLoose.notSynchronized Bd) (v := (some (.int (1 : Int32)))) (fun h => by rw [Bd.returns] at h; cases h) ?_ (by decide) (by decide) (fun fs hr => X45.ireturnOut hx Bd.returns rfl (by simp) (hb hby at_164) hr)
      show own_Q0 Z p0 p1 p2 p3 p4  h0 n0 (some (.int (1 : Int32))) T45.heap _
      rw [e45]
      exact ⟨rfl, N45⟩
    refine own_step (fun _ k => XS.icmpNo X38.here hx rfl (hb hby at_89) rfl (flt (by decide)).1 k) ?_
    show own_Ends _ _ _ _ _ _ _ (T38.setTop (mkF m 92 #[.val (.int p0), .val (.int p1), .val (.int p2), .val (.int p3), .val (.int p4), .val (.int (4 : Int32)), .val (.int b0_), .val (.int b1_), .val (.int b2_), .val (.int b3_), .val (.ref b34), .unset] []))
    refine own_step (fun _ k => XS.iload X38.here hx rfl (hb hby at_92) rfl k) ?_
    show own_Ends _ _ _ _ _ _ _ (T38.setTop (mkF m 94 #[.val (.int p0), .val (.int p1), .val (.int p2), .val (.int p3), .val (.int p4), .val (.int (4 : Int32)), .val (.int b0_), .val (.int b1_), .val (.int b2_), .val (.int b3_), .val (.ref b34), .unset] [(.int b0_)]))
    obtain ⟨_, _, ⟨T40, L40, k40, n40⟩, -, X40, ⟨Lc40, hQ40, l40, y40, z40⟩, st40⟩ := Jvm.LawKit.callS X38 hx (y := (⟨"com/example/rulewright/rulewright/cli/EventLinesIsBlankPinLaw", "ok", "(B)Z"⟩ : MethodName)) hown (mvT hZ (hw _ (List.mem_of_getElem? (i := 10) rfl))) (mvT hZ (hw _ (List.mem_of_getElem? (i := 11) rfl))) (mvT hZ (hw _ (List.mem_of_getElem? (i := 3) rfl))) (mvT hZ (hw _ (List.mem_of_getElem? (i := 12) rfl))) (by decide) (backOf (W := 0) (own_rm2 l Z a0 hw [] b0_  h38 n0 Z38 ) hZ (hw _ (List.mem_of_getElem? (i := 12) rfl)) (hw _ (List.mem_of_getElem? (i := 3) rfl)) (by decide) (by decide)) (g := (mkF m 94 #[.val (.int p0), .val (.int p1), .val (.int p2), .val (.int p3), .val (.int p4), .val (.int (4 : Int32)), .val (.int b0_), .val (.int b1_), .val (.int b2_), .val (.int b3_), .val (.ref b34), .unset] [(.int b0_)])) rfl (by rw [hml]; rfl) (argsL := [(.int b0_)]) (rest := []) (lenOf own_pd2 rfl) rfl (by show 2 * 0 + _ ≤ _; exact Nat.le_of_eq rfl) (hb hby at_94) (fun _ _ => ⟨rfl, e38, (by decide : 1 + 0 ≤ _), (by decide : 4 + 0 ≤ _)⟩)
    dsimp only [Pt.U, Pt.locs, Pt.cells, Pt.slots] at X40 l40 y40 z40 st40 hQ40
    subst l40 y40 z40
    obtain ⟨rfl, Nq40, e40⟩ := hQ40
    have N40 := Fr.app N38 Nq40
    refine own_step (fun _ k => st40 _ k) ?_
    show own_Ends _ _ _ _ _ _ _ (T40.setTop (mkF m 97 #[.val (.int p0), .val (.int p1), .val (.int p2), .val (.int p3), .val (.int p4), .val (.int (4 : Int32)), .val (.int b0_), .val (.int b1_), .val (.int b2_), .val (.int b3_), .val (.ref b34), .unset] [(.int (own_ok b0_))]))
    by_cases o0 : (own_ok b0_) = (0 : Int32)
    · refine own_step (fun _ k => XS.ifYes X40.here hx rfl (pc0 := 97) (pc' := 146) rfl (hb hby at_97) rfl ((if0 _ _).trans (teq o0).1) (by decide) (by decide) k) ?_
      show own_Ends _ _ _ _ _ _ _ (T40.setTop (mkF m 146 #[.val (.int p0), .val (.int p1), .val (.int p2), .val (.int p3), .val (.int p4), .val (.int (4 : Int32)), .val (.int b0_), .val (.int b1_), .val (.int b2_), .val (.int b3_), .val (.ref b34), .unset] []))
      refine own_step (fun _ k => XS.iconst X40.here hx rfl (hb hby at_146) k) ?_
      show own_Ends _ _ _ _ _ _ _ (T40.setTop (mkF m 147 #[.val (.int p0), .val (.int p1), .val (.int p2), .val (.int p3), .val (.int p4), .val (.int (4 : Int32)), .val (.int b0_), .val (.int b1_), .val (.int b2_), .val (.int b3_), .val (.ref b34), .unset] [(.int (0 : Int32))]))
      exact J147_39 _ N40 _ X40 e40 _ (by simp [own_blank, o0])
    · refine own_step (fun _ k => XS.ifNo X40.here hx rfl (hb hby at_97) rfl ((if0 _ _).trans (feq o0).1) k) ?_
      show own_Ends _ _ _ _ _ _ _ (T40.setTop (mkF m 100 #[.val (.int p0), .val (.int p1), .val (.int p2), .val (.int p3), .val (.int p4), .val (.int (4 : Int32)), .val (.int b0_), .val (.int b1_), .val (.int b2_), .val (.int b3_), .val (.ref b34), .unset] []))
      refine own_step (fun _ k => XS.iload X40.here hx rfl (hb hby at_100) rfl k) ?_
      show own_Ends _ _ _ _ _ _ _ (T40.setTop (mkF m 102 #[.val (.int p0), .val (.int p1), .val (.int p2), .val (.int p3), .val (.int p4), .val (.int (4 : Int32)), .val (.int b0_), .val (.int b1_), .val (.int b2_), .val (.int b3_), .val (.ref b34), .unset] [(.int (4 : Int32))]))
      refine own_step (fun _ k => XS.iconst X40.here hx rfl (hb hby at_102) k) ?_
      show own_Ends _ _ _ _ _ _ _ (T40.setTop (mkF m 103 #[.val (.int p0), .val (.int p1), .val (.int p2), .val (.int p3), .val (.int p4), .val (.int (4 : Int32)), .val (.int b0_), .val (.int b1_), .val (.int b2_), .val (.int b3_), .val (.ref b34), .unset] [(.int (2 : Int32)), (.int (4 : Int32))]))
      refine own_step (fun _ k => XS.icmpNo X40.here hx rfl (hb hby at_103) rfl (flt (by decide)).1 k) ?_
      show own_Ends _ _ _ _ _ _ _ (T40.setTop (mkF m 106 #[.val (.int p0), .val (.int p1), .val (.int p2), .val (.int p3), .val (.int p4), .val (.int (4 : Int32)), .val (.int b0_), .val (.int b1_), .val (.int b2_), .val (.int b3_), .val (.ref b34), .unset] []))
      refine own_step (fun _ k => XS.iload X40.here hx rfl (hb hby at_106) rfl k) ?_
      show own_Ends _ _ _ _ _ _ _ (T40.setTop (mkF m 108 #[.val (.int p0), .val (.int p1), .val (.int p2), .val (.int p3), .val (.int p4), .val (.int (4 : Int32)), .val (.int b0_), .val (.int b1_), .val (.int b2_), .val (.int b3_), .val (.ref b34), .unset] [(.int b1_)]))
      obtain ⟨_, _, ⟨T41, L41, k41, n41⟩, -, X41, ⟨Lc41, hQ41, l41, y41, z41⟩, st41⟩ := Jvm.LawKit.callS X40 hx (y := (⟨"com/example/rulewright/rulewright/cli/EventLinesIsBlankPinLaw", "ok", "(B)Z"⟩ : MethodName)) hown (mvT hZ (hw _ (List.mem_of_getElem? (i := 10) rfl))) (mvT hZ (hw _ (List.mem_of_getElem? (i := 11) rfl))) (mvT hZ (hw _ (List.mem_of_getElem? (i := 3) rfl))) (mvT hZ (hw _ (List.mem_of_getElem? (i := 12) rfl))) (by decide) (backOf (W := 0) (own_rm2 l Z a0 hw [] b1_  h38 n0 Z38 ) hZ (hw _ (List.mem_of_getElem? (i := 12) rfl)) (hw _ (List.mem_of_getElem? (i := 3) rfl)) (by decide) (by decide)) (g := (mkF m 108 #[.val (.int p0), .val (.int p1), .val (.int p2), .val (.int p3), .val (.int p4), .val (.int (4 : Int32)), .val (.int b0_), .val (.int b1_), .val (.int b2_), .val (.int b3_), .val (.ref b34), .unset] [(.int b1_)])) rfl (by rw [hml]; rfl) (argsL := [(.int b1_)]) (rest := []) (lenOf own_pd2 rfl) rfl (by show 2 * 0 + _ ≤ _; exact Nat.le_of_eq rfl) (hb hby at_108) (fun _ _ => ⟨rfl, e40, (by decide : 1 + 0 ≤ _), (by decide : 4 + 0 ≤ _)⟩)
      dsimp only [Pt.U, Pt.locs, Pt.cells, Pt.slots] at X41 l41 y41 z41 st41 hQ41
      subst l41 y41 z41
      obtain ⟨rfl, Nq41, e41⟩ := hQ41
      have N41 := Fr.app N40 Nq41
      refine own_step (fun _ k => st41 _ k) ?_
      show own_Ends _ _ _ _ _ _ _ (T41.setTop (mkF m 111 #[.val (.int p0), .val (.int p1), .val (.int p2), .val (.int p3), .val (.int p4), .val (.int (4 : Int32)), .val (.int b0_), .val (.int b1_), .val (.int b2_), .val (.int b3_), .val (.ref b34), .unset] [(.int (own_ok b1_))]))
      by_cases o1 : (own_ok b1_) = (0 : Int32)
      · refine own_step (fun _ k => XS.ifYes X41.here hx rfl (pc0 := 111) (pc' := 146) rfl (hb hby at_111) rfl ((if0 _ _).trans (teq o1).1) (by decide) (by decide) k) ?_
        show own_Ends _ _ _ _ _ _ _ (T41.setTop (mkF m 146 #[.val (.int p0), .val (.int p1), .val (.int p2), .val (.int p3), .val (.int p4), .val (.int (4 : Int32)), .val (.int b0_), .val (.int b1_), .val (.int b2_), .val (.int b3_), .val (.ref b34), .unset] []))
        refine own_step (fun _ k => XS.iconst X41.here hx rfl (hb hby at_146) k) ?_
        show own_Ends _ _ _ _ _ _ _ (T41.setTop (mkF m 147 #[.val (.int p0), .val (.int p1), .val (.int p2), .val (.int p3), .val (.int p4), .val (.int (4 : Int32)), .val (.int b0_), .val (.int b1_), .val (.int b2_), .val (.int b3_), .val (.ref b34), .unset] [(.int (0 : Int32))]))
        exact J147_39 _ N41 _ X41 e41 _ (by simp [own_blank, o0, o1])
      · refine own_step (fun _ k => XS.ifNo X41.here hx rfl (hb hby at_111) rfl ((if0 _ _).trans (feq o1).1) k) ?_
        show own_Ends _ _ _ _ _ _ _ (T41.setTop (mkF m 114 #[.val (.int p0), .val (.int p1), .val (.int p2), .val (.int p3), .val (.int p4), .val (.int (4 : Int32)), .val (.int b0_), .val (.int b1_), .val (.int b2_), .val (.int b3_), .val (.ref b34), .unset] []))
        refine own_step (fun _ k => XS.iload X41.here hx rfl (hb hby at_114) rfl k) ?_
        show own_Ends _ _ _ _ _ _ _ (T41.setTop (mkF m 116 #[.val (.int p0), .val (.int p1), .val (.int p2), .val (.int p3), .val (.int p4), .val (.int (4 : Int32)), .val (.int b0_), .val (.int b1_), .val (.int b2_), .val (.int b3_), .val (.ref b34), .unset] [(.int (4 : Int32))]))
        refine own_step (fun _ k => XS.iconst X41.here hx rfl (hb hby at_116) k) ?_
        show own_Ends _ _ _ _ _ _ _ (T41.setTop (mkF m 117 #[.val (.int p0), .val (.int p1), .val (.int p2), .val (.int p3), .val (.int p4), .val (.int (4 : Int32)), .val (.int b0_), .val (.int b1_), .val (.int b2_), .val (.int b3_), .val (.ref b34), .unset] [(.int (3 : Int32)), (.int (4 : Int32))]))
        refine own_step (fun _ k => XS.icmpNo X41.here hx rfl (hb hby at_117) rfl (flt (by decide)).1 k) ?_
        show own_Ends _ _ _ _ _ _ _ (T41.setTop (mkF m 120 #[.val (.int p0), .val (.int p1), .val (.int p2), .val (.int p3), .val (.int p4), .val (.int (4 : Int32)), .val (.int b0_), .val (.int b1_), .val (.int b2_), .val (.int b3_), .val (.ref b34), .unset] []))
        refine own_step (fun _ k => XS.iload X41.here hx rfl (hb hby at_120) rfl k) ?_
        show own_Ends _ _ _ _ _ _ _ (T41.setTop (mkF m 122 #[.val (.int p0), .val (.int p1), .val (.int p2), .val (.int p3), .val (.int p4), .val (.int (4 : Int32)), .val (.int b0_), .val (.int b1_), .val (.int b2_), .val (.int b3_), .val (.ref b34), .unset] [(.int b2_)]))
        obtain ⟨_, _, ⟨T42, L42, k42, n42⟩, -, X42, ⟨Lc42, hQ42, l42, y42, z42⟩, st42⟩ := Jvm.LawKit.callS X41 hx (y := (⟨"com/example/rulewright/rulewright/cli/EventLinesIsBlankPinLaw", "ok", "(B)Z"⟩ : MethodName)) hown (mvT hZ (hw _ (List.mem_of_getElem? (i := 10) rfl))) (mvT hZ (hw _ (List.mem_of_getElem? (i := 11) rfl))) (mvT hZ (hw _ (List.mem_of_getElem? (i := 3) rfl))) (mvT hZ (hw _ (List.mem_of_getElem? (i := 12) rfl))) (by decide) (backOf (W := 0) (own_rm2 l Z a0 hw [] b2_  h38 n0 Z38 ) hZ (hw _ (List.mem_of_getElem? (i := 12) rfl)) (hw _ (List.mem_of_getElem? (i := 3) rfl)) (by decide) (by decide)) (g := (mkF m 122 #[.val (.int p0), .val (.int p1), .val (.int p2), .val (.int p3), .val (.int p4), .val (.int (4 : Int32)), .val (.int b0_), .val (.int b1_), .val (.int b2_), .val (.int b3_), .val (.ref b34), .unset] [(.int b2_)])) rfl (by rw [hml]; rfl) (argsL := [(.int b2_)]) (rest := []) (lenOf own_pd2 rfl) rfl (by show 2 * 0 + _ ≤ _; exact Nat.le_of_eq rfl) (hb hby at_122) (fun _ _ => ⟨rfl, e41, (by decide : 1 + 0 ≤ _), (by decide : 4 + 0 ≤ _)⟩)
        dsimp only [Pt.U, Pt.locs, Pt.cells, Pt.slots] at X42 l42 y42 z42 st42 hQ42
        subst l42 y42 z42
        obtain ⟨rfl, Nq42, e42⟩ := hQ42
        have N42 := Fr.app N41 Nq42
        refine own_step (fun _ k => st42 _ k) ?_
        show own_Ends _ _ _ _ _ _ _ (T42.setTop (mkF m 125 #[.val (.int p0), .val (.int p1), .val (.int p2), .val (.int p3), .val (.int p4), .val (.int (4 : Int32)), .val (.int b0_), .val (.int b1_), .val (.int b2_), .val (.int b3_), .val (.ref b34), .unset] [(.int (own_ok b2_))]))
        by_cases o2 : (own_ok b2_) = (0 : Int32)
        · refine own_step (fun _ k => XS.ifYes X42.here hx rfl (pc0 := 125) (pc' := 146) rfl (hb hby at_125) rfl ((if0 _ _).trans (teq o2).1) (by decide) (by decide) k) ?_
          show own_Ends _ _ _ _ _ _ _ (T42.setTop (mkF m 146 #[.val (.int p0), .val (.int p1), .val (.int p2), .val (.int p3), .val (.int p4), .val (.int (4 : Int32)), .val (.int b0_), .val (.int b1_), .val (.int b2_), .val (.int b3_), .val (.ref b34), .unset] []))
          refine own_step (fun _ k => XS.iconst X42.here hx rfl (hb hby at_146) k) ?_
          show own_Ends _ _ _ _ _ _ _ (T42.setTop (mkF m 147 #[.val (.int p0), .val (.int p1), .val (.int p2), .val (.int p3), .val (.int p4), .val (.int (4 : Int32)), .val (.int b0_), .val (.int b1_), .val (.int b2_), .val (.int b3_), .val (.ref b34), .unset] [(.int (0 : Int32))]))
          exact J147_39 _ N42 _ X42 e42 _ (by simp [own_blank, o0, o1, o2])
        · refine own_step (fun _ k => XS.ifNo X42.here hx rfl (hb hby at_125) rfl ((if0 _ _).trans (feq o2).1) k) ?_
          show own_Ends _ _ _ _ _ _ _ (T42.setTop (mkF m 128 #[.val (.int p0), .val (.int p1), .val (.int p2), .val (.int p3), .val (.int p4), .val (.int (4 : Int32)), .val (.int b0_), .val (.int b1_), .val (.int b2_), .val (.int b3_), .val (.ref b34), .unset] []))
          refine own_step (fun _ k => XS.iload X42.here hx rfl (hb hby at_128) rfl k) ?_
          show own_Ends _ _ _ _ _ _ _ (T42.setTop (mkF m 130 #[.val (.int p0), .val (.int p1), .val (.int p2), .val (.int p3), .val (.int p4), .val (.int (4 : Int32)), .val (.int b0_), .val (.int b1_), .val (.int b2_), .val (.int b3_), .val (.ref b34), .unset] [(.int (4 : Int32))]))
          refine own_step (fun _ k => XS.iconst X42.here hx rfl (hb hby at_130) k) ?_
          show own_Ends _ _ _ _ _ _ _ (T42.setTop (mkF m 131 #[.val (.int p0), .val (.int p1), .val (.int p2), .val (.int p3), .val (.int p4), .val (.int (4 : Int32)), .val (.int b0_), .val (.int b1_), .val (.int b2_), .val (.int b3_), .val (.ref b34), .unset] [(.int (4 : Int32)), (.int (4 : Int32))]))
          refine own_step (fun _ k => XS.icmpNo X42.here hx rfl (hb hby at_131) rfl (flt (by decide)).1 k) ?_
          show own_Ends _ _ _ _ _ _ _ (T42.setTop (mkF m 134 #[.val (.int p0), .val (.int p1), .val (.int p2), .val (.int p3), .val (.int p4), .val (.int (4 : Int32)), .val (.int b0_), .val (.int b1_), .val (.int b2_), .val (.int b3_), .val (.ref b34), .unset] []))
          refine own_step (fun _ k => XS.iload X42.here hx rfl (hb hby at_134) rfl k) ?_
          show own_Ends _ _ _ _ _ _ _ (T42.setTop (mkF m 136 #[.val (.int p0), .val (.int p1), .val (.int p2), .val (.int p3), .val (.int p4), .val (.int (4 : Int32)), .val (.int b0_), .val (.int b1_), .val (.int b2_), .val (.int b3_), .val (.ref b34), .unset] [(.int b3_)]))
          obtain ⟨_, _, ⟨T43, L43, k43, n43⟩, -, X43, ⟨Lc43, hQ43, l43, y43, z43⟩, st43⟩ := Jvm.LawKit.callS X42 hx (y := (⟨"com/example/rulewright/rulewright/cli/EventLinesIsBlankPinLaw", "ok", "(B)Z"⟩ : MethodName)) hown (mvT hZ (hw _ (List.mem_of_getElem? (i := 10) rfl))) (mvT hZ (hw _ (List.mem_of_getElem? (i := 11) rfl))) (mvT hZ (hw _ (List.mem_of_getElem? (i := 3) rfl))) (mvT hZ (hw _ (List.mem_of_getElem? (i := 12) rfl))) (by decide) (backOf (W := 0) (own_rm2 l Z a0 hw [] b3_  h38 n0 Z38 ) hZ (hw _ (List.mem_of_getElem? (i := 12) rfl)) (hw _ (List.mem_of_getElem? (i := 3) rfl)) (by decide) (by decide)) (g := (mkF m 136 #[.val (.int p0), .val (.int p1), .val (.int p2), .val (.int p3), .val (.int p4), .val (.int (4 : Int32)), .val (.int b0_), .val (.int b1_), .val (.int b2_), .val (.int b3_), .val (.ref b34), .unset] [(.int b3_)])) rfl (by rw [hml]; rfl) (argsL := [(.int b3_)]) (rest := []) (lenOf own_pd2 rfl) rfl (by show 2 * 0 + _ ≤ _; exact Nat.le_of_eq rfl) (hb hby at_136) (fun _ _ => ⟨rfl, e42, (by decide : 1 + 0 ≤ _), (by decide : 4 + 0 ≤ _)⟩)
          dsimp only [Pt.U, Pt.locs, Pt.cells, Pt.slots] at X43 l43 y43 z43 st43 hQ43
          subst l43 y43 z43
          obtain ⟨rfl, Nq43, e43⟩ := hQ43
          have N43 := Fr.app N42 Nq43
          refine own_step (fun _ k => st43 _ k) ?_
          show own_Ends _ _ _ _ _ _ _ (T43.setTop (mkF m 139 #[.val (.int p0), .val (.int p1), .val (.int p2), .val (.int p3), .val (.int p4), .val (.int (4 : Int32)), .val (.int b0_), .val (.int b1_), .val (.int b2_), .val (.int b3_), .val (.ref b34), .unset] [(.int (own_ok b3_))]))
          by_cases o3 : (own_ok b3_) = (0 : Int32)
          · refine own_step (fun _ k => XS.ifYes X43.here hx rfl (pc0 := 139) (pc' := 146) rfl (hb hby at_139) rfl ((if0 _ _).trans (teq o3).1) (by decide) (by decide) k) ?_
            show own_Ends _ _ _ _ _ _ _ (T43.setTop (mkF m 146 #[.val (.int p0), .val (.int p1), .val (.int p2), .val (.int p3), .val (.int p4), .val (.int (4 : Int32)), .val (.int b0_), .val (.int b1_), .val (.int b2_), .val (.int b3_), .val (.ref b34), .unset] []))
            refine own_step (fun _ k => XS.iconst X43.here hx rfl (hb hby at_146) k) ?_
            show own_Ends _ _ _ _ _ _ _ (T43.setTop (mkF m 147 #[.val (.int p0), .val (.int p1), .val (.int p2), .val (.int p3), .val (.int p4), .val (.int (4 : Int32)), .val (.int b0_), .val (.int b1_), .val (.int b2_), .val (.int b3_), .val (.ref b34), .unset] [(.int (0 : Int32))]))
            exact J147_39 _ N43 _ X43 e43 _ (by simp [own_blank, o0, o1, o2, o3])
          · refine own_step (fun _ k => XS.ifNo X43.here hx rfl (hb hby at_139) rfl ((if0 _ _).trans (feq o3).1) k) ?_
            show own_Ends _ _ _ _ _ _ _ (T43.setTop (mkF m 142 #[.val (.int p0), .val (.int p1), .val (.int p2), .val (.int p3), .val (.int p4), .val (.int (4 : Int32)), .val (.int b0_), .val (.int b1_), .val (.int b2_), .val (.int b3_), .val (.ref b34), .unset] []))
            refine own_step (fun _ k => XS.iconst X43.here hx rfl (hb hby at_142) k) ?_
            show own_Ends _ _ _ _ _ _ _ (T43.setTop (mkF m 143 #[.val (.int p0), .val (.int p1), .val (.int p2), .val (.int p3), .val (.int p4), .val (.int (4 : Int32)), .val (.int b0_), .val (.int b1_), .val (.int b2_), .val (.int b3_), .val (.ref b34), .unset] [(.int (1 : Int32))]))
            refine own_step (fun _ k => XS.goto X43.here hx rfl (pc0 := 143) (pc' := 147) rfl (hb hby at_143) (by decide) (by decide) k) ?_
            show own_Ends _ _ _ _ _ _ _ (T43.setTop (mkF m 147 #[.val (.int p0), .val (.int p1), .val (.int p2), .val (.int p3), .val (.int p4), .val (.int (4 : Int32)), .val (.int b0_), .val (.int b1_), .val (.int b2_), .val (.int b3_), .val (.ref b34), .unset] [(.int (1 : Int32))]))
            exact J147_39 _ N43 _ X43 e43 _ (by simp [own_blank, o0, o1, o2, o3])
set_option maxRecDepth 65536 in
set_option maxHeartbeats 40000000 in
theorem comes_1 {Post : Tables → Env → Array Value → State → Outcome → State → Prop} (hpost : ∀ tb e args s v u, (limb_1_1.after args s (.returned v) u = true ∧ limb_1_2.after args s (.returned v) u = true ∧ True) → FrameEnd s (.returned v) u (Jvm.fieldLocs frame_1_writes args s ++ Jvm.arrayLocs frame_1_arrays args s ++ Jvm.staticLocs frame_1_statics s) 16 128 → Post tb e args s (.returned v) u) :
    ArmFor flags0 classFile x code maxLocals ret World_1 tables_1 room_1 Calls_1 rest_1 Pre_1 Post := by
  intro l hfl _ _ p e ha hc hk s m args below hf hA hF happ hP
  obtain ⟨hcalls, hrest, hpre⟩ := hP
  obtain ⟨-, -, -, hnamed, -, -, -, hat⟩ := (Spec.applies_iff hf).mp happ
  obtain ⟨hg, hn⟩ := and_e (Cond.before_iff.mp (show (Jvm.Cond.and given_1 narrow_1).before args s = true from hpre))
  obtain ⟨g0, hg⟩ := and_e hg
  obtain ⟨ga0, hg⟩ := and_e hg
  obtain ⟨ga1, hg⟩ := and_e hg
  obtain ⟨ga2, hg⟩ := and_e hg
  obtain ⟨ga3, hg⟩ := and_e hg
  obtain ⟨w0, w1, w2, w3, w4, rfl⟩ : ∃ w0 w1 w2 w3 w4 : Value, args = #[w0, w1, w2, w3, w4] := by
    have hs : args.size = 5 := by simpa [Cond.value, given_1] using g0
    obtain ⟨L⟩ := args
    match L, hs with
    | [w0, w1, w2, w3, w4], _ => exact ⟨w0, w1, w2, w3, w4, rfl⟩
  have hw := fun d (hd : d ∈ tables_1) => atoms_spec (ws := Jvm.Cond.code x code maxLocals ret :: tables_1) hat d (List.mem_cons_of_mem _ hd)
  obtain ⟨i0, ei0⟩ := is_v ga0
  obtain rfl : w0 = (.int i0) := Option.some.inj ei0
  obtain ⟨i1, ei1⟩ := is_v ga1
  obtain rfl : w1 = (.int i1) := Option.some.inj ei1
  obtain ⟨i2, ei2⟩ := is_v ga2
  obtain rfl : w2 = (.int i2) := Option.some.inj ei2
  obtain ⟨i3, ei3⟩ := is_v ga3
  obtain rfl : w3 = (.int i3) := Option.some.inj ei3
  obtain ⟨i4, ei4⟩ := is_v hg
  obtain rfl : w4 = (.int i4) := Option.some.inj ei4
  obtain ⟨n, o, h1, h2, h3, _, L, rfl, ⟨rfl, N⟩, hq⟩ := own_rm0 l s _ hw tables_1 i0 i1 i2 i3 i4 s.heap s.heap.size (Nat.le_refl _)  p e ha hc hk s m _ below hf ((Spec.applies_iff_loose hf).mp happ).1 ⟨rfl, State.Warmed39.refl s, rfl⟩ trivial
  refine ⟨n, _, h1, h2, h3, hpost _ _ _ _ _ _ ⟨Cond.after_iff.mpr rfl, Cond.after_iff.mpr (eq_i res_at (Term.int_eval (1)) rfl), trivial⟩ ⟨hq.1, hq.2.1, (hq.2.2.sift fun y hy => Or.inr (N y hy)).mono (by decide) (by decide)⟩⟩
theorem main_1_1 : Claimed_1_1 := comes_1 fun _ _ _ _ _ _ h hF => ⟨h.1, hF⟩
theorem main_1_2 : Claimed_1_2 := comes_1 fun _ _ _ _ _ _ h hF => ⟨h.2.1, hF⟩
end Jvm.Pilot.@@N@@
namespace Jvm.Pilot.@@N@@
open Jvm Jvm.ClassFile Sem Op Lib Jvm.Free Jvm.Stand Jvm.Pilot.@@N@@.Jvm.D
/-! MADE BY PROGRAM (witnessworld.py) out of the Statement's table words and the real class files: 9 classes; the members and pool entries that the words name. The judged class is class 1, her method 3. -/
namespace start1
open Jvm.ClassFile
def u (s : String) : CpInfo := .utf8 (stringToUtf16 s)
/-- a pool by its gaps: so many unusable entries, then the entry; so many at the end -/
def gap : Nat → List CpInfo → List CpInfo
  | 0, r => r
  | n + 1, r => .unusable :: gap n r
def poolList (es : List (Nat × CpInfo)) (last : Nat) : List CpInfo := es.foldr (fun e r => gap e.1 (e.2 :: r)) (gap last [])
def pool (es : List (Nat × CpInfo)) (last : Nat) : Array CpInfo := ⟨poolList es last⟩
def fileOf (pool : Array CpInfo) (this : Nat) (attrs : Array Attribute := #[]) (ms : Array MethodInfo := #[]) (fl : Nat := 33) (sup : Nat := 0) (ifs : Array Nat := #[]) (fds : Array FieldInfo := #[]) : ClassFile where
  minorVersion := 0
  majorVersion := 65
  constantPool := pool
  accessFlags := fl
  thisClass := this
  superClass := sup
  interfaces := ifs
  fields := fds
  methods := ms
  attributes := attrs
def plain (name : String) (sup : Option ClassId) : Class where
  name := name
  kind := .ordinary
  loader := none
  accessFlags := 33
  super := sup
  interfaces := #[]
  cf := none
  fields := #[]
  methods := #[]
  instanceTypes := #[]
  staticTypes := #[]
  resolved := #[]
  callSites := []
  init := .initialized
  statics := none
  mirror := none

def pool0 : Array CpInfo := pool [(5, u "<init>"), (0, u "()V"), (1, .class_ 10), (1, u "java/lang/Object")] 113

def k0m0 : Method := { name := "<init>", desc := "()V", sig := { parameters := [], returnType := none }, accessFlags := 1, code := none }
/-- java/lang/Object -/
def k0 : Class := { plain "java/lang/Object" none with
  accessFlags := 33
  interfaces := #[]
  cf := some (fileOf pool0 8 #[] #[{ accessFlags := 1, nameIndex := 5, descriptorIndex := 6, attributes := #[] }] 33 0 #[] #[])
  fields := #[]
  methods := #[k0m0]
  instanceTypes := #[]
  staticTypes := #[]
  resolved := Array.replicate 124 none
  statics := none }

def pool1 : Array CpInfo := pool [(2, .class_ 4), (1, u "java/lang/Object"), (0, u "<init>"), (0, u "()V"), (0, .integer 2147483647), (0, .methodref 9 10), (0, .class_ 11), (0, .nameAndType 12 13), (0, u "com/example/rulewright/rulewright/cli/EventLinesIsBlankPinLaw"), (0, u "pick"), (0, u "(I)B"), (0, .methodref 9 15), (0, .nameAndType 16 17), (0, u "ok"), (0, u "(B)Z"), (0, .methodref 19 20), (0, .class_ 21), (0, .nameAndType 22 23), (0, u "com/example/rulewright/rulewright/cli/EventLines"), (0, u "isBlank"), (0, u "([B)Z"), (3, u "law"), (0, u "(IIIII)Z")] 4

def k1m0 : Method := { name := "<init>", desc := "()V", sig := { parameters := [], returnType := none }, accessFlags := 1, code := none }
def k1c1 : Code := { maxStack := 2, maxLocals := 2, code := method_2_code, exceptionTable := #[], attributes := #[] }
def k1m1 : Method := { name := "pick", desc := "(I)B", sig := { parameters := [.int], returnType := some .byte }, accessFlags := 10, code := some k1c1 }
def k1c2 : Code := { maxStack := 2, maxLocals := 1, code := method_3_code, exceptionTable := #[], attributes := #[] }
def k1m2 : Method := { name := "ok", desc := "(B)Z", sig := { parameters := [.byte], returnType := some .boolean }, accessFlags := 10, code := some k1c2 }
def k1c3 : Code := { maxStack := 3, maxLocals := 12, code := code, exceptionTable := #[], attributes := #[] }
def k1m3 : Method := { name := "law", desc := "(IIIII)Z", sig := { parameters := [.int, .int, .int, .int, .int], returnType := some .boolean }, accessFlags := 9, code := some k1c3 }
/-- com/example/rulewright/rulewright/cli/EventLinesIsBlankPinLaw -/
def k1 : Class := { plain "com/example/rulewright/rulewright/cli/EventLinesIsBlankPinLaw" (some 0) with
  accessFlags := 49
  interfaces := #[]
  cf := some (fileOf pool1 9 #[] #[{ accessFlags := 1, nameIndex := 5, descriptorIndex := 6, attributes := #[] }, { accessFlags := 10, nameIndex := 12, descriptorIndex := 13, attributes := #[] }, { accessFlags := 10, nameIndex := 16, descriptorIndex := 17, attributes := #[] }, { accessFlags := 9, nameIndex := 27, descriptorIndex := 28, attributes := #[] }] 49 2 #[] #[])
  fields := #[]
  methods := #[k1m0, k1m1, k1m2, k1m3]
  instanceTypes := #[]
  staticTypes := #[]
  resolved := Array.replicate 33 none
  statics := none }

def pool2 : Array CpInfo := pool [(2, .class_ 4), (1, u "java/lang/Object"), (2, .class_ 8), (0, u "com/example/rulewright/rulewright/cli/EventLines"), (3, u "buffer"), (0, u "[B"), (2, u "in"), (0, u "Ljava/io/InputStream;"), (2, u "start"), (0, u "I"), (2, u "end"), (6, u "number"), (0, u "J"), (29, u "BUFFER_SIZE"), (4, u "isBlank"), (0, u "([B)Z")] 9

def k2c0 : Code := { maxStack := 2, maxLocals := 5, code := prog_16_method_2_code, exceptionTable := #[], attributes := #[] }
def k2m0 : Method := { name := "isBlank", desc := "([B)Z", sig := { parameters := [(.array .byte)], returnType := some .boolean }, accessFlags := 8, code := some k2c0 }
/-- com/example/rulewright/rulewright/cli/EventLines -/
def k2 : Class := { plain "com/example/rulewright/rulewright/cli/EventLines" (some 0) with
  accessFlags := 48
  interfaces := #[]
  cf := some (fileOf pool2 7 #[] #[{ accessFlags := 8, nameIndex := 67, descriptorIndex := 68, attributes := #[] }] 48 2 #[] #[{ accessFlags := 26, nameIndex := 62, descriptorIndex := 21, attributes := #[] }, { accessFlags := 18, nameIndex := 16, descriptorIndex := 17, attributes := #[] }, { accessFlags := 18, nameIndex := 12, descriptorIndex := 13, attributes := #[] }, { accessFlags := 2, nameIndex := 20, descriptorIndex := 21, attributes := #[] }, { accessFlags := 2, nameIndex := 24, descriptorIndex := 21, attributes := #[] }, { accessFlags := 2, nameIndex := 31, descriptorIndex := 32, attributes := #[] }])
  fields := #[{ name := "BUFFER_SIZE", type := .int, accessFlags := 26, slot := 0, constantValue := 0 }, { name := "in", type := (.object "java/io/InputStream"), accessFlags := 18, slot := 0, constantValue := 0 }, { name := "buffer", type := (.array .byte), accessFlags := 18, slot := 1, constantValue := 0 }, { name := "start", type := .int, accessFlags := 2, slot := 2, constantValue := 0 }, { name := "end", type := .int, accessFlags := 2, slot := 3, constantValue := 0 }, { name := "number", type := .long, accessFlags := 2, slot := 4, constantValue := 0 }]
  methods := #[k2m0]
  instanceTypes := #[(.object "java/io/InputStream"), (.array .byte), .int, .int, .long]
  staticTypes := #[.int]
  resolved := Array.replicate 78 none
  statics := none }

def pool3 : Array CpInfo := pool [(1, u "java/lang/Cloneable"), (0, .class_ 1), (0, u "java/lang/Object"), (0, .class_ 3)] 3

/-- java/lang/Cloneable -/
def k3 : Class := { plain "java/lang/Cloneable" (some 0) with
  accessFlags := 1537
  interfaces := #[]
  cf := some (fileOf pool3 2 #[] #[] 1537 4 #[] #[])
  fields := #[]
  methods := #[]
  instanceTypes := #[]
  staticTypes := #[]
  resolved := Array.replicate 8 none
  statics := none }

def pool4 : Array CpInfo := pool [(1, u "java/io/Serializable"), (0, .class_ 1), (0, u "java/lang/Object"), (0, .class_ 3)] 3

/-- java/io/Serializable -/
def k4 : Class := { plain "java/io/Serializable" (some 0) with
  accessFlags := 1537
  interfaces := #[]
  cf := some (fileOf pool4 2 #[] #[] 1537 4 #[] #[])
  fields := #[]
  methods := #[]
  instanceTypes := #[]
  staticTypes := #[]
  resolved := Array.replicate 8 none
  statics := none }

/-- the primitive byte -/
def k5 : Class := { plain "byte" none with kind := .primitive 'B', accessFlags := 0x411 }
/-- [B -/
def k6 : Class := { plain "[B" (some 0) with kind := .array 5 .byte, interfaces := #[3, 4], accessFlags := 1041 }

/-- the primitive int -/
def k7 : Class := { plain "int" none with kind := .primitive 'I', accessFlags := 0x411 }
/-- [I -/
def k8 : Class := { plain "[I" (some 0) with kind := .array 7 .int, interfaces := #[3, 4], accessFlags := 1041 }

def heap : Heap := #[]
def classes : Array Class := #[k0, k1, k2, k3, k4, k5, k6, k7, k8]
def interned : List (Array UInt16 × Addr) := []
def slotsUsed : Nat := 0
def theMethod : MethodId := ⟨1, 3⟩
def args0 : Array Value := #[.int 5, .int 7, .int 9, .int 1, .int 2]
def aboutOver (below : List Frame) : State where
  vm := { classes := classes, interned := interned.toArray }
  heap := heap
  slotsUsed := slotsUsed
  threads := #[{ frames := .invoking theMethod args0 :: below }]
def below0 : List Frame := [.native { method := ⟨0, 0⟩, args := #[] }]
def about1 : State := aboutOver below0
def p0 : Program := .bare "" "" ""
def e0 : Env := launch0.env 0 0 0
theorem w_frames : about1.frames = Frame.invoking theMethod args0 :: below0 := rfl
set_option maxRecDepth 65536 in
theorem w_args : argsFit about1.vm theMethod args0 = true := by decide +kernel
set_option maxRecDepth 65536 in
theorem w_heap : heapFits about1 = true := by decide +kernel
set_option maxRecDepth 65536 in
theorem w_runnable : about1.curStatus? = some .runnable := by decide +kernel
set_option maxRecDepth 65536 in
theorem w_alone : about1.alone = true := by decide +kernel
set_option maxRecDepth 65536 in
theorem w_named : about1.methodNamed? x = some theMethod := by decide +kernel
set_option maxRecDepth 65536 in
theorem w_hears : about1.hears theMethod below0 = true := by decide +kernel
set_option maxRecDepth 65536 in
theorem w_ripe : about1.ripe theMethod args0 below0 = true := by decide +kernel
theorem w_running : about1.status = .running := rfl
set_option maxRecDepth 65536 in
theorem w_room : about1.hasRoom e0.platform room_1 = true :=
  launch0.hasRoom_least _ room_1 (by decide +kernel) (by decide +kernel) (by decide +kernel) (by decide +kernel) (by decide +kernel) (by decide +kernel)
theorem allAtoms_all (ts : List Jvm.Cond) (a : Array Jvm.Value) (st : Jvm.State) : (allAtoms ts).before a st = ts.all (fun c => c.before a st) := by
  induction ts with
  | nil => rfl
  | cons c t ih =>
    show (Jvm.Cond.and c (allAtoms t)).before a st = _
    rw [Jvm.Cond.before_and, ih, List.all_cons]
def words1 : List Jvm.Cond := Jvm.Cond.code x code maxLocals ret :: tables_1
/-- a 'code' word, met by the world's own term for the bytes: nothing is compared byte by byte -/
theorem code_word {y : MethodName} {bytes : ByteArray} {mx : Nat} {rt : Option FieldType} {a : Array Value} {s : State} {m : MethodId} {meth : Method} {c : Code} (h1 : s.methodNamed? y = some m) (h2 : s.vm.method? m = some meth) (h3 : meth.code = some c) (h4 : c.code = bytes)
    (h5 : (c.maxLocals == mx && c.exceptionTable.isEmpty && decide (c.maxStack ≤ mostOperands) && decide (meth.sig.returnType = rt) && !meth.locks && decide (parseMethodDescriptor y.desc = some meth.sig)) = true) : (Jvm.Cond.code y bytes mx rt).before a s = true := by
  simp only [Bool.and_eq_true, beq_iff_eq, Bool.not_eq_true', decide_eq_true_eq] at h5
  obtain ⟨⟨⟨⟨⟨g1, g2⟩, g3⟩, g4⟩, g5⟩, g6⟩ := h5
  simp [Cond.before, Cond.holds, Cond.value, h1, h2, h3, h4, g1, g2, g3, g4, g5, g6]
def isCode : Jvm.Cond → Bool
  | .code _ _ _ _ => true
  | _ => false
theorem all_split {L : List Jvm.Cond} {P : Jvm.Cond → Bool} (h1 : L.all (fun c => isCode c || P c) = true) (h2 : ∀ c ∈ L.filter isCode, P c = true) : L.all P = true := by
  refine List.all_eq_true.mpr fun c hc => ?_
  have h := List.all_eq_true.mp h1 c hc
  rcases Bool.eq_false_or_eq_true (isCode c) with hi | hi
  · exact h2 c (List.mem_filter.mpr ⟨hc, hi⟩)
  · simpa [hi] using h
set_option maxRecDepth 65536 in
theorem w_c0 : (Jvm.Cond.code x code maxLocals ret).before args0 about1 = true := code_word (m := ⟨1, 3⟩) (meth := k1m3) (c := k1c3) (by decide +kernel) rfl rfl rfl (by decide +kernel)
set_option maxRecDepth 65536 in
theorem w_c1 : (Jvm.Cond.code ({ cls := "com/example/rulewright/rulewright/cli/EventLinesIsBlankPinLaw", name := "pick", desc := "(I)B" } : Jvm.MethodName) method_2_code (2 : Nat) (Option.some Jvm.ClassFile.FieldType.byte)).before args0 about1 = true := code_word (m := ⟨1, 1⟩) (meth := k1m1) (c := k1c1) (by decide +kernel) rfl rfl rfl (by decide +kernel)
set_option maxRecDepth 65536 in
theorem w_c2 : (Jvm.Cond.code ({ cls := "com/example/rulewright/rulewright/cli/EventLines", name := "isBlank", desc := "([B)Z" } : Jvm.MethodName) prog_16_method_2_code (5 : Nat) (Option.some Jvm.ClassFile.FieldType.boolean)).before args0 about1 = true := code_word (m := ⟨2, 0⟩) (meth := k2m0) (c := k2c0) (by decide +kernel) rfl rfl rfl (by decide +kernel)
set_option maxRecDepth 65536 in
theorem w_c3 : (Jvm.Cond.code ({ cls := "com/example/rulewright/rulewright/cli/EventLinesIsBlankPinLaw", name := "ok", desc := "(B)Z" } : Jvm.MethodName) method_3_code (1 : Nat) (Option.some Jvm.ClassFile.FieldType.boolean)).before args0 about1 = true := code_word (m := ⟨1, 2⟩) (meth := k1m2) (c := k1c2) (by decide +kernel) rfl rfl rfl (by decide +kernel)
def codes1 : List Jvm.Cond := [Jvm.Cond.code x code maxLocals ret, Jvm.Cond.code ({ cls := "com/example/rulewright/rulewright/cli/EventLinesIsBlankPinLaw", name := "pick", desc := "(I)B" } : Jvm.MethodName) method_2_code (2 : Nat) (Option.some Jvm.ClassFile.FieldType.byte), Jvm.Cond.code ({ cls := "com/example/rulewright/rulewright/cli/EventLines", name := "isBlank", desc := "([B)Z" } : Jvm.MethodName) prog_16_method_2_code (5 : Nat) (Option.some Jvm.ClassFile.FieldType.boolean), Jvm.Cond.code ({ cls := "com/example/rulewright/rulewright/cli/EventLinesIsBlankPinLaw", name := "ok", desc := "(B)Z" } : Jvm.MethodName) method_3_code (1 : Nat) (Option.some Jvm.ClassFile.FieldType.boolean)]
set_option maxRecDepth 65536 in
theorem codes_eq : words1.filter isCode = codes1 := rfl
theorem w_codes : ∀ c ∈ words1.filter isCode, c.before args0 about1 = true := by
  rw [codes_eq]
  intro c hc
  simp only [codes1, List.mem_cons, List.not_mem_nil, or_false] at hc
  rcases hc with rfl | rfl | rfl | rfl
  · exact w_c0
  · exact w_c1
  · exact w_c2
  · exact w_c3
set_option maxRecDepth 65536 in
theorem w_t1 : words1.all (fun c => isCode c || c.before args0 about1) = true := by decide +kernel
theorem w_tables : (allAtoms (Jvm.Cond.code x code maxLocals ret :: tables_1)).before args0 about1 = true := by
  rw [allAtoms_all]
  show words1.all (fun c => c.before args0 about1) = true
  refine all_split ?_ w_codes
  rw [w_t1]
set_option maxRecDepth 65536 in
theorem w_case : (Jvm.Cond.and given_1 narrow_1).before args0 about1 = true := by decide +kernel
theorem w_applies : (headSpec (Jvm.Cond.code x code maxLocals ret :: tables_1) room_1).applies x e0.platform about1 = true :=
  (Spec.applies_iff w_frames).mpr ⟨w_running, w_runnable, w_alone, w_named, w_hears, w_ripe, w_room, w_tables⟩
theorem atStart : AtStart classFile x code maxLocals ret World_1 tables_1 room_1 Calls_1 rest_1 Pre_1 launch0 p0 e0 about1 theMethod args0 below0 :=
  ⟨lists_1, trivial, launch0.admits_env _ _ _, launch0.least_env, fairChoices_fair.cas, fairChoices_fair.clock, w_frames, w_args, w_heap, w_applies, trivial, trivial, w_case⟩
end start1
theorem witness_1 : WitnessClaimed_1 := ⟨start1.p0, start1.e0, start1.about1, start1.theMethod, start1.args0, start1.below0, start1.atStart⟩
end Jvm.Pilot.@@N@@
